import JvmDerived
import JvmDerived.Pilot.@@N@@Statement
import JvmDerived.Pilot.@@N@@Code
set_option linter.unusedVariables false
set_option linter.unusedSimpArgs false
@@BLOCK:TracedD.lean.txt@@
namespace Jvm.Pilot.@@N@@
open Jvm Jvm.ClassFile Sem Op Lib Jvm.Free Jvm.Stand Jvm.LawKit Jvm.RoadKit Bundle Jvm.Pilot.@@N@@.Jvm.D
abbrev HW (a0 : Array Value) (Z : State) : Prop := ∀ d ∈ tables_1, d.before a0 Z = true
abbrev MF (l : Launch) (Z : State) (y : MethodName) (b : ByteArray) (ml : Nat) (rt : Option FieldType) (ws : List Jvm.Cond) (rm : Room) (A : Array Value) (h0 : Heap) (Q : Option Value → Heap → List Loc → Prop) : Prop := MetFree l y (head1 (Jvm.Cond.code y b ml rt :: ws) rm) (fun a U => a = A ∧ Z.Warmed39 U.vm ∧ U.heap = h0) (fun _ _ _ _ _ => True) (fun _ U o U' => ∃ v L, o = .returned v ∧ Q v U'.heap L ∧ FrameEnd U o U' L rm.cells rm.slots)
abbrev MK (l : Launch) (Z : State) (y : MethodName) (b : ByteArray) (ml : Nat) (rt : Option FieldType) (ws : List Jvm.Cond) (rm : Room) (A : Array Value) (h0 : Heap) (Q : Option Value → Heap → List Loc → Prop) : Prop := MetFree l y (head1 (Jvm.Cond.code y b ml rt :: ws) rm) (fun a U => a = A ∧ Z.Warmed39 U.vm ∧ U.heap = h0) (fun _ _ bl s _ => s.vm.MethodsKnown ∧ s.vm.FramesKnown bl) (fun _ U o U' => ∃ v L, o = .returned v ∧ Q v U'.heap L ∧ FrameEnd U o U' L rm.cells rm.slots)
/-- the end of a walk -/
theorem fin1 {p : Program} {l : Launch} {e : Env} {R : Room} {s : State} {m : MethodId} {args : Array Value} {bl : List Frame} {meth : Method} {c : Code} {T : State} {locs : List Loc} {cells slots : Nat} (X : Stand p l e R s m args bl meth c T locs cells slots) {v : Option Value} (hv : meth.sig.returnType = none → v = none) (hlk : meth.locks = false) {g : JFrame} {s1 : State} {C D : Nat} {Q : Option Value → Heap → List Loc → Prop} (hc : cells ≤ C) (hd : slots ≤ D) (hQ : Q v T.heap locs)
    (hs : ∀ fs, (∀ (f : JFrame) (acts : List Action), f.method = m → f.locked = none → f.entered = [] → (doReturn e (T.setTop f) acts v).1 = T.setFrames fs) → Steps p.tables e bl (s1.setTop g) (T.setFrames fs)) : ∃ s₂ o, Steps p.tables e bl (s1.setTop g) s₂ ∧ s₂.status = .running ∧ Ended s₂ bl o ∧ ∃ v L, o = .returned v ∧ Q v s₂.heap L ∧ FrameEnd s o s₂ L C D := by
  obtain ⟨fs, hr, hrun, hended, hW, hsame⟩ := X.leave hv hlk
  exact ⟨_, _, hs fs hr, hrun, hended, _, _, rfl, hQ, ⟨_, rfl⟩, hW, hsame.mono hc hd⟩
theorem wl {a b : Nat} (h : Nat.ble a b = true) : a ≤ b := Nat.le_of_ble_eq_true h
theorem mW (i : Nat) {d : Jvm.Cond} (h : tables_1[i]? = some d) : d ∈ tables_1 := List.mem_of_getElem? h
/-- from the frame g' at S' the run comes to the frame g at S -/
abbrev Go (p : Program) (e : Env) (below : List Frame) (S : State) (g : JFrame) (S' : State) (g' : JFrame) : Prop := ∀ t, Steps p.tables e below (S.setTop g) t → Steps p.tables e below (S'.setTop g') t

abbrev mN0 : MethodName := ⟨"java/lang/String", "coder", "()B"⟩
abbrev mN1 : MethodName := ⟨"java/lang/String", "length", "()I"⟩
abbrev mN2 : MethodName := ⟨"java/lang/String", "isLatin1", "()Z"⟩
abbrev mN3 : MethodName := ⟨"jdk/internal/util/Preconditions", "checkIndex", "(IILjava/util/function/BiFunction;)I"⟩
abbrev mN4 : MethodName := ⟨"java/lang/String", "checkIndex", "(II)V"⟩
abbrev mN5 : MethodName := ⟨"java/lang/StringLatin1", "charAt", "([BI)C"⟩
abbrev mN6 : MethodName := ⟨"java/lang/String", "charAt", "(I)C"⟩
abbrev mN7 : MethodName := ⟨"java/lang/AbstractStringBuilder", "<init>", "(I)V"⟩
abbrev mN8 : MethodName := ⟨"java/lang/StringBuilder", "<init>", "()V"⟩
abbrev mN9 : MethodName := ⟨"java/lang/AbstractStringBuilder", "ensureCapacityInternal", "(I)V"⟩
abbrev mN10 : MethodName := ⟨"java/lang/AbstractStringBuilder", "inflateIfNeededFor", "(Ljava/lang/String;)V"⟩
abbrev mN11 : MethodName := ⟨"java/lang/String", "getBytes", "([BIB)V"⟩
abbrev mN12 : MethodName := ⟨"java/lang/AbstractStringBuilder", "putStringAt", "(ILjava/lang/String;)V"⟩
abbrev mN13 : MethodName := ⟨"java/lang/AbstractStringBuilder", "append", "(Ljava/lang/String;)Ljava/lang/AbstractStringBuilder;"⟩
abbrev mN14 : MethodName := ⟨"java/lang/StringBuilder", "append", "(Ljava/lang/String;)Ljava/lang/StringBuilder;"⟩
abbrev mN15 : MethodName := ⟨"java/lang/AbstractStringBuilder", "length", "()I"⟩
abbrev mN16 : MethodName := ⟨"java/lang/AbstractStringBuilder", "getValue", "()[B"⟩
abbrev mN17 : MethodName := ⟨"java/lang/AbstractStringBuilder", "isLatin1", "()Z"⟩
abbrev mN18 : MethodName := ⟨"java/lang/StringBuilder", "length", "()I"⟩
abbrev mN19 : MethodName := ⟨"java/lang/Math", "min", "(II)I"⟩
abbrev mN20 : MethodName := ⟨"java/util/Arrays", "checkLength", "(II)V"⟩
abbrev mN21 : MethodName := ⟨"java/util/Arrays", "copyOfRangeByte", "([BII)[B"⟩
abbrev mN22 : MethodName := ⟨"java/util/Arrays", "copyOfRange", "([BII)[B"⟩
abbrev mN23 : MethodName := ⟨"java/lang/String", "<init>", "(Ljava/lang/AbstractStringBuilder;Ljava/lang/Void;)V"⟩
abbrev mN24 : MethodName := ⟨"java/lang/String", "<init>", "(Ljava/lang/StringBuilder;)V"⟩
abbrev mN25 : MethodName := ⟨"java/lang/StringBuilder", "toString", "()Ljava/lang/String;"⟩
abbrev mN26 : MethodName := ⟨"java/lang/StringUTF16", "compress", "([CI[BII)I"⟩
abbrev mN27 : MethodName := ⟨"java/lang/StringUTF16", "compress", "([CII)[B"⟩
abbrev mN28 : MethodName := ⟨"java/lang/StringUTF16", "coderFromArrayLen", "([BI)B"⟩
abbrev mN29 : MethodName := ⟨"java/lang/String", "<init>", "([CIILjava/lang/Void;)V"⟩
abbrev mN30 : MethodName := ⟨"java/lang/String", "<init>", "([C)V"⟩
abbrev mN31 : MethodName := ⟨"com/example/picketline/picketline/io/InputExceptionWithinPinLaw", "mk", "(II)Ljava/lang/String;"⟩
abbrev mN32 : MethodName := ⟨"java/lang/Throwable", "<init>", "(Ljava/lang/String;)V"⟩
abbrev mN33 : MethodName := ⟨"java/lang/Exception", "<init>", "(Ljava/lang/String;)V"⟩
abbrev mN34 : MethodName := ⟨"com/example/picketline/picketline/io/InputException", "<init>", "(Ljava/lang/String;Ljava/lang/String;)V"⟩
abbrev mN35 : MethodName := ⟨"com/example/picketline/picketline/io/InputException", "within", "(Ljava/lang/String;)Lcom/example/picketline/picketline/io/InputException;"⟩
abbrev mN36 : MethodName := ⟨"java/lang/Throwable", "getMessage", "()Ljava/lang/String;"⟩
abbrev mN37 : MethodName := ⟨"com/example/picketline/picketline/io/InputExceptionWithinPinLaw", "at", "(Ljava/lang/String;ILjava/lang/String;)Z"⟩
abbrev mN38 : MethodName := ⟨"com/example/picketline/picketline/io/InputException", "getMessage", "()Ljava/lang/String;"⟩
theorem mg {α : Type} {l : List α} {a : α} (i : Nat) (h : l[i]? = some a) : a ∈ l := List.mem_of_getElem? h
theorem hp {Z T : State} {h : Heap} {a : Addr} {c : Cell} {ty : FieldType} (e : T.heap = h) (A : Arr Z h a c ty) : T.heap[a]? = some c := by rw [e]; exact A.1
theorem own_fld {args : Array Value} {s : State} {t : Term} {x : Addr} {C n d : String} {k : Int32} (ht : t.eval args s none [] s = some (.ref x)) (h : (Jvm.Cond.eq (.field t C n d) (.int k)).value args s none s [] = some true) : Fld s s.heap x C n d (.int k) := by
  obtain ⟨y, z, h1, h2, h3, -⟩ := cmp_v (Or.inl h)
  have h2' : z = .int k := by simpa [Term.eval] using h2.symm
  subst h2'
  obtain ⟨u, rfl⟩ : ∃ u, y = .int u := by cases y <;> simp [Kin, Value.isRef] at h3 ⊢
  have h4 : u = k := by simpa [Jvm.Cond.value, h1, h2] using h
  subst h4
  exact Fld.start ((fld_at ht).symm.trans h1)

theorem own_fitc {c : Int32} (h : nar .char c = c) : fits .char (.int c) = true := by have q := fits_nar_char c; rwa [h] at q
theorem own_i2b2 (x : Int32) : nar .byte x.toInt8.toInt32 = x.toInt8.toInt32 := by
  show x.toInt8.toInt32.toInt8.toInt32 = x.toInt8.toInt32
  rw [Int8.toInt8_toInt32]
theorem own_nc {c : Int32} (h1 : 0 ≤ c.toInt) (h2 : c.toInt < 65536) : nar .char c = c := by
  show c.toUInt32.toUInt16.toUInt32.toInt32 = c
  have q := c_i2c c
  rw [← Int32.toInt_inj]; omega
/-- the chars that a String spells: one byte each, or two -/
def LatV (cs : List Int32) : List Value := cs.map fun c => .int c.toInt8.toInt32
def lo8 (c : Int32) : Int32 := (c >>> ((0 : Int32) &&& 31)).toInt8.toInt32
def hi8 (c : Int32) : Int32 := (c >>> ((8 : Int32) &&& 31)).toInt8.toInt32
def WidV : List Int32 → List Value
  | [] => []
  | c :: cs => .int (lo8 c) :: .int (hi8 c) :: WidV cs
def Str (Z : State) (h : Heap) (a : Addr) (cs : List Int32) : Prop := ∃ (cd : Int32) (b : Addr) (k : ClassId) (z : Int32) (vs : List Value), Exa Z h a "java/lang/String" ∧ Fld Z h a "java/lang/String" "coder" "B" (.int cd) ∧ Fld Z h a "java/lang/String" "value" "[B" (.ref b) ∧ Arv Z h b k .byte z vs (.int 0) ∧ cs.length ≤ 4000 ∧
  ((cd = 0 ∧ z.toInt = cs.length ∧ vs = LatV cs ∧ ∀ c ∈ cs, 0 ≤ c.toInt ∧ c.toInt < 256) ∨ (cd = 1 ∧ z.toInt = 2 * cs.length ∧ vs = WidV cs ∧ ∀ c ∈ cs, 0 ≤ c.toInt ∧ c.toInt < 65536))
theorem Str.exa {Z : State} {h : Heap} {a : Addr} {cs : List Int32} (S : Str Z h a cs) : Exa Z h a "java/lang/String" := by obtain ⟨_, _, _, _, _, E, -⟩ := S; exact E
theorem own_lat {c : Int32} (h1 : 0 ≤ c.toInt) (h2 : c.toInt < 256) : c.toInt8.toInt32 &&& 255 = c := by
  have q := c_mask c.toInt8.toInt32 255 8 (by decide) (by decide)
  have q2 := c_i2b c
  rw [← Int32.toInt_inj, q]
  have e : ((2 ^ 8 : Nat) : Int) = 256 := by decide
  rw [e]; omega
theorem own_lat_at {cs : List Int32} {i : Nat} {c : Int32} (h : cs[i]? = some c) : (LatV cs).getD i (.int 0) = .int c.toInt8.toInt32 := by
  simp [LatV, List.getD, h]
theorem own_wid_at : ∀ {cs : List Int32} {i : Nat} {c : Int32}, cs[i]? = some c → (WidV cs).getD (2 * i) (.int 0) = .int (lo8 c) ∧ (WidV cs).getD (2 * i + 1) (.int 0) = .int (hi8 c)
  | [], i, c, h => by simp at h
  | x :: xs, 0, c, h => by simp at h; subst h; exact ⟨rfl, rfl⟩
  | x :: xs, i + 1, c, h => by
    have q := own_wid_at (cs := xs) (i := i) (c := c) (by simpa using h)
    have e1 : 2 * (i + 1) = 2 * i + 1 + 1 := by omega
    have e2 : 2 * (i + 1) + 1 = 2 * i + 1 + 1 + 1 := by omega
    rw [e1]
    exact q
theorem own_get {c : Int32} (h1 : 0 ≤ c.toInt) (h2 : c.toInt < 65536) : ((((lo8 c &&& 255) <<< ((0 : Int32) &&& 31)) ||| ((hi8 c &&& 255) <<< ((8 : Int32) &&& 31))).toUInt32.toUInt16.toUInt32.toInt32) = c := by
  have a0 := c_ishr c 0 0 (by decide)
  have a8 := c_ishr c 8 8 (by decide)
  have b0 := c_mask (lo8 c) 255 8 (by decide) (by decide)
  have b8 := c_mask (hi8 c) 255 8 (by decide) (by decide)
  have d0 := c_i2b (c >>> ((0 : Int32) &&& 31))
  have d8 := c_i2b (c >>> ((8 : Int32) &&& 31))
  have e0 := c_ishl (lo8 c &&& 255) 0 0 (by decide)
  have e8 := c_ishl (hi8 c &&& 255) 8 8 (by decide)
  have w0 := rng32 ((lo8 c &&& 255) <<< ((0 : Int32) &&& 31))
  have w8 := rng32 ((hi8 c &&& 255) <<< ((8 : Int32) &&& 31))
  have p0 : ((2 ^ 0 : Nat) : Int) = 1 := by decide
  have p8 : ((2 ^ 8 : Nat) : Int) = 256 := by decide
  rw [p0] at a0 e0
  rw [p8] at a8 b0 b8 e8
  have f : (lo8 c) = (c >>> ((0 : Int32) &&& 31)).toInt8.toInt32 := rfl
  have g : (hi8 c) = (c >>> ((8 : Int32) &&& 31)).toInt8.toInt32 := rfl
  rw [← f] at d0
  rw [← g] at d8
  have o := c_or' ((lo8 c &&& 255) <<< ((0 : Int32) &&& 31)) ((hi8 c &&& 255) <<< ((8 : Int32) &&& 31)) 8 (by decide) 256 (by decide) (by omega) (by omega) (by omega)
  have w := rng32 (((lo8 c &&& 255) <<< ((0 : Int32) &&& 31)) ||| ((hi8 c &&& 255) <<< ((8 : Int32) &&& 31)))
  generalize (((lo8 c &&& 255) <<< ((0 : Int32) &&& 31)) ||| ((hi8 c &&& 255) <<< ((8 : Int32) &&& 31))) = x at o w ⊢
  have q := c_i2c x
  rw [← Int32.toInt_inj]; omega

theorem mJ (i : Nat) {d : Jvm.Cond} (h : jdkStatics_1[i]? = some d) : d ∈ jdkStatics_1 := List.mem_of_getElem? h
def Jd (Z : State) (cz : Int32) (fv : Value) : Prop := Sta Z Z.heap "java/lang/String" "COMPACT_STRINGS" "Z" (.int cz) ∧ cz ≠ 0 ∧ (fv.isRef = true ∧ Sta Z Z.heap "jdk/internal/util/Preconditions" "SIOOBE_FORMATTER" "Ljava/util/function/BiFunction;" fv) ∧ True
def QP (r : Int32) (h0 : Heap) (n0 : Nat) (v : Option Value) (h : Heap) (L : List Loc) : Prop := v = some (.int r) ∧ Fr n0 L ∧ h = h0
def BV (bs : List Int32) : List Value := bs.map .int
def StL (Z : State) (h : Heap) (a b : Addr) (k : ClassId) (n : Int32) (bs : List Int32) (hs hz : Int32) : Prop := Exa Z h a "java/lang/String" ∧ Fld Z h a "java/lang/String" "coder" "B" (.int 0) ∧ Fld Z h a "java/lang/String" "value" "[B" (.ref b) ∧ Arv Z h b k .byte n (BV bs) (.int 0) ∧ True ∧ a ≠ b
theorem StL.ext {Z : State} {h h' : Heap} {a b : Addr} {k : ClassId} {n : Int32} {bs : List Int32} {hs hz : Int32} (S : StL Z h a b k n bs hs hz) (E : Ext h h') : StL Z h' a b k n bs hs hz := ⟨S.1.ext E, S.2.1.ext E, S.2.2.1.ext E, S.2.2.2.1.ext E, S.2.2.2.2.1, S.2.2.2.2.2⟩
theorem StL.keep {Z : State} {h h' : Heap} {a b : Addr} {k : ClassId} {n : Int32} {bs : List Int32} {hs hz : Int32} {ws : List Addr} (S : StL Z h a b k n bs hs hz) (K : Keep h h' ws) (ha : a ∉ ws) (hb : b ∉ ws) : StL Z h' a b k n bs hs hz := ⟨S.1.keep K, S.2.1.keep K ha, S.2.2.1.keep K ha, S.2.2.2.1.keep K hb, S.2.2.2.2.1, S.2.2.2.2.2⟩
theorem own_sa : ∀ w ∈ Bundle.stringAtoms, w ∈ tables_1 := by decide +kernel
theorem own_wS {Z : State} {a0 : Array Value} (hw : ∀ d ∈ tables_1, d.before a0 Z = true) : ∀ a ∈ Bundle.stringAtoms, a.before a0 Z = true := fun a ha => hw a (own_sa a ha)
theorem own_EW {Z : State} {a0 : Array Value} (hw : ∀ d ∈ tables_1, d.before a0 Z = true) : EW Z a0 [("com/example/picketline/picketline/io/InputException", 29), ("java/lang/String", 7)] := (EW.cons (hw _ (mW 211 rfl)) (by decide +kernel) (EW.cons (hw _ (mW 34 rfl)) (by decide +kernel) EW.nil))
abbrev rKJco : Room := { frames := 0, cells := 0, slots := 0, locals := 0 }
theorem d0_0 : decode jdk_42_method_152_code 0 = .ok (.getstatic 38, 3) := by decide +kernel
theorem d0_3 : decode jdk_42_method_152_code 3 = .ok (.ifCond .eq 10, 3) := by decide +kernel
theorem d0_6 : decode jdk_42_method_152_code 6 = .ok (.aload_n 0, 1) := by decide +kernel
theorem d0_7 : decode jdk_42_method_152_code 7 = .ok (.getfield 15, 3) := by decide +kernel
theorem d0_10 : decode jdk_42_method_152_code 10 = .ok (.goto 4, 3) := by decide +kernel
theorem d0_14 : decode jdk_42_method_152_code 14 = .ok (.ireturn, 1) := by decide +kernel
theorem pn0 : plainName "java/lang/String" = true := by first | (simp [plainName, overriddenIn]; done) | decide +kernel
theorem efJco (m : MethodId) (a1 : Addr) : entryFrame m #[(.ref a1)] 1 = mkF m 0 #[rv a1] [] := by first | (simp [entryFrame, mkF, argsToLocals, Value.category]; done) | rfl
def QJco (Z : State) (a1 : Addr) (cz : Int32) (fv : Value) (cd : Int32) (r : Int32) (h0 : Heap) (n0 : Nat) (v : Option Value) (h : Heap) (L : List Loc) : Prop := v = some (.int r) ∧ Fr n0 L ∧ h = h0
set_option maxRecDepth 65536 in
set_option maxHeartbeats 40000000 in
theorem rmJco (l : Launch) (Z : State) (a0 : Array Value) (hw : HW a0 Z) (ws : List Jvm.Cond) (a1 : Addr) (cz : Int32) (fv : Value) (cd : Int32) (r : Int32) (h0 : Heap) (n0 : Nat) (Z0 : n0 ≤ h0.size) (O0 : Old Z n0 h0) (J0 : Jd Z cz fv) (FC : Fld Z h0 a1 "java/lang/String" "coder" "B" (.int cd)) (hcd : nar .byte cd = cd) (hR : cd = r) :
    MF l Z mN0 jdk_42_method_152_code 1 (some .byte) ws rKJco #[(.ref a1)] h0 (QJco Z a1 cz fv cd r h0 n0) := by
  refine MetFree.of_bodySF (plainFor_of_name pn0) hisR ?_
  intro p e s m args bl meth c s1 Bd hml0 hP hK
  obtain ⟨rfl, hZ, hh⟩ := hP
  have hx := Bd.exec
  have hby := Bd.bytes
  have B := @hb c _ hby
  have hown : s.vm.findClass "java/lang/String" = some m.cls := findClass_of_methodNamed Bd.named
  have hlk : meth.locks = false := BodyLoose.notSynchronized Bd
  have hrt : ∀ {v : Option Value}, meth.sig.returnType = none → v = none := fun h => by rw [Bd.returns] at h; cases h
  have X0 : Stand p l e rKJco s m #[(.ref a1)] bl meth c s1 [] 0 0 := Stand.of_body Bd
  have e0 : s1.heap = h0 := by rw [← hh, Bd.state]; rfl
  have N0 := Fr.nil n0
  obtain ⟨EF, hEF⟩ : ∃ f, f = entryFrame m #[(.ref a1)] 1 := ⟨_, rfl⟩
  have pre0 : Go p e bl s1 (mkF m 0 #[rv a1] []) s1 EF := fun t k => by rw [hEF]; exact castTop (efJco m a1) k
  obtain ⟨T1, X1, e1, st1⟩ := getS2 X0 hx hZ hown (host := "") (Or.inl (hw _ (mW 18 rfl))) Via.refl e0 (J0.1.ext O0.2) (g := (mkF m 0 #[rv a1] [])) rfl (B d0_0)
  have pre2 : Go p e bl T1 (mkF m 3 #[rv a1] [(.int cz)]) s1 EF := fun t k => pre0 t (st1 t k)
  have pre3 : Go p e bl T1 (mkF m 6 #[rv a1] []) s1 EF := fun t k => pre2 t (XS.ifNo X1.here hx rfl (B d0_3) rfl ((if0 _ _).trans (feq J0.2.1).1) k)
  have pre4 : Go p e bl T1 (mkF m 7 #[rv a1] [(.ref a1)]) s1 EF := fun t k => pre3 t (by
   exact XS.aloadN X1.here hx rfl (B d0_6) rfl rfl k)
  obtain ⟨T5, X5, e5, st5⟩ := getF X1 hx hZ hown (host := "") (Or.inl (hw _ (mW 30 rfl))) Via.refl e1 FC (g := (mkF m 7 #[rv a1] [(.ref a1)])) rfl rfl (B d0_7)
  have pre6 : Go p e bl T5 (mkF m 10 #[rv a1] [(.int cd)]) s1 EF := fun t k => pre4 t (st5 t k)
  have pre7 : Go p e bl T5 (mkF m 14 #[rv a1] [(.int cd)]) s1 EF := fun t k => pre6 t (by
   exact XS.goto X5.here hx rfl (pc0 := 10) (pc' := 14) rfl (B d0_10) (by decide) (by decide) k)
  have hnr : Value.int (nar .byte cd) = (.int cd) := by rw [hcd]
  exact fin1 X5 (v := some (.int cd)) hrt hlk (wl rfl) (wl rfl) (by rw [e5]; exact ⟨by rw [hR], N0, rfl⟩) (fun fs hr => hEF ▸ pre7 _ (retN X5 hx (t := .byte) Bd.returns (by simp) (B d0_14) (hnr ▸ hr)))
abbrev rKJle : Room := { frames := 1, cells := 0, slots := 0, locals := 13 }
theorem d1_0 : decode jdk_42_method_54_code 0 = .ok (.aload_n 0, 1) := by decide +kernel
theorem d1_1 : decode jdk_42_method_54_code 1 = .ok (.getfield 9, 3) := by decide +kernel
theorem d1_4 : decode jdk_42_method_54_code 4 = .ok (.arraylength, 1) := by decide +kernel
theorem d1_5 : decode jdk_42_method_54_code 5 = .ok (.aload_n 0, 1) := by decide +kernel
theorem d1_6 : decode jdk_42_method_54_code 6 = .ok (.invokevirtual 335, 3) := by decide +kernel
theorem d1_9 : decode jdk_42_method_54_code 9 = .ok (.ishr, 1) := by decide +kernel
theorem d1_10 : decode jdk_42_method_54_code 10 = .ok (.ireturn, 1) := by decide +kernel
theorem pd0 : parseMethodDescriptor "()B" = some ⟨[], some .byte⟩ := by decide +kernel
theorem efJle (m : MethodId) (a1 : Addr) : entryFrame m #[(.ref a1)] 1 = mkF m 0 #[rv a1] [] := by first | (simp [entryFrame, mkF, argsToLocals, Value.category]; done) | rfl
def QJle (Z : State) (a1 : Addr) (cz : Int32) (fv : Value) (cd : Int32) (b : Addr) (k : ClassId) (z : Int32) (vs : List Value) (r : Int32) (h0 : Heap) (n0 : Nat) (v : Option Value) (h : Heap) (L : List Loc) : Prop := v = some (.int r) ∧ Fr n0 L ∧ h = h0
set_option maxRecDepth 65536 in
set_option maxHeartbeats 40000000 in
theorem rmJle (l : Launch) (Z : State) (a0 : Array Value) (hw : HW a0 Z) (ws : List Jvm.Cond) (a1 : Addr) (cz : Int32) (fv : Value) (cd : Int32) (b : Addr) (k : ClassId) (z : Int32) (vs : List Value) (r : Int32) (h0 : Heap) (n0 : Nat) (Z0 : n0 ≤ h0.size) (O0 : Old Z n0 h0) (J0 : Jd Z cz fv) (E1 : Exa Z h0 a1 "java/lang/String") (FC : Fld Z h0 a1 "java/lang/String" "coder" "B" (.int cd)) (FV : Fld Z h0 a1 "java/lang/String" "value" "[B" (.ref b)) (VV : Arv Z h0 b k .byte z vs (.int 0)) (hcd : nar .byte cd = cd) (hR : z >>> (cd &&& 31) = r) :
    MF l Z mN1 jdk_42_method_54_code 1 (some .int) ws rKJle #[(.ref a1)] h0 (QJle Z a1 cz fv cd b k z vs r h0 n0) := by
  refine MetFree.of_bodySF (plainFor_of_name pn0) hisR ?_
  intro p e s m args bl meth c s1 Bd hml0 hP hK
  obtain ⟨rfl, hZ, hh⟩ := hP
  have hx := Bd.exec
  have hby := Bd.bytes
  have B := @hb c _ hby
  have hM := fun {n : Nat} (h : n = 1) => h.trans hml0.symm
  have hown : s.vm.findClass "java/lang/String" = some m.cls := findClass_of_methodNamed Bd.named
  have hlk : meth.locks = false := BodyLoose.notSynchronized Bd
  have hrt : ∀ {v : Option Value}, meth.sig.returnType = none → v = none := fun h => by rw [Bd.returns] at h; cases h
  have X0 : Stand p l e rKJle s m #[(.ref a1)] bl meth c s1 [] 0 0 := Stand.of_body Bd
  have e0 : s1.heap = h0 := by rw [← hh, Bd.state]; rfl
  have N0 := Fr.nil n0
  obtain ⟨EF, hEF⟩ : ∃ f, f = entryFrame m #[(.ref a1)] 1 := ⟨_, rfl⟩
  have pre0 : Go p e bl s1 (mkF m 0 #[rv a1] []) s1 EF := fun t k => by rw [hEF]; exact castTop (efJle m a1) k
  have pre1 : Go p e bl s1 (mkF m 1 #[rv a1] [(.ref a1)]) s1 EF := fun t k => pre0 t (by
   exact XS.aloadN X0.here hx rfl (B d1_0) rfl rfl k)
  obtain ⟨T2, X2, e2, st2⟩ := getF X0 hx hZ hown (host := "") (Or.inl (hw _ (mW 32 rfl))) Via.refl e0 FV (g := (mkF m 1 #[rv a1] [(.ref a1)])) rfl rfl (B d1_1)
  have pre3 : Go p e bl T2 (mkF m 4 #[rv a1] [(.ref b)]) s1 EF := fun t k => pre1 t (st2 t k)
  obtain ⟨cl4, Ar4, q4, Sz4, M4, H4, G4⟩ := id VV
  have pre5 : Go p e bl T2 (mkF m 6 #[rv a1] [(.ref a1), (.int z)]) s1 EF := fun t k => pre3 t (by
   refine X2.arraylength hx (hp e2 Ar4) (State.isArrayOf_alike hZ.alike Ar4.2.1) (g := (mkF m 4 #[rv a1] [(.ref b)])) rfl rfl (B d1_4) _ ?_
   rw [len_of Sz4 M4]
   exact XS.aloadN X2.here hx rfl (B d1_5) rfl rfl k)
  obtain ⟨cq6, kq6, q6a, q6b, q6c⟩ := isOf hZ e2 E1
  obtain ⟨_, _, ⟨T6, L6, k6, n6⟩, -, X6, ⟨Lc6, hQ6, l6, y6, z6⟩, st6⟩ := X2.virtualBack hx (y := mN0) (z := mN0) hown (mvT hZ (hw _ (mW 76 rfl))) (mvT hZ (hw _ (mW 77 rfl))) (notFace_of_selects (args := #[]) (mvT hZ (hw _ (mW 79 rfl)))) (mvT hZ (hw _ (mW 79 rfl))) (mvT hZ (hw _ (mW 78 rfl))) (by decide) (backOf (W := 1) (rmJco l Z a0 hw [] a1 cz fv cd cd h0 n0 Z0 O0 J0 FC hcd rfl) hZ (hw _ (mW 80 rfl)) (hw _ (mW 6 rfl)) (by decide) (by decide)) q6a q6c (g := (mkF m 6 #[rv a1] [(.ref a1), (.int z)])) rfl (hM rfl) (Steps.refl _) (argsL := []) (rest := [(.int z)]) (lenOf pd0 rfl) rfl (Nat.le_of_eq rfl) (B d1_6) (fun _ _ => ⟨rfl, e2, wl rfl, wl rfl⟩)
  dsimp only [Pt.U, Pt.locs, Pt.cells, Pt.slots] at X6 l6 y6 z6 st6 hQ6
  subst l6 y6 z6
  obtain ⟨rfl, N6q, hq6⟩ := hQ6
  have N6 := Fr.app N0 N6q
  have pre7 : Go p e bl T6 (mkF m 9 #[rv a1] [(.int cd), (.int z)]) s1 EF := fun t k => pre5 t (st6.trans k)
  have e6 : T6.heap = h0 := hq6
  have pre8 : Go p e bl T6 (mkF m 10 #[rv a1] [(.int (z >>> (cd &&& 31)))]) s1 EF := fun t k => pre7 t (by
   exact XS.ishr X6.here hx rfl (B d1_9) rfl k)
  exact fin1 X6 (v := some (.int (z >>> (cd &&& 31)))) hrt hlk (wl rfl) (wl rfl) (by rw [e6]; exact ⟨by rw [hR], N6, rfl⟩) (fun fs hr => hEF ▸ pre8 _ (retOut X6 hx Bd.returns rfl (Or.inl ⟨rfl, Or.inl rfl, _, rfl⟩) (B d1_10) hr))
def QJL (n : Int32) (h0 : Heap) (n0 : Nat) (v : Option Value) (h : Heap) (L : List Loc) : Prop := v = some (.int n) ∧ Fr n0 L ∧ h = h0
theorem own_shr {z : Int32} {n : Int32} (h : z.toInt = 2 * n.toInt) : z >>> ((1 : Int32) &&& 31) = n := by
  have q := c_ishr z 1 1 (by decide)
  have p : ((2 ^ 1 : Nat) : Int) = 2 := by decide
  rw [p] at q; rw [← Int32.toInt_inj, q]; omega
theorem own_shr0 {z : Int32} {n : Int32} (h : z.toInt = n.toInt) : z >>> ((0 : Int32) &&& 31) = n := by
  have q := c_ishr z 0 0 (by decide)
  have p : ((2 ^ 0 : Nat) : Int) = 1 := by decide
  rw [p] at q; rw [← Int32.toInt_inj, q]; omega
theorem rmJL (l : Launch) (Z : State) (a0 : Array Value) (hw : HW a0 Z) (ws : List Jvm.Cond) (a1 : Addr) (cz : Int32) (fv : Value) (cs : List Int32) (n : Int32) (h0 : Heap) (n0 : Nat) (Z0 : n0 ≤ h0.size) (O0 : Old Z n0 h0) (J0 : Jd Z cz fv) (S : Str Z h0 a1 cs) (hn : n.toInt = cs.length) :
    MetFree l mN1 (head1 (Jvm.Cond.code mN1 jdk_42_method_54_code 1 (some .int) :: ws) rKJle) (fun a U => a = #[(.ref a1)] ∧ Z.Warmed39 U.vm ∧ U.heap = h0) (fun _ _ _ _ _ => True) (fun _ U o U' => ∃ v L, o = .returned v ∧ QJL n h0 n0 v U'.heap L ∧ FrameEnd U o U' L rKJle.cells rKJle.slots) := by
  obtain ⟨cd, b, k, z, vs, E, FC, FV, VV, hb, h⟩ := S
  rcases h with ⟨rfl, hz, -, -⟩ | ⟨rfl, hz, -, -⟩
  · exact rmJle l Z a0 hw ws a1 cz fv 0 b k z vs n h0 n0 Z0 O0 J0 E FC FV VV rfl (own_shr0 (by omega))
  · exact rmJle l Z a0 hw ws a1 cz fv 1 b k z vs n h0 n0 Z0 O0 J0 E FC FV VV rfl (own_shr (by omega))
abbrev rKJil : Room := { frames := 0, cells := 0, slots := 0, locals := 0 }
theorem d2_0 : decode jdk_42_method_154_code 0 = .ok (.getstatic 38, 3) := by decide +kernel
theorem d2_3 : decode jdk_42_method_154_code 3 = .ok (.ifCond .eq 14, 3) := by decide +kernel
theorem d2_6 : decode jdk_42_method_154_code 6 = .ok (.aload_n 0, 1) := by decide +kernel
theorem d2_7 : decode jdk_42_method_154_code 7 = .ok (.getfield 15, 3) := by decide +kernel
theorem d2_10 : decode jdk_42_method_154_code 10 = .ok (.ifCond .ne 7, 3) := by decide +kernel
theorem d2_13 : decode jdk_42_method_154_code 13 = .ok (.iconst 1, 1) := by decide +kernel
theorem d2_14 : decode jdk_42_method_154_code 14 = .ok (.goto 4, 3) := by decide +kernel
theorem d2_17 : decode jdk_42_method_154_code 17 = .ok (.iconst 0, 1) := by decide +kernel
theorem d2_18 : decode jdk_42_method_154_code 18 = .ok (.ireturn, 1) := by decide +kernel
theorem efJil (m : MethodId) (a1 : Addr) : entryFrame m #[(.ref a1)] 1 = mkF m 0 #[rv a1] [] := by first | (simp [entryFrame, mkF, argsToLocals, Value.category]; done) | rfl
def QJil (Z : State) (a1 : Addr) (cz : Int32) (fv : Value) (cd : Int32) (r : Int32) (h0 : Heap) (n0 : Nat) (v : Option Value) (h : Heap) (L : List Loc) : Prop := v = some (.int r) ∧ Fr n0 L ∧ h = h0
set_option maxRecDepth 65536 in
set_option maxHeartbeats 40000000 in
theorem rmJil (l : Launch) (Z : State) (a0 : Array Value) (hw : HW a0 Z) (ws : List Jvm.Cond) (a1 : Addr) (cz : Int32) (fv : Value) (cd : Int32) (r : Int32) (h0 : Heap) (n0 : Nat) (Z0 : n0 ≤ h0.size) (O0 : Old Z n0 h0) (J0 : Jd Z cz fv) (FC : Fld Z h0 a1 "java/lang/String" "coder" "B" (.int cd)) (hR : (if cd = 0 then 1 else 0) = r) :
    MF l Z mN2 jdk_42_method_154_code 1 (some .boolean) ws rKJil #[(.ref a1)] h0 (QJil Z a1 cz fv cd r h0 n0) := by
  refine MetFree.of_bodySF (plainFor_of_name pn0) hisR ?_
  intro p e s m args bl meth c s1 Bd hml0 hP hK
  obtain ⟨rfl, hZ, hh⟩ := hP
  have hx := Bd.exec
  have hby := Bd.bytes
  have B := @hb c _ hby
  have hown : s.vm.findClass "java/lang/String" = some m.cls := findClass_of_methodNamed Bd.named
  have hlk : meth.locks = false := BodyLoose.notSynchronized Bd
  have hrt : ∀ {v : Option Value}, meth.sig.returnType = none → v = none := fun h => by rw [Bd.returns] at h; cases h
  have X0 : Stand p l e rKJil s m #[(.ref a1)] bl meth c s1 [] 0 0 := Stand.of_body Bd
  have e0 : s1.heap = h0 := by rw [← hh, Bd.state]; rfl
  have N0 := Fr.nil n0
  obtain ⟨EF, hEF⟩ : ∃ f, f = entryFrame m #[(.ref a1)] 1 := ⟨_, rfl⟩
  have pre0 : Go p e bl s1 (mkF m 0 #[rv a1] []) s1 EF := fun t k => by rw [hEF]; exact castTop (efJil m a1) k
  obtain ⟨T1, X1, e1, st1⟩ := getS2 X0 hx hZ hown (host := "") (Or.inl (hw _ (mW 18 rfl))) Via.refl e0 (J0.1.ext O0.2) (g := (mkF m 0 #[rv a1] [])) rfl (B d2_0)
  have pre2 : Go p e bl T1 (mkF m 3 #[rv a1] [(.int cz)]) s1 EF := fun t k => pre0 t (st1 t k)
  have pre3 : Go p e bl T1 (mkF m 6 #[rv a1] []) s1 EF := fun t k => pre2 t (XS.ifNo X1.here hx rfl (B d2_3) rfl ((if0 _ _).trans (feq J0.2.1).1) k)
  have pre4 : Go p e bl T1 (mkF m 7 #[rv a1] [(.ref a1)]) s1 EF := fun t k => pre3 t (by
   exact XS.aloadN X1.here hx rfl (B d2_6) rfl rfl k)
  obtain ⟨T5, X5, e5, st5⟩ := getF X1 hx hZ hown (host := "") (Or.inl (hw _ (mW 30 rfl))) Via.refl e1 FC (g := (mkF m 7 #[rv a1] [(.ref a1)])) rfl rfl (B d2_7)
  have pre6 : Go p e bl T5 (mkF m 10 #[rv a1] [(.int cd)]) s1 EF := fun t k => pre4 t (st5 t k)
  by_cases hc10 : cd = (0 : Int32)
  · have pre7 : Go p e bl T5 (mkF m 13 #[rv a1] []) s1 EF := fun t k => pre6 t (XS.ifNo X5.here hx rfl (B d2_10) rfl ((if0 _ _).trans (teq hc10).2) k)
    have pre8 : Go p e bl T5 (mkF m 18 #[rv a1] [(.int 1)]) s1 EF := fun t k => pre7 t (by
     refine XS.iconst X5.here hx rfl (B d2_13) ?_
     exact XS.goto X5.here hx rfl (pc0 := 14) (pc' := 18) rfl (B d2_14) (by decide) (by decide) k)
    have hnr : Value.int (nar .boolean (1 : Int32)) = (.int 1) := by rfl
    exact fin1 X5 (v := some (.int 1)) hrt hlk (wl rfl) (wl rfl) (by rw [e5]; exact ⟨by rw [← hR]; simp [hc10], N0, rfl⟩) (fun fs hr => hEF ▸ pre8 _ (retN X5 hx (t := .boolean) Bd.returns (by simp) (B d2_18) (hnr ▸ hr)))
  have pre9 : Go p e bl T5 (mkF m 17 #[rv a1] []) s1 EF := fun t k => pre6 t (XS.ifYes X5.here hx rfl (pc0 := 10) (pc' := 17) rfl (B d2_10) rfl ((if0 _ _).trans (feq hc10).2) (by decide) (by decide) k)
  have pre10 : Go p e bl T5 (mkF m 18 #[rv a1] [(.int 0)]) s1 EF := fun t k => pre9 t (by
   exact XS.iconst X5.here hx rfl (B d2_17) k)
  have hnr : Value.int (nar .boolean (0 : Int32)) = (.int 0) := by rfl
  exact fin1 X5 (v := some (.int 0)) hrt hlk (wl rfl) (wl rfl) (by rw [e5]; exact ⟨by rw [← hR]; simp [hc10], N0, rfl⟩) (fun fs hr => hEF ▸ pre10 _ (retN X5 hx (t := .boolean) Bd.returns (by simp) (B d2_18) (hnr ▸ hr)))
abbrev rKJpc : Room := { frames := 0, cells := 0, slots := 0, locals := 0 }
theorem d3_0 : decode jdk_41_method_11_code 0 = .ok (.iload_n 0, 1) := by decide +kernel
theorem d3_1 : decode jdk_41_method_11_code 1 = .ok (.ifCond .lt 8, 3) := by decide +kernel
theorem d3_4 : decode jdk_41_method_11_code 4 = .ok (.iload_n 0, 1) := by decide +kernel
theorem d3_5 : decode jdk_41_method_11_code 5 = .ok (.iload_n 1, 1) := by decide +kernel
theorem d3_6 : decode jdk_41_method_11_code 6 = .ok (.if_icmp .lt 10, 3) := by decide +kernel
theorem d3_16 : decode jdk_41_method_11_code 16 = .ok (.iload_n 0, 1) := by decide +kernel
theorem d3_17 : decode jdk_41_method_11_code 17 = .ok (.ireturn, 1) := by decide +kernel
theorem pn1 : plainName "jdk/internal/util/Preconditions" = true := by first | (simp [plainName, overriddenIn]; done) | decide +kernel
theorem efJpc (m : MethodId) (p1 : Int32) (p2 : Int32) (a3 : Addr) : entryFrame m #[(.int p1), (.int p2), (.ref a3)] 3 = mkF m 0 #[iv p1, iv p2, rv a3] [] := by first | (simp [entryFrame, mkF, argsToLocals, Value.category]; done) | rfl
def QJpc (Z : State) (p1 : Int32) (p2 : Int32) (a3 : Addr) (cz : Int32) (fv : Value) (h0 : Heap) (n0 : Nat) (v : Option Value) (h : Heap) (L : List Loc) : Prop := v = some (.int p1) ∧ Fr n0 L ∧ h = h0
set_option maxRecDepth 65536 in
set_option maxHeartbeats 40000000 in
theorem rmJpc (l : Launch) (Z : State) (a0 : Array Value) (hw : HW a0 Z) (ws : List Jvm.Cond) (p1 : Int32) (p2 : Int32) (a3 : Addr) (cz : Int32) (fv : Value) (h0 : Heap) (n0 : Nat) (Z0 : n0 ≤ h0.size) (O0 : Old Z n0 h0) (J0 : Jd Z cz fv) (h1 : ¬ p1 < 0) (h2 : p1 < p2) :
    MF l Z mN3 jdk_41_method_11_code 3 (some .int) ws rKJpc #[(.int p1), (.int p2), (.ref a3)] h0 (QJpc Z p1 p2 a3 cz fv h0 n0) := by
  refine MetFree.of_bodySF (plainFor_of_name pn1) hisR ?_
  intro p e s m args bl meth c s1 Bd hml0 hP hK
  obtain ⟨rfl, hZ, hh⟩ := hP
  have hx := Bd.exec
  have hby := Bd.bytes
  have B := @hb c _ hby
  have hown : s.vm.findClass "jdk/internal/util/Preconditions" = some m.cls := findClass_of_methodNamed Bd.named
  have hlk : meth.locks = false := BodyLoose.notSynchronized Bd
  have hrt : ∀ {v : Option Value}, meth.sig.returnType = none → v = none := fun h => by rw [Bd.returns] at h; cases h
  have X0 : Stand p l e rKJpc s m #[(.int p1), (.int p2), (.ref a3)] bl meth c s1 [] 0 0 := Stand.of_body Bd
  have e0 : s1.heap = h0 := by rw [← hh, Bd.state]; rfl
  have N0 := Fr.nil n0
  obtain ⟨EF, hEF⟩ : ∃ f, f = entryFrame m #[(.int p1), (.int p2), (.ref a3)] 3 := ⟨_, rfl⟩
  have pre0 : Go p e bl s1 (mkF m 0 #[iv p1, iv p2, rv a3] []) s1 EF := fun t k => by rw [hEF]; exact castTop (efJpc m p1 p2 a3) k
  have pre1 : Go p e bl s1 (mkF m 1 #[iv p1, iv p2, rv a3] [(.int p1)]) s1 EF := fun t k => pre0 t (by
   exact XS.iloadN X0.here hx rfl (B d3_0) rfl k)
  have pre2 : Go p e bl s1 (mkF m 4 #[iv p1, iv p2, rv a3] []) s1 EF := fun t k => pre1 t (XS.ifNo X0.here hx rfl (B d3_1) rfl ((if0 _ _).trans (flt h1).1) k)
  have pre3 : Go p e bl s1 (mkF m 6 #[iv p1, iv p2, rv a3] [(.int p2), (.int p1)]) s1 EF := fun t k => pre2 t (by
   refine XS.iloadN X0.here hx rfl (B d3_4) rfl ?_
   exact XS.iloadN X0.here hx rfl (B d3_5) rfl k)
  have pre4 : Go p e bl s1 (mkF m 16 #[iv p1, iv p2, rv a3] []) s1 EF := fun t k => pre3 t (XS.icmpYes X0.here hx rfl (pc0 := 6) (pc' := 16) rfl (B d3_6) rfl (tlt h2).1 (by decide) (by decide) k)
  have pre5 : Go p e bl s1 (mkF m 17 #[iv p1, iv p2, rv a3] [(.int p1)]) s1 EF := fun t k => pre4 t (by
   exact XS.iloadN X0.here hx rfl (B d3_16) rfl k)
  exact fin1 X0 (v := some (.int p1)) hrt hlk (wl rfl) (wl rfl) (by rw [e0]; exact ⟨rfl, N0, rfl⟩) (fun fs hr => hEF ▸ pre5 _ (retOut X0 hx Bd.returns rfl (Or.inl ⟨rfl, Or.inl rfl, _, rfl⟩) (B d3_17) hr))
abbrev rKJpn : Room := { frames := 0, cells := 0, slots := 0, locals := 0 }
theorem efJpn (m : MethodId) (p1 : Int32) (p2 : Int32) : entryFrame m #[(.int p1), (.int p2), .null] 3 = mkF m 0 #[iv p1, iv p2, .val .null] [] := by first | (simp [entryFrame, mkF, argsToLocals, Value.category]; done) | rfl
def QJpn (Z : State) (p1 : Int32) (p2 : Int32) (cz : Int32) (fv : Value) (h0 : Heap) (n0 : Nat) (v : Option Value) (h : Heap) (L : List Loc) : Prop := v = some (.int p1) ∧ Fr n0 L ∧ h = h0
set_option maxRecDepth 65536 in
set_option maxHeartbeats 40000000 in
theorem rmJpn (l : Launch) (Z : State) (a0 : Array Value) (hw : HW a0 Z) (ws : List Jvm.Cond) (p1 : Int32) (p2 : Int32) (cz : Int32) (fv : Value) (h0 : Heap) (n0 : Nat) (Z0 : n0 ≤ h0.size) (O0 : Old Z n0 h0) (J0 : Jd Z cz fv) (h1 : ¬ p1 < 0) (h2 : p1 < p2) :
    MF l Z mN3 jdk_41_method_11_code 3 (some .int) ws rKJpn #[(.int p1), (.int p2), .null] h0 (QJpn Z p1 p2 cz fv h0 n0) := by
  refine MetFree.of_bodySF (plainFor_of_name pn1) hisR ?_
  intro p e s m args bl meth c s1 Bd hml0 hP hK
  obtain ⟨rfl, hZ, hh⟩ := hP
  have hx := Bd.exec
  have hby := Bd.bytes
  have B := @hb c _ hby
  have hown : s.vm.findClass "jdk/internal/util/Preconditions" = some m.cls := findClass_of_methodNamed Bd.named
  have hlk : meth.locks = false := BodyLoose.notSynchronized Bd
  have hrt : ∀ {v : Option Value}, meth.sig.returnType = none → v = none := fun h => by rw [Bd.returns] at h; cases h
  have X0 : Stand p l e rKJpn s m #[(.int p1), (.int p2), .null] bl meth c s1 [] 0 0 := Stand.of_body Bd
  have e0 : s1.heap = h0 := by rw [← hh, Bd.state]; rfl
  have N0 := Fr.nil n0
  obtain ⟨EF, hEF⟩ : ∃ f, f = entryFrame m #[(.int p1), (.int p2), .null] 3 := ⟨_, rfl⟩
  have pre0 : Go p e bl s1 (mkF m 0 #[iv p1, iv p2, .val .null] []) s1 EF := fun t k => by rw [hEF]; exact castTop (efJpn m p1 p2) k
  have pre1 : Go p e bl s1 (mkF m 1 #[iv p1, iv p2, .val .null] [(.int p1)]) s1 EF := fun t k => pre0 t (by
   exact XS.iloadN X0.here hx rfl (B d3_0) rfl k)
  have pre2 : Go p e bl s1 (mkF m 4 #[iv p1, iv p2, .val .null] []) s1 EF := fun t k => pre1 t (XS.ifNo X0.here hx rfl (B d3_1) rfl ((if0 _ _).trans (flt h1).1) k)
  have pre3 : Go p e bl s1 (mkF m 6 #[iv p1, iv p2, .val .null] [(.int p2), (.int p1)]) s1 EF := fun t k => pre2 t (by
   refine XS.iloadN X0.here hx rfl (B d3_4) rfl ?_
   exact XS.iloadN X0.here hx rfl (B d3_5) rfl k)
  have pre4 : Go p e bl s1 (mkF m 16 #[iv p1, iv p2, .val .null] []) s1 EF := fun t k => pre3 t (XS.icmpYes X0.here hx rfl (pc0 := 6) (pc' := 16) rfl (B d3_6) rfl (tlt h2).1 (by decide) (by decide) k)
  have pre5 : Go p e bl s1 (mkF m 17 #[iv p1, iv p2, .val .null] [(.int p1)]) s1 EF := fun t k => pre4 t (by
   exact XS.iloadN X0.here hx rfl (B d3_16) rfl k)
  exact fin1 X0 (v := some (.int p1)) hrt hlk (wl rfl) (wl rfl) (by rw [e0]; exact ⟨rfl, N0, rfl⟩) (fun fs hr => hEF ▸ pre5 _ (retOut X0 hx Bd.returns rfl (Or.inl ⟨rfl, Or.inl rfl, _, rfl⟩) (B d3_17) hr))
abbrev rKJci : Room := { frames := 1, cells := 0, slots := 0, locals := 14 }
theorem d4_0 : decode jdk_42_method_155_code 0 = .ok (.iload_n 0, 1) := by decide +kernel
theorem d4_1 : decode jdk_42_method_155_code 1 = .ok (.iload_n 1, 1) := by decide +kernel
theorem d4_2 : decode jdk_42_method_155_code 2 = .ok (.getstatic 1053, 3) := by decide +kernel
theorem d4_5 : decode jdk_42_method_155_code 5 = .ok (.invokestatic 1059, 3) := by decide +kernel
theorem d4_8 : decode jdk_42_method_155_code 8 = .ok (.pop, 1) := by decide +kernel
theorem d4_9 : decode jdk_42_method_155_code 9 = .ok (.return_, 1) := by decide +kernel
theorem pd1 : parseMethodDescriptor "(IILjava/util/function/BiFunction;)I" = some ⟨[.int, .int, (.object "java/util/function/BiFunction")], some .int⟩ := by decide +kernel
theorem efJci (m : MethodId) (p1 : Int32) (p2 : Int32) : entryFrame m #[(.int p1), (.int p2)] 2 = mkF m 0 #[iv p1, iv p2] [] := by first | (simp [entryFrame, mkF, argsToLocals, Value.category]; done) | rfl
def QJci (Z : State) (p1 : Int32) (p2 : Int32) (cz : Int32) (fv : Value) (h0 : Heap) (n0 : Nat) (v : Option Value) (h : Heap) (L : List Loc) : Prop := v = none ∧ Fr n0 L ∧ h = h0
set_option maxRecDepth 65536 in
set_option maxHeartbeats 40000000 in
theorem rmJci (l : Launch) (Z : State) (a0 : Array Value) (hw : HW a0 Z) (ws : List Jvm.Cond) (p1 : Int32) (p2 : Int32) (cz : Int32) (fv : Value) (h0 : Heap) (n0 : Nat) (Z0 : n0 ≤ h0.size) (O0 : Old Z n0 h0) (J0 : Jd Z cz fv) (h1 : ¬ p1 < 0) (h2 : p1 < p2) :
    MF l Z mN4 jdk_42_method_155_code 2 none ws rKJci #[(.int p1), (.int p2)] h0 (QJci Z p1 p2 cz fv h0 n0) := by
  refine MetFree.of_bodySF (plainFor_of_name pn0) hisR ?_
  intro p e s m args bl meth c s1 Bd hml0 hP hK
  obtain ⟨rfl, hZ, hh⟩ := hP
  have hx := Bd.exec
  have hby := Bd.bytes
  have B := @hb c _ hby
  have hM := fun {n : Nat} (h : n = 2) => h.trans hml0.symm
  have hown : s.vm.findClass "java/lang/String" = some m.cls := findClass_of_methodNamed Bd.named
  have hlk : meth.locks = false := BodyLoose.notSynchronized Bd
  have X0 : Stand p l e rKJci s m #[(.int p1), (.int p2)] bl meth c s1 [] 0 0 := Stand.of_body Bd
  have e0 : s1.heap = h0 := by rw [← hh, Bd.state]; rfl
  have N0 := Fr.nil n0
  obtain ⟨EF, hEF⟩ : ∃ f, f = entryFrame m #[(.int p1), (.int p2)] 2 := ⟨_, rfl⟩
  have pre0 : Go p e bl s1 (mkF m 0 #[iv p1, iv p2] []) s1 EF := fun t k => by rw [hEF]; exact castTop (efJci m p1 p2) k
  have hfr := J0.2.2.1.1
  have hfs := J0.2.2.1.2
  rcases ref_cases hfr with hfv | ⟨fo, hfv⟩
  · rw [hfv] at hfs
    have pre1 : Go p e bl s1 (mkF m 2 #[iv p1, iv p2] [(.int p2), (.int p1)]) s1 EF := fun t k => pre0 t (by
     refine XS.iloadN X0.here hx rfl (B d4_0) rfl ?_
     exact XS.iloadN X0.here hx rfl (B d4_1) rfl k)
    obtain ⟨T2, X2, e2, st2⟩ := getS2 X0 hx hZ hown (host := "") (Or.inl (hw _ (mW 240 rfl))) Via.refl e0 (hfs.ext O0.2) (g := (mkF m 2 #[iv p1, iv p2] [(.int p2), (.int p1)])) rfl (B d4_2)
    have pre3 : Go p e bl T2 (mkF m 5 #[iv p1, iv p2] [.null, (.int p2), (.int p1)]) s1 EF := fun t k => pre1 t (st2 t k)
    obtain ⟨_, _, ⟨T4, L4, k4, n4⟩, -, X4, ⟨Lc4, hQ4, l4, y4, z4⟩, st4⟩ := Jvm.LawKit.callS X2 hx (y := mN3) hown (mvT hZ (hw _ (mW 242 rfl))) (mvT hZ (hw _ (mW 243 rfl))) (mvT hZ (hw _ (mW 241 rfl))) (mvT hZ (hw _ (mW 244 rfl))) (by decide) (backOf (W := 0) (rmJpn l Z a0 hw [] p1 p2 cz fv  h0 n0 Z0 O0 J0 h1 h2) hZ (hw _ (mW 244 rfl)) (hw _ (mW 241 rfl)) (by decide) (by decide)) (g := (mkF m 5 #[iv p1, iv p2] [.null, (.int p2), (.int p1)])) rfl (hM rfl) (argsL := [(.int p1), (.int p2), .null]) (rest := []) (lenOf pd1 rfl) rfl (Nat.le_of_eq rfl) (B d4_5) (fun _ _ => ⟨rfl, e2, wl rfl, wl rfl⟩)
    dsimp only [Pt.U, Pt.locs, Pt.cells, Pt.slots] at X4 l4 y4 z4 st4 hQ4
    subst l4 y4 z4
    obtain ⟨rfl, N4q, hq4⟩ := hQ4
    have N4 := Fr.app N0 N4q
    have pre5 : Go p e bl T4 (mkF m 8 #[iv p1, iv p2] [(.int p1)]) s1 EF := fun t k => pre3 t (st4 t k)
    have e4 : T4.heap = h0 := hq4
    have pre6 : Go p e bl T4 (mkF m 9 #[iv p1, iv p2] []) s1 EF := fun t k => pre5 t (by
     exact XS.pop X4.here hx rfl (B d4_8) rfl rfl k)
    exact fin1 X4 (v := none) (fun _ => rfl) hlk (wl rfl) (wl rfl) (by rw [e4]; exact ⟨rfl, N4, rfl⟩) (fun fs hr => hEF ▸ pre6 _ (X4.returnOut hx Bd.returns (B d4_9) hr))
  · rw [hfv] at hfs
    have pre7 : Go p e bl s1 (mkF m 2 #[iv p1, iv p2] [(.int p2), (.int p1)]) s1 EF := fun t k => pre0 t (by
     refine XS.iloadN X0.here hx rfl (B d4_0) rfl ?_
     exact XS.iloadN X0.here hx rfl (B d4_1) rfl k)
    obtain ⟨T8, X8, e8, st8⟩ := getS2 X0 hx hZ hown (host := "") (Or.inl (hw _ (mW 240 rfl))) Via.refl e0 (hfs.ext O0.2) (g := (mkF m 2 #[iv p1, iv p2] [(.int p2), (.int p1)])) rfl (B d4_2)
    have pre9 : Go p e bl T8 (mkF m 5 #[iv p1, iv p2] [(.ref fo), (.int p2), (.int p1)]) s1 EF := fun t k => pre7 t (st8 t k)
    obtain ⟨_, _, ⟨T10, L10, k10, n10⟩, -, X10, ⟨Lc10, hQ10, l10, y10, z10⟩, st10⟩ := Jvm.LawKit.callS X8 hx (y := mN3) hown (mvT hZ (hw _ (mW 242 rfl))) (mvT hZ (hw _ (mW 243 rfl))) (mvT hZ (hw _ (mW 241 rfl))) (mvT hZ (hw _ (mW 244 rfl))) (by decide) (backOf (W := 0) (rmJpc l Z a0 hw [] p1 p2 fo cz fv  h0 n0 Z0 O0 J0 h1 h2) hZ (hw _ (mW 244 rfl)) (hw _ (mW 241 rfl)) (by decide) (by decide)) (g := (mkF m 5 #[iv p1, iv p2] [(.ref fo), (.int p2), (.int p1)])) rfl (hM rfl) (argsL := [(.int p1), (.int p2), (.ref fo)]) (rest := []) (lenOf pd1 rfl) rfl (Nat.le_of_eq rfl) (B d4_5) (fun _ _ => ⟨rfl, e8, wl rfl, wl rfl⟩)
    dsimp only [Pt.U, Pt.locs, Pt.cells, Pt.slots] at X10 l10 y10 z10 st10 hQ10
    subst l10 y10 z10
    obtain ⟨rfl, N10q, hq10⟩ := hQ10
    have N10 := Fr.app N0 N10q
    have pre11 : Go p e bl T10 (mkF m 8 #[iv p1, iv p2] [(.int p1)]) s1 EF := fun t k => pre9 t (st10 t k)
    have e10 : T10.heap = h0 := hq10
    have pre12 : Go p e bl T10 (mkF m 9 #[iv p1, iv p2] []) s1 EF := fun t k => pre11 t (by
     exact XS.pop X10.here hx rfl (B d4_8) rfl rfl k)
    exact fin1 X10 (v := none) (fun _ => rfl) hlk (wl rfl) (wl rfl) (by rw [e10]; exact ⟨rfl, N10, rfl⟩) (fun fs hr => hEF ▸ pre12 _ (X10.returnOut hx Bd.returns (B d4_9) hr))
abbrev rKJl1 : Room := { frames := 2, cells := 0, slots := 0, locals := 27 }
theorem d5_0 : decode jdk_43_method_2_code 0 = .ok (.iload_n 1, 1) := by decide +kernel
theorem d5_1 : decode jdk_43_method_2_code 1 = .ok (.aload_n 0, 1) := by decide +kernel
theorem d5_2 : decode jdk_43_method_2_code 2 = .ok (.arraylength, 1) := by decide +kernel
theorem d5_3 : decode jdk_43_method_2_code 3 = .ok (.invokestatic 9, 3) := by decide +kernel
theorem d5_6 : decode jdk_43_method_2_code 6 = .ok (.aload_n 0, 1) := by decide +kernel
theorem d5_7 : decode jdk_43_method_2_code 7 = .ok (.iload_n 1, 1) := by decide +kernel
theorem d5_8 : decode jdk_43_method_2_code 8 = .ok (.baload, 1) := by decide +kernel
theorem d5_9 : decode jdk_43_method_2_code 9 = .ok (.sipush 255, 3) := by decide +kernel
theorem d5_12 : decode jdk_43_method_2_code 12 = .ok (.iand, 1) := by decide +kernel
theorem d5_13 : decode jdk_43_method_2_code 13 = .ok (.i2c, 1) := by decide +kernel
theorem d5_14 : decode jdk_43_method_2_code 14 = .ok (.ireturn, 1) := by decide +kernel
theorem pn2 : plainName "java/lang/StringLatin1" = true := by first | (simp [plainName, overriddenIn]; done) | decide +kernel
theorem pd2 : parseMethodDescriptor "(II)V" = some ⟨[.int, .int], none⟩ := by decide +kernel
theorem efJl1 (m : MethodId) (a1 : Addr) (p1 : Int32) : entryFrame m #[(.ref a1), (.int p1)] 2 = mkF m 0 #[rv a1, iv p1] [] := by first | (simp [entryFrame, mkF, argsToLocals, Value.category]; done) | rfl
def QJl1 (Z : State) (a1 : Addr) (p1 : Int32) (cz : Int32) (fv : Value) (k : ClassId) (z : Int32) (vs : List Value) (bv : Int32) (r : Int32) (h0 : Heap) (n0 : Nat) (v : Option Value) (h : Heap) (L : List Loc) : Prop := v = some (.int r) ∧ Fr n0 L ∧ h = h0
set_option maxRecDepth 65536 in
set_option maxHeartbeats 40000000 in
theorem rmJl1 (l : Launch) (Z : State) (a0 : Array Value) (hw : HW a0 Z) (ws : List Jvm.Cond) (a1 : Addr) (p1 : Int32) (cz : Int32) (fv : Value) (k : ClassId) (z : Int32) (vs : List Value) (bv : Int32) (r : Int32) (h0 : Heap) (n0 : Nat) (Z0 : n0 ≤ h0.size) (O0 : Old Z n0 h0) (J0 : Jd Z cz fv) (VV : Arv Z h0 a1 k .byte z vs (.int 0)) (h1 : ¬ p1 < 0) (h2 : p1 < z) (hv : vs.getD p1.toNatClampNeg (.int 0) = .int bv) (hR : bv &&& 255 = r) :
    MF l Z mN5 jdk_43_method_2_code 2 (some .char) ws rKJl1 #[(.ref a1), (.int p1)] h0 (QJl1 Z a1 p1 cz fv k z vs bv r h0 n0) := by
  refine MetFree.of_bodySF (plainFor_of_name pn2) hisR ?_
  intro p e s m args bl meth c s1 Bd hml0 hP hK
  obtain ⟨rfl, hZ, hh⟩ := hP
  have hx := Bd.exec
  have hby := Bd.bytes
  have B := @hb c _ hby
  have hM := fun {n : Nat} (h : n = 2) => h.trans hml0.symm
  have hown : s.vm.findClass "java/lang/StringLatin1" = some m.cls := findClass_of_methodNamed Bd.named
  have hlk : meth.locks = false := BodyLoose.notSynchronized Bd
  have hrt : ∀ {v : Option Value}, meth.sig.returnType = none → v = none := fun h => by rw [Bd.returns] at h; cases h
  have X0 : Stand p l e rKJl1 s m #[(.ref a1), (.int p1)] bl meth c s1 [] 0 0 := Stand.of_body Bd
  have e0 : s1.heap = h0 := by rw [← hh, Bd.state]; rfl
  have N0 := Fr.nil n0
  obtain ⟨EF, hEF⟩ : ∃ f, f = entryFrame m #[(.ref a1), (.int p1)] 2 := ⟨_, rfl⟩
  have pre0 : Go p e bl s1 (mkF m 0 #[rv a1, iv p1] []) s1 EF := fun t k => by rw [hEF]; exact castTop (efJl1 m a1 p1) k
  have pre1 : Go p e bl s1 (mkF m 2 #[rv a1, iv p1] [(.ref a1), (.int p1)]) s1 EF := fun t k => pre0 t (by
   refine XS.iloadN X0.here hx rfl (B d5_0) rfl ?_
   exact XS.aloadN X0.here hx rfl (B d5_1) rfl rfl k)
  obtain ⟨cl2, Ar2, q2, Sz2, M2, H2, G2⟩ := id VV
  have pre3 : Go p e bl s1 (mkF m 3 #[rv a1, iv p1] [(.int z), (.int p1)]) s1 EF := fun t k => pre1 t (by
   refine X0.arraylength hx (hp e0 Ar2) (State.isArrayOf_alike hZ.alike Ar2.2.1) (g := (mkF m 2 #[rv a1, iv p1] [(.ref a1), (.int p1)])) rfl rfl (B d5_2) _ ?_
   rw [len_of Sz2 M2]
   exact k)
  obtain ⟨_, _, ⟨T4, L4, k4, n4⟩, -, X4, ⟨Lc4, hQ4, l4, y4, z4⟩, st4⟩ := Jvm.LawKit.callS X0 hx (y := mN4) hown (mvT hZ (hw _ (mW 237 rfl))) (mvT hZ (hw _ (mW 238 rfl))) (mvT hZ (hw _ (mW 6 rfl))) (mvT hZ (hw _ (mW 239 rfl))) (by decide) (backOf (W := 0) (rmJci l Z a0 hw [] p1 z cz fv  h0 n0 Z0 O0 J0 h1 h2) hZ (hw _ (mW 239 rfl)) (hw _ (mW 6 rfl)) (by decide) (by decide)) (g := (mkF m 3 #[rv a1, iv p1] [(.int z), (.int p1)])) rfl (hM rfl) (argsL := [(.int p1), (.int z)]) (rest := []) (lenOf pd2 rfl) rfl (Nat.le_of_eq rfl) (B d5_3) (fun _ _ => ⟨rfl, e0, wl rfl, wl rfl⟩)
  dsimp only [Pt.U, Pt.locs, Pt.cells, Pt.slots] at X4 l4 y4 z4 st4 hQ4
  subst l4 y4 z4
  obtain ⟨rfl, N4q, hq4⟩ := hQ4
  have N4 := Fr.app N0 N4q
  have pre5 : Go p e bl T4 (mkF m 6 #[rv a1, iv p1] []) s1 EF := fun t k => pre3 t (st4 t k)
  have e4 : T4.heap = h0 := hq4
  have pre6 : Go p e bl T4 (mkF m 8 #[rv a1, iv p1] [(.int p1), (.ref a1)]) s1 EF := fun t k => pre5 t (by
   refine XS.aloadN X4.here hx rfl (B d5_6) rfl rfl ?_
   exact XS.iloadN X4.here hx rfl (B d5_7) rfl k)
  obtain ⟨cl7, Ar7, q7, Sz7, M7, H7, G7⟩ := id VV
  have hin7 := inb_of (j := p1) Sz7 ⟨h1, h2⟩
  have hat7 := Has.at (v := (.int bv)) H7 hin7 hv
  have pre8 : Go p e bl T4 (mkF m 14 #[rv a1, iv p1] [(.int ((bv &&& (255 : Int32)).toUInt32.toUInt16.toUInt32.toInt32))]) s1 EF := fun t k => pre6 t (by
   refine X4.baloadBytes hx (j := p1) (v := (.int bv)) (hp e4 Ar7) (State.isArrayOf_alike hZ.alike Ar7.2.1) Ar7.2.2 hin7 hat7 (g := (mkF m 8 #[rv a1, iv p1] [(.int p1), (.ref a1)])) rfl rfl (B d5_8) _ ?_
   refine XS.sipush X4.here hx rfl (B d5_9) ?_
   refine XS.iand X4.here hx rfl (B d5_12) rfl ?_
   exact XS.i2c X4.here hx rfl (B d5_13) rfl k)
  have hnr : Value.int (nar .char ((bv &&& (255 : Int32)).toUInt32.toUInt16.toUInt32.toInt32)) = (.int (bv &&& 255)) := by show Value.int (((bv &&& 255).toUInt32.toUInt16.toUInt32.toInt32).toUInt32.toUInt16.toUInt32.toInt32) = _; rw [i2c_mask, i2c_mask]
  exact fin1 X4 (v := some (.int (bv &&& 255))) hrt hlk (wl rfl) (wl rfl) (by rw [e4]; exact ⟨by rw [hR], N4, rfl⟩) (fun fs hr => hEF ▸ pre8 _ (retN X4 hx (t := .char) Bd.returns (by simp) (B d5_14) (hnr ▸ hr)))
abbrev rKJcl : Room := { frames := 3, cells := 0, slots := 0, locals := 40 }
theorem d6_0 : decode jdk_42_method_56_code 0 = .ok (.aload_n 0, 1) := by decide +kernel
theorem d6_1 : decode jdk_42_method_56_code 1 = .ok (.invokevirtual 492, 3) := by decide +kernel
theorem d6_4 : decode jdk_42_method_56_code 4 = .ok (.ifCond .eq 12, 3) := by decide +kernel
theorem d6_7 : decode jdk_42_method_56_code 7 = .ok (.aload_n 0, 1) := by decide +kernel
theorem d6_8 : decode jdk_42_method_56_code 8 = .ok (.getfield 9, 3) := by decide +kernel
theorem d6_11 : decode jdk_42_method_56_code 11 = .ok (.iload_n 1, 1) := by decide +kernel
theorem d6_12 : decode jdk_42_method_56_code 12 = .ok (.invokestatic 495, 3) := by decide +kernel
theorem d6_15 : decode jdk_42_method_56_code 15 = .ok (.ireturn, 1) := by decide +kernel
theorem pd3 : parseMethodDescriptor "()Z" = some ⟨[], some .boolean⟩ := by decide +kernel
theorem pd4 : parseMethodDescriptor "([BI)C" = some ⟨[(.array .byte), .int], some .char⟩ := by decide +kernel
theorem efJcl (m : MethodId) (a1 : Addr) (p1 : Int32) : entryFrame m #[(.ref a1), (.int p1)] 2 = mkF m 0 #[rv a1, iv p1] [] := by first | (simp [entryFrame, mkF, argsToLocals, Value.category]; done) | rfl
def QJcl (Z : State) (a1 : Addr) (p1 : Int32) (cz : Int32) (fv : Value) (b : Addr) (k : ClassId) (z : Int32) (vs : List Value) (bv : Int32) (r : Int32) (h0 : Heap) (n0 : Nat) (v : Option Value) (h : Heap) (L : List Loc) : Prop := v = some (.int r) ∧ Fr n0 L ∧ h = h0
set_option maxRecDepth 65536 in
set_option maxHeartbeats 40000000 in
theorem rmJcl (l : Launch) (Z : State) (a0 : Array Value) (hw : HW a0 Z) (ws : List Jvm.Cond) (a1 : Addr) (p1 : Int32) (cz : Int32) (fv : Value) (b : Addr) (k : ClassId) (z : Int32) (vs : List Value) (bv : Int32) (r : Int32) (h0 : Heap) (n0 : Nat) (Z0 : n0 ≤ h0.size) (O0 : Old Z n0 h0) (J0 : Jd Z cz fv) (E1 : Exa Z h0 a1 "java/lang/String") (FC : Fld Z h0 a1 "java/lang/String" "coder" "B" (.int 0)) (FV : Fld Z h0 a1 "java/lang/String" "value" "[B" (.ref b)) (VV : Arv Z h0 b k .byte z vs (.int 0)) (h1 : ¬ p1 < 0) (h2 : p1 < z) (hv : vs.getD p1.toNatClampNeg (.int 0) = .int bv) (hR : bv &&& 255 = r) (hnr0 : nar .char r = r) :
    MF l Z mN6 jdk_42_method_56_code 2 (some .char) ws rKJcl #[(.ref a1), (.int p1)] h0 (QJcl Z a1 p1 cz fv b k z vs bv r h0 n0) := by
  refine MetFree.of_bodySF (plainFor_of_name pn0) hisR ?_
  intro p e s m args bl meth c s1 Bd hml0 hP hK
  obtain ⟨rfl, hZ, hh⟩ := hP
  have hx := Bd.exec
  have hby := Bd.bytes
  have B := @hb c _ hby
  have hM := fun {n : Nat} (h : n = 2) => h.trans hml0.symm
  have hown : s.vm.findClass "java/lang/String" = some m.cls := findClass_of_methodNamed Bd.named
  have hlk : meth.locks = false := BodyLoose.notSynchronized Bd
  have hrt : ∀ {v : Option Value}, meth.sig.returnType = none → v = none := fun h => by rw [Bd.returns] at h; cases h
  have X0 : Stand p l e rKJcl s m #[(.ref a1), (.int p1)] bl meth c s1 [] 0 0 := Stand.of_body Bd
  have e0 : s1.heap = h0 := by rw [← hh, Bd.state]; rfl
  have N0 := Fr.nil n0
  obtain ⟨EF, hEF⟩ : ∃ f, f = entryFrame m #[(.ref a1), (.int p1)] 2 := ⟨_, rfl⟩
  have pre0 : Go p e bl s1 (mkF m 0 #[rv a1, iv p1] []) s1 EF := fun t k => by rw [hEF]; exact castTop (efJcl m a1 p1) k
  have pre1 : Go p e bl s1 (mkF m 1 #[rv a1, iv p1] [(.ref a1)]) s1 EF := fun t k => pre0 t (by
   exact XS.aloadN X0.here hx rfl (B d6_0) rfl rfl k)
  obtain ⟨cq2, kq2, q2a, q2b, q2c⟩ := isOf hZ e0 E1
  obtain ⟨_, _, ⟨T2, L2, k2, n2⟩, -, X2, ⟨Lc2, hQ2, l2, y2, z2⟩, st2⟩ := X0.virtualBack hx (y := mN2) (z := mN2) hown (mvT hZ (hw _ (mW 228 rfl))) (mvT hZ (hw _ (mW 229 rfl))) (notFace_of_selects (args := #[]) (mvT hZ (hw _ (mW 231 rfl)))) (mvT hZ (hw _ (mW 231 rfl))) (mvT hZ (hw _ (mW 230 rfl))) (by decide) (backOf (W := 0) (rmJil l Z a0 hw [] a1 cz fv (0 : Int32) (1 : Int32) h0 n0 Z0 O0 J0 FC (by decide)) hZ (hw _ (mW 232 rfl)) (hw _ (mW 6 rfl)) (by decide) (by decide)) q2a q2c (g := (mkF m 1 #[rv a1, iv p1] [(.ref a1)])) rfl (hM rfl) (Steps.refl _) (argsL := []) (rest := []) (lenOf pd3 rfl) rfl (Nat.le_of_eq rfl) (B d6_1) (fun _ _ => ⟨rfl, e0, wl rfl, wl rfl⟩)
  dsimp only [Pt.U, Pt.locs, Pt.cells, Pt.slots] at X2 l2 y2 z2 st2 hQ2
  subst l2 y2 z2
  obtain ⟨rfl, N2q, hq2⟩ := hQ2
  have N2 := Fr.app N0 N2q
  have pre3 : Go p e bl T2 (mkF m 4 #[rv a1, iv p1] [(.int 1)]) s1 EF := fun t k => pre1 t (st2.trans k)
  have e2 : T2.heap = h0 := hq2
  have pre4 : Go p e bl T2 (mkF m 7 #[rv a1, iv p1] []) s1 EF := fun t k => pre3 t (XS.ifNo X2.here hx rfl (B d6_4) rfl ((if0 _ _).trans (feq (by decide : ¬ ((1 : Int32) = (0 : Int32)))).1) k)
  have pre5 : Go p e bl T2 (mkF m 8 #[rv a1, iv p1] [(.ref a1)]) s1 EF := fun t k => pre4 t (by
   exact XS.aloadN X2.here hx rfl (B d6_7) rfl rfl k)
  obtain ⟨T6, X6, e6, st6⟩ := getF X2 hx hZ hown (host := "") (Or.inl (hw _ (mW 32 rfl))) Via.refl e2 FV (g := (mkF m 8 #[rv a1, iv p1] [(.ref a1)])) rfl rfl (B d6_8)
  have pre7 : Go p e bl T6 (mkF m 11 #[rv a1, iv p1] [(.ref b)]) s1 EF := fun t k => pre5 t (st6 t k)
  have pre8 : Go p e bl T6 (mkF m 12 #[rv a1, iv p1] [(.int p1), (.ref b)]) s1 EF := fun t k => pre7 t (by
   exact XS.iloadN X6.here hx rfl (B d6_11) rfl k)
  obtain ⟨_, _, ⟨T9, L9, k9, n9⟩, -, X9, ⟨Lc9, hQ9, l9, y9, z9⟩, st9⟩ := Jvm.LawKit.callS X6 hx (y := mN5) hown (mvT hZ (hw _ (mW 233 rfl))) (mvT hZ (hw _ (mW 234 rfl))) (mvT hZ (hw _ (mW 235 rfl))) (mvT hZ (hw _ (mW 236 rfl))) (by decide) (backOf (W := 0) (rmJl1 l Z a0 hw [] b p1 cz fv k z vs bv r h0 n0 Z0 O0 J0 VV h1 h2 hv hR) hZ (hw _ (mW 236 rfl)) (hw _ (mW 235 rfl)) (by decide) (by decide)) (g := (mkF m 12 #[rv a1, iv p1] [(.int p1), (.ref b)])) rfl (hM rfl) (argsL := [(.ref b), (.int p1)]) (rest := []) (lenOf pd4 rfl) rfl (Nat.le_of_eq rfl) (B d6_12) (fun _ _ => ⟨rfl, e6, wl rfl, wl rfl⟩)
  dsimp only [Pt.U, Pt.locs, Pt.cells, Pt.slots] at X9 l9 y9 z9 st9 hQ9
  subst l9 y9 z9
  obtain ⟨rfl, N9q, hq9⟩ := hQ9
  have N9 := Fr.app N2 N9q
  have pre10 : Go p e bl T9 (mkF m 15 #[rv a1, iv p1] [(.int r)]) s1 EF := fun t k => pre8 t (st9 t k)
  have e9 : T9.heap = h0 := hq9
  have hnr : Value.int (nar .char r) = (.int r) := by rw [hnr0]
  exact fin1 X9 (v := some (.int r)) hrt hlk (wl rfl) (wl rfl) (by rw [e9]; exact ⟨rfl, N9, rfl⟩) (fun fs hr => hEF ▸ pre10 _ (retN X9 hx (t := .char) Bd.returns (by simp) (B d6_15) (hnr ▸ hr)))
theorem own_sel {args : Array Value} {s : State} {C : String} {y : MethodName} (h : (Jvm.Cond.selects C y y).before args s = true) (hi : (Jvm.Cond.instanceMethod y).before args s = true) (hp : s.PrivateAt y) (hx : y.cls ≠ "java/lang/invoke/MethodHandle" ∧ y.cls ≠ "java/lang/invoke/VarHandle") : (Jvm.Cond.selects y.cls y y).before args s = true := by
  obtain ⟨c, r, m, h1, h2, h3, h4, mk, h5, h6⟩ := Cond.selects_spec h
  obtain ⟨mk', meth, hn, hm, -, -⟩ := Cond.instanceMethod_spec hi
  cases h3.symm.trans hn
  have hc := findClass_of_methodNamed h3
  have e : selectMethod {} s.vm m.cls m = .method m := selectMethod_private hm (hp m meth h3 hm)
  have hf := State.methodFound?_of_named h3 hx
  simp [Cond.before, Cond.holds, Cond.value, hc, hf, h3, e, h5, h6]
theorem own_nf {args : Array Value} {s : State} {C : String} {x x' y : MethodName} (h : (Jvm.Cond.selects C x x').before args s = true) (e : x'.cls = y.cls) : NotFace s y := by
  obtain ⟨c, r, m, h1, h2, h3, h4, mk, h5, h6⟩ := Cond.selects_spec h
  intro r0 hr
  have a := findClass_of_methodNamed h3
  have b := findClass_of_methodNamed hr
  rw [e] at a
  have q : m.cls = r0.cls := Option.some.inj (a.symm.trans b)
  exact ⟨mk, q ▸ h5, h6⟩
theorem own_sameM {args : Array Value} {s : State} {y : MethodName} (hi : (Jvm.Cond.instanceMethod y).before args s = true) (nf : NotFace s y) (hx : y.cls ≠ "java/lang/invoke/MethodHandle" ∧ y.cls ≠ "java/lang/invoke/VarHandle") : (Jvm.Cond.sameMethod y.cls y.cls y.name y.desc).before args s = true := by
  obtain ⟨m, meth, hn, hm, -, -⟩ := Cond.instanceMethod_spec hi
  have hf := State.methodFound?_of_named hn hx
  have hc := findClass_of_methodNamed hn
  have hn' : s.methodNamed? ⟨y.cls, y.name, y.desc⟩ = some m := hn
  obtain ⟨kr, k1, k2⟩ := nf m hn
  simp [Cond.before, Cond.holds, Cond.value, hf, hn', hc, k1, k2]
def pad (xs : List Int32) : List Int32 := xs ++ List.replicate (16 - xs.length) 0
theorem own_pad (xs : List Int32) (h : xs.length ≤ 16) : (pad xs).length = 16 := by simp [pad]; omega
theorem own_rng (ds : List Int32) : ((List.range ds.length).map fun i => (BV ds).getD (0 + i) (.int 0)) = BV ds := by
  apply List.ext_getElem
  · simp [BV]
  · intro i h1 h2
    have h3 : i < ds.length := by simpa [BV] using h2
    simp [BV, h3]
theorem own_cat (xs ds : List Int32) (h : xs.length + ds.length ≤ 16) : (BV (pad xs)).take xs.length ++ BV ds ++ (BV (pad xs)).drop (xs.length + ds.length) = BV (pad (xs ++ ds)) := by
  have e : 16 - (xs ++ ds).length = 16 - xs.length - ds.length := by simp; omega
  unfold pad BV
  rw [e]
  simp [List.take_append, List.drop_append, List.map_append, List.drop_eq_nil_of_le, List.append_assoc]
theorem own_rng0 (ds : List Int32) : ((List.range ds.length).map fun i => (BV ds).getD ((0 : Int32).toNatClampNeg + i) (.int 0)) = BV ds := own_rng ds
theorem own_nneg {n : Int32} {k : Nat} (h : n.toInt = k) : ¬ n < 0 := by
  have e : (0 : Int32).toInt = 0 := by decide
  rw [Int32.lt_iff_toInt_lt, e]; omega
theorem own_shl0 (p : Int32) : p <<< ((0 : Int32) &&& 31) = p := by
  have q := c_ishl p 0 0 (by decide)
  have e : ((2 ^ 0 : Nat) : Int) = 1 := by decide
  rw [e] at q
  have w := rng32 (p <<< ((0 : Int32) &&& 31))
  have w2 := rng32 p
  rw [← Int32.toInt_inj]; omega
theorem own_clamp {n : Int32} {k : Nat} (h : n.toInt = k) : n.toNatClampNeg = k := by simp only [Int32.toNatClampNeg, h]; omega
def SBd (Z : State) (h : Heap) (o vb : Addr) (k : ClassId) (c : Int32) (bs : List Int32) : Prop := Exa Z h o "java/lang/StringBuilder" ∧ Fld Z h o "java/lang/AbstractStringBuilder" "value" "[B" (.ref vb) ∧ Fld Z h o "java/lang/AbstractStringBuilder" "coder" "B" (.int 0) ∧ Fld Z h o "java/lang/AbstractStringBuilder" "count" "I" (.int c) ∧ Arv Z h vb k .byte (16 : Int32) (BV (pad bs)) (.int 0) ∧ o ≠ vb ∧ c.toInt = bs.length ∧ bs.length ≤ 16
theorem SBd.ext {Z : State} {h h' : Heap} {a b : Addr} {k : ClassId} {c : Int32} {bs : List Int32} (S : SBd Z h a b k c bs) (E : Ext h h') : SBd Z h' a b k c bs := ⟨S.1.ext E, S.2.1.ext E, S.2.2.1.ext E, S.2.2.2.1.ext E, S.2.2.2.2.1.ext E, S.2.2.2.2.2⟩
theorem SBd.keep {Z : State} {h h' : Heap} {a b : Addr} {k : ClassId} {c : Int32} {bs : List Int32} {ws : List Addr} (S : SBd Z h a b k c bs) (K : Keep h h' ws) (ha : a ∉ ws) (hb : b ∉ ws) : SBd Z h' a b k c bs := ⟨S.1.keep K, S.2.1.keep K ha, S.2.2.1.keep K ha, S.2.2.2.1.keep K ha, S.2.2.2.2.1.keep K hb, S.2.2.2.2.2⟩
abbrev rKSa : Room := { frames := 1, cells := 1, slots := 16, locals := 12 }
theorem d7_0 : decode jdk_68_method_2_code 0 = .ok (.aload_n 0, 1) := by decide +kernel
theorem d7_1 : decode jdk_68_method_2_code 1 = .ok (.invokespecial 3, 3) := by decide +kernel
theorem d7_4 : decode jdk_68_method_2_code 4 = .ok (.getstatic 18, 3) := by decide +kernel
theorem d7_7 : decode jdk_68_method_2_code 7 = .ok (.ifCond .eq 18, 3) := by decide +kernel
theorem d7_10 : decode jdk_68_method_2_code 10 = .ok (.aload_n 0, 1) := by decide +kernel
theorem d7_11 : decode jdk_68_method_2_code 11 = .ok (.iload_n 1, 1) := by decide +kernel
theorem d7_12 : decode jdk_68_method_2_code 12 = .ok (.newarray .byte, 2) := by decide +kernel
theorem d7_14 : decode jdk_68_method_2_code 14 = .ok (.putfield 15, 3) := by decide +kernel
theorem d7_17 : decode jdk_68_method_2_code 17 = .ok (.aload_n 0, 1) := by decide +kernel
theorem d7_18 : decode jdk_68_method_2_code 18 = .ok (.iconst 0, 1) := by decide +kernel
theorem d7_19 : decode jdk_68_method_2_code 19 = .ok (.putfield 22, 3) := by decide +kernel
theorem d7_22 : decode jdk_68_method_2_code 22 = .ok (.goto 16, 3) := by decide +kernel
theorem d7_38 : decode jdk_68_method_2_code 38 = .ok (.return_, 1) := by decide +kernel
theorem pn3 : plainName "java/lang/AbstractStringBuilder" = true := by first | (simp [plainName, overriddenIn]; done) | decide +kernel
theorem efSa (m : MethodId) (a1 : Addr) : entryFrame m #[(.ref a1), (.int 16)] 2 = mkF m 0 #[rv a1, iv 16] [] := by first | (simp [entryFrame, mkF, argsToLocals, Value.category]; done) | rfl
def QSa (Z : State) (a1 : Addr) (cz : Int32) (fv : Value) (h0 : Heap) (n0 : Nat) (v : Option Value) (h : Heap) (L : List Loc) : Prop := v = none ∧ Fr n0 L ∧ Keep h0 h [a1] ∧ ∃ b k, h0.size ≤ b ∧ SBd Z h a1 b k 0 []
set_option maxRecDepth 65536 in
set_option maxHeartbeats 40000000 in
theorem rmSa (l : Launch) (Z : State) (a0 : Array Value) (hw : HW a0 Z) (ws : List Jvm.Cond) (a1 : Addr) (cz : Int32) (fv : Value) (h0 : Heap) (n0 : Nat) (Z0 : n0 ≤ h0.size) (O0 : Old Z n0 h0) (J0 : Jd Z cz fv) (E1 : Exa Z h0 a1 "java/lang/StringBuilder") (g_a1 : n0 ≤ a1) (F1 : Fld Z h0 a1 "java/lang/AbstractStringBuilder" "value" "[B" .null) (F2 : Fld Z h0 a1 "java/lang/AbstractStringBuilder" "coder" "B" (.int 0)) (F3 : Fld Z h0 a1 "java/lang/AbstractStringBuilder" "count" "I" (.int 0)) :
    MF l Z mN7 jdk_68_method_2_code 2 none ws rKSa #[(.ref a1), (.int 16)] h0 (QSa Z a1 cz fv h0 n0) := by
  refine MetFree.of_bodySF (plainFor_of_name pn3) hisR ?_
  intro p e s m args bl meth c s1 Bd hml0 hP hK
  obtain ⟨rfl, hZ, hh⟩ := hP
  have hx := Bd.exec
  have hby := Bd.bytes
  have B := @hb c _ hby
  have hM := fun {n : Nat} (h : n = 2) => h.trans hml0.symm
  have hown : s.vm.findClass "java/lang/AbstractStringBuilder" = some m.cls := findClass_of_methodNamed Bd.named
  have hlk : meth.locks = false := BodyLoose.notSynchronized Bd
  have X0 : Stand p l e rKSa s m #[(.ref a1), (.int 16)] bl meth c s1 [] 0 0 := Stand.of_body Bd
  have e0 : s1.heap = h0 := by rw [← hh, Bd.state]; rfl
  have N0 := Fr.nil n0
  obtain ⟨EF, hEF⟩ : ∃ f, f = entryFrame m #[(.ref a1), (.int 16)] 2 := ⟨_, rfl⟩
  have pre0 : Go p e bl s1 (mkF m 0 #[rv a1, iv 16] []) s1 EF := fun t k => by rw [hEF]; exact castTop (efSa m a1) k
  have pre1 : Go p e bl s1 (mkF m 1 #[rv a1, iv 16] [(.ref a1)]) s1 EF := fun t k => pre0 t (by
   exact XS.aloadN X0.here hx rfl (B d7_0) rfl rfl k)
  obtain ⟨T2, X2, e2, st2⟩ := initO X0 hx hZ hown (hw _ (mW 55 rfl)) (hw _ (mW 16 rfl)) (hw _ (mW 17 rfl)) e0 (g := (mkF m 1 #[rv a1, iv 16] [(.ref a1)])) rfl (hM rfl) rfl (B d7_1) (by decide) (W := 0) (Nat.le_of_eq rfl) (by decide)
  have pre3 : Go p e bl T2 (mkF m 4 #[rv a1, iv 16] []) s1 EF := fun t k => pre1 t (st2 t k)
  obtain ⟨T4, X4, e4, st4⟩ := getS2 X2 hx hZ hown (host := "") (Or.inl (hw _ (mW 56 rfl))) Via.refl e2 (J0.1.ext O0.2) (g := (mkF m 4 #[rv a1, iv 16] [])) rfl (B d7_4)
  have pre5 : Go p e bl T4 (mkF m 7 #[rv a1, iv 16] [(.int cz)]) s1 EF := fun t k => pre3 t (st4 t k)
  have pre6 : Go p e bl T4 (mkF m 10 #[rv a1, iv 16] []) s1 EF := fun t k => pre5 t (XS.ifNo X4.here hx rfl (B d7_7) rfl ((if0 _ _).trans (feq J0.2.1).1) k)
  have pre7 : Go p e bl T4 (mkF m 12 #[rv a1, iv 16] [(.int 16), (.ref a1)]) s1 EF := fun t k => pre6 t (by
   refine XS.aloadN X4.here hx rfl (B d7_10) rfl rfl ?_
   exact XS.iloadN X4.here hx rfl (B d7_11) rfl k)
  obtain ⟨T8, h8, k8, X8, e8, Et8, A8, st8⟩ := newP X4 hx hZ (hw _ (mW 23 rfl)) e4 (g := (mkF m 12 #[rv a1, iv 16] [(.int 16), (.ref a1)])) rfl (B d7_12) rfl (by decide) (cap := 16) (by decide) (by decide) (by decide) (by decide)
  obtain ⟨b8, g8⟩ : ∃ z, z = h0.size := ⟨_, rfl⟩
  rw [← g8] at A8 st8
  have g_b8 : n0 ≤ b8 := Nat.le_trans Z0 (Nat.le_of_eq g8.symm)
  have sz_b8 : h0.size ≤ b8 := Nat.le_trans (Keep.refl h0 [a1]).1 (Nat.le_of_eq g8.symm)
  have ne_a1_b8 : a1 ≠ b8 := Nat.ne_of_lt (Nat.lt_of_lt_of_le E1.lt (Nat.le_of_eq g8.symm))
  have pre9 : Go p e bl T8 (mkF m 14 #[rv a1, iv 16] [(.ref b8), (.ref a1)]) s1 EF := fun t k => pre7 t (st8 t k)
  have O10 : Old Z n0 h8 := O0.ext Et8
  have Z10 : n0 ≤ h8.size := Nat.le_trans Z0 Et8.1
  have K10 : Keep h0 h8 [a1] := (Keep.refl h0 [a1]).ext Et8
  have V8 : Arv Z h8 b8 k8 .byte (16 : Int32) [(.int 0), (.int 0), (.int 0), (.int 0), (.int 0), (.int 0), (.int 0), (.int 0), (.int 0), (.int 0), (.int 0), (.int 0), (.int 0), (.int 0), (.int 0), (.int 0)] (.int 0) := (Arv.new A8 (by decide)).pad (pad_rep [] (.int 0) 16)
  obtain ⟨T11, h11, X11, e11, W11, st11⟩ := putF X8 hx hZ hown (host := "") (Or.inl (hw _ (mW 57 rfl))) Via.refl e8 (F1.ext Et8) (E1.ext Et8) (Or.inl (hw _ (mW 58 rfl))) (hw _ (mW 44 rfl)) (ty := (.array .byte)) (by decide) rfl rfl (g := (mkF m 14 #[rv a1, iv 16] [(.ref b8), (.ref a1)])) rfl rfl (B d7_14)
  have pre12 : Go p e bl T11 (mkF m 17 #[rv a1, iv 16] []) s1 EF := fun t k => pre9 t (st11 t k)
  have O13 : Old Z n0 h11 := O10.wr W11 g_a1
  have Z13 : n0 ≤ h11.size := Nat.le_trans Z10 (Keep.of_wr W11).1
  have K13 : Keep h0 h11 [a1] := K10.wr W11 (Or.inl (mg 0 rfl))
  have Fw11 := Fld.same W11 (F1.ext Et8)
  have N11 := Fr.snoc X11 N0 g_a1
  have pre14 : Go p e bl T11 (mkF m 19 #[rv a1, iv 16] [(.int 0), (.ref a1)]) s1 EF := fun t k => pre12 t (by
   refine XS.aloadN X11.here hx rfl (B d7_17) rfl rfl ?_
   exact XS.iconst X11.here hx rfl (B d7_18) k)
  obtain ⟨T15, h15, X15, e15, W15, st15⟩ := putFN X11 hx hZ hown (hw _ (mW 59 rfl)) Via.refl e11 (Fld.other W11 (F2.ext Et8) (Or.inr (slot_ne (Or.inl (hw _ (mW 60 rfl))) (Or.inl (hw _ (mW 58 rfl))) (by decide) (t := .byte) (t' := (.array .byte)) (by decide) (by decide)))) ((E1.ext Et8).wr W11) (Or.inl (hw _ (mW 60 rfl))) (hw _ (mW 44 rfl)) (ty := .byte) (v' := (.int 0)) (by decide) rfl rfl (g := (mkF m 19 #[rv a1, iv 16] [(.int 0), (.ref a1)])) rfl rfl (B d7_19)
  have pre16 : Go p e bl T15 (mkF m 22 #[rv a1, iv 16] []) s1 EF := fun t k => pre14 t (st15 t k)
  have O17 : Old Z n0 h15 := O13.wr W15 g_a1
  have Z17 : n0 ≤ h15.size := Nat.le_trans Z13 (Keep.of_wr W15).1
  have K17 : Keep h0 h15 [a1] := K13.wr W15 (Or.inl (mg 0 rfl))
  have Fw15 := Fld.same W15 (Fld.other W11 (F2.ext Et8) (Or.inr (slot_ne (Or.inl (hw _ (mW 60 rfl))) (Or.inl (hw _ (mW 58 rfl))) (by decide) (t := .byte) (t' := (.array .byte)) (by decide) (by decide))))
  have N15 := Fr.snoc X15 N11 g_a1
  have pre18 : Go p e bl T15 (mkF m 38 #[rv a1, iv 16] []) s1 EF := fun t k => pre16 t (by
   exact XS.goto X15.here hx rfl (pc0 := 22) (pc' := 38) rfl (B d7_22) (by decide) (by decide) k)
  exact fin1 X15 (v := none) (fun _ => rfl) hlk (wl rfl) (wl rfl) (by rw [e15]; exact ⟨rfl, N15, K17, _, _, sz_b8, ⟨(((E1.ext Et8).wr W11).wr W15), (Fld.other W15 Fw11 (Or.inr (slot_ne (Or.inl (hw _ (mW 58 rfl))) (Or.inl (hw _ (mW 60 rfl))) (by decide) (t := (.array .byte)) (t' := .byte) (by decide) (by decide)))), Fw15, (Fld.other W15 (Fld.other W11 (F3.ext Et8) (Or.inr (slot_ne (Or.inl (hw _ (mW 82 rfl))) (Or.inl (hw _ (mW 58 rfl))) (by decide) (t := .int) (t' := (.array .byte)) (by decide) (by decide)))) (Or.inr (slot_ne (Or.inl (hw _ (mW 82 rfl))) (Or.inl (hw _ (mW 60 rfl))) (by decide) (t := .int) (t' := .byte) (by decide) (by decide)))), ((V8.other W11 (Ne.symm ne_a1_b8)).other W15 (Ne.symm ne_a1_b8)), ne_a1_b8, by rfl, by decide⟩⟩) (fun fs hr => hEF ▸ pre18 _ (X15.returnOut hx Bd.returns (B d7_38) hr))
abbrev rKSi : Room := { frames := 2, cells := 1, slots := 16, locals := 25 }
theorem d8_0 : decode jdk_67_method_1_code 0 = .ok (.aload_n 0, 1) := by decide +kernel
theorem d8_1 : decode jdk_67_method_1_code 1 = .ok (.bipush 16, 2) := by decide +kernel
theorem d8_3 : decode jdk_67_method_1_code 3 = .ok (.invokespecial 1, 3) := by decide +kernel
theorem d8_6 : decode jdk_67_method_1_code 6 = .ok (.return_, 1) := by decide +kernel
theorem pn4 : plainName "java/lang/StringBuilder" = true := by first | (simp [plainName, overriddenIn]; done) | decide +kernel
theorem pd5 : parseMethodDescriptor "(I)V" = some ⟨[.int], none⟩ := by decide +kernel
theorem efSi (m : MethodId) (a1 : Addr) : entryFrame m #[(.ref a1)] 1 = mkF m 0 #[rv a1] [] := by first | (simp [entryFrame, mkF, argsToLocals, Value.category]; done) | rfl
def QSi (Z : State) (a1 : Addr) (cz : Int32) (fv : Value) (h0 : Heap) (n0 : Nat) (v : Option Value) (h : Heap) (L : List Loc) : Prop := v = none ∧ Fr n0 L ∧ Keep h0 h [a1] ∧ ∃ b k, h0.size ≤ b ∧ SBd Z h a1 b k 0 []
set_option maxRecDepth 65536 in
set_option maxHeartbeats 40000000 in
theorem rmSi (l : Launch) (Z : State) (a0 : Array Value) (hw : HW a0 Z) (ws : List Jvm.Cond) (a1 : Addr) (cz : Int32) (fv : Value) (h0 : Heap) (n0 : Nat) (Z0 : n0 ≤ h0.size) (O0 : Old Z n0 h0) (J0 : Jd Z cz fv) (E1 : Exa Z h0 a1 "java/lang/StringBuilder") (g_a1 : n0 ≤ a1) (F1 : Fld Z h0 a1 "java/lang/AbstractStringBuilder" "value" "[B" .null) (F2 : Fld Z h0 a1 "java/lang/AbstractStringBuilder" "coder" "B" (.int 0)) (F3 : Fld Z h0 a1 "java/lang/AbstractStringBuilder" "count" "I" (.int 0)) :
    MF l Z mN8 jdk_67_method_1_code 1 none ws rKSi #[(.ref a1)] h0 (QSi Z a1 cz fv h0 n0) := by
  refine MetFree.of_bodySF (plainFor_of_name pn4) hisR ?_
  intro p e s m args bl meth c s1 Bd hml0 hP hK
  obtain ⟨rfl, hZ, hh⟩ := hP
  have hx := Bd.exec
  have hby := Bd.bytes
  have B := @hb c _ hby
  have hM := fun {n : Nat} (h : n = 1) => h.trans hml0.symm
  have hown : s.vm.findClass "java/lang/StringBuilder" = some m.cls := findClass_of_methodNamed Bd.named
  have hlk : meth.locks = false := BodyLoose.notSynchronized Bd
  have X0 : Stand p l e rKSi s m #[(.ref a1)] bl meth c s1 [] 0 0 := Stand.of_body Bd
  have e0 : s1.heap = h0 := by rw [← hh, Bd.state]; rfl
  have N0 := Fr.nil n0
  obtain ⟨EF, hEF⟩ : ∃ f, f = entryFrame m #[(.ref a1)] 1 := ⟨_, rfl⟩
  have pre0 : Go p e bl s1 (mkF m 0 #[rv a1] []) s1 EF := fun t k => by rw [hEF]; exact castTop (efSi m a1) k
  have pre1 : Go p e bl s1 (mkF m 3 #[rv a1] [(.int 16), (.ref a1)]) s1 EF := fun t k => pre0 t (by
   refine XS.aloadN X0.here hx rfl (B d8_0) rfl rfl ?_
   exact XS.bipush X0.here hx rfl (B d8_1) k)
  obtain ⟨_, _, ⟨T2, L2, k2, n2⟩, -, X2, ⟨Lc2, hQ2, l2, y2, z2⟩, st2⟩ := X0.specialBack hx (y := mN7) rfl hown (mvT hZ (hw _ (mW 49 rfl))) (mvT hZ (hw _ (mW 50 rfl))) (mvT hZ (hw _ (mW 54 rfl))) (by decide) (backOf (W := 0) (rmSa l Z a0 hw [] a1 cz fv  h0 n0 Z0 O0 J0 E1 g_a1 F1 F2 F3) hZ (hw _ (mW 54 rfl)) (hw _ (mW 53 rfl)) (by decide) (by decide)) (g := (mkF m 3 #[rv a1] [(.int 16), (.ref a1)])) rfl (hM rfl) (Steps.refl _) (a := a1) (argsL := [(.int 16)]) (rest := []) (lenOf pd5 rfl) rfl (Nat.le_of_eq rfl) (B d8_3) (fun _ _ => ⟨rfl, e0, wl rfl, wl rfl⟩)
  dsimp only [Pt.U, Pt.locs, Pt.cells, Pt.slots] at X2 l2 y2 z2 st2 hQ2
  subst l2 y2 z2
  obtain ⟨rfl, N2q, K2, bv2, kb2, hsz2, SF2⟩ := hQ2
  have N2 := Fr.app N0 N2q
  have pre3 : Go p e bl T2 (mkF m 6 #[rv a1] []) s1 EF := fun t k => pre1 t (st2.trans k)
  have O4 : Old Z n0 T2.heap := O0.keep K2 (allS g_a1 all0)
  have Z4 : n0 ≤ T2.heap.size := Nat.le_trans Z0 K2.1
  have K4 : Keep h0 T2.heap [a1] := (Keep.refl h0 [a1]).trans K2 (allS (Or.inl (mg 0 rfl)) all0)
  exact fin1 X2 (v := none) (fun _ => rfl) hlk (wl rfl) (wl rfl) (by exact ⟨rfl, N2, K4, _, _, hsz2, SF2⟩) (fun fs hr => hEF ▸ pre3 _ (X2.returnOut hx Bd.returns (B d8_6) hr))
abbrev rKSe : Room := { frames := 0, cells := 0, slots := 0, locals := 0 }
theorem d9_0 : decode jdk_68_method_9_code 0 = .ok (.aload_n 0, 1) := by decide +kernel
theorem d9_1 : decode jdk_68_method_9_code 1 = .ok (.getfield 15, 3) := by decide +kernel
theorem d9_4 : decode jdk_68_method_9_code 4 = .ok (.arraylength, 1) := by decide +kernel
theorem d9_5 : decode jdk_68_method_9_code 5 = .ok (.aload_n 0, 1) := by decide +kernel
theorem d9_6 : decode jdk_68_method_9_code 6 = .ok (.getfield 22, 3) := by decide +kernel
theorem d9_9 : decode jdk_68_method_9_code 9 = .ok (.ishr, 1) := by decide +kernel
theorem d9_10 : decode jdk_68_method_9_code 10 = .ok (.istore_n 2, 1) := by decide +kernel
theorem d9_11 : decode jdk_68_method_9_code 11 = .ok (.iload_n 1, 1) := by decide +kernel
theorem d9_12 : decode jdk_68_method_9_code 12 = .ok (.iload_n 2, 1) := by decide +kernel
theorem d9_13 : decode jdk_68_method_9_code 13 = .ok (.isub, 1) := by decide +kernel
theorem d9_14 : decode jdk_68_method_9_code 14 = .ok (.ifCond .le 24, 3) := by decide +kernel
theorem d9_38 : decode jdk_68_method_9_code 38 = .ok (.return_, 1) := by decide +kernel
theorem efSe (m : MethodId) (a1 : Addr) (p1 : Int32) : entryFrame m #[(.ref a1), (.int p1)] 3 = mkF m 0 #[rv a1, iv p1, .unset] [] := by first | (simp [entryFrame, mkF, argsToLocals, Value.category]; done) | rfl
def QSe (Z : State) (a1 : Addr) (p1 : Int32) (cz : Int32) (fv : Value) (vb : Addr) (kb : ClassId) (cc : Int32) (xs : List Int32) (h0 : Heap) (n0 : Nat) (v : Option Value) (h : Heap) (L : List Loc) : Prop := v = none ∧ Fr n0 L ∧ h = h0
set_option maxRecDepth 65536 in
set_option maxHeartbeats 40000000 in
theorem rmSe (l : Launch) (Z : State) (a0 : Array Value) (hw : HW a0 Z) (ws : List Jvm.Cond) (a1 : Addr) (p1 : Int32) (cz : Int32) (fv : Value) (vb : Addr) (kb : ClassId) (cc : Int32) (xs : List Int32) (h0 : Heap) (n0 : Nat) (Z0 : n0 ≤ h0.size) (O0 : Old Z n0 h0) (J0 : Jd Z cz fv) (SD : SBd Z h0 a1 vb kb cc xs) (hle : ¬ (0 : Int32) < p1 - 16) :
    MF l Z mN9 jdk_68_method_9_code 3 none ws rKSe #[(.ref a1), (.int p1)] h0 (QSe Z a1 p1 cz fv vb kb cc xs h0 n0) := by
  refine MetFree.of_bodySF (plainFor_of_name pn3) hisR ?_
  intro p e s m args bl meth c s1 Bd hml0 hP hK
  obtain ⟨rfl, hZ, hh⟩ := hP
  have hx := Bd.exec
  have hby := Bd.bytes
  have B := @hb c _ hby
  have hown : s.vm.findClass "java/lang/AbstractStringBuilder" = some m.cls := findClass_of_methodNamed Bd.named
  have hlk : meth.locks = false := BodyLoose.notSynchronized Bd
  have X0 : Stand p l e rKSe s m #[(.ref a1), (.int p1)] bl meth c s1 [] 0 0 := Stand.of_body Bd
  have e0 : s1.heap = h0 := by rw [← hh, Bd.state]; rfl
  have N0 := Fr.nil n0
  obtain ⟨EF, hEF⟩ : ∃ f, f = entryFrame m #[(.ref a1), (.int p1)] 3 := ⟨_, rfl⟩
  have pre0 : Go p e bl s1 (mkF m 0 #[rv a1, iv p1, .unset] []) s1 EF := fun t k => by rw [hEF]; exact castTop (efSe m a1 p1) k
  have pre1 : Go p e bl s1 (mkF m 1 #[rv a1, iv p1, .unset] [(.ref a1)]) s1 EF := fun t k => pre0 t (by
   exact XS.aloadN X0.here hx rfl (B d9_0) rfl rfl k)
  obtain ⟨T2, X2, e2, st2⟩ := getF X0 hx hZ hown (host := "") (Or.inl (hw _ (mW 57 rfl))) Via.refl e0 SD.2.1 (g := (mkF m 1 #[rv a1, iv p1, .unset] [(.ref a1)])) rfl rfl (B d9_1)
  have pre3 : Go p e bl T2 (mkF m 4 #[rv a1, iv p1, .unset] [(.ref vb)]) s1 EF := fun t k => pre1 t (st2 t k)
  obtain ⟨cl4, Ar4, q4, Sz4, M4, H4, G4⟩ := id SD.2.2.2.2.1
  have pre5 : Go p e bl T2 (mkF m 6 #[rv a1, iv p1, .unset] [(.ref a1), (.int 16)]) s1 EF := fun t k => pre3 t (by
   refine X2.arraylength hx (hp e2 Ar4) (State.isArrayOf_alike hZ.alike Ar4.2.1) (g := (mkF m 4 #[rv a1, iv p1, .unset] [(.ref vb)])) rfl rfl (B d9_4) _ ?_
   rw [len_of Sz4 M4]
   exact XS.aloadN X2.here hx rfl (B d9_5) rfl rfl k)
  obtain ⟨T6, X6, e6, st6⟩ := getF X2 hx hZ hown (host := "") (Or.inl (hw _ (mW 59 rfl))) Via.refl e2 SD.2.2.1 (g := (mkF m 6 #[rv a1, iv p1, .unset] [(.ref a1), (.int 16)])) rfl rfl (B d9_6)
  have pre7 : Go p e bl T6 (mkF m 9 #[rv a1, iv p1, .unset] [(.int 0), (.int 16)]) s1 EF := fun t k => pre5 t (st6 t k)
  have pre8 : Go p e bl T6 (mkF m 14 #[rv a1, iv p1, iv 16] [(.int (p1 - (16 : Int32)))]) s1 EF := fun t k => pre7 t (by
   refine XS.ishr X6.here hx rfl (B d9_9) rfl ?_
   refine XS.istoreN X6.here hx rfl (B d9_10) rfl (l' := #[rv a1, iv p1, iv 16]) rfl ?_
   refine XS.iloadN X6.here hx rfl (B d9_11) rfl ?_
   refine XS.iloadN X6.here hx rfl (B d9_12) rfl ?_
   exact XS.isub X6.here hx rfl (B d9_13) rfl k)
  have pre9 : Go p e bl T6 (mkF m 38 #[rv a1, iv p1, iv 16] []) s1 EF := fun t k => pre8 t (XS.ifYes X6.here hx rfl (pc0 := 14) (pc' := 38) rfl (B d9_14) rfl ((if0 _ _).trans (flt hle).2.2.2) (by decide) (by decide) k)
  exact fin1 X6 (v := none) (fun _ => rfl) hlk (wl rfl) (wl rfl) (by rw [e6]; exact ⟨rfl, N0, rfl⟩) (fun fs hr => hEF ▸ pre9 _ (X6.returnOut hx Bd.returns (B d9_38) hr))
abbrev rKSn : Room := { frames := 1, cells := 0, slots := 0, locals := 13 }
theorem d10_0 : decode jdk_68_method_71_code 0 = .ok (.getstatic 18, 3) := by decide +kernel
theorem d10_3 : decode jdk_68_method_71_code 3 = .ok (.ifCond .eq 18, 3) := by decide +kernel
theorem d10_6 : decode jdk_68_method_71_code 6 = .ok (.aload_n 0, 1) := by decide +kernel
theorem d10_7 : decode jdk_68_method_71_code 7 = .ok (.getfield 22, 3) := by decide +kernel
theorem d10_10 : decode jdk_68_method_71_code 10 = .ok (.aload_n 1, 1) := by decide +kernel
theorem d10_11 : decode jdk_68_method_71_code 11 = .ok (.invokevirtual 40, 3) := by decide +kernel
theorem d10_14 : decode jdk_68_method_71_code 14 = .ok (.if_icmp .eq 7, 3) := by decide +kernel
theorem d10_21 : decode jdk_68_method_71_code 21 = .ok (.return_, 1) := by decide +kernel
theorem efSn (m : MethodId) (a1 : Addr) (a2 : Addr) : entryFrame m #[(.ref a1), (.ref a2)] 2 = mkF m 0 #[rv a1, rv a2] [] := by first | (simp [entryFrame, mkF, argsToLocals, Value.category]; done) | rfl
def QSn (Z : State) (a1 : Addr) (a2 : Addr) (cz : Int32) (fv : Value) (vb : Addr) (kb : ClassId) (cc : Int32) (xs : List Int32) (b2 : Addr) (k2 : ClassId) (n2 : Int32) (bs2 : List Int32) (hs2 : Int32) (hz2 : Int32) (h0 : Heap) (n0 : Nat) (v : Option Value) (h : Heap) (L : List Loc) : Prop := v = none ∧ Fr n0 L ∧ h = h0
set_option maxRecDepth 65536 in
set_option maxHeartbeats 40000000 in
theorem rmSn (l : Launch) (Z : State) (a0 : Array Value) (hw : HW a0 Z) (ws : List Jvm.Cond) (a1 : Addr) (a2 : Addr) (cz : Int32) (fv : Value) (vb : Addr) (kb : ClassId) (cc : Int32) (xs : List Int32) (b2 : Addr) (k2 : ClassId) (n2 : Int32) (bs2 : List Int32) (hs2 : Int32) (hz2 : Int32) (h0 : Heap) (n0 : Nat) (Z0 : n0 ≤ h0.size) (O0 : Old Z n0 h0) (J0 : Jd Z cz fv) (SD : SBd Z h0 a1 vb kb cc xs) (SL : StL Z h0 a2 b2 k2 n2 bs2 hs2 hz2) :
    MF l Z mN10 jdk_68_method_71_code 2 none ws rKSn #[(.ref a1), (.ref a2)] h0 (QSn Z a1 a2 cz fv vb kb cc xs b2 k2 n2 bs2 hs2 hz2 h0 n0) := by
  refine MetFree.of_bodySF (plainFor_of_name pn3) hisR ?_
  intro p e s m args bl meth c s1 Bd hml0 hP hK
  obtain ⟨rfl, hZ, hh⟩ := hP
  have hx := Bd.exec
  have hby := Bd.bytes
  have B := @hb c _ hby
  have hM := fun {n : Nat} (h : n = 2) => h.trans hml0.symm
  have hown : s.vm.findClass "java/lang/AbstractStringBuilder" = some m.cls := findClass_of_methodNamed Bd.named
  have hlk : meth.locks = false := BodyLoose.notSynchronized Bd
  have X0 : Stand p l e rKSn s m #[(.ref a1), (.ref a2)] bl meth c s1 [] 0 0 := Stand.of_body Bd
  have e0 : s1.heap = h0 := by rw [← hh, Bd.state]; rfl
  have N0 := Fr.nil n0
  obtain ⟨EF, hEF⟩ : ∃ f, f = entryFrame m #[(.ref a1), (.ref a2)] 2 := ⟨_, rfl⟩
  have pre0 : Go p e bl s1 (mkF m 0 #[rv a1, rv a2] []) s1 EF := fun t k => by rw [hEF]; exact castTop (efSn m a1 a2) k
  obtain ⟨T1, X1, e1, st1⟩ := getS2 X0 hx hZ hown (host := "") (Or.inl (hw _ (mW 56 rfl))) Via.refl e0 (J0.1.ext O0.2) (g := (mkF m 0 #[rv a1, rv a2] [])) rfl (B d10_0)
  have pre2 : Go p e bl T1 (mkF m 3 #[rv a1, rv a2] [(.int cz)]) s1 EF := fun t k => pre0 t (st1 t k)
  have pre3 : Go p e bl T1 (mkF m 6 #[rv a1, rv a2] []) s1 EF := fun t k => pre2 t (XS.ifNo X1.here hx rfl (B d10_3) rfl ((if0 _ _).trans (feq J0.2.1).1) k)
  have pre4 : Go p e bl T1 (mkF m 7 #[rv a1, rv a2] [(.ref a1)]) s1 EF := fun t k => pre3 t (by
   exact XS.aloadN X1.here hx rfl (B d10_6) rfl rfl k)
  obtain ⟨T5, X5, e5, st5⟩ := getF X1 hx hZ hown (host := "") (Or.inl (hw _ (mW 59 rfl))) Via.refl e1 SD.2.2.1 (g := (mkF m 7 #[rv a1, rv a2] [(.ref a1)])) rfl rfl (B d10_7)
  have pre6 : Go p e bl T5 (mkF m 10 #[rv a1, rv a2] [(.int 0)]) s1 EF := fun t k => pre4 t (st5 t k)
  have pre7 : Go p e bl T5 (mkF m 11 #[rv a1, rv a2] [(.ref a2), (.int 0)]) s1 EF := fun t k => pre6 t (by
   exact XS.aloadN X5.here hx rfl (B d10_10) rfl rfl k)
  obtain ⟨cq8, kq8, q8a, q8b, q8c⟩ := isOf hZ e5 SL.1
  obtain ⟨_, _, ⟨T8, L8, k8, n8⟩, -, X8, ⟨Lc8, hQ8, l8, y8, z8⟩, st8⟩ := X5.virtualBack hx (y := mN0) (z := mN0) hown (mvT hZ (hw _ (mW 98 rfl))) (mvT hZ (hw _ (mW 77 rfl))) (notFace_of_selects (args := #[]) (mvT hZ (hw _ (mW 79 rfl)))) (mvT hZ (hw _ (mW 79 rfl))) (mvT hZ (hw _ (mW 78 rfl))) (by decide) (backOf (W := 1) (rmJco l Z a0 hw [] a2 cz fv (0 : Int32) (0 : Int32) h0 n0 Z0 O0 J0 SL.2.1 rfl rfl) hZ (hw _ (mW 80 rfl)) (hw _ (mW 6 rfl)) (by decide) (by decide)) q8a q8c (g := (mkF m 11 #[rv a1, rv a2] [(.ref a2), (.int 0)])) rfl (hM rfl) (Steps.refl _) (argsL := []) (rest := [(.int 0)]) (lenOf pd0 rfl) rfl (Nat.le_of_eq rfl) (B d10_11) (fun _ _ => ⟨rfl, e5, wl rfl, wl rfl⟩)
  dsimp only [Pt.U, Pt.locs, Pt.cells, Pt.slots] at X8 l8 y8 z8 st8 hQ8
  subst l8 y8 z8
  obtain ⟨rfl, N8q, hq8⟩ := hQ8
  have N8 := Fr.app N0 N8q
  have pre9 : Go p e bl T8 (mkF m 14 #[rv a1, rv a2] [(.int 0), (.int 0)]) s1 EF := fun t k => pre7 t (st8.trans k)
  have e8 : T8.heap = h0 := hq8
  have pre10 : Go p e bl T8 (mkF m 21 #[rv a1, rv a2] []) s1 EF := fun t k => pre9 t (XS.icmpYes X8.here hx rfl (pc0 := 14) (pc' := 21) rfl (B d10_14) rfl (teq (by decide : (0 : Int32) = (0 : Int32))).1 (by decide) (by decide) k)
  exact fin1 X8 (v := none) (fun _ => rfl) hlk (wl rfl) (wl rfl) (by rw [e8]; exact ⟨rfl, N8, rfl⟩) (fun fs hr => hEF ▸ pre10 _ (X8.returnOut hx Bd.returns (B d10_21) hr))
abbrev rKSg : Room := { frames := 1, cells := 0, slots := 0, locals := 40 }
theorem d11_0 : decode jdk_42_method_147_code 0 = .ok (.aload_n 0, 1) := by decide +kernel
theorem d11_1 : decode jdk_42_method_147_code 1 = .ok (.invokevirtual 335, 3) := by decide +kernel
theorem d11_4 : decode jdk_42_method_147_code 4 = .ok (.iload_n 3, 1) := by decide +kernel
theorem d11_5 : decode jdk_42_method_147_code 5 = .ok (.if_icmp .ne 23, 3) := by decide +kernel
theorem d11_8 : decode jdk_42_method_147_code 8 = .ok (.aload_n 0, 1) := by decide +kernel
theorem d11_9 : decode jdk_42_method_147_code 9 = .ok (.getfield 9, 3) := by decide +kernel
theorem d11_12 : decode jdk_42_method_147_code 12 = .ok (.iconst 0, 1) := by decide +kernel
theorem d11_13 : decode jdk_42_method_147_code 13 = .ok (.aload_n 1, 1) := by decide +kernel
theorem d11_14 : decode jdk_42_method_147_code 14 = .ok (.iload_n 2, 1) := by decide +kernel
theorem d11_15 : decode jdk_42_method_147_code 15 = .ok (.iload_n 3, 1) := by decide +kernel
theorem d11_16 : decode jdk_42_method_147_code 16 = .ok (.ishl, 1) := by decide +kernel
theorem d11_17 : decode jdk_42_method_147_code 17 = .ok (.aload_n 0, 1) := by decide +kernel
theorem d11_18 : decode jdk_42_method_147_code 18 = .ok (.getfield 9, 3) := by decide +kernel
theorem d11_21 : decode jdk_42_method_147_code 21 = .ok (.arraylength, 1) := by decide +kernel
theorem d11_22 : decode jdk_42_method_147_code 22 = .ok (.invokestatic 212, 3) := by decide +kernel
theorem d11_25 : decode jdk_42_method_147_code 25 = .ok (.goto 18, 3) := by decide +kernel
theorem d11_43 : decode jdk_42_method_147_code 43 = .ok (.return_, 1) := by decide +kernel
theorem efSg (m : MethodId) (a2 : Addr) (a3 : Addr) (p1 : Int32) : entryFrame m #[(.ref a2), (.ref a3), (.int p1), (.int 0)] 4 = mkF m 0 #[rv a2, rv a3, iv p1, iv 0] [] := by first | (simp [entryFrame, mkF, argsToLocals, Value.category]; done) | rfl
def QSg (Z : State) (a2 : Addr) (a3 : Addr) (p1 : Int32) (cz : Int32) (fv : Value) (kb : ClassId) (xs : List Int32) (b2 : Addr) (k2 : ClassId) (n2 : Int32) (bs2 : List Int32) (hs2 : Int32) (hz2 : Int32) (h0 : Heap) (n0 : Nat) (v : Option Value) (h : Heap) (L : List Loc) : Prop := v = none ∧ Fr n0 L ∧ Keep h0 h [a3] ∧ Arv Z h a3 kb .byte (16 : Int32) (BV (pad (xs ++ bs2))) (.int 0)
set_option maxRecDepth 65536 in
set_option maxHeartbeats 40000000 in
theorem rmSg (l : Launch) (Z : State) (a0 : Array Value) (hw : HW a0 Z) (ws : List Jvm.Cond) (a2 : Addr) (a3 : Addr) (p1 : Int32) (cz : Int32) (fv : Value) (kb : ClassId) (xs : List Int32) (b2 : Addr) (k2 : ClassId) (n2 : Int32) (bs2 : List Int32) (hs2 : Int32) (hz2 : Int32) (h0 : Heap) (n0 : Nat) (Z0 : n0 ≤ h0.size) (O0 : Old Z n0 h0) (J0 : Jd Z cz fv) (SL : StL Z h0 a2 b2 k2 n2 bs2 hs2 hz2) (V3 : Arv Z h0 a3 kb .byte (16 : Int32) (BV (pad xs)) (.int 0)) (g_a3 : n0 ≤ a3) (hc : p1.toInt = xs.length) (gn : n2.toInt = bs2.length) (hs : xs.length + bs2.length ≤ 16) :
    MF l Z mN11 jdk_42_method_147_code 4 none ws rKSg #[(.ref a2), (.ref a3), (.int p1), (.int 0)] h0 (QSg Z a2 a3 p1 cz fv kb xs b2 k2 n2 bs2 hs2 hz2 h0 n0) := by
  refine MetFree.of_bodySF (plainFor_of_name pn0) hisR ?_
  intro p e s m args bl meth c s1 Bd hml0 hP hK
  obtain ⟨rfl, hZ, hh⟩ := hP
  have hx := Bd.exec
  have hby := Bd.bytes
  have B := @hb c _ hby
  have hM := fun {n : Nat} (h : n = 4) => h.trans hml0.symm
  have hown : s.vm.findClass "java/lang/String" = some m.cls := findClass_of_methodNamed Bd.named
  have hlk : meth.locks = false := BodyLoose.notSynchronized Bd
  have X0 : Stand p l e rKSg s m #[(.ref a2), (.ref a3), (.int p1), (.int 0)] bl meth c s1 [] 0 0 := Stand.of_body Bd
  have e0 : s1.heap = h0 := by rw [← hh, Bd.state]; rfl
  have N0 := Fr.nil n0
  obtain ⟨EF, hEF⟩ : ∃ f, f = entryFrame m #[(.ref a2), (.ref a3), (.int p1), (.int 0)] 4 := ⟨_, rfl⟩
  have pre0 : Go p e bl s1 (mkF m 0 #[rv a2, rv a3, iv p1, iv 0] []) s1 EF := fun t k => by rw [hEF]; exact castTop (efSg m a2 a3 p1) k
  have dc := own_clamp hc
  have nc := own_clamp gn
  have pl := own_pad xs (by omega)
  have ep := own_shl0 p1
  have pre1 : Go p e bl s1 (mkF m 1 #[rv a2, rv a3, iv p1, iv 0] [(.ref a2)]) s1 EF := fun t k => pre0 t (by
   exact XS.aloadN X0.here hx rfl (B d11_0) rfl rfl k)
  obtain ⟨cq2, kq2, q2a, q2b, q2c⟩ := isOf hZ e0 SL.1
  obtain ⟨_, _, ⟨T2, L2, k2, n2⟩, -, X2, ⟨Lc2, hQ2, l2, y2, z2⟩, st2⟩ := X0.virtualBack hx (y := mN0) (z := mN0) hown (mvT hZ (hw _ (mW 76 rfl))) (mvT hZ (hw _ (mW 77 rfl))) (notFace_of_selects (args := #[]) (mvT hZ (hw _ (mW 79 rfl)))) (mvT hZ (hw _ (mW 79 rfl))) (mvT hZ (hw _ (mW 78 rfl))) (by decide) (backOf (W := 0) (rmJco l Z a0 hw [] a2 cz fv (0 : Int32) (0 : Int32) h0 n0 Z0 O0 J0 SL.2.1 rfl rfl) hZ (hw _ (mW 80 rfl)) (hw _ (mW 6 rfl)) (by decide) (by decide)) q2a q2c (g := (mkF m 1 #[rv a2, rv a3, iv p1, iv 0] [(.ref a2)])) rfl (hM rfl) (Steps.refl _) (argsL := []) (rest := []) (lenOf pd0 rfl) rfl (Nat.le_of_eq rfl) (B d11_1) (fun _ _ => ⟨rfl, e0, wl rfl, wl rfl⟩)
  dsimp only [Pt.U, Pt.locs, Pt.cells, Pt.slots] at X2 l2 y2 z2 st2 hQ2
  subst l2 y2 z2
  obtain ⟨rfl, N2q, hq2⟩ := hQ2
  have N2 := Fr.app N0 N2q
  have pre3 : Go p e bl T2 (mkF m 4 #[rv a2, rv a3, iv p1, iv 0] [(.int 0)]) s1 EF := fun t k => pre1 t (st2.trans k)
  have e2 : T2.heap = h0 := hq2
  have pre4 : Go p e bl T2 (mkF m 5 #[rv a2, rv a3, iv p1, iv 0] [(.int 0), (.int 0)]) s1 EF := fun t k => pre3 t (by
   exact XS.iloadN X2.here hx rfl (B d11_4) rfl k)
  have pre5 : Go p e bl T2 (mkF m 8 #[rv a2, rv a3, iv p1, iv 0] []) s1 EF := fun t k => pre4 t (XS.icmpNo X2.here hx rfl (B d11_5) rfl (teq (by decide : (0 : Int32) = (0 : Int32))).2 k)
  have pre6 : Go p e bl T2 (mkF m 9 #[rv a2, rv a3, iv p1, iv 0] [(.ref a2)]) s1 EF := fun t k => pre5 t (by
   exact XS.aloadN X2.here hx rfl (B d11_8) rfl rfl k)
  obtain ⟨T7, X7, e7, st7⟩ := getF X2 hx hZ hown (host := "") (Or.inl (hw _ (mW 32 rfl))) Via.refl e2 SL.2.2.1 (g := (mkF m 9 #[rv a2, rv a3, iv p1, iv 0] [(.ref a2)])) rfl rfl (B d11_9)
  have pre8 : Go p e bl T7 (mkF m 12 #[rv a2, rv a3, iv p1, iv 0] [(.ref b2)]) s1 EF := fun t k => pre6 t (st7 t k)
  have pre9 : Go p e bl T7 (mkF m 18 #[rv a2, rv a3, iv p1, iv 0] [(.ref a2), (.int (p1 <<< ((0 : Int32) &&& 31))), (.ref a3), (.int 0), (.ref b2)]) s1 EF := fun t k => pre8 t (by
   refine XS.iconst X7.here hx rfl (B d11_12) ?_
   refine XS.aloadN X7.here hx rfl (B d11_13) rfl rfl ?_
   refine XS.iloadN X7.here hx rfl (B d11_14) rfl ?_
   refine XS.iloadN X7.here hx rfl (B d11_15) rfl ?_
   refine XS.ishl X7.here hx rfl (B d11_16) rfl ?_
   exact XS.aloadN X7.here hx rfl (B d11_17) rfl rfl k)
  obtain ⟨T10, X10, e10, st10⟩ := getF X7 hx hZ hown (host := "") (Or.inl (hw _ (mW 32 rfl))) Via.refl e7 SL.2.2.1 (g := (mkF m 18 #[rv a2, rv a3, iv p1, iv 0] [(.ref a2), (.int (p1 <<< ((0 : Int32) &&& 31))), (.ref a3), (.int 0), (.ref b2)])) rfl rfl (B d11_18)
  have pre11 : Go p e bl T10 (mkF m 21 #[rv a2, rv a3, iv p1, iv 0] [(.ref b2), (.int (p1 <<< ((0 : Int32) &&& 31))), (.ref a3), (.int 0), (.ref b2)]) s1 EF := fun t k => pre9 t (st10 t k)
  obtain ⟨cl12, Ar12, q12, Sz12, M12, H12, G12⟩ := id SL.2.2.2.1
  have pre13 : Go p e bl T10 (mkF m 22 #[rv a2, rv a3, iv p1, iv 0] [(.int n2), (.int (p1 <<< ((0 : Int32) &&& 31))), (.ref a3), (.int 0), (.ref b2)]) s1 EF := fun t k => pre11 t (by
   refine X10.arraylength hx (hp e10 Ar12) (State.isArrayOf_alike hZ.alike Ar12.2.1) (g := (mkF m 21 #[rv a2, rv a3, iv p1, iv 0] [(.ref b2), (.int (p1 <<< ((0 : Int32) &&& 31))), (.ref a3), (.int 0), (.ref b2)])) rfl rfl (B d11_21) _ ?_
   rw [len_of Sz12 M12]
   exact k)
  obtain ⟨T14, h14, L14, X14, e14, N14, K14, VC14, st14⟩ := cpA X10 hx hZ hown (hw _ (mW 104 rfl)) (hw _ (mW 107 rfl)) (hw _ (mW 105 rfl)) (hw _ (mW 106 rfl)) e10 SL.2.2.2.1 V3 (Or.inl ⟨rfl, rfl⟩) (by decide) (by rw [ep]; exact own_nneg hc) (own_nneg gn) (by rw [nc]; exact Nat.le_of_eq (Nat.zero_add _)) (by rw [ep, dc, nc]; exact hs) rfl (by rw [ep, dc, nc]; simp only [BV, List.length_map]; omega) N2 g_a3 (g := (mkF m 22 #[rv a2, rv a3, iv p1, iv 0] [(.int n2), (.int (p1 <<< ((0 : Int32) &&& 31))), (.ref a3), (.int 0), (.ref b2)])) rfl (hM rfl) rfl (B d11_22) (by decide) (W := 0) (Nat.le_of_eq rfl) (by decide)
  have pre15 : Go p e bl T14 (mkF m 25 #[rv a2, rv a3, iv p1, iv 0] []) s1 EF := fun t k => pre13 t (st14 t k)
  have O16 : Old Z n0 h14 := O0.keep K14 (allS g_a3 all0)
  have Z16 : n0 ≤ h14.size := Nat.le_trans Z0 K14.1
  have K16 : Keep h0 h14 [a3] := (Keep.refl h0 [a3]).trans K14 (allS (Or.inl (mg 0 rfl)) all0)
  rw [ep, dc, nc, own_rng0, own_cat _ _ hs] at VC14
  have pre17 : Go p e bl T14 (mkF m 43 #[rv a2, rv a3, iv p1, iv 0] []) s1 EF := fun t k => pre15 t (by
   exact XS.goto X14.here hx rfl (pc0 := 25) (pc' := 43) rfl (B d11_25) (by decide) (by decide) k)
  exact fin1 X14 (v := none) (fun _ => rfl) hlk (wl rfl) (wl rfl) (by rw [e14]; exact ⟨rfl, N14, K16, VC14⟩) (fun fs hr => hEF ▸ pre17 _ (X14.returnOut hx Bd.returns (B d11_43) hr))
abbrev rKSp : Room := { frames := 2, cells := 0, slots := 0, locals := 55 }
theorem d12_0 : decode jdk_68_method_73_code 0 = .ok (.aload_n 0, 1) := by decide +kernel
theorem d12_1 : decode jdk_68_method_73_code 1 = .ok (.aload_n 2, 1) := by decide +kernel
theorem d12_2 : decode jdk_68_method_73_code 2 = .ok (.invokevirtual 397, 3) := by decide +kernel
theorem d12_5 : decode jdk_68_method_73_code 5 = .ok (.aload_n 2, 1) := by decide +kernel
theorem d12_6 : decode jdk_68_method_73_code 6 = .ok (.aload_n 0, 1) := by decide +kernel
theorem d12_7 : decode jdk_68_method_73_code 7 = .ok (.getfield 15, 3) := by decide +kernel
theorem d12_10 : decode jdk_68_method_73_code 10 = .ok (.iload_n 1, 1) := by decide +kernel
theorem d12_11 : decode jdk_68_method_73_code 11 = .ok (.aload_n 0, 1) := by decide +kernel
theorem d12_12 : decode jdk_68_method_73_code 12 = .ok (.getfield 22, 3) := by decide +kernel
theorem d12_15 : decode jdk_68_method_73_code 15 = .ok (.invokevirtual 399, 3) := by decide +kernel
theorem d12_18 : decode jdk_68_method_73_code 18 = .ok (.return_, 1) := by decide +kernel
theorem pd6 : parseMethodDescriptor "(Ljava/lang/String;)V" = some ⟨[(.object "java/lang/String")], none⟩ := by decide +kernel
theorem pd7 : parseMethodDescriptor "([BIB)V" = some ⟨[(.array .byte), .int, .byte], none⟩ := by decide +kernel
theorem efSp (m : MethodId) (a1 : Addr) (p1 : Int32) (a2 : Addr) : entryFrame m #[(.ref a1), (.int p1), (.ref a2)] 3 = mkF m 0 #[rv a1, iv p1, rv a2] [] := by first | (simp [entryFrame, mkF, argsToLocals, Value.category]; done) | rfl
def QSp (Z : State) (a1 : Addr) (p1 : Int32) (a2 : Addr) (cz : Int32) (fv : Value) (vb : Addr) (kb : ClassId) (cc : Int32) (xs : List Int32) (b2 : Addr) (k2 : ClassId) (n2 : Int32) (bs2 : List Int32) (hs2 : Int32) (hz2 : Int32) (h0 : Heap) (n0 : Nat) (v : Option Value) (h : Heap) (L : List Loc) : Prop := v = none ∧ Fr n0 L ∧ Keep h0 h [vb] ∧ Arv Z h vb kb .byte (16 : Int32) (BV (pad (xs ++ bs2))) (.int 0)
set_option maxRecDepth 65536 in
set_option maxHeartbeats 40000000 in
theorem rmSp (l : Launch) (Z : State) (a0 : Array Value) (hw : HW a0 Z) (ws : List Jvm.Cond) (a1 : Addr) (p1 : Int32) (a2 : Addr) (cz : Int32) (fv : Value) (vb : Addr) (kb : ClassId) (cc : Int32) (xs : List Int32) (b2 : Addr) (k2 : ClassId) (n2 : Int32) (bs2 : List Int32) (hs2 : Int32) (hz2 : Int32) (h0 : Heap) (n0 : Nat) (Z0 : n0 ≤ h0.size) (O0 : Old Z n0 h0) (J0 : Jd Z cz fv) (SD : SBd Z h0 a1 vb kb cc xs) (SL : StL Z h0 a2 b2 k2 n2 bs2 hs2 hz2) (hc : p1.toInt = xs.length) (gn : n2.toInt = bs2.length) (hs : xs.length + bs2.length ≤ 16) (g_vb : n0 ≤ vb) :
    MF l Z mN12 jdk_68_method_73_code 3 none ws rKSp #[(.ref a1), (.int p1), (.ref a2)] h0 (QSp Z a1 p1 a2 cz fv vb kb cc xs b2 k2 n2 bs2 hs2 hz2 h0 n0) := by
  refine MetFree.of_bodySF (plainFor_of_name pn3) hisR ?_
  intro p e s m args bl meth c s1 Bd hml0 hP hK
  obtain ⟨rfl, hZ, hh⟩ := hP
  have hx := Bd.exec
  have hby := Bd.bytes
  have B := @hb c _ hby
  have hM := fun {n : Nat} (h : n = 3) => h.trans hml0.symm
  have hown : s.vm.findClass "java/lang/AbstractStringBuilder" = some m.cls := findClass_of_methodNamed Bd.named
  have hlk : meth.locks = false := BodyLoose.notSynchronized Bd
  have X0 : Stand p l e rKSp s m #[(.ref a1), (.int p1), (.ref a2)] bl meth c s1 [] 0 0 := Stand.of_body Bd
  have e0 : s1.heap = h0 := by rw [← hh, Bd.state]; rfl
  have N0 := Fr.nil n0
  obtain ⟨EF, hEF⟩ : ∃ f, f = entryFrame m #[(.ref a1), (.int p1), (.ref a2)] 3 := ⟨_, rfl⟩
  have pre0 : Go p e bl s1 (mkF m 0 #[rv a1, iv p1, rv a2] []) s1 EF := fun t k => by rw [hEF]; exact castTop (efSp m a1 p1 a2) k
  have pre1 : Go p e bl s1 (mkF m 2 #[rv a1, iv p1, rv a2] [(.ref a2), (.ref a1)]) s1 EF := fun t k => pre0 t (by
   refine XS.aloadN X0.here hx rfl (B d12_0) rfl rfl ?_
   exact XS.aloadN X0.here hx rfl (B d12_1) rfl rfl k)
  obtain ⟨cq2, q2a, q2b⟩ := SD.1.cell
  obtain ⟨_, _, ⟨T2, L2, k2, n2⟩, -, X2, ⟨Lc2, hQ2, l2, y2, z2⟩, st2⟩ := X0.privateBack hx (y := mN10) hown (mvT hZ (hw _ (mW 93 rfl))) (mvT hZ (hw _ (mW 94 rfl))) (own_sel (mvT hZ (hw _ (mW 96 rfl))) (mvT hZ (hw _ (mW 94 rfl))) (Cond.privateMethod_at (mvP hZ (hw _ (mW 95 rfl)) (args := #[]))) (by decide)) (Cond.privateMethod_at (mvP hZ (hw _ (mW 95 rfl)) (args := #[]))) (mvT hZ (hw _ (mW 97 rfl))) (by decide) (backOf (W := 0) (rmSn l Z a0 hw [] a1 a2 cz fv vb kb cc xs b2 k2 n2 bs2 hs2 hz2 h0 n0 Z0 O0 J0 SD SL) hZ (hw _ (mW 97 rfl)) (hw _ (mW 53 rfl)) (by decide) (by decide)) (g := (mkF m 2 #[rv a1, iv p1, rv a2] [(.ref a2), (.ref a1)])) rfl (hM rfl) (Steps.refl _) (a := a1) (by rw [e0]; exact q2a) q2b (argsL := [(.ref a2)]) (rest := []) (lenOf pd6 rfl) rfl (Nat.le_of_eq rfl) (B d12_2) (fun _ _ => ⟨rfl, e0, wl rfl, wl rfl⟩)
  dsimp only [Pt.U, Pt.locs, Pt.cells, Pt.slots] at X2 l2 y2 z2 st2 hQ2
  subst l2 y2 z2
  obtain ⟨rfl, N2q, hq2⟩ := hQ2
  have N2 := Fr.app N0 N2q
  have pre3 : Go p e bl T2 (mkF m 5 #[rv a1, iv p1, rv a2] []) s1 EF := fun t k => pre1 t (st2.trans k)
  have e2 : T2.heap = h0 := hq2
  have pre4 : Go p e bl T2 (mkF m 7 #[rv a1, iv p1, rv a2] [(.ref a1), (.ref a2)]) s1 EF := fun t k => pre3 t (by
   refine XS.aloadN X2.here hx rfl (B d12_5) rfl rfl ?_
   exact XS.aloadN X2.here hx rfl (B d12_6) rfl rfl k)
  obtain ⟨T5, X5, e5, st5⟩ := getF X2 hx hZ hown (host := "") (Or.inl (hw _ (mW 57 rfl))) Via.refl e2 SD.2.1 (g := (mkF m 7 #[rv a1, iv p1, rv a2] [(.ref a1), (.ref a2)])) rfl rfl (B d12_7)
  have pre6 : Go p e bl T5 (mkF m 10 #[rv a1, iv p1, rv a2] [(.ref vb), (.ref a2)]) s1 EF := fun t k => pre4 t (st5 t k)
  have pre7 : Go p e bl T5 (mkF m 12 #[rv a1, iv p1, rv a2] [(.ref a1), (.int p1), (.ref vb), (.ref a2)]) s1 EF := fun t k => pre6 t (by
   refine XS.iloadN X5.here hx rfl (B d12_10) rfl ?_
   exact XS.aloadN X5.here hx rfl (B d12_11) rfl rfl k)
  obtain ⟨T8, X8, e8, st8⟩ := getF X5 hx hZ hown (host := "") (Or.inl (hw _ (mW 59 rfl))) Via.refl e5 SD.2.2.1 (g := (mkF m 12 #[rv a1, iv p1, rv a2] [(.ref a1), (.int p1), (.ref vb), (.ref a2)])) rfl rfl (B d12_12)
  have pre9 : Go p e bl T8 (mkF m 15 #[rv a1, iv p1, rv a2] [(.int 0), (.int p1), (.ref vb), (.ref a2)]) s1 EF := fun t k => pre7 t (st8 t k)
  obtain ⟨cq10, kq10, q10a, q10b, q10c⟩ := isOf hZ e8 SL.1
  obtain ⟨_, _, ⟨T10, L10, k10, n10⟩, -, X10, ⟨Lc10, hQ10, l10, y10, z10⟩, st10⟩ := X8.virtualBack hx (y := mN11) (z := mN11) hown (mvT hZ (hw _ (mW 99 rfl))) (mvT hZ (hw _ (mW 100 rfl))) (notFace_of_selects (args := #[]) (mvT hZ (hw _ (mW 102 rfl)))) (mvT hZ (hw _ (mW 102 rfl))) (mvT hZ (hw _ (mW 101 rfl))) (by decide) (backOf (W := 0) (rmSg l Z a0 hw [] a2 vb p1 cz fv kb xs b2 k2 n2 bs2 hs2 hz2 h0 n0 Z0 O0 J0 SL SD.2.2.2.2.1 g_vb hc gn hs) hZ (hw _ (mW 103 rfl)) (hw _ (mW 6 rfl)) (by decide) (by decide)) q10a q10c (g := (mkF m 15 #[rv a1, iv p1, rv a2] [(.int 0), (.int p1), (.ref vb), (.ref a2)])) rfl (hM rfl) (Steps.refl _) (argsL := [(.ref vb), (.int p1), (.int 0)]) (rest := []) (lenOf pd7 rfl) rfl (Nat.le_of_eq rfl) (B d12_15) (fun _ _ => ⟨rfl, e8, wl rfl, wl rfl⟩)
  dsimp only [Pt.U, Pt.locs, Pt.cells, Pt.slots] at X10 l10 y10 z10 st10 hQ10
  subst l10 y10 z10
  obtain ⟨rfl, N10q, K10, VG10⟩ := hQ10
  have N10 := Fr.app N2 N10q
  have pre11 : Go p e bl T10 (mkF m 18 #[rv a1, iv p1, rv a2] []) s1 EF := fun t k => pre9 t (st10.trans k)
  have O12 : Old Z n0 T10.heap := O0.keep K10 (allS g_vb all0)
  have Z12 : n0 ≤ T10.heap.size := Nat.le_trans Z0 K10.1
  have K12 : Keep h0 T10.heap [vb] := (Keep.refl h0 [vb]).trans K10 (allS (Or.inl (mg 0 rfl)) all0)
  exact fin1 X10 (v := none) (fun _ => rfl) hlk (wl rfl) (wl rfl) (by exact ⟨rfl, N10, K12, VG10⟩) (fun fs hr => hEF ▸ pre11 _ (X10.returnOut hx Bd.returns (B d12_18) hr))
theorem own_cap {c n : Int32} {a b : Nat} (h1 : c.toInt = a) (h2 : n.toInt = b) (h : a + b ≤ 16) : (c + n).toInt = (a + b : Nat) ∧ ¬ (0 : Int32) < (c + n) - 16 := by
  have q := c_iadd c n
  have r := rng32 (c + n)
  have e : (16 : Int32).toInt = 16 := by decide
  have e0 : (0 : Int32).toInt = 0 := by decide
  have q2 := c_isub (c + n) 16
  have r2 := rng32 ((c + n) - 16)
  rw [Int32.lt_iff_toInt_lt, e0]
  exact ⟨by omega, by omega⟩
abbrev rKSA : Room := { frames := 3, cells := 0, slots := 0, locals := 69 }
theorem d13_0 : decode jdk_68_method_22_code 0 = .ok (.aload_n 1, 1) := by decide +kernel
theorem d13_1 : decode jdk_68_method_22_code 1 = .ok (.ifnonnull 8, 3) := by decide +kernel
theorem d13_9 : decode jdk_68_method_22_code 9 = .ok (.aload_n 1, 1) := by decide +kernel
theorem d13_10 : decode jdk_68_method_22_code 10 = .ok (.invokevirtual 32, 3) := by decide +kernel
theorem d13_13 : decode jdk_68_method_22_code 13 = .ok (.istore_n 2, 1) := by decide +kernel
theorem d13_14 : decode jdk_68_method_22_code 14 = .ok (.aload_n 0, 1) := by decide +kernel
theorem d13_15 : decode jdk_68_method_22_code 15 = .ok (.aload_n 0, 1) := by decide +kernel
theorem d13_16 : decode jdk_68_method_22_code 16 = .ok (.getfield 79, 3) := by decide +kernel
theorem d13_19 : decode jdk_68_method_22_code 19 = .ok (.iload_n 2, 1) := by decide +kernel
theorem d13_20 : decode jdk_68_method_22_code 20 = .ok (.iadd, 1) := by decide +kernel
theorem d13_21 : decode jdk_68_method_22_code 21 = .ok (.invokevirtual 100, 3) := by decide +kernel
theorem d13_24 : decode jdk_68_method_22_code 24 = .ok (.aload_n 0, 1) := by decide +kernel
theorem d13_25 : decode jdk_68_method_22_code 25 = .ok (.aload_n 0, 1) := by decide +kernel
theorem d13_26 : decode jdk_68_method_22_code 26 = .ok (.getfield 79, 3) := by decide +kernel
theorem d13_29 : decode jdk_68_method_22_code 29 = .ok (.aload_n 1, 1) := by decide +kernel
theorem d13_30 : decode jdk_68_method_22_code 30 = .ok (.invokevirtual 208, 3) := by decide +kernel
theorem d13_33 : decode jdk_68_method_22_code 33 = .ok (.aload_n 0, 1) := by decide +kernel
theorem d13_34 : decode jdk_68_method_22_code 34 = .ok (.dup, 1) := by decide +kernel
theorem d13_35 : decode jdk_68_method_22_code 35 = .ok (.getfield 79, 3) := by decide +kernel
theorem d13_38 : decode jdk_68_method_22_code 38 = .ok (.iload_n 2, 1) := by decide +kernel
theorem d13_39 : decode jdk_68_method_22_code 39 = .ok (.iadd, 1) := by decide +kernel
theorem d13_40 : decode jdk_68_method_22_code 40 = .ok (.putfield 79, 3) := by decide +kernel
theorem d13_43 : decode jdk_68_method_22_code 43 = .ok (.aload_n 0, 1) := by decide +kernel
theorem d13_44 : decode jdk_68_method_22_code 44 = .ok (.areturn, 1) := by decide +kernel
theorem pd8 : parseMethodDescriptor "()I" = some ⟨[], some .int⟩ := by decide +kernel
theorem pd9 : parseMethodDescriptor "(ILjava/lang/String;)V" = some ⟨[.int, (.object "java/lang/String")], none⟩ := by decide +kernel
theorem efSA (m : MethodId) (a1 : Addr) (a2 : Addr) : entryFrame m #[(.ref a1), (.ref a2)] 3 = mkF m 0 #[rv a1, rv a2, .unset] [] := by first | (simp [entryFrame, mkF, argsToLocals, Value.category]; done) | rfl
def QSA (Z : State) (a1 : Addr) (a2 : Addr) (cz : Int32) (fv : Value) (vb : Addr) (kb : ClassId) (cc : Int32) (xs : List Int32) (b2 : Addr) (k2 : ClassId) (n2 : Int32) (bs2 : List Int32) (hs2 : Int32) (hz2 : Int32) (h0 : Heap) (n0 : Nat) (v : Option Value) (h : Heap) (L : List Loc) : Prop := v = some (.ref a1) ∧ Fr n0 L ∧ Keep h0 h [a1, vb] ∧ SBd Z h a1 vb kb (cc + n2) (xs ++ bs2)
set_option maxRecDepth 65536 in
set_option maxHeartbeats 40000000 in
theorem rmSA (l : Launch) (Z : State) (a0 : Array Value) (hw : HW a0 Z) (ws : List Jvm.Cond) (a1 : Addr) (a2 : Addr) (cz : Int32) (fv : Value) (vb : Addr) (kb : ClassId) (cc : Int32) (xs : List Int32) (b2 : Addr) (k2 : ClassId) (n2 : Int32) (bs2 : List Int32) (hs2 : Int32) (hz2 : Int32) (h0 : Heap) (n0 : Nat) (Z0 : n0 ≤ h0.size) (O0 : Old Z n0 h0) (J0 : Jd Z cz fv) (SD : SBd Z h0 a1 vb kb cc xs) (SL : StL Z h0 a2 b2 k2 n2 bs2 hs2 hz2) (g_a1 : n0 ≤ a1) (gn : n2.toInt = bs2.length) (hs : xs.length + bs2.length ≤ 16) (g_vb : n0 ≤ vb) :
    MF l Z mN13 jdk_68_method_22_code 3 (some (.object "java/lang/AbstractStringBuilder")) ws rKSA #[(.ref a1), (.ref a2)] h0 (QSA Z a1 a2 cz fv vb kb cc xs b2 k2 n2 bs2 hs2 hz2 h0 n0) := by
  refine MetFree.of_bodySF (plainFor_of_name pn3) hisR ?_
  intro p e s m args bl meth c s1 Bd hml0 hP hK
  obtain ⟨rfl, hZ, hh⟩ := hP
  have hx := Bd.exec
  have hby := Bd.bytes
  have B := @hb c _ hby
  have hM := fun {n : Nat} (h : n = 3) => h.trans hml0.symm
  have hown : s.vm.findClass "java/lang/AbstractStringBuilder" = some m.cls := findClass_of_methodNamed Bd.named
  have hlk : meth.locks = false := BodyLoose.notSynchronized Bd
  have hrt : ∀ {v : Option Value}, meth.sig.returnType = none → v = none := fun h => by rw [Bd.returns] at h; cases h
  have X0 : Stand p l e rKSA s m #[(.ref a1), (.ref a2)] bl meth c s1 [] 0 0 := Stand.of_body Bd
  have e0 : s1.heap = h0 := by rw [← hh, Bd.state]; rfl
  have N0 := Fr.nil n0
  obtain ⟨EF, hEF⟩ : ∃ f, f = entryFrame m #[(.ref a1), (.ref a2)] 3 := ⟨_, rfl⟩
  have pre0 : Go p e bl s1 (mkF m 0 #[rv a1, rv a2, .unset] []) s1 EF := fun t k => by rw [hEF]; exact castTop (efSA m a1 a2) k
  have hcc := SD.2.2.2.2.2.2.1
  have hcp := own_cap hcc gn hs
  have pre1 : Go p e bl s1 (mkF m 10 #[rv a1, rv a2, .unset] [(.ref a2)]) s1 EF := fun t k => pre0 t (by
   refine XS.aloadN X0.here hx rfl (B d13_0) rfl rfl ?_
   refine XS.ifnonnullYes X0.here hx rfl (pc0 := 1) (pc' := 9) rfl (B d13_1) rfl (by decide) (by decide) ?_
   exact XS.aloadN X0.here hx rfl (B d13_9) rfl rfl k)
  obtain ⟨cq2, kq2, q2a, q2b, q2c⟩ := isOf hZ e0 SL.1
  obtain ⟨_, _, ⟨T2, L2, k2, n2⟩, -, X2, ⟨Lc2, hQ2, l2, y2, z2⟩, st2⟩ := X0.virtualBack hx (y := mN1) (z := mN1) hown (mvT hZ (hw _ (mW 71 rfl))) (mvT hZ (hw _ (mW 72 rfl))) (notFace_of_selects (args := #[]) (mvT hZ (hw _ (mW 74 rfl)))) (mvT hZ (hw _ (mW 74 rfl))) (mvT hZ (hw _ (mW 73 rfl))) (by decide) (backOf (W := 0) (rmJle l Z a0 hw [] a2 cz fv (0 : Int32) b2 k2 n2 (BV bs2) n2 h0 n0 Z0 O0 J0 SL.1 SL.2.1 SL.2.2.1 SL.2.2.2.1 rfl (own_shr0 rfl)) hZ (hw _ (mW 75 rfl)) (hw _ (mW 6 rfl)) (by decide) (by decide)) q2a q2c (g := (mkF m 10 #[rv a1, rv a2, .unset] [(.ref a2)])) rfl (hM rfl) (Steps.refl _) (argsL := []) (rest := []) (lenOf pd8 rfl) rfl (Nat.le_of_eq rfl) (B d13_10) (fun _ _ => ⟨rfl, e0, wl rfl, wl rfl⟩)
  dsimp only [Pt.U, Pt.locs, Pt.cells, Pt.slots] at X2 l2 y2 z2 st2 hQ2
  subst l2 y2 z2
  obtain ⟨rfl, N2q, hq2⟩ := hQ2
  have N2 := Fr.app N0 N2q
  have pre3 : Go p e bl T2 (mkF m 13 #[rv a1, rv a2, .unset] [(.int n2)]) s1 EF := fun t k => pre1 t (st2.trans k)
  have e2 : T2.heap = h0 := hq2
  have pre4 : Go p e bl T2 (mkF m 16 #[rv a1, rv a2, iv n2] [(.ref a1), (.ref a1)]) s1 EF := fun t k => pre3 t (by
   refine XS.istoreN X2.here hx rfl (B d13_13) rfl (l' := #[rv a1, rv a2, iv n2]) rfl ?_
   refine XS.aloadN X2.here hx rfl (B d13_14) rfl rfl ?_
   exact XS.aloadN X2.here hx rfl (B d13_15) rfl rfl k)
  obtain ⟨T5, X5, e5, st5⟩ := getF X2 hx hZ hown (host := "") (Or.inl (hw _ (mW 81 rfl))) Via.refl e2 SD.2.2.2.1 (g := (mkF m 16 #[rv a1, rv a2, iv n2] [(.ref a1), (.ref a1)])) rfl rfl (B d13_16)
  have pre6 : Go p e bl T5 (mkF m 19 #[rv a1, rv a2, iv n2] [(.int cc), (.ref a1)]) s1 EF := fun t k => pre4 t (st5 t k)
  have pre7 : Go p e bl T5 (mkF m 21 #[rv a1, rv a2, iv n2] [(.int (cc + n2)), (.ref a1)]) s1 EF := fun t k => pre6 t (by
   refine XS.iloadN X5.here hx rfl (B d13_19) rfl ?_
   exact XS.iadd X5.here hx rfl (B d13_20) rfl k)
  obtain ⟨cq8, q8a, q8b⟩ := SD.1.cell
  obtain ⟨_, _, ⟨T8, L8, k8, n8⟩, -, X8, ⟨Lc8, hQ8, l8, y8, z8⟩, st8⟩ := X5.privateBack hx (y := mN9) hown (mvT hZ (hw _ (mW 83 rfl))) (mvT hZ (hw _ (mW 84 rfl))) (own_sel (mvT hZ (hw _ (mW 86 rfl))) (mvT hZ (hw _ (mW 84 rfl))) (Cond.privateMethod_at (mvP hZ (hw _ (mW 85 rfl)) (args := #[]))) (by decide)) (Cond.privateMethod_at (mvP hZ (hw _ (mW 85 rfl)) (args := #[]))) (mvT hZ (hw _ (mW 87 rfl))) (by decide) (backOf (W := 0) (rmSe l Z a0 hw [] a1 (cc + n2) cz fv vb kb cc xs h0 n0 Z0 O0 J0 SD hcp.2) hZ (hw _ (mW 87 rfl)) (hw _ (mW 53 rfl)) (by decide) (by decide)) (g := (mkF m 21 #[rv a1, rv a2, iv n2] [(.int (cc + n2)), (.ref a1)])) rfl (hM rfl) (Steps.refl _) (a := a1) (by rw [e5]; exact q8a) q8b (argsL := [(.int (cc + n2))]) (rest := []) (lenOf pd5 rfl) rfl (Nat.le_of_eq rfl) (B d13_21) (fun _ _ => ⟨rfl, e5, wl rfl, wl rfl⟩)
  dsimp only [Pt.U, Pt.locs, Pt.cells, Pt.slots] at X8 l8 y8 z8 st8 hQ8
  subst l8 y8 z8
  obtain ⟨rfl, N8q, hq8⟩ := hQ8
  have N8 := Fr.app N2 N8q
  have pre9 : Go p e bl T8 (mkF m 24 #[rv a1, rv a2, iv n2] []) s1 EF := fun t k => pre7 t (st8.trans k)
  have e8 : T8.heap = h0 := hq8
  have pre10 : Go p e bl T8 (mkF m 26 #[rv a1, rv a2, iv n2] [(.ref a1), (.ref a1)]) s1 EF := fun t k => pre9 t (by
   refine XS.aloadN X8.here hx rfl (B d13_24) rfl rfl ?_
   exact XS.aloadN X8.here hx rfl (B d13_25) rfl rfl k)
  obtain ⟨T11, X11, e11, st11⟩ := getF X8 hx hZ hown (host := "") (Or.inl (hw _ (mW 81 rfl))) Via.refl e8 SD.2.2.2.1 (g := (mkF m 26 #[rv a1, rv a2, iv n2] [(.ref a1), (.ref a1)])) rfl rfl (B d13_26)
  have pre12 : Go p e bl T11 (mkF m 29 #[rv a1, rv a2, iv n2] [(.int cc), (.ref a1)]) s1 EF := fun t k => pre10 t (st11 t k)
  have pre13 : Go p e bl T11 (mkF m 30 #[rv a1, rv a2, iv n2] [(.ref a2), (.int cc), (.ref a1)]) s1 EF := fun t k => pre12 t (by
   exact XS.aloadN X11.here hx rfl (B d13_29) rfl rfl k)
  obtain ⟨cq14, q14a, q14b⟩ := SD.1.cell
  obtain ⟨_, _, ⟨T14, L14, k14, n14⟩, -, X14, ⟨Lc14, hQ14, l14, y14, z14⟩, st14⟩ := X11.privateBack hx (y := mN12) hown (mvT hZ (hw _ (mW 88 rfl))) (mvT hZ (hw _ (mW 89 rfl))) (own_sel (mvT hZ (hw _ (mW 91 rfl))) (mvT hZ (hw _ (mW 89 rfl))) (Cond.privateMethod_at (mvP hZ (hw _ (mW 90 rfl)) (args := #[]))) (by decide)) (Cond.privateMethod_at (mvP hZ (hw _ (mW 90 rfl)) (args := #[]))) (mvT hZ (hw _ (mW 92 rfl))) (by decide) (backOf (W := 0) (rmSp l Z a0 hw [] a1 cc a2 cz fv vb kb cc xs b2 k2 n2 bs2 hs2 hz2 h0 n0 Z0 O0 J0 SD SL hcc gn hs g_vb) hZ (hw _ (mW 92 rfl)) (hw _ (mW 53 rfl)) (by decide) (by decide)) (g := (mkF m 30 #[rv a1, rv a2, iv n2] [(.ref a2), (.int cc), (.ref a1)])) rfl (hM rfl) (Steps.refl _) (a := a1) (by rw [e11]; exact q14a) q14b (argsL := [(.int cc), (.ref a2)]) (rest := []) (lenOf pd9 rfl) rfl (Nat.le_of_eq rfl) (B d13_30) (fun _ _ => ⟨rfl, e11, wl rfl, wl rfl⟩)
  dsimp only [Pt.U, Pt.locs, Pt.cells, Pt.slots] at X14 l14 y14 z14 st14 hQ14
  subst l14 y14 z14
  obtain ⟨rfl, N14q, K14, VG14⟩ := hQ14
  have N14 := Fr.app N8 N14q
  have pre15 : Go p e bl T14 (mkF m 33 #[rv a1, rv a2, iv n2] []) s1 EF := fun t k => pre13 t (st14.trans k)
  have O16 : Old Z n0 T14.heap := O0.keep K14 (allS g_vb all0)
  have Z16 : n0 ≤ T14.heap.size := Nat.le_trans Z0 K14.1
  have K16 : Keep h0 T14.heap [a1, vb] := (Keep.refl h0 [a1, vb]).trans K14 (allS (Or.inl (mg 1 rfl)) all0)
  have pre17 : Go p e bl T14 (mkF m 35 #[rv a1, rv a2, iv n2] [(.ref a1), (.ref a1)]) s1 EF := fun t k => pre15 t (by
   refine XS.aloadN X14.here hx rfl (B d13_33) rfl rfl ?_
   exact XS.dup X14.here hx rfl (B d13_34) rfl rfl k)
  obtain ⟨T18, X18, e18, st18⟩ := getF X14 hx hZ hown (host := "") (Or.inl (hw _ (mW 81 rfl))) Via.refl rfl (SD.2.2.2.1.keep K14 (ninS SD.2.2.2.2.2.1 nin0)) (g := (mkF m 35 #[rv a1, rv a2, iv n2] [(.ref a1), (.ref a1)])) rfl rfl (B d13_35)
  have pre19 : Go p e bl T18 (mkF m 38 #[rv a1, rv a2, iv n2] [(.int cc), (.ref a1)]) s1 EF := fun t k => pre17 t (st18 t k)
  have pre20 : Go p e bl T18 (mkF m 40 #[rv a1, rv a2, iv n2] [(.int (cc + n2)), (.ref a1)]) s1 EF := fun t k => pre19 t (by
   refine XS.iloadN X18.here hx rfl (B d13_38) rfl ?_
   exact XS.iadd X18.here hx rfl (B d13_39) rfl k)
  obtain ⟨T21, h21, X21, e21, W21, st21⟩ := putF X18 hx hZ hown (host := "") (Or.inl (hw _ (mW 81 rfl))) Via.refl e18 (SD.2.2.2.1.keep K14 (ninS SD.2.2.2.2.2.1 nin0)) (SD.1.keep K14) (Or.inl (hw _ (mW 82 rfl))) (hw _ (mW 44 rfl)) (ty := .int) (by decide) rfl rfl (g := (mkF m 40 #[rv a1, rv a2, iv n2] [(.int (cc + n2)), (.ref a1)])) rfl rfl (B d13_40)
  have pre22 : Go p e bl T21 (mkF m 43 #[rv a1, rv a2, iv n2] []) s1 EF := fun t k => pre20 t (st21 t k)
  have O23 : Old Z n0 h21 := O16.wr W21 g_a1
  have Z23 : n0 ≤ h21.size := Nat.le_trans Z16 (Keep.of_wr W21).1
  have K23 : Keep h0 h21 [a1, vb] := K16.wr W21 (Or.inl (mg 0 rfl))
  have Fw21 := Fld.same W21 (SD.2.2.2.1.keep K14 (ninS SD.2.2.2.2.2.1 nin0))
  have N21 := Fr.snoc X21 N14 g_a1
  have pre24 : Go p e bl T21 (mkF m 44 #[rv a1, rv a2, iv n2] [(.ref a1)]) s1 EF := fun t k => pre22 t (by
   exact XS.aloadN X21.here hx rfl (B d13_43) rfl rfl k)
  exact fin1 X21 (v := some (.ref a1)) hrt hlk (wl rfl) (wl rfl) (by rw [e21]; exact ⟨rfl, N21, K23, ⟨((SD.1.keep K14).wr W21), (Fld.other W21 (SD.2.1.keep K14 (ninS SD.2.2.2.2.2.1 nin0)) (Or.inr (slot_ne (Or.inl (hw _ (mW 58 rfl))) (Or.inl (hw _ (mW 82 rfl))) (by decide) (t := (.array .byte)) (t' := .int) (by decide) (by decide)))), (Fld.other W21 (SD.2.2.1.keep K14 (ninS SD.2.2.2.2.2.1 nin0)) (Or.inr (slot_ne (Or.inl (hw _ (mW 60 rfl))) (Or.inl (hw _ (mW 82 rfl))) (by decide) (t := .byte) (t' := .int) (by decide) (by decide)))), Fw21, (VG14.other W21 (Ne.symm SD.2.2.2.2.2.1)), SD.2.2.2.2.2.1, by rw [List.length_append]; exact hcp.1, by rw [List.length_append]; exact hs⟩⟩) (fun fs hr => hEF ▸ pre24 _ (retOut X21 hx Bd.returns rfl (Or.inr (Or.inr (Or.inr (Or.inr ⟨rfl, rfl, rfl⟩)))) (B d13_44) hr))
abbrev rKSS : Room := { frames := 4, cells := 0, slots := 0, locals := 83 }
theorem d14_0 : decode jdk_67_method_7_code 0 = .ok (.aload_n 0, 1) := by decide +kernel
theorem d14_1 : decode jdk_67_method_7_code 1 = .ok (.aload_n 1, 1) := by decide +kernel
theorem d14_2 : decode jdk_67_method_7_code 2 = .ok (.invokespecial 29, 3) := by decide +kernel
theorem d14_5 : decode jdk_67_method_7_code 5 = .ok (.pop, 1) := by decide +kernel
theorem d14_6 : decode jdk_67_method_7_code 6 = .ok (.aload_n 0, 1) := by decide +kernel
theorem d14_7 : decode jdk_67_method_7_code 7 = .ok (.areturn, 1) := by decide +kernel
theorem pd10 : parseMethodDescriptor "(Ljava/lang/String;)Ljava/lang/AbstractStringBuilder;" = some ⟨[(.object "java/lang/String")], some (.object "java/lang/AbstractStringBuilder")⟩ := by decide +kernel
theorem efSS (m : MethodId) (a1 : Addr) (a2 : Addr) : entryFrame m #[(.ref a1), (.ref a2)] 2 = mkF m 0 #[rv a1, rv a2] [] := by first | (simp [entryFrame, mkF, argsToLocals, Value.category]; done) | rfl
def QSS (Z : State) (a1 : Addr) (a2 : Addr) (cz : Int32) (fv : Value) (vb : Addr) (kb : ClassId) (cc : Int32) (xs : List Int32) (b2 : Addr) (k2 : ClassId) (n2 : Int32) (bs2 : List Int32) (hs2 : Int32) (hz2 : Int32) (h0 : Heap) (n0 : Nat) (v : Option Value) (h : Heap) (L : List Loc) : Prop := v = some (.ref a1) ∧ Fr n0 L ∧ Keep h0 h [a1, vb] ∧ SBd Z h a1 vb kb (cc + n2) (xs ++ bs2)
set_option maxRecDepth 65536 in
set_option maxHeartbeats 40000000 in
theorem rmSS (l : Launch) (Z : State) (a0 : Array Value) (hw : HW a0 Z) (ws : List Jvm.Cond) (a1 : Addr) (a2 : Addr) (cz : Int32) (fv : Value) (vb : Addr) (kb : ClassId) (cc : Int32) (xs : List Int32) (b2 : Addr) (k2 : ClassId) (n2 : Int32) (bs2 : List Int32) (hs2 : Int32) (hz2 : Int32) (h0 : Heap) (n0 : Nat) (Z0 : n0 ≤ h0.size) (O0 : Old Z n0 h0) (J0 : Jd Z cz fv) (SD : SBd Z h0 a1 vb kb cc xs) (SL : StL Z h0 a2 b2 k2 n2 bs2 hs2 hz2) (g_a1 : n0 ≤ a1) (gn : n2.toInt = bs2.length) (hs : xs.length + bs2.length ≤ 16) (g_vb : n0 ≤ vb) :
    MF l Z mN14 jdk_67_method_7_code 2 (some (.object "java/lang/StringBuilder")) ws rKSS #[(.ref a1), (.ref a2)] h0 (QSS Z a1 a2 cz fv vb kb cc xs b2 k2 n2 bs2 hs2 hz2 h0 n0) := by
  refine MetFree.of_bodySF (plainFor_of_name pn4) hisR ?_
  intro p e s m args bl meth c s1 Bd hml0 hP hK
  obtain ⟨rfl, hZ, hh⟩ := hP
  have hx := Bd.exec
  have hby := Bd.bytes
  have B := @hb c _ hby
  have hM := fun {n : Nat} (h : n = 2) => h.trans hml0.symm
  have hown : s.vm.findClass "java/lang/StringBuilder" = some m.cls := findClass_of_methodNamed Bd.named
  have hlk : meth.locks = false := BodyLoose.notSynchronized Bd
  have hrt : ∀ {v : Option Value}, meth.sig.returnType = none → v = none := fun h => by rw [Bd.returns] at h; cases h
  have X0 : Stand p l e rKSS s m #[(.ref a1), (.ref a2)] bl meth c s1 [] 0 0 := Stand.of_body Bd
  have e0 : s1.heap = h0 := by rw [← hh, Bd.state]; rfl
  have N0 := Fr.nil n0
  obtain ⟨EF, hEF⟩ : ∃ f, f = entryFrame m #[(.ref a1), (.ref a2)] 2 := ⟨_, rfl⟩
  have pre0 : Go p e bl s1 (mkF m 0 #[rv a1, rv a2] []) s1 EF := fun t k => by rw [hEF]; exact castTop (efSS m a1 a2) k
  have pre1 : Go p e bl s1 (mkF m 2 #[rv a1, rv a2] [(.ref a2), (.ref a1)]) s1 EF := fun t k => pre0 t (by
   refine XS.aloadN X0.here hx rfl (B d14_0) rfl rfl ?_
   exact XS.aloadN X0.here hx rfl (B d14_1) rfl rfl k)
  obtain ⟨_, _, ⟨T2, L2, k2, n2⟩, -, X2, ⟨Lc2, hQ2, l2, y2, z2⟩, st2⟩ := superBack X0 hx hZ (y := mN13) hown (hw _ (mW 66 rfl)) (own_sameM (hw _ (mW 67 rfl)) (own_nf (hw _ (mW 86 rfl)) rfl) (by decide)) (hw _ (mW 67 rfl)) (hw _ (mW 68 rfl)) (by decide) (backOf (W := 0) (rmSA l Z a0 hw [] a1 a2 cz fv vb kb cc xs b2 k2 n2 bs2 hs2 hz2 h0 n0 Z0 O0 J0 SD SL g_a1 gn hs g_vb) hZ (hw _ (mW 70 rfl)) (hw _ (mW 53 rfl)) (by decide) (by decide)) e0 (Ins.self SD.1) (g := (mkF m 2 #[rv a1, rv a2] [(.ref a2), (.ref a1)])) rfl (hM rfl) (hw _ (mW 70 rfl)) (argsL := [(.ref a2)]) (rest := []) (lenOf pd10 rfl) rfl (Nat.le_of_eq rfl) (B d14_2) (fun _ _ => ⟨rfl, e0, wl rfl, wl rfl⟩)
  dsimp only [Pt.U, Pt.locs, Pt.cells, Pt.slots] at X2 l2 y2 z2 st2 hQ2
  subst l2 y2 z2
  obtain ⟨rfl, N2q, K2, SF2⟩ := hQ2
  have N2 := Fr.app N0 N2q
  have pre3 : Go p e bl T2 (mkF m 5 #[rv a1, rv a2] [(.ref a1)]) s1 EF := fun t k => pre1 t (st2.trans k)
  have O4 : Old Z n0 T2.heap := O0.keep K2 (allS g_a1 (allS g_vb all0))
  have Z4 : n0 ≤ T2.heap.size := Nat.le_trans Z0 K2.1
  have K4 : Keep h0 T2.heap [a1, vb] := (Keep.refl h0 [a1, vb]).trans K2 (allS (Or.inl (mg 0 rfl)) (allS (Or.inl (mg 1 rfl)) all0))
  have pre5 : Go p e bl T2 (mkF m 7 #[rv a1, rv a2] [(.ref a1)]) s1 EF := fun t k => pre3 t (by
   refine XS.pop X2.here hx rfl (B d14_5) rfl rfl ?_
   exact XS.aloadN X2.here hx rfl (B d14_6) rfl rfl k)
  exact fin1 X2 (v := some (.ref a1)) hrt hlk (wl rfl) (wl rfl) (by exact ⟨rfl, N2, K4, SF2⟩) (fun fs hr => hEF ▸ pre5 _ (retOut X2 hx Bd.returns rfl (Or.inr (Or.inr (Or.inr (Or.inr ⟨rfl, rfl, rfl⟩)))) (B d14_7) hr))
abbrev rKTl : Room := { frames := 0, cells := 0, slots := 0, locals := 0 }
theorem d15_0 : decode jdk_68_method_6_code 0 = .ok (.aload_n 0, 1) := by decide +kernel
theorem d15_1 : decode jdk_68_method_6_code 1 = .ok (.getfield 79, 3) := by decide +kernel
theorem d15_4 : decode jdk_68_method_6_code 4 = .ok (.ireturn, 1) := by decide +kernel
theorem efTl (m : MethodId) (a1 : Addr) : entryFrame m #[(.ref a1)] 1 = mkF m 0 #[rv a1] [] := by first | (simp [entryFrame, mkF, argsToLocals, Value.category]; done) | rfl
def QTl (Z : State) (a1 : Addr) (cz : Int32) (fv : Value) (vb : Addr) (kb : ClassId) (cc : Int32) (xs : List Int32) (h0 : Heap) (n0 : Nat) (v : Option Value) (h : Heap) (L : List Loc) : Prop := v = some (.int cc) ∧ Fr n0 L ∧ h = h0
set_option maxRecDepth 65536 in
set_option maxHeartbeats 40000000 in
theorem rmTl (l : Launch) (Z : State) (a0 : Array Value) (hw : HW a0 Z) (ws : List Jvm.Cond) (a1 : Addr) (cz : Int32) (fv : Value) (vb : Addr) (kb : ClassId) (cc : Int32) (xs : List Int32) (h0 : Heap) (n0 : Nat) (Z0 : n0 ≤ h0.size) (O0 : Old Z n0 h0) (J0 : Jd Z cz fv) (SD : SBd Z h0 a1 vb kb cc xs) :
    MF l Z mN15 jdk_68_method_6_code 1 (some .int) ws rKTl #[(.ref a1)] h0 (QTl Z a1 cz fv vb kb cc xs h0 n0) := by
  refine MetFree.of_bodySF (plainFor_of_name pn3) hisR ?_
  intro p e s m args bl meth c s1 Bd hml0 hP hK
  obtain ⟨rfl, hZ, hh⟩ := hP
  have hx := Bd.exec
  have hby := Bd.bytes
  have B := @hb c _ hby
  have hown : s.vm.findClass "java/lang/AbstractStringBuilder" = some m.cls := findClass_of_methodNamed Bd.named
  have hlk : meth.locks = false := BodyLoose.notSynchronized Bd
  have hrt : ∀ {v : Option Value}, meth.sig.returnType = none → v = none := fun h => by rw [Bd.returns] at h; cases h
  have X0 : Stand p l e rKTl s m #[(.ref a1)] bl meth c s1 [] 0 0 := Stand.of_body Bd
  have e0 : s1.heap = h0 := by rw [← hh, Bd.state]; rfl
  have N0 := Fr.nil n0
  obtain ⟨EF, hEF⟩ : ∃ f, f = entryFrame m #[(.ref a1)] 1 := ⟨_, rfl⟩
  have pre0 : Go p e bl s1 (mkF m 0 #[rv a1] []) s1 EF := fun t k => by rw [hEF]; exact castTop (efTl m a1) k
  have pre1 : Go p e bl s1 (mkF m 1 #[rv a1] [(.ref a1)]) s1 EF := fun t k => pre0 t (by
   exact XS.aloadN X0.here hx rfl (B d15_0) rfl rfl k)
  obtain ⟨T2, X2, e2, st2⟩ := getF X0 hx hZ hown (host := "") (Or.inl (hw _ (mW 81 rfl))) Via.refl e0 SD.2.2.2.1 (g := (mkF m 1 #[rv a1] [(.ref a1)])) rfl rfl (B d15_1)
  have pre3 : Go p e bl T2 (mkF m 4 #[rv a1] [(.int cc)]) s1 EF := fun t k => pre1 t (st2 t k)
  exact fin1 X2 (v := some (.int cc)) hrt hlk (wl rfl) (wl rfl) (by rw [e2]; exact ⟨rfl, N0, rfl⟩) (fun fs hr => hEF ▸ pre3 _ (retOut X2 hx Bd.returns rfl (Or.inl ⟨rfl, Or.inl rfl, _, rfl⟩) (B d15_4) hr))
abbrev rKTv : Room := { frames := 0, cells := 0, slots := 0, locals := 0 }
theorem d16_0 : decode jdk_68_method_64_code 0 = .ok (.aload_n 0, 1) := by decide +kernel
theorem d16_1 : decode jdk_68_method_64_code 1 = .ok (.getfield 15, 3) := by decide +kernel
theorem d16_4 : decode jdk_68_method_64_code 4 = .ok (.areturn, 1) := by decide +kernel
theorem efTv (m : MethodId) (a1 : Addr) : entryFrame m #[(.ref a1)] 1 = mkF m 0 #[rv a1] [] := by first | (simp [entryFrame, mkF, argsToLocals, Value.category]; done) | rfl
def QTv (Z : State) (a1 : Addr) (cz : Int32) (fv : Value) (vb : Addr) (kb : ClassId) (cc : Int32) (xs : List Int32) (h0 : Heap) (n0 : Nat) (v : Option Value) (h : Heap) (L : List Loc) : Prop := v = some (.ref vb) ∧ Fr n0 L ∧ h = h0
set_option maxRecDepth 65536 in
set_option maxHeartbeats 40000000 in
theorem rmTv (l : Launch) (Z : State) (a0 : Array Value) (hw : HW a0 Z) (ws : List Jvm.Cond) (a1 : Addr) (cz : Int32) (fv : Value) (vb : Addr) (kb : ClassId) (cc : Int32) (xs : List Int32) (h0 : Heap) (n0 : Nat) (Z0 : n0 ≤ h0.size) (O0 : Old Z n0 h0) (J0 : Jd Z cz fv) (SD : SBd Z h0 a1 vb kb cc xs) :
    MF l Z mN16 jdk_68_method_64_code 1 (some (.array .byte)) ws rKTv #[(.ref a1)] h0 (QTv Z a1 cz fv vb kb cc xs h0 n0) := by
  refine MetFree.of_bodySF (plainFor_of_name pn3) hisR ?_
  intro p e s m args bl meth c s1 Bd hml0 hP hK
  obtain ⟨rfl, hZ, hh⟩ := hP
  have hx := Bd.exec
  have hby := Bd.bytes
  have B := @hb c _ hby
  have hown : s.vm.findClass "java/lang/AbstractStringBuilder" = some m.cls := findClass_of_methodNamed Bd.named
  have hlk : meth.locks = false := BodyLoose.notSynchronized Bd
  have hrt : ∀ {v : Option Value}, meth.sig.returnType = none → v = none := fun h => by rw [Bd.returns] at h; cases h
  have X0 : Stand p l e rKTv s m #[(.ref a1)] bl meth c s1 [] 0 0 := Stand.of_body Bd
  have e0 : s1.heap = h0 := by rw [← hh, Bd.state]; rfl
  have N0 := Fr.nil n0
  obtain ⟨EF, hEF⟩ : ∃ f, f = entryFrame m #[(.ref a1)] 1 := ⟨_, rfl⟩
  have pre0 : Go p e bl s1 (mkF m 0 #[rv a1] []) s1 EF := fun t k => by rw [hEF]; exact castTop (efTv m a1) k
  have pre1 : Go p e bl s1 (mkF m 1 #[rv a1] [(.ref a1)]) s1 EF := fun t k => pre0 t (by
   exact XS.aloadN X0.here hx rfl (B d16_0) rfl rfl k)
  obtain ⟨T2, X2, e2, st2⟩ := getF X0 hx hZ hown (host := "") (Or.inl (hw _ (mW 57 rfl))) Via.refl e0 SD.2.1 (g := (mkF m 1 #[rv a1] [(.ref a1)])) rfl rfl (B d16_1)
  have pre3 : Go p e bl T2 (mkF m 4 #[rv a1] [(.ref vb)]) s1 EF := fun t k => pre1 t (st2 t k)
  exact fin1 X2 (v := some (.ref vb)) hrt hlk (wl rfl) (wl rfl) (by rw [e2]; exact ⟨rfl, N0, rfl⟩) (fun fs hr => hEF ▸ pre3 _ (retOut X2 hx Bd.returns rfl (Or.inr (Or.inr (Or.inr (Or.inr ⟨rfl, rfl, rfl⟩)))) (B d16_4) hr))
abbrev rKTi : Room := { frames := 0, cells := 0, slots := 0, locals := 0 }
theorem d17_0 : decode jdk_68_method_68_code 0 = .ok (.getstatic 18, 3) := by decide +kernel
theorem d17_3 : decode jdk_68_method_68_code 3 = .ok (.ifCond .eq 14, 3) := by decide +kernel
theorem d17_6 : decode jdk_68_method_68_code 6 = .ok (.aload_n 0, 1) := by decide +kernel
theorem d17_7 : decode jdk_68_method_68_code 7 = .ok (.getfield 22, 3) := by decide +kernel
theorem d17_10 : decode jdk_68_method_68_code 10 = .ok (.ifCond .ne 7, 3) := by decide +kernel
theorem d17_13 : decode jdk_68_method_68_code 13 = .ok (.iconst 1, 1) := by decide +kernel
theorem d17_14 : decode jdk_68_method_68_code 14 = .ok (.goto 4, 3) := by decide +kernel
theorem d17_18 : decode jdk_68_method_68_code 18 = .ok (.ireturn, 1) := by decide +kernel
theorem efTi (m : MethodId) (a1 : Addr) : entryFrame m #[(.ref a1)] 1 = mkF m 0 #[rv a1] [] := by first | (simp [entryFrame, mkF, argsToLocals, Value.category]; done) | rfl
def QTi (Z : State) (a1 : Addr) (cz : Int32) (fv : Value) (vb : Addr) (kb : ClassId) (cc : Int32) (xs : List Int32) (h0 : Heap) (n0 : Nat) (v : Option Value) (h : Heap) (L : List Loc) : Prop := v = some (.int 1) ∧ Fr n0 L ∧ h = h0
set_option maxRecDepth 65536 in
set_option maxHeartbeats 40000000 in
theorem rmTi (l : Launch) (Z : State) (a0 : Array Value) (hw : HW a0 Z) (ws : List Jvm.Cond) (a1 : Addr) (cz : Int32) (fv : Value) (vb : Addr) (kb : ClassId) (cc : Int32) (xs : List Int32) (h0 : Heap) (n0 : Nat) (Z0 : n0 ≤ h0.size) (O0 : Old Z n0 h0) (J0 : Jd Z cz fv) (SD : SBd Z h0 a1 vb kb cc xs) :
    MF l Z mN17 jdk_68_method_68_code 1 (some .boolean) ws rKTi #[(.ref a1)] h0 (QTi Z a1 cz fv vb kb cc xs h0 n0) := by
  refine MetFree.of_bodySF (plainFor_of_name pn3) hisR ?_
  intro p e s m args bl meth c s1 Bd hml0 hP hK
  obtain ⟨rfl, hZ, hh⟩ := hP
  have hx := Bd.exec
  have hby := Bd.bytes
  have B := @hb c _ hby
  have hown : s.vm.findClass "java/lang/AbstractStringBuilder" = some m.cls := findClass_of_methodNamed Bd.named
  have hlk : meth.locks = false := BodyLoose.notSynchronized Bd
  have hrt : ∀ {v : Option Value}, meth.sig.returnType = none → v = none := fun h => by rw [Bd.returns] at h; cases h
  have X0 : Stand p l e rKTi s m #[(.ref a1)] bl meth c s1 [] 0 0 := Stand.of_body Bd
  have e0 : s1.heap = h0 := by rw [← hh, Bd.state]; rfl
  have N0 := Fr.nil n0
  obtain ⟨EF, hEF⟩ : ∃ f, f = entryFrame m #[(.ref a1)] 1 := ⟨_, rfl⟩
  have pre0 : Go p e bl s1 (mkF m 0 #[rv a1] []) s1 EF := fun t k => by rw [hEF]; exact castTop (efTi m a1) k
  obtain ⟨T1, X1, e1, st1⟩ := getS2 X0 hx hZ hown (host := "") (Or.inl (hw _ (mW 56 rfl))) Via.refl e0 (J0.1.ext O0.2) (g := (mkF m 0 #[rv a1] [])) rfl (B d17_0)
  have pre2 : Go p e bl T1 (mkF m 3 #[rv a1] [(.int cz)]) s1 EF := fun t k => pre0 t (st1 t k)
  have pre3 : Go p e bl T1 (mkF m 6 #[rv a1] []) s1 EF := fun t k => pre2 t (XS.ifNo X1.here hx rfl (B d17_3) rfl ((if0 _ _).trans (feq J0.2.1).1) k)
  have pre4 : Go p e bl T1 (mkF m 7 #[rv a1] [(.ref a1)]) s1 EF := fun t k => pre3 t (by
   exact XS.aloadN X1.here hx rfl (B d17_6) rfl rfl k)
  obtain ⟨T5, X5, e5, st5⟩ := getF X1 hx hZ hown (host := "") (Or.inl (hw _ (mW 59 rfl))) Via.refl e1 SD.2.2.1 (g := (mkF m 7 #[rv a1] [(.ref a1)])) rfl rfl (B d17_7)
  have pre6 : Go p e bl T5 (mkF m 10 #[rv a1] [(.int 0)]) s1 EF := fun t k => pre4 t (st5 t k)
  have pre7 : Go p e bl T5 (mkF m 13 #[rv a1] []) s1 EF := fun t k => pre6 t (XS.ifNo X5.here hx rfl (B d17_10) rfl ((if0 _ _).trans (teq (by decide : (0 : Int32) = (0 : Int32))).2) k)
  have pre8 : Go p e bl T5 (mkF m 18 #[rv a1] [(.int 1)]) s1 EF := fun t k => pre7 t (by
   refine XS.iconst X5.here hx rfl (B d17_13) ?_
   exact XS.goto X5.here hx rfl (pc0 := 14) (pc' := 18) rfl (B d17_14) (by decide) (by decide) k)
  have hnr : Value.int (nar .boolean (1 : Int32)) = (.int 1) := by rfl
  exact fin1 X5 (v := some (.int 1)) hrt hlk (wl rfl) (wl rfl) (by rw [e5]; exact ⟨rfl, N0, rfl⟩) (fun fs hr => hEF ▸ pre8 _ (retN X5 hx (t := .boolean) Bd.returns (by simp) (B d17_18) (hnr ▸ hr)))
abbrev rKTm : Room := { frames := 1, cells := 0, slots := 0, locals := 12 }
theorem d18_0 : decode jdk_67_method_93_code 0 = .ok (.aload_n 0, 1) := by decide +kernel
theorem d18_1 : decode jdk_67_method_93_code 1 = .ok (.invokespecial 343, 3) := by decide +kernel
theorem d18_4 : decode jdk_67_method_93_code 4 = .ok (.ireturn, 1) := by decide +kernel
theorem efTm (m : MethodId) (a1 : Addr) : entryFrame m #[(.ref a1)] 1 = mkF m 0 #[rv a1] [] := by first | (simp [entryFrame, mkF, argsToLocals, Value.category]; done) | rfl
def QTm (Z : State) (a1 : Addr) (cz : Int32) (fv : Value) (vb : Addr) (kb : ClassId) (cc : Int32) (xs : List Int32) (h0 : Heap) (n0 : Nat) (v : Option Value) (h : Heap) (L : List Loc) : Prop := v = some (.int cc) ∧ Fr n0 L ∧ h = h0
set_option maxRecDepth 65536 in
set_option maxHeartbeats 40000000 in
theorem rmTm (l : Launch) (Z : State) (a0 : Array Value) (hw : HW a0 Z) (ws : List Jvm.Cond) (a1 : Addr) (cz : Int32) (fv : Value) (vb : Addr) (kb : ClassId) (cc : Int32) (xs : List Int32) (h0 : Heap) (n0 : Nat) (Z0 : n0 ≤ h0.size) (O0 : Old Z n0 h0) (J0 : Jd Z cz fv) (SD : SBd Z h0 a1 vb kb cc xs) :
    MF l Z mN18 jdk_67_method_93_code 1 (some .int) ws rKTm #[(.ref a1)] h0 (QTm Z a1 cz fv vb kb cc xs h0 n0) := by
  refine MetFree.of_bodySF (plainFor_of_name pn4) hisR ?_
  intro p e s m args bl meth c s1 Bd hml0 hP hK
  obtain ⟨rfl, hZ, hh⟩ := hP
  have hx := Bd.exec
  have hby := Bd.bytes
  have B := @hb c _ hby
  have hM := fun {n : Nat} (h : n = 1) => h.trans hml0.symm
  have hown : s.vm.findClass "java/lang/StringBuilder" = some m.cls := findClass_of_methodNamed Bd.named
  have hlk : meth.locks = false := BodyLoose.notSynchronized Bd
  have hrt : ∀ {v : Option Value}, meth.sig.returnType = none → v = none := fun h => by rw [Bd.returns] at h; cases h
  have X0 : Stand p l e rKTm s m #[(.ref a1)] bl meth c s1 [] 0 0 := Stand.of_body Bd
  have e0 : s1.heap = h0 := by rw [← hh, Bd.state]; rfl
  have N0 := Fr.nil n0
  obtain ⟨EF, hEF⟩ : ∃ f, f = entryFrame m #[(.ref a1)] 1 := ⟨_, rfl⟩
  have pre0 : Go p e bl s1 (mkF m 0 #[rv a1] []) s1 EF := fun t k => by rw [hEF]; exact castTop (efTm m a1) k
  have pre1 : Go p e bl s1 (mkF m 1 #[rv a1] [(.ref a1)]) s1 EF := fun t k => pre0 t (by
   exact XS.aloadN X0.here hx rfl (B d18_0) rfl rfl k)
  obtain ⟨_, _, ⟨T2, L2, k2, n2⟩, -, X2, ⟨Lc2, hQ2, l2, y2, z2⟩, st2⟩ := superBack X0 hx hZ (y := mN15) hown (hw _ (mW 131 rfl)) (own_sameM (hw _ (mW 127 rfl)) (own_nf (hw _ (mW 86 rfl)) rfl) (by decide)) (hw _ (mW 127 rfl)) (hw _ (mW 68 rfl)) (by decide) (backOf (W := 0) (rmTl l Z a0 hw [] a1 cz fv vb kb cc xs h0 n0 Z0 O0 J0 SD) hZ (hw _ (mW 132 rfl)) (hw _ (mW 53 rfl)) (by decide) (by decide)) e0 (Ins.self SD.1) (g := (mkF m 1 #[rv a1] [(.ref a1)])) rfl (hM rfl) (hw _ (mW 132 rfl)) (argsL := []) (rest := []) (lenOf pd8 rfl) rfl (Nat.le_of_eq rfl) (B d18_1) (fun _ _ => ⟨rfl, e0, wl rfl, wl rfl⟩)
  dsimp only [Pt.U, Pt.locs, Pt.cells, Pt.slots] at X2 l2 y2 z2 st2 hQ2
  subst l2 y2 z2
  obtain ⟨rfl, N2q, hq2⟩ := hQ2
  have N2 := Fr.app N0 N2q
  have pre3 : Go p e bl T2 (mkF m 4 #[rv a1] [(.int cc)]) s1 EF := fun t k => pre1 t (st2.trans k)
  have e2 : T2.heap = h0 := hq2
  exact fin1 X2 (v := some (.int cc)) hrt hlk (wl rfl) (wl rfl) (by rw [e2]; exact ⟨rfl, N2, rfl⟩) (fun fs hr => hEF ▸ pre3 _ (retOut X2 hx Bd.returns rfl (Or.inl ⟨rfl, Or.inl rfl, _, rfl⟩) (B d18_4) hr))
def minF (a b : Int32) : Int32 := if b < a then b else a
abbrev rKMi : Room := { frames := 0, cells := 0, slots := 0, locals := 0 }
theorem d19_0 : decode jdk_29_method_69_code 0 = .ok (.iload_n 0, 1) := by decide +kernel
theorem d19_1 : decode jdk_29_method_69_code 1 = .ok (.iload_n 1, 1) := by decide +kernel
theorem d19_2 : decode jdk_29_method_69_code 2 = .ok (.if_icmp .gt 7, 3) := by decide +kernel
theorem d19_5 : decode jdk_29_method_69_code 5 = .ok (.iload_n 0, 1) := by decide +kernel
theorem d19_6 : decode jdk_29_method_69_code 6 = .ok (.goto 4, 3) := by decide +kernel
theorem d19_9 : decode jdk_29_method_69_code 9 = .ok (.iload_n 1, 1) := by decide +kernel
theorem d19_10 : decode jdk_29_method_69_code 10 = .ok (.ireturn, 1) := by decide +kernel
theorem efMi (m : MethodId) (p1 : Int32) (p2 : Int32) : entryFrame m #[(.int p1), (.int p2)] 2 = mkF m 0 #[iv p1, iv p2] [] := by first | (simp [entryFrame, mkF, argsToLocals, Value.category]; done) | rfl
def QMi (Z : State) (p1 : Int32) (p2 : Int32) (r : Int32) (h0 : Heap) (n0 : Nat) (v : Option Value) (h : Heap) (L : List Loc) : Prop := v = some (.int r) ∧ Fr n0 L ∧ h = h0
set_option maxRecDepth 65536 in
set_option maxHeartbeats 40000000 in
theorem rmMi (l : Launch) (Z : State) (a0 : Array Value) (hw : HW a0 Z) (ws : List Jvm.Cond) (p1 : Int32) (p2 : Int32) (r : Int32) (h0 : Heap) (n0 : Nat) (Z0 : n0 ≤ h0.size) (hR : minF p1 p2 = r) :
    MF l Z mN19 jdk_29_method_69_code 2 (some .int) ws rKMi #[(.int p1), (.int p2)] h0 (QMi Z p1 p2 r h0 n0) := by
  refine MetFree.of_bodySF (Jvm.Free.JP.mathPlain rfl (by decide +kernel)) hisR ?_
  intro p e s m args bl meth c s1 Bd hml0 hP hK
  obtain ⟨rfl, hZ, hh⟩ := hP
  have hx := Bd.exec
  have hby := Bd.bytes
  have B := @hb c _ hby
  have hown : s.vm.findClass "java/lang/Math" = some m.cls := findClass_of_methodNamed Bd.named
  have hlk : meth.locks = false := BodyLoose.notSynchronized Bd
  have hrt : ∀ {v : Option Value}, meth.sig.returnType = none → v = none := fun h => by rw [Bd.returns] at h; cases h
  have X0 : Stand p l e rKMi s m #[(.int p1), (.int p2)] bl meth c s1 [] 0 0 := Stand.of_body Bd
  have e0 : s1.heap = h0 := by rw [← hh, Bd.state]; rfl
  have N0 := Fr.nil n0
  obtain ⟨EF, hEF⟩ : ∃ f, f = entryFrame m #[(.int p1), (.int p2)] 2 := ⟨_, rfl⟩
  have pre0 : Go p e bl s1 (mkF m 0 #[iv p1, iv p2] []) s1 EF := fun t k => by rw [hEF]; exact castTop (efMi m p1 p2) k
  have pre1 : Go p e bl s1 (mkF m 2 #[iv p1, iv p2] [(.int p2), (.int p1)]) s1 EF := fun t k => pre0 t (by
   refine XS.iloadN X0.here hx rfl (B d19_0) rfl ?_
   exact XS.iloadN X0.here hx rfl (B d19_1) rfl k)
  by_cases hc2 : p2 < p1
  · have pre2 : Go p e bl s1 (mkF m 9 #[iv p1, iv p2] []) s1 EF := fun t k => pre1 t (XS.icmpYes X0.here hx rfl (pc0 := 2) (pc' := 9) rfl (B d19_2) rfl (tlt hc2).2.2.1 (by decide) (by decide) k)
    have pre3 : Go p e bl s1 (mkF m 10 #[iv p1, iv p2] [(.int p2)]) s1 EF := fun t k => pre2 t (by
     exact XS.iloadN X0.here hx rfl (B d19_9) rfl k)
    exact fin1 X0 (v := some (.int p2)) hrt hlk (wl rfl) (wl rfl) (by rw [e0]; exact ⟨by rw [← hR]; simp [minF, hc2], N0, rfl⟩) (fun fs hr => hEF ▸ pre3 _ (retOut X0 hx Bd.returns rfl (Or.inl ⟨rfl, Or.inl rfl, _, rfl⟩) (B d19_10) hr))
  have pre4 : Go p e bl s1 (mkF m 5 #[iv p1, iv p2] []) s1 EF := fun t k => pre1 t (XS.icmpNo X0.here hx rfl (B d19_2) rfl (flt hc2).2.2.1 k)
  have pre5 : Go p e bl s1 (mkF m 10 #[iv p1, iv p2] [(.int p1)]) s1 EF := fun t k => pre4 t (by
   refine XS.iloadN X0.here hx rfl (B d19_5) rfl ?_
   exact XS.goto X0.here hx rfl (pc0 := 6) (pc' := 10) rfl (B d19_6) (by decide) (by decide) k)
  exact fin1 X0 (v := some (.int p1)) hrt hlk (wl rfl) (wl rfl) (by rw [e0]; exact ⟨by rw [← hR]; simp [minF, hc2], N0, rfl⟩) (fun fs hr => hEF ▸ pre5 _ (retOut X0 hx Bd.returns rfl (Or.inl ⟨rfl, Or.inl rfl, _, rfl⟩) (B d19_10) hr))
abbrev rKTc : Room := { frames := 0, cells := 0, slots := 0, locals := 0 }
theorem d20_0 : decode jdk_65_method_131_code 0 = .ok (.iload_n 1, 1) := by decide +kernel
theorem d20_1 : decode jdk_65_method_131_code 1 = .ok (.iload_n 0, 1) := by decide +kernel
theorem d20_2 : decode jdk_65_method_131_code 2 = .ok (.if_icmp .ge 35, 3) := by decide +kernel
theorem d20_37 : decode jdk_65_method_131_code 37 = .ok (.return_, 1) := by decide +kernel
theorem pn5 : plainName "java/util/Arrays" = true := by first | (simp [plainName, overriddenIn]; done) | decide +kernel
theorem efTc (m : MethodId) (p2 : Int32) : entryFrame m #[(.int 0), (.int p2)] 2 = mkF m 0 #[iv 0, iv p2] [] := by first | (simp [entryFrame, mkF, argsToLocals, Value.category]; done) | rfl
def QTc (Z : State) (p2 : Int32) (cz : Int32) (fv : Value) (h0 : Heap) (n0 : Nat) (v : Option Value) (h : Heap) (L : List Loc) : Prop := v = none ∧ Fr n0 L ∧ h = h0
set_option maxRecDepth 65536 in
set_option maxHeartbeats 40000000 in
theorem rmTc (l : Launch) (Z : State) (a0 : Array Value) (hw : HW a0 Z) (ws : List Jvm.Cond) (p2 : Int32) (cz : Int32) (fv : Value) (h0 : Heap) (n0 : Nat) (Z0 : n0 ≤ h0.size) (O0 : Old Z n0 h0) (J0 : Jd Z cz fv) (h0p : ¬ p2 < 0) :
    MF l Z mN20 jdk_65_method_131_code 2 none ws rKTc #[(.int 0), (.int p2)] h0 (QTc Z p2 cz fv h0 n0) := by
  refine MetFree.of_bodySF (plainFor_of_name pn5) hisR ?_
  intro p e s m args bl meth c s1 Bd hml0 hP hK
  obtain ⟨rfl, hZ, hh⟩ := hP
  have hx := Bd.exec
  have hby := Bd.bytes
  have B := @hb c _ hby
  have hown : s.vm.findClass "java/util/Arrays" = some m.cls := findClass_of_methodNamed Bd.named
  have hlk : meth.locks = false := BodyLoose.notSynchronized Bd
  have X0 : Stand p l e rKTc s m #[(.int 0), (.int p2)] bl meth c s1 [] 0 0 := Stand.of_body Bd
  have e0 : s1.heap = h0 := by rw [← hh, Bd.state]; rfl
  have N0 := Fr.nil n0
  obtain ⟨EF, hEF⟩ : ∃ f, f = entryFrame m #[(.int 0), (.int p2)] 2 := ⟨_, rfl⟩
  have pre0 : Go p e bl s1 (mkF m 0 #[iv 0, iv p2] []) s1 EF := fun t k => by rw [hEF]; exact castTop (efTc m p2) k
  have pre1 : Go p e bl s1 (mkF m 2 #[iv 0, iv p2] [(.int 0), (.int p2)]) s1 EF := fun t k => pre0 t (by
   refine XS.iloadN X0.here hx rfl (B d20_0) rfl ?_
   exact XS.iloadN X0.here hx rfl (B d20_1) rfl k)
  have pre2 : Go p e bl s1 (mkF m 37 #[iv 0, iv p2] []) s1 EF := fun t k => pre1 t (XS.icmpYes X0.here hx rfl (pc0 := 2) (pc' := 37) rfl (B d20_2) rfl (flt h0p).2.1 (by decide) (by decide) k)
  exact fin1 X0 (v := none) (fun _ => rfl) hlk (wl rfl) (wl rfl) (by rw [e0]; exact ⟨rfl, N0, rfl⟩) (fun fs hr => hEF ▸ pre2 _ (X0.returnOut hx Bd.returns (B d20_37) hr))
theorem own_cpx (xs : List Int32) : (List.replicate xs.length (Value.int 0)).take (0 : Int32).toNatClampNeg ++ ((List.range xs.length).map fun i => (BV (pad xs)).getD ((0 : Int32).toNatClampNeg + i) (.int 0)) ++ (List.replicate xs.length (Value.int 0)).drop ((0 : Int32).toNatClampNeg + xs.length) = BV xs := by
  have e : (0 : Int32).toNatClampNeg = 0 := by decide
  rw [e]
  apply List.ext_getElem
  · simp [BV]
  · intro i h1 h2
    have h3 : i < xs.length := by simpa [BV] using h2
    have h4 : i < (pad xs).length := by simp [pad]; omega
    simp [BV, pad, h3, List.getElem_append]
    rw [List.getElem?_append_left (by simpa using h3)]; simp [h3]
theorem own_min {n : Int32} {k : Nat} (h : n.toInt = k) (hk : k < 16) : minF 16 n = n := by
  have e : (16 : Int32).toInt = 16 := by decide
  unfold minF; rw [if_pos (by rw [Int32.lt_iff_toInt_lt, e]; omega)]
theorem own_sub0 (n : Int32) : n - 0 = n := Int32.sub_zero n
abbrev rKTb : Room := { frames := 1, cells := 1, slots := 16, locals := 40 }
theorem d21_0 : decode jdk_65_method_133_code 0 = .ok (.iload_n 1, 1) := by decide +kernel
theorem d21_1 : decode jdk_65_method_133_code 1 = .ok (.iload_n 2, 1) := by decide +kernel
theorem d21_2 : decode jdk_65_method_133_code 2 = .ok (.invokestatic 343, 3) := by decide +kernel
theorem d21_5 : decode jdk_65_method_133_code 5 = .ok (.iload_n 2, 1) := by decide +kernel
theorem d21_6 : decode jdk_65_method_133_code 6 = .ok (.iload_n 1, 1) := by decide +kernel
theorem d21_7 : decode jdk_65_method_133_code 7 = .ok (.isub, 1) := by decide +kernel
theorem d21_8 : decode jdk_65_method_133_code 8 = .ok (.istore_n 3, 1) := by decide +kernel
theorem d21_9 : decode jdk_65_method_133_code 9 = .ok (.iload_n 3, 1) := by decide +kernel
theorem d21_10 : decode jdk_65_method_133_code 10 = .ok (.newarray .byte, 2) := by decide +kernel
theorem d21_12 : decode jdk_65_method_133_code 12 = .ok (.astore 4, 2) := by decide +kernel
theorem d21_14 : decode jdk_65_method_133_code 14 = .ok (.aload_n 0, 1) := by decide +kernel
theorem d21_15 : decode jdk_65_method_133_code 15 = .ok (.iload_n 1, 1) := by decide +kernel
theorem d21_16 : decode jdk_65_method_133_code 16 = .ok (.aload 4, 2) := by decide +kernel
theorem d21_18 : decode jdk_65_method_133_code 18 = .ok (.iconst 0, 1) := by decide +kernel
theorem d21_19 : decode jdk_65_method_133_code 19 = .ok (.aload_n 0, 1) := by decide +kernel
theorem d21_20 : decode jdk_65_method_133_code 20 = .ok (.arraylength, 1) := by decide +kernel
theorem d21_21 : decode jdk_65_method_133_code 21 = .ok (.iload_n 1, 1) := by decide +kernel
theorem d21_22 : decode jdk_65_method_133_code 22 = .ok (.isub, 1) := by decide +kernel
theorem d21_23 : decode jdk_65_method_133_code 23 = .ok (.iload_n 3, 1) := by decide +kernel
theorem d21_24 : decode jdk_65_method_133_code 24 = .ok (.invokestatic 304, 3) := by decide +kernel
theorem d21_27 : decode jdk_65_method_133_code 27 = .ok (.invokestatic 150, 3) := by decide +kernel
theorem d21_30 : decode jdk_65_method_133_code 30 = .ok (.aload 4, 2) := by decide +kernel
theorem d21_32 : decode jdk_65_method_133_code 32 = .ok (.areturn, 1) := by decide +kernel
theorem pd11 : parseMethodDescriptor "(II)I" = some ⟨[.int, .int], some .int⟩ := by decide +kernel
theorem efTb (m : MethodId) (a1 : Addr) (p2 : Int32) : entryFrame m #[(.ref a1), (.int 0), (.int p2)] 5 = mkF m 0 #[rv a1, iv 0, iv p2, .unset, .unset] [] := by first | (simp [entryFrame, mkF, argsToLocals, Value.category]; done) | rfl
def QTb (Z : State) (a1 : Addr) (p2 : Int32) (cz : Int32) (fv : Value) (kb : ClassId) (xs : List Int32) (h0 : Heap) (n0 : Nat) (v : Option Value) (h : Heap) (L : List Loc) : Prop := ∃ b k, v = some (.ref b) ∧ Fr n0 L ∧ Keep h0 h [] ∧ h0.size ≤ b ∧ Arv Z h b k .byte p2 (BV xs) (.int 0)
set_option maxRecDepth 65536 in
set_option maxHeartbeats 40000000 in
theorem rmTb (l : Launch) (Z : State) (a0 : Array Value) (hw : HW a0 Z) (ws : List Jvm.Cond) (a1 : Addr) (p2 : Int32) (cz : Int32) (fv : Value) (kb : ClassId) (xs : List Int32) (h0 : Heap) (n0 : Nat) (Z0 : n0 ≤ h0.size) (O0 : Old Z n0 h0) (J0 : Jd Z cz fv) (V1 : Arv Z h0 a1 kb .byte (16 : Int32) (BV (pad xs)) (.int 0)) (hc : p2.toInt = xs.length) (hx16 : xs.length < 16) :
    MF l Z mN21 jdk_65_method_133_code 5 (some (.array .byte)) ws rKTb #[(.ref a1), (.int 0), (.int p2)] h0 (QTb Z a1 p2 cz fv kb xs h0 n0) := by
  refine MetFree.of_bodySF (plainFor_of_name pn5) hisR ?_
  intro p e s m args bl meth c s1 Bd hml0 hP hK
  obtain ⟨rfl, hZ, hh⟩ := hP
  have hx := Bd.exec
  have hby := Bd.bytes
  have B := @hb c _ hby
  have hM := fun {n : Nat} (h : n = 5) => h.trans hml0.symm
  have hown : s.vm.findClass "java/util/Arrays" = some m.cls := findClass_of_methodNamed Bd.named
  have hlk : meth.locks = false := BodyLoose.notSynchronized Bd
  have hrt : ∀ {v : Option Value}, meth.sig.returnType = none → v = none := fun h => by rw [Bd.returns] at h; cases h
  have X0 : Stand p l e rKTb s m #[(.ref a1), (.int 0), (.int p2)] bl meth c s1 [] 0 0 := Stand.of_body Bd
  have e0 : s1.heap = h0 := by rw [← hh, Bd.state]; rfl
  have N0 := Fr.nil n0
  obtain ⟨EF, hEF⟩ : ∃ f, f = entryFrame m #[(.ref a1), (.int 0), (.int p2)] 5 := ⟨_, rfl⟩
  have pre0 : Go p e bl s1 (mkF m 0 #[rv a1, iv 0, iv p2, .unset, .unset] []) s1 EF := fun t k => by rw [hEF]; exact castTop (efTb m a1 p2) k
  have pl := own_pad xs (by omega)
  have pre1 : Go p e bl s1 (mkF m 2 #[rv a1, iv 0, iv p2, .unset, .unset] [(.int p2), (.int 0)]) s1 EF := fun t k => pre0 t (by
   refine XS.iloadN X0.here hx rfl (B d21_0) rfl ?_
   exact XS.iloadN X0.here hx rfl (B d21_1) rfl k)
  obtain ⟨_, _, ⟨T2, L2, k2, n2⟩, -, X2, ⟨Lc2, hQ2, l2, y2, z2⟩, st2⟩ := Jvm.LawKit.callS X0 hx (y := mN20) hown (mvT hZ (hw _ (mW 145 rfl))) (mvT hZ (hw _ (mW 146 rfl))) (mvT hZ (hw _ (mW 140 rfl))) (mvT hZ (hw _ (mW 147 rfl))) (by decide) (backOf (W := 0) (rmTc l Z a0 hw [] p2 cz fv  h0 n0 Z0 O0 J0 (own_nneg hc)) hZ (hw _ (mW 147 rfl)) (hw _ (mW 140 rfl)) (by decide) (by decide)) (g := (mkF m 2 #[rv a1, iv 0, iv p2, .unset, .unset] [(.int p2), (.int 0)])) rfl (hM rfl) (argsL := [(.int 0), (.int p2)]) (rest := []) (lenOf pd2 rfl) rfl (Nat.le_of_eq rfl) (B d21_2) (fun _ _ => ⟨rfl, e0, wl rfl, wl rfl⟩)
  dsimp only [Pt.U, Pt.locs, Pt.cells, Pt.slots] at X2 l2 y2 z2 st2 hQ2
  subst l2 y2 z2
  obtain ⟨rfl, N2q, hq2⟩ := hQ2
  have N2 := Fr.app N0 N2q
  have pre3 : Go p e bl T2 (mkF m 5 #[rv a1, iv 0, iv p2, .unset, .unset] []) s1 EF := fun t k => pre1 t (st2 t k)
  have e2 : T2.heap = h0 := hq2
  obtain ⟨nl, e_nl⟩ : ∃ z : Int32, z = (p2 - (0 : Int32)) := ⟨_, rfl⟩
  have pre4 : Go p e bl T2 (mkF m 9 #[rv a1, iv 0, iv p2, iv nl, .unset] []) s1 EF := fun t k => pre3 t (by
   refine XS.iloadN X2.here hx rfl (B d21_5) rfl ?_
   refine XS.iloadN X2.here hx rfl (B d21_6) rfl ?_
   refine XS.isub X2.here hx rfl (B d21_7) rfl ?_
   exact XS.istoreN X2.here hx rfl (B d21_8) rfl (l' := #[rv a1, iv 0, iv p2, iv nl, .unset]) (by rw [e_nl]; rfl) k)
  obtain rfl : nl = p2 := e_nl.trans (own_sub0 p2)
  have nc := own_clamp hc
  have pre5 : Go p e bl T2 (mkF m 10 #[rv a1, iv 0, iv nl, iv nl, .unset] [(.int nl)]) s1 EF := fun t k => pre4 t (by
   exact XS.iloadN X2.here hx rfl (B d21_9) rfl k)
  obtain ⟨T6, h6, k6, X6, e6, Et6, A6, st6⟩ := newP X2 hx hZ (hw _ (mW 23 rfl)) e2 (g := (mkF m 10 #[rv a1, iv 0, iv nl, iv nl, .unset] [(.int nl)])) rfl (B d21_10) rfl (own_nneg hc) (cap := 16) (by rw [nc]; omega) (by decide) (by decide) (by decide)
  obtain ⟨b6, g6⟩ : ∃ z, z = h0.size := ⟨_, rfl⟩
  rw [← g6] at A6 st6
  have g_b6 : n0 ≤ b6 := Nat.le_trans Z0 (Nat.le_of_eq g6.symm)
  have sz_b6 : h0.size ≤ b6 := Nat.le_trans (Keep.refl h0 []).1 (Nat.le_of_eq g6.symm)
  have ne_a1_b6 : a1 ≠ b6 := Nat.ne_of_lt (Nat.lt_of_lt_of_le V1.lt (Nat.le_of_eq g6.symm))
  have pre7 : Go p e bl T6 (mkF m 12 #[rv a1, iv 0, iv nl, iv nl, .unset] [(.ref b6)]) s1 EF := fun t k => pre5 t (st6 t k)
  have O8 : Old Z n0 h6 := O0.ext Et6
  have Z8 : n0 ≤ h6.size := Nat.le_trans Z0 Et6.1
  have K8 : Keep h0 h6 [] := (Keep.refl h0 []).ext Et6
  have V6 : Arv Z h6 b6 k6 .byte nl (List.replicate xs.length (Value.int 0)) (.int 0) := (Arv.new A6 (own_nneg hc)).pad (pad_rep [] (.int 0) xs.length)
  have pre9 : Go p e bl T6 (mkF m 20 #[rv a1, iv 0, iv nl, iv nl, rv b6] [(.ref a1), (.int 0), (.ref b6), (.int 0), (.ref a1)]) s1 EF := fun t k => pre7 t (by
   refine XS.astore X6.here hx rfl (B d21_12) rfl rfl (l' := #[rv a1, iv 0, iv nl, iv nl, rv b6]) rfl ?_
   refine XS.aloadN X6.here hx rfl (B d21_14) rfl rfl ?_
   refine XS.iloadN X6.here hx rfl (B d21_15) rfl ?_
   refine XS.aload X6.here hx rfl (B d21_16) rfl rfl ?_
   refine XS.iconst X6.here hx rfl (B d21_18) ?_
   exact XS.aloadN X6.here hx rfl (B d21_19) rfl rfl k)
  obtain ⟨cl10, Ar10, q10, Sz10, M10, H10, G10⟩ := id (V1.ext Et6)
  have pre11 : Go p e bl T6 (mkF m 24 #[rv a1, iv 0, iv nl, iv nl, rv b6] [(.int nl), (.int 16), (.int 0), (.ref b6), (.int 0), (.ref a1)]) s1 EF := fun t k => pre9 t (by
   refine X6.arraylength hx (hp e6 Ar10) (State.isArrayOf_alike hZ.alike Ar10.2.1) (g := (mkF m 20 #[rv a1, iv 0, iv nl, iv nl, rv b6] [(.ref a1), (.int 0), (.ref b6), (.int 0), (.ref a1)])) rfl rfl (B d21_20) _ ?_
   rw [len_of Sz10 M10]
   refine XS.iloadN X6.here hx rfl (B d21_21) rfl ?_
   refine XS.isub X6.here hx rfl (B d21_22) rfl ?_
   exact XS.iloadN X6.here hx rfl (B d21_23) rfl k)
  obtain ⟨_, _, ⟨T12, L12, k12, n12⟩, -, X12, ⟨Lc12, hQ12, l12, y12, z12⟩, st12⟩ := Jvm.LawKit.callS X6 hx (y := mN19) hown (mvT hZ (hw _ (mW 148 rfl))) (mvT hZ (hw _ (mW 149 rfl))) (mvT hZ (hw _ (mW 150 rfl))) (mvT hZ (hw _ (mW 151 rfl))) (by decide) (backOf (W := 4) (rmMi l Z a0 hw [] (16 : Int32) nl nl h6 n0 Z8 (own_min hc hx16)) hZ (hw _ (mW 151 rfl)) (hw _ (mW 150 rfl)) (by decide) (by decide)) (g := (mkF m 24 #[rv a1, iv 0, iv nl, iv nl, rv b6] [(.int nl), (.int 16), (.int 0), (.ref b6), (.int 0), (.ref a1)])) rfl (hM rfl) (argsL := [(.int 16), (.int nl)]) (rest := [(.int 0), (.ref b6), (.int 0), (.ref a1)]) (lenOf pd11 rfl) rfl (Nat.le_of_eq rfl) (B d21_24) (fun _ _ => ⟨rfl, e6, wl rfl, wl rfl⟩)
  dsimp only [Pt.U, Pt.locs, Pt.cells, Pt.slots] at X12 l12 y12 z12 st12 hQ12
  subst l12 y12 z12
  obtain ⟨rfl, N12q, hq12⟩ := hQ12
  have N12 := Fr.app N2 N12q
  have pre13 : Go p e bl T12 (mkF m 27 #[rv a1, iv 0, iv nl, iv nl, rv b6] [(.int nl), (.int 0), (.ref b6), (.int 0), (.ref a1)]) s1 EF := fun t k => pre11 t (st12 t k)
  have e12 : T12.heap = h6 := hq12
  obtain ⟨T14, h14, L14, X14, e14, N14, K14, VC14, st14⟩ := cpA X12 hx hZ hown (hw _ (mW 152 rfl)) (hw _ (mW 107 rfl)) (hw _ (mW 105 rfl)) (hw _ (mW 106 rfl)) e12 (V1.ext Et6) V6 (Or.inl ⟨rfl, rfl⟩) (by decide) (by decide) (own_nneg hc) (by rw [nc]; show 0 + _ ≤ 16; omega) (by rw [nc]; exact Nat.le_of_eq (Nat.zero_add _)) rfl (by rw [nc, List.length_replicate]; exact Nat.le_of_eq (Nat.zero_add _)) N12 g_b6 (g := (mkF m 27 #[rv a1, iv 0, iv nl, iv nl, rv b6] [(.int nl), (.int 0), (.ref b6), (.int 0), (.ref a1)])) rfl (hM rfl) rfl (B d21_27) (by decide) (W := 0) (Nat.le_of_eq rfl) (by decide)
  have pre15 : Go p e bl T14 (mkF m 30 #[rv a1, iv 0, iv nl, iv nl, rv b6] []) s1 EF := fun t k => pre13 t (st14 t k)
  have O16 : Old Z n0 h14 := O8.keep K14 (allS g_b6 all0)
  have Z16 : n0 ≤ h14.size := Nat.le_trans Z8 K14.1
  have K16 : Keep h0 h14 [] := K8.trans K14 (allS (Or.inr sz_b6) all0)
  rw [nc, own_cpx] at VC14
  have pre17 : Go p e bl T14 (mkF m 32 #[rv a1, iv 0, iv nl, iv nl, rv b6] [(.ref b6)]) s1 EF := fun t k => pre15 t (by
   exact XS.aload X14.here hx rfl (B d21_30) rfl rfl k)
  exact fin1 X14 (v := some (.ref b6)) hrt hlk (wl rfl) (wl rfl) (by rw [e14]; exact ⟨_, _, rfl, N14, K16, sz_b6, VC14⟩) (fun fs hr => hEF ▸ pre17 _ (retOut X14 hx Bd.returns rfl (Or.inr (Or.inr (Or.inr (Or.inr ⟨rfl, rfl, rfl⟩)))) (B d21_32) hr))
theorem own_n16 {n : Int32} {k : Nat} (h : n.toInt = k) (hk : k < 16) : ¬ n = 16 := by
  intro q
  subst q
  have e : (16 : Int32).toInt = 16 := by decide
  omega
abbrev rKTr : Room := { frames := 2, cells := 1, slots := 16, locals := 56 }
theorem d22_0 : decode jdk_65_method_132_code 0 = .ok (.iload_n 1, 1) := by decide +kernel
theorem d22_1 : decode jdk_65_method_132_code 1 = .ok (.ifCond .ne 9, 3) := by decide +kernel
theorem d22_4 : decode jdk_65_method_132_code 4 = .ok (.iload_n 2, 1) := by decide +kernel
theorem d22_5 : decode jdk_65_method_132_code 5 = .ok (.aload_n 0, 1) := by decide +kernel
theorem d22_6 : decode jdk_65_method_132_code 6 = .ok (.arraylength, 1) := by decide +kernel
theorem d22_7 : decode jdk_65_method_132_code 7 = .ok (.if_icmp .eq 10, 3) := by decide +kernel
theorem d22_10 : decode jdk_65_method_132_code 10 = .ok (.aload_n 0, 1) := by decide +kernel
theorem d22_11 : decode jdk_65_method_132_code 11 = .ok (.iload_n 1, 1) := by decide +kernel
theorem d22_12 : decode jdk_65_method_132_code 12 = .ok (.iload_n 2, 1) := by decide +kernel
theorem d22_13 : decode jdk_65_method_132_code 13 = .ok (.invokestatic 339, 3) := by decide +kernel
theorem d22_16 : decode jdk_65_method_132_code 16 = .ok (.areturn, 1) := by decide +kernel
theorem pd12 : parseMethodDescriptor "([BII)[B" = some ⟨[(.array .byte), .int, .int], some (.array .byte)⟩ := by decide +kernel
theorem efTr (m : MethodId) (a1 : Addr) (p2 : Int32) : entryFrame m #[(.ref a1), (.int 0), (.int p2)] 3 = mkF m 0 #[rv a1, iv 0, iv p2] [] := by first | (simp [entryFrame, mkF, argsToLocals, Value.category]; done) | rfl
def QTr (Z : State) (a1 : Addr) (p2 : Int32) (cz : Int32) (fv : Value) (kb : ClassId) (xs : List Int32) (h0 : Heap) (n0 : Nat) (v : Option Value) (h : Heap) (L : List Loc) : Prop := ∃ b k, v = some (.ref b) ∧ Fr n0 L ∧ Keep h0 h [] ∧ h0.size ≤ b ∧ Arv Z h b k .byte p2 (BV xs) (.int 0)
set_option maxRecDepth 65536 in
set_option maxHeartbeats 40000000 in
theorem rmTr (l : Launch) (Z : State) (a0 : Array Value) (hw : HW a0 Z) (ws : List Jvm.Cond) (a1 : Addr) (p2 : Int32) (cz : Int32) (fv : Value) (kb : ClassId) (xs : List Int32) (h0 : Heap) (n0 : Nat) (Z0 : n0 ≤ h0.size) (O0 : Old Z n0 h0) (J0 : Jd Z cz fv) (V1 : Arv Z h0 a1 kb .byte (16 : Int32) (BV (pad xs)) (.int 0)) (hc : p2.toInt = xs.length) (hx16 : xs.length < 16) :
    MF l Z mN22 jdk_65_method_132_code 3 (some (.array .byte)) ws rKTr #[(.ref a1), (.int 0), (.int p2)] h0 (QTr Z a1 p2 cz fv kb xs h0 n0) := by
  refine MetFree.of_bodySF (plainFor_of_name pn5) hisR ?_
  intro p e s m args bl meth c s1 Bd hml0 hP hK
  obtain ⟨rfl, hZ, hh⟩ := hP
  have hx := Bd.exec
  have hby := Bd.bytes
  have B := @hb c _ hby
  have hM := fun {n : Nat} (h : n = 3) => h.trans hml0.symm
  have hown : s.vm.findClass "java/util/Arrays" = some m.cls := findClass_of_methodNamed Bd.named
  have hlk : meth.locks = false := BodyLoose.notSynchronized Bd
  have hrt : ∀ {v : Option Value}, meth.sig.returnType = none → v = none := fun h => by rw [Bd.returns] at h; cases h
  have X0 : Stand p l e rKTr s m #[(.ref a1), (.int 0), (.int p2)] bl meth c s1 [] 0 0 := Stand.of_body Bd
  have e0 : s1.heap = h0 := by rw [← hh, Bd.state]; rfl
  have N0 := Fr.nil n0
  obtain ⟨EF, hEF⟩ : ∃ f, f = entryFrame m #[(.ref a1), (.int 0), (.int p2)] 3 := ⟨_, rfl⟩
  have pre0 : Go p e bl s1 (mkF m 0 #[rv a1, iv 0, iv p2] []) s1 EF := fun t k => by rw [hEF]; exact castTop (efTr m a1 p2) k
  have pl := own_pad xs (by omega)
  have pre1 : Go p e bl s1 (mkF m 1 #[rv a1, iv 0, iv p2] [(.int 0)]) s1 EF := fun t k => pre0 t (by
   exact XS.iloadN X0.here hx rfl (B d22_0) rfl k)
  have pre2 : Go p e bl s1 (mkF m 4 #[rv a1, iv 0, iv p2] []) s1 EF := fun t k => pre1 t (XS.ifNo X0.here hx rfl (B d22_1) rfl ((if0 _ _).trans (teq (by decide : (0 : Int32) = (0 : Int32))).2) k)
  have pre3 : Go p e bl s1 (mkF m 6 #[rv a1, iv 0, iv p2] [(.ref a1), (.int p2)]) s1 EF := fun t k => pre2 t (by
   refine XS.iloadN X0.here hx rfl (B d22_4) rfl ?_
   exact XS.aloadN X0.here hx rfl (B d22_5) rfl rfl k)
  obtain ⟨cl4, Ar4, q4, Sz4, M4, H4, G4⟩ := id V1
  have pre5 : Go p e bl s1 (mkF m 7 #[rv a1, iv 0, iv p2] [(.int 16), (.int p2)]) s1 EF := fun t k => pre3 t (by
   refine X0.arraylength hx (hp e0 Ar4) (State.isArrayOf_alike hZ.alike Ar4.2.1) (g := (mkF m 6 #[rv a1, iv 0, iv p2] [(.ref a1), (.int p2)])) rfl rfl (B d22_6) _ ?_
   rw [len_of Sz4 M4]
   exact k)
  have pre6 : Go p e bl s1 (mkF m 10 #[rv a1, iv 0, iv p2] []) s1 EF := fun t k => pre5 t (XS.icmpNo X0.here hx rfl (B d22_7) rfl (feq (own_n16 hc hx16)).1 k)
  have pre7 : Go p e bl s1 (mkF m 13 #[rv a1, iv 0, iv p2] [(.int p2), (.int 0), (.ref a1)]) s1 EF := fun t k => pre6 t (by
   refine XS.aloadN X0.here hx rfl (B d22_10) rfl rfl ?_
   refine XS.iloadN X0.here hx rfl (B d22_11) rfl ?_
   exact XS.iloadN X0.here hx rfl (B d22_12) rfl k)
  obtain ⟨_, _, ⟨T8, L8, k8, n8⟩, -, X8, ⟨Lc8, hQ8, l8, y8, z8⟩, st8⟩ := Jvm.LawKit.callS X0 hx (y := mN21) hown (mvT hZ (hw _ (mW 142 rfl))) (mvT hZ (hw _ (mW 143 rfl))) (mvT hZ (hw _ (mW 140 rfl))) (mvT hZ (hw _ (mW 144 rfl))) (by decide) (backOf (W := 0) (rmTb l Z a0 hw [] a1 p2 cz fv kb xs h0 n0 Z0 O0 J0 V1 hc hx16) hZ (hw _ (mW 144 rfl)) (hw _ (mW 140 rfl)) (by decide) (by decide)) (g := (mkF m 13 #[rv a1, iv 0, iv p2] [(.int p2), (.int 0), (.ref a1)])) rfl (hM rfl) (argsL := [(.ref a1), (.int 0), (.int p2)]) (rest := []) (lenOf pd12 rfl) rfl (Nat.le_of_eq rfl) (B d22_13) (fun _ _ => ⟨rfl, e0, wl rfl, wl rfl⟩)
  dsimp only [Pt.U, Pt.locs, Pt.cells, Pt.slots] at X8 l8 y8 z8 st8 hQ8
  subst l8 y8 z8
  obtain ⟨bo, ko8, rfl, N8q, K8, hsz8, VF8⟩ := hQ8
  have N8 := Fr.app N0 N8q
  have pre9 : Go p e bl T8 (mkF m 16 #[rv a1, iv 0, iv p2] [(.ref bo)]) s1 EF := fun t k => pre7 t (st8 t k)
  have O10 : Old Z n0 T8.heap := O0.keep K8 all0
  have Z10 : n0 ≤ T8.heap.size := Nat.le_trans Z0 K8.1
  have K10 : Keep h0 T8.heap [] := (Keep.refl h0 []).trans K8 all0
  exact fin1 X8 (v := some (.ref bo)) hrt hlk (wl rfl) (wl rfl) (by exact ⟨_, _, rfl, N8, K10, hsz8, VF8⟩) (fun fs hr => hEF ▸ pre9 _ (retOut X8 hx Bd.returns rfl (Or.inr (Or.inr (Or.inr (Or.inr ⟨rfl, rfl, rfl⟩)))) (B d22_16) hr))
abbrev rKTx : Room := { frames := 3, cells := 1, slots := 16, locals := 71 }
theorem d23_0 : decode jdk_42_method_150_code 0 = .ok (.aload_n 0, 1) := by decide +kernel
theorem d23_1 : decode jdk_42_method_150_code 1 = .ok (.invokespecial 1, 3) := by decide +kernel
theorem d23_4 : decode jdk_42_method_150_code 4 = .ok (.aload_n 1, 1) := by decide +kernel
theorem d23_5 : decode jdk_42_method_150_code 5 = .ok (.invokevirtual 552, 3) := by decide +kernel
theorem d23_8 : decode jdk_42_method_150_code 8 = .ok (.astore_n 3, 1) := by decide +kernel
theorem d23_9 : decode jdk_42_method_150_code 9 = .ok (.aload_n 1, 1) := by decide +kernel
theorem d23_10 : decode jdk_42_method_150_code 10 = .ok (.invokevirtual 549, 3) := by decide +kernel
theorem d23_13 : decode jdk_42_method_150_code 13 = .ok (.istore 4, 2) := by decide +kernel
theorem d23_15 : decode jdk_42_method_150_code 15 = .ok (.aload_n 1, 1) := by decide +kernel
theorem d23_16 : decode jdk_42_method_150_code 16 = .ok (.invokevirtual 1047, 3) := by decide +kernel
theorem d23_19 : decode jdk_42_method_150_code 19 = .ok (.ifCond .eq 22, 3) := by decide +kernel
theorem d23_22 : decode jdk_42_method_150_code 22 = .ok (.aload_n 0, 1) := by decide +kernel
theorem d23_23 : decode jdk_42_method_150_code 23 = .ok (.iconst 0, 1) := by decide +kernel
theorem d23_24 : decode jdk_42_method_150_code 24 = .ok (.putfield 15, 3) := by decide +kernel
theorem d23_27 : decode jdk_42_method_150_code 27 = .ok (.aload_n 0, 1) := by decide +kernel
theorem d23_28 : decode jdk_42_method_150_code 28 = .ok (.aload_n 3, 1) := by decide +kernel
theorem d23_29 : decode jdk_42_method_150_code 29 = .ok (.iconst 0, 1) := by decide +kernel
theorem d23_30 : decode jdk_42_method_150_code 30 = .ok (.iload 4, 2) := by decide +kernel
theorem d23_32 : decode jdk_42_method_150_code 32 = .ok (.invokestatic 54, 3) := by decide +kernel
theorem d23_35 : decode jdk_42_method_150_code 35 = .ok (.putfield 9, 3) := by decide +kernel
theorem d23_38 : decode jdk_42_method_150_code 38 = .ok (.goto 59, 3) := by decide +kernel
theorem d23_97 : decode jdk_42_method_150_code 97 = .ok (.return_, 1) := by decide +kernel
theorem pd13 : parseMethodDescriptor "()[B" = some ⟨[], some (.array .byte)⟩ := by decide +kernel
theorem efTx (m : MethodId) (a2 : Addr) (a1 : Addr) : entryFrame m #[(.ref a2), (.ref a1), .null] 5 = mkF m 0 #[rv a2, rv a1, .val .null, .unset, .unset] [] := by first | (simp [entryFrame, mkF, argsToLocals, Value.category]; done) | rfl
def QTx (Z : State) (a2 : Addr) (a1 : Addr) (cz : Int32) (fv : Value) (vb : Addr) (kb : ClassId) (cc : Int32) (xs : List Int32) (h0 : Heap) (n0 : Nat) (v : Option Value) (h : Heap) (L : List Loc) : Prop := v = none ∧ Fr n0 L ∧ Keep h0 h [a2] ∧ ∃ b k, h0.size ≤ b ∧ StL Z h a2 b k cc xs 0 0
set_option maxRecDepth 65536 in
set_option maxHeartbeats 40000000 in
theorem rmTx (l : Launch) (Z : State) (a0 : Array Value) (hw : HW a0 Z) (ws : List Jvm.Cond) (a2 : Addr) (a1 : Addr) (cz : Int32) (fv : Value) (vb : Addr) (kb : ClassId) (cc : Int32) (xs : List Int32) (h0 : Heap) (n0 : Nat) (Z0 : n0 ≤ h0.size) (O0 : Old Z n0 h0) (J0 : Jd Z cz fv) (E2 : Exa Z h0 a2 "java/lang/String") (g_a2 : n0 ≤ a2) (F1 : Fld Z h0 a2 "java/lang/String" "value" "[B" .null) (F2 : Fld Z h0 a2 "java/lang/String" "coder" "B" (.int 0)) (SD : SBd Z h0 a1 vb kb cc xs) (hx16 : xs.length < 16) (ne21 : a2 ≠ vb) (ne2o : a2 ≠ a1) :
    MF l Z mN23 jdk_42_method_150_code 5 none ws rKTx #[(.ref a2), (.ref a1), .null] h0 (QTx Z a2 a1 cz fv vb kb cc xs h0 n0) := by
  refine MetFree.of_bodySF (plainFor_of_name pn0) hisR ?_
  intro p e s m args bl meth c s1 Bd hml0 hP hK
  obtain ⟨rfl, hZ, hh⟩ := hP
  have hx := Bd.exec
  have hby := Bd.bytes
  have B := @hb c _ hby
  have hM := fun {n : Nat} (h : n = 5) => h.trans hml0.symm
  have hown : s.vm.findClass "java/lang/String" = some m.cls := findClass_of_methodNamed Bd.named
  have hnm := (name_of_methodNamed Bd.named Bd.method).1
  have hlk : meth.locks = false := BodyLoose.notSynchronized Bd
  have X0 : Stand p l e rKTx s m #[(.ref a2), (.ref a1), .null] bl meth c s1 [] 0 0 := Stand.of_body Bd
  have e0 : s1.heap = h0 := by rw [← hh, Bd.state]; rfl
  have N0 := Fr.nil n0
  obtain ⟨EF, hEF⟩ : ∃ f, f = entryFrame m #[(.ref a2), (.ref a1), .null] 5 := ⟨_, rfl⟩
  have pre0 : Go p e bl s1 (mkF m 0 #[rv a2, rv a1, .val .null, .unset, .unset] []) s1 EF := fun t k => by rw [hEF]; exact castTop (efTx m a2 a1) k
  have pre1 : Go p e bl s1 (mkF m 1 #[rv a2, rv a1, .val .null, .unset, .unset] [(.ref a2)]) s1 EF := fun t k => pre0 t (by
   exact XS.aloadN X0.here hx rfl (B d23_0) rfl rfl k)
  obtain ⟨T2, X2, e2, st2⟩ := initO X0 hx hZ hown (hw _ (mW 15 rfl)) (hw _ (mW 16 rfl)) (hw _ (mW 17 rfl)) e0 (g := (mkF m 1 #[rv a2, rv a1, .val .null, .unset, .unset] [(.ref a2)])) rfl (hM rfl) rfl (B d23_1) (by decide) (W := 0) (Nat.le_of_eq rfl) (by decide)
  have pre3 : Go p e bl T2 (mkF m 4 #[rv a2, rv a1, .val .null, .unset, .unset] []) s1 EF := fun t k => pre1 t (st2 t k)
  have pre4 : Go p e bl T2 (mkF m 5 #[rv a2, rv a1, .val .null, .unset, .unset] [(.ref a1)]) s1 EF := fun t k => pre3 t (by
   exact XS.aloadN X2.here hx rfl (B d23_4) rfl rfl k)
  obtain ⟨cq5, kq5, q5a, q5b, q5c⟩ := isOf hZ e2 SD.1
  obtain ⟨_, _, ⟨T5, L5, k5, n5⟩, -, X5, ⟨Lc5, hQ5, l5, y5, z5⟩, st5⟩ := X2.virtualBack hx (y := mN16) (z := mN16) hown (mvT hZ (hw _ (mW 120 rfl))) (mvT hZ (hw _ (mW 121 rfl))) (notFace_of_selects (args := #[]) (mvT hZ (hw _ (mW 123 rfl)))) (mvT hZ (hw _ (mW 123 rfl))) (mvT hZ (hw _ (mW 122 rfl))) (by decide) (backOf (W := 0) (rmTv l Z a0 hw [] a1 cz fv vb kb cc xs h0 n0 Z0 O0 J0 SD) hZ (hw _ (mW 124 rfl)) (hw _ (mW 53 rfl)) (by decide) (by decide)) q5a q5c (g := (mkF m 5 #[rv a2, rv a1, .val .null, .unset, .unset] [(.ref a1)])) rfl (hM rfl) (Steps.refl _) (argsL := []) (rest := []) (lenOf pd13 rfl) rfl (Nat.le_of_eq rfl) (B d23_5) (fun _ _ => ⟨rfl, e2, wl rfl, wl rfl⟩)
  dsimp only [Pt.U, Pt.locs, Pt.cells, Pt.slots] at X5 l5 y5 z5 st5 hQ5
  subst l5 y5 z5
  obtain ⟨rfl, N5q, hq5⟩ := hQ5
  have N5 := Fr.app N0 N5q
  have pre6 : Go p e bl T5 (mkF m 8 #[rv a2, rv a1, .val .null, .unset, .unset] [(.ref vb)]) s1 EF := fun t k => pre4 t (st5.trans k)
  have e5 : T5.heap = h0 := hq5
  have pre7 : Go p e bl T5 (mkF m 10 #[rv a2, rv a1, .val .null, rv vb, .unset] [(.ref a1)]) s1 EF := fun t k => pre6 t (by
   refine XS.astoreN X5.here hx rfl (B d23_8) rfl rfl (l' := #[rv a2, rv a1, .val .null, rv vb, .unset]) rfl ?_
   exact XS.aloadN X5.here hx rfl (B d23_9) rfl rfl k)
  obtain ⟨cq8, kq8, q8a, q8b, q8c⟩ := isOf hZ e5 SD.1
  obtain ⟨_, _, ⟨T8, L8, k8, n8⟩, -, X8, ⟨Lc8, hQ8, l8, y8, z8⟩, st8⟩ := X5.virtualBack hx (y := mN15) (z := mN18) hown (mvT hZ (hw _ (mW 125 rfl))) (mvT hZ (hw _ (mW 126 rfl))) (own_nf (mvT hZ (hw _ (mW 123 rfl)) (args := #[])) rfl) (mvT hZ (hw _ (mW 128 rfl))) (mvT hZ (hw _ (mW 129 rfl))) (by decide) (backOf (W := 0) (rmTm l Z a0 hw [] a1 cz fv vb kb cc xs h0 n0 Z0 O0 J0 SD) hZ (hw _ (mW 130 rfl)) (hw _ (mW 45 rfl)) (by decide) (by decide)) q8a q8c (g := (mkF m 10 #[rv a2, rv a1, .val .null, rv vb, .unset] [(.ref a1)])) rfl (hM rfl) (Steps.refl _) (argsL := []) (rest := []) (lenOf pd8 rfl) rfl (Nat.le_of_eq rfl) (B d23_10) (fun _ _ => ⟨rfl, e5, wl rfl, wl rfl⟩)
  dsimp only [Pt.U, Pt.locs, Pt.cells, Pt.slots] at X8 l8 y8 z8 st8 hQ8
  subst l8 y8 z8
  obtain ⟨rfl, N8q, hq8⟩ := hQ8
  have N8 := Fr.app N5 N8q
  have pre9 : Go p e bl T8 (mkF m 13 #[rv a2, rv a1, .val .null, rv vb, .unset] [(.int cc)]) s1 EF := fun t k => pre7 t (st8.trans k)
  have e8 : T8.heap = h0 := hq8
  have pre10 : Go p e bl T8 (mkF m 16 #[rv a2, rv a1, .val .null, rv vb, iv cc] [(.ref a1)]) s1 EF := fun t k => pre9 t (by
   refine XS.istore X8.here hx rfl (B d23_13) rfl (l' := #[rv a2, rv a1, .val .null, rv vb, iv cc]) rfl ?_
   exact XS.aloadN X8.here hx rfl (B d23_15) rfl rfl k)
  obtain ⟨cq11, kq11, q11a, q11b, q11c⟩ := isOf hZ e8 SD.1
  obtain ⟨_, _, ⟨T11, L11, k11, n11⟩, -, X11, ⟨Lc11, hQ11, l11, y11, z11⟩, st11⟩ := X8.virtualBack hx (y := mN17) (z := mN17) hown (mvT hZ (hw _ (mW 133 rfl))) (mvT hZ (hw _ (mW 134 rfl))) (notFace_of_selects (args := #[]) (mvT hZ (hw _ (mW 136 rfl)))) (mvT hZ (hw _ (mW 136 rfl))) (mvT hZ (hw _ (mW 135 rfl))) (by decide) (backOf (W := 0) (rmTi l Z a0 hw [] a1 cz fv vb kb cc xs h0 n0 Z0 O0 J0 SD) hZ (hw _ (mW 137 rfl)) (hw _ (mW 53 rfl)) (by decide) (by decide)) q11a q11c (g := (mkF m 16 #[rv a2, rv a1, .val .null, rv vb, iv cc] [(.ref a1)])) rfl (hM rfl) (Steps.refl _) (argsL := []) (rest := []) (lenOf pd3 rfl) rfl (Nat.le_of_eq rfl) (B d23_16) (fun _ _ => ⟨rfl, e8, wl rfl, wl rfl⟩)
  dsimp only [Pt.U, Pt.locs, Pt.cells, Pt.slots] at X11 l11 y11 z11 st11 hQ11
  subst l11 y11 z11
  obtain ⟨rfl, N11q, hq11⟩ := hQ11
  have N11 := Fr.app N8 N11q
  have pre12 : Go p e bl T11 (mkF m 19 #[rv a2, rv a1, .val .null, rv vb, iv cc] [(.int 1)]) s1 EF := fun t k => pre10 t (st11.trans k)
  have e11 : T11.heap = h0 := hq11
  have pre13 : Go p e bl T11 (mkF m 22 #[rv a2, rv a1, .val .null, rv vb, iv cc] []) s1 EF := fun t k => pre12 t (XS.ifNo X11.here hx rfl (B d23_19) rfl ((if0 _ _).trans (feq (by decide : ¬ ((1 : Int32) = (0 : Int32)))).1) k)
  have pre14 : Go p e bl T11 (mkF m 24 #[rv a2, rv a1, .val .null, rv vb, iv cc] [(.int 0), (.ref a2)]) s1 EF := fun t k => pre13 t (by
   refine XS.aloadN X11.here hx rfl (B d23_22) rfl rfl ?_
   exact XS.iconst X11.here hx rfl (B d23_23) k)
  obtain ⟨T15, h15, X15, e15, W15, st15⟩ := putFN X11 hx hZ hown (hw _ (mW 30 rfl)) Via.refl e11 F2 E2 (Or.inr ⟨(hw _ (mW 31 rfl)), rfl, hnm⟩) (hw _ (mW 5 rfl)) (ty := .byte) (v' := (.int 0)) (by decide) rfl rfl (g := (mkF m 24 #[rv a2, rv a1, .val .null, rv vb, iv cc] [(.int 0), (.ref a2)])) rfl rfl (B d23_24)
  have pre16 : Go p e bl T15 (mkF m 27 #[rv a2, rv a1, .val .null, rv vb, iv cc] []) s1 EF := fun t k => pre14 t (st15 t k)
  have O17 : Old Z n0 h15 := O0.wr W15 g_a2
  have Z17 : n0 ≤ h15.size := Nat.le_trans Z0 (Keep.of_wr W15).1
  have K17 : Keep h0 h15 [a2] := (Keep.refl h0 [a2]).wr W15 (Or.inl (mg 0 rfl))
  have Fw15 := Fld.same W15 F2
  have N15 := Fr.snoc X15 N11 g_a2
  have pre18 : Go p e bl T15 (mkF m 32 #[rv a2, rv a1, .val .null, rv vb, iv cc] [(.int cc), (.int 0), (.ref vb), (.ref a2)]) s1 EF := fun t k => pre16 t (by
   refine XS.aloadN X15.here hx rfl (B d23_27) rfl rfl ?_
   refine XS.aloadN X15.here hx rfl (B d23_28) rfl rfl ?_
   refine XS.iconst X15.here hx rfl (B d23_29) ?_
   exact XS.iload X15.here hx rfl (B d23_30) rfl k)
  obtain ⟨_, _, ⟨T19, L19, k19, n19⟩, -, X19, ⟨Lc19, hQ19, l19, y19, z19⟩, st19⟩ := Jvm.LawKit.callS X15 hx (y := mN22) hown (mvT hZ (hw _ (mW 138 rfl))) (mvT hZ (hw _ (mW 139 rfl))) (mvT hZ (hw _ (mW 140 rfl))) (mvT hZ (hw _ (mW 141 rfl))) (by decide) (backOf (W := 1) (rmTr l Z a0 hw [] vb cc cz fv kb xs h15 n0 Z17 O17 J0 (SD.2.2.2.2.1.other W15 (Ne.symm ne21)) SD.2.2.2.2.2.2.1 hx16) hZ (hw _ (mW 141 rfl)) (hw _ (mW 140 rfl)) (by decide) (by decide)) (g := (mkF m 32 #[rv a2, rv a1, .val .null, rv vb, iv cc] [(.int cc), (.int 0), (.ref vb), (.ref a2)])) rfl (hM rfl) (argsL := [(.ref vb), (.int 0), (.int cc)]) (rest := [(.ref a2)]) (lenOf pd12 rfl) rfl (Nat.le_of_eq rfl) (B d23_32) (fun _ _ => ⟨rfl, e15, wl rfl, wl rfl⟩)
  dsimp only [Pt.U, Pt.locs, Pt.cells, Pt.slots] at X19 l19 y19 z19 st19 hQ19
  subst l19 y19 z19
  obtain ⟨bo, ko19, rfl, N19q, K19, hsz19, VF19⟩ := hQ19
  have N19 := Fr.app N15 N19q
  have pre20 : Go p e bl T19 (mkF m 35 #[rv a2, rv a1, .val .null, rv vb, iv cc] [(.ref bo), (.ref a2)]) s1 EF := fun t k => pre18 t (st19 t k)
  have O21 : Old Z n0 T19.heap := O17.keep K19 all0
  have Z21 : n0 ≤ T19.heap.size := Nat.le_trans Z17 K19.1
  have K21 : Keep h0 T19.heap [a2] := K17.trans K19 all0
  have g_bo : n0 ≤ bo := Nat.le_trans Z17 hsz19
  have sz_bo : h0.size ≤ bo := Nat.le_trans K17.1 hsz19
  have ne_a2_bo : a2 ≠ bo := Nat.ne_of_lt (Nat.lt_of_lt_of_le (E2.wr W15).lt hsz19)
  obtain ⟨T22, h22, X22, e22, W22, st22⟩ := putF X19 hx hZ hown (host := "") (Or.inl (hw _ (mW 32 rfl))) Via.refl rfl ((Fld.other W15 F1 (Or.inr (slot_ne (Or.inr (hw _ (mW 33 rfl))) (Or.inr (hw _ (mW 31 rfl))) (by decide) (t := (.array .byte)) (t' := .byte) (by decide) (by decide)))).keep K19 nin0) ((E2.wr W15).keep K19) (Or.inr ⟨(hw _ (mW 33 rfl)), rfl, hnm⟩) (hw _ (mW 5 rfl)) (ty := (.array .byte)) (by decide) rfl rfl (g := (mkF m 35 #[rv a2, rv a1, .val .null, rv vb, iv cc] [(.ref bo), (.ref a2)])) rfl rfl (B d23_35)
  have pre23 : Go p e bl T22 (mkF m 38 #[rv a2, rv a1, .val .null, rv vb, iv cc] []) s1 EF := fun t k => pre20 t (st22 t k)
  have O24 : Old Z n0 h22 := O21.wr W22 g_a2
  have Z24 : n0 ≤ h22.size := Nat.le_trans Z21 (Keep.of_wr W22).1
  have K24 : Keep h0 h22 [a2] := K21.wr W22 (Or.inl (mg 0 rfl))
  have Fw22 := Fld.same W22 ((Fld.other W15 F1 (Or.inr (slot_ne (Or.inr (hw _ (mW 33 rfl))) (Or.inr (hw _ (mW 31 rfl))) (by decide) (t := (.array .byte)) (t' := .byte) (by decide) (by decide)))).keep K19 nin0)
  have N22 := Fr.snoc X22 N19 g_a2
  have pre25 : Go p e bl T22 (mkF m 97 #[rv a2, rv a1, .val .null, rv vb, iv cc] []) s1 EF := fun t k => pre23 t (by
   exact XS.goto X22.here hx rfl (pc0 := 38) (pc' := 97) rfl (B d23_38) (by decide) (by decide) k)
  exact fin1 X22 (v := none) (fun _ => rfl) hlk (wl rfl) (wl rfl) (by rw [e22]; exact ⟨rfl, N22, K24, _, _, sz_bo, ⟨(((E2.wr W15).keep K19).wr W22), (Fld.other W22 (Fw15.keep K19 nin0) (Or.inr (slot_ne (Or.inr (hw _ (mW 31 rfl))) (Or.inr (hw _ (mW 33 rfl))) (by decide) (t := .byte) (t' := (.array .byte)) (by decide) (by decide)))), Fw22, (VF19.other W22 (Ne.symm ne_a2_bo)), trivial, ne_a2_bo⟩⟩) (fun fs hr => hEF ▸ pre25 _ (X22.returnOut hx Bd.returns (B d23_97) hr))
abbrev rKTy : Room := { frames := 4, cells := 1, slots := 16, locals := 87 }
theorem d24_0 : decode jdk_42_method_53_code 0 = .ok (.aload_n 0, 1) := by decide +kernel
theorem d24_1 : decode jdk_42_method_53_code 1 = .ok (.aload_n 1, 1) := by decide +kernel
theorem d24_2 : decode jdk_42_method_53_code 2 = .ok (.aconst_null, 1) := by decide +kernel
theorem d24_3 : decode jdk_42_method_53_code 3 = .ok (.invokespecial 489, 3) := by decide +kernel
theorem d24_6 : decode jdk_42_method_53_code 6 = .ok (.return_, 1) := by decide +kernel
theorem pd14 : parseMethodDescriptor "(Ljava/lang/AbstractStringBuilder;Ljava/lang/Void;)V" = some ⟨[(.object "java/lang/AbstractStringBuilder"), (.object "java/lang/Void")], none⟩ := by decide +kernel
theorem efTy (m : MethodId) (a2 : Addr) (a1 : Addr) : entryFrame m #[(.ref a2), (.ref a1)] 2 = mkF m 0 #[rv a2, rv a1] [] := by first | (simp [entryFrame, mkF, argsToLocals, Value.category]; done) | rfl
def QTy (Z : State) (a2 : Addr) (a1 : Addr) (cz : Int32) (fv : Value) (vb : Addr) (kb : ClassId) (cc : Int32) (xs : List Int32) (h0 : Heap) (n0 : Nat) (v : Option Value) (h : Heap) (L : List Loc) : Prop := v = none ∧ Fr n0 L ∧ Keep h0 h [a2] ∧ ∃ b k, h0.size ≤ b ∧ StL Z h a2 b k cc xs 0 0
set_option maxRecDepth 65536 in
set_option maxHeartbeats 40000000 in
theorem rmTy (l : Launch) (Z : State) (a0 : Array Value) (hw : HW a0 Z) (ws : List Jvm.Cond) (a2 : Addr) (a1 : Addr) (cz : Int32) (fv : Value) (vb : Addr) (kb : ClassId) (cc : Int32) (xs : List Int32) (h0 : Heap) (n0 : Nat) (Z0 : n0 ≤ h0.size) (O0 : Old Z n0 h0) (J0 : Jd Z cz fv) (E2 : Exa Z h0 a2 "java/lang/String") (g_a2 : n0 ≤ a2) (F1 : Fld Z h0 a2 "java/lang/String" "value" "[B" .null) (F2 : Fld Z h0 a2 "java/lang/String" "coder" "B" (.int 0)) (SD : SBd Z h0 a1 vb kb cc xs) (hx16 : xs.length < 16) (ne21 : a2 ≠ vb) (ne2o : a2 ≠ a1) :
    MF l Z mN24 jdk_42_method_53_code 2 none ws rKTy #[(.ref a2), (.ref a1)] h0 (QTy Z a2 a1 cz fv vb kb cc xs h0 n0) := by
  refine MetFree.of_bodySF (plainFor_of_name pn0) hisR ?_
  intro p e s m args bl meth c s1 Bd hml0 hP hK
  obtain ⟨rfl, hZ, hh⟩ := hP
  have hx := Bd.exec
  have hby := Bd.bytes
  have B := @hb c _ hby
  have hM := fun {n : Nat} (h : n = 2) => h.trans hml0.symm
  have hown : s.vm.findClass "java/lang/String" = some m.cls := findClass_of_methodNamed Bd.named
  have hlk : meth.locks = false := BodyLoose.notSynchronized Bd
  have X0 : Stand p l e rKTy s m #[(.ref a2), (.ref a1)] bl meth c s1 [] 0 0 := Stand.of_body Bd
  have e0 : s1.heap = h0 := by rw [← hh, Bd.state]; rfl
  have N0 := Fr.nil n0
  obtain ⟨EF, hEF⟩ : ∃ f, f = entryFrame m #[(.ref a2), (.ref a1)] 2 := ⟨_, rfl⟩
  have pre0 : Go p e bl s1 (mkF m 0 #[rv a2, rv a1] []) s1 EF := fun t k => by rw [hEF]; exact castTop (efTy m a2 a1) k
  have pre1 : Go p e bl s1 (mkF m 3 #[rv a2, rv a1] [.null, (.ref a1), (.ref a2)]) s1 EF := fun t k => pre0 t (by
   refine XS.aloadN X0.here hx rfl (B d24_0) rfl rfl ?_
   refine XS.aloadN X0.here hx rfl (B d24_1) rfl rfl ?_
   exact XS.aconstNull X0.here hx rfl (B d24_2) k)
  obtain ⟨_, _, ⟨T2, L2, k2, n2⟩, -, X2, ⟨Lc2, hQ2, l2, y2, z2⟩, st2⟩ := X0.specialBack hx (y := mN23) rfl hown (mvT hZ (hw _ (mW 117 rfl))) (mvT hZ (hw _ (mW 118 rfl))) (mvT hZ (hw _ (mW 119 rfl))) (by decide) (backOf (W := 0) (rmTx l Z a0 hw [] a2 a1 cz fv vb kb cc xs h0 n0 Z0 O0 J0 E2 g_a2 F1 F2 SD hx16 ne21 ne2o) hZ (hw _ (mW 119 rfl)) (hw _ (mW 6 rfl)) (by decide) (by decide)) (g := (mkF m 3 #[rv a2, rv a1] [.null, (.ref a1), (.ref a2)])) rfl (hM rfl) (Steps.refl _) (a := a2) (argsL := [(.ref a1), .null]) (rest := []) (lenOf pd14 rfl) rfl (Nat.le_of_eq rfl) (B d24_3) (fun _ _ => ⟨rfl, e0, wl rfl, wl rfl⟩)
  dsimp only [Pt.U, Pt.locs, Pt.cells, Pt.slots] at X2 l2 y2 z2 st2 hQ2
  subst l2 y2 z2
  obtain ⟨rfl, N2q, K2, b2x, k2x, hsz2, SF2⟩ := hQ2
  have N2 := Fr.app N0 N2q
  have pre3 : Go p e bl T2 (mkF m 6 #[rv a2, rv a1] []) s1 EF := fun t k => pre1 t (st2.trans k)
  have O4 : Old Z n0 T2.heap := O0.keep K2 (allS g_a2 all0)
  have Z4 : n0 ≤ T2.heap.size := Nat.le_trans Z0 K2.1
  have K4 : Keep h0 T2.heap [a2] := (Keep.refl h0 [a2]).trans K2 (allS (Or.inl (mg 0 rfl)) all0)
  exact fin1 X2 (v := none) (fun _ => rfl) hlk (wl rfl) (wl rfl) (by exact ⟨rfl, N2, K4, _, _, hsz2, SF2⟩) (fun fs hr => hEF ▸ pre3 _ (X2.returnOut hx Bd.returns (B d24_6) hr))
abbrev rKTt : Room := { frames := 5, cells := 2, slots := 20, locals := 101 }
theorem d25_0 : decode jdk_67_method_42_code 0 = .ok (.new 18, 3) := by decide +kernel
theorem d25_3 : decode jdk_67_method_42_code 3 = .ok (.dup, 1) := by decide +kernel
theorem d25_4 : decode jdk_67_method_42_code 4 = .ok (.aload_n 0, 1) := by decide +kernel
theorem d25_5 : decode jdk_67_method_42_code 5 = .ok (.invokespecial 137, 3) := by decide +kernel
theorem d25_8 : decode jdk_67_method_42_code 8 = .ok (.areturn, 1) := by decide +kernel
theorem pd15 : parseMethodDescriptor "(Ljava/lang/StringBuilder;)V" = some ⟨[(.object "java/lang/StringBuilder")], none⟩ := by decide +kernel
theorem efTt (m : MethodId) (a1 : Addr) : entryFrame m #[(.ref a1)] 1 = mkF m 0 #[rv a1] [] := by first | (simp [entryFrame, mkF, argsToLocals, Value.category]; done) | rfl
def QTt (Z : State) (a1 : Addr) (cz : Int32) (fv : Value) (vb : Addr) (kb : ClassId) (cc : Int32) (xs : List Int32) (h0 : Heap) (n0 : Nat) (v : Option Value) (h : Heap) (L : List Loc) : Prop := ∃ a b k, v = some (.ref a) ∧ Fr n0 L ∧ Keep h0 h [] ∧ h0.size ≤ a ∧ StL Z h a b k cc xs 0 0
set_option maxRecDepth 65536 in
set_option maxHeartbeats 40000000 in
theorem rmTt (l : Launch) (Z : State) (a0 : Array Value) (hw : HW a0 Z) (ws : List Jvm.Cond) (a1 : Addr) (cz : Int32) (fv : Value) (vb : Addr) (kb : ClassId) (cc : Int32) (xs : List Int32) (h0 : Heap) (n0 : Nat) (Z0 : n0 ≤ h0.size) (O0 : Old Z n0 h0) (J0 : Jd Z cz fv) (SD : SBd Z h0 a1 vb kb cc xs) (hx16 : xs.length < 16) :
    MF l Z mN25 jdk_67_method_42_code 1 (some (.object "java/lang/String")) ws rKTt #[(.ref a1)] h0 (QTt Z a1 cz fv vb kb cc xs h0 n0) := by
  refine MetFree.of_bodySF (plainFor_of_name pn4) hisR ?_
  intro p e s m args bl meth c s1 Bd hml0 hP hK
  obtain ⟨rfl, hZ, hh⟩ := hP
  have hx := Bd.exec
  have hby := Bd.bytes
  have B := @hb c _ hby
  have hM := fun {n : Nat} (h : n = 1) => h.trans hml0.symm
  have hown : s.vm.findClass "java/lang/StringBuilder" = some m.cls := findClass_of_methodNamed Bd.named
  have hlk : meth.locks = false := BodyLoose.notSynchronized Bd
  have hrt : ∀ {v : Option Value}, meth.sig.returnType = none → v = none := fun h => by rw [Bd.returns] at h; cases h
  have X0 : Stand p l e rKTt s m #[(.ref a1)] bl meth c s1 [] 0 0 := Stand.of_body Bd
  have e0 : s1.heap = h0 := by rw [← hh, Bd.state]; rfl
  have N0 := Fr.nil n0
  obtain ⟨EF, hEF⟩ : ∃ f, f = entryFrame m #[(.ref a1)] 1 := ⟨_, rfl⟩
  have pre0 : Go p e bl s1 (mkF m 0 #[rv a1] []) s1 EF := fun t k => by rw [hEF]; exact castTop (efTt m a1) k
  obtain ⟨T1, h1, X1, e1, Et1, A1, D1, U1, st1⟩ := newO X0 hx hZ hown (hw _ (mW 113 rfl)) (hw _ (mW 5 rfl)) (hw _ (mW 6 rfl)) e0 (g := (mkF m 0 #[rv a1] [])) rfl (B d25_0) (by decide) (by decide)
  obtain ⟨b1, g1⟩ : ∃ z, z = h0.size := ⟨_, rfl⟩
  rw [← g1] at A1 st1 D1
  have g_b1 : n0 ≤ b1 := Nat.le_trans Z0 (Nat.le_of_eq g1.symm)
  have sz_b1 : h0.size ≤ b1 := Nat.le_trans (Keep.refl h0 []).1 (Nat.le_of_eq g1.symm)
  have ne_a1_b1 : a1 ≠ b1 := Nat.ne_of_lt (Nat.lt_of_lt_of_le SD.1.lt (Nat.le_of_eq g1.symm))
  have ne_vb_b1 : vb ≠ b1 := Nat.ne_of_lt (Nat.lt_of_lt_of_le SD.2.2.2.2.1.lt (Nat.le_of_eq g1.symm))
  have pre2 : Go p e bl T1 (mkF m 3 #[rv a1] [(.ref b1)]) s1 EF := fun t k => pre0 t (st1 t k)
  have O3 : Old Z n0 h1 := O0.ext Et1
  have Z3 : n0 ≤ h1.size := Nat.le_trans Z0 Et1.1
  have K3 : Keep h0 h1 [] := (Keep.refl h0 []).ext Et1
  have F_coder_b1 : Fld Z h1 b1 "java/lang/String" "coder" "B" (.int 0) := D1 (Or.inr (hw _ (mW 31 rfl))) (ty := .byte) (by decide)
  have F_value_b1 : Fld Z h1 b1 "java/lang/String" "value" "[B" .null := D1 (Or.inr (hw _ (mW 33 rfl))) (ty := (.array .byte)) (by decide)
  have pre4 : Go p e bl T1 (mkF m 5 #[rv a1] [(.ref a1), (.ref b1), (.ref b1)]) s1 EF := fun t k => pre2 t (by
   refine XS.dup X1.here hx rfl (B d25_3) rfl rfl ?_
   exact XS.aloadN X1.here hx rfl (B d25_4) rfl rfl k)
  obtain ⟨_, _, ⟨T5, L5, k5, n5⟩, -, X5, ⟨Lc5, hQ5, l5, y5, z5⟩, st5⟩ := X1.specialBack hx (y := mN24) rfl hown (mvT hZ (hw _ (mW 114 rfl))) (mvT hZ (hw _ (mW 115 rfl))) (mvT hZ (hw _ (mW 116 rfl))) (by decide) (backOf (W := 1) (rmTy l Z a0 hw [] b1 a1 cz fv vb kb cc xs h1 n0 Z3 O3 J0 A1 g_b1 F_value_b1 F_coder_b1 ⟨(SD.1.ext Et1), (SD.2.1.ext Et1), (SD.2.2.1.ext Et1), (SD.2.2.2.1.ext Et1), (SD.2.2.2.2.1.ext Et1), SD.2.2.2.2.2⟩ hx16 (Ne.symm ne_vb_b1) (Ne.symm ne_a1_b1)) hZ (hw _ (mW 116 rfl)) (hw _ (mW 6 rfl)) (by decide) (by decide)) (g := (mkF m 5 #[rv a1] [(.ref a1), (.ref b1), (.ref b1)])) rfl (hM rfl) (Steps.refl _) (a := b1) (argsL := [(.ref a1)]) (rest := [(.ref b1)]) (lenOf pd15 rfl) rfl (Nat.le_of_eq rfl) (B d25_5) (fun _ _ => ⟨rfl, e1, wl rfl, wl rfl⟩)
  dsimp only [Pt.U, Pt.locs, Pt.cells, Pt.slots] at X5 l5 y5 z5 st5 hQ5
  subst l5 y5 z5
  obtain ⟨rfl, N5q, K5, b5x, k5x, hsz5, SF5⟩ := hQ5
  have N5 := Fr.app N0 N5q
  have pre6 : Go p e bl T5 (mkF m 8 #[rv a1] [(.ref b1)]) s1 EF := fun t k => pre4 t (st5.trans k)
  have O7 : Old Z n0 T5.heap := O3.keep K5 (allS g_b1 all0)
  have Z7 : n0 ≤ T5.heap.size := Nat.le_trans Z3 K5.1
  have K7 : Keep h0 T5.heap [] := K3.trans K5 (allS (Or.inr sz_b1) all0)
  exact fin1 X5 (v := some (.ref b1)) hrt hlk (wl rfl) (wl rfl) (by exact ⟨_, _, _, rfl, N5, K7, sz_b1, SF5⟩) (fun fs hr => hEF ▸ pre6 _ (retOut X5 hx Bd.returns rfl (Or.inr (Or.inr (Or.inr (Or.inr ⟨rfl, rfl, rfl⟩)))) (B d25_8) hr))
theorem own_len {n : Int32} {bs : List Int32} (h1 : n.toInt = bs.length) (h2 : 1 ≤ bs.length) (h3 : bs.length ≤ 3) : (∃ u0, bs = [u0] ∧ n = 1) ∨ (∃ u0 u1, bs = [u0, u1] ∧ n = 2) ∨ (∃ u0 u1 u2, bs = [u0, u1, u2] ∧ n = 3) := by
  match bs, h1, h2, h3 with
  | [u0], h1, _, _ => exact Or.inl ⟨u0, rfl, by rw [← Int32.toInt_inj, h1]; rfl⟩
  | [u0, u1], h1, _, _ => exact Or.inr (Or.inl ⟨u0, u1, rfl, by rw [← Int32.toInt_inj, h1]; rfl⟩)
  | [u0, u1, u2], h1, _, _ => exact Or.inr (Or.inr (⟨u0, u1, u2, rfl, by rw [← Int32.toInt_inj, h1]; rfl⟩))
  | [], _, h2, _ => exact absurd h2 (by decide)
  | _ :: _ :: _ :: _ :: _, _, _, h3 => simp at h3
abbrev i8s (cs : List Int32) : List Int32 := cs.map fun c => c.toInt8.toInt32
theorem own_cd (n : Int32) : nar .byte (((n - n).toUInt32 >>> ((31 : Int32) &&& 31).toUInt32).toInt32.toInt8.toInt32) = 0 := by rw [Int32.sub_self]; decide
abbrev rKKa3 : Room := { frames := 0, cells := 0, slots := 0, locals := 0 }
theorem d26_0 : decode jdk_52_method_21_code 0 = .ok (.iconst 0, 1) := by decide +kernel
theorem d26_1 : decode jdk_52_method_21_code 1 = .ok (.istore 5, 2) := by decide +kernel
theorem d26_3 : decode jdk_52_method_21_code 3 = .ok (.iload 5, 2) := by decide +kernel
theorem d26_5 : decode jdk_52_method_21_code 5 = .ok (.iload 4, 2) := by decide +kernel
theorem d26_7 : decode jdk_52_method_21_code 7 = .ok (.if_icmp .ge 37, 3) := by decide +kernel
theorem d26_10 : decode jdk_52_method_21_code 10 = .ok (.aload_n 0, 1) := by decide +kernel
theorem d26_11 : decode jdk_52_method_21_code 11 = .ok (.iload_n 1, 1) := by decide +kernel
theorem d26_12 : decode jdk_52_method_21_code 12 = .ok (.caload, 1) := by decide +kernel
theorem d26_13 : decode jdk_52_method_21_code 13 = .ok (.istore 6, 2) := by decide +kernel
theorem d26_15 : decode jdk_52_method_21_code 15 = .ok (.iload 6, 2) := by decide +kernel
theorem d26_17 : decode jdk_52_method_21_code 17 = .ok (.sipush 255, 3) := by decide +kernel
theorem d26_20 : decode jdk_52_method_21_code 20 = .ok (.if_icmp .le 6, 3) := by decide +kernel
theorem d26_26 : decode jdk_52_method_21_code 26 = .ok (.aload_n 2, 1) := by decide +kernel
theorem d26_27 : decode jdk_52_method_21_code 27 = .ok (.iload_n 3, 1) := by decide +kernel
theorem d26_28 : decode jdk_52_method_21_code 28 = .ok (.iload 6, 2) := by decide +kernel
theorem d26_30 : decode jdk_52_method_21_code 30 = .ok (.i2b, 1) := by decide +kernel
theorem d26_31 : decode jdk_52_method_21_code 31 = .ok (.bastore, 1) := by decide +kernel
theorem d26_32 : decode jdk_52_method_21_code 32 = .ok (.iinc 1 1, 3) := by decide +kernel
theorem d26_35 : decode jdk_52_method_21_code 35 = .ok (.iinc 3 1, 3) := by decide +kernel
theorem d26_38 : decode jdk_52_method_21_code 38 = .ok (.iinc 5 1, 3) := by decide +kernel
theorem d26_41 : decode jdk_52_method_21_code 41 = .ok (.goto (-38), 3) := by decide +kernel
theorem d26_44 : decode jdk_52_method_21_code 44 = .ok (.iload 4, 2) := by decide +kernel
theorem d26_46 : decode jdk_52_method_21_code 46 = .ok (.ireturn, 1) := by decide +kernel
theorem pn6 : plainName "java/lang/StringUTF16" = true := by first | (simp [plainName, overriddenIn]; done) | decide +kernel
theorem efKa3 (m : MethodId) (a1 : Addr) (a2 : Addr) : entryFrame m #[(.ref a1), (.int 0), (.ref a2), (.int 0), (.int 3)] 7 = mkF m 0 #[rv a1, iv 0, rv a2, iv 0, iv 3, .unset, .unset] [] := by first | (simp [entryFrame, mkF, argsToLocals, Value.category]; done) | rfl
def QKa3 (Z : State) (a1 : Addr) (a2 : Addr) (cz : Int32) (fv : Value) (k1 : ClassId) (k2 : ClassId) (c0 : Int32) (c1 : Int32) (c2 : Int32) (h0 : Heap) (n0 : Nat) (v : Option Value) (h : Heap) (L : List Loc) : Prop := v = some (.int 3) ∧ Fr n0 L ∧ Keep h0 h [a2] ∧ Arv Z h a2 k2 .byte (3 : Int32) [(.int (c0.toInt8.toInt32)), (.int (c1.toInt8.toInt32)), (.int (c2.toInt8.toInt32))] (.int 0)
set_option maxRecDepth 65536 in
set_option maxHeartbeats 40000000 in
theorem rmKa3 (l : Launch) (Z : State) (a0 : Array Value) (hw : HW a0 Z) (ws : List Jvm.Cond) (a1 : Addr) (a2 : Addr) (cz : Int32) (fv : Value) (k1 : ClassId) (k2 : ClassId) (c0 : Int32) (c1 : Int32) (c2 : Int32) (h0 : Heap) (n0 : Nat) (Z0 : n0 ≤ h0.size) (O0 : Old Z n0 h0) (J0 : Jd Z cz fv) (V1 : Arv Z h0 a1 k1 .char (3 : Int32) [(.int c0), (.int c1), (.int c2)] (.int 0)) (V2 : Arv Z h0 a2 k2 .byte (3 : Int32) [(.int 0), (.int 0), (.int 0)] (.int 0)) (ne12 : a1 ≠ a2) (g_a2 : n0 ≤ a2) (hle : (∀ c ∈ [c0, c1, c2], ¬ (255 : Int32) < c)) :
    MF l Z mN26 jdk_52_method_21_code 7 (some .int) ws rKKa3 #[(.ref a1), (.int 0), (.ref a2), (.int 0), (.int 3)] h0 (QKa3 Z a1 a2 cz fv k1 k2 c0 c1 c2 h0 n0) := by
  refine MetFree.of_bodySF (plainFor_of_name pn6) hisR ?_
  intro p e s m args bl meth c s1 Bd hml0 hP hK
  obtain ⟨rfl, hZ, hh⟩ := hP
  have hx := Bd.exec
  have hby := Bd.bytes
  have B := @hb c _ hby
  have hown : s.vm.findClass "java/lang/StringUTF16" = some m.cls := findClass_of_methodNamed Bd.named
  have hlk : meth.locks = false := BodyLoose.notSynchronized Bd
  have hrt : ∀ {v : Option Value}, meth.sig.returnType = none → v = none := fun h => by rw [Bd.returns] at h; cases h
  have X0 : Stand p l e rKKa3 s m #[(.ref a1), (.int 0), (.ref a2), (.int 0), (.int 3)] bl meth c s1 [] 0 0 := Stand.of_body Bd
  have e0 : s1.heap = h0 := by rw [← hh, Bd.state]; rfl
  have N0 := Fr.nil n0
  obtain ⟨EF, hEF⟩ : ∃ f, f = entryFrame m #[(.ref a1), (.int 0), (.ref a2), (.int 0), (.int 3)] 7 := ⟨_, rfl⟩
  have pre0 : Go p e bl s1 (mkF m 0 #[rv a1, iv 0, rv a2, iv 0, iv 3, .unset, .unset] []) s1 EF := fun t k => by rw [hEF]; exact castTop (efKa3 m a1 a2) k
  have pre1 : Go p e bl s1 (mkF m 7 #[rv a1, iv 0, rv a2, iv 0, iv 3, iv 0, .unset] [(.int 3), (.int 0)]) s1 EF := fun t k => pre0 t (by
   refine XS.iconst X0.here hx rfl (B d26_0) ?_
   refine XS.istore X0.here hx rfl (B d26_1) rfl (l' := #[rv a1, iv 0, rv a2, iv 0, iv 3, iv 0, .unset]) rfl ?_
   refine XS.iload X0.here hx rfl (B d26_3) rfl ?_
   exact XS.iload X0.here hx rfl (B d26_5) rfl k)
  have pre2 : Go p e bl s1 (mkF m 10 #[rv a1, iv 0, rv a2, iv 0, iv 3, iv 0, .unset] []) s1 EF := fun t k => pre1 t (XS.icmpNo X0.here hx rfl (B d26_7) rfl (tlt (by decide : (0 : Int32) < (3 : Int32))).2.1 k)
  have pre3 : Go p e bl s1 (mkF m 12 #[rv a1, iv 0, rv a2, iv 0, iv 3, iv 0, .unset] [(.int 0), (.ref a1)]) s1 EF := fun t k => pre2 t (by
   refine XS.aloadN X0.here hx rfl (B d26_10) rfl rfl ?_
   exact XS.iloadN X0.here hx rfl (B d26_11) rfl k)
  obtain ⟨cl4, Ar4, q4, Sz4, M4, H4, G4⟩ := id V1
  have hin4 := inb_of (j := (0 : Int32)) Sz4 ⟨by decide, by decide⟩
  have hat4 := Has.at (v := (.int c0)) H4 hin4 rfl
  have pre5 : Go p e bl s1 (mkF m 20 #[rv a1, iv 0, rv a2, iv 0, iv 3, iv 0, iv c0] [(.int 255), (.int c0)]) s1 EF := fun t k => pre3 t (by
   refine X0.caload hx (j := 0) (v := (.int c0)) (hp e0 Ar4) (State.isArrayOf_alike hZ.alike Ar4.2.1) Ar4.2.2 hin4 hat4 (g := (mkF m 12 #[rv a1, iv 0, rv a2, iv 0, iv 3, iv 0, .unset] [(.int 0), (.ref a1)])) rfl rfl (B d26_12) _ ?_
   refine XS.istore X0.here hx rfl (B d26_13) rfl (l' := #[rv a1, iv 0, rv a2, iv 0, iv 3, iv 0, iv c0]) rfl ?_
   refine XS.iload X0.here hx rfl (B d26_15) rfl ?_
   exact XS.sipush X0.here hx rfl (B d26_17) k)
  have pre6 : Go p e bl s1 (mkF m 26 #[rv a1, iv 0, rv a2, iv 0, iv 3, iv 0, iv c0] []) s1 EF := fun t k => pre5 t (XS.icmpYes X0.here hx rfl (pc0 := 20) (pc' := 26) rfl (B d26_20) rfl (flt (hle c0 (mg 0 rfl))).2.2.2 (by decide) (by decide) k)
  have pre7 : Go p e bl s1 (mkF m 31 #[rv a1, iv 0, rv a2, iv 0, iv 3, iv 0, iv c0] [(.int (c0.toInt8.toInt32)), (.int 0), (.ref a2)]) s1 EF := fun t k => pre6 t (by
   refine XS.aloadN X0.here hx rfl (B d26_26) rfl rfl ?_
   refine XS.iloadN X0.here hx rfl (B d26_27) rfl ?_
   refine XS.iload X0.here hx rfl (B d26_28) rfl ?_
   exact XS.i2b X0.here hx rfl (B d26_30) rfl k)
  obtain ⟨cl8, Ar8, q8, Sz8, M8, H8, G8⟩ := id V2
  have hin8 := inb_of (j := (0 : Int32)) Sz8 ⟨by decide, by decide⟩
  obtain ⟨T8, h8, X8, e8, W8, st8⟩ := stB X0 hx hZ e0 Ar8 (j := 0) hin8 (g := (mkF m 31 #[rv a1, iv 0, rv a2, iv 0, iv 3, iv 0, iv c0] [(.int (c0.toInt8.toInt32)), (.int 0), (.ref a2)])) rfl rfl (B d26_31)
  rw [own_i2b2] at W8
  have pre9 : Go p e bl T8 (mkF m 32 #[rv a1, iv 0, rv a2, iv 0, iv 3, iv 0, iv c0] []) s1 EF := fun t k => pre7 t (st8 t k)
  have O10 : Old Z n0 h8 := O0.wr W8 g_a2
  have Z10 : n0 ≤ h8.size := Nat.le_trans Z0 (Keep.of_wr W8).1
  have K10 : Keep h0 h8 [a2] := (Keep.refl h0 [a2]).wr W8 (Or.inl (mg 0 rfl))
  have V8 : Arv Z h8 a2 k2 .byte (3 : Int32) [(.int (c0.toInt8.toInt32)), (.int 0), (.int 0)] (.int 0) := Arv.set Ar8 q8 Sz8 M8 H8 G8 (fits_nar_byte _) W8 0 rfl (wl rfl)
  have N8 := Fr.snoc X8 N0 g_a2
  have pre11 : Go p e bl T8 (mkF m 7 #[rv a1, iv 1, rv a2, iv 1, iv 3, iv 1, iv c0] [(.int 3), (.int 1)]) s1 EF := fun t k => pre9 t (by
   refine XS.iinc X8.here hx rfl (B d26_32) rfl (l' := #[rv a1, iv 1, rv a2, iv 0, iv 3, iv 0, iv c0]) rfl ?_
   refine XS.iinc X8.here hx rfl (B d26_35) rfl (l' := #[rv a1, iv 1, rv a2, iv 1, iv 3, iv 0, iv c0]) rfl ?_
   refine XS.iinc X8.here hx rfl (B d26_38) rfl (l' := #[rv a1, iv 1, rv a2, iv 1, iv 3, iv 1, iv c0]) rfl ?_
   refine XS.goto X8.here hx rfl (pc0 := 41) (pc' := 3) rfl (B d26_41) (by decide) (by decide) ?_
   refine XS.iload X8.here hx rfl (B d26_3) rfl ?_
   exact XS.iload X8.here hx rfl (B d26_5) rfl k)
  have pre12 : Go p e bl T8 (mkF m 10 #[rv a1, iv 1, rv a2, iv 1, iv 3, iv 1, iv c0] []) s1 EF := fun t k => pre11 t (XS.icmpNo X8.here hx rfl (B d26_7) rfl (tlt (by decide : (1 : Int32) < (3 : Int32))).2.1 k)
  have pre13 : Go p e bl T8 (mkF m 12 #[rv a1, iv 1, rv a2, iv 1, iv 3, iv 1, iv c0] [(.int 1), (.ref a1)]) s1 EF := fun t k => pre12 t (by
   refine XS.aloadN X8.here hx rfl (B d26_10) rfl rfl ?_
   exact XS.iloadN X8.here hx rfl (B d26_11) rfl k)
  obtain ⟨cl14, Ar14, q14, Sz14, M14, H14, G14⟩ := id (V1.other W8 ne12)
  have hin14 := inb_of (j := (1 : Int32)) Sz14 ⟨by decide, by decide⟩
  have hat14 := Has.at (v := (.int c1)) H14 hin14 rfl
  have pre15 : Go p e bl T8 (mkF m 20 #[rv a1, iv 1, rv a2, iv 1, iv 3, iv 1, iv c1] [(.int 255), (.int c1)]) s1 EF := fun t k => pre13 t (by
   refine X8.caload hx (j := 1) (v := (.int c1)) (hp e8 Ar14) (State.isArrayOf_alike hZ.alike Ar14.2.1) Ar14.2.2 hin14 hat14 (g := (mkF m 12 #[rv a1, iv 1, rv a2, iv 1, iv 3, iv 1, iv c0] [(.int 1), (.ref a1)])) rfl rfl (B d26_12) _ ?_
   refine XS.istore X8.here hx rfl (B d26_13) rfl (l' := #[rv a1, iv 1, rv a2, iv 1, iv 3, iv 1, iv c1]) rfl ?_
   refine XS.iload X8.here hx rfl (B d26_15) rfl ?_
   exact XS.sipush X8.here hx rfl (B d26_17) k)
  have pre16 : Go p e bl T8 (mkF m 26 #[rv a1, iv 1, rv a2, iv 1, iv 3, iv 1, iv c1] []) s1 EF := fun t k => pre15 t (XS.icmpYes X8.here hx rfl (pc0 := 20) (pc' := 26) rfl (B d26_20) rfl (flt (hle c1 (mg 1 rfl))).2.2.2 (by decide) (by decide) k)
  have pre17 : Go p e bl T8 (mkF m 31 #[rv a1, iv 1, rv a2, iv 1, iv 3, iv 1, iv c1] [(.int (c1.toInt8.toInt32)), (.int 1), (.ref a2)]) s1 EF := fun t k => pre16 t (by
   refine XS.aloadN X8.here hx rfl (B d26_26) rfl rfl ?_
   refine XS.iloadN X8.here hx rfl (B d26_27) rfl ?_
   refine XS.iload X8.here hx rfl (B d26_28) rfl ?_
   exact XS.i2b X8.here hx rfl (B d26_30) rfl k)
  obtain ⟨cl18, Ar18, q18, Sz18, M18, H18, G18⟩ := id V8
  have hin18 := inb_of (j := (1 : Int32)) Sz18 ⟨by decide, by decide⟩
  obtain ⟨T18, h18, X18, e18, W18, st18⟩ := stB X8 hx hZ e8 Ar18 (j := 1) hin18 (g := (mkF m 31 #[rv a1, iv 1, rv a2, iv 1, iv 3, iv 1, iv c1] [(.int (c1.toInt8.toInt32)), (.int 1), (.ref a2)])) rfl rfl (B d26_31)
  rw [own_i2b2] at W18
  have pre19 : Go p e bl T18 (mkF m 32 #[rv a1, iv 1, rv a2, iv 1, iv 3, iv 1, iv c1] []) s1 EF := fun t k => pre17 t (st18 t k)
  have O20 : Old Z n0 h18 := O10.wr W18 g_a2
  have Z20 : n0 ≤ h18.size := Nat.le_trans Z10 (Keep.of_wr W18).1
  have K20 : Keep h0 h18 [a2] := K10.wr W18 (Or.inl (mg 0 rfl))
  have V18 : Arv Z h18 a2 k2 .byte (3 : Int32) [(.int (c0.toInt8.toInt32)), (.int (c1.toInt8.toInt32)), (.int 0)] (.int 0) := Arv.set Ar18 q18 Sz18 M18 H18 G18 (fits_nar_byte _) W18 1 rfl (wl rfl)
  have N18 := Fr.snoc X18 N8 g_a2
  have pre21 : Go p e bl T18 (mkF m 7 #[rv a1, iv 2, rv a2, iv 2, iv 3, iv 2, iv c1] [(.int 3), (.int 2)]) s1 EF := fun t k => pre19 t (by
   refine XS.iinc X18.here hx rfl (B d26_32) rfl (l' := #[rv a1, iv 2, rv a2, iv 1, iv 3, iv 1, iv c1]) rfl ?_
   refine XS.iinc X18.here hx rfl (B d26_35) rfl (l' := #[rv a1, iv 2, rv a2, iv 2, iv 3, iv 1, iv c1]) rfl ?_
   refine XS.iinc X18.here hx rfl (B d26_38) rfl (l' := #[rv a1, iv 2, rv a2, iv 2, iv 3, iv 2, iv c1]) rfl ?_
   refine XS.goto X18.here hx rfl (pc0 := 41) (pc' := 3) rfl (B d26_41) (by decide) (by decide) ?_
   refine XS.iload X18.here hx rfl (B d26_3) rfl ?_
   exact XS.iload X18.here hx rfl (B d26_5) rfl k)
  have pre22 : Go p e bl T18 (mkF m 10 #[rv a1, iv 2, rv a2, iv 2, iv 3, iv 2, iv c1] []) s1 EF := fun t k => pre21 t (XS.icmpNo X18.here hx rfl (B d26_7) rfl (tlt (by decide : (2 : Int32) < (3 : Int32))).2.1 k)
  have pre23 : Go p e bl T18 (mkF m 12 #[rv a1, iv 2, rv a2, iv 2, iv 3, iv 2, iv c1] [(.int 2), (.ref a1)]) s1 EF := fun t k => pre22 t (by
   refine XS.aloadN X18.here hx rfl (B d26_10) rfl rfl ?_
   exact XS.iloadN X18.here hx rfl (B d26_11) rfl k)
  obtain ⟨cl24, Ar24, q24, Sz24, M24, H24, G24⟩ := id ((V1.other W8 ne12).other W18 ne12)
  have hin24 := inb_of (j := (2 : Int32)) Sz24 ⟨by decide, by decide⟩
  have hat24 := Has.at (v := (.int c2)) H24 hin24 rfl
  have pre25 : Go p e bl T18 (mkF m 20 #[rv a1, iv 2, rv a2, iv 2, iv 3, iv 2, iv c2] [(.int 255), (.int c2)]) s1 EF := fun t k => pre23 t (by
   refine X18.caload hx (j := 2) (v := (.int c2)) (hp e18 Ar24) (State.isArrayOf_alike hZ.alike Ar24.2.1) Ar24.2.2 hin24 hat24 (g := (mkF m 12 #[rv a1, iv 2, rv a2, iv 2, iv 3, iv 2, iv c1] [(.int 2), (.ref a1)])) rfl rfl (B d26_12) _ ?_
   refine XS.istore X18.here hx rfl (B d26_13) rfl (l' := #[rv a1, iv 2, rv a2, iv 2, iv 3, iv 2, iv c2]) rfl ?_
   refine XS.iload X18.here hx rfl (B d26_15) rfl ?_
   exact XS.sipush X18.here hx rfl (B d26_17) k)
  have pre26 : Go p e bl T18 (mkF m 26 #[rv a1, iv 2, rv a2, iv 2, iv 3, iv 2, iv c2] []) s1 EF := fun t k => pre25 t (XS.icmpYes X18.here hx rfl (pc0 := 20) (pc' := 26) rfl (B d26_20) rfl (flt (hle c2 (mg 2 rfl))).2.2.2 (by decide) (by decide) k)
  have pre27 : Go p e bl T18 (mkF m 31 #[rv a1, iv 2, rv a2, iv 2, iv 3, iv 2, iv c2] [(.int (c2.toInt8.toInt32)), (.int 2), (.ref a2)]) s1 EF := fun t k => pre26 t (by
   refine XS.aloadN X18.here hx rfl (B d26_26) rfl rfl ?_
   refine XS.iloadN X18.here hx rfl (B d26_27) rfl ?_
   refine XS.iload X18.here hx rfl (B d26_28) rfl ?_
   exact XS.i2b X18.here hx rfl (B d26_30) rfl k)
  obtain ⟨cl28, Ar28, q28, Sz28, M28, H28, G28⟩ := id V18
  have hin28 := inb_of (j := (2 : Int32)) Sz28 ⟨by decide, by decide⟩
  obtain ⟨T28, h28, X28, e28, W28, st28⟩ := stB X18 hx hZ e18 Ar28 (j := 2) hin28 (g := (mkF m 31 #[rv a1, iv 2, rv a2, iv 2, iv 3, iv 2, iv c2] [(.int (c2.toInt8.toInt32)), (.int 2), (.ref a2)])) rfl rfl (B d26_31)
  rw [own_i2b2] at W28
  have pre29 : Go p e bl T28 (mkF m 32 #[rv a1, iv 2, rv a2, iv 2, iv 3, iv 2, iv c2] []) s1 EF := fun t k => pre27 t (st28 t k)
  have O30 : Old Z n0 h28 := O20.wr W28 g_a2
  have Z30 : n0 ≤ h28.size := Nat.le_trans Z20 (Keep.of_wr W28).1
  have K30 : Keep h0 h28 [a2] := K20.wr W28 (Or.inl (mg 0 rfl))
  have V28 : Arv Z h28 a2 k2 .byte (3 : Int32) [(.int (c0.toInt8.toInt32)), (.int (c1.toInt8.toInt32)), (.int (c2.toInt8.toInt32))] (.int 0) := Arv.set Ar28 q28 Sz28 M28 H28 G28 (fits_nar_byte _) W28 2 rfl (wl rfl)
  have N28 := Fr.snoc X28 N18 g_a2
  have pre31 : Go p e bl T28 (mkF m 7 #[rv a1, iv 3, rv a2, iv 3, iv 3, iv 3, iv c2] [(.int 3), (.int 3)]) s1 EF := fun t k => pre29 t (by
   refine XS.iinc X28.here hx rfl (B d26_32) rfl (l' := #[rv a1, iv 3, rv a2, iv 2, iv 3, iv 2, iv c2]) rfl ?_
   refine XS.iinc X28.here hx rfl (B d26_35) rfl (l' := #[rv a1, iv 3, rv a2, iv 3, iv 3, iv 2, iv c2]) rfl ?_
   refine XS.iinc X28.here hx rfl (B d26_38) rfl (l' := #[rv a1, iv 3, rv a2, iv 3, iv 3, iv 3, iv c2]) rfl ?_
   refine XS.goto X28.here hx rfl (pc0 := 41) (pc' := 3) rfl (B d26_41) (by decide) (by decide) ?_
   refine XS.iload X28.here hx rfl (B d26_3) rfl ?_
   exact XS.iload X28.here hx rfl (B d26_5) rfl k)
  have pre32 : Go p e bl T28 (mkF m 44 #[rv a1, iv 3, rv a2, iv 3, iv 3, iv 3, iv c2] []) s1 EF := fun t k => pre31 t (XS.icmpYes X28.here hx rfl (pc0 := 7) (pc' := 44) rfl (B d26_7) rfl (flt (by decide : ¬ ((3 : Int32) < (3 : Int32)))).2.1 (by decide) (by decide) k)
  have pre33 : Go p e bl T28 (mkF m 46 #[rv a1, iv 3, rv a2, iv 3, iv 3, iv 3, iv c2] [(.int 3)]) s1 EF := fun t k => pre32 t (by
   exact XS.iload X28.here hx rfl (B d26_44) rfl k)
  exact fin1 X28 (v := some (.int 3)) hrt hlk (wl rfl) (wl rfl) (by rw [e28]; exact ⟨rfl, N28, K30, V28⟩) (fun fs hr => hEF ▸ pre33 _ (retOut X28 hx Bd.returns rfl (Or.inl ⟨rfl, Or.inl rfl, _, rfl⟩) (B d26_46) hr))
abbrev rKKb3 : Room := { frames := 1, cells := 1, slots := 3, locals := 18 }
theorem d27_0 : decode jdk_52_method_16_code 0 = .ok (.iload_n 2, 1) := by decide +kernel
theorem d27_1 : decode jdk_52_method_16_code 1 = .ok (.newarray .byte, 2) := by decide +kernel
theorem d27_3 : decode jdk_52_method_16_code 3 = .ok (.astore_n 3, 1) := by decide +kernel
theorem d27_4 : decode jdk_52_method_16_code 4 = .ok (.aload_n 0, 1) := by decide +kernel
theorem d27_5 : decode jdk_52_method_16_code 5 = .ok (.iload_n 1, 1) := by decide +kernel
theorem d27_6 : decode jdk_52_method_16_code 6 = .ok (.aload_n 3, 1) := by decide +kernel
theorem d27_7 : decode jdk_52_method_16_code 7 = .ok (.iconst 0, 1) := by decide +kernel
theorem d27_8 : decode jdk_52_method_16_code 8 = .ok (.iload_n 2, 1) := by decide +kernel
theorem d27_9 : decode jdk_52_method_16_code 9 = .ok (.invokestatic 115, 3) := by decide +kernel
theorem d27_12 : decode jdk_52_method_16_code 12 = .ok (.istore 4, 2) := by decide +kernel
theorem d27_14 : decode jdk_52_method_16_code 14 = .ok (.iload 4, 2) := by decide +kernel
theorem d27_16 : decode jdk_52_method_16_code 16 = .ok (.iload_n 2, 1) := by decide +kernel
theorem d27_17 : decode jdk_52_method_16_code 17 = .ok (.if_icmp .eq 40, 3) := by decide +kernel
theorem d27_57 : decode jdk_52_method_16_code 57 = .ok (.aload_n 3, 1) := by decide +kernel
theorem d27_58 : decode jdk_52_method_16_code 58 = .ok (.areturn, 1) := by decide +kernel
theorem pd16 : parseMethodDescriptor "([CI[BII)I" = some ⟨[(.array .char), .int, (.array .byte), .int, .int], some .int⟩ := by decide +kernel
theorem efKb3 (m : MethodId) (a1 : Addr) : entryFrame m #[(.ref a1), (.int 0), (.int 3)] 6 = mkF m 0 #[rv a1, iv 0, iv 3, .unset, .unset, .unset] [] := by first | (simp [entryFrame, mkF, argsToLocals, Value.category]; done) | rfl
def QKb3 (Z : State) (a1 : Addr) (cz : Int32) (fv : Value) (k1 : ClassId) (c0 : Int32) (c1 : Int32) (c2 : Int32) (h0 : Heap) (n0 : Nat) (v : Option Value) (h : Heap) (L : List Loc) : Prop := ∃ b k, v = some (.ref b) ∧ Fr n0 L ∧ Keep h0 h [] ∧ h0.size ≤ b ∧ Arv Z h b k .byte (3 : Int32) [(.int (c0.toInt8.toInt32)), (.int (c1.toInt8.toInt32)), (.int (c2.toInt8.toInt32))] (.int 0)
set_option maxRecDepth 65536 in
set_option maxHeartbeats 40000000 in
theorem rmKb3 (l : Launch) (Z : State) (a0 : Array Value) (hw : HW a0 Z) (ws : List Jvm.Cond) (a1 : Addr) (cz : Int32) (fv : Value) (k1 : ClassId) (c0 : Int32) (c1 : Int32) (c2 : Int32) (h0 : Heap) (n0 : Nat) (Z0 : n0 ≤ h0.size) (O0 : Old Z n0 h0) (J0 : Jd Z cz fv) (V1 : Arv Z h0 a1 k1 .char (3 : Int32) [(.int c0), (.int c1), (.int c2)] (.int 0)) (hle : (∀ c ∈ [c0, c1, c2], ¬ (255 : Int32) < c)) :
    MF l Z mN27 jdk_52_method_16_code 6 (some (.array .byte)) ws rKKb3 #[(.ref a1), (.int 0), (.int 3)] h0 (QKb3 Z a1 cz fv k1 c0 c1 c2 h0 n0) := by
  refine MetFree.of_bodySF (plainFor_of_name pn6) hisR ?_
  intro p e s m args bl meth c s1 Bd hml0 hP hK
  obtain ⟨rfl, hZ, hh⟩ := hP
  have hx := Bd.exec
  have hby := Bd.bytes
  have B := @hb c _ hby
  have hM := fun {n : Nat} (h : n = 6) => h.trans hml0.symm
  have hown : s.vm.findClass "java/lang/StringUTF16" = some m.cls := findClass_of_methodNamed Bd.named
  have hlk : meth.locks = false := BodyLoose.notSynchronized Bd
  have hrt : ∀ {v : Option Value}, meth.sig.returnType = none → v = none := fun h => by rw [Bd.returns] at h; cases h
  have X0 : Stand p l e rKKb3 s m #[(.ref a1), (.int 0), (.int 3)] bl meth c s1 [] 0 0 := Stand.of_body Bd
  have e0 : s1.heap = h0 := by rw [← hh, Bd.state]; rfl
  have N0 := Fr.nil n0
  obtain ⟨EF, hEF⟩ : ∃ f, f = entryFrame m #[(.ref a1), (.int 0), (.int 3)] 6 := ⟨_, rfl⟩
  have pre0 : Go p e bl s1 (mkF m 0 #[rv a1, iv 0, iv 3, .unset, .unset, .unset] []) s1 EF := fun t k => by rw [hEF]; exact castTop (efKb3 m a1) k
  have pre1 : Go p e bl s1 (mkF m 1 #[rv a1, iv 0, iv 3, .unset, .unset, .unset] [(.int 3)]) s1 EF := fun t k => pre0 t (by
   exact XS.iloadN X0.here hx rfl (B d27_0) rfl k)
  obtain ⟨T2, h2, k2, X2, e2, Et2, A2, st2⟩ := newP X0 hx hZ (hw _ (mW 23 rfl)) e0 (g := (mkF m 1 #[rv a1, iv 0, iv 3, .unset, .unset, .unset] [(.int 3)])) rfl (B d27_1) rfl (by decide) (cap := 3) (by decide) (by decide) (by decide) (by decide)
  obtain ⟨b2, g2⟩ : ∃ z, z = h0.size := ⟨_, rfl⟩
  rw [← g2] at A2 st2
  have g_b2 : n0 ≤ b2 := Nat.le_trans Z0 (Nat.le_of_eq g2.symm)
  have sz_b2 : h0.size ≤ b2 := Nat.le_trans (Keep.refl h0 []).1 (Nat.le_of_eq g2.symm)
  have ne_a1_b2 : a1 ≠ b2 := Nat.ne_of_lt (Nat.lt_of_lt_of_le V1.lt (Nat.le_of_eq g2.symm))
  have pre3 : Go p e bl T2 (mkF m 3 #[rv a1, iv 0, iv 3, .unset, .unset, .unset] [(.ref b2)]) s1 EF := fun t k => pre1 t (st2 t k)
  have O4 : Old Z n0 h2 := O0.ext Et2
  have Z4 : n0 ≤ h2.size := Nat.le_trans Z0 Et2.1
  have K4 : Keep h0 h2 [] := (Keep.refl h0 []).ext Et2
  have V2 : Arv Z h2 b2 k2 .byte (3 : Int32) [(.int 0), (.int 0), (.int 0)] (.int 0) := (Arv.new A2 (by decide)).pad (pad_rep [] (.int 0) 3)
  have pre5 : Go p e bl T2 (mkF m 9 #[rv a1, iv 0, iv 3, rv b2, .unset, .unset] [(.int 3), (.int 0), (.ref b2), (.int 0), (.ref a1)]) s1 EF := fun t k => pre3 t (by
   refine XS.astoreN X2.here hx rfl (B d27_3) rfl rfl (l' := #[rv a1, iv 0, iv 3, rv b2, .unset, .unset]) rfl ?_
   refine XS.aloadN X2.here hx rfl (B d27_4) rfl rfl ?_
   refine XS.iloadN X2.here hx rfl (B d27_5) rfl ?_
   refine XS.aloadN X2.here hx rfl (B d27_6) rfl rfl ?_
   refine XS.iconst X2.here hx rfl (B d27_7) ?_
   exact XS.iloadN X2.here hx rfl (B d27_8) rfl k)
  obtain ⟨_, _, ⟨T6, L6, k6, n6⟩, -, X6, ⟨Lc6, hQ6, l6, y6, z6⟩, st6⟩ := Jvm.LawKit.callS X2 hx (y := mN26) hown (mvT hZ (hw _ (mW 24 rfl))) (mvT hZ (hw _ (mW 25 rfl))) (mvT hZ (hw _ (mW 21 rfl))) (mvT hZ (hw _ (mW 26 rfl))) (by decide) (backOf (W := 0) (rmKa3 l Z a0 hw [] a1 b2 cz fv k1 k2 c0 c1 c2 h2 n0 Z4 O4 J0 (V1.ext Et2) V2 ne_a1_b2 g_b2 hle) hZ (hw _ (mW 26 rfl)) (hw _ (mW 21 rfl)) (by decide) (by decide)) (g := (mkF m 9 #[rv a1, iv 0, iv 3, rv b2, .unset, .unset] [(.int 3), (.int 0), (.ref b2), (.int 0), (.ref a1)])) rfl (hM rfl) (argsL := [(.ref a1), (.int 0), (.ref b2), (.int 0), (.int 3)]) (rest := []) (lenOf pd16 rfl) rfl (Nat.le_of_eq rfl) (B d27_9) (fun _ _ => ⟨rfl, e2, wl rfl, wl rfl⟩)
  dsimp only [Pt.U, Pt.locs, Pt.cells, Pt.slots] at X6 l6 y6 z6 st6 hQ6
  subst l6 y6 z6
  obtain ⟨rfl, N6q, K6, VL6⟩ := hQ6
  have N6 := Fr.app N0 N6q
  have pre7 : Go p e bl T6 (mkF m 12 #[rv a1, iv 0, iv 3, rv b2, .unset, .unset] [(.int 3)]) s1 EF := fun t k => pre5 t (st6 t k)
  have O8 : Old Z n0 T6.heap := O4.keep K6 (allS g_b2 all0)
  have Z8 : n0 ≤ T6.heap.size := Nat.le_trans Z4 K6.1
  have K8 : Keep h0 T6.heap [] := K4.trans K6 (allS (Or.inr sz_b2) all0)
  have pre9 : Go p e bl T6 (mkF m 17 #[rv a1, iv 0, iv 3, rv b2, iv 3, .unset] [(.int 3), (.int 3)]) s1 EF := fun t k => pre7 t (by
   refine XS.istore X6.here hx rfl (B d27_12) rfl (l' := #[rv a1, iv 0, iv 3, rv b2, iv 3, .unset]) rfl ?_
   refine XS.iload X6.here hx rfl (B d27_14) rfl ?_
   exact XS.iloadN X6.here hx rfl (B d27_16) rfl k)
  have pre10 : Go p e bl T6 (mkF m 57 #[rv a1, iv 0, iv 3, rv b2, iv 3, .unset] []) s1 EF := fun t k => pre9 t (XS.icmpYes X6.here hx rfl (pc0 := 17) (pc' := 57) rfl (B d27_17) rfl (teq (by decide : (3 : Int32) = (3 : Int32))).1 (by decide) (by decide) k)
  have pre11 : Go p e bl T6 (mkF m 58 #[rv a1, iv 0, iv 3, rv b2, iv 3, .unset] [(.ref b2)]) s1 EF := fun t k => pre10 t (by
   exact XS.aloadN X6.here hx rfl (B d27_57) rfl rfl k)
  exact fin1 X6 (v := some (.ref b2)) hrt hlk (wl rfl) (wl rfl) (by exact ⟨_, _, rfl, N6, K8, sz_b2, VL6⟩) (fun fs hr => hEF ▸ pre11 _ (retOut X6 hx Bd.returns rfl (Or.inr (Or.inr (Or.inr (Or.inr ⟨rfl, rfl, rfl⟩)))) (B d27_58) hr))
abbrev rKKa2 : Room := { frames := 0, cells := 0, slots := 0, locals := 0 }
theorem efKa2 (m : MethodId) (a1 : Addr) (a2 : Addr) : entryFrame m #[(.ref a1), (.int 0), (.ref a2), (.int 0), (.int 2)] 7 = mkF m 0 #[rv a1, iv 0, rv a2, iv 0, iv 2, .unset, .unset] [] := by first | (simp [entryFrame, mkF, argsToLocals, Value.category]; done) | rfl
def QKa2 (Z : State) (a1 : Addr) (a2 : Addr) (cz : Int32) (fv : Value) (k1 : ClassId) (k2 : ClassId) (c0 : Int32) (c1 : Int32) (h0 : Heap) (n0 : Nat) (v : Option Value) (h : Heap) (L : List Loc) : Prop := v = some (.int 2) ∧ Fr n0 L ∧ Keep h0 h [a2] ∧ Arv Z h a2 k2 .byte (2 : Int32) [(.int (c0.toInt8.toInt32)), (.int (c1.toInt8.toInt32))] (.int 0)
set_option maxRecDepth 65536 in
set_option maxHeartbeats 40000000 in
theorem rmKa2 (l : Launch) (Z : State) (a0 : Array Value) (hw : HW a0 Z) (ws : List Jvm.Cond) (a1 : Addr) (a2 : Addr) (cz : Int32) (fv : Value) (k1 : ClassId) (k2 : ClassId) (c0 : Int32) (c1 : Int32) (h0 : Heap) (n0 : Nat) (Z0 : n0 ≤ h0.size) (O0 : Old Z n0 h0) (J0 : Jd Z cz fv) (V1 : Arv Z h0 a1 k1 .char (2 : Int32) [(.int c0), (.int c1)] (.int 0)) (V2 : Arv Z h0 a2 k2 .byte (2 : Int32) [(.int 0), (.int 0)] (.int 0)) (ne12 : a1 ≠ a2) (g_a2 : n0 ≤ a2) (hle : (∀ c ∈ [c0, c1], ¬ (255 : Int32) < c)) :
    MF l Z mN26 jdk_52_method_21_code 7 (some .int) ws rKKa2 #[(.ref a1), (.int 0), (.ref a2), (.int 0), (.int 2)] h0 (QKa2 Z a1 a2 cz fv k1 k2 c0 c1 h0 n0) := by
  refine MetFree.of_bodySF (plainFor_of_name pn6) hisR ?_
  intro p e s m args bl meth c s1 Bd hml0 hP hK
  obtain ⟨rfl, hZ, hh⟩ := hP
  have hx := Bd.exec
  have hby := Bd.bytes
  have B := @hb c _ hby
  have hown : s.vm.findClass "java/lang/StringUTF16" = some m.cls := findClass_of_methodNamed Bd.named
  have hlk : meth.locks = false := BodyLoose.notSynchronized Bd
  have hrt : ∀ {v : Option Value}, meth.sig.returnType = none → v = none := fun h => by rw [Bd.returns] at h; cases h
  have X0 : Stand p l e rKKa2 s m #[(.ref a1), (.int 0), (.ref a2), (.int 0), (.int 2)] bl meth c s1 [] 0 0 := Stand.of_body Bd
  have e0 : s1.heap = h0 := by rw [← hh, Bd.state]; rfl
  have N0 := Fr.nil n0
  obtain ⟨EF, hEF⟩ : ∃ f, f = entryFrame m #[(.ref a1), (.int 0), (.ref a2), (.int 0), (.int 2)] 7 := ⟨_, rfl⟩
  have pre0 : Go p e bl s1 (mkF m 0 #[rv a1, iv 0, rv a2, iv 0, iv 2, .unset, .unset] []) s1 EF := fun t k => by rw [hEF]; exact castTop (efKa2 m a1 a2) k
  have pre1 : Go p e bl s1 (mkF m 7 #[rv a1, iv 0, rv a2, iv 0, iv 2, iv 0, .unset] [(.int 2), (.int 0)]) s1 EF := fun t k => pre0 t (by
   refine XS.iconst X0.here hx rfl (B d26_0) ?_
   refine XS.istore X0.here hx rfl (B d26_1) rfl (l' := #[rv a1, iv 0, rv a2, iv 0, iv 2, iv 0, .unset]) rfl ?_
   refine XS.iload X0.here hx rfl (B d26_3) rfl ?_
   exact XS.iload X0.here hx rfl (B d26_5) rfl k)
  have pre2 : Go p e bl s1 (mkF m 10 #[rv a1, iv 0, rv a2, iv 0, iv 2, iv 0, .unset] []) s1 EF := fun t k => pre1 t (XS.icmpNo X0.here hx rfl (B d26_7) rfl (tlt (by decide : (0 : Int32) < (2 : Int32))).2.1 k)
  have pre3 : Go p e bl s1 (mkF m 12 #[rv a1, iv 0, rv a2, iv 0, iv 2, iv 0, .unset] [(.int 0), (.ref a1)]) s1 EF := fun t k => pre2 t (by
   refine XS.aloadN X0.here hx rfl (B d26_10) rfl rfl ?_
   exact XS.iloadN X0.here hx rfl (B d26_11) rfl k)
  obtain ⟨cl4, Ar4, q4, Sz4, M4, H4, G4⟩ := id V1
  have hin4 := inb_of (j := (0 : Int32)) Sz4 ⟨by decide, by decide⟩
  have hat4 := Has.at (v := (.int c0)) H4 hin4 rfl
  have pre5 : Go p e bl s1 (mkF m 20 #[rv a1, iv 0, rv a2, iv 0, iv 2, iv 0, iv c0] [(.int 255), (.int c0)]) s1 EF := fun t k => pre3 t (by
   refine X0.caload hx (j := 0) (v := (.int c0)) (hp e0 Ar4) (State.isArrayOf_alike hZ.alike Ar4.2.1) Ar4.2.2 hin4 hat4 (g := (mkF m 12 #[rv a1, iv 0, rv a2, iv 0, iv 2, iv 0, .unset] [(.int 0), (.ref a1)])) rfl rfl (B d26_12) _ ?_
   refine XS.istore X0.here hx rfl (B d26_13) rfl (l' := #[rv a1, iv 0, rv a2, iv 0, iv 2, iv 0, iv c0]) rfl ?_
   refine XS.iload X0.here hx rfl (B d26_15) rfl ?_
   exact XS.sipush X0.here hx rfl (B d26_17) k)
  have pre6 : Go p e bl s1 (mkF m 26 #[rv a1, iv 0, rv a2, iv 0, iv 2, iv 0, iv c0] []) s1 EF := fun t k => pre5 t (XS.icmpYes X0.here hx rfl (pc0 := 20) (pc' := 26) rfl (B d26_20) rfl (flt (hle c0 (mg 0 rfl))).2.2.2 (by decide) (by decide) k)
  have pre7 : Go p e bl s1 (mkF m 31 #[rv a1, iv 0, rv a2, iv 0, iv 2, iv 0, iv c0] [(.int (c0.toInt8.toInt32)), (.int 0), (.ref a2)]) s1 EF := fun t k => pre6 t (by
   refine XS.aloadN X0.here hx rfl (B d26_26) rfl rfl ?_
   refine XS.iloadN X0.here hx rfl (B d26_27) rfl ?_
   refine XS.iload X0.here hx rfl (B d26_28) rfl ?_
   exact XS.i2b X0.here hx rfl (B d26_30) rfl k)
  obtain ⟨cl8, Ar8, q8, Sz8, M8, H8, G8⟩ := id V2
  have hin8 := inb_of (j := (0 : Int32)) Sz8 ⟨by decide, by decide⟩
  obtain ⟨T8, h8, X8, e8, W8, st8⟩ := stB X0 hx hZ e0 Ar8 (j := 0) hin8 (g := (mkF m 31 #[rv a1, iv 0, rv a2, iv 0, iv 2, iv 0, iv c0] [(.int (c0.toInt8.toInt32)), (.int 0), (.ref a2)])) rfl rfl (B d26_31)
  rw [own_i2b2] at W8
  have pre9 : Go p e bl T8 (mkF m 32 #[rv a1, iv 0, rv a2, iv 0, iv 2, iv 0, iv c0] []) s1 EF := fun t k => pre7 t (st8 t k)
  have O10 : Old Z n0 h8 := O0.wr W8 g_a2
  have Z10 : n0 ≤ h8.size := Nat.le_trans Z0 (Keep.of_wr W8).1
  have K10 : Keep h0 h8 [a2] := (Keep.refl h0 [a2]).wr W8 (Or.inl (mg 0 rfl))
  have V8 : Arv Z h8 a2 k2 .byte (2 : Int32) [(.int (c0.toInt8.toInt32)), (.int 0)] (.int 0) := Arv.set Ar8 q8 Sz8 M8 H8 G8 (fits_nar_byte _) W8 0 rfl (wl rfl)
  have N8 := Fr.snoc X8 N0 g_a2
  have pre11 : Go p e bl T8 (mkF m 7 #[rv a1, iv 1, rv a2, iv 1, iv 2, iv 1, iv c0] [(.int 2), (.int 1)]) s1 EF := fun t k => pre9 t (by
   refine XS.iinc X8.here hx rfl (B d26_32) rfl (l' := #[rv a1, iv 1, rv a2, iv 0, iv 2, iv 0, iv c0]) rfl ?_
   refine XS.iinc X8.here hx rfl (B d26_35) rfl (l' := #[rv a1, iv 1, rv a2, iv 1, iv 2, iv 0, iv c0]) rfl ?_
   refine XS.iinc X8.here hx rfl (B d26_38) rfl (l' := #[rv a1, iv 1, rv a2, iv 1, iv 2, iv 1, iv c0]) rfl ?_
   refine XS.goto X8.here hx rfl (pc0 := 41) (pc' := 3) rfl (B d26_41) (by decide) (by decide) ?_
   refine XS.iload X8.here hx rfl (B d26_3) rfl ?_
   exact XS.iload X8.here hx rfl (B d26_5) rfl k)
  have pre12 : Go p e bl T8 (mkF m 10 #[rv a1, iv 1, rv a2, iv 1, iv 2, iv 1, iv c0] []) s1 EF := fun t k => pre11 t (XS.icmpNo X8.here hx rfl (B d26_7) rfl (tlt (by decide : (1 : Int32) < (2 : Int32))).2.1 k)
  have pre13 : Go p e bl T8 (mkF m 12 #[rv a1, iv 1, rv a2, iv 1, iv 2, iv 1, iv c0] [(.int 1), (.ref a1)]) s1 EF := fun t k => pre12 t (by
   refine XS.aloadN X8.here hx rfl (B d26_10) rfl rfl ?_
   exact XS.iloadN X8.here hx rfl (B d26_11) rfl k)
  obtain ⟨cl14, Ar14, q14, Sz14, M14, H14, G14⟩ := id (V1.other W8 ne12)
  have hin14 := inb_of (j := (1 : Int32)) Sz14 ⟨by decide, by decide⟩
  have hat14 := Has.at (v := (.int c1)) H14 hin14 rfl
  have pre15 : Go p e bl T8 (mkF m 20 #[rv a1, iv 1, rv a2, iv 1, iv 2, iv 1, iv c1] [(.int 255), (.int c1)]) s1 EF := fun t k => pre13 t (by
   refine X8.caload hx (j := 1) (v := (.int c1)) (hp e8 Ar14) (State.isArrayOf_alike hZ.alike Ar14.2.1) Ar14.2.2 hin14 hat14 (g := (mkF m 12 #[rv a1, iv 1, rv a2, iv 1, iv 2, iv 1, iv c0] [(.int 1), (.ref a1)])) rfl rfl (B d26_12) _ ?_
   refine XS.istore X8.here hx rfl (B d26_13) rfl (l' := #[rv a1, iv 1, rv a2, iv 1, iv 2, iv 1, iv c1]) rfl ?_
   refine XS.iload X8.here hx rfl (B d26_15) rfl ?_
   exact XS.sipush X8.here hx rfl (B d26_17) k)
  have pre16 : Go p e bl T8 (mkF m 26 #[rv a1, iv 1, rv a2, iv 1, iv 2, iv 1, iv c1] []) s1 EF := fun t k => pre15 t (XS.icmpYes X8.here hx rfl (pc0 := 20) (pc' := 26) rfl (B d26_20) rfl (flt (hle c1 (mg 1 rfl))).2.2.2 (by decide) (by decide) k)
  have pre17 : Go p e bl T8 (mkF m 31 #[rv a1, iv 1, rv a2, iv 1, iv 2, iv 1, iv c1] [(.int (c1.toInt8.toInt32)), (.int 1), (.ref a2)]) s1 EF := fun t k => pre16 t (by
   refine XS.aloadN X8.here hx rfl (B d26_26) rfl rfl ?_
   refine XS.iloadN X8.here hx rfl (B d26_27) rfl ?_
   refine XS.iload X8.here hx rfl (B d26_28) rfl ?_
   exact XS.i2b X8.here hx rfl (B d26_30) rfl k)
  obtain ⟨cl18, Ar18, q18, Sz18, M18, H18, G18⟩ := id V8
  have hin18 := inb_of (j := (1 : Int32)) Sz18 ⟨by decide, by decide⟩
  obtain ⟨T18, h18, X18, e18, W18, st18⟩ := stB X8 hx hZ e8 Ar18 (j := 1) hin18 (g := (mkF m 31 #[rv a1, iv 1, rv a2, iv 1, iv 2, iv 1, iv c1] [(.int (c1.toInt8.toInt32)), (.int 1), (.ref a2)])) rfl rfl (B d26_31)
  rw [own_i2b2] at W18
  have pre19 : Go p e bl T18 (mkF m 32 #[rv a1, iv 1, rv a2, iv 1, iv 2, iv 1, iv c1] []) s1 EF := fun t k => pre17 t (st18 t k)
  have O20 : Old Z n0 h18 := O10.wr W18 g_a2
  have Z20 : n0 ≤ h18.size := Nat.le_trans Z10 (Keep.of_wr W18).1
  have K20 : Keep h0 h18 [a2] := K10.wr W18 (Or.inl (mg 0 rfl))
  have V18 : Arv Z h18 a2 k2 .byte (2 : Int32) [(.int (c0.toInt8.toInt32)), (.int (c1.toInt8.toInt32))] (.int 0) := Arv.set Ar18 q18 Sz18 M18 H18 G18 (fits_nar_byte _) W18 1 rfl (wl rfl)
  have N18 := Fr.snoc X18 N8 g_a2
  have pre21 : Go p e bl T18 (mkF m 7 #[rv a1, iv 2, rv a2, iv 2, iv 2, iv 2, iv c1] [(.int 2), (.int 2)]) s1 EF := fun t k => pre19 t (by
   refine XS.iinc X18.here hx rfl (B d26_32) rfl (l' := #[rv a1, iv 2, rv a2, iv 1, iv 2, iv 1, iv c1]) rfl ?_
   refine XS.iinc X18.here hx rfl (B d26_35) rfl (l' := #[rv a1, iv 2, rv a2, iv 2, iv 2, iv 1, iv c1]) rfl ?_
   refine XS.iinc X18.here hx rfl (B d26_38) rfl (l' := #[rv a1, iv 2, rv a2, iv 2, iv 2, iv 2, iv c1]) rfl ?_
   refine XS.goto X18.here hx rfl (pc0 := 41) (pc' := 3) rfl (B d26_41) (by decide) (by decide) ?_
   refine XS.iload X18.here hx rfl (B d26_3) rfl ?_
   exact XS.iload X18.here hx rfl (B d26_5) rfl k)
  have pre22 : Go p e bl T18 (mkF m 44 #[rv a1, iv 2, rv a2, iv 2, iv 2, iv 2, iv c1] []) s1 EF := fun t k => pre21 t (XS.icmpYes X18.here hx rfl (pc0 := 7) (pc' := 44) rfl (B d26_7) rfl (flt (by decide : ¬ ((2 : Int32) < (2 : Int32)))).2.1 (by decide) (by decide) k)
  have pre23 : Go p e bl T18 (mkF m 46 #[rv a1, iv 2, rv a2, iv 2, iv 2, iv 2, iv c1] [(.int 2)]) s1 EF := fun t k => pre22 t (by
   exact XS.iload X18.here hx rfl (B d26_44) rfl k)
  exact fin1 X18 (v := some (.int 2)) hrt hlk (wl rfl) (wl rfl) (by rw [e18]; exact ⟨rfl, N18, K20, V18⟩) (fun fs hr => hEF ▸ pre23 _ (retOut X18 hx Bd.returns rfl (Or.inl ⟨rfl, Or.inl rfl, _, rfl⟩) (B d26_46) hr))
abbrev rKKb2 : Room := { frames := 1, cells := 1, slots := 3, locals := 18 }
theorem efKb2 (m : MethodId) (a1 : Addr) : entryFrame m #[(.ref a1), (.int 0), (.int 2)] 6 = mkF m 0 #[rv a1, iv 0, iv 2, .unset, .unset, .unset] [] := by first | (simp [entryFrame, mkF, argsToLocals, Value.category]; done) | rfl
def QKb2 (Z : State) (a1 : Addr) (cz : Int32) (fv : Value) (k1 : ClassId) (c0 : Int32) (c1 : Int32) (h0 : Heap) (n0 : Nat) (v : Option Value) (h : Heap) (L : List Loc) : Prop := ∃ b k, v = some (.ref b) ∧ Fr n0 L ∧ Keep h0 h [] ∧ h0.size ≤ b ∧ Arv Z h b k .byte (2 : Int32) [(.int (c0.toInt8.toInt32)), (.int (c1.toInt8.toInt32))] (.int 0)
set_option maxRecDepth 65536 in
set_option maxHeartbeats 40000000 in
theorem rmKb2 (l : Launch) (Z : State) (a0 : Array Value) (hw : HW a0 Z) (ws : List Jvm.Cond) (a1 : Addr) (cz : Int32) (fv : Value) (k1 : ClassId) (c0 : Int32) (c1 : Int32) (h0 : Heap) (n0 : Nat) (Z0 : n0 ≤ h0.size) (O0 : Old Z n0 h0) (J0 : Jd Z cz fv) (V1 : Arv Z h0 a1 k1 .char (2 : Int32) [(.int c0), (.int c1)] (.int 0)) (hle : (∀ c ∈ [c0, c1], ¬ (255 : Int32) < c)) :
    MF l Z mN27 jdk_52_method_16_code 6 (some (.array .byte)) ws rKKb2 #[(.ref a1), (.int 0), (.int 2)] h0 (QKb2 Z a1 cz fv k1 c0 c1 h0 n0) := by
  refine MetFree.of_bodySF (plainFor_of_name pn6) hisR ?_
  intro p e s m args bl meth c s1 Bd hml0 hP hK
  obtain ⟨rfl, hZ, hh⟩ := hP
  have hx := Bd.exec
  have hby := Bd.bytes
  have B := @hb c _ hby
  have hM := fun {n : Nat} (h : n = 6) => h.trans hml0.symm
  have hown : s.vm.findClass "java/lang/StringUTF16" = some m.cls := findClass_of_methodNamed Bd.named
  have hlk : meth.locks = false := BodyLoose.notSynchronized Bd
  have hrt : ∀ {v : Option Value}, meth.sig.returnType = none → v = none := fun h => by rw [Bd.returns] at h; cases h
  have X0 : Stand p l e rKKb2 s m #[(.ref a1), (.int 0), (.int 2)] bl meth c s1 [] 0 0 := Stand.of_body Bd
  have e0 : s1.heap = h0 := by rw [← hh, Bd.state]; rfl
  have N0 := Fr.nil n0
  obtain ⟨EF, hEF⟩ : ∃ f, f = entryFrame m #[(.ref a1), (.int 0), (.int 2)] 6 := ⟨_, rfl⟩
  have pre0 : Go p e bl s1 (mkF m 0 #[rv a1, iv 0, iv 2, .unset, .unset, .unset] []) s1 EF := fun t k => by rw [hEF]; exact castTop (efKb2 m a1) k
  have pre1 : Go p e bl s1 (mkF m 1 #[rv a1, iv 0, iv 2, .unset, .unset, .unset] [(.int 2)]) s1 EF := fun t k => pre0 t (by
   exact XS.iloadN X0.here hx rfl (B d27_0) rfl k)
  obtain ⟨T2, h2, k2, X2, e2, Et2, A2, st2⟩ := newP X0 hx hZ (hw _ (mW 23 rfl)) e0 (g := (mkF m 1 #[rv a1, iv 0, iv 2, .unset, .unset, .unset] [(.int 2)])) rfl (B d27_1) rfl (by decide) (cap := 2) (by decide) (by decide) (by decide) (by decide)
  obtain ⟨b2, g2⟩ : ∃ z, z = h0.size := ⟨_, rfl⟩
  rw [← g2] at A2 st2
  have g_b2 : n0 ≤ b2 := Nat.le_trans Z0 (Nat.le_of_eq g2.symm)
  have sz_b2 : h0.size ≤ b2 := Nat.le_trans (Keep.refl h0 []).1 (Nat.le_of_eq g2.symm)
  have ne_a1_b2 : a1 ≠ b2 := Nat.ne_of_lt (Nat.lt_of_lt_of_le V1.lt (Nat.le_of_eq g2.symm))
  have pre3 : Go p e bl T2 (mkF m 3 #[rv a1, iv 0, iv 2, .unset, .unset, .unset] [(.ref b2)]) s1 EF := fun t k => pre1 t (st2 t k)
  have O4 : Old Z n0 h2 := O0.ext Et2
  have Z4 : n0 ≤ h2.size := Nat.le_trans Z0 Et2.1
  have K4 : Keep h0 h2 [] := (Keep.refl h0 []).ext Et2
  have V2 : Arv Z h2 b2 k2 .byte (2 : Int32) [(.int 0), (.int 0)] (.int 0) := (Arv.new A2 (by decide)).pad (pad_rep [] (.int 0) 2)
  have pre5 : Go p e bl T2 (mkF m 9 #[rv a1, iv 0, iv 2, rv b2, .unset, .unset] [(.int 2), (.int 0), (.ref b2), (.int 0), (.ref a1)]) s1 EF := fun t k => pre3 t (by
   refine XS.astoreN X2.here hx rfl (B d27_3) rfl rfl (l' := #[rv a1, iv 0, iv 2, rv b2, .unset, .unset]) rfl ?_
   refine XS.aloadN X2.here hx rfl (B d27_4) rfl rfl ?_
   refine XS.iloadN X2.here hx rfl (B d27_5) rfl ?_
   refine XS.aloadN X2.here hx rfl (B d27_6) rfl rfl ?_
   refine XS.iconst X2.here hx rfl (B d27_7) ?_
   exact XS.iloadN X2.here hx rfl (B d27_8) rfl k)
  obtain ⟨_, _, ⟨T6, L6, k6, n6⟩, -, X6, ⟨Lc6, hQ6, l6, y6, z6⟩, st6⟩ := Jvm.LawKit.callS X2 hx (y := mN26) hown (mvT hZ (hw _ (mW 24 rfl))) (mvT hZ (hw _ (mW 25 rfl))) (mvT hZ (hw _ (mW 21 rfl))) (mvT hZ (hw _ (mW 26 rfl))) (by decide) (backOf (W := 0) (rmKa2 l Z a0 hw [] a1 b2 cz fv k1 k2 c0 c1 h2 n0 Z4 O4 J0 (V1.ext Et2) V2 ne_a1_b2 g_b2 hle) hZ (hw _ (mW 26 rfl)) (hw _ (mW 21 rfl)) (by decide) (by decide)) (g := (mkF m 9 #[rv a1, iv 0, iv 2, rv b2, .unset, .unset] [(.int 2), (.int 0), (.ref b2), (.int 0), (.ref a1)])) rfl (hM rfl) (argsL := [(.ref a1), (.int 0), (.ref b2), (.int 0), (.int 2)]) (rest := []) (lenOf pd16 rfl) rfl (Nat.le_of_eq rfl) (B d27_9) (fun _ _ => ⟨rfl, e2, wl rfl, wl rfl⟩)
  dsimp only [Pt.U, Pt.locs, Pt.cells, Pt.slots] at X6 l6 y6 z6 st6 hQ6
  subst l6 y6 z6
  obtain ⟨rfl, N6q, K6, VL6⟩ := hQ6
  have N6 := Fr.app N0 N6q
  have pre7 : Go p e bl T6 (mkF m 12 #[rv a1, iv 0, iv 2, rv b2, .unset, .unset] [(.int 2)]) s1 EF := fun t k => pre5 t (st6 t k)
  have O8 : Old Z n0 T6.heap := O4.keep K6 (allS g_b2 all0)
  have Z8 : n0 ≤ T6.heap.size := Nat.le_trans Z4 K6.1
  have K8 : Keep h0 T6.heap [] := K4.trans K6 (allS (Or.inr sz_b2) all0)
  have pre9 : Go p e bl T6 (mkF m 17 #[rv a1, iv 0, iv 2, rv b2, iv 2, .unset] [(.int 2), (.int 2)]) s1 EF := fun t k => pre7 t (by
   refine XS.istore X6.here hx rfl (B d27_12) rfl (l' := #[rv a1, iv 0, iv 2, rv b2, iv 2, .unset]) rfl ?_
   refine XS.iload X6.here hx rfl (B d27_14) rfl ?_
   exact XS.iloadN X6.here hx rfl (B d27_16) rfl k)
  have pre10 : Go p e bl T6 (mkF m 57 #[rv a1, iv 0, iv 2, rv b2, iv 2, .unset] []) s1 EF := fun t k => pre9 t (XS.icmpYes X6.here hx rfl (pc0 := 17) (pc' := 57) rfl (B d27_17) rfl (teq (by decide : (2 : Int32) = (2 : Int32))).1 (by decide) (by decide) k)
  have pre11 : Go p e bl T6 (mkF m 58 #[rv a1, iv 0, iv 2, rv b2, iv 2, .unset] [(.ref b2)]) s1 EF := fun t k => pre10 t (by
   exact XS.aloadN X6.here hx rfl (B d27_57) rfl rfl k)
  exact fin1 X6 (v := some (.ref b2)) hrt hlk (wl rfl) (wl rfl) (by exact ⟨_, _, rfl, N6, K8, sz_b2, VL6⟩) (fun fs hr => hEF ▸ pre11 _ (retOut X6 hx Bd.returns rfl (Or.inr (Or.inr (Or.inr (Or.inr ⟨rfl, rfl, rfl⟩)))) (B d27_58) hr))
abbrev rKKa1 : Room := { frames := 0, cells := 0, slots := 0, locals := 0 }
theorem efKa1 (m : MethodId) (a1 : Addr) (a2 : Addr) : entryFrame m #[(.ref a1), (.int 0), (.ref a2), (.int 0), (.int 1)] 7 = mkF m 0 #[rv a1, iv 0, rv a2, iv 0, iv 1, .unset, .unset] [] := by first | (simp [entryFrame, mkF, argsToLocals, Value.category]; done) | rfl
def QKa1 (Z : State) (a1 : Addr) (a2 : Addr) (cz : Int32) (fv : Value) (k1 : ClassId) (k2 : ClassId) (c0 : Int32) (h0 : Heap) (n0 : Nat) (v : Option Value) (h : Heap) (L : List Loc) : Prop := v = some (.int 1) ∧ Fr n0 L ∧ Keep h0 h [a2] ∧ Arv Z h a2 k2 .byte (1 : Int32) [(.int (c0.toInt8.toInt32))] (.int 0)
set_option maxRecDepth 65536 in
set_option maxHeartbeats 40000000 in
theorem rmKa1 (l : Launch) (Z : State) (a0 : Array Value) (hw : HW a0 Z) (ws : List Jvm.Cond) (a1 : Addr) (a2 : Addr) (cz : Int32) (fv : Value) (k1 : ClassId) (k2 : ClassId) (c0 : Int32) (h0 : Heap) (n0 : Nat) (Z0 : n0 ≤ h0.size) (O0 : Old Z n0 h0) (J0 : Jd Z cz fv) (V1 : Arv Z h0 a1 k1 .char (1 : Int32) [(.int c0)] (.int 0)) (V2 : Arv Z h0 a2 k2 .byte (1 : Int32) [(.int 0)] (.int 0)) (ne12 : a1 ≠ a2) (g_a2 : n0 ≤ a2) (hle : (∀ c ∈ [c0], ¬ (255 : Int32) < c)) :
    MF l Z mN26 jdk_52_method_21_code 7 (some .int) ws rKKa1 #[(.ref a1), (.int 0), (.ref a2), (.int 0), (.int 1)] h0 (QKa1 Z a1 a2 cz fv k1 k2 c0 h0 n0) := by
  refine MetFree.of_bodySF (plainFor_of_name pn6) hisR ?_
  intro p e s m args bl meth c s1 Bd hml0 hP hK
  obtain ⟨rfl, hZ, hh⟩ := hP
  have hx := Bd.exec
  have hby := Bd.bytes
  have B := @hb c _ hby
  have hown : s.vm.findClass "java/lang/StringUTF16" = some m.cls := findClass_of_methodNamed Bd.named
  have hlk : meth.locks = false := BodyLoose.notSynchronized Bd
  have hrt : ∀ {v : Option Value}, meth.sig.returnType = none → v = none := fun h => by rw [Bd.returns] at h; cases h
  have X0 : Stand p l e rKKa1 s m #[(.ref a1), (.int 0), (.ref a2), (.int 0), (.int 1)] bl meth c s1 [] 0 0 := Stand.of_body Bd
  have e0 : s1.heap = h0 := by rw [← hh, Bd.state]; rfl
  have N0 := Fr.nil n0
  obtain ⟨EF, hEF⟩ : ∃ f, f = entryFrame m #[(.ref a1), (.int 0), (.ref a2), (.int 0), (.int 1)] 7 := ⟨_, rfl⟩
  have pre0 : Go p e bl s1 (mkF m 0 #[rv a1, iv 0, rv a2, iv 0, iv 1, .unset, .unset] []) s1 EF := fun t k => by rw [hEF]; exact castTop (efKa1 m a1 a2) k
  have pre1 : Go p e bl s1 (mkF m 7 #[rv a1, iv 0, rv a2, iv 0, iv 1, iv 0, .unset] [(.int 1), (.int 0)]) s1 EF := fun t k => pre0 t (by
   refine XS.iconst X0.here hx rfl (B d26_0) ?_
   refine XS.istore X0.here hx rfl (B d26_1) rfl (l' := #[rv a1, iv 0, rv a2, iv 0, iv 1, iv 0, .unset]) rfl ?_
   refine XS.iload X0.here hx rfl (B d26_3) rfl ?_
   exact XS.iload X0.here hx rfl (B d26_5) rfl k)
  have pre2 : Go p e bl s1 (mkF m 10 #[rv a1, iv 0, rv a2, iv 0, iv 1, iv 0, .unset] []) s1 EF := fun t k => pre1 t (XS.icmpNo X0.here hx rfl (B d26_7) rfl (tlt (by decide : (0 : Int32) < (1 : Int32))).2.1 k)
  have pre3 : Go p e bl s1 (mkF m 12 #[rv a1, iv 0, rv a2, iv 0, iv 1, iv 0, .unset] [(.int 0), (.ref a1)]) s1 EF := fun t k => pre2 t (by
   refine XS.aloadN X0.here hx rfl (B d26_10) rfl rfl ?_
   exact XS.iloadN X0.here hx rfl (B d26_11) rfl k)
  obtain ⟨cl4, Ar4, q4, Sz4, M4, H4, G4⟩ := id V1
  have hin4 := inb_of (j := (0 : Int32)) Sz4 ⟨by decide, by decide⟩
  have hat4 := Has.at (v := (.int c0)) H4 hin4 rfl
  have pre5 : Go p e bl s1 (mkF m 20 #[rv a1, iv 0, rv a2, iv 0, iv 1, iv 0, iv c0] [(.int 255), (.int c0)]) s1 EF := fun t k => pre3 t (by
   refine X0.caload hx (j := 0) (v := (.int c0)) (hp e0 Ar4) (State.isArrayOf_alike hZ.alike Ar4.2.1) Ar4.2.2 hin4 hat4 (g := (mkF m 12 #[rv a1, iv 0, rv a2, iv 0, iv 1, iv 0, .unset] [(.int 0), (.ref a1)])) rfl rfl (B d26_12) _ ?_
   refine XS.istore X0.here hx rfl (B d26_13) rfl (l' := #[rv a1, iv 0, rv a2, iv 0, iv 1, iv 0, iv c0]) rfl ?_
   refine XS.iload X0.here hx rfl (B d26_15) rfl ?_
   exact XS.sipush X0.here hx rfl (B d26_17) k)
  have pre6 : Go p e bl s1 (mkF m 26 #[rv a1, iv 0, rv a2, iv 0, iv 1, iv 0, iv c0] []) s1 EF := fun t k => pre5 t (XS.icmpYes X0.here hx rfl (pc0 := 20) (pc' := 26) rfl (B d26_20) rfl (flt (hle c0 (mg 0 rfl))).2.2.2 (by decide) (by decide) k)
  have pre7 : Go p e bl s1 (mkF m 31 #[rv a1, iv 0, rv a2, iv 0, iv 1, iv 0, iv c0] [(.int (c0.toInt8.toInt32)), (.int 0), (.ref a2)]) s1 EF := fun t k => pre6 t (by
   refine XS.aloadN X0.here hx rfl (B d26_26) rfl rfl ?_
   refine XS.iloadN X0.here hx rfl (B d26_27) rfl ?_
   refine XS.iload X0.here hx rfl (B d26_28) rfl ?_
   exact XS.i2b X0.here hx rfl (B d26_30) rfl k)
  obtain ⟨cl8, Ar8, q8, Sz8, M8, H8, G8⟩ := id V2
  have hin8 := inb_of (j := (0 : Int32)) Sz8 ⟨by decide, by decide⟩
  obtain ⟨T8, h8, X8, e8, W8, st8⟩ := stB X0 hx hZ e0 Ar8 (j := 0) hin8 (g := (mkF m 31 #[rv a1, iv 0, rv a2, iv 0, iv 1, iv 0, iv c0] [(.int (c0.toInt8.toInt32)), (.int 0), (.ref a2)])) rfl rfl (B d26_31)
  rw [own_i2b2] at W8
  have pre9 : Go p e bl T8 (mkF m 32 #[rv a1, iv 0, rv a2, iv 0, iv 1, iv 0, iv c0] []) s1 EF := fun t k => pre7 t (st8 t k)
  have O10 : Old Z n0 h8 := O0.wr W8 g_a2
  have Z10 : n0 ≤ h8.size := Nat.le_trans Z0 (Keep.of_wr W8).1
  have K10 : Keep h0 h8 [a2] := (Keep.refl h0 [a2]).wr W8 (Or.inl (mg 0 rfl))
  have V8 : Arv Z h8 a2 k2 .byte (1 : Int32) [(.int (c0.toInt8.toInt32))] (.int 0) := Arv.set Ar8 q8 Sz8 M8 H8 G8 (fits_nar_byte _) W8 0 rfl (wl rfl)
  have N8 := Fr.snoc X8 N0 g_a2
  have pre11 : Go p e bl T8 (mkF m 7 #[rv a1, iv 1, rv a2, iv 1, iv 1, iv 1, iv c0] [(.int 1), (.int 1)]) s1 EF := fun t k => pre9 t (by
   refine XS.iinc X8.here hx rfl (B d26_32) rfl (l' := #[rv a1, iv 1, rv a2, iv 0, iv 1, iv 0, iv c0]) rfl ?_
   refine XS.iinc X8.here hx rfl (B d26_35) rfl (l' := #[rv a1, iv 1, rv a2, iv 1, iv 1, iv 0, iv c0]) rfl ?_
   refine XS.iinc X8.here hx rfl (B d26_38) rfl (l' := #[rv a1, iv 1, rv a2, iv 1, iv 1, iv 1, iv c0]) rfl ?_
   refine XS.goto X8.here hx rfl (pc0 := 41) (pc' := 3) rfl (B d26_41) (by decide) (by decide) ?_
   refine XS.iload X8.here hx rfl (B d26_3) rfl ?_
   exact XS.iload X8.here hx rfl (B d26_5) rfl k)
  have pre12 : Go p e bl T8 (mkF m 44 #[rv a1, iv 1, rv a2, iv 1, iv 1, iv 1, iv c0] []) s1 EF := fun t k => pre11 t (XS.icmpYes X8.here hx rfl (pc0 := 7) (pc' := 44) rfl (B d26_7) rfl (flt (by decide : ¬ ((1 : Int32) < (1 : Int32)))).2.1 (by decide) (by decide) k)
  have pre13 : Go p e bl T8 (mkF m 46 #[rv a1, iv 1, rv a2, iv 1, iv 1, iv 1, iv c0] [(.int 1)]) s1 EF := fun t k => pre12 t (by
   exact XS.iload X8.here hx rfl (B d26_44) rfl k)
  exact fin1 X8 (v := some (.int 1)) hrt hlk (wl rfl) (wl rfl) (by rw [e8]; exact ⟨rfl, N8, K10, V8⟩) (fun fs hr => hEF ▸ pre13 _ (retOut X8 hx Bd.returns rfl (Or.inl ⟨rfl, Or.inl rfl, _, rfl⟩) (B d26_46) hr))
abbrev rKKb1 : Room := { frames := 1, cells := 1, slots := 3, locals := 18 }
theorem efKb1 (m : MethodId) (a1 : Addr) : entryFrame m #[(.ref a1), (.int 0), (.int 1)] 6 = mkF m 0 #[rv a1, iv 0, iv 1, .unset, .unset, .unset] [] := by first | (simp [entryFrame, mkF, argsToLocals, Value.category]; done) | rfl
def QKb1 (Z : State) (a1 : Addr) (cz : Int32) (fv : Value) (k1 : ClassId) (c0 : Int32) (h0 : Heap) (n0 : Nat) (v : Option Value) (h : Heap) (L : List Loc) : Prop := ∃ b k, v = some (.ref b) ∧ Fr n0 L ∧ Keep h0 h [] ∧ h0.size ≤ b ∧ Arv Z h b k .byte (1 : Int32) [(.int (c0.toInt8.toInt32))] (.int 0)
set_option maxRecDepth 65536 in
set_option maxHeartbeats 40000000 in
theorem rmKb1 (l : Launch) (Z : State) (a0 : Array Value) (hw : HW a0 Z) (ws : List Jvm.Cond) (a1 : Addr) (cz : Int32) (fv : Value) (k1 : ClassId) (c0 : Int32) (h0 : Heap) (n0 : Nat) (Z0 : n0 ≤ h0.size) (O0 : Old Z n0 h0) (J0 : Jd Z cz fv) (V1 : Arv Z h0 a1 k1 .char (1 : Int32) [(.int c0)] (.int 0)) (hle : (∀ c ∈ [c0], ¬ (255 : Int32) < c)) :
    MF l Z mN27 jdk_52_method_16_code 6 (some (.array .byte)) ws rKKb1 #[(.ref a1), (.int 0), (.int 1)] h0 (QKb1 Z a1 cz fv k1 c0 h0 n0) := by
  refine MetFree.of_bodySF (plainFor_of_name pn6) hisR ?_
  intro p e s m args bl meth c s1 Bd hml0 hP hK
  obtain ⟨rfl, hZ, hh⟩ := hP
  have hx := Bd.exec
  have hby := Bd.bytes
  have B := @hb c _ hby
  have hM := fun {n : Nat} (h : n = 6) => h.trans hml0.symm
  have hown : s.vm.findClass "java/lang/StringUTF16" = some m.cls := findClass_of_methodNamed Bd.named
  have hlk : meth.locks = false := BodyLoose.notSynchronized Bd
  have hrt : ∀ {v : Option Value}, meth.sig.returnType = none → v = none := fun h => by rw [Bd.returns] at h; cases h
  have X0 : Stand p l e rKKb1 s m #[(.ref a1), (.int 0), (.int 1)] bl meth c s1 [] 0 0 := Stand.of_body Bd
  have e0 : s1.heap = h0 := by rw [← hh, Bd.state]; rfl
  have N0 := Fr.nil n0
  obtain ⟨EF, hEF⟩ : ∃ f, f = entryFrame m #[(.ref a1), (.int 0), (.int 1)] 6 := ⟨_, rfl⟩
  have pre0 : Go p e bl s1 (mkF m 0 #[rv a1, iv 0, iv 1, .unset, .unset, .unset] []) s1 EF := fun t k => by rw [hEF]; exact castTop (efKb1 m a1) k
  have pre1 : Go p e bl s1 (mkF m 1 #[rv a1, iv 0, iv 1, .unset, .unset, .unset] [(.int 1)]) s1 EF := fun t k => pre0 t (by
   exact XS.iloadN X0.here hx rfl (B d27_0) rfl k)
  obtain ⟨T2, h2, k2, X2, e2, Et2, A2, st2⟩ := newP X0 hx hZ (hw _ (mW 23 rfl)) e0 (g := (mkF m 1 #[rv a1, iv 0, iv 1, .unset, .unset, .unset] [(.int 1)])) rfl (B d27_1) rfl (by decide) (cap := 1) (by decide) (by decide) (by decide) (by decide)
  obtain ⟨b2, g2⟩ : ∃ z, z = h0.size := ⟨_, rfl⟩
  rw [← g2] at A2 st2
  have g_b2 : n0 ≤ b2 := Nat.le_trans Z0 (Nat.le_of_eq g2.symm)
  have sz_b2 : h0.size ≤ b2 := Nat.le_trans (Keep.refl h0 []).1 (Nat.le_of_eq g2.symm)
  have ne_a1_b2 : a1 ≠ b2 := Nat.ne_of_lt (Nat.lt_of_lt_of_le V1.lt (Nat.le_of_eq g2.symm))
  have pre3 : Go p e bl T2 (mkF m 3 #[rv a1, iv 0, iv 1, .unset, .unset, .unset] [(.ref b2)]) s1 EF := fun t k => pre1 t (st2 t k)
  have O4 : Old Z n0 h2 := O0.ext Et2
  have Z4 : n0 ≤ h2.size := Nat.le_trans Z0 Et2.1
  have K4 : Keep h0 h2 [] := (Keep.refl h0 []).ext Et2
  have V2 : Arv Z h2 b2 k2 .byte (1 : Int32) [(.int 0)] (.int 0) := (Arv.new A2 (by decide)).pad (pad_rep [] (.int 0) 1)
  have pre5 : Go p e bl T2 (mkF m 9 #[rv a1, iv 0, iv 1, rv b2, .unset, .unset] [(.int 1), (.int 0), (.ref b2), (.int 0), (.ref a1)]) s1 EF := fun t k => pre3 t (by
   refine XS.astoreN X2.here hx rfl (B d27_3) rfl rfl (l' := #[rv a1, iv 0, iv 1, rv b2, .unset, .unset]) rfl ?_
   refine XS.aloadN X2.here hx rfl (B d27_4) rfl rfl ?_
   refine XS.iloadN X2.here hx rfl (B d27_5) rfl ?_
   refine XS.aloadN X2.here hx rfl (B d27_6) rfl rfl ?_
   refine XS.iconst X2.here hx rfl (B d27_7) ?_
   exact XS.iloadN X2.here hx rfl (B d27_8) rfl k)
  obtain ⟨_, _, ⟨T6, L6, k6, n6⟩, -, X6, ⟨Lc6, hQ6, l6, y6, z6⟩, st6⟩ := Jvm.LawKit.callS X2 hx (y := mN26) hown (mvT hZ (hw _ (mW 24 rfl))) (mvT hZ (hw _ (mW 25 rfl))) (mvT hZ (hw _ (mW 21 rfl))) (mvT hZ (hw _ (mW 26 rfl))) (by decide) (backOf (W := 0) (rmKa1 l Z a0 hw [] a1 b2 cz fv k1 k2 c0 h2 n0 Z4 O4 J0 (V1.ext Et2) V2 ne_a1_b2 g_b2 hle) hZ (hw _ (mW 26 rfl)) (hw _ (mW 21 rfl)) (by decide) (by decide)) (g := (mkF m 9 #[rv a1, iv 0, iv 1, rv b2, .unset, .unset] [(.int 1), (.int 0), (.ref b2), (.int 0), (.ref a1)])) rfl (hM rfl) (argsL := [(.ref a1), (.int 0), (.ref b2), (.int 0), (.int 1)]) (rest := []) (lenOf pd16 rfl) rfl (Nat.le_of_eq rfl) (B d27_9) (fun _ _ => ⟨rfl, e2, wl rfl, wl rfl⟩)
  dsimp only [Pt.U, Pt.locs, Pt.cells, Pt.slots] at X6 l6 y6 z6 st6 hQ6
  subst l6 y6 z6
  obtain ⟨rfl, N6q, K6, VL6⟩ := hQ6
  have N6 := Fr.app N0 N6q
  have pre7 : Go p e bl T6 (mkF m 12 #[rv a1, iv 0, iv 1, rv b2, .unset, .unset] [(.int 1)]) s1 EF := fun t k => pre5 t (st6 t k)
  have O8 : Old Z n0 T6.heap := O4.keep K6 (allS g_b2 all0)
  have Z8 : n0 ≤ T6.heap.size := Nat.le_trans Z4 K6.1
  have K8 : Keep h0 T6.heap [] := K4.trans K6 (allS (Or.inr sz_b2) all0)
  have pre9 : Go p e bl T6 (mkF m 17 #[rv a1, iv 0, iv 1, rv b2, iv 1, .unset] [(.int 1), (.int 1)]) s1 EF := fun t k => pre7 t (by
   refine XS.istore X6.here hx rfl (B d27_12) rfl (l' := #[rv a1, iv 0, iv 1, rv b2, iv 1, .unset]) rfl ?_
   refine XS.iload X6.here hx rfl (B d27_14) rfl ?_
   exact XS.iloadN X6.here hx rfl (B d27_16) rfl k)
  have pre10 : Go p e bl T6 (mkF m 57 #[rv a1, iv 0, iv 1, rv b2, iv 1, .unset] []) s1 EF := fun t k => pre9 t (XS.icmpYes X6.here hx rfl (pc0 := 17) (pc' := 57) rfl (B d27_17) rfl (teq (by decide : (1 : Int32) = (1 : Int32))).1 (by decide) (by decide) k)
  have pre11 : Go p e bl T6 (mkF m 58 #[rv a1, iv 0, iv 1, rv b2, iv 1, .unset] [(.ref b2)]) s1 EF := fun t k => pre10 t (by
   exact XS.aloadN X6.here hx rfl (B d27_57) rfl rfl k)
  exact fin1 X6 (v := some (.ref b2)) hrt hlk (wl rfl) (wl rfl) (by exact ⟨_, _, rfl, N6, K8, sz_b2, VL6⟩) (fun fs hr => hEF ▸ pre11 _ (retOut X6 hx Bd.returns rfl (Or.inr (Or.inr (Or.inr (Or.inr ⟨rfl, rfl, rfl⟩)))) (B d27_58) hr))
def QKb (Z : State) (n : Int32) (cs : List Int32) (h0 : Heap) (n0 : Nat) (v : Option Value) (h : Heap) (L : List Loc) : Prop := ∃ b k, v = some (.ref b) ∧ Fr n0 L ∧ Keep h0 h [] ∧ h0.size ≤ b ∧ Arv Z h b k .byte n (BV (i8s cs)) (.int 0)
theorem rmKB (l : Launch) (Z : State) (a0 : Array Value) (hw : HW a0 Z) (ws : List Jvm.Cond) (a1 : Addr) (cz : Int32) (fv : Value) (k1 : ClassId) (n : Int32) (cs : List Int32) (h0 : Heap) (n0 : Nat) (Z0 : n0 ≤ h0.size) (O0 : Old Z n0 h0) (J0 : Jd Z cz fv) (V1 : Arv Z h0 a1 k1 .char n (BV cs) (.int 0)) (hn : n.toInt = cs.length) (hl1 : 1 ≤ cs.length) (hl2 : cs.length ≤ 3) (hle : ∀ c ∈ cs, ¬ (255 : Int32) < c) :
    MF l Z mN27 jdk_52_method_16_code 6 (some (.array .byte)) ws rKKb3 #[(.ref a1), (.int 0), (.int n)] h0 (QKb Z n cs h0 n0) := by
  rcases own_len hn hl1 hl2 with ⟨u0, rfl, rfl⟩ | ⟨u0, u1, rfl, rfl⟩ | ⟨u0, u1, u2, rfl, rfl⟩
  · exact rmKb1 l Z a0 hw ws a1 cz fv k1 u0 h0 n0 Z0 O0 J0 V1 hle
  · exact rmKb2 l Z a0 hw ws a1 cz fv k1 u0 u1 h0 n0 Z0 O0 J0 V1 hle
  · exact rmKb3 l Z a0 hw ws a1 cz fv k1 u0 u1 u2 h0 n0 Z0 O0 J0 V1 hle

abbrev rKKc : Room := { frames := 0, cells := 0, slots := 0, locals := 0 }
theorem d28_0 : decode jdk_52_method_15_code 0 = .ok (.iload_n 1, 1) := by decide +kernel
theorem d28_1 : decode jdk_52_method_15_code 1 = .ok (.aload_n 0, 1) := by decide +kernel
theorem d28_2 : decode jdk_52_method_15_code 2 = .ok (.arraylength, 1) := by decide +kernel
theorem d28_3 : decode jdk_52_method_15_code 3 = .ok (.isub, 1) := by decide +kernel
theorem d28_4 : decode jdk_52_method_15_code 4 = .ok (.bipush 31, 2) := by decide +kernel
theorem d28_6 : decode jdk_52_method_15_code 6 = .ok (.iushr, 1) := by decide +kernel
theorem d28_7 : decode jdk_52_method_15_code 7 = .ok (.i2b, 1) := by decide +kernel
theorem d28_8 : decode jdk_52_method_15_code 8 = .ok (.ireturn, 1) := by decide +kernel
theorem efKc (m : MethodId) (a1 : Addr) (n : Int32) : entryFrame m #[(.ref a1), (.int n)] 2 = mkF m 0 #[rv a1, iv n] [] := by first | (simp [entryFrame, mkF, argsToLocals, Value.category]; done) | rfl
def QKc (Z : State) (a1 : Addr) (n : Int32) (cz : Int32) (fv : Value) (k : ClassId) (vs : List Value) (h0 : Heap) (n0 : Nat) (v : Option Value) (h : Heap) (L : List Loc) : Prop := v = some (.int 0) ∧ Fr n0 L ∧ h = h0
set_option maxRecDepth 65536 in
set_option maxHeartbeats 40000000 in
theorem rmKc (l : Launch) (Z : State) (a0 : Array Value) (hw : HW a0 Z) (ws : List Jvm.Cond) (a1 : Addr) (n : Int32) (cz : Int32) (fv : Value) (k : ClassId) (vs : List Value) (h0 : Heap) (n0 : Nat) (Z0 : n0 ≤ h0.size) (O0 : Old Z n0 h0) (J0 : Jd Z cz fv) (VV : Arv Z h0 a1 k .byte n vs (.int 0)) :
    MF l Z mN28 jdk_52_method_15_code 2 (some .byte) ws rKKc #[(.ref a1), (.int n)] h0 (QKc Z a1 n cz fv k vs h0 n0) := by
  refine MetFree.of_bodySF (plainFor_of_name pn6) hisR ?_
  intro p e s m args bl meth c s1 Bd hml0 hP hK
  obtain ⟨rfl, hZ, hh⟩ := hP
  have hx := Bd.exec
  have hby := Bd.bytes
  have B := @hb c _ hby
  have hown : s.vm.findClass "java/lang/StringUTF16" = some m.cls := findClass_of_methodNamed Bd.named
  have hlk : meth.locks = false := BodyLoose.notSynchronized Bd
  have hrt : ∀ {v : Option Value}, meth.sig.returnType = none → v = none := fun h => by rw [Bd.returns] at h; cases h
  have X0 : Stand p l e rKKc s m #[(.ref a1), (.int n)] bl meth c s1 [] 0 0 := Stand.of_body Bd
  have e0 : s1.heap = h0 := by rw [← hh, Bd.state]; rfl
  have N0 := Fr.nil n0
  obtain ⟨EF, hEF⟩ : ∃ f, f = entryFrame m #[(.ref a1), (.int n)] 2 := ⟨_, rfl⟩
  have pre0 : Go p e bl s1 (mkF m 0 #[rv a1, iv n] []) s1 EF := fun t k => by rw [hEF]; exact castTop (efKc m a1 n) k
  have pre1 : Go p e bl s1 (mkF m 2 #[rv a1, iv n] [(.ref a1), (.int n)]) s1 EF := fun t k => pre0 t (by
   refine XS.iloadN X0.here hx rfl (B d28_0) rfl ?_
   exact XS.aloadN X0.here hx rfl (B d28_1) rfl rfl k)
  obtain ⟨cl2, Ar2, q2, Sz2, M2, H2, G2⟩ := id VV
  have pre3 : Go p e bl s1 (mkF m 8 #[rv a1, iv n] [(.int ((((n - n).toUInt32 >>> ((31 : Int32) &&& 31).toUInt32).toInt32).toInt8.toInt32))]) s1 EF := fun t k => pre1 t (by
   refine X0.arraylength hx (hp e0 Ar2) (State.isArrayOf_alike hZ.alike Ar2.2.1) (g := (mkF m 2 #[rv a1, iv n] [(.ref a1), (.int n)])) rfl rfl (B d28_2) _ ?_
   rw [len_of Sz2 M2]
   refine XS.isub X0.here hx rfl (B d28_3) rfl ?_
   refine XS.bipush X0.here hx rfl (B d28_4) ?_
   refine XS.iushr X0.here hx rfl (B d28_6) rfl ?_
   exact XS.i2b X0.here hx rfl (B d28_7) rfl k)
  have hnr : Value.int (nar .byte ((((n - n).toUInt32 >>> ((31 : Int32) &&& 31).toUInt32).toInt32).toInt8.toInt32)) = (.int 0) := by rw [own_cd]
  exact fin1 X0 (v := some (.int 0)) hrt hlk (wl rfl) (wl rfl) (by rw [e0]; exact ⟨rfl, N0, rfl⟩) (fun fs hr => hEF ▸ pre3 _ (retN X0 hx (t := .byte) Bd.returns (by simp) (B d28_8) (hnr ▸ hr)))
abbrev rKKi : Room := { frames := 2, cells := 1, slots := 3, locals := 35 }
theorem d29_0 : decode jdk_42_method_149_code 0 = .ok (.aload_n 0, 1) := by decide +kernel
theorem d29_1 : decode jdk_42_method_149_code 1 = .ok (.invokespecial 1, 3) := by decide +kernel
theorem d29_4 : decode jdk_42_method_149_code 4 = .ok (.iload_n 3, 1) := by decide +kernel
theorem d29_5 : decode jdk_42_method_149_code 5 = .ok (.ifCond .ne 22, 3) := by decide +kernel
theorem d29_27 : decode jdk_42_method_149_code 27 = .ok (.getstatic 38, 3) := by decide +kernel
theorem d29_30 : decode jdk_42_method_149_code 30 = .ok (.ifCond .eq 28, 3) := by decide +kernel
theorem d29_33 : decode jdk_42_method_149_code 33 = .ok (.aload_n 1, 1) := by decide +kernel
theorem d29_34 : decode jdk_42_method_149_code 34 = .ok (.iload_n 2, 1) := by decide +kernel
theorem d29_35 : decode jdk_42_method_149_code 35 = .ok (.iload_n 3, 1) := by decide +kernel
theorem d29_36 : decode jdk_42_method_149_code 36 = .ok (.invokestatic 177, 3) := by decide +kernel
theorem d29_39 : decode jdk_42_method_149_code 39 = .ok (.astore 5, 2) := by decide +kernel
theorem d29_41 : decode jdk_42_method_149_code 41 = .ok (.aload_n 0, 1) := by decide +kernel
theorem d29_42 : decode jdk_42_method_149_code 42 = .ok (.aload 5, 2) := by decide +kernel
theorem d29_44 : decode jdk_42_method_149_code 44 = .ok (.iload_n 3, 1) := by decide +kernel
theorem d29_45 : decode jdk_42_method_149_code 45 = .ok (.invokestatic 47, 3) := by decide +kernel
theorem d29_48 : decode jdk_42_method_149_code 48 = .ok (.putfield 15, 3) := by decide +kernel
theorem d29_51 : decode jdk_42_method_149_code 51 = .ok (.aload_n 0, 1) := by decide +kernel
theorem d29_52 : decode jdk_42_method_149_code 52 = .ok (.aload 5, 2) := by decide +kernel
theorem d29_54 : decode jdk_42_method_149_code 54 = .ok (.putfield 9, 3) := by decide +kernel
theorem d29_57 : decode jdk_42_method_149_code 57 = .ok (.return_, 1) := by decide +kernel
theorem pd17 : parseMethodDescriptor "([CII)[B" = some ⟨[(.array .char), .int, .int], some (.array .byte)⟩ := by decide +kernel
theorem pd18 : parseMethodDescriptor "([BI)B" = some ⟨[(.array .byte), .int], some .byte⟩ := by decide +kernel
theorem efKi (m : MethodId) (a1 : Addr) (a2 : Addr) (n : Int32) : entryFrame m #[(.ref a1), (.ref a2), (.int 0), (.int n), .null] 6 = mkF m 0 #[rv a1, rv a2, iv 0, iv n, .val .null, .unset] [] := by first | (simp [entryFrame, mkF, argsToLocals, Value.category]; done) | rfl
def QKi (Z : State) (a1 : Addr) (a2 : Addr) (n : Int32) (cz : Int32) (fv : Value) (k1 : ClassId) (cs : List Int32) (h0 : Heap) (n0 : Nat) (v : Option Value) (h : Heap) (L : List Loc) : Prop := v = none ∧ Fr n0 L ∧ Keep h0 h [a1] ∧ ∃ b k, h0.size ≤ b ∧ StL Z h a1 b k n (i8s cs) 0 0
set_option maxRecDepth 65536 in
set_option maxHeartbeats 40000000 in
theorem rmKi (l : Launch) (Z : State) (a0 : Array Value) (hw : HW a0 Z) (ws : List Jvm.Cond) (a1 : Addr) (a2 : Addr) (n : Int32) (cz : Int32) (fv : Value) (k1 : ClassId) (cs : List Int32) (h0 : Heap) (n0 : Nat) (Z0 : n0 ≤ h0.size) (O0 : Old Z n0 h0) (J0 : Jd Z cz fv) (E1 : Exa Z h0 a1 "java/lang/String") (g_a1 : n0 ≤ a1) (F1 : Fld Z h0 a1 "java/lang/String" "value" "[B" .null) (F2 : Fld Z h0 a1 "java/lang/String" "coder" "B" (.int 0)) (V2 : Arv Z h0 a2 k1 .char n (BV cs) (.int 0)) (hn0 : ¬ n = 0) (hn : n.toInt = cs.length) (hl1 : 1 ≤ cs.length) (hl2 : cs.length ≤ 3) (hle : ∀ c ∈ cs, ¬ (255 : Int32) < c) :
    MF l Z mN29 jdk_42_method_149_code 6 none ws rKKi #[(.ref a1), (.ref a2), (.int 0), (.int n), .null] h0 (QKi Z a1 a2 n cz fv k1 cs h0 n0) := by
  refine MetFree.of_bodySF (plainFor_of_name pn0) hisR ?_
  intro p e s m args bl meth c s1 Bd hml0 hP hK
  obtain ⟨rfl, hZ, hh⟩ := hP
  have hx := Bd.exec
  have hby := Bd.bytes
  have B := @hb c _ hby
  have hM := fun {n : Nat} (h : n = 6) => h.trans hml0.symm
  have hown : s.vm.findClass "java/lang/String" = some m.cls := findClass_of_methodNamed Bd.named
  have hnm := (name_of_methodNamed Bd.named Bd.method).1
  have hlk : meth.locks = false := BodyLoose.notSynchronized Bd
  have X0 : Stand p l e rKKi s m #[(.ref a1), (.ref a2), (.int 0), (.int n), .null] bl meth c s1 [] 0 0 := Stand.of_body Bd
  have e0 : s1.heap = h0 := by rw [← hh, Bd.state]; rfl
  have N0 := Fr.nil n0
  obtain ⟨EF, hEF⟩ : ∃ f, f = entryFrame m #[(.ref a1), (.ref a2), (.int 0), (.int n), .null] 6 := ⟨_, rfl⟩
  have pre0 : Go p e bl s1 (mkF m 0 #[rv a1, rv a2, iv 0, iv n, .val .null, .unset] []) s1 EF := fun t k => by rw [hEF]; exact castTop (efKi m a1 a2 n) k
  have pre1 : Go p e bl s1 (mkF m 1 #[rv a1, rv a2, iv 0, iv n, .val .null, .unset] [(.ref a1)]) s1 EF := fun t k => pre0 t (by
   exact XS.aloadN X0.here hx rfl (B d29_0) rfl rfl k)
  obtain ⟨T2, X2, e2, st2⟩ := initO X0 hx hZ hown (hw _ (mW 15 rfl)) (hw _ (mW 16 rfl)) (hw _ (mW 17 rfl)) e0 (g := (mkF m 1 #[rv a1, rv a2, iv 0, iv n, .val .null, .unset] [(.ref a1)])) rfl (hM rfl) rfl (B d29_1) (by decide) (W := 0) (Nat.le_of_eq rfl) (by decide)
  have pre3 : Go p e bl T2 (mkF m 4 #[rv a1, rv a2, iv 0, iv n, .val .null, .unset] []) s1 EF := fun t k => pre1 t (st2 t k)
  have pre4 : Go p e bl T2 (mkF m 5 #[rv a1, rv a2, iv 0, iv n, .val .null, .unset] [(.int n)]) s1 EF := fun t k => pre3 t (by
   exact XS.iloadN X2.here hx rfl (B d29_4) rfl k)
  have pre5 : Go p e bl T2 (mkF m 27 #[rv a1, rv a2, iv 0, iv n, .val .null, .unset] []) s1 EF := fun t k => pre4 t (XS.ifYes X2.here hx rfl (pc0 := 5) (pc' := 27) rfl (B d29_5) rfl ((if0 _ _).trans (feq hn0).2) (by decide) (by decide) k)
  obtain ⟨T6, X6, e6, st6⟩ := getS2 X2 hx hZ hown (host := "") (Or.inl (hw _ (mW 18 rfl))) Via.refl e2 (J0.1.ext O0.2) (g := (mkF m 27 #[rv a1, rv a2, iv 0, iv n, .val .null, .unset] [])) rfl (B d29_27)
  have pre7 : Go p e bl T6 (mkF m 30 #[rv a1, rv a2, iv 0, iv n, .val .null, .unset] [(.int cz)]) s1 EF := fun t k => pre5 t (st6 t k)
  have pre8 : Go p e bl T6 (mkF m 33 #[rv a1, rv a2, iv 0, iv n, .val .null, .unset] []) s1 EF := fun t k => pre7 t (XS.ifNo X6.here hx rfl (B d29_30) rfl ((if0 _ _).trans (feq J0.2.1).1) k)
  have pre9 : Go p e bl T6 (mkF m 36 #[rv a1, rv a2, iv 0, iv n, .val .null, .unset] [(.int n), (.int 0), (.ref a2)]) s1 EF := fun t k => pre8 t (by
   refine XS.aloadN X6.here hx rfl (B d29_33) rfl rfl ?_
   refine XS.iloadN X6.here hx rfl (B d29_34) rfl ?_
   exact XS.iloadN X6.here hx rfl (B d29_35) rfl k)
  obtain ⟨_, _, ⟨T10, L10, k10, n10⟩, -, X10, ⟨Lc10, hQ10, l10, y10, z10⟩, st10⟩ := Jvm.LawKit.callS X6 hx (y := mN27) hown (mvT hZ (hw _ (mW 19 rfl))) (mvT hZ (hw _ (mW 20 rfl))) (mvT hZ (hw _ (mW 21 rfl))) (mvT hZ (hw _ (mW 22 rfl))) (by decide) (backOf (W := 0) (rmKB l Z a0 hw [] a2 cz fv k1 n cs h0 n0 Z0 O0 J0 V2 hn hl1 hl2 hle) hZ (hw _ (mW 22 rfl)) (hw _ (mW 21 rfl)) (by decide) (by decide)) (g := (mkF m 36 #[rv a1, rv a2, iv 0, iv n, .val .null, .unset] [(.int n), (.int 0), (.ref a2)])) rfl (hM rfl) (argsL := [(.ref a2), (.int 0), (.int n)]) (rest := []) (lenOf pd17 rfl) rfl (Nat.le_of_eq rfl) (B d29_36) (fun _ _ => ⟨rfl, e6, wl rfl, wl rfl⟩)
  dsimp only [Pt.U, Pt.locs, Pt.cells, Pt.slots] at X10 l10 y10 z10 st10 hQ10
  subst l10 y10 z10
  obtain ⟨bv, kb10, rfl, N10q, K10, hsz10, VB10⟩ := hQ10
  have N10 := Fr.app N0 N10q
  have pre11 : Go p e bl T10 (mkF m 39 #[rv a1, rv a2, iv 0, iv n, .val .null, .unset] [(.ref bv)]) s1 EF := fun t k => pre9 t (st10 t k)
  have O12 : Old Z n0 T10.heap := O0.keep K10 all0
  have Z12 : n0 ≤ T10.heap.size := Nat.le_trans Z0 K10.1
  have K12 : Keep h0 T10.heap [a1] := (Keep.refl h0 [a1]).trans K10 all0
  have g_bv : n0 ≤ bv := Nat.le_trans Z0 hsz10
  have sz_bv : h0.size ≤ bv := Nat.le_trans (Keep.refl h0 [a1]).1 hsz10
  have ne_a1_bv : a1 ≠ bv := Nat.ne_of_lt (Nat.lt_of_lt_of_le E1.lt hsz10)
  have pre13 : Go p e bl T10 (mkF m 45 #[rv a1, rv a2, iv 0, iv n, .val .null, rv bv] [(.int n), (.ref bv), (.ref a1)]) s1 EF := fun t k => pre11 t (by
   refine XS.astore X10.here hx rfl (B d29_39) rfl rfl (l' := #[rv a1, rv a2, iv 0, iv n, .val .null, rv bv]) rfl ?_
   refine XS.aloadN X10.here hx rfl (B d29_41) rfl rfl ?_
   refine XS.aload X10.here hx rfl (B d29_42) rfl rfl ?_
   exact XS.iloadN X10.here hx rfl (B d29_44) rfl k)
  obtain ⟨_, _, ⟨T14, L14, k14, n14⟩, -, X14, ⟨Lc14, hQ14, l14, y14, z14⟩, st14⟩ := Jvm.LawKit.callS X10 hx (y := mN28) hown (mvT hZ (hw _ (mW 27 rfl))) (mvT hZ (hw _ (mW 28 rfl))) (mvT hZ (hw _ (mW 21 rfl))) (mvT hZ (hw _ (mW 29 rfl))) (by decide) (backOf (W := 1) (rmKc l Z a0 hw [] bv n cz fv kb10 _ T10.heap n0 Z12 O12 J0 VB10) hZ (hw _ (mW 29 rfl)) (hw _ (mW 21 rfl)) (by decide) (by decide)) (g := (mkF m 45 #[rv a1, rv a2, iv 0, iv n, .val .null, rv bv] [(.int n), (.ref bv), (.ref a1)])) rfl (hM rfl) (argsL := [(.ref bv), (.int n)]) (rest := [(.ref a1)]) (lenOf pd18 rfl) rfl (Nat.le_of_eq rfl) (B d29_45) (fun _ _ => ⟨rfl, rfl, wl rfl, wl rfl⟩)
  dsimp only [Pt.U, Pt.locs, Pt.cells, Pt.slots] at X14 l14 y14 z14 st14 hQ14
  subst l14 y14 z14
  obtain ⟨rfl, N14q, hq14⟩ := hQ14
  have N14 := Fr.app N10 N14q
  have pre15 : Go p e bl T14 (mkF m 48 #[rv a1, rv a2, iv 0, iv n, .val .null, rv bv] [(.int 0), (.ref a1)]) s1 EF := fun t k => pre13 t (st14 t k)
  have e14 : T14.heap = T10.heap := hq14
  obtain ⟨T16, h16, X16, e16, W16, st16⟩ := putFN X14 hx hZ hown (hw _ (mW 30 rfl)) Via.refl e14 (F2.keep K10 nin0) (E1.keep K10) (Or.inr ⟨(hw _ (mW 31 rfl)), rfl, hnm⟩) (hw _ (mW 5 rfl)) (ty := .byte) (v' := (.int 0)) (by decide) rfl rfl (g := (mkF m 48 #[rv a1, rv a2, iv 0, iv n, .val .null, rv bv] [(.int 0), (.ref a1)])) rfl rfl (B d29_48)
  have pre17 : Go p e bl T16 (mkF m 51 #[rv a1, rv a2, iv 0, iv n, .val .null, rv bv] []) s1 EF := fun t k => pre15 t (st16 t k)
  have O18 : Old Z n0 h16 := O12.wr W16 g_a1
  have Z18 : n0 ≤ h16.size := Nat.le_trans Z12 (Keep.of_wr W16).1
  have K18 : Keep h0 h16 [a1] := K12.wr W16 (Or.inl (mg 0 rfl))
  have Fw16 := Fld.same W16 (F2.keep K10 nin0)
  have N16 := Fr.snoc X16 N14 g_a1
  have pre19 : Go p e bl T16 (mkF m 54 #[rv a1, rv a2, iv 0, iv n, .val .null, rv bv] [(.ref bv), (.ref a1)]) s1 EF := fun t k => pre17 t (by
   refine XS.aloadN X16.here hx rfl (B d29_51) rfl rfl ?_
   exact XS.aload X16.here hx rfl (B d29_52) rfl rfl k)
  obtain ⟨T20, h20, X20, e20, W20, st20⟩ := putF X16 hx hZ hown (host := "") (Or.inl (hw _ (mW 32 rfl))) Via.refl e16 (Fld.other W16 (F1.keep K10 nin0) (Or.inr (slot_ne (Or.inr (hw _ (mW 33 rfl))) (Or.inr (hw _ (mW 31 rfl))) (by decide) (t := (.array .byte)) (t' := .byte) (by decide) (by decide)))) ((E1.keep K10).wr W16) (Or.inr ⟨(hw _ (mW 33 rfl)), rfl, hnm⟩) (hw _ (mW 5 rfl)) (ty := (.array .byte)) (by decide) rfl rfl (g := (mkF m 54 #[rv a1, rv a2, iv 0, iv n, .val .null, rv bv] [(.ref bv), (.ref a1)])) rfl rfl (B d29_54)
  have pre21 : Go p e bl T20 (mkF m 57 #[rv a1, rv a2, iv 0, iv n, .val .null, rv bv] []) s1 EF := fun t k => pre19 t (st20 t k)
  have O22 : Old Z n0 h20 := O18.wr W20 g_a1
  have Z22 : n0 ≤ h20.size := Nat.le_trans Z18 (Keep.of_wr W20).1
  have K22 : Keep h0 h20 [a1] := K18.wr W20 (Or.inl (mg 0 rfl))
  have Fw20 := Fld.same W20 (Fld.other W16 (F1.keep K10 nin0) (Or.inr (slot_ne (Or.inr (hw _ (mW 33 rfl))) (Or.inr (hw _ (mW 31 rfl))) (by decide) (t := (.array .byte)) (t' := .byte) (by decide) (by decide))))
  have N20 := Fr.snoc X20 N16 g_a1
  exact fin1 X20 (v := none) (fun _ => rfl) hlk (wl rfl) (wl rfl) (by rw [e20]; exact ⟨rfl, N20, K22, _, _, sz_bv, ⟨(((E1.keep K10).wr W16).wr W20), (Fld.other W20 Fw16 (Or.inr (slot_ne (Or.inr (hw _ (mW 31 rfl))) (Or.inr (hw _ (mW 33 rfl))) (by decide) (t := .byte) (t' := (.array .byte)) (by decide) (by decide)))), Fw20, ((VB10.other W16 (Ne.symm ne_a1_bv)).other W20 (Ne.symm ne_a1_bv)), trivial, ne_a1_bv⟩⟩) (fun fs hr => hEF ▸ pre21 _ (X20.returnOut hx Bd.returns (B d29_57) hr))
abbrev rKKj : Room := { frames := 3, cells := 1, slots := 3, locals := 52 }
theorem d30_0 : decode jdk_42_method_3_code 0 = .ok (.aload_n 0, 1) := by decide +kernel
theorem d30_1 : decode jdk_42_method_3_code 1 = .ok (.aload_n 1, 1) := by decide +kernel
theorem d30_2 : decode jdk_42_method_3_code 2 = .ok (.iconst 0, 1) := by decide +kernel
theorem d30_3 : decode jdk_42_method_3_code 3 = .ok (.aload_n 1, 1) := by decide +kernel
theorem d30_4 : decode jdk_42_method_3_code 4 = .ok (.arraylength, 1) := by decide +kernel
theorem d30_5 : decode jdk_42_method_3_code 5 = .ok (.aconst_null, 1) := by decide +kernel
theorem d30_6 : decode jdk_42_method_3_code 6 = .ok (.invokespecial 27, 3) := by decide +kernel
theorem d30_9 : decode jdk_42_method_3_code 9 = .ok (.return_, 1) := by decide +kernel
theorem pd19 : parseMethodDescriptor "([CIILjava/lang/Void;)V" = some ⟨[(.array .char), .int, .int, (.object "java/lang/Void")], none⟩ := by decide +kernel
theorem efKj (m : MethodId) (a1 : Addr) (a2 : Addr) : entryFrame m #[(.ref a1), (.ref a2)] 2 = mkF m 0 #[rv a1, rv a2] [] := by first | (simp [entryFrame, mkF, argsToLocals, Value.category]; done) | rfl
def QKj (Z : State) (a1 : Addr) (a2 : Addr) (cz : Int32) (fv : Value) (n : Int32) (k1 : ClassId) (cs : List Int32) (h0 : Heap) (n0 : Nat) (v : Option Value) (h : Heap) (L : List Loc) : Prop := v = none ∧ Fr n0 L ∧ Keep h0 h [a1] ∧ ∃ b k, h0.size ≤ b ∧ StL Z h a1 b k n (i8s cs) 0 0
set_option maxRecDepth 65536 in
set_option maxHeartbeats 40000000 in
theorem rmKj (l : Launch) (Z : State) (a0 : Array Value) (hw : HW a0 Z) (ws : List Jvm.Cond) (a1 : Addr) (a2 : Addr) (cz : Int32) (fv : Value) (n : Int32) (k1 : ClassId) (cs : List Int32) (h0 : Heap) (n0 : Nat) (Z0 : n0 ≤ h0.size) (O0 : Old Z n0 h0) (J0 : Jd Z cz fv) (E1 : Exa Z h0 a1 "java/lang/String") (g_a1 : n0 ≤ a1) (F1 : Fld Z h0 a1 "java/lang/String" "value" "[B" .null) (F2 : Fld Z h0 a1 "java/lang/String" "coder" "B" (.int 0)) (V2 : Arv Z h0 a2 k1 .char n (BV cs) (.int 0)) (hn0 : ¬ n = 0) (hn : n.toInt = cs.length) (hl1 : 1 ≤ cs.length) (hl2 : cs.length ≤ 3) (hle : ∀ c ∈ cs, ¬ (255 : Int32) < c) :
    MF l Z mN30 jdk_42_method_3_code 2 none ws rKKj #[(.ref a1), (.ref a2)] h0 (QKj Z a1 a2 cz fv n k1 cs h0 n0) := by
  refine MetFree.of_bodySF (plainFor_of_name pn0) hisR ?_
  intro p e s m args bl meth c s1 Bd hml0 hP hK
  obtain ⟨rfl, hZ, hh⟩ := hP
  have hx := Bd.exec
  have hby := Bd.bytes
  have B := @hb c _ hby
  have hM := fun {n : Nat} (h : n = 2) => h.trans hml0.symm
  have hown : s.vm.findClass "java/lang/String" = some m.cls := findClass_of_methodNamed Bd.named
  have hlk : meth.locks = false := BodyLoose.notSynchronized Bd
  have X0 : Stand p l e rKKj s m #[(.ref a1), (.ref a2)] bl meth c s1 [] 0 0 := Stand.of_body Bd
  have e0 : s1.heap = h0 := by rw [← hh, Bd.state]; rfl
  have N0 := Fr.nil n0
  obtain ⟨EF, hEF⟩ : ∃ f, f = entryFrame m #[(.ref a1), (.ref a2)] 2 := ⟨_, rfl⟩
  have pre0 : Go p e bl s1 (mkF m 0 #[rv a1, rv a2] []) s1 EF := fun t k => by rw [hEF]; exact castTop (efKj m a1 a2) k
  have pre1 : Go p e bl s1 (mkF m 4 #[rv a1, rv a2] [(.ref a2), (.int 0), (.ref a2), (.ref a1)]) s1 EF := fun t k => pre0 t (by
   refine XS.aloadN X0.here hx rfl (B d30_0) rfl rfl ?_
   refine XS.aloadN X0.here hx rfl (B d30_1) rfl rfl ?_
   refine XS.iconst X0.here hx rfl (B d30_2) ?_
   exact XS.aloadN X0.here hx rfl (B d30_3) rfl rfl k)
  obtain ⟨cl2, Ar2, q2, Sz2, M2, H2, G2⟩ := id V2
  have pre3 : Go p e bl s1 (mkF m 6 #[rv a1, rv a2] [.null, (.int n), (.int 0), (.ref a2), (.ref a1)]) s1 EF := fun t k => pre1 t (by
   refine X0.arraylength hx (hp e0 Ar2) (State.isArrayOf_alike hZ.alike Ar2.2.1) (g := (mkF m 4 #[rv a1, rv a2] [(.ref a2), (.int 0), (.ref a2), (.ref a1)])) rfl rfl (B d30_4) _ ?_
   rw [len_of Sz2 M2]
   exact XS.aconstNull X0.here hx rfl (B d30_5) k)
  obtain ⟨_, _, ⟨T4, L4, k4, n4⟩, -, X4, ⟨Lc4, hQ4, l4, y4, z4⟩, st4⟩ := X0.specialBack hx (y := mN29) rfl hown (mvT hZ (hw _ (mW 11 rfl))) (mvT hZ (hw _ (mW 12 rfl))) (mvT hZ (hw _ (mW 14 rfl))) (by decide) (backOf (W := 0) (rmKi l Z a0 hw [] a1 a2 n cz fv k1 cs h0 n0 Z0 O0 J0 E1 g_a1 F1 F2 V2 hn0 hn hl1 hl2 hle) hZ (hw _ (mW 14 rfl)) (hw _ (mW 6 rfl)) (by decide) (by decide)) (g := (mkF m 6 #[rv a1, rv a2] [.null, (.int n), (.int 0), (.ref a2), (.ref a1)])) rfl (hM rfl) (Steps.refl _) (a := a1) (argsL := [(.ref a2), (.int 0), (.int n), .null]) (rest := []) (lenOf pd19 rfl) rfl (Nat.le_of_eq rfl) (B d30_6) (fun _ _ => ⟨rfl, e0, wl rfl, wl rfl⟩)
  dsimp only [Pt.U, Pt.locs, Pt.cells, Pt.slots] at X4 l4 y4 z4 st4 hQ4
  subst l4 y4 z4
  obtain ⟨rfl, N4q, K4, bv4, kb4, hsz4, SF4⟩ := hQ4
  have N4 := Fr.app N0 N4q
  have pre5 : Go p e bl T4 (mkF m 9 #[rv a1, rv a2] []) s1 EF := fun t k => pre3 t (st4.trans k)
  have O6 : Old Z n0 T4.heap := O0.keep K4 (allS g_a1 all0)
  have Z6 : n0 ≤ T4.heap.size := Nat.le_trans Z0 K4.1
  have K6 : Keep h0 T4.heap [a1] := (Keep.refl h0 [a1]).trans K4 (allS (Or.inl (mg 0 rfl)) all0)
  exact fin1 X4 (v := none) (fun _ => rfl) hlk (wl rfl) (wl rfl) (by exact ⟨rfl, N4, K6, _, _, hsz4, SF4⟩) (fun fs hr => hEF ▸ pre5 _ (X4.returnOut hx Bd.returns (B d30_9) hr))
theorem own_safe {Z : State} {EL : List (String × Nat)} {vm : Vm} {h : Heap} {x : Addr} (hal : Z.vm.Alike vm) (E : Exa Z h x "java/lang/String") (F : Fld Z h x "java/lang/String" "value" "[B" .null) : Safe Z EL vm h x := fun B => by
  obtain ⟨p, -, u, a, -, q, -, G, rfl | rfl⟩ := B
  · obtain ⟨cell, cf, k, i, f, h1, h2, h3, h4, h5, h6, h7⟩ := F
    have e : h[Jvm.Free.SB.SQ.sa q]? = some (Jvm.Free.SB.SQ.sC q) := G.ha
    cases e.symm.trans h1
    obtain ⟨cS, ⟨⟨-, -, -, ⟨c1, k1, i1, f1, -⟩, -, -, -, v1, -⟩, -⟩, -⟩ := G
    obtain ⟨k3, e3, -⟩ := State.fieldFound?_setVm (s := Z) hal h2
    have e4 := (show (Wst Z vm h).fieldFound? "java/lang/String" "value" "[B" = _ from e3).symm.trans f1
    simp only [Option.some.injEq, Prod.mk.injEq] at e4
    rw [e4.2.2.2, v1] at h7
    cases h7
  · obtain ⟨cell, k, e1, e2, e3, -, -⟩ := E
    cases (show h[Jvm.Free.SB.SQ.sd q]? = some (Jvm.Free.SB.SQ.SA q) from G.hd).symm.trans e1
    obtain ⟨cS, -, -, f, -⟩ := G
    have f' : vm.findClass "[B" = some (Jvm.Free.SB.SQ.SA q).cls := f
    rw [hal.findClass] at f'
    obtain ⟨k1, q1, q2⟩ := Vm.findClass_spec f'
    obtain ⟨k2, q3, q4⟩ := Vm.findClass_spec e2
    cases q1.symm.trans q3
    exact absurd (q2.symm.trans q4) (by decide)
abbrev rKKi0 : Room := { frames := 1, cells := 4, slots := 8, locals := 12 }
theorem d29_8 : decode jdk_42_method_149_code 8 = .ok (.aload_n 0, 1) := by decide +kernel
theorem d29_9 : decode jdk_42_method_149_code 9 = .ok (.ldc 7, 2) := by decide +kernel
theorem d29_11 : decode jdk_42_method_149_code 11 = .ok (.getfield 9, 3) := by decide +kernel
theorem d29_14 : decode jdk_42_method_149_code 14 = .ok (.putfield 9, 3) := by decide +kernel
theorem d29_17 : decode jdk_42_method_149_code 17 = .ok (.aload_n 0, 1) := by decide +kernel
theorem d29_18 : decode jdk_42_method_149_code 18 = .ok (.ldc 7, 2) := by decide +kernel
theorem d29_20 : decode jdk_42_method_149_code 20 = .ok (.getfield 15, 3) := by decide +kernel
theorem d29_23 : decode jdk_42_method_149_code 23 = .ok (.putfield 15, 3) := by decide +kernel
theorem d29_26 : decode jdk_42_method_149_code 26 = .ok (.return_, 1) := by decide +kernel
theorem efKi0 (m : MethodId) (a1 : Addr) (a2 : Addr) : entryFrame m #[(.ref a1), (.ref a2), (.int 0), (.int 0), .null] 6 = mkF m 0 #[rv a1, rv a2, iv 0, iv 0, .val .null, .unset] [] := by first | (simp [entryFrame, mkF, argsToLocals, Value.category]; done) | rfl
def QKi0 (Z : State) (a1 : Addr) (a2 : Addr) (cz : Int32) (fv : Value) (k1 : ClassId) (h0 : Heap) (n0 : Nat) (v : Option Value) (h : Heap) (L : List Loc) : Prop := v = none ∧ Fr n0 L ∧ Keep h0 h [a1] ∧ ∃ b k, StL Z h a1 b k (0 : Int32) [] 0 0
set_option maxRecDepth 65536 in
set_option maxHeartbeats 40000000 in
theorem rmKi0 (l : Launch) (Z : State) (a0 : Array Value) (hw : HW a0 Z) (ws : List Jvm.Cond) (a1 : Addr) (a2 : Addr) (cz : Int32) (fv : Value) (k1 : ClassId) (h0 : Heap) (n0 : Nat) (Z0 : n0 ≤ h0.size) (O0 : Old Z n0 h0) (J0 : Jd Z cz fv) (E1 : Exa Z h0 a1 "java/lang/String") (g_a1 : n0 ≤ a1) (F1 : Fld Z h0 a1 "java/lang/String" "value" "[B" .null) (F2 : Fld Z h0 a1 "java/lang/String" "coder" "B" (.int 0)) (V2 : Arv Z h0 a2 k1 .char (0 : Int32) [] (.int 0)) :
    MetFree l mN29 (head1 (Jvm.Cond.code mN29 jdk_42_method_149_code 6 none :: ws) rKKi0) (fun a U => a = #[(.ref a1), (.ref a2), (.int 0), (.int 0), .null] ∧ Z.Warmed39 U.vm ∧ U.heap = h0 ∧ CHv Z [("com/example/picketline/picketline/io/InputException", 29), ("java/lang/String", 7)] U.vm h0) (fun _ _ _ _ _ => True) (fun _ U o U' => ∃ v L, o = .returned v ∧ QKi0 Z a1 a2 cz fv k1 h0 n0 v U'.heap L ∧ CHr Z [("com/example/picketline/picketline/io/InputException", 29), ("java/lang/String", 7)] U.vm U.heap U'.vm U'.heap ∧ ReturnedEndW U o U' L rKKi0.cells rKKi0.slots) := by
  refine MetFree.of_bodySF (plainFor_of_name pn0) hisR ?_
  intro p e s m args bl meth c s1 Bd hml0 hP hK
  obtain ⟨rfl, hZ, hh, hC⟩ := hP
  have hx := Bd.exec
  have hby := Bd.bytes
  have B := @hb c _ hby
  have hM := fun {n : Nat} (h : n = 6) => h.trans hml0.symm
  have hown : s.vm.findClass "java/lang/String" = some m.cls := findClass_of_methodNamed Bd.named
  have hnm := (name_of_methodNamed Bd.named Bd.method).1
  have X0 : Stand p l e rKKi0 (s.setVm s.vm) m #[(.ref a1), (.ref a2), (.int 0), (.int 0), .null] bl meth c s1 [] 0 0 := Stand.of_body Bd
  have e0 : s1.heap = h0 := by rw [← hh, Bd.state]; rfl
  have N0 := Fr.nil n0
  obtain ⟨EF, hEF⟩ : ∃ f, f = entryFrame m #[(.ref a1), (.ref a2), (.int 0), (.int 0), .null] 6 := ⟨_, rfl⟩
  have pre0 : Go p e bl s1 (mkF m 0 #[rv a1, rv a2, iv 0, iv 0, .val .null, .unset] []) s1 EF := fun t k => by rw [hEF]; exact castTop (efKi0 m a1 a2) k
  have hZ0 : Z.Warmed39 (s.setVm s.vm).vm := hZ
  have hown0 : (s.setVm s.vm).vm.findClass "java/lang/String" = some m.cls := hown
  have hS0 : s.Since s.vm s.heap.size := (State.WarmedH.refl s).since _
  have hk0 : s.heap.size ≤ h0.size := by rw [← hh]; exact Nat.le_refl _
  have sfa : Safe Z [("com/example/picketline/picketline/io/InputException", 29), ("java/lang/String", 7)] s.vm h0 a1 := own_safe hZ0.alike E1 F1
  have pre1 : Go p e bl s1 (mkF m 1 #[rv a1, rv a2, iv 0, iv 0, .val .null, .unset] [(.ref a1)]) s1 EF := fun t k => pre0 t (by
   exact XS.aloadN X0.here hx rfl (B d29_0) rfl rfl k)
  obtain ⟨T2, X2, e2, st2⟩ := initO X0 hx hZ0 hown0 (hw _ (mW 15 rfl)) (hw _ (mW 16 rfl)) (hw _ (mW 17 rfl)) e0 (g := (mkF m 1 #[rv a1, rv a2, iv 0, iv 0, .val .null, .unset] [(.ref a1)])) rfl (hM rfl) rfl (B d29_1) (by decide) (W := 0) (Nat.le_of_eq rfl) (by decide)
  have pre3 : Go p e bl T2 (mkF m 4 #[rv a1, rv a2, iv 0, iv 0, .val .null, .unset] []) s1 EF := fun t k => pre1 t (st2 t k)
  have pre4 : Go p e bl T2 (mkF m 5 #[rv a1, rv a2, iv 0, iv 0, .val .null, .unset] [(.int 0)]) s1 EF := fun t k => pre3 t (by
   exact XS.iloadN X2.here hx rfl (B d29_4) rfl k)
  have pre5 : Go p e bl T2 (mkF m 8 #[rv a1, rv a2, iv 0, iv 0, .val .null, .unset] []) s1 EF := fun t k => pre4 t (XS.ifNo X2.here hx rfl (B d29_5) rfl ((if0 _ _).trans (teq (by decide : (0 : Int32) = (0 : Int32))).2) k)
  have pre6 : Go p e bl T2 (mkF m 9 #[rv a1, rv a2, iv 0, iv 0, .val .null, .unset] [(.ref a1)]) s1 EF := fun t k => pre5 t (by
   exact XS.aloadN X2.here hx rfl (B d29_8) rfl rfl k)
  have slt7_a1 := E1.lt
  obtain ⟨a7, T7, h7, k7, b7, kc7, X7, e7, Et7, hS7, hk7, hZ7, hown7, LE7, LC7, LF7, LV7, lt7, ltb7, A7, Lt7, sfe7, st7⟩ := ldcCH X2 hx hZ0 hown0 (hw _ (mW 34 rfl)) (own_wS hw) e2 hS0 hk0 (own_EW hw) (mg 1 rfl) hC (vs := []) (z := (0 : Int32)) (by decide +kernel) (by decide) (by decide) (g := (mkF m 9 #[rv a1, rv a2, iv 0, iv 0, .val .null, .unset] [(.ref a1)])) rfl (B d29_9) (n := 0) (by decide) (by decide) (by decide) (by decide)
  have pre8 : Go p e bl T7 (mkF m 11 #[rv a1, rv a2, iv 0, iv 0, .val .null, .unset] [(.ref a7), (.ref a1)]) s1 EF := fun t k => pre6 t (st7 t k)
  have O9 : Old Z n0 h7 := O0.ext Et7
  have Z9 : n0 ≤ h7.size := Nat.le_trans Z0 Et7.1
  have K9 : Keep h0 h7 [a1] := (Keep.refl h0 [a1]).ext Et7
  have sg7_a1 := A7.safe slt7_a1 sfa
  have nx7_a1 := sfe7 a1 sg7_a1
  have R7 := (CHr.refl hC).trans A7
  obtain ⟨T10, X10, e10, st10⟩ := getF X7 hx hZ7 hown7 (host := "") (Or.inl (hw _ (mW 32 rfl))) Via.refl e7 LF7 (g := (mkF m 11 #[rv a1, rv a2, iv 0, iv 0, .val .null, .unset] [(.ref a7), (.ref a1)])) rfl rfl (B d29_11)
  have pre11 : Go p e bl T10 (mkF m 14 #[rv a1, rv a2, iv 0, iv 0, .val .null, .unset] [(.ref b7), (.ref a1)]) s1 EF := fun t k => pre8 t (st10 t k)
  obtain ⟨T12, h12, X12, e12, W12, st12⟩ := putF X10 hx hZ7 hown7 (host := "") (Or.inl (hw _ (mW 32 rfl))) Via.refl e10 (F1.ext Et7) (E1.ext Et7) (Or.inr ⟨(hw _ (mW 33 rfl)), rfl, hnm⟩) (hw _ (mW 5 rfl)) (ty := (.array .byte)) (by decide) rfl rfl (g := (mkF m 14 #[rv a1, rv a2, iv 0, iv 0, .val .null, .unset] [(.ref b7), (.ref a1)])) rfl rfl (B d29_14)
  have pre13 : Go p e bl T12 (mkF m 17 #[rv a1, rv a2, iv 0, iv 0, .val .null, .unset] []) s1 EF := fun t k => pre11 t (st12 t k)
  have O14 : Old Z n0 h12 := O9.wr W12 g_a1
  have Z14 : n0 ≤ h12.size := Nat.le_trans Z9 (Keep.of_wr W12).1
  have hk14 := Nat.le_trans hk7 (Keep.of_wr W12).1
  have C14 := CHv.wr W12 sg7_a1 A7.1
  have R14 := R7.trans (CHr.wr W12 sg7_a1 A7.1)
  have sf14_a1 := Safe.wr W12 sg7_a1 A7.1 sg7_a1
  have K14 : Keep h0 h12 [a1] := K9.wr W12 (Or.inl (mg 0 rfl))
  have Fw12 := Fld.same W12 (F1.ext Et7)
  have N12 := Fr.snoc X12 N0 g_a1
  have pre15 : Go p e bl T12 (mkF m 18 #[rv a1, rv a2, iv 0, iv 0, .val .null, .unset] [(.ref a1)]) s1 EF := fun t k => pre13 t (by
   exact XS.aloadN X12.here hx rfl (B d29_17) rfl rfl k)
  have slt16_a1 := ((E1.ext Et7).wr W12).lt
  obtain ⟨a16, T16, h16, k16, b16, kc16, X16, e16, Et16, hS16, hk16, hZ16, hown16, LE16, LC16, LF16, LV16, lt16, ltb16, A16, Lt16, sfe16, st16⟩ := ldcCH X12 hx hZ7 hown7 (hw _ (mW 34 rfl)) (own_wS hw) e12 hS7 hk14 (own_EW hw) (mg 1 rfl) C14 (vs := []) (z := (0 : Int32)) (by decide +kernel) (by decide) (by decide) (g := (mkF m 18 #[rv a1, rv a2, iv 0, iv 0, .val .null, .unset] [(.ref a1)])) rfl (B d29_18) (n := 0) (by decide) (by decide) (by decide) (by decide)
  have pre17 : Go p e bl T16 (mkF m 20 #[rv a1, rv a2, iv 0, iv 0, .val .null, .unset] [(.ref a16), (.ref a1)]) s1 EF := fun t k => pre15 t (st16 t k)
  have O18 : Old Z n0 h16 := O14.ext Et16
  have Z18 : n0 ≤ h16.size := Nat.le_trans Z14 Et16.1
  have K18 : Keep h0 h16 [a1] := K14.ext Et16
  have sg16_a1 := A16.safe slt16_a1 sf14_a1
  have nx16_a1 := sfe16 a1 sg16_a1
  have R16 := R14.trans A16
  obtain ⟨T19, X19, e19, st19⟩ := getF X16 hx hZ16 hown16 (host := "") (Or.inl (hw _ (mW 30 rfl))) Via.refl e16 LC16 (g := (mkF m 20 #[rv a1, rv a2, iv 0, iv 0, .val .null, .unset] [(.ref a16), (.ref a1)])) rfl rfl (B d29_20)
  have pre20 : Go p e bl T19 (mkF m 23 #[rv a1, rv a2, iv 0, iv 0, .val .null, .unset] [(.int 0), (.ref a1)]) s1 EF := fun t k => pre17 t (st19 t k)
  obtain ⟨T21, h21, X21, e21, W21, st21⟩ := putFN X19 hx hZ16 hown16 (hw _ (mW 30 rfl)) Via.refl e19 ((Fld.other W12 (F2.ext Et7) (Or.inr (slot_ne (Or.inr (hw _ (mW 31 rfl))) (Or.inr (hw _ (mW 33 rfl))) (by decide) (t := .byte) (t' := (.array .byte)) (by decide) (by decide)))).ext Et16) (((E1.ext Et7).wr W12).ext Et16) (Or.inr ⟨(hw _ (mW 31 rfl)), rfl, hnm⟩) (hw _ (mW 5 rfl)) (ty := .byte) (v' := (.int 0)) (by decide) rfl rfl (g := (mkF m 23 #[rv a1, rv a2, iv 0, iv 0, .val .null, .unset] [(.int 0), (.ref a1)])) rfl rfl (B d29_23)
  have pre22 : Go p e bl T21 (mkF m 26 #[rv a1, rv a2, iv 0, iv 0, .val .null, .unset] []) s1 EF := fun t k => pre20 t (st21 t k)
  have O23 : Old Z n0 h21 := O18.wr W21 g_a1
  have Z23 : n0 ≤ h21.size := Nat.le_trans Z18 (Keep.of_wr W21).1
  have hk23 := Nat.le_trans hk16 (Keep.of_wr W21).1
  have C23 := CHv.wr W21 sg16_a1 A16.1
  have R23 := R16.trans (CHr.wr W21 sg16_a1 A16.1)
  have sf23_a1 := Safe.wr W21 sg16_a1 A16.1 sg16_a1
  have K23 : Keep h0 h21 [a1] := K18.wr W21 (Or.inl (mg 0 rfl))
  have Fw21 := Fld.same W21 ((Fld.other W12 (F2.ext Et7) (Or.inr (slot_ne (Or.inr (hw _ (mW 31 rfl))) (Or.inr (hw _ (mW 33 rfl))) (by decide) (t := .byte) (t' := (.array .byte)) (by decide) (by decide)))).ext Et16)
  have N21 := Fr.snoc X21 N12 g_a1
  obtain ⟨fs, hr, hrun, hended, hend1, hend2, hend3, hsame⟩ := X21.leaveW hS16 (by rw [e21]; exact hk23) (v := none) (fun _ => rfl)
  have hCH : CHr Z [("com/example/picketline/picketline/io/InputException", 29), ("java/lang/String", 7)] s.vm s.heap T21.vm T21.heap := by rw [hh, e21]; exact R23.trans (CHv.at X21 hZ16 (own_EW hw) C23)
  refine ⟨_, _, hEF ▸ pre22 _ (X21.returnOut hx Bd.returns (B d29_26) hr), hrun, hended, _, _, rfl, ?_, hCH, hend1, hend2, hend3, hsame.mono (by decide) (by decide)⟩
  show QKi0 Z a1 a2 cz fv k1 h0 n0 _ T21.heap _
  rw [e21]
  exact ⟨rfl, N21, K23, _, _, ⟨((((E1.ext Et7).wr W12).ext Et16).wr W21), Fw21, (Fld.other W21 (Fw12.ext Et16) (Or.inr (slot_ne (Or.inr (hw _ (mW 33 rfl))) (Or.inr (hw _ (mW 31 rfl))) (by decide) (t := (.array .byte)) (t' := .byte) (by decide) (by decide)))), (((LV7.other W12 (Ne.symm nx7_a1.2)).ext Et16).other W21 (Ne.symm nx7_a1.2)), trivial, nx7_a1.2⟩⟩
abbrev rKKj0 : Room := { frames := 2, cells := 4, slots := 8, locals := 29 }
theorem efKj0 (m : MethodId) (a1 : Addr) (a2 : Addr) : entryFrame m #[(.ref a1), (.ref a2)] 2 = mkF m 0 #[rv a1, rv a2] [] := by first | (simp [entryFrame, mkF, argsToLocals, Value.category]; done) | rfl
def QKj0 (Z : State) (a1 : Addr) (a2 : Addr) (cz : Int32) (fv : Value) (k1 : ClassId) (h0 : Heap) (n0 : Nat) (v : Option Value) (h : Heap) (L : List Loc) : Prop := v = none ∧ Fr n0 L ∧ Keep h0 h [a1] ∧ ∃ b k, StL Z h a1 b k (0 : Int32) [] 0 0
set_option maxRecDepth 65536 in
set_option maxHeartbeats 40000000 in
theorem rmKj0 (l : Launch) (Z : State) (a0 : Array Value) (hw : HW a0 Z) (ws : List Jvm.Cond) (a1 : Addr) (a2 : Addr) (cz : Int32) (fv : Value) (k1 : ClassId) (h0 : Heap) (n0 : Nat) (Z0 : n0 ≤ h0.size) (O0 : Old Z n0 h0) (J0 : Jd Z cz fv) (E1 : Exa Z h0 a1 "java/lang/String") (g_a1 : n0 ≤ a1) (F1 : Fld Z h0 a1 "java/lang/String" "value" "[B" .null) (F2 : Fld Z h0 a1 "java/lang/String" "coder" "B" (.int 0)) (V2 : Arv Z h0 a2 k1 .char (0 : Int32) [] (.int 0)) :
    MetFree l mN30 (head1 (Jvm.Cond.code mN30 jdk_42_method_3_code 2 none :: ws) rKKj0) (fun a U => a = #[(.ref a1), (.ref a2)] ∧ Z.Warmed39 U.vm ∧ U.heap = h0 ∧ CHv Z [("com/example/picketline/picketline/io/InputException", 29), ("java/lang/String", 7)] U.vm h0) (fun _ _ _ _ _ => True) (fun _ U o U' => ∃ v L, o = .returned v ∧ QKj0 Z a1 a2 cz fv k1 h0 n0 v U'.heap L ∧ CHr Z [("com/example/picketline/picketline/io/InputException", 29), ("java/lang/String", 7)] U.vm U.heap U'.vm U'.heap ∧ ReturnedEndW U o U' L rKKj0.cells rKKj0.slots) := by
  refine MetFree.of_bodySF (plainFor_of_name pn0) hisR ?_
  intro p e s m args bl meth c s1 Bd hml0 hP hK
  obtain ⟨rfl, hZ, hh, hC⟩ := hP
  have hx := Bd.exec
  have hby := Bd.bytes
  have B := @hb c _ hby
  have hM := fun {n : Nat} (h : n = 2) => h.trans hml0.symm
  have hown : s.vm.findClass "java/lang/String" = some m.cls := findClass_of_methodNamed Bd.named
  have X0 : Stand p l e rKKj0 (s.setVm s.vm) m #[(.ref a1), (.ref a2)] bl meth c s1 [] 0 0 := Stand.of_body Bd
  have e0 : s1.heap = h0 := by rw [← hh, Bd.state]; rfl
  have N0 := Fr.nil n0
  obtain ⟨EF, hEF⟩ : ∃ f, f = entryFrame m #[(.ref a1), (.ref a2)] 2 := ⟨_, rfl⟩
  have pre0 : Go p e bl s1 (mkF m 0 #[rv a1, rv a2] []) s1 EF := fun t k => by rw [hEF]; exact castTop (efKj0 m a1 a2) k
  have hZ0 : Z.Warmed39 (s.setVm s.vm).vm := hZ
  have hown0 : (s.setVm s.vm).vm.findClass "java/lang/String" = some m.cls := hown
  have hS0 : s.Since s.vm s.heap.size := (State.WarmedH.refl s).since _
  have hk0 : s.heap.size ≤ h0.size := by rw [← hh]; exact Nat.le_refl _
  have sfa : Safe Z [("com/example/picketline/picketline/io/InputException", 29), ("java/lang/String", 7)] s.vm h0 a1 := own_safe hZ0.alike E1 F1
  have pre1 : Go p e bl s1 (mkF m 4 #[rv a1, rv a2] [(.ref a2), (.int 0), (.ref a2), (.ref a1)]) s1 EF := fun t k => pre0 t (by
   refine XS.aloadN X0.here hx rfl (B d30_0) rfl rfl ?_
   refine XS.aloadN X0.here hx rfl (B d30_1) rfl rfl ?_
   refine XS.iconst X0.here hx rfl (B d30_2) ?_
   exact XS.aloadN X0.here hx rfl (B d30_3) rfl rfl k)
  obtain ⟨cl2, Ar2, q2, Sz2, M2, H2, G2⟩ := id V2
  have pre3 : Go p e bl s1 (mkF m 6 #[rv a1, rv a2] [.null, (.int 0), (.int 0), (.ref a2), (.ref a1)]) s1 EF := fun t k => pre1 t (by
   refine X0.arraylength hx (hp e0 Ar2) (State.isArrayOf_alike hZ0.alike Ar2.2.1) (g := (mkF m 4 #[rv a1, rv a2] [(.ref a2), (.int 0), (.ref a2), (.ref a1)])) rfl rfl (B d30_4) _ ?_
   rw [len_of Sz2 M2]
   exact XS.aconstNull X0.here hx rfl (B d30_5) k)
  obtain ⟨_, _, ⟨T4, L4, k4, n4⟩, -, XQ4, hSQ4, hgQ4, ⟨Lc4, hQ4, l4, y4, z4, hCH4⟩, st4⟩ := X0.specialBackS hx (y := mN29) rfl hown0 (mvT hZ0 (hw _ (mW 11 rfl))) (mvT hZ0 (hw _ (mW 12 rfl))) (mvT hZ0 (hw _ (mW 14 rfl))) (by decide) (backOfSH (W := 0) (rmKi0 l Z a0 hw [] a1 a2 cz fv k1 h0 n0 Z0 O0 J0 E1 g_a1 F1 F2 V2) hZ0 (hw _ (mW 14 rfl)) (hw _ (mW 6 rfl)) (by decide) (by decide) (own_EW hw) hC) (g := (mkF m 6 #[rv a1, rv a2] [.null, (.int 0), (.int 0), (.ref a2), (.ref a1)])) rfl (hM rfl) (Steps.refl _) (a := a1) (argsL := [(.ref a2), (.int 0), (.int 0), .null]) (rest := []) (lenOf pd19 rfl) rfl (Nat.le_of_eq rfl) (B d30_6) (fun _ _ => ⟨rfl, e0, wl rfl, wl rfl⟩)
  dsimp only [Pt.U, Pt.locs, Pt.cells, Pt.slots] at XQ4 hSQ4 hgQ4 hCH4 l4 y4 z4 st4 hQ4
  subst l4 y4 z4
  obtain ⟨X4, hS4, hZ4, hown4⟩ := rebS hS0 (by rw [e0]; exact hk0) XQ4 hSQ4 hgQ4 hZ0 hown0
  obtain ⟨rfl, N4q, K4, bv4, kb4, SF4⟩ := hQ4
  have N4 := Fr.app N0 N4q
  have pre5 : Go p e bl T4 (mkF m 9 #[rv a1, rv a2] []) s1 EF := fun t k => pre3 t (st4.trans k)
  have hk4 := Nat.le_refl T4.heap.size
  have R4 := (CHr.refl hC).trans hCH4
  have O6 : Old Z n0 T4.heap := O0.keep K4 (allS g_a1 all0)
  have Z6 : n0 ≤ T4.heap.size := Nat.le_trans Z0 K4.1
  have K6 : Keep h0 T4.heap [a1] := (Keep.refl h0 [a1]).trans K4 (allS (Or.inl (mg 0 rfl)) all0)
  obtain ⟨fs, hr, hrun, hended, hend1, hend2, hend3, hsame⟩ := X4.leaveW hS4 hk4 (v := none) (fun _ => rfl)
  have hCH : CHr Z [("com/example/picketline/picketline/io/InputException", 29), ("java/lang/String", 7)] s.vm s.heap T4.vm T4.heap := by rw [hh]; exact R4.trans (CHv.at X4 hZ4 (own_EW hw) hCH4.1)
  refine ⟨_, _, hEF ▸ pre5 _ (X4.returnOut hx Bd.returns (B d30_9) hr), hrun, hended, _, _, rfl, ?_, hCH, hend1, hend2, hend3, hsame.mono (by decide) (by decide)⟩
  show QKj0 Z a1 a2 cz fv k1 h0 n0 _ T4.heap _
  exact ⟨rfl, N4, K6, _, _, SF4⟩
def okb (c : Int32) : Prop := 0 ≤ c.toInt ∧ c.toInt < 256
theorem okb.nc {c : Int32} (h : okb c) : nar .char c = c := own_nc h.1 (Int.lt_trans h.2 (by decide))
theorem okb.le {c : Int32} (h : okb c) : ¬ (255 : Int32) < c := by
  have e : (255 : Int32).toInt = 255 := by decide
  have := h.2
  rw [Int32.lt_iff_toInt_lt, e]; omega
theorem own_b255 (x : Int32) : okb (x &&& 255).toUInt32.toUInt16.toUInt32.toInt32 := by
  have h1 := c_mask x 255 8 (by decide) (by decide)
  have e : ((2 ^ 8 : Nat) : Int) = 256 := by decide
  rw [i2c_mask]; unfold okb; omega
theorem own_nm (u : Int32) : nar .char (u &&& 255) = u &&& 255 := by
  show ((u &&& 255).toUInt32.toUInt16.toUInt32.toInt32) = _
  rw [i2c_mask]
abbrev rKMk : Room := { frames := 4, cells := 6, slots := 12, locals := 66 }
theorem d31_0 : decode method_2_code 0 = .ok (.iload_n 0, 1) := by decide +kernel
theorem d31_1 : decode method_2_code 1 = .ok (.sipush 255, 3) := by decide +kernel
theorem d31_4 : decode method_2_code 4 = .ok (.iand, 1) := by decide +kernel
theorem d31_5 : decode method_2_code 5 = .ok (.i2c, 1) := by decide +kernel
theorem d31_6 : decode method_2_code 6 = .ok (.istore_n 2, 1) := by decide +kernel
theorem d31_7 : decode method_2_code 7 = .ok (.iload_n 0, 1) := by decide +kernel
theorem d31_8 : decode method_2_code 8 = .ok (.bipush 8, 2) := by decide +kernel
theorem d31_10 : decode method_2_code 10 = .ok (.iushr, 1) := by decide +kernel
theorem d31_11 : decode method_2_code 11 = .ok (.sipush 255, 3) := by decide +kernel
theorem d31_14 : decode method_2_code 14 = .ok (.iand, 1) := by decide +kernel
theorem d31_15 : decode method_2_code 15 = .ok (.i2c, 1) := by decide +kernel
theorem d31_16 : decode method_2_code 16 = .ok (.istore_n 3, 1) := by decide +kernel
theorem d31_17 : decode method_2_code 17 = .ok (.iload_n 0, 1) := by decide +kernel
theorem d31_18 : decode method_2_code 18 = .ok (.bipush 16, 2) := by decide +kernel
theorem d31_20 : decode method_2_code 20 = .ok (.iushr, 1) := by decide +kernel
theorem d31_21 : decode method_2_code 21 = .ok (.sipush 255, 3) := by decide +kernel
theorem d31_24 : decode method_2_code 24 = .ok (.iand, 1) := by decide +kernel
theorem d31_25 : decode method_2_code 25 = .ok (.i2c, 1) := by decide +kernel
theorem d31_26 : decode method_2_code 26 = .ok (.istore 4, 2) := by decide +kernel
theorem d31_28 : decode method_2_code 28 = .ok (.iload_n 1, 1) := by decide +kernel
theorem d31_29 : decode method_2_code 29 = .ok (.ifCond .ne 14, 3) := by decide +kernel
theorem d31_32 : decode method_2_code 32 = .ok (.new 7, 3) := by decide +kernel
theorem d31_35 : decode method_2_code 35 = .ok (.dup, 1) := by decide +kernel
theorem d31_36 : decode method_2_code 36 = .ok (.iconst 0, 1) := by decide +kernel
theorem d31_37 : decode method_2_code 37 = .ok (.newarray .char, 2) := by decide +kernel
theorem d31_39 : decode method_2_code 39 = .ok (.invokespecial 9, 3) := by decide +kernel
theorem d31_42 : decode method_2_code 42 = .ok (.areturn, 1) := by decide +kernel
theorem d31_43 : decode method_2_code 43 = .ok (.iload_n 1, 1) := by decide +kernel
theorem d31_44 : decode method_2_code 44 = .ok (.iconst 1, 1) := by decide +kernel
theorem d31_45 : decode method_2_code 45 = .ok (.if_icmp .ne 18, 3) := by decide +kernel
theorem d31_48 : decode method_2_code 48 = .ok (.new 7, 3) := by decide +kernel
theorem d31_51 : decode method_2_code 51 = .ok (.dup, 1) := by decide +kernel
theorem d31_52 : decode method_2_code 52 = .ok (.iconst 1, 1) := by decide +kernel
theorem d31_53 : decode method_2_code 53 = .ok (.newarray .char, 2) := by decide +kernel
theorem d31_55 : decode method_2_code 55 = .ok (.dup, 1) := by decide +kernel
theorem d31_56 : decode method_2_code 56 = .ok (.iconst 0, 1) := by decide +kernel
theorem d31_57 : decode method_2_code 57 = .ok (.iload_n 2, 1) := by decide +kernel
theorem d31_58 : decode method_2_code 58 = .ok (.castore, 1) := by decide +kernel
theorem d31_59 : decode method_2_code 59 = .ok (.invokespecial 9, 3) := by decide +kernel
theorem d31_62 : decode method_2_code 62 = .ok (.areturn, 1) := by decide +kernel
theorem d31_63 : decode method_2_code 63 = .ok (.iload_n 1, 1) := by decide +kernel
theorem d31_64 : decode method_2_code 64 = .ok (.iconst 2, 1) := by decide +kernel
theorem d31_65 : decode method_2_code 65 = .ok (.if_icmp .ne 22, 3) := by decide +kernel
theorem d31_68 : decode method_2_code 68 = .ok (.new 7, 3) := by decide +kernel
theorem d31_71 : decode method_2_code 71 = .ok (.dup, 1) := by decide +kernel
theorem d31_72 : decode method_2_code 72 = .ok (.iconst 2, 1) := by decide +kernel
theorem d31_73 : decode method_2_code 73 = .ok (.newarray .char, 2) := by decide +kernel
theorem d31_75 : decode method_2_code 75 = .ok (.dup, 1) := by decide +kernel
theorem d31_76 : decode method_2_code 76 = .ok (.iconst 0, 1) := by decide +kernel
theorem d31_77 : decode method_2_code 77 = .ok (.iload_n 2, 1) := by decide +kernel
theorem d31_78 : decode method_2_code 78 = .ok (.castore, 1) := by decide +kernel
theorem d31_79 : decode method_2_code 79 = .ok (.dup, 1) := by decide +kernel
theorem d31_80 : decode method_2_code 80 = .ok (.iconst 1, 1) := by decide +kernel
theorem d31_81 : decode method_2_code 81 = .ok (.iload_n 3, 1) := by decide +kernel
theorem d31_82 : decode method_2_code 82 = .ok (.castore, 1) := by decide +kernel
theorem d31_83 : decode method_2_code 83 = .ok (.invokespecial 9, 3) := by decide +kernel
theorem d31_86 : decode method_2_code 86 = .ok (.areturn, 1) := by decide +kernel
theorem d31_87 : decode method_2_code 87 = .ok (.new 7, 3) := by decide +kernel
theorem d31_90 : decode method_2_code 90 = .ok (.dup, 1) := by decide +kernel
theorem d31_91 : decode method_2_code 91 = .ok (.iconst 3, 1) := by decide +kernel
theorem d31_92 : decode method_2_code 92 = .ok (.newarray .char, 2) := by decide +kernel
theorem d31_94 : decode method_2_code 94 = .ok (.dup, 1) := by decide +kernel
theorem d31_95 : decode method_2_code 95 = .ok (.iconst 0, 1) := by decide +kernel
theorem d31_96 : decode method_2_code 96 = .ok (.iload_n 2, 1) := by decide +kernel
theorem d31_97 : decode method_2_code 97 = .ok (.castore, 1) := by decide +kernel
theorem d31_98 : decode method_2_code 98 = .ok (.dup, 1) := by decide +kernel
theorem d31_99 : decode method_2_code 99 = .ok (.iconst 1, 1) := by decide +kernel
theorem d31_100 : decode method_2_code 100 = .ok (.iload_n 3, 1) := by decide +kernel
theorem d31_101 : decode method_2_code 101 = .ok (.castore, 1) := by decide +kernel
theorem d31_102 : decode method_2_code 102 = .ok (.dup, 1) := by decide +kernel
theorem d31_103 : decode method_2_code 103 = .ok (.iconst 2, 1) := by decide +kernel
theorem d31_104 : decode method_2_code 104 = .ok (.iload 4, 2) := by decide +kernel
theorem d31_106 : decode method_2_code 106 = .ok (.castore, 1) := by decide +kernel
theorem d31_107 : decode method_2_code 107 = .ok (.invokespecial 9, 3) := by decide +kernel
theorem d31_110 : decode method_2_code 110 = .ok (.areturn, 1) := by decide +kernel
theorem pn7 : plainName "com/example/picketline/picketline/io/InputExceptionWithinPinLaw" = true := by first | (simp [plainName, overriddenIn]; done) | decide +kernel
theorem pd20 : parseMethodDescriptor "([C)V" = some ⟨[(.array .char)], none⟩ := by decide +kernel
theorem efMk (m : MethodId) (p1 : Int32) (p2 : Int32) : entryFrame m #[(.int p1), (.int p2)] 5 = mkF m 0 #[iv p1, iv p2, .unset, .unset, .unset] [] := by first | (simp [entryFrame, mkF, argsToLocals, Value.category]; done) | rfl
def QMk (Z : State) (p1 : Int32) (p2 : Int32) (cz : Int32) (fv : Value) (h0 : Heap) (n0 : Nat) (v : Option Value) (h : Heap) (L : List Loc) : Prop := ∃ b bb k bs, v = some (.ref b) ∧ Fr n0 L ∧ Keep h0 h [] ∧ h0.size ≤ b ∧ StL Z h b bb k p2 bs 0 0 ∧ p2.toInt = bs.length ∧ bs.length ≤ 3
set_option maxRecDepth 65536 in
set_option maxHeartbeats 40000000 in
theorem rmMk (l : Launch) (Z : State) (a0 : Array Value) (hw : HW a0 Z) (ws : List Jvm.Cond) (p1 : Int32) (p2 : Int32) (cz : Int32) (fv : Value) (h0 : Heap) (n0 : Nat) (Z0 : n0 ≤ h0.size) (O0 : Old Z n0 h0) (J0 : Jd Z cz fv) (hp : p2 = 0 ∨ p2 = 1 ∨ p2 = 2 ∨ p2 = 3) :
    MetFree l mN31 (head1 (Jvm.Cond.code mN31 method_2_code 5 (some (.object "java/lang/String")) :: ws) rKMk) (fun a U => a = #[(.int p1), (.int p2)] ∧ Z.Warmed39 U.vm ∧ U.heap = h0 ∧ CHv Z [("com/example/picketline/picketline/io/InputException", 29), ("java/lang/String", 7)] U.vm h0) (fun _ _ _ _ _ => True) (fun _ U o U' => ∃ v L, o = .returned v ∧ QMk Z p1 p2 cz fv h0 n0 v U'.heap L ∧ CHr Z [("com/example/picketline/picketline/io/InputException", 29), ("java/lang/String", 7)] U.vm U.heap U'.vm U'.heap ∧ ReturnedEndW U o U' L rKMk.cells rKMk.slots) := by
  refine MetFree.of_bodySF (plainFor_of_name pn7) hisR ?_
  intro p e s m args bl meth c s1 Bd hml0 hP hK
  obtain ⟨rfl, hZ, hh, hC⟩ := hP
  have hx := Bd.exec
  have hby := Bd.bytes
  have B := @hb c _ hby
  have hM := fun {n : Nat} (h : n = 5) => h.trans hml0.symm
  have hown : s.vm.findClass "com/example/picketline/picketline/io/InputExceptionWithinPinLaw" = some m.cls := findClass_of_methodNamed Bd.named
  have X0 : Stand p l e rKMk (s.setVm s.vm) m #[(.int p1), (.int p2)] bl meth c s1 [] 0 0 := Stand.of_body Bd
  have e0 : s1.heap = h0 := by rw [← hh, Bd.state]; rfl
  have N0 := Fr.nil n0
  obtain ⟨EF, hEF⟩ : ∃ f, f = entryFrame m #[(.int p1), (.int p2)] 5 := ⟨_, rfl⟩
  have pre0 : Go p e bl s1 (mkF m 0 #[iv p1, iv p2, .unset, .unset, .unset] []) s1 EF := fun t k => by rw [hEF]; exact castTop (efMk m p1 p2) k
  have hZ0 : Z.Warmed39 (s.setVm s.vm).vm := hZ
  have hown0 : (s.setVm s.vm).vm.findClass "com/example/picketline/picketline/io/InputExceptionWithinPinLaw" = some m.cls := hown
  have hS0 : s.Since s.vm s.heap.size := (State.WarmedH.refl s).since _
  have hk0 : s.heap.size ≤ h0.size := by rw [← hh]; exact Nat.le_refl _
  obtain ⟨c0, e_c0⟩ : ∃ z : Int32, z = ((p1 &&& (255 : Int32)).toUInt32.toUInt16.toUInt32.toInt32) := ⟨_, rfl⟩
  obtain ⟨c1, e_c1⟩ : ∃ z : Int32, z = ((((p1.toUInt32 >>> ((8 : Int32) &&& 31).toUInt32).toInt32) &&& (255 : Int32)).toUInt32.toUInt16.toUInt32.toInt32) := ⟨_, rfl⟩
  obtain ⟨c2, e_c2⟩ : ∃ z : Int32, z = ((((p1.toUInt32 >>> ((16 : Int32) &&& 31).toUInt32).toInt32) &&& (255 : Int32)).toUInt32.toUInt16.toUInt32.toInt32) := ⟨_, rfl⟩
  have pre1 : Go p e bl s1 (mkF m 28 #[iv p1, iv p2, iv c0, iv c1, iv c2] []) s1 EF := fun t k => pre0 t (by
   refine XS.iloadN X0.here hx rfl (B d31_0) rfl ?_
   refine XS.sipush X0.here hx rfl (B d31_1) ?_
   refine XS.iand X0.here hx rfl (B d31_4) rfl ?_
   refine XS.i2c X0.here hx rfl (B d31_5) rfl ?_
   refine XS.istoreN X0.here hx rfl (B d31_6) rfl (l' := #[iv p1, iv p2, iv c0, .unset, .unset]) (by rw [e_c0]; rfl) ?_
   refine XS.iloadN X0.here hx rfl (B d31_7) rfl ?_
   refine XS.bipush X0.here hx rfl (B d31_8) ?_
   refine XS.iushr X0.here hx rfl (B d31_10) rfl ?_
   refine XS.sipush X0.here hx rfl (B d31_11) ?_
   refine XS.iand X0.here hx rfl (B d31_14) rfl ?_
   refine XS.i2c X0.here hx rfl (B d31_15) rfl ?_
   refine XS.istoreN X0.here hx rfl (B d31_16) rfl (l' := #[iv p1, iv p2, iv c0, iv c1, .unset]) (by rw [e_c1]; rfl) ?_
   refine XS.iloadN X0.here hx rfl (B d31_17) rfl ?_
   refine XS.bipush X0.here hx rfl (B d31_18) ?_
   refine XS.iushr X0.here hx rfl (B d31_20) rfl ?_
   refine XS.sipush X0.here hx rfl (B d31_21) ?_
   refine XS.iand X0.here hx rfl (B d31_24) rfl ?_
   refine XS.i2c X0.here hx rfl (B d31_25) rfl ?_
   exact XS.istore X0.here hx rfl (B d31_26) rfl (l' := #[iv p1, iv p2, iv c0, iv c1, iv c2]) (by rw [e_c2]; rfl) k)
  have rc0 : okb c0 := by rw [e_c0]; exact own_b255 _
  have rc1 : okb c1 := by rw [e_c1]; exact own_b255 _
  have rc2 : okb c2 := by rw [e_c2]; exact own_b255 _
  have pre2 : Go p e bl s1 (mkF m 29 #[iv p1, iv p2, iv c0, iv c1, iv c2] [(.int p2)]) s1 EF := fun t k => pre1 t (by
   exact XS.iloadN X0.here hx rfl (B d31_28) rfl k)
  by_cases hc29 : p2 = (0 : Int32)
  · have pre3 : Go p e bl s1 (mkF m 32 #[iv p1, iv p2, iv c0, iv c1, iv c2] []) s1 EF := fun t k => pre2 t (XS.ifNo X0.here hx rfl (B d31_29) rfl ((if0 _ _).trans (teq hc29).2) k)
    obtain ⟨T4, h4, X4, e4, Et4, A4, D4, U4, st4⟩ := newO X0 hx hZ0 hown0 (hw _ (mW 4 rfl)) (hw _ (mW 5 rfl)) (hw _ (mW 6 rfl)) e0 (g := (mkF m 32 #[iv p1, iv p2, iv c0, iv c1, iv c2] [])) rfl (B d31_32) (by decide) (by decide)
    obtain ⟨b4, g4⟩ : ∃ z, z = h0.size := ⟨_, rfl⟩
    rw [← g4] at A4 st4 D4
    have g_b4 : n0 ≤ b4 := Nat.le_trans Z0 (Nat.le_of_eq g4.symm)
    have sz_b4 : h0.size ≤ b4 := Nat.le_trans (Keep.refl h0 []).1 (Nat.le_of_eq g4.symm)
    have sfn_b4 : Safe Z [("com/example/picketline/picketline/io/InputException", 29), ("java/lang/String", 7)] s.vm h0 b4 := Safe.new (Nat.le_of_eq g4.symm)
    have pre5 : Go p e bl T4 (mkF m 35 #[iv p1, iv p2, iv c0, iv c1, iv c2] [(.ref b4)]) s1 EF := fun t k => pre3 t (st4 t k)
    have O6 : Old Z n0 h4 := O0.ext Et4
    have Z6 : n0 ≤ h4.size := Nat.le_trans Z0 Et4.1
    have hk6 := Nat.le_trans hk0 Et4.1
    have C6 := CHv.ext Et4 hC
    have R6 := (CHr.refl hC).trans (CHr.ext Et4 hC)
    have sf6_b4 := Safe.ext Et4 hC sfn_b4
    have K6 : Keep h0 h4 [] := (Keep.refl h0 []).ext Et4
    have F_coder_b4 : Fld Z h4 b4 "java/lang/String" "coder" "B" (.int 0) := D4 (Or.inr (hw _ (mW 31 rfl))) (ty := .byte) (by decide)
    have F_value_b4 : Fld Z h4 b4 "java/lang/String" "value" "[B" .null := D4 (Or.inr (hw _ (mW 33 rfl))) (ty := (.array .byte)) (by decide)
    have pre7 : Go p e bl T4 (mkF m 37 #[iv p1, iv p2, iv c0, iv c1, iv c2] [(.int 0), (.ref b4), (.ref b4)]) s1 EF := fun t k => pre5 t (by
     refine XS.dup X4.here hx rfl (B d31_35) rfl rfl ?_
     exact XS.iconst X4.here hx rfl (B d31_36) k)
    obtain ⟨T8, h8, k8, X8, e8, Et8, A8, st8⟩ := newP X4 hx hZ0 (hw _ (mW 7 rfl)) e4 (g := (mkF m 37 #[iv p1, iv p2, iv c0, iv c1, iv c2] [(.int 0), (.ref b4), (.ref b4)])) rfl (B d31_37) rfl (by decide) (cap := 0) (by decide) (by decide) (by decide) (by decide)
    obtain ⟨b8, g8⟩ : ∃ z, z = h4.size := ⟨_, rfl⟩
    rw [← g8] at A8 st8
    have g_b8 : n0 ≤ b8 := Nat.le_trans Z6 (Nat.le_of_eq g8.symm)
    have sz_b8 : h0.size ≤ b8 := Nat.le_trans K6.1 (Nat.le_of_eq g8.symm)
    have sfn_b8 : Safe Z [("com/example/picketline/picketline/io/InputException", 29), ("java/lang/String", 7)] s.vm h4 b8 := Safe.new (Nat.le_of_eq g8.symm)
    have ne_b4_b8 : b4 ≠ b8 := Nat.ne_of_lt (Nat.lt_of_lt_of_le A4.lt (Nat.le_of_eq g8.symm))
    have pre9 : Go p e bl T8 (mkF m 39 #[iv p1, iv p2, iv c0, iv c1, iv c2] [(.ref b8), (.ref b4), (.ref b4)]) s1 EF := fun t k => pre7 t (st8 t k)
    have O10 : Old Z n0 h8 := O6.ext Et8
    have Z10 : n0 ≤ h8.size := Nat.le_trans Z6 Et8.1
    have hk10 := Nat.le_trans hk6 Et8.1
    have C10 := CHv.ext Et8 C6
    have R10 := R6.trans (CHr.ext Et8 C6)
    have sf10_b4 := Safe.ext Et8 C6 sf6_b4
    have sf10_b8 := Safe.ext Et8 C6 sfn_b8
    have K10 : Keep h0 h8 [] := K6.ext Et8
    have V8 : Arv Z h8 b8 k8 .char (0 : Int32) [] (.int 0) := (Arv.new A8 (by decide)).pad (pad_rep [] (.int 0) 0)
    obtain ⟨_, _, ⟨T11, L11, k11, n11⟩, -, XQ11, hSQ11, hgQ11, ⟨Lc11, hQ11, l11, y11, z11, hCH11⟩, st11⟩ := X8.specialBackS hx (y := mN30) rfl hown0 (mvT hZ0 (hw _ (mW 8 rfl))) (mvT hZ0 (hw _ (mW 9 rfl))) (mvT hZ0 (hw _ (mW 10 rfl))) (by decide) (backOfSH (W := 1) (rmKj0 l Z a0 hw [] b4 b8 cz fv k8 h8 n0 Z10 O10 J0 (A4.ext Et8) g_b4 (F_value_b4.ext Et8) (F_coder_b4.ext Et8) V8) hZ0 (hw _ (mW 10 rfl)) (hw _ (mW 6 rfl)) (by decide) (by decide) (own_EW hw) C10) (g := (mkF m 39 #[iv p1, iv p2, iv c0, iv c1, iv c2] [(.ref b8), (.ref b4), (.ref b4)])) rfl (hM rfl) (Steps.refl _) (a := b4) (argsL := [(.ref b8)]) (rest := [(.ref b4)]) (lenOf pd20 rfl) rfl (Nat.le_of_eq rfl) (B d31_39) (fun _ _ => ⟨rfl, e8, wl rfl, wl rfl⟩)
    dsimp only [Pt.U, Pt.locs, Pt.cells, Pt.slots] at XQ11 hSQ11 hgQ11 hCH11 l11 y11 z11 st11 hQ11
    subst l11 y11 z11
    obtain ⟨X11, hS11, hZ11, hown11⟩ := rebS hS0 (by rw [e8]; exact hk10) XQ11 hSQ11 hgQ11 hZ0 hown0
    obtain ⟨rfl, N11q, K11, bv11, kb11, SF11⟩ := hQ11
    have N11 := Fr.app N0 N11q
    have pre12 : Go p e bl T11 (mkF m 42 #[iv p1, iv p2, iv c0, iv c1, iv c2] [(.ref b4)]) s1 EF := fun t k => pre9 t (st11.trans k)
    have hk11 := Nat.le_refl T11.heap.size
    have R11 := R10.trans hCH11
    have O13 : Old Z n0 T11.heap := O10.keep K11 (allS g_b4 all0)
    have Z13 : n0 ≤ T11.heap.size := Nat.le_trans Z10 K11.1
    have K13 : Keep h0 T11.heap [] := K10.trans K11 (allS (Or.inr sz_b4) all0)
    obtain ⟨fs, hr, hrun, hended, hend1, hend2, hend3, hsame⟩ := X11.leaveW hS11 hk11 (v := some (.ref b4)) (fun h => by rw [Bd.returns] at h; cases h)
    have hCH : CHr Z [("com/example/picketline/picketline/io/InputException", 29), ("java/lang/String", 7)] s.vm s.heap T11.vm T11.heap := by rw [hh]; exact R11.trans (CHv.at X11 hZ11 (own_EW hw) hCH11.1)
    refine ⟨_, _, hEF ▸ pre12 _ (retOut X11 hx Bd.returns rfl (Or.inr (Or.inr (Or.inr (Or.inr ⟨rfl, rfl, rfl⟩)))) (B d31_42) hr), hrun, hended, _, _, rfl, ?_, hCH, hend1, hend2, hend3, hsame.mono (by decide) (by decide)⟩
    show QMk Z p1 p2 cz fv h0 n0 _ T11.heap _
    have ep2 := hc29
    subst ep2
    exact ⟨_, _, _, _, rfl, N11, K13, sz_b4, SF11, by rfl, (wl rfl)⟩
  have pre14 : Go p e bl s1 (mkF m 43 #[iv p1, iv p2, iv c0, iv c1, iv c2] []) s1 EF := fun t k => pre2 t (XS.ifYes X0.here hx rfl (pc0 := 29) (pc' := 43) rfl (B d31_29) rfl ((if0 _ _).trans (feq hc29).2) (by decide) (by decide) k)
  have pre15 : Go p e bl s1 (mkF m 45 #[iv p1, iv p2, iv c0, iv c1, iv c2] [(.int 1), (.int p2)]) s1 EF := fun t k => pre14 t (by
   refine XS.iloadN X0.here hx rfl (B d31_43) rfl ?_
   exact XS.iconst X0.here hx rfl (B d31_44) k)
  by_cases hc45 : p2 = (1 : Int32)
  · have pre16 : Go p e bl s1 (mkF m 48 #[iv p1, iv p2, iv c0, iv c1, iv c2] []) s1 EF := fun t k => pre15 t (XS.icmpNo X0.here hx rfl (B d31_45) rfl (teq hc45).2 k)
    obtain ⟨T17, h17, X17, e17, Et17, A17, D17, U17, st17⟩ := newO X0 hx hZ0 hown0 (hw _ (mW 4 rfl)) (hw _ (mW 5 rfl)) (hw _ (mW 6 rfl)) e0 (g := (mkF m 48 #[iv p1, iv p2, iv c0, iv c1, iv c2] [])) rfl (B d31_48) (by decide) (by decide)
    obtain ⟨b17, g17⟩ : ∃ z, z = h0.size := ⟨_, rfl⟩
    rw [← g17] at A17 st17 D17
    have g_b17 : n0 ≤ b17 := Nat.le_trans Z0 (Nat.le_of_eq g17.symm)
    have sz_b17 : h0.size ≤ b17 := Nat.le_trans (Keep.refl h0 []).1 (Nat.le_of_eq g17.symm)
    have sfn_b17 : Safe Z [("com/example/picketline/picketline/io/InputException", 29), ("java/lang/String", 7)] s.vm h0 b17 := Safe.new (Nat.le_of_eq g17.symm)
    have pre18 : Go p e bl T17 (mkF m 51 #[iv p1, iv p2, iv c0, iv c1, iv c2] [(.ref b17)]) s1 EF := fun t k => pre16 t (st17 t k)
    have O19 : Old Z n0 h17 := O0.ext Et17
    have Z19 : n0 ≤ h17.size := Nat.le_trans Z0 Et17.1
    have hk19 := Nat.le_trans hk0 Et17.1
    have C19 := CHv.ext Et17 hC
    have R19 := (CHr.refl hC).trans (CHr.ext Et17 hC)
    have sf19_b17 := Safe.ext Et17 hC sfn_b17
    have K19 : Keep h0 h17 [] := (Keep.refl h0 []).ext Et17
    have F_coder_b17 : Fld Z h17 b17 "java/lang/String" "coder" "B" (.int 0) := D17 (Or.inr (hw _ (mW 31 rfl))) (ty := .byte) (by decide)
    have F_value_b17 : Fld Z h17 b17 "java/lang/String" "value" "[B" .null := D17 (Or.inr (hw _ (mW 33 rfl))) (ty := (.array .byte)) (by decide)
    have pre20 : Go p e bl T17 (mkF m 53 #[iv p1, iv p2, iv c0, iv c1, iv c2] [(.int 1), (.ref b17), (.ref b17)]) s1 EF := fun t k => pre18 t (by
     refine XS.dup X17.here hx rfl (B d31_51) rfl rfl ?_
     exact XS.iconst X17.here hx rfl (B d31_52) k)
    obtain ⟨T21, h21, k21, X21, e21, Et21, A21, st21⟩ := newP X17 hx hZ0 (hw _ (mW 7 rfl)) e17 (g := (mkF m 53 #[iv p1, iv p2, iv c0, iv c1, iv c2] [(.int 1), (.ref b17), (.ref b17)])) rfl (B d31_53) rfl (by decide) (cap := 1) (by decide) (by decide) (by decide) (by decide)
    obtain ⟨b21, g21⟩ : ∃ z, z = h17.size := ⟨_, rfl⟩
    rw [← g21] at A21 st21
    have g_b21 : n0 ≤ b21 := Nat.le_trans Z19 (Nat.le_of_eq g21.symm)
    have sz_b21 : h0.size ≤ b21 := Nat.le_trans K19.1 (Nat.le_of_eq g21.symm)
    have sfn_b21 : Safe Z [("com/example/picketline/picketline/io/InputException", 29), ("java/lang/String", 7)] s.vm h17 b21 := Safe.new (Nat.le_of_eq g21.symm)
    have ne_b17_b21 : b17 ≠ b21 := Nat.ne_of_lt (Nat.lt_of_lt_of_le A17.lt (Nat.le_of_eq g21.symm))
    have pre22 : Go p e bl T21 (mkF m 55 #[iv p1, iv p2, iv c0, iv c1, iv c2] [(.ref b21), (.ref b17), (.ref b17)]) s1 EF := fun t k => pre20 t (st21 t k)
    have O23 : Old Z n0 h21 := O19.ext Et21
    have Z23 : n0 ≤ h21.size := Nat.le_trans Z19 Et21.1
    have hk23 := Nat.le_trans hk19 Et21.1
    have C23 := CHv.ext Et21 C19
    have R23 := R19.trans (CHr.ext Et21 C19)
    have sf23_b17 := Safe.ext Et21 C19 sf19_b17
    have sf23_b21 := Safe.ext Et21 C19 sfn_b21
    have K23 : Keep h0 h21 [] := K19.ext Et21
    have V21 : Arv Z h21 b21 k21 .char (1 : Int32) [(.int 0)] (.int 0) := (Arv.new A21 (by decide)).pad (pad_rep [] (.int 0) 1)
    have pre24 : Go p e bl T21 (mkF m 58 #[iv p1, iv p2, iv c0, iv c1, iv c2] [(.int c0), (.int 0), (.ref b21), (.ref b21), (.ref b17), (.ref b17)]) s1 EF := fun t k => pre22 t (by
     refine XS.dup X21.here hx rfl (B d31_55) rfl rfl ?_
     refine XS.iconst X21.here hx rfl (B d31_56) ?_
     exact XS.iloadN X21.here hx rfl (B d31_57) rfl k)
    obtain ⟨cl25, Ar25, q25, Sz25, M25, H25, G25⟩ := id V21
    have hin25 := inb_of (j := (0 : Int32)) Sz25 ⟨by decide, by decide⟩
    obtain ⟨T25, h25, X25, e25, W25, st25⟩ := stC X21 hx hZ0 e21 Ar25 (j := 0) hin25 (g := (mkF m 58 #[iv p1, iv p2, iv c0, iv c1, iv c2] [(.int c0), (.int 0), (.ref b21), (.ref b21), (.ref b17), (.ref b17)])) rfl rfl (B d31_58)
    rw [rc0.nc] at W25
    have pre26 : Go p e bl T25 (mkF m 59 #[iv p1, iv p2, iv c0, iv c1, iv c2] [(.ref b21), (.ref b17), (.ref b17)]) s1 EF := fun t k => pre24 t (st25 t k)
    have O27 : Old Z n0 h25 := O23.wr W25 g_b21
    have Z27 : n0 ≤ h25.size := Nat.le_trans Z23 (Keep.of_wr W25).1
    have hk27 := Nat.le_trans hk23 (Keep.of_wr W25).1
    have C27 := CHv.wr W25 sf23_b21 C23
    have R27 := R23.trans (CHr.wr W25 sf23_b21 C23)
    have sf27_b17 := Safe.wr W25 sf23_b21 C23 sf23_b17
    have sf27_b21 := Safe.wr W25 sf23_b21 C23 sf23_b21
    have K27 : Keep h0 h25 [] := K23.wr W25 (Or.inr sz_b21)
    have V25 : Arv Z h25 b21 k21 .char (1 : Int32) [(.int c0)] (.int 0) := Arv.set Ar25 q25 Sz25 M25 H25 G25 (own_fitc rc0.nc) W25 0 rfl (wl rfl)
    have N25 := Fr.snoc X25 N0 g_b21
    obtain ⟨_, _, ⟨T28, L28, k28, n28⟩, -, X28, ⟨Lc28, hQ28, l28, y28, z28⟩, st28⟩ := X25.specialBack hx (y := mN30) rfl hown0 (mvT hZ0 (hw _ (mW 8 rfl))) (mvT hZ0 (hw _ (mW 9 rfl))) (mvT hZ0 (hw _ (mW 10 rfl))) (by decide) (backOf (W := 1) (rmKj l Z a0 hw [] b17 b21 cz fv (1 : Int32) k21 [c0] h25 n0 Z27 O27 J0 ((A17.ext Et21).wr W25) g_b17 (Fld.other W25 (F_value_b17.ext Et21) (Or.inl ne_b17_b21)) (Fld.other W25 (F_coder_b17.ext Et21) (Or.inl ne_b17_b21)) V25 (by decide) rfl (wl rfl) (wl rfl) (List.forall_mem_cons.mpr ⟨rc0.le, (fun _ q => nomatch q)⟩)) hZ0 (hw _ (mW 10 rfl)) (hw _ (mW 6 rfl)) (by decide) (by decide)) (g := (mkF m 59 #[iv p1, iv p2, iv c0, iv c1, iv c2] [(.ref b21), (.ref b17), (.ref b17)])) rfl (hM rfl) (Steps.refl _) (a := b17) (argsL := [(.ref b21)]) (rest := [(.ref b17)]) (lenOf pd20 rfl) rfl (Nat.le_of_eq rfl) (B d31_59) (fun _ _ => ⟨rfl, e25, wl rfl, wl rfl⟩)
    dsimp only [Pt.U, Pt.locs, Pt.cells, Pt.slots] at X28 l28 y28 z28 st28 hQ28
    subst l28 y28 z28
    obtain ⟨rfl, N28q, K28, bv28, kb28, hsz28, SF28⟩ := hQ28
    have N28 := Fr.app N25 N28q
    have pre29 : Go p e bl T28 (mkF m 62 #[iv p1, iv p2, iv c0, iv c1, iv c2] [(.ref b17)]) s1 EF := fun t k => pre26 t (st28.trans k)
    have O30 : Old Z n0 T28.heap := O27.keep K28 (allS g_b17 all0)
    have Z30 : n0 ≤ T28.heap.size := Nat.le_trans Z27 K28.1
    have hk30 := Nat.le_trans hk27 K28.1
    have C30 := CHv.keep K28 (sfS sf27_b17 sf0) C27
    have R30 := R27.trans (CHr.keep K28 (sfS sf27_b17 sf0) C27)
    have sf30_b17 := Safe.keep K28 (sfS sf27_b17 sf0) C27 sf27_b17
    have sf30_b21 := Safe.keep K28 (sfS sf27_b17 sf0) C27 sf27_b21
    have K30 : Keep h0 T28.heap [] := K27.trans K28 (allS (Or.inr sz_b17) all0)
    obtain ⟨fs, hr, hrun, hended, hend1, hend2, hend3, hsame⟩ := X28.leaveW hS0 hk30 (v := some (.ref b17)) (fun h => by rw [Bd.returns] at h; cases h)
    have hCH : CHr Z [("com/example/picketline/picketline/io/InputException", 29), ("java/lang/String", 7)] s.vm s.heap T28.vm T28.heap := by rw [hh]; exact R30.trans (CHv.at X28 hZ0 (own_EW hw) C30)
    refine ⟨_, _, hEF ▸ pre29 _ (retOut X28 hx Bd.returns rfl (Or.inr (Or.inr (Or.inr (Or.inr ⟨rfl, rfl, rfl⟩)))) (B d31_62) hr), hrun, hended, _, _, rfl, ?_, hCH, hend1, hend2, hend3, hsame.mono (by decide) (by decide)⟩
    show QMk Z p1 p2 cz fv h0 n0 _ T28.heap _
    have ep2 := hc45
    subst ep2
    exact ⟨_, _, _, _, rfl, N28, K30, sz_b17, SF28, by rfl, (wl rfl)⟩
  have pre31 : Go p e bl s1 (mkF m 63 #[iv p1, iv p2, iv c0, iv c1, iv c2] []) s1 EF := fun t k => pre15 t (XS.icmpYes X0.here hx rfl (pc0 := 45) (pc' := 63) rfl (B d31_45) rfl (feq hc45).2 (by decide) (by decide) k)
  have pre32 : Go p e bl s1 (mkF m 65 #[iv p1, iv p2, iv c0, iv c1, iv c2] [(.int 2), (.int p2)]) s1 EF := fun t k => pre31 t (by
   refine XS.iloadN X0.here hx rfl (B d31_63) rfl ?_
   exact XS.iconst X0.here hx rfl (B d31_64) k)
  by_cases hc65 : p2 = (2 : Int32)
  · have pre33 : Go p e bl s1 (mkF m 68 #[iv p1, iv p2, iv c0, iv c1, iv c2] []) s1 EF := fun t k => pre32 t (XS.icmpNo X0.here hx rfl (B d31_65) rfl (teq hc65).2 k)
    obtain ⟨T34, h34, X34, e34, Et34, A34, D34, U34, st34⟩ := newO X0 hx hZ0 hown0 (hw _ (mW 4 rfl)) (hw _ (mW 5 rfl)) (hw _ (mW 6 rfl)) e0 (g := (mkF m 68 #[iv p1, iv p2, iv c0, iv c1, iv c2] [])) rfl (B d31_68) (by decide) (by decide)
    obtain ⟨b34, g34⟩ : ∃ z, z = h0.size := ⟨_, rfl⟩
    rw [← g34] at A34 st34 D34
    have g_b34 : n0 ≤ b34 := Nat.le_trans Z0 (Nat.le_of_eq g34.symm)
    have sz_b34 : h0.size ≤ b34 := Nat.le_trans (Keep.refl h0 []).1 (Nat.le_of_eq g34.symm)
    have sfn_b34 : Safe Z [("com/example/picketline/picketline/io/InputException", 29), ("java/lang/String", 7)] s.vm h0 b34 := Safe.new (Nat.le_of_eq g34.symm)
    have pre35 : Go p e bl T34 (mkF m 71 #[iv p1, iv p2, iv c0, iv c1, iv c2] [(.ref b34)]) s1 EF := fun t k => pre33 t (st34 t k)
    have O36 : Old Z n0 h34 := O0.ext Et34
    have Z36 : n0 ≤ h34.size := Nat.le_trans Z0 Et34.1
    have hk36 := Nat.le_trans hk0 Et34.1
    have C36 := CHv.ext Et34 hC
    have R36 := (CHr.refl hC).trans (CHr.ext Et34 hC)
    have sf36_b34 := Safe.ext Et34 hC sfn_b34
    have K36 : Keep h0 h34 [] := (Keep.refl h0 []).ext Et34
    have F_coder_b34 : Fld Z h34 b34 "java/lang/String" "coder" "B" (.int 0) := D34 (Or.inr (hw _ (mW 31 rfl))) (ty := .byte) (by decide)
    have F_value_b34 : Fld Z h34 b34 "java/lang/String" "value" "[B" .null := D34 (Or.inr (hw _ (mW 33 rfl))) (ty := (.array .byte)) (by decide)
    have pre37 : Go p e bl T34 (mkF m 73 #[iv p1, iv p2, iv c0, iv c1, iv c2] [(.int 2), (.ref b34), (.ref b34)]) s1 EF := fun t k => pre35 t (by
     refine XS.dup X34.here hx rfl (B d31_71) rfl rfl ?_
     exact XS.iconst X34.here hx rfl (B d31_72) k)
    obtain ⟨T38, h38, k38, X38, e38, Et38, A38, st38⟩ := newP X34 hx hZ0 (hw _ (mW 7 rfl)) e34 (g := (mkF m 73 #[iv p1, iv p2, iv c0, iv c1, iv c2] [(.int 2), (.ref b34), (.ref b34)])) rfl (B d31_73) rfl (by decide) (cap := 2) (by decide) (by decide) (by decide) (by decide)
    obtain ⟨b38, g38⟩ : ∃ z, z = h34.size := ⟨_, rfl⟩
    rw [← g38] at A38 st38
    have g_b38 : n0 ≤ b38 := Nat.le_trans Z36 (Nat.le_of_eq g38.symm)
    have sz_b38 : h0.size ≤ b38 := Nat.le_trans K36.1 (Nat.le_of_eq g38.symm)
    have sfn_b38 : Safe Z [("com/example/picketline/picketline/io/InputException", 29), ("java/lang/String", 7)] s.vm h34 b38 := Safe.new (Nat.le_of_eq g38.symm)
    have ne_b34_b38 : b34 ≠ b38 := Nat.ne_of_lt (Nat.lt_of_lt_of_le A34.lt (Nat.le_of_eq g38.symm))
    have pre39 : Go p e bl T38 (mkF m 75 #[iv p1, iv p2, iv c0, iv c1, iv c2] [(.ref b38), (.ref b34), (.ref b34)]) s1 EF := fun t k => pre37 t (st38 t k)
    have O40 : Old Z n0 h38 := O36.ext Et38
    have Z40 : n0 ≤ h38.size := Nat.le_trans Z36 Et38.1
    have hk40 := Nat.le_trans hk36 Et38.1
    have C40 := CHv.ext Et38 C36
    have R40 := R36.trans (CHr.ext Et38 C36)
    have sf40_b34 := Safe.ext Et38 C36 sf36_b34
    have sf40_b38 := Safe.ext Et38 C36 sfn_b38
    have K40 : Keep h0 h38 [] := K36.ext Et38
    have V38 : Arv Z h38 b38 k38 .char (2 : Int32) [(.int 0), (.int 0)] (.int 0) := (Arv.new A38 (by decide)).pad (pad_rep [] (.int 0) 2)
    have pre41 : Go p e bl T38 (mkF m 78 #[iv p1, iv p2, iv c0, iv c1, iv c2] [(.int c0), (.int 0), (.ref b38), (.ref b38), (.ref b34), (.ref b34)]) s1 EF := fun t k => pre39 t (by
     refine XS.dup X38.here hx rfl (B d31_75) rfl rfl ?_
     refine XS.iconst X38.here hx rfl (B d31_76) ?_
     exact XS.iloadN X38.here hx rfl (B d31_77) rfl k)
    obtain ⟨cl42, Ar42, q42, Sz42, M42, H42, G42⟩ := id V38
    have hin42 := inb_of (j := (0 : Int32)) Sz42 ⟨by decide, by decide⟩
    obtain ⟨T42, h42, X42, e42, W42, st42⟩ := stC X38 hx hZ0 e38 Ar42 (j := 0) hin42 (g := (mkF m 78 #[iv p1, iv p2, iv c0, iv c1, iv c2] [(.int c0), (.int 0), (.ref b38), (.ref b38), (.ref b34), (.ref b34)])) rfl rfl (B d31_78)
    rw [rc0.nc] at W42
    have pre43 : Go p e bl T42 (mkF m 79 #[iv p1, iv p2, iv c0, iv c1, iv c2] [(.ref b38), (.ref b34), (.ref b34)]) s1 EF := fun t k => pre41 t (st42 t k)
    have O44 : Old Z n0 h42 := O40.wr W42 g_b38
    have Z44 : n0 ≤ h42.size := Nat.le_trans Z40 (Keep.of_wr W42).1
    have hk44 := Nat.le_trans hk40 (Keep.of_wr W42).1
    have C44 := CHv.wr W42 sf40_b38 C40
    have R44 := R40.trans (CHr.wr W42 sf40_b38 C40)
    have sf44_b34 := Safe.wr W42 sf40_b38 C40 sf40_b34
    have sf44_b38 := Safe.wr W42 sf40_b38 C40 sf40_b38
    have K44 : Keep h0 h42 [] := K40.wr W42 (Or.inr sz_b38)
    have V42 : Arv Z h42 b38 k38 .char (2 : Int32) [(.int c0), (.int 0)] (.int 0) := Arv.set Ar42 q42 Sz42 M42 H42 G42 (own_fitc rc0.nc) W42 0 rfl (wl rfl)
    have N42 := Fr.snoc X42 N0 g_b38
    have pre45 : Go p e bl T42 (mkF m 82 #[iv p1, iv p2, iv c0, iv c1, iv c2] [(.int c1), (.int 1), (.ref b38), (.ref b38), (.ref b34), (.ref b34)]) s1 EF := fun t k => pre43 t (by
     refine XS.dup X42.here hx rfl (B d31_79) rfl rfl ?_
     refine XS.iconst X42.here hx rfl (B d31_80) ?_
     exact XS.iloadN X42.here hx rfl (B d31_81) rfl k)
    obtain ⟨cl46, Ar46, q46, Sz46, M46, H46, G46⟩ := id V42
    have hin46 := inb_of (j := (1 : Int32)) Sz46 ⟨by decide, by decide⟩
    obtain ⟨T46, h46, X46, e46, W46, st46⟩ := stC X42 hx hZ0 e42 Ar46 (j := 1) hin46 (g := (mkF m 82 #[iv p1, iv p2, iv c0, iv c1, iv c2] [(.int c1), (.int 1), (.ref b38), (.ref b38), (.ref b34), (.ref b34)])) rfl rfl (B d31_82)
    rw [rc1.nc] at W46
    have pre47 : Go p e bl T46 (mkF m 83 #[iv p1, iv p2, iv c0, iv c1, iv c2] [(.ref b38), (.ref b34), (.ref b34)]) s1 EF := fun t k => pre45 t (st46 t k)
    have O48 : Old Z n0 h46 := O44.wr W46 g_b38
    have Z48 : n0 ≤ h46.size := Nat.le_trans Z44 (Keep.of_wr W46).1
    have hk48 := Nat.le_trans hk44 (Keep.of_wr W46).1
    have C48 := CHv.wr W46 sf44_b38 C44
    have R48 := R44.trans (CHr.wr W46 sf44_b38 C44)
    have sf48_b34 := Safe.wr W46 sf44_b38 C44 sf44_b34
    have sf48_b38 := Safe.wr W46 sf44_b38 C44 sf44_b38
    have K48 : Keep h0 h46 [] := K44.wr W46 (Or.inr sz_b38)
    have V46 : Arv Z h46 b38 k38 .char (2 : Int32) [(.int c0), (.int c1)] (.int 0) := Arv.set Ar46 q46 Sz46 M46 H46 G46 (own_fitc rc1.nc) W46 1 rfl (wl rfl)
    have N46 := Fr.snoc X46 N42 g_b38
    obtain ⟨_, _, ⟨T49, L49, k49, n49⟩, -, X49, ⟨Lc49, hQ49, l49, y49, z49⟩, st49⟩ := X46.specialBack hx (y := mN30) rfl hown0 (mvT hZ0 (hw _ (mW 8 rfl))) (mvT hZ0 (hw _ (mW 9 rfl))) (mvT hZ0 (hw _ (mW 10 rfl))) (by decide) (backOf (W := 1) (rmKj l Z a0 hw [] b34 b38 cz fv (2 : Int32) k38 [c0, c1] h46 n0 Z48 O48 J0 (((A34.ext Et38).wr W42).wr W46) g_b34 (Fld.other W46 (Fld.other W42 (F_value_b34.ext Et38) (Or.inl ne_b34_b38)) (Or.inl ne_b34_b38)) (Fld.other W46 (Fld.other W42 (F_coder_b34.ext Et38) (Or.inl ne_b34_b38)) (Or.inl ne_b34_b38)) V46 (by decide) rfl (wl rfl) (wl rfl) (List.forall_mem_cons.mpr ⟨rc0.le, (List.forall_mem_cons.mpr ⟨rc1.le, (fun _ q => nomatch q)⟩)⟩)) hZ0 (hw _ (mW 10 rfl)) (hw _ (mW 6 rfl)) (by decide) (by decide)) (g := (mkF m 83 #[iv p1, iv p2, iv c0, iv c1, iv c2] [(.ref b38), (.ref b34), (.ref b34)])) rfl (hM rfl) (Steps.refl _) (a := b34) (argsL := [(.ref b38)]) (rest := [(.ref b34)]) (lenOf pd20 rfl) rfl (Nat.le_of_eq rfl) (B d31_83) (fun _ _ => ⟨rfl, e46, wl rfl, wl rfl⟩)
    dsimp only [Pt.U, Pt.locs, Pt.cells, Pt.slots] at X49 l49 y49 z49 st49 hQ49
    subst l49 y49 z49
    obtain ⟨rfl, N49q, K49, bv49, kb49, hsz49, SF49⟩ := hQ49
    have N49 := Fr.app N46 N49q
    have pre50 : Go p e bl T49 (mkF m 86 #[iv p1, iv p2, iv c0, iv c1, iv c2] [(.ref b34)]) s1 EF := fun t k => pre47 t (st49.trans k)
    have O51 : Old Z n0 T49.heap := O48.keep K49 (allS g_b34 all0)
    have Z51 : n0 ≤ T49.heap.size := Nat.le_trans Z48 K49.1
    have hk51 := Nat.le_trans hk48 K49.1
    have C51 := CHv.keep K49 (sfS sf48_b34 sf0) C48
    have R51 := R48.trans (CHr.keep K49 (sfS sf48_b34 sf0) C48)
    have sf51_b34 := Safe.keep K49 (sfS sf48_b34 sf0) C48 sf48_b34
    have sf51_b38 := Safe.keep K49 (sfS sf48_b34 sf0) C48 sf48_b38
    have K51 : Keep h0 T49.heap [] := K48.trans K49 (allS (Or.inr sz_b34) all0)
    obtain ⟨fs, hr, hrun, hended, hend1, hend2, hend3, hsame⟩ := X49.leaveW hS0 hk51 (v := some (.ref b34)) (fun h => by rw [Bd.returns] at h; cases h)
    have hCH : CHr Z [("com/example/picketline/picketline/io/InputException", 29), ("java/lang/String", 7)] s.vm s.heap T49.vm T49.heap := by rw [hh]; exact R51.trans (CHv.at X49 hZ0 (own_EW hw) C51)
    refine ⟨_, _, hEF ▸ pre50 _ (retOut X49 hx Bd.returns rfl (Or.inr (Or.inr (Or.inr (Or.inr ⟨rfl, rfl, rfl⟩)))) (B d31_86) hr), hrun, hended, _, _, rfl, ?_, hCH, hend1, hend2, hend3, hsame.mono (by decide) (by decide)⟩
    show QMk Z p1 p2 cz fv h0 n0 _ T49.heap _
    have ep2 := hc65
    subst ep2
    exact ⟨_, _, _, _, rfl, N49, K51, sz_b34, SF49, by rfl, (wl rfl)⟩
  have pre52 : Go p e bl s1 (mkF m 87 #[iv p1, iv p2, iv c0, iv c1, iv c2] []) s1 EF := fun t k => pre32 t (XS.icmpYes X0.here hx rfl (pc0 := 65) (pc' := 87) rfl (B d31_65) rfl (feq hc65).2 (by decide) (by decide) k)
  obtain ⟨T53, h53, X53, e53, Et53, A53, D53, U53, st53⟩ := newO X0 hx hZ0 hown0 (hw _ (mW 4 rfl)) (hw _ (mW 5 rfl)) (hw _ (mW 6 rfl)) e0 (g := (mkF m 87 #[iv p1, iv p2, iv c0, iv c1, iv c2] [])) rfl (B d31_87) (by decide) (by decide)
  obtain ⟨b53, g53⟩ : ∃ z, z = h0.size := ⟨_, rfl⟩
  rw [← g53] at A53 st53 D53
  have g_b53 : n0 ≤ b53 := Nat.le_trans Z0 (Nat.le_of_eq g53.symm)
  have sz_b53 : h0.size ≤ b53 := Nat.le_trans (Keep.refl h0 []).1 (Nat.le_of_eq g53.symm)
  have sfn_b53 : Safe Z [("com/example/picketline/picketline/io/InputException", 29), ("java/lang/String", 7)] s.vm h0 b53 := Safe.new (Nat.le_of_eq g53.symm)
  have pre54 : Go p e bl T53 (mkF m 90 #[iv p1, iv p2, iv c0, iv c1, iv c2] [(.ref b53)]) s1 EF := fun t k => pre52 t (st53 t k)
  have O55 : Old Z n0 h53 := O0.ext Et53
  have Z55 : n0 ≤ h53.size := Nat.le_trans Z0 Et53.1
  have hk55 := Nat.le_trans hk0 Et53.1
  have C55 := CHv.ext Et53 hC
  have R55 := (CHr.refl hC).trans (CHr.ext Et53 hC)
  have sf55_b53 := Safe.ext Et53 hC sfn_b53
  have K55 : Keep h0 h53 [] := (Keep.refl h0 []).ext Et53
  have F_coder_b53 : Fld Z h53 b53 "java/lang/String" "coder" "B" (.int 0) := D53 (Or.inr (hw _ (mW 31 rfl))) (ty := .byte) (by decide)
  have F_value_b53 : Fld Z h53 b53 "java/lang/String" "value" "[B" .null := D53 (Or.inr (hw _ (mW 33 rfl))) (ty := (.array .byte)) (by decide)
  have pre56 : Go p e bl T53 (mkF m 92 #[iv p1, iv p2, iv c0, iv c1, iv c2] [(.int 3), (.ref b53), (.ref b53)]) s1 EF := fun t k => pre54 t (by
   refine XS.dup X53.here hx rfl (B d31_90) rfl rfl ?_
   exact XS.iconst X53.here hx rfl (B d31_91) k)
  obtain ⟨T57, h57, k57, X57, e57, Et57, A57, st57⟩ := newP X53 hx hZ0 (hw _ (mW 7 rfl)) e53 (g := (mkF m 92 #[iv p1, iv p2, iv c0, iv c1, iv c2] [(.int 3), (.ref b53), (.ref b53)])) rfl (B d31_92) rfl (by decide) (cap := 3) (by decide) (by decide) (by decide) (by decide)
  obtain ⟨b57, g57⟩ : ∃ z, z = h53.size := ⟨_, rfl⟩
  rw [← g57] at A57 st57
  have g_b57 : n0 ≤ b57 := Nat.le_trans Z55 (Nat.le_of_eq g57.symm)
  have sz_b57 : h0.size ≤ b57 := Nat.le_trans K55.1 (Nat.le_of_eq g57.symm)
  have sfn_b57 : Safe Z [("com/example/picketline/picketline/io/InputException", 29), ("java/lang/String", 7)] s.vm h53 b57 := Safe.new (Nat.le_of_eq g57.symm)
  have ne_b53_b57 : b53 ≠ b57 := Nat.ne_of_lt (Nat.lt_of_lt_of_le A53.lt (Nat.le_of_eq g57.symm))
  have pre58 : Go p e bl T57 (mkF m 94 #[iv p1, iv p2, iv c0, iv c1, iv c2] [(.ref b57), (.ref b53), (.ref b53)]) s1 EF := fun t k => pre56 t (st57 t k)
  have O59 : Old Z n0 h57 := O55.ext Et57
  have Z59 : n0 ≤ h57.size := Nat.le_trans Z55 Et57.1
  have hk59 := Nat.le_trans hk55 Et57.1
  have C59 := CHv.ext Et57 C55
  have R59 := R55.trans (CHr.ext Et57 C55)
  have sf59_b53 := Safe.ext Et57 C55 sf55_b53
  have sf59_b57 := Safe.ext Et57 C55 sfn_b57
  have K59 : Keep h0 h57 [] := K55.ext Et57
  have V57 : Arv Z h57 b57 k57 .char (3 : Int32) [(.int 0), (.int 0), (.int 0)] (.int 0) := (Arv.new A57 (by decide)).pad (pad_rep [] (.int 0) 3)
  have pre60 : Go p e bl T57 (mkF m 97 #[iv p1, iv p2, iv c0, iv c1, iv c2] [(.int c0), (.int 0), (.ref b57), (.ref b57), (.ref b53), (.ref b53)]) s1 EF := fun t k => pre58 t (by
   refine XS.dup X57.here hx rfl (B d31_94) rfl rfl ?_
   refine XS.iconst X57.here hx rfl (B d31_95) ?_
   exact XS.iloadN X57.here hx rfl (B d31_96) rfl k)
  obtain ⟨cl61, Ar61, q61, Sz61, M61, H61, G61⟩ := id V57
  have hin61 := inb_of (j := (0 : Int32)) Sz61 ⟨by decide, by decide⟩
  obtain ⟨T61, h61, X61, e61, W61, st61⟩ := stC X57 hx hZ0 e57 Ar61 (j := 0) hin61 (g := (mkF m 97 #[iv p1, iv p2, iv c0, iv c1, iv c2] [(.int c0), (.int 0), (.ref b57), (.ref b57), (.ref b53), (.ref b53)])) rfl rfl (B d31_97)
  rw [rc0.nc] at W61
  have pre62 : Go p e bl T61 (mkF m 98 #[iv p1, iv p2, iv c0, iv c1, iv c2] [(.ref b57), (.ref b53), (.ref b53)]) s1 EF := fun t k => pre60 t (st61 t k)
  have O63 : Old Z n0 h61 := O59.wr W61 g_b57
  have Z63 : n0 ≤ h61.size := Nat.le_trans Z59 (Keep.of_wr W61).1
  have hk63 := Nat.le_trans hk59 (Keep.of_wr W61).1
  have C63 := CHv.wr W61 sf59_b57 C59
  have R63 := R59.trans (CHr.wr W61 sf59_b57 C59)
  have sf63_b53 := Safe.wr W61 sf59_b57 C59 sf59_b53
  have sf63_b57 := Safe.wr W61 sf59_b57 C59 sf59_b57
  have K63 : Keep h0 h61 [] := K59.wr W61 (Or.inr sz_b57)
  have V61 : Arv Z h61 b57 k57 .char (3 : Int32) [(.int c0), (.int 0), (.int 0)] (.int 0) := Arv.set Ar61 q61 Sz61 M61 H61 G61 (own_fitc rc0.nc) W61 0 rfl (wl rfl)
  have N61 := Fr.snoc X61 N0 g_b57
  have pre64 : Go p e bl T61 (mkF m 101 #[iv p1, iv p2, iv c0, iv c1, iv c2] [(.int c1), (.int 1), (.ref b57), (.ref b57), (.ref b53), (.ref b53)]) s1 EF := fun t k => pre62 t (by
   refine XS.dup X61.here hx rfl (B d31_98) rfl rfl ?_
   refine XS.iconst X61.here hx rfl (B d31_99) ?_
   exact XS.iloadN X61.here hx rfl (B d31_100) rfl k)
  obtain ⟨cl65, Ar65, q65, Sz65, M65, H65, G65⟩ := id V61
  have hin65 := inb_of (j := (1 : Int32)) Sz65 ⟨by decide, by decide⟩
  obtain ⟨T65, h65, X65, e65, W65, st65⟩ := stC X61 hx hZ0 e61 Ar65 (j := 1) hin65 (g := (mkF m 101 #[iv p1, iv p2, iv c0, iv c1, iv c2] [(.int c1), (.int 1), (.ref b57), (.ref b57), (.ref b53), (.ref b53)])) rfl rfl (B d31_101)
  rw [rc1.nc] at W65
  have pre66 : Go p e bl T65 (mkF m 102 #[iv p1, iv p2, iv c0, iv c1, iv c2] [(.ref b57), (.ref b53), (.ref b53)]) s1 EF := fun t k => pre64 t (st65 t k)
  have O67 : Old Z n0 h65 := O63.wr W65 g_b57
  have Z67 : n0 ≤ h65.size := Nat.le_trans Z63 (Keep.of_wr W65).1
  have hk67 := Nat.le_trans hk63 (Keep.of_wr W65).1
  have C67 := CHv.wr W65 sf63_b57 C63
  have R67 := R63.trans (CHr.wr W65 sf63_b57 C63)
  have sf67_b53 := Safe.wr W65 sf63_b57 C63 sf63_b53
  have sf67_b57 := Safe.wr W65 sf63_b57 C63 sf63_b57
  have K67 : Keep h0 h65 [] := K63.wr W65 (Or.inr sz_b57)
  have V65 : Arv Z h65 b57 k57 .char (3 : Int32) [(.int c0), (.int c1), (.int 0)] (.int 0) := Arv.set Ar65 q65 Sz65 M65 H65 G65 (own_fitc rc1.nc) W65 1 rfl (wl rfl)
  have N65 := Fr.snoc X65 N61 g_b57
  have pre68 : Go p e bl T65 (mkF m 106 #[iv p1, iv p2, iv c0, iv c1, iv c2] [(.int c2), (.int 2), (.ref b57), (.ref b57), (.ref b53), (.ref b53)]) s1 EF := fun t k => pre66 t (by
   refine XS.dup X65.here hx rfl (B d31_102) rfl rfl ?_
   refine XS.iconst X65.here hx rfl (B d31_103) ?_
   exact XS.iload X65.here hx rfl (B d31_104) rfl k)
  obtain ⟨cl69, Ar69, q69, Sz69, M69, H69, G69⟩ := id V65
  have hin69 := inb_of (j := (2 : Int32)) Sz69 ⟨by decide, by decide⟩
  obtain ⟨T69, h69, X69, e69, W69, st69⟩ := stC X65 hx hZ0 e65 Ar69 (j := 2) hin69 (g := (mkF m 106 #[iv p1, iv p2, iv c0, iv c1, iv c2] [(.int c2), (.int 2), (.ref b57), (.ref b57), (.ref b53), (.ref b53)])) rfl rfl (B d31_106)
  rw [rc2.nc] at W69
  have pre70 : Go p e bl T69 (mkF m 107 #[iv p1, iv p2, iv c0, iv c1, iv c2] [(.ref b57), (.ref b53), (.ref b53)]) s1 EF := fun t k => pre68 t (st69 t k)
  have O71 : Old Z n0 h69 := O67.wr W69 g_b57
  have Z71 : n0 ≤ h69.size := Nat.le_trans Z67 (Keep.of_wr W69).1
  have hk71 := Nat.le_trans hk67 (Keep.of_wr W69).1
  have C71 := CHv.wr W69 sf67_b57 C67
  have R71 := R67.trans (CHr.wr W69 sf67_b57 C67)
  have sf71_b53 := Safe.wr W69 sf67_b57 C67 sf67_b53
  have sf71_b57 := Safe.wr W69 sf67_b57 C67 sf67_b57
  have K71 : Keep h0 h69 [] := K67.wr W69 (Or.inr sz_b57)
  have V69 : Arv Z h69 b57 k57 .char (3 : Int32) [(.int c0), (.int c1), (.int c2)] (.int 0) := Arv.set Ar69 q69 Sz69 M69 H69 G69 (own_fitc rc2.nc) W69 2 rfl (wl rfl)
  have N69 := Fr.snoc X69 N65 g_b57
  obtain ⟨_, _, ⟨T72, L72, k72, n72⟩, -, X72, ⟨Lc72, hQ72, l72, y72, z72⟩, st72⟩ := X69.specialBack hx (y := mN30) rfl hown0 (mvT hZ0 (hw _ (mW 8 rfl))) (mvT hZ0 (hw _ (mW 9 rfl))) (mvT hZ0 (hw _ (mW 10 rfl))) (by decide) (backOf (W := 1) (rmKj l Z a0 hw [] b53 b57 cz fv (3 : Int32) k57 [c0, c1, c2] h69 n0 Z71 O71 J0 ((((A53.ext Et57).wr W61).wr W65).wr W69) g_b53 (Fld.other W69 (Fld.other W65 (Fld.other W61 (F_value_b53.ext Et57) (Or.inl ne_b53_b57)) (Or.inl ne_b53_b57)) (Or.inl ne_b53_b57)) (Fld.other W69 (Fld.other W65 (Fld.other W61 (F_coder_b53.ext Et57) (Or.inl ne_b53_b57)) (Or.inl ne_b53_b57)) (Or.inl ne_b53_b57)) V69 (by decide) rfl (wl rfl) (wl rfl) (List.forall_mem_cons.mpr ⟨rc0.le, (List.forall_mem_cons.mpr ⟨rc1.le, (List.forall_mem_cons.mpr ⟨rc2.le, (fun _ q => nomatch q)⟩)⟩)⟩)) hZ0 (hw _ (mW 10 rfl)) (hw _ (mW 6 rfl)) (by decide) (by decide)) (g := (mkF m 107 #[iv p1, iv p2, iv c0, iv c1, iv c2] [(.ref b57), (.ref b53), (.ref b53)])) rfl (hM rfl) (Steps.refl _) (a := b53) (argsL := [(.ref b57)]) (rest := [(.ref b53)]) (lenOf pd20 rfl) rfl (Nat.le_of_eq rfl) (B d31_107) (fun _ _ => ⟨rfl, e69, wl rfl, wl rfl⟩)
  dsimp only [Pt.U, Pt.locs, Pt.cells, Pt.slots] at X72 l72 y72 z72 st72 hQ72
  subst l72 y72 z72
  obtain ⟨rfl, N72q, K72, bv72, kb72, hsz72, SF72⟩ := hQ72
  have N72 := Fr.app N69 N72q
  have pre73 : Go p e bl T72 (mkF m 110 #[iv p1, iv p2, iv c0, iv c1, iv c2] [(.ref b53)]) s1 EF := fun t k => pre70 t (st72.trans k)
  have O74 : Old Z n0 T72.heap := O71.keep K72 (allS g_b53 all0)
  have Z74 : n0 ≤ T72.heap.size := Nat.le_trans Z71 K72.1
  have hk74 := Nat.le_trans hk71 K72.1
  have C74 := CHv.keep K72 (sfS sf71_b53 sf0) C71
  have R74 := R71.trans (CHr.keep K72 (sfS sf71_b53 sf0) C71)
  have sf74_b53 := Safe.keep K72 (sfS sf71_b53 sf0) C71 sf71_b53
  have sf74_b57 := Safe.keep K72 (sfS sf71_b53 sf0) C71 sf71_b57
  have K74 : Keep h0 T72.heap [] := K71.trans K72 (allS (Or.inr sz_b53) all0)
  obtain ⟨fs, hr, hrun, hended, hend1, hend2, hend3, hsame⟩ := X72.leaveW hS0 hk74 (v := some (.ref b53)) (fun h => by rw [Bd.returns] at h; cases h)
  have hCH : CHr Z [("com/example/picketline/picketline/io/InputException", 29), ("java/lang/String", 7)] s.vm s.heap T72.vm T72.heap := by rw [hh]; exact R74.trans (CHv.at X72 hZ0 (own_EW hw) C74)
  refine ⟨_, _, hEF ▸ pre73 _ (retOut X72 hx Bd.returns rfl (Or.inr (Or.inr (Or.inr (Or.inr ⟨rfl, rfl, rfl⟩)))) (B d31_110) hr), hrun, hended, _, _, rfl, ?_, hCH, hend1, hend2, hend3, hsame.mono (by decide) (by decide)⟩
  show QMk Z p1 p2 cz fv h0 n0 _ T72.heap _
  have ep2 := (((hp.resolve_left hc29).resolve_left hc45).resolve_left hc65)
  subst ep2
  exact ⟨_, _, _, _, rfl, N72, K74, sz_b53, SF72, by rfl, (wl rfl)⟩
theorem own_aw {Z s : State} {a0 args : Array Value} (hw : HW a0 Z) (hZ : Z.Warmed39 s.vm) (hT : ThS Z s.heap) : ∀ c, c ∈ tables_1 → xOk c = true → c.holds args s none s [] = true := fun c hc ok => mvX hT hZ ok (hw c hc)
/-- Throwable's tables, by the words of this sheet -/
theorem own_links {Z s : State} {a0 args : Array Value} (hw : HW a0 Z) (hZ : Z.Warmed39 s.vm) (hT : ThS Z s.heap) {pl : Platform} (p1 : pl.frameOwnsMonitors = true) (p2 : pl.finalization = false) (p3 : pl.magicAccessors = ({} : Platform).magicAccessors) :
    ∃ T : ThrowableC, T.Links pl s ∧ s.methodNamed? Jvm.Bundle.tFill = some T.fill ∧ s.methodNamed? Jvm.Bundle.tFill0 = some T.fill0 ∧ s.vm.findClass "java/lang/Throwable" = some T.cT ∧ s.fieldFound? "java/lang/Throwable" "stackTrace" "[Ljava/lang/StackTraceElement;" = some (T.cT, T.kT, T.i17, T.fStack) ∧
      s.fieldFound? "java/lang/Throwable" "UNASSIGNED_STACK" "[Ljava/lang/StackTraceElement;" = some (T.cT, T.kT, T.i13, T.fUnassigned) ∧ T.fStack.name = "stackTrace" ∧ T.fStack.type = .array (.object "java/lang/StackTraceElement") := by
  have a := own_aw (args := args) hw hZ hT
  obtain ⟨⟨c, j0⟩, m0, n0, q0, nat0, cd0, lk0, sg0⟩ := Cond.native_spec (a _ (mW 183 rfl) rfl)
  have hc : s.vm.findClass "java/lang/Throwable" = some c := findClass_of_methodNamed n0
  obtain ⟨k, hk, nmk⟩ := Vm.findClass_spec hc
  obtain ⟨_, k1, _, _, hk1, _, _, -, _, nif⟩ := Cond.superclass_spec hc (a _ (mW 180 rfl) rfl)
  cases Option.some.inj (hk.symm.trans hk1)
  obtain ⟨jF, mF, nF, qF, atF, stF, abF, -, -⟩ := Cond.ownMethod (x := Jvm.Bundle.tFill) hc hk (a _ (mW 175 rfl) rfl)
  obtain ⟨mF', cF, qF', cdF, byF, loF, reF, lkF, -, sgF⟩ := Cond.codeSync_spec nF (a _ (mW 181 rfl) rfl)
  cases Option.some.inj (qF.symm.trans qF')
  obtain ⟨j0', m0', n0', q0', at0, st0, ab0, nm0, ds0⟩ := Cond.ownMethod (x := Jvm.Bundle.tFill0) hc hk (a _ (mW 182 rfl) rfl)
  obtain rfl : j0 = j0' := by have := Option.some.inj (n0.symm.trans n0'); simpa using this
  cases Option.some.inj (q0.symm.trans q0')
  obtain ⟨jZ, mZ, nZ, qZ, atZ, -, -, -, -⟩ := Cond.ownMethod (x := Jvm.Bundle.tInit0) hc hk (a _ (mW 184 rfl) rfl)
  obtain ⟨mZ', cZ, qZ', -, -, -, -, -, -, -⟩ := Cond.code_spec nZ (a _ (mW 185 rfl) rfl)
  obtain ⟨mO, eO, nO, qO, stO, abO⟩ := Cond.instanceMethod_spec (a _ (mW 16 rfl) rfl)
  obtain ⟨eO', cO, qO', cdO, byO, -, -, lkO, -, sgO⟩ := Cond.code_spec nO (a _ (mW 17 rfl) rfl)
  cases Option.some.inj (qO.symm.trans qO')
  obtain ⟨kO, hkO, nmO⟩ := Vm.findClass_spec (findClass_of_methodNamed nO)
  obtain ⟨eon, eod⟩ := name_of_methodNamed nO qO
  obtain ⟨ci1, v1, cf, l1, r1, file, po1⟩ := Cond.linkedMethod hc hk nO (a _ (mW 164 rfl) rfl) pl p3
  obtain ⟨ci27, v27, cf2, l27, r27, file2, po27⟩ := Cond.linkedMethod hc hk nF (a _ (mW 173 rfl) rfl) pl p3
  cases Option.some.inj (file.symm.trans file2)
  obtain ⟨ci202, v202, cf3, l202, r202, file3, po202⟩ := Cond.linkedMethod hc hk n0 (a _ (mW 186 rfl) rfl) pl p3
  cases Option.some.inj (file.symm.trans file3)
  obtain ⟨ci7, i7, f7, k7, g7, a7, s7, t7, -, -, -⟩ := Cond.ownField (t := .object "java/lang/Throwable") hc hk (by decide +kernel) (a _ (mW 165 rfl) rfl) (a _ (mW 187 rfl) rfl) pl p3
  obtain ⟨ci17, i17, f17, k17, g17, a17, s17, t17, nm17, ty17, ff17⟩ := Cond.ownField (t := .array (.object "java/lang/StackTraceElement")) hc hk (by decide +kernel) (a _ (mW 168 rfl) rfl) (a _ (mW 188 rfl) rfl) pl p3
  obtain ⟨ci24, i24, f24, k24, g24, a24, s24, t24, nm24, -, ff24⟩ := Cond.ownField (t := .object "java/util/List") hc hk (by decide +kernel) (a _ (mW 171 rfl) rfl) (a _ (mW 172 rfl) rfl) pl p3
  obtain ⟨ciM, iM, fM, -, -, aM, sM, tM, -, -, -⟩ := Cond.ownField (t := .object "java/lang/String") hc hk (by decide +kernel) (a _ (mW 200 rfl) rfl) (a _ (mW 189 rfl) rfl) pl p3
  obtain ⟨ci13, i13, f13, aS, cS, k13, g13, a13, s13, -, -, sta, -, -, -, -, ff13⟩ := Cond.ownStatic (t := .array (.object "java/lang/StackTraceElement")) hc hk (by decide +kernel) (a _ (mW 167 rfl) rfl) (a _ (mW 193 rfl) rfl) pl p3
  obtain ⟨ci20, i20, f20, _, _, k20, g20, a20, s20, -, -, -, -, -, -, -, -⟩ := Cond.ownStatic (t := .object "java/util/List") hc hk (by decide +kernel) (a _ (mW 170 rfl) rfl) (a _ (mW 194 rfl) rfl) pl p3
  have apart : f17.slot ≠ f24.slot := by
    obtain ⟨cI, kI, _, _, _, _, z1, z2, -⟩ := Cond.lays_spec (a _ (mW 172 rfl) rfl)
    obtain ⟨-, d1, e1, e2⟩ := Cond.laysAt z1 z2 ff17 (a _ (mW 169 rfl) rfl)
    obtain ⟨-, d2, e3, e4⟩ := Cond.laysAt z1 z2 ff24 (a _ (mW 172 rfl) rfl)
    exact Cond.laysApart e1 e3 e2 e4 (by rw [nm17, nm24]; decide)
  have pF : mF.sig.parameters = [] := by
    have q : (parseMethodDescriptor Jvm.Bundle.tFill.desc).map (·.parameters) = some [] := by decide +kernel
    rw [show parseMethodDescriptor Jvm.Bundle.tFill.desc = some mF.sig from sgF] at q; simpa using q
  have pf0 : m0.sig.parameters = [.int] := by
    have q : (parseMethodDescriptor Jvm.Bundle.tFill0.desc).map (·.parameters) = some [.int] := by decide +kernel
    rw [show parseMethodDescriptor Jvm.Bundle.tFill0.desc = some m0.sig from sg0] at q; simpa using q
  have pO : eO.sig.parameters.length = 0 := by
    have q : (parseMethodDescriptor Jvm.Bundle.oInit.desc).map (·.parameters) = some [] := by decide +kernel
    rw [show parseMethodDescriptor Jvm.Bundle.oInit.desc = some eO.sig from sgO] at q
    have q' : eO.sig.parameters = [] := by simpa using q
    rw [q']; rfl
  have ini := Cond.initialized_spec hc hk (a _ (mW 162 rfl) rfl)
  let T : ThrowableC := { cT := c, kT := k, cO := c, aS := aS, fillIdx := jF, fill0Idx := j0, initSIdx := jZ, obj := mO, kObj := kO, methFill := mF, methFill0 := m0, methInitS := mZ, methObj := eO, codeFill := cF, codeInitS := cZ, codeObj := cO, fBack := f7, fDepth := f7, fStack := f17, fCause := f7, fSupp := f24, fMsg := fM, fUnassigned := f13, fSentinel := f20, cfT := cf, ci1 := ci1, n1 := v1, ci27 := ci27, n27 := v27, ci202 := ci202, n202 := v202, ci7 := ci7, i7 := i7, ci13 := ci13, i13 := i13, ci17 := ci17, i17 := i17, ci20 := ci20, i20 := i20, ci24 := ci24, i24 := i24 }
  have L : T.Links pl s := by
    constructor
    case objFound => exact (by rw [eod]; exact lookupSpecial_of_named nO qO stO : lookupSpecial s.vm mO.cls "<init>" eO.desc = .method mO)
    case boot => exact Vm.findClass_boot hc hk
    case stackApartSupp => exact apart
    case fillBytes => exact byF.trans (by decide +kernel)
    case objBytes => exact byO.trans (by decide +kernel)
    case pool1 => exact po1
    case pool27 => exact po27
    case pool202 => exact po202
    all_goals first | assumption
  exact ⟨T, L, nF, n0, hc, ff17, ff13, nm17, ty17⟩
theorem own_slot {Z s : State} {C n d : String} {c i : Nat} {k : Class} {f : Field} (hZ : Z.Warmed39 s.vm) (h : s.fieldFound? C n d = some (c, k, i, f)) : f.slot = Jvm.RoadKit.slotOf Z C n d ∧ ∃ k', Z.fieldFound? C n d = some (c, k', i, f) := by
  obtain ⟨c5, k5, i5, q⟩ := Jvm.Free.BdW.found_ride (U := s) (U' := Z) hZ.alike.symm ⟨_, _, _, h⟩
  obtain ⟨k6, q6, -⟩ := State.fieldFound?_setVm (s := Z) hZ.alike q
  have e := Option.some.inj ((show s.fieldFound? C n d = _ from q6).symm.trans h)
  simp only [Prod.mk.injEq] at e
  obtain ⟨rfl, -, rfl, -⟩ := e
  exact ⟨by simp [Jvm.RoadKit.slotOf, q], k5, q⟩
theorem own_fat {Z s : State} {h : Heap} {a : Addr} {C n d : String} {v : Value} {c i : Nat} {k : Class} {f : Field} {cell : Cell} (hZ : Z.Warmed39 s.vm) (F : Fld Z h a C n d v) (hc : h[a]? = some cell) (hf : s.fieldFound? C n d = some (c, k, i, f)) : cell.slots[f.slot]? = some v := by
  obtain ⟨c2, cf, k2, i2, f2, u1, u2, -, -, -, -, u7⟩ := F
  obtain ⟨-, k', q⟩ := own_slot hZ hf
  cases u1.symm.trans hc
  have e := Option.some.inj (u2.symm.trans q)
  simp only [Prod.mk.injEq] at e
  obtain ⟨-, -, -, rfl⟩ := e
  exact u7
set_option maxHeartbeats 4000000 in
/-- fillInStackTrace() on an InputException that the walk itself has made -/
theorem own_fill {p : Program} {l : Launch} {e : Env} {R : Room} {s : State} {m : MethodId} {args : Array Value} {below : List Frame} {meth : Method} {c : Code} {T : State} {locs : List Loc} {cells slots : Nat} {Z : State} {a0 : Array Value} {h : Heap} (X : Stand p l e R s m args below meth c T locs cells slots) (hx : p.tables.exec = Jvm.exec) (hl : l.stackTraces = true) (hZ : Z.Warmed39 s.vm) (hw : HW a0 Z)
    (hown : s.vm.findClass "java/lang/Throwable" = some m.cls) (hT0 : ThS Z s.heap) (hTK : s.vm.MethodsKnown) (hBl : s.vm.FramesKnown below) (eT : T.heap = h) {a_ : Addr} (E : Exa Z h a_ "com/example/picketline/picketline/io/InputException") (N : Unt h a_) {u0 : RefV} (FS : Fld Z h a_ "java/lang/Throwable" "stackTrace" "[Ljava/lang/StackTraceElement;" u0.v) (FB : Fld Z h a_ "java/lang/Throwable" "backtrace" "Ljava/lang/Object;" .null) (SU : Sta Z h "java/lang/Throwable" "UNASSIGNED_STACK" "[Ljava/lang/StackTraceElement;" u0.v)
    {g : JFrame} (hg : g.method = m) (hsize : g.locals.size = c.maxLocals) (hs : g.stack = [.ref a_]) (hmr : g.monitorRoom = 0) (hd : decode c.code g.pc = .ok (.invokevirtual 27, 3)) (hf : 3 ≤ R.frames) (hlo : 42 ≤ R.locals) (hc : cells + 1 ≤ R.cells) (hsl : slots + 2752 ≤ R.slots) :
    ∃ (T' : State) (L : List Loc) (cell C : Cell), (∀ x ∈ L, x.base = a_) ∧ Stand p l e R s m args below meth c T' (locs ++ L) (cells + 1) (slots + 2752) ∧ h[a_]? = some cell ∧ T'.heap[a_]? = some C ∧ C.cls = cell.cls ∧ C.vm = cell.vm ∧ C.slots.size = cell.slots.size ∧
      (∀ i, i ≠ Jvm.RoadKit.slotOf Z "java/lang/Throwable" "backtrace" "Ljava/lang/Object;" → i ≠ Jvm.RoadKit.slotOf Z "java/lang/Throwable" "depth" "I" → i ≠ Jvm.RoadKit.slotOf Z "java/lang/Throwable" "stackTrace" "[Ljava/lang/StackTraceElement;" → C.slots[i]? = cell.slots[i]?) ∧
      ∀ target, Steps p.tables e below (T'.setTop { g with pc := g.pc + 3, stack := [.ref a_] }) target → Steps p.tables e below (T.setTop g) target := by
  have htr : e.platform.stackTraces = true := by rw [X.admits.platform]; exact hl
  have p1 : e.platform.frameOwnsMonitors = true := by rw [X.admits.platform]
  have p2 : e.platform.finalization = false := by rw [X.admits.platform]
  have p3 : e.platform.magicAccessors = ({} : Platform).magicAccessors := by rw [X.admits.platform]
  have a := own_aw (args := args) hw hZ hT0
  obtain ⟨Tt, L, nF, n0, hcT, ffS, ffU, nmS, tyS⟩ := own_links (args := args) hw hZ hT0 p1 p2 p3
  obtain ⟨cell, hcell, hvm, hmon⟩ := N
  obtain ⟨c1, k1, e1, e2, e3, -, e5⟩ := E
  cases e1.symm.trans hcell
  have e2' : s.vm.findClass "com/example/picketline/picketline/io/InputException" = some cell.cls := by rw [hZ.alike.findClass]; exact e2
  obtain ⟨cI, kI, i1, i2, i3, -⟩ := Cond.instantiable_spec (a _ (mW 38 rfl) rfl)
  cases i1.symm.trans e2'
  obtain ⟨k', z1, z2⟩ := hZ.alike.2.2 _ _ e3
  cases i2.symm.trans z1
  have hsz : cell.slots.size = kI.instanceTypes.size := by rw [z2]; exact e5 (by rw [z2] at i3; exact i3)
  have tk : ∀ {f : Field} {v : Value}, kI.instanceTypes[f.slot]? = some f.type → fits f.type v = true → Jvm.Takes s cell f v := fun {f v} h1 h2 => by
    obtain ⟨q1, q2⟩ := Takes.of_laid (v := v) i2 i3 h1 h2
    exact ⟨by rw [hsz]; simpa using q1, by rw [hvm]; exact q2⟩
  have hsel0 : selectMethod e.platform s.vm cell.cls Tt.fill0 = .method Tt.fill0 := by
    obtain ⟨c2, r2, m2, q1, q2, q3, q4, -⟩ := Cond.selects_spec (a _ (mW 195 rfl) rfl)
    cases Option.some.inj (q1.symm.trans e2')
    cases Option.some.inj (q2.symm.trans (State.methodFound?_of_named n0 (by decide)))
    cases Option.some.inj (q3.symm.trans n0)
    rw [Launch.admits_selectMethod X.admits]; exact q4
  obtain ⟨cf, iu, ku, fu, sa, cS, u1, u2, u3, u4, u5, u6, u7⟩ := SU
  obtain ⟨ku', q, qe⟩ := State.fieldFound?_setVm (s := Z) hZ.alike u1
  have eu := Option.some.inj ((show s.fieldFound? "java/lang/Throwable" "UNASSIGNED_STACK" "[Ljava/lang/StackTraceElement;" = _ from q).symm.trans ffU)
  simp only [Prod.mk.injEq] at eu
  obtain ⟨-, ek, -, rfl⟩ := eu
  have hst : Tt.aS = sa := by
    have w := L.statics
    rw [← ek, qe] at w
    exact (Option.some.inj (u4.symm.trans w)).symm
  have hneS : Tt.aS ≠ a_ := fun z => by
    rw [hst] at z
    subst z
    cases u5.symm.trans hcell
    rw [hvm] at u6; cases u6
  obtain ⟨ci198, i198, fB, k198, g198, a198, sB, -, nmB, tyB, ffB⟩ := Cond.ownField (t := .object "java/lang/Object") hcT L.cls (by decide +kernel) (a _ (mW 191 rfl) rfl) (a _ (mW 192 rfl) rfl) e.platform p3
  obtain ⟨cD1, kD1, cD, kD, iD, fD, -, -, ffD, stD, -, -, -, -⟩ := Cond.lays_spec (a _ (mW 198 rfl) rfl)
  cases Option.some.inj ((Cond.lays_declared (a _ (mW 198 rfl) rfl) ffD).symm.trans hcT)
  obtain ⟨hkD, atD⟩ := State.fieldFound?_spec ffD
  cases Option.some.inj (hkD.symm.trans L.cls)
  obtain ⟨nmD, tyD⟩ := State.fieldFound?_type ffD (t := .int) (by decide +kernel)
  have hfb := Cond.soleField_find hcT L.cls (a _ (mW 178 rfl) rfl) a198 nmB sB
  have hfd := Cond.soleField_find hcT L.cls (a _ (mW 179 rfl) rfl) atD nmD stD
  obtain ⟨comp, cO, kO, -, -, hkO, hkindO, hO⟩ := Cond.arrayOver_spec (a _ (mW 177 rfl) rfl)
  have t1 := (Cond.laysAt e2' i2 ffS (a _ (mW 169 rfl) rfl)).1
  have t2 := (Cond.laysAt e2' i2 ffB (a _ (mW 197 rfl) rfl)).1
  have t3 := (Cond.laysAt e2' i2 ffD (a _ (mW 198 rfl) rfl)).1
  have hSE := (a _ (mW 176 rfl) rfl)
  obtain ⟨v6, vm6, ⟨T6, L6, c6, n6⟩, -, X6, ⟨hv6, C6, n, hn, hD6, w1, w2, w3, w4, hL6, hc6, hn6⟩, st⟩ := X.virtualBack hx (own := "java/lang/Throwable") (C := "com/example/picketline/picketline/io/InputException") (index := 27) (y := Jvm.Bundle.tFill) (z := Jvm.Bundle.tFill) hown (a _ (mW 173 rfl) rfl) (a _ (mW 174 rfl) rfl) (notFace_of_selects hSE) hSE (a _ (mW 175 rfl) rfl) (by decide)
    (Jvm.Free.Exc.fillPaysAny (l := l) (W := 0) hx htr Tt L nF (u0 := u0) (self := a_) (cell := cell) (cellS := cS) (fun _ => by rw [hvm]; simp) (by rw [hvm]; simp) (by rw [hmon]) (by rw [hmon]) (own_fat hZ FS hcell ffS) hsel0 hneS (fun z => by rw [z] at u6; cases u6) u7 (tk t1 (by rw [tyS]; exact fits_refV_array _ u0))
      ⟨{ ci198 := ci198, i198 := i198, fBack := fB }, ⟨k198, g198, a198, sB⟩, own_fat hZ FB hcell ffB⟩ hTK hBl hcT hO hkO hkindO hfb hfd
      (fun x => tk t2 (by rw [tyB]; rfl)) (fun x => tk t3 (by rw [tyD]; rfl)) (by omega) (by omega))
    (b := a_) (cB := cell.cls) e2' ⟨cell, by rw [eT]; exact hcell, rfl, by rw [hvm]; rfl⟩ (g := g) hg hsize (Steps.refl _) (argsL := []) (rest := [])
    (fun sig hq => by rw [show parseMethodDescriptor Jvm.Bundle.tFill.desc = some ⟨[], some (.object Jvm.Bundle.tN)⟩ from by decide +kernel] at hq; rw [← Option.some.inj hq]; rfl) hs (by rw [hmr]; exact Nat.le_refl _) hd
    (fun vmx hWx => ⟨rfl, hc, hsl, by show T.heap[a_]? = _; rw [eT]; exact hcell, by show T.heap[Tt.aS]? = _; rw [eT, hst]; exact u5⟩)
  dsimp only [Pt.U, Pt.locs, Pt.cells, Pt.slots] at X6 hD6 hL6 hc6 hn6 st
  subst hv6 hL6 hc6 hn6
  refine ⟨T6, _, cell, C6, ?_, X6.more (Nat.le_refl _) (Nat.add_le_add_left hn _), hcell, hD6, w1, w2, w3, fun i q1 q2 q3 => w4 i (by rw [(own_slot hZ ffB).1]; exact q1) (by rw [(own_slot hZ ffD).1]; exact q2) (by rw [(own_slot hZ ffS).1]; exact q3), fun target q => st.trans q⟩
  intro x hx'
  simp only [List.mem_cons, List.not_mem_nil, or_false] at hx'
  rcases hx' with rfl | rfl | rfl <;> rfl
def AtA (a : Addr) (L : List Loc) : Prop := ∀ x ∈ L, x.base = a
theorem AtA.nil {a : Addr} : AtA a [] := fun _ q => nomatch q
theorem AtA.app {a : Addr} {L L' : List Loc} (h : AtA a L) (h' : ∀ x ∈ L', x.base = a) : AtA a (L ++ L') := fun x q => (List.mem_append.mp q).elim (h x) (h' x)
theorem AtA.snoc {a : Addr} {L : List Loc} {i : Nat} (h : AtA a L) : AtA a (L ++ [⟨a, i⟩]) := h.app fun x q => by rw [List.mem_singleton.mp q]
theorem own_keep {p : Program} {l : Launch} {e : Env} {R : Room} {s : State} {m : MethodId} {args : Array Value} {below : List Frame} {meth : Method} {c : Code} {T : State} {locs : List Loc} {cells slots : Nat} {h0 : Heap} {a : Addr} (X : Stand p l e R s m args below meth c T locs cells slots) (hh : s.heap = h0) (hL : AtA a locs) : Keep h0 T.heap [a] := by
  subst hh
  have K : Jvm.Free.Exc.Kept s (T.setVm s.vm) locs := fun y cy hy => X.same.2.2.2.2.2 y cy hy
  refine ⟨X.same.2.1, fun x c hc hx => K.other hL (by simpa using hx) hc, fun x c hc => ?_⟩
  obtain ⟨c', q1, q2, q3, -⟩ := K x c hc
  exact ⟨c', q1, by rw [q2], by rw [q2], q3⟩
theorem own_exa6 {Z : State} {h h' : Heap} {a : Addr} {K : String} {cell C : Cell} (E : Exa Z h a K) (q1 : h[a]? = some cell) (q2 : h'[a]? = some C) (w1 : C.cls = cell.cls) (w2 : C.vm = cell.vm) (w3 : C.slots.size = cell.slots.size) : Exa Z h' a K := by
  obtain ⟨c1, k, e1, e2, e3, e4, e5⟩ := E
  cases e1.symm.trans q1
  exact ⟨C, k, q2, by rw [w1]; exact e2, by rw [w1]; exact e3, by rw [w2]; exact e4, fun z => by rw [w3]; exact e5 z⟩
theorem own_fld6 {Z : State} {h h' : Heap} {a : Addr} {O n d : String} {v : Value} {cell C : Cell} (F : Fld Z h a O n d v) (q1 : h[a]? = some cell) (q2 : h'[a]? = some C) (w1 : C.cls = cell.cls) (w2 : C.vm = cell.vm) (w4 : C.slots[Jvm.RoadKit.slotOf Z O n d]? = cell.slots[Jvm.RoadKit.slotOf Z O n d]?) : Fld Z h' a O n d v := by
  obtain ⟨c1, cf, k, i, f, e1, e2, e3, e4, e5, e6, e7⟩ := F
  cases e1.symm.trans q1
  have es : Jvm.RoadKit.slotOf Z O n d = f.slot := by simp [Jvm.RoadKit.slotOf, e2]
  rw [es] at w4
  exact ⟨C, cf, k, i, f, q2, e2, e3, by rw [w2]; exact e4, by rw [w2]; exact e5, by rw [w1]; exact e6, by rw [w4]; exact e7⟩
abbrev rKTI : Room := { frames := 3, cells := 1, slots := 2752, locals := 42 }
theorem d32_0 : decode jdk_78_method_2_code 0 = .ok (.aload_n 0, 1) := by decide +kernel
theorem d32_1 : decode jdk_78_method_2_code 1 = .ok (.invokespecial 1, 3) := by decide +kernel
theorem d32_4 : decode jdk_78_method_2_code 4 = .ok (.aload_n 0, 1) := by decide +kernel
theorem d32_5 : decode jdk_78_method_2_code 5 = .ok (.aload_n 0, 1) := by decide +kernel
theorem d32_6 : decode jdk_78_method_2_code 6 = .ok (.putfield 7, 3) := by decide +kernel
theorem d32_9 : decode jdk_78_method_2_code 9 = .ok (.aload_n 0, 1) := by decide +kernel
theorem d32_10 : decode jdk_78_method_2_code 10 = .ok (.getstatic 13, 3) := by decide +kernel
theorem d32_13 : decode jdk_78_method_2_code 13 = .ok (.putfield 17, 3) := by decide +kernel
theorem d32_16 : decode jdk_78_method_2_code 16 = .ok (.aload_n 0, 1) := by decide +kernel
theorem d32_17 : decode jdk_78_method_2_code 17 = .ok (.getstatic 20, 3) := by decide +kernel
theorem d32_20 : decode jdk_78_method_2_code 20 = .ok (.putfield 24, 3) := by decide +kernel
theorem d32_23 : decode jdk_78_method_2_code 23 = .ok (.aload_n 0, 1) := by decide +kernel
theorem d32_24 : decode jdk_78_method_2_code 24 = .ok (.invokevirtual 27, 3) := by decide +kernel
theorem d32_27 : decode jdk_78_method_2_code 27 = .ok (.pop, 1) := by decide +kernel
theorem d32_28 : decode jdk_78_method_2_code 28 = .ok (.aload_n 0, 1) := by decide +kernel
theorem d32_29 : decode jdk_78_method_2_code 29 = .ok (.aload_n 1, 1) := by decide +kernel
theorem d32_30 : decode jdk_78_method_2_code 30 = .ok (.putfield 31, 3) := by decide +kernel
theorem d32_33 : decode jdk_78_method_2_code 33 = .ok (.return_, 1) := by decide +kernel
theorem pn8 : plainName "java/lang/Throwable" = true := by first | (simp [plainName, overriddenIn]; done) | decide +kernel
theorem efTI (m : MethodId) (a1 : Addr) (a2 : Addr) : entryFrame m #[(.ref a1), (.ref a2)] 2 = mkF m 0 #[rv a1, rv a2] [] := by first | (simp [entryFrame, mkF, argsToLocals, Value.category]; done) | rfl
def QTI (Z : State) (a1 : Addr) (a2 : Addr) (cz : Int32) (fv : Value) (u0 : RefV) (u1 : RefV) (h0 : Heap) (n0 : Nat) (v : Option Value) (h : Heap) (L : List Loc) : Prop := v = none ∧ Fr n0 L ∧ Keep h0 h [a1] ∧ Exa Z h a1 "com/example/picketline/picketline/io/InputException" ∧ Fld Z h a1 "java/lang/Throwable" "detailMessage" "Ljava/lang/String;" (.ref a2) ∧ Fld Z h a1 "com/example/picketline/picketline/io/InputException" "where" "Ljava/lang/String;" .null ∧ Fld Z h a1 "com/example/picketline/picketline/io/InputException" "problem" "Ljava/lang/String;" .null
set_option maxRecDepth 65536 in
set_option maxHeartbeats 40000000 in
theorem rmTI (l : Launch) (Z : State) (a0 : Array Value) (hw : HW a0 Z) (ws : List Jvm.Cond) (a1 : Addr) (a2 : Addr) (cz : Int32) (fv : Value) (u0 : RefV) (u1 : RefV) (h0 : Heap) (n0 : Nat) (Z0 : n0 ≤ h0.size) (O0 : Old Z n0 h0) (J0 : Jd Z cz fv) (E1 : Exa Z h0 a1 "com/example/picketline/picketline/io/InputException") (g_a1 : n0 ≤ a1) (U1 : Unt h0 a1) (F_cause : Fld Z h0 a1 "java/lang/Throwable" "cause" "Ljava/lang/Throwable;" .null) (F_stackTrace : Fld Z h0 a1 "java/lang/Throwable" "stackTrace" "[Ljava/lang/StackTraceElement;" .null) (F_suppressedExceptions : Fld Z h0 a1 "java/lang/Throwable" "suppressedExceptions" "Ljava/util/List;" .null) (F_backtrace : Fld Z h0 a1 "java/lang/Throwable" "backtrace" "Ljava/lang/Object;" .null) (F_detailMessage : Fld Z h0 a1 "java/lang/Throwable" "detailMessage" "Ljava/lang/String;" .null) (F_where : Fld Z h0 a1 "com/example/picketline/picketline/io/InputException" "where" "Ljava/lang/String;" .null) (F_problem : Fld Z h0 a1 "com/example/picketline/picketline/io/InputException" "problem" "Ljava/lang/String;" .null) (TH0 : ThS Z h0) (SU : Sta Z Z.heap "java/lang/Throwable" "UNASSIGNED_STACK" "[Ljava/lang/StackTraceElement;" u0.v) (SS : Sta Z Z.heap "java/lang/Throwable" "SUPPRESSED_SENTINEL" "Ljava/util/List;" u1.v) (hl : l.stackTraces = true) :
    MK l Z mN32 jdk_78_method_2_code 2 none ws rKTI #[(.ref a1), (.ref a2)] h0 (QTI Z a1 a2 cz fv u0 u1 h0 n0) := by
  refine MetFree.of_bodySF (plainFor_of_name pn8) hisR ?_
  intro p e s m args bl meth c s1 Bd hml0 hP hK
  obtain ⟨rfl, hZ, hh⟩ := hP
  have hx := Bd.exec
  have hby := Bd.bytes
  have B := @hb c _ hby
  have hM := fun {n : Nat} (h : n = 2) => h.trans hml0.symm
  have hown : s.vm.findClass "java/lang/Throwable" = some m.cls := findClass_of_methodNamed Bd.named
  have hlk : meth.locks = false := BodyLoose.notSynchronized Bd
  have X0 : Stand p l e rKTI s m #[(.ref a1), (.ref a2)] bl meth c s1 [] 0 0 := Stand.of_body Bd
  have e0 : s1.heap = h0 := by rw [← hh, Bd.state]; rfl
  have N0 := Fr.nil n0
  obtain ⟨EF, hEF⟩ : ∃ f, f = entryFrame m #[(.ref a1), (.ref a2)] 2 := ⟨_, rfl⟩
  have pre0 : Go p e bl s1 (mkF m 0 #[rv a1, rv a2] []) s1 EF := fun t k => by rw [hEF]; exact castTop (efTI m a1 a2) k
  have hTK : s.vm.MethodsKnown := hK.1
  have hBl : s.vm.FramesKnown bl := hK.2
  have pre1 : Go p e bl s1 (mkF m 1 #[rv a1, rv a2] [(.ref a1)]) s1 EF := fun t k => pre0 t (by
   exact XS.aloadN X0.here hx rfl (B d32_0) rfl rfl k)
  obtain ⟨T2, X2, e2, st2⟩ := initO X0 hx hZ hown (hw _ (mW 164 rfl)) (hw _ (mW 16 rfl)) (hw _ (mW 17 rfl)) e0 (g := (mkF m 1 #[rv a1, rv a2] [(.ref a1)])) rfl (hM rfl) rfl (B d32_1) (by decide) (W := 0) (Nat.le_of_eq rfl) (by decide)
  have pre3 : Go p e bl T2 (mkF m 4 #[rv a1, rv a2] []) s1 EF := fun t k => pre1 t (st2 t k)
  have pre4 : Go p e bl T2 (mkF m 6 #[rv a1, rv a2] [(.ref a1), (.ref a1)]) s1 EF := fun t k => pre3 t (by
   refine XS.aloadN X2.here hx rfl (B d32_4) rfl rfl ?_
   exact XS.aloadN X2.here hx rfl (B d32_5) rfl rfl k)
  obtain ⟨T5, h5, X5, e5, W5, st5⟩ := putF X2 hx hZ hown (host := "") (Or.inl (hw _ (mW 165 rfl))) Via.refl e2 F_cause E1 (Or.inl (hw _ (mW 166 rfl))) (hw _ (mW 38 rfl)) (ty := (.object "java/lang/Throwable")) (by decide) rfl rfl (g := (mkF m 6 #[rv a1, rv a2] [(.ref a1), (.ref a1)])) rfl rfl (B d32_6)
  have pre6 : Go p e bl T5 (mkF m 9 #[rv a1, rv a2] []) s1 EF := fun t k => pre4 t (st5 t k)
  have O7 : Old Z n0 h5 := O0.wr W5 g_a1
  have Z7 : n0 ≤ h5.size := Nat.le_trans Z0 (Keep.of_wr W5).1
  have Fw5 := Fld.same W5 F_cause
  have N5 := Fr.snoc X5 N0 g_a1
  have pre8 : Go p e bl T5 (mkF m 10 #[rv a1, rv a2] [(.ref a1)]) s1 EF := fun t k => pre6 t (by
   exact XS.aloadN X5.here hx rfl (B d32_9) rfl rfl k)
  obtain ⟨T9, X9, e9, st9⟩ := getS2 X5 hx hZ hown (host := "") (Or.inl (hw _ (mW 167 rfl))) Via.refl e5 (SU.ext O7.2) (g := (mkF m 10 #[rv a1, rv a2] [(.ref a1)])) rfl (B d32_10)
  have pre10 : Go p e bl T9 (mkF m 13 #[rv a1, rv a2] [u0.v, (.ref a1)]) s1 EF := fun t k => pre8 t (st9 t k)
  obtain ⟨T11, h11, X11, e11, W11, st11⟩ := putF X9 hx hZ hown (host := "") (Or.inl (hw _ (mW 168 rfl))) Via.refl e9 (Fld.other W5 F_stackTrace (Or.inr (slot_ne (Or.inl (hw _ (mW 169 rfl))) (Or.inl (hw _ (mW 166 rfl))) (by decide) (t := (.array (.object "java/lang/StackTraceElement"))) (t' := (.object "java/lang/Throwable")) (by decide) (by decide)))) (E1.wr W5) (Or.inl (hw _ (mW 169 rfl))) (hw _ (mW 38 rfl)) (ty := (.array (.object "java/lang/StackTraceElement"))) (by decide) (narrow_refV _ u0) (fits_refV_array _ u0) (g := (mkF m 13 #[rv a1, rv a2] [u0.v, (.ref a1)])) rfl rfl (B d32_13)
  have pre12 : Go p e bl T11 (mkF m 16 #[rv a1, rv a2] []) s1 EF := fun t k => pre10 t (st11 t k)
  have O13 : Old Z n0 h11 := O7.wr W11 g_a1
  have Z13 : n0 ≤ h11.size := Nat.le_trans Z7 (Keep.of_wr W11).1
  have Fw11 := Fld.same W11 (Fld.other W5 F_stackTrace (Or.inr (slot_ne (Or.inl (hw _ (mW 169 rfl))) (Or.inl (hw _ (mW 166 rfl))) (by decide) (t := (.array (.object "java/lang/StackTraceElement"))) (t' := (.object "java/lang/Throwable")) (by decide) (by decide))))
  have N11 := Fr.snoc X11 N5 g_a1
  have pre14 : Go p e bl T11 (mkF m 17 #[rv a1, rv a2] [(.ref a1)]) s1 EF := fun t k => pre12 t (by
   exact XS.aloadN X11.here hx rfl (B d32_16) rfl rfl k)
  obtain ⟨T15, X15, e15, st15⟩ := getS2 X11 hx hZ hown (host := "") (Or.inl (hw _ (mW 170 rfl))) Via.refl e11 (SS.ext O13.2) (g := (mkF m 17 #[rv a1, rv a2] [(.ref a1)])) rfl (B d32_17)
  have pre16 : Go p e bl T15 (mkF m 20 #[rv a1, rv a2] [u1.v, (.ref a1)]) s1 EF := fun t k => pre14 t (st15 t k)
  obtain ⟨T17, h17, X17, e17, W17, st17⟩ := putF X15 hx hZ hown (host := "") (Or.inl (hw _ (mW 171 rfl))) Via.refl e15 (Fld.other W11 (Fld.other W5 F_suppressedExceptions (Or.inr (slot_ne (Or.inl (hw _ (mW 172 rfl))) (Or.inl (hw _ (mW 166 rfl))) (by decide) (t := (.object "java/util/List")) (t' := (.object "java/lang/Throwable")) (by decide) (by decide)))) (Or.inr (slot_ne (Or.inl (hw _ (mW 172 rfl))) (Or.inl (hw _ (mW 169 rfl))) (by decide) (t := (.object "java/util/List")) (t' := (.array (.object "java/lang/StackTraceElement"))) (by decide) (by decide)))) ((E1.wr W5).wr W11) (Or.inl (hw _ (mW 172 rfl))) (hw _ (mW 38 rfl)) (ty := (.object "java/util/List")) (by decide) (narrow_refV _ u1) (fits_refV_object _ u1) (g := (mkF m 20 #[rv a1, rv a2] [u1.v, (.ref a1)])) rfl rfl (B d32_20)
  have pre18 : Go p e bl T17 (mkF m 23 #[rv a1, rv a2] []) s1 EF := fun t k => pre16 t (st17 t k)
  have O19 : Old Z n0 h17 := O13.wr W17 g_a1
  have Z19 : n0 ≤ h17.size := Nat.le_trans Z13 (Keep.of_wr W17).1
  have Fw17 := Fld.same W17 (Fld.other W11 (Fld.other W5 F_suppressedExceptions (Or.inr (slot_ne (Or.inl (hw _ (mW 172 rfl))) (Or.inl (hw _ (mW 166 rfl))) (by decide) (t := (.object "java/util/List")) (t' := (.object "java/lang/Throwable")) (by decide) (by decide)))) (Or.inr (slot_ne (Or.inl (hw _ (mW 172 rfl))) (Or.inl (hw _ (mW 169 rfl))) (by decide) (t := (.object "java/util/List")) (t' := (.array (.object "java/lang/StackTraceElement"))) (by decide) (by decide))))
  have N17 := Fr.snoc X17 N11 g_a1
  have pre20 : Go p e bl T17 (mkF m 24 #[rv a1, rv a2] [(.ref a1)]) s1 EF := fun t k => pre18 t (by
   exact XS.aloadN X17.here hx rfl (B d32_23) rfl rfl k)
  obtain ⟨T21, Lf21, cl21, cm21, hLf21, X21, q21a, q21b, w21a, w21b, w21c, w21d, st21⟩ := own_fill X17 hx hl hZ hw hown (by rw [hh]; exact TH0) hTK hBl e17 (((E1.wr W5).wr W11).wr W17) (Unt.wr W17 (Unt.wr W11 (Unt.wr W5 U1))) (Fld.other W17 Fw11 (Or.inr (slot_ne (Or.inl (hw _ (mW 169 rfl))) (Or.inl (hw _ (mW 172 rfl))) (by decide) (t := (.array (.object "java/lang/StackTraceElement"))) (t' := (.object "java/util/List")) (by decide) (by decide)))) (Fld.other W17 (Fld.other W11 (Fld.other W5 F_backtrace (Or.inr (slot_ne (Or.inl (hw _ (mW 197 rfl))) (Or.inl (hw _ (mW 166 rfl))) (by decide) (t := (.object "java/lang/Object")) (t' := (.object "java/lang/Throwable")) (by decide) (by decide)))) (Or.inr (slot_ne (Or.inl (hw _ (mW 197 rfl))) (Or.inl (hw _ (mW 169 rfl))) (by decide) (t := (.object "java/lang/Object")) (t' := (.array (.object "java/lang/StackTraceElement"))) (by decide) (by decide)))) (Or.inr (slot_ne (Or.inl (hw _ (mW 197 rfl))) (Or.inl (hw _ (mW 172 rfl))) (by decide) (t := (.object "java/lang/Object")) (t' := (.object "java/util/List")) (by decide) (by decide)))) (SU.ext O19.2) (g := (mkF m 24 #[rv a1, rv a2] [(.ref a1)])) rfl (hM rfl) rfl rfl (B d32_24) (by decide) (by decide) (by decide) (by decide)
  have pre22 : Go p e bl T21 (mkF m 27 #[rv a1, rv a2] [(.ref a1)]) s1 EF := fun t k => pre20 t (st21 t k)
  have KF21 : Keep h0 T21.heap [a1] := own_keep X21 hh (AtA.nil.snoc.snoc.snoc.app hLf21)
  have OF21 : Old Z n0 T21.heap := O0.keep KF21 (allS g_a1 all0)
  have ZF21 : n0 ≤ T21.heap.size := Nat.le_trans Z0 KF21.1
  have N21 := Fr.app N17 (fun y hy => by rw [hLf21 y hy]; exact g_a1)
  have EF21 := own_exa6 (((E1.wr W5).wr W11).wr W17) q21a q21b w21a w21b w21c
  have FF21_detailMessage := own_fld6 (Fld.other W17 (Fld.other W11 (Fld.other W5 F_detailMessage (Or.inr (slot_ne (Or.inl (hw _ (mW 196 rfl))) (Or.inl (hw _ (mW 166 rfl))) (by decide) (t := (.object "java/lang/String")) (t' := (.object "java/lang/Throwable")) (by decide) (by decide)))) (Or.inr (slot_ne (Or.inl (hw _ (mW 196 rfl))) (Or.inl (hw _ (mW 169 rfl))) (by decide) (t := (.object "java/lang/String")) (t' := (.array (.object "java/lang/StackTraceElement"))) (by decide) (by decide)))) (Or.inr (slot_ne (Or.inl (hw _ (mW 196 rfl))) (Or.inl (hw _ (mW 172 rfl))) (by decide) (t := (.object "java/lang/String")) (t' := (.object "java/util/List")) (by decide) (by decide)))) q21a q21b w21a w21b (w21d _ (slot_ne (C := "com/example/picketline/picketline/io/InputException") (Or.inl (hw _ (mW 196 rfl))) (Or.inl (hw _ (mW 197 rfl))) (by decide) (t := (.object "java/lang/String")) (t' := (.object "java/lang/Object")) (by decide) (by decide)) (slot_ne (C := "com/example/picketline/picketline/io/InputException") (Or.inl (hw _ (mW 196 rfl))) (Or.inl (hw _ (mW 198 rfl))) (by decide) (t := (.object "java/lang/String")) (t' := .int) (by decide) (by decide)) (slot_ne (C := "com/example/picketline/picketline/io/InputException") (Or.inl (hw _ (mW 196 rfl))) (Or.inl (hw _ (mW 169 rfl))) (by decide) (t := (.object "java/lang/String")) (t' := (.array (.object "java/lang/StackTraceElement"))) (by decide) (by decide)))
  have FF21_where := own_fld6 (Fld.other W17 (Fld.other W11 (Fld.other W5 F_where (Or.inr (slot_ne (Or.inr (hw _ (mW 202 rfl))) (Or.inl (hw _ (mW 166 rfl))) (by decide) (t := (.object "java/lang/String")) (t' := (.object "java/lang/Throwable")) (by decide) (by decide)))) (Or.inr (slot_ne (Or.inr (hw _ (mW 202 rfl))) (Or.inl (hw _ (mW 169 rfl))) (by decide) (t := (.object "java/lang/String")) (t' := (.array (.object "java/lang/StackTraceElement"))) (by decide) (by decide)))) (Or.inr (slot_ne (Or.inr (hw _ (mW 202 rfl))) (Or.inl (hw _ (mW 172 rfl))) (by decide) (t := (.object "java/lang/String")) (t' := (.object "java/util/List")) (by decide) (by decide)))) q21a q21b w21a w21b (w21d _ (slot_ne (C := "com/example/picketline/picketline/io/InputException") (Or.inr (hw _ (mW 202 rfl))) (Or.inl (hw _ (mW 197 rfl))) (by decide) (t := (.object "java/lang/String")) (t' := (.object "java/lang/Object")) (by decide) (by decide)) (slot_ne (C := "com/example/picketline/picketline/io/InputException") (Or.inr (hw _ (mW 202 rfl))) (Or.inl (hw _ (mW 198 rfl))) (by decide) (t := (.object "java/lang/String")) (t' := .int) (by decide) (by decide)) (slot_ne (C := "com/example/picketline/picketline/io/InputException") (Or.inr (hw _ (mW 202 rfl))) (Or.inl (hw _ (mW 169 rfl))) (by decide) (t := (.object "java/lang/String")) (t' := (.array (.object "java/lang/StackTraceElement"))) (by decide) (by decide)))
  have FF21_problem := own_fld6 (Fld.other W17 (Fld.other W11 (Fld.other W5 F_problem (Or.inr (slot_ne (Or.inr (hw _ (mW 204 rfl))) (Or.inl (hw _ (mW 166 rfl))) (by decide) (t := (.object "java/lang/String")) (t' := (.object "java/lang/Throwable")) (by decide) (by decide)))) (Or.inr (slot_ne (Or.inr (hw _ (mW 204 rfl))) (Or.inl (hw _ (mW 169 rfl))) (by decide) (t := (.object "java/lang/String")) (t' := (.array (.object "java/lang/StackTraceElement"))) (by decide) (by decide)))) (Or.inr (slot_ne (Or.inr (hw _ (mW 204 rfl))) (Or.inl (hw _ (mW 172 rfl))) (by decide) (t := (.object "java/lang/String")) (t' := (.object "java/util/List")) (by decide) (by decide)))) q21a q21b w21a w21b (w21d _ (slot_ne (C := "com/example/picketline/picketline/io/InputException") (Or.inr (hw _ (mW 204 rfl))) (Or.inl (hw _ (mW 197 rfl))) (by decide) (t := (.object "java/lang/String")) (t' := (.object "java/lang/Object")) (by decide) (by decide)) (slot_ne (C := "com/example/picketline/picketline/io/InputException") (Or.inr (hw _ (mW 204 rfl))) (Or.inl (hw _ (mW 198 rfl))) (by decide) (t := (.object "java/lang/String")) (t' := .int) (by decide) (by decide)) (slot_ne (C := "com/example/picketline/picketline/io/InputException") (Or.inr (hw _ (mW 204 rfl))) (Or.inl (hw _ (mW 169 rfl))) (by decide) (t := (.object "java/lang/String")) (t' := (.array (.object "java/lang/StackTraceElement"))) (by decide) (by decide)))
  have pre23 : Go p e bl T21 (mkF m 30 #[rv a1, rv a2] [(.ref a2), (.ref a1)]) s1 EF := fun t k => pre22 t (by
   refine XS.pop X21.here hx rfl (B d32_27) rfl rfl ?_
   refine XS.aloadN X21.here hx rfl (B d32_28) rfl rfl ?_
   exact XS.aloadN X21.here hx rfl (B d32_29) rfl rfl k)
  obtain ⟨T24, h24, X24, e24, W24, st24⟩ := putF X21 hx hZ hown (host := "") (Or.inl (hw _ (mW 200 rfl))) Via.refl rfl FF21_detailMessage EF21 (Or.inl (hw _ (mW 196 rfl))) (hw _ (mW 38 rfl)) (ty := (.object "java/lang/String")) (by decide) rfl rfl (g := (mkF m 30 #[rv a1, rv a2] [(.ref a2), (.ref a1)])) rfl rfl (B d32_30)
  have pre25 : Go p e bl T24 (mkF m 33 #[rv a1, rv a2] []) s1 EF := fun t k => pre23 t (st24 t k)
  have O26 : Old Z n0 h24 := OF21.wr W24 g_a1
  have Z26 : n0 ≤ h24.size := Nat.le_trans ZF21 (Keep.of_wr W24).1
  have Fw24 := Fld.same W24 FF21_detailMessage
  have N24 := Fr.snoc X24 N21 g_a1
  have KE : Keep h0 h24 [a1] := by rw [← e24]; exact own_keep X24 hh ((AtA.nil.snoc.snoc.snoc.app hLf21).snoc)
  exact fin1 X24 (v := none) (fun _ => rfl) hlk (wl rfl) (wl rfl) (by rw [e24]; exact ⟨rfl, N24, KE, (EF21.wr W24), Fw24, (Fld.other W24 FF21_where (Or.inr (slot_ne (Or.inr (hw _ (mW 202 rfl))) (Or.inl (hw _ (mW 196 rfl))) (by decide) (t := (.object "java/lang/String")) (t' := (.object "java/lang/String")) (by decide) (by decide)))), (Fld.other W24 FF21_problem (Or.inr (slot_ne (Or.inr (hw _ (mW 204 rfl))) (Or.inl (hw _ (mW 196 rfl))) (by decide) (t := (.object "java/lang/String")) (t' := (.object "java/lang/String")) (by decide) (by decide))))⟩) (fun fs hr => hEF ▸ pre25 _ (X24.returnOut hx Bd.returns (B d32_33) hr))
abbrev rKEI : Room := { frames := 4, cells := 1, slots := 2752, locals := 55 }
theorem d33_0 : decode jdk_59_method_2_code 0 = .ok (.aload_n 0, 1) := by decide +kernel
theorem d33_1 : decode jdk_59_method_2_code 1 = .ok (.aload_n 1, 1) := by decide +kernel
theorem d33_2 : decode jdk_59_method_2_code 2 = .ok (.invokespecial 7, 3) := by decide +kernel
theorem d33_5 : decode jdk_59_method_2_code 5 = .ok (.return_, 1) := by decide +kernel
theorem pn9 : plainName "java/lang/Exception" = true := by first | (simp [plainName, overriddenIn]; done) | decide +kernel
theorem efEI (m : MethodId) (a1 : Addr) (a2 : Addr) : entryFrame m #[(.ref a1), (.ref a2)] 2 = mkF m 0 #[rv a1, rv a2] [] := by first | (simp [entryFrame, mkF, argsToLocals, Value.category]; done) | rfl
def QEI (Z : State) (a1 : Addr) (a2 : Addr) (cz : Int32) (fv : Value) (u0 : RefV) (u1 : RefV) (h0 : Heap) (n0 : Nat) (v : Option Value) (h : Heap) (L : List Loc) : Prop := v = none ∧ Fr n0 L ∧ Keep h0 h [a1] ∧ Exa Z h a1 "com/example/picketline/picketline/io/InputException" ∧ Fld Z h a1 "java/lang/Throwable" "detailMessage" "Ljava/lang/String;" (.ref a2) ∧ Fld Z h a1 "com/example/picketline/picketline/io/InputException" "where" "Ljava/lang/String;" .null ∧ Fld Z h a1 "com/example/picketline/picketline/io/InputException" "problem" "Ljava/lang/String;" .null
set_option maxRecDepth 65536 in
set_option maxHeartbeats 40000000 in
theorem rmEI (l : Launch) (Z : State) (a0 : Array Value) (hw : HW a0 Z) (ws : List Jvm.Cond) (a1 : Addr) (a2 : Addr) (cz : Int32) (fv : Value) (u0 : RefV) (u1 : RefV) (h0 : Heap) (n0 : Nat) (Z0 : n0 ≤ h0.size) (O0 : Old Z n0 h0) (J0 : Jd Z cz fv) (E1 : Exa Z h0 a1 "com/example/picketline/picketline/io/InputException") (g_a1 : n0 ≤ a1) (U1 : Unt h0 a1) (F_cause : Fld Z h0 a1 "java/lang/Throwable" "cause" "Ljava/lang/Throwable;" .null) (F_stackTrace : Fld Z h0 a1 "java/lang/Throwable" "stackTrace" "[Ljava/lang/StackTraceElement;" .null) (F_suppressedExceptions : Fld Z h0 a1 "java/lang/Throwable" "suppressedExceptions" "Ljava/util/List;" .null) (F_backtrace : Fld Z h0 a1 "java/lang/Throwable" "backtrace" "Ljava/lang/Object;" .null) (F_detailMessage : Fld Z h0 a1 "java/lang/Throwable" "detailMessage" "Ljava/lang/String;" .null) (F_where : Fld Z h0 a1 "com/example/picketline/picketline/io/InputException" "where" "Ljava/lang/String;" .null) (F_problem : Fld Z h0 a1 "com/example/picketline/picketline/io/InputException" "problem" "Ljava/lang/String;" .null) (TH0 : ThS Z h0) (SU : Sta Z Z.heap "java/lang/Throwable" "UNASSIGNED_STACK" "[Ljava/lang/StackTraceElement;" u0.v) (SS : Sta Z Z.heap "java/lang/Throwable" "SUPPRESSED_SENTINEL" "Ljava/util/List;" u1.v) (hl : l.stackTraces = true) :
    MK l Z mN33 jdk_59_method_2_code 2 none ws rKEI #[(.ref a1), (.ref a2)] h0 (QEI Z a1 a2 cz fv u0 u1 h0 n0) := by
  refine MetFree.of_bodySF (plainFor_of_name pn9) hisR ?_
  intro p e s m args bl meth c s1 Bd hml0 hP hK
  obtain ⟨rfl, hZ, hh⟩ := hP
  have hx := Bd.exec
  have hby := Bd.bytes
  have B := @hb c _ hby
  have hM := fun {n : Nat} (h : n = 2) => h.trans hml0.symm
  have hown : s.vm.findClass "java/lang/Exception" = some m.cls := findClass_of_methodNamed Bd.named
  have hlk : meth.locks = false := BodyLoose.notSynchronized Bd
  have X0 : Stand p l e rKEI s m #[(.ref a1), (.ref a2)] bl meth c s1 [] 0 0 := Stand.of_body Bd
  have e0 : s1.heap = h0 := by rw [← hh, Bd.state]; rfl
  have N0 := Fr.nil n0
  obtain ⟨EF, hEF⟩ : ∃ f, f = entryFrame m #[(.ref a1), (.ref a2)] 2 := ⟨_, rfl⟩
  have pre0 : Go p e bl s1 (mkF m 0 #[rv a1, rv a2] []) s1 EF := fun t k => by rw [hEF]; exact castTop (efEI m a1 a2) k
  have hTK : s.vm.MethodsKnown := hK.1
  have hBl : s.vm.FramesKnown bl := hK.2
  have pre1 : Go p e bl s1 (mkF m 2 #[rv a1, rv a2] [(.ref a2), (.ref a1)]) s1 EF := fun t k => pre0 t (by
   refine XS.aloadN X0.here hx rfl (B d33_0) rfl rfl ?_
   exact XS.aloadN X0.here hx rfl (B d33_1) rfl rfl k)
  obtain ⟨_, _, ⟨T2, L2, k2, n2⟩, -, X2, ⟨Lc2, hQ2, l2, y2, z2⟩, st2⟩ := X0.specialBack hx (y := mN32) rfl hown (mvT hZ (hw _ (mW 158 rfl))) (mvT hZ (hw _ (mW 159 rfl))) (mvT hZ (hw _ (mW 163 rfl))) (by decide) (backOfKL (W := 0) (rmTI l Z a0 hw [] a1 a2 cz fv u0 u1 h0 n0 Z0 O0 J0 E1 g_a1 U1 F_cause F_stackTrace F_suppressedExceptions F_backtrace F_detailMessage F_where F_problem TH0 SU SS hl) hZ (hw _ (mW 163 rfl)) (hw _ (mW 162 rfl)) (by decide) (by decide) hTK hBl) (g := (mkF m 2 #[rv a1, rv a2] [(.ref a2), (.ref a1)])) rfl (hM rfl) (Steps.refl _) (a := a1) (argsL := [(.ref a2)]) (rest := []) (lenOf pd6 rfl) rfl (Nat.le_of_eq rfl) (B d33_2) (fun _ _ => ⟨rfl, e0, wl rfl, wl rfl⟩)
  dsimp only [Pt.U, Pt.locs, Pt.cells, Pt.slots] at X2 l2 y2 z2 st2 hQ2
  subst l2 y2 z2
  obtain ⟨rfl, N2q, K2, EX2, DM2, FA2, FB2⟩ := hQ2
  have N2 := Fr.app N0 N2q
  have pre3 : Go p e bl T2 (mkF m 5 #[rv a1, rv a2] []) s1 EF := fun t k => pre1 t (st2.trans k)
  have TH4 : ThS Z T2.heap := ThS.keep K2 (nsS (E1).nostat ns0) TH0
  have O4 : Old Z n0 T2.heap := O0.keep K2 (allS g_a1 all0)
  have Z4 : n0 ≤ T2.heap.size := Nat.le_trans Z0 K2.1
  have K4 : Keep h0 T2.heap [a1] := (Keep.refl h0 [a1]).trans K2 (allS (Or.inl (mg 0 rfl)) all0)
  exact fin1 X2 (v := none) (fun _ => rfl) hlk (wl rfl) (wl rfl) (by exact ⟨rfl, N2, K4, EX2, DM2, FA2, FB2⟩) (fun fs hr => hEF ▸ pre3 _ (X2.returnOut hx Bd.returns (B d33_5) hr))
abbrev rKIE : Room := { frames := 6, cells := 5, slots := 2792, locals := 114 }
theorem d34_0 : decode prog_5_method_1_code 0 = .ok (.aload_n 0, 1) := by decide +kernel
theorem d34_1 : decode prog_5_method_1_code 1 = .ok (.new 1, 3) := by decide +kernel
theorem d34_4 : decode prog_5_method_1_code 4 = .ok (.dup, 1) := by decide +kernel
theorem d34_5 : decode prog_5_method_1_code 5 = .ok (.invokespecial 3, 3) := by decide +kernel
theorem d34_8 : decode prog_5_method_1_code 8 = .ok (.aload_n 1, 1) := by decide +kernel
theorem d34_9 : decode prog_5_method_1_code 9 = .ok (.invokevirtual 7, 3) := by decide +kernel
theorem d34_12 : decode prog_5_method_1_code 12 = .ok (.aload_n 2, 1) := by decide +kernel
theorem d34_13 : decode prog_5_method_1_code 13 = .ok (.invokevirtual 7, 3) := by decide +kernel
theorem d34_16 : decode prog_5_method_1_code 16 = .ok (.invokevirtual 11, 3) := by decide +kernel
theorem d34_19 : decode prog_5_method_1_code 19 = .ok (.invokespecial 15, 3) := by decide +kernel
theorem d34_22 : decode prog_5_method_1_code 22 = .ok (.aload_n 0, 1) := by decide +kernel
theorem d34_23 : decode prog_5_method_1_code 23 = .ok (.aload_n 1, 1) := by decide +kernel
theorem d34_24 : decode prog_5_method_1_code 24 = .ok (.putfield 20, 3) := by decide +kernel
theorem d34_27 : decode prog_5_method_1_code 27 = .ok (.aload_n 0, 1) := by decide +kernel
theorem d34_28 : decode prog_5_method_1_code 28 = .ok (.aload_n 2, 1) := by decide +kernel
theorem d34_29 : decode prog_5_method_1_code 29 = .ok (.putfield 26, 3) := by decide +kernel
theorem d34_32 : decode prog_5_method_1_code 32 = .ok (.return_, 1) := by decide +kernel
theorem pn10 : plainName "com/example/picketline/picketline/io/InputException" = true := by first | (simp [plainName, overriddenIn]; done) | decide +kernel
theorem pd21 : parseMethodDescriptor "()V" = some ⟨[], none⟩ := by decide +kernel
theorem pd22 : parseMethodDescriptor "(Ljava/lang/String;)Ljava/lang/StringBuilder;" = some ⟨[(.object "java/lang/String")], some (.object "java/lang/StringBuilder")⟩ := by decide +kernel
theorem pd23 : parseMethodDescriptor "()Ljava/lang/String;" = some ⟨[], some (.object "java/lang/String")⟩ := by decide +kernel
theorem efIE (m : MethodId) (a1 : Addr) (a2 : Addr) (a3 : Addr) : entryFrame m #[(.ref a1), (.ref a2), (.ref a3)] 3 = mkF m 0 #[rv a1, rv a2, rv a3] [] := by first | (simp [entryFrame, mkF, argsToLocals, Value.category]; done) | rfl
def QIE (Z : State) (a1 : Addr) (a2 : Addr) (a3 : Addr) (cz : Int32) (fv : Value) (u0 : RefV) (u1 : RefV) (bW : Addr) (kW : ClassId) (nW : Int32) (bsW : List Int32) (bP : Addr) (kP : ClassId) (nP : Int32) (bsP : List Int32) (h0 : Heap) (n0 : Nat) (v : Option Value) (h : Heap) (L : List Loc) : Prop := ∃ ms mb mk nm, v = none ∧ Fr n0 L ∧ Keep h0 h [a1] ∧ Exa Z h a1 "com/example/picketline/picketline/io/InputException" ∧ Fld Z h a1 "java/lang/Throwable" "detailMessage" "Ljava/lang/String;" (.ref ms) ∧ Fld Z h a1 "com/example/picketline/picketline/io/InputException" "where" "Ljava/lang/String;" (.ref a2) ∧ Fld Z h a1 "com/example/picketline/picketline/io/InputException" "problem" "Ljava/lang/String;" (.ref a3) ∧ h0.size ≤ ms ∧ StL Z h ms mb mk nm (bsW ++ bsP) 0 0 ∧ nm.toInt = (bsW ++ bsP).length
set_option maxRecDepth 65536 in
set_option maxHeartbeats 40000000 in
theorem rmIE (l : Launch) (Z : State) (a0 : Array Value) (hw : HW a0 Z) (ws : List Jvm.Cond) (a1 : Addr) (a2 : Addr) (a3 : Addr) (cz : Int32) (fv : Value) (u0 : RefV) (u1 : RefV) (bW : Addr) (kW : ClassId) (nW : Int32) (bsW : List Int32) (bP : Addr) (kP : ClassId) (nP : Int32) (bsP : List Int32) (h0 : Heap) (n0 : Nat) (Z0 : n0 ≤ h0.size) (O0 : Old Z n0 h0) (J0 : Jd Z cz fv) (E1 : Exa Z h0 a1 "com/example/picketline/picketline/io/InputException") (g_a1 : n0 ≤ a1) (U1 : Unt h0 a1) (F_cause : Fld Z h0 a1 "java/lang/Throwable" "cause" "Ljava/lang/Throwable;" .null) (F_stackTrace : Fld Z h0 a1 "java/lang/Throwable" "stackTrace" "[Ljava/lang/StackTraceElement;" .null) (F_suppressedExceptions : Fld Z h0 a1 "java/lang/Throwable" "suppressedExceptions" "Ljava/util/List;" .null) (F_backtrace : Fld Z h0 a1 "java/lang/Throwable" "backtrace" "Ljava/lang/Object;" .null) (F_detailMessage : Fld Z h0 a1 "java/lang/Throwable" "detailMessage" "Ljava/lang/String;" .null) (F_where : Fld Z h0 a1 "com/example/picketline/picketline/io/InputException" "where" "Ljava/lang/String;" .null) (F_problem : Fld Z h0 a1 "com/example/picketline/picketline/io/InputException" "problem" "Ljava/lang/String;" .null) (TH0 : ThS Z h0) (SLW : StL Z h0 a2 bW kW nW bsW 0 0) (SLP : StL Z h0 a3 bP kP nP bsP 0 0) (gnW : nW.toInt = bsW.length) (gnP : nP.toInt = bsP.length) (hs : bsW.length + bsP.length ≤ 12) (SU : Sta Z Z.heap "java/lang/Throwable" "UNASSIGNED_STACK" "[Ljava/lang/StackTraceElement;" u0.v) (SS : Sta Z Z.heap "java/lang/Throwable" "SUPPRESSED_SENTINEL" "Ljava/util/List;" u1.v) (hl : l.stackTraces = true) :
    MK l Z mN34 prog_5_method_1_code 3 none ws rKIE #[(.ref a1), (.ref a2), (.ref a3)] h0 (QIE Z a1 a2 a3 cz fv u0 u1 bW kW nW bsW bP kP nP bsP h0 n0) := by
  refine MetFree.of_bodySF (plainFor_of_name pn10) hisR ?_
  intro p e s m args bl meth c s1 Bd hml0 hP hK
  obtain ⟨rfl, hZ, hh⟩ := hP
  have hx := Bd.exec
  have hby := Bd.bytes
  have B := @hb c _ hby
  have hM := fun {n : Nat} (h : n = 3) => h.trans hml0.symm
  have hown : s.vm.findClass "com/example/picketline/picketline/io/InputException" = some m.cls := findClass_of_methodNamed Bd.named
  have hnm := (name_of_methodNamed Bd.named Bd.method).1
  have hlk : meth.locks = false := BodyLoose.notSynchronized Bd
  have X0 : Stand p l e rKIE s m #[(.ref a1), (.ref a2), (.ref a3)] bl meth c s1 [] 0 0 := Stand.of_body Bd
  have e0 : s1.heap = h0 := by rw [← hh, Bd.state]; rfl
  have N0 := Fr.nil n0
  obtain ⟨EF, hEF⟩ : ∃ f, f = entryFrame m #[(.ref a1), (.ref a2), (.ref a3)] 3 := ⟨_, rfl⟩
  have pre0 : Go p e bl s1 (mkF m 0 #[rv a1, rv a2, rv a3] []) s1 EF := fun t k => by rw [hEF]; exact castTop (efIE m a1 a2 a3) k
  have hTK : s.vm.MethodsKnown := hK.1
  have hBl : s.vm.FramesKnown bl := hK.2
  have pre1 : Go p e bl s1 (mkF m 1 #[rv a1, rv a2, rv a3] [(.ref a1)]) s1 EF := fun t k => pre0 t (by
   exact XS.aloadN X0.here hx rfl (B d34_0) rfl rfl k)
  obtain ⟨T2, h2, X2, e2, Et2, A2, D2, U2, st2⟩ := newO X0 hx hZ hown (hw _ (mW 43 rfl)) (hw _ (mW 44 rfl)) (hw _ (mW 45 rfl)) e0 (g := (mkF m 1 #[rv a1, rv a2, rv a3] [(.ref a1)])) rfl (B d34_1) (by decide) (by decide)
  obtain ⟨b2, g2⟩ : ∃ z, z = h0.size := ⟨_, rfl⟩
  rw [← g2] at A2 st2 D2
  have g_b2 : n0 ≤ b2 := Nat.le_trans Z0 (Nat.le_of_eq g2.symm)
  have sz_b2 : h0.size ≤ b2 := Nat.le_trans (Keep.refl h0 [a1]).1 (Nat.le_of_eq g2.symm)
  have ne_a1_b2 : a1 ≠ b2 := Nat.ne_of_lt (Nat.lt_of_lt_of_le E1.lt (Nat.le_of_eq g2.symm))
  have ne_a2_b2 : a2 ≠ b2 := Nat.ne_of_lt (Nat.lt_of_lt_of_le SLW.1.lt (Nat.le_of_eq g2.symm))
  have ne_bW_b2 : bW ≠ b2 := Nat.ne_of_lt (Nat.lt_of_lt_of_le SLW.2.2.2.1.lt (Nat.le_of_eq g2.symm))
  have ne_a3_b2 : a3 ≠ b2 := Nat.ne_of_lt (Nat.lt_of_lt_of_le SLP.1.lt (Nat.le_of_eq g2.symm))
  have ne_bP_b2 : bP ≠ b2 := Nat.ne_of_lt (Nat.lt_of_lt_of_le SLP.2.2.2.1.lt (Nat.le_of_eq g2.symm))
  have pre3 : Go p e bl T2 (mkF m 4 #[rv a1, rv a2, rv a3] [(.ref b2), (.ref a1)]) s1 EF := fun t k => pre1 t (st2 t k)
  have TH4 : ThS Z h2 := ThS.ext Et2 TH0
  have O4 : Old Z n0 h2 := O0.ext Et2
  have Z4 : n0 ≤ h2.size := Nat.le_trans Z0 Et2.1
  have K4 : Keep h0 h2 [a1] := (Keep.refl h0 [a1]).ext Et2
  have UN2 : Unt h2 b2 := by rw [g2]; exact U2
  have F_value_b2 : Fld Z h2 b2 "java/lang/AbstractStringBuilder" "value" "[B" .null := D2 (Or.inl (hw _ (mW 58 rfl))) (ty := (.array .byte)) (by decide)
  have F_coder_b2 : Fld Z h2 b2 "java/lang/AbstractStringBuilder" "coder" "B" (.int 0) := D2 (Or.inl (hw _ (mW 60 rfl))) (ty := .byte) (by decide)
  have F_count_b2 : Fld Z h2 b2 "java/lang/AbstractStringBuilder" "count" "I" (.int 0) := D2 (Or.inl (hw _ (mW 82 rfl))) (ty := .int) (by decide)
  have pre5 : Go p e bl T2 (mkF m 5 #[rv a1, rv a2, rv a3] [(.ref b2), (.ref b2), (.ref a1)]) s1 EF := fun t k => pre3 t (by
   exact XS.dup X2.here hx rfl (B d34_4) rfl rfl k)
  obtain ⟨_, _, ⟨T6, L6, k6, n6⟩, -, X6, ⟨Lc6, hQ6, l6, y6, z6⟩, st6⟩ := X2.specialBack hx (y := mN8) rfl hown (mvT hZ (hw _ (mW 46 rfl))) (mvT hZ (hw _ (mW 47 rfl))) (mvT hZ (hw _ (mW 48 rfl))) (by decide) (backOf (W := 2) (rmSi l Z a0 hw [] b2 cz fv  h2 n0 Z4 O4 J0 A2 g_b2 F_value_b2 F_coder_b2 F_count_b2) hZ (hw _ (mW 48 rfl)) (hw _ (mW 45 rfl)) (by decide) (by decide)) (g := (mkF m 5 #[rv a1, rv a2, rv a3] [(.ref b2), (.ref b2), (.ref a1)])) rfl (hM rfl) (Steps.refl _) (a := b2) (argsL := []) (rest := [(.ref b2), (.ref a1)]) (lenOf pd21 rfl) rfl (Nat.le_of_eq rfl) (B d34_5) (fun _ _ => ⟨rfl, e2, wl rfl, wl rfl⟩)
  dsimp only [Pt.U, Pt.locs, Pt.cells, Pt.slots] at X6 l6 y6 z6 st6 hQ6
  subst l6 y6 z6
  obtain ⟨rfl, N6q, K6, bv6, kb6, hsz6, SF6⟩ := hQ6
  have N6 := Fr.app N0 N6q
  have pre7 : Go p e bl T6 (mkF m 8 #[rv a1, rv a2, rv a3] [(.ref b2), (.ref a1)]) s1 EF := fun t k => pre5 t (st6.trans k)
  have TH8 : ThS Z T6.heap := ThS.keep K6 (nsS (A2).nostat ns0) TH4
  have O8 : Old Z n0 T6.heap := O4.keep K6 (allS g_b2 all0)
  have Z8 : n0 ≤ T6.heap.size := Nat.le_trans Z4 K6.1
  have K8 : Keep h0 T6.heap [a1] := K4.trans K6 (allS (Or.inr sz_b2) all0)
  have g_bv6 : n0 ≤ bv6 := Nat.le_trans Z4 hsz6
  have sz_bv6 : h0.size ≤ bv6 := Nat.le_trans K4.1 hsz6
  have ne_a1_bv6 : a1 ≠ bv6 := Nat.ne_of_lt (Nat.lt_of_lt_of_le (E1.ext Et2).lt hsz6)
  have ne_a2_bv6 : a2 ≠ bv6 := Nat.ne_of_lt (Nat.lt_of_lt_of_le (SLW.1.ext Et2).lt hsz6)
  have ne_bW_bv6 : bW ≠ bv6 := Nat.ne_of_lt (Nat.lt_of_lt_of_le (SLW.2.2.2.1.ext Et2).lt hsz6)
  have ne_a3_bv6 : a3 ≠ bv6 := Nat.ne_of_lt (Nat.lt_of_lt_of_le (SLP.1.ext Et2).lt hsz6)
  have ne_bP_bv6 : bP ≠ bv6 := Nat.ne_of_lt (Nat.lt_of_lt_of_le (SLP.2.2.2.1.ext Et2).lt hsz6)
  have ne_b2_bv6 : b2 ≠ bv6 := Nat.ne_of_lt (Nat.lt_of_lt_of_le A2.lt hsz6)
  have pre9 : Go p e bl T6 (mkF m 9 #[rv a1, rv a2, rv a3] [(.ref a2), (.ref b2), (.ref a1)]) s1 EF := fun t k => pre7 t (by
   exact XS.aloadN X6.here hx rfl (B d34_8) rfl rfl k)
  obtain ⟨cq10, kq10, q10a, q10b, q10c⟩ := isOf hZ rfl SF6.1
  obtain ⟨_, _, ⟨T10, L10, k10, n10⟩, -, X10, ⟨Lc10, hQ10, l10, y10, z10⟩, st10⟩ := X6.virtualBack hx (y := mN14) (z := mN14) hown (mvT hZ (hw _ (mW 61 rfl))) (mvT hZ (hw _ (mW 62 rfl))) (notFace_of_selects (args := #[]) (mvT hZ (hw _ (mW 64 rfl)))) (mvT hZ (hw _ (mW 64 rfl))) (mvT hZ (hw _ (mW 63 rfl))) (by decide) (backOf (W := 1) (rmSS l Z a0 hw [] b2 a2 cz fv bv6 kb6 (0 : Int32) [] bW kW nW bsW 0 0 T6.heap n0 Z8 O8 J0 SF6 ((SLW.ext Et2).keep K6 (ninS ne_a2_b2 nin0) (ninS ne_bW_b2 nin0)) g_b2 gnW (by (try simp only [List.length_append, List.length_nil, List.length_cons]) <;> omega) g_bv6) hZ (hw _ (mW 65 rfl)) (hw _ (mW 45 rfl)) (by decide) (by decide)) q10a q10c (g := (mkF m 9 #[rv a1, rv a2, rv a3] [(.ref a2), (.ref b2), (.ref a1)])) rfl (hM rfl) (Steps.refl _) (argsL := [(.ref a2)]) (rest := [(.ref a1)]) (lenOf pd22 rfl) rfl (Nat.le_of_eq rfl) (B d34_9) (fun _ _ => ⟨rfl, rfl, wl rfl, wl rfl⟩)
  dsimp only [Pt.U, Pt.locs, Pt.cells, Pt.slots] at X10 l10 y10 z10 st10 hQ10
  subst l10 y10 z10
  obtain ⟨rfl, N10q, K10, SF10⟩ := hQ10
  have N10 := Fr.app N6 N10q
  have pre11 : Go p e bl T10 (mkF m 12 #[rv a1, rv a2, rv a3] [(.ref b2), (.ref a1)]) s1 EF := fun t k => pre9 t (st10.trans k)
  have TH12 : ThS Z T10.heap := ThS.keep K10 (nsS (SF6.1).nostat (nsS (SF6.2.2.2.2.1).nostat ns0)) TH8
  have O12 : Old Z n0 T10.heap := O8.keep K10 (allS g_b2 (allS g_bv6 all0))
  have Z12 : n0 ≤ T10.heap.size := Nat.le_trans Z8 K10.1
  have K12 : Keep h0 T10.heap [a1] := K8.trans K10 (allS (Or.inr sz_b2) (allS (Or.inr sz_bv6) all0))
  have pre13 : Go p e bl T10 (mkF m 13 #[rv a1, rv a2, rv a3] [(.ref a3), (.ref b2), (.ref a1)]) s1 EF := fun t k => pre11 t (by
   exact XS.aloadN X10.here hx rfl (B d34_12) rfl rfl k)
  obtain ⟨cq14, kq14, q14a, q14b, q14c⟩ := isOf hZ rfl SF10.1
  obtain ⟨_, _, ⟨T14, L14, k14, n14⟩, -, X14, ⟨Lc14, hQ14, l14, y14, z14⟩, st14⟩ := X10.virtualBack hx (y := mN14) (z := mN14) hown (mvT hZ (hw _ (mW 61 rfl))) (mvT hZ (hw _ (mW 62 rfl))) (notFace_of_selects (args := #[]) (mvT hZ (hw _ (mW 64 rfl)))) (mvT hZ (hw _ (mW 64 rfl))) (mvT hZ (hw _ (mW 63 rfl))) (by decide) (backOf (W := 1) (rmSS l Z a0 hw [] b2 a3 cz fv bv6 kb6 ((0 : Int32) + nW) ([] ++ bsW) bP kP nP bsP 0 0 T10.heap n0 Z12 O12 J0 SF10 (((SLP.ext Et2).keep K6 (ninS ne_a3_b2 nin0) (ninS ne_bP_b2 nin0)).keep K10 (ninS ne_a3_b2 (ninS ne_a3_bv6 nin0)) (ninS ne_bP_b2 (ninS ne_bP_bv6 nin0))) g_b2 gnP (by (try simp only [List.length_append, List.length_nil, List.length_cons]) <;> omega) g_bv6) hZ (hw _ (mW 65 rfl)) (hw _ (mW 45 rfl)) (by decide) (by decide)) q14a q14c (g := (mkF m 13 #[rv a1, rv a2, rv a3] [(.ref a3), (.ref b2), (.ref a1)])) rfl (hM rfl) (Steps.refl _) (argsL := [(.ref a3)]) (rest := [(.ref a1)]) (lenOf pd22 rfl) rfl (Nat.le_of_eq rfl) (B d34_13) (fun _ _ => ⟨rfl, rfl, wl rfl, wl rfl⟩)
  dsimp only [Pt.U, Pt.locs, Pt.cells, Pt.slots] at X14 l14 y14 z14 st14 hQ14
  subst l14 y14 z14
  obtain ⟨rfl, N14q, K14, SF14⟩ := hQ14
  have N14 := Fr.app N10 N14q
  have pre15 : Go p e bl T14 (mkF m 16 #[rv a1, rv a2, rv a3] [(.ref b2), (.ref a1)]) s1 EF := fun t k => pre13 t (st14.trans k)
  have TH16 : ThS Z T14.heap := ThS.keep K14 (nsS (SF10.1).nostat (nsS (SF10.2.2.2.2.1).nostat ns0)) TH12
  have O16 : Old Z n0 T14.heap := O12.keep K14 (allS g_b2 (allS g_bv6 all0))
  have Z16 : n0 ≤ T14.heap.size := Nat.le_trans Z12 K14.1
  have K16 : Keep h0 T14.heap [a1] := K12.trans K14 (allS (Or.inr sz_b2) (allS (Or.inr sz_bv6) all0))
  obtain ⟨cq17, kq17, q17a, q17b, q17c⟩ := isOf hZ rfl SF14.1
  obtain ⟨_, _, ⟨T17, L17, k17, n17⟩, -, X17, ⟨Lc17, hQ17, l17, y17, z17⟩, st17⟩ := X14.virtualBack hx (y := mN25) (z := mN25) hown (mvT hZ (hw _ (mW 108 rfl))) (mvT hZ (hw _ (mW 109 rfl))) (notFace_of_selects (args := #[]) (mvT hZ (hw _ (mW 111 rfl)))) (mvT hZ (hw _ (mW 111 rfl))) (mvT hZ (hw _ (mW 110 rfl))) (by decide) (backOf (W := 1) (rmTt l Z a0 hw [] b2 cz fv bv6 kb6 (((0 : Int32) + nW) + nP) (([] ++ bsW) ++ bsP) T14.heap n0 Z16 O16 J0 SF14 (by (try simp only [List.length_append, List.length_nil, List.length_cons]) <;> omega)) hZ (hw _ (mW 112 rfl)) (hw _ (mW 45 rfl)) (by decide) (by decide)) q17a q17c (g := (mkF m 16 #[rv a1, rv a2, rv a3] [(.ref b2), (.ref a1)])) rfl (hM rfl) (Steps.refl _) (argsL := []) (rest := [(.ref a1)]) (lenOf pd23 rfl) rfl (Nat.le_of_eq rfl) (B d34_16) (fun _ _ => ⟨rfl, rfl, wl rfl, wl rfl⟩)
  dsimp only [Pt.U, Pt.locs, Pt.cells, Pt.slots] at X17 l17 y17 z17 st17 hQ17
  subst l17 y17 z17
  obtain ⟨ms, mb, mk17, rfl, N17q, K17, hsz17, SF17⟩ := hQ17
  have N17 := Fr.app N14 N17q
  have pre18 : Go p e bl T17 (mkF m 19 #[rv a1, rv a2, rv a3] [(.ref ms), (.ref a1)]) s1 EF := fun t k => pre15 t (st17.trans k)
  have TH19 : ThS Z T17.heap := ThS.keep K17 ns0 TH16
  have O19 : Old Z n0 T17.heap := O16.keep K17 all0
  have Z19 : n0 ≤ T17.heap.size := Nat.le_trans Z16 K17.1
  have K19 : Keep h0 T17.heap [a1] := K16.trans K17 all0
  have g_ms : n0 ≤ ms := Nat.le_trans Z16 hsz17
  have sz_ms : h0.size ≤ ms := Nat.le_trans K16.1 hsz17
  have ne_a1_ms : a1 ≠ ms := Nat.ne_of_lt (Nat.lt_of_lt_of_le ((((E1.ext Et2).keep K6).keep K10).keep K14).lt hsz17)
  have ne_a2_ms : a2 ≠ ms := Nat.ne_of_lt (Nat.lt_of_lt_of_le ((((SLW.1.ext Et2).keep K6).keep K10).keep K14).lt hsz17)
  have ne_bW_ms : bW ≠ ms := Nat.ne_of_lt (Nat.lt_of_lt_of_le ((((SLW.2.2.2.1.ext Et2).keep K6 (ninS ne_bW_b2 nin0)).keep K10 (ninS ne_bW_b2 (ninS ne_bW_bv6 nin0))).keep K14 (ninS ne_bW_b2 (ninS ne_bW_bv6 nin0))).lt hsz17)
  have ne_a3_ms : a3 ≠ ms := Nat.ne_of_lt (Nat.lt_of_lt_of_le ((((SLP.1.ext Et2).keep K6).keep K10).keep K14).lt hsz17)
  have ne_bP_ms : bP ≠ ms := Nat.ne_of_lt (Nat.lt_of_lt_of_le ((((SLP.2.2.2.1.ext Et2).keep K6 (ninS ne_bP_b2 nin0)).keep K10 (ninS ne_bP_b2 (ninS ne_bP_bv6 nin0))).keep K14 (ninS ne_bP_b2 (ninS ne_bP_bv6 nin0))).lt hsz17)
  have ne_b2_ms : b2 ≠ ms := Nat.ne_of_lt (Nat.lt_of_lt_of_le SF14.1.lt hsz17)
  have ne_bv6_ms : bv6 ≠ ms := Nat.ne_of_lt (Nat.lt_of_lt_of_le SF14.2.2.2.2.1.lt hsz17)
  have ne_mb : a1 ≠ mb := Exa.neArv (((((E1.ext Et2).keep K6).keep K10).keep K14).keep K17) SF17.2.2.2.1 (hw _ (mW 38 rfl))
  obtain ⟨_, _, ⟨T20, L20, k20, n20⟩, -, X20, ⟨Lc20, hQ20, l20, y20, z20⟩, st20⟩ := X17.specialBack hx (y := mN33) rfl hown (mvT hZ (hw _ (mW 153 rfl))) (mvT hZ (hw _ (mW 154 rfl))) (mvT hZ (hw _ (mW 157 rfl))) (by decide) (backOfKL (W := 0) (rmEI l Z a0 hw [] a1 ms cz fv u0 u1 T17.heap n0 Z19 O19 J0 (((((E1.ext Et2).keep K6).keep K10).keep K14).keep K17) g_a1 (Unt.keep K17 nin0 (Unt.keep K14 (ninS ne_a1_b2 (ninS ne_a1_bv6 nin0)) (Unt.keep K10 (ninS ne_a1_b2 (ninS ne_a1_bv6 nin0)) (Unt.keep K6 (ninS ne_a1_b2 nin0) (Unt.ext Et2 U1))))) (((((F_cause.ext Et2).keep K6 (ninS ne_a1_b2 nin0)).keep K10 (ninS ne_a1_b2 (ninS ne_a1_bv6 nin0))).keep K14 (ninS ne_a1_b2 (ninS ne_a1_bv6 nin0))).keep K17 nin0) (((((F_stackTrace.ext Et2).keep K6 (ninS ne_a1_b2 nin0)).keep K10 (ninS ne_a1_b2 (ninS ne_a1_bv6 nin0))).keep K14 (ninS ne_a1_b2 (ninS ne_a1_bv6 nin0))).keep K17 nin0) (((((F_suppressedExceptions.ext Et2).keep K6 (ninS ne_a1_b2 nin0)).keep K10 (ninS ne_a1_b2 (ninS ne_a1_bv6 nin0))).keep K14 (ninS ne_a1_b2 (ninS ne_a1_bv6 nin0))).keep K17 nin0) (((((F_backtrace.ext Et2).keep K6 (ninS ne_a1_b2 nin0)).keep K10 (ninS ne_a1_b2 (ninS ne_a1_bv6 nin0))).keep K14 (ninS ne_a1_b2 (ninS ne_a1_bv6 nin0))).keep K17 nin0) (((((F_detailMessage.ext Et2).keep K6 (ninS ne_a1_b2 nin0)).keep K10 (ninS ne_a1_b2 (ninS ne_a1_bv6 nin0))).keep K14 (ninS ne_a1_b2 (ninS ne_a1_bv6 nin0))).keep K17 nin0) (((((F_where.ext Et2).keep K6 (ninS ne_a1_b2 nin0)).keep K10 (ninS ne_a1_b2 (ninS ne_a1_bv6 nin0))).keep K14 (ninS ne_a1_b2 (ninS ne_a1_bv6 nin0))).keep K17 nin0) (((((F_problem.ext Et2).keep K6 (ninS ne_a1_b2 nin0)).keep K10 (ninS ne_a1_b2 (ninS ne_a1_bv6 nin0))).keep K14 (ninS ne_a1_b2 (ninS ne_a1_bv6 nin0))).keep K17 nin0) TH19 SU SS hl) hZ (hw _ (mW 157 rfl)) (hw _ (mW 156 rfl)) (by decide) (by decide) hTK hBl) (g := (mkF m 19 #[rv a1, rv a2, rv a3] [(.ref ms), (.ref a1)])) rfl (hM rfl) (Steps.refl _) (a := a1) (argsL := [(.ref ms)]) (rest := []) (lenOf pd6 rfl) rfl (Nat.le_of_eq rfl) (B d34_19) (fun _ _ => ⟨rfl, rfl, wl rfl, wl rfl⟩)
  dsimp only [Pt.U, Pt.locs, Pt.cells, Pt.slots] at X20 l20 y20 z20 st20 hQ20
  subst l20 y20 z20
  obtain ⟨rfl, N20q, K20, EX20, DM20, FA20, FB20⟩ := hQ20
  have N20 := Fr.app N17 N20q
  have pre21 : Go p e bl T20 (mkF m 22 #[rv a1, rv a2, rv a3] []) s1 EF := fun t k => pre18 t (st20.trans k)
  have TH22 : ThS Z T20.heap := ThS.keep K20 (nsS ((((((E1.ext Et2).keep K6).keep K10).keep K14).keep K17)).nostat ns0) TH19
  have O22 : Old Z n0 T20.heap := O19.keep K20 (allS g_a1 all0)
  have Z22 : n0 ≤ T20.heap.size := Nat.le_trans Z19 K20.1
  have K22 : Keep h0 T20.heap [a1] := K19.trans K20 (allS (Or.inl (mg 0 rfl)) all0)
  have pre23 : Go p e bl T20 (mkF m 24 #[rv a1, rv a2, rv a3] [(.ref a2), (.ref a1)]) s1 EF := fun t k => pre21 t (by
   refine XS.aloadN X20.here hx rfl (B d34_22) rfl rfl ?_
   exact XS.aloadN X20.here hx rfl (B d34_23) rfl rfl k)
  obtain ⟨T24, h24, X24, e24, W24, st24⟩ := putF X20 hx hZ hown (host := "") (Or.inl (hw _ (mW 201 rfl))) Via.refl rfl FA20 EX20 (Or.inr ⟨(hw _ (mW 202 rfl)), rfl, hnm⟩) (hw _ (mW 38 rfl)) (ty := (.object "java/lang/String")) (by decide) rfl rfl (g := (mkF m 24 #[rv a1, rv a2, rv a3] [(.ref a2), (.ref a1)])) rfl rfl (B d34_24)
  have pre25 : Go p e bl T24 (mkF m 27 #[rv a1, rv a2, rv a3] []) s1 EF := fun t k => pre23 t (st24 t k)
  have TH26 : ThS Z h24 := ThS.wr W24 TH22
  have O26 : Old Z n0 h24 := O22.wr W24 g_a1
  have Z26 : n0 ≤ h24.size := Nat.le_trans Z22 (Keep.of_wr W24).1
  have K26 : Keep h0 h24 [a1] := K22.wr W24 (Or.inl (mg 0 rfl))
  have Fw24 := Fld.same W24 FA20
  have N24 := Fr.snoc X24 N20 g_a1
  have pre27 : Go p e bl T24 (mkF m 29 #[rv a1, rv a2, rv a3] [(.ref a3), (.ref a1)]) s1 EF := fun t k => pre25 t (by
   refine XS.aloadN X24.here hx rfl (B d34_27) rfl rfl ?_
   exact XS.aloadN X24.here hx rfl (B d34_28) rfl rfl k)
  obtain ⟨T28, h28, X28, e28, W28, st28⟩ := putF X24 hx hZ hown (host := "") (Or.inl (hw _ (mW 203 rfl))) Via.refl e24 (Fld.other W24 FB20 (Or.inr (slot_ne (Or.inr (hw _ (mW 204 rfl))) (Or.inr (hw _ (mW 202 rfl))) (by decide) (t := (.object "java/lang/String")) (t' := (.object "java/lang/String")) (by decide) (by decide)))) (EX20.wr W24) (Or.inr ⟨(hw _ (mW 204 rfl)), rfl, hnm⟩) (hw _ (mW 38 rfl)) (ty := (.object "java/lang/String")) (by decide) rfl rfl (g := (mkF m 29 #[rv a1, rv a2, rv a3] [(.ref a3), (.ref a1)])) rfl rfl (B d34_29)
  have pre29 : Go p e bl T28 (mkF m 32 #[rv a1, rv a2, rv a3] []) s1 EF := fun t k => pre27 t (st28 t k)
  have TH30 : ThS Z h28 := ThS.wr W28 TH26
  have O30 : Old Z n0 h28 := O26.wr W28 g_a1
  have Z30 : n0 ≤ h28.size := Nat.le_trans Z26 (Keep.of_wr W28).1
  have K30 : Keep h0 h28 [a1] := K26.wr W28 (Or.inl (mg 0 rfl))
  have Fw28 := Fld.same W28 (Fld.other W24 FB20 (Or.inr (slot_ne (Or.inr (hw _ (mW 204 rfl))) (Or.inr (hw _ (mW 202 rfl))) (by decide) (t := (.object "java/lang/String")) (t' := (.object "java/lang/String")) (by decide) (by decide))))
  have N28 := Fr.snoc X28 N24 g_a1
  exact fin1 X28 (v := none) (fun _ => rfl) hlk (wl rfl) (wl rfl) (by rw [e28]; exact ⟨ms, mb, mk17, (((0 : Int32) + nW) + nP), rfl, N28, K30, ((EX20.wr W24).wr W28), (Fld.other W28 (Fld.other W24 DM20 (Or.inr (slot_ne (Or.inl (hw _ (mW 196 rfl))) (Or.inr (hw _ (mW 202 rfl))) (by decide) (t := (.object "java/lang/String")) (t' := (.object "java/lang/String")) (by decide) (by decide)))) (Or.inr (slot_ne (Or.inl (hw _ (mW 196 rfl))) (Or.inr (hw _ (mW 204 rfl))) (by decide) (t := (.object "java/lang/String")) (t' := (.object "java/lang/String")) (by decide) (by decide)))), (Fld.other W28 Fw24 (Or.inr (slot_ne (Or.inr (hw _ (mW 202 rfl))) (Or.inr (hw _ (mW 204 rfl))) (by decide) (t := (.object "java/lang/String")) (t' := (.object "java/lang/String")) (by decide) (by decide)))), Fw28, sz_ms, (((SF17.keep K20 (ninS (Ne.symm ne_a1_ms) nin0) (ninS (Ne.symm ne_mb) nin0)).keep (Keep.of_wr W24) (ninS (Ne.symm ne_a1_ms) nin0) (ninS (Ne.symm ne_mb) nin0)).keep (Keep.of_wr W28) (ninS (Ne.symm ne_a1_ms) nin0) (ninS (Ne.symm ne_mb) nin0)), SF14.2.2.2.2.2.2.1⟩) (fun fs hr => hEF ▸ pre29 _ (X28.returnOut hx Bd.returns (B d34_32) hr))
abbrev rKWI : Room := { frames := 7, cells := 12, slots := 2852, locals := 129 }
theorem d35_0 : decode prog_5_method_2_code 0 = .ok (.new 21, 3) := by decide +kernel
theorem d35_3 : decode prog_5_method_2_code 3 = .ok (.dup, 1) := by decide +kernel
theorem d35_4 : decode prog_5_method_2_code 4 = .ok (.aload_n 0, 1) := by decide +kernel
theorem d35_5 : decode prog_5_method_2_code 5 = .ok (.getfield 20, 3) := by decide +kernel
theorem d35_8 : decode prog_5_method_2_code 8 = .ok (.new 1, 3) := by decide +kernel
theorem d35_11 : decode prog_5_method_2_code 11 = .ok (.dup, 1) := by decide +kernel
theorem d35_12 : decode prog_5_method_2_code 12 = .ok (.invokespecial 3, 3) := by decide +kernel
theorem d35_15 : decode prog_5_method_2_code 15 = .ok (.aload_n 1, 1) := by decide +kernel
theorem d35_16 : decode prog_5_method_2_code 16 = .ok (.invokevirtual 7, 3) := by decide +kernel
theorem d35_19 : decode prog_5_method_2_code 19 = .ok (.ldc 29, 2) := by decide +kernel
theorem d35_21 : decode prog_5_method_2_code 21 = .ok (.invokevirtual 7, 3) := by decide +kernel
theorem d35_24 : decode prog_5_method_2_code 24 = .ok (.aload_n 0, 1) := by decide +kernel
theorem d35_25 : decode prog_5_method_2_code 25 = .ok (.getfield 26, 3) := by decide +kernel
theorem d35_28 : decode prog_5_method_2_code 28 = .ok (.invokevirtual 7, 3) := by decide +kernel
theorem d35_31 : decode prog_5_method_2_code 31 = .ok (.invokevirtual 11, 3) := by decide +kernel
theorem d35_34 : decode prog_5_method_2_code 34 = .ok (.invokespecial 31, 3) := by decide +kernel
theorem d35_37 : decode prog_5_method_2_code 37 = .ok (.areturn, 1) := by decide +kernel
theorem pd24 : parseMethodDescriptor "(Ljava/lang/String;Ljava/lang/String;)V" = some ⟨[(.object "java/lang/String"), (.object "java/lang/String")], none⟩ := by decide +kernel
theorem efWI (m : MethodId) (a1 : Addr) (a2 : Addr) : entryFrame m #[(.ref a1), (.ref a2)] 2 = mkF m 0 #[rv a1, rv a2] [] := by first | (simp [entryFrame, mkF, argsToLocals, Value.category]; done) | rfl
def QWI (Z : State) (a1 : Addr) (a2 : Addr) (cz : Int32) (fv : Value) (a3 : Addr) (a4 : Addr) (u0 : RefV) (u1 : RefV) (bQ : Addr) (kQ : ClassId) (nQ : Int32) (bsQ : List Int32) (bW : Addr) (kW : ClassId) (nW : Int32) (bsW : List Int32) (bP : Addr) (kP : ClassId) (nP : Int32) (bsP : List Int32) (h0 : Heap) (n0 : Nat) (v : Option Value) (h : Heap) (L : List Loc) : Prop := ∃ r ms mb mk nm, v = some (.ref r) ∧ Fr n0 L ∧ Keep h0 h [] ∧ Exa Z h r "com/example/picketline/picketline/io/InputException" ∧ Fld Z h r "java/lang/Throwable" "detailMessage" "Ljava/lang/String;" (.ref ms) ∧ StL Z h ms mb mk nm (bsW ++ (([] ++ bsQ ++ [(58 : Int32), 32]) ++ bsP)) 0 0 ∧ nm.toInt = (bsW ++ (([] ++ bsQ ++ [(58 : Int32), 32]) ++ bsP)).length
set_option maxRecDepth 65536 in
set_option maxHeartbeats 40000000 in
theorem rmWI (l : Launch) (Z : State) (a0 : Array Value) (hw : HW a0 Z) (ws : List Jvm.Cond) (a1 : Addr) (a2 : Addr) (cz : Int32) (fv : Value) (a3 : Addr) (a4 : Addr) (u0 : RefV) (u1 : RefV) (bQ : Addr) (kQ : ClassId) (nQ : Int32) (bsQ : List Int32) (bW : Addr) (kW : ClassId) (nW : Int32) (bsW : List Int32) (bP : Addr) (kP : ClassId) (nP : Int32) (bsP : List Int32) (h0 : Heap) (n0 : Nat) (Z0 : n0 ≤ h0.size) (O0 : Old Z n0 h0) (J0 : Jd Z cz fv) (E1 : Exa Z h0 a1 "com/example/picketline/picketline/io/InputException") (F1 : Fld Z h0 a1 "com/example/picketline/picketline/io/InputException" "where" "Ljava/lang/String;" (.ref a3)) (F2 : Fld Z h0 a1 "com/example/picketline/picketline/io/InputException" "problem" "Ljava/lang/String;" (.ref a4)) (TH0 : ThS Z h0) (SLQ : StL Z h0 a2 bQ kQ nQ bsQ 0 0) (SLW : StL Z h0 a3 bW kW nW bsW 0 0) (SLP : StL Z h0 a4 bP kP nP bsP 0 0) (gnQ : nQ.toInt = bsQ.length) (gnW : nW.toInt = bsW.length) (gnP : nP.toInt = bsP.length) (hs : bsW.length + bsQ.length + bsP.length ≤ 9) (SU : Sta Z Z.heap "java/lang/Throwable" "UNASSIGNED_STACK" "[Ljava/lang/StackTraceElement;" u0.v) (SS : Sta Z Z.heap "java/lang/Throwable" "SUPPRESSED_SENTINEL" "Ljava/util/List;" u1.v) (hl : l.stackTraces = true) :
    MetFree l mN35 (head1 (Jvm.Cond.code mN35 prog_5_method_2_code 2 (some (.object "com/example/picketline/picketline/io/InputException")) :: ws) rKWI) (fun a U => a = #[(.ref a1), (.ref a2)] ∧ Z.Warmed39 U.vm ∧ U.heap = h0 ∧ CHv Z [("com/example/picketline/picketline/io/InputException", 29), ("java/lang/String", 7)] U.vm h0) (fun _ _ bl s _ => s.vm.MethodsKnown ∧ s.vm.FramesKnown bl) (fun _ U o U' => ∃ v L, o = .returned v ∧ QWI Z a1 a2 cz fv a3 a4 u0 u1 bQ kQ nQ bsQ bW kW nW bsW bP kP nP bsP h0 n0 v U'.heap L ∧ CHr Z [("com/example/picketline/picketline/io/InputException", 29), ("java/lang/String", 7)] U.vm U.heap U'.vm U'.heap ∧ ReturnedEndW U o U' L rKWI.cells rKWI.slots) := by
  refine MetFree.of_bodySF (plainFor_of_name pn10) hisR ?_
  intro p e s m args bl meth c s1 Bd hml0 hP hK
  obtain ⟨rfl, hZ, hh, hC⟩ := hP
  have hx := Bd.exec
  have hby := Bd.bytes
  have B := @hb c _ hby
  have hM := fun {n : Nat} (h : n = 2) => h.trans hml0.symm
  have hown : s.vm.findClass "com/example/picketline/picketline/io/InputException" = some m.cls := findClass_of_methodNamed Bd.named
  have X0 : Stand p l e rKWI (s.setVm s.vm) m #[(.ref a1), (.ref a2)] bl meth c s1 [] 0 0 := Stand.of_body Bd
  have e0 : s1.heap = h0 := by rw [← hh, Bd.state]; rfl
  have N0 := Fr.nil n0
  obtain ⟨EF, hEF⟩ : ∃ f, f = entryFrame m #[(.ref a1), (.ref a2)] 2 := ⟨_, rfl⟩
  have pre0 : Go p e bl s1 (mkF m 0 #[rv a1, rv a2] []) s1 EF := fun t k => by rw [hEF]; exact castTop (efWI m a1 a2) k
  have hZ0 : Z.Warmed39 (s.setVm s.vm).vm := hZ
  have hown0 : (s.setVm s.vm).vm.findClass "com/example/picketline/picketline/io/InputException" = some m.cls := hown
  have hS0 : s.Since s.vm s.heap.size := (State.WarmedH.refl s).since _
  have hk0 : s.heap.size ≤ h0.size := by rw [← hh]; exact Nat.le_refl _
  have hTK : s.vm.MethodsKnown := hK.1
  have hBl : s.vm.FramesKnown bl := hK.2
  obtain ⟨T1, h1, X1, e1, Et1, A1, D1, U1, st1⟩ := newO X0 hx hZ0 hown0 (hw _ (mW 210 rfl)) (hw _ (mW 38 rfl)) (hw _ (mW 39 rfl)) e0 (g := (mkF m 0 #[rv a1, rv a2] [])) rfl (B d35_0) (by decide) (by decide)
  obtain ⟨b1, g1⟩ : ∃ z, z = h0.size := ⟨_, rfl⟩
  rw [← g1] at A1 st1 D1
  have g_b1 : n0 ≤ b1 := Nat.le_trans Z0 (Nat.le_of_eq g1.symm)
  have sz_b1 : h0.size ≤ b1 := Nat.le_trans (Keep.refl h0 []).1 (Nat.le_of_eq g1.symm)
  have sfn_b1 : Safe Z [("com/example/picketline/picketline/io/InputException", 29), ("java/lang/String", 7)] s.vm h0 b1 := Safe.new (Nat.le_of_eq g1.symm)
  have ne_a1_b1 : a1 ≠ b1 := Nat.ne_of_lt (Nat.lt_of_lt_of_le E1.lt (Nat.le_of_eq g1.symm))
  have ne_a2_b1 : a2 ≠ b1 := Nat.ne_of_lt (Nat.lt_of_lt_of_le SLQ.1.lt (Nat.le_of_eq g1.symm))
  have ne_bQ_b1 : bQ ≠ b1 := Nat.ne_of_lt (Nat.lt_of_lt_of_le SLQ.2.2.2.1.lt (Nat.le_of_eq g1.symm))
  have ne_a3_b1 : a3 ≠ b1 := Nat.ne_of_lt (Nat.lt_of_lt_of_le SLW.1.lt (Nat.le_of_eq g1.symm))
  have ne_bW_b1 : bW ≠ b1 := Nat.ne_of_lt (Nat.lt_of_lt_of_le SLW.2.2.2.1.lt (Nat.le_of_eq g1.symm))
  have ne_a4_b1 : a4 ≠ b1 := Nat.ne_of_lt (Nat.lt_of_lt_of_le SLP.1.lt (Nat.le_of_eq g1.symm))
  have ne_bP_b1 : bP ≠ b1 := Nat.ne_of_lt (Nat.lt_of_lt_of_le SLP.2.2.2.1.lt (Nat.le_of_eq g1.symm))
  have pre2 : Go p e bl T1 (mkF m 3 #[rv a1, rv a2] [(.ref b1)]) s1 EF := fun t k => pre0 t (st1 t k)
  have TH3 : ThS Z h1 := ThS.ext Et1 TH0
  have O3 : Old Z n0 h1 := O0.ext Et1
  have Z3 : n0 ≤ h1.size := Nat.le_trans Z0 Et1.1
  have hk3 := Nat.le_trans hk0 Et1.1
  have C3 := CHv.ext Et1 hC
  have R3 := (CHr.refl hC).trans (CHr.ext Et1 hC)
  have sf3_b1 := Safe.ext Et1 hC sfn_b1
  have K3 : Keep h0 h1 [] := (Keep.refl h0 []).ext Et1
  have UN1 : Unt h1 b1 := by rw [g1]; exact U1
  have F_cause_b1 : Fld Z h1 b1 "java/lang/Throwable" "cause" "Ljava/lang/Throwable;" .null := D1 (Or.inl (hw _ (mW 166 rfl))) (ty := (.object "java/lang/Throwable")) (by decide)
  have F_stackTrace_b1 : Fld Z h1 b1 "java/lang/Throwable" "stackTrace" "[Ljava/lang/StackTraceElement;" .null := D1 (Or.inl (hw _ (mW 169 rfl))) (ty := (.array (.object "java/lang/StackTraceElement"))) (by decide)
  have F_suppressedExceptions_b1 : Fld Z h1 b1 "java/lang/Throwable" "suppressedExceptions" "Ljava/util/List;" .null := D1 (Or.inl (hw _ (mW 172 rfl))) (ty := (.object "java/util/List")) (by decide)
  have F_detailMessage_b1 : Fld Z h1 b1 "java/lang/Throwable" "detailMessage" "Ljava/lang/String;" .null := D1 (Or.inl (hw _ (mW 196 rfl))) (ty := (.object "java/lang/String")) (by decide)
  have F_backtrace_b1 : Fld Z h1 b1 "java/lang/Throwable" "backtrace" "Ljava/lang/Object;" .null := D1 (Or.inl (hw _ (mW 197 rfl))) (ty := (.object "java/lang/Object")) (by decide)
  have F_depth_b1 : Fld Z h1 b1 "java/lang/Throwable" "depth" "I" (.int 0) := D1 (Or.inl (hw _ (mW 198 rfl))) (ty := .int) (by decide)
  have F_where_b1 : Fld Z h1 b1 "com/example/picketline/picketline/io/InputException" "where" "Ljava/lang/String;" .null := D1 (Or.inr (hw _ (mW 202 rfl))) (ty := (.object "java/lang/String")) (by decide)
  have F_problem_b1 : Fld Z h1 b1 "com/example/picketline/picketline/io/InputException" "problem" "Ljava/lang/String;" .null := D1 (Or.inr (hw _ (mW 204 rfl))) (ty := (.object "java/lang/String")) (by decide)
  have pre4 : Go p e bl T1 (mkF m 5 #[rv a1, rv a2] [(.ref a1), (.ref b1), (.ref b1)]) s1 EF := fun t k => pre2 t (by
   refine XS.dup X1.here hx rfl (B d35_3) rfl rfl ?_
   exact XS.aloadN X1.here hx rfl (B d35_4) rfl rfl k)
  obtain ⟨T5, X5, e5, st5⟩ := getF X1 hx hZ0 hown0 (host := "") (Or.inl (hw _ (mW 201 rfl))) Via.refl e1 (F1.ext Et1) (g := (mkF m 5 #[rv a1, rv a2] [(.ref a1), (.ref b1), (.ref b1)])) rfl rfl (B d35_5)
  have pre6 : Go p e bl T5 (mkF m 8 #[rv a1, rv a2] [(.ref a3), (.ref b1), (.ref b1)]) s1 EF := fun t k => pre4 t (st5 t k)
  obtain ⟨T7, h7, X7, e7, Et7, A7, D7, U7, st7⟩ := newO X5 hx hZ0 hown0 (hw _ (mW 43 rfl)) (hw _ (mW 44 rfl)) (hw _ (mW 45 rfl)) e5 (g := (mkF m 8 #[rv a1, rv a2] [(.ref a3), (.ref b1), (.ref b1)])) rfl (B d35_8) (by decide) (by decide)
  obtain ⟨b7, g7⟩ : ∃ z, z = h1.size := ⟨_, rfl⟩
  rw [← g7] at A7 st7 D7
  have g_b7 : n0 ≤ b7 := Nat.le_trans Z3 (Nat.le_of_eq g7.symm)
  have sz_b7 : h0.size ≤ b7 := Nat.le_trans K3.1 (Nat.le_of_eq g7.symm)
  have sfn_b7 : Safe Z [("com/example/picketline/picketline/io/InputException", 29), ("java/lang/String", 7)] s.vm h1 b7 := Safe.new (Nat.le_of_eq g7.symm)
  have ne_a1_b7 : a1 ≠ b7 := Nat.ne_of_lt (Nat.lt_of_lt_of_le (E1.ext Et1).lt (Nat.le_of_eq g7.symm))
  have ne_a2_b7 : a2 ≠ b7 := Nat.ne_of_lt (Nat.lt_of_lt_of_le (SLQ.1.ext Et1).lt (Nat.le_of_eq g7.symm))
  have ne_bQ_b7 : bQ ≠ b7 := Nat.ne_of_lt (Nat.lt_of_lt_of_le (SLQ.2.2.2.1.ext Et1).lt (Nat.le_of_eq g7.symm))
  have ne_a3_b7 : a3 ≠ b7 := Nat.ne_of_lt (Nat.lt_of_lt_of_le (SLW.1.ext Et1).lt (Nat.le_of_eq g7.symm))
  have ne_bW_b7 : bW ≠ b7 := Nat.ne_of_lt (Nat.lt_of_lt_of_le (SLW.2.2.2.1.ext Et1).lt (Nat.le_of_eq g7.symm))
  have ne_a4_b7 : a4 ≠ b7 := Nat.ne_of_lt (Nat.lt_of_lt_of_le (SLP.1.ext Et1).lt (Nat.le_of_eq g7.symm))
  have ne_bP_b7 : bP ≠ b7 := Nat.ne_of_lt (Nat.lt_of_lt_of_le (SLP.2.2.2.1.ext Et1).lt (Nat.le_of_eq g7.symm))
  have ne_b1_b7 : b1 ≠ b7 := Nat.ne_of_lt (Nat.lt_of_lt_of_le A1.lt (Nat.le_of_eq g7.symm))
  have pre8 : Go p e bl T7 (mkF m 11 #[rv a1, rv a2] [(.ref b7), (.ref a3), (.ref b1), (.ref b1)]) s1 EF := fun t k => pre6 t (st7 t k)
  have TH9 : ThS Z h7 := ThS.ext Et7 TH3
  have O9 : Old Z n0 h7 := O3.ext Et7
  have Z9 : n0 ≤ h7.size := Nat.le_trans Z3 Et7.1
  have hk9 := Nat.le_trans hk3 Et7.1
  have C9 := CHv.ext Et7 C3
  have R9 := R3.trans (CHr.ext Et7 C3)
  have sf9_b1 := Safe.ext Et7 C3 sf3_b1
  have sf9_b7 := Safe.ext Et7 C3 sfn_b7
  have K9 : Keep h0 h7 [] := K3.ext Et7
  have UN7 : Unt h7 b7 := by rw [g7]; exact U7
  have F_value_b7 : Fld Z h7 b7 "java/lang/AbstractStringBuilder" "value" "[B" .null := D7 (Or.inl (hw _ (mW 58 rfl))) (ty := (.array .byte)) (by decide)
  have F_coder_b7 : Fld Z h7 b7 "java/lang/AbstractStringBuilder" "coder" "B" (.int 0) := D7 (Or.inl (hw _ (mW 60 rfl))) (ty := .byte) (by decide)
  have F_count_b7 : Fld Z h7 b7 "java/lang/AbstractStringBuilder" "count" "I" (.int 0) := D7 (Or.inl (hw _ (mW 82 rfl))) (ty := .int) (by decide)
  have pre10 : Go p e bl T7 (mkF m 12 #[rv a1, rv a2] [(.ref b7), (.ref b7), (.ref a3), (.ref b1), (.ref b1)]) s1 EF := fun t k => pre8 t (by
   exact XS.dup X7.here hx rfl (B d35_11) rfl rfl k)
  obtain ⟨_, _, ⟨T11, L11, k11, n11⟩, -, X11, ⟨Lc11, hQ11, l11, y11, z11⟩, st11⟩ := X7.specialBack hx (y := mN8) rfl hown0 (mvT hZ0 (hw _ (mW 46 rfl))) (mvT hZ0 (hw _ (mW 47 rfl))) (mvT hZ0 (hw _ (mW 48 rfl))) (by decide) (backOf (W := 4) (rmSi l Z a0 hw [] b7 cz fv  h7 n0 Z9 O9 J0 A7 g_b7 F_value_b7 F_coder_b7 F_count_b7) hZ0 (hw _ (mW 48 rfl)) (hw _ (mW 45 rfl)) (by decide) (by decide)) (g := (mkF m 12 #[rv a1, rv a2] [(.ref b7), (.ref b7), (.ref a3), (.ref b1), (.ref b1)])) rfl (hM rfl) (Steps.refl _) (a := b7) (argsL := []) (rest := [(.ref b7), (.ref a3), (.ref b1), (.ref b1)]) (lenOf pd21 rfl) rfl (Nat.le_of_eq rfl) (B d35_12) (fun _ _ => ⟨rfl, e7, wl rfl, wl rfl⟩)
  dsimp only [Pt.U, Pt.locs, Pt.cells, Pt.slots] at X11 l11 y11 z11 st11 hQ11
  subst l11 y11 z11
  obtain ⟨rfl, N11q, K11, bv11, kb11, hsz11, SF11⟩ := hQ11
  have N11 := Fr.app N0 N11q
  have pre12 : Go p e bl T11 (mkF m 15 #[rv a1, rv a2] [(.ref b7), (.ref a3), (.ref b1), (.ref b1)]) s1 EF := fun t k => pre10 t (st11.trans k)
  have sfn_bv11 : Safe Z [("com/example/picketline/picketline/io/InputException", 29), ("java/lang/String", 7)] s.vm h7 bv11 := Safe.new hsz11
  have TH13 : ThS Z T11.heap := ThS.keep K11 (nsS (A7).nostat ns0) TH9
  have O13 : Old Z n0 T11.heap := O9.keep K11 (allS g_b7 all0)
  have Z13 : n0 ≤ T11.heap.size := Nat.le_trans Z9 K11.1
  have hk13 := Nat.le_trans hk9 K11.1
  have C13 := CHv.keep K11 (sfS sf9_b7 sf0) C9
  have R13 := R9.trans (CHr.keep K11 (sfS sf9_b7 sf0) C9)
  have sf13_b1 := Safe.keep K11 (sfS sf9_b7 sf0) C9 sf9_b1
  have sf13_b7 := Safe.keep K11 (sfS sf9_b7 sf0) C9 sf9_b7
  have sf13_bv11 := Safe.keep K11 (sfS sf9_b7 sf0) C9 sfn_bv11
  have K13 : Keep h0 T11.heap [] := K9.trans K11 (allS (Or.inr sz_b7) all0)
  have g_bv11 : n0 ≤ bv11 := Nat.le_trans Z9 hsz11
  have sz_bv11 : h0.size ≤ bv11 := Nat.le_trans K9.1 hsz11
  have ne_a1_bv11 : a1 ≠ bv11 := Nat.ne_of_lt (Nat.lt_of_lt_of_le ((E1.ext Et1).ext Et7).lt hsz11)
  have ne_a2_bv11 : a2 ≠ bv11 := Nat.ne_of_lt (Nat.lt_of_lt_of_le ((SLQ.1.ext Et1).ext Et7).lt hsz11)
  have ne_bQ_bv11 : bQ ≠ bv11 := Nat.ne_of_lt (Nat.lt_of_lt_of_le ((SLQ.2.2.2.1.ext Et1).ext Et7).lt hsz11)
  have ne_a3_bv11 : a3 ≠ bv11 := Nat.ne_of_lt (Nat.lt_of_lt_of_le ((SLW.1.ext Et1).ext Et7).lt hsz11)
  have ne_bW_bv11 : bW ≠ bv11 := Nat.ne_of_lt (Nat.lt_of_lt_of_le ((SLW.2.2.2.1.ext Et1).ext Et7).lt hsz11)
  have ne_a4_bv11 : a4 ≠ bv11 := Nat.ne_of_lt (Nat.lt_of_lt_of_le ((SLP.1.ext Et1).ext Et7).lt hsz11)
  have ne_bP_bv11 : bP ≠ bv11 := Nat.ne_of_lt (Nat.lt_of_lt_of_le ((SLP.2.2.2.1.ext Et1).ext Et7).lt hsz11)
  have ne_b1_bv11 : b1 ≠ bv11 := Nat.ne_of_lt (Nat.lt_of_lt_of_le (A1.ext Et7).lt hsz11)
  have ne_b7_bv11 : b7 ≠ bv11 := Nat.ne_of_lt (Nat.lt_of_lt_of_le A7.lt hsz11)
  have pre14 : Go p e bl T11 (mkF m 16 #[rv a1, rv a2] [(.ref a2), (.ref b7), (.ref a3), (.ref b1), (.ref b1)]) s1 EF := fun t k => pre12 t (by
   exact XS.aloadN X11.here hx rfl (B d35_15) rfl rfl k)
  obtain ⟨cq15, kq15, q15a, q15b, q15c⟩ := isOf hZ0 rfl SF11.1
  obtain ⟨_, _, ⟨T15, L15, k15, n15⟩, -, X15, ⟨Lc15, hQ15, l15, y15, z15⟩, st15⟩ := X11.virtualBack hx (y := mN14) (z := mN14) hown0 (mvT hZ0 (hw _ (mW 61 rfl))) (mvT hZ0 (hw _ (mW 62 rfl))) (notFace_of_selects (args := #[]) (mvT hZ0 (hw _ (mW 64 rfl)))) (mvT hZ0 (hw _ (mW 64 rfl))) (mvT hZ0 (hw _ (mW 63 rfl))) (by decide) (backOf (W := 3) (rmSS l Z a0 hw [] b7 a2 cz fv bv11 kb11 (0 : Int32) [] bQ kQ nQ bsQ 0 0 T11.heap n0 Z13 O13 J0 SF11 (((SLQ.ext Et1).ext Et7).keep K11 (ninS ne_a2_b7 nin0) (ninS ne_bQ_b7 nin0)) g_b7 gnQ (by (try simp only [List.length_append, List.length_nil, List.length_cons]) <;> omega) g_bv11) hZ0 (hw _ (mW 65 rfl)) (hw _ (mW 45 rfl)) (by decide) (by decide)) q15a q15c (g := (mkF m 16 #[rv a1, rv a2] [(.ref a2), (.ref b7), (.ref a3), (.ref b1), (.ref b1)])) rfl (hM rfl) (Steps.refl _) (argsL := [(.ref a2)]) (rest := [(.ref a3), (.ref b1), (.ref b1)]) (lenOf pd22 rfl) rfl (Nat.le_of_eq rfl) (B d35_16) (fun _ _ => ⟨rfl, rfl, wl rfl, wl rfl⟩)
  dsimp only [Pt.U, Pt.locs, Pt.cells, Pt.slots] at X15 l15 y15 z15 st15 hQ15
  subst l15 y15 z15
  obtain ⟨rfl, N15q, K15, SF15⟩ := hQ15
  have N15 := Fr.app N11 N15q
  have pre16 : Go p e bl T15 (mkF m 19 #[rv a1, rv a2] [(.ref b7), (.ref a3), (.ref b1), (.ref b1)]) s1 EF := fun t k => pre14 t (st15.trans k)
  have TH17 : ThS Z T15.heap := ThS.keep K15 (nsS (SF11.1).nostat (nsS (SF11.2.2.2.2.1).nostat ns0)) TH13
  have O17 : Old Z n0 T15.heap := O13.keep K15 (allS g_b7 (allS g_bv11 all0))
  have Z17 : n0 ≤ T15.heap.size := Nat.le_trans Z13 K15.1
  have hk17 := Nat.le_trans hk13 K15.1
  have C17 := CHv.keep K15 (sfS sf13_b7 (sfS sf13_bv11 sf0)) C13
  have R17 := R13.trans (CHr.keep K15 (sfS sf13_b7 (sfS sf13_bv11 sf0)) C13)
  have sf17_b1 := Safe.keep K15 (sfS sf13_b7 (sfS sf13_bv11 sf0)) C13 sf13_b1
  have sf17_b7 := Safe.keep K15 (sfS sf13_b7 (sfS sf13_bv11 sf0)) C13 sf13_b7
  have sf17_bv11 := Safe.keep K15 (sfS sf13_b7 (sfS sf13_bv11 sf0)) C13 sf13_bv11
  have K17 : Keep h0 T15.heap [] := K13.trans K15 (allS (Or.inr sz_b7) (allS (Or.inr sz_bv11) all0))
  have slt18_b1 := (((A1.ext Et7).keep K11).keep K15).lt
  have slt18_b7 := SF15.1.lt
  have slt18_bv11 := SF15.2.2.2.2.1.lt
  obtain ⟨a18, T18, h18, k18, b18, kc18, X18, e18, Et18, hS18, hk18, hZ18, hown18, LE18, LC18, LF18, LV18, lt18, ltb18, A18, Lt18, sfe18, st18⟩ := ldcCH X15 hx hZ0 hown0 (hw _ (mW 211 rfl)) (own_wS hw) rfl hS0 hk17 (own_EW hw) (mg 0 rfl) C17 (vs := [.int (58 : Int32), .int (32 : Int32)]) (z := (2 : Int32)) (by decide +kernel) (by decide) (by decide) (g := (mkF m 19 #[rv a1, rv a2] [(.ref b7), (.ref a3), (.ref b1), (.ref b1)])) rfl (B d35_19) (n := 8) (by decide) (by decide) (by decide) (by decide)
  have pre19 : Go p e bl T18 (mkF m 21 #[rv a1, rv a2] [(.ref a18), (.ref b7), (.ref a3), (.ref b1), (.ref b1)]) s1 EF := fun t k => pre16 t (st18 t k)
  have TH20 : ThS Z h18 := ThS.ext Et18 TH17
  have O20 : Old Z n0 h18 := O17.ext Et18
  have Z20 : n0 ≤ h18.size := Nat.le_trans Z17 Et18.1
  have K20 : Keep h0 h18 [] := K17.ext Et18
  have sg18_b1 := A18.safe slt18_b1 sf17_b1
  have nx18_b1 := sfe18 b1 sg18_b1
  have sg18_b7 := A18.safe slt18_b7 sf17_b7
  have nx18_b7 := sfe18 b7 sg18_b7
  have sg18_bv11 := A18.safe slt18_bv11 sf17_bv11
  have nx18_bv11 := sfe18 bv11 sg18_bv11
  have R18 := R17.trans A18
  obtain ⟨cq21, kq21, q21a, q21b, q21c⟩ := isOf hZ18 e18 (SF15.1.ext Et18)
  obtain ⟨_, _, ⟨T21, L21, k21, n21⟩, -, X21, ⟨Lc21, hQ21, l21, y21, z21⟩, st21⟩ := X18.virtualBack hx (y := mN14) (z := mN14) hown18 (mvT hZ18 (hw _ (mW 61 rfl))) (mvT hZ18 (hw _ (mW 62 rfl))) (notFace_of_selects (args := #[]) (mvT hZ18 (hw _ (mW 64 rfl)))) (mvT hZ18 (hw _ (mW 64 rfl))) (mvT hZ18 (hw _ (mW 63 rfl))) (by decide) (backOf (W := 3) (rmSS l Z a0 hw [] b7 a18 cz fv bv11 kb11 ((0 : Int32) + nQ) ([] ++ bsQ) b18 kc18 2 [(58 : Int32), 32] 0 0 h18 n0 Z20 O20 J0 (SF15.ext Et18) ⟨LE18, LC18, LF18, LV18, trivial, (Exa.neArv LE18 LV18 (hw _ (mW 5 rfl)))⟩ g_b7 rfl (by (try simp only [List.length_append, List.length_nil, List.length_cons]) <;> omega) g_bv11) hZ18 (hw _ (mW 65 rfl)) (hw _ (mW 45 rfl)) (by decide) (by decide)) q21a q21c (g := (mkF m 21 #[rv a1, rv a2] [(.ref a18), (.ref b7), (.ref a3), (.ref b1), (.ref b1)])) rfl (hM rfl) (Steps.refl _) (argsL := [(.ref a18)]) (rest := [(.ref a3), (.ref b1), (.ref b1)]) (lenOf pd22 rfl) rfl (Nat.le_of_eq rfl) (B d35_21) (fun _ _ => ⟨rfl, e18, wl rfl, wl rfl⟩)
  dsimp only [Pt.U, Pt.locs, Pt.cells, Pt.slots] at X21 l21 y21 z21 st21 hQ21
  subst l21 y21 z21
  obtain ⟨rfl, N21q, K21, SF21⟩ := hQ21
  have N21 := Fr.app N15 N21q
  have pre22 : Go p e bl T21 (mkF m 24 #[rv a1, rv a2] [(.ref b7), (.ref a3), (.ref b1), (.ref b1)]) s1 EF := fun t k => pre19 t (st21.trans k)
  have TH23 : ThS Z T21.heap := ThS.keep K21 (nsS ((SF15.1.ext Et18)).nostat (nsS ((SF15.2.2.2.2.1.ext Et18)).nostat ns0)) TH20
  have O23 : Old Z n0 T21.heap := O20.keep K21 (allS g_b7 (allS g_bv11 all0))
  have Z23 : n0 ≤ T21.heap.size := Nat.le_trans Z20 K21.1
  have hk23 := Nat.le_trans hk18 K21.1
  have C23 := CHv.keep K21 (sfS sg18_b7 (sfS sg18_bv11 sf0)) A18.1
  have R23 := R18.trans (CHr.keep K21 (sfS sg18_b7 (sfS sg18_bv11 sf0)) A18.1)
  have sf23_b1 := Safe.keep K21 (sfS sg18_b7 (sfS sg18_bv11 sf0)) A18.1 sg18_b1
  have sf23_b7 := Safe.keep K21 (sfS sg18_b7 (sfS sg18_bv11 sf0)) A18.1 sg18_b7
  have sf23_bv11 := Safe.keep K21 (sfS sg18_b7 (sfS sg18_bv11 sf0)) A18.1 sg18_bv11
  have K23 : Keep h0 T21.heap [] := K20.trans K21 (allS (Or.inr sz_b7) (allS (Or.inr sz_bv11) all0))
  have pre24 : Go p e bl T21 (mkF m 25 #[rv a1, rv a2] [(.ref a1), (.ref b7), (.ref a3), (.ref b1), (.ref b1)]) s1 EF := fun t k => pre22 t (by
   exact XS.aloadN X21.here hx rfl (B d35_24) rfl rfl k)
  obtain ⟨T25, X25, e25, st25⟩ := getF X21 hx hZ18 hown18 (host := "") (Or.inl (hw _ (mW 203 rfl))) Via.refl rfl ((((((F2.ext Et1).ext Et7).keep K11 (ninS ne_a1_b7 nin0)).keep K15 (ninS ne_a1_b7 (ninS ne_a1_bv11 nin0))).ext Et18).keep K21 (ninS ne_a1_b7 (ninS ne_a1_bv11 nin0))) (g := (mkF m 25 #[rv a1, rv a2] [(.ref a1), (.ref b7), (.ref a3), (.ref b1), (.ref b1)])) rfl rfl (B d35_25)
  have pre26 : Go p e bl T25 (mkF m 28 #[rv a1, rv a2] [(.ref a4), (.ref b7), (.ref a3), (.ref b1), (.ref b1)]) s1 EF := fun t k => pre24 t (st25 t k)
  obtain ⟨cq27, kq27, q27a, q27b, q27c⟩ := isOf hZ18 e25 SF21.1
  obtain ⟨_, _, ⟨T27, L27, k27, n27⟩, -, X27, ⟨Lc27, hQ27, l27, y27, z27⟩, st27⟩ := X25.virtualBack hx (y := mN14) (z := mN14) hown18 (mvT hZ18 (hw _ (mW 61 rfl))) (mvT hZ18 (hw _ (mW 62 rfl))) (notFace_of_selects (args := #[]) (mvT hZ18 (hw _ (mW 64 rfl)))) (mvT hZ18 (hw _ (mW 64 rfl))) (mvT hZ18 (hw _ (mW 63 rfl))) (by decide) (backOf (W := 3) (rmSS l Z a0 hw [] b7 a4 cz fv bv11 kb11 (((0 : Int32) + nQ) + 2) (([] ++ bsQ) ++ [(58 : Int32), 32]) bP kP nP bsP 0 0 T21.heap n0 Z23 O23 J0 SF21 ((((((SLP.ext Et1).ext Et7).keep K11 (ninS ne_a4_b7 nin0) (ninS ne_bP_b7 nin0)).keep K15 (ninS ne_a4_b7 (ninS ne_a4_bv11 nin0)) (ninS ne_bP_b7 (ninS ne_bP_bv11 nin0))).ext Et18).keep K21 (ninS ne_a4_b7 (ninS ne_a4_bv11 nin0)) (ninS ne_bP_b7 (ninS ne_bP_bv11 nin0))) g_b7 gnP (by (try simp only [List.length_append, List.length_nil, List.length_cons]) <;> omega) g_bv11) hZ18 (hw _ (mW 65 rfl)) (hw _ (mW 45 rfl)) (by decide) (by decide)) q27a q27c (g := (mkF m 28 #[rv a1, rv a2] [(.ref a4), (.ref b7), (.ref a3), (.ref b1), (.ref b1)])) rfl (hM rfl) (Steps.refl _) (argsL := [(.ref a4)]) (rest := [(.ref a3), (.ref b1), (.ref b1)]) (lenOf pd22 rfl) rfl (Nat.le_of_eq rfl) (B d35_28) (fun _ _ => ⟨rfl, e25, wl rfl, wl rfl⟩)
  dsimp only [Pt.U, Pt.locs, Pt.cells, Pt.slots] at X27 l27 y27 z27 st27 hQ27
  subst l27 y27 z27
  obtain ⟨rfl, N27q, K27, SF27⟩ := hQ27
  have N27 := Fr.app N21 N27q
  have pre28 : Go p e bl T27 (mkF m 31 #[rv a1, rv a2] [(.ref b7), (.ref a3), (.ref b1), (.ref b1)]) s1 EF := fun t k => pre26 t (st27.trans k)
  have TH29 : ThS Z T27.heap := ThS.keep K27 (nsS (SF21.1).nostat (nsS (SF21.2.2.2.2.1).nostat ns0)) TH23
  have O29 : Old Z n0 T27.heap := O23.keep K27 (allS g_b7 (allS g_bv11 all0))
  have Z29 : n0 ≤ T27.heap.size := Nat.le_trans Z23 K27.1
  have hk29 := Nat.le_trans hk23 K27.1
  have C29 := CHv.keep K27 (sfS sf23_b7 (sfS sf23_bv11 sf0)) C23
  have R29 := R23.trans (CHr.keep K27 (sfS sf23_b7 (sfS sf23_bv11 sf0)) C23)
  have sf29_b1 := Safe.keep K27 (sfS sf23_b7 (sfS sf23_bv11 sf0)) C23 sf23_b1
  have sf29_b7 := Safe.keep K27 (sfS sf23_b7 (sfS sf23_bv11 sf0)) C23 sf23_b7
  have sf29_bv11 := Safe.keep K27 (sfS sf23_b7 (sfS sf23_bv11 sf0)) C23 sf23_bv11
  have K29 : Keep h0 T27.heap [] := K23.trans K27 (allS (Or.inr sz_b7) (allS (Or.inr sz_bv11) all0))
  obtain ⟨cq30, kq30, q30a, q30b, q30c⟩ := isOf hZ18 rfl SF27.1
  obtain ⟨_, _, ⟨T30, L30, k30, n30⟩, -, X30, ⟨Lc30, hQ30, l30, y30, z30⟩, st30⟩ := X27.virtualBack hx (y := mN25) (z := mN25) hown18 (mvT hZ18 (hw _ (mW 108 rfl))) (mvT hZ18 (hw _ (mW 109 rfl))) (notFace_of_selects (args := #[]) (mvT hZ18 (hw _ (mW 111 rfl)))) (mvT hZ18 (hw _ (mW 111 rfl))) (mvT hZ18 (hw _ (mW 110 rfl))) (by decide) (backOf (W := 3) (rmTt l Z a0 hw [] b7 cz fv bv11 kb11 ((((0 : Int32) + nQ) + 2) + nP) ((([] ++ bsQ) ++ [(58 : Int32), 32]) ++ bsP) T27.heap n0 Z29 O29 J0 SF27 (by (try simp only [List.length_append, List.length_nil, List.length_cons]) <;> omega)) hZ18 (hw _ (mW 112 rfl)) (hw _ (mW 45 rfl)) (by decide) (by decide)) q30a q30c (g := (mkF m 31 #[rv a1, rv a2] [(.ref b7), (.ref a3), (.ref b1), (.ref b1)])) rfl (hM rfl) (Steps.refl _) (argsL := []) (rest := [(.ref a3), (.ref b1), (.ref b1)]) (lenOf pd23 rfl) rfl (Nat.le_of_eq rfl) (B d35_31) (fun _ _ => ⟨rfl, rfl, wl rfl, wl rfl⟩)
  dsimp only [Pt.U, Pt.locs, Pt.cells, Pt.slots] at X30 l30 y30 z30 st30 hQ30
  subst l30 y30 z30
  obtain ⟨pm, pb, mk30, rfl, N30q, K30, hsz30, SF30⟩ := hQ30
  have N30 := Fr.app N27 N30q
  have pre31 : Go p e bl T30 (mkF m 34 #[rv a1, rv a2] [(.ref pm), (.ref a3), (.ref b1), (.ref b1)]) s1 EF := fun t k => pre28 t (st30.trans k)
  have TH32 : ThS Z T30.heap := ThS.keep K30 ns0 TH29
  have O32 : Old Z n0 T30.heap := O29.keep K30 all0
  have Z32 : n0 ≤ T30.heap.size := Nat.le_trans Z29 K30.1
  have hk32 := Nat.le_trans hk29 K30.1
  have C32 := CHv.keep K30 sf0 C29
  have R32 := R29.trans (CHr.keep K30 sf0 C29)
  have sf32_b1 := Safe.keep K30 sf0 C29 sf29_b1
  have sf32_b7 := Safe.keep K30 sf0 C29 sf29_b7
  have sf32_bv11 := Safe.keep K30 sf0 C29 sf29_bv11
  have K32 : Keep h0 T30.heap [] := K29.trans K30 all0
  have g_pm : n0 ≤ pm := Nat.le_trans Z29 hsz30
  have sz_pm : h0.size ≤ pm := Nat.le_trans K29.1 hsz30
  have ne_a1_pm : a1 ≠ pm := Nat.ne_of_lt (Nat.lt_of_lt_of_le (((((((E1.ext Et1).ext Et7).keep K11).keep K15).ext Et18).keep K21).keep K27).lt hsz30)
  have ne_a2_pm : a2 ≠ pm := Nat.ne_of_lt (Nat.lt_of_lt_of_le (((((((SLQ.1.ext Et1).ext Et7).keep K11).keep K15).ext Et18).keep K21).keep K27).lt hsz30)
  have ne_bQ_pm : bQ ≠ pm := Nat.ne_of_lt (Nat.lt_of_lt_of_le (((((((SLQ.2.2.2.1.ext Et1).ext Et7).keep K11 (ninS ne_bQ_b7 nin0)).keep K15 (ninS ne_bQ_b7 (ninS ne_bQ_bv11 nin0))).ext Et18).keep K21 (ninS ne_bQ_b7 (ninS ne_bQ_bv11 nin0))).keep K27 (ninS ne_bQ_b7 (ninS ne_bQ_bv11 nin0))).lt hsz30)
  have ne_a3_pm : a3 ≠ pm := Nat.ne_of_lt (Nat.lt_of_lt_of_le (((((((SLW.1.ext Et1).ext Et7).keep K11).keep K15).ext Et18).keep K21).keep K27).lt hsz30)
  have ne_bW_pm : bW ≠ pm := Nat.ne_of_lt (Nat.lt_of_lt_of_le (((((((SLW.2.2.2.1.ext Et1).ext Et7).keep K11 (ninS ne_bW_b7 nin0)).keep K15 (ninS ne_bW_b7 (ninS ne_bW_bv11 nin0))).ext Et18).keep K21 (ninS ne_bW_b7 (ninS ne_bW_bv11 nin0))).keep K27 (ninS ne_bW_b7 (ninS ne_bW_bv11 nin0))).lt hsz30)
  have ne_a4_pm : a4 ≠ pm := Nat.ne_of_lt (Nat.lt_of_lt_of_le (((((((SLP.1.ext Et1).ext Et7).keep K11).keep K15).ext Et18).keep K21).keep K27).lt hsz30)
  have ne_bP_pm : bP ≠ pm := Nat.ne_of_lt (Nat.lt_of_lt_of_le (((((((SLP.2.2.2.1.ext Et1).ext Et7).keep K11 (ninS ne_bP_b7 nin0)).keep K15 (ninS ne_bP_b7 (ninS ne_bP_bv11 nin0))).ext Et18).keep K21 (ninS ne_bP_b7 (ninS ne_bP_bv11 nin0))).keep K27 (ninS ne_bP_b7 (ninS ne_bP_bv11 nin0))).lt hsz30)
  have ne_b1_pm : b1 ≠ pm := Nat.ne_of_lt (Nat.lt_of_lt_of_le ((((((A1.ext Et7).keep K11).keep K15).ext Et18).keep K21).keep K27).lt hsz30)
  have ne_b7_pm : b7 ≠ pm := Nat.ne_of_lt (Nat.lt_of_lt_of_le SF27.1.lt hsz30)
  have ne_bv11_pm : bv11 ≠ pm := Nat.ne_of_lt (Nat.lt_of_lt_of_le SF27.2.2.2.2.1.lt hsz30)
  obtain ⟨_, _, ⟨T33, L33, k33, n33⟩, -, X33, ⟨Lc33, hQ33, l33, y33, z33⟩, st33⟩ := X30.specialBack hx (y := mN34) rfl hown18 (mvT hZ18 (hw _ (mW 212 rfl))) (mvT hZ18 (hw _ (mW 41 rfl))) (mvT hZ18 (hw _ (mW 42 rfl))) (by decide) (backOfKL (W := 1) (rmIE l Z a0 hw [] b1 a3 pm cz fv u0 u1 bW kW nW bsW pb mk30 ((((0 : Int32) + nQ) + 2) + nP) ((([] ++ bsQ) ++ [(58 : Int32), 32]) ++ bsP) T30.heap n0 Z32 O32 J0 (((((((A1.ext Et7).keep K11).keep K15).ext Et18).keep K21).keep K27).keep K30) g_b1 (Unt.keep K30 nin0 (Unt.keep K27 (ninS ne_b1_b7 (ninS ne_b1_bv11 nin0)) (Unt.keep K21 (ninS ne_b1_b7 (ninS ne_b1_bv11 nin0)) (Unt.ext Et18 (Unt.keep K15 (ninS ne_b1_b7 (ninS ne_b1_bv11 nin0)) (Unt.keep K11 (ninS ne_b1_b7 nin0) (Unt.ext Et7 UN1))))))) (((((((F_cause_b1.ext Et7).keep K11 (ninS ne_b1_b7 nin0)).keep K15 (ninS ne_b1_b7 (ninS ne_b1_bv11 nin0))).ext Et18).keep K21 (ninS ne_b1_b7 (ninS ne_b1_bv11 nin0))).keep K27 (ninS ne_b1_b7 (ninS ne_b1_bv11 nin0))).keep K30 nin0) (((((((F_stackTrace_b1.ext Et7).keep K11 (ninS ne_b1_b7 nin0)).keep K15 (ninS ne_b1_b7 (ninS ne_b1_bv11 nin0))).ext Et18).keep K21 (ninS ne_b1_b7 (ninS ne_b1_bv11 nin0))).keep K27 (ninS ne_b1_b7 (ninS ne_b1_bv11 nin0))).keep K30 nin0) (((((((F_suppressedExceptions_b1.ext Et7).keep K11 (ninS ne_b1_b7 nin0)).keep K15 (ninS ne_b1_b7 (ninS ne_b1_bv11 nin0))).ext Et18).keep K21 (ninS ne_b1_b7 (ninS ne_b1_bv11 nin0))).keep K27 (ninS ne_b1_b7 (ninS ne_b1_bv11 nin0))).keep K30 nin0) (((((((F_backtrace_b1.ext Et7).keep K11 (ninS ne_b1_b7 nin0)).keep K15 (ninS ne_b1_b7 (ninS ne_b1_bv11 nin0))).ext Et18).keep K21 (ninS ne_b1_b7 (ninS ne_b1_bv11 nin0))).keep K27 (ninS ne_b1_b7 (ninS ne_b1_bv11 nin0))).keep K30 nin0) (((((((F_detailMessage_b1.ext Et7).keep K11 (ninS ne_b1_b7 nin0)).keep K15 (ninS ne_b1_b7 (ninS ne_b1_bv11 nin0))).ext Et18).keep K21 (ninS ne_b1_b7 (ninS ne_b1_bv11 nin0))).keep K27 (ninS ne_b1_b7 (ninS ne_b1_bv11 nin0))).keep K30 nin0) (((((((F_where_b1.ext Et7).keep K11 (ninS ne_b1_b7 nin0)).keep K15 (ninS ne_b1_b7 (ninS ne_b1_bv11 nin0))).ext Et18).keep K21 (ninS ne_b1_b7 (ninS ne_b1_bv11 nin0))).keep K27 (ninS ne_b1_b7 (ninS ne_b1_bv11 nin0))).keep K30 nin0) (((((((F_problem_b1.ext Et7).keep K11 (ninS ne_b1_b7 nin0)).keep K15 (ninS ne_b1_b7 (ninS ne_b1_bv11 nin0))).ext Et18).keep K21 (ninS ne_b1_b7 (ninS ne_b1_bv11 nin0))).keep K27 (ninS ne_b1_b7 (ninS ne_b1_bv11 nin0))).keep K30 nin0) TH32 ((((((((SLW.ext Et1).ext Et7).keep K11 (ninS ne_a3_b7 nin0) (ninS ne_bW_b7 nin0)).keep K15 (ninS ne_a3_b7 (ninS ne_a3_bv11 nin0)) (ninS ne_bW_b7 (ninS ne_bW_bv11 nin0))).ext Et18).keep K21 (ninS ne_a3_b7 (ninS ne_a3_bv11 nin0)) (ninS ne_bW_b7 (ninS ne_bW_bv11 nin0))).keep K27 (ninS ne_a3_b7 (ninS ne_a3_bv11 nin0)) (ninS ne_bW_b7 (ninS ne_bW_bv11 nin0))).keep K30 nin0 nin0) SF30 gnW SF27.2.2.2.2.2.2.1 (by (try simp only [List.length_append, List.length_nil, List.length_cons]) <;> omega) SU SS hl) hZ18 (hw _ (mW 42 rfl)) (hw _ (mW 39 rfl)) (by decide) (by decide) (hTK.alikeC (hZ0.alike.symm.trans hZ18.alike)) (hBl.alikeC (hZ0.alike.symm.trans hZ18.alike))) (g := (mkF m 34 #[rv a1, rv a2] [(.ref pm), (.ref a3), (.ref b1), (.ref b1)])) rfl (hM rfl) (Steps.refl _) (a := b1) (argsL := [(.ref a3), (.ref pm)]) (rest := [(.ref b1)]) (lenOf pd24 rfl) rfl (Nat.le_of_eq rfl) (B d35_34) (fun _ _ => ⟨rfl, rfl, wl rfl, wl rfl⟩)
  dsimp only [Pt.U, Pt.locs, Pt.cells, Pt.slots] at X33 l33 y33 z33 st33 hQ33
  subst l33 y33 z33
  obtain ⟨ms, mb, mk33, nm33, rfl, N33q, K33, EX33, DM33, FA33, FB33, hsz33, SF33, gl33⟩ := hQ33
  have N33 := Fr.app N30 N33q
  have pre34 : Go p e bl T33 (mkF m 37 #[rv a1, rv a2] [(.ref b1)]) s1 EF := fun t k => pre31 t (st33.trans k)
  have TH35 : ThS Z T33.heap := ThS.keep K33 (nsS ((((((((A1.ext Et7).keep K11).keep K15).ext Et18).keep K21).keep K27).keep K30)).nostat ns0) TH32
  have O35 : Old Z n0 T33.heap := O32.keep K33 (allS g_b1 all0)
  have Z35 : n0 ≤ T33.heap.size := Nat.le_trans Z32 K33.1
  have hk35 := Nat.le_trans hk32 K33.1
  have C35 := CHv.keep K33 (sfS sf32_b1 sf0) C32
  have R35 := R32.trans (CHr.keep K33 (sfS sf32_b1 sf0) C32)
  have sf35_b1 := Safe.keep K33 (sfS sf32_b1 sf0) C32 sf32_b1
  have sf35_b7 := Safe.keep K33 (sfS sf32_b1 sf0) C32 sf32_b7
  have sf35_bv11 := Safe.keep K33 (sfS sf32_b1 sf0) C32 sf32_bv11
  have K35 : Keep h0 T33.heap [] := K32.trans K33 (allS (Or.inr sz_b1) all0)
  obtain ⟨fs, hr, hrun, hended, hend1, hend2, hend3, hsame⟩ := X33.leaveW hS18 hk35 (v := some (.ref b1)) (fun h => by rw [Bd.returns] at h; cases h)
  have hCH : CHr Z [("com/example/picketline/picketline/io/InputException", 29), ("java/lang/String", 7)] s.vm s.heap T33.vm T33.heap := by rw [hh]; exact R35.trans (CHv.at X33 hZ18 (own_EW hw) C35)
  refine ⟨_, _, hEF ▸ pre34 _ (retOut X33 hx Bd.returns rfl (Or.inr (Or.inr (Or.inr (Or.inr ⟨rfl, rfl, rfl⟩)))) (B d35_37) hr), hrun, hended, _, _, rfl, ?_, hCH, hend1, hend2, hend3, hsame.mono (by decide) (by decide)⟩
  show QWI Z a1 a2 cz fv a3 a4 u0 u1 bQ kQ nQ bsQ bW kW nW bsW bP kP nP bsP h0 n0 _ T33.heap _
  exact ⟨_, ms, mb, _, _, rfl, N33, K35, EX33, DM33, SF33, gl33⟩
abbrev rKGm : Room := { frames := 0, cells := 0, slots := 0, locals := 0 }
theorem d36_0 : decode jdk_78_method_6_code 0 = .ok (.aload_n 0, 1) := by decide +kernel
theorem d36_1 : decode jdk_78_method_6_code 1 = .ok (.getfield 31, 3) := by decide +kernel
theorem d36_4 : decode jdk_78_method_6_code 4 = .ok (.areturn, 1) := by decide +kernel
theorem efGm (m : MethodId) (a1 : Addr) : entryFrame m #[(.ref a1)] 1 = mkF m 0 #[rv a1] [] := by first | (simp [entryFrame, mkF, argsToLocals, Value.category]; done) | rfl
def QGm (Z : State) (a1 : Addr) (cz : Int32) (fv : Value) (x1 : Addr) (h0 : Heap) (n0 : Nat) (v : Option Value) (h : Heap) (L : List Loc) : Prop := v = some (.ref x1) ∧ Fr n0 L ∧ h = h0
set_option maxRecDepth 65536 in
set_option maxHeartbeats 40000000 in
theorem rmGm (l : Launch) (Z : State) (a0 : Array Value) (hw : HW a0 Z) (ws : List Jvm.Cond) (a1 : Addr) (cz : Int32) (fv : Value) (x1 : Addr) (h0 : Heap) (n0 : Nat) (Z0 : n0 ≤ h0.size) (O0 : Old Z n0 h0) (J0 : Jd Z cz fv) (F1 : Fld Z h0 a1 "java/lang/Throwable" "detailMessage" "Ljava/lang/String;" (.ref x1)) :
    MF l Z mN36 jdk_78_method_6_code 1 (some (.object "java/lang/String")) ws rKGm #[(.ref a1)] h0 (QGm Z a1 cz fv x1 h0 n0) := by
  refine MetFree.of_bodySF (plainFor_of_name pn8) hisR ?_
  intro p e s m args bl meth c s1 Bd hml0 hP hK
  obtain ⟨rfl, hZ, hh⟩ := hP
  have hx := Bd.exec
  have hby := Bd.bytes
  have B := @hb c _ hby
  have hown : s.vm.findClass "java/lang/Throwable" = some m.cls := findClass_of_methodNamed Bd.named
  have hlk : meth.locks = false := BodyLoose.notSynchronized Bd
  have hrt : ∀ {v : Option Value}, meth.sig.returnType = none → v = none := fun h => by rw [Bd.returns] at h; cases h
  have X0 : Stand p l e rKGm s m #[(.ref a1)] bl meth c s1 [] 0 0 := Stand.of_body Bd
  have e0 : s1.heap = h0 := by rw [← hh, Bd.state]; rfl
  have N0 := Fr.nil n0
  obtain ⟨EF, hEF⟩ : ∃ f, f = entryFrame m #[(.ref a1)] 1 := ⟨_, rfl⟩
  have pre0 : Go p e bl s1 (mkF m 0 #[rv a1] []) s1 EF := fun t k => by rw [hEF]; exact castTop (efGm m a1) k
  have pre1 : Go p e bl s1 (mkF m 1 #[rv a1] [(.ref a1)]) s1 EF := fun t k => pre0 t (by
   exact XS.aloadN X0.here hx rfl (B d36_0) rfl rfl k)
  obtain ⟨T2, X2, e2, st2⟩ := getF X0 hx hZ hown (host := "") (Or.inl (hw _ (mW 200 rfl))) Via.refl e0 F1 (g := (mkF m 1 #[rv a1] [(.ref a1)])) rfl rfl (B d36_1)
  have pre3 : Go p e bl T2 (mkF m 4 #[rv a1] [(.ref x1)]) s1 EF := fun t k => pre1 t (st2 t k)
  exact fin1 X2 (v := some (.ref x1)) hrt hlk (wl rfl) (wl rfl) (by rw [e2]; exact ⟨rfl, N0, rfl⟩) (fun fs hr => hEF ▸ pre3 _ (retOut X2 hx Bd.returns rfl (Or.inr (Or.inr (Or.inr (Or.inr ⟨rfl, rfl, rfl⟩)))) (B d36_4) hr))
theorem own_add {a b : Int32} {x y : Nat} (ha : a.toInt = x) (hb : b.toInt = y) (h : x + y ≤ 1000) : (a + b).toInt = (x + y : Nat) := by
  have q := c_iadd a b
  have r := rng32 (a + b)
  omega
theorem own_c3 {bs : List Int32} (h : bs.length ≤ 3) : bs = [] ∨ (∃ u0, bs = [u0]) ∨ (∃ u0 u1, bs = [u0, u1]) ∨ ∃ u0 u1 u2, bs = [u0, u1, u2] := by
  match bs, h with
  | [], _ => exact Or.inl rfl
  | [u0], _ => exact Or.inr (Or.inl ⟨u0, rfl⟩)
  | [u0, u1], _ => exact Or.inr (Or.inr (Or.inl ⟨u0, u1, rfl⟩))
  | [u0, u1, u2], _ => exact Or.inr (Or.inr (Or.inr ⟨u0, u1, u2, rfl⟩))
  | _ :: _ :: _ :: _ :: _, h => exact absurd h (by simp)
theorem own_ix {n1 q : Int32} {bs1 xs us ys : List Int32} {j : Nat} {u : Int32} (g1 : n1.toInt = bs1.length) (hc : bs1 = xs ++ us ++ ys) (hq : q.toInt = (xs.length + j : Nat)) (hu : us[j]? = some u) : (¬ q < 0 ∧ q < n1) ∧ (BV bs1).getD q.toNatClampNeg (.int 0) = .int u := by
  have hj : j < us.length := (List.getElem?_eq_some_iff.mp hu).1
  have e : (0 : Int32).toInt = 0 := by decide
  have q1 : bs1[xs.length + j]? = some u := by
    rw [hc, List.append_assoc, List.getElem?_append_right (Nat.le_add_right _ _), Nat.add_sub_cancel_left, List.getElem?_append_left hj]; exact hu
  have hlt : xs.length + j < bs1.length := (List.getElem?_eq_some_iff.mp q1).1
  refine ⟨⟨by rw [Int32.lt_iff_toInt_lt, e]; omega, by rw [Int32.lt_iff_toInt_lt, g1, hq]; omega⟩, ?_⟩
  rw [own_clamp hq]
  simp [BV, List.getD, q1]
abbrev rKAt3 : Room := { frames := 4, cells := 0, slots := 0, locals := 54 }
theorem d37_0 : decode method_3_code 0 = .ok (.aload_n 2, 1) := by decide +kernel
theorem d37_1 : decode method_3_code 1 = .ok (.invokevirtual 12, 3) := by decide +kernel
theorem d37_4 : decode method_3_code 4 = .ok (.ifCond .le 18, 3) := by decide +kernel
theorem d37_7 : decode method_3_code 7 = .ok (.aload_n 0, 1) := by decide +kernel
theorem d37_8 : decode method_3_code 8 = .ok (.iload_n 1, 1) := by decide +kernel
theorem d37_9 : decode method_3_code 9 = .ok (.invokevirtual 16, 3) := by decide +kernel
theorem d37_12 : decode method_3_code 12 = .ok (.aload_n 2, 1) := by decide +kernel
theorem d37_13 : decode method_3_code 13 = .ok (.iconst 0, 1) := by decide +kernel
theorem d37_14 : decode method_3_code 14 = .ok (.invokevirtual 16, 3) := by decide +kernel
theorem d37_17 : decode method_3_code 17 = .ok (.if_icmp .eq 5, 3) := by decide +kernel
theorem d37_22 : decode method_3_code 22 = .ok (.aload_n 2, 1) := by decide +kernel
theorem d37_23 : decode method_3_code 23 = .ok (.invokevirtual 12, 3) := by decide +kernel
theorem d37_26 : decode method_3_code 26 = .ok (.iconst 1, 1) := by decide +kernel
theorem d37_27 : decode method_3_code 27 = .ok (.if_icmp .le 20, 3) := by decide +kernel
theorem d37_30 : decode method_3_code 30 = .ok (.aload_n 0, 1) := by decide +kernel
theorem d37_31 : decode method_3_code 31 = .ok (.iload_n 1, 1) := by decide +kernel
theorem d37_32 : decode method_3_code 32 = .ok (.iconst 1, 1) := by decide +kernel
theorem d37_33 : decode method_3_code 33 = .ok (.iadd, 1) := by decide +kernel
theorem d37_34 : decode method_3_code 34 = .ok (.invokevirtual 16, 3) := by decide +kernel
theorem d37_37 : decode method_3_code 37 = .ok (.aload_n 2, 1) := by decide +kernel
theorem d37_38 : decode method_3_code 38 = .ok (.iconst 1, 1) := by decide +kernel
theorem d37_39 : decode method_3_code 39 = .ok (.invokevirtual 16, 3) := by decide +kernel
theorem d37_42 : decode method_3_code 42 = .ok (.if_icmp .eq 5, 3) := by decide +kernel
theorem d37_47 : decode method_3_code 47 = .ok (.aload_n 2, 1) := by decide +kernel
theorem d37_48 : decode method_3_code 48 = .ok (.invokevirtual 12, 3) := by decide +kernel
theorem d37_51 : decode method_3_code 51 = .ok (.iconst 2, 1) := by decide +kernel
theorem d37_52 : decode method_3_code 52 = .ok (.if_icmp .le 20, 3) := by decide +kernel
theorem d37_55 : decode method_3_code 55 = .ok (.aload_n 0, 1) := by decide +kernel
theorem d37_56 : decode method_3_code 56 = .ok (.iload_n 1, 1) := by decide +kernel
theorem d37_57 : decode method_3_code 57 = .ok (.iconst 2, 1) := by decide +kernel
theorem d37_58 : decode method_3_code 58 = .ok (.iadd, 1) := by decide +kernel
theorem d37_59 : decode method_3_code 59 = .ok (.invokevirtual 16, 3) := by decide +kernel
theorem d37_62 : decode method_3_code 62 = .ok (.aload_n 2, 1) := by decide +kernel
theorem d37_63 : decode method_3_code 63 = .ok (.iconst 2, 1) := by decide +kernel
theorem d37_64 : decode method_3_code 64 = .ok (.invokevirtual 16, 3) := by decide +kernel
theorem d37_67 : decode method_3_code 67 = .ok (.if_icmp .eq 5, 3) := by decide +kernel
theorem d37_72 : decode method_3_code 72 = .ok (.iconst 1, 1) := by decide +kernel
theorem d37_73 : decode method_3_code 73 = .ok (.ireturn, 1) := by decide +kernel
theorem pd25 : parseMethodDescriptor "(I)C" = some ⟨[.int], some .char⟩ := by decide +kernel
theorem efAt3 (m : MethodId) (a1 : Addr) (p1 : Int32) (a2 : Addr) : entryFrame m #[(.ref a1), (.int p1), (.ref a2)] 3 = mkF m 0 #[rv a1, iv p1, rv a2] [] := by first | (simp [entryFrame, mkF, argsToLocals, Value.category]; done) | rfl
def QAt3 (Z : State) (a1 : Addr) (p1 : Int32) (a2 : Addr) (cz : Int32) (fv : Value) (bM : Addr) (kM : ClassId) (nM : Int32) (bsM : List Int32) (bS : Addr) (kS : ClassId) (u0 : Int32) (u1 : Int32) (u2 : Int32) (h0 : Heap) (n0 : Nat) (v : Option Value) (h : Heap) (L : List Loc) : Prop := v = some (.int 1) ∧ Fr n0 L ∧ h = h0
set_option maxRecDepth 65536 in
set_option maxHeartbeats 40000000 in
theorem rmAt3 (l : Launch) (Z : State) (a0 : Array Value) (hw : HW a0 Z) (ws : List Jvm.Cond) (a1 : Addr) (p1 : Int32) (a2 : Addr) (cz : Int32) (fv : Value) (bM : Addr) (kM : ClassId) (nM : Int32) (bsM : List Int32) (bS : Addr) (kS : ClassId) (u0 : Int32) (u1 : Int32) (u2 : Int32) (h0 : Heap) (n0 : Nat) (Z0 : n0 ≤ h0.size) (O0 : Old Z n0 h0) (J0 : Jd Z cz fv) (SLM : StL Z h0 a1 bM kM nM bsM 0 0) (SLS : StL Z h0 a2 bS kS 3 [u0, u1, u2] 0 0) (i0 : (¬ p1 < 0 ∧ p1 < nM) ∧ (BV bsM).getD p1.toNatClampNeg (.int 0) = .int u0) (i1 : (¬ (p1 + (1 : Int32)) < 0 ∧ (p1 + (1 : Int32)) < nM) ∧ (BV bsM).getD (p1 + (1 : Int32)).toNatClampNeg (.int 0) = .int u1) (i2 : (¬ (p1 + (2 : Int32)) < 0 ∧ (p1 + (2 : Int32)) < nM) ∧ (BV bsM).getD (p1 + (2 : Int32)).toNatClampNeg (.int 0) = .int u2) :
    MF l Z mN37 method_3_code 3 (some .boolean) ws rKAt3 #[(.ref a1), (.int p1), (.ref a2)] h0 (QAt3 Z a1 p1 a2 cz fv bM kM nM bsM bS kS u0 u1 u2 h0 n0) := by
  refine MetFree.of_bodySF (plainFor_of_name pn7) hisR ?_
  intro p e s m args bl meth c s1 Bd hml0 hP hK
  obtain ⟨rfl, hZ, hh⟩ := hP
  have hx := Bd.exec
  have hby := Bd.bytes
  have B := @hb c _ hby
  have hM := fun {n : Nat} (h : n = 3) => h.trans hml0.symm
  have hown : s.vm.findClass "com/example/picketline/picketline/io/InputExceptionWithinPinLaw" = some m.cls := findClass_of_methodNamed Bd.named
  have hlk : meth.locks = false := BodyLoose.notSynchronized Bd
  have hrt : ∀ {v : Option Value}, meth.sig.returnType = none → v = none := fun h => by rw [Bd.returns] at h; cases h
  have X0 : Stand p l e rKAt3 s m #[(.ref a1), (.int p1), (.ref a2)] bl meth c s1 [] 0 0 := Stand.of_body Bd
  have e0 : s1.heap = h0 := by rw [← hh, Bd.state]; rfl
  have N0 := Fr.nil n0
  obtain ⟨EF, hEF⟩ : ∃ f, f = entryFrame m #[(.ref a1), (.int p1), (.ref a2)] 3 := ⟨_, rfl⟩
  have pre0 : Go p e bl s1 (mkF m 0 #[rv a1, iv p1, rv a2] []) s1 EF := fun t k => by rw [hEF]; exact castTop (efAt3 m a1 p1 a2) k
  have pre1 : Go p e bl s1 (mkF m 1 #[rv a1, iv p1, rv a2] [(.ref a2)]) s1 EF := fun t k => pre0 t (by
   exact XS.aloadN X0.here hx rfl (B d37_0) rfl rfl k)
  obtain ⟨cq2, kq2, q2a, q2b, q2c⟩ := isOf hZ e0 SLS.1
  obtain ⟨_, _, ⟨T2, L2, k2, n2⟩, -, X2, ⟨Lc2, hQ2, l2, y2, z2⟩, st2⟩ := X0.virtualBack hx (y := mN1) (z := mN1) hown (mvT hZ (hw _ (mW 219 rfl))) (mvT hZ (hw _ (mW 72 rfl))) (notFace_of_selects (args := #[]) (mvT hZ (hw _ (mW 74 rfl)))) (mvT hZ (hw _ (mW 74 rfl))) (mvT hZ (hw _ (mW 73 rfl))) (by decide) (backOf (W := 0) (rmJle l Z a0 hw [] a2 cz fv (0 : Int32) bS kS (3 : Int32) (BV [u0, u1, u2]) (3 : Int32) h0 n0 Z0 O0 J0 SLS.1 SLS.2.1 SLS.2.2.1 SLS.2.2.2.1 rfl (own_shr0 rfl)) hZ (hw _ (mW 75 rfl)) (hw _ (mW 6 rfl)) (by decide) (by decide)) q2a q2c (g := (mkF m 1 #[rv a1, iv p1, rv a2] [(.ref a2)])) rfl (hM rfl) (Steps.refl _) (argsL := []) (rest := []) (lenOf pd8 rfl) rfl (Nat.le_of_eq rfl) (B d37_1) (fun _ _ => ⟨rfl, e0, wl rfl, wl rfl⟩)
  dsimp only [Pt.U, Pt.locs, Pt.cells, Pt.slots] at X2 l2 y2 z2 st2 hQ2
  subst l2 y2 z2
  obtain ⟨rfl, N2q, hq2⟩ := hQ2
  have N2 := Fr.app N0 N2q
  have pre3 : Go p e bl T2 (mkF m 4 #[rv a1, iv p1, rv a2] [(.int 3)]) s1 EF := fun t k => pre1 t (st2.trans k)
  have e2 : T2.heap = h0 := hq2
  have pre4 : Go p e bl T2 (mkF m 7 #[rv a1, iv p1, rv a2] []) s1 EF := fun t k => pre3 t (XS.ifNo X2.here hx rfl (B d37_4) rfl ((if0 _ _).trans (tlt (by decide : (0 : Int32) < (3 : Int32))).2.2.2) k)
  have pre5 : Go p e bl T2 (mkF m 9 #[rv a1, iv p1, rv a2] [(.int p1), (.ref a1)]) s1 EF := fun t k => pre4 t (by
   refine XS.aloadN X2.here hx rfl (B d37_7) rfl rfl ?_
   exact XS.iloadN X2.here hx rfl (B d37_8) rfl k)
  obtain ⟨cq6, kq6, q6a, q6b, q6c⟩ := isOf hZ e2 SLM.1
  obtain ⟨_, _, ⟨T6, L6, k6, n6⟩, -, X6, ⟨Lc6, hQ6, l6, y6, z6⟩, st6⟩ := X2.virtualBack hx (y := mN6) (z := mN6) hown (mvT hZ (hw _ (mW 223 rfl))) (mvT hZ (hw _ (mW 224 rfl))) (notFace_of_selects (args := #[]) (mvT hZ (hw _ (mW 226 rfl)))) (mvT hZ (hw _ (mW 226 rfl))) (mvT hZ (hw _ (mW 225 rfl))) (by decide) (backOf (W := 0) (rmJcl l Z a0 hw [] a1 p1 cz fv bM kM nM (BV bsM) u0 (u0 &&& (255 : Int32)) h0 n0 Z0 O0 J0 SLM.1 SLM.2.1 SLM.2.2.1 SLM.2.2.2.1 i0.1.1 i0.1.2 i0.2 rfl (own_nm u0)) hZ (hw _ (mW 227 rfl)) (hw _ (mW 6 rfl)) (by decide) (by decide)) q6a q6c (g := (mkF m 9 #[rv a1, iv p1, rv a2] [(.int p1), (.ref a1)])) rfl (hM rfl) (Steps.refl _) (argsL := [(.int p1)]) (rest := []) (lenOf pd25 rfl) rfl (Nat.le_of_eq rfl) (B d37_9) (fun _ _ => ⟨rfl, e2, wl rfl, wl rfl⟩)
  dsimp only [Pt.U, Pt.locs, Pt.cells, Pt.slots] at X6 l6 y6 z6 st6 hQ6
  subst l6 y6 z6
  obtain ⟨rfl, N6q, hq6⟩ := hQ6
  have N6 := Fr.app N2 N6q
  have pre7 : Go p e bl T6 (mkF m 12 #[rv a1, iv p1, rv a2] [(.int (u0 &&& (255 : Int32)))]) s1 EF := fun t k => pre5 t (st6.trans k)
  have e6 : T6.heap = h0 := hq6
  have pre8 : Go p e bl T6 (mkF m 14 #[rv a1, iv p1, rv a2] [(.int 0), (.ref a2), (.int (u0 &&& (255 : Int32)))]) s1 EF := fun t k => pre7 t (by
   refine XS.aloadN X6.here hx rfl (B d37_12) rfl rfl ?_
   exact XS.iconst X6.here hx rfl (B d37_13) k)
  obtain ⟨cq9, kq9, q9a, q9b, q9c⟩ := isOf hZ e6 SLS.1
  obtain ⟨_, _, ⟨T9, L9, k9, n9⟩, -, X9, ⟨Lc9, hQ9, l9, y9, z9⟩, st9⟩ := X6.virtualBack hx (y := mN6) (z := mN6) hown (mvT hZ (hw _ (mW 223 rfl))) (mvT hZ (hw _ (mW 224 rfl))) (notFace_of_selects (args := #[]) (mvT hZ (hw _ (mW 226 rfl)))) (mvT hZ (hw _ (mW 226 rfl))) (mvT hZ (hw _ (mW 225 rfl))) (by decide) (backOf (W := 1) (rmJcl l Z a0 hw [] a2 (0 : Int32) cz fv bS kS 3 (BV [u0, u1, u2]) u0 (u0 &&& (255 : Int32)) h0 n0 Z0 O0 J0 SLS.1 SLS.2.1 SLS.2.2.1 SLS.2.2.2.1 (by decide) (by decide) rfl rfl (own_nm u0)) hZ (hw _ (mW 227 rfl)) (hw _ (mW 6 rfl)) (by decide) (by decide)) q9a q9c (g := (mkF m 14 #[rv a1, iv p1, rv a2] [(.int 0), (.ref a2), (.int (u0 &&& (255 : Int32)))])) rfl (hM rfl) (Steps.refl _) (argsL := [(.int 0)]) (rest := [(.int (u0 &&& (255 : Int32)))]) (lenOf pd25 rfl) rfl (Nat.le_of_eq rfl) (B d37_14) (fun _ _ => ⟨rfl, e6, wl rfl, wl rfl⟩)
  dsimp only [Pt.U, Pt.locs, Pt.cells, Pt.slots] at X9 l9 y9 z9 st9 hQ9
  subst l9 y9 z9
  obtain ⟨rfl, N9q, hq9⟩ := hQ9
  have N9 := Fr.app N6 N9q
  have pre10 : Go p e bl T9 (mkF m 17 #[rv a1, iv p1, rv a2] [(.int (u0 &&& (255 : Int32))), (.int (u0 &&& (255 : Int32)))]) s1 EF := fun t k => pre8 t (st9.trans k)
  have e9 : T9.heap = h0 := hq9
  have pre11 : Go p e bl T9 (mkF m 22 #[rv a1, iv p1, rv a2] []) s1 EF := fun t k => pre10 t (XS.icmpYes X9.here hx rfl (pc0 := 17) (pc' := 22) rfl (B d37_17) rfl (teq (rfl : (u0 &&& (255 : Int32)) = (u0 &&& (255 : Int32)))).1 (by decide) (by decide) k)
  have pre12 : Go p e bl T9 (mkF m 23 #[rv a1, iv p1, rv a2] [(.ref a2)]) s1 EF := fun t k => pre11 t (by
   exact XS.aloadN X9.here hx rfl (B d37_22) rfl rfl k)
  obtain ⟨cq13, kq13, q13a, q13b, q13c⟩ := isOf hZ e9 SLS.1
  obtain ⟨_, _, ⟨T13, L13, k13, n13⟩, -, X13, ⟨Lc13, hQ13, l13, y13, z13⟩, st13⟩ := X9.virtualBack hx (y := mN1) (z := mN1) hown (mvT hZ (hw _ (mW 219 rfl))) (mvT hZ (hw _ (mW 72 rfl))) (notFace_of_selects (args := #[]) (mvT hZ (hw _ (mW 74 rfl)))) (mvT hZ (hw _ (mW 74 rfl))) (mvT hZ (hw _ (mW 73 rfl))) (by decide) (backOf (W := 0) (rmJle l Z a0 hw [] a2 cz fv (0 : Int32) bS kS (3 : Int32) (BV [u0, u1, u2]) (3 : Int32) h0 n0 Z0 O0 J0 SLS.1 SLS.2.1 SLS.2.2.1 SLS.2.2.2.1 rfl (own_shr0 rfl)) hZ (hw _ (mW 75 rfl)) (hw _ (mW 6 rfl)) (by decide) (by decide)) q13a q13c (g := (mkF m 23 #[rv a1, iv p1, rv a2] [(.ref a2)])) rfl (hM rfl) (Steps.refl _) (argsL := []) (rest := []) (lenOf pd8 rfl) rfl (Nat.le_of_eq rfl) (B d37_23) (fun _ _ => ⟨rfl, e9, wl rfl, wl rfl⟩)
  dsimp only [Pt.U, Pt.locs, Pt.cells, Pt.slots] at X13 l13 y13 z13 st13 hQ13
  subst l13 y13 z13
  obtain ⟨rfl, N13q, hq13⟩ := hQ13
  have N13 := Fr.app N9 N13q
  have pre14 : Go p e bl T13 (mkF m 26 #[rv a1, iv p1, rv a2] [(.int 3)]) s1 EF := fun t k => pre12 t (st13.trans k)
  have e13 : T13.heap = h0 := hq13
  have pre15 : Go p e bl T13 (mkF m 27 #[rv a1, iv p1, rv a2] [(.int 1), (.int 3)]) s1 EF := fun t k => pre14 t (by
   exact XS.iconst X13.here hx rfl (B d37_26) k)
  have pre16 : Go p e bl T13 (mkF m 30 #[rv a1, iv p1, rv a2] []) s1 EF := fun t k => pre15 t (XS.icmpNo X13.here hx rfl (B d37_27) rfl (tlt (by decide : (1 : Int32) < (3 : Int32))).2.2.2 k)
  have pre17 : Go p e bl T13 (mkF m 34 #[rv a1, iv p1, rv a2] [(.int (p1 + (1 : Int32))), (.ref a1)]) s1 EF := fun t k => pre16 t (by
   refine XS.aloadN X13.here hx rfl (B d37_30) rfl rfl ?_
   refine XS.iloadN X13.here hx rfl (B d37_31) rfl ?_
   refine XS.iconst X13.here hx rfl (B d37_32) ?_
   exact XS.iadd X13.here hx rfl (B d37_33) rfl k)
  obtain ⟨cq18, kq18, q18a, q18b, q18c⟩ := isOf hZ e13 SLM.1
  obtain ⟨_, _, ⟨T18, L18, k18, n18⟩, -, X18, ⟨Lc18, hQ18, l18, y18, z18⟩, st18⟩ := X13.virtualBack hx (y := mN6) (z := mN6) hown (mvT hZ (hw _ (mW 223 rfl))) (mvT hZ (hw _ (mW 224 rfl))) (notFace_of_selects (args := #[]) (mvT hZ (hw _ (mW 226 rfl)))) (mvT hZ (hw _ (mW 226 rfl))) (mvT hZ (hw _ (mW 225 rfl))) (by decide) (backOf (W := 0) (rmJcl l Z a0 hw [] a1 (p1 + (1 : Int32)) cz fv bM kM nM (BV bsM) u1 (u1 &&& (255 : Int32)) h0 n0 Z0 O0 J0 SLM.1 SLM.2.1 SLM.2.2.1 SLM.2.2.2.1 i1.1.1 i1.1.2 i1.2 rfl (own_nm u1)) hZ (hw _ (mW 227 rfl)) (hw _ (mW 6 rfl)) (by decide) (by decide)) q18a q18c (g := (mkF m 34 #[rv a1, iv p1, rv a2] [(.int (p1 + (1 : Int32))), (.ref a1)])) rfl (hM rfl) (Steps.refl _) (argsL := [(.int (p1 + (1 : Int32)))]) (rest := []) (lenOf pd25 rfl) rfl (Nat.le_of_eq rfl) (B d37_34) (fun _ _ => ⟨rfl, e13, wl rfl, wl rfl⟩)
  dsimp only [Pt.U, Pt.locs, Pt.cells, Pt.slots] at X18 l18 y18 z18 st18 hQ18
  subst l18 y18 z18
  obtain ⟨rfl, N18q, hq18⟩ := hQ18
  have N18 := Fr.app N13 N18q
  have pre19 : Go p e bl T18 (mkF m 37 #[rv a1, iv p1, rv a2] [(.int (u1 &&& (255 : Int32)))]) s1 EF := fun t k => pre17 t (st18.trans k)
  have e18 : T18.heap = h0 := hq18
  have pre20 : Go p e bl T18 (mkF m 39 #[rv a1, iv p1, rv a2] [(.int 1), (.ref a2), (.int (u1 &&& (255 : Int32)))]) s1 EF := fun t k => pre19 t (by
   refine XS.aloadN X18.here hx rfl (B d37_37) rfl rfl ?_
   exact XS.iconst X18.here hx rfl (B d37_38) k)
  obtain ⟨cq21, kq21, q21a, q21b, q21c⟩ := isOf hZ e18 SLS.1
  obtain ⟨_, _, ⟨T21, L21, k21, n21⟩, -, X21, ⟨Lc21, hQ21, l21, y21, z21⟩, st21⟩ := X18.virtualBack hx (y := mN6) (z := mN6) hown (mvT hZ (hw _ (mW 223 rfl))) (mvT hZ (hw _ (mW 224 rfl))) (notFace_of_selects (args := #[]) (mvT hZ (hw _ (mW 226 rfl)))) (mvT hZ (hw _ (mW 226 rfl))) (mvT hZ (hw _ (mW 225 rfl))) (by decide) (backOf (W := 1) (rmJcl l Z a0 hw [] a2 (1 : Int32) cz fv bS kS 3 (BV [u0, u1, u2]) u1 (u1 &&& (255 : Int32)) h0 n0 Z0 O0 J0 SLS.1 SLS.2.1 SLS.2.2.1 SLS.2.2.2.1 (by decide) (by decide) rfl rfl (own_nm u1)) hZ (hw _ (mW 227 rfl)) (hw _ (mW 6 rfl)) (by decide) (by decide)) q21a q21c (g := (mkF m 39 #[rv a1, iv p1, rv a2] [(.int 1), (.ref a2), (.int (u1 &&& (255 : Int32)))])) rfl (hM rfl) (Steps.refl _) (argsL := [(.int 1)]) (rest := [(.int (u1 &&& (255 : Int32)))]) (lenOf pd25 rfl) rfl (Nat.le_of_eq rfl) (B d37_39) (fun _ _ => ⟨rfl, e18, wl rfl, wl rfl⟩)
  dsimp only [Pt.U, Pt.locs, Pt.cells, Pt.slots] at X21 l21 y21 z21 st21 hQ21
  subst l21 y21 z21
  obtain ⟨rfl, N21q, hq21⟩ := hQ21
  have N21 := Fr.app N18 N21q
  have pre22 : Go p e bl T21 (mkF m 42 #[rv a1, iv p1, rv a2] [(.int (u1 &&& (255 : Int32))), (.int (u1 &&& (255 : Int32)))]) s1 EF := fun t k => pre20 t (st21.trans k)
  have e21 : T21.heap = h0 := hq21
  have pre23 : Go p e bl T21 (mkF m 47 #[rv a1, iv p1, rv a2] []) s1 EF := fun t k => pre22 t (XS.icmpYes X21.here hx rfl (pc0 := 42) (pc' := 47) rfl (B d37_42) rfl (teq (rfl : (u1 &&& (255 : Int32)) = (u1 &&& (255 : Int32)))).1 (by decide) (by decide) k)
  have pre24 : Go p e bl T21 (mkF m 48 #[rv a1, iv p1, rv a2] [(.ref a2)]) s1 EF := fun t k => pre23 t (by
   exact XS.aloadN X21.here hx rfl (B d37_47) rfl rfl k)
  obtain ⟨cq25, kq25, q25a, q25b, q25c⟩ := isOf hZ e21 SLS.1
  obtain ⟨_, _, ⟨T25, L25, k25, n25⟩, -, X25, ⟨Lc25, hQ25, l25, y25, z25⟩, st25⟩ := X21.virtualBack hx (y := mN1) (z := mN1) hown (mvT hZ (hw _ (mW 219 rfl))) (mvT hZ (hw _ (mW 72 rfl))) (notFace_of_selects (args := #[]) (mvT hZ (hw _ (mW 74 rfl)))) (mvT hZ (hw _ (mW 74 rfl))) (mvT hZ (hw _ (mW 73 rfl))) (by decide) (backOf (W := 0) (rmJle l Z a0 hw [] a2 cz fv (0 : Int32) bS kS (3 : Int32) (BV [u0, u1, u2]) (3 : Int32) h0 n0 Z0 O0 J0 SLS.1 SLS.2.1 SLS.2.2.1 SLS.2.2.2.1 rfl (own_shr0 rfl)) hZ (hw _ (mW 75 rfl)) (hw _ (mW 6 rfl)) (by decide) (by decide)) q25a q25c (g := (mkF m 48 #[rv a1, iv p1, rv a2] [(.ref a2)])) rfl (hM rfl) (Steps.refl _) (argsL := []) (rest := []) (lenOf pd8 rfl) rfl (Nat.le_of_eq rfl) (B d37_48) (fun _ _ => ⟨rfl, e21, wl rfl, wl rfl⟩)
  dsimp only [Pt.U, Pt.locs, Pt.cells, Pt.slots] at X25 l25 y25 z25 st25 hQ25
  subst l25 y25 z25
  obtain ⟨rfl, N25q, hq25⟩ := hQ25
  have N25 := Fr.app N21 N25q
  have pre26 : Go p e bl T25 (mkF m 51 #[rv a1, iv p1, rv a2] [(.int 3)]) s1 EF := fun t k => pre24 t (st25.trans k)
  have e25 : T25.heap = h0 := hq25
  have pre27 : Go p e bl T25 (mkF m 52 #[rv a1, iv p1, rv a2] [(.int 2), (.int 3)]) s1 EF := fun t k => pre26 t (by
   exact XS.iconst X25.here hx rfl (B d37_51) k)
  have pre28 : Go p e bl T25 (mkF m 55 #[rv a1, iv p1, rv a2] []) s1 EF := fun t k => pre27 t (XS.icmpNo X25.here hx rfl (B d37_52) rfl (tlt (by decide : (2 : Int32) < (3 : Int32))).2.2.2 k)
  have pre29 : Go p e bl T25 (mkF m 59 #[rv a1, iv p1, rv a2] [(.int (p1 + (2 : Int32))), (.ref a1)]) s1 EF := fun t k => pre28 t (by
   refine XS.aloadN X25.here hx rfl (B d37_55) rfl rfl ?_
   refine XS.iloadN X25.here hx rfl (B d37_56) rfl ?_
   refine XS.iconst X25.here hx rfl (B d37_57) ?_
   exact XS.iadd X25.here hx rfl (B d37_58) rfl k)
  obtain ⟨cq30, kq30, q30a, q30b, q30c⟩ := isOf hZ e25 SLM.1
  obtain ⟨_, _, ⟨T30, L30, k30, n30⟩, -, X30, ⟨Lc30, hQ30, l30, y30, z30⟩, st30⟩ := X25.virtualBack hx (y := mN6) (z := mN6) hown (mvT hZ (hw _ (mW 223 rfl))) (mvT hZ (hw _ (mW 224 rfl))) (notFace_of_selects (args := #[]) (mvT hZ (hw _ (mW 226 rfl)))) (mvT hZ (hw _ (mW 226 rfl))) (mvT hZ (hw _ (mW 225 rfl))) (by decide) (backOf (W := 0) (rmJcl l Z a0 hw [] a1 (p1 + (2 : Int32)) cz fv bM kM nM (BV bsM) u2 (u2 &&& (255 : Int32)) h0 n0 Z0 O0 J0 SLM.1 SLM.2.1 SLM.2.2.1 SLM.2.2.2.1 i2.1.1 i2.1.2 i2.2 rfl (own_nm u2)) hZ (hw _ (mW 227 rfl)) (hw _ (mW 6 rfl)) (by decide) (by decide)) q30a q30c (g := (mkF m 59 #[rv a1, iv p1, rv a2] [(.int (p1 + (2 : Int32))), (.ref a1)])) rfl (hM rfl) (Steps.refl _) (argsL := [(.int (p1 + (2 : Int32)))]) (rest := []) (lenOf pd25 rfl) rfl (Nat.le_of_eq rfl) (B d37_59) (fun _ _ => ⟨rfl, e25, wl rfl, wl rfl⟩)
  dsimp only [Pt.U, Pt.locs, Pt.cells, Pt.slots] at X30 l30 y30 z30 st30 hQ30
  subst l30 y30 z30
  obtain ⟨rfl, N30q, hq30⟩ := hQ30
  have N30 := Fr.app N25 N30q
  have pre31 : Go p e bl T30 (mkF m 62 #[rv a1, iv p1, rv a2] [(.int (u2 &&& (255 : Int32)))]) s1 EF := fun t k => pre29 t (st30.trans k)
  have e30 : T30.heap = h0 := hq30
  have pre32 : Go p e bl T30 (mkF m 64 #[rv a1, iv p1, rv a2] [(.int 2), (.ref a2), (.int (u2 &&& (255 : Int32)))]) s1 EF := fun t k => pre31 t (by
   refine XS.aloadN X30.here hx rfl (B d37_62) rfl rfl ?_
   exact XS.iconst X30.here hx rfl (B d37_63) k)
  obtain ⟨cq33, kq33, q33a, q33b, q33c⟩ := isOf hZ e30 SLS.1
  obtain ⟨_, _, ⟨T33, L33, k33, n33⟩, -, X33, ⟨Lc33, hQ33, l33, y33, z33⟩, st33⟩ := X30.virtualBack hx (y := mN6) (z := mN6) hown (mvT hZ (hw _ (mW 223 rfl))) (mvT hZ (hw _ (mW 224 rfl))) (notFace_of_selects (args := #[]) (mvT hZ (hw _ (mW 226 rfl)))) (mvT hZ (hw _ (mW 226 rfl))) (mvT hZ (hw _ (mW 225 rfl))) (by decide) (backOf (W := 1) (rmJcl l Z a0 hw [] a2 (2 : Int32) cz fv bS kS 3 (BV [u0, u1, u2]) u2 (u2 &&& (255 : Int32)) h0 n0 Z0 O0 J0 SLS.1 SLS.2.1 SLS.2.2.1 SLS.2.2.2.1 (by decide) (by decide) rfl rfl (own_nm u2)) hZ (hw _ (mW 227 rfl)) (hw _ (mW 6 rfl)) (by decide) (by decide)) q33a q33c (g := (mkF m 64 #[rv a1, iv p1, rv a2] [(.int 2), (.ref a2), (.int (u2 &&& (255 : Int32)))])) rfl (hM rfl) (Steps.refl _) (argsL := [(.int 2)]) (rest := [(.int (u2 &&& (255 : Int32)))]) (lenOf pd25 rfl) rfl (Nat.le_of_eq rfl) (B d37_64) (fun _ _ => ⟨rfl, e30, wl rfl, wl rfl⟩)
  dsimp only [Pt.U, Pt.locs, Pt.cells, Pt.slots] at X33 l33 y33 z33 st33 hQ33
  subst l33 y33 z33
  obtain ⟨rfl, N33q, hq33⟩ := hQ33
  have N33 := Fr.app N30 N33q
  have pre34 : Go p e bl T33 (mkF m 67 #[rv a1, iv p1, rv a2] [(.int (u2 &&& (255 : Int32))), (.int (u2 &&& (255 : Int32)))]) s1 EF := fun t k => pre32 t (st33.trans k)
  have e33 : T33.heap = h0 := hq33
  have pre35 : Go p e bl T33 (mkF m 72 #[rv a1, iv p1, rv a2] []) s1 EF := fun t k => pre34 t (XS.icmpYes X33.here hx rfl (pc0 := 67) (pc' := 72) rfl (B d37_67) rfl (teq (rfl : (u2 &&& (255 : Int32)) = (u2 &&& (255 : Int32)))).1 (by decide) (by decide) k)
  have pre36 : Go p e bl T33 (mkF m 73 #[rv a1, iv p1, rv a2] [(.int 1)]) s1 EF := fun t k => pre35 t (by
   exact XS.iconst X33.here hx rfl (B d37_72) k)
  have hnr : Value.int (nar .boolean (1 : Int32)) = (.int 1) := by rfl
  exact fin1 X33 (v := some (.int 1)) hrt hlk (wl rfl) (wl rfl) (by rw [e33]; exact ⟨rfl, N33, rfl⟩) (fun fs hr => hEF ▸ pre36 _ (retN X33 hx (t := .boolean) Bd.returns (by simp) (B d37_73) (hnr ▸ hr)))
abbrev rKAt2 : Room := { frames := 4, cells := 0, slots := 0, locals := 54 }
theorem efAt2 (m : MethodId) (a1 : Addr) (p1 : Int32) (a2 : Addr) : entryFrame m #[(.ref a1), (.int p1), (.ref a2)] 3 = mkF m 0 #[rv a1, iv p1, rv a2] [] := by first | (simp [entryFrame, mkF, argsToLocals, Value.category]; done) | rfl
def QAt2 (Z : State) (a1 : Addr) (p1 : Int32) (a2 : Addr) (cz : Int32) (fv : Value) (bM : Addr) (kM : ClassId) (nM : Int32) (bsM : List Int32) (bS : Addr) (kS : ClassId) (u0 : Int32) (u1 : Int32) (h0 : Heap) (n0 : Nat) (v : Option Value) (h : Heap) (L : List Loc) : Prop := v = some (.int 1) ∧ Fr n0 L ∧ h = h0
set_option maxRecDepth 65536 in
set_option maxHeartbeats 40000000 in
theorem rmAt2 (l : Launch) (Z : State) (a0 : Array Value) (hw : HW a0 Z) (ws : List Jvm.Cond) (a1 : Addr) (p1 : Int32) (a2 : Addr) (cz : Int32) (fv : Value) (bM : Addr) (kM : ClassId) (nM : Int32) (bsM : List Int32) (bS : Addr) (kS : ClassId) (u0 : Int32) (u1 : Int32) (h0 : Heap) (n0 : Nat) (Z0 : n0 ≤ h0.size) (O0 : Old Z n0 h0) (J0 : Jd Z cz fv) (SLM : StL Z h0 a1 bM kM nM bsM 0 0) (SLS : StL Z h0 a2 bS kS 2 [u0, u1] 0 0) (i0 : (¬ p1 < 0 ∧ p1 < nM) ∧ (BV bsM).getD p1.toNatClampNeg (.int 0) = .int u0) (i1 : (¬ (p1 + (1 : Int32)) < 0 ∧ (p1 + (1 : Int32)) < nM) ∧ (BV bsM).getD (p1 + (1 : Int32)).toNatClampNeg (.int 0) = .int u1) :
    MF l Z mN37 method_3_code 3 (some .boolean) ws rKAt2 #[(.ref a1), (.int p1), (.ref a2)] h0 (QAt2 Z a1 p1 a2 cz fv bM kM nM bsM bS kS u0 u1 h0 n0) := by
  refine MetFree.of_bodySF (plainFor_of_name pn7) hisR ?_
  intro p e s m args bl meth c s1 Bd hml0 hP hK
  obtain ⟨rfl, hZ, hh⟩ := hP
  have hx := Bd.exec
  have hby := Bd.bytes
  have B := @hb c _ hby
  have hM := fun {n : Nat} (h : n = 3) => h.trans hml0.symm
  have hown : s.vm.findClass "com/example/picketline/picketline/io/InputExceptionWithinPinLaw" = some m.cls := findClass_of_methodNamed Bd.named
  have hlk : meth.locks = false := BodyLoose.notSynchronized Bd
  have hrt : ∀ {v : Option Value}, meth.sig.returnType = none → v = none := fun h => by rw [Bd.returns] at h; cases h
  have X0 : Stand p l e rKAt2 s m #[(.ref a1), (.int p1), (.ref a2)] bl meth c s1 [] 0 0 := Stand.of_body Bd
  have e0 : s1.heap = h0 := by rw [← hh, Bd.state]; rfl
  have N0 := Fr.nil n0
  obtain ⟨EF, hEF⟩ : ∃ f, f = entryFrame m #[(.ref a1), (.int p1), (.ref a2)] 3 := ⟨_, rfl⟩
  have pre0 : Go p e bl s1 (mkF m 0 #[rv a1, iv p1, rv a2] []) s1 EF := fun t k => by rw [hEF]; exact castTop (efAt2 m a1 p1 a2) k
  have pre1 : Go p e bl s1 (mkF m 1 #[rv a1, iv p1, rv a2] [(.ref a2)]) s1 EF := fun t k => pre0 t (by
   exact XS.aloadN X0.here hx rfl (B d37_0) rfl rfl k)
  obtain ⟨cq2, kq2, q2a, q2b, q2c⟩ := isOf hZ e0 SLS.1
  obtain ⟨_, _, ⟨T2, L2, k2, n2⟩, -, X2, ⟨Lc2, hQ2, l2, y2, z2⟩, st2⟩ := X0.virtualBack hx (y := mN1) (z := mN1) hown (mvT hZ (hw _ (mW 219 rfl))) (mvT hZ (hw _ (mW 72 rfl))) (notFace_of_selects (args := #[]) (mvT hZ (hw _ (mW 74 rfl)))) (mvT hZ (hw _ (mW 74 rfl))) (mvT hZ (hw _ (mW 73 rfl))) (by decide) (backOf (W := 0) (rmJle l Z a0 hw [] a2 cz fv (0 : Int32) bS kS (2 : Int32) (BV [u0, u1]) (2 : Int32) h0 n0 Z0 O0 J0 SLS.1 SLS.2.1 SLS.2.2.1 SLS.2.2.2.1 rfl (own_shr0 rfl)) hZ (hw _ (mW 75 rfl)) (hw _ (mW 6 rfl)) (by decide) (by decide)) q2a q2c (g := (mkF m 1 #[rv a1, iv p1, rv a2] [(.ref a2)])) rfl (hM rfl) (Steps.refl _) (argsL := []) (rest := []) (lenOf pd8 rfl) rfl (Nat.le_of_eq rfl) (B d37_1) (fun _ _ => ⟨rfl, e0, wl rfl, wl rfl⟩)
  dsimp only [Pt.U, Pt.locs, Pt.cells, Pt.slots] at X2 l2 y2 z2 st2 hQ2
  subst l2 y2 z2
  obtain ⟨rfl, N2q, hq2⟩ := hQ2
  have N2 := Fr.app N0 N2q
  have pre3 : Go p e bl T2 (mkF m 4 #[rv a1, iv p1, rv a2] [(.int 2)]) s1 EF := fun t k => pre1 t (st2.trans k)
  have e2 : T2.heap = h0 := hq2
  have pre4 : Go p e bl T2 (mkF m 7 #[rv a1, iv p1, rv a2] []) s1 EF := fun t k => pre3 t (XS.ifNo X2.here hx rfl (B d37_4) rfl ((if0 _ _).trans (tlt (by decide : (0 : Int32) < (2 : Int32))).2.2.2) k)
  have pre5 : Go p e bl T2 (mkF m 9 #[rv a1, iv p1, rv a2] [(.int p1), (.ref a1)]) s1 EF := fun t k => pre4 t (by
   refine XS.aloadN X2.here hx rfl (B d37_7) rfl rfl ?_
   exact XS.iloadN X2.here hx rfl (B d37_8) rfl k)
  obtain ⟨cq6, kq6, q6a, q6b, q6c⟩ := isOf hZ e2 SLM.1
  obtain ⟨_, _, ⟨T6, L6, k6, n6⟩, -, X6, ⟨Lc6, hQ6, l6, y6, z6⟩, st6⟩ := X2.virtualBack hx (y := mN6) (z := mN6) hown (mvT hZ (hw _ (mW 223 rfl))) (mvT hZ (hw _ (mW 224 rfl))) (notFace_of_selects (args := #[]) (mvT hZ (hw _ (mW 226 rfl)))) (mvT hZ (hw _ (mW 226 rfl))) (mvT hZ (hw _ (mW 225 rfl))) (by decide) (backOf (W := 0) (rmJcl l Z a0 hw [] a1 p1 cz fv bM kM nM (BV bsM) u0 (u0 &&& (255 : Int32)) h0 n0 Z0 O0 J0 SLM.1 SLM.2.1 SLM.2.2.1 SLM.2.2.2.1 i0.1.1 i0.1.2 i0.2 rfl (own_nm u0)) hZ (hw _ (mW 227 rfl)) (hw _ (mW 6 rfl)) (by decide) (by decide)) q6a q6c (g := (mkF m 9 #[rv a1, iv p1, rv a2] [(.int p1), (.ref a1)])) rfl (hM rfl) (Steps.refl _) (argsL := [(.int p1)]) (rest := []) (lenOf pd25 rfl) rfl (Nat.le_of_eq rfl) (B d37_9) (fun _ _ => ⟨rfl, e2, wl rfl, wl rfl⟩)
  dsimp only [Pt.U, Pt.locs, Pt.cells, Pt.slots] at X6 l6 y6 z6 st6 hQ6
  subst l6 y6 z6
  obtain ⟨rfl, N6q, hq6⟩ := hQ6
  have N6 := Fr.app N2 N6q
  have pre7 : Go p e bl T6 (mkF m 12 #[rv a1, iv p1, rv a2] [(.int (u0 &&& (255 : Int32)))]) s1 EF := fun t k => pre5 t (st6.trans k)
  have e6 : T6.heap = h0 := hq6
  have pre8 : Go p e bl T6 (mkF m 14 #[rv a1, iv p1, rv a2] [(.int 0), (.ref a2), (.int (u0 &&& (255 : Int32)))]) s1 EF := fun t k => pre7 t (by
   refine XS.aloadN X6.here hx rfl (B d37_12) rfl rfl ?_
   exact XS.iconst X6.here hx rfl (B d37_13) k)
  obtain ⟨cq9, kq9, q9a, q9b, q9c⟩ := isOf hZ e6 SLS.1
  obtain ⟨_, _, ⟨T9, L9, k9, n9⟩, -, X9, ⟨Lc9, hQ9, l9, y9, z9⟩, st9⟩ := X6.virtualBack hx (y := mN6) (z := mN6) hown (mvT hZ (hw _ (mW 223 rfl))) (mvT hZ (hw _ (mW 224 rfl))) (notFace_of_selects (args := #[]) (mvT hZ (hw _ (mW 226 rfl)))) (mvT hZ (hw _ (mW 226 rfl))) (mvT hZ (hw _ (mW 225 rfl))) (by decide) (backOf (W := 1) (rmJcl l Z a0 hw [] a2 (0 : Int32) cz fv bS kS 2 (BV [u0, u1]) u0 (u0 &&& (255 : Int32)) h0 n0 Z0 O0 J0 SLS.1 SLS.2.1 SLS.2.2.1 SLS.2.2.2.1 (by decide) (by decide) rfl rfl (own_nm u0)) hZ (hw _ (mW 227 rfl)) (hw _ (mW 6 rfl)) (by decide) (by decide)) q9a q9c (g := (mkF m 14 #[rv a1, iv p1, rv a2] [(.int 0), (.ref a2), (.int (u0 &&& (255 : Int32)))])) rfl (hM rfl) (Steps.refl _) (argsL := [(.int 0)]) (rest := [(.int (u0 &&& (255 : Int32)))]) (lenOf pd25 rfl) rfl (Nat.le_of_eq rfl) (B d37_14) (fun _ _ => ⟨rfl, e6, wl rfl, wl rfl⟩)
  dsimp only [Pt.U, Pt.locs, Pt.cells, Pt.slots] at X9 l9 y9 z9 st9 hQ9
  subst l9 y9 z9
  obtain ⟨rfl, N9q, hq9⟩ := hQ9
  have N9 := Fr.app N6 N9q
  have pre10 : Go p e bl T9 (mkF m 17 #[rv a1, iv p1, rv a2] [(.int (u0 &&& (255 : Int32))), (.int (u0 &&& (255 : Int32)))]) s1 EF := fun t k => pre8 t (st9.trans k)
  have e9 : T9.heap = h0 := hq9
  have pre11 : Go p e bl T9 (mkF m 22 #[rv a1, iv p1, rv a2] []) s1 EF := fun t k => pre10 t (XS.icmpYes X9.here hx rfl (pc0 := 17) (pc' := 22) rfl (B d37_17) rfl (teq (rfl : (u0 &&& (255 : Int32)) = (u0 &&& (255 : Int32)))).1 (by decide) (by decide) k)
  have pre12 : Go p e bl T9 (mkF m 23 #[rv a1, iv p1, rv a2] [(.ref a2)]) s1 EF := fun t k => pre11 t (by
   exact XS.aloadN X9.here hx rfl (B d37_22) rfl rfl k)
  obtain ⟨cq13, kq13, q13a, q13b, q13c⟩ := isOf hZ e9 SLS.1
  obtain ⟨_, _, ⟨T13, L13, k13, n13⟩, -, X13, ⟨Lc13, hQ13, l13, y13, z13⟩, st13⟩ := X9.virtualBack hx (y := mN1) (z := mN1) hown (mvT hZ (hw _ (mW 219 rfl))) (mvT hZ (hw _ (mW 72 rfl))) (notFace_of_selects (args := #[]) (mvT hZ (hw _ (mW 74 rfl)))) (mvT hZ (hw _ (mW 74 rfl))) (mvT hZ (hw _ (mW 73 rfl))) (by decide) (backOf (W := 0) (rmJle l Z a0 hw [] a2 cz fv (0 : Int32) bS kS (2 : Int32) (BV [u0, u1]) (2 : Int32) h0 n0 Z0 O0 J0 SLS.1 SLS.2.1 SLS.2.2.1 SLS.2.2.2.1 rfl (own_shr0 rfl)) hZ (hw _ (mW 75 rfl)) (hw _ (mW 6 rfl)) (by decide) (by decide)) q13a q13c (g := (mkF m 23 #[rv a1, iv p1, rv a2] [(.ref a2)])) rfl (hM rfl) (Steps.refl _) (argsL := []) (rest := []) (lenOf pd8 rfl) rfl (Nat.le_of_eq rfl) (B d37_23) (fun _ _ => ⟨rfl, e9, wl rfl, wl rfl⟩)
  dsimp only [Pt.U, Pt.locs, Pt.cells, Pt.slots] at X13 l13 y13 z13 st13 hQ13
  subst l13 y13 z13
  obtain ⟨rfl, N13q, hq13⟩ := hQ13
  have N13 := Fr.app N9 N13q
  have pre14 : Go p e bl T13 (mkF m 26 #[rv a1, iv p1, rv a2] [(.int 2)]) s1 EF := fun t k => pre12 t (st13.trans k)
  have e13 : T13.heap = h0 := hq13
  have pre15 : Go p e bl T13 (mkF m 27 #[rv a1, iv p1, rv a2] [(.int 1), (.int 2)]) s1 EF := fun t k => pre14 t (by
   exact XS.iconst X13.here hx rfl (B d37_26) k)
  have pre16 : Go p e bl T13 (mkF m 30 #[rv a1, iv p1, rv a2] []) s1 EF := fun t k => pre15 t (XS.icmpNo X13.here hx rfl (B d37_27) rfl (tlt (by decide : (1 : Int32) < (2 : Int32))).2.2.2 k)
  have pre17 : Go p e bl T13 (mkF m 34 #[rv a1, iv p1, rv a2] [(.int (p1 + (1 : Int32))), (.ref a1)]) s1 EF := fun t k => pre16 t (by
   refine XS.aloadN X13.here hx rfl (B d37_30) rfl rfl ?_
   refine XS.iloadN X13.here hx rfl (B d37_31) rfl ?_
   refine XS.iconst X13.here hx rfl (B d37_32) ?_
   exact XS.iadd X13.here hx rfl (B d37_33) rfl k)
  obtain ⟨cq18, kq18, q18a, q18b, q18c⟩ := isOf hZ e13 SLM.1
  obtain ⟨_, _, ⟨T18, L18, k18, n18⟩, -, X18, ⟨Lc18, hQ18, l18, y18, z18⟩, st18⟩ := X13.virtualBack hx (y := mN6) (z := mN6) hown (mvT hZ (hw _ (mW 223 rfl))) (mvT hZ (hw _ (mW 224 rfl))) (notFace_of_selects (args := #[]) (mvT hZ (hw _ (mW 226 rfl)))) (mvT hZ (hw _ (mW 226 rfl))) (mvT hZ (hw _ (mW 225 rfl))) (by decide) (backOf (W := 0) (rmJcl l Z a0 hw [] a1 (p1 + (1 : Int32)) cz fv bM kM nM (BV bsM) u1 (u1 &&& (255 : Int32)) h0 n0 Z0 O0 J0 SLM.1 SLM.2.1 SLM.2.2.1 SLM.2.2.2.1 i1.1.1 i1.1.2 i1.2 rfl (own_nm u1)) hZ (hw _ (mW 227 rfl)) (hw _ (mW 6 rfl)) (by decide) (by decide)) q18a q18c (g := (mkF m 34 #[rv a1, iv p1, rv a2] [(.int (p1 + (1 : Int32))), (.ref a1)])) rfl (hM rfl) (Steps.refl _) (argsL := [(.int (p1 + (1 : Int32)))]) (rest := []) (lenOf pd25 rfl) rfl (Nat.le_of_eq rfl) (B d37_34) (fun _ _ => ⟨rfl, e13, wl rfl, wl rfl⟩)
  dsimp only [Pt.U, Pt.locs, Pt.cells, Pt.slots] at X18 l18 y18 z18 st18 hQ18
  subst l18 y18 z18
  obtain ⟨rfl, N18q, hq18⟩ := hQ18
  have N18 := Fr.app N13 N18q
  have pre19 : Go p e bl T18 (mkF m 37 #[rv a1, iv p1, rv a2] [(.int (u1 &&& (255 : Int32)))]) s1 EF := fun t k => pre17 t (st18.trans k)
  have e18 : T18.heap = h0 := hq18
  have pre20 : Go p e bl T18 (mkF m 39 #[rv a1, iv p1, rv a2] [(.int 1), (.ref a2), (.int (u1 &&& (255 : Int32)))]) s1 EF := fun t k => pre19 t (by
   refine XS.aloadN X18.here hx rfl (B d37_37) rfl rfl ?_
   exact XS.iconst X18.here hx rfl (B d37_38) k)
  obtain ⟨cq21, kq21, q21a, q21b, q21c⟩ := isOf hZ e18 SLS.1
  obtain ⟨_, _, ⟨T21, L21, k21, n21⟩, -, X21, ⟨Lc21, hQ21, l21, y21, z21⟩, st21⟩ := X18.virtualBack hx (y := mN6) (z := mN6) hown (mvT hZ (hw _ (mW 223 rfl))) (mvT hZ (hw _ (mW 224 rfl))) (notFace_of_selects (args := #[]) (mvT hZ (hw _ (mW 226 rfl)))) (mvT hZ (hw _ (mW 226 rfl))) (mvT hZ (hw _ (mW 225 rfl))) (by decide) (backOf (W := 1) (rmJcl l Z a0 hw [] a2 (1 : Int32) cz fv bS kS 2 (BV [u0, u1]) u1 (u1 &&& (255 : Int32)) h0 n0 Z0 O0 J0 SLS.1 SLS.2.1 SLS.2.2.1 SLS.2.2.2.1 (by decide) (by decide) rfl rfl (own_nm u1)) hZ (hw _ (mW 227 rfl)) (hw _ (mW 6 rfl)) (by decide) (by decide)) q21a q21c (g := (mkF m 39 #[rv a1, iv p1, rv a2] [(.int 1), (.ref a2), (.int (u1 &&& (255 : Int32)))])) rfl (hM rfl) (Steps.refl _) (argsL := [(.int 1)]) (rest := [(.int (u1 &&& (255 : Int32)))]) (lenOf pd25 rfl) rfl (Nat.le_of_eq rfl) (B d37_39) (fun _ _ => ⟨rfl, e18, wl rfl, wl rfl⟩)
  dsimp only [Pt.U, Pt.locs, Pt.cells, Pt.slots] at X21 l21 y21 z21 st21 hQ21
  subst l21 y21 z21
  obtain ⟨rfl, N21q, hq21⟩ := hQ21
  have N21 := Fr.app N18 N21q
  have pre22 : Go p e bl T21 (mkF m 42 #[rv a1, iv p1, rv a2] [(.int (u1 &&& (255 : Int32))), (.int (u1 &&& (255 : Int32)))]) s1 EF := fun t k => pre20 t (st21.trans k)
  have e21 : T21.heap = h0 := hq21
  have pre23 : Go p e bl T21 (mkF m 47 #[rv a1, iv p1, rv a2] []) s1 EF := fun t k => pre22 t (XS.icmpYes X21.here hx rfl (pc0 := 42) (pc' := 47) rfl (B d37_42) rfl (teq (rfl : (u1 &&& (255 : Int32)) = (u1 &&& (255 : Int32)))).1 (by decide) (by decide) k)
  have pre24 : Go p e bl T21 (mkF m 48 #[rv a1, iv p1, rv a2] [(.ref a2)]) s1 EF := fun t k => pre23 t (by
   exact XS.aloadN X21.here hx rfl (B d37_47) rfl rfl k)
  obtain ⟨cq25, kq25, q25a, q25b, q25c⟩ := isOf hZ e21 SLS.1
  obtain ⟨_, _, ⟨T25, L25, k25, n25⟩, -, X25, ⟨Lc25, hQ25, l25, y25, z25⟩, st25⟩ := X21.virtualBack hx (y := mN1) (z := mN1) hown (mvT hZ (hw _ (mW 219 rfl))) (mvT hZ (hw _ (mW 72 rfl))) (notFace_of_selects (args := #[]) (mvT hZ (hw _ (mW 74 rfl)))) (mvT hZ (hw _ (mW 74 rfl))) (mvT hZ (hw _ (mW 73 rfl))) (by decide) (backOf (W := 0) (rmJle l Z a0 hw [] a2 cz fv (0 : Int32) bS kS (2 : Int32) (BV [u0, u1]) (2 : Int32) h0 n0 Z0 O0 J0 SLS.1 SLS.2.1 SLS.2.2.1 SLS.2.2.2.1 rfl (own_shr0 rfl)) hZ (hw _ (mW 75 rfl)) (hw _ (mW 6 rfl)) (by decide) (by decide)) q25a q25c (g := (mkF m 48 #[rv a1, iv p1, rv a2] [(.ref a2)])) rfl (hM rfl) (Steps.refl _) (argsL := []) (rest := []) (lenOf pd8 rfl) rfl (Nat.le_of_eq rfl) (B d37_48) (fun _ _ => ⟨rfl, e21, wl rfl, wl rfl⟩)
  dsimp only [Pt.U, Pt.locs, Pt.cells, Pt.slots] at X25 l25 y25 z25 st25 hQ25
  subst l25 y25 z25
  obtain ⟨rfl, N25q, hq25⟩ := hQ25
  have N25 := Fr.app N21 N25q
  have pre26 : Go p e bl T25 (mkF m 51 #[rv a1, iv p1, rv a2] [(.int 2)]) s1 EF := fun t k => pre24 t (st25.trans k)
  have e25 : T25.heap = h0 := hq25
  have pre27 : Go p e bl T25 (mkF m 52 #[rv a1, iv p1, rv a2] [(.int 2), (.int 2)]) s1 EF := fun t k => pre26 t (by
   exact XS.iconst X25.here hx rfl (B d37_51) k)
  have pre28 : Go p e bl T25 (mkF m 72 #[rv a1, iv p1, rv a2] []) s1 EF := fun t k => pre27 t (XS.icmpYes X25.here hx rfl (pc0 := 52) (pc' := 72) rfl (B d37_52) rfl (flt (by decide : ¬ ((2 : Int32) < (2 : Int32)))).2.2.2 (by decide) (by decide) k)
  have pre29 : Go p e bl T25 (mkF m 73 #[rv a1, iv p1, rv a2] [(.int 1)]) s1 EF := fun t k => pre28 t (by
   exact XS.iconst X25.here hx rfl (B d37_72) k)
  have hnr : Value.int (nar .boolean (1 : Int32)) = (.int 1) := by rfl
  exact fin1 X25 (v := some (.int 1)) hrt hlk (wl rfl) (wl rfl) (by rw [e25]; exact ⟨rfl, N25, rfl⟩) (fun fs hr => hEF ▸ pre29 _ (retN X25 hx (t := .boolean) Bd.returns (by simp) (B d37_73) (hnr ▸ hr)))
abbrev rKAt1 : Room := { frames := 4, cells := 0, slots := 0, locals := 54 }
theorem efAt1 (m : MethodId) (a1 : Addr) (p1 : Int32) (a2 : Addr) : entryFrame m #[(.ref a1), (.int p1), (.ref a2)] 3 = mkF m 0 #[rv a1, iv p1, rv a2] [] := by first | (simp [entryFrame, mkF, argsToLocals, Value.category]; done) | rfl
def QAt1 (Z : State) (a1 : Addr) (p1 : Int32) (a2 : Addr) (cz : Int32) (fv : Value) (bM : Addr) (kM : ClassId) (nM : Int32) (bsM : List Int32) (bS : Addr) (kS : ClassId) (u0 : Int32) (h0 : Heap) (n0 : Nat) (v : Option Value) (h : Heap) (L : List Loc) : Prop := v = some (.int 1) ∧ Fr n0 L ∧ h = h0
set_option maxRecDepth 65536 in
set_option maxHeartbeats 40000000 in
theorem rmAt1 (l : Launch) (Z : State) (a0 : Array Value) (hw : HW a0 Z) (ws : List Jvm.Cond) (a1 : Addr) (p1 : Int32) (a2 : Addr) (cz : Int32) (fv : Value) (bM : Addr) (kM : ClassId) (nM : Int32) (bsM : List Int32) (bS : Addr) (kS : ClassId) (u0 : Int32) (h0 : Heap) (n0 : Nat) (Z0 : n0 ≤ h0.size) (O0 : Old Z n0 h0) (J0 : Jd Z cz fv) (SLM : StL Z h0 a1 bM kM nM bsM 0 0) (SLS : StL Z h0 a2 bS kS 1 [u0] 0 0) (i0 : (¬ p1 < 0 ∧ p1 < nM) ∧ (BV bsM).getD p1.toNatClampNeg (.int 0) = .int u0) :
    MF l Z mN37 method_3_code 3 (some .boolean) ws rKAt1 #[(.ref a1), (.int p1), (.ref a2)] h0 (QAt1 Z a1 p1 a2 cz fv bM kM nM bsM bS kS u0 h0 n0) := by
  refine MetFree.of_bodySF (plainFor_of_name pn7) hisR ?_
  intro p e s m args bl meth c s1 Bd hml0 hP hK
  obtain ⟨rfl, hZ, hh⟩ := hP
  have hx := Bd.exec
  have hby := Bd.bytes
  have B := @hb c _ hby
  have hM := fun {n : Nat} (h : n = 3) => h.trans hml0.symm
  have hown : s.vm.findClass "com/example/picketline/picketline/io/InputExceptionWithinPinLaw" = some m.cls := findClass_of_methodNamed Bd.named
  have hlk : meth.locks = false := BodyLoose.notSynchronized Bd
  have hrt : ∀ {v : Option Value}, meth.sig.returnType = none → v = none := fun h => by rw [Bd.returns] at h; cases h
  have X0 : Stand p l e rKAt1 s m #[(.ref a1), (.int p1), (.ref a2)] bl meth c s1 [] 0 0 := Stand.of_body Bd
  have e0 : s1.heap = h0 := by rw [← hh, Bd.state]; rfl
  have N0 := Fr.nil n0
  obtain ⟨EF, hEF⟩ : ∃ f, f = entryFrame m #[(.ref a1), (.int p1), (.ref a2)] 3 := ⟨_, rfl⟩
  have pre0 : Go p e bl s1 (mkF m 0 #[rv a1, iv p1, rv a2] []) s1 EF := fun t k => by rw [hEF]; exact castTop (efAt1 m a1 p1 a2) k
  have pre1 : Go p e bl s1 (mkF m 1 #[rv a1, iv p1, rv a2] [(.ref a2)]) s1 EF := fun t k => pre0 t (by
   exact XS.aloadN X0.here hx rfl (B d37_0) rfl rfl k)
  obtain ⟨cq2, kq2, q2a, q2b, q2c⟩ := isOf hZ e0 SLS.1
  obtain ⟨_, _, ⟨T2, L2, k2, n2⟩, -, X2, ⟨Lc2, hQ2, l2, y2, z2⟩, st2⟩ := X0.virtualBack hx (y := mN1) (z := mN1) hown (mvT hZ (hw _ (mW 219 rfl))) (mvT hZ (hw _ (mW 72 rfl))) (notFace_of_selects (args := #[]) (mvT hZ (hw _ (mW 74 rfl)))) (mvT hZ (hw _ (mW 74 rfl))) (mvT hZ (hw _ (mW 73 rfl))) (by decide) (backOf (W := 0) (rmJle l Z a0 hw [] a2 cz fv (0 : Int32) bS kS (1 : Int32) (BV [u0]) (1 : Int32) h0 n0 Z0 O0 J0 SLS.1 SLS.2.1 SLS.2.2.1 SLS.2.2.2.1 rfl (own_shr0 rfl)) hZ (hw _ (mW 75 rfl)) (hw _ (mW 6 rfl)) (by decide) (by decide)) q2a q2c (g := (mkF m 1 #[rv a1, iv p1, rv a2] [(.ref a2)])) rfl (hM rfl) (Steps.refl _) (argsL := []) (rest := []) (lenOf pd8 rfl) rfl (Nat.le_of_eq rfl) (B d37_1) (fun _ _ => ⟨rfl, e0, wl rfl, wl rfl⟩)
  dsimp only [Pt.U, Pt.locs, Pt.cells, Pt.slots] at X2 l2 y2 z2 st2 hQ2
  subst l2 y2 z2
  obtain ⟨rfl, N2q, hq2⟩ := hQ2
  have N2 := Fr.app N0 N2q
  have pre3 : Go p e bl T2 (mkF m 4 #[rv a1, iv p1, rv a2] [(.int 1)]) s1 EF := fun t k => pre1 t (st2.trans k)
  have e2 : T2.heap = h0 := hq2
  have pre4 : Go p e bl T2 (mkF m 7 #[rv a1, iv p1, rv a2] []) s1 EF := fun t k => pre3 t (XS.ifNo X2.here hx rfl (B d37_4) rfl ((if0 _ _).trans (tlt (by decide : (0 : Int32) < (1 : Int32))).2.2.2) k)
  have pre5 : Go p e bl T2 (mkF m 9 #[rv a1, iv p1, rv a2] [(.int p1), (.ref a1)]) s1 EF := fun t k => pre4 t (by
   refine XS.aloadN X2.here hx rfl (B d37_7) rfl rfl ?_
   exact XS.iloadN X2.here hx rfl (B d37_8) rfl k)
  obtain ⟨cq6, kq6, q6a, q6b, q6c⟩ := isOf hZ e2 SLM.1
  obtain ⟨_, _, ⟨T6, L6, k6, n6⟩, -, X6, ⟨Lc6, hQ6, l6, y6, z6⟩, st6⟩ := X2.virtualBack hx (y := mN6) (z := mN6) hown (mvT hZ (hw _ (mW 223 rfl))) (mvT hZ (hw _ (mW 224 rfl))) (notFace_of_selects (args := #[]) (mvT hZ (hw _ (mW 226 rfl)))) (mvT hZ (hw _ (mW 226 rfl))) (mvT hZ (hw _ (mW 225 rfl))) (by decide) (backOf (W := 0) (rmJcl l Z a0 hw [] a1 p1 cz fv bM kM nM (BV bsM) u0 (u0 &&& (255 : Int32)) h0 n0 Z0 O0 J0 SLM.1 SLM.2.1 SLM.2.2.1 SLM.2.2.2.1 i0.1.1 i0.1.2 i0.2 rfl (own_nm u0)) hZ (hw _ (mW 227 rfl)) (hw _ (mW 6 rfl)) (by decide) (by decide)) q6a q6c (g := (mkF m 9 #[rv a1, iv p1, rv a2] [(.int p1), (.ref a1)])) rfl (hM rfl) (Steps.refl _) (argsL := [(.int p1)]) (rest := []) (lenOf pd25 rfl) rfl (Nat.le_of_eq rfl) (B d37_9) (fun _ _ => ⟨rfl, e2, wl rfl, wl rfl⟩)
  dsimp only [Pt.U, Pt.locs, Pt.cells, Pt.slots] at X6 l6 y6 z6 st6 hQ6
  subst l6 y6 z6
  obtain ⟨rfl, N6q, hq6⟩ := hQ6
  have N6 := Fr.app N2 N6q
  have pre7 : Go p e bl T6 (mkF m 12 #[rv a1, iv p1, rv a2] [(.int (u0 &&& (255 : Int32)))]) s1 EF := fun t k => pre5 t (st6.trans k)
  have e6 : T6.heap = h0 := hq6
  have pre8 : Go p e bl T6 (mkF m 14 #[rv a1, iv p1, rv a2] [(.int 0), (.ref a2), (.int (u0 &&& (255 : Int32)))]) s1 EF := fun t k => pre7 t (by
   refine XS.aloadN X6.here hx rfl (B d37_12) rfl rfl ?_
   exact XS.iconst X6.here hx rfl (B d37_13) k)
  obtain ⟨cq9, kq9, q9a, q9b, q9c⟩ := isOf hZ e6 SLS.1
  obtain ⟨_, _, ⟨T9, L9, k9, n9⟩, -, X9, ⟨Lc9, hQ9, l9, y9, z9⟩, st9⟩ := X6.virtualBack hx (y := mN6) (z := mN6) hown (mvT hZ (hw _ (mW 223 rfl))) (mvT hZ (hw _ (mW 224 rfl))) (notFace_of_selects (args := #[]) (mvT hZ (hw _ (mW 226 rfl)))) (mvT hZ (hw _ (mW 226 rfl))) (mvT hZ (hw _ (mW 225 rfl))) (by decide) (backOf (W := 1) (rmJcl l Z a0 hw [] a2 (0 : Int32) cz fv bS kS 1 (BV [u0]) u0 (u0 &&& (255 : Int32)) h0 n0 Z0 O0 J0 SLS.1 SLS.2.1 SLS.2.2.1 SLS.2.2.2.1 (by decide) (by decide) rfl rfl (own_nm u0)) hZ (hw _ (mW 227 rfl)) (hw _ (mW 6 rfl)) (by decide) (by decide)) q9a q9c (g := (mkF m 14 #[rv a1, iv p1, rv a2] [(.int 0), (.ref a2), (.int (u0 &&& (255 : Int32)))])) rfl (hM rfl) (Steps.refl _) (argsL := [(.int 0)]) (rest := [(.int (u0 &&& (255 : Int32)))]) (lenOf pd25 rfl) rfl (Nat.le_of_eq rfl) (B d37_14) (fun _ _ => ⟨rfl, e6, wl rfl, wl rfl⟩)
  dsimp only [Pt.U, Pt.locs, Pt.cells, Pt.slots] at X9 l9 y9 z9 st9 hQ9
  subst l9 y9 z9
  obtain ⟨rfl, N9q, hq9⟩ := hQ9
  have N9 := Fr.app N6 N9q
  have pre10 : Go p e bl T9 (mkF m 17 #[rv a1, iv p1, rv a2] [(.int (u0 &&& (255 : Int32))), (.int (u0 &&& (255 : Int32)))]) s1 EF := fun t k => pre8 t (st9.trans k)
  have e9 : T9.heap = h0 := hq9
  have pre11 : Go p e bl T9 (mkF m 22 #[rv a1, iv p1, rv a2] []) s1 EF := fun t k => pre10 t (XS.icmpYes X9.here hx rfl (pc0 := 17) (pc' := 22) rfl (B d37_17) rfl (teq (rfl : (u0 &&& (255 : Int32)) = (u0 &&& (255 : Int32)))).1 (by decide) (by decide) k)
  have pre12 : Go p e bl T9 (mkF m 23 #[rv a1, iv p1, rv a2] [(.ref a2)]) s1 EF := fun t k => pre11 t (by
   exact XS.aloadN X9.here hx rfl (B d37_22) rfl rfl k)
  obtain ⟨cq13, kq13, q13a, q13b, q13c⟩ := isOf hZ e9 SLS.1
  obtain ⟨_, _, ⟨T13, L13, k13, n13⟩, -, X13, ⟨Lc13, hQ13, l13, y13, z13⟩, st13⟩ := X9.virtualBack hx (y := mN1) (z := mN1) hown (mvT hZ (hw _ (mW 219 rfl))) (mvT hZ (hw _ (mW 72 rfl))) (notFace_of_selects (args := #[]) (mvT hZ (hw _ (mW 74 rfl)))) (mvT hZ (hw _ (mW 74 rfl))) (mvT hZ (hw _ (mW 73 rfl))) (by decide) (backOf (W := 0) (rmJle l Z a0 hw [] a2 cz fv (0 : Int32) bS kS (1 : Int32) (BV [u0]) (1 : Int32) h0 n0 Z0 O0 J0 SLS.1 SLS.2.1 SLS.2.2.1 SLS.2.2.2.1 rfl (own_shr0 rfl)) hZ (hw _ (mW 75 rfl)) (hw _ (mW 6 rfl)) (by decide) (by decide)) q13a q13c (g := (mkF m 23 #[rv a1, iv p1, rv a2] [(.ref a2)])) rfl (hM rfl) (Steps.refl _) (argsL := []) (rest := []) (lenOf pd8 rfl) rfl (Nat.le_of_eq rfl) (B d37_23) (fun _ _ => ⟨rfl, e9, wl rfl, wl rfl⟩)
  dsimp only [Pt.U, Pt.locs, Pt.cells, Pt.slots] at X13 l13 y13 z13 st13 hQ13
  subst l13 y13 z13
  obtain ⟨rfl, N13q, hq13⟩ := hQ13
  have N13 := Fr.app N9 N13q
  have pre14 : Go p e bl T13 (mkF m 26 #[rv a1, iv p1, rv a2] [(.int 1)]) s1 EF := fun t k => pre12 t (st13.trans k)
  have e13 : T13.heap = h0 := hq13
  have pre15 : Go p e bl T13 (mkF m 27 #[rv a1, iv p1, rv a2] [(.int 1), (.int 1)]) s1 EF := fun t k => pre14 t (by
   exact XS.iconst X13.here hx rfl (B d37_26) k)
  have pre16 : Go p e bl T13 (mkF m 47 #[rv a1, iv p1, rv a2] []) s1 EF := fun t k => pre15 t (XS.icmpYes X13.here hx rfl (pc0 := 27) (pc' := 47) rfl (B d37_27) rfl (flt (by decide : ¬ ((1 : Int32) < (1 : Int32)))).2.2.2 (by decide) (by decide) k)
  have pre17 : Go p e bl T13 (mkF m 48 #[rv a1, iv p1, rv a2] [(.ref a2)]) s1 EF := fun t k => pre16 t (by
   exact XS.aloadN X13.here hx rfl (B d37_47) rfl rfl k)
  obtain ⟨cq18, kq18, q18a, q18b, q18c⟩ := isOf hZ e13 SLS.1
  obtain ⟨_, _, ⟨T18, L18, k18, n18⟩, -, X18, ⟨Lc18, hQ18, l18, y18, z18⟩, st18⟩ := X13.virtualBack hx (y := mN1) (z := mN1) hown (mvT hZ (hw _ (mW 219 rfl))) (mvT hZ (hw _ (mW 72 rfl))) (notFace_of_selects (args := #[]) (mvT hZ (hw _ (mW 74 rfl)))) (mvT hZ (hw _ (mW 74 rfl))) (mvT hZ (hw _ (mW 73 rfl))) (by decide) (backOf (W := 0) (rmJle l Z a0 hw [] a2 cz fv (0 : Int32) bS kS (1 : Int32) (BV [u0]) (1 : Int32) h0 n0 Z0 O0 J0 SLS.1 SLS.2.1 SLS.2.2.1 SLS.2.2.2.1 rfl (own_shr0 rfl)) hZ (hw _ (mW 75 rfl)) (hw _ (mW 6 rfl)) (by decide) (by decide)) q18a q18c (g := (mkF m 48 #[rv a1, iv p1, rv a2] [(.ref a2)])) rfl (hM rfl) (Steps.refl _) (argsL := []) (rest := []) (lenOf pd8 rfl) rfl (Nat.le_of_eq rfl) (B d37_48) (fun _ _ => ⟨rfl, e13, wl rfl, wl rfl⟩)
  dsimp only [Pt.U, Pt.locs, Pt.cells, Pt.slots] at X18 l18 y18 z18 st18 hQ18
  subst l18 y18 z18
  obtain ⟨rfl, N18q, hq18⟩ := hQ18
  have N18 := Fr.app N13 N18q
  have pre19 : Go p e bl T18 (mkF m 51 #[rv a1, iv p1, rv a2] [(.int 1)]) s1 EF := fun t k => pre17 t (st18.trans k)
  have e18 : T18.heap = h0 := hq18
  have pre20 : Go p e bl T18 (mkF m 52 #[rv a1, iv p1, rv a2] [(.int 2), (.int 1)]) s1 EF := fun t k => pre19 t (by
   exact XS.iconst X18.here hx rfl (B d37_51) k)
  have pre21 : Go p e bl T18 (mkF m 72 #[rv a1, iv p1, rv a2] []) s1 EF := fun t k => pre20 t (XS.icmpYes X18.here hx rfl (pc0 := 52) (pc' := 72) rfl (B d37_52) rfl (flt (by decide : ¬ ((2 : Int32) < (1 : Int32)))).2.2.2 (by decide) (by decide) k)
  have pre22 : Go p e bl T18 (mkF m 73 #[rv a1, iv p1, rv a2] [(.int 1)]) s1 EF := fun t k => pre21 t (by
   exact XS.iconst X18.here hx rfl (B d37_72) k)
  have hnr : Value.int (nar .boolean (1 : Int32)) = (.int 1) := by rfl
  exact fin1 X18 (v := some (.int 1)) hrt hlk (wl rfl) (wl rfl) (by rw [e18]; exact ⟨rfl, N18, rfl⟩) (fun fs hr => hEF ▸ pre22 _ (retN X18 hx (t := .boolean) Bd.returns (by simp) (B d37_73) (hnr ▸ hr)))
abbrev rKAt0 : Room := { frames := 4, cells := 0, slots := 0, locals := 54 }
theorem efAt0 (m : MethodId) (a1 : Addr) (p1 : Int32) (a2 : Addr) : entryFrame m #[(.ref a1), (.int p1), (.ref a2)] 3 = mkF m 0 #[rv a1, iv p1, rv a2] [] := by first | (simp [entryFrame, mkF, argsToLocals, Value.category]; done) | rfl
def QAt0 (Z : State) (a1 : Addr) (p1 : Int32) (a2 : Addr) (cz : Int32) (fv : Value) (bM : Addr) (kM : ClassId) (nM : Int32) (bsM : List Int32) (bS : Addr) (kS : ClassId) (h0 : Heap) (n0 : Nat) (v : Option Value) (h : Heap) (L : List Loc) : Prop := v = some (.int 1) ∧ Fr n0 L ∧ h = h0
set_option maxRecDepth 65536 in
set_option maxHeartbeats 40000000 in
theorem rmAt0 (l : Launch) (Z : State) (a0 : Array Value) (hw : HW a0 Z) (ws : List Jvm.Cond) (a1 : Addr) (p1 : Int32) (a2 : Addr) (cz : Int32) (fv : Value) (bM : Addr) (kM : ClassId) (nM : Int32) (bsM : List Int32) (bS : Addr) (kS : ClassId) (h0 : Heap) (n0 : Nat) (Z0 : n0 ≤ h0.size) (O0 : Old Z n0 h0) (J0 : Jd Z cz fv) (SLM : StL Z h0 a1 bM kM nM bsM 0 0) (SLS : StL Z h0 a2 bS kS 0 [] 0 0) :
    MF l Z mN37 method_3_code 3 (some .boolean) ws rKAt0 #[(.ref a1), (.int p1), (.ref a2)] h0 (QAt0 Z a1 p1 a2 cz fv bM kM nM bsM bS kS h0 n0) := by
  refine MetFree.of_bodySF (plainFor_of_name pn7) hisR ?_
  intro p e s m args bl meth c s1 Bd hml0 hP hK
  obtain ⟨rfl, hZ, hh⟩ := hP
  have hx := Bd.exec
  have hby := Bd.bytes
  have B := @hb c _ hby
  have hM := fun {n : Nat} (h : n = 3) => h.trans hml0.symm
  have hown : s.vm.findClass "com/example/picketline/picketline/io/InputExceptionWithinPinLaw" = some m.cls := findClass_of_methodNamed Bd.named
  have hlk : meth.locks = false := BodyLoose.notSynchronized Bd
  have hrt : ∀ {v : Option Value}, meth.sig.returnType = none → v = none := fun h => by rw [Bd.returns] at h; cases h
  have X0 : Stand p l e rKAt0 s m #[(.ref a1), (.int p1), (.ref a2)] bl meth c s1 [] 0 0 := Stand.of_body Bd
  have e0 : s1.heap = h0 := by rw [← hh, Bd.state]; rfl
  have N0 := Fr.nil n0
  obtain ⟨EF, hEF⟩ : ∃ f, f = entryFrame m #[(.ref a1), (.int p1), (.ref a2)] 3 := ⟨_, rfl⟩
  have pre0 : Go p e bl s1 (mkF m 0 #[rv a1, iv p1, rv a2] []) s1 EF := fun t k => by rw [hEF]; exact castTop (efAt0 m a1 p1 a2) k
  have pre1 : Go p e bl s1 (mkF m 1 #[rv a1, iv p1, rv a2] [(.ref a2)]) s1 EF := fun t k => pre0 t (by
   exact XS.aloadN X0.here hx rfl (B d37_0) rfl rfl k)
  obtain ⟨cq2, kq2, q2a, q2b, q2c⟩ := isOf hZ e0 SLS.1
  obtain ⟨_, _, ⟨T2, L2, k2, n2⟩, -, X2, ⟨Lc2, hQ2, l2, y2, z2⟩, st2⟩ := X0.virtualBack hx (y := mN1) (z := mN1) hown (mvT hZ (hw _ (mW 219 rfl))) (mvT hZ (hw _ (mW 72 rfl))) (notFace_of_selects (args := #[]) (mvT hZ (hw _ (mW 74 rfl)))) (mvT hZ (hw _ (mW 74 rfl))) (mvT hZ (hw _ (mW 73 rfl))) (by decide) (backOf (W := 0) (rmJle l Z a0 hw [] a2 cz fv (0 : Int32) bS kS (0 : Int32) (BV []) (0 : Int32) h0 n0 Z0 O0 J0 SLS.1 SLS.2.1 SLS.2.2.1 SLS.2.2.2.1 rfl (own_shr0 rfl)) hZ (hw _ (mW 75 rfl)) (hw _ (mW 6 rfl)) (by decide) (by decide)) q2a q2c (g := (mkF m 1 #[rv a1, iv p1, rv a2] [(.ref a2)])) rfl (hM rfl) (Steps.refl _) (argsL := []) (rest := []) (lenOf pd8 rfl) rfl (Nat.le_of_eq rfl) (B d37_1) (fun _ _ => ⟨rfl, e0, wl rfl, wl rfl⟩)
  dsimp only [Pt.U, Pt.locs, Pt.cells, Pt.slots] at X2 l2 y2 z2 st2 hQ2
  subst l2 y2 z2
  obtain ⟨rfl, N2q, hq2⟩ := hQ2
  have N2 := Fr.app N0 N2q
  have pre3 : Go p e bl T2 (mkF m 4 #[rv a1, iv p1, rv a2] [(.int 0)]) s1 EF := fun t k => pre1 t (st2.trans k)
  have e2 : T2.heap = h0 := hq2
  have pre4 : Go p e bl T2 (mkF m 22 #[rv a1, iv p1, rv a2] []) s1 EF := fun t k => pre3 t (XS.ifYes X2.here hx rfl (pc0 := 4) (pc' := 22) rfl (B d37_4) rfl ((if0 _ _).trans (flt (by decide : ¬ ((0 : Int32) < (0 : Int32)))).2.2.2) (by decide) (by decide) k)
  have pre5 : Go p e bl T2 (mkF m 23 #[rv a1, iv p1, rv a2] [(.ref a2)]) s1 EF := fun t k => pre4 t (by
   exact XS.aloadN X2.here hx rfl (B d37_22) rfl rfl k)
  obtain ⟨cq6, kq6, q6a, q6b, q6c⟩ := isOf hZ e2 SLS.1
  obtain ⟨_, _, ⟨T6, L6, k6, n6⟩, -, X6, ⟨Lc6, hQ6, l6, y6, z6⟩, st6⟩ := X2.virtualBack hx (y := mN1) (z := mN1) hown (mvT hZ (hw _ (mW 219 rfl))) (mvT hZ (hw _ (mW 72 rfl))) (notFace_of_selects (args := #[]) (mvT hZ (hw _ (mW 74 rfl)))) (mvT hZ (hw _ (mW 74 rfl))) (mvT hZ (hw _ (mW 73 rfl))) (by decide) (backOf (W := 0) (rmJle l Z a0 hw [] a2 cz fv (0 : Int32) bS kS (0 : Int32) (BV []) (0 : Int32) h0 n0 Z0 O0 J0 SLS.1 SLS.2.1 SLS.2.2.1 SLS.2.2.2.1 rfl (own_shr0 rfl)) hZ (hw _ (mW 75 rfl)) (hw _ (mW 6 rfl)) (by decide) (by decide)) q6a q6c (g := (mkF m 23 #[rv a1, iv p1, rv a2] [(.ref a2)])) rfl (hM rfl) (Steps.refl _) (argsL := []) (rest := []) (lenOf pd8 rfl) rfl (Nat.le_of_eq rfl) (B d37_23) (fun _ _ => ⟨rfl, e2, wl rfl, wl rfl⟩)
  dsimp only [Pt.U, Pt.locs, Pt.cells, Pt.slots] at X6 l6 y6 z6 st6 hQ6
  subst l6 y6 z6
  obtain ⟨rfl, N6q, hq6⟩ := hQ6
  have N6 := Fr.app N2 N6q
  have pre7 : Go p e bl T6 (mkF m 26 #[rv a1, iv p1, rv a2] [(.int 0)]) s1 EF := fun t k => pre5 t (st6.trans k)
  have e6 : T6.heap = h0 := hq6
  have pre8 : Go p e bl T6 (mkF m 27 #[rv a1, iv p1, rv a2] [(.int 1), (.int 0)]) s1 EF := fun t k => pre7 t (by
   exact XS.iconst X6.here hx rfl (B d37_26) k)
  have pre9 : Go p e bl T6 (mkF m 47 #[rv a1, iv p1, rv a2] []) s1 EF := fun t k => pre8 t (XS.icmpYes X6.here hx rfl (pc0 := 27) (pc' := 47) rfl (B d37_27) rfl (flt (by decide : ¬ ((1 : Int32) < (0 : Int32)))).2.2.2 (by decide) (by decide) k)
  have pre10 : Go p e bl T6 (mkF m 48 #[rv a1, iv p1, rv a2] [(.ref a2)]) s1 EF := fun t k => pre9 t (by
   exact XS.aloadN X6.here hx rfl (B d37_47) rfl rfl k)
  obtain ⟨cq11, kq11, q11a, q11b, q11c⟩ := isOf hZ e6 SLS.1
  obtain ⟨_, _, ⟨T11, L11, k11, n11⟩, -, X11, ⟨Lc11, hQ11, l11, y11, z11⟩, st11⟩ := X6.virtualBack hx (y := mN1) (z := mN1) hown (mvT hZ (hw _ (mW 219 rfl))) (mvT hZ (hw _ (mW 72 rfl))) (notFace_of_selects (args := #[]) (mvT hZ (hw _ (mW 74 rfl)))) (mvT hZ (hw _ (mW 74 rfl))) (mvT hZ (hw _ (mW 73 rfl))) (by decide) (backOf (W := 0) (rmJle l Z a0 hw [] a2 cz fv (0 : Int32) bS kS (0 : Int32) (BV []) (0 : Int32) h0 n0 Z0 O0 J0 SLS.1 SLS.2.1 SLS.2.2.1 SLS.2.2.2.1 rfl (own_shr0 rfl)) hZ (hw _ (mW 75 rfl)) (hw _ (mW 6 rfl)) (by decide) (by decide)) q11a q11c (g := (mkF m 48 #[rv a1, iv p1, rv a2] [(.ref a2)])) rfl (hM rfl) (Steps.refl _) (argsL := []) (rest := []) (lenOf pd8 rfl) rfl (Nat.le_of_eq rfl) (B d37_48) (fun _ _ => ⟨rfl, e6, wl rfl, wl rfl⟩)
  dsimp only [Pt.U, Pt.locs, Pt.cells, Pt.slots] at X11 l11 y11 z11 st11 hQ11
  subst l11 y11 z11
  obtain ⟨rfl, N11q, hq11⟩ := hQ11
  have N11 := Fr.app N6 N11q
  have pre12 : Go p e bl T11 (mkF m 51 #[rv a1, iv p1, rv a2] [(.int 0)]) s1 EF := fun t k => pre10 t (st11.trans k)
  have e11 : T11.heap = h0 := hq11
  have pre13 : Go p e bl T11 (mkF m 52 #[rv a1, iv p1, rv a2] [(.int 2), (.int 0)]) s1 EF := fun t k => pre12 t (by
   exact XS.iconst X11.here hx rfl (B d37_51) k)
  have pre14 : Go p e bl T11 (mkF m 72 #[rv a1, iv p1, rv a2] []) s1 EF := fun t k => pre13 t (XS.icmpYes X11.here hx rfl (pc0 := 52) (pc' := 72) rfl (B d37_52) rfl (flt (by decide : ¬ ((2 : Int32) < (0 : Int32)))).2.2.2 (by decide) (by decide) k)
  have pre15 : Go p e bl T11 (mkF m 73 #[rv a1, iv p1, rv a2] [(.int 1)]) s1 EF := fun t k => pre14 t (by
   exact XS.iconst X11.here hx rfl (B d37_72) k)
  have hnr : Value.int (nar .boolean (1 : Int32)) = (.int 1) := by rfl
  exact fin1 X11 (v := some (.int 1)) hrt hlk (wl rfl) (wl rfl) (by rw [e11]; exact ⟨rfl, N11, rfl⟩) (fun fs hr => hEF ▸ pre15 _ (retN X11 hx (t := .boolean) Bd.returns (by simp) (B d37_73) (hnr ▸ hr)))
theorem rmAt (l : Launch) (Z : State) (a0 : Array Value) (hw : HW a0 Z) (ws : List Jvm.Cond) (a1 : Addr) (p1 : Int32) (a2 : Addr) (cz : Int32) (fv : Value) (bM : Addr) (kM : ClassId) (nM : Int32) (bsM : List Int32) (bS : Addr) (kS : ClassId) (nS : Int32) (bsS : List Int32) (xs ys : List Int32) (h0 : Heap) (n0 : Nat) (Z0 : n0 ≤ h0.size) (O0 : Old Z n0 h0) (J0 : Jd Z cz fv) (SLM : StL Z h0 a1 bM kM nM bsM 0 0) (SLS : StL Z h0 a2 bS kS nS bsS 0 0) (gM : nM.toInt = bsM.length) (gS : nS.toInt = bsS.length) (h3 : bsS.length ≤ 3) (hp : p1.toInt = xs.length) (hc : bsM = xs ++ bsS ++ ys) (hm : xs.length ≤ 100) :
    MF l Z mN37 method_3_code 3 (some .boolean) ws rKAt3 #[(.ref a1), (.int p1), (.ref a2)] h0 (QP 1 h0 n0) := by
  have j1 : (p1 + 1).toInt = (xs.length + 1 : Nat) := own_add hp (by rfl) (by omega)
  have j2 : (p1 + 2).toInt = (xs.length + 2 : Nat) := own_add hp (by rfl) (by omega)
  rcases own_c3 h3 with rfl | ⟨u0, rfl⟩ | ⟨u0, u1, rfl⟩ | ⟨u0, u1, u2, rfl⟩
  · obtain rfl : nS = 0 := by rw [← Int32.toInt_inj, gS]; rfl
    exact rmAt0 l Z a0 hw ws a1 p1 a2 cz fv bM kM nM bsM bS kS  h0 n0 Z0 O0 J0 SLM SLS 
  · obtain rfl : nS = 1 := by rw [← Int32.toInt_inj, gS]; rfl
    exact rmAt1 l Z a0 hw ws a1 p1 a2 cz fv bM kM nM bsM bS kS u0 h0 n0 Z0 O0 J0 SLM SLS (own_ix gM hc (j := 0) hp rfl)
  · obtain rfl : nS = 2 := by rw [← Int32.toInt_inj, gS]; rfl
    exact rmAt2 l Z a0 hw ws a1 p1 a2 cz fv bM kM nM bsM bS kS u0 u1 h0 n0 Z0 O0 J0 SLM SLS (own_ix gM hc (j := 0) hp rfl) (own_ix gM hc (j := 1) j1 rfl)
  · obtain rfl : nS = 3 := by rw [← Int32.toInt_inj, gS]; rfl
    exact rmAt3 l Z a0 hw ws a1 p1 a2 cz fv bM kM nM bsM bS kS u0 u1 u2 h0 n0 Z0 O0 J0 SLM SLS (own_ix gM hc (j := 0) hp rfl) (own_ix gM hc (j := 1) j1 rfl) (own_ix gM hc (j := 2) j2 rfl)

theorem own_and3 (x : Int32) : x &&& 3 = 0 ∨ x &&& 3 = 1 ∨ x &&& 3 = 2 ∨ x &&& 3 = 3 := by
  have h := c_mask x 3 2 (by decide) (by decide)
  have e : ((2 ^ 2 : Nat) : Int) = 4 := by decide
  have e0 : (0 : Int32).toInt = 0 := by decide
  have e1 : (1 : Int32).toInt = 1 := by decide
  have e2 : (2 : Int32).toInt = 2 := by decide
  have e3 : (3 : Int32).toInt = 3 := by decide
  simp only [← Int32.toInt_inj, e0, e1, e2, e3]
  omega
theorem pd26 : parseMethodDescriptor "(II)Ljava/lang/String;" = some ⟨[.int, .int], some (.object "java/lang/String")⟩ := by decide +kernel
theorem pd27 : parseMethodDescriptor "(Ljava/lang/String;)Lcom/example/picketline/picketline/io/InputException;" = some ⟨[(.object "java/lang/String")], some (.object "com/example/picketline/picketline/io/InputException")⟩ := by decide +kernel
theorem pd28 : parseMethodDescriptor "(Ljava/lang/String;ILjava/lang/String;)Z" = some ⟨[(.object "java/lang/String"), .int, (.object "java/lang/String")], some .boolean⟩ := by decide +kernel
theorem efL (m : MethodId) (p1 : Int32) (p2 : Int32) (p3 : Int32) (p4 : Int32) : entryFrame m #[(.int p1), (.int p2), (.int p3), (.int p4)] maxLocals = mkF m 0 #[iv p1, iv p2, iv p3, iv p4, .unset, .unset, .unset, .unset, .unset, .unset, .unset, .unset, .unset, .unset] [] := by first | (simp [entryFrame, mkF, argsToLocals, Value.category, maxLocals]; done) | rfl
def QL (Z : State) (p1 : Int32) (p2 : Int32) (p3 : Int32) (p4 : Int32) (cz : Int32) (fv : Value) (u0 : RefV) (u1 : RefV) (h0 : Heap) (n0 : Nat) (v : Option Value) (h : Heap) (L : List Loc) : Prop := v = some (.int 1) ∧ Fr n0 L
set_option maxRecDepth 65536 in
set_option maxHeartbeats 40000000 in
theorem rmL (l : Launch) (Z : State) (a0 : Array Value) (hw : HW a0 Z) (ws : List Jvm.Cond) (p1 : Int32) (p2 : Int32) (p3 : Int32) (p4 : Int32) (cz : Int32) (fv : Value) (u0 : RefV) (u1 : RefV) (h0 : Heap) (n0 : Nat) (Z0 : n0 ≤ h0.size) (O0 : Old Z n0 h0) (J0 : Jd Z cz fv) (TH0 : ThS Z h0) (SU : Sta Z Z.heap "java/lang/Throwable" "UNASSIGNED_STACK" "[Ljava/lang/StackTraceElement;" u0.v) (SS : Sta Z Z.heap "java/lang/Throwable" "SUPPRESSED_SENTINEL" "Ljava/util/List;" u1.v) (hl : l.stackTraces = true) :
    MetFree l x (head1 (Jvm.Cond.code x code maxLocals ret :: ws) room_1) (fun a U => a = #[(.int p1), (.int p2), (.int p3), (.int p4)] ∧ Z.Warmed39 U.vm ∧ U.heap = h0 ∧ CHv Z [("com/example/picketline/picketline/io/InputException", 29), ("java/lang/String", 7)] U.vm h0) (fun _ _ bl s _ => s.vm.MethodsKnown ∧ s.vm.FramesKnown bl) (fun _ U o U' => ∃ v L, o = .returned v ∧ QL Z p1 p2 p3 p4 cz fv u0 u1 h0 n0 v U'.heap L ∧ CHr Z [("com/example/picketline/picketline/io/InputException", 29), ("java/lang/String", 7)] U.vm U.heap U'.vm U'.heap ∧ ReturnedEndW U o U' L room_1.cells room_1.slots) := by
  refine MetFree.of_bodySF (plainFor_of_name pn7) hisR ?_
  intro p e s m args bl meth c s1 Bd hml0 hP hK
  obtain ⟨rfl, hZ, hh, hC⟩ := hP
  have hx := Bd.exec
  have hby := Bd.bytes
  have B := @hb c _ hby
  have hM := fun {n : Nat} (h : n = maxLocals) => h.trans hml0.symm
  have hown : s.vm.findClass "com/example/picketline/picketline/io/InputExceptionWithinPinLaw" = some m.cls := findClass_of_methodNamed Bd.named
  have X0 : Stand p l e room_1 (s.setVm s.vm) m #[(.int p1), (.int p2), (.int p3), (.int p4)] bl meth c s1 [] 0 0 := Stand.of_body Bd
  have e0 : s1.heap = h0 := by rw [← hh, Bd.state]; rfl
  have N0 := Fr.nil n0
  obtain ⟨EF, hEF⟩ : ∃ f, f = entryFrame m #[(.int p1), (.int p2), (.int p3), (.int p4)] maxLocals := ⟨_, rfl⟩
  have pre0 : Go p e bl s1 (mkF m 0 #[iv p1, iv p2, iv p3, iv p4, .unset, .unset, .unset, .unset, .unset, .unset, .unset, .unset, .unset, .unset] []) s1 EF := fun t k => by rw [hEF]; exact castTop (efL m p1 p2 p3 p4) k
  have hZ0 : Z.Warmed39 (s.setVm s.vm).vm := hZ
  have hown0 : (s.setVm s.vm).vm.findClass "com/example/picketline/picketline/io/InputExceptionWithinPinLaw" = some m.cls := hown
  have hS0 : s.Since s.vm s.heap.size := (State.WarmedH.refl s).since _
  have hk0 : s.heap.size ≤ h0.size := by rw [← hh]; exact Nat.le_refl _
  have hTK : s.vm.MethodsKnown := hK.1
  have hBl : s.vm.FramesKnown bl := hK.2
  obtain ⟨lw, e_lw⟩ : ∃ z : Int32, z = (p4 &&& (3 : Int32)) := ⟨_, rfl⟩
  obtain ⟨lp, e_lp⟩ : ∃ z : Int32, z = (((p4.toUInt32 >>> ((2 : Int32) &&& 31).toUInt32).toInt32) &&& (3 : Int32)) := ⟨_, rfl⟩
  obtain ⟨lq, e_lq⟩ : ∃ z : Int32, z = (((p4.toUInt32 >>> ((4 : Int32) &&& 31).toUInt32).toInt32) &&& (3 : Int32)) := ⟨_, rfl⟩
  have pre1 : Go p e bl s1 (mkF m 19 #[iv p1, iv p2, iv p3, iv p4, iv lw, iv lp, iv lq, .unset, .unset, .unset, .unset, .unset, .unset, .unset] []) s1 EF := fun t k => pre0 t (by
   refine XS.iloadN X0.here hx rfl (B at_0) rfl ?_
   refine XS.iconst X0.here hx rfl (B at_1) ?_
   refine XS.iand X0.here hx rfl (B at_2) rfl ?_
   refine XS.istore X0.here hx rfl (B at_3) rfl (l' := #[iv p1, iv p2, iv p3, iv p4, iv lw, .unset, .unset, .unset, .unset, .unset, .unset, .unset, .unset, .unset]) (by rw [e_lw]; rfl) ?_
   refine XS.iloadN X0.here hx rfl (B at_5) rfl ?_
   refine XS.iconst X0.here hx rfl (B at_6) ?_
   refine XS.iushr X0.here hx rfl (B at_7) rfl ?_
   refine XS.iconst X0.here hx rfl (B at_8) ?_
   refine XS.iand X0.here hx rfl (B at_9) rfl ?_
   refine XS.istore X0.here hx rfl (B at_10) rfl (l' := #[iv p1, iv p2, iv p3, iv p4, iv lw, iv lp, .unset, .unset, .unset, .unset, .unset, .unset, .unset, .unset]) (by rw [e_lp]; rfl) ?_
   refine XS.iloadN X0.here hx rfl (B at_12) rfl ?_
   refine XS.iconst X0.here hx rfl (B at_13) ?_
   refine XS.iushr X0.here hx rfl (B at_14) rfl ?_
   refine XS.iconst X0.here hx rfl (B at_15) ?_
   refine XS.iand X0.here hx rfl (B at_16) rfl ?_
   exact XS.istore X0.here hx rfl (B at_17) rfl (l' := #[iv p1, iv p2, iv p3, iv p4, iv lw, iv lp, iv lq, .unset, .unset, .unset, .unset, .unset, .unset, .unset]) (by rw [e_lq]; rfl) k)
  have h_lw : lw = 0 ∨ lw = 1 ∨ lw = 2 ∨ lw = 3 := by rw [e_lw]; exact own_and3 _
  have h_lp : lp = 0 ∨ lp = 1 ∨ lp = 2 ∨ lp = 3 := by rw [e_lp]; exact own_and3 _
  have h_lq : lq = 0 ∨ lq = 1 ∨ lq = 2 ∨ lq = 3 := by rw [e_lq]; exact own_and3 _
  have pre2 : Go p e bl s1 (mkF m 22 #[iv p1, iv p2, iv p3, iv p4, iv lw, iv lp, iv lq, .unset, .unset, .unset, .unset, .unset, .unset, .unset] [(.int lw), (.int p1)]) s1 EF := fun t k => pre1 t (by
   refine XS.iloadN X0.here hx rfl (B at_19) rfl ?_
   exact XS.iload X0.here hx rfl (B at_20) rfl k)
  obtain ⟨_, _, ⟨T3, L3, k3, n3⟩, -, XQ3, hSQ3, hgQ3, ⟨Lc3, hQ3, l3, y3, z3, hCH3⟩, st3⟩ := callSS X0 hx (y := mN31) hown0 (mvT hZ0 (hw _ (mW 0 rfl))) (mvT hZ0 (hw _ (mW 1 rfl))) (mvT hZ0 (hw _ (mW 2 rfl))) (mvT hZ0 (hw _ (mW 3 rfl))) (by decide) (backOfSH (W := 0) (rmMk l Z a0 hw [] p1 lw cz fv  h0 n0 Z0 O0 J0 h_lw) hZ0 (hw _ (mW 3 rfl)) (hw _ (mW 2 rfl)) (by decide) (by decide) (own_EW hw) hC) (g := (mkF m 22 #[iv p1, iv p2, iv p3, iv p4, iv lw, iv lp, iv lq, .unset, .unset, .unset, .unset, .unset, .unset, .unset] [(.int lw), (.int p1)])) rfl (hM rfl) (argsL := [(.int p1), (.int lw)]) (rest := []) (lenOf pd26 rfl) rfl (Nat.le_of_eq rfl) (B at_22) (fun _ _ => ⟨rfl, e0, wl rfl, wl rfl⟩)
  dsimp only [Pt.U, Pt.locs, Pt.cells, Pt.slots] at XQ3 hSQ3 hgQ3 hCH3 l3 y3 z3 st3 hQ3
  subst l3 y3 z3
  obtain ⟨X3, hS3, hZ3, hown3⟩ := rebS hS0 (by rw [e0]; exact hk0) XQ3 hSQ3 hgQ3 hZ0 hown0
  obtain ⟨sW, bW, kW, bsW, rfl, N3q, K3, hsz3, SF3, gnW, g3W⟩ := hQ3
  have N3 := Fr.app N0 N3q
  have pre4 : Go p e bl T3 (mkF m 25 #[iv p1, iv p2, iv p3, iv p4, iv lw, iv lp, iv lq, .unset, .unset, .unset, .unset, .unset, .unset, .unset] [(.ref sW)]) s1 EF := fun t k => pre2 t (st3.trans k)
  have hk3 := Nat.le_refl T3.heap.size
  have R3 := (CHr.refl hC).trans hCH3
  have TH5 : ThS Z T3.heap := ThS.keep K3 ns0 TH0
  have O5 : Old Z n0 T3.heap := O0.keep K3 all0
  have Z5 : n0 ≤ T3.heap.size := Nat.le_trans Z0 K3.1
  have K5 : Keep h0 T3.heap [] := (Keep.refl h0 []).trans K3 all0
  have pre6 : Go p e bl T3 (mkF m 30 #[iv p1, iv p2, iv p3, iv p4, iv lw, iv lp, iv lq, rv sW, .unset, .unset, .unset, .unset, .unset, .unset] [(.int lp), (.int p2)]) s1 EF := fun t k => pre4 t (by
   refine XS.astore X3.here hx rfl (B at_25) rfl rfl (l' := #[iv p1, iv p2, iv p3, iv p4, iv lw, iv lp, iv lq, rv sW, .unset, .unset, .unset, .unset, .unset, .unset]) rfl ?_
   refine XS.iloadN X3.here hx rfl (B at_27) rfl ?_
   exact XS.iload X3.here hx rfl (B at_28) rfl k)
  obtain ⟨_, _, ⟨T7, L7, k7, n7⟩, -, XQ7, hSQ7, hgQ7, ⟨Lc7, hQ7, l7, y7, z7, hCH7⟩, st7⟩ := callSS X3 hx (y := mN31) hown3 (mvT hZ3 (hw _ (mW 0 rfl))) (mvT hZ3 (hw _ (mW 1 rfl))) (mvT hZ3 (hw _ (mW 2 rfl))) (mvT hZ3 (hw _ (mW 3 rfl))) (by decide) (backOfSH (W := 0) (rmMk l Z a0 hw [] p2 lp cz fv  T3.heap n0 Z5 O5 J0 h_lp) hZ3 (hw _ (mW 3 rfl)) (hw _ (mW 2 rfl)) (by decide) (by decide) (own_EW hw) hCH3.1) (g := (mkF m 30 #[iv p1, iv p2, iv p3, iv p4, iv lw, iv lp, iv lq, rv sW, .unset, .unset, .unset, .unset, .unset, .unset] [(.int lp), (.int p2)])) rfl (hM rfl) (argsL := [(.int p2), (.int lp)]) (rest := []) (lenOf pd26 rfl) rfl (Nat.le_of_eq rfl) (B at_30) (fun _ _ => ⟨rfl, rfl, wl rfl, wl rfl⟩)
  dsimp only [Pt.U, Pt.locs, Pt.cells, Pt.slots] at XQ7 hSQ7 hgQ7 hCH7 l7 y7 z7 st7 hQ7
  subst l7 y7 z7
  obtain ⟨X7, hS7, hZ7, hown7⟩ := rebS hS3 hk3 XQ7 hSQ7 hgQ7 hZ3 hown3
  obtain ⟨sP, bP, kP, bsP, rfl, N7q, K7, hsz7, SF7, gnP, g3P⟩ := hQ7
  have N7 := Fr.app N3 N7q
  have pre8 : Go p e bl T7 (mkF m 33 #[iv p1, iv p2, iv p3, iv p4, iv lw, iv lp, iv lq, rv sW, .unset, .unset, .unset, .unset, .unset, .unset] [(.ref sP)]) s1 EF := fun t k => pre6 t (st7.trans k)
  have hk7 := Nat.le_refl T7.heap.size
  have R7 := R3.trans hCH7
  have TH9 : ThS Z T7.heap := ThS.keep K7 ns0 TH5
  have O9 : Old Z n0 T7.heap := O5.keep K7 all0
  have Z9 : n0 ≤ T7.heap.size := Nat.le_trans Z5 K7.1
  have K9 : Keep h0 T7.heap [] := K5.trans K7 all0
  have pre10 : Go p e bl T7 (mkF m 38 #[iv p1, iv p2, iv p3, iv p4, iv lw, iv lp, iv lq, rv sW, rv sP, .unset, .unset, .unset, .unset, .unset] [(.int lq), (.int p3)]) s1 EF := fun t k => pre8 t (by
   refine XS.astore X7.here hx rfl (B at_33) rfl rfl (l' := #[iv p1, iv p2, iv p3, iv p4, iv lw, iv lp, iv lq, rv sW, rv sP, .unset, .unset, .unset, .unset, .unset]) rfl ?_
   refine XS.iloadN X7.here hx rfl (B at_35) rfl ?_
   exact XS.iload X7.here hx rfl (B at_36) rfl k)
  obtain ⟨_, _, ⟨T11, L11, k11, n11⟩, -, XQ11, hSQ11, hgQ11, ⟨Lc11, hQ11, l11, y11, z11, hCH11⟩, st11⟩ := callSS X7 hx (y := mN31) hown7 (mvT hZ7 (hw _ (mW 0 rfl))) (mvT hZ7 (hw _ (mW 1 rfl))) (mvT hZ7 (hw _ (mW 2 rfl))) (mvT hZ7 (hw _ (mW 3 rfl))) (by decide) (backOfSH (W := 0) (rmMk l Z a0 hw [] p3 lq cz fv  T7.heap n0 Z9 O9 J0 h_lq) hZ7 (hw _ (mW 3 rfl)) (hw _ (mW 2 rfl)) (by decide) (by decide) (own_EW hw) hCH7.1) (g := (mkF m 38 #[iv p1, iv p2, iv p3, iv p4, iv lw, iv lp, iv lq, rv sW, rv sP, .unset, .unset, .unset, .unset, .unset] [(.int lq), (.int p3)])) rfl (hM rfl) (argsL := [(.int p3), (.int lq)]) (rest := []) (lenOf pd26 rfl) rfl (Nat.le_of_eq rfl) (B at_38) (fun _ _ => ⟨rfl, rfl, wl rfl, wl rfl⟩)
  dsimp only [Pt.U, Pt.locs, Pt.cells, Pt.slots] at XQ11 hSQ11 hgQ11 hCH11 l11 y11 z11 st11 hQ11
  subst l11 y11 z11
  obtain ⟨X11, hS11, hZ11, hown11⟩ := rebS hS7 hk7 XQ11 hSQ11 hgQ11 hZ7 hown7
  obtain ⟨sQ, bQ, kQ, bsQ, rfl, N11q, K11, hsz11, SF11, gnQ, g3Q⟩ := hQ11
  have N11 := Fr.app N7 N11q
  have pre12 : Go p e bl T11 (mkF m 41 #[iv p1, iv p2, iv p3, iv p4, iv lw, iv lp, iv lq, rv sW, rv sP, .unset, .unset, .unset, .unset, .unset] [(.ref sQ)]) s1 EF := fun t k => pre10 t (st11.trans k)
  have hk11 := Nat.le_refl T11.heap.size
  have R11 := R7.trans hCH11
  have TH13 : ThS Z T11.heap := ThS.keep K11 ns0 TH9
  have O13 : Old Z n0 T11.heap := O9.keep K11 all0
  have Z13 : n0 ≤ T11.heap.size := Nat.le_trans Z9 K11.1
  have K13 : Keep h0 T11.heap [] := K9.trans K11 all0
  have pre14 : Go p e bl T11 (mkF m 43 #[iv p1, iv p2, iv p3, iv p4, iv lw, iv lp, iv lq, rv sW, rv sP, rv sQ, .unset, .unset, .unset, .unset] []) s1 EF := fun t k => pre12 t (by
   exact XS.astore X11.here hx rfl (B at_41) rfl rfl (l' := #[iv p1, iv p2, iv p3, iv p4, iv lw, iv lp, iv lq, rv sW, rv sP, rv sQ, .unset, .unset, .unset, .unset]) rfl k)
  obtain ⟨T15, h15, X15, e15, Et15, A15, D15, U15, st15⟩ := newO X11 hx hZ11 hown11 (hw _ (mW 37 rfl)) (hw _ (mW 38 rfl)) (hw _ (mW 39 rfl)) rfl (g := (mkF m 43 #[iv p1, iv p2, iv p3, iv p4, iv lw, iv lp, iv lq, rv sW, rv sP, rv sQ, .unset, .unset, .unset, .unset] [])) rfl (B at_43) (by decide) (by decide)
  obtain ⟨b15, g15⟩ : ∃ z, z = T11.heap.size := ⟨_, rfl⟩
  rw [← g15] at A15 st15 D15
  have g_b15 : n0 ≤ b15 := Nat.le_trans Z13 (Nat.le_of_eq g15.symm)
  have sz_b15 : h0.size ≤ b15 := Nat.le_trans K13.1 (Nat.le_of_eq g15.symm)
  have sfn_b15 : Safe Z [("com/example/picketline/picketline/io/InputException", 29), ("java/lang/String", 7)] T11.vm T11.heap b15 := Safe.new (Nat.le_of_eq g15.symm)
  have ne_sW_b15 : sW ≠ b15 := Nat.ne_of_lt (Nat.lt_of_lt_of_le ((SF3.1.keep K7).keep K11).lt (Nat.le_of_eq g15.symm))
  have ne_bW_b15 : bW ≠ b15 := Nat.ne_of_lt (Nat.lt_of_lt_of_le ((SF3.2.2.2.1.keep K7 nin0).keep K11 nin0).lt (Nat.le_of_eq g15.symm))
  have ne_sP_b15 : sP ≠ b15 := Nat.ne_of_lt (Nat.lt_of_lt_of_le (SF7.1.keep K11).lt (Nat.le_of_eq g15.symm))
  have ne_bP_b15 : bP ≠ b15 := Nat.ne_of_lt (Nat.lt_of_lt_of_le (SF7.2.2.2.1.keep K11 nin0).lt (Nat.le_of_eq g15.symm))
  have ne_sQ_b15 : sQ ≠ b15 := Nat.ne_of_lt (Nat.lt_of_lt_of_le SF11.1.lt (Nat.le_of_eq g15.symm))
  have ne_bQ_b15 : bQ ≠ b15 := Nat.ne_of_lt (Nat.lt_of_lt_of_le SF11.2.2.2.1.lt (Nat.le_of_eq g15.symm))
  have pre16 : Go p e bl T15 (mkF m 46 #[iv p1, iv p2, iv p3, iv p4, iv lw, iv lp, iv lq, rv sW, rv sP, rv sQ, .unset, .unset, .unset, .unset] [(.ref b15)]) s1 EF := fun t k => pre14 t (st15 t k)
  have TH17 : ThS Z h15 := ThS.ext Et15 TH13
  have O17 : Old Z n0 h15 := O13.ext Et15
  have Z17 : n0 ≤ h15.size := Nat.le_trans Z13 Et15.1
  have hk17 := Nat.le_trans hk11 Et15.1
  have C17 := CHv.ext Et15 hCH11.1
  have R17 := R11.trans (CHr.ext Et15 hCH11.1)
  have sf17_b15 := Safe.ext Et15 hCH11.1 sfn_b15
  have K17 : Keep h0 h15 [] := K13.ext Et15
  have UN15 : Unt h15 b15 := by rw [g15]; exact U15
  have F_cause_b15 : Fld Z h15 b15 "java/lang/Throwable" "cause" "Ljava/lang/Throwable;" .null := D15 (Or.inl (hw _ (mW 166 rfl))) (ty := (.object "java/lang/Throwable")) (by decide)
  have F_stackTrace_b15 : Fld Z h15 b15 "java/lang/Throwable" "stackTrace" "[Ljava/lang/StackTraceElement;" .null := D15 (Or.inl (hw _ (mW 169 rfl))) (ty := (.array (.object "java/lang/StackTraceElement"))) (by decide)
  have F_suppressedExceptions_b15 : Fld Z h15 b15 "java/lang/Throwable" "suppressedExceptions" "Ljava/util/List;" .null := D15 (Or.inl (hw _ (mW 172 rfl))) (ty := (.object "java/util/List")) (by decide)
  have F_detailMessage_b15 : Fld Z h15 b15 "java/lang/Throwable" "detailMessage" "Ljava/lang/String;" .null := D15 (Or.inl (hw _ (mW 196 rfl))) (ty := (.object "java/lang/String")) (by decide)
  have F_backtrace_b15 : Fld Z h15 b15 "java/lang/Throwable" "backtrace" "Ljava/lang/Object;" .null := D15 (Or.inl (hw _ (mW 197 rfl))) (ty := (.object "java/lang/Object")) (by decide)
  have F_depth_b15 : Fld Z h15 b15 "java/lang/Throwable" "depth" "I" (.int 0) := D15 (Or.inl (hw _ (mW 198 rfl))) (ty := .int) (by decide)
  have F_where_b15 : Fld Z h15 b15 "com/example/picketline/picketline/io/InputException" "where" "Ljava/lang/String;" .null := D15 (Or.inr (hw _ (mW 202 rfl))) (ty := (.object "java/lang/String")) (by decide)
  have F_problem_b15 : Fld Z h15 b15 "com/example/picketline/picketline/io/InputException" "problem" "Ljava/lang/String;" .null := D15 (Or.inr (hw _ (mW 204 rfl))) (ty := (.object "java/lang/String")) (by decide)
  have pre18 : Go p e bl T15 (mkF m 51 #[iv p1, iv p2, iv p3, iv p4, iv lw, iv lp, iv lq, rv sW, rv sP, rv sQ, .unset, .unset, .unset, .unset] [(.ref sP), (.ref sW), (.ref b15), (.ref b15)]) s1 EF := fun t k => pre16 t (by
   refine XS.dup X15.here hx rfl (B at_46) rfl rfl ?_
   refine XS.aload X15.here hx rfl (B at_47) rfl rfl ?_
   exact XS.aload X15.here hx rfl (B at_49) rfl rfl k)
  obtain ⟨_, _, ⟨T19, L19, k19, n19⟩, -, X19, ⟨Lc19, hQ19, l19, y19, z19⟩, st19⟩ := X15.specialBack hx (y := mN34) rfl hown11 (mvT hZ11 (hw _ (mW 40 rfl))) (mvT hZ11 (hw _ (mW 41 rfl))) (mvT hZ11 (hw _ (mW 42 rfl))) (by decide) (backOfKL (W := 1) (rmIE l Z a0 hw [] b15 sW sP cz fv u0 u1 bW kW lw bsW bP kP lp bsP h15 n0 Z17 O17 J0 A15 g_b15 UN15 F_cause_b15 F_stackTrace_b15 F_suppressedExceptions_b15 F_backtrace_b15 F_detailMessage_b15 F_where_b15 F_problem_b15 TH17 (((SF3.keep K7 nin0 nin0).keep K11 nin0 nin0).ext Et15) ((SF7.keep K11 nin0 nin0).ext Et15) gnW gnP (by omega) SU SS hl) hZ11 (hw _ (mW 42 rfl)) (hw _ (mW 39 rfl)) (by decide) (by decide) (hTK.alikeC (hZ0.alike.symm.trans hZ11.alike)) (hBl.alikeC (hZ0.alike.symm.trans hZ11.alike))) (g := (mkF m 51 #[iv p1, iv p2, iv p3, iv p4, iv lw, iv lp, iv lq, rv sW, rv sP, rv sQ, .unset, .unset, .unset, .unset] [(.ref sP), (.ref sW), (.ref b15), (.ref b15)])) rfl (hM rfl) (Steps.refl _) (a := b15) (argsL := [(.ref sW), (.ref sP)]) (rest := [(.ref b15)]) (lenOf pd24 rfl) rfl (Nat.le_of_eq rfl) (B at_51) (fun _ _ => ⟨rfl, e15, wl rfl, wl rfl⟩)
  dsimp only [Pt.U, Pt.locs, Pt.cells, Pt.slots] at X19 l19 y19 z19 st19 hQ19
  subst l19 y19 z19
  obtain ⟨m0, m0B, mk19, nm19, rfl, N19q, K19, EX19, DM19, FA19, FB19, hsz19, SF19, gl19⟩ := hQ19
  have N19 := Fr.app N11 N19q
  have pre20 : Go p e bl T19 (mkF m 54 #[iv p1, iv p2, iv p3, iv p4, iv lw, iv lp, iv lq, rv sW, rv sP, rv sQ, .unset, .unset, .unset, .unset] [(.ref b15)]) s1 EF := fun t k => pre18 t (st19.trans k)
  have TH21 : ThS Z T19.heap := ThS.keep K19 (nsS (A15).nostat ns0) TH17
  have O21 : Old Z n0 T19.heap := O17.keep K19 (allS g_b15 all0)
  have Z21 : n0 ≤ T19.heap.size := Nat.le_trans Z17 K19.1
  have hk21 := Nat.le_trans hk17 K19.1
  have C21 := CHv.keep K19 (sfS sf17_b15 sf0) C17
  have R21 := R17.trans (CHr.keep K19 (sfS sf17_b15 sf0) C17)
  have sf21_b15 := Safe.keep K19 (sfS sf17_b15 sf0) C17 sf17_b15
  have K21 : Keep h0 T19.heap [] := K17.trans K19 (allS (Or.inr sz_b15) all0)
  have pre22 : Go p e bl T19 (mkF m 60 #[iv p1, iv p2, iv p3, iv p4, iv lw, iv lp, iv lq, rv sW, rv sP, rv sQ, rv b15, .unset, .unset, .unset] [(.ref sQ), (.ref b15)]) s1 EF := fun t k => pre20 t (by
   refine XS.astore X19.here hx rfl (B at_54) rfl rfl (l' := #[iv p1, iv p2, iv p3, iv p4, iv lw, iv lp, iv lq, rv sW, rv sP, rv sQ, rv b15, .unset, .unset, .unset]) rfl ?_
   refine XS.aload X19.here hx rfl (B at_56) rfl rfl ?_
   exact XS.aload X19.here hx rfl (B at_58) rfl rfl k)
  obtain ⟨cq23, kq23, q23a, q23b, q23c⟩ := isOf hZ11 rfl EX19
  obtain ⟨_, _, ⟨T23, L23, k23, n23⟩, -, XQ23, hSQ23, hgQ23, ⟨Lc23, hQ23, l23, y23, z23, hCH23⟩, st23⟩ := X19.virtualBackS hx (y := mN35) (z := mN35) hown11 (mvT hZ11 (hw _ (mW 205 rfl))) (mvT hZ11 (hw _ (mW 206 rfl))) (notFace_of_selects (args := #[]) (mvT hZ11 (hw _ (mW 208 rfl)))) (mvT hZ11 (hw _ (mW 208 rfl))) (mvT hZ11 (hw _ (mW 207 rfl))) (by decide) (backOfSKH (W := 0) (rmWI l Z a0 hw [] b15 sQ cz fv sW sP u0 u1 bQ kQ lq bsQ bW kW lw bsW bP kP lp bsP T19.heap n0 Z21 O21 J0 EX19 FA19 FB19 TH21 ((SF11.ext Et15).keep K19 (ninS ne_sQ_b15 nin0) (ninS ne_bQ_b15 nin0)) ((((SF3.keep K7 nin0 nin0).keep K11 nin0 nin0).ext Et15).keep K19 (ninS ne_sW_b15 nin0) (ninS ne_bW_b15 nin0)) (((SF7.keep K11 nin0 nin0).ext Et15).keep K19 (ninS ne_sP_b15 nin0) (ninS ne_bP_b15 nin0)) gnQ gnW gnP (by omega) SU SS hl) hZ11 (hw _ (mW 209 rfl)) (hw _ (mW 39 rfl)) (by decide) (by decide) (own_EW hw) C21 (hTK.alikeC (hZ0.alike.symm.trans hZ11.alike)) (hBl.alikeC (hZ0.alike.symm.trans hZ11.alike))) q23a q23c (g := (mkF m 60 #[iv p1, iv p2, iv p3, iv p4, iv lw, iv lp, iv lq, rv sW, rv sP, rv sQ, rv b15, .unset, .unset, .unset] [(.ref sQ), (.ref b15)])) rfl (hM rfl) (Steps.refl _) (argsL := [(.ref sQ)]) (rest := []) (lenOf pd27 rfl) rfl (Nat.le_of_eq rfl) (B at_60) (fun _ _ => ⟨rfl, rfl, wl rfl, wl rfl⟩)
  dsimp only [Pt.U, Pt.locs, Pt.cells, Pt.slots] at XQ23 hSQ23 hgQ23 hCH23 l23 y23 z23 st23 hQ23
  subst l23 y23 z23
  obtain ⟨X23, hS23, hZ23, hown23⟩ := rebS hS11 hk21 XQ23 hSQ23 hgQ23 hZ11 hown11
  obtain ⟨rA, mA, mB, mK, mN, rfl, N23q, K23, ER23, DR23, SF23, gnM⟩ := hQ23
  have N23 := Fr.app N19 N23q
  have pre24 : Go p e bl T23 (mkF m 63 #[iv p1, iv p2, iv p3, iv p4, iv lw, iv lp, iv lq, rv sW, rv sP, rv sQ, rv b15, .unset, .unset, .unset] [(.ref rA)]) s1 EF := fun t k => pre22 t (st23.trans k)
  have hk23 := Nat.le_refl T23.heap.size
  have R23 := R21.trans hCH23
  have TH25 : ThS Z T23.heap := ThS.keep K23 ns0 TH21
  have O25 : Old Z n0 T23.heap := O21.keep K23 all0
  have Z25 : n0 ≤ T23.heap.size := Nat.le_trans Z21 K23.1
  have K25 : Keep h0 T23.heap [] := K21.trans K23 all0
  have pre26 : Go p e bl T23 (mkF m 74 #[iv p1, iv p2, iv p3, iv p4, iv lw, iv lp, iv lq, rv sW, rv sP, rv sQ, rv b15, rv rA, .unset, .unset] [(.ref rA)]) s1 EF := fun t k => pre24 t (by
   refine XS.astore X23.here hx rfl (B at_63) rfl rfl (l' := #[iv p1, iv p2, iv p3, iv p4, iv lw, iv lp, iv lq, rv sW, rv sP, rv sQ, rv b15, rv rA, .unset, .unset]) rfl ?_
   refine XS.aload X23.here hx rfl (B at_65) rfl rfl ?_
   refine XS.ifnonnullYes X23.here hx rfl (pc0 := 67) (pc' := 72) rfl (B at_67) rfl (by decide) (by decide) ?_
   exact XS.aload X23.here hx rfl (B at_72) rfl rfl k)
  obtain ⟨cq27, kq27, q27a, q27b, q27c⟩ := isOf hZ23 rfl ER23
  obtain ⟨_, _, ⟨T27, L27, k27, n27⟩, -, X27, ⟨Lc27, hQ27, l27, y27, z27⟩, st27⟩ := X23.virtualBackUp hx (x := mN38) (y := mN36) (owner := "java/lang/Throwable") hown23 (mvT hZ23 (hw _ (mW 213 rfl))) (mvT hZ23 (hw _ (mW 214 rfl))) (mvT hZ23 (hw _ (mW 215 rfl))) (by decide) (mvT hZ23 (hw _ (mW 217 rfl))) (mvT hZ23 (hw _ (mW 216 rfl))) (backOf (W := 0) (rmGm l Z a0 hw [] rA cz fv mA T23.heap n0 Z25 O25 J0 DR23) hZ23 (hw _ (mW 218 rfl)) (hw _ (mW 162 rfl)) (by decide) (by decide)) q27a q27c (g := (mkF m 74 #[iv p1, iv p2, iv p3, iv p4, iv lw, iv lp, iv lq, rv sW, rv sP, rv sQ, rv b15, rv rA, .unset, .unset] [(.ref rA)])) rfl (hM rfl) (Steps.refl _) (argsL := []) (rest := []) (lenOf pd23 rfl) rfl (Nat.le_of_eq rfl) (B at_74) (fun _ _ => ⟨rfl, rfl, wl rfl, wl rfl⟩)
  dsimp only [Pt.U, Pt.locs, Pt.cells, Pt.slots] at X27 l27 y27 z27 st27 hQ27
  subst l27 y27 z27
  obtain ⟨rfl, N27q, hq27⟩ := hQ27
  have N27 := Fr.app N23 N27q
  have pre28 : Go p e bl T27 (mkF m 77 #[iv p1, iv p2, iv p3, iv p4, iv lw, iv lp, iv lq, rv sW, rv sP, rv sQ, rv b15, rv rA, .unset, .unset] [(.ref mA)]) s1 EF := fun t k => pre26 t (st27.trans k)
  have e27 : T27.heap = T23.heap := hq27
  have pre29 : Go p e bl T27 (mkF m 81 #[iv p1, iv p2, iv p3, iv p4, iv lw, iv lp, iv lq, rv sW, rv sP, rv sQ, rv b15, rv rA, rv mA, .unset] [(.ref b15)]) s1 EF := fun t k => pre28 t (by
   refine XS.astore X27.here hx rfl (B at_77) rfl rfl (l' := #[iv p1, iv p2, iv p3, iv p4, iv lw, iv lp, iv lq, rv sW, rv sP, rv sQ, rv b15, rv rA, rv mA, .unset]) rfl ?_
   exact XS.aload X27.here hx rfl (B at_79) rfl rfl k)
  obtain ⟨cq30, kq30, q30a, q30b, q30c⟩ := isOf hZ23 e27 (EX19.keep K23)
  obtain ⟨_, _, ⟨T30, L30, k30, n30⟩, -, X30, ⟨Lc30, hQ30, l30, y30, z30⟩, st30⟩ := X27.virtualBackUp hx (x := mN38) (y := mN36) (owner := "java/lang/Throwable") hown23 (mvT hZ23 (hw _ (mW 213 rfl))) (mvT hZ23 (hw _ (mW 214 rfl))) (mvT hZ23 (hw _ (mW 215 rfl))) (by decide) (mvT hZ23 (hw _ (mW 217 rfl))) (mvT hZ23 (hw _ (mW 216 rfl))) (backOf (W := 0) (rmGm l Z a0 hw [] b15 cz fv m0 T23.heap n0 Z25 O25 J0 (DM19.keep K23 nin0)) hZ23 (hw _ (mW 218 rfl)) (hw _ (mW 162 rfl)) (by decide) (by decide)) q30a q30c (g := (mkF m 81 #[iv p1, iv p2, iv p3, iv p4, iv lw, iv lp, iv lq, rv sW, rv sP, rv sQ, rv b15, rv rA, rv mA, .unset] [(.ref b15)])) rfl (hM rfl) (Steps.refl _) (argsL := []) (rest := []) (lenOf pd23 rfl) rfl (Nat.le_of_eq rfl) (B at_81) (fun _ _ => ⟨rfl, e27, wl rfl, wl rfl⟩)
  dsimp only [Pt.U, Pt.locs, Pt.cells, Pt.slots] at X30 l30 y30 z30 st30 hQ30
  subst l30 y30 z30
  obtain ⟨rfl, N30q, hq30⟩ := hQ30
  have N30 := Fr.app N27 N30q
  have pre31 : Go p e bl T30 (mkF m 84 #[iv p1, iv p2, iv p3, iv p4, iv lw, iv lp, iv lq, rv sW, rv sP, rv sQ, rv b15, rv rA, rv mA, .unset] [(.ref m0)]) s1 EF := fun t k => pre29 t (st30.trans k)
  have e30 : T30.heap = T23.heap := hq30
  have pre32 : Go p e bl T30 (mkF m 86 #[iv p1, iv p2, iv p3, iv p4, iv lw, iv lp, iv lq, rv sW, rv sP, rv sQ, rv b15, rv rA, rv mA, rv m0] []) s1 EF := fun t k => pre31 t (by
   exact XS.astore X30.here hx rfl (B at_84) rfl rfl (l' := #[iv p1, iv p2, iv p3, iv p4, iv lw, iv lp, iv lq, rv sW, rv sP, rv sQ, rv b15, rv rA, rv mA, rv m0]) rfl k)
  have w2 : (2 : Int32).toInt = (2 : Nat) := by rfl
  have w1 : (1 : Int32).toInt = (1 : Nat) := by rfl
  have gWQ := own_add gnW gnQ (by omega)
  have gWQ1 := own_add gWQ w1 (by omega)
  have gWQ2 := own_add gWQ w2 (by omega)
  have gWQP := own_add gWQ2 gnP (by omega)
  have gWP := own_add gnW gnP (by omega)
  have gpP : ((lw + lq) + (2 : Int32)).toInt = ((bsW ++ bsQ) ++ [(58 : Int32), 32]).length := by rw [gWQ2]; simp only [List.length_append, List.length_nil, List.length_cons] <;> omega
  have hL1 : mN = (((lw + lq) + (2 : Int32)) + lp) := by rw [← Int32.toInt_inj, gnM, gWQP]; simp only [List.length_append, List.length_nil, List.length_cons] <;> omega
  have hL2 : nm19 = (lw + lp) := by rw [← Int32.toInt_inj, gl19, gWP]; simp only [List.length_append] <;> omega
  have ixA := own_ix (xs := bsW ++ bsQ) (us := [(58 : Int32), 32]) (ys := bsP) (j := 0) (u := 58) (q := lw + lq) gnM (by simp) (by rw [gWQ]; simp only [List.length_append] <;> omega) rfl
  have ixB := own_ix (xs := bsW ++ bsQ) (us := [(58 : Int32), 32]) (ys := bsP) (j := 1) (u := 32) (q := (lw + lq) + 1) gnM (by simp) (by rw [gWQ1]; simp only [List.length_append] <;> omega) rfl
  have pre33 : Go p e bl T30 (mkF m 100 #[iv p1, iv p2, iv p3, iv p4, iv lw, iv lp, iv lq, rv sW, rv sP, rv sQ, rv b15, rv rA, rv mA, rv m0] [(.ref mA)]) s1 EF := fun t k => pre32 t (by
   refine XS.aload X30.here hx rfl (B at_86) rfl rfl ?_
   refine XS.ifnullNo X30.here hx rfl (B at_88) rfl ?_
   refine XS.aload X30.here hx rfl (B at_91) rfl rfl ?_
   refine XS.ifnonnullYes X30.here hx rfl (pc0 := 93) (pc' := 98) rfl (B at_93) rfl (by decide) (by decide) ?_
   exact XS.aload X30.here hx rfl (B at_98) rfl rfl k)
  obtain ⟨cq34, kq34, q34a, q34b, q34c⟩ := isOf hZ23 e30 SF23.1
  obtain ⟨_, _, ⟨T34, L34, k34, n34⟩, -, X34, ⟨Lc34, hQ34, l34, y34, z34⟩, st34⟩ := X30.virtualBack hx (y := mN1) (z := mN1) hown23 (mvT hZ23 (hw _ (mW 219 rfl))) (mvT hZ23 (hw _ (mW 72 rfl))) (notFace_of_selects (args := #[]) (mvT hZ23 (hw _ (mW 74 rfl)))) (mvT hZ23 (hw _ (mW 74 rfl))) (mvT hZ23 (hw _ (mW 73 rfl))) (by decide) (backOf (W := 0) (rmJle l Z a0 hw [] mA cz fv (0 : Int32) mB mK mN (BV (bsW ++ (([] ++ bsQ ++ [(58 : Int32), 32]) ++ bsP))) mN T23.heap n0 Z25 O25 J0 SF23.1 SF23.2.1 SF23.2.2.1 SF23.2.2.2.1 rfl (own_shr0 rfl)) hZ23 (hw _ (mW 75 rfl)) (hw _ (mW 6 rfl)) (by decide) (by decide)) q34a q34c (g := (mkF m 100 #[iv p1, iv p2, iv p3, iv p4, iv lw, iv lp, iv lq, rv sW, rv sP, rv sQ, rv b15, rv rA, rv mA, rv m0] [(.ref mA)])) rfl (hM rfl) (Steps.refl _) (argsL := []) (rest := []) (lenOf pd8 rfl) rfl (Nat.le_of_eq rfl) (B at_100) (fun _ _ => ⟨rfl, e30, wl rfl, wl rfl⟩)
  dsimp only [Pt.U, Pt.locs, Pt.cells, Pt.slots] at X34 l34 y34 z34 st34 hQ34
  subst l34 y34 z34
  obtain ⟨rfl, N34q, hq34⟩ := hQ34
  have N34 := Fr.app N30 N34q
  have pre35 : Go p e bl T34 (mkF m 103 #[iv p1, iv p2, iv p3, iv p4, iv lw, iv lp, iv lq, rv sW, rv sP, rv sQ, rv b15, rv rA, rv mA, rv m0] [(.int mN)]) s1 EF := fun t k => pre33 t (st34.trans k)
  have e34 : T34.heap = T23.heap := hq34
  have pre36 : Go p e bl T34 (mkF m 113 #[iv p1, iv p2, iv p3, iv p4, iv lw, iv lp, iv lq, rv sW, rv sP, rv sQ, rv b15, rv rA, rv mA, rv m0] [(.int (((lw + lq) + (2 : Int32)) + lp)), (.int mN)]) s1 EF := fun t k => pre35 t (by
   refine XS.iload X34.here hx rfl (B at_103) rfl ?_
   refine XS.iload X34.here hx rfl (B at_105) rfl ?_
   refine XS.iadd X34.here hx rfl (B at_107) rfl ?_
   refine XS.iconst X34.here hx rfl (B at_108) ?_
   refine XS.iadd X34.here hx rfl (B at_109) rfl ?_
   refine XS.iload X34.here hx rfl (B at_110) rfl ?_
   exact XS.iadd X34.here hx rfl (B at_112) rfl k)
  have pre37 : Go p e bl T34 (mkF m 118 #[iv p1, iv p2, iv p3, iv p4, iv lw, iv lp, iv lq, rv sW, rv sP, rv sQ, rv b15, rv rA, rv mA, rv m0] []) s1 EF := fun t k => pre36 t (XS.icmpYes X34.here hx rfl (pc0 := 113) (pc' := 118) rfl (B at_113) rfl (teq hL1).1 (by decide) (by decide) k)
  have pre38 : Go p e bl T34 (mkF m 123 #[iv p1, iv p2, iv p3, iv p4, iv lw, iv lp, iv lq, rv sW, rv sP, rv sQ, rv b15, rv rA, rv mA, rv m0] [(.ref sW), (.int 0), (.ref mA)]) s1 EF := fun t k => pre37 t (by
   refine XS.aload X34.here hx rfl (B at_118) rfl rfl ?_
   refine XS.iconst X34.here hx rfl (B at_120) ?_
   exact XS.aload X34.here hx rfl (B at_121) rfl rfl k)
  obtain ⟨_, _, ⟨T39, L39, k39, n39⟩, -, X39, ⟨Lc39, hQ39, l39, y39, z39⟩, st39⟩ := Jvm.LawKit.callS X34 hx (y := mN37) hown23 (mvT hZ23 (hw _ (mW 220 rfl))) (mvT hZ23 (hw _ (mW 221 rfl))) (mvT hZ23 (hw _ (mW 2 rfl))) (mvT hZ23 (hw _ (mW 222 rfl))) (by decide) (backOf (W := 0) (rmAt l Z a0 hw [] mA (0 : Int32) sW cz fv mB mK mN (bsW ++ (([] ++ bsQ ++ [(58 : Int32), 32]) ++ bsP)) bW kW lw bsW [] ((bsQ ++ [(58 : Int32), 32]) ++ bsP) T23.heap n0 Z25 O25 J0 SF23 (((((SF3.keep K7 nin0 nin0).keep K11 nin0 nin0).ext Et15).keep K19 (ninS ne_sW_b15 nin0) (ninS ne_bW_b15 nin0)).keep K23 nin0 nin0) gnM gnW g3W rfl rfl (by (try simp only [List.length_append, List.length_nil, List.length_cons]) <;> omega)) hZ23 (hw _ (mW 222 rfl)) (hw _ (mW 2 rfl)) (by decide) (by decide)) (g := (mkF m 123 #[iv p1, iv p2, iv p3, iv p4, iv lw, iv lp, iv lq, rv sW, rv sP, rv sQ, rv b15, rv rA, rv mA, rv m0] [(.ref sW), (.int 0), (.ref mA)])) rfl (hM rfl) (argsL := [(.ref mA), (.int 0), (.ref sW)]) (rest := []) (lenOf pd28 rfl) rfl (Nat.le_of_eq rfl) (B at_123) (fun _ _ => ⟨rfl, e34, wl rfl, wl rfl⟩)
  dsimp only [Pt.U, Pt.locs, Pt.cells, Pt.slots] at X39 l39 y39 z39 st39 hQ39
  subst l39 y39 z39
  obtain ⟨rfl, N39q, hq39⟩ := hQ39
  have N39 := Fr.app N34 N39q
  have pre40 : Go p e bl T39 (mkF m 126 #[iv p1, iv p2, iv p3, iv p4, iv lw, iv lp, iv lq, rv sW, rv sP, rv sQ, rv b15, rv rA, rv mA, rv m0] [(.int 1)]) s1 EF := fun t k => pre38 t (st39 t k)
  have e39 : T39.heap = T23.heap := hq39
  have pre41 : Go p e bl T39 (mkF m 131 #[iv p1, iv p2, iv p3, iv p4, iv lw, iv lp, iv lq, rv sW, rv sP, rv sQ, rv b15, rv rA, rv mA, rv m0] []) s1 EF := fun t k => pre40 t (XS.ifYes X39.here hx rfl (pc0 := 126) (pc' := 131) rfl (B at_126) rfl ((if0 _ _).trans (feq (by decide : ¬ ((1 : Int32) = (0 : Int32)))).2) (by decide) (by decide) k)
  have pre42 : Go p e bl T39 (mkF m 137 #[iv p1, iv p2, iv p3, iv p4, iv lw, iv lp, iv lq, rv sW, rv sP, rv sQ, rv b15, rv rA, rv mA, rv m0] [(.ref sQ), (.int lw), (.ref mA)]) s1 EF := fun t k => pre41 t (by
   refine XS.aload X39.here hx rfl (B at_131) rfl rfl ?_
   refine XS.iload X39.here hx rfl (B at_133) rfl ?_
   exact XS.aload X39.here hx rfl (B at_135) rfl rfl k)
  obtain ⟨_, _, ⟨T43, L43, k43, n43⟩, -, X43, ⟨Lc43, hQ43, l43, y43, z43⟩, st43⟩ := Jvm.LawKit.callS X39 hx (y := mN37) hown23 (mvT hZ23 (hw _ (mW 220 rfl))) (mvT hZ23 (hw _ (mW 221 rfl))) (mvT hZ23 (hw _ (mW 2 rfl))) (mvT hZ23 (hw _ (mW 222 rfl))) (by decide) (backOf (W := 0) (rmAt l Z a0 hw [] mA lw sQ cz fv mB mK mN (bsW ++ (([] ++ bsQ ++ [(58 : Int32), 32]) ++ bsP)) bQ kQ lq bsQ bsW ([(58 : Int32), 32] ++ bsP) T23.heap n0 Z25 O25 J0 SF23 (((SF11.ext Et15).keep K19 (ninS ne_sQ_b15 nin0) (ninS ne_bQ_b15 nin0)).keep K23 nin0 nin0) gnM gnQ g3Q gnW (by simp) (by (try simp only [List.length_append, List.length_nil, List.length_cons]) <;> omega)) hZ23 (hw _ (mW 222 rfl)) (hw _ (mW 2 rfl)) (by decide) (by decide)) (g := (mkF m 137 #[iv p1, iv p2, iv p3, iv p4, iv lw, iv lp, iv lq, rv sW, rv sP, rv sQ, rv b15, rv rA, rv mA, rv m0] [(.ref sQ), (.int lw), (.ref mA)])) rfl (hM rfl) (argsL := [(.ref mA), (.int lw), (.ref sQ)]) (rest := []) (lenOf pd28 rfl) rfl (Nat.le_of_eq rfl) (B at_137) (fun _ _ => ⟨rfl, e39, wl rfl, wl rfl⟩)
  dsimp only [Pt.U, Pt.locs, Pt.cells, Pt.slots] at X43 l43 y43 z43 st43 hQ43
  subst l43 y43 z43
  obtain ⟨rfl, N43q, hq43⟩ := hQ43
  have N43 := Fr.app N39 N43q
  have pre44 : Go p e bl T43 (mkF m 140 #[iv p1, iv p2, iv p3, iv p4, iv lw, iv lp, iv lq, rv sW, rv sP, rv sQ, rv b15, rv rA, rv mA, rv m0] [(.int 1)]) s1 EF := fun t k => pre42 t (st43 t k)
  have e43 : T43.heap = T23.heap := hq43
  have pre45 : Go p e bl T43 (mkF m 145 #[iv p1, iv p2, iv p3, iv p4, iv lw, iv lp, iv lq, rv sW, rv sP, rv sQ, rv b15, rv rA, rv mA, rv m0] []) s1 EF := fun t k => pre44 t (XS.ifYes X43.here hx rfl (pc0 := 140) (pc' := 145) rfl (B at_140) rfl ((if0 _ _).trans (feq (by decide : ¬ ((1 : Int32) = (0 : Int32)))).2) (by decide) (by decide) k)
  have pre46 : Go p e bl T43 (mkF m 152 #[iv p1, iv p2, iv p3, iv p4, iv lw, iv lp, iv lq, rv sW, rv sP, rv sQ, rv b15, rv rA, rv mA, rv m0] [(.int (lw + lq)), (.ref mA)]) s1 EF := fun t k => pre45 t (by
   refine XS.aload X43.here hx rfl (B at_145) rfl rfl ?_
   refine XS.iload X43.here hx rfl (B at_147) rfl ?_
   refine XS.iload X43.here hx rfl (B at_149) rfl ?_
   exact XS.iadd X43.here hx rfl (B at_151) rfl k)
  obtain ⟨cq47, kq47, q47a, q47b, q47c⟩ := isOf hZ23 e43 SF23.1
  obtain ⟨_, _, ⟨T47, L47, k47, n47⟩, -, X47, ⟨Lc47, hQ47, l47, y47, z47⟩, st47⟩ := X43.virtualBack hx (y := mN6) (z := mN6) hown23 (mvT hZ23 (hw _ (mW 223 rfl))) (mvT hZ23 (hw _ (mW 224 rfl))) (notFace_of_selects (args := #[]) (mvT hZ23 (hw _ (mW 226 rfl)))) (mvT hZ23 (hw _ (mW 226 rfl))) (mvT hZ23 (hw _ (mW 225 rfl))) (by decide) (backOf (W := 0) (rmJcl l Z a0 hw [] mA (lw + lq) cz fv mB mK mN (BV (bsW ++ (([] ++ bsQ ++ [(58 : Int32), 32]) ++ bsP))) (58 : Int32) (58 : Int32) T23.heap n0 Z25 O25 J0 SF23.1 SF23.2.1 SF23.2.2.1 SF23.2.2.2.1 ixA.1.1 ixA.1.2 ixA.2 (by decide) (by decide)) hZ23 (hw _ (mW 227 rfl)) (hw _ (mW 6 rfl)) (by decide) (by decide)) q47a q47c (g := (mkF m 152 #[iv p1, iv p2, iv p3, iv p4, iv lw, iv lp, iv lq, rv sW, rv sP, rv sQ, rv b15, rv rA, rv mA, rv m0] [(.int (lw + lq)), (.ref mA)])) rfl (hM rfl) (Steps.refl _) (argsL := [(.int (lw + lq))]) (rest := []) (lenOf pd25 rfl) rfl (Nat.le_of_eq rfl) (B at_152) (fun _ _ => ⟨rfl, e43, wl rfl, wl rfl⟩)
  dsimp only [Pt.U, Pt.locs, Pt.cells, Pt.slots] at X47 l47 y47 z47 st47 hQ47
  subst l47 y47 z47
  obtain ⟨rfl, N47q, hq47⟩ := hQ47
  have N47 := Fr.app N43 N47q
  have pre48 : Go p e bl T47 (mkF m 155 #[iv p1, iv p2, iv p3, iv p4, iv lw, iv lp, iv lq, rv sW, rv sP, rv sQ, rv b15, rv rA, rv mA, rv m0] [(.int 58)]) s1 EF := fun t k => pre46 t (st47.trans k)
  have e47 : T47.heap = T23.heap := hq47
  have pre49 : Go p e bl T47 (mkF m 157 #[iv p1, iv p2, iv p3, iv p4, iv lw, iv lp, iv lq, rv sW, rv sP, rv sQ, rv b15, rv rA, rv mA, rv m0] [(.int 58), (.int 58)]) s1 EF := fun t k => pre48 t (by
   exact XS.bipush X47.here hx rfl (B at_155) k)
  have pre50 : Go p e bl T47 (mkF m 160 #[iv p1, iv p2, iv p3, iv p4, iv lw, iv lp, iv lq, rv sW, rv sP, rv sQ, rv b15, rv rA, rv mA, rv m0] []) s1 EF := fun t k => pre49 t (XS.icmpNo X47.here hx rfl (B at_157) rfl (teq (by decide : (58 : Int32) = (58 : Int32))).2 k)
  have pre51 : Go p e bl T47 (mkF m 169 #[iv p1, iv p2, iv p3, iv p4, iv lw, iv lp, iv lq, rv sW, rv sP, rv sQ, rv b15, rv rA, rv mA, rv m0] [(.int ((lw + lq) + (1 : Int32))), (.ref mA)]) s1 EF := fun t k => pre50 t (by
   refine XS.aload X47.here hx rfl (B at_160) rfl rfl ?_
   refine XS.iload X47.here hx rfl (B at_162) rfl ?_
   refine XS.iload X47.here hx rfl (B at_164) rfl ?_
   refine XS.iadd X47.here hx rfl (B at_166) rfl ?_
   refine XS.iconst X47.here hx rfl (B at_167) ?_
   exact XS.iadd X47.here hx rfl (B at_168) rfl k)
  obtain ⟨cq52, kq52, q52a, q52b, q52c⟩ := isOf hZ23 e47 SF23.1
  obtain ⟨_, _, ⟨T52, L52, k52, n52⟩, -, X52, ⟨Lc52, hQ52, l52, y52, z52⟩, st52⟩ := X47.virtualBack hx (y := mN6) (z := mN6) hown23 (mvT hZ23 (hw _ (mW 223 rfl))) (mvT hZ23 (hw _ (mW 224 rfl))) (notFace_of_selects (args := #[]) (mvT hZ23 (hw _ (mW 226 rfl)))) (mvT hZ23 (hw _ (mW 226 rfl))) (mvT hZ23 (hw _ (mW 225 rfl))) (by decide) (backOf (W := 0) (rmJcl l Z a0 hw [] mA ((lw + lq) + (1 : Int32)) cz fv mB mK mN (BV (bsW ++ (([] ++ bsQ ++ [(58 : Int32), 32]) ++ bsP))) (32 : Int32) (32 : Int32) T23.heap n0 Z25 O25 J0 SF23.1 SF23.2.1 SF23.2.2.1 SF23.2.2.2.1 ixB.1.1 ixB.1.2 ixB.2 (by decide) (by decide)) hZ23 (hw _ (mW 227 rfl)) (hw _ (mW 6 rfl)) (by decide) (by decide)) q52a q52c (g := (mkF m 169 #[iv p1, iv p2, iv p3, iv p4, iv lw, iv lp, iv lq, rv sW, rv sP, rv sQ, rv b15, rv rA, rv mA, rv m0] [(.int ((lw + lq) + (1 : Int32))), (.ref mA)])) rfl (hM rfl) (Steps.refl _) (argsL := [(.int ((lw + lq) + (1 : Int32)))]) (rest := []) (lenOf pd25 rfl) rfl (Nat.le_of_eq rfl) (B at_169) (fun _ _ => ⟨rfl, e47, wl rfl, wl rfl⟩)
  dsimp only [Pt.U, Pt.locs, Pt.cells, Pt.slots] at X52 l52 y52 z52 st52 hQ52
  subst l52 y52 z52
  obtain ⟨rfl, N52q, hq52⟩ := hQ52
  have N52 := Fr.app N47 N52q
  have pre53 : Go p e bl T52 (mkF m 172 #[iv p1, iv p2, iv p3, iv p4, iv lw, iv lp, iv lq, rv sW, rv sP, rv sQ, rv b15, rv rA, rv mA, rv m0] [(.int 32)]) s1 EF := fun t k => pre51 t (st52.trans k)
  have e52 : T52.heap = T23.heap := hq52
  have pre54 : Go p e bl T52 (mkF m 174 #[iv p1, iv p2, iv p3, iv p4, iv lw, iv lp, iv lq, rv sW, rv sP, rv sQ, rv b15, rv rA, rv mA, rv m0] [(.int 32), (.int 32)]) s1 EF := fun t k => pre53 t (by
   exact XS.bipush X52.here hx rfl (B at_172) k)
  have pre55 : Go p e bl T52 (mkF m 179 #[iv p1, iv p2, iv p3, iv p4, iv lw, iv lp, iv lq, rv sW, rv sP, rv sQ, rv b15, rv rA, rv mA, rv m0] []) s1 EF := fun t k => pre54 t (XS.icmpYes X52.here hx rfl (pc0 := 174) (pc' := 179) rfl (B at_174) rfl (teq (by decide : (32 : Int32) = (32 : Int32))).1 (by decide) (by decide) k)
  have pre56 : Go p e bl T52 (mkF m 190 #[iv p1, iv p2, iv p3, iv p4, iv lw, iv lp, iv lq, rv sW, rv sP, rv sQ, rv b15, rv rA, rv mA, rv m0] [(.ref sP), (.int ((lw + lq) + (2 : Int32))), (.ref mA)]) s1 EF := fun t k => pre55 t (by
   refine XS.aload X52.here hx rfl (B at_179) rfl rfl ?_
   refine XS.iload X52.here hx rfl (B at_181) rfl ?_
   refine XS.iload X52.here hx rfl (B at_183) rfl ?_
   refine XS.iadd X52.here hx rfl (B at_185) rfl ?_
   refine XS.iconst X52.here hx rfl (B at_186) ?_
   refine XS.iadd X52.here hx rfl (B at_187) rfl ?_
   exact XS.aload X52.here hx rfl (B at_188) rfl rfl k)
  obtain ⟨_, _, ⟨T57, L57, k57, n57⟩, -, X57, ⟨Lc57, hQ57, l57, y57, z57⟩, st57⟩ := Jvm.LawKit.callS X52 hx (y := mN37) hown23 (mvT hZ23 (hw _ (mW 220 rfl))) (mvT hZ23 (hw _ (mW 221 rfl))) (mvT hZ23 (hw _ (mW 2 rfl))) (mvT hZ23 (hw _ (mW 222 rfl))) (by decide) (backOf (W := 0) (rmAt l Z a0 hw [] mA ((lw + lq) + (2 : Int32)) sP cz fv mB mK mN (bsW ++ (([] ++ bsQ ++ [(58 : Int32), 32]) ++ bsP)) bP kP lp bsP ((bsW ++ bsQ) ++ [(58 : Int32), 32]) [] T23.heap n0 Z25 O25 J0 SF23 ((((SF7.keep K11 nin0 nin0).ext Et15).keep K19 (ninS ne_sP_b15 nin0) (ninS ne_bP_b15 nin0)).keep K23 nin0 nin0) gnM gnP g3P gpP (by simp) (by (try simp only [List.length_append, List.length_nil, List.length_cons]) <;> omega)) hZ23 (hw _ (mW 222 rfl)) (hw _ (mW 2 rfl)) (by decide) (by decide)) (g := (mkF m 190 #[iv p1, iv p2, iv p3, iv p4, iv lw, iv lp, iv lq, rv sW, rv sP, rv sQ, rv b15, rv rA, rv mA, rv m0] [(.ref sP), (.int ((lw + lq) + (2 : Int32))), (.ref mA)])) rfl (hM rfl) (argsL := [(.ref mA), (.int ((lw + lq) + (2 : Int32))), (.ref sP)]) (rest := []) (lenOf pd28 rfl) rfl (Nat.le_of_eq rfl) (B at_190) (fun _ _ => ⟨rfl, e52, wl rfl, wl rfl⟩)
  dsimp only [Pt.U, Pt.locs, Pt.cells, Pt.slots] at X57 l57 y57 z57 st57 hQ57
  subst l57 y57 z57
  obtain ⟨rfl, N57q, hq57⟩ := hQ57
  have N57 := Fr.app N52 N57q
  have pre58 : Go p e bl T57 (mkF m 193 #[iv p1, iv p2, iv p3, iv p4, iv lw, iv lp, iv lq, rv sW, rv sP, rv sQ, rv b15, rv rA, rv mA, rv m0] [(.int 1)]) s1 EF := fun t k => pre56 t (st57 t k)
  have e57 : T57.heap = T23.heap := hq57
  have pre59 : Go p e bl T57 (mkF m 198 #[iv p1, iv p2, iv p3, iv p4, iv lw, iv lp, iv lq, rv sW, rv sP, rv sQ, rv b15, rv rA, rv mA, rv m0] []) s1 EF := fun t k => pre58 t (XS.ifYes X57.here hx rfl (pc0 := 193) (pc' := 198) rfl (B at_193) rfl ((if0 _ _).trans (feq (by decide : ¬ ((1 : Int32) = (0 : Int32)))).2) (by decide) (by decide) k)
  have pre60 : Go p e bl T57 (mkF m 200 #[iv p1, iv p2, iv p3, iv p4, iv lw, iv lp, iv lq, rv sW, rv sP, rv sQ, rv b15, rv rA, rv mA, rv m0] [(.ref m0)]) s1 EF := fun t k => pre59 t (by
   exact XS.aload X57.here hx rfl (B at_198) rfl rfl k)
  obtain ⟨cq61, kq61, q61a, q61b, q61c⟩ := isOf hZ23 e57 (SF19.1.keep K23)
  obtain ⟨_, _, ⟨T61, L61, k61, n61⟩, -, X61, ⟨Lc61, hQ61, l61, y61, z61⟩, st61⟩ := X57.virtualBack hx (y := mN1) (z := mN1) hown23 (mvT hZ23 (hw _ (mW 219 rfl))) (mvT hZ23 (hw _ (mW 72 rfl))) (notFace_of_selects (args := #[]) (mvT hZ23 (hw _ (mW 74 rfl)))) (mvT hZ23 (hw _ (mW 74 rfl))) (mvT hZ23 (hw _ (mW 73 rfl))) (by decide) (backOf (W := 0) (rmJle l Z a0 hw [] m0 cz fv (0 : Int32) m0B mk19 nm19 (BV (bsW ++ bsP)) nm19 T23.heap n0 Z25 O25 J0 (SF19.keep K23 nin0 nin0).1 (SF19.keep K23 nin0 nin0).2.1 (SF19.keep K23 nin0 nin0).2.2.1 (SF19.keep K23 nin0 nin0).2.2.2.1 rfl (own_shr0 rfl)) hZ23 (hw _ (mW 75 rfl)) (hw _ (mW 6 rfl)) (by decide) (by decide)) q61a q61c (g := (mkF m 200 #[iv p1, iv p2, iv p3, iv p4, iv lw, iv lp, iv lq, rv sW, rv sP, rv sQ, rv b15, rv rA, rv mA, rv m0] [(.ref m0)])) rfl (hM rfl) (Steps.refl _) (argsL := []) (rest := []) (lenOf pd8 rfl) rfl (Nat.le_of_eq rfl) (B at_200) (fun _ _ => ⟨rfl, e57, wl rfl, wl rfl⟩)
  dsimp only [Pt.U, Pt.locs, Pt.cells, Pt.slots] at X61 l61 y61 z61 st61 hQ61
  subst l61 y61 z61
  obtain ⟨rfl, N61q, hq61⟩ := hQ61
  have N61 := Fr.app N57 N61q
  have pre62 : Go p e bl T61 (mkF m 203 #[iv p1, iv p2, iv p3, iv p4, iv lw, iv lp, iv lq, rv sW, rv sP, rv sQ, rv b15, rv rA, rv mA, rv m0] [(.int nm19)]) s1 EF := fun t k => pre60 t (st61.trans k)
  have e61 : T61.heap = T23.heap := hq61
  have pre63 : Go p e bl T61 (mkF m 208 #[iv p1, iv p2, iv p3, iv p4, iv lw, iv lp, iv lq, rv sW, rv sP, rv sQ, rv b15, rv rA, rv mA, rv m0] [(.int (lw + lp)), (.int nm19)]) s1 EF := fun t k => pre62 t (by
   refine XS.iload X61.here hx rfl (B at_203) rfl ?_
   refine XS.iload X61.here hx rfl (B at_205) rfl ?_
   exact XS.iadd X61.here hx rfl (B at_207) rfl k)
  have pre64 : Go p e bl T61 (mkF m 213 #[iv p1, iv p2, iv p3, iv p4, iv lw, iv lp, iv lq, rv sW, rv sP, rv sQ, rv b15, rv rA, rv mA, rv m0] []) s1 EF := fun t k => pre63 t (XS.icmpYes X61.here hx rfl (pc0 := 208) (pc' := 213) rfl (B at_208) rfl (teq hL2).1 (by decide) (by decide) k)
  have pre65 : Go p e bl T61 (mkF m 218 #[iv p1, iv p2, iv p3, iv p4, iv lw, iv lp, iv lq, rv sW, rv sP, rv sQ, rv b15, rv rA, rv mA, rv m0] [(.ref sW), (.int 0), (.ref m0)]) s1 EF := fun t k => pre64 t (by
   refine XS.aload X61.here hx rfl (B at_213) rfl rfl ?_
   refine XS.iconst X61.here hx rfl (B at_215) ?_
   exact XS.aload X61.here hx rfl (B at_216) rfl rfl k)
  obtain ⟨_, _, ⟨T66, L66, k66, n66⟩, -, X66, ⟨Lc66, hQ66, l66, y66, z66⟩, st66⟩ := Jvm.LawKit.callS X61 hx (y := mN37) hown23 (mvT hZ23 (hw _ (mW 220 rfl))) (mvT hZ23 (hw _ (mW 221 rfl))) (mvT hZ23 (hw _ (mW 2 rfl))) (mvT hZ23 (hw _ (mW 222 rfl))) (by decide) (backOf (W := 0) (rmAt l Z a0 hw [] m0 (0 : Int32) sW cz fv m0B mk19 nm19 (bsW ++ bsP) bW kW lw bsW [] bsP T23.heap n0 Z25 O25 J0 (SF19.keep K23 nin0 nin0) (((((SF3.keep K7 nin0 nin0).keep K11 nin0 nin0).ext Et15).keep K19 (ninS ne_sW_b15 nin0) (ninS ne_bW_b15 nin0)).keep K23 nin0 nin0) gl19 gnW g3W rfl rfl (by (try simp only [List.length_append, List.length_nil, List.length_cons]) <;> omega)) hZ23 (hw _ (mW 222 rfl)) (hw _ (mW 2 rfl)) (by decide) (by decide)) (g := (mkF m 218 #[iv p1, iv p2, iv p3, iv p4, iv lw, iv lp, iv lq, rv sW, rv sP, rv sQ, rv b15, rv rA, rv mA, rv m0] [(.ref sW), (.int 0), (.ref m0)])) rfl (hM rfl) (argsL := [(.ref m0), (.int 0), (.ref sW)]) (rest := []) (lenOf pd28 rfl) rfl (Nat.le_of_eq rfl) (B at_218) (fun _ _ => ⟨rfl, e61, wl rfl, wl rfl⟩)
  dsimp only [Pt.U, Pt.locs, Pt.cells, Pt.slots] at X66 l66 y66 z66 st66 hQ66
  subst l66 y66 z66
  obtain ⟨rfl, N66q, hq66⟩ := hQ66
  have N66 := Fr.app N61 N66q
  have pre67 : Go p e bl T66 (mkF m 221 #[iv p1, iv p2, iv p3, iv p4, iv lw, iv lp, iv lq, rv sW, rv sP, rv sQ, rv b15, rv rA, rv mA, rv m0] [(.int 1)]) s1 EF := fun t k => pre65 t (st66 t k)
  have e66 : T66.heap = T23.heap := hq66
  have pre68 : Go p e bl T66 (mkF m 224 #[iv p1, iv p2, iv p3, iv p4, iv lw, iv lp, iv lq, rv sW, rv sP, rv sQ, rv b15, rv rA, rv mA, rv m0] []) s1 EF := fun t k => pre67 t (XS.ifNo X66.here hx rfl (B at_221) rfl ((if0 _ _).trans (feq (by decide : ¬ ((1 : Int32) = (0 : Int32)))).1) k)
  have pre69 : Go p e bl T66 (mkF m 230 #[iv p1, iv p2, iv p3, iv p4, iv lw, iv lp, iv lq, rv sW, rv sP, rv sQ, rv b15, rv rA, rv mA, rv m0] [(.ref sP), (.int lw), (.ref m0)]) s1 EF := fun t k => pre68 t (by
   refine XS.aload X66.here hx rfl (B at_224) rfl rfl ?_
   refine XS.iload X66.here hx rfl (B at_226) rfl ?_
   exact XS.aload X66.here hx rfl (B at_228) rfl rfl k)
  obtain ⟨_, _, ⟨T70, L70, k70, n70⟩, -, X70, ⟨Lc70, hQ70, l70, y70, z70⟩, st70⟩ := Jvm.LawKit.callS X66 hx (y := mN37) hown23 (mvT hZ23 (hw _ (mW 220 rfl))) (mvT hZ23 (hw _ (mW 221 rfl))) (mvT hZ23 (hw _ (mW 2 rfl))) (mvT hZ23 (hw _ (mW 222 rfl))) (by decide) (backOf (W := 0) (rmAt l Z a0 hw [] m0 lw sP cz fv m0B mk19 nm19 (bsW ++ bsP) bP kP lp bsP bsW [] T23.heap n0 Z25 O25 J0 (SF19.keep K23 nin0 nin0) ((((SF7.keep K11 nin0 nin0).ext Et15).keep K19 (ninS ne_sP_b15 nin0) (ninS ne_bP_b15 nin0)).keep K23 nin0 nin0) gl19 gnP g3P gnW (by simp) (by (try simp only [List.length_append, List.length_nil, List.length_cons]) <;> omega)) hZ23 (hw _ (mW 222 rfl)) (hw _ (mW 2 rfl)) (by decide) (by decide)) (g := (mkF m 230 #[iv p1, iv p2, iv p3, iv p4, iv lw, iv lp, iv lq, rv sW, rv sP, rv sQ, rv b15, rv rA, rv mA, rv m0] [(.ref sP), (.int lw), (.ref m0)])) rfl (hM rfl) (argsL := [(.ref m0), (.int lw), (.ref sP)]) (rest := []) (lenOf pd28 rfl) rfl (Nat.le_of_eq rfl) (B at_230) (fun _ _ => ⟨rfl, e66, wl rfl, wl rfl⟩)
  dsimp only [Pt.U, Pt.locs, Pt.cells, Pt.slots] at X70 l70 y70 z70 st70 hQ70
  subst l70 y70 z70
  obtain ⟨rfl, N70q, hq70⟩ := hQ70
  have N70 := Fr.app N66 N70q
  have pre71 : Go p e bl T70 (mkF m 233 #[iv p1, iv p2, iv p3, iv p4, iv lw, iv lp, iv lq, rv sW, rv sP, rv sQ, rv b15, rv rA, rv mA, rv m0] [(.int 1)]) s1 EF := fun t k => pre69 t (st70 t k)
  have e70 : T70.heap = T23.heap := hq70
  have pre72 : Go p e bl T70 (mkF m 236 #[iv p1, iv p2, iv p3, iv p4, iv lw, iv lp, iv lq, rv sW, rv sP, rv sQ, rv b15, rv rA, rv mA, rv m0] []) s1 EF := fun t k => pre71 t (XS.ifNo X70.here hx rfl (B at_233) rfl ((if0 _ _).trans (feq (by decide : ¬ ((1 : Int32) = (0 : Int32)))).1) k)
  have pre73 : Go p e bl T70 (mkF m 241 #[iv p1, iv p2, iv p3, iv p4, iv lw, iv lp, iv lq, rv sW, rv sP, rv sQ, rv b15, rv rA, rv mA, rv m0] [(.int 1)]) s1 EF := fun t k => pre72 t (by
   refine XS.iconst X70.here hx rfl (B at_236) ?_
   exact XS.goto X70.here hx rfl (pc0 := 237) (pc' := 241) rfl (B at_237) (by decide) (by decide) k)
  have hnr : Value.int (nar .boolean (1 : Int32)) = (.int 1) := by rfl
  obtain ⟨fs, hr, hrun, hended, hend1, hend2, hend3, hsame⟩ := X70.leaveW hS23 (by rw [e70]; exact hk23) (v := some (.int 1)) (fun h => by rw [Bd.returns] at h; cases h)
  have hCH : CHr Z [("com/example/picketline/picketline/io/InputException", 29), ("java/lang/String", 7)] s.vm s.heap T70.vm T70.heap := by rw [hh, e70]; exact R23.trans (CHv.at X70 hZ23 (own_EW hw) hCH23.1)
  refine ⟨_, _, hEF ▸ pre73 _ (retN X70 hx (t := .boolean) Bd.returns (by simp) (B at_241) (hnr ▸ hr)), hrun, hended, _, _, rfl, ?_, hCH, hend1, hend2, hend3, hsame.mono (by decide) (by decide)⟩
  show QL Z p1 p2 p3 p4 cz fv u0 u1 h0 n0 _ T70.heap _
  rw [e70]
  exact ⟨rfl, N70⟩
theorem own_held {s : State} {tb : Tables} {e : Env} {args : Array Value} (h : call_1_3 tb e args s) : ∀ p ∈ [("com/example/picketline/picketline/io/InputException", 29), ("java/lang/String", 7)], Jvm.Lit.constHeld s p.1 p.2 := h
theorem own_tr {l : Launch} (h : l.flags = flags0) : l.stackTraces = true := by unfold Launch.stackTraces; rw [h]; decide
set_option maxRecDepth 65536 in
set_option maxHeartbeats 40000000 in
theorem comes_1 {Post : Tables → Env → Array Value → State → Outcome → State → Prop} (hpost : ∀ tb e args s v u, (limb_1_1.after args s (.returned v) u = true ∧ limb_1_2.after args s (.returned v) u = true ∧ True) → ReturnedEndW s (.returned v) u (Jvm.fieldLocs frame_1_writes args s ++ Jvm.arrayLocs frame_1_arrays args s ++ Jvm.staticLocs frame_1_statics s) 64 13440 → Post tb e args s (.returned v) u) :
    ArmFor flags0 classFile x code maxLocals ret World_1 tables_1 room_1 Calls_1 rest_1 Pre_1 Post := by
  intro l hfl _ _ p e ha hc hk s m args below hf hA hF happ hP
  obtain ⟨hcalls, hrest, hpre⟩ := hP
  obtain ⟨-, -, -, hnamed, -, -, -, hat⟩ := (Spec.applies_iff hf).mp happ
  obtain ⟨hg, hn⟩ := and_e (Cond.before_iff.mp (show (Jvm.Cond.and given_1 narrow_1).before args s = true from hpre))
  obtain ⟨hg0, hgr0⟩ := and_e hg
  obtain ⟨hg1, hgr1⟩ := and_e hgr0
  obtain ⟨hg2, hgr2⟩ := and_e hgr1
  obtain ⟨hg3, hg4⟩ := and_e hgr2
  obtain ⟨w0, w1, w2, w3, rfl⟩ : ∃ w0 w1 w2 w3 : Value, args = #[w0, w1, w2, w3] := by
    have hs : args.size = 4 := by simpa [Cond.value, given_1] using hg0
    obtain ⟨L⟩ := args
    match L, hs with
    | [w0, w1, w2, w3], _ => exact ⟨w0, w1, w2, w3, rfl⟩
  have hw := fun d (hd : d ∈ tables_1) => atoms_spec (ws := Jvm.Cond.code x code maxLocals ret :: tables_1) hat d (List.mem_cons_of_mem _ hd)
  have hfit : Fit s := fun {y c} hc i hi => by
    obtain ⟨ha, rfl⟩ := Array.getElem?_eq_some_iff.mp hc
    have q := List.all_eq_true.mp ((Array.all_eq_true_iff_forall_mem.mp hF) _ (Array.getElem_mem ha)) i (List.mem_range.mpr hi)
    simpa [Array.getElem?_eq_getElem hi] using q
  obtain ⟨hsets, hown0⟩ := atoms_of _ (rest_1_c_eq ▸ (show rest_1_c.before _ s = true from hrest))
  have hr0 := Cond.before_iff.mp hown0
  obtain ⟨x0, ei0⟩ := is_v hg1
  obtain rfl : w0 = (.int x0) := Option.some.inj ei0
  obtain ⟨x1, ei1⟩ := is_v hg2
  obtain rfl : w1 = (.int x1) := Option.some.inj ei1
  obtain ⟨x2, ei2⟩ := is_v hg3
  obtain rfl : w2 = (.int x2) := Option.some.inj ei2
  obtain ⟨x3, ei3⟩ := is_v hg4
  obtain rfl : w3 = (.int x3) := Option.some.inj ei3
  obtain ⟨cz, ecz⟩ := is_v (Cond.before_iff.mp (hsets _ (mJ 1 rfl)))
  have hcz : cz ≠ 0 := gotF (Cond.eq_ints ecz (Term.int_eval 0)) (not_v (Cond.before_iff.mp (hsets _ (mJ 2 rfl))))
  have SC : Sta s s.heap "java/lang/String" "COMPACT_STRINGS" "Z" (.int cz) := Sta.start ecz (Or.inl (hsets _ (mJ 0 rfl)))
  obtain ⟨fv, efv, hfv⟩ := isR_v (Cond.before_iff.mp (hsets _ (mJ 8 rfl)))
  have SF : Sta s s.heap "jdk/internal/util/Preconditions" "SIOOBE_FORMATTER" "Ljava/util/function/BiFunction;" fv := Sta.start efv (Or.inl (hsets _ (mJ 7 rfl)))
  have J0 : Jd s cz fv := ⟨SC, hcz, ⟨hfv, SF⟩, trivial⟩
  have hC : CHv s [("com/example/picketline/picketline/io/InputException", 29), ("java/lang/String", 7)] s.vm s.heap := CHv.start (own_EW hw) (own_held hcalls.2.2.1) (hsets _ (mJ 2 rfl)) (hw _ (mW 23 rfl)) (hw _ (mW 5 rfl))
  obtain ⟨v0, ev0, hv0⟩ := isR_v (Cond.before_iff.mp (hsets _ (mJ 16 rfl)))
  have SU0 : Sta s s.heap "java/lang/Throwable" "UNASSIGNED_STACK" "[Ljava/lang/StackTraceElement;" v0 := Sta.start ev0 (Or.inl (hsets _ (mJ 15 rfl)))
  obtain ⟨v1, ev1, hv1⟩ := isR_v (Cond.before_iff.mp (hsets _ (mJ 21 rfl)))
  have SU1 : Sta s s.heap "java/lang/Throwable" "SUPPRESSED_SENTINEL" "Ljava/util/List;" v1 := Sta.start ev1 (Or.inl (hsets _ (mJ 20 rfl)))
  obtain ⟨n, o, h1, h2, h3, _, L, rfl, ⟨rfl, N⟩, -, hq⟩ := rmL l s _ hw tables_1 x0 x1 x2 x3 cz fv ⟨v0, hv0⟩ ⟨v1, hv1⟩ s.heap s.heap.size (Nat.le_refl _) (Old.start s) J0 ThS.start SU0 SU1 (own_tr hfl) p e ha hc hk s m _ below hf ((Spec.applies_iff_loose hf).mp happ).1 ⟨rfl, State.Warmed39.refl s, rfl, hC⟩ ⟨MethodsKnown_of_tablesKnown hcalls.2.1, FramesKnown_of_framesKnown hcalls.1 hf⟩
  refine ⟨n, _, h1, h2, h3, hpost _ _ _ _ _ _ ⟨Cond.after_iff.mpr rfl, Cond.after_iff.mpr (eq_i res_at (Term.int_eval (1)) rfl), trivial⟩ ⟨hq.1, hq.2.1, hq.2.2.1, (hq.2.2.2.sift fun y hy => Or.inr (N y hy)).mono (by decide) (by decide)⟩⟩
theorem main_1_1 : Claimed_1_1 := comes_1 fun _ _ _ _ _ _ h hF => ⟨h.1, hF.1, hF.2.1, hF.2.2.1, hF.2.2.2⟩
theorem main_1_2 : Claimed_1_2 := comes_1 fun _ _ _ _ _ _ h hF => ⟨h.2.1, hF.1, hF.2.1, hF.2.2.1, hF.2.2.2⟩
end Jvm.Pilot.@@N@@
namespace Jvm.Pilot.@@N@@
open Jvm Jvm.ClassFile Sem Op Lib Jvm.Free Jvm.Stand Jvm.Pilot.@@N@@.Jvm.D
/-! MADE BY PROGRAM (witnessworld.py) out of the Statement's table words and the real class files: 39 classes; the members and pool entries that the words name. The judged class is class 1, her method 3. -/
namespace start1
open Jvm.ClassFile
def u (s : String) : CpInfo := .utf8 (stringToUtf16 s)
/-- a pool by its gaps: so many unusable entries, then the entry; so many at the end -/
def gap : Nat → List CpInfo → List CpInfo
  | 0, r => r
  | n + 1, r => .unusable :: gap n r
def poolList (es : List (Nat × CpInfo)) (last : Nat) : List CpInfo := es.foldr (fun e r => gap e.1 (e.2 :: r)) (gap last [])
def pool (es : List (Nat × CpInfo)) (last : Nat) : Array CpInfo := ⟨poolList es last⟩
def fileOf (pool : Array CpInfo) (this : Nat) (attrs : Array Attribute := #[]) (ms : Array MethodInfo := #[]) (fl : Nat := 33) (sup : Nat := 0) (ifs : Array Nat := #[]) (fds : Array FieldInfo := #[]) : ClassFile where
  minorVersion := 0
  majorVersion := 65
  constantPool := pool
  accessFlags := fl
  thisClass := this
  superClass := sup
  interfaces := ifs
  fields := fds
  methods := ms
  attributes := attrs
def plain (name : String) (sup : Option ClassId) : Class where
  name := name
  kind := .ordinary
  loader := none
  accessFlags := 33
  super := sup
  interfaces := #[]
  cf := none
  fields := #[]
  methods := #[]
  instanceTypes := #[]
  staticTypes := #[]
  resolved := #[]
  callSites := []
  init := .initialized
  statics := none
  mirror := none

def pool0 : Array CpInfo := pool [(5, u "<init>"), (0, u "()V"), (1, .class_ 10), (1, u "java/lang/Object")] 113

def k0c0 : Code := { maxStack := 0, maxLocals := 1, code := object_method_1_code, exceptionTable := #[], attributes := #[] }
def k0m0 : Method := { name := "<init>", desc := "()V", sig := { parameters := [], returnType := none }, accessFlags := 1, code := some k0c0 }
/-- java/lang/Object -/
def k0 : Class := { plain "java/lang/Object" none with
  accessFlags := 33
  interfaces := #[]
  cf := some (fileOf pool0 8 #[] #[{ accessFlags := 1, nameIndex := 5, descriptorIndex := 6, attributes := #[] }] 33 0 #[] #[])
  fields := #[]
  methods := #[k0m0]
  instanceTypes := #[]
  staticTypes := #[]
  resolved := Array.replicate 124 none
  statics := none }

def pool1 : Array CpInfo := pool [(2, .class_ 4), (1, u "java/lang/Object"), (0, u "<init>"), (0, u "()V"), (0, .class_ 8), (0, u "java/lang/String"), (0, .methodref 7 10), (0, .nameAndType 5 11), (0, u "([C)V"), (0, .methodref 7 13), (0, .nameAndType 14 15), (0, u "length"), (0, u "()I"), (0, .methodref 7 17), (0, .nameAndType 18 19), (0, u "charAt"), (0, u "(I)C"), (0, .methodref 21 22), (0, .class_ 23), (0, .nameAndType 24 25), (0, u "com/example/picketline/picketline/io/InputExceptionWithinPinLaw"), (0, u "mk"), (0, u "(II)Ljava/lang/String;"), (0, .class_ 27), (0, u "com/example/picketline/picketline/io/InputException"), (0, .methodref 26 29), (0, .nameAndType 5 30), (0, u "(Ljava/lang/String;Ljava/lang/String;)V"), (0, .methodref 26 32), (0, .nameAndType 33 34), (0, u "within"), (0, u "(Ljava/lang/String;)Lcom/example/picketline/picketline/io/InputException;"), (0, .methodref 26 36), (0, .nameAndType 37 38), (0, u "getMessage"), (0, u "()Ljava/lang/String;"), (0, .methodref 21 40), (0, .nameAndType 41 42), (0, u "at"), (0, u "(Ljava/lang/String;ILjava/lang/String;)Z"), (3, u "law"), (0, u "(IIII)Z")] 2

def k1m0 : Method := { name := "<init>", desc := "()V", sig := { parameters := [], returnType := none }, accessFlags := 2, code := none }
def k1c1 : Code := { maxStack := 6, maxLocals := 5, code := method_2_code, exceptionTable := #[], attributes := #[] }
def k1m1 : Method := { name := "mk", desc := "(II)Ljava/lang/String;", sig := { parameters := [.int, .int], returnType := some (.object "java/lang/String") }, accessFlags := 10, code := some k1c1 }
def k1c2 : Code := { maxStack := 3, maxLocals := 3, code := method_3_code, exceptionTable := #[], attributes := #[] }
def k1m2 : Method := { name := "at", desc := "(Ljava/lang/String;ILjava/lang/String;)Z", sig := { parameters := [(.object "java/lang/String"), .int, (.object "java/lang/String")], returnType := some .boolean }, accessFlags := 10, code := some k1c2 }
def k1c3 : Code := { maxStack := 4, maxLocals := 14, code := code, exceptionTable := #[], attributes := #[] }
def k1m3 : Method := { name := "law", desc := "(IIII)Z", sig := { parameters := [.int, .int, .int, .int], returnType := some .boolean }, accessFlags := 9, code := some k1c3 }
/-- com/example/picketline/picketline/io/InputExceptionWithinPinLaw -/
def k1 : Class := { plain "com/example/picketline/picketline/io/InputExceptionWithinPinLaw" (some 0) with
  accessFlags := 49
  interfaces := #[]
  cf := some (fileOf pool1 21 #[] #[{ accessFlags := 2, nameIndex := 5, descriptorIndex := 6, attributes := #[] }, { accessFlags := 10, nameIndex := 24, descriptorIndex := 25, attributes := #[] }, { accessFlags := 10, nameIndex := 41, descriptorIndex := 42, attributes := #[] }, { accessFlags := 9, nameIndex := 46, descriptorIndex := 47, attributes := #[] }] 49 2 #[] #[])
  fields := #[]
  methods := #[k1m0, k1m1, k1m2, k1m3]
  instanceTypes := #[]
  staticTypes := #[]
  resolved := Array.replicate 50 none
  statics := none }

def pool2 : Array CpInfo := pool [(1, .class_ 2), (0, u "java/io/Serializable"), (0, .class_ 4), (0, u "java/lang/Object")] 2

/-- java/io/Serializable -/
def k2 : Class := { plain "java/io/Serializable" (some 0) with
  accessFlags := 1537
  interfaces := #[]
  cf := some (fileOf pool2 1 #[] #[] 1537 3 #[] #[])
  fields := #[]
  methods := #[]
  instanceTypes := #[]
  staticTypes := #[]
  resolved := Array.replicate 7 none
  statics := none }

def pool3 : Array CpInfo := pool [(1, .class_ 2), (0, u "java/lang/Comparable"), (0, .class_ 4), (0, u "java/lang/Object")] 7

/-- java/lang/Comparable -/
def k3 : Class := { plain "java/lang/Comparable" (some 0) with
  accessFlags := 1537
  interfaces := #[]
  cf := some (fileOf pool3 1 #[] #[] 1537 3 #[] #[])
  fields := #[]
  methods := #[]
  instanceTypes := #[]
  staticTypes := #[]
  resolved := Array.replicate 12 none
  statics := none }

def pool4 : Array CpInfo := pool [(2, .class_ 4), (1, u "java/lang/CharSequence"), (42, .class_ 48), (0, u "java/lang/CharSequence$1CodePointIterator"), (10, .class_ 60), (0, u "java/lang/CharSequence$1CharIterator"), (5, .class_ 67), (0, u "java/lang/Object")] 63

/-- java/lang/CharSequence -/
def k4 : Class := { plain "java/lang/CharSequence" (some 0) with
  accessFlags := 1537
  interfaces := #[]
  cf := some (fileOf pool4 2 #[.nestMembers #[47, 59]] #[] 1537 66 #[] #[])
  fields := #[]
  methods := #[]
  instanceTypes := #[]
  staticTypes := #[]
  resolved := Array.replicate 131 none
  statics := none }

def pool5 : Array CpInfo := pool [(1, .class_ 2), (0, u "java/lang/constant/Constable"), (0, .class_ 4), (0, u "java/lang/Object")] 6

/-- java/lang/constant/Constable -/
def k5 : Class := { plain "java/lang/constant/Constable" (some 0) with
  accessFlags := 1537
  interfaces := #[]
  cf := some (fileOf pool5 1 #[] #[] 1537 3 #[] #[])
  fields := #[]
  methods := #[]
  instanceTypes := #[]
  staticTypes := #[]
  resolved := Array.replicate 11 none
  statics := none }

def pool6 : Array CpInfo := pool [(1, .class_ 2), (0, u "java/lang/constant/ConstantDesc"), (0, .class_ 4), (0, u "java/lang/Object")] 32

/-- java/lang/constant/ConstantDesc -/
def k6 : Class := { plain "java/lang/constant/ConstantDesc" (some 0) with
  accessFlags := 1537
  interfaces := #[]
  cf := some (fileOf pool6 1 #[] #[] 1537 3 #[] #[])
  fields := #[]
  methods := #[]
  instanceTypes := #[]
  staticTypes := #[]
  resolved := Array.replicate 37 none
  statics := none }

def pool7 : Array CpInfo := pool [(1, .methodref 2 3), (0, .class_ 4), (0, .nameAndType 5 6), (0, u "java/lang/Object"), (0, u "<init>"), (0, u "()V"), (0, .string 8), (0, u ""), (0, .fieldref 10 11), (0, .class_ 12), (0, .nameAndType 13 14), (0, u "java/lang/String"), (0, u "value"), (0, u "[B"), (0, .fieldref 10 16), (0, .nameAndType 17 18), (0, u "coder"), (0, u "B"), (2, u "hash"), (0, u "I"), (2, u "hashIsZero"), (0, u "Z"), (0, .methodref 10 28), (0, .nameAndType 5 29), (0, u "([CIILjava/lang/Void;)V"), (8, .fieldref 10 39), (0, .nameAndType 40 26), (0, u "COMPACT_STRINGS"), (1, .class_ 44), (1, u "java/lang/StringUTF16"), (0, u "compress"), (1, .methodref 42 48), (0, .nameAndType 49 50), (0, u "coderFromArrayLen"), (0, u "([BI)B"), (3, .methodref 55 56), (0, .class_ 57), (0, .nameAndType 58 59), (0, u "java/util/Arrays"), (0, u "copyOfRange"), (0, u "([BII)[B"), (47, .class_ 109), (1, u "java/lang/StringLatin1"), (32, u "()Z"), (34, .methodref 42 178), (0, .nameAndType 45 179), (0, u "([CII)[B"), (13, .class_ 195), (1, u "java/lang/System"), (16, .methodref 193 213), (0, .nameAndType 214 215), (0, u "arraycopy"), (0, u "(Ljava/lang/Object;ILjava/lang/Object;II)V"), (118, u "()I"), (0, .methodref 10 336), (0, .nameAndType 17 337), (0, u "()B"), (2, u "()[B"), (22, u "([BI)C"), (27, u "(II)V"), (35, u "(I)C"), (61, .methodref 10 490), (0, .nameAndType 5 491), (0, u "(Ljava/lang/AbstractStringBuilder;Ljava/lang/Void;)V"), (0, .methodref 10 493), (0, .nameAndType 494 142), (0, u "isLatin1"), (0, .methodref 107 496), (0, .nameAndType 497 363), (0, u "charAt"), (3, u "checkIndex"), (4, .nameAndType 507 334), (0, u "length"), (24, u "getBytes"), (16, .methodref 550 506), (0, .class_ 551), (0, u "java/lang/AbstractStringBuilder"), (0, .methodref 550 553), (0, .nameAndType 554 340), (0, u "getValue"), (20, .class_ 576), (0, u "java/lang/CharSequence"), (22, u "CASE_INSENSITIVE_ORDER"), (0, u "Ljava/util/Comparator;"), (220, u "([BIB)V"), (188, u "([C)V"), (36, .methodref 550 493), (5, .fieldref 1054 1055), (0, .class_ 1056), (0, .nameAndType 1057 1058), (0, u "jdk/internal/util/Preconditions"), (0, u "SIOOBE_FORMATTER"), (0, u "Ljava/util/function/BiFunction;"), (0, .methodref 1054 1060), (0, .nameAndType 501 1061), (0, u "(IILjava/util/function/BiFunction;)I"), (39, u "serialPersistentFields"), (0, u "[Ljava/io/ObjectStreamField;"), (0, .class_ 1104), (0, u "java/lang/String$CaseInsensitiveComparator"), (1, .class_ 1107), (0, u "java/io/Serializable"), (0, .class_ 1109), (0, u "java/lang/Comparable"), (0, .class_ 1111), (0, u "java/lang/constant/Constable"), (0, .class_ 1113), (0, u "java/lang/constant/ConstantDesc"), (2, u "serialVersionUID"), (0, u "J"), (3, u "REPL"), (0, u "C"), (2, u "LATIN1"), (1, u "UTF16"), (105, u "(Ljava/lang/StringBuilder;)V")] 217

def k7m0 : Method := { name := "<init>", desc := "()V", sig := { parameters := [], returnType := none }, accessFlags := 1, code := none }
def k7c1 : Code := { maxStack := 5, maxLocals := 2, code := jdk_42_method_3_code, exceptionTable := #[], attributes := #[] }
def k7m1 : Method := { name := "<init>", desc := "([C)V", sig := { parameters := [(.array .char)], returnType := none }, accessFlags := 1, code := some k7c1 }
def k7c2 : Code := { maxStack := 3, maxLocals := 2, code := jdk_42_method_53_code, exceptionTable := #[], attributes := #[] }
def k7m2 : Method := { name := "<init>", desc := "(Ljava/lang/StringBuilder;)V", sig := { parameters := [(.object "java/lang/StringBuilder")], returnType := none }, accessFlags := 1, code := some k7c2 }
def k7c3 : Code := { maxStack := 2, maxLocals := 1, code := jdk_42_method_54_code, exceptionTable := #[], attributes := #[] }
def k7m3 : Method := { name := "length", desc := "()I", sig := { parameters := [], returnType := some .int }, accessFlags := 1, code := some k7c3 }
def k7c4 : Code := { maxStack := 2, maxLocals := 2, code := jdk_42_method_56_code, exceptionTable := #[], attributes := #[] }
def k7m4 : Method := { name := "charAt", desc := "(I)C", sig := { parameters := [.int], returnType := some .char }, accessFlags := 1, code := some k7c4 }
def k7c5 : Code := { maxStack := 5, maxLocals := 4, code := jdk_42_method_147_code, exceptionTable := #[], attributes := #[] }
def k7m5 : Method := { name := "getBytes", desc := "([BIB)V", sig := { parameters := [(.array .byte), .int, .byte], returnType := none }, accessFlags := 0, code := some k7c5 }
def k7c6 : Code := { maxStack := 4, maxLocals := 6, code := jdk_42_method_149_code, exceptionTable := #[], attributes := #[] }
def k7m6 : Method := { name := "<init>", desc := "([CIILjava/lang/Void;)V", sig := { parameters := [(.array .char), .int, .int, (.object "java/lang/Void")], returnType := none }, accessFlags := 2, code := some k7c6 }
def k7c7 : Code := { maxStack := 5, maxLocals := 5, code := jdk_42_method_150_code, exceptionTable := #[], attributes := #[] }
def k7m7 : Method := { name := "<init>", desc := "(Ljava/lang/AbstractStringBuilder;Ljava/lang/Void;)V", sig := { parameters := [(.object "java/lang/AbstractStringBuilder"), (.object "java/lang/Void")], returnType := none }, accessFlags := 0, code := some k7c7 }
def k7c8 : Code := { maxStack := 1, maxLocals := 1, code := jdk_42_method_152_code, exceptionTable := #[], attributes := #[] }
def k7m8 : Method := { name := "coder", desc := "()B", sig := { parameters := [], returnType := some .byte }, accessFlags := 0, code := some k7c8 }
def k7c9 : Code := { maxStack := 1, maxLocals := 1, code := jdk_42_method_154_code, exceptionTable := #[], attributes := #[] }
def k7m9 : Method := { name := "isLatin1", desc := "()Z", sig := { parameters := [], returnType := some .boolean }, accessFlags := 0, code := some k7c9 }
def k7c10 : Code := { maxStack := 3, maxLocals := 2, code := jdk_42_method_155_code, exceptionTable := #[], attributes := #[] }
def k7m10 : Method := { name := "checkIndex", desc := "(II)V", sig := { parameters := [.int, .int], returnType := none }, accessFlags := 8, code := some k7c10 }
/-- java/lang/String -/
def k7 : Class := { plain "java/lang/String" (some 0) with
  accessFlags := 49
  interfaces := #[2, 3, 4, 5, 6]
  cf := some (fileOf pool7 10 #[.nestMembers #[1103]] #[{ accessFlags := 1, nameIndex := 5, descriptorIndex := 6, attributes := #[] }, { accessFlags := 1, nameIndex := 5, descriptorIndex := 1010, attributes := #[] }, { accessFlags := 1, nameIndex := 5, descriptorIndex := 1233, attributes := #[] }, { accessFlags := 1, nameIndex := 507, descriptorIndex := 334, attributes := #[] }, { accessFlags := 1, nameIndex := 497, descriptorIndex := 427, attributes := #[] }, { accessFlags := 0, nameIndex := 532, descriptorIndex := 821, attributes := #[] }, { accessFlags := 2, nameIndex := 5, descriptorIndex := 29, attributes := #[] }, { accessFlags := 0, nameIndex := 5, descriptorIndex := 491, attributes := #[] }, { accessFlags := 0, nameIndex := 17, descriptorIndex := 337, attributes := #[] }, { accessFlags := 0, nameIndex := 494, descriptorIndex := 142, attributes := #[] }, { accessFlags := 8, nameIndex := 501, descriptorIndex := 391, attributes := #[] }] 49 2 #[1106, 1108, 575, 1110, 1112] #[{ accessFlags := 18, nameIndex := 13, descriptorIndex := 14, attributes := #[] }, { accessFlags := 18, nameIndex := 17, descriptorIndex := 18, attributes := #[] }, { accessFlags := 2, nameIndex := 21, descriptorIndex := 22, attributes := #[] }, { accessFlags := 2, nameIndex := 25, descriptorIndex := 26, attributes := #[] }, { accessFlags := 26, nameIndex := 1116, descriptorIndex := 1117, attributes := #[] }, { accessFlags := 24, nameIndex := 40, descriptorIndex := 26, attributes := #[] }, { accessFlags := 26, nameIndex := 1101, descriptorIndex := 1102, attributes := #[] }, { accessFlags := 26, nameIndex := 1121, descriptorIndex := 1122, attributes := #[] }, { accessFlags := 25, nameIndex := 599, descriptorIndex := 600, attributes := #[] }, { accessFlags := 24, nameIndex := 1125, descriptorIndex := 18, attributes := #[] }, { accessFlags := 24, nameIndex := 1127, descriptorIndex := 18, attributes := #[] }])
  fields := #[{ name := "value", type := (.array .byte), accessFlags := 18, slot := 0, constantValue := 0 }, { name := "coder", type := .byte, accessFlags := 18, slot := 1, constantValue := 0 }, { name := "hash", type := .int, accessFlags := 2, slot := 2, constantValue := 0 }, { name := "hashIsZero", type := .boolean, accessFlags := 2, slot := 3, constantValue := 0 }, { name := "serialVersionUID", type := .long, accessFlags := 26, slot := 0, constantValue := 0 }, { name := "COMPACT_STRINGS", type := .boolean, accessFlags := 24, slot := 1, constantValue := 0 }, { name := "serialPersistentFields", type := (.array (.object "java/io/ObjectStreamField")), accessFlags := 26, slot := 2, constantValue := 0 }, { name := "REPL", type := .char, accessFlags := 26, slot := 3, constantValue := 0 }, { name := "CASE_INSENSITIVE_ORDER", type := (.object "java/util/Comparator"), accessFlags := 25, slot := 4, constantValue := 0 }, { name := "LATIN1", type := .byte, accessFlags := 24, slot := 5, constantValue := 0 }, { name := "UTF16", type := .byte, accessFlags := 24, slot := 6, constantValue := 0 }]
  methods := #[k7m0, k7m1, k7m2, k7m3, k7m4, k7m5, k7m6, k7m7, k7m8, k7m9, k7m10]
  instanceTypes := #[(.array .byte), .byte, .int, .boolean]
  staticTypes := #[.long, .boolean, (.array (.object "java/io/ObjectStreamField")), .char, (.object "java/util/Comparator"), .byte, .byte]
  resolved := Array.replicate 1451 none
  statics := some 0 }

def pool8 : Array CpInfo := pool [(6, .class_ 8), (1, u "java/lang/Object"), (0, u "<init>"), (0, u "()V"), (1, .class_ 14), (1, u "java/lang/StringUTF16"), (31, u "$assertionsDisabled"), (0, u "Z"), (13, u "HI_BYTE_SHIFT"), (0, u "I"), (2, u "LO_BYTE_SHIFT"), (49, .methodref 12 116), (0, .nameAndType 117 118), (0, u "compress"), (0, u "([CI[BII)I"), (3, u "([CII)[B"), (138, u "coderFromArrayLen"), (0, u "([BI)B"), (106, .class_ 371), (1, u "java/lang/StringUTF16$LinesSpliterator"), (58, u "MAX_LENGTH"), (196, .class_ 628), (0, u "java/lang/StringUTF16$CodePointsSpliterator"), (0, .class_ 630), (0, u "java/lang/StringUTF16$CharsSpliterator")] 4

def k8m0 : Method := { name := "<init>", desc := "()V", sig := { parameters := [], returnType := none }, accessFlags := 0, code := none }
def k8c1 : Code := { maxStack := 2, maxLocals := 2, code := jdk_52_method_15_code, exceptionTable := #[], attributes := #[] }
def k8m1 : Method := { name := "coderFromArrayLen", desc := "([BI)B", sig := { parameters := [(.array .byte), .int], returnType := some .byte }, accessFlags := 8, code := some k8c1 }
def k8c2 : Code := { maxStack := 5, maxLocals := 6, code := jdk_52_method_16_code, exceptionTable := #[], attributes := #[] }
def k8m2 : Method := { name := "compress", desc := "([CII)[B", sig := { parameters := [(.array .char), .int, .int], returnType := some (.array .byte) }, accessFlags := 9, code := some k8c2 }
def k8c3 : Code := { maxStack := 3, maxLocals := 7, code := jdk_52_method_21_code, exceptionTable := #[], attributes := #[] }
def k8m3 : Method := { name := "compress", desc := "([CI[BII)I", sig := { parameters := [(.array .char), .int, (.array .byte), .int, .int], returnType := some .int }, accessFlags := 9, code := some k8c3 }
/-- java/lang/StringUTF16 -/
def k8 : Class := { plain "java/lang/StringUTF16" (some 0) with
  accessFlags := 48
  interfaces := #[]
  cf := some (fileOf pool8 12 #[.nestMembers #[627, 629, 369]] #[{ accessFlags := 0, nameIndex := 9, descriptorIndex := 10, attributes := #[] }, { accessFlags := 8, nameIndex := 261, descriptorIndex := 262, attributes := #[] }, { accessFlags := 9, nameIndex := 117, descriptorIndex := 122, attributes := #[] }, { accessFlags := 9, nameIndex := 117, descriptorIndex := 118, attributes := #[] }] 48 6 #[] #[{ accessFlags := 26, nameIndex := 61, descriptorIndex := 62, attributes := #[] }, { accessFlags := 26, nameIndex := 65, descriptorIndex := 62, attributes := #[] }, { accessFlags := 24, nameIndex := 430, descriptorIndex := 62, attributes := #[] }, { accessFlags := 4120, nameIndex := 46, descriptorIndex := 47, attributes := #[] }])
  fields := #[{ name := "HI_BYTE_SHIFT", type := .int, accessFlags := 26, slot := 0, constantValue := 0 }, { name := "LO_BYTE_SHIFT", type := .int, accessFlags := 26, slot := 1, constantValue := 0 }, { name := "MAX_LENGTH", type := .int, accessFlags := 24, slot := 2, constantValue := 0 }, { name := "$assertionsDisabled", type := .boolean, accessFlags := 4120, slot := 3, constantValue := 0 }]
  methods := #[k8m0, k8m1, k8m2, k8m3]
  instanceTypes := #[]
  staticTypes := #[.int, .int, .int, .boolean]
  resolved := Array.replicate 635 none
  statics := none }

def pool9 : Array CpInfo := pool [(1, .methodref 2 3), (0, .class_ 4), (0, .nameAndType 5 6), (0, u "java/lang/Object"), (0, u "<init>"), (0, u "()V"), (0, .fieldref 8 9), (0, .class_ 10), (0, .nameAndType 11 12), (0, u "java/lang/Throwable"), (0, u "cause"), (0, u "Ljava/lang/Throwable;"), (0, .fieldref 8 14), (0, .nameAndType 15 16), (0, u "UNASSIGNED_STACK"), (0, u "[Ljava/lang/StackTraceElement;"), (0, .fieldref 8 18), (0, .nameAndType 19 16), (0, u "stackTrace"), (0, .fieldref 8 21), (0, .nameAndType 22 23), (0, u "SUPPRESSED_SENTINEL"), (0, u "Ljava/util/List;"), (0, .fieldref 8 25), (0, .nameAndType 26 23), (0, u "suppressedExceptions"), (0, .methodref 8 28), (0, .nameAndType 29 30), (0, u "fillInStackTrace"), (0, u "()Ljava/lang/Throwable;"), (0, .fieldref 8 32), (0, .nameAndType 33 34), (0, u "detailMessage"), (0, u "Ljava/lang/String;"), (3, u "()Ljava/lang/String;"), (2, u "getMessage"), (51, .class_ 94), (0, u "java/lang/Throwable$WrappedPrintStream"), (6, .class_ 103), (1, u "java/lang/Throwable$PrintStreamOrWriter"), (61, u "$assertionsDisabled"), (0, u "Z"), (26, .class_ 194), (0, u "java/lang/Throwable$WrappedPrintWriter"), (3, .fieldref 8 199), (0, .nameAndType 200 201), (0, u "backtrace"), (0, u "Ljava/lang/Object;"), (0, .methodref 8 203), (0, .nameAndType 29 204), (0, u "(I)Ljava/lang/Throwable;"), (6, u "depth"), (0, u "I"), (10, u "(Ljava/lang/String;)V"), (45, .class_ 271), (1, u "java/lang/Throwable$SentinelHolder"), (32, u "EMPTY_THROWABLE_ARRAY"), (0, u "[Ljava/lang/Throwable;"), (12, .class_ 319), (0, u "java/io/Serializable"), (0, u "serialVersionUID"), (0, u "J"), (5, u "NULL_CAUSE_MESSAGE"), (0, u "SELF_SUPPRESSION_MESSAGE"), (0, u "CAUSE_CAPTION"), (0, u "SUPPRESSED_CAPTION")] 73

def k9c0 : Code := { maxStack := 2, maxLocals := 1, code := jdk_78_method_1_code, exceptionTable := #[], attributes := #[] }
def k9m0 : Method := { name := "<init>", desc := "()V", sig := { parameters := [], returnType := none }, accessFlags := 1, code := some k9c0 }
def k9c1 : Code := { maxStack := 2, maxLocals := 2, code := jdk_78_method_2_code, exceptionTable := #[], attributes := #[] }
def k9m1 : Method := { name := "<init>", desc := "(Ljava/lang/String;)V", sig := { parameters := [(.object "java/lang/String")], returnType := none }, accessFlags := 1, code := some k9c1 }
def k9c2 : Code := { maxStack := 1, maxLocals := 1, code := jdk_78_method_6_code, exceptionTable := #[], attributes := #[] }
def k9m2 : Method := { name := "getMessage", desc := "()Ljava/lang/String;", sig := { parameters := [], returnType := some (.object "java/lang/String") }, accessFlags := 1, code := some k9c2 }
def k9c3 : Code := { maxStack := 2, maxLocals := 1, code := ⟨#[0x2a, 0xb4, 0x00, 0x11, 0xc7, 0x00, 0x0a, 0x2a, 0xb4, 0x00, 0xc6, 0xc6, 0x00, 0x10, 0x2a, 0x03, 0xb6, 0x00, 0xca, 0x57, 0x2a, 0xb2, 0x00, 0x0d, 0xb5, 0x00, 0x11, 0x2a, 0xb0]⟩, exceptionTable := #[], attributes := #[] }
def k9m3 : Method := { name := "fillInStackTrace", desc := "()Ljava/lang/Throwable;", sig := { parameters := [], returnType := some (.object "java/lang/Throwable") }, accessFlags := 33, code := some k9c3 }
def k9m4 : Method := { name := "fillInStackTrace", desc := "(I)Ljava/lang/Throwable;", sig := { parameters := [.int], returnType := some (.object "java/lang/Throwable") }, accessFlags := 258, code := none }
/-- java/lang/Throwable -/
def k9 : Class := { plain "java/lang/Throwable" (some 0) with
  accessFlags := 33
  interfaces := #[2]
  cf := some (fileOf pool9 8 #[.nestMembers #[193, 93, 101, 269]] #[{ accessFlags := 1, nameIndex := 5, descriptorIndex := 6, attributes := #[] }, { accessFlags := 1, nameIndex := 5, descriptorIndex := 223, attributes := #[] }, { accessFlags := 1, nameIndex := 41, descriptorIndex := 38, attributes := #[] }, { accessFlags := 33, nameIndex := 29, descriptorIndex := 30, attributes := #[] }, { accessFlags := 258, nameIndex := 29, descriptorIndex := 204, attributes := #[] }] 33 2 #[318] #[{ accessFlags := 26, nameIndex := 320, descriptorIndex := 321, attributes := #[] }, { accessFlags := 130, nameIndex := 200, descriptorIndex := 201, attributes := #[] }, { accessFlags := 2, nameIndex := 33, descriptorIndex := 34, attributes := #[] }, { accessFlags := 26, nameIndex := 15, descriptorIndex := 16, attributes := #[] }, { accessFlags := 2, nameIndex := 11, descriptorIndex := 12, attributes := #[] }, { accessFlags := 2, nameIndex := 19, descriptorIndex := 16, attributes := #[] }, { accessFlags := 130, nameIndex := 211, descriptorIndex := 212, attributes := #[] }, { accessFlags := 26, nameIndex := 22, descriptorIndex := 23, attributes := #[] }, { accessFlags := 2, nameIndex := 26, descriptorIndex := 23, attributes := #[] }, { accessFlags := 26, nameIndex := 327, descriptorIndex := 34, attributes := #[] }, { accessFlags := 26, nameIndex := 328, descriptorIndex := 34, attributes := #[] }, { accessFlags := 26, nameIndex := 329, descriptorIndex := 34, attributes := #[] }, { accessFlags := 26, nameIndex := 330, descriptorIndex := 34, attributes := #[] }, { accessFlags := 26, nameIndex := 304, descriptorIndex := 305, attributes := #[] }, { accessFlags := 4120, nameIndex := 165, descriptorIndex := 166, attributes := #[] }])
  fields := #[{ name := "serialVersionUID", type := .long, accessFlags := 26, slot := 0, constantValue := 0 }, { name := "backtrace", type := (.object "java/lang/Object"), accessFlags := 130, slot := 0, constantValue := 0 }, { name := "detailMessage", type := (.object "java/lang/String"), accessFlags := 2, slot := 1, constantValue := 0 }, { name := "UNASSIGNED_STACK", type := (.array (.object "java/lang/StackTraceElement")), accessFlags := 26, slot := 1, constantValue := 0 }, { name := "cause", type := (.object "java/lang/Throwable"), accessFlags := 2, slot := 2, constantValue := 0 }, { name := "stackTrace", type := (.array (.object "java/lang/StackTraceElement")), accessFlags := 2, slot := 3, constantValue := 0 }, { name := "depth", type := .int, accessFlags := 130, slot := 4, constantValue := 0 }, { name := "SUPPRESSED_SENTINEL", type := (.object "java/util/List"), accessFlags := 26, slot := 2, constantValue := 0 }, { name := "suppressedExceptions", type := (.object "java/util/List"), accessFlags := 2, slot := 5, constantValue := 0 }, { name := "NULL_CAUSE_MESSAGE", type := (.object "java/lang/String"), accessFlags := 26, slot := 3, constantValue := 0 }, { name := "SELF_SUPPRESSION_MESSAGE", type := (.object "java/lang/String"), accessFlags := 26, slot := 4, constantValue := 0 }, { name := "CAUSE_CAPTION", type := (.object "java/lang/String"), accessFlags := 26, slot := 5, constantValue := 0 }, { name := "SUPPRESSED_CAPTION", type := (.object "java/lang/String"), accessFlags := 26, slot := 6, constantValue := 0 }, { name := "EMPTY_THROWABLE_ARRAY", type := (.array (.object "java/lang/Throwable")), accessFlags := 26, slot := 7, constantValue := 0 }, { name := "$assertionsDisabled", type := .boolean, accessFlags := 4120, slot := 8, constantValue := 0 }]
  methods := #[k9m0, k9m1, k9m2, k9m3, k9m4]
  instanceTypes := #[(.object "java/lang/Object"), (.object "java/lang/String"), (.object "java/lang/Throwable"), (.array (.object "java/lang/StackTraceElement")), .int, (.object "java/util/List")]
  staticTypes := #[.long, (.array (.object "java/lang/StackTraceElement")), (.object "java/util/List"), (.object "java/lang/String"), (.object "java/lang/String"), (.object "java/lang/String"), (.object "java/lang/String"), (.array (.object "java/lang/Throwable")), .boolean]
  resolved := Array.replicate 404 none
  statics := some 1 }

def pool10 : Array CpInfo := pool [(2, .class_ 4), (1, u "java/lang/Throwable"), (0, u "<init>"), (0, u "()V"), (0, .methodref 2 8), (0, .nameAndType 5 9), (0, u "(Ljava/lang/String;)V"), (9, .class_ 20), (0, u "java/lang/Exception"), (0, u "serialVersionUID"), (0, u "J")] 17

def k10m0 : Method := { name := "<init>", desc := "()V", sig := { parameters := [], returnType := none }, accessFlags := 1, code := none }
def k10c1 : Code := { maxStack := 2, maxLocals := 2, code := jdk_59_method_2_code, exceptionTable := #[], attributes := #[] }
def k10m1 : Method := { name := "<init>", desc := "(Ljava/lang/String;)V", sig := { parameters := [(.object "java/lang/String")], returnType := none }, accessFlags := 1, code := some k10c1 }
/-- java/lang/Exception -/
def k10 : Class := { plain "java/lang/Exception" (some 9) with
  accessFlags := 33
  interfaces := #[]
  cf := some (fileOf pool10 19 #[] #[{ accessFlags := 1, nameIndex := 5, descriptorIndex := 6, attributes := #[] }, { accessFlags := 1, nameIndex := 5, descriptorIndex := 9, attributes := #[] }] 33 2 #[] #[{ accessFlags := 24, nameIndex := 21, descriptorIndex := 22, attributes := #[] }])
  fields := #[{ name := "serialVersionUID", type := .long, accessFlags := 24, slot := 0, constantValue := 0 }]
  methods := #[k10m0, k10m1]
  instanceTypes := #[(.object "java/lang/Object"), (.object "java/lang/String"), (.object "java/lang/Throwable"), (.array (.object "java/lang/StackTraceElement")), .int, (.object "java/util/List")]
  staticTypes := #[.long]
  resolved := Array.replicate 40 none
  statics := none }

def pool11 : Array CpInfo := pool [(1, .class_ 2), (0, u "java/lang/StringBuilder"), (0, .methodref 1 4), (0, .nameAndType 5 6), (0, u "<init>"), (0, u "()V"), (0, .methodref 1 8), (0, .nameAndType 9 10), (0, u "append"), (0, u "(Ljava/lang/String;)Ljava/lang/StringBuilder;"), (0, .methodref 1 12), (0, .nameAndType 13 14), (0, u "toString"), (0, u "()Ljava/lang/String;"), (0, .methodref 16 17), (0, .class_ 18), (0, .nameAndType 5 19), (0, u "java/lang/Exception"), (0, u "(Ljava/lang/String;)V"), (0, .fieldref 21 22), (0, .class_ 23), (0, .nameAndType 24 25), (0, u "com/example/picketline/picketline/io/InputException"), (0, u "where"), (0, u "Ljava/lang/String;"), (0, .fieldref 21 27), (0, .nameAndType 28 25), (0, u "problem"), (0, .string 30), (0, u ": "), (0, .methodref 21 32), (0, .nameAndType 5 33), (0, u "(Ljava/lang/String;Ljava/lang/String;)V"), (0, u "serialVersionUID"), (0, u "J"), (5, u "within"), (0, u "(Ljava/lang/String;)Lcom/example/picketline/picketline/io/InputException;")] 2

def k11c0 : Code := { maxStack := 3, maxLocals := 3, code := prog_5_method_1_code, exceptionTable := #[], attributes := #[] }
def k11m0 : Method := { name := "<init>", desc := "(Ljava/lang/String;Ljava/lang/String;)V", sig := { parameters := [(.object "java/lang/String"), (.object "java/lang/String")], returnType := none }, accessFlags := 0, code := some k11c0 }
def k11c1 : Code := { maxStack := 5, maxLocals := 2, code := prog_5_method_2_code, exceptionTable := #[], attributes := #[] }
def k11m1 : Method := { name := "within", desc := "(Ljava/lang/String;)Lcom/example/picketline/picketline/io/InputException;", sig := { parameters := [(.object "java/lang/String")], returnType := some (.object "com/example/picketline/picketline/io/InputException") }, accessFlags := 0, code := some k11c1 }
/-- com/example/picketline/picketline/io/InputException -/
def k11 : Class := { plain "com/example/picketline/picketline/io/InputException" (some 10) with
  accessFlags := 49
  interfaces := #[]
  cf := some (fileOf pool11 21 #[] #[{ accessFlags := 0, nameIndex := 5, descriptorIndex := 33, attributes := #[] }, { accessFlags := 0, nameIndex := 41, descriptorIndex := 42, attributes := #[] }] 49 16 #[] #[{ accessFlags := 26, nameIndex := 34, descriptorIndex := 35, attributes := #[] }, { accessFlags := 18, nameIndex := 24, descriptorIndex := 25, attributes := #[] }, { accessFlags := 18, nameIndex := 28, descriptorIndex := 25, attributes := #[] }])
  fields := #[{ name := "serialVersionUID", type := .long, accessFlags := 26, slot := 0, constantValue := 0 }, { name := "where", type := (.object "java/lang/String"), accessFlags := 18, slot := 6, constantValue := 0 }, { name := "problem", type := (.object "java/lang/String"), accessFlags := 18, slot := 7, constantValue := 0 }]
  methods := #[k11m0, k11m1]
  instanceTypes := #[(.object "java/lang/Object"), (.object "java/lang/String"), (.object "java/lang/Throwable"), (.array (.object "java/lang/StackTraceElement")), .int, (.object "java/util/List"), (.object "java/lang/String"), (.object "java/lang/String")]
  staticTypes := #[.long]
  resolved := Array.replicate 45 none
  statics := none }

def pool12 : Array CpInfo := pool [(1, .class_ 2), (0, u "java/lang/Appendable"), (0, .class_ 4), (0, u "java/lang/Object")] 9

/-- java/lang/Appendable -/
def k12 : Class := { plain "java/lang/Appendable" (some 0) with
  accessFlags := 1537
  interfaces := #[]
  cf := some (fileOf pool12 1 #[] #[] 1537 3 #[] #[])
  fields := #[]
  methods := #[]
  instanceTypes := #[]
  staticTypes := #[]
  resolved := Array.replicate 14 none
  statics := none }

def pool13 : Array CpInfo := pool [(1, .class_ 2), (0, u "java/lang/String"), (0, .methodref 4 5), (0, .class_ 6), (0, .nameAndType 7 8), (0, u "java/lang/Object"), (0, u "<init>"), (0, u "()V"), (1, .class_ 12), (1, u "java/lang/AbstractStringBuilder"), (0, u "EMPTYVALUE"), (0, u "[B"), (0, .fieldref 10 16), (0, .nameAndType 17 14), (0, u "value"), (0, .fieldref 1 19), (0, .nameAndType 20 21), (0, u "COMPACT_STRINGS"), (0, u "Z"), (0, .fieldref 10 23), (0, .nameAndType 24 25), (0, u "coder"), (0, u "B"), (6, .methodref 1 33), (0, .nameAndType 34 35), (0, u "length"), (0, u "()I"), (4, .methodref 1 41), (0, .nameAndType 24 42), (0, u "()B"), (2, u "append"), (0, u "(Ljava/lang/String;)Ljava/lang/AbstractStringBuilder;"), (1, .class_ 49), (0, u "java/lang/CharSequence"), (19, u "(Ljava/lang/String;)V"), (5, u "maybeLatin1"), (3, .fieldref 10 80), (0, .nameAndType 81 82), (0, u "count"), (0, u "I"), (2, u "isLatin1"), (0, u "()Z"), (13, .methodref 10 101), (0, .nameAndType 102 103), (0, u "ensureCapacityInternal"), (0, u "(I)V"), (104, .methodref 10 209), (0, .nameAndType 210 211), (0, u "putStringAt"), (0, u "(ILjava/lang/String;)V"), (5, u "inflateIfNeededFor"), (2, .nameAndType 221 222), (0, u "getBytes"), (0, u "([BIB)V"), (174, .methodref 10 398), (0, .nameAndType 217 69), (0, .methodref 1 220), (3, u "()[B"), (40, .class_ 445), (0, u "java/lang/Appendable"), (106, u "getValue")] 56

def k13m0 : Method := { name := "<init>", desc := "()V", sig := { parameters := [], returnType := none }, accessFlags := 0, code := none }
def k13c1 : Code := { maxStack := 2, maxLocals := 2, code := jdk_68_method_2_code, exceptionTable := #[], attributes := #[] }
def k13m1 : Method := { name := "<init>", desc := "(I)V", sig := { parameters := [.int], returnType := none }, accessFlags := 0, code := some k13c1 }
def k13c2 : Code := { maxStack := 1, maxLocals := 1, code := jdk_68_method_6_code, exceptionTable := #[], attributes := #[] }
def k13m2 : Method := { name := "length", desc := "()I", sig := { parameters := [], returnType := some .int }, accessFlags := 1, code := some k13c2 }
def k13c3 : Code := { maxStack := 4, maxLocals := 3, code := jdk_68_method_9_code, exceptionTable := #[], attributes := #[] }
def k13m3 : Method := { name := "ensureCapacityInternal", desc := "(I)V", sig := { parameters := [.int], returnType := none }, accessFlags := 2, code := some k13c3 }
def k13c4 : Code := { maxStack := 3, maxLocals := 3, code := jdk_68_method_22_code, exceptionTable := #[], attributes := #[] }
def k13m4 : Method := { name := "append", desc := "(Ljava/lang/String;)Ljava/lang/AbstractStringBuilder;", sig := { parameters := [(.object "java/lang/String")], returnType := some (.object "java/lang/AbstractStringBuilder") }, accessFlags := 1, code := some k13c4 }
def k13c5 : Code := { maxStack := 1, maxLocals := 1, code := jdk_68_method_64_code, exceptionTable := #[], attributes := #[] }
def k13m5 : Method := { name := "getValue", desc := "()[B", sig := { parameters := [], returnType := some (.array .byte) }, accessFlags := 16, code := some k13c5 }
def k13c6 : Code := { maxStack := 1, maxLocals := 1, code := jdk_68_method_68_code, exceptionTable := #[], attributes := #[] }
def k13m6 : Method := { name := "isLatin1", desc := "()Z", sig := { parameters := [], returnType := some .boolean }, accessFlags := 16, code := some k13c6 }
def k13c7 : Code := { maxStack := 2, maxLocals := 2, code := jdk_68_method_71_code, exceptionTable := #[], attributes := #[] }
def k13m7 : Method := { name := "inflateIfNeededFor", desc := "(Ljava/lang/String;)V", sig := { parameters := [(.object "java/lang/String")], returnType := none }, accessFlags := 2, code := some k13c7 }
def k13c8 : Code := { maxStack := 4, maxLocals := 3, code := jdk_68_method_73_code, exceptionTable := #[], attributes := #[] }
def k13m8 : Method := { name := "putStringAt", desc := "(ILjava/lang/String;)V", sig := { parameters := [.int, (.object "java/lang/String")], returnType := none }, accessFlags := 2, code := some k13c8 }
/-- java/lang/AbstractStringBuilder -/
def k13 : Class := { plain "java/lang/AbstractStringBuilder" (some 0) with
  accessFlags := 1056
  interfaces := #[12, 4]
  cf := some (fileOf pool13 10 #[] #[{ accessFlags := 0, nameIndex := 7, descriptorIndex := 8, attributes := #[] }, { accessFlags := 0, nameIndex := 7, descriptorIndex := 103, attributes := #[] }, { accessFlags := 1, nameIndex := 34, descriptorIndex := 35, attributes := #[] }, { accessFlags := 2, nameIndex := 102, descriptorIndex := 103, attributes := #[] }, { accessFlags := 1, nameIndex := 45, descriptorIndex := 46, attributes := #[] }, { accessFlags := 16, nameIndex := 552, descriptorIndex := 403, attributes := #[] }, { accessFlags := 16, nameIndex := 85, descriptorIndex := 86, attributes := #[] }, { accessFlags := 2, nameIndex := 217, descriptorIndex := 69, attributes := #[] }, { accessFlags := 2, nameIndex := 210, descriptorIndex := 211, attributes := #[] }] 1056 4 #[444, 48] #[{ accessFlags := 0, nameIndex := 17, descriptorIndex := 14, attributes := #[] }, { accessFlags := 0, nameIndex := 24, descriptorIndex := 25, attributes := #[] }, { accessFlags := 0, nameIndex := 75, descriptorIndex := 21, attributes := #[] }, { accessFlags := 0, nameIndex := 81, descriptorIndex := 82, attributes := #[] }, { accessFlags := 26, nameIndex := 13, descriptorIndex := 14, attributes := #[] }])
  fields := #[{ name := "value", type := (.array .byte), accessFlags := 0, slot := 0, constantValue := 0 }, { name := "coder", type := .byte, accessFlags := 0, slot := 1, constantValue := 0 }, { name := "maybeLatin1", type := .boolean, accessFlags := 0, slot := 2, constantValue := 0 }, { name := "count", type := .int, accessFlags := 0, slot := 3, constantValue := 0 }, { name := "EMPTYVALUE", type := (.array .byte), accessFlags := 26, slot := 0, constantValue := 0 }]
  methods := #[k13m0, k13m1, k13m2, k13m3, k13m4, k13m5, k13m6, k13m7, k13m8]
  instanceTypes := #[(.array .byte), .byte, .boolean, .int]
  staticTypes := #[(.array .byte)]
  resolved := Array.replicate 609 none
  statics := none }

def pool14 : Array CpInfo := pool [(1, .methodref 2 3), (0, .class_ 4), (0, .nameAndType 5 6), (0, u "java/lang/AbstractStringBuilder"), (0, u "<init>"), (0, u "(I)V"), (11, .class_ 20), (1, u "java/lang/String"), (3, .class_ 26), (1, u "java/lang/StringBuilder"), (0, u "append"), (0, u "(Ljava/lang/String;)Ljava/lang/StringBuilder;"), (0, .methodref 2 30), (0, .nameAndType 27 31), (0, u "(Ljava/lang/String;)Ljava/lang/AbstractStringBuilder;"), (105, .methodref 18 138), (0, .nameAndType 5 139), (0, u "(Ljava/lang/StringBuilder;)V"), (5, u "()V"), (10, u "()I"), (186, .methodref 2 344), (0, .nameAndType 345 156), (0, u "length"), (3, .class_ 350), (0, u "java/lang/Appendable"), (0, .class_ 352), (0, u "java/io/Serializable"), (0, .class_ 354), (0, u "java/lang/Comparable"), (0, .class_ 356), (0, u "java/lang/CharSequence"), (0, u "serialVersionUID"), (0, u "J"), (40, u "toString"), (0, u "()Ljava/lang/String;")] 21

def k14c0 : Code := { maxStack := 2, maxLocals := 1, code := jdk_67_method_1_code, exceptionTable := #[], attributes := #[] }
def k14m0 : Method := { name := "<init>", desc := "()V", sig := { parameters := [], returnType := none }, accessFlags := 1, code := some k14c0 }
def k14c1 : Code := { maxStack := 2, maxLocals := 2, code := jdk_67_method_7_code, exceptionTable := #[], attributes := #[] }
def k14m1 : Method := { name := "append", desc := "(Ljava/lang/String;)Ljava/lang/StringBuilder;", sig := { parameters := [(.object "java/lang/String")], returnType := some (.object "java/lang/StringBuilder") }, accessFlags := 1, code := some k14c1 }
def k14c2 : Code := { maxStack := 3, maxLocals := 1, code := jdk_67_method_42_code, exceptionTable := #[], attributes := #[] }
def k14m2 : Method := { name := "toString", desc := "()Ljava/lang/String;", sig := { parameters := [], returnType := some (.object "java/lang/String") }, accessFlags := 1, code := some k14c2 }
def k14c3 : Code := { maxStack := 1, maxLocals := 1, code := jdk_67_method_93_code, exceptionTable := #[], attributes := #[] }
def k14m3 : Method := { name := "length", desc := "()I", sig := { parameters := [], returnType := some .int }, accessFlags := 4161, code := some k14c3 }
/-- java/lang/StringBuilder -/
def k14 : Class := { plain "java/lang/StringBuilder" (some 13) with
  accessFlags := 49
  interfaces := #[12, 2, 3, 4]
  cf := some (fileOf pool14 24 #[] #[{ accessFlags := 1, nameIndex := 5, descriptorIndex := 145, attributes := #[] }, { accessFlags := 1, nameIndex := 27, descriptorIndex := 28, attributes := #[] }, { accessFlags := 1, nameIndex := 399, descriptorIndex := 400, attributes := #[] }, { accessFlags := 4161, nameIndex := 345, descriptorIndex := 156, attributes := #[] }] 49 2 #[349, 351, 353, 355] #[{ accessFlags := 24, nameIndex := 357, descriptorIndex := 358, attributes := #[] }])
  fields := #[{ name := "serialVersionUID", type := .long, accessFlags := 24, slot := 0, constantValue := 0 }]
  methods := #[k14m0, k14m1, k14m2, k14m3]
  instanceTypes := #[(.array .byte), .byte, .boolean, .int]
  staticTypes := #[.long]
  resolved := Array.replicate 422 none
  statics := none }

def pool15 : Array CpInfo := pool [(2, .class_ 4), (1, u "java/lang/Object"), (0, u "<init>"), (0, u "()V"), (1, .class_ 10), (1, u "java/lang/System"), (0, u "allowSecurityManager"), (0, u "I"), (16, u "cons"), (0, u "Ljava/io/Console;"), (77, .class_ 110), (1, u "java/lang/System$CallersHolder"), (43, u "initialErrStream"), (0, u "Ljava/io/PrintStream;"), (19, u "security"), (0, u "Ljava/lang/SecurityManager;"), (31, .class_ 209), (0, u "java/lang/System$1"), (7, u "props"), (0, u "Ljava/util/Properties;"), (2, u "lineSeparator"), (0, u "Ljava/lang/String;"), (96, .class_ 321), (1, u "java/lang/System$LoggerFinder"), (5, .class_ 328), (0, u "java/lang/System$Logger"), (67, u "err"), (2, u "out"), (91, u "notSupportedJnuEncoding"), (15, u "in"), (17, u "initialIn"), (0, u "Ljava/io/InputStream;"), (35, u "bootLayer"), (0, u "Ljava/lang/ModuleLayer;"), (99, .class_ 664), (0, u "java/lang/System$2"), (9, u "NEVER"), (2, u "MAYBE"), (49, u "arraycopy"), (0, u "(Ljava/lang/Object;ILjava/lang/Object;II)V"), (72, .class_ 802), (0, u "java/lang/System$Logger$Level")] 31

def k15m0 : Method := { name := "<init>", desc := "()V", sig := { parameters := [], returnType := none }, accessFlags := 2, code := none }
def k15m1 : Method := { name := "arraycopy", desc := "(Ljava/lang/Object;ILjava/lang/Object;II)V", sig := { parameters := [(.object "java/lang/Object"), .int, (.object "java/lang/Object"), .int, .int], returnType := none }, accessFlags := 265, code := none }
/-- java/lang/System -/
def k15 : Class := { plain "java/lang/System" (some 0) with
  accessFlags := 49
  interfaces := #[]
  cf := some (fileOf pool15 8 #[.nestMembers #[319, 327, 801, 108, 663, 208]] #[{ accessFlags := 2, nameIndex := 5, descriptorIndex := 6, attributes := #[] }, { accessFlags := 265, nameIndex := 727, descriptorIndex := 728, attributes := #[] }] 49 2 #[] #[{ accessFlags := 25, nameIndex := 507, descriptorIndex := 526, attributes := #[] }, { accessFlags := 25, nameIndex := 399, descriptorIndex := 155, attributes := #[] }, { accessFlags := 25, nameIndex := 396, descriptorIndex := 155, attributes := #[] }, { accessFlags := 10, nameIndex := 525, descriptorIndex := 526, attributes := #[] }, { accessFlags := 26, nameIndex := 674, descriptorIndex := 12, attributes := #[] }, { accessFlags := 26, nameIndex := 677, descriptorIndex := 12, attributes := #[] }, { accessFlags := 10, nameIndex := 11, descriptorIndex := 12, attributes := #[] }, { accessFlags := 74, nameIndex := 175, descriptorIndex := 176, attributes := #[] }, { accessFlags := 10, nameIndex := 491, descriptorIndex := 222, attributes := #[] }, { accessFlags := 74, nameIndex := 29, descriptorIndex := 30, attributes := #[] }, { accessFlags := 74, nameIndex := 154, descriptorIndex := 155, attributes := #[] }, { accessFlags := 10, nameIndex := 217, descriptorIndex := 218, attributes := #[] }, { accessFlags := 10, nameIndex := 221, descriptorIndex := 222, attributes := #[] }, { accessFlags := 8, nameIndex := 562, descriptorIndex := 563, attributes := #[] }])
  fields := #[{ name := "in", type := (.object "java/io/InputStream"), accessFlags := 25, slot := 0, constantValue := 0 }, { name := "out", type := (.object "java/io/PrintStream"), accessFlags := 25, slot := 1, constantValue := 0 }, { name := "err", type := (.object "java/io/PrintStream"), accessFlags := 25, slot := 2, constantValue := 0 }, { name := "initialIn", type := (.object "java/io/InputStream"), accessFlags := 10, slot := 3, constantValue := 0 }, { name := "NEVER", type := .int, accessFlags := 26, slot := 4, constantValue := 0 }, { name := "MAYBE", type := .int, accessFlags := 26, slot := 5, constantValue := 0 }, { name := "allowSecurityManager", type := .int, accessFlags := 10, slot := 6, constantValue := 0 }, { name := "security", type := (.object "java/lang/SecurityManager"), accessFlags := 74, slot := 7, constantValue := 0 }, { name := "notSupportedJnuEncoding", type := (.object "java/lang/String"), accessFlags := 10, slot := 8, constantValue := 0 }, { name := "cons", type := (.object "java/io/Console"), accessFlags := 74, slot := 9, constantValue := 0 }, { name := "initialErrStream", type := (.object "java/io/PrintStream"), accessFlags := 74, slot := 10, constantValue := 0 }, { name := "props", type := (.object "java/util/Properties"), accessFlags := 10, slot := 11, constantValue := 0 }, { name := "lineSeparator", type := (.object "java/lang/String"), accessFlags := 10, slot := 12, constantValue := 0 }, { name := "bootLayer", type := (.object "java/lang/ModuleLayer"), accessFlags := 8, slot := 13, constantValue := 0 }]
  methods := #[k15m0, k15m1]
  instanceTypes := #[]
  staticTypes := #[(.object "java/io/InputStream"), (.object "java/io/PrintStream"), (.object "java/io/PrintStream"), (.object "java/io/InputStream"), .int, .int, .int, (.object "java/lang/SecurityManager"), (.object "java/lang/String"), (.object "java/io/Console"), (.object "java/io/PrintStream"), (.object "java/util/Properties"), (.object "java/lang/String"), (.object "java/lang/ModuleLayer")]
  resolved := Array.replicate 834 none
  statics := none }

def pool16 : Array CpInfo := pool [(2, .class_ 4), (1, u "java/lang/Object"), (0, u "<init>"), (0, u "()V"), (7, .class_ 16), (1, u "java/util/Arrays"), (57, .class_ 76), (1, u "java/util/Arrays$NaturalOrder"), (36, .class_ 115), (1, u "java/util/Arrays$LegacyMergeSort"), (1, u "Z"), (21, u "copyOfRange"), (10, .methodref 151 152), (0, .class_ 153), (0, .nameAndType 154 155), (0, u "java/lang/System"), (0, u "arraycopy"), (0, u "(Ljava/lang/Object;ILjava/lang/Object;II)V"), (148, .methodref 305 306), (0, .class_ 307), (0, .nameAndType 308 309), (0, u "java/lang/Math"), (0, u "min"), (0, u "(II)I"), (29, .methodref 14 340), (0, .nameAndType 341 342), (0, u "copyOfRangeByte"), (0, u "([BII)[B"), (0, .methodref 14 344), (0, .nameAndType 345 346), (0, u "checkLength"), (0, u "(II)V"), (28, .class_ 376), (0, u "java/util/Arrays$ArrayList"), (68, u "$assertionsDisabled"), (269, u "MIN_ARRAY_SORT_GRAN"), (0, u "I"), (2, u "INSERTIONSORT_THRESHOLD"), (255, .class_ 976), (0, u "java/util/Arrays$ArrayItr")] 52

def k16m0 : Method := { name := "<init>", desc := "()V", sig := { parameters := [], returnType := none }, accessFlags := 2, code := none }
def k16c1 : Code := { maxStack := 4, maxLocals := 2, code := jdk_65_method_131_code, exceptionTable := #[], attributes := #[] }
def k16m1 : Method := { name := "checkLength", desc := "(II)V", sig := { parameters := [.int, .int], returnType := none }, accessFlags := 10, code := some k16c1 }
def k16c2 : Code := { maxStack := 3, maxLocals := 3, code := jdk_65_method_132_code, exceptionTable := #[], attributes := #[] }
def k16m2 : Method := { name := "copyOfRange", desc := "([BII)[B", sig := { parameters := [(.array .byte), .int, .int], returnType := some (.array .byte) }, accessFlags := 9, code := some k16c2 }
def k16c3 : Code := { maxStack := 6, maxLocals := 5, code := jdk_65_method_133_code, exceptionTable := #[], attributes := #[] }
def k16m3 : Method := { name := "copyOfRangeByte", desc := "([BII)[B", sig := { parameters := [(.array .byte), .int, .int], returnType := some (.array .byte) }, accessFlags := 10, code := some k16c3 }
/-- java/util/Arrays -/
def k16 : Class := { plain "java/util/Arrays" (some 0) with
  accessFlags := 49
  interfaces := #[]
  cf := some (fileOf pool16 14 #[.nestMembers #[975, 375, 113, 74]] #[{ accessFlags := 2, nameIndex := 5, descriptorIndex := 6, attributes := #[] }, { accessFlags := 10, nameIndex := 345, descriptorIndex := 346, attributes := #[] }, { accessFlags := 9, nameIndex := 139, descriptorIndex := 342, attributes := #[] }, { accessFlags := 10, nameIndex := 341, descriptorIndex := 342, attributes := #[] }] 49 2 #[] #[{ accessFlags := 26, nameIndex := 715, descriptorIndex := 716, attributes := #[] }, { accessFlags := 26, nameIndex := 719, descriptorIndex := 716, attributes := #[] }, { accessFlags := 4120, nameIndex := 445, descriptorIndex := 117, attributes := #[] }])
  fields := #[{ name := "MIN_ARRAY_SORT_GRAN", type := .int, accessFlags := 26, slot := 0, constantValue := 0 }, { name := "INSERTIONSORT_THRESHOLD", type := .int, accessFlags := 26, slot := 1, constantValue := 0 }, { name := "$assertionsDisabled", type := .boolean, accessFlags := 4120, slot := 2, constantValue := 0 }]
  methods := #[k16m0, k16m1, k16m2, k16m3]
  instanceTypes := #[]
  staticTypes := #[.int, .int, .boolean]
  resolved := Array.replicate 1029 none
  statics := none }

def pool17 : Array CpInfo := pool [(1, .class_ 2), (0, u "java/lang/Math"), (1, .class_ 6), (1, u "java/lang/Object"), (0, u "<init>"), (0, u "()V"), (89, .class_ 100), (1, u "java/lang/Math$RandomNumberGeneratorHolder"), (71, u "negativeZeroFloatBits"), (0, u "J"), (2, u "negativeZeroDoubleBits"), (24, u "min"), (43, u "$assertionsDisabled"), (0, u "Z"), (88, u "(II)I"), (2, u "twoToTheDoubleScaleDown"), (0, u "D"), (4, u "twoToTheDoubleScaleUp"), (9, u "E"), (3, u "PI"), (2, u "TAU"), (2, u "DEGREES_TO_RADIANS"), (0, u "RADIANS_TO_DEGREES")] 94

def k17m0 : Method := { name := "<init>", desc := "()V", sig := { parameters := [], returnType := none }, accessFlags := 2, code := none }
def k17c1 : Code := { maxStack := 2, maxLocals := 2, code := jdk_29_method_69_code, exceptionTable := #[], attributes := #[] }
def k17m1 : Method := { name := "min", desc := "(II)I", sig := { parameters := [.int, .int], returnType := some .int }, accessFlags := 9, code := some k17c1 }
/-- java/lang/Math -/
def k17 : Class := { plain "java/lang/Math" (some 0) with
  accessFlags := 49
  interfaces := #[]
  cf := some (fileOf pool17 1 #[.nestMembers #[98]] #[{ accessFlags := 2, nameIndex := 7, descriptorIndex := 8, attributes := #[] }, { accessFlags := 9, nameIndex := 201, descriptorIndex := 335, attributes := #[] }] 49 4 #[] #[{ accessFlags := 25, nameIndex := 354, descriptorIndex := 339, attributes := #[] }, { accessFlags := 25, nameIndex := 358, descriptorIndex := 339, attributes := #[] }, { accessFlags := 25, nameIndex := 361, descriptorIndex := 339, attributes := #[] }, { accessFlags := 26, nameIndex := 364, descriptorIndex := 339, attributes := #[] }, { accessFlags := 26, nameIndex := 365, descriptorIndex := 339, attributes := #[] }, { accessFlags := 26, nameIndex := 172, descriptorIndex := 173, attributes := #[] }, { accessFlags := 26, nameIndex := 176, descriptorIndex := 173, attributes := #[] }, { accessFlags := 8, nameIndex := 344, descriptorIndex := 339, attributes := #[] }, { accessFlags := 8, nameIndex := 338, descriptorIndex := 339, attributes := #[] }, { accessFlags := 4120, nameIndex := 245, descriptorIndex := 246, attributes := #[] }])
  fields := #[{ name := "E", type := .double, accessFlags := 25, slot := 0, constantValue := 0 }, { name := "PI", type := .double, accessFlags := 25, slot := 1, constantValue := 0 }, { name := "TAU", type := .double, accessFlags := 25, slot := 2, constantValue := 0 }, { name := "DEGREES_TO_RADIANS", type := .double, accessFlags := 26, slot := 3, constantValue := 0 }, { name := "RADIANS_TO_DEGREES", type := .double, accessFlags := 26, slot := 4, constantValue := 0 }, { name := "negativeZeroFloatBits", type := .long, accessFlags := 26, slot := 5, constantValue := 0 }, { name := "negativeZeroDoubleBits", type := .long, accessFlags := 26, slot := 6, constantValue := 0 }, { name := "twoToTheDoubleScaleUp", type := .double, accessFlags := 8, slot := 7, constantValue := 0 }, { name := "twoToTheDoubleScaleDown", type := .double, accessFlags := 8, slot := 8, constantValue := 0 }, { name := "$assertionsDisabled", type := .boolean, accessFlags := 4120, slot := 9, constantValue := 0 }]
  methods := #[k17m0, k17m1]
  instanceTypes := #[]
  staticTypes := #[.double, .double, .double, .double, .double, .long, .long, .double, .double, .boolean]
  resolved := Array.replicate 460 none
  statics := none }

def pool18 : Array CpInfo := pool [(1, .class_ 2), (0, u "java/lang/String"), (1, .class_ 6), (1, u "java/lang/Object"), (0, u "<init>"), (0, u "()V"), (0, .methodref 1 10), (0, .nameAndType 11 12), (0, u "checkIndex"), (0, u "(II)V"), (1, .class_ 16), (1, u "java/lang/StringLatin1"), (36, u "([BI)C"), (67, u "$assertionsDisabled"), (0, u "Z"), (98, .class_ 223), (1, u "java/lang/StringLatin1$LinesSpliterator"), (28, u "charAt"), (137, .class_ 391), (0, u "java/lang/StringLatin1$CharsSpliterator")] 3

def k18m0 : Method := { name := "<init>", desc := "()V", sig := { parameters := [], returnType := none }, accessFlags := 0, code := none }
def k18c1 : Code := { maxStack := 2, maxLocals := 2, code := jdk_43_method_2_code, exceptionTable := #[], attributes := #[] }
def k18m1 : Method := { name := "charAt", desc := "([BI)C", sig := { parameters := [(.array .byte), .int], returnType := some .char }, accessFlags := 9, code := some k18c1 }
/-- java/lang/StringLatin1 -/
def k18 : Class := { plain "java/lang/StringLatin1" (some 0) with
  accessFlags := 48
  interfaces := #[]
  cf := some (fileOf pool18 14 #[.nestMembers #[390, 221]] #[{ accessFlags := 0, nameIndex := 7, descriptorIndex := 8, attributes := #[] }, { accessFlags := 9, nameIndex := 252, descriptorIndex := 53, attributes := #[] }] 48 4 #[] #[{ accessFlags := 4120, nameIndex := 121, descriptorIndex := 122, attributes := #[] }])
  fields := #[{ name := "$assertionsDisabled", type := .boolean, accessFlags := 4120, slot := 0, constantValue := 0 }]
  methods := #[k18m0, k18m1]
  instanceTypes := #[]
  staticTypes := #[.boolean]
  resolved := Array.replicate 395 none
  statics := none }

def pool19 : Array CpInfo := pool [(2, .class_ 4), (1, u "java/lang/Object"), (0, u "<init>"), (0, u "()V"), (17, .class_ 26), (1, u "jdk/internal/util/Preconditions"), (6, u "checkIndex"), (21, .class_ 56), (0, u "jdk/internal/util/Preconditions$4"), (57, .class_ 115), (0, u "jdk/internal/util/Preconditions$1"), (7, u "SIOOBE_FORMATTER"), (0, u "Ljava/util/function/BiFunction;"), (0, .class_ 126), (0, u "jdk/internal/util/Preconditions$2"), (3, u "AIOOBE_FORMATTER"), (0, .class_ 132), (0, u "jdk/internal/util/Preconditions$3"), (3, u "IOOBE_FORMATTER"), (41, u "(IILjava/util/function/BiFunction;)I")] 15

def k19m0 : Method := { name := "<init>", desc := "()V", sig := { parameters := [], returnType := none }, accessFlags := 1, code := none }
def k19c1 : Code := { maxStack := 3, maxLocals := 3, code := jdk_41_method_11_code, exceptionTable := #[], attributes := #[] }
def k19m1 : Method := { name := "checkIndex", desc := "(IILjava/util/function/BiFunction;)I", sig := { parameters := [.int, .int, (.object "java/util/function/BiFunction")], returnType := some .int }, accessFlags := 9, code := some k19c1 }
/-- jdk/internal/util/Preconditions -/
def k19 : Class := { plain "jdk/internal/util/Preconditions" (some 0) with
  accessFlags := 33
  interfaces := #[]
  cf := some (fileOf pool19 24 #[.nestMembers #[55, 131, 125, 114]] #[{ accessFlags := 1, nameIndex := 5, descriptorIndex := 6, attributes := #[] }, { accessFlags := 9, nameIndex := 33, descriptorIndex := 178, attributes := #[] }] 33 2 #[] #[{ accessFlags := 25, nameIndex := 123, descriptorIndex := 124, attributes := #[] }, { accessFlags := 25, nameIndex := 130, descriptorIndex := 124, attributes := #[] }, { accessFlags := 25, nameIndex := 136, descriptorIndex := 124, attributes := #[] }])
  fields := #[{ name := "SIOOBE_FORMATTER", type := (.object "java/util/function/BiFunction"), accessFlags := 25, slot := 0, constantValue := 0 }, { name := "AIOOBE_FORMATTER", type := (.object "java/util/function/BiFunction"), accessFlags := 25, slot := 1, constantValue := 0 }, { name := "IOOBE_FORMATTER", type := (.object "java/util/function/BiFunction"), accessFlags := 25, slot := 2, constantValue := 0 }]
  methods := #[k19m0, k19m1]
  instanceTypes := #[]
  staticTypes := #[(.object "java/util/function/BiFunction"), (.object "java/util/function/BiFunction"), (.object "java/util/function/BiFunction")]
  resolved := Array.replicate 194 none
  statics := some 2 }

def pool20 : Array CpInfo := pool [(9, u "<init>"), (6, .class_ 18), (1, u "java/lang/Object"), (0, u "()V"), (1, .class_ 23), (1, u "jdk/internal/util/ArraysSupport"), (0, u "LOG2_ARRAY_LONG_INDEX_SCALE"), (0, u "I"), (2, u "U"), (0, u "Ljdk/internal/misc/Unsafe;"), (8, u "BIG_ENDIAN"), (0, u "Z"), (8, u "LOG2_BYTE_BIT_SIZE"), (4, u "LOG2_ARRAY_INT_INDEX_SCALE"), (54, u "JLA"), (0, u "Ljdk/internal/access/JavaLangAccess;"), (11, u "LOG2_ARRAY_BOOLEAN_INDEX_SCALE"), (9, u "LOG2_ARRAY_BYTE_INDEX_SCALE"), (5, u "LOG2_ARRAY_CHAR_INDEX_SCALE"), (5, u "LOG2_ARRAY_SHORT_INDEX_SCALE"), (18, u "LOG2_ARRAY_FLOAT_INDEX_SCALE"), (24, u "LOG2_ARRAY_DOUBLE_INDEX_SCALE"), (89, u "T_BOOLEAN"), (2, u "T_CHAR"), (1, u "T_FLOAT"), (1, u "T_DOUBLE"), (1, u "T_BYTE"), (1, u "T_SHORT"), (1, u "T_INT"), (1, u "T_LONG"), (1, u "SOFT_MAX_ARRAY_LENGTH")] 83

def k20m0 : Method := { name := "<init>", desc := "()V", sig := { parameters := [], returnType := none }, accessFlags := 2, code := none }
/-- jdk/internal/util/ArraysSupport -/
def k20 : Class := { plain "jdk/internal/util/ArraysSupport" (some 0) with
  accessFlags := 33
  interfaces := #[]
  cf := some (fileOf pool20 21 #[] #[{ accessFlags := 2, nameIndex := 9, descriptorIndex := 19, attributes := #[] }] 33 16 #[] #[{ accessFlags := 24, nameIndex := 28, descriptorIndex := 29, attributes := #[] }, { accessFlags := 26, nameIndex := 38, descriptorIndex := 39, attributes := #[] }, { accessFlags := 25, nameIndex := 121, descriptorIndex := 25, attributes := #[] }, { accessFlags := 25, nameIndex := 131, descriptorIndex := 25, attributes := #[] }, { accessFlags := 25, nameIndex := 137, descriptorIndex := 25, attributes := #[] }, { accessFlags := 25, nameIndex := 143, descriptorIndex := 25, attributes := #[] }, { accessFlags := 25, nameIndex := 53, descriptorIndex := 25, attributes := #[] }, { accessFlags := 25, nameIndex := 24, descriptorIndex := 25, attributes := #[] }, { accessFlags := 25, nameIndex := 162, descriptorIndex := 25, attributes := #[] }, { accessFlags := 25, nameIndex := 187, descriptorIndex := 25, attributes := #[] }, { accessFlags := 26, nameIndex := 48, descriptorIndex := 25, attributes := #[] }, { accessFlags := 25, nameIndex := 277, descriptorIndex := 25, attributes := #[] }, { accessFlags := 25, nameIndex := 280, descriptorIndex := 25, attributes := #[] }, { accessFlags := 25, nameIndex := 282, descriptorIndex := 25, attributes := #[] }, { accessFlags := 25, nameIndex := 284, descriptorIndex := 25, attributes := #[] }, { accessFlags := 25, nameIndex := 286, descriptorIndex := 25, attributes := #[] }, { accessFlags := 25, nameIndex := 288, descriptorIndex := 25, attributes := #[] }, { accessFlags := 25, nameIndex := 290, descriptorIndex := 25, attributes := #[] }, { accessFlags := 25, nameIndex := 292, descriptorIndex := 25, attributes := #[] }, { accessFlags := 26, nameIndex := 108, descriptorIndex := 109, attributes := #[] }, { accessFlags := 25, nameIndex := 294, descriptorIndex := 25, attributes := #[] }])
  fields := #[{ name := "U", type := (.object "jdk/internal/misc/Unsafe"), accessFlags := 24, slot := 0, constantValue := 0 }, { name := "BIG_ENDIAN", type := .boolean, accessFlags := 26, slot := 1, constantValue := 0 }, { name := "LOG2_ARRAY_BOOLEAN_INDEX_SCALE", type := .int, accessFlags := 25, slot := 2, constantValue := 0 }, { name := "LOG2_ARRAY_BYTE_INDEX_SCALE", type := .int, accessFlags := 25, slot := 3, constantValue := 0 }, { name := "LOG2_ARRAY_CHAR_INDEX_SCALE", type := .int, accessFlags := 25, slot := 4, constantValue := 0 }, { name := "LOG2_ARRAY_SHORT_INDEX_SCALE", type := .int, accessFlags := 25, slot := 5, constantValue := 0 }, { name := "LOG2_ARRAY_INT_INDEX_SCALE", type := .int, accessFlags := 25, slot := 6, constantValue := 0 }, { name := "LOG2_ARRAY_LONG_INDEX_SCALE", type := .int, accessFlags := 25, slot := 7, constantValue := 0 }, { name := "LOG2_ARRAY_FLOAT_INDEX_SCALE", type := .int, accessFlags := 25, slot := 8, constantValue := 0 }, { name := "LOG2_ARRAY_DOUBLE_INDEX_SCALE", type := .int, accessFlags := 25, slot := 9, constantValue := 0 }, { name := "LOG2_BYTE_BIT_SIZE", type := .int, accessFlags := 26, slot := 10, constantValue := 0 }, { name := "T_BOOLEAN", type := .int, accessFlags := 25, slot := 11, constantValue := 0 }, { name := "T_CHAR", type := .int, accessFlags := 25, slot := 12, constantValue := 0 }, { name := "T_FLOAT", type := .int, accessFlags := 25, slot := 13, constantValue := 0 }, { name := "T_DOUBLE", type := .int, accessFlags := 25, slot := 14, constantValue := 0 }, { name := "T_BYTE", type := .int, accessFlags := 25, slot := 15, constantValue := 0 }, { name := "T_SHORT", type := .int, accessFlags := 25, slot := 16, constantValue := 0 }, { name := "T_INT", type := .int, accessFlags := 25, slot := 17, constantValue := 0 }, { name := "T_LONG", type := .int, accessFlags := 25, slot := 18, constantValue := 0 }, { name := "JLA", type := (.object "jdk/internal/access/JavaLangAccess"), accessFlags := 26, slot := 19, constantValue := 0 }, { name := "SOFT_MAX_ARRAY_LENGTH", type := .int, accessFlags := 25, slot := 20, constantValue := 0 }]
  methods := #[k20m0]
  instanceTypes := #[]
  staticTypes := #[(.object "jdk/internal/misc/Unsafe"), .boolean, .int, .int, .int, .int, .int, .int, .int, .int, .int, .int, .int, .int, .int, .int, .int, .int, .int, (.object "jdk/internal/access/JavaLangAccess"), .int]
  resolved := Array.replicate 378 none
  statics := none }

def pool21 : Array CpInfo := pool [(2, .class_ 4), (1, u "java/lang/Object"), (0, u "<init>"), (0, u "()V"), (12, .class_ 20), (0, u "java/util/Collections"), (63, u "r"), (0, u "Ljava/util/Random;"), (80, .class_ 167), (0, u "java/util/Collections$UnmodifiableCollection"), (6, .class_ 175), (0, u "java/util/Collections$UnmodifiableSequencedCollection"), (6, .class_ 183), (0, u "java/util/Collections$UnmodifiableSet"), (6, .class_ 191), (0, u "java/util/Collections$UnmodifiableSequencedSet"), (6, .class_ 199), (0, u "java/util/Collections$UnmodifiableSortedSet"), (6, .class_ 207), (0, u "java/util/Collections$UnmodifiableNavigableSet"), (4, .class_ 213), (0, u "java/util/Collections$UnmodifiableList"), (1, .class_ 216), (0, u "java/util/Collections$UnmodifiableRandomAccessList"), (6, .class_ 224), (0, u "java/util/Collections$UnmodifiableMap"), (6, .class_ 232), (0, u "java/util/Collections$UnmodifiableSequencedMap"), (4, .class_ 238), (0, u "java/util/Collections$UnmodifiableSortedMap"), (6, .class_ 246), (0, u "java/util/Collections$UnmodifiableNavigableMap"), (3, .class_ 251), (0, u "java/util/Collections$SynchronizedCollection"), (4, .class_ 257), (0, u "java/util/Collections$SynchronizedSet"), (4, .class_ 263), (0, u "java/util/Collections$SynchronizedSortedSet"), (1, .class_ 266), (0, u "java/util/Collections$SynchronizedNavigableSet"), (1, .class_ 269), (0, u "java/util/Collections$SynchronizedRandomAccessList"), (1, .class_ 272), (0, u "java/util/Collections$SynchronizedList"), (5, .class_ 279), (0, u "java/util/Collections$SynchronizedMap"), (1, .class_ 282), (0, u "java/util/Collections$SynchronizedSortedMap"), (1, .class_ 285), (0, u "java/util/Collections$SynchronizedNavigableMap"), (1, .class_ 288), (0, u "java/util/Collections$CheckedCollection"), (11, .class_ 301), (0, u "java/util/Collections$CheckedQueue"), (3, .class_ 306), (0, u "java/util/Collections$CheckedSet"), (3, .class_ 311), (0, u "java/util/Collections$CheckedSortedSet"), (3, .class_ 316), (0, u "java/util/Collections$CheckedNavigableSet"), (3, .class_ 321), (0, u "java/util/Collections$CheckedRandomAccessList"), (3, .class_ 326), (0, u "java/util/Collections$CheckedList"), (1, .class_ 329), (0, u "java/util/Collections$CheckedMap"), (3, .class_ 334), (0, u "java/util/Collections$CheckedSortedMap"), (3, .class_ 339), (0, u "java/util/Collections$CheckedNavigableMap"), (4, .class_ 346), (1, u "java/util/Collections$EmptyIterator"), (3, .class_ 352), (1, u "java/util/Collections$EmptyListIterator"), (2, .class_ 357), (1, u "java/util/Collections$EmptyEnumeration"), (4, u "EMPTY_SET"), (0, u "Ljava/util/Set;"), (6, u "EMPTY_LIST"), (0, u "Ljava/util/List;"), (2, u "EMPTY_MAP"), (0, u "Ljava/util/Map;"), (4, .class_ 381), (0, u "java/util/Collections$SingletonSet"), (2, .class_ 385), (0, u "java/util/Collections$1"), (1, .class_ 388), (0, u "java/util/Collections$2"), (1, .class_ 391), (0, u "java/util/Collections$SingletonList"), (1, .class_ 394), (0, u "java/util/Collections$SingletonMap"), (22, .class_ 418), (0, u "java/util/Collections$CopiesList"), (4, .class_ 425), (1, u "java/util/Collections$ReverseComparator"), (8, .class_ 435), (0, u "java/util/Collections$ReverseComparator2"), (6, .class_ 443), (0, u "java/util/Collections$3"), (25, .class_ 470), (0, u "java/util/Collections$SetFromMap"), (2, .class_ 474), (0, u "java/util/Collections$SequencedSetFromMap"), (3, .class_ 479), (0, u "java/util/Collections$AsLIFOQueue"), (11, .class_ 492), (0, u "java/util/Collections$EmptySet"), (1, .class_ 495), (0, u "java/util/Collections$EmptyList"), (1, .class_ 498), (0, u "java/util/Collections$EmptyMap"), (1, u "BINARYSEARCH_THRESHOLD"), (0, u "I"), (2, u "REVERSE_THRESHOLD"), (1, u "SHUFFLE_THRESHOLD"), (1, u "FILL_THRESHOLD"), (1, u "ROTATE_THRESHOLD"), (1, u "COPY_THRESHOLD"), (1, u "REPLACEALL_THRESHOLD"), (1, u "INDEXOFSUBLIST_THRESHOLD"), (333, .class_ 851), (0, u "java/util/Collections$CheckedMap$CheckedEntrySet"), (0, .class_ 853), (0, u "java/util/Collections$CheckedMap$CheckedEntrySet$CheckedEntry"), (0, .class_ 855), (0, u "java/util/Collections$CheckedMap$CheckedEntrySet$1"), (0, .class_ 857), (0, u "java/util/Collections$CheckedList$1"), (0, .class_ 859), (0, u "java/util/Collections$CheckedCollection$1"), (0, .class_ 861), (0, u "java/util/Collections$UnmodifiableNavigableMap$EmptyNavigableMap"), (0, .class_ 863), (0, u "java/util/Collections$UnmodifiableMap$UnmodifiableEntrySet"), (0, .class_ 865), (0, u "java/util/Collections$UnmodifiableMap$UnmodifiableEntrySet$UnmodifiableEntry"), (0, .class_ 867), (0, u "java/util/Collections$UnmodifiableMap$UnmodifiableEntrySet$UnmodifiableEntrySetSpliterator"), (0, .class_ 869), (0, u "java/util/Collections$UnmodifiableMap$UnmodifiableEntrySet$1"), (0, .class_ 871), (0, u "java/util/Collections$UnmodifiableList$1"), (0, .class_ 873), (0, u "java/util/Collections$UnmodifiableNavigableSet$EmptyNavigableSet"), (0, .class_ 875), (0, u "java/util/Collections$UnmodifiableCollection$1")] 57

def k21m0 : Method := { name := "<init>", desc := "()V", sig := { parameters := [], returnType := none }, accessFlags := 2, code := none }
/-- java/util/Collections -/
def k21 : Class := { plain "java/util/Collections" (some 0) with
  accessFlags := 33
  interfaces := #[]
  cf := some (fileOf pool21 19 #[.nestMembers #[478, 473, 469, 434, 423, 417, 393, 390, 380, 497, 494, 491, 355, 350, 344, 338, 333, 328, 850, 852, 854, 320, 325, 856, 315, 310, 305, 300, 287, 858, 284, 281, 278, 268, 271, 265, 262, 256, 250, 245, 860, 237, 231, 223, 862, 864, 866, 868, 215, 212, 870, 206, 872, 198, 190, 182, 174, 166, 874, 442, 387, 384]] #[{ accessFlags := 2, nameIndex := 5, descriptorIndex := 6, attributes := #[] }] 33 2 #[] #[{ accessFlags := 26, nameIndex := 500, descriptorIndex := 501, attributes := #[] }, { accessFlags := 26, nameIndex := 504, descriptorIndex := 501, attributes := #[] }, { accessFlags := 26, nameIndex := 506, descriptorIndex := 501, attributes := #[] }, { accessFlags := 26, nameIndex := 508, descriptorIndex := 501, attributes := #[] }, { accessFlags := 26, nameIndex := 510, descriptorIndex := 501, attributes := #[] }, { accessFlags := 26, nameIndex := 512, descriptorIndex := 501, attributes := #[] }, { accessFlags := 26, nameIndex := 514, descriptorIndex := 501, attributes := #[] }, { accessFlags := 26, nameIndex := 516, descriptorIndex := 501, attributes := #[] }, { accessFlags := 10, nameIndex := 84, descriptorIndex := 85, attributes := #[] }, { accessFlags := 25, nameIndex := 362, descriptorIndex := 363, attributes := #[] }, { accessFlags := 25, nameIndex := 370, descriptorIndex := 371, attributes := #[] }, { accessFlags := 25, nameIndex := 374, descriptorIndex := 375, attributes := #[] }])
  fields := #[{ name := "BINARYSEARCH_THRESHOLD", type := .int, accessFlags := 26, slot := 0, constantValue := 0 }, { name := "REVERSE_THRESHOLD", type := .int, accessFlags := 26, slot := 1, constantValue := 0 }, { name := "SHUFFLE_THRESHOLD", type := .int, accessFlags := 26, slot := 2, constantValue := 0 }, { name := "FILL_THRESHOLD", type := .int, accessFlags := 26, slot := 3, constantValue := 0 }, { name := "ROTATE_THRESHOLD", type := .int, accessFlags := 26, slot := 4, constantValue := 0 }, { name := "COPY_THRESHOLD", type := .int, accessFlags := 26, slot := 5, constantValue := 0 }, { name := "REPLACEALL_THRESHOLD", type := .int, accessFlags := 26, slot := 6, constantValue := 0 }, { name := "INDEXOFSUBLIST_THRESHOLD", type := .int, accessFlags := 26, slot := 7, constantValue := 0 }, { name := "r", type := (.object "java/util/Random"), accessFlags := 10, slot := 8, constantValue := 0 }, { name := "EMPTY_SET", type := (.object "java/util/Set"), accessFlags := 25, slot := 9, constantValue := 0 }, { name := "EMPTY_LIST", type := (.object "java/util/List"), accessFlags := 25, slot := 10, constantValue := 0 }, { name := "EMPTY_MAP", type := (.object "java/util/Map"), accessFlags := 25, slot := 11, constantValue := 0 }]
  methods := #[k21m0]
  instanceTypes := #[]
  staticTypes := #[.int, .int, .int, .int, .int, .int, .int, .int, (.object "java/util/Random"), (.object "java/util/Set"), (.object "java/util/List"), (.object "java/util/Map")]
  resolved := Array.replicate 933 none
  statics := some 3 }

def pool22 : Array CpInfo := pool [(8, .class_ 10), (1, u "java/lang/Iterable"), (24, .class_ 36), (0, u "java/lang/Object")] 25

/-- java/lang/Iterable -/
def k22 : Class := { plain "java/lang/Iterable" (some 0) with
  accessFlags := 1537
  interfaces := #[]
  cf := some (fileOf pool22 8 #[] #[] 1537 35 #[] #[])
  fields := #[]
  methods := #[]
  instanceTypes := #[]
  staticTypes := #[]
  resolved := Array.replicate 62 none
  statics := none }

def pool23 : Array CpInfo := pool [(10, .class_ 12), (1, u "java/util/Collection"), (47, .class_ 61), (0, u "java/lang/Object"), (0, .class_ 63), (0, u "java/lang/Iterable")] 51

/-- java/util/Collection -/
def k23 : Class := { plain "java/util/Collection" (some 0) with
  accessFlags := 1537
  interfaces := #[22]
  cf := some (fileOf pool23 10 #[] #[] 1537 60 #[62] #[])
  fields := #[]
  methods := #[]
  instanceTypes := #[]
  staticTypes := #[]
  resolved := Array.replicate 115 none
  statics := none }

def pool24 : Array CpInfo := pool [(2, .class_ 4), (1, u "java/lang/Object"), (0, u "<init>"), (0, u "()V"), (1, .class_ 10), (1, u "java/util/AbstractCollection"), (66, .class_ 78), (0, u "java/util/Collection")] 81

def k24m0 : Method := { name := "<init>", desc := "()V", sig := { parameters := [], returnType := none }, accessFlags := 4, code := none }
/-- java/util/AbstractCollection -/
def k24 : Class := { plain "java/util/AbstractCollection" (some 0) with
  accessFlags := 1057
  interfaces := #[23]
  cf := some (fileOf pool24 8 #[] #[{ accessFlags := 4, nameIndex := 5, descriptorIndex := 6, attributes := #[] }] 1057 2 #[77] #[])
  fields := #[]
  methods := #[k24m0]
  instanceTypes := #[]
  staticTypes := #[]
  resolved := Array.replicate 160 none
  statics := none }

def pool25 : Array CpInfo := pool [(8, .class_ 10), (1, u "java/util/SequencedCollection"), (15, .class_ 27), (0, u "java/lang/Object"), (0, .class_ 29), (0, u "java/util/Collection")] 27

/-- java/util/SequencedCollection -/
def k25 : Class := { plain "java/util/SequencedCollection" (some 0) with
  accessFlags := 1537
  interfaces := #[23]
  cf := some (fileOf pool25 8 #[] #[] 1537 26 #[28] #[])
  fields := #[]
  methods := #[]
  instanceTypes := #[]
  staticTypes := #[]
  resolved := Array.replicate 57 none
  statics := none }

def pool26 : Array CpInfo := pool [(8, .class_ 10), (1, u "java/util/List"), (92, .class_ 104), (0, u "java/lang/Object"), (15, .class_ 121), (0, u "java/util/SequencedCollection")] 129

/-- java/util/List -/
def k26 : Class := { plain "java/util/List" (some 0) with
  accessFlags := 1537
  interfaces := #[25]
  cf := some (fileOf pool26 8 #[] #[] 1537 103 #[120] #[])
  fields := #[]
  methods := #[]
  instanceTypes := #[]
  staticTypes := #[]
  resolved := Array.replicate 251 none
  statics := none }

def pool27 : Array CpInfo := pool [(2, .class_ 4), (1, u "java/util/AbstractCollection"), (0, u "<init>"), (0, u "()V"), (1, .class_ 10), (1, u "java/util/AbstractList"), (0, u "modCount"), (0, u "I"), (64, .class_ 78), (0, u "java/util/AbstractList$Itr"), (3, .class_ 83), (0, u "java/util/AbstractList$ListItr"), (9, .class_ 94), (0, u "java/util/AbstractList$RandomAccessSubList"), (3, .class_ 99), (0, u "java/util/AbstractList$SubList"), (33, .class_ 134), (0, u "java/util/List"), (73, .class_ 209), (0, u "java/util/AbstractList$SubList$1"), (0, .class_ 211), (0, u "java/util/AbstractList$RandomAccessSpliterator")] 6

def k27m0 : Method := { name := "<init>", desc := "()V", sig := { parameters := [], returnType := none }, accessFlags := 4, code := none }
/-- java/util/AbstractList -/
def k27 : Class := { plain "java/util/AbstractList" (some 24) with
  accessFlags := 1057
  interfaces := #[26]
  cf := some (fileOf pool27 8 #[.nestMembers #[93, 98, 208, 210, 82, 77]] #[{ accessFlags := 4, nameIndex := 5, descriptorIndex := 6, attributes := #[] }] 1057 2 #[133] #[{ accessFlags := 132, nameIndex := 11, descriptorIndex := 12, attributes := #[] }])
  fields := #[{ name := "modCount", type := .int, accessFlags := 132, slot := 0, constantValue := 0 }]
  methods := #[k27m0]
  instanceTypes := #[.int]
  staticTypes := #[]
  resolved := Array.replicate 218 none
  statics := none }

def pool28 : Array CpInfo := pool [(1, .class_ 2), (0, u "java/util/RandomAccess"), (0, .class_ 4), (0, u "java/lang/Object")] 2

/-- java/util/RandomAccess -/
def k28 : Class := { plain "java/util/RandomAccess" (some 0) with
  accessFlags := 1537
  interfaces := #[]
  cf := some (fileOf pool28 1 #[] #[] 1537 3 #[] #[])
  fields := #[]
  methods := #[]
  instanceTypes := #[]
  staticTypes := #[]
  resolved := Array.replicate 7 none
  statics := none }

def pool29 : Array CpInfo := pool [(2, .class_ 4), (1, u "java/util/AbstractList"), (0, u "<init>"), (0, u "()V"), (1, .class_ 10), (1, u "java/util/Collections"), (54, .class_ 66), (0, u "java/util/Collections$EmptyList"), (0, .class_ 68), (0, u "java/util/RandomAccess"), (0, .class_ 70), (0, u "java/io/Serializable"), (0, u "serialVersionUID"), (0, u "J")] 77

def k29m0 : Method := { name := "<init>", desc := "()V", sig := { parameters := [], returnType := none }, accessFlags := 2, code := none }
/-- java/util/Collections$EmptyList -/
def k29 : Class := { plain "java/util/Collections$EmptyList" (some 27) with
  accessFlags := 32
  interfaces := #[28, 2]
  cf := some (fileOf pool29 65 #[.nestHost 8] #[{ accessFlags := 2, nameIndex := 5, descriptorIndex := 6, attributes := #[] }] 32 2 #[67, 69] #[{ accessFlags := 26, nameIndex := 71, descriptorIndex := 72, attributes := #[] }])
  fields := #[{ name := "serialVersionUID", type := .long, accessFlags := 26, slot := 0, constantValue := 0 }]
  methods := #[k29m0]
  instanceTypes := #[.int]
  staticTypes := #[.long]
  resolved := Array.replicate 150 none
  statics := none }

def pool30 : Array CpInfo := pool [(2, .class_ 4), (1, u "java/lang/StackTraceElement"), (0, u "<init>"), (2, .class_ 10), (1, u "java/lang/Object"), (0, u "()V"), (2, u "format"), (0, u "B"), (2, u "classLoaderName"), (0, u "Ljava/lang/String;"), (2, u "moduleName"), (2, u "moduleVersion"), (12, u "declaringClass"), (4, u "methodName"), (2, u "fileName"), (2, u "lineNumber"), (0, u "I"), (65, u "declaringClassObject"), (0, u "Ljava/lang/Class;"), (33, .class_ 153), (1, u "java/lang/StackTraceElement$HashedModules"), (17, .class_ 172), (0, u "java/io/Serializable"), (0, u "NATIVE_METHOD"), (1, u "UNKNOWN_SOURCE"), (2, u "BUILTIN_CLASS_LOADER"), (1, u "JDK_NON_UPGRADEABLE_MODULE"), (1, u "serialVersionUID"), (0, u "J")] 51

def k30m0 : Method := { name := "<init>", desc := "()V", sig := { parameters := [], returnType := none }, accessFlags := 2, code := none }
/-- java/lang/StackTraceElement -/
def k30 : Class := { plain "java/lang/StackTraceElement" (some 0) with
  accessFlags := 49
  interfaces := #[2]
  cf := some (fileOf pool30 2 #[.nestMembers #[151]] #[{ accessFlags := 2, nameIndex := 5, descriptorIndex := 11, attributes := #[] }] 49 8 #[171] #[{ accessFlags := 26, nameIndex := 173, descriptorIndex := 19, attributes := #[] }, { accessFlags := 26, nameIndex := 175, descriptorIndex := 19, attributes := #[] }, { accessFlags := 130, nameIndex := 116, descriptorIndex := 117, attributes := #[] }, { accessFlags := 2, nameIndex := 18, descriptorIndex := 19, attributes := #[] }, { accessFlags := 2, nameIndex := 22, descriptorIndex := 19, attributes := #[] }, { accessFlags := 2, nameIndex := 25, descriptorIndex := 19, attributes := #[] }, { accessFlags := 2, nameIndex := 38, descriptorIndex := 19, attributes := #[] }, { accessFlags := 2, nameIndex := 43, descriptorIndex := 19, attributes := #[] }, { accessFlags := 2, nameIndex := 46, descriptorIndex := 19, attributes := #[] }, { accessFlags := 2, nameIndex := 49, descriptorIndex := 50, attributes := #[] }, { accessFlags := 2, nameIndex := 14, descriptorIndex := 15, attributes := #[] }, { accessFlags := 26, nameIndex := 178, descriptorIndex := 15, attributes := #[] }, { accessFlags := 26, nameIndex := 180, descriptorIndex := 15, attributes := #[] }, { accessFlags := 26, nameIndex := 182, descriptorIndex := 183, attributes := #[] }])
  fields := #[{ name := "NATIVE_METHOD", type := (.object "java/lang/String"), accessFlags := 26, slot := 0, constantValue := 0 }, { name := "UNKNOWN_SOURCE", type := (.object "java/lang/String"), accessFlags := 26, slot := 1, constantValue := 0 }, { name := "declaringClassObject", type := (.object "java/lang/Class"), accessFlags := 130, slot := 0, constantValue := 0 }, { name := "classLoaderName", type := (.object "java/lang/String"), accessFlags := 2, slot := 1, constantValue := 0 }, { name := "moduleName", type := (.object "java/lang/String"), accessFlags := 2, slot := 2, constantValue := 0 }, { name := "moduleVersion", type := (.object "java/lang/String"), accessFlags := 2, slot := 3, constantValue := 0 }, { name := "declaringClass", type := (.object "java/lang/String"), accessFlags := 2, slot := 4, constantValue := 0 }, { name := "methodName", type := (.object "java/lang/String"), accessFlags := 2, slot := 5, constantValue := 0 }, { name := "fileName", type := (.object "java/lang/String"), accessFlags := 2, slot := 6, constantValue := 0 }, { name := "lineNumber", type := .int, accessFlags := 2, slot := 7, constantValue := 0 }, { name := "format", type := .byte, accessFlags := 2, slot := 8, constantValue := 0 }, { name := "BUILTIN_CLASS_LOADER", type := .byte, accessFlags := 26, slot := 2, constantValue := 0 }, { name := "JDK_NON_UPGRADEABLE_MODULE", type := .byte, accessFlags := 26, slot := 3, constantValue := 0 }, { name := "serialVersionUID", type := .long, accessFlags := 26, slot := 4, constantValue := 0 }]
  methods := #[k30m0]
  instanceTypes := #[(.object "java/lang/Class"), (.object "java/lang/String"), (.object "java/lang/String"), (.object "java/lang/String"), (.object "java/lang/String"), (.object "java/lang/String"), (.object "java/lang/String"), .int, .byte]
  staticTypes := #[(.object "java/lang/String"), (.object "java/lang/String"), .byte, .byte, .long]
  resolved := Array.replicate 235 none
  statics := none }

def pool31 : Array CpInfo := pool [(1, u "java/lang/Cloneable"), (0, .class_ 1), (0, u "java/lang/Object"), (0, .class_ 3)] 3

/-- java/lang/Cloneable -/
def k31 : Class := { plain "java/lang/Cloneable" (some 0) with
  accessFlags := 1537
  interfaces := #[]
  cf := some (fileOf pool31 2 #[] #[] 1537 4 #[] #[])
  fields := #[]
  methods := #[]
  instanceTypes := #[]
  staticTypes := #[]
  resolved := Array.replicate 8 none
  statics := none }

/-- the primitive byte -/
def k32 : Class := { plain "byte" none with kind := .primitive 'B', accessFlags := 0x411 }
/-- [B -/
def k33 : Class := { plain "[B" (some 0) with kind := .array 32 .byte, interfaces := #[31, 2], accessFlags := 1041 }

/-- the primitive char -/
def k34 : Class := { plain "char" none with kind := .primitive 'C', accessFlags := 0x411 }
/-- [C -/
def k35 : Class := { plain "[C" (some 0) with kind := .array 34 .char, interfaces := #[31, 2], accessFlags := 1041 }

/-- [Ljava/lang/Object; -/
def k36 : Class := { plain "[Ljava/lang/Object;" (some 0) with kind := .array 0 (.object "java/lang/Object"), interfaces := #[31, 2], accessFlags := 1041 }

/-- [Ljava/lang/StackTraceElement; -/
def k37 : Class := { plain "[Ljava/lang/StackTraceElement;" (some 0) with kind := .array 30 (.object "java/lang/StackTraceElement"), interfaces := #[31, 2], accessFlags := 1041 }

/-- [Ljava/lang/Throwable; -/
def k38 : Class := { plain "[Ljava/lang/Throwable;" (some 0) with kind := .array 9 (.object "java/lang/Throwable"), interfaces := #[31, 2], accessFlags := 1041 }

def heap : Heap := #[{ cls := 7, slots := #[.long 0, .int 1, .null, .int 0, .null, .int 0, .int 0], vm := .statics 7 },
  { cls := 9, slots := #[.long 0, .ref 4, .ref 5, .null, .null, .null, .null, .ref 6, .int 1], vm := .statics 9 },
  { cls := 19, slots := #[.null, .null, .null], vm := .statics 19 },
  { cls := 21, slots := #[.int 0, .int 0, .int 0, .int 0, .int 0, .int 0, .int 0, .int 0, .null, .null, .ref 5, .null], vm := .statics 21 },
  { cls := 37, slots := #[], vm := .none },
  { cls := 29, slots := #[.int 0], vm := .none },
  { cls := 38, slots := #[], vm := .none }]
def classes : Array Class := #[k0, k1, k2, k3, k4, k5, k6, k7, k8, k9, k10, k11, k12, k13, k14, k15, k16, k17, k18, k19, k20, k21, k22, k23, k24, k25, k26, k27, k28, k29, k30, k31, k32, k33, k34, k35, k36, k37, k38]
def interned : List (Array UInt16 × Addr) := []
def slotsUsed : Nat := 32
def theMethod : MethodId := ⟨1, 3⟩
def args0 : Array Value := #[.int 5, .int 7, .int 9, .int 27]
def aboutOver (below : List Frame) : State where
  vm := { classes := classes, interned := interned.toArray }
  heap := heap
  slotsUsed := slotsUsed
  threads := #[{ frames := .invoking theMethod args0 :: below }]
def below0 : List Frame := [.native { method := ⟨0, 0⟩, args := #[] }]
def about1 : State := aboutOver below0
def p0 : Program := .bare "" "" ""
def e0 : Env := launch0.env 0 0 0
theorem w_frames : about1.frames = Frame.invoking theMethod args0 :: below0 := rfl
set_option maxRecDepth 65536 in
theorem w_args : argsFit about1.vm theMethod args0 = true := by decide +kernel
set_option maxRecDepth 65536 in
theorem w_heap : heapFits about1 = true := by decide +kernel
set_option maxRecDepth 65536 in
theorem w_runnable : about1.curStatus? = some .runnable := by decide +kernel
set_option maxRecDepth 65536 in
theorem w_alone : about1.alone = true := by decide +kernel
set_option maxRecDepth 65536 in
theorem w_named : about1.methodNamed? x = some theMethod := by decide +kernel
set_option maxRecDepth 65536 in
theorem w_hears : about1.hears theMethod below0 = true := by decide +kernel
set_option maxRecDepth 65536 in
theorem w_ripe : about1.ripe theMethod args0 below0 = true := by decide +kernel
theorem w_running : about1.status = .running := rfl
set_option maxRecDepth 65536 in
theorem w_room : about1.hasRoom e0.platform room_1 = true :=
  launch0.hasRoom_least _ room_1 (by decide +kernel) (by decide +kernel) (by decide +kernel) (by decide +kernel) (by decide +kernel) (by decide +kernel)
theorem allAtoms_all (ts : List Jvm.Cond) (a : Array Jvm.Value) (st : Jvm.State) : (allAtoms ts).before a st = ts.all (fun c => c.before a st) := by
  induction ts with
  | nil => rfl
  | cons c t ih =>
    show (Jvm.Cond.and c (allAtoms t)).before a st = _
    rw [Jvm.Cond.before_and, ih, List.all_cons]
def words1 : List Jvm.Cond := Jvm.Cond.code x code maxLocals ret :: tables_1
/-- a 'code' word, met by the world's own term for the bytes: nothing is compared byte by byte -/
theorem code_word {y : MethodName} {bytes : ByteArray} {mx : Nat} {rt : Option FieldType} {a : Array Value} {s : State} {m : MethodId} {meth : Method} {c : Code} (h1 : s.methodNamed? y = some m) (h2 : s.vm.method? m = some meth) (h3 : meth.code = some c) (h4 : c.code = bytes)
    (h5 : (c.maxLocals == mx && c.exceptionTable.isEmpty && decide (c.maxStack ≤ mostOperands) && decide (meth.sig.returnType = rt) && !meth.locks && decide (parseMethodDescriptor y.desc = some meth.sig)) = true) : (Jvm.Cond.code y bytes mx rt).before a s = true := by
  simp only [Bool.and_eq_true, beq_iff_eq, Bool.not_eq_true', decide_eq_true_eq] at h5
  obtain ⟨⟨⟨⟨⟨g1, g2⟩, g3⟩, g4⟩, g5⟩, g6⟩ := h5
  simp [Cond.before, Cond.holds, Cond.value, h1, h2, h3, h4, g1, g2, g3, g4, g5, g6]
def isCode : Jvm.Cond → Bool
  | .code _ _ _ _ => true
  | _ => false
theorem all_split {L : List Jvm.Cond} {P : Jvm.Cond → Bool} (h1 : L.all (fun c => isCode c || P c) = true) (h2 : ∀ c ∈ L.filter isCode, P c = true) : L.all P = true := by
  refine List.all_eq_true.mpr fun c hc => ?_
  have h := List.all_eq_true.mp h1 c hc
  rcases Bool.eq_false_or_eq_true (isCode c) with hi | hi
  · exact h2 c (List.mem_filter.mpr ⟨hc, hi⟩)
  · simpa [hi] using h
set_option maxRecDepth 65536 in
theorem w_c0 : (Jvm.Cond.code x code maxLocals ret).before args0 about1 = true := code_word (m := ⟨1, 3⟩) (meth := k1m3) (c := k1c3) (by decide +kernel) rfl rfl rfl (by decide +kernel)
set_option maxRecDepth 65536 in
theorem w_c1 : (Jvm.Cond.code ({ cls := "com/example/picketline/picketline/io/InputExceptionWithinPinLaw", name := "mk", desc := "(II)Ljava/lang/String;" } : Jvm.MethodName) method_2_code (5 : Nat) (Option.some (Jvm.ClassFile.FieldType.object "java/lang/String"))).before args0 about1 = true := code_word (m := ⟨1, 1⟩) (meth := k1m1) (c := k1c1) (by decide +kernel) rfl rfl rfl (by decide +kernel)
set_option maxRecDepth 65536 in
theorem w_c2 : (Jvm.Cond.code ({ cls := "java/lang/String", name := "<init>", desc := "([C)V" } : Jvm.MethodName) jdk_42_method_3_code (2 : Nat) (Option.none : Option Jvm.ClassFile.FieldType)).before args0 about1 = true := code_word (m := ⟨7, 1⟩) (meth := k7m1) (c := k7c1) (by decide +kernel) rfl rfl rfl (by decide +kernel)
set_option maxRecDepth 65536 in
theorem w_c3 : (Jvm.Cond.code ({ cls := "java/lang/String", name := "<init>", desc := "([CIILjava/lang/Void;)V" } : Jvm.MethodName) jdk_42_method_149_code (6 : Nat) (Option.none : Option Jvm.ClassFile.FieldType)).before args0 about1 = true := code_word (m := ⟨7, 6⟩) (meth := k7m6) (c := k7c6) (by decide +kernel) rfl rfl rfl (by decide +kernel)
set_option maxRecDepth 65536 in
theorem w_c4 : (Jvm.Cond.code ({ cls := "java/lang/Object", name := "<init>", desc := "()V" } : Jvm.MethodName) object_method_1_code (1 : Nat) (Option.none : Option Jvm.ClassFile.FieldType)).before args0 about1 = true := code_word (m := ⟨0, 0⟩) (meth := k0m0) (c := k0c0) (by decide +kernel) rfl rfl rfl (by decide +kernel)
set_option maxRecDepth 65536 in
theorem w_c5 : (Jvm.Cond.code ({ cls := "java/lang/StringUTF16", name := "compress", desc := "([CII)[B" } : Jvm.MethodName) jdk_52_method_16_code (6 : Nat) (Option.some (Jvm.ClassFile.FieldType.array Jvm.ClassFile.FieldType.byte))).before args0 about1 = true := code_word (m := ⟨8, 2⟩) (meth := k8m2) (c := k8c2) (by decide +kernel) rfl rfl rfl (by decide +kernel)
set_option maxRecDepth 65536 in
theorem w_c6 : (Jvm.Cond.code ({ cls := "java/lang/StringUTF16", name := "compress", desc := "([CI[BII)I" } : Jvm.MethodName) jdk_52_method_21_code (7 : Nat) (Option.some Jvm.ClassFile.FieldType.int)).before args0 about1 = true := code_word (m := ⟨8, 3⟩) (meth := k8m3) (c := k8c3) (by decide +kernel) rfl rfl rfl (by decide +kernel)
set_option maxRecDepth 65536 in
theorem w_c7 : (Jvm.Cond.code ({ cls := "java/lang/StringUTF16", name := "coderFromArrayLen", desc := "([BI)B" } : Jvm.MethodName) jdk_52_method_15_code (2 : Nat) (Option.some Jvm.ClassFile.FieldType.byte)).before args0 about1 = true := code_word (m := ⟨8, 1⟩) (meth := k8m1) (c := k8c1) (by decide +kernel) rfl rfl rfl (by decide +kernel)
set_option maxRecDepth 65536 in
theorem w_c8 : (Jvm.Cond.code ({ cls := "com/example/picketline/picketline/io/InputException", name := "<init>", desc := "(Ljava/lang/String;Ljava/lang/String;)V" } : Jvm.MethodName) prog_5_method_1_code (3 : Nat) (Option.none : Option Jvm.ClassFile.FieldType)).before args0 about1 = true := code_word (m := ⟨11, 0⟩) (meth := k11m0) (c := k11c0) (by decide +kernel) rfl rfl rfl (by decide +kernel)
set_option maxRecDepth 65536 in
theorem w_c9 : (Jvm.Cond.code ({ cls := "java/lang/StringBuilder", name := "<init>", desc := "()V" } : Jvm.MethodName) jdk_67_method_1_code (1 : Nat) (Option.none : Option Jvm.ClassFile.FieldType)).before args0 about1 = true := code_word (m := ⟨14, 0⟩) (meth := k14m0) (c := k14c0) (by decide +kernel) rfl rfl rfl (by decide +kernel)
set_option maxRecDepth 65536 in
theorem w_c10 : (Jvm.Cond.code ({ cls := "java/lang/AbstractStringBuilder", name := "<init>", desc := "(I)V" } : Jvm.MethodName) jdk_68_method_2_code (2 : Nat) (Option.none : Option Jvm.ClassFile.FieldType)).before args0 about1 = true := code_word (m := ⟨13, 1⟩) (meth := k13m1) (c := k13c1) (by decide +kernel) rfl rfl rfl (by decide +kernel)
set_option maxRecDepth 65536 in
theorem w_c11 : (Jvm.Cond.code ({ cls := "java/lang/StringBuilder", name := "append", desc := "(Ljava/lang/String;)Ljava/lang/StringBuilder;" } : Jvm.MethodName) jdk_67_method_7_code (2 : Nat) (Option.some (Jvm.ClassFile.FieldType.object "java/lang/StringBuilder"))).before args0 about1 = true := code_word (m := ⟨14, 1⟩) (meth := k14m1) (c := k14c1) (by decide +kernel) rfl rfl rfl (by decide +kernel)
set_option maxRecDepth 65536 in
theorem w_c12 : (Jvm.Cond.code ({ cls := "java/lang/AbstractStringBuilder", name := "append", desc := "(Ljava/lang/String;)Ljava/lang/AbstractStringBuilder;" } : Jvm.MethodName) jdk_68_method_22_code (3 : Nat) (Option.some (Jvm.ClassFile.FieldType.object "java/lang/AbstractStringBuilder"))).before args0 about1 = true := code_word (m := ⟨13, 4⟩) (meth := k13m4) (c := k13c4) (by decide +kernel) rfl rfl rfl (by decide +kernel)
set_option maxRecDepth 65536 in
theorem w_c13 : (Jvm.Cond.code ({ cls := "java/lang/String", name := "length", desc := "()I" } : Jvm.MethodName) jdk_42_method_54_code (1 : Nat) (Option.some Jvm.ClassFile.FieldType.int)).before args0 about1 = true := code_word (m := ⟨7, 3⟩) (meth := k7m3) (c := k7c3) (by decide +kernel) rfl rfl rfl (by decide +kernel)
set_option maxRecDepth 65536 in
theorem w_c14 : (Jvm.Cond.code ({ cls := "java/lang/String", name := "coder", desc := "()B" } : Jvm.MethodName) jdk_42_method_152_code (1 : Nat) (Option.some Jvm.ClassFile.FieldType.byte)).before args0 about1 = true := code_word (m := ⟨7, 8⟩) (meth := k7m8) (c := k7c8) (by decide +kernel) rfl rfl rfl (by decide +kernel)
set_option maxRecDepth 65536 in
theorem w_c15 : (Jvm.Cond.code ({ cls := "java/lang/AbstractStringBuilder", name := "ensureCapacityInternal", desc := "(I)V" } : Jvm.MethodName) jdk_68_method_9_code (3 : Nat) (Option.none : Option Jvm.ClassFile.FieldType)).before args0 about1 = true := code_word (m := ⟨13, 3⟩) (meth := k13m3) (c := k13c3) (by decide +kernel) rfl rfl rfl (by decide +kernel)
set_option maxRecDepth 65536 in
theorem w_c16 : (Jvm.Cond.code ({ cls := "java/lang/AbstractStringBuilder", name := "putStringAt", desc := "(ILjava/lang/String;)V" } : Jvm.MethodName) jdk_68_method_73_code (3 : Nat) (Option.none : Option Jvm.ClassFile.FieldType)).before args0 about1 = true := code_word (m := ⟨13, 8⟩) (meth := k13m8) (c := k13c8) (by decide +kernel) rfl rfl rfl (by decide +kernel)
set_option maxRecDepth 65536 in
theorem w_c17 : (Jvm.Cond.code ({ cls := "java/lang/AbstractStringBuilder", name := "inflateIfNeededFor", desc := "(Ljava/lang/String;)V" } : Jvm.MethodName) jdk_68_method_71_code (2 : Nat) (Option.none : Option Jvm.ClassFile.FieldType)).before args0 about1 = true := code_word (m := ⟨13, 7⟩) (meth := k13m7) (c := k13c7) (by decide +kernel) rfl rfl rfl (by decide +kernel)
set_option maxRecDepth 65536 in
theorem w_c18 : (Jvm.Cond.code ({ cls := "java/lang/String", name := "getBytes", desc := "([BIB)V" } : Jvm.MethodName) jdk_42_method_147_code (4 : Nat) (Option.none : Option Jvm.ClassFile.FieldType)).before args0 about1 = true := code_word (m := ⟨7, 5⟩) (meth := k7m5) (c := k7c5) (by decide +kernel) rfl rfl rfl (by decide +kernel)
set_option maxRecDepth 65536 in
theorem w_c19 : (Jvm.Cond.code ({ cls := "java/lang/StringBuilder", name := "toString", desc := "()Ljava/lang/String;" } : Jvm.MethodName) jdk_67_method_42_code (1 : Nat) (Option.some (Jvm.ClassFile.FieldType.object "java/lang/String"))).before args0 about1 = true := code_word (m := ⟨14, 2⟩) (meth := k14m2) (c := k14c2) (by decide +kernel) rfl rfl rfl (by decide +kernel)
set_option maxRecDepth 65536 in
theorem w_c20 : (Jvm.Cond.code ({ cls := "java/lang/String", name := "<init>", desc := "(Ljava/lang/StringBuilder;)V" } : Jvm.MethodName) jdk_42_method_53_code (2 : Nat) (Option.none : Option Jvm.ClassFile.FieldType)).before args0 about1 = true := code_word (m := ⟨7, 2⟩) (meth := k7m2) (c := k7c2) (by decide +kernel) rfl rfl rfl (by decide +kernel)
set_option maxRecDepth 65536 in
theorem w_c21 : (Jvm.Cond.code ({ cls := "java/lang/String", name := "<init>", desc := "(Ljava/lang/AbstractStringBuilder;Ljava/lang/Void;)V" } : Jvm.MethodName) jdk_42_method_150_code (5 : Nat) (Option.none : Option Jvm.ClassFile.FieldType)).before args0 about1 = true := code_word (m := ⟨7, 7⟩) (meth := k7m7) (c := k7c7) (by decide +kernel) rfl rfl rfl (by decide +kernel)
set_option maxRecDepth 65536 in
theorem w_c22 : (Jvm.Cond.code ({ cls := "java/lang/AbstractStringBuilder", name := "getValue", desc := "()[B" } : Jvm.MethodName) jdk_68_method_64_code (1 : Nat) (Option.some (Jvm.ClassFile.FieldType.array Jvm.ClassFile.FieldType.byte))).before args0 about1 = true := code_word (m := ⟨13, 5⟩) (meth := k13m5) (c := k13c5) (by decide +kernel) rfl rfl rfl (by decide +kernel)
set_option maxRecDepth 65536 in
theorem w_c23 : (Jvm.Cond.code ({ cls := "java/lang/StringBuilder", name := "length", desc := "()I" } : Jvm.MethodName) jdk_67_method_93_code (1 : Nat) (Option.some Jvm.ClassFile.FieldType.int)).before args0 about1 = true := code_word (m := ⟨14, 3⟩) (meth := k14m3) (c := k14c3) (by decide +kernel) rfl rfl rfl (by decide +kernel)
set_option maxRecDepth 65536 in
theorem w_c24 : (Jvm.Cond.code ({ cls := "java/lang/AbstractStringBuilder", name := "length", desc := "()I" } : Jvm.MethodName) jdk_68_method_6_code (1 : Nat) (Option.some Jvm.ClassFile.FieldType.int)).before args0 about1 = true := code_word (m := ⟨13, 2⟩) (meth := k13m2) (c := k13c2) (by decide +kernel) rfl rfl rfl (by decide +kernel)
set_option maxRecDepth 65536 in
theorem w_c25 : (Jvm.Cond.code ({ cls := "java/lang/AbstractStringBuilder", name := "isLatin1", desc := "()Z" } : Jvm.MethodName) jdk_68_method_68_code (1 : Nat) (Option.some Jvm.ClassFile.FieldType.boolean)).before args0 about1 = true := code_word (m := ⟨13, 6⟩) (meth := k13m6) (c := k13c6) (by decide +kernel) rfl rfl rfl (by decide +kernel)
set_option maxRecDepth 65536 in
theorem w_c26 : (Jvm.Cond.code ({ cls := "java/util/Arrays", name := "copyOfRange", desc := "([BII)[B" } : Jvm.MethodName) jdk_65_method_132_code (3 : Nat) (Option.some (Jvm.ClassFile.FieldType.array Jvm.ClassFile.FieldType.byte))).before args0 about1 = true := code_word (m := ⟨16, 2⟩) (meth := k16m2) (c := k16c2) (by decide +kernel) rfl rfl rfl (by decide +kernel)
set_option maxRecDepth 65536 in
theorem w_c27 : (Jvm.Cond.code ({ cls := "java/util/Arrays", name := "copyOfRangeByte", desc := "([BII)[B" } : Jvm.MethodName) jdk_65_method_133_code (5 : Nat) (Option.some (Jvm.ClassFile.FieldType.array Jvm.ClassFile.FieldType.byte))).before args0 about1 = true := code_word (m := ⟨16, 3⟩) (meth := k16m3) (c := k16c3) (by decide +kernel) rfl rfl rfl (by decide +kernel)
set_option maxRecDepth 65536 in
theorem w_c28 : (Jvm.Cond.code ({ cls := "java/util/Arrays", name := "checkLength", desc := "(II)V" } : Jvm.MethodName) jdk_65_method_131_code (2 : Nat) (Option.none : Option Jvm.ClassFile.FieldType)).before args0 about1 = true := code_word (m := ⟨16, 1⟩) (meth := k16m1) (c := k16c1) (by decide +kernel) rfl rfl rfl (by decide +kernel)
set_option maxRecDepth 65536 in
theorem w_c29 : (Jvm.Cond.code ({ cls := "java/lang/Math", name := "min", desc := "(II)I" } : Jvm.MethodName) jdk_29_method_69_code (2 : Nat) (Option.some Jvm.ClassFile.FieldType.int)).before args0 about1 = true := code_word (m := ⟨17, 1⟩) (meth := k17m1) (c := k17c1) (by decide +kernel) rfl rfl rfl (by decide +kernel)
set_option maxRecDepth 65536 in
theorem w_c30 : (Jvm.Cond.code ({ cls := "java/lang/Exception", name := "<init>", desc := "(Ljava/lang/String;)V" } : Jvm.MethodName) jdk_59_method_2_code (2 : Nat) (Option.none : Option Jvm.ClassFile.FieldType)).before args0 about1 = true := code_word (m := ⟨10, 1⟩) (meth := k10m1) (c := k10c1) (by decide +kernel) rfl rfl rfl (by decide +kernel)
set_option maxRecDepth 65536 in
theorem w_c31 : (Jvm.Cond.code ({ cls := "java/lang/Throwable", name := "<init>", desc := "(Ljava/lang/String;)V" } : Jvm.MethodName) jdk_78_method_2_code (2 : Nat) (Option.none : Option Jvm.ClassFile.FieldType)).before args0 about1 = true := code_word (m := ⟨9, 1⟩) (meth := k9m1) (c := k9c1) (by decide +kernel) rfl rfl rfl (by decide +kernel)
set_option maxRecDepth 65536 in
theorem w_c32 : (Jvm.Cond.code ({ cls := "java/lang/Throwable", name := "<init>", desc := "()V" } : Jvm.MethodName) jdk_78_method_1_code (1 : Nat) (Option.none : Option Jvm.ClassFile.FieldType)).before args0 about1 = true := code_word (m := ⟨9, 0⟩) (meth := k9m0) (c := k9c0) (by decide +kernel) rfl rfl rfl (by decide +kernel)
set_option maxRecDepth 65536 in
theorem w_c33 : (Jvm.Cond.code ({ cls := "com/example/picketline/picketline/io/InputException", name := "within", desc := "(Ljava/lang/String;)Lcom/example/picketline/picketline/io/InputException;" } : Jvm.MethodName) prog_5_method_2_code (2 : Nat) (Option.some (Jvm.ClassFile.FieldType.object "com/example/picketline/picketline/io/InputException"))).before args0 about1 = true := code_word (m := ⟨11, 1⟩) (meth := k11m1) (c := k11c1) (by decide +kernel) rfl rfl rfl (by decide +kernel)
set_option maxRecDepth 65536 in
theorem w_c34 : (Jvm.Cond.code ({ cls := "java/lang/Throwable", name := "getMessage", desc := "()Ljava/lang/String;" } : Jvm.MethodName) jdk_78_method_6_code (1 : Nat) (Option.some (Jvm.ClassFile.FieldType.object "java/lang/String"))).before args0 about1 = true := code_word (m := ⟨9, 2⟩) (meth := k9m2) (c := k9c2) (by decide +kernel) rfl rfl rfl (by decide +kernel)
set_option maxRecDepth 65536 in
theorem w_c35 : (Jvm.Cond.code ({ cls := "com/example/picketline/picketline/io/InputExceptionWithinPinLaw", name := "at", desc := "(Ljava/lang/String;ILjava/lang/String;)Z" } : Jvm.MethodName) method_3_code (3 : Nat) (Option.some Jvm.ClassFile.FieldType.boolean)).before args0 about1 = true := code_word (m := ⟨1, 2⟩) (meth := k1m2) (c := k1c2) (by decide +kernel) rfl rfl rfl (by decide +kernel)
set_option maxRecDepth 65536 in
theorem w_c36 : (Jvm.Cond.code ({ cls := "java/lang/String", name := "charAt", desc := "(I)C" } : Jvm.MethodName) jdk_42_method_56_code (2 : Nat) (Option.some Jvm.ClassFile.FieldType.char)).before args0 about1 = true := code_word (m := ⟨7, 4⟩) (meth := k7m4) (c := k7c4) (by decide +kernel) rfl rfl rfl (by decide +kernel)
set_option maxRecDepth 65536 in
theorem w_c37 : (Jvm.Cond.code ({ cls := "java/lang/String", name := "isLatin1", desc := "()Z" } : Jvm.MethodName) jdk_42_method_154_code (1 : Nat) (Option.some Jvm.ClassFile.FieldType.boolean)).before args0 about1 = true := code_word (m := ⟨7, 9⟩) (meth := k7m9) (c := k7c9) (by decide +kernel) rfl rfl rfl (by decide +kernel)
set_option maxRecDepth 65536 in
theorem w_c38 : (Jvm.Cond.code ({ cls := "java/lang/StringLatin1", name := "charAt", desc := "([BI)C" } : Jvm.MethodName) jdk_43_method_2_code (2 : Nat) (Option.some Jvm.ClassFile.FieldType.char)).before args0 about1 = true := code_word (m := ⟨18, 1⟩) (meth := k18m1) (c := k18c1) (by decide +kernel) rfl rfl rfl (by decide +kernel)
set_option maxRecDepth 65536 in
theorem w_c39 : (Jvm.Cond.code ({ cls := "java/lang/String", name := "checkIndex", desc := "(II)V" } : Jvm.MethodName) jdk_42_method_155_code (2 : Nat) (Option.none : Option Jvm.ClassFile.FieldType)).before args0 about1 = true := code_word (m := ⟨7, 10⟩) (meth := k7m10) (c := k7c10) (by decide +kernel) rfl rfl rfl (by decide +kernel)
set_option maxRecDepth 65536 in
theorem w_c40 : (Jvm.Cond.code ({ cls := "jdk/internal/util/Preconditions", name := "checkIndex", desc := "(IILjava/util/function/BiFunction;)I" } : Jvm.MethodName) jdk_41_method_11_code (3 : Nat) (Option.some Jvm.ClassFile.FieldType.int)).before args0 about1 = true := code_word (m := ⟨19, 1⟩) (meth := k19m1) (c := k19c1) (by decide +kernel) rfl rfl rfl (by decide +kernel)
def codes1 : List Jvm.Cond := [Jvm.Cond.code x code maxLocals ret, Jvm.Cond.code ({ cls := "com/example/picketline/picketline/io/InputExceptionWithinPinLaw", name := "mk", desc := "(II)Ljava/lang/String;" } : Jvm.MethodName) method_2_code (5 : Nat) (Option.some (Jvm.ClassFile.FieldType.object "java/lang/String")), Jvm.Cond.code ({ cls := "java/lang/String", name := "<init>", desc := "([C)V" } : Jvm.MethodName) jdk_42_method_3_code (2 : Nat) (Option.none : Option Jvm.ClassFile.FieldType), Jvm.Cond.code ({ cls := "java/lang/String", name := "<init>", desc := "([CIILjava/lang/Void;)V" } : Jvm.MethodName) jdk_42_method_149_code (6 : Nat) (Option.none : Option Jvm.ClassFile.FieldType), Jvm.Cond.code ({ cls := "java/lang/Object", name := "<init>", desc := "()V" } : Jvm.MethodName) object_method_1_code (1 : Nat) (Option.none : Option Jvm.ClassFile.FieldType), Jvm.Cond.code ({ cls := "java/lang/StringUTF16", name := "compress", desc := "([CII)[B" } : Jvm.MethodName) jdk_52_method_16_code (6 : Nat) (Option.some (Jvm.ClassFile.FieldType.array Jvm.ClassFile.FieldType.byte)), Jvm.Cond.code ({ cls := "java/lang/StringUTF16", name := "compress", desc := "([CI[BII)I" } : Jvm.MethodName) jdk_52_method_21_code (7 : Nat) (Option.some Jvm.ClassFile.FieldType.int), Jvm.Cond.code ({ cls := "java/lang/StringUTF16", name := "coderFromArrayLen", desc := "([BI)B" } : Jvm.MethodName) jdk_52_method_15_code (2 : Nat) (Option.some Jvm.ClassFile.FieldType.byte), Jvm.Cond.code ({ cls := "com/example/picketline/picketline/io/InputException", name := "<init>", desc := "(Ljava/lang/String;Ljava/lang/String;)V" } : Jvm.MethodName) prog_5_method_1_code (3 : Nat) (Option.none : Option Jvm.ClassFile.FieldType), Jvm.Cond.code ({ cls := "java/lang/StringBuilder", name := "<init>", desc := "()V" } : Jvm.MethodName) jdk_67_method_1_code (1 : Nat) (Option.none : Option Jvm.ClassFile.FieldType), Jvm.Cond.code ({ cls := "java/lang/AbstractStringBuilder", name := "<init>", desc := "(I)V" } : Jvm.MethodName) jdk_68_method_2_code (2 : Nat) (Option.none : Option Jvm.ClassFile.FieldType), Jvm.Cond.code ({ cls := "java/lang/StringBuilder", name := "append", desc := "(Ljava/lang/String;)Ljava/lang/StringBuilder;" } : Jvm.MethodName) jdk_67_method_7_code (2 : Nat) (Option.some (Jvm.ClassFile.FieldType.object "java/lang/StringBuilder")), Jvm.Cond.code ({ cls := "java/lang/AbstractStringBuilder", name := "append", desc := "(Ljava/lang/String;)Ljava/lang/AbstractStringBuilder;" } : Jvm.MethodName) jdk_68_method_22_code (3 : Nat) (Option.some (Jvm.ClassFile.FieldType.object "java/lang/AbstractStringBuilder")), Jvm.Cond.code ({ cls := "java/lang/String", name := "length", desc := "()I" } : Jvm.MethodName) jdk_42_method_54_code (1 : Nat) (Option.some Jvm.ClassFile.FieldType.int), Jvm.Cond.code ({ cls := "java/lang/String", name := "coder", desc := "()B" } : Jvm.MethodName) jdk_42_method_152_code (1 : Nat) (Option.some Jvm.ClassFile.FieldType.byte), Jvm.Cond.code ({ cls := "java/lang/AbstractStringBuilder", name := "ensureCapacityInternal", desc := "(I)V" } : Jvm.MethodName) jdk_68_method_9_code (3 : Nat) (Option.none : Option Jvm.ClassFile.FieldType), Jvm.Cond.code ({ cls := "java/lang/AbstractStringBuilder", name := "putStringAt", desc := "(ILjava/lang/String;)V" } : Jvm.MethodName) jdk_68_method_73_code (3 : Nat) (Option.none : Option Jvm.ClassFile.FieldType), Jvm.Cond.code ({ cls := "java/lang/AbstractStringBuilder", name := "inflateIfNeededFor", desc := "(Ljava/lang/String;)V" } : Jvm.MethodName) jdk_68_method_71_code (2 : Nat) (Option.none : Option Jvm.ClassFile.FieldType), Jvm.Cond.code ({ cls := "java/lang/String", name := "getBytes", desc := "([BIB)V" } : Jvm.MethodName) jdk_42_method_147_code (4 : Nat) (Option.none : Option Jvm.ClassFile.FieldType), Jvm.Cond.code ({ cls := "java/lang/StringBuilder", name := "toString", desc := "()Ljava/lang/String;" } : Jvm.MethodName) jdk_67_method_42_code (1 : Nat) (Option.some (Jvm.ClassFile.FieldType.object "java/lang/String")), Jvm.Cond.code ({ cls := "java/lang/String", name := "<init>", desc := "(Ljava/lang/StringBuilder;)V" } : Jvm.MethodName) jdk_42_method_53_code (2 : Nat) (Option.none : Option Jvm.ClassFile.FieldType), Jvm.Cond.code ({ cls := "java/lang/String", name := "<init>", desc := "(Ljava/lang/AbstractStringBuilder;Ljava/lang/Void;)V" } : Jvm.MethodName) jdk_42_method_150_code (5 : Nat) (Option.none : Option Jvm.ClassFile.FieldType), Jvm.Cond.code ({ cls := "java/lang/AbstractStringBuilder", name := "getValue", desc := "()[B" } : Jvm.MethodName) jdk_68_method_64_code (1 : Nat) (Option.some (Jvm.ClassFile.FieldType.array Jvm.ClassFile.FieldType.byte)), Jvm.Cond.code ({ cls := "java/lang/StringBuilder", name := "length", desc := "()I" } : Jvm.MethodName) jdk_67_method_93_code (1 : Nat) (Option.some Jvm.ClassFile.FieldType.int), Jvm.Cond.code ({ cls := "java/lang/AbstractStringBuilder", name := "length", desc := "()I" } : Jvm.MethodName) jdk_68_method_6_code (1 : Nat) (Option.some Jvm.ClassFile.FieldType.int), Jvm.Cond.code ({ cls := "java/lang/AbstractStringBuilder", name := "isLatin1", desc := "()Z" } : Jvm.MethodName) jdk_68_method_68_code (1 : Nat) (Option.some Jvm.ClassFile.FieldType.boolean), Jvm.Cond.code ({ cls := "java/util/Arrays", name := "copyOfRange", desc := "([BII)[B" } : Jvm.MethodName) jdk_65_method_132_code (3 : Nat) (Option.some (Jvm.ClassFile.FieldType.array Jvm.ClassFile.FieldType.byte)), Jvm.Cond.code ({ cls := "java/util/Arrays", name := "copyOfRangeByte", desc := "([BII)[B" } : Jvm.MethodName) jdk_65_method_133_code (5 : Nat) (Option.some (Jvm.ClassFile.FieldType.array Jvm.ClassFile.FieldType.byte)), Jvm.Cond.code ({ cls := "java/util/Arrays", name := "checkLength", desc := "(II)V" } : Jvm.MethodName) jdk_65_method_131_code (2 : Nat) (Option.none : Option Jvm.ClassFile.FieldType), Jvm.Cond.code ({ cls := "java/lang/Math", name := "min", desc := "(II)I" } : Jvm.MethodName) jdk_29_method_69_code (2 : Nat) (Option.some Jvm.ClassFile.FieldType.int), Jvm.Cond.code ({ cls := "java/lang/Exception", name := "<init>", desc := "(Ljava/lang/String;)V" } : Jvm.MethodName) jdk_59_method_2_code (2 : Nat) (Option.none : Option Jvm.ClassFile.FieldType), Jvm.Cond.code ({ cls := "java/lang/Throwable", name := "<init>", desc := "(Ljava/lang/String;)V" } : Jvm.MethodName) jdk_78_method_2_code (2 : Nat) (Option.none : Option Jvm.ClassFile.FieldType), Jvm.Cond.code ({ cls := "java/lang/Throwable", name := "<init>", desc := "()V" } : Jvm.MethodName) jdk_78_method_1_code (1 : Nat) (Option.none : Option Jvm.ClassFile.FieldType), Jvm.Cond.code ({ cls := "com/example/picketline/picketline/io/InputException", name := "within", desc := "(Ljava/lang/String;)Lcom/example/picketline/picketline/io/InputException;" } : Jvm.MethodName) prog_5_method_2_code (2 : Nat) (Option.some (Jvm.ClassFile.FieldType.object "com/example/picketline/picketline/io/InputException")), Jvm.Cond.code ({ cls := "java/lang/Throwable", name := "getMessage", desc := "()Ljava/lang/String;" } : Jvm.MethodName) jdk_78_method_6_code (1 : Nat) (Option.some (Jvm.ClassFile.FieldType.object "java/lang/String")), Jvm.Cond.code ({ cls := "com/example/picketline/picketline/io/InputExceptionWithinPinLaw", name := "at", desc := "(Ljava/lang/String;ILjava/lang/String;)Z" } : Jvm.MethodName) method_3_code (3 : Nat) (Option.some Jvm.ClassFile.FieldType.boolean), Jvm.Cond.code ({ cls := "java/lang/String", name := "charAt", desc := "(I)C" } : Jvm.MethodName) jdk_42_method_56_code (2 : Nat) (Option.some Jvm.ClassFile.FieldType.char), Jvm.Cond.code ({ cls := "java/lang/String", name := "isLatin1", desc := "()Z" } : Jvm.MethodName) jdk_42_method_154_code (1 : Nat) (Option.some Jvm.ClassFile.FieldType.boolean), Jvm.Cond.code ({ cls := "java/lang/StringLatin1", name := "charAt", desc := "([BI)C" } : Jvm.MethodName) jdk_43_method_2_code (2 : Nat) (Option.some Jvm.ClassFile.FieldType.char), Jvm.Cond.code ({ cls := "java/lang/String", name := "checkIndex", desc := "(II)V" } : Jvm.MethodName) jdk_42_method_155_code (2 : Nat) (Option.none : Option Jvm.ClassFile.FieldType), Jvm.Cond.code ({ cls := "jdk/internal/util/Preconditions", name := "checkIndex", desc := "(IILjava/util/function/BiFunction;)I" } : Jvm.MethodName) jdk_41_method_11_code (3 : Nat) (Option.some Jvm.ClassFile.FieldType.int)]
set_option maxRecDepth 65536 in
theorem codes_eq : words1.filter isCode = codes1 := rfl
theorem w_codes : ∀ c ∈ words1.filter isCode, c.before args0 about1 = true := by
  rw [codes_eq]
  intro c hc
  simp only [codes1, List.mem_cons, List.not_mem_nil, or_false] at hc
  rcases hc with rfl | rfl | rfl | rfl | rfl | rfl | rfl | rfl | rfl | rfl | rfl | rfl | rfl | rfl | rfl | rfl | rfl | rfl | rfl | rfl | rfl | rfl | rfl | rfl | rfl | rfl | rfl | rfl | rfl | rfl | rfl | rfl | rfl | rfl | rfl | rfl | rfl | rfl | rfl | rfl | rfl
  · exact w_c0
  · exact w_c1
  · exact w_c2
  · exact w_c3
  · exact w_c4
  · exact w_c5
  · exact w_c6
  · exact w_c7
  · exact w_c8
  · exact w_c9
  · exact w_c10
  · exact w_c11
  · exact w_c12
  · exact w_c13
  · exact w_c14
  · exact w_c15
  · exact w_c16
  · exact w_c17
  · exact w_c18
  · exact w_c19
  · exact w_c20
  · exact w_c21
  · exact w_c22
  · exact w_c23
  · exact w_c24
  · exact w_c25
  · exact w_c26
  · exact w_c27
  · exact w_c28
  · exact w_c29
  · exact w_c30
  · exact w_c31
  · exact w_c32
  · exact w_c33
  · exact w_c34
  · exact w_c35
  · exact w_c36
  · exact w_c37
  · exact w_c38
  · exact w_c39
  · exact w_c40
set_option maxRecDepth 65536 in
theorem w_t1 : (words1.take 24).all (fun c => isCode c || c.before args0 about1) = true := by decide +kernel
set_option maxRecDepth 65536 in
theorem w_t2 : ((words1.drop 24).take 24).all (fun c => isCode c || c.before args0 about1) = true := by decide +kernel
set_option maxRecDepth 65536 in
theorem w_t3 : (((words1.drop 24).drop 24).take 24).all (fun c => isCode c || c.before args0 about1) = true := by decide +kernel
set_option maxRecDepth 65536 in
theorem w_t4 : ((((words1.drop 24).drop 24).drop 24).take 24).all (fun c => isCode c || c.before args0 about1) = true := by decide +kernel
set_option maxRecDepth 65536 in
theorem w_t5 : (((((words1.drop 24).drop 24).drop 24).drop 24).take 24).all (fun c => isCode c || c.before args0 about1) = true := by decide +kernel
set_option maxRecDepth 65536 in
theorem w_t6 : ((((((words1.drop 24).drop 24).drop 24).drop 24).drop 24).take 24).all (fun c => isCode c || c.before args0 about1) = true := by decide +kernel
set_option maxRecDepth 65536 in
theorem w_t7 : (((((((words1.drop 24).drop 24).drop 24).drop 24).drop 24).drop 24).take 24).all (fun c => isCode c || c.before args0 about1) = true := by decide +kernel
set_option maxRecDepth 65536 in
theorem w_t8 : ((((((((words1.drop 24).drop 24).drop 24).drop 24).drop 24).drop 24).drop 24).take 24).all (fun c => isCode c || c.before args0 about1) = true := by decide +kernel
set_option maxRecDepth 65536 in
theorem w_t9 : (((((((((words1.drop 24).drop 24).drop 24).drop 24).drop 24).drop 24).drop 24).drop 24).take 24).all (fun c => isCode c || c.before args0 about1) = true := by decide +kernel
set_option maxRecDepth 65536 in
theorem w_t10 : ((((((((((words1.drop 24).drop 24).drop 24).drop 24).drop 24).drop 24).drop 24).drop 24).drop 24).take 24).all (fun c => isCode c || c.before args0 about1) = true := by decide +kernel
set_option maxRecDepth 65536 in
theorem w_t11 : ((((((((((words1.drop 24).drop 24).drop 24).drop 24).drop 24).drop 24).drop 24).drop 24).drop 24).drop 24).all (fun c => isCode c || c.before args0 about1) = true := by decide +kernel
theorem w_tables : (allAtoms (Jvm.Cond.code x code maxLocals ret :: tables_1)).before args0 about1 = true := by
  rw [allAtoms_all]
  show words1.all (fun c => c.before args0 about1) = true
  refine all_split ?_ w_codes
  rw [← List.take_append_drop 24 words1, List.all_append, w_t1, ← List.take_append_drop 24 (words1.drop 24), List.all_append, w_t2, ← List.take_append_drop 24 ((words1.drop 24).drop 24), List.all_append, w_t3, ← List.take_append_drop 24 (((words1.drop 24).drop 24).drop 24), List.all_append, w_t4, ← List.take_append_drop 24 ((((words1.drop 24).drop 24).drop 24).drop 24), List.all_append, w_t5, ← List.take_append_drop 24 (((((words1.drop 24).drop 24).drop 24).drop 24).drop 24), List.all_append, w_t6, ← List.take_append_drop 24 ((((((words1.drop 24).drop 24).drop 24).drop 24).drop 24).drop 24), List.all_append, w_t7, ← List.take_append_drop 24 (((((((words1.drop 24).drop 24).drop 24).drop 24).drop 24).drop 24).drop 24), List.all_append, w_t8, ← List.take_append_drop 24 ((((((((words1.drop 24).drop 24).drop 24).drop 24).drop 24).drop 24).drop 24).drop 24), List.all_append, w_t9, ← List.take_append_drop 24 (((((((((words1.drop 24).drop 24).drop 24).drop 24).drop 24).drop 24).drop 24).drop 24).drop 24), List.all_append, w_t10, w_t11]
  rfl
set_option maxRecDepth 65536 in
theorem w_rest : rest_1_c.before args0 about1 = true := by decide +kernel
set_option maxRecDepth 65536 in
theorem w_case : (Jvm.Cond.and given_1 narrow_1).before args0 about1 = true := by decide +kernel
set_option maxRecDepth 65536 in
theorem w_consts : constsHeld consts_1 about1 := Jvm.Lit.constsHeldB_iff.mp (by decide +kernel)
theorem w_applies : (headSpec (Jvm.Cond.code x code maxLocals ret :: tables_1) room_1).applies x e0.platform about1 = true :=
  (Spec.applies_iff w_frames).mpr ⟨w_running, w_runnable, w_alone, w_named, w_hears, w_ripe, w_room, w_tables⟩
theorem atStart : AtStart classFile x code maxLocals ret World_1 tables_1 room_1 Calls_1 rest_1 Pre_1 launch0 p0 e0 about1 theMethod args0 below0 :=
  ⟨lists_1, trivial, launch0.admits_env _ _ _, launch0.least_env, fairChoices_fair.cas, fairChoices_fair.clock, w_frames, w_args, w_heap, w_applies, ⟨(by decide +kernel : framesKnown about1 = true), ⟨(by decide +kernel : tablesKnown about1 = true), ⟨w_consts, trivial⟩⟩⟩, w_rest, w_case⟩
end start1
theorem witness_1 : WitnessClaimed_1 := ⟨start1.p0, start1.e0, start1.about1, start1.theMethod, start1.args0, start1.below0, start1.atStart⟩
end Jvm.Pilot.@@N@@
