import JvmDerived
import JvmDerived.Pilot.@@N@@Statement
import JvmDerived.Pilot.@@N@@Code
set_option linter.unusedVariables false
set_option linter.unusedSimpArgs false

namespace Jvm.Pilot.@@N@@
open Jvm Jvm.ClassFile Sem Op Lib Jvm.Free Jvm.Stand Jvm.LawKit Jvm.RoadKit Bundle Jvm.Pilot.@@N@@.Jvm.D
theorem wl {a b : Nat} (h : Nat.ble a b = true) : a ≤ b := Nat.le_of_ble_eq_true h
theorem mW (i : Nat) {d : Jvm.Cond} (h : tables_1[i]? = some d) : d ∈ tables_1 := List.mem_of_getElem? h
/-- from the frame g' at S' the run comes to the frame g at S -/
abbrev Go (p : Program) (e : Env) (below : List Frame) (S : State) (g : JFrame) (S' : State) (g' : JFrame) : Prop := ∀ t, Steps p.tables e below (S.setTop g) t → Steps p.tables e below (S'.setTop g') t

abbrev mN0 : MethodName := ⟨"java/lang/String", "coder", "()B"⟩
abbrev mN1 : MethodName := ⟨"java/lang/String", "length", "()I"⟩
abbrev mN2 : MethodName := ⟨"java/lang/String", "isLatin1", "()Z"⟩
abbrev mN3 : MethodName := ⟨"jdk/internal/util/Preconditions", "checkIndex", "(IILjava/util/function/BiFunction;)I"⟩
abbrev mN4 : MethodName := ⟨"java/lang/String", "checkIndex", "(II)V"⟩
abbrev mN5 : MethodName := ⟨"java/lang/StringLatin1", "charAt", "([BI)C"⟩
abbrev mN6 : MethodName := ⟨"java/lang/StringUTF16", "length", "([B)I"⟩
abbrev mN7 : MethodName := ⟨"java/lang/StringUTF16", "checkIndex", "(I[B)V"⟩
abbrev mN8 : MethodName := ⟨"java/lang/StringUTF16", "getChar", "([BI)C"⟩
abbrev mN9 : MethodName := ⟨"java/lang/StringUTF16", "charAt", "([BI)C"⟩
abbrev mN10 : MethodName := ⟨"java/lang/String", "charAt", "(I)C"⟩
abbrev mN11 : MethodName := ⟨"java/lang/StringUTF16", "compress", "([CI[BII)I"⟩
abbrev mN12 : MethodName := ⟨"java/lang/StringUTF16", "newBytesLength", "(I)I"⟩
abbrev mN13 : MethodName := ⟨"java/lang/StringUTF16", "newBytesFor", "(I)[B"⟩
abbrev mN14 : MethodName := ⟨"java/lang/StringUTF16", "putChar", "([BII)V"⟩
abbrev mN15 : MethodName := ⟨"java/lang/StringUTF16", "toBytes", "([CII)[B"⟩
abbrev mN16 : MethodName := ⟨"java/lang/StringUTF16", "compress", "([CII)[B"⟩
abbrev mN17 : MethodName := ⟨"java/lang/StringUTF16", "coderFromArrayLen", "([BI)B"⟩
abbrev mN18 : MethodName := ⟨"java/lang/String", "<init>", "([CIILjava/lang/Void;)V"⟩
abbrev mN19 : MethodName := ⟨"java/lang/String", "<init>", "([C)V"⟩
abbrev mN20 : MethodName := ⟨"com/example/oxpecker/oxpecker/http/UriCharactersIsDigitsPinLaw", "draw", "(I)C"⟩
abbrev mN21 : MethodName := ⟨"com/example/oxpecker/oxpecker/http/UriCharactersIsDigitsPinLaw", "digit", "(C)Z"⟩
abbrev mN22 : MethodName := ⟨"com/example/oxpecker/oxpecker/http/UriCharacters", "isDigits", "(Ljava/lang/String;)Z"⟩
theorem own_fld {args : Array Value} {s : State} {t : Term} {x : Addr} {C n d : String} {k : Int32} (ht : t.eval args s none [] s = some (.ref x)) (h : (Jvm.Cond.eq (.field t C n d) (.int k)).value args s none s [] = some true) : Fld s s.heap x C n d (.int k) := by
  obtain ⟨y, z, h1, h2, h3, -⟩ := cmp_v (Or.inl h)
  have h2' : z = .int k := by simpa [Term.eval] using h2.symm
  subst h2'
  obtain ⟨u, rfl⟩ : ∃ u, y = .int u := by cases y <;> simp [Kin, Value.isRef] at h3 ⊢
  have h4 : u = k := by simpa [Jvm.Cond.value, h1, h2] using h
  subst h4
  exact Fld.start ((fld_at ht).symm.trans h1)

theorem own_m5 (x : Int32) : (x &&& 2147483647) % 5 = 0 ∨ (x &&& 2147483647) % 5 = 1 ∨ (x &&& 2147483647) % 5 = 2 ∨ (x &&& 2147483647) % 5 = 3 ∨ (x &&& 2147483647) % 5 = 4 := by
  have h1 := c_mask x 2147483647 31 (by decide) (by decide)
  have h2 := (c_irem (x &&& 2147483647) 5 5 (by decide)).1 (by omega)
  generalize (x &&& 2147483647) % 5 = k at h2 ⊢
  have e0 : (0 : Int32).toInt = 0 := by decide
  have e1 : (1 : Int32).toInt = 1 := by decide
  have e2 : (2 : Int32).toInt = 2 := by decide
  have e3 : (3 : Int32).toInt = 3 := by decide
  have e4 : (4 : Int32).toInt = 4 := by decide
  simp only [← Int32.toInt_inj, e0, e1, e2, e3, e4]
  omega

theorem own_fitc {c : Int32} (h : nar .char c = c) : fits .char (.int c) = true := by have q := fits_nar_char c; rwa [h] at q
theorem own_i2b2 (x : Int32) : nar .byte x.toInt8.toInt32 = x.toInt8.toInt32 := by
  show x.toInt8.toInt32.toInt8.toInt32 = x.toInt8.toInt32
  rw [Int8.toInt8_toInt32]
theorem own_nc {c : Int32} (h1 : 0 ≤ c.toInt) (h2 : c.toInt < 65536) : nar .char c = c := by
  show c.toUInt32.toUInt16.toUInt32.toInt32 = c
  have q := c_i2c c
  rw [← Int32.toInt_inj]; omega
/-- the chars that a String spells: one byte each, or two -/
def LatV (cs : List Int32) : List Value := cs.map fun c => .int c.toInt8.toInt32
def lo8 (c : Int32) : Int32 := (c >>> ((0 : Int32) &&& 31)).toInt8.toInt32
def hi8 (c : Int32) : Int32 := (c >>> ((8 : Int32) &&& 31)).toInt8.toInt32
def WidV : List Int32 → List Value
  | [] => []
  | c :: cs => .int (lo8 c) :: .int (hi8 c) :: WidV cs
def Str (Z : State) (h : Heap) (a : Addr) (cs : List Int32) : Prop := ∃ (cd : Int32) (b : Addr) (k : ClassId) (z : Int32) (vs : List Value), Exa Z h a "java/lang/String" ∧ Fld Z h a "java/lang/String" "coder" "B" (.int cd) ∧ Fld Z h a "java/lang/String" "value" "[B" (.ref b) ∧ Arv Z h b k .byte z vs (.int 0) ∧ cs.length ≤ 4000 ∧
  ((cd = 0 ∧ z.toInt = cs.length ∧ vs = LatV cs ∧ ∀ c ∈ cs, 0 ≤ c.toInt ∧ c.toInt < 256) ∨ (cd = 1 ∧ z.toInt = 2 * cs.length ∧ vs = WidV cs ∧ ∀ c ∈ cs, 0 ≤ c.toInt ∧ c.toInt < 65536))
theorem Str.exa {Z : State} {h : Heap} {a : Addr} {cs : List Int32} (S : Str Z h a cs) : Exa Z h a "java/lang/String" := by obtain ⟨_, _, _, _, _, E, -⟩ := S; exact E
theorem own_lat {c : Int32} (h1 : 0 ≤ c.toInt) (h2 : c.toInt < 256) : c.toInt8.toInt32 &&& 255 = c := by
  have q := c_mask c.toInt8.toInt32 255 8 (by decide) (by decide)
  have q2 := c_i2b c
  rw [← Int32.toInt_inj, q]
  have e : ((2 ^ 8 : Nat) : Int) = 256 := by decide
  rw [e]; omega
theorem own_lat_at {cs : List Int32} {i : Nat} {c : Int32} (h : cs[i]? = some c) : (LatV cs).getD i (.int 0) = .int c.toInt8.toInt32 := by
  simp [LatV, List.getD, h]
theorem own_wid_at : ∀ {cs : List Int32} {i : Nat} {c : Int32}, cs[i]? = some c → (WidV cs).getD (2 * i) (.int 0) = .int (lo8 c) ∧ (WidV cs).getD (2 * i + 1) (.int 0) = .int (hi8 c)
  | [], i, c, h => by simp at h
  | x :: xs, 0, c, h => by simp at h; subst h; exact ⟨rfl, rfl⟩
  | x :: xs, i + 1, c, h => by
    have q := own_wid_at (cs := xs) (i := i) (c := c) (by simpa using h)
    have e1 : 2 * (i + 1) = 2 * i + 1 + 1 := by omega
    have e2 : 2 * (i + 1) + 1 = 2 * i + 1 + 1 + 1 := by omega
    rw [e1]
    exact q
theorem own_get {c : Int32} (h1 : 0 ≤ c.toInt) (h2 : c.toInt < 65536) : ((((lo8 c &&& 255) <<< ((0 : Int32) &&& 31)) ||| ((hi8 c &&& 255) <<< ((8 : Int32) &&& 31))).toUInt32.toUInt16.toUInt32.toInt32) = c := by
  have a0 := c_ishr c 0 0 (by decide)
  have a8 := c_ishr c 8 8 (by decide)
  have b0 := c_mask (lo8 c) 255 8 (by decide) (by decide)
  have b8 := c_mask (hi8 c) 255 8 (by decide) (by decide)
  have d0 := c_i2b (c >>> ((0 : Int32) &&& 31))
  have d8 := c_i2b (c >>> ((8 : Int32) &&& 31))
  have e0 := c_ishl (lo8 c &&& 255) 0 0 (by decide)
  have e8 := c_ishl (hi8 c &&& 255) 8 8 (by decide)
  have w0 := rng32 ((lo8 c &&& 255) <<< ((0 : Int32) &&& 31))
  have w8 := rng32 ((hi8 c &&& 255) <<< ((8 : Int32) &&& 31))
  have p0 : ((2 ^ 0 : Nat) : Int) = 1 := by decide
  have p8 : ((2 ^ 8 : Nat) : Int) = 256 := by decide
  rw [p0] at a0 e0
  rw [p8] at a8 b0 b8 e8
  have f : (lo8 c) = (c >>> ((0 : Int32) &&& 31)).toInt8.toInt32 := rfl
  have g : (hi8 c) = (c >>> ((8 : Int32) &&& 31)).toInt8.toInt32 := rfl
  rw [← f] at d0
  rw [← g] at d8
  have o := c_or' ((lo8 c &&& 255) <<< ((0 : Int32) &&& 31)) ((hi8 c &&& 255) <<< ((8 : Int32) &&& 31)) 8 (by decide) 256 (by decide) (by omega) (by omega) (by omega)
  have w := rng32 (((lo8 c &&& 255) <<< ((0 : Int32) &&& 31)) ||| ((hi8 c &&& 255) <<< ((8 : Int32) &&& 31)))
  generalize (((lo8 c &&& 255) <<< ((0 : Int32) &&& 31)) ||| ((hi8 c &&& 255) <<< ((8 : Int32) &&& 31))) = x at o w ⊢
  have q := c_i2c x
  rw [← Int32.toInt_inj]; omega

theorem mJ (i : Nat) {d : Jvm.Cond} (h : jdkStatics_1[i]? = some d) : d ∈ jdkStatics_1 := List.mem_of_getElem? h
def Jd (Z : State) (cz : Int32) (fv : Value) : Prop := Sta Z Z.heap "java/lang/String" "COMPACT_STRINGS" "Z" (.int cz) ∧ cz ≠ 0 ∧ (fv.isRef = true ∧ Sta Z Z.heap "jdk/internal/util/Preconditions" "SIOOBE_FORMATTER" "Ljava/util/function/BiFunction;" fv) ∧ Sta Z Z.heap "java/lang/StringUTF16" "$assertionsDisabled" "Z" (.int 1) ∧ Sta Z Z.heap "java/lang/StringUTF16" "HI_BYTE_SHIFT" "I" (.int 0) ∧ Sta Z Z.heap "java/lang/StringUTF16" "LO_BYTE_SHIFT" "I" (.int 8) ∧ True
abbrev rKJco : Room := { frames := 0, cells := 0, slots := 0, locals := 0 }
theorem dJco_0 : decode jdk_42_method_152_code 0 = .ok (.getstatic 38, 3) := by decide +kernel
theorem dJco_3 : decode jdk_42_method_152_code 3 = .ok (.ifCond .eq 10, 3) := by decide +kernel
theorem dJco_6 : decode jdk_42_method_152_code 6 = .ok (.aload_n 0, 1) := by decide +kernel
theorem dJco_7 : decode jdk_42_method_152_code 7 = .ok (.getfield 15, 3) := by decide +kernel
theorem dJco_10 : decode jdk_42_method_152_code 10 = .ok (.goto 4, 3) := by decide +kernel
theorem dJco_14 : decode jdk_42_method_152_code 14 = .ok (.ireturn, 1) := by decide +kernel
theorem pnJco : plainName "java/lang/String" = true := by first | (simp [plainName, overriddenIn]; done) | decide +kernel
theorem efJco (m : MethodId) (a1 : Addr) : entryFrame m #[(.ref a1)] 1 = mkF m 0 #[rv a1] [] := by first | (simp [entryFrame, mkF, argsToLocals, Value.category]; done) | rfl
def QJco (Z : State) (a1 : Addr) (cz : Int32) (fv : Value) (cd : Int32) (r : Int32) (h0 : Heap) (n0 : Nat) (v : Option Value) (h : Heap) (L : List Loc) : Prop := v = some (.int r) ∧ Fr n0 L ∧ h = h0
set_option maxRecDepth 65536 in
set_option maxHeartbeats 40000000 in
theorem rmJco (l : Launch) (Z : State) (a0 : Array Value) (hw : ∀ d ∈ tables_1, d.before a0 Z = true) (ws : List Jvm.Cond) (a1 : Addr) (cz : Int32) (fv : Value) (cd : Int32) (r : Int32) (h0 : Heap) (n0 : Nat) (Z0 : n0 ≤ h0.size) (O0 : Old Z n0 h0) (J0 : Jd Z cz fv) (FC : Fld Z h0 a1 "java/lang/String" "coder" "B" (.int cd)) (hcd : nar .byte cd = cd) (hR : cd = r) :
    MetFree l mN0 (head1 (Jvm.Cond.code mN0 jdk_42_method_152_code 1 (some .byte) :: ws) rKJco) (fun a U => a = #[(.ref a1)] ∧ Z.Warmed39 U.vm ∧ U.heap = h0) (fun _ _ _ _ _ => True) (fun _ U o U' => ∃ v L, o = .returned v ∧ QJco Z a1 cz fv cd r h0 n0 v U'.heap L ∧ FrameEnd U o U' L rKJco.cells rKJco.slots) := by
  refine MetFree.of_bodySF (plainFor_of_name pnJco) hisR ?_
  intro p e s m args below meth c s₁ Bd hml0 hP hK
  obtain ⟨rfl, hZ, hh⟩ := hP
  have hx := Bd.exec
  have hby := Bd.bytes
  have hml : c.maxLocals = 1 := hml0
  have hown : s.vm.findClass "java/lang/String" = some m.cls := findClass_of_methodNamed Bd.named
  have hnm := (name_of_methodNamed Bd.named Bd.method).1
  have X0 : Stand p l e rKJco s m #[(.ref a1)] below meth c s₁ [] 0 0 := Stand.of_body Bd
  have e0 : s₁.heap = h0 := by rw [← hh, Bd.state]; rfl
  have N0 := Fr.nil n0
  obtain ⟨EF, hEF⟩ : ∃ f, f = entryFrame m #[(.ref a1)] 1 := ⟨_, rfl⟩
  have pre0 : Go p e below s₁ (mkF m 0 #[rv a1] []) s₁ EF := fun t k => by rw [hEF]; exact castTop (efJco m a1) k
  obtain ⟨T1, X1, e1, st1⟩ := getS2 X0 hx hZ hown (host := "") (Or.inl (hw _ (mW 43 rfl))) Via.refl e0 (J0.1.ext O0.2) (g := (mkF m 0 #[rv a1] [])) rfl (hb hby dJco_0)
  have pre2 : Go p e below T1 (mkF m 3 #[rv a1] [(.int cz)]) s₁ EF := fun t k => pre0 t (st1 t k)
  have pre3 : Go p e below T1 (mkF m 6 #[rv a1] []) s₁ EF := fun t k => pre2 t (XS.ifNo X1.here hx rfl (hb hby dJco_3) rfl ((if0 _ _).trans (feq J0.2.1).1) k)
  have pre4 : Go p e below T1 (mkF m 7 #[rv a1] [(.ref a1)]) s₁ EF := fun t k => pre3 t (by
      refine XS.aloadN X1.here hx rfl (hb hby dJco_6) rfl rfl ?_
      exact k)
  obtain ⟨T5, X5, e5, st5⟩ := getF X1 hx hZ hown (host := "") (Or.inl (hw _ (mW 28 rfl))) Via.refl e1 FC (g := (mkF m 7 #[rv a1] [(.ref a1)])) rfl rfl (hb hby dJco_7)
  have pre6 : Go p e below T5 (mkF m 10 #[rv a1] [(.int cd)]) s₁ EF := fun t k => pre4 t (st5 t k)
  have pre7 : Go p e below T5 (mkF m 14 #[rv a1] [(.int cd)]) s₁ EF := fun t k => pre6 t (by
      refine XS.goto X5.here hx rfl (pc0 := 10) (pc' := 14) rfl (hb hby dJco_10) (by decide) (by decide) ?_
      exact k)
  have hnr : Value.int (nar .byte cd) = (.int cd) := by rw [hcd]
  obtain ⟨fs, hr, hrun, hended, hW, hsame⟩ := X5.leave (v := some (.int cd)) (fun h => by rw [Bd.returns] at h; cases h)
  refine ⟨_, _, hEF ▸ pre7 _ (retN X5 hx (t := .byte) Bd.returns (by simp) (hb hby dJco_14) (hnr ▸ hr)), hrun, hended, _, _, rfl, ?_, ⟨_, rfl⟩, hW, hsame.mono (by decide) (by decide)⟩
  show QJco Z a1 cz fv cd r h0 n0 _ T5.heap _
  rw [e5]
  exact ⟨by rw [hR], N0, rfl⟩
abbrev rKJle : Room := { frames := 1, cells := 0, slots := 0, locals := 13 }
theorem dJle_0 : decode jdk_42_method_54_code 0 = .ok (.aload_n 0, 1) := by decide +kernel
theorem dJle_1 : decode jdk_42_method_54_code 1 = .ok (.getfield 9, 3) := by decide +kernel
theorem dJle_4 : decode jdk_42_method_54_code 4 = .ok (.arraylength, 1) := by decide +kernel
theorem dJle_5 : decode jdk_42_method_54_code 5 = .ok (.aload_n 0, 1) := by decide +kernel
theorem dJle_6 : decode jdk_42_method_54_code 6 = .ok (.invokevirtual 335, 3) := by decide +kernel
theorem dJle_9 : decode jdk_42_method_54_code 9 = .ok (.ishr, 1) := by decide +kernel
theorem dJle_10 : decode jdk_42_method_54_code 10 = .ok (.ireturn, 1) := by decide +kernel
theorem pnJle : plainName "java/lang/String" = true := by first | (simp [plainName, overriddenIn]; done) | decide +kernel
theorem pdJle_0 : parseMethodDescriptor "()B" = some ⟨[], some .byte⟩ := by decide +kernel
theorem efJle (m : MethodId) (a1 : Addr) : entryFrame m #[(.ref a1)] 1 = mkF m 0 #[rv a1] [] := by first | (simp [entryFrame, mkF, argsToLocals, Value.category]; done) | rfl
def QJle (Z : State) (a1 : Addr) (cz : Int32) (fv : Value) (cd : Int32) (b : Addr) (k : ClassId) (z : Int32) (vs : List Value) (r : Int32) (h0 : Heap) (n0 : Nat) (v : Option Value) (h : Heap) (L : List Loc) : Prop := v = some (.int r) ∧ Fr n0 L ∧ h = h0
set_option maxRecDepth 65536 in
set_option maxHeartbeats 40000000 in
theorem rmJle (l : Launch) (Z : State) (a0 : Array Value) (hw : ∀ d ∈ tables_1, d.before a0 Z = true) (ws : List Jvm.Cond) (a1 : Addr) (cz : Int32) (fv : Value) (cd : Int32) (b : Addr) (k : ClassId) (z : Int32) (vs : List Value) (r : Int32) (h0 : Heap) (n0 : Nat) (Z0 : n0 ≤ h0.size) (O0 : Old Z n0 h0) (J0 : Jd Z cz fv) (E1 : Exa Z h0 a1 "java/lang/String") (FC : Fld Z h0 a1 "java/lang/String" "coder" "B" (.int cd)) (FV : Fld Z h0 a1 "java/lang/String" "value" "[B" (.ref b)) (VV : Arv Z h0 b k .byte z vs (.int 0)) (hcd : nar .byte cd = cd) (hR : z >>> (cd &&& 31) = r) :
    MetFree l mN1 (head1 (Jvm.Cond.code mN1 jdk_42_method_54_code 1 (some .int) :: ws) rKJle) (fun a U => a = #[(.ref a1)] ∧ Z.Warmed39 U.vm ∧ U.heap = h0) (fun _ _ _ _ _ => True) (fun _ U o U' => ∃ v L, o = .returned v ∧ QJle Z a1 cz fv cd b k z vs r h0 n0 v U'.heap L ∧ FrameEnd U o U' L rKJle.cells rKJle.slots) := by
  refine MetFree.of_bodySF (plainFor_of_name pnJle) hisR ?_
  intro p e s m args below meth c s₁ Bd hml0 hP hK
  obtain ⟨rfl, hZ, hh⟩ := hP
  have hx := Bd.exec
  have hby := Bd.bytes
  have hml : c.maxLocals = 1 := hml0
  have hown : s.vm.findClass "java/lang/String" = some m.cls := findClass_of_methodNamed Bd.named
  have hnm := (name_of_methodNamed Bd.named Bd.method).1
  have X0 : Stand p l e rKJle s m #[(.ref a1)] below meth c s₁ [] 0 0 := Stand.of_body Bd
  have e0 : s₁.heap = h0 := by rw [← hh, Bd.state]; rfl
  have N0 := Fr.nil n0
  obtain ⟨EF, hEF⟩ : ∃ f, f = entryFrame m #[(.ref a1)] 1 := ⟨_, rfl⟩
  have pre0 : Go p e below s₁ (mkF m 0 #[rv a1] []) s₁ EF := fun t k => by rw [hEF]; exact castTop (efJle m a1) k
  have pre1 : Go p e below s₁ (mkF m 1 #[rv a1] [(.ref a1)]) s₁ EF := fun t k => pre0 t (by
      refine XS.aloadN X0.here hx rfl (hb hby dJle_0) rfl rfl ?_
      exact k)
  obtain ⟨T2, X2, e2, st2⟩ := getF X0 hx hZ hown (host := "") (Or.inl (hw _ (mW 27 rfl))) Via.refl e0 FV (g := (mkF m 1 #[rv a1] [(.ref a1)])) rfl rfl (hb hby dJle_1)
  have pre3 : Go p e below T2 (mkF m 4 #[rv a1] [(.ref b)]) s₁ EF := fun t k => pre1 t (st2 t k)
  obtain ⟨cl4, Ar4, q4, Sz4, M4, H4, G4⟩ := id VV
  have pre5 : Go p e below T2 (mkF m 6 #[rv a1] [(.ref a1), (.int z)]) s₁ EF := fun t k => pre3 t (by
      refine X2.arraylength hx (by rw [e2]; exact Ar4.1) (State.isArrayOf_alike hZ.alike Ar4.2.1) (g := (mkF m 4 #[rv a1] [(.ref b)])) rfl rfl (hb hby dJle_4) _ ?_
      rw [len_of Sz4 M4]
      refine XS.aloadN X2.here hx rfl (hb hby dJle_5) rfl rfl ?_
      exact k)
  obtain ⟨cq6, kq6, q6a, q6b, q6c⟩ := isOf hZ e2 E1
  obtain ⟨_, _, ⟨T6, L6, k6, n6⟩, -, X6, ⟨Lc6, hQ6, l6, y6, z6⟩, st6⟩ := X2.virtualBack hx (y := mN0) (z := mN0) hown (mvT hZ (hw _ (mW 38 rfl))) (mvT hZ (hw _ (mW 39 rfl))) (notFace_of_selects (args := #[]) (mvT hZ (hw _ (mW 41 rfl)))) (mvT hZ (hw _ (mW 41 rfl))) (mvT hZ (hw _ (mW 40 rfl))) (by decide) (backOf (W := 1) (rmJco l Z a0 hw [] a1 cz fv cd cd h0 n0 Z0 O0 J0 FC hcd rfl) hZ (hw _ (mW 42 rfl)) (hw _ (mW 10 rfl)) (by decide) (by decide)) q6a q6c (g := (mkF m 6 #[rv a1] [(.ref a1), (.int z)])) rfl (by rw [hml]; rfl) (Steps.refl _) (argsL := []) (rest := [(.int z)]) (lenOf pdJle_0 rfl) rfl (Nat.le_of_eq rfl) (hb hby dJle_6) (fun _ _ => ⟨rfl, e2, wl rfl, wl rfl⟩)
  dsimp only [Pt.U, Pt.locs, Pt.cells, Pt.slots] at X6 l6 y6 z6 st6 hQ6
  subst l6 y6 z6
  obtain ⟨rfl, N6q, hq6⟩ := hQ6
  have N6 := Fr.app N0 N6q
  have pre7 : Go p e below T6 (mkF m 9 #[rv a1] [(.int cd), (.int z)]) s₁ EF := fun t k => pre5 t (st6.trans k)
  have e6 : T6.heap = h0 := hq6
  have pre8 : Go p e below T6 (mkF m 10 #[rv a1] [(.int (z >>> (cd &&& 31)))]) s₁ EF := fun t k => pre7 t (by
      refine XS.ishr X6.here hx rfl (hb hby dJle_9) rfl ?_
      exact k)
  obtain ⟨fs, hr, hrun, hended, hW, hsame⟩ := X6.leave (v := some (.int (z >>> (cd &&& 31)))) (fun h => by rw [Bd.returns] at h; cases h)
  refine ⟨_, _, hEF ▸ pre8 _ (retOut X6 hx Bd.returns rfl (Or.inl ⟨rfl, Or.inl rfl, _, rfl⟩) (hb hby dJle_10) hr), hrun, hended, _, _, rfl, ?_, ⟨_, rfl⟩, hW, hsame.mono (by decide) (by decide)⟩
  show QJle Z a1 cz fv cd b k z vs r h0 n0 _ T6.heap _
  rw [e6]
  exact ⟨by rw [hR], N6, rfl⟩
def QJL (n : Int32) (h0 : Heap) (n0 : Nat) (v : Option Value) (h : Heap) (L : List Loc) : Prop := v = some (.int n) ∧ Fr n0 L ∧ h = h0
theorem own_shr {z : Int32} {n : Int32} (h : z.toInt = 2 * n.toInt) : z >>> ((1 : Int32) &&& 31) = n := by
  have q := c_ishr z 1 1 (by decide)
  have p : ((2 ^ 1 : Nat) : Int) = 2 := by decide
  rw [p] at q; rw [← Int32.toInt_inj, q]; omega
theorem own_shr0 {z : Int32} {n : Int32} (h : z.toInt = n.toInt) : z >>> ((0 : Int32) &&& 31) = n := by
  have q := c_ishr z 0 0 (by decide)
  have p : ((2 ^ 0 : Nat) : Int) = 1 := by decide
  rw [p] at q; rw [← Int32.toInt_inj, q]; omega
theorem rmJL (l : Launch) (Z : State) (a0 : Array Value) (hw : ∀ d ∈ tables_1, d.before a0 Z = true) (ws : List Jvm.Cond) (a1 : Addr) (cz : Int32) (fv : Value) (cs : List Int32) (n : Int32) (h0 : Heap) (n0 : Nat) (Z0 : n0 ≤ h0.size) (O0 : Old Z n0 h0) (J0 : Jd Z cz fv) (S : Str Z h0 a1 cs) (hn : n.toInt = cs.length) :
    MetFree l mN1 (head1 (Jvm.Cond.code mN1 jdk_42_method_54_code 1 (some .int) :: ws) rKJle) (fun a U => a = #[(.ref a1)] ∧ Z.Warmed39 U.vm ∧ U.heap = h0) (fun _ _ _ _ _ => True) (fun _ U o U' => ∃ v L, o = .returned v ∧ QJL n h0 n0 v U'.heap L ∧ FrameEnd U o U' L rKJle.cells rKJle.slots) := by
  obtain ⟨cd, b, k, z, vs, E, FC, FV, VV, hb, h⟩ := S
  rcases h with ⟨rfl, hz, -, -⟩ | ⟨rfl, hz, -, -⟩
  · exact rmJle l Z a0 hw ws a1 cz fv 0 b k z vs n h0 n0 Z0 O0 J0 E FC FV VV rfl (own_shr0 (by omega))
  · exact rmJle l Z a0 hw ws a1 cz fv 1 b k z vs n h0 n0 Z0 O0 J0 E FC FV VV rfl (own_shr (by omega))
abbrev rKJil : Room := { frames := 0, cells := 0, slots := 0, locals := 0 }
theorem dJil_0 : decode jdk_42_method_154_code 0 = .ok (.getstatic 38, 3) := by decide +kernel
theorem dJil_3 : decode jdk_42_method_154_code 3 = .ok (.ifCond .eq 14, 3) := by decide +kernel
theorem dJil_6 : decode jdk_42_method_154_code 6 = .ok (.aload_n 0, 1) := by decide +kernel
theorem dJil_7 : decode jdk_42_method_154_code 7 = .ok (.getfield 15, 3) := by decide +kernel
theorem dJil_10 : decode jdk_42_method_154_code 10 = .ok (.ifCond .ne 7, 3) := by decide +kernel
theorem dJil_13 : decode jdk_42_method_154_code 13 = .ok (.iconst 1, 1) := by decide +kernel
theorem dJil_14 : decode jdk_42_method_154_code 14 = .ok (.goto 4, 3) := by decide +kernel
theorem dJil_17 : decode jdk_42_method_154_code 17 = .ok (.iconst 0, 1) := by decide +kernel
theorem dJil_18 : decode jdk_42_method_154_code 18 = .ok (.ireturn, 1) := by decide +kernel
theorem pnJil : plainName "java/lang/String" = true := by first | (simp [plainName, overriddenIn]; done) | decide +kernel
theorem efJil (m : MethodId) (a1 : Addr) : entryFrame m #[(.ref a1)] 1 = mkF m 0 #[rv a1] [] := by first | (simp [entryFrame, mkF, argsToLocals, Value.category]; done) | rfl
def QJil (Z : State) (a1 : Addr) (cz : Int32) (fv : Value) (cd : Int32) (r : Int32) (h0 : Heap) (n0 : Nat) (v : Option Value) (h : Heap) (L : List Loc) : Prop := v = some (.int r) ∧ Fr n0 L ∧ h = h0
set_option maxRecDepth 65536 in
set_option maxHeartbeats 40000000 in
theorem rmJil (l : Launch) (Z : State) (a0 : Array Value) (hw : ∀ d ∈ tables_1, d.before a0 Z = true) (ws : List Jvm.Cond) (a1 : Addr) (cz : Int32) (fv : Value) (cd : Int32) (r : Int32) (h0 : Heap) (n0 : Nat) (Z0 : n0 ≤ h0.size) (O0 : Old Z n0 h0) (J0 : Jd Z cz fv) (FC : Fld Z h0 a1 "java/lang/String" "coder" "B" (.int cd)) (hR : (if cd = 0 then 1 else 0) = r) :
    MetFree l mN2 (head1 (Jvm.Cond.code mN2 jdk_42_method_154_code 1 (some .boolean) :: ws) rKJil) (fun a U => a = #[(.ref a1)] ∧ Z.Warmed39 U.vm ∧ U.heap = h0) (fun _ _ _ _ _ => True) (fun _ U o U' => ∃ v L, o = .returned v ∧ QJil Z a1 cz fv cd r h0 n0 v U'.heap L ∧ FrameEnd U o U' L rKJil.cells rKJil.slots) := by
  refine MetFree.of_bodySF (plainFor_of_name pnJil) hisR ?_
  intro p e s m args below meth c s₁ Bd hml0 hP hK
  obtain ⟨rfl, hZ, hh⟩ := hP
  have hx := Bd.exec
  have hby := Bd.bytes
  have hml : c.maxLocals = 1 := hml0
  have hown : s.vm.findClass "java/lang/String" = some m.cls := findClass_of_methodNamed Bd.named
  have hnm := (name_of_methodNamed Bd.named Bd.method).1
  have X0 : Stand p l e rKJil s m #[(.ref a1)] below meth c s₁ [] 0 0 := Stand.of_body Bd
  have e0 : s₁.heap = h0 := by rw [← hh, Bd.state]; rfl
  have N0 := Fr.nil n0
  obtain ⟨EF, hEF⟩ : ∃ f, f = entryFrame m #[(.ref a1)] 1 := ⟨_, rfl⟩
  have pre0 : Go p e below s₁ (mkF m 0 #[rv a1] []) s₁ EF := fun t k => by rw [hEF]; exact castTop (efJil m a1) k
  obtain ⟨T1, X1, e1, st1⟩ := getS2 X0 hx hZ hown (host := "") (Or.inl (hw _ (mW 43 rfl))) Via.refl e0 (J0.1.ext O0.2) (g := (mkF m 0 #[rv a1] [])) rfl (hb hby dJil_0)
  have pre2 : Go p e below T1 (mkF m 3 #[rv a1] [(.int cz)]) s₁ EF := fun t k => pre0 t (st1 t k)
  have pre3 : Go p e below T1 (mkF m 6 #[rv a1] []) s₁ EF := fun t k => pre2 t (XS.ifNo X1.here hx rfl (hb hby dJil_3) rfl ((if0 _ _).trans (feq J0.2.1).1) k)
  have pre4 : Go p e below T1 (mkF m 7 #[rv a1] [(.ref a1)]) s₁ EF := fun t k => pre3 t (by
      refine XS.aloadN X1.here hx rfl (hb hby dJil_6) rfl rfl ?_
      exact k)
  obtain ⟨T5, X5, e5, st5⟩ := getF X1 hx hZ hown (host := "") (Or.inl (hw _ (mW 28 rfl))) Via.refl e1 FC (g := (mkF m 7 #[rv a1] [(.ref a1)])) rfl rfl (hb hby dJil_7)
  have pre6 : Go p e below T5 (mkF m 10 #[rv a1] [(.int cd)]) s₁ EF := fun t k => pre4 t (st5 t k)
  by_cases hc10 : cd = (0 : Int32)
  · have pre7 : Go p e below T5 (mkF m 13 #[rv a1] []) s₁ EF := fun t k => pre6 t (XS.ifNo X5.here hx rfl (hb hby dJil_10) rfl ((if0 _ _).trans (teq hc10).2) k)
    have pre8 : Go p e below T5 (mkF m 18 #[rv a1] [(.int (1 : Int32))]) s₁ EF := fun t k => pre7 t (by
        refine XS.iconst X5.here hx rfl (hb hby dJil_13) ?_
        refine XS.goto X5.here hx rfl (pc0 := 14) (pc' := 18) rfl (hb hby dJil_14) (by decide) (by decide) ?_
        exact k)
    have hnr : Value.int (nar .boolean (1 : Int32)) = (.int (1 : Int32)) := by rfl
    obtain ⟨fs, hr, hrun, hended, hW, hsame⟩ := X5.leave (v := some (.int (1 : Int32))) (fun h => by rw [Bd.returns] at h; cases h)
    refine ⟨_, _, hEF ▸ pre8 _ (retN X5 hx (t := .boolean) Bd.returns (by simp) (hb hby dJil_18) (hnr ▸ hr)), hrun, hended, _, _, rfl, ?_, ⟨_, rfl⟩, hW, hsame.mono (by decide) (by decide)⟩
    show QJil Z a1 cz fv cd r h0 n0 _ T5.heap _
    rw [e5]
    exact ⟨by rw [← hR]; simp [hc10], N0, rfl⟩
  have pre9 : Go p e below T5 (mkF m 17 #[rv a1] []) s₁ EF := fun t k => pre6 t (XS.ifYes X5.here hx rfl (pc0 := 10) (pc' := 17) rfl (hb hby dJil_10) rfl ((if0 _ _).trans (feq hc10).2) (by decide) (by decide) k)
  have pre10 : Go p e below T5 (mkF m 18 #[rv a1] [(.int (0 : Int32))]) s₁ EF := fun t k => pre9 t (by
      refine XS.iconst X5.here hx rfl (hb hby dJil_17) ?_
      exact k)
  have hnr : Value.int (nar .boolean (0 : Int32)) = (.int (0 : Int32)) := by rfl
  obtain ⟨fs, hr, hrun, hended, hW, hsame⟩ := X5.leave (v := some (.int (0 : Int32))) (fun h => by rw [Bd.returns] at h; cases h)
  refine ⟨_, _, hEF ▸ pre10 _ (retN X5 hx (t := .boolean) Bd.returns (by simp) (hb hby dJil_18) (hnr ▸ hr)), hrun, hended, _, _, rfl, ?_, ⟨_, rfl⟩, hW, hsame.mono (by decide) (by decide)⟩
  show QJil Z a1 cz fv cd r h0 n0 _ T5.heap _
  rw [e5]
  exact ⟨by rw [← hR]; simp [hc10], N0, rfl⟩
abbrev rKJpc : Room := { frames := 0, cells := 0, slots := 0, locals := 0 }
theorem dJpc_0 : decode jdk_41_method_11_code 0 = .ok (.iload_n 0, 1) := by decide +kernel
theorem dJpc_1 : decode jdk_41_method_11_code 1 = .ok (.ifCond .lt 8, 3) := by decide +kernel
theorem dJpc_4 : decode jdk_41_method_11_code 4 = .ok (.iload_n 0, 1) := by decide +kernel
theorem dJpc_5 : decode jdk_41_method_11_code 5 = .ok (.iload_n 1, 1) := by decide +kernel
theorem dJpc_6 : decode jdk_41_method_11_code 6 = .ok (.if_icmp .lt 10, 3) := by decide +kernel
theorem dJpc_16 : decode jdk_41_method_11_code 16 = .ok (.iload_n 0, 1) := by decide +kernel
theorem dJpc_17 : decode jdk_41_method_11_code 17 = .ok (.ireturn, 1) := by decide +kernel
theorem pnJpc : plainName "jdk/internal/util/Preconditions" = true := by first | (simp [plainName, overriddenIn]; done) | decide +kernel
theorem efJpc (m : MethodId) (p1 : Int32) (p2 : Int32) (a3 : Addr) : entryFrame m #[(.int p1), (.int p2), (.ref a3)] 3 = mkF m 0 #[iv p1, iv p2, rv a3] [] := by first | (simp [entryFrame, mkF, argsToLocals, Value.category]; done) | rfl
def QJpc (Z : State) (p1 : Int32) (p2 : Int32) (a3 : Addr) (cz : Int32) (fv : Value) (h0 : Heap) (n0 : Nat) (v : Option Value) (h : Heap) (L : List Loc) : Prop := v = some (.int p1) ∧ Fr n0 L ∧ h = h0
set_option maxRecDepth 65536 in
set_option maxHeartbeats 40000000 in
theorem rmJpc (l : Launch) (Z : State) (a0 : Array Value) (hw : ∀ d ∈ tables_1, d.before a0 Z = true) (ws : List Jvm.Cond) (p1 : Int32) (p2 : Int32) (a3 : Addr) (cz : Int32) (fv : Value) (h0 : Heap) (n0 : Nat) (Z0 : n0 ≤ h0.size) (O0 : Old Z n0 h0) (J0 : Jd Z cz fv) (h1 : ¬ p1 < 0) (h2 : p1 < p2) :
    MetFree l mN3 (head1 (Jvm.Cond.code mN3 jdk_41_method_11_code 3 (some .int) :: ws) rKJpc) (fun a U => a = #[(.int p1), (.int p2), (.ref a3)] ∧ Z.Warmed39 U.vm ∧ U.heap = h0) (fun _ _ _ _ _ => True) (fun _ U o U' => ∃ v L, o = .returned v ∧ QJpc Z p1 p2 a3 cz fv h0 n0 v U'.heap L ∧ FrameEnd U o U' L rKJpc.cells rKJpc.slots) := by
  refine MetFree.of_bodySF (plainFor_of_name pnJpc) hisR ?_
  intro p e s m args below meth c s₁ Bd hml0 hP hK
  obtain ⟨rfl, hZ, hh⟩ := hP
  have hx := Bd.exec
  have hby := Bd.bytes
  have hml : c.maxLocals = 3 := hml0
  have hown : s.vm.findClass "jdk/internal/util/Preconditions" = some m.cls := findClass_of_methodNamed Bd.named
  have hnm := (name_of_methodNamed Bd.named Bd.method).1
  have X0 : Stand p l e rKJpc s m #[(.int p1), (.int p2), (.ref a3)] below meth c s₁ [] 0 0 := Stand.of_body Bd
  have e0 : s₁.heap = h0 := by rw [← hh, Bd.state]; rfl
  have N0 := Fr.nil n0
  obtain ⟨EF, hEF⟩ : ∃ f, f = entryFrame m #[(.int p1), (.int p2), (.ref a3)] 3 := ⟨_, rfl⟩
  have pre0 : Go p e below s₁ (mkF m 0 #[iv p1, iv p2, rv a3] []) s₁ EF := fun t k => by rw [hEF]; exact castTop (efJpc m p1 p2 a3) k
  have pre1 : Go p e below s₁ (mkF m 1 #[iv p1, iv p2, rv a3] [(.int p1)]) s₁ EF := fun t k => pre0 t (by
      refine XS.iloadN X0.here hx rfl (hb hby dJpc_0) rfl ?_
      exact k)
  have pre2 : Go p e below s₁ (mkF m 4 #[iv p1, iv p2, rv a3] []) s₁ EF := fun t k => pre1 t (XS.ifNo X0.here hx rfl (hb hby dJpc_1) rfl ((if0 _ _).trans (flt h1).1) k)
  have pre3 : Go p e below s₁ (mkF m 6 #[iv p1, iv p2, rv a3] [(.int p2), (.int p1)]) s₁ EF := fun t k => pre2 t (by
      refine XS.iloadN X0.here hx rfl (hb hby dJpc_4) rfl ?_
      refine XS.iloadN X0.here hx rfl (hb hby dJpc_5) rfl ?_
      exact k)
  have pre4 : Go p e below s₁ (mkF m 16 #[iv p1, iv p2, rv a3] []) s₁ EF := fun t k => pre3 t (XS.icmpYes X0.here hx rfl (pc0 := 6) (pc' := 16) rfl (hb hby dJpc_6) rfl (tlt h2).1 (by decide) (by decide) k)
  have pre5 : Go p e below s₁ (mkF m 17 #[iv p1, iv p2, rv a3] [(.int p1)]) s₁ EF := fun t k => pre4 t (by
      refine XS.iloadN X0.here hx rfl (hb hby dJpc_16) rfl ?_
      exact k)
  obtain ⟨fs, hr, hrun, hended, hW, hsame⟩ := X0.leave (v := some (.int p1)) (fun h => by rw [Bd.returns] at h; cases h)
  refine ⟨_, _, hEF ▸ pre5 _ (retOut X0 hx Bd.returns rfl (Or.inl ⟨rfl, Or.inl rfl, _, rfl⟩) (hb hby dJpc_17) hr), hrun, hended, _, _, rfl, ?_, ⟨_, rfl⟩, hW, hsame.mono (by decide) (by decide)⟩
  show QJpc Z p1 p2 a3 cz fv h0 n0 _ s₁.heap _
  rw [e0]
  exact ⟨rfl, N0, rfl⟩
abbrev rKJpn : Room := { frames := 0, cells := 0, slots := 0, locals := 0 }
theorem dJpn_0 : decode jdk_41_method_11_code 0 = .ok (.iload_n 0, 1) := by decide +kernel
theorem dJpn_1 : decode jdk_41_method_11_code 1 = .ok (.ifCond .lt 8, 3) := by decide +kernel
theorem dJpn_4 : decode jdk_41_method_11_code 4 = .ok (.iload_n 0, 1) := by decide +kernel
theorem dJpn_5 : decode jdk_41_method_11_code 5 = .ok (.iload_n 1, 1) := by decide +kernel
theorem dJpn_6 : decode jdk_41_method_11_code 6 = .ok (.if_icmp .lt 10, 3) := by decide +kernel
theorem dJpn_16 : decode jdk_41_method_11_code 16 = .ok (.iload_n 0, 1) := by decide +kernel
theorem dJpn_17 : decode jdk_41_method_11_code 17 = .ok (.ireturn, 1) := by decide +kernel
theorem pnJpn : plainName "jdk/internal/util/Preconditions" = true := by first | (simp [plainName, overriddenIn]; done) | decide +kernel
theorem efJpn (m : MethodId) (p1 : Int32) (p2 : Int32) : entryFrame m #[(.int p1), (.int p2), .null] 3 = mkF m 0 #[iv p1, iv p2, .val .null] [] := by first | (simp [entryFrame, mkF, argsToLocals, Value.category]; done) | rfl
def QJpn (Z : State) (p1 : Int32) (p2 : Int32) (cz : Int32) (fv : Value) (h0 : Heap) (n0 : Nat) (v : Option Value) (h : Heap) (L : List Loc) : Prop := v = some (.int p1) ∧ Fr n0 L ∧ h = h0
set_option maxRecDepth 65536 in
set_option maxHeartbeats 40000000 in
theorem rmJpn (l : Launch) (Z : State) (a0 : Array Value) (hw : ∀ d ∈ tables_1, d.before a0 Z = true) (ws : List Jvm.Cond) (p1 : Int32) (p2 : Int32) (cz : Int32) (fv : Value) (h0 : Heap) (n0 : Nat) (Z0 : n0 ≤ h0.size) (O0 : Old Z n0 h0) (J0 : Jd Z cz fv) (h1 : ¬ p1 < 0) (h2 : p1 < p2) :
    MetFree l mN3 (head1 (Jvm.Cond.code mN3 jdk_41_method_11_code 3 (some .int) :: ws) rKJpn) (fun a U => a = #[(.int p1), (.int p2), .null] ∧ Z.Warmed39 U.vm ∧ U.heap = h0) (fun _ _ _ _ _ => True) (fun _ U o U' => ∃ v L, o = .returned v ∧ QJpn Z p1 p2 cz fv h0 n0 v U'.heap L ∧ FrameEnd U o U' L rKJpn.cells rKJpn.slots) := by
  refine MetFree.of_bodySF (plainFor_of_name pnJpn) hisR ?_
  intro p e s m args below meth c s₁ Bd hml0 hP hK
  obtain ⟨rfl, hZ, hh⟩ := hP
  have hx := Bd.exec
  have hby := Bd.bytes
  have hml : c.maxLocals = 3 := hml0
  have hown : s.vm.findClass "jdk/internal/util/Preconditions" = some m.cls := findClass_of_methodNamed Bd.named
  have hnm := (name_of_methodNamed Bd.named Bd.method).1
  have X0 : Stand p l e rKJpn s m #[(.int p1), (.int p2), .null] below meth c s₁ [] 0 0 := Stand.of_body Bd
  have e0 : s₁.heap = h0 := by rw [← hh, Bd.state]; rfl
  have N0 := Fr.nil n0
  obtain ⟨EF, hEF⟩ : ∃ f, f = entryFrame m #[(.int p1), (.int p2), .null] 3 := ⟨_, rfl⟩
  have pre0 : Go p e below s₁ (mkF m 0 #[iv p1, iv p2, .val .null] []) s₁ EF := fun t k => by rw [hEF]; exact castTop (efJpn m p1 p2) k
  have pre1 : Go p e below s₁ (mkF m 1 #[iv p1, iv p2, .val .null] [(.int p1)]) s₁ EF := fun t k => pre0 t (by
      refine XS.iloadN X0.here hx rfl (hb hby dJpn_0) rfl ?_
      exact k)
  have pre2 : Go p e below s₁ (mkF m 4 #[iv p1, iv p2, .val .null] []) s₁ EF := fun t k => pre1 t (XS.ifNo X0.here hx rfl (hb hby dJpn_1) rfl ((if0 _ _).trans (flt h1).1) k)
  have pre3 : Go p e below s₁ (mkF m 6 #[iv p1, iv p2, .val .null] [(.int p2), (.int p1)]) s₁ EF := fun t k => pre2 t (by
      refine XS.iloadN X0.here hx rfl (hb hby dJpn_4) rfl ?_
      refine XS.iloadN X0.here hx rfl (hb hby dJpn_5) rfl ?_
      exact k)
  have pre4 : Go p e below s₁ (mkF m 16 #[iv p1, iv p2, .val .null] []) s₁ EF := fun t k => pre3 t (XS.icmpYes X0.here hx rfl (pc0 := 6) (pc' := 16) rfl (hb hby dJpn_6) rfl (tlt h2).1 (by decide) (by decide) k)
  have pre5 : Go p e below s₁ (mkF m 17 #[iv p1, iv p2, .val .null] [(.int p1)]) s₁ EF := fun t k => pre4 t (by
      refine XS.iloadN X0.here hx rfl (hb hby dJpn_16) rfl ?_
      exact k)
  obtain ⟨fs, hr, hrun, hended, hW, hsame⟩ := X0.leave (v := some (.int p1)) (fun h => by rw [Bd.returns] at h; cases h)
  refine ⟨_, _, hEF ▸ pre5 _ (retOut X0 hx Bd.returns rfl (Or.inl ⟨rfl, Or.inl rfl, _, rfl⟩) (hb hby dJpn_17) hr), hrun, hended, _, _, rfl, ?_, ⟨_, rfl⟩, hW, hsame.mono (by decide) (by decide)⟩
  show QJpn Z p1 p2 cz fv h0 n0 _ s₁.heap _
  rw [e0]
  exact ⟨rfl, N0, rfl⟩
abbrev rKJci : Room := { frames := 1, cells := 0, slots := 0, locals := 14 }
theorem dJci_0 : decode jdk_42_method_155_code 0 = .ok (.iload_n 0, 1) := by decide +kernel
theorem dJci_1 : decode jdk_42_method_155_code 1 = .ok (.iload_n 1, 1) := by decide +kernel
theorem dJci_2 : decode jdk_42_method_155_code 2 = .ok (.getstatic 1053, 3) := by decide +kernel
theorem dJci_5 : decode jdk_42_method_155_code 5 = .ok (.invokestatic 1059, 3) := by decide +kernel
theorem dJci_8 : decode jdk_42_method_155_code 8 = .ok (.pop, 1) := by decide +kernel
theorem dJci_9 : decode jdk_42_method_155_code 9 = .ok (.return_, 1) := by decide +kernel
theorem pnJci : plainName "java/lang/String" = true := by first | (simp [plainName, overriddenIn]; done) | decide +kernel
theorem pdJci_0 : parseMethodDescriptor "(IILjava/util/function/BiFunction;)I" = some ⟨[.int, .int, (.object "java/util/function/BiFunction")], some .int⟩ := by decide +kernel
theorem efJci (m : MethodId) (p1 : Int32) (p2 : Int32) : entryFrame m #[(.int p1), (.int p2)] 2 = mkF m 0 #[iv p1, iv p2] [] := by first | (simp [entryFrame, mkF, argsToLocals, Value.category]; done) | rfl
def QJci (Z : State) (p1 : Int32) (p2 : Int32) (cz : Int32) (fv : Value) (h0 : Heap) (n0 : Nat) (v : Option Value) (h : Heap) (L : List Loc) : Prop := v = none ∧ Fr n0 L ∧ h = h0
set_option maxRecDepth 65536 in
set_option maxHeartbeats 40000000 in
theorem rmJci (l : Launch) (Z : State) (a0 : Array Value) (hw : ∀ d ∈ tables_1, d.before a0 Z = true) (ws : List Jvm.Cond) (p1 : Int32) (p2 : Int32) (cz : Int32) (fv : Value) (h0 : Heap) (n0 : Nat) (Z0 : n0 ≤ h0.size) (O0 : Old Z n0 h0) (J0 : Jd Z cz fv) (h1 : ¬ p1 < 0) (h2 : p1 < p2) :
    MetFree l mN4 (head1 (Jvm.Cond.code mN4 jdk_42_method_155_code 2 none :: ws) rKJci) (fun a U => a = #[(.int p1), (.int p2)] ∧ Z.Warmed39 U.vm ∧ U.heap = h0) (fun _ _ _ _ _ => True) (fun _ U o U' => ∃ v L, o = .returned v ∧ QJci Z p1 p2 cz fv h0 n0 v U'.heap L ∧ FrameEnd U o U' L rKJci.cells rKJci.slots) := by
  refine MetFree.of_bodySF (plainFor_of_name pnJci) hisR ?_
  intro p e s m args below meth c s₁ Bd hml0 hP hK
  obtain ⟨rfl, hZ, hh⟩ := hP
  have hx := Bd.exec
  have hby := Bd.bytes
  have hml : c.maxLocals = 2 := hml0
  have hown : s.vm.findClass "java/lang/String" = some m.cls := findClass_of_methodNamed Bd.named
  have hnm := (name_of_methodNamed Bd.named Bd.method).1
  have X0 : Stand p l e rKJci s m #[(.int p1), (.int p2)] below meth c s₁ [] 0 0 := Stand.of_body Bd
  have e0 : s₁.heap = h0 := by rw [← hh, Bd.state]; rfl
  have N0 := Fr.nil n0
  obtain ⟨EF, hEF⟩ : ∃ f, f = entryFrame m #[(.int p1), (.int p2)] 2 := ⟨_, rfl⟩
  have pre0 : Go p e below s₁ (mkF m 0 #[iv p1, iv p2] []) s₁ EF := fun t k => by rw [hEF]; exact castTop (efJci m p1 p2) k
  have hfr := J0.2.2.1.1
  have hfs := J0.2.2.1.2
  rcases ref_cases hfr with hfv | ⟨fo, hfv⟩
  · rw [hfv] at hfs
    have pre1 : Go p e below s₁ (mkF m 2 #[iv p1, iv p2] [(.int p2), (.int p1)]) s₁ EF := fun t k => pre0 t (by
        refine XS.iloadN X0.here hx rfl (hb hby dJci_0) rfl ?_
        refine XS.iloadN X0.here hx rfl (hb hby dJci_1) rfl ?_
        exact k)
    obtain ⟨T2, X2, e2, st2⟩ := getS2 X0 hx hZ hown (host := "") (Or.inl (hw _ (mW 74 rfl))) Via.refl e0 (hfs.ext O0.2) (g := (mkF m 2 #[iv p1, iv p2] [(.int p2), (.int p1)])) rfl (hb hby dJci_2)
    have pre3 : Go p e below T2 (mkF m 5 #[iv p1, iv p2] [.null, (.int p2), (.int p1)]) s₁ EF := fun t k => pre1 t (st2 t k)
    obtain ⟨_, _, ⟨T4, L4, k4, n4⟩, -, X4, ⟨Lc4, hQ4, l4, y4, z4⟩, st4⟩ := Jvm.LawKit.callS X2 hx (y := mN3) hown (mvT hZ (hw _ (mW 76 rfl))) (mvT hZ (hw _ (mW 77 rfl))) (mvT hZ (hw _ (mW 75 rfl))) (mvT hZ (hw _ (mW 78 rfl))) (by decide) (backOf (W := 0) (rmJpn l Z a0 hw [] p1 p2 cz fv  h0 n0 Z0 O0 J0 h1 h2) hZ (hw _ (mW 78 rfl)) (hw _ (mW 75 rfl)) (by decide) (by decide)) (g := (mkF m 5 #[iv p1, iv p2] [.null, (.int p2), (.int p1)])) rfl (by rw [hml]; rfl) (argsL := [(.int p1), (.int p2), .null]) (rest := []) (lenOf pdJci_0 rfl) rfl (Nat.le_of_eq rfl) (hb hby dJci_5) (fun _ _ => ⟨rfl, e2, wl rfl, wl rfl⟩)
    dsimp only [Pt.U, Pt.locs, Pt.cells, Pt.slots] at X4 l4 y4 z4 st4 hQ4
    subst l4 y4 z4
    obtain ⟨rfl, N4q, hq4⟩ := hQ4
    have N4 := Fr.app N0 N4q
    have pre5 : Go p e below T4 (mkF m 8 #[iv p1, iv p2] [(.int p1)]) s₁ EF := fun t k => pre3 t (st4 t k)
    have e4 : T4.heap = h0 := hq4
    have pre6 : Go p e below T4 (mkF m 9 #[iv p1, iv p2] []) s₁ EF := fun t k => pre5 t (by
        refine XS.pop X4.here hx rfl (hb hby dJci_8) rfl rfl ?_
        exact k)
    obtain ⟨fs, hr, hrun, hended, hW, hsame⟩ := X4.leave (v := none) (fun _ => rfl)
    refine ⟨_, _, hEF ▸ pre6 _ (X4.returnOut hx Bd.returns (hb hby dJci_9) hr), hrun, hended, _, _, rfl, ?_, ⟨_, rfl⟩, hW, hsame.mono (by decide) (by decide)⟩
    show QJci Z p1 p2 cz fv h0 n0 _ T4.heap _
    rw [e4]
    exact ⟨rfl, N4, rfl⟩
  · rw [hfv] at hfs
    have pre7 : Go p e below s₁ (mkF m 2 #[iv p1, iv p2] [(.int p2), (.int p1)]) s₁ EF := fun t k => pre0 t (by
        refine XS.iloadN X0.here hx rfl (hb hby dJci_0) rfl ?_
        refine XS.iloadN X0.here hx rfl (hb hby dJci_1) rfl ?_
        exact k)
    obtain ⟨T8, X8, e8, st8⟩ := getS2 X0 hx hZ hown (host := "") (Or.inl (hw _ (mW 74 rfl))) Via.refl e0 (hfs.ext O0.2) (g := (mkF m 2 #[iv p1, iv p2] [(.int p2), (.int p1)])) rfl (hb hby dJci_2)
    have pre9 : Go p e below T8 (mkF m 5 #[iv p1, iv p2] [(.ref fo), (.int p2), (.int p1)]) s₁ EF := fun t k => pre7 t (st8 t k)
    obtain ⟨_, _, ⟨T10, L10, k10, n10⟩, -, X10, ⟨Lc10, hQ10, l10, y10, z10⟩, st10⟩ := Jvm.LawKit.callS X8 hx (y := mN3) hown (mvT hZ (hw _ (mW 76 rfl))) (mvT hZ (hw _ (mW 77 rfl))) (mvT hZ (hw _ (mW 75 rfl))) (mvT hZ (hw _ (mW 78 rfl))) (by decide) (backOf (W := 0) (rmJpc l Z a0 hw [] p1 p2 fo cz fv  h0 n0 Z0 O0 J0 h1 h2) hZ (hw _ (mW 78 rfl)) (hw _ (mW 75 rfl)) (by decide) (by decide)) (g := (mkF m 5 #[iv p1, iv p2] [(.ref fo), (.int p2), (.int p1)])) rfl (by rw [hml]; rfl) (argsL := [(.int p1), (.int p2), (.ref fo)]) (rest := []) (lenOf pdJci_0 rfl) rfl (Nat.le_of_eq rfl) (hb hby dJci_5) (fun _ _ => ⟨rfl, e8, wl rfl, wl rfl⟩)
    dsimp only [Pt.U, Pt.locs, Pt.cells, Pt.slots] at X10 l10 y10 z10 st10 hQ10
    subst l10 y10 z10
    obtain ⟨rfl, N10q, hq10⟩ := hQ10
    have N10 := Fr.app N0 N10q
    have pre11 : Go p e below T10 (mkF m 8 #[iv p1, iv p2] [(.int p1)]) s₁ EF := fun t k => pre9 t (st10 t k)
    have e10 : T10.heap = h0 := hq10
    have pre12 : Go p e below T10 (mkF m 9 #[iv p1, iv p2] []) s₁ EF := fun t k => pre11 t (by
        refine XS.pop X10.here hx rfl (hb hby dJci_8) rfl rfl ?_
        exact k)
    obtain ⟨fs, hr, hrun, hended, hW, hsame⟩ := X10.leave (v := none) (fun _ => rfl)
    refine ⟨_, _, hEF ▸ pre12 _ (X10.returnOut hx Bd.returns (hb hby dJci_9) hr), hrun, hended, _, _, rfl, ?_, ⟨_, rfl⟩, hW, hsame.mono (by decide) (by decide)⟩
    show QJci Z p1 p2 cz fv h0 n0 _ T10.heap _
    rw [e10]
    exact ⟨rfl, N10, rfl⟩
abbrev rKJl1 : Room := { frames := 2, cells := 0, slots := 0, locals := 27 }
theorem dJl1_0 : decode jdk_43_method_2_code 0 = .ok (.iload_n 1, 1) := by decide +kernel
theorem dJl1_1 : decode jdk_43_method_2_code 1 = .ok (.aload_n 0, 1) := by decide +kernel
theorem dJl1_2 : decode jdk_43_method_2_code 2 = .ok (.arraylength, 1) := by decide +kernel
theorem dJl1_3 : decode jdk_43_method_2_code 3 = .ok (.invokestatic 9, 3) := by decide +kernel
theorem dJl1_6 : decode jdk_43_method_2_code 6 = .ok (.aload_n 0, 1) := by decide +kernel
theorem dJl1_7 : decode jdk_43_method_2_code 7 = .ok (.iload_n 1, 1) := by decide +kernel
theorem dJl1_8 : decode jdk_43_method_2_code 8 = .ok (.baload, 1) := by decide +kernel
theorem dJl1_9 : decode jdk_43_method_2_code 9 = .ok (.sipush 255, 3) := by decide +kernel
theorem dJl1_12 : decode jdk_43_method_2_code 12 = .ok (.iand, 1) := by decide +kernel
theorem dJl1_13 : decode jdk_43_method_2_code 13 = .ok (.i2c, 1) := by decide +kernel
theorem dJl1_14 : decode jdk_43_method_2_code 14 = .ok (.ireturn, 1) := by decide +kernel
theorem pnJl1 : plainName "java/lang/StringLatin1" = true := by first | (simp [plainName, overriddenIn]; done) | decide +kernel
theorem pdJl1_0 : parseMethodDescriptor "(II)V" = some ⟨[.int, .int], none⟩ := by decide +kernel
theorem efJl1 (m : MethodId) (a1 : Addr) (p1 : Int32) : entryFrame m #[(.ref a1), (.int p1)] 2 = mkF m 0 #[rv a1, iv p1] [] := by first | (simp [entryFrame, mkF, argsToLocals, Value.category]; done) | rfl
def QJl1 (Z : State) (a1 : Addr) (p1 : Int32) (cz : Int32) (fv : Value) (k : ClassId) (z : Int32) (vs : List Value) (bv : Int32) (r : Int32) (h0 : Heap) (n0 : Nat) (v : Option Value) (h : Heap) (L : List Loc) : Prop := v = some (.int r) ∧ Fr n0 L ∧ h = h0
set_option maxRecDepth 65536 in
set_option maxHeartbeats 40000000 in
theorem rmJl1 (l : Launch) (Z : State) (a0 : Array Value) (hw : ∀ d ∈ tables_1, d.before a0 Z = true) (ws : List Jvm.Cond) (a1 : Addr) (p1 : Int32) (cz : Int32) (fv : Value) (k : ClassId) (z : Int32) (vs : List Value) (bv : Int32) (r : Int32) (h0 : Heap) (n0 : Nat) (Z0 : n0 ≤ h0.size) (O0 : Old Z n0 h0) (J0 : Jd Z cz fv) (VV : Arv Z h0 a1 k .byte z vs (.int 0)) (h1 : ¬ p1 < 0) (h2 : p1 < z) (hv : vs.getD p1.toNatClampNeg (.int 0) = .int bv) (hR : bv &&& 255 = r) :
    MetFree l mN5 (head1 (Jvm.Cond.code mN5 jdk_43_method_2_code 2 (some .char) :: ws) rKJl1) (fun a U => a = #[(.ref a1), (.int p1)] ∧ Z.Warmed39 U.vm ∧ U.heap = h0) (fun _ _ _ _ _ => True) (fun _ U o U' => ∃ v L, o = .returned v ∧ QJl1 Z a1 p1 cz fv k z vs bv r h0 n0 v U'.heap L ∧ FrameEnd U o U' L rKJl1.cells rKJl1.slots) := by
  refine MetFree.of_bodySF (plainFor_of_name pnJl1) hisR ?_
  intro p e s m args below meth c s₁ Bd hml0 hP hK
  obtain ⟨rfl, hZ, hh⟩ := hP
  have hx := Bd.exec
  have hby := Bd.bytes
  have hml : c.maxLocals = 2 := hml0
  have hown : s.vm.findClass "java/lang/StringLatin1" = some m.cls := findClass_of_methodNamed Bd.named
  have hnm := (name_of_methodNamed Bd.named Bd.method).1
  have X0 : Stand p l e rKJl1 s m #[(.ref a1), (.int p1)] below meth c s₁ [] 0 0 := Stand.of_body Bd
  have e0 : s₁.heap = h0 := by rw [← hh, Bd.state]; rfl
  have N0 := Fr.nil n0
  obtain ⟨EF, hEF⟩ : ∃ f, f = entryFrame m #[(.ref a1), (.int p1)] 2 := ⟨_, rfl⟩
  have pre0 : Go p e below s₁ (mkF m 0 #[rv a1, iv p1] []) s₁ EF := fun t k => by rw [hEF]; exact castTop (efJl1 m a1 p1) k
  have pre1 : Go p e below s₁ (mkF m 2 #[rv a1, iv p1] [(.ref a1), (.int p1)]) s₁ EF := fun t k => pre0 t (by
      refine XS.iloadN X0.here hx rfl (hb hby dJl1_0) rfl ?_
      refine XS.aloadN X0.here hx rfl (hb hby dJl1_1) rfl rfl ?_
      exact k)
  obtain ⟨cl2, Ar2, q2, Sz2, M2, H2, G2⟩ := id VV
  have pre3 : Go p e below s₁ (mkF m 3 #[rv a1, iv p1] [(.int z), (.int p1)]) s₁ EF := fun t k => pre1 t (by
      refine X0.arraylength hx (by rw [e0]; exact Ar2.1) (State.isArrayOf_alike hZ.alike Ar2.2.1) (g := (mkF m 2 #[rv a1, iv p1] [(.ref a1), (.int p1)])) rfl rfl (hb hby dJl1_2) _ ?_
      rw [len_of Sz2 M2]
      exact k)
  obtain ⟨_, _, ⟨T4, L4, k4, n4⟩, -, X4, ⟨Lc4, hQ4, l4, y4, z4⟩, st4⟩ := Jvm.LawKit.callS X0 hx (y := mN4) hown (mvT hZ (hw _ (mW 71 rfl))) (mvT hZ (hw _ (mW 72 rfl))) (mvT hZ (hw _ (mW 10 rfl))) (mvT hZ (hw _ (mW 73 rfl))) (by decide) (backOf (W := 0) (rmJci l Z a0 hw [] p1 z cz fv  h0 n0 Z0 O0 J0 h1 h2) hZ (hw _ (mW 73 rfl)) (hw _ (mW 10 rfl)) (by decide) (by decide)) (g := (mkF m 3 #[rv a1, iv p1] [(.int z), (.int p1)])) rfl (by rw [hml]; rfl) (argsL := [(.int p1), (.int z)]) (rest := []) (lenOf pdJl1_0 rfl) rfl (Nat.le_of_eq rfl) (hb hby dJl1_3) (fun _ _ => ⟨rfl, e0, wl rfl, wl rfl⟩)
  dsimp only [Pt.U, Pt.locs, Pt.cells, Pt.slots] at X4 l4 y4 z4 st4 hQ4
  subst l4 y4 z4
  obtain ⟨rfl, N4q, hq4⟩ := hQ4
  have N4 := Fr.app N0 N4q
  have pre5 : Go p e below T4 (mkF m 6 #[rv a1, iv p1] []) s₁ EF := fun t k => pre3 t (st4 t k)
  have e4 : T4.heap = h0 := hq4
  have pre6 : Go p e below T4 (mkF m 8 #[rv a1, iv p1] [(.int p1), (.ref a1)]) s₁ EF := fun t k => pre5 t (by
      refine XS.aloadN X4.here hx rfl (hb hby dJl1_6) rfl rfl ?_
      refine XS.iloadN X4.here hx rfl (hb hby dJl1_7) rfl ?_
      exact k)
  obtain ⟨cl7, Ar7, q7, Sz7, M7, H7, G7⟩ := id VV
  have hin7 : ¬ (p1 < 0 ∨ cl7.slots.size ≤ (p1).toNatClampNeg) := inb_of Sz7 ⟨h1, h2⟩
  have hat7 : cl7.slots[(p1).toNatClampNeg]? = some (.int bv) := Has.at H7 hin7 hv
  have pre8 : Go p e below T4 (mkF m 14 #[rv a1, iv p1] [(.int ((bv &&& (255 : Int32)).toUInt32.toUInt16.toUInt32.toInt32))]) s₁ EF := fun t k => pre6 t (by
      refine X4.baloadBytes hx (j := p1) (v := (.int bv)) (by rw [e4]; exact Ar7.1) (State.isArrayOf_alike hZ.alike Ar7.2.1) Ar7.2.2 hin7 hat7 (g := (mkF m 8 #[rv a1, iv p1] [(.int p1), (.ref a1)])) rfl rfl (hb hby dJl1_8) _ ?_
      refine XS.sipush X4.here hx rfl (hb hby dJl1_9) ?_
      refine XS.iand X4.here hx rfl (hb hby dJl1_12) rfl ?_
      refine XS.i2c X4.here hx rfl (hb hby dJl1_13) rfl ?_
      exact k)
  have hnr : Value.int (nar .char ((bv &&& (255 : Int32)).toUInt32.toUInt16.toUInt32.toInt32)) = (.int (bv &&& 255)) := by show Value.int (((bv &&& 255).toUInt32.toUInt16.toUInt32.toInt32).toUInt32.toUInt16.toUInt32.toInt32) = _; rw [i2c_mask, i2c_mask]
  obtain ⟨fs, hr, hrun, hended, hW, hsame⟩ := X4.leave (v := some (.int (bv &&& 255))) (fun h => by rw [Bd.returns] at h; cases h)
  refine ⟨_, _, hEF ▸ pre8 _ (retN X4 hx (t := .char) Bd.returns (by simp) (hb hby dJl1_14) (hnr ▸ hr)), hrun, hended, _, _, rfl, ?_, ⟨_, rfl⟩, hW, hsame.mono (by decide) (by decide)⟩
  show QJl1 Z a1 p1 cz fv k z vs bv r h0 n0 _ T4.heap _
  rw [e4]
  exact ⟨by rw [hR], N4, rfl⟩
abbrev rKJul : Room := { frames := 0, cells := 0, slots := 0, locals := 0 }
theorem dJul_0 : decode jdk_52_method_6_code 0 = .ok (.aload_n 0, 1) := by decide +kernel
theorem dJul_1 : decode jdk_52_method_6_code 1 = .ok (.arraylength, 1) := by decide +kernel
theorem dJul_2 : decode jdk_52_method_6_code 2 = .ok (.iconst 1, 1) := by decide +kernel
theorem dJul_3 : decode jdk_52_method_6_code 3 = .ok (.ishr, 1) := by decide +kernel
theorem dJul_4 : decode jdk_52_method_6_code 4 = .ok (.ireturn, 1) := by decide +kernel
theorem pnJul : plainName "java/lang/StringUTF16" = true := by first | (simp [plainName, overriddenIn]; done) | decide +kernel
theorem efJul (m : MethodId) (a1 : Addr) : entryFrame m #[(.ref a1)] 1 = mkF m 0 #[rv a1] [] := by first | (simp [entryFrame, mkF, argsToLocals, Value.category]; done) | rfl
def QJul (Z : State) (a1 : Addr) (cz : Int32) (fv : Value) (k : ClassId) (z : Int32) (vs : List Value) (r : Int32) (h0 : Heap) (n0 : Nat) (v : Option Value) (h : Heap) (L : List Loc) : Prop := v = some (.int r) ∧ Fr n0 L ∧ h = h0
set_option maxRecDepth 65536 in
set_option maxHeartbeats 40000000 in
theorem rmJul (l : Launch) (Z : State) (a0 : Array Value) (hw : ∀ d ∈ tables_1, d.before a0 Z = true) (ws : List Jvm.Cond) (a1 : Addr) (cz : Int32) (fv : Value) (k : ClassId) (z : Int32) (vs : List Value) (r : Int32) (h0 : Heap) (n0 : Nat) (Z0 : n0 ≤ h0.size) (O0 : Old Z n0 h0) (J0 : Jd Z cz fv) (VV : Arv Z h0 a1 k .byte z vs (.int 0)) (hR : z >>> ((1 : Int32) &&& 31) = r) :
    MetFree l mN6 (head1 (Jvm.Cond.code mN6 jdk_52_method_6_code 1 (some .int) :: ws) rKJul) (fun a U => a = #[(.ref a1)] ∧ Z.Warmed39 U.vm ∧ U.heap = h0) (fun _ _ _ _ _ => True) (fun _ U o U' => ∃ v L, o = .returned v ∧ QJul Z a1 cz fv k z vs r h0 n0 v U'.heap L ∧ FrameEnd U o U' L rKJul.cells rKJul.slots) := by
  refine MetFree.of_bodySF (plainFor_of_name pnJul) hisR ?_
  intro p e s m args below meth c s₁ Bd hml0 hP hK
  obtain ⟨rfl, hZ, hh⟩ := hP
  have hx := Bd.exec
  have hby := Bd.bytes
  have hml : c.maxLocals = 1 := hml0
  have hown : s.vm.findClass "java/lang/StringUTF16" = some m.cls := findClass_of_methodNamed Bd.named
  have hnm := (name_of_methodNamed Bd.named Bd.method).1
  have X0 : Stand p l e rKJul s m #[(.ref a1)] below meth c s₁ [] 0 0 := Stand.of_body Bd
  have e0 : s₁.heap = h0 := by rw [← hh, Bd.state]; rfl
  have N0 := Fr.nil n0
  obtain ⟨EF, hEF⟩ : ∃ f, f = entryFrame m #[(.ref a1)] 1 := ⟨_, rfl⟩
  have pre0 : Go p e below s₁ (mkF m 0 #[rv a1] []) s₁ EF := fun t k => by rw [hEF]; exact castTop (efJul m a1) k
  have pre1 : Go p e below s₁ (mkF m 1 #[rv a1] [(.ref a1)]) s₁ EF := fun t k => pre0 t (by
      refine XS.aloadN X0.here hx rfl (hb hby dJul_0) rfl rfl ?_
      exact k)
  obtain ⟨cl2, Ar2, q2, Sz2, M2, H2, G2⟩ := id VV
  have pre3 : Go p e below s₁ (mkF m 4 #[rv a1] [(.int (z >>> ((1 : Int32) &&& 31)))]) s₁ EF := fun t k => pre1 t (by
      refine X0.arraylength hx (by rw [e0]; exact Ar2.1) (State.isArrayOf_alike hZ.alike Ar2.2.1) (g := (mkF m 1 #[rv a1] [(.ref a1)])) rfl rfl (hb hby dJul_1) _ ?_
      rw [len_of Sz2 M2]
      refine XS.iconst X0.here hx rfl (hb hby dJul_2) ?_
      refine XS.ishr X0.here hx rfl (hb hby dJul_3) rfl ?_
      exact k)
  obtain ⟨fs, hr, hrun, hended, hW, hsame⟩ := X0.leave (v := some (.int (z >>> ((1 : Int32) &&& 31)))) (fun h => by rw [Bd.returns] at h; cases h)
  refine ⟨_, _, hEF ▸ pre3 _ (retOut X0 hx Bd.returns rfl (Or.inl ⟨rfl, Or.inl rfl, _, rfl⟩) (hb hby dJul_4) hr), hrun, hended, _, _, rfl, ?_, ⟨_, rfl⟩, hW, hsame.mono (by decide) (by decide)⟩
  show QJul Z a1 cz fv k z vs r h0 n0 _ s₁.heap _
  rw [e0]
  exact ⟨by rw [hR], N0, rfl⟩
abbrev rKJuc : Room := { frames := 2, cells := 0, slots := 0, locals := 27 }
theorem dJuc_0 : decode jdk_52_method_91_code 0 = .ok (.iload_n 0, 1) := by decide +kernel
theorem dJuc_1 : decode jdk_52_method_91_code 1 = .ok (.aload_n 1, 1) := by decide +kernel
theorem dJuc_2 : decode jdk_52_method_91_code 2 = .ok (.invokestatic 48, 3) := by decide +kernel
theorem dJuc_5 : decode jdk_52_method_91_code 5 = .ok (.invokestatic 414, 3) := by decide +kernel
theorem dJuc_8 : decode jdk_52_method_91_code 8 = .ok (.return_, 1) := by decide +kernel
theorem pnJuc : plainName "java/lang/StringUTF16" = true := by first | (simp [plainName, overriddenIn]; done) | decide +kernel
theorem pdJuc_0 : parseMethodDescriptor "([B)I" = some ⟨[(.array .byte)], some .int⟩ := by decide +kernel
theorem pdJuc_1 : parseMethodDescriptor "(II)V" = some ⟨[.int, .int], none⟩ := by decide +kernel
theorem efJuc (m : MethodId) (p1 : Int32) (a1 : Addr) : entryFrame m #[(.int p1), (.ref a1)] 2 = mkF m 0 #[iv p1, rv a1] [] := by first | (simp [entryFrame, mkF, argsToLocals, Value.category]; done) | rfl
def QJuc (Z : State) (p1 : Int32) (a1 : Addr) (cz : Int32) (fv : Value) (k : ClassId) (z : Int32) (vs : List Value) (m1 : Int32) (h0 : Heap) (n0 : Nat) (v : Option Value) (h : Heap) (L : List Loc) : Prop := v = none ∧ Fr n0 L ∧ h = h0
set_option maxRecDepth 65536 in
set_option maxHeartbeats 40000000 in
theorem rmJuc (l : Launch) (Z : State) (a0 : Array Value) (hw : ∀ d ∈ tables_1, d.before a0 Z = true) (ws : List Jvm.Cond) (p1 : Int32) (a1 : Addr) (cz : Int32) (fv : Value) (k : ClassId) (z : Int32) (vs : List Value) (m1 : Int32) (h0 : Heap) (n0 : Nat) (Z0 : n0 ≤ h0.size) (O0 : Old Z n0 h0) (J0 : Jd Z cz fv) (VV : Arv Z h0 a1 k .byte z vs (.int 0)) (hm : z >>> ((1 : Int32) &&& 31) = m1) (h1 : ¬ p1 < 0) (h2 : p1 < m1) :
    MetFree l mN7 (head1 (Jvm.Cond.code mN7 jdk_52_method_91_code 2 none :: ws) rKJuc) (fun a U => a = #[(.int p1), (.ref a1)] ∧ Z.Warmed39 U.vm ∧ U.heap = h0) (fun _ _ _ _ _ => True) (fun _ U o U' => ∃ v L, o = .returned v ∧ QJuc Z p1 a1 cz fv k z vs m1 h0 n0 v U'.heap L ∧ FrameEnd U o U' L rKJuc.cells rKJuc.slots) := by
  refine MetFree.of_bodySF (plainFor_of_name pnJuc) hisR ?_
  intro p e s m args below meth c s₁ Bd hml0 hP hK
  obtain ⟨rfl, hZ, hh⟩ := hP
  have hx := Bd.exec
  have hby := Bd.bytes
  have hml : c.maxLocals = 2 := hml0
  have hown : s.vm.findClass "java/lang/StringUTF16" = some m.cls := findClass_of_methodNamed Bd.named
  have hnm := (name_of_methodNamed Bd.named Bd.method).1
  have X0 : Stand p l e rKJuc s m #[(.int p1), (.ref a1)] below meth c s₁ [] 0 0 := Stand.of_body Bd
  have e0 : s₁.heap = h0 := by rw [← hh, Bd.state]; rfl
  have N0 := Fr.nil n0
  obtain ⟨EF, hEF⟩ : ∃ f, f = entryFrame m #[(.int p1), (.ref a1)] 2 := ⟨_, rfl⟩
  have pre0 : Go p e below s₁ (mkF m 0 #[iv p1, rv a1] []) s₁ EF := fun t k => by rw [hEF]; exact castTop (efJuc m p1 a1) k
  have pre1 : Go p e below s₁ (mkF m 2 #[iv p1, rv a1] [(.ref a1), (.int p1)]) s₁ EF := fun t k => pre0 t (by
      refine XS.iloadN X0.here hx rfl (hb hby dJuc_0) rfl ?_
      refine XS.aloadN X0.here hx rfl (hb hby dJuc_1) rfl rfl ?_
      exact k)
  obtain ⟨_, _, ⟨T2, L2, k2, n2⟩, -, X2, ⟨Lc2, hQ2, l2, y2, z2⟩, st2⟩ := Jvm.LawKit.callS X0 hx (y := mN6) hown (mvT hZ (hw _ (mW 104 rfl))) (mvT hZ (hw _ (mW 105 rfl))) (mvT hZ (hw _ (mW 46 rfl))) (mvT hZ (hw _ (mW 106 rfl))) (by decide) (backOf (W := 1) (rmJul l Z a0 hw [] a1 cz fv k z vs m1 h0 n0 Z0 O0 J0 VV hm) hZ (hw _ (mW 106 rfl)) (hw _ (mW 46 rfl)) (by decide) (by decide)) (g := (mkF m 2 #[iv p1, rv a1] [(.ref a1), (.int p1)])) rfl (by rw [hml]; rfl) (argsL := [(.ref a1)]) (rest := [(.int p1)]) (lenOf pdJuc_0 rfl) rfl (Nat.le_of_eq rfl) (hb hby dJuc_2) (fun _ _ => ⟨rfl, e0, wl rfl, wl rfl⟩)
  dsimp only [Pt.U, Pt.locs, Pt.cells, Pt.slots] at X2 l2 y2 z2 st2 hQ2
  subst l2 y2 z2
  obtain ⟨rfl, N2q, hq2⟩ := hQ2
  have N2 := Fr.app N0 N2q
  have pre3 : Go p e below T2 (mkF m 5 #[iv p1, rv a1] [(.int m1), (.int p1)]) s₁ EF := fun t k => pre1 t (st2 t k)
  have e2 : T2.heap = h0 := hq2
  obtain ⟨_, _, ⟨T4, L4, k4, n4⟩, -, X4, ⟨Lc4, hQ4, l4, y4, z4⟩, st4⟩ := Jvm.LawKit.callS X2 hx (y := mN4) hown (mvT hZ (hw _ (mW 107 rfl))) (mvT hZ (hw _ (mW 72 rfl))) (mvT hZ (hw _ (mW 10 rfl))) (mvT hZ (hw _ (mW 73 rfl))) (by decide) (backOf (W := 0) (rmJci l Z a0 hw [] p1 m1 cz fv  h0 n0 Z0 O0 J0 h1 h2) hZ (hw _ (mW 73 rfl)) (hw _ (mW 10 rfl)) (by decide) (by decide)) (g := (mkF m 5 #[iv p1, rv a1] [(.int m1), (.int p1)])) rfl (by rw [hml]; rfl) (argsL := [(.int p1), (.int m1)]) (rest := []) (lenOf pdJuc_1 rfl) rfl (Nat.le_of_eq rfl) (hb hby dJuc_5) (fun _ _ => ⟨rfl, e2, wl rfl, wl rfl⟩)
  dsimp only [Pt.U, Pt.locs, Pt.cells, Pt.slots] at X4 l4 y4 z4 st4 hQ4
  subst l4 y4 z4
  obtain ⟨rfl, N4q, hq4⟩ := hQ4
  have N4 := Fr.app N2 N4q
  have pre5 : Go p e below T4 (mkF m 8 #[iv p1, rv a1] []) s₁ EF := fun t k => pre3 t (st4 t k)
  have e4 : T4.heap = h0 := hq4
  obtain ⟨fs, hr, hrun, hended, hW, hsame⟩ := X4.leave (v := none) (fun _ => rfl)
  refine ⟨_, _, hEF ▸ pre5 _ (X4.returnOut hx Bd.returns (hb hby dJuc_8) hr), hrun, hended, _, _, rfl, ?_, ⟨_, rfl⟩, hW, hsame.mono (by decide) (by decide)⟩
  show QJuc Z p1 a1 cz fv k z vs m1 h0 n0 _ T4.heap _
  rw [e4]
  exact ⟨rfl, N4, rfl⟩
abbrev rKJgc : Room := { frames := 0, cells := 0, slots := 0, locals := 0 }
theorem dJgc_0 : decode jdk_52_method_5_code 0 = .ok (.getstatic 44, 3) := by decide +kernel
theorem dJgc_3 : decode jdk_52_method_5_code 3 = .ok (.ifCond .ne 25, 3) := by decide +kernel
theorem dJgc_28 : decode jdk_52_method_5_code 28 = .ok (.iload_n 1, 1) := by decide +kernel
theorem dJgc_29 : decode jdk_52_method_5_code 29 = .ok (.iconst 1, 1) := by decide +kernel
theorem dJgc_30 : decode jdk_52_method_5_code 30 = .ok (.ishl, 1) := by decide +kernel
theorem dJgc_31 : decode jdk_52_method_5_code 31 = .ok (.istore_n 1, 1) := by decide +kernel
theorem dJgc_32 : decode jdk_52_method_5_code 32 = .ok (.aload_n 0, 1) := by decide +kernel
theorem dJgc_33 : decode jdk_52_method_5_code 33 = .ok (.iload_n 1, 1) := by decide +kernel
theorem dJgc_34 : decode jdk_52_method_5_code 34 = .ok (.iinc 1 1, 3) := by decide +kernel
theorem dJgc_37 : decode jdk_52_method_5_code 37 = .ok (.baload, 1) := by decide +kernel
theorem dJgc_38 : decode jdk_52_method_5_code 38 = .ok (.sipush 255, 3) := by decide +kernel
theorem dJgc_41 : decode jdk_52_method_5_code 41 = .ok (.iand, 1) := by decide +kernel
theorem dJgc_42 : decode jdk_52_method_5_code 42 = .ok (.getstatic 59, 3) := by decide +kernel
theorem dJgc_45 : decode jdk_52_method_5_code 45 = .ok (.ishl, 1) := by decide +kernel
theorem dJgc_46 : decode jdk_52_method_5_code 46 = .ok (.aload_n 0, 1) := by decide +kernel
theorem dJgc_47 : decode jdk_52_method_5_code 47 = .ok (.iload_n 1, 1) := by decide +kernel
theorem dJgc_48 : decode jdk_52_method_5_code 48 = .ok (.baload, 1) := by decide +kernel
theorem dJgc_49 : decode jdk_52_method_5_code 49 = .ok (.sipush 255, 3) := by decide +kernel
theorem dJgc_52 : decode jdk_52_method_5_code 52 = .ok (.iand, 1) := by decide +kernel
theorem dJgc_53 : decode jdk_52_method_5_code 53 = .ok (.getstatic 63, 3) := by decide +kernel
theorem dJgc_56 : decode jdk_52_method_5_code 56 = .ok (.ishl, 1) := by decide +kernel
theorem dJgc_57 : decode jdk_52_method_5_code 57 = .ok (.ior, 1) := by decide +kernel
theorem dJgc_58 : decode jdk_52_method_5_code 58 = .ok (.i2c, 1) := by decide +kernel
theorem dJgc_59 : decode jdk_52_method_5_code 59 = .ok (.ireturn, 1) := by decide +kernel
theorem pnJgc : plainName "java/lang/StringUTF16" = true := by first | (simp [plainName, overriddenIn]; done) | decide +kernel
theorem efJgc (m : MethodId) (a1 : Addr) (p1 : Int32) : entryFrame m #[(.ref a1), (.int p1)] 2 = mkF m 0 #[rv a1, iv p1] [] := by first | (simp [entryFrame, mkF, argsToLocals, Value.category]; done) | rfl
def QJgc (Z : State) (a1 : Addr) (p1 : Int32) (cz : Int32) (fv : Value) (k : ClassId) (z : Int32) (vs : List Value) (c1 : Int32) (r : Int32) (h0 : Heap) (n0 : Nat) (v : Option Value) (h : Heap) (L : List Loc) : Prop := v = some (.int r) ∧ Fr n0 L ∧ h = h0
set_option maxRecDepth 65536 in
set_option maxHeartbeats 40000000 in
theorem rmJgc (l : Launch) (Z : State) (a0 : Array Value) (hw : ∀ d ∈ tables_1, d.before a0 Z = true) (ws : List Jvm.Cond) (a1 : Addr) (p1 : Int32) (cz : Int32) (fv : Value) (k : ClassId) (z : Int32) (vs : List Value) (c1 : Int32) (r : Int32) (h0 : Heap) (n0 : Nat) (Z0 : n0 ≤ h0.size) (O0 : Old Z n0 h0) (J0 : Jd Z cz fv) (VV : Arv Z h0 a1 k .byte z vs (.int 0)) (g1 : ¬ (p1 <<< ((1 : Int32) &&& 31)) < 0 ∧ (p1 <<< ((1 : Int32) &&& 31)) < z) (g2 : vs.getD (p1 <<< ((1 : Int32) &&& 31)).toNatClampNeg (.int 0) = .int (lo8 c1)) (g3 : ¬ ((p1 <<< ((1 : Int32) &&& 31)) + (1 : Int32)) < 0 ∧ ((p1 <<< ((1 : Int32) &&& 31)) + (1 : Int32)) < z) (g4 : vs.getD ((p1 <<< ((1 : Int32) &&& 31)) + (1 : Int32)).toNatClampNeg (.int 0) = .int (hi8 c1)) (hc1 : 0 ≤ c1.toInt) (hc2 : c1.toInt < 65536) (hR : c1 = r) :
    MetFree l mN8 (head1 (Jvm.Cond.code mN8 jdk_52_method_5_code 2 (some .char) :: ws) rKJgc) (fun a U => a = #[(.ref a1), (.int p1)] ∧ Z.Warmed39 U.vm ∧ U.heap = h0) (fun _ _ _ _ _ => True) (fun _ U o U' => ∃ v L, o = .returned v ∧ QJgc Z a1 p1 cz fv k z vs c1 r h0 n0 v U'.heap L ∧ FrameEnd U o U' L rKJgc.cells rKJgc.slots) := by
  refine MetFree.of_bodySF (plainFor_of_name pnJgc) hisR ?_
  intro p e s m args below meth c s₁ Bd hml0 hP hK
  obtain ⟨rfl, hZ, hh⟩ := hP
  have hx := Bd.exec
  have hby := Bd.bytes
  have hml : c.maxLocals = 2 := hml0
  have hown : s.vm.findClass "java/lang/StringUTF16" = some m.cls := findClass_of_methodNamed Bd.named
  have hnm := (name_of_methodNamed Bd.named Bd.method).1
  have X0 : Stand p l e rKJgc s m #[(.ref a1), (.int p1)] below meth c s₁ [] 0 0 := Stand.of_body Bd
  have e0 : s₁.heap = h0 := by rw [← hh, Bd.state]; rfl
  have N0 := Fr.nil n0
  obtain ⟨EF, hEF⟩ : ∃ f, f = entryFrame m #[(.ref a1), (.int p1)] 2 := ⟨_, rfl⟩
  have pre0 : Go p e below s₁ (mkF m 0 #[rv a1, iv p1] []) s₁ EF := fun t k => by rw [hEF]; exact castTop (efJgc m a1 p1) k
  obtain ⟨T1, X1, e1, st1⟩ := getS2 X0 hx hZ hown (host := "") (Or.inl (hw _ (mW 92 rfl))) Via.refl e0 (J0.2.2.2.1.ext O0.2) (g := (mkF m 0 #[rv a1, iv p1] [])) rfl (hb hby dJgc_0)
  have pre2 : Go p e below T1 (mkF m 3 #[rv a1, iv p1] [(.int (1 : Int32))]) s₁ EF := fun t k => pre0 t (st1 t k)
  have pre3 : Go p e below T1 (mkF m 28 #[rv a1, iv p1] []) s₁ EF := fun t k => pre2 t (XS.ifYes X1.here hx rfl (pc0 := 3) (pc' := 28) rfl (hb hby dJgc_3) rfl ((if0 _ _).trans (feq (by decide : ¬ ((1 : Int32) = (0 : Int32)))).2) (by decide) (by decide) k)
  have pre4 : Go p e below T1 (mkF m 37 #[rv a1, iv ((p1 <<< ((1 : Int32) &&& 31)) + (1 : Int32))] [(.int (p1 <<< ((1 : Int32) &&& 31))), (.ref a1)]) s₁ EF := fun t k => pre3 t (by
      refine XS.iloadN X1.here hx rfl (hb hby dJgc_28) rfl ?_
      refine XS.iconst X1.here hx rfl (hb hby dJgc_29) ?_
      refine XS.ishl X1.here hx rfl (hb hby dJgc_30) rfl ?_
      refine XS.istoreN X1.here hx rfl (hb hby dJgc_31) rfl (l' := #[rv a1, iv (p1 <<< ((1 : Int32) &&& 31))]) rfl ?_
      refine XS.aloadN X1.here hx rfl (hb hby dJgc_32) rfl rfl ?_
      refine XS.iloadN X1.here hx rfl (hb hby dJgc_33) rfl ?_
      refine XS.iinc X1.here hx rfl (hb hby dJgc_34) rfl (l' := #[rv a1, iv ((p1 <<< ((1 : Int32) &&& 31)) + (1 : Int32))]) rfl ?_
      exact k)
  obtain ⟨cl5, Ar5, q5, Sz5, M5, H5, G5⟩ := id VV
  have hin5 : ¬ ((p1 <<< ((1 : Int32) &&& 31)) < 0 ∨ cl5.slots.size ≤ ((p1 <<< ((1 : Int32) &&& 31))).toNatClampNeg) := inb_of Sz5 g1
  have hat5 : cl5.slots[((p1 <<< ((1 : Int32) &&& 31))).toNatClampNeg]? = some (.int (lo8 c1)) := Has.at H5 hin5 g2
  have pre6 : Go p e below T1 (mkF m 42 #[rv a1, iv ((p1 <<< ((1 : Int32) &&& 31)) + (1 : Int32))] [(.int ((lo8 c1) &&& (255 : Int32)))]) s₁ EF := fun t k => pre4 t (by
      refine X1.baloadBytes hx (j := (p1 <<< ((1 : Int32) &&& 31))) (v := (.int (lo8 c1))) (by rw [e1]; exact Ar5.1) (State.isArrayOf_alike hZ.alike Ar5.2.1) Ar5.2.2 hin5 hat5 (g := (mkF m 37 #[rv a1, iv ((p1 <<< ((1 : Int32) &&& 31)) + (1 : Int32))] [(.int (p1 <<< ((1 : Int32) &&& 31))), (.ref a1)])) rfl rfl (hb hby dJgc_37) _ ?_
      refine XS.sipush X1.here hx rfl (hb hby dJgc_38) ?_
      refine XS.iand X1.here hx rfl (hb hby dJgc_41) rfl ?_
      exact k)
  obtain ⟨T7, X7, e7, st7⟩ := getS2 X1 hx hZ hown (host := "") (Or.inl (hw _ (mW 93 rfl))) Via.refl e1 (J0.2.2.2.2.1.ext O0.2) (g := (mkF m 42 #[rv a1, iv ((p1 <<< ((1 : Int32) &&& 31)) + (1 : Int32))] [(.int ((lo8 c1) &&& (255 : Int32)))])) rfl (hb hby dJgc_42)
  have pre8 : Go p e below T7 (mkF m 45 #[rv a1, iv ((p1 <<< ((1 : Int32) &&& 31)) + (1 : Int32))] [(.int (0 : Int32)), (.int ((lo8 c1) &&& (255 : Int32)))]) s₁ EF := fun t k => pre6 t (st7 t k)
  have pre9 : Go p e below T7 (mkF m 48 #[rv a1, iv ((p1 <<< ((1 : Int32) &&& 31)) + (1 : Int32))] [(.int ((p1 <<< ((1 : Int32) &&& 31)) + (1 : Int32))), (.ref a1), (.int (((lo8 c1) &&& (255 : Int32)) <<< ((0 : Int32) &&& 31)))]) s₁ EF := fun t k => pre8 t (by
      refine XS.ishl X7.here hx rfl (hb hby dJgc_45) rfl ?_
      refine XS.aloadN X7.here hx rfl (hb hby dJgc_46) rfl rfl ?_
      refine XS.iloadN X7.here hx rfl (hb hby dJgc_47) rfl ?_
      exact k)
  obtain ⟨cl10, Ar10, q10, Sz10, M10, H10, G10⟩ := id VV
  have hin10 : ¬ (((p1 <<< ((1 : Int32) &&& 31)) + (1 : Int32)) < 0 ∨ cl10.slots.size ≤ (((p1 <<< ((1 : Int32) &&& 31)) + (1 : Int32))).toNatClampNeg) := inb_of Sz10 g3
  have hat10 : cl10.slots[(((p1 <<< ((1 : Int32) &&& 31)) + (1 : Int32))).toNatClampNeg]? = some (.int (hi8 c1)) := Has.at H10 hin10 g4
  have pre11 : Go p e below T7 (mkF m 53 #[rv a1, iv ((p1 <<< ((1 : Int32) &&& 31)) + (1 : Int32))] [(.int ((hi8 c1) &&& (255 : Int32))), (.int (((lo8 c1) &&& (255 : Int32)) <<< ((0 : Int32) &&& 31)))]) s₁ EF := fun t k => pre9 t (by
      refine X7.baloadBytes hx (j := ((p1 <<< ((1 : Int32) &&& 31)) + (1 : Int32))) (v := (.int (hi8 c1))) (by rw [e7]; exact Ar10.1) (State.isArrayOf_alike hZ.alike Ar10.2.1) Ar10.2.2 hin10 hat10 (g := (mkF m 48 #[rv a1, iv ((p1 <<< ((1 : Int32) &&& 31)) + (1 : Int32))] [(.int ((p1 <<< ((1 : Int32) &&& 31)) + (1 : Int32))), (.ref a1), (.int (((lo8 c1) &&& (255 : Int32)) <<< ((0 : Int32) &&& 31)))])) rfl rfl (hb hby dJgc_48) _ ?_
      refine XS.sipush X7.here hx rfl (hb hby dJgc_49) ?_
      refine XS.iand X7.here hx rfl (hb hby dJgc_52) rfl ?_
      exact k)
  obtain ⟨T12, X12, e12, st12⟩ := getS2 X7 hx hZ hown (host := "") (Or.inl (hw _ (mW 94 rfl))) Via.refl e7 (J0.2.2.2.2.2.1.ext O0.2) (g := (mkF m 53 #[rv a1, iv ((p1 <<< ((1 : Int32) &&& 31)) + (1 : Int32))] [(.int ((hi8 c1) &&& (255 : Int32))), (.int (((lo8 c1) &&& (255 : Int32)) <<< ((0 : Int32) &&& 31)))])) rfl (hb hby dJgc_53)
  have pre13 : Go p e below T12 (mkF m 56 #[rv a1, iv ((p1 <<< ((1 : Int32) &&& 31)) + (1 : Int32))] [(.int (8 : Int32)), (.int ((hi8 c1) &&& (255 : Int32))), (.int (((lo8 c1) &&& (255 : Int32)) <<< ((0 : Int32) &&& 31)))]) s₁ EF := fun t k => pre11 t (st12 t k)
  have pre14 : Go p e below T12 (mkF m 59 #[rv a1, iv ((p1 <<< ((1 : Int32) &&& 31)) + (1 : Int32))] [(.int (((((lo8 c1) &&& (255 : Int32)) <<< ((0 : Int32) &&& 31)) ||| (((hi8 c1) &&& (255 : Int32)) <<< ((8 : Int32) &&& 31))).toUInt32.toUInt16.toUInt32.toInt32))]) s₁ EF := fun t k => pre13 t (by
      refine XS.ishl X12.here hx rfl (hb hby dJgc_56) rfl ?_
      refine XS.ior X12.here hx rfl (hb hby dJgc_57) rfl ?_
      refine XS.i2c X12.here hx rfl (hb hby dJgc_58) rfl ?_
      exact k)
  have hnr : Value.int (nar .char (((((lo8 c1) &&& (255 : Int32)) <<< ((0 : Int32) &&& 31)) ||| (((hi8 c1) &&& (255 : Int32)) <<< ((8 : Int32) &&& 31))).toUInt32.toUInt16.toUInt32.toInt32)) = (.int c1) := by rw [own_get hc1 hc2, own_nc hc1 hc2]
  obtain ⟨fs, hr, hrun, hended, hW, hsame⟩ := X12.leave (v := some (.int c1)) (fun h => by rw [Bd.returns] at h; cases h)
  refine ⟨_, _, hEF ▸ pre14 _ (retN X12 hx (t := .char) Bd.returns (by simp) (hb hby dJgc_59) (hnr ▸ hr)), hrun, hended, _, _, rfl, ?_, ⟨_, rfl⟩, hW, hsame.mono (by decide) (by decide)⟩
  show QJgc Z a1 p1 cz fv k z vs c1 r h0 n0 _ T12.heap _
  rw [e12]
  exact ⟨by rw [hR], N0, rfl⟩
abbrev rKJu1 : Room := { frames := 3, cells := 0, slots := 0, locals := 40 }
theorem dJu1_0 : decode jdk_52_method_83_code 0 = .ok (.iload_n 1, 1) := by decide +kernel
theorem dJu1_1 : decode jdk_52_method_83_code 1 = .ok (.aload_n 0, 1) := by decide +kernel
theorem dJu1_2 : decode jdk_52_method_83_code 2 = .ok (.invokestatic 67, 3) := by decide +kernel
theorem dJu1_5 : decode jdk_52_method_83_code 5 = .ok (.aload_n 0, 1) := by decide +kernel
theorem dJu1_6 : decode jdk_52_method_83_code 6 = .ok (.iload_n 1, 1) := by decide +kernel
theorem dJu1_7 : decode jdk_52_method_83_code 7 = .ok (.invokestatic 71, 3) := by decide +kernel
theorem dJu1_10 : decode jdk_52_method_83_code 10 = .ok (.ireturn, 1) := by decide +kernel
theorem pnJu1 : plainName "java/lang/StringUTF16" = true := by first | (simp [plainName, overriddenIn]; done) | decide +kernel
theorem pdJu1_0 : parseMethodDescriptor "(I[B)V" = some ⟨[.int, (.array .byte)], none⟩ := by decide +kernel
theorem pdJu1_1 : parseMethodDescriptor "([BI)C" = some ⟨[(.array .byte), .int], some .char⟩ := by decide +kernel
theorem efJu1 (m : MethodId) (a1 : Addr) (p1 : Int32) : entryFrame m #[(.ref a1), (.int p1)] 2 = mkF m 0 #[rv a1, iv p1] [] := by first | (simp [entryFrame, mkF, argsToLocals, Value.category]; done) | rfl
def QJu1 (Z : State) (a1 : Addr) (p1 : Int32) (cz : Int32) (fv : Value) (k : ClassId) (z : Int32) (vs : List Value) (c1 : Int32) (r : Int32) (m1 : Int32) (h0 : Heap) (n0 : Nat) (v : Option Value) (h : Heap) (L : List Loc) : Prop := v = some (.int r) ∧ Fr n0 L ∧ h = h0
set_option maxRecDepth 65536 in
set_option maxHeartbeats 40000000 in
theorem rmJu1 (l : Launch) (Z : State) (a0 : Array Value) (hw : ∀ d ∈ tables_1, d.before a0 Z = true) (ws : List Jvm.Cond) (a1 : Addr) (p1 : Int32) (cz : Int32) (fv : Value) (k : ClassId) (z : Int32) (vs : List Value) (c1 : Int32) (r : Int32) (m1 : Int32) (h0 : Heap) (n0 : Nat) (Z0 : n0 ≤ h0.size) (O0 : Old Z n0 h0) (J0 : Jd Z cz fv) (VV : Arv Z h0 a1 k .byte z vs (.int 0)) (g1 : ¬ (p1 <<< ((1 : Int32) &&& 31)) < 0 ∧ (p1 <<< ((1 : Int32) &&& 31)) < z) (g2 : vs.getD (p1 <<< ((1 : Int32) &&& 31)).toNatClampNeg (.int 0) = .int (lo8 c1)) (g3 : ¬ ((p1 <<< ((1 : Int32) &&& 31)) + (1 : Int32)) < 0 ∧ ((p1 <<< ((1 : Int32) &&& 31)) + (1 : Int32)) < z) (g4 : vs.getD ((p1 <<< ((1 : Int32) &&& 31)) + (1 : Int32)).toNatClampNeg (.int 0) = .int (hi8 c1)) (hc1 : 0 ≤ c1.toInt) (hc2 : c1.toInt < 65536) (hR : c1 = r) (hm : z >>> ((1 : Int32) &&& 31) = m1) (h1 : ¬ p1 < 0) (h2 : p1 < m1) :
    MetFree l mN9 (head1 (Jvm.Cond.code mN9 jdk_52_method_83_code 2 (some .char) :: ws) rKJu1) (fun a U => a = #[(.ref a1), (.int p1)] ∧ Z.Warmed39 U.vm ∧ U.heap = h0) (fun _ _ _ _ _ => True) (fun _ U o U' => ∃ v L, o = .returned v ∧ QJu1 Z a1 p1 cz fv k z vs c1 r m1 h0 n0 v U'.heap L ∧ FrameEnd U o U' L rKJu1.cells rKJu1.slots) := by
  refine MetFree.of_bodySF (plainFor_of_name pnJu1) hisR ?_
  intro p e s m args below meth c s₁ Bd hml0 hP hK
  obtain ⟨rfl, hZ, hh⟩ := hP
  have hx := Bd.exec
  have hby := Bd.bytes
  have hml : c.maxLocals = 2 := hml0
  have hown : s.vm.findClass "java/lang/StringUTF16" = some m.cls := findClass_of_methodNamed Bd.named
  have hnm := (name_of_methodNamed Bd.named Bd.method).1
  have X0 : Stand p l e rKJu1 s m #[(.ref a1), (.int p1)] below meth c s₁ [] 0 0 := Stand.of_body Bd
  have e0 : s₁.heap = h0 := by rw [← hh, Bd.state]; rfl
  have N0 := Fr.nil n0
  obtain ⟨EF, hEF⟩ : ∃ f, f = entryFrame m #[(.ref a1), (.int p1)] 2 := ⟨_, rfl⟩
  have pre0 : Go p e below s₁ (mkF m 0 #[rv a1, iv p1] []) s₁ EF := fun t k => by rw [hEF]; exact castTop (efJu1 m a1 p1) k
  have pre1 : Go p e below s₁ (mkF m 2 #[rv a1, iv p1] [(.ref a1), (.int p1)]) s₁ EF := fun t k => pre0 t (by
      refine XS.iloadN X0.here hx rfl (hb hby dJu1_0) rfl ?_
      refine XS.aloadN X0.here hx rfl (hb hby dJu1_1) rfl rfl ?_
      exact k)
  obtain ⟨_, _, ⟨T2, L2, k2, n2⟩, -, X2, ⟨Lc2, hQ2, l2, y2, z2⟩, st2⟩ := Jvm.LawKit.callS X0 hx (y := mN7) hown (mvT hZ (hw _ (mW 101 rfl))) (mvT hZ (hw _ (mW 102 rfl))) (mvT hZ (hw _ (mW 46 rfl))) (mvT hZ (hw _ (mW 103 rfl))) (by decide) (backOf (W := 0) (rmJuc l Z a0 hw [] p1 a1 cz fv k z vs m1 h0 n0 Z0 O0 J0 VV hm h1 h2) hZ (hw _ (mW 103 rfl)) (hw _ (mW 46 rfl)) (by decide) (by decide)) (g := (mkF m 2 #[rv a1, iv p1] [(.ref a1), (.int p1)])) rfl (by rw [hml]; rfl) (argsL := [(.int p1), (.ref a1)]) (rest := []) (lenOf pdJu1_0 rfl) rfl (Nat.le_of_eq rfl) (hb hby dJu1_2) (fun _ _ => ⟨rfl, e0, wl rfl, wl rfl⟩)
  dsimp only [Pt.U, Pt.locs, Pt.cells, Pt.slots] at X2 l2 y2 z2 st2 hQ2
  subst l2 y2 z2
  obtain ⟨rfl, N2q, hq2⟩ := hQ2
  have N2 := Fr.app N0 N2q
  have pre3 : Go p e below T2 (mkF m 5 #[rv a1, iv p1] []) s₁ EF := fun t k => pre1 t (st2 t k)
  have e2 : T2.heap = h0 := hq2
  have pre4 : Go p e below T2 (mkF m 7 #[rv a1, iv p1] [(.int p1), (.ref a1)]) s₁ EF := fun t k => pre3 t (by
      refine XS.aloadN X2.here hx rfl (hb hby dJu1_5) rfl rfl ?_
      refine XS.iloadN X2.here hx rfl (hb hby dJu1_6) rfl ?_
      exact k)
  obtain ⟨_, _, ⟨T5, L5, k5, n5⟩, -, X5, ⟨Lc5, hQ5, l5, y5, z5⟩, st5⟩ := Jvm.LawKit.callS X2 hx (y := mN8) hown (mvT hZ (hw _ (mW 95 rfl))) (mvT hZ (hw _ (mW 96 rfl))) (mvT hZ (hw _ (mW 46 rfl))) (mvT hZ (hw _ (mW 97 rfl))) (by decide) (backOf (W := 0) (rmJgc l Z a0 hw [] a1 p1 cz fv k z vs c1 r h0 n0 Z0 O0 J0 VV g1 g2 g3 g4 hc1 hc2 hR) hZ (hw _ (mW 97 rfl)) (hw _ (mW 46 rfl)) (by decide) (by decide)) (g := (mkF m 7 #[rv a1, iv p1] [(.int p1), (.ref a1)])) rfl (by rw [hml]; rfl) (argsL := [(.ref a1), (.int p1)]) (rest := []) (lenOf pdJu1_1 rfl) rfl (Nat.le_of_eq rfl) (hb hby dJu1_7) (fun _ _ => ⟨rfl, e2, wl rfl, wl rfl⟩)
  dsimp only [Pt.U, Pt.locs, Pt.cells, Pt.slots] at X5 l5 y5 z5 st5 hQ5
  subst l5 y5 z5
  obtain ⟨rfl, N5q, hq5⟩ := hQ5
  have N5 := Fr.app N2 N5q
  have pre6 : Go p e below T5 (mkF m 10 #[rv a1, iv p1] [(.int r)]) s₁ EF := fun t k => pre4 t (st5 t k)
  have e5 : T5.heap = h0 := hq5
  have hnr : Value.int (nar .char r) = (.int r) := by rw [← hR, own_nc hc1 hc2]
  obtain ⟨fs, hr, hrun, hended, hW, hsame⟩ := X5.leave (v := some (.int r)) (fun h => by rw [Bd.returns] at h; cases h)
  refine ⟨_, _, hEF ▸ pre6 _ (retN X5 hx (t := .char) Bd.returns (by simp) (hb hby dJu1_10) (hnr ▸ hr)), hrun, hended, _, _, rfl, ?_, ⟨_, rfl⟩, hW, hsame.mono (by decide) (by decide)⟩
  show QJu1 Z a1 p1 cz fv k z vs c1 r m1 h0 n0 _ T5.heap _
  rw [e5]
  exact ⟨rfl, N5, rfl⟩
abbrev rKJcu : Room := { frames := 4, cells := 0, slots := 0, locals := 53 }
theorem dJcu_0 : decode jdk_42_method_56_code 0 = .ok (.aload_n 0, 1) := by decide +kernel
theorem dJcu_1 : decode jdk_42_method_56_code 1 = .ok (.invokevirtual 492, 3) := by decide +kernel
theorem dJcu_4 : decode jdk_42_method_56_code 4 = .ok (.ifCond .eq 12, 3) := by decide +kernel
theorem dJcu_16 : decode jdk_42_method_56_code 16 = .ok (.aload_n 0, 1) := by decide +kernel
theorem dJcu_17 : decode jdk_42_method_56_code 17 = .ok (.getfield 9, 3) := by decide +kernel
theorem dJcu_20 : decode jdk_42_method_56_code 20 = .ok (.iload_n 1, 1) := by decide +kernel
theorem dJcu_21 : decode jdk_42_method_56_code 21 = .ok (.invokestatic 498, 3) := by decide +kernel
theorem dJcu_24 : decode jdk_42_method_56_code 24 = .ok (.ireturn, 1) := by decide +kernel
theorem pnJcu : plainName "java/lang/String" = true := by first | (simp [plainName, overriddenIn]; done) | decide +kernel
theorem pdJcu_0 : parseMethodDescriptor "()Z" = some ⟨[], some .boolean⟩ := by decide +kernel
theorem pdJcu_1 : parseMethodDescriptor "([BI)C" = some ⟨[(.array .byte), .int], some .char⟩ := by decide +kernel
theorem efJcu (m : MethodId) (a1 : Addr) (p1 : Int32) : entryFrame m #[(.ref a1), (.int p1)] 2 = mkF m 0 #[rv a1, iv p1] [] := by first | (simp [entryFrame, mkF, argsToLocals, Value.category]; done) | rfl
def QJcu (Z : State) (a1 : Addr) (p1 : Int32) (cz : Int32) (fv : Value) (b : Addr) (k : ClassId) (z : Int32) (vs : List Value) (c1 : Int32) (r : Int32) (m1 : Int32) (h0 : Heap) (n0 : Nat) (v : Option Value) (h : Heap) (L : List Loc) : Prop := v = some (.int r) ∧ Fr n0 L ∧ h = h0
set_option maxRecDepth 65536 in
set_option maxHeartbeats 40000000 in
theorem rmJcu (l : Launch) (Z : State) (a0 : Array Value) (hw : ∀ d ∈ tables_1, d.before a0 Z = true) (ws : List Jvm.Cond) (a1 : Addr) (p1 : Int32) (cz : Int32) (fv : Value) (b : Addr) (k : ClassId) (z : Int32) (vs : List Value) (c1 : Int32) (r : Int32) (m1 : Int32) (h0 : Heap) (n0 : Nat) (Z0 : n0 ≤ h0.size) (O0 : Old Z n0 h0) (J0 : Jd Z cz fv) (E1 : Exa Z h0 a1 "java/lang/String") (FC : Fld Z h0 a1 "java/lang/String" "coder" "B" (.int 1)) (FV : Fld Z h0 a1 "java/lang/String" "value" "[B" (.ref b)) (VV : Arv Z h0 b k .byte z vs (.int 0)) (g1 : ¬ (p1 <<< ((1 : Int32) &&& 31)) < 0 ∧ (p1 <<< ((1 : Int32) &&& 31)) < z) (g2 : vs.getD (p1 <<< ((1 : Int32) &&& 31)).toNatClampNeg (.int 0) = .int (lo8 c1)) (g3 : ¬ ((p1 <<< ((1 : Int32) &&& 31)) + (1 : Int32)) < 0 ∧ ((p1 <<< ((1 : Int32) &&& 31)) + (1 : Int32)) < z) (g4 : vs.getD ((p1 <<< ((1 : Int32) &&& 31)) + (1 : Int32)).toNatClampNeg (.int 0) = .int (hi8 c1)) (hc1 : 0 ≤ c1.toInt) (hc2 : c1.toInt < 65536) (hR : c1 = r) (hm : z >>> ((1 : Int32) &&& 31) = m1) (h1 : ¬ p1 < 0) (h2 : p1 < m1) (hnr0 : nar .char r = r) :
    MetFree l mN10 (head1 (Jvm.Cond.code mN10 jdk_42_method_56_code 2 (some .char) :: ws) rKJcu) (fun a U => a = #[(.ref a1), (.int p1)] ∧ Z.Warmed39 U.vm ∧ U.heap = h0) (fun _ _ _ _ _ => True) (fun _ U o U' => ∃ v L, o = .returned v ∧ QJcu Z a1 p1 cz fv b k z vs c1 r m1 h0 n0 v U'.heap L ∧ FrameEnd U o U' L rKJcu.cells rKJcu.slots) := by
  refine MetFree.of_bodySF (plainFor_of_name pnJcu) hisR ?_
  intro p e s m args below meth c s₁ Bd hml0 hP hK
  obtain ⟨rfl, hZ, hh⟩ := hP
  have hx := Bd.exec
  have hby := Bd.bytes
  have hml : c.maxLocals = 2 := hml0
  have hown : s.vm.findClass "java/lang/String" = some m.cls := findClass_of_methodNamed Bd.named
  have hnm := (name_of_methodNamed Bd.named Bd.method).1
  have X0 : Stand p l e rKJcu s m #[(.ref a1), (.int p1)] below meth c s₁ [] 0 0 := Stand.of_body Bd
  have e0 : s₁.heap = h0 := by rw [← hh, Bd.state]; rfl
  have N0 := Fr.nil n0
  obtain ⟨EF, hEF⟩ : ∃ f, f = entryFrame m #[(.ref a1), (.int p1)] 2 := ⟨_, rfl⟩
  have pre0 : Go p e below s₁ (mkF m 0 #[rv a1, iv p1] []) s₁ EF := fun t k => by rw [hEF]; exact castTop (efJcu m a1 p1) k
  have pre1 : Go p e below s₁ (mkF m 1 #[rv a1, iv p1] [(.ref a1)]) s₁ EF := fun t k => pre0 t (by
      refine XS.aloadN X0.here hx rfl (hb hby dJcu_0) rfl rfl ?_
      exact k)
  obtain ⟨cq2, kq2, q2a, q2b, q2c⟩ := isOf hZ e0 E1
  obtain ⟨_, _, ⟨T2, L2, k2, n2⟩, -, X2, ⟨Lc2, hQ2, l2, y2, z2⟩, st2⟩ := X0.virtualBack hx (y := mN2) (z := mN2) hown (mvT hZ (hw _ (mW 62 rfl))) (mvT hZ (hw _ (mW 63 rfl))) (notFace_of_selects (args := #[]) (mvT hZ (hw _ (mW 65 rfl)))) (mvT hZ (hw _ (mW 65 rfl))) (mvT hZ (hw _ (mW 64 rfl))) (by decide) (backOf (W := 0) (rmJil l Z a0 hw [] a1 cz fv (1 : Int32) (0 : Int32) h0 n0 Z0 O0 J0 FC (by decide)) hZ (hw _ (mW 66 rfl)) (hw _ (mW 10 rfl)) (by decide) (by decide)) q2a q2c (g := (mkF m 1 #[rv a1, iv p1] [(.ref a1)])) rfl (by rw [hml]; rfl) (Steps.refl _) (argsL := []) (rest := []) (lenOf pdJcu_0 rfl) rfl (Nat.le_of_eq rfl) (hb hby dJcu_1) (fun _ _ => ⟨rfl, e0, wl rfl, wl rfl⟩)
  dsimp only [Pt.U, Pt.locs, Pt.cells, Pt.slots] at X2 l2 y2 z2 st2 hQ2
  subst l2 y2 z2
  obtain ⟨rfl, N2q, hq2⟩ := hQ2
  have N2 := Fr.app N0 N2q
  have pre3 : Go p e below T2 (mkF m 4 #[rv a1, iv p1] [(.int (0 : Int32))]) s₁ EF := fun t k => pre1 t (st2.trans k)
  have e2 : T2.heap = h0 := hq2
  have pre4 : Go p e below T2 (mkF m 16 #[rv a1, iv p1] []) s₁ EF := fun t k => pre3 t (XS.ifYes X2.here hx rfl (pc0 := 4) (pc' := 16) rfl (hb hby dJcu_4) rfl ((if0 _ _).trans (teq (by decide : (0 : Int32) = (0 : Int32))).1) (by decide) (by decide) k)
  have pre5 : Go p e below T2 (mkF m 17 #[rv a1, iv p1] [(.ref a1)]) s₁ EF := fun t k => pre4 t (by
      refine XS.aloadN X2.here hx rfl (hb hby dJcu_16) rfl rfl ?_
      exact k)
  obtain ⟨T6, X6, e6, st6⟩ := getF X2 hx hZ hown (host := "") (Or.inl (hw _ (mW 27 rfl))) Via.refl e2 FV (g := (mkF m 17 #[rv a1, iv p1] [(.ref a1)])) rfl rfl (hb hby dJcu_17)
  have pre7 : Go p e below T6 (mkF m 20 #[rv a1, iv p1] [(.ref b)]) s₁ EF := fun t k => pre5 t (st6 t k)
  have pre8 : Go p e below T6 (mkF m 21 #[rv a1, iv p1] [(.int p1), (.ref b)]) s₁ EF := fun t k => pre7 t (by
      refine XS.iloadN X6.here hx rfl (hb hby dJcu_20) rfl ?_
      exact k)
  obtain ⟨_, _, ⟨T9, L9, k9, n9⟩, -, X9, ⟨Lc9, hQ9, l9, y9, z9⟩, st9⟩ := Jvm.LawKit.callS X6 hx (y := mN9) hown (mvT hZ (hw _ (mW 98 rfl))) (mvT hZ (hw _ (mW 99 rfl))) (mvT hZ (hw _ (mW 46 rfl))) (mvT hZ (hw _ (mW 100 rfl))) (by decide) (backOf (W := 0) (rmJu1 l Z a0 hw [] b p1 cz fv k z vs c1 r m1 h0 n0 Z0 O0 J0 VV g1 g2 g3 g4 hc1 hc2 hR hm h1 h2) hZ (hw _ (mW 100 rfl)) (hw _ (mW 46 rfl)) (by decide) (by decide)) (g := (mkF m 21 #[rv a1, iv p1] [(.int p1), (.ref b)])) rfl (by rw [hml]; rfl) (argsL := [(.ref b), (.int p1)]) (rest := []) (lenOf pdJcu_1 rfl) rfl (Nat.le_of_eq rfl) (hb hby dJcu_21) (fun _ _ => ⟨rfl, e6, wl rfl, wl rfl⟩)
  dsimp only [Pt.U, Pt.locs, Pt.cells, Pt.slots] at X9 l9 y9 z9 st9 hQ9
  subst l9 y9 z9
  obtain ⟨rfl, N9q, hq9⟩ := hQ9
  have N9 := Fr.app N2 N9q
  have pre10 : Go p e below T9 (mkF m 24 #[rv a1, iv p1] [(.int r)]) s₁ EF := fun t k => pre8 t (st9 t k)
  have e9 : T9.heap = h0 := hq9
  have hnr : Value.int (nar .char r) = (.int r) := by rw [hnr0]
  obtain ⟨fs, hr, hrun, hended, hW, hsame⟩ := X9.leave (v := some (.int r)) (fun h => by rw [Bd.returns] at h; cases h)
  refine ⟨_, _, hEF ▸ pre10 _ (retN X9 hx (t := .char) Bd.returns (by simp) (hb hby dJcu_24) (hnr ▸ hr)), hrun, hended, _, _, rfl, ?_, ⟨_, rfl⟩, hW, hsame.mono (by decide) (by decide)⟩
  show QJcu Z a1 p1 cz fv b k z vs c1 r m1 h0 n0 _ T9.heap _
  rw [e9]
  exact ⟨rfl, N9, rfl⟩
abbrev rKJcl : Room := { frames := 4, cells := 0, slots := 0, locals := 53 }
theorem dJcl_0 : decode jdk_42_method_56_code 0 = .ok (.aload_n 0, 1) := by decide +kernel
theorem dJcl_1 : decode jdk_42_method_56_code 1 = .ok (.invokevirtual 492, 3) := by decide +kernel
theorem dJcl_4 : decode jdk_42_method_56_code 4 = .ok (.ifCond .eq 12, 3) := by decide +kernel
theorem dJcl_7 : decode jdk_42_method_56_code 7 = .ok (.aload_n 0, 1) := by decide +kernel
theorem dJcl_8 : decode jdk_42_method_56_code 8 = .ok (.getfield 9, 3) := by decide +kernel
theorem dJcl_11 : decode jdk_42_method_56_code 11 = .ok (.iload_n 1, 1) := by decide +kernel
theorem dJcl_12 : decode jdk_42_method_56_code 12 = .ok (.invokestatic 495, 3) := by decide +kernel
theorem dJcl_15 : decode jdk_42_method_56_code 15 = .ok (.ireturn, 1) := by decide +kernel
theorem pnJcl : plainName "java/lang/String" = true := by first | (simp [plainName, overriddenIn]; done) | decide +kernel
theorem pdJcl_0 : parseMethodDescriptor "()Z" = some ⟨[], some .boolean⟩ := by decide +kernel
theorem pdJcl_1 : parseMethodDescriptor "([BI)C" = some ⟨[(.array .byte), .int], some .char⟩ := by decide +kernel
theorem efJcl (m : MethodId) (a1 : Addr) (p1 : Int32) : entryFrame m #[(.ref a1), (.int p1)] 2 = mkF m 0 #[rv a1, iv p1] [] := by first | (simp [entryFrame, mkF, argsToLocals, Value.category]; done) | rfl
def QJcl (Z : State) (a1 : Addr) (p1 : Int32) (cz : Int32) (fv : Value) (b : Addr) (k : ClassId) (z : Int32) (vs : List Value) (bv : Int32) (r : Int32) (h0 : Heap) (n0 : Nat) (v : Option Value) (h : Heap) (L : List Loc) : Prop := v = some (.int r) ∧ Fr n0 L ∧ h = h0
set_option maxRecDepth 65536 in
set_option maxHeartbeats 40000000 in
theorem rmJcl (l : Launch) (Z : State) (a0 : Array Value) (hw : ∀ d ∈ tables_1, d.before a0 Z = true) (ws : List Jvm.Cond) (a1 : Addr) (p1 : Int32) (cz : Int32) (fv : Value) (b : Addr) (k : ClassId) (z : Int32) (vs : List Value) (bv : Int32) (r : Int32) (h0 : Heap) (n0 : Nat) (Z0 : n0 ≤ h0.size) (O0 : Old Z n0 h0) (J0 : Jd Z cz fv) (E1 : Exa Z h0 a1 "java/lang/String") (FC : Fld Z h0 a1 "java/lang/String" "coder" "B" (.int 0)) (FV : Fld Z h0 a1 "java/lang/String" "value" "[B" (.ref b)) (VV : Arv Z h0 b k .byte z vs (.int 0)) (h1 : ¬ p1 < 0) (h2 : p1 < z) (hv : vs.getD p1.toNatClampNeg (.int 0) = .int bv) (hR : bv &&& 255 = r) (hnr0 : nar .char r = r) :
    MetFree l mN10 (head1 (Jvm.Cond.code mN10 jdk_42_method_56_code 2 (some .char) :: ws) rKJcl) (fun a U => a = #[(.ref a1), (.int p1)] ∧ Z.Warmed39 U.vm ∧ U.heap = h0) (fun _ _ _ _ _ => True) (fun _ U o U' => ∃ v L, o = .returned v ∧ QJcl Z a1 p1 cz fv b k z vs bv r h0 n0 v U'.heap L ∧ FrameEnd U o U' L rKJcl.cells rKJcl.slots) := by
  refine MetFree.of_bodySF (plainFor_of_name pnJcl) hisR ?_
  intro p e s m args below meth c s₁ Bd hml0 hP hK
  obtain ⟨rfl, hZ, hh⟩ := hP
  have hx := Bd.exec
  have hby := Bd.bytes
  have hml : c.maxLocals = 2 := hml0
  have hown : s.vm.findClass "java/lang/String" = some m.cls := findClass_of_methodNamed Bd.named
  have hnm := (name_of_methodNamed Bd.named Bd.method).1
  have X0 : Stand p l e rKJcl s m #[(.ref a1), (.int p1)] below meth c s₁ [] 0 0 := Stand.of_body Bd
  have e0 : s₁.heap = h0 := by rw [← hh, Bd.state]; rfl
  have N0 := Fr.nil n0
  obtain ⟨EF, hEF⟩ : ∃ f, f = entryFrame m #[(.ref a1), (.int p1)] 2 := ⟨_, rfl⟩
  have pre0 : Go p e below s₁ (mkF m 0 #[rv a1, iv p1] []) s₁ EF := fun t k => by rw [hEF]; exact castTop (efJcl m a1 p1) k
  have pre1 : Go p e below s₁ (mkF m 1 #[rv a1, iv p1] [(.ref a1)]) s₁ EF := fun t k => pre0 t (by
      refine XS.aloadN X0.here hx rfl (hb hby dJcl_0) rfl rfl ?_
      exact k)
  obtain ⟨cq2, kq2, q2a, q2b, q2c⟩ := isOf hZ e0 E1
  obtain ⟨_, _, ⟨T2, L2, k2, n2⟩, -, X2, ⟨Lc2, hQ2, l2, y2, z2⟩, st2⟩ := X0.virtualBack hx (y := mN2) (z := mN2) hown (mvT hZ (hw _ (mW 62 rfl))) (mvT hZ (hw _ (mW 63 rfl))) (notFace_of_selects (args := #[]) (mvT hZ (hw _ (mW 65 rfl)))) (mvT hZ (hw _ (mW 65 rfl))) (mvT hZ (hw _ (mW 64 rfl))) (by decide) (backOf (W := 0) (rmJil l Z a0 hw [] a1 cz fv (0 : Int32) (1 : Int32) h0 n0 Z0 O0 J0 FC (by decide)) hZ (hw _ (mW 66 rfl)) (hw _ (mW 10 rfl)) (by decide) (by decide)) q2a q2c (g := (mkF m 1 #[rv a1, iv p1] [(.ref a1)])) rfl (by rw [hml]; rfl) (Steps.refl _) (argsL := []) (rest := []) (lenOf pdJcl_0 rfl) rfl (Nat.le_of_eq rfl) (hb hby dJcl_1) (fun _ _ => ⟨rfl, e0, wl rfl, wl rfl⟩)
  dsimp only [Pt.U, Pt.locs, Pt.cells, Pt.slots] at X2 l2 y2 z2 st2 hQ2
  subst l2 y2 z2
  obtain ⟨rfl, N2q, hq2⟩ := hQ2
  have N2 := Fr.app N0 N2q
  have pre3 : Go p e below T2 (mkF m 4 #[rv a1, iv p1] [(.int (1 : Int32))]) s₁ EF := fun t k => pre1 t (st2.trans k)
  have e2 : T2.heap = h0 := hq2
  have pre4 : Go p e below T2 (mkF m 7 #[rv a1, iv p1] []) s₁ EF := fun t k => pre3 t (XS.ifNo X2.here hx rfl (hb hby dJcl_4) rfl ((if0 _ _).trans (feq (by decide : ¬ ((1 : Int32) = (0 : Int32)))).1) k)
  have pre5 : Go p e below T2 (mkF m 8 #[rv a1, iv p1] [(.ref a1)]) s₁ EF := fun t k => pre4 t (by
      refine XS.aloadN X2.here hx rfl (hb hby dJcl_7) rfl rfl ?_
      exact k)
  obtain ⟨T6, X6, e6, st6⟩ := getF X2 hx hZ hown (host := "") (Or.inl (hw _ (mW 27 rfl))) Via.refl e2 FV (g := (mkF m 8 #[rv a1, iv p1] [(.ref a1)])) rfl rfl (hb hby dJcl_8)
  have pre7 : Go p e below T6 (mkF m 11 #[rv a1, iv p1] [(.ref b)]) s₁ EF := fun t k => pre5 t (st6 t k)
  have pre8 : Go p e below T6 (mkF m 12 #[rv a1, iv p1] [(.int p1), (.ref b)]) s₁ EF := fun t k => pre7 t (by
      refine XS.iloadN X6.here hx rfl (hb hby dJcl_11) rfl ?_
      exact k)
  obtain ⟨_, _, ⟨T9, L9, k9, n9⟩, -, X9, ⟨Lc9, hQ9, l9, y9, z9⟩, st9⟩ := Jvm.LawKit.callS X6 hx (y := mN5) hown (mvT hZ (hw _ (mW 67 rfl))) (mvT hZ (hw _ (mW 68 rfl))) (mvT hZ (hw _ (mW 69 rfl))) (mvT hZ (hw _ (mW 70 rfl))) (by decide) (backOf (W := 0) (rmJl1 l Z a0 hw [] b p1 cz fv k z vs bv r h0 n0 Z0 O0 J0 VV h1 h2 hv hR) hZ (hw _ (mW 70 rfl)) (hw _ (mW 69 rfl)) (by decide) (by decide)) (g := (mkF m 12 #[rv a1, iv p1] [(.int p1), (.ref b)])) rfl (by rw [hml]; rfl) (argsL := [(.ref b), (.int p1)]) (rest := []) (lenOf pdJcl_1 rfl) rfl (Nat.le_of_eq rfl) (hb hby dJcl_12) (fun _ _ => ⟨rfl, e6, wl rfl, wl rfl⟩)
  dsimp only [Pt.U, Pt.locs, Pt.cells, Pt.slots] at X9 l9 y9 z9 st9 hQ9
  subst l9 y9 z9
  obtain ⟨rfl, N9q, hq9⟩ := hQ9
  have N9 := Fr.app N2 N9q
  have pre10 : Go p e below T9 (mkF m 15 #[rv a1, iv p1] [(.int r)]) s₁ EF := fun t k => pre8 t (st9 t k)
  have e9 : T9.heap = h0 := hq9
  have hnr : Value.int (nar .char r) = (.int r) := by rw [hnr0]
  obtain ⟨fs, hr, hrun, hended, hW, hsame⟩ := X9.leave (v := some (.int r)) (fun h => by rw [Bd.returns] at h; cases h)
  refine ⟨_, _, hEF ▸ pre10 _ (retN X9 hx (t := .char) Bd.returns (by simp) (hb hby dJcl_15) (hnr ▸ hr)), hrun, hended, _, _, rfl, ?_, ⟨_, rfl⟩, hW, hsame.mono (by decide) (by decide)⟩
  show QJcl Z a1 p1 cz fv b k z vs bv r h0 n0 _ T9.heap _
  rw [e9]
  exact ⟨rfl, N9, rfl⟩
theorem own_idx {p1 : Int32} {n : Nat} (h1 : ¬ p1 < 0) (h : p1.toNatClampNeg < n) : p1.toInt = (p1.toNatClampNeg : Int) := nat_of h1
theorem own_dbl {p1 : Int32} {n : Nat} (h1 : ¬ p1 < 0) (h : p1.toNatClampNeg < n) (hn : n ≤ 4000) : (p1 <<< ((1 : Int32) &&& 31)).toInt = 2 * (p1.toNatClampNeg : Int) ∧ ((p1 <<< ((1 : Int32) &&& 31)) + (1 : Int32)).toInt = 2 * (p1.toNatClampNeg : Int) + 1 := by
  have q := c_ishl p1 1 1 (by decide)
  have p : ((2 ^ 1 : Nat) : Int) = 2 := by decide
  rw [p] at q
  have w := rng32 (p1 <<< ((1 : Int32) &&& 31))
  have i := nat_of h1
  have a : (p1 <<< ((1 : Int32) &&& 31)).toInt = 2 * (p1.toNatClampNeg : Int) := by omega
  have e1 : (1 : Int32).toInt = 1 := by decide
  have q2 := c_iadd (p1 <<< ((1 : Int32) &&& 31)) 1
  have w2 := rng32 ((p1 <<< ((1 : Int32) &&& 31)) + (1 : Int32))
  exact ⟨a, by omega⟩
theorem own_nat {j : Int32} {n : Nat} (h : j.toInt = (n : Int)) : j.toNatClampNeg = n ∧ ¬ j < 0 := by
  have e0 : (0 : Int32).toInt = 0 := by decide
  constructor
  · simp only [Int32.toNatClampNeg, h]; omega
  · rw [Int32.lt_iff_toInt_lt, e0]; omega
def QJC (c : Int32) (h0 : Heap) (n0 : Nat) (v : Option Value) (h : Heap) (L : List Loc) : Prop := v = some (.int c) ∧ Fr n0 L ∧ h = h0
theorem rmJC (l : Launch) (Z : State) (a0 : Array Value) (hw : ∀ d ∈ tables_1, d.before a0 Z = true) (ws : List Jvm.Cond) (a1 : Addr) (p1 : Int32) (cz : Int32) (fv : Value) (cs : List Int32) (c : Int32) (h0 : Heap) (n0 : Nat) (Z0 : n0 ≤ h0.size) (O0 : Old Z n0 h0) (J0 : Jd Z cz fv) (S : Str Z h0 a1 cs) (h1 : ¬ p1 < 0) (hc : cs[p1.toNatClampNeg]? = some c) :
    MetFree l mN10 (head1 (Jvm.Cond.code mN10 jdk_42_method_56_code 2 (some .char) :: ws) rKJcl) (fun a U => a = #[(.ref a1), (.int p1)] ∧ Z.Warmed39 U.vm ∧ U.heap = h0) (fun _ _ _ _ _ => True) (fun _ U o U' => ∃ v L, o = .returned v ∧ QJC c h0 n0 v U'.heap L ∧ FrameEnd U o U' L rKJcl.cells rKJcl.slots) := by
  obtain ⟨cd, b, k, z, vs, E, FC, FV, VV, hb, h⟩ := S
  have hlt : p1.toNatClampNeg < cs.length := (List.getElem?_eq_some_iff.mp hc).1
  have hi := nat_of h1
  rcases h with ⟨rfl, hz, rfl, hr⟩ | ⟨rfl, hz, rfl, hr⟩
  · have hq := hr c (List.mem_of_getElem? hc)
    exact rmJcl l Z a0 hw ws a1 p1 cz fv b k z _ c.toInt8.toInt32 c h0 n0 Z0 O0 J0 E FC FV VV h1 (by rw [Int32.lt_iff_toInt_lt]; omega) (own_lat_at hc) (own_lat hq.1 hq.2) (own_nc hq.1 (by omega))
  · have hq := hr c (List.mem_of_getElem? hc)
    have hd := own_dbl h1 hlt hb
    have n1 := own_nat (n := 2 * p1.toNatClampNeg) (by rw [hd.1]; omega)
    have n2 := own_nat (n := 2 * p1.toNatClampNeg + 1) (by rw [hd.2]; omega)
    have hv := own_wid_at hc
    refine rmJcu l Z a0 hw ws a1 p1 cz fv b k z _ c c (z >>> ((1 : Int32) &&& 31)) h0 n0 Z0 O0 J0 E FC FV VV ⟨n1.2, by rw [Int32.lt_iff_toInt_lt]; omega⟩ (by rw [n1.1]; exact hv.1) ⟨n2.2, by rw [Int32.lt_iff_toInt_lt]; omega⟩ (by rw [n2.1]; exact hv.2) hq.1 hq.2 rfl rfl h1 ?_ (own_nc hq.1 hq.2)
    have q := c_ishr z 1 1 (by decide)
    have p : ((2 ^ 1 : Nat) : Int) = 2 := by decide
    rw [p] at q; rw [Int32.lt_iff_toInt_lt, q]; omega
theorem own_le {cs : List Int32} (hr : ∀ c ∈ cs, 0 ≤ c.toInt ∧ c.toInt < 65536) (hl : ∀ c ∈ cs, ¬ (255 : Int32) < c) : ∀ c ∈ cs, 0 ≤ c.toInt ∧ c.toInt < 256 := fun c hc => by
  have a := hr c hc
  have b := hl c hc
  have e : (255 : Int32).toInt = 255 := by decide
  rw [Int32.lt_iff_toInt_lt, e] at b
  exact ⟨a.1, by omega⟩
theorem own_gx {cs : List Int32} {z p1 c : Int32} (h1 : ¬ p1 < 0) (hc : cs[p1.toNatClampNeg]? = some c) (hz : z.toInt = 2 * cs.length) (hb : cs.length ≤ 4000) : (¬ (p1 <<< ((1 : Int32) &&& 31)) < 0 ∧ (p1 <<< ((1 : Int32) &&& 31)) < z) ∧ (WidV cs).getD (p1 <<< ((1 : Int32) &&& 31)).toNatClampNeg (.int 0) = .int (lo8 c) ∧ (¬ ((p1 <<< ((1 : Int32) &&& 31)) + (1 : Int32)) < 0 ∧ ((p1 <<< ((1 : Int32) &&& 31)) + (1 : Int32)) < z) ∧ (WidV cs).getD ((p1 <<< ((1 : Int32) &&& 31)) + (1 : Int32)).toNatClampNeg (.int 0) = .int (hi8 c) := by
  have hlt : p1.toNatClampNeg < cs.length := (List.getElem?_eq_some_iff.mp hc).1
  have hd := own_dbl h1 hlt hb
  have n1 := own_nat (n := 2 * p1.toNatClampNeg) (by rw [hd.1]; omega)
  have n2 := own_nat (n := 2 * p1.toNatClampNeg + 1) (by rw [hd.2]; omega)
  have hv := own_wid_at hc
  exact ⟨⟨n1.2, by rw [Int32.lt_iff_toInt_lt]; omega⟩, by rw [n1.1]; exact hv.1, ⟨n2.2, by rw [Int32.lt_iff_toInt_lt]; omega⟩, by rw [n2.1]; exact hv.2⟩
abbrev rKKa1 : Room := { frames := 0, cells := 0, slots := 0, locals := 0 }
theorem dKa1_0 : decode jdk_52_method_21_code 0 = .ok (.iconst 0, 1) := by decide +kernel
theorem dKa1_1 : decode jdk_52_method_21_code 1 = .ok (.istore 5, 2) := by decide +kernel
theorem dKa1_3 : decode jdk_52_method_21_code 3 = .ok (.iload 5, 2) := by decide +kernel
theorem dKa1_5 : decode jdk_52_method_21_code 5 = .ok (.iload 4, 2) := by decide +kernel
theorem dKa1_7 : decode jdk_52_method_21_code 7 = .ok (.if_icmp .ge 37, 3) := by decide +kernel
theorem dKa1_10 : decode jdk_52_method_21_code 10 = .ok (.aload_n 0, 1) := by decide +kernel
theorem dKa1_11 : decode jdk_52_method_21_code 11 = .ok (.iload_n 1, 1) := by decide +kernel
theorem dKa1_12 : decode jdk_52_method_21_code 12 = .ok (.caload, 1) := by decide +kernel
theorem dKa1_13 : decode jdk_52_method_21_code 13 = .ok (.istore 6, 2) := by decide +kernel
theorem dKa1_15 : decode jdk_52_method_21_code 15 = .ok (.iload 6, 2) := by decide +kernel
theorem dKa1_17 : decode jdk_52_method_21_code 17 = .ok (.sipush 255, 3) := by decide +kernel
theorem dKa1_20 : decode jdk_52_method_21_code 20 = .ok (.if_icmp .le 6, 3) := by decide +kernel
theorem dKa1_23 : decode jdk_52_method_21_code 23 = .ok (.iload 5, 2) := by decide +kernel
theorem dKa1_25 : decode jdk_52_method_21_code 25 = .ok (.ireturn, 1) := by decide +kernel
theorem dKa1_26 : decode jdk_52_method_21_code 26 = .ok (.aload_n 2, 1) := by decide +kernel
theorem dKa1_27 : decode jdk_52_method_21_code 27 = .ok (.iload_n 3, 1) := by decide +kernel
theorem dKa1_28 : decode jdk_52_method_21_code 28 = .ok (.iload 6, 2) := by decide +kernel
theorem dKa1_30 : decode jdk_52_method_21_code 30 = .ok (.i2b, 1) := by decide +kernel
theorem dKa1_31 : decode jdk_52_method_21_code 31 = .ok (.bastore, 1) := by decide +kernel
theorem dKa1_32 : decode jdk_52_method_21_code 32 = .ok (.iinc 1 1, 3) := by decide +kernel
theorem dKa1_35 : decode jdk_52_method_21_code 35 = .ok (.iinc 3 1, 3) := by decide +kernel
theorem dKa1_38 : decode jdk_52_method_21_code 38 = .ok (.iinc 5 1, 3) := by decide +kernel
theorem dKa1_41 : decode jdk_52_method_21_code 41 = .ok (.goto (-38), 3) := by decide +kernel
theorem dKa1_44 : decode jdk_52_method_21_code 44 = .ok (.iload 4, 2) := by decide +kernel
theorem dKa1_46 : decode jdk_52_method_21_code 46 = .ok (.ireturn, 1) := by decide +kernel
theorem pnKa1 : plainName "java/lang/StringUTF16" = true := by first | (simp [plainName, overriddenIn]; done) | decide +kernel
theorem efKa1 (m : MethodId) (a1 : Addr) (a2 : Addr) : entryFrame m #[(.ref a1), (.int (0 : Int32)), (.ref a2), (.int (0 : Int32)), (.int (1 : Int32))] 7 = mkF m 0 #[rv a1, iv (0 : Int32), rv a2, iv (0 : Int32), iv (1 : Int32), .unset, .unset] [] := by first | (simp [entryFrame, mkF, argsToLocals, Value.category]; done) | rfl
def QKa1 (Z : State) (a1 : Addr) (a2 : Addr) (cz : Int32) (fv : Value) (k1 : ClassId) (k2 : ClassId) (c0 : Int32) (h0 : Heap) (n0 : Nat) (v : Option Value) (h : Heap) (L : List Loc) : Prop := (v = some (.int (1 : Int32)) ∧ Fr n0 L ∧ Keep h0 h [a2] ∧ (∀ c ∈ [c0], ¬ (255 : Int32) < c) ∧ Arv Z h a2 k2 .byte (1 : Int32) [(.int (c0.toInt8.toInt32))] (.int (0 : Int32))) ∨ (∃ (i ci : Int32), v = some (.int i) ∧ Fr n0 L ∧ Keep h0 h [a2] ∧ ¬ i < 0 ∧ ¬ i = (1 : Int32) ∧ [c0][i.toNatClampNeg]? = some ci ∧ (255 : Int32) < ci)
set_option maxRecDepth 65536 in
set_option maxHeartbeats 40000000 in
theorem rmKa1 (l : Launch) (Z : State) (a0 : Array Value) (hw : ∀ d ∈ tables_1, d.before a0 Z = true) (ws : List Jvm.Cond) (a1 : Addr) (a2 : Addr) (cz : Int32) (fv : Value) (k1 : ClassId) (k2 : ClassId) (c0 : Int32) (h0 : Heap) (n0 : Nat) (Z0 : n0 ≤ h0.size) (O0 : Old Z n0 h0) (J0 : Jd Z cz fv) (V1 : Arv Z h0 a1 k1 .char (1 : Int32) [(.int c0)] (.int (0 : Int32))) (V2 : Arv Z h0 a2 k2 .byte (1 : Int32) [(.int (0 : Int32))] (.int (0 : Int32))) (ne12 : a1 ≠ a2) (g_a2 : n0 ≤ a2) :
    MetFree l mN11 (head1 (Jvm.Cond.code mN11 jdk_52_method_21_code 7 (some .int) :: ws) rKKa1) (fun a U => a = #[(.ref a1), (.int (0 : Int32)), (.ref a2), (.int (0 : Int32)), (.int (1 : Int32))] ∧ Z.Warmed39 U.vm ∧ U.heap = h0) (fun _ _ _ _ _ => True) (fun _ U o U' => ∃ v L, o = .returned v ∧ QKa1 Z a1 a2 cz fv k1 k2 c0 h0 n0 v U'.heap L ∧ FrameEnd U o U' L rKKa1.cells rKKa1.slots) := by
  refine MetFree.of_bodySF (plainFor_of_name pnKa1) hisR ?_
  intro p e s m args below meth c s₁ Bd hml0 hP hK
  obtain ⟨rfl, hZ, hh⟩ := hP
  have hx := Bd.exec
  have hby := Bd.bytes
  have hml : c.maxLocals = 7 := hml0
  have hown : s.vm.findClass "java/lang/StringUTF16" = some m.cls := findClass_of_methodNamed Bd.named
  have hnm := (name_of_methodNamed Bd.named Bd.method).1
  have X0 : Stand p l e rKKa1 s m #[(.ref a1), (.int (0 : Int32)), (.ref a2), (.int (0 : Int32)), (.int (1 : Int32))] below meth c s₁ [] 0 0 := Stand.of_body Bd
  have e0 : s₁.heap = h0 := by rw [← hh, Bd.state]; rfl
  have N0 := Fr.nil n0
  obtain ⟨EF, hEF⟩ : ∃ f, f = entryFrame m #[(.ref a1), (.int (0 : Int32)), (.ref a2), (.int (0 : Int32)), (.int (1 : Int32))] 7 := ⟨_, rfl⟩
  have pre0 : Go p e below s₁ (mkF m 0 #[rv a1, iv (0 : Int32), rv a2, iv (0 : Int32), iv (1 : Int32), .unset, .unset] []) s₁ EF := fun t k => by rw [hEF]; exact castTop (efKa1 m a1 a2) k
  have pre1 : Go p e below s₁ (mkF m 7 #[rv a1, iv (0 : Int32), rv a2, iv (0 : Int32), iv (1 : Int32), iv (0 : Int32), .unset] [(.int (1 : Int32)), (.int (0 : Int32))]) s₁ EF := fun t k => pre0 t (by
      refine XS.iconst X0.here hx rfl (hb hby dKa1_0) ?_
      refine XS.istore X0.here hx rfl (hb hby dKa1_1) rfl (l' := #[rv a1, iv (0 : Int32), rv a2, iv (0 : Int32), iv (1 : Int32), iv (0 : Int32), .unset]) rfl ?_
      refine XS.iload X0.here hx rfl (hb hby dKa1_3) rfl ?_
      refine XS.iload X0.here hx rfl (hb hby dKa1_5) rfl ?_
      exact k)
  have pre2 : Go p e below s₁ (mkF m 10 #[rv a1, iv (0 : Int32), rv a2, iv (0 : Int32), iv (1 : Int32), iv (0 : Int32), .unset] []) s₁ EF := fun t k => pre1 t (XS.icmpNo X0.here hx rfl (hb hby dKa1_7) rfl (tlt (by decide : (0 : Int32) < (1 : Int32))).2.1 k)
  have pre3 : Go p e below s₁ (mkF m 12 #[rv a1, iv (0 : Int32), rv a2, iv (0 : Int32), iv (1 : Int32), iv (0 : Int32), .unset] [(.int (0 : Int32)), (.ref a1)]) s₁ EF := fun t k => pre2 t (by
      refine XS.aloadN X0.here hx rfl (hb hby dKa1_10) rfl rfl ?_
      refine XS.iloadN X0.here hx rfl (hb hby dKa1_11) rfl ?_
      exact k)
  obtain ⟨cl4, Ar4, q4, Sz4, M4, H4, G4⟩ := id V1
  have hin4 : ¬ ((0 : Int32) < 0 ∨ cl4.slots.size ≤ ((0 : Int32)).toNatClampNeg) := inb_of Sz4 ⟨by decide, by decide⟩
  have hat4 : cl4.slots[((0 : Int32)).toNatClampNeg]? = some (.int c0) := Has.at H4 hin4 rfl
  have pre5 : Go p e below s₁ (mkF m 20 #[rv a1, iv (0 : Int32), rv a2, iv (0 : Int32), iv (1 : Int32), iv (0 : Int32), iv c0] [(.int (255 : Int32)), (.int c0)]) s₁ EF := fun t k => pre3 t (by
      refine X0.caload hx (j := (0 : Int32)) (v := (.int c0)) (by rw [e0]; exact Ar4.1) (State.isArrayOf_alike hZ.alike Ar4.2.1) Ar4.2.2 hin4 hat4 (g := (mkF m 12 #[rv a1, iv (0 : Int32), rv a2, iv (0 : Int32), iv (1 : Int32), iv (0 : Int32), .unset] [(.int (0 : Int32)), (.ref a1)])) rfl rfl (hb hby dKa1_12) _ ?_
      refine XS.istore X0.here hx rfl (hb hby dKa1_13) rfl (l' := #[rv a1, iv (0 : Int32), rv a2, iv (0 : Int32), iv (1 : Int32), iv (0 : Int32), iv c0]) rfl ?_
      refine XS.iload X0.here hx rfl (hb hby dKa1_15) rfl ?_
      refine XS.sipush X0.here hx rfl (hb hby dKa1_17) ?_
      exact k)
  by_cases hc20 : (255 : Int32) < c0
  · have pre6 : Go p e below s₁ (mkF m 23 #[rv a1, iv (0 : Int32), rv a2, iv (0 : Int32), iv (1 : Int32), iv (0 : Int32), iv c0] []) s₁ EF := fun t k => pre5 t (XS.icmpNo X0.here hx rfl (hb hby dKa1_20) rfl (tlt hc20).2.2.2 k)
    have pre7 : Go p e below s₁ (mkF m 25 #[rv a1, iv (0 : Int32), rv a2, iv (0 : Int32), iv (1 : Int32), iv (0 : Int32), iv c0] [(.int (0 : Int32))]) s₁ EF := fun t k => pre6 t (by
        refine XS.iload X0.here hx rfl (hb hby dKa1_23) rfl ?_
        exact k)
    obtain ⟨fs, hr, hrun, hended, hW, hsame⟩ := X0.leave (v := some (.int (0 : Int32))) (fun h => by rw [Bd.returns] at h; cases h)
    refine ⟨_, _, hEF ▸ pre7 _ (retOut X0 hx Bd.returns rfl (Or.inl ⟨rfl, Or.inl rfl, _, rfl⟩) (hb hby dKa1_25) hr), hrun, hended, _, _, rfl, ?_, ⟨_, rfl⟩, hW, hsame.mono (by decide) (by decide)⟩
    show QKa1 Z a1 a2 cz fv k1 k2 c0 h0 n0 _ s₁.heap _
    rw [e0]
    exact Or.inr ⟨_, _, rfl, N0, (Keep.refl h0 [a2]), (by decide), (by decide), rfl, hc20⟩
  have pre8 : Go p e below s₁ (mkF m 26 #[rv a1, iv (0 : Int32), rv a2, iv (0 : Int32), iv (1 : Int32), iv (0 : Int32), iv c0] []) s₁ EF := fun t k => pre5 t (XS.icmpYes X0.here hx rfl (pc0 := 20) (pc' := 26) rfl (hb hby dKa1_20) rfl (flt hc20).2.2.2 (by decide) (by decide) k)
  have pre9 : Go p e below s₁ (mkF m 31 #[rv a1, iv (0 : Int32), rv a2, iv (0 : Int32), iv (1 : Int32), iv (0 : Int32), iv c0] [(.int (c0.toInt8.toInt32)), (.int (0 : Int32)), (.ref a2)]) s₁ EF := fun t k => pre8 t (by
      refine XS.aloadN X0.here hx rfl (hb hby dKa1_26) rfl rfl ?_
      refine XS.iloadN X0.here hx rfl (hb hby dKa1_27) rfl ?_
      refine XS.iload X0.here hx rfl (hb hby dKa1_28) rfl ?_
      refine XS.i2b X0.here hx rfl (hb hby dKa1_30) rfl ?_
      exact k)
  obtain ⟨cl10, Ar10, q10, Sz10, M10, H10, G10⟩ := id V2
  have hin10 : ¬ ((0 : Int32) < 0 ∨ cl10.slots.size ≤ ((0 : Int32)).toNatClampNeg) := inb_of Sz10 ⟨by decide, by decide⟩
  obtain ⟨T10, h10, X10, e10, W10, st10⟩ := stB X0 hx hZ e0 Ar10 (j := (0 : Int32)) hin10 (g := (mkF m 31 #[rv a1, iv (0 : Int32), rv a2, iv (0 : Int32), iv (1 : Int32), iv (0 : Int32), iv c0] [(.int (c0.toInt8.toInt32)), (.int (0 : Int32)), (.ref a2)])) rfl rfl (hb hby dKa1_31)
  rw [own_i2b2] at W10
  have pre11 : Go p e below T10 (mkF m 32 #[rv a1, iv (0 : Int32), rv a2, iv (0 : Int32), iv (1 : Int32), iv (0 : Int32), iv c0] []) s₁ EF := fun t k => pre9 t (st10 t k)
  have O12 : Old Z n0 h10 := O0.wr W10 g_a2
  have Z12 : n0 ≤ h10.size := Nat.le_trans Z0 (Keep.of_wr W10).1
  have K12 : Keep h0 h10 [a2] := (Keep.refl h0 [a2]).wr W10 (Or.inl (List.mem_of_getElem? (i := 0) rfl))
  have V10 : Arv Z h10 a2 k2 .byte (1 : Int32) [(.int (c0.toInt8.toInt32))] (.int (0 : Int32)) := Arv.set Ar10 q10 Sz10 M10 H10 G10 (fits_nar_byte _) W10 0 rfl (Nat.le_of_ble_eq_true rfl)
  have N10 := Fr.snoc X10 N0 g_a2
  have pre13 : Go p e below T10 (mkF m 7 #[rv a1, iv (1 : Int32), rv a2, iv (1 : Int32), iv (1 : Int32), iv (1 : Int32), iv c0] [(.int (1 : Int32)), (.int (1 : Int32))]) s₁ EF := fun t k => pre11 t (by
      refine XS.iinc X10.here hx rfl (hb hby dKa1_32) rfl (l' := #[rv a1, iv (1 : Int32), rv a2, iv (0 : Int32), iv (1 : Int32), iv (0 : Int32), iv c0]) rfl ?_
      refine XS.iinc X10.here hx rfl (hb hby dKa1_35) rfl (l' := #[rv a1, iv (1 : Int32), rv a2, iv (1 : Int32), iv (1 : Int32), iv (0 : Int32), iv c0]) rfl ?_
      refine XS.iinc X10.here hx rfl (hb hby dKa1_38) rfl (l' := #[rv a1, iv (1 : Int32), rv a2, iv (1 : Int32), iv (1 : Int32), iv (1 : Int32), iv c0]) rfl ?_
      refine XS.goto X10.here hx rfl (pc0 := 41) (pc' := 3) rfl (hb hby dKa1_41) (by decide) (by decide) ?_
      refine XS.iload X10.here hx rfl (hb hby dKa1_3) rfl ?_
      refine XS.iload X10.here hx rfl (hb hby dKa1_5) rfl ?_
      exact k)
  have pre14 : Go p e below T10 (mkF m 44 #[rv a1, iv (1 : Int32), rv a2, iv (1 : Int32), iv (1 : Int32), iv (1 : Int32), iv c0] []) s₁ EF := fun t k => pre13 t (XS.icmpYes X10.here hx rfl (pc0 := 7) (pc' := 44) rfl (hb hby dKa1_7) rfl (flt (by decide : ¬ ((1 : Int32) < (1 : Int32)))).2.1 (by decide) (by decide) k)
  have pre15 : Go p e below T10 (mkF m 46 #[rv a1, iv (1 : Int32), rv a2, iv (1 : Int32), iv (1 : Int32), iv (1 : Int32), iv c0] [(.int (1 : Int32))]) s₁ EF := fun t k => pre14 t (by
      refine XS.iload X10.here hx rfl (hb hby dKa1_44) rfl ?_
      exact k)
  obtain ⟨fs, hr, hrun, hended, hW, hsame⟩ := X10.leave (v := some (.int (1 : Int32))) (fun h => by rw [Bd.returns] at h; cases h)
  refine ⟨_, _, hEF ▸ pre15 _ (retOut X10 hx Bd.returns rfl (Or.inl ⟨rfl, Or.inl rfl, _, rfl⟩) (hb hby dKa1_46) hr), hrun, hended, _, _, rfl, ?_, ⟨_, rfl⟩, hW, hsame.mono (by decide) (by decide)⟩
  show QKa1 Z a1 a2 cz fv k1 k2 c0 h0 n0 _ T10.heap _
  rw [e10]
  exact Or.inl ⟨rfl, N10, K12, (List.forall_mem_cons.mpr ⟨hc20, (fun _ q => nomatch q)⟩), V10⟩
abbrev rKKn1 : Room := { frames := 0, cells := 0, slots := 0, locals := 0 }
theorem dKn1_0 : decode jdk_52_method_3_code 0 = .ok (.iload_n 0, 1) := by decide +kernel
theorem dKn1_1 : decode jdk_52_method_3_code 1 = .ok (.ifCond .ge 11, 3) := by decide +kernel
theorem dKn1_12 : decode jdk_52_method_3_code 12 = .ok (.iload_n 0, 1) := by decide +kernel
theorem dKn1_13 : decode jdk_52_method_3_code 13 = .ok (.ldc 20, 2) := by decide +kernel
theorem dKn1_15 : decode jdk_52_method_3_code 15 = .ok (.if_icmp .lt 40, 3) := by decide +kernel
theorem dKn1_55 : decode jdk_52_method_3_code 55 = .ok (.iload_n 0, 1) := by decide +kernel
theorem dKn1_56 : decode jdk_52_method_3_code 56 = .ok (.iconst 1, 1) := by decide +kernel
theorem dKn1_57 : decode jdk_52_method_3_code 57 = .ok (.ishl, 1) := by decide +kernel
theorem dKn1_58 : decode jdk_52_method_3_code 58 = .ok (.ireturn, 1) := by decide +kernel
theorem pnKn1 : plainName "java/lang/StringUTF16" = true := by first | (simp [plainName, overriddenIn]; done) | decide +kernel
theorem efKn1 (m : MethodId)  : entryFrame m #[(.int (1 : Int32))] 1 = mkF m 0 #[iv (1 : Int32)] [] := by first | (simp [entryFrame, mkF, argsToLocals, Value.category]; done) | rfl
def QKn1 (Z : State) (cz : Int32) (fv : Value) (h0 : Heap) (n0 : Nat) (v : Option Value) (h : Heap) (L : List Loc) : Prop := v = some (.int (2 : Int32)) ∧ Fr n0 L ∧ h = h0
set_option maxRecDepth 65536 in
set_option maxHeartbeats 40000000 in
theorem rmKn1 (l : Launch) (Z : State) (a0 : Array Value) (hw : ∀ d ∈ tables_1, d.before a0 Z = true) (ws : List Jvm.Cond) (cz : Int32) (fv : Value) (h0 : Heap) (n0 : Nat) (Z0 : n0 ≤ h0.size) (O0 : Old Z n0 h0) (J0 : Jd Z cz fv) :
    MetFree l mN12 (head1 (Jvm.Cond.code mN12 jdk_52_method_3_code 1 (some .int) :: ws) rKKn1) (fun a U => a = #[(.int (1 : Int32))] ∧ Z.Warmed39 U.vm ∧ U.heap = h0) (fun _ _ _ _ _ => True) (fun _ U o U' => ∃ v L, o = .returned v ∧ QKn1 Z cz fv h0 n0 v U'.heap L ∧ FrameEnd U o U' L rKKn1.cells rKKn1.slots) := by
  refine MetFree.of_bodySF (plainFor_of_name pnKn1) hisR ?_
  intro p e s m args below meth c s₁ Bd hml0 hP hK
  obtain ⟨rfl, hZ, hh⟩ := hP
  have hx := Bd.exec
  have hby := Bd.bytes
  have hml : c.maxLocals = 1 := hml0
  have hown : s.vm.findClass "java/lang/StringUTF16" = some m.cls := findClass_of_methodNamed Bd.named
  have hnm := (name_of_methodNamed Bd.named Bd.method).1
  have X0 : Stand p l e rKKn1 s m #[(.int (1 : Int32))] below meth c s₁ [] 0 0 := Stand.of_body Bd
  have e0 : s₁.heap = h0 := by rw [← hh, Bd.state]; rfl
  have N0 := Fr.nil n0
  obtain ⟨EF, hEF⟩ : ∃ f, f = entryFrame m #[(.int (1 : Int32))] 1 := ⟨_, rfl⟩
  have pre0 : Go p e below s₁ (mkF m 0 #[iv (1 : Int32)] []) s₁ EF := fun t k => by rw [hEF]; exact castTop (efKn1 m ) k
  have pre1 : Go p e below s₁ (mkF m 1 #[iv (1 : Int32)] [(.int (1 : Int32))]) s₁ EF := fun t k => pre0 t (by
      refine XS.iloadN X0.here hx rfl (hb hby dKn1_0) rfl ?_
      exact k)
  have pre2 : Go p e below s₁ (mkF m 12 #[iv (1 : Int32)] []) s₁ EF := fun t k => pre1 t (XS.ifYes X0.here hx rfl (pc0 := 1) (pc' := 12) rfl (hb hby dKn1_1) rfl ((if0 _ _).trans (flt (by decide : ¬ ((1 : Int32) < (0 : Int32)))).2.1) (by decide) (by decide) k)
  have pre3 : Go p e below s₁ (mkF m 15 #[iv (1 : Int32)] [(.int (1073741823 : Int32)), (.int (1 : Int32))]) s₁ EF := fun t k => pre2 t (by
      refine XS.iloadN X0.here hx rfl (hb hby dKn1_12) rfl ?_
      refine X0.ldcInt hx hown (mvT hZ (hw _ (mW 88 rfl))) (g := (mkF m 13 #[iv (1 : Int32)] [(.int (1 : Int32))])) rfl (hb hby dKn1_13) _ ?_
      exact k)
  have pre4 : Go p e below s₁ (mkF m 55 #[iv (1 : Int32)] []) s₁ EF := fun t k => pre3 t (XS.icmpYes X0.here hx rfl (pc0 := 15) (pc' := 55) rfl (hb hby dKn1_15) rfl (tlt (by decide : (1 : Int32) < (1073741823 : Int32))).1 (by decide) (by decide) k)
  have pre5 : Go p e below s₁ (mkF m 58 #[iv (1 : Int32)] [(.int (2 : Int32))]) s₁ EF := fun t k => pre4 t (by
      refine XS.iloadN X0.here hx rfl (hb hby dKn1_55) rfl ?_
      refine XS.iconst X0.here hx rfl (hb hby dKn1_56) ?_
      refine XS.ishl X0.here hx rfl (hb hby dKn1_57) rfl ?_
      exact k)
  obtain ⟨fs, hr, hrun, hended, hW, hsame⟩ := X0.leave (v := some (.int (2 : Int32))) (fun h => by rw [Bd.returns] at h; cases h)
  refine ⟨_, _, hEF ▸ pre5 _ (retOut X0 hx Bd.returns rfl (Or.inl ⟨rfl, Or.inl rfl, _, rfl⟩) (hb hby dKn1_58) hr), hrun, hended, _, _, rfl, ?_, ⟨_, rfl⟩, hW, hsame.mono (by decide) (by decide)⟩
  show QKn1 Z cz fv h0 n0 _ s₁.heap _
  rw [e0]
  exact ⟨rfl, N0, rfl⟩
abbrev rKKf1 : Room := { frames := 1, cells := 1, slots := 2, locals := 12 }
theorem dKf1_0 : decode jdk_52_method_2_code 0 = .ok (.iload_n 0, 1) := by decide +kernel
theorem dKf1_1 : decode jdk_52_method_2_code 1 = .ok (.invokestatic 11, 3) := by decide +kernel
theorem dKf1_4 : decode jdk_52_method_2_code 4 = .ok (.newarray .byte, 2) := by decide +kernel
theorem dKf1_6 : decode jdk_52_method_2_code 6 = .ok (.areturn, 1) := by decide +kernel
theorem pnKf1 : plainName "java/lang/StringUTF16" = true := by first | (simp [plainName, overriddenIn]; done) | decide +kernel
theorem pdKf1_0 : parseMethodDescriptor "(I)I" = some ⟨[.int], some .int⟩ := by decide +kernel
theorem efKf1 (m : MethodId)  : entryFrame m #[(.int (1 : Int32))] 1 = mkF m 0 #[iv (1 : Int32)] [] := by first | (simp [entryFrame, mkF, argsToLocals, Value.category]; done) | rfl
def QKf1 (Z : State) (cz : Int32) (fv : Value) (h0 : Heap) (n0 : Nat) (v : Option Value) (h : Heap) (L : List Loc) : Prop := ∃ b k, v = some (.ref b) ∧ Fr n0 L ∧ Keep h0 h [] ∧ h0.size ≤ b ∧ Arv Z h b k .byte (2 : Int32) [(.int (0 : Int32)), (.int (0 : Int32))] (.int (0 : Int32))
set_option maxRecDepth 65536 in
set_option maxHeartbeats 40000000 in
theorem rmKf1 (l : Launch) (Z : State) (a0 : Array Value) (hw : ∀ d ∈ tables_1, d.before a0 Z = true) (ws : List Jvm.Cond) (cz : Int32) (fv : Value) (h0 : Heap) (n0 : Nat) (Z0 : n0 ≤ h0.size) (O0 : Old Z n0 h0) (J0 : Jd Z cz fv) :
    MetFree l mN13 (head1 (Jvm.Cond.code mN13 jdk_52_method_2_code 1 (some (.array .byte)) :: ws) rKKf1) (fun a U => a = #[(.int (1 : Int32))] ∧ Z.Warmed39 U.vm ∧ U.heap = h0) (fun _ _ _ _ _ => True) (fun _ U o U' => ∃ v L, o = .returned v ∧ QKf1 Z cz fv h0 n0 v U'.heap L ∧ FrameEnd U o U' L rKKf1.cells rKKf1.slots) := by
  refine MetFree.of_bodySF (plainFor_of_name pnKf1) hisR ?_
  intro p e s m args below meth c s₁ Bd hml0 hP hK
  obtain ⟨rfl, hZ, hh⟩ := hP
  have hx := Bd.exec
  have hby := Bd.bytes
  have hml : c.maxLocals = 1 := hml0
  have hown : s.vm.findClass "java/lang/StringUTF16" = some m.cls := findClass_of_methodNamed Bd.named
  have hnm := (name_of_methodNamed Bd.named Bd.method).1
  have X0 : Stand p l e rKKf1 s m #[(.int (1 : Int32))] below meth c s₁ [] 0 0 := Stand.of_body Bd
  have e0 : s₁.heap = h0 := by rw [← hh, Bd.state]; rfl
  have N0 := Fr.nil n0
  obtain ⟨EF, hEF⟩ : ∃ f, f = entryFrame m #[(.int (1 : Int32))] 1 := ⟨_, rfl⟩
  have pre0 : Go p e below s₁ (mkF m 0 #[iv (1 : Int32)] []) s₁ EF := fun t k => by rw [hEF]; exact castTop (efKf1 m ) k
  have pre1 : Go p e below s₁ (mkF m 1 #[iv (1 : Int32)] [(.int (1 : Int32))]) s₁ EF := fun t k => pre0 t (by
      refine XS.iloadN X0.here hx rfl (hb hby dKf1_0) rfl ?_
      exact k)
  obtain ⟨_, _, ⟨T2, L2, k2, n2⟩, -, X2, ⟨Lc2, hQ2, l2, y2, z2⟩, st2⟩ := Jvm.LawKit.callS X0 hx (y := mN12) hown (mvT hZ (hw _ (mW 85 rfl))) (mvT hZ (hw _ (mW 86 rfl))) (mvT hZ (hw _ (mW 46 rfl))) (mvT hZ (hw _ (mW 87 rfl))) (by decide) (backOf (W := 0) (rmKn1 l Z a0 hw []  cz fv  h0 n0 Z0 O0 J0 ) hZ (hw _ (mW 87 rfl)) (hw _ (mW 46 rfl)) (by decide) (by decide)) (g := (mkF m 1 #[iv (1 : Int32)] [(.int (1 : Int32))])) rfl (by rw [hml]; rfl) (argsL := [(.int (1 : Int32))]) (rest := []) (lenOf pdKf1_0 rfl) rfl (Nat.le_of_eq rfl) (hb hby dKf1_1) (fun _ _ => ⟨rfl, e0, wl rfl, wl rfl⟩)
  dsimp only [Pt.U, Pt.locs, Pt.cells, Pt.slots] at X2 l2 y2 z2 st2 hQ2
  subst l2 y2 z2
  obtain ⟨rfl, N2q, hq2⟩ := hQ2
  have N2 := Fr.app N0 N2q
  have pre3 : Go p e below T2 (mkF m 4 #[iv (1 : Int32)] [(.int (2 : Int32))]) s₁ EF := fun t k => pre1 t (st2 t k)
  have e2 : T2.heap = h0 := hq2
  obtain ⟨T4, h4, k4, X4, e4, Et4, A4, st4⟩ := newP X2 hx hZ (hw _ (mW 22 rfl)) e2 (g := (mkF m 4 #[iv (1 : Int32)] [(.int (2 : Int32))])) rfl (hb hby dKf1_4) rfl (by decide) (cap := 2) (by decide) (by decide) (by decide) (by decide)
  obtain ⟨b4, g4⟩ : ∃ z, z = h0.size := ⟨_, rfl⟩
  rw [← g4] at A4 st4
  have g_b4 : n0 ≤ b4 := Nat.le_trans Z0 (Nat.le_of_eq g4.symm)
  have sz_b4 : h0.size ≤ b4 := Nat.le_trans (Keep.refl h0 []).1 (Nat.le_of_eq g4.symm)
  have pre5 : Go p e below T4 (mkF m 6 #[iv (1 : Int32)] [(.ref b4)]) s₁ EF := fun t k => pre3 t (st4 t k)
  have O6 : Old Z n0 h4 := O0.ext Et4
  have Z6 : n0 ≤ h4.size := Nat.le_trans Z0 Et4.1
  have K6 : Keep h0 h4 [] := (Keep.refl h0 []).ext Et4
  have V4 : Arv Z h4 b4 k4 .byte (2 : Int32) [(.int (0 : Int32)), (.int (0 : Int32))] (.int (0 : Int32)) := (Arv.new A4 (by decide)).pad (pad_rep [] (.int (0 : Int32)) 2)
  obtain ⟨fs, hr, hrun, hended, hW, hsame⟩ := X4.leave (v := some (.ref b4)) (fun h => by rw [Bd.returns] at h; cases h)
  refine ⟨_, _, hEF ▸ pre5 _ (retOut X4 hx Bd.returns rfl (Or.inr (Or.inr (Or.inr (Or.inr ⟨rfl, rfl, rfl⟩)))) (hb hby dKf1_6) hr), hrun, hended, _, _, rfl, ?_, ⟨_, rfl⟩, hW, hsame.mono (by decide) (by decide)⟩
  show QKf1 Z cz fv h0 n0 _ T4.heap _
  rw [e4]
  exact ⟨_, _, rfl, N2, K6, sz_b4, V4⟩
abbrev rKKp0 : Room := { frames := 0, cells := 0, slots := 0, locals := 0 }
theorem dKp0_0 : decode jdk_52_method_4_code 0 = .ok (.getstatic 44, 3) := by decide +kernel
theorem dKp0_3 : decode jdk_52_method_4_code 3 = .ok (.ifCond .ne 25, 3) := by decide +kernel
theorem dKp0_28 : decode jdk_52_method_4_code 28 = .ok (.iload_n 1, 1) := by decide +kernel
theorem dKp0_29 : decode jdk_52_method_4_code 29 = .ok (.iconst 1, 1) := by decide +kernel
theorem dKp0_30 : decode jdk_52_method_4_code 30 = .ok (.ishl, 1) := by decide +kernel
theorem dKp0_31 : decode jdk_52_method_4_code 31 = .ok (.istore_n 1, 1) := by decide +kernel
theorem dKp0_32 : decode jdk_52_method_4_code 32 = .ok (.aload_n 0, 1) := by decide +kernel
theorem dKp0_33 : decode jdk_52_method_4_code 33 = .ok (.iload_n 1, 1) := by decide +kernel
theorem dKp0_34 : decode jdk_52_method_4_code 34 = .ok (.iinc 1 1, 3) := by decide +kernel
theorem dKp0_37 : decode jdk_52_method_4_code 37 = .ok (.iload_n 2, 1) := by decide +kernel
theorem dKp0_38 : decode jdk_52_method_4_code 38 = .ok (.getstatic 59, 3) := by decide +kernel
theorem dKp0_41 : decode jdk_52_method_4_code 41 = .ok (.ishr, 1) := by decide +kernel
theorem dKp0_42 : decode jdk_52_method_4_code 42 = .ok (.i2b, 1) := by decide +kernel
theorem dKp0_43 : decode jdk_52_method_4_code 43 = .ok (.bastore, 1) := by decide +kernel
theorem dKp0_44 : decode jdk_52_method_4_code 44 = .ok (.aload_n 0, 1) := by decide +kernel
theorem dKp0_45 : decode jdk_52_method_4_code 45 = .ok (.iload_n 1, 1) := by decide +kernel
theorem dKp0_46 : decode jdk_52_method_4_code 46 = .ok (.iload_n 2, 1) := by decide +kernel
theorem dKp0_47 : decode jdk_52_method_4_code 47 = .ok (.getstatic 63, 3) := by decide +kernel
theorem dKp0_50 : decode jdk_52_method_4_code 50 = .ok (.ishr, 1) := by decide +kernel
theorem dKp0_51 : decode jdk_52_method_4_code 51 = .ok (.i2b, 1) := by decide +kernel
theorem dKp0_52 : decode jdk_52_method_4_code 52 = .ok (.bastore, 1) := by decide +kernel
theorem dKp0_53 : decode jdk_52_method_4_code 53 = .ok (.return_, 1) := by decide +kernel
theorem pnKp0 : plainName "java/lang/StringUTF16" = true := by first | (simp [plainName, overriddenIn]; done) | decide +kernel
theorem efKp0 (m : MethodId) (a1 : Addr) (p2 : Int32) : entryFrame m #[(.ref a1), (.int (0 : Int32)), (.int p2)] 3 = mkF m 0 #[rv a1, iv (0 : Int32), iv p2] [] := by first | (simp [entryFrame, mkF, argsToLocals, Value.category]; done) | rfl
def QKp0 (Z : State) (a1 : Addr) (p2 : Int32) (cz : Int32) (fv : Value) (k : ClassId) (z : Int32) (vs : List Value) (h0 : Heap) (n0 : Nat) (v : Option Value) (h : Heap) (L : List Loc) : Prop := v = none ∧ Fr n0 L ∧ Keep h0 h [a1] ∧ Arv Z h a1 k .byte z ((vs.set 0 (.int (lo8 p2))).set 1 (.int (hi8 p2))) (.int 0)
set_option maxRecDepth 65536 in
set_option maxHeartbeats 40000000 in
theorem rmKp0 (l : Launch) (Z : State) (a0 : Array Value) (hw : ∀ d ∈ tables_1, d.before a0 Z = true) (ws : List Jvm.Cond) (a1 : Addr) (p2 : Int32) (cz : Int32) (fv : Value) (k : ClassId) (z : Int32) (vs : List Value) (h0 : Heap) (n0 : Nat) (Z0 : n0 ≤ h0.size) (O0 : Old Z n0 h0) (J0 : Jd Z cz fv) (VV : Arv Z h0 a1 k .byte z vs (.int 0)) (g_a1 : n0 ≤ a1) (hz0 : (0 : Int32) < z) (hz1 : (1 : Int32) < z) (hln : 1 < vs.length) :
    MetFree l mN14 (head1 (Jvm.Cond.code mN14 jdk_52_method_4_code 3 none :: ws) rKKp0) (fun a U => a = #[(.ref a1), (.int (0 : Int32)), (.int p2)] ∧ Z.Warmed39 U.vm ∧ U.heap = h0) (fun _ _ _ _ _ => True) (fun _ U o U' => ∃ v L, o = .returned v ∧ QKp0 Z a1 p2 cz fv k z vs h0 n0 v U'.heap L ∧ FrameEnd U o U' L rKKp0.cells rKKp0.slots) := by
  refine MetFree.of_bodySF (plainFor_of_name pnKp0) hisR ?_
  intro p e s m args below meth c s₁ Bd hml0 hP hK
  obtain ⟨rfl, hZ, hh⟩ := hP
  have hx := Bd.exec
  have hby := Bd.bytes
  have hml : c.maxLocals = 3 := hml0
  have hown : s.vm.findClass "java/lang/StringUTF16" = some m.cls := findClass_of_methodNamed Bd.named
  have hnm := (name_of_methodNamed Bd.named Bd.method).1
  have X0 : Stand p l e rKKp0 s m #[(.ref a1), (.int (0 : Int32)), (.int p2)] below meth c s₁ [] 0 0 := Stand.of_body Bd
  have e0 : s₁.heap = h0 := by rw [← hh, Bd.state]; rfl
  have N0 := Fr.nil n0
  obtain ⟨EF, hEF⟩ : ∃ f, f = entryFrame m #[(.ref a1), (.int (0 : Int32)), (.int p2)] 3 := ⟨_, rfl⟩
  have pre0 : Go p e below s₁ (mkF m 0 #[rv a1, iv (0 : Int32), iv p2] []) s₁ EF := fun t k => by rw [hEF]; exact castTop (efKp0 m a1 p2) k
  obtain ⟨T1, X1, e1, st1⟩ := getS2 X0 hx hZ hown (host := "") (Or.inl (hw _ (mW 92 rfl))) Via.refl e0 (J0.2.2.2.1.ext O0.2) (g := (mkF m 0 #[rv a1, iv (0 : Int32), iv p2] [])) rfl (hb hby dKp0_0)
  have pre2 : Go p e below T1 (mkF m 3 #[rv a1, iv (0 : Int32), iv p2] [(.int (1 : Int32))]) s₁ EF := fun t k => pre0 t (st1 t k)
  have pre3 : Go p e below T1 (mkF m 28 #[rv a1, iv (0 : Int32), iv p2] []) s₁ EF := fun t k => pre2 t (XS.ifYes X1.here hx rfl (pc0 := 3) (pc' := 28) rfl (hb hby dKp0_3) rfl ((if0 _ _).trans (feq (by decide : ¬ ((1 : Int32) = (0 : Int32)))).2) (by decide) (by decide) k)
  have pre4 : Go p e below T1 (mkF m 38 #[rv a1, iv (1 : Int32), iv p2] [(.int p2), (.int (0 : Int32)), (.ref a1)]) s₁ EF := fun t k => pre3 t (by
      refine XS.iloadN X1.here hx rfl (hb hby dKp0_28) rfl ?_
      refine XS.iconst X1.here hx rfl (hb hby dKp0_29) ?_
      refine XS.ishl X1.here hx rfl (hb hby dKp0_30) rfl ?_
      refine XS.istoreN X1.here hx rfl (hb hby dKp0_31) rfl (l' := #[rv a1, iv (0 : Int32), iv p2]) rfl ?_
      refine XS.aloadN X1.here hx rfl (hb hby dKp0_32) rfl rfl ?_
      refine XS.iloadN X1.here hx rfl (hb hby dKp0_33) rfl ?_
      refine XS.iinc X1.here hx rfl (hb hby dKp0_34) rfl (l' := #[rv a1, iv (1 : Int32), iv p2]) rfl ?_
      refine XS.iloadN X1.here hx rfl (hb hby dKp0_37) rfl ?_
      exact k)
  obtain ⟨T5, X5, e5, st5⟩ := getS2 X1 hx hZ hown (host := "") (Or.inl (hw _ (mW 93 rfl))) Via.refl e1 (J0.2.2.2.2.1.ext O0.2) (g := (mkF m 38 #[rv a1, iv (1 : Int32), iv p2] [(.int p2), (.int (0 : Int32)), (.ref a1)])) rfl (hb hby dKp0_38)
  have pre6 : Go p e below T5 (mkF m 41 #[rv a1, iv (1 : Int32), iv p2] [(.int (0 : Int32)), (.int p2), (.int (0 : Int32)), (.ref a1)]) s₁ EF := fun t k => pre4 t (st5 t k)
  have pre7 : Go p e below T5 (mkF m 43 #[rv a1, iv (1 : Int32), iv p2] [(.int ((p2 >>> ((0 : Int32) &&& 31)).toInt8.toInt32)), (.int (0 : Int32)), (.ref a1)]) s₁ EF := fun t k => pre6 t (by
      refine XS.ishr X5.here hx rfl (hb hby dKp0_41) rfl ?_
      refine XS.i2b X5.here hx rfl (hb hby dKp0_42) rfl ?_
      exact k)
  obtain ⟨cl8, Ar8, q8, Sz8, M8, H8, G8⟩ := id VV
  have hin8 : ¬ ((0 : Int32) < 0 ∨ cl8.slots.size ≤ ((0 : Int32)).toNatClampNeg) := inb_of Sz8 ⟨by decide, hz0⟩
  obtain ⟨T8, h8, X8, e8, W8, st8⟩ := stB X5 hx hZ e5 Ar8 (j := (0 : Int32)) hin8 (g := (mkF m 43 #[rv a1, iv (1 : Int32), iv p2] [(.int ((p2 >>> ((0 : Int32) &&& 31)).toInt8.toInt32)), (.int (0 : Int32)), (.ref a1)])) rfl rfl (hb hby dKp0_43)
  rw [own_i2b2] at W8
  have pre9 : Go p e below T8 (mkF m 44 #[rv a1, iv (1 : Int32), iv p2] []) s₁ EF := fun t k => pre7 t (st8 t k)
  have O10 : Old Z n0 h8 := O0.wr W8 g_a1
  have Z10 : n0 ≤ h8.size := Nat.le_trans Z0 (Keep.of_wr W8).1
  have K10 : Keep h0 h8 [a1] := (Keep.refl h0 [a1]).wr W8 (Or.inl (List.mem_of_getElem? (i := 0) rfl))
  have V8 : Arv Z h8 a1 k .byte z (vs.set 0 (.int ((p2 >>> ((0 : Int32) &&& 31)).toInt8.toInt32))) (.int (0 : Int32)) := Arv.set Ar8 q8 Sz8 M8 H8 G8 (fits_nar_byte _) W8 0 rfl (by first | (simp only [List.length_set]; omega) | omega)
  have N8 := Fr.snoc X8 N0 g_a1
  have pre11 : Go p e below T8 (mkF m 47 #[rv a1, iv (1 : Int32), iv p2] [(.int p2), (.int (1 : Int32)), (.ref a1)]) s₁ EF := fun t k => pre9 t (by
      refine XS.aloadN X8.here hx rfl (hb hby dKp0_44) rfl rfl ?_
      refine XS.iloadN X8.here hx rfl (hb hby dKp0_45) rfl ?_
      refine XS.iloadN X8.here hx rfl (hb hby dKp0_46) rfl ?_
      exact k)
  obtain ⟨T12, X12, e12, st12⟩ := getS2 X8 hx hZ hown (host := "") (Or.inl (hw _ (mW 94 rfl))) Via.refl e8 (J0.2.2.2.2.2.1.ext O10.2) (g := (mkF m 47 #[rv a1, iv (1 : Int32), iv p2] [(.int p2), (.int (1 : Int32)), (.ref a1)])) rfl (hb hby dKp0_47)
  have pre13 : Go p e below T12 (mkF m 50 #[rv a1, iv (1 : Int32), iv p2] [(.int (8 : Int32)), (.int p2), (.int (1 : Int32)), (.ref a1)]) s₁ EF := fun t k => pre11 t (st12 t k)
  have pre14 : Go p e below T12 (mkF m 52 #[rv a1, iv (1 : Int32), iv p2] [(.int ((p2 >>> ((8 : Int32) &&& 31)).toInt8.toInt32)), (.int (1 : Int32)), (.ref a1)]) s₁ EF := fun t k => pre13 t (by
      refine XS.ishr X12.here hx rfl (hb hby dKp0_50) rfl ?_
      refine XS.i2b X12.here hx rfl (hb hby dKp0_51) rfl ?_
      exact k)
  obtain ⟨cl15, Ar15, q15, Sz15, M15, H15, G15⟩ := id V8
  have hin15 : ¬ ((1 : Int32) < 0 ∨ cl15.slots.size ≤ ((1 : Int32)).toNatClampNeg) := inb_of Sz15 ⟨by decide, hz1⟩
  obtain ⟨T15, h15, X15, e15, W15, st15⟩ := stB X12 hx hZ e12 Ar15 (j := (1 : Int32)) hin15 (g := (mkF m 52 #[rv a1, iv (1 : Int32), iv p2] [(.int ((p2 >>> ((8 : Int32) &&& 31)).toInt8.toInt32)), (.int (1 : Int32)), (.ref a1)])) rfl rfl (hb hby dKp0_52)
  rw [own_i2b2] at W15
  have pre16 : Go p e below T15 (mkF m 53 #[rv a1, iv (1 : Int32), iv p2] []) s₁ EF := fun t k => pre14 t (st15 t k)
  have O17 : Old Z n0 h15 := O10.wr W15 g_a1
  have Z17 : n0 ≤ h15.size := Nat.le_trans Z10 (Keep.of_wr W15).1
  have K17 : Keep h0 h15 [a1] := K10.wr W15 (Or.inl (List.mem_of_getElem? (i := 0) rfl))
  have V15 : Arv Z h15 a1 k .byte z ((vs.set 0 (.int ((p2 >>> ((0 : Int32) &&& 31)).toInt8.toInt32))).set 1 (.int ((p2 >>> ((8 : Int32) &&& 31)).toInt8.toInt32))) (.int (0 : Int32)) := Arv.set Ar15 q15 Sz15 M15 H15 G15 (fits_nar_byte _) W15 1 rfl (by first | (simp only [List.length_set]; omega) | omega)
  have N15 := Fr.snoc X15 N8 g_a1
  obtain ⟨fs, hr, hrun, hended, hW, hsame⟩ := X15.leave (v := none) (fun _ => rfl)
  refine ⟨_, _, hEF ▸ pre16 _ (X15.returnOut hx Bd.returns (hb hby dKp0_53) hr), hrun, hended, _, _, rfl, ?_, ⟨_, rfl⟩, hW, hsame.mono (by decide) (by decide)⟩
  show QKp0 Z a1 p2 cz fv k z vs h0 n0 _ T15.heap _
  rw [e15]
  exact ⟨rfl, N15, K17, V15⟩
abbrev rKKt1 : Room := { frames := 2, cells := 1, slots := 2, locals := 24 }
theorem dKt1_0 : decode jdk_52_method_14_code 0 = .ok (.iload_n 2, 1) := by decide +kernel
theorem dKt1_1 : decode jdk_52_method_14_code 1 = .ok (.invokestatic 107, 3) := by decide +kernel
theorem dKt1_4 : decode jdk_52_method_14_code 4 = .ok (.astore_n 3, 1) := by decide +kernel
theorem dKt1_5 : decode jdk_52_method_14_code 5 = .ok (.iconst 0, 1) := by decide +kernel
theorem dKt1_6 : decode jdk_52_method_14_code 6 = .ok (.istore 4, 2) := by decide +kernel
theorem dKt1_8 : decode jdk_52_method_14_code 8 = .ok (.iload 4, 2) := by decide +kernel
theorem dKt1_10 : decode jdk_52_method_14_code 10 = .ok (.iload_n 2, 1) := by decide +kernel
theorem dKt1_11 : decode jdk_52_method_14_code 11 = .ok (.if_icmp .ge 21, 3) := by decide +kernel
theorem dKt1_14 : decode jdk_52_method_14_code 14 = .ok (.aload_n 3, 1) := by decide +kernel
theorem dKt1_15 : decode jdk_52_method_14_code 15 = .ok (.iload 4, 2) := by decide +kernel
theorem dKt1_17 : decode jdk_52_method_14_code 17 = .ok (.aload_n 0, 1) := by decide +kernel
theorem dKt1_18 : decode jdk_52_method_14_code 18 = .ok (.iload_n 1, 1) := by decide +kernel
theorem dKt1_19 : decode jdk_52_method_14_code 19 = .ok (.caload, 1) := by decide +kernel
theorem dKt1_20 : decode jdk_52_method_14_code 20 = .ok (.invokestatic 111, 3) := by decide +kernel
theorem dKt1_23 : decode jdk_52_method_14_code 23 = .ok (.iinc 1 1, 3) := by decide +kernel
theorem dKt1_26 : decode jdk_52_method_14_code 26 = .ok (.iinc 4 1, 3) := by decide +kernel
theorem dKt1_29 : decode jdk_52_method_14_code 29 = .ok (.goto (-21), 3) := by decide +kernel
theorem dKt1_32 : decode jdk_52_method_14_code 32 = .ok (.aload_n 3, 1) := by decide +kernel
theorem dKt1_33 : decode jdk_52_method_14_code 33 = .ok (.areturn, 1) := by decide +kernel
theorem pnKt1 : plainName "java/lang/StringUTF16" = true := by first | (simp [plainName, overriddenIn]; done) | decide +kernel
theorem pdKt1_0 : parseMethodDescriptor "(I)[B" = some ⟨[.int], some (.array .byte)⟩ := by decide +kernel
theorem pdKt1_1 : parseMethodDescriptor "([BII)V" = some ⟨[(.array .byte), .int, .int], none⟩ := by decide +kernel
theorem efKt1 (m : MethodId) (a1 : Addr) : entryFrame m #[(.ref a1), (.int (0 : Int32)), (.int (1 : Int32))] 5 = mkF m 0 #[rv a1, iv (0 : Int32), iv (1 : Int32), .unset, .unset] [] := by first | (simp [entryFrame, mkF, argsToLocals, Value.category]; done) | rfl
def QKt1 (Z : State) (a1 : Addr) (cz : Int32) (fv : Value) (k1 : ClassId) (c0 : Int32) (h0 : Heap) (n0 : Nat) (v : Option Value) (h : Heap) (L : List Loc) : Prop := ∃ b k, v = some (.ref b) ∧ Fr n0 L ∧ Keep h0 h [] ∧ h0.size ≤ b ∧ Arv Z h b k .byte (2 : Int32) [(.int (lo8 c0)), (.int (hi8 c0))] (.int (0 : Int32))
set_option maxRecDepth 65536 in
set_option maxHeartbeats 40000000 in
theorem rmKt1 (l : Launch) (Z : State) (a0 : Array Value) (hw : ∀ d ∈ tables_1, d.before a0 Z = true) (ws : List Jvm.Cond) (a1 : Addr) (cz : Int32) (fv : Value) (k1 : ClassId) (c0 : Int32) (h0 : Heap) (n0 : Nat) (Z0 : n0 ≤ h0.size) (O0 : Old Z n0 h0) (J0 : Jd Z cz fv) (V1 : Arv Z h0 a1 k1 .char (1 : Int32) [(.int c0)] (.int (0 : Int32))) :
    MetFree l mN15 (head1 (Jvm.Cond.code mN15 jdk_52_method_14_code 5 (some (.array .byte)) :: ws) rKKt1) (fun a U => a = #[(.ref a1), (.int (0 : Int32)), (.int (1 : Int32))] ∧ Z.Warmed39 U.vm ∧ U.heap = h0) (fun _ _ _ _ _ => True) (fun _ U o U' => ∃ v L, o = .returned v ∧ QKt1 Z a1 cz fv k1 c0 h0 n0 v U'.heap L ∧ FrameEnd U o U' L rKKt1.cells rKKt1.slots) := by
  refine MetFree.of_bodySF (plainFor_of_name pnKt1) hisR ?_
  intro p e s m args below meth c s₁ Bd hml0 hP hK
  obtain ⟨rfl, hZ, hh⟩ := hP
  have hx := Bd.exec
  have hby := Bd.bytes
  have hml : c.maxLocals = 5 := hml0
  have hown : s.vm.findClass "java/lang/StringUTF16" = some m.cls := findClass_of_methodNamed Bd.named
  have hnm := (name_of_methodNamed Bd.named Bd.method).1
  have X0 : Stand p l e rKKt1 s m #[(.ref a1), (.int (0 : Int32)), (.int (1 : Int32))] below meth c s₁ [] 0 0 := Stand.of_body Bd
  have e0 : s₁.heap = h0 := by rw [← hh, Bd.state]; rfl
  have N0 := Fr.nil n0
  obtain ⟨EF, hEF⟩ : ∃ f, f = entryFrame m #[(.ref a1), (.int (0 : Int32)), (.int (1 : Int32))] 5 := ⟨_, rfl⟩
  have pre0 : Go p e below s₁ (mkF m 0 #[rv a1, iv (0 : Int32), iv (1 : Int32), .unset, .unset] []) s₁ EF := fun t k => by rw [hEF]; exact castTop (efKt1 m a1) k
  have pre1 : Go p e below s₁ (mkF m 1 #[rv a1, iv (0 : Int32), iv (1 : Int32), .unset, .unset] [(.int (1 : Int32))]) s₁ EF := fun t k => pre0 t (by
      refine XS.iloadN X0.here hx rfl (hb hby dKt1_0) rfl ?_
      exact k)
  obtain ⟨_, _, ⟨T2, L2, k2, n2⟩, -, X2, ⟨Lc2, hQ2, l2, y2, z2⟩, st2⟩ := Jvm.LawKit.callS X0 hx (y := mN13) hown (mvT hZ (hw _ (mW 82 rfl))) (mvT hZ (hw _ (mW 83 rfl))) (mvT hZ (hw _ (mW 46 rfl))) (mvT hZ (hw _ (mW 84 rfl))) (by decide) (backOf (W := 0) (rmKf1 l Z a0 hw []  cz fv  h0 n0 Z0 O0 J0 ) hZ (hw _ (mW 84 rfl)) (hw _ (mW 46 rfl)) (by decide) (by decide)) (g := (mkF m 1 #[rv a1, iv (0 : Int32), iv (1 : Int32), .unset, .unset] [(.int (1 : Int32))])) rfl (by rw [hml]; rfl) (argsL := [(.int (1 : Int32))]) (rest := []) (lenOf pdKt1_0 rfl) rfl (Nat.le_of_eq rfl) (hb hby dKt1_1) (fun _ _ => ⟨rfl, e0, wl rfl, wl rfl⟩)
  dsimp only [Pt.U, Pt.locs, Pt.cells, Pt.slots] at X2 l2 y2 z2 st2 hQ2
  subst l2 y2 z2
  obtain ⟨bt, kb2, rfl, N2q, K2, hsz2, VB2⟩ := hQ2
  have N2 := Fr.app N0 N2q
  have pre3 : Go p e below T2 (mkF m 4 #[rv a1, iv (0 : Int32), iv (1 : Int32), .unset, .unset] [(.ref bt)]) s₁ EF := fun t k => pre1 t (st2 t k)
  have O4 : Old Z n0 T2.heap := O0.keep K2 all0
  have Z4 : n0 ≤ T2.heap.size := Nat.le_trans Z0 K2.1
  have K4 : Keep h0 T2.heap [] := (Keep.refl h0 []).trans K2 all0
  have g_bt : n0 ≤ bt := Nat.le_trans Z0 hsz2
  have sz_bt : h0.size ≤ bt := Nat.le_trans (Keep.refl h0 []).1 hsz2
  have ne_a1_bt : a1 ≠ bt := Nat.ne_of_lt (Nat.lt_of_lt_of_le V1.lt hsz2)
  have pre5 : Go p e below T2 (mkF m 11 #[rv a1, iv (0 : Int32), iv (1 : Int32), rv bt, iv (0 : Int32)] [(.int (1 : Int32)), (.int (0 : Int32))]) s₁ EF := fun t k => pre3 t (by
      refine XS.astoreN X2.here hx rfl (hb hby dKt1_4) rfl rfl (l' := #[rv a1, iv (0 : Int32), iv (1 : Int32), rv bt, .unset]) rfl ?_
      refine XS.iconst X2.here hx rfl (hb hby dKt1_5) ?_
      refine XS.istore X2.here hx rfl (hb hby dKt1_6) rfl (l' := #[rv a1, iv (0 : Int32), iv (1 : Int32), rv bt, iv (0 : Int32)]) rfl ?_
      refine XS.iload X2.here hx rfl (hb hby dKt1_8) rfl ?_
      refine XS.iloadN X2.here hx rfl (hb hby dKt1_10) rfl ?_
      exact k)
  have pre6 : Go p e below T2 (mkF m 14 #[rv a1, iv (0 : Int32), iv (1 : Int32), rv bt, iv (0 : Int32)] []) s₁ EF := fun t k => pre5 t (XS.icmpNo X2.here hx rfl (hb hby dKt1_11) rfl (tlt (by decide : (0 : Int32) < (1 : Int32))).2.1 k)
  have pre7 : Go p e below T2 (mkF m 19 #[rv a1, iv (0 : Int32), iv (1 : Int32), rv bt, iv (0 : Int32)] [(.int (0 : Int32)), (.ref a1), (.int (0 : Int32)), (.ref bt)]) s₁ EF := fun t k => pre6 t (by
      refine XS.aloadN X2.here hx rfl (hb hby dKt1_14) rfl rfl ?_
      refine XS.iload X2.here hx rfl (hb hby dKt1_15) rfl ?_
      refine XS.aloadN X2.here hx rfl (hb hby dKt1_17) rfl rfl ?_
      refine XS.iloadN X2.here hx rfl (hb hby dKt1_18) rfl ?_
      exact k)
  obtain ⟨cl8, Ar8, q8, Sz8, M8, H8, G8⟩ := id (V1.keep K2 nin0)
  have hin8 : ¬ ((0 : Int32) < 0 ∨ cl8.slots.size ≤ ((0 : Int32)).toNatClampNeg) := inb_of Sz8 ⟨by decide, by decide⟩
  have hat8 : cl8.slots[((0 : Int32)).toNatClampNeg]? = some (.int c0) := Has.at H8 hin8 rfl
  have pre9 : Go p e below T2 (mkF m 20 #[rv a1, iv (0 : Int32), iv (1 : Int32), rv bt, iv (0 : Int32)] [(.int c0), (.int (0 : Int32)), (.ref bt)]) s₁ EF := fun t k => pre7 t (by
      refine X2.caload hx (j := (0 : Int32)) (v := (.int c0)) Ar8.1 (State.isArrayOf_alike hZ.alike Ar8.2.1) Ar8.2.2 hin8 hat8 (g := (mkF m 19 #[rv a1, iv (0 : Int32), iv (1 : Int32), rv bt, iv (0 : Int32)] [(.int (0 : Int32)), (.ref a1), (.int (0 : Int32)), (.ref bt)])) rfl rfl (hb hby dKt1_19) _ ?_
      exact k)
  obtain ⟨_, _, ⟨T10, L10, k10, n10⟩, -, X10, ⟨Lc10, hQ10, l10, y10, z10⟩, st10⟩ := Jvm.LawKit.callS X2 hx (y := mN14) hown (mvT hZ (hw _ (mW 89 rfl))) (mvT hZ (hw _ (mW 90 rfl))) (mvT hZ (hw _ (mW 46 rfl))) (mvT hZ (hw _ (mW 91 rfl))) (by decide) (backOf (W := 0) (rmKp0 l Z a0 hw [] bt c0 cz fv kb2 (2 : Int32) _ T2.heap n0 Z4 O4 J0 VB2 g_bt (by decide) (by decide) (Nat.le_of_ble_eq_true rfl)) hZ (hw _ (mW 91 rfl)) (hw _ (mW 46 rfl)) (by decide) (by decide)) (g := (mkF m 20 #[rv a1, iv (0 : Int32), iv (1 : Int32), rv bt, iv (0 : Int32)] [(.int c0), (.int (0 : Int32)), (.ref bt)])) rfl (by rw [hml]; rfl) (argsL := [(.ref bt), (.int (0 : Int32)), (.int c0)]) (rest := []) (lenOf pdKt1_1 rfl) rfl (Nat.le_of_eq rfl) (hb hby dKt1_20) (fun _ _ => ⟨rfl, rfl, wl rfl, wl rfl⟩)
  dsimp only [Pt.U, Pt.locs, Pt.cells, Pt.slots] at X10 l10 y10 z10 st10 hQ10
  subst l10 y10 z10
  obtain ⟨rfl, N10q, K10, VQ10⟩ := hQ10
  have N10 := Fr.app N2 N10q
  have pre11 : Go p e below T10 (mkF m 23 #[rv a1, iv (0 : Int32), iv (1 : Int32), rv bt, iv (0 : Int32)] []) s₁ EF := fun t k => pre9 t (st10 t k)
  have O12 : Old Z n0 T10.heap := O4.keep K10 (allS g_bt all0)
  have Z12 : n0 ≤ T10.heap.size := Nat.le_trans Z4 K10.1
  have K12 : Keep h0 T10.heap [] := K4.trans K10 (allS (Or.inr sz_bt) all0)
  have VP10 : Arv Z T10.heap bt kb2 .byte (2 : Int32) [(.int (lo8 c0)), (.int (hi8 c0))] (.int (0 : Int32)) := VQ10
  have pre13 : Go p e below T10 (mkF m 11 #[rv a1, iv (1 : Int32), iv (1 : Int32), rv bt, iv (1 : Int32)] [(.int (1 : Int32)), (.int (1 : Int32))]) s₁ EF := fun t k => pre11 t (by
      refine XS.iinc X10.here hx rfl (hb hby dKt1_23) rfl (l' := #[rv a1, iv (1 : Int32), iv (1 : Int32), rv bt, iv (0 : Int32)]) rfl ?_
      refine XS.iinc X10.here hx rfl (hb hby dKt1_26) rfl (l' := #[rv a1, iv (1 : Int32), iv (1 : Int32), rv bt, iv (1 : Int32)]) rfl ?_
      refine XS.goto X10.here hx rfl (pc0 := 29) (pc' := 8) rfl (hb hby dKt1_29) (by decide) (by decide) ?_
      refine XS.iload X10.here hx rfl (hb hby dKt1_8) rfl ?_
      refine XS.iloadN X10.here hx rfl (hb hby dKt1_10) rfl ?_
      exact k)
  have pre14 : Go p e below T10 (mkF m 32 #[rv a1, iv (1 : Int32), iv (1 : Int32), rv bt, iv (1 : Int32)] []) s₁ EF := fun t k => pre13 t (XS.icmpYes X10.here hx rfl (pc0 := 11) (pc' := 32) rfl (hb hby dKt1_11) rfl (flt (by decide : ¬ ((1 : Int32) < (1 : Int32)))).2.1 (by decide) (by decide) k)
  have pre15 : Go p e below T10 (mkF m 33 #[rv a1, iv (1 : Int32), iv (1 : Int32), rv bt, iv (1 : Int32)] [(.ref bt)]) s₁ EF := fun t k => pre14 t (by
      refine XS.aloadN X10.here hx rfl (hb hby dKt1_32) rfl rfl ?_
      exact k)
  obtain ⟨fs, hr, hrun, hended, hW, hsame⟩ := X10.leave (v := some (.ref bt)) (fun h => by rw [Bd.returns] at h; cases h)
  refine ⟨_, _, hEF ▸ pre15 _ (retOut X10 hx Bd.returns rfl (Or.inr (Or.inr (Or.inr (Or.inr ⟨rfl, rfl, rfl⟩)))) (hb hby dKt1_33) hr), hrun, hended, _, _, rfl, ?_, ⟨_, rfl⟩, hW, hsame.mono (by decide) (by decide)⟩
  show QKt1 Z a1 cz fv k1 c0 h0 n0 _ T10.heap _
  exact ⟨_, _, rfl, N10, K12, sz_bt, VP10⟩
abbrev rKKb1 : Room := { frames := 3, cells := 2, slots := 3, locals := 40 }
theorem dKb1_0 : decode jdk_52_method_16_code 0 = .ok (.iload_n 2, 1) := by decide +kernel
theorem dKb1_1 : decode jdk_52_method_16_code 1 = .ok (.newarray .byte, 2) := by decide +kernel
theorem dKb1_3 : decode jdk_52_method_16_code 3 = .ok (.astore_n 3, 1) := by decide +kernel
theorem dKb1_4 : decode jdk_52_method_16_code 4 = .ok (.aload_n 0, 1) := by decide +kernel
theorem dKb1_5 : decode jdk_52_method_16_code 5 = .ok (.iload_n 1, 1) := by decide +kernel
theorem dKb1_6 : decode jdk_52_method_16_code 6 = .ok (.aload_n 3, 1) := by decide +kernel
theorem dKb1_7 : decode jdk_52_method_16_code 7 = .ok (.iconst 0, 1) := by decide +kernel
theorem dKb1_8 : decode jdk_52_method_16_code 8 = .ok (.iload_n 2, 1) := by decide +kernel
theorem dKb1_9 : decode jdk_52_method_16_code 9 = .ok (.invokestatic 115, 3) := by decide +kernel
theorem dKb1_12 : decode jdk_52_method_16_code 12 = .ok (.istore 4, 2) := by decide +kernel
theorem dKb1_14 : decode jdk_52_method_16_code 14 = .ok (.iload 4, 2) := by decide +kernel
theorem dKb1_16 : decode jdk_52_method_16_code 16 = .ok (.iload_n 2, 1) := by decide +kernel
theorem dKb1_17 : decode jdk_52_method_16_code 17 = .ok (.if_icmp .eq 40, 3) := by decide +kernel
theorem dKb1_20 : decode jdk_52_method_16_code 20 = .ok (.aload_n 0, 1) := by decide +kernel
theorem dKb1_21 : decode jdk_52_method_16_code 21 = .ok (.iload_n 1, 1) := by decide +kernel
theorem dKb1_22 : decode jdk_52_method_16_code 22 = .ok (.iload_n 2, 1) := by decide +kernel
theorem dKb1_23 : decode jdk_52_method_16_code 23 = .ok (.invokestatic 119, 3) := by decide +kernel
theorem dKb1_26 : decode jdk_52_method_16_code 26 = .ok (.astore 5, 2) := by decide +kernel
theorem dKb1_28 : decode jdk_52_method_16_code 28 = .ok (.aload 5, 2) := by decide +kernel
theorem dKb1_30 : decode jdk_52_method_16_code 30 = .ok (.iload 4, 2) := by decide +kernel
theorem dKb1_32 : decode jdk_52_method_16_code 32 = .ok (.invokestatic 71, 3) := by decide +kernel
theorem dKb1_35 : decode jdk_52_method_16_code 35 = .ok (.sipush 255, 3) := by decide +kernel
theorem dKb1_38 : decode jdk_52_method_16_code 38 = .ok (.if_icmp .gt 16, 3) := by decide +kernel
theorem dKb1_54 : decode jdk_52_method_16_code 54 = .ok (.aload 5, 2) := by decide +kernel
theorem dKb1_56 : decode jdk_52_method_16_code 56 = .ok (.areturn, 1) := by decide +kernel
theorem dKb1_57 : decode jdk_52_method_16_code 57 = .ok (.aload_n 3, 1) := by decide +kernel
theorem dKb1_58 : decode jdk_52_method_16_code 58 = .ok (.areturn, 1) := by decide +kernel
theorem pnKb1 : plainName "java/lang/StringUTF16" = true := by first | (simp [plainName, overriddenIn]; done) | decide +kernel
theorem pdKb1_0 : parseMethodDescriptor "([CI[BII)I" = some ⟨[(.array .char), .int, (.array .byte), .int, .int], some .int⟩ := by decide +kernel
theorem pdKb1_1 : parseMethodDescriptor "([CII)[B" = some ⟨[(.array .char), .int, .int], some (.array .byte)⟩ := by decide +kernel
theorem pdKb1_2 : parseMethodDescriptor "([BI)C" = some ⟨[(.array .byte), .int], some .char⟩ := by decide +kernel
theorem efKb1 (m : MethodId) (a1 : Addr) : entryFrame m #[(.ref a1), (.int (0 : Int32)), (.int (1 : Int32))] 6 = mkF m 0 #[rv a1, iv (0 : Int32), iv (1 : Int32), .unset, .unset, .unset] [] := by first | (simp [entryFrame, mkF, argsToLocals, Value.category]; done) | rfl
def QKb1 (Z : State) (a1 : Addr) (cz : Int32) (fv : Value) (k1 : ClassId) (c0 : Int32) (h0 : Heap) (n0 : Nat) (v : Option Value) (h : Heap) (L : List Loc) : Prop := (∃ b k, v = some (.ref b) ∧ Fr n0 L ∧ Keep h0 h [] ∧ h0.size ≤ b ∧ (∀ c ∈ [c0], ¬ (255 : Int32) < c) ∧ Arv Z h b k .byte (1 : Int32) [(.int (c0.toInt8.toInt32))] (.int (0 : Int32))) ∨ (∃ b k, v = some (.ref b) ∧ Fr n0 L ∧ Keep h0 h [] ∧ h0.size ≤ b ∧ Arv Z h b k .byte (2 : Int32) [(.int (lo8 c0)), (.int (hi8 c0))] (.int (0 : Int32)))
set_option maxRecDepth 65536 in
set_option maxHeartbeats 40000000 in
theorem rmKb1 (l : Launch) (Z : State) (a0 : Array Value) (hw : ∀ d ∈ tables_1, d.before a0 Z = true) (ws : List Jvm.Cond) (a1 : Addr) (cz : Int32) (fv : Value) (k1 : ClassId) (c0 : Int32) (h0 : Heap) (n0 : Nat) (Z0 : n0 ≤ h0.size) (O0 : Old Z n0 h0) (J0 : Jd Z cz fv) (V1 : Arv Z h0 a1 k1 .char (1 : Int32) [(.int c0)] (.int (0 : Int32))) (hrg : ∀ c ∈ [c0], 0 ≤ c.toInt ∧ c.toInt < 65536) :
    MetFree l mN16 (head1 (Jvm.Cond.code mN16 jdk_52_method_16_code 6 (some (.array .byte)) :: ws) rKKb1) (fun a U => a = #[(.ref a1), (.int (0 : Int32)), (.int (1 : Int32))] ∧ Z.Warmed39 U.vm ∧ U.heap = h0) (fun _ _ _ _ _ => True) (fun _ U o U' => ∃ v L, o = .returned v ∧ QKb1 Z a1 cz fv k1 c0 h0 n0 v U'.heap L ∧ FrameEnd U o U' L rKKb1.cells rKKb1.slots) := by
  refine MetFree.of_bodySF (plainFor_of_name pnKb1) hisR ?_
  intro p e s m args below meth c s₁ Bd hml0 hP hK
  obtain ⟨rfl, hZ, hh⟩ := hP
  have hx := Bd.exec
  have hby := Bd.bytes
  have hml : c.maxLocals = 6 := hml0
  have hown : s.vm.findClass "java/lang/StringUTF16" = some m.cls := findClass_of_methodNamed Bd.named
  have hnm := (name_of_methodNamed Bd.named Bd.method).1
  have X0 : Stand p l e rKKb1 s m #[(.ref a1), (.int (0 : Int32)), (.int (1 : Int32))] below meth c s₁ [] 0 0 := Stand.of_body Bd
  have e0 : s₁.heap = h0 := by rw [← hh, Bd.state]; rfl
  have N0 := Fr.nil n0
  obtain ⟨EF, hEF⟩ : ∃ f, f = entryFrame m #[(.ref a1), (.int (0 : Int32)), (.int (1 : Int32))] 6 := ⟨_, rfl⟩
  have pre0 : Go p e below s₁ (mkF m 0 #[rv a1, iv (0 : Int32), iv (1 : Int32), .unset, .unset, .unset] []) s₁ EF := fun t k => by rw [hEF]; exact castTop (efKb1 m a1) k
  have pre1 : Go p e below s₁ (mkF m 1 #[rv a1, iv (0 : Int32), iv (1 : Int32), .unset, .unset, .unset] [(.int (1 : Int32))]) s₁ EF := fun t k => pre0 t (by
      refine XS.iloadN X0.here hx rfl (hb hby dKb1_0) rfl ?_
      exact k)
  obtain ⟨T2, h2, k2, X2, e2, Et2, A2, st2⟩ := newP X0 hx hZ (hw _ (mW 22 rfl)) e0 (g := (mkF m 1 #[rv a1, iv (0 : Int32), iv (1 : Int32), .unset, .unset, .unset] [(.int (1 : Int32))])) rfl (hb hby dKb1_1) rfl (by decide) (cap := 1) (by decide) (by decide) (by decide) (by decide)
  obtain ⟨b2, g2⟩ : ∃ z, z = h0.size := ⟨_, rfl⟩
  rw [← g2] at A2 st2
  have g_b2 : n0 ≤ b2 := Nat.le_trans Z0 (Nat.le_of_eq g2.symm)
  have sz_b2 : h0.size ≤ b2 := Nat.le_trans (Keep.refl h0 []).1 (Nat.le_of_eq g2.symm)
  have ne_a1_b2 : a1 ≠ b2 := Nat.ne_of_lt (Nat.lt_of_lt_of_le V1.lt (Nat.le_of_eq g2.symm))
  have pre3 : Go p e below T2 (mkF m 3 #[rv a1, iv (0 : Int32), iv (1 : Int32), .unset, .unset, .unset] [(.ref b2)]) s₁ EF := fun t k => pre1 t (st2 t k)
  have O4 : Old Z n0 h2 := O0.ext Et2
  have Z4 : n0 ≤ h2.size := Nat.le_trans Z0 Et2.1
  have K4 : Keep h0 h2 [] := (Keep.refl h0 []).ext Et2
  have V2 : Arv Z h2 b2 k2 .byte (1 : Int32) [(.int (0 : Int32))] (.int (0 : Int32)) := (Arv.new A2 (by decide)).pad (pad_rep [] (.int (0 : Int32)) 1)
  have pre5 : Go p e below T2 (mkF m 9 #[rv a1, iv (0 : Int32), iv (1 : Int32), rv b2, .unset, .unset] [(.int (1 : Int32)), (.int (0 : Int32)), (.ref b2), (.int (0 : Int32)), (.ref a1)]) s₁ EF := fun t k => pre3 t (by
      refine XS.astoreN X2.here hx rfl (hb hby dKb1_3) rfl rfl (l' := #[rv a1, iv (0 : Int32), iv (1 : Int32), rv b2, .unset, .unset]) rfl ?_
      refine XS.aloadN X2.here hx rfl (hb hby dKb1_4) rfl rfl ?_
      refine XS.iloadN X2.here hx rfl (hb hby dKb1_5) rfl ?_
      refine XS.aloadN X2.here hx rfl (hb hby dKb1_6) rfl rfl ?_
      refine XS.iconst X2.here hx rfl (hb hby dKb1_7) ?_
      refine XS.iloadN X2.here hx rfl (hb hby dKb1_8) rfl ?_
      exact k)
  obtain ⟨_, _, ⟨T6, L6, k6, n6⟩, -, X6, ⟨Lc6, hQ6, l6, y6, z6⟩, st6⟩ := Jvm.LawKit.callS X2 hx (y := mN11) hown (mvT hZ (hw _ (mW 48 rfl))) (mvT hZ (hw _ (mW 49 rfl))) (mvT hZ (hw _ (mW 46 rfl))) (mvT hZ (hw _ (mW 50 rfl))) (by decide) (backOf (W := 0) (rmKa1 l Z a0 hw [] a1 b2 cz fv k1 k2 c0 h2 n0 Z4 O4 J0 (V1.ext Et2) V2 ne_a1_b2 g_b2) hZ (hw _ (mW 50 rfl)) (hw _ (mW 46 rfl)) (by decide) (by decide)) (g := (mkF m 9 #[rv a1, iv (0 : Int32), iv (1 : Int32), rv b2, .unset, .unset] [(.int (1 : Int32)), (.int (0 : Int32)), (.ref b2), (.int (0 : Int32)), (.ref a1)])) rfl (by rw [hml]; rfl) (argsL := [(.ref a1), (.int (0 : Int32)), (.ref b2), (.int (0 : Int32)), (.int (1 : Int32))]) (rest := []) (lenOf pdKb1_0 rfl) rfl (Nat.le_of_eq rfl) (hb hby dKb1_9) (fun _ _ => ⟨rfl, e2, wl rfl, wl rfl⟩)
  dsimp only [Pt.U, Pt.locs, Pt.cells, Pt.slots] at X6 l6 y6 z6 st6 hQ6
  subst l6 y6 z6
  rcases hQ6 with ⟨rfl, N6q, K6, LE6, VL6⟩ | ⟨iB, cB, rfl, N6q, K6, hi06, hni6, hci6, hgt6⟩
  · have N6 := Fr.app N0 N6q
    have pre7 : Go p e below T6 (mkF m 12 #[rv a1, iv (0 : Int32), iv (1 : Int32), rv b2, .unset, .unset] [(.int (1 : Int32))]) s₁ EF := fun t k => pre5 t (st6 t k)
    have O8 : Old Z n0 T6.heap := O4.keep K6 (allS g_b2 all0)
    have Z8 : n0 ≤ T6.heap.size := Nat.le_trans Z4 K6.1
    have K8 : Keep h0 T6.heap [] := K4.trans K6 (allS (Or.inr sz_b2) all0)
    have pre9 : Go p e below T6 (mkF m 17 #[rv a1, iv (0 : Int32), iv (1 : Int32), rv b2, iv (1 : Int32), .unset] [(.int (1 : Int32)), (.int (1 : Int32))]) s₁ EF := fun t k => pre7 t (by
        refine XS.istore X6.here hx rfl (hb hby dKb1_12) rfl (l' := #[rv a1, iv (0 : Int32), iv (1 : Int32), rv b2, iv (1 : Int32), .unset]) rfl ?_
        refine XS.iload X6.here hx rfl (hb hby dKb1_14) rfl ?_
        refine XS.iloadN X6.here hx rfl (hb hby dKb1_16) rfl ?_
        exact k)
    have pre10 : Go p e below T6 (mkF m 57 #[rv a1, iv (0 : Int32), iv (1 : Int32), rv b2, iv (1 : Int32), .unset] []) s₁ EF := fun t k => pre9 t (XS.icmpYes X6.here hx rfl (pc0 := 17) (pc' := 57) rfl (hb hby dKb1_17) rfl (teq (by decide : (1 : Int32) = (1 : Int32))).1 (by decide) (by decide) k)
    have pre11 : Go p e below T6 (mkF m 58 #[rv a1, iv (0 : Int32), iv (1 : Int32), rv b2, iv (1 : Int32), .unset] [(.ref b2)]) s₁ EF := fun t k => pre10 t (by
        refine XS.aloadN X6.here hx rfl (hb hby dKb1_57) rfl rfl ?_
        exact k)
    obtain ⟨fs, hr, hrun, hended, hW, hsame⟩ := X6.leave (v := some (.ref b2)) (fun h => by rw [Bd.returns] at h; cases h)
    refine ⟨_, _, hEF ▸ pre11 _ (retOut X6 hx Bd.returns rfl (Or.inr (Or.inr (Or.inr (Or.inr ⟨rfl, rfl, rfl⟩)))) (hb hby dKb1_58) hr), hrun, hended, _, _, rfl, ?_, ⟨_, rfl⟩, hW, hsame.mono (by decide) (by decide)⟩
    show QKb1 Z a1 cz fv k1 c0 h0 n0 _ T6.heap _
    exact Or.inl ⟨_, _, rfl, N6, K8, sz_b2, LE6, VL6⟩
  have N6 := Fr.app N0 N6q
  have pre12 : Go p e below T6 (mkF m 12 #[rv a1, iv (0 : Int32), iv (1 : Int32), rv b2, .unset, .unset] [(.int iB)]) s₁ EF := fun t k => pre5 t (st6 t k)
  have O13 : Old Z n0 T6.heap := O4.keep K6 (allS g_b2 all0)
  have Z13 : n0 ≤ T6.heap.size := Nat.le_trans Z4 K6.1
  have K13 : Keep h0 T6.heap [] := K4.trans K6 (allS (Or.inr sz_b2) all0)
  have pre14 : Go p e below T6 (mkF m 17 #[rv a1, iv (0 : Int32), iv (1 : Int32), rv b2, iv iB, .unset] [(.int (1 : Int32)), (.int iB)]) s₁ EF := fun t k => pre12 t (by
      refine XS.istore X6.here hx rfl (hb hby dKb1_12) rfl (l' := #[rv a1, iv (0 : Int32), iv (1 : Int32), rv b2, iv iB, .unset]) rfl ?_
      refine XS.iload X6.here hx rfl (hb hby dKb1_14) rfl ?_
      refine XS.iloadN X6.here hx rfl (hb hby dKb1_16) rfl ?_
      exact k)
  have pre15 : Go p e below T6 (mkF m 20 #[rv a1, iv (0 : Int32), iv (1 : Int32), rv b2, iv iB, .unset] []) s₁ EF := fun t k => pre14 t (XS.icmpNo X6.here hx rfl (hb hby dKb1_17) rfl (feq hni6).1 k)
  have pre16 : Go p e below T6 (mkF m 23 #[rv a1, iv (0 : Int32), iv (1 : Int32), rv b2, iv iB, .unset] [(.int (1 : Int32)), (.int (0 : Int32)), (.ref a1)]) s₁ EF := fun t k => pre15 t (by
      refine XS.aloadN X6.here hx rfl (hb hby dKb1_20) rfl rfl ?_
      refine XS.iloadN X6.here hx rfl (hb hby dKb1_21) rfl ?_
      refine XS.iloadN X6.here hx rfl (hb hby dKb1_22) rfl ?_
      exact k)
  obtain ⟨_, _, ⟨T17, L17, k17, n17⟩, -, X17, ⟨Lc17, hQ17, l17, y17, z17⟩, st17⟩ := Jvm.LawKit.callS X6 hx (y := mN15) hown (mvT hZ (hw _ (mW 79 rfl))) (mvT hZ (hw _ (mW 80 rfl))) (mvT hZ (hw _ (mW 46 rfl))) (mvT hZ (hw _ (mW 81 rfl))) (by decide) (backOf (W := 0) (rmKt1 l Z a0 hw [] a1 cz fv k1 c0 T6.heap n0 Z13 O13 J0 ((V1.ext Et2).keep K6 (ninS ne_a1_b2 nin0))) hZ (hw _ (mW 81 rfl)) (hw _ (mW 46 rfl)) (by decide) (by decide)) (g := (mkF m 23 #[rv a1, iv (0 : Int32), iv (1 : Int32), rv b2, iv iB, .unset] [(.int (1 : Int32)), (.int (0 : Int32)), (.ref a1)])) rfl (by rw [hml]; rfl) (argsL := [(.ref a1), (.int (0 : Int32)), (.int (1 : Int32))]) (rest := []) (lenOf pdKb1_1 rfl) rfl (Nat.le_of_eq rfl) (hb hby dKb1_23) (fun _ _ => ⟨rfl, rfl, wl rfl, wl rfl⟩)
  dsimp only [Pt.U, Pt.locs, Pt.cells, Pt.slots] at X17 l17 y17 z17 st17 hQ17
  subst l17 y17 z17
  obtain ⟨bw, kb17, rfl, N17q, K17, hsz17, VB17⟩ := hQ17
  have N17 := Fr.app N6 N17q
  have pre18 : Go p e below T17 (mkF m 26 #[rv a1, iv (0 : Int32), iv (1 : Int32), rv b2, iv iB, .unset] [(.ref bw)]) s₁ EF := fun t k => pre16 t (st17 t k)
  have O19 : Old Z n0 T17.heap := O13.keep K17 all0
  have Z19 : n0 ≤ T17.heap.size := Nat.le_trans Z13 K17.1
  have K19 : Keep h0 T17.heap [] := K13.trans K17 all0
  have g_bw : n0 ≤ bw := Nat.le_trans Z13 hsz17
  have sz_bw : h0.size ≤ bw := Nat.le_trans K13.1 hsz17
  have ne_a1_bw : a1 ≠ bw := Nat.ne_of_lt (Nat.lt_of_lt_of_le ((V1.ext Et2).keep K6 (ninS ne_a1_b2 nin0)).lt hsz17)
  have pre20 : Go p e below T17 (mkF m 32 #[rv a1, iv (0 : Int32), iv (1 : Int32), rv b2, iv iB, rv bw] [(.int iB), (.ref bw)]) s₁ EF := fun t k => pre18 t (by
      refine XS.astore X17.here hx rfl (hb hby dKb1_26) rfl rfl (l' := #[rv a1, iv (0 : Int32), iv (1 : Int32), rv b2, iv iB, rv bw]) rfl ?_
      refine XS.aload X17.here hx rfl (hb hby dKb1_28) rfl rfl ?_
      refine XS.iload X17.here hx rfl (hb hby dKb1_30) rfl ?_
      exact k)
  have hrB := hrg cB (List.mem_of_getElem? hci6)
  have hgB := own_gx (cs := [c0]) (z := (2 : Int32)) hi06 hci6 (by rfl) (Nat.le_of_ble_eq_true rfl)
  obtain ⟨_, _, ⟨T21, L21, k21, n21⟩, -, X21, ⟨Lc21, hQ21, l21, y21, z21⟩, st21⟩ := Jvm.LawKit.callS X17 hx (y := mN8) hown (mvT hZ (hw _ (mW 95 rfl))) (mvT hZ (hw _ (mW 96 rfl))) (mvT hZ (hw _ (mW 46 rfl))) (mvT hZ (hw _ (mW 97 rfl))) (by decide) (backOf (W := 0) (rmJgc l Z a0 hw [] bw iB cz fv kb17 (2 : Int32) _ cB cB T17.heap n0 Z19 O19 J0 VB17 hgB.1 hgB.2.1 hgB.2.2.1 hgB.2.2.2 hrB.1 hrB.2 rfl) hZ (hw _ (mW 97 rfl)) (hw _ (mW 46 rfl)) (by decide) (by decide)) (g := (mkF m 32 #[rv a1, iv (0 : Int32), iv (1 : Int32), rv b2, iv iB, rv bw] [(.int iB), (.ref bw)])) rfl (by rw [hml]; rfl) (argsL := [(.ref bw), (.int iB)]) (rest := []) (lenOf pdKb1_2 rfl) rfl (Nat.le_of_eq rfl) (hb hby dKb1_32) (fun _ _ => ⟨rfl, rfl, wl rfl, wl rfl⟩)
  dsimp only [Pt.U, Pt.locs, Pt.cells, Pt.slots] at X21 l21 y21 z21 st21 hQ21
  subst l21 y21 z21
  obtain ⟨rfl, N21q, hq21⟩ := hQ21
  have N21 := Fr.app N17 N21q
  have pre22 : Go p e below T21 (mkF m 35 #[rv a1, iv (0 : Int32), iv (1 : Int32), rv b2, iv iB, rv bw] [(.int cB)]) s₁ EF := fun t k => pre20 t (st21 t k)
  have e21 : T21.heap = T17.heap := hq21
  have pre23 : Go p e below T21 (mkF m 38 #[rv a1, iv (0 : Int32), iv (1 : Int32), rv b2, iv iB, rv bw] [(.int (255 : Int32)), (.int cB)]) s₁ EF := fun t k => pre22 t (by
      refine XS.sipush X21.here hx rfl (hb hby dKb1_35) ?_
      exact k)
  have pre24 : Go p e below T21 (mkF m 54 #[rv a1, iv (0 : Int32), iv (1 : Int32), rv b2, iv iB, rv bw] []) s₁ EF := fun t k => pre23 t (XS.icmpYes X21.here hx rfl (pc0 := 38) (pc' := 54) rfl (hb hby dKb1_38) rfl (tlt hgt6).2.2.1 (by decide) (by decide) k)
  have pre25 : Go p e below T21 (mkF m 56 #[rv a1, iv (0 : Int32), iv (1 : Int32), rv b2, iv iB, rv bw] [(.ref bw)]) s₁ EF := fun t k => pre24 t (by
      refine XS.aload X21.here hx rfl (hb hby dKb1_54) rfl rfl ?_
      exact k)
  obtain ⟨fs, hr, hrun, hended, hW, hsame⟩ := X21.leave (v := some (.ref bw)) (fun h => by rw [Bd.returns] at h; cases h)
  refine ⟨_, _, hEF ▸ pre25 _ (retOut X21 hx Bd.returns rfl (Or.inr (Or.inr (Or.inr (Or.inr ⟨rfl, rfl, rfl⟩)))) (hb hby dKb1_56) hr), hrun, hended, _, _, rfl, ?_, ⟨_, rfl⟩, hW, hsame.mono (by decide) (by decide)⟩
  show QKb1 Z a1 cz fv k1 c0 h0 n0 _ T21.heap _
  rw [e21]
  exact Or.inr ⟨_, _, rfl, N21, K19, sz_bw, VB17⟩
abbrev rKKc1_0 : Room := { frames := 0, cells := 0, slots := 0, locals := 0 }
theorem dKc1_0_0 : decode jdk_52_method_15_code 0 = .ok (.iload_n 1, 1) := by decide +kernel
theorem dKc1_0_1 : decode jdk_52_method_15_code 1 = .ok (.aload_n 0, 1) := by decide +kernel
theorem dKc1_0_2 : decode jdk_52_method_15_code 2 = .ok (.arraylength, 1) := by decide +kernel
theorem dKc1_0_3 : decode jdk_52_method_15_code 3 = .ok (.isub, 1) := by decide +kernel
theorem dKc1_0_4 : decode jdk_52_method_15_code 4 = .ok (.bipush 31, 2) := by decide +kernel
theorem dKc1_0_6 : decode jdk_52_method_15_code 6 = .ok (.iushr, 1) := by decide +kernel
theorem dKc1_0_7 : decode jdk_52_method_15_code 7 = .ok (.i2b, 1) := by decide +kernel
theorem dKc1_0_8 : decode jdk_52_method_15_code 8 = .ok (.ireturn, 1) := by decide +kernel
theorem pnKc1_0 : plainName "java/lang/StringUTF16" = true := by first | (simp [plainName, overriddenIn]; done) | decide +kernel
theorem efKc1_0 (m : MethodId) (a1 : Addr) : entryFrame m #[(.ref a1), (.int (1 : Int32))] 2 = mkF m 0 #[rv a1, iv (1 : Int32)] [] := by first | (simp [entryFrame, mkF, argsToLocals, Value.category]; done) | rfl
def QKc1_0 (Z : State) (a1 : Addr) (cz : Int32) (fv : Value) (k : ClassId) (vs : List Value) (h0 : Heap) (n0 : Nat) (v : Option Value) (h : Heap) (L : List Loc) : Prop := v = some (.int (0 : Int32)) ∧ Fr n0 L ∧ h = h0
set_option maxRecDepth 65536 in
set_option maxHeartbeats 40000000 in
theorem rmKc1_0 (l : Launch) (Z : State) (a0 : Array Value) (hw : ∀ d ∈ tables_1, d.before a0 Z = true) (ws : List Jvm.Cond) (a1 : Addr) (cz : Int32) (fv : Value) (k : ClassId) (vs : List Value) (h0 : Heap) (n0 : Nat) (Z0 : n0 ≤ h0.size) (O0 : Old Z n0 h0) (J0 : Jd Z cz fv) (VV : Arv Z h0 a1 k .byte (1 : Int32) vs (.int 0)) :
    MetFree l mN17 (head1 (Jvm.Cond.code mN17 jdk_52_method_15_code 2 (some .byte) :: ws) rKKc1_0) (fun a U => a = #[(.ref a1), (.int (1 : Int32))] ∧ Z.Warmed39 U.vm ∧ U.heap = h0) (fun _ _ _ _ _ => True) (fun _ U o U' => ∃ v L, o = .returned v ∧ QKc1_0 Z a1 cz fv k vs h0 n0 v U'.heap L ∧ FrameEnd U o U' L rKKc1_0.cells rKKc1_0.slots) := by
  refine MetFree.of_bodySF (plainFor_of_name pnKc1_0) hisR ?_
  intro p e s m args below meth c s₁ Bd hml0 hP hK
  obtain ⟨rfl, hZ, hh⟩ := hP
  have hx := Bd.exec
  have hby := Bd.bytes
  have hml : c.maxLocals = 2 := hml0
  have hown : s.vm.findClass "java/lang/StringUTF16" = some m.cls := findClass_of_methodNamed Bd.named
  have hnm := (name_of_methodNamed Bd.named Bd.method).1
  have X0 : Stand p l e rKKc1_0 s m #[(.ref a1), (.int (1 : Int32))] below meth c s₁ [] 0 0 := Stand.of_body Bd
  have e0 : s₁.heap = h0 := by rw [← hh, Bd.state]; rfl
  have N0 := Fr.nil n0
  obtain ⟨EF, hEF⟩ : ∃ f, f = entryFrame m #[(.ref a1), (.int (1 : Int32))] 2 := ⟨_, rfl⟩
  have pre0 : Go p e below s₁ (mkF m 0 #[rv a1, iv (1 : Int32)] []) s₁ EF := fun t k => by rw [hEF]; exact castTop (efKc1_0 m a1) k
  have pre1 : Go p e below s₁ (mkF m 2 #[rv a1, iv (1 : Int32)] [(.ref a1), (.int (1 : Int32))]) s₁ EF := fun t k => pre0 t (by
      refine XS.iloadN X0.here hx rfl (hb hby dKc1_0_0) rfl ?_
      refine XS.aloadN X0.here hx rfl (hb hby dKc1_0_1) rfl rfl ?_
      exact k)
  obtain ⟨cl2, Ar2, q2, Sz2, M2, H2, G2⟩ := id VV
  have pre3 : Go p e below s₁ (mkF m 8 #[rv a1, iv (1 : Int32)] [(.int (0 : Int32))]) s₁ EF := fun t k => pre1 t (by
      refine X0.arraylength hx (by rw [e0]; exact Ar2.1) (State.isArrayOf_alike hZ.alike Ar2.2.1) (g := (mkF m 2 #[rv a1, iv (1 : Int32)] [(.ref a1), (.int (1 : Int32))])) rfl rfl (hb hby dKc1_0_2) _ ?_
      rw [len_of Sz2 M2]
      refine XS.isub X0.here hx rfl (hb hby dKc1_0_3) rfl ?_
      refine XS.bipush X0.here hx rfl (hb hby dKc1_0_4) ?_
      refine XS.iushr X0.here hx rfl (hb hby dKc1_0_6) rfl ?_
      refine XS.i2b X0.here hx rfl (hb hby dKc1_0_7) rfl ?_
      exact k)
  have hnr : Value.int (nar .byte (0 : Int32)) = (.int (0 : Int32)) := by rfl
  obtain ⟨fs, hr, hrun, hended, hW, hsame⟩ := X0.leave (v := some (.int (0 : Int32))) (fun h => by rw [Bd.returns] at h; cases h)
  refine ⟨_, _, hEF ▸ pre3 _ (retN X0 hx (t := .byte) Bd.returns (by simp) (hb hby dKc1_0_8) (hnr ▸ hr)), hrun, hended, _, _, rfl, ?_, ⟨_, rfl⟩, hW, hsame.mono (by decide) (by decide)⟩
  show QKc1_0 Z a1 cz fv k vs h0 n0 _ s₁.heap _
  rw [e0]
  exact ⟨rfl, N0, rfl⟩
abbrev rKKc1_1 : Room := { frames := 0, cells := 0, slots := 0, locals := 0 }
theorem dKc1_1_0 : decode jdk_52_method_15_code 0 = .ok (.iload_n 1, 1) := by decide +kernel
theorem dKc1_1_1 : decode jdk_52_method_15_code 1 = .ok (.aload_n 0, 1) := by decide +kernel
theorem dKc1_1_2 : decode jdk_52_method_15_code 2 = .ok (.arraylength, 1) := by decide +kernel
theorem dKc1_1_3 : decode jdk_52_method_15_code 3 = .ok (.isub, 1) := by decide +kernel
theorem dKc1_1_4 : decode jdk_52_method_15_code 4 = .ok (.bipush 31, 2) := by decide +kernel
theorem dKc1_1_6 : decode jdk_52_method_15_code 6 = .ok (.iushr, 1) := by decide +kernel
theorem dKc1_1_7 : decode jdk_52_method_15_code 7 = .ok (.i2b, 1) := by decide +kernel
theorem dKc1_1_8 : decode jdk_52_method_15_code 8 = .ok (.ireturn, 1) := by decide +kernel
theorem pnKc1_1 : plainName "java/lang/StringUTF16" = true := by first | (simp [plainName, overriddenIn]; done) | decide +kernel
theorem efKc1_1 (m : MethodId) (a1 : Addr) : entryFrame m #[(.ref a1), (.int (1 : Int32))] 2 = mkF m 0 #[rv a1, iv (1 : Int32)] [] := by first | (simp [entryFrame, mkF, argsToLocals, Value.category]; done) | rfl
def QKc1_1 (Z : State) (a1 : Addr) (cz : Int32) (fv : Value) (k : ClassId) (vs : List Value) (h0 : Heap) (n0 : Nat) (v : Option Value) (h : Heap) (L : List Loc) : Prop := v = some (.int (1 : Int32)) ∧ Fr n0 L ∧ h = h0
set_option maxRecDepth 65536 in
set_option maxHeartbeats 40000000 in
theorem rmKc1_1 (l : Launch) (Z : State) (a0 : Array Value) (hw : ∀ d ∈ tables_1, d.before a0 Z = true) (ws : List Jvm.Cond) (a1 : Addr) (cz : Int32) (fv : Value) (k : ClassId) (vs : List Value) (h0 : Heap) (n0 : Nat) (Z0 : n0 ≤ h0.size) (O0 : Old Z n0 h0) (J0 : Jd Z cz fv) (VV : Arv Z h0 a1 k .byte (2 : Int32) vs (.int 0)) :
    MetFree l mN17 (head1 (Jvm.Cond.code mN17 jdk_52_method_15_code 2 (some .byte) :: ws) rKKc1_1) (fun a U => a = #[(.ref a1), (.int (1 : Int32))] ∧ Z.Warmed39 U.vm ∧ U.heap = h0) (fun _ _ _ _ _ => True) (fun _ U o U' => ∃ v L, o = .returned v ∧ QKc1_1 Z a1 cz fv k vs h0 n0 v U'.heap L ∧ FrameEnd U o U' L rKKc1_1.cells rKKc1_1.slots) := by
  refine MetFree.of_bodySF (plainFor_of_name pnKc1_1) hisR ?_
  intro p e s m args below meth c s₁ Bd hml0 hP hK
  obtain ⟨rfl, hZ, hh⟩ := hP
  have hx := Bd.exec
  have hby := Bd.bytes
  have hml : c.maxLocals = 2 := hml0
  have hown : s.vm.findClass "java/lang/StringUTF16" = some m.cls := findClass_of_methodNamed Bd.named
  have hnm := (name_of_methodNamed Bd.named Bd.method).1
  have X0 : Stand p l e rKKc1_1 s m #[(.ref a1), (.int (1 : Int32))] below meth c s₁ [] 0 0 := Stand.of_body Bd
  have e0 : s₁.heap = h0 := by rw [← hh, Bd.state]; rfl
  have N0 := Fr.nil n0
  obtain ⟨EF, hEF⟩ : ∃ f, f = entryFrame m #[(.ref a1), (.int (1 : Int32))] 2 := ⟨_, rfl⟩
  have pre0 : Go p e below s₁ (mkF m 0 #[rv a1, iv (1 : Int32)] []) s₁ EF := fun t k => by rw [hEF]; exact castTop (efKc1_1 m a1) k
  have pre1 : Go p e below s₁ (mkF m 2 #[rv a1, iv (1 : Int32)] [(.ref a1), (.int (1 : Int32))]) s₁ EF := fun t k => pre0 t (by
      refine XS.iloadN X0.here hx rfl (hb hby dKc1_1_0) rfl ?_
      refine XS.aloadN X0.here hx rfl (hb hby dKc1_1_1) rfl rfl ?_
      exact k)
  obtain ⟨cl2, Ar2, q2, Sz2, M2, H2, G2⟩ := id VV
  have pre3 : Go p e below s₁ (mkF m 8 #[rv a1, iv (1 : Int32)] [(.int (1 : Int32))]) s₁ EF := fun t k => pre1 t (by
      refine X0.arraylength hx (by rw [e0]; exact Ar2.1) (State.isArrayOf_alike hZ.alike Ar2.2.1) (g := (mkF m 2 #[rv a1, iv (1 : Int32)] [(.ref a1), (.int (1 : Int32))])) rfl rfl (hb hby dKc1_1_2) _ ?_
      rw [len_of Sz2 M2]
      refine XS.isub X0.here hx rfl (hb hby dKc1_1_3) rfl ?_
      refine XS.bipush X0.here hx rfl (hb hby dKc1_1_4) ?_
      refine XS.iushr X0.here hx rfl (hb hby dKc1_1_6) rfl ?_
      refine XS.i2b X0.here hx rfl (hb hby dKc1_1_7) rfl ?_
      exact k)
  have hnr : Value.int (nar .byte (1 : Int32)) = (.int (1 : Int32)) := by rfl
  obtain ⟨fs, hr, hrun, hended, hW, hsame⟩ := X0.leave (v := some (.int (1 : Int32))) (fun h => by rw [Bd.returns] at h; cases h)
  refine ⟨_, _, hEF ▸ pre3 _ (retN X0 hx (t := .byte) Bd.returns (by simp) (hb hby dKc1_1_8) (hnr ▸ hr)), hrun, hended, _, _, rfl, ?_, ⟨_, rfl⟩, hW, hsame.mono (by decide) (by decide)⟩
  show QKc1_1 Z a1 cz fv k vs h0 n0 _ s₁.heap _
  rw [e0]
  exact ⟨rfl, N0, rfl⟩
abbrev rKKi1 : Room := { frames := 4, cells := 2, slots := 3, locals := 57 }
theorem dKi1_0 : decode jdk_42_method_149_code 0 = .ok (.aload_n 0, 1) := by decide +kernel
theorem dKi1_1 : decode jdk_42_method_149_code 1 = .ok (.invokespecial 1, 3) := by decide +kernel
theorem dKi1_4 : decode jdk_42_method_149_code 4 = .ok (.iload_n 3, 1) := by decide +kernel
theorem dKi1_5 : decode jdk_42_method_149_code 5 = .ok (.ifCond .ne 22, 3) := by decide +kernel
theorem dKi1_27 : decode jdk_42_method_149_code 27 = .ok (.getstatic 38, 3) := by decide +kernel
theorem dKi1_30 : decode jdk_42_method_149_code 30 = .ok (.ifCond .eq 28, 3) := by decide +kernel
theorem dKi1_33 : decode jdk_42_method_149_code 33 = .ok (.aload_n 1, 1) := by decide +kernel
theorem dKi1_34 : decode jdk_42_method_149_code 34 = .ok (.iload_n 2, 1) := by decide +kernel
theorem dKi1_35 : decode jdk_42_method_149_code 35 = .ok (.iload_n 3, 1) := by decide +kernel
theorem dKi1_36 : decode jdk_42_method_149_code 36 = .ok (.invokestatic 177, 3) := by decide +kernel
theorem dKi1_39 : decode jdk_42_method_149_code 39 = .ok (.astore 5, 2) := by decide +kernel
theorem dKi1_41 : decode jdk_42_method_149_code 41 = .ok (.aload_n 0, 1) := by decide +kernel
theorem dKi1_42 : decode jdk_42_method_149_code 42 = .ok (.aload 5, 2) := by decide +kernel
theorem dKi1_44 : decode jdk_42_method_149_code 44 = .ok (.iload_n 3, 1) := by decide +kernel
theorem dKi1_45 : decode jdk_42_method_149_code 45 = .ok (.invokestatic 47, 3) := by decide +kernel
theorem dKi1_48 : decode jdk_42_method_149_code 48 = .ok (.putfield 15, 3) := by decide +kernel
theorem dKi1_51 : decode jdk_42_method_149_code 51 = .ok (.aload_n 0, 1) := by decide +kernel
theorem dKi1_52 : decode jdk_42_method_149_code 52 = .ok (.aload 5, 2) := by decide +kernel
theorem dKi1_54 : decode jdk_42_method_149_code 54 = .ok (.putfield 9, 3) := by decide +kernel
theorem dKi1_57 : decode jdk_42_method_149_code 57 = .ok (.return_, 1) := by decide +kernel
theorem pnKi1 : plainName "java/lang/String" = true := by first | (simp [plainName, overriddenIn]; done) | decide +kernel
theorem pdKi1_0 : parseMethodDescriptor "([CII)[B" = some ⟨[(.array .char), .int, .int], some (.array .byte)⟩ := by decide +kernel
theorem pdKi1_1 : parseMethodDescriptor "([BI)B" = some ⟨[(.array .byte), .int], some .byte⟩ := by decide +kernel
theorem efKi1 (m : MethodId) (a1 : Addr) (a2 : Addr) : entryFrame m #[(.ref a1), (.ref a2), (.int (0 : Int32)), (.int (1 : Int32)), .null] 6 = mkF m 0 #[rv a1, rv a2, iv (0 : Int32), iv (1 : Int32), .val .null, .unset] [] := by first | (simp [entryFrame, mkF, argsToLocals, Value.category]; done) | rfl
def QKi1 (Z : State) (a1 : Addr) (a2 : Addr) (cz : Int32) (fv : Value) (k1 : ClassId) (c0 : Int32) (h0 : Heap) (n0 : Nat) (v : Option Value) (h : Heap) (L : List Loc) : Prop := v = none ∧ Fr n0 L ∧ Keep h0 h [a1] ∧ Str Z h a1 [c0]
set_option maxRecDepth 65536 in
set_option maxHeartbeats 40000000 in
theorem rmKi1 (l : Launch) (Z : State) (a0 : Array Value) (hw : ∀ d ∈ tables_1, d.before a0 Z = true) (ws : List Jvm.Cond) (a1 : Addr) (a2 : Addr) (cz : Int32) (fv : Value) (k1 : ClassId) (c0 : Int32) (h0 : Heap) (n0 : Nat) (Z0 : n0 ≤ h0.size) (O0 : Old Z n0 h0) (J0 : Jd Z cz fv) (E1 : Exa Z h0 a1 "java/lang/String") (g_a1 : n0 ≤ a1) (F1 : Fld Z h0 a1 "java/lang/String" "value" "[B" .null) (F2 : Fld Z h0 a1 "java/lang/String" "coder" "B" (.int (0 : Int32))) (V2 : Arv Z h0 a2 k1 .char (1 : Int32) [(.int c0)] (.int (0 : Int32))) (hrg : ∀ c ∈ [c0], 0 ≤ c.toInt ∧ c.toInt < 65536) :
    MetFree l mN18 (head1 (Jvm.Cond.code mN18 jdk_42_method_149_code 6 none :: ws) rKKi1) (fun a U => a = #[(.ref a1), (.ref a2), (.int (0 : Int32)), (.int (1 : Int32)), .null] ∧ Z.Warmed39 U.vm ∧ U.heap = h0) (fun _ _ _ _ _ => True) (fun _ U o U' => ∃ v L, o = .returned v ∧ QKi1 Z a1 a2 cz fv k1 c0 h0 n0 v U'.heap L ∧ FrameEnd U o U' L rKKi1.cells rKKi1.slots) := by
  refine MetFree.of_bodySF (plainFor_of_name pnKi1) hisR ?_
  intro p e s m args below meth c s₁ Bd hml0 hP hK
  obtain ⟨rfl, hZ, hh⟩ := hP
  have hx := Bd.exec
  have hby := Bd.bytes
  have hml : c.maxLocals = 6 := hml0
  have hown : s.vm.findClass "java/lang/String" = some m.cls := findClass_of_methodNamed Bd.named
  have hnm := (name_of_methodNamed Bd.named Bd.method).1
  have X0 : Stand p l e rKKi1 s m #[(.ref a1), (.ref a2), (.int (0 : Int32)), (.int (1 : Int32)), .null] below meth c s₁ [] 0 0 := Stand.of_body Bd
  have e0 : s₁.heap = h0 := by rw [← hh, Bd.state]; rfl
  have N0 := Fr.nil n0
  obtain ⟨EF, hEF⟩ : ∃ f, f = entryFrame m #[(.ref a1), (.ref a2), (.int (0 : Int32)), (.int (1 : Int32)), .null] 6 := ⟨_, rfl⟩
  have pre0 : Go p e below s₁ (mkF m 0 #[rv a1, rv a2, iv (0 : Int32), iv (1 : Int32), .val .null, .unset] []) s₁ EF := fun t k => by rw [hEF]; exact castTop (efKi1 m a1 a2) k
  have pre1 : Go p e below s₁ (mkF m 1 #[rv a1, rv a2, iv (0 : Int32), iv (1 : Int32), .val .null, .unset] [(.ref a1)]) s₁ EF := fun t k => pre0 t (by
      refine XS.aloadN X0.here hx rfl (hb hby dKi1_0) rfl rfl ?_
      exact k)
  obtain ⟨T2, X2, e2, st2⟩ := initO X0 hx hZ hown (hw _ (mW 18 rfl)) (hw _ (mW 19 rfl)) (hw _ (mW 20 rfl)) e0 (g := (mkF m 1 #[rv a1, rv a2, iv (0 : Int32), iv (1 : Int32), .val .null, .unset] [(.ref a1)])) rfl (by rw [hml]; rfl) rfl (hb hby dKi1_1) (by decide) (W := 0) (Nat.le_of_eq rfl) (by decide)
  have pre3 : Go p e below T2 (mkF m 4 #[rv a1, rv a2, iv (0 : Int32), iv (1 : Int32), .val .null, .unset] []) s₁ EF := fun t k => pre1 t (st2 t k)
  have pre4 : Go p e below T2 (mkF m 5 #[rv a1, rv a2, iv (0 : Int32), iv (1 : Int32), .val .null, .unset] [(.int (1 : Int32))]) s₁ EF := fun t k => pre3 t (by
      refine XS.iloadN X2.here hx rfl (hb hby dKi1_4) rfl ?_
      exact k)
  have pre5 : Go p e below T2 (mkF m 27 #[rv a1, rv a2, iv (0 : Int32), iv (1 : Int32), .val .null, .unset] []) s₁ EF := fun t k => pre4 t (XS.ifYes X2.here hx rfl (pc0 := 5) (pc' := 27) rfl (hb hby dKi1_5) rfl ((if0 _ _).trans (feq (by decide : ¬ ((1 : Int32) = (0 : Int32)))).2) (by decide) (by decide) k)
  obtain ⟨T6, X6, e6, st6⟩ := getS2 X2 hx hZ hown (host := "") (Or.inl (hw _ (mW 43 rfl))) Via.refl e2 (J0.1.ext O0.2) (g := (mkF m 27 #[rv a1, rv a2, iv (0 : Int32), iv (1 : Int32), .val .null, .unset] [])) rfl (hb hby dKi1_27)
  have pre7 : Go p e below T6 (mkF m 30 #[rv a1, rv a2, iv (0 : Int32), iv (1 : Int32), .val .null, .unset] [(.int cz)]) s₁ EF := fun t k => pre5 t (st6 t k)
  have pre8 : Go p e below T6 (mkF m 33 #[rv a1, rv a2, iv (0 : Int32), iv (1 : Int32), .val .null, .unset] []) s₁ EF := fun t k => pre7 t (XS.ifNo X6.here hx rfl (hb hby dKi1_30) rfl ((if0 _ _).trans (feq J0.2.1).1) k)
  have pre9 : Go p e below T6 (mkF m 36 #[rv a1, rv a2, iv (0 : Int32), iv (1 : Int32), .val .null, .unset] [(.int (1 : Int32)), (.int (0 : Int32)), (.ref a2)]) s₁ EF := fun t k => pre8 t (by
      refine XS.aloadN X6.here hx rfl (hb hby dKi1_33) rfl rfl ?_
      refine XS.iloadN X6.here hx rfl (hb hby dKi1_34) rfl ?_
      refine XS.iloadN X6.here hx rfl (hb hby dKi1_35) rfl ?_
      exact k)
  obtain ⟨_, _, ⟨T10, L10, k10, n10⟩, -, X10, ⟨Lc10, hQ10, l10, y10, z10⟩, st10⟩ := Jvm.LawKit.callS X6 hx (y := mN16) hown (mvT hZ (hw _ (mW 44 rfl))) (mvT hZ (hw _ (mW 45 rfl))) (mvT hZ (hw _ (mW 46 rfl))) (mvT hZ (hw _ (mW 47 rfl))) (by decide) (backOf (W := 0) (rmKb1 l Z a0 hw [] a2 cz fv k1 c0 h0 n0 Z0 O0 J0 V2 hrg) hZ (hw _ (mW 47 rfl)) (hw _ (mW 46 rfl)) (by decide) (by decide)) (g := (mkF m 36 #[rv a1, rv a2, iv (0 : Int32), iv (1 : Int32), .val .null, .unset] [(.int (1 : Int32)), (.int (0 : Int32)), (.ref a2)])) rfl (by rw [hml]; rfl) (argsL := [(.ref a2), (.int (0 : Int32)), (.int (1 : Int32))]) (rest := []) (lenOf pdKi1_0 rfl) rfl (Nat.le_of_eq rfl) (hb hby dKi1_36) (fun _ _ => ⟨rfl, e6, wl rfl, wl rfl⟩)
  dsimp only [Pt.U, Pt.locs, Pt.cells, Pt.slots] at X10 l10 y10 z10 st10 hQ10
  subst l10 y10 z10
  rcases hQ10 with ⟨bv, kb10, rfl, N10q, K10, hsz10, LE10, VB10⟩ | ⟨bv, kb10, rfl, N10q, K10, hsz10, VB10⟩
  · have N10 := Fr.app N0 N10q
    have pre11 : Go p e below T10 (mkF m 39 #[rv a1, rv a2, iv (0 : Int32), iv (1 : Int32), .val .null, .unset] [(.ref bv)]) s₁ EF := fun t k => pre9 t (st10 t k)
    have O12 : Old Z n0 T10.heap := O0.keep K10 all0
    have Z12 : n0 ≤ T10.heap.size := Nat.le_trans Z0 K10.1
    have K12 : Keep h0 T10.heap [a1] := (Keep.refl h0 [a1]).trans K10 all0
    have g_bv : n0 ≤ bv := Nat.le_trans Z0 hsz10
    have sz_bv : h0.size ≤ bv := Nat.le_trans (Keep.refl h0 [a1]).1 hsz10
    have ne_a1_bv : a1 ≠ bv := Nat.ne_of_lt (Nat.lt_of_lt_of_le E1.lt hsz10)
    have pre13 : Go p e below T10 (mkF m 45 #[rv a1, rv a2, iv (0 : Int32), iv (1 : Int32), .val .null, rv bv] [(.int (1 : Int32)), (.ref bv), (.ref a1)]) s₁ EF := fun t k => pre11 t (by
        refine XS.astore X10.here hx rfl (hb hby dKi1_39) rfl rfl (l' := #[rv a1, rv a2, iv (0 : Int32), iv (1 : Int32), .val .null, rv bv]) rfl ?_
        refine XS.aloadN X10.here hx rfl (hb hby dKi1_41) rfl rfl ?_
        refine XS.aload X10.here hx rfl (hb hby dKi1_42) rfl rfl ?_
        refine XS.iloadN X10.here hx rfl (hb hby dKi1_44) rfl ?_
        exact k)
    obtain ⟨_, _, ⟨T14, L14, k14, n14⟩, -, X14, ⟨Lc14, hQ14, l14, y14, z14⟩, st14⟩ := Jvm.LawKit.callS X10 hx (y := mN17) hown (mvT hZ (hw _ (mW 51 rfl))) (mvT hZ (hw _ (mW 52 rfl))) (mvT hZ (hw _ (mW 46 rfl))) (mvT hZ (hw _ (mW 53 rfl))) (by decide) (backOf (W := 1) (rmKc1_0 l Z a0 hw [] bv cz fv kb10 _ T10.heap n0 Z12 O12 J0 VB10) hZ (hw _ (mW 53 rfl)) (hw _ (mW 46 rfl)) (by decide) (by decide)) (g := (mkF m 45 #[rv a1, rv a2, iv (0 : Int32), iv (1 : Int32), .val .null, rv bv] [(.int (1 : Int32)), (.ref bv), (.ref a1)])) rfl (by rw [hml]; rfl) (argsL := [(.ref bv), (.int (1 : Int32))]) (rest := [(.ref a1)]) (lenOf pdKi1_1 rfl) rfl (Nat.le_of_eq rfl) (hb hby dKi1_45) (fun _ _ => ⟨rfl, rfl, wl rfl, wl rfl⟩)
    dsimp only [Pt.U, Pt.locs, Pt.cells, Pt.slots] at X14 l14 y14 z14 st14 hQ14
    subst l14 y14 z14
    obtain ⟨rfl, N14q, hq14⟩ := hQ14
    have N14 := Fr.app N10 N14q
    have pre15 : Go p e below T14 (mkF m 48 #[rv a1, rv a2, iv (0 : Int32), iv (1 : Int32), .val .null, rv bv] [(.int (0 : Int32)), (.ref a1)]) s₁ EF := fun t k => pre13 t (st14 t k)
    have e14 : T14.heap = T10.heap := hq14
    obtain ⟨T16, h16, X16, e16, W16, st16⟩ := putFN X14 hx hZ hown (hw _ (mW 28 rfl)) Via.refl e14 (F2.keep K10 nin0) (E1.keep K10) (Or.inr ⟨(hw _ (mW 24 rfl)), rfl, hnm⟩) (hw _ (mW 9 rfl)) (ty := .byte) (v' := (.int (0 : Int32))) (by decide) rfl rfl (g := (mkF m 48 #[rv a1, rv a2, iv (0 : Int32), iv (1 : Int32), .val .null, rv bv] [(.int (0 : Int32)), (.ref a1)])) rfl rfl (hb hby dKi1_48)
    have pre17 : Go p e below T16 (mkF m 51 #[rv a1, rv a2, iv (0 : Int32), iv (1 : Int32), .val .null, rv bv] []) s₁ EF := fun t k => pre15 t (st16 t k)
    have O18 : Old Z n0 h16 := O12.wr W16 g_a1
    have Z18 : n0 ≤ h16.size := Nat.le_trans Z12 (Keep.of_wr W16).1
    have K18 : Keep h0 h16 [a1] := K12.wr W16 (Or.inl (List.mem_of_getElem? (i := 0) rfl))
    have Fw16 := Fld.same W16 (F2.keep K10 nin0)
    have N16 := Fr.snoc X16 N14 g_a1
    have pre19 : Go p e below T16 (mkF m 54 #[rv a1, rv a2, iv (0 : Int32), iv (1 : Int32), .val .null, rv bv] [(.ref bv), (.ref a1)]) s₁ EF := fun t k => pre17 t (by
        refine XS.aloadN X16.here hx rfl (hb hby dKi1_51) rfl rfl ?_
        refine XS.aload X16.here hx rfl (hb hby dKi1_52) rfl rfl ?_
        exact k)
    obtain ⟨T20, h20, X20, e20, W20, st20⟩ := putF X16 hx hZ hown (host := "") (Or.inl (hw _ (mW 27 rfl))) Via.refl e16 (Fld.other W16 (F1.keep K10 nin0) (Or.inr (slot_ne (Or.inr (hw _ (mW 23 rfl))) (Or.inr (hw _ (mW 24 rfl))) (by decide) (t := (.array .byte)) (t' := .byte) (by decide) (by decide)))) ((E1.keep K10).wr W16) (Or.inr ⟨(hw _ (mW 23 rfl)), rfl, hnm⟩) (hw _ (mW 9 rfl)) (ty := (.array .byte)) (by decide) rfl rfl (g := (mkF m 54 #[rv a1, rv a2, iv (0 : Int32), iv (1 : Int32), .val .null, rv bv] [(.ref bv), (.ref a1)])) rfl rfl (hb hby dKi1_54)
    have pre21 : Go p e below T20 (mkF m 57 #[rv a1, rv a2, iv (0 : Int32), iv (1 : Int32), .val .null, rv bv] []) s₁ EF := fun t k => pre19 t (st20 t k)
    have O22 : Old Z n0 h20 := O18.wr W20 g_a1
    have Z22 : n0 ≤ h20.size := Nat.le_trans Z18 (Keep.of_wr W20).1
    have K22 : Keep h0 h20 [a1] := K18.wr W20 (Or.inl (List.mem_of_getElem? (i := 0) rfl))
    have Fw20 := Fld.same W20 (Fld.other W16 (F1.keep K10 nin0) (Or.inr (slot_ne (Or.inr (hw _ (mW 23 rfl))) (Or.inr (hw _ (mW 24 rfl))) (by decide) (t := (.array .byte)) (t' := .byte) (by decide) (by decide))))
    have N20 := Fr.snoc X20 N16 g_a1
    obtain ⟨fs, hr, hrun, hended, hW, hsame⟩ := X20.leave (v := none) (fun _ => rfl)
    refine ⟨_, _, hEF ▸ pre21 _ (X20.returnOut hx Bd.returns (hb hby dKi1_57) hr), hrun, hended, _, _, rfl, ?_, ⟨_, rfl⟩, hW, hsame.mono (by decide) (by decide)⟩
    show QKi1 Z a1 a2 cz fv k1 c0 h0 n0 _ T20.heap _
    rw [e20]
    exact ⟨rfl, N20, K22, ⟨_, _, _, _, _, (((E1.keep K10).wr W16).wr W20), (Fld.other W20 Fw16 (Or.inr (slot_ne (Or.inr (hw _ (mW 24 rfl))) (Or.inr (hw _ (mW 23 rfl))) (by decide) (t := .byte) (t' := (.array .byte)) (by decide) (by decide)))), Fw20, ((VB10.other W16 (Ne.symm ne_a1_bv)).other W20 (Ne.symm ne_a1_bv)), Nat.le_of_ble_eq_true rfl, Or.inl ⟨rfl, by rfl, rfl, own_le hrg LE10⟩⟩⟩
  have N10 := Fr.app N0 N10q
  have pre23 : Go p e below T10 (mkF m 39 #[rv a1, rv a2, iv (0 : Int32), iv (1 : Int32), .val .null, .unset] [(.ref bv)]) s₁ EF := fun t k => pre9 t (st10 t k)
  have O24 : Old Z n0 T10.heap := O0.keep K10 all0
  have Z24 : n0 ≤ T10.heap.size := Nat.le_trans Z0 K10.1
  have K24 : Keep h0 T10.heap [a1] := (Keep.refl h0 [a1]).trans K10 all0
  have g_bv : n0 ≤ bv := Nat.le_trans Z0 hsz10
  have sz_bv : h0.size ≤ bv := Nat.le_trans (Keep.refl h0 [a1]).1 hsz10
  have ne_a1_bv : a1 ≠ bv := Nat.ne_of_lt (Nat.lt_of_lt_of_le E1.lt hsz10)
  have pre25 : Go p e below T10 (mkF m 45 #[rv a1, rv a2, iv (0 : Int32), iv (1 : Int32), .val .null, rv bv] [(.int (1 : Int32)), (.ref bv), (.ref a1)]) s₁ EF := fun t k => pre23 t (by
      refine XS.astore X10.here hx rfl (hb hby dKi1_39) rfl rfl (l' := #[rv a1, rv a2, iv (0 : Int32), iv (1 : Int32), .val .null, rv bv]) rfl ?_
      refine XS.aloadN X10.here hx rfl (hb hby dKi1_41) rfl rfl ?_
      refine XS.aload X10.here hx rfl (hb hby dKi1_42) rfl rfl ?_
      refine XS.iloadN X10.here hx rfl (hb hby dKi1_44) rfl ?_
      exact k)
  obtain ⟨_, _, ⟨T26, L26, k26, n26⟩, -, X26, ⟨Lc26, hQ26, l26, y26, z26⟩, st26⟩ := Jvm.LawKit.callS X10 hx (y := mN17) hown (mvT hZ (hw _ (mW 51 rfl))) (mvT hZ (hw _ (mW 52 rfl))) (mvT hZ (hw _ (mW 46 rfl))) (mvT hZ (hw _ (mW 53 rfl))) (by decide) (backOf (W := 1) (rmKc1_1 l Z a0 hw [] bv cz fv kb10 _ T10.heap n0 Z24 O24 J0 VB10) hZ (hw _ (mW 53 rfl)) (hw _ (mW 46 rfl)) (by decide) (by decide)) (g := (mkF m 45 #[rv a1, rv a2, iv (0 : Int32), iv (1 : Int32), .val .null, rv bv] [(.int (1 : Int32)), (.ref bv), (.ref a1)])) rfl (by rw [hml]; rfl) (argsL := [(.ref bv), (.int (1 : Int32))]) (rest := [(.ref a1)]) (lenOf pdKi1_1 rfl) rfl (Nat.le_of_eq rfl) (hb hby dKi1_45) (fun _ _ => ⟨rfl, rfl, wl rfl, wl rfl⟩)
  dsimp only [Pt.U, Pt.locs, Pt.cells, Pt.slots] at X26 l26 y26 z26 st26 hQ26
  subst l26 y26 z26
  obtain ⟨rfl, N26q, hq26⟩ := hQ26
  have N26 := Fr.app N10 N26q
  have pre27 : Go p e below T26 (mkF m 48 #[rv a1, rv a2, iv (0 : Int32), iv (1 : Int32), .val .null, rv bv] [(.int (1 : Int32)), (.ref a1)]) s₁ EF := fun t k => pre25 t (st26 t k)
  have e26 : T26.heap = T10.heap := hq26
  obtain ⟨T28, h28, X28, e28, W28, st28⟩ := putFN X26 hx hZ hown (hw _ (mW 28 rfl)) Via.refl e26 (F2.keep K10 nin0) (E1.keep K10) (Or.inr ⟨(hw _ (mW 24 rfl)), rfl, hnm⟩) (hw _ (mW 9 rfl)) (ty := .byte) (v' := (.int (1 : Int32))) (by decide) rfl rfl (g := (mkF m 48 #[rv a1, rv a2, iv (0 : Int32), iv (1 : Int32), .val .null, rv bv] [(.int (1 : Int32)), (.ref a1)])) rfl rfl (hb hby dKi1_48)
  have pre29 : Go p e below T28 (mkF m 51 #[rv a1, rv a2, iv (0 : Int32), iv (1 : Int32), .val .null, rv bv] []) s₁ EF := fun t k => pre27 t (st28 t k)
  have O30 : Old Z n0 h28 := O24.wr W28 g_a1
  have Z30 : n0 ≤ h28.size := Nat.le_trans Z24 (Keep.of_wr W28).1
  have K30 : Keep h0 h28 [a1] := K24.wr W28 (Or.inl (List.mem_of_getElem? (i := 0) rfl))
  have Fw28 := Fld.same W28 (F2.keep K10 nin0)
  have N28 := Fr.snoc X28 N26 g_a1
  have pre31 : Go p e below T28 (mkF m 54 #[rv a1, rv a2, iv (0 : Int32), iv (1 : Int32), .val .null, rv bv] [(.ref bv), (.ref a1)]) s₁ EF := fun t k => pre29 t (by
      refine XS.aloadN X28.here hx rfl (hb hby dKi1_51) rfl rfl ?_
      refine XS.aload X28.here hx rfl (hb hby dKi1_52) rfl rfl ?_
      exact k)
  obtain ⟨T32, h32, X32, e32, W32, st32⟩ := putF X28 hx hZ hown (host := "") (Or.inl (hw _ (mW 27 rfl))) Via.refl e28 (Fld.other W28 (F1.keep K10 nin0) (Or.inr (slot_ne (Or.inr (hw _ (mW 23 rfl))) (Or.inr (hw _ (mW 24 rfl))) (by decide) (t := (.array .byte)) (t' := .byte) (by decide) (by decide)))) ((E1.keep K10).wr W28) (Or.inr ⟨(hw _ (mW 23 rfl)), rfl, hnm⟩) (hw _ (mW 9 rfl)) (ty := (.array .byte)) (by decide) rfl rfl (g := (mkF m 54 #[rv a1, rv a2, iv (0 : Int32), iv (1 : Int32), .val .null, rv bv] [(.ref bv), (.ref a1)])) rfl rfl (hb hby dKi1_54)
  have pre33 : Go p e below T32 (mkF m 57 #[rv a1, rv a2, iv (0 : Int32), iv (1 : Int32), .val .null, rv bv] []) s₁ EF := fun t k => pre31 t (st32 t k)
  have O34 : Old Z n0 h32 := O30.wr W32 g_a1
  have Z34 : n0 ≤ h32.size := Nat.le_trans Z30 (Keep.of_wr W32).1
  have K34 : Keep h0 h32 [a1] := K30.wr W32 (Or.inl (List.mem_of_getElem? (i := 0) rfl))
  have Fw32 := Fld.same W32 (Fld.other W28 (F1.keep K10 nin0) (Or.inr (slot_ne (Or.inr (hw _ (mW 23 rfl))) (Or.inr (hw _ (mW 24 rfl))) (by decide) (t := (.array .byte)) (t' := .byte) (by decide) (by decide))))
  have N32 := Fr.snoc X32 N28 g_a1
  obtain ⟨fs, hr, hrun, hended, hW, hsame⟩ := X32.leave (v := none) (fun _ => rfl)
  refine ⟨_, _, hEF ▸ pre33 _ (X32.returnOut hx Bd.returns (hb hby dKi1_57) hr), hrun, hended, _, _, rfl, ?_, ⟨_, rfl⟩, hW, hsame.mono (by decide) (by decide)⟩
  show QKi1 Z a1 a2 cz fv k1 c0 h0 n0 _ T32.heap _
  rw [e32]
  exact ⟨rfl, N32, K34, ⟨_, _, _, _, _, (((E1.keep K10).wr W28).wr W32), (Fld.other W32 Fw28 (Or.inr (slot_ne (Or.inr (hw _ (mW 24 rfl))) (Or.inr (hw _ (mW 23 rfl))) (by decide) (t := .byte) (t' := (.array .byte)) (by decide) (by decide)))), Fw32, ((VB10.other W28 (Ne.symm ne_a1_bv)).other W32 (Ne.symm ne_a1_bv)), Nat.le_of_ble_eq_true rfl, Or.inr ⟨rfl, by rfl, rfl, hrg⟩⟩⟩
abbrev rKKj1 : Room := { frames := 5, cells := 2, slots := 3, locals := 74 }
theorem dKj1_0 : decode jdk_42_method_3_code 0 = .ok (.aload_n 0, 1) := by decide +kernel
theorem dKj1_1 : decode jdk_42_method_3_code 1 = .ok (.aload_n 1, 1) := by decide +kernel
theorem dKj1_2 : decode jdk_42_method_3_code 2 = .ok (.iconst 0, 1) := by decide +kernel
theorem dKj1_3 : decode jdk_42_method_3_code 3 = .ok (.aload_n 1, 1) := by decide +kernel
theorem dKj1_4 : decode jdk_42_method_3_code 4 = .ok (.arraylength, 1) := by decide +kernel
theorem dKj1_5 : decode jdk_42_method_3_code 5 = .ok (.aconst_null, 1) := by decide +kernel
theorem dKj1_6 : decode jdk_42_method_3_code 6 = .ok (.invokespecial 27, 3) := by decide +kernel
theorem dKj1_9 : decode jdk_42_method_3_code 9 = .ok (.return_, 1) := by decide +kernel
theorem pnKj1 : plainName "java/lang/String" = true := by first | (simp [plainName, overriddenIn]; done) | decide +kernel
theorem pdKj1_0 : parseMethodDescriptor "([CIILjava/lang/Void;)V" = some ⟨[(.array .char), .int, .int, (.object "java/lang/Void")], none⟩ := by decide +kernel
theorem efKj1 (m : MethodId) (a1 : Addr) (a2 : Addr) : entryFrame m #[(.ref a1), (.ref a2)] 2 = mkF m 0 #[rv a1, rv a2] [] := by first | (simp [entryFrame, mkF, argsToLocals, Value.category]; done) | rfl
def QKj1 (Z : State) (a1 : Addr) (a2 : Addr) (cz : Int32) (fv : Value) (k1 : ClassId) (c0 : Int32) (h0 : Heap) (n0 : Nat) (v : Option Value) (h : Heap) (L : List Loc) : Prop := v = none ∧ Fr n0 L ∧ Keep h0 h [a1] ∧ Str Z h a1 [c0]
set_option maxRecDepth 65536 in
set_option maxHeartbeats 40000000 in
theorem rmKj1 (l : Launch) (Z : State) (a0 : Array Value) (hw : ∀ d ∈ tables_1, d.before a0 Z = true) (ws : List Jvm.Cond) (a1 : Addr) (a2 : Addr) (cz : Int32) (fv : Value) (k1 : ClassId) (c0 : Int32) (h0 : Heap) (n0 : Nat) (Z0 : n0 ≤ h0.size) (O0 : Old Z n0 h0) (J0 : Jd Z cz fv) (E1 : Exa Z h0 a1 "java/lang/String") (g_a1 : n0 ≤ a1) (F1 : Fld Z h0 a1 "java/lang/String" "value" "[B" .null) (F2 : Fld Z h0 a1 "java/lang/String" "coder" "B" (.int (0 : Int32))) (V2 : Arv Z h0 a2 k1 .char (1 : Int32) [(.int c0)] (.int (0 : Int32))) (hrg : ∀ c ∈ [c0], 0 ≤ c.toInt ∧ c.toInt < 65536) :
    MetFree l mN19 (head1 (Jvm.Cond.code mN19 jdk_42_method_3_code 2 none :: ws) rKKj1) (fun a U => a = #[(.ref a1), (.ref a2)] ∧ Z.Warmed39 U.vm ∧ U.heap = h0) (fun _ _ _ _ _ => True) (fun _ U o U' => ∃ v L, o = .returned v ∧ QKj1 Z a1 a2 cz fv k1 c0 h0 n0 v U'.heap L ∧ FrameEnd U o U' L rKKj1.cells rKKj1.slots) := by
  refine MetFree.of_bodySF (plainFor_of_name pnKj1) hisR ?_
  intro p e s m args below meth c s₁ Bd hml0 hP hK
  obtain ⟨rfl, hZ, hh⟩ := hP
  have hx := Bd.exec
  have hby := Bd.bytes
  have hml : c.maxLocals = 2 := hml0
  have hown : s.vm.findClass "java/lang/String" = some m.cls := findClass_of_methodNamed Bd.named
  have hnm := (name_of_methodNamed Bd.named Bd.method).1
  have X0 : Stand p l e rKKj1 s m #[(.ref a1), (.ref a2)] below meth c s₁ [] 0 0 := Stand.of_body Bd
  have e0 : s₁.heap = h0 := by rw [← hh, Bd.state]; rfl
  have N0 := Fr.nil n0
  obtain ⟨EF, hEF⟩ : ∃ f, f = entryFrame m #[(.ref a1), (.ref a2)] 2 := ⟨_, rfl⟩
  have pre0 : Go p e below s₁ (mkF m 0 #[rv a1, rv a2] []) s₁ EF := fun t k => by rw [hEF]; exact castTop (efKj1 m a1 a2) k
  have pre1 : Go p e below s₁ (mkF m 4 #[rv a1, rv a2] [(.ref a2), (.int (0 : Int32)), (.ref a2), (.ref a1)]) s₁ EF := fun t k => pre0 t (by
      refine XS.aloadN X0.here hx rfl (hb hby dKj1_0) rfl rfl ?_
      refine XS.aloadN X0.here hx rfl (hb hby dKj1_1) rfl rfl ?_
      refine XS.iconst X0.here hx rfl (hb hby dKj1_2) ?_
      refine XS.aloadN X0.here hx rfl (hb hby dKj1_3) rfl rfl ?_
      exact k)
  obtain ⟨cl2, Ar2, q2, Sz2, M2, H2, G2⟩ := id V2
  have pre3 : Go p e below s₁ (mkF m 6 #[rv a1, rv a2] [.null, (.int (1 : Int32)), (.int (0 : Int32)), (.ref a2), (.ref a1)]) s₁ EF := fun t k => pre1 t (by
      refine X0.arraylength hx (by rw [e0]; exact Ar2.1) (State.isArrayOf_alike hZ.alike Ar2.2.1) (g := (mkF m 4 #[rv a1, rv a2] [(.ref a2), (.int (0 : Int32)), (.ref a2), (.ref a1)])) rfl rfl (hb hby dKj1_4) _ ?_
      rw [len_of Sz2 M2]
      refine XS.aconstNull X0.here hx rfl (hb hby dKj1_5) ?_
      exact k)
  obtain ⟨_, _, ⟨T4, L4, k4, n4⟩, -, X4, ⟨Lc4, hQ4, l4, y4, z4⟩, st4⟩ := X0.specialBack hx (y := mN18) rfl hown (mvT hZ (hw _ (mW 14 rfl))) (mvT hZ (hw _ (mW 15 rfl))) (mvT hZ (hw _ (mW 17 rfl))) (by decide) (backOf (W := 0) (rmKi1 l Z a0 hw [] a1 a2 cz fv k1 c0 h0 n0 Z0 O0 J0 E1 g_a1 F1 F2 V2 hrg) hZ (hw _ (mW 17 rfl)) (hw _ (mW 10 rfl)) (by decide) (by decide)) (g := (mkF m 6 #[rv a1, rv a2] [.null, (.int (1 : Int32)), (.int (0 : Int32)), (.ref a2), (.ref a1)])) rfl (by rw [hml]; rfl) (Steps.refl _) (a := a1) (argsL := [(.ref a2), (.int (0 : Int32)), (.int (1 : Int32)), .null]) (rest := []) (lenOf pdKj1_0 rfl) rfl (Nat.le_of_eq rfl) (hb hby dKj1_6) (fun _ _ => ⟨rfl, e0, wl rfl, wl rfl⟩)
  dsimp only [Pt.U, Pt.locs, Pt.cells, Pt.slots] at X4 l4 y4 z4 st4 hQ4
  subst l4 y4 z4
  obtain ⟨rfl, N4q, K4, SF4⟩ := hQ4
  have N4 := Fr.app N0 N4q
  have pre5 : Go p e below T4 (mkF m 9 #[rv a1, rv a2] []) s₁ EF := fun t k => pre3 t (st4.trans k)
  have O6 : Old Z n0 T4.heap := O0.keep K4 (allS g_a1 all0)
  have Z6 : n0 ≤ T4.heap.size := Nat.le_trans Z0 K4.1
  have K6 : Keep h0 T4.heap [a1] := (Keep.refl h0 [a1]).trans K4 (allS (Or.inl (List.mem_of_getElem? (i := 0) rfl)) all0)
  obtain ⟨fs, hr, hrun, hended, hW, hsame⟩ := X4.leave (v := none) (fun _ => rfl)
  refine ⟨_, _, hEF ▸ pre5 _ (X4.returnOut hx Bd.returns (hb hby dKj1_9) hr), hrun, hended, _, _, rfl, ?_, ⟨_, rfl⟩, hW, hsame.mono (by decide) (by decide)⟩
  show QKj1 Z a1 a2 cz fv k1 c0 h0 n0 _ T4.heap _
  exact ⟨rfl, N4, K6, SF4⟩
abbrev rKKa2 : Room := { frames := 0, cells := 0, slots := 0, locals := 0 }
theorem dKa2_0 : decode jdk_52_method_21_code 0 = .ok (.iconst 0, 1) := by decide +kernel
theorem dKa2_1 : decode jdk_52_method_21_code 1 = .ok (.istore 5, 2) := by decide +kernel
theorem dKa2_3 : decode jdk_52_method_21_code 3 = .ok (.iload 5, 2) := by decide +kernel
theorem dKa2_5 : decode jdk_52_method_21_code 5 = .ok (.iload 4, 2) := by decide +kernel
theorem dKa2_7 : decode jdk_52_method_21_code 7 = .ok (.if_icmp .ge 37, 3) := by decide +kernel
theorem dKa2_10 : decode jdk_52_method_21_code 10 = .ok (.aload_n 0, 1) := by decide +kernel
theorem dKa2_11 : decode jdk_52_method_21_code 11 = .ok (.iload_n 1, 1) := by decide +kernel
theorem dKa2_12 : decode jdk_52_method_21_code 12 = .ok (.caload, 1) := by decide +kernel
theorem dKa2_13 : decode jdk_52_method_21_code 13 = .ok (.istore 6, 2) := by decide +kernel
theorem dKa2_15 : decode jdk_52_method_21_code 15 = .ok (.iload 6, 2) := by decide +kernel
theorem dKa2_17 : decode jdk_52_method_21_code 17 = .ok (.sipush 255, 3) := by decide +kernel
theorem dKa2_20 : decode jdk_52_method_21_code 20 = .ok (.if_icmp .le 6, 3) := by decide +kernel
theorem dKa2_23 : decode jdk_52_method_21_code 23 = .ok (.iload 5, 2) := by decide +kernel
theorem dKa2_25 : decode jdk_52_method_21_code 25 = .ok (.ireturn, 1) := by decide +kernel
theorem dKa2_26 : decode jdk_52_method_21_code 26 = .ok (.aload_n 2, 1) := by decide +kernel
theorem dKa2_27 : decode jdk_52_method_21_code 27 = .ok (.iload_n 3, 1) := by decide +kernel
theorem dKa2_28 : decode jdk_52_method_21_code 28 = .ok (.iload 6, 2) := by decide +kernel
theorem dKa2_30 : decode jdk_52_method_21_code 30 = .ok (.i2b, 1) := by decide +kernel
theorem dKa2_31 : decode jdk_52_method_21_code 31 = .ok (.bastore, 1) := by decide +kernel
theorem dKa2_32 : decode jdk_52_method_21_code 32 = .ok (.iinc 1 1, 3) := by decide +kernel
theorem dKa2_35 : decode jdk_52_method_21_code 35 = .ok (.iinc 3 1, 3) := by decide +kernel
theorem dKa2_38 : decode jdk_52_method_21_code 38 = .ok (.iinc 5 1, 3) := by decide +kernel
theorem dKa2_41 : decode jdk_52_method_21_code 41 = .ok (.goto (-38), 3) := by decide +kernel
theorem dKa2_44 : decode jdk_52_method_21_code 44 = .ok (.iload 4, 2) := by decide +kernel
theorem dKa2_46 : decode jdk_52_method_21_code 46 = .ok (.ireturn, 1) := by decide +kernel
theorem pnKa2 : plainName "java/lang/StringUTF16" = true := by first | (simp [plainName, overriddenIn]; done) | decide +kernel
theorem efKa2 (m : MethodId) (a1 : Addr) (a2 : Addr) : entryFrame m #[(.ref a1), (.int (0 : Int32)), (.ref a2), (.int (0 : Int32)), (.int (2 : Int32))] 7 = mkF m 0 #[rv a1, iv (0 : Int32), rv a2, iv (0 : Int32), iv (2 : Int32), .unset, .unset] [] := by first | (simp [entryFrame, mkF, argsToLocals, Value.category]; done) | rfl
def QKa2 (Z : State) (a1 : Addr) (a2 : Addr) (cz : Int32) (fv : Value) (k1 : ClassId) (k2 : ClassId) (c0 : Int32) (c1 : Int32) (h0 : Heap) (n0 : Nat) (v : Option Value) (h : Heap) (L : List Loc) : Prop := (v = some (.int (2 : Int32)) ∧ Fr n0 L ∧ Keep h0 h [a2] ∧ (∀ c ∈ [c0, c1], ¬ (255 : Int32) < c) ∧ Arv Z h a2 k2 .byte (2 : Int32) [(.int (c0.toInt8.toInt32)), (.int (c1.toInt8.toInt32))] (.int (0 : Int32))) ∨ (∃ (i ci : Int32), v = some (.int i) ∧ Fr n0 L ∧ Keep h0 h [a2] ∧ ¬ i < 0 ∧ ¬ i = (2 : Int32) ∧ [c0, c1][i.toNatClampNeg]? = some ci ∧ (255 : Int32) < ci)
set_option maxRecDepth 65536 in
set_option maxHeartbeats 40000000 in
theorem rmKa2 (l : Launch) (Z : State) (a0 : Array Value) (hw : ∀ d ∈ tables_1, d.before a0 Z = true) (ws : List Jvm.Cond) (a1 : Addr) (a2 : Addr) (cz : Int32) (fv : Value) (k1 : ClassId) (k2 : ClassId) (c0 : Int32) (c1 : Int32) (h0 : Heap) (n0 : Nat) (Z0 : n0 ≤ h0.size) (O0 : Old Z n0 h0) (J0 : Jd Z cz fv) (V1 : Arv Z h0 a1 k1 .char (2 : Int32) [(.int c0), (.int c1)] (.int (0 : Int32))) (V2 : Arv Z h0 a2 k2 .byte (2 : Int32) [(.int (0 : Int32)), (.int (0 : Int32))] (.int (0 : Int32))) (ne12 : a1 ≠ a2) (g_a2 : n0 ≤ a2) :
    MetFree l mN11 (head1 (Jvm.Cond.code mN11 jdk_52_method_21_code 7 (some .int) :: ws) rKKa2) (fun a U => a = #[(.ref a1), (.int (0 : Int32)), (.ref a2), (.int (0 : Int32)), (.int (2 : Int32))] ∧ Z.Warmed39 U.vm ∧ U.heap = h0) (fun _ _ _ _ _ => True) (fun _ U o U' => ∃ v L, o = .returned v ∧ QKa2 Z a1 a2 cz fv k1 k2 c0 c1 h0 n0 v U'.heap L ∧ FrameEnd U o U' L rKKa2.cells rKKa2.slots) := by
  refine MetFree.of_bodySF (plainFor_of_name pnKa2) hisR ?_
  intro p e s m args below meth c s₁ Bd hml0 hP hK
  obtain ⟨rfl, hZ, hh⟩ := hP
  have hx := Bd.exec
  have hby := Bd.bytes
  have hml : c.maxLocals = 7 := hml0
  have hown : s.vm.findClass "java/lang/StringUTF16" = some m.cls := findClass_of_methodNamed Bd.named
  have hnm := (name_of_methodNamed Bd.named Bd.method).1
  have X0 : Stand p l e rKKa2 s m #[(.ref a1), (.int (0 : Int32)), (.ref a2), (.int (0 : Int32)), (.int (2 : Int32))] below meth c s₁ [] 0 0 := Stand.of_body Bd
  have e0 : s₁.heap = h0 := by rw [← hh, Bd.state]; rfl
  have N0 := Fr.nil n0
  obtain ⟨EF, hEF⟩ : ∃ f, f = entryFrame m #[(.ref a1), (.int (0 : Int32)), (.ref a2), (.int (0 : Int32)), (.int (2 : Int32))] 7 := ⟨_, rfl⟩
  have pre0 : Go p e below s₁ (mkF m 0 #[rv a1, iv (0 : Int32), rv a2, iv (0 : Int32), iv (2 : Int32), .unset, .unset] []) s₁ EF := fun t k => by rw [hEF]; exact castTop (efKa2 m a1 a2) k
  have pre1 : Go p e below s₁ (mkF m 7 #[rv a1, iv (0 : Int32), rv a2, iv (0 : Int32), iv (2 : Int32), iv (0 : Int32), .unset] [(.int (2 : Int32)), (.int (0 : Int32))]) s₁ EF := fun t k => pre0 t (by
      refine XS.iconst X0.here hx rfl (hb hby dKa2_0) ?_
      refine XS.istore X0.here hx rfl (hb hby dKa2_1) rfl (l' := #[rv a1, iv (0 : Int32), rv a2, iv (0 : Int32), iv (2 : Int32), iv (0 : Int32), .unset]) rfl ?_
      refine XS.iload X0.here hx rfl (hb hby dKa2_3) rfl ?_
      refine XS.iload X0.here hx rfl (hb hby dKa2_5) rfl ?_
      exact k)
  have pre2 : Go p e below s₁ (mkF m 10 #[rv a1, iv (0 : Int32), rv a2, iv (0 : Int32), iv (2 : Int32), iv (0 : Int32), .unset] []) s₁ EF := fun t k => pre1 t (XS.icmpNo X0.here hx rfl (hb hby dKa2_7) rfl (tlt (by decide : (0 : Int32) < (2 : Int32))).2.1 k)
  have pre3 : Go p e below s₁ (mkF m 12 #[rv a1, iv (0 : Int32), rv a2, iv (0 : Int32), iv (2 : Int32), iv (0 : Int32), .unset] [(.int (0 : Int32)), (.ref a1)]) s₁ EF := fun t k => pre2 t (by
      refine XS.aloadN X0.here hx rfl (hb hby dKa2_10) rfl rfl ?_
      refine XS.iloadN X0.here hx rfl (hb hby dKa2_11) rfl ?_
      exact k)
  obtain ⟨cl4, Ar4, q4, Sz4, M4, H4, G4⟩ := id V1
  have hin4 : ¬ ((0 : Int32) < 0 ∨ cl4.slots.size ≤ ((0 : Int32)).toNatClampNeg) := inb_of Sz4 ⟨by decide, by decide⟩
  have hat4 : cl4.slots[((0 : Int32)).toNatClampNeg]? = some (.int c0) := Has.at H4 hin4 rfl
  have pre5 : Go p e below s₁ (mkF m 20 #[rv a1, iv (0 : Int32), rv a2, iv (0 : Int32), iv (2 : Int32), iv (0 : Int32), iv c0] [(.int (255 : Int32)), (.int c0)]) s₁ EF := fun t k => pre3 t (by
      refine X0.caload hx (j := (0 : Int32)) (v := (.int c0)) (by rw [e0]; exact Ar4.1) (State.isArrayOf_alike hZ.alike Ar4.2.1) Ar4.2.2 hin4 hat4 (g := (mkF m 12 #[rv a1, iv (0 : Int32), rv a2, iv (0 : Int32), iv (2 : Int32), iv (0 : Int32), .unset] [(.int (0 : Int32)), (.ref a1)])) rfl rfl (hb hby dKa2_12) _ ?_
      refine XS.istore X0.here hx rfl (hb hby dKa2_13) rfl (l' := #[rv a1, iv (0 : Int32), rv a2, iv (0 : Int32), iv (2 : Int32), iv (0 : Int32), iv c0]) rfl ?_
      refine XS.iload X0.here hx rfl (hb hby dKa2_15) rfl ?_
      refine XS.sipush X0.here hx rfl (hb hby dKa2_17) ?_
      exact k)
  by_cases hc20 : (255 : Int32) < c0
  · have pre6 : Go p e below s₁ (mkF m 23 #[rv a1, iv (0 : Int32), rv a2, iv (0 : Int32), iv (2 : Int32), iv (0 : Int32), iv c0] []) s₁ EF := fun t k => pre5 t (XS.icmpNo X0.here hx rfl (hb hby dKa2_20) rfl (tlt hc20).2.2.2 k)
    have pre7 : Go p e below s₁ (mkF m 25 #[rv a1, iv (0 : Int32), rv a2, iv (0 : Int32), iv (2 : Int32), iv (0 : Int32), iv c0] [(.int (0 : Int32))]) s₁ EF := fun t k => pre6 t (by
        refine XS.iload X0.here hx rfl (hb hby dKa2_23) rfl ?_
        exact k)
    obtain ⟨fs, hr, hrun, hended, hW, hsame⟩ := X0.leave (v := some (.int (0 : Int32))) (fun h => by rw [Bd.returns] at h; cases h)
    refine ⟨_, _, hEF ▸ pre7 _ (retOut X0 hx Bd.returns rfl (Or.inl ⟨rfl, Or.inl rfl, _, rfl⟩) (hb hby dKa2_25) hr), hrun, hended, _, _, rfl, ?_, ⟨_, rfl⟩, hW, hsame.mono (by decide) (by decide)⟩
    show QKa2 Z a1 a2 cz fv k1 k2 c0 c1 h0 n0 _ s₁.heap _
    rw [e0]
    exact Or.inr ⟨_, _, rfl, N0, (Keep.refl h0 [a2]), (by decide), (by decide), rfl, hc20⟩
  have pre8 : Go p e below s₁ (mkF m 26 #[rv a1, iv (0 : Int32), rv a2, iv (0 : Int32), iv (2 : Int32), iv (0 : Int32), iv c0] []) s₁ EF := fun t k => pre5 t (XS.icmpYes X0.here hx rfl (pc0 := 20) (pc' := 26) rfl (hb hby dKa2_20) rfl (flt hc20).2.2.2 (by decide) (by decide) k)
  have pre9 : Go p e below s₁ (mkF m 31 #[rv a1, iv (0 : Int32), rv a2, iv (0 : Int32), iv (2 : Int32), iv (0 : Int32), iv c0] [(.int (c0.toInt8.toInt32)), (.int (0 : Int32)), (.ref a2)]) s₁ EF := fun t k => pre8 t (by
      refine XS.aloadN X0.here hx rfl (hb hby dKa2_26) rfl rfl ?_
      refine XS.iloadN X0.here hx rfl (hb hby dKa2_27) rfl ?_
      refine XS.iload X0.here hx rfl (hb hby dKa2_28) rfl ?_
      refine XS.i2b X0.here hx rfl (hb hby dKa2_30) rfl ?_
      exact k)
  obtain ⟨cl10, Ar10, q10, Sz10, M10, H10, G10⟩ := id V2
  have hin10 : ¬ ((0 : Int32) < 0 ∨ cl10.slots.size ≤ ((0 : Int32)).toNatClampNeg) := inb_of Sz10 ⟨by decide, by decide⟩
  obtain ⟨T10, h10, X10, e10, W10, st10⟩ := stB X0 hx hZ e0 Ar10 (j := (0 : Int32)) hin10 (g := (mkF m 31 #[rv a1, iv (0 : Int32), rv a2, iv (0 : Int32), iv (2 : Int32), iv (0 : Int32), iv c0] [(.int (c0.toInt8.toInt32)), (.int (0 : Int32)), (.ref a2)])) rfl rfl (hb hby dKa2_31)
  rw [own_i2b2] at W10
  have pre11 : Go p e below T10 (mkF m 32 #[rv a1, iv (0 : Int32), rv a2, iv (0 : Int32), iv (2 : Int32), iv (0 : Int32), iv c0] []) s₁ EF := fun t k => pre9 t (st10 t k)
  have O12 : Old Z n0 h10 := O0.wr W10 g_a2
  have Z12 : n0 ≤ h10.size := Nat.le_trans Z0 (Keep.of_wr W10).1
  have K12 : Keep h0 h10 [a2] := (Keep.refl h0 [a2]).wr W10 (Or.inl (List.mem_of_getElem? (i := 0) rfl))
  have V10 : Arv Z h10 a2 k2 .byte (2 : Int32) [(.int (c0.toInt8.toInt32)), (.int (0 : Int32))] (.int (0 : Int32)) := Arv.set Ar10 q10 Sz10 M10 H10 G10 (fits_nar_byte _) W10 0 rfl (Nat.le_of_ble_eq_true rfl)
  have N10 := Fr.snoc X10 N0 g_a2
  have pre13 : Go p e below T10 (mkF m 7 #[rv a1, iv (1 : Int32), rv a2, iv (1 : Int32), iv (2 : Int32), iv (1 : Int32), iv c0] [(.int (2 : Int32)), (.int (1 : Int32))]) s₁ EF := fun t k => pre11 t (by
      refine XS.iinc X10.here hx rfl (hb hby dKa2_32) rfl (l' := #[rv a1, iv (1 : Int32), rv a2, iv (0 : Int32), iv (2 : Int32), iv (0 : Int32), iv c0]) rfl ?_
      refine XS.iinc X10.here hx rfl (hb hby dKa2_35) rfl (l' := #[rv a1, iv (1 : Int32), rv a2, iv (1 : Int32), iv (2 : Int32), iv (0 : Int32), iv c0]) rfl ?_
      refine XS.iinc X10.here hx rfl (hb hby dKa2_38) rfl (l' := #[rv a1, iv (1 : Int32), rv a2, iv (1 : Int32), iv (2 : Int32), iv (1 : Int32), iv c0]) rfl ?_
      refine XS.goto X10.here hx rfl (pc0 := 41) (pc' := 3) rfl (hb hby dKa2_41) (by decide) (by decide) ?_
      refine XS.iload X10.here hx rfl (hb hby dKa2_3) rfl ?_
      refine XS.iload X10.here hx rfl (hb hby dKa2_5) rfl ?_
      exact k)
  have pre14 : Go p e below T10 (mkF m 10 #[rv a1, iv (1 : Int32), rv a2, iv (1 : Int32), iv (2 : Int32), iv (1 : Int32), iv c0] []) s₁ EF := fun t k => pre13 t (XS.icmpNo X10.here hx rfl (hb hby dKa2_7) rfl (tlt (by decide : (1 : Int32) < (2 : Int32))).2.1 k)
  have pre15 : Go p e below T10 (mkF m 12 #[rv a1, iv (1 : Int32), rv a2, iv (1 : Int32), iv (2 : Int32), iv (1 : Int32), iv c0] [(.int (1 : Int32)), (.ref a1)]) s₁ EF := fun t k => pre14 t (by
      refine XS.aloadN X10.here hx rfl (hb hby dKa2_10) rfl rfl ?_
      refine XS.iloadN X10.here hx rfl (hb hby dKa2_11) rfl ?_
      exact k)
  obtain ⟨cl16, Ar16, q16, Sz16, M16, H16, G16⟩ := id (V1.other W10 ne12)
  have hin16 : ¬ ((1 : Int32) < 0 ∨ cl16.slots.size ≤ ((1 : Int32)).toNatClampNeg) := inb_of Sz16 ⟨by decide, by decide⟩
  have hat16 : cl16.slots[((1 : Int32)).toNatClampNeg]? = some (.int c1) := Has.at H16 hin16 rfl
  have pre17 : Go p e below T10 (mkF m 20 #[rv a1, iv (1 : Int32), rv a2, iv (1 : Int32), iv (2 : Int32), iv (1 : Int32), iv c1] [(.int (255 : Int32)), (.int c1)]) s₁ EF := fun t k => pre15 t (by
      refine X10.caload hx (j := (1 : Int32)) (v := (.int c1)) (by rw [e10]; exact Ar16.1) (State.isArrayOf_alike hZ.alike Ar16.2.1) Ar16.2.2 hin16 hat16 (g := (mkF m 12 #[rv a1, iv (1 : Int32), rv a2, iv (1 : Int32), iv (2 : Int32), iv (1 : Int32), iv c0] [(.int (1 : Int32)), (.ref a1)])) rfl rfl (hb hby dKa2_12) _ ?_
      refine XS.istore X10.here hx rfl (hb hby dKa2_13) rfl (l' := #[rv a1, iv (1 : Int32), rv a2, iv (1 : Int32), iv (2 : Int32), iv (1 : Int32), iv c1]) rfl ?_
      refine XS.iload X10.here hx rfl (hb hby dKa2_15) rfl ?_
      refine XS.sipush X10.here hx rfl (hb hby dKa2_17) ?_
      exact k)
  by_cases hc20' : (255 : Int32) < c1
  · have pre18 : Go p e below T10 (mkF m 23 #[rv a1, iv (1 : Int32), rv a2, iv (1 : Int32), iv (2 : Int32), iv (1 : Int32), iv c1] []) s₁ EF := fun t k => pre17 t (XS.icmpNo X10.here hx rfl (hb hby dKa2_20) rfl (tlt hc20').2.2.2 k)
    have pre19 : Go p e below T10 (mkF m 25 #[rv a1, iv (1 : Int32), rv a2, iv (1 : Int32), iv (2 : Int32), iv (1 : Int32), iv c1] [(.int (1 : Int32))]) s₁ EF := fun t k => pre18 t (by
        refine XS.iload X10.here hx rfl (hb hby dKa2_23) rfl ?_
        exact k)
    obtain ⟨fs, hr, hrun, hended, hW, hsame⟩ := X10.leave (v := some (.int (1 : Int32))) (fun h => by rw [Bd.returns] at h; cases h)
    refine ⟨_, _, hEF ▸ pre19 _ (retOut X10 hx Bd.returns rfl (Or.inl ⟨rfl, Or.inl rfl, _, rfl⟩) (hb hby dKa2_25) hr), hrun, hended, _, _, rfl, ?_, ⟨_, rfl⟩, hW, hsame.mono (by decide) (by decide)⟩
    show QKa2 Z a1 a2 cz fv k1 k2 c0 c1 h0 n0 _ T10.heap _
    rw [e10]
    exact Or.inr ⟨_, _, rfl, N10, K12, (by decide), (by decide), rfl, hc20'⟩
  have pre20 : Go p e below T10 (mkF m 26 #[rv a1, iv (1 : Int32), rv a2, iv (1 : Int32), iv (2 : Int32), iv (1 : Int32), iv c1] []) s₁ EF := fun t k => pre17 t (XS.icmpYes X10.here hx rfl (pc0 := 20) (pc' := 26) rfl (hb hby dKa2_20) rfl (flt hc20').2.2.2 (by decide) (by decide) k)
  have pre21 : Go p e below T10 (mkF m 31 #[rv a1, iv (1 : Int32), rv a2, iv (1 : Int32), iv (2 : Int32), iv (1 : Int32), iv c1] [(.int (c1.toInt8.toInt32)), (.int (1 : Int32)), (.ref a2)]) s₁ EF := fun t k => pre20 t (by
      refine XS.aloadN X10.here hx rfl (hb hby dKa2_26) rfl rfl ?_
      refine XS.iloadN X10.here hx rfl (hb hby dKa2_27) rfl ?_
      refine XS.iload X10.here hx rfl (hb hby dKa2_28) rfl ?_
      refine XS.i2b X10.here hx rfl (hb hby dKa2_30) rfl ?_
      exact k)
  obtain ⟨cl22, Ar22, q22, Sz22, M22, H22, G22⟩ := id V10
  have hin22 : ¬ ((1 : Int32) < 0 ∨ cl22.slots.size ≤ ((1 : Int32)).toNatClampNeg) := inb_of Sz22 ⟨by decide, by decide⟩
  obtain ⟨T22, h22, X22, e22, W22, st22⟩ := stB X10 hx hZ e10 Ar22 (j := (1 : Int32)) hin22 (g := (mkF m 31 #[rv a1, iv (1 : Int32), rv a2, iv (1 : Int32), iv (2 : Int32), iv (1 : Int32), iv c1] [(.int (c1.toInt8.toInt32)), (.int (1 : Int32)), (.ref a2)])) rfl rfl (hb hby dKa2_31)
  rw [own_i2b2] at W22
  have pre23 : Go p e below T22 (mkF m 32 #[rv a1, iv (1 : Int32), rv a2, iv (1 : Int32), iv (2 : Int32), iv (1 : Int32), iv c1] []) s₁ EF := fun t k => pre21 t (st22 t k)
  have O24 : Old Z n0 h22 := O12.wr W22 g_a2
  have Z24 : n0 ≤ h22.size := Nat.le_trans Z12 (Keep.of_wr W22).1
  have K24 : Keep h0 h22 [a2] := K12.wr W22 (Or.inl (List.mem_of_getElem? (i := 0) rfl))
  have V22 : Arv Z h22 a2 k2 .byte (2 : Int32) [(.int (c0.toInt8.toInt32)), (.int (c1.toInt8.toInt32))] (.int (0 : Int32)) := Arv.set Ar22 q22 Sz22 M22 H22 G22 (fits_nar_byte _) W22 1 rfl (Nat.le_of_ble_eq_true rfl)
  have N22 := Fr.snoc X22 N10 g_a2
  have pre25 : Go p e below T22 (mkF m 7 #[rv a1, iv (2 : Int32), rv a2, iv (2 : Int32), iv (2 : Int32), iv (2 : Int32), iv c1] [(.int (2 : Int32)), (.int (2 : Int32))]) s₁ EF := fun t k => pre23 t (by
      refine XS.iinc X22.here hx rfl (hb hby dKa2_32) rfl (l' := #[rv a1, iv (2 : Int32), rv a2, iv (1 : Int32), iv (2 : Int32), iv (1 : Int32), iv c1]) rfl ?_
      refine XS.iinc X22.here hx rfl (hb hby dKa2_35) rfl (l' := #[rv a1, iv (2 : Int32), rv a2, iv (2 : Int32), iv (2 : Int32), iv (1 : Int32), iv c1]) rfl ?_
      refine XS.iinc X22.here hx rfl (hb hby dKa2_38) rfl (l' := #[rv a1, iv (2 : Int32), rv a2, iv (2 : Int32), iv (2 : Int32), iv (2 : Int32), iv c1]) rfl ?_
      refine XS.goto X22.here hx rfl (pc0 := 41) (pc' := 3) rfl (hb hby dKa2_41) (by decide) (by decide) ?_
      refine XS.iload X22.here hx rfl (hb hby dKa2_3) rfl ?_
      refine XS.iload X22.here hx rfl (hb hby dKa2_5) rfl ?_
      exact k)
  have pre26 : Go p e below T22 (mkF m 44 #[rv a1, iv (2 : Int32), rv a2, iv (2 : Int32), iv (2 : Int32), iv (2 : Int32), iv c1] []) s₁ EF := fun t k => pre25 t (XS.icmpYes X22.here hx rfl (pc0 := 7) (pc' := 44) rfl (hb hby dKa2_7) rfl (flt (by decide : ¬ ((2 : Int32) < (2 : Int32)))).2.1 (by decide) (by decide) k)
  have pre27 : Go p e below T22 (mkF m 46 #[rv a1, iv (2 : Int32), rv a2, iv (2 : Int32), iv (2 : Int32), iv (2 : Int32), iv c1] [(.int (2 : Int32))]) s₁ EF := fun t k => pre26 t (by
      refine XS.iload X22.here hx rfl (hb hby dKa2_44) rfl ?_
      exact k)
  obtain ⟨fs, hr, hrun, hended, hW, hsame⟩ := X22.leave (v := some (.int (2 : Int32))) (fun h => by rw [Bd.returns] at h; cases h)
  refine ⟨_, _, hEF ▸ pre27 _ (retOut X22 hx Bd.returns rfl (Or.inl ⟨rfl, Or.inl rfl, _, rfl⟩) (hb hby dKa2_46) hr), hrun, hended, _, _, rfl, ?_, ⟨_, rfl⟩, hW, hsame.mono (by decide) (by decide)⟩
  show QKa2 Z a1 a2 cz fv k1 k2 c0 c1 h0 n0 _ T22.heap _
  rw [e22]
  exact Or.inl ⟨rfl, N22, K24, (List.forall_mem_cons.mpr ⟨hc20, (List.forall_mem_cons.mpr ⟨hc20', (fun _ q => nomatch q)⟩)⟩), V22⟩
abbrev rKKn2 : Room := { frames := 0, cells := 0, slots := 0, locals := 0 }
theorem dKn2_0 : decode jdk_52_method_3_code 0 = .ok (.iload_n 0, 1) := by decide +kernel
theorem dKn2_1 : decode jdk_52_method_3_code 1 = .ok (.ifCond .ge 11, 3) := by decide +kernel
theorem dKn2_12 : decode jdk_52_method_3_code 12 = .ok (.iload_n 0, 1) := by decide +kernel
theorem dKn2_13 : decode jdk_52_method_3_code 13 = .ok (.ldc 20, 2) := by decide +kernel
theorem dKn2_15 : decode jdk_52_method_3_code 15 = .ok (.if_icmp .lt 40, 3) := by decide +kernel
theorem dKn2_55 : decode jdk_52_method_3_code 55 = .ok (.iload_n 0, 1) := by decide +kernel
theorem dKn2_56 : decode jdk_52_method_3_code 56 = .ok (.iconst 1, 1) := by decide +kernel
theorem dKn2_57 : decode jdk_52_method_3_code 57 = .ok (.ishl, 1) := by decide +kernel
theorem dKn2_58 : decode jdk_52_method_3_code 58 = .ok (.ireturn, 1) := by decide +kernel
theorem pnKn2 : plainName "java/lang/StringUTF16" = true := by first | (simp [plainName, overriddenIn]; done) | decide +kernel
theorem efKn2 (m : MethodId)  : entryFrame m #[(.int (2 : Int32))] 1 = mkF m 0 #[iv (2 : Int32)] [] := by first | (simp [entryFrame, mkF, argsToLocals, Value.category]; done) | rfl
def QKn2 (Z : State) (cz : Int32) (fv : Value) (h0 : Heap) (n0 : Nat) (v : Option Value) (h : Heap) (L : List Loc) : Prop := v = some (.int (4 : Int32)) ∧ Fr n0 L ∧ h = h0
set_option maxRecDepth 65536 in
set_option maxHeartbeats 40000000 in
theorem rmKn2 (l : Launch) (Z : State) (a0 : Array Value) (hw : ∀ d ∈ tables_1, d.before a0 Z = true) (ws : List Jvm.Cond) (cz : Int32) (fv : Value) (h0 : Heap) (n0 : Nat) (Z0 : n0 ≤ h0.size) (O0 : Old Z n0 h0) (J0 : Jd Z cz fv) :
    MetFree l mN12 (head1 (Jvm.Cond.code mN12 jdk_52_method_3_code 1 (some .int) :: ws) rKKn2) (fun a U => a = #[(.int (2 : Int32))] ∧ Z.Warmed39 U.vm ∧ U.heap = h0) (fun _ _ _ _ _ => True) (fun _ U o U' => ∃ v L, o = .returned v ∧ QKn2 Z cz fv h0 n0 v U'.heap L ∧ FrameEnd U o U' L rKKn2.cells rKKn2.slots) := by
  refine MetFree.of_bodySF (plainFor_of_name pnKn2) hisR ?_
  intro p e s m args below meth c s₁ Bd hml0 hP hK
  obtain ⟨rfl, hZ, hh⟩ := hP
  have hx := Bd.exec
  have hby := Bd.bytes
  have hml : c.maxLocals = 1 := hml0
  have hown : s.vm.findClass "java/lang/StringUTF16" = some m.cls := findClass_of_methodNamed Bd.named
  have hnm := (name_of_methodNamed Bd.named Bd.method).1
  have X0 : Stand p l e rKKn2 s m #[(.int (2 : Int32))] below meth c s₁ [] 0 0 := Stand.of_body Bd
  have e0 : s₁.heap = h0 := by rw [← hh, Bd.state]; rfl
  have N0 := Fr.nil n0
  obtain ⟨EF, hEF⟩ : ∃ f, f = entryFrame m #[(.int (2 : Int32))] 1 := ⟨_, rfl⟩
  have pre0 : Go p e below s₁ (mkF m 0 #[iv (2 : Int32)] []) s₁ EF := fun t k => by rw [hEF]; exact castTop (efKn2 m ) k
  have pre1 : Go p e below s₁ (mkF m 1 #[iv (2 : Int32)] [(.int (2 : Int32))]) s₁ EF := fun t k => pre0 t (by
      refine XS.iloadN X0.here hx rfl (hb hby dKn2_0) rfl ?_
      exact k)
  have pre2 : Go p e below s₁ (mkF m 12 #[iv (2 : Int32)] []) s₁ EF := fun t k => pre1 t (XS.ifYes X0.here hx rfl (pc0 := 1) (pc' := 12) rfl (hb hby dKn2_1) rfl ((if0 _ _).trans (flt (by decide : ¬ ((2 : Int32) < (0 : Int32)))).2.1) (by decide) (by decide) k)
  have pre3 : Go p e below s₁ (mkF m 15 #[iv (2 : Int32)] [(.int (1073741823 : Int32)), (.int (2 : Int32))]) s₁ EF := fun t k => pre2 t (by
      refine XS.iloadN X0.here hx rfl (hb hby dKn2_12) rfl ?_
      refine X0.ldcInt hx hown (mvT hZ (hw _ (mW 88 rfl))) (g := (mkF m 13 #[iv (2 : Int32)] [(.int (2 : Int32))])) rfl (hb hby dKn2_13) _ ?_
      exact k)
  have pre4 : Go p e below s₁ (mkF m 55 #[iv (2 : Int32)] []) s₁ EF := fun t k => pre3 t (XS.icmpYes X0.here hx rfl (pc0 := 15) (pc' := 55) rfl (hb hby dKn2_15) rfl (tlt (by decide : (2 : Int32) < (1073741823 : Int32))).1 (by decide) (by decide) k)
  have pre5 : Go p e below s₁ (mkF m 58 #[iv (2 : Int32)] [(.int (4 : Int32))]) s₁ EF := fun t k => pre4 t (by
      refine XS.iloadN X0.here hx rfl (hb hby dKn2_55) rfl ?_
      refine XS.iconst X0.here hx rfl (hb hby dKn2_56) ?_
      refine XS.ishl X0.here hx rfl (hb hby dKn2_57) rfl ?_
      exact k)
  obtain ⟨fs, hr, hrun, hended, hW, hsame⟩ := X0.leave (v := some (.int (4 : Int32))) (fun h => by rw [Bd.returns] at h; cases h)
  refine ⟨_, _, hEF ▸ pre5 _ (retOut X0 hx Bd.returns rfl (Or.inl ⟨rfl, Or.inl rfl, _, rfl⟩) (hb hby dKn2_58) hr), hrun, hended, _, _, rfl, ?_, ⟨_, rfl⟩, hW, hsame.mono (by decide) (by decide)⟩
  show QKn2 Z cz fv h0 n0 _ s₁.heap _
  rw [e0]
  exact ⟨rfl, N0, rfl⟩
abbrev rKKf2 : Room := { frames := 1, cells := 1, slots := 4, locals := 12 }
theorem dKf2_0 : decode jdk_52_method_2_code 0 = .ok (.iload_n 0, 1) := by decide +kernel
theorem dKf2_1 : decode jdk_52_method_2_code 1 = .ok (.invokestatic 11, 3) := by decide +kernel
theorem dKf2_4 : decode jdk_52_method_2_code 4 = .ok (.newarray .byte, 2) := by decide +kernel
theorem dKf2_6 : decode jdk_52_method_2_code 6 = .ok (.areturn, 1) := by decide +kernel
theorem pnKf2 : plainName "java/lang/StringUTF16" = true := by first | (simp [plainName, overriddenIn]; done) | decide +kernel
theorem pdKf2_0 : parseMethodDescriptor "(I)I" = some ⟨[.int], some .int⟩ := by decide +kernel
theorem efKf2 (m : MethodId)  : entryFrame m #[(.int (2 : Int32))] 1 = mkF m 0 #[iv (2 : Int32)] [] := by first | (simp [entryFrame, mkF, argsToLocals, Value.category]; done) | rfl
def QKf2 (Z : State) (cz : Int32) (fv : Value) (h0 : Heap) (n0 : Nat) (v : Option Value) (h : Heap) (L : List Loc) : Prop := ∃ b k, v = some (.ref b) ∧ Fr n0 L ∧ Keep h0 h [] ∧ h0.size ≤ b ∧ Arv Z h b k .byte (4 : Int32) [(.int (0 : Int32)), (.int (0 : Int32)), (.int (0 : Int32)), (.int (0 : Int32))] (.int (0 : Int32))
set_option maxRecDepth 65536 in
set_option maxHeartbeats 40000000 in
theorem rmKf2 (l : Launch) (Z : State) (a0 : Array Value) (hw : ∀ d ∈ tables_1, d.before a0 Z = true) (ws : List Jvm.Cond) (cz : Int32) (fv : Value) (h0 : Heap) (n0 : Nat) (Z0 : n0 ≤ h0.size) (O0 : Old Z n0 h0) (J0 : Jd Z cz fv) :
    MetFree l mN13 (head1 (Jvm.Cond.code mN13 jdk_52_method_2_code 1 (some (.array .byte)) :: ws) rKKf2) (fun a U => a = #[(.int (2 : Int32))] ∧ Z.Warmed39 U.vm ∧ U.heap = h0) (fun _ _ _ _ _ => True) (fun _ U o U' => ∃ v L, o = .returned v ∧ QKf2 Z cz fv h0 n0 v U'.heap L ∧ FrameEnd U o U' L rKKf2.cells rKKf2.slots) := by
  refine MetFree.of_bodySF (plainFor_of_name pnKf2) hisR ?_
  intro p e s m args below meth c s₁ Bd hml0 hP hK
  obtain ⟨rfl, hZ, hh⟩ := hP
  have hx := Bd.exec
  have hby := Bd.bytes
  have hml : c.maxLocals = 1 := hml0
  have hown : s.vm.findClass "java/lang/StringUTF16" = some m.cls := findClass_of_methodNamed Bd.named
  have hnm := (name_of_methodNamed Bd.named Bd.method).1
  have X0 : Stand p l e rKKf2 s m #[(.int (2 : Int32))] below meth c s₁ [] 0 0 := Stand.of_body Bd
  have e0 : s₁.heap = h0 := by rw [← hh, Bd.state]; rfl
  have N0 := Fr.nil n0
  obtain ⟨EF, hEF⟩ : ∃ f, f = entryFrame m #[(.int (2 : Int32))] 1 := ⟨_, rfl⟩
  have pre0 : Go p e below s₁ (mkF m 0 #[iv (2 : Int32)] []) s₁ EF := fun t k => by rw [hEF]; exact castTop (efKf2 m ) k
  have pre1 : Go p e below s₁ (mkF m 1 #[iv (2 : Int32)] [(.int (2 : Int32))]) s₁ EF := fun t k => pre0 t (by
      refine XS.iloadN X0.here hx rfl (hb hby dKf2_0) rfl ?_
      exact k)
  obtain ⟨_, _, ⟨T2, L2, k2, n2⟩, -, X2, ⟨Lc2, hQ2, l2, y2, z2⟩, st2⟩ := Jvm.LawKit.callS X0 hx (y := mN12) hown (mvT hZ (hw _ (mW 85 rfl))) (mvT hZ (hw _ (mW 86 rfl))) (mvT hZ (hw _ (mW 46 rfl))) (mvT hZ (hw _ (mW 87 rfl))) (by decide) (backOf (W := 0) (rmKn2 l Z a0 hw []  cz fv  h0 n0 Z0 O0 J0 ) hZ (hw _ (mW 87 rfl)) (hw _ (mW 46 rfl)) (by decide) (by decide)) (g := (mkF m 1 #[iv (2 : Int32)] [(.int (2 : Int32))])) rfl (by rw [hml]; rfl) (argsL := [(.int (2 : Int32))]) (rest := []) (lenOf pdKf2_0 rfl) rfl (Nat.le_of_eq rfl) (hb hby dKf2_1) (fun _ _ => ⟨rfl, e0, wl rfl, wl rfl⟩)
  dsimp only [Pt.U, Pt.locs, Pt.cells, Pt.slots] at X2 l2 y2 z2 st2 hQ2
  subst l2 y2 z2
  obtain ⟨rfl, N2q, hq2⟩ := hQ2
  have N2 := Fr.app N0 N2q
  have pre3 : Go p e below T2 (mkF m 4 #[iv (2 : Int32)] [(.int (4 : Int32))]) s₁ EF := fun t k => pre1 t (st2 t k)
  have e2 : T2.heap = h0 := hq2
  obtain ⟨T4, h4, k4, X4, e4, Et4, A4, st4⟩ := newP X2 hx hZ (hw _ (mW 22 rfl)) e2 (g := (mkF m 4 #[iv (2 : Int32)] [(.int (4 : Int32))])) rfl (hb hby dKf2_4) rfl (by decide) (cap := 4) (by decide) (by decide) (by decide) (by decide)
  obtain ⟨b4, g4⟩ : ∃ z, z = h0.size := ⟨_, rfl⟩
  rw [← g4] at A4 st4
  have g_b4 : n0 ≤ b4 := Nat.le_trans Z0 (Nat.le_of_eq g4.symm)
  have sz_b4 : h0.size ≤ b4 := Nat.le_trans (Keep.refl h0 []).1 (Nat.le_of_eq g4.symm)
  have pre5 : Go p e below T4 (mkF m 6 #[iv (2 : Int32)] [(.ref b4)]) s₁ EF := fun t k => pre3 t (st4 t k)
  have O6 : Old Z n0 h4 := O0.ext Et4
  have Z6 : n0 ≤ h4.size := Nat.le_trans Z0 Et4.1
  have K6 : Keep h0 h4 [] := (Keep.refl h0 []).ext Et4
  have V4 : Arv Z h4 b4 k4 .byte (4 : Int32) [(.int (0 : Int32)), (.int (0 : Int32)), (.int (0 : Int32)), (.int (0 : Int32))] (.int (0 : Int32)) := (Arv.new A4 (by decide)).pad (pad_rep [] (.int (0 : Int32)) 4)
  obtain ⟨fs, hr, hrun, hended, hW, hsame⟩ := X4.leave (v := some (.ref b4)) (fun h => by rw [Bd.returns] at h; cases h)
  refine ⟨_, _, hEF ▸ pre5 _ (retOut X4 hx Bd.returns rfl (Or.inr (Or.inr (Or.inr (Or.inr ⟨rfl, rfl, rfl⟩)))) (hb hby dKf2_6) hr), hrun, hended, _, _, rfl, ?_, ⟨_, rfl⟩, hW, hsame.mono (by decide) (by decide)⟩
  show QKf2 Z cz fv h0 n0 _ T4.heap _
  rw [e4]
  exact ⟨_, _, rfl, N2, K6, sz_b4, V4⟩
abbrev rKKp1 : Room := { frames := 0, cells := 0, slots := 0, locals := 0 }
theorem dKp1_0 : decode jdk_52_method_4_code 0 = .ok (.getstatic 44, 3) := by decide +kernel
theorem dKp1_3 : decode jdk_52_method_4_code 3 = .ok (.ifCond .ne 25, 3) := by decide +kernel
theorem dKp1_28 : decode jdk_52_method_4_code 28 = .ok (.iload_n 1, 1) := by decide +kernel
theorem dKp1_29 : decode jdk_52_method_4_code 29 = .ok (.iconst 1, 1) := by decide +kernel
theorem dKp1_30 : decode jdk_52_method_4_code 30 = .ok (.ishl, 1) := by decide +kernel
theorem dKp1_31 : decode jdk_52_method_4_code 31 = .ok (.istore_n 1, 1) := by decide +kernel
theorem dKp1_32 : decode jdk_52_method_4_code 32 = .ok (.aload_n 0, 1) := by decide +kernel
theorem dKp1_33 : decode jdk_52_method_4_code 33 = .ok (.iload_n 1, 1) := by decide +kernel
theorem dKp1_34 : decode jdk_52_method_4_code 34 = .ok (.iinc 1 1, 3) := by decide +kernel
theorem dKp1_37 : decode jdk_52_method_4_code 37 = .ok (.iload_n 2, 1) := by decide +kernel
theorem dKp1_38 : decode jdk_52_method_4_code 38 = .ok (.getstatic 59, 3) := by decide +kernel
theorem dKp1_41 : decode jdk_52_method_4_code 41 = .ok (.ishr, 1) := by decide +kernel
theorem dKp1_42 : decode jdk_52_method_4_code 42 = .ok (.i2b, 1) := by decide +kernel
theorem dKp1_43 : decode jdk_52_method_4_code 43 = .ok (.bastore, 1) := by decide +kernel
theorem dKp1_44 : decode jdk_52_method_4_code 44 = .ok (.aload_n 0, 1) := by decide +kernel
theorem dKp1_45 : decode jdk_52_method_4_code 45 = .ok (.iload_n 1, 1) := by decide +kernel
theorem dKp1_46 : decode jdk_52_method_4_code 46 = .ok (.iload_n 2, 1) := by decide +kernel
theorem dKp1_47 : decode jdk_52_method_4_code 47 = .ok (.getstatic 63, 3) := by decide +kernel
theorem dKp1_50 : decode jdk_52_method_4_code 50 = .ok (.ishr, 1) := by decide +kernel
theorem dKp1_51 : decode jdk_52_method_4_code 51 = .ok (.i2b, 1) := by decide +kernel
theorem dKp1_52 : decode jdk_52_method_4_code 52 = .ok (.bastore, 1) := by decide +kernel
theorem dKp1_53 : decode jdk_52_method_4_code 53 = .ok (.return_, 1) := by decide +kernel
theorem pnKp1 : plainName "java/lang/StringUTF16" = true := by first | (simp [plainName, overriddenIn]; done) | decide +kernel
theorem efKp1 (m : MethodId) (a1 : Addr) (p2 : Int32) : entryFrame m #[(.ref a1), (.int (1 : Int32)), (.int p2)] 3 = mkF m 0 #[rv a1, iv (1 : Int32), iv p2] [] := by first | (simp [entryFrame, mkF, argsToLocals, Value.category]; done) | rfl
def QKp1 (Z : State) (a1 : Addr) (p2 : Int32) (cz : Int32) (fv : Value) (k : ClassId) (z : Int32) (vs : List Value) (h0 : Heap) (n0 : Nat) (v : Option Value) (h : Heap) (L : List Loc) : Prop := v = none ∧ Fr n0 L ∧ Keep h0 h [a1] ∧ Arv Z h a1 k .byte z ((vs.set 2 (.int (lo8 p2))).set 3 (.int (hi8 p2))) (.int 0)
set_option maxRecDepth 65536 in
set_option maxHeartbeats 40000000 in
theorem rmKp1 (l : Launch) (Z : State) (a0 : Array Value) (hw : ∀ d ∈ tables_1, d.before a0 Z = true) (ws : List Jvm.Cond) (a1 : Addr) (p2 : Int32) (cz : Int32) (fv : Value) (k : ClassId) (z : Int32) (vs : List Value) (h0 : Heap) (n0 : Nat) (Z0 : n0 ≤ h0.size) (O0 : Old Z n0 h0) (J0 : Jd Z cz fv) (VV : Arv Z h0 a1 k .byte z vs (.int 0)) (g_a1 : n0 ≤ a1) (hz0 : (2 : Int32) < z) (hz1 : (3 : Int32) < z) (hln : 3 < vs.length) :
    MetFree l mN14 (head1 (Jvm.Cond.code mN14 jdk_52_method_4_code 3 none :: ws) rKKp1) (fun a U => a = #[(.ref a1), (.int (1 : Int32)), (.int p2)] ∧ Z.Warmed39 U.vm ∧ U.heap = h0) (fun _ _ _ _ _ => True) (fun _ U o U' => ∃ v L, o = .returned v ∧ QKp1 Z a1 p2 cz fv k z vs h0 n0 v U'.heap L ∧ FrameEnd U o U' L rKKp1.cells rKKp1.slots) := by
  refine MetFree.of_bodySF (plainFor_of_name pnKp1) hisR ?_
  intro p e s m args below meth c s₁ Bd hml0 hP hK
  obtain ⟨rfl, hZ, hh⟩ := hP
  have hx := Bd.exec
  have hby := Bd.bytes
  have hml : c.maxLocals = 3 := hml0
  have hown : s.vm.findClass "java/lang/StringUTF16" = some m.cls := findClass_of_methodNamed Bd.named
  have hnm := (name_of_methodNamed Bd.named Bd.method).1
  have X0 : Stand p l e rKKp1 s m #[(.ref a1), (.int (1 : Int32)), (.int p2)] below meth c s₁ [] 0 0 := Stand.of_body Bd
  have e0 : s₁.heap = h0 := by rw [← hh, Bd.state]; rfl
  have N0 := Fr.nil n0
  obtain ⟨EF, hEF⟩ : ∃ f, f = entryFrame m #[(.ref a1), (.int (1 : Int32)), (.int p2)] 3 := ⟨_, rfl⟩
  have pre0 : Go p e below s₁ (mkF m 0 #[rv a1, iv (1 : Int32), iv p2] []) s₁ EF := fun t k => by rw [hEF]; exact castTop (efKp1 m a1 p2) k
  obtain ⟨T1, X1, e1, st1⟩ := getS2 X0 hx hZ hown (host := "") (Or.inl (hw _ (mW 92 rfl))) Via.refl e0 (J0.2.2.2.1.ext O0.2) (g := (mkF m 0 #[rv a1, iv (1 : Int32), iv p2] [])) rfl (hb hby dKp1_0)
  have pre2 : Go p e below T1 (mkF m 3 #[rv a1, iv (1 : Int32), iv p2] [(.int (1 : Int32))]) s₁ EF := fun t k => pre0 t (st1 t k)
  have pre3 : Go p e below T1 (mkF m 28 #[rv a1, iv (1 : Int32), iv p2] []) s₁ EF := fun t k => pre2 t (XS.ifYes X1.here hx rfl (pc0 := 3) (pc' := 28) rfl (hb hby dKp1_3) rfl ((if0 _ _).trans (feq (by decide : ¬ ((1 : Int32) = (0 : Int32)))).2) (by decide) (by decide) k)
  have pre4 : Go p e below T1 (mkF m 38 #[rv a1, iv (3 : Int32), iv p2] [(.int p2), (.int (2 : Int32)), (.ref a1)]) s₁ EF := fun t k => pre3 t (by
      refine XS.iloadN X1.here hx rfl (hb hby dKp1_28) rfl ?_
      refine XS.iconst X1.here hx rfl (hb hby dKp1_29) ?_
      refine XS.ishl X1.here hx rfl (hb hby dKp1_30) rfl ?_
      refine XS.istoreN X1.here hx rfl (hb hby dKp1_31) rfl (l' := #[rv a1, iv (2 : Int32), iv p2]) rfl ?_
      refine XS.aloadN X1.here hx rfl (hb hby dKp1_32) rfl rfl ?_
      refine XS.iloadN X1.here hx rfl (hb hby dKp1_33) rfl ?_
      refine XS.iinc X1.here hx rfl (hb hby dKp1_34) rfl (l' := #[rv a1, iv (3 : Int32), iv p2]) rfl ?_
      refine XS.iloadN X1.here hx rfl (hb hby dKp1_37) rfl ?_
      exact k)
  obtain ⟨T5, X5, e5, st5⟩ := getS2 X1 hx hZ hown (host := "") (Or.inl (hw _ (mW 93 rfl))) Via.refl e1 (J0.2.2.2.2.1.ext O0.2) (g := (mkF m 38 #[rv a1, iv (3 : Int32), iv p2] [(.int p2), (.int (2 : Int32)), (.ref a1)])) rfl (hb hby dKp1_38)
  have pre6 : Go p e below T5 (mkF m 41 #[rv a1, iv (3 : Int32), iv p2] [(.int (0 : Int32)), (.int p2), (.int (2 : Int32)), (.ref a1)]) s₁ EF := fun t k => pre4 t (st5 t k)
  have pre7 : Go p e below T5 (mkF m 43 #[rv a1, iv (3 : Int32), iv p2] [(.int ((p2 >>> ((0 : Int32) &&& 31)).toInt8.toInt32)), (.int (2 : Int32)), (.ref a1)]) s₁ EF := fun t k => pre6 t (by
      refine XS.ishr X5.here hx rfl (hb hby dKp1_41) rfl ?_
      refine XS.i2b X5.here hx rfl (hb hby dKp1_42) rfl ?_
      exact k)
  obtain ⟨cl8, Ar8, q8, Sz8, M8, H8, G8⟩ := id VV
  have hin8 : ¬ ((2 : Int32) < 0 ∨ cl8.slots.size ≤ ((2 : Int32)).toNatClampNeg) := inb_of Sz8 ⟨by decide, hz0⟩
  obtain ⟨T8, h8, X8, e8, W8, st8⟩ := stB X5 hx hZ e5 Ar8 (j := (2 : Int32)) hin8 (g := (mkF m 43 #[rv a1, iv (3 : Int32), iv p2] [(.int ((p2 >>> ((0 : Int32) &&& 31)).toInt8.toInt32)), (.int (2 : Int32)), (.ref a1)])) rfl rfl (hb hby dKp1_43)
  rw [own_i2b2] at W8
  have pre9 : Go p e below T8 (mkF m 44 #[rv a1, iv (3 : Int32), iv p2] []) s₁ EF := fun t k => pre7 t (st8 t k)
  have O10 : Old Z n0 h8 := O0.wr W8 g_a1
  have Z10 : n0 ≤ h8.size := Nat.le_trans Z0 (Keep.of_wr W8).1
  have K10 : Keep h0 h8 [a1] := (Keep.refl h0 [a1]).wr W8 (Or.inl (List.mem_of_getElem? (i := 0) rfl))
  have V8 : Arv Z h8 a1 k .byte z (vs.set 2 (.int ((p2 >>> ((0 : Int32) &&& 31)).toInt8.toInt32))) (.int (0 : Int32)) := Arv.set Ar8 q8 Sz8 M8 H8 G8 (fits_nar_byte _) W8 2 rfl (by first | (simp only [List.length_set]; omega) | omega)
  have N8 := Fr.snoc X8 N0 g_a1
  have pre11 : Go p e below T8 (mkF m 47 #[rv a1, iv (3 : Int32), iv p2] [(.int p2), (.int (3 : Int32)), (.ref a1)]) s₁ EF := fun t k => pre9 t (by
      refine XS.aloadN X8.here hx rfl (hb hby dKp1_44) rfl rfl ?_
      refine XS.iloadN X8.here hx rfl (hb hby dKp1_45) rfl ?_
      refine XS.iloadN X8.here hx rfl (hb hby dKp1_46) rfl ?_
      exact k)
  obtain ⟨T12, X12, e12, st12⟩ := getS2 X8 hx hZ hown (host := "") (Or.inl (hw _ (mW 94 rfl))) Via.refl e8 (J0.2.2.2.2.2.1.ext O10.2) (g := (mkF m 47 #[rv a1, iv (3 : Int32), iv p2] [(.int p2), (.int (3 : Int32)), (.ref a1)])) rfl (hb hby dKp1_47)
  have pre13 : Go p e below T12 (mkF m 50 #[rv a1, iv (3 : Int32), iv p2] [(.int (8 : Int32)), (.int p2), (.int (3 : Int32)), (.ref a1)]) s₁ EF := fun t k => pre11 t (st12 t k)
  have pre14 : Go p e below T12 (mkF m 52 #[rv a1, iv (3 : Int32), iv p2] [(.int ((p2 >>> ((8 : Int32) &&& 31)).toInt8.toInt32)), (.int (3 : Int32)), (.ref a1)]) s₁ EF := fun t k => pre13 t (by
      refine XS.ishr X12.here hx rfl (hb hby dKp1_50) rfl ?_
      refine XS.i2b X12.here hx rfl (hb hby dKp1_51) rfl ?_
      exact k)
  obtain ⟨cl15, Ar15, q15, Sz15, M15, H15, G15⟩ := id V8
  have hin15 : ¬ ((3 : Int32) < 0 ∨ cl15.slots.size ≤ ((3 : Int32)).toNatClampNeg) := inb_of Sz15 ⟨by decide, hz1⟩
  obtain ⟨T15, h15, X15, e15, W15, st15⟩ := stB X12 hx hZ e12 Ar15 (j := (3 : Int32)) hin15 (g := (mkF m 52 #[rv a1, iv (3 : Int32), iv p2] [(.int ((p2 >>> ((8 : Int32) &&& 31)).toInt8.toInt32)), (.int (3 : Int32)), (.ref a1)])) rfl rfl (hb hby dKp1_52)
  rw [own_i2b2] at W15
  have pre16 : Go p e below T15 (mkF m 53 #[rv a1, iv (3 : Int32), iv p2] []) s₁ EF := fun t k => pre14 t (st15 t k)
  have O17 : Old Z n0 h15 := O10.wr W15 g_a1
  have Z17 : n0 ≤ h15.size := Nat.le_trans Z10 (Keep.of_wr W15).1
  have K17 : Keep h0 h15 [a1] := K10.wr W15 (Or.inl (List.mem_of_getElem? (i := 0) rfl))
  have V15 : Arv Z h15 a1 k .byte z ((vs.set 2 (.int ((p2 >>> ((0 : Int32) &&& 31)).toInt8.toInt32))).set 3 (.int ((p2 >>> ((8 : Int32) &&& 31)).toInt8.toInt32))) (.int (0 : Int32)) := Arv.set Ar15 q15 Sz15 M15 H15 G15 (fits_nar_byte _) W15 3 rfl (by first | (simp only [List.length_set]; omega) | omega)
  have N15 := Fr.snoc X15 N8 g_a1
  obtain ⟨fs, hr, hrun, hended, hW, hsame⟩ := X15.leave (v := none) (fun _ => rfl)
  refine ⟨_, _, hEF ▸ pre16 _ (X15.returnOut hx Bd.returns (hb hby dKp1_53) hr), hrun, hended, _, _, rfl, ?_, ⟨_, rfl⟩, hW, hsame.mono (by decide) (by decide)⟩
  show QKp1 Z a1 p2 cz fv k z vs h0 n0 _ T15.heap _
  rw [e15]
  exact ⟨rfl, N15, K17, V15⟩
abbrev rKKt2 : Room := { frames := 2, cells := 1, slots := 4, locals := 24 }
theorem dKt2_0 : decode jdk_52_method_14_code 0 = .ok (.iload_n 2, 1) := by decide +kernel
theorem dKt2_1 : decode jdk_52_method_14_code 1 = .ok (.invokestatic 107, 3) := by decide +kernel
theorem dKt2_4 : decode jdk_52_method_14_code 4 = .ok (.astore_n 3, 1) := by decide +kernel
theorem dKt2_5 : decode jdk_52_method_14_code 5 = .ok (.iconst 0, 1) := by decide +kernel
theorem dKt2_6 : decode jdk_52_method_14_code 6 = .ok (.istore 4, 2) := by decide +kernel
theorem dKt2_8 : decode jdk_52_method_14_code 8 = .ok (.iload 4, 2) := by decide +kernel
theorem dKt2_10 : decode jdk_52_method_14_code 10 = .ok (.iload_n 2, 1) := by decide +kernel
theorem dKt2_11 : decode jdk_52_method_14_code 11 = .ok (.if_icmp .ge 21, 3) := by decide +kernel
theorem dKt2_14 : decode jdk_52_method_14_code 14 = .ok (.aload_n 3, 1) := by decide +kernel
theorem dKt2_15 : decode jdk_52_method_14_code 15 = .ok (.iload 4, 2) := by decide +kernel
theorem dKt2_17 : decode jdk_52_method_14_code 17 = .ok (.aload_n 0, 1) := by decide +kernel
theorem dKt2_18 : decode jdk_52_method_14_code 18 = .ok (.iload_n 1, 1) := by decide +kernel
theorem dKt2_19 : decode jdk_52_method_14_code 19 = .ok (.caload, 1) := by decide +kernel
theorem dKt2_20 : decode jdk_52_method_14_code 20 = .ok (.invokestatic 111, 3) := by decide +kernel
theorem dKt2_23 : decode jdk_52_method_14_code 23 = .ok (.iinc 1 1, 3) := by decide +kernel
theorem dKt2_26 : decode jdk_52_method_14_code 26 = .ok (.iinc 4 1, 3) := by decide +kernel
theorem dKt2_29 : decode jdk_52_method_14_code 29 = .ok (.goto (-21), 3) := by decide +kernel
theorem dKt2_32 : decode jdk_52_method_14_code 32 = .ok (.aload_n 3, 1) := by decide +kernel
theorem dKt2_33 : decode jdk_52_method_14_code 33 = .ok (.areturn, 1) := by decide +kernel
theorem pnKt2 : plainName "java/lang/StringUTF16" = true := by first | (simp [plainName, overriddenIn]; done) | decide +kernel
theorem pdKt2_0 : parseMethodDescriptor "(I)[B" = some ⟨[.int], some (.array .byte)⟩ := by decide +kernel
theorem pdKt2_1 : parseMethodDescriptor "([BII)V" = some ⟨[(.array .byte), .int, .int], none⟩ := by decide +kernel
theorem efKt2 (m : MethodId) (a1 : Addr) : entryFrame m #[(.ref a1), (.int (0 : Int32)), (.int (2 : Int32))] 5 = mkF m 0 #[rv a1, iv (0 : Int32), iv (2 : Int32), .unset, .unset] [] := by first | (simp [entryFrame, mkF, argsToLocals, Value.category]; done) | rfl
def QKt2 (Z : State) (a1 : Addr) (cz : Int32) (fv : Value) (k1 : ClassId) (c0 : Int32) (c1 : Int32) (h0 : Heap) (n0 : Nat) (v : Option Value) (h : Heap) (L : List Loc) : Prop := ∃ b k, v = some (.ref b) ∧ Fr n0 L ∧ Keep h0 h [] ∧ h0.size ≤ b ∧ Arv Z h b k .byte (4 : Int32) [(.int (lo8 c0)), (.int (hi8 c0)), (.int (lo8 c1)), (.int (hi8 c1))] (.int (0 : Int32))
set_option maxRecDepth 65536 in
set_option maxHeartbeats 40000000 in
theorem rmKt2 (l : Launch) (Z : State) (a0 : Array Value) (hw : ∀ d ∈ tables_1, d.before a0 Z = true) (ws : List Jvm.Cond) (a1 : Addr) (cz : Int32) (fv : Value) (k1 : ClassId) (c0 : Int32) (c1 : Int32) (h0 : Heap) (n0 : Nat) (Z0 : n0 ≤ h0.size) (O0 : Old Z n0 h0) (J0 : Jd Z cz fv) (V1 : Arv Z h0 a1 k1 .char (2 : Int32) [(.int c0), (.int c1)] (.int (0 : Int32))) :
    MetFree l mN15 (head1 (Jvm.Cond.code mN15 jdk_52_method_14_code 5 (some (.array .byte)) :: ws) rKKt2) (fun a U => a = #[(.ref a1), (.int (0 : Int32)), (.int (2 : Int32))] ∧ Z.Warmed39 U.vm ∧ U.heap = h0) (fun _ _ _ _ _ => True) (fun _ U o U' => ∃ v L, o = .returned v ∧ QKt2 Z a1 cz fv k1 c0 c1 h0 n0 v U'.heap L ∧ FrameEnd U o U' L rKKt2.cells rKKt2.slots) := by
  refine MetFree.of_bodySF (plainFor_of_name pnKt2) hisR ?_
  intro p e s m args below meth c s₁ Bd hml0 hP hK
  obtain ⟨rfl, hZ, hh⟩ := hP
  have hx := Bd.exec
  have hby := Bd.bytes
  have hml : c.maxLocals = 5 := hml0
  have hown : s.vm.findClass "java/lang/StringUTF16" = some m.cls := findClass_of_methodNamed Bd.named
  have hnm := (name_of_methodNamed Bd.named Bd.method).1
  have X0 : Stand p l e rKKt2 s m #[(.ref a1), (.int (0 : Int32)), (.int (2 : Int32))] below meth c s₁ [] 0 0 := Stand.of_body Bd
  have e0 : s₁.heap = h0 := by rw [← hh, Bd.state]; rfl
  have N0 := Fr.nil n0
  obtain ⟨EF, hEF⟩ : ∃ f, f = entryFrame m #[(.ref a1), (.int (0 : Int32)), (.int (2 : Int32))] 5 := ⟨_, rfl⟩
  have pre0 : Go p e below s₁ (mkF m 0 #[rv a1, iv (0 : Int32), iv (2 : Int32), .unset, .unset] []) s₁ EF := fun t k => by rw [hEF]; exact castTop (efKt2 m a1) k
  have pre1 : Go p e below s₁ (mkF m 1 #[rv a1, iv (0 : Int32), iv (2 : Int32), .unset, .unset] [(.int (2 : Int32))]) s₁ EF := fun t k => pre0 t (by
      refine XS.iloadN X0.here hx rfl (hb hby dKt2_0) rfl ?_
      exact k)
  obtain ⟨_, _, ⟨T2, L2, k2, n2⟩, -, X2, ⟨Lc2, hQ2, l2, y2, z2⟩, st2⟩ := Jvm.LawKit.callS X0 hx (y := mN13) hown (mvT hZ (hw _ (mW 82 rfl))) (mvT hZ (hw _ (mW 83 rfl))) (mvT hZ (hw _ (mW 46 rfl))) (mvT hZ (hw _ (mW 84 rfl))) (by decide) (backOf (W := 0) (rmKf2 l Z a0 hw []  cz fv  h0 n0 Z0 O0 J0 ) hZ (hw _ (mW 84 rfl)) (hw _ (mW 46 rfl)) (by decide) (by decide)) (g := (mkF m 1 #[rv a1, iv (0 : Int32), iv (2 : Int32), .unset, .unset] [(.int (2 : Int32))])) rfl (by rw [hml]; rfl) (argsL := [(.int (2 : Int32))]) (rest := []) (lenOf pdKt2_0 rfl) rfl (Nat.le_of_eq rfl) (hb hby dKt2_1) (fun _ _ => ⟨rfl, e0, wl rfl, wl rfl⟩)
  dsimp only [Pt.U, Pt.locs, Pt.cells, Pt.slots] at X2 l2 y2 z2 st2 hQ2
  subst l2 y2 z2
  obtain ⟨bt, kb2, rfl, N2q, K2, hsz2, VB2⟩ := hQ2
  have N2 := Fr.app N0 N2q
  have pre3 : Go p e below T2 (mkF m 4 #[rv a1, iv (0 : Int32), iv (2 : Int32), .unset, .unset] [(.ref bt)]) s₁ EF := fun t k => pre1 t (st2 t k)
  have O4 : Old Z n0 T2.heap := O0.keep K2 all0
  have Z4 : n0 ≤ T2.heap.size := Nat.le_trans Z0 K2.1
  have K4 : Keep h0 T2.heap [] := (Keep.refl h0 []).trans K2 all0
  have g_bt : n0 ≤ bt := Nat.le_trans Z0 hsz2
  have sz_bt : h0.size ≤ bt := Nat.le_trans (Keep.refl h0 []).1 hsz2
  have ne_a1_bt : a1 ≠ bt := Nat.ne_of_lt (Nat.lt_of_lt_of_le V1.lt hsz2)
  have pre5 : Go p e below T2 (mkF m 11 #[rv a1, iv (0 : Int32), iv (2 : Int32), rv bt, iv (0 : Int32)] [(.int (2 : Int32)), (.int (0 : Int32))]) s₁ EF := fun t k => pre3 t (by
      refine XS.astoreN X2.here hx rfl (hb hby dKt2_4) rfl rfl (l' := #[rv a1, iv (0 : Int32), iv (2 : Int32), rv bt, .unset]) rfl ?_
      refine XS.iconst X2.here hx rfl (hb hby dKt2_5) ?_
      refine XS.istore X2.here hx rfl (hb hby dKt2_6) rfl (l' := #[rv a1, iv (0 : Int32), iv (2 : Int32), rv bt, iv (0 : Int32)]) rfl ?_
      refine XS.iload X2.here hx rfl (hb hby dKt2_8) rfl ?_
      refine XS.iloadN X2.here hx rfl (hb hby dKt2_10) rfl ?_
      exact k)
  have pre6 : Go p e below T2 (mkF m 14 #[rv a1, iv (0 : Int32), iv (2 : Int32), rv bt, iv (0 : Int32)] []) s₁ EF := fun t k => pre5 t (XS.icmpNo X2.here hx rfl (hb hby dKt2_11) rfl (tlt (by decide : (0 : Int32) < (2 : Int32))).2.1 k)
  have pre7 : Go p e below T2 (mkF m 19 #[rv a1, iv (0 : Int32), iv (2 : Int32), rv bt, iv (0 : Int32)] [(.int (0 : Int32)), (.ref a1), (.int (0 : Int32)), (.ref bt)]) s₁ EF := fun t k => pre6 t (by
      refine XS.aloadN X2.here hx rfl (hb hby dKt2_14) rfl rfl ?_
      refine XS.iload X2.here hx rfl (hb hby dKt2_15) rfl ?_
      refine XS.aloadN X2.here hx rfl (hb hby dKt2_17) rfl rfl ?_
      refine XS.iloadN X2.here hx rfl (hb hby dKt2_18) rfl ?_
      exact k)
  obtain ⟨cl8, Ar8, q8, Sz8, M8, H8, G8⟩ := id (V1.keep K2 nin0)
  have hin8 : ¬ ((0 : Int32) < 0 ∨ cl8.slots.size ≤ ((0 : Int32)).toNatClampNeg) := inb_of Sz8 ⟨by decide, by decide⟩
  have hat8 : cl8.slots[((0 : Int32)).toNatClampNeg]? = some (.int c0) := Has.at H8 hin8 rfl
  have pre9 : Go p e below T2 (mkF m 20 #[rv a1, iv (0 : Int32), iv (2 : Int32), rv bt, iv (0 : Int32)] [(.int c0), (.int (0 : Int32)), (.ref bt)]) s₁ EF := fun t k => pre7 t (by
      refine X2.caload hx (j := (0 : Int32)) (v := (.int c0)) Ar8.1 (State.isArrayOf_alike hZ.alike Ar8.2.1) Ar8.2.2 hin8 hat8 (g := (mkF m 19 #[rv a1, iv (0 : Int32), iv (2 : Int32), rv bt, iv (0 : Int32)] [(.int (0 : Int32)), (.ref a1), (.int (0 : Int32)), (.ref bt)])) rfl rfl (hb hby dKt2_19) _ ?_
      exact k)
  obtain ⟨_, _, ⟨T10, L10, k10, n10⟩, -, X10, ⟨Lc10, hQ10, l10, y10, z10⟩, st10⟩ := Jvm.LawKit.callS X2 hx (y := mN14) hown (mvT hZ (hw _ (mW 89 rfl))) (mvT hZ (hw _ (mW 90 rfl))) (mvT hZ (hw _ (mW 46 rfl))) (mvT hZ (hw _ (mW 91 rfl))) (by decide) (backOf (W := 0) (rmKp0 l Z a0 hw [] bt c0 cz fv kb2 (4 : Int32) _ T2.heap n0 Z4 O4 J0 VB2 g_bt (by decide) (by decide) (Nat.le_of_ble_eq_true rfl)) hZ (hw _ (mW 91 rfl)) (hw _ (mW 46 rfl)) (by decide) (by decide)) (g := (mkF m 20 #[rv a1, iv (0 : Int32), iv (2 : Int32), rv bt, iv (0 : Int32)] [(.int c0), (.int (0 : Int32)), (.ref bt)])) rfl (by rw [hml]; rfl) (argsL := [(.ref bt), (.int (0 : Int32)), (.int c0)]) (rest := []) (lenOf pdKt2_1 rfl) rfl (Nat.le_of_eq rfl) (hb hby dKt2_20) (fun _ _ => ⟨rfl, rfl, wl rfl, wl rfl⟩)
  dsimp only [Pt.U, Pt.locs, Pt.cells, Pt.slots] at X10 l10 y10 z10 st10 hQ10
  subst l10 y10 z10
  obtain ⟨rfl, N10q, K10, VQ10⟩ := hQ10
  have N10 := Fr.app N2 N10q
  have pre11 : Go p e below T10 (mkF m 23 #[rv a1, iv (0 : Int32), iv (2 : Int32), rv bt, iv (0 : Int32)] []) s₁ EF := fun t k => pre9 t (st10 t k)
  have O12 : Old Z n0 T10.heap := O4.keep K10 (allS g_bt all0)
  have Z12 : n0 ≤ T10.heap.size := Nat.le_trans Z4 K10.1
  have K12 : Keep h0 T10.heap [] := K4.trans K10 (allS (Or.inr sz_bt) all0)
  have VP10 : Arv Z T10.heap bt kb2 .byte (4 : Int32) [(.int (lo8 c0)), (.int (hi8 c0)), (.int (0 : Int32)), (.int (0 : Int32))] (.int (0 : Int32)) := VQ10
  have pre13 : Go p e below T10 (mkF m 11 #[rv a1, iv (1 : Int32), iv (2 : Int32), rv bt, iv (1 : Int32)] [(.int (2 : Int32)), (.int (1 : Int32))]) s₁ EF := fun t k => pre11 t (by
      refine XS.iinc X10.here hx rfl (hb hby dKt2_23) rfl (l' := #[rv a1, iv (1 : Int32), iv (2 : Int32), rv bt, iv (0 : Int32)]) rfl ?_
      refine XS.iinc X10.here hx rfl (hb hby dKt2_26) rfl (l' := #[rv a1, iv (1 : Int32), iv (2 : Int32), rv bt, iv (1 : Int32)]) rfl ?_
      refine XS.goto X10.here hx rfl (pc0 := 29) (pc' := 8) rfl (hb hby dKt2_29) (by decide) (by decide) ?_
      refine XS.iload X10.here hx rfl (hb hby dKt2_8) rfl ?_
      refine XS.iloadN X10.here hx rfl (hb hby dKt2_10) rfl ?_
      exact k)
  have pre14 : Go p e below T10 (mkF m 14 #[rv a1, iv (1 : Int32), iv (2 : Int32), rv bt, iv (1 : Int32)] []) s₁ EF := fun t k => pre13 t (XS.icmpNo X10.here hx rfl (hb hby dKt2_11) rfl (tlt (by decide : (1 : Int32) < (2 : Int32))).2.1 k)
  have pre15 : Go p e below T10 (mkF m 19 #[rv a1, iv (1 : Int32), iv (2 : Int32), rv bt, iv (1 : Int32)] [(.int (1 : Int32)), (.ref a1), (.int (1 : Int32)), (.ref bt)]) s₁ EF := fun t k => pre14 t (by
      refine XS.aloadN X10.here hx rfl (hb hby dKt2_14) rfl rfl ?_
      refine XS.iload X10.here hx rfl (hb hby dKt2_15) rfl ?_
      refine XS.aloadN X10.here hx rfl (hb hby dKt2_17) rfl rfl ?_
      refine XS.iloadN X10.here hx rfl (hb hby dKt2_18) rfl ?_
      exact k)
  obtain ⟨cl16, Ar16, q16, Sz16, M16, H16, G16⟩ := id ((V1.keep K2 nin0).keep K10 (ninS ne_a1_bt nin0))
  have hin16 : ¬ ((1 : Int32) < 0 ∨ cl16.slots.size ≤ ((1 : Int32)).toNatClampNeg) := inb_of Sz16 ⟨by decide, by decide⟩
  have hat16 : cl16.slots[((1 : Int32)).toNatClampNeg]? = some (.int c1) := Has.at H16 hin16 rfl
  have pre17 : Go p e below T10 (mkF m 20 #[rv a1, iv (1 : Int32), iv (2 : Int32), rv bt, iv (1 : Int32)] [(.int c1), (.int (1 : Int32)), (.ref bt)]) s₁ EF := fun t k => pre15 t (by
      refine X10.caload hx (j := (1 : Int32)) (v := (.int c1)) Ar16.1 (State.isArrayOf_alike hZ.alike Ar16.2.1) Ar16.2.2 hin16 hat16 (g := (mkF m 19 #[rv a1, iv (1 : Int32), iv (2 : Int32), rv bt, iv (1 : Int32)] [(.int (1 : Int32)), (.ref a1), (.int (1 : Int32)), (.ref bt)])) rfl rfl (hb hby dKt2_19) _ ?_
      exact k)
  obtain ⟨_, _, ⟨T18, L18, k18, n18⟩, -, X18, ⟨Lc18, hQ18, l18, y18, z18⟩, st18⟩ := Jvm.LawKit.callS X10 hx (y := mN14) hown (mvT hZ (hw _ (mW 89 rfl))) (mvT hZ (hw _ (mW 90 rfl))) (mvT hZ (hw _ (mW 46 rfl))) (mvT hZ (hw _ (mW 91 rfl))) (by decide) (backOf (W := 0) (rmKp1 l Z a0 hw [] bt c1 cz fv kb2 (4 : Int32) _ T10.heap n0 Z12 O12 J0 VP10 g_bt (by decide) (by decide) (Nat.le_of_ble_eq_true rfl)) hZ (hw _ (mW 91 rfl)) (hw _ (mW 46 rfl)) (by decide) (by decide)) (g := (mkF m 20 #[rv a1, iv (1 : Int32), iv (2 : Int32), rv bt, iv (1 : Int32)] [(.int c1), (.int (1 : Int32)), (.ref bt)])) rfl (by rw [hml]; rfl) (argsL := [(.ref bt), (.int (1 : Int32)), (.int c1)]) (rest := []) (lenOf pdKt2_1 rfl) rfl (Nat.le_of_eq rfl) (hb hby dKt2_20) (fun _ _ => ⟨rfl, rfl, wl rfl, wl rfl⟩)
  dsimp only [Pt.U, Pt.locs, Pt.cells, Pt.slots] at X18 l18 y18 z18 st18 hQ18
  subst l18 y18 z18
  obtain ⟨rfl, N18q, K18, VQ18⟩ := hQ18
  have N18 := Fr.app N10 N18q
  have pre19 : Go p e below T18 (mkF m 23 #[rv a1, iv (1 : Int32), iv (2 : Int32), rv bt, iv (1 : Int32)] []) s₁ EF := fun t k => pre17 t (st18 t k)
  have O20 : Old Z n0 T18.heap := O12.keep K18 (allS g_bt all0)
  have Z20 : n0 ≤ T18.heap.size := Nat.le_trans Z12 K18.1
  have K20 : Keep h0 T18.heap [] := K12.trans K18 (allS (Or.inr sz_bt) all0)
  have VP18 : Arv Z T18.heap bt kb2 .byte (4 : Int32) [(.int (lo8 c0)), (.int (hi8 c0)), (.int (lo8 c1)), (.int (hi8 c1))] (.int (0 : Int32)) := VQ18
  have pre21 : Go p e below T18 (mkF m 11 #[rv a1, iv (2 : Int32), iv (2 : Int32), rv bt, iv (2 : Int32)] [(.int (2 : Int32)), (.int (2 : Int32))]) s₁ EF := fun t k => pre19 t (by
      refine XS.iinc X18.here hx rfl (hb hby dKt2_23) rfl (l' := #[rv a1, iv (2 : Int32), iv (2 : Int32), rv bt, iv (1 : Int32)]) rfl ?_
      refine XS.iinc X18.here hx rfl (hb hby dKt2_26) rfl (l' := #[rv a1, iv (2 : Int32), iv (2 : Int32), rv bt, iv (2 : Int32)]) rfl ?_
      refine XS.goto X18.here hx rfl (pc0 := 29) (pc' := 8) rfl (hb hby dKt2_29) (by decide) (by decide) ?_
      refine XS.iload X18.here hx rfl (hb hby dKt2_8) rfl ?_
      refine XS.iloadN X18.here hx rfl (hb hby dKt2_10) rfl ?_
      exact k)
  have pre22 : Go p e below T18 (mkF m 32 #[rv a1, iv (2 : Int32), iv (2 : Int32), rv bt, iv (2 : Int32)] []) s₁ EF := fun t k => pre21 t (XS.icmpYes X18.here hx rfl (pc0 := 11) (pc' := 32) rfl (hb hby dKt2_11) rfl (flt (by decide : ¬ ((2 : Int32) < (2 : Int32)))).2.1 (by decide) (by decide) k)
  have pre23 : Go p e below T18 (mkF m 33 #[rv a1, iv (2 : Int32), iv (2 : Int32), rv bt, iv (2 : Int32)] [(.ref bt)]) s₁ EF := fun t k => pre22 t (by
      refine XS.aloadN X18.here hx rfl (hb hby dKt2_32) rfl rfl ?_
      exact k)
  obtain ⟨fs, hr, hrun, hended, hW, hsame⟩ := X18.leave (v := some (.ref bt)) (fun h => by rw [Bd.returns] at h; cases h)
  refine ⟨_, _, hEF ▸ pre23 _ (retOut X18 hx Bd.returns rfl (Or.inr (Or.inr (Or.inr (Or.inr ⟨rfl, rfl, rfl⟩)))) (hb hby dKt2_33) hr), hrun, hended, _, _, rfl, ?_, ⟨_, rfl⟩, hW, hsame.mono (by decide) (by decide)⟩
  show QKt2 Z a1 cz fv k1 c0 c1 h0 n0 _ T18.heap _
  exact ⟨_, _, rfl, N18, K20, sz_bt, VP18⟩
abbrev rKKb2 : Room := { frames := 3, cells := 2, slots := 6, locals := 40 }
theorem dKb2_0 : decode jdk_52_method_16_code 0 = .ok (.iload_n 2, 1) := by decide +kernel
theorem dKb2_1 : decode jdk_52_method_16_code 1 = .ok (.newarray .byte, 2) := by decide +kernel
theorem dKb2_3 : decode jdk_52_method_16_code 3 = .ok (.astore_n 3, 1) := by decide +kernel
theorem dKb2_4 : decode jdk_52_method_16_code 4 = .ok (.aload_n 0, 1) := by decide +kernel
theorem dKb2_5 : decode jdk_52_method_16_code 5 = .ok (.iload_n 1, 1) := by decide +kernel
theorem dKb2_6 : decode jdk_52_method_16_code 6 = .ok (.aload_n 3, 1) := by decide +kernel
theorem dKb2_7 : decode jdk_52_method_16_code 7 = .ok (.iconst 0, 1) := by decide +kernel
theorem dKb2_8 : decode jdk_52_method_16_code 8 = .ok (.iload_n 2, 1) := by decide +kernel
theorem dKb2_9 : decode jdk_52_method_16_code 9 = .ok (.invokestatic 115, 3) := by decide +kernel
theorem dKb2_12 : decode jdk_52_method_16_code 12 = .ok (.istore 4, 2) := by decide +kernel
theorem dKb2_14 : decode jdk_52_method_16_code 14 = .ok (.iload 4, 2) := by decide +kernel
theorem dKb2_16 : decode jdk_52_method_16_code 16 = .ok (.iload_n 2, 1) := by decide +kernel
theorem dKb2_17 : decode jdk_52_method_16_code 17 = .ok (.if_icmp .eq 40, 3) := by decide +kernel
theorem dKb2_20 : decode jdk_52_method_16_code 20 = .ok (.aload_n 0, 1) := by decide +kernel
theorem dKb2_21 : decode jdk_52_method_16_code 21 = .ok (.iload_n 1, 1) := by decide +kernel
theorem dKb2_22 : decode jdk_52_method_16_code 22 = .ok (.iload_n 2, 1) := by decide +kernel
theorem dKb2_23 : decode jdk_52_method_16_code 23 = .ok (.invokestatic 119, 3) := by decide +kernel
theorem dKb2_26 : decode jdk_52_method_16_code 26 = .ok (.astore 5, 2) := by decide +kernel
theorem dKb2_28 : decode jdk_52_method_16_code 28 = .ok (.aload 5, 2) := by decide +kernel
theorem dKb2_30 : decode jdk_52_method_16_code 30 = .ok (.iload 4, 2) := by decide +kernel
theorem dKb2_32 : decode jdk_52_method_16_code 32 = .ok (.invokestatic 71, 3) := by decide +kernel
theorem dKb2_35 : decode jdk_52_method_16_code 35 = .ok (.sipush 255, 3) := by decide +kernel
theorem dKb2_38 : decode jdk_52_method_16_code 38 = .ok (.if_icmp .gt 16, 3) := by decide +kernel
theorem dKb2_54 : decode jdk_52_method_16_code 54 = .ok (.aload 5, 2) := by decide +kernel
theorem dKb2_56 : decode jdk_52_method_16_code 56 = .ok (.areturn, 1) := by decide +kernel
theorem dKb2_57 : decode jdk_52_method_16_code 57 = .ok (.aload_n 3, 1) := by decide +kernel
theorem dKb2_58 : decode jdk_52_method_16_code 58 = .ok (.areturn, 1) := by decide +kernel
theorem pnKb2 : plainName "java/lang/StringUTF16" = true := by first | (simp [plainName, overriddenIn]; done) | decide +kernel
theorem pdKb2_0 : parseMethodDescriptor "([CI[BII)I" = some ⟨[(.array .char), .int, (.array .byte), .int, .int], some .int⟩ := by decide +kernel
theorem pdKb2_1 : parseMethodDescriptor "([CII)[B" = some ⟨[(.array .char), .int, .int], some (.array .byte)⟩ := by decide +kernel
theorem pdKb2_2 : parseMethodDescriptor "([BI)C" = some ⟨[(.array .byte), .int], some .char⟩ := by decide +kernel
theorem efKb2 (m : MethodId) (a1 : Addr) : entryFrame m #[(.ref a1), (.int (0 : Int32)), (.int (2 : Int32))] 6 = mkF m 0 #[rv a1, iv (0 : Int32), iv (2 : Int32), .unset, .unset, .unset] [] := by first | (simp [entryFrame, mkF, argsToLocals, Value.category]; done) | rfl
def QKb2 (Z : State) (a1 : Addr) (cz : Int32) (fv : Value) (k1 : ClassId) (c0 : Int32) (c1 : Int32) (h0 : Heap) (n0 : Nat) (v : Option Value) (h : Heap) (L : List Loc) : Prop := (∃ b k, v = some (.ref b) ∧ Fr n0 L ∧ Keep h0 h [] ∧ h0.size ≤ b ∧ (∀ c ∈ [c0, c1], ¬ (255 : Int32) < c) ∧ Arv Z h b k .byte (2 : Int32) [(.int (c0.toInt8.toInt32)), (.int (c1.toInt8.toInt32))] (.int (0 : Int32))) ∨ (∃ b k, v = some (.ref b) ∧ Fr n0 L ∧ Keep h0 h [] ∧ h0.size ≤ b ∧ Arv Z h b k .byte (4 : Int32) [(.int (lo8 c0)), (.int (hi8 c0)), (.int (lo8 c1)), (.int (hi8 c1))] (.int (0 : Int32)))
set_option maxRecDepth 65536 in
set_option maxHeartbeats 40000000 in
theorem rmKb2 (l : Launch) (Z : State) (a0 : Array Value) (hw : ∀ d ∈ tables_1, d.before a0 Z = true) (ws : List Jvm.Cond) (a1 : Addr) (cz : Int32) (fv : Value) (k1 : ClassId) (c0 : Int32) (c1 : Int32) (h0 : Heap) (n0 : Nat) (Z0 : n0 ≤ h0.size) (O0 : Old Z n0 h0) (J0 : Jd Z cz fv) (V1 : Arv Z h0 a1 k1 .char (2 : Int32) [(.int c0), (.int c1)] (.int (0 : Int32))) (hrg : ∀ c ∈ [c0, c1], 0 ≤ c.toInt ∧ c.toInt < 65536) :
    MetFree l mN16 (head1 (Jvm.Cond.code mN16 jdk_52_method_16_code 6 (some (.array .byte)) :: ws) rKKb2) (fun a U => a = #[(.ref a1), (.int (0 : Int32)), (.int (2 : Int32))] ∧ Z.Warmed39 U.vm ∧ U.heap = h0) (fun _ _ _ _ _ => True) (fun _ U o U' => ∃ v L, o = .returned v ∧ QKb2 Z a1 cz fv k1 c0 c1 h0 n0 v U'.heap L ∧ FrameEnd U o U' L rKKb2.cells rKKb2.slots) := by
  refine MetFree.of_bodySF (plainFor_of_name pnKb2) hisR ?_
  intro p e s m args below meth c s₁ Bd hml0 hP hK
  obtain ⟨rfl, hZ, hh⟩ := hP
  have hx := Bd.exec
  have hby := Bd.bytes
  have hml : c.maxLocals = 6 := hml0
  have hown : s.vm.findClass "java/lang/StringUTF16" = some m.cls := findClass_of_methodNamed Bd.named
  have hnm := (name_of_methodNamed Bd.named Bd.method).1
  have X0 : Stand p l e rKKb2 s m #[(.ref a1), (.int (0 : Int32)), (.int (2 : Int32))] below meth c s₁ [] 0 0 := Stand.of_body Bd
  have e0 : s₁.heap = h0 := by rw [← hh, Bd.state]; rfl
  have N0 := Fr.nil n0
  obtain ⟨EF, hEF⟩ : ∃ f, f = entryFrame m #[(.ref a1), (.int (0 : Int32)), (.int (2 : Int32))] 6 := ⟨_, rfl⟩
  have pre0 : Go p e below s₁ (mkF m 0 #[rv a1, iv (0 : Int32), iv (2 : Int32), .unset, .unset, .unset] []) s₁ EF := fun t k => by rw [hEF]; exact castTop (efKb2 m a1) k
  have pre1 : Go p e below s₁ (mkF m 1 #[rv a1, iv (0 : Int32), iv (2 : Int32), .unset, .unset, .unset] [(.int (2 : Int32))]) s₁ EF := fun t k => pre0 t (by
      refine XS.iloadN X0.here hx rfl (hb hby dKb2_0) rfl ?_
      exact k)
  obtain ⟨T2, h2, k2, X2, e2, Et2, A2, st2⟩ := newP X0 hx hZ (hw _ (mW 22 rfl)) e0 (g := (mkF m 1 #[rv a1, iv (0 : Int32), iv (2 : Int32), .unset, .unset, .unset] [(.int (2 : Int32))])) rfl (hb hby dKb2_1) rfl (by decide) (cap := 2) (by decide) (by decide) (by decide) (by decide)
  obtain ⟨b2, g2⟩ : ∃ z, z = h0.size := ⟨_, rfl⟩
  rw [← g2] at A2 st2
  have g_b2 : n0 ≤ b2 := Nat.le_trans Z0 (Nat.le_of_eq g2.symm)
  have sz_b2 : h0.size ≤ b2 := Nat.le_trans (Keep.refl h0 []).1 (Nat.le_of_eq g2.symm)
  have ne_a1_b2 : a1 ≠ b2 := Nat.ne_of_lt (Nat.lt_of_lt_of_le V1.lt (Nat.le_of_eq g2.symm))
  have pre3 : Go p e below T2 (mkF m 3 #[rv a1, iv (0 : Int32), iv (2 : Int32), .unset, .unset, .unset] [(.ref b2)]) s₁ EF := fun t k => pre1 t (st2 t k)
  have O4 : Old Z n0 h2 := O0.ext Et2
  have Z4 : n0 ≤ h2.size := Nat.le_trans Z0 Et2.1
  have K4 : Keep h0 h2 [] := (Keep.refl h0 []).ext Et2
  have V2 : Arv Z h2 b2 k2 .byte (2 : Int32) [(.int (0 : Int32)), (.int (0 : Int32))] (.int (0 : Int32)) := (Arv.new A2 (by decide)).pad (pad_rep [] (.int (0 : Int32)) 2)
  have pre5 : Go p e below T2 (mkF m 9 #[rv a1, iv (0 : Int32), iv (2 : Int32), rv b2, .unset, .unset] [(.int (2 : Int32)), (.int (0 : Int32)), (.ref b2), (.int (0 : Int32)), (.ref a1)]) s₁ EF := fun t k => pre3 t (by
      refine XS.astoreN X2.here hx rfl (hb hby dKb2_3) rfl rfl (l' := #[rv a1, iv (0 : Int32), iv (2 : Int32), rv b2, .unset, .unset]) rfl ?_
      refine XS.aloadN X2.here hx rfl (hb hby dKb2_4) rfl rfl ?_
      refine XS.iloadN X2.here hx rfl (hb hby dKb2_5) rfl ?_
      refine XS.aloadN X2.here hx rfl (hb hby dKb2_6) rfl rfl ?_
      refine XS.iconst X2.here hx rfl (hb hby dKb2_7) ?_
      refine XS.iloadN X2.here hx rfl (hb hby dKb2_8) rfl ?_
      exact k)
  obtain ⟨_, _, ⟨T6, L6, k6, n6⟩, -, X6, ⟨Lc6, hQ6, l6, y6, z6⟩, st6⟩ := Jvm.LawKit.callS X2 hx (y := mN11) hown (mvT hZ (hw _ (mW 48 rfl))) (mvT hZ (hw _ (mW 49 rfl))) (mvT hZ (hw _ (mW 46 rfl))) (mvT hZ (hw _ (mW 50 rfl))) (by decide) (backOf (W := 0) (rmKa2 l Z a0 hw [] a1 b2 cz fv k1 k2 c0 c1 h2 n0 Z4 O4 J0 (V1.ext Et2) V2 ne_a1_b2 g_b2) hZ (hw _ (mW 50 rfl)) (hw _ (mW 46 rfl)) (by decide) (by decide)) (g := (mkF m 9 #[rv a1, iv (0 : Int32), iv (2 : Int32), rv b2, .unset, .unset] [(.int (2 : Int32)), (.int (0 : Int32)), (.ref b2), (.int (0 : Int32)), (.ref a1)])) rfl (by rw [hml]; rfl) (argsL := [(.ref a1), (.int (0 : Int32)), (.ref b2), (.int (0 : Int32)), (.int (2 : Int32))]) (rest := []) (lenOf pdKb2_0 rfl) rfl (Nat.le_of_eq rfl) (hb hby dKb2_9) (fun _ _ => ⟨rfl, e2, wl rfl, wl rfl⟩)
  dsimp only [Pt.U, Pt.locs, Pt.cells, Pt.slots] at X6 l6 y6 z6 st6 hQ6
  subst l6 y6 z6
  rcases hQ6 with ⟨rfl, N6q, K6, LE6, VL6⟩ | ⟨iB, cB, rfl, N6q, K6, hi06, hni6, hci6, hgt6⟩
  · have N6 := Fr.app N0 N6q
    have pre7 : Go p e below T6 (mkF m 12 #[rv a1, iv (0 : Int32), iv (2 : Int32), rv b2, .unset, .unset] [(.int (2 : Int32))]) s₁ EF := fun t k => pre5 t (st6 t k)
    have O8 : Old Z n0 T6.heap := O4.keep K6 (allS g_b2 all0)
    have Z8 : n0 ≤ T6.heap.size := Nat.le_trans Z4 K6.1
    have K8 : Keep h0 T6.heap [] := K4.trans K6 (allS (Or.inr sz_b2) all0)
    have pre9 : Go p e below T6 (mkF m 17 #[rv a1, iv (0 : Int32), iv (2 : Int32), rv b2, iv (2 : Int32), .unset] [(.int (2 : Int32)), (.int (2 : Int32))]) s₁ EF := fun t k => pre7 t (by
        refine XS.istore X6.here hx rfl (hb hby dKb2_12) rfl (l' := #[rv a1, iv (0 : Int32), iv (2 : Int32), rv b2, iv (2 : Int32), .unset]) rfl ?_
        refine XS.iload X6.here hx rfl (hb hby dKb2_14) rfl ?_
        refine XS.iloadN X6.here hx rfl (hb hby dKb2_16) rfl ?_
        exact k)
    have pre10 : Go p e below T6 (mkF m 57 #[rv a1, iv (0 : Int32), iv (2 : Int32), rv b2, iv (2 : Int32), .unset] []) s₁ EF := fun t k => pre9 t (XS.icmpYes X6.here hx rfl (pc0 := 17) (pc' := 57) rfl (hb hby dKb2_17) rfl (teq (by decide : (2 : Int32) = (2 : Int32))).1 (by decide) (by decide) k)
    have pre11 : Go p e below T6 (mkF m 58 #[rv a1, iv (0 : Int32), iv (2 : Int32), rv b2, iv (2 : Int32), .unset] [(.ref b2)]) s₁ EF := fun t k => pre10 t (by
        refine XS.aloadN X6.here hx rfl (hb hby dKb2_57) rfl rfl ?_
        exact k)
    obtain ⟨fs, hr, hrun, hended, hW, hsame⟩ := X6.leave (v := some (.ref b2)) (fun h => by rw [Bd.returns] at h; cases h)
    refine ⟨_, _, hEF ▸ pre11 _ (retOut X6 hx Bd.returns rfl (Or.inr (Or.inr (Or.inr (Or.inr ⟨rfl, rfl, rfl⟩)))) (hb hby dKb2_58) hr), hrun, hended, _, _, rfl, ?_, ⟨_, rfl⟩, hW, hsame.mono (by decide) (by decide)⟩
    show QKb2 Z a1 cz fv k1 c0 c1 h0 n0 _ T6.heap _
    exact Or.inl ⟨_, _, rfl, N6, K8, sz_b2, LE6, VL6⟩
  have N6 := Fr.app N0 N6q
  have pre12 : Go p e below T6 (mkF m 12 #[rv a1, iv (0 : Int32), iv (2 : Int32), rv b2, .unset, .unset] [(.int iB)]) s₁ EF := fun t k => pre5 t (st6 t k)
  have O13 : Old Z n0 T6.heap := O4.keep K6 (allS g_b2 all0)
  have Z13 : n0 ≤ T6.heap.size := Nat.le_trans Z4 K6.1
  have K13 : Keep h0 T6.heap [] := K4.trans K6 (allS (Or.inr sz_b2) all0)
  have pre14 : Go p e below T6 (mkF m 17 #[rv a1, iv (0 : Int32), iv (2 : Int32), rv b2, iv iB, .unset] [(.int (2 : Int32)), (.int iB)]) s₁ EF := fun t k => pre12 t (by
      refine XS.istore X6.here hx rfl (hb hby dKb2_12) rfl (l' := #[rv a1, iv (0 : Int32), iv (2 : Int32), rv b2, iv iB, .unset]) rfl ?_
      refine XS.iload X6.here hx rfl (hb hby dKb2_14) rfl ?_
      refine XS.iloadN X6.here hx rfl (hb hby dKb2_16) rfl ?_
      exact k)
  have pre15 : Go p e below T6 (mkF m 20 #[rv a1, iv (0 : Int32), iv (2 : Int32), rv b2, iv iB, .unset] []) s₁ EF := fun t k => pre14 t (XS.icmpNo X6.here hx rfl (hb hby dKb2_17) rfl (feq hni6).1 k)
  have pre16 : Go p e below T6 (mkF m 23 #[rv a1, iv (0 : Int32), iv (2 : Int32), rv b2, iv iB, .unset] [(.int (2 : Int32)), (.int (0 : Int32)), (.ref a1)]) s₁ EF := fun t k => pre15 t (by
      refine XS.aloadN X6.here hx rfl (hb hby dKb2_20) rfl rfl ?_
      refine XS.iloadN X6.here hx rfl (hb hby dKb2_21) rfl ?_
      refine XS.iloadN X6.here hx rfl (hb hby dKb2_22) rfl ?_
      exact k)
  obtain ⟨_, _, ⟨T17, L17, k17, n17⟩, -, X17, ⟨Lc17, hQ17, l17, y17, z17⟩, st17⟩ := Jvm.LawKit.callS X6 hx (y := mN15) hown (mvT hZ (hw _ (mW 79 rfl))) (mvT hZ (hw _ (mW 80 rfl))) (mvT hZ (hw _ (mW 46 rfl))) (mvT hZ (hw _ (mW 81 rfl))) (by decide) (backOf (W := 0) (rmKt2 l Z a0 hw [] a1 cz fv k1 c0 c1 T6.heap n0 Z13 O13 J0 ((V1.ext Et2).keep K6 (ninS ne_a1_b2 nin0))) hZ (hw _ (mW 81 rfl)) (hw _ (mW 46 rfl)) (by decide) (by decide)) (g := (mkF m 23 #[rv a1, iv (0 : Int32), iv (2 : Int32), rv b2, iv iB, .unset] [(.int (2 : Int32)), (.int (0 : Int32)), (.ref a1)])) rfl (by rw [hml]; rfl) (argsL := [(.ref a1), (.int (0 : Int32)), (.int (2 : Int32))]) (rest := []) (lenOf pdKb2_1 rfl) rfl (Nat.le_of_eq rfl) (hb hby dKb2_23) (fun _ _ => ⟨rfl, rfl, wl rfl, wl rfl⟩)
  dsimp only [Pt.U, Pt.locs, Pt.cells, Pt.slots] at X17 l17 y17 z17 st17 hQ17
  subst l17 y17 z17
  obtain ⟨bw, kb17, rfl, N17q, K17, hsz17, VB17⟩ := hQ17
  have N17 := Fr.app N6 N17q
  have pre18 : Go p e below T17 (mkF m 26 #[rv a1, iv (0 : Int32), iv (2 : Int32), rv b2, iv iB, .unset] [(.ref bw)]) s₁ EF := fun t k => pre16 t (st17 t k)
  have O19 : Old Z n0 T17.heap := O13.keep K17 all0
  have Z19 : n0 ≤ T17.heap.size := Nat.le_trans Z13 K17.1
  have K19 : Keep h0 T17.heap [] := K13.trans K17 all0
  have g_bw : n0 ≤ bw := Nat.le_trans Z13 hsz17
  have sz_bw : h0.size ≤ bw := Nat.le_trans K13.1 hsz17
  have ne_a1_bw : a1 ≠ bw := Nat.ne_of_lt (Nat.lt_of_lt_of_le ((V1.ext Et2).keep K6 (ninS ne_a1_b2 nin0)).lt hsz17)
  have pre20 : Go p e below T17 (mkF m 32 #[rv a1, iv (0 : Int32), iv (2 : Int32), rv b2, iv iB, rv bw] [(.int iB), (.ref bw)]) s₁ EF := fun t k => pre18 t (by
      refine XS.astore X17.here hx rfl (hb hby dKb2_26) rfl rfl (l' := #[rv a1, iv (0 : Int32), iv (2 : Int32), rv b2, iv iB, rv bw]) rfl ?_
      refine XS.aload X17.here hx rfl (hb hby dKb2_28) rfl rfl ?_
      refine XS.iload X17.here hx rfl (hb hby dKb2_30) rfl ?_
      exact k)
  have hrB := hrg cB (List.mem_of_getElem? hci6)
  have hgB := own_gx (cs := [c0, c1]) (z := (4 : Int32)) hi06 hci6 (by rfl) (Nat.le_of_ble_eq_true rfl)
  obtain ⟨_, _, ⟨T21, L21, k21, n21⟩, -, X21, ⟨Lc21, hQ21, l21, y21, z21⟩, st21⟩ := Jvm.LawKit.callS X17 hx (y := mN8) hown (mvT hZ (hw _ (mW 95 rfl))) (mvT hZ (hw _ (mW 96 rfl))) (mvT hZ (hw _ (mW 46 rfl))) (mvT hZ (hw _ (mW 97 rfl))) (by decide) (backOf (W := 0) (rmJgc l Z a0 hw [] bw iB cz fv kb17 (4 : Int32) _ cB cB T17.heap n0 Z19 O19 J0 VB17 hgB.1 hgB.2.1 hgB.2.2.1 hgB.2.2.2 hrB.1 hrB.2 rfl) hZ (hw _ (mW 97 rfl)) (hw _ (mW 46 rfl)) (by decide) (by decide)) (g := (mkF m 32 #[rv a1, iv (0 : Int32), iv (2 : Int32), rv b2, iv iB, rv bw] [(.int iB), (.ref bw)])) rfl (by rw [hml]; rfl) (argsL := [(.ref bw), (.int iB)]) (rest := []) (lenOf pdKb2_2 rfl) rfl (Nat.le_of_eq rfl) (hb hby dKb2_32) (fun _ _ => ⟨rfl, rfl, wl rfl, wl rfl⟩)
  dsimp only [Pt.U, Pt.locs, Pt.cells, Pt.slots] at X21 l21 y21 z21 st21 hQ21
  subst l21 y21 z21
  obtain ⟨rfl, N21q, hq21⟩ := hQ21
  have N21 := Fr.app N17 N21q
  have pre22 : Go p e below T21 (mkF m 35 #[rv a1, iv (0 : Int32), iv (2 : Int32), rv b2, iv iB, rv bw] [(.int cB)]) s₁ EF := fun t k => pre20 t (st21 t k)
  have e21 : T21.heap = T17.heap := hq21
  have pre23 : Go p e below T21 (mkF m 38 #[rv a1, iv (0 : Int32), iv (2 : Int32), rv b2, iv iB, rv bw] [(.int (255 : Int32)), (.int cB)]) s₁ EF := fun t k => pre22 t (by
      refine XS.sipush X21.here hx rfl (hb hby dKb2_35) ?_
      exact k)
  have pre24 : Go p e below T21 (mkF m 54 #[rv a1, iv (0 : Int32), iv (2 : Int32), rv b2, iv iB, rv bw] []) s₁ EF := fun t k => pre23 t (XS.icmpYes X21.here hx rfl (pc0 := 38) (pc' := 54) rfl (hb hby dKb2_38) rfl (tlt hgt6).2.2.1 (by decide) (by decide) k)
  have pre25 : Go p e below T21 (mkF m 56 #[rv a1, iv (0 : Int32), iv (2 : Int32), rv b2, iv iB, rv bw] [(.ref bw)]) s₁ EF := fun t k => pre24 t (by
      refine XS.aload X21.here hx rfl (hb hby dKb2_54) rfl rfl ?_
      exact k)
  obtain ⟨fs, hr, hrun, hended, hW, hsame⟩ := X21.leave (v := some (.ref bw)) (fun h => by rw [Bd.returns] at h; cases h)
  refine ⟨_, _, hEF ▸ pre25 _ (retOut X21 hx Bd.returns rfl (Or.inr (Or.inr (Or.inr (Or.inr ⟨rfl, rfl, rfl⟩)))) (hb hby dKb2_56) hr), hrun, hended, _, _, rfl, ?_, ⟨_, rfl⟩, hW, hsame.mono (by decide) (by decide)⟩
  show QKb2 Z a1 cz fv k1 c0 c1 h0 n0 _ T21.heap _
  rw [e21]
  exact Or.inr ⟨_, _, rfl, N21, K19, sz_bw, VB17⟩
abbrev rKKc2_0 : Room := { frames := 0, cells := 0, slots := 0, locals := 0 }
theorem dKc2_0_0 : decode jdk_52_method_15_code 0 = .ok (.iload_n 1, 1) := by decide +kernel
theorem dKc2_0_1 : decode jdk_52_method_15_code 1 = .ok (.aload_n 0, 1) := by decide +kernel
theorem dKc2_0_2 : decode jdk_52_method_15_code 2 = .ok (.arraylength, 1) := by decide +kernel
theorem dKc2_0_3 : decode jdk_52_method_15_code 3 = .ok (.isub, 1) := by decide +kernel
theorem dKc2_0_4 : decode jdk_52_method_15_code 4 = .ok (.bipush 31, 2) := by decide +kernel
theorem dKc2_0_6 : decode jdk_52_method_15_code 6 = .ok (.iushr, 1) := by decide +kernel
theorem dKc2_0_7 : decode jdk_52_method_15_code 7 = .ok (.i2b, 1) := by decide +kernel
theorem dKc2_0_8 : decode jdk_52_method_15_code 8 = .ok (.ireturn, 1) := by decide +kernel
theorem pnKc2_0 : plainName "java/lang/StringUTF16" = true := by first | (simp [plainName, overriddenIn]; done) | decide +kernel
theorem efKc2_0 (m : MethodId) (a1 : Addr) : entryFrame m #[(.ref a1), (.int (2 : Int32))] 2 = mkF m 0 #[rv a1, iv (2 : Int32)] [] := by first | (simp [entryFrame, mkF, argsToLocals, Value.category]; done) | rfl
def QKc2_0 (Z : State) (a1 : Addr) (cz : Int32) (fv : Value) (k : ClassId) (vs : List Value) (h0 : Heap) (n0 : Nat) (v : Option Value) (h : Heap) (L : List Loc) : Prop := v = some (.int (0 : Int32)) ∧ Fr n0 L ∧ h = h0
set_option maxRecDepth 65536 in
set_option maxHeartbeats 40000000 in
theorem rmKc2_0 (l : Launch) (Z : State) (a0 : Array Value) (hw : ∀ d ∈ tables_1, d.before a0 Z = true) (ws : List Jvm.Cond) (a1 : Addr) (cz : Int32) (fv : Value) (k : ClassId) (vs : List Value) (h0 : Heap) (n0 : Nat) (Z0 : n0 ≤ h0.size) (O0 : Old Z n0 h0) (J0 : Jd Z cz fv) (VV : Arv Z h0 a1 k .byte (2 : Int32) vs (.int 0)) :
    MetFree l mN17 (head1 (Jvm.Cond.code mN17 jdk_52_method_15_code 2 (some .byte) :: ws) rKKc2_0) (fun a U => a = #[(.ref a1), (.int (2 : Int32))] ∧ Z.Warmed39 U.vm ∧ U.heap = h0) (fun _ _ _ _ _ => True) (fun _ U o U' => ∃ v L, o = .returned v ∧ QKc2_0 Z a1 cz fv k vs h0 n0 v U'.heap L ∧ FrameEnd U o U' L rKKc2_0.cells rKKc2_0.slots) := by
  refine MetFree.of_bodySF (plainFor_of_name pnKc2_0) hisR ?_
  intro p e s m args below meth c s₁ Bd hml0 hP hK
  obtain ⟨rfl, hZ, hh⟩ := hP
  have hx := Bd.exec
  have hby := Bd.bytes
  have hml : c.maxLocals = 2 := hml0
  have hown : s.vm.findClass "java/lang/StringUTF16" = some m.cls := findClass_of_methodNamed Bd.named
  have hnm := (name_of_methodNamed Bd.named Bd.method).1
  have X0 : Stand p l e rKKc2_0 s m #[(.ref a1), (.int (2 : Int32))] below meth c s₁ [] 0 0 := Stand.of_body Bd
  have e0 : s₁.heap = h0 := by rw [← hh, Bd.state]; rfl
  have N0 := Fr.nil n0
  obtain ⟨EF, hEF⟩ : ∃ f, f = entryFrame m #[(.ref a1), (.int (2 : Int32))] 2 := ⟨_, rfl⟩
  have pre0 : Go p e below s₁ (mkF m 0 #[rv a1, iv (2 : Int32)] []) s₁ EF := fun t k => by rw [hEF]; exact castTop (efKc2_0 m a1) k
  have pre1 : Go p e below s₁ (mkF m 2 #[rv a1, iv (2 : Int32)] [(.ref a1), (.int (2 : Int32))]) s₁ EF := fun t k => pre0 t (by
      refine XS.iloadN X0.here hx rfl (hb hby dKc2_0_0) rfl ?_
      refine XS.aloadN X0.here hx rfl (hb hby dKc2_0_1) rfl rfl ?_
      exact k)
  obtain ⟨cl2, Ar2, q2, Sz2, M2, H2, G2⟩ := id VV
  have pre3 : Go p e below s₁ (mkF m 8 #[rv a1, iv (2 : Int32)] [(.int (0 : Int32))]) s₁ EF := fun t k => pre1 t (by
      refine X0.arraylength hx (by rw [e0]; exact Ar2.1) (State.isArrayOf_alike hZ.alike Ar2.2.1) (g := (mkF m 2 #[rv a1, iv (2 : Int32)] [(.ref a1), (.int (2 : Int32))])) rfl rfl (hb hby dKc2_0_2) _ ?_
      rw [len_of Sz2 M2]
      refine XS.isub X0.here hx rfl (hb hby dKc2_0_3) rfl ?_
      refine XS.bipush X0.here hx rfl (hb hby dKc2_0_4) ?_
      refine XS.iushr X0.here hx rfl (hb hby dKc2_0_6) rfl ?_
      refine XS.i2b X0.here hx rfl (hb hby dKc2_0_7) rfl ?_
      exact k)
  have hnr : Value.int (nar .byte (0 : Int32)) = (.int (0 : Int32)) := by rfl
  obtain ⟨fs, hr, hrun, hended, hW, hsame⟩ := X0.leave (v := some (.int (0 : Int32))) (fun h => by rw [Bd.returns] at h; cases h)
  refine ⟨_, _, hEF ▸ pre3 _ (retN X0 hx (t := .byte) Bd.returns (by simp) (hb hby dKc2_0_8) (hnr ▸ hr)), hrun, hended, _, _, rfl, ?_, ⟨_, rfl⟩, hW, hsame.mono (by decide) (by decide)⟩
  show QKc2_0 Z a1 cz fv k vs h0 n0 _ s₁.heap _
  rw [e0]
  exact ⟨rfl, N0, rfl⟩
abbrev rKKc2_1 : Room := { frames := 0, cells := 0, slots := 0, locals := 0 }
theorem dKc2_1_0 : decode jdk_52_method_15_code 0 = .ok (.iload_n 1, 1) := by decide +kernel
theorem dKc2_1_1 : decode jdk_52_method_15_code 1 = .ok (.aload_n 0, 1) := by decide +kernel
theorem dKc2_1_2 : decode jdk_52_method_15_code 2 = .ok (.arraylength, 1) := by decide +kernel
theorem dKc2_1_3 : decode jdk_52_method_15_code 3 = .ok (.isub, 1) := by decide +kernel
theorem dKc2_1_4 : decode jdk_52_method_15_code 4 = .ok (.bipush 31, 2) := by decide +kernel
theorem dKc2_1_6 : decode jdk_52_method_15_code 6 = .ok (.iushr, 1) := by decide +kernel
theorem dKc2_1_7 : decode jdk_52_method_15_code 7 = .ok (.i2b, 1) := by decide +kernel
theorem dKc2_1_8 : decode jdk_52_method_15_code 8 = .ok (.ireturn, 1) := by decide +kernel
theorem pnKc2_1 : plainName "java/lang/StringUTF16" = true := by first | (simp [plainName, overriddenIn]; done) | decide +kernel
theorem efKc2_1 (m : MethodId) (a1 : Addr) : entryFrame m #[(.ref a1), (.int (2 : Int32))] 2 = mkF m 0 #[rv a1, iv (2 : Int32)] [] := by first | (simp [entryFrame, mkF, argsToLocals, Value.category]; done) | rfl
def QKc2_1 (Z : State) (a1 : Addr) (cz : Int32) (fv : Value) (k : ClassId) (vs : List Value) (h0 : Heap) (n0 : Nat) (v : Option Value) (h : Heap) (L : List Loc) : Prop := v = some (.int (1 : Int32)) ∧ Fr n0 L ∧ h = h0
set_option maxRecDepth 65536 in
set_option maxHeartbeats 40000000 in
theorem rmKc2_1 (l : Launch) (Z : State) (a0 : Array Value) (hw : ∀ d ∈ tables_1, d.before a0 Z = true) (ws : List Jvm.Cond) (a1 : Addr) (cz : Int32) (fv : Value) (k : ClassId) (vs : List Value) (h0 : Heap) (n0 : Nat) (Z0 : n0 ≤ h0.size) (O0 : Old Z n0 h0) (J0 : Jd Z cz fv) (VV : Arv Z h0 a1 k .byte (4 : Int32) vs (.int 0)) :
    MetFree l mN17 (head1 (Jvm.Cond.code mN17 jdk_52_method_15_code 2 (some .byte) :: ws) rKKc2_1) (fun a U => a = #[(.ref a1), (.int (2 : Int32))] ∧ Z.Warmed39 U.vm ∧ U.heap = h0) (fun _ _ _ _ _ => True) (fun _ U o U' => ∃ v L, o = .returned v ∧ QKc2_1 Z a1 cz fv k vs h0 n0 v U'.heap L ∧ FrameEnd U o U' L rKKc2_1.cells rKKc2_1.slots) := by
  refine MetFree.of_bodySF (plainFor_of_name pnKc2_1) hisR ?_
  intro p e s m args below meth c s₁ Bd hml0 hP hK
  obtain ⟨rfl, hZ, hh⟩ := hP
  have hx := Bd.exec
  have hby := Bd.bytes
  have hml : c.maxLocals = 2 := hml0
  have hown : s.vm.findClass "java/lang/StringUTF16" = some m.cls := findClass_of_methodNamed Bd.named
  have hnm := (name_of_methodNamed Bd.named Bd.method).1
  have X0 : Stand p l e rKKc2_1 s m #[(.ref a1), (.int (2 : Int32))] below meth c s₁ [] 0 0 := Stand.of_body Bd
  have e0 : s₁.heap = h0 := by rw [← hh, Bd.state]; rfl
  have N0 := Fr.nil n0
  obtain ⟨EF, hEF⟩ : ∃ f, f = entryFrame m #[(.ref a1), (.int (2 : Int32))] 2 := ⟨_, rfl⟩
  have pre0 : Go p e below s₁ (mkF m 0 #[rv a1, iv (2 : Int32)] []) s₁ EF := fun t k => by rw [hEF]; exact castTop (efKc2_1 m a1) k
  have pre1 : Go p e below s₁ (mkF m 2 #[rv a1, iv (2 : Int32)] [(.ref a1), (.int (2 : Int32))]) s₁ EF := fun t k => pre0 t (by
      refine XS.iloadN X0.here hx rfl (hb hby dKc2_1_0) rfl ?_
      refine XS.aloadN X0.here hx rfl (hb hby dKc2_1_1) rfl rfl ?_
      exact k)
  obtain ⟨cl2, Ar2, q2, Sz2, M2, H2, G2⟩ := id VV
  have pre3 : Go p e below s₁ (mkF m 8 #[rv a1, iv (2 : Int32)] [(.int (1 : Int32))]) s₁ EF := fun t k => pre1 t (by
      refine X0.arraylength hx (by rw [e0]; exact Ar2.1) (State.isArrayOf_alike hZ.alike Ar2.2.1) (g := (mkF m 2 #[rv a1, iv (2 : Int32)] [(.ref a1), (.int (2 : Int32))])) rfl rfl (hb hby dKc2_1_2) _ ?_
      rw [len_of Sz2 M2]
      refine XS.isub X0.here hx rfl (hb hby dKc2_1_3) rfl ?_
      refine XS.bipush X0.here hx rfl (hb hby dKc2_1_4) ?_
      refine XS.iushr X0.here hx rfl (hb hby dKc2_1_6) rfl ?_
      refine XS.i2b X0.here hx rfl (hb hby dKc2_1_7) rfl ?_
      exact k)
  have hnr : Value.int (nar .byte (1 : Int32)) = (.int (1 : Int32)) := by rfl
  obtain ⟨fs, hr, hrun, hended, hW, hsame⟩ := X0.leave (v := some (.int (1 : Int32))) (fun h => by rw [Bd.returns] at h; cases h)
  refine ⟨_, _, hEF ▸ pre3 _ (retN X0 hx (t := .byte) Bd.returns (by simp) (hb hby dKc2_1_8) (hnr ▸ hr)), hrun, hended, _, _, rfl, ?_, ⟨_, rfl⟩, hW, hsame.mono (by decide) (by decide)⟩
  show QKc2_1 Z a1 cz fv k vs h0 n0 _ s₁.heap _
  rw [e0]
  exact ⟨rfl, N0, rfl⟩
abbrev rKKi2 : Room := { frames := 4, cells := 2, slots := 6, locals := 57 }
theorem dKi2_0 : decode jdk_42_method_149_code 0 = .ok (.aload_n 0, 1) := by decide +kernel
theorem dKi2_1 : decode jdk_42_method_149_code 1 = .ok (.invokespecial 1, 3) := by decide +kernel
theorem dKi2_4 : decode jdk_42_method_149_code 4 = .ok (.iload_n 3, 1) := by decide +kernel
theorem dKi2_5 : decode jdk_42_method_149_code 5 = .ok (.ifCond .ne 22, 3) := by decide +kernel
theorem dKi2_27 : decode jdk_42_method_149_code 27 = .ok (.getstatic 38, 3) := by decide +kernel
theorem dKi2_30 : decode jdk_42_method_149_code 30 = .ok (.ifCond .eq 28, 3) := by decide +kernel
theorem dKi2_33 : decode jdk_42_method_149_code 33 = .ok (.aload_n 1, 1) := by decide +kernel
theorem dKi2_34 : decode jdk_42_method_149_code 34 = .ok (.iload_n 2, 1) := by decide +kernel
theorem dKi2_35 : decode jdk_42_method_149_code 35 = .ok (.iload_n 3, 1) := by decide +kernel
theorem dKi2_36 : decode jdk_42_method_149_code 36 = .ok (.invokestatic 177, 3) := by decide +kernel
theorem dKi2_39 : decode jdk_42_method_149_code 39 = .ok (.astore 5, 2) := by decide +kernel
theorem dKi2_41 : decode jdk_42_method_149_code 41 = .ok (.aload_n 0, 1) := by decide +kernel
theorem dKi2_42 : decode jdk_42_method_149_code 42 = .ok (.aload 5, 2) := by decide +kernel
theorem dKi2_44 : decode jdk_42_method_149_code 44 = .ok (.iload_n 3, 1) := by decide +kernel
theorem dKi2_45 : decode jdk_42_method_149_code 45 = .ok (.invokestatic 47, 3) := by decide +kernel
theorem dKi2_48 : decode jdk_42_method_149_code 48 = .ok (.putfield 15, 3) := by decide +kernel
theorem dKi2_51 : decode jdk_42_method_149_code 51 = .ok (.aload_n 0, 1) := by decide +kernel
theorem dKi2_52 : decode jdk_42_method_149_code 52 = .ok (.aload 5, 2) := by decide +kernel
theorem dKi2_54 : decode jdk_42_method_149_code 54 = .ok (.putfield 9, 3) := by decide +kernel
theorem dKi2_57 : decode jdk_42_method_149_code 57 = .ok (.return_, 1) := by decide +kernel
theorem pnKi2 : plainName "java/lang/String" = true := by first | (simp [plainName, overriddenIn]; done) | decide +kernel
theorem pdKi2_0 : parseMethodDescriptor "([CII)[B" = some ⟨[(.array .char), .int, .int], some (.array .byte)⟩ := by decide +kernel
theorem pdKi2_1 : parseMethodDescriptor "([BI)B" = some ⟨[(.array .byte), .int], some .byte⟩ := by decide +kernel
theorem efKi2 (m : MethodId) (a1 : Addr) (a2 : Addr) : entryFrame m #[(.ref a1), (.ref a2), (.int (0 : Int32)), (.int (2 : Int32)), .null] 6 = mkF m 0 #[rv a1, rv a2, iv (0 : Int32), iv (2 : Int32), .val .null, .unset] [] := by first | (simp [entryFrame, mkF, argsToLocals, Value.category]; done) | rfl
def QKi2 (Z : State) (a1 : Addr) (a2 : Addr) (cz : Int32) (fv : Value) (k1 : ClassId) (c0 : Int32) (c1 : Int32) (h0 : Heap) (n0 : Nat) (v : Option Value) (h : Heap) (L : List Loc) : Prop := v = none ∧ Fr n0 L ∧ Keep h0 h [a1] ∧ Str Z h a1 [c0, c1]
set_option maxRecDepth 65536 in
set_option maxHeartbeats 40000000 in
theorem rmKi2 (l : Launch) (Z : State) (a0 : Array Value) (hw : ∀ d ∈ tables_1, d.before a0 Z = true) (ws : List Jvm.Cond) (a1 : Addr) (a2 : Addr) (cz : Int32) (fv : Value) (k1 : ClassId) (c0 : Int32) (c1 : Int32) (h0 : Heap) (n0 : Nat) (Z0 : n0 ≤ h0.size) (O0 : Old Z n0 h0) (J0 : Jd Z cz fv) (E1 : Exa Z h0 a1 "java/lang/String") (g_a1 : n0 ≤ a1) (F1 : Fld Z h0 a1 "java/lang/String" "value" "[B" .null) (F2 : Fld Z h0 a1 "java/lang/String" "coder" "B" (.int (0 : Int32))) (V2 : Arv Z h0 a2 k1 .char (2 : Int32) [(.int c0), (.int c1)] (.int (0 : Int32))) (hrg : ∀ c ∈ [c0, c1], 0 ≤ c.toInt ∧ c.toInt < 65536) :
    MetFree l mN18 (head1 (Jvm.Cond.code mN18 jdk_42_method_149_code 6 none :: ws) rKKi2) (fun a U => a = #[(.ref a1), (.ref a2), (.int (0 : Int32)), (.int (2 : Int32)), .null] ∧ Z.Warmed39 U.vm ∧ U.heap = h0) (fun _ _ _ _ _ => True) (fun _ U o U' => ∃ v L, o = .returned v ∧ QKi2 Z a1 a2 cz fv k1 c0 c1 h0 n0 v U'.heap L ∧ FrameEnd U o U' L rKKi2.cells rKKi2.slots) := by
  refine MetFree.of_bodySF (plainFor_of_name pnKi2) hisR ?_
  intro p e s m args below meth c s₁ Bd hml0 hP hK
  obtain ⟨rfl, hZ, hh⟩ := hP
  have hx := Bd.exec
  have hby := Bd.bytes
  have hml : c.maxLocals = 6 := hml0
  have hown : s.vm.findClass "java/lang/String" = some m.cls := findClass_of_methodNamed Bd.named
  have hnm := (name_of_methodNamed Bd.named Bd.method).1
  have X0 : Stand p l e rKKi2 s m #[(.ref a1), (.ref a2), (.int (0 : Int32)), (.int (2 : Int32)), .null] below meth c s₁ [] 0 0 := Stand.of_body Bd
  have e0 : s₁.heap = h0 := by rw [← hh, Bd.state]; rfl
  have N0 := Fr.nil n0
  obtain ⟨EF, hEF⟩ : ∃ f, f = entryFrame m #[(.ref a1), (.ref a2), (.int (0 : Int32)), (.int (2 : Int32)), .null] 6 := ⟨_, rfl⟩
  have pre0 : Go p e below s₁ (mkF m 0 #[rv a1, rv a2, iv (0 : Int32), iv (2 : Int32), .val .null, .unset] []) s₁ EF := fun t k => by rw [hEF]; exact castTop (efKi2 m a1 a2) k
  have pre1 : Go p e below s₁ (mkF m 1 #[rv a1, rv a2, iv (0 : Int32), iv (2 : Int32), .val .null, .unset] [(.ref a1)]) s₁ EF := fun t k => pre0 t (by
      refine XS.aloadN X0.here hx rfl (hb hby dKi2_0) rfl rfl ?_
      exact k)
  obtain ⟨T2, X2, e2, st2⟩ := initO X0 hx hZ hown (hw _ (mW 18 rfl)) (hw _ (mW 19 rfl)) (hw _ (mW 20 rfl)) e0 (g := (mkF m 1 #[rv a1, rv a2, iv (0 : Int32), iv (2 : Int32), .val .null, .unset] [(.ref a1)])) rfl (by rw [hml]; rfl) rfl (hb hby dKi2_1) (by decide) (W := 0) (Nat.le_of_eq rfl) (by decide)
  have pre3 : Go p e below T2 (mkF m 4 #[rv a1, rv a2, iv (0 : Int32), iv (2 : Int32), .val .null, .unset] []) s₁ EF := fun t k => pre1 t (st2 t k)
  have pre4 : Go p e below T2 (mkF m 5 #[rv a1, rv a2, iv (0 : Int32), iv (2 : Int32), .val .null, .unset] [(.int (2 : Int32))]) s₁ EF := fun t k => pre3 t (by
      refine XS.iloadN X2.here hx rfl (hb hby dKi2_4) rfl ?_
      exact k)
  have pre5 : Go p e below T2 (mkF m 27 #[rv a1, rv a2, iv (0 : Int32), iv (2 : Int32), .val .null, .unset] []) s₁ EF := fun t k => pre4 t (XS.ifYes X2.here hx rfl (pc0 := 5) (pc' := 27) rfl (hb hby dKi2_5) rfl ((if0 _ _).trans (feq (by decide : ¬ ((2 : Int32) = (0 : Int32)))).2) (by decide) (by decide) k)
  obtain ⟨T6, X6, e6, st6⟩ := getS2 X2 hx hZ hown (host := "") (Or.inl (hw _ (mW 43 rfl))) Via.refl e2 (J0.1.ext O0.2) (g := (mkF m 27 #[rv a1, rv a2, iv (0 : Int32), iv (2 : Int32), .val .null, .unset] [])) rfl (hb hby dKi2_27)
  have pre7 : Go p e below T6 (mkF m 30 #[rv a1, rv a2, iv (0 : Int32), iv (2 : Int32), .val .null, .unset] [(.int cz)]) s₁ EF := fun t k => pre5 t (st6 t k)
  have pre8 : Go p e below T6 (mkF m 33 #[rv a1, rv a2, iv (0 : Int32), iv (2 : Int32), .val .null, .unset] []) s₁ EF := fun t k => pre7 t (XS.ifNo X6.here hx rfl (hb hby dKi2_30) rfl ((if0 _ _).trans (feq J0.2.1).1) k)
  have pre9 : Go p e below T6 (mkF m 36 #[rv a1, rv a2, iv (0 : Int32), iv (2 : Int32), .val .null, .unset] [(.int (2 : Int32)), (.int (0 : Int32)), (.ref a2)]) s₁ EF := fun t k => pre8 t (by
      refine XS.aloadN X6.here hx rfl (hb hby dKi2_33) rfl rfl ?_
      refine XS.iloadN X6.here hx rfl (hb hby dKi2_34) rfl ?_
      refine XS.iloadN X6.here hx rfl (hb hby dKi2_35) rfl ?_
      exact k)
  obtain ⟨_, _, ⟨T10, L10, k10, n10⟩, -, X10, ⟨Lc10, hQ10, l10, y10, z10⟩, st10⟩ := Jvm.LawKit.callS X6 hx (y := mN16) hown (mvT hZ (hw _ (mW 44 rfl))) (mvT hZ (hw _ (mW 45 rfl))) (mvT hZ (hw _ (mW 46 rfl))) (mvT hZ (hw _ (mW 47 rfl))) (by decide) (backOf (W := 0) (rmKb2 l Z a0 hw [] a2 cz fv k1 c0 c1 h0 n0 Z0 O0 J0 V2 hrg) hZ (hw _ (mW 47 rfl)) (hw _ (mW 46 rfl)) (by decide) (by decide)) (g := (mkF m 36 #[rv a1, rv a2, iv (0 : Int32), iv (2 : Int32), .val .null, .unset] [(.int (2 : Int32)), (.int (0 : Int32)), (.ref a2)])) rfl (by rw [hml]; rfl) (argsL := [(.ref a2), (.int (0 : Int32)), (.int (2 : Int32))]) (rest := []) (lenOf pdKi2_0 rfl) rfl (Nat.le_of_eq rfl) (hb hby dKi2_36) (fun _ _ => ⟨rfl, e6, wl rfl, wl rfl⟩)
  dsimp only [Pt.U, Pt.locs, Pt.cells, Pt.slots] at X10 l10 y10 z10 st10 hQ10
  subst l10 y10 z10
  rcases hQ10 with ⟨bv, kb10, rfl, N10q, K10, hsz10, LE10, VB10⟩ | ⟨bv, kb10, rfl, N10q, K10, hsz10, VB10⟩
  · have N10 := Fr.app N0 N10q
    have pre11 : Go p e below T10 (mkF m 39 #[rv a1, rv a2, iv (0 : Int32), iv (2 : Int32), .val .null, .unset] [(.ref bv)]) s₁ EF := fun t k => pre9 t (st10 t k)
    have O12 : Old Z n0 T10.heap := O0.keep K10 all0
    have Z12 : n0 ≤ T10.heap.size := Nat.le_trans Z0 K10.1
    have K12 : Keep h0 T10.heap [a1] := (Keep.refl h0 [a1]).trans K10 all0
    have g_bv : n0 ≤ bv := Nat.le_trans Z0 hsz10
    have sz_bv : h0.size ≤ bv := Nat.le_trans (Keep.refl h0 [a1]).1 hsz10
    have ne_a1_bv : a1 ≠ bv := Nat.ne_of_lt (Nat.lt_of_lt_of_le E1.lt hsz10)
    have pre13 : Go p e below T10 (mkF m 45 #[rv a1, rv a2, iv (0 : Int32), iv (2 : Int32), .val .null, rv bv] [(.int (2 : Int32)), (.ref bv), (.ref a1)]) s₁ EF := fun t k => pre11 t (by
        refine XS.astore X10.here hx rfl (hb hby dKi2_39) rfl rfl (l' := #[rv a1, rv a2, iv (0 : Int32), iv (2 : Int32), .val .null, rv bv]) rfl ?_
        refine XS.aloadN X10.here hx rfl (hb hby dKi2_41) rfl rfl ?_
        refine XS.aload X10.here hx rfl (hb hby dKi2_42) rfl rfl ?_
        refine XS.iloadN X10.here hx rfl (hb hby dKi2_44) rfl ?_
        exact k)
    obtain ⟨_, _, ⟨T14, L14, k14, n14⟩, -, X14, ⟨Lc14, hQ14, l14, y14, z14⟩, st14⟩ := Jvm.LawKit.callS X10 hx (y := mN17) hown (mvT hZ (hw _ (mW 51 rfl))) (mvT hZ (hw _ (mW 52 rfl))) (mvT hZ (hw _ (mW 46 rfl))) (mvT hZ (hw _ (mW 53 rfl))) (by decide) (backOf (W := 1) (rmKc2_0 l Z a0 hw [] bv cz fv kb10 _ T10.heap n0 Z12 O12 J0 VB10) hZ (hw _ (mW 53 rfl)) (hw _ (mW 46 rfl)) (by decide) (by decide)) (g := (mkF m 45 #[rv a1, rv a2, iv (0 : Int32), iv (2 : Int32), .val .null, rv bv] [(.int (2 : Int32)), (.ref bv), (.ref a1)])) rfl (by rw [hml]; rfl) (argsL := [(.ref bv), (.int (2 : Int32))]) (rest := [(.ref a1)]) (lenOf pdKi2_1 rfl) rfl (Nat.le_of_eq rfl) (hb hby dKi2_45) (fun _ _ => ⟨rfl, rfl, wl rfl, wl rfl⟩)
    dsimp only [Pt.U, Pt.locs, Pt.cells, Pt.slots] at X14 l14 y14 z14 st14 hQ14
    subst l14 y14 z14
    obtain ⟨rfl, N14q, hq14⟩ := hQ14
    have N14 := Fr.app N10 N14q
    have pre15 : Go p e below T14 (mkF m 48 #[rv a1, rv a2, iv (0 : Int32), iv (2 : Int32), .val .null, rv bv] [(.int (0 : Int32)), (.ref a1)]) s₁ EF := fun t k => pre13 t (st14 t k)
    have e14 : T14.heap = T10.heap := hq14
    obtain ⟨T16, h16, X16, e16, W16, st16⟩ := putFN X14 hx hZ hown (hw _ (mW 28 rfl)) Via.refl e14 (F2.keep K10 nin0) (E1.keep K10) (Or.inr ⟨(hw _ (mW 24 rfl)), rfl, hnm⟩) (hw _ (mW 9 rfl)) (ty := .byte) (v' := (.int (0 : Int32))) (by decide) rfl rfl (g := (mkF m 48 #[rv a1, rv a2, iv (0 : Int32), iv (2 : Int32), .val .null, rv bv] [(.int (0 : Int32)), (.ref a1)])) rfl rfl (hb hby dKi2_48)
    have pre17 : Go p e below T16 (mkF m 51 #[rv a1, rv a2, iv (0 : Int32), iv (2 : Int32), .val .null, rv bv] []) s₁ EF := fun t k => pre15 t (st16 t k)
    have O18 : Old Z n0 h16 := O12.wr W16 g_a1
    have Z18 : n0 ≤ h16.size := Nat.le_trans Z12 (Keep.of_wr W16).1
    have K18 : Keep h0 h16 [a1] := K12.wr W16 (Or.inl (List.mem_of_getElem? (i := 0) rfl))
    have Fw16 := Fld.same W16 (F2.keep K10 nin0)
    have N16 := Fr.snoc X16 N14 g_a1
    have pre19 : Go p e below T16 (mkF m 54 #[rv a1, rv a2, iv (0 : Int32), iv (2 : Int32), .val .null, rv bv] [(.ref bv), (.ref a1)]) s₁ EF := fun t k => pre17 t (by
        refine XS.aloadN X16.here hx rfl (hb hby dKi2_51) rfl rfl ?_
        refine XS.aload X16.here hx rfl (hb hby dKi2_52) rfl rfl ?_
        exact k)
    obtain ⟨T20, h20, X20, e20, W20, st20⟩ := putF X16 hx hZ hown (host := "") (Or.inl (hw _ (mW 27 rfl))) Via.refl e16 (Fld.other W16 (F1.keep K10 nin0) (Or.inr (slot_ne (Or.inr (hw _ (mW 23 rfl))) (Or.inr (hw _ (mW 24 rfl))) (by decide) (t := (.array .byte)) (t' := .byte) (by decide) (by decide)))) ((E1.keep K10).wr W16) (Or.inr ⟨(hw _ (mW 23 rfl)), rfl, hnm⟩) (hw _ (mW 9 rfl)) (ty := (.array .byte)) (by decide) rfl rfl (g := (mkF m 54 #[rv a1, rv a2, iv (0 : Int32), iv (2 : Int32), .val .null, rv bv] [(.ref bv), (.ref a1)])) rfl rfl (hb hby dKi2_54)
    have pre21 : Go p e below T20 (mkF m 57 #[rv a1, rv a2, iv (0 : Int32), iv (2 : Int32), .val .null, rv bv] []) s₁ EF := fun t k => pre19 t (st20 t k)
    have O22 : Old Z n0 h20 := O18.wr W20 g_a1
    have Z22 : n0 ≤ h20.size := Nat.le_trans Z18 (Keep.of_wr W20).1
    have K22 : Keep h0 h20 [a1] := K18.wr W20 (Or.inl (List.mem_of_getElem? (i := 0) rfl))
    have Fw20 := Fld.same W20 (Fld.other W16 (F1.keep K10 nin0) (Or.inr (slot_ne (Or.inr (hw _ (mW 23 rfl))) (Or.inr (hw _ (mW 24 rfl))) (by decide) (t := (.array .byte)) (t' := .byte) (by decide) (by decide))))
    have N20 := Fr.snoc X20 N16 g_a1
    obtain ⟨fs, hr, hrun, hended, hW, hsame⟩ := X20.leave (v := none) (fun _ => rfl)
    refine ⟨_, _, hEF ▸ pre21 _ (X20.returnOut hx Bd.returns (hb hby dKi2_57) hr), hrun, hended, _, _, rfl, ?_, ⟨_, rfl⟩, hW, hsame.mono (by decide) (by decide)⟩
    show QKi2 Z a1 a2 cz fv k1 c0 c1 h0 n0 _ T20.heap _
    rw [e20]
    exact ⟨rfl, N20, K22, ⟨_, _, _, _, _, (((E1.keep K10).wr W16).wr W20), (Fld.other W20 Fw16 (Or.inr (slot_ne (Or.inr (hw _ (mW 24 rfl))) (Or.inr (hw _ (mW 23 rfl))) (by decide) (t := .byte) (t' := (.array .byte)) (by decide) (by decide)))), Fw20, ((VB10.other W16 (Ne.symm ne_a1_bv)).other W20 (Ne.symm ne_a1_bv)), Nat.le_of_ble_eq_true rfl, Or.inl ⟨rfl, by rfl, rfl, own_le hrg LE10⟩⟩⟩
  have N10 := Fr.app N0 N10q
  have pre23 : Go p e below T10 (mkF m 39 #[rv a1, rv a2, iv (0 : Int32), iv (2 : Int32), .val .null, .unset] [(.ref bv)]) s₁ EF := fun t k => pre9 t (st10 t k)
  have O24 : Old Z n0 T10.heap := O0.keep K10 all0
  have Z24 : n0 ≤ T10.heap.size := Nat.le_trans Z0 K10.1
  have K24 : Keep h0 T10.heap [a1] := (Keep.refl h0 [a1]).trans K10 all0
  have g_bv : n0 ≤ bv := Nat.le_trans Z0 hsz10
  have sz_bv : h0.size ≤ bv := Nat.le_trans (Keep.refl h0 [a1]).1 hsz10
  have ne_a1_bv : a1 ≠ bv := Nat.ne_of_lt (Nat.lt_of_lt_of_le E1.lt hsz10)
  have pre25 : Go p e below T10 (mkF m 45 #[rv a1, rv a2, iv (0 : Int32), iv (2 : Int32), .val .null, rv bv] [(.int (2 : Int32)), (.ref bv), (.ref a1)]) s₁ EF := fun t k => pre23 t (by
      refine XS.astore X10.here hx rfl (hb hby dKi2_39) rfl rfl (l' := #[rv a1, rv a2, iv (0 : Int32), iv (2 : Int32), .val .null, rv bv]) rfl ?_
      refine XS.aloadN X10.here hx rfl (hb hby dKi2_41) rfl rfl ?_
      refine XS.aload X10.here hx rfl (hb hby dKi2_42) rfl rfl ?_
      refine XS.iloadN X10.here hx rfl (hb hby dKi2_44) rfl ?_
      exact k)
  obtain ⟨_, _, ⟨T26, L26, k26, n26⟩, -, X26, ⟨Lc26, hQ26, l26, y26, z26⟩, st26⟩ := Jvm.LawKit.callS X10 hx (y := mN17) hown (mvT hZ (hw _ (mW 51 rfl))) (mvT hZ (hw _ (mW 52 rfl))) (mvT hZ (hw _ (mW 46 rfl))) (mvT hZ (hw _ (mW 53 rfl))) (by decide) (backOf (W := 1) (rmKc2_1 l Z a0 hw [] bv cz fv kb10 _ T10.heap n0 Z24 O24 J0 VB10) hZ (hw _ (mW 53 rfl)) (hw _ (mW 46 rfl)) (by decide) (by decide)) (g := (mkF m 45 #[rv a1, rv a2, iv (0 : Int32), iv (2 : Int32), .val .null, rv bv] [(.int (2 : Int32)), (.ref bv), (.ref a1)])) rfl (by rw [hml]; rfl) (argsL := [(.ref bv), (.int (2 : Int32))]) (rest := [(.ref a1)]) (lenOf pdKi2_1 rfl) rfl (Nat.le_of_eq rfl) (hb hby dKi2_45) (fun _ _ => ⟨rfl, rfl, wl rfl, wl rfl⟩)
  dsimp only [Pt.U, Pt.locs, Pt.cells, Pt.slots] at X26 l26 y26 z26 st26 hQ26
  subst l26 y26 z26
  obtain ⟨rfl, N26q, hq26⟩ := hQ26
  have N26 := Fr.app N10 N26q
  have pre27 : Go p e below T26 (mkF m 48 #[rv a1, rv a2, iv (0 : Int32), iv (2 : Int32), .val .null, rv bv] [(.int (1 : Int32)), (.ref a1)]) s₁ EF := fun t k => pre25 t (st26 t k)
  have e26 : T26.heap = T10.heap := hq26
  obtain ⟨T28, h28, X28, e28, W28, st28⟩ := putFN X26 hx hZ hown (hw _ (mW 28 rfl)) Via.refl e26 (F2.keep K10 nin0) (E1.keep K10) (Or.inr ⟨(hw _ (mW 24 rfl)), rfl, hnm⟩) (hw _ (mW 9 rfl)) (ty := .byte) (v' := (.int (1 : Int32))) (by decide) rfl rfl (g := (mkF m 48 #[rv a1, rv a2, iv (0 : Int32), iv (2 : Int32), .val .null, rv bv] [(.int (1 : Int32)), (.ref a1)])) rfl rfl (hb hby dKi2_48)
  have pre29 : Go p e below T28 (mkF m 51 #[rv a1, rv a2, iv (0 : Int32), iv (2 : Int32), .val .null, rv bv] []) s₁ EF := fun t k => pre27 t (st28 t k)
  have O30 : Old Z n0 h28 := O24.wr W28 g_a1
  have Z30 : n0 ≤ h28.size := Nat.le_trans Z24 (Keep.of_wr W28).1
  have K30 : Keep h0 h28 [a1] := K24.wr W28 (Or.inl (List.mem_of_getElem? (i := 0) rfl))
  have Fw28 := Fld.same W28 (F2.keep K10 nin0)
  have N28 := Fr.snoc X28 N26 g_a1
  have pre31 : Go p e below T28 (mkF m 54 #[rv a1, rv a2, iv (0 : Int32), iv (2 : Int32), .val .null, rv bv] [(.ref bv), (.ref a1)]) s₁ EF := fun t k => pre29 t (by
      refine XS.aloadN X28.here hx rfl (hb hby dKi2_51) rfl rfl ?_
      refine XS.aload X28.here hx rfl (hb hby dKi2_52) rfl rfl ?_
      exact k)
  obtain ⟨T32, h32, X32, e32, W32, st32⟩ := putF X28 hx hZ hown (host := "") (Or.inl (hw _ (mW 27 rfl))) Via.refl e28 (Fld.other W28 (F1.keep K10 nin0) (Or.inr (slot_ne (Or.inr (hw _ (mW 23 rfl))) (Or.inr (hw _ (mW 24 rfl))) (by decide) (t := (.array .byte)) (t' := .byte) (by decide) (by decide)))) ((E1.keep K10).wr W28) (Or.inr ⟨(hw _ (mW 23 rfl)), rfl, hnm⟩) (hw _ (mW 9 rfl)) (ty := (.array .byte)) (by decide) rfl rfl (g := (mkF m 54 #[rv a1, rv a2, iv (0 : Int32), iv (2 : Int32), .val .null, rv bv] [(.ref bv), (.ref a1)])) rfl rfl (hb hby dKi2_54)
  have pre33 : Go p e below T32 (mkF m 57 #[rv a1, rv a2, iv (0 : Int32), iv (2 : Int32), .val .null, rv bv] []) s₁ EF := fun t k => pre31 t (st32 t k)
  have O34 : Old Z n0 h32 := O30.wr W32 g_a1
  have Z34 : n0 ≤ h32.size := Nat.le_trans Z30 (Keep.of_wr W32).1
  have K34 : Keep h0 h32 [a1] := K30.wr W32 (Or.inl (List.mem_of_getElem? (i := 0) rfl))
  have Fw32 := Fld.same W32 (Fld.other W28 (F1.keep K10 nin0) (Or.inr (slot_ne (Or.inr (hw _ (mW 23 rfl))) (Or.inr (hw _ (mW 24 rfl))) (by decide) (t := (.array .byte)) (t' := .byte) (by decide) (by decide))))
  have N32 := Fr.snoc X32 N28 g_a1
  obtain ⟨fs, hr, hrun, hended, hW, hsame⟩ := X32.leave (v := none) (fun _ => rfl)
  refine ⟨_, _, hEF ▸ pre33 _ (X32.returnOut hx Bd.returns (hb hby dKi2_57) hr), hrun, hended, _, _, rfl, ?_, ⟨_, rfl⟩, hW, hsame.mono (by decide) (by decide)⟩
  show QKi2 Z a1 a2 cz fv k1 c0 c1 h0 n0 _ T32.heap _
  rw [e32]
  exact ⟨rfl, N32, K34, ⟨_, _, _, _, _, (((E1.keep K10).wr W28).wr W32), (Fld.other W32 Fw28 (Or.inr (slot_ne (Or.inr (hw _ (mW 24 rfl))) (Or.inr (hw _ (mW 23 rfl))) (by decide) (t := .byte) (t' := (.array .byte)) (by decide) (by decide)))), Fw32, ((VB10.other W28 (Ne.symm ne_a1_bv)).other W32 (Ne.symm ne_a1_bv)), Nat.le_of_ble_eq_true rfl, Or.inr ⟨rfl, by rfl, rfl, hrg⟩⟩⟩
abbrev rKKj2 : Room := { frames := 5, cells := 2, slots := 6, locals := 74 }
theorem dKj2_0 : decode jdk_42_method_3_code 0 = .ok (.aload_n 0, 1) := by decide +kernel
theorem dKj2_1 : decode jdk_42_method_3_code 1 = .ok (.aload_n 1, 1) := by decide +kernel
theorem dKj2_2 : decode jdk_42_method_3_code 2 = .ok (.iconst 0, 1) := by decide +kernel
theorem dKj2_3 : decode jdk_42_method_3_code 3 = .ok (.aload_n 1, 1) := by decide +kernel
theorem dKj2_4 : decode jdk_42_method_3_code 4 = .ok (.arraylength, 1) := by decide +kernel
theorem dKj2_5 : decode jdk_42_method_3_code 5 = .ok (.aconst_null, 1) := by decide +kernel
theorem dKj2_6 : decode jdk_42_method_3_code 6 = .ok (.invokespecial 27, 3) := by decide +kernel
theorem dKj2_9 : decode jdk_42_method_3_code 9 = .ok (.return_, 1) := by decide +kernel
theorem pnKj2 : plainName "java/lang/String" = true := by first | (simp [plainName, overriddenIn]; done) | decide +kernel
theorem pdKj2_0 : parseMethodDescriptor "([CIILjava/lang/Void;)V" = some ⟨[(.array .char), .int, .int, (.object "java/lang/Void")], none⟩ := by decide +kernel
theorem efKj2 (m : MethodId) (a1 : Addr) (a2 : Addr) : entryFrame m #[(.ref a1), (.ref a2)] 2 = mkF m 0 #[rv a1, rv a2] [] := by first | (simp [entryFrame, mkF, argsToLocals, Value.category]; done) | rfl
def QKj2 (Z : State) (a1 : Addr) (a2 : Addr) (cz : Int32) (fv : Value) (k1 : ClassId) (c0 : Int32) (c1 : Int32) (h0 : Heap) (n0 : Nat) (v : Option Value) (h : Heap) (L : List Loc) : Prop := v = none ∧ Fr n0 L ∧ Keep h0 h [a1] ∧ Str Z h a1 [c0, c1]
set_option maxRecDepth 65536 in
set_option maxHeartbeats 40000000 in
theorem rmKj2 (l : Launch) (Z : State) (a0 : Array Value) (hw : ∀ d ∈ tables_1, d.before a0 Z = true) (ws : List Jvm.Cond) (a1 : Addr) (a2 : Addr) (cz : Int32) (fv : Value) (k1 : ClassId) (c0 : Int32) (c1 : Int32) (h0 : Heap) (n0 : Nat) (Z0 : n0 ≤ h0.size) (O0 : Old Z n0 h0) (J0 : Jd Z cz fv) (E1 : Exa Z h0 a1 "java/lang/String") (g_a1 : n0 ≤ a1) (F1 : Fld Z h0 a1 "java/lang/String" "value" "[B" .null) (F2 : Fld Z h0 a1 "java/lang/String" "coder" "B" (.int (0 : Int32))) (V2 : Arv Z h0 a2 k1 .char (2 : Int32) [(.int c0), (.int c1)] (.int (0 : Int32))) (hrg : ∀ c ∈ [c0, c1], 0 ≤ c.toInt ∧ c.toInt < 65536) :
    MetFree l mN19 (head1 (Jvm.Cond.code mN19 jdk_42_method_3_code 2 none :: ws) rKKj2) (fun a U => a = #[(.ref a1), (.ref a2)] ∧ Z.Warmed39 U.vm ∧ U.heap = h0) (fun _ _ _ _ _ => True) (fun _ U o U' => ∃ v L, o = .returned v ∧ QKj2 Z a1 a2 cz fv k1 c0 c1 h0 n0 v U'.heap L ∧ FrameEnd U o U' L rKKj2.cells rKKj2.slots) := by
  refine MetFree.of_bodySF (plainFor_of_name pnKj2) hisR ?_
  intro p e s m args below meth c s₁ Bd hml0 hP hK
  obtain ⟨rfl, hZ, hh⟩ := hP
  have hx := Bd.exec
  have hby := Bd.bytes
  have hml : c.maxLocals = 2 := hml0
  have hown : s.vm.findClass "java/lang/String" = some m.cls := findClass_of_methodNamed Bd.named
  have hnm := (name_of_methodNamed Bd.named Bd.method).1
  have X0 : Stand p l e rKKj2 s m #[(.ref a1), (.ref a2)] below meth c s₁ [] 0 0 := Stand.of_body Bd
  have e0 : s₁.heap = h0 := by rw [← hh, Bd.state]; rfl
  have N0 := Fr.nil n0
  obtain ⟨EF, hEF⟩ : ∃ f, f = entryFrame m #[(.ref a1), (.ref a2)] 2 := ⟨_, rfl⟩
  have pre0 : Go p e below s₁ (mkF m 0 #[rv a1, rv a2] []) s₁ EF := fun t k => by rw [hEF]; exact castTop (efKj2 m a1 a2) k
  have pre1 : Go p e below s₁ (mkF m 4 #[rv a1, rv a2] [(.ref a2), (.int (0 : Int32)), (.ref a2), (.ref a1)]) s₁ EF := fun t k => pre0 t (by
      refine XS.aloadN X0.here hx rfl (hb hby dKj2_0) rfl rfl ?_
      refine XS.aloadN X0.here hx rfl (hb hby dKj2_1) rfl rfl ?_
      refine XS.iconst X0.here hx rfl (hb hby dKj2_2) ?_
      refine XS.aloadN X0.here hx rfl (hb hby dKj2_3) rfl rfl ?_
      exact k)
  obtain ⟨cl2, Ar2, q2, Sz2, M2, H2, G2⟩ := id V2
  have pre3 : Go p e below s₁ (mkF m 6 #[rv a1, rv a2] [.null, (.int (2 : Int32)), (.int (0 : Int32)), (.ref a2), (.ref a1)]) s₁ EF := fun t k => pre1 t (by
      refine X0.arraylength hx (by rw [e0]; exact Ar2.1) (State.isArrayOf_alike hZ.alike Ar2.2.1) (g := (mkF m 4 #[rv a1, rv a2] [(.ref a2), (.int (0 : Int32)), (.ref a2), (.ref a1)])) rfl rfl (hb hby dKj2_4) _ ?_
      rw [len_of Sz2 M2]
      refine XS.aconstNull X0.here hx rfl (hb hby dKj2_5) ?_
      exact k)
  obtain ⟨_, _, ⟨T4, L4, k4, n4⟩, -, X4, ⟨Lc4, hQ4, l4, y4, z4⟩, st4⟩ := X0.specialBack hx (y := mN18) rfl hown (mvT hZ (hw _ (mW 14 rfl))) (mvT hZ (hw _ (mW 15 rfl))) (mvT hZ (hw _ (mW 17 rfl))) (by decide) (backOf (W := 0) (rmKi2 l Z a0 hw [] a1 a2 cz fv k1 c0 c1 h0 n0 Z0 O0 J0 E1 g_a1 F1 F2 V2 hrg) hZ (hw _ (mW 17 rfl)) (hw _ (mW 10 rfl)) (by decide) (by decide)) (g := (mkF m 6 #[rv a1, rv a2] [.null, (.int (2 : Int32)), (.int (0 : Int32)), (.ref a2), (.ref a1)])) rfl (by rw [hml]; rfl) (Steps.refl _) (a := a1) (argsL := [(.ref a2), (.int (0 : Int32)), (.int (2 : Int32)), .null]) (rest := []) (lenOf pdKj2_0 rfl) rfl (Nat.le_of_eq rfl) (hb hby dKj2_6) (fun _ _ => ⟨rfl, e0, wl rfl, wl rfl⟩)
  dsimp only [Pt.U, Pt.locs, Pt.cells, Pt.slots] at X4 l4 y4 z4 st4 hQ4
  subst l4 y4 z4
  obtain ⟨rfl, N4q, K4, SF4⟩ := hQ4
  have N4 := Fr.app N0 N4q
  have pre5 : Go p e below T4 (mkF m 9 #[rv a1, rv a2] []) s₁ EF := fun t k => pre3 t (st4.trans k)
  have O6 : Old Z n0 T4.heap := O0.keep K4 (allS g_a1 all0)
  have Z6 : n0 ≤ T4.heap.size := Nat.le_trans Z0 K4.1
  have K6 : Keep h0 T4.heap [a1] := (Keep.refl h0 [a1]).trans K4 (allS (Or.inl (List.mem_of_getElem? (i := 0) rfl)) all0)
  obtain ⟨fs, hr, hrun, hended, hW, hsame⟩ := X4.leave (v := none) (fun _ => rfl)
  refine ⟨_, _, hEF ▸ pre5 _ (X4.returnOut hx Bd.returns (hb hby dKj2_9) hr), hrun, hended, _, _, rfl, ?_, ⟨_, rfl⟩, hW, hsame.mono (by decide) (by decide)⟩
  show QKj2 Z a1 a2 cz fv k1 c0 c1 h0 n0 _ T4.heap _
  exact ⟨rfl, N4, K6, SF4⟩
abbrev rKKa3 : Room := { frames := 0, cells := 0, slots := 0, locals := 0 }
theorem dKa3_0 : decode jdk_52_method_21_code 0 = .ok (.iconst 0, 1) := by decide +kernel
theorem dKa3_1 : decode jdk_52_method_21_code 1 = .ok (.istore 5, 2) := by decide +kernel
theorem dKa3_3 : decode jdk_52_method_21_code 3 = .ok (.iload 5, 2) := by decide +kernel
theorem dKa3_5 : decode jdk_52_method_21_code 5 = .ok (.iload 4, 2) := by decide +kernel
theorem dKa3_7 : decode jdk_52_method_21_code 7 = .ok (.if_icmp .ge 37, 3) := by decide +kernel
theorem dKa3_10 : decode jdk_52_method_21_code 10 = .ok (.aload_n 0, 1) := by decide +kernel
theorem dKa3_11 : decode jdk_52_method_21_code 11 = .ok (.iload_n 1, 1) := by decide +kernel
theorem dKa3_12 : decode jdk_52_method_21_code 12 = .ok (.caload, 1) := by decide +kernel
theorem dKa3_13 : decode jdk_52_method_21_code 13 = .ok (.istore 6, 2) := by decide +kernel
theorem dKa3_15 : decode jdk_52_method_21_code 15 = .ok (.iload 6, 2) := by decide +kernel
theorem dKa3_17 : decode jdk_52_method_21_code 17 = .ok (.sipush 255, 3) := by decide +kernel
theorem dKa3_20 : decode jdk_52_method_21_code 20 = .ok (.if_icmp .le 6, 3) := by decide +kernel
theorem dKa3_23 : decode jdk_52_method_21_code 23 = .ok (.iload 5, 2) := by decide +kernel
theorem dKa3_25 : decode jdk_52_method_21_code 25 = .ok (.ireturn, 1) := by decide +kernel
theorem dKa3_26 : decode jdk_52_method_21_code 26 = .ok (.aload_n 2, 1) := by decide +kernel
theorem dKa3_27 : decode jdk_52_method_21_code 27 = .ok (.iload_n 3, 1) := by decide +kernel
theorem dKa3_28 : decode jdk_52_method_21_code 28 = .ok (.iload 6, 2) := by decide +kernel
theorem dKa3_30 : decode jdk_52_method_21_code 30 = .ok (.i2b, 1) := by decide +kernel
theorem dKa3_31 : decode jdk_52_method_21_code 31 = .ok (.bastore, 1) := by decide +kernel
theorem dKa3_32 : decode jdk_52_method_21_code 32 = .ok (.iinc 1 1, 3) := by decide +kernel
theorem dKa3_35 : decode jdk_52_method_21_code 35 = .ok (.iinc 3 1, 3) := by decide +kernel
theorem dKa3_38 : decode jdk_52_method_21_code 38 = .ok (.iinc 5 1, 3) := by decide +kernel
theorem dKa3_41 : decode jdk_52_method_21_code 41 = .ok (.goto (-38), 3) := by decide +kernel
theorem dKa3_44 : decode jdk_52_method_21_code 44 = .ok (.iload 4, 2) := by decide +kernel
theorem dKa3_46 : decode jdk_52_method_21_code 46 = .ok (.ireturn, 1) := by decide +kernel
theorem pnKa3 : plainName "java/lang/StringUTF16" = true := by first | (simp [plainName, overriddenIn]; done) | decide +kernel
theorem efKa3 (m : MethodId) (a1 : Addr) (a2 : Addr) : entryFrame m #[(.ref a1), (.int (0 : Int32)), (.ref a2), (.int (0 : Int32)), (.int (3 : Int32))] 7 = mkF m 0 #[rv a1, iv (0 : Int32), rv a2, iv (0 : Int32), iv (3 : Int32), .unset, .unset] [] := by first | (simp [entryFrame, mkF, argsToLocals, Value.category]; done) | rfl
def QKa3 (Z : State) (a1 : Addr) (a2 : Addr) (cz : Int32) (fv : Value) (k1 : ClassId) (k2 : ClassId) (c0 : Int32) (c1 : Int32) (c2 : Int32) (h0 : Heap) (n0 : Nat) (v : Option Value) (h : Heap) (L : List Loc) : Prop := (v = some (.int (3 : Int32)) ∧ Fr n0 L ∧ Keep h0 h [a2] ∧ (∀ c ∈ [c0, c1, c2], ¬ (255 : Int32) < c) ∧ Arv Z h a2 k2 .byte (3 : Int32) [(.int (c0.toInt8.toInt32)), (.int (c1.toInt8.toInt32)), (.int (c2.toInt8.toInt32))] (.int (0 : Int32))) ∨ (∃ (i ci : Int32), v = some (.int i) ∧ Fr n0 L ∧ Keep h0 h [a2] ∧ ¬ i < 0 ∧ ¬ i = (3 : Int32) ∧ [c0, c1, c2][i.toNatClampNeg]? = some ci ∧ (255 : Int32) < ci)
set_option maxRecDepth 65536 in
set_option maxHeartbeats 40000000 in
theorem rmKa3 (l : Launch) (Z : State) (a0 : Array Value) (hw : ∀ d ∈ tables_1, d.before a0 Z = true) (ws : List Jvm.Cond) (a1 : Addr) (a2 : Addr) (cz : Int32) (fv : Value) (k1 : ClassId) (k2 : ClassId) (c0 : Int32) (c1 : Int32) (c2 : Int32) (h0 : Heap) (n0 : Nat) (Z0 : n0 ≤ h0.size) (O0 : Old Z n0 h0) (J0 : Jd Z cz fv) (V1 : Arv Z h0 a1 k1 .char (3 : Int32) [(.int c0), (.int c1), (.int c2)] (.int (0 : Int32))) (V2 : Arv Z h0 a2 k2 .byte (3 : Int32) [(.int (0 : Int32)), (.int (0 : Int32)), (.int (0 : Int32))] (.int (0 : Int32))) (ne12 : a1 ≠ a2) (g_a2 : n0 ≤ a2) :
    MetFree l mN11 (head1 (Jvm.Cond.code mN11 jdk_52_method_21_code 7 (some .int) :: ws) rKKa3) (fun a U => a = #[(.ref a1), (.int (0 : Int32)), (.ref a2), (.int (0 : Int32)), (.int (3 : Int32))] ∧ Z.Warmed39 U.vm ∧ U.heap = h0) (fun _ _ _ _ _ => True) (fun _ U o U' => ∃ v L, o = .returned v ∧ QKa3 Z a1 a2 cz fv k1 k2 c0 c1 c2 h0 n0 v U'.heap L ∧ FrameEnd U o U' L rKKa3.cells rKKa3.slots) := by
  refine MetFree.of_bodySF (plainFor_of_name pnKa3) hisR ?_
  intro p e s m args below meth c s₁ Bd hml0 hP hK
  obtain ⟨rfl, hZ, hh⟩ := hP
  have hx := Bd.exec
  have hby := Bd.bytes
  have hml : c.maxLocals = 7 := hml0
  have hown : s.vm.findClass "java/lang/StringUTF16" = some m.cls := findClass_of_methodNamed Bd.named
  have hnm := (name_of_methodNamed Bd.named Bd.method).1
  have X0 : Stand p l e rKKa3 s m #[(.ref a1), (.int (0 : Int32)), (.ref a2), (.int (0 : Int32)), (.int (3 : Int32))] below meth c s₁ [] 0 0 := Stand.of_body Bd
  have e0 : s₁.heap = h0 := by rw [← hh, Bd.state]; rfl
  have N0 := Fr.nil n0
  obtain ⟨EF, hEF⟩ : ∃ f, f = entryFrame m #[(.ref a1), (.int (0 : Int32)), (.ref a2), (.int (0 : Int32)), (.int (3 : Int32))] 7 := ⟨_, rfl⟩
  have pre0 : Go p e below s₁ (mkF m 0 #[rv a1, iv (0 : Int32), rv a2, iv (0 : Int32), iv (3 : Int32), .unset, .unset] []) s₁ EF := fun t k => by rw [hEF]; exact castTop (efKa3 m a1 a2) k
  have pre1 : Go p e below s₁ (mkF m 7 #[rv a1, iv (0 : Int32), rv a2, iv (0 : Int32), iv (3 : Int32), iv (0 : Int32), .unset] [(.int (3 : Int32)), (.int (0 : Int32))]) s₁ EF := fun t k => pre0 t (by
      refine XS.iconst X0.here hx rfl (hb hby dKa3_0) ?_
      refine XS.istore X0.here hx rfl (hb hby dKa3_1) rfl (l' := #[rv a1, iv (0 : Int32), rv a2, iv (0 : Int32), iv (3 : Int32), iv (0 : Int32), .unset]) rfl ?_
      refine XS.iload X0.here hx rfl (hb hby dKa3_3) rfl ?_
      refine XS.iload X0.here hx rfl (hb hby dKa3_5) rfl ?_
      exact k)
  have pre2 : Go p e below s₁ (mkF m 10 #[rv a1, iv (0 : Int32), rv a2, iv (0 : Int32), iv (3 : Int32), iv (0 : Int32), .unset] []) s₁ EF := fun t k => pre1 t (XS.icmpNo X0.here hx rfl (hb hby dKa3_7) rfl (tlt (by decide : (0 : Int32) < (3 : Int32))).2.1 k)
  have pre3 : Go p e below s₁ (mkF m 12 #[rv a1, iv (0 : Int32), rv a2, iv (0 : Int32), iv (3 : Int32), iv (0 : Int32), .unset] [(.int (0 : Int32)), (.ref a1)]) s₁ EF := fun t k => pre2 t (by
      refine XS.aloadN X0.here hx rfl (hb hby dKa3_10) rfl rfl ?_
      refine XS.iloadN X0.here hx rfl (hb hby dKa3_11) rfl ?_
      exact k)
  obtain ⟨cl4, Ar4, q4, Sz4, M4, H4, G4⟩ := id V1
  have hin4 : ¬ ((0 : Int32) < 0 ∨ cl4.slots.size ≤ ((0 : Int32)).toNatClampNeg) := inb_of Sz4 ⟨by decide, by decide⟩
  have hat4 : cl4.slots[((0 : Int32)).toNatClampNeg]? = some (.int c0) := Has.at H4 hin4 rfl
  have pre5 : Go p e below s₁ (mkF m 20 #[rv a1, iv (0 : Int32), rv a2, iv (0 : Int32), iv (3 : Int32), iv (0 : Int32), iv c0] [(.int (255 : Int32)), (.int c0)]) s₁ EF := fun t k => pre3 t (by
      refine X0.caload hx (j := (0 : Int32)) (v := (.int c0)) (by rw [e0]; exact Ar4.1) (State.isArrayOf_alike hZ.alike Ar4.2.1) Ar4.2.2 hin4 hat4 (g := (mkF m 12 #[rv a1, iv (0 : Int32), rv a2, iv (0 : Int32), iv (3 : Int32), iv (0 : Int32), .unset] [(.int (0 : Int32)), (.ref a1)])) rfl rfl (hb hby dKa3_12) _ ?_
      refine XS.istore X0.here hx rfl (hb hby dKa3_13) rfl (l' := #[rv a1, iv (0 : Int32), rv a2, iv (0 : Int32), iv (3 : Int32), iv (0 : Int32), iv c0]) rfl ?_
      refine XS.iload X0.here hx rfl (hb hby dKa3_15) rfl ?_
      refine XS.sipush X0.here hx rfl (hb hby dKa3_17) ?_
      exact k)
  by_cases hc20 : (255 : Int32) < c0
  · have pre6 : Go p e below s₁ (mkF m 23 #[rv a1, iv (0 : Int32), rv a2, iv (0 : Int32), iv (3 : Int32), iv (0 : Int32), iv c0] []) s₁ EF := fun t k => pre5 t (XS.icmpNo X0.here hx rfl (hb hby dKa3_20) rfl (tlt hc20).2.2.2 k)
    have pre7 : Go p e below s₁ (mkF m 25 #[rv a1, iv (0 : Int32), rv a2, iv (0 : Int32), iv (3 : Int32), iv (0 : Int32), iv c0] [(.int (0 : Int32))]) s₁ EF := fun t k => pre6 t (by
        refine XS.iload X0.here hx rfl (hb hby dKa3_23) rfl ?_
        exact k)
    obtain ⟨fs, hr, hrun, hended, hW, hsame⟩ := X0.leave (v := some (.int (0 : Int32))) (fun h => by rw [Bd.returns] at h; cases h)
    refine ⟨_, _, hEF ▸ pre7 _ (retOut X0 hx Bd.returns rfl (Or.inl ⟨rfl, Or.inl rfl, _, rfl⟩) (hb hby dKa3_25) hr), hrun, hended, _, _, rfl, ?_, ⟨_, rfl⟩, hW, hsame.mono (by decide) (by decide)⟩
    show QKa3 Z a1 a2 cz fv k1 k2 c0 c1 c2 h0 n0 _ s₁.heap _
    rw [e0]
    exact Or.inr ⟨_, _, rfl, N0, (Keep.refl h0 [a2]), (by decide), (by decide), rfl, hc20⟩
  have pre8 : Go p e below s₁ (mkF m 26 #[rv a1, iv (0 : Int32), rv a2, iv (0 : Int32), iv (3 : Int32), iv (0 : Int32), iv c0] []) s₁ EF := fun t k => pre5 t (XS.icmpYes X0.here hx rfl (pc0 := 20) (pc' := 26) rfl (hb hby dKa3_20) rfl (flt hc20).2.2.2 (by decide) (by decide) k)
  have pre9 : Go p e below s₁ (mkF m 31 #[rv a1, iv (0 : Int32), rv a2, iv (0 : Int32), iv (3 : Int32), iv (0 : Int32), iv c0] [(.int (c0.toInt8.toInt32)), (.int (0 : Int32)), (.ref a2)]) s₁ EF := fun t k => pre8 t (by
      refine XS.aloadN X0.here hx rfl (hb hby dKa3_26) rfl rfl ?_
      refine XS.iloadN X0.here hx rfl (hb hby dKa3_27) rfl ?_
      refine XS.iload X0.here hx rfl (hb hby dKa3_28) rfl ?_
      refine XS.i2b X0.here hx rfl (hb hby dKa3_30) rfl ?_
      exact k)
  obtain ⟨cl10, Ar10, q10, Sz10, M10, H10, G10⟩ := id V2
  have hin10 : ¬ ((0 : Int32) < 0 ∨ cl10.slots.size ≤ ((0 : Int32)).toNatClampNeg) := inb_of Sz10 ⟨by decide, by decide⟩
  obtain ⟨T10, h10, X10, e10, W10, st10⟩ := stB X0 hx hZ e0 Ar10 (j := (0 : Int32)) hin10 (g := (mkF m 31 #[rv a1, iv (0 : Int32), rv a2, iv (0 : Int32), iv (3 : Int32), iv (0 : Int32), iv c0] [(.int (c0.toInt8.toInt32)), (.int (0 : Int32)), (.ref a2)])) rfl rfl (hb hby dKa3_31)
  rw [own_i2b2] at W10
  have pre11 : Go p e below T10 (mkF m 32 #[rv a1, iv (0 : Int32), rv a2, iv (0 : Int32), iv (3 : Int32), iv (0 : Int32), iv c0] []) s₁ EF := fun t k => pre9 t (st10 t k)
  have O12 : Old Z n0 h10 := O0.wr W10 g_a2
  have Z12 : n0 ≤ h10.size := Nat.le_trans Z0 (Keep.of_wr W10).1
  have K12 : Keep h0 h10 [a2] := (Keep.refl h0 [a2]).wr W10 (Or.inl (List.mem_of_getElem? (i := 0) rfl))
  have V10 : Arv Z h10 a2 k2 .byte (3 : Int32) [(.int (c0.toInt8.toInt32)), (.int (0 : Int32)), (.int (0 : Int32))] (.int (0 : Int32)) := Arv.set Ar10 q10 Sz10 M10 H10 G10 (fits_nar_byte _) W10 0 rfl (Nat.le_of_ble_eq_true rfl)
  have N10 := Fr.snoc X10 N0 g_a2
  have pre13 : Go p e below T10 (mkF m 7 #[rv a1, iv (1 : Int32), rv a2, iv (1 : Int32), iv (3 : Int32), iv (1 : Int32), iv c0] [(.int (3 : Int32)), (.int (1 : Int32))]) s₁ EF := fun t k => pre11 t (by
      refine XS.iinc X10.here hx rfl (hb hby dKa3_32) rfl (l' := #[rv a1, iv (1 : Int32), rv a2, iv (0 : Int32), iv (3 : Int32), iv (0 : Int32), iv c0]) rfl ?_
      refine XS.iinc X10.here hx rfl (hb hby dKa3_35) rfl (l' := #[rv a1, iv (1 : Int32), rv a2, iv (1 : Int32), iv (3 : Int32), iv (0 : Int32), iv c0]) rfl ?_
      refine XS.iinc X10.here hx rfl (hb hby dKa3_38) rfl (l' := #[rv a1, iv (1 : Int32), rv a2, iv (1 : Int32), iv (3 : Int32), iv (1 : Int32), iv c0]) rfl ?_
      refine XS.goto X10.here hx rfl (pc0 := 41) (pc' := 3) rfl (hb hby dKa3_41) (by decide) (by decide) ?_
      refine XS.iload X10.here hx rfl (hb hby dKa3_3) rfl ?_
      refine XS.iload X10.here hx rfl (hb hby dKa3_5) rfl ?_
      exact k)
  have pre14 : Go p e below T10 (mkF m 10 #[rv a1, iv (1 : Int32), rv a2, iv (1 : Int32), iv (3 : Int32), iv (1 : Int32), iv c0] []) s₁ EF := fun t k => pre13 t (XS.icmpNo X10.here hx rfl (hb hby dKa3_7) rfl (tlt (by decide : (1 : Int32) < (3 : Int32))).2.1 k)
  have pre15 : Go p e below T10 (mkF m 12 #[rv a1, iv (1 : Int32), rv a2, iv (1 : Int32), iv (3 : Int32), iv (1 : Int32), iv c0] [(.int (1 : Int32)), (.ref a1)]) s₁ EF := fun t k => pre14 t (by
      refine XS.aloadN X10.here hx rfl (hb hby dKa3_10) rfl rfl ?_
      refine XS.iloadN X10.here hx rfl (hb hby dKa3_11) rfl ?_
      exact k)
  obtain ⟨cl16, Ar16, q16, Sz16, M16, H16, G16⟩ := id (V1.other W10 ne12)
  have hin16 : ¬ ((1 : Int32) < 0 ∨ cl16.slots.size ≤ ((1 : Int32)).toNatClampNeg) := inb_of Sz16 ⟨by decide, by decide⟩
  have hat16 : cl16.slots[((1 : Int32)).toNatClampNeg]? = some (.int c1) := Has.at H16 hin16 rfl
  have pre17 : Go p e below T10 (mkF m 20 #[rv a1, iv (1 : Int32), rv a2, iv (1 : Int32), iv (3 : Int32), iv (1 : Int32), iv c1] [(.int (255 : Int32)), (.int c1)]) s₁ EF := fun t k => pre15 t (by
      refine X10.caload hx (j := (1 : Int32)) (v := (.int c1)) (by rw [e10]; exact Ar16.1) (State.isArrayOf_alike hZ.alike Ar16.2.1) Ar16.2.2 hin16 hat16 (g := (mkF m 12 #[rv a1, iv (1 : Int32), rv a2, iv (1 : Int32), iv (3 : Int32), iv (1 : Int32), iv c0] [(.int (1 : Int32)), (.ref a1)])) rfl rfl (hb hby dKa3_12) _ ?_
      refine XS.istore X10.here hx rfl (hb hby dKa3_13) rfl (l' := #[rv a1, iv (1 : Int32), rv a2, iv (1 : Int32), iv (3 : Int32), iv (1 : Int32), iv c1]) rfl ?_
      refine XS.iload X10.here hx rfl (hb hby dKa3_15) rfl ?_
      refine XS.sipush X10.here hx rfl (hb hby dKa3_17) ?_
      exact k)
  by_cases hc20' : (255 : Int32) < c1
  · have pre18 : Go p e below T10 (mkF m 23 #[rv a1, iv (1 : Int32), rv a2, iv (1 : Int32), iv (3 : Int32), iv (1 : Int32), iv c1] []) s₁ EF := fun t k => pre17 t (XS.icmpNo X10.here hx rfl (hb hby dKa3_20) rfl (tlt hc20').2.2.2 k)
    have pre19 : Go p e below T10 (mkF m 25 #[rv a1, iv (1 : Int32), rv a2, iv (1 : Int32), iv (3 : Int32), iv (1 : Int32), iv c1] [(.int (1 : Int32))]) s₁ EF := fun t k => pre18 t (by
        refine XS.iload X10.here hx rfl (hb hby dKa3_23) rfl ?_
        exact k)
    obtain ⟨fs, hr, hrun, hended, hW, hsame⟩ := X10.leave (v := some (.int (1 : Int32))) (fun h => by rw [Bd.returns] at h; cases h)
    refine ⟨_, _, hEF ▸ pre19 _ (retOut X10 hx Bd.returns rfl (Or.inl ⟨rfl, Or.inl rfl, _, rfl⟩) (hb hby dKa3_25) hr), hrun, hended, _, _, rfl, ?_, ⟨_, rfl⟩, hW, hsame.mono (by decide) (by decide)⟩
    show QKa3 Z a1 a2 cz fv k1 k2 c0 c1 c2 h0 n0 _ T10.heap _
    rw [e10]
    exact Or.inr ⟨_, _, rfl, N10, K12, (by decide), (by decide), rfl, hc20'⟩
  have pre20 : Go p e below T10 (mkF m 26 #[rv a1, iv (1 : Int32), rv a2, iv (1 : Int32), iv (3 : Int32), iv (1 : Int32), iv c1] []) s₁ EF := fun t k => pre17 t (XS.icmpYes X10.here hx rfl (pc0 := 20) (pc' := 26) rfl (hb hby dKa3_20) rfl (flt hc20').2.2.2 (by decide) (by decide) k)
  have pre21 : Go p e below T10 (mkF m 31 #[rv a1, iv (1 : Int32), rv a2, iv (1 : Int32), iv (3 : Int32), iv (1 : Int32), iv c1] [(.int (c1.toInt8.toInt32)), (.int (1 : Int32)), (.ref a2)]) s₁ EF := fun t k => pre20 t (by
      refine XS.aloadN X10.here hx rfl (hb hby dKa3_26) rfl rfl ?_
      refine XS.iloadN X10.here hx rfl (hb hby dKa3_27) rfl ?_
      refine XS.iload X10.here hx rfl (hb hby dKa3_28) rfl ?_
      refine XS.i2b X10.here hx rfl (hb hby dKa3_30) rfl ?_
      exact k)
  obtain ⟨cl22, Ar22, q22, Sz22, M22, H22, G22⟩ := id V10
  have hin22 : ¬ ((1 : Int32) < 0 ∨ cl22.slots.size ≤ ((1 : Int32)).toNatClampNeg) := inb_of Sz22 ⟨by decide, by decide⟩
  obtain ⟨T22, h22, X22, e22, W22, st22⟩ := stB X10 hx hZ e10 Ar22 (j := (1 : Int32)) hin22 (g := (mkF m 31 #[rv a1, iv (1 : Int32), rv a2, iv (1 : Int32), iv (3 : Int32), iv (1 : Int32), iv c1] [(.int (c1.toInt8.toInt32)), (.int (1 : Int32)), (.ref a2)])) rfl rfl (hb hby dKa3_31)
  rw [own_i2b2] at W22
  have pre23 : Go p e below T22 (mkF m 32 #[rv a1, iv (1 : Int32), rv a2, iv (1 : Int32), iv (3 : Int32), iv (1 : Int32), iv c1] []) s₁ EF := fun t k => pre21 t (st22 t k)
  have O24 : Old Z n0 h22 := O12.wr W22 g_a2
  have Z24 : n0 ≤ h22.size := Nat.le_trans Z12 (Keep.of_wr W22).1
  have K24 : Keep h0 h22 [a2] := K12.wr W22 (Or.inl (List.mem_of_getElem? (i := 0) rfl))
  have V22 : Arv Z h22 a2 k2 .byte (3 : Int32) [(.int (c0.toInt8.toInt32)), (.int (c1.toInt8.toInt32)), (.int (0 : Int32))] (.int (0 : Int32)) := Arv.set Ar22 q22 Sz22 M22 H22 G22 (fits_nar_byte _) W22 1 rfl (Nat.le_of_ble_eq_true rfl)
  have N22 := Fr.snoc X22 N10 g_a2
  have pre25 : Go p e below T22 (mkF m 7 #[rv a1, iv (2 : Int32), rv a2, iv (2 : Int32), iv (3 : Int32), iv (2 : Int32), iv c1] [(.int (3 : Int32)), (.int (2 : Int32))]) s₁ EF := fun t k => pre23 t (by
      refine XS.iinc X22.here hx rfl (hb hby dKa3_32) rfl (l' := #[rv a1, iv (2 : Int32), rv a2, iv (1 : Int32), iv (3 : Int32), iv (1 : Int32), iv c1]) rfl ?_
      refine XS.iinc X22.here hx rfl (hb hby dKa3_35) rfl (l' := #[rv a1, iv (2 : Int32), rv a2, iv (2 : Int32), iv (3 : Int32), iv (1 : Int32), iv c1]) rfl ?_
      refine XS.iinc X22.here hx rfl (hb hby dKa3_38) rfl (l' := #[rv a1, iv (2 : Int32), rv a2, iv (2 : Int32), iv (3 : Int32), iv (2 : Int32), iv c1]) rfl ?_
      refine XS.goto X22.here hx rfl (pc0 := 41) (pc' := 3) rfl (hb hby dKa3_41) (by decide) (by decide) ?_
      refine XS.iload X22.here hx rfl (hb hby dKa3_3) rfl ?_
      refine XS.iload X22.here hx rfl (hb hby dKa3_5) rfl ?_
      exact k)
  have pre26 : Go p e below T22 (mkF m 10 #[rv a1, iv (2 : Int32), rv a2, iv (2 : Int32), iv (3 : Int32), iv (2 : Int32), iv c1] []) s₁ EF := fun t k => pre25 t (XS.icmpNo X22.here hx rfl (hb hby dKa3_7) rfl (tlt (by decide : (2 : Int32) < (3 : Int32))).2.1 k)
  have pre27 : Go p e below T22 (mkF m 12 #[rv a1, iv (2 : Int32), rv a2, iv (2 : Int32), iv (3 : Int32), iv (2 : Int32), iv c1] [(.int (2 : Int32)), (.ref a1)]) s₁ EF := fun t k => pre26 t (by
      refine XS.aloadN X22.here hx rfl (hb hby dKa3_10) rfl rfl ?_
      refine XS.iloadN X22.here hx rfl (hb hby dKa3_11) rfl ?_
      exact k)
  obtain ⟨cl28, Ar28, q28, Sz28, M28, H28, G28⟩ := id ((V1.other W10 ne12).other W22 ne12)
  have hin28 : ¬ ((2 : Int32) < 0 ∨ cl28.slots.size ≤ ((2 : Int32)).toNatClampNeg) := inb_of Sz28 ⟨by decide, by decide⟩
  have hat28 : cl28.slots[((2 : Int32)).toNatClampNeg]? = some (.int c2) := Has.at H28 hin28 rfl
  have pre29 : Go p e below T22 (mkF m 20 #[rv a1, iv (2 : Int32), rv a2, iv (2 : Int32), iv (3 : Int32), iv (2 : Int32), iv c2] [(.int (255 : Int32)), (.int c2)]) s₁ EF := fun t k => pre27 t (by
      refine X22.caload hx (j := (2 : Int32)) (v := (.int c2)) (by rw [e22]; exact Ar28.1) (State.isArrayOf_alike hZ.alike Ar28.2.1) Ar28.2.2 hin28 hat28 (g := (mkF m 12 #[rv a1, iv (2 : Int32), rv a2, iv (2 : Int32), iv (3 : Int32), iv (2 : Int32), iv c1] [(.int (2 : Int32)), (.ref a1)])) rfl rfl (hb hby dKa3_12) _ ?_
      refine XS.istore X22.here hx rfl (hb hby dKa3_13) rfl (l' := #[rv a1, iv (2 : Int32), rv a2, iv (2 : Int32), iv (3 : Int32), iv (2 : Int32), iv c2]) rfl ?_
      refine XS.iload X22.here hx rfl (hb hby dKa3_15) rfl ?_
      refine XS.sipush X22.here hx rfl (hb hby dKa3_17) ?_
      exact k)
  by_cases hc20'' : (255 : Int32) < c2
  · have pre30 : Go p e below T22 (mkF m 23 #[rv a1, iv (2 : Int32), rv a2, iv (2 : Int32), iv (3 : Int32), iv (2 : Int32), iv c2] []) s₁ EF := fun t k => pre29 t (XS.icmpNo X22.here hx rfl (hb hby dKa3_20) rfl (tlt hc20'').2.2.2 k)
    have pre31 : Go p e below T22 (mkF m 25 #[rv a1, iv (2 : Int32), rv a2, iv (2 : Int32), iv (3 : Int32), iv (2 : Int32), iv c2] [(.int (2 : Int32))]) s₁ EF := fun t k => pre30 t (by
        refine XS.iload X22.here hx rfl (hb hby dKa3_23) rfl ?_
        exact k)
    obtain ⟨fs, hr, hrun, hended, hW, hsame⟩ := X22.leave (v := some (.int (2 : Int32))) (fun h => by rw [Bd.returns] at h; cases h)
    refine ⟨_, _, hEF ▸ pre31 _ (retOut X22 hx Bd.returns rfl (Or.inl ⟨rfl, Or.inl rfl, _, rfl⟩) (hb hby dKa3_25) hr), hrun, hended, _, _, rfl, ?_, ⟨_, rfl⟩, hW, hsame.mono (by decide) (by decide)⟩
    show QKa3 Z a1 a2 cz fv k1 k2 c0 c1 c2 h0 n0 _ T22.heap _
    rw [e22]
    exact Or.inr ⟨_, _, rfl, N22, K24, (by decide), (by decide), rfl, hc20''⟩
  have pre32 : Go p e below T22 (mkF m 26 #[rv a1, iv (2 : Int32), rv a2, iv (2 : Int32), iv (3 : Int32), iv (2 : Int32), iv c2] []) s₁ EF := fun t k => pre29 t (XS.icmpYes X22.here hx rfl (pc0 := 20) (pc' := 26) rfl (hb hby dKa3_20) rfl (flt hc20'').2.2.2 (by decide) (by decide) k)
  have pre33 : Go p e below T22 (mkF m 31 #[rv a1, iv (2 : Int32), rv a2, iv (2 : Int32), iv (3 : Int32), iv (2 : Int32), iv c2] [(.int (c2.toInt8.toInt32)), (.int (2 : Int32)), (.ref a2)]) s₁ EF := fun t k => pre32 t (by
      refine XS.aloadN X22.here hx rfl (hb hby dKa3_26) rfl rfl ?_
      refine XS.iloadN X22.here hx rfl (hb hby dKa3_27) rfl ?_
      refine XS.iload X22.here hx rfl (hb hby dKa3_28) rfl ?_
      refine XS.i2b X22.here hx rfl (hb hby dKa3_30) rfl ?_
      exact k)
  obtain ⟨cl34, Ar34, q34, Sz34, M34, H34, G34⟩ := id V22
  have hin34 : ¬ ((2 : Int32) < 0 ∨ cl34.slots.size ≤ ((2 : Int32)).toNatClampNeg) := inb_of Sz34 ⟨by decide, by decide⟩
  obtain ⟨T34, h34, X34, e34, W34, st34⟩ := stB X22 hx hZ e22 Ar34 (j := (2 : Int32)) hin34 (g := (mkF m 31 #[rv a1, iv (2 : Int32), rv a2, iv (2 : Int32), iv (3 : Int32), iv (2 : Int32), iv c2] [(.int (c2.toInt8.toInt32)), (.int (2 : Int32)), (.ref a2)])) rfl rfl (hb hby dKa3_31)
  rw [own_i2b2] at W34
  have pre35 : Go p e below T34 (mkF m 32 #[rv a1, iv (2 : Int32), rv a2, iv (2 : Int32), iv (3 : Int32), iv (2 : Int32), iv c2] []) s₁ EF := fun t k => pre33 t (st34 t k)
  have O36 : Old Z n0 h34 := O24.wr W34 g_a2
  have Z36 : n0 ≤ h34.size := Nat.le_trans Z24 (Keep.of_wr W34).1
  have K36 : Keep h0 h34 [a2] := K24.wr W34 (Or.inl (List.mem_of_getElem? (i := 0) rfl))
  have V34 : Arv Z h34 a2 k2 .byte (3 : Int32) [(.int (c0.toInt8.toInt32)), (.int (c1.toInt8.toInt32)), (.int (c2.toInt8.toInt32))] (.int (0 : Int32)) := Arv.set Ar34 q34 Sz34 M34 H34 G34 (fits_nar_byte _) W34 2 rfl (Nat.le_of_ble_eq_true rfl)
  have N34 := Fr.snoc X34 N22 g_a2
  have pre37 : Go p e below T34 (mkF m 7 #[rv a1, iv (3 : Int32), rv a2, iv (3 : Int32), iv (3 : Int32), iv (3 : Int32), iv c2] [(.int (3 : Int32)), (.int (3 : Int32))]) s₁ EF := fun t k => pre35 t (by
      refine XS.iinc X34.here hx rfl (hb hby dKa3_32) rfl (l' := #[rv a1, iv (3 : Int32), rv a2, iv (2 : Int32), iv (3 : Int32), iv (2 : Int32), iv c2]) rfl ?_
      refine XS.iinc X34.here hx rfl (hb hby dKa3_35) rfl (l' := #[rv a1, iv (3 : Int32), rv a2, iv (3 : Int32), iv (3 : Int32), iv (2 : Int32), iv c2]) rfl ?_
      refine XS.iinc X34.here hx rfl (hb hby dKa3_38) rfl (l' := #[rv a1, iv (3 : Int32), rv a2, iv (3 : Int32), iv (3 : Int32), iv (3 : Int32), iv c2]) rfl ?_
      refine XS.goto X34.here hx rfl (pc0 := 41) (pc' := 3) rfl (hb hby dKa3_41) (by decide) (by decide) ?_
      refine XS.iload X34.here hx rfl (hb hby dKa3_3) rfl ?_
      refine XS.iload X34.here hx rfl (hb hby dKa3_5) rfl ?_
      exact k)
  have pre38 : Go p e below T34 (mkF m 44 #[rv a1, iv (3 : Int32), rv a2, iv (3 : Int32), iv (3 : Int32), iv (3 : Int32), iv c2] []) s₁ EF := fun t k => pre37 t (XS.icmpYes X34.here hx rfl (pc0 := 7) (pc' := 44) rfl (hb hby dKa3_7) rfl (flt (by decide : ¬ ((3 : Int32) < (3 : Int32)))).2.1 (by decide) (by decide) k)
  have pre39 : Go p e below T34 (mkF m 46 #[rv a1, iv (3 : Int32), rv a2, iv (3 : Int32), iv (3 : Int32), iv (3 : Int32), iv c2] [(.int (3 : Int32))]) s₁ EF := fun t k => pre38 t (by
      refine XS.iload X34.here hx rfl (hb hby dKa3_44) rfl ?_
      exact k)
  obtain ⟨fs, hr, hrun, hended, hW, hsame⟩ := X34.leave (v := some (.int (3 : Int32))) (fun h => by rw [Bd.returns] at h; cases h)
  refine ⟨_, _, hEF ▸ pre39 _ (retOut X34 hx Bd.returns rfl (Or.inl ⟨rfl, Or.inl rfl, _, rfl⟩) (hb hby dKa3_46) hr), hrun, hended, _, _, rfl, ?_, ⟨_, rfl⟩, hW, hsame.mono (by decide) (by decide)⟩
  show QKa3 Z a1 a2 cz fv k1 k2 c0 c1 c2 h0 n0 _ T34.heap _
  rw [e34]
  exact Or.inl ⟨rfl, N34, K36, (List.forall_mem_cons.mpr ⟨hc20, (List.forall_mem_cons.mpr ⟨hc20', (List.forall_mem_cons.mpr ⟨hc20'', (fun _ q => nomatch q)⟩)⟩)⟩), V34⟩
abbrev rKKn3 : Room := { frames := 0, cells := 0, slots := 0, locals := 0 }
theorem dKn3_0 : decode jdk_52_method_3_code 0 = .ok (.iload_n 0, 1) := by decide +kernel
theorem dKn3_1 : decode jdk_52_method_3_code 1 = .ok (.ifCond .ge 11, 3) := by decide +kernel
theorem dKn3_12 : decode jdk_52_method_3_code 12 = .ok (.iload_n 0, 1) := by decide +kernel
theorem dKn3_13 : decode jdk_52_method_3_code 13 = .ok (.ldc 20, 2) := by decide +kernel
theorem dKn3_15 : decode jdk_52_method_3_code 15 = .ok (.if_icmp .lt 40, 3) := by decide +kernel
theorem dKn3_55 : decode jdk_52_method_3_code 55 = .ok (.iload_n 0, 1) := by decide +kernel
theorem dKn3_56 : decode jdk_52_method_3_code 56 = .ok (.iconst 1, 1) := by decide +kernel
theorem dKn3_57 : decode jdk_52_method_3_code 57 = .ok (.ishl, 1) := by decide +kernel
theorem dKn3_58 : decode jdk_52_method_3_code 58 = .ok (.ireturn, 1) := by decide +kernel
theorem pnKn3 : plainName "java/lang/StringUTF16" = true := by first | (simp [plainName, overriddenIn]; done) | decide +kernel
theorem efKn3 (m : MethodId)  : entryFrame m #[(.int (3 : Int32))] 1 = mkF m 0 #[iv (3 : Int32)] [] := by first | (simp [entryFrame, mkF, argsToLocals, Value.category]; done) | rfl
def QKn3 (Z : State) (cz : Int32) (fv : Value) (h0 : Heap) (n0 : Nat) (v : Option Value) (h : Heap) (L : List Loc) : Prop := v = some (.int (6 : Int32)) ∧ Fr n0 L ∧ h = h0
set_option maxRecDepth 65536 in
set_option maxHeartbeats 40000000 in
theorem rmKn3 (l : Launch) (Z : State) (a0 : Array Value) (hw : ∀ d ∈ tables_1, d.before a0 Z = true) (ws : List Jvm.Cond) (cz : Int32) (fv : Value) (h0 : Heap) (n0 : Nat) (Z0 : n0 ≤ h0.size) (O0 : Old Z n0 h0) (J0 : Jd Z cz fv) :
    MetFree l mN12 (head1 (Jvm.Cond.code mN12 jdk_52_method_3_code 1 (some .int) :: ws) rKKn3) (fun a U => a = #[(.int (3 : Int32))] ∧ Z.Warmed39 U.vm ∧ U.heap = h0) (fun _ _ _ _ _ => True) (fun _ U o U' => ∃ v L, o = .returned v ∧ QKn3 Z cz fv h0 n0 v U'.heap L ∧ FrameEnd U o U' L rKKn3.cells rKKn3.slots) := by
  refine MetFree.of_bodySF (plainFor_of_name pnKn3) hisR ?_
  intro p e s m args below meth c s₁ Bd hml0 hP hK
  obtain ⟨rfl, hZ, hh⟩ := hP
  have hx := Bd.exec
  have hby := Bd.bytes
  have hml : c.maxLocals = 1 := hml0
  have hown : s.vm.findClass "java/lang/StringUTF16" = some m.cls := findClass_of_methodNamed Bd.named
  have hnm := (name_of_methodNamed Bd.named Bd.method).1
  have X0 : Stand p l e rKKn3 s m #[(.int (3 : Int32))] below meth c s₁ [] 0 0 := Stand.of_body Bd
  have e0 : s₁.heap = h0 := by rw [← hh, Bd.state]; rfl
  have N0 := Fr.nil n0
  obtain ⟨EF, hEF⟩ : ∃ f, f = entryFrame m #[(.int (3 : Int32))] 1 := ⟨_, rfl⟩
  have pre0 : Go p e below s₁ (mkF m 0 #[iv (3 : Int32)] []) s₁ EF := fun t k => by rw [hEF]; exact castTop (efKn3 m ) k
  have pre1 : Go p e below s₁ (mkF m 1 #[iv (3 : Int32)] [(.int (3 : Int32))]) s₁ EF := fun t k => pre0 t (by
      refine XS.iloadN X0.here hx rfl (hb hby dKn3_0) rfl ?_
      exact k)
  have pre2 : Go p e below s₁ (mkF m 12 #[iv (3 : Int32)] []) s₁ EF := fun t k => pre1 t (XS.ifYes X0.here hx rfl (pc0 := 1) (pc' := 12) rfl (hb hby dKn3_1) rfl ((if0 _ _).trans (flt (by decide : ¬ ((3 : Int32) < (0 : Int32)))).2.1) (by decide) (by decide) k)
  have pre3 : Go p e below s₁ (mkF m 15 #[iv (3 : Int32)] [(.int (1073741823 : Int32)), (.int (3 : Int32))]) s₁ EF := fun t k => pre2 t (by
      refine XS.iloadN X0.here hx rfl (hb hby dKn3_12) rfl ?_
      refine X0.ldcInt hx hown (mvT hZ (hw _ (mW 88 rfl))) (g := (mkF m 13 #[iv (3 : Int32)] [(.int (3 : Int32))])) rfl (hb hby dKn3_13) _ ?_
      exact k)
  have pre4 : Go p e below s₁ (mkF m 55 #[iv (3 : Int32)] []) s₁ EF := fun t k => pre3 t (XS.icmpYes X0.here hx rfl (pc0 := 15) (pc' := 55) rfl (hb hby dKn3_15) rfl (tlt (by decide : (3 : Int32) < (1073741823 : Int32))).1 (by decide) (by decide) k)
  have pre5 : Go p e below s₁ (mkF m 58 #[iv (3 : Int32)] [(.int (6 : Int32))]) s₁ EF := fun t k => pre4 t (by
      refine XS.iloadN X0.here hx rfl (hb hby dKn3_55) rfl ?_
      refine XS.iconst X0.here hx rfl (hb hby dKn3_56) ?_
      refine XS.ishl X0.here hx rfl (hb hby dKn3_57) rfl ?_
      exact k)
  obtain ⟨fs, hr, hrun, hended, hW, hsame⟩ := X0.leave (v := some (.int (6 : Int32))) (fun h => by rw [Bd.returns] at h; cases h)
  refine ⟨_, _, hEF ▸ pre5 _ (retOut X0 hx Bd.returns rfl (Or.inl ⟨rfl, Or.inl rfl, _, rfl⟩) (hb hby dKn3_58) hr), hrun, hended, _, _, rfl, ?_, ⟨_, rfl⟩, hW, hsame.mono (by decide) (by decide)⟩
  show QKn3 Z cz fv h0 n0 _ s₁.heap _
  rw [e0]
  exact ⟨rfl, N0, rfl⟩
abbrev rKKf3 : Room := { frames := 1, cells := 1, slots := 6, locals := 12 }
theorem dKf3_0 : decode jdk_52_method_2_code 0 = .ok (.iload_n 0, 1) := by decide +kernel
theorem dKf3_1 : decode jdk_52_method_2_code 1 = .ok (.invokestatic 11, 3) := by decide +kernel
theorem dKf3_4 : decode jdk_52_method_2_code 4 = .ok (.newarray .byte, 2) := by decide +kernel
theorem dKf3_6 : decode jdk_52_method_2_code 6 = .ok (.areturn, 1) := by decide +kernel
theorem pnKf3 : plainName "java/lang/StringUTF16" = true := by first | (simp [plainName, overriddenIn]; done) | decide +kernel
theorem pdKf3_0 : parseMethodDescriptor "(I)I" = some ⟨[.int], some .int⟩ := by decide +kernel
theorem efKf3 (m : MethodId)  : entryFrame m #[(.int (3 : Int32))] 1 = mkF m 0 #[iv (3 : Int32)] [] := by first | (simp [entryFrame, mkF, argsToLocals, Value.category]; done) | rfl
def QKf3 (Z : State) (cz : Int32) (fv : Value) (h0 : Heap) (n0 : Nat) (v : Option Value) (h : Heap) (L : List Loc) : Prop := ∃ b k, v = some (.ref b) ∧ Fr n0 L ∧ Keep h0 h [] ∧ h0.size ≤ b ∧ Arv Z h b k .byte (6 : Int32) [(.int (0 : Int32)), (.int (0 : Int32)), (.int (0 : Int32)), (.int (0 : Int32)), (.int (0 : Int32)), (.int (0 : Int32))] (.int (0 : Int32))
set_option maxRecDepth 65536 in
set_option maxHeartbeats 40000000 in
theorem rmKf3 (l : Launch) (Z : State) (a0 : Array Value) (hw : ∀ d ∈ tables_1, d.before a0 Z = true) (ws : List Jvm.Cond) (cz : Int32) (fv : Value) (h0 : Heap) (n0 : Nat) (Z0 : n0 ≤ h0.size) (O0 : Old Z n0 h0) (J0 : Jd Z cz fv) :
    MetFree l mN13 (head1 (Jvm.Cond.code mN13 jdk_52_method_2_code 1 (some (.array .byte)) :: ws) rKKf3) (fun a U => a = #[(.int (3 : Int32))] ∧ Z.Warmed39 U.vm ∧ U.heap = h0) (fun _ _ _ _ _ => True) (fun _ U o U' => ∃ v L, o = .returned v ∧ QKf3 Z cz fv h0 n0 v U'.heap L ∧ FrameEnd U o U' L rKKf3.cells rKKf3.slots) := by
  refine MetFree.of_bodySF (plainFor_of_name pnKf3) hisR ?_
  intro p e s m args below meth c s₁ Bd hml0 hP hK
  obtain ⟨rfl, hZ, hh⟩ := hP
  have hx := Bd.exec
  have hby := Bd.bytes
  have hml : c.maxLocals = 1 := hml0
  have hown : s.vm.findClass "java/lang/StringUTF16" = some m.cls := findClass_of_methodNamed Bd.named
  have hnm := (name_of_methodNamed Bd.named Bd.method).1
  have X0 : Stand p l e rKKf3 s m #[(.int (3 : Int32))] below meth c s₁ [] 0 0 := Stand.of_body Bd
  have e0 : s₁.heap = h0 := by rw [← hh, Bd.state]; rfl
  have N0 := Fr.nil n0
  obtain ⟨EF, hEF⟩ : ∃ f, f = entryFrame m #[(.int (3 : Int32))] 1 := ⟨_, rfl⟩
  have pre0 : Go p e below s₁ (mkF m 0 #[iv (3 : Int32)] []) s₁ EF := fun t k => by rw [hEF]; exact castTop (efKf3 m ) k
  have pre1 : Go p e below s₁ (mkF m 1 #[iv (3 : Int32)] [(.int (3 : Int32))]) s₁ EF := fun t k => pre0 t (by
      refine XS.iloadN X0.here hx rfl (hb hby dKf3_0) rfl ?_
      exact k)
  obtain ⟨_, _, ⟨T2, L2, k2, n2⟩, -, X2, ⟨Lc2, hQ2, l2, y2, z2⟩, st2⟩ := Jvm.LawKit.callS X0 hx (y := mN12) hown (mvT hZ (hw _ (mW 85 rfl))) (mvT hZ (hw _ (mW 86 rfl))) (mvT hZ (hw _ (mW 46 rfl))) (mvT hZ (hw _ (mW 87 rfl))) (by decide) (backOf (W := 0) (rmKn3 l Z a0 hw []  cz fv  h0 n0 Z0 O0 J0 ) hZ (hw _ (mW 87 rfl)) (hw _ (mW 46 rfl)) (by decide) (by decide)) (g := (mkF m 1 #[iv (3 : Int32)] [(.int (3 : Int32))])) rfl (by rw [hml]; rfl) (argsL := [(.int (3 : Int32))]) (rest := []) (lenOf pdKf3_0 rfl) rfl (Nat.le_of_eq rfl) (hb hby dKf3_1) (fun _ _ => ⟨rfl, e0, wl rfl, wl rfl⟩)
  dsimp only [Pt.U, Pt.locs, Pt.cells, Pt.slots] at X2 l2 y2 z2 st2 hQ2
  subst l2 y2 z2
  obtain ⟨rfl, N2q, hq2⟩ := hQ2
  have N2 := Fr.app N0 N2q
  have pre3 : Go p e below T2 (mkF m 4 #[iv (3 : Int32)] [(.int (6 : Int32))]) s₁ EF := fun t k => pre1 t (st2 t k)
  have e2 : T2.heap = h0 := hq2
  obtain ⟨T4, h4, k4, X4, e4, Et4, A4, st4⟩ := newP X2 hx hZ (hw _ (mW 22 rfl)) e2 (g := (mkF m 4 #[iv (3 : Int32)] [(.int (6 : Int32))])) rfl (hb hby dKf3_4) rfl (by decide) (cap := 6) (by decide) (by decide) (by decide) (by decide)
  obtain ⟨b4, g4⟩ : ∃ z, z = h0.size := ⟨_, rfl⟩
  rw [← g4] at A4 st4
  have g_b4 : n0 ≤ b4 := Nat.le_trans Z0 (Nat.le_of_eq g4.symm)
  have sz_b4 : h0.size ≤ b4 := Nat.le_trans (Keep.refl h0 []).1 (Nat.le_of_eq g4.symm)
  have pre5 : Go p e below T4 (mkF m 6 #[iv (3 : Int32)] [(.ref b4)]) s₁ EF := fun t k => pre3 t (st4 t k)
  have O6 : Old Z n0 h4 := O0.ext Et4
  have Z6 : n0 ≤ h4.size := Nat.le_trans Z0 Et4.1
  have K6 : Keep h0 h4 [] := (Keep.refl h0 []).ext Et4
  have V4 : Arv Z h4 b4 k4 .byte (6 : Int32) [(.int (0 : Int32)), (.int (0 : Int32)), (.int (0 : Int32)), (.int (0 : Int32)), (.int (0 : Int32)), (.int (0 : Int32))] (.int (0 : Int32)) := (Arv.new A4 (by decide)).pad (pad_rep [] (.int (0 : Int32)) 6)
  obtain ⟨fs, hr, hrun, hended, hW, hsame⟩ := X4.leave (v := some (.ref b4)) (fun h => by rw [Bd.returns] at h; cases h)
  refine ⟨_, _, hEF ▸ pre5 _ (retOut X4 hx Bd.returns rfl (Or.inr (Or.inr (Or.inr (Or.inr ⟨rfl, rfl, rfl⟩)))) (hb hby dKf3_6) hr), hrun, hended, _, _, rfl, ?_, ⟨_, rfl⟩, hW, hsame.mono (by decide) (by decide)⟩
  show QKf3 Z cz fv h0 n0 _ T4.heap _
  rw [e4]
  exact ⟨_, _, rfl, N2, K6, sz_b4, V4⟩
abbrev rKKp2 : Room := { frames := 0, cells := 0, slots := 0, locals := 0 }
theorem dKp2_0 : decode jdk_52_method_4_code 0 = .ok (.getstatic 44, 3) := by decide +kernel
theorem dKp2_3 : decode jdk_52_method_4_code 3 = .ok (.ifCond .ne 25, 3) := by decide +kernel
theorem dKp2_28 : decode jdk_52_method_4_code 28 = .ok (.iload_n 1, 1) := by decide +kernel
theorem dKp2_29 : decode jdk_52_method_4_code 29 = .ok (.iconst 1, 1) := by decide +kernel
theorem dKp2_30 : decode jdk_52_method_4_code 30 = .ok (.ishl, 1) := by decide +kernel
theorem dKp2_31 : decode jdk_52_method_4_code 31 = .ok (.istore_n 1, 1) := by decide +kernel
theorem dKp2_32 : decode jdk_52_method_4_code 32 = .ok (.aload_n 0, 1) := by decide +kernel
theorem dKp2_33 : decode jdk_52_method_4_code 33 = .ok (.iload_n 1, 1) := by decide +kernel
theorem dKp2_34 : decode jdk_52_method_4_code 34 = .ok (.iinc 1 1, 3) := by decide +kernel
theorem dKp2_37 : decode jdk_52_method_4_code 37 = .ok (.iload_n 2, 1) := by decide +kernel
theorem dKp2_38 : decode jdk_52_method_4_code 38 = .ok (.getstatic 59, 3) := by decide +kernel
theorem dKp2_41 : decode jdk_52_method_4_code 41 = .ok (.ishr, 1) := by decide +kernel
theorem dKp2_42 : decode jdk_52_method_4_code 42 = .ok (.i2b, 1) := by decide +kernel
theorem dKp2_43 : decode jdk_52_method_4_code 43 = .ok (.bastore, 1) := by decide +kernel
theorem dKp2_44 : decode jdk_52_method_4_code 44 = .ok (.aload_n 0, 1) := by decide +kernel
theorem dKp2_45 : decode jdk_52_method_4_code 45 = .ok (.iload_n 1, 1) := by decide +kernel
theorem dKp2_46 : decode jdk_52_method_4_code 46 = .ok (.iload_n 2, 1) := by decide +kernel
theorem dKp2_47 : decode jdk_52_method_4_code 47 = .ok (.getstatic 63, 3) := by decide +kernel
theorem dKp2_50 : decode jdk_52_method_4_code 50 = .ok (.ishr, 1) := by decide +kernel
theorem dKp2_51 : decode jdk_52_method_4_code 51 = .ok (.i2b, 1) := by decide +kernel
theorem dKp2_52 : decode jdk_52_method_4_code 52 = .ok (.bastore, 1) := by decide +kernel
theorem dKp2_53 : decode jdk_52_method_4_code 53 = .ok (.return_, 1) := by decide +kernel
theorem pnKp2 : plainName "java/lang/StringUTF16" = true := by first | (simp [plainName, overriddenIn]; done) | decide +kernel
theorem efKp2 (m : MethodId) (a1 : Addr) (p2 : Int32) : entryFrame m #[(.ref a1), (.int (2 : Int32)), (.int p2)] 3 = mkF m 0 #[rv a1, iv (2 : Int32), iv p2] [] := by first | (simp [entryFrame, mkF, argsToLocals, Value.category]; done) | rfl
def QKp2 (Z : State) (a1 : Addr) (p2 : Int32) (cz : Int32) (fv : Value) (k : ClassId) (z : Int32) (vs : List Value) (h0 : Heap) (n0 : Nat) (v : Option Value) (h : Heap) (L : List Loc) : Prop := v = none ∧ Fr n0 L ∧ Keep h0 h [a1] ∧ Arv Z h a1 k .byte z ((vs.set 4 (.int (lo8 p2))).set 5 (.int (hi8 p2))) (.int 0)
set_option maxRecDepth 65536 in
set_option maxHeartbeats 40000000 in
theorem rmKp2 (l : Launch) (Z : State) (a0 : Array Value) (hw : ∀ d ∈ tables_1, d.before a0 Z = true) (ws : List Jvm.Cond) (a1 : Addr) (p2 : Int32) (cz : Int32) (fv : Value) (k : ClassId) (z : Int32) (vs : List Value) (h0 : Heap) (n0 : Nat) (Z0 : n0 ≤ h0.size) (O0 : Old Z n0 h0) (J0 : Jd Z cz fv) (VV : Arv Z h0 a1 k .byte z vs (.int 0)) (g_a1 : n0 ≤ a1) (hz0 : (4 : Int32) < z) (hz1 : (5 : Int32) < z) (hln : 5 < vs.length) :
    MetFree l mN14 (head1 (Jvm.Cond.code mN14 jdk_52_method_4_code 3 none :: ws) rKKp2) (fun a U => a = #[(.ref a1), (.int (2 : Int32)), (.int p2)] ∧ Z.Warmed39 U.vm ∧ U.heap = h0) (fun _ _ _ _ _ => True) (fun _ U o U' => ∃ v L, o = .returned v ∧ QKp2 Z a1 p2 cz fv k z vs h0 n0 v U'.heap L ∧ FrameEnd U o U' L rKKp2.cells rKKp2.slots) := by
  refine MetFree.of_bodySF (plainFor_of_name pnKp2) hisR ?_
  intro p e s m args below meth c s₁ Bd hml0 hP hK
  obtain ⟨rfl, hZ, hh⟩ := hP
  have hx := Bd.exec
  have hby := Bd.bytes
  have hml : c.maxLocals = 3 := hml0
  have hown : s.vm.findClass "java/lang/StringUTF16" = some m.cls := findClass_of_methodNamed Bd.named
  have hnm := (name_of_methodNamed Bd.named Bd.method).1
  have X0 : Stand p l e rKKp2 s m #[(.ref a1), (.int (2 : Int32)), (.int p2)] below meth c s₁ [] 0 0 := Stand.of_body Bd
  have e0 : s₁.heap = h0 := by rw [← hh, Bd.state]; rfl
  have N0 := Fr.nil n0
  obtain ⟨EF, hEF⟩ : ∃ f, f = entryFrame m #[(.ref a1), (.int (2 : Int32)), (.int p2)] 3 := ⟨_, rfl⟩
  have pre0 : Go p e below s₁ (mkF m 0 #[rv a1, iv (2 : Int32), iv p2] []) s₁ EF := fun t k => by rw [hEF]; exact castTop (efKp2 m a1 p2) k
  obtain ⟨T1, X1, e1, st1⟩ := getS2 X0 hx hZ hown (host := "") (Or.inl (hw _ (mW 92 rfl))) Via.refl e0 (J0.2.2.2.1.ext O0.2) (g := (mkF m 0 #[rv a1, iv (2 : Int32), iv p2] [])) rfl (hb hby dKp2_0)
  have pre2 : Go p e below T1 (mkF m 3 #[rv a1, iv (2 : Int32), iv p2] [(.int (1 : Int32))]) s₁ EF := fun t k => pre0 t (st1 t k)
  have pre3 : Go p e below T1 (mkF m 28 #[rv a1, iv (2 : Int32), iv p2] []) s₁ EF := fun t k => pre2 t (XS.ifYes X1.here hx rfl (pc0 := 3) (pc' := 28) rfl (hb hby dKp2_3) rfl ((if0 _ _).trans (feq (by decide : ¬ ((1 : Int32) = (0 : Int32)))).2) (by decide) (by decide) k)
  have pre4 : Go p e below T1 (mkF m 38 #[rv a1, iv (5 : Int32), iv p2] [(.int p2), (.int (4 : Int32)), (.ref a1)]) s₁ EF := fun t k => pre3 t (by
      refine XS.iloadN X1.here hx rfl (hb hby dKp2_28) rfl ?_
      refine XS.iconst X1.here hx rfl (hb hby dKp2_29) ?_
      refine XS.ishl X1.here hx rfl (hb hby dKp2_30) rfl ?_
      refine XS.istoreN X1.here hx rfl (hb hby dKp2_31) rfl (l' := #[rv a1, iv (4 : Int32), iv p2]) rfl ?_
      refine XS.aloadN X1.here hx rfl (hb hby dKp2_32) rfl rfl ?_
      refine XS.iloadN X1.here hx rfl (hb hby dKp2_33) rfl ?_
      refine XS.iinc X1.here hx rfl (hb hby dKp2_34) rfl (l' := #[rv a1, iv (5 : Int32), iv p2]) rfl ?_
      refine XS.iloadN X1.here hx rfl (hb hby dKp2_37) rfl ?_
      exact k)
  obtain ⟨T5, X5, e5, st5⟩ := getS2 X1 hx hZ hown (host := "") (Or.inl (hw _ (mW 93 rfl))) Via.refl e1 (J0.2.2.2.2.1.ext O0.2) (g := (mkF m 38 #[rv a1, iv (5 : Int32), iv p2] [(.int p2), (.int (4 : Int32)), (.ref a1)])) rfl (hb hby dKp2_38)
  have pre6 : Go p e below T5 (mkF m 41 #[rv a1, iv (5 : Int32), iv p2] [(.int (0 : Int32)), (.int p2), (.int (4 : Int32)), (.ref a1)]) s₁ EF := fun t k => pre4 t (st5 t k)
  have pre7 : Go p e below T5 (mkF m 43 #[rv a1, iv (5 : Int32), iv p2] [(.int ((p2 >>> ((0 : Int32) &&& 31)).toInt8.toInt32)), (.int (4 : Int32)), (.ref a1)]) s₁ EF := fun t k => pre6 t (by
      refine XS.ishr X5.here hx rfl (hb hby dKp2_41) rfl ?_
      refine XS.i2b X5.here hx rfl (hb hby dKp2_42) rfl ?_
      exact k)
  obtain ⟨cl8, Ar8, q8, Sz8, M8, H8, G8⟩ := id VV
  have hin8 : ¬ ((4 : Int32) < 0 ∨ cl8.slots.size ≤ ((4 : Int32)).toNatClampNeg) := inb_of Sz8 ⟨by decide, hz0⟩
  obtain ⟨T8, h8, X8, e8, W8, st8⟩ := stB X5 hx hZ e5 Ar8 (j := (4 : Int32)) hin8 (g := (mkF m 43 #[rv a1, iv (5 : Int32), iv p2] [(.int ((p2 >>> ((0 : Int32) &&& 31)).toInt8.toInt32)), (.int (4 : Int32)), (.ref a1)])) rfl rfl (hb hby dKp2_43)
  rw [own_i2b2] at W8
  have pre9 : Go p e below T8 (mkF m 44 #[rv a1, iv (5 : Int32), iv p2] []) s₁ EF := fun t k => pre7 t (st8 t k)
  have O10 : Old Z n0 h8 := O0.wr W8 g_a1
  have Z10 : n0 ≤ h8.size := Nat.le_trans Z0 (Keep.of_wr W8).1
  have K10 : Keep h0 h8 [a1] := (Keep.refl h0 [a1]).wr W8 (Or.inl (List.mem_of_getElem? (i := 0) rfl))
  have V8 : Arv Z h8 a1 k .byte z (vs.set 4 (.int ((p2 >>> ((0 : Int32) &&& 31)).toInt8.toInt32))) (.int (0 : Int32)) := Arv.set Ar8 q8 Sz8 M8 H8 G8 (fits_nar_byte _) W8 4 rfl (by first | (simp only [List.length_set]; omega) | omega)
  have N8 := Fr.snoc X8 N0 g_a1
  have pre11 : Go p e below T8 (mkF m 47 #[rv a1, iv (5 : Int32), iv p2] [(.int p2), (.int (5 : Int32)), (.ref a1)]) s₁ EF := fun t k => pre9 t (by
      refine XS.aloadN X8.here hx rfl (hb hby dKp2_44) rfl rfl ?_
      refine XS.iloadN X8.here hx rfl (hb hby dKp2_45) rfl ?_
      refine XS.iloadN X8.here hx rfl (hb hby dKp2_46) rfl ?_
      exact k)
  obtain ⟨T12, X12, e12, st12⟩ := getS2 X8 hx hZ hown (host := "") (Or.inl (hw _ (mW 94 rfl))) Via.refl e8 (J0.2.2.2.2.2.1.ext O10.2) (g := (mkF m 47 #[rv a1, iv (5 : Int32), iv p2] [(.int p2), (.int (5 : Int32)), (.ref a1)])) rfl (hb hby dKp2_47)
  have pre13 : Go p e below T12 (mkF m 50 #[rv a1, iv (5 : Int32), iv p2] [(.int (8 : Int32)), (.int p2), (.int (5 : Int32)), (.ref a1)]) s₁ EF := fun t k => pre11 t (st12 t k)
  have pre14 : Go p e below T12 (mkF m 52 #[rv a1, iv (5 : Int32), iv p2] [(.int ((p2 >>> ((8 : Int32) &&& 31)).toInt8.toInt32)), (.int (5 : Int32)), (.ref a1)]) s₁ EF := fun t k => pre13 t (by
      refine XS.ishr X12.here hx rfl (hb hby dKp2_50) rfl ?_
      refine XS.i2b X12.here hx rfl (hb hby dKp2_51) rfl ?_
      exact k)
  obtain ⟨cl15, Ar15, q15, Sz15, M15, H15, G15⟩ := id V8
  have hin15 : ¬ ((5 : Int32) < 0 ∨ cl15.slots.size ≤ ((5 : Int32)).toNatClampNeg) := inb_of Sz15 ⟨by decide, hz1⟩
  obtain ⟨T15, h15, X15, e15, W15, st15⟩ := stB X12 hx hZ e12 Ar15 (j := (5 : Int32)) hin15 (g := (mkF m 52 #[rv a1, iv (5 : Int32), iv p2] [(.int ((p2 >>> ((8 : Int32) &&& 31)).toInt8.toInt32)), (.int (5 : Int32)), (.ref a1)])) rfl rfl (hb hby dKp2_52)
  rw [own_i2b2] at W15
  have pre16 : Go p e below T15 (mkF m 53 #[rv a1, iv (5 : Int32), iv p2] []) s₁ EF := fun t k => pre14 t (st15 t k)
  have O17 : Old Z n0 h15 := O10.wr W15 g_a1
  have Z17 : n0 ≤ h15.size := Nat.le_trans Z10 (Keep.of_wr W15).1
  have K17 : Keep h0 h15 [a1] := K10.wr W15 (Or.inl (List.mem_of_getElem? (i := 0) rfl))
  have V15 : Arv Z h15 a1 k .byte z ((vs.set 4 (.int ((p2 >>> ((0 : Int32) &&& 31)).toInt8.toInt32))).set 5 (.int ((p2 >>> ((8 : Int32) &&& 31)).toInt8.toInt32))) (.int (0 : Int32)) := Arv.set Ar15 q15 Sz15 M15 H15 G15 (fits_nar_byte _) W15 5 rfl (by first | (simp only [List.length_set]; omega) | omega)
  have N15 := Fr.snoc X15 N8 g_a1
  obtain ⟨fs, hr, hrun, hended, hW, hsame⟩ := X15.leave (v := none) (fun _ => rfl)
  refine ⟨_, _, hEF ▸ pre16 _ (X15.returnOut hx Bd.returns (hb hby dKp2_53) hr), hrun, hended, _, _, rfl, ?_, ⟨_, rfl⟩, hW, hsame.mono (by decide) (by decide)⟩
  show QKp2 Z a1 p2 cz fv k z vs h0 n0 _ T15.heap _
  rw [e15]
  exact ⟨rfl, N15, K17, V15⟩
abbrev rKKt3 : Room := { frames := 2, cells := 1, slots := 6, locals := 24 }
theorem dKt3_0 : decode jdk_52_method_14_code 0 = .ok (.iload_n 2, 1) := by decide +kernel
theorem dKt3_1 : decode jdk_52_method_14_code 1 = .ok (.invokestatic 107, 3) := by decide +kernel
theorem dKt3_4 : decode jdk_52_method_14_code 4 = .ok (.astore_n 3, 1) := by decide +kernel
theorem dKt3_5 : decode jdk_52_method_14_code 5 = .ok (.iconst 0, 1) := by decide +kernel
theorem dKt3_6 : decode jdk_52_method_14_code 6 = .ok (.istore 4, 2) := by decide +kernel
theorem dKt3_8 : decode jdk_52_method_14_code 8 = .ok (.iload 4, 2) := by decide +kernel
theorem dKt3_10 : decode jdk_52_method_14_code 10 = .ok (.iload_n 2, 1) := by decide +kernel
theorem dKt3_11 : decode jdk_52_method_14_code 11 = .ok (.if_icmp .ge 21, 3) := by decide +kernel
theorem dKt3_14 : decode jdk_52_method_14_code 14 = .ok (.aload_n 3, 1) := by decide +kernel
theorem dKt3_15 : decode jdk_52_method_14_code 15 = .ok (.iload 4, 2) := by decide +kernel
theorem dKt3_17 : decode jdk_52_method_14_code 17 = .ok (.aload_n 0, 1) := by decide +kernel
theorem dKt3_18 : decode jdk_52_method_14_code 18 = .ok (.iload_n 1, 1) := by decide +kernel
theorem dKt3_19 : decode jdk_52_method_14_code 19 = .ok (.caload, 1) := by decide +kernel
theorem dKt3_20 : decode jdk_52_method_14_code 20 = .ok (.invokestatic 111, 3) := by decide +kernel
theorem dKt3_23 : decode jdk_52_method_14_code 23 = .ok (.iinc 1 1, 3) := by decide +kernel
theorem dKt3_26 : decode jdk_52_method_14_code 26 = .ok (.iinc 4 1, 3) := by decide +kernel
theorem dKt3_29 : decode jdk_52_method_14_code 29 = .ok (.goto (-21), 3) := by decide +kernel
theorem dKt3_32 : decode jdk_52_method_14_code 32 = .ok (.aload_n 3, 1) := by decide +kernel
theorem dKt3_33 : decode jdk_52_method_14_code 33 = .ok (.areturn, 1) := by decide +kernel
theorem pnKt3 : plainName "java/lang/StringUTF16" = true := by first | (simp [plainName, overriddenIn]; done) | decide +kernel
theorem pdKt3_0 : parseMethodDescriptor "(I)[B" = some ⟨[.int], some (.array .byte)⟩ := by decide +kernel
theorem pdKt3_1 : parseMethodDescriptor "([BII)V" = some ⟨[(.array .byte), .int, .int], none⟩ := by decide +kernel
theorem efKt3 (m : MethodId) (a1 : Addr) : entryFrame m #[(.ref a1), (.int (0 : Int32)), (.int (3 : Int32))] 5 = mkF m 0 #[rv a1, iv (0 : Int32), iv (3 : Int32), .unset, .unset] [] := by first | (simp [entryFrame, mkF, argsToLocals, Value.category]; done) | rfl
def QKt3 (Z : State) (a1 : Addr) (cz : Int32) (fv : Value) (k1 : ClassId) (c0 : Int32) (c1 : Int32) (c2 : Int32) (h0 : Heap) (n0 : Nat) (v : Option Value) (h : Heap) (L : List Loc) : Prop := ∃ b k, v = some (.ref b) ∧ Fr n0 L ∧ Keep h0 h [] ∧ h0.size ≤ b ∧ Arv Z h b k .byte (6 : Int32) [(.int (lo8 c0)), (.int (hi8 c0)), (.int (lo8 c1)), (.int (hi8 c1)), (.int (lo8 c2)), (.int (hi8 c2))] (.int (0 : Int32))
set_option maxRecDepth 65536 in
set_option maxHeartbeats 40000000 in
theorem rmKt3 (l : Launch) (Z : State) (a0 : Array Value) (hw : ∀ d ∈ tables_1, d.before a0 Z = true) (ws : List Jvm.Cond) (a1 : Addr) (cz : Int32) (fv : Value) (k1 : ClassId) (c0 : Int32) (c1 : Int32) (c2 : Int32) (h0 : Heap) (n0 : Nat) (Z0 : n0 ≤ h0.size) (O0 : Old Z n0 h0) (J0 : Jd Z cz fv) (V1 : Arv Z h0 a1 k1 .char (3 : Int32) [(.int c0), (.int c1), (.int c2)] (.int (0 : Int32))) :
    MetFree l mN15 (head1 (Jvm.Cond.code mN15 jdk_52_method_14_code 5 (some (.array .byte)) :: ws) rKKt3) (fun a U => a = #[(.ref a1), (.int (0 : Int32)), (.int (3 : Int32))] ∧ Z.Warmed39 U.vm ∧ U.heap = h0) (fun _ _ _ _ _ => True) (fun _ U o U' => ∃ v L, o = .returned v ∧ QKt3 Z a1 cz fv k1 c0 c1 c2 h0 n0 v U'.heap L ∧ FrameEnd U o U' L rKKt3.cells rKKt3.slots) := by
  refine MetFree.of_bodySF (plainFor_of_name pnKt3) hisR ?_
  intro p e s m args below meth c s₁ Bd hml0 hP hK
  obtain ⟨rfl, hZ, hh⟩ := hP
  have hx := Bd.exec
  have hby := Bd.bytes
  have hml : c.maxLocals = 5 := hml0
  have hown : s.vm.findClass "java/lang/StringUTF16" = some m.cls := findClass_of_methodNamed Bd.named
  have hnm := (name_of_methodNamed Bd.named Bd.method).1
  have X0 : Stand p l e rKKt3 s m #[(.ref a1), (.int (0 : Int32)), (.int (3 : Int32))] below meth c s₁ [] 0 0 := Stand.of_body Bd
  have e0 : s₁.heap = h0 := by rw [← hh, Bd.state]; rfl
  have N0 := Fr.nil n0
  obtain ⟨EF, hEF⟩ : ∃ f, f = entryFrame m #[(.ref a1), (.int (0 : Int32)), (.int (3 : Int32))] 5 := ⟨_, rfl⟩
  have pre0 : Go p e below s₁ (mkF m 0 #[rv a1, iv (0 : Int32), iv (3 : Int32), .unset, .unset] []) s₁ EF := fun t k => by rw [hEF]; exact castTop (efKt3 m a1) k
  have pre1 : Go p e below s₁ (mkF m 1 #[rv a1, iv (0 : Int32), iv (3 : Int32), .unset, .unset] [(.int (3 : Int32))]) s₁ EF := fun t k => pre0 t (by
      refine XS.iloadN X0.here hx rfl (hb hby dKt3_0) rfl ?_
      exact k)
  obtain ⟨_, _, ⟨T2, L2, k2, n2⟩, -, X2, ⟨Lc2, hQ2, l2, y2, z2⟩, st2⟩ := Jvm.LawKit.callS X0 hx (y := mN13) hown (mvT hZ (hw _ (mW 82 rfl))) (mvT hZ (hw _ (mW 83 rfl))) (mvT hZ (hw _ (mW 46 rfl))) (mvT hZ (hw _ (mW 84 rfl))) (by decide) (backOf (W := 0) (rmKf3 l Z a0 hw []  cz fv  h0 n0 Z0 O0 J0 ) hZ (hw _ (mW 84 rfl)) (hw _ (mW 46 rfl)) (by decide) (by decide)) (g := (mkF m 1 #[rv a1, iv (0 : Int32), iv (3 : Int32), .unset, .unset] [(.int (3 : Int32))])) rfl (by rw [hml]; rfl) (argsL := [(.int (3 : Int32))]) (rest := []) (lenOf pdKt3_0 rfl) rfl (Nat.le_of_eq rfl) (hb hby dKt3_1) (fun _ _ => ⟨rfl, e0, wl rfl, wl rfl⟩)
  dsimp only [Pt.U, Pt.locs, Pt.cells, Pt.slots] at X2 l2 y2 z2 st2 hQ2
  subst l2 y2 z2
  obtain ⟨bt, kb2, rfl, N2q, K2, hsz2, VB2⟩ := hQ2
  have N2 := Fr.app N0 N2q
  have pre3 : Go p e below T2 (mkF m 4 #[rv a1, iv (0 : Int32), iv (3 : Int32), .unset, .unset] [(.ref bt)]) s₁ EF := fun t k => pre1 t (st2 t k)
  have O4 : Old Z n0 T2.heap := O0.keep K2 all0
  have Z4 : n0 ≤ T2.heap.size := Nat.le_trans Z0 K2.1
  have K4 : Keep h0 T2.heap [] := (Keep.refl h0 []).trans K2 all0
  have g_bt : n0 ≤ bt := Nat.le_trans Z0 hsz2
  have sz_bt : h0.size ≤ bt := Nat.le_trans (Keep.refl h0 []).1 hsz2
  have ne_a1_bt : a1 ≠ bt := Nat.ne_of_lt (Nat.lt_of_lt_of_le V1.lt hsz2)
  have pre5 : Go p e below T2 (mkF m 11 #[rv a1, iv (0 : Int32), iv (3 : Int32), rv bt, iv (0 : Int32)] [(.int (3 : Int32)), (.int (0 : Int32))]) s₁ EF := fun t k => pre3 t (by
      refine XS.astoreN X2.here hx rfl (hb hby dKt3_4) rfl rfl (l' := #[rv a1, iv (0 : Int32), iv (3 : Int32), rv bt, .unset]) rfl ?_
      refine XS.iconst X2.here hx rfl (hb hby dKt3_5) ?_
      refine XS.istore X2.here hx rfl (hb hby dKt3_6) rfl (l' := #[rv a1, iv (0 : Int32), iv (3 : Int32), rv bt, iv (0 : Int32)]) rfl ?_
      refine XS.iload X2.here hx rfl (hb hby dKt3_8) rfl ?_
      refine XS.iloadN X2.here hx rfl (hb hby dKt3_10) rfl ?_
      exact k)
  have pre6 : Go p e below T2 (mkF m 14 #[rv a1, iv (0 : Int32), iv (3 : Int32), rv bt, iv (0 : Int32)] []) s₁ EF := fun t k => pre5 t (XS.icmpNo X2.here hx rfl (hb hby dKt3_11) rfl (tlt (by decide : (0 : Int32) < (3 : Int32))).2.1 k)
  have pre7 : Go p e below T2 (mkF m 19 #[rv a1, iv (0 : Int32), iv (3 : Int32), rv bt, iv (0 : Int32)] [(.int (0 : Int32)), (.ref a1), (.int (0 : Int32)), (.ref bt)]) s₁ EF := fun t k => pre6 t (by
      refine XS.aloadN X2.here hx rfl (hb hby dKt3_14) rfl rfl ?_
      refine XS.iload X2.here hx rfl (hb hby dKt3_15) rfl ?_
      refine XS.aloadN X2.here hx rfl (hb hby dKt3_17) rfl rfl ?_
      refine XS.iloadN X2.here hx rfl (hb hby dKt3_18) rfl ?_
      exact k)
  obtain ⟨cl8, Ar8, q8, Sz8, M8, H8, G8⟩ := id (V1.keep K2 nin0)
  have hin8 : ¬ ((0 : Int32) < 0 ∨ cl8.slots.size ≤ ((0 : Int32)).toNatClampNeg) := inb_of Sz8 ⟨by decide, by decide⟩
  have hat8 : cl8.slots[((0 : Int32)).toNatClampNeg]? = some (.int c0) := Has.at H8 hin8 rfl
  have pre9 : Go p e below T2 (mkF m 20 #[rv a1, iv (0 : Int32), iv (3 : Int32), rv bt, iv (0 : Int32)] [(.int c0), (.int (0 : Int32)), (.ref bt)]) s₁ EF := fun t k => pre7 t (by
      refine X2.caload hx (j := (0 : Int32)) (v := (.int c0)) Ar8.1 (State.isArrayOf_alike hZ.alike Ar8.2.1) Ar8.2.2 hin8 hat8 (g := (mkF m 19 #[rv a1, iv (0 : Int32), iv (3 : Int32), rv bt, iv (0 : Int32)] [(.int (0 : Int32)), (.ref a1), (.int (0 : Int32)), (.ref bt)])) rfl rfl (hb hby dKt3_19) _ ?_
      exact k)
  obtain ⟨_, _, ⟨T10, L10, k10, n10⟩, -, X10, ⟨Lc10, hQ10, l10, y10, z10⟩, st10⟩ := Jvm.LawKit.callS X2 hx (y := mN14) hown (mvT hZ (hw _ (mW 89 rfl))) (mvT hZ (hw _ (mW 90 rfl))) (mvT hZ (hw _ (mW 46 rfl))) (mvT hZ (hw _ (mW 91 rfl))) (by decide) (backOf (W := 0) (rmKp0 l Z a0 hw [] bt c0 cz fv kb2 (6 : Int32) _ T2.heap n0 Z4 O4 J0 VB2 g_bt (by decide) (by decide) (Nat.le_of_ble_eq_true rfl)) hZ (hw _ (mW 91 rfl)) (hw _ (mW 46 rfl)) (by decide) (by decide)) (g := (mkF m 20 #[rv a1, iv (0 : Int32), iv (3 : Int32), rv bt, iv (0 : Int32)] [(.int c0), (.int (0 : Int32)), (.ref bt)])) rfl (by rw [hml]; rfl) (argsL := [(.ref bt), (.int (0 : Int32)), (.int c0)]) (rest := []) (lenOf pdKt3_1 rfl) rfl (Nat.le_of_eq rfl) (hb hby dKt3_20) (fun _ _ => ⟨rfl, rfl, wl rfl, wl rfl⟩)
  dsimp only [Pt.U, Pt.locs, Pt.cells, Pt.slots] at X10 l10 y10 z10 st10 hQ10
  subst l10 y10 z10
  obtain ⟨rfl, N10q, K10, VQ10⟩ := hQ10
  have N10 := Fr.app N2 N10q
  have pre11 : Go p e below T10 (mkF m 23 #[rv a1, iv (0 : Int32), iv (3 : Int32), rv bt, iv (0 : Int32)] []) s₁ EF := fun t k => pre9 t (st10 t k)
  have O12 : Old Z n0 T10.heap := O4.keep K10 (allS g_bt all0)
  have Z12 : n0 ≤ T10.heap.size := Nat.le_trans Z4 K10.1
  have K12 : Keep h0 T10.heap [] := K4.trans K10 (allS (Or.inr sz_bt) all0)
  have VP10 : Arv Z T10.heap bt kb2 .byte (6 : Int32) [(.int (lo8 c0)), (.int (hi8 c0)), (.int (0 : Int32)), (.int (0 : Int32)), (.int (0 : Int32)), (.int (0 : Int32))] (.int (0 : Int32)) := VQ10
  have pre13 : Go p e below T10 (mkF m 11 #[rv a1, iv (1 : Int32), iv (3 : Int32), rv bt, iv (1 : Int32)] [(.int (3 : Int32)), (.int (1 : Int32))]) s₁ EF := fun t k => pre11 t (by
      refine XS.iinc X10.here hx rfl (hb hby dKt3_23) rfl (l' := #[rv a1, iv (1 : Int32), iv (3 : Int32), rv bt, iv (0 : Int32)]) rfl ?_
      refine XS.iinc X10.here hx rfl (hb hby dKt3_26) rfl (l' := #[rv a1, iv (1 : Int32), iv (3 : Int32), rv bt, iv (1 : Int32)]) rfl ?_
      refine XS.goto X10.here hx rfl (pc0 := 29) (pc' := 8) rfl (hb hby dKt3_29) (by decide) (by decide) ?_
      refine XS.iload X10.here hx rfl (hb hby dKt3_8) rfl ?_
      refine XS.iloadN X10.here hx rfl (hb hby dKt3_10) rfl ?_
      exact k)
  have pre14 : Go p e below T10 (mkF m 14 #[rv a1, iv (1 : Int32), iv (3 : Int32), rv bt, iv (1 : Int32)] []) s₁ EF := fun t k => pre13 t (XS.icmpNo X10.here hx rfl (hb hby dKt3_11) rfl (tlt (by decide : (1 : Int32) < (3 : Int32))).2.1 k)
  have pre15 : Go p e below T10 (mkF m 19 #[rv a1, iv (1 : Int32), iv (3 : Int32), rv bt, iv (1 : Int32)] [(.int (1 : Int32)), (.ref a1), (.int (1 : Int32)), (.ref bt)]) s₁ EF := fun t k => pre14 t (by
      refine XS.aloadN X10.here hx rfl (hb hby dKt3_14) rfl rfl ?_
      refine XS.iload X10.here hx rfl (hb hby dKt3_15) rfl ?_
      refine XS.aloadN X10.here hx rfl (hb hby dKt3_17) rfl rfl ?_
      refine XS.iloadN X10.here hx rfl (hb hby dKt3_18) rfl ?_
      exact k)
  obtain ⟨cl16, Ar16, q16, Sz16, M16, H16, G16⟩ := id ((V1.keep K2 nin0).keep K10 (ninS ne_a1_bt nin0))
  have hin16 : ¬ ((1 : Int32) < 0 ∨ cl16.slots.size ≤ ((1 : Int32)).toNatClampNeg) := inb_of Sz16 ⟨by decide, by decide⟩
  have hat16 : cl16.slots[((1 : Int32)).toNatClampNeg]? = some (.int c1) := Has.at H16 hin16 rfl
  have pre17 : Go p e below T10 (mkF m 20 #[rv a1, iv (1 : Int32), iv (3 : Int32), rv bt, iv (1 : Int32)] [(.int c1), (.int (1 : Int32)), (.ref bt)]) s₁ EF := fun t k => pre15 t (by
      refine X10.caload hx (j := (1 : Int32)) (v := (.int c1)) Ar16.1 (State.isArrayOf_alike hZ.alike Ar16.2.1) Ar16.2.2 hin16 hat16 (g := (mkF m 19 #[rv a1, iv (1 : Int32), iv (3 : Int32), rv bt, iv (1 : Int32)] [(.int (1 : Int32)), (.ref a1), (.int (1 : Int32)), (.ref bt)])) rfl rfl (hb hby dKt3_19) _ ?_
      exact k)
  obtain ⟨_, _, ⟨T18, L18, k18, n18⟩, -, X18, ⟨Lc18, hQ18, l18, y18, z18⟩, st18⟩ := Jvm.LawKit.callS X10 hx (y := mN14) hown (mvT hZ (hw _ (mW 89 rfl))) (mvT hZ (hw _ (mW 90 rfl))) (mvT hZ (hw _ (mW 46 rfl))) (mvT hZ (hw _ (mW 91 rfl))) (by decide) (backOf (W := 0) (rmKp1 l Z a0 hw [] bt c1 cz fv kb2 (6 : Int32) _ T10.heap n0 Z12 O12 J0 VP10 g_bt (by decide) (by decide) (Nat.le_of_ble_eq_true rfl)) hZ (hw _ (mW 91 rfl)) (hw _ (mW 46 rfl)) (by decide) (by decide)) (g := (mkF m 20 #[rv a1, iv (1 : Int32), iv (3 : Int32), rv bt, iv (1 : Int32)] [(.int c1), (.int (1 : Int32)), (.ref bt)])) rfl (by rw [hml]; rfl) (argsL := [(.ref bt), (.int (1 : Int32)), (.int c1)]) (rest := []) (lenOf pdKt3_1 rfl) rfl (Nat.le_of_eq rfl) (hb hby dKt3_20) (fun _ _ => ⟨rfl, rfl, wl rfl, wl rfl⟩)
  dsimp only [Pt.U, Pt.locs, Pt.cells, Pt.slots] at X18 l18 y18 z18 st18 hQ18
  subst l18 y18 z18
  obtain ⟨rfl, N18q, K18, VQ18⟩ := hQ18
  have N18 := Fr.app N10 N18q
  have pre19 : Go p e below T18 (mkF m 23 #[rv a1, iv (1 : Int32), iv (3 : Int32), rv bt, iv (1 : Int32)] []) s₁ EF := fun t k => pre17 t (st18 t k)
  have O20 : Old Z n0 T18.heap := O12.keep K18 (allS g_bt all0)
  have Z20 : n0 ≤ T18.heap.size := Nat.le_trans Z12 K18.1
  have K20 : Keep h0 T18.heap [] := K12.trans K18 (allS (Or.inr sz_bt) all0)
  have VP18 : Arv Z T18.heap bt kb2 .byte (6 : Int32) [(.int (lo8 c0)), (.int (hi8 c0)), (.int (lo8 c1)), (.int (hi8 c1)), (.int (0 : Int32)), (.int (0 : Int32))] (.int (0 : Int32)) := VQ18
  have pre21 : Go p e below T18 (mkF m 11 #[rv a1, iv (2 : Int32), iv (3 : Int32), rv bt, iv (2 : Int32)] [(.int (3 : Int32)), (.int (2 : Int32))]) s₁ EF := fun t k => pre19 t (by
      refine XS.iinc X18.here hx rfl (hb hby dKt3_23) rfl (l' := #[rv a1, iv (2 : Int32), iv (3 : Int32), rv bt, iv (1 : Int32)]) rfl ?_
      refine XS.iinc X18.here hx rfl (hb hby dKt3_26) rfl (l' := #[rv a1, iv (2 : Int32), iv (3 : Int32), rv bt, iv (2 : Int32)]) rfl ?_
      refine XS.goto X18.here hx rfl (pc0 := 29) (pc' := 8) rfl (hb hby dKt3_29) (by decide) (by decide) ?_
      refine XS.iload X18.here hx rfl (hb hby dKt3_8) rfl ?_
      refine XS.iloadN X18.here hx rfl (hb hby dKt3_10) rfl ?_
      exact k)
  have pre22 : Go p e below T18 (mkF m 14 #[rv a1, iv (2 : Int32), iv (3 : Int32), rv bt, iv (2 : Int32)] []) s₁ EF := fun t k => pre21 t (XS.icmpNo X18.here hx rfl (hb hby dKt3_11) rfl (tlt (by decide : (2 : Int32) < (3 : Int32))).2.1 k)
  have pre23 : Go p e below T18 (mkF m 19 #[rv a1, iv (2 : Int32), iv (3 : Int32), rv bt, iv (2 : Int32)] [(.int (2 : Int32)), (.ref a1), (.int (2 : Int32)), (.ref bt)]) s₁ EF := fun t k => pre22 t (by
      refine XS.aloadN X18.here hx rfl (hb hby dKt3_14) rfl rfl ?_
      refine XS.iload X18.here hx rfl (hb hby dKt3_15) rfl ?_
      refine XS.aloadN X18.here hx rfl (hb hby dKt3_17) rfl rfl ?_
      refine XS.iloadN X18.here hx rfl (hb hby dKt3_18) rfl ?_
      exact k)
  obtain ⟨cl24, Ar24, q24, Sz24, M24, H24, G24⟩ := id (((V1.keep K2 nin0).keep K10 (ninS ne_a1_bt nin0)).keep K18 (ninS ne_a1_bt nin0))
  have hin24 : ¬ ((2 : Int32) < 0 ∨ cl24.slots.size ≤ ((2 : Int32)).toNatClampNeg) := inb_of Sz24 ⟨by decide, by decide⟩
  have hat24 : cl24.slots[((2 : Int32)).toNatClampNeg]? = some (.int c2) := Has.at H24 hin24 rfl
  have pre25 : Go p e below T18 (mkF m 20 #[rv a1, iv (2 : Int32), iv (3 : Int32), rv bt, iv (2 : Int32)] [(.int c2), (.int (2 : Int32)), (.ref bt)]) s₁ EF := fun t k => pre23 t (by
      refine X18.caload hx (j := (2 : Int32)) (v := (.int c2)) Ar24.1 (State.isArrayOf_alike hZ.alike Ar24.2.1) Ar24.2.2 hin24 hat24 (g := (mkF m 19 #[rv a1, iv (2 : Int32), iv (3 : Int32), rv bt, iv (2 : Int32)] [(.int (2 : Int32)), (.ref a1), (.int (2 : Int32)), (.ref bt)])) rfl rfl (hb hby dKt3_19) _ ?_
      exact k)
  obtain ⟨_, _, ⟨T26, L26, k26, n26⟩, -, X26, ⟨Lc26, hQ26, l26, y26, z26⟩, st26⟩ := Jvm.LawKit.callS X18 hx (y := mN14) hown (mvT hZ (hw _ (mW 89 rfl))) (mvT hZ (hw _ (mW 90 rfl))) (mvT hZ (hw _ (mW 46 rfl))) (mvT hZ (hw _ (mW 91 rfl))) (by decide) (backOf (W := 0) (rmKp2 l Z a0 hw [] bt c2 cz fv kb2 (6 : Int32) _ T18.heap n0 Z20 O20 J0 VP18 g_bt (by decide) (by decide) (Nat.le_of_ble_eq_true rfl)) hZ (hw _ (mW 91 rfl)) (hw _ (mW 46 rfl)) (by decide) (by decide)) (g := (mkF m 20 #[rv a1, iv (2 : Int32), iv (3 : Int32), rv bt, iv (2 : Int32)] [(.int c2), (.int (2 : Int32)), (.ref bt)])) rfl (by rw [hml]; rfl) (argsL := [(.ref bt), (.int (2 : Int32)), (.int c2)]) (rest := []) (lenOf pdKt3_1 rfl) rfl (Nat.le_of_eq rfl) (hb hby dKt3_20) (fun _ _ => ⟨rfl, rfl, wl rfl, wl rfl⟩)
  dsimp only [Pt.U, Pt.locs, Pt.cells, Pt.slots] at X26 l26 y26 z26 st26 hQ26
  subst l26 y26 z26
  obtain ⟨rfl, N26q, K26, VQ26⟩ := hQ26
  have N26 := Fr.app N18 N26q
  have pre27 : Go p e below T26 (mkF m 23 #[rv a1, iv (2 : Int32), iv (3 : Int32), rv bt, iv (2 : Int32)] []) s₁ EF := fun t k => pre25 t (st26 t k)
  have O28 : Old Z n0 T26.heap := O20.keep K26 (allS g_bt all0)
  have Z28 : n0 ≤ T26.heap.size := Nat.le_trans Z20 K26.1
  have K28 : Keep h0 T26.heap [] := K20.trans K26 (allS (Or.inr sz_bt) all0)
  have VP26 : Arv Z T26.heap bt kb2 .byte (6 : Int32) [(.int (lo8 c0)), (.int (hi8 c0)), (.int (lo8 c1)), (.int (hi8 c1)), (.int (lo8 c2)), (.int (hi8 c2))] (.int (0 : Int32)) := VQ26
  have pre29 : Go p e below T26 (mkF m 11 #[rv a1, iv (3 : Int32), iv (3 : Int32), rv bt, iv (3 : Int32)] [(.int (3 : Int32)), (.int (3 : Int32))]) s₁ EF := fun t k => pre27 t (by
      refine XS.iinc X26.here hx rfl (hb hby dKt3_23) rfl (l' := #[rv a1, iv (3 : Int32), iv (3 : Int32), rv bt, iv (2 : Int32)]) rfl ?_
      refine XS.iinc X26.here hx rfl (hb hby dKt3_26) rfl (l' := #[rv a1, iv (3 : Int32), iv (3 : Int32), rv bt, iv (3 : Int32)]) rfl ?_
      refine XS.goto X26.here hx rfl (pc0 := 29) (pc' := 8) rfl (hb hby dKt3_29) (by decide) (by decide) ?_
      refine XS.iload X26.here hx rfl (hb hby dKt3_8) rfl ?_
      refine XS.iloadN X26.here hx rfl (hb hby dKt3_10) rfl ?_
      exact k)
  have pre30 : Go p e below T26 (mkF m 32 #[rv a1, iv (3 : Int32), iv (3 : Int32), rv bt, iv (3 : Int32)] []) s₁ EF := fun t k => pre29 t (XS.icmpYes X26.here hx rfl (pc0 := 11) (pc' := 32) rfl (hb hby dKt3_11) rfl (flt (by decide : ¬ ((3 : Int32) < (3 : Int32)))).2.1 (by decide) (by decide) k)
  have pre31 : Go p e below T26 (mkF m 33 #[rv a1, iv (3 : Int32), iv (3 : Int32), rv bt, iv (3 : Int32)] [(.ref bt)]) s₁ EF := fun t k => pre30 t (by
      refine XS.aloadN X26.here hx rfl (hb hby dKt3_32) rfl rfl ?_
      exact k)
  obtain ⟨fs, hr, hrun, hended, hW, hsame⟩ := X26.leave (v := some (.ref bt)) (fun h => by rw [Bd.returns] at h; cases h)
  refine ⟨_, _, hEF ▸ pre31 _ (retOut X26 hx Bd.returns rfl (Or.inr (Or.inr (Or.inr (Or.inr ⟨rfl, rfl, rfl⟩)))) (hb hby dKt3_33) hr), hrun, hended, _, _, rfl, ?_, ⟨_, rfl⟩, hW, hsame.mono (by decide) (by decide)⟩
  show QKt3 Z a1 cz fv k1 c0 c1 c2 h0 n0 _ T26.heap _
  exact ⟨_, _, rfl, N26, K28, sz_bt, VP26⟩
abbrev rKKb3 : Room := { frames := 3, cells := 2, slots := 9, locals := 40 }
theorem dKb3_0 : decode jdk_52_method_16_code 0 = .ok (.iload_n 2, 1) := by decide +kernel
theorem dKb3_1 : decode jdk_52_method_16_code 1 = .ok (.newarray .byte, 2) := by decide +kernel
theorem dKb3_3 : decode jdk_52_method_16_code 3 = .ok (.astore_n 3, 1) := by decide +kernel
theorem dKb3_4 : decode jdk_52_method_16_code 4 = .ok (.aload_n 0, 1) := by decide +kernel
theorem dKb3_5 : decode jdk_52_method_16_code 5 = .ok (.iload_n 1, 1) := by decide +kernel
theorem dKb3_6 : decode jdk_52_method_16_code 6 = .ok (.aload_n 3, 1) := by decide +kernel
theorem dKb3_7 : decode jdk_52_method_16_code 7 = .ok (.iconst 0, 1) := by decide +kernel
theorem dKb3_8 : decode jdk_52_method_16_code 8 = .ok (.iload_n 2, 1) := by decide +kernel
theorem dKb3_9 : decode jdk_52_method_16_code 9 = .ok (.invokestatic 115, 3) := by decide +kernel
theorem dKb3_12 : decode jdk_52_method_16_code 12 = .ok (.istore 4, 2) := by decide +kernel
theorem dKb3_14 : decode jdk_52_method_16_code 14 = .ok (.iload 4, 2) := by decide +kernel
theorem dKb3_16 : decode jdk_52_method_16_code 16 = .ok (.iload_n 2, 1) := by decide +kernel
theorem dKb3_17 : decode jdk_52_method_16_code 17 = .ok (.if_icmp .eq 40, 3) := by decide +kernel
theorem dKb3_20 : decode jdk_52_method_16_code 20 = .ok (.aload_n 0, 1) := by decide +kernel
theorem dKb3_21 : decode jdk_52_method_16_code 21 = .ok (.iload_n 1, 1) := by decide +kernel
theorem dKb3_22 : decode jdk_52_method_16_code 22 = .ok (.iload_n 2, 1) := by decide +kernel
theorem dKb3_23 : decode jdk_52_method_16_code 23 = .ok (.invokestatic 119, 3) := by decide +kernel
theorem dKb3_26 : decode jdk_52_method_16_code 26 = .ok (.astore 5, 2) := by decide +kernel
theorem dKb3_28 : decode jdk_52_method_16_code 28 = .ok (.aload 5, 2) := by decide +kernel
theorem dKb3_30 : decode jdk_52_method_16_code 30 = .ok (.iload 4, 2) := by decide +kernel
theorem dKb3_32 : decode jdk_52_method_16_code 32 = .ok (.invokestatic 71, 3) := by decide +kernel
theorem dKb3_35 : decode jdk_52_method_16_code 35 = .ok (.sipush 255, 3) := by decide +kernel
theorem dKb3_38 : decode jdk_52_method_16_code 38 = .ok (.if_icmp .gt 16, 3) := by decide +kernel
theorem dKb3_54 : decode jdk_52_method_16_code 54 = .ok (.aload 5, 2) := by decide +kernel
theorem dKb3_56 : decode jdk_52_method_16_code 56 = .ok (.areturn, 1) := by decide +kernel
theorem dKb3_57 : decode jdk_52_method_16_code 57 = .ok (.aload_n 3, 1) := by decide +kernel
theorem dKb3_58 : decode jdk_52_method_16_code 58 = .ok (.areturn, 1) := by decide +kernel
theorem pnKb3 : plainName "java/lang/StringUTF16" = true := by first | (simp [plainName, overriddenIn]; done) | decide +kernel
theorem pdKb3_0 : parseMethodDescriptor "([CI[BII)I" = some ⟨[(.array .char), .int, (.array .byte), .int, .int], some .int⟩ := by decide +kernel
theorem pdKb3_1 : parseMethodDescriptor "([CII)[B" = some ⟨[(.array .char), .int, .int], some (.array .byte)⟩ := by decide +kernel
theorem pdKb3_2 : parseMethodDescriptor "([BI)C" = some ⟨[(.array .byte), .int], some .char⟩ := by decide +kernel
theorem efKb3 (m : MethodId) (a1 : Addr) : entryFrame m #[(.ref a1), (.int (0 : Int32)), (.int (3 : Int32))] 6 = mkF m 0 #[rv a1, iv (0 : Int32), iv (3 : Int32), .unset, .unset, .unset] [] := by first | (simp [entryFrame, mkF, argsToLocals, Value.category]; done) | rfl
def QKb3 (Z : State) (a1 : Addr) (cz : Int32) (fv : Value) (k1 : ClassId) (c0 : Int32) (c1 : Int32) (c2 : Int32) (h0 : Heap) (n0 : Nat) (v : Option Value) (h : Heap) (L : List Loc) : Prop := (∃ b k, v = some (.ref b) ∧ Fr n0 L ∧ Keep h0 h [] ∧ h0.size ≤ b ∧ (∀ c ∈ [c0, c1, c2], ¬ (255 : Int32) < c) ∧ Arv Z h b k .byte (3 : Int32) [(.int (c0.toInt8.toInt32)), (.int (c1.toInt8.toInt32)), (.int (c2.toInt8.toInt32))] (.int (0 : Int32))) ∨ (∃ b k, v = some (.ref b) ∧ Fr n0 L ∧ Keep h0 h [] ∧ h0.size ≤ b ∧ Arv Z h b k .byte (6 : Int32) [(.int (lo8 c0)), (.int (hi8 c0)), (.int (lo8 c1)), (.int (hi8 c1)), (.int (lo8 c2)), (.int (hi8 c2))] (.int (0 : Int32)))
set_option maxRecDepth 65536 in
set_option maxHeartbeats 40000000 in
theorem rmKb3 (l : Launch) (Z : State) (a0 : Array Value) (hw : ∀ d ∈ tables_1, d.before a0 Z = true) (ws : List Jvm.Cond) (a1 : Addr) (cz : Int32) (fv : Value) (k1 : ClassId) (c0 : Int32) (c1 : Int32) (c2 : Int32) (h0 : Heap) (n0 : Nat) (Z0 : n0 ≤ h0.size) (O0 : Old Z n0 h0) (J0 : Jd Z cz fv) (V1 : Arv Z h0 a1 k1 .char (3 : Int32) [(.int c0), (.int c1), (.int c2)] (.int (0 : Int32))) (hrg : ∀ c ∈ [c0, c1, c2], 0 ≤ c.toInt ∧ c.toInt < 65536) :
    MetFree l mN16 (head1 (Jvm.Cond.code mN16 jdk_52_method_16_code 6 (some (.array .byte)) :: ws) rKKb3) (fun a U => a = #[(.ref a1), (.int (0 : Int32)), (.int (3 : Int32))] ∧ Z.Warmed39 U.vm ∧ U.heap = h0) (fun _ _ _ _ _ => True) (fun _ U o U' => ∃ v L, o = .returned v ∧ QKb3 Z a1 cz fv k1 c0 c1 c2 h0 n0 v U'.heap L ∧ FrameEnd U o U' L rKKb3.cells rKKb3.slots) := by
  refine MetFree.of_bodySF (plainFor_of_name pnKb3) hisR ?_
  intro p e s m args below meth c s₁ Bd hml0 hP hK
  obtain ⟨rfl, hZ, hh⟩ := hP
  have hx := Bd.exec
  have hby := Bd.bytes
  have hml : c.maxLocals = 6 := hml0
  have hown : s.vm.findClass "java/lang/StringUTF16" = some m.cls := findClass_of_methodNamed Bd.named
  have hnm := (name_of_methodNamed Bd.named Bd.method).1
  have X0 : Stand p l e rKKb3 s m #[(.ref a1), (.int (0 : Int32)), (.int (3 : Int32))] below meth c s₁ [] 0 0 := Stand.of_body Bd
  have e0 : s₁.heap = h0 := by rw [← hh, Bd.state]; rfl
  have N0 := Fr.nil n0
  obtain ⟨EF, hEF⟩ : ∃ f, f = entryFrame m #[(.ref a1), (.int (0 : Int32)), (.int (3 : Int32))] 6 := ⟨_, rfl⟩
  have pre0 : Go p e below s₁ (mkF m 0 #[rv a1, iv (0 : Int32), iv (3 : Int32), .unset, .unset, .unset] []) s₁ EF := fun t k => by rw [hEF]; exact castTop (efKb3 m a1) k
  have pre1 : Go p e below s₁ (mkF m 1 #[rv a1, iv (0 : Int32), iv (3 : Int32), .unset, .unset, .unset] [(.int (3 : Int32))]) s₁ EF := fun t k => pre0 t (by
      refine XS.iloadN X0.here hx rfl (hb hby dKb3_0) rfl ?_
      exact k)
  obtain ⟨T2, h2, k2, X2, e2, Et2, A2, st2⟩ := newP X0 hx hZ (hw _ (mW 22 rfl)) e0 (g := (mkF m 1 #[rv a1, iv (0 : Int32), iv (3 : Int32), .unset, .unset, .unset] [(.int (3 : Int32))])) rfl (hb hby dKb3_1) rfl (by decide) (cap := 3) (by decide) (by decide) (by decide) (by decide)
  obtain ⟨b2, g2⟩ : ∃ z, z = h0.size := ⟨_, rfl⟩
  rw [← g2] at A2 st2
  have g_b2 : n0 ≤ b2 := Nat.le_trans Z0 (Nat.le_of_eq g2.symm)
  have sz_b2 : h0.size ≤ b2 := Nat.le_trans (Keep.refl h0 []).1 (Nat.le_of_eq g2.symm)
  have ne_a1_b2 : a1 ≠ b2 := Nat.ne_of_lt (Nat.lt_of_lt_of_le V1.lt (Nat.le_of_eq g2.symm))
  have pre3 : Go p e below T2 (mkF m 3 #[rv a1, iv (0 : Int32), iv (3 : Int32), .unset, .unset, .unset] [(.ref b2)]) s₁ EF := fun t k => pre1 t (st2 t k)
  have O4 : Old Z n0 h2 := O0.ext Et2
  have Z4 : n0 ≤ h2.size := Nat.le_trans Z0 Et2.1
  have K4 : Keep h0 h2 [] := (Keep.refl h0 []).ext Et2
  have V2 : Arv Z h2 b2 k2 .byte (3 : Int32) [(.int (0 : Int32)), (.int (0 : Int32)), (.int (0 : Int32))] (.int (0 : Int32)) := (Arv.new A2 (by decide)).pad (pad_rep [] (.int (0 : Int32)) 3)
  have pre5 : Go p e below T2 (mkF m 9 #[rv a1, iv (0 : Int32), iv (3 : Int32), rv b2, .unset, .unset] [(.int (3 : Int32)), (.int (0 : Int32)), (.ref b2), (.int (0 : Int32)), (.ref a1)]) s₁ EF := fun t k => pre3 t (by
      refine XS.astoreN X2.here hx rfl (hb hby dKb3_3) rfl rfl (l' := #[rv a1, iv (0 : Int32), iv (3 : Int32), rv b2, .unset, .unset]) rfl ?_
      refine XS.aloadN X2.here hx rfl (hb hby dKb3_4) rfl rfl ?_
      refine XS.iloadN X2.here hx rfl (hb hby dKb3_5) rfl ?_
      refine XS.aloadN X2.here hx rfl (hb hby dKb3_6) rfl rfl ?_
      refine XS.iconst X2.here hx rfl (hb hby dKb3_7) ?_
      refine XS.iloadN X2.here hx rfl (hb hby dKb3_8) rfl ?_
      exact k)
  obtain ⟨_, _, ⟨T6, L6, k6, n6⟩, -, X6, ⟨Lc6, hQ6, l6, y6, z6⟩, st6⟩ := Jvm.LawKit.callS X2 hx (y := mN11) hown (mvT hZ (hw _ (mW 48 rfl))) (mvT hZ (hw _ (mW 49 rfl))) (mvT hZ (hw _ (mW 46 rfl))) (mvT hZ (hw _ (mW 50 rfl))) (by decide) (backOf (W := 0) (rmKa3 l Z a0 hw [] a1 b2 cz fv k1 k2 c0 c1 c2 h2 n0 Z4 O4 J0 (V1.ext Et2) V2 ne_a1_b2 g_b2) hZ (hw _ (mW 50 rfl)) (hw _ (mW 46 rfl)) (by decide) (by decide)) (g := (mkF m 9 #[rv a1, iv (0 : Int32), iv (3 : Int32), rv b2, .unset, .unset] [(.int (3 : Int32)), (.int (0 : Int32)), (.ref b2), (.int (0 : Int32)), (.ref a1)])) rfl (by rw [hml]; rfl) (argsL := [(.ref a1), (.int (0 : Int32)), (.ref b2), (.int (0 : Int32)), (.int (3 : Int32))]) (rest := []) (lenOf pdKb3_0 rfl) rfl (Nat.le_of_eq rfl) (hb hby dKb3_9) (fun _ _ => ⟨rfl, e2, wl rfl, wl rfl⟩)
  dsimp only [Pt.U, Pt.locs, Pt.cells, Pt.slots] at X6 l6 y6 z6 st6 hQ6
  subst l6 y6 z6
  rcases hQ6 with ⟨rfl, N6q, K6, LE6, VL6⟩ | ⟨iB, cB, rfl, N6q, K6, hi06, hni6, hci6, hgt6⟩
  · have N6 := Fr.app N0 N6q
    have pre7 : Go p e below T6 (mkF m 12 #[rv a1, iv (0 : Int32), iv (3 : Int32), rv b2, .unset, .unset] [(.int (3 : Int32))]) s₁ EF := fun t k => pre5 t (st6 t k)
    have O8 : Old Z n0 T6.heap := O4.keep K6 (allS g_b2 all0)
    have Z8 : n0 ≤ T6.heap.size := Nat.le_trans Z4 K6.1
    have K8 : Keep h0 T6.heap [] := K4.trans K6 (allS (Or.inr sz_b2) all0)
    have pre9 : Go p e below T6 (mkF m 17 #[rv a1, iv (0 : Int32), iv (3 : Int32), rv b2, iv (3 : Int32), .unset] [(.int (3 : Int32)), (.int (3 : Int32))]) s₁ EF := fun t k => pre7 t (by
        refine XS.istore X6.here hx rfl (hb hby dKb3_12) rfl (l' := #[rv a1, iv (0 : Int32), iv (3 : Int32), rv b2, iv (3 : Int32), .unset]) rfl ?_
        refine XS.iload X6.here hx rfl (hb hby dKb3_14) rfl ?_
        refine XS.iloadN X6.here hx rfl (hb hby dKb3_16) rfl ?_
        exact k)
    have pre10 : Go p e below T6 (mkF m 57 #[rv a1, iv (0 : Int32), iv (3 : Int32), rv b2, iv (3 : Int32), .unset] []) s₁ EF := fun t k => pre9 t (XS.icmpYes X6.here hx rfl (pc0 := 17) (pc' := 57) rfl (hb hby dKb3_17) rfl (teq (by decide : (3 : Int32) = (3 : Int32))).1 (by decide) (by decide) k)
    have pre11 : Go p e below T6 (mkF m 58 #[rv a1, iv (0 : Int32), iv (3 : Int32), rv b2, iv (3 : Int32), .unset] [(.ref b2)]) s₁ EF := fun t k => pre10 t (by
        refine XS.aloadN X6.here hx rfl (hb hby dKb3_57) rfl rfl ?_
        exact k)
    obtain ⟨fs, hr, hrun, hended, hW, hsame⟩ := X6.leave (v := some (.ref b2)) (fun h => by rw [Bd.returns] at h; cases h)
    refine ⟨_, _, hEF ▸ pre11 _ (retOut X6 hx Bd.returns rfl (Or.inr (Or.inr (Or.inr (Or.inr ⟨rfl, rfl, rfl⟩)))) (hb hby dKb3_58) hr), hrun, hended, _, _, rfl, ?_, ⟨_, rfl⟩, hW, hsame.mono (by decide) (by decide)⟩
    show QKb3 Z a1 cz fv k1 c0 c1 c2 h0 n0 _ T6.heap _
    exact Or.inl ⟨_, _, rfl, N6, K8, sz_b2, LE6, VL6⟩
  have N6 := Fr.app N0 N6q
  have pre12 : Go p e below T6 (mkF m 12 #[rv a1, iv (0 : Int32), iv (3 : Int32), rv b2, .unset, .unset] [(.int iB)]) s₁ EF := fun t k => pre5 t (st6 t k)
  have O13 : Old Z n0 T6.heap := O4.keep K6 (allS g_b2 all0)
  have Z13 : n0 ≤ T6.heap.size := Nat.le_trans Z4 K6.1
  have K13 : Keep h0 T6.heap [] := K4.trans K6 (allS (Or.inr sz_b2) all0)
  have pre14 : Go p e below T6 (mkF m 17 #[rv a1, iv (0 : Int32), iv (3 : Int32), rv b2, iv iB, .unset] [(.int (3 : Int32)), (.int iB)]) s₁ EF := fun t k => pre12 t (by
      refine XS.istore X6.here hx rfl (hb hby dKb3_12) rfl (l' := #[rv a1, iv (0 : Int32), iv (3 : Int32), rv b2, iv iB, .unset]) rfl ?_
      refine XS.iload X6.here hx rfl (hb hby dKb3_14) rfl ?_
      refine XS.iloadN X6.here hx rfl (hb hby dKb3_16) rfl ?_
      exact k)
  have pre15 : Go p e below T6 (mkF m 20 #[rv a1, iv (0 : Int32), iv (3 : Int32), rv b2, iv iB, .unset] []) s₁ EF := fun t k => pre14 t (XS.icmpNo X6.here hx rfl (hb hby dKb3_17) rfl (feq hni6).1 k)
  have pre16 : Go p e below T6 (mkF m 23 #[rv a1, iv (0 : Int32), iv (3 : Int32), rv b2, iv iB, .unset] [(.int (3 : Int32)), (.int (0 : Int32)), (.ref a1)]) s₁ EF := fun t k => pre15 t (by
      refine XS.aloadN X6.here hx rfl (hb hby dKb3_20) rfl rfl ?_
      refine XS.iloadN X6.here hx rfl (hb hby dKb3_21) rfl ?_
      refine XS.iloadN X6.here hx rfl (hb hby dKb3_22) rfl ?_
      exact k)
  obtain ⟨_, _, ⟨T17, L17, k17, n17⟩, -, X17, ⟨Lc17, hQ17, l17, y17, z17⟩, st17⟩ := Jvm.LawKit.callS X6 hx (y := mN15) hown (mvT hZ (hw _ (mW 79 rfl))) (mvT hZ (hw _ (mW 80 rfl))) (mvT hZ (hw _ (mW 46 rfl))) (mvT hZ (hw _ (mW 81 rfl))) (by decide) (backOf (W := 0) (rmKt3 l Z a0 hw [] a1 cz fv k1 c0 c1 c2 T6.heap n0 Z13 O13 J0 ((V1.ext Et2).keep K6 (ninS ne_a1_b2 nin0))) hZ (hw _ (mW 81 rfl)) (hw _ (mW 46 rfl)) (by decide) (by decide)) (g := (mkF m 23 #[rv a1, iv (0 : Int32), iv (3 : Int32), rv b2, iv iB, .unset] [(.int (3 : Int32)), (.int (0 : Int32)), (.ref a1)])) rfl (by rw [hml]; rfl) (argsL := [(.ref a1), (.int (0 : Int32)), (.int (3 : Int32))]) (rest := []) (lenOf pdKb3_1 rfl) rfl (Nat.le_of_eq rfl) (hb hby dKb3_23) (fun _ _ => ⟨rfl, rfl, wl rfl, wl rfl⟩)
  dsimp only [Pt.U, Pt.locs, Pt.cells, Pt.slots] at X17 l17 y17 z17 st17 hQ17
  subst l17 y17 z17
  obtain ⟨bw, kb17, rfl, N17q, K17, hsz17, VB17⟩ := hQ17
  have N17 := Fr.app N6 N17q
  have pre18 : Go p e below T17 (mkF m 26 #[rv a1, iv (0 : Int32), iv (3 : Int32), rv b2, iv iB, .unset] [(.ref bw)]) s₁ EF := fun t k => pre16 t (st17 t k)
  have O19 : Old Z n0 T17.heap := O13.keep K17 all0
  have Z19 : n0 ≤ T17.heap.size := Nat.le_trans Z13 K17.1
  have K19 : Keep h0 T17.heap [] := K13.trans K17 all0
  have g_bw : n0 ≤ bw := Nat.le_trans Z13 hsz17
  have sz_bw : h0.size ≤ bw := Nat.le_trans K13.1 hsz17
  have ne_a1_bw : a1 ≠ bw := Nat.ne_of_lt (Nat.lt_of_lt_of_le ((V1.ext Et2).keep K6 (ninS ne_a1_b2 nin0)).lt hsz17)
  have pre20 : Go p e below T17 (mkF m 32 #[rv a1, iv (0 : Int32), iv (3 : Int32), rv b2, iv iB, rv bw] [(.int iB), (.ref bw)]) s₁ EF := fun t k => pre18 t (by
      refine XS.astore X17.here hx rfl (hb hby dKb3_26) rfl rfl (l' := #[rv a1, iv (0 : Int32), iv (3 : Int32), rv b2, iv iB, rv bw]) rfl ?_
      refine XS.aload X17.here hx rfl (hb hby dKb3_28) rfl rfl ?_
      refine XS.iload X17.here hx rfl (hb hby dKb3_30) rfl ?_
      exact k)
  have hrB := hrg cB (List.mem_of_getElem? hci6)
  have hgB := own_gx (cs := [c0, c1, c2]) (z := (6 : Int32)) hi06 hci6 (by rfl) (Nat.le_of_ble_eq_true rfl)
  obtain ⟨_, _, ⟨T21, L21, k21, n21⟩, -, X21, ⟨Lc21, hQ21, l21, y21, z21⟩, st21⟩ := Jvm.LawKit.callS X17 hx (y := mN8) hown (mvT hZ (hw _ (mW 95 rfl))) (mvT hZ (hw _ (mW 96 rfl))) (mvT hZ (hw _ (mW 46 rfl))) (mvT hZ (hw _ (mW 97 rfl))) (by decide) (backOf (W := 0) (rmJgc l Z a0 hw [] bw iB cz fv kb17 (6 : Int32) _ cB cB T17.heap n0 Z19 O19 J0 VB17 hgB.1 hgB.2.1 hgB.2.2.1 hgB.2.2.2 hrB.1 hrB.2 rfl) hZ (hw _ (mW 97 rfl)) (hw _ (mW 46 rfl)) (by decide) (by decide)) (g := (mkF m 32 #[rv a1, iv (0 : Int32), iv (3 : Int32), rv b2, iv iB, rv bw] [(.int iB), (.ref bw)])) rfl (by rw [hml]; rfl) (argsL := [(.ref bw), (.int iB)]) (rest := []) (lenOf pdKb3_2 rfl) rfl (Nat.le_of_eq rfl) (hb hby dKb3_32) (fun _ _ => ⟨rfl, rfl, wl rfl, wl rfl⟩)
  dsimp only [Pt.U, Pt.locs, Pt.cells, Pt.slots] at X21 l21 y21 z21 st21 hQ21
  subst l21 y21 z21
  obtain ⟨rfl, N21q, hq21⟩ := hQ21
  have N21 := Fr.app N17 N21q
  have pre22 : Go p e below T21 (mkF m 35 #[rv a1, iv (0 : Int32), iv (3 : Int32), rv b2, iv iB, rv bw] [(.int cB)]) s₁ EF := fun t k => pre20 t (st21 t k)
  have e21 : T21.heap = T17.heap := hq21
  have pre23 : Go p e below T21 (mkF m 38 #[rv a1, iv (0 : Int32), iv (3 : Int32), rv b2, iv iB, rv bw] [(.int (255 : Int32)), (.int cB)]) s₁ EF := fun t k => pre22 t (by
      refine XS.sipush X21.here hx rfl (hb hby dKb3_35) ?_
      exact k)
  have pre24 : Go p e below T21 (mkF m 54 #[rv a1, iv (0 : Int32), iv (3 : Int32), rv b2, iv iB, rv bw] []) s₁ EF := fun t k => pre23 t (XS.icmpYes X21.here hx rfl (pc0 := 38) (pc' := 54) rfl (hb hby dKb3_38) rfl (tlt hgt6).2.2.1 (by decide) (by decide) k)
  have pre25 : Go p e below T21 (mkF m 56 #[rv a1, iv (0 : Int32), iv (3 : Int32), rv b2, iv iB, rv bw] [(.ref bw)]) s₁ EF := fun t k => pre24 t (by
      refine XS.aload X21.here hx rfl (hb hby dKb3_54) rfl rfl ?_
      exact k)
  obtain ⟨fs, hr, hrun, hended, hW, hsame⟩ := X21.leave (v := some (.ref bw)) (fun h => by rw [Bd.returns] at h; cases h)
  refine ⟨_, _, hEF ▸ pre25 _ (retOut X21 hx Bd.returns rfl (Or.inr (Or.inr (Or.inr (Or.inr ⟨rfl, rfl, rfl⟩)))) (hb hby dKb3_56) hr), hrun, hended, _, _, rfl, ?_, ⟨_, rfl⟩, hW, hsame.mono (by decide) (by decide)⟩
  show QKb3 Z a1 cz fv k1 c0 c1 c2 h0 n0 _ T21.heap _
  rw [e21]
  exact Or.inr ⟨_, _, rfl, N21, K19, sz_bw, VB17⟩
abbrev rKKc3_0 : Room := { frames := 0, cells := 0, slots := 0, locals := 0 }
theorem dKc3_0_0 : decode jdk_52_method_15_code 0 = .ok (.iload_n 1, 1) := by decide +kernel
theorem dKc3_0_1 : decode jdk_52_method_15_code 1 = .ok (.aload_n 0, 1) := by decide +kernel
theorem dKc3_0_2 : decode jdk_52_method_15_code 2 = .ok (.arraylength, 1) := by decide +kernel
theorem dKc3_0_3 : decode jdk_52_method_15_code 3 = .ok (.isub, 1) := by decide +kernel
theorem dKc3_0_4 : decode jdk_52_method_15_code 4 = .ok (.bipush 31, 2) := by decide +kernel
theorem dKc3_0_6 : decode jdk_52_method_15_code 6 = .ok (.iushr, 1) := by decide +kernel
theorem dKc3_0_7 : decode jdk_52_method_15_code 7 = .ok (.i2b, 1) := by decide +kernel
theorem dKc3_0_8 : decode jdk_52_method_15_code 8 = .ok (.ireturn, 1) := by decide +kernel
theorem pnKc3_0 : plainName "java/lang/StringUTF16" = true := by first | (simp [plainName, overriddenIn]; done) | decide +kernel
theorem efKc3_0 (m : MethodId) (a1 : Addr) : entryFrame m #[(.ref a1), (.int (3 : Int32))] 2 = mkF m 0 #[rv a1, iv (3 : Int32)] [] := by first | (simp [entryFrame, mkF, argsToLocals, Value.category]; done) | rfl
def QKc3_0 (Z : State) (a1 : Addr) (cz : Int32) (fv : Value) (k : ClassId) (vs : List Value) (h0 : Heap) (n0 : Nat) (v : Option Value) (h : Heap) (L : List Loc) : Prop := v = some (.int (0 : Int32)) ∧ Fr n0 L ∧ h = h0
set_option maxRecDepth 65536 in
set_option maxHeartbeats 40000000 in
theorem rmKc3_0 (l : Launch) (Z : State) (a0 : Array Value) (hw : ∀ d ∈ tables_1, d.before a0 Z = true) (ws : List Jvm.Cond) (a1 : Addr) (cz : Int32) (fv : Value) (k : ClassId) (vs : List Value) (h0 : Heap) (n0 : Nat) (Z0 : n0 ≤ h0.size) (O0 : Old Z n0 h0) (J0 : Jd Z cz fv) (VV : Arv Z h0 a1 k .byte (3 : Int32) vs (.int 0)) :
    MetFree l mN17 (head1 (Jvm.Cond.code mN17 jdk_52_method_15_code 2 (some .byte) :: ws) rKKc3_0) (fun a U => a = #[(.ref a1), (.int (3 : Int32))] ∧ Z.Warmed39 U.vm ∧ U.heap = h0) (fun _ _ _ _ _ => True) (fun _ U o U' => ∃ v L, o = .returned v ∧ QKc3_0 Z a1 cz fv k vs h0 n0 v U'.heap L ∧ FrameEnd U o U' L rKKc3_0.cells rKKc3_0.slots) := by
  refine MetFree.of_bodySF (plainFor_of_name pnKc3_0) hisR ?_
  intro p e s m args below meth c s₁ Bd hml0 hP hK
  obtain ⟨rfl, hZ, hh⟩ := hP
  have hx := Bd.exec
  have hby := Bd.bytes
  have hml : c.maxLocals = 2 := hml0
  have hown : s.vm.findClass "java/lang/StringUTF16" = some m.cls := findClass_of_methodNamed Bd.named
  have hnm := (name_of_methodNamed Bd.named Bd.method).1
  have X0 : Stand p l e rKKc3_0 s m #[(.ref a1), (.int (3 : Int32))] below meth c s₁ [] 0 0 := Stand.of_body Bd
  have e0 : s₁.heap = h0 := by rw [← hh, Bd.state]; rfl
  have N0 := Fr.nil n0
  obtain ⟨EF, hEF⟩ : ∃ f, f = entryFrame m #[(.ref a1), (.int (3 : Int32))] 2 := ⟨_, rfl⟩
  have pre0 : Go p e below s₁ (mkF m 0 #[rv a1, iv (3 : Int32)] []) s₁ EF := fun t k => by rw [hEF]; exact castTop (efKc3_0 m a1) k
  have pre1 : Go p e below s₁ (mkF m 2 #[rv a1, iv (3 : Int32)] [(.ref a1), (.int (3 : Int32))]) s₁ EF := fun t k => pre0 t (by
      refine XS.iloadN X0.here hx rfl (hb hby dKc3_0_0) rfl ?_
      refine XS.aloadN X0.here hx rfl (hb hby dKc3_0_1) rfl rfl ?_
      exact k)
  obtain ⟨cl2, Ar2, q2, Sz2, M2, H2, G2⟩ := id VV
  have pre3 : Go p e below s₁ (mkF m 8 #[rv a1, iv (3 : Int32)] [(.int (0 : Int32))]) s₁ EF := fun t k => pre1 t (by
      refine X0.arraylength hx (by rw [e0]; exact Ar2.1) (State.isArrayOf_alike hZ.alike Ar2.2.1) (g := (mkF m 2 #[rv a1, iv (3 : Int32)] [(.ref a1), (.int (3 : Int32))])) rfl rfl (hb hby dKc3_0_2) _ ?_
      rw [len_of Sz2 M2]
      refine XS.isub X0.here hx rfl (hb hby dKc3_0_3) rfl ?_
      refine XS.bipush X0.here hx rfl (hb hby dKc3_0_4) ?_
      refine XS.iushr X0.here hx rfl (hb hby dKc3_0_6) rfl ?_
      refine XS.i2b X0.here hx rfl (hb hby dKc3_0_7) rfl ?_
      exact k)
  have hnr : Value.int (nar .byte (0 : Int32)) = (.int (0 : Int32)) := by rfl
  obtain ⟨fs, hr, hrun, hended, hW, hsame⟩ := X0.leave (v := some (.int (0 : Int32))) (fun h => by rw [Bd.returns] at h; cases h)
  refine ⟨_, _, hEF ▸ pre3 _ (retN X0 hx (t := .byte) Bd.returns (by simp) (hb hby dKc3_0_8) (hnr ▸ hr)), hrun, hended, _, _, rfl, ?_, ⟨_, rfl⟩, hW, hsame.mono (by decide) (by decide)⟩
  show QKc3_0 Z a1 cz fv k vs h0 n0 _ s₁.heap _
  rw [e0]
  exact ⟨rfl, N0, rfl⟩
abbrev rKKc3_1 : Room := { frames := 0, cells := 0, slots := 0, locals := 0 }
theorem dKc3_1_0 : decode jdk_52_method_15_code 0 = .ok (.iload_n 1, 1) := by decide +kernel
theorem dKc3_1_1 : decode jdk_52_method_15_code 1 = .ok (.aload_n 0, 1) := by decide +kernel
theorem dKc3_1_2 : decode jdk_52_method_15_code 2 = .ok (.arraylength, 1) := by decide +kernel
theorem dKc3_1_3 : decode jdk_52_method_15_code 3 = .ok (.isub, 1) := by decide +kernel
theorem dKc3_1_4 : decode jdk_52_method_15_code 4 = .ok (.bipush 31, 2) := by decide +kernel
theorem dKc3_1_6 : decode jdk_52_method_15_code 6 = .ok (.iushr, 1) := by decide +kernel
theorem dKc3_1_7 : decode jdk_52_method_15_code 7 = .ok (.i2b, 1) := by decide +kernel
theorem dKc3_1_8 : decode jdk_52_method_15_code 8 = .ok (.ireturn, 1) := by decide +kernel
theorem pnKc3_1 : plainName "java/lang/StringUTF16" = true := by first | (simp [plainName, overriddenIn]; done) | decide +kernel
theorem efKc3_1 (m : MethodId) (a1 : Addr) : entryFrame m #[(.ref a1), (.int (3 : Int32))] 2 = mkF m 0 #[rv a1, iv (3 : Int32)] [] := by first | (simp [entryFrame, mkF, argsToLocals, Value.category]; done) | rfl
def QKc3_1 (Z : State) (a1 : Addr) (cz : Int32) (fv : Value) (k : ClassId) (vs : List Value) (h0 : Heap) (n0 : Nat) (v : Option Value) (h : Heap) (L : List Loc) : Prop := v = some (.int (1 : Int32)) ∧ Fr n0 L ∧ h = h0
set_option maxRecDepth 65536 in
set_option maxHeartbeats 40000000 in
theorem rmKc3_1 (l : Launch) (Z : State) (a0 : Array Value) (hw : ∀ d ∈ tables_1, d.before a0 Z = true) (ws : List Jvm.Cond) (a1 : Addr) (cz : Int32) (fv : Value) (k : ClassId) (vs : List Value) (h0 : Heap) (n0 : Nat) (Z0 : n0 ≤ h0.size) (O0 : Old Z n0 h0) (J0 : Jd Z cz fv) (VV : Arv Z h0 a1 k .byte (6 : Int32) vs (.int 0)) :
    MetFree l mN17 (head1 (Jvm.Cond.code mN17 jdk_52_method_15_code 2 (some .byte) :: ws) rKKc3_1) (fun a U => a = #[(.ref a1), (.int (3 : Int32))] ∧ Z.Warmed39 U.vm ∧ U.heap = h0) (fun _ _ _ _ _ => True) (fun _ U o U' => ∃ v L, o = .returned v ∧ QKc3_1 Z a1 cz fv k vs h0 n0 v U'.heap L ∧ FrameEnd U o U' L rKKc3_1.cells rKKc3_1.slots) := by
  refine MetFree.of_bodySF (plainFor_of_name pnKc3_1) hisR ?_
  intro p e s m args below meth c s₁ Bd hml0 hP hK
  obtain ⟨rfl, hZ, hh⟩ := hP
  have hx := Bd.exec
  have hby := Bd.bytes
  have hml : c.maxLocals = 2 := hml0
  have hown : s.vm.findClass "java/lang/StringUTF16" = some m.cls := findClass_of_methodNamed Bd.named
  have hnm := (name_of_methodNamed Bd.named Bd.method).1
  have X0 : Stand p l e rKKc3_1 s m #[(.ref a1), (.int (3 : Int32))] below meth c s₁ [] 0 0 := Stand.of_body Bd
  have e0 : s₁.heap = h0 := by rw [← hh, Bd.state]; rfl
  have N0 := Fr.nil n0
  obtain ⟨EF, hEF⟩ : ∃ f, f = entryFrame m #[(.ref a1), (.int (3 : Int32))] 2 := ⟨_, rfl⟩
  have pre0 : Go p e below s₁ (mkF m 0 #[rv a1, iv (3 : Int32)] []) s₁ EF := fun t k => by rw [hEF]; exact castTop (efKc3_1 m a1) k
  have pre1 : Go p e below s₁ (mkF m 2 #[rv a1, iv (3 : Int32)] [(.ref a1), (.int (3 : Int32))]) s₁ EF := fun t k => pre0 t (by
      refine XS.iloadN X0.here hx rfl (hb hby dKc3_1_0) rfl ?_
      refine XS.aloadN X0.here hx rfl (hb hby dKc3_1_1) rfl rfl ?_
      exact k)
  obtain ⟨cl2, Ar2, q2, Sz2, M2, H2, G2⟩ := id VV
  have pre3 : Go p e below s₁ (mkF m 8 #[rv a1, iv (3 : Int32)] [(.int (1 : Int32))]) s₁ EF := fun t k => pre1 t (by
      refine X0.arraylength hx (by rw [e0]; exact Ar2.1) (State.isArrayOf_alike hZ.alike Ar2.2.1) (g := (mkF m 2 #[rv a1, iv (3 : Int32)] [(.ref a1), (.int (3 : Int32))])) rfl rfl (hb hby dKc3_1_2) _ ?_
      rw [len_of Sz2 M2]
      refine XS.isub X0.here hx rfl (hb hby dKc3_1_3) rfl ?_
      refine XS.bipush X0.here hx rfl (hb hby dKc3_1_4) ?_
      refine XS.iushr X0.here hx rfl (hb hby dKc3_1_6) rfl ?_
      refine XS.i2b X0.here hx rfl (hb hby dKc3_1_7) rfl ?_
      exact k)
  have hnr : Value.int (nar .byte (1 : Int32)) = (.int (1 : Int32)) := by rfl
  obtain ⟨fs, hr, hrun, hended, hW, hsame⟩ := X0.leave (v := some (.int (1 : Int32))) (fun h => by rw [Bd.returns] at h; cases h)
  refine ⟨_, _, hEF ▸ pre3 _ (retN X0 hx (t := .byte) Bd.returns (by simp) (hb hby dKc3_1_8) (hnr ▸ hr)), hrun, hended, _, _, rfl, ?_, ⟨_, rfl⟩, hW, hsame.mono (by decide) (by decide)⟩
  show QKc3_1 Z a1 cz fv k vs h0 n0 _ s₁.heap _
  rw [e0]
  exact ⟨rfl, N0, rfl⟩
abbrev rKKi3 : Room := { frames := 4, cells := 2, slots := 9, locals := 57 }
theorem dKi3_0 : decode jdk_42_method_149_code 0 = .ok (.aload_n 0, 1) := by decide +kernel
theorem dKi3_1 : decode jdk_42_method_149_code 1 = .ok (.invokespecial 1, 3) := by decide +kernel
theorem dKi3_4 : decode jdk_42_method_149_code 4 = .ok (.iload_n 3, 1) := by decide +kernel
theorem dKi3_5 : decode jdk_42_method_149_code 5 = .ok (.ifCond .ne 22, 3) := by decide +kernel
theorem dKi3_27 : decode jdk_42_method_149_code 27 = .ok (.getstatic 38, 3) := by decide +kernel
theorem dKi3_30 : decode jdk_42_method_149_code 30 = .ok (.ifCond .eq 28, 3) := by decide +kernel
theorem dKi3_33 : decode jdk_42_method_149_code 33 = .ok (.aload_n 1, 1) := by decide +kernel
theorem dKi3_34 : decode jdk_42_method_149_code 34 = .ok (.iload_n 2, 1) := by decide +kernel
theorem dKi3_35 : decode jdk_42_method_149_code 35 = .ok (.iload_n 3, 1) := by decide +kernel
theorem dKi3_36 : decode jdk_42_method_149_code 36 = .ok (.invokestatic 177, 3) := by decide +kernel
theorem dKi3_39 : decode jdk_42_method_149_code 39 = .ok (.astore 5, 2) := by decide +kernel
theorem dKi3_41 : decode jdk_42_method_149_code 41 = .ok (.aload_n 0, 1) := by decide +kernel
theorem dKi3_42 : decode jdk_42_method_149_code 42 = .ok (.aload 5, 2) := by decide +kernel
theorem dKi3_44 : decode jdk_42_method_149_code 44 = .ok (.iload_n 3, 1) := by decide +kernel
theorem dKi3_45 : decode jdk_42_method_149_code 45 = .ok (.invokestatic 47, 3) := by decide +kernel
theorem dKi3_48 : decode jdk_42_method_149_code 48 = .ok (.putfield 15, 3) := by decide +kernel
theorem dKi3_51 : decode jdk_42_method_149_code 51 = .ok (.aload_n 0, 1) := by decide +kernel
theorem dKi3_52 : decode jdk_42_method_149_code 52 = .ok (.aload 5, 2) := by decide +kernel
theorem dKi3_54 : decode jdk_42_method_149_code 54 = .ok (.putfield 9, 3) := by decide +kernel
theorem dKi3_57 : decode jdk_42_method_149_code 57 = .ok (.return_, 1) := by decide +kernel
theorem pnKi3 : plainName "java/lang/String" = true := by first | (simp [plainName, overriddenIn]; done) | decide +kernel
theorem pdKi3_0 : parseMethodDescriptor "([CII)[B" = some ⟨[(.array .char), .int, .int], some (.array .byte)⟩ := by decide +kernel
theorem pdKi3_1 : parseMethodDescriptor "([BI)B" = some ⟨[(.array .byte), .int], some .byte⟩ := by decide +kernel
theorem efKi3 (m : MethodId) (a1 : Addr) (a2 : Addr) : entryFrame m #[(.ref a1), (.ref a2), (.int (0 : Int32)), (.int (3 : Int32)), .null] 6 = mkF m 0 #[rv a1, rv a2, iv (0 : Int32), iv (3 : Int32), .val .null, .unset] [] := by first | (simp [entryFrame, mkF, argsToLocals, Value.category]; done) | rfl
def QKi3 (Z : State) (a1 : Addr) (a2 : Addr) (cz : Int32) (fv : Value) (k1 : ClassId) (c0 : Int32) (c1 : Int32) (c2 : Int32) (h0 : Heap) (n0 : Nat) (v : Option Value) (h : Heap) (L : List Loc) : Prop := v = none ∧ Fr n0 L ∧ Keep h0 h [a1] ∧ Str Z h a1 [c0, c1, c2]
set_option maxRecDepth 65536 in
set_option maxHeartbeats 40000000 in
theorem rmKi3 (l : Launch) (Z : State) (a0 : Array Value) (hw : ∀ d ∈ tables_1, d.before a0 Z = true) (ws : List Jvm.Cond) (a1 : Addr) (a2 : Addr) (cz : Int32) (fv : Value) (k1 : ClassId) (c0 : Int32) (c1 : Int32) (c2 : Int32) (h0 : Heap) (n0 : Nat) (Z0 : n0 ≤ h0.size) (O0 : Old Z n0 h0) (J0 : Jd Z cz fv) (E1 : Exa Z h0 a1 "java/lang/String") (g_a1 : n0 ≤ a1) (F1 : Fld Z h0 a1 "java/lang/String" "value" "[B" .null) (F2 : Fld Z h0 a1 "java/lang/String" "coder" "B" (.int (0 : Int32))) (V2 : Arv Z h0 a2 k1 .char (3 : Int32) [(.int c0), (.int c1), (.int c2)] (.int (0 : Int32))) (hrg : ∀ c ∈ [c0, c1, c2], 0 ≤ c.toInt ∧ c.toInt < 65536) :
    MetFree l mN18 (head1 (Jvm.Cond.code mN18 jdk_42_method_149_code 6 none :: ws) rKKi3) (fun a U => a = #[(.ref a1), (.ref a2), (.int (0 : Int32)), (.int (3 : Int32)), .null] ∧ Z.Warmed39 U.vm ∧ U.heap = h0) (fun _ _ _ _ _ => True) (fun _ U o U' => ∃ v L, o = .returned v ∧ QKi3 Z a1 a2 cz fv k1 c0 c1 c2 h0 n0 v U'.heap L ∧ FrameEnd U o U' L rKKi3.cells rKKi3.slots) := by
  refine MetFree.of_bodySF (plainFor_of_name pnKi3) hisR ?_
  intro p e s m args below meth c s₁ Bd hml0 hP hK
  obtain ⟨rfl, hZ, hh⟩ := hP
  have hx := Bd.exec
  have hby := Bd.bytes
  have hml : c.maxLocals = 6 := hml0
  have hown : s.vm.findClass "java/lang/String" = some m.cls := findClass_of_methodNamed Bd.named
  have hnm := (name_of_methodNamed Bd.named Bd.method).1
  have X0 : Stand p l e rKKi3 s m #[(.ref a1), (.ref a2), (.int (0 : Int32)), (.int (3 : Int32)), .null] below meth c s₁ [] 0 0 := Stand.of_body Bd
  have e0 : s₁.heap = h0 := by rw [← hh, Bd.state]; rfl
  have N0 := Fr.nil n0
  obtain ⟨EF, hEF⟩ : ∃ f, f = entryFrame m #[(.ref a1), (.ref a2), (.int (0 : Int32)), (.int (3 : Int32)), .null] 6 := ⟨_, rfl⟩
  have pre0 : Go p e below s₁ (mkF m 0 #[rv a1, rv a2, iv (0 : Int32), iv (3 : Int32), .val .null, .unset] []) s₁ EF := fun t k => by rw [hEF]; exact castTop (efKi3 m a1 a2) k
  have pre1 : Go p e below s₁ (mkF m 1 #[rv a1, rv a2, iv (0 : Int32), iv (3 : Int32), .val .null, .unset] [(.ref a1)]) s₁ EF := fun t k => pre0 t (by
      refine XS.aloadN X0.here hx rfl (hb hby dKi3_0) rfl rfl ?_
      exact k)
  obtain ⟨T2, X2, e2, st2⟩ := initO X0 hx hZ hown (hw _ (mW 18 rfl)) (hw _ (mW 19 rfl)) (hw _ (mW 20 rfl)) e0 (g := (mkF m 1 #[rv a1, rv a2, iv (0 : Int32), iv (3 : Int32), .val .null, .unset] [(.ref a1)])) rfl (by rw [hml]; rfl) rfl (hb hby dKi3_1) (by decide) (W := 0) (Nat.le_of_eq rfl) (by decide)
  have pre3 : Go p e below T2 (mkF m 4 #[rv a1, rv a2, iv (0 : Int32), iv (3 : Int32), .val .null, .unset] []) s₁ EF := fun t k => pre1 t (st2 t k)
  have pre4 : Go p e below T2 (mkF m 5 #[rv a1, rv a2, iv (0 : Int32), iv (3 : Int32), .val .null, .unset] [(.int (3 : Int32))]) s₁ EF := fun t k => pre3 t (by
      refine XS.iloadN X2.here hx rfl (hb hby dKi3_4) rfl ?_
      exact k)
  have pre5 : Go p e below T2 (mkF m 27 #[rv a1, rv a2, iv (0 : Int32), iv (3 : Int32), .val .null, .unset] []) s₁ EF := fun t k => pre4 t (XS.ifYes X2.here hx rfl (pc0 := 5) (pc' := 27) rfl (hb hby dKi3_5) rfl ((if0 _ _).trans (feq (by decide : ¬ ((3 : Int32) = (0 : Int32)))).2) (by decide) (by decide) k)
  obtain ⟨T6, X6, e6, st6⟩ := getS2 X2 hx hZ hown (host := "") (Or.inl (hw _ (mW 43 rfl))) Via.refl e2 (J0.1.ext O0.2) (g := (mkF m 27 #[rv a1, rv a2, iv (0 : Int32), iv (3 : Int32), .val .null, .unset] [])) rfl (hb hby dKi3_27)
  have pre7 : Go p e below T6 (mkF m 30 #[rv a1, rv a2, iv (0 : Int32), iv (3 : Int32), .val .null, .unset] [(.int cz)]) s₁ EF := fun t k => pre5 t (st6 t k)
  have pre8 : Go p e below T6 (mkF m 33 #[rv a1, rv a2, iv (0 : Int32), iv (3 : Int32), .val .null, .unset] []) s₁ EF := fun t k => pre7 t (XS.ifNo X6.here hx rfl (hb hby dKi3_30) rfl ((if0 _ _).trans (feq J0.2.1).1) k)
  have pre9 : Go p e below T6 (mkF m 36 #[rv a1, rv a2, iv (0 : Int32), iv (3 : Int32), .val .null, .unset] [(.int (3 : Int32)), (.int (0 : Int32)), (.ref a2)]) s₁ EF := fun t k => pre8 t (by
      refine XS.aloadN X6.here hx rfl (hb hby dKi3_33) rfl rfl ?_
      refine XS.iloadN X6.here hx rfl (hb hby dKi3_34) rfl ?_
      refine XS.iloadN X6.here hx rfl (hb hby dKi3_35) rfl ?_
      exact k)
  obtain ⟨_, _, ⟨T10, L10, k10, n10⟩, -, X10, ⟨Lc10, hQ10, l10, y10, z10⟩, st10⟩ := Jvm.LawKit.callS X6 hx (y := mN16) hown (mvT hZ (hw _ (mW 44 rfl))) (mvT hZ (hw _ (mW 45 rfl))) (mvT hZ (hw _ (mW 46 rfl))) (mvT hZ (hw _ (mW 47 rfl))) (by decide) (backOf (W := 0) (rmKb3 l Z a0 hw [] a2 cz fv k1 c0 c1 c2 h0 n0 Z0 O0 J0 V2 hrg) hZ (hw _ (mW 47 rfl)) (hw _ (mW 46 rfl)) (by decide) (by decide)) (g := (mkF m 36 #[rv a1, rv a2, iv (0 : Int32), iv (3 : Int32), .val .null, .unset] [(.int (3 : Int32)), (.int (0 : Int32)), (.ref a2)])) rfl (by rw [hml]; rfl) (argsL := [(.ref a2), (.int (0 : Int32)), (.int (3 : Int32))]) (rest := []) (lenOf pdKi3_0 rfl) rfl (Nat.le_of_eq rfl) (hb hby dKi3_36) (fun _ _ => ⟨rfl, e6, wl rfl, wl rfl⟩)
  dsimp only [Pt.U, Pt.locs, Pt.cells, Pt.slots] at X10 l10 y10 z10 st10 hQ10
  subst l10 y10 z10
  rcases hQ10 with ⟨bv, kb10, rfl, N10q, K10, hsz10, LE10, VB10⟩ | ⟨bv, kb10, rfl, N10q, K10, hsz10, VB10⟩
  · have N10 := Fr.app N0 N10q
    have pre11 : Go p e below T10 (mkF m 39 #[rv a1, rv a2, iv (0 : Int32), iv (3 : Int32), .val .null, .unset] [(.ref bv)]) s₁ EF := fun t k => pre9 t (st10 t k)
    have O12 : Old Z n0 T10.heap := O0.keep K10 all0
    have Z12 : n0 ≤ T10.heap.size := Nat.le_trans Z0 K10.1
    have K12 : Keep h0 T10.heap [a1] := (Keep.refl h0 [a1]).trans K10 all0
    have g_bv : n0 ≤ bv := Nat.le_trans Z0 hsz10
    have sz_bv : h0.size ≤ bv := Nat.le_trans (Keep.refl h0 [a1]).1 hsz10
    have ne_a1_bv : a1 ≠ bv := Nat.ne_of_lt (Nat.lt_of_lt_of_le E1.lt hsz10)
    have pre13 : Go p e below T10 (mkF m 45 #[rv a1, rv a2, iv (0 : Int32), iv (3 : Int32), .val .null, rv bv] [(.int (3 : Int32)), (.ref bv), (.ref a1)]) s₁ EF := fun t k => pre11 t (by
        refine XS.astore X10.here hx rfl (hb hby dKi3_39) rfl rfl (l' := #[rv a1, rv a2, iv (0 : Int32), iv (3 : Int32), .val .null, rv bv]) rfl ?_
        refine XS.aloadN X10.here hx rfl (hb hby dKi3_41) rfl rfl ?_
        refine XS.aload X10.here hx rfl (hb hby dKi3_42) rfl rfl ?_
        refine XS.iloadN X10.here hx rfl (hb hby dKi3_44) rfl ?_
        exact k)
    obtain ⟨_, _, ⟨T14, L14, k14, n14⟩, -, X14, ⟨Lc14, hQ14, l14, y14, z14⟩, st14⟩ := Jvm.LawKit.callS X10 hx (y := mN17) hown (mvT hZ (hw _ (mW 51 rfl))) (mvT hZ (hw _ (mW 52 rfl))) (mvT hZ (hw _ (mW 46 rfl))) (mvT hZ (hw _ (mW 53 rfl))) (by decide) (backOf (W := 1) (rmKc3_0 l Z a0 hw [] bv cz fv kb10 _ T10.heap n0 Z12 O12 J0 VB10) hZ (hw _ (mW 53 rfl)) (hw _ (mW 46 rfl)) (by decide) (by decide)) (g := (mkF m 45 #[rv a1, rv a2, iv (0 : Int32), iv (3 : Int32), .val .null, rv bv] [(.int (3 : Int32)), (.ref bv), (.ref a1)])) rfl (by rw [hml]; rfl) (argsL := [(.ref bv), (.int (3 : Int32))]) (rest := [(.ref a1)]) (lenOf pdKi3_1 rfl) rfl (Nat.le_of_eq rfl) (hb hby dKi3_45) (fun _ _ => ⟨rfl, rfl, wl rfl, wl rfl⟩)
    dsimp only [Pt.U, Pt.locs, Pt.cells, Pt.slots] at X14 l14 y14 z14 st14 hQ14
    subst l14 y14 z14
    obtain ⟨rfl, N14q, hq14⟩ := hQ14
    have N14 := Fr.app N10 N14q
    have pre15 : Go p e below T14 (mkF m 48 #[rv a1, rv a2, iv (0 : Int32), iv (3 : Int32), .val .null, rv bv] [(.int (0 : Int32)), (.ref a1)]) s₁ EF := fun t k => pre13 t (st14 t k)
    have e14 : T14.heap = T10.heap := hq14
    obtain ⟨T16, h16, X16, e16, W16, st16⟩ := putFN X14 hx hZ hown (hw _ (mW 28 rfl)) Via.refl e14 (F2.keep K10 nin0) (E1.keep K10) (Or.inr ⟨(hw _ (mW 24 rfl)), rfl, hnm⟩) (hw _ (mW 9 rfl)) (ty := .byte) (v' := (.int (0 : Int32))) (by decide) rfl rfl (g := (mkF m 48 #[rv a1, rv a2, iv (0 : Int32), iv (3 : Int32), .val .null, rv bv] [(.int (0 : Int32)), (.ref a1)])) rfl rfl (hb hby dKi3_48)
    have pre17 : Go p e below T16 (mkF m 51 #[rv a1, rv a2, iv (0 : Int32), iv (3 : Int32), .val .null, rv bv] []) s₁ EF := fun t k => pre15 t (st16 t k)
    have O18 : Old Z n0 h16 := O12.wr W16 g_a1
    have Z18 : n0 ≤ h16.size := Nat.le_trans Z12 (Keep.of_wr W16).1
    have K18 : Keep h0 h16 [a1] := K12.wr W16 (Or.inl (List.mem_of_getElem? (i := 0) rfl))
    have Fw16 := Fld.same W16 (F2.keep K10 nin0)
    have N16 := Fr.snoc X16 N14 g_a1
    have pre19 : Go p e below T16 (mkF m 54 #[rv a1, rv a2, iv (0 : Int32), iv (3 : Int32), .val .null, rv bv] [(.ref bv), (.ref a1)]) s₁ EF := fun t k => pre17 t (by
        refine XS.aloadN X16.here hx rfl (hb hby dKi3_51) rfl rfl ?_
        refine XS.aload X16.here hx rfl (hb hby dKi3_52) rfl rfl ?_
        exact k)
    obtain ⟨T20, h20, X20, e20, W20, st20⟩ := putF X16 hx hZ hown (host := "") (Or.inl (hw _ (mW 27 rfl))) Via.refl e16 (Fld.other W16 (F1.keep K10 nin0) (Or.inr (slot_ne (Or.inr (hw _ (mW 23 rfl))) (Or.inr (hw _ (mW 24 rfl))) (by decide) (t := (.array .byte)) (t' := .byte) (by decide) (by decide)))) ((E1.keep K10).wr W16) (Or.inr ⟨(hw _ (mW 23 rfl)), rfl, hnm⟩) (hw _ (mW 9 rfl)) (ty := (.array .byte)) (by decide) rfl rfl (g := (mkF m 54 #[rv a1, rv a2, iv (0 : Int32), iv (3 : Int32), .val .null, rv bv] [(.ref bv), (.ref a1)])) rfl rfl (hb hby dKi3_54)
    have pre21 : Go p e below T20 (mkF m 57 #[rv a1, rv a2, iv (0 : Int32), iv (3 : Int32), .val .null, rv bv] []) s₁ EF := fun t k => pre19 t (st20 t k)
    have O22 : Old Z n0 h20 := O18.wr W20 g_a1
    have Z22 : n0 ≤ h20.size := Nat.le_trans Z18 (Keep.of_wr W20).1
    have K22 : Keep h0 h20 [a1] := K18.wr W20 (Or.inl (List.mem_of_getElem? (i := 0) rfl))
    have Fw20 := Fld.same W20 (Fld.other W16 (F1.keep K10 nin0) (Or.inr (slot_ne (Or.inr (hw _ (mW 23 rfl))) (Or.inr (hw _ (mW 24 rfl))) (by decide) (t := (.array .byte)) (t' := .byte) (by decide) (by decide))))
    have N20 := Fr.snoc X20 N16 g_a1
    obtain ⟨fs, hr, hrun, hended, hW, hsame⟩ := X20.leave (v := none) (fun _ => rfl)
    refine ⟨_, _, hEF ▸ pre21 _ (X20.returnOut hx Bd.returns (hb hby dKi3_57) hr), hrun, hended, _, _, rfl, ?_, ⟨_, rfl⟩, hW, hsame.mono (by decide) (by decide)⟩
    show QKi3 Z a1 a2 cz fv k1 c0 c1 c2 h0 n0 _ T20.heap _
    rw [e20]
    exact ⟨rfl, N20, K22, ⟨_, _, _, _, _, (((E1.keep K10).wr W16).wr W20), (Fld.other W20 Fw16 (Or.inr (slot_ne (Or.inr (hw _ (mW 24 rfl))) (Or.inr (hw _ (mW 23 rfl))) (by decide) (t := .byte) (t' := (.array .byte)) (by decide) (by decide)))), Fw20, ((VB10.other W16 (Ne.symm ne_a1_bv)).other W20 (Ne.symm ne_a1_bv)), Nat.le_of_ble_eq_true rfl, Or.inl ⟨rfl, by rfl, rfl, own_le hrg LE10⟩⟩⟩
  have N10 := Fr.app N0 N10q
  have pre23 : Go p e below T10 (mkF m 39 #[rv a1, rv a2, iv (0 : Int32), iv (3 : Int32), .val .null, .unset] [(.ref bv)]) s₁ EF := fun t k => pre9 t (st10 t k)
  have O24 : Old Z n0 T10.heap := O0.keep K10 all0
  have Z24 : n0 ≤ T10.heap.size := Nat.le_trans Z0 K10.1
  have K24 : Keep h0 T10.heap [a1] := (Keep.refl h0 [a1]).trans K10 all0
  have g_bv : n0 ≤ bv := Nat.le_trans Z0 hsz10
  have sz_bv : h0.size ≤ bv := Nat.le_trans (Keep.refl h0 [a1]).1 hsz10
  have ne_a1_bv : a1 ≠ bv := Nat.ne_of_lt (Nat.lt_of_lt_of_le E1.lt hsz10)
  have pre25 : Go p e below T10 (mkF m 45 #[rv a1, rv a2, iv (0 : Int32), iv (3 : Int32), .val .null, rv bv] [(.int (3 : Int32)), (.ref bv), (.ref a1)]) s₁ EF := fun t k => pre23 t (by
      refine XS.astore X10.here hx rfl (hb hby dKi3_39) rfl rfl (l' := #[rv a1, rv a2, iv (0 : Int32), iv (3 : Int32), .val .null, rv bv]) rfl ?_
      refine XS.aloadN X10.here hx rfl (hb hby dKi3_41) rfl rfl ?_
      refine XS.aload X10.here hx rfl (hb hby dKi3_42) rfl rfl ?_
      refine XS.iloadN X10.here hx rfl (hb hby dKi3_44) rfl ?_
      exact k)
  obtain ⟨_, _, ⟨T26, L26, k26, n26⟩, -, X26, ⟨Lc26, hQ26, l26, y26, z26⟩, st26⟩ := Jvm.LawKit.callS X10 hx (y := mN17) hown (mvT hZ (hw _ (mW 51 rfl))) (mvT hZ (hw _ (mW 52 rfl))) (mvT hZ (hw _ (mW 46 rfl))) (mvT hZ (hw _ (mW 53 rfl))) (by decide) (backOf (W := 1) (rmKc3_1 l Z a0 hw [] bv cz fv kb10 _ T10.heap n0 Z24 O24 J0 VB10) hZ (hw _ (mW 53 rfl)) (hw _ (mW 46 rfl)) (by decide) (by decide)) (g := (mkF m 45 #[rv a1, rv a2, iv (0 : Int32), iv (3 : Int32), .val .null, rv bv] [(.int (3 : Int32)), (.ref bv), (.ref a1)])) rfl (by rw [hml]; rfl) (argsL := [(.ref bv), (.int (3 : Int32))]) (rest := [(.ref a1)]) (lenOf pdKi3_1 rfl) rfl (Nat.le_of_eq rfl) (hb hby dKi3_45) (fun _ _ => ⟨rfl, rfl, wl rfl, wl rfl⟩)
  dsimp only [Pt.U, Pt.locs, Pt.cells, Pt.slots] at X26 l26 y26 z26 st26 hQ26
  subst l26 y26 z26
  obtain ⟨rfl, N26q, hq26⟩ := hQ26
  have N26 := Fr.app N10 N26q
  have pre27 : Go p e below T26 (mkF m 48 #[rv a1, rv a2, iv (0 : Int32), iv (3 : Int32), .val .null, rv bv] [(.int (1 : Int32)), (.ref a1)]) s₁ EF := fun t k => pre25 t (st26 t k)
  have e26 : T26.heap = T10.heap := hq26
  obtain ⟨T28, h28, X28, e28, W28, st28⟩ := putFN X26 hx hZ hown (hw _ (mW 28 rfl)) Via.refl e26 (F2.keep K10 nin0) (E1.keep K10) (Or.inr ⟨(hw _ (mW 24 rfl)), rfl, hnm⟩) (hw _ (mW 9 rfl)) (ty := .byte) (v' := (.int (1 : Int32))) (by decide) rfl rfl (g := (mkF m 48 #[rv a1, rv a2, iv (0 : Int32), iv (3 : Int32), .val .null, rv bv] [(.int (1 : Int32)), (.ref a1)])) rfl rfl (hb hby dKi3_48)
  have pre29 : Go p e below T28 (mkF m 51 #[rv a1, rv a2, iv (0 : Int32), iv (3 : Int32), .val .null, rv bv] []) s₁ EF := fun t k => pre27 t (st28 t k)
  have O30 : Old Z n0 h28 := O24.wr W28 g_a1
  have Z30 : n0 ≤ h28.size := Nat.le_trans Z24 (Keep.of_wr W28).1
  have K30 : Keep h0 h28 [a1] := K24.wr W28 (Or.inl (List.mem_of_getElem? (i := 0) rfl))
  have Fw28 := Fld.same W28 (F2.keep K10 nin0)
  have N28 := Fr.snoc X28 N26 g_a1
  have pre31 : Go p e below T28 (mkF m 54 #[rv a1, rv a2, iv (0 : Int32), iv (3 : Int32), .val .null, rv bv] [(.ref bv), (.ref a1)]) s₁ EF := fun t k => pre29 t (by
      refine XS.aloadN X28.here hx rfl (hb hby dKi3_51) rfl rfl ?_
      refine XS.aload X28.here hx rfl (hb hby dKi3_52) rfl rfl ?_
      exact k)
  obtain ⟨T32, h32, X32, e32, W32, st32⟩ := putF X28 hx hZ hown (host := "") (Or.inl (hw _ (mW 27 rfl))) Via.refl e28 (Fld.other W28 (F1.keep K10 nin0) (Or.inr (slot_ne (Or.inr (hw _ (mW 23 rfl))) (Or.inr (hw _ (mW 24 rfl))) (by decide) (t := (.array .byte)) (t' := .byte) (by decide) (by decide)))) ((E1.keep K10).wr W28) (Or.inr ⟨(hw _ (mW 23 rfl)), rfl, hnm⟩) (hw _ (mW 9 rfl)) (ty := (.array .byte)) (by decide) rfl rfl (g := (mkF m 54 #[rv a1, rv a2, iv (0 : Int32), iv (3 : Int32), .val .null, rv bv] [(.ref bv), (.ref a1)])) rfl rfl (hb hby dKi3_54)
  have pre33 : Go p e below T32 (mkF m 57 #[rv a1, rv a2, iv (0 : Int32), iv (3 : Int32), .val .null, rv bv] []) s₁ EF := fun t k => pre31 t (st32 t k)
  have O34 : Old Z n0 h32 := O30.wr W32 g_a1
  have Z34 : n0 ≤ h32.size := Nat.le_trans Z30 (Keep.of_wr W32).1
  have K34 : Keep h0 h32 [a1] := K30.wr W32 (Or.inl (List.mem_of_getElem? (i := 0) rfl))
  have Fw32 := Fld.same W32 (Fld.other W28 (F1.keep K10 nin0) (Or.inr (slot_ne (Or.inr (hw _ (mW 23 rfl))) (Or.inr (hw _ (mW 24 rfl))) (by decide) (t := (.array .byte)) (t' := .byte) (by decide) (by decide))))
  have N32 := Fr.snoc X32 N28 g_a1
  obtain ⟨fs, hr, hrun, hended, hW, hsame⟩ := X32.leave (v := none) (fun _ => rfl)
  refine ⟨_, _, hEF ▸ pre33 _ (X32.returnOut hx Bd.returns (hb hby dKi3_57) hr), hrun, hended, _, _, rfl, ?_, ⟨_, rfl⟩, hW, hsame.mono (by decide) (by decide)⟩
  show QKi3 Z a1 a2 cz fv k1 c0 c1 c2 h0 n0 _ T32.heap _
  rw [e32]
  exact ⟨rfl, N32, K34, ⟨_, _, _, _, _, (((E1.keep K10).wr W28).wr W32), (Fld.other W32 Fw28 (Or.inr (slot_ne (Or.inr (hw _ (mW 24 rfl))) (Or.inr (hw _ (mW 23 rfl))) (by decide) (t := .byte) (t' := (.array .byte)) (by decide) (by decide)))), Fw32, ((VB10.other W28 (Ne.symm ne_a1_bv)).other W32 (Ne.symm ne_a1_bv)), Nat.le_of_ble_eq_true rfl, Or.inr ⟨rfl, by rfl, rfl, hrg⟩⟩⟩
abbrev rKKj3 : Room := { frames := 5, cells := 2, slots := 9, locals := 74 }
theorem dKj3_0 : decode jdk_42_method_3_code 0 = .ok (.aload_n 0, 1) := by decide +kernel
theorem dKj3_1 : decode jdk_42_method_3_code 1 = .ok (.aload_n 1, 1) := by decide +kernel
theorem dKj3_2 : decode jdk_42_method_3_code 2 = .ok (.iconst 0, 1) := by decide +kernel
theorem dKj3_3 : decode jdk_42_method_3_code 3 = .ok (.aload_n 1, 1) := by decide +kernel
theorem dKj3_4 : decode jdk_42_method_3_code 4 = .ok (.arraylength, 1) := by decide +kernel
theorem dKj3_5 : decode jdk_42_method_3_code 5 = .ok (.aconst_null, 1) := by decide +kernel
theorem dKj3_6 : decode jdk_42_method_3_code 6 = .ok (.invokespecial 27, 3) := by decide +kernel
theorem dKj3_9 : decode jdk_42_method_3_code 9 = .ok (.return_, 1) := by decide +kernel
theorem pnKj3 : plainName "java/lang/String" = true := by first | (simp [plainName, overriddenIn]; done) | decide +kernel
theorem pdKj3_0 : parseMethodDescriptor "([CIILjava/lang/Void;)V" = some ⟨[(.array .char), .int, .int, (.object "java/lang/Void")], none⟩ := by decide +kernel
theorem efKj3 (m : MethodId) (a1 : Addr) (a2 : Addr) : entryFrame m #[(.ref a1), (.ref a2)] 2 = mkF m 0 #[rv a1, rv a2] [] := by first | (simp [entryFrame, mkF, argsToLocals, Value.category]; done) | rfl
def QKj3 (Z : State) (a1 : Addr) (a2 : Addr) (cz : Int32) (fv : Value) (k1 : ClassId) (c0 : Int32) (c1 : Int32) (c2 : Int32) (h0 : Heap) (n0 : Nat) (v : Option Value) (h : Heap) (L : List Loc) : Prop := v = none ∧ Fr n0 L ∧ Keep h0 h [a1] ∧ Str Z h a1 [c0, c1, c2]
set_option maxRecDepth 65536 in
set_option maxHeartbeats 40000000 in
theorem rmKj3 (l : Launch) (Z : State) (a0 : Array Value) (hw : ∀ d ∈ tables_1, d.before a0 Z = true) (ws : List Jvm.Cond) (a1 : Addr) (a2 : Addr) (cz : Int32) (fv : Value) (k1 : ClassId) (c0 : Int32) (c1 : Int32) (c2 : Int32) (h0 : Heap) (n0 : Nat) (Z0 : n0 ≤ h0.size) (O0 : Old Z n0 h0) (J0 : Jd Z cz fv) (E1 : Exa Z h0 a1 "java/lang/String") (g_a1 : n0 ≤ a1) (F1 : Fld Z h0 a1 "java/lang/String" "value" "[B" .null) (F2 : Fld Z h0 a1 "java/lang/String" "coder" "B" (.int (0 : Int32))) (V2 : Arv Z h0 a2 k1 .char (3 : Int32) [(.int c0), (.int c1), (.int c2)] (.int (0 : Int32))) (hrg : ∀ c ∈ [c0, c1, c2], 0 ≤ c.toInt ∧ c.toInt < 65536) :
    MetFree l mN19 (head1 (Jvm.Cond.code mN19 jdk_42_method_3_code 2 none :: ws) rKKj3) (fun a U => a = #[(.ref a1), (.ref a2)] ∧ Z.Warmed39 U.vm ∧ U.heap = h0) (fun _ _ _ _ _ => True) (fun _ U o U' => ∃ v L, o = .returned v ∧ QKj3 Z a1 a2 cz fv k1 c0 c1 c2 h0 n0 v U'.heap L ∧ FrameEnd U o U' L rKKj3.cells rKKj3.slots) := by
  refine MetFree.of_bodySF (plainFor_of_name pnKj3) hisR ?_
  intro p e s m args below meth c s₁ Bd hml0 hP hK
  obtain ⟨rfl, hZ, hh⟩ := hP
  have hx := Bd.exec
  have hby := Bd.bytes
  have hml : c.maxLocals = 2 := hml0
  have hown : s.vm.findClass "java/lang/String" = some m.cls := findClass_of_methodNamed Bd.named
  have hnm := (name_of_methodNamed Bd.named Bd.method).1
  have X0 : Stand p l e rKKj3 s m #[(.ref a1), (.ref a2)] below meth c s₁ [] 0 0 := Stand.of_body Bd
  have e0 : s₁.heap = h0 := by rw [← hh, Bd.state]; rfl
  have N0 := Fr.nil n0
  obtain ⟨EF, hEF⟩ : ∃ f, f = entryFrame m #[(.ref a1), (.ref a2)] 2 := ⟨_, rfl⟩
  have pre0 : Go p e below s₁ (mkF m 0 #[rv a1, rv a2] []) s₁ EF := fun t k => by rw [hEF]; exact castTop (efKj3 m a1 a2) k
  have pre1 : Go p e below s₁ (mkF m 4 #[rv a1, rv a2] [(.ref a2), (.int (0 : Int32)), (.ref a2), (.ref a1)]) s₁ EF := fun t k => pre0 t (by
      refine XS.aloadN X0.here hx rfl (hb hby dKj3_0) rfl rfl ?_
      refine XS.aloadN X0.here hx rfl (hb hby dKj3_1) rfl rfl ?_
      refine XS.iconst X0.here hx rfl (hb hby dKj3_2) ?_
      refine XS.aloadN X0.here hx rfl (hb hby dKj3_3) rfl rfl ?_
      exact k)
  obtain ⟨cl2, Ar2, q2, Sz2, M2, H2, G2⟩ := id V2
  have pre3 : Go p e below s₁ (mkF m 6 #[rv a1, rv a2] [.null, (.int (3 : Int32)), (.int (0 : Int32)), (.ref a2), (.ref a1)]) s₁ EF := fun t k => pre1 t (by
      refine X0.arraylength hx (by rw [e0]; exact Ar2.1) (State.isArrayOf_alike hZ.alike Ar2.2.1) (g := (mkF m 4 #[rv a1, rv a2] [(.ref a2), (.int (0 : Int32)), (.ref a2), (.ref a1)])) rfl rfl (hb hby dKj3_4) _ ?_
      rw [len_of Sz2 M2]
      refine XS.aconstNull X0.here hx rfl (hb hby dKj3_5) ?_
      exact k)
  obtain ⟨_, _, ⟨T4, L4, k4, n4⟩, -, X4, ⟨Lc4, hQ4, l4, y4, z4⟩, st4⟩ := X0.specialBack hx (y := mN18) rfl hown (mvT hZ (hw _ (mW 14 rfl))) (mvT hZ (hw _ (mW 15 rfl))) (mvT hZ (hw _ (mW 17 rfl))) (by decide) (backOf (W := 0) (rmKi3 l Z a0 hw [] a1 a2 cz fv k1 c0 c1 c2 h0 n0 Z0 O0 J0 E1 g_a1 F1 F2 V2 hrg) hZ (hw _ (mW 17 rfl)) (hw _ (mW 10 rfl)) (by decide) (by decide)) (g := (mkF m 6 #[rv a1, rv a2] [.null, (.int (3 : Int32)), (.int (0 : Int32)), (.ref a2), (.ref a1)])) rfl (by rw [hml]; rfl) (Steps.refl _) (a := a1) (argsL := [(.ref a2), (.int (0 : Int32)), (.int (3 : Int32)), .null]) (rest := []) (lenOf pdKj3_0 rfl) rfl (Nat.le_of_eq rfl) (hb hby dKj3_6) (fun _ _ => ⟨rfl, e0, wl rfl, wl rfl⟩)
  dsimp only [Pt.U, Pt.locs, Pt.cells, Pt.slots] at X4 l4 y4 z4 st4 hQ4
  subst l4 y4 z4
  obtain ⟨rfl, N4q, K4, SF4⟩ := hQ4
  have N4 := Fr.app N0 N4q
  have pre5 : Go p e below T4 (mkF m 9 #[rv a1, rv a2] []) s₁ EF := fun t k => pre3 t (st4.trans k)
  have O6 : Old Z n0 T4.heap := O0.keep K4 (allS g_a1 all0)
  have Z6 : n0 ≤ T4.heap.size := Nat.le_trans Z0 K4.1
  have K6 : Keep h0 T4.heap [a1] := (Keep.refl h0 [a1]).trans K4 (allS (Or.inl (List.mem_of_getElem? (i := 0) rfl)) all0)
  obtain ⟨fs, hr, hrun, hended, hW, hsame⟩ := X4.leave (v := none) (fun _ => rfl)
  refine ⟨_, _, hEF ▸ pre5 _ (X4.returnOut hx Bd.returns (hb hby dKj3_9) hr), hrun, hended, _, _, rfl, ?_, ⟨_, rfl⟩, hW, hsame.mono (by decide) (by decide)⟩
  show QKj3 Z a1 a2 cz fv k1 c0 c1 c2 h0 n0 _ T4.heap _
  exact ⟨rfl, N4, K6, SF4⟩
abbrev rKKa4 : Room := { frames := 0, cells := 0, slots := 0, locals := 0 }
theorem dKa4_0 : decode jdk_52_method_21_code 0 = .ok (.iconst 0, 1) := by decide +kernel
theorem dKa4_1 : decode jdk_52_method_21_code 1 = .ok (.istore 5, 2) := by decide +kernel
theorem dKa4_3 : decode jdk_52_method_21_code 3 = .ok (.iload 5, 2) := by decide +kernel
theorem dKa4_5 : decode jdk_52_method_21_code 5 = .ok (.iload 4, 2) := by decide +kernel
theorem dKa4_7 : decode jdk_52_method_21_code 7 = .ok (.if_icmp .ge 37, 3) := by decide +kernel
theorem dKa4_10 : decode jdk_52_method_21_code 10 = .ok (.aload_n 0, 1) := by decide +kernel
theorem dKa4_11 : decode jdk_52_method_21_code 11 = .ok (.iload_n 1, 1) := by decide +kernel
theorem dKa4_12 : decode jdk_52_method_21_code 12 = .ok (.caload, 1) := by decide +kernel
theorem dKa4_13 : decode jdk_52_method_21_code 13 = .ok (.istore 6, 2) := by decide +kernel
theorem dKa4_15 : decode jdk_52_method_21_code 15 = .ok (.iload 6, 2) := by decide +kernel
theorem dKa4_17 : decode jdk_52_method_21_code 17 = .ok (.sipush 255, 3) := by decide +kernel
theorem dKa4_20 : decode jdk_52_method_21_code 20 = .ok (.if_icmp .le 6, 3) := by decide +kernel
theorem dKa4_23 : decode jdk_52_method_21_code 23 = .ok (.iload 5, 2) := by decide +kernel
theorem dKa4_25 : decode jdk_52_method_21_code 25 = .ok (.ireturn, 1) := by decide +kernel
theorem dKa4_26 : decode jdk_52_method_21_code 26 = .ok (.aload_n 2, 1) := by decide +kernel
theorem dKa4_27 : decode jdk_52_method_21_code 27 = .ok (.iload_n 3, 1) := by decide +kernel
theorem dKa4_28 : decode jdk_52_method_21_code 28 = .ok (.iload 6, 2) := by decide +kernel
theorem dKa4_30 : decode jdk_52_method_21_code 30 = .ok (.i2b, 1) := by decide +kernel
theorem dKa4_31 : decode jdk_52_method_21_code 31 = .ok (.bastore, 1) := by decide +kernel
theorem dKa4_32 : decode jdk_52_method_21_code 32 = .ok (.iinc 1 1, 3) := by decide +kernel
theorem dKa4_35 : decode jdk_52_method_21_code 35 = .ok (.iinc 3 1, 3) := by decide +kernel
theorem dKa4_38 : decode jdk_52_method_21_code 38 = .ok (.iinc 5 1, 3) := by decide +kernel
theorem dKa4_41 : decode jdk_52_method_21_code 41 = .ok (.goto (-38), 3) := by decide +kernel
theorem dKa4_44 : decode jdk_52_method_21_code 44 = .ok (.iload 4, 2) := by decide +kernel
theorem dKa4_46 : decode jdk_52_method_21_code 46 = .ok (.ireturn, 1) := by decide +kernel
theorem pnKa4 : plainName "java/lang/StringUTF16" = true := by first | (simp [plainName, overriddenIn]; done) | decide +kernel
theorem efKa4 (m : MethodId) (a1 : Addr) (a2 : Addr) : entryFrame m #[(.ref a1), (.int (0 : Int32)), (.ref a2), (.int (0 : Int32)), (.int (4 : Int32))] 7 = mkF m 0 #[rv a1, iv (0 : Int32), rv a2, iv (0 : Int32), iv (4 : Int32), .unset, .unset] [] := by first | (simp [entryFrame, mkF, argsToLocals, Value.category]; done) | rfl
def QKa4 (Z : State) (a1 : Addr) (a2 : Addr) (cz : Int32) (fv : Value) (k1 : ClassId) (k2 : ClassId) (c0 : Int32) (c1 : Int32) (c2 : Int32) (c3 : Int32) (h0 : Heap) (n0 : Nat) (v : Option Value) (h : Heap) (L : List Loc) : Prop := (v = some (.int (4 : Int32)) ∧ Fr n0 L ∧ Keep h0 h [a2] ∧ (∀ c ∈ [c0, c1, c2, c3], ¬ (255 : Int32) < c) ∧ Arv Z h a2 k2 .byte (4 : Int32) [(.int (c0.toInt8.toInt32)), (.int (c1.toInt8.toInt32)), (.int (c2.toInt8.toInt32)), (.int (c3.toInt8.toInt32))] (.int (0 : Int32))) ∨ (∃ (i ci : Int32), v = some (.int i) ∧ Fr n0 L ∧ Keep h0 h [a2] ∧ ¬ i < 0 ∧ ¬ i = (4 : Int32) ∧ [c0, c1, c2, c3][i.toNatClampNeg]? = some ci ∧ (255 : Int32) < ci)
set_option maxRecDepth 65536 in
set_option maxHeartbeats 40000000 in
theorem rmKa4 (l : Launch) (Z : State) (a0 : Array Value) (hw : ∀ d ∈ tables_1, d.before a0 Z = true) (ws : List Jvm.Cond) (a1 : Addr) (a2 : Addr) (cz : Int32) (fv : Value) (k1 : ClassId) (k2 : ClassId) (c0 : Int32) (c1 : Int32) (c2 : Int32) (c3 : Int32) (h0 : Heap) (n0 : Nat) (Z0 : n0 ≤ h0.size) (O0 : Old Z n0 h0) (J0 : Jd Z cz fv) (V1 : Arv Z h0 a1 k1 .char (4 : Int32) [(.int c0), (.int c1), (.int c2), (.int c3)] (.int (0 : Int32))) (V2 : Arv Z h0 a2 k2 .byte (4 : Int32) [(.int (0 : Int32)), (.int (0 : Int32)), (.int (0 : Int32)), (.int (0 : Int32))] (.int (0 : Int32))) (ne12 : a1 ≠ a2) (g_a2 : n0 ≤ a2) :
    MetFree l mN11 (head1 (Jvm.Cond.code mN11 jdk_52_method_21_code 7 (some .int) :: ws) rKKa4) (fun a U => a = #[(.ref a1), (.int (0 : Int32)), (.ref a2), (.int (0 : Int32)), (.int (4 : Int32))] ∧ Z.Warmed39 U.vm ∧ U.heap = h0) (fun _ _ _ _ _ => True) (fun _ U o U' => ∃ v L, o = .returned v ∧ QKa4 Z a1 a2 cz fv k1 k2 c0 c1 c2 c3 h0 n0 v U'.heap L ∧ FrameEnd U o U' L rKKa4.cells rKKa4.slots) := by
  refine MetFree.of_bodySF (plainFor_of_name pnKa4) hisR ?_
  intro p e s m args below meth c s₁ Bd hml0 hP hK
  obtain ⟨rfl, hZ, hh⟩ := hP
  have hx := Bd.exec
  have hby := Bd.bytes
  have hml : c.maxLocals = 7 := hml0
  have hown : s.vm.findClass "java/lang/StringUTF16" = some m.cls := findClass_of_methodNamed Bd.named
  have hnm := (name_of_methodNamed Bd.named Bd.method).1
  have X0 : Stand p l e rKKa4 s m #[(.ref a1), (.int (0 : Int32)), (.ref a2), (.int (0 : Int32)), (.int (4 : Int32))] below meth c s₁ [] 0 0 := Stand.of_body Bd
  have e0 : s₁.heap = h0 := by rw [← hh, Bd.state]; rfl
  have N0 := Fr.nil n0
  obtain ⟨EF, hEF⟩ : ∃ f, f = entryFrame m #[(.ref a1), (.int (0 : Int32)), (.ref a2), (.int (0 : Int32)), (.int (4 : Int32))] 7 := ⟨_, rfl⟩
  have pre0 : Go p e below s₁ (mkF m 0 #[rv a1, iv (0 : Int32), rv a2, iv (0 : Int32), iv (4 : Int32), .unset, .unset] []) s₁ EF := fun t k => by rw [hEF]; exact castTop (efKa4 m a1 a2) k
  have pre1 : Go p e below s₁ (mkF m 7 #[rv a1, iv (0 : Int32), rv a2, iv (0 : Int32), iv (4 : Int32), iv (0 : Int32), .unset] [(.int (4 : Int32)), (.int (0 : Int32))]) s₁ EF := fun t k => pre0 t (by
      refine XS.iconst X0.here hx rfl (hb hby dKa4_0) ?_
      refine XS.istore X0.here hx rfl (hb hby dKa4_1) rfl (l' := #[rv a1, iv (0 : Int32), rv a2, iv (0 : Int32), iv (4 : Int32), iv (0 : Int32), .unset]) rfl ?_
      refine XS.iload X0.here hx rfl (hb hby dKa4_3) rfl ?_
      refine XS.iload X0.here hx rfl (hb hby dKa4_5) rfl ?_
      exact k)
  have pre2 : Go p e below s₁ (mkF m 10 #[rv a1, iv (0 : Int32), rv a2, iv (0 : Int32), iv (4 : Int32), iv (0 : Int32), .unset] []) s₁ EF := fun t k => pre1 t (XS.icmpNo X0.here hx rfl (hb hby dKa4_7) rfl (tlt (by decide : (0 : Int32) < (4 : Int32))).2.1 k)
  have pre3 : Go p e below s₁ (mkF m 12 #[rv a1, iv (0 : Int32), rv a2, iv (0 : Int32), iv (4 : Int32), iv (0 : Int32), .unset] [(.int (0 : Int32)), (.ref a1)]) s₁ EF := fun t k => pre2 t (by
      refine XS.aloadN X0.here hx rfl (hb hby dKa4_10) rfl rfl ?_
      refine XS.iloadN X0.here hx rfl (hb hby dKa4_11) rfl ?_
      exact k)
  obtain ⟨cl4, Ar4, q4, Sz4, M4, H4, G4⟩ := id V1
  have hin4 : ¬ ((0 : Int32) < 0 ∨ cl4.slots.size ≤ ((0 : Int32)).toNatClampNeg) := inb_of Sz4 ⟨by decide, by decide⟩
  have hat4 : cl4.slots[((0 : Int32)).toNatClampNeg]? = some (.int c0) := Has.at H4 hin4 rfl
  have pre5 : Go p e below s₁ (mkF m 20 #[rv a1, iv (0 : Int32), rv a2, iv (0 : Int32), iv (4 : Int32), iv (0 : Int32), iv c0] [(.int (255 : Int32)), (.int c0)]) s₁ EF := fun t k => pre3 t (by
      refine X0.caload hx (j := (0 : Int32)) (v := (.int c0)) (by rw [e0]; exact Ar4.1) (State.isArrayOf_alike hZ.alike Ar4.2.1) Ar4.2.2 hin4 hat4 (g := (mkF m 12 #[rv a1, iv (0 : Int32), rv a2, iv (0 : Int32), iv (4 : Int32), iv (0 : Int32), .unset] [(.int (0 : Int32)), (.ref a1)])) rfl rfl (hb hby dKa4_12) _ ?_
      refine XS.istore X0.here hx rfl (hb hby dKa4_13) rfl (l' := #[rv a1, iv (0 : Int32), rv a2, iv (0 : Int32), iv (4 : Int32), iv (0 : Int32), iv c0]) rfl ?_
      refine XS.iload X0.here hx rfl (hb hby dKa4_15) rfl ?_
      refine XS.sipush X0.here hx rfl (hb hby dKa4_17) ?_
      exact k)
  by_cases hc20 : (255 : Int32) < c0
  · have pre6 : Go p e below s₁ (mkF m 23 #[rv a1, iv (0 : Int32), rv a2, iv (0 : Int32), iv (4 : Int32), iv (0 : Int32), iv c0] []) s₁ EF := fun t k => pre5 t (XS.icmpNo X0.here hx rfl (hb hby dKa4_20) rfl (tlt hc20).2.2.2 k)
    have pre7 : Go p e below s₁ (mkF m 25 #[rv a1, iv (0 : Int32), rv a2, iv (0 : Int32), iv (4 : Int32), iv (0 : Int32), iv c0] [(.int (0 : Int32))]) s₁ EF := fun t k => pre6 t (by
        refine XS.iload X0.here hx rfl (hb hby dKa4_23) rfl ?_
        exact k)
    obtain ⟨fs, hr, hrun, hended, hW, hsame⟩ := X0.leave (v := some (.int (0 : Int32))) (fun h => by rw [Bd.returns] at h; cases h)
    refine ⟨_, _, hEF ▸ pre7 _ (retOut X0 hx Bd.returns rfl (Or.inl ⟨rfl, Or.inl rfl, _, rfl⟩) (hb hby dKa4_25) hr), hrun, hended, _, _, rfl, ?_, ⟨_, rfl⟩, hW, hsame.mono (by decide) (by decide)⟩
    show QKa4 Z a1 a2 cz fv k1 k2 c0 c1 c2 c3 h0 n0 _ s₁.heap _
    rw [e0]
    exact Or.inr ⟨_, _, rfl, N0, (Keep.refl h0 [a2]), (by decide), (by decide), rfl, hc20⟩
  have pre8 : Go p e below s₁ (mkF m 26 #[rv a1, iv (0 : Int32), rv a2, iv (0 : Int32), iv (4 : Int32), iv (0 : Int32), iv c0] []) s₁ EF := fun t k => pre5 t (XS.icmpYes X0.here hx rfl (pc0 := 20) (pc' := 26) rfl (hb hby dKa4_20) rfl (flt hc20).2.2.2 (by decide) (by decide) k)
  have pre9 : Go p e below s₁ (mkF m 31 #[rv a1, iv (0 : Int32), rv a2, iv (0 : Int32), iv (4 : Int32), iv (0 : Int32), iv c0] [(.int (c0.toInt8.toInt32)), (.int (0 : Int32)), (.ref a2)]) s₁ EF := fun t k => pre8 t (by
      refine XS.aloadN X0.here hx rfl (hb hby dKa4_26) rfl rfl ?_
      refine XS.iloadN X0.here hx rfl (hb hby dKa4_27) rfl ?_
      refine XS.iload X0.here hx rfl (hb hby dKa4_28) rfl ?_
      refine XS.i2b X0.here hx rfl (hb hby dKa4_30) rfl ?_
      exact k)
  obtain ⟨cl10, Ar10, q10, Sz10, M10, H10, G10⟩ := id V2
  have hin10 : ¬ ((0 : Int32) < 0 ∨ cl10.slots.size ≤ ((0 : Int32)).toNatClampNeg) := inb_of Sz10 ⟨by decide, by decide⟩
  obtain ⟨T10, h10, X10, e10, W10, st10⟩ := stB X0 hx hZ e0 Ar10 (j := (0 : Int32)) hin10 (g := (mkF m 31 #[rv a1, iv (0 : Int32), rv a2, iv (0 : Int32), iv (4 : Int32), iv (0 : Int32), iv c0] [(.int (c0.toInt8.toInt32)), (.int (0 : Int32)), (.ref a2)])) rfl rfl (hb hby dKa4_31)
  rw [own_i2b2] at W10
  have pre11 : Go p e below T10 (mkF m 32 #[rv a1, iv (0 : Int32), rv a2, iv (0 : Int32), iv (4 : Int32), iv (0 : Int32), iv c0] []) s₁ EF := fun t k => pre9 t (st10 t k)
  have O12 : Old Z n0 h10 := O0.wr W10 g_a2
  have Z12 : n0 ≤ h10.size := Nat.le_trans Z0 (Keep.of_wr W10).1
  have K12 : Keep h0 h10 [a2] := (Keep.refl h0 [a2]).wr W10 (Or.inl (List.mem_of_getElem? (i := 0) rfl))
  have V10 : Arv Z h10 a2 k2 .byte (4 : Int32) [(.int (c0.toInt8.toInt32)), (.int (0 : Int32)), (.int (0 : Int32)), (.int (0 : Int32))] (.int (0 : Int32)) := Arv.set Ar10 q10 Sz10 M10 H10 G10 (fits_nar_byte _) W10 0 rfl (Nat.le_of_ble_eq_true rfl)
  have N10 := Fr.snoc X10 N0 g_a2
  have pre13 : Go p e below T10 (mkF m 7 #[rv a1, iv (1 : Int32), rv a2, iv (1 : Int32), iv (4 : Int32), iv (1 : Int32), iv c0] [(.int (4 : Int32)), (.int (1 : Int32))]) s₁ EF := fun t k => pre11 t (by
      refine XS.iinc X10.here hx rfl (hb hby dKa4_32) rfl (l' := #[rv a1, iv (1 : Int32), rv a2, iv (0 : Int32), iv (4 : Int32), iv (0 : Int32), iv c0]) rfl ?_
      refine XS.iinc X10.here hx rfl (hb hby dKa4_35) rfl (l' := #[rv a1, iv (1 : Int32), rv a2, iv (1 : Int32), iv (4 : Int32), iv (0 : Int32), iv c0]) rfl ?_
      refine XS.iinc X10.here hx rfl (hb hby dKa4_38) rfl (l' := #[rv a1, iv (1 : Int32), rv a2, iv (1 : Int32), iv (4 : Int32), iv (1 : Int32), iv c0]) rfl ?_
      refine XS.goto X10.here hx rfl (pc0 := 41) (pc' := 3) rfl (hb hby dKa4_41) (by decide) (by decide) ?_
      refine XS.iload X10.here hx rfl (hb hby dKa4_3) rfl ?_
      refine XS.iload X10.here hx rfl (hb hby dKa4_5) rfl ?_
      exact k)
  have pre14 : Go p e below T10 (mkF m 10 #[rv a1, iv (1 : Int32), rv a2, iv (1 : Int32), iv (4 : Int32), iv (1 : Int32), iv c0] []) s₁ EF := fun t k => pre13 t (XS.icmpNo X10.here hx rfl (hb hby dKa4_7) rfl (tlt (by decide : (1 : Int32) < (4 : Int32))).2.1 k)
  have pre15 : Go p e below T10 (mkF m 12 #[rv a1, iv (1 : Int32), rv a2, iv (1 : Int32), iv (4 : Int32), iv (1 : Int32), iv c0] [(.int (1 : Int32)), (.ref a1)]) s₁ EF := fun t k => pre14 t (by
      refine XS.aloadN X10.here hx rfl (hb hby dKa4_10) rfl rfl ?_
      refine XS.iloadN X10.here hx rfl (hb hby dKa4_11) rfl ?_
      exact k)
  obtain ⟨cl16, Ar16, q16, Sz16, M16, H16, G16⟩ := id (V1.other W10 ne12)
  have hin16 : ¬ ((1 : Int32) < 0 ∨ cl16.slots.size ≤ ((1 : Int32)).toNatClampNeg) := inb_of Sz16 ⟨by decide, by decide⟩
  have hat16 : cl16.slots[((1 : Int32)).toNatClampNeg]? = some (.int c1) := Has.at H16 hin16 rfl
  have pre17 : Go p e below T10 (mkF m 20 #[rv a1, iv (1 : Int32), rv a2, iv (1 : Int32), iv (4 : Int32), iv (1 : Int32), iv c1] [(.int (255 : Int32)), (.int c1)]) s₁ EF := fun t k => pre15 t (by
      refine X10.caload hx (j := (1 : Int32)) (v := (.int c1)) (by rw [e10]; exact Ar16.1) (State.isArrayOf_alike hZ.alike Ar16.2.1) Ar16.2.2 hin16 hat16 (g := (mkF m 12 #[rv a1, iv (1 : Int32), rv a2, iv (1 : Int32), iv (4 : Int32), iv (1 : Int32), iv c0] [(.int (1 : Int32)), (.ref a1)])) rfl rfl (hb hby dKa4_12) _ ?_
      refine XS.istore X10.here hx rfl (hb hby dKa4_13) rfl (l' := #[rv a1, iv (1 : Int32), rv a2, iv (1 : Int32), iv (4 : Int32), iv (1 : Int32), iv c1]) rfl ?_
      refine XS.iload X10.here hx rfl (hb hby dKa4_15) rfl ?_
      refine XS.sipush X10.here hx rfl (hb hby dKa4_17) ?_
      exact k)
  by_cases hc20' : (255 : Int32) < c1
  · have pre18 : Go p e below T10 (mkF m 23 #[rv a1, iv (1 : Int32), rv a2, iv (1 : Int32), iv (4 : Int32), iv (1 : Int32), iv c1] []) s₁ EF := fun t k => pre17 t (XS.icmpNo X10.here hx rfl (hb hby dKa4_20) rfl (tlt hc20').2.2.2 k)
    have pre19 : Go p e below T10 (mkF m 25 #[rv a1, iv (1 : Int32), rv a2, iv (1 : Int32), iv (4 : Int32), iv (1 : Int32), iv c1] [(.int (1 : Int32))]) s₁ EF := fun t k => pre18 t (by
        refine XS.iload X10.here hx rfl (hb hby dKa4_23) rfl ?_
        exact k)
    obtain ⟨fs, hr, hrun, hended, hW, hsame⟩ := X10.leave (v := some (.int (1 : Int32))) (fun h => by rw [Bd.returns] at h; cases h)
    refine ⟨_, _, hEF ▸ pre19 _ (retOut X10 hx Bd.returns rfl (Or.inl ⟨rfl, Or.inl rfl, _, rfl⟩) (hb hby dKa4_25) hr), hrun, hended, _, _, rfl, ?_, ⟨_, rfl⟩, hW, hsame.mono (by decide) (by decide)⟩
    show QKa4 Z a1 a2 cz fv k1 k2 c0 c1 c2 c3 h0 n0 _ T10.heap _
    rw [e10]
    exact Or.inr ⟨_, _, rfl, N10, K12, (by decide), (by decide), rfl, hc20'⟩
  have pre20 : Go p e below T10 (mkF m 26 #[rv a1, iv (1 : Int32), rv a2, iv (1 : Int32), iv (4 : Int32), iv (1 : Int32), iv c1] []) s₁ EF := fun t k => pre17 t (XS.icmpYes X10.here hx rfl (pc0 := 20) (pc' := 26) rfl (hb hby dKa4_20) rfl (flt hc20').2.2.2 (by decide) (by decide) k)
  have pre21 : Go p e below T10 (mkF m 31 #[rv a1, iv (1 : Int32), rv a2, iv (1 : Int32), iv (4 : Int32), iv (1 : Int32), iv c1] [(.int (c1.toInt8.toInt32)), (.int (1 : Int32)), (.ref a2)]) s₁ EF := fun t k => pre20 t (by
      refine XS.aloadN X10.here hx rfl (hb hby dKa4_26) rfl rfl ?_
      refine XS.iloadN X10.here hx rfl (hb hby dKa4_27) rfl ?_
      refine XS.iload X10.here hx rfl (hb hby dKa4_28) rfl ?_
      refine XS.i2b X10.here hx rfl (hb hby dKa4_30) rfl ?_
      exact k)
  obtain ⟨cl22, Ar22, q22, Sz22, M22, H22, G22⟩ := id V10
  have hin22 : ¬ ((1 : Int32) < 0 ∨ cl22.slots.size ≤ ((1 : Int32)).toNatClampNeg) := inb_of Sz22 ⟨by decide, by decide⟩
  obtain ⟨T22, h22, X22, e22, W22, st22⟩ := stB X10 hx hZ e10 Ar22 (j := (1 : Int32)) hin22 (g := (mkF m 31 #[rv a1, iv (1 : Int32), rv a2, iv (1 : Int32), iv (4 : Int32), iv (1 : Int32), iv c1] [(.int (c1.toInt8.toInt32)), (.int (1 : Int32)), (.ref a2)])) rfl rfl (hb hby dKa4_31)
  rw [own_i2b2] at W22
  have pre23 : Go p e below T22 (mkF m 32 #[rv a1, iv (1 : Int32), rv a2, iv (1 : Int32), iv (4 : Int32), iv (1 : Int32), iv c1] []) s₁ EF := fun t k => pre21 t (st22 t k)
  have O24 : Old Z n0 h22 := O12.wr W22 g_a2
  have Z24 : n0 ≤ h22.size := Nat.le_trans Z12 (Keep.of_wr W22).1
  have K24 : Keep h0 h22 [a2] := K12.wr W22 (Or.inl (List.mem_of_getElem? (i := 0) rfl))
  have V22 : Arv Z h22 a2 k2 .byte (4 : Int32) [(.int (c0.toInt8.toInt32)), (.int (c1.toInt8.toInt32)), (.int (0 : Int32)), (.int (0 : Int32))] (.int (0 : Int32)) := Arv.set Ar22 q22 Sz22 M22 H22 G22 (fits_nar_byte _) W22 1 rfl (Nat.le_of_ble_eq_true rfl)
  have N22 := Fr.snoc X22 N10 g_a2
  have pre25 : Go p e below T22 (mkF m 7 #[rv a1, iv (2 : Int32), rv a2, iv (2 : Int32), iv (4 : Int32), iv (2 : Int32), iv c1] [(.int (4 : Int32)), (.int (2 : Int32))]) s₁ EF := fun t k => pre23 t (by
      refine XS.iinc X22.here hx rfl (hb hby dKa4_32) rfl (l' := #[rv a1, iv (2 : Int32), rv a2, iv (1 : Int32), iv (4 : Int32), iv (1 : Int32), iv c1]) rfl ?_
      refine XS.iinc X22.here hx rfl (hb hby dKa4_35) rfl (l' := #[rv a1, iv (2 : Int32), rv a2, iv (2 : Int32), iv (4 : Int32), iv (1 : Int32), iv c1]) rfl ?_
      refine XS.iinc X22.here hx rfl (hb hby dKa4_38) rfl (l' := #[rv a1, iv (2 : Int32), rv a2, iv (2 : Int32), iv (4 : Int32), iv (2 : Int32), iv c1]) rfl ?_
      refine XS.goto X22.here hx rfl (pc0 := 41) (pc' := 3) rfl (hb hby dKa4_41) (by decide) (by decide) ?_
      refine XS.iload X22.here hx rfl (hb hby dKa4_3) rfl ?_
      refine XS.iload X22.here hx rfl (hb hby dKa4_5) rfl ?_
      exact k)
  have pre26 : Go p e below T22 (mkF m 10 #[rv a1, iv (2 : Int32), rv a2, iv (2 : Int32), iv (4 : Int32), iv (2 : Int32), iv c1] []) s₁ EF := fun t k => pre25 t (XS.icmpNo X22.here hx rfl (hb hby dKa4_7) rfl (tlt (by decide : (2 : Int32) < (4 : Int32))).2.1 k)
  have pre27 : Go p e below T22 (mkF m 12 #[rv a1, iv (2 : Int32), rv a2, iv (2 : Int32), iv (4 : Int32), iv (2 : Int32), iv c1] [(.int (2 : Int32)), (.ref a1)]) s₁ EF := fun t k => pre26 t (by
      refine XS.aloadN X22.here hx rfl (hb hby dKa4_10) rfl rfl ?_
      refine XS.iloadN X22.here hx rfl (hb hby dKa4_11) rfl ?_
      exact k)
  obtain ⟨cl28, Ar28, q28, Sz28, M28, H28, G28⟩ := id ((V1.other W10 ne12).other W22 ne12)
  have hin28 : ¬ ((2 : Int32) < 0 ∨ cl28.slots.size ≤ ((2 : Int32)).toNatClampNeg) := inb_of Sz28 ⟨by decide, by decide⟩
  have hat28 : cl28.slots[((2 : Int32)).toNatClampNeg]? = some (.int c2) := Has.at H28 hin28 rfl
  have pre29 : Go p e below T22 (mkF m 20 #[rv a1, iv (2 : Int32), rv a2, iv (2 : Int32), iv (4 : Int32), iv (2 : Int32), iv c2] [(.int (255 : Int32)), (.int c2)]) s₁ EF := fun t k => pre27 t (by
      refine X22.caload hx (j := (2 : Int32)) (v := (.int c2)) (by rw [e22]; exact Ar28.1) (State.isArrayOf_alike hZ.alike Ar28.2.1) Ar28.2.2 hin28 hat28 (g := (mkF m 12 #[rv a1, iv (2 : Int32), rv a2, iv (2 : Int32), iv (4 : Int32), iv (2 : Int32), iv c1] [(.int (2 : Int32)), (.ref a1)])) rfl rfl (hb hby dKa4_12) _ ?_
      refine XS.istore X22.here hx rfl (hb hby dKa4_13) rfl (l' := #[rv a1, iv (2 : Int32), rv a2, iv (2 : Int32), iv (4 : Int32), iv (2 : Int32), iv c2]) rfl ?_
      refine XS.iload X22.here hx rfl (hb hby dKa4_15) rfl ?_
      refine XS.sipush X22.here hx rfl (hb hby dKa4_17) ?_
      exact k)
  by_cases hc20'' : (255 : Int32) < c2
  · have pre30 : Go p e below T22 (mkF m 23 #[rv a1, iv (2 : Int32), rv a2, iv (2 : Int32), iv (4 : Int32), iv (2 : Int32), iv c2] []) s₁ EF := fun t k => pre29 t (XS.icmpNo X22.here hx rfl (hb hby dKa4_20) rfl (tlt hc20'').2.2.2 k)
    have pre31 : Go p e below T22 (mkF m 25 #[rv a1, iv (2 : Int32), rv a2, iv (2 : Int32), iv (4 : Int32), iv (2 : Int32), iv c2] [(.int (2 : Int32))]) s₁ EF := fun t k => pre30 t (by
        refine XS.iload X22.here hx rfl (hb hby dKa4_23) rfl ?_
        exact k)
    obtain ⟨fs, hr, hrun, hended, hW, hsame⟩ := X22.leave (v := some (.int (2 : Int32))) (fun h => by rw [Bd.returns] at h; cases h)
    refine ⟨_, _, hEF ▸ pre31 _ (retOut X22 hx Bd.returns rfl (Or.inl ⟨rfl, Or.inl rfl, _, rfl⟩) (hb hby dKa4_25) hr), hrun, hended, _, _, rfl, ?_, ⟨_, rfl⟩, hW, hsame.mono (by decide) (by decide)⟩
    show QKa4 Z a1 a2 cz fv k1 k2 c0 c1 c2 c3 h0 n0 _ T22.heap _
    rw [e22]
    exact Or.inr ⟨_, _, rfl, N22, K24, (by decide), (by decide), rfl, hc20''⟩
  have pre32 : Go p e below T22 (mkF m 26 #[rv a1, iv (2 : Int32), rv a2, iv (2 : Int32), iv (4 : Int32), iv (2 : Int32), iv c2] []) s₁ EF := fun t k => pre29 t (XS.icmpYes X22.here hx rfl (pc0 := 20) (pc' := 26) rfl (hb hby dKa4_20) rfl (flt hc20'').2.2.2 (by decide) (by decide) k)
  have pre33 : Go p e below T22 (mkF m 31 #[rv a1, iv (2 : Int32), rv a2, iv (2 : Int32), iv (4 : Int32), iv (2 : Int32), iv c2] [(.int (c2.toInt8.toInt32)), (.int (2 : Int32)), (.ref a2)]) s₁ EF := fun t k => pre32 t (by
      refine XS.aloadN X22.here hx rfl (hb hby dKa4_26) rfl rfl ?_
      refine XS.iloadN X22.here hx rfl (hb hby dKa4_27) rfl ?_
      refine XS.iload X22.here hx rfl (hb hby dKa4_28) rfl ?_
      refine XS.i2b X22.here hx rfl (hb hby dKa4_30) rfl ?_
      exact k)
  obtain ⟨cl34, Ar34, q34, Sz34, M34, H34, G34⟩ := id V22
  have hin34 : ¬ ((2 : Int32) < 0 ∨ cl34.slots.size ≤ ((2 : Int32)).toNatClampNeg) := inb_of Sz34 ⟨by decide, by decide⟩
  obtain ⟨T34, h34, X34, e34, W34, st34⟩ := stB X22 hx hZ e22 Ar34 (j := (2 : Int32)) hin34 (g := (mkF m 31 #[rv a1, iv (2 : Int32), rv a2, iv (2 : Int32), iv (4 : Int32), iv (2 : Int32), iv c2] [(.int (c2.toInt8.toInt32)), (.int (2 : Int32)), (.ref a2)])) rfl rfl (hb hby dKa4_31)
  rw [own_i2b2] at W34
  have pre35 : Go p e below T34 (mkF m 32 #[rv a1, iv (2 : Int32), rv a2, iv (2 : Int32), iv (4 : Int32), iv (2 : Int32), iv c2] []) s₁ EF := fun t k => pre33 t (st34 t k)
  have O36 : Old Z n0 h34 := O24.wr W34 g_a2
  have Z36 : n0 ≤ h34.size := Nat.le_trans Z24 (Keep.of_wr W34).1
  have K36 : Keep h0 h34 [a2] := K24.wr W34 (Or.inl (List.mem_of_getElem? (i := 0) rfl))
  have V34 : Arv Z h34 a2 k2 .byte (4 : Int32) [(.int (c0.toInt8.toInt32)), (.int (c1.toInt8.toInt32)), (.int (c2.toInt8.toInt32)), (.int (0 : Int32))] (.int (0 : Int32)) := Arv.set Ar34 q34 Sz34 M34 H34 G34 (fits_nar_byte _) W34 2 rfl (Nat.le_of_ble_eq_true rfl)
  have N34 := Fr.snoc X34 N22 g_a2
  have pre37 : Go p e below T34 (mkF m 7 #[rv a1, iv (3 : Int32), rv a2, iv (3 : Int32), iv (4 : Int32), iv (3 : Int32), iv c2] [(.int (4 : Int32)), (.int (3 : Int32))]) s₁ EF := fun t k => pre35 t (by
      refine XS.iinc X34.here hx rfl (hb hby dKa4_32) rfl (l' := #[rv a1, iv (3 : Int32), rv a2, iv (2 : Int32), iv (4 : Int32), iv (2 : Int32), iv c2]) rfl ?_
      refine XS.iinc X34.here hx rfl (hb hby dKa4_35) rfl (l' := #[rv a1, iv (3 : Int32), rv a2, iv (3 : Int32), iv (4 : Int32), iv (2 : Int32), iv c2]) rfl ?_
      refine XS.iinc X34.here hx rfl (hb hby dKa4_38) rfl (l' := #[rv a1, iv (3 : Int32), rv a2, iv (3 : Int32), iv (4 : Int32), iv (3 : Int32), iv c2]) rfl ?_
      refine XS.goto X34.here hx rfl (pc0 := 41) (pc' := 3) rfl (hb hby dKa4_41) (by decide) (by decide) ?_
      refine XS.iload X34.here hx rfl (hb hby dKa4_3) rfl ?_
      refine XS.iload X34.here hx rfl (hb hby dKa4_5) rfl ?_
      exact k)
  have pre38 : Go p e below T34 (mkF m 10 #[rv a1, iv (3 : Int32), rv a2, iv (3 : Int32), iv (4 : Int32), iv (3 : Int32), iv c2] []) s₁ EF := fun t k => pre37 t (XS.icmpNo X34.here hx rfl (hb hby dKa4_7) rfl (tlt (by decide : (3 : Int32) < (4 : Int32))).2.1 k)
  have pre39 : Go p e below T34 (mkF m 12 #[rv a1, iv (3 : Int32), rv a2, iv (3 : Int32), iv (4 : Int32), iv (3 : Int32), iv c2] [(.int (3 : Int32)), (.ref a1)]) s₁ EF := fun t k => pre38 t (by
      refine XS.aloadN X34.here hx rfl (hb hby dKa4_10) rfl rfl ?_
      refine XS.iloadN X34.here hx rfl (hb hby dKa4_11) rfl ?_
      exact k)
  obtain ⟨cl40, Ar40, q40, Sz40, M40, H40, G40⟩ := id (((V1.other W10 ne12).other W22 ne12).other W34 ne12)
  have hin40 : ¬ ((3 : Int32) < 0 ∨ cl40.slots.size ≤ ((3 : Int32)).toNatClampNeg) := inb_of Sz40 ⟨by decide, by decide⟩
  have hat40 : cl40.slots[((3 : Int32)).toNatClampNeg]? = some (.int c3) := Has.at H40 hin40 rfl
  have pre41 : Go p e below T34 (mkF m 20 #[rv a1, iv (3 : Int32), rv a2, iv (3 : Int32), iv (4 : Int32), iv (3 : Int32), iv c3] [(.int (255 : Int32)), (.int c3)]) s₁ EF := fun t k => pre39 t (by
      refine X34.caload hx (j := (3 : Int32)) (v := (.int c3)) (by rw [e34]; exact Ar40.1) (State.isArrayOf_alike hZ.alike Ar40.2.1) Ar40.2.2 hin40 hat40 (g := (mkF m 12 #[rv a1, iv (3 : Int32), rv a2, iv (3 : Int32), iv (4 : Int32), iv (3 : Int32), iv c2] [(.int (3 : Int32)), (.ref a1)])) rfl rfl (hb hby dKa4_12) _ ?_
      refine XS.istore X34.here hx rfl (hb hby dKa4_13) rfl (l' := #[rv a1, iv (3 : Int32), rv a2, iv (3 : Int32), iv (4 : Int32), iv (3 : Int32), iv c3]) rfl ?_
      refine XS.iload X34.here hx rfl (hb hby dKa4_15) rfl ?_
      refine XS.sipush X34.here hx rfl (hb hby dKa4_17) ?_
      exact k)
  by_cases hc20''' : (255 : Int32) < c3
  · have pre42 : Go p e below T34 (mkF m 23 #[rv a1, iv (3 : Int32), rv a2, iv (3 : Int32), iv (4 : Int32), iv (3 : Int32), iv c3] []) s₁ EF := fun t k => pre41 t (XS.icmpNo X34.here hx rfl (hb hby dKa4_20) rfl (tlt hc20''').2.2.2 k)
    have pre43 : Go p e below T34 (mkF m 25 #[rv a1, iv (3 : Int32), rv a2, iv (3 : Int32), iv (4 : Int32), iv (3 : Int32), iv c3] [(.int (3 : Int32))]) s₁ EF := fun t k => pre42 t (by
        refine XS.iload X34.here hx rfl (hb hby dKa4_23) rfl ?_
        exact k)
    obtain ⟨fs, hr, hrun, hended, hW, hsame⟩ := X34.leave (v := some (.int (3 : Int32))) (fun h => by rw [Bd.returns] at h; cases h)
    refine ⟨_, _, hEF ▸ pre43 _ (retOut X34 hx Bd.returns rfl (Or.inl ⟨rfl, Or.inl rfl, _, rfl⟩) (hb hby dKa4_25) hr), hrun, hended, _, _, rfl, ?_, ⟨_, rfl⟩, hW, hsame.mono (by decide) (by decide)⟩
    show QKa4 Z a1 a2 cz fv k1 k2 c0 c1 c2 c3 h0 n0 _ T34.heap _
    rw [e34]
    exact Or.inr ⟨_, _, rfl, N34, K36, (by decide), (by decide), rfl, hc20'''⟩
  have pre44 : Go p e below T34 (mkF m 26 #[rv a1, iv (3 : Int32), rv a2, iv (3 : Int32), iv (4 : Int32), iv (3 : Int32), iv c3] []) s₁ EF := fun t k => pre41 t (XS.icmpYes X34.here hx rfl (pc0 := 20) (pc' := 26) rfl (hb hby dKa4_20) rfl (flt hc20''').2.2.2 (by decide) (by decide) k)
  have pre45 : Go p e below T34 (mkF m 31 #[rv a1, iv (3 : Int32), rv a2, iv (3 : Int32), iv (4 : Int32), iv (3 : Int32), iv c3] [(.int (c3.toInt8.toInt32)), (.int (3 : Int32)), (.ref a2)]) s₁ EF := fun t k => pre44 t (by
      refine XS.aloadN X34.here hx rfl (hb hby dKa4_26) rfl rfl ?_
      refine XS.iloadN X34.here hx rfl (hb hby dKa4_27) rfl ?_
      refine XS.iload X34.here hx rfl (hb hby dKa4_28) rfl ?_
      refine XS.i2b X34.here hx rfl (hb hby dKa4_30) rfl ?_
      exact k)
  obtain ⟨cl46, Ar46, q46, Sz46, M46, H46, G46⟩ := id V34
  have hin46 : ¬ ((3 : Int32) < 0 ∨ cl46.slots.size ≤ ((3 : Int32)).toNatClampNeg) := inb_of Sz46 ⟨by decide, by decide⟩
  obtain ⟨T46, h46, X46, e46, W46, st46⟩ := stB X34 hx hZ e34 Ar46 (j := (3 : Int32)) hin46 (g := (mkF m 31 #[rv a1, iv (3 : Int32), rv a2, iv (3 : Int32), iv (4 : Int32), iv (3 : Int32), iv c3] [(.int (c3.toInt8.toInt32)), (.int (3 : Int32)), (.ref a2)])) rfl rfl (hb hby dKa4_31)
  rw [own_i2b2] at W46
  have pre47 : Go p e below T46 (mkF m 32 #[rv a1, iv (3 : Int32), rv a2, iv (3 : Int32), iv (4 : Int32), iv (3 : Int32), iv c3] []) s₁ EF := fun t k => pre45 t (st46 t k)
  have O48 : Old Z n0 h46 := O36.wr W46 g_a2
  have Z48 : n0 ≤ h46.size := Nat.le_trans Z36 (Keep.of_wr W46).1
  have K48 : Keep h0 h46 [a2] := K36.wr W46 (Or.inl (List.mem_of_getElem? (i := 0) rfl))
  have V46 : Arv Z h46 a2 k2 .byte (4 : Int32) [(.int (c0.toInt8.toInt32)), (.int (c1.toInt8.toInt32)), (.int (c2.toInt8.toInt32)), (.int (c3.toInt8.toInt32))] (.int (0 : Int32)) := Arv.set Ar46 q46 Sz46 M46 H46 G46 (fits_nar_byte _) W46 3 rfl (Nat.le_of_ble_eq_true rfl)
  have N46 := Fr.snoc X46 N34 g_a2
  have pre49 : Go p e below T46 (mkF m 7 #[rv a1, iv (4 : Int32), rv a2, iv (4 : Int32), iv (4 : Int32), iv (4 : Int32), iv c3] [(.int (4 : Int32)), (.int (4 : Int32))]) s₁ EF := fun t k => pre47 t (by
      refine XS.iinc X46.here hx rfl (hb hby dKa4_32) rfl (l' := #[rv a1, iv (4 : Int32), rv a2, iv (3 : Int32), iv (4 : Int32), iv (3 : Int32), iv c3]) rfl ?_
      refine XS.iinc X46.here hx rfl (hb hby dKa4_35) rfl (l' := #[rv a1, iv (4 : Int32), rv a2, iv (4 : Int32), iv (4 : Int32), iv (3 : Int32), iv c3]) rfl ?_
      refine XS.iinc X46.here hx rfl (hb hby dKa4_38) rfl (l' := #[rv a1, iv (4 : Int32), rv a2, iv (4 : Int32), iv (4 : Int32), iv (4 : Int32), iv c3]) rfl ?_
      refine XS.goto X46.here hx rfl (pc0 := 41) (pc' := 3) rfl (hb hby dKa4_41) (by decide) (by decide) ?_
      refine XS.iload X46.here hx rfl (hb hby dKa4_3) rfl ?_
      refine XS.iload X46.here hx rfl (hb hby dKa4_5) rfl ?_
      exact k)
  have pre50 : Go p e below T46 (mkF m 44 #[rv a1, iv (4 : Int32), rv a2, iv (4 : Int32), iv (4 : Int32), iv (4 : Int32), iv c3] []) s₁ EF := fun t k => pre49 t (XS.icmpYes X46.here hx rfl (pc0 := 7) (pc' := 44) rfl (hb hby dKa4_7) rfl (flt (by decide : ¬ ((4 : Int32) < (4 : Int32)))).2.1 (by decide) (by decide) k)
  have pre51 : Go p e below T46 (mkF m 46 #[rv a1, iv (4 : Int32), rv a2, iv (4 : Int32), iv (4 : Int32), iv (4 : Int32), iv c3] [(.int (4 : Int32))]) s₁ EF := fun t k => pre50 t (by
      refine XS.iload X46.here hx rfl (hb hby dKa4_44) rfl ?_
      exact k)
  obtain ⟨fs, hr, hrun, hended, hW, hsame⟩ := X46.leave (v := some (.int (4 : Int32))) (fun h => by rw [Bd.returns] at h; cases h)
  refine ⟨_, _, hEF ▸ pre51 _ (retOut X46 hx Bd.returns rfl (Or.inl ⟨rfl, Or.inl rfl, _, rfl⟩) (hb hby dKa4_46) hr), hrun, hended, _, _, rfl, ?_, ⟨_, rfl⟩, hW, hsame.mono (by decide) (by decide)⟩
  show QKa4 Z a1 a2 cz fv k1 k2 c0 c1 c2 c3 h0 n0 _ T46.heap _
  rw [e46]
  exact Or.inl ⟨rfl, N46, K48, (List.forall_mem_cons.mpr ⟨hc20, (List.forall_mem_cons.mpr ⟨hc20', (List.forall_mem_cons.mpr ⟨hc20'', (List.forall_mem_cons.mpr ⟨hc20''', (fun _ q => nomatch q)⟩)⟩)⟩)⟩), V46⟩
abbrev rKKn4 : Room := { frames := 0, cells := 0, slots := 0, locals := 0 }
theorem dKn4_0 : decode jdk_52_method_3_code 0 = .ok (.iload_n 0, 1) := by decide +kernel
theorem dKn4_1 : decode jdk_52_method_3_code 1 = .ok (.ifCond .ge 11, 3) := by decide +kernel
theorem dKn4_12 : decode jdk_52_method_3_code 12 = .ok (.iload_n 0, 1) := by decide +kernel
theorem dKn4_13 : decode jdk_52_method_3_code 13 = .ok (.ldc 20, 2) := by decide +kernel
theorem dKn4_15 : decode jdk_52_method_3_code 15 = .ok (.if_icmp .lt 40, 3) := by decide +kernel
theorem dKn4_55 : decode jdk_52_method_3_code 55 = .ok (.iload_n 0, 1) := by decide +kernel
theorem dKn4_56 : decode jdk_52_method_3_code 56 = .ok (.iconst 1, 1) := by decide +kernel
theorem dKn4_57 : decode jdk_52_method_3_code 57 = .ok (.ishl, 1) := by decide +kernel
theorem dKn4_58 : decode jdk_52_method_3_code 58 = .ok (.ireturn, 1) := by decide +kernel
theorem pnKn4 : plainName "java/lang/StringUTF16" = true := by first | (simp [plainName, overriddenIn]; done) | decide +kernel
theorem efKn4 (m : MethodId)  : entryFrame m #[(.int (4 : Int32))] 1 = mkF m 0 #[iv (4 : Int32)] [] := by first | (simp [entryFrame, mkF, argsToLocals, Value.category]; done) | rfl
def QKn4 (Z : State) (cz : Int32) (fv : Value) (h0 : Heap) (n0 : Nat) (v : Option Value) (h : Heap) (L : List Loc) : Prop := v = some (.int (8 : Int32)) ∧ Fr n0 L ∧ h = h0
set_option maxRecDepth 65536 in
set_option maxHeartbeats 40000000 in
theorem rmKn4 (l : Launch) (Z : State) (a0 : Array Value) (hw : ∀ d ∈ tables_1, d.before a0 Z = true) (ws : List Jvm.Cond) (cz : Int32) (fv : Value) (h0 : Heap) (n0 : Nat) (Z0 : n0 ≤ h0.size) (O0 : Old Z n0 h0) (J0 : Jd Z cz fv) :
    MetFree l mN12 (head1 (Jvm.Cond.code mN12 jdk_52_method_3_code 1 (some .int) :: ws) rKKn4) (fun a U => a = #[(.int (4 : Int32))] ∧ Z.Warmed39 U.vm ∧ U.heap = h0) (fun _ _ _ _ _ => True) (fun _ U o U' => ∃ v L, o = .returned v ∧ QKn4 Z cz fv h0 n0 v U'.heap L ∧ FrameEnd U o U' L rKKn4.cells rKKn4.slots) := by
  refine MetFree.of_bodySF (plainFor_of_name pnKn4) hisR ?_
  intro p e s m args below meth c s₁ Bd hml0 hP hK
  obtain ⟨rfl, hZ, hh⟩ := hP
  have hx := Bd.exec
  have hby := Bd.bytes
  have hml : c.maxLocals = 1 := hml0
  have hown : s.vm.findClass "java/lang/StringUTF16" = some m.cls := findClass_of_methodNamed Bd.named
  have hnm := (name_of_methodNamed Bd.named Bd.method).1
  have X0 : Stand p l e rKKn4 s m #[(.int (4 : Int32))] below meth c s₁ [] 0 0 := Stand.of_body Bd
  have e0 : s₁.heap = h0 := by rw [← hh, Bd.state]; rfl
  have N0 := Fr.nil n0
  obtain ⟨EF, hEF⟩ : ∃ f, f = entryFrame m #[(.int (4 : Int32))] 1 := ⟨_, rfl⟩
  have pre0 : Go p e below s₁ (mkF m 0 #[iv (4 : Int32)] []) s₁ EF := fun t k => by rw [hEF]; exact castTop (efKn4 m ) k
  have pre1 : Go p e below s₁ (mkF m 1 #[iv (4 : Int32)] [(.int (4 : Int32))]) s₁ EF := fun t k => pre0 t (by
      refine XS.iloadN X0.here hx rfl (hb hby dKn4_0) rfl ?_
      exact k)
  have pre2 : Go p e below s₁ (mkF m 12 #[iv (4 : Int32)] []) s₁ EF := fun t k => pre1 t (XS.ifYes X0.here hx rfl (pc0 := 1) (pc' := 12) rfl (hb hby dKn4_1) rfl ((if0 _ _).trans (flt (by decide : ¬ ((4 : Int32) < (0 : Int32)))).2.1) (by decide) (by decide) k)
  have pre3 : Go p e below s₁ (mkF m 15 #[iv (4 : Int32)] [(.int (1073741823 : Int32)), (.int (4 : Int32))]) s₁ EF := fun t k => pre2 t (by
      refine XS.iloadN X0.here hx rfl (hb hby dKn4_12) rfl ?_
      refine X0.ldcInt hx hown (mvT hZ (hw _ (mW 88 rfl))) (g := (mkF m 13 #[iv (4 : Int32)] [(.int (4 : Int32))])) rfl (hb hby dKn4_13) _ ?_
      exact k)
  have pre4 : Go p e below s₁ (mkF m 55 #[iv (4 : Int32)] []) s₁ EF := fun t k => pre3 t (XS.icmpYes X0.here hx rfl (pc0 := 15) (pc' := 55) rfl (hb hby dKn4_15) rfl (tlt (by decide : (4 : Int32) < (1073741823 : Int32))).1 (by decide) (by decide) k)
  have pre5 : Go p e below s₁ (mkF m 58 #[iv (4 : Int32)] [(.int (8 : Int32))]) s₁ EF := fun t k => pre4 t (by
      refine XS.iloadN X0.here hx rfl (hb hby dKn4_55) rfl ?_
      refine XS.iconst X0.here hx rfl (hb hby dKn4_56) ?_
      refine XS.ishl X0.here hx rfl (hb hby dKn4_57) rfl ?_
      exact k)
  obtain ⟨fs, hr, hrun, hended, hW, hsame⟩ := X0.leave (v := some (.int (8 : Int32))) (fun h => by rw [Bd.returns] at h; cases h)
  refine ⟨_, _, hEF ▸ pre5 _ (retOut X0 hx Bd.returns rfl (Or.inl ⟨rfl, Or.inl rfl, _, rfl⟩) (hb hby dKn4_58) hr), hrun, hended, _, _, rfl, ?_, ⟨_, rfl⟩, hW, hsame.mono (by decide) (by decide)⟩
  show QKn4 Z cz fv h0 n0 _ s₁.heap _
  rw [e0]
  exact ⟨rfl, N0, rfl⟩
abbrev rKKf4 : Room := { frames := 1, cells := 1, slots := 8, locals := 12 }
theorem dKf4_0 : decode jdk_52_method_2_code 0 = .ok (.iload_n 0, 1) := by decide +kernel
theorem dKf4_1 : decode jdk_52_method_2_code 1 = .ok (.invokestatic 11, 3) := by decide +kernel
theorem dKf4_4 : decode jdk_52_method_2_code 4 = .ok (.newarray .byte, 2) := by decide +kernel
theorem dKf4_6 : decode jdk_52_method_2_code 6 = .ok (.areturn, 1) := by decide +kernel
theorem pnKf4 : plainName "java/lang/StringUTF16" = true := by first | (simp [plainName, overriddenIn]; done) | decide +kernel
theorem pdKf4_0 : parseMethodDescriptor "(I)I" = some ⟨[.int], some .int⟩ := by decide +kernel
theorem efKf4 (m : MethodId)  : entryFrame m #[(.int (4 : Int32))] 1 = mkF m 0 #[iv (4 : Int32)] [] := by first | (simp [entryFrame, mkF, argsToLocals, Value.category]; done) | rfl
def QKf4 (Z : State) (cz : Int32) (fv : Value) (h0 : Heap) (n0 : Nat) (v : Option Value) (h : Heap) (L : List Loc) : Prop := ∃ b k, v = some (.ref b) ∧ Fr n0 L ∧ Keep h0 h [] ∧ h0.size ≤ b ∧ Arv Z h b k .byte (8 : Int32) [(.int (0 : Int32)), (.int (0 : Int32)), (.int (0 : Int32)), (.int (0 : Int32)), (.int (0 : Int32)), (.int (0 : Int32)), (.int (0 : Int32)), (.int (0 : Int32))] (.int (0 : Int32))
set_option maxRecDepth 65536 in
set_option maxHeartbeats 40000000 in
theorem rmKf4 (l : Launch) (Z : State) (a0 : Array Value) (hw : ∀ d ∈ tables_1, d.before a0 Z = true) (ws : List Jvm.Cond) (cz : Int32) (fv : Value) (h0 : Heap) (n0 : Nat) (Z0 : n0 ≤ h0.size) (O0 : Old Z n0 h0) (J0 : Jd Z cz fv) :
    MetFree l mN13 (head1 (Jvm.Cond.code mN13 jdk_52_method_2_code 1 (some (.array .byte)) :: ws) rKKf4) (fun a U => a = #[(.int (4 : Int32))] ∧ Z.Warmed39 U.vm ∧ U.heap = h0) (fun _ _ _ _ _ => True) (fun _ U o U' => ∃ v L, o = .returned v ∧ QKf4 Z cz fv h0 n0 v U'.heap L ∧ FrameEnd U o U' L rKKf4.cells rKKf4.slots) := by
  refine MetFree.of_bodySF (plainFor_of_name pnKf4) hisR ?_
  intro p e s m args below meth c s₁ Bd hml0 hP hK
  obtain ⟨rfl, hZ, hh⟩ := hP
  have hx := Bd.exec
  have hby := Bd.bytes
  have hml : c.maxLocals = 1 := hml0
  have hown : s.vm.findClass "java/lang/StringUTF16" = some m.cls := findClass_of_methodNamed Bd.named
  have hnm := (name_of_methodNamed Bd.named Bd.method).1
  have X0 : Stand p l e rKKf4 s m #[(.int (4 : Int32))] below meth c s₁ [] 0 0 := Stand.of_body Bd
  have e0 : s₁.heap = h0 := by rw [← hh, Bd.state]; rfl
  have N0 := Fr.nil n0
  obtain ⟨EF, hEF⟩ : ∃ f, f = entryFrame m #[(.int (4 : Int32))] 1 := ⟨_, rfl⟩
  have pre0 : Go p e below s₁ (mkF m 0 #[iv (4 : Int32)] []) s₁ EF := fun t k => by rw [hEF]; exact castTop (efKf4 m ) k
  have pre1 : Go p e below s₁ (mkF m 1 #[iv (4 : Int32)] [(.int (4 : Int32))]) s₁ EF := fun t k => pre0 t (by
      refine XS.iloadN X0.here hx rfl (hb hby dKf4_0) rfl ?_
      exact k)
  obtain ⟨_, _, ⟨T2, L2, k2, n2⟩, -, X2, ⟨Lc2, hQ2, l2, y2, z2⟩, st2⟩ := Jvm.LawKit.callS X0 hx (y := mN12) hown (mvT hZ (hw _ (mW 85 rfl))) (mvT hZ (hw _ (mW 86 rfl))) (mvT hZ (hw _ (mW 46 rfl))) (mvT hZ (hw _ (mW 87 rfl))) (by decide) (backOf (W := 0) (rmKn4 l Z a0 hw []  cz fv  h0 n0 Z0 O0 J0 ) hZ (hw _ (mW 87 rfl)) (hw _ (mW 46 rfl)) (by decide) (by decide)) (g := (mkF m 1 #[iv (4 : Int32)] [(.int (4 : Int32))])) rfl (by rw [hml]; rfl) (argsL := [(.int (4 : Int32))]) (rest := []) (lenOf pdKf4_0 rfl) rfl (Nat.le_of_eq rfl) (hb hby dKf4_1) (fun _ _ => ⟨rfl, e0, wl rfl, wl rfl⟩)
  dsimp only [Pt.U, Pt.locs, Pt.cells, Pt.slots] at X2 l2 y2 z2 st2 hQ2
  subst l2 y2 z2
  obtain ⟨rfl, N2q, hq2⟩ := hQ2
  have N2 := Fr.app N0 N2q
  have pre3 : Go p e below T2 (mkF m 4 #[iv (4 : Int32)] [(.int (8 : Int32))]) s₁ EF := fun t k => pre1 t (st2 t k)
  have e2 : T2.heap = h0 := hq2
  obtain ⟨T4, h4, k4, X4, e4, Et4, A4, st4⟩ := newP X2 hx hZ (hw _ (mW 22 rfl)) e2 (g := (mkF m 4 #[iv (4 : Int32)] [(.int (8 : Int32))])) rfl (hb hby dKf4_4) rfl (by decide) (cap := 8) (by decide) (by decide) (by decide) (by decide)
  obtain ⟨b4, g4⟩ : ∃ z, z = h0.size := ⟨_, rfl⟩
  rw [← g4] at A4 st4
  have g_b4 : n0 ≤ b4 := Nat.le_trans Z0 (Nat.le_of_eq g4.symm)
  have sz_b4 : h0.size ≤ b4 := Nat.le_trans (Keep.refl h0 []).1 (Nat.le_of_eq g4.symm)
  have pre5 : Go p e below T4 (mkF m 6 #[iv (4 : Int32)] [(.ref b4)]) s₁ EF := fun t k => pre3 t (st4 t k)
  have O6 : Old Z n0 h4 := O0.ext Et4
  have Z6 : n0 ≤ h4.size := Nat.le_trans Z0 Et4.1
  have K6 : Keep h0 h4 [] := (Keep.refl h0 []).ext Et4
  have V4 : Arv Z h4 b4 k4 .byte (8 : Int32) [(.int (0 : Int32)), (.int (0 : Int32)), (.int (0 : Int32)), (.int (0 : Int32)), (.int (0 : Int32)), (.int (0 : Int32)), (.int (0 : Int32)), (.int (0 : Int32))] (.int (0 : Int32)) := (Arv.new A4 (by decide)).pad (pad_rep [] (.int (0 : Int32)) 8)
  obtain ⟨fs, hr, hrun, hended, hW, hsame⟩ := X4.leave (v := some (.ref b4)) (fun h => by rw [Bd.returns] at h; cases h)
  refine ⟨_, _, hEF ▸ pre5 _ (retOut X4 hx Bd.returns rfl (Or.inr (Or.inr (Or.inr (Or.inr ⟨rfl, rfl, rfl⟩)))) (hb hby dKf4_6) hr), hrun, hended, _, _, rfl, ?_, ⟨_, rfl⟩, hW, hsame.mono (by decide) (by decide)⟩
  show QKf4 Z cz fv h0 n0 _ T4.heap _
  rw [e4]
  exact ⟨_, _, rfl, N2, K6, sz_b4, V4⟩
abbrev rKKp3 : Room := { frames := 0, cells := 0, slots := 0, locals := 0 }
theorem dKp3_0 : decode jdk_52_method_4_code 0 = .ok (.getstatic 44, 3) := by decide +kernel
theorem dKp3_3 : decode jdk_52_method_4_code 3 = .ok (.ifCond .ne 25, 3) := by decide +kernel
theorem dKp3_28 : decode jdk_52_method_4_code 28 = .ok (.iload_n 1, 1) := by decide +kernel
theorem dKp3_29 : decode jdk_52_method_4_code 29 = .ok (.iconst 1, 1) := by decide +kernel
theorem dKp3_30 : decode jdk_52_method_4_code 30 = .ok (.ishl, 1) := by decide +kernel
theorem dKp3_31 : decode jdk_52_method_4_code 31 = .ok (.istore_n 1, 1) := by decide +kernel
theorem dKp3_32 : decode jdk_52_method_4_code 32 = .ok (.aload_n 0, 1) := by decide +kernel
theorem dKp3_33 : decode jdk_52_method_4_code 33 = .ok (.iload_n 1, 1) := by decide +kernel
theorem dKp3_34 : decode jdk_52_method_4_code 34 = .ok (.iinc 1 1, 3) := by decide +kernel
theorem dKp3_37 : decode jdk_52_method_4_code 37 = .ok (.iload_n 2, 1) := by decide +kernel
theorem dKp3_38 : decode jdk_52_method_4_code 38 = .ok (.getstatic 59, 3) := by decide +kernel
theorem dKp3_41 : decode jdk_52_method_4_code 41 = .ok (.ishr, 1) := by decide +kernel
theorem dKp3_42 : decode jdk_52_method_4_code 42 = .ok (.i2b, 1) := by decide +kernel
theorem dKp3_43 : decode jdk_52_method_4_code 43 = .ok (.bastore, 1) := by decide +kernel
theorem dKp3_44 : decode jdk_52_method_4_code 44 = .ok (.aload_n 0, 1) := by decide +kernel
theorem dKp3_45 : decode jdk_52_method_4_code 45 = .ok (.iload_n 1, 1) := by decide +kernel
theorem dKp3_46 : decode jdk_52_method_4_code 46 = .ok (.iload_n 2, 1) := by decide +kernel
theorem dKp3_47 : decode jdk_52_method_4_code 47 = .ok (.getstatic 63, 3) := by decide +kernel
theorem dKp3_50 : decode jdk_52_method_4_code 50 = .ok (.ishr, 1) := by decide +kernel
theorem dKp3_51 : decode jdk_52_method_4_code 51 = .ok (.i2b, 1) := by decide +kernel
theorem dKp3_52 : decode jdk_52_method_4_code 52 = .ok (.bastore, 1) := by decide +kernel
theorem dKp3_53 : decode jdk_52_method_4_code 53 = .ok (.return_, 1) := by decide +kernel
theorem pnKp3 : plainName "java/lang/StringUTF16" = true := by first | (simp [plainName, overriddenIn]; done) | decide +kernel
theorem efKp3 (m : MethodId) (a1 : Addr) (p2 : Int32) : entryFrame m #[(.ref a1), (.int (3 : Int32)), (.int p2)] 3 = mkF m 0 #[rv a1, iv (3 : Int32), iv p2] [] := by first | (simp [entryFrame, mkF, argsToLocals, Value.category]; done) | rfl
def QKp3 (Z : State) (a1 : Addr) (p2 : Int32) (cz : Int32) (fv : Value) (k : ClassId) (z : Int32) (vs : List Value) (h0 : Heap) (n0 : Nat) (v : Option Value) (h : Heap) (L : List Loc) : Prop := v = none ∧ Fr n0 L ∧ Keep h0 h [a1] ∧ Arv Z h a1 k .byte z ((vs.set 6 (.int (lo8 p2))).set 7 (.int (hi8 p2))) (.int 0)
set_option maxRecDepth 65536 in
set_option maxHeartbeats 40000000 in
theorem rmKp3 (l : Launch) (Z : State) (a0 : Array Value) (hw : ∀ d ∈ tables_1, d.before a0 Z = true) (ws : List Jvm.Cond) (a1 : Addr) (p2 : Int32) (cz : Int32) (fv : Value) (k : ClassId) (z : Int32) (vs : List Value) (h0 : Heap) (n0 : Nat) (Z0 : n0 ≤ h0.size) (O0 : Old Z n0 h0) (J0 : Jd Z cz fv) (VV : Arv Z h0 a1 k .byte z vs (.int 0)) (g_a1 : n0 ≤ a1) (hz0 : (6 : Int32) < z) (hz1 : (7 : Int32) < z) (hln : 7 < vs.length) :
    MetFree l mN14 (head1 (Jvm.Cond.code mN14 jdk_52_method_4_code 3 none :: ws) rKKp3) (fun a U => a = #[(.ref a1), (.int (3 : Int32)), (.int p2)] ∧ Z.Warmed39 U.vm ∧ U.heap = h0) (fun _ _ _ _ _ => True) (fun _ U o U' => ∃ v L, o = .returned v ∧ QKp3 Z a1 p2 cz fv k z vs h0 n0 v U'.heap L ∧ FrameEnd U o U' L rKKp3.cells rKKp3.slots) := by
  refine MetFree.of_bodySF (plainFor_of_name pnKp3) hisR ?_
  intro p e s m args below meth c s₁ Bd hml0 hP hK
  obtain ⟨rfl, hZ, hh⟩ := hP
  have hx := Bd.exec
  have hby := Bd.bytes
  have hml : c.maxLocals = 3 := hml0
  have hown : s.vm.findClass "java/lang/StringUTF16" = some m.cls := findClass_of_methodNamed Bd.named
  have hnm := (name_of_methodNamed Bd.named Bd.method).1
  have X0 : Stand p l e rKKp3 s m #[(.ref a1), (.int (3 : Int32)), (.int p2)] below meth c s₁ [] 0 0 := Stand.of_body Bd
  have e0 : s₁.heap = h0 := by rw [← hh, Bd.state]; rfl
  have N0 := Fr.nil n0
  obtain ⟨EF, hEF⟩ : ∃ f, f = entryFrame m #[(.ref a1), (.int (3 : Int32)), (.int p2)] 3 := ⟨_, rfl⟩
  have pre0 : Go p e below s₁ (mkF m 0 #[rv a1, iv (3 : Int32), iv p2] []) s₁ EF := fun t k => by rw [hEF]; exact castTop (efKp3 m a1 p2) k
  obtain ⟨T1, X1, e1, st1⟩ := getS2 X0 hx hZ hown (host := "") (Or.inl (hw _ (mW 92 rfl))) Via.refl e0 (J0.2.2.2.1.ext O0.2) (g := (mkF m 0 #[rv a1, iv (3 : Int32), iv p2] [])) rfl (hb hby dKp3_0)
  have pre2 : Go p e below T1 (mkF m 3 #[rv a1, iv (3 : Int32), iv p2] [(.int (1 : Int32))]) s₁ EF := fun t k => pre0 t (st1 t k)
  have pre3 : Go p e below T1 (mkF m 28 #[rv a1, iv (3 : Int32), iv p2] []) s₁ EF := fun t k => pre2 t (XS.ifYes X1.here hx rfl (pc0 := 3) (pc' := 28) rfl (hb hby dKp3_3) rfl ((if0 _ _).trans (feq (by decide : ¬ ((1 : Int32) = (0 : Int32)))).2) (by decide) (by decide) k)
  have pre4 : Go p e below T1 (mkF m 38 #[rv a1, iv (7 : Int32), iv p2] [(.int p2), (.int (6 : Int32)), (.ref a1)]) s₁ EF := fun t k => pre3 t (by
      refine XS.iloadN X1.here hx rfl (hb hby dKp3_28) rfl ?_
      refine XS.iconst X1.here hx rfl (hb hby dKp3_29) ?_
      refine XS.ishl X1.here hx rfl (hb hby dKp3_30) rfl ?_
      refine XS.istoreN X1.here hx rfl (hb hby dKp3_31) rfl (l' := #[rv a1, iv (6 : Int32), iv p2]) rfl ?_
      refine XS.aloadN X1.here hx rfl (hb hby dKp3_32) rfl rfl ?_
      refine XS.iloadN X1.here hx rfl (hb hby dKp3_33) rfl ?_
      refine XS.iinc X1.here hx rfl (hb hby dKp3_34) rfl (l' := #[rv a1, iv (7 : Int32), iv p2]) rfl ?_
      refine XS.iloadN X1.here hx rfl (hb hby dKp3_37) rfl ?_
      exact k)
  obtain ⟨T5, X5, e5, st5⟩ := getS2 X1 hx hZ hown (host := "") (Or.inl (hw _ (mW 93 rfl))) Via.refl e1 (J0.2.2.2.2.1.ext O0.2) (g := (mkF m 38 #[rv a1, iv (7 : Int32), iv p2] [(.int p2), (.int (6 : Int32)), (.ref a1)])) rfl (hb hby dKp3_38)
  have pre6 : Go p e below T5 (mkF m 41 #[rv a1, iv (7 : Int32), iv p2] [(.int (0 : Int32)), (.int p2), (.int (6 : Int32)), (.ref a1)]) s₁ EF := fun t k => pre4 t (st5 t k)
  have pre7 : Go p e below T5 (mkF m 43 #[rv a1, iv (7 : Int32), iv p2] [(.int ((p2 >>> ((0 : Int32) &&& 31)).toInt8.toInt32)), (.int (6 : Int32)), (.ref a1)]) s₁ EF := fun t k => pre6 t (by
      refine XS.ishr X5.here hx rfl (hb hby dKp3_41) rfl ?_
      refine XS.i2b X5.here hx rfl (hb hby dKp3_42) rfl ?_
      exact k)
  obtain ⟨cl8, Ar8, q8, Sz8, M8, H8, G8⟩ := id VV
  have hin8 : ¬ ((6 : Int32) < 0 ∨ cl8.slots.size ≤ ((6 : Int32)).toNatClampNeg) := inb_of Sz8 ⟨by decide, hz0⟩
  obtain ⟨T8, h8, X8, e8, W8, st8⟩ := stB X5 hx hZ e5 Ar8 (j := (6 : Int32)) hin8 (g := (mkF m 43 #[rv a1, iv (7 : Int32), iv p2] [(.int ((p2 >>> ((0 : Int32) &&& 31)).toInt8.toInt32)), (.int (6 : Int32)), (.ref a1)])) rfl rfl (hb hby dKp3_43)
  rw [own_i2b2] at W8
  have pre9 : Go p e below T8 (mkF m 44 #[rv a1, iv (7 : Int32), iv p2] []) s₁ EF := fun t k => pre7 t (st8 t k)
  have O10 : Old Z n0 h8 := O0.wr W8 g_a1
  have Z10 : n0 ≤ h8.size := Nat.le_trans Z0 (Keep.of_wr W8).1
  have K10 : Keep h0 h8 [a1] := (Keep.refl h0 [a1]).wr W8 (Or.inl (List.mem_of_getElem? (i := 0) rfl))
  have V8 : Arv Z h8 a1 k .byte z (vs.set 6 (.int ((p2 >>> ((0 : Int32) &&& 31)).toInt8.toInt32))) (.int (0 : Int32)) := Arv.set Ar8 q8 Sz8 M8 H8 G8 (fits_nar_byte _) W8 6 rfl (by first | (simp only [List.length_set]; omega) | omega)
  have N8 := Fr.snoc X8 N0 g_a1
  have pre11 : Go p e below T8 (mkF m 47 #[rv a1, iv (7 : Int32), iv p2] [(.int p2), (.int (7 : Int32)), (.ref a1)]) s₁ EF := fun t k => pre9 t (by
      refine XS.aloadN X8.here hx rfl (hb hby dKp3_44) rfl rfl ?_
      refine XS.iloadN X8.here hx rfl (hb hby dKp3_45) rfl ?_
      refine XS.iloadN X8.here hx rfl (hb hby dKp3_46) rfl ?_
      exact k)
  obtain ⟨T12, X12, e12, st12⟩ := getS2 X8 hx hZ hown (host := "") (Or.inl (hw _ (mW 94 rfl))) Via.refl e8 (J0.2.2.2.2.2.1.ext O10.2) (g := (mkF m 47 #[rv a1, iv (7 : Int32), iv p2] [(.int p2), (.int (7 : Int32)), (.ref a1)])) rfl (hb hby dKp3_47)
  have pre13 : Go p e below T12 (mkF m 50 #[rv a1, iv (7 : Int32), iv p2] [(.int (8 : Int32)), (.int p2), (.int (7 : Int32)), (.ref a1)]) s₁ EF := fun t k => pre11 t (st12 t k)
  have pre14 : Go p e below T12 (mkF m 52 #[rv a1, iv (7 : Int32), iv p2] [(.int ((p2 >>> ((8 : Int32) &&& 31)).toInt8.toInt32)), (.int (7 : Int32)), (.ref a1)]) s₁ EF := fun t k => pre13 t (by
      refine XS.ishr X12.here hx rfl (hb hby dKp3_50) rfl ?_
      refine XS.i2b X12.here hx rfl (hb hby dKp3_51) rfl ?_
      exact k)
  obtain ⟨cl15, Ar15, q15, Sz15, M15, H15, G15⟩ := id V8
  have hin15 : ¬ ((7 : Int32) < 0 ∨ cl15.slots.size ≤ ((7 : Int32)).toNatClampNeg) := inb_of Sz15 ⟨by decide, hz1⟩
  obtain ⟨T15, h15, X15, e15, W15, st15⟩ := stB X12 hx hZ e12 Ar15 (j := (7 : Int32)) hin15 (g := (mkF m 52 #[rv a1, iv (7 : Int32), iv p2] [(.int ((p2 >>> ((8 : Int32) &&& 31)).toInt8.toInt32)), (.int (7 : Int32)), (.ref a1)])) rfl rfl (hb hby dKp3_52)
  rw [own_i2b2] at W15
  have pre16 : Go p e below T15 (mkF m 53 #[rv a1, iv (7 : Int32), iv p2] []) s₁ EF := fun t k => pre14 t (st15 t k)
  have O17 : Old Z n0 h15 := O10.wr W15 g_a1
  have Z17 : n0 ≤ h15.size := Nat.le_trans Z10 (Keep.of_wr W15).1
  have K17 : Keep h0 h15 [a1] := K10.wr W15 (Or.inl (List.mem_of_getElem? (i := 0) rfl))
  have V15 : Arv Z h15 a1 k .byte z ((vs.set 6 (.int ((p2 >>> ((0 : Int32) &&& 31)).toInt8.toInt32))).set 7 (.int ((p2 >>> ((8 : Int32) &&& 31)).toInt8.toInt32))) (.int (0 : Int32)) := Arv.set Ar15 q15 Sz15 M15 H15 G15 (fits_nar_byte _) W15 7 rfl (by first | (simp only [List.length_set]; omega) | omega)
  have N15 := Fr.snoc X15 N8 g_a1
  obtain ⟨fs, hr, hrun, hended, hW, hsame⟩ := X15.leave (v := none) (fun _ => rfl)
  refine ⟨_, _, hEF ▸ pre16 _ (X15.returnOut hx Bd.returns (hb hby dKp3_53) hr), hrun, hended, _, _, rfl, ?_, ⟨_, rfl⟩, hW, hsame.mono (by decide) (by decide)⟩
  show QKp3 Z a1 p2 cz fv k z vs h0 n0 _ T15.heap _
  rw [e15]
  exact ⟨rfl, N15, K17, V15⟩
abbrev rKKt4 : Room := { frames := 2, cells := 1, slots := 8, locals := 24 }
theorem dKt4_0 : decode jdk_52_method_14_code 0 = .ok (.iload_n 2, 1) := by decide +kernel
theorem dKt4_1 : decode jdk_52_method_14_code 1 = .ok (.invokestatic 107, 3) := by decide +kernel
theorem dKt4_4 : decode jdk_52_method_14_code 4 = .ok (.astore_n 3, 1) := by decide +kernel
theorem dKt4_5 : decode jdk_52_method_14_code 5 = .ok (.iconst 0, 1) := by decide +kernel
theorem dKt4_6 : decode jdk_52_method_14_code 6 = .ok (.istore 4, 2) := by decide +kernel
theorem dKt4_8 : decode jdk_52_method_14_code 8 = .ok (.iload 4, 2) := by decide +kernel
theorem dKt4_10 : decode jdk_52_method_14_code 10 = .ok (.iload_n 2, 1) := by decide +kernel
theorem dKt4_11 : decode jdk_52_method_14_code 11 = .ok (.if_icmp .ge 21, 3) := by decide +kernel
theorem dKt4_14 : decode jdk_52_method_14_code 14 = .ok (.aload_n 3, 1) := by decide +kernel
theorem dKt4_15 : decode jdk_52_method_14_code 15 = .ok (.iload 4, 2) := by decide +kernel
theorem dKt4_17 : decode jdk_52_method_14_code 17 = .ok (.aload_n 0, 1) := by decide +kernel
theorem dKt4_18 : decode jdk_52_method_14_code 18 = .ok (.iload_n 1, 1) := by decide +kernel
theorem dKt4_19 : decode jdk_52_method_14_code 19 = .ok (.caload, 1) := by decide +kernel
theorem dKt4_20 : decode jdk_52_method_14_code 20 = .ok (.invokestatic 111, 3) := by decide +kernel
theorem dKt4_23 : decode jdk_52_method_14_code 23 = .ok (.iinc 1 1, 3) := by decide +kernel
theorem dKt4_26 : decode jdk_52_method_14_code 26 = .ok (.iinc 4 1, 3) := by decide +kernel
theorem dKt4_29 : decode jdk_52_method_14_code 29 = .ok (.goto (-21), 3) := by decide +kernel
theorem dKt4_32 : decode jdk_52_method_14_code 32 = .ok (.aload_n 3, 1) := by decide +kernel
theorem dKt4_33 : decode jdk_52_method_14_code 33 = .ok (.areturn, 1) := by decide +kernel
theorem pnKt4 : plainName "java/lang/StringUTF16" = true := by first | (simp [plainName, overriddenIn]; done) | decide +kernel
theorem pdKt4_0 : parseMethodDescriptor "(I)[B" = some ⟨[.int], some (.array .byte)⟩ := by decide +kernel
theorem pdKt4_1 : parseMethodDescriptor "([BII)V" = some ⟨[(.array .byte), .int, .int], none⟩ := by decide +kernel
theorem efKt4 (m : MethodId) (a1 : Addr) : entryFrame m #[(.ref a1), (.int (0 : Int32)), (.int (4 : Int32))] 5 = mkF m 0 #[rv a1, iv (0 : Int32), iv (4 : Int32), .unset, .unset] [] := by first | (simp [entryFrame, mkF, argsToLocals, Value.category]; done) | rfl
def QKt4 (Z : State) (a1 : Addr) (cz : Int32) (fv : Value) (k1 : ClassId) (c0 : Int32) (c1 : Int32) (c2 : Int32) (c3 : Int32) (h0 : Heap) (n0 : Nat) (v : Option Value) (h : Heap) (L : List Loc) : Prop := ∃ b k, v = some (.ref b) ∧ Fr n0 L ∧ Keep h0 h [] ∧ h0.size ≤ b ∧ Arv Z h b k .byte (8 : Int32) [(.int (lo8 c0)), (.int (hi8 c0)), (.int (lo8 c1)), (.int (hi8 c1)), (.int (lo8 c2)), (.int (hi8 c2)), (.int (lo8 c3)), (.int (hi8 c3))] (.int (0 : Int32))
set_option maxRecDepth 65536 in
set_option maxHeartbeats 40000000 in
theorem rmKt4 (l : Launch) (Z : State) (a0 : Array Value) (hw : ∀ d ∈ tables_1, d.before a0 Z = true) (ws : List Jvm.Cond) (a1 : Addr) (cz : Int32) (fv : Value) (k1 : ClassId) (c0 : Int32) (c1 : Int32) (c2 : Int32) (c3 : Int32) (h0 : Heap) (n0 : Nat) (Z0 : n0 ≤ h0.size) (O0 : Old Z n0 h0) (J0 : Jd Z cz fv) (V1 : Arv Z h0 a1 k1 .char (4 : Int32) [(.int c0), (.int c1), (.int c2), (.int c3)] (.int (0 : Int32))) :
    MetFree l mN15 (head1 (Jvm.Cond.code mN15 jdk_52_method_14_code 5 (some (.array .byte)) :: ws) rKKt4) (fun a U => a = #[(.ref a1), (.int (0 : Int32)), (.int (4 : Int32))] ∧ Z.Warmed39 U.vm ∧ U.heap = h0) (fun _ _ _ _ _ => True) (fun _ U o U' => ∃ v L, o = .returned v ∧ QKt4 Z a1 cz fv k1 c0 c1 c2 c3 h0 n0 v U'.heap L ∧ FrameEnd U o U' L rKKt4.cells rKKt4.slots) := by
  refine MetFree.of_bodySF (plainFor_of_name pnKt4) hisR ?_
  intro p e s m args below meth c s₁ Bd hml0 hP hK
  obtain ⟨rfl, hZ, hh⟩ := hP
  have hx := Bd.exec
  have hby := Bd.bytes
  have hml : c.maxLocals = 5 := hml0
  have hown : s.vm.findClass "java/lang/StringUTF16" = some m.cls := findClass_of_methodNamed Bd.named
  have hnm := (name_of_methodNamed Bd.named Bd.method).1
  have X0 : Stand p l e rKKt4 s m #[(.ref a1), (.int (0 : Int32)), (.int (4 : Int32))] below meth c s₁ [] 0 0 := Stand.of_body Bd
  have e0 : s₁.heap = h0 := by rw [← hh, Bd.state]; rfl
  have N0 := Fr.nil n0
  obtain ⟨EF, hEF⟩ : ∃ f, f = entryFrame m #[(.ref a1), (.int (0 : Int32)), (.int (4 : Int32))] 5 := ⟨_, rfl⟩
  have pre0 : Go p e below s₁ (mkF m 0 #[rv a1, iv (0 : Int32), iv (4 : Int32), .unset, .unset] []) s₁ EF := fun t k => by rw [hEF]; exact castTop (efKt4 m a1) k
  have pre1 : Go p e below s₁ (mkF m 1 #[rv a1, iv (0 : Int32), iv (4 : Int32), .unset, .unset] [(.int (4 : Int32))]) s₁ EF := fun t k => pre0 t (by
      refine XS.iloadN X0.here hx rfl (hb hby dKt4_0) rfl ?_
      exact k)
  obtain ⟨_, _, ⟨T2, L2, k2, n2⟩, -, X2, ⟨Lc2, hQ2, l2, y2, z2⟩, st2⟩ := Jvm.LawKit.callS X0 hx (y := mN13) hown (mvT hZ (hw _ (mW 82 rfl))) (mvT hZ (hw _ (mW 83 rfl))) (mvT hZ (hw _ (mW 46 rfl))) (mvT hZ (hw _ (mW 84 rfl))) (by decide) (backOf (W := 0) (rmKf4 l Z a0 hw []  cz fv  h0 n0 Z0 O0 J0 ) hZ (hw _ (mW 84 rfl)) (hw _ (mW 46 rfl)) (by decide) (by decide)) (g := (mkF m 1 #[rv a1, iv (0 : Int32), iv (4 : Int32), .unset, .unset] [(.int (4 : Int32))])) rfl (by rw [hml]; rfl) (argsL := [(.int (4 : Int32))]) (rest := []) (lenOf pdKt4_0 rfl) rfl (Nat.le_of_eq rfl) (hb hby dKt4_1) (fun _ _ => ⟨rfl, e0, wl rfl, wl rfl⟩)
  dsimp only [Pt.U, Pt.locs, Pt.cells, Pt.slots] at X2 l2 y2 z2 st2 hQ2
  subst l2 y2 z2
  obtain ⟨bt, kb2, rfl, N2q, K2, hsz2, VB2⟩ := hQ2
  have N2 := Fr.app N0 N2q
  have pre3 : Go p e below T2 (mkF m 4 #[rv a1, iv (0 : Int32), iv (4 : Int32), .unset, .unset] [(.ref bt)]) s₁ EF := fun t k => pre1 t (st2 t k)
  have O4 : Old Z n0 T2.heap := O0.keep K2 all0
  have Z4 : n0 ≤ T2.heap.size := Nat.le_trans Z0 K2.1
  have K4 : Keep h0 T2.heap [] := (Keep.refl h0 []).trans K2 all0
  have g_bt : n0 ≤ bt := Nat.le_trans Z0 hsz2
  have sz_bt : h0.size ≤ bt := Nat.le_trans (Keep.refl h0 []).1 hsz2
  have ne_a1_bt : a1 ≠ bt := Nat.ne_of_lt (Nat.lt_of_lt_of_le V1.lt hsz2)
  have pre5 : Go p e below T2 (mkF m 11 #[rv a1, iv (0 : Int32), iv (4 : Int32), rv bt, iv (0 : Int32)] [(.int (4 : Int32)), (.int (0 : Int32))]) s₁ EF := fun t k => pre3 t (by
      refine XS.astoreN X2.here hx rfl (hb hby dKt4_4) rfl rfl (l' := #[rv a1, iv (0 : Int32), iv (4 : Int32), rv bt, .unset]) rfl ?_
      refine XS.iconst X2.here hx rfl (hb hby dKt4_5) ?_
      refine XS.istore X2.here hx rfl (hb hby dKt4_6) rfl (l' := #[rv a1, iv (0 : Int32), iv (4 : Int32), rv bt, iv (0 : Int32)]) rfl ?_
      refine XS.iload X2.here hx rfl (hb hby dKt4_8) rfl ?_
      refine XS.iloadN X2.here hx rfl (hb hby dKt4_10) rfl ?_
      exact k)
  have pre6 : Go p e below T2 (mkF m 14 #[rv a1, iv (0 : Int32), iv (4 : Int32), rv bt, iv (0 : Int32)] []) s₁ EF := fun t k => pre5 t (XS.icmpNo X2.here hx rfl (hb hby dKt4_11) rfl (tlt (by decide : (0 : Int32) < (4 : Int32))).2.1 k)
  have pre7 : Go p e below T2 (mkF m 19 #[rv a1, iv (0 : Int32), iv (4 : Int32), rv bt, iv (0 : Int32)] [(.int (0 : Int32)), (.ref a1), (.int (0 : Int32)), (.ref bt)]) s₁ EF := fun t k => pre6 t (by
      refine XS.aloadN X2.here hx rfl (hb hby dKt4_14) rfl rfl ?_
      refine XS.iload X2.here hx rfl (hb hby dKt4_15) rfl ?_
      refine XS.aloadN X2.here hx rfl (hb hby dKt4_17) rfl rfl ?_
      refine XS.iloadN X2.here hx rfl (hb hby dKt4_18) rfl ?_
      exact k)
  obtain ⟨cl8, Ar8, q8, Sz8, M8, H8, G8⟩ := id (V1.keep K2 nin0)
  have hin8 : ¬ ((0 : Int32) < 0 ∨ cl8.slots.size ≤ ((0 : Int32)).toNatClampNeg) := inb_of Sz8 ⟨by decide, by decide⟩
  have hat8 : cl8.slots[((0 : Int32)).toNatClampNeg]? = some (.int c0) := Has.at H8 hin8 rfl
  have pre9 : Go p e below T2 (mkF m 20 #[rv a1, iv (0 : Int32), iv (4 : Int32), rv bt, iv (0 : Int32)] [(.int c0), (.int (0 : Int32)), (.ref bt)]) s₁ EF := fun t k => pre7 t (by
      refine X2.caload hx (j := (0 : Int32)) (v := (.int c0)) Ar8.1 (State.isArrayOf_alike hZ.alike Ar8.2.1) Ar8.2.2 hin8 hat8 (g := (mkF m 19 #[rv a1, iv (0 : Int32), iv (4 : Int32), rv bt, iv (0 : Int32)] [(.int (0 : Int32)), (.ref a1), (.int (0 : Int32)), (.ref bt)])) rfl rfl (hb hby dKt4_19) _ ?_
      exact k)
  obtain ⟨_, _, ⟨T10, L10, k10, n10⟩, -, X10, ⟨Lc10, hQ10, l10, y10, z10⟩, st10⟩ := Jvm.LawKit.callS X2 hx (y := mN14) hown (mvT hZ (hw _ (mW 89 rfl))) (mvT hZ (hw _ (mW 90 rfl))) (mvT hZ (hw _ (mW 46 rfl))) (mvT hZ (hw _ (mW 91 rfl))) (by decide) (backOf (W := 0) (rmKp0 l Z a0 hw [] bt c0 cz fv kb2 (8 : Int32) _ T2.heap n0 Z4 O4 J0 VB2 g_bt (by decide) (by decide) (Nat.le_of_ble_eq_true rfl)) hZ (hw _ (mW 91 rfl)) (hw _ (mW 46 rfl)) (by decide) (by decide)) (g := (mkF m 20 #[rv a1, iv (0 : Int32), iv (4 : Int32), rv bt, iv (0 : Int32)] [(.int c0), (.int (0 : Int32)), (.ref bt)])) rfl (by rw [hml]; rfl) (argsL := [(.ref bt), (.int (0 : Int32)), (.int c0)]) (rest := []) (lenOf pdKt4_1 rfl) rfl (Nat.le_of_eq rfl) (hb hby dKt4_20) (fun _ _ => ⟨rfl, rfl, wl rfl, wl rfl⟩)
  dsimp only [Pt.U, Pt.locs, Pt.cells, Pt.slots] at X10 l10 y10 z10 st10 hQ10
  subst l10 y10 z10
  obtain ⟨rfl, N10q, K10, VQ10⟩ := hQ10
  have N10 := Fr.app N2 N10q
  have pre11 : Go p e below T10 (mkF m 23 #[rv a1, iv (0 : Int32), iv (4 : Int32), rv bt, iv (0 : Int32)] []) s₁ EF := fun t k => pre9 t (st10 t k)
  have O12 : Old Z n0 T10.heap := O4.keep K10 (allS g_bt all0)
  have Z12 : n0 ≤ T10.heap.size := Nat.le_trans Z4 K10.1
  have K12 : Keep h0 T10.heap [] := K4.trans K10 (allS (Or.inr sz_bt) all0)
  have VP10 : Arv Z T10.heap bt kb2 .byte (8 : Int32) [(.int (lo8 c0)), (.int (hi8 c0)), (.int (0 : Int32)), (.int (0 : Int32)), (.int (0 : Int32)), (.int (0 : Int32)), (.int (0 : Int32)), (.int (0 : Int32))] (.int (0 : Int32)) := VQ10
  have pre13 : Go p e below T10 (mkF m 11 #[rv a1, iv (1 : Int32), iv (4 : Int32), rv bt, iv (1 : Int32)] [(.int (4 : Int32)), (.int (1 : Int32))]) s₁ EF := fun t k => pre11 t (by
      refine XS.iinc X10.here hx rfl (hb hby dKt4_23) rfl (l' := #[rv a1, iv (1 : Int32), iv (4 : Int32), rv bt, iv (0 : Int32)]) rfl ?_
      refine XS.iinc X10.here hx rfl (hb hby dKt4_26) rfl (l' := #[rv a1, iv (1 : Int32), iv (4 : Int32), rv bt, iv (1 : Int32)]) rfl ?_
      refine XS.goto X10.here hx rfl (pc0 := 29) (pc' := 8) rfl (hb hby dKt4_29) (by decide) (by decide) ?_
      refine XS.iload X10.here hx rfl (hb hby dKt4_8) rfl ?_
      refine XS.iloadN X10.here hx rfl (hb hby dKt4_10) rfl ?_
      exact k)
  have pre14 : Go p e below T10 (mkF m 14 #[rv a1, iv (1 : Int32), iv (4 : Int32), rv bt, iv (1 : Int32)] []) s₁ EF := fun t k => pre13 t (XS.icmpNo X10.here hx rfl (hb hby dKt4_11) rfl (tlt (by decide : (1 : Int32) < (4 : Int32))).2.1 k)
  have pre15 : Go p e below T10 (mkF m 19 #[rv a1, iv (1 : Int32), iv (4 : Int32), rv bt, iv (1 : Int32)] [(.int (1 : Int32)), (.ref a1), (.int (1 : Int32)), (.ref bt)]) s₁ EF := fun t k => pre14 t (by
      refine XS.aloadN X10.here hx rfl (hb hby dKt4_14) rfl rfl ?_
      refine XS.iload X10.here hx rfl (hb hby dKt4_15) rfl ?_
      refine XS.aloadN X10.here hx rfl (hb hby dKt4_17) rfl rfl ?_
      refine XS.iloadN X10.here hx rfl (hb hby dKt4_18) rfl ?_
      exact k)
  obtain ⟨cl16, Ar16, q16, Sz16, M16, H16, G16⟩ := id ((V1.keep K2 nin0).keep K10 (ninS ne_a1_bt nin0))
  have hin16 : ¬ ((1 : Int32) < 0 ∨ cl16.slots.size ≤ ((1 : Int32)).toNatClampNeg) := inb_of Sz16 ⟨by decide, by decide⟩
  have hat16 : cl16.slots[((1 : Int32)).toNatClampNeg]? = some (.int c1) := Has.at H16 hin16 rfl
  have pre17 : Go p e below T10 (mkF m 20 #[rv a1, iv (1 : Int32), iv (4 : Int32), rv bt, iv (1 : Int32)] [(.int c1), (.int (1 : Int32)), (.ref bt)]) s₁ EF := fun t k => pre15 t (by
      refine X10.caload hx (j := (1 : Int32)) (v := (.int c1)) Ar16.1 (State.isArrayOf_alike hZ.alike Ar16.2.1) Ar16.2.2 hin16 hat16 (g := (mkF m 19 #[rv a1, iv (1 : Int32), iv (4 : Int32), rv bt, iv (1 : Int32)] [(.int (1 : Int32)), (.ref a1), (.int (1 : Int32)), (.ref bt)])) rfl rfl (hb hby dKt4_19) _ ?_
      exact k)
  obtain ⟨_, _, ⟨T18, L18, k18, n18⟩, -, X18, ⟨Lc18, hQ18, l18, y18, z18⟩, st18⟩ := Jvm.LawKit.callS X10 hx (y := mN14) hown (mvT hZ (hw _ (mW 89 rfl))) (mvT hZ (hw _ (mW 90 rfl))) (mvT hZ (hw _ (mW 46 rfl))) (mvT hZ (hw _ (mW 91 rfl))) (by decide) (backOf (W := 0) (rmKp1 l Z a0 hw [] bt c1 cz fv kb2 (8 : Int32) _ T10.heap n0 Z12 O12 J0 VP10 g_bt (by decide) (by decide) (Nat.le_of_ble_eq_true rfl)) hZ (hw _ (mW 91 rfl)) (hw _ (mW 46 rfl)) (by decide) (by decide)) (g := (mkF m 20 #[rv a1, iv (1 : Int32), iv (4 : Int32), rv bt, iv (1 : Int32)] [(.int c1), (.int (1 : Int32)), (.ref bt)])) rfl (by rw [hml]; rfl) (argsL := [(.ref bt), (.int (1 : Int32)), (.int c1)]) (rest := []) (lenOf pdKt4_1 rfl) rfl (Nat.le_of_eq rfl) (hb hby dKt4_20) (fun _ _ => ⟨rfl, rfl, wl rfl, wl rfl⟩)
  dsimp only [Pt.U, Pt.locs, Pt.cells, Pt.slots] at X18 l18 y18 z18 st18 hQ18
  subst l18 y18 z18
  obtain ⟨rfl, N18q, K18, VQ18⟩ := hQ18
  have N18 := Fr.app N10 N18q
  have pre19 : Go p e below T18 (mkF m 23 #[rv a1, iv (1 : Int32), iv (4 : Int32), rv bt, iv (1 : Int32)] []) s₁ EF := fun t k => pre17 t (st18 t k)
  have O20 : Old Z n0 T18.heap := O12.keep K18 (allS g_bt all0)
  have Z20 : n0 ≤ T18.heap.size := Nat.le_trans Z12 K18.1
  have K20 : Keep h0 T18.heap [] := K12.trans K18 (allS (Or.inr sz_bt) all0)
  have VP18 : Arv Z T18.heap bt kb2 .byte (8 : Int32) [(.int (lo8 c0)), (.int (hi8 c0)), (.int (lo8 c1)), (.int (hi8 c1)), (.int (0 : Int32)), (.int (0 : Int32)), (.int (0 : Int32)), (.int (0 : Int32))] (.int (0 : Int32)) := VQ18
  have pre21 : Go p e below T18 (mkF m 11 #[rv a1, iv (2 : Int32), iv (4 : Int32), rv bt, iv (2 : Int32)] [(.int (4 : Int32)), (.int (2 : Int32))]) s₁ EF := fun t k => pre19 t (by
      refine XS.iinc X18.here hx rfl (hb hby dKt4_23) rfl (l' := #[rv a1, iv (2 : Int32), iv (4 : Int32), rv bt, iv (1 : Int32)]) rfl ?_
      refine XS.iinc X18.here hx rfl (hb hby dKt4_26) rfl (l' := #[rv a1, iv (2 : Int32), iv (4 : Int32), rv bt, iv (2 : Int32)]) rfl ?_
      refine XS.goto X18.here hx rfl (pc0 := 29) (pc' := 8) rfl (hb hby dKt4_29) (by decide) (by decide) ?_
      refine XS.iload X18.here hx rfl (hb hby dKt4_8) rfl ?_
      refine XS.iloadN X18.here hx rfl (hb hby dKt4_10) rfl ?_
      exact k)
  have pre22 : Go p e below T18 (mkF m 14 #[rv a1, iv (2 : Int32), iv (4 : Int32), rv bt, iv (2 : Int32)] []) s₁ EF := fun t k => pre21 t (XS.icmpNo X18.here hx rfl (hb hby dKt4_11) rfl (tlt (by decide : (2 : Int32) < (4 : Int32))).2.1 k)
  have pre23 : Go p e below T18 (mkF m 19 #[rv a1, iv (2 : Int32), iv (4 : Int32), rv bt, iv (2 : Int32)] [(.int (2 : Int32)), (.ref a1), (.int (2 : Int32)), (.ref bt)]) s₁ EF := fun t k => pre22 t (by
      refine XS.aloadN X18.here hx rfl (hb hby dKt4_14) rfl rfl ?_
      refine XS.iload X18.here hx rfl (hb hby dKt4_15) rfl ?_
      refine XS.aloadN X18.here hx rfl (hb hby dKt4_17) rfl rfl ?_
      refine XS.iloadN X18.here hx rfl (hb hby dKt4_18) rfl ?_
      exact k)
  obtain ⟨cl24, Ar24, q24, Sz24, M24, H24, G24⟩ := id (((V1.keep K2 nin0).keep K10 (ninS ne_a1_bt nin0)).keep K18 (ninS ne_a1_bt nin0))
  have hin24 : ¬ ((2 : Int32) < 0 ∨ cl24.slots.size ≤ ((2 : Int32)).toNatClampNeg) := inb_of Sz24 ⟨by decide, by decide⟩
  have hat24 : cl24.slots[((2 : Int32)).toNatClampNeg]? = some (.int c2) := Has.at H24 hin24 rfl
  have pre25 : Go p e below T18 (mkF m 20 #[rv a1, iv (2 : Int32), iv (4 : Int32), rv bt, iv (2 : Int32)] [(.int c2), (.int (2 : Int32)), (.ref bt)]) s₁ EF := fun t k => pre23 t (by
      refine X18.caload hx (j := (2 : Int32)) (v := (.int c2)) Ar24.1 (State.isArrayOf_alike hZ.alike Ar24.2.1) Ar24.2.2 hin24 hat24 (g := (mkF m 19 #[rv a1, iv (2 : Int32), iv (4 : Int32), rv bt, iv (2 : Int32)] [(.int (2 : Int32)), (.ref a1), (.int (2 : Int32)), (.ref bt)])) rfl rfl (hb hby dKt4_19) _ ?_
      exact k)
  obtain ⟨_, _, ⟨T26, L26, k26, n26⟩, -, X26, ⟨Lc26, hQ26, l26, y26, z26⟩, st26⟩ := Jvm.LawKit.callS X18 hx (y := mN14) hown (mvT hZ (hw _ (mW 89 rfl))) (mvT hZ (hw _ (mW 90 rfl))) (mvT hZ (hw _ (mW 46 rfl))) (mvT hZ (hw _ (mW 91 rfl))) (by decide) (backOf (W := 0) (rmKp2 l Z a0 hw [] bt c2 cz fv kb2 (8 : Int32) _ T18.heap n0 Z20 O20 J0 VP18 g_bt (by decide) (by decide) (Nat.le_of_ble_eq_true rfl)) hZ (hw _ (mW 91 rfl)) (hw _ (mW 46 rfl)) (by decide) (by decide)) (g := (mkF m 20 #[rv a1, iv (2 : Int32), iv (4 : Int32), rv bt, iv (2 : Int32)] [(.int c2), (.int (2 : Int32)), (.ref bt)])) rfl (by rw [hml]; rfl) (argsL := [(.ref bt), (.int (2 : Int32)), (.int c2)]) (rest := []) (lenOf pdKt4_1 rfl) rfl (Nat.le_of_eq rfl) (hb hby dKt4_20) (fun _ _ => ⟨rfl, rfl, wl rfl, wl rfl⟩)
  dsimp only [Pt.U, Pt.locs, Pt.cells, Pt.slots] at X26 l26 y26 z26 st26 hQ26
  subst l26 y26 z26
  obtain ⟨rfl, N26q, K26, VQ26⟩ := hQ26
  have N26 := Fr.app N18 N26q
  have pre27 : Go p e below T26 (mkF m 23 #[rv a1, iv (2 : Int32), iv (4 : Int32), rv bt, iv (2 : Int32)] []) s₁ EF := fun t k => pre25 t (st26 t k)
  have O28 : Old Z n0 T26.heap := O20.keep K26 (allS g_bt all0)
  have Z28 : n0 ≤ T26.heap.size := Nat.le_trans Z20 K26.1
  have K28 : Keep h0 T26.heap [] := K20.trans K26 (allS (Or.inr sz_bt) all0)
  have VP26 : Arv Z T26.heap bt kb2 .byte (8 : Int32) [(.int (lo8 c0)), (.int (hi8 c0)), (.int (lo8 c1)), (.int (hi8 c1)), (.int (lo8 c2)), (.int (hi8 c2)), (.int (0 : Int32)), (.int (0 : Int32))] (.int (0 : Int32)) := VQ26
  have pre29 : Go p e below T26 (mkF m 11 #[rv a1, iv (3 : Int32), iv (4 : Int32), rv bt, iv (3 : Int32)] [(.int (4 : Int32)), (.int (3 : Int32))]) s₁ EF := fun t k => pre27 t (by
      refine XS.iinc X26.here hx rfl (hb hby dKt4_23) rfl (l' := #[rv a1, iv (3 : Int32), iv (4 : Int32), rv bt, iv (2 : Int32)]) rfl ?_
      refine XS.iinc X26.here hx rfl (hb hby dKt4_26) rfl (l' := #[rv a1, iv (3 : Int32), iv (4 : Int32), rv bt, iv (3 : Int32)]) rfl ?_
      refine XS.goto X26.here hx rfl (pc0 := 29) (pc' := 8) rfl (hb hby dKt4_29) (by decide) (by decide) ?_
      refine XS.iload X26.here hx rfl (hb hby dKt4_8) rfl ?_
      refine XS.iloadN X26.here hx rfl (hb hby dKt4_10) rfl ?_
      exact k)
  have pre30 : Go p e below T26 (mkF m 14 #[rv a1, iv (3 : Int32), iv (4 : Int32), rv bt, iv (3 : Int32)] []) s₁ EF := fun t k => pre29 t (XS.icmpNo X26.here hx rfl (hb hby dKt4_11) rfl (tlt (by decide : (3 : Int32) < (4 : Int32))).2.1 k)
  have pre31 : Go p e below T26 (mkF m 19 #[rv a1, iv (3 : Int32), iv (4 : Int32), rv bt, iv (3 : Int32)] [(.int (3 : Int32)), (.ref a1), (.int (3 : Int32)), (.ref bt)]) s₁ EF := fun t k => pre30 t (by
      refine XS.aloadN X26.here hx rfl (hb hby dKt4_14) rfl rfl ?_
      refine XS.iload X26.here hx rfl (hb hby dKt4_15) rfl ?_
      refine XS.aloadN X26.here hx rfl (hb hby dKt4_17) rfl rfl ?_
      refine XS.iloadN X26.here hx rfl (hb hby dKt4_18) rfl ?_
      exact k)
  obtain ⟨cl32, Ar32, q32, Sz32, M32, H32, G32⟩ := id ((((V1.keep K2 nin0).keep K10 (ninS ne_a1_bt nin0)).keep K18 (ninS ne_a1_bt nin0)).keep K26 (ninS ne_a1_bt nin0))
  have hin32 : ¬ ((3 : Int32) < 0 ∨ cl32.slots.size ≤ ((3 : Int32)).toNatClampNeg) := inb_of Sz32 ⟨by decide, by decide⟩
  have hat32 : cl32.slots[((3 : Int32)).toNatClampNeg]? = some (.int c3) := Has.at H32 hin32 rfl
  have pre33 : Go p e below T26 (mkF m 20 #[rv a1, iv (3 : Int32), iv (4 : Int32), rv bt, iv (3 : Int32)] [(.int c3), (.int (3 : Int32)), (.ref bt)]) s₁ EF := fun t k => pre31 t (by
      refine X26.caload hx (j := (3 : Int32)) (v := (.int c3)) Ar32.1 (State.isArrayOf_alike hZ.alike Ar32.2.1) Ar32.2.2 hin32 hat32 (g := (mkF m 19 #[rv a1, iv (3 : Int32), iv (4 : Int32), rv bt, iv (3 : Int32)] [(.int (3 : Int32)), (.ref a1), (.int (3 : Int32)), (.ref bt)])) rfl rfl (hb hby dKt4_19) _ ?_
      exact k)
  obtain ⟨_, _, ⟨T34, L34, k34, n34⟩, -, X34, ⟨Lc34, hQ34, l34, y34, z34⟩, st34⟩ := Jvm.LawKit.callS X26 hx (y := mN14) hown (mvT hZ (hw _ (mW 89 rfl))) (mvT hZ (hw _ (mW 90 rfl))) (mvT hZ (hw _ (mW 46 rfl))) (mvT hZ (hw _ (mW 91 rfl))) (by decide) (backOf (W := 0) (rmKp3 l Z a0 hw [] bt c3 cz fv kb2 (8 : Int32) _ T26.heap n0 Z28 O28 J0 VP26 g_bt (by decide) (by decide) (Nat.le_of_ble_eq_true rfl)) hZ (hw _ (mW 91 rfl)) (hw _ (mW 46 rfl)) (by decide) (by decide)) (g := (mkF m 20 #[rv a1, iv (3 : Int32), iv (4 : Int32), rv bt, iv (3 : Int32)] [(.int c3), (.int (3 : Int32)), (.ref bt)])) rfl (by rw [hml]; rfl) (argsL := [(.ref bt), (.int (3 : Int32)), (.int c3)]) (rest := []) (lenOf pdKt4_1 rfl) rfl (Nat.le_of_eq rfl) (hb hby dKt4_20) (fun _ _ => ⟨rfl, rfl, wl rfl, wl rfl⟩)
  dsimp only [Pt.U, Pt.locs, Pt.cells, Pt.slots] at X34 l34 y34 z34 st34 hQ34
  subst l34 y34 z34
  obtain ⟨rfl, N34q, K34, VQ34⟩ := hQ34
  have N34 := Fr.app N26 N34q
  have pre35 : Go p e below T34 (mkF m 23 #[rv a1, iv (3 : Int32), iv (4 : Int32), rv bt, iv (3 : Int32)] []) s₁ EF := fun t k => pre33 t (st34 t k)
  have O36 : Old Z n0 T34.heap := O28.keep K34 (allS g_bt all0)
  have Z36 : n0 ≤ T34.heap.size := Nat.le_trans Z28 K34.1
  have K36 : Keep h0 T34.heap [] := K28.trans K34 (allS (Or.inr sz_bt) all0)
  have VP34 : Arv Z T34.heap bt kb2 .byte (8 : Int32) [(.int (lo8 c0)), (.int (hi8 c0)), (.int (lo8 c1)), (.int (hi8 c1)), (.int (lo8 c2)), (.int (hi8 c2)), (.int (lo8 c3)), (.int (hi8 c3))] (.int (0 : Int32)) := VQ34
  have pre37 : Go p e below T34 (mkF m 11 #[rv a1, iv (4 : Int32), iv (4 : Int32), rv bt, iv (4 : Int32)] [(.int (4 : Int32)), (.int (4 : Int32))]) s₁ EF := fun t k => pre35 t (by
      refine XS.iinc X34.here hx rfl (hb hby dKt4_23) rfl (l' := #[rv a1, iv (4 : Int32), iv (4 : Int32), rv bt, iv (3 : Int32)]) rfl ?_
      refine XS.iinc X34.here hx rfl (hb hby dKt4_26) rfl (l' := #[rv a1, iv (4 : Int32), iv (4 : Int32), rv bt, iv (4 : Int32)]) rfl ?_
      refine XS.goto X34.here hx rfl (pc0 := 29) (pc' := 8) rfl (hb hby dKt4_29) (by decide) (by decide) ?_
      refine XS.iload X34.here hx rfl (hb hby dKt4_8) rfl ?_
      refine XS.iloadN X34.here hx rfl (hb hby dKt4_10) rfl ?_
      exact k)
  have pre38 : Go p e below T34 (mkF m 32 #[rv a1, iv (4 : Int32), iv (4 : Int32), rv bt, iv (4 : Int32)] []) s₁ EF := fun t k => pre37 t (XS.icmpYes X34.here hx rfl (pc0 := 11) (pc' := 32) rfl (hb hby dKt4_11) rfl (flt (by decide : ¬ ((4 : Int32) < (4 : Int32)))).2.1 (by decide) (by decide) k)
  have pre39 : Go p e below T34 (mkF m 33 #[rv a1, iv (4 : Int32), iv (4 : Int32), rv bt, iv (4 : Int32)] [(.ref bt)]) s₁ EF := fun t k => pre38 t (by
      refine XS.aloadN X34.here hx rfl (hb hby dKt4_32) rfl rfl ?_
      exact k)
  obtain ⟨fs, hr, hrun, hended, hW, hsame⟩ := X34.leave (v := some (.ref bt)) (fun h => by rw [Bd.returns] at h; cases h)
  refine ⟨_, _, hEF ▸ pre39 _ (retOut X34 hx Bd.returns rfl (Or.inr (Or.inr (Or.inr (Or.inr ⟨rfl, rfl, rfl⟩)))) (hb hby dKt4_33) hr), hrun, hended, _, _, rfl, ?_, ⟨_, rfl⟩, hW, hsame.mono (by decide) (by decide)⟩
  show QKt4 Z a1 cz fv k1 c0 c1 c2 c3 h0 n0 _ T34.heap _
  exact ⟨_, _, rfl, N34, K36, sz_bt, VP34⟩
abbrev rKKb4 : Room := { frames := 3, cells := 2, slots := 12, locals := 40 }
theorem dKb4_0 : decode jdk_52_method_16_code 0 = .ok (.iload_n 2, 1) := by decide +kernel
theorem dKb4_1 : decode jdk_52_method_16_code 1 = .ok (.newarray .byte, 2) := by decide +kernel
theorem dKb4_3 : decode jdk_52_method_16_code 3 = .ok (.astore_n 3, 1) := by decide +kernel
theorem dKb4_4 : decode jdk_52_method_16_code 4 = .ok (.aload_n 0, 1) := by decide +kernel
theorem dKb4_5 : decode jdk_52_method_16_code 5 = .ok (.iload_n 1, 1) := by decide +kernel
theorem dKb4_6 : decode jdk_52_method_16_code 6 = .ok (.aload_n 3, 1) := by decide +kernel
theorem dKb4_7 : decode jdk_52_method_16_code 7 = .ok (.iconst 0, 1) := by decide +kernel
theorem dKb4_8 : decode jdk_52_method_16_code 8 = .ok (.iload_n 2, 1) := by decide +kernel
theorem dKb4_9 : decode jdk_52_method_16_code 9 = .ok (.invokestatic 115, 3) := by decide +kernel
theorem dKb4_12 : decode jdk_52_method_16_code 12 = .ok (.istore 4, 2) := by decide +kernel
theorem dKb4_14 : decode jdk_52_method_16_code 14 = .ok (.iload 4, 2) := by decide +kernel
theorem dKb4_16 : decode jdk_52_method_16_code 16 = .ok (.iload_n 2, 1) := by decide +kernel
theorem dKb4_17 : decode jdk_52_method_16_code 17 = .ok (.if_icmp .eq 40, 3) := by decide +kernel
theorem dKb4_20 : decode jdk_52_method_16_code 20 = .ok (.aload_n 0, 1) := by decide +kernel
theorem dKb4_21 : decode jdk_52_method_16_code 21 = .ok (.iload_n 1, 1) := by decide +kernel
theorem dKb4_22 : decode jdk_52_method_16_code 22 = .ok (.iload_n 2, 1) := by decide +kernel
theorem dKb4_23 : decode jdk_52_method_16_code 23 = .ok (.invokestatic 119, 3) := by decide +kernel
theorem dKb4_26 : decode jdk_52_method_16_code 26 = .ok (.astore 5, 2) := by decide +kernel
theorem dKb4_28 : decode jdk_52_method_16_code 28 = .ok (.aload 5, 2) := by decide +kernel
theorem dKb4_30 : decode jdk_52_method_16_code 30 = .ok (.iload 4, 2) := by decide +kernel
theorem dKb4_32 : decode jdk_52_method_16_code 32 = .ok (.invokestatic 71, 3) := by decide +kernel
theorem dKb4_35 : decode jdk_52_method_16_code 35 = .ok (.sipush 255, 3) := by decide +kernel
theorem dKb4_38 : decode jdk_52_method_16_code 38 = .ok (.if_icmp .gt 16, 3) := by decide +kernel
theorem dKb4_54 : decode jdk_52_method_16_code 54 = .ok (.aload 5, 2) := by decide +kernel
theorem dKb4_56 : decode jdk_52_method_16_code 56 = .ok (.areturn, 1) := by decide +kernel
theorem dKb4_57 : decode jdk_52_method_16_code 57 = .ok (.aload_n 3, 1) := by decide +kernel
theorem dKb4_58 : decode jdk_52_method_16_code 58 = .ok (.areturn, 1) := by decide +kernel
theorem pnKb4 : plainName "java/lang/StringUTF16" = true := by first | (simp [plainName, overriddenIn]; done) | decide +kernel
theorem pdKb4_0 : parseMethodDescriptor "([CI[BII)I" = some ⟨[(.array .char), .int, (.array .byte), .int, .int], some .int⟩ := by decide +kernel
theorem pdKb4_1 : parseMethodDescriptor "([CII)[B" = some ⟨[(.array .char), .int, .int], some (.array .byte)⟩ := by decide +kernel
theorem pdKb4_2 : parseMethodDescriptor "([BI)C" = some ⟨[(.array .byte), .int], some .char⟩ := by decide +kernel
theorem efKb4 (m : MethodId) (a1 : Addr) : entryFrame m #[(.ref a1), (.int (0 : Int32)), (.int (4 : Int32))] 6 = mkF m 0 #[rv a1, iv (0 : Int32), iv (4 : Int32), .unset, .unset, .unset] [] := by first | (simp [entryFrame, mkF, argsToLocals, Value.category]; done) | rfl
def QKb4 (Z : State) (a1 : Addr) (cz : Int32) (fv : Value) (k1 : ClassId) (c0 : Int32) (c1 : Int32) (c2 : Int32) (c3 : Int32) (h0 : Heap) (n0 : Nat) (v : Option Value) (h : Heap) (L : List Loc) : Prop := (∃ b k, v = some (.ref b) ∧ Fr n0 L ∧ Keep h0 h [] ∧ h0.size ≤ b ∧ (∀ c ∈ [c0, c1, c2, c3], ¬ (255 : Int32) < c) ∧ Arv Z h b k .byte (4 : Int32) [(.int (c0.toInt8.toInt32)), (.int (c1.toInt8.toInt32)), (.int (c2.toInt8.toInt32)), (.int (c3.toInt8.toInt32))] (.int (0 : Int32))) ∨ (∃ b k, v = some (.ref b) ∧ Fr n0 L ∧ Keep h0 h [] ∧ h0.size ≤ b ∧ Arv Z h b k .byte (8 : Int32) [(.int (lo8 c0)), (.int (hi8 c0)), (.int (lo8 c1)), (.int (hi8 c1)), (.int (lo8 c2)), (.int (hi8 c2)), (.int (lo8 c3)), (.int (hi8 c3))] (.int (0 : Int32)))
set_option maxRecDepth 65536 in
set_option maxHeartbeats 40000000 in
theorem rmKb4 (l : Launch) (Z : State) (a0 : Array Value) (hw : ∀ d ∈ tables_1, d.before a0 Z = true) (ws : List Jvm.Cond) (a1 : Addr) (cz : Int32) (fv : Value) (k1 : ClassId) (c0 : Int32) (c1 : Int32) (c2 : Int32) (c3 : Int32) (h0 : Heap) (n0 : Nat) (Z0 : n0 ≤ h0.size) (O0 : Old Z n0 h0) (J0 : Jd Z cz fv) (V1 : Arv Z h0 a1 k1 .char (4 : Int32) [(.int c0), (.int c1), (.int c2), (.int c3)] (.int (0 : Int32))) (hrg : ∀ c ∈ [c0, c1, c2, c3], 0 ≤ c.toInt ∧ c.toInt < 65536) :
    MetFree l mN16 (head1 (Jvm.Cond.code mN16 jdk_52_method_16_code 6 (some (.array .byte)) :: ws) rKKb4) (fun a U => a = #[(.ref a1), (.int (0 : Int32)), (.int (4 : Int32))] ∧ Z.Warmed39 U.vm ∧ U.heap = h0) (fun _ _ _ _ _ => True) (fun _ U o U' => ∃ v L, o = .returned v ∧ QKb4 Z a1 cz fv k1 c0 c1 c2 c3 h0 n0 v U'.heap L ∧ FrameEnd U o U' L rKKb4.cells rKKb4.slots) := by
  refine MetFree.of_bodySF (plainFor_of_name pnKb4) hisR ?_
  intro p e s m args below meth c s₁ Bd hml0 hP hK
  obtain ⟨rfl, hZ, hh⟩ := hP
  have hx := Bd.exec
  have hby := Bd.bytes
  have hml : c.maxLocals = 6 := hml0
  have hown : s.vm.findClass "java/lang/StringUTF16" = some m.cls := findClass_of_methodNamed Bd.named
  have hnm := (name_of_methodNamed Bd.named Bd.method).1
  have X0 : Stand p l e rKKb4 s m #[(.ref a1), (.int (0 : Int32)), (.int (4 : Int32))] below meth c s₁ [] 0 0 := Stand.of_body Bd
  have e0 : s₁.heap = h0 := by rw [← hh, Bd.state]; rfl
  have N0 := Fr.nil n0
  obtain ⟨EF, hEF⟩ : ∃ f, f = entryFrame m #[(.ref a1), (.int (0 : Int32)), (.int (4 : Int32))] 6 := ⟨_, rfl⟩
  have pre0 : Go p e below s₁ (mkF m 0 #[rv a1, iv (0 : Int32), iv (4 : Int32), .unset, .unset, .unset] []) s₁ EF := fun t k => by rw [hEF]; exact castTop (efKb4 m a1) k
  have pre1 : Go p e below s₁ (mkF m 1 #[rv a1, iv (0 : Int32), iv (4 : Int32), .unset, .unset, .unset] [(.int (4 : Int32))]) s₁ EF := fun t k => pre0 t (by
      refine XS.iloadN X0.here hx rfl (hb hby dKb4_0) rfl ?_
      exact k)
  obtain ⟨T2, h2, k2, X2, e2, Et2, A2, st2⟩ := newP X0 hx hZ (hw _ (mW 22 rfl)) e0 (g := (mkF m 1 #[rv a1, iv (0 : Int32), iv (4 : Int32), .unset, .unset, .unset] [(.int (4 : Int32))])) rfl (hb hby dKb4_1) rfl (by decide) (cap := 4) (by decide) (by decide) (by decide) (by decide)
  obtain ⟨b2, g2⟩ : ∃ z, z = h0.size := ⟨_, rfl⟩
  rw [← g2] at A2 st2
  have g_b2 : n0 ≤ b2 := Nat.le_trans Z0 (Nat.le_of_eq g2.symm)
  have sz_b2 : h0.size ≤ b2 := Nat.le_trans (Keep.refl h0 []).1 (Nat.le_of_eq g2.symm)
  have ne_a1_b2 : a1 ≠ b2 := Nat.ne_of_lt (Nat.lt_of_lt_of_le V1.lt (Nat.le_of_eq g2.symm))
  have pre3 : Go p e below T2 (mkF m 3 #[rv a1, iv (0 : Int32), iv (4 : Int32), .unset, .unset, .unset] [(.ref b2)]) s₁ EF := fun t k => pre1 t (st2 t k)
  have O4 : Old Z n0 h2 := O0.ext Et2
  have Z4 : n0 ≤ h2.size := Nat.le_trans Z0 Et2.1
  have K4 : Keep h0 h2 [] := (Keep.refl h0 []).ext Et2
  have V2 : Arv Z h2 b2 k2 .byte (4 : Int32) [(.int (0 : Int32)), (.int (0 : Int32)), (.int (0 : Int32)), (.int (0 : Int32))] (.int (0 : Int32)) := (Arv.new A2 (by decide)).pad (pad_rep [] (.int (0 : Int32)) 4)
  have pre5 : Go p e below T2 (mkF m 9 #[rv a1, iv (0 : Int32), iv (4 : Int32), rv b2, .unset, .unset] [(.int (4 : Int32)), (.int (0 : Int32)), (.ref b2), (.int (0 : Int32)), (.ref a1)]) s₁ EF := fun t k => pre3 t (by
      refine XS.astoreN X2.here hx rfl (hb hby dKb4_3) rfl rfl (l' := #[rv a1, iv (0 : Int32), iv (4 : Int32), rv b2, .unset, .unset]) rfl ?_
      refine XS.aloadN X2.here hx rfl (hb hby dKb4_4) rfl rfl ?_
      refine XS.iloadN X2.here hx rfl (hb hby dKb4_5) rfl ?_
      refine XS.aloadN X2.here hx rfl (hb hby dKb4_6) rfl rfl ?_
      refine XS.iconst X2.here hx rfl (hb hby dKb4_7) ?_
      refine XS.iloadN X2.here hx rfl (hb hby dKb4_8) rfl ?_
      exact k)
  obtain ⟨_, _, ⟨T6, L6, k6, n6⟩, -, X6, ⟨Lc6, hQ6, l6, y6, z6⟩, st6⟩ := Jvm.LawKit.callS X2 hx (y := mN11) hown (mvT hZ (hw _ (mW 48 rfl))) (mvT hZ (hw _ (mW 49 rfl))) (mvT hZ (hw _ (mW 46 rfl))) (mvT hZ (hw _ (mW 50 rfl))) (by decide) (backOf (W := 0) (rmKa4 l Z a0 hw [] a1 b2 cz fv k1 k2 c0 c1 c2 c3 h2 n0 Z4 O4 J0 (V1.ext Et2) V2 ne_a1_b2 g_b2) hZ (hw _ (mW 50 rfl)) (hw _ (mW 46 rfl)) (by decide) (by decide)) (g := (mkF m 9 #[rv a1, iv (0 : Int32), iv (4 : Int32), rv b2, .unset, .unset] [(.int (4 : Int32)), (.int (0 : Int32)), (.ref b2), (.int (0 : Int32)), (.ref a1)])) rfl (by rw [hml]; rfl) (argsL := [(.ref a1), (.int (0 : Int32)), (.ref b2), (.int (0 : Int32)), (.int (4 : Int32))]) (rest := []) (lenOf pdKb4_0 rfl) rfl (Nat.le_of_eq rfl) (hb hby dKb4_9) (fun _ _ => ⟨rfl, e2, wl rfl, wl rfl⟩)
  dsimp only [Pt.U, Pt.locs, Pt.cells, Pt.slots] at X6 l6 y6 z6 st6 hQ6
  subst l6 y6 z6
  rcases hQ6 with ⟨rfl, N6q, K6, LE6, VL6⟩ | ⟨iB, cB, rfl, N6q, K6, hi06, hni6, hci6, hgt6⟩
  · have N6 := Fr.app N0 N6q
    have pre7 : Go p e below T6 (mkF m 12 #[rv a1, iv (0 : Int32), iv (4 : Int32), rv b2, .unset, .unset] [(.int (4 : Int32))]) s₁ EF := fun t k => pre5 t (st6 t k)
    have O8 : Old Z n0 T6.heap := O4.keep K6 (allS g_b2 all0)
    have Z8 : n0 ≤ T6.heap.size := Nat.le_trans Z4 K6.1
    have K8 : Keep h0 T6.heap [] := K4.trans K6 (allS (Or.inr sz_b2) all0)
    have pre9 : Go p e below T6 (mkF m 17 #[rv a1, iv (0 : Int32), iv (4 : Int32), rv b2, iv (4 : Int32), .unset] [(.int (4 : Int32)), (.int (4 : Int32))]) s₁ EF := fun t k => pre7 t (by
        refine XS.istore X6.here hx rfl (hb hby dKb4_12) rfl (l' := #[rv a1, iv (0 : Int32), iv (4 : Int32), rv b2, iv (4 : Int32), .unset]) rfl ?_
        refine XS.iload X6.here hx rfl (hb hby dKb4_14) rfl ?_
        refine XS.iloadN X6.here hx rfl (hb hby dKb4_16) rfl ?_
        exact k)
    have pre10 : Go p e below T6 (mkF m 57 #[rv a1, iv (0 : Int32), iv (4 : Int32), rv b2, iv (4 : Int32), .unset] []) s₁ EF := fun t k => pre9 t (XS.icmpYes X6.here hx rfl (pc0 := 17) (pc' := 57) rfl (hb hby dKb4_17) rfl (teq (by decide : (4 : Int32) = (4 : Int32))).1 (by decide) (by decide) k)
    have pre11 : Go p e below T6 (mkF m 58 #[rv a1, iv (0 : Int32), iv (4 : Int32), rv b2, iv (4 : Int32), .unset] [(.ref b2)]) s₁ EF := fun t k => pre10 t (by
        refine XS.aloadN X6.here hx rfl (hb hby dKb4_57) rfl rfl ?_
        exact k)
    obtain ⟨fs, hr, hrun, hended, hW, hsame⟩ := X6.leave (v := some (.ref b2)) (fun h => by rw [Bd.returns] at h; cases h)
    refine ⟨_, _, hEF ▸ pre11 _ (retOut X6 hx Bd.returns rfl (Or.inr (Or.inr (Or.inr (Or.inr ⟨rfl, rfl, rfl⟩)))) (hb hby dKb4_58) hr), hrun, hended, _, _, rfl, ?_, ⟨_, rfl⟩, hW, hsame.mono (by decide) (by decide)⟩
    show QKb4 Z a1 cz fv k1 c0 c1 c2 c3 h0 n0 _ T6.heap _
    exact Or.inl ⟨_, _, rfl, N6, K8, sz_b2, LE6, VL6⟩
  have N6 := Fr.app N0 N6q
  have pre12 : Go p e below T6 (mkF m 12 #[rv a1, iv (0 : Int32), iv (4 : Int32), rv b2, .unset, .unset] [(.int iB)]) s₁ EF := fun t k => pre5 t (st6 t k)
  have O13 : Old Z n0 T6.heap := O4.keep K6 (allS g_b2 all0)
  have Z13 : n0 ≤ T6.heap.size := Nat.le_trans Z4 K6.1
  have K13 : Keep h0 T6.heap [] := K4.trans K6 (allS (Or.inr sz_b2) all0)
  have pre14 : Go p e below T6 (mkF m 17 #[rv a1, iv (0 : Int32), iv (4 : Int32), rv b2, iv iB, .unset] [(.int (4 : Int32)), (.int iB)]) s₁ EF := fun t k => pre12 t (by
      refine XS.istore X6.here hx rfl (hb hby dKb4_12) rfl (l' := #[rv a1, iv (0 : Int32), iv (4 : Int32), rv b2, iv iB, .unset]) rfl ?_
      refine XS.iload X6.here hx rfl (hb hby dKb4_14) rfl ?_
      refine XS.iloadN X6.here hx rfl (hb hby dKb4_16) rfl ?_
      exact k)
  have pre15 : Go p e below T6 (mkF m 20 #[rv a1, iv (0 : Int32), iv (4 : Int32), rv b2, iv iB, .unset] []) s₁ EF := fun t k => pre14 t (XS.icmpNo X6.here hx rfl (hb hby dKb4_17) rfl (feq hni6).1 k)
  have pre16 : Go p e below T6 (mkF m 23 #[rv a1, iv (0 : Int32), iv (4 : Int32), rv b2, iv iB, .unset] [(.int (4 : Int32)), (.int (0 : Int32)), (.ref a1)]) s₁ EF := fun t k => pre15 t (by
      refine XS.aloadN X6.here hx rfl (hb hby dKb4_20) rfl rfl ?_
      refine XS.iloadN X6.here hx rfl (hb hby dKb4_21) rfl ?_
      refine XS.iloadN X6.here hx rfl (hb hby dKb4_22) rfl ?_
      exact k)
  obtain ⟨_, _, ⟨T17, L17, k17, n17⟩, -, X17, ⟨Lc17, hQ17, l17, y17, z17⟩, st17⟩ := Jvm.LawKit.callS X6 hx (y := mN15) hown (mvT hZ (hw _ (mW 79 rfl))) (mvT hZ (hw _ (mW 80 rfl))) (mvT hZ (hw _ (mW 46 rfl))) (mvT hZ (hw _ (mW 81 rfl))) (by decide) (backOf (W := 0) (rmKt4 l Z a0 hw [] a1 cz fv k1 c0 c1 c2 c3 T6.heap n0 Z13 O13 J0 ((V1.ext Et2).keep K6 (ninS ne_a1_b2 nin0))) hZ (hw _ (mW 81 rfl)) (hw _ (mW 46 rfl)) (by decide) (by decide)) (g := (mkF m 23 #[rv a1, iv (0 : Int32), iv (4 : Int32), rv b2, iv iB, .unset] [(.int (4 : Int32)), (.int (0 : Int32)), (.ref a1)])) rfl (by rw [hml]; rfl) (argsL := [(.ref a1), (.int (0 : Int32)), (.int (4 : Int32))]) (rest := []) (lenOf pdKb4_1 rfl) rfl (Nat.le_of_eq rfl) (hb hby dKb4_23) (fun _ _ => ⟨rfl, rfl, wl rfl, wl rfl⟩)
  dsimp only [Pt.U, Pt.locs, Pt.cells, Pt.slots] at X17 l17 y17 z17 st17 hQ17
  subst l17 y17 z17
  obtain ⟨bw, kb17, rfl, N17q, K17, hsz17, VB17⟩ := hQ17
  have N17 := Fr.app N6 N17q
  have pre18 : Go p e below T17 (mkF m 26 #[rv a1, iv (0 : Int32), iv (4 : Int32), rv b2, iv iB, .unset] [(.ref bw)]) s₁ EF := fun t k => pre16 t (st17 t k)
  have O19 : Old Z n0 T17.heap := O13.keep K17 all0
  have Z19 : n0 ≤ T17.heap.size := Nat.le_trans Z13 K17.1
  have K19 : Keep h0 T17.heap [] := K13.trans K17 all0
  have g_bw : n0 ≤ bw := Nat.le_trans Z13 hsz17
  have sz_bw : h0.size ≤ bw := Nat.le_trans K13.1 hsz17
  have ne_a1_bw : a1 ≠ bw := Nat.ne_of_lt (Nat.lt_of_lt_of_le ((V1.ext Et2).keep K6 (ninS ne_a1_b2 nin0)).lt hsz17)
  have pre20 : Go p e below T17 (mkF m 32 #[rv a1, iv (0 : Int32), iv (4 : Int32), rv b2, iv iB, rv bw] [(.int iB), (.ref bw)]) s₁ EF := fun t k => pre18 t (by
      refine XS.astore X17.here hx rfl (hb hby dKb4_26) rfl rfl (l' := #[rv a1, iv (0 : Int32), iv (4 : Int32), rv b2, iv iB, rv bw]) rfl ?_
      refine XS.aload X17.here hx rfl (hb hby dKb4_28) rfl rfl ?_
      refine XS.iload X17.here hx rfl (hb hby dKb4_30) rfl ?_
      exact k)
  have hrB := hrg cB (List.mem_of_getElem? hci6)
  have hgB := own_gx (cs := [c0, c1, c2, c3]) (z := (8 : Int32)) hi06 hci6 (by rfl) (Nat.le_of_ble_eq_true rfl)
  obtain ⟨_, _, ⟨T21, L21, k21, n21⟩, -, X21, ⟨Lc21, hQ21, l21, y21, z21⟩, st21⟩ := Jvm.LawKit.callS X17 hx (y := mN8) hown (mvT hZ (hw _ (mW 95 rfl))) (mvT hZ (hw _ (mW 96 rfl))) (mvT hZ (hw _ (mW 46 rfl))) (mvT hZ (hw _ (mW 97 rfl))) (by decide) (backOf (W := 0) (rmJgc l Z a0 hw [] bw iB cz fv kb17 (8 : Int32) _ cB cB T17.heap n0 Z19 O19 J0 VB17 hgB.1 hgB.2.1 hgB.2.2.1 hgB.2.2.2 hrB.1 hrB.2 rfl) hZ (hw _ (mW 97 rfl)) (hw _ (mW 46 rfl)) (by decide) (by decide)) (g := (mkF m 32 #[rv a1, iv (0 : Int32), iv (4 : Int32), rv b2, iv iB, rv bw] [(.int iB), (.ref bw)])) rfl (by rw [hml]; rfl) (argsL := [(.ref bw), (.int iB)]) (rest := []) (lenOf pdKb4_2 rfl) rfl (Nat.le_of_eq rfl) (hb hby dKb4_32) (fun _ _ => ⟨rfl, rfl, wl rfl, wl rfl⟩)
  dsimp only [Pt.U, Pt.locs, Pt.cells, Pt.slots] at X21 l21 y21 z21 st21 hQ21
  subst l21 y21 z21
  obtain ⟨rfl, N21q, hq21⟩ := hQ21
  have N21 := Fr.app N17 N21q
  have pre22 : Go p e below T21 (mkF m 35 #[rv a1, iv (0 : Int32), iv (4 : Int32), rv b2, iv iB, rv bw] [(.int cB)]) s₁ EF := fun t k => pre20 t (st21 t k)
  have e21 : T21.heap = T17.heap := hq21
  have pre23 : Go p e below T21 (mkF m 38 #[rv a1, iv (0 : Int32), iv (4 : Int32), rv b2, iv iB, rv bw] [(.int (255 : Int32)), (.int cB)]) s₁ EF := fun t k => pre22 t (by
      refine XS.sipush X21.here hx rfl (hb hby dKb4_35) ?_
      exact k)
  have pre24 : Go p e below T21 (mkF m 54 #[rv a1, iv (0 : Int32), iv (4 : Int32), rv b2, iv iB, rv bw] []) s₁ EF := fun t k => pre23 t (XS.icmpYes X21.here hx rfl (pc0 := 38) (pc' := 54) rfl (hb hby dKb4_38) rfl (tlt hgt6).2.2.1 (by decide) (by decide) k)
  have pre25 : Go p e below T21 (mkF m 56 #[rv a1, iv (0 : Int32), iv (4 : Int32), rv b2, iv iB, rv bw] [(.ref bw)]) s₁ EF := fun t k => pre24 t (by
      refine XS.aload X21.here hx rfl (hb hby dKb4_54) rfl rfl ?_
      exact k)
  obtain ⟨fs, hr, hrun, hended, hW, hsame⟩ := X21.leave (v := some (.ref bw)) (fun h => by rw [Bd.returns] at h; cases h)
  refine ⟨_, _, hEF ▸ pre25 _ (retOut X21 hx Bd.returns rfl (Or.inr (Or.inr (Or.inr (Or.inr ⟨rfl, rfl, rfl⟩)))) (hb hby dKb4_56) hr), hrun, hended, _, _, rfl, ?_, ⟨_, rfl⟩, hW, hsame.mono (by decide) (by decide)⟩
  show QKb4 Z a1 cz fv k1 c0 c1 c2 c3 h0 n0 _ T21.heap _
  rw [e21]
  exact Or.inr ⟨_, _, rfl, N21, K19, sz_bw, VB17⟩
abbrev rKKc4_0 : Room := { frames := 0, cells := 0, slots := 0, locals := 0 }
theorem dKc4_0_0 : decode jdk_52_method_15_code 0 = .ok (.iload_n 1, 1) := by decide +kernel
theorem dKc4_0_1 : decode jdk_52_method_15_code 1 = .ok (.aload_n 0, 1) := by decide +kernel
theorem dKc4_0_2 : decode jdk_52_method_15_code 2 = .ok (.arraylength, 1) := by decide +kernel
theorem dKc4_0_3 : decode jdk_52_method_15_code 3 = .ok (.isub, 1) := by decide +kernel
theorem dKc4_0_4 : decode jdk_52_method_15_code 4 = .ok (.bipush 31, 2) := by decide +kernel
theorem dKc4_0_6 : decode jdk_52_method_15_code 6 = .ok (.iushr, 1) := by decide +kernel
theorem dKc4_0_7 : decode jdk_52_method_15_code 7 = .ok (.i2b, 1) := by decide +kernel
theorem dKc4_0_8 : decode jdk_52_method_15_code 8 = .ok (.ireturn, 1) := by decide +kernel
theorem pnKc4_0 : plainName "java/lang/StringUTF16" = true := by first | (simp [plainName, overriddenIn]; done) | decide +kernel
theorem efKc4_0 (m : MethodId) (a1 : Addr) : entryFrame m #[(.ref a1), (.int (4 : Int32))] 2 = mkF m 0 #[rv a1, iv (4 : Int32)] [] := by first | (simp [entryFrame, mkF, argsToLocals, Value.category]; done) | rfl
def QKc4_0 (Z : State) (a1 : Addr) (cz : Int32) (fv : Value) (k : ClassId) (vs : List Value) (h0 : Heap) (n0 : Nat) (v : Option Value) (h : Heap) (L : List Loc) : Prop := v = some (.int (0 : Int32)) ∧ Fr n0 L ∧ h = h0
set_option maxRecDepth 65536 in
set_option maxHeartbeats 40000000 in
theorem rmKc4_0 (l : Launch) (Z : State) (a0 : Array Value) (hw : ∀ d ∈ tables_1, d.before a0 Z = true) (ws : List Jvm.Cond) (a1 : Addr) (cz : Int32) (fv : Value) (k : ClassId) (vs : List Value) (h0 : Heap) (n0 : Nat) (Z0 : n0 ≤ h0.size) (O0 : Old Z n0 h0) (J0 : Jd Z cz fv) (VV : Arv Z h0 a1 k .byte (4 : Int32) vs (.int 0)) :
    MetFree l mN17 (head1 (Jvm.Cond.code mN17 jdk_52_method_15_code 2 (some .byte) :: ws) rKKc4_0) (fun a U => a = #[(.ref a1), (.int (4 : Int32))] ∧ Z.Warmed39 U.vm ∧ U.heap = h0) (fun _ _ _ _ _ => True) (fun _ U o U' => ∃ v L, o = .returned v ∧ QKc4_0 Z a1 cz fv k vs h0 n0 v U'.heap L ∧ FrameEnd U o U' L rKKc4_0.cells rKKc4_0.slots) := by
  refine MetFree.of_bodySF (plainFor_of_name pnKc4_0) hisR ?_
  intro p e s m args below meth c s₁ Bd hml0 hP hK
  obtain ⟨rfl, hZ, hh⟩ := hP
  have hx := Bd.exec
  have hby := Bd.bytes
  have hml : c.maxLocals = 2 := hml0
  have hown : s.vm.findClass "java/lang/StringUTF16" = some m.cls := findClass_of_methodNamed Bd.named
  have hnm := (name_of_methodNamed Bd.named Bd.method).1
  have X0 : Stand p l e rKKc4_0 s m #[(.ref a1), (.int (4 : Int32))] below meth c s₁ [] 0 0 := Stand.of_body Bd
  have e0 : s₁.heap = h0 := by rw [← hh, Bd.state]; rfl
  have N0 := Fr.nil n0
  obtain ⟨EF, hEF⟩ : ∃ f, f = entryFrame m #[(.ref a1), (.int (4 : Int32))] 2 := ⟨_, rfl⟩
  have pre0 : Go p e below s₁ (mkF m 0 #[rv a1, iv (4 : Int32)] []) s₁ EF := fun t k => by rw [hEF]; exact castTop (efKc4_0 m a1) k
  have pre1 : Go p e below s₁ (mkF m 2 #[rv a1, iv (4 : Int32)] [(.ref a1), (.int (4 : Int32))]) s₁ EF := fun t k => pre0 t (by
      refine XS.iloadN X0.here hx rfl (hb hby dKc4_0_0) rfl ?_
      refine XS.aloadN X0.here hx rfl (hb hby dKc4_0_1) rfl rfl ?_
      exact k)
  obtain ⟨cl2, Ar2, q2, Sz2, M2, H2, G2⟩ := id VV
  have pre3 : Go p e below s₁ (mkF m 8 #[rv a1, iv (4 : Int32)] [(.int (0 : Int32))]) s₁ EF := fun t k => pre1 t (by
      refine X0.arraylength hx (by rw [e0]; exact Ar2.1) (State.isArrayOf_alike hZ.alike Ar2.2.1) (g := (mkF m 2 #[rv a1, iv (4 : Int32)] [(.ref a1), (.int (4 : Int32))])) rfl rfl (hb hby dKc4_0_2) _ ?_
      rw [len_of Sz2 M2]
      refine XS.isub X0.here hx rfl (hb hby dKc4_0_3) rfl ?_
      refine XS.bipush X0.here hx rfl (hb hby dKc4_0_4) ?_
      refine XS.iushr X0.here hx rfl (hb hby dKc4_0_6) rfl ?_
      refine XS.i2b X0.here hx rfl (hb hby dKc4_0_7) rfl ?_
      exact k)
  have hnr : Value.int (nar .byte (0 : Int32)) = (.int (0 : Int32)) := by rfl
  obtain ⟨fs, hr, hrun, hended, hW, hsame⟩ := X0.leave (v := some (.int (0 : Int32))) (fun h => by rw [Bd.returns] at h; cases h)
  refine ⟨_, _, hEF ▸ pre3 _ (retN X0 hx (t := .byte) Bd.returns (by simp) (hb hby dKc4_0_8) (hnr ▸ hr)), hrun, hended, _, _, rfl, ?_, ⟨_, rfl⟩, hW, hsame.mono (by decide) (by decide)⟩
  show QKc4_0 Z a1 cz fv k vs h0 n0 _ s₁.heap _
  rw [e0]
  exact ⟨rfl, N0, rfl⟩
abbrev rKKc4_1 : Room := { frames := 0, cells := 0, slots := 0, locals := 0 }
theorem dKc4_1_0 : decode jdk_52_method_15_code 0 = .ok (.iload_n 1, 1) := by decide +kernel
theorem dKc4_1_1 : decode jdk_52_method_15_code 1 = .ok (.aload_n 0, 1) := by decide +kernel
theorem dKc4_1_2 : decode jdk_52_method_15_code 2 = .ok (.arraylength, 1) := by decide +kernel
theorem dKc4_1_3 : decode jdk_52_method_15_code 3 = .ok (.isub, 1) := by decide +kernel
theorem dKc4_1_4 : decode jdk_52_method_15_code 4 = .ok (.bipush 31, 2) := by decide +kernel
theorem dKc4_1_6 : decode jdk_52_method_15_code 6 = .ok (.iushr, 1) := by decide +kernel
theorem dKc4_1_7 : decode jdk_52_method_15_code 7 = .ok (.i2b, 1) := by decide +kernel
theorem dKc4_1_8 : decode jdk_52_method_15_code 8 = .ok (.ireturn, 1) := by decide +kernel
theorem pnKc4_1 : plainName "java/lang/StringUTF16" = true := by first | (simp [plainName, overriddenIn]; done) | decide +kernel
theorem efKc4_1 (m : MethodId) (a1 : Addr) : entryFrame m #[(.ref a1), (.int (4 : Int32))] 2 = mkF m 0 #[rv a1, iv (4 : Int32)] [] := by first | (simp [entryFrame, mkF, argsToLocals, Value.category]; done) | rfl
def QKc4_1 (Z : State) (a1 : Addr) (cz : Int32) (fv : Value) (k : ClassId) (vs : List Value) (h0 : Heap) (n0 : Nat) (v : Option Value) (h : Heap) (L : List Loc) : Prop := v = some (.int (1 : Int32)) ∧ Fr n0 L ∧ h = h0
set_option maxRecDepth 65536 in
set_option maxHeartbeats 40000000 in
theorem rmKc4_1 (l : Launch) (Z : State) (a0 : Array Value) (hw : ∀ d ∈ tables_1, d.before a0 Z = true) (ws : List Jvm.Cond) (a1 : Addr) (cz : Int32) (fv : Value) (k : ClassId) (vs : List Value) (h0 : Heap) (n0 : Nat) (Z0 : n0 ≤ h0.size) (O0 : Old Z n0 h0) (J0 : Jd Z cz fv) (VV : Arv Z h0 a1 k .byte (8 : Int32) vs (.int 0)) :
    MetFree l mN17 (head1 (Jvm.Cond.code mN17 jdk_52_method_15_code 2 (some .byte) :: ws) rKKc4_1) (fun a U => a = #[(.ref a1), (.int (4 : Int32))] ∧ Z.Warmed39 U.vm ∧ U.heap = h0) (fun _ _ _ _ _ => True) (fun _ U o U' => ∃ v L, o = .returned v ∧ QKc4_1 Z a1 cz fv k vs h0 n0 v U'.heap L ∧ FrameEnd U o U' L rKKc4_1.cells rKKc4_1.slots) := by
  refine MetFree.of_bodySF (plainFor_of_name pnKc4_1) hisR ?_
  intro p e s m args below meth c s₁ Bd hml0 hP hK
  obtain ⟨rfl, hZ, hh⟩ := hP
  have hx := Bd.exec
  have hby := Bd.bytes
  have hml : c.maxLocals = 2 := hml0
  have hown : s.vm.findClass "java/lang/StringUTF16" = some m.cls := findClass_of_methodNamed Bd.named
  have hnm := (name_of_methodNamed Bd.named Bd.method).1
  have X0 : Stand p l e rKKc4_1 s m #[(.ref a1), (.int (4 : Int32))] below meth c s₁ [] 0 0 := Stand.of_body Bd
  have e0 : s₁.heap = h0 := by rw [← hh, Bd.state]; rfl
  have N0 := Fr.nil n0
  obtain ⟨EF, hEF⟩ : ∃ f, f = entryFrame m #[(.ref a1), (.int (4 : Int32))] 2 := ⟨_, rfl⟩
  have pre0 : Go p e below s₁ (mkF m 0 #[rv a1, iv (4 : Int32)] []) s₁ EF := fun t k => by rw [hEF]; exact castTop (efKc4_1 m a1) k
  have pre1 : Go p e below s₁ (mkF m 2 #[rv a1, iv (4 : Int32)] [(.ref a1), (.int (4 : Int32))]) s₁ EF := fun t k => pre0 t (by
      refine XS.iloadN X0.here hx rfl (hb hby dKc4_1_0) rfl ?_
      refine XS.aloadN X0.here hx rfl (hb hby dKc4_1_1) rfl rfl ?_
      exact k)
  obtain ⟨cl2, Ar2, q2, Sz2, M2, H2, G2⟩ := id VV
  have pre3 : Go p e below s₁ (mkF m 8 #[rv a1, iv (4 : Int32)] [(.int (1 : Int32))]) s₁ EF := fun t k => pre1 t (by
      refine X0.arraylength hx (by rw [e0]; exact Ar2.1) (State.isArrayOf_alike hZ.alike Ar2.2.1) (g := (mkF m 2 #[rv a1, iv (4 : Int32)] [(.ref a1), (.int (4 : Int32))])) rfl rfl (hb hby dKc4_1_2) _ ?_
      rw [len_of Sz2 M2]
      refine XS.isub X0.here hx rfl (hb hby dKc4_1_3) rfl ?_
      refine XS.bipush X0.here hx rfl (hb hby dKc4_1_4) ?_
      refine XS.iushr X0.here hx rfl (hb hby dKc4_1_6) rfl ?_
      refine XS.i2b X0.here hx rfl (hb hby dKc4_1_7) rfl ?_
      exact k)
  have hnr : Value.int (nar .byte (1 : Int32)) = (.int (1 : Int32)) := by rfl
  obtain ⟨fs, hr, hrun, hended, hW, hsame⟩ := X0.leave (v := some (.int (1 : Int32))) (fun h => by rw [Bd.returns] at h; cases h)
  refine ⟨_, _, hEF ▸ pre3 _ (retN X0 hx (t := .byte) Bd.returns (by simp) (hb hby dKc4_1_8) (hnr ▸ hr)), hrun, hended, _, _, rfl, ?_, ⟨_, rfl⟩, hW, hsame.mono (by decide) (by decide)⟩
  show QKc4_1 Z a1 cz fv k vs h0 n0 _ s₁.heap _
  rw [e0]
  exact ⟨rfl, N0, rfl⟩
abbrev rKKi4 : Room := { frames := 4, cells := 2, slots := 12, locals := 57 }
theorem dKi4_0 : decode jdk_42_method_149_code 0 = .ok (.aload_n 0, 1) := by decide +kernel
theorem dKi4_1 : decode jdk_42_method_149_code 1 = .ok (.invokespecial 1, 3) := by decide +kernel
theorem dKi4_4 : decode jdk_42_method_149_code 4 = .ok (.iload_n 3, 1) := by decide +kernel
theorem dKi4_5 : decode jdk_42_method_149_code 5 = .ok (.ifCond .ne 22, 3) := by decide +kernel
theorem dKi4_27 : decode jdk_42_method_149_code 27 = .ok (.getstatic 38, 3) := by decide +kernel
theorem dKi4_30 : decode jdk_42_method_149_code 30 = .ok (.ifCond .eq 28, 3) := by decide +kernel
theorem dKi4_33 : decode jdk_42_method_149_code 33 = .ok (.aload_n 1, 1) := by decide +kernel
theorem dKi4_34 : decode jdk_42_method_149_code 34 = .ok (.iload_n 2, 1) := by decide +kernel
theorem dKi4_35 : decode jdk_42_method_149_code 35 = .ok (.iload_n 3, 1) := by decide +kernel
theorem dKi4_36 : decode jdk_42_method_149_code 36 = .ok (.invokestatic 177, 3) := by decide +kernel
theorem dKi4_39 : decode jdk_42_method_149_code 39 = .ok (.astore 5, 2) := by decide +kernel
theorem dKi4_41 : decode jdk_42_method_149_code 41 = .ok (.aload_n 0, 1) := by decide +kernel
theorem dKi4_42 : decode jdk_42_method_149_code 42 = .ok (.aload 5, 2) := by decide +kernel
theorem dKi4_44 : decode jdk_42_method_149_code 44 = .ok (.iload_n 3, 1) := by decide +kernel
theorem dKi4_45 : decode jdk_42_method_149_code 45 = .ok (.invokestatic 47, 3) := by decide +kernel
theorem dKi4_48 : decode jdk_42_method_149_code 48 = .ok (.putfield 15, 3) := by decide +kernel
theorem dKi4_51 : decode jdk_42_method_149_code 51 = .ok (.aload_n 0, 1) := by decide +kernel
theorem dKi4_52 : decode jdk_42_method_149_code 52 = .ok (.aload 5, 2) := by decide +kernel
theorem dKi4_54 : decode jdk_42_method_149_code 54 = .ok (.putfield 9, 3) := by decide +kernel
theorem dKi4_57 : decode jdk_42_method_149_code 57 = .ok (.return_, 1) := by decide +kernel
theorem pnKi4 : plainName "java/lang/String" = true := by first | (simp [plainName, overriddenIn]; done) | decide +kernel
theorem pdKi4_0 : parseMethodDescriptor "([CII)[B" = some ⟨[(.array .char), .int, .int], some (.array .byte)⟩ := by decide +kernel
theorem pdKi4_1 : parseMethodDescriptor "([BI)B" = some ⟨[(.array .byte), .int], some .byte⟩ := by decide +kernel
theorem efKi4 (m : MethodId) (a1 : Addr) (a2 : Addr) : entryFrame m #[(.ref a1), (.ref a2), (.int (0 : Int32)), (.int (4 : Int32)), .null] 6 = mkF m 0 #[rv a1, rv a2, iv (0 : Int32), iv (4 : Int32), .val .null, .unset] [] := by first | (simp [entryFrame, mkF, argsToLocals, Value.category]; done) | rfl
def QKi4 (Z : State) (a1 : Addr) (a2 : Addr) (cz : Int32) (fv : Value) (k1 : ClassId) (c0 : Int32) (c1 : Int32) (c2 : Int32) (c3 : Int32) (h0 : Heap) (n0 : Nat) (v : Option Value) (h : Heap) (L : List Loc) : Prop := v = none ∧ Fr n0 L ∧ Keep h0 h [a1] ∧ Str Z h a1 [c0, c1, c2, c3]
set_option maxRecDepth 65536 in
set_option maxHeartbeats 40000000 in
theorem rmKi4 (l : Launch) (Z : State) (a0 : Array Value) (hw : ∀ d ∈ tables_1, d.before a0 Z = true) (ws : List Jvm.Cond) (a1 : Addr) (a2 : Addr) (cz : Int32) (fv : Value) (k1 : ClassId) (c0 : Int32) (c1 : Int32) (c2 : Int32) (c3 : Int32) (h0 : Heap) (n0 : Nat) (Z0 : n0 ≤ h0.size) (O0 : Old Z n0 h0) (J0 : Jd Z cz fv) (E1 : Exa Z h0 a1 "java/lang/String") (g_a1 : n0 ≤ a1) (F1 : Fld Z h0 a1 "java/lang/String" "value" "[B" .null) (F2 : Fld Z h0 a1 "java/lang/String" "coder" "B" (.int (0 : Int32))) (V2 : Arv Z h0 a2 k1 .char (4 : Int32) [(.int c0), (.int c1), (.int c2), (.int c3)] (.int (0 : Int32))) (hrg : ∀ c ∈ [c0, c1, c2, c3], 0 ≤ c.toInt ∧ c.toInt < 65536) :
    MetFree l mN18 (head1 (Jvm.Cond.code mN18 jdk_42_method_149_code 6 none :: ws) rKKi4) (fun a U => a = #[(.ref a1), (.ref a2), (.int (0 : Int32)), (.int (4 : Int32)), .null] ∧ Z.Warmed39 U.vm ∧ U.heap = h0) (fun _ _ _ _ _ => True) (fun _ U o U' => ∃ v L, o = .returned v ∧ QKi4 Z a1 a2 cz fv k1 c0 c1 c2 c3 h0 n0 v U'.heap L ∧ FrameEnd U o U' L rKKi4.cells rKKi4.slots) := by
  refine MetFree.of_bodySF (plainFor_of_name pnKi4) hisR ?_
  intro p e s m args below meth c s₁ Bd hml0 hP hK
  obtain ⟨rfl, hZ, hh⟩ := hP
  have hx := Bd.exec
  have hby := Bd.bytes
  have hml : c.maxLocals = 6 := hml0
  have hown : s.vm.findClass "java/lang/String" = some m.cls := findClass_of_methodNamed Bd.named
  have hnm := (name_of_methodNamed Bd.named Bd.method).1
  have X0 : Stand p l e rKKi4 s m #[(.ref a1), (.ref a2), (.int (0 : Int32)), (.int (4 : Int32)), .null] below meth c s₁ [] 0 0 := Stand.of_body Bd
  have e0 : s₁.heap = h0 := by rw [← hh, Bd.state]; rfl
  have N0 := Fr.nil n0
  obtain ⟨EF, hEF⟩ : ∃ f, f = entryFrame m #[(.ref a1), (.ref a2), (.int (0 : Int32)), (.int (4 : Int32)), .null] 6 := ⟨_, rfl⟩
  have pre0 : Go p e below s₁ (mkF m 0 #[rv a1, rv a2, iv (0 : Int32), iv (4 : Int32), .val .null, .unset] []) s₁ EF := fun t k => by rw [hEF]; exact castTop (efKi4 m a1 a2) k
  have pre1 : Go p e below s₁ (mkF m 1 #[rv a1, rv a2, iv (0 : Int32), iv (4 : Int32), .val .null, .unset] [(.ref a1)]) s₁ EF := fun t k => pre0 t (by
      refine XS.aloadN X0.here hx rfl (hb hby dKi4_0) rfl rfl ?_
      exact k)
  obtain ⟨T2, X2, e2, st2⟩ := initO X0 hx hZ hown (hw _ (mW 18 rfl)) (hw _ (mW 19 rfl)) (hw _ (mW 20 rfl)) e0 (g := (mkF m 1 #[rv a1, rv a2, iv (0 : Int32), iv (4 : Int32), .val .null, .unset] [(.ref a1)])) rfl (by rw [hml]; rfl) rfl (hb hby dKi4_1) (by decide) (W := 0) (Nat.le_of_eq rfl) (by decide)
  have pre3 : Go p e below T2 (mkF m 4 #[rv a1, rv a2, iv (0 : Int32), iv (4 : Int32), .val .null, .unset] []) s₁ EF := fun t k => pre1 t (st2 t k)
  have pre4 : Go p e below T2 (mkF m 5 #[rv a1, rv a2, iv (0 : Int32), iv (4 : Int32), .val .null, .unset] [(.int (4 : Int32))]) s₁ EF := fun t k => pre3 t (by
      refine XS.iloadN X2.here hx rfl (hb hby dKi4_4) rfl ?_
      exact k)
  have pre5 : Go p e below T2 (mkF m 27 #[rv a1, rv a2, iv (0 : Int32), iv (4 : Int32), .val .null, .unset] []) s₁ EF := fun t k => pre4 t (XS.ifYes X2.here hx rfl (pc0 := 5) (pc' := 27) rfl (hb hby dKi4_5) rfl ((if0 _ _).trans (feq (by decide : ¬ ((4 : Int32) = (0 : Int32)))).2) (by decide) (by decide) k)
  obtain ⟨T6, X6, e6, st6⟩ := getS2 X2 hx hZ hown (host := "") (Or.inl (hw _ (mW 43 rfl))) Via.refl e2 (J0.1.ext O0.2) (g := (mkF m 27 #[rv a1, rv a2, iv (0 : Int32), iv (4 : Int32), .val .null, .unset] [])) rfl (hb hby dKi4_27)
  have pre7 : Go p e below T6 (mkF m 30 #[rv a1, rv a2, iv (0 : Int32), iv (4 : Int32), .val .null, .unset] [(.int cz)]) s₁ EF := fun t k => pre5 t (st6 t k)
  have pre8 : Go p e below T6 (mkF m 33 #[rv a1, rv a2, iv (0 : Int32), iv (4 : Int32), .val .null, .unset] []) s₁ EF := fun t k => pre7 t (XS.ifNo X6.here hx rfl (hb hby dKi4_30) rfl ((if0 _ _).trans (feq J0.2.1).1) k)
  have pre9 : Go p e below T6 (mkF m 36 #[rv a1, rv a2, iv (0 : Int32), iv (4 : Int32), .val .null, .unset] [(.int (4 : Int32)), (.int (0 : Int32)), (.ref a2)]) s₁ EF := fun t k => pre8 t (by
      refine XS.aloadN X6.here hx rfl (hb hby dKi4_33) rfl rfl ?_
      refine XS.iloadN X6.here hx rfl (hb hby dKi4_34) rfl ?_
      refine XS.iloadN X6.here hx rfl (hb hby dKi4_35) rfl ?_
      exact k)
  obtain ⟨_, _, ⟨T10, L10, k10, n10⟩, -, X10, ⟨Lc10, hQ10, l10, y10, z10⟩, st10⟩ := Jvm.LawKit.callS X6 hx (y := mN16) hown (mvT hZ (hw _ (mW 44 rfl))) (mvT hZ (hw _ (mW 45 rfl))) (mvT hZ (hw _ (mW 46 rfl))) (mvT hZ (hw _ (mW 47 rfl))) (by decide) (backOf (W := 0) (rmKb4 l Z a0 hw [] a2 cz fv k1 c0 c1 c2 c3 h0 n0 Z0 O0 J0 V2 hrg) hZ (hw _ (mW 47 rfl)) (hw _ (mW 46 rfl)) (by decide) (by decide)) (g := (mkF m 36 #[rv a1, rv a2, iv (0 : Int32), iv (4 : Int32), .val .null, .unset] [(.int (4 : Int32)), (.int (0 : Int32)), (.ref a2)])) rfl (by rw [hml]; rfl) (argsL := [(.ref a2), (.int (0 : Int32)), (.int (4 : Int32))]) (rest := []) (lenOf pdKi4_0 rfl) rfl (Nat.le_of_eq rfl) (hb hby dKi4_36) (fun _ _ => ⟨rfl, e6, wl rfl, wl rfl⟩)
  dsimp only [Pt.U, Pt.locs, Pt.cells, Pt.slots] at X10 l10 y10 z10 st10 hQ10
  subst l10 y10 z10
  rcases hQ10 with ⟨bv, kb10, rfl, N10q, K10, hsz10, LE10, VB10⟩ | ⟨bv, kb10, rfl, N10q, K10, hsz10, VB10⟩
  · have N10 := Fr.app N0 N10q
    have pre11 : Go p e below T10 (mkF m 39 #[rv a1, rv a2, iv (0 : Int32), iv (4 : Int32), .val .null, .unset] [(.ref bv)]) s₁ EF := fun t k => pre9 t (st10 t k)
    have O12 : Old Z n0 T10.heap := O0.keep K10 all0
    have Z12 : n0 ≤ T10.heap.size := Nat.le_trans Z0 K10.1
    have K12 : Keep h0 T10.heap [a1] := (Keep.refl h0 [a1]).trans K10 all0
    have g_bv : n0 ≤ bv := Nat.le_trans Z0 hsz10
    have sz_bv : h0.size ≤ bv := Nat.le_trans (Keep.refl h0 [a1]).1 hsz10
    have ne_a1_bv : a1 ≠ bv := Nat.ne_of_lt (Nat.lt_of_lt_of_le E1.lt hsz10)
    have pre13 : Go p e below T10 (mkF m 45 #[rv a1, rv a2, iv (0 : Int32), iv (4 : Int32), .val .null, rv bv] [(.int (4 : Int32)), (.ref bv), (.ref a1)]) s₁ EF := fun t k => pre11 t (by
        refine XS.astore X10.here hx rfl (hb hby dKi4_39) rfl rfl (l' := #[rv a1, rv a2, iv (0 : Int32), iv (4 : Int32), .val .null, rv bv]) rfl ?_
        refine XS.aloadN X10.here hx rfl (hb hby dKi4_41) rfl rfl ?_
        refine XS.aload X10.here hx rfl (hb hby dKi4_42) rfl rfl ?_
        refine XS.iloadN X10.here hx rfl (hb hby dKi4_44) rfl ?_
        exact k)
    obtain ⟨_, _, ⟨T14, L14, k14, n14⟩, -, X14, ⟨Lc14, hQ14, l14, y14, z14⟩, st14⟩ := Jvm.LawKit.callS X10 hx (y := mN17) hown (mvT hZ (hw _ (mW 51 rfl))) (mvT hZ (hw _ (mW 52 rfl))) (mvT hZ (hw _ (mW 46 rfl))) (mvT hZ (hw _ (mW 53 rfl))) (by decide) (backOf (W := 1) (rmKc4_0 l Z a0 hw [] bv cz fv kb10 _ T10.heap n0 Z12 O12 J0 VB10) hZ (hw _ (mW 53 rfl)) (hw _ (mW 46 rfl)) (by decide) (by decide)) (g := (mkF m 45 #[rv a1, rv a2, iv (0 : Int32), iv (4 : Int32), .val .null, rv bv] [(.int (4 : Int32)), (.ref bv), (.ref a1)])) rfl (by rw [hml]; rfl) (argsL := [(.ref bv), (.int (4 : Int32))]) (rest := [(.ref a1)]) (lenOf pdKi4_1 rfl) rfl (Nat.le_of_eq rfl) (hb hby dKi4_45) (fun _ _ => ⟨rfl, rfl, wl rfl, wl rfl⟩)
    dsimp only [Pt.U, Pt.locs, Pt.cells, Pt.slots] at X14 l14 y14 z14 st14 hQ14
    subst l14 y14 z14
    obtain ⟨rfl, N14q, hq14⟩ := hQ14
    have N14 := Fr.app N10 N14q
    have pre15 : Go p e below T14 (mkF m 48 #[rv a1, rv a2, iv (0 : Int32), iv (4 : Int32), .val .null, rv bv] [(.int (0 : Int32)), (.ref a1)]) s₁ EF := fun t k => pre13 t (st14 t k)
    have e14 : T14.heap = T10.heap := hq14
    obtain ⟨T16, h16, X16, e16, W16, st16⟩ := putFN X14 hx hZ hown (hw _ (mW 28 rfl)) Via.refl e14 (F2.keep K10 nin0) (E1.keep K10) (Or.inr ⟨(hw _ (mW 24 rfl)), rfl, hnm⟩) (hw _ (mW 9 rfl)) (ty := .byte) (v' := (.int (0 : Int32))) (by decide) rfl rfl (g := (mkF m 48 #[rv a1, rv a2, iv (0 : Int32), iv (4 : Int32), .val .null, rv bv] [(.int (0 : Int32)), (.ref a1)])) rfl rfl (hb hby dKi4_48)
    have pre17 : Go p e below T16 (mkF m 51 #[rv a1, rv a2, iv (0 : Int32), iv (4 : Int32), .val .null, rv bv] []) s₁ EF := fun t k => pre15 t (st16 t k)
    have O18 : Old Z n0 h16 := O12.wr W16 g_a1
    have Z18 : n0 ≤ h16.size := Nat.le_trans Z12 (Keep.of_wr W16).1
    have K18 : Keep h0 h16 [a1] := K12.wr W16 (Or.inl (List.mem_of_getElem? (i := 0) rfl))
    have Fw16 := Fld.same W16 (F2.keep K10 nin0)
    have N16 := Fr.snoc X16 N14 g_a1
    have pre19 : Go p e below T16 (mkF m 54 #[rv a1, rv a2, iv (0 : Int32), iv (4 : Int32), .val .null, rv bv] [(.ref bv), (.ref a1)]) s₁ EF := fun t k => pre17 t (by
        refine XS.aloadN X16.here hx rfl (hb hby dKi4_51) rfl rfl ?_
        refine XS.aload X16.here hx rfl (hb hby dKi4_52) rfl rfl ?_
        exact k)
    obtain ⟨T20, h20, X20, e20, W20, st20⟩ := putF X16 hx hZ hown (host := "") (Or.inl (hw _ (mW 27 rfl))) Via.refl e16 (Fld.other W16 (F1.keep K10 nin0) (Or.inr (slot_ne (Or.inr (hw _ (mW 23 rfl))) (Or.inr (hw _ (mW 24 rfl))) (by decide) (t := (.array .byte)) (t' := .byte) (by decide) (by decide)))) ((E1.keep K10).wr W16) (Or.inr ⟨(hw _ (mW 23 rfl)), rfl, hnm⟩) (hw _ (mW 9 rfl)) (ty := (.array .byte)) (by decide) rfl rfl (g := (mkF m 54 #[rv a1, rv a2, iv (0 : Int32), iv (4 : Int32), .val .null, rv bv] [(.ref bv), (.ref a1)])) rfl rfl (hb hby dKi4_54)
    have pre21 : Go p e below T20 (mkF m 57 #[rv a1, rv a2, iv (0 : Int32), iv (4 : Int32), .val .null, rv bv] []) s₁ EF := fun t k => pre19 t (st20 t k)
    have O22 : Old Z n0 h20 := O18.wr W20 g_a1
    have Z22 : n0 ≤ h20.size := Nat.le_trans Z18 (Keep.of_wr W20).1
    have K22 : Keep h0 h20 [a1] := K18.wr W20 (Or.inl (List.mem_of_getElem? (i := 0) rfl))
    have Fw20 := Fld.same W20 (Fld.other W16 (F1.keep K10 nin0) (Or.inr (slot_ne (Or.inr (hw _ (mW 23 rfl))) (Or.inr (hw _ (mW 24 rfl))) (by decide) (t := (.array .byte)) (t' := .byte) (by decide) (by decide))))
    have N20 := Fr.snoc X20 N16 g_a1
    obtain ⟨fs, hr, hrun, hended, hW, hsame⟩ := X20.leave (v := none) (fun _ => rfl)
    refine ⟨_, _, hEF ▸ pre21 _ (X20.returnOut hx Bd.returns (hb hby dKi4_57) hr), hrun, hended, _, _, rfl, ?_, ⟨_, rfl⟩, hW, hsame.mono (by decide) (by decide)⟩
    show QKi4 Z a1 a2 cz fv k1 c0 c1 c2 c3 h0 n0 _ T20.heap _
    rw [e20]
    exact ⟨rfl, N20, K22, ⟨_, _, _, _, _, (((E1.keep K10).wr W16).wr W20), (Fld.other W20 Fw16 (Or.inr (slot_ne (Or.inr (hw _ (mW 24 rfl))) (Or.inr (hw _ (mW 23 rfl))) (by decide) (t := .byte) (t' := (.array .byte)) (by decide) (by decide)))), Fw20, ((VB10.other W16 (Ne.symm ne_a1_bv)).other W20 (Ne.symm ne_a1_bv)), Nat.le_of_ble_eq_true rfl, Or.inl ⟨rfl, by rfl, rfl, own_le hrg LE10⟩⟩⟩
  have N10 := Fr.app N0 N10q
  have pre23 : Go p e below T10 (mkF m 39 #[rv a1, rv a2, iv (0 : Int32), iv (4 : Int32), .val .null, .unset] [(.ref bv)]) s₁ EF := fun t k => pre9 t (st10 t k)
  have O24 : Old Z n0 T10.heap := O0.keep K10 all0
  have Z24 : n0 ≤ T10.heap.size := Nat.le_trans Z0 K10.1
  have K24 : Keep h0 T10.heap [a1] := (Keep.refl h0 [a1]).trans K10 all0
  have g_bv : n0 ≤ bv := Nat.le_trans Z0 hsz10
  have sz_bv : h0.size ≤ bv := Nat.le_trans (Keep.refl h0 [a1]).1 hsz10
  have ne_a1_bv : a1 ≠ bv := Nat.ne_of_lt (Nat.lt_of_lt_of_le E1.lt hsz10)
  have pre25 : Go p e below T10 (mkF m 45 #[rv a1, rv a2, iv (0 : Int32), iv (4 : Int32), .val .null, rv bv] [(.int (4 : Int32)), (.ref bv), (.ref a1)]) s₁ EF := fun t k => pre23 t (by
      refine XS.astore X10.here hx rfl (hb hby dKi4_39) rfl rfl (l' := #[rv a1, rv a2, iv (0 : Int32), iv (4 : Int32), .val .null, rv bv]) rfl ?_
      refine XS.aloadN X10.here hx rfl (hb hby dKi4_41) rfl rfl ?_
      refine XS.aload X10.here hx rfl (hb hby dKi4_42) rfl rfl ?_
      refine XS.iloadN X10.here hx rfl (hb hby dKi4_44) rfl ?_
      exact k)
  obtain ⟨_, _, ⟨T26, L26, k26, n26⟩, -, X26, ⟨Lc26, hQ26, l26, y26, z26⟩, st26⟩ := Jvm.LawKit.callS X10 hx (y := mN17) hown (mvT hZ (hw _ (mW 51 rfl))) (mvT hZ (hw _ (mW 52 rfl))) (mvT hZ (hw _ (mW 46 rfl))) (mvT hZ (hw _ (mW 53 rfl))) (by decide) (backOf (W := 1) (rmKc4_1 l Z a0 hw [] bv cz fv kb10 _ T10.heap n0 Z24 O24 J0 VB10) hZ (hw _ (mW 53 rfl)) (hw _ (mW 46 rfl)) (by decide) (by decide)) (g := (mkF m 45 #[rv a1, rv a2, iv (0 : Int32), iv (4 : Int32), .val .null, rv bv] [(.int (4 : Int32)), (.ref bv), (.ref a1)])) rfl (by rw [hml]; rfl) (argsL := [(.ref bv), (.int (4 : Int32))]) (rest := [(.ref a1)]) (lenOf pdKi4_1 rfl) rfl (Nat.le_of_eq rfl) (hb hby dKi4_45) (fun _ _ => ⟨rfl, rfl, wl rfl, wl rfl⟩)
  dsimp only [Pt.U, Pt.locs, Pt.cells, Pt.slots] at X26 l26 y26 z26 st26 hQ26
  subst l26 y26 z26
  obtain ⟨rfl, N26q, hq26⟩ := hQ26
  have N26 := Fr.app N10 N26q
  have pre27 : Go p e below T26 (mkF m 48 #[rv a1, rv a2, iv (0 : Int32), iv (4 : Int32), .val .null, rv bv] [(.int (1 : Int32)), (.ref a1)]) s₁ EF := fun t k => pre25 t (st26 t k)
  have e26 : T26.heap = T10.heap := hq26
  obtain ⟨T28, h28, X28, e28, W28, st28⟩ := putFN X26 hx hZ hown (hw _ (mW 28 rfl)) Via.refl e26 (F2.keep K10 nin0) (E1.keep K10) (Or.inr ⟨(hw _ (mW 24 rfl)), rfl, hnm⟩) (hw _ (mW 9 rfl)) (ty := .byte) (v' := (.int (1 : Int32))) (by decide) rfl rfl (g := (mkF m 48 #[rv a1, rv a2, iv (0 : Int32), iv (4 : Int32), .val .null, rv bv] [(.int (1 : Int32)), (.ref a1)])) rfl rfl (hb hby dKi4_48)
  have pre29 : Go p e below T28 (mkF m 51 #[rv a1, rv a2, iv (0 : Int32), iv (4 : Int32), .val .null, rv bv] []) s₁ EF := fun t k => pre27 t (st28 t k)
  have O30 : Old Z n0 h28 := O24.wr W28 g_a1
  have Z30 : n0 ≤ h28.size := Nat.le_trans Z24 (Keep.of_wr W28).1
  have K30 : Keep h0 h28 [a1] := K24.wr W28 (Or.inl (List.mem_of_getElem? (i := 0) rfl))
  have Fw28 := Fld.same W28 (F2.keep K10 nin0)
  have N28 := Fr.snoc X28 N26 g_a1
  have pre31 : Go p e below T28 (mkF m 54 #[rv a1, rv a2, iv (0 : Int32), iv (4 : Int32), .val .null, rv bv] [(.ref bv), (.ref a1)]) s₁ EF := fun t k => pre29 t (by
      refine XS.aloadN X28.here hx rfl (hb hby dKi4_51) rfl rfl ?_
      refine XS.aload X28.here hx rfl (hb hby dKi4_52) rfl rfl ?_
      exact k)
  obtain ⟨T32, h32, X32, e32, W32, st32⟩ := putF X28 hx hZ hown (host := "") (Or.inl (hw _ (mW 27 rfl))) Via.refl e28 (Fld.other W28 (F1.keep K10 nin0) (Or.inr (slot_ne (Or.inr (hw _ (mW 23 rfl))) (Or.inr (hw _ (mW 24 rfl))) (by decide) (t := (.array .byte)) (t' := .byte) (by decide) (by decide)))) ((E1.keep K10).wr W28) (Or.inr ⟨(hw _ (mW 23 rfl)), rfl, hnm⟩) (hw _ (mW 9 rfl)) (ty := (.array .byte)) (by decide) rfl rfl (g := (mkF m 54 #[rv a1, rv a2, iv (0 : Int32), iv (4 : Int32), .val .null, rv bv] [(.ref bv), (.ref a1)])) rfl rfl (hb hby dKi4_54)
  have pre33 : Go p e below T32 (mkF m 57 #[rv a1, rv a2, iv (0 : Int32), iv (4 : Int32), .val .null, rv bv] []) s₁ EF := fun t k => pre31 t (st32 t k)
  have O34 : Old Z n0 h32 := O30.wr W32 g_a1
  have Z34 : n0 ≤ h32.size := Nat.le_trans Z30 (Keep.of_wr W32).1
  have K34 : Keep h0 h32 [a1] := K30.wr W32 (Or.inl (List.mem_of_getElem? (i := 0) rfl))
  have Fw32 := Fld.same W32 (Fld.other W28 (F1.keep K10 nin0) (Or.inr (slot_ne (Or.inr (hw _ (mW 23 rfl))) (Or.inr (hw _ (mW 24 rfl))) (by decide) (t := (.array .byte)) (t' := .byte) (by decide) (by decide))))
  have N32 := Fr.snoc X32 N28 g_a1
  obtain ⟨fs, hr, hrun, hended, hW, hsame⟩ := X32.leave (v := none) (fun _ => rfl)
  refine ⟨_, _, hEF ▸ pre33 _ (X32.returnOut hx Bd.returns (hb hby dKi4_57) hr), hrun, hended, _, _, rfl, ?_, ⟨_, rfl⟩, hW, hsame.mono (by decide) (by decide)⟩
  show QKi4 Z a1 a2 cz fv k1 c0 c1 c2 c3 h0 n0 _ T32.heap _
  rw [e32]
  exact ⟨rfl, N32, K34, ⟨_, _, _, _, _, (((E1.keep K10).wr W28).wr W32), (Fld.other W32 Fw28 (Or.inr (slot_ne (Or.inr (hw _ (mW 24 rfl))) (Or.inr (hw _ (mW 23 rfl))) (by decide) (t := .byte) (t' := (.array .byte)) (by decide) (by decide)))), Fw32, ((VB10.other W28 (Ne.symm ne_a1_bv)).other W32 (Ne.symm ne_a1_bv)), Nat.le_of_ble_eq_true rfl, Or.inr ⟨rfl, by rfl, rfl, hrg⟩⟩⟩
abbrev rKKj4 : Room := { frames := 5, cells := 2, slots := 12, locals := 74 }
theorem dKj4_0 : decode jdk_42_method_3_code 0 = .ok (.aload_n 0, 1) := by decide +kernel
theorem dKj4_1 : decode jdk_42_method_3_code 1 = .ok (.aload_n 1, 1) := by decide +kernel
theorem dKj4_2 : decode jdk_42_method_3_code 2 = .ok (.iconst 0, 1) := by decide +kernel
theorem dKj4_3 : decode jdk_42_method_3_code 3 = .ok (.aload_n 1, 1) := by decide +kernel
theorem dKj4_4 : decode jdk_42_method_3_code 4 = .ok (.arraylength, 1) := by decide +kernel
theorem dKj4_5 : decode jdk_42_method_3_code 5 = .ok (.aconst_null, 1) := by decide +kernel
theorem dKj4_6 : decode jdk_42_method_3_code 6 = .ok (.invokespecial 27, 3) := by decide +kernel
theorem dKj4_9 : decode jdk_42_method_3_code 9 = .ok (.return_, 1) := by decide +kernel
theorem pnKj4 : plainName "java/lang/String" = true := by first | (simp [plainName, overriddenIn]; done) | decide +kernel
theorem pdKj4_0 : parseMethodDescriptor "([CIILjava/lang/Void;)V" = some ⟨[(.array .char), .int, .int, (.object "java/lang/Void")], none⟩ := by decide +kernel
theorem efKj4 (m : MethodId) (a1 : Addr) (a2 : Addr) : entryFrame m #[(.ref a1), (.ref a2)] 2 = mkF m 0 #[rv a1, rv a2] [] := by first | (simp [entryFrame, mkF, argsToLocals, Value.category]; done) | rfl
def QKj4 (Z : State) (a1 : Addr) (a2 : Addr) (cz : Int32) (fv : Value) (k1 : ClassId) (c0 : Int32) (c1 : Int32) (c2 : Int32) (c3 : Int32) (h0 : Heap) (n0 : Nat) (v : Option Value) (h : Heap) (L : List Loc) : Prop := v = none ∧ Fr n0 L ∧ Keep h0 h [a1] ∧ Str Z h a1 [c0, c1, c2, c3]
set_option maxRecDepth 65536 in
set_option maxHeartbeats 40000000 in
theorem rmKj4 (l : Launch) (Z : State) (a0 : Array Value) (hw : ∀ d ∈ tables_1, d.before a0 Z = true) (ws : List Jvm.Cond) (a1 : Addr) (a2 : Addr) (cz : Int32) (fv : Value) (k1 : ClassId) (c0 : Int32) (c1 : Int32) (c2 : Int32) (c3 : Int32) (h0 : Heap) (n0 : Nat) (Z0 : n0 ≤ h0.size) (O0 : Old Z n0 h0) (J0 : Jd Z cz fv) (E1 : Exa Z h0 a1 "java/lang/String") (g_a1 : n0 ≤ a1) (F1 : Fld Z h0 a1 "java/lang/String" "value" "[B" .null) (F2 : Fld Z h0 a1 "java/lang/String" "coder" "B" (.int (0 : Int32))) (V2 : Arv Z h0 a2 k1 .char (4 : Int32) [(.int c0), (.int c1), (.int c2), (.int c3)] (.int (0 : Int32))) (hrg : ∀ c ∈ [c0, c1, c2, c3], 0 ≤ c.toInt ∧ c.toInt < 65536) :
    MetFree l mN19 (head1 (Jvm.Cond.code mN19 jdk_42_method_3_code 2 none :: ws) rKKj4) (fun a U => a = #[(.ref a1), (.ref a2)] ∧ Z.Warmed39 U.vm ∧ U.heap = h0) (fun _ _ _ _ _ => True) (fun _ U o U' => ∃ v L, o = .returned v ∧ QKj4 Z a1 a2 cz fv k1 c0 c1 c2 c3 h0 n0 v U'.heap L ∧ FrameEnd U o U' L rKKj4.cells rKKj4.slots) := by
  refine MetFree.of_bodySF (plainFor_of_name pnKj4) hisR ?_
  intro p e s m args below meth c s₁ Bd hml0 hP hK
  obtain ⟨rfl, hZ, hh⟩ := hP
  have hx := Bd.exec
  have hby := Bd.bytes
  have hml : c.maxLocals = 2 := hml0
  have hown : s.vm.findClass "java/lang/String" = some m.cls := findClass_of_methodNamed Bd.named
  have hnm := (name_of_methodNamed Bd.named Bd.method).1
  have X0 : Stand p l e rKKj4 s m #[(.ref a1), (.ref a2)] below meth c s₁ [] 0 0 := Stand.of_body Bd
  have e0 : s₁.heap = h0 := by rw [← hh, Bd.state]; rfl
  have N0 := Fr.nil n0
  obtain ⟨EF, hEF⟩ : ∃ f, f = entryFrame m #[(.ref a1), (.ref a2)] 2 := ⟨_, rfl⟩
  have pre0 : Go p e below s₁ (mkF m 0 #[rv a1, rv a2] []) s₁ EF := fun t k => by rw [hEF]; exact castTop (efKj4 m a1 a2) k
  have pre1 : Go p e below s₁ (mkF m 4 #[rv a1, rv a2] [(.ref a2), (.int (0 : Int32)), (.ref a2), (.ref a1)]) s₁ EF := fun t k => pre0 t (by
      refine XS.aloadN X0.here hx rfl (hb hby dKj4_0) rfl rfl ?_
      refine XS.aloadN X0.here hx rfl (hb hby dKj4_1) rfl rfl ?_
      refine XS.iconst X0.here hx rfl (hb hby dKj4_2) ?_
      refine XS.aloadN X0.here hx rfl (hb hby dKj4_3) rfl rfl ?_
      exact k)
  obtain ⟨cl2, Ar2, q2, Sz2, M2, H2, G2⟩ := id V2
  have pre3 : Go p e below s₁ (mkF m 6 #[rv a1, rv a2] [.null, (.int (4 : Int32)), (.int (0 : Int32)), (.ref a2), (.ref a1)]) s₁ EF := fun t k => pre1 t (by
      refine X0.arraylength hx (by rw [e0]; exact Ar2.1) (State.isArrayOf_alike hZ.alike Ar2.2.1) (g := (mkF m 4 #[rv a1, rv a2] [(.ref a2), (.int (0 : Int32)), (.ref a2), (.ref a1)])) rfl rfl (hb hby dKj4_4) _ ?_
      rw [len_of Sz2 M2]
      refine XS.aconstNull X0.here hx rfl (hb hby dKj4_5) ?_
      exact k)
  obtain ⟨_, _, ⟨T4, L4, k4, n4⟩, -, X4, ⟨Lc4, hQ4, l4, y4, z4⟩, st4⟩ := X0.specialBack hx (y := mN18) rfl hown (mvT hZ (hw _ (mW 14 rfl))) (mvT hZ (hw _ (mW 15 rfl))) (mvT hZ (hw _ (mW 17 rfl))) (by decide) (backOf (W := 0) (rmKi4 l Z a0 hw [] a1 a2 cz fv k1 c0 c1 c2 c3 h0 n0 Z0 O0 J0 E1 g_a1 F1 F2 V2 hrg) hZ (hw _ (mW 17 rfl)) (hw _ (mW 10 rfl)) (by decide) (by decide)) (g := (mkF m 6 #[rv a1, rv a2] [.null, (.int (4 : Int32)), (.int (0 : Int32)), (.ref a2), (.ref a1)])) rfl (by rw [hml]; rfl) (Steps.refl _) (a := a1) (argsL := [(.ref a2), (.int (0 : Int32)), (.int (4 : Int32)), .null]) (rest := []) (lenOf pdKj4_0 rfl) rfl (Nat.le_of_eq rfl) (hb hby dKj4_6) (fun _ _ => ⟨rfl, e0, wl rfl, wl rfl⟩)
  dsimp only [Pt.U, Pt.locs, Pt.cells, Pt.slots] at X4 l4 y4 z4 st4 hQ4
  subst l4 y4 z4
  obtain ⟨rfl, N4q, K4, SF4⟩ := hQ4
  have N4 := Fr.app N0 N4q
  have pre5 : Go p e below T4 (mkF m 9 #[rv a1, rv a2] []) s₁ EF := fun t k => pre3 t (st4.trans k)
  have O6 : Old Z n0 T4.heap := O0.keep K4 (allS g_a1 all0)
  have Z6 : n0 ≤ T4.heap.size := Nat.le_trans Z0 K4.1
  have K6 : Keep h0 T4.heap [a1] := (Keep.refl h0 [a1]).trans K4 (allS (Or.inl (List.mem_of_getElem? (i := 0) rfl)) all0)
  obtain ⟨fs, hr, hrun, hended, hW, hsame⟩ := X4.leave (v := none) (fun _ => rfl)
  refine ⟨_, _, hEF ▸ pre5 _ (X4.returnOut hx Bd.returns (hb hby dKj4_9) hr), hrun, hended, _, _, rfl, ?_, ⟨_, rfl⟩, hW, hsame.mono (by decide) (by decide)⟩
  show QKj4 Z a1 a2 cz fv k1 c0 c1 c2 c3 h0 n0 _ T4.heap _
  exact ⟨rfl, N4, K6, SF4⟩
theorem own_safe {Z : State} {EL : List (String × Nat)} {vm : Vm} {h : Heap} {x : Addr} (hal : Z.vm.Alike vm) (E : Exa Z h x "java/lang/String") (F : Fld Z h x "java/lang/String" "value" "[B" .null) : Safe Z EL vm h x := fun B => by
  obtain ⟨p, -, u, a, -, q, -, G, rfl | rfl⟩ := B
  · obtain ⟨cell, cf, k, i, f, h1, h2, h3, h4, h5, h6, h7⟩ := F
    have e : h[Jvm.Free.SB.SQ.sa q]? = some (Jvm.Free.SB.SQ.sC q) := G.ha
    cases e.symm.trans h1
    obtain ⟨cS, ⟨⟨-, -, -, ⟨c1, k1, i1, f1, -⟩, -, -, -, v1, -⟩, -⟩, -⟩ := G
    obtain ⟨k3, e3, -⟩ := State.fieldFound?_setVm (s := Z) hal h2
    have e4 := (show (Wst Z vm h).fieldFound? "java/lang/String" "value" "[B" = _ from e3).symm.trans f1
    simp only [Option.some.injEq, Prod.mk.injEq] at e4
    rw [e4.2.2.2, v1] at h7
    cases h7
  · obtain ⟨cell, k, e1, e2, e3, -, -⟩ := E
    cases (show h[Jvm.Free.SB.SQ.sd q]? = some (Jvm.Free.SB.SQ.SA q) from G.hd).symm.trans e1
    obtain ⟨cS, -, -, f, -⟩ := G
    have f' : vm.findClass "[B" = some (Jvm.Free.SB.SQ.SA q).cls := f
    rw [hal.findClass] at f'
    obtain ⟨k1, q1, q2⟩ := Vm.findClass_spec f'
    obtain ⟨k2, q3, q4⟩ := Vm.findClass_spec e2
    cases q1.symm.trans q3
    exact absurd (q2.symm.trans q4) (by decide)
theorem own_sa : ∀ w ∈ Bundle.stringAtoms, w ∈ tables_1 := by decide +kernel
theorem own_wS {Z : State} {a0 : Array Value} (hw : ∀ d ∈ tables_1, d.before a0 Z = true) : ∀ a ∈ Bundle.stringAtoms, a.before a0 Z = true := fun a ha => hw a (own_sa a ha)
theorem own_EW {Z : State} {a0 : Array Value} (hw : ∀ d ∈ tables_1, d.before a0 Z = true) : EW Z a0 [("java/lang/String", 7)] := (EW.cons (hw _ (mW 21 rfl)) (by decide +kernel) EW.nil)
abbrev rKKi0 : Room := { frames := 1, cells := 4, slots := 8, locals := 12 }
theorem dKi0_0 : decode jdk_42_method_149_code 0 = .ok (.aload_n 0, 1) := by decide +kernel
theorem dKi0_1 : decode jdk_42_method_149_code 1 = .ok (.invokespecial 1, 3) := by decide +kernel
theorem dKi0_4 : decode jdk_42_method_149_code 4 = .ok (.iload_n 3, 1) := by decide +kernel
theorem dKi0_5 : decode jdk_42_method_149_code 5 = .ok (.ifCond .ne 22, 3) := by decide +kernel
theorem dKi0_8 : decode jdk_42_method_149_code 8 = .ok (.aload_n 0, 1) := by decide +kernel
theorem dKi0_9 : decode jdk_42_method_149_code 9 = .ok (.ldc 7, 2) := by decide +kernel
theorem dKi0_11 : decode jdk_42_method_149_code 11 = .ok (.getfield 9, 3) := by decide +kernel
theorem dKi0_14 : decode jdk_42_method_149_code 14 = .ok (.putfield 9, 3) := by decide +kernel
theorem dKi0_17 : decode jdk_42_method_149_code 17 = .ok (.aload_n 0, 1) := by decide +kernel
theorem dKi0_18 : decode jdk_42_method_149_code 18 = .ok (.ldc 7, 2) := by decide +kernel
theorem dKi0_20 : decode jdk_42_method_149_code 20 = .ok (.getfield 15, 3) := by decide +kernel
theorem dKi0_23 : decode jdk_42_method_149_code 23 = .ok (.putfield 15, 3) := by decide +kernel
theorem dKi0_26 : decode jdk_42_method_149_code 26 = .ok (.return_, 1) := by decide +kernel
theorem pnKi0 : plainName "java/lang/String" = true := by first | (simp [plainName, overriddenIn]; done) | decide +kernel
theorem efKi0 (m : MethodId) (a1 : Addr) (a2 : Addr) : entryFrame m #[(.ref a1), (.ref a2), (.int (0 : Int32)), (.int (0 : Int32)), .null] 6 = mkF m 0 #[rv a1, rv a2, iv (0 : Int32), iv (0 : Int32), .val .null, .unset] [] := by first | (simp [entryFrame, mkF, argsToLocals, Value.category]; done) | rfl
def QKi0 (Z : State) (a1 : Addr) (a2 : Addr) (cz : Int32) (fv : Value) (k1 : ClassId) (h0 : Heap) (n0 : Nat) (v : Option Value) (h : Heap) (L : List Loc) : Prop := v = none ∧ Fr n0 L ∧ Keep h0 h [a1] ∧ Str Z h a1 []
set_option maxRecDepth 65536 in
set_option maxHeartbeats 40000000 in
theorem rmKi0 (l : Launch) (Z : State) (a0 : Array Value) (hw : ∀ d ∈ tables_1, d.before a0 Z = true) (ws : List Jvm.Cond) (a1 : Addr) (a2 : Addr) (cz : Int32) (fv : Value) (k1 : ClassId) (h0 : Heap) (n0 : Nat) (Z0 : n0 ≤ h0.size) (O0 : Old Z n0 h0) (J0 : Jd Z cz fv) (E1 : Exa Z h0 a1 "java/lang/String") (g_a1 : n0 ≤ a1) (F1 : Fld Z h0 a1 "java/lang/String" "value" "[B" .null) (F2 : Fld Z h0 a1 "java/lang/String" "coder" "B" (.int (0 : Int32))) (V2 : Arv Z h0 a2 k1 .char (0 : Int32) [] (.int (0 : Int32))) :
    MetFree l mN18 (head1 (Jvm.Cond.code mN18 jdk_42_method_149_code 6 none :: ws) rKKi0) (fun a U => a = #[(.ref a1), (.ref a2), (.int (0 : Int32)), (.int (0 : Int32)), .null] ∧ Z.Warmed39 U.vm ∧ U.heap = h0 ∧ CHv Z [("java/lang/String", 7)] U.vm h0) (fun _ _ _ _ _ => True) (fun _ U o U' => ∃ v L, o = .returned v ∧ QKi0 Z a1 a2 cz fv k1 h0 n0 v U'.heap L ∧ CHr Z [("java/lang/String", 7)] U.vm U.heap U'.vm U'.heap ∧ ReturnedEndW U o U' L rKKi0.cells rKKi0.slots) := by
  refine MetFree.of_bodySF (plainFor_of_name pnKi0) hisR ?_
  intro p e s m args below meth c s₁ Bd hml0 hP hK
  obtain ⟨rfl, hZ, hh, hC⟩ := hP
  have hx := Bd.exec
  have hby := Bd.bytes
  have hml : c.maxLocals = 6 := hml0
  have hown : s.vm.findClass "java/lang/String" = some m.cls := findClass_of_methodNamed Bd.named
  have hnm := (name_of_methodNamed Bd.named Bd.method).1
  have X0 : Stand p l e rKKi0 (s.setVm s.vm) m #[(.ref a1), (.ref a2), (.int (0 : Int32)), (.int (0 : Int32)), .null] below meth c s₁ [] 0 0 := Stand.of_body Bd
  have e0 : s₁.heap = h0 := by rw [← hh, Bd.state]; rfl
  have N0 := Fr.nil n0
  obtain ⟨EF, hEF⟩ : ∃ f, f = entryFrame m #[(.ref a1), (.ref a2), (.int (0 : Int32)), (.int (0 : Int32)), .null] 6 := ⟨_, rfl⟩
  have pre0 : Go p e below s₁ (mkF m 0 #[rv a1, rv a2, iv (0 : Int32), iv (0 : Int32), .val .null, .unset] []) s₁ EF := fun t k => by rw [hEF]; exact castTop (efKi0 m a1 a2) k
  have hZ0 : Z.Warmed39 (s.setVm s.vm).vm := hZ
  have hown0 : (s.setVm s.vm).vm.findClass "java/lang/String" = some m.cls := hown
  have hS0 : s.Since s.vm s.heap.size := (State.WarmedH.refl s).since _
  have hk0 : s.heap.size ≤ h0.size := by rw [← hh]; exact Nat.le_refl _
  have sfa : Safe Z [("java/lang/String", 7)] s.vm h0 a1 := own_safe hZ0.alike E1 F1
  have pre1 : Go p e below s₁ (mkF m 1 #[rv a1, rv a2, iv (0 : Int32), iv (0 : Int32), .val .null, .unset] [(.ref a1)]) s₁ EF := fun t k => pre0 t (by
      refine XS.aloadN X0.here hx rfl (hb hby dKi0_0) rfl rfl ?_
      exact k)
  obtain ⟨T2, X2, e2, st2⟩ := initO X0 hx hZ0 hown0 (hw _ (mW 18 rfl)) (hw _ (mW 19 rfl)) (hw _ (mW 20 rfl)) e0 (g := (mkF m 1 #[rv a1, rv a2, iv (0 : Int32), iv (0 : Int32), .val .null, .unset] [(.ref a1)])) rfl (by rw [hml]; rfl) rfl (hb hby dKi0_1) (by decide) (W := 0) (Nat.le_of_eq rfl) (by decide)
  have pre3 : Go p e below T2 (mkF m 4 #[rv a1, rv a2, iv (0 : Int32), iv (0 : Int32), .val .null, .unset] []) s₁ EF := fun t k => pre1 t (st2 t k)
  have pre4 : Go p e below T2 (mkF m 5 #[rv a1, rv a2, iv (0 : Int32), iv (0 : Int32), .val .null, .unset] [(.int (0 : Int32))]) s₁ EF := fun t k => pre3 t (by
      refine XS.iloadN X2.here hx rfl (hb hby dKi0_4) rfl ?_
      exact k)
  have pre5 : Go p e below T2 (mkF m 8 #[rv a1, rv a2, iv (0 : Int32), iv (0 : Int32), .val .null, .unset] []) s₁ EF := fun t k => pre4 t (XS.ifNo X2.here hx rfl (hb hby dKi0_5) rfl ((if0 _ _).trans (teq (by decide : (0 : Int32) = (0 : Int32))).2) k)
  have pre6 : Go p e below T2 (mkF m 9 #[rv a1, rv a2, iv (0 : Int32), iv (0 : Int32), .val .null, .unset] [(.ref a1)]) s₁ EF := fun t k => pre5 t (by
      refine XS.aloadN X2.here hx rfl (hb hby dKi0_8) rfl rfl ?_
      exact k)
  have slt7_a1 := E1.lt
  obtain ⟨a7, T7, h7, k7, b7, kc7, X7, e7, Et7, hS7, hk7, hZ7, hown7, LE7, LC7, LF7, LV7, lt7, ltb7, A7, Lt7, sfe7, st7⟩ := ldcCH X2 hx hZ0 hown0 (hw _ (mW 21 rfl)) (own_wS hw) e2 hS0 hk0 (own_EW hw) (List.mem_of_getElem? (i := 0) rfl) hC (vs := []) (z := (0 : Int32)) (by decide +kernel) (by decide) (by decide) (g := (mkF m 9 #[rv a1, rv a2, iv (0 : Int32), iv (0 : Int32), .val .null, .unset] [(.ref a1)])) rfl (hb hby dKi0_9) (n := 0) (by decide) (by decide) (by decide) (by decide)
  have pre8 : Go p e below T7 (mkF m 11 #[rv a1, rv a2, iv (0 : Int32), iv (0 : Int32), .val .null, .unset] [(.ref a7), (.ref a1)]) s₁ EF := fun t k => pre6 t (st7 t k)
  have O9 : Old Z n0 h7 := O0.ext Et7
  have Z9 : n0 ≤ h7.size := Nat.le_trans Z0 Et7.1
  have K9 : Keep h0 h7 [a1] := (Keep.refl h0 [a1]).ext Et7
  have sg7_a1 := A7.safe slt7_a1 sfa
  have nx7_a1 := sfe7 a1 sg7_a1
  have R7 := (CHr.refl hC).trans A7
  obtain ⟨T10, X10, e10, st10⟩ := getF X7 hx hZ7 hown7 (host := "") (Or.inl (hw _ (mW 27 rfl))) Via.refl e7 LF7 (g := (mkF m 11 #[rv a1, rv a2, iv (0 : Int32), iv (0 : Int32), .val .null, .unset] [(.ref a7), (.ref a1)])) rfl rfl (hb hby dKi0_11)
  have pre11 : Go p e below T10 (mkF m 14 #[rv a1, rv a2, iv (0 : Int32), iv (0 : Int32), .val .null, .unset] [(.ref b7), (.ref a1)]) s₁ EF := fun t k => pre8 t (st10 t k)
  obtain ⟨T12, h12, X12, e12, W12, st12⟩ := putF X10 hx hZ7 hown7 (host := "") (Or.inl (hw _ (mW 27 rfl))) Via.refl e10 (F1.ext Et7) (E1.ext Et7) (Or.inr ⟨(hw _ (mW 23 rfl)), rfl, hnm⟩) (hw _ (mW 9 rfl)) (ty := (.array .byte)) (by decide) rfl rfl (g := (mkF m 14 #[rv a1, rv a2, iv (0 : Int32), iv (0 : Int32), .val .null, .unset] [(.ref b7), (.ref a1)])) rfl rfl (hb hby dKi0_14)
  have pre13 : Go p e below T12 (mkF m 17 #[rv a1, rv a2, iv (0 : Int32), iv (0 : Int32), .val .null, .unset] []) s₁ EF := fun t k => pre11 t (st12 t k)
  have O14 : Old Z n0 h12 := O9.wr W12 g_a1
  have Z14 : n0 ≤ h12.size := Nat.le_trans Z9 (Keep.of_wr W12).1
  have hk14 := Nat.le_trans hk7 (Keep.of_wr W12).1
  have C14 := CHv.wr W12 sg7_a1 A7.1
  have R14 := R7.trans (CHr.wr W12 sg7_a1 A7.1)
  have sf14_a1 := Safe.wr W12 sg7_a1 A7.1 sg7_a1
  have K14 : Keep h0 h12 [a1] := K9.wr W12 (Or.inl (List.mem_of_getElem? (i := 0) rfl))
  have Fw12 := Fld.same W12 (F1.ext Et7)
  have N12 := Fr.snoc X12 N0 g_a1
  have pre15 : Go p e below T12 (mkF m 18 #[rv a1, rv a2, iv (0 : Int32), iv (0 : Int32), .val .null, .unset] [(.ref a1)]) s₁ EF := fun t k => pre13 t (by
      refine XS.aloadN X12.here hx rfl (hb hby dKi0_17) rfl rfl ?_
      exact k)
  have slt16_a1 := ((E1.ext Et7).wr W12).lt
  obtain ⟨a16, T16, h16, k16, b16, kc16, X16, e16, Et16, hS16, hk16, hZ16, hown16, LE16, LC16, LF16, LV16, lt16, ltb16, A16, Lt16, sfe16, st16⟩ := ldcCH X12 hx hZ7 hown7 (hw _ (mW 21 rfl)) (own_wS hw) e12 hS7 hk14 (own_EW hw) (List.mem_of_getElem? (i := 0) rfl) C14 (vs := []) (z := (0 : Int32)) (by decide +kernel) (by decide) (by decide) (g := (mkF m 18 #[rv a1, rv a2, iv (0 : Int32), iv (0 : Int32), .val .null, .unset] [(.ref a1)])) rfl (hb hby dKi0_18) (n := 0) (by decide) (by decide) (by decide) (by decide)
  have pre17 : Go p e below T16 (mkF m 20 #[rv a1, rv a2, iv (0 : Int32), iv (0 : Int32), .val .null, .unset] [(.ref a16), (.ref a1)]) s₁ EF := fun t k => pre15 t (st16 t k)
  have O18 : Old Z n0 h16 := O14.ext Et16
  have Z18 : n0 ≤ h16.size := Nat.le_trans Z14 Et16.1
  have K18 : Keep h0 h16 [a1] := K14.ext Et16
  have sg16_a1 := A16.safe slt16_a1 sf14_a1
  have nx16_a1 := sfe16 a1 sg16_a1
  have R16 := R14.trans A16
  obtain ⟨T19, X19, e19, st19⟩ := getF X16 hx hZ16 hown16 (host := "") (Or.inl (hw _ (mW 28 rfl))) Via.refl e16 LC16 (g := (mkF m 20 #[rv a1, rv a2, iv (0 : Int32), iv (0 : Int32), .val .null, .unset] [(.ref a16), (.ref a1)])) rfl rfl (hb hby dKi0_20)
  have pre20 : Go p e below T19 (mkF m 23 #[rv a1, rv a2, iv (0 : Int32), iv (0 : Int32), .val .null, .unset] [(.int (0 : Int32)), (.ref a1)]) s₁ EF := fun t k => pre17 t (st19 t k)
  obtain ⟨T21, h21, X21, e21, W21, st21⟩ := putFN X19 hx hZ16 hown16 (hw _ (mW 28 rfl)) Via.refl e19 ((Fld.other W12 (F2.ext Et7) (Or.inr (slot_ne (Or.inr (hw _ (mW 24 rfl))) (Or.inr (hw _ (mW 23 rfl))) (by decide) (t := .byte) (t' := (.array .byte)) (by decide) (by decide)))).ext Et16) (((E1.ext Et7).wr W12).ext Et16) (Or.inr ⟨(hw _ (mW 24 rfl)), rfl, hnm⟩) (hw _ (mW 9 rfl)) (ty := .byte) (v' := (.int (0 : Int32))) (by decide) rfl rfl (g := (mkF m 23 #[rv a1, rv a2, iv (0 : Int32), iv (0 : Int32), .val .null, .unset] [(.int (0 : Int32)), (.ref a1)])) rfl rfl (hb hby dKi0_23)
  have pre22 : Go p e below T21 (mkF m 26 #[rv a1, rv a2, iv (0 : Int32), iv (0 : Int32), .val .null, .unset] []) s₁ EF := fun t k => pre20 t (st21 t k)
  have O23 : Old Z n0 h21 := O18.wr W21 g_a1
  have Z23 : n0 ≤ h21.size := Nat.le_trans Z18 (Keep.of_wr W21).1
  have hk23 := Nat.le_trans hk16 (Keep.of_wr W21).1
  have C23 := CHv.wr W21 sg16_a1 A16.1
  have R23 := R16.trans (CHr.wr W21 sg16_a1 A16.1)
  have sf23_a1 := Safe.wr W21 sg16_a1 A16.1 sg16_a1
  have K23 : Keep h0 h21 [a1] := K18.wr W21 (Or.inl (List.mem_of_getElem? (i := 0) rfl))
  have Fw21 := Fld.same W21 ((Fld.other W12 (F2.ext Et7) (Or.inr (slot_ne (Or.inr (hw _ (mW 24 rfl))) (Or.inr (hw _ (mW 23 rfl))) (by decide) (t := .byte) (t' := (.array .byte)) (by decide) (by decide)))).ext Et16)
  have N21 := Fr.snoc X21 N12 g_a1
  obtain ⟨fs, hr, hrun, hended, hend1, hend2, hend3, hsame⟩ := X21.leaveW hS16 (by rw [e21]; exact hk23) (v := none) (fun _ => rfl)
  have hCH : CHr Z [("java/lang/String", 7)] s.vm s.heap T21.vm T21.heap := by rw [hh, e21]; exact R23.trans (CHv.at X21 hZ16 (own_EW hw) C23)
  refine ⟨_, _, hEF ▸ pre22 _ (X21.returnOut hx Bd.returns (hb hby dKi0_26) hr), hrun, hended, _, _, rfl, ?_, hCH, hend1, hend2, hend3, hsame.mono (by decide) (by decide)⟩
  show QKi0 Z a1 a2 cz fv k1 h0 n0 _ T21.heap _
  rw [e21]
  exact ⟨rfl, N21, K23, ⟨_, _, _, _, _, ((((E1.ext Et7).wr W12).ext Et16).wr W21), Fw21, (Fld.other W21 (Fw12.ext Et16) (Or.inr (slot_ne (Or.inr (hw _ (mW 23 rfl))) (Or.inr (hw _ (mW 24 rfl))) (by decide) (t := (.array .byte)) (t' := .byte) (by decide) (by decide)))), (((LV7.other W12 (Ne.symm nx7_a1.2)).ext Et16).other W21 (Ne.symm nx7_a1.2)), Nat.le_of_ble_eq_true rfl, Or.inl ⟨rfl, by rfl, rfl, fun _ q => nomatch q⟩⟩⟩
abbrev rKKj0 : Room := { frames := 2, cells := 4, slots := 8, locals := 29 }
theorem dKj0_0 : decode jdk_42_method_3_code 0 = .ok (.aload_n 0, 1) := by decide +kernel
theorem dKj0_1 : decode jdk_42_method_3_code 1 = .ok (.aload_n 1, 1) := by decide +kernel
theorem dKj0_2 : decode jdk_42_method_3_code 2 = .ok (.iconst 0, 1) := by decide +kernel
theorem dKj0_3 : decode jdk_42_method_3_code 3 = .ok (.aload_n 1, 1) := by decide +kernel
theorem dKj0_4 : decode jdk_42_method_3_code 4 = .ok (.arraylength, 1) := by decide +kernel
theorem dKj0_5 : decode jdk_42_method_3_code 5 = .ok (.aconst_null, 1) := by decide +kernel
theorem dKj0_6 : decode jdk_42_method_3_code 6 = .ok (.invokespecial 27, 3) := by decide +kernel
theorem dKj0_9 : decode jdk_42_method_3_code 9 = .ok (.return_, 1) := by decide +kernel
theorem pnKj0 : plainName "java/lang/String" = true := by first | (simp [plainName, overriddenIn]; done) | decide +kernel
theorem pdKj0_0 : parseMethodDescriptor "([CIILjava/lang/Void;)V" = some ⟨[(.array .char), .int, .int, (.object "java/lang/Void")], none⟩ := by decide +kernel
theorem efKj0 (m : MethodId) (a1 : Addr) (a2 : Addr) : entryFrame m #[(.ref a1), (.ref a2)] 2 = mkF m 0 #[rv a1, rv a2] [] := by first | (simp [entryFrame, mkF, argsToLocals, Value.category]; done) | rfl
def QKj0 (Z : State) (a1 : Addr) (a2 : Addr) (cz : Int32) (fv : Value) (k1 : ClassId) (h0 : Heap) (n0 : Nat) (v : Option Value) (h : Heap) (L : List Loc) : Prop := v = none ∧ Fr n0 L ∧ Keep h0 h [a1] ∧ Str Z h a1 []
set_option maxRecDepth 65536 in
set_option maxHeartbeats 40000000 in
theorem rmKj0 (l : Launch) (Z : State) (a0 : Array Value) (hw : ∀ d ∈ tables_1, d.before a0 Z = true) (ws : List Jvm.Cond) (a1 : Addr) (a2 : Addr) (cz : Int32) (fv : Value) (k1 : ClassId) (h0 : Heap) (n0 : Nat) (Z0 : n0 ≤ h0.size) (O0 : Old Z n0 h0) (J0 : Jd Z cz fv) (E1 : Exa Z h0 a1 "java/lang/String") (g_a1 : n0 ≤ a1) (F1 : Fld Z h0 a1 "java/lang/String" "value" "[B" .null) (F2 : Fld Z h0 a1 "java/lang/String" "coder" "B" (.int (0 : Int32))) (V2 : Arv Z h0 a2 k1 .char (0 : Int32) [] (.int (0 : Int32))) :
    MetFree l mN19 (head1 (Jvm.Cond.code mN19 jdk_42_method_3_code 2 none :: ws) rKKj0) (fun a U => a = #[(.ref a1), (.ref a2)] ∧ Z.Warmed39 U.vm ∧ U.heap = h0 ∧ CHv Z [("java/lang/String", 7)] U.vm h0) (fun _ _ _ _ _ => True) (fun _ U o U' => ∃ v L, o = .returned v ∧ QKj0 Z a1 a2 cz fv k1 h0 n0 v U'.heap L ∧ CHr Z [("java/lang/String", 7)] U.vm U.heap U'.vm U'.heap ∧ ReturnedEndW U o U' L rKKj0.cells rKKj0.slots) := by
  refine MetFree.of_bodySF (plainFor_of_name pnKj0) hisR ?_
  intro p e s m args below meth c s₁ Bd hml0 hP hK
  obtain ⟨rfl, hZ, hh, hC⟩ := hP
  have hx := Bd.exec
  have hby := Bd.bytes
  have hml : c.maxLocals = 2 := hml0
  have hown : s.vm.findClass "java/lang/String" = some m.cls := findClass_of_methodNamed Bd.named
  have hnm := (name_of_methodNamed Bd.named Bd.method).1
  have X0 : Stand p l e rKKj0 (s.setVm s.vm) m #[(.ref a1), (.ref a2)] below meth c s₁ [] 0 0 := Stand.of_body Bd
  have e0 : s₁.heap = h0 := by rw [← hh, Bd.state]; rfl
  have N0 := Fr.nil n0
  obtain ⟨EF, hEF⟩ : ∃ f, f = entryFrame m #[(.ref a1), (.ref a2)] 2 := ⟨_, rfl⟩
  have pre0 : Go p e below s₁ (mkF m 0 #[rv a1, rv a2] []) s₁ EF := fun t k => by rw [hEF]; exact castTop (efKj0 m a1 a2) k
  have hZ0 : Z.Warmed39 (s.setVm s.vm).vm := hZ
  have hown0 : (s.setVm s.vm).vm.findClass "java/lang/String" = some m.cls := hown
  have hS0 : s.Since s.vm s.heap.size := (State.WarmedH.refl s).since _
  have hk0 : s.heap.size ≤ h0.size := by rw [← hh]; exact Nat.le_refl _
  have sfa : Safe Z [("java/lang/String", 7)] s.vm h0 a1 := own_safe hZ0.alike E1 F1
  have pre1 : Go p e below s₁ (mkF m 4 #[rv a1, rv a2] [(.ref a2), (.int (0 : Int32)), (.ref a2), (.ref a1)]) s₁ EF := fun t k => pre0 t (by
      refine XS.aloadN X0.here hx rfl (hb hby dKj0_0) rfl rfl ?_
      refine XS.aloadN X0.here hx rfl (hb hby dKj0_1) rfl rfl ?_
      refine XS.iconst X0.here hx rfl (hb hby dKj0_2) ?_
      refine XS.aloadN X0.here hx rfl (hb hby dKj0_3) rfl rfl ?_
      exact k)
  obtain ⟨cl2, Ar2, q2, Sz2, M2, H2, G2⟩ := id V2
  have pre3 : Go p e below s₁ (mkF m 6 #[rv a1, rv a2] [.null, (.int (0 : Int32)), (.int (0 : Int32)), (.ref a2), (.ref a1)]) s₁ EF := fun t k => pre1 t (by
      refine X0.arraylength hx (by rw [e0]; exact Ar2.1) (State.isArrayOf_alike hZ0.alike Ar2.2.1) (g := (mkF m 4 #[rv a1, rv a2] [(.ref a2), (.int (0 : Int32)), (.ref a2), (.ref a1)])) rfl rfl (hb hby dKj0_4) _ ?_
      rw [len_of Sz2 M2]
      refine XS.aconstNull X0.here hx rfl (hb hby dKj0_5) ?_
      exact k)
  obtain ⟨_, _, ⟨T4, L4, k4, n4⟩, -, XQ4, hSQ4, hgQ4, ⟨Lc4, hQ4, l4, y4, z4, hCH4⟩, st4⟩ := X0.specialBackS hx (y := mN18) rfl hown0 (mvT hZ0 (hw _ (mW 14 rfl))) (mvT hZ0 (hw _ (mW 15 rfl))) (mvT hZ0 (hw _ (mW 17 rfl))) (by decide) (backOfSH (W := 0) (rmKi0 l Z a0 hw [] a1 a2 cz fv k1 h0 n0 Z0 O0 J0 E1 g_a1 F1 F2 V2) hZ0 (hw _ (mW 17 rfl)) (hw _ (mW 10 rfl)) (by decide) (by decide) (own_EW hw) hC) (g := (mkF m 6 #[rv a1, rv a2] [.null, (.int (0 : Int32)), (.int (0 : Int32)), (.ref a2), (.ref a1)])) rfl (by rw [hml]; rfl) (Steps.refl _) (a := a1) (argsL := [(.ref a2), (.int (0 : Int32)), (.int (0 : Int32)), .null]) (rest := []) (lenOf pdKj0_0 rfl) rfl (Nat.le_of_eq rfl) (hb hby dKj0_6) (fun _ _ => ⟨rfl, e0, wl rfl, wl rfl⟩)
  dsimp only [Pt.U, Pt.locs, Pt.cells, Pt.slots] at XQ4 hSQ4 hgQ4 hCH4 l4 y4 z4 st4 hQ4
  subst l4 y4 z4
  obtain ⟨X4, hS4, hZ4, hown4⟩ := rebS hS0 (by rw [e0]; exact hk0) XQ4 hSQ4 hgQ4 hZ0 hown0
  obtain ⟨rfl, N4q, K4, SF4⟩ := hQ4
  have N4 := Fr.app N0 N4q
  have pre5 : Go p e below T4 (mkF m 9 #[rv a1, rv a2] []) s₁ EF := fun t k => pre3 t (st4.trans k)
  have hk4 := Nat.le_refl T4.heap.size
  have R4 := (CHr.refl hC).trans hCH4
  have O6 : Old Z n0 T4.heap := O0.keep K4 (allS g_a1 all0)
  have Z6 : n0 ≤ T4.heap.size := Nat.le_trans Z0 K4.1
  have K6 : Keep h0 T4.heap [a1] := (Keep.refl h0 [a1]).trans K4 (allS (Or.inl (List.mem_of_getElem? (i := 0) rfl)) all0)
  obtain ⟨fs, hr, hrun, hended, hend1, hend2, hend3, hsame⟩ := X4.leaveW hS4 hk4 (v := none) (fun _ => rfl)
  have hCH : CHr Z [("java/lang/String", 7)] s.vm s.heap T4.vm T4.heap := by rw [hh]; exact R4.trans (CHv.at X4 hZ4 (own_EW hw) hCH4.1)
  refine ⟨_, _, hEF ▸ pre5 _ (X4.returnOut hx Bd.returns (hb hby dKj0_9) hr), hrun, hended, _, _, rfl, ?_, hCH, hend1, hend2, hend3, hsame.mono (by decide) (by decide)⟩
  show QKj0 Z a1 a2 cz fv k1 h0 n0 _ T4.heap _
  exact ⟨rfl, N4, K6, SF4⟩
theorem own_i2c2 (x : Int32) : nar .char x.toUInt32.toUInt16.toUInt32.toInt32 = x.toUInt32.toUInt16.toUInt32.toInt32 := by
  have q := c_i2c x
  exact own_nc q.2.1 q.2.2
def drawF (p : Int32) : Int32 := if (p &&& 65536) = 0 then (p &&& 65535).toUInt32.toUInt16.toUInt32.toInt32 else (47 + (p &&& 65535) % 12).toUInt32.toUInt16.toUInt32.toInt32
theorem own_draw (p : Int32) : 0 ≤ (drawF p).toInt ∧ (drawF p).toInt < 65536 := by
  unfold drawF; split
  · exact (c_i2c _).2
  · exact (c_i2c _).2
def digF (c : Int32) : Int32 := if c < 48 then 0 else if 57 < c then 0 else 1
def allD : List Int32 → Int32
  | [] => 1
  | c :: cs => if digF c = 0 then 0 else allD cs
abbrev rKD : Room := { frames := 0, cells := 0, slots := 0, locals := 0 }
theorem dD_0 : decode method_2_code 0 = .ok (.iload_n 0, 1) := by decide +kernel
theorem dD_1 : decode method_2_code 1 = .ok (.ldc 7, 2) := by decide +kernel
theorem dD_3 : decode method_2_code 3 = .ok (.iand, 1) := by decide +kernel
theorem dD_4 : decode method_2_code 4 = .ok (.istore_n 1, 1) := by decide +kernel
theorem dD_5 : decode method_2_code 5 = .ok (.iload_n 0, 1) := by decide +kernel
theorem dD_6 : decode method_2_code 6 = .ok (.ldc 8, 2) := by decide +kernel
theorem dD_8 : decode method_2_code 8 = .ok (.iand, 1) := by decide +kernel
theorem dD_9 : decode method_2_code 9 = .ok (.ifCond .eq 12, 3) := by decide +kernel
theorem dD_12 : decode method_2_code 12 = .ok (.bipush 47, 2) := by decide +kernel
theorem dD_14 : decode method_2_code 14 = .ok (.iload_n 1, 1) := by decide +kernel
theorem dD_15 : decode method_2_code 15 = .ok (.bipush 12, 2) := by decide +kernel
theorem dD_17 : decode method_2_code 17 = .ok (.irem, 1) := by decide +kernel
theorem dD_18 : decode method_2_code 18 = .ok (.iadd, 1) := by decide +kernel
theorem dD_19 : decode method_2_code 19 = .ok (.i2c, 1) := by decide +kernel
theorem dD_20 : decode method_2_code 20 = .ok (.ireturn, 1) := by decide +kernel
theorem dD_21 : decode method_2_code 21 = .ok (.iload_n 1, 1) := by decide +kernel
theorem dD_22 : decode method_2_code 22 = .ok (.i2c, 1) := by decide +kernel
theorem dD_23 : decode method_2_code 23 = .ok (.ireturn, 1) := by decide +kernel
theorem pnD : plainName "com/example/oxpecker/oxpecker/http/UriCharactersIsDigitsPinLaw" = true := by first | (simp [plainName, overriddenIn]; done) | decide +kernel
theorem efD (m : MethodId) (p1 : Int32) : entryFrame m #[(.int p1)] 2 = mkF m 0 #[iv p1, .unset] [] := by first | (simp [entryFrame, mkF, argsToLocals, Value.category]; done) | rfl
def QD (Z : State) (p1 : Int32) (r : Int32) (h0 : Heap) (n0 : Nat) (v : Option Value) (h : Heap) (L : List Loc) : Prop := v = some (.int r) ∧ Fr n0 L ∧ h = h0
set_option maxRecDepth 65536 in
set_option maxHeartbeats 40000000 in
theorem rmD (l : Launch) (Z : State) (a0 : Array Value) (hw : ∀ d ∈ tables_1, d.before a0 Z = true) (ws : List Jvm.Cond) (p1 : Int32) (r : Int32) (h0 : Heap) (n0 : Nat) (Z0 : n0 ≤ h0.size) (hR : drawF p1 = r) :
    MetFree l mN20 (head1 (Jvm.Cond.code mN20 method_2_code 2 (some .char) :: ws) rKD) (fun a U => a = #[(.int p1)] ∧ Z.Warmed39 U.vm ∧ U.heap = h0) (fun _ _ _ _ _ => True) (fun _ U o U' => ∃ v L, o = .returned v ∧ QD Z p1 r h0 n0 v U'.heap L ∧ FrameEnd U o U' L rKD.cells rKD.slots) := by
  refine MetFree.of_bodySF (plainFor_of_name pnD) hisR ?_
  intro p e s m args below meth c s₁ Bd hml0 hP hK
  obtain ⟨rfl, hZ, hh⟩ := hP
  have hx := Bd.exec
  have hby := Bd.bytes
  have hml : c.maxLocals = 2 := hml0
  have hown : s.vm.findClass "com/example/oxpecker/oxpecker/http/UriCharactersIsDigitsPinLaw" = some m.cls := findClass_of_methodNamed Bd.named
  have hnm := (name_of_methodNamed Bd.named Bd.method).1
  have X0 : Stand p l e rKD s m #[(.int p1)] below meth c s₁ [] 0 0 := Stand.of_body Bd
  have e0 : s₁.heap = h0 := by rw [← hh, Bd.state]; rfl
  have N0 := Fr.nil n0
  obtain ⟨EF, hEF⟩ : ∃ f, f = entryFrame m #[(.int p1)] 2 := ⟨_, rfl⟩
  have pre0 : Go p e below s₁ (mkF m 0 #[iv p1, .unset] []) s₁ EF := fun t k => by rw [hEF]; exact castTop (efD m p1) k
  have pre1 : Go p e below s₁ (mkF m 9 #[iv p1, iv (p1 &&& (65535 : Int32))] [(.int (p1 &&& (65536 : Int32)))]) s₁ EF := fun t k => pre0 t (by
      refine XS.iloadN X0.here hx rfl (hb hby dD_0) rfl ?_
      refine X0.ldcInt hx hown (mvT hZ (hw _ (mW 5 rfl))) (g := (mkF m 1 #[iv p1, .unset] [(.int p1)])) rfl (hb hby dD_1) _ ?_
      refine XS.iand X0.here hx rfl (hb hby dD_3) rfl ?_
      refine XS.istoreN X0.here hx rfl (hb hby dD_4) rfl (l' := #[iv p1, iv (p1 &&& (65535 : Int32))]) rfl ?_
      refine XS.iloadN X0.here hx rfl (hb hby dD_5) rfl ?_
      refine X0.ldcInt hx hown (mvT hZ (hw _ (mW 6 rfl))) (g := (mkF m 6 #[iv p1, iv (p1 &&& (65535 : Int32))] [(.int p1)])) rfl (hb hby dD_6) _ ?_
      refine XS.iand X0.here hx rfl (hb hby dD_8) rfl ?_
      exact k)
  by_cases hc9 : (p1 &&& (65536 : Int32)) = (0 : Int32)
  · have pre2 : Go p e below s₁ (mkF m 21 #[iv p1, iv (p1 &&& (65535 : Int32))] []) s₁ EF := fun t k => pre1 t (XS.ifYes X0.here hx rfl (pc0 := 9) (pc' := 21) rfl (hb hby dD_9) rfl ((if0 _ _).trans (teq hc9).1) (by decide) (by decide) k)
    have pre3 : Go p e below s₁ (mkF m 23 #[iv p1, iv (p1 &&& (65535 : Int32))] [(.int ((p1 &&& (65535 : Int32)).toUInt32.toUInt16.toUInt32.toInt32))]) s₁ EF := fun t k => pre2 t (by
        refine XS.iloadN X0.here hx rfl (hb hby dD_21) rfl ?_
        refine XS.i2c X0.here hx rfl (hb hby dD_22) rfl ?_
        exact k)
    have hnr : Value.int (nar .char ((p1 &&& (65535 : Int32)).toUInt32.toUInt16.toUInt32.toInt32)) = (.int ((p1 &&& (65535 : Int32)).toUInt32.toUInt16.toUInt32.toInt32)) := by rw [own_i2c2]
    obtain ⟨fs, hr, hrun, hended, hW, hsame⟩ := X0.leave (v := some (.int ((p1 &&& (65535 : Int32)).toUInt32.toUInt16.toUInt32.toInt32))) (fun h => by rw [Bd.returns] at h; cases h)
    refine ⟨_, _, hEF ▸ pre3 _ (retN X0 hx (t := .char) Bd.returns (by simp) (hb hby dD_23) (hnr ▸ hr)), hrun, hended, _, _, rfl, ?_, ⟨_, rfl⟩, hW, hsame.mono (by decide) (by decide)⟩
    show QD Z p1 r h0 n0 _ s₁.heap _
    rw [e0]
    exact ⟨by rw [← hR]; simp [drawF, hc9], N0, rfl⟩
  have pre4 : Go p e below s₁ (mkF m 12 #[iv p1, iv (p1 &&& (65535 : Int32))] []) s₁ EF := fun t k => pre1 t (XS.ifNo X0.here hx rfl (hb hby dD_9) rfl ((if0 _ _).trans (feq hc9).1) k)
  have pre5 : Go p e below s₁ (mkF m 20 #[iv p1, iv (p1 &&& (65535 : Int32))] [(.int (((47 : Int32) + ((p1 &&& (65535 : Int32)) % (12 : Int32))).toUInt32.toUInt16.toUInt32.toInt32))]) s₁ EF := fun t k => pre4 t (by
      refine XS.bipush X0.here hx rfl (hb hby dD_12) ?_
      refine XS.iloadN X0.here hx rfl (hb hby dD_14) rfl ?_
      refine XS.bipush X0.here hx rfl (hb hby dD_15) ?_
      refine iremM X0 hx rfl (hb hby dD_17) rfl (by decide) ?_
      refine XS.iadd X0.here hx rfl (hb hby dD_18) rfl ?_
      refine XS.i2c X0.here hx rfl (hb hby dD_19) rfl ?_
      exact k)
  have hnr : Value.int (nar .char (((47 : Int32) + ((p1 &&& (65535 : Int32)) % (12 : Int32))).toUInt32.toUInt16.toUInt32.toInt32)) = (.int (((47 : Int32) + ((p1 &&& (65535 : Int32)) % (12 : Int32))).toUInt32.toUInt16.toUInt32.toInt32)) := by rw [own_i2c2]
  obtain ⟨fs, hr, hrun, hended, hW, hsame⟩ := X0.leave (v := some (.int (((47 : Int32) + ((p1 &&& (65535 : Int32)) % (12 : Int32))).toUInt32.toUInt16.toUInt32.toInt32))) (fun h => by rw [Bd.returns] at h; cases h)
  refine ⟨_, _, hEF ▸ pre5 _ (retN X0 hx (t := .char) Bd.returns (by simp) (hb hby dD_20) (hnr ▸ hr)), hrun, hended, _, _, rfl, ?_, ⟨_, rfl⟩, hW, hsame.mono (by decide) (by decide)⟩
  show QD Z p1 r h0 n0 _ s₁.heap _
  rw [e0]
  exact ⟨by rw [← hR]; simp [drawF, hc9], N0, rfl⟩
abbrev rKG : Room := { frames := 0, cells := 0, slots := 0, locals := 0 }
theorem dG_0 : decode method_3_code 0 = .ok (.iload_n 0, 1) := by decide +kernel
theorem dG_1 : decode method_3_code 1 = .ok (.bipush 48, 2) := by decide +kernel
theorem dG_3 : decode method_3_code 3 = .ok (.if_icmp .lt 13, 3) := by decide +kernel
theorem dG_6 : decode method_3_code 6 = .ok (.iload_n 0, 1) := by decide +kernel
theorem dG_7 : decode method_3_code 7 = .ok (.bipush 57, 2) := by decide +kernel
theorem dG_9 : decode method_3_code 9 = .ok (.if_icmp .gt 7, 3) := by decide +kernel
theorem dG_12 : decode method_3_code 12 = .ok (.iconst 1, 1) := by decide +kernel
theorem dG_13 : decode method_3_code 13 = .ok (.goto 4, 3) := by decide +kernel
theorem dG_16 : decode method_3_code 16 = .ok (.iconst 0, 1) := by decide +kernel
theorem dG_17 : decode method_3_code 17 = .ok (.ireturn, 1) := by decide +kernel
theorem pnG : plainName "com/example/oxpecker/oxpecker/http/UriCharactersIsDigitsPinLaw" = true := by first | (simp [plainName, overriddenIn]; done) | decide +kernel
theorem efG (m : MethodId) (p1 : Int32) : entryFrame m #[(.int p1)] 1 = mkF m 0 #[iv p1] [] := by first | (simp [entryFrame, mkF, argsToLocals, Value.category]; done) | rfl
def QG (Z : State) (p1 : Int32) (r : Int32) (h0 : Heap) (n0 : Nat) (v : Option Value) (h : Heap) (L : List Loc) : Prop := v = some (.int r) ∧ Fr n0 L ∧ h = h0
set_option maxRecDepth 65536 in
set_option maxHeartbeats 40000000 in
theorem rmG (l : Launch) (Z : State) (a0 : Array Value) (hw : ∀ d ∈ tables_1, d.before a0 Z = true) (ws : List Jvm.Cond) (p1 : Int32) (r : Int32) (h0 : Heap) (n0 : Nat) (Z0 : n0 ≤ h0.size) (hR : digF p1 = r) :
    MetFree l mN21 (head1 (Jvm.Cond.code mN21 method_3_code 1 (some .boolean) :: ws) rKG) (fun a U => a = #[(.int p1)] ∧ Z.Warmed39 U.vm ∧ U.heap = h0) (fun _ _ _ _ _ => True) (fun _ U o U' => ∃ v L, o = .returned v ∧ QG Z p1 r h0 n0 v U'.heap L ∧ FrameEnd U o U' L rKG.cells rKG.slots) := by
  refine MetFree.of_bodySF (plainFor_of_name pnG) hisR ?_
  intro p e s m args below meth c s₁ Bd hml0 hP hK
  obtain ⟨rfl, hZ, hh⟩ := hP
  have hx := Bd.exec
  have hby := Bd.bytes
  have hml : c.maxLocals = 1 := hml0
  have hown : s.vm.findClass "com/example/oxpecker/oxpecker/http/UriCharactersIsDigitsPinLaw" = some m.cls := findClass_of_methodNamed Bd.named
  have hnm := (name_of_methodNamed Bd.named Bd.method).1
  have X0 : Stand p l e rKG s m #[(.int p1)] below meth c s₁ [] 0 0 := Stand.of_body Bd
  have e0 : s₁.heap = h0 := by rw [← hh, Bd.state]; rfl
  have N0 := Fr.nil n0
  obtain ⟨EF, hEF⟩ : ∃ f, f = entryFrame m #[(.int p1)] 1 := ⟨_, rfl⟩
  have pre0 : Go p e below s₁ (mkF m 0 #[iv p1] []) s₁ EF := fun t k => by rw [hEF]; exact castTop (efG m p1) k
  have pre1 : Go p e below s₁ (mkF m 3 #[iv p1] [(.int (48 : Int32)), (.int p1)]) s₁ EF := fun t k => pre0 t (by
      refine XS.iloadN X0.here hx rfl (hb hby dG_0) rfl ?_
      refine XS.bipush X0.here hx rfl (hb hby dG_1) ?_
      exact k)
  by_cases hc3 : p1 < (48 : Int32)
  · have pre2 : Go p e below s₁ (mkF m 16 #[iv p1] []) s₁ EF := fun t k => pre1 t (XS.icmpYes X0.here hx rfl (pc0 := 3) (pc' := 16) rfl (hb hby dG_3) rfl (tlt hc3).1 (by decide) (by decide) k)
    have pre3 : Go p e below s₁ (mkF m 17 #[iv p1] [(.int (0 : Int32))]) s₁ EF := fun t k => pre2 t (by
        refine XS.iconst X0.here hx rfl (hb hby dG_16) ?_
        exact k)
    have hnr : Value.int (nar .boolean (0 : Int32)) = (.int (0 : Int32)) := by rfl
    obtain ⟨fs, hr, hrun, hended, hW, hsame⟩ := X0.leave (v := some (.int (0 : Int32))) (fun h => by rw [Bd.returns] at h; cases h)
    refine ⟨_, _, hEF ▸ pre3 _ (retN X0 hx (t := .boolean) Bd.returns (by simp) (hb hby dG_17) (hnr ▸ hr)), hrun, hended, _, _, rfl, ?_, ⟨_, rfl⟩, hW, hsame.mono (by decide) (by decide)⟩
    show QG Z p1 r h0 n0 _ s₁.heap _
    rw [e0]
    exact ⟨by rw [← hR]; simp [digF, hc3], N0, rfl⟩
  have pre4 : Go p e below s₁ (mkF m 6 #[iv p1] []) s₁ EF := fun t k => pre1 t (XS.icmpNo X0.here hx rfl (hb hby dG_3) rfl (flt hc3).1 k)
  have pre5 : Go p e below s₁ (mkF m 9 #[iv p1] [(.int (57 : Int32)), (.int p1)]) s₁ EF := fun t k => pre4 t (by
      refine XS.iloadN X0.here hx rfl (hb hby dG_6) rfl ?_
      refine XS.bipush X0.here hx rfl (hb hby dG_7) ?_
      exact k)
  by_cases hc9 : (57 : Int32) < p1
  · have pre6 : Go p e below s₁ (mkF m 16 #[iv p1] []) s₁ EF := fun t k => pre5 t (XS.icmpYes X0.here hx rfl (pc0 := 9) (pc' := 16) rfl (hb hby dG_9) rfl (tlt hc9).2.2.1 (by decide) (by decide) k)
    have pre7 : Go p e below s₁ (mkF m 17 #[iv p1] [(.int (0 : Int32))]) s₁ EF := fun t k => pre6 t (by
        refine XS.iconst X0.here hx rfl (hb hby dG_16) ?_
        exact k)
    have hnr : Value.int (nar .boolean (0 : Int32)) = (.int (0 : Int32)) := by rfl
    obtain ⟨fs, hr, hrun, hended, hW, hsame⟩ := X0.leave (v := some (.int (0 : Int32))) (fun h => by rw [Bd.returns] at h; cases h)
    refine ⟨_, _, hEF ▸ pre7 _ (retN X0 hx (t := .boolean) Bd.returns (by simp) (hb hby dG_17) (hnr ▸ hr)), hrun, hended, _, _, rfl, ?_, ⟨_, rfl⟩, hW, hsame.mono (by decide) (by decide)⟩
    show QG Z p1 r h0 n0 _ s₁.heap _
    rw [e0]
    exact ⟨by rw [← hR]; simp [digF, hc3, hc9], N0, rfl⟩
  have pre8 : Go p e below s₁ (mkF m 12 #[iv p1] []) s₁ EF := fun t k => pre5 t (XS.icmpNo X0.here hx rfl (hb hby dG_9) rfl (flt hc9).2.2.1 k)
  have pre9 : Go p e below s₁ (mkF m 17 #[iv p1] [(.int (1 : Int32))]) s₁ EF := fun t k => pre8 t (by
      refine XS.iconst X0.here hx rfl (hb hby dG_12) ?_
      refine XS.goto X0.here hx rfl (pc0 := 13) (pc' := 17) rfl (hb hby dG_13) (by decide) (by decide) ?_
      exact k)
  have hnr : Value.int (nar .boolean (1 : Int32)) = (.int (1 : Int32)) := by rfl
  obtain ⟨fs, hr, hrun, hended, hW, hsame⟩ := X0.leave (v := some (.int (1 : Int32))) (fun h => by rw [Bd.returns] at h; cases h)
  refine ⟨_, _, hEF ▸ pre9 _ (retN X0 hx (t := .boolean) Bd.returns (by simp) (hb hby dG_17) (hnr ▸ hr)), hrun, hended, _, _, rfl, ?_, ⟨_, rfl⟩, hW, hsame.mono (by decide) (by decide)⟩
  show QG Z p1 r h0 n0 _ s₁.heap _
  rw [e0]
  exact ⟨by rw [← hR]; simp [digF, hc3, hc9], N0, rfl⟩
abbrev rKI0 : Room := { frames := 2, cells := 0, slots := 0, locals := 26 }
theorem dI0_0 : decode prog_23_method_4_code 0 = .ok (.iconst 1, 1) := by decide +kernel
theorem dI0_1 : decode prog_23_method_4_code 1 = .ok (.istore_n 1, 1) := by decide +kernel
theorem dI0_2 : decode prog_23_method_4_code 2 = .ok (.iconst 0, 1) := by decide +kernel
theorem dI0_3 : decode prog_23_method_4_code 3 = .ok (.istore_n 2, 1) := by decide +kernel
theorem dI0_4 : decode prog_23_method_4_code 4 = .ok (.iload_n 2, 1) := by decide +kernel
theorem dI0_5 : decode prog_23_method_4_code 5 = .ok (.aload_n 0, 1) := by decide +kernel
theorem dI0_6 : decode prog_23_method_4_code 6 = .ok (.invokevirtual 7, 3) := by decide +kernel
theorem dI0_9 : decode prog_23_method_4_code 9 = .ok (.if_icmp .ge 39, 3) := by decide +kernel
theorem dI0_48 : decode prog_23_method_4_code 48 = .ok (.iload_n 1, 1) := by decide +kernel
theorem dI0_49 : decode prog_23_method_4_code 49 = .ok (.ireturn, 1) := by decide +kernel
theorem pnI0 : plainName "com/example/oxpecker/oxpecker/http/UriCharacters" = true := by first | (simp [plainName, overriddenIn]; done) | decide +kernel
theorem pdI0_0 : parseMethodDescriptor "()I" = some ⟨[], some .int⟩ := by decide +kernel
theorem efI0 (m : MethodId) (a1 : Addr) : entryFrame m #[(.ref a1)] 3 = mkF m 0 #[rv a1, .unset, .unset] [] := by first | (simp [entryFrame, mkF, argsToLocals, Value.category]; done) | rfl
def QI0 (Z : State) (a1 : Addr) (cz : Int32) (fv : Value) (r : Int32) (h0 : Heap) (n0 : Nat) (v : Option Value) (h : Heap) (L : List Loc) : Prop := v = some (.int r) ∧ Fr n0 L ∧ h = h0
set_option maxRecDepth 65536 in
set_option maxHeartbeats 40000000 in
theorem rmI0 (l : Launch) (Z : State) (a0 : Array Value) (hw : ∀ d ∈ tables_1, d.before a0 Z = true) (ws : List Jvm.Cond) (a1 : Addr) (cz : Int32) (fv : Value) (r : Int32) (h0 : Heap) (n0 : Nat) (Z0 : n0 ≤ h0.size) (O0 : Old Z n0 h0) (J0 : Jd Z cz fv) (SF : Str Z h0 a1 []) (hR : allD [] = r) :
    MetFree l mN22 (head1 (Jvm.Cond.code mN22 prog_23_method_4_code 3 (some .boolean) :: ws) rKI0) (fun a U => a = #[(.ref a1)] ∧ Z.Warmed39 U.vm ∧ U.heap = h0) (fun _ _ _ _ _ => True) (fun _ U o U' => ∃ v L, o = .returned v ∧ QI0 Z a1 cz fv r h0 n0 v U'.heap L ∧ FrameEnd U o U' L rKI0.cells rKI0.slots) := by
  refine MetFree.of_bodySF (plainFor_of_name pnI0) hisR ?_
  intro p e s m args below meth c s₁ Bd hml0 hP hK
  obtain ⟨rfl, hZ, hh⟩ := hP
  have hx := Bd.exec
  have hby := Bd.bytes
  have hml : c.maxLocals = 3 := hml0
  have hown : s.vm.findClass "com/example/oxpecker/oxpecker/http/UriCharacters" = some m.cls := findClass_of_methodNamed Bd.named
  have hnm := (name_of_methodNamed Bd.named Bd.method).1
  have X0 : Stand p l e rKI0 s m #[(.ref a1)] below meth c s₁ [] 0 0 := Stand.of_body Bd
  have e0 : s₁.heap = h0 := by rw [← hh, Bd.state]; rfl
  have N0 := Fr.nil n0
  obtain ⟨EF, hEF⟩ : ∃ f, f = entryFrame m #[(.ref a1)] 3 := ⟨_, rfl⟩
  have pre0 : Go p e below s₁ (mkF m 0 #[rv a1, .unset, .unset] []) s₁ EF := fun t k => by rw [hEF]; exact castTop (efI0 m a1) k
  have pre1 : Go p e below s₁ (mkF m 6 #[rv a1, iv (1 : Int32), iv (0 : Int32)] [(.ref a1), (.int (0 : Int32))]) s₁ EF := fun t k => pre0 t (by
      refine XS.iconst X0.here hx rfl (hb hby dI0_0) ?_
      refine XS.istoreN X0.here hx rfl (hb hby dI0_1) rfl (l' := #[rv a1, iv (1 : Int32), .unset]) rfl ?_
      refine XS.iconst X0.here hx rfl (hb hby dI0_2) ?_
      refine XS.istoreN X0.here hx rfl (hb hby dI0_3) rfl (l' := #[rv a1, iv (1 : Int32), iv (0 : Int32)]) rfl ?_
      refine XS.iloadN X0.here hx rfl (hb hby dI0_4) rfl ?_
      refine XS.aloadN X0.here hx rfl (hb hby dI0_5) rfl rfl ?_
      exact k)
  obtain ⟨cq2, kq2, q2a, q2b, q2c⟩ := isOf hZ e0 SF.exa
  obtain ⟨_, _, ⟨T2, L2, k2, n2⟩, -, X2, ⟨Lc2, hQ2, l2, y2, z2⟩, st2⟩ := X0.virtualBack hx (y := mN1) (z := mN1) hown (mvT hZ (hw _ (mW 33 rfl))) (mvT hZ (hw _ (mW 34 rfl))) (notFace_of_selects (args := #[]) (mvT hZ (hw _ (mW 36 rfl)))) (mvT hZ (hw _ (mW 36 rfl))) (mvT hZ (hw _ (mW 35 rfl))) (by decide) (backOf (W := 1) (rmJL l Z a0 hw [] a1 cz fv [] (0 : Int32) h0 n0 Z0 O0 J0 SF (by rfl)) hZ (hw _ (mW 37 rfl)) (hw _ (mW 10 rfl)) (by decide) (by decide)) q2a q2c (g := (mkF m 6 #[rv a1, iv (1 : Int32), iv (0 : Int32)] [(.ref a1), (.int (0 : Int32))])) rfl (by rw [hml]; rfl) (Steps.refl _) (argsL := []) (rest := [(.int (0 : Int32))]) (lenOf pdI0_0 rfl) rfl (Nat.le_of_eq rfl) (hb hby dI0_6) (fun _ _ => ⟨rfl, e0, wl rfl, wl rfl⟩)
  dsimp only [Pt.U, Pt.locs, Pt.cells, Pt.slots] at X2 l2 y2 z2 st2 hQ2
  subst l2 y2 z2
  obtain ⟨rfl, N2q, hq2⟩ := hQ2
  have N2 := Fr.app N0 N2q
  have pre3 : Go p e below T2 (mkF m 9 #[rv a1, iv (1 : Int32), iv (0 : Int32)] [(.int (0 : Int32)), (.int (0 : Int32))]) s₁ EF := fun t k => pre1 t (st2.trans k)
  have e2 : T2.heap = h0 := hq2
  have pre4 : Go p e below T2 (mkF m 48 #[rv a1, iv (1 : Int32), iv (0 : Int32)] []) s₁ EF := fun t k => pre3 t (XS.icmpYes X2.here hx rfl (pc0 := 9) (pc' := 48) rfl (hb hby dI0_9) rfl (flt (by decide : ¬ ((0 : Int32) < (0 : Int32)))).2.1 (by decide) (by decide) k)
  have pre5 : Go p e below T2 (mkF m 49 #[rv a1, iv (1 : Int32), iv (0 : Int32)] [(.int (1 : Int32))]) s₁ EF := fun t k => pre4 t (by
      refine XS.iloadN X2.here hx rfl (hb hby dI0_48) rfl ?_
      exact k)
  have hnr : Value.int (nar .boolean (1 : Int32)) = (.int (1 : Int32)) := by rfl
  obtain ⟨fs, hr, hrun, hended, hW, hsame⟩ := X2.leave (v := some (.int (1 : Int32))) (fun h => by rw [Bd.returns] at h; cases h)
  refine ⟨_, _, hEF ▸ pre5 _ (retN X2 hx (t := .boolean) Bd.returns (by simp) (hb hby dI0_49) (hnr ▸ hr)), hrun, hended, _, _, rfl, ?_, ⟨_, rfl⟩, hW, hsame.mono (by decide) (by decide)⟩
  show QI0 Z a1 cz fv r h0 n0 _ T2.heap _
  rw [e2]
  exact ⟨by rw [← hR]; simp [allD, digF, ], N2, rfl⟩
abbrev rKI1 : Room := { frames := 5, cells := 0, slots := 0, locals := 66 }
theorem dI1_0 : decode prog_23_method_4_code 0 = .ok (.iconst 1, 1) := by decide +kernel
theorem dI1_1 : decode prog_23_method_4_code 1 = .ok (.istore_n 1, 1) := by decide +kernel
theorem dI1_2 : decode prog_23_method_4_code 2 = .ok (.iconst 0, 1) := by decide +kernel
theorem dI1_3 : decode prog_23_method_4_code 3 = .ok (.istore_n 2, 1) := by decide +kernel
theorem dI1_4 : decode prog_23_method_4_code 4 = .ok (.iload_n 2, 1) := by decide +kernel
theorem dI1_5 : decode prog_23_method_4_code 5 = .ok (.aload_n 0, 1) := by decide +kernel
theorem dI1_6 : decode prog_23_method_4_code 6 = .ok (.invokevirtual 7, 3) := by decide +kernel
theorem dI1_9 : decode prog_23_method_4_code 9 = .ok (.if_icmp .ge 39, 3) := by decide +kernel
theorem dI1_12 : decode prog_23_method_4_code 12 = .ok (.iload_n 1, 1) := by decide +kernel
theorem dI1_13 : decode prog_23_method_4_code 13 = .ok (.ifCond .eq 35, 3) := by decide +kernel
theorem dI1_16 : decode prog_23_method_4_code 16 = .ok (.aload_n 0, 1) := by decide +kernel
theorem dI1_17 : decode prog_23_method_4_code 17 = .ok (.iload_n 2, 1) := by decide +kernel
theorem dI1_18 : decode prog_23_method_4_code 18 = .ok (.invokevirtual 13, 3) := by decide +kernel
theorem dI1_21 : decode prog_23_method_4_code 21 = .ok (.bipush 48, 2) := by decide +kernel
theorem dI1_23 : decode prog_23_method_4_code 23 = .ok (.if_icmp .lt 17, 3) := by decide +kernel
theorem dI1_26 : decode prog_23_method_4_code 26 = .ok (.aload_n 0, 1) := by decide +kernel
theorem dI1_27 : decode prog_23_method_4_code 27 = .ok (.iload_n 2, 1) := by decide +kernel
theorem dI1_28 : decode prog_23_method_4_code 28 = .ok (.invokevirtual 13, 3) := by decide +kernel
theorem dI1_31 : decode prog_23_method_4_code 31 = .ok (.bipush 57, 2) := by decide +kernel
theorem dI1_33 : decode prog_23_method_4_code 33 = .ok (.if_icmp .gt 7, 3) := by decide +kernel
theorem dI1_36 : decode prog_23_method_4_code 36 = .ok (.iconst 1, 1) := by decide +kernel
theorem dI1_37 : decode prog_23_method_4_code 37 = .ok (.goto 4, 3) := by decide +kernel
theorem dI1_40 : decode prog_23_method_4_code 40 = .ok (.iconst 0, 1) := by decide +kernel
theorem dI1_41 : decode prog_23_method_4_code 41 = .ok (.istore_n 1, 1) := by decide +kernel
theorem dI1_42 : decode prog_23_method_4_code 42 = .ok (.iinc 2 1, 3) := by decide +kernel
theorem dI1_45 : decode prog_23_method_4_code 45 = .ok (.goto (-41), 3) := by decide +kernel
theorem dI1_48 : decode prog_23_method_4_code 48 = .ok (.iload_n 1, 1) := by decide +kernel
theorem dI1_49 : decode prog_23_method_4_code 49 = .ok (.ireturn, 1) := by decide +kernel
theorem pnI1 : plainName "com/example/oxpecker/oxpecker/http/UriCharacters" = true := by first | (simp [plainName, overriddenIn]; done) | decide +kernel
theorem pdI1_0 : parseMethodDescriptor "()I" = some ⟨[], some .int⟩ := by decide +kernel
theorem pdI1_1 : parseMethodDescriptor "(I)C" = some ⟨[.int], some .char⟩ := by decide +kernel
theorem efI1 (m : MethodId) (a1 : Addr) : entryFrame m #[(.ref a1)] 3 = mkF m 0 #[rv a1, .unset, .unset] [] := by first | (simp [entryFrame, mkF, argsToLocals, Value.category]; done) | rfl
def QI1 (Z : State) (a1 : Addr) (cz : Int32) (fv : Value) (c0 : Int32) (r : Int32) (h0 : Heap) (n0 : Nat) (v : Option Value) (h : Heap) (L : List Loc) : Prop := v = some (.int r) ∧ Fr n0 L ∧ h = h0
set_option maxRecDepth 65536 in
set_option maxHeartbeats 40000000 in
theorem rmI1 (l : Launch) (Z : State) (a0 : Array Value) (hw : ∀ d ∈ tables_1, d.before a0 Z = true) (ws : List Jvm.Cond) (a1 : Addr) (cz : Int32) (fv : Value) (c0 : Int32) (r : Int32) (h0 : Heap) (n0 : Nat) (Z0 : n0 ≤ h0.size) (O0 : Old Z n0 h0) (J0 : Jd Z cz fv) (SF : Str Z h0 a1 [c0]) (hR : allD [c0] = r) :
    MetFree l mN22 (head1 (Jvm.Cond.code mN22 prog_23_method_4_code 3 (some .boolean) :: ws) rKI1) (fun a U => a = #[(.ref a1)] ∧ Z.Warmed39 U.vm ∧ U.heap = h0) (fun _ _ _ _ _ => True) (fun _ U o U' => ∃ v L, o = .returned v ∧ QI1 Z a1 cz fv c0 r h0 n0 v U'.heap L ∧ FrameEnd U o U' L rKI1.cells rKI1.slots) := by
  refine MetFree.of_bodySF (plainFor_of_name pnI1) hisR ?_
  intro p e s m args below meth c s₁ Bd hml0 hP hK
  obtain ⟨rfl, hZ, hh⟩ := hP
  have hx := Bd.exec
  have hby := Bd.bytes
  have hml : c.maxLocals = 3 := hml0
  have hown : s.vm.findClass "com/example/oxpecker/oxpecker/http/UriCharacters" = some m.cls := findClass_of_methodNamed Bd.named
  have hnm := (name_of_methodNamed Bd.named Bd.method).1
  have X0 : Stand p l e rKI1 s m #[(.ref a1)] below meth c s₁ [] 0 0 := Stand.of_body Bd
  have e0 : s₁.heap = h0 := by rw [← hh, Bd.state]; rfl
  have N0 := Fr.nil n0
  obtain ⟨EF, hEF⟩ : ∃ f, f = entryFrame m #[(.ref a1)] 3 := ⟨_, rfl⟩
  have pre0 : Go p e below s₁ (mkF m 0 #[rv a1, .unset, .unset] []) s₁ EF := fun t k => by rw [hEF]; exact castTop (efI1 m a1) k
  have pre1 : Go p e below s₁ (mkF m 6 #[rv a1, iv (1 : Int32), iv (0 : Int32)] [(.ref a1), (.int (0 : Int32))]) s₁ EF := fun t k => pre0 t (by
      refine XS.iconst X0.here hx rfl (hb hby dI1_0) ?_
      refine XS.istoreN X0.here hx rfl (hb hby dI1_1) rfl (l' := #[rv a1, iv (1 : Int32), .unset]) rfl ?_
      refine XS.iconst X0.here hx rfl (hb hby dI1_2) ?_
      refine XS.istoreN X0.here hx rfl (hb hby dI1_3) rfl (l' := #[rv a1, iv (1 : Int32), iv (0 : Int32)]) rfl ?_
      refine XS.iloadN X0.here hx rfl (hb hby dI1_4) rfl ?_
      refine XS.aloadN X0.here hx rfl (hb hby dI1_5) rfl rfl ?_
      exact k)
  obtain ⟨cq2, kq2, q2a, q2b, q2c⟩ := isOf hZ e0 SF.exa
  obtain ⟨_, _, ⟨T2, L2, k2, n2⟩, -, X2, ⟨Lc2, hQ2, l2, y2, z2⟩, st2⟩ := X0.virtualBack hx (y := mN1) (z := mN1) hown (mvT hZ (hw _ (mW 33 rfl))) (mvT hZ (hw _ (mW 34 rfl))) (notFace_of_selects (args := #[]) (mvT hZ (hw _ (mW 36 rfl)))) (mvT hZ (hw _ (mW 36 rfl))) (mvT hZ (hw _ (mW 35 rfl))) (by decide) (backOf (W := 1) (rmJL l Z a0 hw [] a1 cz fv [c0] (1 : Int32) h0 n0 Z0 O0 J0 SF (by rfl)) hZ (hw _ (mW 37 rfl)) (hw _ (mW 10 rfl)) (by decide) (by decide)) q2a q2c (g := (mkF m 6 #[rv a1, iv (1 : Int32), iv (0 : Int32)] [(.ref a1), (.int (0 : Int32))])) rfl (by rw [hml]; rfl) (Steps.refl _) (argsL := []) (rest := [(.int (0 : Int32))]) (lenOf pdI1_0 rfl) rfl (Nat.le_of_eq rfl) (hb hby dI1_6) (fun _ _ => ⟨rfl, e0, wl rfl, wl rfl⟩)
  dsimp only [Pt.U, Pt.locs, Pt.cells, Pt.slots] at X2 l2 y2 z2 st2 hQ2
  subst l2 y2 z2
  obtain ⟨rfl, N2q, hq2⟩ := hQ2
  have N2 := Fr.app N0 N2q
  have pre3 : Go p e below T2 (mkF m 9 #[rv a1, iv (1 : Int32), iv (0 : Int32)] [(.int (1 : Int32)), (.int (0 : Int32))]) s₁ EF := fun t k => pre1 t (st2.trans k)
  have e2 : T2.heap = h0 := hq2
  have pre4 : Go p e below T2 (mkF m 12 #[rv a1, iv (1 : Int32), iv (0 : Int32)] []) s₁ EF := fun t k => pre3 t (XS.icmpNo X2.here hx rfl (hb hby dI1_9) rfl (tlt (by decide : (0 : Int32) < (1 : Int32))).2.1 k)
  have pre5 : Go p e below T2 (mkF m 13 #[rv a1, iv (1 : Int32), iv (0 : Int32)] [(.int (1 : Int32))]) s₁ EF := fun t k => pre4 t (by
      refine XS.iloadN X2.here hx rfl (hb hby dI1_12) rfl ?_
      exact k)
  have pre6 : Go p e below T2 (mkF m 16 #[rv a1, iv (1 : Int32), iv (0 : Int32)] []) s₁ EF := fun t k => pre5 t (XS.ifNo X2.here hx rfl (hb hby dI1_13) rfl ((if0 _ _).trans (feq (by decide : ¬ ((1 : Int32) = (0 : Int32)))).1) k)
  have pre7 : Go p e below T2 (mkF m 18 #[rv a1, iv (1 : Int32), iv (0 : Int32)] [(.int (0 : Int32)), (.ref a1)]) s₁ EF := fun t k => pre6 t (by
      refine XS.aloadN X2.here hx rfl (hb hby dI1_16) rfl rfl ?_
      refine XS.iloadN X2.here hx rfl (hb hby dI1_17) rfl ?_
      exact k)
  obtain ⟨cq8, kq8, q8a, q8b, q8c⟩ := isOf hZ e2 SF.exa
  obtain ⟨_, _, ⟨T8, L8, k8, n8⟩, -, X8, ⟨Lc8, hQ8, l8, y8, z8⟩, st8⟩ := X2.virtualBack hx (y := mN10) (z := mN10) hown (mvT hZ (hw _ (mW 57 rfl))) (mvT hZ (hw _ (mW 58 rfl))) (notFace_of_selects (args := #[]) (mvT hZ (hw _ (mW 60 rfl)))) (mvT hZ (hw _ (mW 60 rfl))) (mvT hZ (hw _ (mW 59 rfl))) (by decide) (backOf (W := 0) (rmJC l Z a0 hw [] a1 (0 : Int32) cz fv [c0] c0 h0 n0 Z0 O0 J0 SF (by decide) rfl) hZ (hw _ (mW 61 rfl)) (hw _ (mW 10 rfl)) (by decide) (by decide)) q8a q8c (g := (mkF m 18 #[rv a1, iv (1 : Int32), iv (0 : Int32)] [(.int (0 : Int32)), (.ref a1)])) rfl (by rw [hml]; rfl) (Steps.refl _) (argsL := [(.int (0 : Int32))]) (rest := []) (lenOf pdI1_1 rfl) rfl (Nat.le_of_eq rfl) (hb hby dI1_18) (fun _ _ => ⟨rfl, e2, wl rfl, wl rfl⟩)
  dsimp only [Pt.U, Pt.locs, Pt.cells, Pt.slots] at X8 l8 y8 z8 st8 hQ8
  subst l8 y8 z8
  obtain ⟨rfl, N8q, hq8⟩ := hQ8
  have N8 := Fr.app N2 N8q
  have pre9 : Go p e below T8 (mkF m 21 #[rv a1, iv (1 : Int32), iv (0 : Int32)] [(.int c0)]) s₁ EF := fun t k => pre7 t (st8.trans k)
  have e8 : T8.heap = h0 := hq8
  have pre10 : Go p e below T8 (mkF m 23 #[rv a1, iv (1 : Int32), iv (0 : Int32)] [(.int (48 : Int32)), (.int c0)]) s₁ EF := fun t k => pre9 t (by
      refine XS.bipush X8.here hx rfl (hb hby dI1_21) ?_
      exact k)
  by_cases hc23 : c0 < (48 : Int32)
  · have pre11 : Go p e below T8 (mkF m 40 #[rv a1, iv (1 : Int32), iv (0 : Int32)] []) s₁ EF := fun t k => pre10 t (XS.icmpYes X8.here hx rfl (pc0 := 23) (pc' := 40) rfl (hb hby dI1_23) rfl (tlt hc23).1 (by decide) (by decide) k)
    have pre12 : Go p e below T8 (mkF m 6 #[rv a1, iv (0 : Int32), iv (1 : Int32)] [(.ref a1), (.int (1 : Int32))]) s₁ EF := fun t k => pre11 t (by
        refine XS.iconst X8.here hx rfl (hb hby dI1_40) ?_
        refine XS.istoreN X8.here hx rfl (hb hby dI1_41) rfl (l' := #[rv a1, iv (0 : Int32), iv (0 : Int32)]) rfl ?_
        refine XS.iinc X8.here hx rfl (hb hby dI1_42) rfl (l' := #[rv a1, iv (0 : Int32), iv (1 : Int32)]) rfl ?_
        refine XS.goto X8.here hx rfl (pc0 := 45) (pc' := 4) rfl (hb hby dI1_45) (by decide) (by decide) ?_
        refine XS.iloadN X8.here hx rfl (hb hby dI1_4) rfl ?_
        refine XS.aloadN X8.here hx rfl (hb hby dI1_5) rfl rfl ?_
        exact k)
    obtain ⟨cq13, kq13, q13a, q13b, q13c⟩ := isOf hZ e8 SF.exa
    obtain ⟨_, _, ⟨T13, L13, k13, n13⟩, -, X13, ⟨Lc13, hQ13, l13, y13, z13⟩, st13⟩ := X8.virtualBack hx (y := mN1) (z := mN1) hown (mvT hZ (hw _ (mW 33 rfl))) (mvT hZ (hw _ (mW 34 rfl))) (notFace_of_selects (args := #[]) (mvT hZ (hw _ (mW 36 rfl)))) (mvT hZ (hw _ (mW 36 rfl))) (mvT hZ (hw _ (mW 35 rfl))) (by decide) (backOf (W := 1) (rmJL l Z a0 hw [] a1 cz fv [c0] (1 : Int32) h0 n0 Z0 O0 J0 SF (by rfl)) hZ (hw _ (mW 37 rfl)) (hw _ (mW 10 rfl)) (by decide) (by decide)) q13a q13c (g := (mkF m 6 #[rv a1, iv (0 : Int32), iv (1 : Int32)] [(.ref a1), (.int (1 : Int32))])) rfl (by rw [hml]; rfl) (Steps.refl _) (argsL := []) (rest := [(.int (1 : Int32))]) (lenOf pdI1_0 rfl) rfl (Nat.le_of_eq rfl) (hb hby dI1_6) (fun _ _ => ⟨rfl, e8, wl rfl, wl rfl⟩)
    dsimp only [Pt.U, Pt.locs, Pt.cells, Pt.slots] at X13 l13 y13 z13 st13 hQ13
    subst l13 y13 z13
    obtain ⟨rfl, N13q, hq13⟩ := hQ13
    have N13 := Fr.app N8 N13q
    have pre14 : Go p e below T13 (mkF m 9 #[rv a1, iv (0 : Int32), iv (1 : Int32)] [(.int (1 : Int32)), (.int (1 : Int32))]) s₁ EF := fun t k => pre12 t (st13.trans k)
    have e13 : T13.heap = h0 := hq13
    have pre15 : Go p e below T13 (mkF m 48 #[rv a1, iv (0 : Int32), iv (1 : Int32)] []) s₁ EF := fun t k => pre14 t (XS.icmpYes X13.here hx rfl (pc0 := 9) (pc' := 48) rfl (hb hby dI1_9) rfl (flt (by decide : ¬ ((1 : Int32) < (1 : Int32)))).2.1 (by decide) (by decide) k)
    have pre16 : Go p e below T13 (mkF m 49 #[rv a1, iv (0 : Int32), iv (1 : Int32)] [(.int (0 : Int32))]) s₁ EF := fun t k => pre15 t (by
        refine XS.iloadN X13.here hx rfl (hb hby dI1_48) rfl ?_
        exact k)
    have hnr : Value.int (nar .boolean (0 : Int32)) = (.int (0 : Int32)) := by rfl
    obtain ⟨fs, hr, hrun, hended, hW, hsame⟩ := X13.leave (v := some (.int (0 : Int32))) (fun h => by rw [Bd.returns] at h; cases h)
    refine ⟨_, _, hEF ▸ pre16 _ (retN X13 hx (t := .boolean) Bd.returns (by simp) (hb hby dI1_49) (hnr ▸ hr)), hrun, hended, _, _, rfl, ?_, ⟨_, rfl⟩, hW, hsame.mono (by decide) (by decide)⟩
    show QI1 Z a1 cz fv c0 r h0 n0 _ T13.heap _
    rw [e13]
    exact ⟨by rw [← hR]; simp [allD, digF, hc23], N13, rfl⟩
  have pre17 : Go p e below T8 (mkF m 26 #[rv a1, iv (1 : Int32), iv (0 : Int32)] []) s₁ EF := fun t k => pre10 t (XS.icmpNo X8.here hx rfl (hb hby dI1_23) rfl (flt hc23).1 k)
  have pre18 : Go p e below T8 (mkF m 28 #[rv a1, iv (1 : Int32), iv (0 : Int32)] [(.int (0 : Int32)), (.ref a1)]) s₁ EF := fun t k => pre17 t (by
      refine XS.aloadN X8.here hx rfl (hb hby dI1_26) rfl rfl ?_
      refine XS.iloadN X8.here hx rfl (hb hby dI1_27) rfl ?_
      exact k)
  obtain ⟨cq19, kq19, q19a, q19b, q19c⟩ := isOf hZ e8 SF.exa
  obtain ⟨_, _, ⟨T19, L19, k19, n19⟩, -, X19, ⟨Lc19, hQ19, l19, y19, z19⟩, st19⟩ := X8.virtualBack hx (y := mN10) (z := mN10) hown (mvT hZ (hw _ (mW 57 rfl))) (mvT hZ (hw _ (mW 58 rfl))) (notFace_of_selects (args := #[]) (mvT hZ (hw _ (mW 60 rfl)))) (mvT hZ (hw _ (mW 60 rfl))) (mvT hZ (hw _ (mW 59 rfl))) (by decide) (backOf (W := 0) (rmJC l Z a0 hw [] a1 (0 : Int32) cz fv [c0] c0 h0 n0 Z0 O0 J0 SF (by decide) rfl) hZ (hw _ (mW 61 rfl)) (hw _ (mW 10 rfl)) (by decide) (by decide)) q19a q19c (g := (mkF m 28 #[rv a1, iv (1 : Int32), iv (0 : Int32)] [(.int (0 : Int32)), (.ref a1)])) rfl (by rw [hml]; rfl) (Steps.refl _) (argsL := [(.int (0 : Int32))]) (rest := []) (lenOf pdI1_1 rfl) rfl (Nat.le_of_eq rfl) (hb hby dI1_28) (fun _ _ => ⟨rfl, e8, wl rfl, wl rfl⟩)
  dsimp only [Pt.U, Pt.locs, Pt.cells, Pt.slots] at X19 l19 y19 z19 st19 hQ19
  subst l19 y19 z19
  obtain ⟨rfl, N19q, hq19⟩ := hQ19
  have N19 := Fr.app N8 N19q
  have pre20 : Go p e below T19 (mkF m 31 #[rv a1, iv (1 : Int32), iv (0 : Int32)] [(.int c0)]) s₁ EF := fun t k => pre18 t (st19.trans k)
  have e19 : T19.heap = h0 := hq19
  have pre21 : Go p e below T19 (mkF m 33 #[rv a1, iv (1 : Int32), iv (0 : Int32)] [(.int (57 : Int32)), (.int c0)]) s₁ EF := fun t k => pre20 t (by
      refine XS.bipush X19.here hx rfl (hb hby dI1_31) ?_
      exact k)
  by_cases hc33 : (57 : Int32) < c0
  · have pre22 : Go p e below T19 (mkF m 40 #[rv a1, iv (1 : Int32), iv (0 : Int32)] []) s₁ EF := fun t k => pre21 t (XS.icmpYes X19.here hx rfl (pc0 := 33) (pc' := 40) rfl (hb hby dI1_33) rfl (tlt hc33).2.2.1 (by decide) (by decide) k)
    have pre23 : Go p e below T19 (mkF m 6 #[rv a1, iv (0 : Int32), iv (1 : Int32)] [(.ref a1), (.int (1 : Int32))]) s₁ EF := fun t k => pre22 t (by
        refine XS.iconst X19.here hx rfl (hb hby dI1_40) ?_
        refine XS.istoreN X19.here hx rfl (hb hby dI1_41) rfl (l' := #[rv a1, iv (0 : Int32), iv (0 : Int32)]) rfl ?_
        refine XS.iinc X19.here hx rfl (hb hby dI1_42) rfl (l' := #[rv a1, iv (0 : Int32), iv (1 : Int32)]) rfl ?_
        refine XS.goto X19.here hx rfl (pc0 := 45) (pc' := 4) rfl (hb hby dI1_45) (by decide) (by decide) ?_
        refine XS.iloadN X19.here hx rfl (hb hby dI1_4) rfl ?_
        refine XS.aloadN X19.here hx rfl (hb hby dI1_5) rfl rfl ?_
        exact k)
    obtain ⟨cq24, kq24, q24a, q24b, q24c⟩ := isOf hZ e19 SF.exa
    obtain ⟨_, _, ⟨T24, L24, k24, n24⟩, -, X24, ⟨Lc24, hQ24, l24, y24, z24⟩, st24⟩ := X19.virtualBack hx (y := mN1) (z := mN1) hown (mvT hZ (hw _ (mW 33 rfl))) (mvT hZ (hw _ (mW 34 rfl))) (notFace_of_selects (args := #[]) (mvT hZ (hw _ (mW 36 rfl)))) (mvT hZ (hw _ (mW 36 rfl))) (mvT hZ (hw _ (mW 35 rfl))) (by decide) (backOf (W := 1) (rmJL l Z a0 hw [] a1 cz fv [c0] (1 : Int32) h0 n0 Z0 O0 J0 SF (by rfl)) hZ (hw _ (mW 37 rfl)) (hw _ (mW 10 rfl)) (by decide) (by decide)) q24a q24c (g := (mkF m 6 #[rv a1, iv (0 : Int32), iv (1 : Int32)] [(.ref a1), (.int (1 : Int32))])) rfl (by rw [hml]; rfl) (Steps.refl _) (argsL := []) (rest := [(.int (1 : Int32))]) (lenOf pdI1_0 rfl) rfl (Nat.le_of_eq rfl) (hb hby dI1_6) (fun _ _ => ⟨rfl, e19, wl rfl, wl rfl⟩)
    dsimp only [Pt.U, Pt.locs, Pt.cells, Pt.slots] at X24 l24 y24 z24 st24 hQ24
    subst l24 y24 z24
    obtain ⟨rfl, N24q, hq24⟩ := hQ24
    have N24 := Fr.app N19 N24q
    have pre25 : Go p e below T24 (mkF m 9 #[rv a1, iv (0 : Int32), iv (1 : Int32)] [(.int (1 : Int32)), (.int (1 : Int32))]) s₁ EF := fun t k => pre23 t (st24.trans k)
    have e24 : T24.heap = h0 := hq24
    have pre26 : Go p e below T24 (mkF m 48 #[rv a1, iv (0 : Int32), iv (1 : Int32)] []) s₁ EF := fun t k => pre25 t (XS.icmpYes X24.here hx rfl (pc0 := 9) (pc' := 48) rfl (hb hby dI1_9) rfl (flt (by decide : ¬ ((1 : Int32) < (1 : Int32)))).2.1 (by decide) (by decide) k)
    have pre27 : Go p e below T24 (mkF m 49 #[rv a1, iv (0 : Int32), iv (1 : Int32)] [(.int (0 : Int32))]) s₁ EF := fun t k => pre26 t (by
        refine XS.iloadN X24.here hx rfl (hb hby dI1_48) rfl ?_
        exact k)
    have hnr : Value.int (nar .boolean (0 : Int32)) = (.int (0 : Int32)) := by rfl
    obtain ⟨fs, hr, hrun, hended, hW, hsame⟩ := X24.leave (v := some (.int (0 : Int32))) (fun h => by rw [Bd.returns] at h; cases h)
    refine ⟨_, _, hEF ▸ pre27 _ (retN X24 hx (t := .boolean) Bd.returns (by simp) (hb hby dI1_49) (hnr ▸ hr)), hrun, hended, _, _, rfl, ?_, ⟨_, rfl⟩, hW, hsame.mono (by decide) (by decide)⟩
    show QI1 Z a1 cz fv c0 r h0 n0 _ T24.heap _
    rw [e24]
    exact ⟨by rw [← hR]; simp [allD, digF, hc23, hc33], N24, rfl⟩
  have pre28 : Go p e below T19 (mkF m 36 #[rv a1, iv (1 : Int32), iv (0 : Int32)] []) s₁ EF := fun t k => pre21 t (XS.icmpNo X19.here hx rfl (hb hby dI1_33) rfl (flt hc33).2.2.1 k)
  have pre29 : Go p e below T19 (mkF m 6 #[rv a1, iv (1 : Int32), iv (1 : Int32)] [(.ref a1), (.int (1 : Int32))]) s₁ EF := fun t k => pre28 t (by
      refine XS.iconst X19.here hx rfl (hb hby dI1_36) ?_
      refine XS.goto X19.here hx rfl (pc0 := 37) (pc' := 41) rfl (hb hby dI1_37) (by decide) (by decide) ?_
      refine XS.istoreN X19.here hx rfl (hb hby dI1_41) rfl (l' := #[rv a1, iv (1 : Int32), iv (0 : Int32)]) rfl ?_
      refine XS.iinc X19.here hx rfl (hb hby dI1_42) rfl (l' := #[rv a1, iv (1 : Int32), iv (1 : Int32)]) rfl ?_
      refine XS.goto X19.here hx rfl (pc0 := 45) (pc' := 4) rfl (hb hby dI1_45) (by decide) (by decide) ?_
      refine XS.iloadN X19.here hx rfl (hb hby dI1_4) rfl ?_
      refine XS.aloadN X19.here hx rfl (hb hby dI1_5) rfl rfl ?_
      exact k)
  obtain ⟨cq30, kq30, q30a, q30b, q30c⟩ := isOf hZ e19 SF.exa
  obtain ⟨_, _, ⟨T30, L30, k30, n30⟩, -, X30, ⟨Lc30, hQ30, l30, y30, z30⟩, st30⟩ := X19.virtualBack hx (y := mN1) (z := mN1) hown (mvT hZ (hw _ (mW 33 rfl))) (mvT hZ (hw _ (mW 34 rfl))) (notFace_of_selects (args := #[]) (mvT hZ (hw _ (mW 36 rfl)))) (mvT hZ (hw _ (mW 36 rfl))) (mvT hZ (hw _ (mW 35 rfl))) (by decide) (backOf (W := 1) (rmJL l Z a0 hw [] a1 cz fv [c0] (1 : Int32) h0 n0 Z0 O0 J0 SF (by rfl)) hZ (hw _ (mW 37 rfl)) (hw _ (mW 10 rfl)) (by decide) (by decide)) q30a q30c (g := (mkF m 6 #[rv a1, iv (1 : Int32), iv (1 : Int32)] [(.ref a1), (.int (1 : Int32))])) rfl (by rw [hml]; rfl) (Steps.refl _) (argsL := []) (rest := [(.int (1 : Int32))]) (lenOf pdI1_0 rfl) rfl (Nat.le_of_eq rfl) (hb hby dI1_6) (fun _ _ => ⟨rfl, e19, wl rfl, wl rfl⟩)
  dsimp only [Pt.U, Pt.locs, Pt.cells, Pt.slots] at X30 l30 y30 z30 st30 hQ30
  subst l30 y30 z30
  obtain ⟨rfl, N30q, hq30⟩ := hQ30
  have N30 := Fr.app N19 N30q
  have pre31 : Go p e below T30 (mkF m 9 #[rv a1, iv (1 : Int32), iv (1 : Int32)] [(.int (1 : Int32)), (.int (1 : Int32))]) s₁ EF := fun t k => pre29 t (st30.trans k)
  have e30 : T30.heap = h0 := hq30
  have pre32 : Go p e below T30 (mkF m 48 #[rv a1, iv (1 : Int32), iv (1 : Int32)] []) s₁ EF := fun t k => pre31 t (XS.icmpYes X30.here hx rfl (pc0 := 9) (pc' := 48) rfl (hb hby dI1_9) rfl (flt (by decide : ¬ ((1 : Int32) < (1 : Int32)))).2.1 (by decide) (by decide) k)
  have pre33 : Go p e below T30 (mkF m 49 #[rv a1, iv (1 : Int32), iv (1 : Int32)] [(.int (1 : Int32))]) s₁ EF := fun t k => pre32 t (by
      refine XS.iloadN X30.here hx rfl (hb hby dI1_48) rfl ?_
      exact k)
  have hnr : Value.int (nar .boolean (1 : Int32)) = (.int (1 : Int32)) := by rfl
  obtain ⟨fs, hr, hrun, hended, hW, hsame⟩ := X30.leave (v := some (.int (1 : Int32))) (fun h => by rw [Bd.returns] at h; cases h)
  refine ⟨_, _, hEF ▸ pre33 _ (retN X30 hx (t := .boolean) Bd.returns (by simp) (hb hby dI1_49) (hnr ▸ hr)), hrun, hended, _, _, rfl, ?_, ⟨_, rfl⟩, hW, hsame.mono (by decide) (by decide)⟩
  show QI1 Z a1 cz fv c0 r h0 n0 _ T30.heap _
  rw [e30]
  exact ⟨by rw [← hR]; simp [allD, digF, hc23, hc33], N30, rfl⟩
abbrev rKI2 : Room := { frames := 5, cells := 0, slots := 0, locals := 66 }
theorem dI2_0 : decode prog_23_method_4_code 0 = .ok (.iconst 1, 1) := by decide +kernel
theorem dI2_1 : decode prog_23_method_4_code 1 = .ok (.istore_n 1, 1) := by decide +kernel
theorem dI2_2 : decode prog_23_method_4_code 2 = .ok (.iconst 0, 1) := by decide +kernel
theorem dI2_3 : decode prog_23_method_4_code 3 = .ok (.istore_n 2, 1) := by decide +kernel
theorem dI2_4 : decode prog_23_method_4_code 4 = .ok (.iload_n 2, 1) := by decide +kernel
theorem dI2_5 : decode prog_23_method_4_code 5 = .ok (.aload_n 0, 1) := by decide +kernel
theorem dI2_6 : decode prog_23_method_4_code 6 = .ok (.invokevirtual 7, 3) := by decide +kernel
theorem dI2_9 : decode prog_23_method_4_code 9 = .ok (.if_icmp .ge 39, 3) := by decide +kernel
theorem dI2_12 : decode prog_23_method_4_code 12 = .ok (.iload_n 1, 1) := by decide +kernel
theorem dI2_13 : decode prog_23_method_4_code 13 = .ok (.ifCond .eq 35, 3) := by decide +kernel
theorem dI2_16 : decode prog_23_method_4_code 16 = .ok (.aload_n 0, 1) := by decide +kernel
theorem dI2_17 : decode prog_23_method_4_code 17 = .ok (.iload_n 2, 1) := by decide +kernel
theorem dI2_18 : decode prog_23_method_4_code 18 = .ok (.invokevirtual 13, 3) := by decide +kernel
theorem dI2_21 : decode prog_23_method_4_code 21 = .ok (.bipush 48, 2) := by decide +kernel
theorem dI2_23 : decode prog_23_method_4_code 23 = .ok (.if_icmp .lt 17, 3) := by decide +kernel
theorem dI2_26 : decode prog_23_method_4_code 26 = .ok (.aload_n 0, 1) := by decide +kernel
theorem dI2_27 : decode prog_23_method_4_code 27 = .ok (.iload_n 2, 1) := by decide +kernel
theorem dI2_28 : decode prog_23_method_4_code 28 = .ok (.invokevirtual 13, 3) := by decide +kernel
theorem dI2_31 : decode prog_23_method_4_code 31 = .ok (.bipush 57, 2) := by decide +kernel
theorem dI2_33 : decode prog_23_method_4_code 33 = .ok (.if_icmp .gt 7, 3) := by decide +kernel
theorem dI2_36 : decode prog_23_method_4_code 36 = .ok (.iconst 1, 1) := by decide +kernel
theorem dI2_37 : decode prog_23_method_4_code 37 = .ok (.goto 4, 3) := by decide +kernel
theorem dI2_40 : decode prog_23_method_4_code 40 = .ok (.iconst 0, 1) := by decide +kernel
theorem dI2_41 : decode prog_23_method_4_code 41 = .ok (.istore_n 1, 1) := by decide +kernel
theorem dI2_42 : decode prog_23_method_4_code 42 = .ok (.iinc 2 1, 3) := by decide +kernel
theorem dI2_45 : decode prog_23_method_4_code 45 = .ok (.goto (-41), 3) := by decide +kernel
theorem dI2_48 : decode prog_23_method_4_code 48 = .ok (.iload_n 1, 1) := by decide +kernel
theorem dI2_49 : decode prog_23_method_4_code 49 = .ok (.ireturn, 1) := by decide +kernel
theorem pnI2 : plainName "com/example/oxpecker/oxpecker/http/UriCharacters" = true := by first | (simp [plainName, overriddenIn]; done) | decide +kernel
theorem pdI2_0 : parseMethodDescriptor "()I" = some ⟨[], some .int⟩ := by decide +kernel
theorem pdI2_1 : parseMethodDescriptor "(I)C" = some ⟨[.int], some .char⟩ := by decide +kernel
theorem efI2 (m : MethodId) (a1 : Addr) : entryFrame m #[(.ref a1)] 3 = mkF m 0 #[rv a1, .unset, .unset] [] := by first | (simp [entryFrame, mkF, argsToLocals, Value.category]; done) | rfl
def QI2 (Z : State) (a1 : Addr) (cz : Int32) (fv : Value) (c0 : Int32) (c1 : Int32) (r : Int32) (h0 : Heap) (n0 : Nat) (v : Option Value) (h : Heap) (L : List Loc) : Prop := v = some (.int r) ∧ Fr n0 L ∧ h = h0
set_option maxRecDepth 65536 in
set_option maxHeartbeats 40000000 in
theorem rmI2 (l : Launch) (Z : State) (a0 : Array Value) (hw : ∀ d ∈ tables_1, d.before a0 Z = true) (ws : List Jvm.Cond) (a1 : Addr) (cz : Int32) (fv : Value) (c0 : Int32) (c1 : Int32) (r : Int32) (h0 : Heap) (n0 : Nat) (Z0 : n0 ≤ h0.size) (O0 : Old Z n0 h0) (J0 : Jd Z cz fv) (SF : Str Z h0 a1 [c0, c1]) (hR : allD [c0, c1] = r) :
    MetFree l mN22 (head1 (Jvm.Cond.code mN22 prog_23_method_4_code 3 (some .boolean) :: ws) rKI2) (fun a U => a = #[(.ref a1)] ∧ Z.Warmed39 U.vm ∧ U.heap = h0) (fun _ _ _ _ _ => True) (fun _ U o U' => ∃ v L, o = .returned v ∧ QI2 Z a1 cz fv c0 c1 r h0 n0 v U'.heap L ∧ FrameEnd U o U' L rKI2.cells rKI2.slots) := by
  refine MetFree.of_bodySF (plainFor_of_name pnI2) hisR ?_
  intro p e s m args below meth c s₁ Bd hml0 hP hK
  obtain ⟨rfl, hZ, hh⟩ := hP
  have hx := Bd.exec
  have hby := Bd.bytes
  have hml : c.maxLocals = 3 := hml0
  have hown : s.vm.findClass "com/example/oxpecker/oxpecker/http/UriCharacters" = some m.cls := findClass_of_methodNamed Bd.named
  have hnm := (name_of_methodNamed Bd.named Bd.method).1
  have X0 : Stand p l e rKI2 s m #[(.ref a1)] below meth c s₁ [] 0 0 := Stand.of_body Bd
  have e0 : s₁.heap = h0 := by rw [← hh, Bd.state]; rfl
  have N0 := Fr.nil n0
  obtain ⟨EF, hEF⟩ : ∃ f, f = entryFrame m #[(.ref a1)] 3 := ⟨_, rfl⟩
  have pre0 : Go p e below s₁ (mkF m 0 #[rv a1, .unset, .unset] []) s₁ EF := fun t k => by rw [hEF]; exact castTop (efI2 m a1) k
  have pre1 : Go p e below s₁ (mkF m 6 #[rv a1, iv (1 : Int32), iv (0 : Int32)] [(.ref a1), (.int (0 : Int32))]) s₁ EF := fun t k => pre0 t (by
      refine XS.iconst X0.here hx rfl (hb hby dI2_0) ?_
      refine XS.istoreN X0.here hx rfl (hb hby dI2_1) rfl (l' := #[rv a1, iv (1 : Int32), .unset]) rfl ?_
      refine XS.iconst X0.here hx rfl (hb hby dI2_2) ?_
      refine XS.istoreN X0.here hx rfl (hb hby dI2_3) rfl (l' := #[rv a1, iv (1 : Int32), iv (0 : Int32)]) rfl ?_
      refine XS.iloadN X0.here hx rfl (hb hby dI2_4) rfl ?_
      refine XS.aloadN X0.here hx rfl (hb hby dI2_5) rfl rfl ?_
      exact k)
  obtain ⟨cq2, kq2, q2a, q2b, q2c⟩ := isOf hZ e0 SF.exa
  obtain ⟨_, _, ⟨T2, L2, k2, n2⟩, -, X2, ⟨Lc2, hQ2, l2, y2, z2⟩, st2⟩ := X0.virtualBack hx (y := mN1) (z := mN1) hown (mvT hZ (hw _ (mW 33 rfl))) (mvT hZ (hw _ (mW 34 rfl))) (notFace_of_selects (args := #[]) (mvT hZ (hw _ (mW 36 rfl)))) (mvT hZ (hw _ (mW 36 rfl))) (mvT hZ (hw _ (mW 35 rfl))) (by decide) (backOf (W := 1) (rmJL l Z a0 hw [] a1 cz fv [c0, c1] (2 : Int32) h0 n0 Z0 O0 J0 SF (by rfl)) hZ (hw _ (mW 37 rfl)) (hw _ (mW 10 rfl)) (by decide) (by decide)) q2a q2c (g := (mkF m 6 #[rv a1, iv (1 : Int32), iv (0 : Int32)] [(.ref a1), (.int (0 : Int32))])) rfl (by rw [hml]; rfl) (Steps.refl _) (argsL := []) (rest := [(.int (0 : Int32))]) (lenOf pdI2_0 rfl) rfl (Nat.le_of_eq rfl) (hb hby dI2_6) (fun _ _ => ⟨rfl, e0, wl rfl, wl rfl⟩)
  dsimp only [Pt.U, Pt.locs, Pt.cells, Pt.slots] at X2 l2 y2 z2 st2 hQ2
  subst l2 y2 z2
  obtain ⟨rfl, N2q, hq2⟩ := hQ2
  have N2 := Fr.app N0 N2q
  have pre3 : Go p e below T2 (mkF m 9 #[rv a1, iv (1 : Int32), iv (0 : Int32)] [(.int (2 : Int32)), (.int (0 : Int32))]) s₁ EF := fun t k => pre1 t (st2.trans k)
  have e2 : T2.heap = h0 := hq2
  have pre4 : Go p e below T2 (mkF m 12 #[rv a1, iv (1 : Int32), iv (0 : Int32)] []) s₁ EF := fun t k => pre3 t (XS.icmpNo X2.here hx rfl (hb hby dI2_9) rfl (tlt (by decide : (0 : Int32) < (2 : Int32))).2.1 k)
  have pre5 : Go p e below T2 (mkF m 13 #[rv a1, iv (1 : Int32), iv (0 : Int32)] [(.int (1 : Int32))]) s₁ EF := fun t k => pre4 t (by
      refine XS.iloadN X2.here hx rfl (hb hby dI2_12) rfl ?_
      exact k)
  have pre6 : Go p e below T2 (mkF m 16 #[rv a1, iv (1 : Int32), iv (0 : Int32)] []) s₁ EF := fun t k => pre5 t (XS.ifNo X2.here hx rfl (hb hby dI2_13) rfl ((if0 _ _).trans (feq (by decide : ¬ ((1 : Int32) = (0 : Int32)))).1) k)
  have pre7 : Go p e below T2 (mkF m 18 #[rv a1, iv (1 : Int32), iv (0 : Int32)] [(.int (0 : Int32)), (.ref a1)]) s₁ EF := fun t k => pre6 t (by
      refine XS.aloadN X2.here hx rfl (hb hby dI2_16) rfl rfl ?_
      refine XS.iloadN X2.here hx rfl (hb hby dI2_17) rfl ?_
      exact k)
  obtain ⟨cq8, kq8, q8a, q8b, q8c⟩ := isOf hZ e2 SF.exa
  obtain ⟨_, _, ⟨T8, L8, k8, n8⟩, -, X8, ⟨Lc8, hQ8, l8, y8, z8⟩, st8⟩ := X2.virtualBack hx (y := mN10) (z := mN10) hown (mvT hZ (hw _ (mW 57 rfl))) (mvT hZ (hw _ (mW 58 rfl))) (notFace_of_selects (args := #[]) (mvT hZ (hw _ (mW 60 rfl)))) (mvT hZ (hw _ (mW 60 rfl))) (mvT hZ (hw _ (mW 59 rfl))) (by decide) (backOf (W := 0) (rmJC l Z a0 hw [] a1 (0 : Int32) cz fv [c0, c1] c0 h0 n0 Z0 O0 J0 SF (by decide) rfl) hZ (hw _ (mW 61 rfl)) (hw _ (mW 10 rfl)) (by decide) (by decide)) q8a q8c (g := (mkF m 18 #[rv a1, iv (1 : Int32), iv (0 : Int32)] [(.int (0 : Int32)), (.ref a1)])) rfl (by rw [hml]; rfl) (Steps.refl _) (argsL := [(.int (0 : Int32))]) (rest := []) (lenOf pdI2_1 rfl) rfl (Nat.le_of_eq rfl) (hb hby dI2_18) (fun _ _ => ⟨rfl, e2, wl rfl, wl rfl⟩)
  dsimp only [Pt.U, Pt.locs, Pt.cells, Pt.slots] at X8 l8 y8 z8 st8 hQ8
  subst l8 y8 z8
  obtain ⟨rfl, N8q, hq8⟩ := hQ8
  have N8 := Fr.app N2 N8q
  have pre9 : Go p e below T8 (mkF m 21 #[rv a1, iv (1 : Int32), iv (0 : Int32)] [(.int c0)]) s₁ EF := fun t k => pre7 t (st8.trans k)
  have e8 : T8.heap = h0 := hq8
  have pre10 : Go p e below T8 (mkF m 23 #[rv a1, iv (1 : Int32), iv (0 : Int32)] [(.int (48 : Int32)), (.int c0)]) s₁ EF := fun t k => pre9 t (by
      refine XS.bipush X8.here hx rfl (hb hby dI2_21) ?_
      exact k)
  by_cases hc23 : c0 < (48 : Int32)
  · have pre11 : Go p e below T8 (mkF m 40 #[rv a1, iv (1 : Int32), iv (0 : Int32)] []) s₁ EF := fun t k => pre10 t (XS.icmpYes X8.here hx rfl (pc0 := 23) (pc' := 40) rfl (hb hby dI2_23) rfl (tlt hc23).1 (by decide) (by decide) k)
    have pre12 : Go p e below T8 (mkF m 6 #[rv a1, iv (0 : Int32), iv (1 : Int32)] [(.ref a1), (.int (1 : Int32))]) s₁ EF := fun t k => pre11 t (by
        refine XS.iconst X8.here hx rfl (hb hby dI2_40) ?_
        refine XS.istoreN X8.here hx rfl (hb hby dI2_41) rfl (l' := #[rv a1, iv (0 : Int32), iv (0 : Int32)]) rfl ?_
        refine XS.iinc X8.here hx rfl (hb hby dI2_42) rfl (l' := #[rv a1, iv (0 : Int32), iv (1 : Int32)]) rfl ?_
        refine XS.goto X8.here hx rfl (pc0 := 45) (pc' := 4) rfl (hb hby dI2_45) (by decide) (by decide) ?_
        refine XS.iloadN X8.here hx rfl (hb hby dI2_4) rfl ?_
        refine XS.aloadN X8.here hx rfl (hb hby dI2_5) rfl rfl ?_
        exact k)
    obtain ⟨cq13, kq13, q13a, q13b, q13c⟩ := isOf hZ e8 SF.exa
    obtain ⟨_, _, ⟨T13, L13, k13, n13⟩, -, X13, ⟨Lc13, hQ13, l13, y13, z13⟩, st13⟩ := X8.virtualBack hx (y := mN1) (z := mN1) hown (mvT hZ (hw _ (mW 33 rfl))) (mvT hZ (hw _ (mW 34 rfl))) (notFace_of_selects (args := #[]) (mvT hZ (hw _ (mW 36 rfl)))) (mvT hZ (hw _ (mW 36 rfl))) (mvT hZ (hw _ (mW 35 rfl))) (by decide) (backOf (W := 1) (rmJL l Z a0 hw [] a1 cz fv [c0, c1] (2 : Int32) h0 n0 Z0 O0 J0 SF (by rfl)) hZ (hw _ (mW 37 rfl)) (hw _ (mW 10 rfl)) (by decide) (by decide)) q13a q13c (g := (mkF m 6 #[rv a1, iv (0 : Int32), iv (1 : Int32)] [(.ref a1), (.int (1 : Int32))])) rfl (by rw [hml]; rfl) (Steps.refl _) (argsL := []) (rest := [(.int (1 : Int32))]) (lenOf pdI2_0 rfl) rfl (Nat.le_of_eq rfl) (hb hby dI2_6) (fun _ _ => ⟨rfl, e8, wl rfl, wl rfl⟩)
    dsimp only [Pt.U, Pt.locs, Pt.cells, Pt.slots] at X13 l13 y13 z13 st13 hQ13
    subst l13 y13 z13
    obtain ⟨rfl, N13q, hq13⟩ := hQ13
    have N13 := Fr.app N8 N13q
    have pre14 : Go p e below T13 (mkF m 9 #[rv a1, iv (0 : Int32), iv (1 : Int32)] [(.int (2 : Int32)), (.int (1 : Int32))]) s₁ EF := fun t k => pre12 t (st13.trans k)
    have e13 : T13.heap = h0 := hq13
    have pre15 : Go p e below T13 (mkF m 12 #[rv a1, iv (0 : Int32), iv (1 : Int32)] []) s₁ EF := fun t k => pre14 t (XS.icmpNo X13.here hx rfl (hb hby dI2_9) rfl (tlt (by decide : (1 : Int32) < (2 : Int32))).2.1 k)
    have pre16 : Go p e below T13 (mkF m 13 #[rv a1, iv (0 : Int32), iv (1 : Int32)] [(.int (0 : Int32))]) s₁ EF := fun t k => pre15 t (by
        refine XS.iloadN X13.here hx rfl (hb hby dI2_12) rfl ?_
        exact k)
    have pre17 : Go p e below T13 (mkF m 48 #[rv a1, iv (0 : Int32), iv (1 : Int32)] []) s₁ EF := fun t k => pre16 t (XS.ifYes X13.here hx rfl (pc0 := 13) (pc' := 48) rfl (hb hby dI2_13) rfl ((if0 _ _).trans (teq (by decide : (0 : Int32) = (0 : Int32))).1) (by decide) (by decide) k)
    have pre18 : Go p e below T13 (mkF m 49 #[rv a1, iv (0 : Int32), iv (1 : Int32)] [(.int (0 : Int32))]) s₁ EF := fun t k => pre17 t (by
        refine XS.iloadN X13.here hx rfl (hb hby dI2_48) rfl ?_
        exact k)
    have hnr : Value.int (nar .boolean (0 : Int32)) = (.int (0 : Int32)) := by rfl
    obtain ⟨fs, hr, hrun, hended, hW, hsame⟩ := X13.leave (v := some (.int (0 : Int32))) (fun h => by rw [Bd.returns] at h; cases h)
    refine ⟨_, _, hEF ▸ pre18 _ (retN X13 hx (t := .boolean) Bd.returns (by simp) (hb hby dI2_49) (hnr ▸ hr)), hrun, hended, _, _, rfl, ?_, ⟨_, rfl⟩, hW, hsame.mono (by decide) (by decide)⟩
    show QI2 Z a1 cz fv c0 c1 r h0 n0 _ T13.heap _
    rw [e13]
    exact ⟨by rw [← hR]; simp [allD, digF, hc23], N13, rfl⟩
  have pre19 : Go p e below T8 (mkF m 26 #[rv a1, iv (1 : Int32), iv (0 : Int32)] []) s₁ EF := fun t k => pre10 t (XS.icmpNo X8.here hx rfl (hb hby dI2_23) rfl (flt hc23).1 k)
  have pre20 : Go p e below T8 (mkF m 28 #[rv a1, iv (1 : Int32), iv (0 : Int32)] [(.int (0 : Int32)), (.ref a1)]) s₁ EF := fun t k => pre19 t (by
      refine XS.aloadN X8.here hx rfl (hb hby dI2_26) rfl rfl ?_
      refine XS.iloadN X8.here hx rfl (hb hby dI2_27) rfl ?_
      exact k)
  obtain ⟨cq21, kq21, q21a, q21b, q21c⟩ := isOf hZ e8 SF.exa
  obtain ⟨_, _, ⟨T21, L21, k21, n21⟩, -, X21, ⟨Lc21, hQ21, l21, y21, z21⟩, st21⟩ := X8.virtualBack hx (y := mN10) (z := mN10) hown (mvT hZ (hw _ (mW 57 rfl))) (mvT hZ (hw _ (mW 58 rfl))) (notFace_of_selects (args := #[]) (mvT hZ (hw _ (mW 60 rfl)))) (mvT hZ (hw _ (mW 60 rfl))) (mvT hZ (hw _ (mW 59 rfl))) (by decide) (backOf (W := 0) (rmJC l Z a0 hw [] a1 (0 : Int32) cz fv [c0, c1] c0 h0 n0 Z0 O0 J0 SF (by decide) rfl) hZ (hw _ (mW 61 rfl)) (hw _ (mW 10 rfl)) (by decide) (by decide)) q21a q21c (g := (mkF m 28 #[rv a1, iv (1 : Int32), iv (0 : Int32)] [(.int (0 : Int32)), (.ref a1)])) rfl (by rw [hml]; rfl) (Steps.refl _) (argsL := [(.int (0 : Int32))]) (rest := []) (lenOf pdI2_1 rfl) rfl (Nat.le_of_eq rfl) (hb hby dI2_28) (fun _ _ => ⟨rfl, e8, wl rfl, wl rfl⟩)
  dsimp only [Pt.U, Pt.locs, Pt.cells, Pt.slots] at X21 l21 y21 z21 st21 hQ21
  subst l21 y21 z21
  obtain ⟨rfl, N21q, hq21⟩ := hQ21
  have N21 := Fr.app N8 N21q
  have pre22 : Go p e below T21 (mkF m 31 #[rv a1, iv (1 : Int32), iv (0 : Int32)] [(.int c0)]) s₁ EF := fun t k => pre20 t (st21.trans k)
  have e21 : T21.heap = h0 := hq21
  have pre23 : Go p e below T21 (mkF m 33 #[rv a1, iv (1 : Int32), iv (0 : Int32)] [(.int (57 : Int32)), (.int c0)]) s₁ EF := fun t k => pre22 t (by
      refine XS.bipush X21.here hx rfl (hb hby dI2_31) ?_
      exact k)
  by_cases hc33 : (57 : Int32) < c0
  · have pre24 : Go p e below T21 (mkF m 40 #[rv a1, iv (1 : Int32), iv (0 : Int32)] []) s₁ EF := fun t k => pre23 t (XS.icmpYes X21.here hx rfl (pc0 := 33) (pc' := 40) rfl (hb hby dI2_33) rfl (tlt hc33).2.2.1 (by decide) (by decide) k)
    have pre25 : Go p e below T21 (mkF m 6 #[rv a1, iv (0 : Int32), iv (1 : Int32)] [(.ref a1), (.int (1 : Int32))]) s₁ EF := fun t k => pre24 t (by
        refine XS.iconst X21.here hx rfl (hb hby dI2_40) ?_
        refine XS.istoreN X21.here hx rfl (hb hby dI2_41) rfl (l' := #[rv a1, iv (0 : Int32), iv (0 : Int32)]) rfl ?_
        refine XS.iinc X21.here hx rfl (hb hby dI2_42) rfl (l' := #[rv a1, iv (0 : Int32), iv (1 : Int32)]) rfl ?_
        refine XS.goto X21.here hx rfl (pc0 := 45) (pc' := 4) rfl (hb hby dI2_45) (by decide) (by decide) ?_
        refine XS.iloadN X21.here hx rfl (hb hby dI2_4) rfl ?_
        refine XS.aloadN X21.here hx rfl (hb hby dI2_5) rfl rfl ?_
        exact k)
    obtain ⟨cq26, kq26, q26a, q26b, q26c⟩ := isOf hZ e21 SF.exa
    obtain ⟨_, _, ⟨T26, L26, k26, n26⟩, -, X26, ⟨Lc26, hQ26, l26, y26, z26⟩, st26⟩ := X21.virtualBack hx (y := mN1) (z := mN1) hown (mvT hZ (hw _ (mW 33 rfl))) (mvT hZ (hw _ (mW 34 rfl))) (notFace_of_selects (args := #[]) (mvT hZ (hw _ (mW 36 rfl)))) (mvT hZ (hw _ (mW 36 rfl))) (mvT hZ (hw _ (mW 35 rfl))) (by decide) (backOf (W := 1) (rmJL l Z a0 hw [] a1 cz fv [c0, c1] (2 : Int32) h0 n0 Z0 O0 J0 SF (by rfl)) hZ (hw _ (mW 37 rfl)) (hw _ (mW 10 rfl)) (by decide) (by decide)) q26a q26c (g := (mkF m 6 #[rv a1, iv (0 : Int32), iv (1 : Int32)] [(.ref a1), (.int (1 : Int32))])) rfl (by rw [hml]; rfl) (Steps.refl _) (argsL := []) (rest := [(.int (1 : Int32))]) (lenOf pdI2_0 rfl) rfl (Nat.le_of_eq rfl) (hb hby dI2_6) (fun _ _ => ⟨rfl, e21, wl rfl, wl rfl⟩)
    dsimp only [Pt.U, Pt.locs, Pt.cells, Pt.slots] at X26 l26 y26 z26 st26 hQ26
    subst l26 y26 z26
    obtain ⟨rfl, N26q, hq26⟩ := hQ26
    have N26 := Fr.app N21 N26q
    have pre27 : Go p e below T26 (mkF m 9 #[rv a1, iv (0 : Int32), iv (1 : Int32)] [(.int (2 : Int32)), (.int (1 : Int32))]) s₁ EF := fun t k => pre25 t (st26.trans k)
    have e26 : T26.heap = h0 := hq26
    have pre28 : Go p e below T26 (mkF m 12 #[rv a1, iv (0 : Int32), iv (1 : Int32)] []) s₁ EF := fun t k => pre27 t (XS.icmpNo X26.here hx rfl (hb hby dI2_9) rfl (tlt (by decide : (1 : Int32) < (2 : Int32))).2.1 k)
    have pre29 : Go p e below T26 (mkF m 13 #[rv a1, iv (0 : Int32), iv (1 : Int32)] [(.int (0 : Int32))]) s₁ EF := fun t k => pre28 t (by
        refine XS.iloadN X26.here hx rfl (hb hby dI2_12) rfl ?_
        exact k)
    have pre30 : Go p e below T26 (mkF m 48 #[rv a1, iv (0 : Int32), iv (1 : Int32)] []) s₁ EF := fun t k => pre29 t (XS.ifYes X26.here hx rfl (pc0 := 13) (pc' := 48) rfl (hb hby dI2_13) rfl ((if0 _ _).trans (teq (by decide : (0 : Int32) = (0 : Int32))).1) (by decide) (by decide) k)
    have pre31 : Go p e below T26 (mkF m 49 #[rv a1, iv (0 : Int32), iv (1 : Int32)] [(.int (0 : Int32))]) s₁ EF := fun t k => pre30 t (by
        refine XS.iloadN X26.here hx rfl (hb hby dI2_48) rfl ?_
        exact k)
    have hnr : Value.int (nar .boolean (0 : Int32)) = (.int (0 : Int32)) := by rfl
    obtain ⟨fs, hr, hrun, hended, hW, hsame⟩ := X26.leave (v := some (.int (0 : Int32))) (fun h => by rw [Bd.returns] at h; cases h)
    refine ⟨_, _, hEF ▸ pre31 _ (retN X26 hx (t := .boolean) Bd.returns (by simp) (hb hby dI2_49) (hnr ▸ hr)), hrun, hended, _, _, rfl, ?_, ⟨_, rfl⟩, hW, hsame.mono (by decide) (by decide)⟩
    show QI2 Z a1 cz fv c0 c1 r h0 n0 _ T26.heap _
    rw [e26]
    exact ⟨by rw [← hR]; simp [allD, digF, hc23, hc33], N26, rfl⟩
  have pre32 : Go p e below T21 (mkF m 36 #[rv a1, iv (1 : Int32), iv (0 : Int32)] []) s₁ EF := fun t k => pre23 t (XS.icmpNo X21.here hx rfl (hb hby dI2_33) rfl (flt hc33).2.2.1 k)
  have pre33 : Go p e below T21 (mkF m 6 #[rv a1, iv (1 : Int32), iv (1 : Int32)] [(.ref a1), (.int (1 : Int32))]) s₁ EF := fun t k => pre32 t (by
      refine XS.iconst X21.here hx rfl (hb hby dI2_36) ?_
      refine XS.goto X21.here hx rfl (pc0 := 37) (pc' := 41) rfl (hb hby dI2_37) (by decide) (by decide) ?_
      refine XS.istoreN X21.here hx rfl (hb hby dI2_41) rfl (l' := #[rv a1, iv (1 : Int32), iv (0 : Int32)]) rfl ?_
      refine XS.iinc X21.here hx rfl (hb hby dI2_42) rfl (l' := #[rv a1, iv (1 : Int32), iv (1 : Int32)]) rfl ?_
      refine XS.goto X21.here hx rfl (pc0 := 45) (pc' := 4) rfl (hb hby dI2_45) (by decide) (by decide) ?_
      refine XS.iloadN X21.here hx rfl (hb hby dI2_4) rfl ?_
      refine XS.aloadN X21.here hx rfl (hb hby dI2_5) rfl rfl ?_
      exact k)
  obtain ⟨cq34, kq34, q34a, q34b, q34c⟩ := isOf hZ e21 SF.exa
  obtain ⟨_, _, ⟨T34, L34, k34, n34⟩, -, X34, ⟨Lc34, hQ34, l34, y34, z34⟩, st34⟩ := X21.virtualBack hx (y := mN1) (z := mN1) hown (mvT hZ (hw _ (mW 33 rfl))) (mvT hZ (hw _ (mW 34 rfl))) (notFace_of_selects (args := #[]) (mvT hZ (hw _ (mW 36 rfl)))) (mvT hZ (hw _ (mW 36 rfl))) (mvT hZ (hw _ (mW 35 rfl))) (by decide) (backOf (W := 1) (rmJL l Z a0 hw [] a1 cz fv [c0, c1] (2 : Int32) h0 n0 Z0 O0 J0 SF (by rfl)) hZ (hw _ (mW 37 rfl)) (hw _ (mW 10 rfl)) (by decide) (by decide)) q34a q34c (g := (mkF m 6 #[rv a1, iv (1 : Int32), iv (1 : Int32)] [(.ref a1), (.int (1 : Int32))])) rfl (by rw [hml]; rfl) (Steps.refl _) (argsL := []) (rest := [(.int (1 : Int32))]) (lenOf pdI2_0 rfl) rfl (Nat.le_of_eq rfl) (hb hby dI2_6) (fun _ _ => ⟨rfl, e21, wl rfl, wl rfl⟩)
  dsimp only [Pt.U, Pt.locs, Pt.cells, Pt.slots] at X34 l34 y34 z34 st34 hQ34
  subst l34 y34 z34
  obtain ⟨rfl, N34q, hq34⟩ := hQ34
  have N34 := Fr.app N21 N34q
  have pre35 : Go p e below T34 (mkF m 9 #[rv a1, iv (1 : Int32), iv (1 : Int32)] [(.int (2 : Int32)), (.int (1 : Int32))]) s₁ EF := fun t k => pre33 t (st34.trans k)
  have e34 : T34.heap = h0 := hq34
  have pre36 : Go p e below T34 (mkF m 12 #[rv a1, iv (1 : Int32), iv (1 : Int32)] []) s₁ EF := fun t k => pre35 t (XS.icmpNo X34.here hx rfl (hb hby dI2_9) rfl (tlt (by decide : (1 : Int32) < (2 : Int32))).2.1 k)
  have pre37 : Go p e below T34 (mkF m 13 #[rv a1, iv (1 : Int32), iv (1 : Int32)] [(.int (1 : Int32))]) s₁ EF := fun t k => pre36 t (by
      refine XS.iloadN X34.here hx rfl (hb hby dI2_12) rfl ?_
      exact k)
  have pre38 : Go p e below T34 (mkF m 16 #[rv a1, iv (1 : Int32), iv (1 : Int32)] []) s₁ EF := fun t k => pre37 t (XS.ifNo X34.here hx rfl (hb hby dI2_13) rfl ((if0 _ _).trans (feq (by decide : ¬ ((1 : Int32) = (0 : Int32)))).1) k)
  have pre39 : Go p e below T34 (mkF m 18 #[rv a1, iv (1 : Int32), iv (1 : Int32)] [(.int (1 : Int32)), (.ref a1)]) s₁ EF := fun t k => pre38 t (by
      refine XS.aloadN X34.here hx rfl (hb hby dI2_16) rfl rfl ?_
      refine XS.iloadN X34.here hx rfl (hb hby dI2_17) rfl ?_
      exact k)
  obtain ⟨cq40, kq40, q40a, q40b, q40c⟩ := isOf hZ e34 SF.exa
  obtain ⟨_, _, ⟨T40, L40, k40, n40⟩, -, X40, ⟨Lc40, hQ40, l40, y40, z40⟩, st40⟩ := X34.virtualBack hx (y := mN10) (z := mN10) hown (mvT hZ (hw _ (mW 57 rfl))) (mvT hZ (hw _ (mW 58 rfl))) (notFace_of_selects (args := #[]) (mvT hZ (hw _ (mW 60 rfl)))) (mvT hZ (hw _ (mW 60 rfl))) (mvT hZ (hw _ (mW 59 rfl))) (by decide) (backOf (W := 0) (rmJC l Z a0 hw [] a1 (1 : Int32) cz fv [c0, c1] c1 h0 n0 Z0 O0 J0 SF (by decide) rfl) hZ (hw _ (mW 61 rfl)) (hw _ (mW 10 rfl)) (by decide) (by decide)) q40a q40c (g := (mkF m 18 #[rv a1, iv (1 : Int32), iv (1 : Int32)] [(.int (1 : Int32)), (.ref a1)])) rfl (by rw [hml]; rfl) (Steps.refl _) (argsL := [(.int (1 : Int32))]) (rest := []) (lenOf pdI2_1 rfl) rfl (Nat.le_of_eq rfl) (hb hby dI2_18) (fun _ _ => ⟨rfl, e34, wl rfl, wl rfl⟩)
  dsimp only [Pt.U, Pt.locs, Pt.cells, Pt.slots] at X40 l40 y40 z40 st40 hQ40
  subst l40 y40 z40
  obtain ⟨rfl, N40q, hq40⟩ := hQ40
  have N40 := Fr.app N34 N40q
  have pre41 : Go p e below T40 (mkF m 21 #[rv a1, iv (1 : Int32), iv (1 : Int32)] [(.int c1)]) s₁ EF := fun t k => pre39 t (st40.trans k)
  have e40 : T40.heap = h0 := hq40
  have pre42 : Go p e below T40 (mkF m 23 #[rv a1, iv (1 : Int32), iv (1 : Int32)] [(.int (48 : Int32)), (.int c1)]) s₁ EF := fun t k => pre41 t (by
      refine XS.bipush X40.here hx rfl (hb hby dI2_21) ?_
      exact k)
  by_cases hc23' : c1 < (48 : Int32)
  · have pre43 : Go p e below T40 (mkF m 40 #[rv a1, iv (1 : Int32), iv (1 : Int32)] []) s₁ EF := fun t k => pre42 t (XS.icmpYes X40.here hx rfl (pc0 := 23) (pc' := 40) rfl (hb hby dI2_23) rfl (tlt hc23').1 (by decide) (by decide) k)
    have pre44 : Go p e below T40 (mkF m 6 #[rv a1, iv (0 : Int32), iv (2 : Int32)] [(.ref a1), (.int (2 : Int32))]) s₁ EF := fun t k => pre43 t (by
        refine XS.iconst X40.here hx rfl (hb hby dI2_40) ?_
        refine XS.istoreN X40.here hx rfl (hb hby dI2_41) rfl (l' := #[rv a1, iv (0 : Int32), iv (1 : Int32)]) rfl ?_
        refine XS.iinc X40.here hx rfl (hb hby dI2_42) rfl (l' := #[rv a1, iv (0 : Int32), iv (2 : Int32)]) rfl ?_
        refine XS.goto X40.here hx rfl (pc0 := 45) (pc' := 4) rfl (hb hby dI2_45) (by decide) (by decide) ?_
        refine XS.iloadN X40.here hx rfl (hb hby dI2_4) rfl ?_
        refine XS.aloadN X40.here hx rfl (hb hby dI2_5) rfl rfl ?_
        exact k)
    obtain ⟨cq45, kq45, q45a, q45b, q45c⟩ := isOf hZ e40 SF.exa
    obtain ⟨_, _, ⟨T45, L45, k45, n45⟩, -, X45, ⟨Lc45, hQ45, l45, y45, z45⟩, st45⟩ := X40.virtualBack hx (y := mN1) (z := mN1) hown (mvT hZ (hw _ (mW 33 rfl))) (mvT hZ (hw _ (mW 34 rfl))) (notFace_of_selects (args := #[]) (mvT hZ (hw _ (mW 36 rfl)))) (mvT hZ (hw _ (mW 36 rfl))) (mvT hZ (hw _ (mW 35 rfl))) (by decide) (backOf (W := 1) (rmJL l Z a0 hw [] a1 cz fv [c0, c1] (2 : Int32) h0 n0 Z0 O0 J0 SF (by rfl)) hZ (hw _ (mW 37 rfl)) (hw _ (mW 10 rfl)) (by decide) (by decide)) q45a q45c (g := (mkF m 6 #[rv a1, iv (0 : Int32), iv (2 : Int32)] [(.ref a1), (.int (2 : Int32))])) rfl (by rw [hml]; rfl) (Steps.refl _) (argsL := []) (rest := [(.int (2 : Int32))]) (lenOf pdI2_0 rfl) rfl (Nat.le_of_eq rfl) (hb hby dI2_6) (fun _ _ => ⟨rfl, e40, wl rfl, wl rfl⟩)
    dsimp only [Pt.U, Pt.locs, Pt.cells, Pt.slots] at X45 l45 y45 z45 st45 hQ45
    subst l45 y45 z45
    obtain ⟨rfl, N45q, hq45⟩ := hQ45
    have N45 := Fr.app N40 N45q
    have pre46 : Go p e below T45 (mkF m 9 #[rv a1, iv (0 : Int32), iv (2 : Int32)] [(.int (2 : Int32)), (.int (2 : Int32))]) s₁ EF := fun t k => pre44 t (st45.trans k)
    have e45 : T45.heap = h0 := hq45
    have pre47 : Go p e below T45 (mkF m 48 #[rv a1, iv (0 : Int32), iv (2 : Int32)] []) s₁ EF := fun t k => pre46 t (XS.icmpYes X45.here hx rfl (pc0 := 9) (pc' := 48) rfl (hb hby dI2_9) rfl (flt (by decide : ¬ ((2 : Int32) < (2 : Int32)))).2.1 (by decide) (by decide) k)
    have pre48 : Go p e below T45 (mkF m 49 #[rv a1, iv (0 : Int32), iv (2 : Int32)] [(.int (0 : Int32))]) s₁ EF := fun t k => pre47 t (by
        refine XS.iloadN X45.here hx rfl (hb hby dI2_48) rfl ?_
        exact k)
    have hnr : Value.int (nar .boolean (0 : Int32)) = (.int (0 : Int32)) := by rfl
    obtain ⟨fs, hr, hrun, hended, hW, hsame⟩ := X45.leave (v := some (.int (0 : Int32))) (fun h => by rw [Bd.returns] at h; cases h)
    refine ⟨_, _, hEF ▸ pre48 _ (retN X45 hx (t := .boolean) Bd.returns (by simp) (hb hby dI2_49) (hnr ▸ hr)), hrun, hended, _, _, rfl, ?_, ⟨_, rfl⟩, hW, hsame.mono (by decide) (by decide)⟩
    show QI2 Z a1 cz fv c0 c1 r h0 n0 _ T45.heap _
    rw [e45]
    exact ⟨by rw [← hR]; simp [allD, digF, hc23, hc33, hc23'], N45, rfl⟩
  have pre49 : Go p e below T40 (mkF m 26 #[rv a1, iv (1 : Int32), iv (1 : Int32)] []) s₁ EF := fun t k => pre42 t (XS.icmpNo X40.here hx rfl (hb hby dI2_23) rfl (flt hc23').1 k)
  have pre50 : Go p e below T40 (mkF m 28 #[rv a1, iv (1 : Int32), iv (1 : Int32)] [(.int (1 : Int32)), (.ref a1)]) s₁ EF := fun t k => pre49 t (by
      refine XS.aloadN X40.here hx rfl (hb hby dI2_26) rfl rfl ?_
      refine XS.iloadN X40.here hx rfl (hb hby dI2_27) rfl ?_
      exact k)
  obtain ⟨cq51, kq51, q51a, q51b, q51c⟩ := isOf hZ e40 SF.exa
  obtain ⟨_, _, ⟨T51, L51, k51, n51⟩, -, X51, ⟨Lc51, hQ51, l51, y51, z51⟩, st51⟩ := X40.virtualBack hx (y := mN10) (z := mN10) hown (mvT hZ (hw _ (mW 57 rfl))) (mvT hZ (hw _ (mW 58 rfl))) (notFace_of_selects (args := #[]) (mvT hZ (hw _ (mW 60 rfl)))) (mvT hZ (hw _ (mW 60 rfl))) (mvT hZ (hw _ (mW 59 rfl))) (by decide) (backOf (W := 0) (rmJC l Z a0 hw [] a1 (1 : Int32) cz fv [c0, c1] c1 h0 n0 Z0 O0 J0 SF (by decide) rfl) hZ (hw _ (mW 61 rfl)) (hw _ (mW 10 rfl)) (by decide) (by decide)) q51a q51c (g := (mkF m 28 #[rv a1, iv (1 : Int32), iv (1 : Int32)] [(.int (1 : Int32)), (.ref a1)])) rfl (by rw [hml]; rfl) (Steps.refl _) (argsL := [(.int (1 : Int32))]) (rest := []) (lenOf pdI2_1 rfl) rfl (Nat.le_of_eq rfl) (hb hby dI2_28) (fun _ _ => ⟨rfl, e40, wl rfl, wl rfl⟩)
  dsimp only [Pt.U, Pt.locs, Pt.cells, Pt.slots] at X51 l51 y51 z51 st51 hQ51
  subst l51 y51 z51
  obtain ⟨rfl, N51q, hq51⟩ := hQ51
  have N51 := Fr.app N40 N51q
  have pre52 : Go p e below T51 (mkF m 31 #[rv a1, iv (1 : Int32), iv (1 : Int32)] [(.int c1)]) s₁ EF := fun t k => pre50 t (st51.trans k)
  have e51 : T51.heap = h0 := hq51
  have pre53 : Go p e below T51 (mkF m 33 #[rv a1, iv (1 : Int32), iv (1 : Int32)] [(.int (57 : Int32)), (.int c1)]) s₁ EF := fun t k => pre52 t (by
      refine XS.bipush X51.here hx rfl (hb hby dI2_31) ?_
      exact k)
  by_cases hc33' : (57 : Int32) < c1
  · have pre54 : Go p e below T51 (mkF m 40 #[rv a1, iv (1 : Int32), iv (1 : Int32)] []) s₁ EF := fun t k => pre53 t (XS.icmpYes X51.here hx rfl (pc0 := 33) (pc' := 40) rfl (hb hby dI2_33) rfl (tlt hc33').2.2.1 (by decide) (by decide) k)
    have pre55 : Go p e below T51 (mkF m 6 #[rv a1, iv (0 : Int32), iv (2 : Int32)] [(.ref a1), (.int (2 : Int32))]) s₁ EF := fun t k => pre54 t (by
        refine XS.iconst X51.here hx rfl (hb hby dI2_40) ?_
        refine XS.istoreN X51.here hx rfl (hb hby dI2_41) rfl (l' := #[rv a1, iv (0 : Int32), iv (1 : Int32)]) rfl ?_
        refine XS.iinc X51.here hx rfl (hb hby dI2_42) rfl (l' := #[rv a1, iv (0 : Int32), iv (2 : Int32)]) rfl ?_
        refine XS.goto X51.here hx rfl (pc0 := 45) (pc' := 4) rfl (hb hby dI2_45) (by decide) (by decide) ?_
        refine XS.iloadN X51.here hx rfl (hb hby dI2_4) rfl ?_
        refine XS.aloadN X51.here hx rfl (hb hby dI2_5) rfl rfl ?_
        exact k)
    obtain ⟨cq56, kq56, q56a, q56b, q56c⟩ := isOf hZ e51 SF.exa
    obtain ⟨_, _, ⟨T56, L56, k56, n56⟩, -, X56, ⟨Lc56, hQ56, l56, y56, z56⟩, st56⟩ := X51.virtualBack hx (y := mN1) (z := mN1) hown (mvT hZ (hw _ (mW 33 rfl))) (mvT hZ (hw _ (mW 34 rfl))) (notFace_of_selects (args := #[]) (mvT hZ (hw _ (mW 36 rfl)))) (mvT hZ (hw _ (mW 36 rfl))) (mvT hZ (hw _ (mW 35 rfl))) (by decide) (backOf (W := 1) (rmJL l Z a0 hw [] a1 cz fv [c0, c1] (2 : Int32) h0 n0 Z0 O0 J0 SF (by rfl)) hZ (hw _ (mW 37 rfl)) (hw _ (mW 10 rfl)) (by decide) (by decide)) q56a q56c (g := (mkF m 6 #[rv a1, iv (0 : Int32), iv (2 : Int32)] [(.ref a1), (.int (2 : Int32))])) rfl (by rw [hml]; rfl) (Steps.refl _) (argsL := []) (rest := [(.int (2 : Int32))]) (lenOf pdI2_0 rfl) rfl (Nat.le_of_eq rfl) (hb hby dI2_6) (fun _ _ => ⟨rfl, e51, wl rfl, wl rfl⟩)
    dsimp only [Pt.U, Pt.locs, Pt.cells, Pt.slots] at X56 l56 y56 z56 st56 hQ56
    subst l56 y56 z56
    obtain ⟨rfl, N56q, hq56⟩ := hQ56
    have N56 := Fr.app N51 N56q
    have pre57 : Go p e below T56 (mkF m 9 #[rv a1, iv (0 : Int32), iv (2 : Int32)] [(.int (2 : Int32)), (.int (2 : Int32))]) s₁ EF := fun t k => pre55 t (st56.trans k)
    have e56 : T56.heap = h0 := hq56
    have pre58 : Go p e below T56 (mkF m 48 #[rv a1, iv (0 : Int32), iv (2 : Int32)] []) s₁ EF := fun t k => pre57 t (XS.icmpYes X56.here hx rfl (pc0 := 9) (pc' := 48) rfl (hb hby dI2_9) rfl (flt (by decide : ¬ ((2 : Int32) < (2 : Int32)))).2.1 (by decide) (by decide) k)
    have pre59 : Go p e below T56 (mkF m 49 #[rv a1, iv (0 : Int32), iv (2 : Int32)] [(.int (0 : Int32))]) s₁ EF := fun t k => pre58 t (by
        refine XS.iloadN X56.here hx rfl (hb hby dI2_48) rfl ?_
        exact k)
    have hnr : Value.int (nar .boolean (0 : Int32)) = (.int (0 : Int32)) := by rfl
    obtain ⟨fs, hr, hrun, hended, hW, hsame⟩ := X56.leave (v := some (.int (0 : Int32))) (fun h => by rw [Bd.returns] at h; cases h)
    refine ⟨_, _, hEF ▸ pre59 _ (retN X56 hx (t := .boolean) Bd.returns (by simp) (hb hby dI2_49) (hnr ▸ hr)), hrun, hended, _, _, rfl, ?_, ⟨_, rfl⟩, hW, hsame.mono (by decide) (by decide)⟩
    show QI2 Z a1 cz fv c0 c1 r h0 n0 _ T56.heap _
    rw [e56]
    exact ⟨by rw [← hR]; simp [allD, digF, hc23, hc33, hc23', hc33'], N56, rfl⟩
  have pre60 : Go p e below T51 (mkF m 36 #[rv a1, iv (1 : Int32), iv (1 : Int32)] []) s₁ EF := fun t k => pre53 t (XS.icmpNo X51.here hx rfl (hb hby dI2_33) rfl (flt hc33').2.2.1 k)
  have pre61 : Go p e below T51 (mkF m 6 #[rv a1, iv (1 : Int32), iv (2 : Int32)] [(.ref a1), (.int (2 : Int32))]) s₁ EF := fun t k => pre60 t (by
      refine XS.iconst X51.here hx rfl (hb hby dI2_36) ?_
      refine XS.goto X51.here hx rfl (pc0 := 37) (pc' := 41) rfl (hb hby dI2_37) (by decide) (by decide) ?_
      refine XS.istoreN X51.here hx rfl (hb hby dI2_41) rfl (l' := #[rv a1, iv (1 : Int32), iv (1 : Int32)]) rfl ?_
      refine XS.iinc X51.here hx rfl (hb hby dI2_42) rfl (l' := #[rv a1, iv (1 : Int32), iv (2 : Int32)]) rfl ?_
      refine XS.goto X51.here hx rfl (pc0 := 45) (pc' := 4) rfl (hb hby dI2_45) (by decide) (by decide) ?_
      refine XS.iloadN X51.here hx rfl (hb hby dI2_4) rfl ?_
      refine XS.aloadN X51.here hx rfl (hb hby dI2_5) rfl rfl ?_
      exact k)
  obtain ⟨cq62, kq62, q62a, q62b, q62c⟩ := isOf hZ e51 SF.exa
  obtain ⟨_, _, ⟨T62, L62, k62, n62⟩, -, X62, ⟨Lc62, hQ62, l62, y62, z62⟩, st62⟩ := X51.virtualBack hx (y := mN1) (z := mN1) hown (mvT hZ (hw _ (mW 33 rfl))) (mvT hZ (hw _ (mW 34 rfl))) (notFace_of_selects (args := #[]) (mvT hZ (hw _ (mW 36 rfl)))) (mvT hZ (hw _ (mW 36 rfl))) (mvT hZ (hw _ (mW 35 rfl))) (by decide) (backOf (W := 1) (rmJL l Z a0 hw [] a1 cz fv [c0, c1] (2 : Int32) h0 n0 Z0 O0 J0 SF (by rfl)) hZ (hw _ (mW 37 rfl)) (hw _ (mW 10 rfl)) (by decide) (by decide)) q62a q62c (g := (mkF m 6 #[rv a1, iv (1 : Int32), iv (2 : Int32)] [(.ref a1), (.int (2 : Int32))])) rfl (by rw [hml]; rfl) (Steps.refl _) (argsL := []) (rest := [(.int (2 : Int32))]) (lenOf pdI2_0 rfl) rfl (Nat.le_of_eq rfl) (hb hby dI2_6) (fun _ _ => ⟨rfl, e51, wl rfl, wl rfl⟩)
  dsimp only [Pt.U, Pt.locs, Pt.cells, Pt.slots] at X62 l62 y62 z62 st62 hQ62
  subst l62 y62 z62
  obtain ⟨rfl, N62q, hq62⟩ := hQ62
  have N62 := Fr.app N51 N62q
  have pre63 : Go p e below T62 (mkF m 9 #[rv a1, iv (1 : Int32), iv (2 : Int32)] [(.int (2 : Int32)), (.int (2 : Int32))]) s₁ EF := fun t k => pre61 t (st62.trans k)
  have e62 : T62.heap = h0 := hq62
  have pre64 : Go p e below T62 (mkF m 48 #[rv a1, iv (1 : Int32), iv (2 : Int32)] []) s₁ EF := fun t k => pre63 t (XS.icmpYes X62.here hx rfl (pc0 := 9) (pc' := 48) rfl (hb hby dI2_9) rfl (flt (by decide : ¬ ((2 : Int32) < (2 : Int32)))).2.1 (by decide) (by decide) k)
  have pre65 : Go p e below T62 (mkF m 49 #[rv a1, iv (1 : Int32), iv (2 : Int32)] [(.int (1 : Int32))]) s₁ EF := fun t k => pre64 t (by
      refine XS.iloadN X62.here hx rfl (hb hby dI2_48) rfl ?_
      exact k)
  have hnr : Value.int (nar .boolean (1 : Int32)) = (.int (1 : Int32)) := by rfl
  obtain ⟨fs, hr, hrun, hended, hW, hsame⟩ := X62.leave (v := some (.int (1 : Int32))) (fun h => by rw [Bd.returns] at h; cases h)
  refine ⟨_, _, hEF ▸ pre65 _ (retN X62 hx (t := .boolean) Bd.returns (by simp) (hb hby dI2_49) (hnr ▸ hr)), hrun, hended, _, _, rfl, ?_, ⟨_, rfl⟩, hW, hsame.mono (by decide) (by decide)⟩
  show QI2 Z a1 cz fv c0 c1 r h0 n0 _ T62.heap _
  rw [e62]
  exact ⟨by rw [← hR]; simp [allD, digF, hc23, hc33, hc23', hc33'], N62, rfl⟩
abbrev rKI3 : Room := { frames := 5, cells := 0, slots := 0, locals := 66 }
theorem dI3_0 : decode prog_23_method_4_code 0 = .ok (.iconst 1, 1) := by decide +kernel
theorem dI3_1 : decode prog_23_method_4_code 1 = .ok (.istore_n 1, 1) := by decide +kernel
theorem dI3_2 : decode prog_23_method_4_code 2 = .ok (.iconst 0, 1) := by decide +kernel
theorem dI3_3 : decode prog_23_method_4_code 3 = .ok (.istore_n 2, 1) := by decide +kernel
theorem dI3_4 : decode prog_23_method_4_code 4 = .ok (.iload_n 2, 1) := by decide +kernel
theorem dI3_5 : decode prog_23_method_4_code 5 = .ok (.aload_n 0, 1) := by decide +kernel
theorem dI3_6 : decode prog_23_method_4_code 6 = .ok (.invokevirtual 7, 3) := by decide +kernel
theorem dI3_9 : decode prog_23_method_4_code 9 = .ok (.if_icmp .ge 39, 3) := by decide +kernel
theorem dI3_12 : decode prog_23_method_4_code 12 = .ok (.iload_n 1, 1) := by decide +kernel
theorem dI3_13 : decode prog_23_method_4_code 13 = .ok (.ifCond .eq 35, 3) := by decide +kernel
theorem dI3_16 : decode prog_23_method_4_code 16 = .ok (.aload_n 0, 1) := by decide +kernel
theorem dI3_17 : decode prog_23_method_4_code 17 = .ok (.iload_n 2, 1) := by decide +kernel
theorem dI3_18 : decode prog_23_method_4_code 18 = .ok (.invokevirtual 13, 3) := by decide +kernel
theorem dI3_21 : decode prog_23_method_4_code 21 = .ok (.bipush 48, 2) := by decide +kernel
theorem dI3_23 : decode prog_23_method_4_code 23 = .ok (.if_icmp .lt 17, 3) := by decide +kernel
theorem dI3_26 : decode prog_23_method_4_code 26 = .ok (.aload_n 0, 1) := by decide +kernel
theorem dI3_27 : decode prog_23_method_4_code 27 = .ok (.iload_n 2, 1) := by decide +kernel
theorem dI3_28 : decode prog_23_method_4_code 28 = .ok (.invokevirtual 13, 3) := by decide +kernel
theorem dI3_31 : decode prog_23_method_4_code 31 = .ok (.bipush 57, 2) := by decide +kernel
theorem dI3_33 : decode prog_23_method_4_code 33 = .ok (.if_icmp .gt 7, 3) := by decide +kernel
theorem dI3_36 : decode prog_23_method_4_code 36 = .ok (.iconst 1, 1) := by decide +kernel
theorem dI3_37 : decode prog_23_method_4_code 37 = .ok (.goto 4, 3) := by decide +kernel
theorem dI3_40 : decode prog_23_method_4_code 40 = .ok (.iconst 0, 1) := by decide +kernel
theorem dI3_41 : decode prog_23_method_4_code 41 = .ok (.istore_n 1, 1) := by decide +kernel
theorem dI3_42 : decode prog_23_method_4_code 42 = .ok (.iinc 2 1, 3) := by decide +kernel
theorem dI3_45 : decode prog_23_method_4_code 45 = .ok (.goto (-41), 3) := by decide +kernel
theorem dI3_48 : decode prog_23_method_4_code 48 = .ok (.iload_n 1, 1) := by decide +kernel
theorem dI3_49 : decode prog_23_method_4_code 49 = .ok (.ireturn, 1) := by decide +kernel
theorem pnI3 : plainName "com/example/oxpecker/oxpecker/http/UriCharacters" = true := by first | (simp [plainName, overriddenIn]; done) | decide +kernel
theorem pdI3_0 : parseMethodDescriptor "()I" = some ⟨[], some .int⟩ := by decide +kernel
theorem pdI3_1 : parseMethodDescriptor "(I)C" = some ⟨[.int], some .char⟩ := by decide +kernel
theorem efI3 (m : MethodId) (a1 : Addr) : entryFrame m #[(.ref a1)] 3 = mkF m 0 #[rv a1, .unset, .unset] [] := by first | (simp [entryFrame, mkF, argsToLocals, Value.category]; done) | rfl
def QI3 (Z : State) (a1 : Addr) (cz : Int32) (fv : Value) (c0 : Int32) (c1 : Int32) (c2 : Int32) (r : Int32) (h0 : Heap) (n0 : Nat) (v : Option Value) (h : Heap) (L : List Loc) : Prop := v = some (.int r) ∧ Fr n0 L ∧ h = h0
set_option maxRecDepth 65536 in
set_option maxHeartbeats 40000000 in
theorem rmI3 (l : Launch) (Z : State) (a0 : Array Value) (hw : ∀ d ∈ tables_1, d.before a0 Z = true) (ws : List Jvm.Cond) (a1 : Addr) (cz : Int32) (fv : Value) (c0 : Int32) (c1 : Int32) (c2 : Int32) (r : Int32) (h0 : Heap) (n0 : Nat) (Z0 : n0 ≤ h0.size) (O0 : Old Z n0 h0) (J0 : Jd Z cz fv) (SF : Str Z h0 a1 [c0, c1, c2]) (hR : allD [c0, c1, c2] = r) :
    MetFree l mN22 (head1 (Jvm.Cond.code mN22 prog_23_method_4_code 3 (some .boolean) :: ws) rKI3) (fun a U => a = #[(.ref a1)] ∧ Z.Warmed39 U.vm ∧ U.heap = h0) (fun _ _ _ _ _ => True) (fun _ U o U' => ∃ v L, o = .returned v ∧ QI3 Z a1 cz fv c0 c1 c2 r h0 n0 v U'.heap L ∧ FrameEnd U o U' L rKI3.cells rKI3.slots) := by
  refine MetFree.of_bodySF (plainFor_of_name pnI3) hisR ?_
  intro p e s m args below meth c s₁ Bd hml0 hP hK
  obtain ⟨rfl, hZ, hh⟩ := hP
  have hx := Bd.exec
  have hby := Bd.bytes
  have hml : c.maxLocals = 3 := hml0
  have hown : s.vm.findClass "com/example/oxpecker/oxpecker/http/UriCharacters" = some m.cls := findClass_of_methodNamed Bd.named
  have hnm := (name_of_methodNamed Bd.named Bd.method).1
  have X0 : Stand p l e rKI3 s m #[(.ref a1)] below meth c s₁ [] 0 0 := Stand.of_body Bd
  have e0 : s₁.heap = h0 := by rw [← hh, Bd.state]; rfl
  have N0 := Fr.nil n0
  obtain ⟨EF, hEF⟩ : ∃ f, f = entryFrame m #[(.ref a1)] 3 := ⟨_, rfl⟩
  have pre0 : Go p e below s₁ (mkF m 0 #[rv a1, .unset, .unset] []) s₁ EF := fun t k => by rw [hEF]; exact castTop (efI3 m a1) k
  have pre1 : Go p e below s₁ (mkF m 6 #[rv a1, iv (1 : Int32), iv (0 : Int32)] [(.ref a1), (.int (0 : Int32))]) s₁ EF := fun t k => pre0 t (by
      refine XS.iconst X0.here hx rfl (hb hby dI3_0) ?_
      refine XS.istoreN X0.here hx rfl (hb hby dI3_1) rfl (l' := #[rv a1, iv (1 : Int32), .unset]) rfl ?_
      refine XS.iconst X0.here hx rfl (hb hby dI3_2) ?_
      refine XS.istoreN X0.here hx rfl (hb hby dI3_3) rfl (l' := #[rv a1, iv (1 : Int32), iv (0 : Int32)]) rfl ?_
      refine XS.iloadN X0.here hx rfl (hb hby dI3_4) rfl ?_
      refine XS.aloadN X0.here hx rfl (hb hby dI3_5) rfl rfl ?_
      exact k)
  obtain ⟨cq2, kq2, q2a, q2b, q2c⟩ := isOf hZ e0 SF.exa
  obtain ⟨_, _, ⟨T2, L2, k2, n2⟩, -, X2, ⟨Lc2, hQ2, l2, y2, z2⟩, st2⟩ := X0.virtualBack hx (y := mN1) (z := mN1) hown (mvT hZ (hw _ (mW 33 rfl))) (mvT hZ (hw _ (mW 34 rfl))) (notFace_of_selects (args := #[]) (mvT hZ (hw _ (mW 36 rfl)))) (mvT hZ (hw _ (mW 36 rfl))) (mvT hZ (hw _ (mW 35 rfl))) (by decide) (backOf (W := 1) (rmJL l Z a0 hw [] a1 cz fv [c0, c1, c2] (3 : Int32) h0 n0 Z0 O0 J0 SF (by rfl)) hZ (hw _ (mW 37 rfl)) (hw _ (mW 10 rfl)) (by decide) (by decide)) q2a q2c (g := (mkF m 6 #[rv a1, iv (1 : Int32), iv (0 : Int32)] [(.ref a1), (.int (0 : Int32))])) rfl (by rw [hml]; rfl) (Steps.refl _) (argsL := []) (rest := [(.int (0 : Int32))]) (lenOf pdI3_0 rfl) rfl (Nat.le_of_eq rfl) (hb hby dI3_6) (fun _ _ => ⟨rfl, e0, wl rfl, wl rfl⟩)
  dsimp only [Pt.U, Pt.locs, Pt.cells, Pt.slots] at X2 l2 y2 z2 st2 hQ2
  subst l2 y2 z2
  obtain ⟨rfl, N2q, hq2⟩ := hQ2
  have N2 := Fr.app N0 N2q
  have pre3 : Go p e below T2 (mkF m 9 #[rv a1, iv (1 : Int32), iv (0 : Int32)] [(.int (3 : Int32)), (.int (0 : Int32))]) s₁ EF := fun t k => pre1 t (st2.trans k)
  have e2 : T2.heap = h0 := hq2
  have pre4 : Go p e below T2 (mkF m 12 #[rv a1, iv (1 : Int32), iv (0 : Int32)] []) s₁ EF := fun t k => pre3 t (XS.icmpNo X2.here hx rfl (hb hby dI3_9) rfl (tlt (by decide : (0 : Int32) < (3 : Int32))).2.1 k)
  have pre5 : Go p e below T2 (mkF m 13 #[rv a1, iv (1 : Int32), iv (0 : Int32)] [(.int (1 : Int32))]) s₁ EF := fun t k => pre4 t (by
      refine XS.iloadN X2.here hx rfl (hb hby dI3_12) rfl ?_
      exact k)
  have pre6 : Go p e below T2 (mkF m 16 #[rv a1, iv (1 : Int32), iv (0 : Int32)] []) s₁ EF := fun t k => pre5 t (XS.ifNo X2.here hx rfl (hb hby dI3_13) rfl ((if0 _ _).trans (feq (by decide : ¬ ((1 : Int32) = (0 : Int32)))).1) k)
  have pre7 : Go p e below T2 (mkF m 18 #[rv a1, iv (1 : Int32), iv (0 : Int32)] [(.int (0 : Int32)), (.ref a1)]) s₁ EF := fun t k => pre6 t (by
      refine XS.aloadN X2.here hx rfl (hb hby dI3_16) rfl rfl ?_
      refine XS.iloadN X2.here hx rfl (hb hby dI3_17) rfl ?_
      exact k)
  obtain ⟨cq8, kq8, q8a, q8b, q8c⟩ := isOf hZ e2 SF.exa
  obtain ⟨_, _, ⟨T8, L8, k8, n8⟩, -, X8, ⟨Lc8, hQ8, l8, y8, z8⟩, st8⟩ := X2.virtualBack hx (y := mN10) (z := mN10) hown (mvT hZ (hw _ (mW 57 rfl))) (mvT hZ (hw _ (mW 58 rfl))) (notFace_of_selects (args := #[]) (mvT hZ (hw _ (mW 60 rfl)))) (mvT hZ (hw _ (mW 60 rfl))) (mvT hZ (hw _ (mW 59 rfl))) (by decide) (backOf (W := 0) (rmJC l Z a0 hw [] a1 (0 : Int32) cz fv [c0, c1, c2] c0 h0 n0 Z0 O0 J0 SF (by decide) rfl) hZ (hw _ (mW 61 rfl)) (hw _ (mW 10 rfl)) (by decide) (by decide)) q8a q8c (g := (mkF m 18 #[rv a1, iv (1 : Int32), iv (0 : Int32)] [(.int (0 : Int32)), (.ref a1)])) rfl (by rw [hml]; rfl) (Steps.refl _) (argsL := [(.int (0 : Int32))]) (rest := []) (lenOf pdI3_1 rfl) rfl (Nat.le_of_eq rfl) (hb hby dI3_18) (fun _ _ => ⟨rfl, e2, wl rfl, wl rfl⟩)
  dsimp only [Pt.U, Pt.locs, Pt.cells, Pt.slots] at X8 l8 y8 z8 st8 hQ8
  subst l8 y8 z8
  obtain ⟨rfl, N8q, hq8⟩ := hQ8
  have N8 := Fr.app N2 N8q
  have pre9 : Go p e below T8 (mkF m 21 #[rv a1, iv (1 : Int32), iv (0 : Int32)] [(.int c0)]) s₁ EF := fun t k => pre7 t (st8.trans k)
  have e8 : T8.heap = h0 := hq8
  have pre10 : Go p e below T8 (mkF m 23 #[rv a1, iv (1 : Int32), iv (0 : Int32)] [(.int (48 : Int32)), (.int c0)]) s₁ EF := fun t k => pre9 t (by
      refine XS.bipush X8.here hx rfl (hb hby dI3_21) ?_
      exact k)
  by_cases hc23 : c0 < (48 : Int32)
  · have pre11 : Go p e below T8 (mkF m 40 #[rv a1, iv (1 : Int32), iv (0 : Int32)] []) s₁ EF := fun t k => pre10 t (XS.icmpYes X8.here hx rfl (pc0 := 23) (pc' := 40) rfl (hb hby dI3_23) rfl (tlt hc23).1 (by decide) (by decide) k)
    have pre12 : Go p e below T8 (mkF m 6 #[rv a1, iv (0 : Int32), iv (1 : Int32)] [(.ref a1), (.int (1 : Int32))]) s₁ EF := fun t k => pre11 t (by
        refine XS.iconst X8.here hx rfl (hb hby dI3_40) ?_
        refine XS.istoreN X8.here hx rfl (hb hby dI3_41) rfl (l' := #[rv a1, iv (0 : Int32), iv (0 : Int32)]) rfl ?_
        refine XS.iinc X8.here hx rfl (hb hby dI3_42) rfl (l' := #[rv a1, iv (0 : Int32), iv (1 : Int32)]) rfl ?_
        refine XS.goto X8.here hx rfl (pc0 := 45) (pc' := 4) rfl (hb hby dI3_45) (by decide) (by decide) ?_
        refine XS.iloadN X8.here hx rfl (hb hby dI3_4) rfl ?_
        refine XS.aloadN X8.here hx rfl (hb hby dI3_5) rfl rfl ?_
        exact k)
    obtain ⟨cq13, kq13, q13a, q13b, q13c⟩ := isOf hZ e8 SF.exa
    obtain ⟨_, _, ⟨T13, L13, k13, n13⟩, -, X13, ⟨Lc13, hQ13, l13, y13, z13⟩, st13⟩ := X8.virtualBack hx (y := mN1) (z := mN1) hown (mvT hZ (hw _ (mW 33 rfl))) (mvT hZ (hw _ (mW 34 rfl))) (notFace_of_selects (args := #[]) (mvT hZ (hw _ (mW 36 rfl)))) (mvT hZ (hw _ (mW 36 rfl))) (mvT hZ (hw _ (mW 35 rfl))) (by decide) (backOf (W := 1) (rmJL l Z a0 hw [] a1 cz fv [c0, c1, c2] (3 : Int32) h0 n0 Z0 O0 J0 SF (by rfl)) hZ (hw _ (mW 37 rfl)) (hw _ (mW 10 rfl)) (by decide) (by decide)) q13a q13c (g := (mkF m 6 #[rv a1, iv (0 : Int32), iv (1 : Int32)] [(.ref a1), (.int (1 : Int32))])) rfl (by rw [hml]; rfl) (Steps.refl _) (argsL := []) (rest := [(.int (1 : Int32))]) (lenOf pdI3_0 rfl) rfl (Nat.le_of_eq rfl) (hb hby dI3_6) (fun _ _ => ⟨rfl, e8, wl rfl, wl rfl⟩)
    dsimp only [Pt.U, Pt.locs, Pt.cells, Pt.slots] at X13 l13 y13 z13 st13 hQ13
    subst l13 y13 z13
    obtain ⟨rfl, N13q, hq13⟩ := hQ13
    have N13 := Fr.app N8 N13q
    have pre14 : Go p e below T13 (mkF m 9 #[rv a1, iv (0 : Int32), iv (1 : Int32)] [(.int (3 : Int32)), (.int (1 : Int32))]) s₁ EF := fun t k => pre12 t (st13.trans k)
    have e13 : T13.heap = h0 := hq13
    have pre15 : Go p e below T13 (mkF m 12 #[rv a1, iv (0 : Int32), iv (1 : Int32)] []) s₁ EF := fun t k => pre14 t (XS.icmpNo X13.here hx rfl (hb hby dI3_9) rfl (tlt (by decide : (1 : Int32) < (3 : Int32))).2.1 k)
    have pre16 : Go p e below T13 (mkF m 13 #[rv a1, iv (0 : Int32), iv (1 : Int32)] [(.int (0 : Int32))]) s₁ EF := fun t k => pre15 t (by
        refine XS.iloadN X13.here hx rfl (hb hby dI3_12) rfl ?_
        exact k)
    have pre17 : Go p e below T13 (mkF m 48 #[rv a1, iv (0 : Int32), iv (1 : Int32)] []) s₁ EF := fun t k => pre16 t (XS.ifYes X13.here hx rfl (pc0 := 13) (pc' := 48) rfl (hb hby dI3_13) rfl ((if0 _ _).trans (teq (by decide : (0 : Int32) = (0 : Int32))).1) (by decide) (by decide) k)
    have pre18 : Go p e below T13 (mkF m 49 #[rv a1, iv (0 : Int32), iv (1 : Int32)] [(.int (0 : Int32))]) s₁ EF := fun t k => pre17 t (by
        refine XS.iloadN X13.here hx rfl (hb hby dI3_48) rfl ?_
        exact k)
    have hnr : Value.int (nar .boolean (0 : Int32)) = (.int (0 : Int32)) := by rfl
    obtain ⟨fs, hr, hrun, hended, hW, hsame⟩ := X13.leave (v := some (.int (0 : Int32))) (fun h => by rw [Bd.returns] at h; cases h)
    refine ⟨_, _, hEF ▸ pre18 _ (retN X13 hx (t := .boolean) Bd.returns (by simp) (hb hby dI3_49) (hnr ▸ hr)), hrun, hended, _, _, rfl, ?_, ⟨_, rfl⟩, hW, hsame.mono (by decide) (by decide)⟩
    show QI3 Z a1 cz fv c0 c1 c2 r h0 n0 _ T13.heap _
    rw [e13]
    exact ⟨by rw [← hR]; simp [allD, digF, hc23], N13, rfl⟩
  have pre19 : Go p e below T8 (mkF m 26 #[rv a1, iv (1 : Int32), iv (0 : Int32)] []) s₁ EF := fun t k => pre10 t (XS.icmpNo X8.here hx rfl (hb hby dI3_23) rfl (flt hc23).1 k)
  have pre20 : Go p e below T8 (mkF m 28 #[rv a1, iv (1 : Int32), iv (0 : Int32)] [(.int (0 : Int32)), (.ref a1)]) s₁ EF := fun t k => pre19 t (by
      refine XS.aloadN X8.here hx rfl (hb hby dI3_26) rfl rfl ?_
      refine XS.iloadN X8.here hx rfl (hb hby dI3_27) rfl ?_
      exact k)
  obtain ⟨cq21, kq21, q21a, q21b, q21c⟩ := isOf hZ e8 SF.exa
  obtain ⟨_, _, ⟨T21, L21, k21, n21⟩, -, X21, ⟨Lc21, hQ21, l21, y21, z21⟩, st21⟩ := X8.virtualBack hx (y := mN10) (z := mN10) hown (mvT hZ (hw _ (mW 57 rfl))) (mvT hZ (hw _ (mW 58 rfl))) (notFace_of_selects (args := #[]) (mvT hZ (hw _ (mW 60 rfl)))) (mvT hZ (hw _ (mW 60 rfl))) (mvT hZ (hw _ (mW 59 rfl))) (by decide) (backOf (W := 0) (rmJC l Z a0 hw [] a1 (0 : Int32) cz fv [c0, c1, c2] c0 h0 n0 Z0 O0 J0 SF (by decide) rfl) hZ (hw _ (mW 61 rfl)) (hw _ (mW 10 rfl)) (by decide) (by decide)) q21a q21c (g := (mkF m 28 #[rv a1, iv (1 : Int32), iv (0 : Int32)] [(.int (0 : Int32)), (.ref a1)])) rfl (by rw [hml]; rfl) (Steps.refl _) (argsL := [(.int (0 : Int32))]) (rest := []) (lenOf pdI3_1 rfl) rfl (Nat.le_of_eq rfl) (hb hby dI3_28) (fun _ _ => ⟨rfl, e8, wl rfl, wl rfl⟩)
  dsimp only [Pt.U, Pt.locs, Pt.cells, Pt.slots] at X21 l21 y21 z21 st21 hQ21
  subst l21 y21 z21
  obtain ⟨rfl, N21q, hq21⟩ := hQ21
  have N21 := Fr.app N8 N21q
  have pre22 : Go p e below T21 (mkF m 31 #[rv a1, iv (1 : Int32), iv (0 : Int32)] [(.int c0)]) s₁ EF := fun t k => pre20 t (st21.trans k)
  have e21 : T21.heap = h0 := hq21
  have pre23 : Go p e below T21 (mkF m 33 #[rv a1, iv (1 : Int32), iv (0 : Int32)] [(.int (57 : Int32)), (.int c0)]) s₁ EF := fun t k => pre22 t (by
      refine XS.bipush X21.here hx rfl (hb hby dI3_31) ?_
      exact k)
  by_cases hc33 : (57 : Int32) < c0
  · have pre24 : Go p e below T21 (mkF m 40 #[rv a1, iv (1 : Int32), iv (0 : Int32)] []) s₁ EF := fun t k => pre23 t (XS.icmpYes X21.here hx rfl (pc0 := 33) (pc' := 40) rfl (hb hby dI3_33) rfl (tlt hc33).2.2.1 (by decide) (by decide) k)
    have pre25 : Go p e below T21 (mkF m 6 #[rv a1, iv (0 : Int32), iv (1 : Int32)] [(.ref a1), (.int (1 : Int32))]) s₁ EF := fun t k => pre24 t (by
        refine XS.iconst X21.here hx rfl (hb hby dI3_40) ?_
        refine XS.istoreN X21.here hx rfl (hb hby dI3_41) rfl (l' := #[rv a1, iv (0 : Int32), iv (0 : Int32)]) rfl ?_
        refine XS.iinc X21.here hx rfl (hb hby dI3_42) rfl (l' := #[rv a1, iv (0 : Int32), iv (1 : Int32)]) rfl ?_
        refine XS.goto X21.here hx rfl (pc0 := 45) (pc' := 4) rfl (hb hby dI3_45) (by decide) (by decide) ?_
        refine XS.iloadN X21.here hx rfl (hb hby dI3_4) rfl ?_
        refine XS.aloadN X21.here hx rfl (hb hby dI3_5) rfl rfl ?_
        exact k)
    obtain ⟨cq26, kq26, q26a, q26b, q26c⟩ := isOf hZ e21 SF.exa
    obtain ⟨_, _, ⟨T26, L26, k26, n26⟩, -, X26, ⟨Lc26, hQ26, l26, y26, z26⟩, st26⟩ := X21.virtualBack hx (y := mN1) (z := mN1) hown (mvT hZ (hw _ (mW 33 rfl))) (mvT hZ (hw _ (mW 34 rfl))) (notFace_of_selects (args := #[]) (mvT hZ (hw _ (mW 36 rfl)))) (mvT hZ (hw _ (mW 36 rfl))) (mvT hZ (hw _ (mW 35 rfl))) (by decide) (backOf (W := 1) (rmJL l Z a0 hw [] a1 cz fv [c0, c1, c2] (3 : Int32) h0 n0 Z0 O0 J0 SF (by rfl)) hZ (hw _ (mW 37 rfl)) (hw _ (mW 10 rfl)) (by decide) (by decide)) q26a q26c (g := (mkF m 6 #[rv a1, iv (0 : Int32), iv (1 : Int32)] [(.ref a1), (.int (1 : Int32))])) rfl (by rw [hml]; rfl) (Steps.refl _) (argsL := []) (rest := [(.int (1 : Int32))]) (lenOf pdI3_0 rfl) rfl (Nat.le_of_eq rfl) (hb hby dI3_6) (fun _ _ => ⟨rfl, e21, wl rfl, wl rfl⟩)
    dsimp only [Pt.U, Pt.locs, Pt.cells, Pt.slots] at X26 l26 y26 z26 st26 hQ26
    subst l26 y26 z26
    obtain ⟨rfl, N26q, hq26⟩ := hQ26
    have N26 := Fr.app N21 N26q
    have pre27 : Go p e below T26 (mkF m 9 #[rv a1, iv (0 : Int32), iv (1 : Int32)] [(.int (3 : Int32)), (.int (1 : Int32))]) s₁ EF := fun t k => pre25 t (st26.trans k)
    have e26 : T26.heap = h0 := hq26
    have pre28 : Go p e below T26 (mkF m 12 #[rv a1, iv (0 : Int32), iv (1 : Int32)] []) s₁ EF := fun t k => pre27 t (XS.icmpNo X26.here hx rfl (hb hby dI3_9) rfl (tlt (by decide : (1 : Int32) < (3 : Int32))).2.1 k)
    have pre29 : Go p e below T26 (mkF m 13 #[rv a1, iv (0 : Int32), iv (1 : Int32)] [(.int (0 : Int32))]) s₁ EF := fun t k => pre28 t (by
        refine XS.iloadN X26.here hx rfl (hb hby dI3_12) rfl ?_
        exact k)
    have pre30 : Go p e below T26 (mkF m 48 #[rv a1, iv (0 : Int32), iv (1 : Int32)] []) s₁ EF := fun t k => pre29 t (XS.ifYes X26.here hx rfl (pc0 := 13) (pc' := 48) rfl (hb hby dI3_13) rfl ((if0 _ _).trans (teq (by decide : (0 : Int32) = (0 : Int32))).1) (by decide) (by decide) k)
    have pre31 : Go p e below T26 (mkF m 49 #[rv a1, iv (0 : Int32), iv (1 : Int32)] [(.int (0 : Int32))]) s₁ EF := fun t k => pre30 t (by
        refine XS.iloadN X26.here hx rfl (hb hby dI3_48) rfl ?_
        exact k)
    have hnr : Value.int (nar .boolean (0 : Int32)) = (.int (0 : Int32)) := by rfl
    obtain ⟨fs, hr, hrun, hended, hW, hsame⟩ := X26.leave (v := some (.int (0 : Int32))) (fun h => by rw [Bd.returns] at h; cases h)
    refine ⟨_, _, hEF ▸ pre31 _ (retN X26 hx (t := .boolean) Bd.returns (by simp) (hb hby dI3_49) (hnr ▸ hr)), hrun, hended, _, _, rfl, ?_, ⟨_, rfl⟩, hW, hsame.mono (by decide) (by decide)⟩
    show QI3 Z a1 cz fv c0 c1 c2 r h0 n0 _ T26.heap _
    rw [e26]
    exact ⟨by rw [← hR]; simp [allD, digF, hc23, hc33], N26, rfl⟩
  have pre32 : Go p e below T21 (mkF m 36 #[rv a1, iv (1 : Int32), iv (0 : Int32)] []) s₁ EF := fun t k => pre23 t (XS.icmpNo X21.here hx rfl (hb hby dI3_33) rfl (flt hc33).2.2.1 k)
  have pre33 : Go p e below T21 (mkF m 6 #[rv a1, iv (1 : Int32), iv (1 : Int32)] [(.ref a1), (.int (1 : Int32))]) s₁ EF := fun t k => pre32 t (by
      refine XS.iconst X21.here hx rfl (hb hby dI3_36) ?_
      refine XS.goto X21.here hx rfl (pc0 := 37) (pc' := 41) rfl (hb hby dI3_37) (by decide) (by decide) ?_
      refine XS.istoreN X21.here hx rfl (hb hby dI3_41) rfl (l' := #[rv a1, iv (1 : Int32), iv (0 : Int32)]) rfl ?_
      refine XS.iinc X21.here hx rfl (hb hby dI3_42) rfl (l' := #[rv a1, iv (1 : Int32), iv (1 : Int32)]) rfl ?_
      refine XS.goto X21.here hx rfl (pc0 := 45) (pc' := 4) rfl (hb hby dI3_45) (by decide) (by decide) ?_
      refine XS.iloadN X21.here hx rfl (hb hby dI3_4) rfl ?_
      refine XS.aloadN X21.here hx rfl (hb hby dI3_5) rfl rfl ?_
      exact k)
  obtain ⟨cq34, kq34, q34a, q34b, q34c⟩ := isOf hZ e21 SF.exa
  obtain ⟨_, _, ⟨T34, L34, k34, n34⟩, -, X34, ⟨Lc34, hQ34, l34, y34, z34⟩, st34⟩ := X21.virtualBack hx (y := mN1) (z := mN1) hown (mvT hZ (hw _ (mW 33 rfl))) (mvT hZ (hw _ (mW 34 rfl))) (notFace_of_selects (args := #[]) (mvT hZ (hw _ (mW 36 rfl)))) (mvT hZ (hw _ (mW 36 rfl))) (mvT hZ (hw _ (mW 35 rfl))) (by decide) (backOf (W := 1) (rmJL l Z a0 hw [] a1 cz fv [c0, c1, c2] (3 : Int32) h0 n0 Z0 O0 J0 SF (by rfl)) hZ (hw _ (mW 37 rfl)) (hw _ (mW 10 rfl)) (by decide) (by decide)) q34a q34c (g := (mkF m 6 #[rv a1, iv (1 : Int32), iv (1 : Int32)] [(.ref a1), (.int (1 : Int32))])) rfl (by rw [hml]; rfl) (Steps.refl _) (argsL := []) (rest := [(.int (1 : Int32))]) (lenOf pdI3_0 rfl) rfl (Nat.le_of_eq rfl) (hb hby dI3_6) (fun _ _ => ⟨rfl, e21, wl rfl, wl rfl⟩)
  dsimp only [Pt.U, Pt.locs, Pt.cells, Pt.slots] at X34 l34 y34 z34 st34 hQ34
  subst l34 y34 z34
  obtain ⟨rfl, N34q, hq34⟩ := hQ34
  have N34 := Fr.app N21 N34q
  have pre35 : Go p e below T34 (mkF m 9 #[rv a1, iv (1 : Int32), iv (1 : Int32)] [(.int (3 : Int32)), (.int (1 : Int32))]) s₁ EF := fun t k => pre33 t (st34.trans k)
  have e34 : T34.heap = h0 := hq34
  have pre36 : Go p e below T34 (mkF m 12 #[rv a1, iv (1 : Int32), iv (1 : Int32)] []) s₁ EF := fun t k => pre35 t (XS.icmpNo X34.here hx rfl (hb hby dI3_9) rfl (tlt (by decide : (1 : Int32) < (3 : Int32))).2.1 k)
  have pre37 : Go p e below T34 (mkF m 13 #[rv a1, iv (1 : Int32), iv (1 : Int32)] [(.int (1 : Int32))]) s₁ EF := fun t k => pre36 t (by
      refine XS.iloadN X34.here hx rfl (hb hby dI3_12) rfl ?_
      exact k)
  have pre38 : Go p e below T34 (mkF m 16 #[rv a1, iv (1 : Int32), iv (1 : Int32)] []) s₁ EF := fun t k => pre37 t (XS.ifNo X34.here hx rfl (hb hby dI3_13) rfl ((if0 _ _).trans (feq (by decide : ¬ ((1 : Int32) = (0 : Int32)))).1) k)
  have pre39 : Go p e below T34 (mkF m 18 #[rv a1, iv (1 : Int32), iv (1 : Int32)] [(.int (1 : Int32)), (.ref a1)]) s₁ EF := fun t k => pre38 t (by
      refine XS.aloadN X34.here hx rfl (hb hby dI3_16) rfl rfl ?_
      refine XS.iloadN X34.here hx rfl (hb hby dI3_17) rfl ?_
      exact k)
  obtain ⟨cq40, kq40, q40a, q40b, q40c⟩ := isOf hZ e34 SF.exa
  obtain ⟨_, _, ⟨T40, L40, k40, n40⟩, -, X40, ⟨Lc40, hQ40, l40, y40, z40⟩, st40⟩ := X34.virtualBack hx (y := mN10) (z := mN10) hown (mvT hZ (hw _ (mW 57 rfl))) (mvT hZ (hw _ (mW 58 rfl))) (notFace_of_selects (args := #[]) (mvT hZ (hw _ (mW 60 rfl)))) (mvT hZ (hw _ (mW 60 rfl))) (mvT hZ (hw _ (mW 59 rfl))) (by decide) (backOf (W := 0) (rmJC l Z a0 hw [] a1 (1 : Int32) cz fv [c0, c1, c2] c1 h0 n0 Z0 O0 J0 SF (by decide) rfl) hZ (hw _ (mW 61 rfl)) (hw _ (mW 10 rfl)) (by decide) (by decide)) q40a q40c (g := (mkF m 18 #[rv a1, iv (1 : Int32), iv (1 : Int32)] [(.int (1 : Int32)), (.ref a1)])) rfl (by rw [hml]; rfl) (Steps.refl _) (argsL := [(.int (1 : Int32))]) (rest := []) (lenOf pdI3_1 rfl) rfl (Nat.le_of_eq rfl) (hb hby dI3_18) (fun _ _ => ⟨rfl, e34, wl rfl, wl rfl⟩)
  dsimp only [Pt.U, Pt.locs, Pt.cells, Pt.slots] at X40 l40 y40 z40 st40 hQ40
  subst l40 y40 z40
  obtain ⟨rfl, N40q, hq40⟩ := hQ40
  have N40 := Fr.app N34 N40q
  have pre41 : Go p e below T40 (mkF m 21 #[rv a1, iv (1 : Int32), iv (1 : Int32)] [(.int c1)]) s₁ EF := fun t k => pre39 t (st40.trans k)
  have e40 : T40.heap = h0 := hq40
  have pre42 : Go p e below T40 (mkF m 23 #[rv a1, iv (1 : Int32), iv (1 : Int32)] [(.int (48 : Int32)), (.int c1)]) s₁ EF := fun t k => pre41 t (by
      refine XS.bipush X40.here hx rfl (hb hby dI3_21) ?_
      exact k)
  by_cases hc23' : c1 < (48 : Int32)
  · have pre43 : Go p e below T40 (mkF m 40 #[rv a1, iv (1 : Int32), iv (1 : Int32)] []) s₁ EF := fun t k => pre42 t (XS.icmpYes X40.here hx rfl (pc0 := 23) (pc' := 40) rfl (hb hby dI3_23) rfl (tlt hc23').1 (by decide) (by decide) k)
    have pre44 : Go p e below T40 (mkF m 6 #[rv a1, iv (0 : Int32), iv (2 : Int32)] [(.ref a1), (.int (2 : Int32))]) s₁ EF := fun t k => pre43 t (by
        refine XS.iconst X40.here hx rfl (hb hby dI3_40) ?_
        refine XS.istoreN X40.here hx rfl (hb hby dI3_41) rfl (l' := #[rv a1, iv (0 : Int32), iv (1 : Int32)]) rfl ?_
        refine XS.iinc X40.here hx rfl (hb hby dI3_42) rfl (l' := #[rv a1, iv (0 : Int32), iv (2 : Int32)]) rfl ?_
        refine XS.goto X40.here hx rfl (pc0 := 45) (pc' := 4) rfl (hb hby dI3_45) (by decide) (by decide) ?_
        refine XS.iloadN X40.here hx rfl (hb hby dI3_4) rfl ?_
        refine XS.aloadN X40.here hx rfl (hb hby dI3_5) rfl rfl ?_
        exact k)
    obtain ⟨cq45, kq45, q45a, q45b, q45c⟩ := isOf hZ e40 SF.exa
    obtain ⟨_, _, ⟨T45, L45, k45, n45⟩, -, X45, ⟨Lc45, hQ45, l45, y45, z45⟩, st45⟩ := X40.virtualBack hx (y := mN1) (z := mN1) hown (mvT hZ (hw _ (mW 33 rfl))) (mvT hZ (hw _ (mW 34 rfl))) (notFace_of_selects (args := #[]) (mvT hZ (hw _ (mW 36 rfl)))) (mvT hZ (hw _ (mW 36 rfl))) (mvT hZ (hw _ (mW 35 rfl))) (by decide) (backOf (W := 1) (rmJL l Z a0 hw [] a1 cz fv [c0, c1, c2] (3 : Int32) h0 n0 Z0 O0 J0 SF (by rfl)) hZ (hw _ (mW 37 rfl)) (hw _ (mW 10 rfl)) (by decide) (by decide)) q45a q45c (g := (mkF m 6 #[rv a1, iv (0 : Int32), iv (2 : Int32)] [(.ref a1), (.int (2 : Int32))])) rfl (by rw [hml]; rfl) (Steps.refl _) (argsL := []) (rest := [(.int (2 : Int32))]) (lenOf pdI3_0 rfl) rfl (Nat.le_of_eq rfl) (hb hby dI3_6) (fun _ _ => ⟨rfl, e40, wl rfl, wl rfl⟩)
    dsimp only [Pt.U, Pt.locs, Pt.cells, Pt.slots] at X45 l45 y45 z45 st45 hQ45
    subst l45 y45 z45
    obtain ⟨rfl, N45q, hq45⟩ := hQ45
    have N45 := Fr.app N40 N45q
    have pre46 : Go p e below T45 (mkF m 9 #[rv a1, iv (0 : Int32), iv (2 : Int32)] [(.int (3 : Int32)), (.int (2 : Int32))]) s₁ EF := fun t k => pre44 t (st45.trans k)
    have e45 : T45.heap = h0 := hq45
    have pre47 : Go p e below T45 (mkF m 12 #[rv a1, iv (0 : Int32), iv (2 : Int32)] []) s₁ EF := fun t k => pre46 t (XS.icmpNo X45.here hx rfl (hb hby dI3_9) rfl (tlt (by decide : (2 : Int32) < (3 : Int32))).2.1 k)
    have pre48 : Go p e below T45 (mkF m 13 #[rv a1, iv (0 : Int32), iv (2 : Int32)] [(.int (0 : Int32))]) s₁ EF := fun t k => pre47 t (by
        refine XS.iloadN X45.here hx rfl (hb hby dI3_12) rfl ?_
        exact k)
    have pre49 : Go p e below T45 (mkF m 48 #[rv a1, iv (0 : Int32), iv (2 : Int32)] []) s₁ EF := fun t k => pre48 t (XS.ifYes X45.here hx rfl (pc0 := 13) (pc' := 48) rfl (hb hby dI3_13) rfl ((if0 _ _).trans (teq (by decide : (0 : Int32) = (0 : Int32))).1) (by decide) (by decide) k)
    have pre50 : Go p e below T45 (mkF m 49 #[rv a1, iv (0 : Int32), iv (2 : Int32)] [(.int (0 : Int32))]) s₁ EF := fun t k => pre49 t (by
        refine XS.iloadN X45.here hx rfl (hb hby dI3_48) rfl ?_
        exact k)
    have hnr : Value.int (nar .boolean (0 : Int32)) = (.int (0 : Int32)) := by rfl
    obtain ⟨fs, hr, hrun, hended, hW, hsame⟩ := X45.leave (v := some (.int (0 : Int32))) (fun h => by rw [Bd.returns] at h; cases h)
    refine ⟨_, _, hEF ▸ pre50 _ (retN X45 hx (t := .boolean) Bd.returns (by simp) (hb hby dI3_49) (hnr ▸ hr)), hrun, hended, _, _, rfl, ?_, ⟨_, rfl⟩, hW, hsame.mono (by decide) (by decide)⟩
    show QI3 Z a1 cz fv c0 c1 c2 r h0 n0 _ T45.heap _
    rw [e45]
    exact ⟨by rw [← hR]; simp [allD, digF, hc23, hc33, hc23'], N45, rfl⟩
  have pre51 : Go p e below T40 (mkF m 26 #[rv a1, iv (1 : Int32), iv (1 : Int32)] []) s₁ EF := fun t k => pre42 t (XS.icmpNo X40.here hx rfl (hb hby dI3_23) rfl (flt hc23').1 k)
  have pre52 : Go p e below T40 (mkF m 28 #[rv a1, iv (1 : Int32), iv (1 : Int32)] [(.int (1 : Int32)), (.ref a1)]) s₁ EF := fun t k => pre51 t (by
      refine XS.aloadN X40.here hx rfl (hb hby dI3_26) rfl rfl ?_
      refine XS.iloadN X40.here hx rfl (hb hby dI3_27) rfl ?_
      exact k)
  obtain ⟨cq53, kq53, q53a, q53b, q53c⟩ := isOf hZ e40 SF.exa
  obtain ⟨_, _, ⟨T53, L53, k53, n53⟩, -, X53, ⟨Lc53, hQ53, l53, y53, z53⟩, st53⟩ := X40.virtualBack hx (y := mN10) (z := mN10) hown (mvT hZ (hw _ (mW 57 rfl))) (mvT hZ (hw _ (mW 58 rfl))) (notFace_of_selects (args := #[]) (mvT hZ (hw _ (mW 60 rfl)))) (mvT hZ (hw _ (mW 60 rfl))) (mvT hZ (hw _ (mW 59 rfl))) (by decide) (backOf (W := 0) (rmJC l Z a0 hw [] a1 (1 : Int32) cz fv [c0, c1, c2] c1 h0 n0 Z0 O0 J0 SF (by decide) rfl) hZ (hw _ (mW 61 rfl)) (hw _ (mW 10 rfl)) (by decide) (by decide)) q53a q53c (g := (mkF m 28 #[rv a1, iv (1 : Int32), iv (1 : Int32)] [(.int (1 : Int32)), (.ref a1)])) rfl (by rw [hml]; rfl) (Steps.refl _) (argsL := [(.int (1 : Int32))]) (rest := []) (lenOf pdI3_1 rfl) rfl (Nat.le_of_eq rfl) (hb hby dI3_28) (fun _ _ => ⟨rfl, e40, wl rfl, wl rfl⟩)
  dsimp only [Pt.U, Pt.locs, Pt.cells, Pt.slots] at X53 l53 y53 z53 st53 hQ53
  subst l53 y53 z53
  obtain ⟨rfl, N53q, hq53⟩ := hQ53
  have N53 := Fr.app N40 N53q
  have pre54 : Go p e below T53 (mkF m 31 #[rv a1, iv (1 : Int32), iv (1 : Int32)] [(.int c1)]) s₁ EF := fun t k => pre52 t (st53.trans k)
  have e53 : T53.heap = h0 := hq53
  have pre55 : Go p e below T53 (mkF m 33 #[rv a1, iv (1 : Int32), iv (1 : Int32)] [(.int (57 : Int32)), (.int c1)]) s₁ EF := fun t k => pre54 t (by
      refine XS.bipush X53.here hx rfl (hb hby dI3_31) ?_
      exact k)
  by_cases hc33' : (57 : Int32) < c1
  · have pre56 : Go p e below T53 (mkF m 40 #[rv a1, iv (1 : Int32), iv (1 : Int32)] []) s₁ EF := fun t k => pre55 t (XS.icmpYes X53.here hx rfl (pc0 := 33) (pc' := 40) rfl (hb hby dI3_33) rfl (tlt hc33').2.2.1 (by decide) (by decide) k)
    have pre57 : Go p e below T53 (mkF m 6 #[rv a1, iv (0 : Int32), iv (2 : Int32)] [(.ref a1), (.int (2 : Int32))]) s₁ EF := fun t k => pre56 t (by
        refine XS.iconst X53.here hx rfl (hb hby dI3_40) ?_
        refine XS.istoreN X53.here hx rfl (hb hby dI3_41) rfl (l' := #[rv a1, iv (0 : Int32), iv (1 : Int32)]) rfl ?_
        refine XS.iinc X53.here hx rfl (hb hby dI3_42) rfl (l' := #[rv a1, iv (0 : Int32), iv (2 : Int32)]) rfl ?_
        refine XS.goto X53.here hx rfl (pc0 := 45) (pc' := 4) rfl (hb hby dI3_45) (by decide) (by decide) ?_
        refine XS.iloadN X53.here hx rfl (hb hby dI3_4) rfl ?_
        refine XS.aloadN X53.here hx rfl (hb hby dI3_5) rfl rfl ?_
        exact k)
    obtain ⟨cq58, kq58, q58a, q58b, q58c⟩ := isOf hZ e53 SF.exa
    obtain ⟨_, _, ⟨T58, L58, k58, n58⟩, -, X58, ⟨Lc58, hQ58, l58, y58, z58⟩, st58⟩ := X53.virtualBack hx (y := mN1) (z := mN1) hown (mvT hZ (hw _ (mW 33 rfl))) (mvT hZ (hw _ (mW 34 rfl))) (notFace_of_selects (args := #[]) (mvT hZ (hw _ (mW 36 rfl)))) (mvT hZ (hw _ (mW 36 rfl))) (mvT hZ (hw _ (mW 35 rfl))) (by decide) (backOf (W := 1) (rmJL l Z a0 hw [] a1 cz fv [c0, c1, c2] (3 : Int32) h0 n0 Z0 O0 J0 SF (by rfl)) hZ (hw _ (mW 37 rfl)) (hw _ (mW 10 rfl)) (by decide) (by decide)) q58a q58c (g := (mkF m 6 #[rv a1, iv (0 : Int32), iv (2 : Int32)] [(.ref a1), (.int (2 : Int32))])) rfl (by rw [hml]; rfl) (Steps.refl _) (argsL := []) (rest := [(.int (2 : Int32))]) (lenOf pdI3_0 rfl) rfl (Nat.le_of_eq rfl) (hb hby dI3_6) (fun _ _ => ⟨rfl, e53, wl rfl, wl rfl⟩)
    dsimp only [Pt.U, Pt.locs, Pt.cells, Pt.slots] at X58 l58 y58 z58 st58 hQ58
    subst l58 y58 z58
    obtain ⟨rfl, N58q, hq58⟩ := hQ58
    have N58 := Fr.app N53 N58q
    have pre59 : Go p e below T58 (mkF m 9 #[rv a1, iv (0 : Int32), iv (2 : Int32)] [(.int (3 : Int32)), (.int (2 : Int32))]) s₁ EF := fun t k => pre57 t (st58.trans k)
    have e58 : T58.heap = h0 := hq58
    have pre60 : Go p e below T58 (mkF m 12 #[rv a1, iv (0 : Int32), iv (2 : Int32)] []) s₁ EF := fun t k => pre59 t (XS.icmpNo X58.here hx rfl (hb hby dI3_9) rfl (tlt (by decide : (2 : Int32) < (3 : Int32))).2.1 k)
    have pre61 : Go p e below T58 (mkF m 13 #[rv a1, iv (0 : Int32), iv (2 : Int32)] [(.int (0 : Int32))]) s₁ EF := fun t k => pre60 t (by
        refine XS.iloadN X58.here hx rfl (hb hby dI3_12) rfl ?_
        exact k)
    have pre62 : Go p e below T58 (mkF m 48 #[rv a1, iv (0 : Int32), iv (2 : Int32)] []) s₁ EF := fun t k => pre61 t (XS.ifYes X58.here hx rfl (pc0 := 13) (pc' := 48) rfl (hb hby dI3_13) rfl ((if0 _ _).trans (teq (by decide : (0 : Int32) = (0 : Int32))).1) (by decide) (by decide) k)
    have pre63 : Go p e below T58 (mkF m 49 #[rv a1, iv (0 : Int32), iv (2 : Int32)] [(.int (0 : Int32))]) s₁ EF := fun t k => pre62 t (by
        refine XS.iloadN X58.here hx rfl (hb hby dI3_48) rfl ?_
        exact k)
    have hnr : Value.int (nar .boolean (0 : Int32)) = (.int (0 : Int32)) := by rfl
    obtain ⟨fs, hr, hrun, hended, hW, hsame⟩ := X58.leave (v := some (.int (0 : Int32))) (fun h => by rw [Bd.returns] at h; cases h)
    refine ⟨_, _, hEF ▸ pre63 _ (retN X58 hx (t := .boolean) Bd.returns (by simp) (hb hby dI3_49) (hnr ▸ hr)), hrun, hended, _, _, rfl, ?_, ⟨_, rfl⟩, hW, hsame.mono (by decide) (by decide)⟩
    show QI3 Z a1 cz fv c0 c1 c2 r h0 n0 _ T58.heap _
    rw [e58]
    exact ⟨by rw [← hR]; simp [allD, digF, hc23, hc33, hc23', hc33'], N58, rfl⟩
  have pre64 : Go p e below T53 (mkF m 36 #[rv a1, iv (1 : Int32), iv (1 : Int32)] []) s₁ EF := fun t k => pre55 t (XS.icmpNo X53.here hx rfl (hb hby dI3_33) rfl (flt hc33').2.2.1 k)
  have pre65 : Go p e below T53 (mkF m 6 #[rv a1, iv (1 : Int32), iv (2 : Int32)] [(.ref a1), (.int (2 : Int32))]) s₁ EF := fun t k => pre64 t (by
      refine XS.iconst X53.here hx rfl (hb hby dI3_36) ?_
      refine XS.goto X53.here hx rfl (pc0 := 37) (pc' := 41) rfl (hb hby dI3_37) (by decide) (by decide) ?_
      refine XS.istoreN X53.here hx rfl (hb hby dI3_41) rfl (l' := #[rv a1, iv (1 : Int32), iv (1 : Int32)]) rfl ?_
      refine XS.iinc X53.here hx rfl (hb hby dI3_42) rfl (l' := #[rv a1, iv (1 : Int32), iv (2 : Int32)]) rfl ?_
      refine XS.goto X53.here hx rfl (pc0 := 45) (pc' := 4) rfl (hb hby dI3_45) (by decide) (by decide) ?_
      refine XS.iloadN X53.here hx rfl (hb hby dI3_4) rfl ?_
      refine XS.aloadN X53.here hx rfl (hb hby dI3_5) rfl rfl ?_
      exact k)
  obtain ⟨cq66, kq66, q66a, q66b, q66c⟩ := isOf hZ e53 SF.exa
  obtain ⟨_, _, ⟨T66, L66, k66, n66⟩, -, X66, ⟨Lc66, hQ66, l66, y66, z66⟩, st66⟩ := X53.virtualBack hx (y := mN1) (z := mN1) hown (mvT hZ (hw _ (mW 33 rfl))) (mvT hZ (hw _ (mW 34 rfl))) (notFace_of_selects (args := #[]) (mvT hZ (hw _ (mW 36 rfl)))) (mvT hZ (hw _ (mW 36 rfl))) (mvT hZ (hw _ (mW 35 rfl))) (by decide) (backOf (W := 1) (rmJL l Z a0 hw [] a1 cz fv [c0, c1, c2] (3 : Int32) h0 n0 Z0 O0 J0 SF (by rfl)) hZ (hw _ (mW 37 rfl)) (hw _ (mW 10 rfl)) (by decide) (by decide)) q66a q66c (g := (mkF m 6 #[rv a1, iv (1 : Int32), iv (2 : Int32)] [(.ref a1), (.int (2 : Int32))])) rfl (by rw [hml]; rfl) (Steps.refl _) (argsL := []) (rest := [(.int (2 : Int32))]) (lenOf pdI3_0 rfl) rfl (Nat.le_of_eq rfl) (hb hby dI3_6) (fun _ _ => ⟨rfl, e53, wl rfl, wl rfl⟩)
  dsimp only [Pt.U, Pt.locs, Pt.cells, Pt.slots] at X66 l66 y66 z66 st66 hQ66
  subst l66 y66 z66
  obtain ⟨rfl, N66q, hq66⟩ := hQ66
  have N66 := Fr.app N53 N66q
  have pre67 : Go p e below T66 (mkF m 9 #[rv a1, iv (1 : Int32), iv (2 : Int32)] [(.int (3 : Int32)), (.int (2 : Int32))]) s₁ EF := fun t k => pre65 t (st66.trans k)
  have e66 : T66.heap = h0 := hq66
  have pre68 : Go p e below T66 (mkF m 12 #[rv a1, iv (1 : Int32), iv (2 : Int32)] []) s₁ EF := fun t k => pre67 t (XS.icmpNo X66.here hx rfl (hb hby dI3_9) rfl (tlt (by decide : (2 : Int32) < (3 : Int32))).2.1 k)
  have pre69 : Go p e below T66 (mkF m 13 #[rv a1, iv (1 : Int32), iv (2 : Int32)] [(.int (1 : Int32))]) s₁ EF := fun t k => pre68 t (by
      refine XS.iloadN X66.here hx rfl (hb hby dI3_12) rfl ?_
      exact k)
  have pre70 : Go p e below T66 (mkF m 16 #[rv a1, iv (1 : Int32), iv (2 : Int32)] []) s₁ EF := fun t k => pre69 t (XS.ifNo X66.here hx rfl (hb hby dI3_13) rfl ((if0 _ _).trans (feq (by decide : ¬ ((1 : Int32) = (0 : Int32)))).1) k)
  have pre71 : Go p e below T66 (mkF m 18 #[rv a1, iv (1 : Int32), iv (2 : Int32)] [(.int (2 : Int32)), (.ref a1)]) s₁ EF := fun t k => pre70 t (by
      refine XS.aloadN X66.here hx rfl (hb hby dI3_16) rfl rfl ?_
      refine XS.iloadN X66.here hx rfl (hb hby dI3_17) rfl ?_
      exact k)
  obtain ⟨cq72, kq72, q72a, q72b, q72c⟩ := isOf hZ e66 SF.exa
  obtain ⟨_, _, ⟨T72, L72, k72, n72⟩, -, X72, ⟨Lc72, hQ72, l72, y72, z72⟩, st72⟩ := X66.virtualBack hx (y := mN10) (z := mN10) hown (mvT hZ (hw _ (mW 57 rfl))) (mvT hZ (hw _ (mW 58 rfl))) (notFace_of_selects (args := #[]) (mvT hZ (hw _ (mW 60 rfl)))) (mvT hZ (hw _ (mW 60 rfl))) (mvT hZ (hw _ (mW 59 rfl))) (by decide) (backOf (W := 0) (rmJC l Z a0 hw [] a1 (2 : Int32) cz fv [c0, c1, c2] c2 h0 n0 Z0 O0 J0 SF (by decide) rfl) hZ (hw _ (mW 61 rfl)) (hw _ (mW 10 rfl)) (by decide) (by decide)) q72a q72c (g := (mkF m 18 #[rv a1, iv (1 : Int32), iv (2 : Int32)] [(.int (2 : Int32)), (.ref a1)])) rfl (by rw [hml]; rfl) (Steps.refl _) (argsL := [(.int (2 : Int32))]) (rest := []) (lenOf pdI3_1 rfl) rfl (Nat.le_of_eq rfl) (hb hby dI3_18) (fun _ _ => ⟨rfl, e66, wl rfl, wl rfl⟩)
  dsimp only [Pt.U, Pt.locs, Pt.cells, Pt.slots] at X72 l72 y72 z72 st72 hQ72
  subst l72 y72 z72
  obtain ⟨rfl, N72q, hq72⟩ := hQ72
  have N72 := Fr.app N66 N72q
  have pre73 : Go p e below T72 (mkF m 21 #[rv a1, iv (1 : Int32), iv (2 : Int32)] [(.int c2)]) s₁ EF := fun t k => pre71 t (st72.trans k)
  have e72 : T72.heap = h0 := hq72
  have pre74 : Go p e below T72 (mkF m 23 #[rv a1, iv (1 : Int32), iv (2 : Int32)] [(.int (48 : Int32)), (.int c2)]) s₁ EF := fun t k => pre73 t (by
      refine XS.bipush X72.here hx rfl (hb hby dI3_21) ?_
      exact k)
  by_cases hc23'' : c2 < (48 : Int32)
  · have pre75 : Go p e below T72 (mkF m 40 #[rv a1, iv (1 : Int32), iv (2 : Int32)] []) s₁ EF := fun t k => pre74 t (XS.icmpYes X72.here hx rfl (pc0 := 23) (pc' := 40) rfl (hb hby dI3_23) rfl (tlt hc23'').1 (by decide) (by decide) k)
    have pre76 : Go p e below T72 (mkF m 6 #[rv a1, iv (0 : Int32), iv (3 : Int32)] [(.ref a1), (.int (3 : Int32))]) s₁ EF := fun t k => pre75 t (by
        refine XS.iconst X72.here hx rfl (hb hby dI3_40) ?_
        refine XS.istoreN X72.here hx rfl (hb hby dI3_41) rfl (l' := #[rv a1, iv (0 : Int32), iv (2 : Int32)]) rfl ?_
        refine XS.iinc X72.here hx rfl (hb hby dI3_42) rfl (l' := #[rv a1, iv (0 : Int32), iv (3 : Int32)]) rfl ?_
        refine XS.goto X72.here hx rfl (pc0 := 45) (pc' := 4) rfl (hb hby dI3_45) (by decide) (by decide) ?_
        refine XS.iloadN X72.here hx rfl (hb hby dI3_4) rfl ?_
        refine XS.aloadN X72.here hx rfl (hb hby dI3_5) rfl rfl ?_
        exact k)
    obtain ⟨cq77, kq77, q77a, q77b, q77c⟩ := isOf hZ e72 SF.exa
    obtain ⟨_, _, ⟨T77, L77, k77, n77⟩, -, X77, ⟨Lc77, hQ77, l77, y77, z77⟩, st77⟩ := X72.virtualBack hx (y := mN1) (z := mN1) hown (mvT hZ (hw _ (mW 33 rfl))) (mvT hZ (hw _ (mW 34 rfl))) (notFace_of_selects (args := #[]) (mvT hZ (hw _ (mW 36 rfl)))) (mvT hZ (hw _ (mW 36 rfl))) (mvT hZ (hw _ (mW 35 rfl))) (by decide) (backOf (W := 1) (rmJL l Z a0 hw [] a1 cz fv [c0, c1, c2] (3 : Int32) h0 n0 Z0 O0 J0 SF (by rfl)) hZ (hw _ (mW 37 rfl)) (hw _ (mW 10 rfl)) (by decide) (by decide)) q77a q77c (g := (mkF m 6 #[rv a1, iv (0 : Int32), iv (3 : Int32)] [(.ref a1), (.int (3 : Int32))])) rfl (by rw [hml]; rfl) (Steps.refl _) (argsL := []) (rest := [(.int (3 : Int32))]) (lenOf pdI3_0 rfl) rfl (Nat.le_of_eq rfl) (hb hby dI3_6) (fun _ _ => ⟨rfl, e72, wl rfl, wl rfl⟩)
    dsimp only [Pt.U, Pt.locs, Pt.cells, Pt.slots] at X77 l77 y77 z77 st77 hQ77
    subst l77 y77 z77
    obtain ⟨rfl, N77q, hq77⟩ := hQ77
    have N77 := Fr.app N72 N77q
    have pre78 : Go p e below T77 (mkF m 9 #[rv a1, iv (0 : Int32), iv (3 : Int32)] [(.int (3 : Int32)), (.int (3 : Int32))]) s₁ EF := fun t k => pre76 t (st77.trans k)
    have e77 : T77.heap = h0 := hq77
    have pre79 : Go p e below T77 (mkF m 48 #[rv a1, iv (0 : Int32), iv (3 : Int32)] []) s₁ EF := fun t k => pre78 t (XS.icmpYes X77.here hx rfl (pc0 := 9) (pc' := 48) rfl (hb hby dI3_9) rfl (flt (by decide : ¬ ((3 : Int32) < (3 : Int32)))).2.1 (by decide) (by decide) k)
    have pre80 : Go p e below T77 (mkF m 49 #[rv a1, iv (0 : Int32), iv (3 : Int32)] [(.int (0 : Int32))]) s₁ EF := fun t k => pre79 t (by
        refine XS.iloadN X77.here hx rfl (hb hby dI3_48) rfl ?_
        exact k)
    have hnr : Value.int (nar .boolean (0 : Int32)) = (.int (0 : Int32)) := by rfl
    obtain ⟨fs, hr, hrun, hended, hW, hsame⟩ := X77.leave (v := some (.int (0 : Int32))) (fun h => by rw [Bd.returns] at h; cases h)
    refine ⟨_, _, hEF ▸ pre80 _ (retN X77 hx (t := .boolean) Bd.returns (by simp) (hb hby dI3_49) (hnr ▸ hr)), hrun, hended, _, _, rfl, ?_, ⟨_, rfl⟩, hW, hsame.mono (by decide) (by decide)⟩
    show QI3 Z a1 cz fv c0 c1 c2 r h0 n0 _ T77.heap _
    rw [e77]
    exact ⟨by rw [← hR]; simp [allD, digF, hc23, hc33, hc23', hc33', hc23''], N77, rfl⟩
  have pre81 : Go p e below T72 (mkF m 26 #[rv a1, iv (1 : Int32), iv (2 : Int32)] []) s₁ EF := fun t k => pre74 t (XS.icmpNo X72.here hx rfl (hb hby dI3_23) rfl (flt hc23'').1 k)
  have pre82 : Go p e below T72 (mkF m 28 #[rv a1, iv (1 : Int32), iv (2 : Int32)] [(.int (2 : Int32)), (.ref a1)]) s₁ EF := fun t k => pre81 t (by
      refine XS.aloadN X72.here hx rfl (hb hby dI3_26) rfl rfl ?_
      refine XS.iloadN X72.here hx rfl (hb hby dI3_27) rfl ?_
      exact k)
  obtain ⟨cq83, kq83, q83a, q83b, q83c⟩ := isOf hZ e72 SF.exa
  obtain ⟨_, _, ⟨T83, L83, k83, n83⟩, -, X83, ⟨Lc83, hQ83, l83, y83, z83⟩, st83⟩ := X72.virtualBack hx (y := mN10) (z := mN10) hown (mvT hZ (hw _ (mW 57 rfl))) (mvT hZ (hw _ (mW 58 rfl))) (notFace_of_selects (args := #[]) (mvT hZ (hw _ (mW 60 rfl)))) (mvT hZ (hw _ (mW 60 rfl))) (mvT hZ (hw _ (mW 59 rfl))) (by decide) (backOf (W := 0) (rmJC l Z a0 hw [] a1 (2 : Int32) cz fv [c0, c1, c2] c2 h0 n0 Z0 O0 J0 SF (by decide) rfl) hZ (hw _ (mW 61 rfl)) (hw _ (mW 10 rfl)) (by decide) (by decide)) q83a q83c (g := (mkF m 28 #[rv a1, iv (1 : Int32), iv (2 : Int32)] [(.int (2 : Int32)), (.ref a1)])) rfl (by rw [hml]; rfl) (Steps.refl _) (argsL := [(.int (2 : Int32))]) (rest := []) (lenOf pdI3_1 rfl) rfl (Nat.le_of_eq rfl) (hb hby dI3_28) (fun _ _ => ⟨rfl, e72, wl rfl, wl rfl⟩)
  dsimp only [Pt.U, Pt.locs, Pt.cells, Pt.slots] at X83 l83 y83 z83 st83 hQ83
  subst l83 y83 z83
  obtain ⟨rfl, N83q, hq83⟩ := hQ83
  have N83 := Fr.app N72 N83q
  have pre84 : Go p e below T83 (mkF m 31 #[rv a1, iv (1 : Int32), iv (2 : Int32)] [(.int c2)]) s₁ EF := fun t k => pre82 t (st83.trans k)
  have e83 : T83.heap = h0 := hq83
  have pre85 : Go p e below T83 (mkF m 33 #[rv a1, iv (1 : Int32), iv (2 : Int32)] [(.int (57 : Int32)), (.int c2)]) s₁ EF := fun t k => pre84 t (by
      refine XS.bipush X83.here hx rfl (hb hby dI3_31) ?_
      exact k)
  by_cases hc33'' : (57 : Int32) < c2
  · have pre86 : Go p e below T83 (mkF m 40 #[rv a1, iv (1 : Int32), iv (2 : Int32)] []) s₁ EF := fun t k => pre85 t (XS.icmpYes X83.here hx rfl (pc0 := 33) (pc' := 40) rfl (hb hby dI3_33) rfl (tlt hc33'').2.2.1 (by decide) (by decide) k)
    have pre87 : Go p e below T83 (mkF m 6 #[rv a1, iv (0 : Int32), iv (3 : Int32)] [(.ref a1), (.int (3 : Int32))]) s₁ EF := fun t k => pre86 t (by
        refine XS.iconst X83.here hx rfl (hb hby dI3_40) ?_
        refine XS.istoreN X83.here hx rfl (hb hby dI3_41) rfl (l' := #[rv a1, iv (0 : Int32), iv (2 : Int32)]) rfl ?_
        refine XS.iinc X83.here hx rfl (hb hby dI3_42) rfl (l' := #[rv a1, iv (0 : Int32), iv (3 : Int32)]) rfl ?_
        refine XS.goto X83.here hx rfl (pc0 := 45) (pc' := 4) rfl (hb hby dI3_45) (by decide) (by decide) ?_
        refine XS.iloadN X83.here hx rfl (hb hby dI3_4) rfl ?_
        refine XS.aloadN X83.here hx rfl (hb hby dI3_5) rfl rfl ?_
        exact k)
    obtain ⟨cq88, kq88, q88a, q88b, q88c⟩ := isOf hZ e83 SF.exa
    obtain ⟨_, _, ⟨T88, L88, k88, n88⟩, -, X88, ⟨Lc88, hQ88, l88, y88, z88⟩, st88⟩ := X83.virtualBack hx (y := mN1) (z := mN1) hown (mvT hZ (hw _ (mW 33 rfl))) (mvT hZ (hw _ (mW 34 rfl))) (notFace_of_selects (args := #[]) (mvT hZ (hw _ (mW 36 rfl)))) (mvT hZ (hw _ (mW 36 rfl))) (mvT hZ (hw _ (mW 35 rfl))) (by decide) (backOf (W := 1) (rmJL l Z a0 hw [] a1 cz fv [c0, c1, c2] (3 : Int32) h0 n0 Z0 O0 J0 SF (by rfl)) hZ (hw _ (mW 37 rfl)) (hw _ (mW 10 rfl)) (by decide) (by decide)) q88a q88c (g := (mkF m 6 #[rv a1, iv (0 : Int32), iv (3 : Int32)] [(.ref a1), (.int (3 : Int32))])) rfl (by rw [hml]; rfl) (Steps.refl _) (argsL := []) (rest := [(.int (3 : Int32))]) (lenOf pdI3_0 rfl) rfl (Nat.le_of_eq rfl) (hb hby dI3_6) (fun _ _ => ⟨rfl, e83, wl rfl, wl rfl⟩)
    dsimp only [Pt.U, Pt.locs, Pt.cells, Pt.slots] at X88 l88 y88 z88 st88 hQ88
    subst l88 y88 z88
    obtain ⟨rfl, N88q, hq88⟩ := hQ88
    have N88 := Fr.app N83 N88q
    have pre89 : Go p e below T88 (mkF m 9 #[rv a1, iv (0 : Int32), iv (3 : Int32)] [(.int (3 : Int32)), (.int (3 : Int32))]) s₁ EF := fun t k => pre87 t (st88.trans k)
    have e88 : T88.heap = h0 := hq88
    have pre90 : Go p e below T88 (mkF m 48 #[rv a1, iv (0 : Int32), iv (3 : Int32)] []) s₁ EF := fun t k => pre89 t (XS.icmpYes X88.here hx rfl (pc0 := 9) (pc' := 48) rfl (hb hby dI3_9) rfl (flt (by decide : ¬ ((3 : Int32) < (3 : Int32)))).2.1 (by decide) (by decide) k)
    have pre91 : Go p e below T88 (mkF m 49 #[rv a1, iv (0 : Int32), iv (3 : Int32)] [(.int (0 : Int32))]) s₁ EF := fun t k => pre90 t (by
        refine XS.iloadN X88.here hx rfl (hb hby dI3_48) rfl ?_
        exact k)
    have hnr : Value.int (nar .boolean (0 : Int32)) = (.int (0 : Int32)) := by rfl
    obtain ⟨fs, hr, hrun, hended, hW, hsame⟩ := X88.leave (v := some (.int (0 : Int32))) (fun h => by rw [Bd.returns] at h; cases h)
    refine ⟨_, _, hEF ▸ pre91 _ (retN X88 hx (t := .boolean) Bd.returns (by simp) (hb hby dI3_49) (hnr ▸ hr)), hrun, hended, _, _, rfl, ?_, ⟨_, rfl⟩, hW, hsame.mono (by decide) (by decide)⟩
    show QI3 Z a1 cz fv c0 c1 c2 r h0 n0 _ T88.heap _
    rw [e88]
    exact ⟨by rw [← hR]; simp [allD, digF, hc23, hc33, hc23', hc33', hc23'', hc33''], N88, rfl⟩
  have pre92 : Go p e below T83 (mkF m 36 #[rv a1, iv (1 : Int32), iv (2 : Int32)] []) s₁ EF := fun t k => pre85 t (XS.icmpNo X83.here hx rfl (hb hby dI3_33) rfl (flt hc33'').2.2.1 k)
  have pre93 : Go p e below T83 (mkF m 6 #[rv a1, iv (1 : Int32), iv (3 : Int32)] [(.ref a1), (.int (3 : Int32))]) s₁ EF := fun t k => pre92 t (by
      refine XS.iconst X83.here hx rfl (hb hby dI3_36) ?_
      refine XS.goto X83.here hx rfl (pc0 := 37) (pc' := 41) rfl (hb hby dI3_37) (by decide) (by decide) ?_
      refine XS.istoreN X83.here hx rfl (hb hby dI3_41) rfl (l' := #[rv a1, iv (1 : Int32), iv (2 : Int32)]) rfl ?_
      refine XS.iinc X83.here hx rfl (hb hby dI3_42) rfl (l' := #[rv a1, iv (1 : Int32), iv (3 : Int32)]) rfl ?_
      refine XS.goto X83.here hx rfl (pc0 := 45) (pc' := 4) rfl (hb hby dI3_45) (by decide) (by decide) ?_
      refine XS.iloadN X83.here hx rfl (hb hby dI3_4) rfl ?_
      refine XS.aloadN X83.here hx rfl (hb hby dI3_5) rfl rfl ?_
      exact k)
  obtain ⟨cq94, kq94, q94a, q94b, q94c⟩ := isOf hZ e83 SF.exa
  obtain ⟨_, _, ⟨T94, L94, k94, n94⟩, -, X94, ⟨Lc94, hQ94, l94, y94, z94⟩, st94⟩ := X83.virtualBack hx (y := mN1) (z := mN1) hown (mvT hZ (hw _ (mW 33 rfl))) (mvT hZ (hw _ (mW 34 rfl))) (notFace_of_selects (args := #[]) (mvT hZ (hw _ (mW 36 rfl)))) (mvT hZ (hw _ (mW 36 rfl))) (mvT hZ (hw _ (mW 35 rfl))) (by decide) (backOf (W := 1) (rmJL l Z a0 hw [] a1 cz fv [c0, c1, c2] (3 : Int32) h0 n0 Z0 O0 J0 SF (by rfl)) hZ (hw _ (mW 37 rfl)) (hw _ (mW 10 rfl)) (by decide) (by decide)) q94a q94c (g := (mkF m 6 #[rv a1, iv (1 : Int32), iv (3 : Int32)] [(.ref a1), (.int (3 : Int32))])) rfl (by rw [hml]; rfl) (Steps.refl _) (argsL := []) (rest := [(.int (3 : Int32))]) (lenOf pdI3_0 rfl) rfl (Nat.le_of_eq rfl) (hb hby dI3_6) (fun _ _ => ⟨rfl, e83, wl rfl, wl rfl⟩)
  dsimp only [Pt.U, Pt.locs, Pt.cells, Pt.slots] at X94 l94 y94 z94 st94 hQ94
  subst l94 y94 z94
  obtain ⟨rfl, N94q, hq94⟩ := hQ94
  have N94 := Fr.app N83 N94q
  have pre95 : Go p e below T94 (mkF m 9 #[rv a1, iv (1 : Int32), iv (3 : Int32)] [(.int (3 : Int32)), (.int (3 : Int32))]) s₁ EF := fun t k => pre93 t (st94.trans k)
  have e94 : T94.heap = h0 := hq94
  have pre96 : Go p e below T94 (mkF m 48 #[rv a1, iv (1 : Int32), iv (3 : Int32)] []) s₁ EF := fun t k => pre95 t (XS.icmpYes X94.here hx rfl (pc0 := 9) (pc' := 48) rfl (hb hby dI3_9) rfl (flt (by decide : ¬ ((3 : Int32) < (3 : Int32)))).2.1 (by decide) (by decide) k)
  have pre97 : Go p e below T94 (mkF m 49 #[rv a1, iv (1 : Int32), iv (3 : Int32)] [(.int (1 : Int32))]) s₁ EF := fun t k => pre96 t (by
      refine XS.iloadN X94.here hx rfl (hb hby dI3_48) rfl ?_
      exact k)
  have hnr : Value.int (nar .boolean (1 : Int32)) = (.int (1 : Int32)) := by rfl
  obtain ⟨fs, hr, hrun, hended, hW, hsame⟩ := X94.leave (v := some (.int (1 : Int32))) (fun h => by rw [Bd.returns] at h; cases h)
  refine ⟨_, _, hEF ▸ pre97 _ (retN X94 hx (t := .boolean) Bd.returns (by simp) (hb hby dI3_49) (hnr ▸ hr)), hrun, hended, _, _, rfl, ?_, ⟨_, rfl⟩, hW, hsame.mono (by decide) (by decide)⟩
  show QI3 Z a1 cz fv c0 c1 c2 r h0 n0 _ T94.heap _
  rw [e94]
  exact ⟨by rw [← hR]; simp [allD, digF, hc23, hc33, hc23', hc33', hc23'', hc33''], N94, rfl⟩
abbrev rKI4 : Room := { frames := 5, cells := 0, slots := 0, locals := 66 }
theorem dI4_0 : decode prog_23_method_4_code 0 = .ok (.iconst 1, 1) := by decide +kernel
theorem dI4_1 : decode prog_23_method_4_code 1 = .ok (.istore_n 1, 1) := by decide +kernel
theorem dI4_2 : decode prog_23_method_4_code 2 = .ok (.iconst 0, 1) := by decide +kernel
theorem dI4_3 : decode prog_23_method_4_code 3 = .ok (.istore_n 2, 1) := by decide +kernel
theorem dI4_4 : decode prog_23_method_4_code 4 = .ok (.iload_n 2, 1) := by decide +kernel
theorem dI4_5 : decode prog_23_method_4_code 5 = .ok (.aload_n 0, 1) := by decide +kernel
theorem dI4_6 : decode prog_23_method_4_code 6 = .ok (.invokevirtual 7, 3) := by decide +kernel
theorem dI4_9 : decode prog_23_method_4_code 9 = .ok (.if_icmp .ge 39, 3) := by decide +kernel
theorem dI4_12 : decode prog_23_method_4_code 12 = .ok (.iload_n 1, 1) := by decide +kernel
theorem dI4_13 : decode prog_23_method_4_code 13 = .ok (.ifCond .eq 35, 3) := by decide +kernel
theorem dI4_16 : decode prog_23_method_4_code 16 = .ok (.aload_n 0, 1) := by decide +kernel
theorem dI4_17 : decode prog_23_method_4_code 17 = .ok (.iload_n 2, 1) := by decide +kernel
theorem dI4_18 : decode prog_23_method_4_code 18 = .ok (.invokevirtual 13, 3) := by decide +kernel
theorem dI4_21 : decode prog_23_method_4_code 21 = .ok (.bipush 48, 2) := by decide +kernel
theorem dI4_23 : decode prog_23_method_4_code 23 = .ok (.if_icmp .lt 17, 3) := by decide +kernel
theorem dI4_26 : decode prog_23_method_4_code 26 = .ok (.aload_n 0, 1) := by decide +kernel
theorem dI4_27 : decode prog_23_method_4_code 27 = .ok (.iload_n 2, 1) := by decide +kernel
theorem dI4_28 : decode prog_23_method_4_code 28 = .ok (.invokevirtual 13, 3) := by decide +kernel
theorem dI4_31 : decode prog_23_method_4_code 31 = .ok (.bipush 57, 2) := by decide +kernel
theorem dI4_33 : decode prog_23_method_4_code 33 = .ok (.if_icmp .gt 7, 3) := by decide +kernel
theorem dI4_36 : decode prog_23_method_4_code 36 = .ok (.iconst 1, 1) := by decide +kernel
theorem dI4_37 : decode prog_23_method_4_code 37 = .ok (.goto 4, 3) := by decide +kernel
theorem dI4_40 : decode prog_23_method_4_code 40 = .ok (.iconst 0, 1) := by decide +kernel
theorem dI4_41 : decode prog_23_method_4_code 41 = .ok (.istore_n 1, 1) := by decide +kernel
theorem dI4_42 : decode prog_23_method_4_code 42 = .ok (.iinc 2 1, 3) := by decide +kernel
theorem dI4_45 : decode prog_23_method_4_code 45 = .ok (.goto (-41), 3) := by decide +kernel
theorem dI4_48 : decode prog_23_method_4_code 48 = .ok (.iload_n 1, 1) := by decide +kernel
theorem dI4_49 : decode prog_23_method_4_code 49 = .ok (.ireturn, 1) := by decide +kernel
theorem pnI4 : plainName "com/example/oxpecker/oxpecker/http/UriCharacters" = true := by first | (simp [plainName, overriddenIn]; done) | decide +kernel
theorem pdI4_0 : parseMethodDescriptor "()I" = some ⟨[], some .int⟩ := by decide +kernel
theorem pdI4_1 : parseMethodDescriptor "(I)C" = some ⟨[.int], some .char⟩ := by decide +kernel
theorem efI4 (m : MethodId) (a1 : Addr) : entryFrame m #[(.ref a1)] 3 = mkF m 0 #[rv a1, .unset, .unset] [] := by first | (simp [entryFrame, mkF, argsToLocals, Value.category]; done) | rfl
def QI4 (Z : State) (a1 : Addr) (cz : Int32) (fv : Value) (c0 : Int32) (c1 : Int32) (c2 : Int32) (c3 : Int32) (r : Int32) (h0 : Heap) (n0 : Nat) (v : Option Value) (h : Heap) (L : List Loc) : Prop := v = some (.int r) ∧ Fr n0 L ∧ h = h0
set_option maxRecDepth 65536 in
set_option maxHeartbeats 40000000 in
theorem rmI4 (l : Launch) (Z : State) (a0 : Array Value) (hw : ∀ d ∈ tables_1, d.before a0 Z = true) (ws : List Jvm.Cond) (a1 : Addr) (cz : Int32) (fv : Value) (c0 : Int32) (c1 : Int32) (c2 : Int32) (c3 : Int32) (r : Int32) (h0 : Heap) (n0 : Nat) (Z0 : n0 ≤ h0.size) (O0 : Old Z n0 h0) (J0 : Jd Z cz fv) (SF : Str Z h0 a1 [c0, c1, c2, c3]) (hR : allD [c0, c1, c2, c3] = r) :
    MetFree l mN22 (head1 (Jvm.Cond.code mN22 prog_23_method_4_code 3 (some .boolean) :: ws) rKI4) (fun a U => a = #[(.ref a1)] ∧ Z.Warmed39 U.vm ∧ U.heap = h0) (fun _ _ _ _ _ => True) (fun _ U o U' => ∃ v L, o = .returned v ∧ QI4 Z a1 cz fv c0 c1 c2 c3 r h0 n0 v U'.heap L ∧ FrameEnd U o U' L rKI4.cells rKI4.slots) := by
  refine MetFree.of_bodySF (plainFor_of_name pnI4) hisR ?_
  intro p e s m args below meth c s₁ Bd hml0 hP hK
  obtain ⟨rfl, hZ, hh⟩ := hP
  have hx := Bd.exec
  have hby := Bd.bytes
  have hml : c.maxLocals = 3 := hml0
  have hown : s.vm.findClass "com/example/oxpecker/oxpecker/http/UriCharacters" = some m.cls := findClass_of_methodNamed Bd.named
  have hnm := (name_of_methodNamed Bd.named Bd.method).1
  have X0 : Stand p l e rKI4 s m #[(.ref a1)] below meth c s₁ [] 0 0 := Stand.of_body Bd
  have e0 : s₁.heap = h0 := by rw [← hh, Bd.state]; rfl
  have N0 := Fr.nil n0
  obtain ⟨EF, hEF⟩ : ∃ f, f = entryFrame m #[(.ref a1)] 3 := ⟨_, rfl⟩
  have pre0 : Go p e below s₁ (mkF m 0 #[rv a1, .unset, .unset] []) s₁ EF := fun t k => by rw [hEF]; exact castTop (efI4 m a1) k
  have pre1 : Go p e below s₁ (mkF m 6 #[rv a1, iv (1 : Int32), iv (0 : Int32)] [(.ref a1), (.int (0 : Int32))]) s₁ EF := fun t k => pre0 t (by
      refine XS.iconst X0.here hx rfl (hb hby dI4_0) ?_
      refine XS.istoreN X0.here hx rfl (hb hby dI4_1) rfl (l' := #[rv a1, iv (1 : Int32), .unset]) rfl ?_
      refine XS.iconst X0.here hx rfl (hb hby dI4_2) ?_
      refine XS.istoreN X0.here hx rfl (hb hby dI4_3) rfl (l' := #[rv a1, iv (1 : Int32), iv (0 : Int32)]) rfl ?_
      refine XS.iloadN X0.here hx rfl (hb hby dI4_4) rfl ?_
      refine XS.aloadN X0.here hx rfl (hb hby dI4_5) rfl rfl ?_
      exact k)
  obtain ⟨cq2, kq2, q2a, q2b, q2c⟩ := isOf hZ e0 SF.exa
  obtain ⟨_, _, ⟨T2, L2, k2, n2⟩, -, X2, ⟨Lc2, hQ2, l2, y2, z2⟩, st2⟩ := X0.virtualBack hx (y := mN1) (z := mN1) hown (mvT hZ (hw _ (mW 33 rfl))) (mvT hZ (hw _ (mW 34 rfl))) (notFace_of_selects (args := #[]) (mvT hZ (hw _ (mW 36 rfl)))) (mvT hZ (hw _ (mW 36 rfl))) (mvT hZ (hw _ (mW 35 rfl))) (by decide) (backOf (W := 1) (rmJL l Z a0 hw [] a1 cz fv [c0, c1, c2, c3] (4 : Int32) h0 n0 Z0 O0 J0 SF (by rfl)) hZ (hw _ (mW 37 rfl)) (hw _ (mW 10 rfl)) (by decide) (by decide)) q2a q2c (g := (mkF m 6 #[rv a1, iv (1 : Int32), iv (0 : Int32)] [(.ref a1), (.int (0 : Int32))])) rfl (by rw [hml]; rfl) (Steps.refl _) (argsL := []) (rest := [(.int (0 : Int32))]) (lenOf pdI4_0 rfl) rfl (Nat.le_of_eq rfl) (hb hby dI4_6) (fun _ _ => ⟨rfl, e0, wl rfl, wl rfl⟩)
  dsimp only [Pt.U, Pt.locs, Pt.cells, Pt.slots] at X2 l2 y2 z2 st2 hQ2
  subst l2 y2 z2
  obtain ⟨rfl, N2q, hq2⟩ := hQ2
  have N2 := Fr.app N0 N2q
  have pre3 : Go p e below T2 (mkF m 9 #[rv a1, iv (1 : Int32), iv (0 : Int32)] [(.int (4 : Int32)), (.int (0 : Int32))]) s₁ EF := fun t k => pre1 t (st2.trans k)
  have e2 : T2.heap = h0 := hq2
  have pre4 : Go p e below T2 (mkF m 12 #[rv a1, iv (1 : Int32), iv (0 : Int32)] []) s₁ EF := fun t k => pre3 t (XS.icmpNo X2.here hx rfl (hb hby dI4_9) rfl (tlt (by decide : (0 : Int32) < (4 : Int32))).2.1 k)
  have pre5 : Go p e below T2 (mkF m 13 #[rv a1, iv (1 : Int32), iv (0 : Int32)] [(.int (1 : Int32))]) s₁ EF := fun t k => pre4 t (by
      refine XS.iloadN X2.here hx rfl (hb hby dI4_12) rfl ?_
      exact k)
  have pre6 : Go p e below T2 (mkF m 16 #[rv a1, iv (1 : Int32), iv (0 : Int32)] []) s₁ EF := fun t k => pre5 t (XS.ifNo X2.here hx rfl (hb hby dI4_13) rfl ((if0 _ _).trans (feq (by decide : ¬ ((1 : Int32) = (0 : Int32)))).1) k)
  have pre7 : Go p e below T2 (mkF m 18 #[rv a1, iv (1 : Int32), iv (0 : Int32)] [(.int (0 : Int32)), (.ref a1)]) s₁ EF := fun t k => pre6 t (by
      refine XS.aloadN X2.here hx rfl (hb hby dI4_16) rfl rfl ?_
      refine XS.iloadN X2.here hx rfl (hb hby dI4_17) rfl ?_
      exact k)
  obtain ⟨cq8, kq8, q8a, q8b, q8c⟩ := isOf hZ e2 SF.exa
  obtain ⟨_, _, ⟨T8, L8, k8, n8⟩, -, X8, ⟨Lc8, hQ8, l8, y8, z8⟩, st8⟩ := X2.virtualBack hx (y := mN10) (z := mN10) hown (mvT hZ (hw _ (mW 57 rfl))) (mvT hZ (hw _ (mW 58 rfl))) (notFace_of_selects (args := #[]) (mvT hZ (hw _ (mW 60 rfl)))) (mvT hZ (hw _ (mW 60 rfl))) (mvT hZ (hw _ (mW 59 rfl))) (by decide) (backOf (W := 0) (rmJC l Z a0 hw [] a1 (0 : Int32) cz fv [c0, c1, c2, c3] c0 h0 n0 Z0 O0 J0 SF (by decide) rfl) hZ (hw _ (mW 61 rfl)) (hw _ (mW 10 rfl)) (by decide) (by decide)) q8a q8c (g := (mkF m 18 #[rv a1, iv (1 : Int32), iv (0 : Int32)] [(.int (0 : Int32)), (.ref a1)])) rfl (by rw [hml]; rfl) (Steps.refl _) (argsL := [(.int (0 : Int32))]) (rest := []) (lenOf pdI4_1 rfl) rfl (Nat.le_of_eq rfl) (hb hby dI4_18) (fun _ _ => ⟨rfl, e2, wl rfl, wl rfl⟩)
  dsimp only [Pt.U, Pt.locs, Pt.cells, Pt.slots] at X8 l8 y8 z8 st8 hQ8
  subst l8 y8 z8
  obtain ⟨rfl, N8q, hq8⟩ := hQ8
  have N8 := Fr.app N2 N8q
  have pre9 : Go p e below T8 (mkF m 21 #[rv a1, iv (1 : Int32), iv (0 : Int32)] [(.int c0)]) s₁ EF := fun t k => pre7 t (st8.trans k)
  have e8 : T8.heap = h0 := hq8
  have pre10 : Go p e below T8 (mkF m 23 #[rv a1, iv (1 : Int32), iv (0 : Int32)] [(.int (48 : Int32)), (.int c0)]) s₁ EF := fun t k => pre9 t (by
      refine XS.bipush X8.here hx rfl (hb hby dI4_21) ?_
      exact k)
  by_cases hc23 : c0 < (48 : Int32)
  · have pre11 : Go p e below T8 (mkF m 40 #[rv a1, iv (1 : Int32), iv (0 : Int32)] []) s₁ EF := fun t k => pre10 t (XS.icmpYes X8.here hx rfl (pc0 := 23) (pc' := 40) rfl (hb hby dI4_23) rfl (tlt hc23).1 (by decide) (by decide) k)
    have pre12 : Go p e below T8 (mkF m 6 #[rv a1, iv (0 : Int32), iv (1 : Int32)] [(.ref a1), (.int (1 : Int32))]) s₁ EF := fun t k => pre11 t (by
        refine XS.iconst X8.here hx rfl (hb hby dI4_40) ?_
        refine XS.istoreN X8.here hx rfl (hb hby dI4_41) rfl (l' := #[rv a1, iv (0 : Int32), iv (0 : Int32)]) rfl ?_
        refine XS.iinc X8.here hx rfl (hb hby dI4_42) rfl (l' := #[rv a1, iv (0 : Int32), iv (1 : Int32)]) rfl ?_
        refine XS.goto X8.here hx rfl (pc0 := 45) (pc' := 4) rfl (hb hby dI4_45) (by decide) (by decide) ?_
        refine XS.iloadN X8.here hx rfl (hb hby dI4_4) rfl ?_
        refine XS.aloadN X8.here hx rfl (hb hby dI4_5) rfl rfl ?_
        exact k)
    obtain ⟨cq13, kq13, q13a, q13b, q13c⟩ := isOf hZ e8 SF.exa
    obtain ⟨_, _, ⟨T13, L13, k13, n13⟩, -, X13, ⟨Lc13, hQ13, l13, y13, z13⟩, st13⟩ := X8.virtualBack hx (y := mN1) (z := mN1) hown (mvT hZ (hw _ (mW 33 rfl))) (mvT hZ (hw _ (mW 34 rfl))) (notFace_of_selects (args := #[]) (mvT hZ (hw _ (mW 36 rfl)))) (mvT hZ (hw _ (mW 36 rfl))) (mvT hZ (hw _ (mW 35 rfl))) (by decide) (backOf (W := 1) (rmJL l Z a0 hw [] a1 cz fv [c0, c1, c2, c3] (4 : Int32) h0 n0 Z0 O0 J0 SF (by rfl)) hZ (hw _ (mW 37 rfl)) (hw _ (mW 10 rfl)) (by decide) (by decide)) q13a q13c (g := (mkF m 6 #[rv a1, iv (0 : Int32), iv (1 : Int32)] [(.ref a1), (.int (1 : Int32))])) rfl (by rw [hml]; rfl) (Steps.refl _) (argsL := []) (rest := [(.int (1 : Int32))]) (lenOf pdI4_0 rfl) rfl (Nat.le_of_eq rfl) (hb hby dI4_6) (fun _ _ => ⟨rfl, e8, wl rfl, wl rfl⟩)
    dsimp only [Pt.U, Pt.locs, Pt.cells, Pt.slots] at X13 l13 y13 z13 st13 hQ13
    subst l13 y13 z13
    obtain ⟨rfl, N13q, hq13⟩ := hQ13
    have N13 := Fr.app N8 N13q
    have pre14 : Go p e below T13 (mkF m 9 #[rv a1, iv (0 : Int32), iv (1 : Int32)] [(.int (4 : Int32)), (.int (1 : Int32))]) s₁ EF := fun t k => pre12 t (st13.trans k)
    have e13 : T13.heap = h0 := hq13
    have pre15 : Go p e below T13 (mkF m 12 #[rv a1, iv (0 : Int32), iv (1 : Int32)] []) s₁ EF := fun t k => pre14 t (XS.icmpNo X13.here hx rfl (hb hby dI4_9) rfl (tlt (by decide : (1 : Int32) < (4 : Int32))).2.1 k)
    have pre16 : Go p e below T13 (mkF m 13 #[rv a1, iv (0 : Int32), iv (1 : Int32)] [(.int (0 : Int32))]) s₁ EF := fun t k => pre15 t (by
        refine XS.iloadN X13.here hx rfl (hb hby dI4_12) rfl ?_
        exact k)
    have pre17 : Go p e below T13 (mkF m 48 #[rv a1, iv (0 : Int32), iv (1 : Int32)] []) s₁ EF := fun t k => pre16 t (XS.ifYes X13.here hx rfl (pc0 := 13) (pc' := 48) rfl (hb hby dI4_13) rfl ((if0 _ _).trans (teq (by decide : (0 : Int32) = (0 : Int32))).1) (by decide) (by decide) k)
    have pre18 : Go p e below T13 (mkF m 49 #[rv a1, iv (0 : Int32), iv (1 : Int32)] [(.int (0 : Int32))]) s₁ EF := fun t k => pre17 t (by
        refine XS.iloadN X13.here hx rfl (hb hby dI4_48) rfl ?_
        exact k)
    have hnr : Value.int (nar .boolean (0 : Int32)) = (.int (0 : Int32)) := by rfl
    obtain ⟨fs, hr, hrun, hended, hW, hsame⟩ := X13.leave (v := some (.int (0 : Int32))) (fun h => by rw [Bd.returns] at h; cases h)
    refine ⟨_, _, hEF ▸ pre18 _ (retN X13 hx (t := .boolean) Bd.returns (by simp) (hb hby dI4_49) (hnr ▸ hr)), hrun, hended, _, _, rfl, ?_, ⟨_, rfl⟩, hW, hsame.mono (by decide) (by decide)⟩
    show QI4 Z a1 cz fv c0 c1 c2 c3 r h0 n0 _ T13.heap _
    rw [e13]
    exact ⟨by rw [← hR]; simp [allD, digF, hc23], N13, rfl⟩
  have pre19 : Go p e below T8 (mkF m 26 #[rv a1, iv (1 : Int32), iv (0 : Int32)] []) s₁ EF := fun t k => pre10 t (XS.icmpNo X8.here hx rfl (hb hby dI4_23) rfl (flt hc23).1 k)
  have pre20 : Go p e below T8 (mkF m 28 #[rv a1, iv (1 : Int32), iv (0 : Int32)] [(.int (0 : Int32)), (.ref a1)]) s₁ EF := fun t k => pre19 t (by
      refine XS.aloadN X8.here hx rfl (hb hby dI4_26) rfl rfl ?_
      refine XS.iloadN X8.here hx rfl (hb hby dI4_27) rfl ?_
      exact k)
  obtain ⟨cq21, kq21, q21a, q21b, q21c⟩ := isOf hZ e8 SF.exa
  obtain ⟨_, _, ⟨T21, L21, k21, n21⟩, -, X21, ⟨Lc21, hQ21, l21, y21, z21⟩, st21⟩ := X8.virtualBack hx (y := mN10) (z := mN10) hown (mvT hZ (hw _ (mW 57 rfl))) (mvT hZ (hw _ (mW 58 rfl))) (notFace_of_selects (args := #[]) (mvT hZ (hw _ (mW 60 rfl)))) (mvT hZ (hw _ (mW 60 rfl))) (mvT hZ (hw _ (mW 59 rfl))) (by decide) (backOf (W := 0) (rmJC l Z a0 hw [] a1 (0 : Int32) cz fv [c0, c1, c2, c3] c0 h0 n0 Z0 O0 J0 SF (by decide) rfl) hZ (hw _ (mW 61 rfl)) (hw _ (mW 10 rfl)) (by decide) (by decide)) q21a q21c (g := (mkF m 28 #[rv a1, iv (1 : Int32), iv (0 : Int32)] [(.int (0 : Int32)), (.ref a1)])) rfl (by rw [hml]; rfl) (Steps.refl _) (argsL := [(.int (0 : Int32))]) (rest := []) (lenOf pdI4_1 rfl) rfl (Nat.le_of_eq rfl) (hb hby dI4_28) (fun _ _ => ⟨rfl, e8, wl rfl, wl rfl⟩)
  dsimp only [Pt.U, Pt.locs, Pt.cells, Pt.slots] at X21 l21 y21 z21 st21 hQ21
  subst l21 y21 z21
  obtain ⟨rfl, N21q, hq21⟩ := hQ21
  have N21 := Fr.app N8 N21q
  have pre22 : Go p e below T21 (mkF m 31 #[rv a1, iv (1 : Int32), iv (0 : Int32)] [(.int c0)]) s₁ EF := fun t k => pre20 t (st21.trans k)
  have e21 : T21.heap = h0 := hq21
  have pre23 : Go p e below T21 (mkF m 33 #[rv a1, iv (1 : Int32), iv (0 : Int32)] [(.int (57 : Int32)), (.int c0)]) s₁ EF := fun t k => pre22 t (by
      refine XS.bipush X21.here hx rfl (hb hby dI4_31) ?_
      exact k)
  by_cases hc33 : (57 : Int32) < c0
  · have pre24 : Go p e below T21 (mkF m 40 #[rv a1, iv (1 : Int32), iv (0 : Int32)] []) s₁ EF := fun t k => pre23 t (XS.icmpYes X21.here hx rfl (pc0 := 33) (pc' := 40) rfl (hb hby dI4_33) rfl (tlt hc33).2.2.1 (by decide) (by decide) k)
    have pre25 : Go p e below T21 (mkF m 6 #[rv a1, iv (0 : Int32), iv (1 : Int32)] [(.ref a1), (.int (1 : Int32))]) s₁ EF := fun t k => pre24 t (by
        refine XS.iconst X21.here hx rfl (hb hby dI4_40) ?_
        refine XS.istoreN X21.here hx rfl (hb hby dI4_41) rfl (l' := #[rv a1, iv (0 : Int32), iv (0 : Int32)]) rfl ?_
        refine XS.iinc X21.here hx rfl (hb hby dI4_42) rfl (l' := #[rv a1, iv (0 : Int32), iv (1 : Int32)]) rfl ?_
        refine XS.goto X21.here hx rfl (pc0 := 45) (pc' := 4) rfl (hb hby dI4_45) (by decide) (by decide) ?_
        refine XS.iloadN X21.here hx rfl (hb hby dI4_4) rfl ?_
        refine XS.aloadN X21.here hx rfl (hb hby dI4_5) rfl rfl ?_
        exact k)
    obtain ⟨cq26, kq26, q26a, q26b, q26c⟩ := isOf hZ e21 SF.exa
    obtain ⟨_, _, ⟨T26, L26, k26, n26⟩, -, X26, ⟨Lc26, hQ26, l26, y26, z26⟩, st26⟩ := X21.virtualBack hx (y := mN1) (z := mN1) hown (mvT hZ (hw _ (mW 33 rfl))) (mvT hZ (hw _ (mW 34 rfl))) (notFace_of_selects (args := #[]) (mvT hZ (hw _ (mW 36 rfl)))) (mvT hZ (hw _ (mW 36 rfl))) (mvT hZ (hw _ (mW 35 rfl))) (by decide) (backOf (W := 1) (rmJL l Z a0 hw [] a1 cz fv [c0, c1, c2, c3] (4 : Int32) h0 n0 Z0 O0 J0 SF (by rfl)) hZ (hw _ (mW 37 rfl)) (hw _ (mW 10 rfl)) (by decide) (by decide)) q26a q26c (g := (mkF m 6 #[rv a1, iv (0 : Int32), iv (1 : Int32)] [(.ref a1), (.int (1 : Int32))])) rfl (by rw [hml]; rfl) (Steps.refl _) (argsL := []) (rest := [(.int (1 : Int32))]) (lenOf pdI4_0 rfl) rfl (Nat.le_of_eq rfl) (hb hby dI4_6) (fun _ _ => ⟨rfl, e21, wl rfl, wl rfl⟩)
    dsimp only [Pt.U, Pt.locs, Pt.cells, Pt.slots] at X26 l26 y26 z26 st26 hQ26
    subst l26 y26 z26
    obtain ⟨rfl, N26q, hq26⟩ := hQ26
    have N26 := Fr.app N21 N26q
    have pre27 : Go p e below T26 (mkF m 9 #[rv a1, iv (0 : Int32), iv (1 : Int32)] [(.int (4 : Int32)), (.int (1 : Int32))]) s₁ EF := fun t k => pre25 t (st26.trans k)
    have e26 : T26.heap = h0 := hq26
    have pre28 : Go p e below T26 (mkF m 12 #[rv a1, iv (0 : Int32), iv (1 : Int32)] []) s₁ EF := fun t k => pre27 t (XS.icmpNo X26.here hx rfl (hb hby dI4_9) rfl (tlt (by decide : (1 : Int32) < (4 : Int32))).2.1 k)
    have pre29 : Go p e below T26 (mkF m 13 #[rv a1, iv (0 : Int32), iv (1 : Int32)] [(.int (0 : Int32))]) s₁ EF := fun t k => pre28 t (by
        refine XS.iloadN X26.here hx rfl (hb hby dI4_12) rfl ?_
        exact k)
    have pre30 : Go p e below T26 (mkF m 48 #[rv a1, iv (0 : Int32), iv (1 : Int32)] []) s₁ EF := fun t k => pre29 t (XS.ifYes X26.here hx rfl (pc0 := 13) (pc' := 48) rfl (hb hby dI4_13) rfl ((if0 _ _).trans (teq (by decide : (0 : Int32) = (0 : Int32))).1) (by decide) (by decide) k)
    have pre31 : Go p e below T26 (mkF m 49 #[rv a1, iv (0 : Int32), iv (1 : Int32)] [(.int (0 : Int32))]) s₁ EF := fun t k => pre30 t (by
        refine XS.iloadN X26.here hx rfl (hb hby dI4_48) rfl ?_
        exact k)
    have hnr : Value.int (nar .boolean (0 : Int32)) = (.int (0 : Int32)) := by rfl
    obtain ⟨fs, hr, hrun, hended, hW, hsame⟩ := X26.leave (v := some (.int (0 : Int32))) (fun h => by rw [Bd.returns] at h; cases h)
    refine ⟨_, _, hEF ▸ pre31 _ (retN X26 hx (t := .boolean) Bd.returns (by simp) (hb hby dI4_49) (hnr ▸ hr)), hrun, hended, _, _, rfl, ?_, ⟨_, rfl⟩, hW, hsame.mono (by decide) (by decide)⟩
    show QI4 Z a1 cz fv c0 c1 c2 c3 r h0 n0 _ T26.heap _
    rw [e26]
    exact ⟨by rw [← hR]; simp [allD, digF, hc23, hc33], N26, rfl⟩
  have pre32 : Go p e below T21 (mkF m 36 #[rv a1, iv (1 : Int32), iv (0 : Int32)] []) s₁ EF := fun t k => pre23 t (XS.icmpNo X21.here hx rfl (hb hby dI4_33) rfl (flt hc33).2.2.1 k)
  have pre33 : Go p e below T21 (mkF m 6 #[rv a1, iv (1 : Int32), iv (1 : Int32)] [(.ref a1), (.int (1 : Int32))]) s₁ EF := fun t k => pre32 t (by
      refine XS.iconst X21.here hx rfl (hb hby dI4_36) ?_
      refine XS.goto X21.here hx rfl (pc0 := 37) (pc' := 41) rfl (hb hby dI4_37) (by decide) (by decide) ?_
      refine XS.istoreN X21.here hx rfl (hb hby dI4_41) rfl (l' := #[rv a1, iv (1 : Int32), iv (0 : Int32)]) rfl ?_
      refine XS.iinc X21.here hx rfl (hb hby dI4_42) rfl (l' := #[rv a1, iv (1 : Int32), iv (1 : Int32)]) rfl ?_
      refine XS.goto X21.here hx rfl (pc0 := 45) (pc' := 4) rfl (hb hby dI4_45) (by decide) (by decide) ?_
      refine XS.iloadN X21.here hx rfl (hb hby dI4_4) rfl ?_
      refine XS.aloadN X21.here hx rfl (hb hby dI4_5) rfl rfl ?_
      exact k)
  obtain ⟨cq34, kq34, q34a, q34b, q34c⟩ := isOf hZ e21 SF.exa
  obtain ⟨_, _, ⟨T34, L34, k34, n34⟩, -, X34, ⟨Lc34, hQ34, l34, y34, z34⟩, st34⟩ := X21.virtualBack hx (y := mN1) (z := mN1) hown (mvT hZ (hw _ (mW 33 rfl))) (mvT hZ (hw _ (mW 34 rfl))) (notFace_of_selects (args := #[]) (mvT hZ (hw _ (mW 36 rfl)))) (mvT hZ (hw _ (mW 36 rfl))) (mvT hZ (hw _ (mW 35 rfl))) (by decide) (backOf (W := 1) (rmJL l Z a0 hw [] a1 cz fv [c0, c1, c2, c3] (4 : Int32) h0 n0 Z0 O0 J0 SF (by rfl)) hZ (hw _ (mW 37 rfl)) (hw _ (mW 10 rfl)) (by decide) (by decide)) q34a q34c (g := (mkF m 6 #[rv a1, iv (1 : Int32), iv (1 : Int32)] [(.ref a1), (.int (1 : Int32))])) rfl (by rw [hml]; rfl) (Steps.refl _) (argsL := []) (rest := [(.int (1 : Int32))]) (lenOf pdI4_0 rfl) rfl (Nat.le_of_eq rfl) (hb hby dI4_6) (fun _ _ => ⟨rfl, e21, wl rfl, wl rfl⟩)
  dsimp only [Pt.U, Pt.locs, Pt.cells, Pt.slots] at X34 l34 y34 z34 st34 hQ34
  subst l34 y34 z34
  obtain ⟨rfl, N34q, hq34⟩ := hQ34
  have N34 := Fr.app N21 N34q
  have pre35 : Go p e below T34 (mkF m 9 #[rv a1, iv (1 : Int32), iv (1 : Int32)] [(.int (4 : Int32)), (.int (1 : Int32))]) s₁ EF := fun t k => pre33 t (st34.trans k)
  have e34 : T34.heap = h0 := hq34
  have pre36 : Go p e below T34 (mkF m 12 #[rv a1, iv (1 : Int32), iv (1 : Int32)] []) s₁ EF := fun t k => pre35 t (XS.icmpNo X34.here hx rfl (hb hby dI4_9) rfl (tlt (by decide : (1 : Int32) < (4 : Int32))).2.1 k)
  have pre37 : Go p e below T34 (mkF m 13 #[rv a1, iv (1 : Int32), iv (1 : Int32)] [(.int (1 : Int32))]) s₁ EF := fun t k => pre36 t (by
      refine XS.iloadN X34.here hx rfl (hb hby dI4_12) rfl ?_
      exact k)
  have pre38 : Go p e below T34 (mkF m 16 #[rv a1, iv (1 : Int32), iv (1 : Int32)] []) s₁ EF := fun t k => pre37 t (XS.ifNo X34.here hx rfl (hb hby dI4_13) rfl ((if0 _ _).trans (feq (by decide : ¬ ((1 : Int32) = (0 : Int32)))).1) k)
  have pre39 : Go p e below T34 (mkF m 18 #[rv a1, iv (1 : Int32), iv (1 : Int32)] [(.int (1 : Int32)), (.ref a1)]) s₁ EF := fun t k => pre38 t (by
      refine XS.aloadN X34.here hx rfl (hb hby dI4_16) rfl rfl ?_
      refine XS.iloadN X34.here hx rfl (hb hby dI4_17) rfl ?_
      exact k)
  obtain ⟨cq40, kq40, q40a, q40b, q40c⟩ := isOf hZ e34 SF.exa
  obtain ⟨_, _, ⟨T40, L40, k40, n40⟩, -, X40, ⟨Lc40, hQ40, l40, y40, z40⟩, st40⟩ := X34.virtualBack hx (y := mN10) (z := mN10) hown (mvT hZ (hw _ (mW 57 rfl))) (mvT hZ (hw _ (mW 58 rfl))) (notFace_of_selects (args := #[]) (mvT hZ (hw _ (mW 60 rfl)))) (mvT hZ (hw _ (mW 60 rfl))) (mvT hZ (hw _ (mW 59 rfl))) (by decide) (backOf (W := 0) (rmJC l Z a0 hw [] a1 (1 : Int32) cz fv [c0, c1, c2, c3] c1 h0 n0 Z0 O0 J0 SF (by decide) rfl) hZ (hw _ (mW 61 rfl)) (hw _ (mW 10 rfl)) (by decide) (by decide)) q40a q40c (g := (mkF m 18 #[rv a1, iv (1 : Int32), iv (1 : Int32)] [(.int (1 : Int32)), (.ref a1)])) rfl (by rw [hml]; rfl) (Steps.refl _) (argsL := [(.int (1 : Int32))]) (rest := []) (lenOf pdI4_1 rfl) rfl (Nat.le_of_eq rfl) (hb hby dI4_18) (fun _ _ => ⟨rfl, e34, wl rfl, wl rfl⟩)
  dsimp only [Pt.U, Pt.locs, Pt.cells, Pt.slots] at X40 l40 y40 z40 st40 hQ40
  subst l40 y40 z40
  obtain ⟨rfl, N40q, hq40⟩ := hQ40
  have N40 := Fr.app N34 N40q
  have pre41 : Go p e below T40 (mkF m 21 #[rv a1, iv (1 : Int32), iv (1 : Int32)] [(.int c1)]) s₁ EF := fun t k => pre39 t (st40.trans k)
  have e40 : T40.heap = h0 := hq40
  have pre42 : Go p e below T40 (mkF m 23 #[rv a1, iv (1 : Int32), iv (1 : Int32)] [(.int (48 : Int32)), (.int c1)]) s₁ EF := fun t k => pre41 t (by
      refine XS.bipush X40.here hx rfl (hb hby dI4_21) ?_
      exact k)
  by_cases hc23' : c1 < (48 : Int32)
  · have pre43 : Go p e below T40 (mkF m 40 #[rv a1, iv (1 : Int32), iv (1 : Int32)] []) s₁ EF := fun t k => pre42 t (XS.icmpYes X40.here hx rfl (pc0 := 23) (pc' := 40) rfl (hb hby dI4_23) rfl (tlt hc23').1 (by decide) (by decide) k)
    have pre44 : Go p e below T40 (mkF m 6 #[rv a1, iv (0 : Int32), iv (2 : Int32)] [(.ref a1), (.int (2 : Int32))]) s₁ EF := fun t k => pre43 t (by
        refine XS.iconst X40.here hx rfl (hb hby dI4_40) ?_
        refine XS.istoreN X40.here hx rfl (hb hby dI4_41) rfl (l' := #[rv a1, iv (0 : Int32), iv (1 : Int32)]) rfl ?_
        refine XS.iinc X40.here hx rfl (hb hby dI4_42) rfl (l' := #[rv a1, iv (0 : Int32), iv (2 : Int32)]) rfl ?_
        refine XS.goto X40.here hx rfl (pc0 := 45) (pc' := 4) rfl (hb hby dI4_45) (by decide) (by decide) ?_
        refine XS.iloadN X40.here hx rfl (hb hby dI4_4) rfl ?_
        refine XS.aloadN X40.here hx rfl (hb hby dI4_5) rfl rfl ?_
        exact k)
    obtain ⟨cq45, kq45, q45a, q45b, q45c⟩ := isOf hZ e40 SF.exa
    obtain ⟨_, _, ⟨T45, L45, k45, n45⟩, -, X45, ⟨Lc45, hQ45, l45, y45, z45⟩, st45⟩ := X40.virtualBack hx (y := mN1) (z := mN1) hown (mvT hZ (hw _ (mW 33 rfl))) (mvT hZ (hw _ (mW 34 rfl))) (notFace_of_selects (args := #[]) (mvT hZ (hw _ (mW 36 rfl)))) (mvT hZ (hw _ (mW 36 rfl))) (mvT hZ (hw _ (mW 35 rfl))) (by decide) (backOf (W := 1) (rmJL l Z a0 hw [] a1 cz fv [c0, c1, c2, c3] (4 : Int32) h0 n0 Z0 O0 J0 SF (by rfl)) hZ (hw _ (mW 37 rfl)) (hw _ (mW 10 rfl)) (by decide) (by decide)) q45a q45c (g := (mkF m 6 #[rv a1, iv (0 : Int32), iv (2 : Int32)] [(.ref a1), (.int (2 : Int32))])) rfl (by rw [hml]; rfl) (Steps.refl _) (argsL := []) (rest := [(.int (2 : Int32))]) (lenOf pdI4_0 rfl) rfl (Nat.le_of_eq rfl) (hb hby dI4_6) (fun _ _ => ⟨rfl, e40, wl rfl, wl rfl⟩)
    dsimp only [Pt.U, Pt.locs, Pt.cells, Pt.slots] at X45 l45 y45 z45 st45 hQ45
    subst l45 y45 z45
    obtain ⟨rfl, N45q, hq45⟩ := hQ45
    have N45 := Fr.app N40 N45q
    have pre46 : Go p e below T45 (mkF m 9 #[rv a1, iv (0 : Int32), iv (2 : Int32)] [(.int (4 : Int32)), (.int (2 : Int32))]) s₁ EF := fun t k => pre44 t (st45.trans k)
    have e45 : T45.heap = h0 := hq45
    have pre47 : Go p e below T45 (mkF m 12 #[rv a1, iv (0 : Int32), iv (2 : Int32)] []) s₁ EF := fun t k => pre46 t (XS.icmpNo X45.here hx rfl (hb hby dI4_9) rfl (tlt (by decide : (2 : Int32) < (4 : Int32))).2.1 k)
    have pre48 : Go p e below T45 (mkF m 13 #[rv a1, iv (0 : Int32), iv (2 : Int32)] [(.int (0 : Int32))]) s₁ EF := fun t k => pre47 t (by
        refine XS.iloadN X45.here hx rfl (hb hby dI4_12) rfl ?_
        exact k)
    have pre49 : Go p e below T45 (mkF m 48 #[rv a1, iv (0 : Int32), iv (2 : Int32)] []) s₁ EF := fun t k => pre48 t (XS.ifYes X45.here hx rfl (pc0 := 13) (pc' := 48) rfl (hb hby dI4_13) rfl ((if0 _ _).trans (teq (by decide : (0 : Int32) = (0 : Int32))).1) (by decide) (by decide) k)
    have pre50 : Go p e below T45 (mkF m 49 #[rv a1, iv (0 : Int32), iv (2 : Int32)] [(.int (0 : Int32))]) s₁ EF := fun t k => pre49 t (by
        refine XS.iloadN X45.here hx rfl (hb hby dI4_48) rfl ?_
        exact k)
    have hnr : Value.int (nar .boolean (0 : Int32)) = (.int (0 : Int32)) := by rfl
    obtain ⟨fs, hr, hrun, hended, hW, hsame⟩ := X45.leave (v := some (.int (0 : Int32))) (fun h => by rw [Bd.returns] at h; cases h)
    refine ⟨_, _, hEF ▸ pre50 _ (retN X45 hx (t := .boolean) Bd.returns (by simp) (hb hby dI4_49) (hnr ▸ hr)), hrun, hended, _, _, rfl, ?_, ⟨_, rfl⟩, hW, hsame.mono (by decide) (by decide)⟩
    show QI4 Z a1 cz fv c0 c1 c2 c3 r h0 n0 _ T45.heap _
    rw [e45]
    exact ⟨by rw [← hR]; simp [allD, digF, hc23, hc33, hc23'], N45, rfl⟩
  have pre51 : Go p e below T40 (mkF m 26 #[rv a1, iv (1 : Int32), iv (1 : Int32)] []) s₁ EF := fun t k => pre42 t (XS.icmpNo X40.here hx rfl (hb hby dI4_23) rfl (flt hc23').1 k)
  have pre52 : Go p e below T40 (mkF m 28 #[rv a1, iv (1 : Int32), iv (1 : Int32)] [(.int (1 : Int32)), (.ref a1)]) s₁ EF := fun t k => pre51 t (by
      refine XS.aloadN X40.here hx rfl (hb hby dI4_26) rfl rfl ?_
      refine XS.iloadN X40.here hx rfl (hb hby dI4_27) rfl ?_
      exact k)
  obtain ⟨cq53, kq53, q53a, q53b, q53c⟩ := isOf hZ e40 SF.exa
  obtain ⟨_, _, ⟨T53, L53, k53, n53⟩, -, X53, ⟨Lc53, hQ53, l53, y53, z53⟩, st53⟩ := X40.virtualBack hx (y := mN10) (z := mN10) hown (mvT hZ (hw _ (mW 57 rfl))) (mvT hZ (hw _ (mW 58 rfl))) (notFace_of_selects (args := #[]) (mvT hZ (hw _ (mW 60 rfl)))) (mvT hZ (hw _ (mW 60 rfl))) (mvT hZ (hw _ (mW 59 rfl))) (by decide) (backOf (W := 0) (rmJC l Z a0 hw [] a1 (1 : Int32) cz fv [c0, c1, c2, c3] c1 h0 n0 Z0 O0 J0 SF (by decide) rfl) hZ (hw _ (mW 61 rfl)) (hw _ (mW 10 rfl)) (by decide) (by decide)) q53a q53c (g := (mkF m 28 #[rv a1, iv (1 : Int32), iv (1 : Int32)] [(.int (1 : Int32)), (.ref a1)])) rfl (by rw [hml]; rfl) (Steps.refl _) (argsL := [(.int (1 : Int32))]) (rest := []) (lenOf pdI4_1 rfl) rfl (Nat.le_of_eq rfl) (hb hby dI4_28) (fun _ _ => ⟨rfl, e40, wl rfl, wl rfl⟩)
  dsimp only [Pt.U, Pt.locs, Pt.cells, Pt.slots] at X53 l53 y53 z53 st53 hQ53
  subst l53 y53 z53
  obtain ⟨rfl, N53q, hq53⟩ := hQ53
  have N53 := Fr.app N40 N53q
  have pre54 : Go p e below T53 (mkF m 31 #[rv a1, iv (1 : Int32), iv (1 : Int32)] [(.int c1)]) s₁ EF := fun t k => pre52 t (st53.trans k)
  have e53 : T53.heap = h0 := hq53
  have pre55 : Go p e below T53 (mkF m 33 #[rv a1, iv (1 : Int32), iv (1 : Int32)] [(.int (57 : Int32)), (.int c1)]) s₁ EF := fun t k => pre54 t (by
      refine XS.bipush X53.here hx rfl (hb hby dI4_31) ?_
      exact k)
  by_cases hc33' : (57 : Int32) < c1
  · have pre56 : Go p e below T53 (mkF m 40 #[rv a1, iv (1 : Int32), iv (1 : Int32)] []) s₁ EF := fun t k => pre55 t (XS.icmpYes X53.here hx rfl (pc0 := 33) (pc' := 40) rfl (hb hby dI4_33) rfl (tlt hc33').2.2.1 (by decide) (by decide) k)
    have pre57 : Go p e below T53 (mkF m 6 #[rv a1, iv (0 : Int32), iv (2 : Int32)] [(.ref a1), (.int (2 : Int32))]) s₁ EF := fun t k => pre56 t (by
        refine XS.iconst X53.here hx rfl (hb hby dI4_40) ?_
        refine XS.istoreN X53.here hx rfl (hb hby dI4_41) rfl (l' := #[rv a1, iv (0 : Int32), iv (1 : Int32)]) rfl ?_
        refine XS.iinc X53.here hx rfl (hb hby dI4_42) rfl (l' := #[rv a1, iv (0 : Int32), iv (2 : Int32)]) rfl ?_
        refine XS.goto X53.here hx rfl (pc0 := 45) (pc' := 4) rfl (hb hby dI4_45) (by decide) (by decide) ?_
        refine XS.iloadN X53.here hx rfl (hb hby dI4_4) rfl ?_
        refine XS.aloadN X53.here hx rfl (hb hby dI4_5) rfl rfl ?_
        exact k)
    obtain ⟨cq58, kq58, q58a, q58b, q58c⟩ := isOf hZ e53 SF.exa
    obtain ⟨_, _, ⟨T58, L58, k58, n58⟩, -, X58, ⟨Lc58, hQ58, l58, y58, z58⟩, st58⟩ := X53.virtualBack hx (y := mN1) (z := mN1) hown (mvT hZ (hw _ (mW 33 rfl))) (mvT hZ (hw _ (mW 34 rfl))) (notFace_of_selects (args := #[]) (mvT hZ (hw _ (mW 36 rfl)))) (mvT hZ (hw _ (mW 36 rfl))) (mvT hZ (hw _ (mW 35 rfl))) (by decide) (backOf (W := 1) (rmJL l Z a0 hw [] a1 cz fv [c0, c1, c2, c3] (4 : Int32) h0 n0 Z0 O0 J0 SF (by rfl)) hZ (hw _ (mW 37 rfl)) (hw _ (mW 10 rfl)) (by decide) (by decide)) q58a q58c (g := (mkF m 6 #[rv a1, iv (0 : Int32), iv (2 : Int32)] [(.ref a1), (.int (2 : Int32))])) rfl (by rw [hml]; rfl) (Steps.refl _) (argsL := []) (rest := [(.int (2 : Int32))]) (lenOf pdI4_0 rfl) rfl (Nat.le_of_eq rfl) (hb hby dI4_6) (fun _ _ => ⟨rfl, e53, wl rfl, wl rfl⟩)
    dsimp only [Pt.U, Pt.locs, Pt.cells, Pt.slots] at X58 l58 y58 z58 st58 hQ58
    subst l58 y58 z58
    obtain ⟨rfl, N58q, hq58⟩ := hQ58
    have N58 := Fr.app N53 N58q
    have pre59 : Go p e below T58 (mkF m 9 #[rv a1, iv (0 : Int32), iv (2 : Int32)] [(.int (4 : Int32)), (.int (2 : Int32))]) s₁ EF := fun t k => pre57 t (st58.trans k)
    have e58 : T58.heap = h0 := hq58
    have pre60 : Go p e below T58 (mkF m 12 #[rv a1, iv (0 : Int32), iv (2 : Int32)] []) s₁ EF := fun t k => pre59 t (XS.icmpNo X58.here hx rfl (hb hby dI4_9) rfl (tlt (by decide : (2 : Int32) < (4 : Int32))).2.1 k)
    have pre61 : Go p e below T58 (mkF m 13 #[rv a1, iv (0 : Int32), iv (2 : Int32)] [(.int (0 : Int32))]) s₁ EF := fun t k => pre60 t (by
        refine XS.iloadN X58.here hx rfl (hb hby dI4_12) rfl ?_
        exact k)
    have pre62 : Go p e below T58 (mkF m 48 #[rv a1, iv (0 : Int32), iv (2 : Int32)] []) s₁ EF := fun t k => pre61 t (XS.ifYes X58.here hx rfl (pc0 := 13) (pc' := 48) rfl (hb hby dI4_13) rfl ((if0 _ _).trans (teq (by decide : (0 : Int32) = (0 : Int32))).1) (by decide) (by decide) k)
    have pre63 : Go p e below T58 (mkF m 49 #[rv a1, iv (0 : Int32), iv (2 : Int32)] [(.int (0 : Int32))]) s₁ EF := fun t k => pre62 t (by
        refine XS.iloadN X58.here hx rfl (hb hby dI4_48) rfl ?_
        exact k)
    have hnr : Value.int (nar .boolean (0 : Int32)) = (.int (0 : Int32)) := by rfl
    obtain ⟨fs, hr, hrun, hended, hW, hsame⟩ := X58.leave (v := some (.int (0 : Int32))) (fun h => by rw [Bd.returns] at h; cases h)
    refine ⟨_, _, hEF ▸ pre63 _ (retN X58 hx (t := .boolean) Bd.returns (by simp) (hb hby dI4_49) (hnr ▸ hr)), hrun, hended, _, _, rfl, ?_, ⟨_, rfl⟩, hW, hsame.mono (by decide) (by decide)⟩
    show QI4 Z a1 cz fv c0 c1 c2 c3 r h0 n0 _ T58.heap _
    rw [e58]
    exact ⟨by rw [← hR]; simp [allD, digF, hc23, hc33, hc23', hc33'], N58, rfl⟩
  have pre64 : Go p e below T53 (mkF m 36 #[rv a1, iv (1 : Int32), iv (1 : Int32)] []) s₁ EF := fun t k => pre55 t (XS.icmpNo X53.here hx rfl (hb hby dI4_33) rfl (flt hc33').2.2.1 k)
  have pre65 : Go p e below T53 (mkF m 6 #[rv a1, iv (1 : Int32), iv (2 : Int32)] [(.ref a1), (.int (2 : Int32))]) s₁ EF := fun t k => pre64 t (by
      refine XS.iconst X53.here hx rfl (hb hby dI4_36) ?_
      refine XS.goto X53.here hx rfl (pc0 := 37) (pc' := 41) rfl (hb hby dI4_37) (by decide) (by decide) ?_
      refine XS.istoreN X53.here hx rfl (hb hby dI4_41) rfl (l' := #[rv a1, iv (1 : Int32), iv (1 : Int32)]) rfl ?_
      refine XS.iinc X53.here hx rfl (hb hby dI4_42) rfl (l' := #[rv a1, iv (1 : Int32), iv (2 : Int32)]) rfl ?_
      refine XS.goto X53.here hx rfl (pc0 := 45) (pc' := 4) rfl (hb hby dI4_45) (by decide) (by decide) ?_
      refine XS.iloadN X53.here hx rfl (hb hby dI4_4) rfl ?_
      refine XS.aloadN X53.here hx rfl (hb hby dI4_5) rfl rfl ?_
      exact k)
  obtain ⟨cq66, kq66, q66a, q66b, q66c⟩ := isOf hZ e53 SF.exa
  obtain ⟨_, _, ⟨T66, L66, k66, n66⟩, -, X66, ⟨Lc66, hQ66, l66, y66, z66⟩, st66⟩ := X53.virtualBack hx (y := mN1) (z := mN1) hown (mvT hZ (hw _ (mW 33 rfl))) (mvT hZ (hw _ (mW 34 rfl))) (notFace_of_selects (args := #[]) (mvT hZ (hw _ (mW 36 rfl)))) (mvT hZ (hw _ (mW 36 rfl))) (mvT hZ (hw _ (mW 35 rfl))) (by decide) (backOf (W := 1) (rmJL l Z a0 hw [] a1 cz fv [c0, c1, c2, c3] (4 : Int32) h0 n0 Z0 O0 J0 SF (by rfl)) hZ (hw _ (mW 37 rfl)) (hw _ (mW 10 rfl)) (by decide) (by decide)) q66a q66c (g := (mkF m 6 #[rv a1, iv (1 : Int32), iv (2 : Int32)] [(.ref a1), (.int (2 : Int32))])) rfl (by rw [hml]; rfl) (Steps.refl _) (argsL := []) (rest := [(.int (2 : Int32))]) (lenOf pdI4_0 rfl) rfl (Nat.le_of_eq rfl) (hb hby dI4_6) (fun _ _ => ⟨rfl, e53, wl rfl, wl rfl⟩)
  dsimp only [Pt.U, Pt.locs, Pt.cells, Pt.slots] at X66 l66 y66 z66 st66 hQ66
  subst l66 y66 z66
  obtain ⟨rfl, N66q, hq66⟩ := hQ66
  have N66 := Fr.app N53 N66q
  have pre67 : Go p e below T66 (mkF m 9 #[rv a1, iv (1 : Int32), iv (2 : Int32)] [(.int (4 : Int32)), (.int (2 : Int32))]) s₁ EF := fun t k => pre65 t (st66.trans k)
  have e66 : T66.heap = h0 := hq66
  have pre68 : Go p e below T66 (mkF m 12 #[rv a1, iv (1 : Int32), iv (2 : Int32)] []) s₁ EF := fun t k => pre67 t (XS.icmpNo X66.here hx rfl (hb hby dI4_9) rfl (tlt (by decide : (2 : Int32) < (4 : Int32))).2.1 k)
  have pre69 : Go p e below T66 (mkF m 13 #[rv a1, iv (1 : Int32), iv (2 : Int32)] [(.int (1 : Int32))]) s₁ EF := fun t k => pre68 t (by
      refine XS.iloadN X66.here hx rfl (hb hby dI4_12) rfl ?_
      exact k)
  have pre70 : Go p e below T66 (mkF m 16 #[rv a1, iv (1 : Int32), iv (2 : Int32)] []) s₁ EF := fun t k => pre69 t (XS.ifNo X66.here hx rfl (hb hby dI4_13) rfl ((if0 _ _).trans (feq (by decide : ¬ ((1 : Int32) = (0 : Int32)))).1) k)
  have pre71 : Go p e below T66 (mkF m 18 #[rv a1, iv (1 : Int32), iv (2 : Int32)] [(.int (2 : Int32)), (.ref a1)]) s₁ EF := fun t k => pre70 t (by
      refine XS.aloadN X66.here hx rfl (hb hby dI4_16) rfl rfl ?_
      refine XS.iloadN X66.here hx rfl (hb hby dI4_17) rfl ?_
      exact k)
  obtain ⟨cq72, kq72, q72a, q72b, q72c⟩ := isOf hZ e66 SF.exa
  obtain ⟨_, _, ⟨T72, L72, k72, n72⟩, -, X72, ⟨Lc72, hQ72, l72, y72, z72⟩, st72⟩ := X66.virtualBack hx (y := mN10) (z := mN10) hown (mvT hZ (hw _ (mW 57 rfl))) (mvT hZ (hw _ (mW 58 rfl))) (notFace_of_selects (args := #[]) (mvT hZ (hw _ (mW 60 rfl)))) (mvT hZ (hw _ (mW 60 rfl))) (mvT hZ (hw _ (mW 59 rfl))) (by decide) (backOf (W := 0) (rmJC l Z a0 hw [] a1 (2 : Int32) cz fv [c0, c1, c2, c3] c2 h0 n0 Z0 O0 J0 SF (by decide) rfl) hZ (hw _ (mW 61 rfl)) (hw _ (mW 10 rfl)) (by decide) (by decide)) q72a q72c (g := (mkF m 18 #[rv a1, iv (1 : Int32), iv (2 : Int32)] [(.int (2 : Int32)), (.ref a1)])) rfl (by rw [hml]; rfl) (Steps.refl _) (argsL := [(.int (2 : Int32))]) (rest := []) (lenOf pdI4_1 rfl) rfl (Nat.le_of_eq rfl) (hb hby dI4_18) (fun _ _ => ⟨rfl, e66, wl rfl, wl rfl⟩)
  dsimp only [Pt.U, Pt.locs, Pt.cells, Pt.slots] at X72 l72 y72 z72 st72 hQ72
  subst l72 y72 z72
  obtain ⟨rfl, N72q, hq72⟩ := hQ72
  have N72 := Fr.app N66 N72q
  have pre73 : Go p e below T72 (mkF m 21 #[rv a1, iv (1 : Int32), iv (2 : Int32)] [(.int c2)]) s₁ EF := fun t k => pre71 t (st72.trans k)
  have e72 : T72.heap = h0 := hq72
  have pre74 : Go p e below T72 (mkF m 23 #[rv a1, iv (1 : Int32), iv (2 : Int32)] [(.int (48 : Int32)), (.int c2)]) s₁ EF := fun t k => pre73 t (by
      refine XS.bipush X72.here hx rfl (hb hby dI4_21) ?_
      exact k)
  by_cases hc23'' : c2 < (48 : Int32)
  · have pre75 : Go p e below T72 (mkF m 40 #[rv a1, iv (1 : Int32), iv (2 : Int32)] []) s₁ EF := fun t k => pre74 t (XS.icmpYes X72.here hx rfl (pc0 := 23) (pc' := 40) rfl (hb hby dI4_23) rfl (tlt hc23'').1 (by decide) (by decide) k)
    have pre76 : Go p e below T72 (mkF m 6 #[rv a1, iv (0 : Int32), iv (3 : Int32)] [(.ref a1), (.int (3 : Int32))]) s₁ EF := fun t k => pre75 t (by
        refine XS.iconst X72.here hx rfl (hb hby dI4_40) ?_
        refine XS.istoreN X72.here hx rfl (hb hby dI4_41) rfl (l' := #[rv a1, iv (0 : Int32), iv (2 : Int32)]) rfl ?_
        refine XS.iinc X72.here hx rfl (hb hby dI4_42) rfl (l' := #[rv a1, iv (0 : Int32), iv (3 : Int32)]) rfl ?_
        refine XS.goto X72.here hx rfl (pc0 := 45) (pc' := 4) rfl (hb hby dI4_45) (by decide) (by decide) ?_
        refine XS.iloadN X72.here hx rfl (hb hby dI4_4) rfl ?_
        refine XS.aloadN X72.here hx rfl (hb hby dI4_5) rfl rfl ?_
        exact k)
    obtain ⟨cq77, kq77, q77a, q77b, q77c⟩ := isOf hZ e72 SF.exa
    obtain ⟨_, _, ⟨T77, L77, k77, n77⟩, -, X77, ⟨Lc77, hQ77, l77, y77, z77⟩, st77⟩ := X72.virtualBack hx (y := mN1) (z := mN1) hown (mvT hZ (hw _ (mW 33 rfl))) (mvT hZ (hw _ (mW 34 rfl))) (notFace_of_selects (args := #[]) (mvT hZ (hw _ (mW 36 rfl)))) (mvT hZ (hw _ (mW 36 rfl))) (mvT hZ (hw _ (mW 35 rfl))) (by decide) (backOf (W := 1) (rmJL l Z a0 hw [] a1 cz fv [c0, c1, c2, c3] (4 : Int32) h0 n0 Z0 O0 J0 SF (by rfl)) hZ (hw _ (mW 37 rfl)) (hw _ (mW 10 rfl)) (by decide) (by decide)) q77a q77c (g := (mkF m 6 #[rv a1, iv (0 : Int32), iv (3 : Int32)] [(.ref a1), (.int (3 : Int32))])) rfl (by rw [hml]; rfl) (Steps.refl _) (argsL := []) (rest := [(.int (3 : Int32))]) (lenOf pdI4_0 rfl) rfl (Nat.le_of_eq rfl) (hb hby dI4_6) (fun _ _ => ⟨rfl, e72, wl rfl, wl rfl⟩)
    dsimp only [Pt.U, Pt.locs, Pt.cells, Pt.slots] at X77 l77 y77 z77 st77 hQ77
    subst l77 y77 z77
    obtain ⟨rfl, N77q, hq77⟩ := hQ77
    have N77 := Fr.app N72 N77q
    have pre78 : Go p e below T77 (mkF m 9 #[rv a1, iv (0 : Int32), iv (3 : Int32)] [(.int (4 : Int32)), (.int (3 : Int32))]) s₁ EF := fun t k => pre76 t (st77.trans k)
    have e77 : T77.heap = h0 := hq77
    have pre79 : Go p e below T77 (mkF m 12 #[rv a1, iv (0 : Int32), iv (3 : Int32)] []) s₁ EF := fun t k => pre78 t (XS.icmpNo X77.here hx rfl (hb hby dI4_9) rfl (tlt (by decide : (3 : Int32) < (4 : Int32))).2.1 k)
    have pre80 : Go p e below T77 (mkF m 13 #[rv a1, iv (0 : Int32), iv (3 : Int32)] [(.int (0 : Int32))]) s₁ EF := fun t k => pre79 t (by
        refine XS.iloadN X77.here hx rfl (hb hby dI4_12) rfl ?_
        exact k)
    have pre81 : Go p e below T77 (mkF m 48 #[rv a1, iv (0 : Int32), iv (3 : Int32)] []) s₁ EF := fun t k => pre80 t (XS.ifYes X77.here hx rfl (pc0 := 13) (pc' := 48) rfl (hb hby dI4_13) rfl ((if0 _ _).trans (teq (by decide : (0 : Int32) = (0 : Int32))).1) (by decide) (by decide) k)
    have pre82 : Go p e below T77 (mkF m 49 #[rv a1, iv (0 : Int32), iv (3 : Int32)] [(.int (0 : Int32))]) s₁ EF := fun t k => pre81 t (by
        refine XS.iloadN X77.here hx rfl (hb hby dI4_48) rfl ?_
        exact k)
    have hnr : Value.int (nar .boolean (0 : Int32)) = (.int (0 : Int32)) := by rfl
    obtain ⟨fs, hr, hrun, hended, hW, hsame⟩ := X77.leave (v := some (.int (0 : Int32))) (fun h => by rw [Bd.returns] at h; cases h)
    refine ⟨_, _, hEF ▸ pre82 _ (retN X77 hx (t := .boolean) Bd.returns (by simp) (hb hby dI4_49) (hnr ▸ hr)), hrun, hended, _, _, rfl, ?_, ⟨_, rfl⟩, hW, hsame.mono (by decide) (by decide)⟩
    show QI4 Z a1 cz fv c0 c1 c2 c3 r h0 n0 _ T77.heap _
    rw [e77]
    exact ⟨by rw [← hR]; simp [allD, digF, hc23, hc33, hc23', hc33', hc23''], N77, rfl⟩
  have pre83 : Go p e below T72 (mkF m 26 #[rv a1, iv (1 : Int32), iv (2 : Int32)] []) s₁ EF := fun t k => pre74 t (XS.icmpNo X72.here hx rfl (hb hby dI4_23) rfl (flt hc23'').1 k)
  have pre84 : Go p e below T72 (mkF m 28 #[rv a1, iv (1 : Int32), iv (2 : Int32)] [(.int (2 : Int32)), (.ref a1)]) s₁ EF := fun t k => pre83 t (by
      refine XS.aloadN X72.here hx rfl (hb hby dI4_26) rfl rfl ?_
      refine XS.iloadN X72.here hx rfl (hb hby dI4_27) rfl ?_
      exact k)
  obtain ⟨cq85, kq85, q85a, q85b, q85c⟩ := isOf hZ e72 SF.exa
  obtain ⟨_, _, ⟨T85, L85, k85, n85⟩, -, X85, ⟨Lc85, hQ85, l85, y85, z85⟩, st85⟩ := X72.virtualBack hx (y := mN10) (z := mN10) hown (mvT hZ (hw _ (mW 57 rfl))) (mvT hZ (hw _ (mW 58 rfl))) (notFace_of_selects (args := #[]) (mvT hZ (hw _ (mW 60 rfl)))) (mvT hZ (hw _ (mW 60 rfl))) (mvT hZ (hw _ (mW 59 rfl))) (by decide) (backOf (W := 0) (rmJC l Z a0 hw [] a1 (2 : Int32) cz fv [c0, c1, c2, c3] c2 h0 n0 Z0 O0 J0 SF (by decide) rfl) hZ (hw _ (mW 61 rfl)) (hw _ (mW 10 rfl)) (by decide) (by decide)) q85a q85c (g := (mkF m 28 #[rv a1, iv (1 : Int32), iv (2 : Int32)] [(.int (2 : Int32)), (.ref a1)])) rfl (by rw [hml]; rfl) (Steps.refl _) (argsL := [(.int (2 : Int32))]) (rest := []) (lenOf pdI4_1 rfl) rfl (Nat.le_of_eq rfl) (hb hby dI4_28) (fun _ _ => ⟨rfl, e72, wl rfl, wl rfl⟩)
  dsimp only [Pt.U, Pt.locs, Pt.cells, Pt.slots] at X85 l85 y85 z85 st85 hQ85
  subst l85 y85 z85
  obtain ⟨rfl, N85q, hq85⟩ := hQ85
  have N85 := Fr.app N72 N85q
  have pre86 : Go p e below T85 (mkF m 31 #[rv a1, iv (1 : Int32), iv (2 : Int32)] [(.int c2)]) s₁ EF := fun t k => pre84 t (st85.trans k)
  have e85 : T85.heap = h0 := hq85
  have pre87 : Go p e below T85 (mkF m 33 #[rv a1, iv (1 : Int32), iv (2 : Int32)] [(.int (57 : Int32)), (.int c2)]) s₁ EF := fun t k => pre86 t (by
      refine XS.bipush X85.here hx rfl (hb hby dI4_31) ?_
      exact k)
  by_cases hc33'' : (57 : Int32) < c2
  · have pre88 : Go p e below T85 (mkF m 40 #[rv a1, iv (1 : Int32), iv (2 : Int32)] []) s₁ EF := fun t k => pre87 t (XS.icmpYes X85.here hx rfl (pc0 := 33) (pc' := 40) rfl (hb hby dI4_33) rfl (tlt hc33'').2.2.1 (by decide) (by decide) k)
    have pre89 : Go p e below T85 (mkF m 6 #[rv a1, iv (0 : Int32), iv (3 : Int32)] [(.ref a1), (.int (3 : Int32))]) s₁ EF := fun t k => pre88 t (by
        refine XS.iconst X85.here hx rfl (hb hby dI4_40) ?_
        refine XS.istoreN X85.here hx rfl (hb hby dI4_41) rfl (l' := #[rv a1, iv (0 : Int32), iv (2 : Int32)]) rfl ?_
        refine XS.iinc X85.here hx rfl (hb hby dI4_42) rfl (l' := #[rv a1, iv (0 : Int32), iv (3 : Int32)]) rfl ?_
        refine XS.goto X85.here hx rfl (pc0 := 45) (pc' := 4) rfl (hb hby dI4_45) (by decide) (by decide) ?_
        refine XS.iloadN X85.here hx rfl (hb hby dI4_4) rfl ?_
        refine XS.aloadN X85.here hx rfl (hb hby dI4_5) rfl rfl ?_
        exact k)
    obtain ⟨cq90, kq90, q90a, q90b, q90c⟩ := isOf hZ e85 SF.exa
    obtain ⟨_, _, ⟨T90, L90, k90, n90⟩, -, X90, ⟨Lc90, hQ90, l90, y90, z90⟩, st90⟩ := X85.virtualBack hx (y := mN1) (z := mN1) hown (mvT hZ (hw _ (mW 33 rfl))) (mvT hZ (hw _ (mW 34 rfl))) (notFace_of_selects (args := #[]) (mvT hZ (hw _ (mW 36 rfl)))) (mvT hZ (hw _ (mW 36 rfl))) (mvT hZ (hw _ (mW 35 rfl))) (by decide) (backOf (W := 1) (rmJL l Z a0 hw [] a1 cz fv [c0, c1, c2, c3] (4 : Int32) h0 n0 Z0 O0 J0 SF (by rfl)) hZ (hw _ (mW 37 rfl)) (hw _ (mW 10 rfl)) (by decide) (by decide)) q90a q90c (g := (mkF m 6 #[rv a1, iv (0 : Int32), iv (3 : Int32)] [(.ref a1), (.int (3 : Int32))])) rfl (by rw [hml]; rfl) (Steps.refl _) (argsL := []) (rest := [(.int (3 : Int32))]) (lenOf pdI4_0 rfl) rfl (Nat.le_of_eq rfl) (hb hby dI4_6) (fun _ _ => ⟨rfl, e85, wl rfl, wl rfl⟩)
    dsimp only [Pt.U, Pt.locs, Pt.cells, Pt.slots] at X90 l90 y90 z90 st90 hQ90
    subst l90 y90 z90
    obtain ⟨rfl, N90q, hq90⟩ := hQ90
    have N90 := Fr.app N85 N90q
    have pre91 : Go p e below T90 (mkF m 9 #[rv a1, iv (0 : Int32), iv (3 : Int32)] [(.int (4 : Int32)), (.int (3 : Int32))]) s₁ EF := fun t k => pre89 t (st90.trans k)
    have e90 : T90.heap = h0 := hq90
    have pre92 : Go p e below T90 (mkF m 12 #[rv a1, iv (0 : Int32), iv (3 : Int32)] []) s₁ EF := fun t k => pre91 t (XS.icmpNo X90.here hx rfl (hb hby dI4_9) rfl (tlt (by decide : (3 : Int32) < (4 : Int32))).2.1 k)
    have pre93 : Go p e below T90 (mkF m 13 #[rv a1, iv (0 : Int32), iv (3 : Int32)] [(.int (0 : Int32))]) s₁ EF := fun t k => pre92 t (by
        refine XS.iloadN X90.here hx rfl (hb hby dI4_12) rfl ?_
        exact k)
    have pre94 : Go p e below T90 (mkF m 48 #[rv a1, iv (0 : Int32), iv (3 : Int32)] []) s₁ EF := fun t k => pre93 t (XS.ifYes X90.here hx rfl (pc0 := 13) (pc' := 48) rfl (hb hby dI4_13) rfl ((if0 _ _).trans (teq (by decide : (0 : Int32) = (0 : Int32))).1) (by decide) (by decide) k)
    have pre95 : Go p e below T90 (mkF m 49 #[rv a1, iv (0 : Int32), iv (3 : Int32)] [(.int (0 : Int32))]) s₁ EF := fun t k => pre94 t (by
        refine XS.iloadN X90.here hx rfl (hb hby dI4_48) rfl ?_
        exact k)
    have hnr : Value.int (nar .boolean (0 : Int32)) = (.int (0 : Int32)) := by rfl
    obtain ⟨fs, hr, hrun, hended, hW, hsame⟩ := X90.leave (v := some (.int (0 : Int32))) (fun h => by rw [Bd.returns] at h; cases h)
    refine ⟨_, _, hEF ▸ pre95 _ (retN X90 hx (t := .boolean) Bd.returns (by simp) (hb hby dI4_49) (hnr ▸ hr)), hrun, hended, _, _, rfl, ?_, ⟨_, rfl⟩, hW, hsame.mono (by decide) (by decide)⟩
    show QI4 Z a1 cz fv c0 c1 c2 c3 r h0 n0 _ T90.heap _
    rw [e90]
    exact ⟨by rw [← hR]; simp [allD, digF, hc23, hc33, hc23', hc33', hc23'', hc33''], N90, rfl⟩
  have pre96 : Go p e below T85 (mkF m 36 #[rv a1, iv (1 : Int32), iv (2 : Int32)] []) s₁ EF := fun t k => pre87 t (XS.icmpNo X85.here hx rfl (hb hby dI4_33) rfl (flt hc33'').2.2.1 k)
  have pre97 : Go p e below T85 (mkF m 6 #[rv a1, iv (1 : Int32), iv (3 : Int32)] [(.ref a1), (.int (3 : Int32))]) s₁ EF := fun t k => pre96 t (by
      refine XS.iconst X85.here hx rfl (hb hby dI4_36) ?_
      refine XS.goto X85.here hx rfl (pc0 := 37) (pc' := 41) rfl (hb hby dI4_37) (by decide) (by decide) ?_
      refine XS.istoreN X85.here hx rfl (hb hby dI4_41) rfl (l' := #[rv a1, iv (1 : Int32), iv (2 : Int32)]) rfl ?_
      refine XS.iinc X85.here hx rfl (hb hby dI4_42) rfl (l' := #[rv a1, iv (1 : Int32), iv (3 : Int32)]) rfl ?_
      refine XS.goto X85.here hx rfl (pc0 := 45) (pc' := 4) rfl (hb hby dI4_45) (by decide) (by decide) ?_
      refine XS.iloadN X85.here hx rfl (hb hby dI4_4) rfl ?_
      refine XS.aloadN X85.here hx rfl (hb hby dI4_5) rfl rfl ?_
      exact k)
  obtain ⟨cq98, kq98, q98a, q98b, q98c⟩ := isOf hZ e85 SF.exa
  obtain ⟨_, _, ⟨T98, L98, k98, n98⟩, -, X98, ⟨Lc98, hQ98, l98, y98, z98⟩, st98⟩ := X85.virtualBack hx (y := mN1) (z := mN1) hown (mvT hZ (hw _ (mW 33 rfl))) (mvT hZ (hw _ (mW 34 rfl))) (notFace_of_selects (args := #[]) (mvT hZ (hw _ (mW 36 rfl)))) (mvT hZ (hw _ (mW 36 rfl))) (mvT hZ (hw _ (mW 35 rfl))) (by decide) (backOf (W := 1) (rmJL l Z a0 hw [] a1 cz fv [c0, c1, c2, c3] (4 : Int32) h0 n0 Z0 O0 J0 SF (by rfl)) hZ (hw _ (mW 37 rfl)) (hw _ (mW 10 rfl)) (by decide) (by decide)) q98a q98c (g := (mkF m 6 #[rv a1, iv (1 : Int32), iv (3 : Int32)] [(.ref a1), (.int (3 : Int32))])) rfl (by rw [hml]; rfl) (Steps.refl _) (argsL := []) (rest := [(.int (3 : Int32))]) (lenOf pdI4_0 rfl) rfl (Nat.le_of_eq rfl) (hb hby dI4_6) (fun _ _ => ⟨rfl, e85, wl rfl, wl rfl⟩)
  dsimp only [Pt.U, Pt.locs, Pt.cells, Pt.slots] at X98 l98 y98 z98 st98 hQ98
  subst l98 y98 z98
  obtain ⟨rfl, N98q, hq98⟩ := hQ98
  have N98 := Fr.app N85 N98q
  have pre99 : Go p e below T98 (mkF m 9 #[rv a1, iv (1 : Int32), iv (3 : Int32)] [(.int (4 : Int32)), (.int (3 : Int32))]) s₁ EF := fun t k => pre97 t (st98.trans k)
  have e98 : T98.heap = h0 := hq98
  have pre100 : Go p e below T98 (mkF m 12 #[rv a1, iv (1 : Int32), iv (3 : Int32)] []) s₁ EF := fun t k => pre99 t (XS.icmpNo X98.here hx rfl (hb hby dI4_9) rfl (tlt (by decide : (3 : Int32) < (4 : Int32))).2.1 k)
  have pre101 : Go p e below T98 (mkF m 13 #[rv a1, iv (1 : Int32), iv (3 : Int32)] [(.int (1 : Int32))]) s₁ EF := fun t k => pre100 t (by
      refine XS.iloadN X98.here hx rfl (hb hby dI4_12) rfl ?_
      exact k)
  have pre102 : Go p e below T98 (mkF m 16 #[rv a1, iv (1 : Int32), iv (3 : Int32)] []) s₁ EF := fun t k => pre101 t (XS.ifNo X98.here hx rfl (hb hby dI4_13) rfl ((if0 _ _).trans (feq (by decide : ¬ ((1 : Int32) = (0 : Int32)))).1) k)
  have pre103 : Go p e below T98 (mkF m 18 #[rv a1, iv (1 : Int32), iv (3 : Int32)] [(.int (3 : Int32)), (.ref a1)]) s₁ EF := fun t k => pre102 t (by
      refine XS.aloadN X98.here hx rfl (hb hby dI4_16) rfl rfl ?_
      refine XS.iloadN X98.here hx rfl (hb hby dI4_17) rfl ?_
      exact k)
  obtain ⟨cq104, kq104, q104a, q104b, q104c⟩ := isOf hZ e98 SF.exa
  obtain ⟨_, _, ⟨T104, L104, k104, n104⟩, -, X104, ⟨Lc104, hQ104, l104, y104, z104⟩, st104⟩ := X98.virtualBack hx (y := mN10) (z := mN10) hown (mvT hZ (hw _ (mW 57 rfl))) (mvT hZ (hw _ (mW 58 rfl))) (notFace_of_selects (args := #[]) (mvT hZ (hw _ (mW 60 rfl)))) (mvT hZ (hw _ (mW 60 rfl))) (mvT hZ (hw _ (mW 59 rfl))) (by decide) (backOf (W := 0) (rmJC l Z a0 hw [] a1 (3 : Int32) cz fv [c0, c1, c2, c3] c3 h0 n0 Z0 O0 J0 SF (by decide) rfl) hZ (hw _ (mW 61 rfl)) (hw _ (mW 10 rfl)) (by decide) (by decide)) q104a q104c (g := (mkF m 18 #[rv a1, iv (1 : Int32), iv (3 : Int32)] [(.int (3 : Int32)), (.ref a1)])) rfl (by rw [hml]; rfl) (Steps.refl _) (argsL := [(.int (3 : Int32))]) (rest := []) (lenOf pdI4_1 rfl) rfl (Nat.le_of_eq rfl) (hb hby dI4_18) (fun _ _ => ⟨rfl, e98, wl rfl, wl rfl⟩)
  dsimp only [Pt.U, Pt.locs, Pt.cells, Pt.slots] at X104 l104 y104 z104 st104 hQ104
  subst l104 y104 z104
  obtain ⟨rfl, N104q, hq104⟩ := hQ104
  have N104 := Fr.app N98 N104q
  have pre105 : Go p e below T104 (mkF m 21 #[rv a1, iv (1 : Int32), iv (3 : Int32)] [(.int c3)]) s₁ EF := fun t k => pre103 t (st104.trans k)
  have e104 : T104.heap = h0 := hq104
  have pre106 : Go p e below T104 (mkF m 23 #[rv a1, iv (1 : Int32), iv (3 : Int32)] [(.int (48 : Int32)), (.int c3)]) s₁ EF := fun t k => pre105 t (by
      refine XS.bipush X104.here hx rfl (hb hby dI4_21) ?_
      exact k)
  by_cases hc23''' : c3 < (48 : Int32)
  · have pre107 : Go p e below T104 (mkF m 40 #[rv a1, iv (1 : Int32), iv (3 : Int32)] []) s₁ EF := fun t k => pre106 t (XS.icmpYes X104.here hx rfl (pc0 := 23) (pc' := 40) rfl (hb hby dI4_23) rfl (tlt hc23''').1 (by decide) (by decide) k)
    have pre108 : Go p e below T104 (mkF m 6 #[rv a1, iv (0 : Int32), iv (4 : Int32)] [(.ref a1), (.int (4 : Int32))]) s₁ EF := fun t k => pre107 t (by
        refine XS.iconst X104.here hx rfl (hb hby dI4_40) ?_
        refine XS.istoreN X104.here hx rfl (hb hby dI4_41) rfl (l' := #[rv a1, iv (0 : Int32), iv (3 : Int32)]) rfl ?_
        refine XS.iinc X104.here hx rfl (hb hby dI4_42) rfl (l' := #[rv a1, iv (0 : Int32), iv (4 : Int32)]) rfl ?_
        refine XS.goto X104.here hx rfl (pc0 := 45) (pc' := 4) rfl (hb hby dI4_45) (by decide) (by decide) ?_
        refine XS.iloadN X104.here hx rfl (hb hby dI4_4) rfl ?_
        refine XS.aloadN X104.here hx rfl (hb hby dI4_5) rfl rfl ?_
        exact k)
    obtain ⟨cq109, kq109, q109a, q109b, q109c⟩ := isOf hZ e104 SF.exa
    obtain ⟨_, _, ⟨T109, L109, k109, n109⟩, -, X109, ⟨Lc109, hQ109, l109, y109, z109⟩, st109⟩ := X104.virtualBack hx (y := mN1) (z := mN1) hown (mvT hZ (hw _ (mW 33 rfl))) (mvT hZ (hw _ (mW 34 rfl))) (notFace_of_selects (args := #[]) (mvT hZ (hw _ (mW 36 rfl)))) (mvT hZ (hw _ (mW 36 rfl))) (mvT hZ (hw _ (mW 35 rfl))) (by decide) (backOf (W := 1) (rmJL l Z a0 hw [] a1 cz fv [c0, c1, c2, c3] (4 : Int32) h0 n0 Z0 O0 J0 SF (by rfl)) hZ (hw _ (mW 37 rfl)) (hw _ (mW 10 rfl)) (by decide) (by decide)) q109a q109c (g := (mkF m 6 #[rv a1, iv (0 : Int32), iv (4 : Int32)] [(.ref a1), (.int (4 : Int32))])) rfl (by rw [hml]; rfl) (Steps.refl _) (argsL := []) (rest := [(.int (4 : Int32))]) (lenOf pdI4_0 rfl) rfl (Nat.le_of_eq rfl) (hb hby dI4_6) (fun _ _ => ⟨rfl, e104, wl rfl, wl rfl⟩)
    dsimp only [Pt.U, Pt.locs, Pt.cells, Pt.slots] at X109 l109 y109 z109 st109 hQ109
    subst l109 y109 z109
    obtain ⟨rfl, N109q, hq109⟩ := hQ109
    have N109 := Fr.app N104 N109q
    have pre110 : Go p e below T109 (mkF m 9 #[rv a1, iv (0 : Int32), iv (4 : Int32)] [(.int (4 : Int32)), (.int (4 : Int32))]) s₁ EF := fun t k => pre108 t (st109.trans k)
    have e109 : T109.heap = h0 := hq109
    have pre111 : Go p e below T109 (mkF m 48 #[rv a1, iv (0 : Int32), iv (4 : Int32)] []) s₁ EF := fun t k => pre110 t (XS.icmpYes X109.here hx rfl (pc0 := 9) (pc' := 48) rfl (hb hby dI4_9) rfl (flt (by decide : ¬ ((4 : Int32) < (4 : Int32)))).2.1 (by decide) (by decide) k)
    have pre112 : Go p e below T109 (mkF m 49 #[rv a1, iv (0 : Int32), iv (4 : Int32)] [(.int (0 : Int32))]) s₁ EF := fun t k => pre111 t (by
        refine XS.iloadN X109.here hx rfl (hb hby dI4_48) rfl ?_
        exact k)
    have hnr : Value.int (nar .boolean (0 : Int32)) = (.int (0 : Int32)) := by rfl
    obtain ⟨fs, hr, hrun, hended, hW, hsame⟩ := X109.leave (v := some (.int (0 : Int32))) (fun h => by rw [Bd.returns] at h; cases h)
    refine ⟨_, _, hEF ▸ pre112 _ (retN X109 hx (t := .boolean) Bd.returns (by simp) (hb hby dI4_49) (hnr ▸ hr)), hrun, hended, _, _, rfl, ?_, ⟨_, rfl⟩, hW, hsame.mono (by decide) (by decide)⟩
    show QI4 Z a1 cz fv c0 c1 c2 c3 r h0 n0 _ T109.heap _
    rw [e109]
    exact ⟨by rw [← hR]; simp [allD, digF, hc23, hc33, hc23', hc33', hc23'', hc33'', hc23'''], N109, rfl⟩
  have pre113 : Go p e below T104 (mkF m 26 #[rv a1, iv (1 : Int32), iv (3 : Int32)] []) s₁ EF := fun t k => pre106 t (XS.icmpNo X104.here hx rfl (hb hby dI4_23) rfl (flt hc23''').1 k)
  have pre114 : Go p e below T104 (mkF m 28 #[rv a1, iv (1 : Int32), iv (3 : Int32)] [(.int (3 : Int32)), (.ref a1)]) s₁ EF := fun t k => pre113 t (by
      refine XS.aloadN X104.here hx rfl (hb hby dI4_26) rfl rfl ?_
      refine XS.iloadN X104.here hx rfl (hb hby dI4_27) rfl ?_
      exact k)
  obtain ⟨cq115, kq115, q115a, q115b, q115c⟩ := isOf hZ e104 SF.exa
  obtain ⟨_, _, ⟨T115, L115, k115, n115⟩, -, X115, ⟨Lc115, hQ115, l115, y115, z115⟩, st115⟩ := X104.virtualBack hx (y := mN10) (z := mN10) hown (mvT hZ (hw _ (mW 57 rfl))) (mvT hZ (hw _ (mW 58 rfl))) (notFace_of_selects (args := #[]) (mvT hZ (hw _ (mW 60 rfl)))) (mvT hZ (hw _ (mW 60 rfl))) (mvT hZ (hw _ (mW 59 rfl))) (by decide) (backOf (W := 0) (rmJC l Z a0 hw [] a1 (3 : Int32) cz fv [c0, c1, c2, c3] c3 h0 n0 Z0 O0 J0 SF (by decide) rfl) hZ (hw _ (mW 61 rfl)) (hw _ (mW 10 rfl)) (by decide) (by decide)) q115a q115c (g := (mkF m 28 #[rv a1, iv (1 : Int32), iv (3 : Int32)] [(.int (3 : Int32)), (.ref a1)])) rfl (by rw [hml]; rfl) (Steps.refl _) (argsL := [(.int (3 : Int32))]) (rest := []) (lenOf pdI4_1 rfl) rfl (Nat.le_of_eq rfl) (hb hby dI4_28) (fun _ _ => ⟨rfl, e104, wl rfl, wl rfl⟩)
  dsimp only [Pt.U, Pt.locs, Pt.cells, Pt.slots] at X115 l115 y115 z115 st115 hQ115
  subst l115 y115 z115
  obtain ⟨rfl, N115q, hq115⟩ := hQ115
  have N115 := Fr.app N104 N115q
  have pre116 : Go p e below T115 (mkF m 31 #[rv a1, iv (1 : Int32), iv (3 : Int32)] [(.int c3)]) s₁ EF := fun t k => pre114 t (st115.trans k)
  have e115 : T115.heap = h0 := hq115
  have pre117 : Go p e below T115 (mkF m 33 #[rv a1, iv (1 : Int32), iv (3 : Int32)] [(.int (57 : Int32)), (.int c3)]) s₁ EF := fun t k => pre116 t (by
      refine XS.bipush X115.here hx rfl (hb hby dI4_31) ?_
      exact k)
  by_cases hc33''' : (57 : Int32) < c3
  · have pre118 : Go p e below T115 (mkF m 40 #[rv a1, iv (1 : Int32), iv (3 : Int32)] []) s₁ EF := fun t k => pre117 t (XS.icmpYes X115.here hx rfl (pc0 := 33) (pc' := 40) rfl (hb hby dI4_33) rfl (tlt hc33''').2.2.1 (by decide) (by decide) k)
    have pre119 : Go p e below T115 (mkF m 6 #[rv a1, iv (0 : Int32), iv (4 : Int32)] [(.ref a1), (.int (4 : Int32))]) s₁ EF := fun t k => pre118 t (by
        refine XS.iconst X115.here hx rfl (hb hby dI4_40) ?_
        refine XS.istoreN X115.here hx rfl (hb hby dI4_41) rfl (l' := #[rv a1, iv (0 : Int32), iv (3 : Int32)]) rfl ?_
        refine XS.iinc X115.here hx rfl (hb hby dI4_42) rfl (l' := #[rv a1, iv (0 : Int32), iv (4 : Int32)]) rfl ?_
        refine XS.goto X115.here hx rfl (pc0 := 45) (pc' := 4) rfl (hb hby dI4_45) (by decide) (by decide) ?_
        refine XS.iloadN X115.here hx rfl (hb hby dI4_4) rfl ?_
        refine XS.aloadN X115.here hx rfl (hb hby dI4_5) rfl rfl ?_
        exact k)
    obtain ⟨cq120, kq120, q120a, q120b, q120c⟩ := isOf hZ e115 SF.exa
    obtain ⟨_, _, ⟨T120, L120, k120, n120⟩, -, X120, ⟨Lc120, hQ120, l120, y120, z120⟩, st120⟩ := X115.virtualBack hx (y := mN1) (z := mN1) hown (mvT hZ (hw _ (mW 33 rfl))) (mvT hZ (hw _ (mW 34 rfl))) (notFace_of_selects (args := #[]) (mvT hZ (hw _ (mW 36 rfl)))) (mvT hZ (hw _ (mW 36 rfl))) (mvT hZ (hw _ (mW 35 rfl))) (by decide) (backOf (W := 1) (rmJL l Z a0 hw [] a1 cz fv [c0, c1, c2, c3] (4 : Int32) h0 n0 Z0 O0 J0 SF (by rfl)) hZ (hw _ (mW 37 rfl)) (hw _ (mW 10 rfl)) (by decide) (by decide)) q120a q120c (g := (mkF m 6 #[rv a1, iv (0 : Int32), iv (4 : Int32)] [(.ref a1), (.int (4 : Int32))])) rfl (by rw [hml]; rfl) (Steps.refl _) (argsL := []) (rest := [(.int (4 : Int32))]) (lenOf pdI4_0 rfl) rfl (Nat.le_of_eq rfl) (hb hby dI4_6) (fun _ _ => ⟨rfl, e115, wl rfl, wl rfl⟩)
    dsimp only [Pt.U, Pt.locs, Pt.cells, Pt.slots] at X120 l120 y120 z120 st120 hQ120
    subst l120 y120 z120
    obtain ⟨rfl, N120q, hq120⟩ := hQ120
    have N120 := Fr.app N115 N120q
    have pre121 : Go p e below T120 (mkF m 9 #[rv a1, iv (0 : Int32), iv (4 : Int32)] [(.int (4 : Int32)), (.int (4 : Int32))]) s₁ EF := fun t k => pre119 t (st120.trans k)
    have e120 : T120.heap = h0 := hq120
    have pre122 : Go p e below T120 (mkF m 48 #[rv a1, iv (0 : Int32), iv (4 : Int32)] []) s₁ EF := fun t k => pre121 t (XS.icmpYes X120.here hx rfl (pc0 := 9) (pc' := 48) rfl (hb hby dI4_9) rfl (flt (by decide : ¬ ((4 : Int32) < (4 : Int32)))).2.1 (by decide) (by decide) k)
    have pre123 : Go p e below T120 (mkF m 49 #[rv a1, iv (0 : Int32), iv (4 : Int32)] [(.int (0 : Int32))]) s₁ EF := fun t k => pre122 t (by
        refine XS.iloadN X120.here hx rfl (hb hby dI4_48) rfl ?_
        exact k)
    have hnr : Value.int (nar .boolean (0 : Int32)) = (.int (0 : Int32)) := by rfl
    obtain ⟨fs, hr, hrun, hended, hW, hsame⟩ := X120.leave (v := some (.int (0 : Int32))) (fun h => by rw [Bd.returns] at h; cases h)
    refine ⟨_, _, hEF ▸ pre123 _ (retN X120 hx (t := .boolean) Bd.returns (by simp) (hb hby dI4_49) (hnr ▸ hr)), hrun, hended, _, _, rfl, ?_, ⟨_, rfl⟩, hW, hsame.mono (by decide) (by decide)⟩
    show QI4 Z a1 cz fv c0 c1 c2 c3 r h0 n0 _ T120.heap _
    rw [e120]
    exact ⟨by rw [← hR]; simp [allD, digF, hc23, hc33, hc23', hc33', hc23'', hc33'', hc23''', hc33'''], N120, rfl⟩
  have pre124 : Go p e below T115 (mkF m 36 #[rv a1, iv (1 : Int32), iv (3 : Int32)] []) s₁ EF := fun t k => pre117 t (XS.icmpNo X115.here hx rfl (hb hby dI4_33) rfl (flt hc33''').2.2.1 k)
  have pre125 : Go p e below T115 (mkF m 6 #[rv a1, iv (1 : Int32), iv (4 : Int32)] [(.ref a1), (.int (4 : Int32))]) s₁ EF := fun t k => pre124 t (by
      refine XS.iconst X115.here hx rfl (hb hby dI4_36) ?_
      refine XS.goto X115.here hx rfl (pc0 := 37) (pc' := 41) rfl (hb hby dI4_37) (by decide) (by decide) ?_
      refine XS.istoreN X115.here hx rfl (hb hby dI4_41) rfl (l' := #[rv a1, iv (1 : Int32), iv (3 : Int32)]) rfl ?_
      refine XS.iinc X115.here hx rfl (hb hby dI4_42) rfl (l' := #[rv a1, iv (1 : Int32), iv (4 : Int32)]) rfl ?_
      refine XS.goto X115.here hx rfl (pc0 := 45) (pc' := 4) rfl (hb hby dI4_45) (by decide) (by decide) ?_
      refine XS.iloadN X115.here hx rfl (hb hby dI4_4) rfl ?_
      refine XS.aloadN X115.here hx rfl (hb hby dI4_5) rfl rfl ?_
      exact k)
  obtain ⟨cq126, kq126, q126a, q126b, q126c⟩ := isOf hZ e115 SF.exa
  obtain ⟨_, _, ⟨T126, L126, k126, n126⟩, -, X126, ⟨Lc126, hQ126, l126, y126, z126⟩, st126⟩ := X115.virtualBack hx (y := mN1) (z := mN1) hown (mvT hZ (hw _ (mW 33 rfl))) (mvT hZ (hw _ (mW 34 rfl))) (notFace_of_selects (args := #[]) (mvT hZ (hw _ (mW 36 rfl)))) (mvT hZ (hw _ (mW 36 rfl))) (mvT hZ (hw _ (mW 35 rfl))) (by decide) (backOf (W := 1) (rmJL l Z a0 hw [] a1 cz fv [c0, c1, c2, c3] (4 : Int32) h0 n0 Z0 O0 J0 SF (by rfl)) hZ (hw _ (mW 37 rfl)) (hw _ (mW 10 rfl)) (by decide) (by decide)) q126a q126c (g := (mkF m 6 #[rv a1, iv (1 : Int32), iv (4 : Int32)] [(.ref a1), (.int (4 : Int32))])) rfl (by rw [hml]; rfl) (Steps.refl _) (argsL := []) (rest := [(.int (4 : Int32))]) (lenOf pdI4_0 rfl) rfl (Nat.le_of_eq rfl) (hb hby dI4_6) (fun _ _ => ⟨rfl, e115, wl rfl, wl rfl⟩)
  dsimp only [Pt.U, Pt.locs, Pt.cells, Pt.slots] at X126 l126 y126 z126 st126 hQ126
  subst l126 y126 z126
  obtain ⟨rfl, N126q, hq126⟩ := hQ126
  have N126 := Fr.app N115 N126q
  have pre127 : Go p e below T126 (mkF m 9 #[rv a1, iv (1 : Int32), iv (4 : Int32)] [(.int (4 : Int32)), (.int (4 : Int32))]) s₁ EF := fun t k => pre125 t (st126.trans k)
  have e126 : T126.heap = h0 := hq126
  have pre128 : Go p e below T126 (mkF m 48 #[rv a1, iv (1 : Int32), iv (4 : Int32)] []) s₁ EF := fun t k => pre127 t (XS.icmpYes X126.here hx rfl (pc0 := 9) (pc' := 48) rfl (hb hby dI4_9) rfl (flt (by decide : ¬ ((4 : Int32) < (4 : Int32)))).2.1 (by decide) (by decide) k)
  have pre129 : Go p e below T126 (mkF m 49 #[rv a1, iv (1 : Int32), iv (4 : Int32)] [(.int (1 : Int32))]) s₁ EF := fun t k => pre128 t (by
      refine XS.iloadN X126.here hx rfl (hb hby dI4_48) rfl ?_
      exact k)
  have hnr : Value.int (nar .boolean (1 : Int32)) = (.int (1 : Int32)) := by rfl
  obtain ⟨fs, hr, hrun, hended, hW, hsame⟩ := X126.leave (v := some (.int (1 : Int32))) (fun h => by rw [Bd.returns] at h; cases h)
  refine ⟨_, _, hEF ▸ pre129 _ (retN X126 hx (t := .boolean) Bd.returns (by simp) (hb hby dI4_49) (hnr ▸ hr)), hrun, hended, _, _, rfl, ?_, ⟨_, rfl⟩, hW, hsame.mono (by decide) (by decide)⟩
  show QI4 Z a1 cz fv c0 c1 c2 c3 r h0 n0 _ T126.heap _
  rw [e126]
  exact ⟨by rw [← hR]; simp [allD, digF, hc23, hc33, hc23', hc33', hc23'', hc33'', hc23''', hc33'''], N126, rfl⟩
theorem pnL : plainName "com/example/oxpecker/oxpecker/http/UriCharactersIsDigitsPinLaw" = true := by first | (simp [plainName, overriddenIn]; done) | decide +kernel
theorem pdL_0 : parseMethodDescriptor "(I)C" = some ⟨[.int], some .char⟩ := by decide +kernel
theorem pdL_1 : parseMethodDescriptor "([C)V" = some ⟨[(.array .char)], none⟩ := by decide +kernel
theorem pdL_2 : parseMethodDescriptor "(Ljava/lang/String;)Z" = some ⟨[(.object "java/lang/String")], some .boolean⟩ := by decide +kernel
theorem pdL_3 : parseMethodDescriptor "(C)Z" = some ⟨[.char], some .boolean⟩ := by decide +kernel
theorem efL (m : MethodId) (p1 : Int32) (p2 : Int32) (p3 : Int32) (p4 : Int32) (p5 : Int32) : entryFrame m #[(.int p1), (.int p2), (.int p3), (.int p4), (.int p5)] maxLocals = mkF m 0 #[iv p1, iv p2, iv p3, iv p4, iv p5, .unset, .unset, .unset, .unset, .unset, .unset, .unset, .unset] [] := by first | (simp [entryFrame, mkF, argsToLocals, Value.category, maxLocals]; done) | rfl
def QL (Z : State) (p1 : Int32) (p2 : Int32) (p3 : Int32) (p4 : Int32) (p5 : Int32) (cz : Int32) (fv : Value) (h0 : Heap) (n0 : Nat) (v : Option Value) (h : Heap) (L : List Loc) : Prop := v = some (.int 1) ∧ Fr n0 L
set_option maxRecDepth 65536 in
set_option maxHeartbeats 40000000 in
theorem rmL (l : Launch) (Z : State) (a0 : Array Value) (hw : ∀ d ∈ tables_1, d.before a0 Z = true) (ws : List Jvm.Cond) (p1 : Int32) (p2 : Int32) (p3 : Int32) (p4 : Int32) (p5 : Int32) (cz : Int32) (fv : Value) (h0 : Heap) (n0 : Nat) (Z0 : n0 ≤ h0.size) (O0 : Old Z n0 h0) (J0 : Jd Z cz fv) :
    MetFree l x (head1 (Jvm.Cond.code x code maxLocals ret :: ws) room_1) (fun a U => a = #[(.int p1), (.int p2), (.int p3), (.int p4), (.int p5)] ∧ Z.Warmed39 U.vm ∧ U.heap = h0 ∧ CHv Z [("java/lang/String", 7)] U.vm h0) (fun _ _ _ _ _ => True) (fun _ U o U' => ∃ v L, o = .returned v ∧ QL Z p1 p2 p3 p4 p5 cz fv h0 n0 v U'.heap L ∧ CHr Z [("java/lang/String", 7)] U.vm U.heap U'.vm U'.heap ∧ ReturnedEndW U o U' L room_1.cells room_1.slots) := by
  refine MetFree.of_bodySF (plainFor_of_name pnL) hisR ?_
  intro p e s m args below meth c s₁ Bd hml0 hP hK
  obtain ⟨rfl, hZ, hh, hC⟩ := hP
  have hx := Bd.exec
  have hby := Bd.bytes
  have hml : c.maxLocals = 13 := hml0
  have hown : s.vm.findClass "com/example/oxpecker/oxpecker/http/UriCharactersIsDigitsPinLaw" = some m.cls := findClass_of_methodNamed Bd.named
  have hnm := (name_of_methodNamed Bd.named Bd.method).1
  have X0 : Stand p l e room_1 (s.setVm s.vm) m #[(.int p1), (.int p2), (.int p3), (.int p4), (.int p5)] below meth c s₁ [] 0 0 := Stand.of_body Bd
  have e0 : s₁.heap = h0 := by rw [← hh, Bd.state]; rfl
  have N0 := Fr.nil n0
  obtain ⟨EF, hEF⟩ : ∃ f, f = entryFrame m #[(.int p1), (.int p2), (.int p3), (.int p4), (.int p5)] maxLocals := ⟨_, rfl⟩
  have pre0 : Go p e below s₁ (mkF m 0 #[iv p1, iv p2, iv p3, iv p4, iv p5, .unset, .unset, .unset, .unset, .unset, .unset, .unset, .unset] []) s₁ EF := fun t k => by rw [hEF]; exact castTop (efL m p1 p2 p3 p4 p5) k
  have hZ0 : Z.Warmed39 (s.setVm s.vm).vm := hZ
  have hown0 : (s.setVm s.vm).vm.findClass "com/example/oxpecker/oxpecker/http/UriCharactersIsDigitsPinLaw" = some m.cls := hown
  have hS0 : s.Since s.vm s.heap.size := (State.WarmedH.refl s).since _
  have hk0 : s.heap.size ≤ h0.size := by rw [← hh]; exact Nat.le_refl _
  obtain ⟨n1, e_n1⟩ : ∃ z : Int32, z = ((p1 &&& (2147483647 : Int32)) % (5 : Int32)) := ⟨_, rfl⟩
  have pre1 : Go p e below s₁ (mkF m 9 #[iv p1, iv p2, iv p3, iv p4, iv p5, iv n1, .unset, .unset, .unset, .unset, .unset, .unset, .unset] [(.int p2)]) s₁ EF := fun t k => pre0 t (by
      refine XS.iloadN X0.here hx rfl (hb hby at_0) rfl ?_
      refine X0.ldcInt hx hown0 (mvT hZ0 (hw _ (mW 0 rfl))) (g := (mkF m 1 #[iv p1, iv p2, iv p3, iv p4, iv p5, .unset, .unset, .unset, .unset, .unset, .unset, .unset, .unset] [(.int p1)])) rfl (hb hby at_1) _ ?_
      refine XS.iand X0.here hx rfl (hb hby at_3) rfl ?_
      refine XS.iconst X0.here hx rfl (hb hby at_4) ?_
      refine iremM X0 hx rfl (hb hby at_5) rfl (by decide) ?_
      refine XS.istore X0.here hx rfl (hb hby at_6) rfl (l' := #[iv p1, iv p2, iv p3, iv p4, iv p5, iv n1, .unset, .unset, .unset, .unset, .unset, .unset, .unset]) (by rw [e_n1]; rfl) ?_
      refine XS.iloadN X0.here hx rfl (hb hby at_8) rfl ?_
      exact k)
  obtain ⟨_, _, ⟨T2, L2, k2, n2⟩, -, X2, ⟨Lc2, hQ2, l2, y2, z2⟩, st2⟩ := Jvm.LawKit.callS X0 hx (y := mN20) hown0 (mvT hZ0 (hw _ (mW 1 rfl))) (mvT hZ0 (hw _ (mW 2 rfl))) (mvT hZ0 (hw _ (mW 3 rfl))) (mvT hZ0 (hw _ (mW 4 rfl))) (by decide) (backOf (W := 0) (rmD l Z a0 hw [] p2 (drawF p2) h0 n0 Z0 rfl) hZ0 (hw _ (mW 4 rfl)) (hw _ (mW 3 rfl)) (by decide) (by decide)) (g := (mkF m 9 #[iv p1, iv p2, iv p3, iv p4, iv p5, iv n1, .unset, .unset, .unset, .unset, .unset, .unset, .unset] [(.int p2)])) rfl (by rw [hml]; rfl) (argsL := [(.int p2)]) (rest := []) (lenOf pdL_0 rfl) rfl (Nat.le_of_eq rfl) (hb hby at_9) (fun _ _ => ⟨rfl, e0, wl rfl, wl rfl⟩)
  dsimp only [Pt.U, Pt.locs, Pt.cells, Pt.slots] at X2 l2 y2 z2 st2 hQ2
  subst l2 y2 z2
  obtain ⟨rfl, N2q, hq2⟩ := hQ2
  have N2 := Fr.app N0 N2q
  have pre3 : Go p e below T2 (mkF m 12 #[iv p1, iv p2, iv p3, iv p4, iv p5, iv n1, .unset, .unset, .unset, .unset, .unset, .unset, .unset] [(.int (drawF p2))]) s₁ EF := fun t k => pre1 t (st2 t k)
  have e2 : T2.heap = h0 := hq2
  obtain ⟨ca, e_ca⟩ : ∃ z : Int32, z = (drawF p2) := ⟨_, rfl⟩
  have pre4 : Go p e below T2 (mkF m 15 #[iv p1, iv p2, iv p3, iv p4, iv p5, iv n1, iv ca, .unset, .unset, .unset, .unset, .unset, .unset] [(.int p3)]) s₁ EF := fun t k => pre3 t (by
      refine XS.istore X2.here hx rfl (hb hby at_12) rfl (l' := #[iv p1, iv p2, iv p3, iv p4, iv p5, iv n1, iv ca, .unset, .unset, .unset, .unset, .unset, .unset]) (by rw [e_ca]; rfl) ?_
      refine XS.iloadN X2.here hx rfl (hb hby at_14) rfl ?_
      exact k)
  obtain ⟨_, _, ⟨T5, L5, k5, n5⟩, -, X5, ⟨Lc5, hQ5, l5, y5, z5⟩, st5⟩ := Jvm.LawKit.callS X2 hx (y := mN20) hown0 (mvT hZ0 (hw _ (mW 1 rfl))) (mvT hZ0 (hw _ (mW 2 rfl))) (mvT hZ0 (hw _ (mW 3 rfl))) (mvT hZ0 (hw _ (mW 4 rfl))) (by decide) (backOf (W := 0) (rmD l Z a0 hw [] p3 (drawF p3) h0 n0 Z0 rfl) hZ0 (hw _ (mW 4 rfl)) (hw _ (mW 3 rfl)) (by decide) (by decide)) (g := (mkF m 15 #[iv p1, iv p2, iv p3, iv p4, iv p5, iv n1, iv ca, .unset, .unset, .unset, .unset, .unset, .unset] [(.int p3)])) rfl (by rw [hml]; rfl) (argsL := [(.int p3)]) (rest := []) (lenOf pdL_0 rfl) rfl (Nat.le_of_eq rfl) (hb hby at_15) (fun _ _ => ⟨rfl, e2, wl rfl, wl rfl⟩)
  dsimp only [Pt.U, Pt.locs, Pt.cells, Pt.slots] at X5 l5 y5 z5 st5 hQ5
  subst l5 y5 z5
  obtain ⟨rfl, N5q, hq5⟩ := hQ5
  have N5 := Fr.app N2 N5q
  have pre6 : Go p e below T5 (mkF m 18 #[iv p1, iv p2, iv p3, iv p4, iv p5, iv n1, iv ca, .unset, .unset, .unset, .unset, .unset, .unset] [(.int (drawF p3))]) s₁ EF := fun t k => pre4 t (st5 t k)
  have e5 : T5.heap = h0 := hq5
  obtain ⟨cb, e_cb⟩ : ∃ z : Int32, z = (drawF p3) := ⟨_, rfl⟩
  have pre7 : Go p e below T5 (mkF m 21 #[iv p1, iv p2, iv p3, iv p4, iv p5, iv n1, iv ca, iv cb, .unset, .unset, .unset, .unset, .unset] [(.int p4)]) s₁ EF := fun t k => pre6 t (by
      refine XS.istore X5.here hx rfl (hb hby at_18) rfl (l' := #[iv p1, iv p2, iv p3, iv p4, iv p5, iv n1, iv ca, iv cb, .unset, .unset, .unset, .unset, .unset]) (by rw [e_cb]; rfl) ?_
      refine XS.iloadN X5.here hx rfl (hb hby at_20) rfl ?_
      exact k)
  obtain ⟨_, _, ⟨T8, L8, k8, n8⟩, -, X8, ⟨Lc8, hQ8, l8, y8, z8⟩, st8⟩ := Jvm.LawKit.callS X5 hx (y := mN20) hown0 (mvT hZ0 (hw _ (mW 1 rfl))) (mvT hZ0 (hw _ (mW 2 rfl))) (mvT hZ0 (hw _ (mW 3 rfl))) (mvT hZ0 (hw _ (mW 4 rfl))) (by decide) (backOf (W := 0) (rmD l Z a0 hw [] p4 (drawF p4) h0 n0 Z0 rfl) hZ0 (hw _ (mW 4 rfl)) (hw _ (mW 3 rfl)) (by decide) (by decide)) (g := (mkF m 21 #[iv p1, iv p2, iv p3, iv p4, iv p5, iv n1, iv ca, iv cb, .unset, .unset, .unset, .unset, .unset] [(.int p4)])) rfl (by rw [hml]; rfl) (argsL := [(.int p4)]) (rest := []) (lenOf pdL_0 rfl) rfl (Nat.le_of_eq rfl) (hb hby at_21) (fun _ _ => ⟨rfl, e5, wl rfl, wl rfl⟩)
  dsimp only [Pt.U, Pt.locs, Pt.cells, Pt.slots] at X8 l8 y8 z8 st8 hQ8
  subst l8 y8 z8
  obtain ⟨rfl, N8q, hq8⟩ := hQ8
  have N8 := Fr.app N5 N8q
  have pre9 : Go p e below T8 (mkF m 24 #[iv p1, iv p2, iv p3, iv p4, iv p5, iv n1, iv ca, iv cb, .unset, .unset, .unset, .unset, .unset] [(.int (drawF p4))]) s₁ EF := fun t k => pre7 t (st8 t k)
  have e8 : T8.heap = h0 := hq8
  obtain ⟨cc, e_cc⟩ : ∃ z : Int32, z = (drawF p4) := ⟨_, rfl⟩
  have pre10 : Go p e below T8 (mkF m 28 #[iv p1, iv p2, iv p3, iv p4, iv p5, iv n1, iv ca, iv cb, iv cc, .unset, .unset, .unset, .unset] [(.int p5)]) s₁ EF := fun t k => pre9 t (by
      refine XS.istore X8.here hx rfl (hb hby at_24) rfl (l' := #[iv p1, iv p2, iv p3, iv p4, iv p5, iv n1, iv ca, iv cb, iv cc, .unset, .unset, .unset, .unset]) (by rw [e_cc]; rfl) ?_
      refine XS.iload X8.here hx rfl (hb hby at_26) rfl ?_
      exact k)
  obtain ⟨_, _, ⟨T11, L11, k11, n11⟩, -, X11, ⟨Lc11, hQ11, l11, y11, z11⟩, st11⟩ := Jvm.LawKit.callS X8 hx (y := mN20) hown0 (mvT hZ0 (hw _ (mW 1 rfl))) (mvT hZ0 (hw _ (mW 2 rfl))) (mvT hZ0 (hw _ (mW 3 rfl))) (mvT hZ0 (hw _ (mW 4 rfl))) (by decide) (backOf (W := 0) (rmD l Z a0 hw [] p5 (drawF p5) h0 n0 Z0 rfl) hZ0 (hw _ (mW 4 rfl)) (hw _ (mW 3 rfl)) (by decide) (by decide)) (g := (mkF m 28 #[iv p1, iv p2, iv p3, iv p4, iv p5, iv n1, iv ca, iv cb, iv cc, .unset, .unset, .unset, .unset] [(.int p5)])) rfl (by rw [hml]; rfl) (argsL := [(.int p5)]) (rest := []) (lenOf pdL_0 rfl) rfl (Nat.le_of_eq rfl) (hb hby at_28) (fun _ _ => ⟨rfl, e8, wl rfl, wl rfl⟩)
  dsimp only [Pt.U, Pt.locs, Pt.cells, Pt.slots] at X11 l11 y11 z11 st11 hQ11
  subst l11 y11 z11
  obtain ⟨rfl, N11q, hq11⟩ := hQ11
  have N11 := Fr.app N8 N11q
  have pre12 : Go p e below T11 (mkF m 31 #[iv p1, iv p2, iv p3, iv p4, iv p5, iv n1, iv ca, iv cb, iv cc, .unset, .unset, .unset, .unset] [(.int (drawF p5))]) s₁ EF := fun t k => pre10 t (st11 t k)
  have e11 : T11.heap = h0 := hq11
  obtain ⟨cd, e_cd⟩ : ∃ z : Int32, z = (drawF p5) := ⟨_, rfl⟩
  have pre13 : Go p e below T11 (mkF m 33 #[iv p1, iv p2, iv p3, iv p4, iv p5, iv n1, iv ca, iv cb, iv cc, iv cd, .unset, .unset, .unset] []) s₁ EF := fun t k => pre12 t (by
      refine XS.istore X11.here hx rfl (hb hby at_31) rfl (l' := #[iv p1, iv p2, iv p3, iv p4, iv p5, iv n1, iv ca, iv cb, iv cc, iv cd, .unset, .unset, .unset]) (by rw [e_cd]; rfl) ?_
      exact k)
  have rca : 0 ≤ ca.toInt ∧ ca.toInt < 65536 := by rw [e_ca]; exact own_draw _
  have rcb : 0 ≤ cb.toInt ∧ cb.toInt < 65536 := by rw [e_cb]; exact own_draw _
  have rcc : 0 ≤ cc.toInt ∧ cc.toInt < 65536 := by rw [e_cc]; exact own_draw _
  have rcd : 0 ≤ cd.toInt ∧ cd.toInt < 65536 := by rw [e_cd]; exact own_draw _
  rcases (e_n1 ▸ own_m5 p1 : n1 = 0 ∨ n1 = 1 ∨ n1 = 2 ∨ n1 = 3 ∨ n1 = 4) with hv14_0 | hv14_1 | hv14_2 | hv14_3 | hv14_4
  · subst hv14_0
    have pre15 : Go p e below T11 (mkF m 35 #[iv p1, iv p2, iv p3, iv p4, iv p5, iv (0 : Int32), iv ca, iv cb, iv cc, iv cd, .unset, .unset, .unset] [(.int (0 : Int32))]) s₁ EF := fun t k => pre13 t (by
        refine XS.iload X11.here hx rfl (hb hby at_33) rfl ?_
        exact k)
    have pre16 : Go p e below T11 (mkF m 38 #[iv p1, iv p2, iv p3, iv p4, iv p5, iv (0 : Int32), iv ca, iv cb, iv cc, iv cd, .unset, .unset, .unset] []) s₁ EF := fun t k => pre15 t (XS.ifNo X11.here hx rfl (hb hby at_35) rfl ((if0 _ _).trans (teq (by decide : (0 : Int32) = (0 : Int32))).2) k)
    have pre17 : Go p e below T11 (mkF m 39 #[iv p1, iv p2, iv p3, iv p4, iv p5, iv (0 : Int32), iv ca, iv cb, iv cc, iv cd, .unset, .unset, .unset] [(.int (0 : Int32))]) s₁ EF := fun t k => pre16 t (by
        refine XS.iconst X11.here hx rfl (hb hby at_38) ?_
        exact k)
    obtain ⟨T18, h18, k18, X18, e18, Et18, A18, st18⟩ := newP X11 hx hZ0 (hw _ (mW 7 rfl)) e11 (g := (mkF m 39 #[iv p1, iv p2, iv p3, iv p4, iv p5, iv (0 : Int32), iv ca, iv cb, iv cc, iv cd, .unset, .unset, .unset] [(.int (0 : Int32))])) rfl (hb hby at_39) rfl (by decide) (cap := 0) (by decide) (by decide) (by decide) (by decide)
    obtain ⟨b18, g18⟩ : ∃ z, z = h0.size := ⟨_, rfl⟩
    rw [← g18] at A18 st18
    have g_b18 : n0 ≤ b18 := Nat.le_trans Z0 (Nat.le_of_eq g18.symm)
    have sfn_b18 : Safe Z [("java/lang/String", 7)] s.vm h0 b18 := Safe.new (Nat.le_of_eq g18.symm)
    have pre19 : Go p e below T18 (mkF m 41 #[iv p1, iv p2, iv p3, iv p4, iv p5, iv (0 : Int32), iv ca, iv cb, iv cc, iv cd, .unset, .unset, .unset] [(.ref b18)]) s₁ EF := fun t k => pre17 t (st18 t k)
    have O20 : Old Z n0 h18 := O0.ext Et18
    have Z20 : n0 ≤ h18.size := Nat.le_trans Z0 Et18.1
    have hk20 := Nat.le_trans hk0 Et18.1
    have C20 := CHv.ext Et18 hC
    have R20 := (CHr.refl hC).trans (CHr.ext Et18 hC)
    have sf20_b18 := Safe.ext Et18 hC sfn_b18
    have V18 : Arv Z h18 b18 k18 .char (0 : Int32) [] (.int (0 : Int32)) := (Arv.new A18 (by decide)).pad (pad_rep [] (.int (0 : Int32)) 0)
    have pre21 : Go p e below T18 (mkF m 143 #[iv p1, iv p2, iv p3, iv p4, iv p5, iv (0 : Int32), iv ca, iv cb, iv cc, iv cd, rv b18, .unset, .unset] []) s₁ EF := fun t k => pre19 t (by
        refine XS.astore X18.here hx rfl (hb hby at_41) rfl rfl (l' := #[iv p1, iv p2, iv p3, iv p4, iv p5, iv (0 : Int32), iv ca, iv cb, iv cc, iv cd, rv b18, .unset, .unset]) rfl ?_
        refine XS.goto X18.here hx rfl (pc0 := 43) (pc' := 143) rfl (hb hby at_43) (by decide) (by decide) ?_
        exact k)
    obtain ⟨T22, h22, X22, e22, Et22, A22, D22, U22, st22⟩ := newO X18 hx hZ0 hown0 (hw _ (mW 8 rfl)) (hw _ (mW 9 rfl)) (hw _ (mW 10 rfl)) e18 (g := (mkF m 143 #[iv p1, iv p2, iv p3, iv p4, iv p5, iv (0 : Int32), iv ca, iv cb, iv cc, iv cd, rv b18, .unset, .unset] [])) rfl (hb hby at_143) (by decide) (by decide)
    obtain ⟨b22, g22⟩ : ∃ z, z = h18.size := ⟨_, rfl⟩
    rw [← g22] at A22 st22 D22
    have g_b22 : n0 ≤ b22 := Nat.le_trans Z20 (Nat.le_of_eq g22.symm)
    have sfn_b22 : Safe Z [("java/lang/String", 7)] s.vm h18 b22 := Safe.new (Nat.le_of_eq g22.symm)
    have ne_b18_b22 : b18 ≠ b22 := Nat.ne_of_lt (Nat.lt_of_lt_of_le V18.lt (Nat.le_of_eq g22.symm))
    have pre23 : Go p e below T22 (mkF m 146 #[iv p1, iv p2, iv p3, iv p4, iv p5, iv (0 : Int32), iv ca, iv cb, iv cc, iv cd, rv b18, .unset, .unset] [(.ref b22)]) s₁ EF := fun t k => pre21 t (st22 t k)
    have O24 : Old Z n0 h22 := O20.ext Et22
    have Z24 : n0 ≤ h22.size := Nat.le_trans Z20 Et22.1
    have hk24 := Nat.le_trans hk20 Et22.1
    have C24 := CHv.ext Et22 C20
    have R24 := R20.trans (CHr.ext Et22 C20)
    have sf24_b18 := Safe.ext Et22 C20 sf20_b18
    have sf24_b22 := Safe.ext Et22 C20 sfn_b22
    have F_value_b22 : Fld Z h22 b22 "java/lang/String" "value" "[B" .null := D22 (Or.inr (hw _ (mW 23 rfl))) (ty := (.array .byte)) (by decide)
    have F_coder_b22 : Fld Z h22 b22 "java/lang/String" "coder" "B" (.int (0 : Int32)) := D22 (Or.inr (hw _ (mW 24 rfl))) (ty := .byte) (by decide)
    have pre25 : Go p e below T22 (mkF m 149 #[iv p1, iv p2, iv p3, iv p4, iv p5, iv (0 : Int32), iv ca, iv cb, iv cc, iv cd, rv b18, .unset, .unset] [(.ref b18), (.ref b22), (.ref b22)]) s₁ EF := fun t k => pre23 t (by
        refine XS.dup X22.here hx rfl (hb hby at_146) rfl rfl ?_
        refine XS.aload X22.here hx rfl (hb hby at_147) rfl rfl ?_
        exact k)
    obtain ⟨_, _, ⟨T26, L26, k26, n26⟩, -, XQ26, hSQ26, hgQ26, ⟨Lc26, hQ26, l26, y26, z26, hCH26⟩, st26⟩ := X22.specialBackS hx (y := mN19) rfl hown0 (mvT hZ0 (hw _ (mW 11 rfl))) (mvT hZ0 (hw _ (mW 12 rfl))) (mvT hZ0 (hw _ (mW 13 rfl))) (by decide) (backOfSH (W := 1) (rmKj0 l Z a0 hw [] b22 b18 cz fv k18 h22 n0 Z24 O24 J0 A22 g_b22 F_value_b22 F_coder_b22 (V18.ext Et22)) hZ0 (hw _ (mW 13 rfl)) (hw _ (mW 10 rfl)) (by decide) (by decide) (own_EW hw) C24) (g := (mkF m 149 #[iv p1, iv p2, iv p3, iv p4, iv p5, iv (0 : Int32), iv ca, iv cb, iv cc, iv cd, rv b18, .unset, .unset] [(.ref b18), (.ref b22), (.ref b22)])) rfl (by rw [hml]; rfl) (Steps.refl _) (a := b22) (argsL := [(.ref b18)]) (rest := [(.ref b22)]) (lenOf pdL_1 rfl) rfl (Nat.le_of_eq rfl) (hb hby at_149) (fun _ _ => ⟨rfl, e22, wl rfl, wl rfl⟩)
    dsimp only [Pt.U, Pt.locs, Pt.cells, Pt.slots] at XQ26 hSQ26 hgQ26 hCH26 l26 y26 z26 st26 hQ26
    subst l26 y26 z26
    obtain ⟨X26, hS26, hZ26, hown26⟩ := rebS hS0 (by rw [e22]; exact hk24) XQ26 hSQ26 hgQ26 hZ0 hown0
    obtain ⟨rfl, N26q, K26, SF26⟩ := hQ26
    have N26 := Fr.app N11 N26q
    have pre27 : Go p e below T26 (mkF m 152 #[iv p1, iv p2, iv p3, iv p4, iv p5, iv (0 : Int32), iv ca, iv cb, iv cc, iv cd, rv b18, .unset, .unset] [(.ref b22)]) s₁ EF := fun t k => pre25 t (st26.trans k)
    have hk26 := Nat.le_refl T26.heap.size
    have R26 := R24.trans hCH26
    have O28 : Old Z n0 T26.heap := O24.keep K26 (allS g_b22 all0)
    have Z28 : n0 ≤ T26.heap.size := Nat.le_trans Z24 K26.1
    have pre29 : Go p e below T26 (mkF m 157 #[iv p1, iv p2, iv p3, iv p4, iv p5, iv (0 : Int32), iv ca, iv cb, iv cc, iv cd, rv b18, rv b22, .unset] [(.int (1 : Int32)), (.int (0 : Int32))]) s₁ EF := fun t k => pre27 t (by
        refine XS.astore X26.here hx rfl (hb hby at_152) rfl rfl (l' := #[iv p1, iv p2, iv p3, iv p4, iv p5, iv (0 : Int32), iv ca, iv cb, iv cc, iv cd, rv b18, rv b22, .unset]) rfl ?_
        refine XS.iload X26.here hx rfl (hb hby at_154) rfl ?_
        refine XS.iconst X26.here hx rfl (hb hby at_156) ?_
        exact k)
    have pre30 : Go p e below T26 (mkF m 168 #[iv p1, iv p2, iv p3, iv p4, iv p5, iv (0 : Int32), iv ca, iv cb, iv cc, iv cd, rv b18, rv b22, .unset] []) s₁ EF := fun t k => pre29 t (XS.icmpYes X26.here hx rfl (pc0 := 157) (pc' := 168) rfl (hb hby at_157) rfl (tlt (by decide : (0 : Int32) < (1 : Int32))).1 (by decide) (by decide) k)
    have pre31 : Go p e below T26 (mkF m 171 #[iv p1, iv p2, iv p3, iv p4, iv p5, iv (0 : Int32), iv ca, iv cb, iv cc, iv cd, rv b18, rv b22, .unset] [(.int (2 : Int32)), (.int (0 : Int32))]) s₁ EF := fun t k => pre30 t (by
        refine XS.iload X26.here hx rfl (hb hby at_168) rfl ?_
        refine XS.iconst X26.here hx rfl (hb hby at_170) ?_
        exact k)
    have pre32 : Go p e below T26 (mkF m 182 #[iv p1, iv p2, iv p3, iv p4, iv p5, iv (0 : Int32), iv ca, iv cb, iv cc, iv cd, rv b18, rv b22, .unset] []) s₁ EF := fun t k => pre31 t (XS.icmpYes X26.here hx rfl (pc0 := 171) (pc' := 182) rfl (hb hby at_171) rfl (tlt (by decide : (0 : Int32) < (2 : Int32))).1 (by decide) (by decide) k)
    have pre33 : Go p e below T26 (mkF m 185 #[iv p1, iv p2, iv p3, iv p4, iv p5, iv (0 : Int32), iv ca, iv cb, iv cc, iv cd, rv b18, rv b22, .unset] [(.int (3 : Int32)), (.int (0 : Int32))]) s₁ EF := fun t k => pre32 t (by
        refine XS.iload X26.here hx rfl (hb hby at_182) rfl ?_
        refine XS.iconst X26.here hx rfl (hb hby at_184) ?_
        exact k)
    have pre34 : Go p e below T26 (mkF m 196 #[iv p1, iv p2, iv p3, iv p4, iv p5, iv (0 : Int32), iv ca, iv cb, iv cc, iv cd, rv b18, rv b22, .unset] []) s₁ EF := fun t k => pre33 t (XS.icmpYes X26.here hx rfl (pc0 := 185) (pc' := 196) rfl (hb hby at_185) rfl (tlt (by decide : (0 : Int32) < (3 : Int32))).1 (by decide) (by decide) k)
    have pre35 : Go p e below T26 (mkF m 199 #[iv p1, iv p2, iv p3, iv p4, iv p5, iv (0 : Int32), iv ca, iv cb, iv cc, iv cd, rv b18, rv b22, .unset] [(.int (4 : Int32)), (.int (0 : Int32))]) s₁ EF := fun t k => pre34 t (by
        refine XS.iload X26.here hx rfl (hb hby at_196) rfl ?_
        refine XS.iconst X26.here hx rfl (hb hby at_198) ?_
        exact k)
    have pre36 : Go p e below T26 (mkF m 210 #[iv p1, iv p2, iv p3, iv p4, iv p5, iv (0 : Int32), iv ca, iv cb, iv cc, iv cd, rv b18, rv b22, .unset] []) s₁ EF := fun t k => pre35 t (XS.icmpYes X26.here hx rfl (pc0 := 199) (pc' := 210) rfl (hb hby at_199) rfl (tlt (by decide : (0 : Int32) < (4 : Int32))).1 (by decide) (by decide) k)
    have pre37 : Go p e below T26 (mkF m 219 #[iv p1, iv p2, iv p3, iv p4, iv p5, iv (0 : Int32), iv ca, iv cb, iv cc, iv cd, rv b18, rv b22, iv (1 : Int32)] [(.ref b22)]) s₁ EF := fun t k => pre36 t (by
        refine XS.iconst X26.here hx rfl (hb hby at_210) ?_
        refine XS.goto X26.here hx rfl (pc0 := 211) (pc' := 215) rfl (hb hby at_211) (by decide) (by decide) ?_
        refine XS.istore X26.here hx rfl (hb hby at_215) rfl (l' := #[iv p1, iv p2, iv p3, iv p4, iv p5, iv (0 : Int32), iv ca, iv cb, iv cc, iv cd, rv b18, rv b22, iv (1 : Int32)]) rfl ?_
        refine XS.aload X26.here hx rfl (hb hby at_217) rfl rfl ?_
        exact k)
    obtain ⟨_, _, ⟨T38, L38, k38, n38⟩, -, X38, ⟨Lc38, hQ38, l38, y38, z38⟩, st38⟩ := Jvm.LawKit.callS X26 hx (y := mN22) hown26 (mvT hZ26 (hw _ (mW 29 rfl))) (mvT hZ26 (hw _ (mW 30 rfl))) (mvT hZ26 (hw _ (mW 31 rfl))) (mvT hZ26 (hw _ (mW 32 rfl))) (by decide) (backOf (W := 0) (rmI0 l Z a0 hw [] b22 cz fv (1 : Int32) T26.heap n0 Z28 O28 J0 SF26 (by simp [allD])) hZ26 (hw _ (mW 32 rfl)) (hw _ (mW 31 rfl)) (by decide) (by decide)) (g := (mkF m 219 #[iv p1, iv p2, iv p3, iv p4, iv p5, iv (0 : Int32), iv ca, iv cb, iv cc, iv cd, rv b18, rv b22, iv (1 : Int32)] [(.ref b22)])) rfl (by rw [hml]; rfl) (argsL := [(.ref b22)]) (rest := []) (lenOf pdL_2 rfl) rfl (Nat.le_of_eq rfl) (hb hby at_219) (fun _ _ => ⟨rfl, rfl, wl rfl, wl rfl⟩)
    dsimp only [Pt.U, Pt.locs, Pt.cells, Pt.slots] at X38 l38 y38 z38 st38 hQ38
    subst l38 y38 z38
    obtain ⟨rfl, N38q, hq38⟩ := hQ38
    have N38 := Fr.app N26 N38q
    have pre39 : Go p e below T38 (mkF m 222 #[iv p1, iv p2, iv p3, iv p4, iv p5, iv (0 : Int32), iv ca, iv cb, iv cc, iv cd, rv b18, rv b22, iv (1 : Int32)] [(.int (1 : Int32))]) s₁ EF := fun t k => pre37 t (st38 t k)
    have e38 : T38.heap = T26.heap := hq38
    have pre40 : Go p e below T38 (mkF m 224 #[iv p1, iv p2, iv p3, iv p4, iv p5, iv (0 : Int32), iv ca, iv cb, iv cc, iv cd, rv b18, rv b22, iv (1 : Int32)] [(.int (1 : Int32)), (.int (1 : Int32))]) s₁ EF := fun t k => pre39 t (by
        refine XS.iload X38.here hx rfl (hb hby at_222) rfl ?_
        exact k)
    have pre41 : Go p e below T38 (mkF m 227 #[iv p1, iv p2, iv p3, iv p4, iv p5, iv (0 : Int32), iv ca, iv cb, iv cc, iv cd, rv b18, rv b22, iv (1 : Int32)] []) s₁ EF := fun t k => pre40 t (XS.icmpNo X38.here hx rfl (hb hby at_224) rfl (teq (by decide : (1 : Int32) = (1 : Int32))).2 k)
    have pre42 : Go p e below T38 (mkF m 232 #[iv p1, iv p2, iv p3, iv p4, iv p5, iv (0 : Int32), iv ca, iv cb, iv cc, iv cd, rv b18, rv b22, iv (1 : Int32)] [(.int (1 : Int32))]) s₁ EF := fun t k => pre41 t (by
        refine XS.iconst X38.here hx rfl (hb hby at_227) ?_
        refine XS.goto X38.here hx rfl (pc0 := 228) (pc' := 232) rfl (hb hby at_228) (by decide) (by decide) ?_
        exact k)
    have hnr : Value.int (nar .boolean (1 : Int32)) = (.int (1 : Int32)) := by rfl
    obtain ⟨fs, hr, hrun, hended, hend1, hend2, hend3, hsame⟩ := X38.leaveW hS26 (by rw [e38]; exact hk26) (v := some (.int (1 : Int32))) (fun h => by rw [Bd.returns] at h; cases h)
    have hCH : CHr Z [("java/lang/String", 7)] s.vm s.heap T38.vm T38.heap := by rw [hh, e38]; exact R26.trans (CHv.at X38 hZ26 (own_EW hw) hCH26.1)
    refine ⟨_, _, hEF ▸ pre42 _ (retN X38 hx (t := .boolean) Bd.returns (by simp) (hb hby at_232) (hnr ▸ hr)), hrun, hended, _, _, rfl, ?_, hCH, hend1, hend2, hend3, hsame.mono (by decide) (by decide)⟩
    show QL Z p1 p2 p3 p4 p5 cz fv h0 n0 _ T38.heap _
    rw [e38]
    exact ⟨rfl, N38⟩
  · subst hv14_1
    have pre43 : Go p e below T11 (mkF m 35 #[iv p1, iv p2, iv p3, iv p4, iv p5, iv (1 : Int32), iv ca, iv cb, iv cc, iv cd, .unset, .unset, .unset] [(.int (1 : Int32))]) s₁ EF := fun t k => pre13 t (by
        refine XS.iload X11.here hx rfl (hb hby at_33) rfl ?_
        exact k)
    have pre44 : Go p e below T11 (mkF m 46 #[iv p1, iv p2, iv p3, iv p4, iv p5, iv (1 : Int32), iv ca, iv cb, iv cc, iv cd, .unset, .unset, .unset] []) s₁ EF := fun t k => pre43 t (XS.ifYes X11.here hx rfl (pc0 := 35) (pc' := 46) rfl (hb hby at_35) rfl ((if0 _ _).trans (feq (by decide : ¬ ((1 : Int32) = (0 : Int32)))).2) (by decide) (by decide) k)
    have pre45 : Go p e below T11 (mkF m 49 #[iv p1, iv p2, iv p3, iv p4, iv p5, iv (1 : Int32), iv ca, iv cb, iv cc, iv cd, .unset, .unset, .unset] [(.int (1 : Int32)), (.int (1 : Int32))]) s₁ EF := fun t k => pre44 t (by
        refine XS.iload X11.here hx rfl (hb hby at_46) rfl ?_
        refine XS.iconst X11.here hx rfl (hb hby at_48) ?_
        exact k)
    have pre46 : Go p e below T11 (mkF m 52 #[iv p1, iv p2, iv p3, iv p4, iv p5, iv (1 : Int32), iv ca, iv cb, iv cc, iv cd, .unset, .unset, .unset] []) s₁ EF := fun t k => pre45 t (XS.icmpNo X11.here hx rfl (hb hby at_49) rfl (teq (by decide : (1 : Int32) = (1 : Int32))).2 k)
    have pre47 : Go p e below T11 (mkF m 53 #[iv p1, iv p2, iv p3, iv p4, iv p5, iv (1 : Int32), iv ca, iv cb, iv cc, iv cd, .unset, .unset, .unset] [(.int (1 : Int32))]) s₁ EF := fun t k => pre46 t (by
        refine XS.iconst X11.here hx rfl (hb hby at_52) ?_
        exact k)
    obtain ⟨T48, h48, k48, X48, e48, Et48, A48, st48⟩ := newP X11 hx hZ0 (hw _ (mW 7 rfl)) e11 (g := (mkF m 53 #[iv p1, iv p2, iv p3, iv p4, iv p5, iv (1 : Int32), iv ca, iv cb, iv cc, iv cd, .unset, .unset, .unset] [(.int (1 : Int32))])) rfl (hb hby at_53) rfl (by decide) (cap := 1) (by decide) (by decide) (by decide) (by decide)
    obtain ⟨b48, g48⟩ : ∃ z, z = h0.size := ⟨_, rfl⟩
    rw [← g48] at A48 st48
    have g_b48 : n0 ≤ b48 := Nat.le_trans Z0 (Nat.le_of_eq g48.symm)
    have sfn_b48 : Safe Z [("java/lang/String", 7)] s.vm h0 b48 := Safe.new (Nat.le_of_eq g48.symm)
    have pre49 : Go p e below T48 (mkF m 55 #[iv p1, iv p2, iv p3, iv p4, iv p5, iv (1 : Int32), iv ca, iv cb, iv cc, iv cd, .unset, .unset, .unset] [(.ref b48)]) s₁ EF := fun t k => pre47 t (st48 t k)
    have O50 : Old Z n0 h48 := O0.ext Et48
    have Z50 : n0 ≤ h48.size := Nat.le_trans Z0 Et48.1
    have hk50 := Nat.le_trans hk0 Et48.1
    have C50 := CHv.ext Et48 hC
    have R50 := (CHr.refl hC).trans (CHr.ext Et48 hC)
    have sf50_b48 := Safe.ext Et48 hC sfn_b48
    have V48 : Arv Z h48 b48 k48 .char (1 : Int32) [(.int (0 : Int32))] (.int (0 : Int32)) := (Arv.new A48 (by decide)).pad (pad_rep [] (.int (0 : Int32)) 1)
    have pre51 : Go p e below T48 (mkF m 59 #[iv p1, iv p2, iv p3, iv p4, iv p5, iv (1 : Int32), iv ca, iv cb, iv cc, iv cd, .unset, .unset, .unset] [(.int ca), (.int (0 : Int32)), (.ref b48), (.ref b48)]) s₁ EF := fun t k => pre49 t (by
        refine XS.dup X48.here hx rfl (hb hby at_55) rfl rfl ?_
        refine XS.iconst X48.here hx rfl (hb hby at_56) ?_
        refine XS.iload X48.here hx rfl (hb hby at_57) rfl ?_
        exact k)
    obtain ⟨cl52, Ar52, q52, Sz52, M52, H52, G52⟩ := id V48
    have hin52 : ¬ ((0 : Int32) < 0 ∨ cl52.slots.size ≤ ((0 : Int32)).toNatClampNeg) := inb_of Sz52 ⟨by decide, by decide⟩
    obtain ⟨T52, h52, X52, e52, W52, st52⟩ := stC X48 hx hZ0 e48 Ar52 (j := (0 : Int32)) hin52 (g := (mkF m 59 #[iv p1, iv p2, iv p3, iv p4, iv p5, iv (1 : Int32), iv ca, iv cb, iv cc, iv cd, .unset, .unset, .unset] [(.int ca), (.int (0 : Int32)), (.ref b48), (.ref b48)])) rfl rfl (hb hby at_59)
    rw [(own_nc rca.1 rca.2)] at W52
    have pre53 : Go p e below T52 (mkF m 60 #[iv p1, iv p2, iv p3, iv p4, iv p5, iv (1 : Int32), iv ca, iv cb, iv cc, iv cd, .unset, .unset, .unset] [(.ref b48)]) s₁ EF := fun t k => pre51 t (st52 t k)
    have O54 : Old Z n0 h52 := O50.wr W52 g_b48
    have Z54 : n0 ≤ h52.size := Nat.le_trans Z50 (Keep.of_wr W52).1
    have hk54 := Nat.le_trans hk50 (Keep.of_wr W52).1
    have C54 := CHv.wr W52 sf50_b48 C50
    have R54 := R50.trans (CHr.wr W52 sf50_b48 C50)
    have sf54_b48 := Safe.wr W52 sf50_b48 C50 sf50_b48
    have V52 : Arv Z h52 b48 k48 .char (1 : Int32) [(.int ca)] (.int (0 : Int32)) := Arv.set Ar52 q52 Sz52 M52 H52 G52 (own_fitc (own_nc rca.1 rca.2)) W52 0 rfl (Nat.le_of_ble_eq_true rfl)
    have N52 := Fr.snoc X52 N11 g_b48
    have pre55 : Go p e below T52 (mkF m 143 #[iv p1, iv p2, iv p3, iv p4, iv p5, iv (1 : Int32), iv ca, iv cb, iv cc, iv cd, rv b48, .unset, .unset] []) s₁ EF := fun t k => pre53 t (by
        refine XS.astore X52.here hx rfl (hb hby at_60) rfl rfl (l' := #[iv p1, iv p2, iv p3, iv p4, iv p5, iv (1 : Int32), iv ca, iv cb, iv cc, iv cd, rv b48, .unset, .unset]) rfl ?_
        refine XS.goto X52.here hx rfl (pc0 := 62) (pc' := 143) rfl (hb hby at_62) (by decide) (by decide) ?_
        exact k)
    obtain ⟨T56, h56, X56, e56, Et56, A56, D56, U56, st56⟩ := newO X52 hx hZ0 hown0 (hw _ (mW 8 rfl)) (hw _ (mW 9 rfl)) (hw _ (mW 10 rfl)) e52 (g := (mkF m 143 #[iv p1, iv p2, iv p3, iv p4, iv p5, iv (1 : Int32), iv ca, iv cb, iv cc, iv cd, rv b48, .unset, .unset] [])) rfl (hb hby at_143) (by decide) (by decide)
    obtain ⟨b56, g56⟩ : ∃ z, z = h52.size := ⟨_, rfl⟩
    rw [← g56] at A56 st56 D56
    have g_b56 : n0 ≤ b56 := Nat.le_trans Z54 (Nat.le_of_eq g56.symm)
    have sfn_b56 : Safe Z [("java/lang/String", 7)] s.vm h52 b56 := Safe.new (Nat.le_of_eq g56.symm)
    have ne_b48_b56 : b48 ≠ b56 := Nat.ne_of_lt (Nat.lt_of_lt_of_le V52.lt (Nat.le_of_eq g56.symm))
    have pre57 : Go p e below T56 (mkF m 146 #[iv p1, iv p2, iv p3, iv p4, iv p5, iv (1 : Int32), iv ca, iv cb, iv cc, iv cd, rv b48, .unset, .unset] [(.ref b56)]) s₁ EF := fun t k => pre55 t (st56 t k)
    have O58 : Old Z n0 h56 := O54.ext Et56
    have Z58 : n0 ≤ h56.size := Nat.le_trans Z54 Et56.1
    have hk58 := Nat.le_trans hk54 Et56.1
    have C58 := CHv.ext Et56 C54
    have R58 := R54.trans (CHr.ext Et56 C54)
    have sf58_b48 := Safe.ext Et56 C54 sf54_b48
    have sf58_b56 := Safe.ext Et56 C54 sfn_b56
    have F_value_b56 : Fld Z h56 b56 "java/lang/String" "value" "[B" .null := D56 (Or.inr (hw _ (mW 23 rfl))) (ty := (.array .byte)) (by decide)
    have F_coder_b56 : Fld Z h56 b56 "java/lang/String" "coder" "B" (.int (0 : Int32)) := D56 (Or.inr (hw _ (mW 24 rfl))) (ty := .byte) (by decide)
    have pre59 : Go p e below T56 (mkF m 149 #[iv p1, iv p2, iv p3, iv p4, iv p5, iv (1 : Int32), iv ca, iv cb, iv cc, iv cd, rv b48, .unset, .unset] [(.ref b48), (.ref b56), (.ref b56)]) s₁ EF := fun t k => pre57 t (by
        refine XS.dup X56.here hx rfl (hb hby at_146) rfl rfl ?_
        refine XS.aload X56.here hx rfl (hb hby at_147) rfl rfl ?_
        exact k)
    obtain ⟨_, _, ⟨T60, L60, k60, n60⟩, -, X60, ⟨Lc60, hQ60, l60, y60, z60⟩, st60⟩ := X56.specialBack hx (y := mN19) rfl hown0 (mvT hZ0 (hw _ (mW 11 rfl))) (mvT hZ0 (hw _ (mW 12 rfl))) (mvT hZ0 (hw _ (mW 13 rfl))) (by decide) (backOf (W := 1) (rmKj1 l Z a0 hw [] b56 b48 cz fv k48 ca h56 n0 Z58 O58 J0 A56 g_b56 F_value_b56 F_coder_b56 (V52.ext Et56) (List.forall_mem_cons.mpr ⟨rca, (fun _ q => nomatch q)⟩)) hZ0 (hw _ (mW 13 rfl)) (hw _ (mW 10 rfl)) (by decide) (by decide)) (g := (mkF m 149 #[iv p1, iv p2, iv p3, iv p4, iv p5, iv (1 : Int32), iv ca, iv cb, iv cc, iv cd, rv b48, .unset, .unset] [(.ref b48), (.ref b56), (.ref b56)])) rfl (by rw [hml]; rfl) (Steps.refl _) (a := b56) (argsL := [(.ref b48)]) (rest := [(.ref b56)]) (lenOf pdL_1 rfl) rfl (Nat.le_of_eq rfl) (hb hby at_149) (fun _ _ => ⟨rfl, e56, wl rfl, wl rfl⟩)
    dsimp only [Pt.U, Pt.locs, Pt.cells, Pt.slots] at X60 l60 y60 z60 st60 hQ60
    subst l60 y60 z60
    obtain ⟨rfl, N60q, K60, SF60⟩ := hQ60
    have N60 := Fr.app N52 N60q
    have pre61 : Go p e below T60 (mkF m 152 #[iv p1, iv p2, iv p3, iv p4, iv p5, iv (1 : Int32), iv ca, iv cb, iv cc, iv cd, rv b48, .unset, .unset] [(.ref b56)]) s₁ EF := fun t k => pre59 t (st60.trans k)
    have O62 : Old Z n0 T60.heap := O58.keep K60 (allS g_b56 all0)
    have Z62 : n0 ≤ T60.heap.size := Nat.le_trans Z58 K60.1
    have hk62 := Nat.le_trans hk58 K60.1
    have C62 := CHv.keep K60 (sfS sf58_b56 sf0) C58
    have R62 := R58.trans (CHr.keep K60 (sfS sf58_b56 sf0) C58)
    have sf62_b48 := Safe.keep K60 (sfS sf58_b56 sf0) C58 sf58_b48
    have sf62_b56 := Safe.keep K60 (sfS sf58_b56 sf0) C58 sf58_b56
    have pre63 : Go p e below T60 (mkF m 157 #[iv p1, iv p2, iv p3, iv p4, iv p5, iv (1 : Int32), iv ca, iv cb, iv cc, iv cd, rv b48, rv b56, .unset] [(.int (1 : Int32)), (.int (1 : Int32))]) s₁ EF := fun t k => pre61 t (by
        refine XS.astore X60.here hx rfl (hb hby at_152) rfl rfl (l' := #[iv p1, iv p2, iv p3, iv p4, iv p5, iv (1 : Int32), iv ca, iv cb, iv cc, iv cd, rv b48, rv b56, .unset]) rfl ?_
        refine XS.iload X60.here hx rfl (hb hby at_154) rfl ?_
        refine XS.iconst X60.here hx rfl (hb hby at_156) ?_
        exact k)
    have pre64 : Go p e below T60 (mkF m 160 #[iv p1, iv p2, iv p3, iv p4, iv p5, iv (1 : Int32), iv ca, iv cb, iv cc, iv cd, rv b48, rv b56, .unset] []) s₁ EF := fun t k => pre63 t (XS.icmpNo X60.here hx rfl (hb hby at_157) rfl (flt (by decide : ¬ ((1 : Int32) < (1 : Int32)))).1 k)
    have pre65 : Go p e below T60 (mkF m 162 #[iv p1, iv p2, iv p3, iv p4, iv p5, iv (1 : Int32), iv ca, iv cb, iv cc, iv cd, rv b48, rv b56, .unset] [(.int ca)]) s₁ EF := fun t k => pre64 t (by
        refine XS.iload X60.here hx rfl (hb hby at_160) rfl ?_
        exact k)
    obtain ⟨_, _, ⟨T66, L66, k66, n66⟩, -, X66, ⟨Lc66, hQ66, l66, y66, z66⟩, st66⟩ := Jvm.LawKit.callS X60 hx (y := mN21) hown0 (mvT hZ0 (hw _ (mW 54 rfl))) (mvT hZ0 (hw _ (mW 55 rfl))) (mvT hZ0 (hw _ (mW 3 rfl))) (mvT hZ0 (hw _ (mW 56 rfl))) (by decide) (backOf (W := 0) (rmG l Z a0 hw [] ca (digF ca) T60.heap n0 Z62 rfl) hZ0 (hw _ (mW 56 rfl)) (hw _ (mW 3 rfl)) (by decide) (by decide)) (g := (mkF m 162 #[iv p1, iv p2, iv p3, iv p4, iv p5, iv (1 : Int32), iv ca, iv cb, iv cc, iv cd, rv b48, rv b56, .unset] [(.int ca)])) rfl (by rw [hml]; rfl) (argsL := [(.int ca)]) (rest := []) (lenOf pdL_3 rfl) rfl (Nat.le_of_eq rfl) (hb hby at_162) (fun _ _ => ⟨rfl, rfl, wl rfl, wl rfl⟩)
    dsimp only [Pt.U, Pt.locs, Pt.cells, Pt.slots] at X66 l66 y66 z66 st66 hQ66
    subst l66 y66 z66
    obtain ⟨rfl, N66q, hq66⟩ := hQ66
    have N66 := Fr.app N60 N66q
    have pre67 : Go p e below T66 (mkF m 165 #[iv p1, iv p2, iv p3, iv p4, iv p5, iv (1 : Int32), iv ca, iv cb, iv cc, iv cd, rv b48, rv b56, .unset] [(.int (digF ca))]) s₁ EF := fun t k => pre65 t (st66 t k)
    have e66 : T66.heap = T60.heap := hq66
    by_cases hc165 : (digF ca) = (0 : Int32)
    · have pre68 : Go p e below T66 (mkF m 214 #[iv p1, iv p2, iv p3, iv p4, iv p5, iv (1 : Int32), iv ca, iv cb, iv cc, iv cd, rv b48, rv b56, .unset] []) s₁ EF := fun t k => pre67 t (XS.ifYes X66.here hx rfl (pc0 := 165) (pc' := 214) rfl (hb hby at_165) rfl ((if0 _ _).trans (teq hc165).1) (by decide) (by decide) k)
      have pre69 : Go p e below T66 (mkF m 219 #[iv p1, iv p2, iv p3, iv p4, iv p5, iv (1 : Int32), iv ca, iv cb, iv cc, iv cd, rv b48, rv b56, iv (0 : Int32)] [(.ref b56)]) s₁ EF := fun t k => pre68 t (by
          refine XS.iconst X66.here hx rfl (hb hby at_214) ?_
          refine XS.istore X66.here hx rfl (hb hby at_215) rfl (l' := #[iv p1, iv p2, iv p3, iv p4, iv p5, iv (1 : Int32), iv ca, iv cb, iv cc, iv cd, rv b48, rv b56, iv (0 : Int32)]) rfl ?_
          refine XS.aload X66.here hx rfl (hb hby at_217) rfl rfl ?_
          exact k)
      obtain ⟨_, _, ⟨T70, L70, k70, n70⟩, -, X70, ⟨Lc70, hQ70, l70, y70, z70⟩, st70⟩ := Jvm.LawKit.callS X66 hx (y := mN22) hown0 (mvT hZ0 (hw _ (mW 29 rfl))) (mvT hZ0 (hw _ (mW 30 rfl))) (mvT hZ0 (hw _ (mW 31 rfl))) (mvT hZ0 (hw _ (mW 32 rfl))) (by decide) (backOf (W := 0) (rmI1 l Z a0 hw [] b56 cz fv ca (0 : Int32) T60.heap n0 Z62 O62 J0 SF60 (by simp [allD, hc165])) hZ0 (hw _ (mW 32 rfl)) (hw _ (mW 31 rfl)) (by decide) (by decide)) (g := (mkF m 219 #[iv p1, iv p2, iv p3, iv p4, iv p5, iv (1 : Int32), iv ca, iv cb, iv cc, iv cd, rv b48, rv b56, iv (0 : Int32)] [(.ref b56)])) rfl (by rw [hml]; rfl) (argsL := [(.ref b56)]) (rest := []) (lenOf pdL_2 rfl) rfl (Nat.le_of_eq rfl) (hb hby at_219) (fun _ _ => ⟨rfl, e66, wl rfl, wl rfl⟩)
      dsimp only [Pt.U, Pt.locs, Pt.cells, Pt.slots] at X70 l70 y70 z70 st70 hQ70
      subst l70 y70 z70
      obtain ⟨rfl, N70q, hq70⟩ := hQ70
      have N70 := Fr.app N66 N70q
      have pre71 : Go p e below T70 (mkF m 222 #[iv p1, iv p2, iv p3, iv p4, iv p5, iv (1 : Int32), iv ca, iv cb, iv cc, iv cd, rv b48, rv b56, iv (0 : Int32)] [(.int (0 : Int32))]) s₁ EF := fun t k => pre69 t (st70 t k)
      have e70 : T70.heap = T60.heap := hq70
      have pre72 : Go p e below T70 (mkF m 224 #[iv p1, iv p2, iv p3, iv p4, iv p5, iv (1 : Int32), iv ca, iv cb, iv cc, iv cd, rv b48, rv b56, iv (0 : Int32)] [(.int (0 : Int32)), (.int (0 : Int32))]) s₁ EF := fun t k => pre71 t (by
          refine XS.iload X70.here hx rfl (hb hby at_222) rfl ?_
          exact k)
      have pre73 : Go p e below T70 (mkF m 227 #[iv p1, iv p2, iv p3, iv p4, iv p5, iv (1 : Int32), iv ca, iv cb, iv cc, iv cd, rv b48, rv b56, iv (0 : Int32)] []) s₁ EF := fun t k => pre72 t (XS.icmpNo X70.here hx rfl (hb hby at_224) rfl (teq (by decide : (0 : Int32) = (0 : Int32))).2 k)
      have pre74 : Go p e below T70 (mkF m 232 #[iv p1, iv p2, iv p3, iv p4, iv p5, iv (1 : Int32), iv ca, iv cb, iv cc, iv cd, rv b48, rv b56, iv (0 : Int32)] [(.int (1 : Int32))]) s₁ EF := fun t k => pre73 t (by
          refine XS.iconst X70.here hx rfl (hb hby at_227) ?_
          refine XS.goto X70.here hx rfl (pc0 := 228) (pc' := 232) rfl (hb hby at_228) (by decide) (by decide) ?_
          exact k)
      have hnr : Value.int (nar .boolean (1 : Int32)) = (.int (1 : Int32)) := by rfl
      obtain ⟨fs, hr, hrun, hended, hend1, hend2, hend3, hsame⟩ := X70.leaveW hS0 (by rw [e70]; exact hk62) (v := some (.int (1 : Int32))) (fun h => by rw [Bd.returns] at h; cases h)
      have hCH : CHr Z [("java/lang/String", 7)] s.vm s.heap T70.vm T70.heap := by rw [hh, e70]; exact R62.trans (CHv.at X70 hZ0 (own_EW hw) C62)
      refine ⟨_, _, hEF ▸ pre74 _ (retN X70 hx (t := .boolean) Bd.returns (by simp) (hb hby at_232) (hnr ▸ hr)), hrun, hended, _, _, rfl, ?_, hCH, hend1, hend2, hend3, hsame.mono (by decide) (by decide)⟩
      show QL Z p1 p2 p3 p4 p5 cz fv h0 n0 _ T70.heap _
      rw [e70]
      exact ⟨rfl, N70⟩
    have pre75 : Go p e below T66 (mkF m 168 #[iv p1, iv p2, iv p3, iv p4, iv p5, iv (1 : Int32), iv ca, iv cb, iv cc, iv cd, rv b48, rv b56, .unset] []) s₁ EF := fun t k => pre67 t (XS.ifNo X66.here hx rfl (hb hby at_165) rfl ((if0 _ _).trans (feq hc165).1) k)
    have pre76 : Go p e below T66 (mkF m 171 #[iv p1, iv p2, iv p3, iv p4, iv p5, iv (1 : Int32), iv ca, iv cb, iv cc, iv cd, rv b48, rv b56, .unset] [(.int (2 : Int32)), (.int (1 : Int32))]) s₁ EF := fun t k => pre75 t (by
        refine XS.iload X66.here hx rfl (hb hby at_168) rfl ?_
        refine XS.iconst X66.here hx rfl (hb hby at_170) ?_
        exact k)
    have pre77 : Go p e below T66 (mkF m 182 #[iv p1, iv p2, iv p3, iv p4, iv p5, iv (1 : Int32), iv ca, iv cb, iv cc, iv cd, rv b48, rv b56, .unset] []) s₁ EF := fun t k => pre76 t (XS.icmpYes X66.here hx rfl (pc0 := 171) (pc' := 182) rfl (hb hby at_171) rfl (tlt (by decide : (1 : Int32) < (2 : Int32))).1 (by decide) (by decide) k)
    have pre78 : Go p e below T66 (mkF m 185 #[iv p1, iv p2, iv p3, iv p4, iv p5, iv (1 : Int32), iv ca, iv cb, iv cc, iv cd, rv b48, rv b56, .unset] [(.int (3 : Int32)), (.int (1 : Int32))]) s₁ EF := fun t k => pre77 t (by
        refine XS.iload X66.here hx rfl (hb hby at_182) rfl ?_
        refine XS.iconst X66.here hx rfl (hb hby at_184) ?_
        exact k)
    have pre79 : Go p e below T66 (mkF m 196 #[iv p1, iv p2, iv p3, iv p4, iv p5, iv (1 : Int32), iv ca, iv cb, iv cc, iv cd, rv b48, rv b56, .unset] []) s₁ EF := fun t k => pre78 t (XS.icmpYes X66.here hx rfl (pc0 := 185) (pc' := 196) rfl (hb hby at_185) rfl (tlt (by decide : (1 : Int32) < (3 : Int32))).1 (by decide) (by decide) k)
    have pre80 : Go p e below T66 (mkF m 199 #[iv p1, iv p2, iv p3, iv p4, iv p5, iv (1 : Int32), iv ca, iv cb, iv cc, iv cd, rv b48, rv b56, .unset] [(.int (4 : Int32)), (.int (1 : Int32))]) s₁ EF := fun t k => pre79 t (by
        refine XS.iload X66.here hx rfl (hb hby at_196) rfl ?_
        refine XS.iconst X66.here hx rfl (hb hby at_198) ?_
        exact k)
    have pre81 : Go p e below T66 (mkF m 210 #[iv p1, iv p2, iv p3, iv p4, iv p5, iv (1 : Int32), iv ca, iv cb, iv cc, iv cd, rv b48, rv b56, .unset] []) s₁ EF := fun t k => pre80 t (XS.icmpYes X66.here hx rfl (pc0 := 199) (pc' := 210) rfl (hb hby at_199) rfl (tlt (by decide : (1 : Int32) < (4 : Int32))).1 (by decide) (by decide) k)
    have pre82 : Go p e below T66 (mkF m 219 #[iv p1, iv p2, iv p3, iv p4, iv p5, iv (1 : Int32), iv ca, iv cb, iv cc, iv cd, rv b48, rv b56, iv (1 : Int32)] [(.ref b56)]) s₁ EF := fun t k => pre81 t (by
        refine XS.iconst X66.here hx rfl (hb hby at_210) ?_
        refine XS.goto X66.here hx rfl (pc0 := 211) (pc' := 215) rfl (hb hby at_211) (by decide) (by decide) ?_
        refine XS.istore X66.here hx rfl (hb hby at_215) rfl (l' := #[iv p1, iv p2, iv p3, iv p4, iv p5, iv (1 : Int32), iv ca, iv cb, iv cc, iv cd, rv b48, rv b56, iv (1 : Int32)]) rfl ?_
        refine XS.aload X66.here hx rfl (hb hby at_217) rfl rfl ?_
        exact k)
    obtain ⟨_, _, ⟨T83, L83, k83, n83⟩, -, X83, ⟨Lc83, hQ83, l83, y83, z83⟩, st83⟩ := Jvm.LawKit.callS X66 hx (y := mN22) hown0 (mvT hZ0 (hw _ (mW 29 rfl))) (mvT hZ0 (hw _ (mW 30 rfl))) (mvT hZ0 (hw _ (mW 31 rfl))) (mvT hZ0 (hw _ (mW 32 rfl))) (by decide) (backOf (W := 0) (rmI1 l Z a0 hw [] b56 cz fv ca (1 : Int32) T60.heap n0 Z62 O62 J0 SF60 (by simp [allD, hc165])) hZ0 (hw _ (mW 32 rfl)) (hw _ (mW 31 rfl)) (by decide) (by decide)) (g := (mkF m 219 #[iv p1, iv p2, iv p3, iv p4, iv p5, iv (1 : Int32), iv ca, iv cb, iv cc, iv cd, rv b48, rv b56, iv (1 : Int32)] [(.ref b56)])) rfl (by rw [hml]; rfl) (argsL := [(.ref b56)]) (rest := []) (lenOf pdL_2 rfl) rfl (Nat.le_of_eq rfl) (hb hby at_219) (fun _ _ => ⟨rfl, e66, wl rfl, wl rfl⟩)
    dsimp only [Pt.U, Pt.locs, Pt.cells, Pt.slots] at X83 l83 y83 z83 st83 hQ83
    subst l83 y83 z83
    obtain ⟨rfl, N83q, hq83⟩ := hQ83
    have N83 := Fr.app N66 N83q
    have pre84 : Go p e below T83 (mkF m 222 #[iv p1, iv p2, iv p3, iv p4, iv p5, iv (1 : Int32), iv ca, iv cb, iv cc, iv cd, rv b48, rv b56, iv (1 : Int32)] [(.int (1 : Int32))]) s₁ EF := fun t k => pre82 t (st83 t k)
    have e83 : T83.heap = T60.heap := hq83
    have pre85 : Go p e below T83 (mkF m 224 #[iv p1, iv p2, iv p3, iv p4, iv p5, iv (1 : Int32), iv ca, iv cb, iv cc, iv cd, rv b48, rv b56, iv (1 : Int32)] [(.int (1 : Int32)), (.int (1 : Int32))]) s₁ EF := fun t k => pre84 t (by
        refine XS.iload X83.here hx rfl (hb hby at_222) rfl ?_
        exact k)
    have pre86 : Go p e below T83 (mkF m 227 #[iv p1, iv p2, iv p3, iv p4, iv p5, iv (1 : Int32), iv ca, iv cb, iv cc, iv cd, rv b48, rv b56, iv (1 : Int32)] []) s₁ EF := fun t k => pre85 t (XS.icmpNo X83.here hx rfl (hb hby at_224) rfl (teq (by decide : (1 : Int32) = (1 : Int32))).2 k)
    have pre87 : Go p e below T83 (mkF m 232 #[iv p1, iv p2, iv p3, iv p4, iv p5, iv (1 : Int32), iv ca, iv cb, iv cc, iv cd, rv b48, rv b56, iv (1 : Int32)] [(.int (1 : Int32))]) s₁ EF := fun t k => pre86 t (by
        refine XS.iconst X83.here hx rfl (hb hby at_227) ?_
        refine XS.goto X83.here hx rfl (pc0 := 228) (pc' := 232) rfl (hb hby at_228) (by decide) (by decide) ?_
        exact k)
    have hnr : Value.int (nar .boolean (1 : Int32)) = (.int (1 : Int32)) := by rfl
    obtain ⟨fs, hr, hrun, hended, hend1, hend2, hend3, hsame⟩ := X83.leaveW hS0 (by rw [e83]; exact hk62) (v := some (.int (1 : Int32))) (fun h => by rw [Bd.returns] at h; cases h)
    have hCH : CHr Z [("java/lang/String", 7)] s.vm s.heap T83.vm T83.heap := by rw [hh, e83]; exact R62.trans (CHv.at X83 hZ0 (own_EW hw) C62)
    refine ⟨_, _, hEF ▸ pre87 _ (retN X83 hx (t := .boolean) Bd.returns (by simp) (hb hby at_232) (hnr ▸ hr)), hrun, hended, _, _, rfl, ?_, hCH, hend1, hend2, hend3, hsame.mono (by decide) (by decide)⟩
    show QL Z p1 p2 p3 p4 p5 cz fv h0 n0 _ T83.heap _
    rw [e83]
    exact ⟨rfl, N83⟩
  · subst hv14_2
    have pre88 : Go p e below T11 (mkF m 35 #[iv p1, iv p2, iv p3, iv p4, iv p5, iv (2 : Int32), iv ca, iv cb, iv cc, iv cd, .unset, .unset, .unset] [(.int (2 : Int32))]) s₁ EF := fun t k => pre13 t (by
        refine XS.iload X11.here hx rfl (hb hby at_33) rfl ?_
        exact k)
    have pre89 : Go p e below T11 (mkF m 46 #[iv p1, iv p2, iv p3, iv p4, iv p5, iv (2 : Int32), iv ca, iv cb, iv cc, iv cd, .unset, .unset, .unset] []) s₁ EF := fun t k => pre88 t (XS.ifYes X11.here hx rfl (pc0 := 35) (pc' := 46) rfl (hb hby at_35) rfl ((if0 _ _).trans (feq (by decide : ¬ ((2 : Int32) = (0 : Int32)))).2) (by decide) (by decide) k)
    have pre90 : Go p e below T11 (mkF m 49 #[iv p1, iv p2, iv p3, iv p4, iv p5, iv (2 : Int32), iv ca, iv cb, iv cc, iv cd, .unset, .unset, .unset] [(.int (1 : Int32)), (.int (2 : Int32))]) s₁ EF := fun t k => pre89 t (by
        refine XS.iload X11.here hx rfl (hb hby at_46) rfl ?_
        refine XS.iconst X11.here hx rfl (hb hby at_48) ?_
        exact k)
    have pre91 : Go p e below T11 (mkF m 65 #[iv p1, iv p2, iv p3, iv p4, iv p5, iv (2 : Int32), iv ca, iv cb, iv cc, iv cd, .unset, .unset, .unset] []) s₁ EF := fun t k => pre90 t (XS.icmpYes X11.here hx rfl (pc0 := 49) (pc' := 65) rfl (hb hby at_49) rfl (feq (by decide : ¬ ((2 : Int32) = (1 : Int32)))).2 (by decide) (by decide) k)
    have pre92 : Go p e below T11 (mkF m 68 #[iv p1, iv p2, iv p3, iv p4, iv p5, iv (2 : Int32), iv ca, iv cb, iv cc, iv cd, .unset, .unset, .unset] [(.int (2 : Int32)), (.int (2 : Int32))]) s₁ EF := fun t k => pre91 t (by
        refine XS.iload X11.here hx rfl (hb hby at_65) rfl ?_
        refine XS.iconst X11.here hx rfl (hb hby at_67) ?_
        exact k)
    have pre93 : Go p e below T11 (mkF m 71 #[iv p1, iv p2, iv p3, iv p4, iv p5, iv (2 : Int32), iv ca, iv cb, iv cc, iv cd, .unset, .unset, .unset] []) s₁ EF := fun t k => pre92 t (XS.icmpNo X11.here hx rfl (hb hby at_68) rfl (teq (by decide : (2 : Int32) = (2 : Int32))).2 k)
    have pre94 : Go p e below T11 (mkF m 72 #[iv p1, iv p2, iv p3, iv p4, iv p5, iv (2 : Int32), iv ca, iv cb, iv cc, iv cd, .unset, .unset, .unset] [(.int (2 : Int32))]) s₁ EF := fun t k => pre93 t (by
        refine XS.iconst X11.here hx rfl (hb hby at_71) ?_
        exact k)
    obtain ⟨T95, h95, k95, X95, e95, Et95, A95, st95⟩ := newP X11 hx hZ0 (hw _ (mW 7 rfl)) e11 (g := (mkF m 72 #[iv p1, iv p2, iv p3, iv p4, iv p5, iv (2 : Int32), iv ca, iv cb, iv cc, iv cd, .unset, .unset, .unset] [(.int (2 : Int32))])) rfl (hb hby at_72) rfl (by decide) (cap := 2) (by decide) (by decide) (by decide) (by decide)
    obtain ⟨b95, g95⟩ : ∃ z, z = h0.size := ⟨_, rfl⟩
    rw [← g95] at A95 st95
    have g_b95 : n0 ≤ b95 := Nat.le_trans Z0 (Nat.le_of_eq g95.symm)
    have sfn_b95 : Safe Z [("java/lang/String", 7)] s.vm h0 b95 := Safe.new (Nat.le_of_eq g95.symm)
    have pre96 : Go p e below T95 (mkF m 74 #[iv p1, iv p2, iv p3, iv p4, iv p5, iv (2 : Int32), iv ca, iv cb, iv cc, iv cd, .unset, .unset, .unset] [(.ref b95)]) s₁ EF := fun t k => pre94 t (st95 t k)
    have O97 : Old Z n0 h95 := O0.ext Et95
    have Z97 : n0 ≤ h95.size := Nat.le_trans Z0 Et95.1
    have hk97 := Nat.le_trans hk0 Et95.1
    have C97 := CHv.ext Et95 hC
    have R97 := (CHr.refl hC).trans (CHr.ext Et95 hC)
    have sf97_b95 := Safe.ext Et95 hC sfn_b95
    have V95 : Arv Z h95 b95 k95 .char (2 : Int32) [(.int (0 : Int32)), (.int (0 : Int32))] (.int (0 : Int32)) := (Arv.new A95 (by decide)).pad (pad_rep [] (.int (0 : Int32)) 2)
    have pre98 : Go p e below T95 (mkF m 78 #[iv p1, iv p2, iv p3, iv p4, iv p5, iv (2 : Int32), iv ca, iv cb, iv cc, iv cd, .unset, .unset, .unset] [(.int ca), (.int (0 : Int32)), (.ref b95), (.ref b95)]) s₁ EF := fun t k => pre96 t (by
        refine XS.dup X95.here hx rfl (hb hby at_74) rfl rfl ?_
        refine XS.iconst X95.here hx rfl (hb hby at_75) ?_
        refine XS.iload X95.here hx rfl (hb hby at_76) rfl ?_
        exact k)
    obtain ⟨cl99, Ar99, q99, Sz99, M99, H99, G99⟩ := id V95
    have hin99 : ¬ ((0 : Int32) < 0 ∨ cl99.slots.size ≤ ((0 : Int32)).toNatClampNeg) := inb_of Sz99 ⟨by decide, by decide⟩
    obtain ⟨T99, h99, X99, e99, W99, st99⟩ := stC X95 hx hZ0 e95 Ar99 (j := (0 : Int32)) hin99 (g := (mkF m 78 #[iv p1, iv p2, iv p3, iv p4, iv p5, iv (2 : Int32), iv ca, iv cb, iv cc, iv cd, .unset, .unset, .unset] [(.int ca), (.int (0 : Int32)), (.ref b95), (.ref b95)])) rfl rfl (hb hby at_78)
    rw [(own_nc rca.1 rca.2)] at W99
    have pre100 : Go p e below T99 (mkF m 79 #[iv p1, iv p2, iv p3, iv p4, iv p5, iv (2 : Int32), iv ca, iv cb, iv cc, iv cd, .unset, .unset, .unset] [(.ref b95)]) s₁ EF := fun t k => pre98 t (st99 t k)
    have O101 : Old Z n0 h99 := O97.wr W99 g_b95
    have Z101 : n0 ≤ h99.size := Nat.le_trans Z97 (Keep.of_wr W99).1
    have hk101 := Nat.le_trans hk97 (Keep.of_wr W99).1
    have C101 := CHv.wr W99 sf97_b95 C97
    have R101 := R97.trans (CHr.wr W99 sf97_b95 C97)
    have sf101_b95 := Safe.wr W99 sf97_b95 C97 sf97_b95
    have V99 : Arv Z h99 b95 k95 .char (2 : Int32) [(.int ca), (.int (0 : Int32))] (.int (0 : Int32)) := Arv.set Ar99 q99 Sz99 M99 H99 G99 (own_fitc (own_nc rca.1 rca.2)) W99 0 rfl (Nat.le_of_ble_eq_true rfl)
    have N99 := Fr.snoc X99 N11 g_b95
    have pre102 : Go p e below T99 (mkF m 83 #[iv p1, iv p2, iv p3, iv p4, iv p5, iv (2 : Int32), iv ca, iv cb, iv cc, iv cd, .unset, .unset, .unset] [(.int cb), (.int (1 : Int32)), (.ref b95), (.ref b95)]) s₁ EF := fun t k => pre100 t (by
        refine XS.dup X99.here hx rfl (hb hby at_79) rfl rfl ?_
        refine XS.iconst X99.here hx rfl (hb hby at_80) ?_
        refine XS.iload X99.here hx rfl (hb hby at_81) rfl ?_
        exact k)
    obtain ⟨cl103, Ar103, q103, Sz103, M103, H103, G103⟩ := id V99
    have hin103 : ¬ ((1 : Int32) < 0 ∨ cl103.slots.size ≤ ((1 : Int32)).toNatClampNeg) := inb_of Sz103 ⟨by decide, by decide⟩
    obtain ⟨T103, h103, X103, e103, W103, st103⟩ := stC X99 hx hZ0 e99 Ar103 (j := (1 : Int32)) hin103 (g := (mkF m 83 #[iv p1, iv p2, iv p3, iv p4, iv p5, iv (2 : Int32), iv ca, iv cb, iv cc, iv cd, .unset, .unset, .unset] [(.int cb), (.int (1 : Int32)), (.ref b95), (.ref b95)])) rfl rfl (hb hby at_83)
    rw [(own_nc rcb.1 rcb.2)] at W103
    have pre104 : Go p e below T103 (mkF m 84 #[iv p1, iv p2, iv p3, iv p4, iv p5, iv (2 : Int32), iv ca, iv cb, iv cc, iv cd, .unset, .unset, .unset] [(.ref b95)]) s₁ EF := fun t k => pre102 t (st103 t k)
    have O105 : Old Z n0 h103 := O101.wr W103 g_b95
    have Z105 : n0 ≤ h103.size := Nat.le_trans Z101 (Keep.of_wr W103).1
    have hk105 := Nat.le_trans hk101 (Keep.of_wr W103).1
    have C105 := CHv.wr W103 sf101_b95 C101
    have R105 := R101.trans (CHr.wr W103 sf101_b95 C101)
    have sf105_b95 := Safe.wr W103 sf101_b95 C101 sf101_b95
    have V103 : Arv Z h103 b95 k95 .char (2 : Int32) [(.int ca), (.int cb)] (.int (0 : Int32)) := Arv.set Ar103 q103 Sz103 M103 H103 G103 (own_fitc (own_nc rcb.1 rcb.2)) W103 1 rfl (Nat.le_of_ble_eq_true rfl)
    have N103 := Fr.snoc X103 N99 g_b95
    have pre106 : Go p e below T103 (mkF m 143 #[iv p1, iv p2, iv p3, iv p4, iv p5, iv (2 : Int32), iv ca, iv cb, iv cc, iv cd, rv b95, .unset, .unset] []) s₁ EF := fun t k => pre104 t (by
        refine XS.astore X103.here hx rfl (hb hby at_84) rfl rfl (l' := #[iv p1, iv p2, iv p3, iv p4, iv p5, iv (2 : Int32), iv ca, iv cb, iv cc, iv cd, rv b95, .unset, .unset]) rfl ?_
        refine XS.goto X103.here hx rfl (pc0 := 86) (pc' := 143) rfl (hb hby at_86) (by decide) (by decide) ?_
        exact k)
    obtain ⟨T107, h107, X107, e107, Et107, A107, D107, U107, st107⟩ := newO X103 hx hZ0 hown0 (hw _ (mW 8 rfl)) (hw _ (mW 9 rfl)) (hw _ (mW 10 rfl)) e103 (g := (mkF m 143 #[iv p1, iv p2, iv p3, iv p4, iv p5, iv (2 : Int32), iv ca, iv cb, iv cc, iv cd, rv b95, .unset, .unset] [])) rfl (hb hby at_143) (by decide) (by decide)
    obtain ⟨b107, g107⟩ : ∃ z, z = h103.size := ⟨_, rfl⟩
    rw [← g107] at A107 st107 D107
    have g_b107 : n0 ≤ b107 := Nat.le_trans Z105 (Nat.le_of_eq g107.symm)
    have sfn_b107 : Safe Z [("java/lang/String", 7)] s.vm h103 b107 := Safe.new (Nat.le_of_eq g107.symm)
    have ne_b95_b107 : b95 ≠ b107 := Nat.ne_of_lt (Nat.lt_of_lt_of_le V103.lt (Nat.le_of_eq g107.symm))
    have pre108 : Go p e below T107 (mkF m 146 #[iv p1, iv p2, iv p3, iv p4, iv p5, iv (2 : Int32), iv ca, iv cb, iv cc, iv cd, rv b95, .unset, .unset] [(.ref b107)]) s₁ EF := fun t k => pre106 t (st107 t k)
    have O109 : Old Z n0 h107 := O105.ext Et107
    have Z109 : n0 ≤ h107.size := Nat.le_trans Z105 Et107.1
    have hk109 := Nat.le_trans hk105 Et107.1
    have C109 := CHv.ext Et107 C105
    have R109 := R105.trans (CHr.ext Et107 C105)
    have sf109_b95 := Safe.ext Et107 C105 sf105_b95
    have sf109_b107 := Safe.ext Et107 C105 sfn_b107
    have F_value_b107 : Fld Z h107 b107 "java/lang/String" "value" "[B" .null := D107 (Or.inr (hw _ (mW 23 rfl))) (ty := (.array .byte)) (by decide)
    have F_coder_b107 : Fld Z h107 b107 "java/lang/String" "coder" "B" (.int (0 : Int32)) := D107 (Or.inr (hw _ (mW 24 rfl))) (ty := .byte) (by decide)
    have pre110 : Go p e below T107 (mkF m 149 #[iv p1, iv p2, iv p3, iv p4, iv p5, iv (2 : Int32), iv ca, iv cb, iv cc, iv cd, rv b95, .unset, .unset] [(.ref b95), (.ref b107), (.ref b107)]) s₁ EF := fun t k => pre108 t (by
        refine XS.dup X107.here hx rfl (hb hby at_146) rfl rfl ?_
        refine XS.aload X107.here hx rfl (hb hby at_147) rfl rfl ?_
        exact k)
    obtain ⟨_, _, ⟨T111, L111, k111, n111⟩, -, X111, ⟨Lc111, hQ111, l111, y111, z111⟩, st111⟩ := X107.specialBack hx (y := mN19) rfl hown0 (mvT hZ0 (hw _ (mW 11 rfl))) (mvT hZ0 (hw _ (mW 12 rfl))) (mvT hZ0 (hw _ (mW 13 rfl))) (by decide) (backOf (W := 1) (rmKj2 l Z a0 hw [] b107 b95 cz fv k95 ca cb h107 n0 Z109 O109 J0 A107 g_b107 F_value_b107 F_coder_b107 (V103.ext Et107) (List.forall_mem_cons.mpr ⟨rca, (List.forall_mem_cons.mpr ⟨rcb, (fun _ q => nomatch q)⟩)⟩)) hZ0 (hw _ (mW 13 rfl)) (hw _ (mW 10 rfl)) (by decide) (by decide)) (g := (mkF m 149 #[iv p1, iv p2, iv p3, iv p4, iv p5, iv (2 : Int32), iv ca, iv cb, iv cc, iv cd, rv b95, .unset, .unset] [(.ref b95), (.ref b107), (.ref b107)])) rfl (by rw [hml]; rfl) (Steps.refl _) (a := b107) (argsL := [(.ref b95)]) (rest := [(.ref b107)]) (lenOf pdL_1 rfl) rfl (Nat.le_of_eq rfl) (hb hby at_149) (fun _ _ => ⟨rfl, e107, wl rfl, wl rfl⟩)
    dsimp only [Pt.U, Pt.locs, Pt.cells, Pt.slots] at X111 l111 y111 z111 st111 hQ111
    subst l111 y111 z111
    obtain ⟨rfl, N111q, K111, SF111⟩ := hQ111
    have N111 := Fr.app N103 N111q
    have pre112 : Go p e below T111 (mkF m 152 #[iv p1, iv p2, iv p3, iv p4, iv p5, iv (2 : Int32), iv ca, iv cb, iv cc, iv cd, rv b95, .unset, .unset] [(.ref b107)]) s₁ EF := fun t k => pre110 t (st111.trans k)
    have O113 : Old Z n0 T111.heap := O109.keep K111 (allS g_b107 all0)
    have Z113 : n0 ≤ T111.heap.size := Nat.le_trans Z109 K111.1
    have hk113 := Nat.le_trans hk109 K111.1
    have C113 := CHv.keep K111 (sfS sf109_b107 sf0) C109
    have R113 := R109.trans (CHr.keep K111 (sfS sf109_b107 sf0) C109)
    have sf113_b95 := Safe.keep K111 (sfS sf109_b107 sf0) C109 sf109_b95
    have sf113_b107 := Safe.keep K111 (sfS sf109_b107 sf0) C109 sf109_b107
    have pre114 : Go p e below T111 (mkF m 157 #[iv p1, iv p2, iv p3, iv p4, iv p5, iv (2 : Int32), iv ca, iv cb, iv cc, iv cd, rv b95, rv b107, .unset] [(.int (1 : Int32)), (.int (2 : Int32))]) s₁ EF := fun t k => pre112 t (by
        refine XS.astore X111.here hx rfl (hb hby at_152) rfl rfl (l' := #[iv p1, iv p2, iv p3, iv p4, iv p5, iv (2 : Int32), iv ca, iv cb, iv cc, iv cd, rv b95, rv b107, .unset]) rfl ?_
        refine XS.iload X111.here hx rfl (hb hby at_154) rfl ?_
        refine XS.iconst X111.here hx rfl (hb hby at_156) ?_
        exact k)
    have pre115 : Go p e below T111 (mkF m 160 #[iv p1, iv p2, iv p3, iv p4, iv p5, iv (2 : Int32), iv ca, iv cb, iv cc, iv cd, rv b95, rv b107, .unset] []) s₁ EF := fun t k => pre114 t (XS.icmpNo X111.here hx rfl (hb hby at_157) rfl (flt (by decide : ¬ ((2 : Int32) < (1 : Int32)))).1 k)
    have pre116 : Go p e below T111 (mkF m 162 #[iv p1, iv p2, iv p3, iv p4, iv p5, iv (2 : Int32), iv ca, iv cb, iv cc, iv cd, rv b95, rv b107, .unset] [(.int ca)]) s₁ EF := fun t k => pre115 t (by
        refine XS.iload X111.here hx rfl (hb hby at_160) rfl ?_
        exact k)
    obtain ⟨_, _, ⟨T117, L117, k117, n117⟩, -, X117, ⟨Lc117, hQ117, l117, y117, z117⟩, st117⟩ := Jvm.LawKit.callS X111 hx (y := mN21) hown0 (mvT hZ0 (hw _ (mW 54 rfl))) (mvT hZ0 (hw _ (mW 55 rfl))) (mvT hZ0 (hw _ (mW 3 rfl))) (mvT hZ0 (hw _ (mW 56 rfl))) (by decide) (backOf (W := 0) (rmG l Z a0 hw [] ca (digF ca) T111.heap n0 Z113 rfl) hZ0 (hw _ (mW 56 rfl)) (hw _ (mW 3 rfl)) (by decide) (by decide)) (g := (mkF m 162 #[iv p1, iv p2, iv p3, iv p4, iv p5, iv (2 : Int32), iv ca, iv cb, iv cc, iv cd, rv b95, rv b107, .unset] [(.int ca)])) rfl (by rw [hml]; rfl) (argsL := [(.int ca)]) (rest := []) (lenOf pdL_3 rfl) rfl (Nat.le_of_eq rfl) (hb hby at_162) (fun _ _ => ⟨rfl, rfl, wl rfl, wl rfl⟩)
    dsimp only [Pt.U, Pt.locs, Pt.cells, Pt.slots] at X117 l117 y117 z117 st117 hQ117
    subst l117 y117 z117
    obtain ⟨rfl, N117q, hq117⟩ := hQ117
    have N117 := Fr.app N111 N117q
    have pre118 : Go p e below T117 (mkF m 165 #[iv p1, iv p2, iv p3, iv p4, iv p5, iv (2 : Int32), iv ca, iv cb, iv cc, iv cd, rv b95, rv b107, .unset] [(.int (digF ca))]) s₁ EF := fun t k => pre116 t (st117 t k)
    have e117 : T117.heap = T111.heap := hq117
    by_cases hc165 : (digF ca) = (0 : Int32)
    · have pre119 : Go p e below T117 (mkF m 214 #[iv p1, iv p2, iv p3, iv p4, iv p5, iv (2 : Int32), iv ca, iv cb, iv cc, iv cd, rv b95, rv b107, .unset] []) s₁ EF := fun t k => pre118 t (XS.ifYes X117.here hx rfl (pc0 := 165) (pc' := 214) rfl (hb hby at_165) rfl ((if0 _ _).trans (teq hc165).1) (by decide) (by decide) k)
      have pre120 : Go p e below T117 (mkF m 219 #[iv p1, iv p2, iv p3, iv p4, iv p5, iv (2 : Int32), iv ca, iv cb, iv cc, iv cd, rv b95, rv b107, iv (0 : Int32)] [(.ref b107)]) s₁ EF := fun t k => pre119 t (by
          refine XS.iconst X117.here hx rfl (hb hby at_214) ?_
          refine XS.istore X117.here hx rfl (hb hby at_215) rfl (l' := #[iv p1, iv p2, iv p3, iv p4, iv p5, iv (2 : Int32), iv ca, iv cb, iv cc, iv cd, rv b95, rv b107, iv (0 : Int32)]) rfl ?_
          refine XS.aload X117.here hx rfl (hb hby at_217) rfl rfl ?_
          exact k)
      obtain ⟨_, _, ⟨T121, L121, k121, n121⟩, -, X121, ⟨Lc121, hQ121, l121, y121, z121⟩, st121⟩ := Jvm.LawKit.callS X117 hx (y := mN22) hown0 (mvT hZ0 (hw _ (mW 29 rfl))) (mvT hZ0 (hw _ (mW 30 rfl))) (mvT hZ0 (hw _ (mW 31 rfl))) (mvT hZ0 (hw _ (mW 32 rfl))) (by decide) (backOf (W := 0) (rmI2 l Z a0 hw [] b107 cz fv ca cb (0 : Int32) T111.heap n0 Z113 O113 J0 SF111 (by simp [allD, hc165])) hZ0 (hw _ (mW 32 rfl)) (hw _ (mW 31 rfl)) (by decide) (by decide)) (g := (mkF m 219 #[iv p1, iv p2, iv p3, iv p4, iv p5, iv (2 : Int32), iv ca, iv cb, iv cc, iv cd, rv b95, rv b107, iv (0 : Int32)] [(.ref b107)])) rfl (by rw [hml]; rfl) (argsL := [(.ref b107)]) (rest := []) (lenOf pdL_2 rfl) rfl (Nat.le_of_eq rfl) (hb hby at_219) (fun _ _ => ⟨rfl, e117, wl rfl, wl rfl⟩)
      dsimp only [Pt.U, Pt.locs, Pt.cells, Pt.slots] at X121 l121 y121 z121 st121 hQ121
      subst l121 y121 z121
      obtain ⟨rfl, N121q, hq121⟩ := hQ121
      have N121 := Fr.app N117 N121q
      have pre122 : Go p e below T121 (mkF m 222 #[iv p1, iv p2, iv p3, iv p4, iv p5, iv (2 : Int32), iv ca, iv cb, iv cc, iv cd, rv b95, rv b107, iv (0 : Int32)] [(.int (0 : Int32))]) s₁ EF := fun t k => pre120 t (st121 t k)
      have e121 : T121.heap = T111.heap := hq121
      have pre123 : Go p e below T121 (mkF m 224 #[iv p1, iv p2, iv p3, iv p4, iv p5, iv (2 : Int32), iv ca, iv cb, iv cc, iv cd, rv b95, rv b107, iv (0 : Int32)] [(.int (0 : Int32)), (.int (0 : Int32))]) s₁ EF := fun t k => pre122 t (by
          refine XS.iload X121.here hx rfl (hb hby at_222) rfl ?_
          exact k)
      have pre124 : Go p e below T121 (mkF m 227 #[iv p1, iv p2, iv p3, iv p4, iv p5, iv (2 : Int32), iv ca, iv cb, iv cc, iv cd, rv b95, rv b107, iv (0 : Int32)] []) s₁ EF := fun t k => pre123 t (XS.icmpNo X121.here hx rfl (hb hby at_224) rfl (teq (by decide : (0 : Int32) = (0 : Int32))).2 k)
      have pre125 : Go p e below T121 (mkF m 232 #[iv p1, iv p2, iv p3, iv p4, iv p5, iv (2 : Int32), iv ca, iv cb, iv cc, iv cd, rv b95, rv b107, iv (0 : Int32)] [(.int (1 : Int32))]) s₁ EF := fun t k => pre124 t (by
          refine XS.iconst X121.here hx rfl (hb hby at_227) ?_
          refine XS.goto X121.here hx rfl (pc0 := 228) (pc' := 232) rfl (hb hby at_228) (by decide) (by decide) ?_
          exact k)
      have hnr : Value.int (nar .boolean (1 : Int32)) = (.int (1 : Int32)) := by rfl
      obtain ⟨fs, hr, hrun, hended, hend1, hend2, hend3, hsame⟩ := X121.leaveW hS0 (by rw [e121]; exact hk113) (v := some (.int (1 : Int32))) (fun h => by rw [Bd.returns] at h; cases h)
      have hCH : CHr Z [("java/lang/String", 7)] s.vm s.heap T121.vm T121.heap := by rw [hh, e121]; exact R113.trans (CHv.at X121 hZ0 (own_EW hw) C113)
      refine ⟨_, _, hEF ▸ pre125 _ (retN X121 hx (t := .boolean) Bd.returns (by simp) (hb hby at_232) (hnr ▸ hr)), hrun, hended, _, _, rfl, ?_, hCH, hend1, hend2, hend3, hsame.mono (by decide) (by decide)⟩
      show QL Z p1 p2 p3 p4 p5 cz fv h0 n0 _ T121.heap _
      rw [e121]
      exact ⟨rfl, N121⟩
    have pre126 : Go p e below T117 (mkF m 168 #[iv p1, iv p2, iv p3, iv p4, iv p5, iv (2 : Int32), iv ca, iv cb, iv cc, iv cd, rv b95, rv b107, .unset] []) s₁ EF := fun t k => pre118 t (XS.ifNo X117.here hx rfl (hb hby at_165) rfl ((if0 _ _).trans (feq hc165).1) k)
    have pre127 : Go p e below T117 (mkF m 171 #[iv p1, iv p2, iv p3, iv p4, iv p5, iv (2 : Int32), iv ca, iv cb, iv cc, iv cd, rv b95, rv b107, .unset] [(.int (2 : Int32)), (.int (2 : Int32))]) s₁ EF := fun t k => pre126 t (by
        refine XS.iload X117.here hx rfl (hb hby at_168) rfl ?_
        refine XS.iconst X117.here hx rfl (hb hby at_170) ?_
        exact k)
    have pre128 : Go p e below T117 (mkF m 174 #[iv p1, iv p2, iv p3, iv p4, iv p5, iv (2 : Int32), iv ca, iv cb, iv cc, iv cd, rv b95, rv b107, .unset] []) s₁ EF := fun t k => pre127 t (XS.icmpNo X117.here hx rfl (hb hby at_171) rfl (flt (by decide : ¬ ((2 : Int32) < (2 : Int32)))).1 k)
    have pre129 : Go p e below T117 (mkF m 176 #[iv p1, iv p2, iv p3, iv p4, iv p5, iv (2 : Int32), iv ca, iv cb, iv cc, iv cd, rv b95, rv b107, .unset] [(.int cb)]) s₁ EF := fun t k => pre128 t (by
        refine XS.iload X117.here hx rfl (hb hby at_174) rfl ?_
        exact k)
    obtain ⟨_, _, ⟨T130, L130, k130, n130⟩, -, X130, ⟨Lc130, hQ130, l130, y130, z130⟩, st130⟩ := Jvm.LawKit.callS X117 hx (y := mN21) hown0 (mvT hZ0 (hw _ (mW 54 rfl))) (mvT hZ0 (hw _ (mW 55 rfl))) (mvT hZ0 (hw _ (mW 3 rfl))) (mvT hZ0 (hw _ (mW 56 rfl))) (by decide) (backOf (W := 0) (rmG l Z a0 hw [] cb (digF cb) T111.heap n0 Z113 rfl) hZ0 (hw _ (mW 56 rfl)) (hw _ (mW 3 rfl)) (by decide) (by decide)) (g := (mkF m 176 #[iv p1, iv p2, iv p3, iv p4, iv p5, iv (2 : Int32), iv ca, iv cb, iv cc, iv cd, rv b95, rv b107, .unset] [(.int cb)])) rfl (by rw [hml]; rfl) (argsL := [(.int cb)]) (rest := []) (lenOf pdL_3 rfl) rfl (Nat.le_of_eq rfl) (hb hby at_176) (fun _ _ => ⟨rfl, e117, wl rfl, wl rfl⟩)
    dsimp only [Pt.U, Pt.locs, Pt.cells, Pt.slots] at X130 l130 y130 z130 st130 hQ130
    subst l130 y130 z130
    obtain ⟨rfl, N130q, hq130⟩ := hQ130
    have N130 := Fr.app N117 N130q
    have pre131 : Go p e below T130 (mkF m 179 #[iv p1, iv p2, iv p3, iv p4, iv p5, iv (2 : Int32), iv ca, iv cb, iv cc, iv cd, rv b95, rv b107, .unset] [(.int (digF cb))]) s₁ EF := fun t k => pre129 t (st130 t k)
    have e130 : T130.heap = T111.heap := hq130
    by_cases hc179 : (digF cb) = (0 : Int32)
    · have pre132 : Go p e below T130 (mkF m 214 #[iv p1, iv p2, iv p3, iv p4, iv p5, iv (2 : Int32), iv ca, iv cb, iv cc, iv cd, rv b95, rv b107, .unset] []) s₁ EF := fun t k => pre131 t (XS.ifYes X130.here hx rfl (pc0 := 179) (pc' := 214) rfl (hb hby at_179) rfl ((if0 _ _).trans (teq hc179).1) (by decide) (by decide) k)
      have pre133 : Go p e below T130 (mkF m 219 #[iv p1, iv p2, iv p3, iv p4, iv p5, iv (2 : Int32), iv ca, iv cb, iv cc, iv cd, rv b95, rv b107, iv (0 : Int32)] [(.ref b107)]) s₁ EF := fun t k => pre132 t (by
          refine XS.iconst X130.here hx rfl (hb hby at_214) ?_
          refine XS.istore X130.here hx rfl (hb hby at_215) rfl (l' := #[iv p1, iv p2, iv p3, iv p4, iv p5, iv (2 : Int32), iv ca, iv cb, iv cc, iv cd, rv b95, rv b107, iv (0 : Int32)]) rfl ?_
          refine XS.aload X130.here hx rfl (hb hby at_217) rfl rfl ?_
          exact k)
      obtain ⟨_, _, ⟨T134, L134, k134, n134⟩, -, X134, ⟨Lc134, hQ134, l134, y134, z134⟩, st134⟩ := Jvm.LawKit.callS X130 hx (y := mN22) hown0 (mvT hZ0 (hw _ (mW 29 rfl))) (mvT hZ0 (hw _ (mW 30 rfl))) (mvT hZ0 (hw _ (mW 31 rfl))) (mvT hZ0 (hw _ (mW 32 rfl))) (by decide) (backOf (W := 0) (rmI2 l Z a0 hw [] b107 cz fv ca cb (0 : Int32) T111.heap n0 Z113 O113 J0 SF111 (by simp [allD, hc165, hc179])) hZ0 (hw _ (mW 32 rfl)) (hw _ (mW 31 rfl)) (by decide) (by decide)) (g := (mkF m 219 #[iv p1, iv p2, iv p3, iv p4, iv p5, iv (2 : Int32), iv ca, iv cb, iv cc, iv cd, rv b95, rv b107, iv (0 : Int32)] [(.ref b107)])) rfl (by rw [hml]; rfl) (argsL := [(.ref b107)]) (rest := []) (lenOf pdL_2 rfl) rfl (Nat.le_of_eq rfl) (hb hby at_219) (fun _ _ => ⟨rfl, e130, wl rfl, wl rfl⟩)
      dsimp only [Pt.U, Pt.locs, Pt.cells, Pt.slots] at X134 l134 y134 z134 st134 hQ134
      subst l134 y134 z134
      obtain ⟨rfl, N134q, hq134⟩ := hQ134
      have N134 := Fr.app N130 N134q
      have pre135 : Go p e below T134 (mkF m 222 #[iv p1, iv p2, iv p3, iv p4, iv p5, iv (2 : Int32), iv ca, iv cb, iv cc, iv cd, rv b95, rv b107, iv (0 : Int32)] [(.int (0 : Int32))]) s₁ EF := fun t k => pre133 t (st134 t k)
      have e134 : T134.heap = T111.heap := hq134
      have pre136 : Go p e below T134 (mkF m 224 #[iv p1, iv p2, iv p3, iv p4, iv p5, iv (2 : Int32), iv ca, iv cb, iv cc, iv cd, rv b95, rv b107, iv (0 : Int32)] [(.int (0 : Int32)), (.int (0 : Int32))]) s₁ EF := fun t k => pre135 t (by
          refine XS.iload X134.here hx rfl (hb hby at_222) rfl ?_
          exact k)
      have pre137 : Go p e below T134 (mkF m 227 #[iv p1, iv p2, iv p3, iv p4, iv p5, iv (2 : Int32), iv ca, iv cb, iv cc, iv cd, rv b95, rv b107, iv (0 : Int32)] []) s₁ EF := fun t k => pre136 t (XS.icmpNo X134.here hx rfl (hb hby at_224) rfl (teq (by decide : (0 : Int32) = (0 : Int32))).2 k)
      have pre138 : Go p e below T134 (mkF m 232 #[iv p1, iv p2, iv p3, iv p4, iv p5, iv (2 : Int32), iv ca, iv cb, iv cc, iv cd, rv b95, rv b107, iv (0 : Int32)] [(.int (1 : Int32))]) s₁ EF := fun t k => pre137 t (by
          refine XS.iconst X134.here hx rfl (hb hby at_227) ?_
          refine XS.goto X134.here hx rfl (pc0 := 228) (pc' := 232) rfl (hb hby at_228) (by decide) (by decide) ?_
          exact k)
      have hnr : Value.int (nar .boolean (1 : Int32)) = (.int (1 : Int32)) := by rfl
      obtain ⟨fs, hr, hrun, hended, hend1, hend2, hend3, hsame⟩ := X134.leaveW hS0 (by rw [e134]; exact hk113) (v := some (.int (1 : Int32))) (fun h => by rw [Bd.returns] at h; cases h)
      have hCH : CHr Z [("java/lang/String", 7)] s.vm s.heap T134.vm T134.heap := by rw [hh, e134]; exact R113.trans (CHv.at X134 hZ0 (own_EW hw) C113)
      refine ⟨_, _, hEF ▸ pre138 _ (retN X134 hx (t := .boolean) Bd.returns (by simp) (hb hby at_232) (hnr ▸ hr)), hrun, hended, _, _, rfl, ?_, hCH, hend1, hend2, hend3, hsame.mono (by decide) (by decide)⟩
      show QL Z p1 p2 p3 p4 p5 cz fv h0 n0 _ T134.heap _
      rw [e134]
      exact ⟨rfl, N134⟩
    have pre139 : Go p e below T130 (mkF m 182 #[iv p1, iv p2, iv p3, iv p4, iv p5, iv (2 : Int32), iv ca, iv cb, iv cc, iv cd, rv b95, rv b107, .unset] []) s₁ EF := fun t k => pre131 t (XS.ifNo X130.here hx rfl (hb hby at_179) rfl ((if0 _ _).trans (feq hc179).1) k)
    have pre140 : Go p e below T130 (mkF m 185 #[iv p1, iv p2, iv p3, iv p4, iv p5, iv (2 : Int32), iv ca, iv cb, iv cc, iv cd, rv b95, rv b107, .unset] [(.int (3 : Int32)), (.int (2 : Int32))]) s₁ EF := fun t k => pre139 t (by
        refine XS.iload X130.here hx rfl (hb hby at_182) rfl ?_
        refine XS.iconst X130.here hx rfl (hb hby at_184) ?_
        exact k)
    have pre141 : Go p e below T130 (mkF m 196 #[iv p1, iv p2, iv p3, iv p4, iv p5, iv (2 : Int32), iv ca, iv cb, iv cc, iv cd, rv b95, rv b107, .unset] []) s₁ EF := fun t k => pre140 t (XS.icmpYes X130.here hx rfl (pc0 := 185) (pc' := 196) rfl (hb hby at_185) rfl (tlt (by decide : (2 : Int32) < (3 : Int32))).1 (by decide) (by decide) k)
    have pre142 : Go p e below T130 (mkF m 199 #[iv p1, iv p2, iv p3, iv p4, iv p5, iv (2 : Int32), iv ca, iv cb, iv cc, iv cd, rv b95, rv b107, .unset] [(.int (4 : Int32)), (.int (2 : Int32))]) s₁ EF := fun t k => pre141 t (by
        refine XS.iload X130.here hx rfl (hb hby at_196) rfl ?_
        refine XS.iconst X130.here hx rfl (hb hby at_198) ?_
        exact k)
    have pre143 : Go p e below T130 (mkF m 210 #[iv p1, iv p2, iv p3, iv p4, iv p5, iv (2 : Int32), iv ca, iv cb, iv cc, iv cd, rv b95, rv b107, .unset] []) s₁ EF := fun t k => pre142 t (XS.icmpYes X130.here hx rfl (pc0 := 199) (pc' := 210) rfl (hb hby at_199) rfl (tlt (by decide : (2 : Int32) < (4 : Int32))).1 (by decide) (by decide) k)
    have pre144 : Go p e below T130 (mkF m 219 #[iv p1, iv p2, iv p3, iv p4, iv p5, iv (2 : Int32), iv ca, iv cb, iv cc, iv cd, rv b95, rv b107, iv (1 : Int32)] [(.ref b107)]) s₁ EF := fun t k => pre143 t (by
        refine XS.iconst X130.here hx rfl (hb hby at_210) ?_
        refine XS.goto X130.here hx rfl (pc0 := 211) (pc' := 215) rfl (hb hby at_211) (by decide) (by decide) ?_
        refine XS.istore X130.here hx rfl (hb hby at_215) rfl (l' := #[iv p1, iv p2, iv p3, iv p4, iv p5, iv (2 : Int32), iv ca, iv cb, iv cc, iv cd, rv b95, rv b107, iv (1 : Int32)]) rfl ?_
        refine XS.aload X130.here hx rfl (hb hby at_217) rfl rfl ?_
        exact k)
    obtain ⟨_, _, ⟨T145, L145, k145, n145⟩, -, X145, ⟨Lc145, hQ145, l145, y145, z145⟩, st145⟩ := Jvm.LawKit.callS X130 hx (y := mN22) hown0 (mvT hZ0 (hw _ (mW 29 rfl))) (mvT hZ0 (hw _ (mW 30 rfl))) (mvT hZ0 (hw _ (mW 31 rfl))) (mvT hZ0 (hw _ (mW 32 rfl))) (by decide) (backOf (W := 0) (rmI2 l Z a0 hw [] b107 cz fv ca cb (1 : Int32) T111.heap n0 Z113 O113 J0 SF111 (by simp [allD, hc165, hc179])) hZ0 (hw _ (mW 32 rfl)) (hw _ (mW 31 rfl)) (by decide) (by decide)) (g := (mkF m 219 #[iv p1, iv p2, iv p3, iv p4, iv p5, iv (2 : Int32), iv ca, iv cb, iv cc, iv cd, rv b95, rv b107, iv (1 : Int32)] [(.ref b107)])) rfl (by rw [hml]; rfl) (argsL := [(.ref b107)]) (rest := []) (lenOf pdL_2 rfl) rfl (Nat.le_of_eq rfl) (hb hby at_219) (fun _ _ => ⟨rfl, e130, wl rfl, wl rfl⟩)
    dsimp only [Pt.U, Pt.locs, Pt.cells, Pt.slots] at X145 l145 y145 z145 st145 hQ145
    subst l145 y145 z145
    obtain ⟨rfl, N145q, hq145⟩ := hQ145
    have N145 := Fr.app N130 N145q
    have pre146 : Go p e below T145 (mkF m 222 #[iv p1, iv p2, iv p3, iv p4, iv p5, iv (2 : Int32), iv ca, iv cb, iv cc, iv cd, rv b95, rv b107, iv (1 : Int32)] [(.int (1 : Int32))]) s₁ EF := fun t k => pre144 t (st145 t k)
    have e145 : T145.heap = T111.heap := hq145
    have pre147 : Go p e below T145 (mkF m 224 #[iv p1, iv p2, iv p3, iv p4, iv p5, iv (2 : Int32), iv ca, iv cb, iv cc, iv cd, rv b95, rv b107, iv (1 : Int32)] [(.int (1 : Int32)), (.int (1 : Int32))]) s₁ EF := fun t k => pre146 t (by
        refine XS.iload X145.here hx rfl (hb hby at_222) rfl ?_
        exact k)
    have pre148 : Go p e below T145 (mkF m 227 #[iv p1, iv p2, iv p3, iv p4, iv p5, iv (2 : Int32), iv ca, iv cb, iv cc, iv cd, rv b95, rv b107, iv (1 : Int32)] []) s₁ EF := fun t k => pre147 t (XS.icmpNo X145.here hx rfl (hb hby at_224) rfl (teq (by decide : (1 : Int32) = (1 : Int32))).2 k)
    have pre149 : Go p e below T145 (mkF m 232 #[iv p1, iv p2, iv p3, iv p4, iv p5, iv (2 : Int32), iv ca, iv cb, iv cc, iv cd, rv b95, rv b107, iv (1 : Int32)] [(.int (1 : Int32))]) s₁ EF := fun t k => pre148 t (by
        refine XS.iconst X145.here hx rfl (hb hby at_227) ?_
        refine XS.goto X145.here hx rfl (pc0 := 228) (pc' := 232) rfl (hb hby at_228) (by decide) (by decide) ?_
        exact k)
    have hnr : Value.int (nar .boolean (1 : Int32)) = (.int (1 : Int32)) := by rfl
    obtain ⟨fs, hr, hrun, hended, hend1, hend2, hend3, hsame⟩ := X145.leaveW hS0 (by rw [e145]; exact hk113) (v := some (.int (1 : Int32))) (fun h => by rw [Bd.returns] at h; cases h)
    have hCH : CHr Z [("java/lang/String", 7)] s.vm s.heap T145.vm T145.heap := by rw [hh, e145]; exact R113.trans (CHv.at X145 hZ0 (own_EW hw) C113)
    refine ⟨_, _, hEF ▸ pre149 _ (retN X145 hx (t := .boolean) Bd.returns (by simp) (hb hby at_232) (hnr ▸ hr)), hrun, hended, _, _, rfl, ?_, hCH, hend1, hend2, hend3, hsame.mono (by decide) (by decide)⟩
    show QL Z p1 p2 p3 p4 p5 cz fv h0 n0 _ T145.heap _
    rw [e145]
    exact ⟨rfl, N145⟩
  · subst hv14_3
    have pre150 : Go p e below T11 (mkF m 35 #[iv p1, iv p2, iv p3, iv p4, iv p5, iv (3 : Int32), iv ca, iv cb, iv cc, iv cd, .unset, .unset, .unset] [(.int (3 : Int32))]) s₁ EF := fun t k => pre13 t (by
        refine XS.iload X11.here hx rfl (hb hby at_33) rfl ?_
        exact k)
    have pre151 : Go p e below T11 (mkF m 46 #[iv p1, iv p2, iv p3, iv p4, iv p5, iv (3 : Int32), iv ca, iv cb, iv cc, iv cd, .unset, .unset, .unset] []) s₁ EF := fun t k => pre150 t (XS.ifYes X11.here hx rfl (pc0 := 35) (pc' := 46) rfl (hb hby at_35) rfl ((if0 _ _).trans (feq (by decide : ¬ ((3 : Int32) = (0 : Int32)))).2) (by decide) (by decide) k)
    have pre152 : Go p e below T11 (mkF m 49 #[iv p1, iv p2, iv p3, iv p4, iv p5, iv (3 : Int32), iv ca, iv cb, iv cc, iv cd, .unset, .unset, .unset] [(.int (1 : Int32)), (.int (3 : Int32))]) s₁ EF := fun t k => pre151 t (by
        refine XS.iload X11.here hx rfl (hb hby at_46) rfl ?_
        refine XS.iconst X11.here hx rfl (hb hby at_48) ?_
        exact k)
    have pre153 : Go p e below T11 (mkF m 65 #[iv p1, iv p2, iv p3, iv p4, iv p5, iv (3 : Int32), iv ca, iv cb, iv cc, iv cd, .unset, .unset, .unset] []) s₁ EF := fun t k => pre152 t (XS.icmpYes X11.here hx rfl (pc0 := 49) (pc' := 65) rfl (hb hby at_49) rfl (feq (by decide : ¬ ((3 : Int32) = (1 : Int32)))).2 (by decide) (by decide) k)
    have pre154 : Go p e below T11 (mkF m 68 #[iv p1, iv p2, iv p3, iv p4, iv p5, iv (3 : Int32), iv ca, iv cb, iv cc, iv cd, .unset, .unset, .unset] [(.int (2 : Int32)), (.int (3 : Int32))]) s₁ EF := fun t k => pre153 t (by
        refine XS.iload X11.here hx rfl (hb hby at_65) rfl ?_
        refine XS.iconst X11.here hx rfl (hb hby at_67) ?_
        exact k)
    have pre155 : Go p e below T11 (mkF m 89 #[iv p1, iv p2, iv p3, iv p4, iv p5, iv (3 : Int32), iv ca, iv cb, iv cc, iv cd, .unset, .unset, .unset] []) s₁ EF := fun t k => pre154 t (XS.icmpYes X11.here hx rfl (pc0 := 68) (pc' := 89) rfl (hb hby at_68) rfl (feq (by decide : ¬ ((3 : Int32) = (2 : Int32)))).2 (by decide) (by decide) k)
    have pre156 : Go p e below T11 (mkF m 92 #[iv p1, iv p2, iv p3, iv p4, iv p5, iv (3 : Int32), iv ca, iv cb, iv cc, iv cd, .unset, .unset, .unset] [(.int (3 : Int32)), (.int (3 : Int32))]) s₁ EF := fun t k => pre155 t (by
        refine XS.iload X11.here hx rfl (hb hby at_89) rfl ?_
        refine XS.iconst X11.here hx rfl (hb hby at_91) ?_
        exact k)
    have pre157 : Go p e below T11 (mkF m 95 #[iv p1, iv p2, iv p3, iv p4, iv p5, iv (3 : Int32), iv ca, iv cb, iv cc, iv cd, .unset, .unset, .unset] []) s₁ EF := fun t k => pre156 t (XS.icmpNo X11.here hx rfl (hb hby at_92) rfl (teq (by decide : (3 : Int32) = (3 : Int32))).2 k)
    have pre158 : Go p e below T11 (mkF m 96 #[iv p1, iv p2, iv p3, iv p4, iv p5, iv (3 : Int32), iv ca, iv cb, iv cc, iv cd, .unset, .unset, .unset] [(.int (3 : Int32))]) s₁ EF := fun t k => pre157 t (by
        refine XS.iconst X11.here hx rfl (hb hby at_95) ?_
        exact k)
    obtain ⟨T159, h159, k159, X159, e159, Et159, A159, st159⟩ := newP X11 hx hZ0 (hw _ (mW 7 rfl)) e11 (g := (mkF m 96 #[iv p1, iv p2, iv p3, iv p4, iv p5, iv (3 : Int32), iv ca, iv cb, iv cc, iv cd, .unset, .unset, .unset] [(.int (3 : Int32))])) rfl (hb hby at_96) rfl (by decide) (cap := 3) (by decide) (by decide) (by decide) (by decide)
    obtain ⟨b159, g159⟩ : ∃ z, z = h0.size := ⟨_, rfl⟩
    rw [← g159] at A159 st159
    have g_b159 : n0 ≤ b159 := Nat.le_trans Z0 (Nat.le_of_eq g159.symm)
    have sfn_b159 : Safe Z [("java/lang/String", 7)] s.vm h0 b159 := Safe.new (Nat.le_of_eq g159.symm)
    have pre160 : Go p e below T159 (mkF m 98 #[iv p1, iv p2, iv p3, iv p4, iv p5, iv (3 : Int32), iv ca, iv cb, iv cc, iv cd, .unset, .unset, .unset] [(.ref b159)]) s₁ EF := fun t k => pre158 t (st159 t k)
    have O161 : Old Z n0 h159 := O0.ext Et159
    have Z161 : n0 ≤ h159.size := Nat.le_trans Z0 Et159.1
    have hk161 := Nat.le_trans hk0 Et159.1
    have C161 := CHv.ext Et159 hC
    have R161 := (CHr.refl hC).trans (CHr.ext Et159 hC)
    have sf161_b159 := Safe.ext Et159 hC sfn_b159
    have V159 : Arv Z h159 b159 k159 .char (3 : Int32) [(.int (0 : Int32)), (.int (0 : Int32)), (.int (0 : Int32))] (.int (0 : Int32)) := (Arv.new A159 (by decide)).pad (pad_rep [] (.int (0 : Int32)) 3)
    have pre162 : Go p e below T159 (mkF m 102 #[iv p1, iv p2, iv p3, iv p4, iv p5, iv (3 : Int32), iv ca, iv cb, iv cc, iv cd, .unset, .unset, .unset] [(.int ca), (.int (0 : Int32)), (.ref b159), (.ref b159)]) s₁ EF := fun t k => pre160 t (by
        refine XS.dup X159.here hx rfl (hb hby at_98) rfl rfl ?_
        refine XS.iconst X159.here hx rfl (hb hby at_99) ?_
        refine XS.iload X159.here hx rfl (hb hby at_100) rfl ?_
        exact k)
    obtain ⟨cl163, Ar163, q163, Sz163, M163, H163, G163⟩ := id V159
    have hin163 : ¬ ((0 : Int32) < 0 ∨ cl163.slots.size ≤ ((0 : Int32)).toNatClampNeg) := inb_of Sz163 ⟨by decide, by decide⟩
    obtain ⟨T163, h163, X163, e163, W163, st163⟩ := stC X159 hx hZ0 e159 Ar163 (j := (0 : Int32)) hin163 (g := (mkF m 102 #[iv p1, iv p2, iv p3, iv p4, iv p5, iv (3 : Int32), iv ca, iv cb, iv cc, iv cd, .unset, .unset, .unset] [(.int ca), (.int (0 : Int32)), (.ref b159), (.ref b159)])) rfl rfl (hb hby at_102)
    rw [(own_nc rca.1 rca.2)] at W163
    have pre164 : Go p e below T163 (mkF m 103 #[iv p1, iv p2, iv p3, iv p4, iv p5, iv (3 : Int32), iv ca, iv cb, iv cc, iv cd, .unset, .unset, .unset] [(.ref b159)]) s₁ EF := fun t k => pre162 t (st163 t k)
    have O165 : Old Z n0 h163 := O161.wr W163 g_b159
    have Z165 : n0 ≤ h163.size := Nat.le_trans Z161 (Keep.of_wr W163).1
    have hk165 := Nat.le_trans hk161 (Keep.of_wr W163).1
    have C165 := CHv.wr W163 sf161_b159 C161
    have R165 := R161.trans (CHr.wr W163 sf161_b159 C161)
    have sf165_b159 := Safe.wr W163 sf161_b159 C161 sf161_b159
    have V163 : Arv Z h163 b159 k159 .char (3 : Int32) [(.int ca), (.int (0 : Int32)), (.int (0 : Int32))] (.int (0 : Int32)) := Arv.set Ar163 q163 Sz163 M163 H163 G163 (own_fitc (own_nc rca.1 rca.2)) W163 0 rfl (Nat.le_of_ble_eq_true rfl)
    have N163 := Fr.snoc X163 N11 g_b159
    have pre166 : Go p e below T163 (mkF m 107 #[iv p1, iv p2, iv p3, iv p4, iv p5, iv (3 : Int32), iv ca, iv cb, iv cc, iv cd, .unset, .unset, .unset] [(.int cb), (.int (1 : Int32)), (.ref b159), (.ref b159)]) s₁ EF := fun t k => pre164 t (by
        refine XS.dup X163.here hx rfl (hb hby at_103) rfl rfl ?_
        refine XS.iconst X163.here hx rfl (hb hby at_104) ?_
        refine XS.iload X163.here hx rfl (hb hby at_105) rfl ?_
        exact k)
    obtain ⟨cl167, Ar167, q167, Sz167, M167, H167, G167⟩ := id V163
    have hin167 : ¬ ((1 : Int32) < 0 ∨ cl167.slots.size ≤ ((1 : Int32)).toNatClampNeg) := inb_of Sz167 ⟨by decide, by decide⟩
    obtain ⟨T167, h167, X167, e167, W167, st167⟩ := stC X163 hx hZ0 e163 Ar167 (j := (1 : Int32)) hin167 (g := (mkF m 107 #[iv p1, iv p2, iv p3, iv p4, iv p5, iv (3 : Int32), iv ca, iv cb, iv cc, iv cd, .unset, .unset, .unset] [(.int cb), (.int (1 : Int32)), (.ref b159), (.ref b159)])) rfl rfl (hb hby at_107)
    rw [(own_nc rcb.1 rcb.2)] at W167
    have pre168 : Go p e below T167 (mkF m 108 #[iv p1, iv p2, iv p3, iv p4, iv p5, iv (3 : Int32), iv ca, iv cb, iv cc, iv cd, .unset, .unset, .unset] [(.ref b159)]) s₁ EF := fun t k => pre166 t (st167 t k)
    have O169 : Old Z n0 h167 := O165.wr W167 g_b159
    have Z169 : n0 ≤ h167.size := Nat.le_trans Z165 (Keep.of_wr W167).1
    have hk169 := Nat.le_trans hk165 (Keep.of_wr W167).1
    have C169 := CHv.wr W167 sf165_b159 C165
    have R169 := R165.trans (CHr.wr W167 sf165_b159 C165)
    have sf169_b159 := Safe.wr W167 sf165_b159 C165 sf165_b159
    have V167 : Arv Z h167 b159 k159 .char (3 : Int32) [(.int ca), (.int cb), (.int (0 : Int32))] (.int (0 : Int32)) := Arv.set Ar167 q167 Sz167 M167 H167 G167 (own_fitc (own_nc rcb.1 rcb.2)) W167 1 rfl (Nat.le_of_ble_eq_true rfl)
    have N167 := Fr.snoc X167 N163 g_b159
    have pre170 : Go p e below T167 (mkF m 112 #[iv p1, iv p2, iv p3, iv p4, iv p5, iv (3 : Int32), iv ca, iv cb, iv cc, iv cd, .unset, .unset, .unset] [(.int cc), (.int (2 : Int32)), (.ref b159), (.ref b159)]) s₁ EF := fun t k => pre168 t (by
        refine XS.dup X167.here hx rfl (hb hby at_108) rfl rfl ?_
        refine XS.iconst X167.here hx rfl (hb hby at_109) ?_
        refine XS.iload X167.here hx rfl (hb hby at_110) rfl ?_
        exact k)
    obtain ⟨cl171, Ar171, q171, Sz171, M171, H171, G171⟩ := id V167
    have hin171 : ¬ ((2 : Int32) < 0 ∨ cl171.slots.size ≤ ((2 : Int32)).toNatClampNeg) := inb_of Sz171 ⟨by decide, by decide⟩
    obtain ⟨T171, h171, X171, e171, W171, st171⟩ := stC X167 hx hZ0 e167 Ar171 (j := (2 : Int32)) hin171 (g := (mkF m 112 #[iv p1, iv p2, iv p3, iv p4, iv p5, iv (3 : Int32), iv ca, iv cb, iv cc, iv cd, .unset, .unset, .unset] [(.int cc), (.int (2 : Int32)), (.ref b159), (.ref b159)])) rfl rfl (hb hby at_112)
    rw [(own_nc rcc.1 rcc.2)] at W171
    have pre172 : Go p e below T171 (mkF m 113 #[iv p1, iv p2, iv p3, iv p4, iv p5, iv (3 : Int32), iv ca, iv cb, iv cc, iv cd, .unset, .unset, .unset] [(.ref b159)]) s₁ EF := fun t k => pre170 t (st171 t k)
    have O173 : Old Z n0 h171 := O169.wr W171 g_b159
    have Z173 : n0 ≤ h171.size := Nat.le_trans Z169 (Keep.of_wr W171).1
    have hk173 := Nat.le_trans hk169 (Keep.of_wr W171).1
    have C173 := CHv.wr W171 sf169_b159 C169
    have R173 := R169.trans (CHr.wr W171 sf169_b159 C169)
    have sf173_b159 := Safe.wr W171 sf169_b159 C169 sf169_b159
    have V171 : Arv Z h171 b159 k159 .char (3 : Int32) [(.int ca), (.int cb), (.int cc)] (.int (0 : Int32)) := Arv.set Ar171 q171 Sz171 M171 H171 G171 (own_fitc (own_nc rcc.1 rcc.2)) W171 2 rfl (Nat.le_of_ble_eq_true rfl)
    have N171 := Fr.snoc X171 N167 g_b159
    have pre174 : Go p e below T171 (mkF m 143 #[iv p1, iv p2, iv p3, iv p4, iv p5, iv (3 : Int32), iv ca, iv cb, iv cc, iv cd, rv b159, .unset, .unset] []) s₁ EF := fun t k => pre172 t (by
        refine XS.astore X171.here hx rfl (hb hby at_113) rfl rfl (l' := #[iv p1, iv p2, iv p3, iv p4, iv p5, iv (3 : Int32), iv ca, iv cb, iv cc, iv cd, rv b159, .unset, .unset]) rfl ?_
        refine XS.goto X171.here hx rfl (pc0 := 115) (pc' := 143) rfl (hb hby at_115) (by decide) (by decide) ?_
        exact k)
    obtain ⟨T175, h175, X175, e175, Et175, A175, D175, U175, st175⟩ := newO X171 hx hZ0 hown0 (hw _ (mW 8 rfl)) (hw _ (mW 9 rfl)) (hw _ (mW 10 rfl)) e171 (g := (mkF m 143 #[iv p1, iv p2, iv p3, iv p4, iv p5, iv (3 : Int32), iv ca, iv cb, iv cc, iv cd, rv b159, .unset, .unset] [])) rfl (hb hby at_143) (by decide) (by decide)
    obtain ⟨b175, g175⟩ : ∃ z, z = h171.size := ⟨_, rfl⟩
    rw [← g175] at A175 st175 D175
    have g_b175 : n0 ≤ b175 := Nat.le_trans Z173 (Nat.le_of_eq g175.symm)
    have sfn_b175 : Safe Z [("java/lang/String", 7)] s.vm h171 b175 := Safe.new (Nat.le_of_eq g175.symm)
    have ne_b159_b175 : b159 ≠ b175 := Nat.ne_of_lt (Nat.lt_of_lt_of_le V171.lt (Nat.le_of_eq g175.symm))
    have pre176 : Go p e below T175 (mkF m 146 #[iv p1, iv p2, iv p3, iv p4, iv p5, iv (3 : Int32), iv ca, iv cb, iv cc, iv cd, rv b159, .unset, .unset] [(.ref b175)]) s₁ EF := fun t k => pre174 t (st175 t k)
    have O177 : Old Z n0 h175 := O173.ext Et175
    have Z177 : n0 ≤ h175.size := Nat.le_trans Z173 Et175.1
    have hk177 := Nat.le_trans hk173 Et175.1
    have C177 := CHv.ext Et175 C173
    have R177 := R173.trans (CHr.ext Et175 C173)
    have sf177_b159 := Safe.ext Et175 C173 sf173_b159
    have sf177_b175 := Safe.ext Et175 C173 sfn_b175
    have F_value_b175 : Fld Z h175 b175 "java/lang/String" "value" "[B" .null := D175 (Or.inr (hw _ (mW 23 rfl))) (ty := (.array .byte)) (by decide)
    have F_coder_b175 : Fld Z h175 b175 "java/lang/String" "coder" "B" (.int (0 : Int32)) := D175 (Or.inr (hw _ (mW 24 rfl))) (ty := .byte) (by decide)
    have pre178 : Go p e below T175 (mkF m 149 #[iv p1, iv p2, iv p3, iv p4, iv p5, iv (3 : Int32), iv ca, iv cb, iv cc, iv cd, rv b159, .unset, .unset] [(.ref b159), (.ref b175), (.ref b175)]) s₁ EF := fun t k => pre176 t (by
        refine XS.dup X175.here hx rfl (hb hby at_146) rfl rfl ?_
        refine XS.aload X175.here hx rfl (hb hby at_147) rfl rfl ?_
        exact k)
    obtain ⟨_, _, ⟨T179, L179, k179, n179⟩, -, X179, ⟨Lc179, hQ179, l179, y179, z179⟩, st179⟩ := X175.specialBack hx (y := mN19) rfl hown0 (mvT hZ0 (hw _ (mW 11 rfl))) (mvT hZ0 (hw _ (mW 12 rfl))) (mvT hZ0 (hw _ (mW 13 rfl))) (by decide) (backOf (W := 1) (rmKj3 l Z a0 hw [] b175 b159 cz fv k159 ca cb cc h175 n0 Z177 O177 J0 A175 g_b175 F_value_b175 F_coder_b175 (V171.ext Et175) (List.forall_mem_cons.mpr ⟨rca, (List.forall_mem_cons.mpr ⟨rcb, (List.forall_mem_cons.mpr ⟨rcc, (fun _ q => nomatch q)⟩)⟩)⟩)) hZ0 (hw _ (mW 13 rfl)) (hw _ (mW 10 rfl)) (by decide) (by decide)) (g := (mkF m 149 #[iv p1, iv p2, iv p3, iv p4, iv p5, iv (3 : Int32), iv ca, iv cb, iv cc, iv cd, rv b159, .unset, .unset] [(.ref b159), (.ref b175), (.ref b175)])) rfl (by rw [hml]; rfl) (Steps.refl _) (a := b175) (argsL := [(.ref b159)]) (rest := [(.ref b175)]) (lenOf pdL_1 rfl) rfl (Nat.le_of_eq rfl) (hb hby at_149) (fun _ _ => ⟨rfl, e175, wl rfl, wl rfl⟩)
    dsimp only [Pt.U, Pt.locs, Pt.cells, Pt.slots] at X179 l179 y179 z179 st179 hQ179
    subst l179 y179 z179
    obtain ⟨rfl, N179q, K179, SF179⟩ := hQ179
    have N179 := Fr.app N171 N179q
    have pre180 : Go p e below T179 (mkF m 152 #[iv p1, iv p2, iv p3, iv p4, iv p5, iv (3 : Int32), iv ca, iv cb, iv cc, iv cd, rv b159, .unset, .unset] [(.ref b175)]) s₁ EF := fun t k => pre178 t (st179.trans k)
    have O181 : Old Z n0 T179.heap := O177.keep K179 (allS g_b175 all0)
    have Z181 : n0 ≤ T179.heap.size := Nat.le_trans Z177 K179.1
    have hk181 := Nat.le_trans hk177 K179.1
    have C181 := CHv.keep K179 (sfS sf177_b175 sf0) C177
    have R181 := R177.trans (CHr.keep K179 (sfS sf177_b175 sf0) C177)
    have sf181_b159 := Safe.keep K179 (sfS sf177_b175 sf0) C177 sf177_b159
    have sf181_b175 := Safe.keep K179 (sfS sf177_b175 sf0) C177 sf177_b175
    have pre182 : Go p e below T179 (mkF m 157 #[iv p1, iv p2, iv p3, iv p4, iv p5, iv (3 : Int32), iv ca, iv cb, iv cc, iv cd, rv b159, rv b175, .unset] [(.int (1 : Int32)), (.int (3 : Int32))]) s₁ EF := fun t k => pre180 t (by
        refine XS.astore X179.here hx rfl (hb hby at_152) rfl rfl (l' := #[iv p1, iv p2, iv p3, iv p4, iv p5, iv (3 : Int32), iv ca, iv cb, iv cc, iv cd, rv b159, rv b175, .unset]) rfl ?_
        refine XS.iload X179.here hx rfl (hb hby at_154) rfl ?_
        refine XS.iconst X179.here hx rfl (hb hby at_156) ?_
        exact k)
    have pre183 : Go p e below T179 (mkF m 160 #[iv p1, iv p2, iv p3, iv p4, iv p5, iv (3 : Int32), iv ca, iv cb, iv cc, iv cd, rv b159, rv b175, .unset] []) s₁ EF := fun t k => pre182 t (XS.icmpNo X179.here hx rfl (hb hby at_157) rfl (flt (by decide : ¬ ((3 : Int32) < (1 : Int32)))).1 k)
    have pre184 : Go p e below T179 (mkF m 162 #[iv p1, iv p2, iv p3, iv p4, iv p5, iv (3 : Int32), iv ca, iv cb, iv cc, iv cd, rv b159, rv b175, .unset] [(.int ca)]) s₁ EF := fun t k => pre183 t (by
        refine XS.iload X179.here hx rfl (hb hby at_160) rfl ?_
        exact k)
    obtain ⟨_, _, ⟨T185, L185, k185, n185⟩, -, X185, ⟨Lc185, hQ185, l185, y185, z185⟩, st185⟩ := Jvm.LawKit.callS X179 hx (y := mN21) hown0 (mvT hZ0 (hw _ (mW 54 rfl))) (mvT hZ0 (hw _ (mW 55 rfl))) (mvT hZ0 (hw _ (mW 3 rfl))) (mvT hZ0 (hw _ (mW 56 rfl))) (by decide) (backOf (W := 0) (rmG l Z a0 hw [] ca (digF ca) T179.heap n0 Z181 rfl) hZ0 (hw _ (mW 56 rfl)) (hw _ (mW 3 rfl)) (by decide) (by decide)) (g := (mkF m 162 #[iv p1, iv p2, iv p3, iv p4, iv p5, iv (3 : Int32), iv ca, iv cb, iv cc, iv cd, rv b159, rv b175, .unset] [(.int ca)])) rfl (by rw [hml]; rfl) (argsL := [(.int ca)]) (rest := []) (lenOf pdL_3 rfl) rfl (Nat.le_of_eq rfl) (hb hby at_162) (fun _ _ => ⟨rfl, rfl, wl rfl, wl rfl⟩)
    dsimp only [Pt.U, Pt.locs, Pt.cells, Pt.slots] at X185 l185 y185 z185 st185 hQ185
    subst l185 y185 z185
    obtain ⟨rfl, N185q, hq185⟩ := hQ185
    have N185 := Fr.app N179 N185q
    have pre186 : Go p e below T185 (mkF m 165 #[iv p1, iv p2, iv p3, iv p4, iv p5, iv (3 : Int32), iv ca, iv cb, iv cc, iv cd, rv b159, rv b175, .unset] [(.int (digF ca))]) s₁ EF := fun t k => pre184 t (st185 t k)
    have e185 : T185.heap = T179.heap := hq185
    by_cases hc165 : (digF ca) = (0 : Int32)
    · have pre187 : Go p e below T185 (mkF m 214 #[iv p1, iv p2, iv p3, iv p4, iv p5, iv (3 : Int32), iv ca, iv cb, iv cc, iv cd, rv b159, rv b175, .unset] []) s₁ EF := fun t k => pre186 t (XS.ifYes X185.here hx rfl (pc0 := 165) (pc' := 214) rfl (hb hby at_165) rfl ((if0 _ _).trans (teq hc165).1) (by decide) (by decide) k)
      have pre188 : Go p e below T185 (mkF m 219 #[iv p1, iv p2, iv p3, iv p4, iv p5, iv (3 : Int32), iv ca, iv cb, iv cc, iv cd, rv b159, rv b175, iv (0 : Int32)] [(.ref b175)]) s₁ EF := fun t k => pre187 t (by
          refine XS.iconst X185.here hx rfl (hb hby at_214) ?_
          refine XS.istore X185.here hx rfl (hb hby at_215) rfl (l' := #[iv p1, iv p2, iv p3, iv p4, iv p5, iv (3 : Int32), iv ca, iv cb, iv cc, iv cd, rv b159, rv b175, iv (0 : Int32)]) rfl ?_
          refine XS.aload X185.here hx rfl (hb hby at_217) rfl rfl ?_
          exact k)
      obtain ⟨_, _, ⟨T189, L189, k189, n189⟩, -, X189, ⟨Lc189, hQ189, l189, y189, z189⟩, st189⟩ := Jvm.LawKit.callS X185 hx (y := mN22) hown0 (mvT hZ0 (hw _ (mW 29 rfl))) (mvT hZ0 (hw _ (mW 30 rfl))) (mvT hZ0 (hw _ (mW 31 rfl))) (mvT hZ0 (hw _ (mW 32 rfl))) (by decide) (backOf (W := 0) (rmI3 l Z a0 hw [] b175 cz fv ca cb cc (0 : Int32) T179.heap n0 Z181 O181 J0 SF179 (by simp [allD, hc165])) hZ0 (hw _ (mW 32 rfl)) (hw _ (mW 31 rfl)) (by decide) (by decide)) (g := (mkF m 219 #[iv p1, iv p2, iv p3, iv p4, iv p5, iv (3 : Int32), iv ca, iv cb, iv cc, iv cd, rv b159, rv b175, iv (0 : Int32)] [(.ref b175)])) rfl (by rw [hml]; rfl) (argsL := [(.ref b175)]) (rest := []) (lenOf pdL_2 rfl) rfl (Nat.le_of_eq rfl) (hb hby at_219) (fun _ _ => ⟨rfl, e185, wl rfl, wl rfl⟩)
      dsimp only [Pt.U, Pt.locs, Pt.cells, Pt.slots] at X189 l189 y189 z189 st189 hQ189
      subst l189 y189 z189
      obtain ⟨rfl, N189q, hq189⟩ := hQ189
      have N189 := Fr.app N185 N189q
      have pre190 : Go p e below T189 (mkF m 222 #[iv p1, iv p2, iv p3, iv p4, iv p5, iv (3 : Int32), iv ca, iv cb, iv cc, iv cd, rv b159, rv b175, iv (0 : Int32)] [(.int (0 : Int32))]) s₁ EF := fun t k => pre188 t (st189 t k)
      have e189 : T189.heap = T179.heap := hq189
      have pre191 : Go p e below T189 (mkF m 224 #[iv p1, iv p2, iv p3, iv p4, iv p5, iv (3 : Int32), iv ca, iv cb, iv cc, iv cd, rv b159, rv b175, iv (0 : Int32)] [(.int (0 : Int32)), (.int (0 : Int32))]) s₁ EF := fun t k => pre190 t (by
          refine XS.iload X189.here hx rfl (hb hby at_222) rfl ?_
          exact k)
      have pre192 : Go p e below T189 (mkF m 227 #[iv p1, iv p2, iv p3, iv p4, iv p5, iv (3 : Int32), iv ca, iv cb, iv cc, iv cd, rv b159, rv b175, iv (0 : Int32)] []) s₁ EF := fun t k => pre191 t (XS.icmpNo X189.here hx rfl (hb hby at_224) rfl (teq (by decide : (0 : Int32) = (0 : Int32))).2 k)
      have pre193 : Go p e below T189 (mkF m 232 #[iv p1, iv p2, iv p3, iv p4, iv p5, iv (3 : Int32), iv ca, iv cb, iv cc, iv cd, rv b159, rv b175, iv (0 : Int32)] [(.int (1 : Int32))]) s₁ EF := fun t k => pre192 t (by
          refine XS.iconst X189.here hx rfl (hb hby at_227) ?_
          refine XS.goto X189.here hx rfl (pc0 := 228) (pc' := 232) rfl (hb hby at_228) (by decide) (by decide) ?_
          exact k)
      have hnr : Value.int (nar .boolean (1 : Int32)) = (.int (1 : Int32)) := by rfl
      obtain ⟨fs, hr, hrun, hended, hend1, hend2, hend3, hsame⟩ := X189.leaveW hS0 (by rw [e189]; exact hk181) (v := some (.int (1 : Int32))) (fun h => by rw [Bd.returns] at h; cases h)
      have hCH : CHr Z [("java/lang/String", 7)] s.vm s.heap T189.vm T189.heap := by rw [hh, e189]; exact R181.trans (CHv.at X189 hZ0 (own_EW hw) C181)
      refine ⟨_, _, hEF ▸ pre193 _ (retN X189 hx (t := .boolean) Bd.returns (by simp) (hb hby at_232) (hnr ▸ hr)), hrun, hended, _, _, rfl, ?_, hCH, hend1, hend2, hend3, hsame.mono (by decide) (by decide)⟩
      show QL Z p1 p2 p3 p4 p5 cz fv h0 n0 _ T189.heap _
      rw [e189]
      exact ⟨rfl, N189⟩
    have pre194 : Go p e below T185 (mkF m 168 #[iv p1, iv p2, iv p3, iv p4, iv p5, iv (3 : Int32), iv ca, iv cb, iv cc, iv cd, rv b159, rv b175, .unset] []) s₁ EF := fun t k => pre186 t (XS.ifNo X185.here hx rfl (hb hby at_165) rfl ((if0 _ _).trans (feq hc165).1) k)
    have pre195 : Go p e below T185 (mkF m 171 #[iv p1, iv p2, iv p3, iv p4, iv p5, iv (3 : Int32), iv ca, iv cb, iv cc, iv cd, rv b159, rv b175, .unset] [(.int (2 : Int32)), (.int (3 : Int32))]) s₁ EF := fun t k => pre194 t (by
        refine XS.iload X185.here hx rfl (hb hby at_168) rfl ?_
        refine XS.iconst X185.here hx rfl (hb hby at_170) ?_
        exact k)
    have pre196 : Go p e below T185 (mkF m 174 #[iv p1, iv p2, iv p3, iv p4, iv p5, iv (3 : Int32), iv ca, iv cb, iv cc, iv cd, rv b159, rv b175, .unset] []) s₁ EF := fun t k => pre195 t (XS.icmpNo X185.here hx rfl (hb hby at_171) rfl (flt (by decide : ¬ ((3 : Int32) < (2 : Int32)))).1 k)
    have pre197 : Go p e below T185 (mkF m 176 #[iv p1, iv p2, iv p3, iv p4, iv p5, iv (3 : Int32), iv ca, iv cb, iv cc, iv cd, rv b159, rv b175, .unset] [(.int cb)]) s₁ EF := fun t k => pre196 t (by
        refine XS.iload X185.here hx rfl (hb hby at_174) rfl ?_
        exact k)
    obtain ⟨_, _, ⟨T198, L198, k198, n198⟩, -, X198, ⟨Lc198, hQ198, l198, y198, z198⟩, st198⟩ := Jvm.LawKit.callS X185 hx (y := mN21) hown0 (mvT hZ0 (hw _ (mW 54 rfl))) (mvT hZ0 (hw _ (mW 55 rfl))) (mvT hZ0 (hw _ (mW 3 rfl))) (mvT hZ0 (hw _ (mW 56 rfl))) (by decide) (backOf (W := 0) (rmG l Z a0 hw [] cb (digF cb) T179.heap n0 Z181 rfl) hZ0 (hw _ (mW 56 rfl)) (hw _ (mW 3 rfl)) (by decide) (by decide)) (g := (mkF m 176 #[iv p1, iv p2, iv p3, iv p4, iv p5, iv (3 : Int32), iv ca, iv cb, iv cc, iv cd, rv b159, rv b175, .unset] [(.int cb)])) rfl (by rw [hml]; rfl) (argsL := [(.int cb)]) (rest := []) (lenOf pdL_3 rfl) rfl (Nat.le_of_eq rfl) (hb hby at_176) (fun _ _ => ⟨rfl, e185, wl rfl, wl rfl⟩)
    dsimp only [Pt.U, Pt.locs, Pt.cells, Pt.slots] at X198 l198 y198 z198 st198 hQ198
    subst l198 y198 z198
    obtain ⟨rfl, N198q, hq198⟩ := hQ198
    have N198 := Fr.app N185 N198q
    have pre199 : Go p e below T198 (mkF m 179 #[iv p1, iv p2, iv p3, iv p4, iv p5, iv (3 : Int32), iv ca, iv cb, iv cc, iv cd, rv b159, rv b175, .unset] [(.int (digF cb))]) s₁ EF := fun t k => pre197 t (st198 t k)
    have e198 : T198.heap = T179.heap := hq198
    by_cases hc179 : (digF cb) = (0 : Int32)
    · have pre200 : Go p e below T198 (mkF m 214 #[iv p1, iv p2, iv p3, iv p4, iv p5, iv (3 : Int32), iv ca, iv cb, iv cc, iv cd, rv b159, rv b175, .unset] []) s₁ EF := fun t k => pre199 t (XS.ifYes X198.here hx rfl (pc0 := 179) (pc' := 214) rfl (hb hby at_179) rfl ((if0 _ _).trans (teq hc179).1) (by decide) (by decide) k)
      have pre201 : Go p e below T198 (mkF m 219 #[iv p1, iv p2, iv p3, iv p4, iv p5, iv (3 : Int32), iv ca, iv cb, iv cc, iv cd, rv b159, rv b175, iv (0 : Int32)] [(.ref b175)]) s₁ EF := fun t k => pre200 t (by
          refine XS.iconst X198.here hx rfl (hb hby at_214) ?_
          refine XS.istore X198.here hx rfl (hb hby at_215) rfl (l' := #[iv p1, iv p2, iv p3, iv p4, iv p5, iv (3 : Int32), iv ca, iv cb, iv cc, iv cd, rv b159, rv b175, iv (0 : Int32)]) rfl ?_
          refine XS.aload X198.here hx rfl (hb hby at_217) rfl rfl ?_
          exact k)
      obtain ⟨_, _, ⟨T202, L202, k202, n202⟩, -, X202, ⟨Lc202, hQ202, l202, y202, z202⟩, st202⟩ := Jvm.LawKit.callS X198 hx (y := mN22) hown0 (mvT hZ0 (hw _ (mW 29 rfl))) (mvT hZ0 (hw _ (mW 30 rfl))) (mvT hZ0 (hw _ (mW 31 rfl))) (mvT hZ0 (hw _ (mW 32 rfl))) (by decide) (backOf (W := 0) (rmI3 l Z a0 hw [] b175 cz fv ca cb cc (0 : Int32) T179.heap n0 Z181 O181 J0 SF179 (by simp [allD, hc165, hc179])) hZ0 (hw _ (mW 32 rfl)) (hw _ (mW 31 rfl)) (by decide) (by decide)) (g := (mkF m 219 #[iv p1, iv p2, iv p3, iv p4, iv p5, iv (3 : Int32), iv ca, iv cb, iv cc, iv cd, rv b159, rv b175, iv (0 : Int32)] [(.ref b175)])) rfl (by rw [hml]; rfl) (argsL := [(.ref b175)]) (rest := []) (lenOf pdL_2 rfl) rfl (Nat.le_of_eq rfl) (hb hby at_219) (fun _ _ => ⟨rfl, e198, wl rfl, wl rfl⟩)
      dsimp only [Pt.U, Pt.locs, Pt.cells, Pt.slots] at X202 l202 y202 z202 st202 hQ202
      subst l202 y202 z202
      obtain ⟨rfl, N202q, hq202⟩ := hQ202
      have N202 := Fr.app N198 N202q
      have pre203 : Go p e below T202 (mkF m 222 #[iv p1, iv p2, iv p3, iv p4, iv p5, iv (3 : Int32), iv ca, iv cb, iv cc, iv cd, rv b159, rv b175, iv (0 : Int32)] [(.int (0 : Int32))]) s₁ EF := fun t k => pre201 t (st202 t k)
      have e202 : T202.heap = T179.heap := hq202
      have pre204 : Go p e below T202 (mkF m 224 #[iv p1, iv p2, iv p3, iv p4, iv p5, iv (3 : Int32), iv ca, iv cb, iv cc, iv cd, rv b159, rv b175, iv (0 : Int32)] [(.int (0 : Int32)), (.int (0 : Int32))]) s₁ EF := fun t k => pre203 t (by
          refine XS.iload X202.here hx rfl (hb hby at_222) rfl ?_
          exact k)
      have pre205 : Go p e below T202 (mkF m 227 #[iv p1, iv p2, iv p3, iv p4, iv p5, iv (3 : Int32), iv ca, iv cb, iv cc, iv cd, rv b159, rv b175, iv (0 : Int32)] []) s₁ EF := fun t k => pre204 t (XS.icmpNo X202.here hx rfl (hb hby at_224) rfl (teq (by decide : (0 : Int32) = (0 : Int32))).2 k)
      have pre206 : Go p e below T202 (mkF m 232 #[iv p1, iv p2, iv p3, iv p4, iv p5, iv (3 : Int32), iv ca, iv cb, iv cc, iv cd, rv b159, rv b175, iv (0 : Int32)] [(.int (1 : Int32))]) s₁ EF := fun t k => pre205 t (by
          refine XS.iconst X202.here hx rfl (hb hby at_227) ?_
          refine XS.goto X202.here hx rfl (pc0 := 228) (pc' := 232) rfl (hb hby at_228) (by decide) (by decide) ?_
          exact k)
      have hnr : Value.int (nar .boolean (1 : Int32)) = (.int (1 : Int32)) := by rfl
      obtain ⟨fs, hr, hrun, hended, hend1, hend2, hend3, hsame⟩ := X202.leaveW hS0 (by rw [e202]; exact hk181) (v := some (.int (1 : Int32))) (fun h => by rw [Bd.returns] at h; cases h)
      have hCH : CHr Z [("java/lang/String", 7)] s.vm s.heap T202.vm T202.heap := by rw [hh, e202]; exact R181.trans (CHv.at X202 hZ0 (own_EW hw) C181)
      refine ⟨_, _, hEF ▸ pre206 _ (retN X202 hx (t := .boolean) Bd.returns (by simp) (hb hby at_232) (hnr ▸ hr)), hrun, hended, _, _, rfl, ?_, hCH, hend1, hend2, hend3, hsame.mono (by decide) (by decide)⟩
      show QL Z p1 p2 p3 p4 p5 cz fv h0 n0 _ T202.heap _
      rw [e202]
      exact ⟨rfl, N202⟩
    have pre207 : Go p e below T198 (mkF m 182 #[iv p1, iv p2, iv p3, iv p4, iv p5, iv (3 : Int32), iv ca, iv cb, iv cc, iv cd, rv b159, rv b175, .unset] []) s₁ EF := fun t k => pre199 t (XS.ifNo X198.here hx rfl (hb hby at_179) rfl ((if0 _ _).trans (feq hc179).1) k)
    have pre208 : Go p e below T198 (mkF m 185 #[iv p1, iv p2, iv p3, iv p4, iv p5, iv (3 : Int32), iv ca, iv cb, iv cc, iv cd, rv b159, rv b175, .unset] [(.int (3 : Int32)), (.int (3 : Int32))]) s₁ EF := fun t k => pre207 t (by
        refine XS.iload X198.here hx rfl (hb hby at_182) rfl ?_
        refine XS.iconst X198.here hx rfl (hb hby at_184) ?_
        exact k)
    have pre209 : Go p e below T198 (mkF m 188 #[iv p1, iv p2, iv p3, iv p4, iv p5, iv (3 : Int32), iv ca, iv cb, iv cc, iv cd, rv b159, rv b175, .unset] []) s₁ EF := fun t k => pre208 t (XS.icmpNo X198.here hx rfl (hb hby at_185) rfl (flt (by decide : ¬ ((3 : Int32) < (3 : Int32)))).1 k)
    have pre210 : Go p e below T198 (mkF m 190 #[iv p1, iv p2, iv p3, iv p4, iv p5, iv (3 : Int32), iv ca, iv cb, iv cc, iv cd, rv b159, rv b175, .unset] [(.int cc)]) s₁ EF := fun t k => pre209 t (by
        refine XS.iload X198.here hx rfl (hb hby at_188) rfl ?_
        exact k)
    obtain ⟨_, _, ⟨T211, L211, k211, n211⟩, -, X211, ⟨Lc211, hQ211, l211, y211, z211⟩, st211⟩ := Jvm.LawKit.callS X198 hx (y := mN21) hown0 (mvT hZ0 (hw _ (mW 54 rfl))) (mvT hZ0 (hw _ (mW 55 rfl))) (mvT hZ0 (hw _ (mW 3 rfl))) (mvT hZ0 (hw _ (mW 56 rfl))) (by decide) (backOf (W := 0) (rmG l Z a0 hw [] cc (digF cc) T179.heap n0 Z181 rfl) hZ0 (hw _ (mW 56 rfl)) (hw _ (mW 3 rfl)) (by decide) (by decide)) (g := (mkF m 190 #[iv p1, iv p2, iv p3, iv p4, iv p5, iv (3 : Int32), iv ca, iv cb, iv cc, iv cd, rv b159, rv b175, .unset] [(.int cc)])) rfl (by rw [hml]; rfl) (argsL := [(.int cc)]) (rest := []) (lenOf pdL_3 rfl) rfl (Nat.le_of_eq rfl) (hb hby at_190) (fun _ _ => ⟨rfl, e198, wl rfl, wl rfl⟩)
    dsimp only [Pt.U, Pt.locs, Pt.cells, Pt.slots] at X211 l211 y211 z211 st211 hQ211
    subst l211 y211 z211
    obtain ⟨rfl, N211q, hq211⟩ := hQ211
    have N211 := Fr.app N198 N211q
    have pre212 : Go p e below T211 (mkF m 193 #[iv p1, iv p2, iv p3, iv p4, iv p5, iv (3 : Int32), iv ca, iv cb, iv cc, iv cd, rv b159, rv b175, .unset] [(.int (digF cc))]) s₁ EF := fun t k => pre210 t (st211 t k)
    have e211 : T211.heap = T179.heap := hq211
    by_cases hc193 : (digF cc) = (0 : Int32)
    · have pre213 : Go p e below T211 (mkF m 214 #[iv p1, iv p2, iv p3, iv p4, iv p5, iv (3 : Int32), iv ca, iv cb, iv cc, iv cd, rv b159, rv b175, .unset] []) s₁ EF := fun t k => pre212 t (XS.ifYes X211.here hx rfl (pc0 := 193) (pc' := 214) rfl (hb hby at_193) rfl ((if0 _ _).trans (teq hc193).1) (by decide) (by decide) k)
      have pre214 : Go p e below T211 (mkF m 219 #[iv p1, iv p2, iv p3, iv p4, iv p5, iv (3 : Int32), iv ca, iv cb, iv cc, iv cd, rv b159, rv b175, iv (0 : Int32)] [(.ref b175)]) s₁ EF := fun t k => pre213 t (by
          refine XS.iconst X211.here hx rfl (hb hby at_214) ?_
          refine XS.istore X211.here hx rfl (hb hby at_215) rfl (l' := #[iv p1, iv p2, iv p3, iv p4, iv p5, iv (3 : Int32), iv ca, iv cb, iv cc, iv cd, rv b159, rv b175, iv (0 : Int32)]) rfl ?_
          refine XS.aload X211.here hx rfl (hb hby at_217) rfl rfl ?_
          exact k)
      obtain ⟨_, _, ⟨T215, L215, k215, n215⟩, -, X215, ⟨Lc215, hQ215, l215, y215, z215⟩, st215⟩ := Jvm.LawKit.callS X211 hx (y := mN22) hown0 (mvT hZ0 (hw _ (mW 29 rfl))) (mvT hZ0 (hw _ (mW 30 rfl))) (mvT hZ0 (hw _ (mW 31 rfl))) (mvT hZ0 (hw _ (mW 32 rfl))) (by decide) (backOf (W := 0) (rmI3 l Z a0 hw [] b175 cz fv ca cb cc (0 : Int32) T179.heap n0 Z181 O181 J0 SF179 (by simp [allD, hc165, hc179, hc193])) hZ0 (hw _ (mW 32 rfl)) (hw _ (mW 31 rfl)) (by decide) (by decide)) (g := (mkF m 219 #[iv p1, iv p2, iv p3, iv p4, iv p5, iv (3 : Int32), iv ca, iv cb, iv cc, iv cd, rv b159, rv b175, iv (0 : Int32)] [(.ref b175)])) rfl (by rw [hml]; rfl) (argsL := [(.ref b175)]) (rest := []) (lenOf pdL_2 rfl) rfl (Nat.le_of_eq rfl) (hb hby at_219) (fun _ _ => ⟨rfl, e211, wl rfl, wl rfl⟩)
      dsimp only [Pt.U, Pt.locs, Pt.cells, Pt.slots] at X215 l215 y215 z215 st215 hQ215
      subst l215 y215 z215
      obtain ⟨rfl, N215q, hq215⟩ := hQ215
      have N215 := Fr.app N211 N215q
      have pre216 : Go p e below T215 (mkF m 222 #[iv p1, iv p2, iv p3, iv p4, iv p5, iv (3 : Int32), iv ca, iv cb, iv cc, iv cd, rv b159, rv b175, iv (0 : Int32)] [(.int (0 : Int32))]) s₁ EF := fun t k => pre214 t (st215 t k)
      have e215 : T215.heap = T179.heap := hq215
      have pre217 : Go p e below T215 (mkF m 224 #[iv p1, iv p2, iv p3, iv p4, iv p5, iv (3 : Int32), iv ca, iv cb, iv cc, iv cd, rv b159, rv b175, iv (0 : Int32)] [(.int (0 : Int32)), (.int (0 : Int32))]) s₁ EF := fun t k => pre216 t (by
          refine XS.iload X215.here hx rfl (hb hby at_222) rfl ?_
          exact k)
      have pre218 : Go p e below T215 (mkF m 227 #[iv p1, iv p2, iv p3, iv p4, iv p5, iv (3 : Int32), iv ca, iv cb, iv cc, iv cd, rv b159, rv b175, iv (0 : Int32)] []) s₁ EF := fun t k => pre217 t (XS.icmpNo X215.here hx rfl (hb hby at_224) rfl (teq (by decide : (0 : Int32) = (0 : Int32))).2 k)
      have pre219 : Go p e below T215 (mkF m 232 #[iv p1, iv p2, iv p3, iv p4, iv p5, iv (3 : Int32), iv ca, iv cb, iv cc, iv cd, rv b159, rv b175, iv (0 : Int32)] [(.int (1 : Int32))]) s₁ EF := fun t k => pre218 t (by
          refine XS.iconst X215.here hx rfl (hb hby at_227) ?_
          refine XS.goto X215.here hx rfl (pc0 := 228) (pc' := 232) rfl (hb hby at_228) (by decide) (by decide) ?_
          exact k)
      have hnr : Value.int (nar .boolean (1 : Int32)) = (.int (1 : Int32)) := by rfl
      obtain ⟨fs, hr, hrun, hended, hend1, hend2, hend3, hsame⟩ := X215.leaveW hS0 (by rw [e215]; exact hk181) (v := some (.int (1 : Int32))) (fun h => by rw [Bd.returns] at h; cases h)
      have hCH : CHr Z [("java/lang/String", 7)] s.vm s.heap T215.vm T215.heap := by rw [hh, e215]; exact R181.trans (CHv.at X215 hZ0 (own_EW hw) C181)
      refine ⟨_, _, hEF ▸ pre219 _ (retN X215 hx (t := .boolean) Bd.returns (by simp) (hb hby at_232) (hnr ▸ hr)), hrun, hended, _, _, rfl, ?_, hCH, hend1, hend2, hend3, hsame.mono (by decide) (by decide)⟩
      show QL Z p1 p2 p3 p4 p5 cz fv h0 n0 _ T215.heap _
      rw [e215]
      exact ⟨rfl, N215⟩
    have pre220 : Go p e below T211 (mkF m 196 #[iv p1, iv p2, iv p3, iv p4, iv p5, iv (3 : Int32), iv ca, iv cb, iv cc, iv cd, rv b159, rv b175, .unset] []) s₁ EF := fun t k => pre212 t (XS.ifNo X211.here hx rfl (hb hby at_193) rfl ((if0 _ _).trans (feq hc193).1) k)
    have pre221 : Go p e below T211 (mkF m 199 #[iv p1, iv p2, iv p3, iv p4, iv p5, iv (3 : Int32), iv ca, iv cb, iv cc, iv cd, rv b159, rv b175, .unset] [(.int (4 : Int32)), (.int (3 : Int32))]) s₁ EF := fun t k => pre220 t (by
        refine XS.iload X211.here hx rfl (hb hby at_196) rfl ?_
        refine XS.iconst X211.here hx rfl (hb hby at_198) ?_
        exact k)
    have pre222 : Go p e below T211 (mkF m 210 #[iv p1, iv p2, iv p3, iv p4, iv p5, iv (3 : Int32), iv ca, iv cb, iv cc, iv cd, rv b159, rv b175, .unset] []) s₁ EF := fun t k => pre221 t (XS.icmpYes X211.here hx rfl (pc0 := 199) (pc' := 210) rfl (hb hby at_199) rfl (tlt (by decide : (3 : Int32) < (4 : Int32))).1 (by decide) (by decide) k)
    have pre223 : Go p e below T211 (mkF m 219 #[iv p1, iv p2, iv p3, iv p4, iv p5, iv (3 : Int32), iv ca, iv cb, iv cc, iv cd, rv b159, rv b175, iv (1 : Int32)] [(.ref b175)]) s₁ EF := fun t k => pre222 t (by
        refine XS.iconst X211.here hx rfl (hb hby at_210) ?_
        refine XS.goto X211.here hx rfl (pc0 := 211) (pc' := 215) rfl (hb hby at_211) (by decide) (by decide) ?_
        refine XS.istore X211.here hx rfl (hb hby at_215) rfl (l' := #[iv p1, iv p2, iv p3, iv p4, iv p5, iv (3 : Int32), iv ca, iv cb, iv cc, iv cd, rv b159, rv b175, iv (1 : Int32)]) rfl ?_
        refine XS.aload X211.here hx rfl (hb hby at_217) rfl rfl ?_
        exact k)
    obtain ⟨_, _, ⟨T224, L224, k224, n224⟩, -, X224, ⟨Lc224, hQ224, l224, y224, z224⟩, st224⟩ := Jvm.LawKit.callS X211 hx (y := mN22) hown0 (mvT hZ0 (hw _ (mW 29 rfl))) (mvT hZ0 (hw _ (mW 30 rfl))) (mvT hZ0 (hw _ (mW 31 rfl))) (mvT hZ0 (hw _ (mW 32 rfl))) (by decide) (backOf (W := 0) (rmI3 l Z a0 hw [] b175 cz fv ca cb cc (1 : Int32) T179.heap n0 Z181 O181 J0 SF179 (by simp [allD, hc165, hc179, hc193])) hZ0 (hw _ (mW 32 rfl)) (hw _ (mW 31 rfl)) (by decide) (by decide)) (g := (mkF m 219 #[iv p1, iv p2, iv p3, iv p4, iv p5, iv (3 : Int32), iv ca, iv cb, iv cc, iv cd, rv b159, rv b175, iv (1 : Int32)] [(.ref b175)])) rfl (by rw [hml]; rfl) (argsL := [(.ref b175)]) (rest := []) (lenOf pdL_2 rfl) rfl (Nat.le_of_eq rfl) (hb hby at_219) (fun _ _ => ⟨rfl, e211, wl rfl, wl rfl⟩)
    dsimp only [Pt.U, Pt.locs, Pt.cells, Pt.slots] at X224 l224 y224 z224 st224 hQ224
    subst l224 y224 z224
    obtain ⟨rfl, N224q, hq224⟩ := hQ224
    have N224 := Fr.app N211 N224q
    have pre225 : Go p e below T224 (mkF m 222 #[iv p1, iv p2, iv p3, iv p4, iv p5, iv (3 : Int32), iv ca, iv cb, iv cc, iv cd, rv b159, rv b175, iv (1 : Int32)] [(.int (1 : Int32))]) s₁ EF := fun t k => pre223 t (st224 t k)
    have e224 : T224.heap = T179.heap := hq224
    have pre226 : Go p e below T224 (mkF m 224 #[iv p1, iv p2, iv p3, iv p4, iv p5, iv (3 : Int32), iv ca, iv cb, iv cc, iv cd, rv b159, rv b175, iv (1 : Int32)] [(.int (1 : Int32)), (.int (1 : Int32))]) s₁ EF := fun t k => pre225 t (by
        refine XS.iload X224.here hx rfl (hb hby at_222) rfl ?_
        exact k)
    have pre227 : Go p e below T224 (mkF m 227 #[iv p1, iv p2, iv p3, iv p4, iv p5, iv (3 : Int32), iv ca, iv cb, iv cc, iv cd, rv b159, rv b175, iv (1 : Int32)] []) s₁ EF := fun t k => pre226 t (XS.icmpNo X224.here hx rfl (hb hby at_224) rfl (teq (by decide : (1 : Int32) = (1 : Int32))).2 k)
    have pre228 : Go p e below T224 (mkF m 232 #[iv p1, iv p2, iv p3, iv p4, iv p5, iv (3 : Int32), iv ca, iv cb, iv cc, iv cd, rv b159, rv b175, iv (1 : Int32)] [(.int (1 : Int32))]) s₁ EF := fun t k => pre227 t (by
        refine XS.iconst X224.here hx rfl (hb hby at_227) ?_
        refine XS.goto X224.here hx rfl (pc0 := 228) (pc' := 232) rfl (hb hby at_228) (by decide) (by decide) ?_
        exact k)
    have hnr : Value.int (nar .boolean (1 : Int32)) = (.int (1 : Int32)) := by rfl
    obtain ⟨fs, hr, hrun, hended, hend1, hend2, hend3, hsame⟩ := X224.leaveW hS0 (by rw [e224]; exact hk181) (v := some (.int (1 : Int32))) (fun h => by rw [Bd.returns] at h; cases h)
    have hCH : CHr Z [("java/lang/String", 7)] s.vm s.heap T224.vm T224.heap := by rw [hh, e224]; exact R181.trans (CHv.at X224 hZ0 (own_EW hw) C181)
    refine ⟨_, _, hEF ▸ pre228 _ (retN X224 hx (t := .boolean) Bd.returns (by simp) (hb hby at_232) (hnr ▸ hr)), hrun, hended, _, _, rfl, ?_, hCH, hend1, hend2, hend3, hsame.mono (by decide) (by decide)⟩
    show QL Z p1 p2 p3 p4 p5 cz fv h0 n0 _ T224.heap _
    rw [e224]
    exact ⟨rfl, N224⟩
  subst hv14_4
  have pre229 : Go p e below T11 (mkF m 35 #[iv p1, iv p2, iv p3, iv p4, iv p5, iv (4 : Int32), iv ca, iv cb, iv cc, iv cd, .unset, .unset, .unset] [(.int (4 : Int32))]) s₁ EF := fun t k => pre13 t (by
      refine XS.iload X11.here hx rfl (hb hby at_33) rfl ?_
      exact k)
  have pre230 : Go p e below T11 (mkF m 46 #[iv p1, iv p2, iv p3, iv p4, iv p5, iv (4 : Int32), iv ca, iv cb, iv cc, iv cd, .unset, .unset, .unset] []) s₁ EF := fun t k => pre229 t (XS.ifYes X11.here hx rfl (pc0 := 35) (pc' := 46) rfl (hb hby at_35) rfl ((if0 _ _).trans (feq (by decide : ¬ ((4 : Int32) = (0 : Int32)))).2) (by decide) (by decide) k)
  have pre231 : Go p e below T11 (mkF m 49 #[iv p1, iv p2, iv p3, iv p4, iv p5, iv (4 : Int32), iv ca, iv cb, iv cc, iv cd, .unset, .unset, .unset] [(.int (1 : Int32)), (.int (4 : Int32))]) s₁ EF := fun t k => pre230 t (by
      refine XS.iload X11.here hx rfl (hb hby at_46) rfl ?_
      refine XS.iconst X11.here hx rfl (hb hby at_48) ?_
      exact k)
  have pre232 : Go p e below T11 (mkF m 65 #[iv p1, iv p2, iv p3, iv p4, iv p5, iv (4 : Int32), iv ca, iv cb, iv cc, iv cd, .unset, .unset, .unset] []) s₁ EF := fun t k => pre231 t (XS.icmpYes X11.here hx rfl (pc0 := 49) (pc' := 65) rfl (hb hby at_49) rfl (feq (by decide : ¬ ((4 : Int32) = (1 : Int32)))).2 (by decide) (by decide) k)
  have pre233 : Go p e below T11 (mkF m 68 #[iv p1, iv p2, iv p3, iv p4, iv p5, iv (4 : Int32), iv ca, iv cb, iv cc, iv cd, .unset, .unset, .unset] [(.int (2 : Int32)), (.int (4 : Int32))]) s₁ EF := fun t k => pre232 t (by
      refine XS.iload X11.here hx rfl (hb hby at_65) rfl ?_
      refine XS.iconst X11.here hx rfl (hb hby at_67) ?_
      exact k)
  have pre234 : Go p e below T11 (mkF m 89 #[iv p1, iv p2, iv p3, iv p4, iv p5, iv (4 : Int32), iv ca, iv cb, iv cc, iv cd, .unset, .unset, .unset] []) s₁ EF := fun t k => pre233 t (XS.icmpYes X11.here hx rfl (pc0 := 68) (pc' := 89) rfl (hb hby at_68) rfl (feq (by decide : ¬ ((4 : Int32) = (2 : Int32)))).2 (by decide) (by decide) k)
  have pre235 : Go p e below T11 (mkF m 92 #[iv p1, iv p2, iv p3, iv p4, iv p5, iv (4 : Int32), iv ca, iv cb, iv cc, iv cd, .unset, .unset, .unset] [(.int (3 : Int32)), (.int (4 : Int32))]) s₁ EF := fun t k => pre234 t (by
      refine XS.iload X11.here hx rfl (hb hby at_89) rfl ?_
      refine XS.iconst X11.here hx rfl (hb hby at_91) ?_
      exact k)
  have pre236 : Go p e below T11 (mkF m 118 #[iv p1, iv p2, iv p3, iv p4, iv p5, iv (4 : Int32), iv ca, iv cb, iv cc, iv cd, .unset, .unset, .unset] []) s₁ EF := fun t k => pre235 t (XS.icmpYes X11.here hx rfl (pc0 := 92) (pc' := 118) rfl (hb hby at_92) rfl (feq (by decide : ¬ ((4 : Int32) = (3 : Int32)))).2 (by decide) (by decide) k)
  have pre237 : Go p e below T11 (mkF m 119 #[iv p1, iv p2, iv p3, iv p4, iv p5, iv (4 : Int32), iv ca, iv cb, iv cc, iv cd, .unset, .unset, .unset] [(.int (4 : Int32))]) s₁ EF := fun t k => pre236 t (by
      refine XS.iconst X11.here hx rfl (hb hby at_118) ?_
      exact k)
  obtain ⟨T238, h238, k238, X238, e238, Et238, A238, st238⟩ := newP X11 hx hZ0 (hw _ (mW 7 rfl)) e11 (g := (mkF m 119 #[iv p1, iv p2, iv p3, iv p4, iv p5, iv (4 : Int32), iv ca, iv cb, iv cc, iv cd, .unset, .unset, .unset] [(.int (4 : Int32))])) rfl (hb hby at_119) rfl (by decide) (cap := 4) (by decide) (by decide) (by decide) (by decide)
  obtain ⟨b238, g238⟩ : ∃ z, z = h0.size := ⟨_, rfl⟩
  rw [← g238] at A238 st238
  have g_b238 : n0 ≤ b238 := Nat.le_trans Z0 (Nat.le_of_eq g238.symm)
  have sfn_b238 : Safe Z [("java/lang/String", 7)] s.vm h0 b238 := Safe.new (Nat.le_of_eq g238.symm)
  have pre239 : Go p e below T238 (mkF m 121 #[iv p1, iv p2, iv p3, iv p4, iv p5, iv (4 : Int32), iv ca, iv cb, iv cc, iv cd, .unset, .unset, .unset] [(.ref b238)]) s₁ EF := fun t k => pre237 t (st238 t k)
  have O240 : Old Z n0 h238 := O0.ext Et238
  have Z240 : n0 ≤ h238.size := Nat.le_trans Z0 Et238.1
  have hk240 := Nat.le_trans hk0 Et238.1
  have C240 := CHv.ext Et238 hC
  have R240 := (CHr.refl hC).trans (CHr.ext Et238 hC)
  have sf240_b238 := Safe.ext Et238 hC sfn_b238
  have V238 : Arv Z h238 b238 k238 .char (4 : Int32) [(.int (0 : Int32)), (.int (0 : Int32)), (.int (0 : Int32)), (.int (0 : Int32))] (.int (0 : Int32)) := (Arv.new A238 (by decide)).pad (pad_rep [] (.int (0 : Int32)) 4)
  have pre241 : Go p e below T238 (mkF m 125 #[iv p1, iv p2, iv p3, iv p4, iv p5, iv (4 : Int32), iv ca, iv cb, iv cc, iv cd, .unset, .unset, .unset] [(.int ca), (.int (0 : Int32)), (.ref b238), (.ref b238)]) s₁ EF := fun t k => pre239 t (by
      refine XS.dup X238.here hx rfl (hb hby at_121) rfl rfl ?_
      refine XS.iconst X238.here hx rfl (hb hby at_122) ?_
      refine XS.iload X238.here hx rfl (hb hby at_123) rfl ?_
      exact k)
  obtain ⟨cl242, Ar242, q242, Sz242, M242, H242, G242⟩ := id V238
  have hin242 : ¬ ((0 : Int32) < 0 ∨ cl242.slots.size ≤ ((0 : Int32)).toNatClampNeg) := inb_of Sz242 ⟨by decide, by decide⟩
  obtain ⟨T242, h242, X242, e242, W242, st242⟩ := stC X238 hx hZ0 e238 Ar242 (j := (0 : Int32)) hin242 (g := (mkF m 125 #[iv p1, iv p2, iv p3, iv p4, iv p5, iv (4 : Int32), iv ca, iv cb, iv cc, iv cd, .unset, .unset, .unset] [(.int ca), (.int (0 : Int32)), (.ref b238), (.ref b238)])) rfl rfl (hb hby at_125)
  rw [(own_nc rca.1 rca.2)] at W242
  have pre243 : Go p e below T242 (mkF m 126 #[iv p1, iv p2, iv p3, iv p4, iv p5, iv (4 : Int32), iv ca, iv cb, iv cc, iv cd, .unset, .unset, .unset] [(.ref b238)]) s₁ EF := fun t k => pre241 t (st242 t k)
  have O244 : Old Z n0 h242 := O240.wr W242 g_b238
  have Z244 : n0 ≤ h242.size := Nat.le_trans Z240 (Keep.of_wr W242).1
  have hk244 := Nat.le_trans hk240 (Keep.of_wr W242).1
  have C244 := CHv.wr W242 sf240_b238 C240
  have R244 := R240.trans (CHr.wr W242 sf240_b238 C240)
  have sf244_b238 := Safe.wr W242 sf240_b238 C240 sf240_b238
  have V242 : Arv Z h242 b238 k238 .char (4 : Int32) [(.int ca), (.int (0 : Int32)), (.int (0 : Int32)), (.int (0 : Int32))] (.int (0 : Int32)) := Arv.set Ar242 q242 Sz242 M242 H242 G242 (own_fitc (own_nc rca.1 rca.2)) W242 0 rfl (Nat.le_of_ble_eq_true rfl)
  have N242 := Fr.snoc X242 N11 g_b238
  have pre245 : Go p e below T242 (mkF m 130 #[iv p1, iv p2, iv p3, iv p4, iv p5, iv (4 : Int32), iv ca, iv cb, iv cc, iv cd, .unset, .unset, .unset] [(.int cb), (.int (1 : Int32)), (.ref b238), (.ref b238)]) s₁ EF := fun t k => pre243 t (by
      refine XS.dup X242.here hx rfl (hb hby at_126) rfl rfl ?_
      refine XS.iconst X242.here hx rfl (hb hby at_127) ?_
      refine XS.iload X242.here hx rfl (hb hby at_128) rfl ?_
      exact k)
  obtain ⟨cl246, Ar246, q246, Sz246, M246, H246, G246⟩ := id V242
  have hin246 : ¬ ((1 : Int32) < 0 ∨ cl246.slots.size ≤ ((1 : Int32)).toNatClampNeg) := inb_of Sz246 ⟨by decide, by decide⟩
  obtain ⟨T246, h246, X246, e246, W246, st246⟩ := stC X242 hx hZ0 e242 Ar246 (j := (1 : Int32)) hin246 (g := (mkF m 130 #[iv p1, iv p2, iv p3, iv p4, iv p5, iv (4 : Int32), iv ca, iv cb, iv cc, iv cd, .unset, .unset, .unset] [(.int cb), (.int (1 : Int32)), (.ref b238), (.ref b238)])) rfl rfl (hb hby at_130)
  rw [(own_nc rcb.1 rcb.2)] at W246
  have pre247 : Go p e below T246 (mkF m 131 #[iv p1, iv p2, iv p3, iv p4, iv p5, iv (4 : Int32), iv ca, iv cb, iv cc, iv cd, .unset, .unset, .unset] [(.ref b238)]) s₁ EF := fun t k => pre245 t (st246 t k)
  have O248 : Old Z n0 h246 := O244.wr W246 g_b238
  have Z248 : n0 ≤ h246.size := Nat.le_trans Z244 (Keep.of_wr W246).1
  have hk248 := Nat.le_trans hk244 (Keep.of_wr W246).1
  have C248 := CHv.wr W246 sf244_b238 C244
  have R248 := R244.trans (CHr.wr W246 sf244_b238 C244)
  have sf248_b238 := Safe.wr W246 sf244_b238 C244 sf244_b238
  have V246 : Arv Z h246 b238 k238 .char (4 : Int32) [(.int ca), (.int cb), (.int (0 : Int32)), (.int (0 : Int32))] (.int (0 : Int32)) := Arv.set Ar246 q246 Sz246 M246 H246 G246 (own_fitc (own_nc rcb.1 rcb.2)) W246 1 rfl (Nat.le_of_ble_eq_true rfl)
  have N246 := Fr.snoc X246 N242 g_b238
  have pre249 : Go p e below T246 (mkF m 135 #[iv p1, iv p2, iv p3, iv p4, iv p5, iv (4 : Int32), iv ca, iv cb, iv cc, iv cd, .unset, .unset, .unset] [(.int cc), (.int (2 : Int32)), (.ref b238), (.ref b238)]) s₁ EF := fun t k => pre247 t (by
      refine XS.dup X246.here hx rfl (hb hby at_131) rfl rfl ?_
      refine XS.iconst X246.here hx rfl (hb hby at_132) ?_
      refine XS.iload X246.here hx rfl (hb hby at_133) rfl ?_
      exact k)
  obtain ⟨cl250, Ar250, q250, Sz250, M250, H250, G250⟩ := id V246
  have hin250 : ¬ ((2 : Int32) < 0 ∨ cl250.slots.size ≤ ((2 : Int32)).toNatClampNeg) := inb_of Sz250 ⟨by decide, by decide⟩
  obtain ⟨T250, h250, X250, e250, W250, st250⟩ := stC X246 hx hZ0 e246 Ar250 (j := (2 : Int32)) hin250 (g := (mkF m 135 #[iv p1, iv p2, iv p3, iv p4, iv p5, iv (4 : Int32), iv ca, iv cb, iv cc, iv cd, .unset, .unset, .unset] [(.int cc), (.int (2 : Int32)), (.ref b238), (.ref b238)])) rfl rfl (hb hby at_135)
  rw [(own_nc rcc.1 rcc.2)] at W250
  have pre251 : Go p e below T250 (mkF m 136 #[iv p1, iv p2, iv p3, iv p4, iv p5, iv (4 : Int32), iv ca, iv cb, iv cc, iv cd, .unset, .unset, .unset] [(.ref b238)]) s₁ EF := fun t k => pre249 t (st250 t k)
  have O252 : Old Z n0 h250 := O248.wr W250 g_b238
  have Z252 : n0 ≤ h250.size := Nat.le_trans Z248 (Keep.of_wr W250).1
  have hk252 := Nat.le_trans hk248 (Keep.of_wr W250).1
  have C252 := CHv.wr W250 sf248_b238 C248
  have R252 := R248.trans (CHr.wr W250 sf248_b238 C248)
  have sf252_b238 := Safe.wr W250 sf248_b238 C248 sf248_b238
  have V250 : Arv Z h250 b238 k238 .char (4 : Int32) [(.int ca), (.int cb), (.int cc), (.int (0 : Int32))] (.int (0 : Int32)) := Arv.set Ar250 q250 Sz250 M250 H250 G250 (own_fitc (own_nc rcc.1 rcc.2)) W250 2 rfl (Nat.le_of_ble_eq_true rfl)
  have N250 := Fr.snoc X250 N246 g_b238
  have pre253 : Go p e below T250 (mkF m 140 #[iv p1, iv p2, iv p3, iv p4, iv p5, iv (4 : Int32), iv ca, iv cb, iv cc, iv cd, .unset, .unset, .unset] [(.int cd), (.int (3 : Int32)), (.ref b238), (.ref b238)]) s₁ EF := fun t k => pre251 t (by
      refine XS.dup X250.here hx rfl (hb hby at_136) rfl rfl ?_
      refine XS.iconst X250.here hx rfl (hb hby at_137) ?_
      refine XS.iload X250.here hx rfl (hb hby at_138) rfl ?_
      exact k)
  obtain ⟨cl254, Ar254, q254, Sz254, M254, H254, G254⟩ := id V250
  have hin254 : ¬ ((3 : Int32) < 0 ∨ cl254.slots.size ≤ ((3 : Int32)).toNatClampNeg) := inb_of Sz254 ⟨by decide, by decide⟩
  obtain ⟨T254, h254, X254, e254, W254, st254⟩ := stC X250 hx hZ0 e250 Ar254 (j := (3 : Int32)) hin254 (g := (mkF m 140 #[iv p1, iv p2, iv p3, iv p4, iv p5, iv (4 : Int32), iv ca, iv cb, iv cc, iv cd, .unset, .unset, .unset] [(.int cd), (.int (3 : Int32)), (.ref b238), (.ref b238)])) rfl rfl (hb hby at_140)
  rw [(own_nc rcd.1 rcd.2)] at W254
  have pre255 : Go p e below T254 (mkF m 141 #[iv p1, iv p2, iv p3, iv p4, iv p5, iv (4 : Int32), iv ca, iv cb, iv cc, iv cd, .unset, .unset, .unset] [(.ref b238)]) s₁ EF := fun t k => pre253 t (st254 t k)
  have O256 : Old Z n0 h254 := O252.wr W254 g_b238
  have Z256 : n0 ≤ h254.size := Nat.le_trans Z252 (Keep.of_wr W254).1
  have hk256 := Nat.le_trans hk252 (Keep.of_wr W254).1
  have C256 := CHv.wr W254 sf252_b238 C252
  have R256 := R252.trans (CHr.wr W254 sf252_b238 C252)
  have sf256_b238 := Safe.wr W254 sf252_b238 C252 sf252_b238
  have V254 : Arv Z h254 b238 k238 .char (4 : Int32) [(.int ca), (.int cb), (.int cc), (.int cd)] (.int (0 : Int32)) := Arv.set Ar254 q254 Sz254 M254 H254 G254 (own_fitc (own_nc rcd.1 rcd.2)) W254 3 rfl (Nat.le_of_ble_eq_true rfl)
  have N254 := Fr.snoc X254 N250 g_b238
  have pre257 : Go p e below T254 (mkF m 143 #[iv p1, iv p2, iv p3, iv p4, iv p5, iv (4 : Int32), iv ca, iv cb, iv cc, iv cd, rv b238, .unset, .unset] []) s₁ EF := fun t k => pre255 t (by
      refine XS.astore X254.here hx rfl (hb hby at_141) rfl rfl (l' := #[iv p1, iv p2, iv p3, iv p4, iv p5, iv (4 : Int32), iv ca, iv cb, iv cc, iv cd, rv b238, .unset, .unset]) rfl ?_
      exact k)
  obtain ⟨T258, h258, X258, e258, Et258, A258, D258, U258, st258⟩ := newO X254 hx hZ0 hown0 (hw _ (mW 8 rfl)) (hw _ (mW 9 rfl)) (hw _ (mW 10 rfl)) e254 (g := (mkF m 143 #[iv p1, iv p2, iv p3, iv p4, iv p5, iv (4 : Int32), iv ca, iv cb, iv cc, iv cd, rv b238, .unset, .unset] [])) rfl (hb hby at_143) (by decide) (by decide)
  obtain ⟨b258, g258⟩ : ∃ z, z = h254.size := ⟨_, rfl⟩
  rw [← g258] at A258 st258 D258
  have g_b258 : n0 ≤ b258 := Nat.le_trans Z256 (Nat.le_of_eq g258.symm)
  have sfn_b258 : Safe Z [("java/lang/String", 7)] s.vm h254 b258 := Safe.new (Nat.le_of_eq g258.symm)
  have ne_b238_b258 : b238 ≠ b258 := Nat.ne_of_lt (Nat.lt_of_lt_of_le V254.lt (Nat.le_of_eq g258.symm))
  have pre259 : Go p e below T258 (mkF m 146 #[iv p1, iv p2, iv p3, iv p4, iv p5, iv (4 : Int32), iv ca, iv cb, iv cc, iv cd, rv b238, .unset, .unset] [(.ref b258)]) s₁ EF := fun t k => pre257 t (st258 t k)
  have O260 : Old Z n0 h258 := O256.ext Et258
  have Z260 : n0 ≤ h258.size := Nat.le_trans Z256 Et258.1
  have hk260 := Nat.le_trans hk256 Et258.1
  have C260 := CHv.ext Et258 C256
  have R260 := R256.trans (CHr.ext Et258 C256)
  have sf260_b238 := Safe.ext Et258 C256 sf256_b238
  have sf260_b258 := Safe.ext Et258 C256 sfn_b258
  have F_value_b258 : Fld Z h258 b258 "java/lang/String" "value" "[B" .null := D258 (Or.inr (hw _ (mW 23 rfl))) (ty := (.array .byte)) (by decide)
  have F_coder_b258 : Fld Z h258 b258 "java/lang/String" "coder" "B" (.int (0 : Int32)) := D258 (Or.inr (hw _ (mW 24 rfl))) (ty := .byte) (by decide)
  have pre261 : Go p e below T258 (mkF m 149 #[iv p1, iv p2, iv p3, iv p4, iv p5, iv (4 : Int32), iv ca, iv cb, iv cc, iv cd, rv b238, .unset, .unset] [(.ref b238), (.ref b258), (.ref b258)]) s₁ EF := fun t k => pre259 t (by
      refine XS.dup X258.here hx rfl (hb hby at_146) rfl rfl ?_
      refine XS.aload X258.here hx rfl (hb hby at_147) rfl rfl ?_
      exact k)
  obtain ⟨_, _, ⟨T262, L262, k262, n262⟩, -, X262, ⟨Lc262, hQ262, l262, y262, z262⟩, st262⟩ := X258.specialBack hx (y := mN19) rfl hown0 (mvT hZ0 (hw _ (mW 11 rfl))) (mvT hZ0 (hw _ (mW 12 rfl))) (mvT hZ0 (hw _ (mW 13 rfl))) (by decide) (backOf (W := 1) (rmKj4 l Z a0 hw [] b258 b238 cz fv k238 ca cb cc cd h258 n0 Z260 O260 J0 A258 g_b258 F_value_b258 F_coder_b258 (V254.ext Et258) (List.forall_mem_cons.mpr ⟨rca, (List.forall_mem_cons.mpr ⟨rcb, (List.forall_mem_cons.mpr ⟨rcc, (List.forall_mem_cons.mpr ⟨rcd, (fun _ q => nomatch q)⟩)⟩)⟩)⟩)) hZ0 (hw _ (mW 13 rfl)) (hw _ (mW 10 rfl)) (by decide) (by decide)) (g := (mkF m 149 #[iv p1, iv p2, iv p3, iv p4, iv p5, iv (4 : Int32), iv ca, iv cb, iv cc, iv cd, rv b238, .unset, .unset] [(.ref b238), (.ref b258), (.ref b258)])) rfl (by rw [hml]; rfl) (Steps.refl _) (a := b258) (argsL := [(.ref b238)]) (rest := [(.ref b258)]) (lenOf pdL_1 rfl) rfl (Nat.le_of_eq rfl) (hb hby at_149) (fun _ _ => ⟨rfl, e258, wl rfl, wl rfl⟩)
  dsimp only [Pt.U, Pt.locs, Pt.cells, Pt.slots] at X262 l262 y262 z262 st262 hQ262
  subst l262 y262 z262
  obtain ⟨rfl, N262q, K262, SF262⟩ := hQ262
  have N262 := Fr.app N254 N262q
  have pre263 : Go p e below T262 (mkF m 152 #[iv p1, iv p2, iv p3, iv p4, iv p5, iv (4 : Int32), iv ca, iv cb, iv cc, iv cd, rv b238, .unset, .unset] [(.ref b258)]) s₁ EF := fun t k => pre261 t (st262.trans k)
  have O264 : Old Z n0 T262.heap := O260.keep K262 (allS g_b258 all0)
  have Z264 : n0 ≤ T262.heap.size := Nat.le_trans Z260 K262.1
  have hk264 := Nat.le_trans hk260 K262.1
  have C264 := CHv.keep K262 (sfS sf260_b258 sf0) C260
  have R264 := R260.trans (CHr.keep K262 (sfS sf260_b258 sf0) C260)
  have sf264_b238 := Safe.keep K262 (sfS sf260_b258 sf0) C260 sf260_b238
  have sf264_b258 := Safe.keep K262 (sfS sf260_b258 sf0) C260 sf260_b258
  have pre265 : Go p e below T262 (mkF m 157 #[iv p1, iv p2, iv p3, iv p4, iv p5, iv (4 : Int32), iv ca, iv cb, iv cc, iv cd, rv b238, rv b258, .unset] [(.int (1 : Int32)), (.int (4 : Int32))]) s₁ EF := fun t k => pre263 t (by
      refine XS.astore X262.here hx rfl (hb hby at_152) rfl rfl (l' := #[iv p1, iv p2, iv p3, iv p4, iv p5, iv (4 : Int32), iv ca, iv cb, iv cc, iv cd, rv b238, rv b258, .unset]) rfl ?_
      refine XS.iload X262.here hx rfl (hb hby at_154) rfl ?_
      refine XS.iconst X262.here hx rfl (hb hby at_156) ?_
      exact k)
  have pre266 : Go p e below T262 (mkF m 160 #[iv p1, iv p2, iv p3, iv p4, iv p5, iv (4 : Int32), iv ca, iv cb, iv cc, iv cd, rv b238, rv b258, .unset] []) s₁ EF := fun t k => pre265 t (XS.icmpNo X262.here hx rfl (hb hby at_157) rfl (flt (by decide : ¬ ((4 : Int32) < (1 : Int32)))).1 k)
  have pre267 : Go p e below T262 (mkF m 162 #[iv p1, iv p2, iv p3, iv p4, iv p5, iv (4 : Int32), iv ca, iv cb, iv cc, iv cd, rv b238, rv b258, .unset] [(.int ca)]) s₁ EF := fun t k => pre266 t (by
      refine XS.iload X262.here hx rfl (hb hby at_160) rfl ?_
      exact k)
  obtain ⟨_, _, ⟨T268, L268, k268, n268⟩, -, X268, ⟨Lc268, hQ268, l268, y268, z268⟩, st268⟩ := Jvm.LawKit.callS X262 hx (y := mN21) hown0 (mvT hZ0 (hw _ (mW 54 rfl))) (mvT hZ0 (hw _ (mW 55 rfl))) (mvT hZ0 (hw _ (mW 3 rfl))) (mvT hZ0 (hw _ (mW 56 rfl))) (by decide) (backOf (W := 0) (rmG l Z a0 hw [] ca (digF ca) T262.heap n0 Z264 rfl) hZ0 (hw _ (mW 56 rfl)) (hw _ (mW 3 rfl)) (by decide) (by decide)) (g := (mkF m 162 #[iv p1, iv p2, iv p3, iv p4, iv p5, iv (4 : Int32), iv ca, iv cb, iv cc, iv cd, rv b238, rv b258, .unset] [(.int ca)])) rfl (by rw [hml]; rfl) (argsL := [(.int ca)]) (rest := []) (lenOf pdL_3 rfl) rfl (Nat.le_of_eq rfl) (hb hby at_162) (fun _ _ => ⟨rfl, rfl, wl rfl, wl rfl⟩)
  dsimp only [Pt.U, Pt.locs, Pt.cells, Pt.slots] at X268 l268 y268 z268 st268 hQ268
  subst l268 y268 z268
  obtain ⟨rfl, N268q, hq268⟩ := hQ268
  have N268 := Fr.app N262 N268q
  have pre269 : Go p e below T268 (mkF m 165 #[iv p1, iv p2, iv p3, iv p4, iv p5, iv (4 : Int32), iv ca, iv cb, iv cc, iv cd, rv b238, rv b258, .unset] [(.int (digF ca))]) s₁ EF := fun t k => pre267 t (st268 t k)
  have e268 : T268.heap = T262.heap := hq268
  by_cases hc165 : (digF ca) = (0 : Int32)
  · have pre270 : Go p e below T268 (mkF m 214 #[iv p1, iv p2, iv p3, iv p4, iv p5, iv (4 : Int32), iv ca, iv cb, iv cc, iv cd, rv b238, rv b258, .unset] []) s₁ EF := fun t k => pre269 t (XS.ifYes X268.here hx rfl (pc0 := 165) (pc' := 214) rfl (hb hby at_165) rfl ((if0 _ _).trans (teq hc165).1) (by decide) (by decide) k)
    have pre271 : Go p e below T268 (mkF m 219 #[iv p1, iv p2, iv p3, iv p4, iv p5, iv (4 : Int32), iv ca, iv cb, iv cc, iv cd, rv b238, rv b258, iv (0 : Int32)] [(.ref b258)]) s₁ EF := fun t k => pre270 t (by
        refine XS.iconst X268.here hx rfl (hb hby at_214) ?_
        refine XS.istore X268.here hx rfl (hb hby at_215) rfl (l' := #[iv p1, iv p2, iv p3, iv p4, iv p5, iv (4 : Int32), iv ca, iv cb, iv cc, iv cd, rv b238, rv b258, iv (0 : Int32)]) rfl ?_
        refine XS.aload X268.here hx rfl (hb hby at_217) rfl rfl ?_
        exact k)
    obtain ⟨_, _, ⟨T272, L272, k272, n272⟩, -, X272, ⟨Lc272, hQ272, l272, y272, z272⟩, st272⟩ := Jvm.LawKit.callS X268 hx (y := mN22) hown0 (mvT hZ0 (hw _ (mW 29 rfl))) (mvT hZ0 (hw _ (mW 30 rfl))) (mvT hZ0 (hw _ (mW 31 rfl))) (mvT hZ0 (hw _ (mW 32 rfl))) (by decide) (backOf (W := 0) (rmI4 l Z a0 hw [] b258 cz fv ca cb cc cd (0 : Int32) T262.heap n0 Z264 O264 J0 SF262 (by simp [allD, hc165])) hZ0 (hw _ (mW 32 rfl)) (hw _ (mW 31 rfl)) (by decide) (by decide)) (g := (mkF m 219 #[iv p1, iv p2, iv p3, iv p4, iv p5, iv (4 : Int32), iv ca, iv cb, iv cc, iv cd, rv b238, rv b258, iv (0 : Int32)] [(.ref b258)])) rfl (by rw [hml]; rfl) (argsL := [(.ref b258)]) (rest := []) (lenOf pdL_2 rfl) rfl (Nat.le_of_eq rfl) (hb hby at_219) (fun _ _ => ⟨rfl, e268, wl rfl, wl rfl⟩)
    dsimp only [Pt.U, Pt.locs, Pt.cells, Pt.slots] at X272 l272 y272 z272 st272 hQ272
    subst l272 y272 z272
    obtain ⟨rfl, N272q, hq272⟩ := hQ272
    have N272 := Fr.app N268 N272q
    have pre273 : Go p e below T272 (mkF m 222 #[iv p1, iv p2, iv p3, iv p4, iv p5, iv (4 : Int32), iv ca, iv cb, iv cc, iv cd, rv b238, rv b258, iv (0 : Int32)] [(.int (0 : Int32))]) s₁ EF := fun t k => pre271 t (st272 t k)
    have e272 : T272.heap = T262.heap := hq272
    have pre274 : Go p e below T272 (mkF m 224 #[iv p1, iv p2, iv p3, iv p4, iv p5, iv (4 : Int32), iv ca, iv cb, iv cc, iv cd, rv b238, rv b258, iv (0 : Int32)] [(.int (0 : Int32)), (.int (0 : Int32))]) s₁ EF := fun t k => pre273 t (by
        refine XS.iload X272.here hx rfl (hb hby at_222) rfl ?_
        exact k)
    have pre275 : Go p e below T272 (mkF m 227 #[iv p1, iv p2, iv p3, iv p4, iv p5, iv (4 : Int32), iv ca, iv cb, iv cc, iv cd, rv b238, rv b258, iv (0 : Int32)] []) s₁ EF := fun t k => pre274 t (XS.icmpNo X272.here hx rfl (hb hby at_224) rfl (teq (by decide : (0 : Int32) = (0 : Int32))).2 k)
    have pre276 : Go p e below T272 (mkF m 232 #[iv p1, iv p2, iv p3, iv p4, iv p5, iv (4 : Int32), iv ca, iv cb, iv cc, iv cd, rv b238, rv b258, iv (0 : Int32)] [(.int (1 : Int32))]) s₁ EF := fun t k => pre275 t (by
        refine XS.iconst X272.here hx rfl (hb hby at_227) ?_
        refine XS.goto X272.here hx rfl (pc0 := 228) (pc' := 232) rfl (hb hby at_228) (by decide) (by decide) ?_
        exact k)
    have hnr : Value.int (nar .boolean (1 : Int32)) = (.int (1 : Int32)) := by rfl
    obtain ⟨fs, hr, hrun, hended, hend1, hend2, hend3, hsame⟩ := X272.leaveW hS0 (by rw [e272]; exact hk264) (v := some (.int (1 : Int32))) (fun h => by rw [Bd.returns] at h; cases h)
    have hCH : CHr Z [("java/lang/String", 7)] s.vm s.heap T272.vm T272.heap := by rw [hh, e272]; exact R264.trans (CHv.at X272 hZ0 (own_EW hw) C264)
    refine ⟨_, _, hEF ▸ pre276 _ (retN X272 hx (t := .boolean) Bd.returns (by simp) (hb hby at_232) (hnr ▸ hr)), hrun, hended, _, _, rfl, ?_, hCH, hend1, hend2, hend3, hsame.mono (by decide) (by decide)⟩
    show QL Z p1 p2 p3 p4 p5 cz fv h0 n0 _ T272.heap _
    rw [e272]
    exact ⟨rfl, N272⟩
  have pre277 : Go p e below T268 (mkF m 168 #[iv p1, iv p2, iv p3, iv p4, iv p5, iv (4 : Int32), iv ca, iv cb, iv cc, iv cd, rv b238, rv b258, .unset] []) s₁ EF := fun t k => pre269 t (XS.ifNo X268.here hx rfl (hb hby at_165) rfl ((if0 _ _).trans (feq hc165).1) k)
  have pre278 : Go p e below T268 (mkF m 171 #[iv p1, iv p2, iv p3, iv p4, iv p5, iv (4 : Int32), iv ca, iv cb, iv cc, iv cd, rv b238, rv b258, .unset] [(.int (2 : Int32)), (.int (4 : Int32))]) s₁ EF := fun t k => pre277 t (by
      refine XS.iload X268.here hx rfl (hb hby at_168) rfl ?_
      refine XS.iconst X268.here hx rfl (hb hby at_170) ?_
      exact k)
  have pre279 : Go p e below T268 (mkF m 174 #[iv p1, iv p2, iv p3, iv p4, iv p5, iv (4 : Int32), iv ca, iv cb, iv cc, iv cd, rv b238, rv b258, .unset] []) s₁ EF := fun t k => pre278 t (XS.icmpNo X268.here hx rfl (hb hby at_171) rfl (flt (by decide : ¬ ((4 : Int32) < (2 : Int32)))).1 k)
  have pre280 : Go p e below T268 (mkF m 176 #[iv p1, iv p2, iv p3, iv p4, iv p5, iv (4 : Int32), iv ca, iv cb, iv cc, iv cd, rv b238, rv b258, .unset] [(.int cb)]) s₁ EF := fun t k => pre279 t (by
      refine XS.iload X268.here hx rfl (hb hby at_174) rfl ?_
      exact k)
  obtain ⟨_, _, ⟨T281, L281, k281, n281⟩, -, X281, ⟨Lc281, hQ281, l281, y281, z281⟩, st281⟩ := Jvm.LawKit.callS X268 hx (y := mN21) hown0 (mvT hZ0 (hw _ (mW 54 rfl))) (mvT hZ0 (hw _ (mW 55 rfl))) (mvT hZ0 (hw _ (mW 3 rfl))) (mvT hZ0 (hw _ (mW 56 rfl))) (by decide) (backOf (W := 0) (rmG l Z a0 hw [] cb (digF cb) T262.heap n0 Z264 rfl) hZ0 (hw _ (mW 56 rfl)) (hw _ (mW 3 rfl)) (by decide) (by decide)) (g := (mkF m 176 #[iv p1, iv p2, iv p3, iv p4, iv p5, iv (4 : Int32), iv ca, iv cb, iv cc, iv cd, rv b238, rv b258, .unset] [(.int cb)])) rfl (by rw [hml]; rfl) (argsL := [(.int cb)]) (rest := []) (lenOf pdL_3 rfl) rfl (Nat.le_of_eq rfl) (hb hby at_176) (fun _ _ => ⟨rfl, e268, wl rfl, wl rfl⟩)
  dsimp only [Pt.U, Pt.locs, Pt.cells, Pt.slots] at X281 l281 y281 z281 st281 hQ281
  subst l281 y281 z281
  obtain ⟨rfl, N281q, hq281⟩ := hQ281
  have N281 := Fr.app N268 N281q
  have pre282 : Go p e below T281 (mkF m 179 #[iv p1, iv p2, iv p3, iv p4, iv p5, iv (4 : Int32), iv ca, iv cb, iv cc, iv cd, rv b238, rv b258, .unset] [(.int (digF cb))]) s₁ EF := fun t k => pre280 t (st281 t k)
  have e281 : T281.heap = T262.heap := hq281
  by_cases hc179 : (digF cb) = (0 : Int32)
  · have pre283 : Go p e below T281 (mkF m 214 #[iv p1, iv p2, iv p3, iv p4, iv p5, iv (4 : Int32), iv ca, iv cb, iv cc, iv cd, rv b238, rv b258, .unset] []) s₁ EF := fun t k => pre282 t (XS.ifYes X281.here hx rfl (pc0 := 179) (pc' := 214) rfl (hb hby at_179) rfl ((if0 _ _).trans (teq hc179).1) (by decide) (by decide) k)
    have pre284 : Go p e below T281 (mkF m 219 #[iv p1, iv p2, iv p3, iv p4, iv p5, iv (4 : Int32), iv ca, iv cb, iv cc, iv cd, rv b238, rv b258, iv (0 : Int32)] [(.ref b258)]) s₁ EF := fun t k => pre283 t (by
        refine XS.iconst X281.here hx rfl (hb hby at_214) ?_
        refine XS.istore X281.here hx rfl (hb hby at_215) rfl (l' := #[iv p1, iv p2, iv p3, iv p4, iv p5, iv (4 : Int32), iv ca, iv cb, iv cc, iv cd, rv b238, rv b258, iv (0 : Int32)]) rfl ?_
        refine XS.aload X281.here hx rfl (hb hby at_217) rfl rfl ?_
        exact k)
    obtain ⟨_, _, ⟨T285, L285, k285, n285⟩, -, X285, ⟨Lc285, hQ285, l285, y285, z285⟩, st285⟩ := Jvm.LawKit.callS X281 hx (y := mN22) hown0 (mvT hZ0 (hw _ (mW 29 rfl))) (mvT hZ0 (hw _ (mW 30 rfl))) (mvT hZ0 (hw _ (mW 31 rfl))) (mvT hZ0 (hw _ (mW 32 rfl))) (by decide) (backOf (W := 0) (rmI4 l Z a0 hw [] b258 cz fv ca cb cc cd (0 : Int32) T262.heap n0 Z264 O264 J0 SF262 (by simp [allD, hc165, hc179])) hZ0 (hw _ (mW 32 rfl)) (hw _ (mW 31 rfl)) (by decide) (by decide)) (g := (mkF m 219 #[iv p1, iv p2, iv p3, iv p4, iv p5, iv (4 : Int32), iv ca, iv cb, iv cc, iv cd, rv b238, rv b258, iv (0 : Int32)] [(.ref b258)])) rfl (by rw [hml]; rfl) (argsL := [(.ref b258)]) (rest := []) (lenOf pdL_2 rfl) rfl (Nat.le_of_eq rfl) (hb hby at_219) (fun _ _ => ⟨rfl, e281, wl rfl, wl rfl⟩)
    dsimp only [Pt.U, Pt.locs, Pt.cells, Pt.slots] at X285 l285 y285 z285 st285 hQ285
    subst l285 y285 z285
    obtain ⟨rfl, N285q, hq285⟩ := hQ285
    have N285 := Fr.app N281 N285q
    have pre286 : Go p e below T285 (mkF m 222 #[iv p1, iv p2, iv p3, iv p4, iv p5, iv (4 : Int32), iv ca, iv cb, iv cc, iv cd, rv b238, rv b258, iv (0 : Int32)] [(.int (0 : Int32))]) s₁ EF := fun t k => pre284 t (st285 t k)
    have e285 : T285.heap = T262.heap := hq285
    have pre287 : Go p e below T285 (mkF m 224 #[iv p1, iv p2, iv p3, iv p4, iv p5, iv (4 : Int32), iv ca, iv cb, iv cc, iv cd, rv b238, rv b258, iv (0 : Int32)] [(.int (0 : Int32)), (.int (0 : Int32))]) s₁ EF := fun t k => pre286 t (by
        refine XS.iload X285.here hx rfl (hb hby at_222) rfl ?_
        exact k)
    have pre288 : Go p e below T285 (mkF m 227 #[iv p1, iv p2, iv p3, iv p4, iv p5, iv (4 : Int32), iv ca, iv cb, iv cc, iv cd, rv b238, rv b258, iv (0 : Int32)] []) s₁ EF := fun t k => pre287 t (XS.icmpNo X285.here hx rfl (hb hby at_224) rfl (teq (by decide : (0 : Int32) = (0 : Int32))).2 k)
    have pre289 : Go p e below T285 (mkF m 232 #[iv p1, iv p2, iv p3, iv p4, iv p5, iv (4 : Int32), iv ca, iv cb, iv cc, iv cd, rv b238, rv b258, iv (0 : Int32)] [(.int (1 : Int32))]) s₁ EF := fun t k => pre288 t (by
        refine XS.iconst X285.here hx rfl (hb hby at_227) ?_
        refine XS.goto X285.here hx rfl (pc0 := 228) (pc' := 232) rfl (hb hby at_228) (by decide) (by decide) ?_
        exact k)
    have hnr : Value.int (nar .boolean (1 : Int32)) = (.int (1 : Int32)) := by rfl
    obtain ⟨fs, hr, hrun, hended, hend1, hend2, hend3, hsame⟩ := X285.leaveW hS0 (by rw [e285]; exact hk264) (v := some (.int (1 : Int32))) (fun h => by rw [Bd.returns] at h; cases h)
    have hCH : CHr Z [("java/lang/String", 7)] s.vm s.heap T285.vm T285.heap := by rw [hh, e285]; exact R264.trans (CHv.at X285 hZ0 (own_EW hw) C264)
    refine ⟨_, _, hEF ▸ pre289 _ (retN X285 hx (t := .boolean) Bd.returns (by simp) (hb hby at_232) (hnr ▸ hr)), hrun, hended, _, _, rfl, ?_, hCH, hend1, hend2, hend3, hsame.mono (by decide) (by decide)⟩
    show QL Z p1 p2 p3 p4 p5 cz fv h0 n0 _ T285.heap _
    rw [e285]
    exact ⟨rfl, N285⟩
  have pre290 : Go p e below T281 (mkF m 182 #[iv p1, iv p2, iv p3, iv p4, iv p5, iv (4 : Int32), iv ca, iv cb, iv cc, iv cd, rv b238, rv b258, .unset] []) s₁ EF := fun t k => pre282 t (XS.ifNo X281.here hx rfl (hb hby at_179) rfl ((if0 _ _).trans (feq hc179).1) k)
  have pre291 : Go p e below T281 (mkF m 185 #[iv p1, iv p2, iv p3, iv p4, iv p5, iv (4 : Int32), iv ca, iv cb, iv cc, iv cd, rv b238, rv b258, .unset] [(.int (3 : Int32)), (.int (4 : Int32))]) s₁ EF := fun t k => pre290 t (by
      refine XS.iload X281.here hx rfl (hb hby at_182) rfl ?_
      refine XS.iconst X281.here hx rfl (hb hby at_184) ?_
      exact k)
  have pre292 : Go p e below T281 (mkF m 188 #[iv p1, iv p2, iv p3, iv p4, iv p5, iv (4 : Int32), iv ca, iv cb, iv cc, iv cd, rv b238, rv b258, .unset] []) s₁ EF := fun t k => pre291 t (XS.icmpNo X281.here hx rfl (hb hby at_185) rfl (flt (by decide : ¬ ((4 : Int32) < (3 : Int32)))).1 k)
  have pre293 : Go p e below T281 (mkF m 190 #[iv p1, iv p2, iv p3, iv p4, iv p5, iv (4 : Int32), iv ca, iv cb, iv cc, iv cd, rv b238, rv b258, .unset] [(.int cc)]) s₁ EF := fun t k => pre292 t (by
      refine XS.iload X281.here hx rfl (hb hby at_188) rfl ?_
      exact k)
  obtain ⟨_, _, ⟨T294, L294, k294, n294⟩, -, X294, ⟨Lc294, hQ294, l294, y294, z294⟩, st294⟩ := Jvm.LawKit.callS X281 hx (y := mN21) hown0 (mvT hZ0 (hw _ (mW 54 rfl))) (mvT hZ0 (hw _ (mW 55 rfl))) (mvT hZ0 (hw _ (mW 3 rfl))) (mvT hZ0 (hw _ (mW 56 rfl))) (by decide) (backOf (W := 0) (rmG l Z a0 hw [] cc (digF cc) T262.heap n0 Z264 rfl) hZ0 (hw _ (mW 56 rfl)) (hw _ (mW 3 rfl)) (by decide) (by decide)) (g := (mkF m 190 #[iv p1, iv p2, iv p3, iv p4, iv p5, iv (4 : Int32), iv ca, iv cb, iv cc, iv cd, rv b238, rv b258, .unset] [(.int cc)])) rfl (by rw [hml]; rfl) (argsL := [(.int cc)]) (rest := []) (lenOf pdL_3 rfl) rfl (Nat.le_of_eq rfl) (hb hby at_190) (fun _ _ => ⟨rfl, e281, wl rfl, wl rfl⟩)
  dsimp only [Pt.U, Pt.locs, Pt.cells, Pt.slots] at X294 l294 y294 z294 st294 hQ294
  subst l294 y294 z294
  obtain ⟨rfl, N294q, hq294⟩ := hQ294
  have N294 := Fr.app N281 N294q
  have pre295 : Go p e below T294 (mkF m 193 #[iv p1, iv p2, iv p3, iv p4, iv p5, iv (4 : Int32), iv ca, iv cb, iv cc, iv cd, rv b238, rv b258, .unset] [(.int (digF cc))]) s₁ EF := fun t k => pre293 t (st294 t k)
  have e294 : T294.heap = T262.heap := hq294
  by_cases hc193 : (digF cc) = (0 : Int32)
  · have pre296 : Go p e below T294 (mkF m 214 #[iv p1, iv p2, iv p3, iv p4, iv p5, iv (4 : Int32), iv ca, iv cb, iv cc, iv cd, rv b238, rv b258, .unset] []) s₁ EF := fun t k => pre295 t (XS.ifYes X294.here hx rfl (pc0 := 193) (pc' := 214) rfl (hb hby at_193) rfl ((if0 _ _).trans (teq hc193).1) (by decide) (by decide) k)
    have pre297 : Go p e below T294 (mkF m 219 #[iv p1, iv p2, iv p3, iv p4, iv p5, iv (4 : Int32), iv ca, iv cb, iv cc, iv cd, rv b238, rv b258, iv (0 : Int32)] [(.ref b258)]) s₁ EF := fun t k => pre296 t (by
        refine XS.iconst X294.here hx rfl (hb hby at_214) ?_
        refine XS.istore X294.here hx rfl (hb hby at_215) rfl (l' := #[iv p1, iv p2, iv p3, iv p4, iv p5, iv (4 : Int32), iv ca, iv cb, iv cc, iv cd, rv b238, rv b258, iv (0 : Int32)]) rfl ?_
        refine XS.aload X294.here hx rfl (hb hby at_217) rfl rfl ?_
        exact k)
    obtain ⟨_, _, ⟨T298, L298, k298, n298⟩, -, X298, ⟨Lc298, hQ298, l298, y298, z298⟩, st298⟩ := Jvm.LawKit.callS X294 hx (y := mN22) hown0 (mvT hZ0 (hw _ (mW 29 rfl))) (mvT hZ0 (hw _ (mW 30 rfl))) (mvT hZ0 (hw _ (mW 31 rfl))) (mvT hZ0 (hw _ (mW 32 rfl))) (by decide) (backOf (W := 0) (rmI4 l Z a0 hw [] b258 cz fv ca cb cc cd (0 : Int32) T262.heap n0 Z264 O264 J0 SF262 (by simp [allD, hc165, hc179, hc193])) hZ0 (hw _ (mW 32 rfl)) (hw _ (mW 31 rfl)) (by decide) (by decide)) (g := (mkF m 219 #[iv p1, iv p2, iv p3, iv p4, iv p5, iv (4 : Int32), iv ca, iv cb, iv cc, iv cd, rv b238, rv b258, iv (0 : Int32)] [(.ref b258)])) rfl (by rw [hml]; rfl) (argsL := [(.ref b258)]) (rest := []) (lenOf pdL_2 rfl) rfl (Nat.le_of_eq rfl) (hb hby at_219) (fun _ _ => ⟨rfl, e294, wl rfl, wl rfl⟩)
    dsimp only [Pt.U, Pt.locs, Pt.cells, Pt.slots] at X298 l298 y298 z298 st298 hQ298
    subst l298 y298 z298
    obtain ⟨rfl, N298q, hq298⟩ := hQ298
    have N298 := Fr.app N294 N298q
    have pre299 : Go p e below T298 (mkF m 222 #[iv p1, iv p2, iv p3, iv p4, iv p5, iv (4 : Int32), iv ca, iv cb, iv cc, iv cd, rv b238, rv b258, iv (0 : Int32)] [(.int (0 : Int32))]) s₁ EF := fun t k => pre297 t (st298 t k)
    have e298 : T298.heap = T262.heap := hq298
    have pre300 : Go p e below T298 (mkF m 224 #[iv p1, iv p2, iv p3, iv p4, iv p5, iv (4 : Int32), iv ca, iv cb, iv cc, iv cd, rv b238, rv b258, iv (0 : Int32)] [(.int (0 : Int32)), (.int (0 : Int32))]) s₁ EF := fun t k => pre299 t (by
        refine XS.iload X298.here hx rfl (hb hby at_222) rfl ?_
        exact k)
    have pre301 : Go p e below T298 (mkF m 227 #[iv p1, iv p2, iv p3, iv p4, iv p5, iv (4 : Int32), iv ca, iv cb, iv cc, iv cd, rv b238, rv b258, iv (0 : Int32)] []) s₁ EF := fun t k => pre300 t (XS.icmpNo X298.here hx rfl (hb hby at_224) rfl (teq (by decide : (0 : Int32) = (0 : Int32))).2 k)
    have pre302 : Go p e below T298 (mkF m 232 #[iv p1, iv p2, iv p3, iv p4, iv p5, iv (4 : Int32), iv ca, iv cb, iv cc, iv cd, rv b238, rv b258, iv (0 : Int32)] [(.int (1 : Int32))]) s₁ EF := fun t k => pre301 t (by
        refine XS.iconst X298.here hx rfl (hb hby at_227) ?_
        refine XS.goto X298.here hx rfl (pc0 := 228) (pc' := 232) rfl (hb hby at_228) (by decide) (by decide) ?_
        exact k)
    have hnr : Value.int (nar .boolean (1 : Int32)) = (.int (1 : Int32)) := by rfl
    obtain ⟨fs, hr, hrun, hended, hend1, hend2, hend3, hsame⟩ := X298.leaveW hS0 (by rw [e298]; exact hk264) (v := some (.int (1 : Int32))) (fun h => by rw [Bd.returns] at h; cases h)
    have hCH : CHr Z [("java/lang/String", 7)] s.vm s.heap T298.vm T298.heap := by rw [hh, e298]; exact R264.trans (CHv.at X298 hZ0 (own_EW hw) C264)
    refine ⟨_, _, hEF ▸ pre302 _ (retN X298 hx (t := .boolean) Bd.returns (by simp) (hb hby at_232) (hnr ▸ hr)), hrun, hended, _, _, rfl, ?_, hCH, hend1, hend2, hend3, hsame.mono (by decide) (by decide)⟩
    show QL Z p1 p2 p3 p4 p5 cz fv h0 n0 _ T298.heap _
    rw [e298]
    exact ⟨rfl, N298⟩
  have pre303 : Go p e below T294 (mkF m 196 #[iv p1, iv p2, iv p3, iv p4, iv p5, iv (4 : Int32), iv ca, iv cb, iv cc, iv cd, rv b238, rv b258, .unset] []) s₁ EF := fun t k => pre295 t (XS.ifNo X294.here hx rfl (hb hby at_193) rfl ((if0 _ _).trans (feq hc193).1) k)
  have pre304 : Go p e below T294 (mkF m 199 #[iv p1, iv p2, iv p3, iv p4, iv p5, iv (4 : Int32), iv ca, iv cb, iv cc, iv cd, rv b238, rv b258, .unset] [(.int (4 : Int32)), (.int (4 : Int32))]) s₁ EF := fun t k => pre303 t (by
      refine XS.iload X294.here hx rfl (hb hby at_196) rfl ?_
      refine XS.iconst X294.here hx rfl (hb hby at_198) ?_
      exact k)
  have pre305 : Go p e below T294 (mkF m 202 #[iv p1, iv p2, iv p3, iv p4, iv p5, iv (4 : Int32), iv ca, iv cb, iv cc, iv cd, rv b238, rv b258, .unset] []) s₁ EF := fun t k => pre304 t (XS.icmpNo X294.here hx rfl (hb hby at_199) rfl (flt (by decide : ¬ ((4 : Int32) < (4 : Int32)))).1 k)
  have pre306 : Go p e below T294 (mkF m 204 #[iv p1, iv p2, iv p3, iv p4, iv p5, iv (4 : Int32), iv ca, iv cb, iv cc, iv cd, rv b238, rv b258, .unset] [(.int cd)]) s₁ EF := fun t k => pre305 t (by
      refine XS.iload X294.here hx rfl (hb hby at_202) rfl ?_
      exact k)
  obtain ⟨_, _, ⟨T307, L307, k307, n307⟩, -, X307, ⟨Lc307, hQ307, l307, y307, z307⟩, st307⟩ := Jvm.LawKit.callS X294 hx (y := mN21) hown0 (mvT hZ0 (hw _ (mW 54 rfl))) (mvT hZ0 (hw _ (mW 55 rfl))) (mvT hZ0 (hw _ (mW 3 rfl))) (mvT hZ0 (hw _ (mW 56 rfl))) (by decide) (backOf (W := 0) (rmG l Z a0 hw [] cd (digF cd) T262.heap n0 Z264 rfl) hZ0 (hw _ (mW 56 rfl)) (hw _ (mW 3 rfl)) (by decide) (by decide)) (g := (mkF m 204 #[iv p1, iv p2, iv p3, iv p4, iv p5, iv (4 : Int32), iv ca, iv cb, iv cc, iv cd, rv b238, rv b258, .unset] [(.int cd)])) rfl (by rw [hml]; rfl) (argsL := [(.int cd)]) (rest := []) (lenOf pdL_3 rfl) rfl (Nat.le_of_eq rfl) (hb hby at_204) (fun _ _ => ⟨rfl, e294, wl rfl, wl rfl⟩)
  dsimp only [Pt.U, Pt.locs, Pt.cells, Pt.slots] at X307 l307 y307 z307 st307 hQ307
  subst l307 y307 z307
  obtain ⟨rfl, N307q, hq307⟩ := hQ307
  have N307 := Fr.app N294 N307q
  have pre308 : Go p e below T307 (mkF m 207 #[iv p1, iv p2, iv p3, iv p4, iv p5, iv (4 : Int32), iv ca, iv cb, iv cc, iv cd, rv b238, rv b258, .unset] [(.int (digF cd))]) s₁ EF := fun t k => pre306 t (st307 t k)
  have e307 : T307.heap = T262.heap := hq307
  by_cases hc207 : (digF cd) = (0 : Int32)
  · have pre309 : Go p e below T307 (mkF m 214 #[iv p1, iv p2, iv p3, iv p4, iv p5, iv (4 : Int32), iv ca, iv cb, iv cc, iv cd, rv b238, rv b258, .unset] []) s₁ EF := fun t k => pre308 t (XS.ifYes X307.here hx rfl (pc0 := 207) (pc' := 214) rfl (hb hby at_207) rfl ((if0 _ _).trans (teq hc207).1) (by decide) (by decide) k)
    have pre310 : Go p e below T307 (mkF m 219 #[iv p1, iv p2, iv p3, iv p4, iv p5, iv (4 : Int32), iv ca, iv cb, iv cc, iv cd, rv b238, rv b258, iv (0 : Int32)] [(.ref b258)]) s₁ EF := fun t k => pre309 t (by
        refine XS.iconst X307.here hx rfl (hb hby at_214) ?_
        refine XS.istore X307.here hx rfl (hb hby at_215) rfl (l' := #[iv p1, iv p2, iv p3, iv p4, iv p5, iv (4 : Int32), iv ca, iv cb, iv cc, iv cd, rv b238, rv b258, iv (0 : Int32)]) rfl ?_
        refine XS.aload X307.here hx rfl (hb hby at_217) rfl rfl ?_
        exact k)
    obtain ⟨_, _, ⟨T311, L311, k311, n311⟩, -, X311, ⟨Lc311, hQ311, l311, y311, z311⟩, st311⟩ := Jvm.LawKit.callS X307 hx (y := mN22) hown0 (mvT hZ0 (hw _ (mW 29 rfl))) (mvT hZ0 (hw _ (mW 30 rfl))) (mvT hZ0 (hw _ (mW 31 rfl))) (mvT hZ0 (hw _ (mW 32 rfl))) (by decide) (backOf (W := 0) (rmI4 l Z a0 hw [] b258 cz fv ca cb cc cd (0 : Int32) T262.heap n0 Z264 O264 J0 SF262 (by simp [allD, hc165, hc179, hc193, hc207])) hZ0 (hw _ (mW 32 rfl)) (hw _ (mW 31 rfl)) (by decide) (by decide)) (g := (mkF m 219 #[iv p1, iv p2, iv p3, iv p4, iv p5, iv (4 : Int32), iv ca, iv cb, iv cc, iv cd, rv b238, rv b258, iv (0 : Int32)] [(.ref b258)])) rfl (by rw [hml]; rfl) (argsL := [(.ref b258)]) (rest := []) (lenOf pdL_2 rfl) rfl (Nat.le_of_eq rfl) (hb hby at_219) (fun _ _ => ⟨rfl, e307, wl rfl, wl rfl⟩)
    dsimp only [Pt.U, Pt.locs, Pt.cells, Pt.slots] at X311 l311 y311 z311 st311 hQ311
    subst l311 y311 z311
    obtain ⟨rfl, N311q, hq311⟩ := hQ311
    have N311 := Fr.app N307 N311q
    have pre312 : Go p e below T311 (mkF m 222 #[iv p1, iv p2, iv p3, iv p4, iv p5, iv (4 : Int32), iv ca, iv cb, iv cc, iv cd, rv b238, rv b258, iv (0 : Int32)] [(.int (0 : Int32))]) s₁ EF := fun t k => pre310 t (st311 t k)
    have e311 : T311.heap = T262.heap := hq311
    have pre313 : Go p e below T311 (mkF m 224 #[iv p1, iv p2, iv p3, iv p4, iv p5, iv (4 : Int32), iv ca, iv cb, iv cc, iv cd, rv b238, rv b258, iv (0 : Int32)] [(.int (0 : Int32)), (.int (0 : Int32))]) s₁ EF := fun t k => pre312 t (by
        refine XS.iload X311.here hx rfl (hb hby at_222) rfl ?_
        exact k)
    have pre314 : Go p e below T311 (mkF m 227 #[iv p1, iv p2, iv p3, iv p4, iv p5, iv (4 : Int32), iv ca, iv cb, iv cc, iv cd, rv b238, rv b258, iv (0 : Int32)] []) s₁ EF := fun t k => pre313 t (XS.icmpNo X311.here hx rfl (hb hby at_224) rfl (teq (by decide : (0 : Int32) = (0 : Int32))).2 k)
    have pre315 : Go p e below T311 (mkF m 232 #[iv p1, iv p2, iv p3, iv p4, iv p5, iv (4 : Int32), iv ca, iv cb, iv cc, iv cd, rv b238, rv b258, iv (0 : Int32)] [(.int (1 : Int32))]) s₁ EF := fun t k => pre314 t (by
        refine XS.iconst X311.here hx rfl (hb hby at_227) ?_
        refine XS.goto X311.here hx rfl (pc0 := 228) (pc' := 232) rfl (hb hby at_228) (by decide) (by decide) ?_
        exact k)
    have hnr : Value.int (nar .boolean (1 : Int32)) = (.int (1 : Int32)) := by rfl
    obtain ⟨fs, hr, hrun, hended, hend1, hend2, hend3, hsame⟩ := X311.leaveW hS0 (by rw [e311]; exact hk264) (v := some (.int (1 : Int32))) (fun h => by rw [Bd.returns] at h; cases h)
    have hCH : CHr Z [("java/lang/String", 7)] s.vm s.heap T311.vm T311.heap := by rw [hh, e311]; exact R264.trans (CHv.at X311 hZ0 (own_EW hw) C264)
    refine ⟨_, _, hEF ▸ pre315 _ (retN X311 hx (t := .boolean) Bd.returns (by simp) (hb hby at_232) (hnr ▸ hr)), hrun, hended, _, _, rfl, ?_, hCH, hend1, hend2, hend3, hsame.mono (by decide) (by decide)⟩
    show QL Z p1 p2 p3 p4 p5 cz fv h0 n0 _ T311.heap _
    rw [e311]
    exact ⟨rfl, N311⟩
  have pre316 : Go p e below T307 (mkF m 210 #[iv p1, iv p2, iv p3, iv p4, iv p5, iv (4 : Int32), iv ca, iv cb, iv cc, iv cd, rv b238, rv b258, .unset] []) s₁ EF := fun t k => pre308 t (XS.ifNo X307.here hx rfl (hb hby at_207) rfl ((if0 _ _).trans (feq hc207).1) k)
  have pre317 : Go p e below T307 (mkF m 219 #[iv p1, iv p2, iv p3, iv p4, iv p5, iv (4 : Int32), iv ca, iv cb, iv cc, iv cd, rv b238, rv b258, iv (1 : Int32)] [(.ref b258)]) s₁ EF := fun t k => pre316 t (by
      refine XS.iconst X307.here hx rfl (hb hby at_210) ?_
      refine XS.goto X307.here hx rfl (pc0 := 211) (pc' := 215) rfl (hb hby at_211) (by decide) (by decide) ?_
      refine XS.istore X307.here hx rfl (hb hby at_215) rfl (l' := #[iv p1, iv p2, iv p3, iv p4, iv p5, iv (4 : Int32), iv ca, iv cb, iv cc, iv cd, rv b238, rv b258, iv (1 : Int32)]) rfl ?_
      refine XS.aload X307.here hx rfl (hb hby at_217) rfl rfl ?_
      exact k)
  obtain ⟨_, _, ⟨T318, L318, k318, n318⟩, -, X318, ⟨Lc318, hQ318, l318, y318, z318⟩, st318⟩ := Jvm.LawKit.callS X307 hx (y := mN22) hown0 (mvT hZ0 (hw _ (mW 29 rfl))) (mvT hZ0 (hw _ (mW 30 rfl))) (mvT hZ0 (hw _ (mW 31 rfl))) (mvT hZ0 (hw _ (mW 32 rfl))) (by decide) (backOf (W := 0) (rmI4 l Z a0 hw [] b258 cz fv ca cb cc cd (1 : Int32) T262.heap n0 Z264 O264 J0 SF262 (by simp [allD, hc165, hc179, hc193, hc207])) hZ0 (hw _ (mW 32 rfl)) (hw _ (mW 31 rfl)) (by decide) (by decide)) (g := (mkF m 219 #[iv p1, iv p2, iv p3, iv p4, iv p5, iv (4 : Int32), iv ca, iv cb, iv cc, iv cd, rv b238, rv b258, iv (1 : Int32)] [(.ref b258)])) rfl (by rw [hml]; rfl) (argsL := [(.ref b258)]) (rest := []) (lenOf pdL_2 rfl) rfl (Nat.le_of_eq rfl) (hb hby at_219) (fun _ _ => ⟨rfl, e307, wl rfl, wl rfl⟩)
  dsimp only [Pt.U, Pt.locs, Pt.cells, Pt.slots] at X318 l318 y318 z318 st318 hQ318
  subst l318 y318 z318
  obtain ⟨rfl, N318q, hq318⟩ := hQ318
  have N318 := Fr.app N307 N318q
  have pre319 : Go p e below T318 (mkF m 222 #[iv p1, iv p2, iv p3, iv p4, iv p5, iv (4 : Int32), iv ca, iv cb, iv cc, iv cd, rv b238, rv b258, iv (1 : Int32)] [(.int (1 : Int32))]) s₁ EF := fun t k => pre317 t (st318 t k)
  have e318 : T318.heap = T262.heap := hq318
  have pre320 : Go p e below T318 (mkF m 224 #[iv p1, iv p2, iv p3, iv p4, iv p5, iv (4 : Int32), iv ca, iv cb, iv cc, iv cd, rv b238, rv b258, iv (1 : Int32)] [(.int (1 : Int32)), (.int (1 : Int32))]) s₁ EF := fun t k => pre319 t (by
      refine XS.iload X318.here hx rfl (hb hby at_222) rfl ?_
      exact k)
  have pre321 : Go p e below T318 (mkF m 227 #[iv p1, iv p2, iv p3, iv p4, iv p5, iv (4 : Int32), iv ca, iv cb, iv cc, iv cd, rv b238, rv b258, iv (1 : Int32)] []) s₁ EF := fun t k => pre320 t (XS.icmpNo X318.here hx rfl (hb hby at_224) rfl (teq (by decide : (1 : Int32) = (1 : Int32))).2 k)
  have pre322 : Go p e below T318 (mkF m 232 #[iv p1, iv p2, iv p3, iv p4, iv p5, iv (4 : Int32), iv ca, iv cb, iv cc, iv cd, rv b238, rv b258, iv (1 : Int32)] [(.int (1 : Int32))]) s₁ EF := fun t k => pre321 t (by
      refine XS.iconst X318.here hx rfl (hb hby at_227) ?_
      refine XS.goto X318.here hx rfl (pc0 := 228) (pc' := 232) rfl (hb hby at_228) (by decide) (by decide) ?_
      exact k)
  have hnr : Value.int (nar .boolean (1 : Int32)) = (.int (1 : Int32)) := by rfl
  obtain ⟨fs, hr, hrun, hended, hend1, hend2, hend3, hsame⟩ := X318.leaveW hS0 (by rw [e318]; exact hk264) (v := some (.int (1 : Int32))) (fun h => by rw [Bd.returns] at h; cases h)
  have hCH : CHr Z [("java/lang/String", 7)] s.vm s.heap T318.vm T318.heap := by rw [hh, e318]; exact R264.trans (CHv.at X318 hZ0 (own_EW hw) C264)
  refine ⟨_, _, hEF ▸ pre322 _ (retN X318 hx (t := .boolean) Bd.returns (by simp) (hb hby at_232) (hnr ▸ hr)), hrun, hended, _, _, rfl, ?_, hCH, hend1, hend2, hend3, hsame.mono (by decide) (by decide)⟩
  show QL Z p1 p2 p3 p4 p5 cz fv h0 n0 _ T318.heap _
  rw [e318]
  exact ⟨rfl, N318⟩
theorem own_held {s : State} {tb : Tables} {e : Env} {args : Array Value} (h : call_1_1 tb e args s) : ∀ p ∈ [("java/lang/String", 7)], Jvm.Lit.constHeld s p.1 p.2 := h
set_option maxRecDepth 65536 in
set_option maxHeartbeats 40000000 in
theorem comes_1 {Post : Tables → Env → Array Value → State → Outcome → State → Prop} (hpost : ∀ tb e args s v u, (limb_1_1.after args s (.returned v) u = true ∧ limb_1_2.after args s (.returned v) u = true ∧ True) → ReturnedEndW s (.returned v) u (Jvm.fieldLocs frame_1_writes args s ++ Jvm.arrayLocs frame_1_arrays args s ++ Jvm.staticLocs frame_1_statics s) 24 1152 → Post tb e args s (.returned v) u) :
    ArmFor flags0 classFile x code maxLocals ret World_1 tables_1 room_1 Calls_1 rest_1 Pre_1 Post := by
  intro l hfl _ _ p e ha hc hk s m args below hf hA hF happ hP
  obtain ⟨hcalls, hrest, hpre⟩ := hP
  obtain ⟨-, -, -, hnamed, -, -, -, hat⟩ := (Spec.applies_iff hf).mp happ
  obtain ⟨hg, hn⟩ := and_e (Cond.before_iff.mp (show (Jvm.Cond.and given_1 narrow_1).before args s = true from hpre))
  obtain ⟨hg0, hgr0⟩ := and_e hg
  obtain ⟨hg1, hgr1⟩ := and_e hgr0
  obtain ⟨hg2, hgr2⟩ := and_e hgr1
  obtain ⟨hg3, hgr3⟩ := and_e hgr2
  obtain ⟨hg4, hg5⟩ := and_e hgr3
  obtain ⟨w0, w1, w2, w3, w4, rfl⟩ : ∃ w0 w1 w2 w3 w4 : Value, args = #[w0, w1, w2, w3, w4] := by
    have hs : args.size = 5 := by simpa [Cond.value, given_1] using hg0
    obtain ⟨L⟩ := args
    match L, hs with
    | [w0, w1, w2, w3, w4], _ => exact ⟨w0, w1, w2, w3, w4, rfl⟩
  have hw := fun d (hd : d ∈ tables_1) => atoms_spec (ws := Jvm.Cond.code x code maxLocals ret :: tables_1) hat d (List.mem_cons_of_mem _ hd)
  have hfit : Fit s := fun {y c} hc i hi => by
    obtain ⟨ha, rfl⟩ := Array.getElem?_eq_some_iff.mp hc
    have q := List.all_eq_true.mp ((Array.all_eq_true_iff_forall_mem.mp hF) _ (Array.getElem_mem ha)) i (List.mem_range.mpr hi)
    simpa [Array.getElem?_eq_getElem hi] using q
  obtain ⟨hsets, hown0⟩ := atoms_of _ (rest_1_c_eq ▸ (show rest_1_c.before _ s = true from hrest))
  have hr0 := Cond.before_iff.mp hown0
  obtain ⟨x0, ei0⟩ := is_v hg1
  obtain rfl : w0 = (.int x0) := Option.some.inj ei0
  obtain ⟨x1, ei1⟩ := is_v hg2
  obtain rfl : w1 = (.int x1) := Option.some.inj ei1
  obtain ⟨x2, ei2⟩ := is_v hg3
  obtain rfl : w2 = (.int x2) := Option.some.inj ei2
  obtain ⟨x3, ei3⟩ := is_v hg4
  obtain rfl : w3 = (.int x3) := Option.some.inj ei3
  obtain ⟨x4, ei4⟩ := is_v hg5
  obtain rfl : w4 = (.int x4) := Option.some.inj ei4
  obtain ⟨cz, ecz⟩ := is_v (Cond.before_iff.mp (hsets _ (mJ 1 rfl)))
  have hcz : cz ≠ 0 := gotF (Cond.eq_ints ecz (Term.int_eval 0)) (not_v (Cond.before_iff.mp (hsets _ (mJ 2 rfl))))
  have SC : Sta s s.heap "java/lang/String" "COMPACT_STRINGS" "Z" (.int cz) := Sta.start ecz (Or.inl (hsets _ (mJ 0 rfl)))
  obtain ⟨fv, efv, hfv⟩ := isR_v (Cond.before_iff.mp (hsets _ (mJ 8 rfl)))
  have SF : Sta s s.heap "jdk/internal/util/Preconditions" "SIOOBE_FORMATTER" "Ljava/util/function/BiFunction;" fv := Sta.start efv (Or.inl (hsets _ (mJ 7 rfl)))
  have SU0 : Sta s s.heap "java/lang/StringUTF16" "$assertionsDisabled" "Z" (.int 1) := Sta.start (eqv_i (Term.int_eval 1) (Cond.before_iff.mp (hsets _ (mJ 12 rfl)))) (Or.inl (hsets _ (mJ 11 rfl)))
  have SU1 : Sta s s.heap "java/lang/StringUTF16" "HI_BYTE_SHIFT" "I" (.int 0) := Sta.start (eqv_i (Term.int_eval 0) (Cond.before_iff.mp (hsets _ (mJ 15 rfl)))) (Or.inl (hsets _ (mJ 14 rfl)))
  have SU2 : Sta s s.heap "java/lang/StringUTF16" "LO_BYTE_SHIFT" "I" (.int 8) := Sta.start (eqv_i (Term.int_eval 8) (Cond.before_iff.mp (hsets _ (mJ 18 rfl)))) (Or.inl (hsets _ (mJ 17 rfl)))
  have J0 : Jd s cz fv := ⟨SC, hcz, ⟨hfv, SF⟩, SU0, SU1, SU2, trivial⟩
  have hC : CHv s [("java/lang/String", 7)] s.vm s.heap := CHv.start (own_EW hw) (own_held hcalls.1) (hsets _ (mJ 2 rfl)) (hw _ (mW 22 rfl)) (hw _ (mW 9 rfl))
  obtain ⟨n, o, h1, h2, h3, _, L, rfl, ⟨rfl, N⟩, -, hq⟩ := rmL l s _ hw tables_1 x0 x1 x2 x3 x4 cz fv s.heap s.heap.size (Nat.le_refl _) (Old.start s) J0 p e ha hc hk s m _ below hf ((Spec.applies_iff_loose hf).mp happ).1 ⟨rfl, State.Warmed39.refl s, rfl, hC⟩ trivial
  refine ⟨n, _, h1, h2, h3, hpost _ _ _ _ _ _ ⟨Cond.after_iff.mpr rfl, Cond.after_iff.mpr (eq_i res_at (Term.int_eval (1)) rfl), trivial⟩ ⟨hq.1, hq.2.1, hq.2.2.1, (hq.2.2.2.sift fun y hy => Or.inr (N y hy)).mono (by decide) (by decide)⟩⟩
theorem main_1_1 : Claimed_1_1 := comes_1 fun _ _ _ _ _ _ h hF => ⟨h.1, hF.1, hF.2.1, hF.2.2.1, hF.2.2.2⟩
theorem main_1_2 : Claimed_1_2 := comes_1 fun _ _ _ _ _ _ h hF => ⟨h.2.1, hF.1, hF.2.1, hF.2.2.1, hF.2.2.2⟩
end Jvm.Pilot.@@N@@
namespace Jvm.Pilot.@@N@@
open Jvm Jvm.ClassFile Sem Op Lib Jvm.Free Jvm.Stand Jvm.Pilot.@@N@@.Jvm.D
/-! MADE BY PROGRAM (witnessworld.py) out of the Statement's table words and the real class files: 20 classes; the members and pool entries that the words name. The judged class is class 1, her method 3. -/
namespace start1
open Jvm.ClassFile
def u (s : String) : CpInfo := .utf8 (stringToUtf16 s)
/-- a pool by its gaps: so many unusable entries, then the entry; so many at the end -/
def gap : Nat → List CpInfo → List CpInfo
  | 0, r => r
  | n + 1, r => .unusable :: gap n r
def poolList (es : List (Nat × CpInfo)) (last : Nat) : List CpInfo := es.foldr (fun e r => gap e.1 (e.2 :: r)) (gap last [])
def pool (es : List (Nat × CpInfo)) (last : Nat) : Array CpInfo := ⟨poolList es last⟩
def fileOf (pool : Array CpInfo) (this : Nat) (attrs : Array Attribute := #[]) (ms : Array MethodInfo := #[]) (fl : Nat := 33) (sup : Nat := 0) (ifs : Array Nat := #[]) (fds : Array FieldInfo := #[]) : ClassFile where
  minorVersion := 0
  majorVersion := 65
  constantPool := pool
  accessFlags := fl
  thisClass := this
  superClass := sup
  interfaces := ifs
  fields := fds
  methods := ms
  attributes := attrs
def plain (name : String) (sup : Option ClassId) : Class where
  name := name
  kind := .ordinary
  loader := none
  accessFlags := 33
  super := sup
  interfaces := #[]
  cf := none
  fields := #[]
  methods := #[]
  instanceTypes := #[]
  staticTypes := #[]
  resolved := #[]
  callSites := []
  init := .initialized
  statics := none
  mirror := none

def pool0 : Array CpInfo := pool [(5, u "<init>"), (0, u "()V"), (1, .class_ 10), (1, u "java/lang/Object")] 113

def k0c0 : Code := { maxStack := 0, maxLocals := 1, code := object_method_1_code, exceptionTable := #[], attributes := #[] }
def k0m0 : Method := { name := "<init>", desc := "()V", sig := { parameters := [], returnType := none }, accessFlags := 1, code := some k0c0 }
/-- java/lang/Object -/
def k0 : Class := { plain "java/lang/Object" none with
  accessFlags := 33
  interfaces := #[]
  cf := some (fileOf pool0 8 #[] #[{ accessFlags := 1, nameIndex := 5, descriptorIndex := 6, attributes := #[] }] 33 0 #[] #[])
  fields := #[]
  methods := #[k0m0]
  instanceTypes := #[]
  staticTypes := #[]
  resolved := Array.replicate 124 none
  statics := none }

def pool1 : Array CpInfo := pool [(2, .class_ 4), (1, u "java/lang/Object"), (0, u "<init>"), (0, u "()V"), (0, .integer 65535), (0, .integer 65536), (0, .integer 2147483647), (0, .methodref 11 12), (0, .class_ 13), (0, .nameAndType 14 15), (0, u "com/example/oxpecker/oxpecker/http/UriCharactersIsDigitsPinLaw"), (0, u "draw"), (0, u "(I)C"), (0, .class_ 17), (0, u "java/lang/String"), (0, .methodref 16 19), (0, .nameAndType 5 20), (0, u "([C)V"), (0, .methodref 11 22), (0, .nameAndType 23 24), (0, u "digit"), (0, u "(C)Z"), (0, .methodref 26 27), (0, .class_ 28), (0, .nameAndType 29 30), (0, u "com/example/oxpecker/oxpecker/http/UriCharacters"), (0, u "isDigits"), (0, u "(Ljava/lang/String;)Z"), (3, u "law"), (0, u "(IIIII)Z")] 4

def k1m0 : Method := { name := "<init>", desc := "()V", sig := { parameters := [], returnType := none }, accessFlags := 1, code := none }
def k1c1 : Code := { maxStack := 3, maxLocals := 2, code := method_2_code, exceptionTable := #[], attributes := #[] }
def k1m1 : Method := { name := "draw", desc := "(I)C", sig := { parameters := [.int], returnType := some .char }, accessFlags := 10, code := some k1c1 }
def k1c2 : Code := { maxStack := 2, maxLocals := 1, code := method_3_code, exceptionTable := #[], attributes := #[] }
def k1m2 : Method := { name := "digit", desc := "(C)Z", sig := { parameters := [.char], returnType := some .boolean }, accessFlags := 10, code := some k1c2 }
def k1c3 : Code := { maxStack := 4, maxLocals := 13, code := code, exceptionTable := #[], attributes := #[] }
def k1m3 : Method := { name := "law", desc := "(IIIII)Z", sig := { parameters := [.int, .int, .int, .int, .int], returnType := some .boolean }, accessFlags := 9, code := some k1c3 }
/-- com/example/oxpecker/oxpecker/http/UriCharactersIsDigitsPinLaw -/
def k1 : Class := { plain "com/example/oxpecker/oxpecker/http/UriCharactersIsDigitsPinLaw" (some 0) with
  accessFlags := 49
  interfaces := #[]
  cf := some (fileOf pool1 11 #[] #[{ accessFlags := 1, nameIndex := 5, descriptorIndex := 6, attributes := #[] }, { accessFlags := 10, nameIndex := 14, descriptorIndex := 15, attributes := #[] }, { accessFlags := 10, nameIndex := 23, descriptorIndex := 24, attributes := #[] }, { accessFlags := 9, nameIndex := 34, descriptorIndex := 35, attributes := #[] }] 49 2 #[] #[])
  fields := #[]
  methods := #[k1m0, k1m1, k1m2, k1m3]
  instanceTypes := #[]
  staticTypes := #[]
  resolved := Array.replicate 40 none
  statics := none }

def pool2 : Array CpInfo := pool [(1, .class_ 2), (0, u "java/io/Serializable"), (0, .class_ 4), (0, u "java/lang/Object")] 2

/-- java/io/Serializable -/
def k2 : Class := { plain "java/io/Serializable" (some 0) with
  accessFlags := 1537
  interfaces := #[]
  cf := some (fileOf pool2 1 #[] #[] 1537 3 #[] #[])
  fields := #[]
  methods := #[]
  instanceTypes := #[]
  staticTypes := #[]
  resolved := Array.replicate 7 none
  statics := none }

def pool3 : Array CpInfo := pool [(1, .class_ 2), (0, u "java/lang/Comparable"), (0, .class_ 4), (0, u "java/lang/Object")] 7

/-- java/lang/Comparable -/
def k3 : Class := { plain "java/lang/Comparable" (some 0) with
  accessFlags := 1537
  interfaces := #[]
  cf := some (fileOf pool3 1 #[] #[] 1537 3 #[] #[])
  fields := #[]
  methods := #[]
  instanceTypes := #[]
  staticTypes := #[]
  resolved := Array.replicate 12 none
  statics := none }

def pool4 : Array CpInfo := pool [(2, .class_ 4), (1, u "java/lang/CharSequence"), (42, .class_ 48), (0, u "java/lang/CharSequence$1CodePointIterator"), (10, .class_ 60), (0, u "java/lang/CharSequence$1CharIterator"), (5, .class_ 67), (0, u "java/lang/Object")] 63

/-- java/lang/CharSequence -/
def k4 : Class := { plain "java/lang/CharSequence" (some 0) with
  accessFlags := 1537
  interfaces := #[]
  cf := some (fileOf pool4 2 #[.nestMembers #[47, 59]] #[] 1537 66 #[] #[])
  fields := #[]
  methods := #[]
  instanceTypes := #[]
  staticTypes := #[]
  resolved := Array.replicate 131 none
  statics := none }

def pool5 : Array CpInfo := pool [(1, .class_ 2), (0, u "java/lang/constant/Constable"), (0, .class_ 4), (0, u "java/lang/Object")] 6

/-- java/lang/constant/Constable -/
def k5 : Class := { plain "java/lang/constant/Constable" (some 0) with
  accessFlags := 1537
  interfaces := #[]
  cf := some (fileOf pool5 1 #[] #[] 1537 3 #[] #[])
  fields := #[]
  methods := #[]
  instanceTypes := #[]
  staticTypes := #[]
  resolved := Array.replicate 11 none
  statics := none }

def pool6 : Array CpInfo := pool [(1, .class_ 2), (0, u "java/lang/constant/ConstantDesc"), (0, .class_ 4), (0, u "java/lang/Object")] 32

/-- java/lang/constant/ConstantDesc -/
def k6 : Class := { plain "java/lang/constant/ConstantDesc" (some 0) with
  accessFlags := 1537
  interfaces := #[]
  cf := some (fileOf pool6 1 #[] #[] 1537 3 #[] #[])
  fields := #[]
  methods := #[]
  instanceTypes := #[]
  staticTypes := #[]
  resolved := Array.replicate 37 none
  statics := none }

def pool7 : Array CpInfo := pool [(1, .methodref 2 3), (0, .class_ 4), (0, .nameAndType 5 6), (0, u "java/lang/Object"), (0, u "<init>"), (0, u "()V"), (0, .string 8), (0, u ""), (0, .fieldref 10 11), (0, .class_ 12), (0, .nameAndType 13 14), (0, u "java/lang/String"), (0, u "value"), (0, u "[B"), (0, .fieldref 10 16), (0, .nameAndType 17 18), (0, u "coder"), (0, u "B"), (2, u "hash"), (0, u "I"), (2, u "hashIsZero"), (0, u "Z"), (0, .methodref 10 28), (0, .nameAndType 5 29), (0, u "([CIILjava/lang/Void;)V"), (8, .fieldref 10 39), (0, .nameAndType 40 26), (0, u "COMPACT_STRINGS"), (1, .class_ 44), (1, u "java/lang/StringUTF16"), (0, u "compress"), (1, .methodref 42 48), (0, .nameAndType 49 50), (0, u "coderFromArrayLen"), (0, u "([BI)B"), (56, .class_ 109), (1, u "java/lang/StringLatin1"), (32, u "()Z"), (34, .methodref 42 178), (0, .nameAndType 45 179), (0, u "([CII)[B"), (154, u "()I"), (0, .methodref 10 336), (0, .nameAndType 17 337), (0, u "()B"), (25, u "([BI)C"), (27, u "(II)V"), (35, u "(I)C"), (64, .methodref 10 493), (0, .nameAndType 494 142), (0, u "isLatin1"), (0, .methodref 107 496), (0, .nameAndType 497 363), (0, u "charAt"), (0, .methodref 42 496), (2, u "checkIndex"), (5, u "length"), (67, .class_ 576), (0, u "java/lang/CharSequence"), (22, u "CASE_INSENSITIVE_ORDER"), (0, u "Ljava/util/Comparator;"), (409, u "([C)V"), (42, .fieldref 1054 1055), (0, .class_ 1056), (0, .nameAndType 1057 1058), (0, u "jdk/internal/util/Preconditions"), (0, u "SIOOBE_FORMATTER"), (0, u "Ljava/util/function/BiFunction;"), (0, .methodref 1054 1060), (0, .nameAndType 501 1061), (0, u "(IILjava/util/function/BiFunction;)I"), (39, u "serialPersistentFields"), (0, u "[Ljava/io/ObjectStreamField;"), (0, .class_ 1104), (0, u "java/lang/String$CaseInsensitiveComparator"), (1, .class_ 1107), (0, u "java/io/Serializable"), (0, .class_ 1109), (0, u "java/lang/Comparable"), (0, .class_ 1111), (0, u "java/lang/constant/Constable"), (0, .class_ 1113), (0, u "java/lang/constant/ConstantDesc"), (2, u "serialVersionUID"), (0, u "J"), (3, u "REPL"), (0, u "C"), (2, u "LATIN1"), (1, u "UTF16")] 323

def k7m0 : Method := { name := "<init>", desc := "()V", sig := { parameters := [], returnType := none }, accessFlags := 1, code := none }
def k7c1 : Code := { maxStack := 5, maxLocals := 2, code := jdk_42_method_3_code, exceptionTable := #[], attributes := #[] }
def k7m1 : Method := { name := "<init>", desc := "([C)V", sig := { parameters := [(.array .char)], returnType := none }, accessFlags := 1, code := some k7c1 }
def k7c2 : Code := { maxStack := 2, maxLocals := 1, code := jdk_42_method_54_code, exceptionTable := #[], attributes := #[] }
def k7m2 : Method := { name := "length", desc := "()I", sig := { parameters := [], returnType := some .int }, accessFlags := 1, code := some k7c2 }
def k7c3 : Code := { maxStack := 2, maxLocals := 2, code := jdk_42_method_56_code, exceptionTable := #[], attributes := #[] }
def k7m3 : Method := { name := "charAt", desc := "(I)C", sig := { parameters := [.int], returnType := some .char }, accessFlags := 1, code := some k7c3 }
def k7c4 : Code := { maxStack := 4, maxLocals := 6, code := jdk_42_method_149_code, exceptionTable := #[], attributes := #[] }
def k7m4 : Method := { name := "<init>", desc := "([CIILjava/lang/Void;)V", sig := { parameters := [(.array .char), .int, .int, (.object "java/lang/Void")], returnType := none }, accessFlags := 2, code := some k7c4 }
def k7c5 : Code := { maxStack := 1, maxLocals := 1, code := jdk_42_method_152_code, exceptionTable := #[], attributes := #[] }
def k7m5 : Method := { name := "coder", desc := "()B", sig := { parameters := [], returnType := some .byte }, accessFlags := 0, code := some k7c5 }
def k7c6 : Code := { maxStack := 1, maxLocals := 1, code := jdk_42_method_154_code, exceptionTable := #[], attributes := #[] }
def k7m6 : Method := { name := "isLatin1", desc := "()Z", sig := { parameters := [], returnType := some .boolean }, accessFlags := 0, code := some k7c6 }
def k7c7 : Code := { maxStack := 3, maxLocals := 2, code := jdk_42_method_155_code, exceptionTable := #[], attributes := #[] }
def k7m7 : Method := { name := "checkIndex", desc := "(II)V", sig := { parameters := [.int, .int], returnType := none }, accessFlags := 8, code := some k7c7 }
/-- java/lang/String -/
def k7 : Class := { plain "java/lang/String" (some 0) with
  accessFlags := 49
  interfaces := #[2, 3, 4, 5, 6]
  cf := some (fileOf pool7 10 #[.nestMembers #[1103]] #[{ accessFlags := 1, nameIndex := 5, descriptorIndex := 6, attributes := #[] }, { accessFlags := 1, nameIndex := 5, descriptorIndex := 1010, attributes := #[] }, { accessFlags := 1, nameIndex := 507, descriptorIndex := 334, attributes := #[] }, { accessFlags := 1, nameIndex := 497, descriptorIndex := 427, attributes := #[] }, { accessFlags := 2, nameIndex := 5, descriptorIndex := 29, attributes := #[] }, { accessFlags := 0, nameIndex := 17, descriptorIndex := 337, attributes := #[] }, { accessFlags := 0, nameIndex := 494, descriptorIndex := 142, attributes := #[] }, { accessFlags := 8, nameIndex := 501, descriptorIndex := 391, attributes := #[] }] 49 2 #[1106, 1108, 575, 1110, 1112] #[{ accessFlags := 18, nameIndex := 13, descriptorIndex := 14, attributes := #[] }, { accessFlags := 18, nameIndex := 17, descriptorIndex := 18, attributes := #[] }, { accessFlags := 2, nameIndex := 21, descriptorIndex := 22, attributes := #[] }, { accessFlags := 2, nameIndex := 25, descriptorIndex := 26, attributes := #[] }, { accessFlags := 26, nameIndex := 1116, descriptorIndex := 1117, attributes := #[] }, { accessFlags := 24, nameIndex := 40, descriptorIndex := 26, attributes := #[] }, { accessFlags := 26, nameIndex := 1101, descriptorIndex := 1102, attributes := #[] }, { accessFlags := 26, nameIndex := 1121, descriptorIndex := 1122, attributes := #[] }, { accessFlags := 25, nameIndex := 599, descriptorIndex := 600, attributes := #[] }, { accessFlags := 24, nameIndex := 1125, descriptorIndex := 18, attributes := #[] }, { accessFlags := 24, nameIndex := 1127, descriptorIndex := 18, attributes := #[] }])
  fields := #[{ name := "value", type := (.array .byte), accessFlags := 18, slot := 0, constantValue := 0 }, { name := "coder", type := .byte, accessFlags := 18, slot := 1, constantValue := 0 }, { name := "hash", type := .int, accessFlags := 2, slot := 2, constantValue := 0 }, { name := "hashIsZero", type := .boolean, accessFlags := 2, slot := 3, constantValue := 0 }, { name := "serialVersionUID", type := .long, accessFlags := 26, slot := 0, constantValue := 0 }, { name := "COMPACT_STRINGS", type := .boolean, accessFlags := 24, slot := 1, constantValue := 0 }, { name := "serialPersistentFields", type := (.array (.object "java/io/ObjectStreamField")), accessFlags := 26, slot := 2, constantValue := 0 }, { name := "REPL", type := .char, accessFlags := 26, slot := 3, constantValue := 0 }, { name := "CASE_INSENSITIVE_ORDER", type := (.object "java/util/Comparator"), accessFlags := 25, slot := 4, constantValue := 0 }, { name := "LATIN1", type := .byte, accessFlags := 24, slot := 5, constantValue := 0 }, { name := "UTF16", type := .byte, accessFlags := 24, slot := 6, constantValue := 0 }]
  methods := #[k7m0, k7m1, k7m2, k7m3, k7m4, k7m5, k7m6, k7m7]
  instanceTypes := #[(.array .byte), .byte, .int, .boolean]
  staticTypes := #[.long, .boolean, (.array (.object "java/io/ObjectStreamField")), .char, (.object "java/util/Comparator"), .byte, .byte]
  resolved := Array.replicate 1451 none
  statics := some 0 }

def pool8 : Array CpInfo := pool [(2, .class_ 4), (1, u "java/lang/Object"), (0, u "<init>"), (0, u "()V"), (0, .methodref 8 9), (0, .class_ 10), (0, .nameAndType 11 12), (0, u "java/lang/String"), (0, u "length"), (0, u "()I"), (0, .methodref 8 14), (0, .nameAndType 15 16), (0, u "charAt"), (0, u "(I)C"), (20, .class_ 38), (0, u "com/example/oxpecker/oxpecker/http/UriCharacters"), (6, u "(Ljava/lang/String;)Z"), (0, u "isDigits")] 2

def k8m0 : Method := { name := "<init>", desc := "()V", sig := { parameters := [], returnType := none }, accessFlags := 2, code := none }
def k8c1 : Code := { maxStack := 2, maxLocals := 3, code := prog_23_method_4_code, exceptionTable := #[], attributes := #[] }
def k8m1 : Method := { name := "isDigits", desc := "(Ljava/lang/String;)Z", sig := { parameters := [(.object "java/lang/String")], returnType := some .boolean }, accessFlags := 8, code := some k8c1 }
/-- com/example/oxpecker/oxpecker/http/UriCharacters -/
def k8 : Class := { plain "com/example/oxpecker/oxpecker/http/UriCharacters" (some 0) with
  accessFlags := 48
  interfaces := #[]
  cf := some (fileOf pool8 37 #[] #[{ accessFlags := 2, nameIndex := 5, descriptorIndex := 6, attributes := #[] }, { accessFlags := 8, nameIndex := 46, descriptorIndex := 45, attributes := #[] }] 48 2 #[] #[])
  fields := #[]
  methods := #[k8m0, k8m1]
  instanceTypes := #[]
  staticTypes := #[]
  resolved := Array.replicate 49 none
  statics := none }

def pool9 : Array CpInfo := pool [(3, .class_ 4), (0, u "java/lang/String"), (1, .class_ 8), (1, u "java/lang/Object"), (0, u "<init>"), (0, u "()V"), (0, .methodref 12 13), (0, .class_ 14), (0, .nameAndType 15 16), (0, u "java/lang/StringUTF16"), (0, u "newBytesLength"), (0, u "(I)I"), (3, .integer 1073741823), (23, .fieldref 12 45), (0, .nameAndType 46 47), (0, u "$assertionsDisabled"), (0, u "Z"), (0, .methodref 12 49), (0, .nameAndType 50 51), (0, u "length"), (0, u "([B)I"), (7, .fieldref 12 60), (0, .nameAndType 61 62), (0, u "HI_BYTE_SHIFT"), (0, u "I"), (0, .fieldref 12 64), (0, .nameAndType 65 62), (0, u "LO_BYTE_SHIFT"), (1, .methodref 12 68), (0, .nameAndType 69 70), (0, u "checkIndex"), (0, u "(I[B)V"), (0, .methodref 12 72), (0, .nameAndType 73 74), (0, u "getChar"), (0, u "([BI)C"), (32, .methodref 12 108), (0, .nameAndType 109 110), (0, u "newBytesFor"), (0, u "(I)[B"), (0, .methodref 12 112), (0, .nameAndType 113 114), (0, u "putChar"), (0, u "([BII)V"), (0, .methodref 12 116), (0, .nameAndType 117 118), (0, u "compress"), (0, u "([CI[BII)I"), (0, .methodref 12 120), (0, .nameAndType 121 122), (0, u "toBytes"), (0, u "([CII)[B"), (138, u "coderFromArrayLen"), (0, u "([BI)B"), (106, .class_ 371), (1, u "java/lang/StringUTF16$LinesSpliterator"), (20, u "charAt"), (21, .methodref 3 415), (0, .nameAndType 69 416), (0, u "(II)V"), (13, u "MAX_LENGTH"), (196, .class_ 628), (0, u "java/lang/StringUTF16$CodePointsSpliterator"), (0, .class_ 630), (0, u "java/lang/StringUTF16$CharsSpliterator")] 4

def k9m0 : Method := { name := "<init>", desc := "()V", sig := { parameters := [], returnType := none }, accessFlags := 0, code := none }
def k9c1 : Code := { maxStack := 1, maxLocals := 1, code := jdk_52_method_2_code, exceptionTable := #[], attributes := #[] }
def k9m1 : Method := { name := "newBytesFor", desc := "(I)[B", sig := { parameters := [.int], returnType := some (.array .byte) }, accessFlags := 9, code := some k9c1 }
def k9c2 : Code := { maxStack := 4, maxLocals := 1, code := jdk_52_method_3_code, exceptionTable := #[], attributes := #[] }
def k9m2 : Method := { name := "newBytesLength", desc := "(I)I", sig := { parameters := [.int], returnType := some .int }, accessFlags := 9, code := some k9c2 }
def k9c3 : Code := { maxStack := 4, maxLocals := 3, code := jdk_52_method_4_code, exceptionTable := #[], attributes := #[] }
def k9m3 : Method := { name := "putChar", desc := "([BII)V", sig := { parameters := [(.array .byte), .int, .int], returnType := none }, accessFlags := 8, code := some k9c3 }
def k9c4 : Code := { maxStack := 3, maxLocals := 2, code := jdk_52_method_5_code, exceptionTable := #[], attributes := #[] }
def k9m4 : Method := { name := "getChar", desc := "([BI)C", sig := { parameters := [(.array .byte), .int], returnType := some .char }, accessFlags := 8, code := some k9c4 }
def k9c5 : Code := { maxStack := 2, maxLocals := 1, code := jdk_52_method_6_code, exceptionTable := #[], attributes := #[] }
def k9m5 : Method := { name := "length", desc := "([B)I", sig := { parameters := [(.array .byte)], returnType := some .int }, accessFlags := 9, code := some k9c5 }
def k9c6 : Code := { maxStack := 4, maxLocals := 5, code := jdk_52_method_14_code, exceptionTable := #[], attributes := #[] }
def k9m6 : Method := { name := "toBytes", desc := "([CII)[B", sig := { parameters := [(.array .char), .int, .int], returnType := some (.array .byte) }, accessFlags := 9, code := some k9c6 }
def k9c7 : Code := { maxStack := 2, maxLocals := 2, code := jdk_52_method_15_code, exceptionTable := #[], attributes := #[] }
def k9m7 : Method := { name := "coderFromArrayLen", desc := "([BI)B", sig := { parameters := [(.array .byte), .int], returnType := some .byte }, accessFlags := 8, code := some k9c7 }
def k9c8 : Code := { maxStack := 5, maxLocals := 6, code := jdk_52_method_16_code, exceptionTable := #[], attributes := #[] }
def k9m8 : Method := { name := "compress", desc := "([CII)[B", sig := { parameters := [(.array .char), .int, .int], returnType := some (.array .byte) }, accessFlags := 9, code := some k9c8 }
def k9c9 : Code := { maxStack := 3, maxLocals := 7, code := jdk_52_method_21_code, exceptionTable := #[], attributes := #[] }
def k9m9 : Method := { name := "compress", desc := "([CI[BII)I", sig := { parameters := [(.array .char), .int, (.array .byte), .int, .int], returnType := some .int }, accessFlags := 9, code := some k9c9 }
def k9c10 : Code := { maxStack := 2, maxLocals := 2, code := jdk_52_method_83_code, exceptionTable := #[], attributes := #[] }
def k9m10 : Method := { name := "charAt", desc := "([BI)C", sig := { parameters := [(.array .byte), .int], returnType := some .char }, accessFlags := 9, code := some k9c10 }
def k9c11 : Code := { maxStack := 2, maxLocals := 2, code := jdk_52_method_91_code, exceptionTable := #[], attributes := #[] }
def k9m11 : Method := { name := "checkIndex", desc := "(I[B)V", sig := { parameters := [.int, (.array .byte)], returnType := none }, accessFlags := 9, code := some k9c11 }
/-- java/lang/StringUTF16 -/
def k9 : Class := { plain "java/lang/StringUTF16" (some 0) with
  accessFlags := 48
  interfaces := #[]
  cf := some (fileOf pool9 12 #[.nestMembers #[627, 629, 369]] #[{ accessFlags := 0, nameIndex := 9, descriptorIndex := 10, attributes := #[] }, { accessFlags := 9, nameIndex := 109, descriptorIndex := 110, attributes := #[] }, { accessFlags := 9, nameIndex := 15, descriptorIndex := 16, attributes := #[] }, { accessFlags := 8, nameIndex := 113, descriptorIndex := 114, attributes := #[] }, { accessFlags := 8, nameIndex := 73, descriptorIndex := 74, attributes := #[] }, { accessFlags := 9, nameIndex := 50, descriptorIndex := 51, attributes := #[] }, { accessFlags := 9, nameIndex := 121, descriptorIndex := 122, attributes := #[] }, { accessFlags := 8, nameIndex := 261, descriptorIndex := 262, attributes := #[] }, { accessFlags := 9, nameIndex := 117, descriptorIndex := 122, attributes := #[] }, { accessFlags := 9, nameIndex := 117, descriptorIndex := 118, attributes := #[] }, { accessFlags := 9, nameIndex := 392, descriptorIndex := 74, attributes := #[] }, { accessFlags := 9, nameIndex := 69, descriptorIndex := 70, attributes := #[] }] 48 6 #[] #[{ accessFlags := 26, nameIndex := 61, descriptorIndex := 62, attributes := #[] }, { accessFlags := 26, nameIndex := 65, descriptorIndex := 62, attributes := #[] }, { accessFlags := 24, nameIndex := 430, descriptorIndex := 62, attributes := #[] }, { accessFlags := 4120, nameIndex := 46, descriptorIndex := 47, attributes := #[] }])
  fields := #[{ name := "HI_BYTE_SHIFT", type := .int, accessFlags := 26, slot := 0, constantValue := 0 }, { name := "LO_BYTE_SHIFT", type := .int, accessFlags := 26, slot := 1, constantValue := 0 }, { name := "MAX_LENGTH", type := .int, accessFlags := 24, slot := 2, constantValue := 0 }, { name := "$assertionsDisabled", type := .boolean, accessFlags := 4120, slot := 3, constantValue := 0 }]
  methods := #[k9m0, k9m1, k9m2, k9m3, k9m4, k9m5, k9m6, k9m7, k9m8, k9m9, k9m10, k9m11]
  instanceTypes := #[]
  staticTypes := #[.int, .int, .int, .boolean]
  resolved := Array.replicate 635 none
  statics := some 1 }

def pool10 : Array CpInfo := pool [(1, .class_ 2), (0, u "java/lang/String"), (1, .class_ 6), (1, u "java/lang/Object"), (0, u "<init>"), (0, u "()V"), (0, .methodref 1 10), (0, .nameAndType 11 12), (0, u "checkIndex"), (0, u "(II)V"), (1, .class_ 16), (1, u "java/lang/StringLatin1"), (36, u "([BI)C"), (67, u "$assertionsDisabled"), (0, u "Z"), (98, .class_ 223), (1, u "java/lang/StringLatin1$LinesSpliterator"), (28, u "charAt"), (137, .class_ 391), (0, u "java/lang/StringLatin1$CharsSpliterator")] 3

def k10m0 : Method := { name := "<init>", desc := "()V", sig := { parameters := [], returnType := none }, accessFlags := 0, code := none }
def k10c1 : Code := { maxStack := 2, maxLocals := 2, code := jdk_43_method_2_code, exceptionTable := #[], attributes := #[] }
def k10m1 : Method := { name := "charAt", desc := "([BI)C", sig := { parameters := [(.array .byte), .int], returnType := some .char }, accessFlags := 9, code := some k10c1 }
/-- java/lang/StringLatin1 -/
def k10 : Class := { plain "java/lang/StringLatin1" (some 0) with
  accessFlags := 48
  interfaces := #[]
  cf := some (fileOf pool10 14 #[.nestMembers #[390, 221]] #[{ accessFlags := 0, nameIndex := 7, descriptorIndex := 8, attributes := #[] }, { accessFlags := 9, nameIndex := 252, descriptorIndex := 53, attributes := #[] }] 48 4 #[] #[{ accessFlags := 4120, nameIndex := 121, descriptorIndex := 122, attributes := #[] }])
  fields := #[{ name := "$assertionsDisabled", type := .boolean, accessFlags := 4120, slot := 0, constantValue := 0 }]
  methods := #[k10m0, k10m1]
  instanceTypes := #[]
  staticTypes := #[.boolean]
  resolved := Array.replicate 395 none
  statics := none }

def pool11 : Array CpInfo := pool [(2, .class_ 4), (1, u "java/lang/Object"), (0, u "<init>"), (0, u "()V"), (17, .class_ 26), (1, u "jdk/internal/util/Preconditions"), (6, u "checkIndex"), (21, .class_ 56), (0, u "jdk/internal/util/Preconditions$4"), (57, .class_ 115), (0, u "jdk/internal/util/Preconditions$1"), (7, u "SIOOBE_FORMATTER"), (0, u "Ljava/util/function/BiFunction;"), (0, .class_ 126), (0, u "jdk/internal/util/Preconditions$2"), (3, u "AIOOBE_FORMATTER"), (0, .class_ 132), (0, u "jdk/internal/util/Preconditions$3"), (3, u "IOOBE_FORMATTER"), (41, u "(IILjava/util/function/BiFunction;)I")] 15

def k11m0 : Method := { name := "<init>", desc := "()V", sig := { parameters := [], returnType := none }, accessFlags := 1, code := none }
def k11c1 : Code := { maxStack := 3, maxLocals := 3, code := jdk_41_method_11_code, exceptionTable := #[], attributes := #[] }
def k11m1 : Method := { name := "checkIndex", desc := "(IILjava/util/function/BiFunction;)I", sig := { parameters := [.int, .int, (.object "java/util/function/BiFunction")], returnType := some .int }, accessFlags := 9, code := some k11c1 }
/-- jdk/internal/util/Preconditions -/
def k11 : Class := { plain "jdk/internal/util/Preconditions" (some 0) with
  accessFlags := 33
  interfaces := #[]
  cf := some (fileOf pool11 24 #[.nestMembers #[55, 131, 125, 114]] #[{ accessFlags := 1, nameIndex := 5, descriptorIndex := 6, attributes := #[] }, { accessFlags := 9, nameIndex := 33, descriptorIndex := 178, attributes := #[] }] 33 2 #[] #[{ accessFlags := 25, nameIndex := 123, descriptorIndex := 124, attributes := #[] }, { accessFlags := 25, nameIndex := 130, descriptorIndex := 124, attributes := #[] }, { accessFlags := 25, nameIndex := 136, descriptorIndex := 124, attributes := #[] }])
  fields := #[{ name := "SIOOBE_FORMATTER", type := (.object "java/util/function/BiFunction"), accessFlags := 25, slot := 0, constantValue := 0 }, { name := "AIOOBE_FORMATTER", type := (.object "java/util/function/BiFunction"), accessFlags := 25, slot := 1, constantValue := 0 }, { name := "IOOBE_FORMATTER", type := (.object "java/util/function/BiFunction"), accessFlags := 25, slot := 2, constantValue := 0 }]
  methods := #[k11m0, k11m1]
  instanceTypes := #[]
  staticTypes := #[(.object "java/util/function/BiFunction"), (.object "java/util/function/BiFunction"), (.object "java/util/function/BiFunction")]
  resolved := Array.replicate 194 none
  statics := some 2 }

def pool12 : Array CpInfo := pool [(9, u "<init>"), (6, .class_ 18), (1, u "java/lang/Object"), (0, u "()V"), (1, .class_ 23), (1, u "jdk/internal/util/ArraysSupport"), (0, u "LOG2_ARRAY_LONG_INDEX_SCALE"), (0, u "I"), (2, u "U"), (0, u "Ljdk/internal/misc/Unsafe;"), (8, u "BIG_ENDIAN"), (0, u "Z"), (8, u "LOG2_BYTE_BIT_SIZE"), (4, u "LOG2_ARRAY_INT_INDEX_SCALE"), (54, u "JLA"), (0, u "Ljdk/internal/access/JavaLangAccess;"), (11, u "LOG2_ARRAY_BOOLEAN_INDEX_SCALE"), (9, u "LOG2_ARRAY_BYTE_INDEX_SCALE"), (5, u "LOG2_ARRAY_CHAR_INDEX_SCALE"), (5, u "LOG2_ARRAY_SHORT_INDEX_SCALE"), (18, u "LOG2_ARRAY_FLOAT_INDEX_SCALE"), (24, u "LOG2_ARRAY_DOUBLE_INDEX_SCALE"), (89, u "T_BOOLEAN"), (2, u "T_CHAR"), (1, u "T_FLOAT"), (1, u "T_DOUBLE"), (1, u "T_BYTE"), (1, u "T_SHORT"), (1, u "T_INT"), (1, u "T_LONG"), (1, u "SOFT_MAX_ARRAY_LENGTH")] 83

def k12m0 : Method := { name := "<init>", desc := "()V", sig := { parameters := [], returnType := none }, accessFlags := 2, code := none }
/-- jdk/internal/util/ArraysSupport -/
def k12 : Class := { plain "jdk/internal/util/ArraysSupport" (some 0) with
  accessFlags := 33
  interfaces := #[]
  cf := some (fileOf pool12 21 #[] #[{ accessFlags := 2, nameIndex := 9, descriptorIndex := 19, attributes := #[] }] 33 16 #[] #[{ accessFlags := 24, nameIndex := 28, descriptorIndex := 29, attributes := #[] }, { accessFlags := 26, nameIndex := 38, descriptorIndex := 39, attributes := #[] }, { accessFlags := 25, nameIndex := 121, descriptorIndex := 25, attributes := #[] }, { accessFlags := 25, nameIndex := 131, descriptorIndex := 25, attributes := #[] }, { accessFlags := 25, nameIndex := 137, descriptorIndex := 25, attributes := #[] }, { accessFlags := 25, nameIndex := 143, descriptorIndex := 25, attributes := #[] }, { accessFlags := 25, nameIndex := 53, descriptorIndex := 25, attributes := #[] }, { accessFlags := 25, nameIndex := 24, descriptorIndex := 25, attributes := #[] }, { accessFlags := 25, nameIndex := 162, descriptorIndex := 25, attributes := #[] }, { accessFlags := 25, nameIndex := 187, descriptorIndex := 25, attributes := #[] }, { accessFlags := 26, nameIndex := 48, descriptorIndex := 25, attributes := #[] }, { accessFlags := 25, nameIndex := 277, descriptorIndex := 25, attributes := #[] }, { accessFlags := 25, nameIndex := 280, descriptorIndex := 25, attributes := #[] }, { accessFlags := 25, nameIndex := 282, descriptorIndex := 25, attributes := #[] }, { accessFlags := 25, nameIndex := 284, descriptorIndex := 25, attributes := #[] }, { accessFlags := 25, nameIndex := 286, descriptorIndex := 25, attributes := #[] }, { accessFlags := 25, nameIndex := 288, descriptorIndex := 25, attributes := #[] }, { accessFlags := 25, nameIndex := 290, descriptorIndex := 25, attributes := #[] }, { accessFlags := 25, nameIndex := 292, descriptorIndex := 25, attributes := #[] }, { accessFlags := 26, nameIndex := 108, descriptorIndex := 109, attributes := #[] }, { accessFlags := 25, nameIndex := 294, descriptorIndex := 25, attributes := #[] }])
  fields := #[{ name := "U", type := (.object "jdk/internal/misc/Unsafe"), accessFlags := 24, slot := 0, constantValue := 0 }, { name := "BIG_ENDIAN", type := .boolean, accessFlags := 26, slot := 1, constantValue := 0 }, { name := "LOG2_ARRAY_BOOLEAN_INDEX_SCALE", type := .int, accessFlags := 25, slot := 2, constantValue := 0 }, { name := "LOG2_ARRAY_BYTE_INDEX_SCALE", type := .int, accessFlags := 25, slot := 3, constantValue := 0 }, { name := "LOG2_ARRAY_CHAR_INDEX_SCALE", type := .int, accessFlags := 25, slot := 4, constantValue := 0 }, { name := "LOG2_ARRAY_SHORT_INDEX_SCALE", type := .int, accessFlags := 25, slot := 5, constantValue := 0 }, { name := "LOG2_ARRAY_INT_INDEX_SCALE", type := .int, accessFlags := 25, slot := 6, constantValue := 0 }, { name := "LOG2_ARRAY_LONG_INDEX_SCALE", type := .int, accessFlags := 25, slot := 7, constantValue := 0 }, { name := "LOG2_ARRAY_FLOAT_INDEX_SCALE", type := .int, accessFlags := 25, slot := 8, constantValue := 0 }, { name := "LOG2_ARRAY_DOUBLE_INDEX_SCALE", type := .int, accessFlags := 25, slot := 9, constantValue := 0 }, { name := "LOG2_BYTE_BIT_SIZE", type := .int, accessFlags := 26, slot := 10, constantValue := 0 }, { name := "T_BOOLEAN", type := .int, accessFlags := 25, slot := 11, constantValue := 0 }, { name := "T_CHAR", type := .int, accessFlags := 25, slot := 12, constantValue := 0 }, { name := "T_FLOAT", type := .int, accessFlags := 25, slot := 13, constantValue := 0 }, { name := "T_DOUBLE", type := .int, accessFlags := 25, slot := 14, constantValue := 0 }, { name := "T_BYTE", type := .int, accessFlags := 25, slot := 15, constantValue := 0 }, { name := "T_SHORT", type := .int, accessFlags := 25, slot := 16, constantValue := 0 }, { name := "T_INT", type := .int, accessFlags := 25, slot := 17, constantValue := 0 }, { name := "T_LONG", type := .int, accessFlags := 25, slot := 18, constantValue := 0 }, { name := "JLA", type := (.object "jdk/internal/access/JavaLangAccess"), accessFlags := 26, slot := 19, constantValue := 0 }, { name := "SOFT_MAX_ARRAY_LENGTH", type := .int, accessFlags := 25, slot := 20, constantValue := 0 }]
  methods := #[k12m0]
  instanceTypes := #[]
  staticTypes := #[(.object "jdk/internal/misc/Unsafe"), .boolean, .int, .int, .int, .int, .int, .int, .int, .int, .int, .int, .int, .int, .int, .int, .int, .int, .int, (.object "jdk/internal/access/JavaLangAccess"), .int]
  resolved := Array.replicate 378 none
  statics := none }

def pool13 : Array CpInfo := pool [(1, u "java/lang/Cloneable"), (0, .class_ 1), (0, u "java/lang/Object"), (0, .class_ 3)] 3

/-- java/lang/Cloneable -/
def k13 : Class := { plain "java/lang/Cloneable" (some 0) with
  accessFlags := 1537
  interfaces := #[]
  cf := some (fileOf pool13 2 #[] #[] 1537 4 #[] #[])
  fields := #[]
  methods := #[]
  instanceTypes := #[]
  staticTypes := #[]
  resolved := Array.replicate 8 none
  statics := none }

/-- the primitive byte -/
def k14 : Class := { plain "byte" none with kind := .primitive 'B', accessFlags := 0x411 }
/-- [B -/
def k15 : Class := { plain "[B" (some 0) with kind := .array 14 .byte, interfaces := #[13, 2], accessFlags := 1041 }

/-- the primitive char -/
def k16 : Class := { plain "char" none with kind := .primitive 'C', accessFlags := 0x411 }
/-- [C -/
def k17 : Class := { plain "[C" (some 0) with kind := .array 16 .char, interfaces := #[13, 2], accessFlags := 1041 }

/-- the primitive int -/
def k18 : Class := { plain "int" none with kind := .primitive 'I', accessFlags := 0x411 }
/-- [I -/
def k19 : Class := { plain "[I" (some 0) with kind := .array 18 .int, interfaces := #[13, 2], accessFlags := 1041 }

def heap : Heap := #[{ cls := 7, slots := #[.long 0, .int 1, .null, .int 0, .null, .int 0, .int 0], vm := .statics 7 },
  { cls := 9, slots := #[.int 0, .int 8, .int 0, .int 1], vm := .statics 9 },
  { cls := 11, slots := #[.null, .null, .null], vm := .statics 11 }]
def classes : Array Class := #[k0, k1, k2, k3, k4, k5, k6, k7, k8, k9, k10, k11, k12, k13, k14, k15, k16, k17, k18, k19]
def interned : List (Array UInt16 × Addr) := []
def slotsUsed : Nat := 14
def theMethod : MethodId := ⟨1, 3⟩
def args0 : Array Value := #[.int 5, .int 7, .int 9, .int 11, .int 13]
def aboutOver (below : List Frame) : State where
  vm := { classes := classes, interned := interned.toArray }
  heap := heap
  slotsUsed := slotsUsed
  threads := #[{ frames := .invoking theMethod args0 :: below }]
def below0 : List Frame := [.native { method := ⟨0, 0⟩, args := #[] }]
def about1 : State := aboutOver below0
def p0 : Program := .bare "" "" ""
def e0 : Env := launch0.env 0 0 0
theorem w_frames : about1.frames = Frame.invoking theMethod args0 :: below0 := rfl
set_option maxRecDepth 65536 in
theorem w_args : argsFit about1.vm theMethod args0 = true := by decide +kernel
set_option maxRecDepth 65536 in
theorem w_heap : heapFits about1 = true := by decide +kernel
set_option maxRecDepth 65536 in
theorem w_runnable : about1.curStatus? = some .runnable := by decide +kernel
set_option maxRecDepth 65536 in
theorem w_alone : about1.alone = true := by decide +kernel
set_option maxRecDepth 65536 in
theorem w_named : about1.methodNamed? x = some theMethod := by decide +kernel
set_option maxRecDepth 65536 in
theorem w_hears : about1.hears theMethod below0 = true := by decide +kernel
set_option maxRecDepth 65536 in
theorem w_ripe : about1.ripe theMethod args0 below0 = true := by decide +kernel
theorem w_running : about1.status = .running := rfl
set_option maxRecDepth 65536 in
theorem w_room : about1.hasRoom e0.platform room_1 = true :=
  launch0.hasRoom_least _ room_1 (by decide +kernel) (by decide +kernel) (by decide +kernel) (by decide +kernel) (by decide +kernel) (by decide +kernel)
theorem allAtoms_all (ts : List Jvm.Cond) (a : Array Jvm.Value) (st : Jvm.State) : (allAtoms ts).before a st = ts.all (fun c => c.before a st) := by
  induction ts with
  | nil => rfl
  | cons c t ih =>
    show (Jvm.Cond.and c (allAtoms t)).before a st = _
    rw [Jvm.Cond.before_and, ih, List.all_cons]
def words1 : List Jvm.Cond := Jvm.Cond.code x code maxLocals ret :: tables_1
/-- a 'code' word, met by the world's own term for the bytes: nothing is compared byte by byte -/
theorem code_word {y : MethodName} {bytes : ByteArray} {mx : Nat} {rt : Option FieldType} {a : Array Value} {s : State} {m : MethodId} {meth : Method} {c : Code} (h1 : s.methodNamed? y = some m) (h2 : s.vm.method? m = some meth) (h3 : meth.code = some c) (h4 : c.code = bytes)
    (h5 : (c.maxLocals == mx && c.exceptionTable.isEmpty && decide (c.maxStack ≤ mostOperands) && decide (meth.sig.returnType = rt) && !meth.locks && decide (parseMethodDescriptor y.desc = some meth.sig)) = true) : (Jvm.Cond.code y bytes mx rt).before a s = true := by
  simp only [Bool.and_eq_true, beq_iff_eq, Bool.not_eq_true', decide_eq_true_eq] at h5
  obtain ⟨⟨⟨⟨⟨g1, g2⟩, g3⟩, g4⟩, g5⟩, g6⟩ := h5
  simp [Cond.before, Cond.holds, Cond.value, h1, h2, h3, h4, g1, g2, g3, g4, g5, g6]
def isCode : Jvm.Cond → Bool
  | .code _ _ _ _ => true
  | _ => false
theorem all_split {L : List Jvm.Cond} {P : Jvm.Cond → Bool} (h1 : L.all (fun c => isCode c || P c) = true) (h2 : ∀ c ∈ L.filter isCode, P c = true) : L.all P = true := by
  refine List.all_eq_true.mpr fun c hc => ?_
  have h := List.all_eq_true.mp h1 c hc
  rcases Bool.eq_false_or_eq_true (isCode c) with hi | hi
  · exact h2 c (List.mem_filter.mpr ⟨hc, hi⟩)
  · simpa [hi] using h
set_option maxRecDepth 65536 in
theorem w_c0 : (Jvm.Cond.code x code maxLocals ret).before args0 about1 = true := code_word (m := ⟨1, 3⟩) (meth := k1m3) (c := k1c3) (by decide +kernel) rfl rfl rfl (by decide +kernel)
set_option maxRecDepth 65536 in
theorem w_c1 : (Jvm.Cond.code ({ cls := "com/example/oxpecker/oxpecker/http/UriCharactersIsDigitsPinLaw", name := "draw", desc := "(I)C" } : Jvm.MethodName) method_2_code (2 : Nat) (Option.some Jvm.ClassFile.FieldType.char)).before args0 about1 = true := code_word (m := ⟨1, 1⟩) (meth := k1m1) (c := k1c1) (by decide +kernel) rfl rfl rfl (by decide +kernel)
set_option maxRecDepth 65536 in
theorem w_c2 : (Jvm.Cond.code ({ cls := "java/lang/String", name := "<init>", desc := "([C)V" } : Jvm.MethodName) jdk_42_method_3_code (2 : Nat) (Option.none : Option Jvm.ClassFile.FieldType)).before args0 about1 = true := code_word (m := ⟨7, 1⟩) (meth := k7m1) (c := k7c1) (by decide +kernel) rfl rfl rfl (by decide +kernel)
set_option maxRecDepth 65536 in
theorem w_c3 : (Jvm.Cond.code ({ cls := "java/lang/String", name := "<init>", desc := "([CIILjava/lang/Void;)V" } : Jvm.MethodName) jdk_42_method_149_code (6 : Nat) (Option.none : Option Jvm.ClassFile.FieldType)).before args0 about1 = true := code_word (m := ⟨7, 4⟩) (meth := k7m4) (c := k7c4) (by decide +kernel) rfl rfl rfl (by decide +kernel)
set_option maxRecDepth 65536 in
theorem w_c4 : (Jvm.Cond.code ({ cls := "java/lang/Object", name := "<init>", desc := "()V" } : Jvm.MethodName) object_method_1_code (1 : Nat) (Option.none : Option Jvm.ClassFile.FieldType)).before args0 about1 = true := code_word (m := ⟨0, 0⟩) (meth := k0m0) (c := k0c0) (by decide +kernel) rfl rfl rfl (by decide +kernel)
set_option maxRecDepth 65536 in
theorem w_c5 : (Jvm.Cond.code ({ cls := "com/example/oxpecker/oxpecker/http/UriCharacters", name := "isDigits", desc := "(Ljava/lang/String;)Z" } : Jvm.MethodName) prog_23_method_4_code (3 : Nat) (Option.some Jvm.ClassFile.FieldType.boolean)).before args0 about1 = true := code_word (m := ⟨8, 1⟩) (meth := k8m1) (c := k8c1) (by decide +kernel) rfl rfl rfl (by decide +kernel)
set_option maxRecDepth 65536 in
theorem w_c6 : (Jvm.Cond.code ({ cls := "java/lang/String", name := "length", desc := "()I" } : Jvm.MethodName) jdk_42_method_54_code (1 : Nat) (Option.some Jvm.ClassFile.FieldType.int)).before args0 about1 = true := code_word (m := ⟨7, 2⟩) (meth := k7m2) (c := k7c2) (by decide +kernel) rfl rfl rfl (by decide +kernel)
set_option maxRecDepth 65536 in
theorem w_c7 : (Jvm.Cond.code ({ cls := "java/lang/String", name := "coder", desc := "()B" } : Jvm.MethodName) jdk_42_method_152_code (1 : Nat) (Option.some Jvm.ClassFile.FieldType.byte)).before args0 about1 = true := code_word (m := ⟨7, 5⟩) (meth := k7m5) (c := k7c5) (by decide +kernel) rfl rfl rfl (by decide +kernel)
set_option maxRecDepth 65536 in
theorem w_c8 : (Jvm.Cond.code ({ cls := "java/lang/StringUTF16", name := "compress", desc := "([CII)[B" } : Jvm.MethodName) jdk_52_method_16_code (6 : Nat) (Option.some (Jvm.ClassFile.FieldType.array Jvm.ClassFile.FieldType.byte))).before args0 about1 = true := code_word (m := ⟨9, 8⟩) (meth := k9m8) (c := k9c8) (by decide +kernel) rfl rfl rfl (by decide +kernel)
set_option maxRecDepth 65536 in
theorem w_c9 : (Jvm.Cond.code ({ cls := "java/lang/StringUTF16", name := "compress", desc := "([CI[BII)I" } : Jvm.MethodName) jdk_52_method_21_code (7 : Nat) (Option.some Jvm.ClassFile.FieldType.int)).before args0 about1 = true := code_word (m := ⟨9, 9⟩) (meth := k9m9) (c := k9c9) (by decide +kernel) rfl rfl rfl (by decide +kernel)
set_option maxRecDepth 65536 in
theorem w_c10 : (Jvm.Cond.code ({ cls := "java/lang/StringUTF16", name := "coderFromArrayLen", desc := "([BI)B" } : Jvm.MethodName) jdk_52_method_15_code (2 : Nat) (Option.some Jvm.ClassFile.FieldType.byte)).before args0 about1 = true := code_word (m := ⟨9, 7⟩) (meth := k9m7) (c := k9c7) (by decide +kernel) rfl rfl rfl (by decide +kernel)
set_option maxRecDepth 65536 in
theorem w_c11 : (Jvm.Cond.code ({ cls := "com/example/oxpecker/oxpecker/http/UriCharactersIsDigitsPinLaw", name := "digit", desc := "(C)Z" } : Jvm.MethodName) method_3_code (1 : Nat) (Option.some Jvm.ClassFile.FieldType.boolean)).before args0 about1 = true := code_word (m := ⟨1, 2⟩) (meth := k1m2) (c := k1c2) (by decide +kernel) rfl rfl rfl (by decide +kernel)
set_option maxRecDepth 65536 in
theorem w_c12 : (Jvm.Cond.code ({ cls := "java/lang/String", name := "charAt", desc := "(I)C" } : Jvm.MethodName) jdk_42_method_56_code (2 : Nat) (Option.some Jvm.ClassFile.FieldType.char)).before args0 about1 = true := code_word (m := ⟨7, 3⟩) (meth := k7m3) (c := k7c3) (by decide +kernel) rfl rfl rfl (by decide +kernel)
set_option maxRecDepth 65536 in
theorem w_c13 : (Jvm.Cond.code ({ cls := "java/lang/String", name := "isLatin1", desc := "()Z" } : Jvm.MethodName) jdk_42_method_154_code (1 : Nat) (Option.some Jvm.ClassFile.FieldType.boolean)).before args0 about1 = true := code_word (m := ⟨7, 6⟩) (meth := k7m6) (c := k7c6) (by decide +kernel) rfl rfl rfl (by decide +kernel)
set_option maxRecDepth 65536 in
theorem w_c14 : (Jvm.Cond.code ({ cls := "java/lang/StringLatin1", name := "charAt", desc := "([BI)C" } : Jvm.MethodName) jdk_43_method_2_code (2 : Nat) (Option.some Jvm.ClassFile.FieldType.char)).before args0 about1 = true := code_word (m := ⟨10, 1⟩) (meth := k10m1) (c := k10c1) (by decide +kernel) rfl rfl rfl (by decide +kernel)
set_option maxRecDepth 65536 in
theorem w_c15 : (Jvm.Cond.code ({ cls := "java/lang/String", name := "checkIndex", desc := "(II)V" } : Jvm.MethodName) jdk_42_method_155_code (2 : Nat) (Option.none : Option Jvm.ClassFile.FieldType)).before args0 about1 = true := code_word (m := ⟨7, 7⟩) (meth := k7m7) (c := k7c7) (by decide +kernel) rfl rfl rfl (by decide +kernel)
set_option maxRecDepth 65536 in
theorem w_c16 : (Jvm.Cond.code ({ cls := "jdk/internal/util/Preconditions", name := "checkIndex", desc := "(IILjava/util/function/BiFunction;)I" } : Jvm.MethodName) jdk_41_method_11_code (3 : Nat) (Option.some Jvm.ClassFile.FieldType.int)).before args0 about1 = true := code_word (m := ⟨11, 1⟩) (meth := k11m1) (c := k11c1) (by decide +kernel) rfl rfl rfl (by decide +kernel)
set_option maxRecDepth 65536 in
theorem w_c17 : (Jvm.Cond.code ({ cls := "java/lang/StringUTF16", name := "toBytes", desc := "([CII)[B" } : Jvm.MethodName) jdk_52_method_14_code (5 : Nat) (Option.some (Jvm.ClassFile.FieldType.array Jvm.ClassFile.FieldType.byte))).before args0 about1 = true := code_word (m := ⟨9, 6⟩) (meth := k9m6) (c := k9c6) (by decide +kernel) rfl rfl rfl (by decide +kernel)
set_option maxRecDepth 65536 in
theorem w_c18 : (Jvm.Cond.code ({ cls := "java/lang/StringUTF16", name := "newBytesFor", desc := "(I)[B" } : Jvm.MethodName) jdk_52_method_2_code (1 : Nat) (Option.some (Jvm.ClassFile.FieldType.array Jvm.ClassFile.FieldType.byte))).before args0 about1 = true := code_word (m := ⟨9, 1⟩) (meth := k9m1) (c := k9c1) (by decide +kernel) rfl rfl rfl (by decide +kernel)
set_option maxRecDepth 65536 in
theorem w_c19 : (Jvm.Cond.code ({ cls := "java/lang/StringUTF16", name := "newBytesLength", desc := "(I)I" } : Jvm.MethodName) jdk_52_method_3_code (1 : Nat) (Option.some Jvm.ClassFile.FieldType.int)).before args0 about1 = true := code_word (m := ⟨9, 2⟩) (meth := k9m2) (c := k9c2) (by decide +kernel) rfl rfl rfl (by decide +kernel)
set_option maxRecDepth 65536 in
theorem w_c20 : (Jvm.Cond.code ({ cls := "java/lang/StringUTF16", name := "putChar", desc := "([BII)V" } : Jvm.MethodName) jdk_52_method_4_code (3 : Nat) (Option.none : Option Jvm.ClassFile.FieldType)).before args0 about1 = true := code_word (m := ⟨9, 3⟩) (meth := k9m3) (c := k9c3) (by decide +kernel) rfl rfl rfl (by decide +kernel)
set_option maxRecDepth 65536 in
theorem w_c21 : (Jvm.Cond.code ({ cls := "java/lang/StringUTF16", name := "getChar", desc := "([BI)C" } : Jvm.MethodName) jdk_52_method_5_code (2 : Nat) (Option.some Jvm.ClassFile.FieldType.char)).before args0 about1 = true := code_word (m := ⟨9, 4⟩) (meth := k9m4) (c := k9c4) (by decide +kernel) rfl rfl rfl (by decide +kernel)
set_option maxRecDepth 65536 in
theorem w_c22 : (Jvm.Cond.code ({ cls := "java/lang/StringUTF16", name := "charAt", desc := "([BI)C" } : Jvm.MethodName) jdk_52_method_83_code (2 : Nat) (Option.some Jvm.ClassFile.FieldType.char)).before args0 about1 = true := code_word (m := ⟨9, 10⟩) (meth := k9m10) (c := k9c10) (by decide +kernel) rfl rfl rfl (by decide +kernel)
set_option maxRecDepth 65536 in
theorem w_c23 : (Jvm.Cond.code ({ cls := "java/lang/StringUTF16", name := "checkIndex", desc := "(I[B)V" } : Jvm.MethodName) jdk_52_method_91_code (2 : Nat) (Option.none : Option Jvm.ClassFile.FieldType)).before args0 about1 = true := code_word (m := ⟨9, 11⟩) (meth := k9m11) (c := k9c11) (by decide +kernel) rfl rfl rfl (by decide +kernel)
set_option maxRecDepth 65536 in
theorem w_c24 : (Jvm.Cond.code ({ cls := "java/lang/StringUTF16", name := "length", desc := "([B)I" } : Jvm.MethodName) jdk_52_method_6_code (1 : Nat) (Option.some Jvm.ClassFile.FieldType.int)).before args0 about1 = true := code_word (m := ⟨9, 5⟩) (meth := k9m5) (c := k9c5) (by decide +kernel) rfl rfl rfl (by decide +kernel)
def codes1 : List Jvm.Cond := [Jvm.Cond.code x code maxLocals ret, Jvm.Cond.code ({ cls := "com/example/oxpecker/oxpecker/http/UriCharactersIsDigitsPinLaw", name := "draw", desc := "(I)C" } : Jvm.MethodName) method_2_code (2 : Nat) (Option.some Jvm.ClassFile.FieldType.char), Jvm.Cond.code ({ cls := "java/lang/String", name := "<init>", desc := "([C)V" } : Jvm.MethodName) jdk_42_method_3_code (2 : Nat) (Option.none : Option Jvm.ClassFile.FieldType), Jvm.Cond.code ({ cls := "java/lang/String", name := "<init>", desc := "([CIILjava/lang/Void;)V" } : Jvm.MethodName) jdk_42_method_149_code (6 : Nat) (Option.none : Option Jvm.ClassFile.FieldType), Jvm.Cond.code ({ cls := "java/lang/Object", name := "<init>", desc := "()V" } : Jvm.MethodName) object_method_1_code (1 : Nat) (Option.none : Option Jvm.ClassFile.FieldType), Jvm.Cond.code ({ cls := "com/example/oxpecker/oxpecker/http/UriCharacters", name := "isDigits", desc := "(Ljava/lang/String;)Z" } : Jvm.MethodName) prog_23_method_4_code (3 : Nat) (Option.some Jvm.ClassFile.FieldType.boolean), Jvm.Cond.code ({ cls := "java/lang/String", name := "length", desc := "()I" } : Jvm.MethodName) jdk_42_method_54_code (1 : Nat) (Option.some Jvm.ClassFile.FieldType.int), Jvm.Cond.code ({ cls := "java/lang/String", name := "coder", desc := "()B" } : Jvm.MethodName) jdk_42_method_152_code (1 : Nat) (Option.some Jvm.ClassFile.FieldType.byte), Jvm.Cond.code ({ cls := "java/lang/StringUTF16", name := "compress", desc := "([CII)[B" } : Jvm.MethodName) jdk_52_method_16_code (6 : Nat) (Option.some (Jvm.ClassFile.FieldType.array Jvm.ClassFile.FieldType.byte)), Jvm.Cond.code ({ cls := "java/lang/StringUTF16", name := "compress", desc := "([CI[BII)I" } : Jvm.MethodName) jdk_52_method_21_code (7 : Nat) (Option.some Jvm.ClassFile.FieldType.int), Jvm.Cond.code ({ cls := "java/lang/StringUTF16", name := "coderFromArrayLen", desc := "([BI)B" } : Jvm.MethodName) jdk_52_method_15_code (2 : Nat) (Option.some Jvm.ClassFile.FieldType.byte), Jvm.Cond.code ({ cls := "com/example/oxpecker/oxpecker/http/UriCharactersIsDigitsPinLaw", name := "digit", desc := "(C)Z" } : Jvm.MethodName) method_3_code (1 : Nat) (Option.some Jvm.ClassFile.FieldType.boolean), Jvm.Cond.code ({ cls := "java/lang/String", name := "charAt", desc := "(I)C" } : Jvm.MethodName) jdk_42_method_56_code (2 : Nat) (Option.some Jvm.ClassFile.FieldType.char), Jvm.Cond.code ({ cls := "java/lang/String", name := "isLatin1", desc := "()Z" } : Jvm.MethodName) jdk_42_method_154_code (1 : Nat) (Option.some Jvm.ClassFile.FieldType.boolean), Jvm.Cond.code ({ cls := "java/lang/StringLatin1", name := "charAt", desc := "([BI)C" } : Jvm.MethodName) jdk_43_method_2_code (2 : Nat) (Option.some Jvm.ClassFile.FieldType.char), Jvm.Cond.code ({ cls := "java/lang/String", name := "checkIndex", desc := "(II)V" } : Jvm.MethodName) jdk_42_method_155_code (2 : Nat) (Option.none : Option Jvm.ClassFile.FieldType), Jvm.Cond.code ({ cls := "jdk/internal/util/Preconditions", name := "checkIndex", desc := "(IILjava/util/function/BiFunction;)I" } : Jvm.MethodName) jdk_41_method_11_code (3 : Nat) (Option.some Jvm.ClassFile.FieldType.int), Jvm.Cond.code ({ cls := "java/lang/StringUTF16", name := "toBytes", desc := "([CII)[B" } : Jvm.MethodName) jdk_52_method_14_code (5 : Nat) (Option.some (Jvm.ClassFile.FieldType.array Jvm.ClassFile.FieldType.byte)), Jvm.Cond.code ({ cls := "java/lang/StringUTF16", name := "newBytesFor", desc := "(I)[B" } : Jvm.MethodName) jdk_52_method_2_code (1 : Nat) (Option.some (Jvm.ClassFile.FieldType.array Jvm.ClassFile.FieldType.byte)), Jvm.Cond.code ({ cls := "java/lang/StringUTF16", name := "newBytesLength", desc := "(I)I" } : Jvm.MethodName) jdk_52_method_3_code (1 : Nat) (Option.some Jvm.ClassFile.FieldType.int), Jvm.Cond.code ({ cls := "java/lang/StringUTF16", name := "putChar", desc := "([BII)V" } : Jvm.MethodName) jdk_52_method_4_code (3 : Nat) (Option.none : Option Jvm.ClassFile.FieldType), Jvm.Cond.code ({ cls := "java/lang/StringUTF16", name := "getChar", desc := "([BI)C" } : Jvm.MethodName) jdk_52_method_5_code (2 : Nat) (Option.some Jvm.ClassFile.FieldType.char), Jvm.Cond.code ({ cls := "java/lang/StringUTF16", name := "charAt", desc := "([BI)C" } : Jvm.MethodName) jdk_52_method_83_code (2 : Nat) (Option.some Jvm.ClassFile.FieldType.char), Jvm.Cond.code ({ cls := "java/lang/StringUTF16", name := "checkIndex", desc := "(I[B)V" } : Jvm.MethodName) jdk_52_method_91_code (2 : Nat) (Option.none : Option Jvm.ClassFile.FieldType), Jvm.Cond.code ({ cls := "java/lang/StringUTF16", name := "length", desc := "([B)I" } : Jvm.MethodName) jdk_52_method_6_code (1 : Nat) (Option.some Jvm.ClassFile.FieldType.int)]
set_option maxRecDepth 65536 in
theorem codes_eq : words1.filter isCode = codes1 := rfl
theorem w_codes : ∀ c ∈ words1.filter isCode, c.before args0 about1 = true := by
  rw [codes_eq]
  intro c hc
  simp only [codes1, List.mem_cons, List.not_mem_nil, or_false] at hc
  rcases hc with rfl | rfl | rfl | rfl | rfl | rfl | rfl | rfl | rfl | rfl | rfl | rfl | rfl | rfl | rfl | rfl | rfl | rfl | rfl | rfl | rfl | rfl | rfl | rfl | rfl
  · exact w_c0
  · exact w_c1
  · exact w_c2
  · exact w_c3
  · exact w_c4
  · exact w_c5
  · exact w_c6
  · exact w_c7
  · exact w_c8
  · exact w_c9
  · exact w_c10
  · exact w_c11
  · exact w_c12
  · exact w_c13
  · exact w_c14
  · exact w_c15
  · exact w_c16
  · exact w_c17
  · exact w_c18
  · exact w_c19
  · exact w_c20
  · exact w_c21
  · exact w_c22
  · exact w_c23
  · exact w_c24
set_option maxRecDepth 65536 in
theorem w_t1 : (words1.take 24).all (fun c => isCode c || c.before args0 about1) = true := by decide +kernel
set_option maxRecDepth 65536 in
theorem w_t2 : ((words1.drop 24).take 24).all (fun c => isCode c || c.before args0 about1) = true := by decide +kernel
set_option maxRecDepth 65536 in
theorem w_t3 : (((words1.drop 24).drop 24).take 24).all (fun c => isCode c || c.before args0 about1) = true := by decide +kernel
set_option maxRecDepth 65536 in
theorem w_t4 : ((((words1.drop 24).drop 24).drop 24).take 24).all (fun c => isCode c || c.before args0 about1) = true := by decide +kernel
set_option maxRecDepth 65536 in
theorem w_t5 : ((((words1.drop 24).drop 24).drop 24).drop 24).all (fun c => isCode c || c.before args0 about1) = true := by decide +kernel
theorem w_tables : (allAtoms (Jvm.Cond.code x code maxLocals ret :: tables_1)).before args0 about1 = true := by
  rw [allAtoms_all]
  show words1.all (fun c => c.before args0 about1) = true
  refine all_split ?_ w_codes
  rw [← List.take_append_drop 24 words1, List.all_append, w_t1, ← List.take_append_drop 24 (words1.drop 24), List.all_append, w_t2, ← List.take_append_drop 24 ((words1.drop 24).drop 24), List.all_append, w_t3, ← List.take_append_drop 24 (((words1.drop 24).drop 24).drop 24), List.all_append, w_t4, w_t5]
  rfl
set_option maxRecDepth 65536 in
theorem w_rest : rest_1_c.before args0 about1 = true := by decide +kernel
set_option maxRecDepth 65536 in
theorem w_case : (Jvm.Cond.and given_1 narrow_1).before args0 about1 = true := by decide +kernel
set_option maxRecDepth 65536 in
theorem w_consts : constsHeld consts_1 about1 := Jvm.Lit.constsHeldB_iff.mp (by decide +kernel)
theorem w_applies : (headSpec (Jvm.Cond.code x code maxLocals ret :: tables_1) room_1).applies x e0.platform about1 = true :=
  (Spec.applies_iff w_frames).mpr ⟨w_running, w_runnable, w_alone, w_named, w_hears, w_ripe, w_room, w_tables⟩
theorem atStart : AtStart classFile x code maxLocals ret World_1 tables_1 room_1 Calls_1 rest_1 Pre_1 launch0 p0 e0 about1 theMethod args0 below0 :=
  ⟨lists_1, trivial, launch0.admits_env _ _ _, launch0.least_env, fairChoices_fair.cas, fairChoices_fair.clock, w_frames, w_args, w_heap, w_applies, ⟨w_consts, trivial⟩, w_rest, w_case⟩
end start1
theorem witness_1 : WitnessClaimed_1 := ⟨start1.p0, start1.e0, start1.about1, start1.theMethod, start1.args0, start1.below0, start1.atStart⟩
end Jvm.Pilot.@@N@@
