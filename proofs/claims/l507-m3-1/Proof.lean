import JvmDerived
import JvmDerived.Pilot.@@N@@Statement
import JvmDerived.Pilot.@@N@@Code
set_option linter.unusedVariables false
set_option linter.unusedSimpArgs false

namespace Jvm.Pilot.@@N@@
open Jvm Jvm.ClassFile Sem Op Lib Jvm.Free Jvm.Stand Jvm.LawKit Jvm.RoadKit Bundle Jvm.Pilot.@@N@@.Jvm.D
abbrev HW (a0 : Array Value) (Z : State) : Prop := ∀ d ∈ tables_1, d.before a0 Z = true
abbrev MF (l : Launch) (Z : State) (y : MethodName) (b : ByteArray) (ml : Nat) (rt : Option FieldType) (ws : List Jvm.Cond) (rm : Room) (A : Array Value) (h0 : Heap) (Q : Option Value → Heap → List Loc → Prop) : Prop := MetFree l y (head1 (Jvm.Cond.code y b ml rt :: ws) rm) (fun a U => a = A ∧ Z.Warmed39 U.vm ∧ U.heap = h0) (fun _ _ _ _ _ => True) (fun _ U o U' => ∃ v L, o = .returned v ∧ Q v U'.heap L ∧ FrameEnd U o U' L rm.cells rm.slots)
/-- the end of a walk -/
theorem fin1 {p : Program} {l : Launch} {e : Env} {R : Room} {s : State} {m : MethodId} {args : Array Value} {bl : List Frame} {meth : Method} {c : Code} {T : State} {locs : List Loc} {cells slots : Nat} (X : Stand p l e R s m args bl meth c T locs cells slots) {v : Option Value} (hv : meth.sig.returnType = none → v = none) (hlk : meth.locks = false) {g : JFrame} {s1 : State} {C D : Nat} {Q : Option Value → Heap → List Loc → Prop} (hc : cells ≤ C) (hd : slots ≤ D) (hQ : Q v T.heap locs)
    (hs : ∀ fs, (∀ (f : JFrame) (acts : List Action), f.method = m → f.locked = none → f.entered = [] → (doReturn e (T.setTop f) acts v).1 = T.setFrames fs) → Steps p.tables e bl (s1.setTop g) (T.setFrames fs)) : ∃ s₂ o, Steps p.tables e bl (s1.setTop g) s₂ ∧ s₂.status = .running ∧ Ended s₂ bl o ∧ ∃ v L, o = .returned v ∧ Q v s₂.heap L ∧ FrameEnd s o s₂ L C D := by
  obtain ⟨fs, hr, hrun, hended, hW, hsame⟩ := X.leave hv hlk
  exact ⟨_, _, hs fs hr, hrun, hended, _, _, rfl, hQ, ⟨_, rfl⟩, hW, hsame.mono hc hd⟩
theorem wl {a b : Nat} (h : Nat.ble a b = true) : a ≤ b := Nat.le_of_ble_eq_true h
theorem mW (i : Nat) {d : Jvm.Cond} (h : tables_1[i]? = some d) : d ∈ tables_1 := List.mem_of_getElem? h
/-- from the frame g' at S' the run comes to the frame g at S -/
abbrev Go (p : Program) (e : Env) (below : List Frame) (S : State) (g : JFrame) (S' : State) (g' : JFrame) : Prop := ∀ t, Steps p.tables e below (S.setTop g) t → Steps p.tables e below (S'.setTop g') t

abbrev mN0 : MethodName := ⟨"java/lang/String", "coder", "()B"⟩
abbrev mN1 : MethodName := ⟨"java/lang/String", "length", "()I"⟩
abbrev mN2 : MethodName := ⟨"java/lang/String", "isLatin1", "()Z"⟩
abbrev mN3 : MethodName := ⟨"jdk/internal/util/Preconditions", "checkIndex", "(IILjava/util/function/BiFunction;)I"⟩
abbrev mN4 : MethodName := ⟨"java/lang/String", "checkIndex", "(II)V"⟩
abbrev mN5 : MethodName := ⟨"java/lang/StringLatin1", "charAt", "([BI)C"⟩
abbrev mN6 : MethodName := ⟨"java/lang/String", "charAt", "(I)C"⟩
abbrev mN7 : MethodName := ⟨"java/lang/String", "isEmpty", "()Z"⟩
abbrev mN8 : MethodName := ⟨"java/lang/StringLatin1", "equals", "([B[B)Z"⟩
abbrev mN9 : MethodName := ⟨"java/lang/String", "equals", "(Ljava/lang/Object;)Z"⟩
abbrev mN10 : MethodName := ⟨"java/lang/StringUTF16", "compress", "([CI[BII)I"⟩
abbrev mN11 : MethodName := ⟨"java/lang/StringUTF16", "compress", "([CII)[B"⟩
abbrev mN12 : MethodName := ⟨"java/lang/StringUTF16", "coderFromArrayLen", "([BI)B"⟩
abbrev mN13 : MethodName := ⟨"java/lang/String", "<init>", "([CIILjava/lang/Void;)V"⟩
abbrev mN14 : MethodName := ⟨"java/lang/String", "<init>", "([C)V"⟩
abbrev mN15 : MethodName := ⟨"com/example/minuterie/minuterie/TimerNameOfPinLaw", "allowed", "(I)C"⟩
abbrev mN16 : MethodName := ⟨"com/example/minuterie/minuterie/TimerName", "isAllowed", "(C)Z"⟩
abbrev mN17 : MethodName := ⟨"java/util/Objects", "requireNonNull", "(Ljava/lang/Object;Ljava/lang/String;)Ljava/lang/Object;"⟩
abbrev mN18 : MethodName := ⟨"com/example/minuterie/minuterie/TimerNameOfPinLaw", "make", "(CCCCI)Ljava/lang/String;"⟩
abbrev mN19 : MethodName := ⟨"com/example/minuterie/minuterie/TimerName", "<init>", "(Ljava/lang/String;)V"⟩
abbrev mN20 : MethodName := ⟨"com/example/minuterie/minuterie/TimerName", "of", "(Ljava/lang/String;)Lcom/example/minuterie/minuterie/TimerName;"⟩
abbrev mN21 : MethodName := ⟨"com/example/minuterie/minuterie/TimerName", "toString", "()Ljava/lang/String;"⟩
abbrev mN22 : MethodName := ⟨"com/example/minuterie/minuterie/TimerName", "equals", "(Ljava/lang/Object;)Z"⟩
abbrev mN23 : MethodName := ⟨"jdk/internal/util/ArraysSupport", "signedHashCode", "(I[BII)I"⟩
abbrev mN24 : MethodName := ⟨"jdk/internal/util/ArraysSupport", "vectorizedHashCode", "(Ljava/lang/Object;IIII)I"⟩
abbrev mN25 : MethodName := ⟨"java/lang/StringLatin1", "hashCode", "([B)I"⟩
abbrev mN26 : MethodName := ⟨"java/lang/String", "hashCode", "()I"⟩
abbrev mN27 : MethodName := ⟨"com/example/minuterie/minuterie/TimerName", "hashCode", "()I"⟩
theorem own_fld {args : Array Value} {s : State} {t : Term} {x : Addr} {C n d : String} {k : Int32} (ht : t.eval args s none [] s = some (.ref x)) (h : (Jvm.Cond.eq (.field t C n d) (.int k)).value args s none s [] = some true) : Fld s s.heap x C n d (.int k) := by
  obtain ⟨y, z, h1, h2, h3, -⟩ := cmp_v (Or.inl h)
  have h2' : z = .int k := by simpa [Term.eval] using h2.symm
  subst h2'
  obtain ⟨u, rfl⟩ : ∃ u, y = .int u := by cases y <;> simp [Kin, Value.isRef] at h3 ⊢
  have h4 : u = k := by simpa [Jvm.Cond.value, h1, h2] using h
  subst h4
  exact Fld.start ((fld_at ht).symm.trans h1)

theorem own_root {Z : State} {a0 : Array Value} {O K : String} {n : Nat} (w : (Jvm.Cond.noSuperclass O).before a0 Z = true) (wk : (Jvm.Cond.instantiable K n).before a0 Z = true) (hn : O ≠ K) : NS Z O K := by
  obtain ⟨c, k, h1, h2, h3, -, -⟩ := Cond.noSuperclass_spec w
  obtain ⟨t, kt, g1, -⟩ := Cond.instantiable_spec wk
  have ne := ids_ne h1 g1 hn
  refine ⟨c, t, h1, g1, fun fuel => ?_⟩
  cases fuel with
  | zero => rfl
  | succ f => simp [Vm.isSubclassAux, ne, h2, h3]
theorem own_no {Z : State} {a0 : Array Value} {C S K : String} {n : Nat} (w : (Jvm.Cond.superclass C S).before a0 Z = true) (wk : (Jvm.Cond.instantiable K n).before a0 Z = true) (n : NS Z C K) (hn : C ≠ K) : ∃ c t, Z.vm.findClass C = some c ∧ Z.vm.findClass K = some t ∧ Z.vm.assignable c t = false := by
  obtain ⟨c, t, h0, g0, n3⟩ := n
  obtain ⟨p, k, kp, h1, h2, h3, h4, h5, -, h7⟩ := Cond.superclass_spec h0 w
  obtain ⟨t', k', g1, g2, g5, g6, -⟩ := Cond.instantiable_spec wk
  cases g0.symm.trans g1
  have g7 : k'.isInterface = false := by cases hq : k'.isInterface <;> simp [hq] at g6 ⊢
  have ne := ids_ne h0 g0 hn
  refine ⟨c, t, h0, g0, ?_⟩
  show Z.vm.assignableAux (255 + 1) c t = false
  simp [Vm.assignableAux, ne, h2, g2, h5, g5, g7, Vm.isSubclass, n3]
theorem own_lsw {tb : Tables} [Ours tb] {e : Env} {below : List Frame} {T target : State} {m : MethodId} {c : Code} {g : JFrame} (h : At T m c below) (hx : tb.exec = Jvm.exec) (hg : g.method = m) {dflt : Int} {pairs : Array (Int × Int)} {len : Nat} {o : Int} {pc0 pc' : Nat} (hpc : g.pc = pc0) (hd : decode c.code g.pc = .ok (.lookupswitch dflt pairs, len)) {i : Int32} {rest : List Value} (hs : g.stack = .int i :: rest)
    (hord : (pairs.toList.zip (pairs.toList.drop 1)).all (fun (a, next) => a.1 < next.1) = true) (hoff : lookupswitch.offset pairs.toList dflt i.toInt = o) (ho : 0 ≤ (pc0 : Int) + o) (hp : ((pc0 : Int) + o).toNat = pc')
    (hr : Steps tb e below (T.setTop { g with pc := pc', stack := rest }) target) : Steps tb e below (T.setTop g) target := by
  subst hg hpc hp
  jvm_step h [h.top, hx, hd, hs, hoff, ho, lookupswitch.wp_chain]
  exact ⟨by simpa using hord, hr⟩
theorem own_fitc {c : Int32} (h : nar .char c = c) : fits .char (.int c) = true := by have q := fits_nar_char c; rwa [h] at q
theorem own_i2b2 (x : Int32) : nar .byte x.toInt8.toInt32 = x.toInt8.toInt32 := by
  show x.toInt8.toInt32.toInt8.toInt32 = x.toInt8.toInt32
  rw [Int8.toInt8_toInt32]
theorem own_nc {c : Int32} (h1 : 0 ≤ c.toInt) (h2 : c.toInt < 65536) : nar .char c = c := by
  show c.toUInt32.toUInt16.toUInt32.toInt32 = c
  have q := c_i2c c
  rw [← Int32.toInt_inj]; omega
/-- the chars that a String spells: one byte each, or two -/
def LatV (cs : List Int32) : List Value := cs.map fun c => .int c.toInt8.toInt32
def lo8 (c : Int32) : Int32 := (c >>> ((0 : Int32) &&& 31)).toInt8.toInt32
def hi8 (c : Int32) : Int32 := (c >>> ((8 : Int32) &&& 31)).toInt8.toInt32
def WidV : List Int32 → List Value
  | [] => []
  | c :: cs => .int (lo8 c) :: .int (hi8 c) :: WidV cs
def Str (Z : State) (h : Heap) (a : Addr) (cs : List Int32) : Prop := ∃ (cd : Int32) (b : Addr) (k : ClassId) (z : Int32) (vs : List Value), Exa Z h a "java/lang/String" ∧ Fld Z h a "java/lang/String" "coder" "B" (.int cd) ∧ Fld Z h a "java/lang/String" "value" "[B" (.ref b) ∧ Arv Z h b k .byte z vs (.int 0) ∧ cs.length ≤ 4000 ∧
  ((cd = 0 ∧ z.toInt = cs.length ∧ vs = LatV cs ∧ ∀ c ∈ cs, 0 ≤ c.toInt ∧ c.toInt < 256) ∨ (cd = 1 ∧ z.toInt = 2 * cs.length ∧ vs = WidV cs ∧ ∀ c ∈ cs, 0 ≤ c.toInt ∧ c.toInt < 65536))
theorem Str.exa {Z : State} {h : Heap} {a : Addr} {cs : List Int32} (S : Str Z h a cs) : Exa Z h a "java/lang/String" := by obtain ⟨_, _, _, _, _, E, -⟩ := S; exact E
theorem own_lat {c : Int32} (h1 : 0 ≤ c.toInt) (h2 : c.toInt < 256) : c.toInt8.toInt32 &&& 255 = c := by
  have q := c_mask c.toInt8.toInt32 255 8 (by decide) (by decide)
  have q2 := c_i2b c
  rw [← Int32.toInt_inj, q]
  have e : ((2 ^ 8 : Nat) : Int) = 256 := by decide
  rw [e]; omega
theorem own_lat_at {cs : List Int32} {i : Nat} {c : Int32} (h : cs[i]? = some c) : (LatV cs).getD i (.int 0) = .int c.toInt8.toInt32 := by
  simp [LatV, List.getD, h]
theorem own_wid_at : ∀ {cs : List Int32} {i : Nat} {c : Int32}, cs[i]? = some c → (WidV cs).getD (2 * i) (.int 0) = .int (lo8 c) ∧ (WidV cs).getD (2 * i + 1) (.int 0) = .int (hi8 c)
  | [], i, c, h => by simp at h
  | x :: xs, 0, c, h => by simp at h; subst h; exact ⟨rfl, rfl⟩
  | x :: xs, i + 1, c, h => by
    have q := own_wid_at (cs := xs) (i := i) (c := c) (by simpa using h)
    have e1 : 2 * (i + 1) = 2 * i + 1 + 1 := by omega
    have e2 : 2 * (i + 1) + 1 = 2 * i + 1 + 1 + 1 := by omega
    rw [e1]
    exact q
theorem own_get {c : Int32} (h1 : 0 ≤ c.toInt) (h2 : c.toInt < 65536) : ((((lo8 c &&& 255) <<< ((0 : Int32) &&& 31)) ||| ((hi8 c &&& 255) <<< ((8 : Int32) &&& 31))).toUInt32.toUInt16.toUInt32.toInt32) = c := by
  have a0 := c_ishr c 0 0 (by decide)
  have a8 := c_ishr c 8 8 (by decide)
  have b0 := c_mask (lo8 c) 255 8 (by decide) (by decide)
  have b8 := c_mask (hi8 c) 255 8 (by decide) (by decide)
  have d0 := c_i2b (c >>> ((0 : Int32) &&& 31))
  have d8 := c_i2b (c >>> ((8 : Int32) &&& 31))
  have e0 := c_ishl (lo8 c &&& 255) 0 0 (by decide)
  have e8 := c_ishl (hi8 c &&& 255) 8 8 (by decide)
  have w0 := rng32 ((lo8 c &&& 255) <<< ((0 : Int32) &&& 31))
  have w8 := rng32 ((hi8 c &&& 255) <<< ((8 : Int32) &&& 31))
  have p0 : ((2 ^ 0 : Nat) : Int) = 1 := by decide
  have p8 : ((2 ^ 8 : Nat) : Int) = 256 := by decide
  rw [p0] at a0 e0
  rw [p8] at a8 b0 b8 e8
  have f : (lo8 c) = (c >>> ((0 : Int32) &&& 31)).toInt8.toInt32 := rfl
  have g : (hi8 c) = (c >>> ((8 : Int32) &&& 31)).toInt8.toInt32 := rfl
  rw [← f] at d0
  rw [← g] at d8
  have o := c_or' ((lo8 c &&& 255) <<< ((0 : Int32) &&& 31)) ((hi8 c &&& 255) <<< ((8 : Int32) &&& 31)) 8 (by decide) 256 (by decide) (by omega) (by omega) (by omega)
  have w := rng32 (((lo8 c &&& 255) <<< ((0 : Int32) &&& 31)) ||| ((hi8 c &&& 255) <<< ((8 : Int32) &&& 31)))
  generalize (((lo8 c &&& 255) <<< ((0 : Int32) &&& 31)) ||| ((hi8 c &&& 255) <<< ((8 : Int32) &&& 31))) = x at o w ⊢
  have q := c_i2c x
  rw [← Int32.toInt_inj]; omega

theorem mJ (i : Nat) {d : Jvm.Cond} (h : jdkStatics_1[i]? = some d) : d ∈ jdkStatics_1 := List.mem_of_getElem? h
def Jd (Z : State) (cz : Int32) (fv : Value) : Prop := Sta Z Z.heap "java/lang/String" "COMPACT_STRINGS" "Z" (.int cz) ∧ cz ≠ 0 ∧ (fv.isRef = true ∧ Sta Z Z.heap "jdk/internal/util/Preconditions" "SIOOBE_FORMATTER" "Ljava/util/function/BiFunction;" fv) ∧ True
def QP (r : Int32) (h0 : Heap) (n0 : Nat) (v : Option Value) (h : Heap) (L : List Loc) : Prop := v = some (.int r) ∧ Fr n0 L ∧ h = h0
def BV (bs : List Int32) : List Value := bs.map .int
def StL (Z : State) (h : Heap) (a b : Addr) (k : ClassId) (n : Int32) (bs : List Int32) (hs hz : Int32) : Prop := Exa Z h a "java/lang/String" ∧ Fld Z h a "java/lang/String" "coder" "B" (.int (0 : Int32)) ∧ Fld Z h a "java/lang/String" "value" "[B" (.ref b) ∧ Arv Z h b k .byte n (BV bs) (.int (0 : Int32)) ∧ Exa Z h b "[B" ∧ a ≠ b ∧ Fld Z h a "java/lang/String" "hash" "I" (.int hs) ∧ Fld Z h a "java/lang/String" "hashIsZero" "Z" (.int hz)
theorem StL.ext {Z : State} {h h' : Heap} {a b : Addr} {k : ClassId} {n : Int32} {bs : List Int32} {hs hz : Int32} (S : StL Z h a b k n bs hs hz) (E : Ext h h') : StL Z h' a b k n bs hs hz := ⟨S.1.ext E, S.2.1.ext E, S.2.2.1.ext E, S.2.2.2.1.ext E, S.2.2.2.2.1.ext E, S.2.2.2.2.2.1, S.2.2.2.2.2.2.1.ext E, S.2.2.2.2.2.2.2.ext E⟩
theorem StL.keep {Z : State} {h h' : Heap} {a b : Addr} {k : ClassId} {n : Int32} {bs : List Int32} {hs hz : Int32} {ws : List Addr} (S : StL Z h a b k n bs hs hz) (K : Keep h h' ws) (ha : a ∉ ws) (hb : b ∉ ws) : StL Z h' a b k n bs hs hz := ⟨S.1.keep K, S.2.1.keep K ha, S.2.2.1.keep K ha, S.2.2.2.1.keep K hb, S.2.2.2.2.1.keep K, S.2.2.2.2.2.1, S.2.2.2.2.2.2.1.keep K ha, S.2.2.2.2.2.2.2.keep K ha⟩
abbrev rKJco : Room := { frames := 0, cells := 0, slots := 0, locals := 0 }
theorem d0_0 : decode jdk_42_method_152_code 0 = .ok (.getstatic 38, 3) := by decide +kernel
theorem d0_3 : decode jdk_42_method_152_code 3 = .ok (.ifCond .eq 10, 3) := by decide +kernel
theorem d0_6 : decode jdk_42_method_152_code 6 = .ok (.aload_n 0, 1) := by decide +kernel
theorem d0_7 : decode jdk_42_method_152_code 7 = .ok (.getfield 15, 3) := by decide +kernel
theorem d0_10 : decode jdk_42_method_152_code 10 = .ok (.goto 4, 3) := by decide +kernel
theorem d0_14 : decode jdk_42_method_152_code 14 = .ok (.ireturn, 1) := by decide +kernel
theorem pn0 : plainName "java/lang/String" = true := by first | (simp [plainName, overriddenIn]; done) | decide +kernel
theorem efJco (m : MethodId) (a1 : Addr) : entryFrame m #[(.ref a1)] 1 = mkF m 0 #[rv a1] [] := by first | (simp [entryFrame, mkF, argsToLocals, Value.category]; done) | rfl
def QJco (Z : State) (a1 : Addr) (cz : Int32) (fv : Value) (cd : Int32) (r : Int32) (h0 : Heap) (n0 : Nat) (v : Option Value) (h : Heap) (L : List Loc) : Prop := v = some (.int r) ∧ Fr n0 L ∧ h = h0
set_option maxRecDepth 65536 in
set_option maxHeartbeats 40000000 in
theorem rmJco (l : Launch) (Z : State) (a0 : Array Value) (hw : HW a0 Z) (ws : List Jvm.Cond) (a1 : Addr) (cz : Int32) (fv : Value) (cd : Int32) (r : Int32) (h0 : Heap) (n0 : Nat) (Z0 : n0 ≤ h0.size) (O0 : Old Z n0 h0) (J0 : Jd Z cz fv) (FC : Fld Z h0 a1 "java/lang/String" "coder" "B" (.int cd)) (hcd : nar .byte cd = cd) (hR : cd = r) :
    MF l Z mN0 jdk_42_method_152_code 1 (some .byte) ws rKJco #[(.ref a1)] h0 (QJco Z a1 cz fv cd r h0 n0) := by
  refine MetFree.of_bodySF (plainFor_of_name pn0) hisR ?_
  intro p e s m args bl meth c s1 Bd hml0 hP hK
  obtain ⟨rfl, hZ, hh⟩ := hP
  have hx := Bd.exec
  have hby := Bd.bytes
  have B := @hb c _ hby
  have hown : s.vm.findClass "java/lang/String" = some m.cls := findClass_of_methodNamed Bd.named
  have hlk : meth.locks = false := BodyLoose.notSynchronized Bd
  have hrt : ∀ {v : Option Value}, meth.sig.returnType = none → v = none := fun h => by rw [Bd.returns] at h; cases h
  have X0 : Stand p l e rKJco s m #[(.ref a1)] bl meth c s1 [] 0 0 := Stand.of_body Bd
  have e0 : s1.heap = h0 := by rw [← hh, Bd.state]; rfl
  have N0 := Fr.nil n0
  obtain ⟨EF, hEF⟩ : ∃ f, f = entryFrame m #[(.ref a1)] 1 := ⟨_, rfl⟩
  have pre0 : Go p e bl s1 (mkF m 0 #[rv a1] []) s1 EF := fun t k => by rw [hEF]; exact castTop (efJco m a1) k
  obtain ⟨T1, X1, e1, st1⟩ := getS2 X0 hx hZ hown (host := "") (Or.inl (hw _ (mW 22 rfl))) Via.refl e0 (J0.1.ext O0.2) (g := (mkF m 0 #[rv a1] [])) rfl (B d0_0)
  have pre2 : Go p e bl T1 (mkF m 3 #[rv a1] [(.int cz)]) s1 EF := fun t k => pre0 t (st1 t k)
  have pre3 : Go p e bl T1 (mkF m 6 #[rv a1] []) s1 EF := fun t k => pre2 t (XS.ifNo X1.here hx rfl (B d0_3) rfl ((if0 _ _).trans (feq J0.2.1).1) k)
  have pre4 : Go p e bl T1 (mkF m 7 #[rv a1] [(.ref a1)]) s1 EF := fun t k => pre3 t (by
   exact XS.aloadN X1.here hx rfl (B d0_6) rfl rfl k)
  obtain ⟨T5, X5, e5, st5⟩ := getF X1 hx hZ hown (host := "") (Or.inl (hw _ (mW 34 rfl))) Via.refl e1 FC (g := (mkF m 7 #[rv a1] [(.ref a1)])) rfl rfl (B d0_7)
  have pre6 : Go p e bl T5 (mkF m 10 #[rv a1] [(.int cd)]) s1 EF := fun t k => pre4 t (st5 t k)
  have pre7 : Go p e bl T5 (mkF m 14 #[rv a1] [(.int cd)]) s1 EF := fun t k => pre6 t (by
   exact XS.goto X5.here hx rfl (pc0 := 10) (pc' := 14) rfl (B d0_10) (by decide) (by decide) k)
  have hnr : Value.int (nar .byte cd) = (.int cd) := by rw [hcd]
  exact fin1 X5 (v := some (.int cd)) hrt hlk (wl rfl) (wl rfl) (by rw [e5]; exact ⟨by rw [hR], N0, rfl⟩) (fun fs hr => hEF ▸ pre7 _ (retN X5 hx (t := .byte) Bd.returns (by simp) (B d0_14) (hnr ▸ hr)))
abbrev rKJle : Room := { frames := 1, cells := 0, slots := 0, locals := 13 }
theorem d1_0 : decode jdk_42_method_54_code 0 = .ok (.aload_n 0, 1) := by decide +kernel
theorem d1_1 : decode jdk_42_method_54_code 1 = .ok (.getfield 9, 3) := by decide +kernel
theorem d1_4 : decode jdk_42_method_54_code 4 = .ok (.arraylength, 1) := by decide +kernel
theorem d1_5 : decode jdk_42_method_54_code 5 = .ok (.aload_n 0, 1) := by decide +kernel
theorem d1_6 : decode jdk_42_method_54_code 6 = .ok (.invokevirtual 335, 3) := by decide +kernel
theorem d1_9 : decode jdk_42_method_54_code 9 = .ok (.ishr, 1) := by decide +kernel
theorem d1_10 : decode jdk_42_method_54_code 10 = .ok (.ireturn, 1) := by decide +kernel
theorem pd0 : parseMethodDescriptor "()B" = some ⟨[], some .byte⟩ := by decide +kernel
theorem efJle (m : MethodId) (a1 : Addr) : entryFrame m #[(.ref a1)] 1 = mkF m 0 #[rv a1] [] := by first | (simp [entryFrame, mkF, argsToLocals, Value.category]; done) | rfl
def QJle (Z : State) (a1 : Addr) (cz : Int32) (fv : Value) (cd : Int32) (b : Addr) (k : ClassId) (z : Int32) (vs : List Value) (r : Int32) (h0 : Heap) (n0 : Nat) (v : Option Value) (h : Heap) (L : List Loc) : Prop := v = some (.int r) ∧ Fr n0 L ∧ h = h0
set_option maxRecDepth 65536 in
set_option maxHeartbeats 40000000 in
theorem rmJle (l : Launch) (Z : State) (a0 : Array Value) (hw : HW a0 Z) (ws : List Jvm.Cond) (a1 : Addr) (cz : Int32) (fv : Value) (cd : Int32) (b : Addr) (k : ClassId) (z : Int32) (vs : List Value) (r : Int32) (h0 : Heap) (n0 : Nat) (Z0 : n0 ≤ h0.size) (O0 : Old Z n0 h0) (J0 : Jd Z cz fv) (E1 : Exa Z h0 a1 "java/lang/String") (FC : Fld Z h0 a1 "java/lang/String" "coder" "B" (.int cd)) (FV : Fld Z h0 a1 "java/lang/String" "value" "[B" (.ref b)) (VV : Arv Z h0 b k .byte z vs (.int 0)) (hcd : nar .byte cd = cd) (hR : z >>> (cd &&& 31) = r) :
    MF l Z mN1 jdk_42_method_54_code 1 (some .int) ws rKJle #[(.ref a1)] h0 (QJle Z a1 cz fv cd b k z vs r h0 n0) := by
  refine MetFree.of_bodySF (plainFor_of_name pn0) hisR ?_
  intro p e s m args bl meth c s1 Bd hml0 hP hK
  obtain ⟨rfl, hZ, hh⟩ := hP
  have hx := Bd.exec
  have hby := Bd.bytes
  have B := @hb c _ hby
  have hM := fun {n : Nat} (h : n = 1) => h.trans hml0.symm
  have hown : s.vm.findClass "java/lang/String" = some m.cls := findClass_of_methodNamed Bd.named
  have hlk : meth.locks = false := BodyLoose.notSynchronized Bd
  have hrt : ∀ {v : Option Value}, meth.sig.returnType = none → v = none := fun h => by rw [Bd.returns] at h; cases h
  have X0 : Stand p l e rKJle s m #[(.ref a1)] bl meth c s1 [] 0 0 := Stand.of_body Bd
  have e0 : s1.heap = h0 := by rw [← hh, Bd.state]; rfl
  have N0 := Fr.nil n0
  obtain ⟨EF, hEF⟩ : ∃ f, f = entryFrame m #[(.ref a1)] 1 := ⟨_, rfl⟩
  have pre0 : Go p e bl s1 (mkF m 0 #[rv a1] []) s1 EF := fun t k => by rw [hEF]; exact castTop (efJle m a1) k
  have pre1 : Go p e bl s1 (mkF m 1 #[rv a1] [(.ref a1)]) s1 EF := fun t k => pre0 t (by
   exact XS.aloadN X0.here hx rfl (B d1_0) rfl rfl k)
  obtain ⟨T2, X2, e2, st2⟩ := getF X0 hx hZ hown (host := "") (Or.inl (hw _ (mW 36 rfl))) Via.refl e0 FV (g := (mkF m 1 #[rv a1] [(.ref a1)])) rfl rfl (B d1_1)
  have pre3 : Go p e bl T2 (mkF m 4 #[rv a1] [(.ref b)]) s1 EF := fun t k => pre1 t (st2 t k)
  obtain ⟨cl4, Ar4, q4, Sz4, M4, H4, G4⟩ := id VV
  have pre5 : Go p e bl T2 (mkF m 6 #[rv a1] [(.ref a1), (.int z)]) s1 EF := fun t k => pre3 t (by
   refine X2.arraylength hx (by rw [e2]; exact Ar4.1) (State.isArrayOf_alike hZ.alike Ar4.2.1) (g := (mkF m 4 #[rv a1] [(.ref b)])) rfl rfl (B d1_4) _ ?_
   rw [len_of Sz4 M4]
   exact XS.aloadN X2.here hx rfl (B d1_5) rfl rfl k)
  obtain ⟨cq6, kq6, q6a, q6b, q6c⟩ := isOf hZ e2 E1
  obtain ⟨_, _, ⟨T6, L6, k6, n6⟩, -, X6, ⟨Lc6, hQ6, l6, y6, z6⟩, st6⟩ := X2.virtualBack hx (y := mN0) (z := mN0) hown (mvT hZ (hw _ (mW 59 rfl))) (mvT hZ (hw _ (mW 60 rfl))) (notFace_of_selects (args := #[]) (mvT hZ (hw _ (mW 62 rfl)))) (mvT hZ (hw _ (mW 62 rfl))) (mvT hZ (hw _ (mW 61 rfl))) (by decide) (backOf (W := 1) (rmJco l Z a0 hw [] a1 cz fv cd cd h0 n0 Z0 O0 J0 FC hcd rfl) hZ (hw _ (mW 63 rfl)) (hw _ (mW 10 rfl)) (by decide) (by decide)) q6a q6c (g := (mkF m 6 #[rv a1] [(.ref a1), (.int z)])) rfl (hM rfl) (Steps.refl _) (argsL := []) (rest := [(.int z)]) (lenOf pd0 rfl) rfl (Nat.le_of_eq rfl) (B d1_6) (fun _ _ => ⟨rfl, e2, wl rfl, wl rfl⟩)
  dsimp only [Pt.U, Pt.locs, Pt.cells, Pt.slots] at X6 l6 y6 z6 st6 hQ6
  subst l6 y6 z6
  obtain ⟨rfl, N6q, hq6⟩ := hQ6
  have N6 := Fr.app N0 N6q
  have pre7 : Go p e bl T6 (mkF m 9 #[rv a1] [(.int cd), (.int z)]) s1 EF := fun t k => pre5 t (st6.trans k)
  have e6 : T6.heap = h0 := hq6
  have pre8 : Go p e bl T6 (mkF m 10 #[rv a1] [(.int (z >>> (cd &&& 31)))]) s1 EF := fun t k => pre7 t (by
   exact XS.ishr X6.here hx rfl (B d1_9) rfl k)
  exact fin1 X6 (v := some (.int (z >>> (cd &&& 31)))) hrt hlk (wl rfl) (wl rfl) (by rw [e6]; exact ⟨by rw [hR], N6, rfl⟩) (fun fs hr => hEF ▸ pre8 _ (retOut X6 hx Bd.returns rfl (Or.inl ⟨rfl, Or.inl rfl, _, rfl⟩) (B d1_10) hr))
def QJL (n : Int32) (h0 : Heap) (n0 : Nat) (v : Option Value) (h : Heap) (L : List Loc) : Prop := v = some (.int n) ∧ Fr n0 L ∧ h = h0
theorem own_shr {z : Int32} {n : Int32} (h : z.toInt = 2 * n.toInt) : z >>> ((1 : Int32) &&& 31) = n := by
  have q := c_ishr z 1 1 (by decide)
  have p : ((2 ^ 1 : Nat) : Int) = 2 := by decide
  rw [p] at q; rw [← Int32.toInt_inj, q]; omega
theorem own_shr0 {z : Int32} {n : Int32} (h : z.toInt = n.toInt) : z >>> ((0 : Int32) &&& 31) = n := by
  have q := c_ishr z 0 0 (by decide)
  have p : ((2 ^ 0 : Nat) : Int) = 1 := by decide
  rw [p] at q; rw [← Int32.toInt_inj, q]; omega
theorem rmJL (l : Launch) (Z : State) (a0 : Array Value) (hw : HW a0 Z) (ws : List Jvm.Cond) (a1 : Addr) (cz : Int32) (fv : Value) (cs : List Int32) (n : Int32) (h0 : Heap) (n0 : Nat) (Z0 : n0 ≤ h0.size) (O0 : Old Z n0 h0) (J0 : Jd Z cz fv) (S : Str Z h0 a1 cs) (hn : n.toInt = cs.length) :
    MetFree l mN1 (head1 (Jvm.Cond.code mN1 jdk_42_method_54_code 1 (some .int) :: ws) rKJle) (fun a U => a = #[(.ref a1)] ∧ Z.Warmed39 U.vm ∧ U.heap = h0) (fun _ _ _ _ _ => True) (fun _ U o U' => ∃ v L, o = .returned v ∧ QJL n h0 n0 v U'.heap L ∧ FrameEnd U o U' L rKJle.cells rKJle.slots) := by
  obtain ⟨cd, b, k, z, vs, E, FC, FV, VV, hb, h⟩ := S
  rcases h with ⟨rfl, hz, -, -⟩ | ⟨rfl, hz, -, -⟩
  · exact rmJle l Z a0 hw ws a1 cz fv 0 b k z vs n h0 n0 Z0 O0 J0 E FC FV VV rfl (own_shr0 (by omega))
  · exact rmJle l Z a0 hw ws a1 cz fv 1 b k z vs n h0 n0 Z0 O0 J0 E FC FV VV rfl (own_shr (by omega))
abbrev rKJil : Room := { frames := 0, cells := 0, slots := 0, locals := 0 }
theorem d2_0 : decode jdk_42_method_154_code 0 = .ok (.getstatic 38, 3) := by decide +kernel
theorem d2_3 : decode jdk_42_method_154_code 3 = .ok (.ifCond .eq 14, 3) := by decide +kernel
theorem d2_6 : decode jdk_42_method_154_code 6 = .ok (.aload_n 0, 1) := by decide +kernel
theorem d2_7 : decode jdk_42_method_154_code 7 = .ok (.getfield 15, 3) := by decide +kernel
theorem d2_10 : decode jdk_42_method_154_code 10 = .ok (.ifCond .ne 7, 3) := by decide +kernel
theorem d2_13 : decode jdk_42_method_154_code 13 = .ok (.iconst 1, 1) := by decide +kernel
theorem d2_14 : decode jdk_42_method_154_code 14 = .ok (.goto 4, 3) := by decide +kernel
theorem d2_17 : decode jdk_42_method_154_code 17 = .ok (.iconst 0, 1) := by decide +kernel
theorem d2_18 : decode jdk_42_method_154_code 18 = .ok (.ireturn, 1) := by decide +kernel
theorem efJil (m : MethodId) (a1 : Addr) : entryFrame m #[(.ref a1)] 1 = mkF m 0 #[rv a1] [] := by first | (simp [entryFrame, mkF, argsToLocals, Value.category]; done) | rfl
def QJil (Z : State) (a1 : Addr) (cz : Int32) (fv : Value) (cd : Int32) (r : Int32) (h0 : Heap) (n0 : Nat) (v : Option Value) (h : Heap) (L : List Loc) : Prop := v = some (.int r) ∧ Fr n0 L ∧ h = h0
set_option maxRecDepth 65536 in
set_option maxHeartbeats 40000000 in
theorem rmJil (l : Launch) (Z : State) (a0 : Array Value) (hw : HW a0 Z) (ws : List Jvm.Cond) (a1 : Addr) (cz : Int32) (fv : Value) (cd : Int32) (r : Int32) (h0 : Heap) (n0 : Nat) (Z0 : n0 ≤ h0.size) (O0 : Old Z n0 h0) (J0 : Jd Z cz fv) (FC : Fld Z h0 a1 "java/lang/String" "coder" "B" (.int cd)) (hR : (if cd = 0 then 1 else 0) = r) :
    MF l Z mN2 jdk_42_method_154_code 1 (some .boolean) ws rKJil #[(.ref a1)] h0 (QJil Z a1 cz fv cd r h0 n0) := by
  refine MetFree.of_bodySF (plainFor_of_name pn0) hisR ?_
  intro p e s m args bl meth c s1 Bd hml0 hP hK
  obtain ⟨rfl, hZ, hh⟩ := hP
  have hx := Bd.exec
  have hby := Bd.bytes
  have B := @hb c _ hby
  have hown : s.vm.findClass "java/lang/String" = some m.cls := findClass_of_methodNamed Bd.named
  have hlk : meth.locks = false := BodyLoose.notSynchronized Bd
  have hrt : ∀ {v : Option Value}, meth.sig.returnType = none → v = none := fun h => by rw [Bd.returns] at h; cases h
  have X0 : Stand p l e rKJil s m #[(.ref a1)] bl meth c s1 [] 0 0 := Stand.of_body Bd
  have e0 : s1.heap = h0 := by rw [← hh, Bd.state]; rfl
  have N0 := Fr.nil n0
  obtain ⟨EF, hEF⟩ : ∃ f, f = entryFrame m #[(.ref a1)] 1 := ⟨_, rfl⟩
  have pre0 : Go p e bl s1 (mkF m 0 #[rv a1] []) s1 EF := fun t k => by rw [hEF]; exact castTop (efJil m a1) k
  obtain ⟨T1, X1, e1, st1⟩ := getS2 X0 hx hZ hown (host := "") (Or.inl (hw _ (mW 22 rfl))) Via.refl e0 (J0.1.ext O0.2) (g := (mkF m 0 #[rv a1] [])) rfl (B d2_0)
  have pre2 : Go p e bl T1 (mkF m 3 #[rv a1] [(.int cz)]) s1 EF := fun t k => pre0 t (st1 t k)
  have pre3 : Go p e bl T1 (mkF m 6 #[rv a1] []) s1 EF := fun t k => pre2 t (XS.ifNo X1.here hx rfl (B d2_3) rfl ((if0 _ _).trans (feq J0.2.1).1) k)
  have pre4 : Go p e bl T1 (mkF m 7 #[rv a1] [(.ref a1)]) s1 EF := fun t k => pre3 t (by
   exact XS.aloadN X1.here hx rfl (B d2_6) rfl rfl k)
  obtain ⟨T5, X5, e5, st5⟩ := getF X1 hx hZ hown (host := "") (Or.inl (hw _ (mW 34 rfl))) Via.refl e1 FC (g := (mkF m 7 #[rv a1] [(.ref a1)])) rfl rfl (B d2_7)
  have pre6 : Go p e bl T5 (mkF m 10 #[rv a1] [(.int cd)]) s1 EF := fun t k => pre4 t (st5 t k)
  by_cases hc10 : cd = (0 : Int32)
  · have pre7 : Go p e bl T5 (mkF m 13 #[rv a1] []) s1 EF := fun t k => pre6 t (XS.ifNo X5.here hx rfl (B d2_10) rfl ((if0 _ _).trans (teq hc10).2) k)
    have pre8 : Go p e bl T5 (mkF m 18 #[rv a1] [(.int (1 : Int32))]) s1 EF := fun t k => pre7 t (by
     refine XS.iconst X5.here hx rfl (B d2_13) ?_
     exact XS.goto X5.here hx rfl (pc0 := 14) (pc' := 18) rfl (B d2_14) (by decide) (by decide) k)
    have hnr : Value.int (nar .boolean (1 : Int32)) = (.int (1 : Int32)) := by rfl
    exact fin1 X5 (v := some (.int (1 : Int32))) hrt hlk (wl rfl) (wl rfl) (by rw [e5]; exact ⟨by rw [← hR]; simp [hc10], N0, rfl⟩) (fun fs hr => hEF ▸ pre8 _ (retN X5 hx (t := .boolean) Bd.returns (by simp) (B d2_18) (hnr ▸ hr)))
  have pre9 : Go p e bl T5 (mkF m 17 #[rv a1] []) s1 EF := fun t k => pre6 t (XS.ifYes X5.here hx rfl (pc0 := 10) (pc' := 17) rfl (B d2_10) rfl ((if0 _ _).trans (feq hc10).2) (by decide) (by decide) k)
  have pre10 : Go p e bl T5 (mkF m 18 #[rv a1] [(.int (0 : Int32))]) s1 EF := fun t k => pre9 t (by
   exact XS.iconst X5.here hx rfl (B d2_17) k)
  have hnr : Value.int (nar .boolean (0 : Int32)) = (.int (0 : Int32)) := by rfl
  exact fin1 X5 (v := some (.int (0 : Int32))) hrt hlk (wl rfl) (wl rfl) (by rw [e5]; exact ⟨by rw [← hR]; simp [hc10], N0, rfl⟩) (fun fs hr => hEF ▸ pre10 _ (retN X5 hx (t := .boolean) Bd.returns (by simp) (B d2_18) (hnr ▸ hr)))
abbrev rKJpc : Room := { frames := 0, cells := 0, slots := 0, locals := 0 }
theorem d3_0 : decode jdk_41_method_11_code 0 = .ok (.iload_n 0, 1) := by decide +kernel
theorem d3_1 : decode jdk_41_method_11_code 1 = .ok (.ifCond .lt 8, 3) := by decide +kernel
theorem d3_4 : decode jdk_41_method_11_code 4 = .ok (.iload_n 0, 1) := by decide +kernel
theorem d3_5 : decode jdk_41_method_11_code 5 = .ok (.iload_n 1, 1) := by decide +kernel
theorem d3_6 : decode jdk_41_method_11_code 6 = .ok (.if_icmp .lt 10, 3) := by decide +kernel
theorem d3_16 : decode jdk_41_method_11_code 16 = .ok (.iload_n 0, 1) := by decide +kernel
theorem d3_17 : decode jdk_41_method_11_code 17 = .ok (.ireturn, 1) := by decide +kernel
theorem pn1 : plainName "jdk/internal/util/Preconditions" = true := by first | (simp [plainName, overriddenIn]; done) | decide +kernel
theorem efJpc (m : MethodId) (p1 : Int32) (p2 : Int32) (a3 : Addr) : entryFrame m #[(.int p1), (.int p2), (.ref a3)] 3 = mkF m 0 #[iv p1, iv p2, rv a3] [] := by first | (simp [entryFrame, mkF, argsToLocals, Value.category]; done) | rfl
def QJpc (Z : State) (p1 : Int32) (p2 : Int32) (a3 : Addr) (cz : Int32) (fv : Value) (h0 : Heap) (n0 : Nat) (v : Option Value) (h : Heap) (L : List Loc) : Prop := v = some (.int p1) ∧ Fr n0 L ∧ h = h0
set_option maxRecDepth 65536 in
set_option maxHeartbeats 40000000 in
theorem rmJpc (l : Launch) (Z : State) (a0 : Array Value) (hw : HW a0 Z) (ws : List Jvm.Cond) (p1 : Int32) (p2 : Int32) (a3 : Addr) (cz : Int32) (fv : Value) (h0 : Heap) (n0 : Nat) (Z0 : n0 ≤ h0.size) (O0 : Old Z n0 h0) (J0 : Jd Z cz fv) (h1 : ¬ p1 < 0) (h2 : p1 < p2) :
    MF l Z mN3 jdk_41_method_11_code 3 (some .int) ws rKJpc #[(.int p1), (.int p2), (.ref a3)] h0 (QJpc Z p1 p2 a3 cz fv h0 n0) := by
  refine MetFree.of_bodySF (plainFor_of_name pn1) hisR ?_
  intro p e s m args bl meth c s1 Bd hml0 hP hK
  obtain ⟨rfl, hZ, hh⟩ := hP
  have hx := Bd.exec
  have hby := Bd.bytes
  have B := @hb c _ hby
  have hown : s.vm.findClass "jdk/internal/util/Preconditions" = some m.cls := findClass_of_methodNamed Bd.named
  have hlk : meth.locks = false := BodyLoose.notSynchronized Bd
  have hrt : ∀ {v : Option Value}, meth.sig.returnType = none → v = none := fun h => by rw [Bd.returns] at h; cases h
  have X0 : Stand p l e rKJpc s m #[(.int p1), (.int p2), (.ref a3)] bl meth c s1 [] 0 0 := Stand.of_body Bd
  have e0 : s1.heap = h0 := by rw [← hh, Bd.state]; rfl
  have N0 := Fr.nil n0
  obtain ⟨EF, hEF⟩ : ∃ f, f = entryFrame m #[(.int p1), (.int p2), (.ref a3)] 3 := ⟨_, rfl⟩
  have pre0 : Go p e bl s1 (mkF m 0 #[iv p1, iv p2, rv a3] []) s1 EF := fun t k => by rw [hEF]; exact castTop (efJpc m p1 p2 a3) k
  have pre1 : Go p e bl s1 (mkF m 1 #[iv p1, iv p2, rv a3] [(.int p1)]) s1 EF := fun t k => pre0 t (by
   exact XS.iloadN X0.here hx rfl (B d3_0) rfl k)
  have pre2 : Go p e bl s1 (mkF m 4 #[iv p1, iv p2, rv a3] []) s1 EF := fun t k => pre1 t (XS.ifNo X0.here hx rfl (B d3_1) rfl ((if0 _ _).trans (flt h1).1) k)
  have pre3 : Go p e bl s1 (mkF m 6 #[iv p1, iv p2, rv a3] [(.int p2), (.int p1)]) s1 EF := fun t k => pre2 t (by
   refine XS.iloadN X0.here hx rfl (B d3_4) rfl ?_
   exact XS.iloadN X0.here hx rfl (B d3_5) rfl k)
  have pre4 : Go p e bl s1 (mkF m 16 #[iv p1, iv p2, rv a3] []) s1 EF := fun t k => pre3 t (XS.icmpYes X0.here hx rfl (pc0 := 6) (pc' := 16) rfl (B d3_6) rfl (tlt h2).1 (by decide) (by decide) k)
  have pre5 : Go p e bl s1 (mkF m 17 #[iv p1, iv p2, rv a3] [(.int p1)]) s1 EF := fun t k => pre4 t (by
   exact XS.iloadN X0.here hx rfl (B d3_16) rfl k)
  exact fin1 X0 (v := some (.int p1)) hrt hlk (wl rfl) (wl rfl) (by rw [e0]; exact ⟨rfl, N0, rfl⟩) (fun fs hr => hEF ▸ pre5 _ (retOut X0 hx Bd.returns rfl (Or.inl ⟨rfl, Or.inl rfl, _, rfl⟩) (B d3_17) hr))
abbrev rKJpn : Room := { frames := 0, cells := 0, slots := 0, locals := 0 }
theorem efJpn (m : MethodId) (p1 : Int32) (p2 : Int32) : entryFrame m #[(.int p1), (.int p2), .null] 3 = mkF m 0 #[iv p1, iv p2, .val .null] [] := by first | (simp [entryFrame, mkF, argsToLocals, Value.category]; done) | rfl
def QJpn (Z : State) (p1 : Int32) (p2 : Int32) (cz : Int32) (fv : Value) (h0 : Heap) (n0 : Nat) (v : Option Value) (h : Heap) (L : List Loc) : Prop := v = some (.int p1) ∧ Fr n0 L ∧ h = h0
set_option maxRecDepth 65536 in
set_option maxHeartbeats 40000000 in
theorem rmJpn (l : Launch) (Z : State) (a0 : Array Value) (hw : HW a0 Z) (ws : List Jvm.Cond) (p1 : Int32) (p2 : Int32) (cz : Int32) (fv : Value) (h0 : Heap) (n0 : Nat) (Z0 : n0 ≤ h0.size) (O0 : Old Z n0 h0) (J0 : Jd Z cz fv) (h1 : ¬ p1 < 0) (h2 : p1 < p2) :
    MF l Z mN3 jdk_41_method_11_code 3 (some .int) ws rKJpn #[(.int p1), (.int p2), .null] h0 (QJpn Z p1 p2 cz fv h0 n0) := by
  refine MetFree.of_bodySF (plainFor_of_name pn1) hisR ?_
  intro p e s m args bl meth c s1 Bd hml0 hP hK
  obtain ⟨rfl, hZ, hh⟩ := hP
  have hx := Bd.exec
  have hby := Bd.bytes
  have B := @hb c _ hby
  have hown : s.vm.findClass "jdk/internal/util/Preconditions" = some m.cls := findClass_of_methodNamed Bd.named
  have hlk : meth.locks = false := BodyLoose.notSynchronized Bd
  have hrt : ∀ {v : Option Value}, meth.sig.returnType = none → v = none := fun h => by rw [Bd.returns] at h; cases h
  have X0 : Stand p l e rKJpn s m #[(.int p1), (.int p2), .null] bl meth c s1 [] 0 0 := Stand.of_body Bd
  have e0 : s1.heap = h0 := by rw [← hh, Bd.state]; rfl
  have N0 := Fr.nil n0
  obtain ⟨EF, hEF⟩ : ∃ f, f = entryFrame m #[(.int p1), (.int p2), .null] 3 := ⟨_, rfl⟩
  have pre0 : Go p e bl s1 (mkF m 0 #[iv p1, iv p2, .val .null] []) s1 EF := fun t k => by rw [hEF]; exact castTop (efJpn m p1 p2) k
  have pre1 : Go p e bl s1 (mkF m 1 #[iv p1, iv p2, .val .null] [(.int p1)]) s1 EF := fun t k => pre0 t (by
   exact XS.iloadN X0.here hx rfl (B d3_0) rfl k)
  have pre2 : Go p e bl s1 (mkF m 4 #[iv p1, iv p2, .val .null] []) s1 EF := fun t k => pre1 t (XS.ifNo X0.here hx rfl (B d3_1) rfl ((if0 _ _).trans (flt h1).1) k)
  have pre3 : Go p e bl s1 (mkF m 6 #[iv p1, iv p2, .val .null] [(.int p2), (.int p1)]) s1 EF := fun t k => pre2 t (by
   refine XS.iloadN X0.here hx rfl (B d3_4) rfl ?_
   exact XS.iloadN X0.here hx rfl (B d3_5) rfl k)
  have pre4 : Go p e bl s1 (mkF m 16 #[iv p1, iv p2, .val .null] []) s1 EF := fun t k => pre3 t (XS.icmpYes X0.here hx rfl (pc0 := 6) (pc' := 16) rfl (B d3_6) rfl (tlt h2).1 (by decide) (by decide) k)
  have pre5 : Go p e bl s1 (mkF m 17 #[iv p1, iv p2, .val .null] [(.int p1)]) s1 EF := fun t k => pre4 t (by
   exact XS.iloadN X0.here hx rfl (B d3_16) rfl k)
  exact fin1 X0 (v := some (.int p1)) hrt hlk (wl rfl) (wl rfl) (by rw [e0]; exact ⟨rfl, N0, rfl⟩) (fun fs hr => hEF ▸ pre5 _ (retOut X0 hx Bd.returns rfl (Or.inl ⟨rfl, Or.inl rfl, _, rfl⟩) (B d3_17) hr))
abbrev rKJci : Room := { frames := 1, cells := 0, slots := 0, locals := 14 }
theorem d4_0 : decode jdk_42_method_155_code 0 = .ok (.iload_n 0, 1) := by decide +kernel
theorem d4_1 : decode jdk_42_method_155_code 1 = .ok (.iload_n 1, 1) := by decide +kernel
theorem d4_2 : decode jdk_42_method_155_code 2 = .ok (.getstatic 1053, 3) := by decide +kernel
theorem d4_5 : decode jdk_42_method_155_code 5 = .ok (.invokestatic 1059, 3) := by decide +kernel
theorem d4_8 : decode jdk_42_method_155_code 8 = .ok (.pop, 1) := by decide +kernel
theorem d4_9 : decode jdk_42_method_155_code 9 = .ok (.return_, 1) := by decide +kernel
theorem pd1 : parseMethodDescriptor "(IILjava/util/function/BiFunction;)I" = some ⟨[.int, .int, (.object "java/util/function/BiFunction")], some .int⟩ := by decide +kernel
theorem efJci (m : MethodId) (p1 : Int32) (p2 : Int32) : entryFrame m #[(.int p1), (.int p2)] 2 = mkF m 0 #[iv p1, iv p2] [] := by first | (simp [entryFrame, mkF, argsToLocals, Value.category]; done) | rfl
def QJci (Z : State) (p1 : Int32) (p2 : Int32) (cz : Int32) (fv : Value) (h0 : Heap) (n0 : Nat) (v : Option Value) (h : Heap) (L : List Loc) : Prop := v = none ∧ Fr n0 L ∧ h = h0
set_option maxRecDepth 65536 in
set_option maxHeartbeats 40000000 in
theorem rmJci (l : Launch) (Z : State) (a0 : Array Value) (hw : HW a0 Z) (ws : List Jvm.Cond) (p1 : Int32) (p2 : Int32) (cz : Int32) (fv : Value) (h0 : Heap) (n0 : Nat) (Z0 : n0 ≤ h0.size) (O0 : Old Z n0 h0) (J0 : Jd Z cz fv) (h1 : ¬ p1 < 0) (h2 : p1 < p2) :
    MF l Z mN4 jdk_42_method_155_code 2 none ws rKJci #[(.int p1), (.int p2)] h0 (QJci Z p1 p2 cz fv h0 n0) := by
  refine MetFree.of_bodySF (plainFor_of_name pn0) hisR ?_
  intro p e s m args bl meth c s1 Bd hml0 hP hK
  obtain ⟨rfl, hZ, hh⟩ := hP
  have hx := Bd.exec
  have hby := Bd.bytes
  have B := @hb c _ hby
  have hM := fun {n : Nat} (h : n = 2) => h.trans hml0.symm
  have hown : s.vm.findClass "java/lang/String" = some m.cls := findClass_of_methodNamed Bd.named
  have hlk : meth.locks = false := BodyLoose.notSynchronized Bd
  have X0 : Stand p l e rKJci s m #[(.int p1), (.int p2)] bl meth c s1 [] 0 0 := Stand.of_body Bd
  have e0 : s1.heap = h0 := by rw [← hh, Bd.state]; rfl
  have N0 := Fr.nil n0
  obtain ⟨EF, hEF⟩ : ∃ f, f = entryFrame m #[(.int p1), (.int p2)] 2 := ⟨_, rfl⟩
  have pre0 : Go p e bl s1 (mkF m 0 #[iv p1, iv p2] []) s1 EF := fun t k => by rw [hEF]; exact castTop (efJci m p1 p2) k
  have hfr := J0.2.2.1.1
  have hfs := J0.2.2.1.2
  rcases ref_cases hfr with hfv | ⟨fo, hfv⟩
  · rw [hfv] at hfs
    have pre1 : Go p e bl s1 (mkF m 2 #[iv p1, iv p2] [(.int p2), (.int p1)]) s1 EF := fun t k => pre0 t (by
     refine XS.iloadN X0.here hx rfl (B d4_0) rfl ?_
     exact XS.iloadN X0.here hx rfl (B d4_1) rfl k)
    obtain ⟨T2, X2, e2, st2⟩ := getS2 X0 hx hZ hown (host := "") (Or.inl (hw _ (mW 81 rfl))) Via.refl e0 (hfs.ext O0.2) (g := (mkF m 2 #[iv p1, iv p2] [(.int p2), (.int p1)])) rfl (B d4_2)
    have pre3 : Go p e bl T2 (mkF m 5 #[iv p1, iv p2] [.null, (.int p2), (.int p1)]) s1 EF := fun t k => pre1 t (st2 t k)
    obtain ⟨_, _, ⟨T4, L4, k4, n4⟩, -, X4, ⟨Lc4, hQ4, l4, y4, z4⟩, st4⟩ := Jvm.LawKit.callS X2 hx (y := mN3) hown (mvT hZ (hw _ (mW 83 rfl))) (mvT hZ (hw _ (mW 84 rfl))) (mvT hZ (hw _ (mW 82 rfl))) (mvT hZ (hw _ (mW 85 rfl))) (by decide) (backOf (W := 0) (rmJpn l Z a0 hw [] p1 p2 cz fv  h0 n0 Z0 O0 J0 h1 h2) hZ (hw _ (mW 85 rfl)) (hw _ (mW 82 rfl)) (by decide) (by decide)) (g := (mkF m 5 #[iv p1, iv p2] [.null, (.int p2), (.int p1)])) rfl (hM rfl) (argsL := [(.int p1), (.int p2), .null]) (rest := []) (lenOf pd1 rfl) rfl (Nat.le_of_eq rfl) (B d4_5) (fun _ _ => ⟨rfl, e2, wl rfl, wl rfl⟩)
    dsimp only [Pt.U, Pt.locs, Pt.cells, Pt.slots] at X4 l4 y4 z4 st4 hQ4
    subst l4 y4 z4
    obtain ⟨rfl, N4q, hq4⟩ := hQ4
    have N4 := Fr.app N0 N4q
    have pre5 : Go p e bl T4 (mkF m 8 #[iv p1, iv p2] [(.int p1)]) s1 EF := fun t k => pre3 t (st4 t k)
    have e4 : T4.heap = h0 := hq4
    have pre6 : Go p e bl T4 (mkF m 9 #[iv p1, iv p2] []) s1 EF := fun t k => pre5 t (by
     exact XS.pop X4.here hx rfl (B d4_8) rfl rfl k)
    exact fin1 X4 (v := none) (fun _ => rfl) hlk (wl rfl) (wl rfl) (by rw [e4]; exact ⟨rfl, N4, rfl⟩) (fun fs hr => hEF ▸ pre6 _ (X4.returnOut hx Bd.returns (B d4_9) hr))
  · rw [hfv] at hfs
    have pre7 : Go p e bl s1 (mkF m 2 #[iv p1, iv p2] [(.int p2), (.int p1)]) s1 EF := fun t k => pre0 t (by
     refine XS.iloadN X0.here hx rfl (B d4_0) rfl ?_
     exact XS.iloadN X0.here hx rfl (B d4_1) rfl k)
    obtain ⟨T8, X8, e8, st8⟩ := getS2 X0 hx hZ hown (host := "") (Or.inl (hw _ (mW 81 rfl))) Via.refl e0 (hfs.ext O0.2) (g := (mkF m 2 #[iv p1, iv p2] [(.int p2), (.int p1)])) rfl (B d4_2)
    have pre9 : Go p e bl T8 (mkF m 5 #[iv p1, iv p2] [(.ref fo), (.int p2), (.int p1)]) s1 EF := fun t k => pre7 t (st8 t k)
    obtain ⟨_, _, ⟨T10, L10, k10, n10⟩, -, X10, ⟨Lc10, hQ10, l10, y10, z10⟩, st10⟩ := Jvm.LawKit.callS X8 hx (y := mN3) hown (mvT hZ (hw _ (mW 83 rfl))) (mvT hZ (hw _ (mW 84 rfl))) (mvT hZ (hw _ (mW 82 rfl))) (mvT hZ (hw _ (mW 85 rfl))) (by decide) (backOf (W := 0) (rmJpc l Z a0 hw [] p1 p2 fo cz fv  h0 n0 Z0 O0 J0 h1 h2) hZ (hw _ (mW 85 rfl)) (hw _ (mW 82 rfl)) (by decide) (by decide)) (g := (mkF m 5 #[iv p1, iv p2] [(.ref fo), (.int p2), (.int p1)])) rfl (hM rfl) (argsL := [(.int p1), (.int p2), (.ref fo)]) (rest := []) (lenOf pd1 rfl) rfl (Nat.le_of_eq rfl) (B d4_5) (fun _ _ => ⟨rfl, e8, wl rfl, wl rfl⟩)
    dsimp only [Pt.U, Pt.locs, Pt.cells, Pt.slots] at X10 l10 y10 z10 st10 hQ10
    subst l10 y10 z10
    obtain ⟨rfl, N10q, hq10⟩ := hQ10
    have N10 := Fr.app N0 N10q
    have pre11 : Go p e bl T10 (mkF m 8 #[iv p1, iv p2] [(.int p1)]) s1 EF := fun t k => pre9 t (st10 t k)
    have e10 : T10.heap = h0 := hq10
    have pre12 : Go p e bl T10 (mkF m 9 #[iv p1, iv p2] []) s1 EF := fun t k => pre11 t (by
     exact XS.pop X10.here hx rfl (B d4_8) rfl rfl k)
    exact fin1 X10 (v := none) (fun _ => rfl) hlk (wl rfl) (wl rfl) (by rw [e10]; exact ⟨rfl, N10, rfl⟩) (fun fs hr => hEF ▸ pre12 _ (X10.returnOut hx Bd.returns (B d4_9) hr))
abbrev rKJl1 : Room := { frames := 2, cells := 0, slots := 0, locals := 27 }
theorem d5_0 : decode jdk_43_method_2_code 0 = .ok (.iload_n 1, 1) := by decide +kernel
theorem d5_1 : decode jdk_43_method_2_code 1 = .ok (.aload_n 0, 1) := by decide +kernel
theorem d5_2 : decode jdk_43_method_2_code 2 = .ok (.arraylength, 1) := by decide +kernel
theorem d5_3 : decode jdk_43_method_2_code 3 = .ok (.invokestatic 9, 3) := by decide +kernel
theorem d5_6 : decode jdk_43_method_2_code 6 = .ok (.aload_n 0, 1) := by decide +kernel
theorem d5_7 : decode jdk_43_method_2_code 7 = .ok (.iload_n 1, 1) := by decide +kernel
theorem d5_8 : decode jdk_43_method_2_code 8 = .ok (.baload, 1) := by decide +kernel
theorem d5_9 : decode jdk_43_method_2_code 9 = .ok (.sipush 255, 3) := by decide +kernel
theorem d5_12 : decode jdk_43_method_2_code 12 = .ok (.iand, 1) := by decide +kernel
theorem d5_13 : decode jdk_43_method_2_code 13 = .ok (.i2c, 1) := by decide +kernel
theorem d5_14 : decode jdk_43_method_2_code 14 = .ok (.ireturn, 1) := by decide +kernel
theorem pn2 : plainName "java/lang/StringLatin1" = true := by first | (simp [plainName, overriddenIn]; done) | decide +kernel
theorem pd2 : parseMethodDescriptor "(II)V" = some ⟨[.int, .int], none⟩ := by decide +kernel
theorem efJl1 (m : MethodId) (a1 : Addr) (p1 : Int32) : entryFrame m #[(.ref a1), (.int p1)] 2 = mkF m 0 #[rv a1, iv p1] [] := by first | (simp [entryFrame, mkF, argsToLocals, Value.category]; done) | rfl
def QJl1 (Z : State) (a1 : Addr) (p1 : Int32) (cz : Int32) (fv : Value) (k : ClassId) (z : Int32) (vs : List Value) (bv : Int32) (r : Int32) (h0 : Heap) (n0 : Nat) (v : Option Value) (h : Heap) (L : List Loc) : Prop := v = some (.int r) ∧ Fr n0 L ∧ h = h0
set_option maxRecDepth 65536 in
set_option maxHeartbeats 40000000 in
theorem rmJl1 (l : Launch) (Z : State) (a0 : Array Value) (hw : HW a0 Z) (ws : List Jvm.Cond) (a1 : Addr) (p1 : Int32) (cz : Int32) (fv : Value) (k : ClassId) (z : Int32) (vs : List Value) (bv : Int32) (r : Int32) (h0 : Heap) (n0 : Nat) (Z0 : n0 ≤ h0.size) (O0 : Old Z n0 h0) (J0 : Jd Z cz fv) (VV : Arv Z h0 a1 k .byte z vs (.int 0)) (h1 : ¬ p1 < 0) (h2 : p1 < z) (hv : vs.getD p1.toNatClampNeg (.int 0) = .int bv) (hR : bv &&& 255 = r) :
    MF l Z mN5 jdk_43_method_2_code 2 (some .char) ws rKJl1 #[(.ref a1), (.int p1)] h0 (QJl1 Z a1 p1 cz fv k z vs bv r h0 n0) := by
  refine MetFree.of_bodySF (plainFor_of_name pn2) hisR ?_
  intro p e s m args bl meth c s1 Bd hml0 hP hK
  obtain ⟨rfl, hZ, hh⟩ := hP
  have hx := Bd.exec
  have hby := Bd.bytes
  have B := @hb c _ hby
  have hM := fun {n : Nat} (h : n = 2) => h.trans hml0.symm
  have hown : s.vm.findClass "java/lang/StringLatin1" = some m.cls := findClass_of_methodNamed Bd.named
  have hlk : meth.locks = false := BodyLoose.notSynchronized Bd
  have hrt : ∀ {v : Option Value}, meth.sig.returnType = none → v = none := fun h => by rw [Bd.returns] at h; cases h
  have X0 : Stand p l e rKJl1 s m #[(.ref a1), (.int p1)] bl meth c s1 [] 0 0 := Stand.of_body Bd
  have e0 : s1.heap = h0 := by rw [← hh, Bd.state]; rfl
  have N0 := Fr.nil n0
  obtain ⟨EF, hEF⟩ : ∃ f, f = entryFrame m #[(.ref a1), (.int p1)] 2 := ⟨_, rfl⟩
  have pre0 : Go p e bl s1 (mkF m 0 #[rv a1, iv p1] []) s1 EF := fun t k => by rw [hEF]; exact castTop (efJl1 m a1 p1) k
  have pre1 : Go p e bl s1 (mkF m 2 #[rv a1, iv p1] [(.ref a1), (.int p1)]) s1 EF := fun t k => pre0 t (by
   refine XS.iloadN X0.here hx rfl (B d5_0) rfl ?_
   exact XS.aloadN X0.here hx rfl (B d5_1) rfl rfl k)
  obtain ⟨cl2, Ar2, q2, Sz2, M2, H2, G2⟩ := id VV
  have pre3 : Go p e bl s1 (mkF m 3 #[rv a1, iv p1] [(.int z), (.int p1)]) s1 EF := fun t k => pre1 t (by
   refine X0.arraylength hx (by rw [e0]; exact Ar2.1) (State.isArrayOf_alike hZ.alike Ar2.2.1) (g := (mkF m 2 #[rv a1, iv p1] [(.ref a1), (.int p1)])) rfl rfl (B d5_2) _ ?_
   rw [len_of Sz2 M2]
   exact k)
  obtain ⟨_, _, ⟨T4, L4, k4, n4⟩, -, X4, ⟨Lc4, hQ4, l4, y4, z4⟩, st4⟩ := Jvm.LawKit.callS X0 hx (y := mN4) hown (mvT hZ (hw _ (mW 78 rfl))) (mvT hZ (hw _ (mW 79 rfl))) (mvT hZ (hw _ (mW 10 rfl))) (mvT hZ (hw _ (mW 80 rfl))) (by decide) (backOf (W := 0) (rmJci l Z a0 hw [] p1 z cz fv  h0 n0 Z0 O0 J0 h1 h2) hZ (hw _ (mW 80 rfl)) (hw _ (mW 10 rfl)) (by decide) (by decide)) (g := (mkF m 3 #[rv a1, iv p1] [(.int z), (.int p1)])) rfl (hM rfl) (argsL := [(.int p1), (.int z)]) (rest := []) (lenOf pd2 rfl) rfl (Nat.le_of_eq rfl) (B d5_3) (fun _ _ => ⟨rfl, e0, wl rfl, wl rfl⟩)
  dsimp only [Pt.U, Pt.locs, Pt.cells, Pt.slots] at X4 l4 y4 z4 st4 hQ4
  subst l4 y4 z4
  obtain ⟨rfl, N4q, hq4⟩ := hQ4
  have N4 := Fr.app N0 N4q
  have pre5 : Go p e bl T4 (mkF m 6 #[rv a1, iv p1] []) s1 EF := fun t k => pre3 t (st4 t k)
  have e4 : T4.heap = h0 := hq4
  have pre6 : Go p e bl T4 (mkF m 8 #[rv a1, iv p1] [(.int p1), (.ref a1)]) s1 EF := fun t k => pre5 t (by
   refine XS.aloadN X4.here hx rfl (B d5_6) rfl rfl ?_
   exact XS.iloadN X4.here hx rfl (B d5_7) rfl k)
  obtain ⟨cl7, Ar7, q7, Sz7, M7, H7, G7⟩ := id VV
  have hin7 : ¬ (p1 < 0 ∨ cl7.slots.size ≤ (p1).toNatClampNeg) := inb_of Sz7 ⟨h1, h2⟩
  have hat7 : cl7.slots[(p1).toNatClampNeg]? = some (.int bv) := Has.at H7 hin7 hv
  have pre8 : Go p e bl T4 (mkF m 14 #[rv a1, iv p1] [(.int ((bv &&& (255 : Int32)).toUInt32.toUInt16.toUInt32.toInt32))]) s1 EF := fun t k => pre6 t (by
   refine X4.baloadBytes hx (j := p1) (v := (.int bv)) (by rw [e4]; exact Ar7.1) (State.isArrayOf_alike hZ.alike Ar7.2.1) Ar7.2.2 hin7 hat7 (g := (mkF m 8 #[rv a1, iv p1] [(.int p1), (.ref a1)])) rfl rfl (B d5_8) _ ?_
   refine XS.sipush X4.here hx rfl (B d5_9) ?_
   refine XS.iand X4.here hx rfl (B d5_12) rfl ?_
   exact XS.i2c X4.here hx rfl (B d5_13) rfl k)
  have hnr : Value.int (nar .char ((bv &&& (255 : Int32)).toUInt32.toUInt16.toUInt32.toInt32)) = (.int (bv &&& 255)) := by show Value.int (((bv &&& 255).toUInt32.toUInt16.toUInt32.toInt32).toUInt32.toUInt16.toUInt32.toInt32) = _; rw [i2c_mask, i2c_mask]
  exact fin1 X4 (v := some (.int (bv &&& 255))) hrt hlk (wl rfl) (wl rfl) (by rw [e4]; exact ⟨by rw [hR], N4, rfl⟩) (fun fs hr => hEF ▸ pre8 _ (retN X4 hx (t := .char) Bd.returns (by simp) (B d5_14) (hnr ▸ hr)))
abbrev rKJcl : Room := { frames := 3, cells := 0, slots := 0, locals := 40 }
theorem d6_0 : decode jdk_42_method_56_code 0 = .ok (.aload_n 0, 1) := by decide +kernel
theorem d6_1 : decode jdk_42_method_56_code 1 = .ok (.invokevirtual 492, 3) := by decide +kernel
theorem d6_4 : decode jdk_42_method_56_code 4 = .ok (.ifCond .eq 12, 3) := by decide +kernel
theorem d6_7 : decode jdk_42_method_56_code 7 = .ok (.aload_n 0, 1) := by decide +kernel
theorem d6_8 : decode jdk_42_method_56_code 8 = .ok (.getfield 9, 3) := by decide +kernel
theorem d6_11 : decode jdk_42_method_56_code 11 = .ok (.iload_n 1, 1) := by decide +kernel
theorem d6_12 : decode jdk_42_method_56_code 12 = .ok (.invokestatic 495, 3) := by decide +kernel
theorem d6_15 : decode jdk_42_method_56_code 15 = .ok (.ireturn, 1) := by decide +kernel
theorem pd3 : parseMethodDescriptor "()Z" = some ⟨[], some .boolean⟩ := by decide +kernel
theorem pd4 : parseMethodDescriptor "([BI)C" = some ⟨[(.array .byte), .int], some .char⟩ := by decide +kernel
theorem efJcl (m : MethodId) (a1 : Addr) (p1 : Int32) : entryFrame m #[(.ref a1), (.int p1)] 2 = mkF m 0 #[rv a1, iv p1] [] := by first | (simp [entryFrame, mkF, argsToLocals, Value.category]; done) | rfl
def QJcl (Z : State) (a1 : Addr) (p1 : Int32) (cz : Int32) (fv : Value) (b : Addr) (k : ClassId) (z : Int32) (vs : List Value) (bv : Int32) (r : Int32) (h0 : Heap) (n0 : Nat) (v : Option Value) (h : Heap) (L : List Loc) : Prop := v = some (.int r) ∧ Fr n0 L ∧ h = h0
set_option maxRecDepth 65536 in
set_option maxHeartbeats 40000000 in
theorem rmJcl (l : Launch) (Z : State) (a0 : Array Value) (hw : HW a0 Z) (ws : List Jvm.Cond) (a1 : Addr) (p1 : Int32) (cz : Int32) (fv : Value) (b : Addr) (k : ClassId) (z : Int32) (vs : List Value) (bv : Int32) (r : Int32) (h0 : Heap) (n0 : Nat) (Z0 : n0 ≤ h0.size) (O0 : Old Z n0 h0) (J0 : Jd Z cz fv) (E1 : Exa Z h0 a1 "java/lang/String") (FC : Fld Z h0 a1 "java/lang/String" "coder" "B" (.int 0)) (FV : Fld Z h0 a1 "java/lang/String" "value" "[B" (.ref b)) (VV : Arv Z h0 b k .byte z vs (.int 0)) (h1 : ¬ p1 < 0) (h2 : p1 < z) (hv : vs.getD p1.toNatClampNeg (.int 0) = .int bv) (hR : bv &&& 255 = r) (hnr0 : nar .char r = r) :
    MF l Z mN6 jdk_42_method_56_code 2 (some .char) ws rKJcl #[(.ref a1), (.int p1)] h0 (QJcl Z a1 p1 cz fv b k z vs bv r h0 n0) := by
  refine MetFree.of_bodySF (plainFor_of_name pn0) hisR ?_
  intro p e s m args bl meth c s1 Bd hml0 hP hK
  obtain ⟨rfl, hZ, hh⟩ := hP
  have hx := Bd.exec
  have hby := Bd.bytes
  have B := @hb c _ hby
  have hM := fun {n : Nat} (h : n = 2) => h.trans hml0.symm
  have hown : s.vm.findClass "java/lang/String" = some m.cls := findClass_of_methodNamed Bd.named
  have hlk : meth.locks = false := BodyLoose.notSynchronized Bd
  have hrt : ∀ {v : Option Value}, meth.sig.returnType = none → v = none := fun h => by rw [Bd.returns] at h; cases h
  have X0 : Stand p l e rKJcl s m #[(.ref a1), (.int p1)] bl meth c s1 [] 0 0 := Stand.of_body Bd
  have e0 : s1.heap = h0 := by rw [← hh, Bd.state]; rfl
  have N0 := Fr.nil n0
  obtain ⟨EF, hEF⟩ : ∃ f, f = entryFrame m #[(.ref a1), (.int p1)] 2 := ⟨_, rfl⟩
  have pre0 : Go p e bl s1 (mkF m 0 #[rv a1, iv p1] []) s1 EF := fun t k => by rw [hEF]; exact castTop (efJcl m a1 p1) k
  have pre1 : Go p e bl s1 (mkF m 1 #[rv a1, iv p1] [(.ref a1)]) s1 EF := fun t k => pre0 t (by
   exact XS.aloadN X0.here hx rfl (B d6_0) rfl rfl k)
  obtain ⟨cq2, kq2, q2a, q2b, q2c⟩ := isOf hZ e0 E1
  obtain ⟨_, _, ⟨T2, L2, k2, n2⟩, -, X2, ⟨Lc2, hQ2, l2, y2, z2⟩, st2⟩ := X0.virtualBack hx (y := mN2) (z := mN2) hown (mvT hZ (hw _ (mW 69 rfl))) (mvT hZ (hw _ (mW 70 rfl))) (notFace_of_selects (args := #[]) (mvT hZ (hw _ (mW 72 rfl)))) (mvT hZ (hw _ (mW 72 rfl))) (mvT hZ (hw _ (mW 71 rfl))) (by decide) (backOf (W := 0) (rmJil l Z a0 hw [] a1 cz fv (0 : Int32) (1 : Int32) h0 n0 Z0 O0 J0 FC (by decide)) hZ (hw _ (mW 73 rfl)) (hw _ (mW 10 rfl)) (by decide) (by decide)) q2a q2c (g := (mkF m 1 #[rv a1, iv p1] [(.ref a1)])) rfl (hM rfl) (Steps.refl _) (argsL := []) (rest := []) (lenOf pd3 rfl) rfl (Nat.le_of_eq rfl) (B d6_1) (fun _ _ => ⟨rfl, e0, wl rfl, wl rfl⟩)
  dsimp only [Pt.U, Pt.locs, Pt.cells, Pt.slots] at X2 l2 y2 z2 st2 hQ2
  subst l2 y2 z2
  obtain ⟨rfl, N2q, hq2⟩ := hQ2
  have N2 := Fr.app N0 N2q
  have pre3 : Go p e bl T2 (mkF m 4 #[rv a1, iv p1] [(.int (1 : Int32))]) s1 EF := fun t k => pre1 t (st2.trans k)
  have e2 : T2.heap = h0 := hq2
  have pre4 : Go p e bl T2 (mkF m 7 #[rv a1, iv p1] []) s1 EF := fun t k => pre3 t (XS.ifNo X2.here hx rfl (B d6_4) rfl ((if0 _ _).trans (feq (by decide : ¬ ((1 : Int32) = (0 : Int32)))).1) k)
  have pre5 : Go p e bl T2 (mkF m 8 #[rv a1, iv p1] [(.ref a1)]) s1 EF := fun t k => pre4 t (by
   exact XS.aloadN X2.here hx rfl (B d6_7) rfl rfl k)
  obtain ⟨T6, X6, e6, st6⟩ := getF X2 hx hZ hown (host := "") (Or.inl (hw _ (mW 36 rfl))) Via.refl e2 FV (g := (mkF m 8 #[rv a1, iv p1] [(.ref a1)])) rfl rfl (B d6_8)
  have pre7 : Go p e bl T6 (mkF m 11 #[rv a1, iv p1] [(.ref b)]) s1 EF := fun t k => pre5 t (st6 t k)
  have pre8 : Go p e bl T6 (mkF m 12 #[rv a1, iv p1] [(.int p1), (.ref b)]) s1 EF := fun t k => pre7 t (by
   exact XS.iloadN X6.here hx rfl (B d6_11) rfl k)
  obtain ⟨_, _, ⟨T9, L9, k9, n9⟩, -, X9, ⟨Lc9, hQ9, l9, y9, z9⟩, st9⟩ := Jvm.LawKit.callS X6 hx (y := mN5) hown (mvT hZ (hw _ (mW 74 rfl))) (mvT hZ (hw _ (mW 75 rfl))) (mvT hZ (hw _ (mW 76 rfl))) (mvT hZ (hw _ (mW 77 rfl))) (by decide) (backOf (W := 0) (rmJl1 l Z a0 hw [] b p1 cz fv k z vs bv r h0 n0 Z0 O0 J0 VV h1 h2 hv hR) hZ (hw _ (mW 77 rfl)) (hw _ (mW 76 rfl)) (by decide) (by decide)) (g := (mkF m 12 #[rv a1, iv p1] [(.int p1), (.ref b)])) rfl (hM rfl) (argsL := [(.ref b), (.int p1)]) (rest := []) (lenOf pd4 rfl) rfl (Nat.le_of_eq rfl) (B d6_12) (fun _ _ => ⟨rfl, e6, wl rfl, wl rfl⟩)
  dsimp only [Pt.U, Pt.locs, Pt.cells, Pt.slots] at X9 l9 y9 z9 st9 hQ9
  subst l9 y9 z9
  obtain ⟨rfl, N9q, hq9⟩ := hQ9
  have N9 := Fr.app N2 N9q
  have pre10 : Go p e bl T9 (mkF m 15 #[rv a1, iv p1] [(.int r)]) s1 EF := fun t k => pre8 t (st9 t k)
  have e9 : T9.heap = h0 := hq9
  have hnr : Value.int (nar .char r) = (.int r) := by rw [hnr0]
  exact fin1 X9 (v := some (.int r)) hrt hlk (wl rfl) (wl rfl) (by rw [e9]; exact ⟨rfl, N9, rfl⟩) (fun fs hr => hEF ▸ pre10 _ (retN X9 hx (t := .char) Bd.returns (by simp) (B d6_15) (hnr ▸ hr)))
theorem own_len {n : Int32} {bs : List Int32} (h1 : n.toInt = bs.length) (h2 : 1 ≤ bs.length) (h3 : bs.length ≤ 4) : (∃ u0, bs = [u0] ∧ n = 1) ∨ (∃ u0 u1, bs = [u0, u1] ∧ n = 2) ∨ (∃ u0 u1 u2, bs = [u0, u1, u2] ∧ n = 3) ∨ (∃ u0 u1 u2 u3, bs = [u0, u1, u2, u3] ∧ n = 4) := by
  match bs, h1, h2, h3 with
  | [u0], h1, _, _ => exact Or.inl ⟨u0, rfl, by rw [← Int32.toInt_inj, h1]; rfl⟩
  | [u0, u1], h1, _, _ => exact Or.inr (Or.inl ⟨u0, u1, rfl, by rw [← Int32.toInt_inj, h1]; rfl⟩)
  | [u0, u1, u2], h1, _, _ => exact Or.inr (Or.inr (Or.inl ⟨u0, u1, u2, rfl, by rw [← Int32.toInt_inj, h1]; rfl⟩))
  | [u0, u1, u2, u3], h1, _, _ => exact Or.inr (Or.inr (Or.inr (⟨u0, u1, u2, u3, rfl, by rw [← Int32.toInt_inj, h1]; rfl⟩)))
  | [], _, h2, _ => exact absurd h2 (by decide)
  | _ :: _ :: _ :: _ :: _ :: _, _, _, h3 => simp at h3
theorem own_sa : ∀ w ∈ Bundle.stringAtoms, w ∈ tables_1 := by decide +kernel
theorem own_wS {Z : State} {a0 : Array Value} (hw : ∀ d ∈ tables_1, d.before a0 Z = true) : ∀ a ∈ Bundle.stringAtoms, a.before a0 Z = true := fun a ha => hw a (own_sa a ha)
abbrev rKJem : Room := { frames := 0, cells := 0, slots := 0, locals := 0 }
theorem d7_0 : decode jdk_42_method_55_code 0 = .ok (.aload_n 0, 1) := by decide +kernel
theorem d7_1 : decode jdk_42_method_55_code 1 = .ok (.getfield 9, 3) := by decide +kernel
theorem d7_4 : decode jdk_42_method_55_code 4 = .ok (.arraylength, 1) := by decide +kernel
theorem d7_5 : decode jdk_42_method_55_code 5 = .ok (.ifCond .ne 7, 3) := by decide +kernel
theorem d7_12 : decode jdk_42_method_55_code 12 = .ok (.iconst 0, 1) := by decide +kernel
theorem d7_13 : decode jdk_42_method_55_code 13 = .ok (.ireturn, 1) := by decide +kernel
theorem efJem (m : MethodId) (a1 : Addr) : entryFrame m #[(.ref a1)] 1 = mkF m 0 #[rv a1] [] := by first | (simp [entryFrame, mkF, argsToLocals, Value.category]; done) | rfl
def QJem (Z : State) (a1 : Addr) (cz : Int32) (fv : Value) (b : Addr) (k : ClassId) (n : Int32) (bs : List Int32) (hs : Int32) (hz : Int32) (h0 : Heap) (n0 : Nat) (v : Option Value) (h : Heap) (L : List Loc) : Prop := v = some (.int (0 : Int32)) ∧ Fr n0 L ∧ h = h0
set_option maxRecDepth 65536 in
set_option maxHeartbeats 40000000 in
theorem rmJem (l : Launch) (Z : State) (a0 : Array Value) (hw : HW a0 Z) (ws : List Jvm.Cond) (a1 : Addr) (cz : Int32) (fv : Value) (b : Addr) (k : ClassId) (n : Int32) (bs : List Int32) (hs : Int32) (hz : Int32) (h0 : Heap) (n0 : Nat) (Z0 : n0 ≤ h0.size) (O0 : Old Z n0 h0) (J0 : Jd Z cz fv) (SL : StL Z h0 a1 b k n bs hs hz) (hn0 : ¬ n = 0) :
    MF l Z mN7 jdk_42_method_55_code 1 (some .boolean) ws rKJem #[(.ref a1)] h0 (QJem Z a1 cz fv b k n bs hs hz h0 n0) := by
  refine MetFree.of_bodySF (plainFor_of_name pn0) hisR ?_
  intro p e s m args bl meth c s1 Bd hml0 hP hK
  obtain ⟨rfl, hZ, hh⟩ := hP
  have hx := Bd.exec
  have hby := Bd.bytes
  have B := @hb c _ hby
  have hown : s.vm.findClass "java/lang/String" = some m.cls := findClass_of_methodNamed Bd.named
  have hlk : meth.locks = false := BodyLoose.notSynchronized Bd
  have hrt : ∀ {v : Option Value}, meth.sig.returnType = none → v = none := fun h => by rw [Bd.returns] at h; cases h
  have X0 : Stand p l e rKJem s m #[(.ref a1)] bl meth c s1 [] 0 0 := Stand.of_body Bd
  have e0 : s1.heap = h0 := by rw [← hh, Bd.state]; rfl
  have N0 := Fr.nil n0
  obtain ⟨EF, hEF⟩ : ∃ f, f = entryFrame m #[(.ref a1)] 1 := ⟨_, rfl⟩
  have pre0 : Go p e bl s1 (mkF m 0 #[rv a1] []) s1 EF := fun t k => by rw [hEF]; exact castTop (efJem m a1) k
  have pre1 : Go p e bl s1 (mkF m 1 #[rv a1] [(.ref a1)]) s1 EF := fun t k => pre0 t (by
   exact XS.aloadN X0.here hx rfl (B d7_0) rfl rfl k)
  obtain ⟨T2, X2, e2, st2⟩ := getF X0 hx hZ hown (host := "") (Or.inl (hw _ (mW 36 rfl))) Via.refl e0 SL.2.2.1 (g := (mkF m 1 #[rv a1] [(.ref a1)])) rfl rfl (B d7_1)
  have pre3 : Go p e bl T2 (mkF m 4 #[rv a1] [(.ref b)]) s1 EF := fun t k => pre1 t (st2 t k)
  obtain ⟨cl4, Ar4, q4, Sz4, M4, H4, G4⟩ := id SL.2.2.2.1
  have pre5 : Go p e bl T2 (mkF m 5 #[rv a1] [(.int n)]) s1 EF := fun t k => pre3 t (by
   refine X2.arraylength hx (by rw [e2]; exact Ar4.1) (State.isArrayOf_alike hZ.alike Ar4.2.1) (g := (mkF m 4 #[rv a1] [(.ref b)])) rfl rfl (B d7_4) _ ?_
   rw [len_of Sz4 M4]
   exact k)
  have pre6 : Go p e bl T2 (mkF m 12 #[rv a1] []) s1 EF := fun t k => pre5 t (XS.ifYes X2.here hx rfl (pc0 := 5) (pc' := 12) rfl (B d7_5) rfl ((if0 _ _).trans (feq hn0).2) (by decide) (by decide) k)
  have pre7 : Go p e bl T2 (mkF m 13 #[rv a1] [(.int (0 : Int32))]) s1 EF := fun t k => pre6 t (by
   exact XS.iconst X2.here hx rfl (B d7_12) k)
  have hnr : Value.int (nar .boolean (0 : Int32)) = (.int (0 : Int32)) := by rfl
  exact fin1 X2 (v := some (.int (0 : Int32))) hrt hlk (wl rfl) (wl rfl) (by rw [e2]; exact ⟨rfl, N0, rfl⟩) (fun fs hr => hEF ▸ pre7 _ (retN X2 hx (t := .boolean) Bd.returns (by simp) (B d7_13) (hnr ▸ hr)))
def eqB : List Int32 → List Int32 → Int32
  | [], [] => 1
  | x :: xs, y :: ys => if x = y then eqB xs ys else 0
  | _, _ => 0
theorem own_eqB : ∀ (xs ys : List Int32), eqB xs ys = 0 ∨ eqB xs ys = 1
  | [], [] => Or.inr rfl
  | [], _ :: _ => Or.inl rfl
  | _ :: _, [] => Or.inl rfl
  | x :: xs, y :: ys => by
    unfold eqB; split
    · exact own_eqB xs ys
    · exact Or.inl rfl
abbrev rKJE1_1 : Room := { frames := 0, cells := 0, slots := 0, locals := 0 }
theorem d8_0 : decode jdk_43_method_13_code 0 = .ok (.aload_n 0, 1) := by decide +kernel
theorem d8_1 : decode jdk_43_method_13_code 1 = .ok (.arraylength, 1) := by decide +kernel
theorem d8_2 : decode jdk_43_method_13_code 2 = .ok (.aload_n 1, 1) := by decide +kernel
theorem d8_3 : decode jdk_43_method_13_code 3 = .ok (.arraylength, 1) := by decide +kernel
theorem d8_4 : decode jdk_43_method_13_code 4 = .ok (.if_icmp .ne 30, 3) := by decide +kernel
theorem d8_7 : decode jdk_43_method_13_code 7 = .ok (.iconst 0, 1) := by decide +kernel
theorem d8_8 : decode jdk_43_method_13_code 8 = .ok (.istore_n 2, 1) := by decide +kernel
theorem d8_9 : decode jdk_43_method_13_code 9 = .ok (.iload_n 2, 1) := by decide +kernel
theorem d8_10 : decode jdk_43_method_13_code 10 = .ok (.aload_n 0, 1) := by decide +kernel
theorem d8_11 : decode jdk_43_method_13_code 11 = .ok (.arraylength, 1) := by decide +kernel
theorem d8_12 : decode jdk_43_method_13_code 12 = .ok (.if_icmp .ge 20, 3) := by decide +kernel
theorem d8_15 : decode jdk_43_method_13_code 15 = .ok (.aload_n 0, 1) := by decide +kernel
theorem d8_16 : decode jdk_43_method_13_code 16 = .ok (.iload_n 2, 1) := by decide +kernel
theorem d8_17 : decode jdk_43_method_13_code 17 = .ok (.baload, 1) := by decide +kernel
theorem d8_18 : decode jdk_43_method_13_code 18 = .ok (.aload_n 1, 1) := by decide +kernel
theorem d8_19 : decode jdk_43_method_13_code 19 = .ok (.iload_n 2, 1) := by decide +kernel
theorem d8_20 : decode jdk_43_method_13_code 20 = .ok (.baload, 1) := by decide +kernel
theorem d8_21 : decode jdk_43_method_13_code 21 = .ok (.if_icmp .eq 5, 3) := by decide +kernel
theorem d8_24 : decode jdk_43_method_13_code 24 = .ok (.iconst 0, 1) := by decide +kernel
theorem d8_25 : decode jdk_43_method_13_code 25 = .ok (.ireturn, 1) := by decide +kernel
theorem d8_26 : decode jdk_43_method_13_code 26 = .ok (.iinc 2 1, 3) := by decide +kernel
theorem d8_29 : decode jdk_43_method_13_code 29 = .ok (.goto (-20), 3) := by decide +kernel
theorem d8_32 : decode jdk_43_method_13_code 32 = .ok (.iconst 1, 1) := by decide +kernel
theorem d8_33 : decode jdk_43_method_13_code 33 = .ok (.ireturn, 1) := by decide +kernel
theorem efJE1_1 (m : MethodId) (a1 : Addr) (a2 : Addr) : entryFrame m #[(.ref a1), (.ref a2)] 3 = mkF m 0 #[rv a1, rv a2, .unset] [] := by first | (simp [entryFrame, mkF, argsToLocals, Value.category]; done) | rfl
def QJE1_1 (Z : State) (a1 : Addr) (a2 : Addr) (cz : Int32) (fv : Value) (k1 : ClassId) (k2 : ClassId) (u0 : Int32) (w0 : Int32) (r : Int32) (h0 : Heap) (n0 : Nat) (v : Option Value) (h : Heap) (L : List Loc) : Prop := v = some (.int r) ∧ Fr n0 L ∧ h = h0
set_option maxRecDepth 65536 in
set_option maxHeartbeats 40000000 in
theorem rmJE1_1 (l : Launch) (Z : State) (a0 : Array Value) (hw : HW a0 Z) (ws : List Jvm.Cond) (a1 : Addr) (a2 : Addr) (cz : Int32) (fv : Value) (k1 : ClassId) (k2 : ClassId) (u0 : Int32) (w0 : Int32) (r : Int32) (h0 : Heap) (n0 : Nat) (Z0 : n0 ≤ h0.size) (O0 : Old Z n0 h0) (J0 : Jd Z cz fv) (V1 : Arv Z h0 a1 k1 .byte (1 : Int32) [(.int u0)] (.int (0 : Int32))) (V2 : Arv Z h0 a2 k2 .byte (1 : Int32) [(.int w0)] (.int (0 : Int32))) (hR : eqB [u0] [w0] = r) :
    MF l Z mN8 jdk_43_method_13_code 3 (some .boolean) ws rKJE1_1 #[(.ref a1), (.ref a2)] h0 (QJE1_1 Z a1 a2 cz fv k1 k2 u0 w0 r h0 n0) := by
  refine MetFree.of_bodySF (plainFor_of_name pn2) hisR ?_
  intro p e s m args bl meth c s1 Bd hml0 hP hK
  obtain ⟨rfl, hZ, hh⟩ := hP
  have hx := Bd.exec
  have hby := Bd.bytes
  have B := @hb c _ hby
  have hown : s.vm.findClass "java/lang/StringLatin1" = some m.cls := findClass_of_methodNamed Bd.named
  have hlk : meth.locks = false := BodyLoose.notSynchronized Bd
  have hrt : ∀ {v : Option Value}, meth.sig.returnType = none → v = none := fun h => by rw [Bd.returns] at h; cases h
  have X0 : Stand p l e rKJE1_1 s m #[(.ref a1), (.ref a2)] bl meth c s1 [] 0 0 := Stand.of_body Bd
  have e0 : s1.heap = h0 := by rw [← hh, Bd.state]; rfl
  have N0 := Fr.nil n0
  obtain ⟨EF, hEF⟩ : ∃ f, f = entryFrame m #[(.ref a1), (.ref a2)] 3 := ⟨_, rfl⟩
  have pre0 : Go p e bl s1 (mkF m 0 #[rv a1, rv a2, .unset] []) s1 EF := fun t k => by rw [hEF]; exact castTop (efJE1_1 m a1 a2) k
  have pre1 : Go p e bl s1 (mkF m 1 #[rv a1, rv a2, .unset] [(.ref a1)]) s1 EF := fun t k => pre0 t (by
   exact XS.aloadN X0.here hx rfl (B d8_0) rfl rfl k)
  obtain ⟨cl2, Ar2, q2, Sz2, M2, H2, G2⟩ := id V1
  have pre3 : Go p e bl s1 (mkF m 3 #[rv a1, rv a2, .unset] [(.ref a2), (.int (1 : Int32))]) s1 EF := fun t k => pre1 t (by
   refine X0.arraylength hx (by rw [e0]; exact Ar2.1) (State.isArrayOf_alike hZ.alike Ar2.2.1) (g := (mkF m 1 #[rv a1, rv a2, .unset] [(.ref a1)])) rfl rfl (B d8_1) _ ?_
   rw [len_of Sz2 M2]
   exact XS.aloadN X0.here hx rfl (B d8_2) rfl rfl k)
  obtain ⟨cl4, Ar4, q4, Sz4, M4, H4, G4⟩ := id V2
  have pre5 : Go p e bl s1 (mkF m 4 #[rv a1, rv a2, .unset] [(.int (1 : Int32)), (.int (1 : Int32))]) s1 EF := fun t k => pre3 t (by
   refine X0.arraylength hx (by rw [e0]; exact Ar4.1) (State.isArrayOf_alike hZ.alike Ar4.2.1) (g := (mkF m 3 #[rv a1, rv a2, .unset] [(.ref a2), (.int (1 : Int32))])) rfl rfl (B d8_3) _ ?_
   rw [len_of Sz4 M4]
   exact k)
  have pre6 : Go p e bl s1 (mkF m 7 #[rv a1, rv a2, .unset] []) s1 EF := fun t k => pre5 t (XS.icmpNo X0.here hx rfl (B d8_4) rfl (teq (by decide : (1 : Int32) = (1 : Int32))).2 k)
  have pre7 : Go p e bl s1 (mkF m 11 #[rv a1, rv a2, iv (0 : Int32)] [(.ref a1), (.int (0 : Int32))]) s1 EF := fun t k => pre6 t (by
   refine XS.iconst X0.here hx rfl (B d8_7) ?_
   refine XS.istoreN X0.here hx rfl (B d8_8) rfl (l' := #[rv a1, rv a2, iv (0 : Int32)]) rfl ?_
   refine XS.iloadN X0.here hx rfl (B d8_9) rfl ?_
   exact XS.aloadN X0.here hx rfl (B d8_10) rfl rfl k)
  obtain ⟨cl8, Ar8, q8, Sz8, M8, H8, G8⟩ := id V1
  have pre9 : Go p e bl s1 (mkF m 12 #[rv a1, rv a2, iv (0 : Int32)] [(.int (1 : Int32)), (.int (0 : Int32))]) s1 EF := fun t k => pre7 t (by
   refine X0.arraylength hx (by rw [e0]; exact Ar8.1) (State.isArrayOf_alike hZ.alike Ar8.2.1) (g := (mkF m 11 #[rv a1, rv a2, iv (0 : Int32)] [(.ref a1), (.int (0 : Int32))])) rfl rfl (B d8_11) _ ?_
   rw [len_of Sz8 M8]
   exact k)
  have pre10 : Go p e bl s1 (mkF m 15 #[rv a1, rv a2, iv (0 : Int32)] []) s1 EF := fun t k => pre9 t (XS.icmpNo X0.here hx rfl (B d8_12) rfl (tlt (by decide : (0 : Int32) < (1 : Int32))).2.1 k)
  have pre11 : Go p e bl s1 (mkF m 17 #[rv a1, rv a2, iv (0 : Int32)] [(.int (0 : Int32)), (.ref a1)]) s1 EF := fun t k => pre10 t (by
   refine XS.aloadN X0.here hx rfl (B d8_15) rfl rfl ?_
   exact XS.iloadN X0.here hx rfl (B d8_16) rfl k)
  obtain ⟨cl12, Ar12, q12, Sz12, M12, H12, G12⟩ := id V1
  have hin12 : ¬ ((0 : Int32) < 0 ∨ cl12.slots.size ≤ ((0 : Int32)).toNatClampNeg) := inb_of Sz12 ⟨by decide, by decide⟩
  have hat12 : cl12.slots[((0 : Int32)).toNatClampNeg]? = some (.int u0) := Has.at H12 hin12 rfl
  have pre13 : Go p e bl s1 (mkF m 20 #[rv a1, rv a2, iv (0 : Int32)] [(.int (0 : Int32)), (.ref a2), (.int u0)]) s1 EF := fun t k => pre11 t (by
   refine X0.baloadBytes hx (j := (0 : Int32)) (v := (.int u0)) (by rw [e0]; exact Ar12.1) (State.isArrayOf_alike hZ.alike Ar12.2.1) Ar12.2.2 hin12 hat12 (g := (mkF m 17 #[rv a1, rv a2, iv (0 : Int32)] [(.int (0 : Int32)), (.ref a1)])) rfl rfl (B d8_17) _ ?_
   refine XS.aloadN X0.here hx rfl (B d8_18) rfl rfl ?_
   exact XS.iloadN X0.here hx rfl (B d8_19) rfl k)
  obtain ⟨cl14, Ar14, q14, Sz14, M14, H14, G14⟩ := id V2
  have hin14 : ¬ ((0 : Int32) < 0 ∨ cl14.slots.size ≤ ((0 : Int32)).toNatClampNeg) := inb_of Sz14 ⟨by decide, by decide⟩
  have hat14 : cl14.slots[((0 : Int32)).toNatClampNeg]? = some (.int w0) := Has.at H14 hin14 rfl
  have pre15 : Go p e bl s1 (mkF m 21 #[rv a1, rv a2, iv (0 : Int32)] [(.int w0), (.int u0)]) s1 EF := fun t k => pre13 t (by
   exact X0.baloadBytes hx (j := (0 : Int32)) (v := (.int w0)) (by rw [e0]; exact Ar14.1) (State.isArrayOf_alike hZ.alike Ar14.2.1) Ar14.2.2 hin14 hat14 (g := (mkF m 20 #[rv a1, rv a2, iv (0 : Int32)] [(.int (0 : Int32)), (.ref a2), (.int u0)])) rfl rfl (B d8_20) _ k)
  by_cases hc21 : u0 = w0
  · have pre16 : Go p e bl s1 (mkF m 26 #[rv a1, rv a2, iv (0 : Int32)] []) s1 EF := fun t k => pre15 t (XS.icmpYes X0.here hx rfl (pc0 := 21) (pc' := 26) rfl (B d8_21) rfl (teq hc21).1 (by decide) (by decide) k)
    have pre17 : Go p e bl s1 (mkF m 11 #[rv a1, rv a2, iv (1 : Int32)] [(.ref a1), (.int (1 : Int32))]) s1 EF := fun t k => pre16 t (by
     refine XS.iinc X0.here hx rfl (B d8_26) rfl (l' := #[rv a1, rv a2, iv (1 : Int32)]) rfl ?_
     refine XS.goto X0.here hx rfl (pc0 := 29) (pc' := 9) rfl (B d8_29) (by decide) (by decide) ?_
     refine XS.iloadN X0.here hx rfl (B d8_9) rfl ?_
     exact XS.aloadN X0.here hx rfl (B d8_10) rfl rfl k)
    obtain ⟨cl18, Ar18, q18, Sz18, M18, H18, G18⟩ := id V1
    have pre19 : Go p e bl s1 (mkF m 12 #[rv a1, rv a2, iv (1 : Int32)] [(.int (1 : Int32)), (.int (1 : Int32))]) s1 EF := fun t k => pre17 t (by
     refine X0.arraylength hx (by rw [e0]; exact Ar18.1) (State.isArrayOf_alike hZ.alike Ar18.2.1) (g := (mkF m 11 #[rv a1, rv a2, iv (1 : Int32)] [(.ref a1), (.int (1 : Int32))])) rfl rfl (B d8_11) _ ?_
     rw [len_of Sz18 M18]
     exact k)
    have pre20 : Go p e bl s1 (mkF m 32 #[rv a1, rv a2, iv (1 : Int32)] []) s1 EF := fun t k => pre19 t (XS.icmpYes X0.here hx rfl (pc0 := 12) (pc' := 32) rfl (B d8_12) rfl (flt (by decide : ¬ ((1 : Int32) < (1 : Int32)))).2.1 (by decide) (by decide) k)
    have pre21 : Go p e bl s1 (mkF m 33 #[rv a1, rv a2, iv (1 : Int32)] [(.int (1 : Int32))]) s1 EF := fun t k => pre20 t (by
     exact XS.iconst X0.here hx rfl (B d8_32) k)
    have hnr : Value.int (nar .boolean (1 : Int32)) = (.int (1 : Int32)) := by rfl
    exact fin1 X0 (v := some (.int (1 : Int32))) hrt hlk (wl rfl) (wl rfl) (by rw [e0]; exact ⟨by rw [← hR]; simp [eqB, hc21], N0, rfl⟩) (fun fs hr => hEF ▸ pre21 _ (retN X0 hx (t := .boolean) Bd.returns (by simp) (B d8_33) (hnr ▸ hr)))
  have pre22 : Go p e bl s1 (mkF m 24 #[rv a1, rv a2, iv (0 : Int32)] []) s1 EF := fun t k => pre15 t (XS.icmpNo X0.here hx rfl (B d8_21) rfl (feq hc21).1 k)
  have pre23 : Go p e bl s1 (mkF m 25 #[rv a1, rv a2, iv (0 : Int32)] [(.int (0 : Int32))]) s1 EF := fun t k => pre22 t (by
   exact XS.iconst X0.here hx rfl (B d8_24) k)
  have hnr : Value.int (nar .boolean (0 : Int32)) = (.int (0 : Int32)) := by rfl
  exact fin1 X0 (v := some (.int (0 : Int32))) hrt hlk (wl rfl) (wl rfl) (by rw [e0]; exact ⟨by rw [← hR]; simp [eqB, hc21], N0, rfl⟩) (fun fs hr => hEF ▸ pre23 _ (retN X0 hx (t := .boolean) Bd.returns (by simp) (B d8_25) (hnr ▸ hr)))
abbrev rKJE1_2 : Room := { frames := 0, cells := 0, slots := 0, locals := 0 }
theorem d8_34 : decode jdk_43_method_13_code 34 = .ok (.iconst 0, 1) := by decide +kernel
theorem d8_35 : decode jdk_43_method_13_code 35 = .ok (.ireturn, 1) := by decide +kernel
theorem efJE1_2 (m : MethodId) (a1 : Addr) (a2 : Addr) : entryFrame m #[(.ref a1), (.ref a2)] 3 = mkF m 0 #[rv a1, rv a2, .unset] [] := by first | (simp [entryFrame, mkF, argsToLocals, Value.category]; done) | rfl
def QJE1_2 (Z : State) (a1 : Addr) (a2 : Addr) (cz : Int32) (fv : Value) (k1 : ClassId) (k2 : ClassId) (u0 : Int32) (w0 : Int32) (w1 : Int32) (r : Int32) (h0 : Heap) (n0 : Nat) (v : Option Value) (h : Heap) (L : List Loc) : Prop := v = some (.int r) ∧ Fr n0 L ∧ h = h0
set_option maxRecDepth 65536 in
set_option maxHeartbeats 40000000 in
theorem rmJE1_2 (l : Launch) (Z : State) (a0 : Array Value) (hw : HW a0 Z) (ws : List Jvm.Cond) (a1 : Addr) (a2 : Addr) (cz : Int32) (fv : Value) (k1 : ClassId) (k2 : ClassId) (u0 : Int32) (w0 : Int32) (w1 : Int32) (r : Int32) (h0 : Heap) (n0 : Nat) (Z0 : n0 ≤ h0.size) (O0 : Old Z n0 h0) (J0 : Jd Z cz fv) (V1 : Arv Z h0 a1 k1 .byte (1 : Int32) [(.int u0)] (.int (0 : Int32))) (V2 : Arv Z h0 a2 k2 .byte (2 : Int32) [(.int w0), (.int w1)] (.int (0 : Int32))) (hR : eqB [u0] [w0, w1] = r) :
    MF l Z mN8 jdk_43_method_13_code 3 (some .boolean) ws rKJE1_2 #[(.ref a1), (.ref a2)] h0 (QJE1_2 Z a1 a2 cz fv k1 k2 u0 w0 w1 r h0 n0) := by
  refine MetFree.of_bodySF (plainFor_of_name pn2) hisR ?_
  intro p e s m args bl meth c s1 Bd hml0 hP hK
  obtain ⟨rfl, hZ, hh⟩ := hP
  have hx := Bd.exec
  have hby := Bd.bytes
  have B := @hb c _ hby
  have hown : s.vm.findClass "java/lang/StringLatin1" = some m.cls := findClass_of_methodNamed Bd.named
  have hlk : meth.locks = false := BodyLoose.notSynchronized Bd
  have hrt : ∀ {v : Option Value}, meth.sig.returnType = none → v = none := fun h => by rw [Bd.returns] at h; cases h
  have X0 : Stand p l e rKJE1_2 s m #[(.ref a1), (.ref a2)] bl meth c s1 [] 0 0 := Stand.of_body Bd
  have e0 : s1.heap = h0 := by rw [← hh, Bd.state]; rfl
  have N0 := Fr.nil n0
  obtain ⟨EF, hEF⟩ : ∃ f, f = entryFrame m #[(.ref a1), (.ref a2)] 3 := ⟨_, rfl⟩
  have pre0 : Go p e bl s1 (mkF m 0 #[rv a1, rv a2, .unset] []) s1 EF := fun t k => by rw [hEF]; exact castTop (efJE1_2 m a1 a2) k
  have pre1 : Go p e bl s1 (mkF m 1 #[rv a1, rv a2, .unset] [(.ref a1)]) s1 EF := fun t k => pre0 t (by
   exact XS.aloadN X0.here hx rfl (B d8_0) rfl rfl k)
  obtain ⟨cl2, Ar2, q2, Sz2, M2, H2, G2⟩ := id V1
  have pre3 : Go p e bl s1 (mkF m 3 #[rv a1, rv a2, .unset] [(.ref a2), (.int (1 : Int32))]) s1 EF := fun t k => pre1 t (by
   refine X0.arraylength hx (by rw [e0]; exact Ar2.1) (State.isArrayOf_alike hZ.alike Ar2.2.1) (g := (mkF m 1 #[rv a1, rv a2, .unset] [(.ref a1)])) rfl rfl (B d8_1) _ ?_
   rw [len_of Sz2 M2]
   exact XS.aloadN X0.here hx rfl (B d8_2) rfl rfl k)
  obtain ⟨cl4, Ar4, q4, Sz4, M4, H4, G4⟩ := id V2
  have pre5 : Go p e bl s1 (mkF m 4 #[rv a1, rv a2, .unset] [(.int (2 : Int32)), (.int (1 : Int32))]) s1 EF := fun t k => pre3 t (by
   refine X0.arraylength hx (by rw [e0]; exact Ar4.1) (State.isArrayOf_alike hZ.alike Ar4.2.1) (g := (mkF m 3 #[rv a1, rv a2, .unset] [(.ref a2), (.int (1 : Int32))])) rfl rfl (B d8_3) _ ?_
   rw [len_of Sz4 M4]
   exact k)
  have pre6 : Go p e bl s1 (mkF m 34 #[rv a1, rv a2, .unset] []) s1 EF := fun t k => pre5 t (XS.icmpYes X0.here hx rfl (pc0 := 4) (pc' := 34) rfl (B d8_4) rfl (feq (by decide : ¬ ((1 : Int32) = (2 : Int32)))).2 (by decide) (by decide) k)
  have pre7 : Go p e bl s1 (mkF m 35 #[rv a1, rv a2, .unset] [(.int (0 : Int32))]) s1 EF := fun t k => pre6 t (by
   exact XS.iconst X0.here hx rfl (B d8_34) k)
  have hnr : Value.int (nar .boolean (0 : Int32)) = (.int (0 : Int32)) := by rfl
  exact fin1 X0 (v := some (.int (0 : Int32))) hrt hlk (wl rfl) (wl rfl) (by rw [e0]; exact ⟨by rw [← hR]; simp [eqB], N0, rfl⟩) (fun fs hr => hEF ▸ pre7 _ (retN X0 hx (t := .boolean) Bd.returns (by simp) (B d8_35) (hnr ▸ hr)))
abbrev rKJE1_3 : Room := { frames := 0, cells := 0, slots := 0, locals := 0 }
theorem efJE1_3 (m : MethodId) (a1 : Addr) (a2 : Addr) : entryFrame m #[(.ref a1), (.ref a2)] 3 = mkF m 0 #[rv a1, rv a2, .unset] [] := by first | (simp [entryFrame, mkF, argsToLocals, Value.category]; done) | rfl
def QJE1_3 (Z : State) (a1 : Addr) (a2 : Addr) (cz : Int32) (fv : Value) (k1 : ClassId) (k2 : ClassId) (u0 : Int32) (w0 : Int32) (w1 : Int32) (w2 : Int32) (r : Int32) (h0 : Heap) (n0 : Nat) (v : Option Value) (h : Heap) (L : List Loc) : Prop := v = some (.int r) ∧ Fr n0 L ∧ h = h0
set_option maxRecDepth 65536 in
set_option maxHeartbeats 40000000 in
theorem rmJE1_3 (l : Launch) (Z : State) (a0 : Array Value) (hw : HW a0 Z) (ws : List Jvm.Cond) (a1 : Addr) (a2 : Addr) (cz : Int32) (fv : Value) (k1 : ClassId) (k2 : ClassId) (u0 : Int32) (w0 : Int32) (w1 : Int32) (w2 : Int32) (r : Int32) (h0 : Heap) (n0 : Nat) (Z0 : n0 ≤ h0.size) (O0 : Old Z n0 h0) (J0 : Jd Z cz fv) (V1 : Arv Z h0 a1 k1 .byte (1 : Int32) [(.int u0)] (.int (0 : Int32))) (V2 : Arv Z h0 a2 k2 .byte (3 : Int32) [(.int w0), (.int w1), (.int w2)] (.int (0 : Int32))) (hR : eqB [u0] [w0, w1, w2] = r) :
    MF l Z mN8 jdk_43_method_13_code 3 (some .boolean) ws rKJE1_3 #[(.ref a1), (.ref a2)] h0 (QJE1_3 Z a1 a2 cz fv k1 k2 u0 w0 w1 w2 r h0 n0) := by
  refine MetFree.of_bodySF (plainFor_of_name pn2) hisR ?_
  intro p e s m args bl meth c s1 Bd hml0 hP hK
  obtain ⟨rfl, hZ, hh⟩ := hP
  have hx := Bd.exec
  have hby := Bd.bytes
  have B := @hb c _ hby
  have hown : s.vm.findClass "java/lang/StringLatin1" = some m.cls := findClass_of_methodNamed Bd.named
  have hlk : meth.locks = false := BodyLoose.notSynchronized Bd
  have hrt : ∀ {v : Option Value}, meth.sig.returnType = none → v = none := fun h => by rw [Bd.returns] at h; cases h
  have X0 : Stand p l e rKJE1_3 s m #[(.ref a1), (.ref a2)] bl meth c s1 [] 0 0 := Stand.of_body Bd
  have e0 : s1.heap = h0 := by rw [← hh, Bd.state]; rfl
  have N0 := Fr.nil n0
  obtain ⟨EF, hEF⟩ : ∃ f, f = entryFrame m #[(.ref a1), (.ref a2)] 3 := ⟨_, rfl⟩
  have pre0 : Go p e bl s1 (mkF m 0 #[rv a1, rv a2, .unset] []) s1 EF := fun t k => by rw [hEF]; exact castTop (efJE1_3 m a1 a2) k
  have pre1 : Go p e bl s1 (mkF m 1 #[rv a1, rv a2, .unset] [(.ref a1)]) s1 EF := fun t k => pre0 t (by
   exact XS.aloadN X0.here hx rfl (B d8_0) rfl rfl k)
  obtain ⟨cl2, Ar2, q2, Sz2, M2, H2, G2⟩ := id V1
  have pre3 : Go p e bl s1 (mkF m 3 #[rv a1, rv a2, .unset] [(.ref a2), (.int (1 : Int32))]) s1 EF := fun t k => pre1 t (by
   refine X0.arraylength hx (by rw [e0]; exact Ar2.1) (State.isArrayOf_alike hZ.alike Ar2.2.1) (g := (mkF m 1 #[rv a1, rv a2, .unset] [(.ref a1)])) rfl rfl (B d8_1) _ ?_
   rw [len_of Sz2 M2]
   exact XS.aloadN X0.here hx rfl (B d8_2) rfl rfl k)
  obtain ⟨cl4, Ar4, q4, Sz4, M4, H4, G4⟩ := id V2
  have pre5 : Go p e bl s1 (mkF m 4 #[rv a1, rv a2, .unset] [(.int (3 : Int32)), (.int (1 : Int32))]) s1 EF := fun t k => pre3 t (by
   refine X0.arraylength hx (by rw [e0]; exact Ar4.1) (State.isArrayOf_alike hZ.alike Ar4.2.1) (g := (mkF m 3 #[rv a1, rv a2, .unset] [(.ref a2), (.int (1 : Int32))])) rfl rfl (B d8_3) _ ?_
   rw [len_of Sz4 M4]
   exact k)
  have pre6 : Go p e bl s1 (mkF m 34 #[rv a1, rv a2, .unset] []) s1 EF := fun t k => pre5 t (XS.icmpYes X0.here hx rfl (pc0 := 4) (pc' := 34) rfl (B d8_4) rfl (feq (by decide : ¬ ((1 : Int32) = (3 : Int32)))).2 (by decide) (by decide) k)
  have pre7 : Go p e bl s1 (mkF m 35 #[rv a1, rv a2, .unset] [(.int (0 : Int32))]) s1 EF := fun t k => pre6 t (by
   exact XS.iconst X0.here hx rfl (B d8_34) k)
  have hnr : Value.int (nar .boolean (0 : Int32)) = (.int (0 : Int32)) := by rfl
  exact fin1 X0 (v := some (.int (0 : Int32))) hrt hlk (wl rfl) (wl rfl) (by rw [e0]; exact ⟨by rw [← hR]; simp [eqB], N0, rfl⟩) (fun fs hr => hEF ▸ pre7 _ (retN X0 hx (t := .boolean) Bd.returns (by simp) (B d8_35) (hnr ▸ hr)))
abbrev rKJE1_4 : Room := { frames := 0, cells := 0, slots := 0, locals := 0 }
theorem efJE1_4 (m : MethodId) (a1 : Addr) (a2 : Addr) : entryFrame m #[(.ref a1), (.ref a2)] 3 = mkF m 0 #[rv a1, rv a2, .unset] [] := by first | (simp [entryFrame, mkF, argsToLocals, Value.category]; done) | rfl
def QJE1_4 (Z : State) (a1 : Addr) (a2 : Addr) (cz : Int32) (fv : Value) (k1 : ClassId) (k2 : ClassId) (u0 : Int32) (w0 : Int32) (w1 : Int32) (w2 : Int32) (w3 : Int32) (r : Int32) (h0 : Heap) (n0 : Nat) (v : Option Value) (h : Heap) (L : List Loc) : Prop := v = some (.int r) ∧ Fr n0 L ∧ h = h0
set_option maxRecDepth 65536 in
set_option maxHeartbeats 40000000 in
theorem rmJE1_4 (l : Launch) (Z : State) (a0 : Array Value) (hw : HW a0 Z) (ws : List Jvm.Cond) (a1 : Addr) (a2 : Addr) (cz : Int32) (fv : Value) (k1 : ClassId) (k2 : ClassId) (u0 : Int32) (w0 : Int32) (w1 : Int32) (w2 : Int32) (w3 : Int32) (r : Int32) (h0 : Heap) (n0 : Nat) (Z0 : n0 ≤ h0.size) (O0 : Old Z n0 h0) (J0 : Jd Z cz fv) (V1 : Arv Z h0 a1 k1 .byte (1 : Int32) [(.int u0)] (.int (0 : Int32))) (V2 : Arv Z h0 a2 k2 .byte (4 : Int32) [(.int w0), (.int w1), (.int w2), (.int w3)] (.int (0 : Int32))) (hR : eqB [u0] [w0, w1, w2, w3] = r) :
    MF l Z mN8 jdk_43_method_13_code 3 (some .boolean) ws rKJE1_4 #[(.ref a1), (.ref a2)] h0 (QJE1_4 Z a1 a2 cz fv k1 k2 u0 w0 w1 w2 w3 r h0 n0) := by
  refine MetFree.of_bodySF (plainFor_of_name pn2) hisR ?_
  intro p e s m args bl meth c s1 Bd hml0 hP hK
  obtain ⟨rfl, hZ, hh⟩ := hP
  have hx := Bd.exec
  have hby := Bd.bytes
  have B := @hb c _ hby
  have hown : s.vm.findClass "java/lang/StringLatin1" = some m.cls := findClass_of_methodNamed Bd.named
  have hlk : meth.locks = false := BodyLoose.notSynchronized Bd
  have hrt : ∀ {v : Option Value}, meth.sig.returnType = none → v = none := fun h => by rw [Bd.returns] at h; cases h
  have X0 : Stand p l e rKJE1_4 s m #[(.ref a1), (.ref a2)] bl meth c s1 [] 0 0 := Stand.of_body Bd
  have e0 : s1.heap = h0 := by rw [← hh, Bd.state]; rfl
  have N0 := Fr.nil n0
  obtain ⟨EF, hEF⟩ : ∃ f, f = entryFrame m #[(.ref a1), (.ref a2)] 3 := ⟨_, rfl⟩
  have pre0 : Go p e bl s1 (mkF m 0 #[rv a1, rv a2, .unset] []) s1 EF := fun t k => by rw [hEF]; exact castTop (efJE1_4 m a1 a2) k
  have pre1 : Go p e bl s1 (mkF m 1 #[rv a1, rv a2, .unset] [(.ref a1)]) s1 EF := fun t k => pre0 t (by
   exact XS.aloadN X0.here hx rfl (B d8_0) rfl rfl k)
  obtain ⟨cl2, Ar2, q2, Sz2, M2, H2, G2⟩ := id V1
  have pre3 : Go p e bl s1 (mkF m 3 #[rv a1, rv a2, .unset] [(.ref a2), (.int (1 : Int32))]) s1 EF := fun t k => pre1 t (by
   refine X0.arraylength hx (by rw [e0]; exact Ar2.1) (State.isArrayOf_alike hZ.alike Ar2.2.1) (g := (mkF m 1 #[rv a1, rv a2, .unset] [(.ref a1)])) rfl rfl (B d8_1) _ ?_
   rw [len_of Sz2 M2]
   exact XS.aloadN X0.here hx rfl (B d8_2) rfl rfl k)
  obtain ⟨cl4, Ar4, q4, Sz4, M4, H4, G4⟩ := id V2
  have pre5 : Go p e bl s1 (mkF m 4 #[rv a1, rv a2, .unset] [(.int (4 : Int32)), (.int (1 : Int32))]) s1 EF := fun t k => pre3 t (by
   refine X0.arraylength hx (by rw [e0]; exact Ar4.1) (State.isArrayOf_alike hZ.alike Ar4.2.1) (g := (mkF m 3 #[rv a1, rv a2, .unset] [(.ref a2), (.int (1 : Int32))])) rfl rfl (B d8_3) _ ?_
   rw [len_of Sz4 M4]
   exact k)
  have pre6 : Go p e bl s1 (mkF m 34 #[rv a1, rv a2, .unset] []) s1 EF := fun t k => pre5 t (XS.icmpYes X0.here hx rfl (pc0 := 4) (pc' := 34) rfl (B d8_4) rfl (feq (by decide : ¬ ((1 : Int32) = (4 : Int32)))).2 (by decide) (by decide) k)
  have pre7 : Go p e bl s1 (mkF m 35 #[rv a1, rv a2, .unset] [(.int (0 : Int32))]) s1 EF := fun t k => pre6 t (by
   exact XS.iconst X0.here hx rfl (B d8_34) k)
  have hnr : Value.int (nar .boolean (0 : Int32)) = (.int (0 : Int32)) := by rfl
  exact fin1 X0 (v := some (.int (0 : Int32))) hrt hlk (wl rfl) (wl rfl) (by rw [e0]; exact ⟨by rw [← hR]; simp [eqB], N0, rfl⟩) (fun fs hr => hEF ▸ pre7 _ (retN X0 hx (t := .boolean) Bd.returns (by simp) (B d8_35) (hnr ▸ hr)))
abbrev rKJE2_1 : Room := { frames := 0, cells := 0, slots := 0, locals := 0 }
theorem efJE2_1 (m : MethodId) (a1 : Addr) (a2 : Addr) : entryFrame m #[(.ref a1), (.ref a2)] 3 = mkF m 0 #[rv a1, rv a2, .unset] [] := by first | (simp [entryFrame, mkF, argsToLocals, Value.category]; done) | rfl
def QJE2_1 (Z : State) (a1 : Addr) (a2 : Addr) (cz : Int32) (fv : Value) (k1 : ClassId) (k2 : ClassId) (u0 : Int32) (u1 : Int32) (w0 : Int32) (r : Int32) (h0 : Heap) (n0 : Nat) (v : Option Value) (h : Heap) (L : List Loc) : Prop := v = some (.int r) ∧ Fr n0 L ∧ h = h0
set_option maxRecDepth 65536 in
set_option maxHeartbeats 40000000 in
theorem rmJE2_1 (l : Launch) (Z : State) (a0 : Array Value) (hw : HW a0 Z) (ws : List Jvm.Cond) (a1 : Addr) (a2 : Addr) (cz : Int32) (fv : Value) (k1 : ClassId) (k2 : ClassId) (u0 : Int32) (u1 : Int32) (w0 : Int32) (r : Int32) (h0 : Heap) (n0 : Nat) (Z0 : n0 ≤ h0.size) (O0 : Old Z n0 h0) (J0 : Jd Z cz fv) (V1 : Arv Z h0 a1 k1 .byte (2 : Int32) [(.int u0), (.int u1)] (.int (0 : Int32))) (V2 : Arv Z h0 a2 k2 .byte (1 : Int32) [(.int w0)] (.int (0 : Int32))) (hR : eqB [u0, u1] [w0] = r) :
    MF l Z mN8 jdk_43_method_13_code 3 (some .boolean) ws rKJE2_1 #[(.ref a1), (.ref a2)] h0 (QJE2_1 Z a1 a2 cz fv k1 k2 u0 u1 w0 r h0 n0) := by
  refine MetFree.of_bodySF (plainFor_of_name pn2) hisR ?_
  intro p e s m args bl meth c s1 Bd hml0 hP hK
  obtain ⟨rfl, hZ, hh⟩ := hP
  have hx := Bd.exec
  have hby := Bd.bytes
  have B := @hb c _ hby
  have hown : s.vm.findClass "java/lang/StringLatin1" = some m.cls := findClass_of_methodNamed Bd.named
  have hlk : meth.locks = false := BodyLoose.notSynchronized Bd
  have hrt : ∀ {v : Option Value}, meth.sig.returnType = none → v = none := fun h => by rw [Bd.returns] at h; cases h
  have X0 : Stand p l e rKJE2_1 s m #[(.ref a1), (.ref a2)] bl meth c s1 [] 0 0 := Stand.of_body Bd
  have e0 : s1.heap = h0 := by rw [← hh, Bd.state]; rfl
  have N0 := Fr.nil n0
  obtain ⟨EF, hEF⟩ : ∃ f, f = entryFrame m #[(.ref a1), (.ref a2)] 3 := ⟨_, rfl⟩
  have pre0 : Go p e bl s1 (mkF m 0 #[rv a1, rv a2, .unset] []) s1 EF := fun t k => by rw [hEF]; exact castTop (efJE2_1 m a1 a2) k
  have pre1 : Go p e bl s1 (mkF m 1 #[rv a1, rv a2, .unset] [(.ref a1)]) s1 EF := fun t k => pre0 t (by
   exact XS.aloadN X0.here hx rfl (B d8_0) rfl rfl k)
  obtain ⟨cl2, Ar2, q2, Sz2, M2, H2, G2⟩ := id V1
  have pre3 : Go p e bl s1 (mkF m 3 #[rv a1, rv a2, .unset] [(.ref a2), (.int (2 : Int32))]) s1 EF := fun t k => pre1 t (by
   refine X0.arraylength hx (by rw [e0]; exact Ar2.1) (State.isArrayOf_alike hZ.alike Ar2.2.1) (g := (mkF m 1 #[rv a1, rv a2, .unset] [(.ref a1)])) rfl rfl (B d8_1) _ ?_
   rw [len_of Sz2 M2]
   exact XS.aloadN X0.here hx rfl (B d8_2) rfl rfl k)
  obtain ⟨cl4, Ar4, q4, Sz4, M4, H4, G4⟩ := id V2
  have pre5 : Go p e bl s1 (mkF m 4 #[rv a1, rv a2, .unset] [(.int (1 : Int32)), (.int (2 : Int32))]) s1 EF := fun t k => pre3 t (by
   refine X0.arraylength hx (by rw [e0]; exact Ar4.1) (State.isArrayOf_alike hZ.alike Ar4.2.1) (g := (mkF m 3 #[rv a1, rv a2, .unset] [(.ref a2), (.int (2 : Int32))])) rfl rfl (B d8_3) _ ?_
   rw [len_of Sz4 M4]
   exact k)
  have pre6 : Go p e bl s1 (mkF m 34 #[rv a1, rv a2, .unset] []) s1 EF := fun t k => pre5 t (XS.icmpYes X0.here hx rfl (pc0 := 4) (pc' := 34) rfl (B d8_4) rfl (feq (by decide : ¬ ((2 : Int32) = (1 : Int32)))).2 (by decide) (by decide) k)
  have pre7 : Go p e bl s1 (mkF m 35 #[rv a1, rv a2, .unset] [(.int (0 : Int32))]) s1 EF := fun t k => pre6 t (by
   exact XS.iconst X0.here hx rfl (B d8_34) k)
  have hnr : Value.int (nar .boolean (0 : Int32)) = (.int (0 : Int32)) := by rfl
  exact fin1 X0 (v := some (.int (0 : Int32))) hrt hlk (wl rfl) (wl rfl) (by rw [e0]; exact ⟨by rw [← hR]; simp [eqB], N0, rfl⟩) (fun fs hr => hEF ▸ pre7 _ (retN X0 hx (t := .boolean) Bd.returns (by simp) (B d8_35) (hnr ▸ hr)))
abbrev rKJE2_2 : Room := { frames := 0, cells := 0, slots := 0, locals := 0 }
theorem efJE2_2 (m : MethodId) (a1 : Addr) (a2 : Addr) : entryFrame m #[(.ref a1), (.ref a2)] 3 = mkF m 0 #[rv a1, rv a2, .unset] [] := by first | (simp [entryFrame, mkF, argsToLocals, Value.category]; done) | rfl
def QJE2_2 (Z : State) (a1 : Addr) (a2 : Addr) (cz : Int32) (fv : Value) (k1 : ClassId) (k2 : ClassId) (u0 : Int32) (u1 : Int32) (w0 : Int32) (w1 : Int32) (r : Int32) (h0 : Heap) (n0 : Nat) (v : Option Value) (h : Heap) (L : List Loc) : Prop := v = some (.int r) ∧ Fr n0 L ∧ h = h0
set_option maxRecDepth 65536 in
set_option maxHeartbeats 40000000 in
theorem rmJE2_2 (l : Launch) (Z : State) (a0 : Array Value) (hw : HW a0 Z) (ws : List Jvm.Cond) (a1 : Addr) (a2 : Addr) (cz : Int32) (fv : Value) (k1 : ClassId) (k2 : ClassId) (u0 : Int32) (u1 : Int32) (w0 : Int32) (w1 : Int32) (r : Int32) (h0 : Heap) (n0 : Nat) (Z0 : n0 ≤ h0.size) (O0 : Old Z n0 h0) (J0 : Jd Z cz fv) (V1 : Arv Z h0 a1 k1 .byte (2 : Int32) [(.int u0), (.int u1)] (.int (0 : Int32))) (V2 : Arv Z h0 a2 k2 .byte (2 : Int32) [(.int w0), (.int w1)] (.int (0 : Int32))) (hR : eqB [u0, u1] [w0, w1] = r) :
    MF l Z mN8 jdk_43_method_13_code 3 (some .boolean) ws rKJE2_2 #[(.ref a1), (.ref a2)] h0 (QJE2_2 Z a1 a2 cz fv k1 k2 u0 u1 w0 w1 r h0 n0) := by
  refine MetFree.of_bodySF (plainFor_of_name pn2) hisR ?_
  intro p e s m args bl meth c s1 Bd hml0 hP hK
  obtain ⟨rfl, hZ, hh⟩ := hP
  have hx := Bd.exec
  have hby := Bd.bytes
  have B := @hb c _ hby
  have hown : s.vm.findClass "java/lang/StringLatin1" = some m.cls := findClass_of_methodNamed Bd.named
  have hlk : meth.locks = false := BodyLoose.notSynchronized Bd
  have hrt : ∀ {v : Option Value}, meth.sig.returnType = none → v = none := fun h => by rw [Bd.returns] at h; cases h
  have X0 : Stand p l e rKJE2_2 s m #[(.ref a1), (.ref a2)] bl meth c s1 [] 0 0 := Stand.of_body Bd
  have e0 : s1.heap = h0 := by rw [← hh, Bd.state]; rfl
  have N0 := Fr.nil n0
  obtain ⟨EF, hEF⟩ : ∃ f, f = entryFrame m #[(.ref a1), (.ref a2)] 3 := ⟨_, rfl⟩
  have pre0 : Go p e bl s1 (mkF m 0 #[rv a1, rv a2, .unset] []) s1 EF := fun t k => by rw [hEF]; exact castTop (efJE2_2 m a1 a2) k
  have pre1 : Go p e bl s1 (mkF m 1 #[rv a1, rv a2, .unset] [(.ref a1)]) s1 EF := fun t k => pre0 t (by
   exact XS.aloadN X0.here hx rfl (B d8_0) rfl rfl k)
  obtain ⟨cl2, Ar2, q2, Sz2, M2, H2, G2⟩ := id V1
  have pre3 : Go p e bl s1 (mkF m 3 #[rv a1, rv a2, .unset] [(.ref a2), (.int (2 : Int32))]) s1 EF := fun t k => pre1 t (by
   refine X0.arraylength hx (by rw [e0]; exact Ar2.1) (State.isArrayOf_alike hZ.alike Ar2.2.1) (g := (mkF m 1 #[rv a1, rv a2, .unset] [(.ref a1)])) rfl rfl (B d8_1) _ ?_
   rw [len_of Sz2 M2]
   exact XS.aloadN X0.here hx rfl (B d8_2) rfl rfl k)
  obtain ⟨cl4, Ar4, q4, Sz4, M4, H4, G4⟩ := id V2
  have pre5 : Go p e bl s1 (mkF m 4 #[rv a1, rv a2, .unset] [(.int (2 : Int32)), (.int (2 : Int32))]) s1 EF := fun t k => pre3 t (by
   refine X0.arraylength hx (by rw [e0]; exact Ar4.1) (State.isArrayOf_alike hZ.alike Ar4.2.1) (g := (mkF m 3 #[rv a1, rv a2, .unset] [(.ref a2), (.int (2 : Int32))])) rfl rfl (B d8_3) _ ?_
   rw [len_of Sz4 M4]
   exact k)
  have pre6 : Go p e bl s1 (mkF m 7 #[rv a1, rv a2, .unset] []) s1 EF := fun t k => pre5 t (XS.icmpNo X0.here hx rfl (B d8_4) rfl (teq (by decide : (2 : Int32) = (2 : Int32))).2 k)
  have pre7 : Go p e bl s1 (mkF m 11 #[rv a1, rv a2, iv (0 : Int32)] [(.ref a1), (.int (0 : Int32))]) s1 EF := fun t k => pre6 t (by
   refine XS.iconst X0.here hx rfl (B d8_7) ?_
   refine XS.istoreN X0.here hx rfl (B d8_8) rfl (l' := #[rv a1, rv a2, iv (0 : Int32)]) rfl ?_
   refine XS.iloadN X0.here hx rfl (B d8_9) rfl ?_
   exact XS.aloadN X0.here hx rfl (B d8_10) rfl rfl k)
  obtain ⟨cl8, Ar8, q8, Sz8, M8, H8, G8⟩ := id V1
  have pre9 : Go p e bl s1 (mkF m 12 #[rv a1, rv a2, iv (0 : Int32)] [(.int (2 : Int32)), (.int (0 : Int32))]) s1 EF := fun t k => pre7 t (by
   refine X0.arraylength hx (by rw [e0]; exact Ar8.1) (State.isArrayOf_alike hZ.alike Ar8.2.1) (g := (mkF m 11 #[rv a1, rv a2, iv (0 : Int32)] [(.ref a1), (.int (0 : Int32))])) rfl rfl (B d8_11) _ ?_
   rw [len_of Sz8 M8]
   exact k)
  have pre10 : Go p e bl s1 (mkF m 15 #[rv a1, rv a2, iv (0 : Int32)] []) s1 EF := fun t k => pre9 t (XS.icmpNo X0.here hx rfl (B d8_12) rfl (tlt (by decide : (0 : Int32) < (2 : Int32))).2.1 k)
  have pre11 : Go p e bl s1 (mkF m 17 #[rv a1, rv a2, iv (0 : Int32)] [(.int (0 : Int32)), (.ref a1)]) s1 EF := fun t k => pre10 t (by
   refine XS.aloadN X0.here hx rfl (B d8_15) rfl rfl ?_
   exact XS.iloadN X0.here hx rfl (B d8_16) rfl k)
  obtain ⟨cl12, Ar12, q12, Sz12, M12, H12, G12⟩ := id V1
  have hin12 : ¬ ((0 : Int32) < 0 ∨ cl12.slots.size ≤ ((0 : Int32)).toNatClampNeg) := inb_of Sz12 ⟨by decide, by decide⟩
  have hat12 : cl12.slots[((0 : Int32)).toNatClampNeg]? = some (.int u0) := Has.at H12 hin12 rfl
  have pre13 : Go p e bl s1 (mkF m 20 #[rv a1, rv a2, iv (0 : Int32)] [(.int (0 : Int32)), (.ref a2), (.int u0)]) s1 EF := fun t k => pre11 t (by
   refine X0.baloadBytes hx (j := (0 : Int32)) (v := (.int u0)) (by rw [e0]; exact Ar12.1) (State.isArrayOf_alike hZ.alike Ar12.2.1) Ar12.2.2 hin12 hat12 (g := (mkF m 17 #[rv a1, rv a2, iv (0 : Int32)] [(.int (0 : Int32)), (.ref a1)])) rfl rfl (B d8_17) _ ?_
   refine XS.aloadN X0.here hx rfl (B d8_18) rfl rfl ?_
   exact XS.iloadN X0.here hx rfl (B d8_19) rfl k)
  obtain ⟨cl14, Ar14, q14, Sz14, M14, H14, G14⟩ := id V2
  have hin14 : ¬ ((0 : Int32) < 0 ∨ cl14.slots.size ≤ ((0 : Int32)).toNatClampNeg) := inb_of Sz14 ⟨by decide, by decide⟩
  have hat14 : cl14.slots[((0 : Int32)).toNatClampNeg]? = some (.int w0) := Has.at H14 hin14 rfl
  have pre15 : Go p e bl s1 (mkF m 21 #[rv a1, rv a2, iv (0 : Int32)] [(.int w0), (.int u0)]) s1 EF := fun t k => pre13 t (by
   exact X0.baloadBytes hx (j := (0 : Int32)) (v := (.int w0)) (by rw [e0]; exact Ar14.1) (State.isArrayOf_alike hZ.alike Ar14.2.1) Ar14.2.2 hin14 hat14 (g := (mkF m 20 #[rv a1, rv a2, iv (0 : Int32)] [(.int (0 : Int32)), (.ref a2), (.int u0)])) rfl rfl (B d8_20) _ k)
  by_cases hc21 : u0 = w0
  · have pre16 : Go p e bl s1 (mkF m 26 #[rv a1, rv a2, iv (0 : Int32)] []) s1 EF := fun t k => pre15 t (XS.icmpYes X0.here hx rfl (pc0 := 21) (pc' := 26) rfl (B d8_21) rfl (teq hc21).1 (by decide) (by decide) k)
    have pre17 : Go p e bl s1 (mkF m 11 #[rv a1, rv a2, iv (1 : Int32)] [(.ref a1), (.int (1 : Int32))]) s1 EF := fun t k => pre16 t (by
     refine XS.iinc X0.here hx rfl (B d8_26) rfl (l' := #[rv a1, rv a2, iv (1 : Int32)]) rfl ?_
     refine XS.goto X0.here hx rfl (pc0 := 29) (pc' := 9) rfl (B d8_29) (by decide) (by decide) ?_
     refine XS.iloadN X0.here hx rfl (B d8_9) rfl ?_
     exact XS.aloadN X0.here hx rfl (B d8_10) rfl rfl k)
    obtain ⟨cl18, Ar18, q18, Sz18, M18, H18, G18⟩ := id V1
    have pre19 : Go p e bl s1 (mkF m 12 #[rv a1, rv a2, iv (1 : Int32)] [(.int (2 : Int32)), (.int (1 : Int32))]) s1 EF := fun t k => pre17 t (by
     refine X0.arraylength hx (by rw [e0]; exact Ar18.1) (State.isArrayOf_alike hZ.alike Ar18.2.1) (g := (mkF m 11 #[rv a1, rv a2, iv (1 : Int32)] [(.ref a1), (.int (1 : Int32))])) rfl rfl (B d8_11) _ ?_
     rw [len_of Sz18 M18]
     exact k)
    have pre20 : Go p e bl s1 (mkF m 15 #[rv a1, rv a2, iv (1 : Int32)] []) s1 EF := fun t k => pre19 t (XS.icmpNo X0.here hx rfl (B d8_12) rfl (tlt (by decide : (1 : Int32) < (2 : Int32))).2.1 k)
    have pre21 : Go p e bl s1 (mkF m 17 #[rv a1, rv a2, iv (1 : Int32)] [(.int (1 : Int32)), (.ref a1)]) s1 EF := fun t k => pre20 t (by
     refine XS.aloadN X0.here hx rfl (B d8_15) rfl rfl ?_
     exact XS.iloadN X0.here hx rfl (B d8_16) rfl k)
    obtain ⟨cl22, Ar22, q22, Sz22, M22, H22, G22⟩ := id V1
    have hin22 : ¬ ((1 : Int32) < 0 ∨ cl22.slots.size ≤ ((1 : Int32)).toNatClampNeg) := inb_of Sz22 ⟨by decide, by decide⟩
    have hat22 : cl22.slots[((1 : Int32)).toNatClampNeg]? = some (.int u1) := Has.at H22 hin22 rfl
    have pre23 : Go p e bl s1 (mkF m 20 #[rv a1, rv a2, iv (1 : Int32)] [(.int (1 : Int32)), (.ref a2), (.int u1)]) s1 EF := fun t k => pre21 t (by
     refine X0.baloadBytes hx (j := (1 : Int32)) (v := (.int u1)) (by rw [e0]; exact Ar22.1) (State.isArrayOf_alike hZ.alike Ar22.2.1) Ar22.2.2 hin22 hat22 (g := (mkF m 17 #[rv a1, rv a2, iv (1 : Int32)] [(.int (1 : Int32)), (.ref a1)])) rfl rfl (B d8_17) _ ?_
     refine XS.aloadN X0.here hx rfl (B d8_18) rfl rfl ?_
     exact XS.iloadN X0.here hx rfl (B d8_19) rfl k)
    obtain ⟨cl24, Ar24, q24, Sz24, M24, H24, G24⟩ := id V2
    have hin24 : ¬ ((1 : Int32) < 0 ∨ cl24.slots.size ≤ ((1 : Int32)).toNatClampNeg) := inb_of Sz24 ⟨by decide, by decide⟩
    have hat24 : cl24.slots[((1 : Int32)).toNatClampNeg]? = some (.int w1) := Has.at H24 hin24 rfl
    have pre25 : Go p e bl s1 (mkF m 21 #[rv a1, rv a2, iv (1 : Int32)] [(.int w1), (.int u1)]) s1 EF := fun t k => pre23 t (by
     exact X0.baloadBytes hx (j := (1 : Int32)) (v := (.int w1)) (by rw [e0]; exact Ar24.1) (State.isArrayOf_alike hZ.alike Ar24.2.1) Ar24.2.2 hin24 hat24 (g := (mkF m 20 #[rv a1, rv a2, iv (1 : Int32)] [(.int (1 : Int32)), (.ref a2), (.int u1)])) rfl rfl (B d8_20) _ k)
    by_cases hc21' : u1 = w1
    · have pre26 : Go p e bl s1 (mkF m 26 #[rv a1, rv a2, iv (1 : Int32)] []) s1 EF := fun t k => pre25 t (XS.icmpYes X0.here hx rfl (pc0 := 21) (pc' := 26) rfl (B d8_21) rfl (teq hc21').1 (by decide) (by decide) k)
      have pre27 : Go p e bl s1 (mkF m 11 #[rv a1, rv a2, iv (2 : Int32)] [(.ref a1), (.int (2 : Int32))]) s1 EF := fun t k => pre26 t (by
       refine XS.iinc X0.here hx rfl (B d8_26) rfl (l' := #[rv a1, rv a2, iv (2 : Int32)]) rfl ?_
       refine XS.goto X0.here hx rfl (pc0 := 29) (pc' := 9) rfl (B d8_29) (by decide) (by decide) ?_
       refine XS.iloadN X0.here hx rfl (B d8_9) rfl ?_
       exact XS.aloadN X0.here hx rfl (B d8_10) rfl rfl k)
      obtain ⟨cl28, Ar28, q28, Sz28, M28, H28, G28⟩ := id V1
      have pre29 : Go p e bl s1 (mkF m 12 #[rv a1, rv a2, iv (2 : Int32)] [(.int (2 : Int32)), (.int (2 : Int32))]) s1 EF := fun t k => pre27 t (by
       refine X0.arraylength hx (by rw [e0]; exact Ar28.1) (State.isArrayOf_alike hZ.alike Ar28.2.1) (g := (mkF m 11 #[rv a1, rv a2, iv (2 : Int32)] [(.ref a1), (.int (2 : Int32))])) rfl rfl (B d8_11) _ ?_
       rw [len_of Sz28 M28]
       exact k)
      have pre30 : Go p e bl s1 (mkF m 32 #[rv a1, rv a2, iv (2 : Int32)] []) s1 EF := fun t k => pre29 t (XS.icmpYes X0.here hx rfl (pc0 := 12) (pc' := 32) rfl (B d8_12) rfl (flt (by decide : ¬ ((2 : Int32) < (2 : Int32)))).2.1 (by decide) (by decide) k)
      have pre31 : Go p e bl s1 (mkF m 33 #[rv a1, rv a2, iv (2 : Int32)] [(.int (1 : Int32))]) s1 EF := fun t k => pre30 t (by
       exact XS.iconst X0.here hx rfl (B d8_32) k)
      have hnr : Value.int (nar .boolean (1 : Int32)) = (.int (1 : Int32)) := by rfl
      exact fin1 X0 (v := some (.int (1 : Int32))) hrt hlk (wl rfl) (wl rfl) (by rw [e0]; exact ⟨by rw [← hR]; simp [eqB, hc21, hc21'], N0, rfl⟩) (fun fs hr => hEF ▸ pre31 _ (retN X0 hx (t := .boolean) Bd.returns (by simp) (B d8_33) (hnr ▸ hr)))
    have pre32 : Go p e bl s1 (mkF m 24 #[rv a1, rv a2, iv (1 : Int32)] []) s1 EF := fun t k => pre25 t (XS.icmpNo X0.here hx rfl (B d8_21) rfl (feq hc21').1 k)
    have pre33 : Go p e bl s1 (mkF m 25 #[rv a1, rv a2, iv (1 : Int32)] [(.int (0 : Int32))]) s1 EF := fun t k => pre32 t (by
     exact XS.iconst X0.here hx rfl (B d8_24) k)
    have hnr : Value.int (nar .boolean (0 : Int32)) = (.int (0 : Int32)) := by rfl
    exact fin1 X0 (v := some (.int (0 : Int32))) hrt hlk (wl rfl) (wl rfl) (by rw [e0]; exact ⟨by rw [← hR]; simp [eqB, hc21, hc21'], N0, rfl⟩) (fun fs hr => hEF ▸ pre33 _ (retN X0 hx (t := .boolean) Bd.returns (by simp) (B d8_25) (hnr ▸ hr)))
  have pre34 : Go p e bl s1 (mkF m 24 #[rv a1, rv a2, iv (0 : Int32)] []) s1 EF := fun t k => pre15 t (XS.icmpNo X0.here hx rfl (B d8_21) rfl (feq hc21).1 k)
  have pre35 : Go p e bl s1 (mkF m 25 #[rv a1, rv a2, iv (0 : Int32)] [(.int (0 : Int32))]) s1 EF := fun t k => pre34 t (by
   exact XS.iconst X0.here hx rfl (B d8_24) k)
  have hnr : Value.int (nar .boolean (0 : Int32)) = (.int (0 : Int32)) := by rfl
  exact fin1 X0 (v := some (.int (0 : Int32))) hrt hlk (wl rfl) (wl rfl) (by rw [e0]; exact ⟨by rw [← hR]; simp [eqB, hc21], N0, rfl⟩) (fun fs hr => hEF ▸ pre35 _ (retN X0 hx (t := .boolean) Bd.returns (by simp) (B d8_25) (hnr ▸ hr)))
abbrev rKJE2_3 : Room := { frames := 0, cells := 0, slots := 0, locals := 0 }
theorem efJE2_3 (m : MethodId) (a1 : Addr) (a2 : Addr) : entryFrame m #[(.ref a1), (.ref a2)] 3 = mkF m 0 #[rv a1, rv a2, .unset] [] := by first | (simp [entryFrame, mkF, argsToLocals, Value.category]; done) | rfl
def QJE2_3 (Z : State) (a1 : Addr) (a2 : Addr) (cz : Int32) (fv : Value) (k1 : ClassId) (k2 : ClassId) (u0 : Int32) (u1 : Int32) (w0 : Int32) (w1 : Int32) (w2 : Int32) (r : Int32) (h0 : Heap) (n0 : Nat) (v : Option Value) (h : Heap) (L : List Loc) : Prop := v = some (.int r) ∧ Fr n0 L ∧ h = h0
set_option maxRecDepth 65536 in
set_option maxHeartbeats 40000000 in
theorem rmJE2_3 (l : Launch) (Z : State) (a0 : Array Value) (hw : HW a0 Z) (ws : List Jvm.Cond) (a1 : Addr) (a2 : Addr) (cz : Int32) (fv : Value) (k1 : ClassId) (k2 : ClassId) (u0 : Int32) (u1 : Int32) (w0 : Int32) (w1 : Int32) (w2 : Int32) (r : Int32) (h0 : Heap) (n0 : Nat) (Z0 : n0 ≤ h0.size) (O0 : Old Z n0 h0) (J0 : Jd Z cz fv) (V1 : Arv Z h0 a1 k1 .byte (2 : Int32) [(.int u0), (.int u1)] (.int (0 : Int32))) (V2 : Arv Z h0 a2 k2 .byte (3 : Int32) [(.int w0), (.int w1), (.int w2)] (.int (0 : Int32))) (hR : eqB [u0, u1] [w0, w1, w2] = r) :
    MF l Z mN8 jdk_43_method_13_code 3 (some .boolean) ws rKJE2_3 #[(.ref a1), (.ref a2)] h0 (QJE2_3 Z a1 a2 cz fv k1 k2 u0 u1 w0 w1 w2 r h0 n0) := by
  refine MetFree.of_bodySF (plainFor_of_name pn2) hisR ?_
  intro p e s m args bl meth c s1 Bd hml0 hP hK
  obtain ⟨rfl, hZ, hh⟩ := hP
  have hx := Bd.exec
  have hby := Bd.bytes
  have B := @hb c _ hby
  have hown : s.vm.findClass "java/lang/StringLatin1" = some m.cls := findClass_of_methodNamed Bd.named
  have hlk : meth.locks = false := BodyLoose.notSynchronized Bd
  have hrt : ∀ {v : Option Value}, meth.sig.returnType = none → v = none := fun h => by rw [Bd.returns] at h; cases h
  have X0 : Stand p l e rKJE2_3 s m #[(.ref a1), (.ref a2)] bl meth c s1 [] 0 0 := Stand.of_body Bd
  have e0 : s1.heap = h0 := by rw [← hh, Bd.state]; rfl
  have N0 := Fr.nil n0
  obtain ⟨EF, hEF⟩ : ∃ f, f = entryFrame m #[(.ref a1), (.ref a2)] 3 := ⟨_, rfl⟩
  have pre0 : Go p e bl s1 (mkF m 0 #[rv a1, rv a2, .unset] []) s1 EF := fun t k => by rw [hEF]; exact castTop (efJE2_3 m a1 a2) k
  have pre1 : Go p e bl s1 (mkF m 1 #[rv a1, rv a2, .unset] [(.ref a1)]) s1 EF := fun t k => pre0 t (by
   exact XS.aloadN X0.here hx rfl (B d8_0) rfl rfl k)
  obtain ⟨cl2, Ar2, q2, Sz2, M2, H2, G2⟩ := id V1
  have pre3 : Go p e bl s1 (mkF m 3 #[rv a1, rv a2, .unset] [(.ref a2), (.int (2 : Int32))]) s1 EF := fun t k => pre1 t (by
   refine X0.arraylength hx (by rw [e0]; exact Ar2.1) (State.isArrayOf_alike hZ.alike Ar2.2.1) (g := (mkF m 1 #[rv a1, rv a2, .unset] [(.ref a1)])) rfl rfl (B d8_1) _ ?_
   rw [len_of Sz2 M2]
   exact XS.aloadN X0.here hx rfl (B d8_2) rfl rfl k)
  obtain ⟨cl4, Ar4, q4, Sz4, M4, H4, G4⟩ := id V2
  have pre5 : Go p e bl s1 (mkF m 4 #[rv a1, rv a2, .unset] [(.int (3 : Int32)), (.int (2 : Int32))]) s1 EF := fun t k => pre3 t (by
   refine X0.arraylength hx (by rw [e0]; exact Ar4.1) (State.isArrayOf_alike hZ.alike Ar4.2.1) (g := (mkF m 3 #[rv a1, rv a2, .unset] [(.ref a2), (.int (2 : Int32))])) rfl rfl (B d8_3) _ ?_
   rw [len_of Sz4 M4]
   exact k)
  have pre6 : Go p e bl s1 (mkF m 34 #[rv a1, rv a2, .unset] []) s1 EF := fun t k => pre5 t (XS.icmpYes X0.here hx rfl (pc0 := 4) (pc' := 34) rfl (B d8_4) rfl (feq (by decide : ¬ ((2 : Int32) = (3 : Int32)))).2 (by decide) (by decide) k)
  have pre7 : Go p e bl s1 (mkF m 35 #[rv a1, rv a2, .unset] [(.int (0 : Int32))]) s1 EF := fun t k => pre6 t (by
   exact XS.iconst X0.here hx rfl (B d8_34) k)
  have hnr : Value.int (nar .boolean (0 : Int32)) = (.int (0 : Int32)) := by rfl
  exact fin1 X0 (v := some (.int (0 : Int32))) hrt hlk (wl rfl) (wl rfl) (by rw [e0]; exact ⟨by rw [← hR]; simp [eqB], N0, rfl⟩) (fun fs hr => hEF ▸ pre7 _ (retN X0 hx (t := .boolean) Bd.returns (by simp) (B d8_35) (hnr ▸ hr)))
abbrev rKJE2_4 : Room := { frames := 0, cells := 0, slots := 0, locals := 0 }
theorem efJE2_4 (m : MethodId) (a1 : Addr) (a2 : Addr) : entryFrame m #[(.ref a1), (.ref a2)] 3 = mkF m 0 #[rv a1, rv a2, .unset] [] := by first | (simp [entryFrame, mkF, argsToLocals, Value.category]; done) | rfl
def QJE2_4 (Z : State) (a1 : Addr) (a2 : Addr) (cz : Int32) (fv : Value) (k1 : ClassId) (k2 : ClassId) (u0 : Int32) (u1 : Int32) (w0 : Int32) (w1 : Int32) (w2 : Int32) (w3 : Int32) (r : Int32) (h0 : Heap) (n0 : Nat) (v : Option Value) (h : Heap) (L : List Loc) : Prop := v = some (.int r) ∧ Fr n0 L ∧ h = h0
set_option maxRecDepth 65536 in
set_option maxHeartbeats 40000000 in
theorem rmJE2_4 (l : Launch) (Z : State) (a0 : Array Value) (hw : HW a0 Z) (ws : List Jvm.Cond) (a1 : Addr) (a2 : Addr) (cz : Int32) (fv : Value) (k1 : ClassId) (k2 : ClassId) (u0 : Int32) (u1 : Int32) (w0 : Int32) (w1 : Int32) (w2 : Int32) (w3 : Int32) (r : Int32) (h0 : Heap) (n0 : Nat) (Z0 : n0 ≤ h0.size) (O0 : Old Z n0 h0) (J0 : Jd Z cz fv) (V1 : Arv Z h0 a1 k1 .byte (2 : Int32) [(.int u0), (.int u1)] (.int (0 : Int32))) (V2 : Arv Z h0 a2 k2 .byte (4 : Int32) [(.int w0), (.int w1), (.int w2), (.int w3)] (.int (0 : Int32))) (hR : eqB [u0, u1] [w0, w1, w2, w3] = r) :
    MF l Z mN8 jdk_43_method_13_code 3 (some .boolean) ws rKJE2_4 #[(.ref a1), (.ref a2)] h0 (QJE2_4 Z a1 a2 cz fv k1 k2 u0 u1 w0 w1 w2 w3 r h0 n0) := by
  refine MetFree.of_bodySF (plainFor_of_name pn2) hisR ?_
  intro p e s m args bl meth c s1 Bd hml0 hP hK
  obtain ⟨rfl, hZ, hh⟩ := hP
  have hx := Bd.exec
  have hby := Bd.bytes
  have B := @hb c _ hby
  have hown : s.vm.findClass "java/lang/StringLatin1" = some m.cls := findClass_of_methodNamed Bd.named
  have hlk : meth.locks = false := BodyLoose.notSynchronized Bd
  have hrt : ∀ {v : Option Value}, meth.sig.returnType = none → v = none := fun h => by rw [Bd.returns] at h; cases h
  have X0 : Stand p l e rKJE2_4 s m #[(.ref a1), (.ref a2)] bl meth c s1 [] 0 0 := Stand.of_body Bd
  have e0 : s1.heap = h0 := by rw [← hh, Bd.state]; rfl
  have N0 := Fr.nil n0
  obtain ⟨EF, hEF⟩ : ∃ f, f = entryFrame m #[(.ref a1), (.ref a2)] 3 := ⟨_, rfl⟩
  have pre0 : Go p e bl s1 (mkF m 0 #[rv a1, rv a2, .unset] []) s1 EF := fun t k => by rw [hEF]; exact castTop (efJE2_4 m a1 a2) k
  have pre1 : Go p e bl s1 (mkF m 1 #[rv a1, rv a2, .unset] [(.ref a1)]) s1 EF := fun t k => pre0 t (by
   exact XS.aloadN X0.here hx rfl (B d8_0) rfl rfl k)
  obtain ⟨cl2, Ar2, q2, Sz2, M2, H2, G2⟩ := id V1
  have pre3 : Go p e bl s1 (mkF m 3 #[rv a1, rv a2, .unset] [(.ref a2), (.int (2 : Int32))]) s1 EF := fun t k => pre1 t (by
   refine X0.arraylength hx (by rw [e0]; exact Ar2.1) (State.isArrayOf_alike hZ.alike Ar2.2.1) (g := (mkF m 1 #[rv a1, rv a2, .unset] [(.ref a1)])) rfl rfl (B d8_1) _ ?_
   rw [len_of Sz2 M2]
   exact XS.aloadN X0.here hx rfl (B d8_2) rfl rfl k)
  obtain ⟨cl4, Ar4, q4, Sz4, M4, H4, G4⟩ := id V2
  have pre5 : Go p e bl s1 (mkF m 4 #[rv a1, rv a2, .unset] [(.int (4 : Int32)), (.int (2 : Int32))]) s1 EF := fun t k => pre3 t (by
   refine X0.arraylength hx (by rw [e0]; exact Ar4.1) (State.isArrayOf_alike hZ.alike Ar4.2.1) (g := (mkF m 3 #[rv a1, rv a2, .unset] [(.ref a2), (.int (2 : Int32))])) rfl rfl (B d8_3) _ ?_
   rw [len_of Sz4 M4]
   exact k)
  have pre6 : Go p e bl s1 (mkF m 34 #[rv a1, rv a2, .unset] []) s1 EF := fun t k => pre5 t (XS.icmpYes X0.here hx rfl (pc0 := 4) (pc' := 34) rfl (B d8_4) rfl (feq (by decide : ¬ ((2 : Int32) = (4 : Int32)))).2 (by decide) (by decide) k)
  have pre7 : Go p e bl s1 (mkF m 35 #[rv a1, rv a2, .unset] [(.int (0 : Int32))]) s1 EF := fun t k => pre6 t (by
   exact XS.iconst X0.here hx rfl (B d8_34) k)
  have hnr : Value.int (nar .boolean (0 : Int32)) = (.int (0 : Int32)) := by rfl
  exact fin1 X0 (v := some (.int (0 : Int32))) hrt hlk (wl rfl) (wl rfl) (by rw [e0]; exact ⟨by rw [← hR]; simp [eqB], N0, rfl⟩) (fun fs hr => hEF ▸ pre7 _ (retN X0 hx (t := .boolean) Bd.returns (by simp) (B d8_35) (hnr ▸ hr)))
abbrev rKJE3_1 : Room := { frames := 0, cells := 0, slots := 0, locals := 0 }
theorem efJE3_1 (m : MethodId) (a1 : Addr) (a2 : Addr) : entryFrame m #[(.ref a1), (.ref a2)] 3 = mkF m 0 #[rv a1, rv a2, .unset] [] := by first | (simp [entryFrame, mkF, argsToLocals, Value.category]; done) | rfl
def QJE3_1 (Z : State) (a1 : Addr) (a2 : Addr) (cz : Int32) (fv : Value) (k1 : ClassId) (k2 : ClassId) (u0 : Int32) (u1 : Int32) (u2 : Int32) (w0 : Int32) (r : Int32) (h0 : Heap) (n0 : Nat) (v : Option Value) (h : Heap) (L : List Loc) : Prop := v = some (.int r) ∧ Fr n0 L ∧ h = h0
set_option maxRecDepth 65536 in
set_option maxHeartbeats 40000000 in
theorem rmJE3_1 (l : Launch) (Z : State) (a0 : Array Value) (hw : HW a0 Z) (ws : List Jvm.Cond) (a1 : Addr) (a2 : Addr) (cz : Int32) (fv : Value) (k1 : ClassId) (k2 : ClassId) (u0 : Int32) (u1 : Int32) (u2 : Int32) (w0 : Int32) (r : Int32) (h0 : Heap) (n0 : Nat) (Z0 : n0 ≤ h0.size) (O0 : Old Z n0 h0) (J0 : Jd Z cz fv) (V1 : Arv Z h0 a1 k1 .byte (3 : Int32) [(.int u0), (.int u1), (.int u2)] (.int (0 : Int32))) (V2 : Arv Z h0 a2 k2 .byte (1 : Int32) [(.int w0)] (.int (0 : Int32))) (hR : eqB [u0, u1, u2] [w0] = r) :
    MF l Z mN8 jdk_43_method_13_code 3 (some .boolean) ws rKJE3_1 #[(.ref a1), (.ref a2)] h0 (QJE3_1 Z a1 a2 cz fv k1 k2 u0 u1 u2 w0 r h0 n0) := by
  refine MetFree.of_bodySF (plainFor_of_name pn2) hisR ?_
  intro p e s m args bl meth c s1 Bd hml0 hP hK
  obtain ⟨rfl, hZ, hh⟩ := hP
  have hx := Bd.exec
  have hby := Bd.bytes
  have B := @hb c _ hby
  have hown : s.vm.findClass "java/lang/StringLatin1" = some m.cls := findClass_of_methodNamed Bd.named
  have hlk : meth.locks = false := BodyLoose.notSynchronized Bd
  have hrt : ∀ {v : Option Value}, meth.sig.returnType = none → v = none := fun h => by rw [Bd.returns] at h; cases h
  have X0 : Stand p l e rKJE3_1 s m #[(.ref a1), (.ref a2)] bl meth c s1 [] 0 0 := Stand.of_body Bd
  have e0 : s1.heap = h0 := by rw [← hh, Bd.state]; rfl
  have N0 := Fr.nil n0
  obtain ⟨EF, hEF⟩ : ∃ f, f = entryFrame m #[(.ref a1), (.ref a2)] 3 := ⟨_, rfl⟩
  have pre0 : Go p e bl s1 (mkF m 0 #[rv a1, rv a2, .unset] []) s1 EF := fun t k => by rw [hEF]; exact castTop (efJE3_1 m a1 a2) k
  have pre1 : Go p e bl s1 (mkF m 1 #[rv a1, rv a2, .unset] [(.ref a1)]) s1 EF := fun t k => pre0 t (by
   exact XS.aloadN X0.here hx rfl (B d8_0) rfl rfl k)
  obtain ⟨cl2, Ar2, q2, Sz2, M2, H2, G2⟩ := id V1
  have pre3 : Go p e bl s1 (mkF m 3 #[rv a1, rv a2, .unset] [(.ref a2), (.int (3 : Int32))]) s1 EF := fun t k => pre1 t (by
   refine X0.arraylength hx (by rw [e0]; exact Ar2.1) (State.isArrayOf_alike hZ.alike Ar2.2.1) (g := (mkF m 1 #[rv a1, rv a2, .unset] [(.ref a1)])) rfl rfl (B d8_1) _ ?_
   rw [len_of Sz2 M2]
   exact XS.aloadN X0.here hx rfl (B d8_2) rfl rfl k)
  obtain ⟨cl4, Ar4, q4, Sz4, M4, H4, G4⟩ := id V2
  have pre5 : Go p e bl s1 (mkF m 4 #[rv a1, rv a2, .unset] [(.int (1 : Int32)), (.int (3 : Int32))]) s1 EF := fun t k => pre3 t (by
   refine X0.arraylength hx (by rw [e0]; exact Ar4.1) (State.isArrayOf_alike hZ.alike Ar4.2.1) (g := (mkF m 3 #[rv a1, rv a2, .unset] [(.ref a2), (.int (3 : Int32))])) rfl rfl (B d8_3) _ ?_
   rw [len_of Sz4 M4]
   exact k)
  have pre6 : Go p e bl s1 (mkF m 34 #[rv a1, rv a2, .unset] []) s1 EF := fun t k => pre5 t (XS.icmpYes X0.here hx rfl (pc0 := 4) (pc' := 34) rfl (B d8_4) rfl (feq (by decide : ¬ ((3 : Int32) = (1 : Int32)))).2 (by decide) (by decide) k)
  have pre7 : Go p e bl s1 (mkF m 35 #[rv a1, rv a2, .unset] [(.int (0 : Int32))]) s1 EF := fun t k => pre6 t (by
   exact XS.iconst X0.here hx rfl (B d8_34) k)
  have hnr : Value.int (nar .boolean (0 : Int32)) = (.int (0 : Int32)) := by rfl
  exact fin1 X0 (v := some (.int (0 : Int32))) hrt hlk (wl rfl) (wl rfl) (by rw [e0]; exact ⟨by rw [← hR]; simp [eqB], N0, rfl⟩) (fun fs hr => hEF ▸ pre7 _ (retN X0 hx (t := .boolean) Bd.returns (by simp) (B d8_35) (hnr ▸ hr)))
abbrev rKJE3_2 : Room := { frames := 0, cells := 0, slots := 0, locals := 0 }
theorem efJE3_2 (m : MethodId) (a1 : Addr) (a2 : Addr) : entryFrame m #[(.ref a1), (.ref a2)] 3 = mkF m 0 #[rv a1, rv a2, .unset] [] := by first | (simp [entryFrame, mkF, argsToLocals, Value.category]; done) | rfl
def QJE3_2 (Z : State) (a1 : Addr) (a2 : Addr) (cz : Int32) (fv : Value) (k1 : ClassId) (k2 : ClassId) (u0 : Int32) (u1 : Int32) (u2 : Int32) (w0 : Int32) (w1 : Int32) (r : Int32) (h0 : Heap) (n0 : Nat) (v : Option Value) (h : Heap) (L : List Loc) : Prop := v = some (.int r) ∧ Fr n0 L ∧ h = h0
set_option maxRecDepth 65536 in
set_option maxHeartbeats 40000000 in
theorem rmJE3_2 (l : Launch) (Z : State) (a0 : Array Value) (hw : HW a0 Z) (ws : List Jvm.Cond) (a1 : Addr) (a2 : Addr) (cz : Int32) (fv : Value) (k1 : ClassId) (k2 : ClassId) (u0 : Int32) (u1 : Int32) (u2 : Int32) (w0 : Int32) (w1 : Int32) (r : Int32) (h0 : Heap) (n0 : Nat) (Z0 : n0 ≤ h0.size) (O0 : Old Z n0 h0) (J0 : Jd Z cz fv) (V1 : Arv Z h0 a1 k1 .byte (3 : Int32) [(.int u0), (.int u1), (.int u2)] (.int (0 : Int32))) (V2 : Arv Z h0 a2 k2 .byte (2 : Int32) [(.int w0), (.int w1)] (.int (0 : Int32))) (hR : eqB [u0, u1, u2] [w0, w1] = r) :
    MF l Z mN8 jdk_43_method_13_code 3 (some .boolean) ws rKJE3_2 #[(.ref a1), (.ref a2)] h0 (QJE3_2 Z a1 a2 cz fv k1 k2 u0 u1 u2 w0 w1 r h0 n0) := by
  refine MetFree.of_bodySF (plainFor_of_name pn2) hisR ?_
  intro p e s m args bl meth c s1 Bd hml0 hP hK
  obtain ⟨rfl, hZ, hh⟩ := hP
  have hx := Bd.exec
  have hby := Bd.bytes
  have B := @hb c _ hby
  have hown : s.vm.findClass "java/lang/StringLatin1" = some m.cls := findClass_of_methodNamed Bd.named
  have hlk : meth.locks = false := BodyLoose.notSynchronized Bd
  have hrt : ∀ {v : Option Value}, meth.sig.returnType = none → v = none := fun h => by rw [Bd.returns] at h; cases h
  have X0 : Stand p l e rKJE3_2 s m #[(.ref a1), (.ref a2)] bl meth c s1 [] 0 0 := Stand.of_body Bd
  have e0 : s1.heap = h0 := by rw [← hh, Bd.state]; rfl
  have N0 := Fr.nil n0
  obtain ⟨EF, hEF⟩ : ∃ f, f = entryFrame m #[(.ref a1), (.ref a2)] 3 := ⟨_, rfl⟩
  have pre0 : Go p e bl s1 (mkF m 0 #[rv a1, rv a2, .unset] []) s1 EF := fun t k => by rw [hEF]; exact castTop (efJE3_2 m a1 a2) k
  have pre1 : Go p e bl s1 (mkF m 1 #[rv a1, rv a2, .unset] [(.ref a1)]) s1 EF := fun t k => pre0 t (by
   exact XS.aloadN X0.here hx rfl (B d8_0) rfl rfl k)
  obtain ⟨cl2, Ar2, q2, Sz2, M2, H2, G2⟩ := id V1
  have pre3 : Go p e bl s1 (mkF m 3 #[rv a1, rv a2, .unset] [(.ref a2), (.int (3 : Int32))]) s1 EF := fun t k => pre1 t (by
   refine X0.arraylength hx (by rw [e0]; exact Ar2.1) (State.isArrayOf_alike hZ.alike Ar2.2.1) (g := (mkF m 1 #[rv a1, rv a2, .unset] [(.ref a1)])) rfl rfl (B d8_1) _ ?_
   rw [len_of Sz2 M2]
   exact XS.aloadN X0.here hx rfl (B d8_2) rfl rfl k)
  obtain ⟨cl4, Ar4, q4, Sz4, M4, H4, G4⟩ := id V2
  have pre5 : Go p e bl s1 (mkF m 4 #[rv a1, rv a2, .unset] [(.int (2 : Int32)), (.int (3 : Int32))]) s1 EF := fun t k => pre3 t (by
   refine X0.arraylength hx (by rw [e0]; exact Ar4.1) (State.isArrayOf_alike hZ.alike Ar4.2.1) (g := (mkF m 3 #[rv a1, rv a2, .unset] [(.ref a2), (.int (3 : Int32))])) rfl rfl (B d8_3) _ ?_
   rw [len_of Sz4 M4]
   exact k)
  have pre6 : Go p e bl s1 (mkF m 34 #[rv a1, rv a2, .unset] []) s1 EF := fun t k => pre5 t (XS.icmpYes X0.here hx rfl (pc0 := 4) (pc' := 34) rfl (B d8_4) rfl (feq (by decide : ¬ ((3 : Int32) = (2 : Int32)))).2 (by decide) (by decide) k)
  have pre7 : Go p e bl s1 (mkF m 35 #[rv a1, rv a2, .unset] [(.int (0 : Int32))]) s1 EF := fun t k => pre6 t (by
   exact XS.iconst X0.here hx rfl (B d8_34) k)
  have hnr : Value.int (nar .boolean (0 : Int32)) = (.int (0 : Int32)) := by rfl
  exact fin1 X0 (v := some (.int (0 : Int32))) hrt hlk (wl rfl) (wl rfl) (by rw [e0]; exact ⟨by rw [← hR]; simp [eqB], N0, rfl⟩) (fun fs hr => hEF ▸ pre7 _ (retN X0 hx (t := .boolean) Bd.returns (by simp) (B d8_35) (hnr ▸ hr)))
abbrev rKJE3_3 : Room := { frames := 0, cells := 0, slots := 0, locals := 0 }
theorem efJE3_3 (m : MethodId) (a1 : Addr) (a2 : Addr) : entryFrame m #[(.ref a1), (.ref a2)] 3 = mkF m 0 #[rv a1, rv a2, .unset] [] := by first | (simp [entryFrame, mkF, argsToLocals, Value.category]; done) | rfl
def QJE3_3 (Z : State) (a1 : Addr) (a2 : Addr) (cz : Int32) (fv : Value) (k1 : ClassId) (k2 : ClassId) (u0 : Int32) (u1 : Int32) (u2 : Int32) (w0 : Int32) (w1 : Int32) (w2 : Int32) (r : Int32) (h0 : Heap) (n0 : Nat) (v : Option Value) (h : Heap) (L : List Loc) : Prop := v = some (.int r) ∧ Fr n0 L ∧ h = h0
set_option maxRecDepth 65536 in
set_option maxHeartbeats 40000000 in
theorem rmJE3_3 (l : Launch) (Z : State) (a0 : Array Value) (hw : HW a0 Z) (ws : List Jvm.Cond) (a1 : Addr) (a2 : Addr) (cz : Int32) (fv : Value) (k1 : ClassId) (k2 : ClassId) (u0 : Int32) (u1 : Int32) (u2 : Int32) (w0 : Int32) (w1 : Int32) (w2 : Int32) (r : Int32) (h0 : Heap) (n0 : Nat) (Z0 : n0 ≤ h0.size) (O0 : Old Z n0 h0) (J0 : Jd Z cz fv) (V1 : Arv Z h0 a1 k1 .byte (3 : Int32) [(.int u0), (.int u1), (.int u2)] (.int (0 : Int32))) (V2 : Arv Z h0 a2 k2 .byte (3 : Int32) [(.int w0), (.int w1), (.int w2)] (.int (0 : Int32))) (hR : eqB [u0, u1, u2] [w0, w1, w2] = r) :
    MF l Z mN8 jdk_43_method_13_code 3 (some .boolean) ws rKJE3_3 #[(.ref a1), (.ref a2)] h0 (QJE3_3 Z a1 a2 cz fv k1 k2 u0 u1 u2 w0 w1 w2 r h0 n0) := by
  refine MetFree.of_bodySF (plainFor_of_name pn2) hisR ?_
  intro p e s m args bl meth c s1 Bd hml0 hP hK
  obtain ⟨rfl, hZ, hh⟩ := hP
  have hx := Bd.exec
  have hby := Bd.bytes
  have B := @hb c _ hby
  have hown : s.vm.findClass "java/lang/StringLatin1" = some m.cls := findClass_of_methodNamed Bd.named
  have hlk : meth.locks = false := BodyLoose.notSynchronized Bd
  have hrt : ∀ {v : Option Value}, meth.sig.returnType = none → v = none := fun h => by rw [Bd.returns] at h; cases h
  have X0 : Stand p l e rKJE3_3 s m #[(.ref a1), (.ref a2)] bl meth c s1 [] 0 0 := Stand.of_body Bd
  have e0 : s1.heap = h0 := by rw [← hh, Bd.state]; rfl
  have N0 := Fr.nil n0
  obtain ⟨EF, hEF⟩ : ∃ f, f = entryFrame m #[(.ref a1), (.ref a2)] 3 := ⟨_, rfl⟩
  have pre0 : Go p e bl s1 (mkF m 0 #[rv a1, rv a2, .unset] []) s1 EF := fun t k => by rw [hEF]; exact castTop (efJE3_3 m a1 a2) k
  have pre1 : Go p e bl s1 (mkF m 1 #[rv a1, rv a2, .unset] [(.ref a1)]) s1 EF := fun t k => pre0 t (by
   exact XS.aloadN X0.here hx rfl (B d8_0) rfl rfl k)
  obtain ⟨cl2, Ar2, q2, Sz2, M2, H2, G2⟩ := id V1
  have pre3 : Go p e bl s1 (mkF m 3 #[rv a1, rv a2, .unset] [(.ref a2), (.int (3 : Int32))]) s1 EF := fun t k => pre1 t (by
   refine X0.arraylength hx (by rw [e0]; exact Ar2.1) (State.isArrayOf_alike hZ.alike Ar2.2.1) (g := (mkF m 1 #[rv a1, rv a2, .unset] [(.ref a1)])) rfl rfl (B d8_1) _ ?_
   rw [len_of Sz2 M2]
   exact XS.aloadN X0.here hx rfl (B d8_2) rfl rfl k)
  obtain ⟨cl4, Ar4, q4, Sz4, M4, H4, G4⟩ := id V2
  have pre5 : Go p e bl s1 (mkF m 4 #[rv a1, rv a2, .unset] [(.int (3 : Int32)), (.int (3 : Int32))]) s1 EF := fun t k => pre3 t (by
   refine X0.arraylength hx (by rw [e0]; exact Ar4.1) (State.isArrayOf_alike hZ.alike Ar4.2.1) (g := (mkF m 3 #[rv a1, rv a2, .unset] [(.ref a2), (.int (3 : Int32))])) rfl rfl (B d8_3) _ ?_
   rw [len_of Sz4 M4]
   exact k)
  have pre6 : Go p e bl s1 (mkF m 7 #[rv a1, rv a2, .unset] []) s1 EF := fun t k => pre5 t (XS.icmpNo X0.here hx rfl (B d8_4) rfl (teq (by decide : (3 : Int32) = (3 : Int32))).2 k)
  have pre7 : Go p e bl s1 (mkF m 11 #[rv a1, rv a2, iv (0 : Int32)] [(.ref a1), (.int (0 : Int32))]) s1 EF := fun t k => pre6 t (by
   refine XS.iconst X0.here hx rfl (B d8_7) ?_
   refine XS.istoreN X0.here hx rfl (B d8_8) rfl (l' := #[rv a1, rv a2, iv (0 : Int32)]) rfl ?_
   refine XS.iloadN X0.here hx rfl (B d8_9) rfl ?_
   exact XS.aloadN X0.here hx rfl (B d8_10) rfl rfl k)
  obtain ⟨cl8, Ar8, q8, Sz8, M8, H8, G8⟩ := id V1
  have pre9 : Go p e bl s1 (mkF m 12 #[rv a1, rv a2, iv (0 : Int32)] [(.int (3 : Int32)), (.int (0 : Int32))]) s1 EF := fun t k => pre7 t (by
   refine X0.arraylength hx (by rw [e0]; exact Ar8.1) (State.isArrayOf_alike hZ.alike Ar8.2.1) (g := (mkF m 11 #[rv a1, rv a2, iv (0 : Int32)] [(.ref a1), (.int (0 : Int32))])) rfl rfl (B d8_11) _ ?_
   rw [len_of Sz8 M8]
   exact k)
  have pre10 : Go p e bl s1 (mkF m 15 #[rv a1, rv a2, iv (0 : Int32)] []) s1 EF := fun t k => pre9 t (XS.icmpNo X0.here hx rfl (B d8_12) rfl (tlt (by decide : (0 : Int32) < (3 : Int32))).2.1 k)
  have pre11 : Go p e bl s1 (mkF m 17 #[rv a1, rv a2, iv (0 : Int32)] [(.int (0 : Int32)), (.ref a1)]) s1 EF := fun t k => pre10 t (by
   refine XS.aloadN X0.here hx rfl (B d8_15) rfl rfl ?_
   exact XS.iloadN X0.here hx rfl (B d8_16) rfl k)
  obtain ⟨cl12, Ar12, q12, Sz12, M12, H12, G12⟩ := id V1
  have hin12 : ¬ ((0 : Int32) < 0 ∨ cl12.slots.size ≤ ((0 : Int32)).toNatClampNeg) := inb_of Sz12 ⟨by decide, by decide⟩
  have hat12 : cl12.slots[((0 : Int32)).toNatClampNeg]? = some (.int u0) := Has.at H12 hin12 rfl
  have pre13 : Go p e bl s1 (mkF m 20 #[rv a1, rv a2, iv (0 : Int32)] [(.int (0 : Int32)), (.ref a2), (.int u0)]) s1 EF := fun t k => pre11 t (by
   refine X0.baloadBytes hx (j := (0 : Int32)) (v := (.int u0)) (by rw [e0]; exact Ar12.1) (State.isArrayOf_alike hZ.alike Ar12.2.1) Ar12.2.2 hin12 hat12 (g := (mkF m 17 #[rv a1, rv a2, iv (0 : Int32)] [(.int (0 : Int32)), (.ref a1)])) rfl rfl (B d8_17) _ ?_
   refine XS.aloadN X0.here hx rfl (B d8_18) rfl rfl ?_
   exact XS.iloadN X0.here hx rfl (B d8_19) rfl k)
  obtain ⟨cl14, Ar14, q14, Sz14, M14, H14, G14⟩ := id V2
  have hin14 : ¬ ((0 : Int32) < 0 ∨ cl14.slots.size ≤ ((0 : Int32)).toNatClampNeg) := inb_of Sz14 ⟨by decide, by decide⟩
  have hat14 : cl14.slots[((0 : Int32)).toNatClampNeg]? = some (.int w0) := Has.at H14 hin14 rfl
  have pre15 : Go p e bl s1 (mkF m 21 #[rv a1, rv a2, iv (0 : Int32)] [(.int w0), (.int u0)]) s1 EF := fun t k => pre13 t (by
   exact X0.baloadBytes hx (j := (0 : Int32)) (v := (.int w0)) (by rw [e0]; exact Ar14.1) (State.isArrayOf_alike hZ.alike Ar14.2.1) Ar14.2.2 hin14 hat14 (g := (mkF m 20 #[rv a1, rv a2, iv (0 : Int32)] [(.int (0 : Int32)), (.ref a2), (.int u0)])) rfl rfl (B d8_20) _ k)
  by_cases hc21 : u0 = w0
  · have pre16 : Go p e bl s1 (mkF m 26 #[rv a1, rv a2, iv (0 : Int32)] []) s1 EF := fun t k => pre15 t (XS.icmpYes X0.here hx rfl (pc0 := 21) (pc' := 26) rfl (B d8_21) rfl (teq hc21).1 (by decide) (by decide) k)
    have pre17 : Go p e bl s1 (mkF m 11 #[rv a1, rv a2, iv (1 : Int32)] [(.ref a1), (.int (1 : Int32))]) s1 EF := fun t k => pre16 t (by
     refine XS.iinc X0.here hx rfl (B d8_26) rfl (l' := #[rv a1, rv a2, iv (1 : Int32)]) rfl ?_
     refine XS.goto X0.here hx rfl (pc0 := 29) (pc' := 9) rfl (B d8_29) (by decide) (by decide) ?_
     refine XS.iloadN X0.here hx rfl (B d8_9) rfl ?_
     exact XS.aloadN X0.here hx rfl (B d8_10) rfl rfl k)
    obtain ⟨cl18, Ar18, q18, Sz18, M18, H18, G18⟩ := id V1
    have pre19 : Go p e bl s1 (mkF m 12 #[rv a1, rv a2, iv (1 : Int32)] [(.int (3 : Int32)), (.int (1 : Int32))]) s1 EF := fun t k => pre17 t (by
     refine X0.arraylength hx (by rw [e0]; exact Ar18.1) (State.isArrayOf_alike hZ.alike Ar18.2.1) (g := (mkF m 11 #[rv a1, rv a2, iv (1 : Int32)] [(.ref a1), (.int (1 : Int32))])) rfl rfl (B d8_11) _ ?_
     rw [len_of Sz18 M18]
     exact k)
    have pre20 : Go p e bl s1 (mkF m 15 #[rv a1, rv a2, iv (1 : Int32)] []) s1 EF := fun t k => pre19 t (XS.icmpNo X0.here hx rfl (B d8_12) rfl (tlt (by decide : (1 : Int32) < (3 : Int32))).2.1 k)
    have pre21 : Go p e bl s1 (mkF m 17 #[rv a1, rv a2, iv (1 : Int32)] [(.int (1 : Int32)), (.ref a1)]) s1 EF := fun t k => pre20 t (by
     refine XS.aloadN X0.here hx rfl (B d8_15) rfl rfl ?_
     exact XS.iloadN X0.here hx rfl (B d8_16) rfl k)
    obtain ⟨cl22, Ar22, q22, Sz22, M22, H22, G22⟩ := id V1
    have hin22 : ¬ ((1 : Int32) < 0 ∨ cl22.slots.size ≤ ((1 : Int32)).toNatClampNeg) := inb_of Sz22 ⟨by decide, by decide⟩
    have hat22 : cl22.slots[((1 : Int32)).toNatClampNeg]? = some (.int u1) := Has.at H22 hin22 rfl
    have pre23 : Go p e bl s1 (mkF m 20 #[rv a1, rv a2, iv (1 : Int32)] [(.int (1 : Int32)), (.ref a2), (.int u1)]) s1 EF := fun t k => pre21 t (by
     refine X0.baloadBytes hx (j := (1 : Int32)) (v := (.int u1)) (by rw [e0]; exact Ar22.1) (State.isArrayOf_alike hZ.alike Ar22.2.1) Ar22.2.2 hin22 hat22 (g := (mkF m 17 #[rv a1, rv a2, iv (1 : Int32)] [(.int (1 : Int32)), (.ref a1)])) rfl rfl (B d8_17) _ ?_
     refine XS.aloadN X0.here hx rfl (B d8_18) rfl rfl ?_
     exact XS.iloadN X0.here hx rfl (B d8_19) rfl k)
    obtain ⟨cl24, Ar24, q24, Sz24, M24, H24, G24⟩ := id V2
    have hin24 : ¬ ((1 : Int32) < 0 ∨ cl24.slots.size ≤ ((1 : Int32)).toNatClampNeg) := inb_of Sz24 ⟨by decide, by decide⟩
    have hat24 : cl24.slots[((1 : Int32)).toNatClampNeg]? = some (.int w1) := Has.at H24 hin24 rfl
    have pre25 : Go p e bl s1 (mkF m 21 #[rv a1, rv a2, iv (1 : Int32)] [(.int w1), (.int u1)]) s1 EF := fun t k => pre23 t (by
     exact X0.baloadBytes hx (j := (1 : Int32)) (v := (.int w1)) (by rw [e0]; exact Ar24.1) (State.isArrayOf_alike hZ.alike Ar24.2.1) Ar24.2.2 hin24 hat24 (g := (mkF m 20 #[rv a1, rv a2, iv (1 : Int32)] [(.int (1 : Int32)), (.ref a2), (.int u1)])) rfl rfl (B d8_20) _ k)
    by_cases hc21' : u1 = w1
    · have pre26 : Go p e bl s1 (mkF m 26 #[rv a1, rv a2, iv (1 : Int32)] []) s1 EF := fun t k => pre25 t (XS.icmpYes X0.here hx rfl (pc0 := 21) (pc' := 26) rfl (B d8_21) rfl (teq hc21').1 (by decide) (by decide) k)
      have pre27 : Go p e bl s1 (mkF m 11 #[rv a1, rv a2, iv (2 : Int32)] [(.ref a1), (.int (2 : Int32))]) s1 EF := fun t k => pre26 t (by
       refine XS.iinc X0.here hx rfl (B d8_26) rfl (l' := #[rv a1, rv a2, iv (2 : Int32)]) rfl ?_
       refine XS.goto X0.here hx rfl (pc0 := 29) (pc' := 9) rfl (B d8_29) (by decide) (by decide) ?_
       refine XS.iloadN X0.here hx rfl (B d8_9) rfl ?_
       exact XS.aloadN X0.here hx rfl (B d8_10) rfl rfl k)
      obtain ⟨cl28, Ar28, q28, Sz28, M28, H28, G28⟩ := id V1
      have pre29 : Go p e bl s1 (mkF m 12 #[rv a1, rv a2, iv (2 : Int32)] [(.int (3 : Int32)), (.int (2 : Int32))]) s1 EF := fun t k => pre27 t (by
       refine X0.arraylength hx (by rw [e0]; exact Ar28.1) (State.isArrayOf_alike hZ.alike Ar28.2.1) (g := (mkF m 11 #[rv a1, rv a2, iv (2 : Int32)] [(.ref a1), (.int (2 : Int32))])) rfl rfl (B d8_11) _ ?_
       rw [len_of Sz28 M28]
       exact k)
      have pre30 : Go p e bl s1 (mkF m 15 #[rv a1, rv a2, iv (2 : Int32)] []) s1 EF := fun t k => pre29 t (XS.icmpNo X0.here hx rfl (B d8_12) rfl (tlt (by decide : (2 : Int32) < (3 : Int32))).2.1 k)
      have pre31 : Go p e bl s1 (mkF m 17 #[rv a1, rv a2, iv (2 : Int32)] [(.int (2 : Int32)), (.ref a1)]) s1 EF := fun t k => pre30 t (by
       refine XS.aloadN X0.here hx rfl (B d8_15) rfl rfl ?_
       exact XS.iloadN X0.here hx rfl (B d8_16) rfl k)
      obtain ⟨cl32, Ar32, q32, Sz32, M32, H32, G32⟩ := id V1
      have hin32 : ¬ ((2 : Int32) < 0 ∨ cl32.slots.size ≤ ((2 : Int32)).toNatClampNeg) := inb_of Sz32 ⟨by decide, by decide⟩
      have hat32 : cl32.slots[((2 : Int32)).toNatClampNeg]? = some (.int u2) := Has.at H32 hin32 rfl
      have pre33 : Go p e bl s1 (mkF m 20 #[rv a1, rv a2, iv (2 : Int32)] [(.int (2 : Int32)), (.ref a2), (.int u2)]) s1 EF := fun t k => pre31 t (by
       refine X0.baloadBytes hx (j := (2 : Int32)) (v := (.int u2)) (by rw [e0]; exact Ar32.1) (State.isArrayOf_alike hZ.alike Ar32.2.1) Ar32.2.2 hin32 hat32 (g := (mkF m 17 #[rv a1, rv a2, iv (2 : Int32)] [(.int (2 : Int32)), (.ref a1)])) rfl rfl (B d8_17) _ ?_
       refine XS.aloadN X0.here hx rfl (B d8_18) rfl rfl ?_
       exact XS.iloadN X0.here hx rfl (B d8_19) rfl k)
      obtain ⟨cl34, Ar34, q34, Sz34, M34, H34, G34⟩ := id V2
      have hin34 : ¬ ((2 : Int32) < 0 ∨ cl34.slots.size ≤ ((2 : Int32)).toNatClampNeg) := inb_of Sz34 ⟨by decide, by decide⟩
      have hat34 : cl34.slots[((2 : Int32)).toNatClampNeg]? = some (.int w2) := Has.at H34 hin34 rfl
      have pre35 : Go p e bl s1 (mkF m 21 #[rv a1, rv a2, iv (2 : Int32)] [(.int w2), (.int u2)]) s1 EF := fun t k => pre33 t (by
       exact X0.baloadBytes hx (j := (2 : Int32)) (v := (.int w2)) (by rw [e0]; exact Ar34.1) (State.isArrayOf_alike hZ.alike Ar34.2.1) Ar34.2.2 hin34 hat34 (g := (mkF m 20 #[rv a1, rv a2, iv (2 : Int32)] [(.int (2 : Int32)), (.ref a2), (.int u2)])) rfl rfl (B d8_20) _ k)
      by_cases hc21'' : u2 = w2
      · have pre36 : Go p e bl s1 (mkF m 26 #[rv a1, rv a2, iv (2 : Int32)] []) s1 EF := fun t k => pre35 t (XS.icmpYes X0.here hx rfl (pc0 := 21) (pc' := 26) rfl (B d8_21) rfl (teq hc21'').1 (by decide) (by decide) k)
        have pre37 : Go p e bl s1 (mkF m 11 #[rv a1, rv a2, iv (3 : Int32)] [(.ref a1), (.int (3 : Int32))]) s1 EF := fun t k => pre36 t (by
         refine XS.iinc X0.here hx rfl (B d8_26) rfl (l' := #[rv a1, rv a2, iv (3 : Int32)]) rfl ?_
         refine XS.goto X0.here hx rfl (pc0 := 29) (pc' := 9) rfl (B d8_29) (by decide) (by decide) ?_
         refine XS.iloadN X0.here hx rfl (B d8_9) rfl ?_
         exact XS.aloadN X0.here hx rfl (B d8_10) rfl rfl k)
        obtain ⟨cl38, Ar38, q38, Sz38, M38, H38, G38⟩ := id V1
        have pre39 : Go p e bl s1 (mkF m 12 #[rv a1, rv a2, iv (3 : Int32)] [(.int (3 : Int32)), (.int (3 : Int32))]) s1 EF := fun t k => pre37 t (by
         refine X0.arraylength hx (by rw [e0]; exact Ar38.1) (State.isArrayOf_alike hZ.alike Ar38.2.1) (g := (mkF m 11 #[rv a1, rv a2, iv (3 : Int32)] [(.ref a1), (.int (3 : Int32))])) rfl rfl (B d8_11) _ ?_
         rw [len_of Sz38 M38]
         exact k)
        have pre40 : Go p e bl s1 (mkF m 32 #[rv a1, rv a2, iv (3 : Int32)] []) s1 EF := fun t k => pre39 t (XS.icmpYes X0.here hx rfl (pc0 := 12) (pc' := 32) rfl (B d8_12) rfl (flt (by decide : ¬ ((3 : Int32) < (3 : Int32)))).2.1 (by decide) (by decide) k)
        have pre41 : Go p e bl s1 (mkF m 33 #[rv a1, rv a2, iv (3 : Int32)] [(.int (1 : Int32))]) s1 EF := fun t k => pre40 t (by
         exact XS.iconst X0.here hx rfl (B d8_32) k)
        have hnr : Value.int (nar .boolean (1 : Int32)) = (.int (1 : Int32)) := by rfl
        exact fin1 X0 (v := some (.int (1 : Int32))) hrt hlk (wl rfl) (wl rfl) (by rw [e0]; exact ⟨by rw [← hR]; simp [eqB, hc21, hc21', hc21''], N0, rfl⟩) (fun fs hr => hEF ▸ pre41 _ (retN X0 hx (t := .boolean) Bd.returns (by simp) (B d8_33) (hnr ▸ hr)))
      have pre42 : Go p e bl s1 (mkF m 24 #[rv a1, rv a2, iv (2 : Int32)] []) s1 EF := fun t k => pre35 t (XS.icmpNo X0.here hx rfl (B d8_21) rfl (feq hc21'').1 k)
      have pre43 : Go p e bl s1 (mkF m 25 #[rv a1, rv a2, iv (2 : Int32)] [(.int (0 : Int32))]) s1 EF := fun t k => pre42 t (by
       exact XS.iconst X0.here hx rfl (B d8_24) k)
      have hnr : Value.int (nar .boolean (0 : Int32)) = (.int (0 : Int32)) := by rfl
      exact fin1 X0 (v := some (.int (0 : Int32))) hrt hlk (wl rfl) (wl rfl) (by rw [e0]; exact ⟨by rw [← hR]; simp [eqB, hc21, hc21', hc21''], N0, rfl⟩) (fun fs hr => hEF ▸ pre43 _ (retN X0 hx (t := .boolean) Bd.returns (by simp) (B d8_25) (hnr ▸ hr)))
    have pre44 : Go p e bl s1 (mkF m 24 #[rv a1, rv a2, iv (1 : Int32)] []) s1 EF := fun t k => pre25 t (XS.icmpNo X0.here hx rfl (B d8_21) rfl (feq hc21').1 k)
    have pre45 : Go p e bl s1 (mkF m 25 #[rv a1, rv a2, iv (1 : Int32)] [(.int (0 : Int32))]) s1 EF := fun t k => pre44 t (by
     exact XS.iconst X0.here hx rfl (B d8_24) k)
    have hnr : Value.int (nar .boolean (0 : Int32)) = (.int (0 : Int32)) := by rfl
    exact fin1 X0 (v := some (.int (0 : Int32))) hrt hlk (wl rfl) (wl rfl) (by rw [e0]; exact ⟨by rw [← hR]; simp [eqB, hc21, hc21'], N0, rfl⟩) (fun fs hr => hEF ▸ pre45 _ (retN X0 hx (t := .boolean) Bd.returns (by simp) (B d8_25) (hnr ▸ hr)))
  have pre46 : Go p e bl s1 (mkF m 24 #[rv a1, rv a2, iv (0 : Int32)] []) s1 EF := fun t k => pre15 t (XS.icmpNo X0.here hx rfl (B d8_21) rfl (feq hc21).1 k)
  have pre47 : Go p e bl s1 (mkF m 25 #[rv a1, rv a2, iv (0 : Int32)] [(.int (0 : Int32))]) s1 EF := fun t k => pre46 t (by
   exact XS.iconst X0.here hx rfl (B d8_24) k)
  have hnr : Value.int (nar .boolean (0 : Int32)) = (.int (0 : Int32)) := by rfl
  exact fin1 X0 (v := some (.int (0 : Int32))) hrt hlk (wl rfl) (wl rfl) (by rw [e0]; exact ⟨by rw [← hR]; simp [eqB, hc21], N0, rfl⟩) (fun fs hr => hEF ▸ pre47 _ (retN X0 hx (t := .boolean) Bd.returns (by simp) (B d8_25) (hnr ▸ hr)))
abbrev rKJE3_4 : Room := { frames := 0, cells := 0, slots := 0, locals := 0 }
theorem efJE3_4 (m : MethodId) (a1 : Addr) (a2 : Addr) : entryFrame m #[(.ref a1), (.ref a2)] 3 = mkF m 0 #[rv a1, rv a2, .unset] [] := by first | (simp [entryFrame, mkF, argsToLocals, Value.category]; done) | rfl
def QJE3_4 (Z : State) (a1 : Addr) (a2 : Addr) (cz : Int32) (fv : Value) (k1 : ClassId) (k2 : ClassId) (u0 : Int32) (u1 : Int32) (u2 : Int32) (w0 : Int32) (w1 : Int32) (w2 : Int32) (w3 : Int32) (r : Int32) (h0 : Heap) (n0 : Nat) (v : Option Value) (h : Heap) (L : List Loc) : Prop := v = some (.int r) ∧ Fr n0 L ∧ h = h0
set_option maxRecDepth 65536 in
set_option maxHeartbeats 40000000 in
theorem rmJE3_4 (l : Launch) (Z : State) (a0 : Array Value) (hw : HW a0 Z) (ws : List Jvm.Cond) (a1 : Addr) (a2 : Addr) (cz : Int32) (fv : Value) (k1 : ClassId) (k2 : ClassId) (u0 : Int32) (u1 : Int32) (u2 : Int32) (w0 : Int32) (w1 : Int32) (w2 : Int32) (w3 : Int32) (r : Int32) (h0 : Heap) (n0 : Nat) (Z0 : n0 ≤ h0.size) (O0 : Old Z n0 h0) (J0 : Jd Z cz fv) (V1 : Arv Z h0 a1 k1 .byte (3 : Int32) [(.int u0), (.int u1), (.int u2)] (.int (0 : Int32))) (V2 : Arv Z h0 a2 k2 .byte (4 : Int32) [(.int w0), (.int w1), (.int w2), (.int w3)] (.int (0 : Int32))) (hR : eqB [u0, u1, u2] [w0, w1, w2, w3] = r) :
    MF l Z mN8 jdk_43_method_13_code 3 (some .boolean) ws rKJE3_4 #[(.ref a1), (.ref a2)] h0 (QJE3_4 Z a1 a2 cz fv k1 k2 u0 u1 u2 w0 w1 w2 w3 r h0 n0) := by
  refine MetFree.of_bodySF (plainFor_of_name pn2) hisR ?_
  intro p e s m args bl meth c s1 Bd hml0 hP hK
  obtain ⟨rfl, hZ, hh⟩ := hP
  have hx := Bd.exec
  have hby := Bd.bytes
  have B := @hb c _ hby
  have hown : s.vm.findClass "java/lang/StringLatin1" = some m.cls := findClass_of_methodNamed Bd.named
  have hlk : meth.locks = false := BodyLoose.notSynchronized Bd
  have hrt : ∀ {v : Option Value}, meth.sig.returnType = none → v = none := fun h => by rw [Bd.returns] at h; cases h
  have X0 : Stand p l e rKJE3_4 s m #[(.ref a1), (.ref a2)] bl meth c s1 [] 0 0 := Stand.of_body Bd
  have e0 : s1.heap = h0 := by rw [← hh, Bd.state]; rfl
  have N0 := Fr.nil n0
  obtain ⟨EF, hEF⟩ : ∃ f, f = entryFrame m #[(.ref a1), (.ref a2)] 3 := ⟨_, rfl⟩
  have pre0 : Go p e bl s1 (mkF m 0 #[rv a1, rv a2, .unset] []) s1 EF := fun t k => by rw [hEF]; exact castTop (efJE3_4 m a1 a2) k
  have pre1 : Go p e bl s1 (mkF m 1 #[rv a1, rv a2, .unset] [(.ref a1)]) s1 EF := fun t k => pre0 t (by
   exact XS.aloadN X0.here hx rfl (B d8_0) rfl rfl k)
  obtain ⟨cl2, Ar2, q2, Sz2, M2, H2, G2⟩ := id V1
  have pre3 : Go p e bl s1 (mkF m 3 #[rv a1, rv a2, .unset] [(.ref a2), (.int (3 : Int32))]) s1 EF := fun t k => pre1 t (by
   refine X0.arraylength hx (by rw [e0]; exact Ar2.1) (State.isArrayOf_alike hZ.alike Ar2.2.1) (g := (mkF m 1 #[rv a1, rv a2, .unset] [(.ref a1)])) rfl rfl (B d8_1) _ ?_
   rw [len_of Sz2 M2]
   exact XS.aloadN X0.here hx rfl (B d8_2) rfl rfl k)
  obtain ⟨cl4, Ar4, q4, Sz4, M4, H4, G4⟩ := id V2
  have pre5 : Go p e bl s1 (mkF m 4 #[rv a1, rv a2, .unset] [(.int (4 : Int32)), (.int (3 : Int32))]) s1 EF := fun t k => pre3 t (by
   refine X0.arraylength hx (by rw [e0]; exact Ar4.1) (State.isArrayOf_alike hZ.alike Ar4.2.1) (g := (mkF m 3 #[rv a1, rv a2, .unset] [(.ref a2), (.int (3 : Int32))])) rfl rfl (B d8_3) _ ?_
   rw [len_of Sz4 M4]
   exact k)
  have pre6 : Go p e bl s1 (mkF m 34 #[rv a1, rv a2, .unset] []) s1 EF := fun t k => pre5 t (XS.icmpYes X0.here hx rfl (pc0 := 4) (pc' := 34) rfl (B d8_4) rfl (feq (by decide : ¬ ((3 : Int32) = (4 : Int32)))).2 (by decide) (by decide) k)
  have pre7 : Go p e bl s1 (mkF m 35 #[rv a1, rv a2, .unset] [(.int (0 : Int32))]) s1 EF := fun t k => pre6 t (by
   exact XS.iconst X0.here hx rfl (B d8_34) k)
  have hnr : Value.int (nar .boolean (0 : Int32)) = (.int (0 : Int32)) := by rfl
  exact fin1 X0 (v := some (.int (0 : Int32))) hrt hlk (wl rfl) (wl rfl) (by rw [e0]; exact ⟨by rw [← hR]; simp [eqB], N0, rfl⟩) (fun fs hr => hEF ▸ pre7 _ (retN X0 hx (t := .boolean) Bd.returns (by simp) (B d8_35) (hnr ▸ hr)))
abbrev rKJE4_1 : Room := { frames := 0, cells := 0, slots := 0, locals := 0 }
theorem efJE4_1 (m : MethodId) (a1 : Addr) (a2 : Addr) : entryFrame m #[(.ref a1), (.ref a2)] 3 = mkF m 0 #[rv a1, rv a2, .unset] [] := by first | (simp [entryFrame, mkF, argsToLocals, Value.category]; done) | rfl
def QJE4_1 (Z : State) (a1 : Addr) (a2 : Addr) (cz : Int32) (fv : Value) (k1 : ClassId) (k2 : ClassId) (u0 : Int32) (u1 : Int32) (u2 : Int32) (u3 : Int32) (w0 : Int32) (r : Int32) (h0 : Heap) (n0 : Nat) (v : Option Value) (h : Heap) (L : List Loc) : Prop := v = some (.int r) ∧ Fr n0 L ∧ h = h0
set_option maxRecDepth 65536 in
set_option maxHeartbeats 40000000 in
theorem rmJE4_1 (l : Launch) (Z : State) (a0 : Array Value) (hw : HW a0 Z) (ws : List Jvm.Cond) (a1 : Addr) (a2 : Addr) (cz : Int32) (fv : Value) (k1 : ClassId) (k2 : ClassId) (u0 : Int32) (u1 : Int32) (u2 : Int32) (u3 : Int32) (w0 : Int32) (r : Int32) (h0 : Heap) (n0 : Nat) (Z0 : n0 ≤ h0.size) (O0 : Old Z n0 h0) (J0 : Jd Z cz fv) (V1 : Arv Z h0 a1 k1 .byte (4 : Int32) [(.int u0), (.int u1), (.int u2), (.int u3)] (.int (0 : Int32))) (V2 : Arv Z h0 a2 k2 .byte (1 : Int32) [(.int w0)] (.int (0 : Int32))) (hR : eqB [u0, u1, u2, u3] [w0] = r) :
    MF l Z mN8 jdk_43_method_13_code 3 (some .boolean) ws rKJE4_1 #[(.ref a1), (.ref a2)] h0 (QJE4_1 Z a1 a2 cz fv k1 k2 u0 u1 u2 u3 w0 r h0 n0) := by
  refine MetFree.of_bodySF (plainFor_of_name pn2) hisR ?_
  intro p e s m args bl meth c s1 Bd hml0 hP hK
  obtain ⟨rfl, hZ, hh⟩ := hP
  have hx := Bd.exec
  have hby := Bd.bytes
  have B := @hb c _ hby
  have hown : s.vm.findClass "java/lang/StringLatin1" = some m.cls := findClass_of_methodNamed Bd.named
  have hlk : meth.locks = false := BodyLoose.notSynchronized Bd
  have hrt : ∀ {v : Option Value}, meth.sig.returnType = none → v = none := fun h => by rw [Bd.returns] at h; cases h
  have X0 : Stand p l e rKJE4_1 s m #[(.ref a1), (.ref a2)] bl meth c s1 [] 0 0 := Stand.of_body Bd
  have e0 : s1.heap = h0 := by rw [← hh, Bd.state]; rfl
  have N0 := Fr.nil n0
  obtain ⟨EF, hEF⟩ : ∃ f, f = entryFrame m #[(.ref a1), (.ref a2)] 3 := ⟨_, rfl⟩
  have pre0 : Go p e bl s1 (mkF m 0 #[rv a1, rv a2, .unset] []) s1 EF := fun t k => by rw [hEF]; exact castTop (efJE4_1 m a1 a2) k
  have pre1 : Go p e bl s1 (mkF m 1 #[rv a1, rv a2, .unset] [(.ref a1)]) s1 EF := fun t k => pre0 t (by
   exact XS.aloadN X0.here hx rfl (B d8_0) rfl rfl k)
  obtain ⟨cl2, Ar2, q2, Sz2, M2, H2, G2⟩ := id V1
  have pre3 : Go p e bl s1 (mkF m 3 #[rv a1, rv a2, .unset] [(.ref a2), (.int (4 : Int32))]) s1 EF := fun t k => pre1 t (by
   refine X0.arraylength hx (by rw [e0]; exact Ar2.1) (State.isArrayOf_alike hZ.alike Ar2.2.1) (g := (mkF m 1 #[rv a1, rv a2, .unset] [(.ref a1)])) rfl rfl (B d8_1) _ ?_
   rw [len_of Sz2 M2]
   exact XS.aloadN X0.here hx rfl (B d8_2) rfl rfl k)
  obtain ⟨cl4, Ar4, q4, Sz4, M4, H4, G4⟩ := id V2
  have pre5 : Go p e bl s1 (mkF m 4 #[rv a1, rv a2, .unset] [(.int (1 : Int32)), (.int (4 : Int32))]) s1 EF := fun t k => pre3 t (by
   refine X0.arraylength hx (by rw [e0]; exact Ar4.1) (State.isArrayOf_alike hZ.alike Ar4.2.1) (g := (mkF m 3 #[rv a1, rv a2, .unset] [(.ref a2), (.int (4 : Int32))])) rfl rfl (B d8_3) _ ?_
   rw [len_of Sz4 M4]
   exact k)
  have pre6 : Go p e bl s1 (mkF m 34 #[rv a1, rv a2, .unset] []) s1 EF := fun t k => pre5 t (XS.icmpYes X0.here hx rfl (pc0 := 4) (pc' := 34) rfl (B d8_4) rfl (feq (by decide : ¬ ((4 : Int32) = (1 : Int32)))).2 (by decide) (by decide) k)
  have pre7 : Go p e bl s1 (mkF m 35 #[rv a1, rv a2, .unset] [(.int (0 : Int32))]) s1 EF := fun t k => pre6 t (by
   exact XS.iconst X0.here hx rfl (B d8_34) k)
  have hnr : Value.int (nar .boolean (0 : Int32)) = (.int (0 : Int32)) := by rfl
  exact fin1 X0 (v := some (.int (0 : Int32))) hrt hlk (wl rfl) (wl rfl) (by rw [e0]; exact ⟨by rw [← hR]; simp [eqB], N0, rfl⟩) (fun fs hr => hEF ▸ pre7 _ (retN X0 hx (t := .boolean) Bd.returns (by simp) (B d8_35) (hnr ▸ hr)))
abbrev rKJE4_2 : Room := { frames := 0, cells := 0, slots := 0, locals := 0 }
theorem efJE4_2 (m : MethodId) (a1 : Addr) (a2 : Addr) : entryFrame m #[(.ref a1), (.ref a2)] 3 = mkF m 0 #[rv a1, rv a2, .unset] [] := by first | (simp [entryFrame, mkF, argsToLocals, Value.category]; done) | rfl
def QJE4_2 (Z : State) (a1 : Addr) (a2 : Addr) (cz : Int32) (fv : Value) (k1 : ClassId) (k2 : ClassId) (u0 : Int32) (u1 : Int32) (u2 : Int32) (u3 : Int32) (w0 : Int32) (w1 : Int32) (r : Int32) (h0 : Heap) (n0 : Nat) (v : Option Value) (h : Heap) (L : List Loc) : Prop := v = some (.int r) ∧ Fr n0 L ∧ h = h0
set_option maxRecDepth 65536 in
set_option maxHeartbeats 40000000 in
theorem rmJE4_2 (l : Launch) (Z : State) (a0 : Array Value) (hw : HW a0 Z) (ws : List Jvm.Cond) (a1 : Addr) (a2 : Addr) (cz : Int32) (fv : Value) (k1 : ClassId) (k2 : ClassId) (u0 : Int32) (u1 : Int32) (u2 : Int32) (u3 : Int32) (w0 : Int32) (w1 : Int32) (r : Int32) (h0 : Heap) (n0 : Nat) (Z0 : n0 ≤ h0.size) (O0 : Old Z n0 h0) (J0 : Jd Z cz fv) (V1 : Arv Z h0 a1 k1 .byte (4 : Int32) [(.int u0), (.int u1), (.int u2), (.int u3)] (.int (0 : Int32))) (V2 : Arv Z h0 a2 k2 .byte (2 : Int32) [(.int w0), (.int w1)] (.int (0 : Int32))) (hR : eqB [u0, u1, u2, u3] [w0, w1] = r) :
    MF l Z mN8 jdk_43_method_13_code 3 (some .boolean) ws rKJE4_2 #[(.ref a1), (.ref a2)] h0 (QJE4_2 Z a1 a2 cz fv k1 k2 u0 u1 u2 u3 w0 w1 r h0 n0) := by
  refine MetFree.of_bodySF (plainFor_of_name pn2) hisR ?_
  intro p e s m args bl meth c s1 Bd hml0 hP hK
  obtain ⟨rfl, hZ, hh⟩ := hP
  have hx := Bd.exec
  have hby := Bd.bytes
  have B := @hb c _ hby
  have hown : s.vm.findClass "java/lang/StringLatin1" = some m.cls := findClass_of_methodNamed Bd.named
  have hlk : meth.locks = false := BodyLoose.notSynchronized Bd
  have hrt : ∀ {v : Option Value}, meth.sig.returnType = none → v = none := fun h => by rw [Bd.returns] at h; cases h
  have X0 : Stand p l e rKJE4_2 s m #[(.ref a1), (.ref a2)] bl meth c s1 [] 0 0 := Stand.of_body Bd
  have e0 : s1.heap = h0 := by rw [← hh, Bd.state]; rfl
  have N0 := Fr.nil n0
  obtain ⟨EF, hEF⟩ : ∃ f, f = entryFrame m #[(.ref a1), (.ref a2)] 3 := ⟨_, rfl⟩
  have pre0 : Go p e bl s1 (mkF m 0 #[rv a1, rv a2, .unset] []) s1 EF := fun t k => by rw [hEF]; exact castTop (efJE4_2 m a1 a2) k
  have pre1 : Go p e bl s1 (mkF m 1 #[rv a1, rv a2, .unset] [(.ref a1)]) s1 EF := fun t k => pre0 t (by
   exact XS.aloadN X0.here hx rfl (B d8_0) rfl rfl k)
  obtain ⟨cl2, Ar2, q2, Sz2, M2, H2, G2⟩ := id V1
  have pre3 : Go p e bl s1 (mkF m 3 #[rv a1, rv a2, .unset] [(.ref a2), (.int (4 : Int32))]) s1 EF := fun t k => pre1 t (by
   refine X0.arraylength hx (by rw [e0]; exact Ar2.1) (State.isArrayOf_alike hZ.alike Ar2.2.1) (g := (mkF m 1 #[rv a1, rv a2, .unset] [(.ref a1)])) rfl rfl (B d8_1) _ ?_
   rw [len_of Sz2 M2]
   exact XS.aloadN X0.here hx rfl (B d8_2) rfl rfl k)
  obtain ⟨cl4, Ar4, q4, Sz4, M4, H4, G4⟩ := id V2
  have pre5 : Go p e bl s1 (mkF m 4 #[rv a1, rv a2, .unset] [(.int (2 : Int32)), (.int (4 : Int32))]) s1 EF := fun t k => pre3 t (by
   refine X0.arraylength hx (by rw [e0]; exact Ar4.1) (State.isArrayOf_alike hZ.alike Ar4.2.1) (g := (mkF m 3 #[rv a1, rv a2, .unset] [(.ref a2), (.int (4 : Int32))])) rfl rfl (B d8_3) _ ?_
   rw [len_of Sz4 M4]
   exact k)
  have pre6 : Go p e bl s1 (mkF m 34 #[rv a1, rv a2, .unset] []) s1 EF := fun t k => pre5 t (XS.icmpYes X0.here hx rfl (pc0 := 4) (pc' := 34) rfl (B d8_4) rfl (feq (by decide : ¬ ((4 : Int32) = (2 : Int32)))).2 (by decide) (by decide) k)
  have pre7 : Go p e bl s1 (mkF m 35 #[rv a1, rv a2, .unset] [(.int (0 : Int32))]) s1 EF := fun t k => pre6 t (by
   exact XS.iconst X0.here hx rfl (B d8_34) k)
  have hnr : Value.int (nar .boolean (0 : Int32)) = (.int (0 : Int32)) := by rfl
  exact fin1 X0 (v := some (.int (0 : Int32))) hrt hlk (wl rfl) (wl rfl) (by rw [e0]; exact ⟨by rw [← hR]; simp [eqB], N0, rfl⟩) (fun fs hr => hEF ▸ pre7 _ (retN X0 hx (t := .boolean) Bd.returns (by simp) (B d8_35) (hnr ▸ hr)))
abbrev rKJE4_3 : Room := { frames := 0, cells := 0, slots := 0, locals := 0 }
theorem efJE4_3 (m : MethodId) (a1 : Addr) (a2 : Addr) : entryFrame m #[(.ref a1), (.ref a2)] 3 = mkF m 0 #[rv a1, rv a2, .unset] [] := by first | (simp [entryFrame, mkF, argsToLocals, Value.category]; done) | rfl
def QJE4_3 (Z : State) (a1 : Addr) (a2 : Addr) (cz : Int32) (fv : Value) (k1 : ClassId) (k2 : ClassId) (u0 : Int32) (u1 : Int32) (u2 : Int32) (u3 : Int32) (w0 : Int32) (w1 : Int32) (w2 : Int32) (r : Int32) (h0 : Heap) (n0 : Nat) (v : Option Value) (h : Heap) (L : List Loc) : Prop := v = some (.int r) ∧ Fr n0 L ∧ h = h0
set_option maxRecDepth 65536 in
set_option maxHeartbeats 40000000 in
theorem rmJE4_3 (l : Launch) (Z : State) (a0 : Array Value) (hw : HW a0 Z) (ws : List Jvm.Cond) (a1 : Addr) (a2 : Addr) (cz : Int32) (fv : Value) (k1 : ClassId) (k2 : ClassId) (u0 : Int32) (u1 : Int32) (u2 : Int32) (u3 : Int32) (w0 : Int32) (w1 : Int32) (w2 : Int32) (r : Int32) (h0 : Heap) (n0 : Nat) (Z0 : n0 ≤ h0.size) (O0 : Old Z n0 h0) (J0 : Jd Z cz fv) (V1 : Arv Z h0 a1 k1 .byte (4 : Int32) [(.int u0), (.int u1), (.int u2), (.int u3)] (.int (0 : Int32))) (V2 : Arv Z h0 a2 k2 .byte (3 : Int32) [(.int w0), (.int w1), (.int w2)] (.int (0 : Int32))) (hR : eqB [u0, u1, u2, u3] [w0, w1, w2] = r) :
    MF l Z mN8 jdk_43_method_13_code 3 (some .boolean) ws rKJE4_3 #[(.ref a1), (.ref a2)] h0 (QJE4_3 Z a1 a2 cz fv k1 k2 u0 u1 u2 u3 w0 w1 w2 r h0 n0) := by
  refine MetFree.of_bodySF (plainFor_of_name pn2) hisR ?_
  intro p e s m args bl meth c s1 Bd hml0 hP hK
  obtain ⟨rfl, hZ, hh⟩ := hP
  have hx := Bd.exec
  have hby := Bd.bytes
  have B := @hb c _ hby
  have hown : s.vm.findClass "java/lang/StringLatin1" = some m.cls := findClass_of_methodNamed Bd.named
  have hlk : meth.locks = false := BodyLoose.notSynchronized Bd
  have hrt : ∀ {v : Option Value}, meth.sig.returnType = none → v = none := fun h => by rw [Bd.returns] at h; cases h
  have X0 : Stand p l e rKJE4_3 s m #[(.ref a1), (.ref a2)] bl meth c s1 [] 0 0 := Stand.of_body Bd
  have e0 : s1.heap = h0 := by rw [← hh, Bd.state]; rfl
  have N0 := Fr.nil n0
  obtain ⟨EF, hEF⟩ : ∃ f, f = entryFrame m #[(.ref a1), (.ref a2)] 3 := ⟨_, rfl⟩
  have pre0 : Go p e bl s1 (mkF m 0 #[rv a1, rv a2, .unset] []) s1 EF := fun t k => by rw [hEF]; exact castTop (efJE4_3 m a1 a2) k
  have pre1 : Go p e bl s1 (mkF m 1 #[rv a1, rv a2, .unset] [(.ref a1)]) s1 EF := fun t k => pre0 t (by
   exact XS.aloadN X0.here hx rfl (B d8_0) rfl rfl k)
  obtain ⟨cl2, Ar2, q2, Sz2, M2, H2, G2⟩ := id V1
  have pre3 : Go p e bl s1 (mkF m 3 #[rv a1, rv a2, .unset] [(.ref a2), (.int (4 : Int32))]) s1 EF := fun t k => pre1 t (by
   refine X0.arraylength hx (by rw [e0]; exact Ar2.1) (State.isArrayOf_alike hZ.alike Ar2.2.1) (g := (mkF m 1 #[rv a1, rv a2, .unset] [(.ref a1)])) rfl rfl (B d8_1) _ ?_
   rw [len_of Sz2 M2]
   exact XS.aloadN X0.here hx rfl (B d8_2) rfl rfl k)
  obtain ⟨cl4, Ar4, q4, Sz4, M4, H4, G4⟩ := id V2
  have pre5 : Go p e bl s1 (mkF m 4 #[rv a1, rv a2, .unset] [(.int (3 : Int32)), (.int (4 : Int32))]) s1 EF := fun t k => pre3 t (by
   refine X0.arraylength hx (by rw [e0]; exact Ar4.1) (State.isArrayOf_alike hZ.alike Ar4.2.1) (g := (mkF m 3 #[rv a1, rv a2, .unset] [(.ref a2), (.int (4 : Int32))])) rfl rfl (B d8_3) _ ?_
   rw [len_of Sz4 M4]
   exact k)
  have pre6 : Go p e bl s1 (mkF m 34 #[rv a1, rv a2, .unset] []) s1 EF := fun t k => pre5 t (XS.icmpYes X0.here hx rfl (pc0 := 4) (pc' := 34) rfl (B d8_4) rfl (feq (by decide : ¬ ((4 : Int32) = (3 : Int32)))).2 (by decide) (by decide) k)
  have pre7 : Go p e bl s1 (mkF m 35 #[rv a1, rv a2, .unset] [(.int (0 : Int32))]) s1 EF := fun t k => pre6 t (by
   exact XS.iconst X0.here hx rfl (B d8_34) k)
  have hnr : Value.int (nar .boolean (0 : Int32)) = (.int (0 : Int32)) := by rfl
  exact fin1 X0 (v := some (.int (0 : Int32))) hrt hlk (wl rfl) (wl rfl) (by rw [e0]; exact ⟨by rw [← hR]; simp [eqB], N0, rfl⟩) (fun fs hr => hEF ▸ pre7 _ (retN X0 hx (t := .boolean) Bd.returns (by simp) (B d8_35) (hnr ▸ hr)))
abbrev rKJE4_4 : Room := { frames := 0, cells := 0, slots := 0, locals := 0 }
theorem efJE4_4 (m : MethodId) (a1 : Addr) (a2 : Addr) : entryFrame m #[(.ref a1), (.ref a2)] 3 = mkF m 0 #[rv a1, rv a2, .unset] [] := by first | (simp [entryFrame, mkF, argsToLocals, Value.category]; done) | rfl
def QJE4_4 (Z : State) (a1 : Addr) (a2 : Addr) (cz : Int32) (fv : Value) (k1 : ClassId) (k2 : ClassId) (u0 : Int32) (u1 : Int32) (u2 : Int32) (u3 : Int32) (w0 : Int32) (w1 : Int32) (w2 : Int32) (w3 : Int32) (r : Int32) (h0 : Heap) (n0 : Nat) (v : Option Value) (h : Heap) (L : List Loc) : Prop := v = some (.int r) ∧ Fr n0 L ∧ h = h0
set_option maxRecDepth 65536 in
set_option maxHeartbeats 40000000 in
theorem rmJE4_4 (l : Launch) (Z : State) (a0 : Array Value) (hw : HW a0 Z) (ws : List Jvm.Cond) (a1 : Addr) (a2 : Addr) (cz : Int32) (fv : Value) (k1 : ClassId) (k2 : ClassId) (u0 : Int32) (u1 : Int32) (u2 : Int32) (u3 : Int32) (w0 : Int32) (w1 : Int32) (w2 : Int32) (w3 : Int32) (r : Int32) (h0 : Heap) (n0 : Nat) (Z0 : n0 ≤ h0.size) (O0 : Old Z n0 h0) (J0 : Jd Z cz fv) (V1 : Arv Z h0 a1 k1 .byte (4 : Int32) [(.int u0), (.int u1), (.int u2), (.int u3)] (.int (0 : Int32))) (V2 : Arv Z h0 a2 k2 .byte (4 : Int32) [(.int w0), (.int w1), (.int w2), (.int w3)] (.int (0 : Int32))) (hR : eqB [u0, u1, u2, u3] [w0, w1, w2, w3] = r) :
    MF l Z mN8 jdk_43_method_13_code 3 (some .boolean) ws rKJE4_4 #[(.ref a1), (.ref a2)] h0 (QJE4_4 Z a1 a2 cz fv k1 k2 u0 u1 u2 u3 w0 w1 w2 w3 r h0 n0) := by
  refine MetFree.of_bodySF (plainFor_of_name pn2) hisR ?_
  intro p e s m args bl meth c s1 Bd hml0 hP hK
  obtain ⟨rfl, hZ, hh⟩ := hP
  have hx := Bd.exec
  have hby := Bd.bytes
  have B := @hb c _ hby
  have hown : s.vm.findClass "java/lang/StringLatin1" = some m.cls := findClass_of_methodNamed Bd.named
  have hlk : meth.locks = false := BodyLoose.notSynchronized Bd
  have hrt : ∀ {v : Option Value}, meth.sig.returnType = none → v = none := fun h => by rw [Bd.returns] at h; cases h
  have X0 : Stand p l e rKJE4_4 s m #[(.ref a1), (.ref a2)] bl meth c s1 [] 0 0 := Stand.of_body Bd
  have e0 : s1.heap = h0 := by rw [← hh, Bd.state]; rfl
  have N0 := Fr.nil n0
  obtain ⟨EF, hEF⟩ : ∃ f, f = entryFrame m #[(.ref a1), (.ref a2)] 3 := ⟨_, rfl⟩
  have pre0 : Go p e bl s1 (mkF m 0 #[rv a1, rv a2, .unset] []) s1 EF := fun t k => by rw [hEF]; exact castTop (efJE4_4 m a1 a2) k
  have pre1 : Go p e bl s1 (mkF m 1 #[rv a1, rv a2, .unset] [(.ref a1)]) s1 EF := fun t k => pre0 t (by
   exact XS.aloadN X0.here hx rfl (B d8_0) rfl rfl k)
  obtain ⟨cl2, Ar2, q2, Sz2, M2, H2, G2⟩ := id V1
  have pre3 : Go p e bl s1 (mkF m 3 #[rv a1, rv a2, .unset] [(.ref a2), (.int (4 : Int32))]) s1 EF := fun t k => pre1 t (by
   refine X0.arraylength hx (by rw [e0]; exact Ar2.1) (State.isArrayOf_alike hZ.alike Ar2.2.1) (g := (mkF m 1 #[rv a1, rv a2, .unset] [(.ref a1)])) rfl rfl (B d8_1) _ ?_
   rw [len_of Sz2 M2]
   exact XS.aloadN X0.here hx rfl (B d8_2) rfl rfl k)
  obtain ⟨cl4, Ar4, q4, Sz4, M4, H4, G4⟩ := id V2
  have pre5 : Go p e bl s1 (mkF m 4 #[rv a1, rv a2, .unset] [(.int (4 : Int32)), (.int (4 : Int32))]) s1 EF := fun t k => pre3 t (by
   refine X0.arraylength hx (by rw [e0]; exact Ar4.1) (State.isArrayOf_alike hZ.alike Ar4.2.1) (g := (mkF m 3 #[rv a1, rv a2, .unset] [(.ref a2), (.int (4 : Int32))])) rfl rfl (B d8_3) _ ?_
   rw [len_of Sz4 M4]
   exact k)
  have pre6 : Go p e bl s1 (mkF m 7 #[rv a1, rv a2, .unset] []) s1 EF := fun t k => pre5 t (XS.icmpNo X0.here hx rfl (B d8_4) rfl (teq (by decide : (4 : Int32) = (4 : Int32))).2 k)
  have pre7 : Go p e bl s1 (mkF m 11 #[rv a1, rv a2, iv (0 : Int32)] [(.ref a1), (.int (0 : Int32))]) s1 EF := fun t k => pre6 t (by
   refine XS.iconst X0.here hx rfl (B d8_7) ?_
   refine XS.istoreN X0.here hx rfl (B d8_8) rfl (l' := #[rv a1, rv a2, iv (0 : Int32)]) rfl ?_
   refine XS.iloadN X0.here hx rfl (B d8_9) rfl ?_
   exact XS.aloadN X0.here hx rfl (B d8_10) rfl rfl k)
  obtain ⟨cl8, Ar8, q8, Sz8, M8, H8, G8⟩ := id V1
  have pre9 : Go p e bl s1 (mkF m 12 #[rv a1, rv a2, iv (0 : Int32)] [(.int (4 : Int32)), (.int (0 : Int32))]) s1 EF := fun t k => pre7 t (by
   refine X0.arraylength hx (by rw [e0]; exact Ar8.1) (State.isArrayOf_alike hZ.alike Ar8.2.1) (g := (mkF m 11 #[rv a1, rv a2, iv (0 : Int32)] [(.ref a1), (.int (0 : Int32))])) rfl rfl (B d8_11) _ ?_
   rw [len_of Sz8 M8]
   exact k)
  have pre10 : Go p e bl s1 (mkF m 15 #[rv a1, rv a2, iv (0 : Int32)] []) s1 EF := fun t k => pre9 t (XS.icmpNo X0.here hx rfl (B d8_12) rfl (tlt (by decide : (0 : Int32) < (4 : Int32))).2.1 k)
  have pre11 : Go p e bl s1 (mkF m 17 #[rv a1, rv a2, iv (0 : Int32)] [(.int (0 : Int32)), (.ref a1)]) s1 EF := fun t k => pre10 t (by
   refine XS.aloadN X0.here hx rfl (B d8_15) rfl rfl ?_
   exact XS.iloadN X0.here hx rfl (B d8_16) rfl k)
  obtain ⟨cl12, Ar12, q12, Sz12, M12, H12, G12⟩ := id V1
  have hin12 : ¬ ((0 : Int32) < 0 ∨ cl12.slots.size ≤ ((0 : Int32)).toNatClampNeg) := inb_of Sz12 ⟨by decide, by decide⟩
  have hat12 : cl12.slots[((0 : Int32)).toNatClampNeg]? = some (.int u0) := Has.at H12 hin12 rfl
  have pre13 : Go p e bl s1 (mkF m 20 #[rv a1, rv a2, iv (0 : Int32)] [(.int (0 : Int32)), (.ref a2), (.int u0)]) s1 EF := fun t k => pre11 t (by
   refine X0.baloadBytes hx (j := (0 : Int32)) (v := (.int u0)) (by rw [e0]; exact Ar12.1) (State.isArrayOf_alike hZ.alike Ar12.2.1) Ar12.2.2 hin12 hat12 (g := (mkF m 17 #[rv a1, rv a2, iv (0 : Int32)] [(.int (0 : Int32)), (.ref a1)])) rfl rfl (B d8_17) _ ?_
   refine XS.aloadN X0.here hx rfl (B d8_18) rfl rfl ?_
   exact XS.iloadN X0.here hx rfl (B d8_19) rfl k)
  obtain ⟨cl14, Ar14, q14, Sz14, M14, H14, G14⟩ := id V2
  have hin14 : ¬ ((0 : Int32) < 0 ∨ cl14.slots.size ≤ ((0 : Int32)).toNatClampNeg) := inb_of Sz14 ⟨by decide, by decide⟩
  have hat14 : cl14.slots[((0 : Int32)).toNatClampNeg]? = some (.int w0) := Has.at H14 hin14 rfl
  have pre15 : Go p e bl s1 (mkF m 21 #[rv a1, rv a2, iv (0 : Int32)] [(.int w0), (.int u0)]) s1 EF := fun t k => pre13 t (by
   exact X0.baloadBytes hx (j := (0 : Int32)) (v := (.int w0)) (by rw [e0]; exact Ar14.1) (State.isArrayOf_alike hZ.alike Ar14.2.1) Ar14.2.2 hin14 hat14 (g := (mkF m 20 #[rv a1, rv a2, iv (0 : Int32)] [(.int (0 : Int32)), (.ref a2), (.int u0)])) rfl rfl (B d8_20) _ k)
  by_cases hc21 : u0 = w0
  · have pre16 : Go p e bl s1 (mkF m 26 #[rv a1, rv a2, iv (0 : Int32)] []) s1 EF := fun t k => pre15 t (XS.icmpYes X0.here hx rfl (pc0 := 21) (pc' := 26) rfl (B d8_21) rfl (teq hc21).1 (by decide) (by decide) k)
    have pre17 : Go p e bl s1 (mkF m 11 #[rv a1, rv a2, iv (1 : Int32)] [(.ref a1), (.int (1 : Int32))]) s1 EF := fun t k => pre16 t (by
     refine XS.iinc X0.here hx rfl (B d8_26) rfl (l' := #[rv a1, rv a2, iv (1 : Int32)]) rfl ?_
     refine XS.goto X0.here hx rfl (pc0 := 29) (pc' := 9) rfl (B d8_29) (by decide) (by decide) ?_
     refine XS.iloadN X0.here hx rfl (B d8_9) rfl ?_
     exact XS.aloadN X0.here hx rfl (B d8_10) rfl rfl k)
    obtain ⟨cl18, Ar18, q18, Sz18, M18, H18, G18⟩ := id V1
    have pre19 : Go p e bl s1 (mkF m 12 #[rv a1, rv a2, iv (1 : Int32)] [(.int (4 : Int32)), (.int (1 : Int32))]) s1 EF := fun t k => pre17 t (by
     refine X0.arraylength hx (by rw [e0]; exact Ar18.1) (State.isArrayOf_alike hZ.alike Ar18.2.1) (g := (mkF m 11 #[rv a1, rv a2, iv (1 : Int32)] [(.ref a1), (.int (1 : Int32))])) rfl rfl (B d8_11) _ ?_
     rw [len_of Sz18 M18]
     exact k)
    have pre20 : Go p e bl s1 (mkF m 15 #[rv a1, rv a2, iv (1 : Int32)] []) s1 EF := fun t k => pre19 t (XS.icmpNo X0.here hx rfl (B d8_12) rfl (tlt (by decide : (1 : Int32) < (4 : Int32))).2.1 k)
    have pre21 : Go p e bl s1 (mkF m 17 #[rv a1, rv a2, iv (1 : Int32)] [(.int (1 : Int32)), (.ref a1)]) s1 EF := fun t k => pre20 t (by
     refine XS.aloadN X0.here hx rfl (B d8_15) rfl rfl ?_
     exact XS.iloadN X0.here hx rfl (B d8_16) rfl k)
    obtain ⟨cl22, Ar22, q22, Sz22, M22, H22, G22⟩ := id V1
    have hin22 : ¬ ((1 : Int32) < 0 ∨ cl22.slots.size ≤ ((1 : Int32)).toNatClampNeg) := inb_of Sz22 ⟨by decide, by decide⟩
    have hat22 : cl22.slots[((1 : Int32)).toNatClampNeg]? = some (.int u1) := Has.at H22 hin22 rfl
    have pre23 : Go p e bl s1 (mkF m 20 #[rv a1, rv a2, iv (1 : Int32)] [(.int (1 : Int32)), (.ref a2), (.int u1)]) s1 EF := fun t k => pre21 t (by
     refine X0.baloadBytes hx (j := (1 : Int32)) (v := (.int u1)) (by rw [e0]; exact Ar22.1) (State.isArrayOf_alike hZ.alike Ar22.2.1) Ar22.2.2 hin22 hat22 (g := (mkF m 17 #[rv a1, rv a2, iv (1 : Int32)] [(.int (1 : Int32)), (.ref a1)])) rfl rfl (B d8_17) _ ?_
     refine XS.aloadN X0.here hx rfl (B d8_18) rfl rfl ?_
     exact XS.iloadN X0.here hx rfl (B d8_19) rfl k)
    obtain ⟨cl24, Ar24, q24, Sz24, M24, H24, G24⟩ := id V2
    have hin24 : ¬ ((1 : Int32) < 0 ∨ cl24.slots.size ≤ ((1 : Int32)).toNatClampNeg) := inb_of Sz24 ⟨by decide, by decide⟩
    have hat24 : cl24.slots[((1 : Int32)).toNatClampNeg]? = some (.int w1) := Has.at H24 hin24 rfl
    have pre25 : Go p e bl s1 (mkF m 21 #[rv a1, rv a2, iv (1 : Int32)] [(.int w1), (.int u1)]) s1 EF := fun t k => pre23 t (by
     exact X0.baloadBytes hx (j := (1 : Int32)) (v := (.int w1)) (by rw [e0]; exact Ar24.1) (State.isArrayOf_alike hZ.alike Ar24.2.1) Ar24.2.2 hin24 hat24 (g := (mkF m 20 #[rv a1, rv a2, iv (1 : Int32)] [(.int (1 : Int32)), (.ref a2), (.int u1)])) rfl rfl (B d8_20) _ k)
    by_cases hc21' : u1 = w1
    · have pre26 : Go p e bl s1 (mkF m 26 #[rv a1, rv a2, iv (1 : Int32)] []) s1 EF := fun t k => pre25 t (XS.icmpYes X0.here hx rfl (pc0 := 21) (pc' := 26) rfl (B d8_21) rfl (teq hc21').1 (by decide) (by decide) k)
      have pre27 : Go p e bl s1 (mkF m 11 #[rv a1, rv a2, iv (2 : Int32)] [(.ref a1), (.int (2 : Int32))]) s1 EF := fun t k => pre26 t (by
       refine XS.iinc X0.here hx rfl (B d8_26) rfl (l' := #[rv a1, rv a2, iv (2 : Int32)]) rfl ?_
       refine XS.goto X0.here hx rfl (pc0 := 29) (pc' := 9) rfl (B d8_29) (by decide) (by decide) ?_
       refine XS.iloadN X0.here hx rfl (B d8_9) rfl ?_
       exact XS.aloadN X0.here hx rfl (B d8_10) rfl rfl k)
      obtain ⟨cl28, Ar28, q28, Sz28, M28, H28, G28⟩ := id V1
      have pre29 : Go p e bl s1 (mkF m 12 #[rv a1, rv a2, iv (2 : Int32)] [(.int (4 : Int32)), (.int (2 : Int32))]) s1 EF := fun t k => pre27 t (by
       refine X0.arraylength hx (by rw [e0]; exact Ar28.1) (State.isArrayOf_alike hZ.alike Ar28.2.1) (g := (mkF m 11 #[rv a1, rv a2, iv (2 : Int32)] [(.ref a1), (.int (2 : Int32))])) rfl rfl (B d8_11) _ ?_
       rw [len_of Sz28 M28]
       exact k)
      have pre30 : Go p e bl s1 (mkF m 15 #[rv a1, rv a2, iv (2 : Int32)] []) s1 EF := fun t k => pre29 t (XS.icmpNo X0.here hx rfl (B d8_12) rfl (tlt (by decide : (2 : Int32) < (4 : Int32))).2.1 k)
      have pre31 : Go p e bl s1 (mkF m 17 #[rv a1, rv a2, iv (2 : Int32)] [(.int (2 : Int32)), (.ref a1)]) s1 EF := fun t k => pre30 t (by
       refine XS.aloadN X0.here hx rfl (B d8_15) rfl rfl ?_
       exact XS.iloadN X0.here hx rfl (B d8_16) rfl k)
      obtain ⟨cl32, Ar32, q32, Sz32, M32, H32, G32⟩ := id V1
      have hin32 : ¬ ((2 : Int32) < 0 ∨ cl32.slots.size ≤ ((2 : Int32)).toNatClampNeg) := inb_of Sz32 ⟨by decide, by decide⟩
      have hat32 : cl32.slots[((2 : Int32)).toNatClampNeg]? = some (.int u2) := Has.at H32 hin32 rfl
      have pre33 : Go p e bl s1 (mkF m 20 #[rv a1, rv a2, iv (2 : Int32)] [(.int (2 : Int32)), (.ref a2), (.int u2)]) s1 EF := fun t k => pre31 t (by
       refine X0.baloadBytes hx (j := (2 : Int32)) (v := (.int u2)) (by rw [e0]; exact Ar32.1) (State.isArrayOf_alike hZ.alike Ar32.2.1) Ar32.2.2 hin32 hat32 (g := (mkF m 17 #[rv a1, rv a2, iv (2 : Int32)] [(.int (2 : Int32)), (.ref a1)])) rfl rfl (B d8_17) _ ?_
       refine XS.aloadN X0.here hx rfl (B d8_18) rfl rfl ?_
       exact XS.iloadN X0.here hx rfl (B d8_19) rfl k)
      obtain ⟨cl34, Ar34, q34, Sz34, M34, H34, G34⟩ := id V2
      have hin34 : ¬ ((2 : Int32) < 0 ∨ cl34.slots.size ≤ ((2 : Int32)).toNatClampNeg) := inb_of Sz34 ⟨by decide, by decide⟩
      have hat34 : cl34.slots[((2 : Int32)).toNatClampNeg]? = some (.int w2) := Has.at H34 hin34 rfl
      have pre35 : Go p e bl s1 (mkF m 21 #[rv a1, rv a2, iv (2 : Int32)] [(.int w2), (.int u2)]) s1 EF := fun t k => pre33 t (by
       exact X0.baloadBytes hx (j := (2 : Int32)) (v := (.int w2)) (by rw [e0]; exact Ar34.1) (State.isArrayOf_alike hZ.alike Ar34.2.1) Ar34.2.2 hin34 hat34 (g := (mkF m 20 #[rv a1, rv a2, iv (2 : Int32)] [(.int (2 : Int32)), (.ref a2), (.int u2)])) rfl rfl (B d8_20) _ k)
      by_cases hc21'' : u2 = w2
      · have pre36 : Go p e bl s1 (mkF m 26 #[rv a1, rv a2, iv (2 : Int32)] []) s1 EF := fun t k => pre35 t (XS.icmpYes X0.here hx rfl (pc0 := 21) (pc' := 26) rfl (B d8_21) rfl (teq hc21'').1 (by decide) (by decide) k)
        have pre37 : Go p e bl s1 (mkF m 11 #[rv a1, rv a2, iv (3 : Int32)] [(.ref a1), (.int (3 : Int32))]) s1 EF := fun t k => pre36 t (by
         refine XS.iinc X0.here hx rfl (B d8_26) rfl (l' := #[rv a1, rv a2, iv (3 : Int32)]) rfl ?_
         refine XS.goto X0.here hx rfl (pc0 := 29) (pc' := 9) rfl (B d8_29) (by decide) (by decide) ?_
         refine XS.iloadN X0.here hx rfl (B d8_9) rfl ?_
         exact XS.aloadN X0.here hx rfl (B d8_10) rfl rfl k)
        obtain ⟨cl38, Ar38, q38, Sz38, M38, H38, G38⟩ := id V1
        have pre39 : Go p e bl s1 (mkF m 12 #[rv a1, rv a2, iv (3 : Int32)] [(.int (4 : Int32)), (.int (3 : Int32))]) s1 EF := fun t k => pre37 t (by
         refine X0.arraylength hx (by rw [e0]; exact Ar38.1) (State.isArrayOf_alike hZ.alike Ar38.2.1) (g := (mkF m 11 #[rv a1, rv a2, iv (3 : Int32)] [(.ref a1), (.int (3 : Int32))])) rfl rfl (B d8_11) _ ?_
         rw [len_of Sz38 M38]
         exact k)
        have pre40 : Go p e bl s1 (mkF m 15 #[rv a1, rv a2, iv (3 : Int32)] []) s1 EF := fun t k => pre39 t (XS.icmpNo X0.here hx rfl (B d8_12) rfl (tlt (by decide : (3 : Int32) < (4 : Int32))).2.1 k)
        have pre41 : Go p e bl s1 (mkF m 17 #[rv a1, rv a2, iv (3 : Int32)] [(.int (3 : Int32)), (.ref a1)]) s1 EF := fun t k => pre40 t (by
         refine XS.aloadN X0.here hx rfl (B d8_15) rfl rfl ?_
         exact XS.iloadN X0.here hx rfl (B d8_16) rfl k)
        obtain ⟨cl42, Ar42, q42, Sz42, M42, H42, G42⟩ := id V1
        have hin42 : ¬ ((3 : Int32) < 0 ∨ cl42.slots.size ≤ ((3 : Int32)).toNatClampNeg) := inb_of Sz42 ⟨by decide, by decide⟩
        have hat42 : cl42.slots[((3 : Int32)).toNatClampNeg]? = some (.int u3) := Has.at H42 hin42 rfl
        have pre43 : Go p e bl s1 (mkF m 20 #[rv a1, rv a2, iv (3 : Int32)] [(.int (3 : Int32)), (.ref a2), (.int u3)]) s1 EF := fun t k => pre41 t (by
         refine X0.baloadBytes hx (j := (3 : Int32)) (v := (.int u3)) (by rw [e0]; exact Ar42.1) (State.isArrayOf_alike hZ.alike Ar42.2.1) Ar42.2.2 hin42 hat42 (g := (mkF m 17 #[rv a1, rv a2, iv (3 : Int32)] [(.int (3 : Int32)), (.ref a1)])) rfl rfl (B d8_17) _ ?_
         refine XS.aloadN X0.here hx rfl (B d8_18) rfl rfl ?_
         exact XS.iloadN X0.here hx rfl (B d8_19) rfl k)
        obtain ⟨cl44, Ar44, q44, Sz44, M44, H44, G44⟩ := id V2
        have hin44 : ¬ ((3 : Int32) < 0 ∨ cl44.slots.size ≤ ((3 : Int32)).toNatClampNeg) := inb_of Sz44 ⟨by decide, by decide⟩
        have hat44 : cl44.slots[((3 : Int32)).toNatClampNeg]? = some (.int w3) := Has.at H44 hin44 rfl
        have pre45 : Go p e bl s1 (mkF m 21 #[rv a1, rv a2, iv (3 : Int32)] [(.int w3), (.int u3)]) s1 EF := fun t k => pre43 t (by
         exact X0.baloadBytes hx (j := (3 : Int32)) (v := (.int w3)) (by rw [e0]; exact Ar44.1) (State.isArrayOf_alike hZ.alike Ar44.2.1) Ar44.2.2 hin44 hat44 (g := (mkF m 20 #[rv a1, rv a2, iv (3 : Int32)] [(.int (3 : Int32)), (.ref a2), (.int u3)])) rfl rfl (B d8_20) _ k)
        by_cases hc21''' : u3 = w3
        · have pre46 : Go p e bl s1 (mkF m 26 #[rv a1, rv a2, iv (3 : Int32)] []) s1 EF := fun t k => pre45 t (XS.icmpYes X0.here hx rfl (pc0 := 21) (pc' := 26) rfl (B d8_21) rfl (teq hc21''').1 (by decide) (by decide) k)
          have pre47 : Go p e bl s1 (mkF m 11 #[rv a1, rv a2, iv (4 : Int32)] [(.ref a1), (.int (4 : Int32))]) s1 EF := fun t k => pre46 t (by
           refine XS.iinc X0.here hx rfl (B d8_26) rfl (l' := #[rv a1, rv a2, iv (4 : Int32)]) rfl ?_
           refine XS.goto X0.here hx rfl (pc0 := 29) (pc' := 9) rfl (B d8_29) (by decide) (by decide) ?_
           refine XS.iloadN X0.here hx rfl (B d8_9) rfl ?_
           exact XS.aloadN X0.here hx rfl (B d8_10) rfl rfl k)
          obtain ⟨cl48, Ar48, q48, Sz48, M48, H48, G48⟩ := id V1
          have pre49 : Go p e bl s1 (mkF m 12 #[rv a1, rv a2, iv (4 : Int32)] [(.int (4 : Int32)), (.int (4 : Int32))]) s1 EF := fun t k => pre47 t (by
           refine X0.arraylength hx (by rw [e0]; exact Ar48.1) (State.isArrayOf_alike hZ.alike Ar48.2.1) (g := (mkF m 11 #[rv a1, rv a2, iv (4 : Int32)] [(.ref a1), (.int (4 : Int32))])) rfl rfl (B d8_11) _ ?_
           rw [len_of Sz48 M48]
           exact k)
          have pre50 : Go p e bl s1 (mkF m 32 #[rv a1, rv a2, iv (4 : Int32)] []) s1 EF := fun t k => pre49 t (XS.icmpYes X0.here hx rfl (pc0 := 12) (pc' := 32) rfl (B d8_12) rfl (flt (by decide : ¬ ((4 : Int32) < (4 : Int32)))).2.1 (by decide) (by decide) k)
          have pre51 : Go p e bl s1 (mkF m 33 #[rv a1, rv a2, iv (4 : Int32)] [(.int (1 : Int32))]) s1 EF := fun t k => pre50 t (by
           exact XS.iconst X0.here hx rfl (B d8_32) k)
          have hnr : Value.int (nar .boolean (1 : Int32)) = (.int (1 : Int32)) := by rfl
          exact fin1 X0 (v := some (.int (1 : Int32))) hrt hlk (wl rfl) (wl rfl) (by rw [e0]; exact ⟨by rw [← hR]; simp [eqB, hc21, hc21', hc21'', hc21'''], N0, rfl⟩) (fun fs hr => hEF ▸ pre51 _ (retN X0 hx (t := .boolean) Bd.returns (by simp) (B d8_33) (hnr ▸ hr)))
        have pre52 : Go p e bl s1 (mkF m 24 #[rv a1, rv a2, iv (3 : Int32)] []) s1 EF := fun t k => pre45 t (XS.icmpNo X0.here hx rfl (B d8_21) rfl (feq hc21''').1 k)
        have pre53 : Go p e bl s1 (mkF m 25 #[rv a1, rv a2, iv (3 : Int32)] [(.int (0 : Int32))]) s1 EF := fun t k => pre52 t (by
         exact XS.iconst X0.here hx rfl (B d8_24) k)
        have hnr : Value.int (nar .boolean (0 : Int32)) = (.int (0 : Int32)) := by rfl
        exact fin1 X0 (v := some (.int (0 : Int32))) hrt hlk (wl rfl) (wl rfl) (by rw [e0]; exact ⟨by rw [← hR]; simp [eqB, hc21, hc21', hc21'', hc21'''], N0, rfl⟩) (fun fs hr => hEF ▸ pre53 _ (retN X0 hx (t := .boolean) Bd.returns (by simp) (B d8_25) (hnr ▸ hr)))
      have pre54 : Go p e bl s1 (mkF m 24 #[rv a1, rv a2, iv (2 : Int32)] []) s1 EF := fun t k => pre35 t (XS.icmpNo X0.here hx rfl (B d8_21) rfl (feq hc21'').1 k)
      have pre55 : Go p e bl s1 (mkF m 25 #[rv a1, rv a2, iv (2 : Int32)] [(.int (0 : Int32))]) s1 EF := fun t k => pre54 t (by
       exact XS.iconst X0.here hx rfl (B d8_24) k)
      have hnr : Value.int (nar .boolean (0 : Int32)) = (.int (0 : Int32)) := by rfl
      exact fin1 X0 (v := some (.int (0 : Int32))) hrt hlk (wl rfl) (wl rfl) (by rw [e0]; exact ⟨by rw [← hR]; simp [eqB, hc21, hc21', hc21''], N0, rfl⟩) (fun fs hr => hEF ▸ pre55 _ (retN X0 hx (t := .boolean) Bd.returns (by simp) (B d8_25) (hnr ▸ hr)))
    have pre56 : Go p e bl s1 (mkF m 24 #[rv a1, rv a2, iv (1 : Int32)] []) s1 EF := fun t k => pre25 t (XS.icmpNo X0.here hx rfl (B d8_21) rfl (feq hc21').1 k)
    have pre57 : Go p e bl s1 (mkF m 25 #[rv a1, rv a2, iv (1 : Int32)] [(.int (0 : Int32))]) s1 EF := fun t k => pre56 t (by
     exact XS.iconst X0.here hx rfl (B d8_24) k)
    have hnr : Value.int (nar .boolean (0 : Int32)) = (.int (0 : Int32)) := by rfl
    exact fin1 X0 (v := some (.int (0 : Int32))) hrt hlk (wl rfl) (wl rfl) (by rw [e0]; exact ⟨by rw [← hR]; simp [eqB, hc21, hc21'], N0, rfl⟩) (fun fs hr => hEF ▸ pre57 _ (retN X0 hx (t := .boolean) Bd.returns (by simp) (B d8_25) (hnr ▸ hr)))
  have pre58 : Go p e bl s1 (mkF m 24 #[rv a1, rv a2, iv (0 : Int32)] []) s1 EF := fun t k => pre15 t (XS.icmpNo X0.here hx rfl (B d8_21) rfl (feq hc21).1 k)
  have pre59 : Go p e bl s1 (mkF m 25 #[rv a1, rv a2, iv (0 : Int32)] [(.int (0 : Int32))]) s1 EF := fun t k => pre58 t (by
   exact XS.iconst X0.here hx rfl (B d8_24) k)
  have hnr : Value.int (nar .boolean (0 : Int32)) = (.int (0 : Int32)) := by rfl
  exact fin1 X0 (v := some (.int (0 : Int32))) hrt hlk (wl rfl) (wl rfl) (by rw [e0]; exact ⟨by rw [← hR]; simp [eqB, hc21], N0, rfl⟩) (fun fs hr => hEF ▸ pre59 _ (retN X0 hx (t := .boolean) Bd.returns (by simp) (B d8_25) (hnr ▸ hr)))
theorem rmJE (l : Launch) (Z : State) (a0 : Array Value) (hw : HW a0 Z) (ws : List Jvm.Cond) (a1 a2 : Addr) (cz : Int32) (fv : Value) (k1 k2 : ClassId) (n1 n2 : Int32) (bs1 bs2 : List Int32) (r : Int32) (h0 : Heap) (n0 : Nat) (Z0 : n0 ≤ h0.size) (O0 : Old Z n0 h0) (J0 : Jd Z cz fv) (V1 : Arv Z h0 a1 k1 .byte n1 (BV bs1) (.int (0 : Int32))) (V2 : Arv Z h0 a2 k2 .byte n2 (BV bs2) (.int (0 : Int32))) (g11 : n1.toInt = bs1.length) (g12 : 1 ≤ bs1.length) (g13 : bs1.length ≤ 4) (g21 : n2.toInt = bs2.length) (g22 : 1 ≤ bs2.length) (g23 : bs2.length ≤ 4) (hR : eqB bs1 bs2 = r) :
    MF l Z mN8 jdk_43_method_13_code 3 (some .boolean) ws rKJE1_1 #[(.ref a1), (.ref a2)] h0 (QP r h0 n0) := by
  rcases own_len g11 g12 g13 with ⟨u0, rfl, rfl⟩ | ⟨u0, u1, rfl, rfl⟩ | ⟨u0, u1, u2, rfl, rfl⟩ | ⟨u0, u1, u2, u3, rfl, rfl⟩
  · rcases own_len g21 g22 g23 with ⟨w0, rfl, rfl⟩ | ⟨w0, w1, rfl, rfl⟩ | ⟨w0, w1, w2, rfl, rfl⟩ | ⟨w0, w1, w2, w3, rfl, rfl⟩
    · exact rmJE1_1 l Z a0 hw ws a1 a2 cz fv k1 k2 u0 w0 r h0 n0 Z0 O0 J0 V1 V2 hR
    · exact rmJE1_2 l Z a0 hw ws a1 a2 cz fv k1 k2 u0 w0 w1 r h0 n0 Z0 O0 J0 V1 V2 hR
    · exact rmJE1_3 l Z a0 hw ws a1 a2 cz fv k1 k2 u0 w0 w1 w2 r h0 n0 Z0 O0 J0 V1 V2 hR
    · exact rmJE1_4 l Z a0 hw ws a1 a2 cz fv k1 k2 u0 w0 w1 w2 w3 r h0 n0 Z0 O0 J0 V1 V2 hR
  · rcases own_len g21 g22 g23 with ⟨w0, rfl, rfl⟩ | ⟨w0, w1, rfl, rfl⟩ | ⟨w0, w1, w2, rfl, rfl⟩ | ⟨w0, w1, w2, w3, rfl, rfl⟩
    · exact rmJE2_1 l Z a0 hw ws a1 a2 cz fv k1 k2 u0 u1 w0 r h0 n0 Z0 O0 J0 V1 V2 hR
    · exact rmJE2_2 l Z a0 hw ws a1 a2 cz fv k1 k2 u0 u1 w0 w1 r h0 n0 Z0 O0 J0 V1 V2 hR
    · exact rmJE2_3 l Z a0 hw ws a1 a2 cz fv k1 k2 u0 u1 w0 w1 w2 r h0 n0 Z0 O0 J0 V1 V2 hR
    · exact rmJE2_4 l Z a0 hw ws a1 a2 cz fv k1 k2 u0 u1 w0 w1 w2 w3 r h0 n0 Z0 O0 J0 V1 V2 hR
  · rcases own_len g21 g22 g23 with ⟨w0, rfl, rfl⟩ | ⟨w0, w1, rfl, rfl⟩ | ⟨w0, w1, w2, rfl, rfl⟩ | ⟨w0, w1, w2, w3, rfl, rfl⟩
    · exact rmJE3_1 l Z a0 hw ws a1 a2 cz fv k1 k2 u0 u1 u2 w0 r h0 n0 Z0 O0 J0 V1 V2 hR
    · exact rmJE3_2 l Z a0 hw ws a1 a2 cz fv k1 k2 u0 u1 u2 w0 w1 r h0 n0 Z0 O0 J0 V1 V2 hR
    · exact rmJE3_3 l Z a0 hw ws a1 a2 cz fv k1 k2 u0 u1 u2 w0 w1 w2 r h0 n0 Z0 O0 J0 V1 V2 hR
    · exact rmJE3_4 l Z a0 hw ws a1 a2 cz fv k1 k2 u0 u1 u2 w0 w1 w2 w3 r h0 n0 Z0 O0 J0 V1 V2 hR
  · rcases own_len g21 g22 g23 with ⟨w0, rfl, rfl⟩ | ⟨w0, w1, rfl, rfl⟩ | ⟨w0, w1, w2, rfl, rfl⟩ | ⟨w0, w1, w2, w3, rfl, rfl⟩
    · exact rmJE4_1 l Z a0 hw ws a1 a2 cz fv k1 k2 u0 u1 u2 u3 w0 r h0 n0 Z0 O0 J0 V1 V2 hR
    · exact rmJE4_2 l Z a0 hw ws a1 a2 cz fv k1 k2 u0 u1 u2 u3 w0 w1 r h0 n0 Z0 O0 J0 V1 V2 hR
    · exact rmJE4_3 l Z a0 hw ws a1 a2 cz fv k1 k2 u0 u1 u2 u3 w0 w1 w2 r h0 n0 Z0 O0 J0 V1 V2 hR
    · exact rmJE4_4 l Z a0 hw ws a1 a2 cz fv k1 k2 u0 u1 u2 u3 w0 w1 w2 w3 r h0 n0 Z0 O0 J0 V1 V2 hR

abbrev rKJed : Room := { frames := 1, cells := 0, slots := 0, locals := 14 }
theorem d9_0 : decode jdk_42_method_66_code 0 = .ok (.aload_n 0, 1) := by decide +kernel
theorem d9_1 : decode jdk_42_method_66_code 1 = .ok (.aload_n 1, 1) := by decide +kernel
theorem d9_2 : decode jdk_42_method_66_code 2 = .ok (.if_acmp .ne 5, 3) := by decide +kernel
theorem d9_7 : decode jdk_42_method_66_code 7 = .ok (.aload_n 1, 1) := by decide +kernel
theorem d9_8 : decode jdk_42_method_66_code 8 = .ok (.instanceof 10, 3) := by decide +kernel
theorem d9_11 : decode jdk_42_method_66_code 11 = .ok (.ifCond .eq 43, 3) := by decide +kernel
theorem d9_14 : decode jdk_42_method_66_code 14 = .ok (.aload_n 1, 1) := by decide +kernel
theorem d9_15 : decode jdk_42_method_66_code 15 = .ok (.checkcast 10, 3) := by decide +kernel
theorem d9_18 : decode jdk_42_method_66_code 18 = .ok (.astore_n 2, 1) := by decide +kernel
theorem d9_19 : decode jdk_42_method_66_code 19 = .ok (.getstatic 38, 3) := by decide +kernel
theorem d9_22 : decode jdk_42_method_66_code 22 = .ok (.ifCond .eq 14, 3) := by decide +kernel
theorem d9_25 : decode jdk_42_method_66_code 25 = .ok (.aload_n 0, 1) := by decide +kernel
theorem d9_26 : decode jdk_42_method_66_code 26 = .ok (.getfield 15, 3) := by decide +kernel
theorem d9_29 : decode jdk_42_method_66_code 29 = .ok (.aload_n 2, 1) := by decide +kernel
theorem d9_30 : decode jdk_42_method_66_code 30 = .ok (.getfield 15, 3) := by decide +kernel
theorem d9_33 : decode jdk_42_method_66_code 33 = .ok (.if_icmp .ne 21, 3) := by decide +kernel
theorem d9_36 : decode jdk_42_method_66_code 36 = .ok (.aload_n 0, 1) := by decide +kernel
theorem d9_37 : decode jdk_42_method_66_code 37 = .ok (.getfield 9, 3) := by decide +kernel
theorem d9_40 : decode jdk_42_method_66_code 40 = .ok (.aload_n 2, 1) := by decide +kernel
theorem d9_41 : decode jdk_42_method_66_code 41 = .ok (.getfield 9, 3) := by decide +kernel
theorem d9_44 : decode jdk_42_method_66_code 44 = .ok (.invokestatic 541, 3) := by decide +kernel
theorem d9_47 : decode jdk_42_method_66_code 47 = .ok (.ifCond .eq 7, 3) := by decide +kernel
theorem d9_50 : decode jdk_42_method_66_code 50 = .ok (.iconst 1, 1) := by decide +kernel
theorem d9_51 : decode jdk_42_method_66_code 51 = .ok (.goto 4, 3) := by decide +kernel
theorem d9_54 : decode jdk_42_method_66_code 54 = .ok (.iconst 0, 1) := by decide +kernel
theorem d9_55 : decode jdk_42_method_66_code 55 = .ok (.ireturn, 1) := by decide +kernel
theorem pd5 : parseMethodDescriptor "([B[B)Z" = some ⟨[(.array .byte), (.array .byte)], some .boolean⟩ := by decide +kernel
theorem efJed (m : MethodId) (a1 : Addr) (a2 : Addr) : entryFrame m #[(.ref a1), (.ref a2)] 3 = mkF m 0 #[rv a1, rv a2, .unset] [] := by first | (simp [entryFrame, mkF, argsToLocals, Value.category]; done) | rfl
def QJed (Z : State) (a1 : Addr) (a2 : Addr) (cz : Int32) (fv : Value) (b1 : Addr) (k1 : ClassId) (n1 : Int32) (bs1 : List Int32) (hs1 : Int32) (hz1 : Int32) (b2 : Addr) (k2 : ClassId) (n2 : Int32) (bs2 : List Int32) (hs2 : Int32) (hz2 : Int32) (r : Int32) (h0 : Heap) (n0 : Nat) (v : Option Value) (h : Heap) (L : List Loc) : Prop := v = some (.int r) ∧ Fr n0 L ∧ h = h0
set_option maxRecDepth 65536 in
set_option maxHeartbeats 40000000 in
theorem rmJed (l : Launch) (Z : State) (a0 : Array Value) (hw : HW a0 Z) (ws : List Jvm.Cond) (a1 : Addr) (a2 : Addr) (cz : Int32) (fv : Value) (b1 : Addr) (k1 : ClassId) (n1 : Int32) (bs1 : List Int32) (hs1 : Int32) (hz1 : Int32) (b2 : Addr) (k2 : ClassId) (n2 : Int32) (bs2 : List Int32) (hs2 : Int32) (hz2 : Int32) (r : Int32) (h0 : Heap) (n0 : Nat) (Z0 : n0 ≤ h0.size) (O0 : Old Z n0 h0) (J0 : Jd Z cz fv) (SL1 : StL Z h0 a1 b1 k1 n1 bs1 hs1 hz1) (SL2 : StL Z h0 a2 b2 k2 n2 bs2 hs2 hz2) (ne12 : a1 ≠ a2) (g11 : n1.toInt = bs1.length) (g12 : 1 ≤ bs1.length) (g13 : bs1.length ≤ 4) (g21 : n2.toInt = bs2.length) (g22 : 1 ≤ bs2.length) (g23 : bs2.length ≤ 4) (hR : eqB bs1 bs2 = r) (h01 : r = 0 ∨ r = 1) :
    MF l Z mN9 jdk_42_method_66_code 3 (some .boolean) ws rKJed #[(.ref a1), (.ref a2)] h0 (QJed Z a1 a2 cz fv b1 k1 n1 bs1 hs1 hz1 b2 k2 n2 bs2 hs2 hz2 r h0 n0) := by
  refine MetFree.of_bodySF (plainFor_of_name pn0) hisR ?_
  intro p e s m args bl meth c s1 Bd hml0 hP hK
  obtain ⟨rfl, hZ, hh⟩ := hP
  have hx := Bd.exec
  have hby := Bd.bytes
  have B := @hb c _ hby
  have hM := fun {n : Nat} (h : n = 3) => h.trans hml0.symm
  have hown : s.vm.findClass "java/lang/String" = some m.cls := findClass_of_methodNamed Bd.named
  have hlk : meth.locks = false := BodyLoose.notSynchronized Bd
  have hrt : ∀ {v : Option Value}, meth.sig.returnType = none → v = none := fun h => by rw [Bd.returns] at h; cases h
  have X0 : Stand p l e rKJed s m #[(.ref a1), (.ref a2)] bl meth c s1 [] 0 0 := Stand.of_body Bd
  have e0 : s1.heap = h0 := by rw [← hh, Bd.state]; rfl
  have N0 := Fr.nil n0
  obtain ⟨EF, hEF⟩ : ∃ f, f = entryFrame m #[(.ref a1), (.ref a2)] 3 := ⟨_, rfl⟩
  have pre0 : Go p e bl s1 (mkF m 0 #[rv a1, rv a2, .unset] []) s1 EF := fun t k => by rw [hEF]; exact castTop (efJed m a1 a2) k
  have pre1 : Go p e bl s1 (mkF m 2 #[rv a1, rv a2, .unset] [(.ref a2), (.ref a1)]) s1 EF := fun t k => pre0 t (by
   refine XS.aloadN X0.here hx rfl (B d9_0) rfl rfl ?_
   exact XS.aloadN X0.here hx rfl (B d9_1) rfl rfl k)
  have pre2 : Go p e bl s1 (mkF m 7 #[rv a1, rv a2, .unset] []) s1 EF := fun t k => pre1 t (Jvm.RoadKit.acmp (g := (mkF m 2 #[rv a1, rv a2, .unset] [(.ref a2), (.ref a1)])) X0 hx rfl rfl rfl (pc0 := 2) (pc' := 7) (same := false) rfl (B d9_2) rfl (decide_eq_false fun q => ne12 (Value.ref.inj q)) (by decide) (by decide) k)
  have pre3 : Go p e bl s1 (mkF m 8 #[rv a1, rv a2, .unset] [(.ref a2)]) s1 EF := fun t k => pre2 t (by
   exact XS.aloadN X0.here hx rfl (B d9_7) rfl rfl k)
  obtain ⟨T4, X4, e4, st4⟩ := instY X0 hx hZ hown (hw _ (mW 114 rfl)) e0 (Ins.self SL2.1) (g := (mkF m 8 #[rv a1, rv a2, .unset] [(.ref a2)])) rfl rfl (B d9_8)
  have pre5 : Go p e bl T4 (mkF m 11 #[rv a1, rv a2, .unset] [(.int (1 : Int32))]) s1 EF := fun t k => pre3 t (st4 t k)
  have pre6 : Go p e bl T4 (mkF m 14 #[rv a1, rv a2, .unset] []) s1 EF := fun t k => pre5 t (XS.ifNo X4.here hx rfl (B d9_11) rfl ((if0 _ _).trans (feq (by decide : ¬ ((1 : Int32) = (0 : Int32)))).1) k)
  have pre7 : Go p e bl T4 (mkF m 15 #[rv a1, rv a2, .unset] [(.ref a2)]) s1 EF := fun t k => pre6 t (by
   exact XS.aloadN X4.here hx rfl (B d9_14) rfl rfl k)
  obtain ⟨T8, X8, e8, st8⟩ := castY X4 hx hZ hown (hw _ (mW 114 rfl)) e4 (Ins.self SL2.1) (g := (mkF m 15 #[rv a1, rv a2, .unset] [(.ref a2)])) rfl rfl (B d9_15)
  have pre9 : Go p e bl T8 (mkF m 18 #[rv a1, rv a2, .unset] [(.ref a2)]) s1 EF := fun t k => pre7 t (st8 t k)
  have pre10 : Go p e bl T8 (mkF m 19 #[rv a1, rv a2, rv a2] []) s1 EF := fun t k => pre9 t (by
   exact XS.astoreN X8.here hx rfl (B d9_18) rfl rfl (l' := #[rv a1, rv a2, rv a2]) rfl k)
  obtain ⟨T11, X11, e11, st11⟩ := getS2 X8 hx hZ hown (host := "") (Or.inl (hw _ (mW 22 rfl))) Via.refl e8 (J0.1.ext O0.2) (g := (mkF m 19 #[rv a1, rv a2, rv a2] [])) rfl (B d9_19)
  have pre12 : Go p e bl T11 (mkF m 22 #[rv a1, rv a2, rv a2] [(.int cz)]) s1 EF := fun t k => pre10 t (st11 t k)
  have pre13 : Go p e bl T11 (mkF m 25 #[rv a1, rv a2, rv a2] []) s1 EF := fun t k => pre12 t (XS.ifNo X11.here hx rfl (B d9_22) rfl ((if0 _ _).trans (feq J0.2.1).1) k)
  have pre14 : Go p e bl T11 (mkF m 26 #[rv a1, rv a2, rv a2] [(.ref a1)]) s1 EF := fun t k => pre13 t (by
   exact XS.aloadN X11.here hx rfl (B d9_25) rfl rfl k)
  obtain ⟨T15, X15, e15, st15⟩ := getF X11 hx hZ hown (host := "") (Or.inl (hw _ (mW 34 rfl))) Via.refl e11 SL1.2.1 (g := (mkF m 26 #[rv a1, rv a2, rv a2] [(.ref a1)])) rfl rfl (B d9_26)
  have pre16 : Go p e bl T15 (mkF m 29 #[rv a1, rv a2, rv a2] [(.int (0 : Int32))]) s1 EF := fun t k => pre14 t (st15 t k)
  have pre17 : Go p e bl T15 (mkF m 30 #[rv a1, rv a2, rv a2] [(.ref a2), (.int (0 : Int32))]) s1 EF := fun t k => pre16 t (by
   exact XS.aloadN X15.here hx rfl (B d9_29) rfl rfl k)
  obtain ⟨T18, X18, e18, st18⟩ := getF X15 hx hZ hown (host := "") (Or.inl (hw _ (mW 34 rfl))) Via.refl e15 SL2.2.1 (g := (mkF m 30 #[rv a1, rv a2, rv a2] [(.ref a2), (.int (0 : Int32))])) rfl rfl (B d9_30)
  have pre19 : Go p e bl T18 (mkF m 33 #[rv a1, rv a2, rv a2] [(.int (0 : Int32)), (.int (0 : Int32))]) s1 EF := fun t k => pre17 t (st18 t k)
  have pre20 : Go p e bl T18 (mkF m 36 #[rv a1, rv a2, rv a2] []) s1 EF := fun t k => pre19 t (XS.icmpNo X18.here hx rfl (B d9_33) rfl (teq (by decide : (0 : Int32) = (0 : Int32))).2 k)
  have pre21 : Go p e bl T18 (mkF m 37 #[rv a1, rv a2, rv a2] [(.ref a1)]) s1 EF := fun t k => pre20 t (by
   exact XS.aloadN X18.here hx rfl (B d9_36) rfl rfl k)
  obtain ⟨T22, X22, e22, st22⟩ := getF X18 hx hZ hown (host := "") (Or.inl (hw _ (mW 36 rfl))) Via.refl e18 SL1.2.2.1 (g := (mkF m 37 #[rv a1, rv a2, rv a2] [(.ref a1)])) rfl rfl (B d9_37)
  have pre23 : Go p e bl T22 (mkF m 40 #[rv a1, rv a2, rv a2] [(.ref b1)]) s1 EF := fun t k => pre21 t (st22 t k)
  have pre24 : Go p e bl T22 (mkF m 41 #[rv a1, rv a2, rv a2] [(.ref a2), (.ref b1)]) s1 EF := fun t k => pre23 t (by
   exact XS.aloadN X22.here hx rfl (B d9_40) rfl rfl k)
  obtain ⟨T25, X25, e25, st25⟩ := getF X22 hx hZ hown (host := "") (Or.inl (hw _ (mW 36 rfl))) Via.refl e22 SL2.2.2.1 (g := (mkF m 41 #[rv a1, rv a2, rv a2] [(.ref a2), (.ref b1)])) rfl rfl (B d9_41)
  have pre26 : Go p e bl T25 (mkF m 44 #[rv a1, rv a2, rv a2] [(.ref b2), (.ref b1)]) s1 EF := fun t k => pre24 t (st25 t k)
  obtain ⟨_, _, ⟨T27, L27, k27, n27⟩, -, X27, ⟨Lc27, hQ27, l27, y27, z27⟩, st27⟩ := Jvm.LawKit.callS X25 hx (y := mN8) hown (mvT hZ (hw _ (mW 115 rfl))) (mvT hZ (hw _ (mW 116 rfl))) (mvT hZ (hw _ (mW 76 rfl))) (mvT hZ (hw _ (mW 117 rfl))) (by decide) (backOf (W := 0) (rmJE l Z a0 hw [] b1 b2 cz fv k1 k2 n1 n2 bs1 bs2 r h0 n0 Z0 O0 J0 SL1.2.2.2.1 SL2.2.2.2.1 g11 g12 g13 g21 g22 g23 hR) hZ (hw _ (mW 117 rfl)) (hw _ (mW 76 rfl)) (by decide) (by decide)) (g := (mkF m 44 #[rv a1, rv a2, rv a2] [(.ref b2), (.ref b1)])) rfl (hM rfl) (argsL := [(.ref b1), (.ref b2)]) (rest := []) (lenOf pd5 rfl) rfl (Nat.le_of_eq rfl) (B d9_44) (fun _ _ => ⟨rfl, e25, wl rfl, wl rfl⟩)
  dsimp only [Pt.U, Pt.locs, Pt.cells, Pt.slots] at X27 l27 y27 z27 st27 hQ27
  subst l27 y27 z27
  obtain ⟨rfl, N27q, hq27⟩ := hQ27
  have N27 := Fr.app N0 N27q
  have pre28 : Go p e bl T27 (mkF m 47 #[rv a1, rv a2, rv a2] [(.int r)]) s1 EF := fun t k => pre26 t (st27 t k)
  have e27 : T27.heap = h0 := hq27
  by_cases hc47 : r = (0 : Int32)
  · have pre29 : Go p e bl T27 (mkF m 54 #[rv a1, rv a2, rv a2] []) s1 EF := fun t k => pre28 t (XS.ifYes X27.here hx rfl (pc0 := 47) (pc' := 54) rfl (B d9_47) rfl ((if0 _ _).trans (teq hc47).1) (by decide) (by decide) k)
    have pre30 : Go p e bl T27 (mkF m 55 #[rv a1, rv a2, rv a2] [(.int (0 : Int32))]) s1 EF := fun t k => pre29 t (by
     exact XS.iconst X27.here hx rfl (B d9_54) k)
    have hnr : Value.int (nar .boolean (0 : Int32)) = (.int (0 : Int32)) := by rfl
    exact fin1 X27 (v := some (.int (0 : Int32))) hrt hlk (wl rfl) (wl rfl) (by rw [e27]; exact ⟨by rw [hc47], N27, rfl⟩) (fun fs hr => hEF ▸ pre30 _ (retN X27 hx (t := .boolean) Bd.returns (by simp) (B d9_55) (hnr ▸ hr)))
  have pre31 : Go p e bl T27 (mkF m 50 #[rv a1, rv a2, rv a2] []) s1 EF := fun t k => pre28 t (XS.ifNo X27.here hx rfl (B d9_47) rfl ((if0 _ _).trans (feq hc47).1) k)
  have pre32 : Go p e bl T27 (mkF m 55 #[rv a1, rv a2, rv a2] [(.int (1 : Int32))]) s1 EF := fun t k => pre31 t (by
   refine XS.iconst X27.here hx rfl (B d9_50) ?_
   exact XS.goto X27.here hx rfl (pc0 := 51) (pc' := 55) rfl (B d9_51) (by decide) (by decide) k)
  have hnr : Value.int (nar .boolean (1 : Int32)) = (.int (1 : Int32)) := by rfl
  exact fin1 X27 (v := some (.int (1 : Int32))) hrt hlk (wl rfl) (wl rfl) (by rw [e27]; exact ⟨by rw [h01.resolve_left hc47], N27, rfl⟩) (fun fs hr => hEF ▸ pre32 _ (retN X27 hx (t := .boolean) Bd.returns (by simp) (B d9_55) (hnr ▸ hr)))
abbrev rKJes : Room := { frames := 0, cells := 0, slots := 0, locals := 0 }
theorem d9_5 : decode jdk_42_method_66_code 5 = .ok (.iconst 1, 1) := by decide +kernel
theorem d9_6 : decode jdk_42_method_66_code 6 = .ok (.ireturn, 1) := by decide +kernel
theorem efJes (m : MethodId) (a1 : Addr) (a2 : Addr) : entryFrame m #[(.ref a1), (.ref a2)] 3 = mkF m 0 #[rv a1, rv a2, .unset] [] := by first | (simp [entryFrame, mkF, argsToLocals, Value.category]; done) | rfl
def QJes (Z : State) (a1 : Addr) (a2 : Addr) (cz : Int32) (fv : Value) (h0 : Heap) (n0 : Nat) (v : Option Value) (h : Heap) (L : List Loc) : Prop := v = some (.int (1 : Int32)) ∧ Fr n0 L ∧ h = h0
set_option maxRecDepth 65536 in
set_option maxHeartbeats 40000000 in
theorem rmJes (l : Launch) (Z : State) (a0 : Array Value) (hw : HW a0 Z) (ws : List Jvm.Cond) (a1 : Addr) (a2 : Addr) (cz : Int32) (fv : Value) (h0 : Heap) (n0 : Nat) (Z0 : n0 ≤ h0.size) (O0 : Old Z n0 h0) (J0 : Jd Z cz fv) (h12 : a1 = a2) :
    MF l Z mN9 jdk_42_method_66_code 3 (some .boolean) ws rKJes #[(.ref a1), (.ref a2)] h0 (QJes Z a1 a2 cz fv h0 n0) := by
  refine MetFree.of_bodySF (plainFor_of_name pn0) hisR ?_
  intro p e s m args bl meth c s1 Bd hml0 hP hK
  obtain ⟨rfl, hZ, hh⟩ := hP
  have hx := Bd.exec
  have hby := Bd.bytes
  have B := @hb c _ hby
  have hown : s.vm.findClass "java/lang/String" = some m.cls := findClass_of_methodNamed Bd.named
  have hlk : meth.locks = false := BodyLoose.notSynchronized Bd
  have hrt : ∀ {v : Option Value}, meth.sig.returnType = none → v = none := fun h => by rw [Bd.returns] at h; cases h
  have X0 : Stand p l e rKJes s m #[(.ref a1), (.ref a2)] bl meth c s1 [] 0 0 := Stand.of_body Bd
  have e0 : s1.heap = h0 := by rw [← hh, Bd.state]; rfl
  have N0 := Fr.nil n0
  obtain ⟨EF, hEF⟩ : ∃ f, f = entryFrame m #[(.ref a1), (.ref a2)] 3 := ⟨_, rfl⟩
  have pre0 : Go p e bl s1 (mkF m 0 #[rv a1, rv a2, .unset] []) s1 EF := fun t k => by rw [hEF]; exact castTop (efJes m a1 a2) k
  have pre1 : Go p e bl s1 (mkF m 2 #[rv a1, rv a2, .unset] [(.ref a2), (.ref a1)]) s1 EF := fun t k => pre0 t (by
   refine XS.aloadN X0.here hx rfl (B d9_0) rfl rfl ?_
   exact XS.aloadN X0.here hx rfl (B d9_1) rfl rfl k)
  have pre2 : Go p e bl s1 (mkF m 5 #[rv a1, rv a2, .unset] []) s1 EF := fun t k => pre1 t (Jvm.RoadKit.acmp (g := (mkF m 2 #[rv a1, rv a2, .unset] [(.ref a2), (.ref a1)])) X0 hx rfl rfl rfl (pc0 := 2) (pc' := 5) (same := true) rfl (B d9_2) rfl (decide_eq_true (congrArg Value.ref h12)) (by decide) (by decide) k)
  have pre3 : Go p e bl s1 (mkF m 6 #[rv a1, rv a2, .unset] [(.int (1 : Int32))]) s1 EF := fun t k => pre2 t (by
   exact XS.iconst X0.here hx rfl (B d9_5) k)
  have hnr : Value.int (nar .boolean (1 : Int32)) = (.int (1 : Int32)) := by rfl
  exact fin1 X0 (v := some (.int (1 : Int32))) hrt hlk (wl rfl) (wl rfl) (by rw [e0]; exact ⟨rfl, N0, rfl⟩) (fun fs hr => hEF ▸ pre3 _ (retN X0 hx (t := .boolean) Bd.returns (by simp) (B d9_6) (hnr ▸ hr)))
abbrev rKKa1 : Room := { frames := 0, cells := 0, slots := 0, locals := 0 }
theorem d10_0 : decode jdk_52_method_21_code 0 = .ok (.iconst 0, 1) := by decide +kernel
theorem d10_1 : decode jdk_52_method_21_code 1 = .ok (.istore 5, 2) := by decide +kernel
theorem d10_3 : decode jdk_52_method_21_code 3 = .ok (.iload 5, 2) := by decide +kernel
theorem d10_5 : decode jdk_52_method_21_code 5 = .ok (.iload 4, 2) := by decide +kernel
theorem d10_7 : decode jdk_52_method_21_code 7 = .ok (.if_icmp .ge 37, 3) := by decide +kernel
theorem d10_10 : decode jdk_52_method_21_code 10 = .ok (.aload_n 0, 1) := by decide +kernel
theorem d10_11 : decode jdk_52_method_21_code 11 = .ok (.iload_n 1, 1) := by decide +kernel
theorem d10_12 : decode jdk_52_method_21_code 12 = .ok (.caload, 1) := by decide +kernel
theorem d10_13 : decode jdk_52_method_21_code 13 = .ok (.istore 6, 2) := by decide +kernel
theorem d10_15 : decode jdk_52_method_21_code 15 = .ok (.iload 6, 2) := by decide +kernel
theorem d10_17 : decode jdk_52_method_21_code 17 = .ok (.sipush 255, 3) := by decide +kernel
theorem d10_20 : decode jdk_52_method_21_code 20 = .ok (.if_icmp .le 6, 3) := by decide +kernel
theorem d10_26 : decode jdk_52_method_21_code 26 = .ok (.aload_n 2, 1) := by decide +kernel
theorem d10_27 : decode jdk_52_method_21_code 27 = .ok (.iload_n 3, 1) := by decide +kernel
theorem d10_28 : decode jdk_52_method_21_code 28 = .ok (.iload 6, 2) := by decide +kernel
theorem d10_30 : decode jdk_52_method_21_code 30 = .ok (.i2b, 1) := by decide +kernel
theorem d10_31 : decode jdk_52_method_21_code 31 = .ok (.bastore, 1) := by decide +kernel
theorem d10_32 : decode jdk_52_method_21_code 32 = .ok (.iinc 1 1, 3) := by decide +kernel
theorem d10_35 : decode jdk_52_method_21_code 35 = .ok (.iinc 3 1, 3) := by decide +kernel
theorem d10_38 : decode jdk_52_method_21_code 38 = .ok (.iinc 5 1, 3) := by decide +kernel
theorem d10_41 : decode jdk_52_method_21_code 41 = .ok (.goto (-38), 3) := by decide +kernel
theorem d10_44 : decode jdk_52_method_21_code 44 = .ok (.iload 4, 2) := by decide +kernel
theorem d10_46 : decode jdk_52_method_21_code 46 = .ok (.ireturn, 1) := by decide +kernel
theorem pn3 : plainName "java/lang/StringUTF16" = true := by first | (simp [plainName, overriddenIn]; done) | decide +kernel
theorem efKa1 (m : MethodId) (a1 : Addr) (a2 : Addr) : entryFrame m #[(.ref a1), (.int (0 : Int32)), (.ref a2), (.int (0 : Int32)), (.int (1 : Int32))] 7 = mkF m 0 #[rv a1, iv (0 : Int32), rv a2, iv (0 : Int32), iv (1 : Int32), .unset, .unset] [] := by first | (simp [entryFrame, mkF, argsToLocals, Value.category]; done) | rfl
def QKa1 (Z : State) (a1 : Addr) (a2 : Addr) (cz : Int32) (fv : Value) (k1 : ClassId) (k2 : ClassId) (c0 : Int32) (h0 : Heap) (n0 : Nat) (v : Option Value) (h : Heap) (L : List Loc) : Prop := v = some (.int (1 : Int32)) ∧ Fr n0 L ∧ Keep h0 h [a2] ∧ Arv Z h a2 k2 .byte (1 : Int32) [(.int (c0.toInt8.toInt32))] (.int (0 : Int32))
set_option maxRecDepth 65536 in
set_option maxHeartbeats 40000000 in
theorem rmKa1 (l : Launch) (Z : State) (a0 : Array Value) (hw : HW a0 Z) (ws : List Jvm.Cond) (a1 : Addr) (a2 : Addr) (cz : Int32) (fv : Value) (k1 : ClassId) (k2 : ClassId) (c0 : Int32) (h0 : Heap) (n0 : Nat) (Z0 : n0 ≤ h0.size) (O0 : Old Z n0 h0) (J0 : Jd Z cz fv) (V1 : Arv Z h0 a1 k1 .char (1 : Int32) [(.int c0)] (.int (0 : Int32))) (V2 : Arv Z h0 a2 k2 .byte (1 : Int32) [(.int (0 : Int32))] (.int (0 : Int32))) (ne12 : a1 ≠ a2) (g_a2 : n0 ≤ a2) (hle : (∀ c ∈ [c0], ¬ (255 : Int32) < c)) :
    MF l Z mN10 jdk_52_method_21_code 7 (some .int) ws rKKa1 #[(.ref a1), (.int (0 : Int32)), (.ref a2), (.int (0 : Int32)), (.int (1 : Int32))] h0 (QKa1 Z a1 a2 cz fv k1 k2 c0 h0 n0) := by
  refine MetFree.of_bodySF (plainFor_of_name pn3) hisR ?_
  intro p e s m args bl meth c s1 Bd hml0 hP hK
  obtain ⟨rfl, hZ, hh⟩ := hP
  have hx := Bd.exec
  have hby := Bd.bytes
  have B := @hb c _ hby
  have hown : s.vm.findClass "java/lang/StringUTF16" = some m.cls := findClass_of_methodNamed Bd.named
  have hlk : meth.locks = false := BodyLoose.notSynchronized Bd
  have hrt : ∀ {v : Option Value}, meth.sig.returnType = none → v = none := fun h => by rw [Bd.returns] at h; cases h
  have X0 : Stand p l e rKKa1 s m #[(.ref a1), (.int (0 : Int32)), (.ref a2), (.int (0 : Int32)), (.int (1 : Int32))] bl meth c s1 [] 0 0 := Stand.of_body Bd
  have e0 : s1.heap = h0 := by rw [← hh, Bd.state]; rfl
  have N0 := Fr.nil n0
  obtain ⟨EF, hEF⟩ : ∃ f, f = entryFrame m #[(.ref a1), (.int (0 : Int32)), (.ref a2), (.int (0 : Int32)), (.int (1 : Int32))] 7 := ⟨_, rfl⟩
  have pre0 : Go p e bl s1 (mkF m 0 #[rv a1, iv (0 : Int32), rv a2, iv (0 : Int32), iv (1 : Int32), .unset, .unset] []) s1 EF := fun t k => by rw [hEF]; exact castTop (efKa1 m a1 a2) k
  have pre1 : Go p e bl s1 (mkF m 7 #[rv a1, iv (0 : Int32), rv a2, iv (0 : Int32), iv (1 : Int32), iv (0 : Int32), .unset] [(.int (1 : Int32)), (.int (0 : Int32))]) s1 EF := fun t k => pre0 t (by
   refine XS.iconst X0.here hx rfl (B d10_0) ?_
   refine XS.istore X0.here hx rfl (B d10_1) rfl (l' := #[rv a1, iv (0 : Int32), rv a2, iv (0 : Int32), iv (1 : Int32), iv (0 : Int32), .unset]) rfl ?_
   refine XS.iload X0.here hx rfl (B d10_3) rfl ?_
   exact XS.iload X0.here hx rfl (B d10_5) rfl k)
  have pre2 : Go p e bl s1 (mkF m 10 #[rv a1, iv (0 : Int32), rv a2, iv (0 : Int32), iv (1 : Int32), iv (0 : Int32), .unset] []) s1 EF := fun t k => pre1 t (XS.icmpNo X0.here hx rfl (B d10_7) rfl (tlt (by decide : (0 : Int32) < (1 : Int32))).2.1 k)
  have pre3 : Go p e bl s1 (mkF m 12 #[rv a1, iv (0 : Int32), rv a2, iv (0 : Int32), iv (1 : Int32), iv (0 : Int32), .unset] [(.int (0 : Int32)), (.ref a1)]) s1 EF := fun t k => pre2 t (by
   refine XS.aloadN X0.here hx rfl (B d10_10) rfl rfl ?_
   exact XS.iloadN X0.here hx rfl (B d10_11) rfl k)
  obtain ⟨cl4, Ar4, q4, Sz4, M4, H4, G4⟩ := id V1
  have hin4 : ¬ ((0 : Int32) < 0 ∨ cl4.slots.size ≤ ((0 : Int32)).toNatClampNeg) := inb_of Sz4 ⟨by decide, by decide⟩
  have hat4 : cl4.slots[((0 : Int32)).toNatClampNeg]? = some (.int c0) := Has.at H4 hin4 rfl
  have pre5 : Go p e bl s1 (mkF m 20 #[rv a1, iv (0 : Int32), rv a2, iv (0 : Int32), iv (1 : Int32), iv (0 : Int32), iv c0] [(.int (255 : Int32)), (.int c0)]) s1 EF := fun t k => pre3 t (by
   refine X0.caload hx (j := (0 : Int32)) (v := (.int c0)) (by rw [e0]; exact Ar4.1) (State.isArrayOf_alike hZ.alike Ar4.2.1) Ar4.2.2 hin4 hat4 (g := (mkF m 12 #[rv a1, iv (0 : Int32), rv a2, iv (0 : Int32), iv (1 : Int32), iv (0 : Int32), .unset] [(.int (0 : Int32)), (.ref a1)])) rfl rfl (B d10_12) _ ?_
   refine XS.istore X0.here hx rfl (B d10_13) rfl (l' := #[rv a1, iv (0 : Int32), rv a2, iv (0 : Int32), iv (1 : Int32), iv (0 : Int32), iv c0]) rfl ?_
   refine XS.iload X0.here hx rfl (B d10_15) rfl ?_
   exact XS.sipush X0.here hx rfl (B d10_17) k)
  have pre6 : Go p e bl s1 (mkF m 26 #[rv a1, iv (0 : Int32), rv a2, iv (0 : Int32), iv (1 : Int32), iv (0 : Int32), iv c0] []) s1 EF := fun t k => pre5 t (XS.icmpYes X0.here hx rfl (pc0 := 20) (pc' := 26) rfl (B d10_20) rfl (flt (hle c0 (List.mem_of_getElem? (i := 0) rfl))).2.2.2 (by decide) (by decide) k)
  have pre7 : Go p e bl s1 (mkF m 31 #[rv a1, iv (0 : Int32), rv a2, iv (0 : Int32), iv (1 : Int32), iv (0 : Int32), iv c0] [(.int (c0.toInt8.toInt32)), (.int (0 : Int32)), (.ref a2)]) s1 EF := fun t k => pre6 t (by
   refine XS.aloadN X0.here hx rfl (B d10_26) rfl rfl ?_
   refine XS.iloadN X0.here hx rfl (B d10_27) rfl ?_
   refine XS.iload X0.here hx rfl (B d10_28) rfl ?_
   exact XS.i2b X0.here hx rfl (B d10_30) rfl k)
  obtain ⟨cl8, Ar8, q8, Sz8, M8, H8, G8⟩ := id V2
  have hin8 : ¬ ((0 : Int32) < 0 ∨ cl8.slots.size ≤ ((0 : Int32)).toNatClampNeg) := inb_of Sz8 ⟨by decide, by decide⟩
  obtain ⟨T8, h8, X8, e8, W8, st8⟩ := stB X0 hx hZ e0 Ar8 (j := (0 : Int32)) hin8 (g := (mkF m 31 #[rv a1, iv (0 : Int32), rv a2, iv (0 : Int32), iv (1 : Int32), iv (0 : Int32), iv c0] [(.int (c0.toInt8.toInt32)), (.int (0 : Int32)), (.ref a2)])) rfl rfl (B d10_31)
  rw [own_i2b2] at W8
  have pre9 : Go p e bl T8 (mkF m 32 #[rv a1, iv (0 : Int32), rv a2, iv (0 : Int32), iv (1 : Int32), iv (0 : Int32), iv c0] []) s1 EF := fun t k => pre7 t (st8 t k)
  have O10 : Old Z n0 h8 := O0.wr W8 g_a2
  have Z10 : n0 ≤ h8.size := Nat.le_trans Z0 (Keep.of_wr W8).1
  have K10 : Keep h0 h8 [a2] := (Keep.refl h0 [a2]).wr W8 (Or.inl (List.mem_of_getElem? (i := 0) rfl))
  have V8 : Arv Z h8 a2 k2 .byte (1 : Int32) [(.int (c0.toInt8.toInt32))] (.int (0 : Int32)) := Arv.set Ar8 q8 Sz8 M8 H8 G8 (fits_nar_byte _) W8 0 rfl (Nat.le_of_ble_eq_true rfl)
  have N8 := Fr.snoc X8 N0 g_a2
  have pre11 : Go p e bl T8 (mkF m 7 #[rv a1, iv (1 : Int32), rv a2, iv (1 : Int32), iv (1 : Int32), iv (1 : Int32), iv c0] [(.int (1 : Int32)), (.int (1 : Int32))]) s1 EF := fun t k => pre9 t (by
   refine XS.iinc X8.here hx rfl (B d10_32) rfl (l' := #[rv a1, iv (1 : Int32), rv a2, iv (0 : Int32), iv (1 : Int32), iv (0 : Int32), iv c0]) rfl ?_
   refine XS.iinc X8.here hx rfl (B d10_35) rfl (l' := #[rv a1, iv (1 : Int32), rv a2, iv (1 : Int32), iv (1 : Int32), iv (0 : Int32), iv c0]) rfl ?_
   refine XS.iinc X8.here hx rfl (B d10_38) rfl (l' := #[rv a1, iv (1 : Int32), rv a2, iv (1 : Int32), iv (1 : Int32), iv (1 : Int32), iv c0]) rfl ?_
   refine XS.goto X8.here hx rfl (pc0 := 41) (pc' := 3) rfl (B d10_41) (by decide) (by decide) ?_
   refine XS.iload X8.here hx rfl (B d10_3) rfl ?_
   exact XS.iload X8.here hx rfl (B d10_5) rfl k)
  have pre12 : Go p e bl T8 (mkF m 44 #[rv a1, iv (1 : Int32), rv a2, iv (1 : Int32), iv (1 : Int32), iv (1 : Int32), iv c0] []) s1 EF := fun t k => pre11 t (XS.icmpYes X8.here hx rfl (pc0 := 7) (pc' := 44) rfl (B d10_7) rfl (flt (by decide : ¬ ((1 : Int32) < (1 : Int32)))).2.1 (by decide) (by decide) k)
  have pre13 : Go p e bl T8 (mkF m 46 #[rv a1, iv (1 : Int32), rv a2, iv (1 : Int32), iv (1 : Int32), iv (1 : Int32), iv c0] [(.int (1 : Int32))]) s1 EF := fun t k => pre12 t (by
   exact XS.iload X8.here hx rfl (B d10_44) rfl k)
  exact fin1 X8 (v := some (.int (1 : Int32))) hrt hlk (wl rfl) (wl rfl) (by rw [e8]; exact ⟨rfl, N8, K10, V8⟩) (fun fs hr => hEF ▸ pre13 _ (retOut X8 hx Bd.returns rfl (Or.inl ⟨rfl, Or.inl rfl, _, rfl⟩) (B d10_46) hr))
abbrev rKKb1 : Room := { frames := 1, cells := 1, slots := 1, locals := 18 }
theorem d11_0 : decode jdk_52_method_16_code 0 = .ok (.iload_n 2, 1) := by decide +kernel
theorem d11_1 : decode jdk_52_method_16_code 1 = .ok (.newarray .byte, 2) := by decide +kernel
theorem d11_3 : decode jdk_52_method_16_code 3 = .ok (.astore_n 3, 1) := by decide +kernel
theorem d11_4 : decode jdk_52_method_16_code 4 = .ok (.aload_n 0, 1) := by decide +kernel
theorem d11_5 : decode jdk_52_method_16_code 5 = .ok (.iload_n 1, 1) := by decide +kernel
theorem d11_6 : decode jdk_52_method_16_code 6 = .ok (.aload_n 3, 1) := by decide +kernel
theorem d11_7 : decode jdk_52_method_16_code 7 = .ok (.iconst 0, 1) := by decide +kernel
theorem d11_8 : decode jdk_52_method_16_code 8 = .ok (.iload_n 2, 1) := by decide +kernel
theorem d11_9 : decode jdk_52_method_16_code 9 = .ok (.invokestatic 115, 3) := by decide +kernel
theorem d11_12 : decode jdk_52_method_16_code 12 = .ok (.istore 4, 2) := by decide +kernel
theorem d11_14 : decode jdk_52_method_16_code 14 = .ok (.iload 4, 2) := by decide +kernel
theorem d11_16 : decode jdk_52_method_16_code 16 = .ok (.iload_n 2, 1) := by decide +kernel
theorem d11_17 : decode jdk_52_method_16_code 17 = .ok (.if_icmp .eq 40, 3) := by decide +kernel
theorem d11_57 : decode jdk_52_method_16_code 57 = .ok (.aload_n 3, 1) := by decide +kernel
theorem d11_58 : decode jdk_52_method_16_code 58 = .ok (.areturn, 1) := by decide +kernel
theorem pd6 : parseMethodDescriptor "([CI[BII)I" = some ⟨[(.array .char), .int, (.array .byte), .int, .int], some .int⟩ := by decide +kernel
theorem efKb1 (m : MethodId) (a1 : Addr) : entryFrame m #[(.ref a1), (.int (0 : Int32)), (.int (1 : Int32))] 6 = mkF m 0 #[rv a1, iv (0 : Int32), iv (1 : Int32), .unset, .unset, .unset] [] := by first | (simp [entryFrame, mkF, argsToLocals, Value.category]; done) | rfl
def QKb1 (Z : State) (a1 : Addr) (cz : Int32) (fv : Value) (k1 : ClassId) (c0 : Int32) (h0 : Heap) (n0 : Nat) (v : Option Value) (h : Heap) (L : List Loc) : Prop := ∃ b k, v = some (.ref b) ∧ Fr n0 L ∧ Keep h0 h [] ∧ h0.size ≤ b ∧ Arv Z h b k .byte (1 : Int32) [(.int (c0.toInt8.toInt32))] (.int (0 : Int32)) ∧ Exa Z h b "[B"
set_option maxRecDepth 65536 in
set_option maxHeartbeats 40000000 in
theorem rmKb1 (l : Launch) (Z : State) (a0 : Array Value) (hw : HW a0 Z) (ws : List Jvm.Cond) (a1 : Addr) (cz : Int32) (fv : Value) (k1 : ClassId) (c0 : Int32) (h0 : Heap) (n0 : Nat) (Z0 : n0 ≤ h0.size) (O0 : Old Z n0 h0) (J0 : Jd Z cz fv) (V1 : Arv Z h0 a1 k1 .char (1 : Int32) [(.int c0)] (.int (0 : Int32))) (hle : (∀ c ∈ [c0], ¬ (255 : Int32) < c)) :
    MF l Z mN11 jdk_52_method_16_code 6 (some (.array .byte)) ws rKKb1 #[(.ref a1), (.int (0 : Int32)), (.int (1 : Int32))] h0 (QKb1 Z a1 cz fv k1 c0 h0 n0) := by
  refine MetFree.of_bodySF (plainFor_of_name pn3) hisR ?_
  intro p e s m args bl meth c s1 Bd hml0 hP hK
  obtain ⟨rfl, hZ, hh⟩ := hP
  have hx := Bd.exec
  have hby := Bd.bytes
  have B := @hb c _ hby
  have hM := fun {n : Nat} (h : n = 6) => h.trans hml0.symm
  have hown : s.vm.findClass "java/lang/StringUTF16" = some m.cls := findClass_of_methodNamed Bd.named
  have hlk : meth.locks = false := BodyLoose.notSynchronized Bd
  have hrt : ∀ {v : Option Value}, meth.sig.returnType = none → v = none := fun h => by rw [Bd.returns] at h; cases h
  have X0 : Stand p l e rKKb1 s m #[(.ref a1), (.int (0 : Int32)), (.int (1 : Int32))] bl meth c s1 [] 0 0 := Stand.of_body Bd
  have e0 : s1.heap = h0 := by rw [← hh, Bd.state]; rfl
  have N0 := Fr.nil n0
  obtain ⟨EF, hEF⟩ : ∃ f, f = entryFrame m #[(.ref a1), (.int (0 : Int32)), (.int (1 : Int32))] 6 := ⟨_, rfl⟩
  have pre0 : Go p e bl s1 (mkF m 0 #[rv a1, iv (0 : Int32), iv (1 : Int32), .unset, .unset, .unset] []) s1 EF := fun t k => by rw [hEF]; exact castTop (efKb1 m a1) k
  have pre1 : Go p e bl s1 (mkF m 1 #[rv a1, iv (0 : Int32), iv (1 : Int32), .unset, .unset, .unset] [(.int (1 : Int32))]) s1 EF := fun t k => pre0 t (by
   exact XS.iloadN X0.here hx rfl (B d11_0) rfl k)
  obtain ⟨T2, h2, k2, X2, e2, Et2, A2, AX2, st2⟩ := newPE X0 hx hZ (hw _ (mW 27 rfl)) e0 (g := (mkF m 1 #[rv a1, iv (0 : Int32), iv (1 : Int32), .unset, .unset, .unset] [(.int (1 : Int32))])) rfl (B d11_1) rfl (by decide) (cap := 1) (by decide) (by decide) (by decide) (by decide) (ad := "[B") (by decide)
  obtain ⟨b2, g2⟩ : ∃ z, z = h0.size := ⟨_, rfl⟩
  rw [← g2] at A2 st2 AX2
  have g_b2 : n0 ≤ b2 := Nat.le_trans Z0 (Nat.le_of_eq g2.symm)
  have sz_b2 : h0.size ≤ b2 := Nat.le_trans (Keep.refl h0 []).1 (Nat.le_of_eq g2.symm)
  have ne_a1_b2 : a1 ≠ b2 := Nat.ne_of_lt (Nat.lt_of_lt_of_le V1.lt (Nat.le_of_eq g2.symm))
  have pre3 : Go p e bl T2 (mkF m 3 #[rv a1, iv (0 : Int32), iv (1 : Int32), .unset, .unset, .unset] [(.ref b2)]) s1 EF := fun t k => pre1 t (st2 t k)
  have O4 : Old Z n0 h2 := O0.ext Et2
  have Z4 : n0 ≤ h2.size := Nat.le_trans Z0 Et2.1
  have K4 : Keep h0 h2 [] := (Keep.refl h0 []).ext Et2
  have V2 : Arv Z h2 b2 k2 .byte (1 : Int32) [(.int (0 : Int32))] (.int (0 : Int32)) := (Arv.new A2 (by decide)).pad (pad_rep [] (.int (0 : Int32)) 1)
  have pre5 : Go p e bl T2 (mkF m 9 #[rv a1, iv (0 : Int32), iv (1 : Int32), rv b2, .unset, .unset] [(.int (1 : Int32)), (.int (0 : Int32)), (.ref b2), (.int (0 : Int32)), (.ref a1)]) s1 EF := fun t k => pre3 t (by
   refine XS.astoreN X2.here hx rfl (B d11_3) rfl rfl (l' := #[rv a1, iv (0 : Int32), iv (1 : Int32), rv b2, .unset, .unset]) rfl ?_
   refine XS.aloadN X2.here hx rfl (B d11_4) rfl rfl ?_
   refine XS.iloadN X2.here hx rfl (B d11_5) rfl ?_
   refine XS.aloadN X2.here hx rfl (B d11_6) rfl rfl ?_
   refine XS.iconst X2.here hx rfl (B d11_7) ?_
   exact XS.iloadN X2.here hx rfl (B d11_8) rfl k)
  obtain ⟨_, _, ⟨T6, L6, k6, n6⟩, -, X6, ⟨Lc6, hQ6, l6, y6, z6⟩, st6⟩ := Jvm.LawKit.callS X2 hx (y := mN10) hown (mvT hZ (hw _ (mW 28 rfl))) (mvT hZ (hw _ (mW 29 rfl))) (mvT hZ (hw _ (mW 25 rfl))) (mvT hZ (hw _ (mW 30 rfl))) (by decide) (backOf (W := 0) (rmKa1 l Z a0 hw [] a1 b2 cz fv k1 k2 c0 h2 n0 Z4 O4 J0 (V1.ext Et2) V2 ne_a1_b2 g_b2 hle) hZ (hw _ (mW 30 rfl)) (hw _ (mW 25 rfl)) (by decide) (by decide)) (g := (mkF m 9 #[rv a1, iv (0 : Int32), iv (1 : Int32), rv b2, .unset, .unset] [(.int (1 : Int32)), (.int (0 : Int32)), (.ref b2), (.int (0 : Int32)), (.ref a1)])) rfl (hM rfl) (argsL := [(.ref a1), (.int (0 : Int32)), (.ref b2), (.int (0 : Int32)), (.int (1 : Int32))]) (rest := []) (lenOf pd6 rfl) rfl (Nat.le_of_eq rfl) (B d11_9) (fun _ _ => ⟨rfl, e2, wl rfl, wl rfl⟩)
  dsimp only [Pt.U, Pt.locs, Pt.cells, Pt.slots] at X6 l6 y6 z6 st6 hQ6
  subst l6 y6 z6
  obtain ⟨rfl, N6q, K6, VL6⟩ := hQ6
  have N6 := Fr.app N0 N6q
  have pre7 : Go p e bl T6 (mkF m 12 #[rv a1, iv (0 : Int32), iv (1 : Int32), rv b2, .unset, .unset] [(.int (1 : Int32))]) s1 EF := fun t k => pre5 t (st6 t k)
  have O8 : Old Z n0 T6.heap := O4.keep K6 (allS g_b2 all0)
  have Z8 : n0 ≤ T6.heap.size := Nat.le_trans Z4 K6.1
  have K8 : Keep h0 T6.heap [] := K4.trans K6 (allS (Or.inr sz_b2) all0)
  have pre9 : Go p e bl T6 (mkF m 17 #[rv a1, iv (0 : Int32), iv (1 : Int32), rv b2, iv (1 : Int32), .unset] [(.int (1 : Int32)), (.int (1 : Int32))]) s1 EF := fun t k => pre7 t (by
   refine XS.istore X6.here hx rfl (B d11_12) rfl (l' := #[rv a1, iv (0 : Int32), iv (1 : Int32), rv b2, iv (1 : Int32), .unset]) rfl ?_
   refine XS.iload X6.here hx rfl (B d11_14) rfl ?_
   exact XS.iloadN X6.here hx rfl (B d11_16) rfl k)
  have pre10 : Go p e bl T6 (mkF m 57 #[rv a1, iv (0 : Int32), iv (1 : Int32), rv b2, iv (1 : Int32), .unset] []) s1 EF := fun t k => pre9 t (XS.icmpYes X6.here hx rfl (pc0 := 17) (pc' := 57) rfl (B d11_17) rfl (teq (by decide : (1 : Int32) = (1 : Int32))).1 (by decide) (by decide) k)
  have pre11 : Go p e bl T6 (mkF m 58 #[rv a1, iv (0 : Int32), iv (1 : Int32), rv b2, iv (1 : Int32), .unset] [(.ref b2)]) s1 EF := fun t k => pre10 t (by
   exact XS.aloadN X6.here hx rfl (B d11_57) rfl rfl k)
  exact fin1 X6 (v := some (.ref b2)) hrt hlk (wl rfl) (wl rfl) (by exact ⟨_, _, rfl, N6, K8, sz_b2, VL6, (AX2.keep K6)⟩) (fun fs hr => hEF ▸ pre11 _ (retOut X6 hx Bd.returns rfl (Or.inr (Or.inr (Or.inr (Or.inr ⟨rfl, rfl, rfl⟩)))) (B d11_58) hr))
abbrev rKKc1_0 : Room := { frames := 0, cells := 0, slots := 0, locals := 0 }
theorem d12_0 : decode jdk_52_method_15_code 0 = .ok (.iload_n 1, 1) := by decide +kernel
theorem d12_1 : decode jdk_52_method_15_code 1 = .ok (.aload_n 0, 1) := by decide +kernel
theorem d12_2 : decode jdk_52_method_15_code 2 = .ok (.arraylength, 1) := by decide +kernel
theorem d12_3 : decode jdk_52_method_15_code 3 = .ok (.isub, 1) := by decide +kernel
theorem d12_4 : decode jdk_52_method_15_code 4 = .ok (.bipush 31, 2) := by decide +kernel
theorem d12_6 : decode jdk_52_method_15_code 6 = .ok (.iushr, 1) := by decide +kernel
theorem d12_7 : decode jdk_52_method_15_code 7 = .ok (.i2b, 1) := by decide +kernel
theorem d12_8 : decode jdk_52_method_15_code 8 = .ok (.ireturn, 1) := by decide +kernel
theorem efKc1_0 (m : MethodId) (a1 : Addr) : entryFrame m #[(.ref a1), (.int (1 : Int32))] 2 = mkF m 0 #[rv a1, iv (1 : Int32)] [] := by first | (simp [entryFrame, mkF, argsToLocals, Value.category]; done) | rfl
def QKc1_0 (Z : State) (a1 : Addr) (cz : Int32) (fv : Value) (k : ClassId) (vs : List Value) (h0 : Heap) (n0 : Nat) (v : Option Value) (h : Heap) (L : List Loc) : Prop := v = some (.int (0 : Int32)) ∧ Fr n0 L ∧ h = h0
set_option maxRecDepth 65536 in
set_option maxHeartbeats 40000000 in
theorem rmKc1_0 (l : Launch) (Z : State) (a0 : Array Value) (hw : HW a0 Z) (ws : List Jvm.Cond) (a1 : Addr) (cz : Int32) (fv : Value) (k : ClassId) (vs : List Value) (h0 : Heap) (n0 : Nat) (Z0 : n0 ≤ h0.size) (O0 : Old Z n0 h0) (J0 : Jd Z cz fv) (VV : Arv Z h0 a1 k .byte (1 : Int32) vs (.int 0)) :
    MF l Z mN12 jdk_52_method_15_code 2 (some .byte) ws rKKc1_0 #[(.ref a1), (.int (1 : Int32))] h0 (QKc1_0 Z a1 cz fv k vs h0 n0) := by
  refine MetFree.of_bodySF (plainFor_of_name pn3) hisR ?_
  intro p e s m args bl meth c s1 Bd hml0 hP hK
  obtain ⟨rfl, hZ, hh⟩ := hP
  have hx := Bd.exec
  have hby := Bd.bytes
  have B := @hb c _ hby
  have hown : s.vm.findClass "java/lang/StringUTF16" = some m.cls := findClass_of_methodNamed Bd.named
  have hlk : meth.locks = false := BodyLoose.notSynchronized Bd
  have hrt : ∀ {v : Option Value}, meth.sig.returnType = none → v = none := fun h => by rw [Bd.returns] at h; cases h
  have X0 : Stand p l e rKKc1_0 s m #[(.ref a1), (.int (1 : Int32))] bl meth c s1 [] 0 0 := Stand.of_body Bd
  have e0 : s1.heap = h0 := by rw [← hh, Bd.state]; rfl
  have N0 := Fr.nil n0
  obtain ⟨EF, hEF⟩ : ∃ f, f = entryFrame m #[(.ref a1), (.int (1 : Int32))] 2 := ⟨_, rfl⟩
  have pre0 : Go p e bl s1 (mkF m 0 #[rv a1, iv (1 : Int32)] []) s1 EF := fun t k => by rw [hEF]; exact castTop (efKc1_0 m a1) k
  have pre1 : Go p e bl s1 (mkF m 2 #[rv a1, iv (1 : Int32)] [(.ref a1), (.int (1 : Int32))]) s1 EF := fun t k => pre0 t (by
   refine XS.iloadN X0.here hx rfl (B d12_0) rfl ?_
   exact XS.aloadN X0.here hx rfl (B d12_1) rfl rfl k)
  obtain ⟨cl2, Ar2, q2, Sz2, M2, H2, G2⟩ := id VV
  have pre3 : Go p e bl s1 (mkF m 8 #[rv a1, iv (1 : Int32)] [(.int (0 : Int32))]) s1 EF := fun t k => pre1 t (by
   refine X0.arraylength hx (by rw [e0]; exact Ar2.1) (State.isArrayOf_alike hZ.alike Ar2.2.1) (g := (mkF m 2 #[rv a1, iv (1 : Int32)] [(.ref a1), (.int (1 : Int32))])) rfl rfl (B d12_2) _ ?_
   rw [len_of Sz2 M2]
   refine XS.isub X0.here hx rfl (B d12_3) rfl ?_
   refine XS.bipush X0.here hx rfl (B d12_4) ?_
   refine XS.iushr X0.here hx rfl (B d12_6) rfl ?_
   exact XS.i2b X0.here hx rfl (B d12_7) rfl k)
  have hnr : Value.int (nar .byte (0 : Int32)) = (.int (0 : Int32)) := by rfl
  exact fin1 X0 (v := some (.int (0 : Int32))) hrt hlk (wl rfl) (wl rfl) (by rw [e0]; exact ⟨rfl, N0, rfl⟩) (fun fs hr => hEF ▸ pre3 _ (retN X0 hx (t := .byte) Bd.returns (by simp) (B d12_8) (hnr ▸ hr)))
abbrev rKKi1 : Room := { frames := 2, cells := 1, slots := 1, locals := 35 }
theorem d13_0 : decode jdk_42_method_149_code 0 = .ok (.aload_n 0, 1) := by decide +kernel
theorem d13_1 : decode jdk_42_method_149_code 1 = .ok (.invokespecial 1, 3) := by decide +kernel
theorem d13_4 : decode jdk_42_method_149_code 4 = .ok (.iload_n 3, 1) := by decide +kernel
theorem d13_5 : decode jdk_42_method_149_code 5 = .ok (.ifCond .ne 22, 3) := by decide +kernel
theorem d13_27 : decode jdk_42_method_149_code 27 = .ok (.getstatic 38, 3) := by decide +kernel
theorem d13_30 : decode jdk_42_method_149_code 30 = .ok (.ifCond .eq 28, 3) := by decide +kernel
theorem d13_33 : decode jdk_42_method_149_code 33 = .ok (.aload_n 1, 1) := by decide +kernel
theorem d13_34 : decode jdk_42_method_149_code 34 = .ok (.iload_n 2, 1) := by decide +kernel
theorem d13_35 : decode jdk_42_method_149_code 35 = .ok (.iload_n 3, 1) := by decide +kernel
theorem d13_36 : decode jdk_42_method_149_code 36 = .ok (.invokestatic 177, 3) := by decide +kernel
theorem d13_39 : decode jdk_42_method_149_code 39 = .ok (.astore 5, 2) := by decide +kernel
theorem d13_41 : decode jdk_42_method_149_code 41 = .ok (.aload_n 0, 1) := by decide +kernel
theorem d13_42 : decode jdk_42_method_149_code 42 = .ok (.aload 5, 2) := by decide +kernel
theorem d13_44 : decode jdk_42_method_149_code 44 = .ok (.iload_n 3, 1) := by decide +kernel
theorem d13_45 : decode jdk_42_method_149_code 45 = .ok (.invokestatic 47, 3) := by decide +kernel
theorem d13_48 : decode jdk_42_method_149_code 48 = .ok (.putfield 15, 3) := by decide +kernel
theorem d13_51 : decode jdk_42_method_149_code 51 = .ok (.aload_n 0, 1) := by decide +kernel
theorem d13_52 : decode jdk_42_method_149_code 52 = .ok (.aload 5, 2) := by decide +kernel
theorem d13_54 : decode jdk_42_method_149_code 54 = .ok (.putfield 9, 3) := by decide +kernel
theorem d13_57 : decode jdk_42_method_149_code 57 = .ok (.return_, 1) := by decide +kernel
theorem pd7 : parseMethodDescriptor "([CII)[B" = some ⟨[(.array .char), .int, .int], some (.array .byte)⟩ := by decide +kernel
theorem pd8 : parseMethodDescriptor "([BI)B" = some ⟨[(.array .byte), .int], some .byte⟩ := by decide +kernel
theorem efKi1 (m : MethodId) (a1 : Addr) (a2 : Addr) : entryFrame m #[(.ref a1), (.ref a2), (.int (0 : Int32)), (.int (1 : Int32)), .null] 6 = mkF m 0 #[rv a1, rv a2, iv (0 : Int32), iv (1 : Int32), .val .null, .unset] [] := by first | (simp [entryFrame, mkF, argsToLocals, Value.category]; done) | rfl
def QKi1 (Z : State) (a1 : Addr) (a2 : Addr) (cz : Int32) (fv : Value) (k1 : ClassId) (c0 : Int32) (h0 : Heap) (n0 : Nat) (v : Option Value) (h : Heap) (L : List Loc) : Prop := v = none ∧ Fr n0 L ∧ Keep h0 h [a1] ∧ ∃ b k, h0.size ≤ b ∧ StL Z h a1 b k (1 : Int32) [c0.toInt8.toInt32] 0 0
set_option maxRecDepth 65536 in
set_option maxHeartbeats 40000000 in
theorem rmKi1 (l : Launch) (Z : State) (a0 : Array Value) (hw : HW a0 Z) (ws : List Jvm.Cond) (a1 : Addr) (a2 : Addr) (cz : Int32) (fv : Value) (k1 : ClassId) (c0 : Int32) (h0 : Heap) (n0 : Nat) (Z0 : n0 ≤ h0.size) (O0 : Old Z n0 h0) (J0 : Jd Z cz fv) (E1 : Exa Z h0 a1 "java/lang/String") (g_a1 : n0 ≤ a1) (F1 : Fld Z h0 a1 "java/lang/String" "value" "[B" .null) (F2 : Fld Z h0 a1 "java/lang/String" "coder" "B" (.int (0 : Int32))) (F3 : Fld Z h0 a1 "java/lang/String" "hash" "I" (.int (0 : Int32))) (F4 : Fld Z h0 a1 "java/lang/String" "hashIsZero" "Z" (.int (0 : Int32))) (V2 : Arv Z h0 a2 k1 .char (1 : Int32) [(.int c0)] (.int (0 : Int32))) (hle : (∀ c ∈ [c0], ¬ (255 : Int32) < c)) :
    MF l Z mN13 jdk_42_method_149_code 6 none ws rKKi1 #[(.ref a1), (.ref a2), (.int (0 : Int32)), (.int (1 : Int32)), .null] h0 (QKi1 Z a1 a2 cz fv k1 c0 h0 n0) := by
  refine MetFree.of_bodySF (plainFor_of_name pn0) hisR ?_
  intro p e s m args bl meth c s1 Bd hml0 hP hK
  obtain ⟨rfl, hZ, hh⟩ := hP
  have hx := Bd.exec
  have hby := Bd.bytes
  have B := @hb c _ hby
  have hM := fun {n : Nat} (h : n = 6) => h.trans hml0.symm
  have hown : s.vm.findClass "java/lang/String" = some m.cls := findClass_of_methodNamed Bd.named
  have hnm := (name_of_methodNamed Bd.named Bd.method).1
  have hlk : meth.locks = false := BodyLoose.notSynchronized Bd
  have X0 : Stand p l e rKKi1 s m #[(.ref a1), (.ref a2), (.int (0 : Int32)), (.int (1 : Int32)), .null] bl meth c s1 [] 0 0 := Stand.of_body Bd
  have e0 : s1.heap = h0 := by rw [← hh, Bd.state]; rfl
  have N0 := Fr.nil n0
  obtain ⟨EF, hEF⟩ : ∃ f, f = entryFrame m #[(.ref a1), (.ref a2), (.int (0 : Int32)), (.int (1 : Int32)), .null] 6 := ⟨_, rfl⟩
  have pre0 : Go p e bl s1 (mkF m 0 #[rv a1, rv a2, iv (0 : Int32), iv (1 : Int32), .val .null, .unset] []) s1 EF := fun t k => by rw [hEF]; exact castTop (efKi1 m a1 a2) k
  have pre1 : Go p e bl s1 (mkF m 1 #[rv a1, rv a2, iv (0 : Int32), iv (1 : Int32), .val .null, .unset] [(.ref a1)]) s1 EF := fun t k => pre0 t (by
   exact XS.aloadN X0.here hx rfl (B d13_0) rfl rfl k)
  obtain ⟨T2, X2, e2, st2⟩ := initO X0 hx hZ hown (hw _ (mW 19 rfl)) (hw _ (mW 20 rfl)) (hw _ (mW 21 rfl)) e0 (g := (mkF m 1 #[rv a1, rv a2, iv (0 : Int32), iv (1 : Int32), .val .null, .unset] [(.ref a1)])) rfl (hM rfl) rfl (B d13_1) (by decide) (W := 0) (Nat.le_of_eq rfl) (by decide)
  have pre3 : Go p e bl T2 (mkF m 4 #[rv a1, rv a2, iv (0 : Int32), iv (1 : Int32), .val .null, .unset] []) s1 EF := fun t k => pre1 t (st2 t k)
  have pre4 : Go p e bl T2 (mkF m 5 #[rv a1, rv a2, iv (0 : Int32), iv (1 : Int32), .val .null, .unset] [(.int (1 : Int32))]) s1 EF := fun t k => pre3 t (by
   exact XS.iloadN X2.here hx rfl (B d13_4) rfl k)
  have pre5 : Go p e bl T2 (mkF m 27 #[rv a1, rv a2, iv (0 : Int32), iv (1 : Int32), .val .null, .unset] []) s1 EF := fun t k => pre4 t (XS.ifYes X2.here hx rfl (pc0 := 5) (pc' := 27) rfl (B d13_5) rfl ((if0 _ _).trans (feq (by decide : ¬ ((1 : Int32) = (0 : Int32)))).2) (by decide) (by decide) k)
  obtain ⟨T6, X6, e6, st6⟩ := getS2 X2 hx hZ hown (host := "") (Or.inl (hw _ (mW 22 rfl))) Via.refl e2 (J0.1.ext O0.2) (g := (mkF m 27 #[rv a1, rv a2, iv (0 : Int32), iv (1 : Int32), .val .null, .unset] [])) rfl (B d13_27)
  have pre7 : Go p e bl T6 (mkF m 30 #[rv a1, rv a2, iv (0 : Int32), iv (1 : Int32), .val .null, .unset] [(.int cz)]) s1 EF := fun t k => pre5 t (st6 t k)
  have pre8 : Go p e bl T6 (mkF m 33 #[rv a1, rv a2, iv (0 : Int32), iv (1 : Int32), .val .null, .unset] []) s1 EF := fun t k => pre7 t (XS.ifNo X6.here hx rfl (B d13_30) rfl ((if0 _ _).trans (feq J0.2.1).1) k)
  have pre9 : Go p e bl T6 (mkF m 36 #[rv a1, rv a2, iv (0 : Int32), iv (1 : Int32), .val .null, .unset] [(.int (1 : Int32)), (.int (0 : Int32)), (.ref a2)]) s1 EF := fun t k => pre8 t (by
   refine XS.aloadN X6.here hx rfl (B d13_33) rfl rfl ?_
   refine XS.iloadN X6.here hx rfl (B d13_34) rfl ?_
   exact XS.iloadN X6.here hx rfl (B d13_35) rfl k)
  obtain ⟨_, _, ⟨T10, L10, k10, n10⟩, -, X10, ⟨Lc10, hQ10, l10, y10, z10⟩, st10⟩ := Jvm.LawKit.callS X6 hx (y := mN11) hown (mvT hZ (hw _ (mW 23 rfl))) (mvT hZ (hw _ (mW 24 rfl))) (mvT hZ (hw _ (mW 25 rfl))) (mvT hZ (hw _ (mW 26 rfl))) (by decide) (backOf (W := 0) (rmKb1 l Z a0 hw [] a2 cz fv k1 c0 h0 n0 Z0 O0 J0 V2 hle) hZ (hw _ (mW 26 rfl)) (hw _ (mW 25 rfl)) (by decide) (by decide)) (g := (mkF m 36 #[rv a1, rv a2, iv (0 : Int32), iv (1 : Int32), .val .null, .unset] [(.int (1 : Int32)), (.int (0 : Int32)), (.ref a2)])) rfl (hM rfl) (argsL := [(.ref a2), (.int (0 : Int32)), (.int (1 : Int32))]) (rest := []) (lenOf pd7 rfl) rfl (Nat.le_of_eq rfl) (B d13_36) (fun _ _ => ⟨rfl, e6, wl rfl, wl rfl⟩)
  dsimp only [Pt.U, Pt.locs, Pt.cells, Pt.slots] at X10 l10 y10 z10 st10 hQ10
  subst l10 y10 z10
  obtain ⟨bv, kb10, rfl, N10q, K10, hsz10, VB10, EB10⟩ := hQ10
  have N10 := Fr.app N0 N10q
  have pre11 : Go p e bl T10 (mkF m 39 #[rv a1, rv a2, iv (0 : Int32), iv (1 : Int32), .val .null, .unset] [(.ref bv)]) s1 EF := fun t k => pre9 t (st10 t k)
  have O12 : Old Z n0 T10.heap := O0.keep K10 all0
  have Z12 : n0 ≤ T10.heap.size := Nat.le_trans Z0 K10.1
  have K12 : Keep h0 T10.heap [a1] := (Keep.refl h0 [a1]).trans K10 all0
  have g_bv : n0 ≤ bv := Nat.le_trans Z0 hsz10
  have sz_bv : h0.size ≤ bv := Nat.le_trans (Keep.refl h0 [a1]).1 hsz10
  have ne_a1_bv : a1 ≠ bv := Nat.ne_of_lt (Nat.lt_of_lt_of_le E1.lt hsz10)
  have pre13 : Go p e bl T10 (mkF m 45 #[rv a1, rv a2, iv (0 : Int32), iv (1 : Int32), .val .null, rv bv] [(.int (1 : Int32)), (.ref bv), (.ref a1)]) s1 EF := fun t k => pre11 t (by
   refine XS.astore X10.here hx rfl (B d13_39) rfl rfl (l' := #[rv a1, rv a2, iv (0 : Int32), iv (1 : Int32), .val .null, rv bv]) rfl ?_
   refine XS.aloadN X10.here hx rfl (B d13_41) rfl rfl ?_
   refine XS.aload X10.here hx rfl (B d13_42) rfl rfl ?_
   exact XS.iloadN X10.here hx rfl (B d13_44) rfl k)
  obtain ⟨_, _, ⟨T14, L14, k14, n14⟩, -, X14, ⟨Lc14, hQ14, l14, y14, z14⟩, st14⟩ := Jvm.LawKit.callS X10 hx (y := mN12) hown (mvT hZ (hw _ (mW 31 rfl))) (mvT hZ (hw _ (mW 32 rfl))) (mvT hZ (hw _ (mW 25 rfl))) (mvT hZ (hw _ (mW 33 rfl))) (by decide) (backOf (W := 1) (rmKc1_0 l Z a0 hw [] bv cz fv kb10 _ T10.heap n0 Z12 O12 J0 VB10) hZ (hw _ (mW 33 rfl)) (hw _ (mW 25 rfl)) (by decide) (by decide)) (g := (mkF m 45 #[rv a1, rv a2, iv (0 : Int32), iv (1 : Int32), .val .null, rv bv] [(.int (1 : Int32)), (.ref bv), (.ref a1)])) rfl (hM rfl) (argsL := [(.ref bv), (.int (1 : Int32))]) (rest := [(.ref a1)]) (lenOf pd8 rfl) rfl (Nat.le_of_eq rfl) (B d13_45) (fun _ _ => ⟨rfl, rfl, wl rfl, wl rfl⟩)
  dsimp only [Pt.U, Pt.locs, Pt.cells, Pt.slots] at X14 l14 y14 z14 st14 hQ14
  subst l14 y14 z14
  obtain ⟨rfl, N14q, hq14⟩ := hQ14
  have N14 := Fr.app N10 N14q
  have pre15 : Go p e bl T14 (mkF m 48 #[rv a1, rv a2, iv (0 : Int32), iv (1 : Int32), .val .null, rv bv] [(.int (0 : Int32)), (.ref a1)]) s1 EF := fun t k => pre13 t (st14 t k)
  have e14 : T14.heap = T10.heap := hq14
  obtain ⟨T16, h16, X16, e16, W16, st16⟩ := putFN X14 hx hZ hown (hw _ (mW 34 rfl)) Via.refl e14 (F2.keep K10 nin0) (E1.keep K10) (Or.inr ⟨(hw _ (mW 35 rfl)), rfl, hnm⟩) (hw _ (mW 9 rfl)) (ty := .byte) (v' := (.int (0 : Int32))) (by decide) rfl rfl (g := (mkF m 48 #[rv a1, rv a2, iv (0 : Int32), iv (1 : Int32), .val .null, rv bv] [(.int (0 : Int32)), (.ref a1)])) rfl rfl (B d13_48)
  have pre17 : Go p e bl T16 (mkF m 51 #[rv a1, rv a2, iv (0 : Int32), iv (1 : Int32), .val .null, rv bv] []) s1 EF := fun t k => pre15 t (st16 t k)
  have O18 : Old Z n0 h16 := O12.wr W16 g_a1
  have Z18 : n0 ≤ h16.size := Nat.le_trans Z12 (Keep.of_wr W16).1
  have K18 : Keep h0 h16 [a1] := K12.wr W16 (Or.inl (List.mem_of_getElem? (i := 0) rfl))
  have Fw16 := Fld.same W16 (F2.keep K10 nin0)
  have N16 := Fr.snoc X16 N14 g_a1
  have pre19 : Go p e bl T16 (mkF m 54 #[rv a1, rv a2, iv (0 : Int32), iv (1 : Int32), .val .null, rv bv] [(.ref bv), (.ref a1)]) s1 EF := fun t k => pre17 t (by
   refine XS.aloadN X16.here hx rfl (B d13_51) rfl rfl ?_
   exact XS.aload X16.here hx rfl (B d13_52) rfl rfl k)
  obtain ⟨T20, h20, X20, e20, W20, st20⟩ := putF X16 hx hZ hown (host := "") (Or.inl (hw _ (mW 36 rfl))) Via.refl e16 (Fld.other W16 (F1.keep K10 nin0) (Or.inr (slot_ne (Or.inr (hw _ (mW 37 rfl))) (Or.inr (hw _ (mW 35 rfl))) (by decide) (t := (.array .byte)) (t' := .byte) (by decide) (by decide)))) ((E1.keep K10).wr W16) (Or.inr ⟨(hw _ (mW 37 rfl)), rfl, hnm⟩) (hw _ (mW 9 rfl)) (ty := (.array .byte)) (by decide) rfl rfl (g := (mkF m 54 #[rv a1, rv a2, iv (0 : Int32), iv (1 : Int32), .val .null, rv bv] [(.ref bv), (.ref a1)])) rfl rfl (B d13_54)
  have pre21 : Go p e bl T20 (mkF m 57 #[rv a1, rv a2, iv (0 : Int32), iv (1 : Int32), .val .null, rv bv] []) s1 EF := fun t k => pre19 t (st20 t k)
  have O22 : Old Z n0 h20 := O18.wr W20 g_a1
  have Z22 : n0 ≤ h20.size := Nat.le_trans Z18 (Keep.of_wr W20).1
  have K22 : Keep h0 h20 [a1] := K18.wr W20 (Or.inl (List.mem_of_getElem? (i := 0) rfl))
  have Fw20 := Fld.same W20 (Fld.other W16 (F1.keep K10 nin0) (Or.inr (slot_ne (Or.inr (hw _ (mW 37 rfl))) (Or.inr (hw _ (mW 35 rfl))) (by decide) (t := (.array .byte)) (t' := .byte) (by decide) (by decide))))
  have N20 := Fr.snoc X20 N16 g_a1
  exact fin1 X20 (v := none) (fun _ => rfl) hlk (wl rfl) (wl rfl) (by rw [e20]; exact ⟨rfl, N20, K22, _, _, sz_bv, ⟨(((E1.keep K10).wr W16).wr W20), (Fld.other W20 Fw16 (Or.inr (slot_ne (Or.inr (hw _ (mW 35 rfl))) (Or.inr (hw _ (mW 37 rfl))) (by decide) (t := .byte) (t' := (.array .byte)) (by decide) (by decide)))), Fw20, ((VB10.other W16 (Ne.symm ne_a1_bv)).other W20 (Ne.symm ne_a1_bv)), ((EB10.wr W16).wr W20), ne_a1_bv, (Fld.other W20 (Fld.other W16 (F3.keep K10 nin0) (Or.inr (slot_ne (Or.inl (hw _ (mW 129 rfl))) (Or.inr (hw _ (mW 35 rfl))) (by decide) (t := .int) (t' := .byte) (by decide) (by decide)))) (Or.inr (slot_ne (Or.inl (hw _ (mW 129 rfl))) (Or.inr (hw _ (mW 37 rfl))) (by decide) (t := .int) (t' := (.array .byte)) (by decide) (by decide)))), (Fld.other W20 (Fld.other W16 (F4.keep K10 nin0) (Or.inr (slot_ne (Or.inl (hw _ (mW 131 rfl))) (Or.inr (hw _ (mW 35 rfl))) (by decide) (t := .boolean) (t' := .byte) (by decide) (by decide)))) (Or.inr (slot_ne (Or.inl (hw _ (mW 131 rfl))) (Or.inr (hw _ (mW 37 rfl))) (by decide) (t := .boolean) (t' := (.array .byte)) (by decide) (by decide))))⟩⟩) (fun fs hr => hEF ▸ pre21 _ (X20.returnOut hx Bd.returns (B d13_57) hr))
abbrev rKKj1 : Room := { frames := 3, cells := 1, slots := 1, locals := 52 }
theorem d14_0 : decode jdk_42_method_3_code 0 = .ok (.aload_n 0, 1) := by decide +kernel
theorem d14_1 : decode jdk_42_method_3_code 1 = .ok (.aload_n 1, 1) := by decide +kernel
theorem d14_2 : decode jdk_42_method_3_code 2 = .ok (.iconst 0, 1) := by decide +kernel
theorem d14_3 : decode jdk_42_method_3_code 3 = .ok (.aload_n 1, 1) := by decide +kernel
theorem d14_4 : decode jdk_42_method_3_code 4 = .ok (.arraylength, 1) := by decide +kernel
theorem d14_5 : decode jdk_42_method_3_code 5 = .ok (.aconst_null, 1) := by decide +kernel
theorem d14_6 : decode jdk_42_method_3_code 6 = .ok (.invokespecial 27, 3) := by decide +kernel
theorem d14_9 : decode jdk_42_method_3_code 9 = .ok (.return_, 1) := by decide +kernel
theorem pd9 : parseMethodDescriptor "([CIILjava/lang/Void;)V" = some ⟨[(.array .char), .int, .int, (.object "java/lang/Void")], none⟩ := by decide +kernel
theorem efKj1 (m : MethodId) (a1 : Addr) (a2 : Addr) : entryFrame m #[(.ref a1), (.ref a2)] 2 = mkF m 0 #[rv a1, rv a2] [] := by first | (simp [entryFrame, mkF, argsToLocals, Value.category]; done) | rfl
def QKj1 (Z : State) (a1 : Addr) (a2 : Addr) (cz : Int32) (fv : Value) (k1 : ClassId) (c0 : Int32) (h0 : Heap) (n0 : Nat) (v : Option Value) (h : Heap) (L : List Loc) : Prop := v = none ∧ Fr n0 L ∧ Keep h0 h [a1] ∧ ∃ b k, h0.size ≤ b ∧ StL Z h a1 b k (1 : Int32) [c0.toInt8.toInt32] 0 0
set_option maxRecDepth 65536 in
set_option maxHeartbeats 40000000 in
theorem rmKj1 (l : Launch) (Z : State) (a0 : Array Value) (hw : HW a0 Z) (ws : List Jvm.Cond) (a1 : Addr) (a2 : Addr) (cz : Int32) (fv : Value) (k1 : ClassId) (c0 : Int32) (h0 : Heap) (n0 : Nat) (Z0 : n0 ≤ h0.size) (O0 : Old Z n0 h0) (J0 : Jd Z cz fv) (E1 : Exa Z h0 a1 "java/lang/String") (g_a1 : n0 ≤ a1) (F1 : Fld Z h0 a1 "java/lang/String" "value" "[B" .null) (F2 : Fld Z h0 a1 "java/lang/String" "coder" "B" (.int (0 : Int32))) (F3 : Fld Z h0 a1 "java/lang/String" "hash" "I" (.int (0 : Int32))) (F4 : Fld Z h0 a1 "java/lang/String" "hashIsZero" "Z" (.int (0 : Int32))) (V2 : Arv Z h0 a2 k1 .char (1 : Int32) [(.int c0)] (.int (0 : Int32))) (hle : (∀ c ∈ [c0], ¬ (255 : Int32) < c)) :
    MF l Z mN14 jdk_42_method_3_code 2 none ws rKKj1 #[(.ref a1), (.ref a2)] h0 (QKj1 Z a1 a2 cz fv k1 c0 h0 n0) := by
  refine MetFree.of_bodySF (plainFor_of_name pn0) hisR ?_
  intro p e s m args bl meth c s1 Bd hml0 hP hK
  obtain ⟨rfl, hZ, hh⟩ := hP
  have hx := Bd.exec
  have hby := Bd.bytes
  have B := @hb c _ hby
  have hM := fun {n : Nat} (h : n = 2) => h.trans hml0.symm
  have hown : s.vm.findClass "java/lang/String" = some m.cls := findClass_of_methodNamed Bd.named
  have hlk : meth.locks = false := BodyLoose.notSynchronized Bd
  have X0 : Stand p l e rKKj1 s m #[(.ref a1), (.ref a2)] bl meth c s1 [] 0 0 := Stand.of_body Bd
  have e0 : s1.heap = h0 := by rw [← hh, Bd.state]; rfl
  have N0 := Fr.nil n0
  obtain ⟨EF, hEF⟩ : ∃ f, f = entryFrame m #[(.ref a1), (.ref a2)] 2 := ⟨_, rfl⟩
  have pre0 : Go p e bl s1 (mkF m 0 #[rv a1, rv a2] []) s1 EF := fun t k => by rw [hEF]; exact castTop (efKj1 m a1 a2) k
  have pre1 : Go p e bl s1 (mkF m 4 #[rv a1, rv a2] [(.ref a2), (.int (0 : Int32)), (.ref a2), (.ref a1)]) s1 EF := fun t k => pre0 t (by
   refine XS.aloadN X0.here hx rfl (B d14_0) rfl rfl ?_
   refine XS.aloadN X0.here hx rfl (B d14_1) rfl rfl ?_
   refine XS.iconst X0.here hx rfl (B d14_2) ?_
   exact XS.aloadN X0.here hx rfl (B d14_3) rfl rfl k)
  obtain ⟨cl2, Ar2, q2, Sz2, M2, H2, G2⟩ := id V2
  have pre3 : Go p e bl s1 (mkF m 6 #[rv a1, rv a2] [.null, (.int (1 : Int32)), (.int (0 : Int32)), (.ref a2), (.ref a1)]) s1 EF := fun t k => pre1 t (by
   refine X0.arraylength hx (by rw [e0]; exact Ar2.1) (State.isArrayOf_alike hZ.alike Ar2.2.1) (g := (mkF m 4 #[rv a1, rv a2] [(.ref a2), (.int (0 : Int32)), (.ref a2), (.ref a1)])) rfl rfl (B d14_4) _ ?_
   rw [len_of Sz2 M2]
   exact XS.aconstNull X0.here hx rfl (B d14_5) k)
  obtain ⟨_, _, ⟨T4, L4, k4, n4⟩, -, X4, ⟨Lc4, hQ4, l4, y4, z4⟩, st4⟩ := X0.specialBack hx (y := mN13) rfl hown (mvT hZ (hw _ (mW 15 rfl))) (mvT hZ (hw _ (mW 16 rfl))) (mvT hZ (hw _ (mW 18 rfl))) (by decide) (backOf (W := 0) (rmKi1 l Z a0 hw [] a1 a2 cz fv k1 c0 h0 n0 Z0 O0 J0 E1 g_a1 F1 F2 F3 F4 V2 hle) hZ (hw _ (mW 18 rfl)) (hw _ (mW 10 rfl)) (by decide) (by decide)) (g := (mkF m 6 #[rv a1, rv a2] [.null, (.int (1 : Int32)), (.int (0 : Int32)), (.ref a2), (.ref a1)])) rfl (hM rfl) (Steps.refl _) (a := a1) (argsL := [(.ref a2), (.int (0 : Int32)), (.int (1 : Int32)), .null]) (rest := []) (lenOf pd9 rfl) rfl (Nat.le_of_eq rfl) (B d14_6) (fun _ _ => ⟨rfl, e0, wl rfl, wl rfl⟩)
  dsimp only [Pt.U, Pt.locs, Pt.cells, Pt.slots] at X4 l4 y4 z4 st4 hQ4
  subst l4 y4 z4
  obtain ⟨rfl, N4q, K4, bv4, kb4, hsz4, SF4⟩ := hQ4
  have N4 := Fr.app N0 N4q
  have pre5 : Go p e bl T4 (mkF m 9 #[rv a1, rv a2] []) s1 EF := fun t k => pre3 t (st4.trans k)
  have O6 : Old Z n0 T4.heap := O0.keep K4 (allS g_a1 all0)
  have Z6 : n0 ≤ T4.heap.size := Nat.le_trans Z0 K4.1
  have K6 : Keep h0 T4.heap [a1] := (Keep.refl h0 [a1]).trans K4 (allS (Or.inl (List.mem_of_getElem? (i := 0) rfl)) all0)
  exact fin1 X4 (v := none) (fun _ => rfl) hlk (wl rfl) (wl rfl) (by exact ⟨rfl, N4, K6, _, _, hsz4, SF4⟩) (fun fs hr => hEF ▸ pre5 _ (X4.returnOut hx Bd.returns (B d14_9) hr))
abbrev rKKa2 : Room := { frames := 0, cells := 0, slots := 0, locals := 0 }
theorem efKa2 (m : MethodId) (a1 : Addr) (a2 : Addr) : entryFrame m #[(.ref a1), (.int (0 : Int32)), (.ref a2), (.int (0 : Int32)), (.int (2 : Int32))] 7 = mkF m 0 #[rv a1, iv (0 : Int32), rv a2, iv (0 : Int32), iv (2 : Int32), .unset, .unset] [] := by first | (simp [entryFrame, mkF, argsToLocals, Value.category]; done) | rfl
def QKa2 (Z : State) (a1 : Addr) (a2 : Addr) (cz : Int32) (fv : Value) (k1 : ClassId) (k2 : ClassId) (c0 : Int32) (c1 : Int32) (h0 : Heap) (n0 : Nat) (v : Option Value) (h : Heap) (L : List Loc) : Prop := v = some (.int (2 : Int32)) ∧ Fr n0 L ∧ Keep h0 h [a2] ∧ Arv Z h a2 k2 .byte (2 : Int32) [(.int (c0.toInt8.toInt32)), (.int (c1.toInt8.toInt32))] (.int (0 : Int32))
set_option maxRecDepth 65536 in
set_option maxHeartbeats 40000000 in
theorem rmKa2 (l : Launch) (Z : State) (a0 : Array Value) (hw : HW a0 Z) (ws : List Jvm.Cond) (a1 : Addr) (a2 : Addr) (cz : Int32) (fv : Value) (k1 : ClassId) (k2 : ClassId) (c0 : Int32) (c1 : Int32) (h0 : Heap) (n0 : Nat) (Z0 : n0 ≤ h0.size) (O0 : Old Z n0 h0) (J0 : Jd Z cz fv) (V1 : Arv Z h0 a1 k1 .char (2 : Int32) [(.int c0), (.int c1)] (.int (0 : Int32))) (V2 : Arv Z h0 a2 k2 .byte (2 : Int32) [(.int (0 : Int32)), (.int (0 : Int32))] (.int (0 : Int32))) (ne12 : a1 ≠ a2) (g_a2 : n0 ≤ a2) (hle : (∀ c ∈ [c0, c1], ¬ (255 : Int32) < c)) :
    MF l Z mN10 jdk_52_method_21_code 7 (some .int) ws rKKa2 #[(.ref a1), (.int (0 : Int32)), (.ref a2), (.int (0 : Int32)), (.int (2 : Int32))] h0 (QKa2 Z a1 a2 cz fv k1 k2 c0 c1 h0 n0) := by
  refine MetFree.of_bodySF (plainFor_of_name pn3) hisR ?_
  intro p e s m args bl meth c s1 Bd hml0 hP hK
  obtain ⟨rfl, hZ, hh⟩ := hP
  have hx := Bd.exec
  have hby := Bd.bytes
  have B := @hb c _ hby
  have hown : s.vm.findClass "java/lang/StringUTF16" = some m.cls := findClass_of_methodNamed Bd.named
  have hlk : meth.locks = false := BodyLoose.notSynchronized Bd
  have hrt : ∀ {v : Option Value}, meth.sig.returnType = none → v = none := fun h => by rw [Bd.returns] at h; cases h
  have X0 : Stand p l e rKKa2 s m #[(.ref a1), (.int (0 : Int32)), (.ref a2), (.int (0 : Int32)), (.int (2 : Int32))] bl meth c s1 [] 0 0 := Stand.of_body Bd
  have e0 : s1.heap = h0 := by rw [← hh, Bd.state]; rfl
  have N0 := Fr.nil n0
  obtain ⟨EF, hEF⟩ : ∃ f, f = entryFrame m #[(.ref a1), (.int (0 : Int32)), (.ref a2), (.int (0 : Int32)), (.int (2 : Int32))] 7 := ⟨_, rfl⟩
  have pre0 : Go p e bl s1 (mkF m 0 #[rv a1, iv (0 : Int32), rv a2, iv (0 : Int32), iv (2 : Int32), .unset, .unset] []) s1 EF := fun t k => by rw [hEF]; exact castTop (efKa2 m a1 a2) k
  have pre1 : Go p e bl s1 (mkF m 7 #[rv a1, iv (0 : Int32), rv a2, iv (0 : Int32), iv (2 : Int32), iv (0 : Int32), .unset] [(.int (2 : Int32)), (.int (0 : Int32))]) s1 EF := fun t k => pre0 t (by
   refine XS.iconst X0.here hx rfl (B d10_0) ?_
   refine XS.istore X0.here hx rfl (B d10_1) rfl (l' := #[rv a1, iv (0 : Int32), rv a2, iv (0 : Int32), iv (2 : Int32), iv (0 : Int32), .unset]) rfl ?_
   refine XS.iload X0.here hx rfl (B d10_3) rfl ?_
   exact XS.iload X0.here hx rfl (B d10_5) rfl k)
  have pre2 : Go p e bl s1 (mkF m 10 #[rv a1, iv (0 : Int32), rv a2, iv (0 : Int32), iv (2 : Int32), iv (0 : Int32), .unset] []) s1 EF := fun t k => pre1 t (XS.icmpNo X0.here hx rfl (B d10_7) rfl (tlt (by decide : (0 : Int32) < (2 : Int32))).2.1 k)
  have pre3 : Go p e bl s1 (mkF m 12 #[rv a1, iv (0 : Int32), rv a2, iv (0 : Int32), iv (2 : Int32), iv (0 : Int32), .unset] [(.int (0 : Int32)), (.ref a1)]) s1 EF := fun t k => pre2 t (by
   refine XS.aloadN X0.here hx rfl (B d10_10) rfl rfl ?_
   exact XS.iloadN X0.here hx rfl (B d10_11) rfl k)
  obtain ⟨cl4, Ar4, q4, Sz4, M4, H4, G4⟩ := id V1
  have hin4 : ¬ ((0 : Int32) < 0 ∨ cl4.slots.size ≤ ((0 : Int32)).toNatClampNeg) := inb_of Sz4 ⟨by decide, by decide⟩
  have hat4 : cl4.slots[((0 : Int32)).toNatClampNeg]? = some (.int c0) := Has.at H4 hin4 rfl
  have pre5 : Go p e bl s1 (mkF m 20 #[rv a1, iv (0 : Int32), rv a2, iv (0 : Int32), iv (2 : Int32), iv (0 : Int32), iv c0] [(.int (255 : Int32)), (.int c0)]) s1 EF := fun t k => pre3 t (by
   refine X0.caload hx (j := (0 : Int32)) (v := (.int c0)) (by rw [e0]; exact Ar4.1) (State.isArrayOf_alike hZ.alike Ar4.2.1) Ar4.2.2 hin4 hat4 (g := (mkF m 12 #[rv a1, iv (0 : Int32), rv a2, iv (0 : Int32), iv (2 : Int32), iv (0 : Int32), .unset] [(.int (0 : Int32)), (.ref a1)])) rfl rfl (B d10_12) _ ?_
   refine XS.istore X0.here hx rfl (B d10_13) rfl (l' := #[rv a1, iv (0 : Int32), rv a2, iv (0 : Int32), iv (2 : Int32), iv (0 : Int32), iv c0]) rfl ?_
   refine XS.iload X0.here hx rfl (B d10_15) rfl ?_
   exact XS.sipush X0.here hx rfl (B d10_17) k)
  have pre6 : Go p e bl s1 (mkF m 26 #[rv a1, iv (0 : Int32), rv a2, iv (0 : Int32), iv (2 : Int32), iv (0 : Int32), iv c0] []) s1 EF := fun t k => pre5 t (XS.icmpYes X0.here hx rfl (pc0 := 20) (pc' := 26) rfl (B d10_20) rfl (flt (hle c0 (List.mem_of_getElem? (i := 0) rfl))).2.2.2 (by decide) (by decide) k)
  have pre7 : Go p e bl s1 (mkF m 31 #[rv a1, iv (0 : Int32), rv a2, iv (0 : Int32), iv (2 : Int32), iv (0 : Int32), iv c0] [(.int (c0.toInt8.toInt32)), (.int (0 : Int32)), (.ref a2)]) s1 EF := fun t k => pre6 t (by
   refine XS.aloadN X0.here hx rfl (B d10_26) rfl rfl ?_
   refine XS.iloadN X0.here hx rfl (B d10_27) rfl ?_
   refine XS.iload X0.here hx rfl (B d10_28) rfl ?_
   exact XS.i2b X0.here hx rfl (B d10_30) rfl k)
  obtain ⟨cl8, Ar8, q8, Sz8, M8, H8, G8⟩ := id V2
  have hin8 : ¬ ((0 : Int32) < 0 ∨ cl8.slots.size ≤ ((0 : Int32)).toNatClampNeg) := inb_of Sz8 ⟨by decide, by decide⟩
  obtain ⟨T8, h8, X8, e8, W8, st8⟩ := stB X0 hx hZ e0 Ar8 (j := (0 : Int32)) hin8 (g := (mkF m 31 #[rv a1, iv (0 : Int32), rv a2, iv (0 : Int32), iv (2 : Int32), iv (0 : Int32), iv c0] [(.int (c0.toInt8.toInt32)), (.int (0 : Int32)), (.ref a2)])) rfl rfl (B d10_31)
  rw [own_i2b2] at W8
  have pre9 : Go p e bl T8 (mkF m 32 #[rv a1, iv (0 : Int32), rv a2, iv (0 : Int32), iv (2 : Int32), iv (0 : Int32), iv c0] []) s1 EF := fun t k => pre7 t (st8 t k)
  have O10 : Old Z n0 h8 := O0.wr W8 g_a2
  have Z10 : n0 ≤ h8.size := Nat.le_trans Z0 (Keep.of_wr W8).1
  have K10 : Keep h0 h8 [a2] := (Keep.refl h0 [a2]).wr W8 (Or.inl (List.mem_of_getElem? (i := 0) rfl))
  have V8 : Arv Z h8 a2 k2 .byte (2 : Int32) [(.int (c0.toInt8.toInt32)), (.int (0 : Int32))] (.int (0 : Int32)) := Arv.set Ar8 q8 Sz8 M8 H8 G8 (fits_nar_byte _) W8 0 rfl (Nat.le_of_ble_eq_true rfl)
  have N8 := Fr.snoc X8 N0 g_a2
  have pre11 : Go p e bl T8 (mkF m 7 #[rv a1, iv (1 : Int32), rv a2, iv (1 : Int32), iv (2 : Int32), iv (1 : Int32), iv c0] [(.int (2 : Int32)), (.int (1 : Int32))]) s1 EF := fun t k => pre9 t (by
   refine XS.iinc X8.here hx rfl (B d10_32) rfl (l' := #[rv a1, iv (1 : Int32), rv a2, iv (0 : Int32), iv (2 : Int32), iv (0 : Int32), iv c0]) rfl ?_
   refine XS.iinc X8.here hx rfl (B d10_35) rfl (l' := #[rv a1, iv (1 : Int32), rv a2, iv (1 : Int32), iv (2 : Int32), iv (0 : Int32), iv c0]) rfl ?_
   refine XS.iinc X8.here hx rfl (B d10_38) rfl (l' := #[rv a1, iv (1 : Int32), rv a2, iv (1 : Int32), iv (2 : Int32), iv (1 : Int32), iv c0]) rfl ?_
   refine XS.goto X8.here hx rfl (pc0 := 41) (pc' := 3) rfl (B d10_41) (by decide) (by decide) ?_
   refine XS.iload X8.here hx rfl (B d10_3) rfl ?_
   exact XS.iload X8.here hx rfl (B d10_5) rfl k)
  have pre12 : Go p e bl T8 (mkF m 10 #[rv a1, iv (1 : Int32), rv a2, iv (1 : Int32), iv (2 : Int32), iv (1 : Int32), iv c0] []) s1 EF := fun t k => pre11 t (XS.icmpNo X8.here hx rfl (B d10_7) rfl (tlt (by decide : (1 : Int32) < (2 : Int32))).2.1 k)
  have pre13 : Go p e bl T8 (mkF m 12 #[rv a1, iv (1 : Int32), rv a2, iv (1 : Int32), iv (2 : Int32), iv (1 : Int32), iv c0] [(.int (1 : Int32)), (.ref a1)]) s1 EF := fun t k => pre12 t (by
   refine XS.aloadN X8.here hx rfl (B d10_10) rfl rfl ?_
   exact XS.iloadN X8.here hx rfl (B d10_11) rfl k)
  obtain ⟨cl14, Ar14, q14, Sz14, M14, H14, G14⟩ := id (V1.other W8 ne12)
  have hin14 : ¬ ((1 : Int32) < 0 ∨ cl14.slots.size ≤ ((1 : Int32)).toNatClampNeg) := inb_of Sz14 ⟨by decide, by decide⟩
  have hat14 : cl14.slots[((1 : Int32)).toNatClampNeg]? = some (.int c1) := Has.at H14 hin14 rfl
  have pre15 : Go p e bl T8 (mkF m 20 #[rv a1, iv (1 : Int32), rv a2, iv (1 : Int32), iv (2 : Int32), iv (1 : Int32), iv c1] [(.int (255 : Int32)), (.int c1)]) s1 EF := fun t k => pre13 t (by
   refine X8.caload hx (j := (1 : Int32)) (v := (.int c1)) (by rw [e8]; exact Ar14.1) (State.isArrayOf_alike hZ.alike Ar14.2.1) Ar14.2.2 hin14 hat14 (g := (mkF m 12 #[rv a1, iv (1 : Int32), rv a2, iv (1 : Int32), iv (2 : Int32), iv (1 : Int32), iv c0] [(.int (1 : Int32)), (.ref a1)])) rfl rfl (B d10_12) _ ?_
   refine XS.istore X8.here hx rfl (B d10_13) rfl (l' := #[rv a1, iv (1 : Int32), rv a2, iv (1 : Int32), iv (2 : Int32), iv (1 : Int32), iv c1]) rfl ?_
   refine XS.iload X8.here hx rfl (B d10_15) rfl ?_
   exact XS.sipush X8.here hx rfl (B d10_17) k)
  have pre16 : Go p e bl T8 (mkF m 26 #[rv a1, iv (1 : Int32), rv a2, iv (1 : Int32), iv (2 : Int32), iv (1 : Int32), iv c1] []) s1 EF := fun t k => pre15 t (XS.icmpYes X8.here hx rfl (pc0 := 20) (pc' := 26) rfl (B d10_20) rfl (flt (hle c1 (List.mem_of_getElem? (i := 1) rfl))).2.2.2 (by decide) (by decide) k)
  have pre17 : Go p e bl T8 (mkF m 31 #[rv a1, iv (1 : Int32), rv a2, iv (1 : Int32), iv (2 : Int32), iv (1 : Int32), iv c1] [(.int (c1.toInt8.toInt32)), (.int (1 : Int32)), (.ref a2)]) s1 EF := fun t k => pre16 t (by
   refine XS.aloadN X8.here hx rfl (B d10_26) rfl rfl ?_
   refine XS.iloadN X8.here hx rfl (B d10_27) rfl ?_
   refine XS.iload X8.here hx rfl (B d10_28) rfl ?_
   exact XS.i2b X8.here hx rfl (B d10_30) rfl k)
  obtain ⟨cl18, Ar18, q18, Sz18, M18, H18, G18⟩ := id V8
  have hin18 : ¬ ((1 : Int32) < 0 ∨ cl18.slots.size ≤ ((1 : Int32)).toNatClampNeg) := inb_of Sz18 ⟨by decide, by decide⟩
  obtain ⟨T18, h18, X18, e18, W18, st18⟩ := stB X8 hx hZ e8 Ar18 (j := (1 : Int32)) hin18 (g := (mkF m 31 #[rv a1, iv (1 : Int32), rv a2, iv (1 : Int32), iv (2 : Int32), iv (1 : Int32), iv c1] [(.int (c1.toInt8.toInt32)), (.int (1 : Int32)), (.ref a2)])) rfl rfl (B d10_31)
  rw [own_i2b2] at W18
  have pre19 : Go p e bl T18 (mkF m 32 #[rv a1, iv (1 : Int32), rv a2, iv (1 : Int32), iv (2 : Int32), iv (1 : Int32), iv c1] []) s1 EF := fun t k => pre17 t (st18 t k)
  have O20 : Old Z n0 h18 := O10.wr W18 g_a2
  have Z20 : n0 ≤ h18.size := Nat.le_trans Z10 (Keep.of_wr W18).1
  have K20 : Keep h0 h18 [a2] := K10.wr W18 (Or.inl (List.mem_of_getElem? (i := 0) rfl))
  have V18 : Arv Z h18 a2 k2 .byte (2 : Int32) [(.int (c0.toInt8.toInt32)), (.int (c1.toInt8.toInt32))] (.int (0 : Int32)) := Arv.set Ar18 q18 Sz18 M18 H18 G18 (fits_nar_byte _) W18 1 rfl (Nat.le_of_ble_eq_true rfl)
  have N18 := Fr.snoc X18 N8 g_a2
  have pre21 : Go p e bl T18 (mkF m 7 #[rv a1, iv (2 : Int32), rv a2, iv (2 : Int32), iv (2 : Int32), iv (2 : Int32), iv c1] [(.int (2 : Int32)), (.int (2 : Int32))]) s1 EF := fun t k => pre19 t (by
   refine XS.iinc X18.here hx rfl (B d10_32) rfl (l' := #[rv a1, iv (2 : Int32), rv a2, iv (1 : Int32), iv (2 : Int32), iv (1 : Int32), iv c1]) rfl ?_
   refine XS.iinc X18.here hx rfl (B d10_35) rfl (l' := #[rv a1, iv (2 : Int32), rv a2, iv (2 : Int32), iv (2 : Int32), iv (1 : Int32), iv c1]) rfl ?_
   refine XS.iinc X18.here hx rfl (B d10_38) rfl (l' := #[rv a1, iv (2 : Int32), rv a2, iv (2 : Int32), iv (2 : Int32), iv (2 : Int32), iv c1]) rfl ?_
   refine XS.goto X18.here hx rfl (pc0 := 41) (pc' := 3) rfl (B d10_41) (by decide) (by decide) ?_
   refine XS.iload X18.here hx rfl (B d10_3) rfl ?_
   exact XS.iload X18.here hx rfl (B d10_5) rfl k)
  have pre22 : Go p e bl T18 (mkF m 44 #[rv a1, iv (2 : Int32), rv a2, iv (2 : Int32), iv (2 : Int32), iv (2 : Int32), iv c1] []) s1 EF := fun t k => pre21 t (XS.icmpYes X18.here hx rfl (pc0 := 7) (pc' := 44) rfl (B d10_7) rfl (flt (by decide : ¬ ((2 : Int32) < (2 : Int32)))).2.1 (by decide) (by decide) k)
  have pre23 : Go p e bl T18 (mkF m 46 #[rv a1, iv (2 : Int32), rv a2, iv (2 : Int32), iv (2 : Int32), iv (2 : Int32), iv c1] [(.int (2 : Int32))]) s1 EF := fun t k => pre22 t (by
   exact XS.iload X18.here hx rfl (B d10_44) rfl k)
  exact fin1 X18 (v := some (.int (2 : Int32))) hrt hlk (wl rfl) (wl rfl) (by rw [e18]; exact ⟨rfl, N18, K20, V18⟩) (fun fs hr => hEF ▸ pre23 _ (retOut X18 hx Bd.returns rfl (Or.inl ⟨rfl, Or.inl rfl, _, rfl⟩) (B d10_46) hr))
abbrev rKKb2 : Room := { frames := 1, cells := 1, slots := 2, locals := 18 }
theorem efKb2 (m : MethodId) (a1 : Addr) : entryFrame m #[(.ref a1), (.int (0 : Int32)), (.int (2 : Int32))] 6 = mkF m 0 #[rv a1, iv (0 : Int32), iv (2 : Int32), .unset, .unset, .unset] [] := by first | (simp [entryFrame, mkF, argsToLocals, Value.category]; done) | rfl
def QKb2 (Z : State) (a1 : Addr) (cz : Int32) (fv : Value) (k1 : ClassId) (c0 : Int32) (c1 : Int32) (h0 : Heap) (n0 : Nat) (v : Option Value) (h : Heap) (L : List Loc) : Prop := ∃ b k, v = some (.ref b) ∧ Fr n0 L ∧ Keep h0 h [] ∧ h0.size ≤ b ∧ Arv Z h b k .byte (2 : Int32) [(.int (c0.toInt8.toInt32)), (.int (c1.toInt8.toInt32))] (.int (0 : Int32)) ∧ Exa Z h b "[B"
set_option maxRecDepth 65536 in
set_option maxHeartbeats 40000000 in
theorem rmKb2 (l : Launch) (Z : State) (a0 : Array Value) (hw : HW a0 Z) (ws : List Jvm.Cond) (a1 : Addr) (cz : Int32) (fv : Value) (k1 : ClassId) (c0 : Int32) (c1 : Int32) (h0 : Heap) (n0 : Nat) (Z0 : n0 ≤ h0.size) (O0 : Old Z n0 h0) (J0 : Jd Z cz fv) (V1 : Arv Z h0 a1 k1 .char (2 : Int32) [(.int c0), (.int c1)] (.int (0 : Int32))) (hle : (∀ c ∈ [c0, c1], ¬ (255 : Int32) < c)) :
    MF l Z mN11 jdk_52_method_16_code 6 (some (.array .byte)) ws rKKb2 #[(.ref a1), (.int (0 : Int32)), (.int (2 : Int32))] h0 (QKb2 Z a1 cz fv k1 c0 c1 h0 n0) := by
  refine MetFree.of_bodySF (plainFor_of_name pn3) hisR ?_
  intro p e s m args bl meth c s1 Bd hml0 hP hK
  obtain ⟨rfl, hZ, hh⟩ := hP
  have hx := Bd.exec
  have hby := Bd.bytes
  have B := @hb c _ hby
  have hM := fun {n : Nat} (h : n = 6) => h.trans hml0.symm
  have hown : s.vm.findClass "java/lang/StringUTF16" = some m.cls := findClass_of_methodNamed Bd.named
  have hlk : meth.locks = false := BodyLoose.notSynchronized Bd
  have hrt : ∀ {v : Option Value}, meth.sig.returnType = none → v = none := fun h => by rw [Bd.returns] at h; cases h
  have X0 : Stand p l e rKKb2 s m #[(.ref a1), (.int (0 : Int32)), (.int (2 : Int32))] bl meth c s1 [] 0 0 := Stand.of_body Bd
  have e0 : s1.heap = h0 := by rw [← hh, Bd.state]; rfl
  have N0 := Fr.nil n0
  obtain ⟨EF, hEF⟩ : ∃ f, f = entryFrame m #[(.ref a1), (.int (0 : Int32)), (.int (2 : Int32))] 6 := ⟨_, rfl⟩
  have pre0 : Go p e bl s1 (mkF m 0 #[rv a1, iv (0 : Int32), iv (2 : Int32), .unset, .unset, .unset] []) s1 EF := fun t k => by rw [hEF]; exact castTop (efKb2 m a1) k
  have pre1 : Go p e bl s1 (mkF m 1 #[rv a1, iv (0 : Int32), iv (2 : Int32), .unset, .unset, .unset] [(.int (2 : Int32))]) s1 EF := fun t k => pre0 t (by
   exact XS.iloadN X0.here hx rfl (B d11_0) rfl k)
  obtain ⟨T2, h2, k2, X2, e2, Et2, A2, AX2, st2⟩ := newPE X0 hx hZ (hw _ (mW 27 rfl)) e0 (g := (mkF m 1 #[rv a1, iv (0 : Int32), iv (2 : Int32), .unset, .unset, .unset] [(.int (2 : Int32))])) rfl (B d11_1) rfl (by decide) (cap := 2) (by decide) (by decide) (by decide) (by decide) (ad := "[B") (by decide)
  obtain ⟨b2, g2⟩ : ∃ z, z = h0.size := ⟨_, rfl⟩
  rw [← g2] at A2 st2 AX2
  have g_b2 : n0 ≤ b2 := Nat.le_trans Z0 (Nat.le_of_eq g2.symm)
  have sz_b2 : h0.size ≤ b2 := Nat.le_trans (Keep.refl h0 []).1 (Nat.le_of_eq g2.symm)
  have ne_a1_b2 : a1 ≠ b2 := Nat.ne_of_lt (Nat.lt_of_lt_of_le V1.lt (Nat.le_of_eq g2.symm))
  have pre3 : Go p e bl T2 (mkF m 3 #[rv a1, iv (0 : Int32), iv (2 : Int32), .unset, .unset, .unset] [(.ref b2)]) s1 EF := fun t k => pre1 t (st2 t k)
  have O4 : Old Z n0 h2 := O0.ext Et2
  have Z4 : n0 ≤ h2.size := Nat.le_trans Z0 Et2.1
  have K4 : Keep h0 h2 [] := (Keep.refl h0 []).ext Et2
  have V2 : Arv Z h2 b2 k2 .byte (2 : Int32) [(.int (0 : Int32)), (.int (0 : Int32))] (.int (0 : Int32)) := (Arv.new A2 (by decide)).pad (pad_rep [] (.int (0 : Int32)) 2)
  have pre5 : Go p e bl T2 (mkF m 9 #[rv a1, iv (0 : Int32), iv (2 : Int32), rv b2, .unset, .unset] [(.int (2 : Int32)), (.int (0 : Int32)), (.ref b2), (.int (0 : Int32)), (.ref a1)]) s1 EF := fun t k => pre3 t (by
   refine XS.astoreN X2.here hx rfl (B d11_3) rfl rfl (l' := #[rv a1, iv (0 : Int32), iv (2 : Int32), rv b2, .unset, .unset]) rfl ?_
   refine XS.aloadN X2.here hx rfl (B d11_4) rfl rfl ?_
   refine XS.iloadN X2.here hx rfl (B d11_5) rfl ?_
   refine XS.aloadN X2.here hx rfl (B d11_6) rfl rfl ?_
   refine XS.iconst X2.here hx rfl (B d11_7) ?_
   exact XS.iloadN X2.here hx rfl (B d11_8) rfl k)
  obtain ⟨_, _, ⟨T6, L6, k6, n6⟩, -, X6, ⟨Lc6, hQ6, l6, y6, z6⟩, st6⟩ := Jvm.LawKit.callS X2 hx (y := mN10) hown (mvT hZ (hw _ (mW 28 rfl))) (mvT hZ (hw _ (mW 29 rfl))) (mvT hZ (hw _ (mW 25 rfl))) (mvT hZ (hw _ (mW 30 rfl))) (by decide) (backOf (W := 0) (rmKa2 l Z a0 hw [] a1 b2 cz fv k1 k2 c0 c1 h2 n0 Z4 O4 J0 (V1.ext Et2) V2 ne_a1_b2 g_b2 hle) hZ (hw _ (mW 30 rfl)) (hw _ (mW 25 rfl)) (by decide) (by decide)) (g := (mkF m 9 #[rv a1, iv (0 : Int32), iv (2 : Int32), rv b2, .unset, .unset] [(.int (2 : Int32)), (.int (0 : Int32)), (.ref b2), (.int (0 : Int32)), (.ref a1)])) rfl (hM rfl) (argsL := [(.ref a1), (.int (0 : Int32)), (.ref b2), (.int (0 : Int32)), (.int (2 : Int32))]) (rest := []) (lenOf pd6 rfl) rfl (Nat.le_of_eq rfl) (B d11_9) (fun _ _ => ⟨rfl, e2, wl rfl, wl rfl⟩)
  dsimp only [Pt.U, Pt.locs, Pt.cells, Pt.slots] at X6 l6 y6 z6 st6 hQ6
  subst l6 y6 z6
  obtain ⟨rfl, N6q, K6, VL6⟩ := hQ6
  have N6 := Fr.app N0 N6q
  have pre7 : Go p e bl T6 (mkF m 12 #[rv a1, iv (0 : Int32), iv (2 : Int32), rv b2, .unset, .unset] [(.int (2 : Int32))]) s1 EF := fun t k => pre5 t (st6 t k)
  have O8 : Old Z n0 T6.heap := O4.keep K6 (allS g_b2 all0)
  have Z8 : n0 ≤ T6.heap.size := Nat.le_trans Z4 K6.1
  have K8 : Keep h0 T6.heap [] := K4.trans K6 (allS (Or.inr sz_b2) all0)
  have pre9 : Go p e bl T6 (mkF m 17 #[rv a1, iv (0 : Int32), iv (2 : Int32), rv b2, iv (2 : Int32), .unset] [(.int (2 : Int32)), (.int (2 : Int32))]) s1 EF := fun t k => pre7 t (by
   refine XS.istore X6.here hx rfl (B d11_12) rfl (l' := #[rv a1, iv (0 : Int32), iv (2 : Int32), rv b2, iv (2 : Int32), .unset]) rfl ?_
   refine XS.iload X6.here hx rfl (B d11_14) rfl ?_
   exact XS.iloadN X6.here hx rfl (B d11_16) rfl k)
  have pre10 : Go p e bl T6 (mkF m 57 #[rv a1, iv (0 : Int32), iv (2 : Int32), rv b2, iv (2 : Int32), .unset] []) s1 EF := fun t k => pre9 t (XS.icmpYes X6.here hx rfl (pc0 := 17) (pc' := 57) rfl (B d11_17) rfl (teq (by decide : (2 : Int32) = (2 : Int32))).1 (by decide) (by decide) k)
  have pre11 : Go p e bl T6 (mkF m 58 #[rv a1, iv (0 : Int32), iv (2 : Int32), rv b2, iv (2 : Int32), .unset] [(.ref b2)]) s1 EF := fun t k => pre10 t (by
   exact XS.aloadN X6.here hx rfl (B d11_57) rfl rfl k)
  exact fin1 X6 (v := some (.ref b2)) hrt hlk (wl rfl) (wl rfl) (by exact ⟨_, _, rfl, N6, K8, sz_b2, VL6, (AX2.keep K6)⟩) (fun fs hr => hEF ▸ pre11 _ (retOut X6 hx Bd.returns rfl (Or.inr (Or.inr (Or.inr (Or.inr ⟨rfl, rfl, rfl⟩)))) (B d11_58) hr))
abbrev rKKc2_0 : Room := { frames := 0, cells := 0, slots := 0, locals := 0 }
theorem efKc2_0 (m : MethodId) (a1 : Addr) : entryFrame m #[(.ref a1), (.int (2 : Int32))] 2 = mkF m 0 #[rv a1, iv (2 : Int32)] [] := by first | (simp [entryFrame, mkF, argsToLocals, Value.category]; done) | rfl
def QKc2_0 (Z : State) (a1 : Addr) (cz : Int32) (fv : Value) (k : ClassId) (vs : List Value) (h0 : Heap) (n0 : Nat) (v : Option Value) (h : Heap) (L : List Loc) : Prop := v = some (.int (0 : Int32)) ∧ Fr n0 L ∧ h = h0
set_option maxRecDepth 65536 in
set_option maxHeartbeats 40000000 in
theorem rmKc2_0 (l : Launch) (Z : State) (a0 : Array Value) (hw : HW a0 Z) (ws : List Jvm.Cond) (a1 : Addr) (cz : Int32) (fv : Value) (k : ClassId) (vs : List Value) (h0 : Heap) (n0 : Nat) (Z0 : n0 ≤ h0.size) (O0 : Old Z n0 h0) (J0 : Jd Z cz fv) (VV : Arv Z h0 a1 k .byte (2 : Int32) vs (.int 0)) :
    MF l Z mN12 jdk_52_method_15_code 2 (some .byte) ws rKKc2_0 #[(.ref a1), (.int (2 : Int32))] h0 (QKc2_0 Z a1 cz fv k vs h0 n0) := by
  refine MetFree.of_bodySF (plainFor_of_name pn3) hisR ?_
  intro p e s m args bl meth c s1 Bd hml0 hP hK
  obtain ⟨rfl, hZ, hh⟩ := hP
  have hx := Bd.exec
  have hby := Bd.bytes
  have B := @hb c _ hby
  have hown : s.vm.findClass "java/lang/StringUTF16" = some m.cls := findClass_of_methodNamed Bd.named
  have hlk : meth.locks = false := BodyLoose.notSynchronized Bd
  have hrt : ∀ {v : Option Value}, meth.sig.returnType = none → v = none := fun h => by rw [Bd.returns] at h; cases h
  have X0 : Stand p l e rKKc2_0 s m #[(.ref a1), (.int (2 : Int32))] bl meth c s1 [] 0 0 := Stand.of_body Bd
  have e0 : s1.heap = h0 := by rw [← hh, Bd.state]; rfl
  have N0 := Fr.nil n0
  obtain ⟨EF, hEF⟩ : ∃ f, f = entryFrame m #[(.ref a1), (.int (2 : Int32))] 2 := ⟨_, rfl⟩
  have pre0 : Go p e bl s1 (mkF m 0 #[rv a1, iv (2 : Int32)] []) s1 EF := fun t k => by rw [hEF]; exact castTop (efKc2_0 m a1) k
  have pre1 : Go p e bl s1 (mkF m 2 #[rv a1, iv (2 : Int32)] [(.ref a1), (.int (2 : Int32))]) s1 EF := fun t k => pre0 t (by
   refine XS.iloadN X0.here hx rfl (B d12_0) rfl ?_
   exact XS.aloadN X0.here hx rfl (B d12_1) rfl rfl k)
  obtain ⟨cl2, Ar2, q2, Sz2, M2, H2, G2⟩ := id VV
  have pre3 : Go p e bl s1 (mkF m 8 #[rv a1, iv (2 : Int32)] [(.int (0 : Int32))]) s1 EF := fun t k => pre1 t (by
   refine X0.arraylength hx (by rw [e0]; exact Ar2.1) (State.isArrayOf_alike hZ.alike Ar2.2.1) (g := (mkF m 2 #[rv a1, iv (2 : Int32)] [(.ref a1), (.int (2 : Int32))])) rfl rfl (B d12_2) _ ?_
   rw [len_of Sz2 M2]
   refine XS.isub X0.here hx rfl (B d12_3) rfl ?_
   refine XS.bipush X0.here hx rfl (B d12_4) ?_
   refine XS.iushr X0.here hx rfl (B d12_6) rfl ?_
   exact XS.i2b X0.here hx rfl (B d12_7) rfl k)
  have hnr : Value.int (nar .byte (0 : Int32)) = (.int (0 : Int32)) := by rfl
  exact fin1 X0 (v := some (.int (0 : Int32))) hrt hlk (wl rfl) (wl rfl) (by rw [e0]; exact ⟨rfl, N0, rfl⟩) (fun fs hr => hEF ▸ pre3 _ (retN X0 hx (t := .byte) Bd.returns (by simp) (B d12_8) (hnr ▸ hr)))
abbrev rKKi2 : Room := { frames := 2, cells := 1, slots := 2, locals := 35 }
theorem efKi2 (m : MethodId) (a1 : Addr) (a2 : Addr) : entryFrame m #[(.ref a1), (.ref a2), (.int (0 : Int32)), (.int (2 : Int32)), .null] 6 = mkF m 0 #[rv a1, rv a2, iv (0 : Int32), iv (2 : Int32), .val .null, .unset] [] := by first | (simp [entryFrame, mkF, argsToLocals, Value.category]; done) | rfl
def QKi2 (Z : State) (a1 : Addr) (a2 : Addr) (cz : Int32) (fv : Value) (k1 : ClassId) (c0 : Int32) (c1 : Int32) (h0 : Heap) (n0 : Nat) (v : Option Value) (h : Heap) (L : List Loc) : Prop := v = none ∧ Fr n0 L ∧ Keep h0 h [a1] ∧ ∃ b k, h0.size ≤ b ∧ StL Z h a1 b k (2 : Int32) [c0.toInt8.toInt32, c1.toInt8.toInt32] 0 0
set_option maxRecDepth 65536 in
set_option maxHeartbeats 40000000 in
theorem rmKi2 (l : Launch) (Z : State) (a0 : Array Value) (hw : HW a0 Z) (ws : List Jvm.Cond) (a1 : Addr) (a2 : Addr) (cz : Int32) (fv : Value) (k1 : ClassId) (c0 : Int32) (c1 : Int32) (h0 : Heap) (n0 : Nat) (Z0 : n0 ≤ h0.size) (O0 : Old Z n0 h0) (J0 : Jd Z cz fv) (E1 : Exa Z h0 a1 "java/lang/String") (g_a1 : n0 ≤ a1) (F1 : Fld Z h0 a1 "java/lang/String" "value" "[B" .null) (F2 : Fld Z h0 a1 "java/lang/String" "coder" "B" (.int (0 : Int32))) (F3 : Fld Z h0 a1 "java/lang/String" "hash" "I" (.int (0 : Int32))) (F4 : Fld Z h0 a1 "java/lang/String" "hashIsZero" "Z" (.int (0 : Int32))) (V2 : Arv Z h0 a2 k1 .char (2 : Int32) [(.int c0), (.int c1)] (.int (0 : Int32))) (hle : (∀ c ∈ [c0, c1], ¬ (255 : Int32) < c)) :
    MF l Z mN13 jdk_42_method_149_code 6 none ws rKKi2 #[(.ref a1), (.ref a2), (.int (0 : Int32)), (.int (2 : Int32)), .null] h0 (QKi2 Z a1 a2 cz fv k1 c0 c1 h0 n0) := by
  refine MetFree.of_bodySF (plainFor_of_name pn0) hisR ?_
  intro p e s m args bl meth c s1 Bd hml0 hP hK
  obtain ⟨rfl, hZ, hh⟩ := hP
  have hx := Bd.exec
  have hby := Bd.bytes
  have B := @hb c _ hby
  have hM := fun {n : Nat} (h : n = 6) => h.trans hml0.symm
  have hown : s.vm.findClass "java/lang/String" = some m.cls := findClass_of_methodNamed Bd.named
  have hnm := (name_of_methodNamed Bd.named Bd.method).1
  have hlk : meth.locks = false := BodyLoose.notSynchronized Bd
  have X0 : Stand p l e rKKi2 s m #[(.ref a1), (.ref a2), (.int (0 : Int32)), (.int (2 : Int32)), .null] bl meth c s1 [] 0 0 := Stand.of_body Bd
  have e0 : s1.heap = h0 := by rw [← hh, Bd.state]; rfl
  have N0 := Fr.nil n0
  obtain ⟨EF, hEF⟩ : ∃ f, f = entryFrame m #[(.ref a1), (.ref a2), (.int (0 : Int32)), (.int (2 : Int32)), .null] 6 := ⟨_, rfl⟩
  have pre0 : Go p e bl s1 (mkF m 0 #[rv a1, rv a2, iv (0 : Int32), iv (2 : Int32), .val .null, .unset] []) s1 EF := fun t k => by rw [hEF]; exact castTop (efKi2 m a1 a2) k
  have pre1 : Go p e bl s1 (mkF m 1 #[rv a1, rv a2, iv (0 : Int32), iv (2 : Int32), .val .null, .unset] [(.ref a1)]) s1 EF := fun t k => pre0 t (by
   exact XS.aloadN X0.here hx rfl (B d13_0) rfl rfl k)
  obtain ⟨T2, X2, e2, st2⟩ := initO X0 hx hZ hown (hw _ (mW 19 rfl)) (hw _ (mW 20 rfl)) (hw _ (mW 21 rfl)) e0 (g := (mkF m 1 #[rv a1, rv a2, iv (0 : Int32), iv (2 : Int32), .val .null, .unset] [(.ref a1)])) rfl (hM rfl) rfl (B d13_1) (by decide) (W := 0) (Nat.le_of_eq rfl) (by decide)
  have pre3 : Go p e bl T2 (mkF m 4 #[rv a1, rv a2, iv (0 : Int32), iv (2 : Int32), .val .null, .unset] []) s1 EF := fun t k => pre1 t (st2 t k)
  have pre4 : Go p e bl T2 (mkF m 5 #[rv a1, rv a2, iv (0 : Int32), iv (2 : Int32), .val .null, .unset] [(.int (2 : Int32))]) s1 EF := fun t k => pre3 t (by
   exact XS.iloadN X2.here hx rfl (B d13_4) rfl k)
  have pre5 : Go p e bl T2 (mkF m 27 #[rv a1, rv a2, iv (0 : Int32), iv (2 : Int32), .val .null, .unset] []) s1 EF := fun t k => pre4 t (XS.ifYes X2.here hx rfl (pc0 := 5) (pc' := 27) rfl (B d13_5) rfl ((if0 _ _).trans (feq (by decide : ¬ ((2 : Int32) = (0 : Int32)))).2) (by decide) (by decide) k)
  obtain ⟨T6, X6, e6, st6⟩ := getS2 X2 hx hZ hown (host := "") (Or.inl (hw _ (mW 22 rfl))) Via.refl e2 (J0.1.ext O0.2) (g := (mkF m 27 #[rv a1, rv a2, iv (0 : Int32), iv (2 : Int32), .val .null, .unset] [])) rfl (B d13_27)
  have pre7 : Go p e bl T6 (mkF m 30 #[rv a1, rv a2, iv (0 : Int32), iv (2 : Int32), .val .null, .unset] [(.int cz)]) s1 EF := fun t k => pre5 t (st6 t k)
  have pre8 : Go p e bl T6 (mkF m 33 #[rv a1, rv a2, iv (0 : Int32), iv (2 : Int32), .val .null, .unset] []) s1 EF := fun t k => pre7 t (XS.ifNo X6.here hx rfl (B d13_30) rfl ((if0 _ _).trans (feq J0.2.1).1) k)
  have pre9 : Go p e bl T6 (mkF m 36 #[rv a1, rv a2, iv (0 : Int32), iv (2 : Int32), .val .null, .unset] [(.int (2 : Int32)), (.int (0 : Int32)), (.ref a2)]) s1 EF := fun t k => pre8 t (by
   refine XS.aloadN X6.here hx rfl (B d13_33) rfl rfl ?_
   refine XS.iloadN X6.here hx rfl (B d13_34) rfl ?_
   exact XS.iloadN X6.here hx rfl (B d13_35) rfl k)
  obtain ⟨_, _, ⟨T10, L10, k10, n10⟩, -, X10, ⟨Lc10, hQ10, l10, y10, z10⟩, st10⟩ := Jvm.LawKit.callS X6 hx (y := mN11) hown (mvT hZ (hw _ (mW 23 rfl))) (mvT hZ (hw _ (mW 24 rfl))) (mvT hZ (hw _ (mW 25 rfl))) (mvT hZ (hw _ (mW 26 rfl))) (by decide) (backOf (W := 0) (rmKb2 l Z a0 hw [] a2 cz fv k1 c0 c1 h0 n0 Z0 O0 J0 V2 hle) hZ (hw _ (mW 26 rfl)) (hw _ (mW 25 rfl)) (by decide) (by decide)) (g := (mkF m 36 #[rv a1, rv a2, iv (0 : Int32), iv (2 : Int32), .val .null, .unset] [(.int (2 : Int32)), (.int (0 : Int32)), (.ref a2)])) rfl (hM rfl) (argsL := [(.ref a2), (.int (0 : Int32)), (.int (2 : Int32))]) (rest := []) (lenOf pd7 rfl) rfl (Nat.le_of_eq rfl) (B d13_36) (fun _ _ => ⟨rfl, e6, wl rfl, wl rfl⟩)
  dsimp only [Pt.U, Pt.locs, Pt.cells, Pt.slots] at X10 l10 y10 z10 st10 hQ10
  subst l10 y10 z10
  obtain ⟨bv, kb10, rfl, N10q, K10, hsz10, VB10, EB10⟩ := hQ10
  have N10 := Fr.app N0 N10q
  have pre11 : Go p e bl T10 (mkF m 39 #[rv a1, rv a2, iv (0 : Int32), iv (2 : Int32), .val .null, .unset] [(.ref bv)]) s1 EF := fun t k => pre9 t (st10 t k)
  have O12 : Old Z n0 T10.heap := O0.keep K10 all0
  have Z12 : n0 ≤ T10.heap.size := Nat.le_trans Z0 K10.1
  have K12 : Keep h0 T10.heap [a1] := (Keep.refl h0 [a1]).trans K10 all0
  have g_bv : n0 ≤ bv := Nat.le_trans Z0 hsz10
  have sz_bv : h0.size ≤ bv := Nat.le_trans (Keep.refl h0 [a1]).1 hsz10
  have ne_a1_bv : a1 ≠ bv := Nat.ne_of_lt (Nat.lt_of_lt_of_le E1.lt hsz10)
  have pre13 : Go p e bl T10 (mkF m 45 #[rv a1, rv a2, iv (0 : Int32), iv (2 : Int32), .val .null, rv bv] [(.int (2 : Int32)), (.ref bv), (.ref a1)]) s1 EF := fun t k => pre11 t (by
   refine XS.astore X10.here hx rfl (B d13_39) rfl rfl (l' := #[rv a1, rv a2, iv (0 : Int32), iv (2 : Int32), .val .null, rv bv]) rfl ?_
   refine XS.aloadN X10.here hx rfl (B d13_41) rfl rfl ?_
   refine XS.aload X10.here hx rfl (B d13_42) rfl rfl ?_
   exact XS.iloadN X10.here hx rfl (B d13_44) rfl k)
  obtain ⟨_, _, ⟨T14, L14, k14, n14⟩, -, X14, ⟨Lc14, hQ14, l14, y14, z14⟩, st14⟩ := Jvm.LawKit.callS X10 hx (y := mN12) hown (mvT hZ (hw _ (mW 31 rfl))) (mvT hZ (hw _ (mW 32 rfl))) (mvT hZ (hw _ (mW 25 rfl))) (mvT hZ (hw _ (mW 33 rfl))) (by decide) (backOf (W := 1) (rmKc2_0 l Z a0 hw [] bv cz fv kb10 _ T10.heap n0 Z12 O12 J0 VB10) hZ (hw _ (mW 33 rfl)) (hw _ (mW 25 rfl)) (by decide) (by decide)) (g := (mkF m 45 #[rv a1, rv a2, iv (0 : Int32), iv (2 : Int32), .val .null, rv bv] [(.int (2 : Int32)), (.ref bv), (.ref a1)])) rfl (hM rfl) (argsL := [(.ref bv), (.int (2 : Int32))]) (rest := [(.ref a1)]) (lenOf pd8 rfl) rfl (Nat.le_of_eq rfl) (B d13_45) (fun _ _ => ⟨rfl, rfl, wl rfl, wl rfl⟩)
  dsimp only [Pt.U, Pt.locs, Pt.cells, Pt.slots] at X14 l14 y14 z14 st14 hQ14
  subst l14 y14 z14
  obtain ⟨rfl, N14q, hq14⟩ := hQ14
  have N14 := Fr.app N10 N14q
  have pre15 : Go p e bl T14 (mkF m 48 #[rv a1, rv a2, iv (0 : Int32), iv (2 : Int32), .val .null, rv bv] [(.int (0 : Int32)), (.ref a1)]) s1 EF := fun t k => pre13 t (st14 t k)
  have e14 : T14.heap = T10.heap := hq14
  obtain ⟨T16, h16, X16, e16, W16, st16⟩ := putFN X14 hx hZ hown (hw _ (mW 34 rfl)) Via.refl e14 (F2.keep K10 nin0) (E1.keep K10) (Or.inr ⟨(hw _ (mW 35 rfl)), rfl, hnm⟩) (hw _ (mW 9 rfl)) (ty := .byte) (v' := (.int (0 : Int32))) (by decide) rfl rfl (g := (mkF m 48 #[rv a1, rv a2, iv (0 : Int32), iv (2 : Int32), .val .null, rv bv] [(.int (0 : Int32)), (.ref a1)])) rfl rfl (B d13_48)
  have pre17 : Go p e bl T16 (mkF m 51 #[rv a1, rv a2, iv (0 : Int32), iv (2 : Int32), .val .null, rv bv] []) s1 EF := fun t k => pre15 t (st16 t k)
  have O18 : Old Z n0 h16 := O12.wr W16 g_a1
  have Z18 : n0 ≤ h16.size := Nat.le_trans Z12 (Keep.of_wr W16).1
  have K18 : Keep h0 h16 [a1] := K12.wr W16 (Or.inl (List.mem_of_getElem? (i := 0) rfl))
  have Fw16 := Fld.same W16 (F2.keep K10 nin0)
  have N16 := Fr.snoc X16 N14 g_a1
  have pre19 : Go p e bl T16 (mkF m 54 #[rv a1, rv a2, iv (0 : Int32), iv (2 : Int32), .val .null, rv bv] [(.ref bv), (.ref a1)]) s1 EF := fun t k => pre17 t (by
   refine XS.aloadN X16.here hx rfl (B d13_51) rfl rfl ?_
   exact XS.aload X16.here hx rfl (B d13_52) rfl rfl k)
  obtain ⟨T20, h20, X20, e20, W20, st20⟩ := putF X16 hx hZ hown (host := "") (Or.inl (hw _ (mW 36 rfl))) Via.refl e16 (Fld.other W16 (F1.keep K10 nin0) (Or.inr (slot_ne (Or.inr (hw _ (mW 37 rfl))) (Or.inr (hw _ (mW 35 rfl))) (by decide) (t := (.array .byte)) (t' := .byte) (by decide) (by decide)))) ((E1.keep K10).wr W16) (Or.inr ⟨(hw _ (mW 37 rfl)), rfl, hnm⟩) (hw _ (mW 9 rfl)) (ty := (.array .byte)) (by decide) rfl rfl (g := (mkF m 54 #[rv a1, rv a2, iv (0 : Int32), iv (2 : Int32), .val .null, rv bv] [(.ref bv), (.ref a1)])) rfl rfl (B d13_54)
  have pre21 : Go p e bl T20 (mkF m 57 #[rv a1, rv a2, iv (0 : Int32), iv (2 : Int32), .val .null, rv bv] []) s1 EF := fun t k => pre19 t (st20 t k)
  have O22 : Old Z n0 h20 := O18.wr W20 g_a1
  have Z22 : n0 ≤ h20.size := Nat.le_trans Z18 (Keep.of_wr W20).1
  have K22 : Keep h0 h20 [a1] := K18.wr W20 (Or.inl (List.mem_of_getElem? (i := 0) rfl))
  have Fw20 := Fld.same W20 (Fld.other W16 (F1.keep K10 nin0) (Or.inr (slot_ne (Or.inr (hw _ (mW 37 rfl))) (Or.inr (hw _ (mW 35 rfl))) (by decide) (t := (.array .byte)) (t' := .byte) (by decide) (by decide))))
  have N20 := Fr.snoc X20 N16 g_a1
  exact fin1 X20 (v := none) (fun _ => rfl) hlk (wl rfl) (wl rfl) (by rw [e20]; exact ⟨rfl, N20, K22, _, _, sz_bv, ⟨(((E1.keep K10).wr W16).wr W20), (Fld.other W20 Fw16 (Or.inr (slot_ne (Or.inr (hw _ (mW 35 rfl))) (Or.inr (hw _ (mW 37 rfl))) (by decide) (t := .byte) (t' := (.array .byte)) (by decide) (by decide)))), Fw20, ((VB10.other W16 (Ne.symm ne_a1_bv)).other W20 (Ne.symm ne_a1_bv)), ((EB10.wr W16).wr W20), ne_a1_bv, (Fld.other W20 (Fld.other W16 (F3.keep K10 nin0) (Or.inr (slot_ne (Or.inl (hw _ (mW 129 rfl))) (Or.inr (hw _ (mW 35 rfl))) (by decide) (t := .int) (t' := .byte) (by decide) (by decide)))) (Or.inr (slot_ne (Or.inl (hw _ (mW 129 rfl))) (Or.inr (hw _ (mW 37 rfl))) (by decide) (t := .int) (t' := (.array .byte)) (by decide) (by decide)))), (Fld.other W20 (Fld.other W16 (F4.keep K10 nin0) (Or.inr (slot_ne (Or.inl (hw _ (mW 131 rfl))) (Or.inr (hw _ (mW 35 rfl))) (by decide) (t := .boolean) (t' := .byte) (by decide) (by decide)))) (Or.inr (slot_ne (Or.inl (hw _ (mW 131 rfl))) (Or.inr (hw _ (mW 37 rfl))) (by decide) (t := .boolean) (t' := (.array .byte)) (by decide) (by decide))))⟩⟩) (fun fs hr => hEF ▸ pre21 _ (X20.returnOut hx Bd.returns (B d13_57) hr))
abbrev rKKj2 : Room := { frames := 3, cells := 1, slots := 2, locals := 52 }
theorem efKj2 (m : MethodId) (a1 : Addr) (a2 : Addr) : entryFrame m #[(.ref a1), (.ref a2)] 2 = mkF m 0 #[rv a1, rv a2] [] := by first | (simp [entryFrame, mkF, argsToLocals, Value.category]; done) | rfl
def QKj2 (Z : State) (a1 : Addr) (a2 : Addr) (cz : Int32) (fv : Value) (k1 : ClassId) (c0 : Int32) (c1 : Int32) (h0 : Heap) (n0 : Nat) (v : Option Value) (h : Heap) (L : List Loc) : Prop := v = none ∧ Fr n0 L ∧ Keep h0 h [a1] ∧ ∃ b k, h0.size ≤ b ∧ StL Z h a1 b k (2 : Int32) [c0.toInt8.toInt32, c1.toInt8.toInt32] 0 0
set_option maxRecDepth 65536 in
set_option maxHeartbeats 40000000 in
theorem rmKj2 (l : Launch) (Z : State) (a0 : Array Value) (hw : HW a0 Z) (ws : List Jvm.Cond) (a1 : Addr) (a2 : Addr) (cz : Int32) (fv : Value) (k1 : ClassId) (c0 : Int32) (c1 : Int32) (h0 : Heap) (n0 : Nat) (Z0 : n0 ≤ h0.size) (O0 : Old Z n0 h0) (J0 : Jd Z cz fv) (E1 : Exa Z h0 a1 "java/lang/String") (g_a1 : n0 ≤ a1) (F1 : Fld Z h0 a1 "java/lang/String" "value" "[B" .null) (F2 : Fld Z h0 a1 "java/lang/String" "coder" "B" (.int (0 : Int32))) (F3 : Fld Z h0 a1 "java/lang/String" "hash" "I" (.int (0 : Int32))) (F4 : Fld Z h0 a1 "java/lang/String" "hashIsZero" "Z" (.int (0 : Int32))) (V2 : Arv Z h0 a2 k1 .char (2 : Int32) [(.int c0), (.int c1)] (.int (0 : Int32))) (hle : (∀ c ∈ [c0, c1], ¬ (255 : Int32) < c)) :
    MF l Z mN14 jdk_42_method_3_code 2 none ws rKKj2 #[(.ref a1), (.ref a2)] h0 (QKj2 Z a1 a2 cz fv k1 c0 c1 h0 n0) := by
  refine MetFree.of_bodySF (plainFor_of_name pn0) hisR ?_
  intro p e s m args bl meth c s1 Bd hml0 hP hK
  obtain ⟨rfl, hZ, hh⟩ := hP
  have hx := Bd.exec
  have hby := Bd.bytes
  have B := @hb c _ hby
  have hM := fun {n : Nat} (h : n = 2) => h.trans hml0.symm
  have hown : s.vm.findClass "java/lang/String" = some m.cls := findClass_of_methodNamed Bd.named
  have hlk : meth.locks = false := BodyLoose.notSynchronized Bd
  have X0 : Stand p l e rKKj2 s m #[(.ref a1), (.ref a2)] bl meth c s1 [] 0 0 := Stand.of_body Bd
  have e0 : s1.heap = h0 := by rw [← hh, Bd.state]; rfl
  have N0 := Fr.nil n0
  obtain ⟨EF, hEF⟩ : ∃ f, f = entryFrame m #[(.ref a1), (.ref a2)] 2 := ⟨_, rfl⟩
  have pre0 : Go p e bl s1 (mkF m 0 #[rv a1, rv a2] []) s1 EF := fun t k => by rw [hEF]; exact castTop (efKj2 m a1 a2) k
  have pre1 : Go p e bl s1 (mkF m 4 #[rv a1, rv a2] [(.ref a2), (.int (0 : Int32)), (.ref a2), (.ref a1)]) s1 EF := fun t k => pre0 t (by
   refine XS.aloadN X0.here hx rfl (B d14_0) rfl rfl ?_
   refine XS.aloadN X0.here hx rfl (B d14_1) rfl rfl ?_
   refine XS.iconst X0.here hx rfl (B d14_2) ?_
   exact XS.aloadN X0.here hx rfl (B d14_3) rfl rfl k)
  obtain ⟨cl2, Ar2, q2, Sz2, M2, H2, G2⟩ := id V2
  have pre3 : Go p e bl s1 (mkF m 6 #[rv a1, rv a2] [.null, (.int (2 : Int32)), (.int (0 : Int32)), (.ref a2), (.ref a1)]) s1 EF := fun t k => pre1 t (by
   refine X0.arraylength hx (by rw [e0]; exact Ar2.1) (State.isArrayOf_alike hZ.alike Ar2.2.1) (g := (mkF m 4 #[rv a1, rv a2] [(.ref a2), (.int (0 : Int32)), (.ref a2), (.ref a1)])) rfl rfl (B d14_4) _ ?_
   rw [len_of Sz2 M2]
   exact XS.aconstNull X0.here hx rfl (B d14_5) k)
  obtain ⟨_, _, ⟨T4, L4, k4, n4⟩, -, X4, ⟨Lc4, hQ4, l4, y4, z4⟩, st4⟩ := X0.specialBack hx (y := mN13) rfl hown (mvT hZ (hw _ (mW 15 rfl))) (mvT hZ (hw _ (mW 16 rfl))) (mvT hZ (hw _ (mW 18 rfl))) (by decide) (backOf (W := 0) (rmKi2 l Z a0 hw [] a1 a2 cz fv k1 c0 c1 h0 n0 Z0 O0 J0 E1 g_a1 F1 F2 F3 F4 V2 hle) hZ (hw _ (mW 18 rfl)) (hw _ (mW 10 rfl)) (by decide) (by decide)) (g := (mkF m 6 #[rv a1, rv a2] [.null, (.int (2 : Int32)), (.int (0 : Int32)), (.ref a2), (.ref a1)])) rfl (hM rfl) (Steps.refl _) (a := a1) (argsL := [(.ref a2), (.int (0 : Int32)), (.int (2 : Int32)), .null]) (rest := []) (lenOf pd9 rfl) rfl (Nat.le_of_eq rfl) (B d14_6) (fun _ _ => ⟨rfl, e0, wl rfl, wl rfl⟩)
  dsimp only [Pt.U, Pt.locs, Pt.cells, Pt.slots] at X4 l4 y4 z4 st4 hQ4
  subst l4 y4 z4
  obtain ⟨rfl, N4q, K4, bv4, kb4, hsz4, SF4⟩ := hQ4
  have N4 := Fr.app N0 N4q
  have pre5 : Go p e bl T4 (mkF m 9 #[rv a1, rv a2] []) s1 EF := fun t k => pre3 t (st4.trans k)
  have O6 : Old Z n0 T4.heap := O0.keep K4 (allS g_a1 all0)
  have Z6 : n0 ≤ T4.heap.size := Nat.le_trans Z0 K4.1
  have K6 : Keep h0 T4.heap [a1] := (Keep.refl h0 [a1]).trans K4 (allS (Or.inl (List.mem_of_getElem? (i := 0) rfl)) all0)
  exact fin1 X4 (v := none) (fun _ => rfl) hlk (wl rfl) (wl rfl) (by exact ⟨rfl, N4, K6, _, _, hsz4, SF4⟩) (fun fs hr => hEF ▸ pre5 _ (X4.returnOut hx Bd.returns (B d14_9) hr))
abbrev rKKa3 : Room := { frames := 0, cells := 0, slots := 0, locals := 0 }
theorem efKa3 (m : MethodId) (a1 : Addr) (a2 : Addr) : entryFrame m #[(.ref a1), (.int (0 : Int32)), (.ref a2), (.int (0 : Int32)), (.int (3 : Int32))] 7 = mkF m 0 #[rv a1, iv (0 : Int32), rv a2, iv (0 : Int32), iv (3 : Int32), .unset, .unset] [] := by first | (simp [entryFrame, mkF, argsToLocals, Value.category]; done) | rfl
def QKa3 (Z : State) (a1 : Addr) (a2 : Addr) (cz : Int32) (fv : Value) (k1 : ClassId) (k2 : ClassId) (c0 : Int32) (c1 : Int32) (c2 : Int32) (h0 : Heap) (n0 : Nat) (v : Option Value) (h : Heap) (L : List Loc) : Prop := v = some (.int (3 : Int32)) ∧ Fr n0 L ∧ Keep h0 h [a2] ∧ Arv Z h a2 k2 .byte (3 : Int32) [(.int (c0.toInt8.toInt32)), (.int (c1.toInt8.toInt32)), (.int (c2.toInt8.toInt32))] (.int (0 : Int32))
set_option maxRecDepth 65536 in
set_option maxHeartbeats 40000000 in
theorem rmKa3 (l : Launch) (Z : State) (a0 : Array Value) (hw : HW a0 Z) (ws : List Jvm.Cond) (a1 : Addr) (a2 : Addr) (cz : Int32) (fv : Value) (k1 : ClassId) (k2 : ClassId) (c0 : Int32) (c1 : Int32) (c2 : Int32) (h0 : Heap) (n0 : Nat) (Z0 : n0 ≤ h0.size) (O0 : Old Z n0 h0) (J0 : Jd Z cz fv) (V1 : Arv Z h0 a1 k1 .char (3 : Int32) [(.int c0), (.int c1), (.int c2)] (.int (0 : Int32))) (V2 : Arv Z h0 a2 k2 .byte (3 : Int32) [(.int (0 : Int32)), (.int (0 : Int32)), (.int (0 : Int32))] (.int (0 : Int32))) (ne12 : a1 ≠ a2) (g_a2 : n0 ≤ a2) (hle : (∀ c ∈ [c0, c1, c2], ¬ (255 : Int32) < c)) :
    MF l Z mN10 jdk_52_method_21_code 7 (some .int) ws rKKa3 #[(.ref a1), (.int (0 : Int32)), (.ref a2), (.int (0 : Int32)), (.int (3 : Int32))] h0 (QKa3 Z a1 a2 cz fv k1 k2 c0 c1 c2 h0 n0) := by
  refine MetFree.of_bodySF (plainFor_of_name pn3) hisR ?_
  intro p e s m args bl meth c s1 Bd hml0 hP hK
  obtain ⟨rfl, hZ, hh⟩ := hP
  have hx := Bd.exec
  have hby := Bd.bytes
  have B := @hb c _ hby
  have hown : s.vm.findClass "java/lang/StringUTF16" = some m.cls := findClass_of_methodNamed Bd.named
  have hlk : meth.locks = false := BodyLoose.notSynchronized Bd
  have hrt : ∀ {v : Option Value}, meth.sig.returnType = none → v = none := fun h => by rw [Bd.returns] at h; cases h
  have X0 : Stand p l e rKKa3 s m #[(.ref a1), (.int (0 : Int32)), (.ref a2), (.int (0 : Int32)), (.int (3 : Int32))] bl meth c s1 [] 0 0 := Stand.of_body Bd
  have e0 : s1.heap = h0 := by rw [← hh, Bd.state]; rfl
  have N0 := Fr.nil n0
  obtain ⟨EF, hEF⟩ : ∃ f, f = entryFrame m #[(.ref a1), (.int (0 : Int32)), (.ref a2), (.int (0 : Int32)), (.int (3 : Int32))] 7 := ⟨_, rfl⟩
  have pre0 : Go p e bl s1 (mkF m 0 #[rv a1, iv (0 : Int32), rv a2, iv (0 : Int32), iv (3 : Int32), .unset, .unset] []) s1 EF := fun t k => by rw [hEF]; exact castTop (efKa3 m a1 a2) k
  have pre1 : Go p e bl s1 (mkF m 7 #[rv a1, iv (0 : Int32), rv a2, iv (0 : Int32), iv (3 : Int32), iv (0 : Int32), .unset] [(.int (3 : Int32)), (.int (0 : Int32))]) s1 EF := fun t k => pre0 t (by
   refine XS.iconst X0.here hx rfl (B d10_0) ?_
   refine XS.istore X0.here hx rfl (B d10_1) rfl (l' := #[rv a1, iv (0 : Int32), rv a2, iv (0 : Int32), iv (3 : Int32), iv (0 : Int32), .unset]) rfl ?_
   refine XS.iload X0.here hx rfl (B d10_3) rfl ?_
   exact XS.iload X0.here hx rfl (B d10_5) rfl k)
  have pre2 : Go p e bl s1 (mkF m 10 #[rv a1, iv (0 : Int32), rv a2, iv (0 : Int32), iv (3 : Int32), iv (0 : Int32), .unset] []) s1 EF := fun t k => pre1 t (XS.icmpNo X0.here hx rfl (B d10_7) rfl (tlt (by decide : (0 : Int32) < (3 : Int32))).2.1 k)
  have pre3 : Go p e bl s1 (mkF m 12 #[rv a1, iv (0 : Int32), rv a2, iv (0 : Int32), iv (3 : Int32), iv (0 : Int32), .unset] [(.int (0 : Int32)), (.ref a1)]) s1 EF := fun t k => pre2 t (by
   refine XS.aloadN X0.here hx rfl (B d10_10) rfl rfl ?_
   exact XS.iloadN X0.here hx rfl (B d10_11) rfl k)
  obtain ⟨cl4, Ar4, q4, Sz4, M4, H4, G4⟩ := id V1
  have hin4 : ¬ ((0 : Int32) < 0 ∨ cl4.slots.size ≤ ((0 : Int32)).toNatClampNeg) := inb_of Sz4 ⟨by decide, by decide⟩
  have hat4 : cl4.slots[((0 : Int32)).toNatClampNeg]? = some (.int c0) := Has.at H4 hin4 rfl
  have pre5 : Go p e bl s1 (mkF m 20 #[rv a1, iv (0 : Int32), rv a2, iv (0 : Int32), iv (3 : Int32), iv (0 : Int32), iv c0] [(.int (255 : Int32)), (.int c0)]) s1 EF := fun t k => pre3 t (by
   refine X0.caload hx (j := (0 : Int32)) (v := (.int c0)) (by rw [e0]; exact Ar4.1) (State.isArrayOf_alike hZ.alike Ar4.2.1) Ar4.2.2 hin4 hat4 (g := (mkF m 12 #[rv a1, iv (0 : Int32), rv a2, iv (0 : Int32), iv (3 : Int32), iv (0 : Int32), .unset] [(.int (0 : Int32)), (.ref a1)])) rfl rfl (B d10_12) _ ?_
   refine XS.istore X0.here hx rfl (B d10_13) rfl (l' := #[rv a1, iv (0 : Int32), rv a2, iv (0 : Int32), iv (3 : Int32), iv (0 : Int32), iv c0]) rfl ?_
   refine XS.iload X0.here hx rfl (B d10_15) rfl ?_
   exact XS.sipush X0.here hx rfl (B d10_17) k)
  have pre6 : Go p e bl s1 (mkF m 26 #[rv a1, iv (0 : Int32), rv a2, iv (0 : Int32), iv (3 : Int32), iv (0 : Int32), iv c0] []) s1 EF := fun t k => pre5 t (XS.icmpYes X0.here hx rfl (pc0 := 20) (pc' := 26) rfl (B d10_20) rfl (flt (hle c0 (List.mem_of_getElem? (i := 0) rfl))).2.2.2 (by decide) (by decide) k)
  have pre7 : Go p e bl s1 (mkF m 31 #[rv a1, iv (0 : Int32), rv a2, iv (0 : Int32), iv (3 : Int32), iv (0 : Int32), iv c0] [(.int (c0.toInt8.toInt32)), (.int (0 : Int32)), (.ref a2)]) s1 EF := fun t k => pre6 t (by
   refine XS.aloadN X0.here hx rfl (B d10_26) rfl rfl ?_
   refine XS.iloadN X0.here hx rfl (B d10_27) rfl ?_
   refine XS.iload X0.here hx rfl (B d10_28) rfl ?_
   exact XS.i2b X0.here hx rfl (B d10_30) rfl k)
  obtain ⟨cl8, Ar8, q8, Sz8, M8, H8, G8⟩ := id V2
  have hin8 : ¬ ((0 : Int32) < 0 ∨ cl8.slots.size ≤ ((0 : Int32)).toNatClampNeg) := inb_of Sz8 ⟨by decide, by decide⟩
  obtain ⟨T8, h8, X8, e8, W8, st8⟩ := stB X0 hx hZ e0 Ar8 (j := (0 : Int32)) hin8 (g := (mkF m 31 #[rv a1, iv (0 : Int32), rv a2, iv (0 : Int32), iv (3 : Int32), iv (0 : Int32), iv c0] [(.int (c0.toInt8.toInt32)), (.int (0 : Int32)), (.ref a2)])) rfl rfl (B d10_31)
  rw [own_i2b2] at W8
  have pre9 : Go p e bl T8 (mkF m 32 #[rv a1, iv (0 : Int32), rv a2, iv (0 : Int32), iv (3 : Int32), iv (0 : Int32), iv c0] []) s1 EF := fun t k => pre7 t (st8 t k)
  have O10 : Old Z n0 h8 := O0.wr W8 g_a2
  have Z10 : n0 ≤ h8.size := Nat.le_trans Z0 (Keep.of_wr W8).1
  have K10 : Keep h0 h8 [a2] := (Keep.refl h0 [a2]).wr W8 (Or.inl (List.mem_of_getElem? (i := 0) rfl))
  have V8 : Arv Z h8 a2 k2 .byte (3 : Int32) [(.int (c0.toInt8.toInt32)), (.int (0 : Int32)), (.int (0 : Int32))] (.int (0 : Int32)) := Arv.set Ar8 q8 Sz8 M8 H8 G8 (fits_nar_byte _) W8 0 rfl (Nat.le_of_ble_eq_true rfl)
  have N8 := Fr.snoc X8 N0 g_a2
  have pre11 : Go p e bl T8 (mkF m 7 #[rv a1, iv (1 : Int32), rv a2, iv (1 : Int32), iv (3 : Int32), iv (1 : Int32), iv c0] [(.int (3 : Int32)), (.int (1 : Int32))]) s1 EF := fun t k => pre9 t (by
   refine XS.iinc X8.here hx rfl (B d10_32) rfl (l' := #[rv a1, iv (1 : Int32), rv a2, iv (0 : Int32), iv (3 : Int32), iv (0 : Int32), iv c0]) rfl ?_
   refine XS.iinc X8.here hx rfl (B d10_35) rfl (l' := #[rv a1, iv (1 : Int32), rv a2, iv (1 : Int32), iv (3 : Int32), iv (0 : Int32), iv c0]) rfl ?_
   refine XS.iinc X8.here hx rfl (B d10_38) rfl (l' := #[rv a1, iv (1 : Int32), rv a2, iv (1 : Int32), iv (3 : Int32), iv (1 : Int32), iv c0]) rfl ?_
   refine XS.goto X8.here hx rfl (pc0 := 41) (pc' := 3) rfl (B d10_41) (by decide) (by decide) ?_
   refine XS.iload X8.here hx rfl (B d10_3) rfl ?_
   exact XS.iload X8.here hx rfl (B d10_5) rfl k)
  have pre12 : Go p e bl T8 (mkF m 10 #[rv a1, iv (1 : Int32), rv a2, iv (1 : Int32), iv (3 : Int32), iv (1 : Int32), iv c0] []) s1 EF := fun t k => pre11 t (XS.icmpNo X8.here hx rfl (B d10_7) rfl (tlt (by decide : (1 : Int32) < (3 : Int32))).2.1 k)
  have pre13 : Go p e bl T8 (mkF m 12 #[rv a1, iv (1 : Int32), rv a2, iv (1 : Int32), iv (3 : Int32), iv (1 : Int32), iv c0] [(.int (1 : Int32)), (.ref a1)]) s1 EF := fun t k => pre12 t (by
   refine XS.aloadN X8.here hx rfl (B d10_10) rfl rfl ?_
   exact XS.iloadN X8.here hx rfl (B d10_11) rfl k)
  obtain ⟨cl14, Ar14, q14, Sz14, M14, H14, G14⟩ := id (V1.other W8 ne12)
  have hin14 : ¬ ((1 : Int32) < 0 ∨ cl14.slots.size ≤ ((1 : Int32)).toNatClampNeg) := inb_of Sz14 ⟨by decide, by decide⟩
  have hat14 : cl14.slots[((1 : Int32)).toNatClampNeg]? = some (.int c1) := Has.at H14 hin14 rfl
  have pre15 : Go p e bl T8 (mkF m 20 #[rv a1, iv (1 : Int32), rv a2, iv (1 : Int32), iv (3 : Int32), iv (1 : Int32), iv c1] [(.int (255 : Int32)), (.int c1)]) s1 EF := fun t k => pre13 t (by
   refine X8.caload hx (j := (1 : Int32)) (v := (.int c1)) (by rw [e8]; exact Ar14.1) (State.isArrayOf_alike hZ.alike Ar14.2.1) Ar14.2.2 hin14 hat14 (g := (mkF m 12 #[rv a1, iv (1 : Int32), rv a2, iv (1 : Int32), iv (3 : Int32), iv (1 : Int32), iv c0] [(.int (1 : Int32)), (.ref a1)])) rfl rfl (B d10_12) _ ?_
   refine XS.istore X8.here hx rfl (B d10_13) rfl (l' := #[rv a1, iv (1 : Int32), rv a2, iv (1 : Int32), iv (3 : Int32), iv (1 : Int32), iv c1]) rfl ?_
   refine XS.iload X8.here hx rfl (B d10_15) rfl ?_
   exact XS.sipush X8.here hx rfl (B d10_17) k)
  have pre16 : Go p e bl T8 (mkF m 26 #[rv a1, iv (1 : Int32), rv a2, iv (1 : Int32), iv (3 : Int32), iv (1 : Int32), iv c1] []) s1 EF := fun t k => pre15 t (XS.icmpYes X8.here hx rfl (pc0 := 20) (pc' := 26) rfl (B d10_20) rfl (flt (hle c1 (List.mem_of_getElem? (i := 1) rfl))).2.2.2 (by decide) (by decide) k)
  have pre17 : Go p e bl T8 (mkF m 31 #[rv a1, iv (1 : Int32), rv a2, iv (1 : Int32), iv (3 : Int32), iv (1 : Int32), iv c1] [(.int (c1.toInt8.toInt32)), (.int (1 : Int32)), (.ref a2)]) s1 EF := fun t k => pre16 t (by
   refine XS.aloadN X8.here hx rfl (B d10_26) rfl rfl ?_
   refine XS.iloadN X8.here hx rfl (B d10_27) rfl ?_
   refine XS.iload X8.here hx rfl (B d10_28) rfl ?_
   exact XS.i2b X8.here hx rfl (B d10_30) rfl k)
  obtain ⟨cl18, Ar18, q18, Sz18, M18, H18, G18⟩ := id V8
  have hin18 : ¬ ((1 : Int32) < 0 ∨ cl18.slots.size ≤ ((1 : Int32)).toNatClampNeg) := inb_of Sz18 ⟨by decide, by decide⟩
  obtain ⟨T18, h18, X18, e18, W18, st18⟩ := stB X8 hx hZ e8 Ar18 (j := (1 : Int32)) hin18 (g := (mkF m 31 #[rv a1, iv (1 : Int32), rv a2, iv (1 : Int32), iv (3 : Int32), iv (1 : Int32), iv c1] [(.int (c1.toInt8.toInt32)), (.int (1 : Int32)), (.ref a2)])) rfl rfl (B d10_31)
  rw [own_i2b2] at W18
  have pre19 : Go p e bl T18 (mkF m 32 #[rv a1, iv (1 : Int32), rv a2, iv (1 : Int32), iv (3 : Int32), iv (1 : Int32), iv c1] []) s1 EF := fun t k => pre17 t (st18 t k)
  have O20 : Old Z n0 h18 := O10.wr W18 g_a2
  have Z20 : n0 ≤ h18.size := Nat.le_trans Z10 (Keep.of_wr W18).1
  have K20 : Keep h0 h18 [a2] := K10.wr W18 (Or.inl (List.mem_of_getElem? (i := 0) rfl))
  have V18 : Arv Z h18 a2 k2 .byte (3 : Int32) [(.int (c0.toInt8.toInt32)), (.int (c1.toInt8.toInt32)), (.int (0 : Int32))] (.int (0 : Int32)) := Arv.set Ar18 q18 Sz18 M18 H18 G18 (fits_nar_byte _) W18 1 rfl (Nat.le_of_ble_eq_true rfl)
  have N18 := Fr.snoc X18 N8 g_a2
  have pre21 : Go p e bl T18 (mkF m 7 #[rv a1, iv (2 : Int32), rv a2, iv (2 : Int32), iv (3 : Int32), iv (2 : Int32), iv c1] [(.int (3 : Int32)), (.int (2 : Int32))]) s1 EF := fun t k => pre19 t (by
   refine XS.iinc X18.here hx rfl (B d10_32) rfl (l' := #[rv a1, iv (2 : Int32), rv a2, iv (1 : Int32), iv (3 : Int32), iv (1 : Int32), iv c1]) rfl ?_
   refine XS.iinc X18.here hx rfl (B d10_35) rfl (l' := #[rv a1, iv (2 : Int32), rv a2, iv (2 : Int32), iv (3 : Int32), iv (1 : Int32), iv c1]) rfl ?_
   refine XS.iinc X18.here hx rfl (B d10_38) rfl (l' := #[rv a1, iv (2 : Int32), rv a2, iv (2 : Int32), iv (3 : Int32), iv (2 : Int32), iv c1]) rfl ?_
   refine XS.goto X18.here hx rfl (pc0 := 41) (pc' := 3) rfl (B d10_41) (by decide) (by decide) ?_
   refine XS.iload X18.here hx rfl (B d10_3) rfl ?_
   exact XS.iload X18.here hx rfl (B d10_5) rfl k)
  have pre22 : Go p e bl T18 (mkF m 10 #[rv a1, iv (2 : Int32), rv a2, iv (2 : Int32), iv (3 : Int32), iv (2 : Int32), iv c1] []) s1 EF := fun t k => pre21 t (XS.icmpNo X18.here hx rfl (B d10_7) rfl (tlt (by decide : (2 : Int32) < (3 : Int32))).2.1 k)
  have pre23 : Go p e bl T18 (mkF m 12 #[rv a1, iv (2 : Int32), rv a2, iv (2 : Int32), iv (3 : Int32), iv (2 : Int32), iv c1] [(.int (2 : Int32)), (.ref a1)]) s1 EF := fun t k => pre22 t (by
   refine XS.aloadN X18.here hx rfl (B d10_10) rfl rfl ?_
   exact XS.iloadN X18.here hx rfl (B d10_11) rfl k)
  obtain ⟨cl24, Ar24, q24, Sz24, M24, H24, G24⟩ := id ((V1.other W8 ne12).other W18 ne12)
  have hin24 : ¬ ((2 : Int32) < 0 ∨ cl24.slots.size ≤ ((2 : Int32)).toNatClampNeg) := inb_of Sz24 ⟨by decide, by decide⟩
  have hat24 : cl24.slots[((2 : Int32)).toNatClampNeg]? = some (.int c2) := Has.at H24 hin24 rfl
  have pre25 : Go p e bl T18 (mkF m 20 #[rv a1, iv (2 : Int32), rv a2, iv (2 : Int32), iv (3 : Int32), iv (2 : Int32), iv c2] [(.int (255 : Int32)), (.int c2)]) s1 EF := fun t k => pre23 t (by
   refine X18.caload hx (j := (2 : Int32)) (v := (.int c2)) (by rw [e18]; exact Ar24.1) (State.isArrayOf_alike hZ.alike Ar24.2.1) Ar24.2.2 hin24 hat24 (g := (mkF m 12 #[rv a1, iv (2 : Int32), rv a2, iv (2 : Int32), iv (3 : Int32), iv (2 : Int32), iv c1] [(.int (2 : Int32)), (.ref a1)])) rfl rfl (B d10_12) _ ?_
   refine XS.istore X18.here hx rfl (B d10_13) rfl (l' := #[rv a1, iv (2 : Int32), rv a2, iv (2 : Int32), iv (3 : Int32), iv (2 : Int32), iv c2]) rfl ?_
   refine XS.iload X18.here hx rfl (B d10_15) rfl ?_
   exact XS.sipush X18.here hx rfl (B d10_17) k)
  have pre26 : Go p e bl T18 (mkF m 26 #[rv a1, iv (2 : Int32), rv a2, iv (2 : Int32), iv (3 : Int32), iv (2 : Int32), iv c2] []) s1 EF := fun t k => pre25 t (XS.icmpYes X18.here hx rfl (pc0 := 20) (pc' := 26) rfl (B d10_20) rfl (flt (hle c2 (List.mem_of_getElem? (i := 2) rfl))).2.2.2 (by decide) (by decide) k)
  have pre27 : Go p e bl T18 (mkF m 31 #[rv a1, iv (2 : Int32), rv a2, iv (2 : Int32), iv (3 : Int32), iv (2 : Int32), iv c2] [(.int (c2.toInt8.toInt32)), (.int (2 : Int32)), (.ref a2)]) s1 EF := fun t k => pre26 t (by
   refine XS.aloadN X18.here hx rfl (B d10_26) rfl rfl ?_
   refine XS.iloadN X18.here hx rfl (B d10_27) rfl ?_
   refine XS.iload X18.here hx rfl (B d10_28) rfl ?_
   exact XS.i2b X18.here hx rfl (B d10_30) rfl k)
  obtain ⟨cl28, Ar28, q28, Sz28, M28, H28, G28⟩ := id V18
  have hin28 : ¬ ((2 : Int32) < 0 ∨ cl28.slots.size ≤ ((2 : Int32)).toNatClampNeg) := inb_of Sz28 ⟨by decide, by decide⟩
  obtain ⟨T28, h28, X28, e28, W28, st28⟩ := stB X18 hx hZ e18 Ar28 (j := (2 : Int32)) hin28 (g := (mkF m 31 #[rv a1, iv (2 : Int32), rv a2, iv (2 : Int32), iv (3 : Int32), iv (2 : Int32), iv c2] [(.int (c2.toInt8.toInt32)), (.int (2 : Int32)), (.ref a2)])) rfl rfl (B d10_31)
  rw [own_i2b2] at W28
  have pre29 : Go p e bl T28 (mkF m 32 #[rv a1, iv (2 : Int32), rv a2, iv (2 : Int32), iv (3 : Int32), iv (2 : Int32), iv c2] []) s1 EF := fun t k => pre27 t (st28 t k)
  have O30 : Old Z n0 h28 := O20.wr W28 g_a2
  have Z30 : n0 ≤ h28.size := Nat.le_trans Z20 (Keep.of_wr W28).1
  have K30 : Keep h0 h28 [a2] := K20.wr W28 (Or.inl (List.mem_of_getElem? (i := 0) rfl))
  have V28 : Arv Z h28 a2 k2 .byte (3 : Int32) [(.int (c0.toInt8.toInt32)), (.int (c1.toInt8.toInt32)), (.int (c2.toInt8.toInt32))] (.int (0 : Int32)) := Arv.set Ar28 q28 Sz28 M28 H28 G28 (fits_nar_byte _) W28 2 rfl (Nat.le_of_ble_eq_true rfl)
  have N28 := Fr.snoc X28 N18 g_a2
  have pre31 : Go p e bl T28 (mkF m 7 #[rv a1, iv (3 : Int32), rv a2, iv (3 : Int32), iv (3 : Int32), iv (3 : Int32), iv c2] [(.int (3 : Int32)), (.int (3 : Int32))]) s1 EF := fun t k => pre29 t (by
   refine XS.iinc X28.here hx rfl (B d10_32) rfl (l' := #[rv a1, iv (3 : Int32), rv a2, iv (2 : Int32), iv (3 : Int32), iv (2 : Int32), iv c2]) rfl ?_
   refine XS.iinc X28.here hx rfl (B d10_35) rfl (l' := #[rv a1, iv (3 : Int32), rv a2, iv (3 : Int32), iv (3 : Int32), iv (2 : Int32), iv c2]) rfl ?_
   refine XS.iinc X28.here hx rfl (B d10_38) rfl (l' := #[rv a1, iv (3 : Int32), rv a2, iv (3 : Int32), iv (3 : Int32), iv (3 : Int32), iv c2]) rfl ?_
   refine XS.goto X28.here hx rfl (pc0 := 41) (pc' := 3) rfl (B d10_41) (by decide) (by decide) ?_
   refine XS.iload X28.here hx rfl (B d10_3) rfl ?_
   exact XS.iload X28.here hx rfl (B d10_5) rfl k)
  have pre32 : Go p e bl T28 (mkF m 44 #[rv a1, iv (3 : Int32), rv a2, iv (3 : Int32), iv (3 : Int32), iv (3 : Int32), iv c2] []) s1 EF := fun t k => pre31 t (XS.icmpYes X28.here hx rfl (pc0 := 7) (pc' := 44) rfl (B d10_7) rfl (flt (by decide : ¬ ((3 : Int32) < (3 : Int32)))).2.1 (by decide) (by decide) k)
  have pre33 : Go p e bl T28 (mkF m 46 #[rv a1, iv (3 : Int32), rv a2, iv (3 : Int32), iv (3 : Int32), iv (3 : Int32), iv c2] [(.int (3 : Int32))]) s1 EF := fun t k => pre32 t (by
   exact XS.iload X28.here hx rfl (B d10_44) rfl k)
  exact fin1 X28 (v := some (.int (3 : Int32))) hrt hlk (wl rfl) (wl rfl) (by rw [e28]; exact ⟨rfl, N28, K30, V28⟩) (fun fs hr => hEF ▸ pre33 _ (retOut X28 hx Bd.returns rfl (Or.inl ⟨rfl, Or.inl rfl, _, rfl⟩) (B d10_46) hr))
abbrev rKKb3 : Room := { frames := 1, cells := 1, slots := 3, locals := 18 }
theorem efKb3 (m : MethodId) (a1 : Addr) : entryFrame m #[(.ref a1), (.int (0 : Int32)), (.int (3 : Int32))] 6 = mkF m 0 #[rv a1, iv (0 : Int32), iv (3 : Int32), .unset, .unset, .unset] [] := by first | (simp [entryFrame, mkF, argsToLocals, Value.category]; done) | rfl
def QKb3 (Z : State) (a1 : Addr) (cz : Int32) (fv : Value) (k1 : ClassId) (c0 : Int32) (c1 : Int32) (c2 : Int32) (h0 : Heap) (n0 : Nat) (v : Option Value) (h : Heap) (L : List Loc) : Prop := ∃ b k, v = some (.ref b) ∧ Fr n0 L ∧ Keep h0 h [] ∧ h0.size ≤ b ∧ Arv Z h b k .byte (3 : Int32) [(.int (c0.toInt8.toInt32)), (.int (c1.toInt8.toInt32)), (.int (c2.toInt8.toInt32))] (.int (0 : Int32)) ∧ Exa Z h b "[B"
set_option maxRecDepth 65536 in
set_option maxHeartbeats 40000000 in
theorem rmKb3 (l : Launch) (Z : State) (a0 : Array Value) (hw : HW a0 Z) (ws : List Jvm.Cond) (a1 : Addr) (cz : Int32) (fv : Value) (k1 : ClassId) (c0 : Int32) (c1 : Int32) (c2 : Int32) (h0 : Heap) (n0 : Nat) (Z0 : n0 ≤ h0.size) (O0 : Old Z n0 h0) (J0 : Jd Z cz fv) (V1 : Arv Z h0 a1 k1 .char (3 : Int32) [(.int c0), (.int c1), (.int c2)] (.int (0 : Int32))) (hle : (∀ c ∈ [c0, c1, c2], ¬ (255 : Int32) < c)) :
    MF l Z mN11 jdk_52_method_16_code 6 (some (.array .byte)) ws rKKb3 #[(.ref a1), (.int (0 : Int32)), (.int (3 : Int32))] h0 (QKb3 Z a1 cz fv k1 c0 c1 c2 h0 n0) := by
  refine MetFree.of_bodySF (plainFor_of_name pn3) hisR ?_
  intro p e s m args bl meth c s1 Bd hml0 hP hK
  obtain ⟨rfl, hZ, hh⟩ := hP
  have hx := Bd.exec
  have hby := Bd.bytes
  have B := @hb c _ hby
  have hM := fun {n : Nat} (h : n = 6) => h.trans hml0.symm
  have hown : s.vm.findClass "java/lang/StringUTF16" = some m.cls := findClass_of_methodNamed Bd.named
  have hlk : meth.locks = false := BodyLoose.notSynchronized Bd
  have hrt : ∀ {v : Option Value}, meth.sig.returnType = none → v = none := fun h => by rw [Bd.returns] at h; cases h
  have X0 : Stand p l e rKKb3 s m #[(.ref a1), (.int (0 : Int32)), (.int (3 : Int32))] bl meth c s1 [] 0 0 := Stand.of_body Bd
  have e0 : s1.heap = h0 := by rw [← hh, Bd.state]; rfl
  have N0 := Fr.nil n0
  obtain ⟨EF, hEF⟩ : ∃ f, f = entryFrame m #[(.ref a1), (.int (0 : Int32)), (.int (3 : Int32))] 6 := ⟨_, rfl⟩
  have pre0 : Go p e bl s1 (mkF m 0 #[rv a1, iv (0 : Int32), iv (3 : Int32), .unset, .unset, .unset] []) s1 EF := fun t k => by rw [hEF]; exact castTop (efKb3 m a1) k
  have pre1 : Go p e bl s1 (mkF m 1 #[rv a1, iv (0 : Int32), iv (3 : Int32), .unset, .unset, .unset] [(.int (3 : Int32))]) s1 EF := fun t k => pre0 t (by
   exact XS.iloadN X0.here hx rfl (B d11_0) rfl k)
  obtain ⟨T2, h2, k2, X2, e2, Et2, A2, AX2, st2⟩ := newPE X0 hx hZ (hw _ (mW 27 rfl)) e0 (g := (mkF m 1 #[rv a1, iv (0 : Int32), iv (3 : Int32), .unset, .unset, .unset] [(.int (3 : Int32))])) rfl (B d11_1) rfl (by decide) (cap := 3) (by decide) (by decide) (by decide) (by decide) (ad := "[B") (by decide)
  obtain ⟨b2, g2⟩ : ∃ z, z = h0.size := ⟨_, rfl⟩
  rw [← g2] at A2 st2 AX2
  have g_b2 : n0 ≤ b2 := Nat.le_trans Z0 (Nat.le_of_eq g2.symm)
  have sz_b2 : h0.size ≤ b2 := Nat.le_trans (Keep.refl h0 []).1 (Nat.le_of_eq g2.symm)
  have ne_a1_b2 : a1 ≠ b2 := Nat.ne_of_lt (Nat.lt_of_lt_of_le V1.lt (Nat.le_of_eq g2.symm))
  have pre3 : Go p e bl T2 (mkF m 3 #[rv a1, iv (0 : Int32), iv (3 : Int32), .unset, .unset, .unset] [(.ref b2)]) s1 EF := fun t k => pre1 t (st2 t k)
  have O4 : Old Z n0 h2 := O0.ext Et2
  have Z4 : n0 ≤ h2.size := Nat.le_trans Z0 Et2.1
  have K4 : Keep h0 h2 [] := (Keep.refl h0 []).ext Et2
  have V2 : Arv Z h2 b2 k2 .byte (3 : Int32) [(.int (0 : Int32)), (.int (0 : Int32)), (.int (0 : Int32))] (.int (0 : Int32)) := (Arv.new A2 (by decide)).pad (pad_rep [] (.int (0 : Int32)) 3)
  have pre5 : Go p e bl T2 (mkF m 9 #[rv a1, iv (0 : Int32), iv (3 : Int32), rv b2, .unset, .unset] [(.int (3 : Int32)), (.int (0 : Int32)), (.ref b2), (.int (0 : Int32)), (.ref a1)]) s1 EF := fun t k => pre3 t (by
   refine XS.astoreN X2.here hx rfl (B d11_3) rfl rfl (l' := #[rv a1, iv (0 : Int32), iv (3 : Int32), rv b2, .unset, .unset]) rfl ?_
   refine XS.aloadN X2.here hx rfl (B d11_4) rfl rfl ?_
   refine XS.iloadN X2.here hx rfl (B d11_5) rfl ?_
   refine XS.aloadN X2.here hx rfl (B d11_6) rfl rfl ?_
   refine XS.iconst X2.here hx rfl (B d11_7) ?_
   exact XS.iloadN X2.here hx rfl (B d11_8) rfl k)
  obtain ⟨_, _, ⟨T6, L6, k6, n6⟩, -, X6, ⟨Lc6, hQ6, l6, y6, z6⟩, st6⟩ := Jvm.LawKit.callS X2 hx (y := mN10) hown (mvT hZ (hw _ (mW 28 rfl))) (mvT hZ (hw _ (mW 29 rfl))) (mvT hZ (hw _ (mW 25 rfl))) (mvT hZ (hw _ (mW 30 rfl))) (by decide) (backOf (W := 0) (rmKa3 l Z a0 hw [] a1 b2 cz fv k1 k2 c0 c1 c2 h2 n0 Z4 O4 J0 (V1.ext Et2) V2 ne_a1_b2 g_b2 hle) hZ (hw _ (mW 30 rfl)) (hw _ (mW 25 rfl)) (by decide) (by decide)) (g := (mkF m 9 #[rv a1, iv (0 : Int32), iv (3 : Int32), rv b2, .unset, .unset] [(.int (3 : Int32)), (.int (0 : Int32)), (.ref b2), (.int (0 : Int32)), (.ref a1)])) rfl (hM rfl) (argsL := [(.ref a1), (.int (0 : Int32)), (.ref b2), (.int (0 : Int32)), (.int (3 : Int32))]) (rest := []) (lenOf pd6 rfl) rfl (Nat.le_of_eq rfl) (B d11_9) (fun _ _ => ⟨rfl, e2, wl rfl, wl rfl⟩)
  dsimp only [Pt.U, Pt.locs, Pt.cells, Pt.slots] at X6 l6 y6 z6 st6 hQ6
  subst l6 y6 z6
  obtain ⟨rfl, N6q, K6, VL6⟩ := hQ6
  have N6 := Fr.app N0 N6q
  have pre7 : Go p e bl T6 (mkF m 12 #[rv a1, iv (0 : Int32), iv (3 : Int32), rv b2, .unset, .unset] [(.int (3 : Int32))]) s1 EF := fun t k => pre5 t (st6 t k)
  have O8 : Old Z n0 T6.heap := O4.keep K6 (allS g_b2 all0)
  have Z8 : n0 ≤ T6.heap.size := Nat.le_trans Z4 K6.1
  have K8 : Keep h0 T6.heap [] := K4.trans K6 (allS (Or.inr sz_b2) all0)
  have pre9 : Go p e bl T6 (mkF m 17 #[rv a1, iv (0 : Int32), iv (3 : Int32), rv b2, iv (3 : Int32), .unset] [(.int (3 : Int32)), (.int (3 : Int32))]) s1 EF := fun t k => pre7 t (by
   refine XS.istore X6.here hx rfl (B d11_12) rfl (l' := #[rv a1, iv (0 : Int32), iv (3 : Int32), rv b2, iv (3 : Int32), .unset]) rfl ?_
   refine XS.iload X6.here hx rfl (B d11_14) rfl ?_
   exact XS.iloadN X6.here hx rfl (B d11_16) rfl k)
  have pre10 : Go p e bl T6 (mkF m 57 #[rv a1, iv (0 : Int32), iv (3 : Int32), rv b2, iv (3 : Int32), .unset] []) s1 EF := fun t k => pre9 t (XS.icmpYes X6.here hx rfl (pc0 := 17) (pc' := 57) rfl (B d11_17) rfl (teq (by decide : (3 : Int32) = (3 : Int32))).1 (by decide) (by decide) k)
  have pre11 : Go p e bl T6 (mkF m 58 #[rv a1, iv (0 : Int32), iv (3 : Int32), rv b2, iv (3 : Int32), .unset] [(.ref b2)]) s1 EF := fun t k => pre10 t (by
   exact XS.aloadN X6.here hx rfl (B d11_57) rfl rfl k)
  exact fin1 X6 (v := some (.ref b2)) hrt hlk (wl rfl) (wl rfl) (by exact ⟨_, _, rfl, N6, K8, sz_b2, VL6, (AX2.keep K6)⟩) (fun fs hr => hEF ▸ pre11 _ (retOut X6 hx Bd.returns rfl (Or.inr (Or.inr (Or.inr (Or.inr ⟨rfl, rfl, rfl⟩)))) (B d11_58) hr))
abbrev rKKc3_0 : Room := { frames := 0, cells := 0, slots := 0, locals := 0 }
theorem efKc3_0 (m : MethodId) (a1 : Addr) : entryFrame m #[(.ref a1), (.int (3 : Int32))] 2 = mkF m 0 #[rv a1, iv (3 : Int32)] [] := by first | (simp [entryFrame, mkF, argsToLocals, Value.category]; done) | rfl
def QKc3_0 (Z : State) (a1 : Addr) (cz : Int32) (fv : Value) (k : ClassId) (vs : List Value) (h0 : Heap) (n0 : Nat) (v : Option Value) (h : Heap) (L : List Loc) : Prop := v = some (.int (0 : Int32)) ∧ Fr n0 L ∧ h = h0
set_option maxRecDepth 65536 in
set_option maxHeartbeats 40000000 in
theorem rmKc3_0 (l : Launch) (Z : State) (a0 : Array Value) (hw : HW a0 Z) (ws : List Jvm.Cond) (a1 : Addr) (cz : Int32) (fv : Value) (k : ClassId) (vs : List Value) (h0 : Heap) (n0 : Nat) (Z0 : n0 ≤ h0.size) (O0 : Old Z n0 h0) (J0 : Jd Z cz fv) (VV : Arv Z h0 a1 k .byte (3 : Int32) vs (.int 0)) :
    MF l Z mN12 jdk_52_method_15_code 2 (some .byte) ws rKKc3_0 #[(.ref a1), (.int (3 : Int32))] h0 (QKc3_0 Z a1 cz fv k vs h0 n0) := by
  refine MetFree.of_bodySF (plainFor_of_name pn3) hisR ?_
  intro p e s m args bl meth c s1 Bd hml0 hP hK
  obtain ⟨rfl, hZ, hh⟩ := hP
  have hx := Bd.exec
  have hby := Bd.bytes
  have B := @hb c _ hby
  have hown : s.vm.findClass "java/lang/StringUTF16" = some m.cls := findClass_of_methodNamed Bd.named
  have hlk : meth.locks = false := BodyLoose.notSynchronized Bd
  have hrt : ∀ {v : Option Value}, meth.sig.returnType = none → v = none := fun h => by rw [Bd.returns] at h; cases h
  have X0 : Stand p l e rKKc3_0 s m #[(.ref a1), (.int (3 : Int32))] bl meth c s1 [] 0 0 := Stand.of_body Bd
  have e0 : s1.heap = h0 := by rw [← hh, Bd.state]; rfl
  have N0 := Fr.nil n0
  obtain ⟨EF, hEF⟩ : ∃ f, f = entryFrame m #[(.ref a1), (.int (3 : Int32))] 2 := ⟨_, rfl⟩
  have pre0 : Go p e bl s1 (mkF m 0 #[rv a1, iv (3 : Int32)] []) s1 EF := fun t k => by rw [hEF]; exact castTop (efKc3_0 m a1) k
  have pre1 : Go p e bl s1 (mkF m 2 #[rv a1, iv (3 : Int32)] [(.ref a1), (.int (3 : Int32))]) s1 EF := fun t k => pre0 t (by
   refine XS.iloadN X0.here hx rfl (B d12_0) rfl ?_
   exact XS.aloadN X0.here hx rfl (B d12_1) rfl rfl k)
  obtain ⟨cl2, Ar2, q2, Sz2, M2, H2, G2⟩ := id VV
  have pre3 : Go p e bl s1 (mkF m 8 #[rv a1, iv (3 : Int32)] [(.int (0 : Int32))]) s1 EF := fun t k => pre1 t (by
   refine X0.arraylength hx (by rw [e0]; exact Ar2.1) (State.isArrayOf_alike hZ.alike Ar2.2.1) (g := (mkF m 2 #[rv a1, iv (3 : Int32)] [(.ref a1), (.int (3 : Int32))])) rfl rfl (B d12_2) _ ?_
   rw [len_of Sz2 M2]
   refine XS.isub X0.here hx rfl (B d12_3) rfl ?_
   refine XS.bipush X0.here hx rfl (B d12_4) ?_
   refine XS.iushr X0.here hx rfl (B d12_6) rfl ?_
   exact XS.i2b X0.here hx rfl (B d12_7) rfl k)
  have hnr : Value.int (nar .byte (0 : Int32)) = (.int (0 : Int32)) := by rfl
  exact fin1 X0 (v := some (.int (0 : Int32))) hrt hlk (wl rfl) (wl rfl) (by rw [e0]; exact ⟨rfl, N0, rfl⟩) (fun fs hr => hEF ▸ pre3 _ (retN X0 hx (t := .byte) Bd.returns (by simp) (B d12_8) (hnr ▸ hr)))
abbrev rKKi3 : Room := { frames := 2, cells := 1, slots := 3, locals := 35 }
theorem efKi3 (m : MethodId) (a1 : Addr) (a2 : Addr) : entryFrame m #[(.ref a1), (.ref a2), (.int (0 : Int32)), (.int (3 : Int32)), .null] 6 = mkF m 0 #[rv a1, rv a2, iv (0 : Int32), iv (3 : Int32), .val .null, .unset] [] := by first | (simp [entryFrame, mkF, argsToLocals, Value.category]; done) | rfl
def QKi3 (Z : State) (a1 : Addr) (a2 : Addr) (cz : Int32) (fv : Value) (k1 : ClassId) (c0 : Int32) (c1 : Int32) (c2 : Int32) (h0 : Heap) (n0 : Nat) (v : Option Value) (h : Heap) (L : List Loc) : Prop := v = none ∧ Fr n0 L ∧ Keep h0 h [a1] ∧ ∃ b k, h0.size ≤ b ∧ StL Z h a1 b k (3 : Int32) [c0.toInt8.toInt32, c1.toInt8.toInt32, c2.toInt8.toInt32] 0 0
set_option maxRecDepth 65536 in
set_option maxHeartbeats 40000000 in
theorem rmKi3 (l : Launch) (Z : State) (a0 : Array Value) (hw : HW a0 Z) (ws : List Jvm.Cond) (a1 : Addr) (a2 : Addr) (cz : Int32) (fv : Value) (k1 : ClassId) (c0 : Int32) (c1 : Int32) (c2 : Int32) (h0 : Heap) (n0 : Nat) (Z0 : n0 ≤ h0.size) (O0 : Old Z n0 h0) (J0 : Jd Z cz fv) (E1 : Exa Z h0 a1 "java/lang/String") (g_a1 : n0 ≤ a1) (F1 : Fld Z h0 a1 "java/lang/String" "value" "[B" .null) (F2 : Fld Z h0 a1 "java/lang/String" "coder" "B" (.int (0 : Int32))) (F3 : Fld Z h0 a1 "java/lang/String" "hash" "I" (.int (0 : Int32))) (F4 : Fld Z h0 a1 "java/lang/String" "hashIsZero" "Z" (.int (0 : Int32))) (V2 : Arv Z h0 a2 k1 .char (3 : Int32) [(.int c0), (.int c1), (.int c2)] (.int (0 : Int32))) (hle : (∀ c ∈ [c0, c1, c2], ¬ (255 : Int32) < c)) :
    MF l Z mN13 jdk_42_method_149_code 6 none ws rKKi3 #[(.ref a1), (.ref a2), (.int (0 : Int32)), (.int (3 : Int32)), .null] h0 (QKi3 Z a1 a2 cz fv k1 c0 c1 c2 h0 n0) := by
  refine MetFree.of_bodySF (plainFor_of_name pn0) hisR ?_
  intro p e s m args bl meth c s1 Bd hml0 hP hK
  obtain ⟨rfl, hZ, hh⟩ := hP
  have hx := Bd.exec
  have hby := Bd.bytes
  have B := @hb c _ hby
  have hM := fun {n : Nat} (h : n = 6) => h.trans hml0.symm
  have hown : s.vm.findClass "java/lang/String" = some m.cls := findClass_of_methodNamed Bd.named
  have hnm := (name_of_methodNamed Bd.named Bd.method).1
  have hlk : meth.locks = false := BodyLoose.notSynchronized Bd
  have X0 : Stand p l e rKKi3 s m #[(.ref a1), (.ref a2), (.int (0 : Int32)), (.int (3 : Int32)), .null] bl meth c s1 [] 0 0 := Stand.of_body Bd
  have e0 : s1.heap = h0 := by rw [← hh, Bd.state]; rfl
  have N0 := Fr.nil n0
  obtain ⟨EF, hEF⟩ : ∃ f, f = entryFrame m #[(.ref a1), (.ref a2), (.int (0 : Int32)), (.int (3 : Int32)), .null] 6 := ⟨_, rfl⟩
  have pre0 : Go p e bl s1 (mkF m 0 #[rv a1, rv a2, iv (0 : Int32), iv (3 : Int32), .val .null, .unset] []) s1 EF := fun t k => by rw [hEF]; exact castTop (efKi3 m a1 a2) k
  have pre1 : Go p e bl s1 (mkF m 1 #[rv a1, rv a2, iv (0 : Int32), iv (3 : Int32), .val .null, .unset] [(.ref a1)]) s1 EF := fun t k => pre0 t (by
   exact XS.aloadN X0.here hx rfl (B d13_0) rfl rfl k)
  obtain ⟨T2, X2, e2, st2⟩ := initO X0 hx hZ hown (hw _ (mW 19 rfl)) (hw _ (mW 20 rfl)) (hw _ (mW 21 rfl)) e0 (g := (mkF m 1 #[rv a1, rv a2, iv (0 : Int32), iv (3 : Int32), .val .null, .unset] [(.ref a1)])) rfl (hM rfl) rfl (B d13_1) (by decide) (W := 0) (Nat.le_of_eq rfl) (by decide)
  have pre3 : Go p e bl T2 (mkF m 4 #[rv a1, rv a2, iv (0 : Int32), iv (3 : Int32), .val .null, .unset] []) s1 EF := fun t k => pre1 t (st2 t k)
  have pre4 : Go p e bl T2 (mkF m 5 #[rv a1, rv a2, iv (0 : Int32), iv (3 : Int32), .val .null, .unset] [(.int (3 : Int32))]) s1 EF := fun t k => pre3 t (by
   exact XS.iloadN X2.here hx rfl (B d13_4) rfl k)
  have pre5 : Go p e bl T2 (mkF m 27 #[rv a1, rv a2, iv (0 : Int32), iv (3 : Int32), .val .null, .unset] []) s1 EF := fun t k => pre4 t (XS.ifYes X2.here hx rfl (pc0 := 5) (pc' := 27) rfl (B d13_5) rfl ((if0 _ _).trans (feq (by decide : ¬ ((3 : Int32) = (0 : Int32)))).2) (by decide) (by decide) k)
  obtain ⟨T6, X6, e6, st6⟩ := getS2 X2 hx hZ hown (host := "") (Or.inl (hw _ (mW 22 rfl))) Via.refl e2 (J0.1.ext O0.2) (g := (mkF m 27 #[rv a1, rv a2, iv (0 : Int32), iv (3 : Int32), .val .null, .unset] [])) rfl (B d13_27)
  have pre7 : Go p e bl T6 (mkF m 30 #[rv a1, rv a2, iv (0 : Int32), iv (3 : Int32), .val .null, .unset] [(.int cz)]) s1 EF := fun t k => pre5 t (st6 t k)
  have pre8 : Go p e bl T6 (mkF m 33 #[rv a1, rv a2, iv (0 : Int32), iv (3 : Int32), .val .null, .unset] []) s1 EF := fun t k => pre7 t (XS.ifNo X6.here hx rfl (B d13_30) rfl ((if0 _ _).trans (feq J0.2.1).1) k)
  have pre9 : Go p e bl T6 (mkF m 36 #[rv a1, rv a2, iv (0 : Int32), iv (3 : Int32), .val .null, .unset] [(.int (3 : Int32)), (.int (0 : Int32)), (.ref a2)]) s1 EF := fun t k => pre8 t (by
   refine XS.aloadN X6.here hx rfl (B d13_33) rfl rfl ?_
   refine XS.iloadN X6.here hx rfl (B d13_34) rfl ?_
   exact XS.iloadN X6.here hx rfl (B d13_35) rfl k)
  obtain ⟨_, _, ⟨T10, L10, k10, n10⟩, -, X10, ⟨Lc10, hQ10, l10, y10, z10⟩, st10⟩ := Jvm.LawKit.callS X6 hx (y := mN11) hown (mvT hZ (hw _ (mW 23 rfl))) (mvT hZ (hw _ (mW 24 rfl))) (mvT hZ (hw _ (mW 25 rfl))) (mvT hZ (hw _ (mW 26 rfl))) (by decide) (backOf (W := 0) (rmKb3 l Z a0 hw [] a2 cz fv k1 c0 c1 c2 h0 n0 Z0 O0 J0 V2 hle) hZ (hw _ (mW 26 rfl)) (hw _ (mW 25 rfl)) (by decide) (by decide)) (g := (mkF m 36 #[rv a1, rv a2, iv (0 : Int32), iv (3 : Int32), .val .null, .unset] [(.int (3 : Int32)), (.int (0 : Int32)), (.ref a2)])) rfl (hM rfl) (argsL := [(.ref a2), (.int (0 : Int32)), (.int (3 : Int32))]) (rest := []) (lenOf pd7 rfl) rfl (Nat.le_of_eq rfl) (B d13_36) (fun _ _ => ⟨rfl, e6, wl rfl, wl rfl⟩)
  dsimp only [Pt.U, Pt.locs, Pt.cells, Pt.slots] at X10 l10 y10 z10 st10 hQ10
  subst l10 y10 z10
  obtain ⟨bv, kb10, rfl, N10q, K10, hsz10, VB10, EB10⟩ := hQ10
  have N10 := Fr.app N0 N10q
  have pre11 : Go p e bl T10 (mkF m 39 #[rv a1, rv a2, iv (0 : Int32), iv (3 : Int32), .val .null, .unset] [(.ref bv)]) s1 EF := fun t k => pre9 t (st10 t k)
  have O12 : Old Z n0 T10.heap := O0.keep K10 all0
  have Z12 : n0 ≤ T10.heap.size := Nat.le_trans Z0 K10.1
  have K12 : Keep h0 T10.heap [a1] := (Keep.refl h0 [a1]).trans K10 all0
  have g_bv : n0 ≤ bv := Nat.le_trans Z0 hsz10
  have sz_bv : h0.size ≤ bv := Nat.le_trans (Keep.refl h0 [a1]).1 hsz10
  have ne_a1_bv : a1 ≠ bv := Nat.ne_of_lt (Nat.lt_of_lt_of_le E1.lt hsz10)
  have pre13 : Go p e bl T10 (mkF m 45 #[rv a1, rv a2, iv (0 : Int32), iv (3 : Int32), .val .null, rv bv] [(.int (3 : Int32)), (.ref bv), (.ref a1)]) s1 EF := fun t k => pre11 t (by
   refine XS.astore X10.here hx rfl (B d13_39) rfl rfl (l' := #[rv a1, rv a2, iv (0 : Int32), iv (3 : Int32), .val .null, rv bv]) rfl ?_
   refine XS.aloadN X10.here hx rfl (B d13_41) rfl rfl ?_
   refine XS.aload X10.here hx rfl (B d13_42) rfl rfl ?_
   exact XS.iloadN X10.here hx rfl (B d13_44) rfl k)
  obtain ⟨_, _, ⟨T14, L14, k14, n14⟩, -, X14, ⟨Lc14, hQ14, l14, y14, z14⟩, st14⟩ := Jvm.LawKit.callS X10 hx (y := mN12) hown (mvT hZ (hw _ (mW 31 rfl))) (mvT hZ (hw _ (mW 32 rfl))) (mvT hZ (hw _ (mW 25 rfl))) (mvT hZ (hw _ (mW 33 rfl))) (by decide) (backOf (W := 1) (rmKc3_0 l Z a0 hw [] bv cz fv kb10 _ T10.heap n0 Z12 O12 J0 VB10) hZ (hw _ (mW 33 rfl)) (hw _ (mW 25 rfl)) (by decide) (by decide)) (g := (mkF m 45 #[rv a1, rv a2, iv (0 : Int32), iv (3 : Int32), .val .null, rv bv] [(.int (3 : Int32)), (.ref bv), (.ref a1)])) rfl (hM rfl) (argsL := [(.ref bv), (.int (3 : Int32))]) (rest := [(.ref a1)]) (lenOf pd8 rfl) rfl (Nat.le_of_eq rfl) (B d13_45) (fun _ _ => ⟨rfl, rfl, wl rfl, wl rfl⟩)
  dsimp only [Pt.U, Pt.locs, Pt.cells, Pt.slots] at X14 l14 y14 z14 st14 hQ14
  subst l14 y14 z14
  obtain ⟨rfl, N14q, hq14⟩ := hQ14
  have N14 := Fr.app N10 N14q
  have pre15 : Go p e bl T14 (mkF m 48 #[rv a1, rv a2, iv (0 : Int32), iv (3 : Int32), .val .null, rv bv] [(.int (0 : Int32)), (.ref a1)]) s1 EF := fun t k => pre13 t (st14 t k)
  have e14 : T14.heap = T10.heap := hq14
  obtain ⟨T16, h16, X16, e16, W16, st16⟩ := putFN X14 hx hZ hown (hw _ (mW 34 rfl)) Via.refl e14 (F2.keep K10 nin0) (E1.keep K10) (Or.inr ⟨(hw _ (mW 35 rfl)), rfl, hnm⟩) (hw _ (mW 9 rfl)) (ty := .byte) (v' := (.int (0 : Int32))) (by decide) rfl rfl (g := (mkF m 48 #[rv a1, rv a2, iv (0 : Int32), iv (3 : Int32), .val .null, rv bv] [(.int (0 : Int32)), (.ref a1)])) rfl rfl (B d13_48)
  have pre17 : Go p e bl T16 (mkF m 51 #[rv a1, rv a2, iv (0 : Int32), iv (3 : Int32), .val .null, rv bv] []) s1 EF := fun t k => pre15 t (st16 t k)
  have O18 : Old Z n0 h16 := O12.wr W16 g_a1
  have Z18 : n0 ≤ h16.size := Nat.le_trans Z12 (Keep.of_wr W16).1
  have K18 : Keep h0 h16 [a1] := K12.wr W16 (Or.inl (List.mem_of_getElem? (i := 0) rfl))
  have Fw16 := Fld.same W16 (F2.keep K10 nin0)
  have N16 := Fr.snoc X16 N14 g_a1
  have pre19 : Go p e bl T16 (mkF m 54 #[rv a1, rv a2, iv (0 : Int32), iv (3 : Int32), .val .null, rv bv] [(.ref bv), (.ref a1)]) s1 EF := fun t k => pre17 t (by
   refine XS.aloadN X16.here hx rfl (B d13_51) rfl rfl ?_
   exact XS.aload X16.here hx rfl (B d13_52) rfl rfl k)
  obtain ⟨T20, h20, X20, e20, W20, st20⟩ := putF X16 hx hZ hown (host := "") (Or.inl (hw _ (mW 36 rfl))) Via.refl e16 (Fld.other W16 (F1.keep K10 nin0) (Or.inr (slot_ne (Or.inr (hw _ (mW 37 rfl))) (Or.inr (hw _ (mW 35 rfl))) (by decide) (t := (.array .byte)) (t' := .byte) (by decide) (by decide)))) ((E1.keep K10).wr W16) (Or.inr ⟨(hw _ (mW 37 rfl)), rfl, hnm⟩) (hw _ (mW 9 rfl)) (ty := (.array .byte)) (by decide) rfl rfl (g := (mkF m 54 #[rv a1, rv a2, iv (0 : Int32), iv (3 : Int32), .val .null, rv bv] [(.ref bv), (.ref a1)])) rfl rfl (B d13_54)
  have pre21 : Go p e bl T20 (mkF m 57 #[rv a1, rv a2, iv (0 : Int32), iv (3 : Int32), .val .null, rv bv] []) s1 EF := fun t k => pre19 t (st20 t k)
  have O22 : Old Z n0 h20 := O18.wr W20 g_a1
  have Z22 : n0 ≤ h20.size := Nat.le_trans Z18 (Keep.of_wr W20).1
  have K22 : Keep h0 h20 [a1] := K18.wr W20 (Or.inl (List.mem_of_getElem? (i := 0) rfl))
  have Fw20 := Fld.same W20 (Fld.other W16 (F1.keep K10 nin0) (Or.inr (slot_ne (Or.inr (hw _ (mW 37 rfl))) (Or.inr (hw _ (mW 35 rfl))) (by decide) (t := (.array .byte)) (t' := .byte) (by decide) (by decide))))
  have N20 := Fr.snoc X20 N16 g_a1
  exact fin1 X20 (v := none) (fun _ => rfl) hlk (wl rfl) (wl rfl) (by rw [e20]; exact ⟨rfl, N20, K22, _, _, sz_bv, ⟨(((E1.keep K10).wr W16).wr W20), (Fld.other W20 Fw16 (Or.inr (slot_ne (Or.inr (hw _ (mW 35 rfl))) (Or.inr (hw _ (mW 37 rfl))) (by decide) (t := .byte) (t' := (.array .byte)) (by decide) (by decide)))), Fw20, ((VB10.other W16 (Ne.symm ne_a1_bv)).other W20 (Ne.symm ne_a1_bv)), ((EB10.wr W16).wr W20), ne_a1_bv, (Fld.other W20 (Fld.other W16 (F3.keep K10 nin0) (Or.inr (slot_ne (Or.inl (hw _ (mW 129 rfl))) (Or.inr (hw _ (mW 35 rfl))) (by decide) (t := .int) (t' := .byte) (by decide) (by decide)))) (Or.inr (slot_ne (Or.inl (hw _ (mW 129 rfl))) (Or.inr (hw _ (mW 37 rfl))) (by decide) (t := .int) (t' := (.array .byte)) (by decide) (by decide)))), (Fld.other W20 (Fld.other W16 (F4.keep K10 nin0) (Or.inr (slot_ne (Or.inl (hw _ (mW 131 rfl))) (Or.inr (hw _ (mW 35 rfl))) (by decide) (t := .boolean) (t' := .byte) (by decide) (by decide)))) (Or.inr (slot_ne (Or.inl (hw _ (mW 131 rfl))) (Or.inr (hw _ (mW 37 rfl))) (by decide) (t := .boolean) (t' := (.array .byte)) (by decide) (by decide))))⟩⟩) (fun fs hr => hEF ▸ pre21 _ (X20.returnOut hx Bd.returns (B d13_57) hr))
abbrev rKKj3 : Room := { frames := 3, cells := 1, slots := 3, locals := 52 }
theorem efKj3 (m : MethodId) (a1 : Addr) (a2 : Addr) : entryFrame m #[(.ref a1), (.ref a2)] 2 = mkF m 0 #[rv a1, rv a2] [] := by first | (simp [entryFrame, mkF, argsToLocals, Value.category]; done) | rfl
def QKj3 (Z : State) (a1 : Addr) (a2 : Addr) (cz : Int32) (fv : Value) (k1 : ClassId) (c0 : Int32) (c1 : Int32) (c2 : Int32) (h0 : Heap) (n0 : Nat) (v : Option Value) (h : Heap) (L : List Loc) : Prop := v = none ∧ Fr n0 L ∧ Keep h0 h [a1] ∧ ∃ b k, h0.size ≤ b ∧ StL Z h a1 b k (3 : Int32) [c0.toInt8.toInt32, c1.toInt8.toInt32, c2.toInt8.toInt32] 0 0
set_option maxRecDepth 65536 in
set_option maxHeartbeats 40000000 in
theorem rmKj3 (l : Launch) (Z : State) (a0 : Array Value) (hw : HW a0 Z) (ws : List Jvm.Cond) (a1 : Addr) (a2 : Addr) (cz : Int32) (fv : Value) (k1 : ClassId) (c0 : Int32) (c1 : Int32) (c2 : Int32) (h0 : Heap) (n0 : Nat) (Z0 : n0 ≤ h0.size) (O0 : Old Z n0 h0) (J0 : Jd Z cz fv) (E1 : Exa Z h0 a1 "java/lang/String") (g_a1 : n0 ≤ a1) (F1 : Fld Z h0 a1 "java/lang/String" "value" "[B" .null) (F2 : Fld Z h0 a1 "java/lang/String" "coder" "B" (.int (0 : Int32))) (F3 : Fld Z h0 a1 "java/lang/String" "hash" "I" (.int (0 : Int32))) (F4 : Fld Z h0 a1 "java/lang/String" "hashIsZero" "Z" (.int (0 : Int32))) (V2 : Arv Z h0 a2 k1 .char (3 : Int32) [(.int c0), (.int c1), (.int c2)] (.int (0 : Int32))) (hle : (∀ c ∈ [c0, c1, c2], ¬ (255 : Int32) < c)) :
    MF l Z mN14 jdk_42_method_3_code 2 none ws rKKj3 #[(.ref a1), (.ref a2)] h0 (QKj3 Z a1 a2 cz fv k1 c0 c1 c2 h0 n0) := by
  refine MetFree.of_bodySF (plainFor_of_name pn0) hisR ?_
  intro p e s m args bl meth c s1 Bd hml0 hP hK
  obtain ⟨rfl, hZ, hh⟩ := hP
  have hx := Bd.exec
  have hby := Bd.bytes
  have B := @hb c _ hby
  have hM := fun {n : Nat} (h : n = 2) => h.trans hml0.symm
  have hown : s.vm.findClass "java/lang/String" = some m.cls := findClass_of_methodNamed Bd.named
  have hlk : meth.locks = false := BodyLoose.notSynchronized Bd
  have X0 : Stand p l e rKKj3 s m #[(.ref a1), (.ref a2)] bl meth c s1 [] 0 0 := Stand.of_body Bd
  have e0 : s1.heap = h0 := by rw [← hh, Bd.state]; rfl
  have N0 := Fr.nil n0
  obtain ⟨EF, hEF⟩ : ∃ f, f = entryFrame m #[(.ref a1), (.ref a2)] 2 := ⟨_, rfl⟩
  have pre0 : Go p e bl s1 (mkF m 0 #[rv a1, rv a2] []) s1 EF := fun t k => by rw [hEF]; exact castTop (efKj3 m a1 a2) k
  have pre1 : Go p e bl s1 (mkF m 4 #[rv a1, rv a2] [(.ref a2), (.int (0 : Int32)), (.ref a2), (.ref a1)]) s1 EF := fun t k => pre0 t (by
   refine XS.aloadN X0.here hx rfl (B d14_0) rfl rfl ?_
   refine XS.aloadN X0.here hx rfl (B d14_1) rfl rfl ?_
   refine XS.iconst X0.here hx rfl (B d14_2) ?_
   exact XS.aloadN X0.here hx rfl (B d14_3) rfl rfl k)
  obtain ⟨cl2, Ar2, q2, Sz2, M2, H2, G2⟩ := id V2
  have pre3 : Go p e bl s1 (mkF m 6 #[rv a1, rv a2] [.null, (.int (3 : Int32)), (.int (0 : Int32)), (.ref a2), (.ref a1)]) s1 EF := fun t k => pre1 t (by
   refine X0.arraylength hx (by rw [e0]; exact Ar2.1) (State.isArrayOf_alike hZ.alike Ar2.2.1) (g := (mkF m 4 #[rv a1, rv a2] [(.ref a2), (.int (0 : Int32)), (.ref a2), (.ref a1)])) rfl rfl (B d14_4) _ ?_
   rw [len_of Sz2 M2]
   exact XS.aconstNull X0.here hx rfl (B d14_5) k)
  obtain ⟨_, _, ⟨T4, L4, k4, n4⟩, -, X4, ⟨Lc4, hQ4, l4, y4, z4⟩, st4⟩ := X0.specialBack hx (y := mN13) rfl hown (mvT hZ (hw _ (mW 15 rfl))) (mvT hZ (hw _ (mW 16 rfl))) (mvT hZ (hw _ (mW 18 rfl))) (by decide) (backOf (W := 0) (rmKi3 l Z a0 hw [] a1 a2 cz fv k1 c0 c1 c2 h0 n0 Z0 O0 J0 E1 g_a1 F1 F2 F3 F4 V2 hle) hZ (hw _ (mW 18 rfl)) (hw _ (mW 10 rfl)) (by decide) (by decide)) (g := (mkF m 6 #[rv a1, rv a2] [.null, (.int (3 : Int32)), (.int (0 : Int32)), (.ref a2), (.ref a1)])) rfl (hM rfl) (Steps.refl _) (a := a1) (argsL := [(.ref a2), (.int (0 : Int32)), (.int (3 : Int32)), .null]) (rest := []) (lenOf pd9 rfl) rfl (Nat.le_of_eq rfl) (B d14_6) (fun _ _ => ⟨rfl, e0, wl rfl, wl rfl⟩)
  dsimp only [Pt.U, Pt.locs, Pt.cells, Pt.slots] at X4 l4 y4 z4 st4 hQ4
  subst l4 y4 z4
  obtain ⟨rfl, N4q, K4, bv4, kb4, hsz4, SF4⟩ := hQ4
  have N4 := Fr.app N0 N4q
  have pre5 : Go p e bl T4 (mkF m 9 #[rv a1, rv a2] []) s1 EF := fun t k => pre3 t (st4.trans k)
  have O6 : Old Z n0 T4.heap := O0.keep K4 (allS g_a1 all0)
  have Z6 : n0 ≤ T4.heap.size := Nat.le_trans Z0 K4.1
  have K6 : Keep h0 T4.heap [a1] := (Keep.refl h0 [a1]).trans K4 (allS (Or.inl (List.mem_of_getElem? (i := 0) rfl)) all0)
  exact fin1 X4 (v := none) (fun _ => rfl) hlk (wl rfl) (wl rfl) (by exact ⟨rfl, N4, K6, _, _, hsz4, SF4⟩) (fun fs hr => hEF ▸ pre5 _ (X4.returnOut hx Bd.returns (B d14_9) hr))
abbrev rKKa4 : Room := { frames := 0, cells := 0, slots := 0, locals := 0 }
theorem efKa4 (m : MethodId) (a1 : Addr) (a2 : Addr) : entryFrame m #[(.ref a1), (.int (0 : Int32)), (.ref a2), (.int (0 : Int32)), (.int (4 : Int32))] 7 = mkF m 0 #[rv a1, iv (0 : Int32), rv a2, iv (0 : Int32), iv (4 : Int32), .unset, .unset] [] := by first | (simp [entryFrame, mkF, argsToLocals, Value.category]; done) | rfl
def QKa4 (Z : State) (a1 : Addr) (a2 : Addr) (cz : Int32) (fv : Value) (k1 : ClassId) (k2 : ClassId) (c0 : Int32) (c1 : Int32) (c2 : Int32) (c3 : Int32) (h0 : Heap) (n0 : Nat) (v : Option Value) (h : Heap) (L : List Loc) : Prop := v = some (.int (4 : Int32)) ∧ Fr n0 L ∧ Keep h0 h [a2] ∧ Arv Z h a2 k2 .byte (4 : Int32) [(.int (c0.toInt8.toInt32)), (.int (c1.toInt8.toInt32)), (.int (c2.toInt8.toInt32)), (.int (c3.toInt8.toInt32))] (.int (0 : Int32))
set_option maxRecDepth 65536 in
set_option maxHeartbeats 40000000 in
theorem rmKa4 (l : Launch) (Z : State) (a0 : Array Value) (hw : HW a0 Z) (ws : List Jvm.Cond) (a1 : Addr) (a2 : Addr) (cz : Int32) (fv : Value) (k1 : ClassId) (k2 : ClassId) (c0 : Int32) (c1 : Int32) (c2 : Int32) (c3 : Int32) (h0 : Heap) (n0 : Nat) (Z0 : n0 ≤ h0.size) (O0 : Old Z n0 h0) (J0 : Jd Z cz fv) (V1 : Arv Z h0 a1 k1 .char (4 : Int32) [(.int c0), (.int c1), (.int c2), (.int c3)] (.int (0 : Int32))) (V2 : Arv Z h0 a2 k2 .byte (4 : Int32) [(.int (0 : Int32)), (.int (0 : Int32)), (.int (0 : Int32)), (.int (0 : Int32))] (.int (0 : Int32))) (ne12 : a1 ≠ a2) (g_a2 : n0 ≤ a2) (hle : (∀ c ∈ [c0, c1, c2, c3], ¬ (255 : Int32) < c)) :
    MF l Z mN10 jdk_52_method_21_code 7 (some .int) ws rKKa4 #[(.ref a1), (.int (0 : Int32)), (.ref a2), (.int (0 : Int32)), (.int (4 : Int32))] h0 (QKa4 Z a1 a2 cz fv k1 k2 c0 c1 c2 c3 h0 n0) := by
  refine MetFree.of_bodySF (plainFor_of_name pn3) hisR ?_
  intro p e s m args bl meth c s1 Bd hml0 hP hK
  obtain ⟨rfl, hZ, hh⟩ := hP
  have hx := Bd.exec
  have hby := Bd.bytes
  have B := @hb c _ hby
  have hown : s.vm.findClass "java/lang/StringUTF16" = some m.cls := findClass_of_methodNamed Bd.named
  have hlk : meth.locks = false := BodyLoose.notSynchronized Bd
  have hrt : ∀ {v : Option Value}, meth.sig.returnType = none → v = none := fun h => by rw [Bd.returns] at h; cases h
  have X0 : Stand p l e rKKa4 s m #[(.ref a1), (.int (0 : Int32)), (.ref a2), (.int (0 : Int32)), (.int (4 : Int32))] bl meth c s1 [] 0 0 := Stand.of_body Bd
  have e0 : s1.heap = h0 := by rw [← hh, Bd.state]; rfl
  have N0 := Fr.nil n0
  obtain ⟨EF, hEF⟩ : ∃ f, f = entryFrame m #[(.ref a1), (.int (0 : Int32)), (.ref a2), (.int (0 : Int32)), (.int (4 : Int32))] 7 := ⟨_, rfl⟩
  have pre0 : Go p e bl s1 (mkF m 0 #[rv a1, iv (0 : Int32), rv a2, iv (0 : Int32), iv (4 : Int32), .unset, .unset] []) s1 EF := fun t k => by rw [hEF]; exact castTop (efKa4 m a1 a2) k
  have pre1 : Go p e bl s1 (mkF m 7 #[rv a1, iv (0 : Int32), rv a2, iv (0 : Int32), iv (4 : Int32), iv (0 : Int32), .unset] [(.int (4 : Int32)), (.int (0 : Int32))]) s1 EF := fun t k => pre0 t (by
   refine XS.iconst X0.here hx rfl (B d10_0) ?_
   refine XS.istore X0.here hx rfl (B d10_1) rfl (l' := #[rv a1, iv (0 : Int32), rv a2, iv (0 : Int32), iv (4 : Int32), iv (0 : Int32), .unset]) rfl ?_
   refine XS.iload X0.here hx rfl (B d10_3) rfl ?_
   exact XS.iload X0.here hx rfl (B d10_5) rfl k)
  have pre2 : Go p e bl s1 (mkF m 10 #[rv a1, iv (0 : Int32), rv a2, iv (0 : Int32), iv (4 : Int32), iv (0 : Int32), .unset] []) s1 EF := fun t k => pre1 t (XS.icmpNo X0.here hx rfl (B d10_7) rfl (tlt (by decide : (0 : Int32) < (4 : Int32))).2.1 k)
  have pre3 : Go p e bl s1 (mkF m 12 #[rv a1, iv (0 : Int32), rv a2, iv (0 : Int32), iv (4 : Int32), iv (0 : Int32), .unset] [(.int (0 : Int32)), (.ref a1)]) s1 EF := fun t k => pre2 t (by
   refine XS.aloadN X0.here hx rfl (B d10_10) rfl rfl ?_
   exact XS.iloadN X0.here hx rfl (B d10_11) rfl k)
  obtain ⟨cl4, Ar4, q4, Sz4, M4, H4, G4⟩ := id V1
  have hin4 : ¬ ((0 : Int32) < 0 ∨ cl4.slots.size ≤ ((0 : Int32)).toNatClampNeg) := inb_of Sz4 ⟨by decide, by decide⟩
  have hat4 : cl4.slots[((0 : Int32)).toNatClampNeg]? = some (.int c0) := Has.at H4 hin4 rfl
  have pre5 : Go p e bl s1 (mkF m 20 #[rv a1, iv (0 : Int32), rv a2, iv (0 : Int32), iv (4 : Int32), iv (0 : Int32), iv c0] [(.int (255 : Int32)), (.int c0)]) s1 EF := fun t k => pre3 t (by
   refine X0.caload hx (j := (0 : Int32)) (v := (.int c0)) (by rw [e0]; exact Ar4.1) (State.isArrayOf_alike hZ.alike Ar4.2.1) Ar4.2.2 hin4 hat4 (g := (mkF m 12 #[rv a1, iv (0 : Int32), rv a2, iv (0 : Int32), iv (4 : Int32), iv (0 : Int32), .unset] [(.int (0 : Int32)), (.ref a1)])) rfl rfl (B d10_12) _ ?_
   refine XS.istore X0.here hx rfl (B d10_13) rfl (l' := #[rv a1, iv (0 : Int32), rv a2, iv (0 : Int32), iv (4 : Int32), iv (0 : Int32), iv c0]) rfl ?_
   refine XS.iload X0.here hx rfl (B d10_15) rfl ?_
   exact XS.sipush X0.here hx rfl (B d10_17) k)
  have pre6 : Go p e bl s1 (mkF m 26 #[rv a1, iv (0 : Int32), rv a2, iv (0 : Int32), iv (4 : Int32), iv (0 : Int32), iv c0] []) s1 EF := fun t k => pre5 t (XS.icmpYes X0.here hx rfl (pc0 := 20) (pc' := 26) rfl (B d10_20) rfl (flt (hle c0 (List.mem_of_getElem? (i := 0) rfl))).2.2.2 (by decide) (by decide) k)
  have pre7 : Go p e bl s1 (mkF m 31 #[rv a1, iv (0 : Int32), rv a2, iv (0 : Int32), iv (4 : Int32), iv (0 : Int32), iv c0] [(.int (c0.toInt8.toInt32)), (.int (0 : Int32)), (.ref a2)]) s1 EF := fun t k => pre6 t (by
   refine XS.aloadN X0.here hx rfl (B d10_26) rfl rfl ?_
   refine XS.iloadN X0.here hx rfl (B d10_27) rfl ?_
   refine XS.iload X0.here hx rfl (B d10_28) rfl ?_
   exact XS.i2b X0.here hx rfl (B d10_30) rfl k)
  obtain ⟨cl8, Ar8, q8, Sz8, M8, H8, G8⟩ := id V2
  have hin8 : ¬ ((0 : Int32) < 0 ∨ cl8.slots.size ≤ ((0 : Int32)).toNatClampNeg) := inb_of Sz8 ⟨by decide, by decide⟩
  obtain ⟨T8, h8, X8, e8, W8, st8⟩ := stB X0 hx hZ e0 Ar8 (j := (0 : Int32)) hin8 (g := (mkF m 31 #[rv a1, iv (0 : Int32), rv a2, iv (0 : Int32), iv (4 : Int32), iv (0 : Int32), iv c0] [(.int (c0.toInt8.toInt32)), (.int (0 : Int32)), (.ref a2)])) rfl rfl (B d10_31)
  rw [own_i2b2] at W8
  have pre9 : Go p e bl T8 (mkF m 32 #[rv a1, iv (0 : Int32), rv a2, iv (0 : Int32), iv (4 : Int32), iv (0 : Int32), iv c0] []) s1 EF := fun t k => pre7 t (st8 t k)
  have O10 : Old Z n0 h8 := O0.wr W8 g_a2
  have Z10 : n0 ≤ h8.size := Nat.le_trans Z0 (Keep.of_wr W8).1
  have K10 : Keep h0 h8 [a2] := (Keep.refl h0 [a2]).wr W8 (Or.inl (List.mem_of_getElem? (i := 0) rfl))
  have V8 : Arv Z h8 a2 k2 .byte (4 : Int32) [(.int (c0.toInt8.toInt32)), (.int (0 : Int32)), (.int (0 : Int32)), (.int (0 : Int32))] (.int (0 : Int32)) := Arv.set Ar8 q8 Sz8 M8 H8 G8 (fits_nar_byte _) W8 0 rfl (Nat.le_of_ble_eq_true rfl)
  have N8 := Fr.snoc X8 N0 g_a2
  have pre11 : Go p e bl T8 (mkF m 7 #[rv a1, iv (1 : Int32), rv a2, iv (1 : Int32), iv (4 : Int32), iv (1 : Int32), iv c0] [(.int (4 : Int32)), (.int (1 : Int32))]) s1 EF := fun t k => pre9 t (by
   refine XS.iinc X8.here hx rfl (B d10_32) rfl (l' := #[rv a1, iv (1 : Int32), rv a2, iv (0 : Int32), iv (4 : Int32), iv (0 : Int32), iv c0]) rfl ?_
   refine XS.iinc X8.here hx rfl (B d10_35) rfl (l' := #[rv a1, iv (1 : Int32), rv a2, iv (1 : Int32), iv (4 : Int32), iv (0 : Int32), iv c0]) rfl ?_
   refine XS.iinc X8.here hx rfl (B d10_38) rfl (l' := #[rv a1, iv (1 : Int32), rv a2, iv (1 : Int32), iv (4 : Int32), iv (1 : Int32), iv c0]) rfl ?_
   refine XS.goto X8.here hx rfl (pc0 := 41) (pc' := 3) rfl (B d10_41) (by decide) (by decide) ?_
   refine XS.iload X8.here hx rfl (B d10_3) rfl ?_
   exact XS.iload X8.here hx rfl (B d10_5) rfl k)
  have pre12 : Go p e bl T8 (mkF m 10 #[rv a1, iv (1 : Int32), rv a2, iv (1 : Int32), iv (4 : Int32), iv (1 : Int32), iv c0] []) s1 EF := fun t k => pre11 t (XS.icmpNo X8.here hx rfl (B d10_7) rfl (tlt (by decide : (1 : Int32) < (4 : Int32))).2.1 k)
  have pre13 : Go p e bl T8 (mkF m 12 #[rv a1, iv (1 : Int32), rv a2, iv (1 : Int32), iv (4 : Int32), iv (1 : Int32), iv c0] [(.int (1 : Int32)), (.ref a1)]) s1 EF := fun t k => pre12 t (by
   refine XS.aloadN X8.here hx rfl (B d10_10) rfl rfl ?_
   exact XS.iloadN X8.here hx rfl (B d10_11) rfl k)
  obtain ⟨cl14, Ar14, q14, Sz14, M14, H14, G14⟩ := id (V1.other W8 ne12)
  have hin14 : ¬ ((1 : Int32) < 0 ∨ cl14.slots.size ≤ ((1 : Int32)).toNatClampNeg) := inb_of Sz14 ⟨by decide, by decide⟩
  have hat14 : cl14.slots[((1 : Int32)).toNatClampNeg]? = some (.int c1) := Has.at H14 hin14 rfl
  have pre15 : Go p e bl T8 (mkF m 20 #[rv a1, iv (1 : Int32), rv a2, iv (1 : Int32), iv (4 : Int32), iv (1 : Int32), iv c1] [(.int (255 : Int32)), (.int c1)]) s1 EF := fun t k => pre13 t (by
   refine X8.caload hx (j := (1 : Int32)) (v := (.int c1)) (by rw [e8]; exact Ar14.1) (State.isArrayOf_alike hZ.alike Ar14.2.1) Ar14.2.2 hin14 hat14 (g := (mkF m 12 #[rv a1, iv (1 : Int32), rv a2, iv (1 : Int32), iv (4 : Int32), iv (1 : Int32), iv c0] [(.int (1 : Int32)), (.ref a1)])) rfl rfl (B d10_12) _ ?_
   refine XS.istore X8.here hx rfl (B d10_13) rfl (l' := #[rv a1, iv (1 : Int32), rv a2, iv (1 : Int32), iv (4 : Int32), iv (1 : Int32), iv c1]) rfl ?_
   refine XS.iload X8.here hx rfl (B d10_15) rfl ?_
   exact XS.sipush X8.here hx rfl (B d10_17) k)
  have pre16 : Go p e bl T8 (mkF m 26 #[rv a1, iv (1 : Int32), rv a2, iv (1 : Int32), iv (4 : Int32), iv (1 : Int32), iv c1] []) s1 EF := fun t k => pre15 t (XS.icmpYes X8.here hx rfl (pc0 := 20) (pc' := 26) rfl (B d10_20) rfl (flt (hle c1 (List.mem_of_getElem? (i := 1) rfl))).2.2.2 (by decide) (by decide) k)
  have pre17 : Go p e bl T8 (mkF m 31 #[rv a1, iv (1 : Int32), rv a2, iv (1 : Int32), iv (4 : Int32), iv (1 : Int32), iv c1] [(.int (c1.toInt8.toInt32)), (.int (1 : Int32)), (.ref a2)]) s1 EF := fun t k => pre16 t (by
   refine XS.aloadN X8.here hx rfl (B d10_26) rfl rfl ?_
   refine XS.iloadN X8.here hx rfl (B d10_27) rfl ?_
   refine XS.iload X8.here hx rfl (B d10_28) rfl ?_
   exact XS.i2b X8.here hx rfl (B d10_30) rfl k)
  obtain ⟨cl18, Ar18, q18, Sz18, M18, H18, G18⟩ := id V8
  have hin18 : ¬ ((1 : Int32) < 0 ∨ cl18.slots.size ≤ ((1 : Int32)).toNatClampNeg) := inb_of Sz18 ⟨by decide, by decide⟩
  obtain ⟨T18, h18, X18, e18, W18, st18⟩ := stB X8 hx hZ e8 Ar18 (j := (1 : Int32)) hin18 (g := (mkF m 31 #[rv a1, iv (1 : Int32), rv a2, iv (1 : Int32), iv (4 : Int32), iv (1 : Int32), iv c1] [(.int (c1.toInt8.toInt32)), (.int (1 : Int32)), (.ref a2)])) rfl rfl (B d10_31)
  rw [own_i2b2] at W18
  have pre19 : Go p e bl T18 (mkF m 32 #[rv a1, iv (1 : Int32), rv a2, iv (1 : Int32), iv (4 : Int32), iv (1 : Int32), iv c1] []) s1 EF := fun t k => pre17 t (st18 t k)
  have O20 : Old Z n0 h18 := O10.wr W18 g_a2
  have Z20 : n0 ≤ h18.size := Nat.le_trans Z10 (Keep.of_wr W18).1
  have K20 : Keep h0 h18 [a2] := K10.wr W18 (Or.inl (List.mem_of_getElem? (i := 0) rfl))
  have V18 : Arv Z h18 a2 k2 .byte (4 : Int32) [(.int (c0.toInt8.toInt32)), (.int (c1.toInt8.toInt32)), (.int (0 : Int32)), (.int (0 : Int32))] (.int (0 : Int32)) := Arv.set Ar18 q18 Sz18 M18 H18 G18 (fits_nar_byte _) W18 1 rfl (Nat.le_of_ble_eq_true rfl)
  have N18 := Fr.snoc X18 N8 g_a2
  have pre21 : Go p e bl T18 (mkF m 7 #[rv a1, iv (2 : Int32), rv a2, iv (2 : Int32), iv (4 : Int32), iv (2 : Int32), iv c1] [(.int (4 : Int32)), (.int (2 : Int32))]) s1 EF := fun t k => pre19 t (by
   refine XS.iinc X18.here hx rfl (B d10_32) rfl (l' := #[rv a1, iv (2 : Int32), rv a2, iv (1 : Int32), iv (4 : Int32), iv (1 : Int32), iv c1]) rfl ?_
   refine XS.iinc X18.here hx rfl (B d10_35) rfl (l' := #[rv a1, iv (2 : Int32), rv a2, iv (2 : Int32), iv (4 : Int32), iv (1 : Int32), iv c1]) rfl ?_
   refine XS.iinc X18.here hx rfl (B d10_38) rfl (l' := #[rv a1, iv (2 : Int32), rv a2, iv (2 : Int32), iv (4 : Int32), iv (2 : Int32), iv c1]) rfl ?_
   refine XS.goto X18.here hx rfl (pc0 := 41) (pc' := 3) rfl (B d10_41) (by decide) (by decide) ?_
   refine XS.iload X18.here hx rfl (B d10_3) rfl ?_
   exact XS.iload X18.here hx rfl (B d10_5) rfl k)
  have pre22 : Go p e bl T18 (mkF m 10 #[rv a1, iv (2 : Int32), rv a2, iv (2 : Int32), iv (4 : Int32), iv (2 : Int32), iv c1] []) s1 EF := fun t k => pre21 t (XS.icmpNo X18.here hx rfl (B d10_7) rfl (tlt (by decide : (2 : Int32) < (4 : Int32))).2.1 k)
  have pre23 : Go p e bl T18 (mkF m 12 #[rv a1, iv (2 : Int32), rv a2, iv (2 : Int32), iv (4 : Int32), iv (2 : Int32), iv c1] [(.int (2 : Int32)), (.ref a1)]) s1 EF := fun t k => pre22 t (by
   refine XS.aloadN X18.here hx rfl (B d10_10) rfl rfl ?_
   exact XS.iloadN X18.here hx rfl (B d10_11) rfl k)
  obtain ⟨cl24, Ar24, q24, Sz24, M24, H24, G24⟩ := id ((V1.other W8 ne12).other W18 ne12)
  have hin24 : ¬ ((2 : Int32) < 0 ∨ cl24.slots.size ≤ ((2 : Int32)).toNatClampNeg) := inb_of Sz24 ⟨by decide, by decide⟩
  have hat24 : cl24.slots[((2 : Int32)).toNatClampNeg]? = some (.int c2) := Has.at H24 hin24 rfl
  have pre25 : Go p e bl T18 (mkF m 20 #[rv a1, iv (2 : Int32), rv a2, iv (2 : Int32), iv (4 : Int32), iv (2 : Int32), iv c2] [(.int (255 : Int32)), (.int c2)]) s1 EF := fun t k => pre23 t (by
   refine X18.caload hx (j := (2 : Int32)) (v := (.int c2)) (by rw [e18]; exact Ar24.1) (State.isArrayOf_alike hZ.alike Ar24.2.1) Ar24.2.2 hin24 hat24 (g := (mkF m 12 #[rv a1, iv (2 : Int32), rv a2, iv (2 : Int32), iv (4 : Int32), iv (2 : Int32), iv c1] [(.int (2 : Int32)), (.ref a1)])) rfl rfl (B d10_12) _ ?_
   refine XS.istore X18.here hx rfl (B d10_13) rfl (l' := #[rv a1, iv (2 : Int32), rv a2, iv (2 : Int32), iv (4 : Int32), iv (2 : Int32), iv c2]) rfl ?_
   refine XS.iload X18.here hx rfl (B d10_15) rfl ?_
   exact XS.sipush X18.here hx rfl (B d10_17) k)
  have pre26 : Go p e bl T18 (mkF m 26 #[rv a1, iv (2 : Int32), rv a2, iv (2 : Int32), iv (4 : Int32), iv (2 : Int32), iv c2] []) s1 EF := fun t k => pre25 t (XS.icmpYes X18.here hx rfl (pc0 := 20) (pc' := 26) rfl (B d10_20) rfl (flt (hle c2 (List.mem_of_getElem? (i := 2) rfl))).2.2.2 (by decide) (by decide) k)
  have pre27 : Go p e bl T18 (mkF m 31 #[rv a1, iv (2 : Int32), rv a2, iv (2 : Int32), iv (4 : Int32), iv (2 : Int32), iv c2] [(.int (c2.toInt8.toInt32)), (.int (2 : Int32)), (.ref a2)]) s1 EF := fun t k => pre26 t (by
   refine XS.aloadN X18.here hx rfl (B d10_26) rfl rfl ?_
   refine XS.iloadN X18.here hx rfl (B d10_27) rfl ?_
   refine XS.iload X18.here hx rfl (B d10_28) rfl ?_
   exact XS.i2b X18.here hx rfl (B d10_30) rfl k)
  obtain ⟨cl28, Ar28, q28, Sz28, M28, H28, G28⟩ := id V18
  have hin28 : ¬ ((2 : Int32) < 0 ∨ cl28.slots.size ≤ ((2 : Int32)).toNatClampNeg) := inb_of Sz28 ⟨by decide, by decide⟩
  obtain ⟨T28, h28, X28, e28, W28, st28⟩ := stB X18 hx hZ e18 Ar28 (j := (2 : Int32)) hin28 (g := (mkF m 31 #[rv a1, iv (2 : Int32), rv a2, iv (2 : Int32), iv (4 : Int32), iv (2 : Int32), iv c2] [(.int (c2.toInt8.toInt32)), (.int (2 : Int32)), (.ref a2)])) rfl rfl (B d10_31)
  rw [own_i2b2] at W28
  have pre29 : Go p e bl T28 (mkF m 32 #[rv a1, iv (2 : Int32), rv a2, iv (2 : Int32), iv (4 : Int32), iv (2 : Int32), iv c2] []) s1 EF := fun t k => pre27 t (st28 t k)
  have O30 : Old Z n0 h28 := O20.wr W28 g_a2
  have Z30 : n0 ≤ h28.size := Nat.le_trans Z20 (Keep.of_wr W28).1
  have K30 : Keep h0 h28 [a2] := K20.wr W28 (Or.inl (List.mem_of_getElem? (i := 0) rfl))
  have V28 : Arv Z h28 a2 k2 .byte (4 : Int32) [(.int (c0.toInt8.toInt32)), (.int (c1.toInt8.toInt32)), (.int (c2.toInt8.toInt32)), (.int (0 : Int32))] (.int (0 : Int32)) := Arv.set Ar28 q28 Sz28 M28 H28 G28 (fits_nar_byte _) W28 2 rfl (Nat.le_of_ble_eq_true rfl)
  have N28 := Fr.snoc X28 N18 g_a2
  have pre31 : Go p e bl T28 (mkF m 7 #[rv a1, iv (3 : Int32), rv a2, iv (3 : Int32), iv (4 : Int32), iv (3 : Int32), iv c2] [(.int (4 : Int32)), (.int (3 : Int32))]) s1 EF := fun t k => pre29 t (by
   refine XS.iinc X28.here hx rfl (B d10_32) rfl (l' := #[rv a1, iv (3 : Int32), rv a2, iv (2 : Int32), iv (4 : Int32), iv (2 : Int32), iv c2]) rfl ?_
   refine XS.iinc X28.here hx rfl (B d10_35) rfl (l' := #[rv a1, iv (3 : Int32), rv a2, iv (3 : Int32), iv (4 : Int32), iv (2 : Int32), iv c2]) rfl ?_
   refine XS.iinc X28.here hx rfl (B d10_38) rfl (l' := #[rv a1, iv (3 : Int32), rv a2, iv (3 : Int32), iv (4 : Int32), iv (3 : Int32), iv c2]) rfl ?_
   refine XS.goto X28.here hx rfl (pc0 := 41) (pc' := 3) rfl (B d10_41) (by decide) (by decide) ?_
   refine XS.iload X28.here hx rfl (B d10_3) rfl ?_
   exact XS.iload X28.here hx rfl (B d10_5) rfl k)
  have pre32 : Go p e bl T28 (mkF m 10 #[rv a1, iv (3 : Int32), rv a2, iv (3 : Int32), iv (4 : Int32), iv (3 : Int32), iv c2] []) s1 EF := fun t k => pre31 t (XS.icmpNo X28.here hx rfl (B d10_7) rfl (tlt (by decide : (3 : Int32) < (4 : Int32))).2.1 k)
  have pre33 : Go p e bl T28 (mkF m 12 #[rv a1, iv (3 : Int32), rv a2, iv (3 : Int32), iv (4 : Int32), iv (3 : Int32), iv c2] [(.int (3 : Int32)), (.ref a1)]) s1 EF := fun t k => pre32 t (by
   refine XS.aloadN X28.here hx rfl (B d10_10) rfl rfl ?_
   exact XS.iloadN X28.here hx rfl (B d10_11) rfl k)
  obtain ⟨cl34, Ar34, q34, Sz34, M34, H34, G34⟩ := id (((V1.other W8 ne12).other W18 ne12).other W28 ne12)
  have hin34 : ¬ ((3 : Int32) < 0 ∨ cl34.slots.size ≤ ((3 : Int32)).toNatClampNeg) := inb_of Sz34 ⟨by decide, by decide⟩
  have hat34 : cl34.slots[((3 : Int32)).toNatClampNeg]? = some (.int c3) := Has.at H34 hin34 rfl
  have pre35 : Go p e bl T28 (mkF m 20 #[rv a1, iv (3 : Int32), rv a2, iv (3 : Int32), iv (4 : Int32), iv (3 : Int32), iv c3] [(.int (255 : Int32)), (.int c3)]) s1 EF := fun t k => pre33 t (by
   refine X28.caload hx (j := (3 : Int32)) (v := (.int c3)) (by rw [e28]; exact Ar34.1) (State.isArrayOf_alike hZ.alike Ar34.2.1) Ar34.2.2 hin34 hat34 (g := (mkF m 12 #[rv a1, iv (3 : Int32), rv a2, iv (3 : Int32), iv (4 : Int32), iv (3 : Int32), iv c2] [(.int (3 : Int32)), (.ref a1)])) rfl rfl (B d10_12) _ ?_
   refine XS.istore X28.here hx rfl (B d10_13) rfl (l' := #[rv a1, iv (3 : Int32), rv a2, iv (3 : Int32), iv (4 : Int32), iv (3 : Int32), iv c3]) rfl ?_
   refine XS.iload X28.here hx rfl (B d10_15) rfl ?_
   exact XS.sipush X28.here hx rfl (B d10_17) k)
  have pre36 : Go p e bl T28 (mkF m 26 #[rv a1, iv (3 : Int32), rv a2, iv (3 : Int32), iv (4 : Int32), iv (3 : Int32), iv c3] []) s1 EF := fun t k => pre35 t (XS.icmpYes X28.here hx rfl (pc0 := 20) (pc' := 26) rfl (B d10_20) rfl (flt (hle c3 (List.mem_of_getElem? (i := 3) rfl))).2.2.2 (by decide) (by decide) k)
  have pre37 : Go p e bl T28 (mkF m 31 #[rv a1, iv (3 : Int32), rv a2, iv (3 : Int32), iv (4 : Int32), iv (3 : Int32), iv c3] [(.int (c3.toInt8.toInt32)), (.int (3 : Int32)), (.ref a2)]) s1 EF := fun t k => pre36 t (by
   refine XS.aloadN X28.here hx rfl (B d10_26) rfl rfl ?_
   refine XS.iloadN X28.here hx rfl (B d10_27) rfl ?_
   refine XS.iload X28.here hx rfl (B d10_28) rfl ?_
   exact XS.i2b X28.here hx rfl (B d10_30) rfl k)
  obtain ⟨cl38, Ar38, q38, Sz38, M38, H38, G38⟩ := id V28
  have hin38 : ¬ ((3 : Int32) < 0 ∨ cl38.slots.size ≤ ((3 : Int32)).toNatClampNeg) := inb_of Sz38 ⟨by decide, by decide⟩
  obtain ⟨T38, h38, X38, e38, W38, st38⟩ := stB X28 hx hZ e28 Ar38 (j := (3 : Int32)) hin38 (g := (mkF m 31 #[rv a1, iv (3 : Int32), rv a2, iv (3 : Int32), iv (4 : Int32), iv (3 : Int32), iv c3] [(.int (c3.toInt8.toInt32)), (.int (3 : Int32)), (.ref a2)])) rfl rfl (B d10_31)
  rw [own_i2b2] at W38
  have pre39 : Go p e bl T38 (mkF m 32 #[rv a1, iv (3 : Int32), rv a2, iv (3 : Int32), iv (4 : Int32), iv (3 : Int32), iv c3] []) s1 EF := fun t k => pre37 t (st38 t k)
  have O40 : Old Z n0 h38 := O30.wr W38 g_a2
  have Z40 : n0 ≤ h38.size := Nat.le_trans Z30 (Keep.of_wr W38).1
  have K40 : Keep h0 h38 [a2] := K30.wr W38 (Or.inl (List.mem_of_getElem? (i := 0) rfl))
  have V38 : Arv Z h38 a2 k2 .byte (4 : Int32) [(.int (c0.toInt8.toInt32)), (.int (c1.toInt8.toInt32)), (.int (c2.toInt8.toInt32)), (.int (c3.toInt8.toInt32))] (.int (0 : Int32)) := Arv.set Ar38 q38 Sz38 M38 H38 G38 (fits_nar_byte _) W38 3 rfl (Nat.le_of_ble_eq_true rfl)
  have N38 := Fr.snoc X38 N28 g_a2
  have pre41 : Go p e bl T38 (mkF m 7 #[rv a1, iv (4 : Int32), rv a2, iv (4 : Int32), iv (4 : Int32), iv (4 : Int32), iv c3] [(.int (4 : Int32)), (.int (4 : Int32))]) s1 EF := fun t k => pre39 t (by
   refine XS.iinc X38.here hx rfl (B d10_32) rfl (l' := #[rv a1, iv (4 : Int32), rv a2, iv (3 : Int32), iv (4 : Int32), iv (3 : Int32), iv c3]) rfl ?_
   refine XS.iinc X38.here hx rfl (B d10_35) rfl (l' := #[rv a1, iv (4 : Int32), rv a2, iv (4 : Int32), iv (4 : Int32), iv (3 : Int32), iv c3]) rfl ?_
   refine XS.iinc X38.here hx rfl (B d10_38) rfl (l' := #[rv a1, iv (4 : Int32), rv a2, iv (4 : Int32), iv (4 : Int32), iv (4 : Int32), iv c3]) rfl ?_
   refine XS.goto X38.here hx rfl (pc0 := 41) (pc' := 3) rfl (B d10_41) (by decide) (by decide) ?_
   refine XS.iload X38.here hx rfl (B d10_3) rfl ?_
   exact XS.iload X38.here hx rfl (B d10_5) rfl k)
  have pre42 : Go p e bl T38 (mkF m 44 #[rv a1, iv (4 : Int32), rv a2, iv (4 : Int32), iv (4 : Int32), iv (4 : Int32), iv c3] []) s1 EF := fun t k => pre41 t (XS.icmpYes X38.here hx rfl (pc0 := 7) (pc' := 44) rfl (B d10_7) rfl (flt (by decide : ¬ ((4 : Int32) < (4 : Int32)))).2.1 (by decide) (by decide) k)
  have pre43 : Go p e bl T38 (mkF m 46 #[rv a1, iv (4 : Int32), rv a2, iv (4 : Int32), iv (4 : Int32), iv (4 : Int32), iv c3] [(.int (4 : Int32))]) s1 EF := fun t k => pre42 t (by
   exact XS.iload X38.here hx rfl (B d10_44) rfl k)
  exact fin1 X38 (v := some (.int (4 : Int32))) hrt hlk (wl rfl) (wl rfl) (by rw [e38]; exact ⟨rfl, N38, K40, V38⟩) (fun fs hr => hEF ▸ pre43 _ (retOut X38 hx Bd.returns rfl (Or.inl ⟨rfl, Or.inl rfl, _, rfl⟩) (B d10_46) hr))
abbrev rKKb4 : Room := { frames := 1, cells := 1, slots := 4, locals := 18 }
theorem efKb4 (m : MethodId) (a1 : Addr) : entryFrame m #[(.ref a1), (.int (0 : Int32)), (.int (4 : Int32))] 6 = mkF m 0 #[rv a1, iv (0 : Int32), iv (4 : Int32), .unset, .unset, .unset] [] := by first | (simp [entryFrame, mkF, argsToLocals, Value.category]; done) | rfl
def QKb4 (Z : State) (a1 : Addr) (cz : Int32) (fv : Value) (k1 : ClassId) (c0 : Int32) (c1 : Int32) (c2 : Int32) (c3 : Int32) (h0 : Heap) (n0 : Nat) (v : Option Value) (h : Heap) (L : List Loc) : Prop := ∃ b k, v = some (.ref b) ∧ Fr n0 L ∧ Keep h0 h [] ∧ h0.size ≤ b ∧ Arv Z h b k .byte (4 : Int32) [(.int (c0.toInt8.toInt32)), (.int (c1.toInt8.toInt32)), (.int (c2.toInt8.toInt32)), (.int (c3.toInt8.toInt32))] (.int (0 : Int32)) ∧ Exa Z h b "[B"
set_option maxRecDepth 65536 in
set_option maxHeartbeats 40000000 in
theorem rmKb4 (l : Launch) (Z : State) (a0 : Array Value) (hw : HW a0 Z) (ws : List Jvm.Cond) (a1 : Addr) (cz : Int32) (fv : Value) (k1 : ClassId) (c0 : Int32) (c1 : Int32) (c2 : Int32) (c3 : Int32) (h0 : Heap) (n0 : Nat) (Z0 : n0 ≤ h0.size) (O0 : Old Z n0 h0) (J0 : Jd Z cz fv) (V1 : Arv Z h0 a1 k1 .char (4 : Int32) [(.int c0), (.int c1), (.int c2), (.int c3)] (.int (0 : Int32))) (hle : (∀ c ∈ [c0, c1, c2, c3], ¬ (255 : Int32) < c)) :
    MF l Z mN11 jdk_52_method_16_code 6 (some (.array .byte)) ws rKKb4 #[(.ref a1), (.int (0 : Int32)), (.int (4 : Int32))] h0 (QKb4 Z a1 cz fv k1 c0 c1 c2 c3 h0 n0) := by
  refine MetFree.of_bodySF (plainFor_of_name pn3) hisR ?_
  intro p e s m args bl meth c s1 Bd hml0 hP hK
  obtain ⟨rfl, hZ, hh⟩ := hP
  have hx := Bd.exec
  have hby := Bd.bytes
  have B := @hb c _ hby
  have hM := fun {n : Nat} (h : n = 6) => h.trans hml0.symm
  have hown : s.vm.findClass "java/lang/StringUTF16" = some m.cls := findClass_of_methodNamed Bd.named
  have hlk : meth.locks = false := BodyLoose.notSynchronized Bd
  have hrt : ∀ {v : Option Value}, meth.sig.returnType = none → v = none := fun h => by rw [Bd.returns] at h; cases h
  have X0 : Stand p l e rKKb4 s m #[(.ref a1), (.int (0 : Int32)), (.int (4 : Int32))] bl meth c s1 [] 0 0 := Stand.of_body Bd
  have e0 : s1.heap = h0 := by rw [← hh, Bd.state]; rfl
  have N0 := Fr.nil n0
  obtain ⟨EF, hEF⟩ : ∃ f, f = entryFrame m #[(.ref a1), (.int (0 : Int32)), (.int (4 : Int32))] 6 := ⟨_, rfl⟩
  have pre0 : Go p e bl s1 (mkF m 0 #[rv a1, iv (0 : Int32), iv (4 : Int32), .unset, .unset, .unset] []) s1 EF := fun t k => by rw [hEF]; exact castTop (efKb4 m a1) k
  have pre1 : Go p e bl s1 (mkF m 1 #[rv a1, iv (0 : Int32), iv (4 : Int32), .unset, .unset, .unset] [(.int (4 : Int32))]) s1 EF := fun t k => pre0 t (by
   exact XS.iloadN X0.here hx rfl (B d11_0) rfl k)
  obtain ⟨T2, h2, k2, X2, e2, Et2, A2, AX2, st2⟩ := newPE X0 hx hZ (hw _ (mW 27 rfl)) e0 (g := (mkF m 1 #[rv a1, iv (0 : Int32), iv (4 : Int32), .unset, .unset, .unset] [(.int (4 : Int32))])) rfl (B d11_1) rfl (by decide) (cap := 4) (by decide) (by decide) (by decide) (by decide) (ad := "[B") (by decide)
  obtain ⟨b2, g2⟩ : ∃ z, z = h0.size := ⟨_, rfl⟩
  rw [← g2] at A2 st2 AX2
  have g_b2 : n0 ≤ b2 := Nat.le_trans Z0 (Nat.le_of_eq g2.symm)
  have sz_b2 : h0.size ≤ b2 := Nat.le_trans (Keep.refl h0 []).1 (Nat.le_of_eq g2.symm)
  have ne_a1_b2 : a1 ≠ b2 := Nat.ne_of_lt (Nat.lt_of_lt_of_le V1.lt (Nat.le_of_eq g2.symm))
  have pre3 : Go p e bl T2 (mkF m 3 #[rv a1, iv (0 : Int32), iv (4 : Int32), .unset, .unset, .unset] [(.ref b2)]) s1 EF := fun t k => pre1 t (st2 t k)
  have O4 : Old Z n0 h2 := O0.ext Et2
  have Z4 : n0 ≤ h2.size := Nat.le_trans Z0 Et2.1
  have K4 : Keep h0 h2 [] := (Keep.refl h0 []).ext Et2
  have V2 : Arv Z h2 b2 k2 .byte (4 : Int32) [(.int (0 : Int32)), (.int (0 : Int32)), (.int (0 : Int32)), (.int (0 : Int32))] (.int (0 : Int32)) := (Arv.new A2 (by decide)).pad (pad_rep [] (.int (0 : Int32)) 4)
  have pre5 : Go p e bl T2 (mkF m 9 #[rv a1, iv (0 : Int32), iv (4 : Int32), rv b2, .unset, .unset] [(.int (4 : Int32)), (.int (0 : Int32)), (.ref b2), (.int (0 : Int32)), (.ref a1)]) s1 EF := fun t k => pre3 t (by
   refine XS.astoreN X2.here hx rfl (B d11_3) rfl rfl (l' := #[rv a1, iv (0 : Int32), iv (4 : Int32), rv b2, .unset, .unset]) rfl ?_
   refine XS.aloadN X2.here hx rfl (B d11_4) rfl rfl ?_
   refine XS.iloadN X2.here hx rfl (B d11_5) rfl ?_
   refine XS.aloadN X2.here hx rfl (B d11_6) rfl rfl ?_
   refine XS.iconst X2.here hx rfl (B d11_7) ?_
   exact XS.iloadN X2.here hx rfl (B d11_8) rfl k)
  obtain ⟨_, _, ⟨T6, L6, k6, n6⟩, -, X6, ⟨Lc6, hQ6, l6, y6, z6⟩, st6⟩ := Jvm.LawKit.callS X2 hx (y := mN10) hown (mvT hZ (hw _ (mW 28 rfl))) (mvT hZ (hw _ (mW 29 rfl))) (mvT hZ (hw _ (mW 25 rfl))) (mvT hZ (hw _ (mW 30 rfl))) (by decide) (backOf (W := 0) (rmKa4 l Z a0 hw [] a1 b2 cz fv k1 k2 c0 c1 c2 c3 h2 n0 Z4 O4 J0 (V1.ext Et2) V2 ne_a1_b2 g_b2 hle) hZ (hw _ (mW 30 rfl)) (hw _ (mW 25 rfl)) (by decide) (by decide)) (g := (mkF m 9 #[rv a1, iv (0 : Int32), iv (4 : Int32), rv b2, .unset, .unset] [(.int (4 : Int32)), (.int (0 : Int32)), (.ref b2), (.int (0 : Int32)), (.ref a1)])) rfl (hM rfl) (argsL := [(.ref a1), (.int (0 : Int32)), (.ref b2), (.int (0 : Int32)), (.int (4 : Int32))]) (rest := []) (lenOf pd6 rfl) rfl (Nat.le_of_eq rfl) (B d11_9) (fun _ _ => ⟨rfl, e2, wl rfl, wl rfl⟩)
  dsimp only [Pt.U, Pt.locs, Pt.cells, Pt.slots] at X6 l6 y6 z6 st6 hQ6
  subst l6 y6 z6
  obtain ⟨rfl, N6q, K6, VL6⟩ := hQ6
  have N6 := Fr.app N0 N6q
  have pre7 : Go p e bl T6 (mkF m 12 #[rv a1, iv (0 : Int32), iv (4 : Int32), rv b2, .unset, .unset] [(.int (4 : Int32))]) s1 EF := fun t k => pre5 t (st6 t k)
  have O8 : Old Z n0 T6.heap := O4.keep K6 (allS g_b2 all0)
  have Z8 : n0 ≤ T6.heap.size := Nat.le_trans Z4 K6.1
  have K8 : Keep h0 T6.heap [] := K4.trans K6 (allS (Or.inr sz_b2) all0)
  have pre9 : Go p e bl T6 (mkF m 17 #[rv a1, iv (0 : Int32), iv (4 : Int32), rv b2, iv (4 : Int32), .unset] [(.int (4 : Int32)), (.int (4 : Int32))]) s1 EF := fun t k => pre7 t (by
   refine XS.istore X6.here hx rfl (B d11_12) rfl (l' := #[rv a1, iv (0 : Int32), iv (4 : Int32), rv b2, iv (4 : Int32), .unset]) rfl ?_
   refine XS.iload X6.here hx rfl (B d11_14) rfl ?_
   exact XS.iloadN X6.here hx rfl (B d11_16) rfl k)
  have pre10 : Go p e bl T6 (mkF m 57 #[rv a1, iv (0 : Int32), iv (4 : Int32), rv b2, iv (4 : Int32), .unset] []) s1 EF := fun t k => pre9 t (XS.icmpYes X6.here hx rfl (pc0 := 17) (pc' := 57) rfl (B d11_17) rfl (teq (by decide : (4 : Int32) = (4 : Int32))).1 (by decide) (by decide) k)
  have pre11 : Go p e bl T6 (mkF m 58 #[rv a1, iv (0 : Int32), iv (4 : Int32), rv b2, iv (4 : Int32), .unset] [(.ref b2)]) s1 EF := fun t k => pre10 t (by
   exact XS.aloadN X6.here hx rfl (B d11_57) rfl rfl k)
  exact fin1 X6 (v := some (.ref b2)) hrt hlk (wl rfl) (wl rfl) (by exact ⟨_, _, rfl, N6, K8, sz_b2, VL6, (AX2.keep K6)⟩) (fun fs hr => hEF ▸ pre11 _ (retOut X6 hx Bd.returns rfl (Or.inr (Or.inr (Or.inr (Or.inr ⟨rfl, rfl, rfl⟩)))) (B d11_58) hr))
abbrev rKKc4_0 : Room := { frames := 0, cells := 0, slots := 0, locals := 0 }
theorem efKc4_0 (m : MethodId) (a1 : Addr) : entryFrame m #[(.ref a1), (.int (4 : Int32))] 2 = mkF m 0 #[rv a1, iv (4 : Int32)] [] := by first | (simp [entryFrame, mkF, argsToLocals, Value.category]; done) | rfl
def QKc4_0 (Z : State) (a1 : Addr) (cz : Int32) (fv : Value) (k : ClassId) (vs : List Value) (h0 : Heap) (n0 : Nat) (v : Option Value) (h : Heap) (L : List Loc) : Prop := v = some (.int (0 : Int32)) ∧ Fr n0 L ∧ h = h0
set_option maxRecDepth 65536 in
set_option maxHeartbeats 40000000 in
theorem rmKc4_0 (l : Launch) (Z : State) (a0 : Array Value) (hw : HW a0 Z) (ws : List Jvm.Cond) (a1 : Addr) (cz : Int32) (fv : Value) (k : ClassId) (vs : List Value) (h0 : Heap) (n0 : Nat) (Z0 : n0 ≤ h0.size) (O0 : Old Z n0 h0) (J0 : Jd Z cz fv) (VV : Arv Z h0 a1 k .byte (4 : Int32) vs (.int 0)) :
    MF l Z mN12 jdk_52_method_15_code 2 (some .byte) ws rKKc4_0 #[(.ref a1), (.int (4 : Int32))] h0 (QKc4_0 Z a1 cz fv k vs h0 n0) := by
  refine MetFree.of_bodySF (plainFor_of_name pn3) hisR ?_
  intro p e s m args bl meth c s1 Bd hml0 hP hK
  obtain ⟨rfl, hZ, hh⟩ := hP
  have hx := Bd.exec
  have hby := Bd.bytes
  have B := @hb c _ hby
  have hown : s.vm.findClass "java/lang/StringUTF16" = some m.cls := findClass_of_methodNamed Bd.named
  have hlk : meth.locks = false := BodyLoose.notSynchronized Bd
  have hrt : ∀ {v : Option Value}, meth.sig.returnType = none → v = none := fun h => by rw [Bd.returns] at h; cases h
  have X0 : Stand p l e rKKc4_0 s m #[(.ref a1), (.int (4 : Int32))] bl meth c s1 [] 0 0 := Stand.of_body Bd
  have e0 : s1.heap = h0 := by rw [← hh, Bd.state]; rfl
  have N0 := Fr.nil n0
  obtain ⟨EF, hEF⟩ : ∃ f, f = entryFrame m #[(.ref a1), (.int (4 : Int32))] 2 := ⟨_, rfl⟩
  have pre0 : Go p e bl s1 (mkF m 0 #[rv a1, iv (4 : Int32)] []) s1 EF := fun t k => by rw [hEF]; exact castTop (efKc4_0 m a1) k
  have pre1 : Go p e bl s1 (mkF m 2 #[rv a1, iv (4 : Int32)] [(.ref a1), (.int (4 : Int32))]) s1 EF := fun t k => pre0 t (by
   refine XS.iloadN X0.here hx rfl (B d12_0) rfl ?_
   exact XS.aloadN X0.here hx rfl (B d12_1) rfl rfl k)
  obtain ⟨cl2, Ar2, q2, Sz2, M2, H2, G2⟩ := id VV
  have pre3 : Go p e bl s1 (mkF m 8 #[rv a1, iv (4 : Int32)] [(.int (0 : Int32))]) s1 EF := fun t k => pre1 t (by
   refine X0.arraylength hx (by rw [e0]; exact Ar2.1) (State.isArrayOf_alike hZ.alike Ar2.2.1) (g := (mkF m 2 #[rv a1, iv (4 : Int32)] [(.ref a1), (.int (4 : Int32))])) rfl rfl (B d12_2) _ ?_
   rw [len_of Sz2 M2]
   refine XS.isub X0.here hx rfl (B d12_3) rfl ?_
   refine XS.bipush X0.here hx rfl (B d12_4) ?_
   refine XS.iushr X0.here hx rfl (B d12_6) rfl ?_
   exact XS.i2b X0.here hx rfl (B d12_7) rfl k)
  have hnr : Value.int (nar .byte (0 : Int32)) = (.int (0 : Int32)) := by rfl
  exact fin1 X0 (v := some (.int (0 : Int32))) hrt hlk (wl rfl) (wl rfl) (by rw [e0]; exact ⟨rfl, N0, rfl⟩) (fun fs hr => hEF ▸ pre3 _ (retN X0 hx (t := .byte) Bd.returns (by simp) (B d12_8) (hnr ▸ hr)))
abbrev rKKi4 : Room := { frames := 2, cells := 1, slots := 4, locals := 35 }
theorem efKi4 (m : MethodId) (a1 : Addr) (a2 : Addr) : entryFrame m #[(.ref a1), (.ref a2), (.int (0 : Int32)), (.int (4 : Int32)), .null] 6 = mkF m 0 #[rv a1, rv a2, iv (0 : Int32), iv (4 : Int32), .val .null, .unset] [] := by first | (simp [entryFrame, mkF, argsToLocals, Value.category]; done) | rfl
def QKi4 (Z : State) (a1 : Addr) (a2 : Addr) (cz : Int32) (fv : Value) (k1 : ClassId) (c0 : Int32) (c1 : Int32) (c2 : Int32) (c3 : Int32) (h0 : Heap) (n0 : Nat) (v : Option Value) (h : Heap) (L : List Loc) : Prop := v = none ∧ Fr n0 L ∧ Keep h0 h [a1] ∧ ∃ b k, h0.size ≤ b ∧ StL Z h a1 b k (4 : Int32) [c0.toInt8.toInt32, c1.toInt8.toInt32, c2.toInt8.toInt32, c3.toInt8.toInt32] 0 0
set_option maxRecDepth 65536 in
set_option maxHeartbeats 40000000 in
theorem rmKi4 (l : Launch) (Z : State) (a0 : Array Value) (hw : HW a0 Z) (ws : List Jvm.Cond) (a1 : Addr) (a2 : Addr) (cz : Int32) (fv : Value) (k1 : ClassId) (c0 : Int32) (c1 : Int32) (c2 : Int32) (c3 : Int32) (h0 : Heap) (n0 : Nat) (Z0 : n0 ≤ h0.size) (O0 : Old Z n0 h0) (J0 : Jd Z cz fv) (E1 : Exa Z h0 a1 "java/lang/String") (g_a1 : n0 ≤ a1) (F1 : Fld Z h0 a1 "java/lang/String" "value" "[B" .null) (F2 : Fld Z h0 a1 "java/lang/String" "coder" "B" (.int (0 : Int32))) (F3 : Fld Z h0 a1 "java/lang/String" "hash" "I" (.int (0 : Int32))) (F4 : Fld Z h0 a1 "java/lang/String" "hashIsZero" "Z" (.int (0 : Int32))) (V2 : Arv Z h0 a2 k1 .char (4 : Int32) [(.int c0), (.int c1), (.int c2), (.int c3)] (.int (0 : Int32))) (hle : (∀ c ∈ [c0, c1, c2, c3], ¬ (255 : Int32) < c)) :
    MF l Z mN13 jdk_42_method_149_code 6 none ws rKKi4 #[(.ref a1), (.ref a2), (.int (0 : Int32)), (.int (4 : Int32)), .null] h0 (QKi4 Z a1 a2 cz fv k1 c0 c1 c2 c3 h0 n0) := by
  refine MetFree.of_bodySF (plainFor_of_name pn0) hisR ?_
  intro p e s m args bl meth c s1 Bd hml0 hP hK
  obtain ⟨rfl, hZ, hh⟩ := hP
  have hx := Bd.exec
  have hby := Bd.bytes
  have B := @hb c _ hby
  have hM := fun {n : Nat} (h : n = 6) => h.trans hml0.symm
  have hown : s.vm.findClass "java/lang/String" = some m.cls := findClass_of_methodNamed Bd.named
  have hnm := (name_of_methodNamed Bd.named Bd.method).1
  have hlk : meth.locks = false := BodyLoose.notSynchronized Bd
  have X0 : Stand p l e rKKi4 s m #[(.ref a1), (.ref a2), (.int (0 : Int32)), (.int (4 : Int32)), .null] bl meth c s1 [] 0 0 := Stand.of_body Bd
  have e0 : s1.heap = h0 := by rw [← hh, Bd.state]; rfl
  have N0 := Fr.nil n0
  obtain ⟨EF, hEF⟩ : ∃ f, f = entryFrame m #[(.ref a1), (.ref a2), (.int (0 : Int32)), (.int (4 : Int32)), .null] 6 := ⟨_, rfl⟩
  have pre0 : Go p e bl s1 (mkF m 0 #[rv a1, rv a2, iv (0 : Int32), iv (4 : Int32), .val .null, .unset] []) s1 EF := fun t k => by rw [hEF]; exact castTop (efKi4 m a1 a2) k
  have pre1 : Go p e bl s1 (mkF m 1 #[rv a1, rv a2, iv (0 : Int32), iv (4 : Int32), .val .null, .unset] [(.ref a1)]) s1 EF := fun t k => pre0 t (by
   exact XS.aloadN X0.here hx rfl (B d13_0) rfl rfl k)
  obtain ⟨T2, X2, e2, st2⟩ := initO X0 hx hZ hown (hw _ (mW 19 rfl)) (hw _ (mW 20 rfl)) (hw _ (mW 21 rfl)) e0 (g := (mkF m 1 #[rv a1, rv a2, iv (0 : Int32), iv (4 : Int32), .val .null, .unset] [(.ref a1)])) rfl (hM rfl) rfl (B d13_1) (by decide) (W := 0) (Nat.le_of_eq rfl) (by decide)
  have pre3 : Go p e bl T2 (mkF m 4 #[rv a1, rv a2, iv (0 : Int32), iv (4 : Int32), .val .null, .unset] []) s1 EF := fun t k => pre1 t (st2 t k)
  have pre4 : Go p e bl T2 (mkF m 5 #[rv a1, rv a2, iv (0 : Int32), iv (4 : Int32), .val .null, .unset] [(.int (4 : Int32))]) s1 EF := fun t k => pre3 t (by
   exact XS.iloadN X2.here hx rfl (B d13_4) rfl k)
  have pre5 : Go p e bl T2 (mkF m 27 #[rv a1, rv a2, iv (0 : Int32), iv (4 : Int32), .val .null, .unset] []) s1 EF := fun t k => pre4 t (XS.ifYes X2.here hx rfl (pc0 := 5) (pc' := 27) rfl (B d13_5) rfl ((if0 _ _).trans (feq (by decide : ¬ ((4 : Int32) = (0 : Int32)))).2) (by decide) (by decide) k)
  obtain ⟨T6, X6, e6, st6⟩ := getS2 X2 hx hZ hown (host := "") (Or.inl (hw _ (mW 22 rfl))) Via.refl e2 (J0.1.ext O0.2) (g := (mkF m 27 #[rv a1, rv a2, iv (0 : Int32), iv (4 : Int32), .val .null, .unset] [])) rfl (B d13_27)
  have pre7 : Go p e bl T6 (mkF m 30 #[rv a1, rv a2, iv (0 : Int32), iv (4 : Int32), .val .null, .unset] [(.int cz)]) s1 EF := fun t k => pre5 t (st6 t k)
  have pre8 : Go p e bl T6 (mkF m 33 #[rv a1, rv a2, iv (0 : Int32), iv (4 : Int32), .val .null, .unset] []) s1 EF := fun t k => pre7 t (XS.ifNo X6.here hx rfl (B d13_30) rfl ((if0 _ _).trans (feq J0.2.1).1) k)
  have pre9 : Go p e bl T6 (mkF m 36 #[rv a1, rv a2, iv (0 : Int32), iv (4 : Int32), .val .null, .unset] [(.int (4 : Int32)), (.int (0 : Int32)), (.ref a2)]) s1 EF := fun t k => pre8 t (by
   refine XS.aloadN X6.here hx rfl (B d13_33) rfl rfl ?_
   refine XS.iloadN X6.here hx rfl (B d13_34) rfl ?_
   exact XS.iloadN X6.here hx rfl (B d13_35) rfl k)
  obtain ⟨_, _, ⟨T10, L10, k10, n10⟩, -, X10, ⟨Lc10, hQ10, l10, y10, z10⟩, st10⟩ := Jvm.LawKit.callS X6 hx (y := mN11) hown (mvT hZ (hw _ (mW 23 rfl))) (mvT hZ (hw _ (mW 24 rfl))) (mvT hZ (hw _ (mW 25 rfl))) (mvT hZ (hw _ (mW 26 rfl))) (by decide) (backOf (W := 0) (rmKb4 l Z a0 hw [] a2 cz fv k1 c0 c1 c2 c3 h0 n0 Z0 O0 J0 V2 hle) hZ (hw _ (mW 26 rfl)) (hw _ (mW 25 rfl)) (by decide) (by decide)) (g := (mkF m 36 #[rv a1, rv a2, iv (0 : Int32), iv (4 : Int32), .val .null, .unset] [(.int (4 : Int32)), (.int (0 : Int32)), (.ref a2)])) rfl (hM rfl) (argsL := [(.ref a2), (.int (0 : Int32)), (.int (4 : Int32))]) (rest := []) (lenOf pd7 rfl) rfl (Nat.le_of_eq rfl) (B d13_36) (fun _ _ => ⟨rfl, e6, wl rfl, wl rfl⟩)
  dsimp only [Pt.U, Pt.locs, Pt.cells, Pt.slots] at X10 l10 y10 z10 st10 hQ10
  subst l10 y10 z10
  obtain ⟨bv, kb10, rfl, N10q, K10, hsz10, VB10, EB10⟩ := hQ10
  have N10 := Fr.app N0 N10q
  have pre11 : Go p e bl T10 (mkF m 39 #[rv a1, rv a2, iv (0 : Int32), iv (4 : Int32), .val .null, .unset] [(.ref bv)]) s1 EF := fun t k => pre9 t (st10 t k)
  have O12 : Old Z n0 T10.heap := O0.keep K10 all0
  have Z12 : n0 ≤ T10.heap.size := Nat.le_trans Z0 K10.1
  have K12 : Keep h0 T10.heap [a1] := (Keep.refl h0 [a1]).trans K10 all0
  have g_bv : n0 ≤ bv := Nat.le_trans Z0 hsz10
  have sz_bv : h0.size ≤ bv := Nat.le_trans (Keep.refl h0 [a1]).1 hsz10
  have ne_a1_bv : a1 ≠ bv := Nat.ne_of_lt (Nat.lt_of_lt_of_le E1.lt hsz10)
  have pre13 : Go p e bl T10 (mkF m 45 #[rv a1, rv a2, iv (0 : Int32), iv (4 : Int32), .val .null, rv bv] [(.int (4 : Int32)), (.ref bv), (.ref a1)]) s1 EF := fun t k => pre11 t (by
   refine XS.astore X10.here hx rfl (B d13_39) rfl rfl (l' := #[rv a1, rv a2, iv (0 : Int32), iv (4 : Int32), .val .null, rv bv]) rfl ?_
   refine XS.aloadN X10.here hx rfl (B d13_41) rfl rfl ?_
   refine XS.aload X10.here hx rfl (B d13_42) rfl rfl ?_
   exact XS.iloadN X10.here hx rfl (B d13_44) rfl k)
  obtain ⟨_, _, ⟨T14, L14, k14, n14⟩, -, X14, ⟨Lc14, hQ14, l14, y14, z14⟩, st14⟩ := Jvm.LawKit.callS X10 hx (y := mN12) hown (mvT hZ (hw _ (mW 31 rfl))) (mvT hZ (hw _ (mW 32 rfl))) (mvT hZ (hw _ (mW 25 rfl))) (mvT hZ (hw _ (mW 33 rfl))) (by decide) (backOf (W := 1) (rmKc4_0 l Z a0 hw [] bv cz fv kb10 _ T10.heap n0 Z12 O12 J0 VB10) hZ (hw _ (mW 33 rfl)) (hw _ (mW 25 rfl)) (by decide) (by decide)) (g := (mkF m 45 #[rv a1, rv a2, iv (0 : Int32), iv (4 : Int32), .val .null, rv bv] [(.int (4 : Int32)), (.ref bv), (.ref a1)])) rfl (hM rfl) (argsL := [(.ref bv), (.int (4 : Int32))]) (rest := [(.ref a1)]) (lenOf pd8 rfl) rfl (Nat.le_of_eq rfl) (B d13_45) (fun _ _ => ⟨rfl, rfl, wl rfl, wl rfl⟩)
  dsimp only [Pt.U, Pt.locs, Pt.cells, Pt.slots] at X14 l14 y14 z14 st14 hQ14
  subst l14 y14 z14
  obtain ⟨rfl, N14q, hq14⟩ := hQ14
  have N14 := Fr.app N10 N14q
  have pre15 : Go p e bl T14 (mkF m 48 #[rv a1, rv a2, iv (0 : Int32), iv (4 : Int32), .val .null, rv bv] [(.int (0 : Int32)), (.ref a1)]) s1 EF := fun t k => pre13 t (st14 t k)
  have e14 : T14.heap = T10.heap := hq14
  obtain ⟨T16, h16, X16, e16, W16, st16⟩ := putFN X14 hx hZ hown (hw _ (mW 34 rfl)) Via.refl e14 (F2.keep K10 nin0) (E1.keep K10) (Or.inr ⟨(hw _ (mW 35 rfl)), rfl, hnm⟩) (hw _ (mW 9 rfl)) (ty := .byte) (v' := (.int (0 : Int32))) (by decide) rfl rfl (g := (mkF m 48 #[rv a1, rv a2, iv (0 : Int32), iv (4 : Int32), .val .null, rv bv] [(.int (0 : Int32)), (.ref a1)])) rfl rfl (B d13_48)
  have pre17 : Go p e bl T16 (mkF m 51 #[rv a1, rv a2, iv (0 : Int32), iv (4 : Int32), .val .null, rv bv] []) s1 EF := fun t k => pre15 t (st16 t k)
  have O18 : Old Z n0 h16 := O12.wr W16 g_a1
  have Z18 : n0 ≤ h16.size := Nat.le_trans Z12 (Keep.of_wr W16).1
  have K18 : Keep h0 h16 [a1] := K12.wr W16 (Or.inl (List.mem_of_getElem? (i := 0) rfl))
  have Fw16 := Fld.same W16 (F2.keep K10 nin0)
  have N16 := Fr.snoc X16 N14 g_a1
  have pre19 : Go p e bl T16 (mkF m 54 #[rv a1, rv a2, iv (0 : Int32), iv (4 : Int32), .val .null, rv bv] [(.ref bv), (.ref a1)]) s1 EF := fun t k => pre17 t (by
   refine XS.aloadN X16.here hx rfl (B d13_51) rfl rfl ?_
   exact XS.aload X16.here hx rfl (B d13_52) rfl rfl k)
  obtain ⟨T20, h20, X20, e20, W20, st20⟩ := putF X16 hx hZ hown (host := "") (Or.inl (hw _ (mW 36 rfl))) Via.refl e16 (Fld.other W16 (F1.keep K10 nin0) (Or.inr (slot_ne (Or.inr (hw _ (mW 37 rfl))) (Or.inr (hw _ (mW 35 rfl))) (by decide) (t := (.array .byte)) (t' := .byte) (by decide) (by decide)))) ((E1.keep K10).wr W16) (Or.inr ⟨(hw _ (mW 37 rfl)), rfl, hnm⟩) (hw _ (mW 9 rfl)) (ty := (.array .byte)) (by decide) rfl rfl (g := (mkF m 54 #[rv a1, rv a2, iv (0 : Int32), iv (4 : Int32), .val .null, rv bv] [(.ref bv), (.ref a1)])) rfl rfl (B d13_54)
  have pre21 : Go p e bl T20 (mkF m 57 #[rv a1, rv a2, iv (0 : Int32), iv (4 : Int32), .val .null, rv bv] []) s1 EF := fun t k => pre19 t (st20 t k)
  have O22 : Old Z n0 h20 := O18.wr W20 g_a1
  have Z22 : n0 ≤ h20.size := Nat.le_trans Z18 (Keep.of_wr W20).1
  have K22 : Keep h0 h20 [a1] := K18.wr W20 (Or.inl (List.mem_of_getElem? (i := 0) rfl))
  have Fw20 := Fld.same W20 (Fld.other W16 (F1.keep K10 nin0) (Or.inr (slot_ne (Or.inr (hw _ (mW 37 rfl))) (Or.inr (hw _ (mW 35 rfl))) (by decide) (t := (.array .byte)) (t' := .byte) (by decide) (by decide))))
  have N20 := Fr.snoc X20 N16 g_a1
  exact fin1 X20 (v := none) (fun _ => rfl) hlk (wl rfl) (wl rfl) (by rw [e20]; exact ⟨rfl, N20, K22, _, _, sz_bv, ⟨(((E1.keep K10).wr W16).wr W20), (Fld.other W20 Fw16 (Or.inr (slot_ne (Or.inr (hw _ (mW 35 rfl))) (Or.inr (hw _ (mW 37 rfl))) (by decide) (t := .byte) (t' := (.array .byte)) (by decide) (by decide)))), Fw20, ((VB10.other W16 (Ne.symm ne_a1_bv)).other W20 (Ne.symm ne_a1_bv)), ((EB10.wr W16).wr W20), ne_a1_bv, (Fld.other W20 (Fld.other W16 (F3.keep K10 nin0) (Or.inr (slot_ne (Or.inl (hw _ (mW 129 rfl))) (Or.inr (hw _ (mW 35 rfl))) (by decide) (t := .int) (t' := .byte) (by decide) (by decide)))) (Or.inr (slot_ne (Or.inl (hw _ (mW 129 rfl))) (Or.inr (hw _ (mW 37 rfl))) (by decide) (t := .int) (t' := (.array .byte)) (by decide) (by decide)))), (Fld.other W20 (Fld.other W16 (F4.keep K10 nin0) (Or.inr (slot_ne (Or.inl (hw _ (mW 131 rfl))) (Or.inr (hw _ (mW 35 rfl))) (by decide) (t := .boolean) (t' := .byte) (by decide) (by decide)))) (Or.inr (slot_ne (Or.inl (hw _ (mW 131 rfl))) (Or.inr (hw _ (mW 37 rfl))) (by decide) (t := .boolean) (t' := (.array .byte)) (by decide) (by decide))))⟩⟩) (fun fs hr => hEF ▸ pre21 _ (X20.returnOut hx Bd.returns (B d13_57) hr))
abbrev rKKj4 : Room := { frames := 3, cells := 1, slots := 4, locals := 52 }
theorem efKj4 (m : MethodId) (a1 : Addr) (a2 : Addr) : entryFrame m #[(.ref a1), (.ref a2)] 2 = mkF m 0 #[rv a1, rv a2] [] := by first | (simp [entryFrame, mkF, argsToLocals, Value.category]; done) | rfl
def QKj4 (Z : State) (a1 : Addr) (a2 : Addr) (cz : Int32) (fv : Value) (k1 : ClassId) (c0 : Int32) (c1 : Int32) (c2 : Int32) (c3 : Int32) (h0 : Heap) (n0 : Nat) (v : Option Value) (h : Heap) (L : List Loc) : Prop := v = none ∧ Fr n0 L ∧ Keep h0 h [a1] ∧ ∃ b k, h0.size ≤ b ∧ StL Z h a1 b k (4 : Int32) [c0.toInt8.toInt32, c1.toInt8.toInt32, c2.toInt8.toInt32, c3.toInt8.toInt32] 0 0
set_option maxRecDepth 65536 in
set_option maxHeartbeats 40000000 in
theorem rmKj4 (l : Launch) (Z : State) (a0 : Array Value) (hw : HW a0 Z) (ws : List Jvm.Cond) (a1 : Addr) (a2 : Addr) (cz : Int32) (fv : Value) (k1 : ClassId) (c0 : Int32) (c1 : Int32) (c2 : Int32) (c3 : Int32) (h0 : Heap) (n0 : Nat) (Z0 : n0 ≤ h0.size) (O0 : Old Z n0 h0) (J0 : Jd Z cz fv) (E1 : Exa Z h0 a1 "java/lang/String") (g_a1 : n0 ≤ a1) (F1 : Fld Z h0 a1 "java/lang/String" "value" "[B" .null) (F2 : Fld Z h0 a1 "java/lang/String" "coder" "B" (.int (0 : Int32))) (F3 : Fld Z h0 a1 "java/lang/String" "hash" "I" (.int (0 : Int32))) (F4 : Fld Z h0 a1 "java/lang/String" "hashIsZero" "Z" (.int (0 : Int32))) (V2 : Arv Z h0 a2 k1 .char (4 : Int32) [(.int c0), (.int c1), (.int c2), (.int c3)] (.int (0 : Int32))) (hle : (∀ c ∈ [c0, c1, c2, c3], ¬ (255 : Int32) < c)) :
    MF l Z mN14 jdk_42_method_3_code 2 none ws rKKj4 #[(.ref a1), (.ref a2)] h0 (QKj4 Z a1 a2 cz fv k1 c0 c1 c2 c3 h0 n0) := by
  refine MetFree.of_bodySF (plainFor_of_name pn0) hisR ?_
  intro p e s m args bl meth c s1 Bd hml0 hP hK
  obtain ⟨rfl, hZ, hh⟩ := hP
  have hx := Bd.exec
  have hby := Bd.bytes
  have B := @hb c _ hby
  have hM := fun {n : Nat} (h : n = 2) => h.trans hml0.symm
  have hown : s.vm.findClass "java/lang/String" = some m.cls := findClass_of_methodNamed Bd.named
  have hlk : meth.locks = false := BodyLoose.notSynchronized Bd
  have X0 : Stand p l e rKKj4 s m #[(.ref a1), (.ref a2)] bl meth c s1 [] 0 0 := Stand.of_body Bd
  have e0 : s1.heap = h0 := by rw [← hh, Bd.state]; rfl
  have N0 := Fr.nil n0
  obtain ⟨EF, hEF⟩ : ∃ f, f = entryFrame m #[(.ref a1), (.ref a2)] 2 := ⟨_, rfl⟩
  have pre0 : Go p e bl s1 (mkF m 0 #[rv a1, rv a2] []) s1 EF := fun t k => by rw [hEF]; exact castTop (efKj4 m a1 a2) k
  have pre1 : Go p e bl s1 (mkF m 4 #[rv a1, rv a2] [(.ref a2), (.int (0 : Int32)), (.ref a2), (.ref a1)]) s1 EF := fun t k => pre0 t (by
   refine XS.aloadN X0.here hx rfl (B d14_0) rfl rfl ?_
   refine XS.aloadN X0.here hx rfl (B d14_1) rfl rfl ?_
   refine XS.iconst X0.here hx rfl (B d14_2) ?_
   exact XS.aloadN X0.here hx rfl (B d14_3) rfl rfl k)
  obtain ⟨cl2, Ar2, q2, Sz2, M2, H2, G2⟩ := id V2
  have pre3 : Go p e bl s1 (mkF m 6 #[rv a1, rv a2] [.null, (.int (4 : Int32)), (.int (0 : Int32)), (.ref a2), (.ref a1)]) s1 EF := fun t k => pre1 t (by
   refine X0.arraylength hx (by rw [e0]; exact Ar2.1) (State.isArrayOf_alike hZ.alike Ar2.2.1) (g := (mkF m 4 #[rv a1, rv a2] [(.ref a2), (.int (0 : Int32)), (.ref a2), (.ref a1)])) rfl rfl (B d14_4) _ ?_
   rw [len_of Sz2 M2]
   exact XS.aconstNull X0.here hx rfl (B d14_5) k)
  obtain ⟨_, _, ⟨T4, L4, k4, n4⟩, -, X4, ⟨Lc4, hQ4, l4, y4, z4⟩, st4⟩ := X0.specialBack hx (y := mN13) rfl hown (mvT hZ (hw _ (mW 15 rfl))) (mvT hZ (hw _ (mW 16 rfl))) (mvT hZ (hw _ (mW 18 rfl))) (by decide) (backOf (W := 0) (rmKi4 l Z a0 hw [] a1 a2 cz fv k1 c0 c1 c2 c3 h0 n0 Z0 O0 J0 E1 g_a1 F1 F2 F3 F4 V2 hle) hZ (hw _ (mW 18 rfl)) (hw _ (mW 10 rfl)) (by decide) (by decide)) (g := (mkF m 6 #[rv a1, rv a2] [.null, (.int (4 : Int32)), (.int (0 : Int32)), (.ref a2), (.ref a1)])) rfl (hM rfl) (Steps.refl _) (a := a1) (argsL := [(.ref a2), (.int (0 : Int32)), (.int (4 : Int32)), .null]) (rest := []) (lenOf pd9 rfl) rfl (Nat.le_of_eq rfl) (B d14_6) (fun _ _ => ⟨rfl, e0, wl rfl, wl rfl⟩)
  dsimp only [Pt.U, Pt.locs, Pt.cells, Pt.slots] at X4 l4 y4 z4 st4 hQ4
  subst l4 y4 z4
  obtain ⟨rfl, N4q, K4, bv4, kb4, hsz4, SF4⟩ := hQ4
  have N4 := Fr.app N0 N4q
  have pre5 : Go p e bl T4 (mkF m 9 #[rv a1, rv a2] []) s1 EF := fun t k => pre3 t (st4.trans k)
  have O6 : Old Z n0 T4.heap := O0.keep K4 (allS g_a1 all0)
  have Z6 : n0 ≤ T4.heap.size := Nat.le_trans Z0 K4.1
  have K6 : Keep h0 T4.heap [a1] := (Keep.refl h0 [a1]).trans K4 (allS (Or.inl (List.mem_of_getElem? (i := 0) rfl)) all0)
  exact fin1 X4 (v := none) (fun _ => rfl) hlk (wl rfl) (wl rfl) (by exact ⟨rfl, N4, K6, _, _, hsz4, SF4⟩) (fun fs hr => hEF ▸ pre5 _ (X4.returnOut hx Bd.returns (B d14_9) hr))
theorem own_i2c2 (x : Int32) : nar .char x.toUInt32.toUInt16.toUInt32.toInt32 = x.toUInt32.toUInt16.toUInt32.toInt32 := by
  have q := c_i2c x
  exact own_nc q.2.1 q.2.2
theorem own_nm (u : Int32) : nar .char (u &&& 255) = u &&& 255 := by
  show ((u &&& 255).toUInt32.toUInt16.toUInt32.toInt32) = _
  rw [i2c_mask]
def isaF (c : Int32) : Int32 := if (¬ c < 97 ∧ ¬ 122 < c) ∨ (¬ c < 65 ∧ ¬ 90 < c) ∨ (¬ c < 48 ∧ ¬ 57 < c) ∨ c = 46 ∨ c = 95 ∨ c = 45 then 1 else 0
def alK (k : Int32) : Int32 := if k < 26 then (97 + k).toUInt32.toUInt16.toUInt32.toInt32 else if k < 52 then (65 + (k - 26)).toUInt32.toUInt16.toUInt32.toInt32 else if k < 62 then (48 + (k - 52)).toUInt32.toUInt16.toUInt32.toInt32 else if k = 62 then 46 else if k = 63 then 95 else 45
def okc (c : Int32) : Prop := 0 ≤ c.toInt ∧ c.toInt < 256 ∧ isaF c = 1
instance (c : Int32) : Decidable (okc c) := by unfold okc; infer_instance
def alF (p : Int32) : Int32 := alK ((p &&& 2147483647) % 65)
theorem own_alN : ∀ n : Fin 65, okc (alK (Int32.ofInt n.val)) := by decide +kernel
theorem own_al (p : Int32) : okc (alF p) := by
  unfold alF
  have h1 := c_mask p 2147483647 31 (by decide) (by decide)
  have h2 := (c_irem (p &&& 2147483647) 65 65 (by decide)).1 (by omega)
  have h3 : 0 ≤ ((p &&& 2147483647) % 65).toInt ∧ ((p &&& 2147483647) % 65).toInt < 65 := by omega
  generalize (p &&& 2147483647) % 65 = k at h3
  obtain ⟨n, hn⟩ := Int.eq_ofNat_of_zero_le h3.1
  rw [← Int32.ofInt_toInt k, hn]
  exact own_alN ⟨n, by omega⟩
theorem okc.nc {c : Int32} (h : okc c) : nar .char c = c := own_nc h.1 (Int.lt_trans h.2.1 (by decide))
theorem okc.le {c : Int32} (h : okc c) : ¬ (255 : Int32) < c := by
  have e : (255 : Int32).toInt = 255 := by decide
  have := h.2.1
  rw [Int32.lt_iff_toInt_lt, e]; omega
theorem okc.byte {c : Int32} (h : okc c) : isaF (c.toInt8.toInt32 &&& 255) = 1 := by rw [own_lat h.1 h.2.1]; exact h.2.2
def Gd (n : Int32) (bs : List Int32) : Prop := n.toInt = bs.length ∧ 1 ≤ bs.length ∧ bs.length ≤ 4 ∧ ∀ u ∈ bs, isaF (u &&& 255) = 1
abbrev rKA : Room := { frames := 0, cells := 0, slots := 0, locals := 0 }
theorem d15_0 : decode method_2_code 0 = .ok (.iload_n 0, 1) := by decide +kernel
theorem d15_1 : decode method_2_code 1 = .ok (.ldc 7, 2) := by decide +kernel
theorem d15_3 : decode method_2_code 3 = .ok (.iand, 1) := by decide +kernel
theorem d15_4 : decode method_2_code 4 = .ok (.bipush 65, 2) := by decide +kernel
theorem d15_6 : decode method_2_code 6 = .ok (.irem, 1) := by decide +kernel
theorem d15_7 : decode method_2_code 7 = .ok (.istore_n 1, 1) := by decide +kernel
theorem d15_8 : decode method_2_code 8 = .ok (.iload_n 1, 1) := by decide +kernel
theorem d15_9 : decode method_2_code 9 = .ok (.bipush 26, 2) := by decide +kernel
theorem d15_11 : decode method_2_code 11 = .ok (.if_icmp .ge 9, 3) := by decide +kernel
theorem d15_14 : decode method_2_code 14 = .ok (.bipush 97, 2) := by decide +kernel
theorem d15_16 : decode method_2_code 16 = .ok (.iload_n 1, 1) := by decide +kernel
theorem d15_17 : decode method_2_code 17 = .ok (.iadd, 1) := by decide +kernel
theorem d15_18 : decode method_2_code 18 = .ok (.i2c, 1) := by decide +kernel
theorem d15_19 : decode method_2_code 19 = .ok (.ireturn, 1) := by decide +kernel
theorem d15_20 : decode method_2_code 20 = .ok (.iload_n 1, 1) := by decide +kernel
theorem d15_21 : decode method_2_code 21 = .ok (.bipush 52, 2) := by decide +kernel
theorem d15_23 : decode method_2_code 23 = .ok (.if_icmp .ge 12, 3) := by decide +kernel
theorem d15_26 : decode method_2_code 26 = .ok (.bipush 65, 2) := by decide +kernel
theorem d15_28 : decode method_2_code 28 = .ok (.iload_n 1, 1) := by decide +kernel
theorem d15_29 : decode method_2_code 29 = .ok (.bipush 26, 2) := by decide +kernel
theorem d15_31 : decode method_2_code 31 = .ok (.isub, 1) := by decide +kernel
theorem d15_32 : decode method_2_code 32 = .ok (.iadd, 1) := by decide +kernel
theorem d15_33 : decode method_2_code 33 = .ok (.i2c, 1) := by decide +kernel
theorem d15_34 : decode method_2_code 34 = .ok (.ireturn, 1) := by decide +kernel
theorem d15_35 : decode method_2_code 35 = .ok (.iload_n 1, 1) := by decide +kernel
theorem d15_36 : decode method_2_code 36 = .ok (.bipush 62, 2) := by decide +kernel
theorem d15_38 : decode method_2_code 38 = .ok (.if_icmp .ge 12, 3) := by decide +kernel
theorem d15_41 : decode method_2_code 41 = .ok (.bipush 48, 2) := by decide +kernel
theorem d15_43 : decode method_2_code 43 = .ok (.iload_n 1, 1) := by decide +kernel
theorem d15_44 : decode method_2_code 44 = .ok (.bipush 52, 2) := by decide +kernel
theorem d15_46 : decode method_2_code 46 = .ok (.isub, 1) := by decide +kernel
theorem d15_47 : decode method_2_code 47 = .ok (.iadd, 1) := by decide +kernel
theorem d15_48 : decode method_2_code 48 = .ok (.i2c, 1) := by decide +kernel
theorem d15_49 : decode method_2_code 49 = .ok (.ireturn, 1) := by decide +kernel
theorem d15_50 : decode method_2_code 50 = .ok (.iload_n 1, 1) := by decide +kernel
theorem d15_51 : decode method_2_code 51 = .ok (.bipush 62, 2) := by decide +kernel
theorem d15_53 : decode method_2_code 53 = .ok (.if_icmp .ne 6, 3) := by decide +kernel
theorem d15_56 : decode method_2_code 56 = .ok (.bipush 46, 2) := by decide +kernel
theorem d15_58 : decode method_2_code 58 = .ok (.ireturn, 1) := by decide +kernel
theorem d15_59 : decode method_2_code 59 = .ok (.iload_n 1, 1) := by decide +kernel
theorem d15_60 : decode method_2_code 60 = .ok (.bipush 63, 2) := by decide +kernel
theorem d15_62 : decode method_2_code 62 = .ok (.if_icmp .ne 6, 3) := by decide +kernel
theorem d15_65 : decode method_2_code 65 = .ok (.bipush 95, 2) := by decide +kernel
theorem d15_67 : decode method_2_code 67 = .ok (.ireturn, 1) := by decide +kernel
theorem d15_68 : decode method_2_code 68 = .ok (.bipush 45, 2) := by decide +kernel
theorem d15_70 : decode method_2_code 70 = .ok (.ireturn, 1) := by decide +kernel
theorem pn4 : plainName "com/example/minuterie/minuterie/TimerNameOfPinLaw" = true := by first | (simp [plainName, overriddenIn]; done) | decide +kernel
theorem efA (m : MethodId) (p1 : Int32) : entryFrame m #[(.int p1)] 2 = mkF m 0 #[iv p1, .unset] [] := by first | (simp [entryFrame, mkF, argsToLocals, Value.category]; done) | rfl
def QA (Z : State) (p1 : Int32) (r : Int32) (h0 : Heap) (n0 : Nat) (v : Option Value) (h : Heap) (L : List Loc) : Prop := v = some (.int r) ∧ Fr n0 L ∧ h = h0
set_option maxRecDepth 65536 in
set_option maxHeartbeats 40000000 in
theorem rmA (l : Launch) (Z : State) (a0 : Array Value) (hw : HW a0 Z) (ws : List Jvm.Cond) (p1 : Int32) (r : Int32) (h0 : Heap) (n0 : Nat) (Z0 : n0 ≤ h0.size) (hR : alF p1 = r) :
    MF l Z mN15 method_2_code 2 (some .char) ws rKA #[(.int p1)] h0 (QA Z p1 r h0 n0) := by
  refine MetFree.of_bodySF (plainFor_of_name pn4) hisR ?_
  intro p e s m args bl meth c s1 Bd hml0 hP hK
  obtain ⟨rfl, hZ, hh⟩ := hP
  have hx := Bd.exec
  have hby := Bd.bytes
  have B := @hb c _ hby
  have hown : s.vm.findClass "com/example/minuterie/minuterie/TimerNameOfPinLaw" = some m.cls := findClass_of_methodNamed Bd.named
  have hlk : meth.locks = false := BodyLoose.notSynchronized Bd
  have hrt : ∀ {v : Option Value}, meth.sig.returnType = none → v = none := fun h => by rw [Bd.returns] at h; cases h
  have X0 : Stand p l e rKA s m #[(.int p1)] bl meth c s1 [] 0 0 := Stand.of_body Bd
  have e0 : s1.heap = h0 := by rw [← hh, Bd.state]; rfl
  have N0 := Fr.nil n0
  obtain ⟨EF, hEF⟩ : ∃ f, f = entryFrame m #[(.int p1)] 2 := ⟨_, rfl⟩
  have pre0 : Go p e bl s1 (mkF m 0 #[iv p1, .unset] []) s1 EF := fun t k => by rw [hEF]; exact castTop (efA m p1) k
  obtain ⟨kk, e_kk⟩ : ∃ z : Int32, z = ((p1 &&& (2147483647 : Int32)) % (65 : Int32)) := ⟨_, rfl⟩
  have pre1 : Go p e bl s1 (mkF m 11 #[iv p1, iv kk] [(.int (26 : Int32)), (.int kk)]) s1 EF := fun t k => pre0 t (by
   refine XS.iloadN X0.here hx rfl (B d15_0) rfl ?_
   refine X0.ldcInt hx hown (mvT hZ (hw _ (mW 4 rfl))) (g := (mkF m 1 #[iv p1, .unset] [(.int p1)])) rfl (B d15_1) _ ?_
   refine XS.iand X0.here hx rfl (B d15_3) rfl ?_
   refine XS.bipush X0.here hx rfl (B d15_4) ?_
   refine iremM X0 hx rfl (B d15_6) rfl (by decide) ?_
   refine XS.istoreN X0.here hx rfl (B d15_7) rfl (l' := #[iv p1, iv kk]) (by rw [e_kk]; rfl) ?_
   refine XS.iloadN X0.here hx rfl (B d15_8) rfl ?_
   exact XS.bipush X0.here hx rfl (B d15_9) k)
  by_cases hc11 : kk < (26 : Int32)
  · have pre2 : Go p e bl s1 (mkF m 14 #[iv p1, iv kk] []) s1 EF := fun t k => pre1 t (XS.icmpNo X0.here hx rfl (B d15_11) rfl (tlt hc11).2.1 k)
    have pre3 : Go p e bl s1 (mkF m 19 #[iv p1, iv kk] [(.int (((97 : Int32) + kk).toUInt32.toUInt16.toUInt32.toInt32))]) s1 EF := fun t k => pre2 t (by
     refine XS.bipush X0.here hx rfl (B d15_14) ?_
     refine XS.iloadN X0.here hx rfl (B d15_16) rfl ?_
     refine XS.iadd X0.here hx rfl (B d15_17) rfl ?_
     exact XS.i2c X0.here hx rfl (B d15_18) rfl k)
    have hnr : Value.int (nar .char (((97 : Int32) + kk).toUInt32.toUInt16.toUInt32.toInt32)) = (.int (((97 : Int32) + kk).toUInt32.toUInt16.toUInt32.toInt32)) := by rw [own_i2c2]
    exact fin1 X0 (v := some (.int (((97 : Int32) + kk).toUInt32.toUInt16.toUInt32.toInt32))) hrt hlk (wl rfl) (wl rfl) (by rw [e0]; exact ⟨by rw [← hR]; unfold alF; rw [← e_kk]; simp [alK, hc11], N0, rfl⟩) (fun fs hr => hEF ▸ pre3 _ (retN X0 hx (t := .char) Bd.returns (by simp) (B d15_19) (hnr ▸ hr)))
  have pre4 : Go p e bl s1 (mkF m 20 #[iv p1, iv kk] []) s1 EF := fun t k => pre1 t (XS.icmpYes X0.here hx rfl (pc0 := 11) (pc' := 20) rfl (B d15_11) rfl (flt hc11).2.1 (by decide) (by decide) k)
  have pre5 : Go p e bl s1 (mkF m 23 #[iv p1, iv kk] [(.int (52 : Int32)), (.int kk)]) s1 EF := fun t k => pre4 t (by
   refine XS.iloadN X0.here hx rfl (B d15_20) rfl ?_
   exact XS.bipush X0.here hx rfl (B d15_21) k)
  by_cases hc23 : kk < (52 : Int32)
  · have pre6 : Go p e bl s1 (mkF m 26 #[iv p1, iv kk] []) s1 EF := fun t k => pre5 t (XS.icmpNo X0.here hx rfl (B d15_23) rfl (tlt hc23).2.1 k)
    have pre7 : Go p e bl s1 (mkF m 34 #[iv p1, iv kk] [(.int (((65 : Int32) + (kk - (26 : Int32))).toUInt32.toUInt16.toUInt32.toInt32))]) s1 EF := fun t k => pre6 t (by
     refine XS.bipush X0.here hx rfl (B d15_26) ?_
     refine XS.iloadN X0.here hx rfl (B d15_28) rfl ?_
     refine XS.bipush X0.here hx rfl (B d15_29) ?_
     refine XS.isub X0.here hx rfl (B d15_31) rfl ?_
     refine XS.iadd X0.here hx rfl (B d15_32) rfl ?_
     exact XS.i2c X0.here hx rfl (B d15_33) rfl k)
    have hnr : Value.int (nar .char (((65 : Int32) + (kk - (26 : Int32))).toUInt32.toUInt16.toUInt32.toInt32)) = (.int (((65 : Int32) + (kk - (26 : Int32))).toUInt32.toUInt16.toUInt32.toInt32)) := by rw [own_i2c2]
    exact fin1 X0 (v := some (.int (((65 : Int32) + (kk - (26 : Int32))).toUInt32.toUInt16.toUInt32.toInt32))) hrt hlk (wl rfl) (wl rfl) (by rw [e0]; exact ⟨by rw [← hR]; unfold alF; rw [← e_kk]; simp [alK, hc11, hc23], N0, rfl⟩) (fun fs hr => hEF ▸ pre7 _ (retN X0 hx (t := .char) Bd.returns (by simp) (B d15_34) (hnr ▸ hr)))
  have pre8 : Go p e bl s1 (mkF m 35 #[iv p1, iv kk] []) s1 EF := fun t k => pre5 t (XS.icmpYes X0.here hx rfl (pc0 := 23) (pc' := 35) rfl (B d15_23) rfl (flt hc23).2.1 (by decide) (by decide) k)
  have pre9 : Go p e bl s1 (mkF m 38 #[iv p1, iv kk] [(.int (62 : Int32)), (.int kk)]) s1 EF := fun t k => pre8 t (by
   refine XS.iloadN X0.here hx rfl (B d15_35) rfl ?_
   exact XS.bipush X0.here hx rfl (B d15_36) k)
  by_cases hc38 : kk < (62 : Int32)
  · have pre10 : Go p e bl s1 (mkF m 41 #[iv p1, iv kk] []) s1 EF := fun t k => pre9 t (XS.icmpNo X0.here hx rfl (B d15_38) rfl (tlt hc38).2.1 k)
    have pre11 : Go p e bl s1 (mkF m 49 #[iv p1, iv kk] [(.int (((48 : Int32) + (kk - (52 : Int32))).toUInt32.toUInt16.toUInt32.toInt32))]) s1 EF := fun t k => pre10 t (by
     refine XS.bipush X0.here hx rfl (B d15_41) ?_
     refine XS.iloadN X0.here hx rfl (B d15_43) rfl ?_
     refine XS.bipush X0.here hx rfl (B d15_44) ?_
     refine XS.isub X0.here hx rfl (B d15_46) rfl ?_
     refine XS.iadd X0.here hx rfl (B d15_47) rfl ?_
     exact XS.i2c X0.here hx rfl (B d15_48) rfl k)
    have hnr : Value.int (nar .char (((48 : Int32) + (kk - (52 : Int32))).toUInt32.toUInt16.toUInt32.toInt32)) = (.int (((48 : Int32) + (kk - (52 : Int32))).toUInt32.toUInt16.toUInt32.toInt32)) := by rw [own_i2c2]
    exact fin1 X0 (v := some (.int (((48 : Int32) + (kk - (52 : Int32))).toUInt32.toUInt16.toUInt32.toInt32))) hrt hlk (wl rfl) (wl rfl) (by rw [e0]; exact ⟨by rw [← hR]; unfold alF; rw [← e_kk]; simp [alK, hc11, hc23, hc38], N0, rfl⟩) (fun fs hr => hEF ▸ pre11 _ (retN X0 hx (t := .char) Bd.returns (by simp) (B d15_49) (hnr ▸ hr)))
  have pre12 : Go p e bl s1 (mkF m 50 #[iv p1, iv kk] []) s1 EF := fun t k => pre9 t (XS.icmpYes X0.here hx rfl (pc0 := 38) (pc' := 50) rfl (B d15_38) rfl (flt hc38).2.1 (by decide) (by decide) k)
  have pre13 : Go p e bl s1 (mkF m 53 #[iv p1, iv kk] [(.int (62 : Int32)), (.int kk)]) s1 EF := fun t k => pre12 t (by
   refine XS.iloadN X0.here hx rfl (B d15_50) rfl ?_
   exact XS.bipush X0.here hx rfl (B d15_51) k)
  by_cases hc53 : kk = (62 : Int32)
  · have pre14 : Go p e bl s1 (mkF m 56 #[iv p1, iv kk] []) s1 EF := fun t k => pre13 t (XS.icmpNo X0.here hx rfl (B d15_53) rfl (teq hc53).2 k)
    have pre15 : Go p e bl s1 (mkF m 58 #[iv p1, iv kk] [(.int (46 : Int32))]) s1 EF := fun t k => pre14 t (by
     exact XS.bipush X0.here hx rfl (B d15_56) k)
    have hnr : Value.int (nar .char (46 : Int32)) = (.int (46 : Int32)) := by rfl
    exact fin1 X0 (v := some (.int (46 : Int32))) hrt hlk (wl rfl) (wl rfl) (by rw [e0]; exact ⟨by rw [← hR]; unfold alF; rw [← e_kk]; simp [alK, hc11, hc23, hc38, hc53], N0, rfl⟩) (fun fs hr => hEF ▸ pre15 _ (retN X0 hx (t := .char) Bd.returns (by simp) (B d15_58) (hnr ▸ hr)))
  have pre16 : Go p e bl s1 (mkF m 59 #[iv p1, iv kk] []) s1 EF := fun t k => pre13 t (XS.icmpYes X0.here hx rfl (pc0 := 53) (pc' := 59) rfl (B d15_53) rfl (feq hc53).2 (by decide) (by decide) k)
  have pre17 : Go p e bl s1 (mkF m 62 #[iv p1, iv kk] [(.int (63 : Int32)), (.int kk)]) s1 EF := fun t k => pre16 t (by
   refine XS.iloadN X0.here hx rfl (B d15_59) rfl ?_
   exact XS.bipush X0.here hx rfl (B d15_60) k)
  by_cases hc62 : kk = (63 : Int32)
  · have pre18 : Go p e bl s1 (mkF m 65 #[iv p1, iv kk] []) s1 EF := fun t k => pre17 t (XS.icmpNo X0.here hx rfl (B d15_62) rfl (teq hc62).2 k)
    have pre19 : Go p e bl s1 (mkF m 67 #[iv p1, iv kk] [(.int (95 : Int32))]) s1 EF := fun t k => pre18 t (by
     exact XS.bipush X0.here hx rfl (B d15_65) k)
    have hnr : Value.int (nar .char (95 : Int32)) = (.int (95 : Int32)) := by rfl
    exact fin1 X0 (v := some (.int (95 : Int32))) hrt hlk (wl rfl) (wl rfl) (by rw [e0]; exact ⟨by rw [← hR]; unfold alF; rw [← e_kk]; simp [alK, hc11, hc23, hc38, hc53, hc62], N0, rfl⟩) (fun fs hr => hEF ▸ pre19 _ (retN X0 hx (t := .char) Bd.returns (by simp) (B d15_67) (hnr ▸ hr)))
  have pre20 : Go p e bl s1 (mkF m 68 #[iv p1, iv kk] []) s1 EF := fun t k => pre17 t (XS.icmpYes X0.here hx rfl (pc0 := 62) (pc' := 68) rfl (B d15_62) rfl (feq hc62).2 (by decide) (by decide) k)
  have pre21 : Go p e bl s1 (mkF m 70 #[iv p1, iv kk] [(.int (45 : Int32))]) s1 EF := fun t k => pre20 t (by
   exact XS.bipush X0.here hx rfl (B d15_68) k)
  have hnr : Value.int (nar .char (45 : Int32)) = (.int (45 : Int32)) := by rfl
  exact fin1 X0 (v := some (.int (45 : Int32))) hrt hlk (wl rfl) (wl rfl) (by rw [e0]; exact ⟨by rw [← hR]; unfold alF; rw [← e_kk]; simp [alK, hc11, hc23, hc38, hc53, hc62], N0, rfl⟩) (fun fs hr => hEF ▸ pre21 _ (retN X0 hx (t := .char) Bd.returns (by simp) (B d15_70) (hnr ▸ hr)))
abbrev rKI : Room := { frames := 0, cells := 0, slots := 0, locals := 0 }
theorem d16_0 : decode prog_28_method_3_code 0 = .ok (.iload_n 0, 1) := by decide +kernel
theorem d16_1 : decode prog_28_method_3_code 1 = .ok (.bipush 97, 2) := by decide +kernel
theorem d16_3 : decode prog_28_method_3_code 3 = .ok (.if_icmp .lt 9, 3) := by decide +kernel
theorem d16_6 : decode prog_28_method_3_code 6 = .ok (.iload_n 0, 1) := by decide +kernel
theorem d16_7 : decode prog_28_method_3_code 7 = .ok (.bipush 122, 2) := by decide +kernel
theorem d16_9 : decode prog_28_method_3_code 9 = .ok (.if_icmp .le 45, 3) := by decide +kernel
theorem d16_12 : decode prog_28_method_3_code 12 = .ok (.iload_n 0, 1) := by decide +kernel
theorem d16_13 : decode prog_28_method_3_code 13 = .ok (.bipush 65, 2) := by decide +kernel
theorem d16_15 : decode prog_28_method_3_code 15 = .ok (.if_icmp .lt 9, 3) := by decide +kernel
theorem d16_18 : decode prog_28_method_3_code 18 = .ok (.iload_n 0, 1) := by decide +kernel
theorem d16_19 : decode prog_28_method_3_code 19 = .ok (.bipush 90, 2) := by decide +kernel
theorem d16_21 : decode prog_28_method_3_code 21 = .ok (.if_icmp .le 33, 3) := by decide +kernel
theorem d16_24 : decode prog_28_method_3_code 24 = .ok (.iload_n 0, 1) := by decide +kernel
theorem d16_25 : decode prog_28_method_3_code 25 = .ok (.bipush 48, 2) := by decide +kernel
theorem d16_27 : decode prog_28_method_3_code 27 = .ok (.if_icmp .lt 9, 3) := by decide +kernel
theorem d16_30 : decode prog_28_method_3_code 30 = .ok (.iload_n 0, 1) := by decide +kernel
theorem d16_31 : decode prog_28_method_3_code 31 = .ok (.bipush 57, 2) := by decide +kernel
theorem d16_33 : decode prog_28_method_3_code 33 = .ok (.if_icmp .le 21, 3) := by decide +kernel
theorem d16_36 : decode prog_28_method_3_code 36 = .ok (.iload_n 0, 1) := by decide +kernel
theorem d16_37 : decode prog_28_method_3_code 37 = .ok (.bipush 46, 2) := by decide +kernel
theorem d16_39 : decode prog_28_method_3_code 39 = .ok (.if_icmp .eq 15, 3) := by decide +kernel
theorem d16_42 : decode prog_28_method_3_code 42 = .ok (.iload_n 0, 1) := by decide +kernel
theorem d16_43 : decode prog_28_method_3_code 43 = .ok (.bipush 95, 2) := by decide +kernel
theorem d16_45 : decode prog_28_method_3_code 45 = .ok (.if_icmp .eq 9, 3) := by decide +kernel
theorem d16_48 : decode prog_28_method_3_code 48 = .ok (.iload_n 0, 1) := by decide +kernel
theorem d16_49 : decode prog_28_method_3_code 49 = .ok (.bipush 45, 2) := by decide +kernel
theorem d16_51 : decode prog_28_method_3_code 51 = .ok (.if_icmp .ne 7, 3) := by decide +kernel
theorem d16_54 : decode prog_28_method_3_code 54 = .ok (.iconst 1, 1) := by decide +kernel
theorem d16_55 : decode prog_28_method_3_code 55 = .ok (.goto 4, 3) := by decide +kernel
theorem d16_58 : decode prog_28_method_3_code 58 = .ok (.iconst 0, 1) := by decide +kernel
theorem d16_59 : decode prog_28_method_3_code 59 = .ok (.ireturn, 1) := by decide +kernel
theorem pn5 : plainName "com/example/minuterie/minuterie/TimerName" = true := by first | (simp [plainName, overriddenIn]; done) | decide +kernel
theorem efI (m : MethodId) (p1 : Int32) : entryFrame m #[(.int p1)] 1 = mkF m 0 #[iv p1] [] := by first | (simp [entryFrame, mkF, argsToLocals, Value.category]; done) | rfl
def QI (Z : State) (p1 : Int32) (r : Int32) (h0 : Heap) (n0 : Nat) (v : Option Value) (h : Heap) (L : List Loc) : Prop := v = some (.int r) ∧ Fr n0 L ∧ h = h0
set_option maxRecDepth 65536 in
set_option maxHeartbeats 40000000 in
theorem rmI (l : Launch) (Z : State) (a0 : Array Value) (hw : HW a0 Z) (ws : List Jvm.Cond) (p1 : Int32) (r : Int32) (h0 : Heap) (n0 : Nat) (Z0 : n0 ≤ h0.size) (hR : isaF p1 = r) :
    MF l Z mN16 prog_28_method_3_code 1 (some .boolean) ws rKI #[(.int p1)] h0 (QI Z p1 r h0 n0) := by
  refine MetFree.of_bodySF (plainFor_of_name pn5) hisR ?_
  intro p e s m args bl meth c s1 Bd hml0 hP hK
  obtain ⟨rfl, hZ, hh⟩ := hP
  have hx := Bd.exec
  have hby := Bd.bytes
  have B := @hb c _ hby
  have hown : s.vm.findClass "com/example/minuterie/minuterie/TimerName" = some m.cls := findClass_of_methodNamed Bd.named
  have hlk : meth.locks = false := BodyLoose.notSynchronized Bd
  have hrt : ∀ {v : Option Value}, meth.sig.returnType = none → v = none := fun h => by rw [Bd.returns] at h; cases h
  have X0 : Stand p l e rKI s m #[(.int p1)] bl meth c s1 [] 0 0 := Stand.of_body Bd
  have e0 : s1.heap = h0 := by rw [← hh, Bd.state]; rfl
  have N0 := Fr.nil n0
  obtain ⟨EF, hEF⟩ : ∃ f, f = entryFrame m #[(.int p1)] 1 := ⟨_, rfl⟩
  have pre0 : Go p e bl s1 (mkF m 0 #[iv p1] []) s1 EF := fun t k => by rw [hEF]; exact castTop (efI m p1) k
  have pre1 : Go p e bl s1 (mkF m 3 #[iv p1] [(.int (97 : Int32)), (.int p1)]) s1 EF := fun t k => pre0 t (by
   refine XS.iloadN X0.here hx rfl (B d16_0) rfl ?_
   exact XS.bipush X0.here hx rfl (B d16_1) k)
  by_cases hc3 : p1 < (97 : Int32)
  · have pre2 : Go p e bl s1 (mkF m 12 #[iv p1] []) s1 EF := fun t k => pre1 t (XS.icmpYes X0.here hx rfl (pc0 := 3) (pc' := 12) rfl (B d16_3) rfl (tlt hc3).1 (by decide) (by decide) k)
    have pre3 : Go p e bl s1 (mkF m 15 #[iv p1] [(.int (65 : Int32)), (.int p1)]) s1 EF := fun t k => pre2 t (by
     refine XS.iloadN X0.here hx rfl (B d16_12) rfl ?_
     exact XS.bipush X0.here hx rfl (B d16_13) k)
    by_cases hc15 : p1 < (65 : Int32)
    · have pre4 : Go p e bl s1 (mkF m 24 #[iv p1] []) s1 EF := fun t k => pre3 t (XS.icmpYes X0.here hx rfl (pc0 := 15) (pc' := 24) rfl (B d16_15) rfl (tlt hc15).1 (by decide) (by decide) k)
      have pre5 : Go p e bl s1 (mkF m 27 #[iv p1] [(.int (48 : Int32)), (.int p1)]) s1 EF := fun t k => pre4 t (by
       refine XS.iloadN X0.here hx rfl (B d16_24) rfl ?_
       exact XS.bipush X0.here hx rfl (B d16_25) k)
      by_cases hc27 : p1 < (48 : Int32)
      · have pre6 : Go p e bl s1 (mkF m 36 #[iv p1] []) s1 EF := fun t k => pre5 t (XS.icmpYes X0.here hx rfl (pc0 := 27) (pc' := 36) rfl (B d16_27) rfl (tlt hc27).1 (by decide) (by decide) k)
        have pre7 : Go p e bl s1 (mkF m 39 #[iv p1] [(.int (46 : Int32)), (.int p1)]) s1 EF := fun t k => pre6 t (by
         refine XS.iloadN X0.here hx rfl (B d16_36) rfl ?_
         exact XS.bipush X0.here hx rfl (B d16_37) k)
        by_cases hc39 : p1 = (46 : Int32)
        · have pre8 : Go p e bl s1 (mkF m 54 #[iv p1] []) s1 EF := fun t k => pre7 t (XS.icmpYes X0.here hx rfl (pc0 := 39) (pc' := 54) rfl (B d16_39) rfl (teq hc39).1 (by decide) (by decide) k)
          have pre9 : Go p e bl s1 (mkF m 59 #[iv p1] [(.int (1 : Int32))]) s1 EF := fun t k => pre8 t (by
           refine XS.iconst X0.here hx rfl (B d16_54) ?_
           exact XS.goto X0.here hx rfl (pc0 := 55) (pc' := 59) rfl (B d16_55) (by decide) (by decide) k)
          have hnr : Value.int (nar .boolean (1 : Int32)) = (.int (1 : Int32)) := by rfl
          exact fin1 X0 (v := some (.int (1 : Int32))) hrt hlk (wl rfl) (wl rfl) (by rw [e0]; exact ⟨by rw [← hR]; simp [isaF, hc3, hc15, hc27, hc39], N0, rfl⟩) (fun fs hr => hEF ▸ pre9 _ (retN X0 hx (t := .boolean) Bd.returns (by simp) (B d16_59) (hnr ▸ hr)))
        have pre10 : Go p e bl s1 (mkF m 42 #[iv p1] []) s1 EF := fun t k => pre7 t (XS.icmpNo X0.here hx rfl (B d16_39) rfl (feq hc39).1 k)
        have pre11 : Go p e bl s1 (mkF m 45 #[iv p1] [(.int (95 : Int32)), (.int p1)]) s1 EF := fun t k => pre10 t (by
         refine XS.iloadN X0.here hx rfl (B d16_42) rfl ?_
         exact XS.bipush X0.here hx rfl (B d16_43) k)
        by_cases hc45 : p1 = (95 : Int32)
        · have pre12 : Go p e bl s1 (mkF m 54 #[iv p1] []) s1 EF := fun t k => pre11 t (XS.icmpYes X0.here hx rfl (pc0 := 45) (pc' := 54) rfl (B d16_45) rfl (teq hc45).1 (by decide) (by decide) k)
          have pre13 : Go p e bl s1 (mkF m 59 #[iv p1] [(.int (1 : Int32))]) s1 EF := fun t k => pre12 t (by
           refine XS.iconst X0.here hx rfl (B d16_54) ?_
           exact XS.goto X0.here hx rfl (pc0 := 55) (pc' := 59) rfl (B d16_55) (by decide) (by decide) k)
          have hnr : Value.int (nar .boolean (1 : Int32)) = (.int (1 : Int32)) := by rfl
          exact fin1 X0 (v := some (.int (1 : Int32))) hrt hlk (wl rfl) (wl rfl) (by rw [e0]; exact ⟨by rw [← hR]; simp [isaF, hc3, hc15, hc27, hc39, hc45], N0, rfl⟩) (fun fs hr => hEF ▸ pre13 _ (retN X0 hx (t := .boolean) Bd.returns (by simp) (B d16_59) (hnr ▸ hr)))
        have pre14 : Go p e bl s1 (mkF m 48 #[iv p1] []) s1 EF := fun t k => pre11 t (XS.icmpNo X0.here hx rfl (B d16_45) rfl (feq hc45).1 k)
        have pre15 : Go p e bl s1 (mkF m 51 #[iv p1] [(.int (45 : Int32)), (.int p1)]) s1 EF := fun t k => pre14 t (by
         refine XS.iloadN X0.here hx rfl (B d16_48) rfl ?_
         exact XS.bipush X0.here hx rfl (B d16_49) k)
        by_cases hc51 : p1 = (45 : Int32)
        · have pre16 : Go p e bl s1 (mkF m 54 #[iv p1] []) s1 EF := fun t k => pre15 t (XS.icmpNo X0.here hx rfl (B d16_51) rfl (teq hc51).2 k)
          have pre17 : Go p e bl s1 (mkF m 59 #[iv p1] [(.int (1 : Int32))]) s1 EF := fun t k => pre16 t (by
           refine XS.iconst X0.here hx rfl (B d16_54) ?_
           exact XS.goto X0.here hx rfl (pc0 := 55) (pc' := 59) rfl (B d16_55) (by decide) (by decide) k)
          have hnr : Value.int (nar .boolean (1 : Int32)) = (.int (1 : Int32)) := by rfl
          exact fin1 X0 (v := some (.int (1 : Int32))) hrt hlk (wl rfl) (wl rfl) (by rw [e0]; exact ⟨by rw [← hR]; simp [isaF, hc3, hc15, hc27, hc39, hc45, hc51], N0, rfl⟩) (fun fs hr => hEF ▸ pre17 _ (retN X0 hx (t := .boolean) Bd.returns (by simp) (B d16_59) (hnr ▸ hr)))
        have pre18 : Go p e bl s1 (mkF m 58 #[iv p1] []) s1 EF := fun t k => pre15 t (XS.icmpYes X0.here hx rfl (pc0 := 51) (pc' := 58) rfl (B d16_51) rfl (feq hc51).2 (by decide) (by decide) k)
        have pre19 : Go p e bl s1 (mkF m 59 #[iv p1] [(.int (0 : Int32))]) s1 EF := fun t k => pre18 t (by
         exact XS.iconst X0.here hx rfl (B d16_58) k)
        have hnr : Value.int (nar .boolean (0 : Int32)) = (.int (0 : Int32)) := by rfl
        exact fin1 X0 (v := some (.int (0 : Int32))) hrt hlk (wl rfl) (wl rfl) (by rw [e0]; exact ⟨by rw [← hR]; simp [isaF, hc3, hc15, hc27, hc39, hc45, hc51], N0, rfl⟩) (fun fs hr => hEF ▸ pre19 _ (retN X0 hx (t := .boolean) Bd.returns (by simp) (B d16_59) (hnr ▸ hr)))
      have pre20 : Go p e bl s1 (mkF m 30 #[iv p1] []) s1 EF := fun t k => pre5 t (XS.icmpNo X0.here hx rfl (B d16_27) rfl (flt hc27).1 k)
      have pre21 : Go p e bl s1 (mkF m 33 #[iv p1] [(.int (57 : Int32)), (.int p1)]) s1 EF := fun t k => pre20 t (by
       refine XS.iloadN X0.here hx rfl (B d16_30) rfl ?_
       exact XS.bipush X0.here hx rfl (B d16_31) k)
      by_cases hc33 : (57 : Int32) < p1
      · have pre22 : Go p e bl s1 (mkF m 36 #[iv p1] []) s1 EF := fun t k => pre21 t (XS.icmpNo X0.here hx rfl (B d16_33) rfl (tlt hc33).2.2.2 k)
        have pre23 : Go p e bl s1 (mkF m 39 #[iv p1] [(.int (46 : Int32)), (.int p1)]) s1 EF := fun t k => pre22 t (by
         refine XS.iloadN X0.here hx rfl (B d16_36) rfl ?_
         exact XS.bipush X0.here hx rfl (B d16_37) k)
        by_cases hc39 : p1 = (46 : Int32)
        · have pre24 : Go p e bl s1 (mkF m 54 #[iv p1] []) s1 EF := fun t k => pre23 t (XS.icmpYes X0.here hx rfl (pc0 := 39) (pc' := 54) rfl (B d16_39) rfl (teq hc39).1 (by decide) (by decide) k)
          have pre25 : Go p e bl s1 (mkF m 59 #[iv p1] [(.int (1 : Int32))]) s1 EF := fun t k => pre24 t (by
           refine XS.iconst X0.here hx rfl (B d16_54) ?_
           exact XS.goto X0.here hx rfl (pc0 := 55) (pc' := 59) rfl (B d16_55) (by decide) (by decide) k)
          have hnr : Value.int (nar .boolean (1 : Int32)) = (.int (1 : Int32)) := by rfl
          exact fin1 X0 (v := some (.int (1 : Int32))) hrt hlk (wl rfl) (wl rfl) (by rw [e0]; exact ⟨by rw [← hR]; simp [isaF, hc3, hc15, hc27, hc33, hc39], N0, rfl⟩) (fun fs hr => hEF ▸ pre25 _ (retN X0 hx (t := .boolean) Bd.returns (by simp) (B d16_59) (hnr ▸ hr)))
        have pre26 : Go p e bl s1 (mkF m 42 #[iv p1] []) s1 EF := fun t k => pre23 t (XS.icmpNo X0.here hx rfl (B d16_39) rfl (feq hc39).1 k)
        have pre27 : Go p e bl s1 (mkF m 45 #[iv p1] [(.int (95 : Int32)), (.int p1)]) s1 EF := fun t k => pre26 t (by
         refine XS.iloadN X0.here hx rfl (B d16_42) rfl ?_
         exact XS.bipush X0.here hx rfl (B d16_43) k)
        by_cases hc45 : p1 = (95 : Int32)
        · have pre28 : Go p e bl s1 (mkF m 54 #[iv p1] []) s1 EF := fun t k => pre27 t (XS.icmpYes X0.here hx rfl (pc0 := 45) (pc' := 54) rfl (B d16_45) rfl (teq hc45).1 (by decide) (by decide) k)
          have pre29 : Go p e bl s1 (mkF m 59 #[iv p1] [(.int (1 : Int32))]) s1 EF := fun t k => pre28 t (by
           refine XS.iconst X0.here hx rfl (B d16_54) ?_
           exact XS.goto X0.here hx rfl (pc0 := 55) (pc' := 59) rfl (B d16_55) (by decide) (by decide) k)
          have hnr : Value.int (nar .boolean (1 : Int32)) = (.int (1 : Int32)) := by rfl
          exact fin1 X0 (v := some (.int (1 : Int32))) hrt hlk (wl rfl) (wl rfl) (by rw [e0]; exact ⟨by rw [← hR]; simp [isaF, hc3, hc15, hc27, hc33, hc39, hc45], N0, rfl⟩) (fun fs hr => hEF ▸ pre29 _ (retN X0 hx (t := .boolean) Bd.returns (by simp) (B d16_59) (hnr ▸ hr)))
        have pre30 : Go p e bl s1 (mkF m 48 #[iv p1] []) s1 EF := fun t k => pre27 t (XS.icmpNo X0.here hx rfl (B d16_45) rfl (feq hc45).1 k)
        have pre31 : Go p e bl s1 (mkF m 51 #[iv p1] [(.int (45 : Int32)), (.int p1)]) s1 EF := fun t k => pre30 t (by
         refine XS.iloadN X0.here hx rfl (B d16_48) rfl ?_
         exact XS.bipush X0.here hx rfl (B d16_49) k)
        by_cases hc51 : p1 = (45 : Int32)
        · have pre32 : Go p e bl s1 (mkF m 54 #[iv p1] []) s1 EF := fun t k => pre31 t (XS.icmpNo X0.here hx rfl (B d16_51) rfl (teq hc51).2 k)
          have pre33 : Go p e bl s1 (mkF m 59 #[iv p1] [(.int (1 : Int32))]) s1 EF := fun t k => pre32 t (by
           refine XS.iconst X0.here hx rfl (B d16_54) ?_
           exact XS.goto X0.here hx rfl (pc0 := 55) (pc' := 59) rfl (B d16_55) (by decide) (by decide) k)
          have hnr : Value.int (nar .boolean (1 : Int32)) = (.int (1 : Int32)) := by rfl
          exact fin1 X0 (v := some (.int (1 : Int32))) hrt hlk (wl rfl) (wl rfl) (by rw [e0]; exact ⟨by rw [← hR]; simp [isaF, hc3, hc15, hc27, hc33, hc39, hc45, hc51], N0, rfl⟩) (fun fs hr => hEF ▸ pre33 _ (retN X0 hx (t := .boolean) Bd.returns (by simp) (B d16_59) (hnr ▸ hr)))
        have pre34 : Go p e bl s1 (mkF m 58 #[iv p1] []) s1 EF := fun t k => pre31 t (XS.icmpYes X0.here hx rfl (pc0 := 51) (pc' := 58) rfl (B d16_51) rfl (feq hc51).2 (by decide) (by decide) k)
        have pre35 : Go p e bl s1 (mkF m 59 #[iv p1] [(.int (0 : Int32))]) s1 EF := fun t k => pre34 t (by
         exact XS.iconst X0.here hx rfl (B d16_58) k)
        have hnr : Value.int (nar .boolean (0 : Int32)) = (.int (0 : Int32)) := by rfl
        exact fin1 X0 (v := some (.int (0 : Int32))) hrt hlk (wl rfl) (wl rfl) (by rw [e0]; exact ⟨by rw [← hR]; simp [isaF, hc3, hc15, hc27, hc33, hc39, hc45, hc51], N0, rfl⟩) (fun fs hr => hEF ▸ pre35 _ (retN X0 hx (t := .boolean) Bd.returns (by simp) (B d16_59) (hnr ▸ hr)))
      have pre36 : Go p e bl s1 (mkF m 54 #[iv p1] []) s1 EF := fun t k => pre21 t (XS.icmpYes X0.here hx rfl (pc0 := 33) (pc' := 54) rfl (B d16_33) rfl (flt hc33).2.2.2 (by decide) (by decide) k)
      have pre37 : Go p e bl s1 (mkF m 59 #[iv p1] [(.int (1 : Int32))]) s1 EF := fun t k => pre36 t (by
       refine XS.iconst X0.here hx rfl (B d16_54) ?_
       exact XS.goto X0.here hx rfl (pc0 := 55) (pc' := 59) rfl (B d16_55) (by decide) (by decide) k)
      have hnr : Value.int (nar .boolean (1 : Int32)) = (.int (1 : Int32)) := by rfl
      exact fin1 X0 (v := some (.int (1 : Int32))) hrt hlk (wl rfl) (wl rfl) (by rw [e0]; exact ⟨by rw [← hR]; simp [isaF, hc3, hc15, hc27, hc33], N0, rfl⟩) (fun fs hr => hEF ▸ pre37 _ (retN X0 hx (t := .boolean) Bd.returns (by simp) (B d16_59) (hnr ▸ hr)))
    have pre38 : Go p e bl s1 (mkF m 18 #[iv p1] []) s1 EF := fun t k => pre3 t (XS.icmpNo X0.here hx rfl (B d16_15) rfl (flt hc15).1 k)
    have pre39 : Go p e bl s1 (mkF m 21 #[iv p1] [(.int (90 : Int32)), (.int p1)]) s1 EF := fun t k => pre38 t (by
     refine XS.iloadN X0.here hx rfl (B d16_18) rfl ?_
     exact XS.bipush X0.here hx rfl (B d16_19) k)
    by_cases hc21 : (90 : Int32) < p1
    · have pre40 : Go p e bl s1 (mkF m 24 #[iv p1] []) s1 EF := fun t k => pre39 t (XS.icmpNo X0.here hx rfl (B d16_21) rfl (tlt hc21).2.2.2 k)
      have pre41 : Go p e bl s1 (mkF m 27 #[iv p1] [(.int (48 : Int32)), (.int p1)]) s1 EF := fun t k => pre40 t (by
       refine XS.iloadN X0.here hx rfl (B d16_24) rfl ?_
       exact XS.bipush X0.here hx rfl (B d16_25) k)
      by_cases hc27 : p1 < (48 : Int32)
      · have pre42 : Go p e bl s1 (mkF m 36 #[iv p1] []) s1 EF := fun t k => pre41 t (XS.icmpYes X0.here hx rfl (pc0 := 27) (pc' := 36) rfl (B d16_27) rfl (tlt hc27).1 (by decide) (by decide) k)
        have pre43 : Go p e bl s1 (mkF m 39 #[iv p1] [(.int (46 : Int32)), (.int p1)]) s1 EF := fun t k => pre42 t (by
         refine XS.iloadN X0.here hx rfl (B d16_36) rfl ?_
         exact XS.bipush X0.here hx rfl (B d16_37) k)
        by_cases hc39 : p1 = (46 : Int32)
        · have pre44 : Go p e bl s1 (mkF m 54 #[iv p1] []) s1 EF := fun t k => pre43 t (XS.icmpYes X0.here hx rfl (pc0 := 39) (pc' := 54) rfl (B d16_39) rfl (teq hc39).1 (by decide) (by decide) k)
          have pre45 : Go p e bl s1 (mkF m 59 #[iv p1] [(.int (1 : Int32))]) s1 EF := fun t k => pre44 t (by
           refine XS.iconst X0.here hx rfl (B d16_54) ?_
           exact XS.goto X0.here hx rfl (pc0 := 55) (pc' := 59) rfl (B d16_55) (by decide) (by decide) k)
          have hnr : Value.int (nar .boolean (1 : Int32)) = (.int (1 : Int32)) := by rfl
          exact fin1 X0 (v := some (.int (1 : Int32))) hrt hlk (wl rfl) (wl rfl) (by rw [e0]; exact ⟨by rw [← hR]; simp [isaF, hc3, hc15, hc21, hc27, hc39], N0, rfl⟩) (fun fs hr => hEF ▸ pre45 _ (retN X0 hx (t := .boolean) Bd.returns (by simp) (B d16_59) (hnr ▸ hr)))
        have pre46 : Go p e bl s1 (mkF m 42 #[iv p1] []) s1 EF := fun t k => pre43 t (XS.icmpNo X0.here hx rfl (B d16_39) rfl (feq hc39).1 k)
        have pre47 : Go p e bl s1 (mkF m 45 #[iv p1] [(.int (95 : Int32)), (.int p1)]) s1 EF := fun t k => pre46 t (by
         refine XS.iloadN X0.here hx rfl (B d16_42) rfl ?_
         exact XS.bipush X0.here hx rfl (B d16_43) k)
        by_cases hc45 : p1 = (95 : Int32)
        · have pre48 : Go p e bl s1 (mkF m 54 #[iv p1] []) s1 EF := fun t k => pre47 t (XS.icmpYes X0.here hx rfl (pc0 := 45) (pc' := 54) rfl (B d16_45) rfl (teq hc45).1 (by decide) (by decide) k)
          have pre49 : Go p e bl s1 (mkF m 59 #[iv p1] [(.int (1 : Int32))]) s1 EF := fun t k => pre48 t (by
           refine XS.iconst X0.here hx rfl (B d16_54) ?_
           exact XS.goto X0.here hx rfl (pc0 := 55) (pc' := 59) rfl (B d16_55) (by decide) (by decide) k)
          have hnr : Value.int (nar .boolean (1 : Int32)) = (.int (1 : Int32)) := by rfl
          exact fin1 X0 (v := some (.int (1 : Int32))) hrt hlk (wl rfl) (wl rfl) (by rw [e0]; exact ⟨by rw [← hR]; simp [isaF, hc3, hc15, hc21, hc27, hc39, hc45], N0, rfl⟩) (fun fs hr => hEF ▸ pre49 _ (retN X0 hx (t := .boolean) Bd.returns (by simp) (B d16_59) (hnr ▸ hr)))
        have pre50 : Go p e bl s1 (mkF m 48 #[iv p1] []) s1 EF := fun t k => pre47 t (XS.icmpNo X0.here hx rfl (B d16_45) rfl (feq hc45).1 k)
        have pre51 : Go p e bl s1 (mkF m 51 #[iv p1] [(.int (45 : Int32)), (.int p1)]) s1 EF := fun t k => pre50 t (by
         refine XS.iloadN X0.here hx rfl (B d16_48) rfl ?_
         exact XS.bipush X0.here hx rfl (B d16_49) k)
        by_cases hc51 : p1 = (45 : Int32)
        · have pre52 : Go p e bl s1 (mkF m 54 #[iv p1] []) s1 EF := fun t k => pre51 t (XS.icmpNo X0.here hx rfl (B d16_51) rfl (teq hc51).2 k)
          have pre53 : Go p e bl s1 (mkF m 59 #[iv p1] [(.int (1 : Int32))]) s1 EF := fun t k => pre52 t (by
           refine XS.iconst X0.here hx rfl (B d16_54) ?_
           exact XS.goto X0.here hx rfl (pc0 := 55) (pc' := 59) rfl (B d16_55) (by decide) (by decide) k)
          have hnr : Value.int (nar .boolean (1 : Int32)) = (.int (1 : Int32)) := by rfl
          exact fin1 X0 (v := some (.int (1 : Int32))) hrt hlk (wl rfl) (wl rfl) (by rw [e0]; exact ⟨by rw [← hR]; simp [isaF, hc3, hc15, hc21, hc27, hc39, hc45, hc51], N0, rfl⟩) (fun fs hr => hEF ▸ pre53 _ (retN X0 hx (t := .boolean) Bd.returns (by simp) (B d16_59) (hnr ▸ hr)))
        have pre54 : Go p e bl s1 (mkF m 58 #[iv p1] []) s1 EF := fun t k => pre51 t (XS.icmpYes X0.here hx rfl (pc0 := 51) (pc' := 58) rfl (B d16_51) rfl (feq hc51).2 (by decide) (by decide) k)
        have pre55 : Go p e bl s1 (mkF m 59 #[iv p1] [(.int (0 : Int32))]) s1 EF := fun t k => pre54 t (by
         exact XS.iconst X0.here hx rfl (B d16_58) k)
        have hnr : Value.int (nar .boolean (0 : Int32)) = (.int (0 : Int32)) := by rfl
        exact fin1 X0 (v := some (.int (0 : Int32))) hrt hlk (wl rfl) (wl rfl) (by rw [e0]; exact ⟨by rw [← hR]; simp [isaF, hc3, hc15, hc21, hc27, hc39, hc45, hc51], N0, rfl⟩) (fun fs hr => hEF ▸ pre55 _ (retN X0 hx (t := .boolean) Bd.returns (by simp) (B d16_59) (hnr ▸ hr)))
      have pre56 : Go p e bl s1 (mkF m 30 #[iv p1] []) s1 EF := fun t k => pre41 t (XS.icmpNo X0.here hx rfl (B d16_27) rfl (flt hc27).1 k)
      have pre57 : Go p e bl s1 (mkF m 33 #[iv p1] [(.int (57 : Int32)), (.int p1)]) s1 EF := fun t k => pre56 t (by
       refine XS.iloadN X0.here hx rfl (B d16_30) rfl ?_
       exact XS.bipush X0.here hx rfl (B d16_31) k)
      by_cases hc33 : (57 : Int32) < p1
      · have pre58 : Go p e bl s1 (mkF m 36 #[iv p1] []) s1 EF := fun t k => pre57 t (XS.icmpNo X0.here hx rfl (B d16_33) rfl (tlt hc33).2.2.2 k)
        have pre59 : Go p e bl s1 (mkF m 39 #[iv p1] [(.int (46 : Int32)), (.int p1)]) s1 EF := fun t k => pre58 t (by
         refine XS.iloadN X0.here hx rfl (B d16_36) rfl ?_
         exact XS.bipush X0.here hx rfl (B d16_37) k)
        by_cases hc39 : p1 = (46 : Int32)
        · have pre60 : Go p e bl s1 (mkF m 54 #[iv p1] []) s1 EF := fun t k => pre59 t (XS.icmpYes X0.here hx rfl (pc0 := 39) (pc' := 54) rfl (B d16_39) rfl (teq hc39).1 (by decide) (by decide) k)
          have pre61 : Go p e bl s1 (mkF m 59 #[iv p1] [(.int (1 : Int32))]) s1 EF := fun t k => pre60 t (by
           refine XS.iconst X0.here hx rfl (B d16_54) ?_
           exact XS.goto X0.here hx rfl (pc0 := 55) (pc' := 59) rfl (B d16_55) (by decide) (by decide) k)
          have hnr : Value.int (nar .boolean (1 : Int32)) = (.int (1 : Int32)) := by rfl
          exact fin1 X0 (v := some (.int (1 : Int32))) hrt hlk (wl rfl) (wl rfl) (by rw [e0]; exact ⟨by rw [← hR]; simp [isaF, hc3, hc15, hc21, hc27, hc33, hc39], N0, rfl⟩) (fun fs hr => hEF ▸ pre61 _ (retN X0 hx (t := .boolean) Bd.returns (by simp) (B d16_59) (hnr ▸ hr)))
        have pre62 : Go p e bl s1 (mkF m 42 #[iv p1] []) s1 EF := fun t k => pre59 t (XS.icmpNo X0.here hx rfl (B d16_39) rfl (feq hc39).1 k)
        have pre63 : Go p e bl s1 (mkF m 45 #[iv p1] [(.int (95 : Int32)), (.int p1)]) s1 EF := fun t k => pre62 t (by
         refine XS.iloadN X0.here hx rfl (B d16_42) rfl ?_
         exact XS.bipush X0.here hx rfl (B d16_43) k)
        by_cases hc45 : p1 = (95 : Int32)
        · have pre64 : Go p e bl s1 (mkF m 54 #[iv p1] []) s1 EF := fun t k => pre63 t (XS.icmpYes X0.here hx rfl (pc0 := 45) (pc' := 54) rfl (B d16_45) rfl (teq hc45).1 (by decide) (by decide) k)
          have pre65 : Go p e bl s1 (mkF m 59 #[iv p1] [(.int (1 : Int32))]) s1 EF := fun t k => pre64 t (by
           refine XS.iconst X0.here hx rfl (B d16_54) ?_
           exact XS.goto X0.here hx rfl (pc0 := 55) (pc' := 59) rfl (B d16_55) (by decide) (by decide) k)
          have hnr : Value.int (nar .boolean (1 : Int32)) = (.int (1 : Int32)) := by rfl
          exact fin1 X0 (v := some (.int (1 : Int32))) hrt hlk (wl rfl) (wl rfl) (by rw [e0]; exact ⟨by rw [← hR]; simp [isaF, hc3, hc15, hc21, hc27, hc33, hc39, hc45], N0, rfl⟩) (fun fs hr => hEF ▸ pre65 _ (retN X0 hx (t := .boolean) Bd.returns (by simp) (B d16_59) (hnr ▸ hr)))
        have pre66 : Go p e bl s1 (mkF m 48 #[iv p1] []) s1 EF := fun t k => pre63 t (XS.icmpNo X0.here hx rfl (B d16_45) rfl (feq hc45).1 k)
        have pre67 : Go p e bl s1 (mkF m 51 #[iv p1] [(.int (45 : Int32)), (.int p1)]) s1 EF := fun t k => pre66 t (by
         refine XS.iloadN X0.here hx rfl (B d16_48) rfl ?_
         exact XS.bipush X0.here hx rfl (B d16_49) k)
        by_cases hc51 : p1 = (45 : Int32)
        · have pre68 : Go p e bl s1 (mkF m 54 #[iv p1] []) s1 EF := fun t k => pre67 t (XS.icmpNo X0.here hx rfl (B d16_51) rfl (teq hc51).2 k)
          have pre69 : Go p e bl s1 (mkF m 59 #[iv p1] [(.int (1 : Int32))]) s1 EF := fun t k => pre68 t (by
           refine XS.iconst X0.here hx rfl (B d16_54) ?_
           exact XS.goto X0.here hx rfl (pc0 := 55) (pc' := 59) rfl (B d16_55) (by decide) (by decide) k)
          have hnr : Value.int (nar .boolean (1 : Int32)) = (.int (1 : Int32)) := by rfl
          exact fin1 X0 (v := some (.int (1 : Int32))) hrt hlk (wl rfl) (wl rfl) (by rw [e0]; exact ⟨by rw [← hR]; simp [isaF, hc3, hc15, hc21, hc27, hc33, hc39, hc45, hc51], N0, rfl⟩) (fun fs hr => hEF ▸ pre69 _ (retN X0 hx (t := .boolean) Bd.returns (by simp) (B d16_59) (hnr ▸ hr)))
        have pre70 : Go p e bl s1 (mkF m 58 #[iv p1] []) s1 EF := fun t k => pre67 t (XS.icmpYes X0.here hx rfl (pc0 := 51) (pc' := 58) rfl (B d16_51) rfl (feq hc51).2 (by decide) (by decide) k)
        have pre71 : Go p e bl s1 (mkF m 59 #[iv p1] [(.int (0 : Int32))]) s1 EF := fun t k => pre70 t (by
         exact XS.iconst X0.here hx rfl (B d16_58) k)
        have hnr : Value.int (nar .boolean (0 : Int32)) = (.int (0 : Int32)) := by rfl
        exact fin1 X0 (v := some (.int (0 : Int32))) hrt hlk (wl rfl) (wl rfl) (by rw [e0]; exact ⟨by rw [← hR]; simp [isaF, hc3, hc15, hc21, hc27, hc33, hc39, hc45, hc51], N0, rfl⟩) (fun fs hr => hEF ▸ pre71 _ (retN X0 hx (t := .boolean) Bd.returns (by simp) (B d16_59) (hnr ▸ hr)))
      have pre72 : Go p e bl s1 (mkF m 54 #[iv p1] []) s1 EF := fun t k => pre57 t (XS.icmpYes X0.here hx rfl (pc0 := 33) (pc' := 54) rfl (B d16_33) rfl (flt hc33).2.2.2 (by decide) (by decide) k)
      have pre73 : Go p e bl s1 (mkF m 59 #[iv p1] [(.int (1 : Int32))]) s1 EF := fun t k => pre72 t (by
       refine XS.iconst X0.here hx rfl (B d16_54) ?_
       exact XS.goto X0.here hx rfl (pc0 := 55) (pc' := 59) rfl (B d16_55) (by decide) (by decide) k)
      have hnr : Value.int (nar .boolean (1 : Int32)) = (.int (1 : Int32)) := by rfl
      exact fin1 X0 (v := some (.int (1 : Int32))) hrt hlk (wl rfl) (wl rfl) (by rw [e0]; exact ⟨by rw [← hR]; simp [isaF, hc3, hc15, hc21, hc27, hc33], N0, rfl⟩) (fun fs hr => hEF ▸ pre73 _ (retN X0 hx (t := .boolean) Bd.returns (by simp) (B d16_59) (hnr ▸ hr)))
    have pre74 : Go p e bl s1 (mkF m 54 #[iv p1] []) s1 EF := fun t k => pre39 t (XS.icmpYes X0.here hx rfl (pc0 := 21) (pc' := 54) rfl (B d16_21) rfl (flt hc21).2.2.2 (by decide) (by decide) k)
    have pre75 : Go p e bl s1 (mkF m 59 #[iv p1] [(.int (1 : Int32))]) s1 EF := fun t k => pre74 t (by
     refine XS.iconst X0.here hx rfl (B d16_54) ?_
     exact XS.goto X0.here hx rfl (pc0 := 55) (pc' := 59) rfl (B d16_55) (by decide) (by decide) k)
    have hnr : Value.int (nar .boolean (1 : Int32)) = (.int (1 : Int32)) := by rfl
    exact fin1 X0 (v := some (.int (1 : Int32))) hrt hlk (wl rfl) (wl rfl) (by rw [e0]; exact ⟨by rw [← hR]; simp [isaF, hc3, hc15, hc21], N0, rfl⟩) (fun fs hr => hEF ▸ pre75 _ (retN X0 hx (t := .boolean) Bd.returns (by simp) (B d16_59) (hnr ▸ hr)))
  have pre76 : Go p e bl s1 (mkF m 6 #[iv p1] []) s1 EF := fun t k => pre1 t (XS.icmpNo X0.here hx rfl (B d16_3) rfl (flt hc3).1 k)
  have pre77 : Go p e bl s1 (mkF m 9 #[iv p1] [(.int (122 : Int32)), (.int p1)]) s1 EF := fun t k => pre76 t (by
   refine XS.iloadN X0.here hx rfl (B d16_6) rfl ?_
   exact XS.bipush X0.here hx rfl (B d16_7) k)
  by_cases hc9 : (122 : Int32) < p1
  · have pre78 : Go p e bl s1 (mkF m 12 #[iv p1] []) s1 EF := fun t k => pre77 t (XS.icmpNo X0.here hx rfl (B d16_9) rfl (tlt hc9).2.2.2 k)
    have pre79 : Go p e bl s1 (mkF m 15 #[iv p1] [(.int (65 : Int32)), (.int p1)]) s1 EF := fun t k => pre78 t (by
     refine XS.iloadN X0.here hx rfl (B d16_12) rfl ?_
     exact XS.bipush X0.here hx rfl (B d16_13) k)
    by_cases hc15 : p1 < (65 : Int32)
    · have pre80 : Go p e bl s1 (mkF m 24 #[iv p1] []) s1 EF := fun t k => pre79 t (XS.icmpYes X0.here hx rfl (pc0 := 15) (pc' := 24) rfl (B d16_15) rfl (tlt hc15).1 (by decide) (by decide) k)
      have pre81 : Go p e bl s1 (mkF m 27 #[iv p1] [(.int (48 : Int32)), (.int p1)]) s1 EF := fun t k => pre80 t (by
       refine XS.iloadN X0.here hx rfl (B d16_24) rfl ?_
       exact XS.bipush X0.here hx rfl (B d16_25) k)
      by_cases hc27 : p1 < (48 : Int32)
      · have pre82 : Go p e bl s1 (mkF m 36 #[iv p1] []) s1 EF := fun t k => pre81 t (XS.icmpYes X0.here hx rfl (pc0 := 27) (pc' := 36) rfl (B d16_27) rfl (tlt hc27).1 (by decide) (by decide) k)
        have pre83 : Go p e bl s1 (mkF m 39 #[iv p1] [(.int (46 : Int32)), (.int p1)]) s1 EF := fun t k => pre82 t (by
         refine XS.iloadN X0.here hx rfl (B d16_36) rfl ?_
         exact XS.bipush X0.here hx rfl (B d16_37) k)
        by_cases hc39 : p1 = (46 : Int32)
        · have pre84 : Go p e bl s1 (mkF m 54 #[iv p1] []) s1 EF := fun t k => pre83 t (XS.icmpYes X0.here hx rfl (pc0 := 39) (pc' := 54) rfl (B d16_39) rfl (teq hc39).1 (by decide) (by decide) k)
          have pre85 : Go p e bl s1 (mkF m 59 #[iv p1] [(.int (1 : Int32))]) s1 EF := fun t k => pre84 t (by
           refine XS.iconst X0.here hx rfl (B d16_54) ?_
           exact XS.goto X0.here hx rfl (pc0 := 55) (pc' := 59) rfl (B d16_55) (by decide) (by decide) k)
          have hnr : Value.int (nar .boolean (1 : Int32)) = (.int (1 : Int32)) := by rfl
          exact fin1 X0 (v := some (.int (1 : Int32))) hrt hlk (wl rfl) (wl rfl) (by rw [e0]; exact ⟨by rw [← hR]; simp [isaF, hc3, hc9, hc15, hc27, hc39], N0, rfl⟩) (fun fs hr => hEF ▸ pre85 _ (retN X0 hx (t := .boolean) Bd.returns (by simp) (B d16_59) (hnr ▸ hr)))
        have pre86 : Go p e bl s1 (mkF m 42 #[iv p1] []) s1 EF := fun t k => pre83 t (XS.icmpNo X0.here hx rfl (B d16_39) rfl (feq hc39).1 k)
        have pre87 : Go p e bl s1 (mkF m 45 #[iv p1] [(.int (95 : Int32)), (.int p1)]) s1 EF := fun t k => pre86 t (by
         refine XS.iloadN X0.here hx rfl (B d16_42) rfl ?_
         exact XS.bipush X0.here hx rfl (B d16_43) k)
        by_cases hc45 : p1 = (95 : Int32)
        · have pre88 : Go p e bl s1 (mkF m 54 #[iv p1] []) s1 EF := fun t k => pre87 t (XS.icmpYes X0.here hx rfl (pc0 := 45) (pc' := 54) rfl (B d16_45) rfl (teq hc45).1 (by decide) (by decide) k)
          have pre89 : Go p e bl s1 (mkF m 59 #[iv p1] [(.int (1 : Int32))]) s1 EF := fun t k => pre88 t (by
           refine XS.iconst X0.here hx rfl (B d16_54) ?_
           exact XS.goto X0.here hx rfl (pc0 := 55) (pc' := 59) rfl (B d16_55) (by decide) (by decide) k)
          have hnr : Value.int (nar .boolean (1 : Int32)) = (.int (1 : Int32)) := by rfl
          exact fin1 X0 (v := some (.int (1 : Int32))) hrt hlk (wl rfl) (wl rfl) (by rw [e0]; exact ⟨by rw [← hR]; simp [isaF, hc3, hc9, hc15, hc27, hc39, hc45], N0, rfl⟩) (fun fs hr => hEF ▸ pre89 _ (retN X0 hx (t := .boolean) Bd.returns (by simp) (B d16_59) (hnr ▸ hr)))
        have pre90 : Go p e bl s1 (mkF m 48 #[iv p1] []) s1 EF := fun t k => pre87 t (XS.icmpNo X0.here hx rfl (B d16_45) rfl (feq hc45).1 k)
        have pre91 : Go p e bl s1 (mkF m 51 #[iv p1] [(.int (45 : Int32)), (.int p1)]) s1 EF := fun t k => pre90 t (by
         refine XS.iloadN X0.here hx rfl (B d16_48) rfl ?_
         exact XS.bipush X0.here hx rfl (B d16_49) k)
        by_cases hc51 : p1 = (45 : Int32)
        · have pre92 : Go p e bl s1 (mkF m 54 #[iv p1] []) s1 EF := fun t k => pre91 t (XS.icmpNo X0.here hx rfl (B d16_51) rfl (teq hc51).2 k)
          have pre93 : Go p e bl s1 (mkF m 59 #[iv p1] [(.int (1 : Int32))]) s1 EF := fun t k => pre92 t (by
           refine XS.iconst X0.here hx rfl (B d16_54) ?_
           exact XS.goto X0.here hx rfl (pc0 := 55) (pc' := 59) rfl (B d16_55) (by decide) (by decide) k)
          have hnr : Value.int (nar .boolean (1 : Int32)) = (.int (1 : Int32)) := by rfl
          exact fin1 X0 (v := some (.int (1 : Int32))) hrt hlk (wl rfl) (wl rfl) (by rw [e0]; exact ⟨by rw [← hR]; simp [isaF, hc3, hc9, hc15, hc27, hc39, hc45, hc51], N0, rfl⟩) (fun fs hr => hEF ▸ pre93 _ (retN X0 hx (t := .boolean) Bd.returns (by simp) (B d16_59) (hnr ▸ hr)))
        have pre94 : Go p e bl s1 (mkF m 58 #[iv p1] []) s1 EF := fun t k => pre91 t (XS.icmpYes X0.here hx rfl (pc0 := 51) (pc' := 58) rfl (B d16_51) rfl (feq hc51).2 (by decide) (by decide) k)
        have pre95 : Go p e bl s1 (mkF m 59 #[iv p1] [(.int (0 : Int32))]) s1 EF := fun t k => pre94 t (by
         exact XS.iconst X0.here hx rfl (B d16_58) k)
        have hnr : Value.int (nar .boolean (0 : Int32)) = (.int (0 : Int32)) := by rfl
        exact fin1 X0 (v := some (.int (0 : Int32))) hrt hlk (wl rfl) (wl rfl) (by rw [e0]; exact ⟨by rw [← hR]; simp [isaF, hc3, hc9, hc15, hc27, hc39, hc45, hc51], N0, rfl⟩) (fun fs hr => hEF ▸ pre95 _ (retN X0 hx (t := .boolean) Bd.returns (by simp) (B d16_59) (hnr ▸ hr)))
      have pre96 : Go p e bl s1 (mkF m 30 #[iv p1] []) s1 EF := fun t k => pre81 t (XS.icmpNo X0.here hx rfl (B d16_27) rfl (flt hc27).1 k)
      have pre97 : Go p e bl s1 (mkF m 33 #[iv p1] [(.int (57 : Int32)), (.int p1)]) s1 EF := fun t k => pre96 t (by
       refine XS.iloadN X0.here hx rfl (B d16_30) rfl ?_
       exact XS.bipush X0.here hx rfl (B d16_31) k)
      by_cases hc33 : (57 : Int32) < p1
      · have pre98 : Go p e bl s1 (mkF m 36 #[iv p1] []) s1 EF := fun t k => pre97 t (XS.icmpNo X0.here hx rfl (B d16_33) rfl (tlt hc33).2.2.2 k)
        have pre99 : Go p e bl s1 (mkF m 39 #[iv p1] [(.int (46 : Int32)), (.int p1)]) s1 EF := fun t k => pre98 t (by
         refine XS.iloadN X0.here hx rfl (B d16_36) rfl ?_
         exact XS.bipush X0.here hx rfl (B d16_37) k)
        by_cases hc39 : p1 = (46 : Int32)
        · have pre100 : Go p e bl s1 (mkF m 54 #[iv p1] []) s1 EF := fun t k => pre99 t (XS.icmpYes X0.here hx rfl (pc0 := 39) (pc' := 54) rfl (B d16_39) rfl (teq hc39).1 (by decide) (by decide) k)
          have pre101 : Go p e bl s1 (mkF m 59 #[iv p1] [(.int (1 : Int32))]) s1 EF := fun t k => pre100 t (by
           refine XS.iconst X0.here hx rfl (B d16_54) ?_
           exact XS.goto X0.here hx rfl (pc0 := 55) (pc' := 59) rfl (B d16_55) (by decide) (by decide) k)
          have hnr : Value.int (nar .boolean (1 : Int32)) = (.int (1 : Int32)) := by rfl
          exact fin1 X0 (v := some (.int (1 : Int32))) hrt hlk (wl rfl) (wl rfl) (by rw [e0]; exact ⟨by rw [← hR]; simp [isaF, hc3, hc9, hc15, hc27, hc33, hc39], N0, rfl⟩) (fun fs hr => hEF ▸ pre101 _ (retN X0 hx (t := .boolean) Bd.returns (by simp) (B d16_59) (hnr ▸ hr)))
        have pre102 : Go p e bl s1 (mkF m 42 #[iv p1] []) s1 EF := fun t k => pre99 t (XS.icmpNo X0.here hx rfl (B d16_39) rfl (feq hc39).1 k)
        have pre103 : Go p e bl s1 (mkF m 45 #[iv p1] [(.int (95 : Int32)), (.int p1)]) s1 EF := fun t k => pre102 t (by
         refine XS.iloadN X0.here hx rfl (B d16_42) rfl ?_
         exact XS.bipush X0.here hx rfl (B d16_43) k)
        by_cases hc45 : p1 = (95 : Int32)
        · have pre104 : Go p e bl s1 (mkF m 54 #[iv p1] []) s1 EF := fun t k => pre103 t (XS.icmpYes X0.here hx rfl (pc0 := 45) (pc' := 54) rfl (B d16_45) rfl (teq hc45).1 (by decide) (by decide) k)
          have pre105 : Go p e bl s1 (mkF m 59 #[iv p1] [(.int (1 : Int32))]) s1 EF := fun t k => pre104 t (by
           refine XS.iconst X0.here hx rfl (B d16_54) ?_
           exact XS.goto X0.here hx rfl (pc0 := 55) (pc' := 59) rfl (B d16_55) (by decide) (by decide) k)
          have hnr : Value.int (nar .boolean (1 : Int32)) = (.int (1 : Int32)) := by rfl
          exact fin1 X0 (v := some (.int (1 : Int32))) hrt hlk (wl rfl) (wl rfl) (by rw [e0]; exact ⟨by rw [← hR]; simp [isaF, hc3, hc9, hc15, hc27, hc33, hc39, hc45], N0, rfl⟩) (fun fs hr => hEF ▸ pre105 _ (retN X0 hx (t := .boolean) Bd.returns (by simp) (B d16_59) (hnr ▸ hr)))
        have pre106 : Go p e bl s1 (mkF m 48 #[iv p1] []) s1 EF := fun t k => pre103 t (XS.icmpNo X0.here hx rfl (B d16_45) rfl (feq hc45).1 k)
        have pre107 : Go p e bl s1 (mkF m 51 #[iv p1] [(.int (45 : Int32)), (.int p1)]) s1 EF := fun t k => pre106 t (by
         refine XS.iloadN X0.here hx rfl (B d16_48) rfl ?_
         exact XS.bipush X0.here hx rfl (B d16_49) k)
        by_cases hc51 : p1 = (45 : Int32)
        · have pre108 : Go p e bl s1 (mkF m 54 #[iv p1] []) s1 EF := fun t k => pre107 t (XS.icmpNo X0.here hx rfl (B d16_51) rfl (teq hc51).2 k)
          have pre109 : Go p e bl s1 (mkF m 59 #[iv p1] [(.int (1 : Int32))]) s1 EF := fun t k => pre108 t (by
           refine XS.iconst X0.here hx rfl (B d16_54) ?_
           exact XS.goto X0.here hx rfl (pc0 := 55) (pc' := 59) rfl (B d16_55) (by decide) (by decide) k)
          have hnr : Value.int (nar .boolean (1 : Int32)) = (.int (1 : Int32)) := by rfl
          exact fin1 X0 (v := some (.int (1 : Int32))) hrt hlk (wl rfl) (wl rfl) (by rw [e0]; exact ⟨by rw [← hR]; simp [isaF, hc3, hc9, hc15, hc27, hc33, hc39, hc45, hc51], N0, rfl⟩) (fun fs hr => hEF ▸ pre109 _ (retN X0 hx (t := .boolean) Bd.returns (by simp) (B d16_59) (hnr ▸ hr)))
        have pre110 : Go p e bl s1 (mkF m 58 #[iv p1] []) s1 EF := fun t k => pre107 t (XS.icmpYes X0.here hx rfl (pc0 := 51) (pc' := 58) rfl (B d16_51) rfl (feq hc51).2 (by decide) (by decide) k)
        have pre111 : Go p e bl s1 (mkF m 59 #[iv p1] [(.int (0 : Int32))]) s1 EF := fun t k => pre110 t (by
         exact XS.iconst X0.here hx rfl (B d16_58) k)
        have hnr : Value.int (nar .boolean (0 : Int32)) = (.int (0 : Int32)) := by rfl
        exact fin1 X0 (v := some (.int (0 : Int32))) hrt hlk (wl rfl) (wl rfl) (by rw [e0]; exact ⟨by rw [← hR]; simp [isaF, hc3, hc9, hc15, hc27, hc33, hc39, hc45, hc51], N0, rfl⟩) (fun fs hr => hEF ▸ pre111 _ (retN X0 hx (t := .boolean) Bd.returns (by simp) (B d16_59) (hnr ▸ hr)))
      have pre112 : Go p e bl s1 (mkF m 54 #[iv p1] []) s1 EF := fun t k => pre97 t (XS.icmpYes X0.here hx rfl (pc0 := 33) (pc' := 54) rfl (B d16_33) rfl (flt hc33).2.2.2 (by decide) (by decide) k)
      have pre113 : Go p e bl s1 (mkF m 59 #[iv p1] [(.int (1 : Int32))]) s1 EF := fun t k => pre112 t (by
       refine XS.iconst X0.here hx rfl (B d16_54) ?_
       exact XS.goto X0.here hx rfl (pc0 := 55) (pc' := 59) rfl (B d16_55) (by decide) (by decide) k)
      have hnr : Value.int (nar .boolean (1 : Int32)) = (.int (1 : Int32)) := by rfl
      exact fin1 X0 (v := some (.int (1 : Int32))) hrt hlk (wl rfl) (wl rfl) (by rw [e0]; exact ⟨by rw [← hR]; simp [isaF, hc3, hc9, hc15, hc27, hc33], N0, rfl⟩) (fun fs hr => hEF ▸ pre113 _ (retN X0 hx (t := .boolean) Bd.returns (by simp) (B d16_59) (hnr ▸ hr)))
    have pre114 : Go p e bl s1 (mkF m 18 #[iv p1] []) s1 EF := fun t k => pre79 t (XS.icmpNo X0.here hx rfl (B d16_15) rfl (flt hc15).1 k)
    have pre115 : Go p e bl s1 (mkF m 21 #[iv p1] [(.int (90 : Int32)), (.int p1)]) s1 EF := fun t k => pre114 t (by
     refine XS.iloadN X0.here hx rfl (B d16_18) rfl ?_
     exact XS.bipush X0.here hx rfl (B d16_19) k)
    by_cases hc21 : (90 : Int32) < p1
    · have pre116 : Go p e bl s1 (mkF m 24 #[iv p1] []) s1 EF := fun t k => pre115 t (XS.icmpNo X0.here hx rfl (B d16_21) rfl (tlt hc21).2.2.2 k)
      have pre117 : Go p e bl s1 (mkF m 27 #[iv p1] [(.int (48 : Int32)), (.int p1)]) s1 EF := fun t k => pre116 t (by
       refine XS.iloadN X0.here hx rfl (B d16_24) rfl ?_
       exact XS.bipush X0.here hx rfl (B d16_25) k)
      by_cases hc27 : p1 < (48 : Int32)
      · have pre118 : Go p e bl s1 (mkF m 36 #[iv p1] []) s1 EF := fun t k => pre117 t (XS.icmpYes X0.here hx rfl (pc0 := 27) (pc' := 36) rfl (B d16_27) rfl (tlt hc27).1 (by decide) (by decide) k)
        have pre119 : Go p e bl s1 (mkF m 39 #[iv p1] [(.int (46 : Int32)), (.int p1)]) s1 EF := fun t k => pre118 t (by
         refine XS.iloadN X0.here hx rfl (B d16_36) rfl ?_
         exact XS.bipush X0.here hx rfl (B d16_37) k)
        by_cases hc39 : p1 = (46 : Int32)
        · have pre120 : Go p e bl s1 (mkF m 54 #[iv p1] []) s1 EF := fun t k => pre119 t (XS.icmpYes X0.here hx rfl (pc0 := 39) (pc' := 54) rfl (B d16_39) rfl (teq hc39).1 (by decide) (by decide) k)
          have pre121 : Go p e bl s1 (mkF m 59 #[iv p1] [(.int (1 : Int32))]) s1 EF := fun t k => pre120 t (by
           refine XS.iconst X0.here hx rfl (B d16_54) ?_
           exact XS.goto X0.here hx rfl (pc0 := 55) (pc' := 59) rfl (B d16_55) (by decide) (by decide) k)
          have hnr : Value.int (nar .boolean (1 : Int32)) = (.int (1 : Int32)) := by rfl
          exact fin1 X0 (v := some (.int (1 : Int32))) hrt hlk (wl rfl) (wl rfl) (by rw [e0]; exact ⟨by rw [← hR]; simp [isaF, hc3, hc9, hc15, hc21, hc27, hc39], N0, rfl⟩) (fun fs hr => hEF ▸ pre121 _ (retN X0 hx (t := .boolean) Bd.returns (by simp) (B d16_59) (hnr ▸ hr)))
        have pre122 : Go p e bl s1 (mkF m 42 #[iv p1] []) s1 EF := fun t k => pre119 t (XS.icmpNo X0.here hx rfl (B d16_39) rfl (feq hc39).1 k)
        have pre123 : Go p e bl s1 (mkF m 45 #[iv p1] [(.int (95 : Int32)), (.int p1)]) s1 EF := fun t k => pre122 t (by
         refine XS.iloadN X0.here hx rfl (B d16_42) rfl ?_
         exact XS.bipush X0.here hx rfl (B d16_43) k)
        by_cases hc45 : p1 = (95 : Int32)
        · have pre124 : Go p e bl s1 (mkF m 54 #[iv p1] []) s1 EF := fun t k => pre123 t (XS.icmpYes X0.here hx rfl (pc0 := 45) (pc' := 54) rfl (B d16_45) rfl (teq hc45).1 (by decide) (by decide) k)
          have pre125 : Go p e bl s1 (mkF m 59 #[iv p1] [(.int (1 : Int32))]) s1 EF := fun t k => pre124 t (by
           refine XS.iconst X0.here hx rfl (B d16_54) ?_
           exact XS.goto X0.here hx rfl (pc0 := 55) (pc' := 59) rfl (B d16_55) (by decide) (by decide) k)
          have hnr : Value.int (nar .boolean (1 : Int32)) = (.int (1 : Int32)) := by rfl
          exact fin1 X0 (v := some (.int (1 : Int32))) hrt hlk (wl rfl) (wl rfl) (by rw [e0]; exact ⟨by rw [← hR]; simp [isaF, hc3, hc9, hc15, hc21, hc27, hc39, hc45], N0, rfl⟩) (fun fs hr => hEF ▸ pre125 _ (retN X0 hx (t := .boolean) Bd.returns (by simp) (B d16_59) (hnr ▸ hr)))
        have pre126 : Go p e bl s1 (mkF m 48 #[iv p1] []) s1 EF := fun t k => pre123 t (XS.icmpNo X0.here hx rfl (B d16_45) rfl (feq hc45).1 k)
        have pre127 : Go p e bl s1 (mkF m 51 #[iv p1] [(.int (45 : Int32)), (.int p1)]) s1 EF := fun t k => pre126 t (by
         refine XS.iloadN X0.here hx rfl (B d16_48) rfl ?_
         exact XS.bipush X0.here hx rfl (B d16_49) k)
        by_cases hc51 : p1 = (45 : Int32)
        · have pre128 : Go p e bl s1 (mkF m 54 #[iv p1] []) s1 EF := fun t k => pre127 t (XS.icmpNo X0.here hx rfl (B d16_51) rfl (teq hc51).2 k)
          have pre129 : Go p e bl s1 (mkF m 59 #[iv p1] [(.int (1 : Int32))]) s1 EF := fun t k => pre128 t (by
           refine XS.iconst X0.here hx rfl (B d16_54) ?_
           exact XS.goto X0.here hx rfl (pc0 := 55) (pc' := 59) rfl (B d16_55) (by decide) (by decide) k)
          have hnr : Value.int (nar .boolean (1 : Int32)) = (.int (1 : Int32)) := by rfl
          exact fin1 X0 (v := some (.int (1 : Int32))) hrt hlk (wl rfl) (wl rfl) (by rw [e0]; exact ⟨by rw [← hR]; simp [isaF, hc3, hc9, hc15, hc21, hc27, hc39, hc45, hc51], N0, rfl⟩) (fun fs hr => hEF ▸ pre129 _ (retN X0 hx (t := .boolean) Bd.returns (by simp) (B d16_59) (hnr ▸ hr)))
        have pre130 : Go p e bl s1 (mkF m 58 #[iv p1] []) s1 EF := fun t k => pre127 t (XS.icmpYes X0.here hx rfl (pc0 := 51) (pc' := 58) rfl (B d16_51) rfl (feq hc51).2 (by decide) (by decide) k)
        have pre131 : Go p e bl s1 (mkF m 59 #[iv p1] [(.int (0 : Int32))]) s1 EF := fun t k => pre130 t (by
         exact XS.iconst X0.here hx rfl (B d16_58) k)
        have hnr : Value.int (nar .boolean (0 : Int32)) = (.int (0 : Int32)) := by rfl
        exact fin1 X0 (v := some (.int (0 : Int32))) hrt hlk (wl rfl) (wl rfl) (by rw [e0]; exact ⟨by rw [← hR]; simp [isaF, hc3, hc9, hc15, hc21, hc27, hc39, hc45, hc51], N0, rfl⟩) (fun fs hr => hEF ▸ pre131 _ (retN X0 hx (t := .boolean) Bd.returns (by simp) (B d16_59) (hnr ▸ hr)))
      have pre132 : Go p e bl s1 (mkF m 30 #[iv p1] []) s1 EF := fun t k => pre117 t (XS.icmpNo X0.here hx rfl (B d16_27) rfl (flt hc27).1 k)
      have pre133 : Go p e bl s1 (mkF m 33 #[iv p1] [(.int (57 : Int32)), (.int p1)]) s1 EF := fun t k => pre132 t (by
       refine XS.iloadN X0.here hx rfl (B d16_30) rfl ?_
       exact XS.bipush X0.here hx rfl (B d16_31) k)
      by_cases hc33 : (57 : Int32) < p1
      · have pre134 : Go p e bl s1 (mkF m 36 #[iv p1] []) s1 EF := fun t k => pre133 t (XS.icmpNo X0.here hx rfl (B d16_33) rfl (tlt hc33).2.2.2 k)
        have pre135 : Go p e bl s1 (mkF m 39 #[iv p1] [(.int (46 : Int32)), (.int p1)]) s1 EF := fun t k => pre134 t (by
         refine XS.iloadN X0.here hx rfl (B d16_36) rfl ?_
         exact XS.bipush X0.here hx rfl (B d16_37) k)
        by_cases hc39 : p1 = (46 : Int32)
        · have pre136 : Go p e bl s1 (mkF m 54 #[iv p1] []) s1 EF := fun t k => pre135 t (XS.icmpYes X0.here hx rfl (pc0 := 39) (pc' := 54) rfl (B d16_39) rfl (teq hc39).1 (by decide) (by decide) k)
          have pre137 : Go p e bl s1 (mkF m 59 #[iv p1] [(.int (1 : Int32))]) s1 EF := fun t k => pre136 t (by
           refine XS.iconst X0.here hx rfl (B d16_54) ?_
           exact XS.goto X0.here hx rfl (pc0 := 55) (pc' := 59) rfl (B d16_55) (by decide) (by decide) k)
          have hnr : Value.int (nar .boolean (1 : Int32)) = (.int (1 : Int32)) := by rfl
          exact fin1 X0 (v := some (.int (1 : Int32))) hrt hlk (wl rfl) (wl rfl) (by rw [e0]; exact ⟨by rw [← hR]; simp [isaF, hc3, hc9, hc15, hc21, hc27, hc33, hc39], N0, rfl⟩) (fun fs hr => hEF ▸ pre137 _ (retN X0 hx (t := .boolean) Bd.returns (by simp) (B d16_59) (hnr ▸ hr)))
        have pre138 : Go p e bl s1 (mkF m 42 #[iv p1] []) s1 EF := fun t k => pre135 t (XS.icmpNo X0.here hx rfl (B d16_39) rfl (feq hc39).1 k)
        have pre139 : Go p e bl s1 (mkF m 45 #[iv p1] [(.int (95 : Int32)), (.int p1)]) s1 EF := fun t k => pre138 t (by
         refine XS.iloadN X0.here hx rfl (B d16_42) rfl ?_
         exact XS.bipush X0.here hx rfl (B d16_43) k)
        by_cases hc45 : p1 = (95 : Int32)
        · have pre140 : Go p e bl s1 (mkF m 54 #[iv p1] []) s1 EF := fun t k => pre139 t (XS.icmpYes X0.here hx rfl (pc0 := 45) (pc' := 54) rfl (B d16_45) rfl (teq hc45).1 (by decide) (by decide) k)
          have pre141 : Go p e bl s1 (mkF m 59 #[iv p1] [(.int (1 : Int32))]) s1 EF := fun t k => pre140 t (by
           refine XS.iconst X0.here hx rfl (B d16_54) ?_
           exact XS.goto X0.here hx rfl (pc0 := 55) (pc' := 59) rfl (B d16_55) (by decide) (by decide) k)
          have hnr : Value.int (nar .boolean (1 : Int32)) = (.int (1 : Int32)) := by rfl
          exact fin1 X0 (v := some (.int (1 : Int32))) hrt hlk (wl rfl) (wl rfl) (by rw [e0]; exact ⟨by rw [← hR]; simp [isaF, hc3, hc9, hc15, hc21, hc27, hc33, hc39, hc45], N0, rfl⟩) (fun fs hr => hEF ▸ pre141 _ (retN X0 hx (t := .boolean) Bd.returns (by simp) (B d16_59) (hnr ▸ hr)))
        have pre142 : Go p e bl s1 (mkF m 48 #[iv p1] []) s1 EF := fun t k => pre139 t (XS.icmpNo X0.here hx rfl (B d16_45) rfl (feq hc45).1 k)
        have pre143 : Go p e bl s1 (mkF m 51 #[iv p1] [(.int (45 : Int32)), (.int p1)]) s1 EF := fun t k => pre142 t (by
         refine XS.iloadN X0.here hx rfl (B d16_48) rfl ?_
         exact XS.bipush X0.here hx rfl (B d16_49) k)
        by_cases hc51 : p1 = (45 : Int32)
        · have pre144 : Go p e bl s1 (mkF m 54 #[iv p1] []) s1 EF := fun t k => pre143 t (XS.icmpNo X0.here hx rfl (B d16_51) rfl (teq hc51).2 k)
          have pre145 : Go p e bl s1 (mkF m 59 #[iv p1] [(.int (1 : Int32))]) s1 EF := fun t k => pre144 t (by
           refine XS.iconst X0.here hx rfl (B d16_54) ?_
           exact XS.goto X0.here hx rfl (pc0 := 55) (pc' := 59) rfl (B d16_55) (by decide) (by decide) k)
          have hnr : Value.int (nar .boolean (1 : Int32)) = (.int (1 : Int32)) := by rfl
          exact fin1 X0 (v := some (.int (1 : Int32))) hrt hlk (wl rfl) (wl rfl) (by rw [e0]; exact ⟨by rw [← hR]; simp [isaF, hc3, hc9, hc15, hc21, hc27, hc33, hc39, hc45, hc51], N0, rfl⟩) (fun fs hr => hEF ▸ pre145 _ (retN X0 hx (t := .boolean) Bd.returns (by simp) (B d16_59) (hnr ▸ hr)))
        have pre146 : Go p e bl s1 (mkF m 58 #[iv p1] []) s1 EF := fun t k => pre143 t (XS.icmpYes X0.here hx rfl (pc0 := 51) (pc' := 58) rfl (B d16_51) rfl (feq hc51).2 (by decide) (by decide) k)
        have pre147 : Go p e bl s1 (mkF m 59 #[iv p1] [(.int (0 : Int32))]) s1 EF := fun t k => pre146 t (by
         exact XS.iconst X0.here hx rfl (B d16_58) k)
        have hnr : Value.int (nar .boolean (0 : Int32)) = (.int (0 : Int32)) := by rfl
        exact fin1 X0 (v := some (.int (0 : Int32))) hrt hlk (wl rfl) (wl rfl) (by rw [e0]; exact ⟨by rw [← hR]; simp [isaF, hc3, hc9, hc15, hc21, hc27, hc33, hc39, hc45, hc51], N0, rfl⟩) (fun fs hr => hEF ▸ pre147 _ (retN X0 hx (t := .boolean) Bd.returns (by simp) (B d16_59) (hnr ▸ hr)))
      have pre148 : Go p e bl s1 (mkF m 54 #[iv p1] []) s1 EF := fun t k => pre133 t (XS.icmpYes X0.here hx rfl (pc0 := 33) (pc' := 54) rfl (B d16_33) rfl (flt hc33).2.2.2 (by decide) (by decide) k)
      have pre149 : Go p e bl s1 (mkF m 59 #[iv p1] [(.int (1 : Int32))]) s1 EF := fun t k => pre148 t (by
       refine XS.iconst X0.here hx rfl (B d16_54) ?_
       exact XS.goto X0.here hx rfl (pc0 := 55) (pc' := 59) rfl (B d16_55) (by decide) (by decide) k)
      have hnr : Value.int (nar .boolean (1 : Int32)) = (.int (1 : Int32)) := by rfl
      exact fin1 X0 (v := some (.int (1 : Int32))) hrt hlk (wl rfl) (wl rfl) (by rw [e0]; exact ⟨by rw [← hR]; simp [isaF, hc3, hc9, hc15, hc21, hc27, hc33], N0, rfl⟩) (fun fs hr => hEF ▸ pre149 _ (retN X0 hx (t := .boolean) Bd.returns (by simp) (B d16_59) (hnr ▸ hr)))
    have pre150 : Go p e bl s1 (mkF m 54 #[iv p1] []) s1 EF := fun t k => pre115 t (XS.icmpYes X0.here hx rfl (pc0 := 21) (pc' := 54) rfl (B d16_21) rfl (flt hc21).2.2.2 (by decide) (by decide) k)
    have pre151 : Go p e bl s1 (mkF m 59 #[iv p1] [(.int (1 : Int32))]) s1 EF := fun t k => pre150 t (by
     refine XS.iconst X0.here hx rfl (B d16_54) ?_
     exact XS.goto X0.here hx rfl (pc0 := 55) (pc' := 59) rfl (B d16_55) (by decide) (by decide) k)
    have hnr : Value.int (nar .boolean (1 : Int32)) = (.int (1 : Int32)) := by rfl
    exact fin1 X0 (v := some (.int (1 : Int32))) hrt hlk (wl rfl) (wl rfl) (by rw [e0]; exact ⟨by rw [← hR]; simp [isaF, hc3, hc9, hc15, hc21], N0, rfl⟩) (fun fs hr => hEF ▸ pre151 _ (retN X0 hx (t := .boolean) Bd.returns (by simp) (B d16_59) (hnr ▸ hr)))
  have pre152 : Go p e bl s1 (mkF m 54 #[iv p1] []) s1 EF := fun t k => pre77 t (XS.icmpYes X0.here hx rfl (pc0 := 9) (pc' := 54) rfl (B d16_9) rfl (flt hc9).2.2.2 (by decide) (by decide) k)
  have pre153 : Go p e bl s1 (mkF m 59 #[iv p1] [(.int (1 : Int32))]) s1 EF := fun t k => pre152 t (by
   refine XS.iconst X0.here hx rfl (B d16_54) ?_
   exact XS.goto X0.here hx rfl (pc0 := 55) (pc' := 59) rfl (B d16_55) (by decide) (by decide) k)
  have hnr : Value.int (nar .boolean (1 : Int32)) = (.int (1 : Int32)) := by rfl
  exact fin1 X0 (v := some (.int (1 : Int32))) hrt hlk (wl rfl) (wl rfl) (by rw [e0]; exact ⟨by rw [← hR]; simp [isaF, hc3, hc9], N0, rfl⟩) (fun fs hr => hEF ▸ pre153 _ (retN X0 hx (t := .boolean) Bd.returns (by simp) (B d16_59) (hnr ▸ hr)))
abbrev rKN : Room := { frames := 0, cells := 0, slots := 0, locals := 0 }
theorem d17_0 : decode jdk_31_method_11_code 0 = .ok (.aload_n 0, 1) := by decide +kernel
theorem d17_1 : decode jdk_31_method_11_code 1 = .ok (.ifnonnull 12, 3) := by decide +kernel
theorem d17_13 : decode jdk_31_method_11_code 13 = .ok (.aload_n 0, 1) := by decide +kernel
theorem d17_14 : decode jdk_31_method_11_code 14 = .ok (.areturn, 1) := by decide +kernel
theorem pn6 : plainName "java/util/Objects" = true := by first | (simp [plainName, overriddenIn]; done) | decide +kernel
theorem efN (m : MethodId) (a1 : Addr) (a2 : Addr) : entryFrame m #[(.ref a1), (.ref a2)] 2 = mkF m 0 #[rv a1, rv a2] [] := by first | (simp [entryFrame, mkF, argsToLocals, Value.category]; done) | rfl
def QN (Z : State) (a1 : Addr) (a2 : Addr) (h0 : Heap) (n0 : Nat) (v : Option Value) (h : Heap) (L : List Loc) : Prop := v = some (.ref a1) ∧ Fr n0 L ∧ h = h0
set_option maxRecDepth 65536 in
set_option maxHeartbeats 40000000 in
theorem rmN (l : Launch) (Z : State) (a0 : Array Value) (hw : HW a0 Z) (ws : List Jvm.Cond) (a1 : Addr) (a2 : Addr) (h0 : Heap) (n0 : Nat) (Z0 : n0 ≤ h0.size) :
    MF l Z mN17 jdk_31_method_11_code 2 (some (.object "java/lang/Object")) ws rKN #[(.ref a1), (.ref a2)] h0 (QN Z a1 a2 h0 n0) := by
  refine MetFree.of_bodySF (plainFor_of_name pn6) hisR ?_
  intro p e s m args bl meth c s1 Bd hml0 hP hK
  obtain ⟨rfl, hZ, hh⟩ := hP
  have hx := Bd.exec
  have hby := Bd.bytes
  have B := @hb c _ hby
  have hown : s.vm.findClass "java/util/Objects" = some m.cls := findClass_of_methodNamed Bd.named
  have hlk : meth.locks = false := BodyLoose.notSynchronized Bd
  have hrt : ∀ {v : Option Value}, meth.sig.returnType = none → v = none := fun h => by rw [Bd.returns] at h; cases h
  have X0 : Stand p l e rKN s m #[(.ref a1), (.ref a2)] bl meth c s1 [] 0 0 := Stand.of_body Bd
  have e0 : s1.heap = h0 := by rw [← hh, Bd.state]; rfl
  have N0 := Fr.nil n0
  obtain ⟨EF, hEF⟩ : ∃ f, f = entryFrame m #[(.ref a1), (.ref a2)] 2 := ⟨_, rfl⟩
  have pre0 : Go p e bl s1 (mkF m 0 #[rv a1, rv a2] []) s1 EF := fun t k => by rw [hEF]; exact castTop (efN m a1 a2) k
  have pre1 : Go p e bl s1 (mkF m 14 #[rv a1, rv a2] [(.ref a1)]) s1 EF := fun t k => pre0 t (by
   refine XS.aloadN X0.here hx rfl (B d17_0) rfl rfl ?_
   refine XS.ifnonnullYes X0.here hx rfl (pc0 := 1) (pc' := 13) rfl (B d17_1) rfl (by decide) (by decide) ?_
   exact XS.aloadN X0.here hx rfl (B d17_13) rfl rfl k)
  exact fin1 X0 (v := some (.ref a1)) hrt hlk (wl rfl) (wl rfl) (by rw [e0]; exact ⟨rfl, N0, rfl⟩) (fun fs hr => hEF ▸ pre1 _ (retOut X0 hx Bd.returns rfl (Or.inr (Or.inr (Or.inr (Or.inr ⟨rfl, rfl, rfl⟩)))) (B d17_14) hr))
abbrev rKM : Room := { frames := 4, cells := 3, slots := 12, locals := 66 }
theorem d18_0 : decode method_3_code 0 = .ok (.iload 4, 2) := by decide +kernel
theorem d18_2 : decode method_3_code 2 = .ok (.iconst 1, 1) := by decide +kernel
theorem d18_3 : decode method_3_code 3 = .ok (.if_icmp .ne 18, 3) := by decide +kernel
theorem d18_6 : decode method_3_code 6 = .ok (.new 8, 3) := by decide +kernel
theorem d18_9 : decode method_3_code 9 = .ok (.dup, 1) := by decide +kernel
theorem d18_10 : decode method_3_code 10 = .ok (.iconst 1, 1) := by decide +kernel
theorem d18_11 : decode method_3_code 11 = .ok (.newarray .char, 2) := by decide +kernel
theorem d18_13 : decode method_3_code 13 = .ok (.dup, 1) := by decide +kernel
theorem d18_14 : decode method_3_code 14 = .ok (.iconst 0, 1) := by decide +kernel
theorem d18_15 : decode method_3_code 15 = .ok (.iload_n 0, 1) := by decide +kernel
theorem d18_16 : decode method_3_code 16 = .ok (.castore, 1) := by decide +kernel
theorem d18_17 : decode method_3_code 17 = .ok (.invokespecial 10, 3) := by decide +kernel
theorem d18_20 : decode method_3_code 20 = .ok (.areturn, 1) := by decide +kernel
theorem d18_21 : decode method_3_code 21 = .ok (.iload 4, 2) := by decide +kernel
theorem d18_23 : decode method_3_code 23 = .ok (.iconst 2, 1) := by decide +kernel
theorem d18_24 : decode method_3_code 24 = .ok (.if_icmp .ne 22, 3) := by decide +kernel
theorem d18_27 : decode method_3_code 27 = .ok (.new 8, 3) := by decide +kernel
theorem d18_30 : decode method_3_code 30 = .ok (.dup, 1) := by decide +kernel
theorem d18_31 : decode method_3_code 31 = .ok (.iconst 2, 1) := by decide +kernel
theorem d18_32 : decode method_3_code 32 = .ok (.newarray .char, 2) := by decide +kernel
theorem d18_34 : decode method_3_code 34 = .ok (.dup, 1) := by decide +kernel
theorem d18_35 : decode method_3_code 35 = .ok (.iconst 0, 1) := by decide +kernel
theorem d18_36 : decode method_3_code 36 = .ok (.iload_n 0, 1) := by decide +kernel
theorem d18_37 : decode method_3_code 37 = .ok (.castore, 1) := by decide +kernel
theorem d18_38 : decode method_3_code 38 = .ok (.dup, 1) := by decide +kernel
theorem d18_39 : decode method_3_code 39 = .ok (.iconst 1, 1) := by decide +kernel
theorem d18_40 : decode method_3_code 40 = .ok (.iload_n 1, 1) := by decide +kernel
theorem d18_41 : decode method_3_code 41 = .ok (.castore, 1) := by decide +kernel
theorem d18_42 : decode method_3_code 42 = .ok (.invokespecial 10, 3) := by decide +kernel
theorem d18_45 : decode method_3_code 45 = .ok (.areturn, 1) := by decide +kernel
theorem d18_46 : decode method_3_code 46 = .ok (.iload 4, 2) := by decide +kernel
theorem d18_48 : decode method_3_code 48 = .ok (.iconst 3, 1) := by decide +kernel
theorem d18_49 : decode method_3_code 49 = .ok (.if_icmp .ne 26, 3) := by decide +kernel
theorem d18_52 : decode method_3_code 52 = .ok (.new 8, 3) := by decide +kernel
theorem d18_55 : decode method_3_code 55 = .ok (.dup, 1) := by decide +kernel
theorem d18_56 : decode method_3_code 56 = .ok (.iconst 3, 1) := by decide +kernel
theorem d18_57 : decode method_3_code 57 = .ok (.newarray .char, 2) := by decide +kernel
theorem d18_59 : decode method_3_code 59 = .ok (.dup, 1) := by decide +kernel
theorem d18_60 : decode method_3_code 60 = .ok (.iconst 0, 1) := by decide +kernel
theorem d18_61 : decode method_3_code 61 = .ok (.iload_n 0, 1) := by decide +kernel
theorem d18_62 : decode method_3_code 62 = .ok (.castore, 1) := by decide +kernel
theorem d18_63 : decode method_3_code 63 = .ok (.dup, 1) := by decide +kernel
theorem d18_64 : decode method_3_code 64 = .ok (.iconst 1, 1) := by decide +kernel
theorem d18_65 : decode method_3_code 65 = .ok (.iload_n 1, 1) := by decide +kernel
theorem d18_66 : decode method_3_code 66 = .ok (.castore, 1) := by decide +kernel
theorem d18_67 : decode method_3_code 67 = .ok (.dup, 1) := by decide +kernel
theorem d18_68 : decode method_3_code 68 = .ok (.iconst 2, 1) := by decide +kernel
theorem d18_69 : decode method_3_code 69 = .ok (.iload_n 2, 1) := by decide +kernel
theorem d18_70 : decode method_3_code 70 = .ok (.castore, 1) := by decide +kernel
theorem d18_71 : decode method_3_code 71 = .ok (.invokespecial 10, 3) := by decide +kernel
theorem d18_74 : decode method_3_code 74 = .ok (.areturn, 1) := by decide +kernel
theorem d18_75 : decode method_3_code 75 = .ok (.new 8, 3) := by decide +kernel
theorem d18_78 : decode method_3_code 78 = .ok (.dup, 1) := by decide +kernel
theorem d18_79 : decode method_3_code 79 = .ok (.iconst 4, 1) := by decide +kernel
theorem d18_80 : decode method_3_code 80 = .ok (.newarray .char, 2) := by decide +kernel
theorem d18_82 : decode method_3_code 82 = .ok (.dup, 1) := by decide +kernel
theorem d18_83 : decode method_3_code 83 = .ok (.iconst 0, 1) := by decide +kernel
theorem d18_84 : decode method_3_code 84 = .ok (.iload_n 0, 1) := by decide +kernel
theorem d18_85 : decode method_3_code 85 = .ok (.castore, 1) := by decide +kernel
theorem d18_86 : decode method_3_code 86 = .ok (.dup, 1) := by decide +kernel
theorem d18_87 : decode method_3_code 87 = .ok (.iconst 1, 1) := by decide +kernel
theorem d18_88 : decode method_3_code 88 = .ok (.iload_n 1, 1) := by decide +kernel
theorem d18_89 : decode method_3_code 89 = .ok (.castore, 1) := by decide +kernel
theorem d18_90 : decode method_3_code 90 = .ok (.dup, 1) := by decide +kernel
theorem d18_91 : decode method_3_code 91 = .ok (.iconst 2, 1) := by decide +kernel
theorem d18_92 : decode method_3_code 92 = .ok (.iload_n 2, 1) := by decide +kernel
theorem d18_93 : decode method_3_code 93 = .ok (.castore, 1) := by decide +kernel
theorem d18_94 : decode method_3_code 94 = .ok (.dup, 1) := by decide +kernel
theorem d18_95 : decode method_3_code 95 = .ok (.iconst 3, 1) := by decide +kernel
theorem d18_96 : decode method_3_code 96 = .ok (.iload_n 3, 1) := by decide +kernel
theorem d18_97 : decode method_3_code 97 = .ok (.castore, 1) := by decide +kernel
theorem d18_98 : decode method_3_code 98 = .ok (.invokespecial 10, 3) := by decide +kernel
theorem d18_101 : decode method_3_code 101 = .ok (.areturn, 1) := by decide +kernel
theorem pd10 : parseMethodDescriptor "([C)V" = some ⟨[(.array .char)], none⟩ := by decide +kernel
theorem efM (m : MethodId) (p1 : Int32) (p2 : Int32) (p3 : Int32) (p4 : Int32) (p5 : Int32) : entryFrame m #[(.int p1), (.int p2), (.int p3), (.int p4), (.int p5)] 5 = mkF m 0 #[iv p1, iv p2, iv p3, iv p4, iv p5] [] := by first | (simp [entryFrame, mkF, argsToLocals, Value.category]; done) | rfl
def QM (Z : State) (p1 : Int32) (p2 : Int32) (p3 : Int32) (p4 : Int32) (p5 : Int32) (cz : Int32) (fv : Value) (h0 : Heap) (n0 : Nat) (v : Option Value) (h : Heap) (L : List Loc) : Prop := ∃ b bb k n bs, v = some (.ref b) ∧ Fr n0 L ∧ Keep h0 h [] ∧ h0.size ≤ b ∧ h0.size ≤ bb ∧ StL Z h b bb k n bs 0 0 ∧ Gd n bs
set_option maxRecDepth 65536 in
set_option maxHeartbeats 40000000 in
theorem rmM (l : Launch) (Z : State) (a0 : Array Value) (hw : HW a0 Z) (ws : List Jvm.Cond) (p1 : Int32) (p2 : Int32) (p3 : Int32) (p4 : Int32) (p5 : Int32) (cz : Int32) (fv : Value) (h0 : Heap) (n0 : Nat) (Z0 : n0 ≤ h0.size) (O0 : Old Z n0 h0) (J0 : Jd Z cz fv) (o1 : okc p1) (o2 : okc p2) (o3 : okc p3) (o4 : okc p4) :
    MF l Z mN18 method_3_code 5 (some (.object "java/lang/String")) ws rKM #[(.int p1), (.int p2), (.int p3), (.int p4), (.int p5)] h0 (QM Z p1 p2 p3 p4 p5 cz fv h0 n0) := by
  refine MetFree.of_bodySF (plainFor_of_name pn4) hisR ?_
  intro p e s m args bl meth c s1 Bd hml0 hP hK
  obtain ⟨rfl, hZ, hh⟩ := hP
  have hx := Bd.exec
  have hby := Bd.bytes
  have B := @hb c _ hby
  have hM := fun {n : Nat} (h : n = 5) => h.trans hml0.symm
  have hown : s.vm.findClass "com/example/minuterie/minuterie/TimerNameOfPinLaw" = some m.cls := findClass_of_methodNamed Bd.named
  have hlk : meth.locks = false := BodyLoose.notSynchronized Bd
  have hrt : ∀ {v : Option Value}, meth.sig.returnType = none → v = none := fun h => by rw [Bd.returns] at h; cases h
  have X0 : Stand p l e rKM s m #[(.int p1), (.int p2), (.int p3), (.int p4), (.int p5)] bl meth c s1 [] 0 0 := Stand.of_body Bd
  have e0 : s1.heap = h0 := by rw [← hh, Bd.state]; rfl
  have N0 := Fr.nil n0
  obtain ⟨EF, hEF⟩ : ∃ f, f = entryFrame m #[(.int p1), (.int p2), (.int p3), (.int p4), (.int p5)] 5 := ⟨_, rfl⟩
  have pre0 : Go p e bl s1 (mkF m 0 #[iv p1, iv p2, iv p3, iv p4, iv p5] []) s1 EF := fun t k => by rw [hEF]; exact castTop (efM m p1 p2 p3 p4 p5) k
  have pre1 : Go p e bl s1 (mkF m 3 #[iv p1, iv p2, iv p3, iv p4, iv p5] [(.int (1 : Int32)), (.int p5)]) s1 EF := fun t k => pre0 t (by
   refine XS.iload X0.here hx rfl (B d18_0) rfl ?_
   exact XS.iconst X0.here hx rfl (B d18_2) k)
  by_cases hc3 : p5 = (1 : Int32)
  · have pre2 : Go p e bl s1 (mkF m 6 #[iv p1, iv p2, iv p3, iv p4, iv p5] []) s1 EF := fun t k => pre1 t (XS.icmpNo X0.here hx rfl (B d18_3) rfl (teq hc3).2 k)
    obtain ⟨T3, h3, X3, e3, Et3, A3, D3, U3, st3⟩ := newO X0 hx hZ hown (hw _ (mW 8 rfl)) (hw _ (mW 9 rfl)) (hw _ (mW 10 rfl)) e0 (g := (mkF m 6 #[iv p1, iv p2, iv p3, iv p4, iv p5] [])) rfl (B d18_6) (by decide) (by decide)
    obtain ⟨b3, g3⟩ : ∃ z, z = h0.size := ⟨_, rfl⟩
    rw [← g3] at A3 st3 D3
    have g_b3 : n0 ≤ b3 := Nat.le_trans Z0 (Nat.le_of_eq g3.symm)
    have sz_b3 : h0.size ≤ b3 := Nat.le_trans (Keep.refl h0 []).1 (Nat.le_of_eq g3.symm)
    have pre4 : Go p e bl T3 (mkF m 9 #[iv p1, iv p2, iv p3, iv p4, iv p5] [(.ref b3)]) s1 EF := fun t k => pre2 t (st3 t k)
    have O5 : Old Z n0 h3 := O0.ext Et3
    have Z5 : n0 ≤ h3.size := Nat.le_trans Z0 Et3.1
    have K5 : Keep h0 h3 [] := (Keep.refl h0 []).ext Et3
    have F_coder_b3 : Fld Z h3 b3 "java/lang/String" "coder" "B" (.int (0 : Int32)) := D3 (Or.inr (hw _ (mW 35 rfl))) (ty := .byte) (by decide)
    have F_value_b3 : Fld Z h3 b3 "java/lang/String" "value" "[B" .null := D3 (Or.inr (hw _ (mW 37 rfl))) (ty := (.array .byte)) (by decide)
    have F_hash_b3 : Fld Z h3 b3 "java/lang/String" "hash" "I" (.int (0 : Int32)) := D3 (Or.inl (hw _ (mW 129 rfl))) (ty := .int) (by decide)
    have F_hashIsZero_b3 : Fld Z h3 b3 "java/lang/String" "hashIsZero" "Z" (.int (0 : Int32)) := D3 (Or.inl (hw _ (mW 131 rfl))) (ty := .boolean) (by decide)
    have pre6 : Go p e bl T3 (mkF m 11 #[iv p1, iv p2, iv p3, iv p4, iv p5] [(.int (1 : Int32)), (.ref b3), (.ref b3)]) s1 EF := fun t k => pre4 t (by
     refine XS.dup X3.here hx rfl (B d18_9) rfl rfl ?_
     exact XS.iconst X3.here hx rfl (B d18_10) k)
    obtain ⟨T7, h7, k7, X7, e7, Et7, A7, st7⟩ := newP X3 hx hZ (hw _ (mW 11 rfl)) e3 (g := (mkF m 11 #[iv p1, iv p2, iv p3, iv p4, iv p5] [(.int (1 : Int32)), (.ref b3), (.ref b3)])) rfl (B d18_11) rfl (by decide) (cap := 1) (by decide) (by decide) (by decide) (by decide)
    obtain ⟨b7, g7⟩ : ∃ z, z = h3.size := ⟨_, rfl⟩
    rw [← g7] at A7 st7
    have g_b7 : n0 ≤ b7 := Nat.le_trans Z5 (Nat.le_of_eq g7.symm)
    have sz_b7 : h0.size ≤ b7 := Nat.le_trans K5.1 (Nat.le_of_eq g7.symm)
    have ne_b3_b7 : b3 ≠ b7 := Nat.ne_of_lt (Nat.lt_of_lt_of_le A3.lt (Nat.le_of_eq g7.symm))
    have pre8 : Go p e bl T7 (mkF m 13 #[iv p1, iv p2, iv p3, iv p4, iv p5] [(.ref b7), (.ref b3), (.ref b3)]) s1 EF := fun t k => pre6 t (st7 t k)
    have O9 : Old Z n0 h7 := O5.ext Et7
    have Z9 : n0 ≤ h7.size := Nat.le_trans Z5 Et7.1
    have K9 : Keep h0 h7 [] := K5.ext Et7
    have V7 : Arv Z h7 b7 k7 .char (1 : Int32) [(.int (0 : Int32))] (.int (0 : Int32)) := (Arv.new A7 (by decide)).pad (pad_rep [] (.int (0 : Int32)) 1)
    have pre10 : Go p e bl T7 (mkF m 16 #[iv p1, iv p2, iv p3, iv p4, iv p5] [(.int p1), (.int (0 : Int32)), (.ref b7), (.ref b7), (.ref b3), (.ref b3)]) s1 EF := fun t k => pre8 t (by
     refine XS.dup X7.here hx rfl (B d18_13) rfl rfl ?_
     refine XS.iconst X7.here hx rfl (B d18_14) ?_
     exact XS.iloadN X7.here hx rfl (B d18_15) rfl k)
    obtain ⟨cl11, Ar11, q11, Sz11, M11, H11, G11⟩ := id V7
    have hin11 : ¬ ((0 : Int32) < 0 ∨ cl11.slots.size ≤ ((0 : Int32)).toNatClampNeg) := inb_of Sz11 ⟨by decide, by decide⟩
    obtain ⟨T11, h11, X11, e11, W11, st11⟩ := stC X7 hx hZ e7 Ar11 (j := (0 : Int32)) hin11 (g := (mkF m 16 #[iv p1, iv p2, iv p3, iv p4, iv p5] [(.int p1), (.int (0 : Int32)), (.ref b7), (.ref b7), (.ref b3), (.ref b3)])) rfl rfl (B d18_16)
    rw [o1.nc] at W11
    have pre12 : Go p e bl T11 (mkF m 17 #[iv p1, iv p2, iv p3, iv p4, iv p5] [(.ref b7), (.ref b3), (.ref b3)]) s1 EF := fun t k => pre10 t (st11 t k)
    have O13 : Old Z n0 h11 := O9.wr W11 g_b7
    have Z13 : n0 ≤ h11.size := Nat.le_trans Z9 (Keep.of_wr W11).1
    have K13 : Keep h0 h11 [] := K9.wr W11 (Or.inr sz_b7)
    have V11 : Arv Z h11 b7 k7 .char (1 : Int32) [(.int p1)] (.int (0 : Int32)) := Arv.set Ar11 q11 Sz11 M11 H11 G11 (own_fitc o1.nc) W11 0 rfl (Nat.le_of_ble_eq_true rfl)
    have N11 := Fr.snoc X11 N0 g_b7
    obtain ⟨_, _, ⟨T14, L14, k14, n14⟩, -, X14, ⟨Lc14, hQ14, l14, y14, z14⟩, st14⟩ := X11.specialBack hx (y := mN14) rfl hown (mvT hZ (hw _ (mW 12 rfl))) (mvT hZ (hw _ (mW 13 rfl))) (mvT hZ (hw _ (mW 14 rfl))) (by decide) (backOf (W := 1) (rmKj1 l Z a0 hw [] b3 b7 cz fv k7 p1 h11 n0 Z13 O13 J0 ((A3.ext Et7).wr W11) g_b3 (Fld.other W11 (F_value_b3.ext Et7) (Or.inl ne_b3_b7)) (Fld.other W11 (F_coder_b3.ext Et7) (Or.inl ne_b3_b7)) (Fld.other W11 (F_hash_b3.ext Et7) (Or.inl ne_b3_b7)) (Fld.other W11 (F_hashIsZero_b3.ext Et7) (Or.inl ne_b3_b7)) V11 (List.forall_mem_cons.mpr ⟨o1.le, (fun _ q => nomatch q)⟩)) hZ (hw _ (mW 14 rfl)) (hw _ (mW 10 rfl)) (by decide) (by decide)) (g := (mkF m 17 #[iv p1, iv p2, iv p3, iv p4, iv p5] [(.ref b7), (.ref b3), (.ref b3)])) rfl (hM rfl) (Steps.refl _) (a := b3) (argsL := [(.ref b7)]) (rest := [(.ref b3)]) (lenOf pd10 rfl) rfl (Nat.le_of_eq rfl) (B d18_17) (fun _ _ => ⟨rfl, e11, wl rfl, wl rfl⟩)
    dsimp only [Pt.U, Pt.locs, Pt.cells, Pt.slots] at X14 l14 y14 z14 st14 hQ14
    subst l14 y14 z14
    obtain ⟨rfl, N14q, K14, bv14, kb14, hsz14, SF14⟩ := hQ14
    have N14 := Fr.app N11 N14q
    have pre15 : Go p e bl T14 (mkF m 20 #[iv p1, iv p2, iv p3, iv p4, iv p5] [(.ref b3)]) s1 EF := fun t k => pre12 t (st14.trans k)
    have O16 : Old Z n0 T14.heap := O13.keep K14 (allS g_b3 all0)
    have Z16 : n0 ≤ T14.heap.size := Nat.le_trans Z13 K14.1
    have K16 : Keep h0 T14.heap [] := K13.trans K14 (allS (Or.inr sz_b3) all0)
    exact fin1 X14 (v := some (.ref b3)) hrt hlk (wl rfl) (wl rfl) (by exact ⟨_, _, _, _, _, rfl, N14, K16, sz_b3, Nat.le_trans K13.1 hsz14, SF14, (by rfl), (Nat.le_of_ble_eq_true rfl), (Nat.le_of_ble_eq_true rfl), (List.forall_mem_cons.mpr ⟨o1.byte, (fun _ q => nomatch q)⟩)⟩) (fun fs hr => hEF ▸ pre15 _ (retOut X14 hx Bd.returns rfl (Or.inr (Or.inr (Or.inr (Or.inr ⟨rfl, rfl, rfl⟩)))) (B d18_20) hr))
  have pre17 : Go p e bl s1 (mkF m 21 #[iv p1, iv p2, iv p3, iv p4, iv p5] []) s1 EF := fun t k => pre1 t (XS.icmpYes X0.here hx rfl (pc0 := 3) (pc' := 21) rfl (B d18_3) rfl (feq hc3).2 (by decide) (by decide) k)
  have pre18 : Go p e bl s1 (mkF m 24 #[iv p1, iv p2, iv p3, iv p4, iv p5] [(.int (2 : Int32)), (.int p5)]) s1 EF := fun t k => pre17 t (by
   refine XS.iload X0.here hx rfl (B d18_21) rfl ?_
   exact XS.iconst X0.here hx rfl (B d18_23) k)
  by_cases hc24 : p5 = (2 : Int32)
  · have pre19 : Go p e bl s1 (mkF m 27 #[iv p1, iv p2, iv p3, iv p4, iv p5] []) s1 EF := fun t k => pre18 t (XS.icmpNo X0.here hx rfl (B d18_24) rfl (teq hc24).2 k)
    obtain ⟨T20, h20, X20, e20, Et20, A20, D20, U20, st20⟩ := newO X0 hx hZ hown (hw _ (mW 8 rfl)) (hw _ (mW 9 rfl)) (hw _ (mW 10 rfl)) e0 (g := (mkF m 27 #[iv p1, iv p2, iv p3, iv p4, iv p5] [])) rfl (B d18_27) (by decide) (by decide)
    obtain ⟨b20, g20⟩ : ∃ z, z = h0.size := ⟨_, rfl⟩
    rw [← g20] at A20 st20 D20
    have g_b20 : n0 ≤ b20 := Nat.le_trans Z0 (Nat.le_of_eq g20.symm)
    have sz_b20 : h0.size ≤ b20 := Nat.le_trans (Keep.refl h0 []).1 (Nat.le_of_eq g20.symm)
    have pre21 : Go p e bl T20 (mkF m 30 #[iv p1, iv p2, iv p3, iv p4, iv p5] [(.ref b20)]) s1 EF := fun t k => pre19 t (st20 t k)
    have O22 : Old Z n0 h20 := O0.ext Et20
    have Z22 : n0 ≤ h20.size := Nat.le_trans Z0 Et20.1
    have K22 : Keep h0 h20 [] := (Keep.refl h0 []).ext Et20
    have F_coder_b20 : Fld Z h20 b20 "java/lang/String" "coder" "B" (.int (0 : Int32)) := D20 (Or.inr (hw _ (mW 35 rfl))) (ty := .byte) (by decide)
    have F_value_b20 : Fld Z h20 b20 "java/lang/String" "value" "[B" .null := D20 (Or.inr (hw _ (mW 37 rfl))) (ty := (.array .byte)) (by decide)
    have F_hash_b20 : Fld Z h20 b20 "java/lang/String" "hash" "I" (.int (0 : Int32)) := D20 (Or.inl (hw _ (mW 129 rfl))) (ty := .int) (by decide)
    have F_hashIsZero_b20 : Fld Z h20 b20 "java/lang/String" "hashIsZero" "Z" (.int (0 : Int32)) := D20 (Or.inl (hw _ (mW 131 rfl))) (ty := .boolean) (by decide)
    have pre23 : Go p e bl T20 (mkF m 32 #[iv p1, iv p2, iv p3, iv p4, iv p5] [(.int (2 : Int32)), (.ref b20), (.ref b20)]) s1 EF := fun t k => pre21 t (by
     refine XS.dup X20.here hx rfl (B d18_30) rfl rfl ?_
     exact XS.iconst X20.here hx rfl (B d18_31) k)
    obtain ⟨T24, h24, k24, X24, e24, Et24, A24, st24⟩ := newP X20 hx hZ (hw _ (mW 11 rfl)) e20 (g := (mkF m 32 #[iv p1, iv p2, iv p3, iv p4, iv p5] [(.int (2 : Int32)), (.ref b20), (.ref b20)])) rfl (B d18_32) rfl (by decide) (cap := 2) (by decide) (by decide) (by decide) (by decide)
    obtain ⟨b24, g24⟩ : ∃ z, z = h20.size := ⟨_, rfl⟩
    rw [← g24] at A24 st24
    have g_b24 : n0 ≤ b24 := Nat.le_trans Z22 (Nat.le_of_eq g24.symm)
    have sz_b24 : h0.size ≤ b24 := Nat.le_trans K22.1 (Nat.le_of_eq g24.symm)
    have ne_b20_b24 : b20 ≠ b24 := Nat.ne_of_lt (Nat.lt_of_lt_of_le A20.lt (Nat.le_of_eq g24.symm))
    have pre25 : Go p e bl T24 (mkF m 34 #[iv p1, iv p2, iv p3, iv p4, iv p5] [(.ref b24), (.ref b20), (.ref b20)]) s1 EF := fun t k => pre23 t (st24 t k)
    have O26 : Old Z n0 h24 := O22.ext Et24
    have Z26 : n0 ≤ h24.size := Nat.le_trans Z22 Et24.1
    have K26 : Keep h0 h24 [] := K22.ext Et24
    have V24 : Arv Z h24 b24 k24 .char (2 : Int32) [(.int (0 : Int32)), (.int (0 : Int32))] (.int (0 : Int32)) := (Arv.new A24 (by decide)).pad (pad_rep [] (.int (0 : Int32)) 2)
    have pre27 : Go p e bl T24 (mkF m 37 #[iv p1, iv p2, iv p3, iv p4, iv p5] [(.int p1), (.int (0 : Int32)), (.ref b24), (.ref b24), (.ref b20), (.ref b20)]) s1 EF := fun t k => pre25 t (by
     refine XS.dup X24.here hx rfl (B d18_34) rfl rfl ?_
     refine XS.iconst X24.here hx rfl (B d18_35) ?_
     exact XS.iloadN X24.here hx rfl (B d18_36) rfl k)
    obtain ⟨cl28, Ar28, q28, Sz28, M28, H28, G28⟩ := id V24
    have hin28 : ¬ ((0 : Int32) < 0 ∨ cl28.slots.size ≤ ((0 : Int32)).toNatClampNeg) := inb_of Sz28 ⟨by decide, by decide⟩
    obtain ⟨T28, h28, X28, e28, W28, st28⟩ := stC X24 hx hZ e24 Ar28 (j := (0 : Int32)) hin28 (g := (mkF m 37 #[iv p1, iv p2, iv p3, iv p4, iv p5] [(.int p1), (.int (0 : Int32)), (.ref b24), (.ref b24), (.ref b20), (.ref b20)])) rfl rfl (B d18_37)
    rw [o1.nc] at W28
    have pre29 : Go p e bl T28 (mkF m 38 #[iv p1, iv p2, iv p3, iv p4, iv p5] [(.ref b24), (.ref b20), (.ref b20)]) s1 EF := fun t k => pre27 t (st28 t k)
    have O30 : Old Z n0 h28 := O26.wr W28 g_b24
    have Z30 : n0 ≤ h28.size := Nat.le_trans Z26 (Keep.of_wr W28).1
    have K30 : Keep h0 h28 [] := K26.wr W28 (Or.inr sz_b24)
    have V28 : Arv Z h28 b24 k24 .char (2 : Int32) [(.int p1), (.int (0 : Int32))] (.int (0 : Int32)) := Arv.set Ar28 q28 Sz28 M28 H28 G28 (own_fitc o1.nc) W28 0 rfl (Nat.le_of_ble_eq_true rfl)
    have N28 := Fr.snoc X28 N0 g_b24
    have pre31 : Go p e bl T28 (mkF m 41 #[iv p1, iv p2, iv p3, iv p4, iv p5] [(.int p2), (.int (1 : Int32)), (.ref b24), (.ref b24), (.ref b20), (.ref b20)]) s1 EF := fun t k => pre29 t (by
     refine XS.dup X28.here hx rfl (B d18_38) rfl rfl ?_
     refine XS.iconst X28.here hx rfl (B d18_39) ?_
     exact XS.iloadN X28.here hx rfl (B d18_40) rfl k)
    obtain ⟨cl32, Ar32, q32, Sz32, M32, H32, G32⟩ := id V28
    have hin32 : ¬ ((1 : Int32) < 0 ∨ cl32.slots.size ≤ ((1 : Int32)).toNatClampNeg) := inb_of Sz32 ⟨by decide, by decide⟩
    obtain ⟨T32, h32, X32, e32, W32, st32⟩ := stC X28 hx hZ e28 Ar32 (j := (1 : Int32)) hin32 (g := (mkF m 41 #[iv p1, iv p2, iv p3, iv p4, iv p5] [(.int p2), (.int (1 : Int32)), (.ref b24), (.ref b24), (.ref b20), (.ref b20)])) rfl rfl (B d18_41)
    rw [o2.nc] at W32
    have pre33 : Go p e bl T32 (mkF m 42 #[iv p1, iv p2, iv p3, iv p4, iv p5] [(.ref b24), (.ref b20), (.ref b20)]) s1 EF := fun t k => pre31 t (st32 t k)
    have O34 : Old Z n0 h32 := O30.wr W32 g_b24
    have Z34 : n0 ≤ h32.size := Nat.le_trans Z30 (Keep.of_wr W32).1
    have K34 : Keep h0 h32 [] := K30.wr W32 (Or.inr sz_b24)
    have V32 : Arv Z h32 b24 k24 .char (2 : Int32) [(.int p1), (.int p2)] (.int (0 : Int32)) := Arv.set Ar32 q32 Sz32 M32 H32 G32 (own_fitc o2.nc) W32 1 rfl (Nat.le_of_ble_eq_true rfl)
    have N32 := Fr.snoc X32 N28 g_b24
    obtain ⟨_, _, ⟨T35, L35, k35, n35⟩, -, X35, ⟨Lc35, hQ35, l35, y35, z35⟩, st35⟩ := X32.specialBack hx (y := mN14) rfl hown (mvT hZ (hw _ (mW 12 rfl))) (mvT hZ (hw _ (mW 13 rfl))) (mvT hZ (hw _ (mW 14 rfl))) (by decide) (backOf (W := 1) (rmKj2 l Z a0 hw [] b20 b24 cz fv k24 p1 p2 h32 n0 Z34 O34 J0 (((A20.ext Et24).wr W28).wr W32) g_b20 (Fld.other W32 (Fld.other W28 (F_value_b20.ext Et24) (Or.inl ne_b20_b24)) (Or.inl ne_b20_b24)) (Fld.other W32 (Fld.other W28 (F_coder_b20.ext Et24) (Or.inl ne_b20_b24)) (Or.inl ne_b20_b24)) (Fld.other W32 (Fld.other W28 (F_hash_b20.ext Et24) (Or.inl ne_b20_b24)) (Or.inl ne_b20_b24)) (Fld.other W32 (Fld.other W28 (F_hashIsZero_b20.ext Et24) (Or.inl ne_b20_b24)) (Or.inl ne_b20_b24)) V32 (List.forall_mem_cons.mpr ⟨o1.le, (List.forall_mem_cons.mpr ⟨o2.le, (fun _ q => nomatch q)⟩)⟩)) hZ (hw _ (mW 14 rfl)) (hw _ (mW 10 rfl)) (by decide) (by decide)) (g := (mkF m 42 #[iv p1, iv p2, iv p3, iv p4, iv p5] [(.ref b24), (.ref b20), (.ref b20)])) rfl (hM rfl) (Steps.refl _) (a := b20) (argsL := [(.ref b24)]) (rest := [(.ref b20)]) (lenOf pd10 rfl) rfl (Nat.le_of_eq rfl) (B d18_42) (fun _ _ => ⟨rfl, e32, wl rfl, wl rfl⟩)
    dsimp only [Pt.U, Pt.locs, Pt.cells, Pt.slots] at X35 l35 y35 z35 st35 hQ35
    subst l35 y35 z35
    obtain ⟨rfl, N35q, K35, bv35, kb35, hsz35, SF35⟩ := hQ35
    have N35 := Fr.app N32 N35q
    have pre36 : Go p e bl T35 (mkF m 45 #[iv p1, iv p2, iv p3, iv p4, iv p5] [(.ref b20)]) s1 EF := fun t k => pre33 t (st35.trans k)
    have O37 : Old Z n0 T35.heap := O34.keep K35 (allS g_b20 all0)
    have Z37 : n0 ≤ T35.heap.size := Nat.le_trans Z34 K35.1
    have K37 : Keep h0 T35.heap [] := K34.trans K35 (allS (Or.inr sz_b20) all0)
    exact fin1 X35 (v := some (.ref b20)) hrt hlk (wl rfl) (wl rfl) (by exact ⟨_, _, _, _, _, rfl, N35, K37, sz_b20, Nat.le_trans K34.1 hsz35, SF35, (by rfl), (Nat.le_of_ble_eq_true rfl), (Nat.le_of_ble_eq_true rfl), (List.forall_mem_cons.mpr ⟨o1.byte, (List.forall_mem_cons.mpr ⟨o2.byte, (fun _ q => nomatch q)⟩)⟩)⟩) (fun fs hr => hEF ▸ pre36 _ (retOut X35 hx Bd.returns rfl (Or.inr (Or.inr (Or.inr (Or.inr ⟨rfl, rfl, rfl⟩)))) (B d18_45) hr))
  have pre38 : Go p e bl s1 (mkF m 46 #[iv p1, iv p2, iv p3, iv p4, iv p5] []) s1 EF := fun t k => pre18 t (XS.icmpYes X0.here hx rfl (pc0 := 24) (pc' := 46) rfl (B d18_24) rfl (feq hc24).2 (by decide) (by decide) k)
  have pre39 : Go p e bl s1 (mkF m 49 #[iv p1, iv p2, iv p3, iv p4, iv p5] [(.int (3 : Int32)), (.int p5)]) s1 EF := fun t k => pre38 t (by
   refine XS.iload X0.here hx rfl (B d18_46) rfl ?_
   exact XS.iconst X0.here hx rfl (B d18_48) k)
  by_cases hc49 : p5 = (3 : Int32)
  · have pre40 : Go p e bl s1 (mkF m 52 #[iv p1, iv p2, iv p3, iv p4, iv p5] []) s1 EF := fun t k => pre39 t (XS.icmpNo X0.here hx rfl (B d18_49) rfl (teq hc49).2 k)
    obtain ⟨T41, h41, X41, e41, Et41, A41, D41, U41, st41⟩ := newO X0 hx hZ hown (hw _ (mW 8 rfl)) (hw _ (mW 9 rfl)) (hw _ (mW 10 rfl)) e0 (g := (mkF m 52 #[iv p1, iv p2, iv p3, iv p4, iv p5] [])) rfl (B d18_52) (by decide) (by decide)
    obtain ⟨b41, g41⟩ : ∃ z, z = h0.size := ⟨_, rfl⟩
    rw [← g41] at A41 st41 D41
    have g_b41 : n0 ≤ b41 := Nat.le_trans Z0 (Nat.le_of_eq g41.symm)
    have sz_b41 : h0.size ≤ b41 := Nat.le_trans (Keep.refl h0 []).1 (Nat.le_of_eq g41.symm)
    have pre42 : Go p e bl T41 (mkF m 55 #[iv p1, iv p2, iv p3, iv p4, iv p5] [(.ref b41)]) s1 EF := fun t k => pre40 t (st41 t k)
    have O43 : Old Z n0 h41 := O0.ext Et41
    have Z43 : n0 ≤ h41.size := Nat.le_trans Z0 Et41.1
    have K43 : Keep h0 h41 [] := (Keep.refl h0 []).ext Et41
    have F_coder_b41 : Fld Z h41 b41 "java/lang/String" "coder" "B" (.int (0 : Int32)) := D41 (Or.inr (hw _ (mW 35 rfl))) (ty := .byte) (by decide)
    have F_value_b41 : Fld Z h41 b41 "java/lang/String" "value" "[B" .null := D41 (Or.inr (hw _ (mW 37 rfl))) (ty := (.array .byte)) (by decide)
    have F_hash_b41 : Fld Z h41 b41 "java/lang/String" "hash" "I" (.int (0 : Int32)) := D41 (Or.inl (hw _ (mW 129 rfl))) (ty := .int) (by decide)
    have F_hashIsZero_b41 : Fld Z h41 b41 "java/lang/String" "hashIsZero" "Z" (.int (0 : Int32)) := D41 (Or.inl (hw _ (mW 131 rfl))) (ty := .boolean) (by decide)
    have pre44 : Go p e bl T41 (mkF m 57 #[iv p1, iv p2, iv p3, iv p4, iv p5] [(.int (3 : Int32)), (.ref b41), (.ref b41)]) s1 EF := fun t k => pre42 t (by
     refine XS.dup X41.here hx rfl (B d18_55) rfl rfl ?_
     exact XS.iconst X41.here hx rfl (B d18_56) k)
    obtain ⟨T45, h45, k45, X45, e45, Et45, A45, st45⟩ := newP X41 hx hZ (hw _ (mW 11 rfl)) e41 (g := (mkF m 57 #[iv p1, iv p2, iv p3, iv p4, iv p5] [(.int (3 : Int32)), (.ref b41), (.ref b41)])) rfl (B d18_57) rfl (by decide) (cap := 3) (by decide) (by decide) (by decide) (by decide)
    obtain ⟨b45, g45⟩ : ∃ z, z = h41.size := ⟨_, rfl⟩
    rw [← g45] at A45 st45
    have g_b45 : n0 ≤ b45 := Nat.le_trans Z43 (Nat.le_of_eq g45.symm)
    have sz_b45 : h0.size ≤ b45 := Nat.le_trans K43.1 (Nat.le_of_eq g45.symm)
    have ne_b41_b45 : b41 ≠ b45 := Nat.ne_of_lt (Nat.lt_of_lt_of_le A41.lt (Nat.le_of_eq g45.symm))
    have pre46 : Go p e bl T45 (mkF m 59 #[iv p1, iv p2, iv p3, iv p4, iv p5] [(.ref b45), (.ref b41), (.ref b41)]) s1 EF := fun t k => pre44 t (st45 t k)
    have O47 : Old Z n0 h45 := O43.ext Et45
    have Z47 : n0 ≤ h45.size := Nat.le_trans Z43 Et45.1
    have K47 : Keep h0 h45 [] := K43.ext Et45
    have V45 : Arv Z h45 b45 k45 .char (3 : Int32) [(.int (0 : Int32)), (.int (0 : Int32)), (.int (0 : Int32))] (.int (0 : Int32)) := (Arv.new A45 (by decide)).pad (pad_rep [] (.int (0 : Int32)) 3)
    have pre48 : Go p e bl T45 (mkF m 62 #[iv p1, iv p2, iv p3, iv p4, iv p5] [(.int p1), (.int (0 : Int32)), (.ref b45), (.ref b45), (.ref b41), (.ref b41)]) s1 EF := fun t k => pre46 t (by
     refine XS.dup X45.here hx rfl (B d18_59) rfl rfl ?_
     refine XS.iconst X45.here hx rfl (B d18_60) ?_
     exact XS.iloadN X45.here hx rfl (B d18_61) rfl k)
    obtain ⟨cl49, Ar49, q49, Sz49, M49, H49, G49⟩ := id V45
    have hin49 : ¬ ((0 : Int32) < 0 ∨ cl49.slots.size ≤ ((0 : Int32)).toNatClampNeg) := inb_of Sz49 ⟨by decide, by decide⟩
    obtain ⟨T49, h49, X49, e49, W49, st49⟩ := stC X45 hx hZ e45 Ar49 (j := (0 : Int32)) hin49 (g := (mkF m 62 #[iv p1, iv p2, iv p3, iv p4, iv p5] [(.int p1), (.int (0 : Int32)), (.ref b45), (.ref b45), (.ref b41), (.ref b41)])) rfl rfl (B d18_62)
    rw [o1.nc] at W49
    have pre50 : Go p e bl T49 (mkF m 63 #[iv p1, iv p2, iv p3, iv p4, iv p5] [(.ref b45), (.ref b41), (.ref b41)]) s1 EF := fun t k => pre48 t (st49 t k)
    have O51 : Old Z n0 h49 := O47.wr W49 g_b45
    have Z51 : n0 ≤ h49.size := Nat.le_trans Z47 (Keep.of_wr W49).1
    have K51 : Keep h0 h49 [] := K47.wr W49 (Or.inr sz_b45)
    have V49 : Arv Z h49 b45 k45 .char (3 : Int32) [(.int p1), (.int (0 : Int32)), (.int (0 : Int32))] (.int (0 : Int32)) := Arv.set Ar49 q49 Sz49 M49 H49 G49 (own_fitc o1.nc) W49 0 rfl (Nat.le_of_ble_eq_true rfl)
    have N49 := Fr.snoc X49 N0 g_b45
    have pre52 : Go p e bl T49 (mkF m 66 #[iv p1, iv p2, iv p3, iv p4, iv p5] [(.int p2), (.int (1 : Int32)), (.ref b45), (.ref b45), (.ref b41), (.ref b41)]) s1 EF := fun t k => pre50 t (by
     refine XS.dup X49.here hx rfl (B d18_63) rfl rfl ?_
     refine XS.iconst X49.here hx rfl (B d18_64) ?_
     exact XS.iloadN X49.here hx rfl (B d18_65) rfl k)
    obtain ⟨cl53, Ar53, q53, Sz53, M53, H53, G53⟩ := id V49
    have hin53 : ¬ ((1 : Int32) < 0 ∨ cl53.slots.size ≤ ((1 : Int32)).toNatClampNeg) := inb_of Sz53 ⟨by decide, by decide⟩
    obtain ⟨T53, h53, X53, e53, W53, st53⟩ := stC X49 hx hZ e49 Ar53 (j := (1 : Int32)) hin53 (g := (mkF m 66 #[iv p1, iv p2, iv p3, iv p4, iv p5] [(.int p2), (.int (1 : Int32)), (.ref b45), (.ref b45), (.ref b41), (.ref b41)])) rfl rfl (B d18_66)
    rw [o2.nc] at W53
    have pre54 : Go p e bl T53 (mkF m 67 #[iv p1, iv p2, iv p3, iv p4, iv p5] [(.ref b45), (.ref b41), (.ref b41)]) s1 EF := fun t k => pre52 t (st53 t k)
    have O55 : Old Z n0 h53 := O51.wr W53 g_b45
    have Z55 : n0 ≤ h53.size := Nat.le_trans Z51 (Keep.of_wr W53).1
    have K55 : Keep h0 h53 [] := K51.wr W53 (Or.inr sz_b45)
    have V53 : Arv Z h53 b45 k45 .char (3 : Int32) [(.int p1), (.int p2), (.int (0 : Int32))] (.int (0 : Int32)) := Arv.set Ar53 q53 Sz53 M53 H53 G53 (own_fitc o2.nc) W53 1 rfl (Nat.le_of_ble_eq_true rfl)
    have N53 := Fr.snoc X53 N49 g_b45
    have pre56 : Go p e bl T53 (mkF m 70 #[iv p1, iv p2, iv p3, iv p4, iv p5] [(.int p3), (.int (2 : Int32)), (.ref b45), (.ref b45), (.ref b41), (.ref b41)]) s1 EF := fun t k => pre54 t (by
     refine XS.dup X53.here hx rfl (B d18_67) rfl rfl ?_
     refine XS.iconst X53.here hx rfl (B d18_68) ?_
     exact XS.iloadN X53.here hx rfl (B d18_69) rfl k)
    obtain ⟨cl57, Ar57, q57, Sz57, M57, H57, G57⟩ := id V53
    have hin57 : ¬ ((2 : Int32) < 0 ∨ cl57.slots.size ≤ ((2 : Int32)).toNatClampNeg) := inb_of Sz57 ⟨by decide, by decide⟩
    obtain ⟨T57, h57, X57, e57, W57, st57⟩ := stC X53 hx hZ e53 Ar57 (j := (2 : Int32)) hin57 (g := (mkF m 70 #[iv p1, iv p2, iv p3, iv p4, iv p5] [(.int p3), (.int (2 : Int32)), (.ref b45), (.ref b45), (.ref b41), (.ref b41)])) rfl rfl (B d18_70)
    rw [o3.nc] at W57
    have pre58 : Go p e bl T57 (mkF m 71 #[iv p1, iv p2, iv p3, iv p4, iv p5] [(.ref b45), (.ref b41), (.ref b41)]) s1 EF := fun t k => pre56 t (st57 t k)
    have O59 : Old Z n0 h57 := O55.wr W57 g_b45
    have Z59 : n0 ≤ h57.size := Nat.le_trans Z55 (Keep.of_wr W57).1
    have K59 : Keep h0 h57 [] := K55.wr W57 (Or.inr sz_b45)
    have V57 : Arv Z h57 b45 k45 .char (3 : Int32) [(.int p1), (.int p2), (.int p3)] (.int (0 : Int32)) := Arv.set Ar57 q57 Sz57 M57 H57 G57 (own_fitc o3.nc) W57 2 rfl (Nat.le_of_ble_eq_true rfl)
    have N57 := Fr.snoc X57 N53 g_b45
    obtain ⟨_, _, ⟨T60, L60, k60, n60⟩, -, X60, ⟨Lc60, hQ60, l60, y60, z60⟩, st60⟩ := X57.specialBack hx (y := mN14) rfl hown (mvT hZ (hw _ (mW 12 rfl))) (mvT hZ (hw _ (mW 13 rfl))) (mvT hZ (hw _ (mW 14 rfl))) (by decide) (backOf (W := 1) (rmKj3 l Z a0 hw [] b41 b45 cz fv k45 p1 p2 p3 h57 n0 Z59 O59 J0 ((((A41.ext Et45).wr W49).wr W53).wr W57) g_b41 (Fld.other W57 (Fld.other W53 (Fld.other W49 (F_value_b41.ext Et45) (Or.inl ne_b41_b45)) (Or.inl ne_b41_b45)) (Or.inl ne_b41_b45)) (Fld.other W57 (Fld.other W53 (Fld.other W49 (F_coder_b41.ext Et45) (Or.inl ne_b41_b45)) (Or.inl ne_b41_b45)) (Or.inl ne_b41_b45)) (Fld.other W57 (Fld.other W53 (Fld.other W49 (F_hash_b41.ext Et45) (Or.inl ne_b41_b45)) (Or.inl ne_b41_b45)) (Or.inl ne_b41_b45)) (Fld.other W57 (Fld.other W53 (Fld.other W49 (F_hashIsZero_b41.ext Et45) (Or.inl ne_b41_b45)) (Or.inl ne_b41_b45)) (Or.inl ne_b41_b45)) V57 (List.forall_mem_cons.mpr ⟨o1.le, (List.forall_mem_cons.mpr ⟨o2.le, (List.forall_mem_cons.mpr ⟨o3.le, (fun _ q => nomatch q)⟩)⟩)⟩)) hZ (hw _ (mW 14 rfl)) (hw _ (mW 10 rfl)) (by decide) (by decide)) (g := (mkF m 71 #[iv p1, iv p2, iv p3, iv p4, iv p5] [(.ref b45), (.ref b41), (.ref b41)])) rfl (hM rfl) (Steps.refl _) (a := b41) (argsL := [(.ref b45)]) (rest := [(.ref b41)]) (lenOf pd10 rfl) rfl (Nat.le_of_eq rfl) (B d18_71) (fun _ _ => ⟨rfl, e57, wl rfl, wl rfl⟩)
    dsimp only [Pt.U, Pt.locs, Pt.cells, Pt.slots] at X60 l60 y60 z60 st60 hQ60
    subst l60 y60 z60
    obtain ⟨rfl, N60q, K60, bv60, kb60, hsz60, SF60⟩ := hQ60
    have N60 := Fr.app N57 N60q
    have pre61 : Go p e bl T60 (mkF m 74 #[iv p1, iv p2, iv p3, iv p4, iv p5] [(.ref b41)]) s1 EF := fun t k => pre58 t (st60.trans k)
    have O62 : Old Z n0 T60.heap := O59.keep K60 (allS g_b41 all0)
    have Z62 : n0 ≤ T60.heap.size := Nat.le_trans Z59 K60.1
    have K62 : Keep h0 T60.heap [] := K59.trans K60 (allS (Or.inr sz_b41) all0)
    exact fin1 X60 (v := some (.ref b41)) hrt hlk (wl rfl) (wl rfl) (by exact ⟨_, _, _, _, _, rfl, N60, K62, sz_b41, Nat.le_trans K59.1 hsz60, SF60, (by rfl), (Nat.le_of_ble_eq_true rfl), (Nat.le_of_ble_eq_true rfl), (List.forall_mem_cons.mpr ⟨o1.byte, (List.forall_mem_cons.mpr ⟨o2.byte, (List.forall_mem_cons.mpr ⟨o3.byte, (fun _ q => nomatch q)⟩)⟩)⟩)⟩) (fun fs hr => hEF ▸ pre61 _ (retOut X60 hx Bd.returns rfl (Or.inr (Or.inr (Or.inr (Or.inr ⟨rfl, rfl, rfl⟩)))) (B d18_74) hr))
  have pre63 : Go p e bl s1 (mkF m 75 #[iv p1, iv p2, iv p3, iv p4, iv p5] []) s1 EF := fun t k => pre39 t (XS.icmpYes X0.here hx rfl (pc0 := 49) (pc' := 75) rfl (B d18_49) rfl (feq hc49).2 (by decide) (by decide) k)
  obtain ⟨T64, h64, X64, e64, Et64, A64, D64, U64, st64⟩ := newO X0 hx hZ hown (hw _ (mW 8 rfl)) (hw _ (mW 9 rfl)) (hw _ (mW 10 rfl)) e0 (g := (mkF m 75 #[iv p1, iv p2, iv p3, iv p4, iv p5] [])) rfl (B d18_75) (by decide) (by decide)
  obtain ⟨b64, g64⟩ : ∃ z, z = h0.size := ⟨_, rfl⟩
  rw [← g64] at A64 st64 D64
  have g_b64 : n0 ≤ b64 := Nat.le_trans Z0 (Nat.le_of_eq g64.symm)
  have sz_b64 : h0.size ≤ b64 := Nat.le_trans (Keep.refl h0 []).1 (Nat.le_of_eq g64.symm)
  have pre65 : Go p e bl T64 (mkF m 78 #[iv p1, iv p2, iv p3, iv p4, iv p5] [(.ref b64)]) s1 EF := fun t k => pre63 t (st64 t k)
  have O66 : Old Z n0 h64 := O0.ext Et64
  have Z66 : n0 ≤ h64.size := Nat.le_trans Z0 Et64.1
  have K66 : Keep h0 h64 [] := (Keep.refl h0 []).ext Et64
  have F_coder_b64 : Fld Z h64 b64 "java/lang/String" "coder" "B" (.int (0 : Int32)) := D64 (Or.inr (hw _ (mW 35 rfl))) (ty := .byte) (by decide)
  have F_value_b64 : Fld Z h64 b64 "java/lang/String" "value" "[B" .null := D64 (Or.inr (hw _ (mW 37 rfl))) (ty := (.array .byte)) (by decide)
  have F_hash_b64 : Fld Z h64 b64 "java/lang/String" "hash" "I" (.int (0 : Int32)) := D64 (Or.inl (hw _ (mW 129 rfl))) (ty := .int) (by decide)
  have F_hashIsZero_b64 : Fld Z h64 b64 "java/lang/String" "hashIsZero" "Z" (.int (0 : Int32)) := D64 (Or.inl (hw _ (mW 131 rfl))) (ty := .boolean) (by decide)
  have pre67 : Go p e bl T64 (mkF m 80 #[iv p1, iv p2, iv p3, iv p4, iv p5] [(.int (4 : Int32)), (.ref b64), (.ref b64)]) s1 EF := fun t k => pre65 t (by
   refine XS.dup X64.here hx rfl (B d18_78) rfl rfl ?_
   exact XS.iconst X64.here hx rfl (B d18_79) k)
  obtain ⟨T68, h68, k68, X68, e68, Et68, A68, st68⟩ := newP X64 hx hZ (hw _ (mW 11 rfl)) e64 (g := (mkF m 80 #[iv p1, iv p2, iv p3, iv p4, iv p5] [(.int (4 : Int32)), (.ref b64), (.ref b64)])) rfl (B d18_80) rfl (by decide) (cap := 4) (by decide) (by decide) (by decide) (by decide)
  obtain ⟨b68, g68⟩ : ∃ z, z = h64.size := ⟨_, rfl⟩
  rw [← g68] at A68 st68
  have g_b68 : n0 ≤ b68 := Nat.le_trans Z66 (Nat.le_of_eq g68.symm)
  have sz_b68 : h0.size ≤ b68 := Nat.le_trans K66.1 (Nat.le_of_eq g68.symm)
  have ne_b64_b68 : b64 ≠ b68 := Nat.ne_of_lt (Nat.lt_of_lt_of_le A64.lt (Nat.le_of_eq g68.symm))
  have pre69 : Go p e bl T68 (mkF m 82 #[iv p1, iv p2, iv p3, iv p4, iv p5] [(.ref b68), (.ref b64), (.ref b64)]) s1 EF := fun t k => pre67 t (st68 t k)
  have O70 : Old Z n0 h68 := O66.ext Et68
  have Z70 : n0 ≤ h68.size := Nat.le_trans Z66 Et68.1
  have K70 : Keep h0 h68 [] := K66.ext Et68
  have V68 : Arv Z h68 b68 k68 .char (4 : Int32) [(.int (0 : Int32)), (.int (0 : Int32)), (.int (0 : Int32)), (.int (0 : Int32))] (.int (0 : Int32)) := (Arv.new A68 (by decide)).pad (pad_rep [] (.int (0 : Int32)) 4)
  have pre71 : Go p e bl T68 (mkF m 85 #[iv p1, iv p2, iv p3, iv p4, iv p5] [(.int p1), (.int (0 : Int32)), (.ref b68), (.ref b68), (.ref b64), (.ref b64)]) s1 EF := fun t k => pre69 t (by
   refine XS.dup X68.here hx rfl (B d18_82) rfl rfl ?_
   refine XS.iconst X68.here hx rfl (B d18_83) ?_
   exact XS.iloadN X68.here hx rfl (B d18_84) rfl k)
  obtain ⟨cl72, Ar72, q72, Sz72, M72, H72, G72⟩ := id V68
  have hin72 : ¬ ((0 : Int32) < 0 ∨ cl72.slots.size ≤ ((0 : Int32)).toNatClampNeg) := inb_of Sz72 ⟨by decide, by decide⟩
  obtain ⟨T72, h72, X72, e72, W72, st72⟩ := stC X68 hx hZ e68 Ar72 (j := (0 : Int32)) hin72 (g := (mkF m 85 #[iv p1, iv p2, iv p3, iv p4, iv p5] [(.int p1), (.int (0 : Int32)), (.ref b68), (.ref b68), (.ref b64), (.ref b64)])) rfl rfl (B d18_85)
  rw [o1.nc] at W72
  have pre73 : Go p e bl T72 (mkF m 86 #[iv p1, iv p2, iv p3, iv p4, iv p5] [(.ref b68), (.ref b64), (.ref b64)]) s1 EF := fun t k => pre71 t (st72 t k)
  have O74 : Old Z n0 h72 := O70.wr W72 g_b68
  have Z74 : n0 ≤ h72.size := Nat.le_trans Z70 (Keep.of_wr W72).1
  have K74 : Keep h0 h72 [] := K70.wr W72 (Or.inr sz_b68)
  have V72 : Arv Z h72 b68 k68 .char (4 : Int32) [(.int p1), (.int (0 : Int32)), (.int (0 : Int32)), (.int (0 : Int32))] (.int (0 : Int32)) := Arv.set Ar72 q72 Sz72 M72 H72 G72 (own_fitc o1.nc) W72 0 rfl (Nat.le_of_ble_eq_true rfl)
  have N72 := Fr.snoc X72 N0 g_b68
  have pre75 : Go p e bl T72 (mkF m 89 #[iv p1, iv p2, iv p3, iv p4, iv p5] [(.int p2), (.int (1 : Int32)), (.ref b68), (.ref b68), (.ref b64), (.ref b64)]) s1 EF := fun t k => pre73 t (by
   refine XS.dup X72.here hx rfl (B d18_86) rfl rfl ?_
   refine XS.iconst X72.here hx rfl (B d18_87) ?_
   exact XS.iloadN X72.here hx rfl (B d18_88) rfl k)
  obtain ⟨cl76, Ar76, q76, Sz76, M76, H76, G76⟩ := id V72
  have hin76 : ¬ ((1 : Int32) < 0 ∨ cl76.slots.size ≤ ((1 : Int32)).toNatClampNeg) := inb_of Sz76 ⟨by decide, by decide⟩
  obtain ⟨T76, h76, X76, e76, W76, st76⟩ := stC X72 hx hZ e72 Ar76 (j := (1 : Int32)) hin76 (g := (mkF m 89 #[iv p1, iv p2, iv p3, iv p4, iv p5] [(.int p2), (.int (1 : Int32)), (.ref b68), (.ref b68), (.ref b64), (.ref b64)])) rfl rfl (B d18_89)
  rw [o2.nc] at W76
  have pre77 : Go p e bl T76 (mkF m 90 #[iv p1, iv p2, iv p3, iv p4, iv p5] [(.ref b68), (.ref b64), (.ref b64)]) s1 EF := fun t k => pre75 t (st76 t k)
  have O78 : Old Z n0 h76 := O74.wr W76 g_b68
  have Z78 : n0 ≤ h76.size := Nat.le_trans Z74 (Keep.of_wr W76).1
  have K78 : Keep h0 h76 [] := K74.wr W76 (Or.inr sz_b68)
  have V76 : Arv Z h76 b68 k68 .char (4 : Int32) [(.int p1), (.int p2), (.int (0 : Int32)), (.int (0 : Int32))] (.int (0 : Int32)) := Arv.set Ar76 q76 Sz76 M76 H76 G76 (own_fitc o2.nc) W76 1 rfl (Nat.le_of_ble_eq_true rfl)
  have N76 := Fr.snoc X76 N72 g_b68
  have pre79 : Go p e bl T76 (mkF m 93 #[iv p1, iv p2, iv p3, iv p4, iv p5] [(.int p3), (.int (2 : Int32)), (.ref b68), (.ref b68), (.ref b64), (.ref b64)]) s1 EF := fun t k => pre77 t (by
   refine XS.dup X76.here hx rfl (B d18_90) rfl rfl ?_
   refine XS.iconst X76.here hx rfl (B d18_91) ?_
   exact XS.iloadN X76.here hx rfl (B d18_92) rfl k)
  obtain ⟨cl80, Ar80, q80, Sz80, M80, H80, G80⟩ := id V76
  have hin80 : ¬ ((2 : Int32) < 0 ∨ cl80.slots.size ≤ ((2 : Int32)).toNatClampNeg) := inb_of Sz80 ⟨by decide, by decide⟩
  obtain ⟨T80, h80, X80, e80, W80, st80⟩ := stC X76 hx hZ e76 Ar80 (j := (2 : Int32)) hin80 (g := (mkF m 93 #[iv p1, iv p2, iv p3, iv p4, iv p5] [(.int p3), (.int (2 : Int32)), (.ref b68), (.ref b68), (.ref b64), (.ref b64)])) rfl rfl (B d18_93)
  rw [o3.nc] at W80
  have pre81 : Go p e bl T80 (mkF m 94 #[iv p1, iv p2, iv p3, iv p4, iv p5] [(.ref b68), (.ref b64), (.ref b64)]) s1 EF := fun t k => pre79 t (st80 t k)
  have O82 : Old Z n0 h80 := O78.wr W80 g_b68
  have Z82 : n0 ≤ h80.size := Nat.le_trans Z78 (Keep.of_wr W80).1
  have K82 : Keep h0 h80 [] := K78.wr W80 (Or.inr sz_b68)
  have V80 : Arv Z h80 b68 k68 .char (4 : Int32) [(.int p1), (.int p2), (.int p3), (.int (0 : Int32))] (.int (0 : Int32)) := Arv.set Ar80 q80 Sz80 M80 H80 G80 (own_fitc o3.nc) W80 2 rfl (Nat.le_of_ble_eq_true rfl)
  have N80 := Fr.snoc X80 N76 g_b68
  have pre83 : Go p e bl T80 (mkF m 97 #[iv p1, iv p2, iv p3, iv p4, iv p5] [(.int p4), (.int (3 : Int32)), (.ref b68), (.ref b68), (.ref b64), (.ref b64)]) s1 EF := fun t k => pre81 t (by
   refine XS.dup X80.here hx rfl (B d18_94) rfl rfl ?_
   refine XS.iconst X80.here hx rfl (B d18_95) ?_
   exact XS.iloadN X80.here hx rfl (B d18_96) rfl k)
  obtain ⟨cl84, Ar84, q84, Sz84, M84, H84, G84⟩ := id V80
  have hin84 : ¬ ((3 : Int32) < 0 ∨ cl84.slots.size ≤ ((3 : Int32)).toNatClampNeg) := inb_of Sz84 ⟨by decide, by decide⟩
  obtain ⟨T84, h84, X84, e84, W84, st84⟩ := stC X80 hx hZ e80 Ar84 (j := (3 : Int32)) hin84 (g := (mkF m 97 #[iv p1, iv p2, iv p3, iv p4, iv p5] [(.int p4), (.int (3 : Int32)), (.ref b68), (.ref b68), (.ref b64), (.ref b64)])) rfl rfl (B d18_97)
  rw [o4.nc] at W84
  have pre85 : Go p e bl T84 (mkF m 98 #[iv p1, iv p2, iv p3, iv p4, iv p5] [(.ref b68), (.ref b64), (.ref b64)]) s1 EF := fun t k => pre83 t (st84 t k)
  have O86 : Old Z n0 h84 := O82.wr W84 g_b68
  have Z86 : n0 ≤ h84.size := Nat.le_trans Z82 (Keep.of_wr W84).1
  have K86 : Keep h0 h84 [] := K82.wr W84 (Or.inr sz_b68)
  have V84 : Arv Z h84 b68 k68 .char (4 : Int32) [(.int p1), (.int p2), (.int p3), (.int p4)] (.int (0 : Int32)) := Arv.set Ar84 q84 Sz84 M84 H84 G84 (own_fitc o4.nc) W84 3 rfl (Nat.le_of_ble_eq_true rfl)
  have N84 := Fr.snoc X84 N80 g_b68
  obtain ⟨_, _, ⟨T87, L87, k87, n87⟩, -, X87, ⟨Lc87, hQ87, l87, y87, z87⟩, st87⟩ := X84.specialBack hx (y := mN14) rfl hown (mvT hZ (hw _ (mW 12 rfl))) (mvT hZ (hw _ (mW 13 rfl))) (mvT hZ (hw _ (mW 14 rfl))) (by decide) (backOf (W := 1) (rmKj4 l Z a0 hw [] b64 b68 cz fv k68 p1 p2 p3 p4 h84 n0 Z86 O86 J0 (((((A64.ext Et68).wr W72).wr W76).wr W80).wr W84) g_b64 (Fld.other W84 (Fld.other W80 (Fld.other W76 (Fld.other W72 (F_value_b64.ext Et68) (Or.inl ne_b64_b68)) (Or.inl ne_b64_b68)) (Or.inl ne_b64_b68)) (Or.inl ne_b64_b68)) (Fld.other W84 (Fld.other W80 (Fld.other W76 (Fld.other W72 (F_coder_b64.ext Et68) (Or.inl ne_b64_b68)) (Or.inl ne_b64_b68)) (Or.inl ne_b64_b68)) (Or.inl ne_b64_b68)) (Fld.other W84 (Fld.other W80 (Fld.other W76 (Fld.other W72 (F_hash_b64.ext Et68) (Or.inl ne_b64_b68)) (Or.inl ne_b64_b68)) (Or.inl ne_b64_b68)) (Or.inl ne_b64_b68)) (Fld.other W84 (Fld.other W80 (Fld.other W76 (Fld.other W72 (F_hashIsZero_b64.ext Et68) (Or.inl ne_b64_b68)) (Or.inl ne_b64_b68)) (Or.inl ne_b64_b68)) (Or.inl ne_b64_b68)) V84 (List.forall_mem_cons.mpr ⟨o1.le, (List.forall_mem_cons.mpr ⟨o2.le, (List.forall_mem_cons.mpr ⟨o3.le, (List.forall_mem_cons.mpr ⟨o4.le, (fun _ q => nomatch q)⟩)⟩)⟩)⟩)) hZ (hw _ (mW 14 rfl)) (hw _ (mW 10 rfl)) (by decide) (by decide)) (g := (mkF m 98 #[iv p1, iv p2, iv p3, iv p4, iv p5] [(.ref b68), (.ref b64), (.ref b64)])) rfl (hM rfl) (Steps.refl _) (a := b64) (argsL := [(.ref b68)]) (rest := [(.ref b64)]) (lenOf pd10 rfl) rfl (Nat.le_of_eq rfl) (B d18_98) (fun _ _ => ⟨rfl, e84, wl rfl, wl rfl⟩)
  dsimp only [Pt.U, Pt.locs, Pt.cells, Pt.slots] at X87 l87 y87 z87 st87 hQ87
  subst l87 y87 z87
  obtain ⟨rfl, N87q, K87, bv87, kb87, hsz87, SF87⟩ := hQ87
  have N87 := Fr.app N84 N87q
  have pre88 : Go p e bl T87 (mkF m 101 #[iv p1, iv p2, iv p3, iv p4, iv p5] [(.ref b64)]) s1 EF := fun t k => pre85 t (st87.trans k)
  have O89 : Old Z n0 T87.heap := O86.keep K87 (allS g_b64 all0)
  have Z89 : n0 ≤ T87.heap.size := Nat.le_trans Z86 K87.1
  have K89 : Keep h0 T87.heap [] := K86.trans K87 (allS (Or.inr sz_b64) all0)
  exact fin1 X87 (v := some (.ref b64)) hrt hlk (wl rfl) (wl rfl) (by exact ⟨_, _, _, _, _, rfl, N87, K89, sz_b64, Nat.le_trans K86.1 hsz87, SF87, (by rfl), (Nat.le_of_ble_eq_true rfl), (Nat.le_of_ble_eq_true rfl), (List.forall_mem_cons.mpr ⟨o1.byte, (List.forall_mem_cons.mpr ⟨o2.byte, (List.forall_mem_cons.mpr ⟨o3.byte, (List.forall_mem_cons.mpr ⟨o4.byte, (fun _ q => nomatch q)⟩)⟩)⟩)⟩)⟩) (fun fs hr => hEF ▸ pre88 _ (retOut X87 hx Bd.returns rfl (Or.inr (Or.inr (Or.inr (Or.inr ⟨rfl, rfl, rfl⟩)))) (B d18_101) hr))
abbrev rKC : Room := { frames := 1, cells := 0, slots := 0, locals := 12 }
theorem d19_0 : decode prog_28_method_1_code 0 = .ok (.aload_n 0, 1) := by decide +kernel
theorem d19_1 : decode prog_28_method_1_code 1 = .ok (.invokespecial 1, 3) := by decide +kernel
theorem d19_4 : decode prog_28_method_1_code 4 = .ok (.aload_n 0, 1) := by decide +kernel
theorem d19_5 : decode prog_28_method_1_code 5 = .ok (.aload_n 1, 1) := by decide +kernel
theorem d19_6 : decode prog_28_method_1_code 6 = .ok (.putfield 7, 3) := by decide +kernel
theorem d19_9 : decode prog_28_method_1_code 9 = .ok (.return_, 1) := by decide +kernel
theorem efC (m : MethodId) (a1 : Addr) (a2 : Addr) : entryFrame m #[(.ref a1), (.ref a2)] 2 = mkF m 0 #[rv a1, rv a2] [] := by first | (simp [entryFrame, mkF, argsToLocals, Value.category]; done) | rfl
def QC (Z : State) (a1 : Addr) (a2 : Addr) (cz : Int32) (fv : Value) (h0 : Heap) (n0 : Nat) (v : Option Value) (h : Heap) (L : List Loc) : Prop := v = none ∧ Fr n0 L ∧ Keep h0 h [a1] ∧ Exa Z h a1 "com/example/minuterie/minuterie/TimerName" ∧ Fld Z h a1 "com/example/minuterie/minuterie/TimerName" "name" "Ljava/lang/String;" (.ref a2)
set_option maxRecDepth 65536 in
set_option maxHeartbeats 40000000 in
theorem rmC (l : Launch) (Z : State) (a0 : Array Value) (hw : HW a0 Z) (ws : List Jvm.Cond) (a1 : Addr) (a2 : Addr) (cz : Int32) (fv : Value) (h0 : Heap) (n0 : Nat) (Z0 : n0 ≤ h0.size) (O0 : Old Z n0 h0) (J0 : Jd Z cz fv) (E1 : Exa Z h0 a1 "com/example/minuterie/minuterie/TimerName") (g_a1 : n0 ≤ a1) (F1 : Fld Z h0 a1 "com/example/minuterie/minuterie/TimerName" "name" "Ljava/lang/String;" .null) :
    MF l Z mN19 prog_28_method_1_code 2 none ws rKC #[(.ref a1), (.ref a2)] h0 (QC Z a1 a2 cz fv h0 n0) := by
  refine MetFree.of_bodySF (plainFor_of_name pn5) hisR ?_
  intro p e s m args bl meth c s1 Bd hml0 hP hK
  obtain ⟨rfl, hZ, hh⟩ := hP
  have hx := Bd.exec
  have hby := Bd.bytes
  have B := @hb c _ hby
  have hM := fun {n : Nat} (h : n = 2) => h.trans hml0.symm
  have hown : s.vm.findClass "com/example/minuterie/minuterie/TimerName" = some m.cls := findClass_of_methodNamed Bd.named
  have hnm := (name_of_methodNamed Bd.named Bd.method).1
  have hlk : meth.locks = false := BodyLoose.notSynchronized Bd
  have X0 : Stand p l e rKC s m #[(.ref a1), (.ref a2)] bl meth c s1 [] 0 0 := Stand.of_body Bd
  have e0 : s1.heap = h0 := by rw [← hh, Bd.state]; rfl
  have N0 := Fr.nil n0
  obtain ⟨EF, hEF⟩ : ∃ f, f = entryFrame m #[(.ref a1), (.ref a2)] 2 := ⟨_, rfl⟩
  have pre0 : Go p e bl s1 (mkF m 0 #[rv a1, rv a2] []) s1 EF := fun t k => by rw [hEF]; exact castTop (efC m a1 a2) k
  have pre1 : Go p e bl s1 (mkF m 1 #[rv a1, rv a2] [(.ref a1)]) s1 EF := fun t k => pre0 t (by
   exact XS.aloadN X0.here hx rfl (B d19_0) rfl rfl k)
  obtain ⟨T2, X2, e2, st2⟩ := initO X0 hx hZ hown (hw _ (mW 94 rfl)) (hw _ (mW 20 rfl)) (hw _ (mW 21 rfl)) e0 (g := (mkF m 1 #[rv a1, rv a2] [(.ref a1)])) rfl (hM rfl) rfl (B d19_1) (by decide) (W := 0) (Nat.le_of_eq rfl) (by decide)
  have pre3 : Go p e bl T2 (mkF m 4 #[rv a1, rv a2] []) s1 EF := fun t k => pre1 t (st2 t k)
  have pre4 : Go p e bl T2 (mkF m 6 #[rv a1, rv a2] [(.ref a2), (.ref a1)]) s1 EF := fun t k => pre3 t (by
   refine XS.aloadN X2.here hx rfl (B d19_4) rfl rfl ?_
   exact XS.aloadN X2.here hx rfl (B d19_5) rfl rfl k)
  obtain ⟨T5, h5, X5, e5, W5, st5⟩ := putF X2 hx hZ hown (host := "") (Or.inl (hw _ (mW 95 rfl))) Via.refl e2 F1 E1 (Or.inr ⟨(hw _ (mW 96 rfl)), rfl, hnm⟩) (hw _ (mW 90 rfl)) (ty := (.object "java/lang/String")) (by decide) rfl rfl (g := (mkF m 6 #[rv a1, rv a2] [(.ref a2), (.ref a1)])) rfl rfl (B d19_6)
  have pre6 : Go p e bl T5 (mkF m 9 #[rv a1, rv a2] []) s1 EF := fun t k => pre4 t (st5 t k)
  have O7 : Old Z n0 h5 := O0.wr W5 g_a1
  have Z7 : n0 ≤ h5.size := Nat.le_trans Z0 (Keep.of_wr W5).1
  have K7 : Keep h0 h5 [a1] := (Keep.refl h0 [a1]).wr W5 (Or.inl (List.mem_of_getElem? (i := 0) rfl))
  have Fw5 := Fld.same W5 F1
  have N5 := Fr.snoc X5 N0 g_a1
  exact fin1 X5 (v := none) (fun _ => rfl) hlk (wl rfl) (wl rfl) (by rw [e5]; exact ⟨rfl, N5, K7, (E1.wr W5), Fw5⟩) (fun fs hr => hEF ▸ pre6 _ (X5.returnOut hx Bd.returns (B d19_9) hr))
abbrev rKO1 : Room := { frames := 4, cells := 3, slots := 45, locals := 53 }
theorem d20_0 : decode prog_28_method_2_code 0 = .ok (.aload_n 0, 1) := by decide +kernel
theorem d20_1 : decode prog_28_method_2_code 1 = .ok (.ldc 13, 2) := by decide +kernel
theorem d20_3 : decode prog_28_method_2_code 3 = .ok (.invokestatic 15, 3) := by decide +kernel
theorem d20_6 : decode prog_28_method_2_code 6 = .ok (.pop, 1) := by decide +kernel
theorem d20_7 : decode prog_28_method_2_code 7 = .ok (.aload_n 0, 1) := by decide +kernel
theorem d20_8 : decode prog_28_method_2_code 8 = .ok (.invokevirtual 21, 3) := by decide +kernel
theorem d20_11 : decode prog_28_method_2_code 11 = .ok (.ifCond .eq 13, 3) := by decide +kernel
theorem d20_24 : decode prog_28_method_2_code 24 = .ok (.aload_n 0, 1) := by decide +kernel
theorem d20_25 : decode prog_28_method_2_code 25 = .ok (.invokevirtual 34, 3) := by decide +kernel
theorem d20_28 : decode prog_28_method_2_code 28 = .ok (.bipush 100, 2) := by decide +kernel
theorem d20_30 : decode prog_28_method_2_code 30 = .ok (.if_icmp .le 27, 3) := by decide +kernel
theorem d20_57 : decode prog_28_method_2_code 57 = .ok (.iconst 0, 1) := by decide +kernel
theorem d20_58 : decode prog_28_method_2_code 58 = .ok (.istore_n 1, 1) := by decide +kernel
theorem d20_59 : decode prog_28_method_2_code 59 = .ok (.iload_n 1, 1) := by decide +kernel
theorem d20_60 : decode prog_28_method_2_code 60 = .ok (.aload_n 0, 1) := by decide +kernel
theorem d20_61 : decode prog_28_method_2_code 61 = .ok (.invokevirtual 34, 3) := by decide +kernel
theorem d20_64 : decode prog_28_method_2_code 64 = .ok (.if_icmp .ge 61, 3) := by decide +kernel
theorem d20_67 : decode prog_28_method_2_code 67 = .ok (.aload_n 0, 1) := by decide +kernel
theorem d20_68 : decode prog_28_method_2_code 68 = .ok (.iload_n 1, 1) := by decide +kernel
theorem d20_69 : decode prog_28_method_2_code 69 = .ok (.invokevirtual 46, 3) := by decide +kernel
theorem d20_72 : decode prog_28_method_2_code 72 = .ok (.invokestatic 50, 3) := by decide +kernel
theorem d20_75 : decode prog_28_method_2_code 75 = .ok (.ifCond .ne 44, 3) := by decide +kernel
theorem d20_119 : decode prog_28_method_2_code 119 = .ok (.iinc 1 1, 3) := by decide +kernel
theorem d20_122 : decode prog_28_method_2_code 122 = .ok (.goto (-63), 3) := by decide +kernel
theorem d20_125 : decode prog_28_method_2_code 125 = .ok (.new 8, 3) := by decide +kernel
theorem d20_128 : decode prog_28_method_2_code 128 = .ok (.dup, 1) := by decide +kernel
theorem d20_129 : decode prog_28_method_2_code 129 = .ok (.aload_n 0, 1) := by decide +kernel
theorem d20_130 : decode prog_28_method_2_code 130 = .ok (.invokespecial 70, 3) := by decide +kernel
theorem d20_133 : decode prog_28_method_2_code 133 = .ok (.areturn, 1) := by decide +kernel
theorem pd11 : parseMethodDescriptor "(Ljava/lang/Object;Ljava/lang/String;)Ljava/lang/Object;" = some ⟨[(.object "java/lang/Object"), (.object "java/lang/String")], some (.object "java/lang/Object")⟩ := by decide +kernel
theorem pd12 : parseMethodDescriptor "()I" = some ⟨[], some .int⟩ := by decide +kernel
theorem pd13 : parseMethodDescriptor "(I)C" = some ⟨[.int], some .char⟩ := by decide +kernel
theorem pd14 : parseMethodDescriptor "(C)Z" = some ⟨[.char], some .boolean⟩ := by decide +kernel
theorem pd15 : parseMethodDescriptor "(Ljava/lang/String;)V" = some ⟨[(.object "java/lang/String")], none⟩ := by decide +kernel
theorem efO1 (m : MethodId) (a1 : Addr) : entryFrame m #[(.ref a1)] 3 = mkF m 0 #[rv a1, .unset, .unset] [] := by first | (simp [entryFrame, mkF, argsToLocals, Value.category]; done) | rfl
def QO1 (Z : State) (a1 : Addr) (cz : Int32) (fv : Value) (b : Addr) (k : ClassId) (u0 : Int32) (hs : Int32) (hz : Int32) (h0 : Heap) (n0 : Nat) (v : Option Value) (h : Heap) (L : List Loc) : Prop := ∃ o, v = some (.ref o) ∧ Fr n0 L ∧ Keep h0 h [] ∧ h0.size ≤ o ∧ Exa Z h o "com/example/minuterie/minuterie/TimerName" ∧ Fld Z h o "com/example/minuterie/minuterie/TimerName" "name" "Ljava/lang/String;" (.ref a1)
set_option maxRecDepth 65536 in
set_option maxHeartbeats 40000000 in
theorem rmO1 (l : Launch) (Z : State) (a0 : Array Value) (hw : HW a0 Z) (ws : List Jvm.Cond) (a1 : Addr) (cz : Int32) (fv : Value) (b : Addr) (k : ClassId) (u0 : Int32) (hs : Int32) (hz : Int32) (h0 : Heap) (n0 : Nat) (Z0 : n0 ≤ h0.size) (O0 : Old Z n0 h0) (J0 : Jd Z cz fv) (SL : StL Z h0 a1 b k (1 : Int32) [u0] hs hz) (hok : ∀ u ∈ [u0], isaF (u &&& 255) = 1) :
    MetFree l mN20 (head1 (Jvm.Cond.code mN20 prog_28_method_2_code 3 (some (.object "com/example/minuterie/minuterie/TimerName")) :: ws) rKO1) (fun a U => a = #[(.ref a1)] ∧ Z.Warmed39 U.vm ∧ U.heap = h0) (fun _ _ _ _ _ => True) (fun _ U o U' => ∃ v L, o = .returned v ∧ QO1 Z a1 cz fv b k u0 hs hz h0 n0 v U'.heap L ∧ ReturnedEndW U o U' L rKO1.cells rKO1.slots) := by
  refine MetFree.of_bodySF (plainFor_of_name pn5) hisR ?_
  intro p e s m args bl meth c s1 Bd hml0 hP hK
  obtain ⟨rfl, hZ, hh⟩ := hP
  have hx := Bd.exec
  have hby := Bd.bytes
  have B := @hb c _ hby
  have hM := fun {n : Nat} (h : n = 3) => h.trans hml0.symm
  have hown : s.vm.findClass "com/example/minuterie/minuterie/TimerName" = some m.cls := findClass_of_methodNamed Bd.named
  have X0 : Stand p l e rKO1 (s.setVm s.vm) m #[(.ref a1)] bl meth c s1 [] 0 0 := Stand.of_body Bd
  have e0 : s1.heap = h0 := by rw [← hh, Bd.state]; rfl
  have N0 := Fr.nil n0
  obtain ⟨EF, hEF⟩ : ∃ f, f = entryFrame m #[(.ref a1)] 3 := ⟨_, rfl⟩
  have pre0 : Go p e bl s1 (mkF m 0 #[rv a1, .unset, .unset] []) s1 EF := fun t k => by rw [hEF]; exact castTop (efO1 m a1) k
  have hZ0 : Z.Warmed39 (s.setVm s.vm).vm := hZ
  have hown0 : (s.setVm s.vm).vm.findClass "com/example/minuterie/minuterie/TimerName" = some m.cls := hown
  have hS0 : s.Since s.vm s.heap.size := (State.WarmedH.refl s).since _
  have hk0 : s.heap.size ≤ h0.size := by rw [← hh]; exact Nat.le_refl _
  have pre1 : Go p e bl s1 (mkF m 1 #[rv a1, .unset, .unset] [(.ref a1)]) s1 EF := fun t k => pre0 t (by
   exact XS.aloadN X0.here hx rfl (B d20_0) rfl rfl k)
  obtain ⟨a2, T2, h2, k2, X2, e2, Et2, hS2, hk2, hZ2, hown2, st2⟩ := ldcS X0 hx hZ0 hown0 (hw _ (mW 42 rfl)) (own_wS hw) e0 hS0 hk0 (g := (mkF m 1 #[rv a1, .unset, .unset] [(.ref a1)])) rfl (B d20_1) (n := 40) (by decide) (by decide) (by decide) (by decide)
  have pre3 : Go p e bl T2 (mkF m 3 #[rv a1, .unset, .unset] [(.ref a2), (.ref a1)]) s1 EF := fun t k => pre1 t (st2 t k)
  have O4 : Old Z n0 h2 := O0.ext Et2
  have Z4 : n0 ≤ h2.size := Nat.le_trans Z0 Et2.1
  have K4 : Keep h0 h2 [] := (Keep.refl h0 []).ext Et2
  obtain ⟨_, _, ⟨T5, L5, k5, n5⟩, -, X5, ⟨Lc5, hQ5, l5, y5, z5⟩, st5⟩ := Jvm.LawKit.callS X2 hx (y := mN17) hown2 (mvT hZ2 (hw _ (mW 45 rfl))) (mvT hZ2 (hw _ (mW 46 rfl))) (mvT hZ2 (hw _ (mW 47 rfl))) (mvT hZ2 (hw _ (mW 48 rfl))) (by decide) (backOf (W := 0) (rmN l Z a0 hw [] a1 a2 h2 n0 Z4) hZ2 (hw _ (mW 48 rfl)) (hw _ (mW 47 rfl)) (by decide) (by decide)) (g := (mkF m 3 #[rv a1, .unset, .unset] [(.ref a2), (.ref a1)])) rfl (hM rfl) (argsL := [(.ref a1), (.ref a2)]) (rest := []) (lenOf pd11 rfl) rfl (Nat.le_of_eq rfl) (B d20_3) (fun _ _ => ⟨rfl, e2, wl rfl, wl rfl⟩)
  dsimp only [Pt.U, Pt.locs, Pt.cells, Pt.slots] at X5 l5 y5 z5 st5 hQ5
  subst l5 y5 z5
  obtain ⟨rfl, N5q, hq5⟩ := hQ5
  have N5 := Fr.app N0 N5q
  have pre6 : Go p e bl T5 (mkF m 6 #[rv a1, .unset, .unset] [(.ref a1)]) s1 EF := fun t k => pre3 t (st5 t k)
  have e5 : T5.heap = h2 := hq5
  have pre7 : Go p e bl T5 (mkF m 8 #[rv a1, .unset, .unset] [(.ref a1)]) s1 EF := fun t k => pre6 t (by
   refine XS.pop X5.here hx rfl (B d20_6) rfl rfl ?_
   exact XS.aloadN X5.here hx rfl (B d20_7) rfl rfl k)
  obtain ⟨cq8, kq8, q8a, q8b, q8c⟩ := isOf hZ2 e5 (SL.1.ext Et2)
  obtain ⟨_, _, ⟨T8, L8, k8, n8⟩, -, X8, ⟨Lc8, hQ8, l8, y8, z8⟩, st8⟩ := X5.virtualBack hx (y := mN7) (z := mN7) hown2 (mvT hZ2 (hw _ (mW 49 rfl))) (mvT hZ2 (hw _ (mW 50 rfl))) (notFace_of_selects (args := #[]) (mvT hZ2 (hw _ (mW 52 rfl)))) (mvT hZ2 (hw _ (mW 52 rfl))) (mvT hZ2 (hw _ (mW 51 rfl))) (by decide) (backOf (W := 0) (rmJem l Z a0 hw [] a1 cz fv b k (1 : Int32) [u0] hs hz h2 n0 Z4 O4 J0 (SL.ext Et2) (by decide)) hZ2 (hw _ (mW 53 rfl)) (hw _ (mW 10 rfl)) (by decide) (by decide)) q8a q8c (g := (mkF m 8 #[rv a1, .unset, .unset] [(.ref a1)])) rfl (hM rfl) (Steps.refl _) (argsL := []) (rest := []) (lenOf pd3 rfl) rfl (Nat.le_of_eq rfl) (B d20_8) (fun _ _ => ⟨rfl, e5, wl rfl, wl rfl⟩)
  dsimp only [Pt.U, Pt.locs, Pt.cells, Pt.slots] at X8 l8 y8 z8 st8 hQ8
  subst l8 y8 z8
  obtain ⟨rfl, N8q, hq8⟩ := hQ8
  have N8 := Fr.app N5 N8q
  have pre9 : Go p e bl T8 (mkF m 11 #[rv a1, .unset, .unset] [(.int (0 : Int32))]) s1 EF := fun t k => pre7 t (st8.trans k)
  have e8 : T8.heap = h2 := hq8
  have pre10 : Go p e bl T8 (mkF m 24 #[rv a1, .unset, .unset] []) s1 EF := fun t k => pre9 t (XS.ifYes X8.here hx rfl (pc0 := 11) (pc' := 24) rfl (B d20_11) rfl ((if0 _ _).trans (teq (by decide : (0 : Int32) = (0 : Int32))).1) (by decide) (by decide) k)
  have pre11 : Go p e bl T8 (mkF m 25 #[rv a1, .unset, .unset] [(.ref a1)]) s1 EF := fun t k => pre10 t (by
   exact XS.aloadN X8.here hx rfl (B d20_24) rfl rfl k)
  obtain ⟨cq12, kq12, q12a, q12b, q12c⟩ := isOf hZ2 e8 (SL.1.ext Et2)
  obtain ⟨_, _, ⟨T12, L12, k12, n12⟩, -, X12, ⟨Lc12, hQ12, l12, y12, z12⟩, st12⟩ := X8.virtualBack hx (y := mN1) (z := mN1) hown2 (mvT hZ2 (hw _ (mW 54 rfl))) (mvT hZ2 (hw _ (mW 55 rfl))) (notFace_of_selects (args := #[]) (mvT hZ2 (hw _ (mW 57 rfl)))) (mvT hZ2 (hw _ (mW 57 rfl))) (mvT hZ2 (hw _ (mW 56 rfl))) (by decide) (backOf (W := 0) (rmJle l Z a0 hw [] a1 cz fv (0 : Int32) b k (1 : Int32) (BV [u0]) (1 : Int32) h2 n0 Z4 O4 J0 (SL.ext Et2).1 (SL.ext Et2).2.1 (SL.ext Et2).2.2.1 (SL.ext Et2).2.2.2.1 rfl (own_shr0 rfl)) hZ2 (hw _ (mW 58 rfl)) (hw _ (mW 10 rfl)) (by decide) (by decide)) q12a q12c (g := (mkF m 25 #[rv a1, .unset, .unset] [(.ref a1)])) rfl (hM rfl) (Steps.refl _) (argsL := []) (rest := []) (lenOf pd12 rfl) rfl (Nat.le_of_eq rfl) (B d20_25) (fun _ _ => ⟨rfl, e8, wl rfl, wl rfl⟩)
  dsimp only [Pt.U, Pt.locs, Pt.cells, Pt.slots] at X12 l12 y12 z12 st12 hQ12
  subst l12 y12 z12
  obtain ⟨rfl, N12q, hq12⟩ := hQ12
  have N12 := Fr.app N8 N12q
  have pre13 : Go p e bl T12 (mkF m 28 #[rv a1, .unset, .unset] [(.int (1 : Int32))]) s1 EF := fun t k => pre11 t (st12.trans k)
  have e12 : T12.heap = h2 := hq12
  have pre14 : Go p e bl T12 (mkF m 30 #[rv a1, .unset, .unset] [(.int (100 : Int32)), (.int (1 : Int32))]) s1 EF := fun t k => pre13 t (by
   exact XS.bipush X12.here hx rfl (B d20_28) k)
  have pre15 : Go p e bl T12 (mkF m 57 #[rv a1, .unset, .unset] []) s1 EF := fun t k => pre14 t (XS.icmpYes X12.here hx rfl (pc0 := 30) (pc' := 57) rfl (B d20_30) rfl (flt (by decide : ¬ ((100 : Int32) < (1 : Int32)))).2.2.2 (by decide) (by decide) k)
  have pre16 : Go p e bl T12 (mkF m 61 #[rv a1, iv (0 : Int32), .unset] [(.ref a1), (.int (0 : Int32))]) s1 EF := fun t k => pre15 t (by
   refine XS.iconst X12.here hx rfl (B d20_57) ?_
   refine XS.istoreN X12.here hx rfl (B d20_58) rfl (l' := #[rv a1, iv (0 : Int32), .unset]) rfl ?_
   refine XS.iloadN X12.here hx rfl (B d20_59) rfl ?_
   exact XS.aloadN X12.here hx rfl (B d20_60) rfl rfl k)
  obtain ⟨cq17, kq17, q17a, q17b, q17c⟩ := isOf hZ2 e12 (SL.1.ext Et2)
  obtain ⟨_, _, ⟨T17, L17, k17, n17⟩, -, X17, ⟨Lc17, hQ17, l17, y17, z17⟩, st17⟩ := X12.virtualBack hx (y := mN1) (z := mN1) hown2 (mvT hZ2 (hw _ (mW 54 rfl))) (mvT hZ2 (hw _ (mW 55 rfl))) (notFace_of_selects (args := #[]) (mvT hZ2 (hw _ (mW 57 rfl)))) (mvT hZ2 (hw _ (mW 57 rfl))) (mvT hZ2 (hw _ (mW 56 rfl))) (by decide) (backOf (W := 1) (rmJle l Z a0 hw [] a1 cz fv (0 : Int32) b k (1 : Int32) (BV [u0]) (1 : Int32) h2 n0 Z4 O4 J0 (SL.ext Et2).1 (SL.ext Et2).2.1 (SL.ext Et2).2.2.1 (SL.ext Et2).2.2.2.1 rfl (own_shr0 rfl)) hZ2 (hw _ (mW 58 rfl)) (hw _ (mW 10 rfl)) (by decide) (by decide)) q17a q17c (g := (mkF m 61 #[rv a1, iv (0 : Int32), .unset] [(.ref a1), (.int (0 : Int32))])) rfl (hM rfl) (Steps.refl _) (argsL := []) (rest := [(.int (0 : Int32))]) (lenOf pd12 rfl) rfl (Nat.le_of_eq rfl) (B d20_61) (fun _ _ => ⟨rfl, e12, wl rfl, wl rfl⟩)
  dsimp only [Pt.U, Pt.locs, Pt.cells, Pt.slots] at X17 l17 y17 z17 st17 hQ17
  subst l17 y17 z17
  obtain ⟨rfl, N17q, hq17⟩ := hQ17
  have N17 := Fr.app N12 N17q
  have pre18 : Go p e bl T17 (mkF m 64 #[rv a1, iv (0 : Int32), .unset] [(.int (1 : Int32)), (.int (0 : Int32))]) s1 EF := fun t k => pre16 t (st17.trans k)
  have e17 : T17.heap = h2 := hq17
  have pre19 : Go p e bl T17 (mkF m 67 #[rv a1, iv (0 : Int32), .unset] []) s1 EF := fun t k => pre18 t (XS.icmpNo X17.here hx rfl (B d20_64) rfl (tlt (by decide : (0 : Int32) < (1 : Int32))).2.1 k)
  have pre20 : Go p e bl T17 (mkF m 69 #[rv a1, iv (0 : Int32), .unset] [(.int (0 : Int32)), (.ref a1)]) s1 EF := fun t k => pre19 t (by
   refine XS.aloadN X17.here hx rfl (B d20_67) rfl rfl ?_
   exact XS.iloadN X17.here hx rfl (B d20_68) rfl k)
  obtain ⟨cq21, kq21, q21a, q21b, q21c⟩ := isOf hZ2 e17 (SL.1.ext Et2)
  obtain ⟨_, _, ⟨T21, L21, k21, n21⟩, -, X21, ⟨Lc21, hQ21, l21, y21, z21⟩, st21⟩ := X17.virtualBack hx (y := mN6) (z := mN6) hown2 (mvT hZ2 (hw _ (mW 64 rfl))) (mvT hZ2 (hw _ (mW 65 rfl))) (notFace_of_selects (args := #[]) (mvT hZ2 (hw _ (mW 67 rfl)))) (mvT hZ2 (hw _ (mW 67 rfl))) (mvT hZ2 (hw _ (mW 66 rfl))) (by decide) (backOf (W := 0) (rmJcl l Z a0 hw [] a1 (0 : Int32) cz fv b k (1 : Int32) (BV [u0]) u0 (u0 &&& (255 : Int32)) h2 n0 Z4 O4 J0 (SL.ext Et2).1 (SL.ext Et2).2.1 (SL.ext Et2).2.2.1 (SL.ext Et2).2.2.2.1 (by decide) (by decide) rfl rfl (own_nm u0)) hZ2 (hw _ (mW 68 rfl)) (hw _ (mW 10 rfl)) (by decide) (by decide)) q21a q21c (g := (mkF m 69 #[rv a1, iv (0 : Int32), .unset] [(.int (0 : Int32)), (.ref a1)])) rfl (hM rfl) (Steps.refl _) (argsL := [(.int (0 : Int32))]) (rest := []) (lenOf pd13 rfl) rfl (Nat.le_of_eq rfl) (B d20_69) (fun _ _ => ⟨rfl, e17, wl rfl, wl rfl⟩)
  dsimp only [Pt.U, Pt.locs, Pt.cells, Pt.slots] at X21 l21 y21 z21 st21 hQ21
  subst l21 y21 z21
  obtain ⟨rfl, N21q, hq21⟩ := hQ21
  have N21 := Fr.app N17 N21q
  have pre22 : Go p e bl T21 (mkF m 72 #[rv a1, iv (0 : Int32), .unset] [(.int (u0 &&& (255 : Int32)))]) s1 EF := fun t k => pre20 t (st21.trans k)
  have e21 : T21.heap = h2 := hq21
  obtain ⟨_, _, ⟨T23, L23, k23, n23⟩, -, X23, ⟨Lc23, hQ23, l23, y23, z23⟩, st23⟩ := Jvm.LawKit.callS X21 hx (y := mN16) hown2 (mvT hZ2 (hw _ (mW 86 rfl))) (mvT hZ2 (hw _ (mW 87 rfl))) (mvT hZ2 (hw _ (mW 40 rfl))) (mvT hZ2 (hw _ (mW 88 rfl))) (by decide) (backOf (W := 0) (rmI l Z a0 hw [] (u0 &&& (255 : Int32)) (1 : Int32) h2 n0 Z4 (hok u0 (List.mem_of_getElem? (i := 0) rfl))) hZ2 (hw _ (mW 88 rfl)) (hw _ (mW 40 rfl)) (by decide) (by decide)) (g := (mkF m 72 #[rv a1, iv (0 : Int32), .unset] [(.int (u0 &&& (255 : Int32)))])) rfl (hM rfl) (argsL := [(.int (u0 &&& (255 : Int32)))]) (rest := []) (lenOf pd14 rfl) rfl (Nat.le_of_eq rfl) (B d20_72) (fun _ _ => ⟨rfl, e21, wl rfl, wl rfl⟩)
  dsimp only [Pt.U, Pt.locs, Pt.cells, Pt.slots] at X23 l23 y23 z23 st23 hQ23
  subst l23 y23 z23
  obtain ⟨rfl, N23q, hq23⟩ := hQ23
  have N23 := Fr.app N21 N23q
  have pre24 : Go p e bl T23 (mkF m 75 #[rv a1, iv (0 : Int32), .unset] [(.int (1 : Int32))]) s1 EF := fun t k => pre22 t (st23 t k)
  have e23 : T23.heap = h2 := hq23
  have pre25 : Go p e bl T23 (mkF m 119 #[rv a1, iv (0 : Int32), .unset] []) s1 EF := fun t k => pre24 t (XS.ifYes X23.here hx rfl (pc0 := 75) (pc' := 119) rfl (B d20_75) rfl ((if0 _ _).trans (feq (by decide : ¬ ((1 : Int32) = (0 : Int32)))).2) (by decide) (by decide) k)
  have pre26 : Go p e bl T23 (mkF m 61 #[rv a1, iv (1 : Int32), .unset] [(.ref a1), (.int (1 : Int32))]) s1 EF := fun t k => pre25 t (by
   refine XS.iinc X23.here hx rfl (B d20_119) rfl (l' := #[rv a1, iv (1 : Int32), .unset]) rfl ?_
   refine XS.goto X23.here hx rfl (pc0 := 122) (pc' := 59) rfl (B d20_122) (by decide) (by decide) ?_
   refine XS.iloadN X23.here hx rfl (B d20_59) rfl ?_
   exact XS.aloadN X23.here hx rfl (B d20_60) rfl rfl k)
  obtain ⟨cq27, kq27, q27a, q27b, q27c⟩ := isOf hZ2 e23 (SL.1.ext Et2)
  obtain ⟨_, _, ⟨T27, L27, k27, n27⟩, -, X27, ⟨Lc27, hQ27, l27, y27, z27⟩, st27⟩ := X23.virtualBack hx (y := mN1) (z := mN1) hown2 (mvT hZ2 (hw _ (mW 54 rfl))) (mvT hZ2 (hw _ (mW 55 rfl))) (notFace_of_selects (args := #[]) (mvT hZ2 (hw _ (mW 57 rfl)))) (mvT hZ2 (hw _ (mW 57 rfl))) (mvT hZ2 (hw _ (mW 56 rfl))) (by decide) (backOf (W := 1) (rmJle l Z a0 hw [] a1 cz fv (0 : Int32) b k (1 : Int32) (BV [u0]) (1 : Int32) h2 n0 Z4 O4 J0 (SL.ext Et2).1 (SL.ext Et2).2.1 (SL.ext Et2).2.2.1 (SL.ext Et2).2.2.2.1 rfl (own_shr0 rfl)) hZ2 (hw _ (mW 58 rfl)) (hw _ (mW 10 rfl)) (by decide) (by decide)) q27a q27c (g := (mkF m 61 #[rv a1, iv (1 : Int32), .unset] [(.ref a1), (.int (1 : Int32))])) rfl (hM rfl) (Steps.refl _) (argsL := []) (rest := [(.int (1 : Int32))]) (lenOf pd12 rfl) rfl (Nat.le_of_eq rfl) (B d20_61) (fun _ _ => ⟨rfl, e23, wl rfl, wl rfl⟩)
  dsimp only [Pt.U, Pt.locs, Pt.cells, Pt.slots] at X27 l27 y27 z27 st27 hQ27
  subst l27 y27 z27
  obtain ⟨rfl, N27q, hq27⟩ := hQ27
  have N27 := Fr.app N23 N27q
  have pre28 : Go p e bl T27 (mkF m 64 #[rv a1, iv (1 : Int32), .unset] [(.int (1 : Int32)), (.int (1 : Int32))]) s1 EF := fun t k => pre26 t (st27.trans k)
  have e27 : T27.heap = h2 := hq27
  have pre29 : Go p e bl T27 (mkF m 125 #[rv a1, iv (1 : Int32), .unset] []) s1 EF := fun t k => pre28 t (XS.icmpYes X27.here hx rfl (pc0 := 64) (pc' := 125) rfl (B d20_64) rfl (flt (by decide : ¬ ((1 : Int32) < (1 : Int32)))).2.1 (by decide) (by decide) k)
  obtain ⟨T30, h30, X30, e30, Et30, A30, D30, U30, st30⟩ := newO X27 hx hZ2 hown2 (hw _ (mW 89 rfl)) (hw _ (mW 90 rfl)) (hw _ (mW 40 rfl)) e27 (g := (mkF m 125 #[rv a1, iv (1 : Int32), .unset] [])) rfl (B d20_125) (by decide) (by decide)
  obtain ⟨b30, g30⟩ : ∃ z, z = h2.size := ⟨_, rfl⟩
  rw [← g30] at A30 st30 D30
  have g_b30 : n0 ≤ b30 := Nat.le_trans Z4 (Nat.le_of_eq g30.symm)
  have sz_b30 : h0.size ≤ b30 := Nat.le_trans K4.1 (Nat.le_of_eq g30.symm)
  have pre31 : Go p e bl T30 (mkF m 128 #[rv a1, iv (1 : Int32), .unset] [(.ref b30)]) s1 EF := fun t k => pre29 t (st30 t k)
  have O32 : Old Z n0 h30 := O4.ext Et30
  have Z32 : n0 ≤ h30.size := Nat.le_trans Z4 Et30.1
  have hk32 := Nat.le_trans hk2 Et30.1
  have K32 : Keep h0 h30 [] := K4.ext Et30
  have F_name_b30 : Fld Z h30 b30 "com/example/minuterie/minuterie/TimerName" "name" "Ljava/lang/String;" .null := D30 (Or.inr (hw _ (mW 96 rfl))) (ty := (.object "java/lang/String")) (by decide)
  have pre33 : Go p e bl T30 (mkF m 130 #[rv a1, iv (1 : Int32), .unset] [(.ref a1), (.ref b30), (.ref b30)]) s1 EF := fun t k => pre31 t (by
   refine XS.dup X30.here hx rfl (B d20_128) rfl rfl ?_
   exact XS.aloadN X30.here hx rfl (B d20_129) rfl rfl k)
  obtain ⟨_, _, ⟨T34, L34, k34, n34⟩, -, X34, ⟨Lc34, hQ34, l34, y34, z34⟩, st34⟩ := X30.specialBack hx (y := mN19) rfl hown2 (mvT hZ2 (hw _ (mW 91 rfl))) (mvT hZ2 (hw _ (mW 92 rfl))) (mvT hZ2 (hw _ (mW 93 rfl))) (by decide) (backOf (W := 1) (rmC l Z a0 hw [] b30 a1 cz fv  h30 n0 Z32 O32 J0 A30 g_b30 F_name_b30) hZ2 (hw _ (mW 93 rfl)) (hw _ (mW 40 rfl)) (by decide) (by decide)) (g := (mkF m 130 #[rv a1, iv (1 : Int32), .unset] [(.ref a1), (.ref b30), (.ref b30)])) rfl (hM rfl) (Steps.refl _) (a := b30) (argsL := [(.ref a1)]) (rest := [(.ref b30)]) (lenOf pd15 rfl) rfl (Nat.le_of_eq rfl) (B d20_130) (fun _ _ => ⟨rfl, e30, wl rfl, wl rfl⟩)
  dsimp only [Pt.U, Pt.locs, Pt.cells, Pt.slots] at X34 l34 y34 z34 st34 hQ34
  subst l34 y34 z34
  obtain ⟨rfl, N34q, K34, EC34, FC34⟩ := hQ34
  have N34 := Fr.app N27 N34q
  have pre35 : Go p e bl T34 (mkF m 133 #[rv a1, iv (1 : Int32), .unset] [(.ref b30)]) s1 EF := fun t k => pre33 t (st34.trans k)
  have O36 : Old Z n0 T34.heap := O32.keep K34 (allS g_b30 all0)
  have Z36 : n0 ≤ T34.heap.size := Nat.le_trans Z32 K34.1
  have hk36 := Nat.le_trans hk32 K34.1
  have K36 : Keep h0 T34.heap [] := K32.trans K34 (allS (Or.inr sz_b30) all0)
  obtain ⟨fs, hr, hrun, hended, hend1, hend2, hend3, hsame⟩ := X34.leaveW hS2 hk36 (v := some (.ref b30)) (fun h => by rw [Bd.returns] at h; cases h)
  refine ⟨_, _, hEF ▸ pre35 _ (retOut X34 hx Bd.returns rfl (Or.inr (Or.inr (Or.inr (Or.inr ⟨rfl, rfl, rfl⟩)))) (B d20_133) hr), hrun, hended, _, _, rfl, ?_, hend1, hend2, hend3, hsame.mono (by decide) (by decide)⟩
  show QO1 Z a1 cz fv b k u0 hs hz h0 n0 _ T34.heap _
  exact ⟨_, rfl, N34, K36, sz_b30, EC34, FC34⟩
abbrev rKO2 : Room := { frames := 4, cells := 3, slots := 45, locals := 53 }
theorem efO2 (m : MethodId) (a1 : Addr) : entryFrame m #[(.ref a1)] 3 = mkF m 0 #[rv a1, .unset, .unset] [] := by first | (simp [entryFrame, mkF, argsToLocals, Value.category]; done) | rfl
def QO2 (Z : State) (a1 : Addr) (cz : Int32) (fv : Value) (b : Addr) (k : ClassId) (u0 : Int32) (u1 : Int32) (hs : Int32) (hz : Int32) (h0 : Heap) (n0 : Nat) (v : Option Value) (h : Heap) (L : List Loc) : Prop := ∃ o, v = some (.ref o) ∧ Fr n0 L ∧ Keep h0 h [] ∧ h0.size ≤ o ∧ Exa Z h o "com/example/minuterie/minuterie/TimerName" ∧ Fld Z h o "com/example/minuterie/minuterie/TimerName" "name" "Ljava/lang/String;" (.ref a1)
set_option maxRecDepth 65536 in
set_option maxHeartbeats 40000000 in
theorem rmO2 (l : Launch) (Z : State) (a0 : Array Value) (hw : HW a0 Z) (ws : List Jvm.Cond) (a1 : Addr) (cz : Int32) (fv : Value) (b : Addr) (k : ClassId) (u0 : Int32) (u1 : Int32) (hs : Int32) (hz : Int32) (h0 : Heap) (n0 : Nat) (Z0 : n0 ≤ h0.size) (O0 : Old Z n0 h0) (J0 : Jd Z cz fv) (SL : StL Z h0 a1 b k (2 : Int32) [u0, u1] hs hz) (hok : ∀ u ∈ [u0, u1], isaF (u &&& 255) = 1) :
    MetFree l mN20 (head1 (Jvm.Cond.code mN20 prog_28_method_2_code 3 (some (.object "com/example/minuterie/minuterie/TimerName")) :: ws) rKO2) (fun a U => a = #[(.ref a1)] ∧ Z.Warmed39 U.vm ∧ U.heap = h0) (fun _ _ _ _ _ => True) (fun _ U o U' => ∃ v L, o = .returned v ∧ QO2 Z a1 cz fv b k u0 u1 hs hz h0 n0 v U'.heap L ∧ ReturnedEndW U o U' L rKO2.cells rKO2.slots) := by
  refine MetFree.of_bodySF (plainFor_of_name pn5) hisR ?_
  intro p e s m args bl meth c s1 Bd hml0 hP hK
  obtain ⟨rfl, hZ, hh⟩ := hP
  have hx := Bd.exec
  have hby := Bd.bytes
  have B := @hb c _ hby
  have hM := fun {n : Nat} (h : n = 3) => h.trans hml0.symm
  have hown : s.vm.findClass "com/example/minuterie/minuterie/TimerName" = some m.cls := findClass_of_methodNamed Bd.named
  have X0 : Stand p l e rKO2 (s.setVm s.vm) m #[(.ref a1)] bl meth c s1 [] 0 0 := Stand.of_body Bd
  have e0 : s1.heap = h0 := by rw [← hh, Bd.state]; rfl
  have N0 := Fr.nil n0
  obtain ⟨EF, hEF⟩ : ∃ f, f = entryFrame m #[(.ref a1)] 3 := ⟨_, rfl⟩
  have pre0 : Go p e bl s1 (mkF m 0 #[rv a1, .unset, .unset] []) s1 EF := fun t k => by rw [hEF]; exact castTop (efO2 m a1) k
  have hZ0 : Z.Warmed39 (s.setVm s.vm).vm := hZ
  have hown0 : (s.setVm s.vm).vm.findClass "com/example/minuterie/minuterie/TimerName" = some m.cls := hown
  have hS0 : s.Since s.vm s.heap.size := (State.WarmedH.refl s).since _
  have hk0 : s.heap.size ≤ h0.size := by rw [← hh]; exact Nat.le_refl _
  have pre1 : Go p e bl s1 (mkF m 1 #[rv a1, .unset, .unset] [(.ref a1)]) s1 EF := fun t k => pre0 t (by
   exact XS.aloadN X0.here hx rfl (B d20_0) rfl rfl k)
  obtain ⟨a2, T2, h2, k2, X2, e2, Et2, hS2, hk2, hZ2, hown2, st2⟩ := ldcS X0 hx hZ0 hown0 (hw _ (mW 42 rfl)) (own_wS hw) e0 hS0 hk0 (g := (mkF m 1 #[rv a1, .unset, .unset] [(.ref a1)])) rfl (B d20_1) (n := 40) (by decide) (by decide) (by decide) (by decide)
  have pre3 : Go p e bl T2 (mkF m 3 #[rv a1, .unset, .unset] [(.ref a2), (.ref a1)]) s1 EF := fun t k => pre1 t (st2 t k)
  have O4 : Old Z n0 h2 := O0.ext Et2
  have Z4 : n0 ≤ h2.size := Nat.le_trans Z0 Et2.1
  have K4 : Keep h0 h2 [] := (Keep.refl h0 []).ext Et2
  obtain ⟨_, _, ⟨T5, L5, k5, n5⟩, -, X5, ⟨Lc5, hQ5, l5, y5, z5⟩, st5⟩ := Jvm.LawKit.callS X2 hx (y := mN17) hown2 (mvT hZ2 (hw _ (mW 45 rfl))) (mvT hZ2 (hw _ (mW 46 rfl))) (mvT hZ2 (hw _ (mW 47 rfl))) (mvT hZ2 (hw _ (mW 48 rfl))) (by decide) (backOf (W := 0) (rmN l Z a0 hw [] a1 a2 h2 n0 Z4) hZ2 (hw _ (mW 48 rfl)) (hw _ (mW 47 rfl)) (by decide) (by decide)) (g := (mkF m 3 #[rv a1, .unset, .unset] [(.ref a2), (.ref a1)])) rfl (hM rfl) (argsL := [(.ref a1), (.ref a2)]) (rest := []) (lenOf pd11 rfl) rfl (Nat.le_of_eq rfl) (B d20_3) (fun _ _ => ⟨rfl, e2, wl rfl, wl rfl⟩)
  dsimp only [Pt.U, Pt.locs, Pt.cells, Pt.slots] at X5 l5 y5 z5 st5 hQ5
  subst l5 y5 z5
  obtain ⟨rfl, N5q, hq5⟩ := hQ5
  have N5 := Fr.app N0 N5q
  have pre6 : Go p e bl T5 (mkF m 6 #[rv a1, .unset, .unset] [(.ref a1)]) s1 EF := fun t k => pre3 t (st5 t k)
  have e5 : T5.heap = h2 := hq5
  have pre7 : Go p e bl T5 (mkF m 8 #[rv a1, .unset, .unset] [(.ref a1)]) s1 EF := fun t k => pre6 t (by
   refine XS.pop X5.here hx rfl (B d20_6) rfl rfl ?_
   exact XS.aloadN X5.here hx rfl (B d20_7) rfl rfl k)
  obtain ⟨cq8, kq8, q8a, q8b, q8c⟩ := isOf hZ2 e5 (SL.1.ext Et2)
  obtain ⟨_, _, ⟨T8, L8, k8, n8⟩, -, X8, ⟨Lc8, hQ8, l8, y8, z8⟩, st8⟩ := X5.virtualBack hx (y := mN7) (z := mN7) hown2 (mvT hZ2 (hw _ (mW 49 rfl))) (mvT hZ2 (hw _ (mW 50 rfl))) (notFace_of_selects (args := #[]) (mvT hZ2 (hw _ (mW 52 rfl)))) (mvT hZ2 (hw _ (mW 52 rfl))) (mvT hZ2 (hw _ (mW 51 rfl))) (by decide) (backOf (W := 0) (rmJem l Z a0 hw [] a1 cz fv b k (2 : Int32) [u0, u1] hs hz h2 n0 Z4 O4 J0 (SL.ext Et2) (by decide)) hZ2 (hw _ (mW 53 rfl)) (hw _ (mW 10 rfl)) (by decide) (by decide)) q8a q8c (g := (mkF m 8 #[rv a1, .unset, .unset] [(.ref a1)])) rfl (hM rfl) (Steps.refl _) (argsL := []) (rest := []) (lenOf pd3 rfl) rfl (Nat.le_of_eq rfl) (B d20_8) (fun _ _ => ⟨rfl, e5, wl rfl, wl rfl⟩)
  dsimp only [Pt.U, Pt.locs, Pt.cells, Pt.slots] at X8 l8 y8 z8 st8 hQ8
  subst l8 y8 z8
  obtain ⟨rfl, N8q, hq8⟩ := hQ8
  have N8 := Fr.app N5 N8q
  have pre9 : Go p e bl T8 (mkF m 11 #[rv a1, .unset, .unset] [(.int (0 : Int32))]) s1 EF := fun t k => pre7 t (st8.trans k)
  have e8 : T8.heap = h2 := hq8
  have pre10 : Go p e bl T8 (mkF m 24 #[rv a1, .unset, .unset] []) s1 EF := fun t k => pre9 t (XS.ifYes X8.here hx rfl (pc0 := 11) (pc' := 24) rfl (B d20_11) rfl ((if0 _ _).trans (teq (by decide : (0 : Int32) = (0 : Int32))).1) (by decide) (by decide) k)
  have pre11 : Go p e bl T8 (mkF m 25 #[rv a1, .unset, .unset] [(.ref a1)]) s1 EF := fun t k => pre10 t (by
   exact XS.aloadN X8.here hx rfl (B d20_24) rfl rfl k)
  obtain ⟨cq12, kq12, q12a, q12b, q12c⟩ := isOf hZ2 e8 (SL.1.ext Et2)
  obtain ⟨_, _, ⟨T12, L12, k12, n12⟩, -, X12, ⟨Lc12, hQ12, l12, y12, z12⟩, st12⟩ := X8.virtualBack hx (y := mN1) (z := mN1) hown2 (mvT hZ2 (hw _ (mW 54 rfl))) (mvT hZ2 (hw _ (mW 55 rfl))) (notFace_of_selects (args := #[]) (mvT hZ2 (hw _ (mW 57 rfl)))) (mvT hZ2 (hw _ (mW 57 rfl))) (mvT hZ2 (hw _ (mW 56 rfl))) (by decide) (backOf (W := 0) (rmJle l Z a0 hw [] a1 cz fv (0 : Int32) b k (2 : Int32) (BV [u0, u1]) (2 : Int32) h2 n0 Z4 O4 J0 (SL.ext Et2).1 (SL.ext Et2).2.1 (SL.ext Et2).2.2.1 (SL.ext Et2).2.2.2.1 rfl (own_shr0 rfl)) hZ2 (hw _ (mW 58 rfl)) (hw _ (mW 10 rfl)) (by decide) (by decide)) q12a q12c (g := (mkF m 25 #[rv a1, .unset, .unset] [(.ref a1)])) rfl (hM rfl) (Steps.refl _) (argsL := []) (rest := []) (lenOf pd12 rfl) rfl (Nat.le_of_eq rfl) (B d20_25) (fun _ _ => ⟨rfl, e8, wl rfl, wl rfl⟩)
  dsimp only [Pt.U, Pt.locs, Pt.cells, Pt.slots] at X12 l12 y12 z12 st12 hQ12
  subst l12 y12 z12
  obtain ⟨rfl, N12q, hq12⟩ := hQ12
  have N12 := Fr.app N8 N12q
  have pre13 : Go p e bl T12 (mkF m 28 #[rv a1, .unset, .unset] [(.int (2 : Int32))]) s1 EF := fun t k => pre11 t (st12.trans k)
  have e12 : T12.heap = h2 := hq12
  have pre14 : Go p e bl T12 (mkF m 30 #[rv a1, .unset, .unset] [(.int (100 : Int32)), (.int (2 : Int32))]) s1 EF := fun t k => pre13 t (by
   exact XS.bipush X12.here hx rfl (B d20_28) k)
  have pre15 : Go p e bl T12 (mkF m 57 #[rv a1, .unset, .unset] []) s1 EF := fun t k => pre14 t (XS.icmpYes X12.here hx rfl (pc0 := 30) (pc' := 57) rfl (B d20_30) rfl (flt (by decide : ¬ ((100 : Int32) < (2 : Int32)))).2.2.2 (by decide) (by decide) k)
  have pre16 : Go p e bl T12 (mkF m 61 #[rv a1, iv (0 : Int32), .unset] [(.ref a1), (.int (0 : Int32))]) s1 EF := fun t k => pre15 t (by
   refine XS.iconst X12.here hx rfl (B d20_57) ?_
   refine XS.istoreN X12.here hx rfl (B d20_58) rfl (l' := #[rv a1, iv (0 : Int32), .unset]) rfl ?_
   refine XS.iloadN X12.here hx rfl (B d20_59) rfl ?_
   exact XS.aloadN X12.here hx rfl (B d20_60) rfl rfl k)
  obtain ⟨cq17, kq17, q17a, q17b, q17c⟩ := isOf hZ2 e12 (SL.1.ext Et2)
  obtain ⟨_, _, ⟨T17, L17, k17, n17⟩, -, X17, ⟨Lc17, hQ17, l17, y17, z17⟩, st17⟩ := X12.virtualBack hx (y := mN1) (z := mN1) hown2 (mvT hZ2 (hw _ (mW 54 rfl))) (mvT hZ2 (hw _ (mW 55 rfl))) (notFace_of_selects (args := #[]) (mvT hZ2 (hw _ (mW 57 rfl)))) (mvT hZ2 (hw _ (mW 57 rfl))) (mvT hZ2 (hw _ (mW 56 rfl))) (by decide) (backOf (W := 1) (rmJle l Z a0 hw [] a1 cz fv (0 : Int32) b k (2 : Int32) (BV [u0, u1]) (2 : Int32) h2 n0 Z4 O4 J0 (SL.ext Et2).1 (SL.ext Et2).2.1 (SL.ext Et2).2.2.1 (SL.ext Et2).2.2.2.1 rfl (own_shr0 rfl)) hZ2 (hw _ (mW 58 rfl)) (hw _ (mW 10 rfl)) (by decide) (by decide)) q17a q17c (g := (mkF m 61 #[rv a1, iv (0 : Int32), .unset] [(.ref a1), (.int (0 : Int32))])) rfl (hM rfl) (Steps.refl _) (argsL := []) (rest := [(.int (0 : Int32))]) (lenOf pd12 rfl) rfl (Nat.le_of_eq rfl) (B d20_61) (fun _ _ => ⟨rfl, e12, wl rfl, wl rfl⟩)
  dsimp only [Pt.U, Pt.locs, Pt.cells, Pt.slots] at X17 l17 y17 z17 st17 hQ17
  subst l17 y17 z17
  obtain ⟨rfl, N17q, hq17⟩ := hQ17
  have N17 := Fr.app N12 N17q
  have pre18 : Go p e bl T17 (mkF m 64 #[rv a1, iv (0 : Int32), .unset] [(.int (2 : Int32)), (.int (0 : Int32))]) s1 EF := fun t k => pre16 t (st17.trans k)
  have e17 : T17.heap = h2 := hq17
  have pre19 : Go p e bl T17 (mkF m 67 #[rv a1, iv (0 : Int32), .unset] []) s1 EF := fun t k => pre18 t (XS.icmpNo X17.here hx rfl (B d20_64) rfl (tlt (by decide : (0 : Int32) < (2 : Int32))).2.1 k)
  have pre20 : Go p e bl T17 (mkF m 69 #[rv a1, iv (0 : Int32), .unset] [(.int (0 : Int32)), (.ref a1)]) s1 EF := fun t k => pre19 t (by
   refine XS.aloadN X17.here hx rfl (B d20_67) rfl rfl ?_
   exact XS.iloadN X17.here hx rfl (B d20_68) rfl k)
  obtain ⟨cq21, kq21, q21a, q21b, q21c⟩ := isOf hZ2 e17 (SL.1.ext Et2)
  obtain ⟨_, _, ⟨T21, L21, k21, n21⟩, -, X21, ⟨Lc21, hQ21, l21, y21, z21⟩, st21⟩ := X17.virtualBack hx (y := mN6) (z := mN6) hown2 (mvT hZ2 (hw _ (mW 64 rfl))) (mvT hZ2 (hw _ (mW 65 rfl))) (notFace_of_selects (args := #[]) (mvT hZ2 (hw _ (mW 67 rfl)))) (mvT hZ2 (hw _ (mW 67 rfl))) (mvT hZ2 (hw _ (mW 66 rfl))) (by decide) (backOf (W := 0) (rmJcl l Z a0 hw [] a1 (0 : Int32) cz fv b k (2 : Int32) (BV [u0, u1]) u0 (u0 &&& (255 : Int32)) h2 n0 Z4 O4 J0 (SL.ext Et2).1 (SL.ext Et2).2.1 (SL.ext Et2).2.2.1 (SL.ext Et2).2.2.2.1 (by decide) (by decide) rfl rfl (own_nm u0)) hZ2 (hw _ (mW 68 rfl)) (hw _ (mW 10 rfl)) (by decide) (by decide)) q21a q21c (g := (mkF m 69 #[rv a1, iv (0 : Int32), .unset] [(.int (0 : Int32)), (.ref a1)])) rfl (hM rfl) (Steps.refl _) (argsL := [(.int (0 : Int32))]) (rest := []) (lenOf pd13 rfl) rfl (Nat.le_of_eq rfl) (B d20_69) (fun _ _ => ⟨rfl, e17, wl rfl, wl rfl⟩)
  dsimp only [Pt.U, Pt.locs, Pt.cells, Pt.slots] at X21 l21 y21 z21 st21 hQ21
  subst l21 y21 z21
  obtain ⟨rfl, N21q, hq21⟩ := hQ21
  have N21 := Fr.app N17 N21q
  have pre22 : Go p e bl T21 (mkF m 72 #[rv a1, iv (0 : Int32), .unset] [(.int (u0 &&& (255 : Int32)))]) s1 EF := fun t k => pre20 t (st21.trans k)
  have e21 : T21.heap = h2 := hq21
  obtain ⟨_, _, ⟨T23, L23, k23, n23⟩, -, X23, ⟨Lc23, hQ23, l23, y23, z23⟩, st23⟩ := Jvm.LawKit.callS X21 hx (y := mN16) hown2 (mvT hZ2 (hw _ (mW 86 rfl))) (mvT hZ2 (hw _ (mW 87 rfl))) (mvT hZ2 (hw _ (mW 40 rfl))) (mvT hZ2 (hw _ (mW 88 rfl))) (by decide) (backOf (W := 0) (rmI l Z a0 hw [] (u0 &&& (255 : Int32)) (1 : Int32) h2 n0 Z4 (hok u0 (List.mem_of_getElem? (i := 0) rfl))) hZ2 (hw _ (mW 88 rfl)) (hw _ (mW 40 rfl)) (by decide) (by decide)) (g := (mkF m 72 #[rv a1, iv (0 : Int32), .unset] [(.int (u0 &&& (255 : Int32)))])) rfl (hM rfl) (argsL := [(.int (u0 &&& (255 : Int32)))]) (rest := []) (lenOf pd14 rfl) rfl (Nat.le_of_eq rfl) (B d20_72) (fun _ _ => ⟨rfl, e21, wl rfl, wl rfl⟩)
  dsimp only [Pt.U, Pt.locs, Pt.cells, Pt.slots] at X23 l23 y23 z23 st23 hQ23
  subst l23 y23 z23
  obtain ⟨rfl, N23q, hq23⟩ := hQ23
  have N23 := Fr.app N21 N23q
  have pre24 : Go p e bl T23 (mkF m 75 #[rv a1, iv (0 : Int32), .unset] [(.int (1 : Int32))]) s1 EF := fun t k => pre22 t (st23 t k)
  have e23 : T23.heap = h2 := hq23
  have pre25 : Go p e bl T23 (mkF m 119 #[rv a1, iv (0 : Int32), .unset] []) s1 EF := fun t k => pre24 t (XS.ifYes X23.here hx rfl (pc0 := 75) (pc' := 119) rfl (B d20_75) rfl ((if0 _ _).trans (feq (by decide : ¬ ((1 : Int32) = (0 : Int32)))).2) (by decide) (by decide) k)
  have pre26 : Go p e bl T23 (mkF m 61 #[rv a1, iv (1 : Int32), .unset] [(.ref a1), (.int (1 : Int32))]) s1 EF := fun t k => pre25 t (by
   refine XS.iinc X23.here hx rfl (B d20_119) rfl (l' := #[rv a1, iv (1 : Int32), .unset]) rfl ?_
   refine XS.goto X23.here hx rfl (pc0 := 122) (pc' := 59) rfl (B d20_122) (by decide) (by decide) ?_
   refine XS.iloadN X23.here hx rfl (B d20_59) rfl ?_
   exact XS.aloadN X23.here hx rfl (B d20_60) rfl rfl k)
  obtain ⟨cq27, kq27, q27a, q27b, q27c⟩ := isOf hZ2 e23 (SL.1.ext Et2)
  obtain ⟨_, _, ⟨T27, L27, k27, n27⟩, -, X27, ⟨Lc27, hQ27, l27, y27, z27⟩, st27⟩ := X23.virtualBack hx (y := mN1) (z := mN1) hown2 (mvT hZ2 (hw _ (mW 54 rfl))) (mvT hZ2 (hw _ (mW 55 rfl))) (notFace_of_selects (args := #[]) (mvT hZ2 (hw _ (mW 57 rfl)))) (mvT hZ2 (hw _ (mW 57 rfl))) (mvT hZ2 (hw _ (mW 56 rfl))) (by decide) (backOf (W := 1) (rmJle l Z a0 hw [] a1 cz fv (0 : Int32) b k (2 : Int32) (BV [u0, u1]) (2 : Int32) h2 n0 Z4 O4 J0 (SL.ext Et2).1 (SL.ext Et2).2.1 (SL.ext Et2).2.2.1 (SL.ext Et2).2.2.2.1 rfl (own_shr0 rfl)) hZ2 (hw _ (mW 58 rfl)) (hw _ (mW 10 rfl)) (by decide) (by decide)) q27a q27c (g := (mkF m 61 #[rv a1, iv (1 : Int32), .unset] [(.ref a1), (.int (1 : Int32))])) rfl (hM rfl) (Steps.refl _) (argsL := []) (rest := [(.int (1 : Int32))]) (lenOf pd12 rfl) rfl (Nat.le_of_eq rfl) (B d20_61) (fun _ _ => ⟨rfl, e23, wl rfl, wl rfl⟩)
  dsimp only [Pt.U, Pt.locs, Pt.cells, Pt.slots] at X27 l27 y27 z27 st27 hQ27
  subst l27 y27 z27
  obtain ⟨rfl, N27q, hq27⟩ := hQ27
  have N27 := Fr.app N23 N27q
  have pre28 : Go p e bl T27 (mkF m 64 #[rv a1, iv (1 : Int32), .unset] [(.int (2 : Int32)), (.int (1 : Int32))]) s1 EF := fun t k => pre26 t (st27.trans k)
  have e27 : T27.heap = h2 := hq27
  have pre29 : Go p e bl T27 (mkF m 67 #[rv a1, iv (1 : Int32), .unset] []) s1 EF := fun t k => pre28 t (XS.icmpNo X27.here hx rfl (B d20_64) rfl (tlt (by decide : (1 : Int32) < (2 : Int32))).2.1 k)
  have pre30 : Go p e bl T27 (mkF m 69 #[rv a1, iv (1 : Int32), .unset] [(.int (1 : Int32)), (.ref a1)]) s1 EF := fun t k => pre29 t (by
   refine XS.aloadN X27.here hx rfl (B d20_67) rfl rfl ?_
   exact XS.iloadN X27.here hx rfl (B d20_68) rfl k)
  obtain ⟨cq31, kq31, q31a, q31b, q31c⟩ := isOf hZ2 e27 (SL.1.ext Et2)
  obtain ⟨_, _, ⟨T31, L31, k31, n31⟩, -, X31, ⟨Lc31, hQ31, l31, y31, z31⟩, st31⟩ := X27.virtualBack hx (y := mN6) (z := mN6) hown2 (mvT hZ2 (hw _ (mW 64 rfl))) (mvT hZ2 (hw _ (mW 65 rfl))) (notFace_of_selects (args := #[]) (mvT hZ2 (hw _ (mW 67 rfl)))) (mvT hZ2 (hw _ (mW 67 rfl))) (mvT hZ2 (hw _ (mW 66 rfl))) (by decide) (backOf (W := 0) (rmJcl l Z a0 hw [] a1 (1 : Int32) cz fv b k (2 : Int32) (BV [u0, u1]) u1 (u1 &&& (255 : Int32)) h2 n0 Z4 O4 J0 (SL.ext Et2).1 (SL.ext Et2).2.1 (SL.ext Et2).2.2.1 (SL.ext Et2).2.2.2.1 (by decide) (by decide) rfl rfl (own_nm u1)) hZ2 (hw _ (mW 68 rfl)) (hw _ (mW 10 rfl)) (by decide) (by decide)) q31a q31c (g := (mkF m 69 #[rv a1, iv (1 : Int32), .unset] [(.int (1 : Int32)), (.ref a1)])) rfl (hM rfl) (Steps.refl _) (argsL := [(.int (1 : Int32))]) (rest := []) (lenOf pd13 rfl) rfl (Nat.le_of_eq rfl) (B d20_69) (fun _ _ => ⟨rfl, e27, wl rfl, wl rfl⟩)
  dsimp only [Pt.U, Pt.locs, Pt.cells, Pt.slots] at X31 l31 y31 z31 st31 hQ31
  subst l31 y31 z31
  obtain ⟨rfl, N31q, hq31⟩ := hQ31
  have N31 := Fr.app N27 N31q
  have pre32 : Go p e bl T31 (mkF m 72 #[rv a1, iv (1 : Int32), .unset] [(.int (u1 &&& (255 : Int32)))]) s1 EF := fun t k => pre30 t (st31.trans k)
  have e31 : T31.heap = h2 := hq31
  obtain ⟨_, _, ⟨T33, L33, k33, n33⟩, -, X33, ⟨Lc33, hQ33, l33, y33, z33⟩, st33⟩ := Jvm.LawKit.callS X31 hx (y := mN16) hown2 (mvT hZ2 (hw _ (mW 86 rfl))) (mvT hZ2 (hw _ (mW 87 rfl))) (mvT hZ2 (hw _ (mW 40 rfl))) (mvT hZ2 (hw _ (mW 88 rfl))) (by decide) (backOf (W := 0) (rmI l Z a0 hw [] (u1 &&& (255 : Int32)) (1 : Int32) h2 n0 Z4 (hok u1 (List.mem_of_getElem? (i := 1) rfl))) hZ2 (hw _ (mW 88 rfl)) (hw _ (mW 40 rfl)) (by decide) (by decide)) (g := (mkF m 72 #[rv a1, iv (1 : Int32), .unset] [(.int (u1 &&& (255 : Int32)))])) rfl (hM rfl) (argsL := [(.int (u1 &&& (255 : Int32)))]) (rest := []) (lenOf pd14 rfl) rfl (Nat.le_of_eq rfl) (B d20_72) (fun _ _ => ⟨rfl, e31, wl rfl, wl rfl⟩)
  dsimp only [Pt.U, Pt.locs, Pt.cells, Pt.slots] at X33 l33 y33 z33 st33 hQ33
  subst l33 y33 z33
  obtain ⟨rfl, N33q, hq33⟩ := hQ33
  have N33 := Fr.app N31 N33q
  have pre34 : Go p e bl T33 (mkF m 75 #[rv a1, iv (1 : Int32), .unset] [(.int (1 : Int32))]) s1 EF := fun t k => pre32 t (st33 t k)
  have e33 : T33.heap = h2 := hq33
  have pre35 : Go p e bl T33 (mkF m 119 #[rv a1, iv (1 : Int32), .unset] []) s1 EF := fun t k => pre34 t (XS.ifYes X33.here hx rfl (pc0 := 75) (pc' := 119) rfl (B d20_75) rfl ((if0 _ _).trans (feq (by decide : ¬ ((1 : Int32) = (0 : Int32)))).2) (by decide) (by decide) k)
  have pre36 : Go p e bl T33 (mkF m 61 #[rv a1, iv (2 : Int32), .unset] [(.ref a1), (.int (2 : Int32))]) s1 EF := fun t k => pre35 t (by
   refine XS.iinc X33.here hx rfl (B d20_119) rfl (l' := #[rv a1, iv (2 : Int32), .unset]) rfl ?_
   refine XS.goto X33.here hx rfl (pc0 := 122) (pc' := 59) rfl (B d20_122) (by decide) (by decide) ?_
   refine XS.iloadN X33.here hx rfl (B d20_59) rfl ?_
   exact XS.aloadN X33.here hx rfl (B d20_60) rfl rfl k)
  obtain ⟨cq37, kq37, q37a, q37b, q37c⟩ := isOf hZ2 e33 (SL.1.ext Et2)
  obtain ⟨_, _, ⟨T37, L37, k37, n37⟩, -, X37, ⟨Lc37, hQ37, l37, y37, z37⟩, st37⟩ := X33.virtualBack hx (y := mN1) (z := mN1) hown2 (mvT hZ2 (hw _ (mW 54 rfl))) (mvT hZ2 (hw _ (mW 55 rfl))) (notFace_of_selects (args := #[]) (mvT hZ2 (hw _ (mW 57 rfl)))) (mvT hZ2 (hw _ (mW 57 rfl))) (mvT hZ2 (hw _ (mW 56 rfl))) (by decide) (backOf (W := 1) (rmJle l Z a0 hw [] a1 cz fv (0 : Int32) b k (2 : Int32) (BV [u0, u1]) (2 : Int32) h2 n0 Z4 O4 J0 (SL.ext Et2).1 (SL.ext Et2).2.1 (SL.ext Et2).2.2.1 (SL.ext Et2).2.2.2.1 rfl (own_shr0 rfl)) hZ2 (hw _ (mW 58 rfl)) (hw _ (mW 10 rfl)) (by decide) (by decide)) q37a q37c (g := (mkF m 61 #[rv a1, iv (2 : Int32), .unset] [(.ref a1), (.int (2 : Int32))])) rfl (hM rfl) (Steps.refl _) (argsL := []) (rest := [(.int (2 : Int32))]) (lenOf pd12 rfl) rfl (Nat.le_of_eq rfl) (B d20_61) (fun _ _ => ⟨rfl, e33, wl rfl, wl rfl⟩)
  dsimp only [Pt.U, Pt.locs, Pt.cells, Pt.slots] at X37 l37 y37 z37 st37 hQ37
  subst l37 y37 z37
  obtain ⟨rfl, N37q, hq37⟩ := hQ37
  have N37 := Fr.app N33 N37q
  have pre38 : Go p e bl T37 (mkF m 64 #[rv a1, iv (2 : Int32), .unset] [(.int (2 : Int32)), (.int (2 : Int32))]) s1 EF := fun t k => pre36 t (st37.trans k)
  have e37 : T37.heap = h2 := hq37
  have pre39 : Go p e bl T37 (mkF m 125 #[rv a1, iv (2 : Int32), .unset] []) s1 EF := fun t k => pre38 t (XS.icmpYes X37.here hx rfl (pc0 := 64) (pc' := 125) rfl (B d20_64) rfl (flt (by decide : ¬ ((2 : Int32) < (2 : Int32)))).2.1 (by decide) (by decide) k)
  obtain ⟨T40, h40, X40, e40, Et40, A40, D40, U40, st40⟩ := newO X37 hx hZ2 hown2 (hw _ (mW 89 rfl)) (hw _ (mW 90 rfl)) (hw _ (mW 40 rfl)) e37 (g := (mkF m 125 #[rv a1, iv (2 : Int32), .unset] [])) rfl (B d20_125) (by decide) (by decide)
  obtain ⟨b40, g40⟩ : ∃ z, z = h2.size := ⟨_, rfl⟩
  rw [← g40] at A40 st40 D40
  have g_b40 : n0 ≤ b40 := Nat.le_trans Z4 (Nat.le_of_eq g40.symm)
  have sz_b40 : h0.size ≤ b40 := Nat.le_trans K4.1 (Nat.le_of_eq g40.symm)
  have pre41 : Go p e bl T40 (mkF m 128 #[rv a1, iv (2 : Int32), .unset] [(.ref b40)]) s1 EF := fun t k => pre39 t (st40 t k)
  have O42 : Old Z n0 h40 := O4.ext Et40
  have Z42 : n0 ≤ h40.size := Nat.le_trans Z4 Et40.1
  have hk42 := Nat.le_trans hk2 Et40.1
  have K42 : Keep h0 h40 [] := K4.ext Et40
  have F_name_b40 : Fld Z h40 b40 "com/example/minuterie/minuterie/TimerName" "name" "Ljava/lang/String;" .null := D40 (Or.inr (hw _ (mW 96 rfl))) (ty := (.object "java/lang/String")) (by decide)
  have pre43 : Go p e bl T40 (mkF m 130 #[rv a1, iv (2 : Int32), .unset] [(.ref a1), (.ref b40), (.ref b40)]) s1 EF := fun t k => pre41 t (by
   refine XS.dup X40.here hx rfl (B d20_128) rfl rfl ?_
   exact XS.aloadN X40.here hx rfl (B d20_129) rfl rfl k)
  obtain ⟨_, _, ⟨T44, L44, k44, n44⟩, -, X44, ⟨Lc44, hQ44, l44, y44, z44⟩, st44⟩ := X40.specialBack hx (y := mN19) rfl hown2 (mvT hZ2 (hw _ (mW 91 rfl))) (mvT hZ2 (hw _ (mW 92 rfl))) (mvT hZ2 (hw _ (mW 93 rfl))) (by decide) (backOf (W := 1) (rmC l Z a0 hw [] b40 a1 cz fv  h40 n0 Z42 O42 J0 A40 g_b40 F_name_b40) hZ2 (hw _ (mW 93 rfl)) (hw _ (mW 40 rfl)) (by decide) (by decide)) (g := (mkF m 130 #[rv a1, iv (2 : Int32), .unset] [(.ref a1), (.ref b40), (.ref b40)])) rfl (hM rfl) (Steps.refl _) (a := b40) (argsL := [(.ref a1)]) (rest := [(.ref b40)]) (lenOf pd15 rfl) rfl (Nat.le_of_eq rfl) (B d20_130) (fun _ _ => ⟨rfl, e40, wl rfl, wl rfl⟩)
  dsimp only [Pt.U, Pt.locs, Pt.cells, Pt.slots] at X44 l44 y44 z44 st44 hQ44
  subst l44 y44 z44
  obtain ⟨rfl, N44q, K44, EC44, FC44⟩ := hQ44
  have N44 := Fr.app N37 N44q
  have pre45 : Go p e bl T44 (mkF m 133 #[rv a1, iv (2 : Int32), .unset] [(.ref b40)]) s1 EF := fun t k => pre43 t (st44.trans k)
  have O46 : Old Z n0 T44.heap := O42.keep K44 (allS g_b40 all0)
  have Z46 : n0 ≤ T44.heap.size := Nat.le_trans Z42 K44.1
  have hk46 := Nat.le_trans hk42 K44.1
  have K46 : Keep h0 T44.heap [] := K42.trans K44 (allS (Or.inr sz_b40) all0)
  obtain ⟨fs, hr, hrun, hended, hend1, hend2, hend3, hsame⟩ := X44.leaveW hS2 hk46 (v := some (.ref b40)) (fun h => by rw [Bd.returns] at h; cases h)
  refine ⟨_, _, hEF ▸ pre45 _ (retOut X44 hx Bd.returns rfl (Or.inr (Or.inr (Or.inr (Or.inr ⟨rfl, rfl, rfl⟩)))) (B d20_133) hr), hrun, hended, _, _, rfl, ?_, hend1, hend2, hend3, hsame.mono (by decide) (by decide)⟩
  show QO2 Z a1 cz fv b k u0 u1 hs hz h0 n0 _ T44.heap _
  exact ⟨_, rfl, N44, K46, sz_b40, EC44, FC44⟩
abbrev rKO3 : Room := { frames := 4, cells := 3, slots := 45, locals := 53 }
theorem efO3 (m : MethodId) (a1 : Addr) : entryFrame m #[(.ref a1)] 3 = mkF m 0 #[rv a1, .unset, .unset] [] := by first | (simp [entryFrame, mkF, argsToLocals, Value.category]; done) | rfl
def QO3 (Z : State) (a1 : Addr) (cz : Int32) (fv : Value) (b : Addr) (k : ClassId) (u0 : Int32) (u1 : Int32) (u2 : Int32) (hs : Int32) (hz : Int32) (h0 : Heap) (n0 : Nat) (v : Option Value) (h : Heap) (L : List Loc) : Prop := ∃ o, v = some (.ref o) ∧ Fr n0 L ∧ Keep h0 h [] ∧ h0.size ≤ o ∧ Exa Z h o "com/example/minuterie/minuterie/TimerName" ∧ Fld Z h o "com/example/minuterie/minuterie/TimerName" "name" "Ljava/lang/String;" (.ref a1)
set_option maxRecDepth 65536 in
set_option maxHeartbeats 40000000 in
theorem rmO3 (l : Launch) (Z : State) (a0 : Array Value) (hw : HW a0 Z) (ws : List Jvm.Cond) (a1 : Addr) (cz : Int32) (fv : Value) (b : Addr) (k : ClassId) (u0 : Int32) (u1 : Int32) (u2 : Int32) (hs : Int32) (hz : Int32) (h0 : Heap) (n0 : Nat) (Z0 : n0 ≤ h0.size) (O0 : Old Z n0 h0) (J0 : Jd Z cz fv) (SL : StL Z h0 a1 b k (3 : Int32) [u0, u1, u2] hs hz) (hok : ∀ u ∈ [u0, u1, u2], isaF (u &&& 255) = 1) :
    MetFree l mN20 (head1 (Jvm.Cond.code mN20 prog_28_method_2_code 3 (some (.object "com/example/minuterie/minuterie/TimerName")) :: ws) rKO3) (fun a U => a = #[(.ref a1)] ∧ Z.Warmed39 U.vm ∧ U.heap = h0) (fun _ _ _ _ _ => True) (fun _ U o U' => ∃ v L, o = .returned v ∧ QO3 Z a1 cz fv b k u0 u1 u2 hs hz h0 n0 v U'.heap L ∧ ReturnedEndW U o U' L rKO3.cells rKO3.slots) := by
  refine MetFree.of_bodySF (plainFor_of_name pn5) hisR ?_
  intro p e s m args bl meth c s1 Bd hml0 hP hK
  obtain ⟨rfl, hZ, hh⟩ := hP
  have hx := Bd.exec
  have hby := Bd.bytes
  have B := @hb c _ hby
  have hM := fun {n : Nat} (h : n = 3) => h.trans hml0.symm
  have hown : s.vm.findClass "com/example/minuterie/minuterie/TimerName" = some m.cls := findClass_of_methodNamed Bd.named
  have X0 : Stand p l e rKO3 (s.setVm s.vm) m #[(.ref a1)] bl meth c s1 [] 0 0 := Stand.of_body Bd
  have e0 : s1.heap = h0 := by rw [← hh, Bd.state]; rfl
  have N0 := Fr.nil n0
  obtain ⟨EF, hEF⟩ : ∃ f, f = entryFrame m #[(.ref a1)] 3 := ⟨_, rfl⟩
  have pre0 : Go p e bl s1 (mkF m 0 #[rv a1, .unset, .unset] []) s1 EF := fun t k => by rw [hEF]; exact castTop (efO3 m a1) k
  have hZ0 : Z.Warmed39 (s.setVm s.vm).vm := hZ
  have hown0 : (s.setVm s.vm).vm.findClass "com/example/minuterie/minuterie/TimerName" = some m.cls := hown
  have hS0 : s.Since s.vm s.heap.size := (State.WarmedH.refl s).since _
  have hk0 : s.heap.size ≤ h0.size := by rw [← hh]; exact Nat.le_refl _
  have pre1 : Go p e bl s1 (mkF m 1 #[rv a1, .unset, .unset] [(.ref a1)]) s1 EF := fun t k => pre0 t (by
   exact XS.aloadN X0.here hx rfl (B d20_0) rfl rfl k)
  obtain ⟨a2, T2, h2, k2, X2, e2, Et2, hS2, hk2, hZ2, hown2, st2⟩ := ldcS X0 hx hZ0 hown0 (hw _ (mW 42 rfl)) (own_wS hw) e0 hS0 hk0 (g := (mkF m 1 #[rv a1, .unset, .unset] [(.ref a1)])) rfl (B d20_1) (n := 40) (by decide) (by decide) (by decide) (by decide)
  have pre3 : Go p e bl T2 (mkF m 3 #[rv a1, .unset, .unset] [(.ref a2), (.ref a1)]) s1 EF := fun t k => pre1 t (st2 t k)
  have O4 : Old Z n0 h2 := O0.ext Et2
  have Z4 : n0 ≤ h2.size := Nat.le_trans Z0 Et2.1
  have K4 : Keep h0 h2 [] := (Keep.refl h0 []).ext Et2
  obtain ⟨_, _, ⟨T5, L5, k5, n5⟩, -, X5, ⟨Lc5, hQ5, l5, y5, z5⟩, st5⟩ := Jvm.LawKit.callS X2 hx (y := mN17) hown2 (mvT hZ2 (hw _ (mW 45 rfl))) (mvT hZ2 (hw _ (mW 46 rfl))) (mvT hZ2 (hw _ (mW 47 rfl))) (mvT hZ2 (hw _ (mW 48 rfl))) (by decide) (backOf (W := 0) (rmN l Z a0 hw [] a1 a2 h2 n0 Z4) hZ2 (hw _ (mW 48 rfl)) (hw _ (mW 47 rfl)) (by decide) (by decide)) (g := (mkF m 3 #[rv a1, .unset, .unset] [(.ref a2), (.ref a1)])) rfl (hM rfl) (argsL := [(.ref a1), (.ref a2)]) (rest := []) (lenOf pd11 rfl) rfl (Nat.le_of_eq rfl) (B d20_3) (fun _ _ => ⟨rfl, e2, wl rfl, wl rfl⟩)
  dsimp only [Pt.U, Pt.locs, Pt.cells, Pt.slots] at X5 l5 y5 z5 st5 hQ5
  subst l5 y5 z5
  obtain ⟨rfl, N5q, hq5⟩ := hQ5
  have N5 := Fr.app N0 N5q
  have pre6 : Go p e bl T5 (mkF m 6 #[rv a1, .unset, .unset] [(.ref a1)]) s1 EF := fun t k => pre3 t (st5 t k)
  have e5 : T5.heap = h2 := hq5
  have pre7 : Go p e bl T5 (mkF m 8 #[rv a1, .unset, .unset] [(.ref a1)]) s1 EF := fun t k => pre6 t (by
   refine XS.pop X5.here hx rfl (B d20_6) rfl rfl ?_
   exact XS.aloadN X5.here hx rfl (B d20_7) rfl rfl k)
  obtain ⟨cq8, kq8, q8a, q8b, q8c⟩ := isOf hZ2 e5 (SL.1.ext Et2)
  obtain ⟨_, _, ⟨T8, L8, k8, n8⟩, -, X8, ⟨Lc8, hQ8, l8, y8, z8⟩, st8⟩ := X5.virtualBack hx (y := mN7) (z := mN7) hown2 (mvT hZ2 (hw _ (mW 49 rfl))) (mvT hZ2 (hw _ (mW 50 rfl))) (notFace_of_selects (args := #[]) (mvT hZ2 (hw _ (mW 52 rfl)))) (mvT hZ2 (hw _ (mW 52 rfl))) (mvT hZ2 (hw _ (mW 51 rfl))) (by decide) (backOf (W := 0) (rmJem l Z a0 hw [] a1 cz fv b k (3 : Int32) [u0, u1, u2] hs hz h2 n0 Z4 O4 J0 (SL.ext Et2) (by decide)) hZ2 (hw _ (mW 53 rfl)) (hw _ (mW 10 rfl)) (by decide) (by decide)) q8a q8c (g := (mkF m 8 #[rv a1, .unset, .unset] [(.ref a1)])) rfl (hM rfl) (Steps.refl _) (argsL := []) (rest := []) (lenOf pd3 rfl) rfl (Nat.le_of_eq rfl) (B d20_8) (fun _ _ => ⟨rfl, e5, wl rfl, wl rfl⟩)
  dsimp only [Pt.U, Pt.locs, Pt.cells, Pt.slots] at X8 l8 y8 z8 st8 hQ8
  subst l8 y8 z8
  obtain ⟨rfl, N8q, hq8⟩ := hQ8
  have N8 := Fr.app N5 N8q
  have pre9 : Go p e bl T8 (mkF m 11 #[rv a1, .unset, .unset] [(.int (0 : Int32))]) s1 EF := fun t k => pre7 t (st8.trans k)
  have e8 : T8.heap = h2 := hq8
  have pre10 : Go p e bl T8 (mkF m 24 #[rv a1, .unset, .unset] []) s1 EF := fun t k => pre9 t (XS.ifYes X8.here hx rfl (pc0 := 11) (pc' := 24) rfl (B d20_11) rfl ((if0 _ _).trans (teq (by decide : (0 : Int32) = (0 : Int32))).1) (by decide) (by decide) k)
  have pre11 : Go p e bl T8 (mkF m 25 #[rv a1, .unset, .unset] [(.ref a1)]) s1 EF := fun t k => pre10 t (by
   exact XS.aloadN X8.here hx rfl (B d20_24) rfl rfl k)
  obtain ⟨cq12, kq12, q12a, q12b, q12c⟩ := isOf hZ2 e8 (SL.1.ext Et2)
  obtain ⟨_, _, ⟨T12, L12, k12, n12⟩, -, X12, ⟨Lc12, hQ12, l12, y12, z12⟩, st12⟩ := X8.virtualBack hx (y := mN1) (z := mN1) hown2 (mvT hZ2 (hw _ (mW 54 rfl))) (mvT hZ2 (hw _ (mW 55 rfl))) (notFace_of_selects (args := #[]) (mvT hZ2 (hw _ (mW 57 rfl)))) (mvT hZ2 (hw _ (mW 57 rfl))) (mvT hZ2 (hw _ (mW 56 rfl))) (by decide) (backOf (W := 0) (rmJle l Z a0 hw [] a1 cz fv (0 : Int32) b k (3 : Int32) (BV [u0, u1, u2]) (3 : Int32) h2 n0 Z4 O4 J0 (SL.ext Et2).1 (SL.ext Et2).2.1 (SL.ext Et2).2.2.1 (SL.ext Et2).2.2.2.1 rfl (own_shr0 rfl)) hZ2 (hw _ (mW 58 rfl)) (hw _ (mW 10 rfl)) (by decide) (by decide)) q12a q12c (g := (mkF m 25 #[rv a1, .unset, .unset] [(.ref a1)])) rfl (hM rfl) (Steps.refl _) (argsL := []) (rest := []) (lenOf pd12 rfl) rfl (Nat.le_of_eq rfl) (B d20_25) (fun _ _ => ⟨rfl, e8, wl rfl, wl rfl⟩)
  dsimp only [Pt.U, Pt.locs, Pt.cells, Pt.slots] at X12 l12 y12 z12 st12 hQ12
  subst l12 y12 z12
  obtain ⟨rfl, N12q, hq12⟩ := hQ12
  have N12 := Fr.app N8 N12q
  have pre13 : Go p e bl T12 (mkF m 28 #[rv a1, .unset, .unset] [(.int (3 : Int32))]) s1 EF := fun t k => pre11 t (st12.trans k)
  have e12 : T12.heap = h2 := hq12
  have pre14 : Go p e bl T12 (mkF m 30 #[rv a1, .unset, .unset] [(.int (100 : Int32)), (.int (3 : Int32))]) s1 EF := fun t k => pre13 t (by
   exact XS.bipush X12.here hx rfl (B d20_28) k)
  have pre15 : Go p e bl T12 (mkF m 57 #[rv a1, .unset, .unset] []) s1 EF := fun t k => pre14 t (XS.icmpYes X12.here hx rfl (pc0 := 30) (pc' := 57) rfl (B d20_30) rfl (flt (by decide : ¬ ((100 : Int32) < (3 : Int32)))).2.2.2 (by decide) (by decide) k)
  have pre16 : Go p e bl T12 (mkF m 61 #[rv a1, iv (0 : Int32), .unset] [(.ref a1), (.int (0 : Int32))]) s1 EF := fun t k => pre15 t (by
   refine XS.iconst X12.here hx rfl (B d20_57) ?_
   refine XS.istoreN X12.here hx rfl (B d20_58) rfl (l' := #[rv a1, iv (0 : Int32), .unset]) rfl ?_
   refine XS.iloadN X12.here hx rfl (B d20_59) rfl ?_
   exact XS.aloadN X12.here hx rfl (B d20_60) rfl rfl k)
  obtain ⟨cq17, kq17, q17a, q17b, q17c⟩ := isOf hZ2 e12 (SL.1.ext Et2)
  obtain ⟨_, _, ⟨T17, L17, k17, n17⟩, -, X17, ⟨Lc17, hQ17, l17, y17, z17⟩, st17⟩ := X12.virtualBack hx (y := mN1) (z := mN1) hown2 (mvT hZ2 (hw _ (mW 54 rfl))) (mvT hZ2 (hw _ (mW 55 rfl))) (notFace_of_selects (args := #[]) (mvT hZ2 (hw _ (mW 57 rfl)))) (mvT hZ2 (hw _ (mW 57 rfl))) (mvT hZ2 (hw _ (mW 56 rfl))) (by decide) (backOf (W := 1) (rmJle l Z a0 hw [] a1 cz fv (0 : Int32) b k (3 : Int32) (BV [u0, u1, u2]) (3 : Int32) h2 n0 Z4 O4 J0 (SL.ext Et2).1 (SL.ext Et2).2.1 (SL.ext Et2).2.2.1 (SL.ext Et2).2.2.2.1 rfl (own_shr0 rfl)) hZ2 (hw _ (mW 58 rfl)) (hw _ (mW 10 rfl)) (by decide) (by decide)) q17a q17c (g := (mkF m 61 #[rv a1, iv (0 : Int32), .unset] [(.ref a1), (.int (0 : Int32))])) rfl (hM rfl) (Steps.refl _) (argsL := []) (rest := [(.int (0 : Int32))]) (lenOf pd12 rfl) rfl (Nat.le_of_eq rfl) (B d20_61) (fun _ _ => ⟨rfl, e12, wl rfl, wl rfl⟩)
  dsimp only [Pt.U, Pt.locs, Pt.cells, Pt.slots] at X17 l17 y17 z17 st17 hQ17
  subst l17 y17 z17
  obtain ⟨rfl, N17q, hq17⟩ := hQ17
  have N17 := Fr.app N12 N17q
  have pre18 : Go p e bl T17 (mkF m 64 #[rv a1, iv (0 : Int32), .unset] [(.int (3 : Int32)), (.int (0 : Int32))]) s1 EF := fun t k => pre16 t (st17.trans k)
  have e17 : T17.heap = h2 := hq17
  have pre19 : Go p e bl T17 (mkF m 67 #[rv a1, iv (0 : Int32), .unset] []) s1 EF := fun t k => pre18 t (XS.icmpNo X17.here hx rfl (B d20_64) rfl (tlt (by decide : (0 : Int32) < (3 : Int32))).2.1 k)
  have pre20 : Go p e bl T17 (mkF m 69 #[rv a1, iv (0 : Int32), .unset] [(.int (0 : Int32)), (.ref a1)]) s1 EF := fun t k => pre19 t (by
   refine XS.aloadN X17.here hx rfl (B d20_67) rfl rfl ?_
   exact XS.iloadN X17.here hx rfl (B d20_68) rfl k)
  obtain ⟨cq21, kq21, q21a, q21b, q21c⟩ := isOf hZ2 e17 (SL.1.ext Et2)
  obtain ⟨_, _, ⟨T21, L21, k21, n21⟩, -, X21, ⟨Lc21, hQ21, l21, y21, z21⟩, st21⟩ := X17.virtualBack hx (y := mN6) (z := mN6) hown2 (mvT hZ2 (hw _ (mW 64 rfl))) (mvT hZ2 (hw _ (mW 65 rfl))) (notFace_of_selects (args := #[]) (mvT hZ2 (hw _ (mW 67 rfl)))) (mvT hZ2 (hw _ (mW 67 rfl))) (mvT hZ2 (hw _ (mW 66 rfl))) (by decide) (backOf (W := 0) (rmJcl l Z a0 hw [] a1 (0 : Int32) cz fv b k (3 : Int32) (BV [u0, u1, u2]) u0 (u0 &&& (255 : Int32)) h2 n0 Z4 O4 J0 (SL.ext Et2).1 (SL.ext Et2).2.1 (SL.ext Et2).2.2.1 (SL.ext Et2).2.2.2.1 (by decide) (by decide) rfl rfl (own_nm u0)) hZ2 (hw _ (mW 68 rfl)) (hw _ (mW 10 rfl)) (by decide) (by decide)) q21a q21c (g := (mkF m 69 #[rv a1, iv (0 : Int32), .unset] [(.int (0 : Int32)), (.ref a1)])) rfl (hM rfl) (Steps.refl _) (argsL := [(.int (0 : Int32))]) (rest := []) (lenOf pd13 rfl) rfl (Nat.le_of_eq rfl) (B d20_69) (fun _ _ => ⟨rfl, e17, wl rfl, wl rfl⟩)
  dsimp only [Pt.U, Pt.locs, Pt.cells, Pt.slots] at X21 l21 y21 z21 st21 hQ21
  subst l21 y21 z21
  obtain ⟨rfl, N21q, hq21⟩ := hQ21
  have N21 := Fr.app N17 N21q
  have pre22 : Go p e bl T21 (mkF m 72 #[rv a1, iv (0 : Int32), .unset] [(.int (u0 &&& (255 : Int32)))]) s1 EF := fun t k => pre20 t (st21.trans k)
  have e21 : T21.heap = h2 := hq21
  obtain ⟨_, _, ⟨T23, L23, k23, n23⟩, -, X23, ⟨Lc23, hQ23, l23, y23, z23⟩, st23⟩ := Jvm.LawKit.callS X21 hx (y := mN16) hown2 (mvT hZ2 (hw _ (mW 86 rfl))) (mvT hZ2 (hw _ (mW 87 rfl))) (mvT hZ2 (hw _ (mW 40 rfl))) (mvT hZ2 (hw _ (mW 88 rfl))) (by decide) (backOf (W := 0) (rmI l Z a0 hw [] (u0 &&& (255 : Int32)) (1 : Int32) h2 n0 Z4 (hok u0 (List.mem_of_getElem? (i := 0) rfl))) hZ2 (hw _ (mW 88 rfl)) (hw _ (mW 40 rfl)) (by decide) (by decide)) (g := (mkF m 72 #[rv a1, iv (0 : Int32), .unset] [(.int (u0 &&& (255 : Int32)))])) rfl (hM rfl) (argsL := [(.int (u0 &&& (255 : Int32)))]) (rest := []) (lenOf pd14 rfl) rfl (Nat.le_of_eq rfl) (B d20_72) (fun _ _ => ⟨rfl, e21, wl rfl, wl rfl⟩)
  dsimp only [Pt.U, Pt.locs, Pt.cells, Pt.slots] at X23 l23 y23 z23 st23 hQ23
  subst l23 y23 z23
  obtain ⟨rfl, N23q, hq23⟩ := hQ23
  have N23 := Fr.app N21 N23q
  have pre24 : Go p e bl T23 (mkF m 75 #[rv a1, iv (0 : Int32), .unset] [(.int (1 : Int32))]) s1 EF := fun t k => pre22 t (st23 t k)
  have e23 : T23.heap = h2 := hq23
  have pre25 : Go p e bl T23 (mkF m 119 #[rv a1, iv (0 : Int32), .unset] []) s1 EF := fun t k => pre24 t (XS.ifYes X23.here hx rfl (pc0 := 75) (pc' := 119) rfl (B d20_75) rfl ((if0 _ _).trans (feq (by decide : ¬ ((1 : Int32) = (0 : Int32)))).2) (by decide) (by decide) k)
  have pre26 : Go p e bl T23 (mkF m 61 #[rv a1, iv (1 : Int32), .unset] [(.ref a1), (.int (1 : Int32))]) s1 EF := fun t k => pre25 t (by
   refine XS.iinc X23.here hx rfl (B d20_119) rfl (l' := #[rv a1, iv (1 : Int32), .unset]) rfl ?_
   refine XS.goto X23.here hx rfl (pc0 := 122) (pc' := 59) rfl (B d20_122) (by decide) (by decide) ?_
   refine XS.iloadN X23.here hx rfl (B d20_59) rfl ?_
   exact XS.aloadN X23.here hx rfl (B d20_60) rfl rfl k)
  obtain ⟨cq27, kq27, q27a, q27b, q27c⟩ := isOf hZ2 e23 (SL.1.ext Et2)
  obtain ⟨_, _, ⟨T27, L27, k27, n27⟩, -, X27, ⟨Lc27, hQ27, l27, y27, z27⟩, st27⟩ := X23.virtualBack hx (y := mN1) (z := mN1) hown2 (mvT hZ2 (hw _ (mW 54 rfl))) (mvT hZ2 (hw _ (mW 55 rfl))) (notFace_of_selects (args := #[]) (mvT hZ2 (hw _ (mW 57 rfl)))) (mvT hZ2 (hw _ (mW 57 rfl))) (mvT hZ2 (hw _ (mW 56 rfl))) (by decide) (backOf (W := 1) (rmJle l Z a0 hw [] a1 cz fv (0 : Int32) b k (3 : Int32) (BV [u0, u1, u2]) (3 : Int32) h2 n0 Z4 O4 J0 (SL.ext Et2).1 (SL.ext Et2).2.1 (SL.ext Et2).2.2.1 (SL.ext Et2).2.2.2.1 rfl (own_shr0 rfl)) hZ2 (hw _ (mW 58 rfl)) (hw _ (mW 10 rfl)) (by decide) (by decide)) q27a q27c (g := (mkF m 61 #[rv a1, iv (1 : Int32), .unset] [(.ref a1), (.int (1 : Int32))])) rfl (hM rfl) (Steps.refl _) (argsL := []) (rest := [(.int (1 : Int32))]) (lenOf pd12 rfl) rfl (Nat.le_of_eq rfl) (B d20_61) (fun _ _ => ⟨rfl, e23, wl rfl, wl rfl⟩)
  dsimp only [Pt.U, Pt.locs, Pt.cells, Pt.slots] at X27 l27 y27 z27 st27 hQ27
  subst l27 y27 z27
  obtain ⟨rfl, N27q, hq27⟩ := hQ27
  have N27 := Fr.app N23 N27q
  have pre28 : Go p e bl T27 (mkF m 64 #[rv a1, iv (1 : Int32), .unset] [(.int (3 : Int32)), (.int (1 : Int32))]) s1 EF := fun t k => pre26 t (st27.trans k)
  have e27 : T27.heap = h2 := hq27
  have pre29 : Go p e bl T27 (mkF m 67 #[rv a1, iv (1 : Int32), .unset] []) s1 EF := fun t k => pre28 t (XS.icmpNo X27.here hx rfl (B d20_64) rfl (tlt (by decide : (1 : Int32) < (3 : Int32))).2.1 k)
  have pre30 : Go p e bl T27 (mkF m 69 #[rv a1, iv (1 : Int32), .unset] [(.int (1 : Int32)), (.ref a1)]) s1 EF := fun t k => pre29 t (by
   refine XS.aloadN X27.here hx rfl (B d20_67) rfl rfl ?_
   exact XS.iloadN X27.here hx rfl (B d20_68) rfl k)
  obtain ⟨cq31, kq31, q31a, q31b, q31c⟩ := isOf hZ2 e27 (SL.1.ext Et2)
  obtain ⟨_, _, ⟨T31, L31, k31, n31⟩, -, X31, ⟨Lc31, hQ31, l31, y31, z31⟩, st31⟩ := X27.virtualBack hx (y := mN6) (z := mN6) hown2 (mvT hZ2 (hw _ (mW 64 rfl))) (mvT hZ2 (hw _ (mW 65 rfl))) (notFace_of_selects (args := #[]) (mvT hZ2 (hw _ (mW 67 rfl)))) (mvT hZ2 (hw _ (mW 67 rfl))) (mvT hZ2 (hw _ (mW 66 rfl))) (by decide) (backOf (W := 0) (rmJcl l Z a0 hw [] a1 (1 : Int32) cz fv b k (3 : Int32) (BV [u0, u1, u2]) u1 (u1 &&& (255 : Int32)) h2 n0 Z4 O4 J0 (SL.ext Et2).1 (SL.ext Et2).2.1 (SL.ext Et2).2.2.1 (SL.ext Et2).2.2.2.1 (by decide) (by decide) rfl rfl (own_nm u1)) hZ2 (hw _ (mW 68 rfl)) (hw _ (mW 10 rfl)) (by decide) (by decide)) q31a q31c (g := (mkF m 69 #[rv a1, iv (1 : Int32), .unset] [(.int (1 : Int32)), (.ref a1)])) rfl (hM rfl) (Steps.refl _) (argsL := [(.int (1 : Int32))]) (rest := []) (lenOf pd13 rfl) rfl (Nat.le_of_eq rfl) (B d20_69) (fun _ _ => ⟨rfl, e27, wl rfl, wl rfl⟩)
  dsimp only [Pt.U, Pt.locs, Pt.cells, Pt.slots] at X31 l31 y31 z31 st31 hQ31
  subst l31 y31 z31
  obtain ⟨rfl, N31q, hq31⟩ := hQ31
  have N31 := Fr.app N27 N31q
  have pre32 : Go p e bl T31 (mkF m 72 #[rv a1, iv (1 : Int32), .unset] [(.int (u1 &&& (255 : Int32)))]) s1 EF := fun t k => pre30 t (st31.trans k)
  have e31 : T31.heap = h2 := hq31
  obtain ⟨_, _, ⟨T33, L33, k33, n33⟩, -, X33, ⟨Lc33, hQ33, l33, y33, z33⟩, st33⟩ := Jvm.LawKit.callS X31 hx (y := mN16) hown2 (mvT hZ2 (hw _ (mW 86 rfl))) (mvT hZ2 (hw _ (mW 87 rfl))) (mvT hZ2 (hw _ (mW 40 rfl))) (mvT hZ2 (hw _ (mW 88 rfl))) (by decide) (backOf (W := 0) (rmI l Z a0 hw [] (u1 &&& (255 : Int32)) (1 : Int32) h2 n0 Z4 (hok u1 (List.mem_of_getElem? (i := 1) rfl))) hZ2 (hw _ (mW 88 rfl)) (hw _ (mW 40 rfl)) (by decide) (by decide)) (g := (mkF m 72 #[rv a1, iv (1 : Int32), .unset] [(.int (u1 &&& (255 : Int32)))])) rfl (hM rfl) (argsL := [(.int (u1 &&& (255 : Int32)))]) (rest := []) (lenOf pd14 rfl) rfl (Nat.le_of_eq rfl) (B d20_72) (fun _ _ => ⟨rfl, e31, wl rfl, wl rfl⟩)
  dsimp only [Pt.U, Pt.locs, Pt.cells, Pt.slots] at X33 l33 y33 z33 st33 hQ33
  subst l33 y33 z33
  obtain ⟨rfl, N33q, hq33⟩ := hQ33
  have N33 := Fr.app N31 N33q
  have pre34 : Go p e bl T33 (mkF m 75 #[rv a1, iv (1 : Int32), .unset] [(.int (1 : Int32))]) s1 EF := fun t k => pre32 t (st33 t k)
  have e33 : T33.heap = h2 := hq33
  have pre35 : Go p e bl T33 (mkF m 119 #[rv a1, iv (1 : Int32), .unset] []) s1 EF := fun t k => pre34 t (XS.ifYes X33.here hx rfl (pc0 := 75) (pc' := 119) rfl (B d20_75) rfl ((if0 _ _).trans (feq (by decide : ¬ ((1 : Int32) = (0 : Int32)))).2) (by decide) (by decide) k)
  have pre36 : Go p e bl T33 (mkF m 61 #[rv a1, iv (2 : Int32), .unset] [(.ref a1), (.int (2 : Int32))]) s1 EF := fun t k => pre35 t (by
   refine XS.iinc X33.here hx rfl (B d20_119) rfl (l' := #[rv a1, iv (2 : Int32), .unset]) rfl ?_
   refine XS.goto X33.here hx rfl (pc0 := 122) (pc' := 59) rfl (B d20_122) (by decide) (by decide) ?_
   refine XS.iloadN X33.here hx rfl (B d20_59) rfl ?_
   exact XS.aloadN X33.here hx rfl (B d20_60) rfl rfl k)
  obtain ⟨cq37, kq37, q37a, q37b, q37c⟩ := isOf hZ2 e33 (SL.1.ext Et2)
  obtain ⟨_, _, ⟨T37, L37, k37, n37⟩, -, X37, ⟨Lc37, hQ37, l37, y37, z37⟩, st37⟩ := X33.virtualBack hx (y := mN1) (z := mN1) hown2 (mvT hZ2 (hw _ (mW 54 rfl))) (mvT hZ2 (hw _ (mW 55 rfl))) (notFace_of_selects (args := #[]) (mvT hZ2 (hw _ (mW 57 rfl)))) (mvT hZ2 (hw _ (mW 57 rfl))) (mvT hZ2 (hw _ (mW 56 rfl))) (by decide) (backOf (W := 1) (rmJle l Z a0 hw [] a1 cz fv (0 : Int32) b k (3 : Int32) (BV [u0, u1, u2]) (3 : Int32) h2 n0 Z4 O4 J0 (SL.ext Et2).1 (SL.ext Et2).2.1 (SL.ext Et2).2.2.1 (SL.ext Et2).2.2.2.1 rfl (own_shr0 rfl)) hZ2 (hw _ (mW 58 rfl)) (hw _ (mW 10 rfl)) (by decide) (by decide)) q37a q37c (g := (mkF m 61 #[rv a1, iv (2 : Int32), .unset] [(.ref a1), (.int (2 : Int32))])) rfl (hM rfl) (Steps.refl _) (argsL := []) (rest := [(.int (2 : Int32))]) (lenOf pd12 rfl) rfl (Nat.le_of_eq rfl) (B d20_61) (fun _ _ => ⟨rfl, e33, wl rfl, wl rfl⟩)
  dsimp only [Pt.U, Pt.locs, Pt.cells, Pt.slots] at X37 l37 y37 z37 st37 hQ37
  subst l37 y37 z37
  obtain ⟨rfl, N37q, hq37⟩ := hQ37
  have N37 := Fr.app N33 N37q
  have pre38 : Go p e bl T37 (mkF m 64 #[rv a1, iv (2 : Int32), .unset] [(.int (3 : Int32)), (.int (2 : Int32))]) s1 EF := fun t k => pre36 t (st37.trans k)
  have e37 : T37.heap = h2 := hq37
  have pre39 : Go p e bl T37 (mkF m 67 #[rv a1, iv (2 : Int32), .unset] []) s1 EF := fun t k => pre38 t (XS.icmpNo X37.here hx rfl (B d20_64) rfl (tlt (by decide : (2 : Int32) < (3 : Int32))).2.1 k)
  have pre40 : Go p e bl T37 (mkF m 69 #[rv a1, iv (2 : Int32), .unset] [(.int (2 : Int32)), (.ref a1)]) s1 EF := fun t k => pre39 t (by
   refine XS.aloadN X37.here hx rfl (B d20_67) rfl rfl ?_
   exact XS.iloadN X37.here hx rfl (B d20_68) rfl k)
  obtain ⟨cq41, kq41, q41a, q41b, q41c⟩ := isOf hZ2 e37 (SL.1.ext Et2)
  obtain ⟨_, _, ⟨T41, L41, k41, n41⟩, -, X41, ⟨Lc41, hQ41, l41, y41, z41⟩, st41⟩ := X37.virtualBack hx (y := mN6) (z := mN6) hown2 (mvT hZ2 (hw _ (mW 64 rfl))) (mvT hZ2 (hw _ (mW 65 rfl))) (notFace_of_selects (args := #[]) (mvT hZ2 (hw _ (mW 67 rfl)))) (mvT hZ2 (hw _ (mW 67 rfl))) (mvT hZ2 (hw _ (mW 66 rfl))) (by decide) (backOf (W := 0) (rmJcl l Z a0 hw [] a1 (2 : Int32) cz fv b k (3 : Int32) (BV [u0, u1, u2]) u2 (u2 &&& (255 : Int32)) h2 n0 Z4 O4 J0 (SL.ext Et2).1 (SL.ext Et2).2.1 (SL.ext Et2).2.2.1 (SL.ext Et2).2.2.2.1 (by decide) (by decide) rfl rfl (own_nm u2)) hZ2 (hw _ (mW 68 rfl)) (hw _ (mW 10 rfl)) (by decide) (by decide)) q41a q41c (g := (mkF m 69 #[rv a1, iv (2 : Int32), .unset] [(.int (2 : Int32)), (.ref a1)])) rfl (hM rfl) (Steps.refl _) (argsL := [(.int (2 : Int32))]) (rest := []) (lenOf pd13 rfl) rfl (Nat.le_of_eq rfl) (B d20_69) (fun _ _ => ⟨rfl, e37, wl rfl, wl rfl⟩)
  dsimp only [Pt.U, Pt.locs, Pt.cells, Pt.slots] at X41 l41 y41 z41 st41 hQ41
  subst l41 y41 z41
  obtain ⟨rfl, N41q, hq41⟩ := hQ41
  have N41 := Fr.app N37 N41q
  have pre42 : Go p e bl T41 (mkF m 72 #[rv a1, iv (2 : Int32), .unset] [(.int (u2 &&& (255 : Int32)))]) s1 EF := fun t k => pre40 t (st41.trans k)
  have e41 : T41.heap = h2 := hq41
  obtain ⟨_, _, ⟨T43, L43, k43, n43⟩, -, X43, ⟨Lc43, hQ43, l43, y43, z43⟩, st43⟩ := Jvm.LawKit.callS X41 hx (y := mN16) hown2 (mvT hZ2 (hw _ (mW 86 rfl))) (mvT hZ2 (hw _ (mW 87 rfl))) (mvT hZ2 (hw _ (mW 40 rfl))) (mvT hZ2 (hw _ (mW 88 rfl))) (by decide) (backOf (W := 0) (rmI l Z a0 hw [] (u2 &&& (255 : Int32)) (1 : Int32) h2 n0 Z4 (hok u2 (List.mem_of_getElem? (i := 2) rfl))) hZ2 (hw _ (mW 88 rfl)) (hw _ (mW 40 rfl)) (by decide) (by decide)) (g := (mkF m 72 #[rv a1, iv (2 : Int32), .unset] [(.int (u2 &&& (255 : Int32)))])) rfl (hM rfl) (argsL := [(.int (u2 &&& (255 : Int32)))]) (rest := []) (lenOf pd14 rfl) rfl (Nat.le_of_eq rfl) (B d20_72) (fun _ _ => ⟨rfl, e41, wl rfl, wl rfl⟩)
  dsimp only [Pt.U, Pt.locs, Pt.cells, Pt.slots] at X43 l43 y43 z43 st43 hQ43
  subst l43 y43 z43
  obtain ⟨rfl, N43q, hq43⟩ := hQ43
  have N43 := Fr.app N41 N43q
  have pre44 : Go p e bl T43 (mkF m 75 #[rv a1, iv (2 : Int32), .unset] [(.int (1 : Int32))]) s1 EF := fun t k => pre42 t (st43 t k)
  have e43 : T43.heap = h2 := hq43
  have pre45 : Go p e bl T43 (mkF m 119 #[rv a1, iv (2 : Int32), .unset] []) s1 EF := fun t k => pre44 t (XS.ifYes X43.here hx rfl (pc0 := 75) (pc' := 119) rfl (B d20_75) rfl ((if0 _ _).trans (feq (by decide : ¬ ((1 : Int32) = (0 : Int32)))).2) (by decide) (by decide) k)
  have pre46 : Go p e bl T43 (mkF m 61 #[rv a1, iv (3 : Int32), .unset] [(.ref a1), (.int (3 : Int32))]) s1 EF := fun t k => pre45 t (by
   refine XS.iinc X43.here hx rfl (B d20_119) rfl (l' := #[rv a1, iv (3 : Int32), .unset]) rfl ?_
   refine XS.goto X43.here hx rfl (pc0 := 122) (pc' := 59) rfl (B d20_122) (by decide) (by decide) ?_
   refine XS.iloadN X43.here hx rfl (B d20_59) rfl ?_
   exact XS.aloadN X43.here hx rfl (B d20_60) rfl rfl k)
  obtain ⟨cq47, kq47, q47a, q47b, q47c⟩ := isOf hZ2 e43 (SL.1.ext Et2)
  obtain ⟨_, _, ⟨T47, L47, k47, n47⟩, -, X47, ⟨Lc47, hQ47, l47, y47, z47⟩, st47⟩ := X43.virtualBack hx (y := mN1) (z := mN1) hown2 (mvT hZ2 (hw _ (mW 54 rfl))) (mvT hZ2 (hw _ (mW 55 rfl))) (notFace_of_selects (args := #[]) (mvT hZ2 (hw _ (mW 57 rfl)))) (mvT hZ2 (hw _ (mW 57 rfl))) (mvT hZ2 (hw _ (mW 56 rfl))) (by decide) (backOf (W := 1) (rmJle l Z a0 hw [] a1 cz fv (0 : Int32) b k (3 : Int32) (BV [u0, u1, u2]) (3 : Int32) h2 n0 Z4 O4 J0 (SL.ext Et2).1 (SL.ext Et2).2.1 (SL.ext Et2).2.2.1 (SL.ext Et2).2.2.2.1 rfl (own_shr0 rfl)) hZ2 (hw _ (mW 58 rfl)) (hw _ (mW 10 rfl)) (by decide) (by decide)) q47a q47c (g := (mkF m 61 #[rv a1, iv (3 : Int32), .unset] [(.ref a1), (.int (3 : Int32))])) rfl (hM rfl) (Steps.refl _) (argsL := []) (rest := [(.int (3 : Int32))]) (lenOf pd12 rfl) rfl (Nat.le_of_eq rfl) (B d20_61) (fun _ _ => ⟨rfl, e43, wl rfl, wl rfl⟩)
  dsimp only [Pt.U, Pt.locs, Pt.cells, Pt.slots] at X47 l47 y47 z47 st47 hQ47
  subst l47 y47 z47
  obtain ⟨rfl, N47q, hq47⟩ := hQ47
  have N47 := Fr.app N43 N47q
  have pre48 : Go p e bl T47 (mkF m 64 #[rv a1, iv (3 : Int32), .unset] [(.int (3 : Int32)), (.int (3 : Int32))]) s1 EF := fun t k => pre46 t (st47.trans k)
  have e47 : T47.heap = h2 := hq47
  have pre49 : Go p e bl T47 (mkF m 125 #[rv a1, iv (3 : Int32), .unset] []) s1 EF := fun t k => pre48 t (XS.icmpYes X47.here hx rfl (pc0 := 64) (pc' := 125) rfl (B d20_64) rfl (flt (by decide : ¬ ((3 : Int32) < (3 : Int32)))).2.1 (by decide) (by decide) k)
  obtain ⟨T50, h50, X50, e50, Et50, A50, D50, U50, st50⟩ := newO X47 hx hZ2 hown2 (hw _ (mW 89 rfl)) (hw _ (mW 90 rfl)) (hw _ (mW 40 rfl)) e47 (g := (mkF m 125 #[rv a1, iv (3 : Int32), .unset] [])) rfl (B d20_125) (by decide) (by decide)
  obtain ⟨b50, g50⟩ : ∃ z, z = h2.size := ⟨_, rfl⟩
  rw [← g50] at A50 st50 D50
  have g_b50 : n0 ≤ b50 := Nat.le_trans Z4 (Nat.le_of_eq g50.symm)
  have sz_b50 : h0.size ≤ b50 := Nat.le_trans K4.1 (Nat.le_of_eq g50.symm)
  have pre51 : Go p e bl T50 (mkF m 128 #[rv a1, iv (3 : Int32), .unset] [(.ref b50)]) s1 EF := fun t k => pre49 t (st50 t k)
  have O52 : Old Z n0 h50 := O4.ext Et50
  have Z52 : n0 ≤ h50.size := Nat.le_trans Z4 Et50.1
  have hk52 := Nat.le_trans hk2 Et50.1
  have K52 : Keep h0 h50 [] := K4.ext Et50
  have F_name_b50 : Fld Z h50 b50 "com/example/minuterie/minuterie/TimerName" "name" "Ljava/lang/String;" .null := D50 (Or.inr (hw _ (mW 96 rfl))) (ty := (.object "java/lang/String")) (by decide)
  have pre53 : Go p e bl T50 (mkF m 130 #[rv a1, iv (3 : Int32), .unset] [(.ref a1), (.ref b50), (.ref b50)]) s1 EF := fun t k => pre51 t (by
   refine XS.dup X50.here hx rfl (B d20_128) rfl rfl ?_
   exact XS.aloadN X50.here hx rfl (B d20_129) rfl rfl k)
  obtain ⟨_, _, ⟨T54, L54, k54, n54⟩, -, X54, ⟨Lc54, hQ54, l54, y54, z54⟩, st54⟩ := X50.specialBack hx (y := mN19) rfl hown2 (mvT hZ2 (hw _ (mW 91 rfl))) (mvT hZ2 (hw _ (mW 92 rfl))) (mvT hZ2 (hw _ (mW 93 rfl))) (by decide) (backOf (W := 1) (rmC l Z a0 hw [] b50 a1 cz fv  h50 n0 Z52 O52 J0 A50 g_b50 F_name_b50) hZ2 (hw _ (mW 93 rfl)) (hw _ (mW 40 rfl)) (by decide) (by decide)) (g := (mkF m 130 #[rv a1, iv (3 : Int32), .unset] [(.ref a1), (.ref b50), (.ref b50)])) rfl (hM rfl) (Steps.refl _) (a := b50) (argsL := [(.ref a1)]) (rest := [(.ref b50)]) (lenOf pd15 rfl) rfl (Nat.le_of_eq rfl) (B d20_130) (fun _ _ => ⟨rfl, e50, wl rfl, wl rfl⟩)
  dsimp only [Pt.U, Pt.locs, Pt.cells, Pt.slots] at X54 l54 y54 z54 st54 hQ54
  subst l54 y54 z54
  obtain ⟨rfl, N54q, K54, EC54, FC54⟩ := hQ54
  have N54 := Fr.app N47 N54q
  have pre55 : Go p e bl T54 (mkF m 133 #[rv a1, iv (3 : Int32), .unset] [(.ref b50)]) s1 EF := fun t k => pre53 t (st54.trans k)
  have O56 : Old Z n0 T54.heap := O52.keep K54 (allS g_b50 all0)
  have Z56 : n0 ≤ T54.heap.size := Nat.le_trans Z52 K54.1
  have hk56 := Nat.le_trans hk52 K54.1
  have K56 : Keep h0 T54.heap [] := K52.trans K54 (allS (Or.inr sz_b50) all0)
  obtain ⟨fs, hr, hrun, hended, hend1, hend2, hend3, hsame⟩ := X54.leaveW hS2 hk56 (v := some (.ref b50)) (fun h => by rw [Bd.returns] at h; cases h)
  refine ⟨_, _, hEF ▸ pre55 _ (retOut X54 hx Bd.returns rfl (Or.inr (Or.inr (Or.inr (Or.inr ⟨rfl, rfl, rfl⟩)))) (B d20_133) hr), hrun, hended, _, _, rfl, ?_, hend1, hend2, hend3, hsame.mono (by decide) (by decide)⟩
  show QO3 Z a1 cz fv b k u0 u1 u2 hs hz h0 n0 _ T54.heap _
  exact ⟨_, rfl, N54, K56, sz_b50, EC54, FC54⟩
abbrev rKO4 : Room := { frames := 4, cells := 3, slots := 45, locals := 53 }
theorem efO4 (m : MethodId) (a1 : Addr) : entryFrame m #[(.ref a1)] 3 = mkF m 0 #[rv a1, .unset, .unset] [] := by first | (simp [entryFrame, mkF, argsToLocals, Value.category]; done) | rfl
def QO4 (Z : State) (a1 : Addr) (cz : Int32) (fv : Value) (b : Addr) (k : ClassId) (u0 : Int32) (u1 : Int32) (u2 : Int32) (u3 : Int32) (hs : Int32) (hz : Int32) (h0 : Heap) (n0 : Nat) (v : Option Value) (h : Heap) (L : List Loc) : Prop := ∃ o, v = some (.ref o) ∧ Fr n0 L ∧ Keep h0 h [] ∧ h0.size ≤ o ∧ Exa Z h o "com/example/minuterie/minuterie/TimerName" ∧ Fld Z h o "com/example/minuterie/minuterie/TimerName" "name" "Ljava/lang/String;" (.ref a1)
set_option maxRecDepth 65536 in
set_option maxHeartbeats 40000000 in
theorem rmO4 (l : Launch) (Z : State) (a0 : Array Value) (hw : HW a0 Z) (ws : List Jvm.Cond) (a1 : Addr) (cz : Int32) (fv : Value) (b : Addr) (k : ClassId) (u0 : Int32) (u1 : Int32) (u2 : Int32) (u3 : Int32) (hs : Int32) (hz : Int32) (h0 : Heap) (n0 : Nat) (Z0 : n0 ≤ h0.size) (O0 : Old Z n0 h0) (J0 : Jd Z cz fv) (SL : StL Z h0 a1 b k (4 : Int32) [u0, u1, u2, u3] hs hz) (hok : ∀ u ∈ [u0, u1, u2, u3], isaF (u &&& 255) = 1) :
    MetFree l mN20 (head1 (Jvm.Cond.code mN20 prog_28_method_2_code 3 (some (.object "com/example/minuterie/minuterie/TimerName")) :: ws) rKO4) (fun a U => a = #[(.ref a1)] ∧ Z.Warmed39 U.vm ∧ U.heap = h0) (fun _ _ _ _ _ => True) (fun _ U o U' => ∃ v L, o = .returned v ∧ QO4 Z a1 cz fv b k u0 u1 u2 u3 hs hz h0 n0 v U'.heap L ∧ ReturnedEndW U o U' L rKO4.cells rKO4.slots) := by
  refine MetFree.of_bodySF (plainFor_of_name pn5) hisR ?_
  intro p e s m args bl meth c s1 Bd hml0 hP hK
  obtain ⟨rfl, hZ, hh⟩ := hP
  have hx := Bd.exec
  have hby := Bd.bytes
  have B := @hb c _ hby
  have hM := fun {n : Nat} (h : n = 3) => h.trans hml0.symm
  have hown : s.vm.findClass "com/example/minuterie/minuterie/TimerName" = some m.cls := findClass_of_methodNamed Bd.named
  have X0 : Stand p l e rKO4 (s.setVm s.vm) m #[(.ref a1)] bl meth c s1 [] 0 0 := Stand.of_body Bd
  have e0 : s1.heap = h0 := by rw [← hh, Bd.state]; rfl
  have N0 := Fr.nil n0
  obtain ⟨EF, hEF⟩ : ∃ f, f = entryFrame m #[(.ref a1)] 3 := ⟨_, rfl⟩
  have pre0 : Go p e bl s1 (mkF m 0 #[rv a1, .unset, .unset] []) s1 EF := fun t k => by rw [hEF]; exact castTop (efO4 m a1) k
  have hZ0 : Z.Warmed39 (s.setVm s.vm).vm := hZ
  have hown0 : (s.setVm s.vm).vm.findClass "com/example/minuterie/minuterie/TimerName" = some m.cls := hown
  have hS0 : s.Since s.vm s.heap.size := (State.WarmedH.refl s).since _
  have hk0 : s.heap.size ≤ h0.size := by rw [← hh]; exact Nat.le_refl _
  have pre1 : Go p e bl s1 (mkF m 1 #[rv a1, .unset, .unset] [(.ref a1)]) s1 EF := fun t k => pre0 t (by
   exact XS.aloadN X0.here hx rfl (B d20_0) rfl rfl k)
  obtain ⟨a2, T2, h2, k2, X2, e2, Et2, hS2, hk2, hZ2, hown2, st2⟩ := ldcS X0 hx hZ0 hown0 (hw _ (mW 42 rfl)) (own_wS hw) e0 hS0 hk0 (g := (mkF m 1 #[rv a1, .unset, .unset] [(.ref a1)])) rfl (B d20_1) (n := 40) (by decide) (by decide) (by decide) (by decide)
  have pre3 : Go p e bl T2 (mkF m 3 #[rv a1, .unset, .unset] [(.ref a2), (.ref a1)]) s1 EF := fun t k => pre1 t (st2 t k)
  have O4 : Old Z n0 h2 := O0.ext Et2
  have Z4 : n0 ≤ h2.size := Nat.le_trans Z0 Et2.1
  have K4 : Keep h0 h2 [] := (Keep.refl h0 []).ext Et2
  obtain ⟨_, _, ⟨T5, L5, k5, n5⟩, -, X5, ⟨Lc5, hQ5, l5, y5, z5⟩, st5⟩ := Jvm.LawKit.callS X2 hx (y := mN17) hown2 (mvT hZ2 (hw _ (mW 45 rfl))) (mvT hZ2 (hw _ (mW 46 rfl))) (mvT hZ2 (hw _ (mW 47 rfl))) (mvT hZ2 (hw _ (mW 48 rfl))) (by decide) (backOf (W := 0) (rmN l Z a0 hw [] a1 a2 h2 n0 Z4) hZ2 (hw _ (mW 48 rfl)) (hw _ (mW 47 rfl)) (by decide) (by decide)) (g := (mkF m 3 #[rv a1, .unset, .unset] [(.ref a2), (.ref a1)])) rfl (hM rfl) (argsL := [(.ref a1), (.ref a2)]) (rest := []) (lenOf pd11 rfl) rfl (Nat.le_of_eq rfl) (B d20_3) (fun _ _ => ⟨rfl, e2, wl rfl, wl rfl⟩)
  dsimp only [Pt.U, Pt.locs, Pt.cells, Pt.slots] at X5 l5 y5 z5 st5 hQ5
  subst l5 y5 z5
  obtain ⟨rfl, N5q, hq5⟩ := hQ5
  have N5 := Fr.app N0 N5q
  have pre6 : Go p e bl T5 (mkF m 6 #[rv a1, .unset, .unset] [(.ref a1)]) s1 EF := fun t k => pre3 t (st5 t k)
  have e5 : T5.heap = h2 := hq5
  have pre7 : Go p e bl T5 (mkF m 8 #[rv a1, .unset, .unset] [(.ref a1)]) s1 EF := fun t k => pre6 t (by
   refine XS.pop X5.here hx rfl (B d20_6) rfl rfl ?_
   exact XS.aloadN X5.here hx rfl (B d20_7) rfl rfl k)
  obtain ⟨cq8, kq8, q8a, q8b, q8c⟩ := isOf hZ2 e5 (SL.1.ext Et2)
  obtain ⟨_, _, ⟨T8, L8, k8, n8⟩, -, X8, ⟨Lc8, hQ8, l8, y8, z8⟩, st8⟩ := X5.virtualBack hx (y := mN7) (z := mN7) hown2 (mvT hZ2 (hw _ (mW 49 rfl))) (mvT hZ2 (hw _ (mW 50 rfl))) (notFace_of_selects (args := #[]) (mvT hZ2 (hw _ (mW 52 rfl)))) (mvT hZ2 (hw _ (mW 52 rfl))) (mvT hZ2 (hw _ (mW 51 rfl))) (by decide) (backOf (W := 0) (rmJem l Z a0 hw [] a1 cz fv b k (4 : Int32) [u0, u1, u2, u3] hs hz h2 n0 Z4 O4 J0 (SL.ext Et2) (by decide)) hZ2 (hw _ (mW 53 rfl)) (hw _ (mW 10 rfl)) (by decide) (by decide)) q8a q8c (g := (mkF m 8 #[rv a1, .unset, .unset] [(.ref a1)])) rfl (hM rfl) (Steps.refl _) (argsL := []) (rest := []) (lenOf pd3 rfl) rfl (Nat.le_of_eq rfl) (B d20_8) (fun _ _ => ⟨rfl, e5, wl rfl, wl rfl⟩)
  dsimp only [Pt.U, Pt.locs, Pt.cells, Pt.slots] at X8 l8 y8 z8 st8 hQ8
  subst l8 y8 z8
  obtain ⟨rfl, N8q, hq8⟩ := hQ8
  have N8 := Fr.app N5 N8q
  have pre9 : Go p e bl T8 (mkF m 11 #[rv a1, .unset, .unset] [(.int (0 : Int32))]) s1 EF := fun t k => pre7 t (st8.trans k)
  have e8 : T8.heap = h2 := hq8
  have pre10 : Go p e bl T8 (mkF m 24 #[rv a1, .unset, .unset] []) s1 EF := fun t k => pre9 t (XS.ifYes X8.here hx rfl (pc0 := 11) (pc' := 24) rfl (B d20_11) rfl ((if0 _ _).trans (teq (by decide : (0 : Int32) = (0 : Int32))).1) (by decide) (by decide) k)
  have pre11 : Go p e bl T8 (mkF m 25 #[rv a1, .unset, .unset] [(.ref a1)]) s1 EF := fun t k => pre10 t (by
   exact XS.aloadN X8.here hx rfl (B d20_24) rfl rfl k)
  obtain ⟨cq12, kq12, q12a, q12b, q12c⟩ := isOf hZ2 e8 (SL.1.ext Et2)
  obtain ⟨_, _, ⟨T12, L12, k12, n12⟩, -, X12, ⟨Lc12, hQ12, l12, y12, z12⟩, st12⟩ := X8.virtualBack hx (y := mN1) (z := mN1) hown2 (mvT hZ2 (hw _ (mW 54 rfl))) (mvT hZ2 (hw _ (mW 55 rfl))) (notFace_of_selects (args := #[]) (mvT hZ2 (hw _ (mW 57 rfl)))) (mvT hZ2 (hw _ (mW 57 rfl))) (mvT hZ2 (hw _ (mW 56 rfl))) (by decide) (backOf (W := 0) (rmJle l Z a0 hw [] a1 cz fv (0 : Int32) b k (4 : Int32) (BV [u0, u1, u2, u3]) (4 : Int32) h2 n0 Z4 O4 J0 (SL.ext Et2).1 (SL.ext Et2).2.1 (SL.ext Et2).2.2.1 (SL.ext Et2).2.2.2.1 rfl (own_shr0 rfl)) hZ2 (hw _ (mW 58 rfl)) (hw _ (mW 10 rfl)) (by decide) (by decide)) q12a q12c (g := (mkF m 25 #[rv a1, .unset, .unset] [(.ref a1)])) rfl (hM rfl) (Steps.refl _) (argsL := []) (rest := []) (lenOf pd12 rfl) rfl (Nat.le_of_eq rfl) (B d20_25) (fun _ _ => ⟨rfl, e8, wl rfl, wl rfl⟩)
  dsimp only [Pt.U, Pt.locs, Pt.cells, Pt.slots] at X12 l12 y12 z12 st12 hQ12
  subst l12 y12 z12
  obtain ⟨rfl, N12q, hq12⟩ := hQ12
  have N12 := Fr.app N8 N12q
  have pre13 : Go p e bl T12 (mkF m 28 #[rv a1, .unset, .unset] [(.int (4 : Int32))]) s1 EF := fun t k => pre11 t (st12.trans k)
  have e12 : T12.heap = h2 := hq12
  have pre14 : Go p e bl T12 (mkF m 30 #[rv a1, .unset, .unset] [(.int (100 : Int32)), (.int (4 : Int32))]) s1 EF := fun t k => pre13 t (by
   exact XS.bipush X12.here hx rfl (B d20_28) k)
  have pre15 : Go p e bl T12 (mkF m 57 #[rv a1, .unset, .unset] []) s1 EF := fun t k => pre14 t (XS.icmpYes X12.here hx rfl (pc0 := 30) (pc' := 57) rfl (B d20_30) rfl (flt (by decide : ¬ ((100 : Int32) < (4 : Int32)))).2.2.2 (by decide) (by decide) k)
  have pre16 : Go p e bl T12 (mkF m 61 #[rv a1, iv (0 : Int32), .unset] [(.ref a1), (.int (0 : Int32))]) s1 EF := fun t k => pre15 t (by
   refine XS.iconst X12.here hx rfl (B d20_57) ?_
   refine XS.istoreN X12.here hx rfl (B d20_58) rfl (l' := #[rv a1, iv (0 : Int32), .unset]) rfl ?_
   refine XS.iloadN X12.here hx rfl (B d20_59) rfl ?_
   exact XS.aloadN X12.here hx rfl (B d20_60) rfl rfl k)
  obtain ⟨cq17, kq17, q17a, q17b, q17c⟩ := isOf hZ2 e12 (SL.1.ext Et2)
  obtain ⟨_, _, ⟨T17, L17, k17, n17⟩, -, X17, ⟨Lc17, hQ17, l17, y17, z17⟩, st17⟩ := X12.virtualBack hx (y := mN1) (z := mN1) hown2 (mvT hZ2 (hw _ (mW 54 rfl))) (mvT hZ2 (hw _ (mW 55 rfl))) (notFace_of_selects (args := #[]) (mvT hZ2 (hw _ (mW 57 rfl)))) (mvT hZ2 (hw _ (mW 57 rfl))) (mvT hZ2 (hw _ (mW 56 rfl))) (by decide) (backOf (W := 1) (rmJle l Z a0 hw [] a1 cz fv (0 : Int32) b k (4 : Int32) (BV [u0, u1, u2, u3]) (4 : Int32) h2 n0 Z4 O4 J0 (SL.ext Et2).1 (SL.ext Et2).2.1 (SL.ext Et2).2.2.1 (SL.ext Et2).2.2.2.1 rfl (own_shr0 rfl)) hZ2 (hw _ (mW 58 rfl)) (hw _ (mW 10 rfl)) (by decide) (by decide)) q17a q17c (g := (mkF m 61 #[rv a1, iv (0 : Int32), .unset] [(.ref a1), (.int (0 : Int32))])) rfl (hM rfl) (Steps.refl _) (argsL := []) (rest := [(.int (0 : Int32))]) (lenOf pd12 rfl) rfl (Nat.le_of_eq rfl) (B d20_61) (fun _ _ => ⟨rfl, e12, wl rfl, wl rfl⟩)
  dsimp only [Pt.U, Pt.locs, Pt.cells, Pt.slots] at X17 l17 y17 z17 st17 hQ17
  subst l17 y17 z17
  obtain ⟨rfl, N17q, hq17⟩ := hQ17
  have N17 := Fr.app N12 N17q
  have pre18 : Go p e bl T17 (mkF m 64 #[rv a1, iv (0 : Int32), .unset] [(.int (4 : Int32)), (.int (0 : Int32))]) s1 EF := fun t k => pre16 t (st17.trans k)
  have e17 : T17.heap = h2 := hq17
  have pre19 : Go p e bl T17 (mkF m 67 #[rv a1, iv (0 : Int32), .unset] []) s1 EF := fun t k => pre18 t (XS.icmpNo X17.here hx rfl (B d20_64) rfl (tlt (by decide : (0 : Int32) < (4 : Int32))).2.1 k)
  have pre20 : Go p e bl T17 (mkF m 69 #[rv a1, iv (0 : Int32), .unset] [(.int (0 : Int32)), (.ref a1)]) s1 EF := fun t k => pre19 t (by
   refine XS.aloadN X17.here hx rfl (B d20_67) rfl rfl ?_
   exact XS.iloadN X17.here hx rfl (B d20_68) rfl k)
  obtain ⟨cq21, kq21, q21a, q21b, q21c⟩ := isOf hZ2 e17 (SL.1.ext Et2)
  obtain ⟨_, _, ⟨T21, L21, k21, n21⟩, -, X21, ⟨Lc21, hQ21, l21, y21, z21⟩, st21⟩ := X17.virtualBack hx (y := mN6) (z := mN6) hown2 (mvT hZ2 (hw _ (mW 64 rfl))) (mvT hZ2 (hw _ (mW 65 rfl))) (notFace_of_selects (args := #[]) (mvT hZ2 (hw _ (mW 67 rfl)))) (mvT hZ2 (hw _ (mW 67 rfl))) (mvT hZ2 (hw _ (mW 66 rfl))) (by decide) (backOf (W := 0) (rmJcl l Z a0 hw [] a1 (0 : Int32) cz fv b k (4 : Int32) (BV [u0, u1, u2, u3]) u0 (u0 &&& (255 : Int32)) h2 n0 Z4 O4 J0 (SL.ext Et2).1 (SL.ext Et2).2.1 (SL.ext Et2).2.2.1 (SL.ext Et2).2.2.2.1 (by decide) (by decide) rfl rfl (own_nm u0)) hZ2 (hw _ (mW 68 rfl)) (hw _ (mW 10 rfl)) (by decide) (by decide)) q21a q21c (g := (mkF m 69 #[rv a1, iv (0 : Int32), .unset] [(.int (0 : Int32)), (.ref a1)])) rfl (hM rfl) (Steps.refl _) (argsL := [(.int (0 : Int32))]) (rest := []) (lenOf pd13 rfl) rfl (Nat.le_of_eq rfl) (B d20_69) (fun _ _ => ⟨rfl, e17, wl rfl, wl rfl⟩)
  dsimp only [Pt.U, Pt.locs, Pt.cells, Pt.slots] at X21 l21 y21 z21 st21 hQ21
  subst l21 y21 z21
  obtain ⟨rfl, N21q, hq21⟩ := hQ21
  have N21 := Fr.app N17 N21q
  have pre22 : Go p e bl T21 (mkF m 72 #[rv a1, iv (0 : Int32), .unset] [(.int (u0 &&& (255 : Int32)))]) s1 EF := fun t k => pre20 t (st21.trans k)
  have e21 : T21.heap = h2 := hq21
  obtain ⟨_, _, ⟨T23, L23, k23, n23⟩, -, X23, ⟨Lc23, hQ23, l23, y23, z23⟩, st23⟩ := Jvm.LawKit.callS X21 hx (y := mN16) hown2 (mvT hZ2 (hw _ (mW 86 rfl))) (mvT hZ2 (hw _ (mW 87 rfl))) (mvT hZ2 (hw _ (mW 40 rfl))) (mvT hZ2 (hw _ (mW 88 rfl))) (by decide) (backOf (W := 0) (rmI l Z a0 hw [] (u0 &&& (255 : Int32)) (1 : Int32) h2 n0 Z4 (hok u0 (List.mem_of_getElem? (i := 0) rfl))) hZ2 (hw _ (mW 88 rfl)) (hw _ (mW 40 rfl)) (by decide) (by decide)) (g := (mkF m 72 #[rv a1, iv (0 : Int32), .unset] [(.int (u0 &&& (255 : Int32)))])) rfl (hM rfl) (argsL := [(.int (u0 &&& (255 : Int32)))]) (rest := []) (lenOf pd14 rfl) rfl (Nat.le_of_eq rfl) (B d20_72) (fun _ _ => ⟨rfl, e21, wl rfl, wl rfl⟩)
  dsimp only [Pt.U, Pt.locs, Pt.cells, Pt.slots] at X23 l23 y23 z23 st23 hQ23
  subst l23 y23 z23
  obtain ⟨rfl, N23q, hq23⟩ := hQ23
  have N23 := Fr.app N21 N23q
  have pre24 : Go p e bl T23 (mkF m 75 #[rv a1, iv (0 : Int32), .unset] [(.int (1 : Int32))]) s1 EF := fun t k => pre22 t (st23 t k)
  have e23 : T23.heap = h2 := hq23
  have pre25 : Go p e bl T23 (mkF m 119 #[rv a1, iv (0 : Int32), .unset] []) s1 EF := fun t k => pre24 t (XS.ifYes X23.here hx rfl (pc0 := 75) (pc' := 119) rfl (B d20_75) rfl ((if0 _ _).trans (feq (by decide : ¬ ((1 : Int32) = (0 : Int32)))).2) (by decide) (by decide) k)
  have pre26 : Go p e bl T23 (mkF m 61 #[rv a1, iv (1 : Int32), .unset] [(.ref a1), (.int (1 : Int32))]) s1 EF := fun t k => pre25 t (by
   refine XS.iinc X23.here hx rfl (B d20_119) rfl (l' := #[rv a1, iv (1 : Int32), .unset]) rfl ?_
   refine XS.goto X23.here hx rfl (pc0 := 122) (pc' := 59) rfl (B d20_122) (by decide) (by decide) ?_
   refine XS.iloadN X23.here hx rfl (B d20_59) rfl ?_
   exact XS.aloadN X23.here hx rfl (B d20_60) rfl rfl k)
  obtain ⟨cq27, kq27, q27a, q27b, q27c⟩ := isOf hZ2 e23 (SL.1.ext Et2)
  obtain ⟨_, _, ⟨T27, L27, k27, n27⟩, -, X27, ⟨Lc27, hQ27, l27, y27, z27⟩, st27⟩ := X23.virtualBack hx (y := mN1) (z := mN1) hown2 (mvT hZ2 (hw _ (mW 54 rfl))) (mvT hZ2 (hw _ (mW 55 rfl))) (notFace_of_selects (args := #[]) (mvT hZ2 (hw _ (mW 57 rfl)))) (mvT hZ2 (hw _ (mW 57 rfl))) (mvT hZ2 (hw _ (mW 56 rfl))) (by decide) (backOf (W := 1) (rmJle l Z a0 hw [] a1 cz fv (0 : Int32) b k (4 : Int32) (BV [u0, u1, u2, u3]) (4 : Int32) h2 n0 Z4 O4 J0 (SL.ext Et2).1 (SL.ext Et2).2.1 (SL.ext Et2).2.2.1 (SL.ext Et2).2.2.2.1 rfl (own_shr0 rfl)) hZ2 (hw _ (mW 58 rfl)) (hw _ (mW 10 rfl)) (by decide) (by decide)) q27a q27c (g := (mkF m 61 #[rv a1, iv (1 : Int32), .unset] [(.ref a1), (.int (1 : Int32))])) rfl (hM rfl) (Steps.refl _) (argsL := []) (rest := [(.int (1 : Int32))]) (lenOf pd12 rfl) rfl (Nat.le_of_eq rfl) (B d20_61) (fun _ _ => ⟨rfl, e23, wl rfl, wl rfl⟩)
  dsimp only [Pt.U, Pt.locs, Pt.cells, Pt.slots] at X27 l27 y27 z27 st27 hQ27
  subst l27 y27 z27
  obtain ⟨rfl, N27q, hq27⟩ := hQ27
  have N27 := Fr.app N23 N27q
  have pre28 : Go p e bl T27 (mkF m 64 #[rv a1, iv (1 : Int32), .unset] [(.int (4 : Int32)), (.int (1 : Int32))]) s1 EF := fun t k => pre26 t (st27.trans k)
  have e27 : T27.heap = h2 := hq27
  have pre29 : Go p e bl T27 (mkF m 67 #[rv a1, iv (1 : Int32), .unset] []) s1 EF := fun t k => pre28 t (XS.icmpNo X27.here hx rfl (B d20_64) rfl (tlt (by decide : (1 : Int32) < (4 : Int32))).2.1 k)
  have pre30 : Go p e bl T27 (mkF m 69 #[rv a1, iv (1 : Int32), .unset] [(.int (1 : Int32)), (.ref a1)]) s1 EF := fun t k => pre29 t (by
   refine XS.aloadN X27.here hx rfl (B d20_67) rfl rfl ?_
   exact XS.iloadN X27.here hx rfl (B d20_68) rfl k)
  obtain ⟨cq31, kq31, q31a, q31b, q31c⟩ := isOf hZ2 e27 (SL.1.ext Et2)
  obtain ⟨_, _, ⟨T31, L31, k31, n31⟩, -, X31, ⟨Lc31, hQ31, l31, y31, z31⟩, st31⟩ := X27.virtualBack hx (y := mN6) (z := mN6) hown2 (mvT hZ2 (hw _ (mW 64 rfl))) (mvT hZ2 (hw _ (mW 65 rfl))) (notFace_of_selects (args := #[]) (mvT hZ2 (hw _ (mW 67 rfl)))) (mvT hZ2 (hw _ (mW 67 rfl))) (mvT hZ2 (hw _ (mW 66 rfl))) (by decide) (backOf (W := 0) (rmJcl l Z a0 hw [] a1 (1 : Int32) cz fv b k (4 : Int32) (BV [u0, u1, u2, u3]) u1 (u1 &&& (255 : Int32)) h2 n0 Z4 O4 J0 (SL.ext Et2).1 (SL.ext Et2).2.1 (SL.ext Et2).2.2.1 (SL.ext Et2).2.2.2.1 (by decide) (by decide) rfl rfl (own_nm u1)) hZ2 (hw _ (mW 68 rfl)) (hw _ (mW 10 rfl)) (by decide) (by decide)) q31a q31c (g := (mkF m 69 #[rv a1, iv (1 : Int32), .unset] [(.int (1 : Int32)), (.ref a1)])) rfl (hM rfl) (Steps.refl _) (argsL := [(.int (1 : Int32))]) (rest := []) (lenOf pd13 rfl) rfl (Nat.le_of_eq rfl) (B d20_69) (fun _ _ => ⟨rfl, e27, wl rfl, wl rfl⟩)
  dsimp only [Pt.U, Pt.locs, Pt.cells, Pt.slots] at X31 l31 y31 z31 st31 hQ31
  subst l31 y31 z31
  obtain ⟨rfl, N31q, hq31⟩ := hQ31
  have N31 := Fr.app N27 N31q
  have pre32 : Go p e bl T31 (mkF m 72 #[rv a1, iv (1 : Int32), .unset] [(.int (u1 &&& (255 : Int32)))]) s1 EF := fun t k => pre30 t (st31.trans k)
  have e31 : T31.heap = h2 := hq31
  obtain ⟨_, _, ⟨T33, L33, k33, n33⟩, -, X33, ⟨Lc33, hQ33, l33, y33, z33⟩, st33⟩ := Jvm.LawKit.callS X31 hx (y := mN16) hown2 (mvT hZ2 (hw _ (mW 86 rfl))) (mvT hZ2 (hw _ (mW 87 rfl))) (mvT hZ2 (hw _ (mW 40 rfl))) (mvT hZ2 (hw _ (mW 88 rfl))) (by decide) (backOf (W := 0) (rmI l Z a0 hw [] (u1 &&& (255 : Int32)) (1 : Int32) h2 n0 Z4 (hok u1 (List.mem_of_getElem? (i := 1) rfl))) hZ2 (hw _ (mW 88 rfl)) (hw _ (mW 40 rfl)) (by decide) (by decide)) (g := (mkF m 72 #[rv a1, iv (1 : Int32), .unset] [(.int (u1 &&& (255 : Int32)))])) rfl (hM rfl) (argsL := [(.int (u1 &&& (255 : Int32)))]) (rest := []) (lenOf pd14 rfl) rfl (Nat.le_of_eq rfl) (B d20_72) (fun _ _ => ⟨rfl, e31, wl rfl, wl rfl⟩)
  dsimp only [Pt.U, Pt.locs, Pt.cells, Pt.slots] at X33 l33 y33 z33 st33 hQ33
  subst l33 y33 z33
  obtain ⟨rfl, N33q, hq33⟩ := hQ33
  have N33 := Fr.app N31 N33q
  have pre34 : Go p e bl T33 (mkF m 75 #[rv a1, iv (1 : Int32), .unset] [(.int (1 : Int32))]) s1 EF := fun t k => pre32 t (st33 t k)
  have e33 : T33.heap = h2 := hq33
  have pre35 : Go p e bl T33 (mkF m 119 #[rv a1, iv (1 : Int32), .unset] []) s1 EF := fun t k => pre34 t (XS.ifYes X33.here hx rfl (pc0 := 75) (pc' := 119) rfl (B d20_75) rfl ((if0 _ _).trans (feq (by decide : ¬ ((1 : Int32) = (0 : Int32)))).2) (by decide) (by decide) k)
  have pre36 : Go p e bl T33 (mkF m 61 #[rv a1, iv (2 : Int32), .unset] [(.ref a1), (.int (2 : Int32))]) s1 EF := fun t k => pre35 t (by
   refine XS.iinc X33.here hx rfl (B d20_119) rfl (l' := #[rv a1, iv (2 : Int32), .unset]) rfl ?_
   refine XS.goto X33.here hx rfl (pc0 := 122) (pc' := 59) rfl (B d20_122) (by decide) (by decide) ?_
   refine XS.iloadN X33.here hx rfl (B d20_59) rfl ?_
   exact XS.aloadN X33.here hx rfl (B d20_60) rfl rfl k)
  obtain ⟨cq37, kq37, q37a, q37b, q37c⟩ := isOf hZ2 e33 (SL.1.ext Et2)
  obtain ⟨_, _, ⟨T37, L37, k37, n37⟩, -, X37, ⟨Lc37, hQ37, l37, y37, z37⟩, st37⟩ := X33.virtualBack hx (y := mN1) (z := mN1) hown2 (mvT hZ2 (hw _ (mW 54 rfl))) (mvT hZ2 (hw _ (mW 55 rfl))) (notFace_of_selects (args := #[]) (mvT hZ2 (hw _ (mW 57 rfl)))) (mvT hZ2 (hw _ (mW 57 rfl))) (mvT hZ2 (hw _ (mW 56 rfl))) (by decide) (backOf (W := 1) (rmJle l Z a0 hw [] a1 cz fv (0 : Int32) b k (4 : Int32) (BV [u0, u1, u2, u3]) (4 : Int32) h2 n0 Z4 O4 J0 (SL.ext Et2).1 (SL.ext Et2).2.1 (SL.ext Et2).2.2.1 (SL.ext Et2).2.2.2.1 rfl (own_shr0 rfl)) hZ2 (hw _ (mW 58 rfl)) (hw _ (mW 10 rfl)) (by decide) (by decide)) q37a q37c (g := (mkF m 61 #[rv a1, iv (2 : Int32), .unset] [(.ref a1), (.int (2 : Int32))])) rfl (hM rfl) (Steps.refl _) (argsL := []) (rest := [(.int (2 : Int32))]) (lenOf pd12 rfl) rfl (Nat.le_of_eq rfl) (B d20_61) (fun _ _ => ⟨rfl, e33, wl rfl, wl rfl⟩)
  dsimp only [Pt.U, Pt.locs, Pt.cells, Pt.slots] at X37 l37 y37 z37 st37 hQ37
  subst l37 y37 z37
  obtain ⟨rfl, N37q, hq37⟩ := hQ37
  have N37 := Fr.app N33 N37q
  have pre38 : Go p e bl T37 (mkF m 64 #[rv a1, iv (2 : Int32), .unset] [(.int (4 : Int32)), (.int (2 : Int32))]) s1 EF := fun t k => pre36 t (st37.trans k)
  have e37 : T37.heap = h2 := hq37
  have pre39 : Go p e bl T37 (mkF m 67 #[rv a1, iv (2 : Int32), .unset] []) s1 EF := fun t k => pre38 t (XS.icmpNo X37.here hx rfl (B d20_64) rfl (tlt (by decide : (2 : Int32) < (4 : Int32))).2.1 k)
  have pre40 : Go p e bl T37 (mkF m 69 #[rv a1, iv (2 : Int32), .unset] [(.int (2 : Int32)), (.ref a1)]) s1 EF := fun t k => pre39 t (by
   refine XS.aloadN X37.here hx rfl (B d20_67) rfl rfl ?_
   exact XS.iloadN X37.here hx rfl (B d20_68) rfl k)
  obtain ⟨cq41, kq41, q41a, q41b, q41c⟩ := isOf hZ2 e37 (SL.1.ext Et2)
  obtain ⟨_, _, ⟨T41, L41, k41, n41⟩, -, X41, ⟨Lc41, hQ41, l41, y41, z41⟩, st41⟩ := X37.virtualBack hx (y := mN6) (z := mN6) hown2 (mvT hZ2 (hw _ (mW 64 rfl))) (mvT hZ2 (hw _ (mW 65 rfl))) (notFace_of_selects (args := #[]) (mvT hZ2 (hw _ (mW 67 rfl)))) (mvT hZ2 (hw _ (mW 67 rfl))) (mvT hZ2 (hw _ (mW 66 rfl))) (by decide) (backOf (W := 0) (rmJcl l Z a0 hw [] a1 (2 : Int32) cz fv b k (4 : Int32) (BV [u0, u1, u2, u3]) u2 (u2 &&& (255 : Int32)) h2 n0 Z4 O4 J0 (SL.ext Et2).1 (SL.ext Et2).2.1 (SL.ext Et2).2.2.1 (SL.ext Et2).2.2.2.1 (by decide) (by decide) rfl rfl (own_nm u2)) hZ2 (hw _ (mW 68 rfl)) (hw _ (mW 10 rfl)) (by decide) (by decide)) q41a q41c (g := (mkF m 69 #[rv a1, iv (2 : Int32), .unset] [(.int (2 : Int32)), (.ref a1)])) rfl (hM rfl) (Steps.refl _) (argsL := [(.int (2 : Int32))]) (rest := []) (lenOf pd13 rfl) rfl (Nat.le_of_eq rfl) (B d20_69) (fun _ _ => ⟨rfl, e37, wl rfl, wl rfl⟩)
  dsimp only [Pt.U, Pt.locs, Pt.cells, Pt.slots] at X41 l41 y41 z41 st41 hQ41
  subst l41 y41 z41
  obtain ⟨rfl, N41q, hq41⟩ := hQ41
  have N41 := Fr.app N37 N41q
  have pre42 : Go p e bl T41 (mkF m 72 #[rv a1, iv (2 : Int32), .unset] [(.int (u2 &&& (255 : Int32)))]) s1 EF := fun t k => pre40 t (st41.trans k)
  have e41 : T41.heap = h2 := hq41
  obtain ⟨_, _, ⟨T43, L43, k43, n43⟩, -, X43, ⟨Lc43, hQ43, l43, y43, z43⟩, st43⟩ := Jvm.LawKit.callS X41 hx (y := mN16) hown2 (mvT hZ2 (hw _ (mW 86 rfl))) (mvT hZ2 (hw _ (mW 87 rfl))) (mvT hZ2 (hw _ (mW 40 rfl))) (mvT hZ2 (hw _ (mW 88 rfl))) (by decide) (backOf (W := 0) (rmI l Z a0 hw [] (u2 &&& (255 : Int32)) (1 : Int32) h2 n0 Z4 (hok u2 (List.mem_of_getElem? (i := 2) rfl))) hZ2 (hw _ (mW 88 rfl)) (hw _ (mW 40 rfl)) (by decide) (by decide)) (g := (mkF m 72 #[rv a1, iv (2 : Int32), .unset] [(.int (u2 &&& (255 : Int32)))])) rfl (hM rfl) (argsL := [(.int (u2 &&& (255 : Int32)))]) (rest := []) (lenOf pd14 rfl) rfl (Nat.le_of_eq rfl) (B d20_72) (fun _ _ => ⟨rfl, e41, wl rfl, wl rfl⟩)
  dsimp only [Pt.U, Pt.locs, Pt.cells, Pt.slots] at X43 l43 y43 z43 st43 hQ43
  subst l43 y43 z43
  obtain ⟨rfl, N43q, hq43⟩ := hQ43
  have N43 := Fr.app N41 N43q
  have pre44 : Go p e bl T43 (mkF m 75 #[rv a1, iv (2 : Int32), .unset] [(.int (1 : Int32))]) s1 EF := fun t k => pre42 t (st43 t k)
  have e43 : T43.heap = h2 := hq43
  have pre45 : Go p e bl T43 (mkF m 119 #[rv a1, iv (2 : Int32), .unset] []) s1 EF := fun t k => pre44 t (XS.ifYes X43.here hx rfl (pc0 := 75) (pc' := 119) rfl (B d20_75) rfl ((if0 _ _).trans (feq (by decide : ¬ ((1 : Int32) = (0 : Int32)))).2) (by decide) (by decide) k)
  have pre46 : Go p e bl T43 (mkF m 61 #[rv a1, iv (3 : Int32), .unset] [(.ref a1), (.int (3 : Int32))]) s1 EF := fun t k => pre45 t (by
   refine XS.iinc X43.here hx rfl (B d20_119) rfl (l' := #[rv a1, iv (3 : Int32), .unset]) rfl ?_
   refine XS.goto X43.here hx rfl (pc0 := 122) (pc' := 59) rfl (B d20_122) (by decide) (by decide) ?_
   refine XS.iloadN X43.here hx rfl (B d20_59) rfl ?_
   exact XS.aloadN X43.here hx rfl (B d20_60) rfl rfl k)
  obtain ⟨cq47, kq47, q47a, q47b, q47c⟩ := isOf hZ2 e43 (SL.1.ext Et2)
  obtain ⟨_, _, ⟨T47, L47, k47, n47⟩, -, X47, ⟨Lc47, hQ47, l47, y47, z47⟩, st47⟩ := X43.virtualBack hx (y := mN1) (z := mN1) hown2 (mvT hZ2 (hw _ (mW 54 rfl))) (mvT hZ2 (hw _ (mW 55 rfl))) (notFace_of_selects (args := #[]) (mvT hZ2 (hw _ (mW 57 rfl)))) (mvT hZ2 (hw _ (mW 57 rfl))) (mvT hZ2 (hw _ (mW 56 rfl))) (by decide) (backOf (W := 1) (rmJle l Z a0 hw [] a1 cz fv (0 : Int32) b k (4 : Int32) (BV [u0, u1, u2, u3]) (4 : Int32) h2 n0 Z4 O4 J0 (SL.ext Et2).1 (SL.ext Et2).2.1 (SL.ext Et2).2.2.1 (SL.ext Et2).2.2.2.1 rfl (own_shr0 rfl)) hZ2 (hw _ (mW 58 rfl)) (hw _ (mW 10 rfl)) (by decide) (by decide)) q47a q47c (g := (mkF m 61 #[rv a1, iv (3 : Int32), .unset] [(.ref a1), (.int (3 : Int32))])) rfl (hM rfl) (Steps.refl _) (argsL := []) (rest := [(.int (3 : Int32))]) (lenOf pd12 rfl) rfl (Nat.le_of_eq rfl) (B d20_61) (fun _ _ => ⟨rfl, e43, wl rfl, wl rfl⟩)
  dsimp only [Pt.U, Pt.locs, Pt.cells, Pt.slots] at X47 l47 y47 z47 st47 hQ47
  subst l47 y47 z47
  obtain ⟨rfl, N47q, hq47⟩ := hQ47
  have N47 := Fr.app N43 N47q
  have pre48 : Go p e bl T47 (mkF m 64 #[rv a1, iv (3 : Int32), .unset] [(.int (4 : Int32)), (.int (3 : Int32))]) s1 EF := fun t k => pre46 t (st47.trans k)
  have e47 : T47.heap = h2 := hq47
  have pre49 : Go p e bl T47 (mkF m 67 #[rv a1, iv (3 : Int32), .unset] []) s1 EF := fun t k => pre48 t (XS.icmpNo X47.here hx rfl (B d20_64) rfl (tlt (by decide : (3 : Int32) < (4 : Int32))).2.1 k)
  have pre50 : Go p e bl T47 (mkF m 69 #[rv a1, iv (3 : Int32), .unset] [(.int (3 : Int32)), (.ref a1)]) s1 EF := fun t k => pre49 t (by
   refine XS.aloadN X47.here hx rfl (B d20_67) rfl rfl ?_
   exact XS.iloadN X47.here hx rfl (B d20_68) rfl k)
  obtain ⟨cq51, kq51, q51a, q51b, q51c⟩ := isOf hZ2 e47 (SL.1.ext Et2)
  obtain ⟨_, _, ⟨T51, L51, k51, n51⟩, -, X51, ⟨Lc51, hQ51, l51, y51, z51⟩, st51⟩ := X47.virtualBack hx (y := mN6) (z := mN6) hown2 (mvT hZ2 (hw _ (mW 64 rfl))) (mvT hZ2 (hw _ (mW 65 rfl))) (notFace_of_selects (args := #[]) (mvT hZ2 (hw _ (mW 67 rfl)))) (mvT hZ2 (hw _ (mW 67 rfl))) (mvT hZ2 (hw _ (mW 66 rfl))) (by decide) (backOf (W := 0) (rmJcl l Z a0 hw [] a1 (3 : Int32) cz fv b k (4 : Int32) (BV [u0, u1, u2, u3]) u3 (u3 &&& (255 : Int32)) h2 n0 Z4 O4 J0 (SL.ext Et2).1 (SL.ext Et2).2.1 (SL.ext Et2).2.2.1 (SL.ext Et2).2.2.2.1 (by decide) (by decide) rfl rfl (own_nm u3)) hZ2 (hw _ (mW 68 rfl)) (hw _ (mW 10 rfl)) (by decide) (by decide)) q51a q51c (g := (mkF m 69 #[rv a1, iv (3 : Int32), .unset] [(.int (3 : Int32)), (.ref a1)])) rfl (hM rfl) (Steps.refl _) (argsL := [(.int (3 : Int32))]) (rest := []) (lenOf pd13 rfl) rfl (Nat.le_of_eq rfl) (B d20_69) (fun _ _ => ⟨rfl, e47, wl rfl, wl rfl⟩)
  dsimp only [Pt.U, Pt.locs, Pt.cells, Pt.slots] at X51 l51 y51 z51 st51 hQ51
  subst l51 y51 z51
  obtain ⟨rfl, N51q, hq51⟩ := hQ51
  have N51 := Fr.app N47 N51q
  have pre52 : Go p e bl T51 (mkF m 72 #[rv a1, iv (3 : Int32), .unset] [(.int (u3 &&& (255 : Int32)))]) s1 EF := fun t k => pre50 t (st51.trans k)
  have e51 : T51.heap = h2 := hq51
  obtain ⟨_, _, ⟨T53, L53, k53, n53⟩, -, X53, ⟨Lc53, hQ53, l53, y53, z53⟩, st53⟩ := Jvm.LawKit.callS X51 hx (y := mN16) hown2 (mvT hZ2 (hw _ (mW 86 rfl))) (mvT hZ2 (hw _ (mW 87 rfl))) (mvT hZ2 (hw _ (mW 40 rfl))) (mvT hZ2 (hw _ (mW 88 rfl))) (by decide) (backOf (W := 0) (rmI l Z a0 hw [] (u3 &&& (255 : Int32)) (1 : Int32) h2 n0 Z4 (hok u3 (List.mem_of_getElem? (i := 3) rfl))) hZ2 (hw _ (mW 88 rfl)) (hw _ (mW 40 rfl)) (by decide) (by decide)) (g := (mkF m 72 #[rv a1, iv (3 : Int32), .unset] [(.int (u3 &&& (255 : Int32)))])) rfl (hM rfl) (argsL := [(.int (u3 &&& (255 : Int32)))]) (rest := []) (lenOf pd14 rfl) rfl (Nat.le_of_eq rfl) (B d20_72) (fun _ _ => ⟨rfl, e51, wl rfl, wl rfl⟩)
  dsimp only [Pt.U, Pt.locs, Pt.cells, Pt.slots] at X53 l53 y53 z53 st53 hQ53
  subst l53 y53 z53
  obtain ⟨rfl, N53q, hq53⟩ := hQ53
  have N53 := Fr.app N51 N53q
  have pre54 : Go p e bl T53 (mkF m 75 #[rv a1, iv (3 : Int32), .unset] [(.int (1 : Int32))]) s1 EF := fun t k => pre52 t (st53 t k)
  have e53 : T53.heap = h2 := hq53
  have pre55 : Go p e bl T53 (mkF m 119 #[rv a1, iv (3 : Int32), .unset] []) s1 EF := fun t k => pre54 t (XS.ifYes X53.here hx rfl (pc0 := 75) (pc' := 119) rfl (B d20_75) rfl ((if0 _ _).trans (feq (by decide : ¬ ((1 : Int32) = (0 : Int32)))).2) (by decide) (by decide) k)
  have pre56 : Go p e bl T53 (mkF m 61 #[rv a1, iv (4 : Int32), .unset] [(.ref a1), (.int (4 : Int32))]) s1 EF := fun t k => pre55 t (by
   refine XS.iinc X53.here hx rfl (B d20_119) rfl (l' := #[rv a1, iv (4 : Int32), .unset]) rfl ?_
   refine XS.goto X53.here hx rfl (pc0 := 122) (pc' := 59) rfl (B d20_122) (by decide) (by decide) ?_
   refine XS.iloadN X53.here hx rfl (B d20_59) rfl ?_
   exact XS.aloadN X53.here hx rfl (B d20_60) rfl rfl k)
  obtain ⟨cq57, kq57, q57a, q57b, q57c⟩ := isOf hZ2 e53 (SL.1.ext Et2)
  obtain ⟨_, _, ⟨T57, L57, k57, n57⟩, -, X57, ⟨Lc57, hQ57, l57, y57, z57⟩, st57⟩ := X53.virtualBack hx (y := mN1) (z := mN1) hown2 (mvT hZ2 (hw _ (mW 54 rfl))) (mvT hZ2 (hw _ (mW 55 rfl))) (notFace_of_selects (args := #[]) (mvT hZ2 (hw _ (mW 57 rfl)))) (mvT hZ2 (hw _ (mW 57 rfl))) (mvT hZ2 (hw _ (mW 56 rfl))) (by decide) (backOf (W := 1) (rmJle l Z a0 hw [] a1 cz fv (0 : Int32) b k (4 : Int32) (BV [u0, u1, u2, u3]) (4 : Int32) h2 n0 Z4 O4 J0 (SL.ext Et2).1 (SL.ext Et2).2.1 (SL.ext Et2).2.2.1 (SL.ext Et2).2.2.2.1 rfl (own_shr0 rfl)) hZ2 (hw _ (mW 58 rfl)) (hw _ (mW 10 rfl)) (by decide) (by decide)) q57a q57c (g := (mkF m 61 #[rv a1, iv (4 : Int32), .unset] [(.ref a1), (.int (4 : Int32))])) rfl (hM rfl) (Steps.refl _) (argsL := []) (rest := [(.int (4 : Int32))]) (lenOf pd12 rfl) rfl (Nat.le_of_eq rfl) (B d20_61) (fun _ _ => ⟨rfl, e53, wl rfl, wl rfl⟩)
  dsimp only [Pt.U, Pt.locs, Pt.cells, Pt.slots] at X57 l57 y57 z57 st57 hQ57
  subst l57 y57 z57
  obtain ⟨rfl, N57q, hq57⟩ := hQ57
  have N57 := Fr.app N53 N57q
  have pre58 : Go p e bl T57 (mkF m 64 #[rv a1, iv (4 : Int32), .unset] [(.int (4 : Int32)), (.int (4 : Int32))]) s1 EF := fun t k => pre56 t (st57.trans k)
  have e57 : T57.heap = h2 := hq57
  have pre59 : Go p e bl T57 (mkF m 125 #[rv a1, iv (4 : Int32), .unset] []) s1 EF := fun t k => pre58 t (XS.icmpYes X57.here hx rfl (pc0 := 64) (pc' := 125) rfl (B d20_64) rfl (flt (by decide : ¬ ((4 : Int32) < (4 : Int32)))).2.1 (by decide) (by decide) k)
  obtain ⟨T60, h60, X60, e60, Et60, A60, D60, U60, st60⟩ := newO X57 hx hZ2 hown2 (hw _ (mW 89 rfl)) (hw _ (mW 90 rfl)) (hw _ (mW 40 rfl)) e57 (g := (mkF m 125 #[rv a1, iv (4 : Int32), .unset] [])) rfl (B d20_125) (by decide) (by decide)
  obtain ⟨b60, g60⟩ : ∃ z, z = h2.size := ⟨_, rfl⟩
  rw [← g60] at A60 st60 D60
  have g_b60 : n0 ≤ b60 := Nat.le_trans Z4 (Nat.le_of_eq g60.symm)
  have sz_b60 : h0.size ≤ b60 := Nat.le_trans K4.1 (Nat.le_of_eq g60.symm)
  have pre61 : Go p e bl T60 (mkF m 128 #[rv a1, iv (4 : Int32), .unset] [(.ref b60)]) s1 EF := fun t k => pre59 t (st60 t k)
  have O62 : Old Z n0 h60 := O4.ext Et60
  have Z62 : n0 ≤ h60.size := Nat.le_trans Z4 Et60.1
  have hk62 := Nat.le_trans hk2 Et60.1
  have K62 : Keep h0 h60 [] := K4.ext Et60
  have F_name_b60 : Fld Z h60 b60 "com/example/minuterie/minuterie/TimerName" "name" "Ljava/lang/String;" .null := D60 (Or.inr (hw _ (mW 96 rfl))) (ty := (.object "java/lang/String")) (by decide)
  have pre63 : Go p e bl T60 (mkF m 130 #[rv a1, iv (4 : Int32), .unset] [(.ref a1), (.ref b60), (.ref b60)]) s1 EF := fun t k => pre61 t (by
   refine XS.dup X60.here hx rfl (B d20_128) rfl rfl ?_
   exact XS.aloadN X60.here hx rfl (B d20_129) rfl rfl k)
  obtain ⟨_, _, ⟨T64, L64, k64, n64⟩, -, X64, ⟨Lc64, hQ64, l64, y64, z64⟩, st64⟩ := X60.specialBack hx (y := mN19) rfl hown2 (mvT hZ2 (hw _ (mW 91 rfl))) (mvT hZ2 (hw _ (mW 92 rfl))) (mvT hZ2 (hw _ (mW 93 rfl))) (by decide) (backOf (W := 1) (rmC l Z a0 hw [] b60 a1 cz fv  h60 n0 Z62 O62 J0 A60 g_b60 F_name_b60) hZ2 (hw _ (mW 93 rfl)) (hw _ (mW 40 rfl)) (by decide) (by decide)) (g := (mkF m 130 #[rv a1, iv (4 : Int32), .unset] [(.ref a1), (.ref b60), (.ref b60)])) rfl (hM rfl) (Steps.refl _) (a := b60) (argsL := [(.ref a1)]) (rest := [(.ref b60)]) (lenOf pd15 rfl) rfl (Nat.le_of_eq rfl) (B d20_130) (fun _ _ => ⟨rfl, e60, wl rfl, wl rfl⟩)
  dsimp only [Pt.U, Pt.locs, Pt.cells, Pt.slots] at X64 l64 y64 z64 st64 hQ64
  subst l64 y64 z64
  obtain ⟨rfl, N64q, K64, EC64, FC64⟩ := hQ64
  have N64 := Fr.app N57 N64q
  have pre65 : Go p e bl T64 (mkF m 133 #[rv a1, iv (4 : Int32), .unset] [(.ref b60)]) s1 EF := fun t k => pre63 t (st64.trans k)
  have O66 : Old Z n0 T64.heap := O62.keep K64 (allS g_b60 all0)
  have Z66 : n0 ≤ T64.heap.size := Nat.le_trans Z62 K64.1
  have hk66 := Nat.le_trans hk62 K64.1
  have K66 : Keep h0 T64.heap [] := K62.trans K64 (allS (Or.inr sz_b60) all0)
  obtain ⟨fs, hr, hrun, hended, hend1, hend2, hend3, hsame⟩ := X64.leaveW hS2 hk66 (v := some (.ref b60)) (fun h => by rw [Bd.returns] at h; cases h)
  refine ⟨_, _, hEF ▸ pre65 _ (retOut X64 hx Bd.returns rfl (Or.inr (Or.inr (Or.inr (Or.inr ⟨rfl, rfl, rfl⟩)))) (B d20_133) hr), hrun, hended, _, _, rfl, ?_, hend1, hend2, hend3, hsame.mono (by decide) (by decide)⟩
  show QO4 Z a1 cz fv b k u0 u1 u2 u3 hs hz h0 n0 _ T64.heap _
  exact ⟨_, rfl, N64, K66, sz_b60, EC64, FC64⟩
def QO (Z : State) (a1 : Addr) (h0 : Heap) (n0 : Nat) (v : Option Value) (h : Heap) (L : List Loc) : Prop := ∃ o, v = some (.ref o) ∧ Fr n0 L ∧ Keep h0 h [] ∧ h0.size ≤ o ∧ Exa Z h o "com/example/minuterie/minuterie/TimerName" ∧ Fld Z h o "com/example/minuterie/minuterie/TimerName" "name" "Ljava/lang/String;" (.ref a1)
theorem rmO (l : Launch) (Z : State) (a0 : Array Value) (hw : HW a0 Z) (ws : List Jvm.Cond) (a1 : Addr) (cz : Int32) (fv : Value) (b : Addr) (k : ClassId) (n : Int32) (bs : List Int32) (hs hz : Int32) (h0 : Heap) (n0 : Nat) (Z0 : n0 ≤ h0.size) (O0 : Old Z n0 h0) (J0 : Jd Z cz fv) (SL : StL Z h0 a1 b k n bs hs hz) (G : Gd n bs) :
    MetFree l mN20 (head1 (Jvm.Cond.code mN20 prog_28_method_2_code 3 (some (.object "com/example/minuterie/minuterie/TimerName")) :: ws) rKO1) (fun a U => a = #[(.ref a1)] ∧ Z.Warmed39 U.vm ∧ U.heap = h0) (fun _ _ _ _ _ => True) (fun _ U o U' => ∃ v L, o = .returned v ∧ QO Z a1 h0 n0 v U'.heap L ∧ ReturnedEndW U o U' L rKO1.cells rKO1.slots) := by
  obtain ⟨g1, g2, g3, g4⟩ := G
  rcases own_len g1 g2 g3 with ⟨u0, rfl, rfl⟩ | ⟨u0, u1, rfl, rfl⟩ | ⟨u0, u1, u2, rfl, rfl⟩ | ⟨u0, u1, u2, u3, rfl, rfl⟩
  · exact rmO1 l Z a0 hw ws a1 cz fv b k u0 hs hz h0 n0 Z0 O0 J0 SL g4
  · exact rmO2 l Z a0 hw ws a1 cz fv b k u0 u1 hs hz h0 n0 Z0 O0 J0 SL g4
  · exact rmO3 l Z a0 hw ws a1 cz fv b k u0 u1 u2 hs hz h0 n0 Z0 O0 J0 SL g4
  · exact rmO4 l Z a0 hw ws a1 cz fv b k u0 u1 u2 u3 hs hz h0 n0 Z0 O0 J0 SL g4

abbrev rKS : Room := { frames := 0, cells := 0, slots := 0, locals := 0 }
theorem d21_0 : decode prog_28_method_4_code 0 = .ok (.aload_n 0, 1) := by decide +kernel
theorem d21_1 : decode prog_28_method_4_code 1 = .ok (.getfield 7, 3) := by decide +kernel
theorem d21_4 : decode prog_28_method_4_code 4 = .ok (.areturn, 1) := by decide +kernel
theorem efS (m : MethodId) (a1 : Addr) : entryFrame m #[(.ref a1)] 1 = mkF m 0 #[rv a1] [] := by first | (simp [entryFrame, mkF, argsToLocals, Value.category]; done) | rfl
def QS (Z : State) (a1 : Addr) (zs : Addr) (h0 : Heap) (n0 : Nat) (v : Option Value) (h : Heap) (L : List Loc) : Prop := v = some (.ref zs) ∧ Fr n0 L ∧ h = h0
set_option maxRecDepth 65536 in
set_option maxHeartbeats 40000000 in
theorem rmS (l : Launch) (Z : State) (a0 : Array Value) (hw : HW a0 Z) (ws : List Jvm.Cond) (a1 : Addr) (zs : Addr) (h0 : Heap) (n0 : Nat) (Z0 : n0 ≤ h0.size) (F1 : Fld Z h0 a1 "com/example/minuterie/minuterie/TimerName" "name" "Ljava/lang/String;" (.ref zs)) :
    MF l Z mN21 prog_28_method_4_code 1 (some (.object "java/lang/String")) ws rKS #[(.ref a1)] h0 (QS Z a1 zs h0 n0) := by
  refine MetFree.of_bodySF (plainFor_of_name pn5) hisR ?_
  intro p e s m args bl meth c s1 Bd hml0 hP hK
  obtain ⟨rfl, hZ, hh⟩ := hP
  have hx := Bd.exec
  have hby := Bd.bytes
  have B := @hb c _ hby
  have hown : s.vm.findClass "com/example/minuterie/minuterie/TimerName" = some m.cls := findClass_of_methodNamed Bd.named
  have hlk : meth.locks = false := BodyLoose.notSynchronized Bd
  have hrt : ∀ {v : Option Value}, meth.sig.returnType = none → v = none := fun h => by rw [Bd.returns] at h; cases h
  have X0 : Stand p l e rKS s m #[(.ref a1)] bl meth c s1 [] 0 0 := Stand.of_body Bd
  have e0 : s1.heap = h0 := by rw [← hh, Bd.state]; rfl
  have N0 := Fr.nil n0
  obtain ⟨EF, hEF⟩ : ∃ f, f = entryFrame m #[(.ref a1)] 1 := ⟨_, rfl⟩
  have pre0 : Go p e bl s1 (mkF m 0 #[rv a1] []) s1 EF := fun t k => by rw [hEF]; exact castTop (efS m a1) k
  have pre1 : Go p e bl s1 (mkF m 1 #[rv a1] [(.ref a1)]) s1 EF := fun t k => pre0 t (by
   exact XS.aloadN X0.here hx rfl (B d21_0) rfl rfl k)
  obtain ⟨T2, X2, e2, st2⟩ := getF X0 hx hZ hown (host := "") (Or.inl (hw _ (mW 95 rfl))) Via.refl e0 F1 (g := (mkF m 1 #[rv a1] [(.ref a1)])) rfl rfl (B d21_1)
  have pre3 : Go p e bl T2 (mkF m 4 #[rv a1] [(.ref zs)]) s1 EF := fun t k => pre1 t (st2 t k)
  exact fin1 X2 (v := some (.ref zs)) hrt hlk (wl rfl) (wl rfl) (by rw [e2]; exact ⟨rfl, N0, rfl⟩) (fun fs hr => hEF ▸ pre3 _ (retOut X2 hx Bd.returns rfl (Or.inr (Or.inr (Or.inr (Or.inr ⟨rfl, rfl, rfl⟩)))) (B d21_4) hr))
abbrev rKE : Room := { frames := 2, cells := 0, slots := 0, locals := 28 }
theorem d22_0 : decode prog_28_method_5_code 0 = .ok (.aload_n 1, 1) := by decide +kernel
theorem d22_1 : decode prog_28_method_5_code 1 = .ok (.instanceof 8, 3) := by decide +kernel
theorem d22_4 : decode prog_28_method_5_code 4 = .ok (.ifCond .eq 26, 3) := by decide +kernel
theorem d22_7 : decode prog_28_method_5_code 7 = .ok (.aload_n 1, 1) := by decide +kernel
theorem d22_8 : decode prog_28_method_5_code 8 = .ok (.checkcast 8, 3) := by decide +kernel
theorem d22_11 : decode prog_28_method_5_code 11 = .ok (.astore_n 2, 1) := by decide +kernel
theorem d22_12 : decode prog_28_method_5_code 12 = .ok (.aload_n 0, 1) := by decide +kernel
theorem d22_13 : decode prog_28_method_5_code 13 = .ok (.getfield 7, 3) := by decide +kernel
theorem d22_16 : decode prog_28_method_5_code 16 = .ok (.aload_n 2, 1) := by decide +kernel
theorem d22_17 : decode prog_28_method_5_code 17 = .ok (.getfield 7, 3) := by decide +kernel
theorem d22_20 : decode prog_28_method_5_code 20 = .ok (.invokevirtual 71, 3) := by decide +kernel
theorem d22_23 : decode prog_28_method_5_code 23 = .ok (.ifCond .eq 7, 3) := by decide +kernel
theorem d22_26 : decode prog_28_method_5_code 26 = .ok (.iconst 1, 1) := by decide +kernel
theorem d22_27 : decode prog_28_method_5_code 27 = .ok (.goto 4, 3) := by decide +kernel
theorem d22_30 : decode prog_28_method_5_code 30 = .ok (.iconst 0, 1) := by decide +kernel
theorem d22_31 : decode prog_28_method_5_code 31 = .ok (.ireturn, 1) := by decide +kernel
theorem pd16 : parseMethodDescriptor "(Ljava/lang/Object;)Z" = some ⟨[(.object "java/lang/Object")], some .boolean⟩ := by decide +kernel
theorem efE (m : MethodId) (a1 : Addr) (a2 : Addr) : entryFrame m #[(.ref a1), (.ref a2)] 3 = mkF m 0 #[rv a1, rv a2, .unset] [] := by first | (simp [entryFrame, mkF, argsToLocals, Value.category]; done) | rfl
def QE (Z : State) (a1 : Addr) (a2 : Addr) (cz : Int32) (fv : Value) (zs : Addr) (zt : Addr) (b1 : Addr) (k1 : ClassId) (n1 : Int32) (bs1 : List Int32) (hs1 : Int32) (hz1 : Int32) (b2 : Addr) (k2 : ClassId) (n2 : Int32) (bs2 : List Int32) (hs2 : Int32) (hz2 : Int32) (r : Int32) (h0 : Heap) (n0 : Nat) (v : Option Value) (h : Heap) (L : List Loc) : Prop := v = some (.int r) ∧ Fr n0 L ∧ h = h0
set_option maxRecDepth 65536 in
set_option maxHeartbeats 40000000 in
theorem rmE (l : Launch) (Z : State) (a0 : Array Value) (hw : HW a0 Z) (ws : List Jvm.Cond) (a1 : Addr) (a2 : Addr) (cz : Int32) (fv : Value) (zs : Addr) (zt : Addr) (b1 : Addr) (k1 : ClassId) (n1 : Int32) (bs1 : List Int32) (hs1 : Int32) (hz1 : Int32) (b2 : Addr) (k2 : ClassId) (n2 : Int32) (bs2 : List Int32) (hs2 : Int32) (hz2 : Int32) (r : Int32) (h0 : Heap) (n0 : Nat) (Z0 : n0 ≤ h0.size) (O0 : Old Z n0 h0) (J0 : Jd Z cz fv) (E2 : Exa Z h0 a2 "com/example/minuterie/minuterie/TimerName") (F1 : Fld Z h0 a1 "com/example/minuterie/minuterie/TimerName" "name" "Ljava/lang/String;" (.ref zs)) (F2 : Fld Z h0 a2 "com/example/minuterie/minuterie/TimerName" "name" "Ljava/lang/String;" (.ref zt)) (SL1 : StL Z h0 zs b1 k1 n1 bs1 hs1 hz1) (SL2 : StL Z h0 zt b2 k2 n2 bs2 hs2 hz2) (ne12 : zs ≠ zt) (G1 : Gd n1 bs1) (G2 : Gd n2 bs2) (hR : eqB bs1 bs2 = r) (h01 : r = 0 ∨ r = 1) :
    MF l Z mN22 prog_28_method_5_code 3 (some .boolean) ws rKE #[(.ref a1), (.ref a2)] h0 (QE Z a1 a2 cz fv zs zt b1 k1 n1 bs1 hs1 hz1 b2 k2 n2 bs2 hs2 hz2 r h0 n0) := by
  refine MetFree.of_bodySF (plainFor_of_name pn5) hisR ?_
  intro p e s m args bl meth c s1 Bd hml0 hP hK
  obtain ⟨rfl, hZ, hh⟩ := hP
  have hx := Bd.exec
  have hby := Bd.bytes
  have B := @hb c _ hby
  have hM := fun {n : Nat} (h : n = 3) => h.trans hml0.symm
  have hown : s.vm.findClass "com/example/minuterie/minuterie/TimerName" = some m.cls := findClass_of_methodNamed Bd.named
  have hlk : meth.locks = false := BodyLoose.notSynchronized Bd
  have hrt : ∀ {v : Option Value}, meth.sig.returnType = none → v = none := fun h => by rw [Bd.returns] at h; cases h
  have X0 : Stand p l e rKE s m #[(.ref a1), (.ref a2)] bl meth c s1 [] 0 0 := Stand.of_body Bd
  have e0 : s1.heap = h0 := by rw [← hh, Bd.state]; rfl
  have N0 := Fr.nil n0
  obtain ⟨EF, hEF⟩ : ∃ f, f = entryFrame m #[(.ref a1), (.ref a2)] 3 := ⟨_, rfl⟩
  have pre0 : Go p e bl s1 (mkF m 0 #[rv a1, rv a2, .unset] []) s1 EF := fun t k => by rw [hEF]; exact castTop (efE m a1 a2) k
  have pre1 : Go p e bl s1 (mkF m 1 #[rv a1, rv a2, .unset] [(.ref a2)]) s1 EF := fun t k => pre0 t (by
   exact XS.aloadN X0.here hx rfl (B d22_0) rfl rfl k)
  obtain ⟨T2, X2, e2, st2⟩ := instY X0 hx hZ hown (hw _ (mW 89 rfl)) e0 (Ins.self E2) (g := (mkF m 1 #[rv a1, rv a2, .unset] [(.ref a2)])) rfl rfl (B d22_1)
  have pre3 : Go p e bl T2 (mkF m 4 #[rv a1, rv a2, .unset] [(.int (1 : Int32))]) s1 EF := fun t k => pre1 t (st2 t k)
  have pre4 : Go p e bl T2 (mkF m 7 #[rv a1, rv a2, .unset] []) s1 EF := fun t k => pre3 t (XS.ifNo X2.here hx rfl (B d22_4) rfl ((if0 _ _).trans (feq (by decide : ¬ ((1 : Int32) = (0 : Int32)))).1) k)
  have pre5 : Go p e bl T2 (mkF m 8 #[rv a1, rv a2, .unset] [(.ref a2)]) s1 EF := fun t k => pre4 t (by
   exact XS.aloadN X2.here hx rfl (B d22_7) rfl rfl k)
  obtain ⟨T6, X6, e6, st6⟩ := castY X2 hx hZ hown (hw _ (mW 89 rfl)) e2 (Ins.self E2) (g := (mkF m 8 #[rv a1, rv a2, .unset] [(.ref a2)])) rfl rfl (B d22_8)
  have pre7 : Go p e bl T6 (mkF m 11 #[rv a1, rv a2, .unset] [(.ref a2)]) s1 EF := fun t k => pre5 t (st6 t k)
  have pre8 : Go p e bl T6 (mkF m 13 #[rv a1, rv a2, rv a2] [(.ref a1)]) s1 EF := fun t k => pre7 t (by
   refine XS.astoreN X6.here hx rfl (B d22_11) rfl rfl (l' := #[rv a1, rv a2, rv a2]) rfl ?_
   exact XS.aloadN X6.here hx rfl (B d22_12) rfl rfl k)
  obtain ⟨T9, X9, e9, st9⟩ := getF X6 hx hZ hown (host := "") (Or.inl (hw _ (mW 95 rfl))) Via.refl e6 F1 (g := (mkF m 13 #[rv a1, rv a2, rv a2] [(.ref a1)])) rfl rfl (B d22_13)
  have pre10 : Go p e bl T9 (mkF m 16 #[rv a1, rv a2, rv a2] [(.ref zs)]) s1 EF := fun t k => pre8 t (st9 t k)
  have pre11 : Go p e bl T9 (mkF m 17 #[rv a1, rv a2, rv a2] [(.ref a2), (.ref zs)]) s1 EF := fun t k => pre10 t (by
   exact XS.aloadN X9.here hx rfl (B d22_16) rfl rfl k)
  obtain ⟨T12, X12, e12, st12⟩ := getF X9 hx hZ hown (host := "") (Or.inl (hw _ (mW 95 rfl))) Via.refl e9 F2 (g := (mkF m 17 #[rv a1, rv a2, rv a2] [(.ref a2), (.ref zs)])) rfl rfl (B d22_17)
  have pre13 : Go p e bl T12 (mkF m 20 #[rv a1, rv a2, rv a2] [(.ref zt), (.ref zs)]) s1 EF := fun t k => pre11 t (st12 t k)
  obtain ⟨cq14, kq14, q14a, q14b, q14c⟩ := isOf hZ e12 SL1.1
  obtain ⟨_, _, ⟨T14, L14, k14, n14⟩, -, X14, ⟨Lc14, hQ14, l14, y14, z14⟩, st14⟩ := X12.virtualBack hx (y := mN9) (z := mN9) hown (mvT hZ (hw _ (mW 113 rfl))) (mvT hZ (hw _ (mW 103 rfl))) (notFace_of_selects (args := #[]) (mvT hZ (hw _ (mW 105 rfl)))) (mvT hZ (hw _ (mW 105 rfl))) (mvT hZ (hw _ (mW 104 rfl))) (by decide) (backOf (W := 0) (rmJed l Z a0 hw [] zs zt cz fv b1 k1 n1 bs1 hs1 hz1 b2 k2 n2 bs2 hs2 hz2 r h0 n0 Z0 O0 J0 SL1 SL2 ne12 G1.1 G1.2.1 G1.2.2.1 G2.1 G2.2.1 G2.2.2.1 hR h01) hZ (hw _ (mW 106 rfl)) (hw _ (mW 10 rfl)) (by decide) (by decide)) q14a q14c (g := (mkF m 20 #[rv a1, rv a2, rv a2] [(.ref zt), (.ref zs)])) rfl (hM rfl) (Steps.refl _) (argsL := [(.ref zt)]) (rest := []) (lenOf pd16 rfl) rfl (Nat.le_of_eq rfl) (B d22_20) (fun _ _ => ⟨rfl, e12, wl rfl, wl rfl⟩)
  dsimp only [Pt.U, Pt.locs, Pt.cells, Pt.slots] at X14 l14 y14 z14 st14 hQ14
  subst l14 y14 z14
  obtain ⟨rfl, N14q, hq14⟩ := hQ14
  have N14 := Fr.app N0 N14q
  have pre15 : Go p e bl T14 (mkF m 23 #[rv a1, rv a2, rv a2] [(.int r)]) s1 EF := fun t k => pre13 t (st14.trans k)
  have e14 : T14.heap = h0 := hq14
  by_cases hc23 : r = (0 : Int32)
  · have pre16 : Go p e bl T14 (mkF m 30 #[rv a1, rv a2, rv a2] []) s1 EF := fun t k => pre15 t (XS.ifYes X14.here hx rfl (pc0 := 23) (pc' := 30) rfl (B d22_23) rfl ((if0 _ _).trans (teq hc23).1) (by decide) (by decide) k)
    have pre17 : Go p e bl T14 (mkF m 31 #[rv a1, rv a2, rv a2] [(.int (0 : Int32))]) s1 EF := fun t k => pre16 t (by
     exact XS.iconst X14.here hx rfl (B d22_30) k)
    have hnr : Value.int (nar .boolean (0 : Int32)) = (.int (0 : Int32)) := by rfl
    exact fin1 X14 (v := some (.int (0 : Int32))) hrt hlk (wl rfl) (wl rfl) (by rw [e14]; exact ⟨by rw [hc23], N14, rfl⟩) (fun fs hr => hEF ▸ pre17 _ (retN X14 hx (t := .boolean) Bd.returns (by simp) (B d22_31) (hnr ▸ hr)))
  have pre18 : Go p e bl T14 (mkF m 26 #[rv a1, rv a2, rv a2] []) s1 EF := fun t k => pre15 t (XS.ifNo X14.here hx rfl (B d22_23) rfl ((if0 _ _).trans (feq hc23).1) k)
  have pre19 : Go p e bl T14 (mkF m 31 #[rv a1, rv a2, rv a2] [(.int (1 : Int32))]) s1 EF := fun t k => pre18 t (by
   refine XS.iconst X14.here hx rfl (B d22_26) ?_
   exact XS.goto X14.here hx rfl (pc0 := 27) (pc' := 31) rfl (B d22_27) (by decide) (by decide) k)
  have hnr : Value.int (nar .boolean (1 : Int32)) = (.int (1 : Int32)) := by rfl
  exact fin1 X14 (v := some (.int (1 : Int32))) hrt hlk (wl rfl) (wl rfl) (by rw [e14]; exact ⟨by rw [h01.resolve_left hc23], N14, rfl⟩) (fun fs hr => hEF ▸ pre19 _ (retN X14 hx (t := .boolean) Bd.returns (by simp) (B d22_31) (hnr ▸ hr)))
abbrev rKF : Room := { frames := 0, cells := 0, slots := 0, locals := 0 }
theorem efF (m : MethodId) (a1 : Addr) (a2 : Addr) : entryFrame m #[(.ref a1), (.ref a2)] 3 = mkF m 0 #[rv a1, rv a2, .unset] [] := by first | (simp [entryFrame, mkF, argsToLocals, Value.category]; done) | rfl
def QF (Z : State) (a1 : Addr) (a2 : Addr) (h0 : Heap) (n0 : Nat) (v : Option Value) (h : Heap) (L : List Loc) : Prop := v = some (.int (0 : Int32)) ∧ Fr n0 L ∧ h = h0
set_option maxRecDepth 65536 in
set_option maxHeartbeats 40000000 in
theorem rmF (l : Launch) (Z : State) (a0 : Array Value) (hw : HW a0 Z) (ws : List Jvm.Cond) (a1 : Addr) (a2 : Addr) (h0 : Heap) (n0 : Nat) (Z0 : n0 ≤ h0.size) (E2 : Exa Z h0 a2 "java/lang/String") :
    MF l Z mN22 prog_28_method_5_code 3 (some .boolean) ws rKF #[(.ref a1), (.ref a2)] h0 (QF Z a1 a2 h0 n0) := by
  refine MetFree.of_bodySF (plainFor_of_name pn5) hisR ?_
  intro p e s m args bl meth c s1 Bd hml0 hP hK
  obtain ⟨rfl, hZ, hh⟩ := hP
  have hx := Bd.exec
  have hby := Bd.bytes
  have B := @hb c _ hby
  have hown : s.vm.findClass "com/example/minuterie/minuterie/TimerName" = some m.cls := findClass_of_methodNamed Bd.named
  have hlk : meth.locks = false := BodyLoose.notSynchronized Bd
  have hrt : ∀ {v : Option Value}, meth.sig.returnType = none → v = none := fun h => by rw [Bd.returns] at h; cases h
  have X0 : Stand p l e rKF s m #[(.ref a1), (.ref a2)] bl meth c s1 [] 0 0 := Stand.of_body Bd
  have e0 : s1.heap = h0 := by rw [← hh, Bd.state]; rfl
  have N0 := Fr.nil n0
  obtain ⟨EF, hEF⟩ : ∃ f, f = entryFrame m #[(.ref a1), (.ref a2)] 3 := ⟨_, rfl⟩
  have pre0 : Go p e bl s1 (mkF m 0 #[rv a1, rv a2, .unset] []) s1 EF := fun t k => by rw [hEF]; exact castTop (efF m a1 a2) k
  have pre1 : Go p e bl s1 (mkF m 1 #[rv a1, rv a2, .unset] [(.ref a2)]) s1 EF := fun t k => pre0 t (by
   exact XS.aloadN X0.here hx rfl (B d22_0) rfl rfl k)
  obtain ⟨T2, X2, e2, st2⟩ := instNo X0 hx hZ hown (hw _ (mW 89 rfl)) e0 E2 (own_no (hw _ (mW 145 rfl)) (hw _ (mW 90 rfl)) (NS.step (hw _ (mW 145 rfl)) (own_root (hw _ (mW 146 rfl)) (hw _ (mW 90 rfl)) (by decide)) (by decide)) (by decide)) (g := (mkF m 1 #[rv a1, rv a2, .unset] [(.ref a2)])) rfl rfl (B d22_1)
  have pre3 : Go p e bl T2 (mkF m 4 #[rv a1, rv a2, .unset] [(.int (0 : Int32))]) s1 EF := fun t k => pre1 t (st2 t k)
  have pre4 : Go p e bl T2 (mkF m 30 #[rv a1, rv a2, .unset] []) s1 EF := fun t k => pre3 t (XS.ifYes X2.here hx rfl (pc0 := 4) (pc' := 30) rfl (B d22_4) rfl ((if0 _ _).trans (teq (by decide : (0 : Int32) = (0 : Int32))).1) (by decide) (by decide) k)
  have pre5 : Go p e bl T2 (mkF m 31 #[rv a1, rv a2, .unset] [(.int (0 : Int32))]) s1 EF := fun t k => pre4 t (by
   exact XS.iconst X2.here hx rfl (B d22_30) k)
  have hnr : Value.int (nar .boolean (0 : Int32)) = (.int (0 : Int32)) := by rfl
  exact fin1 X2 (v := some (.int (0 : Int32))) hrt hlk (wl rfl) (wl rfl) (by rw [e2]; exact ⟨rfl, N0, rfl⟩) (fun fs hr => hEF ▸ pre5 _ (retN X2 hx (t := .boolean) Bd.returns (by simp) (B d22_31) (hnr ▸ hr)))
abbrev rKHa2 : Room := { frames := 0, cells := 0, slots := 0, locals := 0 }
theorem d23_0 : decode jdk_48_method_5_code 0 = .ok (.iload_n 2, 1) := by decide +kernel
theorem d23_1 : decode jdk_48_method_5_code 1 = .ok (.iload_n 3, 1) := by decide +kernel
theorem d23_2 : decode jdk_48_method_5_code 2 = .ok (.iadd, 1) := by decide +kernel
theorem d23_3 : decode jdk_48_method_5_code 3 = .ok (.istore 4, 2) := by decide +kernel
theorem d23_5 : decode jdk_48_method_5_code 5 = .ok (.iload_n 2, 1) := by decide +kernel
theorem d23_6 : decode jdk_48_method_5_code 6 = .ok (.istore 5, 2) := by decide +kernel
theorem d23_8 : decode jdk_48_method_5_code 8 = .ok (.iload 5, 2) := by decide +kernel
theorem d23_10 : decode jdk_48_method_5_code 10 = .ok (.iload 4, 2) := by decide +kernel
theorem d23_12 : decode jdk_48_method_5_code 12 = .ok (.if_icmp .ge 23, 3) := by decide +kernel
theorem d23_15 : decode jdk_48_method_5_code 15 = .ok (.bipush 31, 2) := by decide +kernel
theorem d23_17 : decode jdk_48_method_5_code 17 = .ok (.iload_n 0, 1) := by decide +kernel
theorem d23_18 : decode jdk_48_method_5_code 18 = .ok (.imul, 1) := by decide +kernel
theorem d23_19 : decode jdk_48_method_5_code 19 = .ok (.aload_n 1, 1) := by decide +kernel
theorem d23_20 : decode jdk_48_method_5_code 20 = .ok (.iload 5, 2) := by decide +kernel
theorem d23_22 : decode jdk_48_method_5_code 22 = .ok (.baload, 1) := by decide +kernel
theorem d23_23 : decode jdk_48_method_5_code 23 = .ok (.sipush 255, 3) := by decide +kernel
theorem d23_26 : decode jdk_48_method_5_code 26 = .ok (.iand, 1) := by decide +kernel
theorem d23_27 : decode jdk_48_method_5_code 27 = .ok (.iadd, 1) := by decide +kernel
theorem d23_28 : decode jdk_48_method_5_code 28 = .ok (.istore_n 0, 1) := by decide +kernel
theorem d23_29 : decode jdk_48_method_5_code 29 = .ok (.iinc 5 1, 3) := by decide +kernel
theorem d23_32 : decode jdk_48_method_5_code 32 = .ok (.goto (-24), 3) := by decide +kernel
theorem d23_35 : decode jdk_48_method_5_code 35 = .ok (.iload_n 0, 1) := by decide +kernel
theorem d23_36 : decode jdk_48_method_5_code 36 = .ok (.ireturn, 1) := by decide +kernel
theorem pn7 : plainName "jdk/internal/util/ArraysSupport" = true := by first | (simp [plainName, overriddenIn]; done) | decide +kernel
theorem efHa2 (m : MethodId) (a1 : Addr) : entryFrame m #[(.int (0 : Int32)), (.ref a1), (.int (0 : Int32)), (.int (2 : Int32))] 6 = mkF m 0 #[iv (0 : Int32), rv a1, iv (0 : Int32), iv (2 : Int32), .unset, .unset] [] := by first | (simp [entryFrame, mkF, argsToLocals, Value.category]; done) | rfl
def QHa2 (Z : State) (a1 : Addr) (cz : Int32) (fv : Value) (k : ClassId) (u0 : Int32) (u1 : Int32) (h0 : Heap) (n0 : Nat) (v : Option Value) (h : Heap) (L : List Loc) : Prop := v = some (.int (((31 : Int32) * ((0 : Int32) + (u0 &&& (255 : Int32)))) + (u1 &&& (255 : Int32)))) ∧ Fr n0 L ∧ h = h0
set_option maxRecDepth 65536 in
set_option maxHeartbeats 40000000 in
theorem rmHa2 (l : Launch) (Z : State) (a0 : Array Value) (hw : HW a0 Z) (ws : List Jvm.Cond) (a1 : Addr) (cz : Int32) (fv : Value) (k : ClassId) (u0 : Int32) (u1 : Int32) (h0 : Heap) (n0 : Nat) (Z0 : n0 ≤ h0.size) (O0 : Old Z n0 h0) (J0 : Jd Z cz fv) (VV : Arv Z h0 a1 k .byte (2 : Int32) [(.int u0), (.int u1)] (.int (0 : Int32))) :
    MF l Z mN23 jdk_48_method_5_code 6 (some .int) ws rKHa2 #[(.int (0 : Int32)), (.ref a1), (.int (0 : Int32)), (.int (2 : Int32))] h0 (QHa2 Z a1 cz fv k u0 u1 h0 n0) := by
  refine MetFree.of_bodySF (plainFor_of_name pn7) hisR ?_
  intro p e s m args bl meth c s1 Bd hml0 hP hK
  obtain ⟨rfl, hZ, hh⟩ := hP
  have hx := Bd.exec
  have hby := Bd.bytes
  have B := @hb c _ hby
  have hown : s.vm.findClass "jdk/internal/util/ArraysSupport" = some m.cls := findClass_of_methodNamed Bd.named
  have hlk : meth.locks = false := BodyLoose.notSynchronized Bd
  have hrt : ∀ {v : Option Value}, meth.sig.returnType = none → v = none := fun h => by rw [Bd.returns] at h; cases h
  have X0 : Stand p l e rKHa2 s m #[(.int (0 : Int32)), (.ref a1), (.int (0 : Int32)), (.int (2 : Int32))] bl meth c s1 [] 0 0 := Stand.of_body Bd
  have e0 : s1.heap = h0 := by rw [← hh, Bd.state]; rfl
  have N0 := Fr.nil n0
  obtain ⟨EF, hEF⟩ : ∃ f, f = entryFrame m #[(.int (0 : Int32)), (.ref a1), (.int (0 : Int32)), (.int (2 : Int32))] 6 := ⟨_, rfl⟩
  have pre0 : Go p e bl s1 (mkF m 0 #[iv (0 : Int32), rv a1, iv (0 : Int32), iv (2 : Int32), .unset, .unset] []) s1 EF := fun t k => by rw [hEF]; exact castTop (efHa2 m a1) k
  have pre1 : Go p e bl s1 (mkF m 12 #[iv (0 : Int32), rv a1, iv (0 : Int32), iv (2 : Int32), iv (2 : Int32), iv (0 : Int32)] [(.int (2 : Int32)), (.int (0 : Int32))]) s1 EF := fun t k => pre0 t (by
   refine XS.iloadN X0.here hx rfl (B d23_0) rfl ?_
   refine XS.iloadN X0.here hx rfl (B d23_1) rfl ?_
   refine XS.iadd X0.here hx rfl (B d23_2) rfl ?_
   refine XS.istore X0.here hx rfl (B d23_3) rfl (l' := #[iv (0 : Int32), rv a1, iv (0 : Int32), iv (2 : Int32), iv (2 : Int32), .unset]) rfl ?_
   refine XS.iloadN X0.here hx rfl (B d23_5) rfl ?_
   refine XS.istore X0.here hx rfl (B d23_6) rfl (l' := #[iv (0 : Int32), rv a1, iv (0 : Int32), iv (2 : Int32), iv (2 : Int32), iv (0 : Int32)]) rfl ?_
   refine XS.iload X0.here hx rfl (B d23_8) rfl ?_
   exact XS.iload X0.here hx rfl (B d23_10) rfl k)
  have pre2 : Go p e bl s1 (mkF m 15 #[iv (0 : Int32), rv a1, iv (0 : Int32), iv (2 : Int32), iv (2 : Int32), iv (0 : Int32)] []) s1 EF := fun t k => pre1 t (XS.icmpNo X0.here hx rfl (B d23_12) rfl (tlt (by decide : (0 : Int32) < (2 : Int32))).2.1 k)
  have pre3 : Go p e bl s1 (mkF m 22 #[iv (0 : Int32), rv a1, iv (0 : Int32), iv (2 : Int32), iv (2 : Int32), iv (0 : Int32)] [(.int (0 : Int32)), (.ref a1), (.int (0 : Int32))]) s1 EF := fun t k => pre2 t (by
   refine XS.bipush X0.here hx rfl (B d23_15) ?_
   refine XS.iloadN X0.here hx rfl (B d23_17) rfl ?_
   refine XS.imul X0.here hx rfl (B d23_18) rfl ?_
   refine XS.aloadN X0.here hx rfl (B d23_19) rfl rfl ?_
   exact XS.iload X0.here hx rfl (B d23_20) rfl k)
  obtain ⟨cl4, Ar4, q4, Sz4, M4, H4, G4⟩ := id VV
  have hin4 : ¬ ((0 : Int32) < 0 ∨ cl4.slots.size ≤ ((0 : Int32)).toNatClampNeg) := inb_of Sz4 ⟨by decide, by decide⟩
  have hat4 : cl4.slots[((0 : Int32)).toNatClampNeg]? = some (.int u0) := Has.at H4 hin4 rfl
  have pre5 : Go p e bl s1 (mkF m 12 #[iv ((0 : Int32) + (u0 &&& (255 : Int32))), rv a1, iv (0 : Int32), iv (2 : Int32), iv (2 : Int32), iv (1 : Int32)] [(.int (2 : Int32)), (.int (1 : Int32))]) s1 EF := fun t k => pre3 t (by
   refine X0.baloadBytes hx (j := (0 : Int32)) (v := (.int u0)) (by rw [e0]; exact Ar4.1) (State.isArrayOf_alike hZ.alike Ar4.2.1) Ar4.2.2 hin4 hat4 (g := (mkF m 22 #[iv (0 : Int32), rv a1, iv (0 : Int32), iv (2 : Int32), iv (2 : Int32), iv (0 : Int32)] [(.int (0 : Int32)), (.ref a1), (.int (0 : Int32))])) rfl rfl (B d23_22) _ ?_
   refine XS.sipush X0.here hx rfl (B d23_23) ?_
   refine XS.iand X0.here hx rfl (B d23_26) rfl ?_
   refine XS.iadd X0.here hx rfl (B d23_27) rfl ?_
   refine XS.istoreN X0.here hx rfl (B d23_28) rfl (l' := #[iv ((0 : Int32) + (u0 &&& (255 : Int32))), rv a1, iv (0 : Int32), iv (2 : Int32), iv (2 : Int32), iv (0 : Int32)]) rfl ?_
   refine XS.iinc X0.here hx rfl (B d23_29) rfl (l' := #[iv ((0 : Int32) + (u0 &&& (255 : Int32))), rv a1, iv (0 : Int32), iv (2 : Int32), iv (2 : Int32), iv (1 : Int32)]) rfl ?_
   refine XS.goto X0.here hx rfl (pc0 := 32) (pc' := 8) rfl (B d23_32) (by decide) (by decide) ?_
   refine XS.iload X0.here hx rfl (B d23_8) rfl ?_
   exact XS.iload X0.here hx rfl (B d23_10) rfl k)
  have pre6 : Go p e bl s1 (mkF m 15 #[iv ((0 : Int32) + (u0 &&& (255 : Int32))), rv a1, iv (0 : Int32), iv (2 : Int32), iv (2 : Int32), iv (1 : Int32)] []) s1 EF := fun t k => pre5 t (XS.icmpNo X0.here hx rfl (B d23_12) rfl (tlt (by decide : (1 : Int32) < (2 : Int32))).2.1 k)
  have pre7 : Go p e bl s1 (mkF m 22 #[iv ((0 : Int32) + (u0 &&& (255 : Int32))), rv a1, iv (0 : Int32), iv (2 : Int32), iv (2 : Int32), iv (1 : Int32)] [(.int (1 : Int32)), (.ref a1), (.int ((31 : Int32) * ((0 : Int32) + (u0 &&& (255 : Int32)))))]) s1 EF := fun t k => pre6 t (by
   refine XS.bipush X0.here hx rfl (B d23_15) ?_
   refine XS.iloadN X0.here hx rfl (B d23_17) rfl ?_
   refine XS.imul X0.here hx rfl (B d23_18) rfl ?_
   refine XS.aloadN X0.here hx rfl (B d23_19) rfl rfl ?_
   exact XS.iload X0.here hx rfl (B d23_20) rfl k)
  obtain ⟨cl8, Ar8, q8, Sz8, M8, H8, G8⟩ := id VV
  have hin8 : ¬ ((1 : Int32) < 0 ∨ cl8.slots.size ≤ ((1 : Int32)).toNatClampNeg) := inb_of Sz8 ⟨by decide, by decide⟩
  have hat8 : cl8.slots[((1 : Int32)).toNatClampNeg]? = some (.int u1) := Has.at H8 hin8 rfl
  have pre9 : Go p e bl s1 (mkF m 12 #[iv (((31 : Int32) * ((0 : Int32) + (u0 &&& (255 : Int32)))) + (u1 &&& (255 : Int32))), rv a1, iv (0 : Int32), iv (2 : Int32), iv (2 : Int32), iv (2 : Int32)] [(.int (2 : Int32)), (.int (2 : Int32))]) s1 EF := fun t k => pre7 t (by
   refine X0.baloadBytes hx (j := (1 : Int32)) (v := (.int u1)) (by rw [e0]; exact Ar8.1) (State.isArrayOf_alike hZ.alike Ar8.2.1) Ar8.2.2 hin8 hat8 (g := (mkF m 22 #[iv ((0 : Int32) + (u0 &&& (255 : Int32))), rv a1, iv (0 : Int32), iv (2 : Int32), iv (2 : Int32), iv (1 : Int32)] [(.int (1 : Int32)), (.ref a1), (.int ((31 : Int32) * ((0 : Int32) + (u0 &&& (255 : Int32)))))])) rfl rfl (B d23_22) _ ?_
   refine XS.sipush X0.here hx rfl (B d23_23) ?_
   refine XS.iand X0.here hx rfl (B d23_26) rfl ?_
   refine XS.iadd X0.here hx rfl (B d23_27) rfl ?_
   refine XS.istoreN X0.here hx rfl (B d23_28) rfl (l' := #[iv (((31 : Int32) * ((0 : Int32) + (u0 &&& (255 : Int32)))) + (u1 &&& (255 : Int32))), rv a1, iv (0 : Int32), iv (2 : Int32), iv (2 : Int32), iv (1 : Int32)]) rfl ?_
   refine XS.iinc X0.here hx rfl (B d23_29) rfl (l' := #[iv (((31 : Int32) * ((0 : Int32) + (u0 &&& (255 : Int32)))) + (u1 &&& (255 : Int32))), rv a1, iv (0 : Int32), iv (2 : Int32), iv (2 : Int32), iv (2 : Int32)]) rfl ?_
   refine XS.goto X0.here hx rfl (pc0 := 32) (pc' := 8) rfl (B d23_32) (by decide) (by decide) ?_
   refine XS.iload X0.here hx rfl (B d23_8) rfl ?_
   exact XS.iload X0.here hx rfl (B d23_10) rfl k)
  have pre10 : Go p e bl s1 (mkF m 35 #[iv (((31 : Int32) * ((0 : Int32) + (u0 &&& (255 : Int32)))) + (u1 &&& (255 : Int32))), rv a1, iv (0 : Int32), iv (2 : Int32), iv (2 : Int32), iv (2 : Int32)] []) s1 EF := fun t k => pre9 t (XS.icmpYes X0.here hx rfl (pc0 := 12) (pc' := 35) rfl (B d23_12) rfl (flt (by decide : ¬ ((2 : Int32) < (2 : Int32)))).2.1 (by decide) (by decide) k)
  have pre11 : Go p e bl s1 (mkF m 36 #[iv (((31 : Int32) * ((0 : Int32) + (u0 &&& (255 : Int32)))) + (u1 &&& (255 : Int32))), rv a1, iv (0 : Int32), iv (2 : Int32), iv (2 : Int32), iv (2 : Int32)] [(.int (((31 : Int32) * ((0 : Int32) + (u0 &&& (255 : Int32)))) + (u1 &&& (255 : Int32))))]) s1 EF := fun t k => pre10 t (by
   exact XS.iloadN X0.here hx rfl (B d23_35) rfl k)
  exact fin1 X0 (v := some (.int (((31 : Int32) * ((0 : Int32) + (u0 &&& (255 : Int32)))) + (u1 &&& (255 : Int32))))) hrt hlk (wl rfl) (wl rfl) (by rw [e0]; exact ⟨rfl, N0, rfl⟩) (fun fs hr => hEF ▸ pre11 _ (retOut X0 hx Bd.returns rfl (Or.inl ⟨rfl, Or.inl rfl, _, rfl⟩) (B d23_36) hr))
abbrev rKHb2 : Room := { frames := 1, cells := 0, slots := 0, locals := 17 }
theorem d24_0 : decode jdk_48_method_4_code 0 = .ok (.iload 4, 2) := by decide +kernel
theorem d24_2 : decode jdk_48_method_4_code 2 = .ok (.tableswitch 127 4 10 #[42, 55, 127, 127, 88, 101, 114], 42) := by decide +kernel
theorem d24_44 : decode jdk_48_method_4_code 44 = .ok (.iload_n 3, 1) := by decide +kernel
theorem d24_45 : decode jdk_48_method_4_code 45 = .ok (.aload_n 0, 1) := by decide +kernel
theorem d24_46 : decode jdk_48_method_4_code 46 = .ok (.checkcast 60, 3) := by decide +kernel
theorem d24_49 : decode jdk_48_method_4_code 49 = .ok (.iload_n 1, 1) := by decide +kernel
theorem d24_50 : decode jdk_48_method_4_code 50 = .ok (.iload_n 2, 1) := by decide +kernel
theorem d24_51 : decode jdk_48_method_4_code 51 = .ok (.invokestatic 62, 3) := by decide +kernel
theorem d24_54 : decode jdk_48_method_4_code 54 = .ok (.goto 103, 3) := by decide +kernel
theorem d24_157 : decode jdk_48_method_4_code 157 = .ok (.ireturn, 1) := by decide +kernel
theorem pd17 : parseMethodDescriptor "(I[BII)I" = some ⟨[.int, (.array .byte), .int, .int], some .int⟩ := by decide +kernel
theorem efHb2 (m : MethodId) (a1 : Addr) : entryFrame m #[(.ref a1), (.int (0 : Int32)), (.int (2 : Int32)), (.int (0 : Int32)), (.int (4 : Int32))] 5 = mkF m 0 #[rv a1, iv (0 : Int32), iv (2 : Int32), iv (0 : Int32), iv (4 : Int32)] [] := by first | (simp [entryFrame, mkF, argsToLocals, Value.category]; done) | rfl
def QHb2 (Z : State) (a1 : Addr) (cz : Int32) (fv : Value) (k : ClassId) (u0 : Int32) (u1 : Int32) (h0 : Heap) (n0 : Nat) (v : Option Value) (h : Heap) (L : List Loc) : Prop := v = some (.int (((31 : Int32) * ((0 : Int32) + (u0 &&& (255 : Int32)))) + (u1 &&& (255 : Int32)))) ∧ Fr n0 L ∧ h = h0
set_option maxRecDepth 65536 in
set_option maxHeartbeats 40000000 in
theorem rmHb2 (l : Launch) (Z : State) (a0 : Array Value) (hw : HW a0 Z) (ws : List Jvm.Cond) (a1 : Addr) (cz : Int32) (fv : Value) (k : ClassId) (u0 : Int32) (u1 : Int32) (h0 : Heap) (n0 : Nat) (Z0 : n0 ≤ h0.size) (O0 : Old Z n0 h0) (J0 : Jd Z cz fv) (VV : Arv Z h0 a1 k .byte (2 : Int32) [(.int u0), (.int u1)] (.int (0 : Int32))) (EB : Exa Z h0 a1 "[B") :
    MF l Z mN24 jdk_48_method_4_code 5 (some .int) ws rKHb2 #[(.ref a1), (.int (0 : Int32)), (.int (2 : Int32)), (.int (0 : Int32)), (.int (4 : Int32))] h0 (QHb2 Z a1 cz fv k u0 u1 h0 n0) := by
  refine MetFree.of_bodySF (plainFor_of_name pn7) hisR ?_
  intro p e s m args bl meth c s1 Bd hml0 hP hK
  obtain ⟨rfl, hZ, hh⟩ := hP
  have hx := Bd.exec
  have hby := Bd.bytes
  have B := @hb c _ hby
  have hM := fun {n : Nat} (h : n = 5) => h.trans hml0.symm
  have hown : s.vm.findClass "jdk/internal/util/ArraysSupport" = some m.cls := findClass_of_methodNamed Bd.named
  have hlk : meth.locks = false := BodyLoose.notSynchronized Bd
  have hrt : ∀ {v : Option Value}, meth.sig.returnType = none → v = none := fun h => by rw [Bd.returns] at h; cases h
  have X0 : Stand p l e rKHb2 s m #[(.ref a1), (.int (0 : Int32)), (.int (2 : Int32)), (.int (0 : Int32)), (.int (4 : Int32))] bl meth c s1 [] 0 0 := Stand.of_body Bd
  have e0 : s1.heap = h0 := by rw [← hh, Bd.state]; rfl
  have N0 := Fr.nil n0
  obtain ⟨EF, hEF⟩ : ∃ f, f = entryFrame m #[(.ref a1), (.int (0 : Int32)), (.int (2 : Int32)), (.int (0 : Int32)), (.int (4 : Int32))] 5 := ⟨_, rfl⟩
  have pre0 : Go p e bl s1 (mkF m 0 #[rv a1, iv (0 : Int32), iv (2 : Int32), iv (0 : Int32), iv (4 : Int32)] []) s1 EF := fun t k => by rw [hEF]; exact castTop (efHb2 m a1) k
  have pre1 : Go p e bl s1 (mkF m 46 #[rv a1, iv (0 : Int32), iv (2 : Int32), iv (0 : Int32), iv (4 : Int32)] [(.ref a1), (.int (0 : Int32))]) s1 EF := fun t k => pre0 t (by
   refine XS.iload X0.here hx rfl (B d24_0) rfl ?_
   refine XS.tswIn X0.here hx rfl (pc0 := 2) (pc' := 44) (o := 42) rfl (B d24_2) rfl (by decide) (by decide) (by decide) (by decide) ?_
   refine XS.iloadN X0.here hx rfl (B d24_44) rfl ?_
   exact XS.aloadN X0.here hx rfl (B d24_45) rfl rfl k)
  obtain ⟨T2, X2, e2, st2⟩ := castY X0 hx hZ hown (hw _ (mW 139 rfl)) e0 (Ins.self EB) (g := (mkF m 46 #[rv a1, iv (0 : Int32), iv (2 : Int32), iv (0 : Int32), iv (4 : Int32)] [(.ref a1), (.int (0 : Int32))])) rfl rfl (B d24_46)
  have pre3 : Go p e bl T2 (mkF m 49 #[rv a1, iv (0 : Int32), iv (2 : Int32), iv (0 : Int32), iv (4 : Int32)] [(.ref a1), (.int (0 : Int32))]) s1 EF := fun t k => pre1 t (st2 t k)
  have pre4 : Go p e bl T2 (mkF m 51 #[rv a1, iv (0 : Int32), iv (2 : Int32), iv (0 : Int32), iv (4 : Int32)] [(.int (2 : Int32)), (.int (0 : Int32)), (.ref a1), (.int (0 : Int32))]) s1 EF := fun t k => pre3 t (by
   refine XS.iloadN X2.here hx rfl (B d24_49) rfl ?_
   exact XS.iloadN X2.here hx rfl (B d24_50) rfl k)
  obtain ⟨_, _, ⟨T5, L5, k5, n5⟩, -, X5, ⟨Lc5, hQ5, l5, y5, z5⟩, st5⟩ := Jvm.LawKit.callS X2 hx (y := mN23) hown (mvT hZ (hw _ (mW 141 rfl))) (mvT hZ (hw _ (mW 142 rfl))) (mvT hZ (hw _ (mW 137 rfl))) (mvT hZ (hw _ (mW 143 rfl))) (by decide) (backOf (W := 0) (rmHa2 l Z a0 hw [] a1 cz fv k u0 u1 h0 n0 Z0 O0 J0 VV) hZ (hw _ (mW 143 rfl)) (hw _ (mW 137 rfl)) (by decide) (by decide)) (g := (mkF m 51 #[rv a1, iv (0 : Int32), iv (2 : Int32), iv (0 : Int32), iv (4 : Int32)] [(.int (2 : Int32)), (.int (0 : Int32)), (.ref a1), (.int (0 : Int32))])) rfl (hM rfl) (argsL := [(.int (0 : Int32)), (.ref a1), (.int (0 : Int32)), (.int (2 : Int32))]) (rest := []) (lenOf pd17 rfl) rfl (Nat.le_of_eq rfl) (B d24_51) (fun _ _ => ⟨rfl, e2, wl rfl, wl rfl⟩)
  dsimp only [Pt.U, Pt.locs, Pt.cells, Pt.slots] at X5 l5 y5 z5 st5 hQ5
  subst l5 y5 z5
  obtain ⟨rfl, N5q, hq5⟩ := hQ5
  have N5 := Fr.app N0 N5q
  have pre6 : Go p e bl T5 (mkF m 54 #[rv a1, iv (0 : Int32), iv (2 : Int32), iv (0 : Int32), iv (4 : Int32)] [(.int (((31 : Int32) * ((0 : Int32) + (u0 &&& (255 : Int32)))) + (u1 &&& (255 : Int32))))]) s1 EF := fun t k => pre4 t (st5 t k)
  have e5 : T5.heap = h0 := hq5
  have pre7 : Go p e bl T5 (mkF m 157 #[rv a1, iv (0 : Int32), iv (2 : Int32), iv (0 : Int32), iv (4 : Int32)] [(.int (((31 : Int32) * ((0 : Int32) + (u0 &&& (255 : Int32)))) + (u1 &&& (255 : Int32))))]) s1 EF := fun t k => pre6 t (by
   exact XS.goto X5.here hx rfl (pc0 := 54) (pc' := 157) rfl (B d24_54) (by decide) (by decide) k)
  exact fin1 X5 (v := some (.int (((31 : Int32) * ((0 : Int32) + (u0 &&& (255 : Int32)))) + (u1 &&& (255 : Int32))))) hrt hlk (wl rfl) (wl rfl) (by rw [e5]; exact ⟨rfl, N5, rfl⟩) (fun fs hr => hEF ▸ pre7 _ (retOut X5 hx Bd.returns rfl (Or.inl ⟨rfl, Or.inl rfl, _, rfl⟩) (B d24_157) hr))
abbrev rKHa3 : Room := { frames := 0, cells := 0, slots := 0, locals := 0 }
theorem efHa3 (m : MethodId) (a1 : Addr) : entryFrame m #[(.int (0 : Int32)), (.ref a1), (.int (0 : Int32)), (.int (3 : Int32))] 6 = mkF m 0 #[iv (0 : Int32), rv a1, iv (0 : Int32), iv (3 : Int32), .unset, .unset] [] := by first | (simp [entryFrame, mkF, argsToLocals, Value.category]; done) | rfl
def QHa3 (Z : State) (a1 : Addr) (cz : Int32) (fv : Value) (k : ClassId) (u0 : Int32) (u1 : Int32) (u2 : Int32) (h0 : Heap) (n0 : Nat) (v : Option Value) (h : Heap) (L : List Loc) : Prop := v = some (.int (((31 : Int32) * (((31 : Int32) * ((0 : Int32) + (u0 &&& (255 : Int32)))) + (u1 &&& (255 : Int32)))) + (u2 &&& (255 : Int32)))) ∧ Fr n0 L ∧ h = h0
set_option maxRecDepth 65536 in
set_option maxHeartbeats 40000000 in
theorem rmHa3 (l : Launch) (Z : State) (a0 : Array Value) (hw : HW a0 Z) (ws : List Jvm.Cond) (a1 : Addr) (cz : Int32) (fv : Value) (k : ClassId) (u0 : Int32) (u1 : Int32) (u2 : Int32) (h0 : Heap) (n0 : Nat) (Z0 : n0 ≤ h0.size) (O0 : Old Z n0 h0) (J0 : Jd Z cz fv) (VV : Arv Z h0 a1 k .byte (3 : Int32) [(.int u0), (.int u1), (.int u2)] (.int (0 : Int32))) :
    MF l Z mN23 jdk_48_method_5_code 6 (some .int) ws rKHa3 #[(.int (0 : Int32)), (.ref a1), (.int (0 : Int32)), (.int (3 : Int32))] h0 (QHa3 Z a1 cz fv k u0 u1 u2 h0 n0) := by
  refine MetFree.of_bodySF (plainFor_of_name pn7) hisR ?_
  intro p e s m args bl meth c s1 Bd hml0 hP hK
  obtain ⟨rfl, hZ, hh⟩ := hP
  have hx := Bd.exec
  have hby := Bd.bytes
  have B := @hb c _ hby
  have hown : s.vm.findClass "jdk/internal/util/ArraysSupport" = some m.cls := findClass_of_methodNamed Bd.named
  have hlk : meth.locks = false := BodyLoose.notSynchronized Bd
  have hrt : ∀ {v : Option Value}, meth.sig.returnType = none → v = none := fun h => by rw [Bd.returns] at h; cases h
  have X0 : Stand p l e rKHa3 s m #[(.int (0 : Int32)), (.ref a1), (.int (0 : Int32)), (.int (3 : Int32))] bl meth c s1 [] 0 0 := Stand.of_body Bd
  have e0 : s1.heap = h0 := by rw [← hh, Bd.state]; rfl
  have N0 := Fr.nil n0
  obtain ⟨EF, hEF⟩ : ∃ f, f = entryFrame m #[(.int (0 : Int32)), (.ref a1), (.int (0 : Int32)), (.int (3 : Int32))] 6 := ⟨_, rfl⟩
  have pre0 : Go p e bl s1 (mkF m 0 #[iv (0 : Int32), rv a1, iv (0 : Int32), iv (3 : Int32), .unset, .unset] []) s1 EF := fun t k => by rw [hEF]; exact castTop (efHa3 m a1) k
  have pre1 : Go p e bl s1 (mkF m 12 #[iv (0 : Int32), rv a1, iv (0 : Int32), iv (3 : Int32), iv (3 : Int32), iv (0 : Int32)] [(.int (3 : Int32)), (.int (0 : Int32))]) s1 EF := fun t k => pre0 t (by
   refine XS.iloadN X0.here hx rfl (B d23_0) rfl ?_
   refine XS.iloadN X0.here hx rfl (B d23_1) rfl ?_
   refine XS.iadd X0.here hx rfl (B d23_2) rfl ?_
   refine XS.istore X0.here hx rfl (B d23_3) rfl (l' := #[iv (0 : Int32), rv a1, iv (0 : Int32), iv (3 : Int32), iv (3 : Int32), .unset]) rfl ?_
   refine XS.iloadN X0.here hx rfl (B d23_5) rfl ?_
   refine XS.istore X0.here hx rfl (B d23_6) rfl (l' := #[iv (0 : Int32), rv a1, iv (0 : Int32), iv (3 : Int32), iv (3 : Int32), iv (0 : Int32)]) rfl ?_
   refine XS.iload X0.here hx rfl (B d23_8) rfl ?_
   exact XS.iload X0.here hx rfl (B d23_10) rfl k)
  have pre2 : Go p e bl s1 (mkF m 15 #[iv (0 : Int32), rv a1, iv (0 : Int32), iv (3 : Int32), iv (3 : Int32), iv (0 : Int32)] []) s1 EF := fun t k => pre1 t (XS.icmpNo X0.here hx rfl (B d23_12) rfl (tlt (by decide : (0 : Int32) < (3 : Int32))).2.1 k)
  have pre3 : Go p e bl s1 (mkF m 22 #[iv (0 : Int32), rv a1, iv (0 : Int32), iv (3 : Int32), iv (3 : Int32), iv (0 : Int32)] [(.int (0 : Int32)), (.ref a1), (.int (0 : Int32))]) s1 EF := fun t k => pre2 t (by
   refine XS.bipush X0.here hx rfl (B d23_15) ?_
   refine XS.iloadN X0.here hx rfl (B d23_17) rfl ?_
   refine XS.imul X0.here hx rfl (B d23_18) rfl ?_
   refine XS.aloadN X0.here hx rfl (B d23_19) rfl rfl ?_
   exact XS.iload X0.here hx rfl (B d23_20) rfl k)
  obtain ⟨cl4, Ar4, q4, Sz4, M4, H4, G4⟩ := id VV
  have hin4 : ¬ ((0 : Int32) < 0 ∨ cl4.slots.size ≤ ((0 : Int32)).toNatClampNeg) := inb_of Sz4 ⟨by decide, by decide⟩
  have hat4 : cl4.slots[((0 : Int32)).toNatClampNeg]? = some (.int u0) := Has.at H4 hin4 rfl
  have pre5 : Go p e bl s1 (mkF m 12 #[iv ((0 : Int32) + (u0 &&& (255 : Int32))), rv a1, iv (0 : Int32), iv (3 : Int32), iv (3 : Int32), iv (1 : Int32)] [(.int (3 : Int32)), (.int (1 : Int32))]) s1 EF := fun t k => pre3 t (by
   refine X0.baloadBytes hx (j := (0 : Int32)) (v := (.int u0)) (by rw [e0]; exact Ar4.1) (State.isArrayOf_alike hZ.alike Ar4.2.1) Ar4.2.2 hin4 hat4 (g := (mkF m 22 #[iv (0 : Int32), rv a1, iv (0 : Int32), iv (3 : Int32), iv (3 : Int32), iv (0 : Int32)] [(.int (0 : Int32)), (.ref a1), (.int (0 : Int32))])) rfl rfl (B d23_22) _ ?_
   refine XS.sipush X0.here hx rfl (B d23_23) ?_
   refine XS.iand X0.here hx rfl (B d23_26) rfl ?_
   refine XS.iadd X0.here hx rfl (B d23_27) rfl ?_
   refine XS.istoreN X0.here hx rfl (B d23_28) rfl (l' := #[iv ((0 : Int32) + (u0 &&& (255 : Int32))), rv a1, iv (0 : Int32), iv (3 : Int32), iv (3 : Int32), iv (0 : Int32)]) rfl ?_
   refine XS.iinc X0.here hx rfl (B d23_29) rfl (l' := #[iv ((0 : Int32) + (u0 &&& (255 : Int32))), rv a1, iv (0 : Int32), iv (3 : Int32), iv (3 : Int32), iv (1 : Int32)]) rfl ?_
   refine XS.goto X0.here hx rfl (pc0 := 32) (pc' := 8) rfl (B d23_32) (by decide) (by decide) ?_
   refine XS.iload X0.here hx rfl (B d23_8) rfl ?_
   exact XS.iload X0.here hx rfl (B d23_10) rfl k)
  have pre6 : Go p e bl s1 (mkF m 15 #[iv ((0 : Int32) + (u0 &&& (255 : Int32))), rv a1, iv (0 : Int32), iv (3 : Int32), iv (3 : Int32), iv (1 : Int32)] []) s1 EF := fun t k => pre5 t (XS.icmpNo X0.here hx rfl (B d23_12) rfl (tlt (by decide : (1 : Int32) < (3 : Int32))).2.1 k)
  have pre7 : Go p e bl s1 (mkF m 22 #[iv ((0 : Int32) + (u0 &&& (255 : Int32))), rv a1, iv (0 : Int32), iv (3 : Int32), iv (3 : Int32), iv (1 : Int32)] [(.int (1 : Int32)), (.ref a1), (.int ((31 : Int32) * ((0 : Int32) + (u0 &&& (255 : Int32)))))]) s1 EF := fun t k => pre6 t (by
   refine XS.bipush X0.here hx rfl (B d23_15) ?_
   refine XS.iloadN X0.here hx rfl (B d23_17) rfl ?_
   refine XS.imul X0.here hx rfl (B d23_18) rfl ?_
   refine XS.aloadN X0.here hx rfl (B d23_19) rfl rfl ?_
   exact XS.iload X0.here hx rfl (B d23_20) rfl k)
  obtain ⟨cl8, Ar8, q8, Sz8, M8, H8, G8⟩ := id VV
  have hin8 : ¬ ((1 : Int32) < 0 ∨ cl8.slots.size ≤ ((1 : Int32)).toNatClampNeg) := inb_of Sz8 ⟨by decide, by decide⟩
  have hat8 : cl8.slots[((1 : Int32)).toNatClampNeg]? = some (.int u1) := Has.at H8 hin8 rfl
  have pre9 : Go p e bl s1 (mkF m 12 #[iv (((31 : Int32) * ((0 : Int32) + (u0 &&& (255 : Int32)))) + (u1 &&& (255 : Int32))), rv a1, iv (0 : Int32), iv (3 : Int32), iv (3 : Int32), iv (2 : Int32)] [(.int (3 : Int32)), (.int (2 : Int32))]) s1 EF := fun t k => pre7 t (by
   refine X0.baloadBytes hx (j := (1 : Int32)) (v := (.int u1)) (by rw [e0]; exact Ar8.1) (State.isArrayOf_alike hZ.alike Ar8.2.1) Ar8.2.2 hin8 hat8 (g := (mkF m 22 #[iv ((0 : Int32) + (u0 &&& (255 : Int32))), rv a1, iv (0 : Int32), iv (3 : Int32), iv (3 : Int32), iv (1 : Int32)] [(.int (1 : Int32)), (.ref a1), (.int ((31 : Int32) * ((0 : Int32) + (u0 &&& (255 : Int32)))))])) rfl rfl (B d23_22) _ ?_
   refine XS.sipush X0.here hx rfl (B d23_23) ?_
   refine XS.iand X0.here hx rfl (B d23_26) rfl ?_
   refine XS.iadd X0.here hx rfl (B d23_27) rfl ?_
   refine XS.istoreN X0.here hx rfl (B d23_28) rfl (l' := #[iv (((31 : Int32) * ((0 : Int32) + (u0 &&& (255 : Int32)))) + (u1 &&& (255 : Int32))), rv a1, iv (0 : Int32), iv (3 : Int32), iv (3 : Int32), iv (1 : Int32)]) rfl ?_
   refine XS.iinc X0.here hx rfl (B d23_29) rfl (l' := #[iv (((31 : Int32) * ((0 : Int32) + (u0 &&& (255 : Int32)))) + (u1 &&& (255 : Int32))), rv a1, iv (0 : Int32), iv (3 : Int32), iv (3 : Int32), iv (2 : Int32)]) rfl ?_
   refine XS.goto X0.here hx rfl (pc0 := 32) (pc' := 8) rfl (B d23_32) (by decide) (by decide) ?_
   refine XS.iload X0.here hx rfl (B d23_8) rfl ?_
   exact XS.iload X0.here hx rfl (B d23_10) rfl k)
  have pre10 : Go p e bl s1 (mkF m 15 #[iv (((31 : Int32) * ((0 : Int32) + (u0 &&& (255 : Int32)))) + (u1 &&& (255 : Int32))), rv a1, iv (0 : Int32), iv (3 : Int32), iv (3 : Int32), iv (2 : Int32)] []) s1 EF := fun t k => pre9 t (XS.icmpNo X0.here hx rfl (B d23_12) rfl (tlt (by decide : (2 : Int32) < (3 : Int32))).2.1 k)
  have pre11 : Go p e bl s1 (mkF m 22 #[iv (((31 : Int32) * ((0 : Int32) + (u0 &&& (255 : Int32)))) + (u1 &&& (255 : Int32))), rv a1, iv (0 : Int32), iv (3 : Int32), iv (3 : Int32), iv (2 : Int32)] [(.int (2 : Int32)), (.ref a1), (.int ((31 : Int32) * (((31 : Int32) * ((0 : Int32) + (u0 &&& (255 : Int32)))) + (u1 &&& (255 : Int32)))))]) s1 EF := fun t k => pre10 t (by
   refine XS.bipush X0.here hx rfl (B d23_15) ?_
   refine XS.iloadN X0.here hx rfl (B d23_17) rfl ?_
   refine XS.imul X0.here hx rfl (B d23_18) rfl ?_
   refine XS.aloadN X0.here hx rfl (B d23_19) rfl rfl ?_
   exact XS.iload X0.here hx rfl (B d23_20) rfl k)
  obtain ⟨cl12, Ar12, q12, Sz12, M12, H12, G12⟩ := id VV
  have hin12 : ¬ ((2 : Int32) < 0 ∨ cl12.slots.size ≤ ((2 : Int32)).toNatClampNeg) := inb_of Sz12 ⟨by decide, by decide⟩
  have hat12 : cl12.slots[((2 : Int32)).toNatClampNeg]? = some (.int u2) := Has.at H12 hin12 rfl
  have pre13 : Go p e bl s1 (mkF m 12 #[iv (((31 : Int32) * (((31 : Int32) * ((0 : Int32) + (u0 &&& (255 : Int32)))) + (u1 &&& (255 : Int32)))) + (u2 &&& (255 : Int32))), rv a1, iv (0 : Int32), iv (3 : Int32), iv (3 : Int32), iv (3 : Int32)] [(.int (3 : Int32)), (.int (3 : Int32))]) s1 EF := fun t k => pre11 t (by
   refine X0.baloadBytes hx (j := (2 : Int32)) (v := (.int u2)) (by rw [e0]; exact Ar12.1) (State.isArrayOf_alike hZ.alike Ar12.2.1) Ar12.2.2 hin12 hat12 (g := (mkF m 22 #[iv (((31 : Int32) * ((0 : Int32) + (u0 &&& (255 : Int32)))) + (u1 &&& (255 : Int32))), rv a1, iv (0 : Int32), iv (3 : Int32), iv (3 : Int32), iv (2 : Int32)] [(.int (2 : Int32)), (.ref a1), (.int ((31 : Int32) * (((31 : Int32) * ((0 : Int32) + (u0 &&& (255 : Int32)))) + (u1 &&& (255 : Int32)))))])) rfl rfl (B d23_22) _ ?_
   refine XS.sipush X0.here hx rfl (B d23_23) ?_
   refine XS.iand X0.here hx rfl (B d23_26) rfl ?_
   refine XS.iadd X0.here hx rfl (B d23_27) rfl ?_
   refine XS.istoreN X0.here hx rfl (B d23_28) rfl (l' := #[iv (((31 : Int32) * (((31 : Int32) * ((0 : Int32) + (u0 &&& (255 : Int32)))) + (u1 &&& (255 : Int32)))) + (u2 &&& (255 : Int32))), rv a1, iv (0 : Int32), iv (3 : Int32), iv (3 : Int32), iv (2 : Int32)]) rfl ?_
   refine XS.iinc X0.here hx rfl (B d23_29) rfl (l' := #[iv (((31 : Int32) * (((31 : Int32) * ((0 : Int32) + (u0 &&& (255 : Int32)))) + (u1 &&& (255 : Int32)))) + (u2 &&& (255 : Int32))), rv a1, iv (0 : Int32), iv (3 : Int32), iv (3 : Int32), iv (3 : Int32)]) rfl ?_
   refine XS.goto X0.here hx rfl (pc0 := 32) (pc' := 8) rfl (B d23_32) (by decide) (by decide) ?_
   refine XS.iload X0.here hx rfl (B d23_8) rfl ?_
   exact XS.iload X0.here hx rfl (B d23_10) rfl k)
  have pre14 : Go p e bl s1 (mkF m 35 #[iv (((31 : Int32) * (((31 : Int32) * ((0 : Int32) + (u0 &&& (255 : Int32)))) + (u1 &&& (255 : Int32)))) + (u2 &&& (255 : Int32))), rv a1, iv (0 : Int32), iv (3 : Int32), iv (3 : Int32), iv (3 : Int32)] []) s1 EF := fun t k => pre13 t (XS.icmpYes X0.here hx rfl (pc0 := 12) (pc' := 35) rfl (B d23_12) rfl (flt (by decide : ¬ ((3 : Int32) < (3 : Int32)))).2.1 (by decide) (by decide) k)
  have pre15 : Go p e bl s1 (mkF m 36 #[iv (((31 : Int32) * (((31 : Int32) * ((0 : Int32) + (u0 &&& (255 : Int32)))) + (u1 &&& (255 : Int32)))) + (u2 &&& (255 : Int32))), rv a1, iv (0 : Int32), iv (3 : Int32), iv (3 : Int32), iv (3 : Int32)] [(.int (((31 : Int32) * (((31 : Int32) * ((0 : Int32) + (u0 &&& (255 : Int32)))) + (u1 &&& (255 : Int32)))) + (u2 &&& (255 : Int32))))]) s1 EF := fun t k => pre14 t (by
   exact XS.iloadN X0.here hx rfl (B d23_35) rfl k)
  exact fin1 X0 (v := some (.int (((31 : Int32) * (((31 : Int32) * ((0 : Int32) + (u0 &&& (255 : Int32)))) + (u1 &&& (255 : Int32)))) + (u2 &&& (255 : Int32))))) hrt hlk (wl rfl) (wl rfl) (by rw [e0]; exact ⟨rfl, N0, rfl⟩) (fun fs hr => hEF ▸ pre15 _ (retOut X0 hx Bd.returns rfl (Or.inl ⟨rfl, Or.inl rfl, _, rfl⟩) (B d23_36) hr))
abbrev rKHb3 : Room := { frames := 1, cells := 0, slots := 0, locals := 17 }
theorem efHb3 (m : MethodId) (a1 : Addr) : entryFrame m #[(.ref a1), (.int (0 : Int32)), (.int (3 : Int32)), (.int (0 : Int32)), (.int (4 : Int32))] 5 = mkF m 0 #[rv a1, iv (0 : Int32), iv (3 : Int32), iv (0 : Int32), iv (4 : Int32)] [] := by first | (simp [entryFrame, mkF, argsToLocals, Value.category]; done) | rfl
def QHb3 (Z : State) (a1 : Addr) (cz : Int32) (fv : Value) (k : ClassId) (u0 : Int32) (u1 : Int32) (u2 : Int32) (h0 : Heap) (n0 : Nat) (v : Option Value) (h : Heap) (L : List Loc) : Prop := v = some (.int (((31 : Int32) * (((31 : Int32) * ((0 : Int32) + (u0 &&& (255 : Int32)))) + (u1 &&& (255 : Int32)))) + (u2 &&& (255 : Int32)))) ∧ Fr n0 L ∧ h = h0
set_option maxRecDepth 65536 in
set_option maxHeartbeats 40000000 in
theorem rmHb3 (l : Launch) (Z : State) (a0 : Array Value) (hw : HW a0 Z) (ws : List Jvm.Cond) (a1 : Addr) (cz : Int32) (fv : Value) (k : ClassId) (u0 : Int32) (u1 : Int32) (u2 : Int32) (h0 : Heap) (n0 : Nat) (Z0 : n0 ≤ h0.size) (O0 : Old Z n0 h0) (J0 : Jd Z cz fv) (VV : Arv Z h0 a1 k .byte (3 : Int32) [(.int u0), (.int u1), (.int u2)] (.int (0 : Int32))) (EB : Exa Z h0 a1 "[B") :
    MF l Z mN24 jdk_48_method_4_code 5 (some .int) ws rKHb3 #[(.ref a1), (.int (0 : Int32)), (.int (3 : Int32)), (.int (0 : Int32)), (.int (4 : Int32))] h0 (QHb3 Z a1 cz fv k u0 u1 u2 h0 n0) := by
  refine MetFree.of_bodySF (plainFor_of_name pn7) hisR ?_
  intro p e s m args bl meth c s1 Bd hml0 hP hK
  obtain ⟨rfl, hZ, hh⟩ := hP
  have hx := Bd.exec
  have hby := Bd.bytes
  have B := @hb c _ hby
  have hM := fun {n : Nat} (h : n = 5) => h.trans hml0.symm
  have hown : s.vm.findClass "jdk/internal/util/ArraysSupport" = some m.cls := findClass_of_methodNamed Bd.named
  have hlk : meth.locks = false := BodyLoose.notSynchronized Bd
  have hrt : ∀ {v : Option Value}, meth.sig.returnType = none → v = none := fun h => by rw [Bd.returns] at h; cases h
  have X0 : Stand p l e rKHb3 s m #[(.ref a1), (.int (0 : Int32)), (.int (3 : Int32)), (.int (0 : Int32)), (.int (4 : Int32))] bl meth c s1 [] 0 0 := Stand.of_body Bd
  have e0 : s1.heap = h0 := by rw [← hh, Bd.state]; rfl
  have N0 := Fr.nil n0
  obtain ⟨EF, hEF⟩ : ∃ f, f = entryFrame m #[(.ref a1), (.int (0 : Int32)), (.int (3 : Int32)), (.int (0 : Int32)), (.int (4 : Int32))] 5 := ⟨_, rfl⟩
  have pre0 : Go p e bl s1 (mkF m 0 #[rv a1, iv (0 : Int32), iv (3 : Int32), iv (0 : Int32), iv (4 : Int32)] []) s1 EF := fun t k => by rw [hEF]; exact castTop (efHb3 m a1) k
  have pre1 : Go p e bl s1 (mkF m 46 #[rv a1, iv (0 : Int32), iv (3 : Int32), iv (0 : Int32), iv (4 : Int32)] [(.ref a1), (.int (0 : Int32))]) s1 EF := fun t k => pre0 t (by
   refine XS.iload X0.here hx rfl (B d24_0) rfl ?_
   refine XS.tswIn X0.here hx rfl (pc0 := 2) (pc' := 44) (o := 42) rfl (B d24_2) rfl (by decide) (by decide) (by decide) (by decide) ?_
   refine XS.iloadN X0.here hx rfl (B d24_44) rfl ?_
   exact XS.aloadN X0.here hx rfl (B d24_45) rfl rfl k)
  obtain ⟨T2, X2, e2, st2⟩ := castY X0 hx hZ hown (hw _ (mW 139 rfl)) e0 (Ins.self EB) (g := (mkF m 46 #[rv a1, iv (0 : Int32), iv (3 : Int32), iv (0 : Int32), iv (4 : Int32)] [(.ref a1), (.int (0 : Int32))])) rfl rfl (B d24_46)
  have pre3 : Go p e bl T2 (mkF m 49 #[rv a1, iv (0 : Int32), iv (3 : Int32), iv (0 : Int32), iv (4 : Int32)] [(.ref a1), (.int (0 : Int32))]) s1 EF := fun t k => pre1 t (st2 t k)
  have pre4 : Go p e bl T2 (mkF m 51 #[rv a1, iv (0 : Int32), iv (3 : Int32), iv (0 : Int32), iv (4 : Int32)] [(.int (3 : Int32)), (.int (0 : Int32)), (.ref a1), (.int (0 : Int32))]) s1 EF := fun t k => pre3 t (by
   refine XS.iloadN X2.here hx rfl (B d24_49) rfl ?_
   exact XS.iloadN X2.here hx rfl (B d24_50) rfl k)
  obtain ⟨_, _, ⟨T5, L5, k5, n5⟩, -, X5, ⟨Lc5, hQ5, l5, y5, z5⟩, st5⟩ := Jvm.LawKit.callS X2 hx (y := mN23) hown (mvT hZ (hw _ (mW 141 rfl))) (mvT hZ (hw _ (mW 142 rfl))) (mvT hZ (hw _ (mW 137 rfl))) (mvT hZ (hw _ (mW 143 rfl))) (by decide) (backOf (W := 0) (rmHa3 l Z a0 hw [] a1 cz fv k u0 u1 u2 h0 n0 Z0 O0 J0 VV) hZ (hw _ (mW 143 rfl)) (hw _ (mW 137 rfl)) (by decide) (by decide)) (g := (mkF m 51 #[rv a1, iv (0 : Int32), iv (3 : Int32), iv (0 : Int32), iv (4 : Int32)] [(.int (3 : Int32)), (.int (0 : Int32)), (.ref a1), (.int (0 : Int32))])) rfl (hM rfl) (argsL := [(.int (0 : Int32)), (.ref a1), (.int (0 : Int32)), (.int (3 : Int32))]) (rest := []) (lenOf pd17 rfl) rfl (Nat.le_of_eq rfl) (B d24_51) (fun _ _ => ⟨rfl, e2, wl rfl, wl rfl⟩)
  dsimp only [Pt.U, Pt.locs, Pt.cells, Pt.slots] at X5 l5 y5 z5 st5 hQ5
  subst l5 y5 z5
  obtain ⟨rfl, N5q, hq5⟩ := hQ5
  have N5 := Fr.app N0 N5q
  have pre6 : Go p e bl T5 (mkF m 54 #[rv a1, iv (0 : Int32), iv (3 : Int32), iv (0 : Int32), iv (4 : Int32)] [(.int (((31 : Int32) * (((31 : Int32) * ((0 : Int32) + (u0 &&& (255 : Int32)))) + (u1 &&& (255 : Int32)))) + (u2 &&& (255 : Int32))))]) s1 EF := fun t k => pre4 t (st5 t k)
  have e5 : T5.heap = h0 := hq5
  have pre7 : Go p e bl T5 (mkF m 157 #[rv a1, iv (0 : Int32), iv (3 : Int32), iv (0 : Int32), iv (4 : Int32)] [(.int (((31 : Int32) * (((31 : Int32) * ((0 : Int32) + (u0 &&& (255 : Int32)))) + (u1 &&& (255 : Int32)))) + (u2 &&& (255 : Int32))))]) s1 EF := fun t k => pre6 t (by
   exact XS.goto X5.here hx rfl (pc0 := 54) (pc' := 157) rfl (B d24_54) (by decide) (by decide) k)
  exact fin1 X5 (v := some (.int (((31 : Int32) * (((31 : Int32) * ((0 : Int32) + (u0 &&& (255 : Int32)))) + (u1 &&& (255 : Int32)))) + (u2 &&& (255 : Int32))))) hrt hlk (wl rfl) (wl rfl) (by rw [e5]; exact ⟨rfl, N5, rfl⟩) (fun fs hr => hEF ▸ pre7 _ (retOut X5 hx Bd.returns rfl (Or.inl ⟨rfl, Or.inl rfl, _, rfl⟩) (B d24_157) hr))
abbrev rKHa4 : Room := { frames := 0, cells := 0, slots := 0, locals := 0 }
theorem efHa4 (m : MethodId) (a1 : Addr) : entryFrame m #[(.int (0 : Int32)), (.ref a1), (.int (0 : Int32)), (.int (4 : Int32))] 6 = mkF m 0 #[iv (0 : Int32), rv a1, iv (0 : Int32), iv (4 : Int32), .unset, .unset] [] := by first | (simp [entryFrame, mkF, argsToLocals, Value.category]; done) | rfl
def QHa4 (Z : State) (a1 : Addr) (cz : Int32) (fv : Value) (k : ClassId) (u0 : Int32) (u1 : Int32) (u2 : Int32) (u3 : Int32) (h0 : Heap) (n0 : Nat) (v : Option Value) (h : Heap) (L : List Loc) : Prop := v = some (.int (((31 : Int32) * (((31 : Int32) * (((31 : Int32) * ((0 : Int32) + (u0 &&& (255 : Int32)))) + (u1 &&& (255 : Int32)))) + (u2 &&& (255 : Int32)))) + (u3 &&& (255 : Int32)))) ∧ Fr n0 L ∧ h = h0
set_option maxRecDepth 65536 in
set_option maxHeartbeats 40000000 in
theorem rmHa4 (l : Launch) (Z : State) (a0 : Array Value) (hw : HW a0 Z) (ws : List Jvm.Cond) (a1 : Addr) (cz : Int32) (fv : Value) (k : ClassId) (u0 : Int32) (u1 : Int32) (u2 : Int32) (u3 : Int32) (h0 : Heap) (n0 : Nat) (Z0 : n0 ≤ h0.size) (O0 : Old Z n0 h0) (J0 : Jd Z cz fv) (VV : Arv Z h0 a1 k .byte (4 : Int32) [(.int u0), (.int u1), (.int u2), (.int u3)] (.int (0 : Int32))) :
    MF l Z mN23 jdk_48_method_5_code 6 (some .int) ws rKHa4 #[(.int (0 : Int32)), (.ref a1), (.int (0 : Int32)), (.int (4 : Int32))] h0 (QHa4 Z a1 cz fv k u0 u1 u2 u3 h0 n0) := by
  refine MetFree.of_bodySF (plainFor_of_name pn7) hisR ?_
  intro p e s m args bl meth c s1 Bd hml0 hP hK
  obtain ⟨rfl, hZ, hh⟩ := hP
  have hx := Bd.exec
  have hby := Bd.bytes
  have B := @hb c _ hby
  have hown : s.vm.findClass "jdk/internal/util/ArraysSupport" = some m.cls := findClass_of_methodNamed Bd.named
  have hlk : meth.locks = false := BodyLoose.notSynchronized Bd
  have hrt : ∀ {v : Option Value}, meth.sig.returnType = none → v = none := fun h => by rw [Bd.returns] at h; cases h
  have X0 : Stand p l e rKHa4 s m #[(.int (0 : Int32)), (.ref a1), (.int (0 : Int32)), (.int (4 : Int32))] bl meth c s1 [] 0 0 := Stand.of_body Bd
  have e0 : s1.heap = h0 := by rw [← hh, Bd.state]; rfl
  have N0 := Fr.nil n0
  obtain ⟨EF, hEF⟩ : ∃ f, f = entryFrame m #[(.int (0 : Int32)), (.ref a1), (.int (0 : Int32)), (.int (4 : Int32))] 6 := ⟨_, rfl⟩
  have pre0 : Go p e bl s1 (mkF m 0 #[iv (0 : Int32), rv a1, iv (0 : Int32), iv (4 : Int32), .unset, .unset] []) s1 EF := fun t k => by rw [hEF]; exact castTop (efHa4 m a1) k
  have pre1 : Go p e bl s1 (mkF m 12 #[iv (0 : Int32), rv a1, iv (0 : Int32), iv (4 : Int32), iv (4 : Int32), iv (0 : Int32)] [(.int (4 : Int32)), (.int (0 : Int32))]) s1 EF := fun t k => pre0 t (by
   refine XS.iloadN X0.here hx rfl (B d23_0) rfl ?_
   refine XS.iloadN X0.here hx rfl (B d23_1) rfl ?_
   refine XS.iadd X0.here hx rfl (B d23_2) rfl ?_
   refine XS.istore X0.here hx rfl (B d23_3) rfl (l' := #[iv (0 : Int32), rv a1, iv (0 : Int32), iv (4 : Int32), iv (4 : Int32), .unset]) rfl ?_
   refine XS.iloadN X0.here hx rfl (B d23_5) rfl ?_
   refine XS.istore X0.here hx rfl (B d23_6) rfl (l' := #[iv (0 : Int32), rv a1, iv (0 : Int32), iv (4 : Int32), iv (4 : Int32), iv (0 : Int32)]) rfl ?_
   refine XS.iload X0.here hx rfl (B d23_8) rfl ?_
   exact XS.iload X0.here hx rfl (B d23_10) rfl k)
  have pre2 : Go p e bl s1 (mkF m 15 #[iv (0 : Int32), rv a1, iv (0 : Int32), iv (4 : Int32), iv (4 : Int32), iv (0 : Int32)] []) s1 EF := fun t k => pre1 t (XS.icmpNo X0.here hx rfl (B d23_12) rfl (tlt (by decide : (0 : Int32) < (4 : Int32))).2.1 k)
  have pre3 : Go p e bl s1 (mkF m 22 #[iv (0 : Int32), rv a1, iv (0 : Int32), iv (4 : Int32), iv (4 : Int32), iv (0 : Int32)] [(.int (0 : Int32)), (.ref a1), (.int (0 : Int32))]) s1 EF := fun t k => pre2 t (by
   refine XS.bipush X0.here hx rfl (B d23_15) ?_
   refine XS.iloadN X0.here hx rfl (B d23_17) rfl ?_
   refine XS.imul X0.here hx rfl (B d23_18) rfl ?_
   refine XS.aloadN X0.here hx rfl (B d23_19) rfl rfl ?_
   exact XS.iload X0.here hx rfl (B d23_20) rfl k)
  obtain ⟨cl4, Ar4, q4, Sz4, M4, H4, G4⟩ := id VV
  have hin4 : ¬ ((0 : Int32) < 0 ∨ cl4.slots.size ≤ ((0 : Int32)).toNatClampNeg) := inb_of Sz4 ⟨by decide, by decide⟩
  have hat4 : cl4.slots[((0 : Int32)).toNatClampNeg]? = some (.int u0) := Has.at H4 hin4 rfl
  have pre5 : Go p e bl s1 (mkF m 12 #[iv ((0 : Int32) + (u0 &&& (255 : Int32))), rv a1, iv (0 : Int32), iv (4 : Int32), iv (4 : Int32), iv (1 : Int32)] [(.int (4 : Int32)), (.int (1 : Int32))]) s1 EF := fun t k => pre3 t (by
   refine X0.baloadBytes hx (j := (0 : Int32)) (v := (.int u0)) (by rw [e0]; exact Ar4.1) (State.isArrayOf_alike hZ.alike Ar4.2.1) Ar4.2.2 hin4 hat4 (g := (mkF m 22 #[iv (0 : Int32), rv a1, iv (0 : Int32), iv (4 : Int32), iv (4 : Int32), iv (0 : Int32)] [(.int (0 : Int32)), (.ref a1), (.int (0 : Int32))])) rfl rfl (B d23_22) _ ?_
   refine XS.sipush X0.here hx rfl (B d23_23) ?_
   refine XS.iand X0.here hx rfl (B d23_26) rfl ?_
   refine XS.iadd X0.here hx rfl (B d23_27) rfl ?_
   refine XS.istoreN X0.here hx rfl (B d23_28) rfl (l' := #[iv ((0 : Int32) + (u0 &&& (255 : Int32))), rv a1, iv (0 : Int32), iv (4 : Int32), iv (4 : Int32), iv (0 : Int32)]) rfl ?_
   refine XS.iinc X0.here hx rfl (B d23_29) rfl (l' := #[iv ((0 : Int32) + (u0 &&& (255 : Int32))), rv a1, iv (0 : Int32), iv (4 : Int32), iv (4 : Int32), iv (1 : Int32)]) rfl ?_
   refine XS.goto X0.here hx rfl (pc0 := 32) (pc' := 8) rfl (B d23_32) (by decide) (by decide) ?_
   refine XS.iload X0.here hx rfl (B d23_8) rfl ?_
   exact XS.iload X0.here hx rfl (B d23_10) rfl k)
  have pre6 : Go p e bl s1 (mkF m 15 #[iv ((0 : Int32) + (u0 &&& (255 : Int32))), rv a1, iv (0 : Int32), iv (4 : Int32), iv (4 : Int32), iv (1 : Int32)] []) s1 EF := fun t k => pre5 t (XS.icmpNo X0.here hx rfl (B d23_12) rfl (tlt (by decide : (1 : Int32) < (4 : Int32))).2.1 k)
  have pre7 : Go p e bl s1 (mkF m 22 #[iv ((0 : Int32) + (u0 &&& (255 : Int32))), rv a1, iv (0 : Int32), iv (4 : Int32), iv (4 : Int32), iv (1 : Int32)] [(.int (1 : Int32)), (.ref a1), (.int ((31 : Int32) * ((0 : Int32) + (u0 &&& (255 : Int32)))))]) s1 EF := fun t k => pre6 t (by
   refine XS.bipush X0.here hx rfl (B d23_15) ?_
   refine XS.iloadN X0.here hx rfl (B d23_17) rfl ?_
   refine XS.imul X0.here hx rfl (B d23_18) rfl ?_
   refine XS.aloadN X0.here hx rfl (B d23_19) rfl rfl ?_
   exact XS.iload X0.here hx rfl (B d23_20) rfl k)
  obtain ⟨cl8, Ar8, q8, Sz8, M8, H8, G8⟩ := id VV
  have hin8 : ¬ ((1 : Int32) < 0 ∨ cl8.slots.size ≤ ((1 : Int32)).toNatClampNeg) := inb_of Sz8 ⟨by decide, by decide⟩
  have hat8 : cl8.slots[((1 : Int32)).toNatClampNeg]? = some (.int u1) := Has.at H8 hin8 rfl
  have pre9 : Go p e bl s1 (mkF m 12 #[iv (((31 : Int32) * ((0 : Int32) + (u0 &&& (255 : Int32)))) + (u1 &&& (255 : Int32))), rv a1, iv (0 : Int32), iv (4 : Int32), iv (4 : Int32), iv (2 : Int32)] [(.int (4 : Int32)), (.int (2 : Int32))]) s1 EF := fun t k => pre7 t (by
   refine X0.baloadBytes hx (j := (1 : Int32)) (v := (.int u1)) (by rw [e0]; exact Ar8.1) (State.isArrayOf_alike hZ.alike Ar8.2.1) Ar8.2.2 hin8 hat8 (g := (mkF m 22 #[iv ((0 : Int32) + (u0 &&& (255 : Int32))), rv a1, iv (0 : Int32), iv (4 : Int32), iv (4 : Int32), iv (1 : Int32)] [(.int (1 : Int32)), (.ref a1), (.int ((31 : Int32) * ((0 : Int32) + (u0 &&& (255 : Int32)))))])) rfl rfl (B d23_22) _ ?_
   refine XS.sipush X0.here hx rfl (B d23_23) ?_
   refine XS.iand X0.here hx rfl (B d23_26) rfl ?_
   refine XS.iadd X0.here hx rfl (B d23_27) rfl ?_
   refine XS.istoreN X0.here hx rfl (B d23_28) rfl (l' := #[iv (((31 : Int32) * ((0 : Int32) + (u0 &&& (255 : Int32)))) + (u1 &&& (255 : Int32))), rv a1, iv (0 : Int32), iv (4 : Int32), iv (4 : Int32), iv (1 : Int32)]) rfl ?_
   refine XS.iinc X0.here hx rfl (B d23_29) rfl (l' := #[iv (((31 : Int32) * ((0 : Int32) + (u0 &&& (255 : Int32)))) + (u1 &&& (255 : Int32))), rv a1, iv (0 : Int32), iv (4 : Int32), iv (4 : Int32), iv (2 : Int32)]) rfl ?_
   refine XS.goto X0.here hx rfl (pc0 := 32) (pc' := 8) rfl (B d23_32) (by decide) (by decide) ?_
   refine XS.iload X0.here hx rfl (B d23_8) rfl ?_
   exact XS.iload X0.here hx rfl (B d23_10) rfl k)
  have pre10 : Go p e bl s1 (mkF m 15 #[iv (((31 : Int32) * ((0 : Int32) + (u0 &&& (255 : Int32)))) + (u1 &&& (255 : Int32))), rv a1, iv (0 : Int32), iv (4 : Int32), iv (4 : Int32), iv (2 : Int32)] []) s1 EF := fun t k => pre9 t (XS.icmpNo X0.here hx rfl (B d23_12) rfl (tlt (by decide : (2 : Int32) < (4 : Int32))).2.1 k)
  have pre11 : Go p e bl s1 (mkF m 22 #[iv (((31 : Int32) * ((0 : Int32) + (u0 &&& (255 : Int32)))) + (u1 &&& (255 : Int32))), rv a1, iv (0 : Int32), iv (4 : Int32), iv (4 : Int32), iv (2 : Int32)] [(.int (2 : Int32)), (.ref a1), (.int ((31 : Int32) * (((31 : Int32) * ((0 : Int32) + (u0 &&& (255 : Int32)))) + (u1 &&& (255 : Int32)))))]) s1 EF := fun t k => pre10 t (by
   refine XS.bipush X0.here hx rfl (B d23_15) ?_
   refine XS.iloadN X0.here hx rfl (B d23_17) rfl ?_
   refine XS.imul X0.here hx rfl (B d23_18) rfl ?_
   refine XS.aloadN X0.here hx rfl (B d23_19) rfl rfl ?_
   exact XS.iload X0.here hx rfl (B d23_20) rfl k)
  obtain ⟨cl12, Ar12, q12, Sz12, M12, H12, G12⟩ := id VV
  have hin12 : ¬ ((2 : Int32) < 0 ∨ cl12.slots.size ≤ ((2 : Int32)).toNatClampNeg) := inb_of Sz12 ⟨by decide, by decide⟩
  have hat12 : cl12.slots[((2 : Int32)).toNatClampNeg]? = some (.int u2) := Has.at H12 hin12 rfl
  have pre13 : Go p e bl s1 (mkF m 12 #[iv (((31 : Int32) * (((31 : Int32) * ((0 : Int32) + (u0 &&& (255 : Int32)))) + (u1 &&& (255 : Int32)))) + (u2 &&& (255 : Int32))), rv a1, iv (0 : Int32), iv (4 : Int32), iv (4 : Int32), iv (3 : Int32)] [(.int (4 : Int32)), (.int (3 : Int32))]) s1 EF := fun t k => pre11 t (by
   refine X0.baloadBytes hx (j := (2 : Int32)) (v := (.int u2)) (by rw [e0]; exact Ar12.1) (State.isArrayOf_alike hZ.alike Ar12.2.1) Ar12.2.2 hin12 hat12 (g := (mkF m 22 #[iv (((31 : Int32) * ((0 : Int32) + (u0 &&& (255 : Int32)))) + (u1 &&& (255 : Int32))), rv a1, iv (0 : Int32), iv (4 : Int32), iv (4 : Int32), iv (2 : Int32)] [(.int (2 : Int32)), (.ref a1), (.int ((31 : Int32) * (((31 : Int32) * ((0 : Int32) + (u0 &&& (255 : Int32)))) + (u1 &&& (255 : Int32)))))])) rfl rfl (B d23_22) _ ?_
   refine XS.sipush X0.here hx rfl (B d23_23) ?_
   refine XS.iand X0.here hx rfl (B d23_26) rfl ?_
   refine XS.iadd X0.here hx rfl (B d23_27) rfl ?_
   refine XS.istoreN X0.here hx rfl (B d23_28) rfl (l' := #[iv (((31 : Int32) * (((31 : Int32) * ((0 : Int32) + (u0 &&& (255 : Int32)))) + (u1 &&& (255 : Int32)))) + (u2 &&& (255 : Int32))), rv a1, iv (0 : Int32), iv (4 : Int32), iv (4 : Int32), iv (2 : Int32)]) rfl ?_
   refine XS.iinc X0.here hx rfl (B d23_29) rfl (l' := #[iv (((31 : Int32) * (((31 : Int32) * ((0 : Int32) + (u0 &&& (255 : Int32)))) + (u1 &&& (255 : Int32)))) + (u2 &&& (255 : Int32))), rv a1, iv (0 : Int32), iv (4 : Int32), iv (4 : Int32), iv (3 : Int32)]) rfl ?_
   refine XS.goto X0.here hx rfl (pc0 := 32) (pc' := 8) rfl (B d23_32) (by decide) (by decide) ?_
   refine XS.iload X0.here hx rfl (B d23_8) rfl ?_
   exact XS.iload X0.here hx rfl (B d23_10) rfl k)
  have pre14 : Go p e bl s1 (mkF m 15 #[iv (((31 : Int32) * (((31 : Int32) * ((0 : Int32) + (u0 &&& (255 : Int32)))) + (u1 &&& (255 : Int32)))) + (u2 &&& (255 : Int32))), rv a1, iv (0 : Int32), iv (4 : Int32), iv (4 : Int32), iv (3 : Int32)] []) s1 EF := fun t k => pre13 t (XS.icmpNo X0.here hx rfl (B d23_12) rfl (tlt (by decide : (3 : Int32) < (4 : Int32))).2.1 k)
  have pre15 : Go p e bl s1 (mkF m 22 #[iv (((31 : Int32) * (((31 : Int32) * ((0 : Int32) + (u0 &&& (255 : Int32)))) + (u1 &&& (255 : Int32)))) + (u2 &&& (255 : Int32))), rv a1, iv (0 : Int32), iv (4 : Int32), iv (4 : Int32), iv (3 : Int32)] [(.int (3 : Int32)), (.ref a1), (.int ((31 : Int32) * (((31 : Int32) * (((31 : Int32) * ((0 : Int32) + (u0 &&& (255 : Int32)))) + (u1 &&& (255 : Int32)))) + (u2 &&& (255 : Int32)))))]) s1 EF := fun t k => pre14 t (by
   refine XS.bipush X0.here hx rfl (B d23_15) ?_
   refine XS.iloadN X0.here hx rfl (B d23_17) rfl ?_
   refine XS.imul X0.here hx rfl (B d23_18) rfl ?_
   refine XS.aloadN X0.here hx rfl (B d23_19) rfl rfl ?_
   exact XS.iload X0.here hx rfl (B d23_20) rfl k)
  obtain ⟨cl16, Ar16, q16, Sz16, M16, H16, G16⟩ := id VV
  have hin16 : ¬ ((3 : Int32) < 0 ∨ cl16.slots.size ≤ ((3 : Int32)).toNatClampNeg) := inb_of Sz16 ⟨by decide, by decide⟩
  have hat16 : cl16.slots[((3 : Int32)).toNatClampNeg]? = some (.int u3) := Has.at H16 hin16 rfl
  have pre17 : Go p e bl s1 (mkF m 12 #[iv (((31 : Int32) * (((31 : Int32) * (((31 : Int32) * ((0 : Int32) + (u0 &&& (255 : Int32)))) + (u1 &&& (255 : Int32)))) + (u2 &&& (255 : Int32)))) + (u3 &&& (255 : Int32))), rv a1, iv (0 : Int32), iv (4 : Int32), iv (4 : Int32), iv (4 : Int32)] [(.int (4 : Int32)), (.int (4 : Int32))]) s1 EF := fun t k => pre15 t (by
   refine X0.baloadBytes hx (j := (3 : Int32)) (v := (.int u3)) (by rw [e0]; exact Ar16.1) (State.isArrayOf_alike hZ.alike Ar16.2.1) Ar16.2.2 hin16 hat16 (g := (mkF m 22 #[iv (((31 : Int32) * (((31 : Int32) * ((0 : Int32) + (u0 &&& (255 : Int32)))) + (u1 &&& (255 : Int32)))) + (u2 &&& (255 : Int32))), rv a1, iv (0 : Int32), iv (4 : Int32), iv (4 : Int32), iv (3 : Int32)] [(.int (3 : Int32)), (.ref a1), (.int ((31 : Int32) * (((31 : Int32) * (((31 : Int32) * ((0 : Int32) + (u0 &&& (255 : Int32)))) + (u1 &&& (255 : Int32)))) + (u2 &&& (255 : Int32)))))])) rfl rfl (B d23_22) _ ?_
   refine XS.sipush X0.here hx rfl (B d23_23) ?_
   refine XS.iand X0.here hx rfl (B d23_26) rfl ?_
   refine XS.iadd X0.here hx rfl (B d23_27) rfl ?_
   refine XS.istoreN X0.here hx rfl (B d23_28) rfl (l' := #[iv (((31 : Int32) * (((31 : Int32) * (((31 : Int32) * ((0 : Int32) + (u0 &&& (255 : Int32)))) + (u1 &&& (255 : Int32)))) + (u2 &&& (255 : Int32)))) + (u3 &&& (255 : Int32))), rv a1, iv (0 : Int32), iv (4 : Int32), iv (4 : Int32), iv (3 : Int32)]) rfl ?_
   refine XS.iinc X0.here hx rfl (B d23_29) rfl (l' := #[iv (((31 : Int32) * (((31 : Int32) * (((31 : Int32) * ((0 : Int32) + (u0 &&& (255 : Int32)))) + (u1 &&& (255 : Int32)))) + (u2 &&& (255 : Int32)))) + (u3 &&& (255 : Int32))), rv a1, iv (0 : Int32), iv (4 : Int32), iv (4 : Int32), iv (4 : Int32)]) rfl ?_
   refine XS.goto X0.here hx rfl (pc0 := 32) (pc' := 8) rfl (B d23_32) (by decide) (by decide) ?_
   refine XS.iload X0.here hx rfl (B d23_8) rfl ?_
   exact XS.iload X0.here hx rfl (B d23_10) rfl k)
  have pre18 : Go p e bl s1 (mkF m 35 #[iv (((31 : Int32) * (((31 : Int32) * (((31 : Int32) * ((0 : Int32) + (u0 &&& (255 : Int32)))) + (u1 &&& (255 : Int32)))) + (u2 &&& (255 : Int32)))) + (u3 &&& (255 : Int32))), rv a1, iv (0 : Int32), iv (4 : Int32), iv (4 : Int32), iv (4 : Int32)] []) s1 EF := fun t k => pre17 t (XS.icmpYes X0.here hx rfl (pc0 := 12) (pc' := 35) rfl (B d23_12) rfl (flt (by decide : ¬ ((4 : Int32) < (4 : Int32)))).2.1 (by decide) (by decide) k)
  have pre19 : Go p e bl s1 (mkF m 36 #[iv (((31 : Int32) * (((31 : Int32) * (((31 : Int32) * ((0 : Int32) + (u0 &&& (255 : Int32)))) + (u1 &&& (255 : Int32)))) + (u2 &&& (255 : Int32)))) + (u3 &&& (255 : Int32))), rv a1, iv (0 : Int32), iv (4 : Int32), iv (4 : Int32), iv (4 : Int32)] [(.int (((31 : Int32) * (((31 : Int32) * (((31 : Int32) * ((0 : Int32) + (u0 &&& (255 : Int32)))) + (u1 &&& (255 : Int32)))) + (u2 &&& (255 : Int32)))) + (u3 &&& (255 : Int32))))]) s1 EF := fun t k => pre18 t (by
   exact XS.iloadN X0.here hx rfl (B d23_35) rfl k)
  exact fin1 X0 (v := some (.int (((31 : Int32) * (((31 : Int32) * (((31 : Int32) * ((0 : Int32) + (u0 &&& (255 : Int32)))) + (u1 &&& (255 : Int32)))) + (u2 &&& (255 : Int32)))) + (u3 &&& (255 : Int32))))) hrt hlk (wl rfl) (wl rfl) (by rw [e0]; exact ⟨rfl, N0, rfl⟩) (fun fs hr => hEF ▸ pre19 _ (retOut X0 hx Bd.returns rfl (Or.inl ⟨rfl, Or.inl rfl, _, rfl⟩) (B d23_36) hr))
abbrev rKHb4 : Room := { frames := 1, cells := 0, slots := 0, locals := 17 }
theorem efHb4 (m : MethodId) (a1 : Addr) : entryFrame m #[(.ref a1), (.int (0 : Int32)), (.int (4 : Int32)), (.int (0 : Int32)), (.int (4 : Int32))] 5 = mkF m 0 #[rv a1, iv (0 : Int32), iv (4 : Int32), iv (0 : Int32), iv (4 : Int32)] [] := by first | (simp [entryFrame, mkF, argsToLocals, Value.category]; done) | rfl
def QHb4 (Z : State) (a1 : Addr) (cz : Int32) (fv : Value) (k : ClassId) (u0 : Int32) (u1 : Int32) (u2 : Int32) (u3 : Int32) (h0 : Heap) (n0 : Nat) (v : Option Value) (h : Heap) (L : List Loc) : Prop := v = some (.int (((31 : Int32) * (((31 : Int32) * (((31 : Int32) * ((0 : Int32) + (u0 &&& (255 : Int32)))) + (u1 &&& (255 : Int32)))) + (u2 &&& (255 : Int32)))) + (u3 &&& (255 : Int32)))) ∧ Fr n0 L ∧ h = h0
set_option maxRecDepth 65536 in
set_option maxHeartbeats 40000000 in
theorem rmHb4 (l : Launch) (Z : State) (a0 : Array Value) (hw : HW a0 Z) (ws : List Jvm.Cond) (a1 : Addr) (cz : Int32) (fv : Value) (k : ClassId) (u0 : Int32) (u1 : Int32) (u2 : Int32) (u3 : Int32) (h0 : Heap) (n0 : Nat) (Z0 : n0 ≤ h0.size) (O0 : Old Z n0 h0) (J0 : Jd Z cz fv) (VV : Arv Z h0 a1 k .byte (4 : Int32) [(.int u0), (.int u1), (.int u2), (.int u3)] (.int (0 : Int32))) (EB : Exa Z h0 a1 "[B") :
    MF l Z mN24 jdk_48_method_4_code 5 (some .int) ws rKHb4 #[(.ref a1), (.int (0 : Int32)), (.int (4 : Int32)), (.int (0 : Int32)), (.int (4 : Int32))] h0 (QHb4 Z a1 cz fv k u0 u1 u2 u3 h0 n0) := by
  refine MetFree.of_bodySF (plainFor_of_name pn7) hisR ?_
  intro p e s m args bl meth c s1 Bd hml0 hP hK
  obtain ⟨rfl, hZ, hh⟩ := hP
  have hx := Bd.exec
  have hby := Bd.bytes
  have B := @hb c _ hby
  have hM := fun {n : Nat} (h : n = 5) => h.trans hml0.symm
  have hown : s.vm.findClass "jdk/internal/util/ArraysSupport" = some m.cls := findClass_of_methodNamed Bd.named
  have hlk : meth.locks = false := BodyLoose.notSynchronized Bd
  have hrt : ∀ {v : Option Value}, meth.sig.returnType = none → v = none := fun h => by rw [Bd.returns] at h; cases h
  have X0 : Stand p l e rKHb4 s m #[(.ref a1), (.int (0 : Int32)), (.int (4 : Int32)), (.int (0 : Int32)), (.int (4 : Int32))] bl meth c s1 [] 0 0 := Stand.of_body Bd
  have e0 : s1.heap = h0 := by rw [← hh, Bd.state]; rfl
  have N0 := Fr.nil n0
  obtain ⟨EF, hEF⟩ : ∃ f, f = entryFrame m #[(.ref a1), (.int (0 : Int32)), (.int (4 : Int32)), (.int (0 : Int32)), (.int (4 : Int32))] 5 := ⟨_, rfl⟩
  have pre0 : Go p e bl s1 (mkF m 0 #[rv a1, iv (0 : Int32), iv (4 : Int32), iv (0 : Int32), iv (4 : Int32)] []) s1 EF := fun t k => by rw [hEF]; exact castTop (efHb4 m a1) k
  have pre1 : Go p e bl s1 (mkF m 46 #[rv a1, iv (0 : Int32), iv (4 : Int32), iv (0 : Int32), iv (4 : Int32)] [(.ref a1), (.int (0 : Int32))]) s1 EF := fun t k => pre0 t (by
   refine XS.iload X0.here hx rfl (B d24_0) rfl ?_
   refine XS.tswIn X0.here hx rfl (pc0 := 2) (pc' := 44) (o := 42) rfl (B d24_2) rfl (by decide) (by decide) (by decide) (by decide) ?_
   refine XS.iloadN X0.here hx rfl (B d24_44) rfl ?_
   exact XS.aloadN X0.here hx rfl (B d24_45) rfl rfl k)
  obtain ⟨T2, X2, e2, st2⟩ := castY X0 hx hZ hown (hw _ (mW 139 rfl)) e0 (Ins.self EB) (g := (mkF m 46 #[rv a1, iv (0 : Int32), iv (4 : Int32), iv (0 : Int32), iv (4 : Int32)] [(.ref a1), (.int (0 : Int32))])) rfl rfl (B d24_46)
  have pre3 : Go p e bl T2 (mkF m 49 #[rv a1, iv (0 : Int32), iv (4 : Int32), iv (0 : Int32), iv (4 : Int32)] [(.ref a1), (.int (0 : Int32))]) s1 EF := fun t k => pre1 t (st2 t k)
  have pre4 : Go p e bl T2 (mkF m 51 #[rv a1, iv (0 : Int32), iv (4 : Int32), iv (0 : Int32), iv (4 : Int32)] [(.int (4 : Int32)), (.int (0 : Int32)), (.ref a1), (.int (0 : Int32))]) s1 EF := fun t k => pre3 t (by
   refine XS.iloadN X2.here hx rfl (B d24_49) rfl ?_
   exact XS.iloadN X2.here hx rfl (B d24_50) rfl k)
  obtain ⟨_, _, ⟨T5, L5, k5, n5⟩, -, X5, ⟨Lc5, hQ5, l5, y5, z5⟩, st5⟩ := Jvm.LawKit.callS X2 hx (y := mN23) hown (mvT hZ (hw _ (mW 141 rfl))) (mvT hZ (hw _ (mW 142 rfl))) (mvT hZ (hw _ (mW 137 rfl))) (mvT hZ (hw _ (mW 143 rfl))) (by decide) (backOf (W := 0) (rmHa4 l Z a0 hw [] a1 cz fv k u0 u1 u2 u3 h0 n0 Z0 O0 J0 VV) hZ (hw _ (mW 143 rfl)) (hw _ (mW 137 rfl)) (by decide) (by decide)) (g := (mkF m 51 #[rv a1, iv (0 : Int32), iv (4 : Int32), iv (0 : Int32), iv (4 : Int32)] [(.int (4 : Int32)), (.int (0 : Int32)), (.ref a1), (.int (0 : Int32))])) rfl (hM rfl) (argsL := [(.int (0 : Int32)), (.ref a1), (.int (0 : Int32)), (.int (4 : Int32))]) (rest := []) (lenOf pd17 rfl) rfl (Nat.le_of_eq rfl) (B d24_51) (fun _ _ => ⟨rfl, e2, wl rfl, wl rfl⟩)
  dsimp only [Pt.U, Pt.locs, Pt.cells, Pt.slots] at X5 l5 y5 z5 st5 hQ5
  subst l5 y5 z5
  obtain ⟨rfl, N5q, hq5⟩ := hQ5
  have N5 := Fr.app N0 N5q
  have pre6 : Go p e bl T5 (mkF m 54 #[rv a1, iv (0 : Int32), iv (4 : Int32), iv (0 : Int32), iv (4 : Int32)] [(.int (((31 : Int32) * (((31 : Int32) * (((31 : Int32) * ((0 : Int32) + (u0 &&& (255 : Int32)))) + (u1 &&& (255 : Int32)))) + (u2 &&& (255 : Int32)))) + (u3 &&& (255 : Int32))))]) s1 EF := fun t k => pre4 t (st5 t k)
  have e5 : T5.heap = h0 := hq5
  have pre7 : Go p e bl T5 (mkF m 157 #[rv a1, iv (0 : Int32), iv (4 : Int32), iv (0 : Int32), iv (4 : Int32)] [(.int (((31 : Int32) * (((31 : Int32) * (((31 : Int32) * ((0 : Int32) + (u0 &&& (255 : Int32)))) + (u1 &&& (255 : Int32)))) + (u2 &&& (255 : Int32)))) + (u3 &&& (255 : Int32))))]) s1 EF := fun t k => pre6 t (by
   exact XS.goto X5.here hx rfl (pc0 := 54) (pc' := 157) rfl (B d24_54) (by decide) (by decide) k)
  exact fin1 X5 (v := some (.int (((31 : Int32) * (((31 : Int32) * (((31 : Int32) * ((0 : Int32) + (u0 &&& (255 : Int32)))) + (u1 &&& (255 : Int32)))) + (u2 &&& (255 : Int32)))) + (u3 &&& (255 : Int32))))) hrt hlk (wl rfl) (wl rfl) (by rw [e5]; exact ⟨rfl, N5, rfl⟩) (fun fs hr => hEF ▸ pre7 _ (retOut X5 hx Bd.returns rfl (Or.inl ⟨rfl, Or.inl rfl, _, rfl⟩) (B d24_157) hr))
def hsB : List Int32 → Int32
  | [u0] => (u0 &&& (255 : Int32))
  | [u0, u1] => (((31 : Int32) * ((0 : Int32) + (u0 &&& (255 : Int32)))) + (u1 &&& (255 : Int32)))
  | [u0, u1, u2] => (((31 : Int32) * (((31 : Int32) * ((0 : Int32) + (u0 &&& (255 : Int32)))) + (u1 &&& (255 : Int32)))) + (u2 &&& (255 : Int32)))
  | [u0, u1, u2, u3] => (((31 : Int32) * (((31 : Int32) * (((31 : Int32) * ((0 : Int32) + (u0 &&& (255 : Int32)))) + (u1 &&& (255 : Int32)))) + (u2 &&& (255 : Int32)))) + (u3 &&& (255 : Int32)))
  | _ => 0
abbrev rKHc2 : Room := { frames := 2, cells := 0, slots := 0, locals := 33 }
theorem d25_0 : decode jdk_43_method_21_code 0 = .ok (.aload_n 0, 1) := by decide +kernel
theorem d25_1 : decode jdk_43_method_21_code 1 = .ok (.arraylength, 1) := by decide +kernel
theorem d25_2 : decode jdk_43_method_21_code 2 = .ok (.lookupswitch 40 #[(0, 26), (1, 30)], 26) := by decide +kernel
theorem d25_42 : decode jdk_43_method_21_code 42 = .ok (.aload_n 0, 1) := by decide +kernel
theorem d25_43 : decode jdk_43_method_21_code 43 = .ok (.iconst 0, 1) := by decide +kernel
theorem d25_44 : decode jdk_43_method_21_code 44 = .ok (.aload_n 0, 1) := by decide +kernel
theorem d25_45 : decode jdk_43_method_21_code 45 = .ok (.arraylength, 1) := by decide +kernel
theorem d25_46 : decode jdk_43_method_21_code 46 = .ok (.iconst 0, 1) := by decide +kernel
theorem d25_47 : decode jdk_43_method_21_code 47 = .ok (.iconst 4, 1) := by decide +kernel
theorem d25_48 : decode jdk_43_method_21_code 48 = .ok (.invokestatic 84, 3) := by decide +kernel
theorem d25_51 : decode jdk_43_method_21_code 51 = .ok (.ireturn, 1) := by decide +kernel
theorem pd18 : parseMethodDescriptor "(Ljava/lang/Object;IIII)I" = some ⟨[(.object "java/lang/Object"), .int, .int, .int, .int], some .int⟩ := by decide +kernel
theorem efHc2 (m : MethodId) (a1 : Addr) : entryFrame m #[(.ref a1)] 1 = mkF m 0 #[rv a1] [] := by first | (simp [entryFrame, mkF, argsToLocals, Value.category]; done) | rfl
def QHc2 (Z : State) (a1 : Addr) (cz : Int32) (fv : Value) (k : ClassId) (u0 : Int32) (u1 : Int32) (r : Int32) (h0 : Heap) (n0 : Nat) (v : Option Value) (h : Heap) (L : List Loc) : Prop := v = some (.int r) ∧ Fr n0 L ∧ h = h0
set_option maxRecDepth 65536 in
set_option maxHeartbeats 40000000 in
theorem rmHc2 (l : Launch) (Z : State) (a0 : Array Value) (hw : HW a0 Z) (ws : List Jvm.Cond) (a1 : Addr) (cz : Int32) (fv : Value) (k : ClassId) (u0 : Int32) (u1 : Int32) (r : Int32) (h0 : Heap) (n0 : Nat) (Z0 : n0 ≤ h0.size) (O0 : Old Z n0 h0) (J0 : Jd Z cz fv) (VV : Arv Z h0 a1 k .byte (2 : Int32) [(.int u0), (.int u1)] (.int (0 : Int32))) (EB : Exa Z h0 a1 "[B") (hR : hsB [u0, u1] = r) :
    MF l Z mN25 jdk_43_method_21_code 1 (some .int) ws rKHc2 #[(.ref a1)] h0 (QHc2 Z a1 cz fv k u0 u1 r h0 n0) := by
  refine MetFree.of_bodySF (plainFor_of_name pn2) hisR ?_
  intro p e s m args bl meth c s1 Bd hml0 hP hK
  obtain ⟨rfl, hZ, hh⟩ := hP
  have hx := Bd.exec
  have hby := Bd.bytes
  have B := @hb c _ hby
  have hM := fun {n : Nat} (h : n = 1) => h.trans hml0.symm
  have hown : s.vm.findClass "java/lang/StringLatin1" = some m.cls := findClass_of_methodNamed Bd.named
  have hlk : meth.locks = false := BodyLoose.notSynchronized Bd
  have hrt : ∀ {v : Option Value}, meth.sig.returnType = none → v = none := fun h => by rw [Bd.returns] at h; cases h
  have X0 : Stand p l e rKHc2 s m #[(.ref a1)] bl meth c s1 [] 0 0 := Stand.of_body Bd
  have e0 : s1.heap = h0 := by rw [← hh, Bd.state]; rfl
  have N0 := Fr.nil n0
  obtain ⟨EF, hEF⟩ : ∃ f, f = entryFrame m #[(.ref a1)] 1 := ⟨_, rfl⟩
  have pre0 : Go p e bl s1 (mkF m 0 #[rv a1] []) s1 EF := fun t k => by rw [hEF]; exact castTop (efHc2 m a1) k
  have pre1 : Go p e bl s1 (mkF m 1 #[rv a1] [(.ref a1)]) s1 EF := fun t k => pre0 t (by
   exact XS.aloadN X0.here hx rfl (B d25_0) rfl rfl k)
  obtain ⟨cl2, Ar2, q2, Sz2, M2, H2, G2⟩ := id VV
  have pre3 : Go p e bl s1 (mkF m 45 #[rv a1] [(.ref a1), (.int (0 : Int32)), (.ref a1)]) s1 EF := fun t k => pre1 t (by
   refine X0.arraylength hx (by rw [e0]; exact Ar2.1) (State.isArrayOf_alike hZ.alike Ar2.2.1) (g := (mkF m 1 #[rv a1] [(.ref a1)])) rfl rfl (B d25_1) _ ?_
   rw [len_of Sz2 M2]
   refine own_lsw X0.here hx rfl (pc0 := 2) (pc' := 42) (o := 40) rfl (B d25_2) rfl (by decide) (by decide) (by decide) (by decide) ?_
   refine XS.aloadN X0.here hx rfl (B d25_42) rfl rfl ?_
   refine XS.iconst X0.here hx rfl (B d25_43) ?_
   exact XS.aloadN X0.here hx rfl (B d25_44) rfl rfl k)
  obtain ⟨cl4, Ar4, q4, Sz4, M4, H4, G4⟩ := id VV
  have pre5 : Go p e bl s1 (mkF m 48 #[rv a1] [(.int (4 : Int32)), (.int (0 : Int32)), (.int (2 : Int32)), (.int (0 : Int32)), (.ref a1)]) s1 EF := fun t k => pre3 t (by
   refine X0.arraylength hx (by rw [e0]; exact Ar4.1) (State.isArrayOf_alike hZ.alike Ar4.2.1) (g := (mkF m 45 #[rv a1] [(.ref a1), (.int (0 : Int32)), (.ref a1)])) rfl rfl (B d25_45) _ ?_
   rw [len_of Sz4 M4]
   refine XS.iconst X0.here hx rfl (B d25_46) ?_
   exact XS.iconst X0.here hx rfl (B d25_47) k)
  obtain ⟨_, _, ⟨T6, L6, k6, n6⟩, -, X6, ⟨Lc6, hQ6, l6, y6, z6⟩, st6⟩ := Jvm.LawKit.callS X0 hx (y := mN24) hown (mvT hZ (hw _ (mW 135 rfl))) (mvT hZ (hw _ (mW 136 rfl))) (mvT hZ (hw _ (mW 137 rfl))) (mvT hZ (hw _ (mW 138 rfl))) (by decide) (backOf (W := 0) (rmHb2 l Z a0 hw [] a1 cz fv k u0 u1 h0 n0 Z0 O0 J0 VV EB) hZ (hw _ (mW 138 rfl)) (hw _ (mW 137 rfl)) (by decide) (by decide)) (g := (mkF m 48 #[rv a1] [(.int (4 : Int32)), (.int (0 : Int32)), (.int (2 : Int32)), (.int (0 : Int32)), (.ref a1)])) rfl (hM rfl) (argsL := [(.ref a1), (.int (0 : Int32)), (.int (2 : Int32)), (.int (0 : Int32)), (.int (4 : Int32))]) (rest := []) (lenOf pd18 rfl) rfl (Nat.le_of_eq rfl) (B d25_48) (fun _ _ => ⟨rfl, e0, wl rfl, wl rfl⟩)
  dsimp only [Pt.U, Pt.locs, Pt.cells, Pt.slots] at X6 l6 y6 z6 st6 hQ6
  subst l6 y6 z6
  obtain ⟨rfl, N6q, hq6⟩ := hQ6
  have N6 := Fr.app N0 N6q
  have pre7 : Go p e bl T6 (mkF m 51 #[rv a1] [(.int (((31 : Int32) * ((0 : Int32) + (u0 &&& (255 : Int32)))) + (u1 &&& (255 : Int32))))]) s1 EF := fun t k => pre5 t (st6 t k)
  have e6 : T6.heap = h0 := hq6
  exact fin1 X6 (v := some (.int (((31 : Int32) * ((0 : Int32) + (u0 &&& (255 : Int32)))) + (u1 &&& (255 : Int32))))) hrt hlk (wl rfl) (wl rfl) (by rw [e6]; exact ⟨by rw [← hR]; rfl, N6, rfl⟩) (fun fs hr => hEF ▸ pre7 _ (retOut X6 hx Bd.returns rfl (Or.inl ⟨rfl, Or.inl rfl, _, rfl⟩) (B d25_51) hr))
abbrev rKHc3 : Room := { frames := 2, cells := 0, slots := 0, locals := 33 }
theorem efHc3 (m : MethodId) (a1 : Addr) : entryFrame m #[(.ref a1)] 1 = mkF m 0 #[rv a1] [] := by first | (simp [entryFrame, mkF, argsToLocals, Value.category]; done) | rfl
def QHc3 (Z : State) (a1 : Addr) (cz : Int32) (fv : Value) (k : ClassId) (u0 : Int32) (u1 : Int32) (u2 : Int32) (r : Int32) (h0 : Heap) (n0 : Nat) (v : Option Value) (h : Heap) (L : List Loc) : Prop := v = some (.int r) ∧ Fr n0 L ∧ h = h0
set_option maxRecDepth 65536 in
set_option maxHeartbeats 40000000 in
theorem rmHc3 (l : Launch) (Z : State) (a0 : Array Value) (hw : HW a0 Z) (ws : List Jvm.Cond) (a1 : Addr) (cz : Int32) (fv : Value) (k : ClassId) (u0 : Int32) (u1 : Int32) (u2 : Int32) (r : Int32) (h0 : Heap) (n0 : Nat) (Z0 : n0 ≤ h0.size) (O0 : Old Z n0 h0) (J0 : Jd Z cz fv) (VV : Arv Z h0 a1 k .byte (3 : Int32) [(.int u0), (.int u1), (.int u2)] (.int (0 : Int32))) (EB : Exa Z h0 a1 "[B") (hR : hsB [u0, u1, u2] = r) :
    MF l Z mN25 jdk_43_method_21_code 1 (some .int) ws rKHc3 #[(.ref a1)] h0 (QHc3 Z a1 cz fv k u0 u1 u2 r h0 n0) := by
  refine MetFree.of_bodySF (plainFor_of_name pn2) hisR ?_
  intro p e s m args bl meth c s1 Bd hml0 hP hK
  obtain ⟨rfl, hZ, hh⟩ := hP
  have hx := Bd.exec
  have hby := Bd.bytes
  have B := @hb c _ hby
  have hM := fun {n : Nat} (h : n = 1) => h.trans hml0.symm
  have hown : s.vm.findClass "java/lang/StringLatin1" = some m.cls := findClass_of_methodNamed Bd.named
  have hlk : meth.locks = false := BodyLoose.notSynchronized Bd
  have hrt : ∀ {v : Option Value}, meth.sig.returnType = none → v = none := fun h => by rw [Bd.returns] at h; cases h
  have X0 : Stand p l e rKHc3 s m #[(.ref a1)] bl meth c s1 [] 0 0 := Stand.of_body Bd
  have e0 : s1.heap = h0 := by rw [← hh, Bd.state]; rfl
  have N0 := Fr.nil n0
  obtain ⟨EF, hEF⟩ : ∃ f, f = entryFrame m #[(.ref a1)] 1 := ⟨_, rfl⟩
  have pre0 : Go p e bl s1 (mkF m 0 #[rv a1] []) s1 EF := fun t k => by rw [hEF]; exact castTop (efHc3 m a1) k
  have pre1 : Go p e bl s1 (mkF m 1 #[rv a1] [(.ref a1)]) s1 EF := fun t k => pre0 t (by
   exact XS.aloadN X0.here hx rfl (B d25_0) rfl rfl k)
  obtain ⟨cl2, Ar2, q2, Sz2, M2, H2, G2⟩ := id VV
  have pre3 : Go p e bl s1 (mkF m 45 #[rv a1] [(.ref a1), (.int (0 : Int32)), (.ref a1)]) s1 EF := fun t k => pre1 t (by
   refine X0.arraylength hx (by rw [e0]; exact Ar2.1) (State.isArrayOf_alike hZ.alike Ar2.2.1) (g := (mkF m 1 #[rv a1] [(.ref a1)])) rfl rfl (B d25_1) _ ?_
   rw [len_of Sz2 M2]
   refine own_lsw X0.here hx rfl (pc0 := 2) (pc' := 42) (o := 40) rfl (B d25_2) rfl (by decide) (by decide) (by decide) (by decide) ?_
   refine XS.aloadN X0.here hx rfl (B d25_42) rfl rfl ?_
   refine XS.iconst X0.here hx rfl (B d25_43) ?_
   exact XS.aloadN X0.here hx rfl (B d25_44) rfl rfl k)
  obtain ⟨cl4, Ar4, q4, Sz4, M4, H4, G4⟩ := id VV
  have pre5 : Go p e bl s1 (mkF m 48 #[rv a1] [(.int (4 : Int32)), (.int (0 : Int32)), (.int (3 : Int32)), (.int (0 : Int32)), (.ref a1)]) s1 EF := fun t k => pre3 t (by
   refine X0.arraylength hx (by rw [e0]; exact Ar4.1) (State.isArrayOf_alike hZ.alike Ar4.2.1) (g := (mkF m 45 #[rv a1] [(.ref a1), (.int (0 : Int32)), (.ref a1)])) rfl rfl (B d25_45) _ ?_
   rw [len_of Sz4 M4]
   refine XS.iconst X0.here hx rfl (B d25_46) ?_
   exact XS.iconst X0.here hx rfl (B d25_47) k)
  obtain ⟨_, _, ⟨T6, L6, k6, n6⟩, -, X6, ⟨Lc6, hQ6, l6, y6, z6⟩, st6⟩ := Jvm.LawKit.callS X0 hx (y := mN24) hown (mvT hZ (hw _ (mW 135 rfl))) (mvT hZ (hw _ (mW 136 rfl))) (mvT hZ (hw _ (mW 137 rfl))) (mvT hZ (hw _ (mW 138 rfl))) (by decide) (backOf (W := 0) (rmHb3 l Z a0 hw [] a1 cz fv k u0 u1 u2 h0 n0 Z0 O0 J0 VV EB) hZ (hw _ (mW 138 rfl)) (hw _ (mW 137 rfl)) (by decide) (by decide)) (g := (mkF m 48 #[rv a1] [(.int (4 : Int32)), (.int (0 : Int32)), (.int (3 : Int32)), (.int (0 : Int32)), (.ref a1)])) rfl (hM rfl) (argsL := [(.ref a1), (.int (0 : Int32)), (.int (3 : Int32)), (.int (0 : Int32)), (.int (4 : Int32))]) (rest := []) (lenOf pd18 rfl) rfl (Nat.le_of_eq rfl) (B d25_48) (fun _ _ => ⟨rfl, e0, wl rfl, wl rfl⟩)
  dsimp only [Pt.U, Pt.locs, Pt.cells, Pt.slots] at X6 l6 y6 z6 st6 hQ6
  subst l6 y6 z6
  obtain ⟨rfl, N6q, hq6⟩ := hQ6
  have N6 := Fr.app N0 N6q
  have pre7 : Go p e bl T6 (mkF m 51 #[rv a1] [(.int (((31 : Int32) * (((31 : Int32) * ((0 : Int32) + (u0 &&& (255 : Int32)))) + (u1 &&& (255 : Int32)))) + (u2 &&& (255 : Int32))))]) s1 EF := fun t k => pre5 t (st6 t k)
  have e6 : T6.heap = h0 := hq6
  exact fin1 X6 (v := some (.int (((31 : Int32) * (((31 : Int32) * ((0 : Int32) + (u0 &&& (255 : Int32)))) + (u1 &&& (255 : Int32)))) + (u2 &&& (255 : Int32))))) hrt hlk (wl rfl) (wl rfl) (by rw [e6]; exact ⟨by rw [← hR]; rfl, N6, rfl⟩) (fun fs hr => hEF ▸ pre7 _ (retOut X6 hx Bd.returns rfl (Or.inl ⟨rfl, Or.inl rfl, _, rfl⟩) (B d25_51) hr))
abbrev rKHc4 : Room := { frames := 2, cells := 0, slots := 0, locals := 33 }
theorem efHc4 (m : MethodId) (a1 : Addr) : entryFrame m #[(.ref a1)] 1 = mkF m 0 #[rv a1] [] := by first | (simp [entryFrame, mkF, argsToLocals, Value.category]; done) | rfl
def QHc4 (Z : State) (a1 : Addr) (cz : Int32) (fv : Value) (k : ClassId) (u0 : Int32) (u1 : Int32) (u2 : Int32) (u3 : Int32) (r : Int32) (h0 : Heap) (n0 : Nat) (v : Option Value) (h : Heap) (L : List Loc) : Prop := v = some (.int r) ∧ Fr n0 L ∧ h = h0
set_option maxRecDepth 65536 in
set_option maxHeartbeats 40000000 in
theorem rmHc4 (l : Launch) (Z : State) (a0 : Array Value) (hw : HW a0 Z) (ws : List Jvm.Cond) (a1 : Addr) (cz : Int32) (fv : Value) (k : ClassId) (u0 : Int32) (u1 : Int32) (u2 : Int32) (u3 : Int32) (r : Int32) (h0 : Heap) (n0 : Nat) (Z0 : n0 ≤ h0.size) (O0 : Old Z n0 h0) (J0 : Jd Z cz fv) (VV : Arv Z h0 a1 k .byte (4 : Int32) [(.int u0), (.int u1), (.int u2), (.int u3)] (.int (0 : Int32))) (EB : Exa Z h0 a1 "[B") (hR : hsB [u0, u1, u2, u3] = r) :
    MF l Z mN25 jdk_43_method_21_code 1 (some .int) ws rKHc4 #[(.ref a1)] h0 (QHc4 Z a1 cz fv k u0 u1 u2 u3 r h0 n0) := by
  refine MetFree.of_bodySF (plainFor_of_name pn2) hisR ?_
  intro p e s m args bl meth c s1 Bd hml0 hP hK
  obtain ⟨rfl, hZ, hh⟩ := hP
  have hx := Bd.exec
  have hby := Bd.bytes
  have B := @hb c _ hby
  have hM := fun {n : Nat} (h : n = 1) => h.trans hml0.symm
  have hown : s.vm.findClass "java/lang/StringLatin1" = some m.cls := findClass_of_methodNamed Bd.named
  have hlk : meth.locks = false := BodyLoose.notSynchronized Bd
  have hrt : ∀ {v : Option Value}, meth.sig.returnType = none → v = none := fun h => by rw [Bd.returns] at h; cases h
  have X0 : Stand p l e rKHc4 s m #[(.ref a1)] bl meth c s1 [] 0 0 := Stand.of_body Bd
  have e0 : s1.heap = h0 := by rw [← hh, Bd.state]; rfl
  have N0 := Fr.nil n0
  obtain ⟨EF, hEF⟩ : ∃ f, f = entryFrame m #[(.ref a1)] 1 := ⟨_, rfl⟩
  have pre0 : Go p e bl s1 (mkF m 0 #[rv a1] []) s1 EF := fun t k => by rw [hEF]; exact castTop (efHc4 m a1) k
  have pre1 : Go p e bl s1 (mkF m 1 #[rv a1] [(.ref a1)]) s1 EF := fun t k => pre0 t (by
   exact XS.aloadN X0.here hx rfl (B d25_0) rfl rfl k)
  obtain ⟨cl2, Ar2, q2, Sz2, M2, H2, G2⟩ := id VV
  have pre3 : Go p e bl s1 (mkF m 45 #[rv a1] [(.ref a1), (.int (0 : Int32)), (.ref a1)]) s1 EF := fun t k => pre1 t (by
   refine X0.arraylength hx (by rw [e0]; exact Ar2.1) (State.isArrayOf_alike hZ.alike Ar2.2.1) (g := (mkF m 1 #[rv a1] [(.ref a1)])) rfl rfl (B d25_1) _ ?_
   rw [len_of Sz2 M2]
   refine own_lsw X0.here hx rfl (pc0 := 2) (pc' := 42) (o := 40) rfl (B d25_2) rfl (by decide) (by decide) (by decide) (by decide) ?_
   refine XS.aloadN X0.here hx rfl (B d25_42) rfl rfl ?_
   refine XS.iconst X0.here hx rfl (B d25_43) ?_
   exact XS.aloadN X0.here hx rfl (B d25_44) rfl rfl k)
  obtain ⟨cl4, Ar4, q4, Sz4, M4, H4, G4⟩ := id VV
  have pre5 : Go p e bl s1 (mkF m 48 #[rv a1] [(.int (4 : Int32)), (.int (0 : Int32)), (.int (4 : Int32)), (.int (0 : Int32)), (.ref a1)]) s1 EF := fun t k => pre3 t (by
   refine X0.arraylength hx (by rw [e0]; exact Ar4.1) (State.isArrayOf_alike hZ.alike Ar4.2.1) (g := (mkF m 45 #[rv a1] [(.ref a1), (.int (0 : Int32)), (.ref a1)])) rfl rfl (B d25_45) _ ?_
   rw [len_of Sz4 M4]
   refine XS.iconst X0.here hx rfl (B d25_46) ?_
   exact XS.iconst X0.here hx rfl (B d25_47) k)
  obtain ⟨_, _, ⟨T6, L6, k6, n6⟩, -, X6, ⟨Lc6, hQ6, l6, y6, z6⟩, st6⟩ := Jvm.LawKit.callS X0 hx (y := mN24) hown (mvT hZ (hw _ (mW 135 rfl))) (mvT hZ (hw _ (mW 136 rfl))) (mvT hZ (hw _ (mW 137 rfl))) (mvT hZ (hw _ (mW 138 rfl))) (by decide) (backOf (W := 0) (rmHb4 l Z a0 hw [] a1 cz fv k u0 u1 u2 u3 h0 n0 Z0 O0 J0 VV EB) hZ (hw _ (mW 138 rfl)) (hw _ (mW 137 rfl)) (by decide) (by decide)) (g := (mkF m 48 #[rv a1] [(.int (4 : Int32)), (.int (0 : Int32)), (.int (4 : Int32)), (.int (0 : Int32)), (.ref a1)])) rfl (hM rfl) (argsL := [(.ref a1), (.int (0 : Int32)), (.int (4 : Int32)), (.int (0 : Int32)), (.int (4 : Int32))]) (rest := []) (lenOf pd18 rfl) rfl (Nat.le_of_eq rfl) (B d25_48) (fun _ _ => ⟨rfl, e0, wl rfl, wl rfl⟩)
  dsimp only [Pt.U, Pt.locs, Pt.cells, Pt.slots] at X6 l6 y6 z6 st6 hQ6
  subst l6 y6 z6
  obtain ⟨rfl, N6q, hq6⟩ := hQ6
  have N6 := Fr.app N0 N6q
  have pre7 : Go p e bl T6 (mkF m 51 #[rv a1] [(.int (((31 : Int32) * (((31 : Int32) * (((31 : Int32) * ((0 : Int32) + (u0 &&& (255 : Int32)))) + (u1 &&& (255 : Int32)))) + (u2 &&& (255 : Int32)))) + (u3 &&& (255 : Int32))))]) s1 EF := fun t k => pre5 t (st6 t k)
  have e6 : T6.heap = h0 := hq6
  exact fin1 X6 (v := some (.int (((31 : Int32) * (((31 : Int32) * (((31 : Int32) * ((0 : Int32) + (u0 &&& (255 : Int32)))) + (u1 &&& (255 : Int32)))) + (u2 &&& (255 : Int32)))) + (u3 &&& (255 : Int32))))) hrt hlk (wl rfl) (wl rfl) (by rw [e6]; exact ⟨by rw [← hR]; rfl, N6, rfl⟩) (fun fs hr => hEF ▸ pre7 _ (retOut X6 hx Bd.returns rfl (Or.inl ⟨rfl, Or.inl rfl, _, rfl⟩) (B d25_51) hr))
abbrev rKHc1 : Room := { frames := 2, cells := 0, slots := 0, locals := 33 }
theorem d25_32 : decode jdk_43_method_21_code 32 = .ok (.aload_n 0, 1) := by decide +kernel
theorem d25_33 : decode jdk_43_method_21_code 33 = .ok (.iconst 0, 1) := by decide +kernel
theorem d25_34 : decode jdk_43_method_21_code 34 = .ok (.baload, 1) := by decide +kernel
theorem d25_35 : decode jdk_43_method_21_code 35 = .ok (.sipush 255, 3) := by decide +kernel
theorem d25_38 : decode jdk_43_method_21_code 38 = .ok (.iand, 1) := by decide +kernel
theorem d25_39 : decode jdk_43_method_21_code 39 = .ok (.goto 12, 3) := by decide +kernel
theorem efHc1 (m : MethodId) (a1 : Addr) : entryFrame m #[(.ref a1)] 1 = mkF m 0 #[rv a1] [] := by first | (simp [entryFrame, mkF, argsToLocals, Value.category]; done) | rfl
def QHc1 (Z : State) (a1 : Addr) (cz : Int32) (fv : Value) (k : ClassId) (u0 : Int32) (r : Int32) (h0 : Heap) (n0 : Nat) (v : Option Value) (h : Heap) (L : List Loc) : Prop := v = some (.int r) ∧ Fr n0 L ∧ h = h0
set_option maxRecDepth 65536 in
set_option maxHeartbeats 40000000 in
theorem rmHc1 (l : Launch) (Z : State) (a0 : Array Value) (hw : HW a0 Z) (ws : List Jvm.Cond) (a1 : Addr) (cz : Int32) (fv : Value) (k : ClassId) (u0 : Int32) (r : Int32) (h0 : Heap) (n0 : Nat) (Z0 : n0 ≤ h0.size) (O0 : Old Z n0 h0) (J0 : Jd Z cz fv) (VV : Arv Z h0 a1 k .byte (1 : Int32) [(.int u0)] (.int (0 : Int32))) (EB : Exa Z h0 a1 "[B") (hR : hsB [u0] = r) :
    MF l Z mN25 jdk_43_method_21_code 1 (some .int) ws rKHc1 #[(.ref a1)] h0 (QHc1 Z a1 cz fv k u0 r h0 n0) := by
  refine MetFree.of_bodySF (plainFor_of_name pn2) hisR ?_
  intro p e s m args bl meth c s1 Bd hml0 hP hK
  obtain ⟨rfl, hZ, hh⟩ := hP
  have hx := Bd.exec
  have hby := Bd.bytes
  have B := @hb c _ hby
  have hown : s.vm.findClass "java/lang/StringLatin1" = some m.cls := findClass_of_methodNamed Bd.named
  have hlk : meth.locks = false := BodyLoose.notSynchronized Bd
  have hrt : ∀ {v : Option Value}, meth.sig.returnType = none → v = none := fun h => by rw [Bd.returns] at h; cases h
  have X0 : Stand p l e rKHc1 s m #[(.ref a1)] bl meth c s1 [] 0 0 := Stand.of_body Bd
  have e0 : s1.heap = h0 := by rw [← hh, Bd.state]; rfl
  have N0 := Fr.nil n0
  obtain ⟨EF, hEF⟩ : ∃ f, f = entryFrame m #[(.ref a1)] 1 := ⟨_, rfl⟩
  have pre0 : Go p e bl s1 (mkF m 0 #[rv a1] []) s1 EF := fun t k => by rw [hEF]; exact castTop (efHc1 m a1) k
  have pre1 : Go p e bl s1 (mkF m 1 #[rv a1] [(.ref a1)]) s1 EF := fun t k => pre0 t (by
   exact XS.aloadN X0.here hx rfl (B d25_0) rfl rfl k)
  obtain ⟨cl2, Ar2, q2, Sz2, M2, H2, G2⟩ := id VV
  have pre3 : Go p e bl s1 (mkF m 34 #[rv a1] [(.int (0 : Int32)), (.ref a1)]) s1 EF := fun t k => pre1 t (by
   refine X0.arraylength hx (by rw [e0]; exact Ar2.1) (State.isArrayOf_alike hZ.alike Ar2.2.1) (g := (mkF m 1 #[rv a1] [(.ref a1)])) rfl rfl (B d25_1) _ ?_
   rw [len_of Sz2 M2]
   refine own_lsw X0.here hx rfl (pc0 := 2) (pc' := 32) (o := 30) rfl (B d25_2) rfl (by decide) (by decide) (by decide) (by decide) ?_
   refine XS.aloadN X0.here hx rfl (B d25_32) rfl rfl ?_
   exact XS.iconst X0.here hx rfl (B d25_33) k)
  obtain ⟨cl4, Ar4, q4, Sz4, M4, H4, G4⟩ := id VV
  have hin4 : ¬ ((0 : Int32) < 0 ∨ cl4.slots.size ≤ ((0 : Int32)).toNatClampNeg) := inb_of Sz4 ⟨by decide, by decide⟩
  have hat4 : cl4.slots[((0 : Int32)).toNatClampNeg]? = some (.int u0) := Has.at H4 hin4 rfl
  have pre5 : Go p e bl s1 (mkF m 51 #[rv a1] [(.int (u0 &&& (255 : Int32)))]) s1 EF := fun t k => pre3 t (by
   refine X0.baloadBytes hx (j := (0 : Int32)) (v := (.int u0)) (by rw [e0]; exact Ar4.1) (State.isArrayOf_alike hZ.alike Ar4.2.1) Ar4.2.2 hin4 hat4 (g := (mkF m 34 #[rv a1] [(.int (0 : Int32)), (.ref a1)])) rfl rfl (B d25_34) _ ?_
   refine XS.sipush X0.here hx rfl (B d25_35) ?_
   refine XS.iand X0.here hx rfl (B d25_38) rfl ?_
   exact XS.goto X0.here hx rfl (pc0 := 39) (pc' := 51) rfl (B d25_39) (by decide) (by decide) k)
  exact fin1 X0 (v := some (.int (u0 &&& (255 : Int32)))) hrt hlk (wl rfl) (wl rfl) (by rw [e0]; exact ⟨by rw [← hR]; rfl, N0, rfl⟩) (fun fs hr => hEF ▸ pre5 _ (retOut X0 hx Bd.returns rfl (Or.inl ⟨rfl, Or.inl rfl, _, rfl⟩) (B d25_51) hr))
theorem rmH (l : Launch) (Z : State) (a0 : Array Value) (hw : HW a0 Z) (ws : List Jvm.Cond) (a1 : Addr) (cz : Int32) (fv : Value) (k : ClassId) (n : Int32) (bs : List Int32) (r : Int32) (h0 : Heap) (n0 : Nat) (Z0 : n0 ≤ h0.size) (O0 : Old Z n0 h0) (J0 : Jd Z cz fv) (VV : Arv Z h0 a1 k .byte n (BV bs) (.int (0 : Int32))) (EB : Exa Z h0 a1 "[B") (G : Gd n bs) (hR : hsB bs = r) :
    MF l Z mN25 jdk_43_method_21_code 1 (some .int) ws rKHc4 #[(.ref a1)] h0 (QP r h0 n0) := by
  obtain ⟨g1, g2, g3, g4⟩ := G
  rcases own_len g1 g2 g3 with ⟨u0, rfl, rfl⟩ | ⟨u0, u1, rfl, rfl⟩ | ⟨u0, u1, u2, rfl, rfl⟩ | ⟨u0, u1, u2, u3, rfl, rfl⟩
  · exact rmHc1 l Z a0 hw ws a1 cz fv k u0 r h0 n0 Z0 O0 J0 VV EB hR
  · exact rmHc2 l Z a0 hw ws a1 cz fv k u0 u1 r h0 n0 Z0 O0 J0 VV EB hR
  · exact rmHc3 l Z a0 hw ws a1 cz fv k u0 u1 u2 r h0 n0 Z0 O0 J0 VV EB hR
  · exact rmHc4 l Z a0 hw ws a1 cz fv k u0 u1 u2 u3 r h0 n0 Z0 O0 J0 VV EB hR

abbrev rKHs : Room := { frames := 3, cells := 0, slots := 0, locals := 45 }
theorem d26_0 : decode jdk_42_method_78_code 0 = .ok (.aload_n 0, 1) := by decide +kernel
theorem d26_1 : decode jdk_42_method_78_code 1 = .ok (.getfield 19, 3) := by decide +kernel
theorem d26_4 : decode jdk_42_method_78_code 4 = .ok (.istore_n 1, 1) := by decide +kernel
theorem d26_5 : decode jdk_42_method_78_code 5 = .ok (.iload_n 1, 1) := by decide +kernel
theorem d26_6 : decode jdk_42_method_78_code 6 = .ok (.ifCond .ne 52, 3) := by decide +kernel
theorem d26_9 : decode jdk_42_method_78_code 9 = .ok (.aload_n 0, 1) := by decide +kernel
theorem d26_10 : decode jdk_42_method_78_code 10 = .ok (.getfield 23, 3) := by decide +kernel
theorem d26_13 : decode jdk_42_method_78_code 13 = .ok (.ifCond .ne 45, 3) := by decide +kernel
theorem d26_16 : decode jdk_42_method_78_code 16 = .ok (.aload_n 0, 1) := by decide +kernel
theorem d26_17 : decode jdk_42_method_78_code 17 = .ok (.invokevirtual 492, 3) := by decide +kernel
theorem d26_20 : decode jdk_42_method_78_code 20 = .ok (.ifCond .eq 13, 3) := by decide +kernel
theorem d26_23 : decode jdk_42_method_78_code 23 = .ok (.aload_n 0, 1) := by decide +kernel
theorem d26_24 : decode jdk_42_method_78_code 24 = .ok (.getfield 9, 3) := by decide +kernel
theorem d26_27 : decode jdk_42_method_78_code 27 = .ok (.invokestatic 628, 3) := by decide +kernel
theorem d26_30 : decode jdk_42_method_78_code 30 = .ok (.goto 10, 3) := by decide +kernel
theorem d26_40 : decode jdk_42_method_78_code 40 = .ok (.istore_n 1, 1) := by decide +kernel
theorem d26_41 : decode jdk_42_method_78_code 41 = .ok (.iload_n 1, 1) := by decide +kernel
theorem d26_42 : decode jdk_42_method_78_code 42 = .ok (.ifCond .ne 11, 3) := by decide +kernel
theorem d26_45 : decode jdk_42_method_78_code 45 = .ok (.aload_n 0, 1) := by decide +kernel
theorem d26_46 : decode jdk_42_method_78_code 46 = .ok (.iconst 1, 1) := by decide +kernel
theorem d26_47 : decode jdk_42_method_78_code 47 = .ok (.putfield 23, 3) := by decide +kernel
theorem d26_50 : decode jdk_42_method_78_code 50 = .ok (.goto 8, 3) := by decide +kernel
theorem d26_53 : decode jdk_42_method_78_code 53 = .ok (.aload_n 0, 1) := by decide +kernel
theorem d26_54 : decode jdk_42_method_78_code 54 = .ok (.iload_n 1, 1) := by decide +kernel
theorem d26_55 : decode jdk_42_method_78_code 55 = .ok (.putfield 19, 3) := by decide +kernel
theorem d26_58 : decode jdk_42_method_78_code 58 = .ok (.iload_n 1, 1) := by decide +kernel
theorem d26_59 : decode jdk_42_method_78_code 59 = .ok (.ireturn, 1) := by decide +kernel
theorem pd19 : parseMethodDescriptor "([B)I" = some ⟨[(.array .byte)], some .int⟩ := by decide +kernel
theorem efHs (m : MethodId) (a1 : Addr) : entryFrame m #[(.ref a1)] 2 = mkF m 0 #[rv a1, .unset] [] := by first | (simp [entryFrame, mkF, argsToLocals, Value.category]; done) | rfl
def QHs (Z : State) (a1 : Addr) (cz : Int32) (fv : Value) (b : Addr) (k : ClassId) (n : Int32) (bs : List Int32) (r : Int32) (h0 : Heap) (n0 : Nat) (v : Option Value) (h : Heap) (L : List Loc) : Prop := (v = some (.int r) ∧ Fr n0 L ∧ Keep h0 h [a1] ∧ ¬ r = 0 ∧ StL Z h a1 b k n bs r 0) ∨ (v = some (.int r) ∧ Fr n0 L ∧ Keep h0 h [a1] ∧ r = 0 ∧ StL Z h a1 b k n bs 0 1)
set_option maxRecDepth 65536 in
set_option maxHeartbeats 40000000 in
theorem rmHs (l : Launch) (Z : State) (a0 : Array Value) (hw : HW a0 Z) (ws : List Jvm.Cond) (a1 : Addr) (cz : Int32) (fv : Value) (b : Addr) (k : ClassId) (n : Int32) (bs : List Int32) (r : Int32) (h0 : Heap) (n0 : Nat) (Z0 : n0 ≤ h0.size) (O0 : Old Z n0 h0) (J0 : Jd Z cz fv) (SL : StL Z h0 a1 b k n bs 0 0) (g_a1 : n0 ≤ a1) (G : Gd n bs) (hR : hsB bs = r) :
    MF l Z mN26 jdk_42_method_78_code 2 (some .int) ws rKHs #[(.ref a1)] h0 (QHs Z a1 cz fv b k n bs r h0 n0) := by
  refine MetFree.of_bodySF (plainFor_of_name pn0) hisR ?_
  intro p e s m args bl meth c s1 Bd hml0 hP hK
  obtain ⟨rfl, hZ, hh⟩ := hP
  have hx := Bd.exec
  have hby := Bd.bytes
  have B := @hb c _ hby
  have hM := fun {n : Nat} (h : n = 2) => h.trans hml0.symm
  have hown : s.vm.findClass "java/lang/String" = some m.cls := findClass_of_methodNamed Bd.named
  have hlk : meth.locks = false := BodyLoose.notSynchronized Bd
  have hrt : ∀ {v : Option Value}, meth.sig.returnType = none → v = none := fun h => by rw [Bd.returns] at h; cases h
  have X0 : Stand p l e rKHs s m #[(.ref a1)] bl meth c s1 [] 0 0 := Stand.of_body Bd
  have e0 : s1.heap = h0 := by rw [← hh, Bd.state]; rfl
  have N0 := Fr.nil n0
  obtain ⟨EF, hEF⟩ : ∃ f, f = entryFrame m #[(.ref a1)] 2 := ⟨_, rfl⟩
  have pre0 : Go p e bl s1 (mkF m 0 #[rv a1, .unset] []) s1 EF := fun t k => by rw [hEF]; exact castTop (efHs m a1) k
  have pre1 : Go p e bl s1 (mkF m 1 #[rv a1, .unset] [(.ref a1)]) s1 EF := fun t k => pre0 t (by
   exact XS.aloadN X0.here hx rfl (B d26_0) rfl rfl k)
  obtain ⟨T2, X2, e2, st2⟩ := getF X0 hx hZ hown (host := "") (Or.inl (hw _ (mW 128 rfl))) Via.refl e0 SL.2.2.2.2.2.2.1 (g := (mkF m 1 #[rv a1, .unset] [(.ref a1)])) rfl rfl (B d26_1)
  have pre3 : Go p e bl T2 (mkF m 4 #[rv a1, .unset] [(.int (0 : Int32))]) s1 EF := fun t k => pre1 t (st2 t k)
  have pre4 : Go p e bl T2 (mkF m 6 #[rv a1, iv (0 : Int32)] [(.int (0 : Int32))]) s1 EF := fun t k => pre3 t (by
   refine XS.istoreN X2.here hx rfl (B d26_4) rfl (l' := #[rv a1, iv (0 : Int32)]) rfl ?_
   exact XS.iloadN X2.here hx rfl (B d26_5) rfl k)
  have pre5 : Go p e bl T2 (mkF m 9 #[rv a1, iv (0 : Int32)] []) s1 EF := fun t k => pre4 t (XS.ifNo X2.here hx rfl (B d26_6) rfl ((if0 _ _).trans (teq (by decide : (0 : Int32) = (0 : Int32))).2) k)
  have pre6 : Go p e bl T2 (mkF m 10 #[rv a1, iv (0 : Int32)] [(.ref a1)]) s1 EF := fun t k => pre5 t (by
   exact XS.aloadN X2.here hx rfl (B d26_9) rfl rfl k)
  obtain ⟨T7, X7, e7, st7⟩ := getF X2 hx hZ hown (host := "") (Or.inl (hw _ (mW 130 rfl))) Via.refl e2 SL.2.2.2.2.2.2.2 (g := (mkF m 10 #[rv a1, iv (0 : Int32)] [(.ref a1)])) rfl rfl (B d26_10)
  have pre8 : Go p e bl T7 (mkF m 13 #[rv a1, iv (0 : Int32)] [(.int (0 : Int32))]) s1 EF := fun t k => pre6 t (st7 t k)
  have pre9 : Go p e bl T7 (mkF m 16 #[rv a1, iv (0 : Int32)] []) s1 EF := fun t k => pre8 t (XS.ifNo X7.here hx rfl (B d26_13) rfl ((if0 _ _).trans (teq (by decide : (0 : Int32) = (0 : Int32))).2) k)
  have pre10 : Go p e bl T7 (mkF m 17 #[rv a1, iv (0 : Int32)] [(.ref a1)]) s1 EF := fun t k => pre9 t (by
   exact XS.aloadN X7.here hx rfl (B d26_16) rfl rfl k)
  obtain ⟨cq11, kq11, q11a, q11b, q11c⟩ := isOf hZ e7 SL.1
  obtain ⟨_, _, ⟨T11, L11, k11, n11⟩, -, X11, ⟨Lc11, hQ11, l11, y11, z11⟩, st11⟩ := X7.virtualBack hx (y := mN2) (z := mN2) hown (mvT hZ (hw _ (mW 69 rfl))) (mvT hZ (hw _ (mW 70 rfl))) (notFace_of_selects (args := #[]) (mvT hZ (hw _ (mW 72 rfl)))) (mvT hZ (hw _ (mW 72 rfl))) (mvT hZ (hw _ (mW 71 rfl))) (by decide) (backOf (W := 0) (rmJil l Z a0 hw [] a1 cz fv (0 : Int32) (1 : Int32) h0 n0 Z0 O0 J0 SL.2.1 (by decide)) hZ (hw _ (mW 73 rfl)) (hw _ (mW 10 rfl)) (by decide) (by decide)) q11a q11c (g := (mkF m 17 #[rv a1, iv (0 : Int32)] [(.ref a1)])) rfl (hM rfl) (Steps.refl _) (argsL := []) (rest := []) (lenOf pd3 rfl) rfl (Nat.le_of_eq rfl) (B d26_17) (fun _ _ => ⟨rfl, e7, wl rfl, wl rfl⟩)
  dsimp only [Pt.U, Pt.locs, Pt.cells, Pt.slots] at X11 l11 y11 z11 st11 hQ11
  subst l11 y11 z11
  obtain ⟨rfl, N11q, hq11⟩ := hQ11
  have N11 := Fr.app N0 N11q
  have pre12 : Go p e bl T11 (mkF m 20 #[rv a1, iv (0 : Int32)] [(.int (1 : Int32))]) s1 EF := fun t k => pre10 t (st11.trans k)
  have e11 : T11.heap = h0 := hq11
  have pre13 : Go p e bl T11 (mkF m 23 #[rv a1, iv (0 : Int32)] []) s1 EF := fun t k => pre12 t (XS.ifNo X11.here hx rfl (B d26_20) rfl ((if0 _ _).trans (feq (by decide : ¬ ((1 : Int32) = (0 : Int32)))).1) k)
  have pre14 : Go p e bl T11 (mkF m 24 #[rv a1, iv (0 : Int32)] [(.ref a1)]) s1 EF := fun t k => pre13 t (by
   exact XS.aloadN X11.here hx rfl (B d26_23) rfl rfl k)
  obtain ⟨T15, X15, e15, st15⟩ := getF X11 hx hZ hown (host := "") (Or.inl (hw _ (mW 36 rfl))) Via.refl e11 SL.2.2.1 (g := (mkF m 24 #[rv a1, iv (0 : Int32)] [(.ref a1)])) rfl rfl (B d26_24)
  have pre16 : Go p e bl T15 (mkF m 27 #[rv a1, iv (0 : Int32)] [(.ref b)]) s1 EF := fun t k => pre14 t (st15 t k)
  obtain ⟨_, _, ⟨T17, L17, k17, n17⟩, -, X17, ⟨Lc17, hQ17, l17, y17, z17⟩, st17⟩ := Jvm.LawKit.callS X15 hx (y := mN25) hown (mvT hZ (hw _ (mW 132 rfl))) (mvT hZ (hw _ (mW 133 rfl))) (mvT hZ (hw _ (mW 76 rfl))) (mvT hZ (hw _ (mW 134 rfl))) (by decide) (backOf (W := 0) (rmH l Z a0 hw [] b cz fv k n bs r h0 n0 Z0 O0 J0 SL.2.2.2.1 SL.2.2.2.2.1 G hR) hZ (hw _ (mW 134 rfl)) (hw _ (mW 76 rfl)) (by decide) (by decide)) (g := (mkF m 27 #[rv a1, iv (0 : Int32)] [(.ref b)])) rfl (hM rfl) (argsL := [(.ref b)]) (rest := []) (lenOf pd19 rfl) rfl (Nat.le_of_eq rfl) (B d26_27) (fun _ _ => ⟨rfl, e15, wl rfl, wl rfl⟩)
  dsimp only [Pt.U, Pt.locs, Pt.cells, Pt.slots] at X17 l17 y17 z17 st17 hQ17
  subst l17 y17 z17
  obtain ⟨rfl, N17q, hq17⟩ := hQ17
  have N17 := Fr.app N11 N17q
  have pre18 : Go p e bl T17 (mkF m 30 #[rv a1, iv (0 : Int32)] [(.int r)]) s1 EF := fun t k => pre16 t (st17 t k)
  have e17 : T17.heap = h0 := hq17
  have pre19 : Go p e bl T17 (mkF m 42 #[rv a1, iv r] [(.int r)]) s1 EF := fun t k => pre18 t (by
   refine XS.goto X17.here hx rfl (pc0 := 30) (pc' := 40) rfl (B d26_30) (by decide) (by decide) ?_
   refine XS.istoreN X17.here hx rfl (B d26_40) rfl (l' := #[rv a1, iv r]) rfl ?_
   exact XS.iloadN X17.here hx rfl (B d26_41) rfl k)
  by_cases hc42 : r = (0 : Int32)
  · have pre20 : Go p e bl T17 (mkF m 45 #[rv a1, iv r] []) s1 EF := fun t k => pre19 t (XS.ifNo X17.here hx rfl (B d26_42) rfl ((if0 _ _).trans (teq hc42).2) k)
    have pre21 : Go p e bl T17 (mkF m 47 #[rv a1, iv r] [(.int (1 : Int32)), (.ref a1)]) s1 EF := fun t k => pre20 t (by
     refine XS.aloadN X17.here hx rfl (B d26_45) rfl rfl ?_
     exact XS.iconst X17.here hx rfl (B d26_46) k)
    obtain ⟨T22, h22, X22, e22, W22, st22⟩ := putFN X17 hx hZ hown (hw _ (mW 130 rfl)) Via.refl e17 SL.2.2.2.2.2.2.2 SL.1 (Or.inl (hw _ (mW 131 rfl))) (hw _ (mW 9 rfl)) (ty := .boolean) (v' := (.int (1 : Int32))) (by decide) rfl rfl (g := (mkF m 47 #[rv a1, iv r] [(.int (1 : Int32)), (.ref a1)])) rfl rfl (B d26_47)
    have pre23 : Go p e bl T22 (mkF m 50 #[rv a1, iv r] []) s1 EF := fun t k => pre21 t (st22 t k)
    have O24 : Old Z n0 h22 := O0.wr W22 g_a1
    have Z24 : n0 ≤ h22.size := Nat.le_trans Z0 (Keep.of_wr W22).1
    have K24 : Keep h0 h22 [a1] := (Keep.refl h0 [a1]).wr W22 (Or.inl (List.mem_of_getElem? (i := 0) rfl))
    have Fw22 := Fld.same W22 SL.2.2.2.2.2.2.2
    have N22 := Fr.snoc X22 N17 g_a1
    have pre25 : Go p e bl T22 (mkF m 59 #[rv a1, iv r] [(.int r)]) s1 EF := fun t k => pre23 t (by
     refine XS.goto X22.here hx rfl (pc0 := 50) (pc' := 58) rfl (B d26_50) (by decide) (by decide) ?_
     exact XS.iloadN X22.here hx rfl (B d26_58) rfl k)
    exact fin1 X22 (v := some (.int r)) hrt hlk (wl rfl) (wl rfl) (by rw [e22]; exact Or.inr ⟨rfl, N22, K24, hc42, ⟨(SL.1.wr W22), (Fld.other W22 SL.2.1 (Or.inr (slot_ne (Or.inr (hw _ (mW 35 rfl))) (Or.inl (hw _ (mW 131 rfl))) (by decide) (t := .byte) (t' := .boolean) (by decide) (by decide)))), (Fld.other W22 SL.2.2.1 (Or.inr (slot_ne (Or.inr (hw _ (mW 37 rfl))) (Or.inl (hw _ (mW 131 rfl))) (by decide) (t := (.array .byte)) (t' := .boolean) (by decide) (by decide)))), (SL.2.2.2.1.other W22 (Ne.symm SL.2.2.2.2.2.1)), (SL.2.2.2.2.1.wr W22), SL.2.2.2.2.2.1, (Fld.other W22 SL.2.2.2.2.2.2.1 (Or.inr (slot_ne (Or.inl (hw _ (mW 129 rfl))) (Or.inl (hw _ (mW 131 rfl))) (by decide) (t := .int) (t' := .boolean) (by decide) (by decide)))), Fw22⟩⟩) (fun fs hr => hEF ▸ pre25 _ (retOut X22 hx Bd.returns rfl (Or.inl ⟨rfl, Or.inl rfl, _, rfl⟩) (B d26_59) hr))
  have pre26 : Go p e bl T17 (mkF m 53 #[rv a1, iv r] []) s1 EF := fun t k => pre19 t (XS.ifYes X17.here hx rfl (pc0 := 42) (pc' := 53) rfl (B d26_42) rfl ((if0 _ _).trans (feq hc42).2) (by decide) (by decide) k)
  have pre27 : Go p e bl T17 (mkF m 55 #[rv a1, iv r] [(.int r), (.ref a1)]) s1 EF := fun t k => pre26 t (by
   refine XS.aloadN X17.here hx rfl (B d26_53) rfl rfl ?_
   exact XS.iloadN X17.here hx rfl (B d26_54) rfl k)
  obtain ⟨T28, h28, X28, e28, W28, st28⟩ := putF X17 hx hZ hown (host := "") (Or.inl (hw _ (mW 128 rfl))) Via.refl e17 SL.2.2.2.2.2.2.1 SL.1 (Or.inl (hw _ (mW 129 rfl))) (hw _ (mW 9 rfl)) (ty := .int) (by decide) rfl rfl (g := (mkF m 55 #[rv a1, iv r] [(.int r), (.ref a1)])) rfl rfl (B d26_55)
  have pre29 : Go p e bl T28 (mkF m 58 #[rv a1, iv r] []) s1 EF := fun t k => pre27 t (st28 t k)
  have O30 : Old Z n0 h28 := O0.wr W28 g_a1
  have Z30 : n0 ≤ h28.size := Nat.le_trans Z0 (Keep.of_wr W28).1
  have K30 : Keep h0 h28 [a1] := (Keep.refl h0 [a1]).wr W28 (Or.inl (List.mem_of_getElem? (i := 0) rfl))
  have Fw28 := Fld.same W28 SL.2.2.2.2.2.2.1
  have N28 := Fr.snoc X28 N17 g_a1
  have pre31 : Go p e bl T28 (mkF m 59 #[rv a1, iv r] [(.int r)]) s1 EF := fun t k => pre29 t (by
   exact XS.iloadN X28.here hx rfl (B d26_58) rfl k)
  exact fin1 X28 (v := some (.int r)) hrt hlk (wl rfl) (wl rfl) (by rw [e28]; exact Or.inl ⟨rfl, N28, K30, hc42, ⟨(SL.1.wr W28), (Fld.other W28 SL.2.1 (Or.inr (slot_ne (Or.inr (hw _ (mW 35 rfl))) (Or.inl (hw _ (mW 129 rfl))) (by decide) (t := .byte) (t' := .int) (by decide) (by decide)))), (Fld.other W28 SL.2.2.1 (Or.inr (slot_ne (Or.inr (hw _ (mW 37 rfl))) (Or.inl (hw _ (mW 129 rfl))) (by decide) (t := (.array .byte)) (t' := .int) (by decide) (by decide)))), (SL.2.2.2.1.other W28 (Ne.symm SL.2.2.2.2.2.1)), (SL.2.2.2.2.1.wr W28), SL.2.2.2.2.2.1, Fw28, (Fld.other W28 SL.2.2.2.2.2.2.2 (Or.inr (slot_ne (Or.inl (hw _ (mW 131 rfl))) (Or.inl (hw _ (mW 129 rfl))) (by decide) (t := .boolean) (t' := .int) (by decide) (by decide))))⟩⟩) (fun fs hr => hEF ▸ pre31 _ (retOut X28 hx Bd.returns rfl (Or.inl ⟨rfl, Or.inl rfl, _, rfl⟩) (B d26_59) hr))
abbrev rKHt : Room := { frames := 3, cells := 0, slots := 0, locals := 45 }
theorem efHt (m : MethodId) (a1 : Addr) : entryFrame m #[(.ref a1)] 2 = mkF m 0 #[rv a1, .unset] [] := by first | (simp [entryFrame, mkF, argsToLocals, Value.category]; done) | rfl
def QHt (Z : State) (a1 : Addr) (cz : Int32) (fv : Value) (b : Addr) (k : ClassId) (n : Int32) (bs : List Int32) (r : Int32) (h0 : Heap) (n0 : Nat) (v : Option Value) (h : Heap) (L : List Loc) : Prop := v = some (.int r) ∧ Fr n0 L ∧ h = h0
set_option maxRecDepth 65536 in
set_option maxHeartbeats 40000000 in
theorem rmHt (l : Launch) (Z : State) (a0 : Array Value) (hw : HW a0 Z) (ws : List Jvm.Cond) (a1 : Addr) (cz : Int32) (fv : Value) (b : Addr) (k : ClassId) (n : Int32) (bs : List Int32) (r : Int32) (h0 : Heap) (n0 : Nat) (Z0 : n0 ≤ h0.size) (O0 : Old Z n0 h0) (J0 : Jd Z cz fv) (SL : StL Z h0 a1 b k n bs r 0) (h0r : ¬ r = 0) :
    MF l Z mN26 jdk_42_method_78_code 2 (some .int) ws rKHt #[(.ref a1)] h0 (QHt Z a1 cz fv b k n bs r h0 n0) := by
  refine MetFree.of_bodySF (plainFor_of_name pn0) hisR ?_
  intro p e s m args bl meth c s1 Bd hml0 hP hK
  obtain ⟨rfl, hZ, hh⟩ := hP
  have hx := Bd.exec
  have hby := Bd.bytes
  have B := @hb c _ hby
  have hown : s.vm.findClass "java/lang/String" = some m.cls := findClass_of_methodNamed Bd.named
  have hlk : meth.locks = false := BodyLoose.notSynchronized Bd
  have hrt : ∀ {v : Option Value}, meth.sig.returnType = none → v = none := fun h => by rw [Bd.returns] at h; cases h
  have X0 : Stand p l e rKHt s m #[(.ref a1)] bl meth c s1 [] 0 0 := Stand.of_body Bd
  have e0 : s1.heap = h0 := by rw [← hh, Bd.state]; rfl
  have N0 := Fr.nil n0
  obtain ⟨EF, hEF⟩ : ∃ f, f = entryFrame m #[(.ref a1)] 2 := ⟨_, rfl⟩
  have pre0 : Go p e bl s1 (mkF m 0 #[rv a1, .unset] []) s1 EF := fun t k => by rw [hEF]; exact castTop (efHt m a1) k
  have pre1 : Go p e bl s1 (mkF m 1 #[rv a1, .unset] [(.ref a1)]) s1 EF := fun t k => pre0 t (by
   exact XS.aloadN X0.here hx rfl (B d26_0) rfl rfl k)
  obtain ⟨T2, X2, e2, st2⟩ := getF X0 hx hZ hown (host := "") (Or.inl (hw _ (mW 128 rfl))) Via.refl e0 SL.2.2.2.2.2.2.1 (g := (mkF m 1 #[rv a1, .unset] [(.ref a1)])) rfl rfl (B d26_1)
  have pre3 : Go p e bl T2 (mkF m 4 #[rv a1, .unset] [(.int r)]) s1 EF := fun t k => pre1 t (st2 t k)
  have pre4 : Go p e bl T2 (mkF m 6 #[rv a1, iv r] [(.int r)]) s1 EF := fun t k => pre3 t (by
   refine XS.istoreN X2.here hx rfl (B d26_4) rfl (l' := #[rv a1, iv r]) rfl ?_
   exact XS.iloadN X2.here hx rfl (B d26_5) rfl k)
  have pre5 : Go p e bl T2 (mkF m 58 #[rv a1, iv r] []) s1 EF := fun t k => pre4 t (XS.ifYes X2.here hx rfl (pc0 := 6) (pc' := 58) rfl (B d26_6) rfl ((if0 _ _).trans (feq h0r).2) (by decide) (by decide) k)
  have pre6 : Go p e bl T2 (mkF m 59 #[rv a1, iv r] [(.int r)]) s1 EF := fun t k => pre5 t (by
   exact XS.iloadN X2.here hx rfl (B d26_58) rfl k)
  exact fin1 X2 (v := some (.int r)) hrt hlk (wl rfl) (wl rfl) (by rw [e2]; exact ⟨rfl, N0, rfl⟩) (fun fs hr => hEF ▸ pre6 _ (retOut X2 hx Bd.returns rfl (Or.inl ⟨rfl, Or.inl rfl, _, rfl⟩) (B d26_59) hr))
abbrev rKHu : Room := { frames := 3, cells := 0, slots := 0, locals := 45 }
theorem efHu (m : MethodId) (a1 : Addr) : entryFrame m #[(.ref a1)] 2 = mkF m 0 #[rv a1, .unset] [] := by first | (simp [entryFrame, mkF, argsToLocals, Value.category]; done) | rfl
def QHu (Z : State) (a1 : Addr) (cz : Int32) (fv : Value) (b : Addr) (k : ClassId) (n : Int32) (bs : List Int32) (h0 : Heap) (n0 : Nat) (v : Option Value) (h : Heap) (L : List Loc) : Prop := v = some (.int (0 : Int32)) ∧ Fr n0 L ∧ h = h0
set_option maxRecDepth 65536 in
set_option maxHeartbeats 40000000 in
theorem rmHu (l : Launch) (Z : State) (a0 : Array Value) (hw : HW a0 Z) (ws : List Jvm.Cond) (a1 : Addr) (cz : Int32) (fv : Value) (b : Addr) (k : ClassId) (n : Int32) (bs : List Int32) (h0 : Heap) (n0 : Nat) (Z0 : n0 ≤ h0.size) (O0 : Old Z n0 h0) (J0 : Jd Z cz fv) (SL : StL Z h0 a1 b k n bs 0 1) :
    MF l Z mN26 jdk_42_method_78_code 2 (some .int) ws rKHu #[(.ref a1)] h0 (QHu Z a1 cz fv b k n bs h0 n0) := by
  refine MetFree.of_bodySF (plainFor_of_name pn0) hisR ?_
  intro p e s m args bl meth c s1 Bd hml0 hP hK
  obtain ⟨rfl, hZ, hh⟩ := hP
  have hx := Bd.exec
  have hby := Bd.bytes
  have B := @hb c _ hby
  have hown : s.vm.findClass "java/lang/String" = some m.cls := findClass_of_methodNamed Bd.named
  have hlk : meth.locks = false := BodyLoose.notSynchronized Bd
  have hrt : ∀ {v : Option Value}, meth.sig.returnType = none → v = none := fun h => by rw [Bd.returns] at h; cases h
  have X0 : Stand p l e rKHu s m #[(.ref a1)] bl meth c s1 [] 0 0 := Stand.of_body Bd
  have e0 : s1.heap = h0 := by rw [← hh, Bd.state]; rfl
  have N0 := Fr.nil n0
  obtain ⟨EF, hEF⟩ : ∃ f, f = entryFrame m #[(.ref a1)] 2 := ⟨_, rfl⟩
  have pre0 : Go p e bl s1 (mkF m 0 #[rv a1, .unset] []) s1 EF := fun t k => by rw [hEF]; exact castTop (efHu m a1) k
  have pre1 : Go p e bl s1 (mkF m 1 #[rv a1, .unset] [(.ref a1)]) s1 EF := fun t k => pre0 t (by
   exact XS.aloadN X0.here hx rfl (B d26_0) rfl rfl k)
  obtain ⟨T2, X2, e2, st2⟩ := getF X0 hx hZ hown (host := "") (Or.inl (hw _ (mW 128 rfl))) Via.refl e0 SL.2.2.2.2.2.2.1 (g := (mkF m 1 #[rv a1, .unset] [(.ref a1)])) rfl rfl (B d26_1)
  have pre3 : Go p e bl T2 (mkF m 4 #[rv a1, .unset] [(.int (0 : Int32))]) s1 EF := fun t k => pre1 t (st2 t k)
  have pre4 : Go p e bl T2 (mkF m 6 #[rv a1, iv (0 : Int32)] [(.int (0 : Int32))]) s1 EF := fun t k => pre3 t (by
   refine XS.istoreN X2.here hx rfl (B d26_4) rfl (l' := #[rv a1, iv (0 : Int32)]) rfl ?_
   exact XS.iloadN X2.here hx rfl (B d26_5) rfl k)
  have pre5 : Go p e bl T2 (mkF m 9 #[rv a1, iv (0 : Int32)] []) s1 EF := fun t k => pre4 t (XS.ifNo X2.here hx rfl (B d26_6) rfl ((if0 _ _).trans (teq (by decide : (0 : Int32) = (0 : Int32))).2) k)
  have pre6 : Go p e bl T2 (mkF m 10 #[rv a1, iv (0 : Int32)] [(.ref a1)]) s1 EF := fun t k => pre5 t (by
   exact XS.aloadN X2.here hx rfl (B d26_9) rfl rfl k)
  obtain ⟨T7, X7, e7, st7⟩ := getF X2 hx hZ hown (host := "") (Or.inl (hw _ (mW 130 rfl))) Via.refl e2 SL.2.2.2.2.2.2.2 (g := (mkF m 10 #[rv a1, iv (0 : Int32)] [(.ref a1)])) rfl rfl (B d26_10)
  have pre8 : Go p e bl T7 (mkF m 13 #[rv a1, iv (0 : Int32)] [(.int (1 : Int32))]) s1 EF := fun t k => pre6 t (st7 t k)
  have pre9 : Go p e bl T7 (mkF m 58 #[rv a1, iv (0 : Int32)] []) s1 EF := fun t k => pre8 t (XS.ifYes X7.here hx rfl (pc0 := 13) (pc' := 58) rfl (B d26_13) rfl ((if0 _ _).trans (feq (by decide : ¬ ((1 : Int32) = (0 : Int32)))).2) (by decide) (by decide) k)
  have pre10 : Go p e bl T7 (mkF m 59 #[rv a1, iv (0 : Int32)] [(.int (0 : Int32))]) s1 EF := fun t k => pre9 t (by
   exact XS.iloadN X7.here hx rfl (B d26_58) rfl k)
  exact fin1 X7 (v := some (.int (0 : Int32))) hrt hlk (wl rfl) (wl rfl) (by rw [e7]; exact ⟨rfl, N0, rfl⟩) (fun fs hr => hEF ▸ pre10 _ (retOut X7 hx Bd.returns rfl (Or.inl ⟨rfl, Or.inl rfl, _, rfl⟩) (B d26_59) hr))
abbrev rKT : Room := { frames := 4, cells := 0, slots := 0, locals := 58 }
theorem d27_0 : decode prog_28_method_6_code 0 = .ok (.aload_n 0, 1) := by decide +kernel
theorem d27_1 : decode prog_28_method_6_code 1 = .ok (.getfield 7, 3) := by decide +kernel
theorem d27_4 : decode prog_28_method_6_code 4 = .ok (.invokevirtual 75, 3) := by decide +kernel
theorem d27_7 : decode prog_28_method_6_code 7 = .ok (.ireturn, 1) := by decide +kernel
theorem efT (m : MethodId) (a1 : Addr) : entryFrame m #[(.ref a1)] 1 = mkF m 0 #[rv a1] [] := by first | (simp [entryFrame, mkF, argsToLocals, Value.category]; done) | rfl
def QT (Z : State) (a1 : Addr) (cz : Int32) (fv : Value) (zs : Addr) (b : Addr) (k : ClassId) (n : Int32) (bs : List Int32) (r : Int32) (h0 : Heap) (n0 : Nat) (v : Option Value) (h : Heap) (L : List Loc) : Prop := (v = some (.int r) ∧ Fr n0 L ∧ Keep h0 h [zs] ∧ ¬ r = 0 ∧ StL Z h zs b k n bs r 0) ∨ (v = some (.int r) ∧ Fr n0 L ∧ Keep h0 h [zs] ∧ r = 0 ∧ StL Z h zs b k n bs 0 1)
set_option maxRecDepth 65536 in
set_option maxHeartbeats 40000000 in
theorem rmT (l : Launch) (Z : State) (a0 : Array Value) (hw : HW a0 Z) (ws : List Jvm.Cond) (a1 : Addr) (cz : Int32) (fv : Value) (zs : Addr) (b : Addr) (k : ClassId) (n : Int32) (bs : List Int32) (r : Int32) (h0 : Heap) (n0 : Nat) (Z0 : n0 ≤ h0.size) (O0 : Old Z n0 h0) (J0 : Jd Z cz fv) (F1 : Fld Z h0 a1 "com/example/minuterie/minuterie/TimerName" "name" "Ljava/lang/String;" (.ref zs)) (SL : StL Z h0 zs b k n bs 0 0) (g_zs : n0 ≤ zs) (G : Gd n bs) (hR : hsB bs = r) :
    MF l Z mN27 prog_28_method_6_code 1 (some .int) ws rKT #[(.ref a1)] h0 (QT Z a1 cz fv zs b k n bs r h0 n0) := by
  refine MetFree.of_bodySF (plainFor_of_name pn5) hisR ?_
  intro p e s m args bl meth c s1 Bd hml0 hP hK
  obtain ⟨rfl, hZ, hh⟩ := hP
  have hx := Bd.exec
  have hby := Bd.bytes
  have B := @hb c _ hby
  have hM := fun {n : Nat} (h : n = 1) => h.trans hml0.symm
  have hown : s.vm.findClass "com/example/minuterie/minuterie/TimerName" = some m.cls := findClass_of_methodNamed Bd.named
  have hlk : meth.locks = false := BodyLoose.notSynchronized Bd
  have hrt : ∀ {v : Option Value}, meth.sig.returnType = none → v = none := fun h => by rw [Bd.returns] at h; cases h
  have X0 : Stand p l e rKT s m #[(.ref a1)] bl meth c s1 [] 0 0 := Stand.of_body Bd
  have e0 : s1.heap = h0 := by rw [← hh, Bd.state]; rfl
  have N0 := Fr.nil n0
  obtain ⟨EF, hEF⟩ : ∃ f, f = entryFrame m #[(.ref a1)] 1 := ⟨_, rfl⟩
  have pre0 : Go p e bl s1 (mkF m 0 #[rv a1] []) s1 EF := fun t k => by rw [hEF]; exact castTop (efT m a1) k
  have pre1 : Go p e bl s1 (mkF m 1 #[rv a1] [(.ref a1)]) s1 EF := fun t k => pre0 t (by
   exact XS.aloadN X0.here hx rfl (B d27_0) rfl rfl k)
  obtain ⟨T2, X2, e2, st2⟩ := getF X0 hx hZ hown (host := "") (Or.inl (hw _ (mW 95 rfl))) Via.refl e0 F1 (g := (mkF m 1 #[rv a1] [(.ref a1)])) rfl rfl (B d27_1)
  have pre3 : Go p e bl T2 (mkF m 4 #[rv a1] [(.ref zs)]) s1 EF := fun t k => pre1 t (st2 t k)
  obtain ⟨cq4, kq4, q4a, q4b, q4c⟩ := isOf hZ e2 SL.1
  obtain ⟨_, _, ⟨T4, L4, k4, n4⟩, -, X4, ⟨Lc4, hQ4, l4, y4, z4⟩, st4⟩ := X2.virtualBack hx (y := mN26) (z := mN26) hown (mvT hZ (hw _ (mW 123 rfl))) (mvT hZ (hw _ (mW 124 rfl))) (notFace_of_selects (args := #[]) (mvT hZ (hw _ (mW 126 rfl)))) (mvT hZ (hw _ (mW 126 rfl))) (mvT hZ (hw _ (mW 125 rfl))) (by decide) (backOf (W := 0) (rmHs l Z a0 hw [] zs cz fv b k n bs r h0 n0 Z0 O0 J0 SL g_zs G hR) hZ (hw _ (mW 127 rfl)) (hw _ (mW 10 rfl)) (by decide) (by decide)) q4a q4c (g := (mkF m 4 #[rv a1] [(.ref zs)])) rfl (hM rfl) (Steps.refl _) (argsL := []) (rest := []) (lenOf pd12 rfl) rfl (Nat.le_of_eq rfl) (B d27_4) (fun _ _ => ⟨rfl, e2, wl rfl, wl rfl⟩)
  dsimp only [Pt.U, Pt.locs, Pt.cells, Pt.slots] at X4 l4 y4 z4 st4 hQ4
  subst l4 y4 z4
  rcases hQ4 with ⟨rfl, N4q, K4, hr4, SF4⟩ | ⟨rfl, N4q, K4, hr4, SF4⟩
  · have N4 := Fr.app N0 N4q
    have pre5 : Go p e bl T4 (mkF m 7 #[rv a1] [(.int r)]) s1 EF := fun t k => pre3 t (st4.trans k)
    have O6 : Old Z n0 T4.heap := O0.keep K4 (allS g_zs all0)
    have Z6 : n0 ≤ T4.heap.size := Nat.le_trans Z0 K4.1
    have K6 : Keep h0 T4.heap [zs] := (Keep.refl h0 [zs]).trans K4 (allS (Or.inl (List.mem_of_getElem? (i := 0) rfl)) all0)
    exact fin1 X4 (v := some (.int r)) hrt hlk (wl rfl) (wl rfl) (by exact Or.inl ⟨rfl, N4, K6, hr4, SF4⟩) (fun fs hr => hEF ▸ pre5 _ (retOut X4 hx Bd.returns rfl (Or.inl ⟨rfl, Or.inl rfl, _, rfl⟩) (B d27_7) hr))
  have N4 := Fr.app N0 N4q
  have pre7 : Go p e bl T4 (mkF m 7 #[rv a1] [(.int r)]) s1 EF := fun t k => pre3 t (st4.trans k)
  have O8 : Old Z n0 T4.heap := O0.keep K4 (allS g_zs all0)
  have Z8 : n0 ≤ T4.heap.size := Nat.le_trans Z0 K4.1
  have K8 : Keep h0 T4.heap [zs] := (Keep.refl h0 [zs]).trans K4 (allS (Or.inl (List.mem_of_getElem? (i := 0) rfl)) all0)
  exact fin1 X4 (v := some (.int r)) hrt hlk (wl rfl) (wl rfl) (by exact Or.inr ⟨rfl, N4, K8, hr4, SF4⟩) (fun fs hr => hEF ▸ pre7 _ (retOut X4 hx Bd.returns rfl (Or.inl ⟨rfl, Or.inl rfl, _, rfl⟩) (B d27_7) hr))
theorem pd20 : parseMethodDescriptor "(CCCCI)Ljava/lang/String;" = some ⟨[.char, .char, .char, .char, .int], some (.object "java/lang/String")⟩ := by decide +kernel
theorem pd21 : parseMethodDescriptor "(Ljava/lang/String;)Lcom/example/minuterie/minuterie/TimerName;" = some ⟨[(.object "java/lang/String")], some (.object "com/example/minuterie/minuterie/TimerName")⟩ := by decide +kernel
theorem pd22 : parseMethodDescriptor "()Ljava/lang/String;" = some ⟨[], some (.object "java/lang/String")⟩ := by decide +kernel
theorem efL (m : MethodId) (p1 : Int32) (p2 : Int32) (p3 : Int32) (p4 : Int32) (p5 : Int32) (p6 : Int32) : entryFrame m #[(.int p1), (.int p2), (.int p3), (.int p4), (.int p5), (.int p6)] maxLocals = mkF m 0 #[iv p1, iv p2, iv p3, iv p4, iv p5, iv p6, .unset, .unset, .unset, .unset, .unset, .unset, .unset, .unset, .unset, .unset, .unset] [] := by first | (simp [entryFrame, mkF, argsToLocals, Value.category, maxLocals]; done) | rfl
def QL (Z : State) (p1 : Int32) (p2 : Int32) (p3 : Int32) (p4 : Int32) (p5 : Int32) (p6 : Int32) (cz : Int32) (fv : Value) (h0 : Heap) (n0 : Nat) (v : Option Value) (h : Heap) (L : List Loc) : Prop := v = some (.int 1) ∧ Fr n0 L
set_option maxRecDepth 65536 in
set_option maxHeartbeats 40000000 in
theorem rmL (l : Launch) (Z : State) (a0 : Array Value) (hw : HW a0 Z) (ws : List Jvm.Cond) (p1 : Int32) (p2 : Int32) (p3 : Int32) (p4 : Int32) (p5 : Int32) (p6 : Int32) (cz : Int32) (fv : Value) (h0 : Heap) (n0 : Nat) (Z0 : n0 ≤ h0.size) (O0 : Old Z n0 h0) (J0 : Jd Z cz fv) :
    MetFree l x (head1 (Jvm.Cond.code x code maxLocals ret :: ws) room_1) (fun a U => a = #[(.int p1), (.int p2), (.int p3), (.int p4), (.int p5), (.int p6)] ∧ Z.Warmed39 U.vm ∧ U.heap = h0) (fun _ _ _ _ _ => True) (fun _ U o U' => ∃ v L, o = .returned v ∧ QL Z p1 p2 p3 p4 p5 p6 cz fv h0 n0 v U'.heap L ∧ ReturnedEndW U o U' L room_1.cells room_1.slots) := by
  refine MetFree.of_bodySF (plainFor_of_name pn4) hisR ?_
  intro p e s m args bl meth c s1 Bd hml0 hP hK
  obtain ⟨rfl, hZ, hh⟩ := hP
  have hx := Bd.exec
  have hby := Bd.bytes
  have B := @hb c _ hby
  have hM := fun {n : Nat} (h : n = maxLocals) => h.trans hml0.symm
  have hown : s.vm.findClass "com/example/minuterie/minuterie/TimerNameOfPinLaw" = some m.cls := findClass_of_methodNamed Bd.named
  have X0 : Stand p l e room_1 (s.setVm s.vm) m #[(.int p1), (.int p2), (.int p3), (.int p4), (.int p5), (.int p6)] bl meth c s1 [] 0 0 := Stand.of_body Bd
  have e0 : s1.heap = h0 := by rw [← hh, Bd.state]; rfl
  have N0 := Fr.nil n0
  obtain ⟨EF, hEF⟩ : ∃ f, f = entryFrame m #[(.int p1), (.int p2), (.int p3), (.int p4), (.int p5), (.int p6)] maxLocals := ⟨_, rfl⟩
  have pre0 : Go p e bl s1 (mkF m 0 #[iv p1, iv p2, iv p3, iv p4, iv p5, iv p6, .unset, .unset, .unset, .unset, .unset, .unset, .unset, .unset, .unset, .unset, .unset] []) s1 EF := fun t k => by rw [hEF]; exact castTop (efL m p1 p2 p3 p4 p5 p6) k
  have hZ0 : Z.Warmed39 (s.setVm s.vm).vm := hZ
  have hown0 : (s.setVm s.vm).vm.findClass "com/example/minuterie/minuterie/TimerNameOfPinLaw" = some m.cls := hown
  have hS0 : s.Since s.vm s.heap.size := (State.WarmedH.refl s).since _
  have hk0 : s.heap.size ≤ h0.size := by rw [← hh]; exact Nat.le_refl _
  have pre1 : Go p e bl s1 (mkF m 1 #[iv p1, iv p2, iv p3, iv p4, iv p5, iv p6, .unset, .unset, .unset, .unset, .unset, .unset, .unset, .unset, .unset, .unset, .unset] [(.int p1)]) s1 EF := fun t k => pre0 t (by
   exact XS.iloadN X0.here hx rfl (B at_0) rfl k)
  obtain ⟨_, _, ⟨T2, L2, k2, n2⟩, -, X2, ⟨Lc2, hQ2, l2, y2, z2⟩, st2⟩ := Jvm.LawKit.callS X0 hx (y := mN15) hown0 (mvT hZ0 (hw _ (mW 0 rfl))) (mvT hZ0 (hw _ (mW 1 rfl))) (mvT hZ0 (hw _ (mW 2 rfl))) (mvT hZ0 (hw _ (mW 3 rfl))) (by decide) (backOf (W := 0) (rmA l Z a0 hw [] p1 (alF p1) h0 n0 Z0 rfl) hZ0 (hw _ (mW 3 rfl)) (hw _ (mW 2 rfl)) (by decide) (by decide)) (g := (mkF m 1 #[iv p1, iv p2, iv p3, iv p4, iv p5, iv p6, .unset, .unset, .unset, .unset, .unset, .unset, .unset, .unset, .unset, .unset, .unset] [(.int p1)])) rfl (hM rfl) (argsL := [(.int p1)]) (rest := []) (lenOf pd13 rfl) rfl (Nat.le_of_eq rfl) (B at_1) (fun _ _ => ⟨rfl, e0, wl rfl, wl rfl⟩)
  dsimp only [Pt.U, Pt.locs, Pt.cells, Pt.slots] at X2 l2 y2 z2 st2 hQ2
  subst l2 y2 z2
  obtain ⟨rfl, N2q, hq2⟩ := hQ2
  have N2 := Fr.app N0 N2q
  have pre3 : Go p e bl T2 (mkF m 4 #[iv p1, iv p2, iv p3, iv p4, iv p5, iv p6, .unset, .unset, .unset, .unset, .unset, .unset, .unset, .unset, .unset, .unset, .unset] [(.int (alF p1))]) s1 EF := fun t k => pre1 t (st2 t k)
  have e2 : T2.heap = h0 := hq2
  obtain ⟨ca, e_ca⟩ : ∃ z : Int32, z = (alF p1) := ⟨_, rfl⟩
  have pre4 : Go p e bl T2 (mkF m 7 #[iv p1, iv p2, iv p3, iv p4, iv p5, iv p6, iv ca, .unset, .unset, .unset, .unset, .unset, .unset, .unset, .unset, .unset, .unset] [(.int p2)]) s1 EF := fun t k => pre3 t (by
   refine XS.istore X2.here hx rfl (B at_4) rfl (l' := #[iv p1, iv p2, iv p3, iv p4, iv p5, iv p6, iv ca, .unset, .unset, .unset, .unset, .unset, .unset, .unset, .unset, .unset, .unset]) (by rw [e_ca]; rfl) ?_
   exact XS.iloadN X2.here hx rfl (B at_6) rfl k)
  obtain ⟨_, _, ⟨T5, L5, k5, n5⟩, -, X5, ⟨Lc5, hQ5, l5, y5, z5⟩, st5⟩ := Jvm.LawKit.callS X2 hx (y := mN15) hown0 (mvT hZ0 (hw _ (mW 0 rfl))) (mvT hZ0 (hw _ (mW 1 rfl))) (mvT hZ0 (hw _ (mW 2 rfl))) (mvT hZ0 (hw _ (mW 3 rfl))) (by decide) (backOf (W := 0) (rmA l Z a0 hw [] p2 (alF p2) h0 n0 Z0 rfl) hZ0 (hw _ (mW 3 rfl)) (hw _ (mW 2 rfl)) (by decide) (by decide)) (g := (mkF m 7 #[iv p1, iv p2, iv p3, iv p4, iv p5, iv p6, iv ca, .unset, .unset, .unset, .unset, .unset, .unset, .unset, .unset, .unset, .unset] [(.int p2)])) rfl (hM rfl) (argsL := [(.int p2)]) (rest := []) (lenOf pd13 rfl) rfl (Nat.le_of_eq rfl) (B at_7) (fun _ _ => ⟨rfl, e2, wl rfl, wl rfl⟩)
  dsimp only [Pt.U, Pt.locs, Pt.cells, Pt.slots] at X5 l5 y5 z5 st5 hQ5
  subst l5 y5 z5
  obtain ⟨rfl, N5q, hq5⟩ := hQ5
  have N5 := Fr.app N2 N5q
  have pre6 : Go p e bl T5 (mkF m 10 #[iv p1, iv p2, iv p3, iv p4, iv p5, iv p6, iv ca, .unset, .unset, .unset, .unset, .unset, .unset, .unset, .unset, .unset, .unset] [(.int (alF p2))]) s1 EF := fun t k => pre4 t (st5 t k)
  have e5 : T5.heap = h0 := hq5
  obtain ⟨cb, e_cb⟩ : ∃ z : Int32, z = (alF p2) := ⟨_, rfl⟩
  have pre7 : Go p e bl T5 (mkF m 13 #[iv p1, iv p2, iv p3, iv p4, iv p5, iv p6, iv ca, iv cb, .unset, .unset, .unset, .unset, .unset, .unset, .unset, .unset, .unset] [(.int p3)]) s1 EF := fun t k => pre6 t (by
   refine XS.istore X5.here hx rfl (B at_10) rfl (l' := #[iv p1, iv p2, iv p3, iv p4, iv p5, iv p6, iv ca, iv cb, .unset, .unset, .unset, .unset, .unset, .unset, .unset, .unset, .unset]) (by rw [e_cb]; rfl) ?_
   exact XS.iloadN X5.here hx rfl (B at_12) rfl k)
  obtain ⟨_, _, ⟨T8, L8, k8, n8⟩, -, X8, ⟨Lc8, hQ8, l8, y8, z8⟩, st8⟩ := Jvm.LawKit.callS X5 hx (y := mN15) hown0 (mvT hZ0 (hw _ (mW 0 rfl))) (mvT hZ0 (hw _ (mW 1 rfl))) (mvT hZ0 (hw _ (mW 2 rfl))) (mvT hZ0 (hw _ (mW 3 rfl))) (by decide) (backOf (W := 0) (rmA l Z a0 hw [] p3 (alF p3) h0 n0 Z0 rfl) hZ0 (hw _ (mW 3 rfl)) (hw _ (mW 2 rfl)) (by decide) (by decide)) (g := (mkF m 13 #[iv p1, iv p2, iv p3, iv p4, iv p5, iv p6, iv ca, iv cb, .unset, .unset, .unset, .unset, .unset, .unset, .unset, .unset, .unset] [(.int p3)])) rfl (hM rfl) (argsL := [(.int p3)]) (rest := []) (lenOf pd13 rfl) rfl (Nat.le_of_eq rfl) (B at_13) (fun _ _ => ⟨rfl, e5, wl rfl, wl rfl⟩)
  dsimp only [Pt.U, Pt.locs, Pt.cells, Pt.slots] at X8 l8 y8 z8 st8 hQ8
  subst l8 y8 z8
  obtain ⟨rfl, N8q, hq8⟩ := hQ8
  have N8 := Fr.app N5 N8q
  have pre9 : Go p e bl T8 (mkF m 16 #[iv p1, iv p2, iv p3, iv p4, iv p5, iv p6, iv ca, iv cb, .unset, .unset, .unset, .unset, .unset, .unset, .unset, .unset, .unset] [(.int (alF p3))]) s1 EF := fun t k => pre7 t (st8 t k)
  have e8 : T8.heap = h0 := hq8
  obtain ⟨cc, e_cc⟩ : ∃ z : Int32, z = (alF p3) := ⟨_, rfl⟩
  have pre10 : Go p e bl T8 (mkF m 19 #[iv p1, iv p2, iv p3, iv p4, iv p5, iv p6, iv ca, iv cb, iv cc, .unset, .unset, .unset, .unset, .unset, .unset, .unset, .unset] [(.int p4)]) s1 EF := fun t k => pre9 t (by
   refine XS.istore X8.here hx rfl (B at_16) rfl (l' := #[iv p1, iv p2, iv p3, iv p4, iv p5, iv p6, iv ca, iv cb, iv cc, .unset, .unset, .unset, .unset, .unset, .unset, .unset, .unset]) (by rw [e_cc]; rfl) ?_
   exact XS.iloadN X8.here hx rfl (B at_18) rfl k)
  obtain ⟨_, _, ⟨T11, L11, k11, n11⟩, -, X11, ⟨Lc11, hQ11, l11, y11, z11⟩, st11⟩ := Jvm.LawKit.callS X8 hx (y := mN15) hown0 (mvT hZ0 (hw _ (mW 0 rfl))) (mvT hZ0 (hw _ (mW 1 rfl))) (mvT hZ0 (hw _ (mW 2 rfl))) (mvT hZ0 (hw _ (mW 3 rfl))) (by decide) (backOf (W := 0) (rmA l Z a0 hw [] p4 (alF p4) h0 n0 Z0 rfl) hZ0 (hw _ (mW 3 rfl)) (hw _ (mW 2 rfl)) (by decide) (by decide)) (g := (mkF m 19 #[iv p1, iv p2, iv p3, iv p4, iv p5, iv p6, iv ca, iv cb, iv cc, .unset, .unset, .unset, .unset, .unset, .unset, .unset, .unset] [(.int p4)])) rfl (hM rfl) (argsL := [(.int p4)]) (rest := []) (lenOf pd13 rfl) rfl (Nat.le_of_eq rfl) (B at_19) (fun _ _ => ⟨rfl, e8, wl rfl, wl rfl⟩)
  dsimp only [Pt.U, Pt.locs, Pt.cells, Pt.slots] at X11 l11 y11 z11 st11 hQ11
  subst l11 y11 z11
  obtain ⟨rfl, N11q, hq11⟩ := hQ11
  have N11 := Fr.app N8 N11q
  have pre12 : Go p e bl T11 (mkF m 22 #[iv p1, iv p2, iv p3, iv p4, iv p5, iv p6, iv ca, iv cb, iv cc, .unset, .unset, .unset, .unset, .unset, .unset, .unset, .unset] [(.int (alF p4))]) s1 EF := fun t k => pre10 t (st11 t k)
  have e11 : T11.heap = h0 := hq11
  obtain ⟨cd, e_cd⟩ : ∃ z : Int32, z = (alF p4) := ⟨_, rfl⟩
  have pre13 : Go p e bl T11 (mkF m 24 #[iv p1, iv p2, iv p3, iv p4, iv p5, iv p6, iv ca, iv cb, iv cc, iv cd, .unset, .unset, .unset, .unset, .unset, .unset, .unset] []) s1 EF := fun t k => pre12 t (by
   exact XS.istore X11.here hx rfl (B at_22) rfl (l' := #[iv p1, iv p2, iv p3, iv p4, iv p5, iv p6, iv ca, iv cb, iv cc, iv cd, .unset, .unset, .unset, .unset, .unset, .unset, .unset]) (by rw [e_cd]; rfl) k)
  have oca : okc ca := by rw [e_ca]; exact own_al _
  have ocb : okc cb := by rw [e_cb]; exact own_al _
  have occ : okc cc := by rw [e_cc]; exact own_al _
  have ocd : okc cd := by rw [e_cd]; exact own_al _
  obtain ⟨T14, LJ14, ce, X14, N14, e14, hj14_0, pre14⟩ : ∃ (TJ : State) (LJ : List Loc) (ce : Int32), Stand p l e room_1 (s.setVm s.vm) m #[(.int p1), (.int p2), (.int p3), (.int p4), (.int p5), (.int p6)] bl meth c TJ LJ 0 0 ∧ Fr n0 LJ ∧ TJ.heap = h0 ∧ (okc ce) ∧ Go p e bl TJ (mkF m 43 #[iv p1, iv p2, iv p3, iv p4, iv p5, iv p6, iv ca, iv cb, iv cc, iv cd, .unset, .unset, .unset, .unset, .unset, .unset, .unset] [(.int ce)]) s1 EF := by
    have pre15 : Go p e bl T11 (mkF m 30 #[iv p1, iv p2, iv p3, iv p4, iv p5, iv p6, iv ca, iv cb, iv cc, iv cd, .unset, .unset, .unset, .unset, .unset, .unset, .unset] [(.int (((p6.toUInt32 >>> ((4 : Int32) &&& 31).toUInt32).toInt32) &&& (1 : Int32)))]) s1 EF := fun t k => pre13 t (by
     refine XS.iload X11.here hx rfl (B at_24) rfl ?_
     refine XS.iconst X11.here hx rfl (B at_26) ?_
     refine XS.iushr X11.here hx rfl (B at_27) rfl ?_
     refine XS.iconst X11.here hx rfl (B at_28) ?_
     exact XS.iand X11.here hx rfl (B at_29) rfl k)
    by_cases hc30 : (((p6.toUInt32 >>> ((4 : Int32) &&& 31).toUInt32).toInt32) &&& (1 : Int32)) = (0 : Int32)
    · have pre16 : Go p e bl T11 (mkF m 41 #[iv p1, iv p2, iv p3, iv p4, iv p5, iv p6, iv ca, iv cb, iv cc, iv cd, .unset, .unset, .unset, .unset, .unset, .unset, .unset] []) s1 EF := fun t k => pre15 t (XS.ifYes X11.here hx rfl (pc0 := 30) (pc' := 41) rfl (B at_30) rfl ((if0 _ _).trans (teq hc30).1) (by decide) (by decide) k)
      have pre17 : Go p e bl T11 (mkF m 43 #[iv p1, iv p2, iv p3, iv p4, iv p5, iv p6, iv ca, iv cb, iv cc, iv cd, .unset, .unset, .unset, .unset, .unset, .unset, .unset] [(.int ca)]) s1 EF := fun t k => pre16 t (by
       exact XS.iload X11.here hx rfl (B at_41) rfl k)
      exact ⟨_, _, ca, X11, N11, e11, oca, pre17⟩
    have pre18 : Go p e bl T11 (mkF m 33 #[iv p1, iv p2, iv p3, iv p4, iv p5, iv p6, iv ca, iv cb, iv cc, iv cd, .unset, .unset, .unset, .unset, .unset, .unset, .unset] []) s1 EF := fun t k => pre15 t (XS.ifNo X11.here hx rfl (B at_30) rfl ((if0 _ _).trans (feq hc30).1) k)
    have pre19 : Go p e bl T11 (mkF m 35 #[iv p1, iv p2, iv p3, iv p4, iv p5, iv p6, iv ca, iv cb, iv cc, iv cd, .unset, .unset, .unset, .unset, .unset, .unset, .unset] [(.int p5)]) s1 EF := fun t k => pre18 t (by
     exact XS.iload X11.here hx rfl (B at_33) rfl k)
    obtain ⟨_, _, ⟨T20, L20, k20, n20⟩, -, X20, ⟨Lc20, hQ20, l20, y20, z20⟩, st20⟩ := Jvm.LawKit.callS X11 hx (y := mN15) hown0 (mvT hZ0 (hw _ (mW 0 rfl))) (mvT hZ0 (hw _ (mW 1 rfl))) (mvT hZ0 (hw _ (mW 2 rfl))) (mvT hZ0 (hw _ (mW 3 rfl))) (by decide) (backOf (W := 0) (rmA l Z a0 hw [] p5 (alF p5) h0 n0 Z0 rfl) hZ0 (hw _ (mW 3 rfl)) (hw _ (mW 2 rfl)) (by decide) (by decide)) (g := (mkF m 35 #[iv p1, iv p2, iv p3, iv p4, iv p5, iv p6, iv ca, iv cb, iv cc, iv cd, .unset, .unset, .unset, .unset, .unset, .unset, .unset] [(.int p5)])) rfl (hM rfl) (argsL := [(.int p5)]) (rest := []) (lenOf pd13 rfl) rfl (Nat.le_of_eq rfl) (B at_35) (fun _ _ => ⟨rfl, e11, wl rfl, wl rfl⟩)
    dsimp only [Pt.U, Pt.locs, Pt.cells, Pt.slots] at X20 l20 y20 z20 st20 hQ20
    subst l20 y20 z20
    obtain ⟨rfl, N20q, hq20⟩ := hQ20
    have N20 := Fr.app N11 N20q
    have pre21 : Go p e bl T20 (mkF m 38 #[iv p1, iv p2, iv p3, iv p4, iv p5, iv p6, iv ca, iv cb, iv cc, iv cd, .unset, .unset, .unset, .unset, .unset, .unset, .unset] [(.int (alF p5))]) s1 EF := fun t k => pre19 t (st20 t k)
    have e20 : T20.heap = h0 := hq20
    have pre22 : Go p e bl T20 (mkF m 43 #[iv p1, iv p2, iv p3, iv p4, iv p5, iv p6, iv ca, iv cb, iv cc, iv cd, .unset, .unset, .unset, .unset, .unset, .unset, .unset] [(.int (alF p5))]) s1 EF := fun t k => pre21 t (by
     exact XS.goto X20.here hx rfl (pc0 := 38) (pc' := 43) rfl (B at_38) (by decide) (by decide) k)
    exact ⟨_, _, (alF p5), X20, N20, e20, (own_al _), pre22⟩
  have oce := hj14_0
  obtain ⟨n1, e_n1⟩ : ∃ z : Int32, z = ((p6 &&& (3 : Int32)) + (1 : Int32)) := ⟨_, rfl⟩
  obtain ⟨m1, e_m1⟩ : ∃ z : Int32, z = ((((p6.toUInt32 >>> ((2 : Int32) &&& 31).toUInt32).toInt32) &&& (3 : Int32)) + (1 : Int32)) := ⟨_, rfl⟩
  have pre23 : Go p e bl T14 (mkF m 73 #[iv p1, iv p2, iv p3, iv p4, iv p5, iv p6, iv ca, iv cb, iv cc, iv cd, iv ce, iv n1, iv m1, .unset, .unset, .unset, .unset] [(.int n1), (.int cd), (.int cc), (.int cb), (.int ca)]) s1 EF := fun t k => pre14 t (by
   refine XS.istore X14.here hx rfl (B at_43) rfl (l' := #[iv p1, iv p2, iv p3, iv p4, iv p5, iv p6, iv ca, iv cb, iv cc, iv cd, iv ce, .unset, .unset, .unset, .unset, .unset, .unset]) rfl ?_
   refine XS.iload X14.here hx rfl (B at_45) rfl ?_
   refine XS.iconst X14.here hx rfl (B at_47) ?_
   refine XS.iand X14.here hx rfl (B at_48) rfl ?_
   refine XS.iconst X14.here hx rfl (B at_49) ?_
   refine XS.iadd X14.here hx rfl (B at_50) rfl ?_
   refine XS.istore X14.here hx rfl (B at_51) rfl (l' := #[iv p1, iv p2, iv p3, iv p4, iv p5, iv p6, iv ca, iv cb, iv cc, iv cd, iv ce, iv n1, .unset, .unset, .unset, .unset, .unset]) (by rw [e_n1]; rfl) ?_
   refine XS.iload X14.here hx rfl (B at_53) rfl ?_
   refine XS.iconst X14.here hx rfl (B at_55) ?_
   refine XS.iushr X14.here hx rfl (B at_56) rfl ?_
   refine XS.iconst X14.here hx rfl (B at_57) ?_
   refine XS.iand X14.here hx rfl (B at_58) rfl ?_
   refine XS.iconst X14.here hx rfl (B at_59) ?_
   refine XS.iadd X14.here hx rfl (B at_60) rfl ?_
   refine XS.istore X14.here hx rfl (B at_61) rfl (l' := #[iv p1, iv p2, iv p3, iv p4, iv p5, iv p6, iv ca, iv cb, iv cc, iv cd, iv ce, iv n1, iv m1, .unset, .unset, .unset, .unset]) (by rw [e_m1]; rfl) ?_
   refine XS.iload X14.here hx rfl (B at_63) rfl ?_
   refine XS.iload X14.here hx rfl (B at_65) rfl ?_
   refine XS.iload X14.here hx rfl (B at_67) rfl ?_
   refine XS.iload X14.here hx rfl (B at_69) rfl ?_
   exact XS.iload X14.here hx rfl (B at_71) rfl k)
  obtain ⟨_, _, ⟨T24, L24, k24, n24⟩, -, X24, ⟨Lc24, hQ24, l24, y24, z24⟩, st24⟩ := Jvm.LawKit.callS X14 hx (y := mN18) hown0 (mvT hZ0 (hw _ (mW 5 rfl))) (mvT hZ0 (hw _ (mW 6 rfl))) (mvT hZ0 (hw _ (mW 2 rfl))) (mvT hZ0 (hw _ (mW 7 rfl))) (by decide) (backOf (W := 0) (rmM l Z a0 hw [] ca cb cc cd n1 cz fv  h0 n0 Z0 O0 J0 oca ocb occ ocd) hZ0 (hw _ (mW 7 rfl)) (hw _ (mW 2 rfl)) (by decide) (by decide)) (g := (mkF m 73 #[iv p1, iv p2, iv p3, iv p4, iv p5, iv p6, iv ca, iv cb, iv cc, iv cd, iv ce, iv n1, iv m1, .unset, .unset, .unset, .unset] [(.int n1), (.int cd), (.int cc), (.int cb), (.int ca)])) rfl (hM rfl) (argsL := [(.int ca), (.int cb), (.int cc), (.int cd), (.int n1)]) (rest := []) (lenOf pd20 rfl) rfl (Nat.le_of_eq rfl) (B at_73) (fun _ _ => ⟨rfl, e14, wl rfl, wl rfl⟩)
  dsimp only [Pt.U, Pt.locs, Pt.cells, Pt.slots] at X24 l24 y24 z24 st24 hQ24
  subst l24 y24 z24
  obtain ⟨sA, sB, sK, sN, sL, rfl, N24q, K24, hsz24, hszb24, SF24, Gs⟩ := hQ24
  have N24 := Fr.app N14 N24q
  have pre25 : Go p e bl T24 (mkF m 76 #[iv p1, iv p2, iv p3, iv p4, iv p5, iv p6, iv ca, iv cb, iv cc, iv cd, iv ce, iv n1, iv m1, .unset, .unset, .unset, .unset] [(.ref sA)]) s1 EF := fun t k => pre23 t (st24 t k)
  have O26 : Old Z n0 T24.heap := O0.keep K24 all0
  have Z26 : n0 ≤ T24.heap.size := Nat.le_trans Z0 K24.1
  have hk26 := Nat.le_trans hk0 K24.1
  have g_sA : n0 ≤ sA := Nat.le_trans Z0 hsz24
  have neB_s := SF24.2.2.2.2.2.1
  have pre27 : Go p e bl T24 (mkF m 88 #[iv p1, iv p2, iv p3, iv p4, iv p5, iv p6, iv ca, iv cb, iv cc, iv cd, iv ce, iv n1, iv m1, rv sA, .unset, .unset, .unset] [(.int m1), (.int cd), (.int cc), (.int cb), (.int ce)]) s1 EF := fun t k => pre25 t (by
   refine XS.astore X24.here hx rfl (B at_76) rfl rfl (l' := #[iv p1, iv p2, iv p3, iv p4, iv p5, iv p6, iv ca, iv cb, iv cc, iv cd, iv ce, iv n1, iv m1, rv sA, .unset, .unset, .unset]) rfl ?_
   refine XS.iload X24.here hx rfl (B at_78) rfl ?_
   refine XS.iload X24.here hx rfl (B at_80) rfl ?_
   refine XS.iload X24.here hx rfl (B at_82) rfl ?_
   refine XS.iload X24.here hx rfl (B at_84) rfl ?_
   exact XS.iload X24.here hx rfl (B at_86) rfl k)
  obtain ⟨_, _, ⟨T28, L28, k28, n28⟩, -, X28, ⟨Lc28, hQ28, l28, y28, z28⟩, st28⟩ := Jvm.LawKit.callS X24 hx (y := mN18) hown0 (mvT hZ0 (hw _ (mW 5 rfl))) (mvT hZ0 (hw _ (mW 6 rfl))) (mvT hZ0 (hw _ (mW 2 rfl))) (mvT hZ0 (hw _ (mW 7 rfl))) (by decide) (backOf (W := 0) (rmM l Z a0 hw [] ce cb cc cd m1 cz fv  T24.heap n0 Z26 O26 J0 oce ocb occ ocd) hZ0 (hw _ (mW 7 rfl)) (hw _ (mW 2 rfl)) (by decide) (by decide)) (g := (mkF m 88 #[iv p1, iv p2, iv p3, iv p4, iv p5, iv p6, iv ca, iv cb, iv cc, iv cd, iv ce, iv n1, iv m1, rv sA, .unset, .unset, .unset] [(.int m1), (.int cd), (.int cc), (.int cb), (.int ce)])) rfl (hM rfl) (argsL := [(.int ce), (.int cb), (.int cc), (.int cd), (.int m1)]) (rest := []) (lenOf pd20 rfl) rfl (Nat.le_of_eq rfl) (B at_88) (fun _ _ => ⟨rfl, rfl, wl rfl, wl rfl⟩)
  dsimp only [Pt.U, Pt.locs, Pt.cells, Pt.slots] at X28 l28 y28 z28 st28 hQ28
  subst l28 y28 z28
  obtain ⟨tA, tB, tK, tN, tL, rfl, N28q, K28, hsz28, hszb28, SF28, Gt⟩ := hQ28
  have N28 := Fr.app N24 N28q
  have pre29 : Go p e bl T28 (mkF m 91 #[iv p1, iv p2, iv p3, iv p4, iv p5, iv p6, iv ca, iv cb, iv cc, iv cd, iv ce, iv n1, iv m1, rv sA, .unset, .unset, .unset] [(.ref tA)]) s1 EF := fun t k => pre27 t (st28 t k)
  have O30 : Old Z n0 T28.heap := O26.keep K28 all0
  have Z30 : n0 ≤ T28.heap.size := Nat.le_trans Z26 K28.1
  have hk30 := Nat.le_trans hk26 K28.1
  have g_tA : n0 ≤ tA := Nat.le_trans Z26 hsz28
  have ne_sA_tA : sA ≠ tA := Nat.ne_of_lt (Nat.lt_of_lt_of_le SF24.1.lt hsz28)
  have neB_t := SF28.2.2.2.2.2.1
  have pre31 : Go p e bl T28 (mkF m 95 #[iv p1, iv p2, iv p3, iv p4, iv p5, iv p6, iv ca, iv cb, iv cc, iv cd, iv ce, iv n1, iv m1, rv sA, rv tA, .unset, .unset] [(.ref sA)]) s1 EF := fun t k => pre29 t (by
   refine XS.astore X28.here hx rfl (B at_91) rfl rfl (l' := #[iv p1, iv p2, iv p3, iv p4, iv p5, iv p6, iv ca, iv cb, iv cc, iv cd, iv ce, iv n1, iv m1, rv sA, rv tA, .unset, .unset]) rfl ?_
   exact XS.aload X28.here hx rfl (B at_93) rfl rfl k)
  obtain ⟨_, _, ⟨T32, L32, k32, n32⟩, -, XQ32, hSQ32, hgQ32, ⟨Lc32, hQ32, l32, y32, z32⟩, st32⟩ := callSS X28 hx (y := mN20) hown0 (mvT hZ0 (hw _ (mW 38 rfl))) (mvT hZ0 (hw _ (mW 39 rfl))) (mvT hZ0 (hw _ (mW 40 rfl))) (mvT hZ0 (hw _ (mW 41 rfl))) (by decide) (backOfS (W := 0) (rmO l Z a0 hw [] sA cz fv sB sK sN sL 0 0 T28.heap n0 Z30 O30 J0 (SF24.keep K28 nin0 nin0) Gs) hZ0 (hw _ (mW 41 rfl)) (hw _ (mW 40 rfl)) (by decide) (by decide)) (g := (mkF m 95 #[iv p1, iv p2, iv p3, iv p4, iv p5, iv p6, iv ca, iv cb, iv cc, iv cd, iv ce, iv n1, iv m1, rv sA, rv tA, .unset, .unset] [(.ref sA)])) rfl (hM rfl) (argsL := [(.ref sA)]) (rest := []) (lenOf pd21 rfl) rfl (Nat.le_of_eq rfl) (B at_95) (fun _ _ => ⟨rfl, rfl, wl rfl, wl rfl⟩)
  dsimp only [Pt.U, Pt.locs, Pt.cells, Pt.slots] at XQ32 hSQ32 hgQ32 l32 y32 z32 st32 hQ32
  subst l32 y32 z32
  obtain ⟨X32, hS32, hZ32, hown32⟩ := rebS hS0 hk30 XQ32 hSQ32 hgQ32 hZ0 hown0
  obtain ⟨xs, rfl, N32q, K32, hsz32, EO32, FO32⟩ := hQ32
  have N32 := Fr.app N28 N32q
  have pre33 : Go p e bl T32 (mkF m 98 #[iv p1, iv p2, iv p3, iv p4, iv p5, iv p6, iv ca, iv cb, iv cc, iv cd, iv ce, iv n1, iv m1, rv sA, rv tA, .unset, .unset] [(.ref xs)]) s1 EF := fun t k => pre31 t (st32.trans k)
  have hk32 := Nat.le_refl T32.heap.size
  have O34 : Old Z n0 T32.heap := O30.keep K32 all0
  have Z34 : n0 ≤ T32.heap.size := Nat.le_trans Z30 K32.1
  have pre35 : Go p e bl T32 (mkF m 102 #[iv p1, iv p2, iv p3, iv p4, iv p5, iv p6, iv ca, iv cb, iv cc, iv cd, iv ce, iv n1, iv m1, rv sA, rv tA, rv xs, .unset] [(.ref tA)]) s1 EF := fun t k => pre33 t (by
   refine XS.astore X32.here hx rfl (B at_98) rfl rfl (l' := #[iv p1, iv p2, iv p3, iv p4, iv p5, iv p6, iv ca, iv cb, iv cc, iv cd, iv ce, iv n1, iv m1, rv sA, rv tA, rv xs, .unset]) rfl ?_
   exact XS.aload X32.here hx rfl (B at_100) rfl rfl k)
  obtain ⟨_, _, ⟨T36, L36, k36, n36⟩, -, XQ36, hSQ36, hgQ36, ⟨Lc36, hQ36, l36, y36, z36⟩, st36⟩ := callSS X32 hx (y := mN20) hown32 (mvT hZ32 (hw _ (mW 38 rfl))) (mvT hZ32 (hw _ (mW 39 rfl))) (mvT hZ32 (hw _ (mW 40 rfl))) (mvT hZ32 (hw _ (mW 41 rfl))) (by decide) (backOfS (W := 0) (rmO l Z a0 hw [] tA cz fv tB tK tN tL 0 0 T32.heap n0 Z34 O34 J0 (SF28.keep K32 nin0 nin0) Gt) hZ32 (hw _ (mW 41 rfl)) (hw _ (mW 40 rfl)) (by decide) (by decide)) (g := (mkF m 102 #[iv p1, iv p2, iv p3, iv p4, iv p5, iv p6, iv ca, iv cb, iv cc, iv cd, iv ce, iv n1, iv m1, rv sA, rv tA, rv xs, .unset] [(.ref tA)])) rfl (hM rfl) (argsL := [(.ref tA)]) (rest := []) (lenOf pd21 rfl) rfl (Nat.le_of_eq rfl) (B at_102) (fun _ _ => ⟨rfl, rfl, wl rfl, wl rfl⟩)
  dsimp only [Pt.U, Pt.locs, Pt.cells, Pt.slots] at XQ36 hSQ36 hgQ36 l36 y36 z36 st36 hQ36
  subst l36 y36 z36
  obtain ⟨X36, hS36, hZ36, hown36⟩ := rebS hS32 hk32 XQ36 hSQ36 hgQ36 hZ32 hown32
  obtain ⟨xt, rfl, N36q, K36, hsz36, EO36, FO36⟩ := hQ36
  have N36 := Fr.app N32 N36q
  have pre37 : Go p e bl T36 (mkF m 105 #[iv p1, iv p2, iv p3, iv p4, iv p5, iv p6, iv ca, iv cb, iv cc, iv cd, iv ce, iv n1, iv m1, rv sA, rv tA, rv xs, .unset] [(.ref xt)]) s1 EF := fun t k => pre35 t (st36.trans k)
  have hk36 := Nat.le_refl T36.heap.size
  have O38 : Old Z n0 T36.heap := O34.keep K36 all0
  have Z38 : n0 ≤ T36.heap.size := Nat.le_trans Z34 K36.1
  have pre39 : Go p e bl T36 (mkF m 109 #[iv p1, iv p2, iv p3, iv p4, iv p5, iv p6, iv ca, iv cb, iv cc, iv cd, iv ce, iv n1, iv m1, rv sA, rv tA, rv xs, rv xt] [(.ref xs)]) s1 EF := fun t k => pre37 t (by
   refine XS.astore X36.here hx rfl (B at_105) rfl rfl (l' := #[iv p1, iv p2, iv p3, iv p4, iv p5, iv p6, iv ca, iv cb, iv cc, iv cd, iv ce, iv n1, iv m1, rv sA, rv tA, rv xs, rv xt]) rfl ?_
   exact XS.aload X36.here hx rfl (B at_107) rfl rfl k)
  obtain ⟨cq40, kq40, q40a, q40b, q40c⟩ := isOf hZ36 rfl (EO32.keep K36)
  obtain ⟨_, _, ⟨T40, L40, k40, n40⟩, -, X40, ⟨Lc40, hQ40, l40, y40, z40⟩, st40⟩ := X36.virtualBack hx (y := mN21) (z := mN21) hown36 (mvT hZ36 (hw _ (mW 97 rfl))) (mvT hZ36 (hw _ (mW 98 rfl))) (notFace_of_selects (args := #[]) (mvT hZ36 (hw _ (mW 100 rfl)))) (mvT hZ36 (hw _ (mW 100 rfl))) (mvT hZ36 (hw _ (mW 99 rfl))) (by decide) (backOf (W := 0) (rmS l Z a0 hw [] xs sA T36.heap n0 Z38 (FO32.keep K36 nin0)) hZ36 (hw _ (mW 101 rfl)) (hw _ (mW 40 rfl)) (by decide) (by decide)) q40a q40c (g := (mkF m 109 #[iv p1, iv p2, iv p3, iv p4, iv p5, iv p6, iv ca, iv cb, iv cc, iv cd, iv ce, iv n1, iv m1, rv sA, rv tA, rv xs, rv xt] [(.ref xs)])) rfl (hM rfl) (Steps.refl _) (argsL := []) (rest := []) (lenOf pd22 rfl) rfl (Nat.le_of_eq rfl) (B at_109) (fun _ _ => ⟨rfl, rfl, wl rfl, wl rfl⟩)
  dsimp only [Pt.U, Pt.locs, Pt.cells, Pt.slots] at X40 l40 y40 z40 st40 hQ40
  subst l40 y40 z40
  obtain ⟨rfl, N40q, hq40⟩ := hQ40
  have N40 := Fr.app N36 N40q
  have pre41 : Go p e bl T40 (mkF m 112 #[iv p1, iv p2, iv p3, iv p4, iv p5, iv p6, iv ca, iv cb, iv cc, iv cd, iv ce, iv n1, iv m1, rv sA, rv tA, rv xs, rv xt] [(.ref sA)]) s1 EF := fun t k => pre39 t (st40.trans k)
  have e40 : T40.heap = T36.heap := hq40
  have pre42 : Go p e bl T40 (mkF m 114 #[iv p1, iv p2, iv p3, iv p4, iv p5, iv p6, iv ca, iv cb, iv cc, iv cd, iv ce, iv n1, iv m1, rv sA, rv tA, rv xs, rv xt] [(.ref sA), (.ref sA)]) s1 EF := fun t k => pre41 t (by
   exact XS.aload X40.here hx rfl (B at_112) rfl rfl k)
  obtain ⟨cq43, kq43, q43a, q43b, q43c⟩ := isOf hZ36 e40 (((SF24.1.keep K28).keep K32).keep K36)
  obtain ⟨_, _, ⟨T43, L43, k43, n43⟩, -, X43, ⟨Lc43, hQ43, l43, y43, z43⟩, st43⟩ := X40.virtualBack hx (y := mN9) (z := mN9) hown36 (mvT hZ36 (hw _ (mW 102 rfl))) (mvT hZ36 (hw _ (mW 103 rfl))) (notFace_of_selects (args := #[]) (mvT hZ36 (hw _ (mW 105 rfl)))) (mvT hZ36 (hw _ (mW 105 rfl))) (mvT hZ36 (hw _ (mW 104 rfl))) (by decide) (backOf (W := 0) (rmJes l Z a0 hw [] sA sA cz fv  T36.heap n0 Z38 O38 J0 rfl) hZ36 (hw _ (mW 106 rfl)) (hw _ (mW 10 rfl)) (by decide) (by decide)) q43a q43c (g := (mkF m 114 #[iv p1, iv p2, iv p3, iv p4, iv p5, iv p6, iv ca, iv cb, iv cc, iv cd, iv ce, iv n1, iv m1, rv sA, rv tA, rv xs, rv xt] [(.ref sA), (.ref sA)])) rfl (hM rfl) (Steps.refl _) (argsL := [(.ref sA)]) (rest := []) (lenOf pd16 rfl) rfl (Nat.le_of_eq rfl) (B at_114) (fun _ _ => ⟨rfl, e40, wl rfl, wl rfl⟩)
  dsimp only [Pt.U, Pt.locs, Pt.cells, Pt.slots] at X43 l43 y43 z43 st43 hQ43
  subst l43 y43 z43
  obtain ⟨rfl, N43q, hq43⟩ := hQ43
  have N43 := Fr.app N40 N43q
  have pre44 : Go p e bl T43 (mkF m 117 #[iv p1, iv p2, iv p3, iv p4, iv p5, iv p6, iv ca, iv cb, iv cc, iv cd, iv ce, iv n1, iv m1, rv sA, rv tA, rv xs, rv xt] [(.int (1 : Int32))]) s1 EF := fun t k => pre42 t (st43.trans k)
  have e43 : T43.heap = T36.heap := hq43
  have pre45 : Go p e bl T43 (mkF m 120 #[iv p1, iv p2, iv p3, iv p4, iv p5, iv p6, iv ca, iv cb, iv cc, iv cd, iv ce, iv n1, iv m1, rv sA, rv tA, rv xs, rv xt] []) s1 EF := fun t k => pre44 t (XS.ifNo X43.here hx rfl (B at_117) rfl ((if0 _ _).trans (feq (by decide : ¬ ((1 : Int32) = (0 : Int32)))).1) k)
  have pre46 : Go p e bl T43 (mkF m 122 #[iv p1, iv p2, iv p3, iv p4, iv p5, iv p6, iv ca, iv cb, iv cc, iv cd, iv ce, iv n1, iv m1, rv sA, rv tA, rv xs, rv xt] [(.ref xt)]) s1 EF := fun t k => pre45 t (by
   exact XS.aload X43.here hx rfl (B at_120) rfl rfl k)
  obtain ⟨cq47, kq47, q47a, q47b, q47c⟩ := isOf hZ36 e43 EO36
  obtain ⟨_, _, ⟨T47, L47, k47, n47⟩, -, X47, ⟨Lc47, hQ47, l47, y47, z47⟩, st47⟩ := X43.virtualBack hx (y := mN21) (z := mN21) hown36 (mvT hZ36 (hw _ (mW 97 rfl))) (mvT hZ36 (hw _ (mW 98 rfl))) (notFace_of_selects (args := #[]) (mvT hZ36 (hw _ (mW 100 rfl)))) (mvT hZ36 (hw _ (mW 100 rfl))) (mvT hZ36 (hw _ (mW 99 rfl))) (by decide) (backOf (W := 0) (rmS l Z a0 hw [] xt tA T36.heap n0 Z38 FO36) hZ36 (hw _ (mW 101 rfl)) (hw _ (mW 40 rfl)) (by decide) (by decide)) q47a q47c (g := (mkF m 122 #[iv p1, iv p2, iv p3, iv p4, iv p5, iv p6, iv ca, iv cb, iv cc, iv cd, iv ce, iv n1, iv m1, rv sA, rv tA, rv xs, rv xt] [(.ref xt)])) rfl (hM rfl) (Steps.refl _) (argsL := []) (rest := []) (lenOf pd22 rfl) rfl (Nat.le_of_eq rfl) (B at_122) (fun _ _ => ⟨rfl, e43, wl rfl, wl rfl⟩)
  dsimp only [Pt.U, Pt.locs, Pt.cells, Pt.slots] at X47 l47 y47 z47 st47 hQ47
  subst l47 y47 z47
  obtain ⟨rfl, N47q, hq47⟩ := hQ47
  have N47 := Fr.app N43 N47q
  have pre48 : Go p e bl T47 (mkF m 125 #[iv p1, iv p2, iv p3, iv p4, iv p5, iv p6, iv ca, iv cb, iv cc, iv cd, iv ce, iv n1, iv m1, rv sA, rv tA, rv xs, rv xt] [(.ref tA)]) s1 EF := fun t k => pre46 t (st47.trans k)
  have e47 : T47.heap = T36.heap := hq47
  have pre49 : Go p e bl T47 (mkF m 127 #[iv p1, iv p2, iv p3, iv p4, iv p5, iv p6, iv ca, iv cb, iv cc, iv cd, iv ce, iv n1, iv m1, rv sA, rv tA, rv xs, rv xt] [(.ref tA), (.ref tA)]) s1 EF := fun t k => pre48 t (by
   exact XS.aload X47.here hx rfl (B at_125) rfl rfl k)
  obtain ⟨cq50, kq50, q50a, q50b, q50c⟩ := isOf hZ36 e47 ((SF28.1.keep K32).keep K36)
  obtain ⟨_, _, ⟨T50, L50, k50, n50⟩, -, X50, ⟨Lc50, hQ50, l50, y50, z50⟩, st50⟩ := X47.virtualBack hx (y := mN9) (z := mN9) hown36 (mvT hZ36 (hw _ (mW 102 rfl))) (mvT hZ36 (hw _ (mW 103 rfl))) (notFace_of_selects (args := #[]) (mvT hZ36 (hw _ (mW 105 rfl)))) (mvT hZ36 (hw _ (mW 105 rfl))) (mvT hZ36 (hw _ (mW 104 rfl))) (by decide) (backOf (W := 0) (rmJes l Z a0 hw [] tA tA cz fv  T36.heap n0 Z38 O38 J0 rfl) hZ36 (hw _ (mW 106 rfl)) (hw _ (mW 10 rfl)) (by decide) (by decide)) q50a q50c (g := (mkF m 127 #[iv p1, iv p2, iv p3, iv p4, iv p5, iv p6, iv ca, iv cb, iv cc, iv cd, iv ce, iv n1, iv m1, rv sA, rv tA, rv xs, rv xt] [(.ref tA), (.ref tA)])) rfl (hM rfl) (Steps.refl _) (argsL := [(.ref tA)]) (rest := []) (lenOf pd16 rfl) rfl (Nat.le_of_eq rfl) (B at_127) (fun _ _ => ⟨rfl, e47, wl rfl, wl rfl⟩)
  dsimp only [Pt.U, Pt.locs, Pt.cells, Pt.slots] at X50 l50 y50 z50 st50 hQ50
  subst l50 y50 z50
  obtain ⟨rfl, N50q, hq50⟩ := hQ50
  have N50 := Fr.app N47 N50q
  have pre51 : Go p e bl T50 (mkF m 130 #[iv p1, iv p2, iv p3, iv p4, iv p5, iv p6, iv ca, iv cb, iv cc, iv cd, iv ce, iv n1, iv m1, rv sA, rv tA, rv xs, rv xt] [(.int (1 : Int32))]) s1 EF := fun t k => pre49 t (st50.trans k)
  have e50 : T50.heap = T36.heap := hq50
  have pre52 : Go p e bl T50 (mkF m 133 #[iv p1, iv p2, iv p3, iv p4, iv p5, iv p6, iv ca, iv cb, iv cc, iv cd, iv ce, iv n1, iv m1, rv sA, rv tA, rv xs, rv xt] []) s1 EF := fun t k => pre51 t (XS.ifNo X50.here hx rfl (B at_130) rfl ((if0 _ _).trans (feq (by decide : ¬ ((1 : Int32) = (0 : Int32)))).1) k)
  have pre53 : Go p e bl T50 (mkF m 137 #[iv p1, iv p2, iv p3, iv p4, iv p5, iv p6, iv ca, iv cb, iv cc, iv cd, iv ce, iv n1, iv m1, rv sA, rv tA, rv xs, rv xt] [(.ref xt), (.ref xs)]) s1 EF := fun t k => pre52 t (by
   refine XS.aload X50.here hx rfl (B at_133) rfl rfl ?_
   exact XS.aload X50.here hx rfl (B at_135) rfl rfl k)
  obtain ⟨cq54, kq54, q54a, q54b, q54c⟩ := isOf hZ36 e50 (EO32.keep K36)
  obtain ⟨_, _, ⟨T54, L54, k54, n54⟩, -, X54, ⟨Lc54, hQ54, l54, y54, z54⟩, st54⟩ := X50.virtualBack hx (y := mN22) (z := mN22) hown36 (mvT hZ36 (hw _ (mW 107 rfl))) (mvT hZ36 (hw _ (mW 108 rfl))) (notFace_of_selects (args := #[]) (mvT hZ36 (hw _ (mW 110 rfl)))) (mvT hZ36 (hw _ (mW 110 rfl))) (mvT hZ36 (hw _ (mW 109 rfl))) (by decide) (backOf (W := 0) (rmE l Z a0 hw [] xs xt cz fv sA tA sB sK sN sL 0 0 tB tK tN tL 0 0 (eqB sL tL) T36.heap n0 Z38 O38 J0 EO36 (FO32.keep K36 nin0) FO36 (((SF24.keep K28 nin0 nin0).keep K32 nin0 nin0).keep K36 nin0 nin0) ((SF28.keep K32 nin0 nin0).keep K36 nin0 nin0) ne_sA_tA Gs Gt rfl (own_eqB _ _)) hZ36 (hw _ (mW 111 rfl)) (hw _ (mW 40 rfl)) (by decide) (by decide)) q54a q54c (g := (mkF m 137 #[iv p1, iv p2, iv p3, iv p4, iv p5, iv p6, iv ca, iv cb, iv cc, iv cd, iv ce, iv n1, iv m1, rv sA, rv tA, rv xs, rv xt] [(.ref xt), (.ref xs)])) rfl (hM rfl) (Steps.refl _) (argsL := [(.ref xt)]) (rest := []) (lenOf pd16 rfl) rfl (Nat.le_of_eq rfl) (B at_137) (fun _ _ => ⟨rfl, e50, wl rfl, wl rfl⟩)
  dsimp only [Pt.U, Pt.locs, Pt.cells, Pt.slots] at X54 l54 y54 z54 st54 hQ54
  subst l54 y54 z54
  obtain ⟨rfl, N54q, hq54⟩ := hQ54
  have N54 := Fr.app N50 N54q
  have pre55 : Go p e bl T54 (mkF m 140 #[iv p1, iv p2, iv p3, iv p4, iv p5, iv p6, iv ca, iv cb, iv cc, iv cd, iv ce, iv n1, iv m1, rv sA, rv tA, rv xs, rv xt] [(.int (eqB sL tL))]) s1 EF := fun t k => pre53 t (st54.trans k)
  have e54 : T54.heap = T36.heap := hq54
  have pre56 : Go p e bl T54 (mkF m 144 #[iv p1, iv p2, iv p3, iv p4, iv p5, iv p6, iv ca, iv cb, iv cc, iv cd, iv ce, iv n1, iv m1, rv sA, rv tA, rv xs, rv xt] [(.ref tA), (.ref sA), (.int (eqB sL tL))]) s1 EF := fun t k => pre55 t (by
   refine XS.aload X54.here hx rfl (B at_140) rfl rfl ?_
   exact XS.aload X54.here hx rfl (B at_142) rfl rfl k)
  obtain ⟨cq57, kq57, q57a, q57b, q57c⟩ := isOf hZ36 e54 (((SF24.1.keep K28).keep K32).keep K36)
  obtain ⟨_, _, ⟨T57, L57, k57, n57⟩, -, X57, ⟨Lc57, hQ57, l57, y57, z57⟩, st57⟩ := X54.virtualBack hx (y := mN9) (z := mN9) hown36 (mvT hZ36 (hw _ (mW 102 rfl))) (mvT hZ36 (hw _ (mW 103 rfl))) (notFace_of_selects (args := #[]) (mvT hZ36 (hw _ (mW 105 rfl)))) (mvT hZ36 (hw _ (mW 105 rfl))) (mvT hZ36 (hw _ (mW 104 rfl))) (by decide) (backOf (W := 1) (rmJed l Z a0 hw [] sA tA cz fv sB sK sN sL 0 0 tB tK tN tL 0 0 (eqB sL tL) T36.heap n0 Z38 O38 J0 (((SF24.keep K28 nin0 nin0).keep K32 nin0 nin0).keep K36 nin0 nin0) ((SF28.keep K32 nin0 nin0).keep K36 nin0 nin0) ne_sA_tA Gs.1 Gs.2.1 Gs.2.2.1 Gt.1 Gt.2.1 Gt.2.2.1 rfl (own_eqB _ _)) hZ36 (hw _ (mW 106 rfl)) (hw _ (mW 10 rfl)) (by decide) (by decide)) q57a q57c (g := (mkF m 144 #[iv p1, iv p2, iv p3, iv p4, iv p5, iv p6, iv ca, iv cb, iv cc, iv cd, iv ce, iv n1, iv m1, rv sA, rv tA, rv xs, rv xt] [(.ref tA), (.ref sA), (.int (eqB sL tL))])) rfl (hM rfl) (Steps.refl _) (argsL := [(.ref tA)]) (rest := [(.int (eqB sL tL))]) (lenOf pd16 rfl) rfl (Nat.le_of_eq rfl) (B at_144) (fun _ _ => ⟨rfl, e54, wl rfl, wl rfl⟩)
  dsimp only [Pt.U, Pt.locs, Pt.cells, Pt.slots] at X57 l57 y57 z57 st57 hQ57
  subst l57 y57 z57
  obtain ⟨rfl, N57q, hq57⟩ := hQ57
  have N57 := Fr.app N54 N57q
  have pre58 : Go p e bl T57 (mkF m 147 #[iv p1, iv p2, iv p3, iv p4, iv p5, iv p6, iv ca, iv cb, iv cc, iv cd, iv ce, iv n1, iv m1, rv sA, rv tA, rv xs, rv xt] [(.int (eqB sL tL)), (.int (eqB sL tL))]) s1 EF := fun t k => pre56 t (st57.trans k)
  have e57 : T57.heap = T36.heap := hq57
  have pre59 : Go p e bl T57 (mkF m 150 #[iv p1, iv p2, iv p3, iv p4, iv p5, iv p6, iv ca, iv cb, iv cc, iv cd, iv ce, iv n1, iv m1, rv sA, rv tA, rv xs, rv xt] []) s1 EF := fun t k => pre58 t (XS.icmpNo X57.here hx rfl (B at_147) rfl (teq (rfl : (eqB sL tL) = (eqB sL tL))).2 k)
  have pre60 : Go p e bl T57 (mkF m 152 #[iv p1, iv p2, iv p3, iv p4, iv p5, iv p6, iv ca, iv cb, iv cc, iv cd, iv ce, iv n1, iv m1, rv sA, rv tA, rv xs, rv xt] [(.ref xs)]) s1 EF := fun t k => pre59 t (by
   exact XS.aload X57.here hx rfl (B at_150) rfl rfl k)
  obtain ⟨cq61, kq61, q61a, q61b, q61c⟩ := isOf hZ36 e57 (EO32.keep K36)
  obtain ⟨_, _, ⟨T61, L61, k61, n61⟩, -, X61, ⟨Lc61, hQ61, l61, y61, z61⟩, st61⟩ := X57.virtualBack hx (y := mN27) (z := mN27) hown36 (mvT hZ36 (hw _ (mW 118 rfl))) (mvT hZ36 (hw _ (mW 119 rfl))) (notFace_of_selects (args := #[]) (mvT hZ36 (hw _ (mW 121 rfl)))) (mvT hZ36 (hw _ (mW 121 rfl))) (mvT hZ36 (hw _ (mW 120 rfl))) (by decide) (backOf (W := 0) (rmT l Z a0 hw [] xs cz fv sA sB sK sN sL (hsB sL) T36.heap n0 Z38 O38 J0 (FO32.keep K36 nin0) (((SF24.keep K28 nin0 nin0).keep K32 nin0 nin0).keep K36 nin0 nin0) g_sA Gs rfl) hZ36 (hw _ (mW 122 rfl)) (hw _ (mW 40 rfl)) (by decide) (by decide)) q61a q61c (g := (mkF m 152 #[iv p1, iv p2, iv p3, iv p4, iv p5, iv p6, iv ca, iv cb, iv cc, iv cd, iv ce, iv n1, iv m1, rv sA, rv tA, rv xs, rv xt] [(.ref xs)])) rfl (hM rfl) (Steps.refl _) (argsL := []) (rest := []) (lenOf pd12 rfl) rfl (Nat.le_of_eq rfl) (B at_152) (fun _ _ => ⟨rfl, e57, wl rfl, wl rfl⟩)
  dsimp only [Pt.U, Pt.locs, Pt.cells, Pt.slots] at X61 l61 y61 z61 st61 hQ61
  subst l61 y61 z61
  rcases hQ61 with ⟨rfl, N61q, K61, hr61, SF61⟩ | ⟨rfl, N61q, K61, hr61, SF61⟩
  · have N61 := Fr.app N57 N61q
    have pre62 : Go p e bl T61 (mkF m 155 #[iv p1, iv p2, iv p3, iv p4, iv p5, iv p6, iv ca, iv cb, iv cc, iv cd, iv ce, iv n1, iv m1, rv sA, rv tA, rv xs, rv xt] [(.int (hsB sL))]) s1 EF := fun t k => pre60 t (st61.trans k)
    have O63 : Old Z n0 T61.heap := O38.keep K61 (allS g_sA all0)
    have Z63 : n0 ≤ T61.heap.size := Nat.le_trans Z38 K61.1
    have hk63 := Nat.le_trans hk36 K61.1
    have pre64 : Go p e bl T61 (mkF m 157 #[iv p1, iv p2, iv p3, iv p4, iv p5, iv p6, iv ca, iv cb, iv cc, iv cd, iv ce, iv n1, iv m1, rv sA, rv tA, rv xs, rv xt] [(.ref sA), (.int (hsB sL))]) s1 EF := fun t k => pre62 t (by
     exact XS.aload X61.here hx rfl (B at_155) rfl rfl k)
    obtain ⟨cq65, kq65, q65a, q65b, q65c⟩ := isOf hZ36 rfl ((((SF24.1.keep K28).keep K32).keep K36).keep K61)
    obtain ⟨_, _, ⟨T65, L65, k65, n65⟩, -, X65, ⟨Lc65, hQ65, l65, y65, z65⟩, st65⟩ := X61.virtualBack hx (y := mN26) (z := mN26) hown36 (mvT hZ36 (hw _ (mW 144 rfl))) (mvT hZ36 (hw _ (mW 124 rfl))) (notFace_of_selects (args := #[]) (mvT hZ36 (hw _ (mW 126 rfl)))) (mvT hZ36 (hw _ (mW 126 rfl))) (mvT hZ36 (hw _ (mW 125 rfl))) (by decide) (backOf (W := 1) (rmHt l Z a0 hw [] sA cz fv sB sK sN sL (hsB sL) T61.heap n0 Z63 O63 J0 SF61 hr61) hZ36 (hw _ (mW 127 rfl)) (hw _ (mW 10 rfl)) (by decide) (by decide)) q65a q65c (g := (mkF m 157 #[iv p1, iv p2, iv p3, iv p4, iv p5, iv p6, iv ca, iv cb, iv cc, iv cd, iv ce, iv n1, iv m1, rv sA, rv tA, rv xs, rv xt] [(.ref sA), (.int (hsB sL))])) rfl (hM rfl) (Steps.refl _) (argsL := []) (rest := [(.int (hsB sL))]) (lenOf pd12 rfl) rfl (Nat.le_of_eq rfl) (B at_157) (fun _ _ => ⟨rfl, rfl, wl rfl, wl rfl⟩)
    dsimp only [Pt.U, Pt.locs, Pt.cells, Pt.slots] at X65 l65 y65 z65 st65 hQ65
    subst l65 y65 z65
    obtain ⟨rfl, N65q, hq65⟩ := hQ65
    have N65 := Fr.app N61 N65q
    have pre66 : Go p e bl T65 (mkF m 160 #[iv p1, iv p2, iv p3, iv p4, iv p5, iv p6, iv ca, iv cb, iv cc, iv cd, iv ce, iv n1, iv m1, rv sA, rv tA, rv xs, rv xt] [(.int (hsB sL)), (.int (hsB sL))]) s1 EF := fun t k => pre64 t (st65.trans k)
    have e65 : T65.heap = T61.heap := hq65
    have pre67 : Go p e bl T65 (mkF m 163 #[iv p1, iv p2, iv p3, iv p4, iv p5, iv p6, iv ca, iv cb, iv cc, iv cd, iv ce, iv n1, iv m1, rv sA, rv tA, rv xs, rv xt] []) s1 EF := fun t k => pre66 t (XS.icmpNo X65.here hx rfl (B at_160) rfl (teq (rfl : (hsB sL) = (hsB sL))).2 k)
    have pre68 : Go p e bl T65 (mkF m 167 #[iv p1, iv p2, iv p3, iv p4, iv p5, iv p6, iv ca, iv cb, iv cc, iv cd, iv ce, iv n1, iv m1, rv sA, rv tA, rv xs, rv xt] [(.ref sA), (.ref xs)]) s1 EF := fun t k => pre67 t (by
     refine XS.aload X65.here hx rfl (B at_163) rfl rfl ?_
     exact XS.aload X65.here hx rfl (B at_165) rfl rfl k)
    obtain ⟨cq69, kq69, q69a, q69b, q69c⟩ := isOf hZ36 e65 ((EO32.keep K36).keep K61)
    obtain ⟨_, _, ⟨T69, L69, k69, n69⟩, -, X69, ⟨Lc69, hQ69, l69, y69, z69⟩, st69⟩ := X65.virtualBack hx (y := mN22) (z := mN22) hown36 (mvT hZ36 (hw _ (mW 107 rfl))) (mvT hZ36 (hw _ (mW 108 rfl))) (notFace_of_selects (args := #[]) (mvT hZ36 (hw _ (mW 110 rfl)))) (mvT hZ36 (hw _ (mW 110 rfl))) (mvT hZ36 (hw _ (mW 109 rfl))) (by decide) (backOf (W := 0) (rmF l Z a0 hw [] xs sA T61.heap n0 Z63 ((((SF24.1.keep K28).keep K32).keep K36).keep K61)) hZ36 (hw _ (mW 111 rfl)) (hw _ (mW 40 rfl)) (by decide) (by decide)) q69a q69c (g := (mkF m 167 #[iv p1, iv p2, iv p3, iv p4, iv p5, iv p6, iv ca, iv cb, iv cc, iv cd, iv ce, iv n1, iv m1, rv sA, rv tA, rv xs, rv xt] [(.ref sA), (.ref xs)])) rfl (hM rfl) (Steps.refl _) (argsL := [(.ref sA)]) (rest := []) (lenOf pd16 rfl) rfl (Nat.le_of_eq rfl) (B at_167) (fun _ _ => ⟨rfl, e65, wl rfl, wl rfl⟩)
    dsimp only [Pt.U, Pt.locs, Pt.cells, Pt.slots] at X69 l69 y69 z69 st69 hQ69
    subst l69 y69 z69
    obtain ⟨rfl, N69q, hq69⟩ := hQ69
    have N69 := Fr.app N65 N69q
    have pre70 : Go p e bl T69 (mkF m 170 #[iv p1, iv p2, iv p3, iv p4, iv p5, iv p6, iv ca, iv cb, iv cc, iv cd, iv ce, iv n1, iv m1, rv sA, rv tA, rv xs, rv xt] [(.int (0 : Int32))]) s1 EF := fun t k => pre68 t (st69.trans k)
    have e69 : T69.heap = T61.heap := hq69
    have pre71 : Go p e bl T69 (mkF m 173 #[iv p1, iv p2, iv p3, iv p4, iv p5, iv p6, iv ca, iv cb, iv cc, iv cd, iv ce, iv n1, iv m1, rv sA, rv tA, rv xs, rv xt] []) s1 EF := fun t k => pre70 t (XS.ifNo X69.here hx rfl (B at_170) rfl ((if0 _ _).trans (teq (by decide : (0 : Int32) = (0 : Int32))).2) k)
    have pre72 : Go p e bl T69 (mkF m 178 #[iv p1, iv p2, iv p3, iv p4, iv p5, iv p6, iv ca, iv cb, iv cc, iv cd, iv ce, iv n1, iv m1, rv sA, rv tA, rv xs, rv xt] [(.int (1 : Int32))]) s1 EF := fun t k => pre71 t (by
     refine XS.iconst X69.here hx rfl (B at_173) ?_
     exact XS.goto X69.here hx rfl (pc0 := 174) (pc' := 178) rfl (B at_174) (by decide) (by decide) k)
    have hnr : Value.int (nar .boolean (1 : Int32)) = (.int (1 : Int32)) := by rfl
    obtain ⟨fs, hr, hrun, hended, hend1, hend2, hend3, hsame⟩ := X69.leaveW hS36 (by rw [e69]; exact hk63) (v := some (.int (1 : Int32))) (fun h => by rw [Bd.returns] at h; cases h)
    refine ⟨_, _, hEF ▸ pre72 _ (retN X69 hx (t := .boolean) Bd.returns (by simp) (B at_178) (hnr ▸ hr)), hrun, hended, _, _, rfl, ?_, hend1, hend2, hend3, hsame.mono (by decide) (by decide)⟩
    show QL Z p1 p2 p3 p4 p5 p6 cz fv h0 n0 _ T69.heap _
    rw [e69]
    exact ⟨rfl, N69⟩
  have N61 := Fr.app N57 N61q
  have pre73 : Go p e bl T61 (mkF m 155 #[iv p1, iv p2, iv p3, iv p4, iv p5, iv p6, iv ca, iv cb, iv cc, iv cd, iv ce, iv n1, iv m1, rv sA, rv tA, rv xs, rv xt] [(.int (hsB sL))]) s1 EF := fun t k => pre60 t (st61.trans k)
  have O74 : Old Z n0 T61.heap := O38.keep K61 (allS g_sA all0)
  have Z74 : n0 ≤ T61.heap.size := Nat.le_trans Z38 K61.1
  have hk74 := Nat.le_trans hk36 K61.1
  have pre75 : Go p e bl T61 (mkF m 157 #[iv p1, iv p2, iv p3, iv p4, iv p5, iv p6, iv ca, iv cb, iv cc, iv cd, iv ce, iv n1, iv m1, rv sA, rv tA, rv xs, rv xt] [(.ref sA), (.int (hsB sL))]) s1 EF := fun t k => pre73 t (by
   exact XS.aload X61.here hx rfl (B at_155) rfl rfl k)
  obtain ⟨cq76, kq76, q76a, q76b, q76c⟩ := isOf hZ36 rfl ((((SF24.1.keep K28).keep K32).keep K36).keep K61)
  obtain ⟨_, _, ⟨T76, L76, k76, n76⟩, -, X76, ⟨Lc76, hQ76, l76, y76, z76⟩, st76⟩ := X61.virtualBack hx (y := mN26) (z := mN26) hown36 (mvT hZ36 (hw _ (mW 144 rfl))) (mvT hZ36 (hw _ (mW 124 rfl))) (notFace_of_selects (args := #[]) (mvT hZ36 (hw _ (mW 126 rfl)))) (mvT hZ36 (hw _ (mW 126 rfl))) (mvT hZ36 (hw _ (mW 125 rfl))) (by decide) (backOf (W := 1) (rmHu l Z a0 hw [] sA cz fv sB sK sN sL T61.heap n0 Z74 O74 J0 SF61) hZ36 (hw _ (mW 127 rfl)) (hw _ (mW 10 rfl)) (by decide) (by decide)) q76a q76c (g := (mkF m 157 #[iv p1, iv p2, iv p3, iv p4, iv p5, iv p6, iv ca, iv cb, iv cc, iv cd, iv ce, iv n1, iv m1, rv sA, rv tA, rv xs, rv xt] [(.ref sA), (.int (hsB sL))])) rfl (hM rfl) (Steps.refl _) (argsL := []) (rest := [(.int (hsB sL))]) (lenOf pd12 rfl) rfl (Nat.le_of_eq rfl) (B at_157) (fun _ _ => ⟨rfl, rfl, wl rfl, wl rfl⟩)
  dsimp only [Pt.U, Pt.locs, Pt.cells, Pt.slots] at X76 l76 y76 z76 st76 hQ76
  subst l76 y76 z76
  obtain ⟨rfl, N76q, hq76⟩ := hQ76
  have N76 := Fr.app N61 N76q
  have pre77 : Go p e bl T76 (mkF m 160 #[iv p1, iv p2, iv p3, iv p4, iv p5, iv p6, iv ca, iv cb, iv cc, iv cd, iv ce, iv n1, iv m1, rv sA, rv tA, rv xs, rv xt] [(.int (0 : Int32)), (.int (hsB sL))]) s1 EF := fun t k => pre75 t (st76.trans k)
  have e76 : T76.heap = T61.heap := hq76
  have pre78 : Go p e bl T76 (mkF m 163 #[iv p1, iv p2, iv p3, iv p4, iv p5, iv p6, iv ca, iv cb, iv cc, iv cd, iv ce, iv n1, iv m1, rv sA, rv tA, rv xs, rv xt] []) s1 EF := fun t k => pre77 t (XS.icmpNo X76.here hx rfl (B at_160) rfl (teq hr61).2 k)
  have pre79 : Go p e bl T76 (mkF m 167 #[iv p1, iv p2, iv p3, iv p4, iv p5, iv p6, iv ca, iv cb, iv cc, iv cd, iv ce, iv n1, iv m1, rv sA, rv tA, rv xs, rv xt] [(.ref sA), (.ref xs)]) s1 EF := fun t k => pre78 t (by
   refine XS.aload X76.here hx rfl (B at_163) rfl rfl ?_
   exact XS.aload X76.here hx rfl (B at_165) rfl rfl k)
  obtain ⟨cq80, kq80, q80a, q80b, q80c⟩ := isOf hZ36 e76 ((EO32.keep K36).keep K61)
  obtain ⟨_, _, ⟨T80, L80, k80, n80⟩, -, X80, ⟨Lc80, hQ80, l80, y80, z80⟩, st80⟩ := X76.virtualBack hx (y := mN22) (z := mN22) hown36 (mvT hZ36 (hw _ (mW 107 rfl))) (mvT hZ36 (hw _ (mW 108 rfl))) (notFace_of_selects (args := #[]) (mvT hZ36 (hw _ (mW 110 rfl)))) (mvT hZ36 (hw _ (mW 110 rfl))) (mvT hZ36 (hw _ (mW 109 rfl))) (by decide) (backOf (W := 0) (rmF l Z a0 hw [] xs sA T61.heap n0 Z74 ((((SF24.1.keep K28).keep K32).keep K36).keep K61)) hZ36 (hw _ (mW 111 rfl)) (hw _ (mW 40 rfl)) (by decide) (by decide)) q80a q80c (g := (mkF m 167 #[iv p1, iv p2, iv p3, iv p4, iv p5, iv p6, iv ca, iv cb, iv cc, iv cd, iv ce, iv n1, iv m1, rv sA, rv tA, rv xs, rv xt] [(.ref sA), (.ref xs)])) rfl (hM rfl) (Steps.refl _) (argsL := [(.ref sA)]) (rest := []) (lenOf pd16 rfl) rfl (Nat.le_of_eq rfl) (B at_167) (fun _ _ => ⟨rfl, e76, wl rfl, wl rfl⟩)
  dsimp only [Pt.U, Pt.locs, Pt.cells, Pt.slots] at X80 l80 y80 z80 st80 hQ80
  subst l80 y80 z80
  obtain ⟨rfl, N80q, hq80⟩ := hQ80
  have N80 := Fr.app N76 N80q
  have pre81 : Go p e bl T80 (mkF m 170 #[iv p1, iv p2, iv p3, iv p4, iv p5, iv p6, iv ca, iv cb, iv cc, iv cd, iv ce, iv n1, iv m1, rv sA, rv tA, rv xs, rv xt] [(.int (0 : Int32))]) s1 EF := fun t k => pre79 t (st80.trans k)
  have e80 : T80.heap = T61.heap := hq80
  have pre82 : Go p e bl T80 (mkF m 173 #[iv p1, iv p2, iv p3, iv p4, iv p5, iv p6, iv ca, iv cb, iv cc, iv cd, iv ce, iv n1, iv m1, rv sA, rv tA, rv xs, rv xt] []) s1 EF := fun t k => pre81 t (XS.ifNo X80.here hx rfl (B at_170) rfl ((if0 _ _).trans (teq (by decide : (0 : Int32) = (0 : Int32))).2) k)
  have pre83 : Go p e bl T80 (mkF m 178 #[iv p1, iv p2, iv p3, iv p4, iv p5, iv p6, iv ca, iv cb, iv cc, iv cd, iv ce, iv n1, iv m1, rv sA, rv tA, rv xs, rv xt] [(.int (1 : Int32))]) s1 EF := fun t k => pre82 t (by
   refine XS.iconst X80.here hx rfl (B at_173) ?_
   exact XS.goto X80.here hx rfl (pc0 := 174) (pc' := 178) rfl (B at_174) (by decide) (by decide) k)
  have hnr : Value.int (nar .boolean (1 : Int32)) = (.int (1 : Int32)) := by rfl
  obtain ⟨fs, hr, hrun, hended, hend1, hend2, hend3, hsame⟩ := X80.leaveW hS36 (by rw [e80]; exact hk74) (v := some (.int (1 : Int32))) (fun h => by rw [Bd.returns] at h; cases h)
  refine ⟨_, _, hEF ▸ pre83 _ (retN X80 hx (t := .boolean) Bd.returns (by simp) (B at_178) (hnr ▸ hr)), hrun, hended, _, _, rfl, ?_, hend1, hend2, hend3, hsame.mono (by decide) (by decide)⟩
  show QL Z p1 p2 p3 p4 p5 p6 cz fv h0 n0 _ T80.heap _
  rw [e80]
  exact ⟨rfl, N80⟩
set_option maxRecDepth 65536 in
set_option maxHeartbeats 40000000 in
theorem comes_1 {Post : Tables → Env → Array Value → State → Outcome → State → Prop} (hpost : ∀ tb e args s v u, (limb_1_1.after args s (.returned v) u = true ∧ limb_1_2.after args s (.returned v) u = true ∧ True) → ReturnedEndW s (.returned v) u (Jvm.fieldLocs frame_1_writes args s ++ Jvm.arrayLocs frame_1_arrays args s ++ Jvm.staticLocs frame_1_statics s) 32 1152 → Post tb e args s (.returned v) u) :
    ArmFor flags0 classFile x code maxLocals ret World_1 tables_1 room_1 Calls_1 rest_1 Pre_1 Post := by
  intro l hfl _ _ p e ha hc hk s m args below hf hA hF happ hP
  obtain ⟨hcalls, hrest, hpre⟩ := hP
  obtain ⟨-, -, -, hnamed, -, -, -, hat⟩ := (Spec.applies_iff hf).mp happ
  obtain ⟨hg, hn⟩ := and_e (Cond.before_iff.mp (show (Jvm.Cond.and given_1 narrow_1).before args s = true from hpre))
  obtain ⟨hg0, hgr0⟩ := and_e hg
  obtain ⟨hg1, hgr1⟩ := and_e hgr0
  obtain ⟨hg2, hgr2⟩ := and_e hgr1
  obtain ⟨hg3, hgr3⟩ := and_e hgr2
  obtain ⟨hg4, hgr4⟩ := and_e hgr3
  obtain ⟨hg5, hg6⟩ := and_e hgr4
  obtain ⟨w0, w1, w2, w3, w4, w5, rfl⟩ : ∃ w0 w1 w2 w3 w4 w5 : Value, args = #[w0, w1, w2, w3, w4, w5] := by
    have hs : args.size = 6 := by simpa [Cond.value, given_1] using hg0
    obtain ⟨L⟩ := args
    match L, hs with
    | [w0, w1, w2, w3, w4, w5], _ => exact ⟨w0, w1, w2, w3, w4, w5, rfl⟩
  have hw := fun d (hd : d ∈ tables_1) => atoms_spec (ws := Jvm.Cond.code x code maxLocals ret :: tables_1) hat d (List.mem_cons_of_mem _ hd)
  have hfit : Fit s := fun {y c} hc i hi => by
    obtain ⟨ha, rfl⟩ := Array.getElem?_eq_some_iff.mp hc
    have q := List.all_eq_true.mp ((Array.all_eq_true_iff_forall_mem.mp hF) _ (Array.getElem_mem ha)) i (List.mem_range.mpr hi)
    simpa [Array.getElem?_eq_getElem hi] using q
  obtain ⟨hsets, hown0⟩ := atoms_of _ (rest_1_c_eq ▸ (show rest_1_c.before _ s = true from hrest))
  have hr0 := Cond.before_iff.mp hown0
  obtain ⟨x0, ei0⟩ := is_v hg1
  obtain rfl : w0 = (.int x0) := Option.some.inj ei0
  obtain ⟨x1, ei1⟩ := is_v hg2
  obtain rfl : w1 = (.int x1) := Option.some.inj ei1
  obtain ⟨x2, ei2⟩ := is_v hg3
  obtain rfl : w2 = (.int x2) := Option.some.inj ei2
  obtain ⟨x3, ei3⟩ := is_v hg4
  obtain rfl : w3 = (.int x3) := Option.some.inj ei3
  obtain ⟨x4, ei4⟩ := is_v hg5
  obtain rfl : w4 = (.int x4) := Option.some.inj ei4
  obtain ⟨x5, ei5⟩ := is_v hg6
  obtain rfl : w5 = (.int x5) := Option.some.inj ei5
  obtain ⟨cz, ecz⟩ := is_v (Cond.before_iff.mp (hsets _ (mJ 1 rfl)))
  have hcz : cz ≠ 0 := gotF (Cond.eq_ints ecz (Term.int_eval 0)) (not_v (Cond.before_iff.mp (hsets _ (mJ 2 rfl))))
  have SC : Sta s s.heap "java/lang/String" "COMPACT_STRINGS" "Z" (.int cz) := Sta.start ecz (Or.inl (hsets _ (mJ 0 rfl)))
  obtain ⟨fv, efv, hfv⟩ := isR_v (Cond.before_iff.mp (hsets _ (mJ 8 rfl)))
  have SF : Sta s s.heap "jdk/internal/util/Preconditions" "SIOOBE_FORMATTER" "Ljava/util/function/BiFunction;" fv := Sta.start efv (Or.inl (hsets _ (mJ 7 rfl)))
  have J0 : Jd s cz fv := ⟨SC, hcz, ⟨hfv, SF⟩, trivial⟩
  obtain ⟨n, o, h1, h2, h3, _, L, rfl, ⟨rfl, N⟩, hq⟩ := rmL l s _ hw tables_1 x0 x1 x2 x3 x4 x5 cz fv s.heap s.heap.size (Nat.le_refl _) (Old.start s) J0 p e ha hc hk s m _ below hf ((Spec.applies_iff_loose hf).mp happ).1 ⟨rfl, State.Warmed39.refl s, rfl⟩ trivial
  refine ⟨n, _, h1, h2, h3, hpost _ _ _ _ _ _ ⟨Cond.after_iff.mpr rfl, Cond.after_iff.mpr (eq_i res_at (Term.int_eval (1)) rfl), trivial⟩ ⟨hq.1, hq.2.1, hq.2.2.1, (hq.2.2.2.sift fun y hy => Or.inr (N y hy)).mono (by decide) (by decide)⟩⟩
theorem main_1_1 : Claimed_1_1 := comes_1 fun _ _ _ _ _ _ h hF => ⟨h.1, hF.1, hF.2.1, hF.2.2.1, hF.2.2.2⟩
theorem main_1_2 : Claimed_1_2 := comes_1 fun _ _ _ _ _ _ h hF => ⟨h.2.1, hF.1, hF.2.1, hF.2.2.1, hF.2.2.2⟩
end Jvm.Pilot.@@N@@
namespace Jvm.Pilot.@@N@@
open Jvm Jvm.ClassFile Sem Op Lib Jvm.Free Jvm.Stand Jvm.Pilot.@@N@@.Jvm.D
/-! MADE BY PROGRAM (witnessworld.py) out of the Statement's table words and the real class files: 21 classes; the members and pool entries that the words name. The judged class is class 1, her method 3. -/
namespace start1
open Jvm.ClassFile
def u (s : String) : CpInfo := .utf8 (stringToUtf16 s)
/-- a pool by its gaps: so many unusable entries, then the entry; so many at the end -/
def gap : Nat → List CpInfo → List CpInfo
  | 0, r => r
  | n + 1, r => .unusable :: gap n r
def poolList (es : List (Nat × CpInfo)) (last : Nat) : List CpInfo := es.foldr (fun e r => gap e.1 (e.2 :: r)) (gap last [])
def pool (es : List (Nat × CpInfo)) (last : Nat) : Array CpInfo := ⟨poolList es last⟩
def fileOf (pool : Array CpInfo) (this : Nat) (attrs : Array Attribute := #[]) (ms : Array MethodInfo := #[]) (fl : Nat := 33) (sup : Nat := 0) (ifs : Array Nat := #[]) (fds : Array FieldInfo := #[]) : ClassFile where
  minorVersion := 0
  majorVersion := 65
  constantPool := pool
  accessFlags := fl
  thisClass := this
  superClass := sup
  interfaces := ifs
  fields := fds
  methods := ms
  attributes := attrs
def plain (name : String) (sup : Option ClassId) : Class where
  name := name
  kind := .ordinary
  loader := none
  accessFlags := 33
  super := sup
  interfaces := #[]
  cf := none
  fields := #[]
  methods := #[]
  instanceTypes := #[]
  staticTypes := #[]
  resolved := #[]
  callSites := []
  init := .initialized
  statics := none
  mirror := none

def pool0 : Array CpInfo := pool [(5, u "<init>"), (0, u "()V"), (1, .class_ 10), (1, u "java/lang/Object")] 113

def k0c0 : Code := { maxStack := 0, maxLocals := 1, code := object_method_1_code, exceptionTable := #[], attributes := #[] }
def k0m0 : Method := { name := "<init>", desc := "()V", sig := { parameters := [], returnType := none }, accessFlags := 1, code := some k0c0 }
/-- java/lang/Object -/
def k0 : Class := { plain "java/lang/Object" none with
  accessFlags := 33
  interfaces := #[]
  cf := some (fileOf pool0 8 #[] #[{ accessFlags := 1, nameIndex := 5, descriptorIndex := 6, attributes := #[] }] 33 0 #[] #[])
  fields := #[]
  methods := #[k0m0]
  instanceTypes := #[]
  staticTypes := #[]
  resolved := Array.replicate 124 none
  statics := none }

def pool1 : Array CpInfo := pool [(2, .class_ 4), (1, u "java/lang/Object"), (0, u "<init>"), (0, u "()V"), (0, .integer 2147483647), (0, .class_ 9), (0, u "java/lang/String"), (0, .methodref 8 11), (0, .nameAndType 5 12), (0, u "([C)V"), (0, .methodref 14 15), (0, .class_ 16), (0, .nameAndType 17 18), (0, u "com/example/minuterie/minuterie/TimerNameOfPinLaw"), (0, u "allowed"), (0, u "(I)C"), (0, .methodref 14 20), (0, .nameAndType 21 22), (0, u "make"), (0, u "(CCCCI)Ljava/lang/String;"), (0, .methodref 24 25), (0, .class_ 26), (0, .nameAndType 27 28), (0, u "com/example/minuterie/minuterie/TimerName"), (0, u "of"), (0, u "(Ljava/lang/String;)Lcom/example/minuterie/minuterie/TimerName;"), (0, .methodref 24 30), (0, .nameAndType 31 32), (0, u "toString"), (0, u "()Ljava/lang/String;"), (0, .methodref 8 34), (0, .nameAndType 35 36), (0, u "equals"), (0, u "(Ljava/lang/Object;)Z"), (0, .methodref 24 34), (0, .methodref 24 39), (0, .nameAndType 40 41), (0, u "hashCode"), (0, u "()I"), (0, .methodref 8 39), (3, u "law"), (0, u "(IIIIII)Z")] 2

def k1m0 : Method := { name := "<init>", desc := "()V", sig := { parameters := [], returnType := none }, accessFlags := 2, code := none }
def k1c1 : Code := { maxStack := 3, maxLocals := 2, code := method_2_code, exceptionTable := #[], attributes := #[] }
def k1m1 : Method := { name := "allowed", desc := "(I)C", sig := { parameters := [.int], returnType := some .char }, accessFlags := 10, code := some k1c1 }
def k1c2 : Code := { maxStack := 6, maxLocals := 5, code := method_3_code, exceptionTable := #[], attributes := #[] }
def k1m2 : Method := { name := "make", desc := "(CCCCI)Ljava/lang/String;", sig := { parameters := [.char, .char, .char, .char, .int], returnType := some (.object "java/lang/String") }, accessFlags := 10, code := some k1c2 }
def k1c3 : Code := { maxStack := 5, maxLocals := 17, code := code, exceptionTable := #[], attributes := #[] }
def k1m3 : Method := { name := "law", desc := "(IIIIII)Z", sig := { parameters := [.int, .int, .int, .int, .int, .int], returnType := some .boolean }, accessFlags := 9, code := some k1c3 }
/-- com/example/minuterie/minuterie/TimerNameOfPinLaw -/
def k1 : Class := { plain "com/example/minuterie/minuterie/TimerNameOfPinLaw" (some 0) with
  accessFlags := 49
  interfaces := #[]
  cf := some (fileOf pool1 14 #[] #[{ accessFlags := 2, nameIndex := 5, descriptorIndex := 6, attributes := #[] }, { accessFlags := 10, nameIndex := 17, descriptorIndex := 18, attributes := #[] }, { accessFlags := 10, nameIndex := 21, descriptorIndex := 22, attributes := #[] }, { accessFlags := 9, nameIndex := 46, descriptorIndex := 47, attributes := #[] }] 49 2 #[] #[])
  fields := #[]
  methods := #[k1m0, k1m1, k1m2, k1m3]
  instanceTypes := #[]
  staticTypes := #[]
  resolved := Array.replicate 50 none
  statics := none }

def pool2 : Array CpInfo := pool [(1, .class_ 2), (0, u "java/io/Serializable"), (0, .class_ 4), (0, u "java/lang/Object")] 2

/-- java/io/Serializable -/
def k2 : Class := { plain "java/io/Serializable" (some 0) with
  accessFlags := 1537
  interfaces := #[]
  cf := some (fileOf pool2 1 #[] #[] 1537 3 #[] #[])
  fields := #[]
  methods := #[]
  instanceTypes := #[]
  staticTypes := #[]
  resolved := Array.replicate 7 none
  statics := none }

def pool3 : Array CpInfo := pool [(1, .class_ 2), (0, u "java/lang/Comparable"), (0, .class_ 4), (0, u "java/lang/Object")] 7

/-- java/lang/Comparable -/
def k3 : Class := { plain "java/lang/Comparable" (some 0) with
  accessFlags := 1537
  interfaces := #[]
  cf := some (fileOf pool3 1 #[] #[] 1537 3 #[] #[])
  fields := #[]
  methods := #[]
  instanceTypes := #[]
  staticTypes := #[]
  resolved := Array.replicate 12 none
  statics := none }

def pool4 : Array CpInfo := pool [(2, .class_ 4), (1, u "java/lang/CharSequence"), (42, .class_ 48), (0, u "java/lang/CharSequence$1CodePointIterator"), (10, .class_ 60), (0, u "java/lang/CharSequence$1CharIterator"), (5, .class_ 67), (0, u "java/lang/Object")] 63

/-- java/lang/CharSequence -/
def k4 : Class := { plain "java/lang/CharSequence" (some 0) with
  accessFlags := 1537
  interfaces := #[]
  cf := some (fileOf pool4 2 #[.nestMembers #[47, 59]] #[] 1537 66 #[] #[])
  fields := #[]
  methods := #[]
  instanceTypes := #[]
  staticTypes := #[]
  resolved := Array.replicate 131 none
  statics := none }

def pool5 : Array CpInfo := pool [(1, .class_ 2), (0, u "java/lang/constant/Constable"), (0, .class_ 4), (0, u "java/lang/Object")] 6

/-- java/lang/constant/Constable -/
def k5 : Class := { plain "java/lang/constant/Constable" (some 0) with
  accessFlags := 1537
  interfaces := #[]
  cf := some (fileOf pool5 1 #[] #[] 1537 3 #[] #[])
  fields := #[]
  methods := #[]
  instanceTypes := #[]
  staticTypes := #[]
  resolved := Array.replicate 11 none
  statics := none }

def pool6 : Array CpInfo := pool [(1, .class_ 2), (0, u "java/lang/constant/ConstantDesc"), (0, .class_ 4), (0, u "java/lang/Object")] 32

/-- java/lang/constant/ConstantDesc -/
def k6 : Class := { plain "java/lang/constant/ConstantDesc" (some 0) with
  accessFlags := 1537
  interfaces := #[]
  cf := some (fileOf pool6 1 #[] #[] 1537 3 #[] #[])
  fields := #[]
  methods := #[]
  instanceTypes := #[]
  staticTypes := #[]
  resolved := Array.replicate 37 none
  statics := none }

def pool7 : Array CpInfo := pool [(1, .methodref 2 3), (0, .class_ 4), (0, .nameAndType 5 6), (0, u "java/lang/Object"), (0, u "<init>"), (0, u "()V"), (2, .fieldref 10 11), (0, .class_ 12), (0, .nameAndType 13 14), (0, u "java/lang/String"), (0, u "value"), (0, u "[B"), (0, .fieldref 10 16), (0, .nameAndType 17 18), (0, u "coder"), (0, u "B"), (0, .fieldref 10 20), (0, .nameAndType 21 22), (0, u "hash"), (0, u "I"), (0, .fieldref 10 24), (0, .nameAndType 25 26), (0, u "hashIsZero"), (0, u "Z"), (0, .methodref 10 28), (0, .nameAndType 5 29), (0, u "([CIILjava/lang/Void;)V"), (8, .fieldref 10 39), (0, .nameAndType 40 26), (0, u "COMPACT_STRINGS"), (1, .class_ 44), (1, u "java/lang/StringUTF16"), (0, u "compress"), (1, .methodref 42 48), (0, .nameAndType 49 50), (0, u "coderFromArrayLen"), (0, u "([BI)B"), (56, .class_ 109), (1, u "java/lang/StringLatin1"), (32, u "()Z"), (34, .methodref 42 178), (0, .nameAndType 45 179), (0, u "([CII)[B"), (154, u "()I"), (0, .methodref 10 336), (0, .nameAndType 17 337), (0, u "()B"), (25, u "([BI)C"), (27, u "(II)V"), (35, u "(I)C"), (64, .methodref 10 493), (0, .nameAndType 494 142), (0, u "isLatin1"), (0, .methodref 107 496), (0, .nameAndType 497 363), (0, u "charAt"), (3, u "checkIndex"), (5, u "length"), (33, .methodref 107 542), (0, .nameAndType 543 544), (0, u "equals"), (0, u "([B[B)Z"), (28, u "(Ljava/lang/Object;)Z"), (1, .class_ 576), (0, u "java/lang/CharSequence"), (22, u "CASE_INSENSITIVE_ORDER"), (0, u "Ljava/util/Comparator;"), (27, .methodref 107 629), (0, .nameAndType 630 631), (0, u "hashCode"), (0, u "([B)I"), (60, u "isEmpty"), (317, u "([C)V"), (42, .fieldref 1054 1055), (0, .class_ 1056), (0, .nameAndType 1057 1058), (0, u "jdk/internal/util/Preconditions"), (0, u "SIOOBE_FORMATTER"), (0, u "Ljava/util/function/BiFunction;"), (0, .methodref 1054 1060), (0, .nameAndType 501 1061), (0, u "(IILjava/util/function/BiFunction;)I"), (39, u "serialPersistentFields"), (0, u "[Ljava/io/ObjectStreamField;"), (0, .class_ 1104), (0, u "java/lang/String$CaseInsensitiveComparator"), (1, .class_ 1107), (0, u "java/io/Serializable"), (0, .class_ 1109), (0, u "java/lang/Comparable"), (0, .class_ 1111), (0, u "java/lang/constant/Constable"), (0, .class_ 1113), (0, u "java/lang/constant/ConstantDesc"), (2, u "serialVersionUID"), (0, u "J"), (3, u "REPL"), (0, u "C"), (2, u "LATIN1"), (1, u "UTF16")] 323

def k7m0 : Method := { name := "<init>", desc := "()V", sig := { parameters := [], returnType := none }, accessFlags := 1, code := none }
def k7c1 : Code := { maxStack := 5, maxLocals := 2, code := jdk_42_method_3_code, exceptionTable := #[], attributes := #[] }
def k7m1 : Method := { name := "<init>", desc := "([C)V", sig := { parameters := [(.array .char)], returnType := none }, accessFlags := 1, code := some k7c1 }
def k7c2 : Code := { maxStack := 2, maxLocals := 1, code := jdk_42_method_54_code, exceptionTable := #[], attributes := #[] }
def k7m2 : Method := { name := "length", desc := "()I", sig := { parameters := [], returnType := some .int }, accessFlags := 1, code := some k7c2 }
def k7c3 : Code := { maxStack := 1, maxLocals := 1, code := jdk_42_method_55_code, exceptionTable := #[], attributes := #[] }
def k7m3 : Method := { name := "isEmpty", desc := "()Z", sig := { parameters := [], returnType := some .boolean }, accessFlags := 1, code := some k7c3 }
def k7c4 : Code := { maxStack := 2, maxLocals := 2, code := jdk_42_method_56_code, exceptionTable := #[], attributes := #[] }
def k7m4 : Method := { name := "charAt", desc := "(I)C", sig := { parameters := [.int], returnType := some .char }, accessFlags := 1, code := some k7c4 }
def k7c5 : Code := { maxStack := 2, maxLocals := 3, code := jdk_42_method_66_code, exceptionTable := #[], attributes := #[] }
def k7m5 : Method := { name := "equals", desc := "(Ljava/lang/Object;)Z", sig := { parameters := [(.object "java/lang/Object")], returnType := some .boolean }, accessFlags := 1, code := some k7c5 }
def k7c6 : Code := { maxStack := 2, maxLocals := 2, code := jdk_42_method_78_code, exceptionTable := #[], attributes := #[] }
def k7m6 : Method := { name := "hashCode", desc := "()I", sig := { parameters := [], returnType := some .int }, accessFlags := 1, code := some k7c6 }
def k7c7 : Code := { maxStack := 4, maxLocals := 6, code := jdk_42_method_149_code, exceptionTable := #[], attributes := #[] }
def k7m7 : Method := { name := "<init>", desc := "([CIILjava/lang/Void;)V", sig := { parameters := [(.array .char), .int, .int, (.object "java/lang/Void")], returnType := none }, accessFlags := 2, code := some k7c7 }
def k7c8 : Code := { maxStack := 1, maxLocals := 1, code := jdk_42_method_152_code, exceptionTable := #[], attributes := #[] }
def k7m8 : Method := { name := "coder", desc := "()B", sig := { parameters := [], returnType := some .byte }, accessFlags := 0, code := some k7c8 }
def k7c9 : Code := { maxStack := 1, maxLocals := 1, code := jdk_42_method_154_code, exceptionTable := #[], attributes := #[] }
def k7m9 : Method := { name := "isLatin1", desc := "()Z", sig := { parameters := [], returnType := some .boolean }, accessFlags := 0, code := some k7c9 }
def k7c10 : Code := { maxStack := 3, maxLocals := 2, code := jdk_42_method_155_code, exceptionTable := #[], attributes := #[] }
def k7m10 : Method := { name := "checkIndex", desc := "(II)V", sig := { parameters := [.int, .int], returnType := none }, accessFlags := 8, code := some k7c10 }
/-- java/lang/String -/
def k7 : Class := { plain "java/lang/String" (some 0) with
  accessFlags := 49
  interfaces := #[2, 3, 4, 5, 6]
  cf := some (fileOf pool7 10 #[.nestMembers #[1103]] #[{ accessFlags := 1, nameIndex := 5, descriptorIndex := 6, attributes := #[] }, { accessFlags := 1, nameIndex := 5, descriptorIndex := 1010, attributes := #[] }, { accessFlags := 1, nameIndex := 507, descriptorIndex := 334, attributes := #[] }, { accessFlags := 1, nameIndex := 692, descriptorIndex := 142, attributes := #[] }, { accessFlags := 1, nameIndex := 497, descriptorIndex := 427, attributes := #[] }, { accessFlags := 1, nameIndex := 543, descriptorIndex := 573, attributes := #[] }, { accessFlags := 1, nameIndex := 630, descriptorIndex := 334, attributes := #[] }, { accessFlags := 2, nameIndex := 5, descriptorIndex := 29, attributes := #[] }, { accessFlags := 0, nameIndex := 17, descriptorIndex := 337, attributes := #[] }, { accessFlags := 0, nameIndex := 494, descriptorIndex := 142, attributes := #[] }, { accessFlags := 8, nameIndex := 501, descriptorIndex := 391, attributes := #[] }] 49 2 #[1106, 1108, 575, 1110, 1112] #[{ accessFlags := 18, nameIndex := 13, descriptorIndex := 14, attributes := #[] }, { accessFlags := 18, nameIndex := 17, descriptorIndex := 18, attributes := #[] }, { accessFlags := 2, nameIndex := 21, descriptorIndex := 22, attributes := #[] }, { accessFlags := 2, nameIndex := 25, descriptorIndex := 26, attributes := #[] }, { accessFlags := 26, nameIndex := 1116, descriptorIndex := 1117, attributes := #[] }, { accessFlags := 24, nameIndex := 40, descriptorIndex := 26, attributes := #[] }, { accessFlags := 26, nameIndex := 1101, descriptorIndex := 1102, attributes := #[] }, { accessFlags := 26, nameIndex := 1121, descriptorIndex := 1122, attributes := #[] }, { accessFlags := 25, nameIndex := 599, descriptorIndex := 600, attributes := #[] }, { accessFlags := 24, nameIndex := 1125, descriptorIndex := 18, attributes := #[] }, { accessFlags := 24, nameIndex := 1127, descriptorIndex := 18, attributes := #[] }])
  fields := #[{ name := "value", type := (.array .byte), accessFlags := 18, slot := 0, constantValue := 0 }, { name := "coder", type := .byte, accessFlags := 18, slot := 1, constantValue := 0 }, { name := "hash", type := .int, accessFlags := 2, slot := 2, constantValue := 0 }, { name := "hashIsZero", type := .boolean, accessFlags := 2, slot := 3, constantValue := 0 }, { name := "serialVersionUID", type := .long, accessFlags := 26, slot := 0, constantValue := 0 }, { name := "COMPACT_STRINGS", type := .boolean, accessFlags := 24, slot := 1, constantValue := 0 }, { name := "serialPersistentFields", type := (.array (.object "java/io/ObjectStreamField")), accessFlags := 26, slot := 2, constantValue := 0 }, { name := "REPL", type := .char, accessFlags := 26, slot := 3, constantValue := 0 }, { name := "CASE_INSENSITIVE_ORDER", type := (.object "java/util/Comparator"), accessFlags := 25, slot := 4, constantValue := 0 }, { name := "LATIN1", type := .byte, accessFlags := 24, slot := 5, constantValue := 0 }, { name := "UTF16", type := .byte, accessFlags := 24, slot := 6, constantValue := 0 }]
  methods := #[k7m0, k7m1, k7m2, k7m3, k7m4, k7m5, k7m6, k7m7, k7m8, k7m9, k7m10]
  instanceTypes := #[(.array .byte), .byte, .int, .boolean]
  staticTypes := #[.long, .boolean, (.array (.object "java/io/ObjectStreamField")), .char, (.object "java/util/Comparator"), .byte, .byte]
  resolved := Array.replicate 1451 none
  statics := some 0 }

def pool8 : Array CpInfo := pool [(6, .class_ 8), (1, u "java/lang/Object"), (0, u "<init>"), (0, u "()V"), (1, .class_ 14), (1, u "java/lang/StringUTF16"), (31, u "$assertionsDisabled"), (0, u "Z"), (13, u "HI_BYTE_SHIFT"), (0, u "I"), (2, u "LO_BYTE_SHIFT"), (49, .methodref 12 116), (0, .nameAndType 117 118), (0, u "compress"), (0, u "([CI[BII)I"), (3, u "([CII)[B"), (138, u "coderFromArrayLen"), (0, u "([BI)B"), (106, .class_ 371), (1, u "java/lang/StringUTF16$LinesSpliterator"), (58, u "MAX_LENGTH"), (196, .class_ 628), (0, u "java/lang/StringUTF16$CodePointsSpliterator"), (0, .class_ 630), (0, u "java/lang/StringUTF16$CharsSpliterator")] 4

def k8m0 : Method := { name := "<init>", desc := "()V", sig := { parameters := [], returnType := none }, accessFlags := 0, code := none }
def k8c1 : Code := { maxStack := 2, maxLocals := 2, code := jdk_52_method_15_code, exceptionTable := #[], attributes := #[] }
def k8m1 : Method := { name := "coderFromArrayLen", desc := "([BI)B", sig := { parameters := [(.array .byte), .int], returnType := some .byte }, accessFlags := 8, code := some k8c1 }
def k8c2 : Code := { maxStack := 5, maxLocals := 6, code := jdk_52_method_16_code, exceptionTable := #[], attributes := #[] }
def k8m2 : Method := { name := "compress", desc := "([CII)[B", sig := { parameters := [(.array .char), .int, .int], returnType := some (.array .byte) }, accessFlags := 9, code := some k8c2 }
def k8c3 : Code := { maxStack := 3, maxLocals := 7, code := jdk_52_method_21_code, exceptionTable := #[], attributes := #[] }
def k8m3 : Method := { name := "compress", desc := "([CI[BII)I", sig := { parameters := [(.array .char), .int, (.array .byte), .int, .int], returnType := some .int }, accessFlags := 9, code := some k8c3 }
/-- java/lang/StringUTF16 -/
def k8 : Class := { plain "java/lang/StringUTF16" (some 0) with
  accessFlags := 48
  interfaces := #[]
  cf := some (fileOf pool8 12 #[.nestMembers #[627, 629, 369]] #[{ accessFlags := 0, nameIndex := 9, descriptorIndex := 10, attributes := #[] }, { accessFlags := 8, nameIndex := 261, descriptorIndex := 262, attributes := #[] }, { accessFlags := 9, nameIndex := 117, descriptorIndex := 122, attributes := #[] }, { accessFlags := 9, nameIndex := 117, descriptorIndex := 118, attributes := #[] }] 48 6 #[] #[{ accessFlags := 26, nameIndex := 61, descriptorIndex := 62, attributes := #[] }, { accessFlags := 26, nameIndex := 65, descriptorIndex := 62, attributes := #[] }, { accessFlags := 24, nameIndex := 430, descriptorIndex := 62, attributes := #[] }, { accessFlags := 4120, nameIndex := 46, descriptorIndex := 47, attributes := #[] }])
  fields := #[{ name := "HI_BYTE_SHIFT", type := .int, accessFlags := 26, slot := 0, constantValue := 0 }, { name := "LO_BYTE_SHIFT", type := .int, accessFlags := 26, slot := 1, constantValue := 0 }, { name := "MAX_LENGTH", type := .int, accessFlags := 24, slot := 2, constantValue := 0 }, { name := "$assertionsDisabled", type := .boolean, accessFlags := 4120, slot := 3, constantValue := 0 }]
  methods := #[k8m0, k8m1, k8m2, k8m3]
  instanceTypes := #[]
  staticTypes := #[.int, .int, .int, .boolean]
  resolved := Array.replicate 635 none
  statics := none }

def pool9 : Array CpInfo := pool [(1, .methodref 2 3), (0, .class_ 4), (0, .nameAndType 5 6), (0, u "java/lang/Object"), (0, u "<init>"), (0, u "()V"), (0, .fieldref 8 9), (0, .class_ 10), (0, .nameAndType 11 12), (0, u "com/example/minuterie/minuterie/TimerName"), (0, u "name"), (0, u "Ljava/lang/String;"), (0, .string 14), (0, u "timer name"), (0, .methodref 16 17), (0, .class_ 18), (0, .nameAndType 19 20), (0, u "java/util/Objects"), (0, u "requireNonNull"), (0, u "(Ljava/lang/Object;Ljava/lang/String;)Ljava/lang/Object;"), (0, .methodref 22 23), (0, .class_ 24), (0, .nameAndType 25 26), (0, u "java/lang/String"), (0, u "isEmpty"), (0, u "()Z"), (5, .nameAndType 5 33), (0, u "(Ljava/lang/String;)V"), (0, .methodref 22 35), (0, .nameAndType 36 37), (0, u "length"), (0, u "()I"), (8, .methodref 22 47), (0, .nameAndType 48 49), (0, u "charAt"), (0, u "(I)C"), (0, .methodref 8 51), (0, .nameAndType 52 53), (0, u "isAllowed"), (0, u "(C)Z"), (16, .methodref 8 32), (0, .methodref 22 72), (0, .nameAndType 73 74), (0, u "equals"), (0, u "(Ljava/lang/Object;)Z"), (0, .methodref 22 76), (0, .nameAndType 77 37), (0, u "hashCode"), (0, u "MAX_LENGTH"), (0, u "I"), (4, u "of"), (0, u "(Ljava/lang/String;)Lcom/example/minuterie/minuterie/TimerName;"), (1, u "toString"), (0, u "()Ljava/lang/String;")] 17

def k9c0 : Code := { maxStack := 2, maxLocals := 2, code := prog_28_method_1_code, exceptionTable := #[], attributes := #[] }
def k9m0 : Method := { name := "<init>", desc := "(Ljava/lang/String;)V", sig := { parameters := [(.object "java/lang/String")], returnType := none }, accessFlags := 2, code := some k9c0 }
def k9c1 : Code := { maxStack := 7, maxLocals := 3, code := prog_28_method_2_code, exceptionTable := #[], attributes := #[] }
def k9m1 : Method := { name := "of", desc := "(Ljava/lang/String;)Lcom/example/minuterie/minuterie/TimerName;", sig := { parameters := [(.object "java/lang/String")], returnType := some (.object "com/example/minuterie/minuterie/TimerName") }, accessFlags := 9, code := some k9c1 }
def k9c2 : Code := { maxStack := 2, maxLocals := 1, code := prog_28_method_3_code, exceptionTable := #[], attributes := #[] }
def k9m2 : Method := { name := "isAllowed", desc := "(C)Z", sig := { parameters := [.char], returnType := some .boolean }, accessFlags := 10, code := some k9c2 }
def k9c3 : Code := { maxStack := 1, maxLocals := 1, code := prog_28_method_4_code, exceptionTable := #[], attributes := #[] }
def k9m3 : Method := { name := "toString", desc := "()Ljava/lang/String;", sig := { parameters := [], returnType := some (.object "java/lang/String") }, accessFlags := 1, code := some k9c3 }
def k9c4 : Code := { maxStack := 2, maxLocals := 3, code := prog_28_method_5_code, exceptionTable := #[], attributes := #[] }
def k9m4 : Method := { name := "equals", desc := "(Ljava/lang/Object;)Z", sig := { parameters := [(.object "java/lang/Object")], returnType := some .boolean }, accessFlags := 1, code := some k9c4 }
def k9c5 : Code := { maxStack := 1, maxLocals := 1, code := prog_28_method_6_code, exceptionTable := #[], attributes := #[] }
def k9m5 : Method := { name := "hashCode", desc := "()I", sig := { parameters := [], returnType := some .int }, accessFlags := 1, code := some k9c5 }
/-- com/example/minuterie/minuterie/TimerName -/
def k9 : Class := { plain "com/example/minuterie/minuterie/TimerName" (some 0) with
  accessFlags := 49
  interfaces := #[]
  cf := some (fileOf pool9 8 #[] #[{ accessFlags := 2, nameIndex := 5, descriptorIndex := 33, attributes := #[] }, { accessFlags := 9, nameIndex := 84, descriptorIndex := 85, attributes := #[] }, { accessFlags := 10, nameIndex := 52, descriptorIndex := 53, attributes := #[] }, { accessFlags := 1, nameIndex := 87, descriptorIndex := 88, attributes := #[] }, { accessFlags := 1, nameIndex := 73, descriptorIndex := 74, attributes := #[] }, { accessFlags := 1, nameIndex := 77, descriptorIndex := 37, attributes := #[] }] 49 2 #[] #[{ accessFlags := 26, nameIndex := 78, descriptorIndex := 79, attributes := #[] }, { accessFlags := 18, nameIndex := 11, descriptorIndex := 12, attributes := #[] }])
  fields := #[{ name := "MAX_LENGTH", type := .int, accessFlags := 26, slot := 0, constantValue := 0 }, { name := "name", type := (.object "java/lang/String"), accessFlags := 18, slot := 0, constantValue := 0 }]
  methods := #[k9m0, k9m1, k9m2, k9m3, k9m4, k9m5]
  instanceTypes := #[(.object "java/lang/String")]
  staticTypes := #[.int]
  resolved := Array.replicate 106 none
  statics := none }

def pool10 : Array CpInfo := pool [(2, .class_ 4), (1, u "java/lang/Object"), (0, u "<init>"), (0, u "()V"), (35, .class_ 44), (1, u "java/util/Objects"), (0, u "requireNonNull"), (48, u "(Ljava/lang/Object;Ljava/lang/String;)Ljava/lang/Object;")] 89

def k10m0 : Method := { name := "<init>", desc := "()V", sig := { parameters := [], returnType := none }, accessFlags := 2, code := none }
def k10c1 : Code := { maxStack := 3, maxLocals := 2, code := jdk_31_method_11_code, exceptionTable := #[], attributes := #[] }
def k10m1 : Method := { name := "requireNonNull", desc := "(Ljava/lang/Object;Ljava/lang/String;)Ljava/lang/Object;", sig := { parameters := [(.object "java/lang/Object"), (.object "java/lang/String")], returnType := some (.object "java/lang/Object") }, accessFlags := 9, code := some k10c1 }
/-- java/util/Objects -/
def k10 : Class := { plain "java/util/Objects" (some 0) with
  accessFlags := 49
  interfaces := #[]
  cf := some (fileOf pool10 42 #[] #[{ accessFlags := 2, nameIndex := 5, descriptorIndex := 6, attributes := #[] }, { accessFlags := 9, nameIndex := 45, descriptorIndex := 94, attributes := #[] }] 49 2 #[] #[])
  fields := #[]
  methods := #[k10m0, k10m1]
  instanceTypes := #[]
  staticTypes := #[]
  resolved := Array.replicate 184 none
  statics := none }

def pool11 : Array CpInfo := pool [(1, .class_ 2), (0, u "java/lang/String"), (1, .class_ 6), (1, u "java/lang/Object"), (0, u "<init>"), (0, u "()V"), (0, .methodref 1 10), (0, .nameAndType 11 12), (0, u "checkIndex"), (0, u "(II)V"), (1, .class_ 16), (1, u "java/lang/StringLatin1"), (28, .class_ 47), (1, u "jdk/internal/util/ArraysSupport"), (5, u "([BI)C"), (3, u "([B)I"), (26, .methodref 45 85), (0, .nameAndType 86 87), (0, u "vectorizedHashCode"), (0, u "(Ljava/lang/Object;IIII)I"), (33, u "$assertionsDisabled"), (0, u "Z"), (98, .class_ 223), (1, u "java/lang/StringLatin1$LinesSpliterator"), (28, u "charAt"), (28, u "equals"), (0, u "([B[B)Z"), (15, u "hashCode"), (91, .class_ 391), (0, u "java/lang/StringLatin1$CharsSpliterator")] 3

def k11m0 : Method := { name := "<init>", desc := "()V", sig := { parameters := [], returnType := none }, accessFlags := 0, code := none }
def k11c1 : Code := { maxStack := 2, maxLocals := 2, code := jdk_43_method_2_code, exceptionTable := #[], attributes := #[] }
def k11m1 : Method := { name := "charAt", desc := "([BI)C", sig := { parameters := [(.array .byte), .int], returnType := some .char }, accessFlags := 9, code := some k11c1 }
def k11c2 : Code := { maxStack := 3, maxLocals := 3, code := jdk_43_method_13_code, exceptionTable := #[], attributes := #[] }
def k11m2 : Method := { name := "equals", desc := "([B[B)Z", sig := { parameters := [(.array .byte), (.array .byte)], returnType := some .boolean }, accessFlags := 9, code := some k11c2 }
def k11c3 : Code := { maxStack := 5, maxLocals := 1, code := jdk_43_method_21_code, exceptionTable := #[], attributes := #[] }
def k11m3 : Method := { name := "hashCode", desc := "([B)I", sig := { parameters := [(.array .byte)], returnType := some .int }, accessFlags := 9, code := some k11c3 }
/-- java/lang/StringLatin1 -/
def k11 : Class := { plain "java/lang/StringLatin1" (some 0) with
  accessFlags := 48
  interfaces := #[]
  cf := some (fileOf pool11 14 #[.nestMembers #[390, 221]] #[{ accessFlags := 0, nameIndex := 7, descriptorIndex := 8, attributes := #[] }, { accessFlags := 9, nameIndex := 252, descriptorIndex := 53, attributes := #[] }, { accessFlags := 9, nameIndex := 281, descriptorIndex := 282, attributes := #[] }, { accessFlags := 9, nameIndex := 298, descriptorIndex := 57, attributes := #[] }] 48 4 #[] #[{ accessFlags := 4120, nameIndex := 121, descriptorIndex := 122, attributes := #[] }])
  fields := #[{ name := "$assertionsDisabled", type := .boolean, accessFlags := 4120, slot := 0, constantValue := 0 }]
  methods := #[k11m0, k11m1, k11m2, k11m3]
  instanceTypes := #[]
  staticTypes := #[.boolean]
  resolved := Array.replicate 395 none
  statics := none }

def pool12 : Array CpInfo := pool [(2, .class_ 4), (1, u "java/lang/Object"), (0, u "<init>"), (0, u "()V"), (17, .class_ 26), (1, u "jdk/internal/util/Preconditions"), (6, u "checkIndex"), (21, .class_ 56), (0, u "jdk/internal/util/Preconditions$4"), (57, .class_ 115), (0, u "jdk/internal/util/Preconditions$1"), (7, u "SIOOBE_FORMATTER"), (0, u "Ljava/util/function/BiFunction;"), (0, .class_ 126), (0, u "jdk/internal/util/Preconditions$2"), (3, u "AIOOBE_FORMATTER"), (0, .class_ 132), (0, u "jdk/internal/util/Preconditions$3"), (3, u "IOOBE_FORMATTER"), (41, u "(IILjava/util/function/BiFunction;)I")] 15

def k12m0 : Method := { name := "<init>", desc := "()V", sig := { parameters := [], returnType := none }, accessFlags := 1, code := none }
def k12c1 : Code := { maxStack := 3, maxLocals := 3, code := jdk_41_method_11_code, exceptionTable := #[], attributes := #[] }
def k12m1 : Method := { name := "checkIndex", desc := "(IILjava/util/function/BiFunction;)I", sig := { parameters := [.int, .int, (.object "java/util/function/BiFunction")], returnType := some .int }, accessFlags := 9, code := some k12c1 }
/-- jdk/internal/util/Preconditions -/
def k12 : Class := { plain "jdk/internal/util/Preconditions" (some 0) with
  accessFlags := 33
  interfaces := #[]
  cf := some (fileOf pool12 24 #[.nestMembers #[55, 131, 125, 114]] #[{ accessFlags := 1, nameIndex := 5, descriptorIndex := 6, attributes := #[] }, { accessFlags := 9, nameIndex := 33, descriptorIndex := 178, attributes := #[] }] 33 2 #[] #[{ accessFlags := 25, nameIndex := 123, descriptorIndex := 124, attributes := #[] }, { accessFlags := 25, nameIndex := 130, descriptorIndex := 124, attributes := #[] }, { accessFlags := 25, nameIndex := 136, descriptorIndex := 124, attributes := #[] }])
  fields := #[{ name := "SIOOBE_FORMATTER", type := (.object "java/util/function/BiFunction"), accessFlags := 25, slot := 0, constantValue := 0 }, { name := "AIOOBE_FORMATTER", type := (.object "java/util/function/BiFunction"), accessFlags := 25, slot := 1, constantValue := 0 }, { name := "IOOBE_FORMATTER", type := (.object "java/util/function/BiFunction"), accessFlags := 25, slot := 2, constantValue := 0 }]
  methods := #[k12m0, k12m1]
  instanceTypes := #[]
  staticTypes := #[(.object "java/util/function/BiFunction"), (.object "java/util/function/BiFunction"), (.object "java/util/function/BiFunction")]
  resolved := Array.replicate 194 none
  statics := some 1 }

def pool13 : Array CpInfo := pool [(9, u "<init>"), (6, .class_ 18), (1, u "java/lang/Object"), (0, u "()V"), (1, .class_ 23), (1, u "jdk/internal/util/ArraysSupport"), (0, u "LOG2_ARRAY_LONG_INDEX_SCALE"), (0, u "I"), (2, u "U"), (0, u "Ljdk/internal/misc/Unsafe;"), (8, u "BIG_ENDIAN"), (0, u "Z"), (8, u "LOG2_BYTE_BIT_SIZE"), (4, u "LOG2_ARRAY_INT_INDEX_SCALE"), (6, .class_ 61), (0, u "[B"), (0, .methodref 21 63), (0, .nameAndType 64 65), (0, u "signedHashCode"), (0, u "(I[BII)I"), (42, u "JLA"), (0, u "Ljdk/internal/access/JavaLangAccess;"), (11, u "LOG2_ARRAY_BOOLEAN_INDEX_SCALE"), (9, u "LOG2_ARRAY_BYTE_INDEX_SCALE"), (5, u "LOG2_ARRAY_CHAR_INDEX_SCALE"), (5, u "LOG2_ARRAY_SHORT_INDEX_SCALE"), (18, u "LOG2_ARRAY_FLOAT_INDEX_SCALE"), (24, u "LOG2_ARRAY_DOUBLE_INDEX_SCALE"), (89, u "T_BOOLEAN"), (2, u "T_CHAR"), (1, u "T_FLOAT"), (1, u "T_DOUBLE"), (1, u "T_BYTE"), (1, u "T_SHORT"), (1, u "T_INT"), (1, u "T_LONG"), (1, u "SOFT_MAX_ARRAY_LENGTH"), (26, u "vectorizedHashCode"), (0, u "(Ljava/lang/Object;IIII)I")] 55

def k13m0 : Method := { name := "<init>", desc := "()V", sig := { parameters := [], returnType := none }, accessFlags := 2, code := none }
def k13c1 : Code := { maxStack := 4, maxLocals := 5, code := jdk_48_method_4_code, exceptionTable := #[], attributes := #[] }
def k13m1 : Method := { name := "vectorizedHashCode", desc := "(Ljava/lang/Object;IIII)I", sig := { parameters := [(.object "java/lang/Object"), .int, .int, .int, .int], returnType := some .int }, accessFlags := 9, code := some k13c1 }
def k13c2 : Code := { maxStack := 3, maxLocals := 6, code := jdk_48_method_5_code, exceptionTable := #[], attributes := #[] }
def k13m2 : Method := { name := "signedHashCode", desc := "(I[BII)I", sig := { parameters := [.int, (.array .byte), .int, .int], returnType := some .int }, accessFlags := 10, code := some k13c2 }
/-- jdk/internal/util/ArraysSupport -/
def k13 : Class := { plain "jdk/internal/util/ArraysSupport" (some 0) with
  accessFlags := 33
  interfaces := #[]
  cf := some (fileOf pool13 21 #[] #[{ accessFlags := 2, nameIndex := 9, descriptorIndex := 19, attributes := #[] }, { accessFlags := 9, nameIndex := 321, descriptorIndex := 322, attributes := #[] }, { accessFlags := 10, nameIndex := 64, descriptorIndex := 65, attributes := #[] }] 33 16 #[] #[{ accessFlags := 24, nameIndex := 28, descriptorIndex := 29, attributes := #[] }, { accessFlags := 26, nameIndex := 38, descriptorIndex := 39, attributes := #[] }, { accessFlags := 25, nameIndex := 121, descriptorIndex := 25, attributes := #[] }, { accessFlags := 25, nameIndex := 131, descriptorIndex := 25, attributes := #[] }, { accessFlags := 25, nameIndex := 137, descriptorIndex := 25, attributes := #[] }, { accessFlags := 25, nameIndex := 143, descriptorIndex := 25, attributes := #[] }, { accessFlags := 25, nameIndex := 53, descriptorIndex := 25, attributes := #[] }, { accessFlags := 25, nameIndex := 24, descriptorIndex := 25, attributes := #[] }, { accessFlags := 25, nameIndex := 162, descriptorIndex := 25, attributes := #[] }, { accessFlags := 25, nameIndex := 187, descriptorIndex := 25, attributes := #[] }, { accessFlags := 26, nameIndex := 48, descriptorIndex := 25, attributes := #[] }, { accessFlags := 25, nameIndex := 277, descriptorIndex := 25, attributes := #[] }, { accessFlags := 25, nameIndex := 280, descriptorIndex := 25, attributes := #[] }, { accessFlags := 25, nameIndex := 282, descriptorIndex := 25, attributes := #[] }, { accessFlags := 25, nameIndex := 284, descriptorIndex := 25, attributes := #[] }, { accessFlags := 25, nameIndex := 286, descriptorIndex := 25, attributes := #[] }, { accessFlags := 25, nameIndex := 288, descriptorIndex := 25, attributes := #[] }, { accessFlags := 25, nameIndex := 290, descriptorIndex := 25, attributes := #[] }, { accessFlags := 25, nameIndex := 292, descriptorIndex := 25, attributes := #[] }, { accessFlags := 26, nameIndex := 108, descriptorIndex := 109, attributes := #[] }, { accessFlags := 25, nameIndex := 294, descriptorIndex := 25, attributes := #[] }])
  fields := #[{ name := "U", type := (.object "jdk/internal/misc/Unsafe"), accessFlags := 24, slot := 0, constantValue := 0 }, { name := "BIG_ENDIAN", type := .boolean, accessFlags := 26, slot := 1, constantValue := 0 }, { name := "LOG2_ARRAY_BOOLEAN_INDEX_SCALE", type := .int, accessFlags := 25, slot := 2, constantValue := 0 }, { name := "LOG2_ARRAY_BYTE_INDEX_SCALE", type := .int, accessFlags := 25, slot := 3, constantValue := 0 }, { name := "LOG2_ARRAY_CHAR_INDEX_SCALE", type := .int, accessFlags := 25, slot := 4, constantValue := 0 }, { name := "LOG2_ARRAY_SHORT_INDEX_SCALE", type := .int, accessFlags := 25, slot := 5, constantValue := 0 }, { name := "LOG2_ARRAY_INT_INDEX_SCALE", type := .int, accessFlags := 25, slot := 6, constantValue := 0 }, { name := "LOG2_ARRAY_LONG_INDEX_SCALE", type := .int, accessFlags := 25, slot := 7, constantValue := 0 }, { name := "LOG2_ARRAY_FLOAT_INDEX_SCALE", type := .int, accessFlags := 25, slot := 8, constantValue := 0 }, { name := "LOG2_ARRAY_DOUBLE_INDEX_SCALE", type := .int, accessFlags := 25, slot := 9, constantValue := 0 }, { name := "LOG2_BYTE_BIT_SIZE", type := .int, accessFlags := 26, slot := 10, constantValue := 0 }, { name := "T_BOOLEAN", type := .int, accessFlags := 25, slot := 11, constantValue := 0 }, { name := "T_CHAR", type := .int, accessFlags := 25, slot := 12, constantValue := 0 }, { name := "T_FLOAT", type := .int, accessFlags := 25, slot := 13, constantValue := 0 }, { name := "T_DOUBLE", type := .int, accessFlags := 25, slot := 14, constantValue := 0 }, { name := "T_BYTE", type := .int, accessFlags := 25, slot := 15, constantValue := 0 }, { name := "T_SHORT", type := .int, accessFlags := 25, slot := 16, constantValue := 0 }, { name := "T_INT", type := .int, accessFlags := 25, slot := 17, constantValue := 0 }, { name := "T_LONG", type := .int, accessFlags := 25, slot := 18, constantValue := 0 }, { name := "JLA", type := (.object "jdk/internal/access/JavaLangAccess"), accessFlags := 26, slot := 19, constantValue := 0 }, { name := "SOFT_MAX_ARRAY_LENGTH", type := .int, accessFlags := 25, slot := 20, constantValue := 0 }]
  methods := #[k13m0, k13m1, k13m2]
  instanceTypes := #[]
  staticTypes := #[(.object "jdk/internal/misc/Unsafe"), .boolean, .int, .int, .int, .int, .int, .int, .int, .int, .int, .int, .int, .int, .int, .int, .int, .int, .int, (.object "jdk/internal/access/JavaLangAccess"), .int]
  resolved := Array.replicate 378 none
  statics := none }

def pool14 : Array CpInfo := pool [(1, u "java/lang/Cloneable"), (0, .class_ 1), (0, u "java/lang/Object"), (0, .class_ 3)] 3

/-- java/lang/Cloneable -/
def k14 : Class := { plain "java/lang/Cloneable" (some 0) with
  accessFlags := 1537
  interfaces := #[]
  cf := some (fileOf pool14 2 #[] #[] 1537 4 #[] #[])
  fields := #[]
  methods := #[]
  instanceTypes := #[]
  staticTypes := #[]
  resolved := Array.replicate 8 none
  statics := none }

/-- the primitive byte -/
def k15 : Class := { plain "byte" none with kind := .primitive 'B', accessFlags := 0x411 }
/-- [B -/
def k16 : Class := { plain "[B" (some 0) with kind := .array 15 .byte, interfaces := #[14, 2], accessFlags := 1041 }

/-- the primitive char -/
def k17 : Class := { plain "char" none with kind := .primitive 'C', accessFlags := 0x411 }
/-- [C -/
def k18 : Class := { plain "[C" (some 0) with kind := .array 17 .char, interfaces := #[14, 2], accessFlags := 1041 }

/-- the primitive int -/
def k19 : Class := { plain "int" none with kind := .primitive 'I', accessFlags := 0x411 }
/-- [I -/
def k20 : Class := { plain "[I" (some 0) with kind := .array 19 .int, interfaces := #[14, 2], accessFlags := 1041 }

def heap : Heap := #[{ cls := 7, slots := #[.long 0, .int 1, .null, .int 0, .null, .int 0, .int 0], vm := .statics 7 },
  { cls := 12, slots := #[.null, .null, .null], vm := .statics 12 }]
def classes : Array Class := #[k0, k1, k2, k3, k4, k5, k6, k7, k8, k9, k10, k11, k12, k13, k14, k15, k16, k17, k18, k19, k20]
def interned : List (Array UInt16 × Addr) := []
def slotsUsed : Nat := 10
def theMethod : MethodId := ⟨1, 3⟩
def args0 : Array Value := #[.int 5, .int 7, .int 9, .int 11, .int 13, .int 2]
def aboutOver (below : List Frame) : State where
  vm := { classes := classes, interned := interned.toArray }
  heap := heap
  slotsUsed := slotsUsed
  threads := #[{ frames := .invoking theMethod args0 :: below }]
def below0 : List Frame := [.native { method := ⟨0, 0⟩, args := #[] }]
def about1 : State := aboutOver below0
def p0 : Program := .bare "" "" ""
def e0 : Env := launch0.env 0 0 0
theorem w_frames : about1.frames = Frame.invoking theMethod args0 :: below0 := rfl
set_option maxRecDepth 65536 in
theorem w_args : argsFit about1.vm theMethod args0 = true := by decide +kernel
set_option maxRecDepth 65536 in
theorem w_heap : heapFits about1 = true := by decide +kernel
set_option maxRecDepth 65536 in
theorem w_runnable : about1.curStatus? = some .runnable := by decide +kernel
set_option maxRecDepth 65536 in
theorem w_alone : about1.alone = true := by decide +kernel
set_option maxRecDepth 65536 in
theorem w_named : about1.methodNamed? x = some theMethod := by decide +kernel
set_option maxRecDepth 65536 in
theorem w_hears : about1.hears theMethod below0 = true := by decide +kernel
set_option maxRecDepth 65536 in
theorem w_ripe : about1.ripe theMethod args0 below0 = true := by decide +kernel
theorem w_running : about1.status = .running := rfl
set_option maxRecDepth 65536 in
theorem w_room : about1.hasRoom e0.platform room_1 = true :=
  launch0.hasRoom_least _ room_1 (by decide +kernel) (by decide +kernel) (by decide +kernel) (by decide +kernel) (by decide +kernel) (by decide +kernel)
theorem allAtoms_all (ts : List Jvm.Cond) (a : Array Jvm.Value) (st : Jvm.State) : (allAtoms ts).before a st = ts.all (fun c => c.before a st) := by
  induction ts with
  | nil => rfl
  | cons c t ih =>
    show (Jvm.Cond.and c (allAtoms t)).before a st = _
    rw [Jvm.Cond.before_and, ih, List.all_cons]
def words1 : List Jvm.Cond := Jvm.Cond.code x code maxLocals ret :: tables_1
/-- a 'code' word, met by the world's own term for the bytes: nothing is compared byte by byte -/
theorem code_word {y : MethodName} {bytes : ByteArray} {mx : Nat} {rt : Option FieldType} {a : Array Value} {s : State} {m : MethodId} {meth : Method} {c : Code} (h1 : s.methodNamed? y = some m) (h2 : s.vm.method? m = some meth) (h3 : meth.code = some c) (h4 : c.code = bytes)
    (h5 : (c.maxLocals == mx && c.exceptionTable.isEmpty && decide (c.maxStack ≤ mostOperands) && decide (meth.sig.returnType = rt) && !meth.locks && decide (parseMethodDescriptor y.desc = some meth.sig)) = true) : (Jvm.Cond.code y bytes mx rt).before a s = true := by
  simp only [Bool.and_eq_true, beq_iff_eq, Bool.not_eq_true', decide_eq_true_eq] at h5
  obtain ⟨⟨⟨⟨⟨g1, g2⟩, g3⟩, g4⟩, g5⟩, g6⟩ := h5
  simp [Cond.before, Cond.holds, Cond.value, h1, h2, h3, h4, g1, g2, g3, g4, g5, g6]
def isCode : Jvm.Cond → Bool
  | .code _ _ _ _ => true
  | _ => false
theorem all_split {L : List Jvm.Cond} {P : Jvm.Cond → Bool} (h1 : L.all (fun c => isCode c || P c) = true) (h2 : ∀ c ∈ L.filter isCode, P c = true) : L.all P = true := by
  refine List.all_eq_true.mpr fun c hc => ?_
  have h := List.all_eq_true.mp h1 c hc
  rcases Bool.eq_false_or_eq_true (isCode c) with hi | hi
  · exact h2 c (List.mem_filter.mpr ⟨hc, hi⟩)
  · simpa [hi] using h
set_option maxRecDepth 65536 in
theorem w_c0 : (Jvm.Cond.code x code maxLocals ret).before args0 about1 = true := code_word (m := ⟨1, 3⟩) (meth := k1m3) (c := k1c3) (by decide +kernel) rfl rfl rfl (by decide +kernel)
set_option maxRecDepth 65536 in
theorem w_c1 : (Jvm.Cond.code ({ cls := "com/example/minuterie/minuterie/TimerNameOfPinLaw", name := "allowed", desc := "(I)C" } : Jvm.MethodName) method_2_code (2 : Nat) (Option.some Jvm.ClassFile.FieldType.char)).before args0 about1 = true := code_word (m := ⟨1, 1⟩) (meth := k1m1) (c := k1c1) (by decide +kernel) rfl rfl rfl (by decide +kernel)
set_option maxRecDepth 65536 in
theorem w_c2 : (Jvm.Cond.code ({ cls := "com/example/minuterie/minuterie/TimerNameOfPinLaw", name := "make", desc := "(CCCCI)Ljava/lang/String;" } : Jvm.MethodName) method_3_code (5 : Nat) (Option.some (Jvm.ClassFile.FieldType.object "java/lang/String"))).before args0 about1 = true := code_word (m := ⟨1, 2⟩) (meth := k1m2) (c := k1c2) (by decide +kernel) rfl rfl rfl (by decide +kernel)
set_option maxRecDepth 65536 in
theorem w_c3 : (Jvm.Cond.code ({ cls := "java/lang/String", name := "<init>", desc := "([C)V" } : Jvm.MethodName) jdk_42_method_3_code (2 : Nat) (Option.none : Option Jvm.ClassFile.FieldType)).before args0 about1 = true := code_word (m := ⟨7, 1⟩) (meth := k7m1) (c := k7c1) (by decide +kernel) rfl rfl rfl (by decide +kernel)
set_option maxRecDepth 65536 in
theorem w_c4 : (Jvm.Cond.code ({ cls := "java/lang/String", name := "<init>", desc := "([CIILjava/lang/Void;)V" } : Jvm.MethodName) jdk_42_method_149_code (6 : Nat) (Option.none : Option Jvm.ClassFile.FieldType)).before args0 about1 = true := code_word (m := ⟨7, 7⟩) (meth := k7m7) (c := k7c7) (by decide +kernel) rfl rfl rfl (by decide +kernel)
set_option maxRecDepth 65536 in
theorem w_c5 : (Jvm.Cond.code ({ cls := "java/lang/Object", name := "<init>", desc := "()V" } : Jvm.MethodName) object_method_1_code (1 : Nat) (Option.none : Option Jvm.ClassFile.FieldType)).before args0 about1 = true := code_word (m := ⟨0, 0⟩) (meth := k0m0) (c := k0c0) (by decide +kernel) rfl rfl rfl (by decide +kernel)
set_option maxRecDepth 65536 in
theorem w_c6 : (Jvm.Cond.code ({ cls := "java/lang/StringUTF16", name := "compress", desc := "([CII)[B" } : Jvm.MethodName) jdk_52_method_16_code (6 : Nat) (Option.some (Jvm.ClassFile.FieldType.array Jvm.ClassFile.FieldType.byte))).before args0 about1 = true := code_word (m := ⟨8, 2⟩) (meth := k8m2) (c := k8c2) (by decide +kernel) rfl rfl rfl (by decide +kernel)
set_option maxRecDepth 65536 in
theorem w_c7 : (Jvm.Cond.code ({ cls := "java/lang/StringUTF16", name := "compress", desc := "([CI[BII)I" } : Jvm.MethodName) jdk_52_method_21_code (7 : Nat) (Option.some Jvm.ClassFile.FieldType.int)).before args0 about1 = true := code_word (m := ⟨8, 3⟩) (meth := k8m3) (c := k8c3) (by decide +kernel) rfl rfl rfl (by decide +kernel)
set_option maxRecDepth 65536 in
theorem w_c8 : (Jvm.Cond.code ({ cls := "java/lang/StringUTF16", name := "coderFromArrayLen", desc := "([BI)B" } : Jvm.MethodName) jdk_52_method_15_code (2 : Nat) (Option.some Jvm.ClassFile.FieldType.byte)).before args0 about1 = true := code_word (m := ⟨8, 1⟩) (meth := k8m1) (c := k8c1) (by decide +kernel) rfl rfl rfl (by decide +kernel)
set_option maxRecDepth 65536 in
theorem w_c9 : (Jvm.Cond.code ({ cls := "com/example/minuterie/minuterie/TimerName", name := "of", desc := "(Ljava/lang/String;)Lcom/example/minuterie/minuterie/TimerName;" } : Jvm.MethodName) prog_28_method_2_code (3 : Nat) (Option.some (Jvm.ClassFile.FieldType.object "com/example/minuterie/minuterie/TimerName"))).before args0 about1 = true := code_word (m := ⟨9, 1⟩) (meth := k9m1) (c := k9c1) (by decide +kernel) rfl rfl rfl (by decide +kernel)
set_option maxRecDepth 65536 in
theorem w_c10 : (Jvm.Cond.code ({ cls := "java/util/Objects", name := "requireNonNull", desc := "(Ljava/lang/Object;Ljava/lang/String;)Ljava/lang/Object;" } : Jvm.MethodName) jdk_31_method_11_code (2 : Nat) (Option.some (Jvm.ClassFile.FieldType.object "java/lang/Object"))).before args0 about1 = true := code_word (m := ⟨10, 1⟩) (meth := k10m1) (c := k10c1) (by decide +kernel) rfl rfl rfl (by decide +kernel)
set_option maxRecDepth 65536 in
theorem w_c11 : (Jvm.Cond.code ({ cls := "java/lang/String", name := "isEmpty", desc := "()Z" } : Jvm.MethodName) jdk_42_method_55_code (1 : Nat) (Option.some Jvm.ClassFile.FieldType.boolean)).before args0 about1 = true := code_word (m := ⟨7, 3⟩) (meth := k7m3) (c := k7c3) (by decide +kernel) rfl rfl rfl (by decide +kernel)
set_option maxRecDepth 65536 in
theorem w_c12 : (Jvm.Cond.code ({ cls := "java/lang/String", name := "length", desc := "()I" } : Jvm.MethodName) jdk_42_method_54_code (1 : Nat) (Option.some Jvm.ClassFile.FieldType.int)).before args0 about1 = true := code_word (m := ⟨7, 2⟩) (meth := k7m2) (c := k7c2) (by decide +kernel) rfl rfl rfl (by decide +kernel)
set_option maxRecDepth 65536 in
theorem w_c13 : (Jvm.Cond.code ({ cls := "java/lang/String", name := "coder", desc := "()B" } : Jvm.MethodName) jdk_42_method_152_code (1 : Nat) (Option.some Jvm.ClassFile.FieldType.byte)).before args0 about1 = true := code_word (m := ⟨7, 8⟩) (meth := k7m8) (c := k7c8) (by decide +kernel) rfl rfl rfl (by decide +kernel)
set_option maxRecDepth 65536 in
theorem w_c14 : (Jvm.Cond.code ({ cls := "java/lang/String", name := "charAt", desc := "(I)C" } : Jvm.MethodName) jdk_42_method_56_code (2 : Nat) (Option.some Jvm.ClassFile.FieldType.char)).before args0 about1 = true := code_word (m := ⟨7, 4⟩) (meth := k7m4) (c := k7c4) (by decide +kernel) rfl rfl rfl (by decide +kernel)
set_option maxRecDepth 65536 in
theorem w_c15 : (Jvm.Cond.code ({ cls := "java/lang/String", name := "isLatin1", desc := "()Z" } : Jvm.MethodName) jdk_42_method_154_code (1 : Nat) (Option.some Jvm.ClassFile.FieldType.boolean)).before args0 about1 = true := code_word (m := ⟨7, 9⟩) (meth := k7m9) (c := k7c9) (by decide +kernel) rfl rfl rfl (by decide +kernel)
set_option maxRecDepth 65536 in
theorem w_c16 : (Jvm.Cond.code ({ cls := "java/lang/StringLatin1", name := "charAt", desc := "([BI)C" } : Jvm.MethodName) jdk_43_method_2_code (2 : Nat) (Option.some Jvm.ClassFile.FieldType.char)).before args0 about1 = true := code_word (m := ⟨11, 1⟩) (meth := k11m1) (c := k11c1) (by decide +kernel) rfl rfl rfl (by decide +kernel)
set_option maxRecDepth 65536 in
theorem w_c17 : (Jvm.Cond.code ({ cls := "java/lang/String", name := "checkIndex", desc := "(II)V" } : Jvm.MethodName) jdk_42_method_155_code (2 : Nat) (Option.none : Option Jvm.ClassFile.FieldType)).before args0 about1 = true := code_word (m := ⟨7, 10⟩) (meth := k7m10) (c := k7c10) (by decide +kernel) rfl rfl rfl (by decide +kernel)
set_option maxRecDepth 65536 in
theorem w_c18 : (Jvm.Cond.code ({ cls := "jdk/internal/util/Preconditions", name := "checkIndex", desc := "(IILjava/util/function/BiFunction;)I" } : Jvm.MethodName) jdk_41_method_11_code (3 : Nat) (Option.some Jvm.ClassFile.FieldType.int)).before args0 about1 = true := code_word (m := ⟨12, 1⟩) (meth := k12m1) (c := k12c1) (by decide +kernel) rfl rfl rfl (by decide +kernel)
set_option maxRecDepth 65536 in
theorem w_c19 : (Jvm.Cond.code ({ cls := "com/example/minuterie/minuterie/TimerName", name := "isAllowed", desc := "(C)Z" } : Jvm.MethodName) prog_28_method_3_code (1 : Nat) (Option.some Jvm.ClassFile.FieldType.boolean)).before args0 about1 = true := code_word (m := ⟨9, 2⟩) (meth := k9m2) (c := k9c2) (by decide +kernel) rfl rfl rfl (by decide +kernel)
set_option maxRecDepth 65536 in
theorem w_c20 : (Jvm.Cond.code ({ cls := "com/example/minuterie/minuterie/TimerName", name := "<init>", desc := "(Ljava/lang/String;)V" } : Jvm.MethodName) prog_28_method_1_code (2 : Nat) (Option.none : Option Jvm.ClassFile.FieldType)).before args0 about1 = true := code_word (m := ⟨9, 0⟩) (meth := k9m0) (c := k9c0) (by decide +kernel) rfl rfl rfl (by decide +kernel)
set_option maxRecDepth 65536 in
theorem w_c21 : (Jvm.Cond.code ({ cls := "com/example/minuterie/minuterie/TimerName", name := "toString", desc := "()Ljava/lang/String;" } : Jvm.MethodName) prog_28_method_4_code (1 : Nat) (Option.some (Jvm.ClassFile.FieldType.object "java/lang/String"))).before args0 about1 = true := code_word (m := ⟨9, 3⟩) (meth := k9m3) (c := k9c3) (by decide +kernel) rfl rfl rfl (by decide +kernel)
set_option maxRecDepth 65536 in
theorem w_c22 : (Jvm.Cond.code ({ cls := "java/lang/String", name := "equals", desc := "(Ljava/lang/Object;)Z" } : Jvm.MethodName) jdk_42_method_66_code (3 : Nat) (Option.some Jvm.ClassFile.FieldType.boolean)).before args0 about1 = true := code_word (m := ⟨7, 5⟩) (meth := k7m5) (c := k7c5) (by decide +kernel) rfl rfl rfl (by decide +kernel)
set_option maxRecDepth 65536 in
theorem w_c23 : (Jvm.Cond.code ({ cls := "com/example/minuterie/minuterie/TimerName", name := "equals", desc := "(Ljava/lang/Object;)Z" } : Jvm.MethodName) prog_28_method_5_code (3 : Nat) (Option.some Jvm.ClassFile.FieldType.boolean)).before args0 about1 = true := code_word (m := ⟨9, 4⟩) (meth := k9m4) (c := k9c4) (by decide +kernel) rfl rfl rfl (by decide +kernel)
set_option maxRecDepth 65536 in
theorem w_c24 : (Jvm.Cond.code ({ cls := "java/lang/StringLatin1", name := "equals", desc := "([B[B)Z" } : Jvm.MethodName) jdk_43_method_13_code (3 : Nat) (Option.some Jvm.ClassFile.FieldType.boolean)).before args0 about1 = true := code_word (m := ⟨11, 2⟩) (meth := k11m2) (c := k11c2) (by decide +kernel) rfl rfl rfl (by decide +kernel)
set_option maxRecDepth 65536 in
theorem w_c25 : (Jvm.Cond.code ({ cls := "com/example/minuterie/minuterie/TimerName", name := "hashCode", desc := "()I" } : Jvm.MethodName) prog_28_method_6_code (1 : Nat) (Option.some Jvm.ClassFile.FieldType.int)).before args0 about1 = true := code_word (m := ⟨9, 5⟩) (meth := k9m5) (c := k9c5) (by decide +kernel) rfl rfl rfl (by decide +kernel)
set_option maxRecDepth 65536 in
theorem w_c26 : (Jvm.Cond.code ({ cls := "java/lang/String", name := "hashCode", desc := "()I" } : Jvm.MethodName) jdk_42_method_78_code (2 : Nat) (Option.some Jvm.ClassFile.FieldType.int)).before args0 about1 = true := code_word (m := ⟨7, 6⟩) (meth := k7m6) (c := k7c6) (by decide +kernel) rfl rfl rfl (by decide +kernel)
set_option maxRecDepth 65536 in
theorem w_c27 : (Jvm.Cond.code ({ cls := "java/lang/StringLatin1", name := "hashCode", desc := "([B)I" } : Jvm.MethodName) jdk_43_method_21_code (1 : Nat) (Option.some Jvm.ClassFile.FieldType.int)).before args0 about1 = true := code_word (m := ⟨11, 3⟩) (meth := k11m3) (c := k11c3) (by decide +kernel) rfl rfl rfl (by decide +kernel)
set_option maxRecDepth 65536 in
theorem w_c28 : (Jvm.Cond.code ({ cls := "jdk/internal/util/ArraysSupport", name := "vectorizedHashCode", desc := "(Ljava/lang/Object;IIII)I" } : Jvm.MethodName) jdk_48_method_4_code (5 : Nat) (Option.some Jvm.ClassFile.FieldType.int)).before args0 about1 = true := code_word (m := ⟨13, 1⟩) (meth := k13m1) (c := k13c1) (by decide +kernel) rfl rfl rfl (by decide +kernel)
set_option maxRecDepth 65536 in
theorem w_c29 : (Jvm.Cond.code ({ cls := "jdk/internal/util/ArraysSupport", name := "signedHashCode", desc := "(I[BII)I" } : Jvm.MethodName) jdk_48_method_5_code (6 : Nat) (Option.some Jvm.ClassFile.FieldType.int)).before args0 about1 = true := code_word (m := ⟨13, 2⟩) (meth := k13m2) (c := k13c2) (by decide +kernel) rfl rfl rfl (by decide +kernel)
def codes1 : List Jvm.Cond := [Jvm.Cond.code x code maxLocals ret, Jvm.Cond.code ({ cls := "com/example/minuterie/minuterie/TimerNameOfPinLaw", name := "allowed", desc := "(I)C" } : Jvm.MethodName) method_2_code (2 : Nat) (Option.some Jvm.ClassFile.FieldType.char), Jvm.Cond.code ({ cls := "com/example/minuterie/minuterie/TimerNameOfPinLaw", name := "make", desc := "(CCCCI)Ljava/lang/String;" } : Jvm.MethodName) method_3_code (5 : Nat) (Option.some (Jvm.ClassFile.FieldType.object "java/lang/String")), Jvm.Cond.code ({ cls := "java/lang/String", name := "<init>", desc := "([C)V" } : Jvm.MethodName) jdk_42_method_3_code (2 : Nat) (Option.none : Option Jvm.ClassFile.FieldType), Jvm.Cond.code ({ cls := "java/lang/String", name := "<init>", desc := "([CIILjava/lang/Void;)V" } : Jvm.MethodName) jdk_42_method_149_code (6 : Nat) (Option.none : Option Jvm.ClassFile.FieldType), Jvm.Cond.code ({ cls := "java/lang/Object", name := "<init>", desc := "()V" } : Jvm.MethodName) object_method_1_code (1 : Nat) (Option.none : Option Jvm.ClassFile.FieldType), Jvm.Cond.code ({ cls := "java/lang/StringUTF16", name := "compress", desc := "([CII)[B" } : Jvm.MethodName) jdk_52_method_16_code (6 : Nat) (Option.some (Jvm.ClassFile.FieldType.array Jvm.ClassFile.FieldType.byte)), Jvm.Cond.code ({ cls := "java/lang/StringUTF16", name := "compress", desc := "([CI[BII)I" } : Jvm.MethodName) jdk_52_method_21_code (7 : Nat) (Option.some Jvm.ClassFile.FieldType.int), Jvm.Cond.code ({ cls := "java/lang/StringUTF16", name := "coderFromArrayLen", desc := "([BI)B" } : Jvm.MethodName) jdk_52_method_15_code (2 : Nat) (Option.some Jvm.ClassFile.FieldType.byte), Jvm.Cond.code ({ cls := "com/example/minuterie/minuterie/TimerName", name := "of", desc := "(Ljava/lang/String;)Lcom/example/minuterie/minuterie/TimerName;" } : Jvm.MethodName) prog_28_method_2_code (3 : Nat) (Option.some (Jvm.ClassFile.FieldType.object "com/example/minuterie/minuterie/TimerName")), Jvm.Cond.code ({ cls := "java/util/Objects", name := "requireNonNull", desc := "(Ljava/lang/Object;Ljava/lang/String;)Ljava/lang/Object;" } : Jvm.MethodName) jdk_31_method_11_code (2 : Nat) (Option.some (Jvm.ClassFile.FieldType.object "java/lang/Object")), Jvm.Cond.code ({ cls := "java/lang/String", name := "isEmpty", desc := "()Z" } : Jvm.MethodName) jdk_42_method_55_code (1 : Nat) (Option.some Jvm.ClassFile.FieldType.boolean), Jvm.Cond.code ({ cls := "java/lang/String", name := "length", desc := "()I" } : Jvm.MethodName) jdk_42_method_54_code (1 : Nat) (Option.some Jvm.ClassFile.FieldType.int), Jvm.Cond.code ({ cls := "java/lang/String", name := "coder", desc := "()B" } : Jvm.MethodName) jdk_42_method_152_code (1 : Nat) (Option.some Jvm.ClassFile.FieldType.byte), Jvm.Cond.code ({ cls := "java/lang/String", name := "charAt", desc := "(I)C" } : Jvm.MethodName) jdk_42_method_56_code (2 : Nat) (Option.some Jvm.ClassFile.FieldType.char), Jvm.Cond.code ({ cls := "java/lang/String", name := "isLatin1", desc := "()Z" } : Jvm.MethodName) jdk_42_method_154_code (1 : Nat) (Option.some Jvm.ClassFile.FieldType.boolean), Jvm.Cond.code ({ cls := "java/lang/StringLatin1", name := "charAt", desc := "([BI)C" } : Jvm.MethodName) jdk_43_method_2_code (2 : Nat) (Option.some Jvm.ClassFile.FieldType.char), Jvm.Cond.code ({ cls := "java/lang/String", name := "checkIndex", desc := "(II)V" } : Jvm.MethodName) jdk_42_method_155_code (2 : Nat) (Option.none : Option Jvm.ClassFile.FieldType), Jvm.Cond.code ({ cls := "jdk/internal/util/Preconditions", name := "checkIndex", desc := "(IILjava/util/function/BiFunction;)I" } : Jvm.MethodName) jdk_41_method_11_code (3 : Nat) (Option.some Jvm.ClassFile.FieldType.int), Jvm.Cond.code ({ cls := "com/example/minuterie/minuterie/TimerName", name := "isAllowed", desc := "(C)Z" } : Jvm.MethodName) prog_28_method_3_code (1 : Nat) (Option.some Jvm.ClassFile.FieldType.boolean), Jvm.Cond.code ({ cls := "com/example/minuterie/minuterie/TimerName", name := "<init>", desc := "(Ljava/lang/String;)V" } : Jvm.MethodName) prog_28_method_1_code (2 : Nat) (Option.none : Option Jvm.ClassFile.FieldType), Jvm.Cond.code ({ cls := "com/example/minuterie/minuterie/TimerName", name := "toString", desc := "()Ljava/lang/String;" } : Jvm.MethodName) prog_28_method_4_code (1 : Nat) (Option.some (Jvm.ClassFile.FieldType.object "java/lang/String")), Jvm.Cond.code ({ cls := "java/lang/String", name := "equals", desc := "(Ljava/lang/Object;)Z" } : Jvm.MethodName) jdk_42_method_66_code (3 : Nat) (Option.some Jvm.ClassFile.FieldType.boolean), Jvm.Cond.code ({ cls := "com/example/minuterie/minuterie/TimerName", name := "equals", desc := "(Ljava/lang/Object;)Z" } : Jvm.MethodName) prog_28_method_5_code (3 : Nat) (Option.some Jvm.ClassFile.FieldType.boolean), Jvm.Cond.code ({ cls := "java/lang/StringLatin1", name := "equals", desc := "([B[B)Z" } : Jvm.MethodName) jdk_43_method_13_code (3 : Nat) (Option.some Jvm.ClassFile.FieldType.boolean), Jvm.Cond.code ({ cls := "com/example/minuterie/minuterie/TimerName", name := "hashCode", desc := "()I" } : Jvm.MethodName) prog_28_method_6_code (1 : Nat) (Option.some Jvm.ClassFile.FieldType.int), Jvm.Cond.code ({ cls := "java/lang/String", name := "hashCode", desc := "()I" } : Jvm.MethodName) jdk_42_method_78_code (2 : Nat) (Option.some Jvm.ClassFile.FieldType.int), Jvm.Cond.code ({ cls := "java/lang/StringLatin1", name := "hashCode", desc := "([B)I" } : Jvm.MethodName) jdk_43_method_21_code (1 : Nat) (Option.some Jvm.ClassFile.FieldType.int), Jvm.Cond.code ({ cls := "jdk/internal/util/ArraysSupport", name := "vectorizedHashCode", desc := "(Ljava/lang/Object;IIII)I" } : Jvm.MethodName) jdk_48_method_4_code (5 : Nat) (Option.some Jvm.ClassFile.FieldType.int), Jvm.Cond.code ({ cls := "jdk/internal/util/ArraysSupport", name := "signedHashCode", desc := "(I[BII)I" } : Jvm.MethodName) jdk_48_method_5_code (6 : Nat) (Option.some Jvm.ClassFile.FieldType.int)]
set_option maxRecDepth 65536 in
theorem codes_eq : words1.filter isCode = codes1 := rfl
theorem w_codes : ∀ c ∈ words1.filter isCode, c.before args0 about1 = true := by
  rw [codes_eq]
  intro c hc
  simp only [codes1, List.mem_cons, List.not_mem_nil, or_false] at hc
  rcases hc with rfl | rfl | rfl | rfl | rfl | rfl | rfl | rfl | rfl | rfl | rfl | rfl | rfl | rfl | rfl | rfl | rfl | rfl | rfl | rfl | rfl | rfl | rfl | rfl | rfl | rfl | rfl | rfl | rfl | rfl
  · exact w_c0
  · exact w_c1
  · exact w_c2
  · exact w_c3
  · exact w_c4
  · exact w_c5
  · exact w_c6
  · exact w_c7
  · exact w_c8
  · exact w_c9
  · exact w_c10
  · exact w_c11
  · exact w_c12
  · exact w_c13
  · exact w_c14
  · exact w_c15
  · exact w_c16
  · exact w_c17
  · exact w_c18
  · exact w_c19
  · exact w_c20
  · exact w_c21
  · exact w_c22
  · exact w_c23
  · exact w_c24
  · exact w_c25
  · exact w_c26
  · exact w_c27
  · exact w_c28
  · exact w_c29
set_option maxRecDepth 65536 in
theorem w_t1 : (words1.take 24).all (fun c => isCode c || c.before args0 about1) = true := by decide +kernel
set_option maxRecDepth 65536 in
theorem w_t2 : ((words1.drop 24).take 24).all (fun c => isCode c || c.before args0 about1) = true := by decide +kernel
set_option maxRecDepth 65536 in
theorem w_t3 : (((words1.drop 24).drop 24).take 24).all (fun c => isCode c || c.before args0 about1) = true := by decide +kernel
set_option maxRecDepth 65536 in
theorem w_t4 : ((((words1.drop 24).drop 24).drop 24).take 24).all (fun c => isCode c || c.before args0 about1) = true := by decide +kernel
set_option maxRecDepth 65536 in
theorem w_t5 : (((((words1.drop 24).drop 24).drop 24).drop 24).take 24).all (fun c => isCode c || c.before args0 about1) = true := by decide +kernel
set_option maxRecDepth 65536 in
theorem w_t6 : ((((((words1.drop 24).drop 24).drop 24).drop 24).drop 24).take 24).all (fun c => isCode c || c.before args0 about1) = true := by decide +kernel
set_option maxRecDepth 65536 in
theorem w_t7 : ((((((words1.drop 24).drop 24).drop 24).drop 24).drop 24).drop 24).all (fun c => isCode c || c.before args0 about1) = true := by decide +kernel
theorem w_tables : (allAtoms (Jvm.Cond.code x code maxLocals ret :: tables_1)).before args0 about1 = true := by
  rw [allAtoms_all]
  show words1.all (fun c => c.before args0 about1) = true
  refine all_split ?_ w_codes
  rw [← List.take_append_drop 24 words1, List.all_append, w_t1, ← List.take_append_drop 24 (words1.drop 24), List.all_append, w_t2, ← List.take_append_drop 24 ((words1.drop 24).drop 24), List.all_append, w_t3, ← List.take_append_drop 24 (((words1.drop 24).drop 24).drop 24), List.all_append, w_t4, ← List.take_append_drop 24 ((((words1.drop 24).drop 24).drop 24).drop 24), List.all_append, w_t5, ← List.take_append_drop 24 (((((words1.drop 24).drop 24).drop 24).drop 24).drop 24), List.all_append, w_t6, w_t7]
  rfl
set_option maxRecDepth 65536 in
theorem w_rest : rest_1_c.before args0 about1 = true := by decide +kernel
set_option maxRecDepth 65536 in
theorem w_case : (Jvm.Cond.and given_1 narrow_1).before args0 about1 = true := by decide +kernel
theorem w_applies : (headSpec (Jvm.Cond.code x code maxLocals ret :: tables_1) room_1).applies x e0.platform about1 = true :=
  (Spec.applies_iff w_frames).mpr ⟨w_running, w_runnable, w_alone, w_named, w_hears, w_ripe, w_room, w_tables⟩
theorem atStart : AtStart classFile x code maxLocals ret World_1 tables_1 room_1 Calls_1 rest_1 Pre_1 launch0 p0 e0 about1 theMethod args0 below0 :=
  ⟨lists_1, trivial, launch0.admits_env _ _ _, launch0.least_env, fairChoices_fair.cas, fairChoices_fair.clock, w_frames, w_args, w_heap, w_applies, trivial, w_rest, w_case⟩
end start1
theorem witness_1 : WitnessClaimed_1 := ⟨start1.p0, start1.e0, start1.about1, start1.theMethod, start1.args0, start1.below0, start1.atStart⟩
end Jvm.Pilot.@@N@@
