import JvmDerived
import JvmDerived.Pilot.@@N@@Statement
import JvmDerived.Pilot.@@N@@Code
set_option linter.unusedVariables false
set_option linter.unusedSimpArgs false

namespace Jvm.Pilot.@@N@@
open Jvm Jvm.ClassFile Sem Op Lib Jvm.Free Jvm.Stand Jvm.LawKit Jvm.RoadKit Bundle Jvm.Pilot.@@N@@.Jvm.D
theorem own_w (i : Nat) {d : Jvm.Cond} (h : tables_1[i]? = some d) : d ∈ tables_1 := List.mem_of_getElem? h
section Own
variable {p : Program} {l : Launch} {e : Env} {R : Room} {s : State} {m : MethodId} {args : Array Value} {below : List Frame} {meth : Method} {c : Code} {T T' : State} {locs : List Loc} {cells slots : Nat} {g g' : JFrame} {P : State → Outcome → Prop}
/-- the run that stands at the frame g over T comes to an end of which P holds -/
def own_Ends (p : Program) (e : Env) (below : List Frame) (P : State → Outcome → Prop) (T : State) (g : JFrame) : Prop := ∃ u o, Steps p.tables e below (T.setTop g) u ∧ P u o
theorem own_via (st : ∀ t, Steps p.tables e below (T'.setTop g') t → Steps p.tables e below (T.setTop g) t) (k : own_Ends p e below P T' g') : own_Ends p e below P T g := by
  obtain ⟨a, b, c, d⟩ := k
  exact ⟨a, b, st _ c, d⟩
theorem own_viaT (st : Steps p.tables e below (T.setTop g) (T'.setTop g')) (k : own_Ends p e below P T' g') : own_Ends p e below P T g := own_via (fun _ k => st.trans k) k
def own_Post (s : State) (below : List Frame) (Q : Option Value → Heap → List Loc → Prop) (C S : Nat) : State → Outcome → Prop := fun u o => u.status = .running ∧ Ended u below o ∧ ∃ v L, o = .returned v ∧ Q v u.heap L ∧ FrameEnd s o u L C S
theorem own_leave (X : Stand p l e R s m args below meth c T locs cells slots) {v : Option Value} {Q : Option Value → Heap → List Loc → Prop} {C S : Nat} (hv : meth.sig.returnType = none → v = none) (hlk : meth.locks = false)
    (hst : ∀ fs, (∀ (f : JFrame) (acts : List Action), f.method = m → f.locked = none → f.entered = [] → (doReturn e (T.setTop f) acts v).1 = T.setFrames fs) → Steps p.tables e below (T.setTop g) (T.setFrames fs))
    (hC : cells ≤ C) (hS : slots ≤ S) (hQ : Q v T.heap locs) : own_Ends p e below (own_Post s below Q C S) T g := by
  obtain ⟨fs, hr, hrun, hended, hW, hsame⟩ := X.leave (v := v) hv hlk
  exact ⟨_, _, hst fs hr, hrun, hended, v, locs, rfl, hQ, ⟨_, rfl⟩, hW, hsame.mono hC hS⟩
theorem own_retV (X : Stand p l e R s m args below meth c T locs cells slots) (hx : p.tables.exec = Jvm.exec) (hlk : meth.locks = false) {Q : Option Value → Heap → List Loc → Prop} {C S : Nat} {pc : Nat} {Ls : Array Slot} (hret : meth.sig.returnType = none) (hd : decode c.code pc = .ok (.return_, 1))
    (hC : cells ≤ C) (hS : slots ≤ S) (hQ : Q none T.heap locs) : own_Ends p e below (own_Post s below Q C S) T (mkF m pc Ls []) :=
  own_leave X (fun _ => rfl) hlk (fun fs hr => X.returnOut hx hret hd hr) hC hS hQ
theorem own_retW (X : Stand p l e R s m args below meth c T locs cells slots) (hx : p.tables.exec = Jvm.exec) (hlk : meth.locks = false) {Q : Option Value → Heap → List Loc → Prop} {C S : Nat} {pc : Nat} {Ls : Array Slot} {w : Value} {t : FieldType} {i : Instr} {rest : List Value} (hret : meth.sig.returnType = some t) (hn : narrow t w = w)
    (hi : (i = .ireturn ∧ (t = .int ∨ t = .boolean ∨ t = .byte ∨ t = .char ∨ t = .short) ∧ ∃ z, w = .int z) ∨ (i = .lreturn ∧ t = .long ∧ ∃ z, w = .long z) ∨ (i = .dreturn ∧ t = .double ∧ ∃ z, w = .double z) ∨ (i = .freturn ∧ t = .float ∧ ∃ z, w = .float z) ∨ (i = .areturn ∧ t.isReference = true ∧ w.isRef = true))
    (hd : decode c.code pc = .ok (i, 1)) (hC : cells ≤ C) (hS : slots ≤ S) (hQ : Q (some w) T.heap locs) : own_Ends p e below (own_Post s below Q C S) T (mkF m pc Ls (w :: rest)) :=
  own_leave X (fun h => by rw [hret] at h; cases h) hlk (fun fs hr => retOut X hx hret hn hi hd hr) hC hS hQ
theorem own_retN (X : Stand p l e R s m args below meth c T locs cells slots) (hx : p.tables.exec = Jvm.exec) (hlk : meth.locks = false) {Q : Option Value → Heap → List Loc → Prop} {C S : Nat} {pc : Nat} {Ls : Array Slot} {z : Int32} {t : FieldType} {rest : List Value} (hret : meth.sig.returnType = some t) (ht : t = .boolean ∨ t = .byte ∨ t = .char ∨ t = .short)
    (hd : decode c.code pc = .ok (.ireturn, 1)) (hC : cells ≤ C) (hS : slots ≤ S) (hQ : Q (some (.int (nar t z))) T.heap locs) : own_Ends p e below (own_Post s below Q C S) T (mkF m pc Ls (.int z :: rest)) :=
  own_leave X (fun h => by rw [hret] at h; cases h) hlk (fun fs hr => retN X hx hret ht hd hr) hC hS hQ
theorem own_le {Z : State} {n0 : Nat} {h : Heap} (O : Old Z n0 h) : n0 ≤ h.size := O.1 ▸ O.2.1
theorem own_same {Z : State} {a0 : Array Value} {y : MethodName} (w : (Cond.declares y).before a0 Z = true) (hnf : NotFace Z y) (hy : y.cls ≠ "java/lang/invoke/MethodHandle" ∧ y.cls ≠ "java/lang/invoke/VarHandle") : (Cond.sameMethod y.cls y.cls y.name y.desc).before a0 Z = true := by
  obtain ⟨r0, r, hn, hrm, hstR, hsigR⟩ := Cond.declares_spec w
  have h := State.methodFound?_of_named hn hy
  obtain ⟨k, hk, hi⟩ := hnf r0 hn
  have hc := findClass_of_methodNamed hn
  have hn' : Z.methodNamed? { cls := y.cls, name := y.name, desc := y.desc } = some r0 := hn
  simp [Cond.before, Cond.holds, Cond.value, h, hc, hn', hk, hi]
theorem own_decl {s : State} {args : Array Value} {y : MethodName} {bytes : ByteArray} {maxL : Nat} {ret : Option FieldType} (wi : (Cond.instanceMethod y).before args s = true) (wc : (Cond.code y bytes maxL ret).before args s = true) : (Cond.declares y).before args s = true := by
  obtain ⟨mk, methM, hnamed, hmethM, hst, habM⟩ := Cond.instanceMethod_spec wi
  obtain ⟨m2, cM, q1, -, -, -, -, -, -, hsig⟩ := Cond.code_spec hnamed wc
  cases hmethM.symm.trans q1
  simp [Cond.before, Cond.holds, Cond.value, hnamed, hmethM, hst, hsig]
theorem own_nf {s : State} {args : Array Value} {C : String} {y z : MethodName} (w : (Cond.selects C z z).before args s = true) (e : z.cls = y.cls) : NotFace s y := fun r0 h0 => by
  obtain ⟨c2, r2, m2, q1, q2, q3, q4, kP, hkP, hkPi⟩ := Cond.selects_spec w
  have h1 := findClass_of_methodNamed h0
  have h2 := findClass_of_methodNamed q3
  rw [e] at h2
  have e2 : r0.cls = m2.cls := Option.some.inj (h1.symm.trans h2)
  exact ⟨kP, by rw [e2]; exact hkP, hkPi⟩
theorem own_shr0 (x : Int32) : x >>> ((0 : Int32) &&& 31) = x := by
  have h := c_ishr x 0 0 (by decide)
  apply Int32.toInt_inj.mp
  rw [h]; simp
theorem own_shl0 (x : Int32) : x <<< ((0 : Int32) &&& 31) = x := by
  have h := c_ishl x 0 0 (by decide)
  have r1 := rng32 x
  have r2 := rng32 (x <<< ((0 : Int32) &&& 31))
  apply Int32.toInt_inj.mp
  rw [show ((2 ^ 0 : Nat) : Int) = 1 from rfl, Int.mul_one] at h
  omega
theorem own_and3 (x : Int32) : x &&& 3 = 0 ∨ x &&& 3 = 1 ∨ x &&& 3 = 2 ∨ x &&& 3 = 3 := by
  have h := c_mask x 3 2 (by decide) (by decide)
  have e0 : (0 : Int32).toInt = 0 := by decide
  have e1 : (1 : Int32).toInt = 1 := by decide
  have e2 : (2 : Int32).toInt = 2 := by decide
  have e3 : (3 : Int32).toInt = 3 := by decide
  simp only [← Int32.toInt_inj]
  simp at h
  omega
theorem own_rb (x : Int32) : ((((x &&& 255).toInt8.toInt32) &&& 255).toUInt32.toUInt16.toUInt32.toInt32) = x &&& 255 := by
  rw [i2c_mask]
  have h1 := c_mask x 255 8 (by decide) (by decide)
  have h2 := c_mask ((x &&& 255).toInt8.toInt32) 255 8 (by decide) (by decide)
  have h3 := c_i2b (x &&& 255)
  apply Int32.toInt_inj.mp
  rw [show ((2 ^ 8 : Nat) : Int) = 256 from rfl] at h1 h2
  omega
theorem own_suff {T' : State} {g' : JFrame} (k : own_Ends p e below P T' g' → own_Ends p e below P T g) (h : own_Ends p e below P T' g') : own_Ends p e below P T g := k h
theorem own_nb0 : nar .boolean 0 = 0 := rfl
theorem own_nb1 : nar .boolean 1 = 1 := rfl
theorem own_nb {b : Int32} (h : b = 0 ∨ b = 1) : nar .boolean b = b := by rcases h with rfl | rfl <;> rfl
end Own
abbrev own_y0 : MethodName := ⟨"com/example/brassrig/brassrig/engine/ResponseReader", "startHead", "()V"⟩
abbrev own_y1 : MethodName := ⟨"java/lang/StringCoding", "countPositives", "([BII)I"⟩
abbrev own_y2 : MethodName := ⟨"java/lang/String", "encodeASCII", "(B[B)[B"⟩
abbrev own_y3 : MethodName := ⟨"java/lang/String", "coder", "()B"⟩
abbrev own_y4 : MethodName := ⟨"java/lang/String", "encode", "(Ljava/nio/charset/Charset;B[B)[B"⟩
abbrev own_y5 : MethodName := ⟨"java/lang/String", "getBytes", "(Ljava/nio/charset/Charset;)[B"⟩
abbrev own_y6 : MethodName := ⟨"java/lang/CharacterDataLatin1", "toLowerCase", "(I)I"⟩
abbrev own_y7 : MethodName := ⟨"java/lang/String", "isLatin1", "()Z"⟩
abbrev own_y8 : MethodName := ⟨"java/lang/StringLatin1", "toLowerCase", "(Ljava/lang/String;[BLjava/util/Locale;)Ljava/lang/String;"⟩
abbrev own_y9 : MethodName := ⟨"java/lang/String", "toLowerCase", "(Ljava/util/Locale;)Ljava/lang/String;"⟩
abbrev own_y10 : MethodName := ⟨"com/example/brassrig/brassrig/engine/ResponseReader", "ascii", "(Ljava/lang/String;)[B"⟩
abbrev own_y11 : MethodName := ⟨"java/util/List", "of", "()Ljava/util/List;"⟩
abbrev own_y12 : MethodName := ⟨"com/example/brassrig/brassrig/engine/ResponseReader", "values", "(Ljava/lang/String;)Ljava/util/List;"⟩
abbrev own_y13 : MethodName := ⟨"java/util/List", "isEmpty", "()Z"⟩
abbrev own_y14 : MethodName := ⟨"java/util/ImmutableCollections$ListN", "isEmpty", "()Z"⟩
abbrev own_y15 : MethodName := ⟨"sun/util/locale/BaseLocale", "getLanguage", "()Ljava/lang/String;"⟩
abbrev own_y16 : MethodName := ⟨"java/util/Locale", "getLanguage", "()Ljava/lang/String;"⟩
abbrev own_y17 : MethodName := ⟨"java/lang/StringLatin1", "canEncode", "(I)Z"⟩
abbrev own_y18 : MethodName := ⟨"java/lang/String", "<init>", "([BB)V"⟩
abbrev own_y19 : MethodName := ⟨"jdk/internal/util/Preconditions", "checkFromIndexSize", "(IIILjava/util/function/BiFunction;)I"⟩
abbrev own_y20 : MethodName := ⟨"java/util/Objects", "requireNonNull", "(Ljava/lang/Object;)Ljava/lang/Object;"⟩
abbrev own_y21 : MethodName := ⟨"java/lang/String", "checkBoundsOffCount", "(III)I"⟩
abbrev own_y22 : MethodName := ⟨"java/lang/String", "<init>", "(Ljava/nio/charset/Charset;[BII)V"⟩
abbrev own_y23 : MethodName := ⟨"com/example/brassrig/brassrig/engine/ResponseReader", "value", "(Ljava/lang/String;)Ljava/lang/String;"⟩
abbrev own_y24 : MethodName := ⟨"com/example/brassrig/brassrig/engine/ResponseReader", "charset", "(Ljava/lang/String;)Ljava/nio/charset/Charset;"⟩
abbrev own_y25 : MethodName := ⟨"java/lang/String", "<init>", "([BIILjava/nio/charset/Charset;)V"⟩
abbrev own_y26 : MethodName := ⟨"com/example/brassrig/brassrig/engine/ResponseReader", "<init>", "()V"⟩
abbrev own_y27 : MethodName := ⟨"com/example/brassrig/brassrig/engine/ResponseReader", "begin", "(ZZ)V"⟩
abbrev own_y28 : MethodName := ⟨"com/example/brassrig/brassrig/engine/ResponseReader", "started", "()Z"⟩
abbrev own_y29 : MethodName := ⟨"com/example/brassrig/brassrig/engine/ResponseReader", "closed", "()Z"⟩
abbrev own_y30 : MethodName := ⟨"com/example/brassrig/brassrig/engine/ResponseReader", "bodyText", "()Ljava/lang/String;"⟩
abbrev own_y31 : MethodName := ⟨"java/lang/String", "isEmpty", "()Z"⟩
abbrev own_A0 (x0 : Int32) (x1 : Int32) (x2 : Int32) (x3 : Int32) (x4 : Int32) (x5 : Int32) (x6 : Addr) (x7 : Int32) (x8 : Int32) (x9 : Int32) (x10 : Int32) (x11 : Int32) : Array Slot := #[.val (.int x0), .val (.int x1), .val (.int x2), .val (.int x3), .val (.int x4), .val (.int x5), .val (.ref x6), .val (.int x7), .val (.int x8), .val (.int x9), .val (.int x10), .val (.int x11)]
abbrev own_A1 (x0 : Int32) (x1 : Int32) (x2 : Int32) (x3 : Int32) (x4 : Int32) (x5 : Int32) (x6 : Addr) (x7 : Int32) (x8 : Int32) (x9 : Int32) (x10 : Int32) : Array Slot := #[.val (.int x0), .val (.int x1), .val (.int x2), .val (.int x3), .val (.int x4), .val (.int x5), .val (.ref x6), .val (.int x7), .val (.int x8), .val (.int x9), .val (.int x10), .unset]
abbrev own_A2 (x0 : Int32) (x1 : Int32) (x2 : Int32) (x3 : Int32) (x4 : Int32) (x5 : Int32) (x6 : Addr) (x7 : Int32) (x8 : Int32) (x9 : Int32) : Array Slot := #[.val (.int x0), .val (.int x1), .val (.int x2), .val (.int x3), .val (.int x4), .val (.int x5), .val (.ref x6), .val (.int x7), .val (.int x8), .val (.int x9), .unset, .unset]
abbrev own_A3 (x0 : Addr) (x1 : Addr) (x2 : Addr) (x3 : Int32) (x4 : Int32) (x5 : Addr) (x6 : Addr) (x7 : Int32) (x8 : Int32) : Array Slot := #[.val (.ref x0), .val (.ref x1), .val (.ref x2), .val (.int x3), .val (.int x4), .val (.ref x5), .val (.ref x6), .val (.int x7), .val (.int x8)]
abbrev own_A4 (x0 : Int32) (x1 : Int32) (x2 : Int32) (x3 : Int32) (x4 : Int32) (x5 : Int32) (x6 : Addr) (x7 : Int32) (x8 : Int32) : Array Slot := #[.val (.int x0), .val (.int x1), .val (.int x2), .val (.int x3), .val (.int x4), .val (.int x5), .val (.ref x6), .val (.int x7), .val (.int x8), .unset, .unset, .unset]
abbrev own_A5 (x0 : Int32) (x1 : Int32) (x2 : Int32) (x3 : Int32) (x4 : Int32) (x5 : Int32) (x6 : Addr) (x7 : Int32) : Array Slot := #[.val (.int x0), .val (.int x1), .val (.int x2), .val (.int x3), .val (.int x4), .val (.int x5), .val (.ref x6), .val (.int x7), .unset, .unset, .unset, .unset]
abbrev own_A6 (x0 : Int32) (x1 : Int32) (x2 : Int32) (x3 : Int32) (x4 : Int32) (x5 : Int32) (x6 : Addr) : Array Slot := #[.val (.int x0), .val (.int x1), .val (.int x2), .val (.int x3), .val (.int x4), .val (.int x5), .val (.ref x6), .unset, .unset, .unset, .unset, .unset]
abbrev own_A7 (x0 : Addr) (x1 : Addr) (x2 : Addr) (x3 : Int32) (x4 : Int32) (x5 : Int32) : Array Slot := #[.val (.ref x0), .val (.ref x1), .val (.ref x2), .val (.int x3), .val (.int x4), .val (.int x5), .unset, .unset, .unset]
abbrev own_A8 (x0 : Int32) (x1 : Int32) (x2 : Int32) (x3 : Int32) (x4 : Int32) (x5 : Int32) : Array Slot := #[.val (.int x0), .val (.int x1), .val (.int x2), .val (.int x3), .val (.int x4), .val (.int x5), .unset, .unset, .unset, .unset, .unset, .unset]
abbrev own_A9 (x0 : Int32) (x1 : Int32) (x2 : Int32) (x3 : Int32) (x4 : Int32) : Array Slot := #[.val (.int x0), .val (.int x1), .val (.int x2), .val (.int x3), .val (.int x4), .unset, .unset, .unset, .unset, .unset, .unset, .unset]
abbrev own_A10 (x0 : Addr) (x1 : Addr) (x2 : Addr) (x3 : Int32) (x4 : Int32) (x5 : Addr) (x6 : Addr) (x7 : Int32) : Array Slot := #[.val (.ref x0), .val (.ref x1), .val (.ref x2), .val (.int x3), .val (.int x4), .val (.ref x5), .val (.ref x6), .val (.int x7), .unset]
abbrev own_A11 (x0 : Addr) (x1 : Addr) (x2 : Addr) (x3 : Int32) (x4 : Int32) (x5 : Addr) (x6 : Addr) : Array Slot := #[.val (.ref x0), .val (.ref x1), .val (.ref x2), .val (.int x3), .val (.int x4), .val (.ref x5), .val (.ref x6), .unset, .unset]
abbrev own_A12 (x0 : Int32) (x1 : Int32) (x2 : Int32) (x3 : Int32) : Array Slot := #[.val (.int x0), .val (.int x1), .val (.int x2), .val (.int x3), .unset, .unset, .unset, .unset, .unset, .unset, .unset, .unset]
abbrev own_A13 (x0 : Addr) (x1 : Addr) (x2 : Addr) (x3 : Int32) (x4 : Int32) : Array Slot := #[.val (.ref x0), .val (.ref x1), .val (.ref x2), .val (.int x3), .val (.int x4), .unset, .unset, .unset, .unset, .unset, .unset]
abbrev own_A14 (x0 : Addr) (x1 : Addr) (x2 : Addr) (x3 : Int32) (x4 : Int32) (x5 : Addr) : Array Slot := #[.val (.ref x0), .val (.ref x1), .val (.ref x2), .val (.int x3), .val (.int x4), .val (.ref x5), .unset, .unset, .unset]
abbrev own_A15 (x0 : Int32) (x1 : Int32) (x2 : Int32) : Array Slot := #[.val (.int x0), .val (.int x1), .val (.int x2), .unset, .unset, .unset, .unset, .unset, .unset, .unset, .unset, .unset]
abbrev own_A16 (x0 : Int32) (x1 : Int32) : Array Slot := #[.val (.int x0), .val (.int x1), .unset, .unset, .unset, .unset, .unset, .unset, .unset, .unset, .unset, .unset]
abbrev own_A17 (x0 : Addr) (x1 : Addr) (x2 : Addr) (x3 : Int32) (x4 : Int32) : Array Slot := #[.val (.ref x0), .val (.ref x1), .val (.ref x2), .val (.int x3), .val (.int x4), .unset, .unset, .unset, .unset]
abbrev own_A18 (x0 : Addr) (x1 : Int32) (x2 : Int32) (x3 : Int32) (x4 : Int32) : Array Slot := #[.val (.ref x0), .val (.int x1), .val (.int x2), .val (.int x3), .val (.int x4)]
abbrev own_A19 (x0 : Addr) (x1 : Addr) (x2 : Addr) (x4 : Int32) : Array Slot := #[.val (.ref x0), .val (.ref x1), .val (.ref x2), .unset, .val (.int x4), .unset, .unset, .unset, .unset]
abbrev own_A20 (x0 : Int32) : Array Slot := #[.val (.int x0), .unset, .unset, .unset, .unset, .unset, .unset, .unset, .unset, .unset, .unset, .unset]
abbrev own_A21 (x0 : Addr) (x1 : Addr) (x2 : Addr) : Array Slot := #[.val (.ref x0), .val (.ref x1), .val (.ref x2), .unset, .unset, .unset, .unset, .unset, .unset]
abbrev own_A22 (x1 : Addr) (x2 : Addr) (x3 : Int32) : Array Slot := #[.val .null, .val (.ref x1), .val (.ref x2), .val (.int x3), .unset, .unset, .unset, .unset]
abbrev own_A23 (x0 : Int32) (x1 : Addr) (x2 : Int32) (x3 : Addr) : Array Slot := #[.val (.int x0), .val (.ref x1), .val (.int x2), .val (.ref x3), .unset, .unset, .unset]
abbrev own_A24 (x0 : Addr) (x1 : Addr) (x2 : Addr) (x3 : Addr) (x4 : Int32) : Array Slot := #[.val (.ref x0), .val (.ref x1), .val (.ref x2), .val (.ref x3), .val (.int x4)]
abbrev own_A25 (x0 : Int32) (x1 : Addr) (x2 : Int32) : Array Slot := #[.val (.int x0), .val (.ref x1), .val (.int x2), .unset, .unset, .unset, .unset]
abbrev own_A26 (x0 : Addr) (x1 : Addr) (x2 : Int32) (x3 : Int32) (x4 : Addr) : Array Slot := #[.val (.ref x0), .val (.ref x1), .val (.int x2), .val (.int x3), .val (.ref x4)]
abbrev own_A27 (x1 : Addr) : Array Slot := #[.val .null, .val (.ref x1), .unset, .unset, .unset, .unset, .unset, .unset]
abbrev own_A28 (x0 : Addr) (x1 : Addr) (x2 : Addr) (x3 : Addr) : Array Slot := #[.val (.ref x0), .val (.ref x1), .val (.ref x2), .val (.ref x3), .unset]
abbrev own_A29 (x0 : Int32) (x1 : Addr) : Array Slot := #[.val (.int x0), .val (.ref x1), .unset, .unset, .unset, .unset, .unset]
abbrev own_A30  : Array Slot := #[.val .null, .unset, .unset, .unset, .unset, .unset, .unset, .unset]
abbrev own_A31 (x0 : Addr) (x1 : Addr) (x2 : Addr) : Array Slot := #[.val (.ref x0), .val (.ref x1), .val (.ref x2), .unset, .unset]
abbrev own_A32 (x0 : Addr) (x1 : Addr) : Array Slot := #[.val (.ref x0), .val (.ref x1), .unset, .unset, .unset]
abbrev own_A33 (x0 : Int32) (x1 : Int32) (x2 : Int32) (x3 : Value) : Array Slot := #[.val (.int x0), .val (.int x1), .val (.int x2), .val x3]
abbrev own_A34 (x0 : Addr) (x1 : Int32) (x2 : Addr) : Array Slot := #[.val (.ref x0), .val (.int x1), .val (.ref x2)]
abbrev own_A35 (x0 : Addr) (x1 : Addr) (x2 : Addr) : Array Slot := #[.val (.ref x0), .val (.ref x1), .val (.ref x2)]
abbrev own_A36 (x0 : Addr) (x1 : Int32) (x2 : Int32) : Array Slot := #[.val (.ref x0), .val (.int x1), .val (.int x2)]
abbrev own_A37 (x0 : Addr) (x1 : Addr) (x2 : Int32) : Array Slot := #[.val (.ref x0), .val (.ref x1), .val (.int x2)]
abbrev own_A38 (x0 : Int32) (x1 : Int32) (x2 : Int32) : Array Slot := #[.val (.int x0), .val (.int x1), .val (.int x2)]
abbrev own_A39 (x0 : Addr) (x1 : Int32) : Array Slot := #[.val (.ref x0), .val (.int x1), .unset]
abbrev own_A40 (x0 : Addr) (x1 : Addr) : Array Slot := #[.val (.ref x0), .val (.ref x1), .unset]
theorem own_pd0 : parseMethodDescriptor "()V" = some ⟨[], none⟩ := by decide +kernel
theorem own_pd1 : parseMethodDescriptor "([BII)I" = some ⟨[(.array .byte), .int, .int], some .int⟩ := by decide +kernel
theorem own_pd2 : parseMethodDescriptor "(B[B)[B" = some ⟨[.byte, (.array .byte)], some (.array .byte)⟩ := by decide +kernel
theorem own_pd3 : parseMethodDescriptor "()B" = some ⟨[], some .byte⟩ := by decide +kernel
theorem own_pd4 : parseMethodDescriptor "(Ljava/nio/charset/Charset;B[B)[B" = some ⟨[(.object "java/nio/charset/Charset"), .byte, (.array .byte)], some (.array .byte)⟩ := by decide +kernel
theorem own_pd5 : parseMethodDescriptor "(Ljava/nio/charset/Charset;)[B" = some ⟨[(.object "java/nio/charset/Charset")], some (.array .byte)⟩ := by decide +kernel
theorem own_pd6 : parseMethodDescriptor "(I)I" = some ⟨[.int], some .int⟩ := by decide +kernel
theorem own_pd7 : parseMethodDescriptor "()Z" = some ⟨[], some .boolean⟩ := by decide +kernel
theorem own_pd8 : parseMethodDescriptor "(Ljava/lang/String;[BLjava/util/Locale;)Ljava/lang/String;" = some ⟨[(.object "java/lang/String"), (.array .byte), (.object "java/util/Locale")], some (.object "java/lang/String")⟩ := by decide +kernel
theorem own_pd9 : parseMethodDescriptor "(Ljava/util/Locale;)Ljava/lang/String;" = some ⟨[(.object "java/util/Locale")], some (.object "java/lang/String")⟩ := by decide +kernel
theorem own_pd10 : parseMethodDescriptor "(Ljava/lang/String;)[B" = some ⟨[(.object "java/lang/String")], some (.array .byte)⟩ := by decide +kernel
theorem own_pd11 : parseMethodDescriptor "()Ljava/util/List;" = some ⟨[], some (.object "java/util/List")⟩ := by decide +kernel
theorem own_pd12 : parseMethodDescriptor "(Ljava/lang/String;)Ljava/util/List;" = some ⟨[(.object "java/lang/String")], some (.object "java/util/List")⟩ := by decide +kernel
theorem own_pd13 : parseMethodDescriptor "()Ljava/lang/String;" = some ⟨[], some (.object "java/lang/String")⟩ := by decide +kernel
theorem own_pd14 : parseMethodDescriptor "(I)Z" = some ⟨[.int], some .boolean⟩ := by decide +kernel
theorem own_pd15 : parseMethodDescriptor "([BB)V" = some ⟨[(.array .byte), .byte], none⟩ := by decide +kernel
theorem own_pd16 : parseMethodDescriptor "(IIILjava/util/function/BiFunction;)I" = some ⟨[.int, .int, .int, (.object "java/util/function/BiFunction")], some .int⟩ := by decide +kernel
theorem own_pd17 : parseMethodDescriptor "(Ljava/lang/Object;)Ljava/lang/Object;" = some ⟨[(.object "java/lang/Object")], some (.object "java/lang/Object")⟩ := by decide +kernel
theorem own_pd18 : parseMethodDescriptor "(III)I" = some ⟨[.int, .int, .int], some .int⟩ := by decide +kernel
theorem own_pd19 : parseMethodDescriptor "(Ljava/nio/charset/Charset;[BII)V" = some ⟨[(.object "java/nio/charset/Charset"), (.array .byte), .int, .int], none⟩ := by decide +kernel
theorem own_pd20 : parseMethodDescriptor "(Ljava/lang/String;)Ljava/lang/String;" = some ⟨[(.object "java/lang/String")], some (.object "java/lang/String")⟩ := by decide +kernel
theorem own_pd21 : parseMethodDescriptor "(Ljava/lang/String;)Ljava/nio/charset/Charset;" = some ⟨[(.object "java/lang/String")], some (.object "java/nio/charset/Charset")⟩ := by decide +kernel
theorem own_pd22 : parseMethodDescriptor "([BIILjava/nio/charset/Charset;)V" = some ⟨[(.array .byte), .int, .int, (.object "java/nio/charset/Charset")], none⟩ := by decide +kernel
theorem own_pd23 : parseMethodDescriptor "(ZZ)V" = some ⟨[.boolean, .boolean], none⟩ := by decide +kernel
section OwnWords
variable {args : Array Value} {first s : State} {o : Option Outcome} {idx : List Nat}
theorem own_eqI {a : Term} {k : Int32} (h : (Cond.eq a (.int k)).value args first o s idx = some true) : a.eval args first o idx s = some (.int k) := by
  simp only [Cond.value, Term.eval] at h
  cases ha : a.eval args first o idx s with
  | none => simp [ha] at h
  | some x => cases x <;> simp [ha] at h ⊢ <;> exact h
theorem own_eqR {a b : Term} {y : Addr} (h : (Cond.eq a b).value args first o s idx = some true) (hb : b.eval args first o idx s = some (.ref y)) : a.eval args first o idx s = some (.ref y) := by
  simp only [Cond.value, hb] at h
  cases ha : a.eval args first o idx s with
  | none => simp [ha] at h
  | some x => cases x <;> simp [ha] at h ⊢ <;> exact h
end OwnWords

theorem own_st255 {c : Int32} (h0 : 0 ≤ c.toInt) (h1 : c.toInt < 256) : (((c.toInt8.toInt32).toInt8.toInt32) &&& (255 : Int32)) = c := by
  have q1 := c_i2b c
  have q2 := c_i2b (c.toInt8.toInt32)
  have q3 := c_mask ((c.toInt8.toInt32).toInt8.toInt32) 255 8 (by decide) (by decide)
  rw [show ((2 ^ 8 : Nat) : Int) = 256 from rfl] at q3
  apply Int32.toInt_inj.mp
  omega
theorem own_v255 (x : Int32) : 0 ≤ (x &&& (255 : Int32)).toInt ∧ (x &&& (255 : Int32)).toInt < 256 := by
  have q3 := c_mask x 255 8 (by decide) (by decide)
  rw [show ((2 ^ 8 : Nat) : Int) = 256 from rfl] at q3
  omega
theorem own_le255 {c : Int32} (h1 : c.toInt < 256) : ¬ (255 : Int32) < c := by
  rw [Int32.lt_iff_toInt_lt]
  have : (255 : Int32).toInt = 255 := by decide
  omega
def own_hx (d : Int32) : Int32 := if d < 10 then 48 + d else 65 + (d - 10)
theorem own_hxI {d : Int32} (h0 : 0 ≤ d.toInt) (h1 : d.toInt < 16) : (own_hx d).toInt = if d.toInt < 10 then 48 + d.toInt else 55 + d.toInt := by
  have e10 : (10 : Int32).toInt = 10 := by decide
  have e48 : (48 : Int32).toInt = 48 := by decide
  have e65 : (65 : Int32).toInt = 65 := by decide
  unfold own_hx
  by_cases h : d < 10
  · rw [if_pos h]
    rw [Int32.lt_iff_toInt_lt, e10] at h
    rw [if_pos h]
    have q := c_iadd 48 d
    have r := rng32 (48 + d)
    omega
  · rw [if_neg h]
    rw [Int32.lt_iff_toInt_lt, e10] at h
    rw [if_neg h]
    have q := c_isub d 10
    have r := rng32 (d - 10)
    have q2 := c_iadd 65 (d - 10)
    have r2 := rng32 (65 + (d - 10))
    omega
theorem own_hxB {d : Int32} (h0 : 0 ≤ d.toInt) (h1 : d.toInt < 16) : 0 ≤ (own_hx d).toInt ∧ (own_hx d).toInt < 256 := by
  rw [own_hxI h0 h1]
  split <;> omega
theorem own_i2cS {c : Int32} (h0 : 0 ≤ c.toInt) (h1 : c.toInt < 65536) : c.toUInt32.toUInt16.toUInt32.toInt32 = c := by
  have q := c_i2c c
  apply Int32.toInt_inj.mp
  omega
theorem own_hi {v : Int32} (h0 : 0 ≤ v.toInt) (h1 : v.toInt < 256) : ((v.toUInt32 >>> ((4 : Int32) &&& 31).toUInt32).toInt32) = v / (16 : Int32) ∧ 0 ≤ (v / (16 : Int32)).toInt ∧ (v / (16 : Int32)).toInt < 16 := by
  have q := c_iushr v 4 4 (by decide) (by decide)
  rw [show ((2 ^ 4 : Nat) : Int) = 16 from rfl] at q
  have q2 := (c_idiv v 16 16 (by decide) (by decide)).1 h0
  refine ⟨?_, by omega, by omega⟩
  apply Int32.toInt_inj.mp
  omega
theorem own_lo {v : Int32} (h0 : 0 ≤ v.toInt) (h1 : v.toInt < 256) : (v &&& (15 : Int32)) = v % (16 : Int32) ∧ 0 ≤ (v % (16 : Int32)).toInt ∧ (v % (16 : Int32)).toInt < 16 := by
  have q := c_mask v 15 4 (by decide) (by decide)
  rw [show ((2 ^ 4 : Nat) : Int) = 16 from rfl] at q
  have q2 := (c_irem v 16 16 (by decide)).1 h0
  refine ⟨?_, by omega, by omega⟩
  apply Int32.toInt_inj.mp
  omega
theorem own_in16 {d : Int32} (h0 : 0 ≤ d.toInt) (h1 : d.toInt < 16) : ¬ d < 0 ∧ d < 16 := by
  have e0 : (0 : Int32).toInt = 0 := by decide
  have e16 : (16 : Int32).toInt = 16 := by decide
  rw [Int32.lt_iff_toInt_lt, Int32.lt_iff_toInt_lt]
  omega
theorem own_rangeMap (vs : List Value) (d : Value) : (List.range vs.length).map (fun i => vs.getD (0 + i) d) = vs := by
  apply List.ext_getElem
  · simp
  · intro i h1 h2
    simp at h1 h2 ⊢
    simp [h2]
theorem own_rangeTake (vs : List Value) (d : Value) (n : Nat) (h : n ≤ vs.length) : (List.range n).map (fun i => vs.getD (0 + i) d) = vs.take n := by
  apply List.ext_getElem
  · simp [h]
  · intro i h1 h2
    simp at h1 h2 ⊢
    have : i < vs.length := by omega
    simp [this]

theorem own_dom1 {D : List Int32} {P : Int32 → Prop} (h : ∀ q ∈ D, P q) {z : Int32} (hz : z ∈ D) : P z := h _ hz
theorem own_dom2 {D : List (Int32 × Int32)} {P : Int32 → Int32 → Prop} (h : ∀ q ∈ D, P q.1 q.2) {n z : Int32} (hz : (n, z) ∈ D) : P n z := h _ hz
theorem own_setEnd {cs : List Value} {n : Nat} {v d : Value} (hl : cs.length = n) : (cs ++ List.replicate 1 d).set n v = cs ++ [v] := by
  subst hl
  simp [List.set_append]
theorem own_cpy (cs : List Value) (k : Nat) (hl : cs.length = k) (d : Value) : ((List.replicate k d).take 0 ++ (List.range k).map (fun i => cs.getD (0 + i) d) ++ (List.replicate k d).drop (0 + k)) = cs := by
  subst hl
  rw [own_rangeMap]
  simp

theorem own_flag (e : Int32) : ∃ f : Int32, (e = 0 → f = 0) ∧ (¬ e = 0 → f = 1) ∧ (f = 0 ∨ f = 1) := by
  by_cases h : e = 0
  · exact ⟨0, fun _ => rfl, fun q => absurd h q, Or.inl rfl⟩
  · exact ⟨1, fun q => absurd q h, fun _ => rfl, Or.inr rfl⟩

section OwnWide
variable {p : Program} {l : Launch} {e : Env} {R : Room} {s : State} {vm0 vm1 : Vm} {m : MethodId} {args : Array Value} {below : List Frame} {meth : Method} {c : Code} {T : State} {locs : List Loc} {cells slots : Nat} {g : JFrame} {Z : State} {EL : List (String × Nat)} {h h0 : Heap} {vm : Vm}
def own_PostW (s : State) (below : List Frame) (Q : Option Value → Heap → List Loc → Prop) (R' : State → Prop) (C S : Nat) : State → Outcome → Prop := fun u o => u.status = .running ∧ Ended u below o ∧ ∃ v L, o = .returned v ∧ Q v u.heap L ∧ R' u ∧ ReturnedEndW s o u L C S
theorem own_leaveW (X : Stand p l e R (s.setVm vm0) m args below meth c T locs cells slots) {n : Nat} (hS : s.Since vm0 n) (hn : n ≤ T.heap.size) {v : Option Value} {Q : Option Value → Heap → List Loc → Prop} {R' : State → Prop} {C S : Nat} (hv : meth.sig.returnType = none → v = none) (hlk : meth.locks = false)
    (hst : ∀ fs, (∀ (f : JFrame) (acts : List Action), f.method = m → f.locked = none → f.entered = [] → (doReturn e (T.setTop f) acts v).1 = T.setFrames fs) → Steps p.tables e below (T.setTop g) (T.setFrames fs))
    (hC : cells ≤ C) (hSl : slots ≤ S) (hR : ∀ fs, R' (T.setFrames fs)) (hQ : Q v T.heap locs) : own_Ends p e below (own_PostW s below Q R' C S) T g := by
  obtain ⟨fs, hr, hrun, hended, h1, h2, h3, h4⟩ := X.leaveW hS hn (v := v) hv hlk
  exact ⟨_, _, hst fs hr, hrun, hended, v, locs, rfl, hQ, hR fs, ⟨_, rfl⟩, h2, h3, h4.mono hC hSl⟩
theorem own_retVW (X : Stand p l e R (s.setVm vm0) m args below meth c T locs cells slots) {n : Nat} (hS : s.Since vm0 n) (hn : n ≤ T.heap.size) (hx : p.tables.exec = Jvm.exec) (hlk : meth.locks = false) {Q : Option Value → Heap → List Loc → Prop} {R' : State → Prop} {C S : Nat} {pc : Nat} {Ls : Array Slot} (hret : meth.sig.returnType = none) (hd : decode c.code pc = .ok (.return_, 1))
    (hC : cells ≤ C) (hSl : slots ≤ S) (hR : ∀ fs, R' (T.setFrames fs)) (hQ : Q none T.heap locs) : own_Ends p e below (own_PostW s below Q R' C S) T (mkF m pc Ls []) :=
  own_leaveW X hS hn (fun _ => rfl) hlk (fun fs hr => X.returnOut hx hret hd hr) hC hSl hR hQ
theorem own_retWW (X : Stand p l e R (s.setVm vm0) m args below meth c T locs cells slots) {n : Nat} (hS : s.Since vm0 n) (hn : n ≤ T.heap.size) (hx : p.tables.exec = Jvm.exec) (hlk : meth.locks = false) {Q : Option Value → Heap → List Loc → Prop} {R' : State → Prop} {C S : Nat} {pc : Nat} {Ls : Array Slot} {w : Value} {t : FieldType} {i : Instr} {rest : List Value} (hret : meth.sig.returnType = some t) (hn' : narrow t w = w)
    (hi : (i = .ireturn ∧ (t = .int ∨ t = .boolean ∨ t = .byte ∨ t = .char ∨ t = .short) ∧ ∃ z, w = .int z) ∨ (i = .lreturn ∧ t = .long ∧ ∃ z, w = .long z) ∨ (i = .dreturn ∧ t = .double ∧ ∃ z, w = .double z) ∨ (i = .freturn ∧ t = .float ∧ ∃ z, w = .float z) ∨ (i = .areturn ∧ t.isReference = true ∧ w.isRef = true))
    (hd : decode c.code pc = .ok (i, 1)) (hC : cells ≤ C) (hSl : slots ≤ S) (hR : ∀ fs, R' (T.setFrames fs)) (hQ : Q (some w) T.heap locs) : own_Ends p e below (own_PostW s below Q R' C S) T (mkF m pc Ls (w :: rest)) :=
  own_leaveW X hS hn (fun h => by rw [hret] at h; cases h) hlk (fun fs hr => retOut X hx hret hn' hi hd hr) hC hSl hR hQ
theorem own_retNW (X : Stand p l e R (s.setVm vm0) m args below meth c T locs cells slots) {n : Nat} (hS : s.Since vm0 n) (hn : n ≤ T.heap.size) (hx : p.tables.exec = Jvm.exec) (hlk : meth.locks = false) {Q : Option Value → Heap → List Loc → Prop} {R' : State → Prop} {C S : Nat} {pc : Nat} {Ls : Array Slot} {z : Int32} {t : FieldType} {rest : List Value} (hret : meth.sig.returnType = some t) (ht : t = .boolean ∨ t = .byte ∨ t = .char ∨ t = .short)
    (hd : decode c.code pc = .ok (.ireturn, 1)) (hC : cells ≤ C) (hSl : slots ≤ S) (hR : ∀ fs, R' (T.setFrames fs)) (hQ : Q (some (.int (nar t z))) T.heap locs) : own_Ends p e below (own_PostW s below Q R' C S) T (mkF m pc Ls (.int z :: rest)) :=
  own_leaveW X hS hn (fun h => by rw [hret] at h; cases h) hlk (fun fs hr => retN X hx hret ht hd hr) hC hSl hR hQ
/-- the stand over the start's own tables, in the wide form -/
theorem own_base (X : Stand p l e R s m args below meth c T locs cells slots) : Stand p l e R (s.setVm s.vm) m args below meth c T locs cells slots := X
theorem own_reZ {n : Nat} (hZ : Z.Warmed39 (s.setVm vm0).vm) (hS : (s.setVm vm0).Since vm1 n) : Z.Warmed39 (s.setVm vm1).vm := State.Warmed39.trans (t := s.setVm vm0) hZ hS.1
theorem own_reown {n : Nat} {C : String} {k : ClassId} (hown : (s.setVm vm0).vm.findClass C = some k) (hS : (s.setVm vm0).Since vm1 n) : (s.setVm vm1).vm.findClass C = some k := by
  rw [show (s.setVm vm1).vm = vm1 from rfl, hS.1.alike.findClass]; exact hown
theorem own_reS {n0 n1 : Nat} (hS0 : s.Since vm0 n0) (hS : (s.setVm vm0).Since vm1 n1) (h : n0 ≤ n1) : s.Since vm1 n1 := hS0.trans hS h
theorem own_since0 (X : Stand p l e R s m args below meth c T locs cells slots) (n : Nat) : s.Since s.vm n := (State.WarmedH.refl s).since n
theorem own_safeNull {x : Addr} (hal : Z.vm.Alike vm) (E : Exa Z h x "java/lang/String") (F : Fld Z h x "java/lang/String" "value" "[B" .null) : Safe Z EL vm h x := fun B => by
  obtain ⟨p, -, u, a, -, q, -, G, rfl | rfl⟩ := B
  · obtain ⟨cS, ⟨⟨s1, s2, s3, ⟨cv, kv, iv, s4, s4'⟩, -, s6, -, s8, -⟩, -⟩, -⟩ := G
    obtain ⟨kv', z4⟩ := ff_back (U := Wst Z vm h) hal s4
    have FF : Fld Z h q.sa "java/lang/String" "value" "[B" (.ref q.sd) := ⟨q.sC, cv, kv', iv, q.fSV, s1, z4, s6, s2, s3, by rw [← hal.assignable]; exact s4', s8⟩
    exact Fld.ne F FF nofun rfl
  · obtain ⟨cell, k, e1, e2, -⟩ := E
    cases (show h[q.sd]? = some q.SA from G.hd).symm.trans e1
    obtain ⟨cS, -, -, f, -⟩ := G
    have f : vm.findClass "[B" = some q.SA.cls := f
    rw [hal.findClass] at f
    obtain ⟨k1, q1, q2⟩ := Vm.findClass_spec f
    obtain ⟨k2, q3, q4⟩ := Vm.findClass_spec e2
    cases q1.symm.trans q3
    exact absurd (q2.symm.trans q4) (by decide)
end OwnWide
theorem own_flat {p : Program} {l : Launch} {e : Env} {R : Room} {s : State} {vm0 vm1 : Vm} {m : MethodId} {args : Array Value} {below : List Frame} {meth : Method} {c : Code} {T : State} {locs : List Loc} {cells slots : Nat} (X : Stand p l e R ((s.setVm vm0).setVm vm1) m args below meth c T locs cells slots) : Stand p l e R (s.setVm vm1) m args below meth c T locs cells slots := X
theorem own_safeNew {Z : State} {EL : List (String × Nat)} {vm vm1 : Vm} {h h' : Heap} {x : Addr} (H : CHr Z EL vm h vm1 h') (hx : h'.size ≤ x) : Safe Z EL vm1 h' x := Safe.new hx
theorem own_wrSz {h h' : Heap} {a : Addr} {sl : Nat} {v : Value} (W : Wr h h' a sl v) : h.size ≤ h'.size := by obtain ⟨c0, -, -, -, rfl⟩ := W; simp

section OwnPriv
variable {p : Program} {l : Launch} {e : Env} {R : Room} {s : State} {m : MethodId} {args : Array Value} {below : List Frame} {meth : Method} {c : Code} {T : State} {locs : List Loc} {cells slots : Nat}
/-- a private method by invokevirtual, no word of selection: its class is no interface -/
theorem own_privBack (X : Stand p l e R s m args below meth c T locs cells slots) (hexec : p.tables.exec = Jvm.exec) {own : String} {index : Nat} {y : MethodName} {bytes : ByteArray} {maxL : Nat} {ret : Option FieldType}
    (hown : s.vm.findClass own = some m.cls) (hlink : (Cond.methodLink own index y).before args s = true) (hinst : (Cond.instanceMethod y).before args s = true) (hnf : NotFace s y)
    (hpriv : s.PrivateAt y) (hcode : (Cond.code y bytes maxL ret).before args s = true) (hy : y.cls ≠ "java/lang/invoke/MethodHandle" ∧ y.cls ≠ "java/lang/invoke/VarHandle")
    {W : Nat} {Pre : Pt → Array Value → Prop} {Post : Pt → Array Value → Option Value → Pt → Prop} (hK : Back l R p e below s args y 3 W Pre Post)
    {g : JFrame} (hg : g.method = m) (hsize : g.locals.size = c.maxLocals) {s₀ : State} (hcome : Steps p.tables e below s₀ (T.setTop g)) {a : Addr} {cell : Cell} (hcell : T.heap[a]? = some cell) (hobj : ∀ q, cell.vm ≠ .statics q)
    {argsL rest : List Value} (hlen : ∀ sig, parseMethodDescriptor y.desc = some sig → argsL.length = sig.parameters.length)
    (hstack : g.stack = argsL.reverse ++ .ref a :: rest) (hW : 2 * g.monitorRoom + (rest.map fun v => v.category).sum ≤ W) (hdg : decode c.code g.pc = .ok (.invokevirtual index, 3))
    (hpre : ∀ vm₁, s.WarmedH vm₁ → Pre ⟨T.setVm vm₁, locs, cells, slots⟩ (.ref a :: argsL).toArray) :
    ∃ (v : Option Value) (vm₁ : Vm) (B : Pt), s.WarmedH vm₁ ∧ Stand p l e R s m args below meth c B.U B.locs B.cells B.slots ∧ Post ⟨T.setVm vm₁, locs, cells, slots⟩ (.ref a :: argsL).toArray v B ∧
      Steps p.tables e below s₀ (B.U.setTop { g with pc := g.pc + 3, stack := v.toList ++ rest }) := by
  obtain ⟨mk, methM, hnamed, hmethM, hstM, habM⟩ := Cond.instanceMethod_spec hinst
  obtain ⟨methM', cM, hmethM', -, -, -, -, -, -, hsigM⟩ := Cond.code_spec hnamed hcode
  cases hmethM.symm.trans hmethM'
  obtain ⟨kP, hkP, hkPi⟩ := hnf mk hnamed
  obtain ⟨vm₁, X₁, hstep₁⟩ := X.invokevirtual hexec hown hlink hnamed hmethM hstM hkP hkPi hy (a := a) (cell := cell) hcell hobj (selectMethod_private hmethM (hpriv mk methM hnamed hmethM)) hmethM habM hkP hkPi (g := g) hg (argsL := argsL) (rest := rest) (hlen _ hsigM) hstack hdg
  obtain ⟨v, B, X', hpost, hsteps⟩ := hK m meth c ⟨T.setVm vm₁, locs, cells, slots⟩ { g with stack := rest } (.invokevirtual index) mk (.ref a :: argsL).toArray X₁ hg hsize hdg hW (X₁.named hnamed) (hpre vm₁ X₁.warmed)
  exact ⟨v, vm₁, B, X₁.warmed, X', hpost, (hcome.trans (hstep₁ _ fun acts => by rw [doInvoke_state]; exact Steps.refl _)).trans hsteps⟩
/-- a constructor with an exception table that may intern and throws nothing -/
theorem own_specialBackSH (X : Stand p l e R s m args below meth c T locs cells slots) (hexec : p.tables.exec = Jvm.exec) {own : String} {index : Nat} {y : MethodName} (hy1 : y.name = "<init>")
    (hown : s.vm.findClass own = some m.cls) (hlink : (Cond.methodLink own index y).before args s = true) (hinst : (Cond.instanceMethod y).before args s = true)
    {bytes : ByteArray} {maxL : Nat} {hs : List (Nat × Nat × Nat × Nat)} (hcode : (Cond.codeWith y bytes maxL none hs).before args s = true)
    (hy : y.cls ≠ "java/lang/invoke/MethodHandle" ∧ y.cls ≠ "java/lang/invoke/VarHandle")
    {W : Nat} {Pre : Pt → Array Value → Prop} {Post : Pt → Array Value → Option Value → Pt → Prop} (hK : BackS l R p e below s args y 3 W Pre Post)
    {g : JFrame} (hg : g.method = m) (hsize : g.locals.size = c.maxLocals) {s₀ : State} (hcome : Steps p.tables e below s₀ (T.setTop g)) {a : Addr} {argsL rest : List Value}
    (hlen : ∀ sig, parseMethodDescriptor y.desc = some sig → argsL.length = sig.parameters.length) (hstack : g.stack = argsL.reverse ++ .ref a :: rest) (hW : 2 * g.monitorRoom + (rest.map fun v => v.category).sum ≤ W)
    (hdg : decode c.code g.pc = .ok (.invokespecial index, 3)) (hpre : ∀ vm₁, s.WarmedH vm₁ → Pre ⟨T.setVm vm₁, locs, cells, slots⟩ (.ref a :: argsL).toArray) :
    ∃ (v : Option Value) (vm₁ : Vm) (B : Pt), s.WarmedH vm₁ ∧ Stand p l e R (s.setVm B.U.vm) m args below meth c B.U B.locs B.cells B.slots ∧ s.Since B.U.vm B.U.heap.size ∧ T.heap.size ≤ B.U.heap.size ∧ Post ⟨T.setVm vm₁, locs, cells, slots⟩ (.ref a :: argsL).toArray v B ∧
      Steps p.tables e below s₀ (B.U.setTop { g with pc := g.pc + 3, stack := v.toList ++ rest }) := by
  have hpl : e.platform.magicAccessors = ({} : Platform).magicAccessors := by rw [X.admits.platform]
  obtain ⟨mk, methM, cM, kP, vm₁, hnamed, hmethM, -, -, -, -, hkP, -, hW₁, hstep₁⟩ :=
    Steps.initColdArgsH (e := e) X.here hexec X.warmed hpl hown hy1 hy hlink hinst hcode (f := g) hg hlen hstack hdg
  have X₁ := X.noted hW₁
  obtain ⟨v, B, X', hS, hgr, hpost, hsteps⟩ := hK m meth c ⟨T.setVm vm₁, locs, cells, slots⟩ { g with stack := rest } (.invokespecial index) mk (.ref a :: argsL).toArray X₁ hg hsize hdg hW (X₁.named hnamed) (hpre vm₁ hW₁)
  exact ⟨v, vm₁, B, hW₁, X', hS, hgr, hpost, (hcome.trans (hstep₁ _ fun acts => by rw [doInvoke_state]; exact Steps.refl _)).trans hsteps⟩
end OwnPriv

section OwnWith
variable {p : Program} {l : Launch} {e : Env} {R : Room} {s : State} {sargs : Array Value} {below : List Frame} {Z : State} {a0 : Array Value} {EL : List (String × Nat)} {h : Heap} {vm0 : Vm}
/-- a callee with an exception table that may intern and throws nothing, in backOfSH's shape (turned from the library's BackS.of_freeW to the word codeWith) -/
theorem own_backSHW {y : MethodName} {bytes : ByteArray} {maxL : Nat} {ret : Option FieldType} {hs : List (Nat × Nat × Nat × Nat)} {rm : Room} {len W : Nat} {as' : Array Value} {Q : Option Value → Heap → List Loc → Prop}
    (hM : MetFree l y (head1 [Cond.codeWith y bytes maxL ret hs] rm) (fun a U => a = as' ∧ Z.Warmed39 U.vm ∧ U.heap = h ∧ CHv Z EL U.vm h) (fun _ _ _ _ _ => True) (fun _ U o U' => ∃ v L, o = .returned v ∧ Q v U'.heap L ∧ CHr Z EL U.vm U.heap U'.vm U'.heap ∧ ReturnedEndW U o U' L rm.cells rm.slots))
    (hZ : Z.Warmed39 vm0) (wc : (Cond.codeWith y bytes maxL ret hs).before a0 Z = true) (wz : (Cond.initialized y.cls).before a0 Z = true) (hf : rm.frames + 1 ≤ R.frames) (hl : W + (maxL + 11) + rm.locals ≤ R.locals) (hEL : EW Z a0 EL) (H : CHv Z EL vm0 h) :
    BackS l R p e below (s.setVm vm0) sargs y len W (fun A a => a = as' ∧ A.U.heap = h ∧ A.cells + rm.cells ≤ R.cells ∧ A.slots + rm.slots ≤ R.slots)
      (fun A _ v B => ∃ L, Q v B.U.heap L ∧ B.locs = A.locs ++ L ∧ B.cells = A.cells + rm.cells ∧ B.slots = A.slots + rm.slots ∧ CHr Z EL vm0 h B.U.vm B.U.heap) := by
  intro m meth c A g ig mk a X hg hsize hdg hW hn hp
  obtain ⟨U, Ls, c0, s0⟩ := A
  obtain ⟨rfl, hh, h4, h5⟩ := hp
  dsimp only [Pt.U, Pt.locs, Pt.cells, Pt.slots] at h4 h5 X hn hh ⊢
  have hU : Z.Warmed39 U.vm := wtrans (s := s.setVm vm0) hZ X.warmed
  have wcU : (Cond.codeWith y bytes maxL ret hs).before a U = true := mv hU wc
  obtain ⟨mY', methY, cY, hnY', hmY, hcY, -, hlY, -, -, -, -⟩ := Cond.codeWith_spec wcU
  cases hn.symm.trans hnY'
  obtain ⟨kY, hkY, -⟩ := className_of_methodNamed hn
  have wzU : (Cond.initialized y.cls).before a U = true := mv hU wz
  have hinitY : kY.init = .initialized := Cond.initialized_spec (findClass_of_methodNamed hn) hkY wzU
  have hA : At U g.method c below := by rw [hg]; exact X.here
  have happ : (head1 [Cond.codeWith y bytes maxL ret hs] rm).appliesLoose y e.platform (U.calling g mk a) = true :=
    Spec.appliesLoose_calling (g := g) hA hdg hn hkY hinitY (X.room_calling (g := g) (R' := rm) hsize hmY hcY hf (by rw [hlY]; omega) h4 h5) (by show (Cond.and _ .tt).before a U = true; rw [Cond.before_and, wcU]; rfl)
  obtain ⟨mid, hmid⟩ := hA.above
  have hfr : (U.setTop g).frames = (.java g :: mid) ++ below := by rw [State.frames_setTop' g hA.top, hmid]; rfl
  obtain ⟨o, s₂, hsteps, -, hend, hq⟩ := Steps.callFree hM p X.admits X.cas X.clock (acts := []) hfr happ ⟨rfl, hU, hh, (CHv.at X hZ hEL H).1⟩ trivial
  have hq' : ∃ v L, o = .returned v ∧ Q v s₂.heap L ∧ CHr Z EL (U.calling g mk a).vm (U.calling g mk a).heap s₂.vm s₂.heap ∧ ReturnedEndW (U.calling g mk a) o s₂ L rm.cells rm.slots := hq
  obtain ⟨v, L, rfl, hQ, hC, hfe⟩ := hq'
  rw [State.frames_setTop' g hA.top] at hend
  obtain ⟨-, hW₂, hB₂, e2, q2, q3, q4, q5, q6⟩ := id hfe
  have e3 : s₂ = ({ (U.calling g mk a).setFrames s₂.frames with heap := s₂.heap, slotsUsed := s₂.slotsUsed } : State).setVm s₂.vm := by
    have : s₂ = ({ s₂ with vm := (U.calling g mk a).vm } : State).setVm s₂.vm := rfl
    rw [e2] at this
    exact this
  obtain ⟨c₂, i₂, len₂, hc₂, hd₂, hf₂⟩ := hend
  have hW' : U.Warmed39 s₂.vm := hW₂
  have hcc : c₂ = c := by
    have h1 : s₂.code? g.method = U.code? g.method := by
      rw [State.code?_eq, State.code?_eq, hW'.alike.method?]
    exact Option.some.inj (hc₂.symm.trans (h1.trans hA.code))
  subst hcc
  have hlen : len₂ = len := by rw [hdg] at hd₂; cases hd₂; rfl
  subst hlen
  obtain ⟨g₀, hg0⟩ := Option.isSome_iff_exists.mp hA.top
  obtain ⟨r, hr⟩ := State.topJava?_eq_some.mp hg0
  have hs₂ : s₂ = (({ U with heap := s₂.heap, slotsUsed := s₂.slotsUsed } : State).setVm s₂.vm).setTop { g with pc := g.pc + len₂, stack := v.toList ++ g.stack } := by
    have hr' : (({ U with heap := s₂.heap, slotsUsed := s₂.slotsUsed } : State).setVm s₂.vm).frames = .java g₀ :: r := hr
    refine e3.trans ?_
    rw [hf₂, State.calling_eq hA.top, State.setFrames_setFrames, State.setTop_of_frames _ hr', hr]
    rfl
  have hsame : U.sameButNew ({ U with heap := s₂.heap, slotsUsed := s₂.slotsUsed } : State) L rm.cells rm.slots := by
    refine ⟨?_, q2, q3, q4, q5, q6⟩
    obtain ⟨t, ht, -⟩ := State.frames_cons hr
    show ({ U with heap := s₂.heap, slotsUsed := s₂.slotsUsed } : State) = { U.setFrames U.frames with heap := s₂.heap, slotsUsed := s₂.slotsUsed }
    rw [State.setFrames_self ht]
  subst hg
  obtain ⟨X', hS⟩ := X.movedW (T₂ := (({ U with heap := s₂.heap, slotsUsed := s₂.slotsUsed } : State).setVm s₂.vm)) ((X.here.setHeapUsed s₂.heap s₂.slotsUsed).setVm hW'.alike) X.tail rfl rfl hW' hB₂ hsame
  refine ⟨v, ⟨(({ U with heap := s₂.heap, slotsUsed := s₂.slotsUsed } : State).setVm s₂.vm), Ls ++ L, c0 + rm.cells, s0 + rm.slots⟩, X', hS, hsame.2.1, ⟨L, hQ, rfl, rfl, rfl, (CHv.at X hZ hEL H).trans ?_⟩, ?_⟩
  · have hC' : CHr Z EL U.vm U.heap s₂.vm s₂.heap := hC
    rw [hh] at hC'
    exact hC'
  · show Steps p.tables e below _ ((({ U with heap := s₂.heap, slotsUsed := s₂.slotsUsed } : State).setVm s₂.vm).setTop { g with pc := g.pc + len₂, stack := v.toList ++ g.stack })
    rw [← hs₂]
    exact hsteps
end OwnWith

abbrev own_DC : List (Int32 × Int32) := [(45, 45), (67, 99), (84, 116), (99, 99), (101, 101), (110, 110), (111, 111), (112, 112), (116, 116), (121, 121)]
abbrev own_EL : List (String × Nat) := [("com/example/brassrig/brassrig/engine/ResponseReader", 152), ("com/example/brassrig/brassrig/engine/ResponseReaderBeginPinLaw", 21), ("java/lang/String", 7), ("java/lang/StringLatin1", 168), ("java/lang/StringLatin1", 170), ("java/lang/StringLatin1", 172)]
theorem own_hEL {Z : State} {a0 : Array Value} (hw : ∀ d ∈ tables_1, d.before a0 Z = true) : EW Z a0 own_EL := EW.cons (hw _ (own_w 171 rfl)) (by decide +kernel) (EW.cons (hw _ (own_w 64 rfl)) (by decide +kernel) (EW.cons (hw _ (own_w 229 rfl)) (by decide +kernel) (EW.cons (hw _ (own_w 188 rfl)) (by decide +kernel) (EW.cons (hw _ (own_w 189 rfl)) (by decide +kernel) (EW.cons (hw _ (own_w 190 rfl)) (by decide +kernel) (EW.nil))))))
theorem ep11m1_d0 : decode prog_11_method_1_code 0 = .ok (.aload_n 0, 1) := by decide +kernel
theorem ep11m1_d1 : decode prog_11_method_1_code 1 = .ok (.invokespecial 1, 3) := by decide +kernel
theorem ep11m1_d4 : decode prog_11_method_1_code 4 = .ok (.aload_n 0, 1) := by decide +kernel
theorem ep11m1_d5 : decode prog_11_method_1_code 5 = .ok (.getstatic 7, 3) := by decide +kernel
theorem ep11m1_d8 : decode prog_11_method_1_code 8 = .ok (.putfield 13, 3) := by decide +kernel
theorem ep11m1_d11 : decode prog_11_method_1_code 11 = .ok (.aload_n 0, 1) := by decide +kernel
theorem ep11m1_d12 : decode prog_11_method_1_code 12 = .ok (.sipush 1024, 3) := by decide +kernel
theorem ep11m1_d15 : decode prog_11_method_1_code 15 = .ok (.newarray .byte, 2) := by decide +kernel
theorem ep11m1_d17 : decode prog_11_method_1_code 17 = .ok (.putfield 18, 3) := by decide +kernel
theorem ep11m1_d20 : decode prog_11_method_1_code 20 = .ok (.aload_n 0, 1) := by decide +kernel
theorem ep11m1_d21 : decode prog_11_method_1_code 21 = .ok (.bipush 64, 2) := by decide +kernel
theorem ep11m1_d23 : decode prog_11_method_1_code 23 = .ok (.newarray .int, 2) := by decide +kernel
theorem ep11m1_d25 : decode prog_11_method_1_code 25 = .ok (.putfield 22, 3) := by decide +kernel
theorem ep11m1_d28 : decode prog_11_method_1_code 28 = .ok (.aload_n 0, 1) := by decide +kernel
theorem ep11m1_d29 : decode prog_11_method_1_code 29 = .ok (.bipush 64, 2) := by decide +kernel
theorem ep11m1_d31 : decode prog_11_method_1_code 31 = .ok (.newarray .byte, 2) := by decide +kernel
theorem ep11m1_d33 : decode prog_11_method_1_code 33 = .ok (.putfield 26, 3) := by decide +kernel
theorem ep11m1_d36 : decode prog_11_method_1_code 36 = .ok (.aload_n 0, 1) := by decide +kernel
theorem ep11m1_d37 : decode prog_11_method_1_code 37 = .ok (.iconst 0, 1) := by decide +kernel
theorem ep11m1_d38 : decode prog_11_method_1_code 38 = .ok (.newarray .byte, 2) := by decide +kernel
theorem ep11m1_d40 : decode prog_11_method_1_code 40 = .ok (.putfield 29, 3) := by decide +kernel
theorem ep11m1_d43 : decode prog_11_method_1_code 43 = .ok (.return_, 1) := by decide +kernel
theorem own_init_pn : plainFor (⟨"com/example/brassrig/brassrig/engine/ResponseReader", "<init>", "()V"⟩ : MethodName) = true := by first | exact plainFor_of_name (by first | (simp [plainName, overriddenIn]; done) | decide +kernel) | decide +kernel | exact Jvm.Free.JP.mathPlain rfl (by decide +kernel)
theorem own_init_ef (m : MethodId) (x0 : Addr) : entryFrame m #[(.ref x0)] 1 = mkF m 0 #[.val (.ref x0)] [] := by first | (simp [entryFrame, mkF, argsToLocals, Value.category]; done) | rfl
def own_init_Q (Z : State) (a1 : Addr) (wDONE : Addr) (wHEAD : Addr) (wUNTIL_CLOSE : Addr) (h0 : Heap) (n0 : Nat) (v : Option Value) (h : Heap) (L : List Loc) : Prop := ∃ ha bb kh kb, v = none ∧ Fr n0 L ∧ Keep h0 h [a1] ∧ h0.size ≤ ha ∧ h0.size ≤ bb ∧ Fld Z h a1 "com/example/brassrig/brassrig/engine/ResponseReader" "state" "Lcom/example/brassrig/brassrig/engine/ResponseReader$State;" (.ref wDONE) ∧ Fld Z h a1 "com/example/brassrig/brassrig/engine/ResponseReader" "head" "[B" (.ref ha) ∧ Fld Z h a1 "com/example/brassrig/brassrig/engine/ResponseReader" "body" "[B" (.ref bb) ∧ Fld Z h a1 "com/example/brassrig/brassrig/engine/ResponseReader" "bodiless" "Z" (.int 0) ∧ Fld Z h a1 "com/example/brassrig/brassrig/engine/ResponseReader" "keepBody" "Z" (.int 0) ∧ Fld Z h a1 "com/example/brassrig/brassrig/engine/ResponseReader" "started" "Z" (.int 0) ∧ Fld Z h a1 "com/example/brassrig/brassrig/engine/ResponseReader" "bodyLength" "I" (.int 0) ∧ Fld Z h a1 "com/example/brassrig/brassrig/engine/ResponseReader" "headLength" "I" (.int 0) ∧ Fld Z h a1 "com/example/brassrig/brassrig/engine/ResponseReader" "scanned" "I" (.int 0) ∧ Fld Z h a1 "com/example/brassrig/brassrig/engine/ResponseReader" "lineStart" "I" (.int 0) ∧ Fld Z h a1 "com/example/brassrig/brassrig/engine/ResponseReader" "fieldCount" "I" (.int 0) ∧ Arv Z h ha kh .byte (1024 : Int32) ([] : List Value) (.int 0) ∧ Arv Z h bb kb .byte (0 : Int32) ([] : List Value) (.int 0)
set_option maxRecDepth 65536 in
set_option maxHeartbeats 40000000 in
theorem own_init (l : Launch) (Z : State) (a0 : Array Value) (hw : ∀ d ∈ tables_1, d.before a0 Z = true) (ws : List Jvm.Cond) (a1 : Addr) (wDONE : Addr) (wHEAD : Addr) (wUNTIL_CLOSE : Addr) (h0 : Heap) (n0 : Nat) (O : Old Z n0 h0) (E_a1 : Exa Z h0 a1 "com/example/brassrig/brassrig/engine/ResponseReader") (F_state_a1 : Fld Z h0 a1 "com/example/brassrig/brassrig/engine/ResponseReader" "state" "Lcom/example/brassrig/brassrig/engine/ResponseReader$State;" .null) (F_head_a1 : Fld Z h0 a1 "com/example/brassrig/brassrig/engine/ResponseReader" "head" "[B" .null) (F_fields_a1 : Fld Z h0 a1 "com/example/brassrig/brassrig/engine/ResponseReader" "fields" "[I" .null) (F_line_a1 : Fld Z h0 a1 "com/example/brassrig/brassrig/engine/ResponseReader" "line" "[B" .null) (F_body_a1 : Fld Z h0 a1 "com/example/brassrig/brassrig/engine/ResponseReader" "body" "[B" .null) (F_bodiless_a1 : Fld Z h0 a1 "com/example/brassrig/brassrig/engine/ResponseReader" "bodiless" "Z" (.int 0)) (F_keepBody_a1 : Fld Z h0 a1 "com/example/brassrig/brassrig/engine/ResponseReader" "keepBody" "Z" (.int 0)) (F_started_a1 : Fld Z h0 a1 "com/example/brassrig/brassrig/engine/ResponseReader" "started" "Z" (.int 0)) (F_bodyLength_a1 : Fld Z h0 a1 "com/example/brassrig/brassrig/engine/ResponseReader" "bodyLength" "I" (.int 0)) (F_headLength_a1 : Fld Z h0 a1 "com/example/brassrig/brassrig/engine/ResponseReader" "headLength" "I" (.int 0)) (F_scanned_a1 : Fld Z h0 a1 "com/example/brassrig/brassrig/engine/ResponseReader" "scanned" "I" (.int 0)) (F_lineStart_a1 : Fld Z h0 a1 "com/example/brassrig/brassrig/engine/ResponseReader" "lineStart" "I" (.int 0)) (F_fieldCount_a1 : Fld Z h0 a1 "com/example/brassrig/brassrig/engine/ResponseReader" "fieldCount" "I" (.int 0)) (g_a1 : n0 ≤ a1) (S_DONE : Sta Z Z.heap "com/example/brassrig/brassrig/engine/ResponseReader$State" "DONE" "Lcom/example/brassrig/brassrig/engine/ResponseReader$State;" (.ref wDONE)) (S_HEAD : Sta Z Z.heap "com/example/brassrig/brassrig/engine/ResponseReader$State" "HEAD" "Lcom/example/brassrig/brassrig/engine/ResponseReader$State;" (.ref wHEAD)) (S_UNTIL_CLOSE : Sta Z Z.heap "com/example/brassrig/brassrig/engine/ResponseReader$State" "UNTIL_CLOSE" "Lcom/example/brassrig/brassrig/engine/ResponseReader$State;" (.ref wUNTIL_CLOSE)) :
    MetFree l (⟨"com/example/brassrig/brassrig/engine/ResponseReader", "<init>", "()V"⟩ : MethodName) (head1 (Jvm.Cond.code (⟨"com/example/brassrig/brassrig/engine/ResponseReader", "<init>", "()V"⟩ : MethodName) prog_11_method_1_code 1 none :: ws) ({ frames := 1, cells := 4, slots := 1152, locals := 12 } : Room)) (fun a U => a = #[(.ref a1)] ∧ Z.Warmed39 U.vm ∧ U.heap = h0) (fun _ _ _ _ _ => True) (fun _ U o U' => ∃ v L, o = .returned v ∧ own_init_Q Z a1 wDONE wHEAD wUNTIL_CLOSE h0 n0 v U'.heap L ∧ FrameEnd U o U' L ({ frames := 1, cells := 4, slots := 1152, locals := 12 } : Room).cells ({ frames := 1, cells := 4, slots := 1152, locals := 12 } : Room).slots) := by
  refine MetFree.of_bodySF own_init_pn hisR ?_
  intro p e s m args below meth c s₁ Bd hml0 hP hK
  obtain ⟨rfl, hZ, hh⟩ := hP
  have hx := Bd.exec
  have hby := Bd.bytes
  have hlk := Bd.notSynchronized
  have hml : c.maxLocals = 1 := hml0
  have hown : s.vm.findClass "com/example/brassrig/brassrig/engine/ResponseReader" = some m.cls := findClass_of_methodNamed Bd.named
  have hnm := (name_of_methodNamed Bd.named Bd.method).1
  have X : Stand p l e ({ frames := 1, cells := 4, slots := 1152, locals := 12 } : Room) s m #[(.ref a1)] below meth c s₁ [] 0 0 := Stand.of_body Bd
  have eT : s₁.heap = h0 := by rw [← hh, Bd.state]; rfl
  have N := Fr.nil n0
  have K0 := Keep.refl h0 [a1]
  show own_Ends p e below (own_Post s below (own_init_Q Z a1 wDONE wHEAD wUNTIL_CLOSE h0 n0) ({ frames := 1, cells := 4, slots := 1152, locals := 12 } : Room).cells ({ frames := 1, cells := 4, slots := 1152, locals := 12 } : Room).slots) s₁ (entryFrame m #[(.ref a1)] 1)
  rw [own_init_ef m a1]
  obtain ⟨T, hT⟩ : ∃ z, z = s₁ := ⟨_, rfl⟩
  rw [← hT] at X eT ⊢
  obtain ⟨h, hh0⟩ : ∃ z, z = h0 := ⟨_, rfl⟩
  rw [← hh0] at eT
  replace O : Old Z n0 h := by rw [hh0]; exact O
  replace K0 : Keep h0 h [a1] := by rw [hh0]; exact K0
  rw [← hh0] at E_a1
  rw [← hh0] at F_state_a1
  rw [← hh0] at F_head_a1
  rw [← hh0] at F_fields_a1
  rw [← hh0] at F_line_a1
  rw [← hh0] at F_body_a1
  rw [← hh0] at F_bodiless_a1
  rw [← hh0] at F_keepBody_a1
  rw [← hh0] at F_started_a1
  rw [← hh0] at F_bodyLength_a1
  rw [← hh0] at F_headLength_a1
  rw [← hh0] at F_scanned_a1
  rw [← hh0] at F_lineStart_a1
  rw [← hh0] at F_fieldCount_a1
  refine own_via (g' := (mkF m 1 #[.val (.ref a1)] [(.ref a1)])) (fun t_ k_ => XS.aloadN X.here hx rfl (hb hby ep11m1_d0) rfl rfl k_) ?_
  obtain ⟨T, X, eT, st⟩ := initO X hx hZ hown (hw _ (own_w 6 rfl)) (hw _ (own_w 7 rfl)) (hw _ (own_w 8 rfl)) eT (g := (mkF m 1 #[.val (.ref a1)] [(.ref a1)])) rfl (by rw [hml]; rfl) rfl (hb hby ep11m1_d1) (by decide) (W := 0) (by show 2 * 0 + _ ≤ _; exact Nat.le_of_eq rfl) (by decide)
  refine own_via (g' := (mkF m 4 #[.val (.ref a1)] [])) st ?_
  refine own_via (g' := (mkF m 5 #[.val (.ref a1)] [(.ref a1)])) (fun t_ k_ => XS.aloadN X.here hx rfl (hb hby ep11m1_d4) rfl rfl k_) ?_
  obtain ⟨T, X, eT, st⟩ := getS2 X hx hZ hown (host := "") (Or.inl (hw _ (own_w 9 rfl))) Via.refl eT (S_DONE.ext O.2) (g := (mkF m 5 #[.val (.ref a1)] [(.ref a1)])) rfl (hb hby ep11m1_d5)
  refine own_via (g' := (mkF m 8 #[.val (.ref a1)] [(.ref wDONE), (.ref a1)])) st ?_
  obtain ⟨T, h1, X, eT, W, st⟩ := putF X hx hZ hown (host := "") (Or.inl (hw _ (own_w 12 rfl))) Via.refl eT F_state_a1 E_a1 (Or.inl (hw _ (own_w 13 rfl))) (hw _ (own_w 1 rfl)) (ty := (.object "com/example/brassrig/brassrig/engine/ResponseReader$State")) (by decide) rfl rfl (g := (mkF m 8 #[.val (.ref a1)] [(.ref wDONE), (.ref a1)])) rfl rfl (hb hby ep11m1_d8)
  replace F_state_a1 := F_state_a1.same W
  replace E_a1 := E_a1.wr W
  replace F_head_a1 := F_head_a1.other W (Or.inr (slot_ne (Or.inl (hw _ (own_w 16 rfl))) (Or.inl (hw _ (own_w 13 rfl))) (by decide) (t := (.array .byte)) (t' := (.object "com/example/brassrig/brassrig/engine/ResponseReader$State")) (by decide) (by decide)))
  replace F_fields_a1 := F_fields_a1.other W (Or.inr (slot_ne (Or.inl (hw _ (own_w 19 rfl))) (Or.inl (hw _ (own_w 13 rfl))) (by decide) (t := (.array .int)) (t' := (.object "com/example/brassrig/brassrig/engine/ResponseReader$State")) (by decide) (by decide)))
  replace F_line_a1 := F_line_a1.other W (Or.inr (slot_ne (Or.inl (hw _ (own_w 21 rfl))) (Or.inl (hw _ (own_w 13 rfl))) (by decide) (t := (.array .byte)) (t' := (.object "com/example/brassrig/brassrig/engine/ResponseReader$State")) (by decide) (by decide)))
  replace F_body_a1 := F_body_a1.other W (Or.inr (slot_ne (Or.inl (hw _ (own_w 23 rfl))) (Or.inl (hw _ (own_w 13 rfl))) (by decide) (t := (.array .byte)) (t' := (.object "com/example/brassrig/brassrig/engine/ResponseReader$State")) (by decide) (by decide)))
  replace F_bodiless_a1 := F_bodiless_a1.other W (Or.inr (slot_ne (Or.inl (hw _ (own_w 30 rfl))) (Or.inl (hw _ (own_w 13 rfl))) (by decide) (t := .boolean) (t' := (.object "com/example/brassrig/brassrig/engine/ResponseReader$State")) (by decide) (by decide)))
  replace F_keepBody_a1 := F_keepBody_a1.other W (Or.inr (slot_ne (Or.inl (hw _ (own_w 32 rfl))) (Or.inl (hw _ (own_w 13 rfl))) (by decide) (t := .boolean) (t' := (.object "com/example/brassrig/brassrig/engine/ResponseReader$State")) (by decide) (by decide)))
  replace F_started_a1 := F_started_a1.other W (Or.inr (slot_ne (Or.inl (hw _ (own_w 34 rfl))) (Or.inl (hw _ (own_w 13 rfl))) (by decide) (t := .boolean) (t' := (.object "com/example/brassrig/brassrig/engine/ResponseReader$State")) (by decide) (by decide)))
  replace F_bodyLength_a1 := F_bodyLength_a1.other W (Or.inr (slot_ne (Or.inl (hw _ (own_w 36 rfl))) (Or.inl (hw _ (own_w 13 rfl))) (by decide) (t := .int) (t' := (.object "com/example/brassrig/brassrig/engine/ResponseReader$State")) (by decide) (by decide)))
  replace F_headLength_a1 := F_headLength_a1.other W (Or.inr (slot_ne (Or.inl (hw _ (own_w 45 rfl))) (Or.inl (hw _ (own_w 13 rfl))) (by decide) (t := .int) (t' := (.object "com/example/brassrig/brassrig/engine/ResponseReader$State")) (by decide) (by decide)))
  replace F_scanned_a1 := F_scanned_a1.other W (Or.inr (slot_ne (Or.inl (hw _ (own_w 47 rfl))) (Or.inl (hw _ (own_w 13 rfl))) (by decide) (t := .int) (t' := (.object "com/example/brassrig/brassrig/engine/ResponseReader$State")) (by decide) (by decide)))
  replace F_lineStart_a1 := F_lineStart_a1.other W (Or.inr (slot_ne (Or.inl (hw _ (own_w 49 rfl))) (Or.inl (hw _ (own_w 13 rfl))) (by decide) (t := .int) (t' := (.object "com/example/brassrig/brassrig/engine/ResponseReader$State")) (by decide) (by decide)))
  replace F_fieldCount_a1 := F_fieldCount_a1.other W (Or.inr (slot_ne (Or.inl (hw _ (own_w 51 rfl))) (Or.inl (hw _ (own_w 13 rfl))) (by decide) (t := .int) (t' := (.object "com/example/brassrig/brassrig/engine/ResponseReader$State")) (by decide) (by decide)))
  replace O := O.wr W g_a1
  replace K0 := K0.wr W (Or.inl (List.mem_of_getElem? (i := 0) rfl))
  replace N := Fr.snoc X N g_a1
  refine own_via (g' := (mkF m 11 #[.val (.ref a1)] [])) st ?_
  refine own_via (g' := (mkF m 15 #[.val (.ref a1)] [(.int 1024), (.ref a1)])) (fun t_ k_ => XS.aloadN X.here hx rfl (hb hby ep11m1_d11) rfl rfl (XS.sipush X.here hx rfl (hb hby ep11m1_d12) k_)) ?_
  obtain ⟨b2, gb⟩ : ∃ z, z = h1.size := ⟨_, rfl⟩
  obtain ⟨T, h3, kb2, X, eT, E, A_, E_b2, st⟩ := newPE X hx hZ (hw _ (own_w 14 rfl)) eT (g := (mkF m 15 #[.val (.ref a1)] [(.int 1024), (.ref a1)])) rfl (hb hby ep11m1_d15) rfl (by decide) (cap := 1024) (by decide) (by decide) (by decide) (by decide) (ad := "[B") (by decide)
  rw [← gb] at A_ E_b2 st
  have ne_a1_b2 : a1 ≠ b2 := Nat.ne_of_lt (Nat.lt_of_lt_of_le E_a1.lt (Nat.le_of_eq gb.symm))
  have g_b2 : n0 ≤ b2 := Nat.le_trans (own_le O) (Nat.le_of_eq gb.symm)
  have sz_b2 : h0.size ≤ b2 := Nat.le_trans K0.1 (Nat.le_of_eq gb.symm)
  replace E_a1 := E_a1.ext E
  replace F_state_a1 := F_state_a1.ext E
  replace F_head_a1 := F_head_a1.ext E
  replace F_fields_a1 := F_fields_a1.ext E
  replace F_line_a1 := F_line_a1.ext E
  replace F_body_a1 := F_body_a1.ext E
  replace F_bodiless_a1 := F_bodiless_a1.ext E
  replace F_keepBody_a1 := F_keepBody_a1.ext E
  replace F_started_a1 := F_started_a1.ext E
  replace F_bodyLength_a1 := F_bodyLength_a1.ext E
  replace F_headLength_a1 := F_headLength_a1.ext E
  replace F_scanned_a1 := F_scanned_a1.ext E
  replace F_lineStart_a1 := F_lineStart_a1.ext E
  replace F_fieldCount_a1 := F_fieldCount_a1.ext E
  replace O := O.ext E
  replace K0 := K0.ext E
  have V_b2 : Arv Z h3 b2 kb2 .byte (1024 : Int32) ([] : List Value) (.int 0) := Arv.new A_ (by decide)
  refine own_via (g' := (mkF m 17 #[.val (.ref a1)] [(.ref b2), (.ref a1)])) st ?_
  obtain ⟨T, h4, X, eT, W, st⟩ := putF X hx hZ hown (host := "") (Or.inl (hw _ (own_w 15 rfl))) Via.refl eT F_head_a1 E_a1 (Or.inl (hw _ (own_w 16 rfl))) (hw _ (own_w 1 rfl)) (ty := (.array .byte)) (by decide) rfl rfl (g := (mkF m 17 #[.val (.ref a1)] [(.ref b2), (.ref a1)])) rfl rfl (hb hby ep11m1_d17)
  replace F_head_a1 := F_head_a1.same W
  replace E_a1 := E_a1.wr W
  replace F_state_a1 := F_state_a1.other W (Or.inr (slot_ne (Or.inl (hw _ (own_w 13 rfl))) (Or.inl (hw _ (own_w 16 rfl))) (by decide) (t := (.object "com/example/brassrig/brassrig/engine/ResponseReader$State")) (t' := (.array .byte)) (by decide) (by decide)))
  replace F_fields_a1 := F_fields_a1.other W (Or.inr (slot_ne (Or.inl (hw _ (own_w 19 rfl))) (Or.inl (hw _ (own_w 16 rfl))) (by decide) (t := (.array .int)) (t' := (.array .byte)) (by decide) (by decide)))
  replace F_line_a1 := F_line_a1.other W (Or.inr (slot_ne (Or.inl (hw _ (own_w 21 rfl))) (Or.inl (hw _ (own_w 16 rfl))) (by decide) (t := (.array .byte)) (t' := (.array .byte)) (by decide) (by decide)))
  replace F_body_a1 := F_body_a1.other W (Or.inr (slot_ne (Or.inl (hw _ (own_w 23 rfl))) (Or.inl (hw _ (own_w 16 rfl))) (by decide) (t := (.array .byte)) (t' := (.array .byte)) (by decide) (by decide)))
  replace F_bodiless_a1 := F_bodiless_a1.other W (Or.inr (slot_ne (Or.inl (hw _ (own_w 30 rfl))) (Or.inl (hw _ (own_w 16 rfl))) (by decide) (t := .boolean) (t' := (.array .byte)) (by decide) (by decide)))
  replace F_keepBody_a1 := F_keepBody_a1.other W (Or.inr (slot_ne (Or.inl (hw _ (own_w 32 rfl))) (Or.inl (hw _ (own_w 16 rfl))) (by decide) (t := .boolean) (t' := (.array .byte)) (by decide) (by decide)))
  replace F_started_a1 := F_started_a1.other W (Or.inr (slot_ne (Or.inl (hw _ (own_w 34 rfl))) (Or.inl (hw _ (own_w 16 rfl))) (by decide) (t := .boolean) (t' := (.array .byte)) (by decide) (by decide)))
  replace F_bodyLength_a1 := F_bodyLength_a1.other W (Or.inr (slot_ne (Or.inl (hw _ (own_w 36 rfl))) (Or.inl (hw _ (own_w 16 rfl))) (by decide) (t := .int) (t' := (.array .byte)) (by decide) (by decide)))
  replace F_headLength_a1 := F_headLength_a1.other W (Or.inr (slot_ne (Or.inl (hw _ (own_w 45 rfl))) (Or.inl (hw _ (own_w 16 rfl))) (by decide) (t := .int) (t' := (.array .byte)) (by decide) (by decide)))
  replace F_scanned_a1 := F_scanned_a1.other W (Or.inr (slot_ne (Or.inl (hw _ (own_w 47 rfl))) (Or.inl (hw _ (own_w 16 rfl))) (by decide) (t := .int) (t' := (.array .byte)) (by decide) (by decide)))
  replace F_lineStart_a1 := F_lineStart_a1.other W (Or.inr (slot_ne (Or.inl (hw _ (own_w 49 rfl))) (Or.inl (hw _ (own_w 16 rfl))) (by decide) (t := .int) (t' := (.array .byte)) (by decide) (by decide)))
  replace F_fieldCount_a1 := F_fieldCount_a1.other W (Or.inr (slot_ne (Or.inl (hw _ (own_w 51 rfl))) (Or.inl (hw _ (own_w 16 rfl))) (by decide) (t := .int) (t' := (.array .byte)) (by decide) (by decide)))
  replace E_b2 := E_b2.wr W
  replace V_b2 := V_b2.other W (Ne.symm ne_a1_b2)
  replace O := O.wr W g_a1
  replace K0 := K0.wr W (Or.inl (List.mem_of_getElem? (i := 0) rfl))
  replace N := Fr.snoc X N g_a1
  refine own_via (g' := (mkF m 20 #[.val (.ref a1)] [])) st ?_
  refine own_via (g' := (mkF m 23 #[.val (.ref a1)] [(.int 64), (.ref a1)])) (fun t_ k_ => XS.aloadN X.here hx rfl (hb hby ep11m1_d20) rfl rfl (XS.bipush X.here hx rfl (hb hby ep11m1_d21) k_)) ?_
  obtain ⟨b5, gb⟩ : ∃ z, z = h4.size := ⟨_, rfl⟩
  obtain ⟨T, h6, kb5, X, eT, E, A_, E_b5, st⟩ := newPE X hx hZ (hw _ (own_w 17 rfl)) eT (g := (mkF m 23 #[.val (.ref a1)] [(.int 64), (.ref a1)])) rfl (hb hby ep11m1_d23) rfl (by decide) (cap := 64) (by decide) (by decide) (by decide) (by decide) (ad := "[I") (by decide)
  rw [← gb] at A_ E_b5 st
  have ne_a1_b5 : a1 ≠ b5 := Nat.ne_of_lt (Nat.lt_of_lt_of_le E_a1.lt (Nat.le_of_eq gb.symm))
  have ne_b2_b5 : b2 ≠ b5 := Nat.ne_of_lt (Nat.lt_of_lt_of_le E_b2.lt (Nat.le_of_eq gb.symm))
  have g_b5 : n0 ≤ b5 := Nat.le_trans (own_le O) (Nat.le_of_eq gb.symm)
  have sz_b5 : h0.size ≤ b5 := Nat.le_trans K0.1 (Nat.le_of_eq gb.symm)
  replace E_a1 := E_a1.ext E
  replace F_state_a1 := F_state_a1.ext E
  replace F_head_a1 := F_head_a1.ext E
  replace F_fields_a1 := F_fields_a1.ext E
  replace F_line_a1 := F_line_a1.ext E
  replace F_body_a1 := F_body_a1.ext E
  replace F_bodiless_a1 := F_bodiless_a1.ext E
  replace F_keepBody_a1 := F_keepBody_a1.ext E
  replace F_started_a1 := F_started_a1.ext E
  replace F_bodyLength_a1 := F_bodyLength_a1.ext E
  replace F_headLength_a1 := F_headLength_a1.ext E
  replace F_scanned_a1 := F_scanned_a1.ext E
  replace F_lineStart_a1 := F_lineStart_a1.ext E
  replace F_fieldCount_a1 := F_fieldCount_a1.ext E
  replace E_b2 := E_b2.ext E
  replace V_b2 := V_b2.ext E
  replace O := O.ext E
  replace K0 := K0.ext E
  have V_b5 : Arv Z h6 b5 kb5 .int (64 : Int32) ([] : List Value) (.int 0) := Arv.new A_ (by decide)
  refine own_via (g' := (mkF m 25 #[.val (.ref a1)] [(.ref b5), (.ref a1)])) st ?_
  obtain ⟨T, h7, X, eT, W, st⟩ := putF X hx hZ hown (host := "") (Or.inl (hw _ (own_w 18 rfl))) Via.refl eT F_fields_a1 E_a1 (Or.inl (hw _ (own_w 19 rfl))) (hw _ (own_w 1 rfl)) (ty := (.array .int)) (by decide) rfl rfl (g := (mkF m 25 #[.val (.ref a1)] [(.ref b5), (.ref a1)])) rfl rfl (hb hby ep11m1_d25)
  replace F_fields_a1 := F_fields_a1.same W
  replace E_a1 := E_a1.wr W
  replace F_state_a1 := F_state_a1.other W (Or.inr (slot_ne (Or.inl (hw _ (own_w 13 rfl))) (Or.inl (hw _ (own_w 19 rfl))) (by decide) (t := (.object "com/example/brassrig/brassrig/engine/ResponseReader$State")) (t' := (.array .int)) (by decide) (by decide)))
  replace F_head_a1 := F_head_a1.other W (Or.inr (slot_ne (Or.inl (hw _ (own_w 16 rfl))) (Or.inl (hw _ (own_w 19 rfl))) (by decide) (t := (.array .byte)) (t' := (.array .int)) (by decide) (by decide)))
  replace F_line_a1 := F_line_a1.other W (Or.inr (slot_ne (Or.inl (hw _ (own_w 21 rfl))) (Or.inl (hw _ (own_w 19 rfl))) (by decide) (t := (.array .byte)) (t' := (.array .int)) (by decide) (by decide)))
  replace F_body_a1 := F_body_a1.other W (Or.inr (slot_ne (Or.inl (hw _ (own_w 23 rfl))) (Or.inl (hw _ (own_w 19 rfl))) (by decide) (t := (.array .byte)) (t' := (.array .int)) (by decide) (by decide)))
  replace F_bodiless_a1 := F_bodiless_a1.other W (Or.inr (slot_ne (Or.inl (hw _ (own_w 30 rfl))) (Or.inl (hw _ (own_w 19 rfl))) (by decide) (t := .boolean) (t' := (.array .int)) (by decide) (by decide)))
  replace F_keepBody_a1 := F_keepBody_a1.other W (Or.inr (slot_ne (Or.inl (hw _ (own_w 32 rfl))) (Or.inl (hw _ (own_w 19 rfl))) (by decide) (t := .boolean) (t' := (.array .int)) (by decide) (by decide)))
  replace F_started_a1 := F_started_a1.other W (Or.inr (slot_ne (Or.inl (hw _ (own_w 34 rfl))) (Or.inl (hw _ (own_w 19 rfl))) (by decide) (t := .boolean) (t' := (.array .int)) (by decide) (by decide)))
  replace F_bodyLength_a1 := F_bodyLength_a1.other W (Or.inr (slot_ne (Or.inl (hw _ (own_w 36 rfl))) (Or.inl (hw _ (own_w 19 rfl))) (by decide) (t := .int) (t' := (.array .int)) (by decide) (by decide)))
  replace F_headLength_a1 := F_headLength_a1.other W (Or.inr (slot_ne (Or.inl (hw _ (own_w 45 rfl))) (Or.inl (hw _ (own_w 19 rfl))) (by decide) (t := .int) (t' := (.array .int)) (by decide) (by decide)))
  replace F_scanned_a1 := F_scanned_a1.other W (Or.inr (slot_ne (Or.inl (hw _ (own_w 47 rfl))) (Or.inl (hw _ (own_w 19 rfl))) (by decide) (t := .int) (t' := (.array .int)) (by decide) (by decide)))
  replace F_lineStart_a1 := F_lineStart_a1.other W (Or.inr (slot_ne (Or.inl (hw _ (own_w 49 rfl))) (Or.inl (hw _ (own_w 19 rfl))) (by decide) (t := .int) (t' := (.array .int)) (by decide) (by decide)))
  replace F_fieldCount_a1 := F_fieldCount_a1.other W (Or.inr (slot_ne (Or.inl (hw _ (own_w 51 rfl))) (Or.inl (hw _ (own_w 19 rfl))) (by decide) (t := .int) (t' := (.array .int)) (by decide) (by decide)))
  replace E_b2 := E_b2.wr W
  replace V_b2 := V_b2.other W (Ne.symm ne_a1_b2)
  replace E_b5 := E_b5.wr W
  replace V_b5 := V_b5.other W (Ne.symm ne_a1_b5)
  replace O := O.wr W g_a1
  replace K0 := K0.wr W (Or.inl (List.mem_of_getElem? (i := 0) rfl))
  replace N := Fr.snoc X N g_a1
  refine own_via (g' := (mkF m 28 #[.val (.ref a1)] [])) st ?_
  refine own_via (g' := (mkF m 31 #[.val (.ref a1)] [(.int 64), (.ref a1)])) (fun t_ k_ => XS.aloadN X.here hx rfl (hb hby ep11m1_d28) rfl rfl (XS.bipush X.here hx rfl (hb hby ep11m1_d29) k_)) ?_
  obtain ⟨b8, gb⟩ : ∃ z, z = h7.size := ⟨_, rfl⟩
  obtain ⟨T, h9, kb8, X, eT, E, A_, E_b8, st⟩ := newPE X hx hZ (hw _ (own_w 14 rfl)) eT (g := (mkF m 31 #[.val (.ref a1)] [(.int 64), (.ref a1)])) rfl (hb hby ep11m1_d31) rfl (by decide) (cap := 64) (by decide) (by decide) (by decide) (by decide) (ad := "[B") (by decide)
  rw [← gb] at A_ E_b8 st
  have ne_a1_b8 : a1 ≠ b8 := Nat.ne_of_lt (Nat.lt_of_lt_of_le E_a1.lt (Nat.le_of_eq gb.symm))
  have ne_b2_b8 : b2 ≠ b8 := Nat.ne_of_lt (Nat.lt_of_lt_of_le E_b2.lt (Nat.le_of_eq gb.symm))
  have ne_b5_b8 : b5 ≠ b8 := Nat.ne_of_lt (Nat.lt_of_lt_of_le E_b5.lt (Nat.le_of_eq gb.symm))
  have g_b8 : n0 ≤ b8 := Nat.le_trans (own_le O) (Nat.le_of_eq gb.symm)
  have sz_b8 : h0.size ≤ b8 := Nat.le_trans K0.1 (Nat.le_of_eq gb.symm)
  replace E_a1 := E_a1.ext E
  replace F_state_a1 := F_state_a1.ext E
  replace F_head_a1 := F_head_a1.ext E
  replace F_fields_a1 := F_fields_a1.ext E
  replace F_line_a1 := F_line_a1.ext E
  replace F_body_a1 := F_body_a1.ext E
  replace F_bodiless_a1 := F_bodiless_a1.ext E
  replace F_keepBody_a1 := F_keepBody_a1.ext E
  replace F_started_a1 := F_started_a1.ext E
  replace F_bodyLength_a1 := F_bodyLength_a1.ext E
  replace F_headLength_a1 := F_headLength_a1.ext E
  replace F_scanned_a1 := F_scanned_a1.ext E
  replace F_lineStart_a1 := F_lineStart_a1.ext E
  replace F_fieldCount_a1 := F_fieldCount_a1.ext E
  replace E_b2 := E_b2.ext E
  replace V_b2 := V_b2.ext E
  replace E_b5 := E_b5.ext E
  replace V_b5 := V_b5.ext E
  replace O := O.ext E
  replace K0 := K0.ext E
  have V_b8 : Arv Z h9 b8 kb8 .byte (64 : Int32) ([] : List Value) (.int 0) := Arv.new A_ (by decide)
  refine own_via (g' := (mkF m 33 #[.val (.ref a1)] [(.ref b8), (.ref a1)])) st ?_
  obtain ⟨T, h10, X, eT, W, st⟩ := putF X hx hZ hown (host := "") (Or.inl (hw _ (own_w 20 rfl))) Via.refl eT F_line_a1 E_a1 (Or.inl (hw _ (own_w 21 rfl))) (hw _ (own_w 1 rfl)) (ty := (.array .byte)) (by decide) rfl rfl (g := (mkF m 33 #[.val (.ref a1)] [(.ref b8), (.ref a1)])) rfl rfl (hb hby ep11m1_d33)
  replace F_line_a1 := F_line_a1.same W
  replace E_a1 := E_a1.wr W
  replace F_state_a1 := F_state_a1.other W (Or.inr (slot_ne (Or.inl (hw _ (own_w 13 rfl))) (Or.inl (hw _ (own_w 21 rfl))) (by decide) (t := (.object "com/example/brassrig/brassrig/engine/ResponseReader$State")) (t' := (.array .byte)) (by decide) (by decide)))
  replace F_head_a1 := F_head_a1.other W (Or.inr (slot_ne (Or.inl (hw _ (own_w 16 rfl))) (Or.inl (hw _ (own_w 21 rfl))) (by decide) (t := (.array .byte)) (t' := (.array .byte)) (by decide) (by decide)))
  replace F_fields_a1 := F_fields_a1.other W (Or.inr (slot_ne (Or.inl (hw _ (own_w 19 rfl))) (Or.inl (hw _ (own_w 21 rfl))) (by decide) (t := (.array .int)) (t' := (.array .byte)) (by decide) (by decide)))
  replace F_body_a1 := F_body_a1.other W (Or.inr (slot_ne (Or.inl (hw _ (own_w 23 rfl))) (Or.inl (hw _ (own_w 21 rfl))) (by decide) (t := (.array .byte)) (t' := (.array .byte)) (by decide) (by decide)))
  replace F_bodiless_a1 := F_bodiless_a1.other W (Or.inr (slot_ne (Or.inl (hw _ (own_w 30 rfl))) (Or.inl (hw _ (own_w 21 rfl))) (by decide) (t := .boolean) (t' := (.array .byte)) (by decide) (by decide)))
  replace F_keepBody_a1 := F_keepBody_a1.other W (Or.inr (slot_ne (Or.inl (hw _ (own_w 32 rfl))) (Or.inl (hw _ (own_w 21 rfl))) (by decide) (t := .boolean) (t' := (.array .byte)) (by decide) (by decide)))
  replace F_started_a1 := F_started_a1.other W (Or.inr (slot_ne (Or.inl (hw _ (own_w 34 rfl))) (Or.inl (hw _ (own_w 21 rfl))) (by decide) (t := .boolean) (t' := (.array .byte)) (by decide) (by decide)))
  replace F_bodyLength_a1 := F_bodyLength_a1.other W (Or.inr (slot_ne (Or.inl (hw _ (own_w 36 rfl))) (Or.inl (hw _ (own_w 21 rfl))) (by decide) (t := .int) (t' := (.array .byte)) (by decide) (by decide)))
  replace F_headLength_a1 := F_headLength_a1.other W (Or.inr (slot_ne (Or.inl (hw _ (own_w 45 rfl))) (Or.inl (hw _ (own_w 21 rfl))) (by decide) (t := .int) (t' := (.array .byte)) (by decide) (by decide)))
  replace F_scanned_a1 := F_scanned_a1.other W (Or.inr (slot_ne (Or.inl (hw _ (own_w 47 rfl))) (Or.inl (hw _ (own_w 21 rfl))) (by decide) (t := .int) (t' := (.array .byte)) (by decide) (by decide)))
  replace F_lineStart_a1 := F_lineStart_a1.other W (Or.inr (slot_ne (Or.inl (hw _ (own_w 49 rfl))) (Or.inl (hw _ (own_w 21 rfl))) (by decide) (t := .int) (t' := (.array .byte)) (by decide) (by decide)))
  replace F_fieldCount_a1 := F_fieldCount_a1.other W (Or.inr (slot_ne (Or.inl (hw _ (own_w 51 rfl))) (Or.inl (hw _ (own_w 21 rfl))) (by decide) (t := .int) (t' := (.array .byte)) (by decide) (by decide)))
  replace E_b2 := E_b2.wr W
  replace V_b2 := V_b2.other W (Ne.symm ne_a1_b2)
  replace E_b5 := E_b5.wr W
  replace V_b5 := V_b5.other W (Ne.symm ne_a1_b5)
  replace E_b8 := E_b8.wr W
  replace V_b8 := V_b8.other W (Ne.symm ne_a1_b8)
  replace O := O.wr W g_a1
  replace K0 := K0.wr W (Or.inl (List.mem_of_getElem? (i := 0) rfl))
  replace N := Fr.snoc X N g_a1
  refine own_via (g' := (mkF m 36 #[.val (.ref a1)] [])) st ?_
  refine own_via (g' := (mkF m 38 #[.val (.ref a1)] [(.int 0), (.ref a1)])) (fun t_ k_ => XS.aloadN X.here hx rfl (hb hby ep11m1_d36) rfl rfl (XS.iconst X.here hx rfl (hb hby ep11m1_d37) k_)) ?_
  obtain ⟨b11, gb⟩ : ∃ z, z = h10.size := ⟨_, rfl⟩
  obtain ⟨T, h12, kb11, X, eT, E, A_, E_b11, st⟩ := newPE X hx hZ (hw _ (own_w 14 rfl)) eT (g := (mkF m 38 #[.val (.ref a1)] [(.int 0), (.ref a1)])) rfl (hb hby ep11m1_d38) rfl (by decide) (cap := 0) (by decide) (by decide) (by decide) (by decide) (ad := "[B") (by decide)
  rw [← gb] at A_ E_b11 st
  have ne_a1_b11 : a1 ≠ b11 := Nat.ne_of_lt (Nat.lt_of_lt_of_le E_a1.lt (Nat.le_of_eq gb.symm))
  have ne_b2_b11 : b2 ≠ b11 := Nat.ne_of_lt (Nat.lt_of_lt_of_le E_b2.lt (Nat.le_of_eq gb.symm))
  have ne_b5_b11 : b5 ≠ b11 := Nat.ne_of_lt (Nat.lt_of_lt_of_le E_b5.lt (Nat.le_of_eq gb.symm))
  have ne_b8_b11 : b8 ≠ b11 := Nat.ne_of_lt (Nat.lt_of_lt_of_le E_b8.lt (Nat.le_of_eq gb.symm))
  have g_b11 : n0 ≤ b11 := Nat.le_trans (own_le O) (Nat.le_of_eq gb.symm)
  have sz_b11 : h0.size ≤ b11 := Nat.le_trans K0.1 (Nat.le_of_eq gb.symm)
  replace E_a1 := E_a1.ext E
  replace F_state_a1 := F_state_a1.ext E
  replace F_head_a1 := F_head_a1.ext E
  replace F_fields_a1 := F_fields_a1.ext E
  replace F_line_a1 := F_line_a1.ext E
  replace F_body_a1 := F_body_a1.ext E
  replace F_bodiless_a1 := F_bodiless_a1.ext E
  replace F_keepBody_a1 := F_keepBody_a1.ext E
  replace F_started_a1 := F_started_a1.ext E
  replace F_bodyLength_a1 := F_bodyLength_a1.ext E
  replace F_headLength_a1 := F_headLength_a1.ext E
  replace F_scanned_a1 := F_scanned_a1.ext E
  replace F_lineStart_a1 := F_lineStart_a1.ext E
  replace F_fieldCount_a1 := F_fieldCount_a1.ext E
  replace E_b2 := E_b2.ext E
  replace V_b2 := V_b2.ext E
  replace E_b5 := E_b5.ext E
  replace V_b5 := V_b5.ext E
  replace E_b8 := E_b8.ext E
  replace V_b8 := V_b8.ext E
  replace O := O.ext E
  replace K0 := K0.ext E
  have V_b11 : Arv Z h12 b11 kb11 .byte (0 : Int32) [] (.int 0) := (Arv.new A_ (by decide)).pad (pad_rep [] (.int 0) 0)
  refine own_via (g' := (mkF m 40 #[.val (.ref a1)] [(.ref b11), (.ref a1)])) st ?_
  obtain ⟨T, h13, X, eT, W, st⟩ := putF X hx hZ hown (host := "") (Or.inl (hw _ (own_w 22 rfl))) Via.refl eT F_body_a1 E_a1 (Or.inl (hw _ (own_w 23 rfl))) (hw _ (own_w 1 rfl)) (ty := (.array .byte)) (by decide) rfl rfl (g := (mkF m 40 #[.val (.ref a1)] [(.ref b11), (.ref a1)])) rfl rfl (hb hby ep11m1_d40)
  replace F_body_a1 := F_body_a1.same W
  replace E_a1 := E_a1.wr W
  replace F_state_a1 := F_state_a1.other W (Or.inr (slot_ne (Or.inl (hw _ (own_w 13 rfl))) (Or.inl (hw _ (own_w 23 rfl))) (by decide) (t := (.object "com/example/brassrig/brassrig/engine/ResponseReader$State")) (t' := (.array .byte)) (by decide) (by decide)))
  replace F_head_a1 := F_head_a1.other W (Or.inr (slot_ne (Or.inl (hw _ (own_w 16 rfl))) (Or.inl (hw _ (own_w 23 rfl))) (by decide) (t := (.array .byte)) (t' := (.array .byte)) (by decide) (by decide)))
  replace F_fields_a1 := F_fields_a1.other W (Or.inr (slot_ne (Or.inl (hw _ (own_w 19 rfl))) (Or.inl (hw _ (own_w 23 rfl))) (by decide) (t := (.array .int)) (t' := (.array .byte)) (by decide) (by decide)))
  replace F_line_a1 := F_line_a1.other W (Or.inr (slot_ne (Or.inl (hw _ (own_w 21 rfl))) (Or.inl (hw _ (own_w 23 rfl))) (by decide) (t := (.array .byte)) (t' := (.array .byte)) (by decide) (by decide)))
  replace F_bodiless_a1 := F_bodiless_a1.other W (Or.inr (slot_ne (Or.inl (hw _ (own_w 30 rfl))) (Or.inl (hw _ (own_w 23 rfl))) (by decide) (t := .boolean) (t' := (.array .byte)) (by decide) (by decide)))
  replace F_keepBody_a1 := F_keepBody_a1.other W (Or.inr (slot_ne (Or.inl (hw _ (own_w 32 rfl))) (Or.inl (hw _ (own_w 23 rfl))) (by decide) (t := .boolean) (t' := (.array .byte)) (by decide) (by decide)))
  replace F_started_a1 := F_started_a1.other W (Or.inr (slot_ne (Or.inl (hw _ (own_w 34 rfl))) (Or.inl (hw _ (own_w 23 rfl))) (by decide) (t := .boolean) (t' := (.array .byte)) (by decide) (by decide)))
  replace F_bodyLength_a1 := F_bodyLength_a1.other W (Or.inr (slot_ne (Or.inl (hw _ (own_w 36 rfl))) (Or.inl (hw _ (own_w 23 rfl))) (by decide) (t := .int) (t' := (.array .byte)) (by decide) (by decide)))
  replace F_headLength_a1 := F_headLength_a1.other W (Or.inr (slot_ne (Or.inl (hw _ (own_w 45 rfl))) (Or.inl (hw _ (own_w 23 rfl))) (by decide) (t := .int) (t' := (.array .byte)) (by decide) (by decide)))
  replace F_scanned_a1 := F_scanned_a1.other W (Or.inr (slot_ne (Or.inl (hw _ (own_w 47 rfl))) (Or.inl (hw _ (own_w 23 rfl))) (by decide) (t := .int) (t' := (.array .byte)) (by decide) (by decide)))
  replace F_lineStart_a1 := F_lineStart_a1.other W (Or.inr (slot_ne (Or.inl (hw _ (own_w 49 rfl))) (Or.inl (hw _ (own_w 23 rfl))) (by decide) (t := .int) (t' := (.array .byte)) (by decide) (by decide)))
  replace F_fieldCount_a1 := F_fieldCount_a1.other W (Or.inr (slot_ne (Or.inl (hw _ (own_w 51 rfl))) (Or.inl (hw _ (own_w 23 rfl))) (by decide) (t := .int) (t' := (.array .byte)) (by decide) (by decide)))
  replace E_b2 := E_b2.wr W
  replace V_b2 := V_b2.other W (Ne.symm ne_a1_b2)
  replace E_b5 := E_b5.wr W
  replace V_b5 := V_b5.other W (Ne.symm ne_a1_b5)
  replace E_b8 := E_b8.wr W
  replace V_b8 := V_b8.other W (Ne.symm ne_a1_b8)
  replace E_b11 := E_b11.wr W
  replace V_b11 := V_b11.other W (Ne.symm ne_a1_b11)
  replace O := O.wr W g_a1
  replace K0 := K0.wr W (Or.inl (List.mem_of_getElem? (i := 0) rfl))
  replace N := Fr.snoc X N g_a1
  refine own_via (g' := (mkF m 43 #[.val (.ref a1)] [])) st ?_
  refine own_retV X hx hlk Bd.returns (hb hby ep11m1_d43) (by decide) (by decide) ?_
  rw [eT]
  exact ⟨b2, b11, _, _, rfl, N, K0, sz_b2, sz_b11, F_state_a1, F_head_a1, F_body_a1, F_bodiless_a1, F_keepBody_a1, F_started_a1, F_bodyLength_a1, F_headLength_a1, F_scanned_a1, F_lineStart_a1, F_fieldCount_a1, V_b2, V_b11⟩
theorem ep11m3_d0 : decode prog_11_method_3_code 0 = .ok (.aload_n 0, 1) := by decide +kernel
theorem ep11m3_d1 : decode prog_11_method_3_code 1 = .ok (.getstatic 50, 3) := by decide +kernel
theorem ep11m3_d4 : decode prog_11_method_3_code 4 = .ok (.putfield 13, 3) := by decide +kernel
theorem ep11m3_d7 : decode prog_11_method_3_code 7 = .ok (.aload_n 0, 1) := by decide +kernel
theorem ep11m3_d8 : decode prog_11_method_3_code 8 = .ok (.iconst 0, 1) := by decide +kernel
theorem ep11m3_d9 : decode prog_11_method_3_code 9 = .ok (.putfield 53, 3) := by decide +kernel
theorem ep11m3_d12 : decode prog_11_method_3_code 12 = .ok (.aload_n 0, 1) := by decide +kernel
theorem ep11m3_d13 : decode prog_11_method_3_code 13 = .ok (.iconst 0, 1) := by decide +kernel
theorem ep11m3_d14 : decode prog_11_method_3_code 14 = .ok (.putfield 56, 3) := by decide +kernel
theorem ep11m3_d17 : decode prog_11_method_3_code 17 = .ok (.aload_n 0, 1) := by decide +kernel
theorem ep11m3_d18 : decode prog_11_method_3_code 18 = .ok (.iconst 0, 1) := by decide +kernel
theorem ep11m3_d19 : decode prog_11_method_3_code 19 = .ok (.putfield 59, 3) := by decide +kernel
theorem ep11m3_d22 : decode prog_11_method_3_code 22 = .ok (.aload_n 0, 1) := by decide +kernel
theorem ep11m3_d23 : decode prog_11_method_3_code 23 = .ok (.iconst 0, 1) := by decide +kernel
theorem ep11m3_d24 : decode prog_11_method_3_code 24 = .ok (.putfield 62, 3) := by decide +kernel
theorem ep11m3_d27 : decode prog_11_method_3_code 27 = .ok (.return_, 1) := by decide +kernel
theorem own_startHead_pn : plainFor (⟨"com/example/brassrig/brassrig/engine/ResponseReader", "startHead", "()V"⟩ : MethodName) = true := by first | exact plainFor_of_name (by first | (simp [plainName, overriddenIn]; done) | decide +kernel) | decide +kernel | exact Jvm.Free.JP.mathPlain rfl (by decide +kernel)
theorem own_startHead_ef (m : MethodId) (x0 : Addr) : entryFrame m #[(.ref x0)] 1 = mkF m 0 #[.val (.ref x0)] [] := by first | (simp [entryFrame, mkF, argsToLocals, Value.category]; done) | rfl
def own_startHead_Q (Z : State) (a1 : Addr) (ws_ : Addr) (ha : Addr) (bb : Addr) (o_bodiless : Int32) (o_keepBody : Int32) (o_started : Int32) (o_bodyLength : Int32) (o_headLength : Int32) (o_scanned : Int32) (o_lineStart : Int32) (o_fieldCount : Int32) (wDONE : Addr) (wHEAD : Addr) (wUNTIL_CLOSE : Addr) (h0 : Heap) (n0 : Nat) (v : Option Value) (h : Heap) (L : List Loc) : Prop := v = none ∧ Fr n0 L ∧ Keep h0 h [a1] ∧ Fld Z h a1 "com/example/brassrig/brassrig/engine/ResponseReader" "state" "Lcom/example/brassrig/brassrig/engine/ResponseReader$State;" (.ref wHEAD) ∧ Fld Z h a1 "com/example/brassrig/brassrig/engine/ResponseReader" "head" "[B" (.ref ha) ∧ Fld Z h a1 "com/example/brassrig/brassrig/engine/ResponseReader" "body" "[B" (.ref bb) ∧ Fld Z h a1 "com/example/brassrig/brassrig/engine/ResponseReader" "headLength" "I" (.int 0) ∧ Fld Z h a1 "com/example/brassrig/brassrig/engine/ResponseReader" "scanned" "I" (.int 0) ∧ Fld Z h a1 "com/example/brassrig/brassrig/engine/ResponseReader" "lineStart" "I" (.int 0) ∧ Fld Z h a1 "com/example/brassrig/brassrig/engine/ResponseReader" "fieldCount" "I" (.int 0) ∧ Fld Z h a1 "com/example/brassrig/brassrig/engine/ResponseReader" "bodiless" "Z" (.int o_bodiless) ∧ Fld Z h a1 "com/example/brassrig/brassrig/engine/ResponseReader" "keepBody" "Z" (.int o_keepBody) ∧ Fld Z h a1 "com/example/brassrig/brassrig/engine/ResponseReader" "started" "Z" (.int o_started) ∧ Fld Z h a1 "com/example/brassrig/brassrig/engine/ResponseReader" "bodyLength" "I" (.int o_bodyLength)
set_option maxRecDepth 65536 in
set_option maxHeartbeats 40000000 in
theorem own_startHead (l : Launch) (Z : State) (a0 : Array Value) (hw : ∀ d ∈ tables_1, d.before a0 Z = true) (ws : List Jvm.Cond) (a1 : Addr) (ws_ : Addr) (ha : Addr) (bb : Addr) (o_bodiless : Int32) (o_keepBody : Int32) (o_started : Int32) (o_bodyLength : Int32) (o_headLength : Int32) (o_scanned : Int32) (o_lineStart : Int32) (o_fieldCount : Int32) (wDONE : Addr) (wHEAD : Addr) (wUNTIL_CLOSE : Addr) (h0 : Heap) (n0 : Nat) (O : Old Z n0 h0) (E_a1 : Exa Z h0 a1 "com/example/brassrig/brassrig/engine/ResponseReader") (F_state_a1 : Fld Z h0 a1 "com/example/brassrig/brassrig/engine/ResponseReader" "state" "Lcom/example/brassrig/brassrig/engine/ResponseReader$State;" (.ref ws_)) (F_head_a1 : Fld Z h0 a1 "com/example/brassrig/brassrig/engine/ResponseReader" "head" "[B" (.ref ha)) (F_body_a1 : Fld Z h0 a1 "com/example/brassrig/brassrig/engine/ResponseReader" "body" "[B" (.ref bb)) (F_bodiless_a1 : Fld Z h0 a1 "com/example/brassrig/brassrig/engine/ResponseReader" "bodiless" "Z" (.int o_bodiless)) (F_keepBody_a1 : Fld Z h0 a1 "com/example/brassrig/brassrig/engine/ResponseReader" "keepBody" "Z" (.int o_keepBody)) (F_started_a1 : Fld Z h0 a1 "com/example/brassrig/brassrig/engine/ResponseReader" "started" "Z" (.int o_started)) (F_bodyLength_a1 : Fld Z h0 a1 "com/example/brassrig/brassrig/engine/ResponseReader" "bodyLength" "I" (.int o_bodyLength)) (F_headLength_a1 : Fld Z h0 a1 "com/example/brassrig/brassrig/engine/ResponseReader" "headLength" "I" (.int o_headLength)) (F_scanned_a1 : Fld Z h0 a1 "com/example/brassrig/brassrig/engine/ResponseReader" "scanned" "I" (.int o_scanned)) (F_lineStart_a1 : Fld Z h0 a1 "com/example/brassrig/brassrig/engine/ResponseReader" "lineStart" "I" (.int o_lineStart)) (F_fieldCount_a1 : Fld Z h0 a1 "com/example/brassrig/brassrig/engine/ResponseReader" "fieldCount" "I" (.int o_fieldCount)) (g_a1 : n0 ≤ a1) (S_DONE : Sta Z Z.heap "com/example/brassrig/brassrig/engine/ResponseReader$State" "DONE" "Lcom/example/brassrig/brassrig/engine/ResponseReader$State;" (.ref wDONE)) (S_HEAD : Sta Z Z.heap "com/example/brassrig/brassrig/engine/ResponseReader$State" "HEAD" "Lcom/example/brassrig/brassrig/engine/ResponseReader$State;" (.ref wHEAD)) (S_UNTIL_CLOSE : Sta Z Z.heap "com/example/brassrig/brassrig/engine/ResponseReader$State" "UNTIL_CLOSE" "Lcom/example/brassrig/brassrig/engine/ResponseReader$State;" (.ref wUNTIL_CLOSE)) :
    MetFree l (⟨"com/example/brassrig/brassrig/engine/ResponseReader", "startHead", "()V"⟩ : MethodName) (head1 (Jvm.Cond.code (⟨"com/example/brassrig/brassrig/engine/ResponseReader", "startHead", "()V"⟩ : MethodName) prog_11_method_3_code 1 none :: ws) ({ frames := 0, cells := 0, slots := 0, locals := 0 } : Room)) (fun a U => a = #[(.ref a1)] ∧ Z.Warmed39 U.vm ∧ U.heap = h0) (fun _ _ _ _ _ => True) (fun _ U o U' => ∃ v L, o = .returned v ∧ own_startHead_Q Z a1 ws_ ha bb o_bodiless o_keepBody o_started o_bodyLength o_headLength o_scanned o_lineStart o_fieldCount wDONE wHEAD wUNTIL_CLOSE h0 n0 v U'.heap L ∧ FrameEnd U o U' L ({ frames := 0, cells := 0, slots := 0, locals := 0 } : Room).cells ({ frames := 0, cells := 0, slots := 0, locals := 0 } : Room).slots) := by
  refine MetFree.of_bodySF own_startHead_pn hisR ?_
  intro p e s m args below meth c s₁ Bd hml0 hP hK
  obtain ⟨rfl, hZ, hh⟩ := hP
  have hx := Bd.exec
  have hby := Bd.bytes
  have hlk := Bd.notSynchronized
  have hml : c.maxLocals = 1 := hml0
  have hown : s.vm.findClass "com/example/brassrig/brassrig/engine/ResponseReader" = some m.cls := findClass_of_methodNamed Bd.named
  have hnm := (name_of_methodNamed Bd.named Bd.method).1
  have X : Stand p l e ({ frames := 0, cells := 0, slots := 0, locals := 0 } : Room) s m #[(.ref a1)] below meth c s₁ [] 0 0 := Stand.of_body Bd
  have eT : s₁.heap = h0 := by rw [← hh, Bd.state]; rfl
  have N := Fr.nil n0
  have K0 := Keep.refl h0 [a1]
  show own_Ends p e below (own_Post s below (own_startHead_Q Z a1 ws_ ha bb o_bodiless o_keepBody o_started o_bodyLength o_headLength o_scanned o_lineStart o_fieldCount wDONE wHEAD wUNTIL_CLOSE h0 n0) ({ frames := 0, cells := 0, slots := 0, locals := 0 } : Room).cells ({ frames := 0, cells := 0, slots := 0, locals := 0 } : Room).slots) s₁ (entryFrame m #[(.ref a1)] 1)
  rw [own_startHead_ef m a1]
  obtain ⟨T, hT⟩ : ∃ z, z = s₁ := ⟨_, rfl⟩
  rw [← hT] at X eT ⊢
  obtain ⟨h, hh0⟩ : ∃ z, z = h0 := ⟨_, rfl⟩
  rw [← hh0] at eT
  replace O : Old Z n0 h := by rw [hh0]; exact O
  replace K0 : Keep h0 h [a1] := by rw [hh0]; exact K0
  rw [← hh0] at E_a1
  rw [← hh0] at F_state_a1
  rw [← hh0] at F_head_a1
  rw [← hh0] at F_body_a1
  rw [← hh0] at F_bodiless_a1
  rw [← hh0] at F_keepBody_a1
  rw [← hh0] at F_started_a1
  rw [← hh0] at F_bodyLength_a1
  rw [← hh0] at F_headLength_a1
  rw [← hh0] at F_scanned_a1
  rw [← hh0] at F_lineStart_a1
  rw [← hh0] at F_fieldCount_a1
  refine own_via (g' := (mkF m 1 #[.val (.ref a1)] [(.ref a1)])) (fun t_ k_ => XS.aloadN X.here hx rfl (hb hby ep11m3_d0) rfl rfl k_) ?_
  obtain ⟨T, X, eT, st⟩ := getS2 X hx hZ hown (host := "") (Or.inl (hw _ (own_w 42 rfl))) Via.refl eT (S_HEAD.ext O.2) (g := (mkF m 1 #[.val (.ref a1)] [(.ref a1)])) rfl (hb hby ep11m3_d1)
  refine own_via (g' := (mkF m 4 #[.val (.ref a1)] [(.ref wHEAD), (.ref a1)])) st ?_
  obtain ⟨T, h1, X, eT, W, st⟩ := putF X hx hZ hown (host := "") (Or.inl (hw _ (own_w 12 rfl))) Via.refl eT F_state_a1 E_a1 (Or.inl (hw _ (own_w 13 rfl))) (hw _ (own_w 1 rfl)) (ty := (.object "com/example/brassrig/brassrig/engine/ResponseReader$State")) (by decide) rfl rfl (g := (mkF m 4 #[.val (.ref a1)] [(.ref wHEAD), (.ref a1)])) rfl rfl (hb hby ep11m3_d4)
  replace F_state_a1 := F_state_a1.same W
  replace E_a1 := E_a1.wr W
  replace F_head_a1 := F_head_a1.other W (Or.inr (slot_ne (Or.inl (hw _ (own_w 16 rfl))) (Or.inl (hw _ (own_w 13 rfl))) (by decide) (t := (.array .byte)) (t' := (.object "com/example/brassrig/brassrig/engine/ResponseReader$State")) (by decide) (by decide)))
  replace F_body_a1 := F_body_a1.other W (Or.inr (slot_ne (Or.inl (hw _ (own_w 23 rfl))) (Or.inl (hw _ (own_w 13 rfl))) (by decide) (t := (.array .byte)) (t' := (.object "com/example/brassrig/brassrig/engine/ResponseReader$State")) (by decide) (by decide)))
  replace F_bodiless_a1 := F_bodiless_a1.other W (Or.inr (slot_ne (Or.inl (hw _ (own_w 30 rfl))) (Or.inl (hw _ (own_w 13 rfl))) (by decide) (t := .boolean) (t' := (.object "com/example/brassrig/brassrig/engine/ResponseReader$State")) (by decide) (by decide)))
  replace F_keepBody_a1 := F_keepBody_a1.other W (Or.inr (slot_ne (Or.inl (hw _ (own_w 32 rfl))) (Or.inl (hw _ (own_w 13 rfl))) (by decide) (t := .boolean) (t' := (.object "com/example/brassrig/brassrig/engine/ResponseReader$State")) (by decide) (by decide)))
  replace F_started_a1 := F_started_a1.other W (Or.inr (slot_ne (Or.inl (hw _ (own_w 34 rfl))) (Or.inl (hw _ (own_w 13 rfl))) (by decide) (t := .boolean) (t' := (.object "com/example/brassrig/brassrig/engine/ResponseReader$State")) (by decide) (by decide)))
  replace F_bodyLength_a1 := F_bodyLength_a1.other W (Or.inr (slot_ne (Or.inl (hw _ (own_w 36 rfl))) (Or.inl (hw _ (own_w 13 rfl))) (by decide) (t := .int) (t' := (.object "com/example/brassrig/brassrig/engine/ResponseReader$State")) (by decide) (by decide)))
  replace F_headLength_a1 := F_headLength_a1.other W (Or.inr (slot_ne (Or.inl (hw _ (own_w 45 rfl))) (Or.inl (hw _ (own_w 13 rfl))) (by decide) (t := .int) (t' := (.object "com/example/brassrig/brassrig/engine/ResponseReader$State")) (by decide) (by decide)))
  replace F_scanned_a1 := F_scanned_a1.other W (Or.inr (slot_ne (Or.inl (hw _ (own_w 47 rfl))) (Or.inl (hw _ (own_w 13 rfl))) (by decide) (t := .int) (t' := (.object "com/example/brassrig/brassrig/engine/ResponseReader$State")) (by decide) (by decide)))
  replace F_lineStart_a1 := F_lineStart_a1.other W (Or.inr (slot_ne (Or.inl (hw _ (own_w 49 rfl))) (Or.inl (hw _ (own_w 13 rfl))) (by decide) (t := .int) (t' := (.object "com/example/brassrig/brassrig/engine/ResponseReader$State")) (by decide) (by decide)))
  replace F_fieldCount_a1 := F_fieldCount_a1.other W (Or.inr (slot_ne (Or.inl (hw _ (own_w 51 rfl))) (Or.inl (hw _ (own_w 13 rfl))) (by decide) (t := .int) (t' := (.object "com/example/brassrig/brassrig/engine/ResponseReader$State")) (by decide) (by decide)))
  replace O := O.wr W g_a1
  replace K0 := K0.wr W (Or.inl (List.mem_of_getElem? (i := 0) rfl))
  replace N := Fr.snoc X N g_a1
  refine own_via (g' := (mkF m 7 #[.val (.ref a1)] [])) st ?_
  refine own_via (g' := (mkF m 9 #[.val (.ref a1)] [(.int 0), (.ref a1)])) (fun t_ k_ => XS.aloadN X.here hx rfl (hb hby ep11m3_d7) rfl rfl (XS.iconst X.here hx rfl (hb hby ep11m3_d8) k_)) ?_
  obtain ⟨T, h2, X, eT, W, st⟩ := putF X hx hZ hown (host := "") (Or.inl (hw _ (own_w 44 rfl))) Via.refl eT F_headLength_a1 E_a1 (Or.inl (hw _ (own_w 45 rfl))) (hw _ (own_w 1 rfl)) (ty := .int) (by decide) rfl rfl (g := (mkF m 9 #[.val (.ref a1)] [(.int 0), (.ref a1)])) rfl rfl (hb hby ep11m3_d9)
  replace F_headLength_a1 := F_headLength_a1.same W
  replace E_a1 := E_a1.wr W
  replace F_state_a1 := F_state_a1.other W (Or.inr (slot_ne (Or.inl (hw _ (own_w 13 rfl))) (Or.inl (hw _ (own_w 45 rfl))) (by decide) (t := (.object "com/example/brassrig/brassrig/engine/ResponseReader$State")) (t' := .int) (by decide) (by decide)))
  replace F_head_a1 := F_head_a1.other W (Or.inr (slot_ne (Or.inl (hw _ (own_w 16 rfl))) (Or.inl (hw _ (own_w 45 rfl))) (by decide) (t := (.array .byte)) (t' := .int) (by decide) (by decide)))
  replace F_body_a1 := F_body_a1.other W (Or.inr (slot_ne (Or.inl (hw _ (own_w 23 rfl))) (Or.inl (hw _ (own_w 45 rfl))) (by decide) (t := (.array .byte)) (t' := .int) (by decide) (by decide)))
  replace F_bodiless_a1 := F_bodiless_a1.other W (Or.inr (slot_ne (Or.inl (hw _ (own_w 30 rfl))) (Or.inl (hw _ (own_w 45 rfl))) (by decide) (t := .boolean) (t' := .int) (by decide) (by decide)))
  replace F_keepBody_a1 := F_keepBody_a1.other W (Or.inr (slot_ne (Or.inl (hw _ (own_w 32 rfl))) (Or.inl (hw _ (own_w 45 rfl))) (by decide) (t := .boolean) (t' := .int) (by decide) (by decide)))
  replace F_started_a1 := F_started_a1.other W (Or.inr (slot_ne (Or.inl (hw _ (own_w 34 rfl))) (Or.inl (hw _ (own_w 45 rfl))) (by decide) (t := .boolean) (t' := .int) (by decide) (by decide)))
  replace F_bodyLength_a1 := F_bodyLength_a1.other W (Or.inr (slot_ne (Or.inl (hw _ (own_w 36 rfl))) (Or.inl (hw _ (own_w 45 rfl))) (by decide) (t := .int) (t' := .int) (by decide) (by decide)))
  replace F_scanned_a1 := F_scanned_a1.other W (Or.inr (slot_ne (Or.inl (hw _ (own_w 47 rfl))) (Or.inl (hw _ (own_w 45 rfl))) (by decide) (t := .int) (t' := .int) (by decide) (by decide)))
  replace F_lineStart_a1 := F_lineStart_a1.other W (Or.inr (slot_ne (Or.inl (hw _ (own_w 49 rfl))) (Or.inl (hw _ (own_w 45 rfl))) (by decide) (t := .int) (t' := .int) (by decide) (by decide)))
  replace F_fieldCount_a1 := F_fieldCount_a1.other W (Or.inr (slot_ne (Or.inl (hw _ (own_w 51 rfl))) (Or.inl (hw _ (own_w 45 rfl))) (by decide) (t := .int) (t' := .int) (by decide) (by decide)))
  replace O := O.wr W g_a1
  replace K0 := K0.wr W (Or.inl (List.mem_of_getElem? (i := 0) rfl))
  replace N := Fr.snoc X N g_a1
  refine own_via (g' := (mkF m 12 #[.val (.ref a1)] [])) st ?_
  refine own_via (g' := (mkF m 14 #[.val (.ref a1)] [(.int 0), (.ref a1)])) (fun t_ k_ => XS.aloadN X.here hx rfl (hb hby ep11m3_d12) rfl rfl (XS.iconst X.here hx rfl (hb hby ep11m3_d13) k_)) ?_
  obtain ⟨T, h3, X, eT, W, st⟩ := putF X hx hZ hown (host := "") (Or.inl (hw _ (own_w 46 rfl))) Via.refl eT F_scanned_a1 E_a1 (Or.inl (hw _ (own_w 47 rfl))) (hw _ (own_w 1 rfl)) (ty := .int) (by decide) rfl rfl (g := (mkF m 14 #[.val (.ref a1)] [(.int 0), (.ref a1)])) rfl rfl (hb hby ep11m3_d14)
  replace F_scanned_a1 := F_scanned_a1.same W
  replace E_a1 := E_a1.wr W
  replace F_state_a1 := F_state_a1.other W (Or.inr (slot_ne (Or.inl (hw _ (own_w 13 rfl))) (Or.inl (hw _ (own_w 47 rfl))) (by decide) (t := (.object "com/example/brassrig/brassrig/engine/ResponseReader$State")) (t' := .int) (by decide) (by decide)))
  replace F_head_a1 := F_head_a1.other W (Or.inr (slot_ne (Or.inl (hw _ (own_w 16 rfl))) (Or.inl (hw _ (own_w 47 rfl))) (by decide) (t := (.array .byte)) (t' := .int) (by decide) (by decide)))
  replace F_body_a1 := F_body_a1.other W (Or.inr (slot_ne (Or.inl (hw _ (own_w 23 rfl))) (Or.inl (hw _ (own_w 47 rfl))) (by decide) (t := (.array .byte)) (t' := .int) (by decide) (by decide)))
  replace F_bodiless_a1 := F_bodiless_a1.other W (Or.inr (slot_ne (Or.inl (hw _ (own_w 30 rfl))) (Or.inl (hw _ (own_w 47 rfl))) (by decide) (t := .boolean) (t' := .int) (by decide) (by decide)))
  replace F_keepBody_a1 := F_keepBody_a1.other W (Or.inr (slot_ne (Or.inl (hw _ (own_w 32 rfl))) (Or.inl (hw _ (own_w 47 rfl))) (by decide) (t := .boolean) (t' := .int) (by decide) (by decide)))
  replace F_started_a1 := F_started_a1.other W (Or.inr (slot_ne (Or.inl (hw _ (own_w 34 rfl))) (Or.inl (hw _ (own_w 47 rfl))) (by decide) (t := .boolean) (t' := .int) (by decide) (by decide)))
  replace F_bodyLength_a1 := F_bodyLength_a1.other W (Or.inr (slot_ne (Or.inl (hw _ (own_w 36 rfl))) (Or.inl (hw _ (own_w 47 rfl))) (by decide) (t := .int) (t' := .int) (by decide) (by decide)))
  replace F_headLength_a1 := F_headLength_a1.other W (Or.inr (slot_ne (Or.inl (hw _ (own_w 45 rfl))) (Or.inl (hw _ (own_w 47 rfl))) (by decide) (t := .int) (t' := .int) (by decide) (by decide)))
  replace F_lineStart_a1 := F_lineStart_a1.other W (Or.inr (slot_ne (Or.inl (hw _ (own_w 49 rfl))) (Or.inl (hw _ (own_w 47 rfl))) (by decide) (t := .int) (t' := .int) (by decide) (by decide)))
  replace F_fieldCount_a1 := F_fieldCount_a1.other W (Or.inr (slot_ne (Or.inl (hw _ (own_w 51 rfl))) (Or.inl (hw _ (own_w 47 rfl))) (by decide) (t := .int) (t' := .int) (by decide) (by decide)))
  replace O := O.wr W g_a1
  replace K0 := K0.wr W (Or.inl (List.mem_of_getElem? (i := 0) rfl))
  replace N := Fr.snoc X N g_a1
  refine own_via (g' := (mkF m 17 #[.val (.ref a1)] [])) st ?_
  refine own_via (g' := (mkF m 19 #[.val (.ref a1)] [(.int 0), (.ref a1)])) (fun t_ k_ => XS.aloadN X.here hx rfl (hb hby ep11m3_d17) rfl rfl (XS.iconst X.here hx rfl (hb hby ep11m3_d18) k_)) ?_
  obtain ⟨T, h4, X, eT, W, st⟩ := putF X hx hZ hown (host := "") (Or.inl (hw _ (own_w 48 rfl))) Via.refl eT F_lineStart_a1 E_a1 (Or.inl (hw _ (own_w 49 rfl))) (hw _ (own_w 1 rfl)) (ty := .int) (by decide) rfl rfl (g := (mkF m 19 #[.val (.ref a1)] [(.int 0), (.ref a1)])) rfl rfl (hb hby ep11m3_d19)
  replace F_lineStart_a1 := F_lineStart_a1.same W
  replace E_a1 := E_a1.wr W
  replace F_state_a1 := F_state_a1.other W (Or.inr (slot_ne (Or.inl (hw _ (own_w 13 rfl))) (Or.inl (hw _ (own_w 49 rfl))) (by decide) (t := (.object "com/example/brassrig/brassrig/engine/ResponseReader$State")) (t' := .int) (by decide) (by decide)))
  replace F_head_a1 := F_head_a1.other W (Or.inr (slot_ne (Or.inl (hw _ (own_w 16 rfl))) (Or.inl (hw _ (own_w 49 rfl))) (by decide) (t := (.array .byte)) (t' := .int) (by decide) (by decide)))
  replace F_body_a1 := F_body_a1.other W (Or.inr (slot_ne (Or.inl (hw _ (own_w 23 rfl))) (Or.inl (hw _ (own_w 49 rfl))) (by decide) (t := (.array .byte)) (t' := .int) (by decide) (by decide)))
  replace F_bodiless_a1 := F_bodiless_a1.other W (Or.inr (slot_ne (Or.inl (hw _ (own_w 30 rfl))) (Or.inl (hw _ (own_w 49 rfl))) (by decide) (t := .boolean) (t' := .int) (by decide) (by decide)))
  replace F_keepBody_a1 := F_keepBody_a1.other W (Or.inr (slot_ne (Or.inl (hw _ (own_w 32 rfl))) (Or.inl (hw _ (own_w 49 rfl))) (by decide) (t := .boolean) (t' := .int) (by decide) (by decide)))
  replace F_started_a1 := F_started_a1.other W (Or.inr (slot_ne (Or.inl (hw _ (own_w 34 rfl))) (Or.inl (hw _ (own_w 49 rfl))) (by decide) (t := .boolean) (t' := .int) (by decide) (by decide)))
  replace F_bodyLength_a1 := F_bodyLength_a1.other W (Or.inr (slot_ne (Or.inl (hw _ (own_w 36 rfl))) (Or.inl (hw _ (own_w 49 rfl))) (by decide) (t := .int) (t' := .int) (by decide) (by decide)))
  replace F_headLength_a1 := F_headLength_a1.other W (Or.inr (slot_ne (Or.inl (hw _ (own_w 45 rfl))) (Or.inl (hw _ (own_w 49 rfl))) (by decide) (t := .int) (t' := .int) (by decide) (by decide)))
  replace F_scanned_a1 := F_scanned_a1.other W (Or.inr (slot_ne (Or.inl (hw _ (own_w 47 rfl))) (Or.inl (hw _ (own_w 49 rfl))) (by decide) (t := .int) (t' := .int) (by decide) (by decide)))
  replace F_fieldCount_a1 := F_fieldCount_a1.other W (Or.inr (slot_ne (Or.inl (hw _ (own_w 51 rfl))) (Or.inl (hw _ (own_w 49 rfl))) (by decide) (t := .int) (t' := .int) (by decide) (by decide)))
  replace O := O.wr W g_a1
  replace K0 := K0.wr W (Or.inl (List.mem_of_getElem? (i := 0) rfl))
  replace N := Fr.snoc X N g_a1
  refine own_via (g' := (mkF m 22 #[.val (.ref a1)] [])) st ?_
  refine own_via (g' := (mkF m 24 #[.val (.ref a1)] [(.int 0), (.ref a1)])) (fun t_ k_ => XS.aloadN X.here hx rfl (hb hby ep11m3_d22) rfl rfl (XS.iconst X.here hx rfl (hb hby ep11m3_d23) k_)) ?_
  obtain ⟨T, h5, X, eT, W, st⟩ := putF X hx hZ hown (host := "") (Or.inl (hw _ (own_w 50 rfl))) Via.refl eT F_fieldCount_a1 E_a1 (Or.inl (hw _ (own_w 51 rfl))) (hw _ (own_w 1 rfl)) (ty := .int) (by decide) rfl rfl (g := (mkF m 24 #[.val (.ref a1)] [(.int 0), (.ref a1)])) rfl rfl (hb hby ep11m3_d24)
  replace F_fieldCount_a1 := F_fieldCount_a1.same W
  replace E_a1 := E_a1.wr W
  replace F_state_a1 := F_state_a1.other W (Or.inr (slot_ne (Or.inl (hw _ (own_w 13 rfl))) (Or.inl (hw _ (own_w 51 rfl))) (by decide) (t := (.object "com/example/brassrig/brassrig/engine/ResponseReader$State")) (t' := .int) (by decide) (by decide)))
  replace F_head_a1 := F_head_a1.other W (Or.inr (slot_ne (Or.inl (hw _ (own_w 16 rfl))) (Or.inl (hw _ (own_w 51 rfl))) (by decide) (t := (.array .byte)) (t' := .int) (by decide) (by decide)))
  replace F_body_a1 := F_body_a1.other W (Or.inr (slot_ne (Or.inl (hw _ (own_w 23 rfl))) (Or.inl (hw _ (own_w 51 rfl))) (by decide) (t := (.array .byte)) (t' := .int) (by decide) (by decide)))
  replace F_bodiless_a1 := F_bodiless_a1.other W (Or.inr (slot_ne (Or.inl (hw _ (own_w 30 rfl))) (Or.inl (hw _ (own_w 51 rfl))) (by decide) (t := .boolean) (t' := .int) (by decide) (by decide)))
  replace F_keepBody_a1 := F_keepBody_a1.other W (Or.inr (slot_ne (Or.inl (hw _ (own_w 32 rfl))) (Or.inl (hw _ (own_w 51 rfl))) (by decide) (t := .boolean) (t' := .int) (by decide) (by decide)))
  replace F_started_a1 := F_started_a1.other W (Or.inr (slot_ne (Or.inl (hw _ (own_w 34 rfl))) (Or.inl (hw _ (own_w 51 rfl))) (by decide) (t := .boolean) (t' := .int) (by decide) (by decide)))
  replace F_bodyLength_a1 := F_bodyLength_a1.other W (Or.inr (slot_ne (Or.inl (hw _ (own_w 36 rfl))) (Or.inl (hw _ (own_w 51 rfl))) (by decide) (t := .int) (t' := .int) (by decide) (by decide)))
  replace F_headLength_a1 := F_headLength_a1.other W (Or.inr (slot_ne (Or.inl (hw _ (own_w 45 rfl))) (Or.inl (hw _ (own_w 51 rfl))) (by decide) (t := .int) (t' := .int) (by decide) (by decide)))
  replace F_scanned_a1 := F_scanned_a1.other W (Or.inr (slot_ne (Or.inl (hw _ (own_w 47 rfl))) (Or.inl (hw _ (own_w 51 rfl))) (by decide) (t := .int) (t' := .int) (by decide) (by decide)))
  replace F_lineStart_a1 := F_lineStart_a1.other W (Or.inr (slot_ne (Or.inl (hw _ (own_w 49 rfl))) (Or.inl (hw _ (own_w 51 rfl))) (by decide) (t := .int) (t' := .int) (by decide) (by decide)))
  replace O := O.wr W g_a1
  replace K0 := K0.wr W (Or.inl (List.mem_of_getElem? (i := 0) rfl))
  replace N := Fr.snoc X N g_a1
  refine own_via (g' := (mkF m 27 #[.val (.ref a1)] [])) st ?_
  refine own_retV X hx hlk Bd.returns (hb hby ep11m3_d27) (by decide) (by decide) ?_
  rw [eT]
  exact ⟨rfl, N, K0, F_state_a1, F_head_a1, F_body_a1, F_headLength_a1, F_scanned_a1, F_lineStart_a1, F_fieldCount_a1, F_bodiless_a1, F_keepBody_a1, F_started_a1, F_bodyLength_a1⟩
theorem ep11m2_d0 : decode prog_11_method_2_code 0 = .ok (.aload_n 0, 1) := by decide +kernel
theorem ep11m2_d1 : decode prog_11_method_2_code 1 = .ok (.iload_n 1, 1) := by decide +kernel
theorem ep11m2_d2 : decode prog_11_method_2_code 2 = .ok (.putfield 32, 3) := by decide +kernel
theorem ep11m2_d5 : decode prog_11_method_2_code 5 = .ok (.aload_n 0, 1) := by decide +kernel
theorem ep11m2_d6 : decode prog_11_method_2_code 6 = .ok (.iload_n 2, 1) := by decide +kernel
theorem ep11m2_d7 : decode prog_11_method_2_code 7 = .ok (.putfield 36, 3) := by decide +kernel
theorem ep11m2_d10 : decode prog_11_method_2_code 10 = .ok (.aload_n 0, 1) := by decide +kernel
theorem ep11m2_d11 : decode prog_11_method_2_code 11 = .ok (.iconst 0, 1) := by decide +kernel
theorem ep11m2_d12 : decode prog_11_method_2_code 12 = .ok (.putfield 39, 3) := by decide +kernel
theorem ep11m2_d15 : decode prog_11_method_2_code 15 = .ok (.aload_n 0, 1) := by decide +kernel
theorem ep11m2_d16 : decode prog_11_method_2_code 16 = .ok (.iconst 0, 1) := by decide +kernel
theorem ep11m2_d17 : decode prog_11_method_2_code 17 = .ok (.putfield 42, 3) := by decide +kernel
theorem ep11m2_d20 : decode prog_11_method_2_code 20 = .ok (.aload_n 0, 1) := by decide +kernel
theorem ep11m2_d21 : decode prog_11_method_2_code 21 = .ok (.getfield 18, 3) := by decide +kernel
theorem ep11m2_d24 : decode prog_11_method_2_code 24 = .ok (.arraylength, 1) := by decide +kernel
theorem ep11m2_d25 : decode prog_11_method_2_code 25 = .ok (.ldc 46, 2) := by decide +kernel
theorem ep11m2_d27 : decode prog_11_method_2_code 27 = .ok (.if_icmp .le 12, 3) := by decide +kernel
theorem ep11m2_d39 : decode prog_11_method_2_code 39 = .ok (.aload_n 0, 1) := by decide +kernel
theorem ep11m2_d40 : decode prog_11_method_2_code 40 = .ok (.getfield 29, 3) := by decide +kernel
theorem ep11m2_d43 : decode prog_11_method_2_code 43 = .ok (.arraylength, 1) := by decide +kernel
theorem ep11m2_d44 : decode prog_11_method_2_code 44 = .ok (.ldc 46, 2) := by decide +kernel
theorem ep11m2_d46 : decode prog_11_method_2_code 46 = .ok (.if_icmp .le 10, 3) := by decide +kernel
theorem ep11m2_d56 : decode prog_11_method_2_code 56 = .ok (.aload_n 0, 1) := by decide +kernel
theorem ep11m2_d57 : decode prog_11_method_2_code 57 = .ok (.invokevirtual 47, 3) := by decide +kernel
theorem ep11m2_d60 : decode prog_11_method_2_code 60 = .ok (.return_, 1) := by decide +kernel
theorem own_begin_pn : plainFor (⟨"com/example/brassrig/brassrig/engine/ResponseReader", "begin", "(ZZ)V"⟩ : MethodName) = true := by first | exact plainFor_of_name (by first | (simp [plainName, overriddenIn]; done) | decide +kernel) | decide +kernel | exact Jvm.Free.JP.mathPlain rfl (by decide +kernel)
theorem own_begin_ef (m : MethodId) (x0 : Addr) (x1 : Int32) (x2 : Int32) : entryFrame m #[(.ref x0), (.int x1), (.int x2)] 3 = mkF m 0 #[.val (.ref x0), .val (.int x1), .val (.int x2)] [] := by first | (simp [entryFrame, mkF, argsToLocals, Value.category]; done) | rfl
def own_begin_Q (Z : State) (a1 : Addr) (fa : Int32) (fb : Int32) (ws_ : Addr) (ha : Addr) (bb : Addr) (o_bodiless : Int32) (o_keepBody : Int32) (o_started : Int32) (o_bodyLength : Int32) (o_headLength : Int32) (o_scanned : Int32) (o_lineStart : Int32) (o_fieldCount : Int32) (kh : ClassId) (kb : ClassId) (wDONE : Addr) (wHEAD : Addr) (wUNTIL_CLOSE : Addr) (h0 : Heap) (n0 : Nat) (v : Option Value) (h : Heap) (L : List Loc) : Prop := v = none ∧ Fr n0 L ∧ Keep h0 h [a1] ∧ Fld Z h a1 "com/example/brassrig/brassrig/engine/ResponseReader" "state" "Lcom/example/brassrig/brassrig/engine/ResponseReader$State;" (.ref wHEAD) ∧ Fld Z h a1 "com/example/brassrig/brassrig/engine/ResponseReader" "head" "[B" (.ref ha) ∧ Fld Z h a1 "com/example/brassrig/brassrig/engine/ResponseReader" "body" "[B" (.ref bb) ∧ Fld Z h a1 "com/example/brassrig/brassrig/engine/ResponseReader" "headLength" "I" (.int 0) ∧ Fld Z h a1 "com/example/brassrig/brassrig/engine/ResponseReader" "scanned" "I" (.int 0) ∧ Fld Z h a1 "com/example/brassrig/brassrig/engine/ResponseReader" "lineStart" "I" (.int 0) ∧ Fld Z h a1 "com/example/brassrig/brassrig/engine/ResponseReader" "fieldCount" "I" (.int 0) ∧ Fld Z h a1 "com/example/brassrig/brassrig/engine/ResponseReader" "bodiless" "Z" (.int (nar .boolean fa)) ∧ Fld Z h a1 "com/example/brassrig/brassrig/engine/ResponseReader" "keepBody" "Z" (.int (nar .boolean fb)) ∧ Fld Z h a1 "com/example/brassrig/brassrig/engine/ResponseReader" "started" "Z" (.int 0) ∧ Fld Z h a1 "com/example/brassrig/brassrig/engine/ResponseReader" "bodyLength" "I" (.int 0)
set_option maxRecDepth 65536 in
set_option maxHeartbeats 40000000 in
theorem own_begin (l : Launch) (Z : State) (a0 : Array Value) (hw : ∀ d ∈ tables_1, d.before a0 Z = true) (ws : List Jvm.Cond) (a1 : Addr) (fa : Int32) (fb : Int32) (ws_ : Addr) (ha : Addr) (bb : Addr) (o_bodiless : Int32) (o_keepBody : Int32) (o_started : Int32) (o_bodyLength : Int32) (o_headLength : Int32) (o_scanned : Int32) (o_lineStart : Int32) (o_fieldCount : Int32) (kh : ClassId) (kb : ClassId) (wDONE : Addr) (wHEAD : Addr) (wUNTIL_CLOSE : Addr) (h0 : Heap) (n0 : Nat) (O : Old Z n0 h0) (E_a1 : Exa Z h0 a1 "com/example/brassrig/brassrig/engine/ResponseReader") (F_state_a1 : Fld Z h0 a1 "com/example/brassrig/brassrig/engine/ResponseReader" "state" "Lcom/example/brassrig/brassrig/engine/ResponseReader$State;" (.ref ws_)) (F_head_a1 : Fld Z h0 a1 "com/example/brassrig/brassrig/engine/ResponseReader" "head" "[B" (.ref ha)) (F_body_a1 : Fld Z h0 a1 "com/example/brassrig/brassrig/engine/ResponseReader" "body" "[B" (.ref bb)) (F_bodiless_a1 : Fld Z h0 a1 "com/example/brassrig/brassrig/engine/ResponseReader" "bodiless" "Z" (.int o_bodiless)) (F_keepBody_a1 : Fld Z h0 a1 "com/example/brassrig/brassrig/engine/ResponseReader" "keepBody" "Z" (.int o_keepBody)) (F_started_a1 : Fld Z h0 a1 "com/example/brassrig/brassrig/engine/ResponseReader" "started" "Z" (.int o_started)) (F_bodyLength_a1 : Fld Z h0 a1 "com/example/brassrig/brassrig/engine/ResponseReader" "bodyLength" "I" (.int o_bodyLength)) (F_headLength_a1 : Fld Z h0 a1 "com/example/brassrig/brassrig/engine/ResponseReader" "headLength" "I" (.int o_headLength)) (F_scanned_a1 : Fld Z h0 a1 "com/example/brassrig/brassrig/engine/ResponseReader" "scanned" "I" (.int o_scanned)) (F_lineStart_a1 : Fld Z h0 a1 "com/example/brassrig/brassrig/engine/ResponseReader" "lineStart" "I" (.int o_lineStart)) (F_fieldCount_a1 : Fld Z h0 a1 "com/example/brassrig/brassrig/engine/ResponseReader" "fieldCount" "I" (.int o_fieldCount)) (V_ha : Arv Z h0 ha kh .byte (1024 : Int32) ([] : List Value) (.int 0)) (V_bb : Arv Z h0 bb kb .byte (0 : Int32) ([] : List Value) (.int 0)) (g_a1 : n0 ≤ a1) (ne_a1_ha : a1 ≠ ha) (ne_a1_bb : a1 ≠ bb) (S_DONE : Sta Z Z.heap "com/example/brassrig/brassrig/engine/ResponseReader$State" "DONE" "Lcom/example/brassrig/brassrig/engine/ResponseReader$State;" (.ref wDONE)) (S_HEAD : Sta Z Z.heap "com/example/brassrig/brassrig/engine/ResponseReader$State" "HEAD" "Lcom/example/brassrig/brassrig/engine/ResponseReader$State;" (.ref wHEAD)) (S_UNTIL_CLOSE : Sta Z Z.heap "com/example/brassrig/brassrig/engine/ResponseReader$State" "UNTIL_CLOSE" "Lcom/example/brassrig/brassrig/engine/ResponseReader$State;" (.ref wUNTIL_CLOSE)) :
    MetFree l (⟨"com/example/brassrig/brassrig/engine/ResponseReader", "begin", "(ZZ)V"⟩ : MethodName) (head1 (Jvm.Cond.code (⟨"com/example/brassrig/brassrig/engine/ResponseReader", "begin", "(ZZ)V"⟩ : MethodName) prog_11_method_2_code 3 none :: ws) ({ frames := 1, cells := 0, slots := 0, locals := 12 } : Room)) (fun a U => a = #[(.ref a1), (.int fa), (.int fb)] ∧ Z.Warmed39 U.vm ∧ U.heap = h0) (fun _ _ _ _ _ => True) (fun _ U o U' => ∃ v L, o = .returned v ∧ own_begin_Q Z a1 fa fb ws_ ha bb o_bodiless o_keepBody o_started o_bodyLength o_headLength o_scanned o_lineStart o_fieldCount kh kb wDONE wHEAD wUNTIL_CLOSE h0 n0 v U'.heap L ∧ FrameEnd U o U' L ({ frames := 1, cells := 0, slots := 0, locals := 12 } : Room).cells ({ frames := 1, cells := 0, slots := 0, locals := 12 } : Room).slots) := by
  refine MetFree.of_bodySF own_begin_pn hisR ?_
  intro p e s m args below meth c s₁ Bd hml0 hP hK
  obtain ⟨rfl, hZ, hh⟩ := hP
  have hx := Bd.exec
  have hby := Bd.bytes
  have hlk := Bd.notSynchronized
  have hml : c.maxLocals = 3 := hml0
  have hown : s.vm.findClass "com/example/brassrig/brassrig/engine/ResponseReader" = some m.cls := findClass_of_methodNamed Bd.named
  have hnm := (name_of_methodNamed Bd.named Bd.method).1
  have X : Stand p l e ({ frames := 1, cells := 0, slots := 0, locals := 12 } : Room) s m #[(.ref a1), (.int fa), (.int fb)] below meth c s₁ [] 0 0 := Stand.of_body Bd
  have eT : s₁.heap = h0 := by rw [← hh, Bd.state]; rfl
  have N := Fr.nil n0
  have K0 := Keep.refl h0 [a1]
  show own_Ends p e below (own_Post s below (own_begin_Q Z a1 fa fb ws_ ha bb o_bodiless o_keepBody o_started o_bodyLength o_headLength o_scanned o_lineStart o_fieldCount kh kb wDONE wHEAD wUNTIL_CLOSE h0 n0) ({ frames := 1, cells := 0, slots := 0, locals := 12 } : Room).cells ({ frames := 1, cells := 0, slots := 0, locals := 12 } : Room).slots) s₁ (entryFrame m #[(.ref a1), (.int fa), (.int fb)] 3)
  rw [own_begin_ef m a1 fa fb]
  obtain ⟨T, hT⟩ : ∃ z, z = s₁ := ⟨_, rfl⟩
  rw [← hT] at X eT ⊢
  obtain ⟨h, hh0⟩ : ∃ z, z = h0 := ⟨_, rfl⟩
  rw [← hh0] at eT
  replace O : Old Z n0 h := by rw [hh0]; exact O
  replace K0 : Keep h0 h [a1] := by rw [hh0]; exact K0
  rw [← hh0] at E_a1
  rw [← hh0] at F_state_a1
  rw [← hh0] at F_head_a1
  rw [← hh0] at F_body_a1
  rw [← hh0] at F_bodiless_a1
  rw [← hh0] at F_keepBody_a1
  rw [← hh0] at F_started_a1
  rw [← hh0] at F_bodyLength_a1
  rw [← hh0] at F_headLength_a1
  rw [← hh0] at F_scanned_a1
  rw [← hh0] at F_lineStart_a1
  rw [← hh0] at F_fieldCount_a1
  rw [← hh0] at V_ha
  rw [← hh0] at V_bb
  refine own_via (g' := (mkF m 2 (own_A36 a1 fa fb) [(.int fa), (.ref a1)])) (fun t_ k_ => XS.aloadN X.here hx rfl (hb hby ep11m2_d0) rfl rfl (XS.iloadN X.here hx rfl (hb hby ep11m2_d1) rfl k_)) ?_
  obtain ⟨T, h1, X, eT, W, st⟩ := putFN X hx hZ hown (hw _ (own_w 29 rfl)) Via.refl eT F_bodiless_a1 E_a1 (Or.inl (hw _ (own_w 30 rfl))) (hw _ (own_w 1 rfl)) (ty := .boolean) (v' := (.int (nar .boolean fa))) (by decide) rfl (by exact fits_nar_bool _) (g := (mkF m 2 (own_A36 a1 fa fb) [(.int fa), (.ref a1)])) rfl rfl (hb hby ep11m2_d2)
  replace F_bodiless_a1 := F_bodiless_a1.same W
  replace E_a1 := E_a1.wr W
  replace F_state_a1 := F_state_a1.other W (Or.inr (slot_ne (Or.inl (hw _ (own_w 13 rfl))) (Or.inl (hw _ (own_w 30 rfl))) (by decide) (t := (.object "com/example/brassrig/brassrig/engine/ResponseReader$State")) (t' := .boolean) (by decide) (by decide)))
  replace F_head_a1 := F_head_a1.other W (Or.inr (slot_ne (Or.inl (hw _ (own_w 16 rfl))) (Or.inl (hw _ (own_w 30 rfl))) (by decide) (t := (.array .byte)) (t' := .boolean) (by decide) (by decide)))
  replace F_body_a1 := F_body_a1.other W (Or.inr (slot_ne (Or.inl (hw _ (own_w 23 rfl))) (Or.inl (hw _ (own_w 30 rfl))) (by decide) (t := (.array .byte)) (t' := .boolean) (by decide) (by decide)))
  replace F_keepBody_a1 := F_keepBody_a1.other W (Or.inr (slot_ne (Or.inl (hw _ (own_w 32 rfl))) (Or.inl (hw _ (own_w 30 rfl))) (by decide) (t := .boolean) (t' := .boolean) (by decide) (by decide)))
  replace F_started_a1 := F_started_a1.other W (Or.inr (slot_ne (Or.inl (hw _ (own_w 34 rfl))) (Or.inl (hw _ (own_w 30 rfl))) (by decide) (t := .boolean) (t' := .boolean) (by decide) (by decide)))
  replace F_bodyLength_a1 := F_bodyLength_a1.other W (Or.inr (slot_ne (Or.inl (hw _ (own_w 36 rfl))) (Or.inl (hw _ (own_w 30 rfl))) (by decide) (t := .int) (t' := .boolean) (by decide) (by decide)))
  replace F_headLength_a1 := F_headLength_a1.other W (Or.inr (slot_ne (Or.inl (hw _ (own_w 45 rfl))) (Or.inl (hw _ (own_w 30 rfl))) (by decide) (t := .int) (t' := .boolean) (by decide) (by decide)))
  replace F_scanned_a1 := F_scanned_a1.other W (Or.inr (slot_ne (Or.inl (hw _ (own_w 47 rfl))) (Or.inl (hw _ (own_w 30 rfl))) (by decide) (t := .int) (t' := .boolean) (by decide) (by decide)))
  replace F_lineStart_a1 := F_lineStart_a1.other W (Or.inr (slot_ne (Or.inl (hw _ (own_w 49 rfl))) (Or.inl (hw _ (own_w 30 rfl))) (by decide) (t := .int) (t' := .boolean) (by decide) (by decide)))
  replace F_fieldCount_a1 := F_fieldCount_a1.other W (Or.inr (slot_ne (Or.inl (hw _ (own_w 51 rfl))) (Or.inl (hw _ (own_w 30 rfl))) (by decide) (t := .int) (t' := .boolean) (by decide) (by decide)))
  replace V_ha := V_ha.other W (Ne.symm ne_a1_ha)
  replace V_bb := V_bb.other W (Ne.symm ne_a1_bb)
  replace O := O.wr W g_a1
  replace K0 := K0.wr W (Or.inl (List.mem_of_getElem? (i := 0) rfl))
  replace N := Fr.snoc X N g_a1
  refine own_via (g' := (mkF m 5 (own_A36 a1 fa fb) [])) st ?_
  refine own_via (g' := (mkF m 7 (own_A36 a1 fa fb) [(.int fb), (.ref a1)])) (fun t_ k_ => XS.aloadN X.here hx rfl (hb hby ep11m2_d5) rfl rfl (XS.iloadN X.here hx rfl (hb hby ep11m2_d6) rfl k_)) ?_
  obtain ⟨T, h2, X, eT, W, st⟩ := putFN X hx hZ hown (hw _ (own_w 31 rfl)) Via.refl eT F_keepBody_a1 E_a1 (Or.inl (hw _ (own_w 32 rfl))) (hw _ (own_w 1 rfl)) (ty := .boolean) (v' := (.int (nar .boolean fb))) (by decide) rfl (by exact fits_nar_bool _) (g := (mkF m 7 (own_A36 a1 fa fb) [(.int fb), (.ref a1)])) rfl rfl (hb hby ep11m2_d7)
  replace F_keepBody_a1 := F_keepBody_a1.same W
  replace E_a1 := E_a1.wr W
  replace F_state_a1 := F_state_a1.other W (Or.inr (slot_ne (Or.inl (hw _ (own_w 13 rfl))) (Or.inl (hw _ (own_w 32 rfl))) (by decide) (t := (.object "com/example/brassrig/brassrig/engine/ResponseReader$State")) (t' := .boolean) (by decide) (by decide)))
  replace F_head_a1 := F_head_a1.other W (Or.inr (slot_ne (Or.inl (hw _ (own_w 16 rfl))) (Or.inl (hw _ (own_w 32 rfl))) (by decide) (t := (.array .byte)) (t' := .boolean) (by decide) (by decide)))
  replace F_body_a1 := F_body_a1.other W (Or.inr (slot_ne (Or.inl (hw _ (own_w 23 rfl))) (Or.inl (hw _ (own_w 32 rfl))) (by decide) (t := (.array .byte)) (t' := .boolean) (by decide) (by decide)))
  replace F_bodiless_a1 := F_bodiless_a1.other W (Or.inr (slot_ne (Or.inl (hw _ (own_w 30 rfl))) (Or.inl (hw _ (own_w 32 rfl))) (by decide) (t := .boolean) (t' := .boolean) (by decide) (by decide)))
  replace F_started_a1 := F_started_a1.other W (Or.inr (slot_ne (Or.inl (hw _ (own_w 34 rfl))) (Or.inl (hw _ (own_w 32 rfl))) (by decide) (t := .boolean) (t' := .boolean) (by decide) (by decide)))
  replace F_bodyLength_a1 := F_bodyLength_a1.other W (Or.inr (slot_ne (Or.inl (hw _ (own_w 36 rfl))) (Or.inl (hw _ (own_w 32 rfl))) (by decide) (t := .int) (t' := .boolean) (by decide) (by decide)))
  replace F_headLength_a1 := F_headLength_a1.other W (Or.inr (slot_ne (Or.inl (hw _ (own_w 45 rfl))) (Or.inl (hw _ (own_w 32 rfl))) (by decide) (t := .int) (t' := .boolean) (by decide) (by decide)))
  replace F_scanned_a1 := F_scanned_a1.other W (Or.inr (slot_ne (Or.inl (hw _ (own_w 47 rfl))) (Or.inl (hw _ (own_w 32 rfl))) (by decide) (t := .int) (t' := .boolean) (by decide) (by decide)))
  replace F_lineStart_a1 := F_lineStart_a1.other W (Or.inr (slot_ne (Or.inl (hw _ (own_w 49 rfl))) (Or.inl (hw _ (own_w 32 rfl))) (by decide) (t := .int) (t' := .boolean) (by decide) (by decide)))
  replace F_fieldCount_a1 := F_fieldCount_a1.other W (Or.inr (slot_ne (Or.inl (hw _ (own_w 51 rfl))) (Or.inl (hw _ (own_w 32 rfl))) (by decide) (t := .int) (t' := .boolean) (by decide) (by decide)))
  replace V_ha := V_ha.other W (Ne.symm ne_a1_ha)
  replace V_bb := V_bb.other W (Ne.symm ne_a1_bb)
  replace O := O.wr W g_a1
  replace K0 := K0.wr W (Or.inl (List.mem_of_getElem? (i := 0) rfl))
  replace N := Fr.snoc X N g_a1
  refine own_via (g' := (mkF m 10 (own_A36 a1 fa fb) [])) st ?_
  refine own_via (g' := (mkF m 12 (own_A36 a1 fa fb) [(.int 0), (.ref a1)])) (fun t_ k_ => XS.aloadN X.here hx rfl (hb hby ep11m2_d10) rfl rfl (XS.iconst X.here hx rfl (hb hby ep11m2_d11) k_)) ?_
  obtain ⟨T, h3, X, eT, W, st⟩ := putFN X hx hZ hown (hw _ (own_w 33 rfl)) Via.refl eT F_started_a1 E_a1 (Or.inl (hw _ (own_w 34 rfl))) (hw _ (own_w 1 rfl)) (ty := .boolean) (v' := (.int 0)) (by decide) rfl (by decide) (g := (mkF m 12 (own_A36 a1 fa fb) [(.int 0), (.ref a1)])) rfl rfl (hb hby ep11m2_d12)
  replace F_started_a1 := F_started_a1.same W
  replace E_a1 := E_a1.wr W
  replace F_state_a1 := F_state_a1.other W (Or.inr (slot_ne (Or.inl (hw _ (own_w 13 rfl))) (Or.inl (hw _ (own_w 34 rfl))) (by decide) (t := (.object "com/example/brassrig/brassrig/engine/ResponseReader$State")) (t' := .boolean) (by decide) (by decide)))
  replace F_head_a1 := F_head_a1.other W (Or.inr (slot_ne (Or.inl (hw _ (own_w 16 rfl))) (Or.inl (hw _ (own_w 34 rfl))) (by decide) (t := (.array .byte)) (t' := .boolean) (by decide) (by decide)))
  replace F_body_a1 := F_body_a1.other W (Or.inr (slot_ne (Or.inl (hw _ (own_w 23 rfl))) (Or.inl (hw _ (own_w 34 rfl))) (by decide) (t := (.array .byte)) (t' := .boolean) (by decide) (by decide)))
  replace F_bodiless_a1 := F_bodiless_a1.other W (Or.inr (slot_ne (Or.inl (hw _ (own_w 30 rfl))) (Or.inl (hw _ (own_w 34 rfl))) (by decide) (t := .boolean) (t' := .boolean) (by decide) (by decide)))
  replace F_keepBody_a1 := F_keepBody_a1.other W (Or.inr (slot_ne (Or.inl (hw _ (own_w 32 rfl))) (Or.inl (hw _ (own_w 34 rfl))) (by decide) (t := .boolean) (t' := .boolean) (by decide) (by decide)))
  replace F_bodyLength_a1 := F_bodyLength_a1.other W (Or.inr (slot_ne (Or.inl (hw _ (own_w 36 rfl))) (Or.inl (hw _ (own_w 34 rfl))) (by decide) (t := .int) (t' := .boolean) (by decide) (by decide)))
  replace F_headLength_a1 := F_headLength_a1.other W (Or.inr (slot_ne (Or.inl (hw _ (own_w 45 rfl))) (Or.inl (hw _ (own_w 34 rfl))) (by decide) (t := .int) (t' := .boolean) (by decide) (by decide)))
  replace F_scanned_a1 := F_scanned_a1.other W (Or.inr (slot_ne (Or.inl (hw _ (own_w 47 rfl))) (Or.inl (hw _ (own_w 34 rfl))) (by decide) (t := .int) (t' := .boolean) (by decide) (by decide)))
  replace F_lineStart_a1 := F_lineStart_a1.other W (Or.inr (slot_ne (Or.inl (hw _ (own_w 49 rfl))) (Or.inl (hw _ (own_w 34 rfl))) (by decide) (t := .int) (t' := .boolean) (by decide) (by decide)))
  replace F_fieldCount_a1 := F_fieldCount_a1.other W (Or.inr (slot_ne (Or.inl (hw _ (own_w 51 rfl))) (Or.inl (hw _ (own_w 34 rfl))) (by decide) (t := .int) (t' := .boolean) (by decide) (by decide)))
  replace V_ha := V_ha.other W (Ne.symm ne_a1_ha)
  replace V_bb := V_bb.other W (Ne.symm ne_a1_bb)
  replace O := O.wr W g_a1
  replace K0 := K0.wr W (Or.inl (List.mem_of_getElem? (i := 0) rfl))
  replace N := Fr.snoc X N g_a1
  refine own_via (g' := (mkF m 15 (own_A36 a1 fa fb) [])) st ?_
  refine own_via (g' := (mkF m 17 (own_A36 a1 fa fb) [(.int 0), (.ref a1)])) (fun t_ k_ => XS.aloadN X.here hx rfl (hb hby ep11m2_d15) rfl rfl (XS.iconst X.here hx rfl (hb hby ep11m2_d16) k_)) ?_
  obtain ⟨T, h4, X, eT, W, st⟩ := putF X hx hZ hown (host := "") (Or.inl (hw _ (own_w 35 rfl))) Via.refl eT F_bodyLength_a1 E_a1 (Or.inl (hw _ (own_w 36 rfl))) (hw _ (own_w 1 rfl)) (ty := .int) (by decide) rfl rfl (g := (mkF m 17 (own_A36 a1 fa fb) [(.int 0), (.ref a1)])) rfl rfl (hb hby ep11m2_d17)
  replace F_bodyLength_a1 := F_bodyLength_a1.same W
  replace E_a1 := E_a1.wr W
  replace F_state_a1 := F_state_a1.other W (Or.inr (slot_ne (Or.inl (hw _ (own_w 13 rfl))) (Or.inl (hw _ (own_w 36 rfl))) (by decide) (t := (.object "com/example/brassrig/brassrig/engine/ResponseReader$State")) (t' := .int) (by decide) (by decide)))
  replace F_head_a1 := F_head_a1.other W (Or.inr (slot_ne (Or.inl (hw _ (own_w 16 rfl))) (Or.inl (hw _ (own_w 36 rfl))) (by decide) (t := (.array .byte)) (t' := .int) (by decide) (by decide)))
  replace F_body_a1 := F_body_a1.other W (Or.inr (slot_ne (Or.inl (hw _ (own_w 23 rfl))) (Or.inl (hw _ (own_w 36 rfl))) (by decide) (t := (.array .byte)) (t' := .int) (by decide) (by decide)))
  replace F_bodiless_a1 := F_bodiless_a1.other W (Or.inr (slot_ne (Or.inl (hw _ (own_w 30 rfl))) (Or.inl (hw _ (own_w 36 rfl))) (by decide) (t := .boolean) (t' := .int) (by decide) (by decide)))
  replace F_keepBody_a1 := F_keepBody_a1.other W (Or.inr (slot_ne (Or.inl (hw _ (own_w 32 rfl))) (Or.inl (hw _ (own_w 36 rfl))) (by decide) (t := .boolean) (t' := .int) (by decide) (by decide)))
  replace F_started_a1 := F_started_a1.other W (Or.inr (slot_ne (Or.inl (hw _ (own_w 34 rfl))) (Or.inl (hw _ (own_w 36 rfl))) (by decide) (t := .boolean) (t' := .int) (by decide) (by decide)))
  replace F_headLength_a1 := F_headLength_a1.other W (Or.inr (slot_ne (Or.inl (hw _ (own_w 45 rfl))) (Or.inl (hw _ (own_w 36 rfl))) (by decide) (t := .int) (t' := .int) (by decide) (by decide)))
  replace F_scanned_a1 := F_scanned_a1.other W (Or.inr (slot_ne (Or.inl (hw _ (own_w 47 rfl))) (Or.inl (hw _ (own_w 36 rfl))) (by decide) (t := .int) (t' := .int) (by decide) (by decide)))
  replace F_lineStart_a1 := F_lineStart_a1.other W (Or.inr (slot_ne (Or.inl (hw _ (own_w 49 rfl))) (Or.inl (hw _ (own_w 36 rfl))) (by decide) (t := .int) (t' := .int) (by decide) (by decide)))
  replace F_fieldCount_a1 := F_fieldCount_a1.other W (Or.inr (slot_ne (Or.inl (hw _ (own_w 51 rfl))) (Or.inl (hw _ (own_w 36 rfl))) (by decide) (t := .int) (t' := .int) (by decide) (by decide)))
  replace V_ha := V_ha.other W (Ne.symm ne_a1_ha)
  replace V_bb := V_bb.other W (Ne.symm ne_a1_bb)
  replace O := O.wr W g_a1
  replace K0 := K0.wr W (Or.inl (List.mem_of_getElem? (i := 0) rfl))
  replace N := Fr.snoc X N g_a1
  refine own_via (g' := (mkF m 20 (own_A36 a1 fa fb) [])) st ?_
  refine own_via (g' := (mkF m 21 (own_A36 a1 fa fb) [(.ref a1)])) (fun t_ k_ => XS.aloadN X.here hx rfl (hb hby ep11m2_d20) rfl rfl k_) ?_
  obtain ⟨T, X, eT, st⟩ := getF X hx hZ hown (host := "") (Or.inl (hw _ (own_w 15 rfl))) Via.refl eT F_head_a1 (g := (mkF m 21 (own_A36 a1 fa fb) [(.ref a1)])) rfl rfl (hb hby ep11m2_d21)
  refine own_via (g' := (mkF m 24 (own_A36 a1 fa fb) [(.ref ha)])) st ?_
  obtain ⟨cl_, Ar_, -, Sz_, Nn_, -, -⟩ := id V_ha
  refine own_via (g' := (mkF m 25 (own_A36 a1 fa fb) [(.int 1024)])) (fun t_ k_ => X.arraylength hx (by rw [eT]; exact Ar_.1) (State.isArrayOf_alike hZ.alike Ar_.2.1) (g := (mkF m 24 (own_A36 a1 fa fb) [(.ref ha)])) rfl rfl (hb hby ep11m2_d24) _ (by rw [len_of Sz_ Nn_]; exact k_)) ?_
  refine own_via (g' := (mkF m 40 (own_A36 a1 fa fb) [(.ref a1)])) (fun t_ k_ => X.ldcInt hx hown (mvT hZ (hw _ (own_w 37 rfl))) (g := (mkF m 25 (own_A36 a1 fa fb) [(.int 1024)])) rfl (hb hby ep11m2_d25) _ (XS.icmpYes X.here hx rfl (pc0 := 27) (pc' := 39) rfl (hb hby ep11m2_d27) rfl (flt (by decide : ¬ ((65536 : Int32) < (1024 : Int32)))).2.2.2 (by decide) (by decide) (XS.aloadN X.here hx rfl (hb hby ep11m2_d39) rfl rfl k_))) ?_
  obtain ⟨T, X, eT, st⟩ := getF X hx hZ hown (host := "") (Or.inl (hw _ (own_w 22 rfl))) Via.refl eT F_body_a1 (g := (mkF m 40 (own_A36 a1 fa fb) [(.ref a1)])) rfl rfl (hb hby ep11m2_d40)
  refine own_via (g' := (mkF m 43 (own_A36 a1 fa fb) [(.ref bb)])) st ?_
  obtain ⟨cl_, Ar_, -, Sz_, Nn_, -, -⟩ := id V_bb
  refine own_via (g' := (mkF m 44 (own_A36 a1 fa fb) [(.int 0)])) (fun t_ k_ => X.arraylength hx (by rw [eT]; exact Ar_.1) (State.isArrayOf_alike hZ.alike Ar_.2.1) (g := (mkF m 43 (own_A36 a1 fa fb) [(.ref bb)])) rfl rfl (hb hby ep11m2_d43) _ (by rw [len_of Sz_ Nn_]; exact k_)) ?_
  refine own_via (g' := (mkF m 57 (own_A36 a1 fa fb) [(.ref a1)])) (fun t_ k_ => X.ldcInt hx hown (mvT hZ (hw _ (own_w 37 rfl))) (g := (mkF m 44 (own_A36 a1 fa fb) [(.int 0)])) rfl (hb hby ep11m2_d44) _ (XS.icmpYes X.here hx rfl (pc0 := 46) (pc' := 56) rfl (hb hby ep11m2_d46) rfl (flt (by decide : ¬ ((65536 : Int32) < (0 : Int32)))).2.2.2 (by decide) (by decide) (XS.aloadN X.here hx rfl (hb hby ep11m2_d56) rfl rfl k_))) ?_
  obtain ⟨cq, qq, qq'⟩ := (E_a1).cell
  obtain ⟨_, _, ⟨T, Lq, kq, nq⟩, -, X, ⟨Lc, hQ, lq, yq, zq⟩, st⟩ := own_privBack X hx (y := own_y0) hown (mvT hZ (hw _ (own_w 38 rfl))) (mvT hZ (hw _ (own_w 39 rfl))) (own_nf (args := #[]) (mvT hZ (hw _ (own_w 27 rfl))) rfl) (Cond.privateMethod_at (mvP hZ (hw _ (own_w 40 rfl)) (args := #[]))) (mvT hZ (hw _ (own_w 41 rfl))) (by decide) (backOf (W := 0) (own_startHead l Z a0 hw [] a1 ws_ ha bb (nar .boolean fa) (nar .boolean fb) (0 : Int32) (0 : Int32) o_headLength o_scanned o_lineStart o_fieldCount wDONE wHEAD wUNTIL_CLOSE h4 n0 O E_a1 F_state_a1 F_head_a1 F_body_a1 F_bodiless_a1 F_keepBody_a1 F_started_a1 F_bodyLength_a1 F_headLength_a1 F_scanned_a1 F_lineStart_a1 F_fieldCount_a1 g_a1 S_DONE S_HEAD S_UNTIL_CLOSE) hZ (hw _ (own_w 41 rfl)) (hw _ (own_w 2 rfl)) (by decide) (by decide)) (g := (mkF m 57 (own_A36 a1 fa fb) [(.ref a1)])) rfl (by rw [hml]; rfl) (Steps.refl _) (a := a1) (by rw [eT]; exact qq) qq' (argsL := []) (rest := []) (lenOf own_pd0 rfl) rfl (by show 2 * 0 + _ ≤ _; exact Nat.le_of_eq rfl) (hb hby ep11m2_d57) (fun _ _ => ⟨rfl, eT, (by decide : 0 + 0 ≤ _), (by decide : 0 + 0 ≤ _)⟩)
  dsimp only [Pt.U, Pt.locs, Pt.cells, Pt.slots] at X lq yq zq st hQ
  rw [lq, yq, zq] at X
  obtain ⟨rfl, Nq, Kq, F_state_a1, F_head_a1, F_body_a1, F_headLength_a1, F_scanned_a1, F_lineStart_a1, F_fieldCount_a1, F_bodiless_a1, F_keepBody_a1, F_started_a1, F_bodyLength_a1⟩ := hQ
  replace N := Fr.app N Nq
  obtain ⟨h5, eT⟩ : ∃ z, T.heap = z := ⟨_, rfl⟩
  rw [eT] at Kq F_state_a1 F_head_a1 F_body_a1 F_headLength_a1 F_scanned_a1 F_lineStart_a1 F_fieldCount_a1 F_bodiless_a1 F_keepBody_a1 F_started_a1 F_bodyLength_a1
  replace E_a1 := E_a1.keep Kq
  replace V_ha := V_ha.keep Kq (ninS (Ne.symm ne_a1_ha) nin0)
  replace V_bb := V_bb.keep Kq (ninS (Ne.symm ne_a1_bb) nin0)
  replace O := O.keep Kq (allS g_a1 all0)
  replace K0 := K0.trans Kq (allS (Or.inl (List.mem_of_getElem? (i := 0) rfl)) all0)
  refine own_viaT (g' := (mkF m 60 (own_A36 a1 fa fb) [])) st ?_
  refine own_retV X hx hlk Bd.returns (hb hby ep11m2_d60) (by decide) (by decide) ?_
  rw [eT]
  exact ⟨rfl, N, K0, F_state_a1, F_head_a1, F_body_a1, F_headLength_a1, F_scanned_a1, F_lineStart_a1, F_fieldCount_a1, F_bodiless_a1, F_keepBody_a1, F_started_a1, F_bodyLength_a1⟩
theorem ep11m4_d0 : decode prog_11_method_4_code 0 = .ok (.aload_n 0, 1) := by decide +kernel
theorem ep11m4_d1 : decode prog_11_method_4_code 1 = .ok (.getfield 39, 3) := by decide +kernel
theorem ep11m4_d4 : decode prog_11_method_4_code 4 = .ok (.ireturn, 1) := by decide +kernel
theorem own_started_pn : plainFor (⟨"com/example/brassrig/brassrig/engine/ResponseReader", "started", "()Z"⟩ : MethodName) = true := by first | exact plainFor_of_name (by first | (simp [plainName, overriddenIn]; done) | decide +kernel) | decide +kernel | exact Jvm.Free.JP.mathPlain rfl (by decide +kernel)
theorem own_started_ef (m : MethodId) (x0 : Addr) : entryFrame m #[(.ref x0)] 1 = mkF m 0 #[.val (.ref x0)] [] := by first | (simp [entryFrame, mkF, argsToLocals, Value.category]; done) | rfl
def own_started_Q (Z : State) (a1 : Addr) (h0 : Heap) (n0 : Nat) (v : Option Value) (h : Heap) (L : List Loc) : Prop := v = some (.int 0) ∧ Fr n0 L ∧ h = h0
set_option maxRecDepth 65536 in
set_option maxHeartbeats 40000000 in
theorem own_started (l : Launch) (Z : State) (a0 : Array Value) (hw : ∀ d ∈ tables_1, d.before a0 Z = true) (ws : List Jvm.Cond) (a1 : Addr) (h0 : Heap) (n0 : Nat) (O : Old Z n0 h0) (F_started_a1 : Fld Z h0 a1 "com/example/brassrig/brassrig/engine/ResponseReader" "started" "Z" (.int 0)) :
    MetFree l (⟨"com/example/brassrig/brassrig/engine/ResponseReader", "started", "()Z"⟩ : MethodName) (head1 (Jvm.Cond.code (⟨"com/example/brassrig/brassrig/engine/ResponseReader", "started", "()Z"⟩ : MethodName) prog_11_method_4_code 1 (some .boolean) :: ws) ({ frames := 0, cells := 0, slots := 0, locals := 0 } : Room)) (fun a U => a = #[(.ref a1)] ∧ Z.Warmed39 U.vm ∧ U.heap = h0) (fun _ _ _ _ _ => True) (fun _ U o U' => ∃ v L, o = .returned v ∧ own_started_Q Z a1 h0 n0 v U'.heap L ∧ FrameEnd U o U' L ({ frames := 0, cells := 0, slots := 0, locals := 0 } : Room).cells ({ frames := 0, cells := 0, slots := 0, locals := 0 } : Room).slots) := by
  refine MetFree.of_bodySF own_started_pn hisR ?_
  intro p e s m args below meth c s₁ Bd hml0 hP hK
  obtain ⟨rfl, hZ, hh⟩ := hP
  have hx := Bd.exec
  have hby := Bd.bytes
  have hlk := Bd.notSynchronized
  have hml : c.maxLocals = 1 := hml0
  have hown : s.vm.findClass "com/example/brassrig/brassrig/engine/ResponseReader" = some m.cls := findClass_of_methodNamed Bd.named
  have hnm := (name_of_methodNamed Bd.named Bd.method).1
  have X : Stand p l e ({ frames := 0, cells := 0, slots := 0, locals := 0 } : Room) s m #[(.ref a1)] below meth c s₁ [] 0 0 := Stand.of_body Bd
  have eT : s₁.heap = h0 := by rw [← hh, Bd.state]; rfl
  have N := Fr.nil n0
  have K0 := Keep.refl h0 []
  show own_Ends p e below (own_Post s below (own_started_Q Z a1 h0 n0) ({ frames := 0, cells := 0, slots := 0, locals := 0 } : Room).cells ({ frames := 0, cells := 0, slots := 0, locals := 0 } : Room).slots) s₁ (entryFrame m #[(.ref a1)] 1)
  rw [own_started_ef m a1]
  obtain ⟨T, hT⟩ : ∃ z, z = s₁ := ⟨_, rfl⟩
  rw [← hT] at X eT ⊢
  obtain ⟨h, hh0⟩ : ∃ z, z = h0 := ⟨_, rfl⟩
  rw [← hh0] at eT
  replace O : Old Z n0 h := by rw [hh0]; exact O
  replace K0 : Keep h0 h [] := by rw [hh0]; exact K0
  rw [← hh0] at F_started_a1
  refine own_via (g' := (mkF m 1 #[.val (.ref a1)] [(.ref a1)])) (fun t_ k_ => XS.aloadN X.here hx rfl (hb hby ep11m4_d0) rfl rfl k_) ?_
  obtain ⟨T, X, eT, st⟩ := getF X hx hZ hown (host := "") (Or.inl (hw _ (own_w 33 rfl))) Via.refl eT F_started_a1 (g := (mkF m 1 #[.val (.ref a1)] [(.ref a1)])) rfl rfl (hb hby ep11m4_d1)
  refine own_via (g' := (mkF m 4 #[.val (.ref a1)] [(.int 0)])) st ?_
  refine own_retN X hx hlk (t := .boolean) Bd.returns (by simp) (hb hby ep11m4_d4) (by decide) (by decide) ?_
  rw [eT]
  exact ⟨rfl, N, hh0⟩
theorem ep11m6_d0 : decode prog_11_method_6_code 0 = .ok (.aload_n 0, 1) := by decide +kernel
theorem ep11m6_d1 : decode prog_11_method_6_code 1 = .ok (.getfield 13, 3) := by decide +kernel
theorem ep11m6_d4 : decode prog_11_method_6_code 4 = .ok (.getstatic 81, 3) := by decide +kernel
theorem ep11m6_d7 : decode prog_11_method_6_code 7 = .ok (.if_acmp .ne 10, 3) := by decide +kernel
theorem ep11m6_d17 : decode prog_11_method_6_code 17 = .ok (.aload_n 0, 1) := by decide +kernel
theorem ep11m6_d18 : decode prog_11_method_6_code 18 = .ok (.getfield 13, 3) := by decide +kernel
theorem ep11m6_d21 : decode prog_11_method_6_code 21 = .ok (.getstatic 7, 3) := by decide +kernel
theorem ep11m6_d24 : decode prog_11_method_6_code 24 = .ok (.if_acmp .ne 7, 3) := by decide +kernel
theorem ep11m6_d31 : decode prog_11_method_6_code 31 = .ok (.iconst 0, 1) := by decide +kernel
theorem ep11m6_d32 : decode prog_11_method_6_code 32 = .ok (.ireturn, 1) := by decide +kernel
theorem own_closed_pn : plainFor (⟨"com/example/brassrig/brassrig/engine/ResponseReader", "closed", "()Z"⟩ : MethodName) = true := by first | exact plainFor_of_name (by first | (simp [plainName, overriddenIn]; done) | decide +kernel) | decide +kernel | exact Jvm.Free.JP.mathPlain rfl (by decide +kernel)
theorem own_closed_ef (m : MethodId) (x0 : Addr) : entryFrame m #[(.ref x0)] 1 = mkF m 0 #[.val (.ref x0)] [] := by first | (simp [entryFrame, mkF, argsToLocals, Value.category]; done) | rfl
def own_closed_Q (Z : State) (a1 : Addr) (wDONE : Addr) (wHEAD : Addr) (wUNTIL_CLOSE : Addr) (h0 : Heap) (n0 : Nat) (v : Option Value) (h : Heap) (L : List Loc) : Prop := v = some (.int 0) ∧ Fr n0 L ∧ h = h0
set_option maxRecDepth 65536 in
set_option maxHeartbeats 40000000 in
theorem own_closed (l : Launch) (Z : State) (a0 : Array Value) (hw : ∀ d ∈ tables_1, d.before a0 Z = true) (ws : List Jvm.Cond) (a1 : Addr) (wDONE : Addr) (wHEAD : Addr) (wUNTIL_CLOSE : Addr) (h0 : Heap) (n0 : Nat) (O : Old Z n0 h0) (F_state_a1 : Fld Z h0 a1 "com/example/brassrig/brassrig/engine/ResponseReader" "state" "Lcom/example/brassrig/brassrig/engine/ResponseReader$State;" (.ref wHEAD)) (S_DONE : Sta Z Z.heap "com/example/brassrig/brassrig/engine/ResponseReader$State" "DONE" "Lcom/example/brassrig/brassrig/engine/ResponseReader$State;" (.ref wDONE)) (S_HEAD : Sta Z Z.heap "com/example/brassrig/brassrig/engine/ResponseReader$State" "HEAD" "Lcom/example/brassrig/brassrig/engine/ResponseReader$State;" (.ref wHEAD)) (S_UNTIL_CLOSE : Sta Z Z.heap "com/example/brassrig/brassrig/engine/ResponseReader$State" "UNTIL_CLOSE" "Lcom/example/brassrig/brassrig/engine/ResponseReader$State;" (.ref wUNTIL_CLOSE)) (neHU : ¬ wHEAD = wUNTIL_CLOSE) (neHD : ¬ wHEAD = wDONE) :
    MetFree l (⟨"com/example/brassrig/brassrig/engine/ResponseReader", "closed", "()Z"⟩ : MethodName) (head1 (Jvm.Cond.code (⟨"com/example/brassrig/brassrig/engine/ResponseReader", "closed", "()Z"⟩ : MethodName) prog_11_method_6_code 1 (some .boolean) :: ws) ({ frames := 0, cells := 0, slots := 0, locals := 0 } : Room)) (fun a U => a = #[(.ref a1)] ∧ Z.Warmed39 U.vm ∧ U.heap = h0) (fun _ _ _ _ _ => True) (fun _ U o U' => ∃ v L, o = .returned v ∧ own_closed_Q Z a1 wDONE wHEAD wUNTIL_CLOSE h0 n0 v U'.heap L ∧ FrameEnd U o U' L ({ frames := 0, cells := 0, slots := 0, locals := 0 } : Room).cells ({ frames := 0, cells := 0, slots := 0, locals := 0 } : Room).slots) := by
  refine MetFree.of_bodySF own_closed_pn hisR ?_
  intro p e s m args below meth c s₁ Bd hml0 hP hK
  obtain ⟨rfl, hZ, hh⟩ := hP
  have hx := Bd.exec
  have hby := Bd.bytes
  have hlk := Bd.notSynchronized
  have hml : c.maxLocals = 1 := hml0
  have hown : s.vm.findClass "com/example/brassrig/brassrig/engine/ResponseReader" = some m.cls := findClass_of_methodNamed Bd.named
  have hnm := (name_of_methodNamed Bd.named Bd.method).1
  have X : Stand p l e ({ frames := 0, cells := 0, slots := 0, locals := 0 } : Room) s m #[(.ref a1)] below meth c s₁ [] 0 0 := Stand.of_body Bd
  have eT : s₁.heap = h0 := by rw [← hh, Bd.state]; rfl
  have N := Fr.nil n0
  have K0 := Keep.refl h0 []
  show own_Ends p e below (own_Post s below (own_closed_Q Z a1 wDONE wHEAD wUNTIL_CLOSE h0 n0) ({ frames := 0, cells := 0, slots := 0, locals := 0 } : Room).cells ({ frames := 0, cells := 0, slots := 0, locals := 0 } : Room).slots) s₁ (entryFrame m #[(.ref a1)] 1)
  rw [own_closed_ef m a1]
  obtain ⟨T, hT⟩ : ∃ z, z = s₁ := ⟨_, rfl⟩
  rw [← hT] at X eT ⊢
  obtain ⟨h, hh0⟩ : ∃ z, z = h0 := ⟨_, rfl⟩
  rw [← hh0] at eT
  replace O : Old Z n0 h := by rw [hh0]; exact O
  replace K0 : Keep h0 h [] := by rw [hh0]; exact K0
  rw [← hh0] at F_state_a1
  refine own_via (g' := (mkF m 1 #[.val (.ref a1)] [(.ref a1)])) (fun t_ k_ => XS.aloadN X.here hx rfl (hb hby ep11m6_d0) rfl rfl k_) ?_
  obtain ⟨T, X, eT, st⟩ := getF X hx hZ hown (host := "") (Or.inl (hw _ (own_w 12 rfl))) Via.refl eT F_state_a1 (g := (mkF m 1 #[.val (.ref a1)] [(.ref a1)])) rfl rfl (hb hby ep11m6_d1)
  refine own_via (g' := (mkF m 4 #[.val (.ref a1)] [(.ref wHEAD)])) st ?_
  obtain ⟨T, X, eT, st⟩ := getS2 X hx hZ hown (host := "") (Or.inl (hw _ (own_w 62 rfl))) Via.refl eT (S_UNTIL_CLOSE.ext O.2) (g := (mkF m 4 #[.val (.ref a1)] [(.ref wHEAD)])) rfl (hb hby ep11m6_d4)
  refine own_via (g' := (mkF m 7 #[.val (.ref a1)] [(.ref wUNTIL_CLOSE), (.ref wHEAD)])) st ?_
  refine own_via (g' := (mkF m 18 #[.val (.ref a1)] [(.ref a1)])) (fun t_ k_ => Jvm.RoadKit.acmp (g := (mkF m 7 #[.val (.ref a1)] [(.ref wUNTIL_CLOSE), (.ref wHEAD)])) X hx rfl rfl rfl (pc0 := 7) (pc' := 17) (same := false) rfl (hb hby ep11m6_d7) rfl (decide_eq_false fun q => neHU (Value.ref.inj q)) (by decide) (by decide) (XS.aloadN X.here hx rfl (hb hby ep11m6_d17) rfl rfl k_)) ?_
  obtain ⟨T, X, eT, st⟩ := getF X hx hZ hown (host := "") (Or.inl (hw _ (own_w 12 rfl))) Via.refl eT F_state_a1 (g := (mkF m 18 #[.val (.ref a1)] [(.ref a1)])) rfl rfl (hb hby ep11m6_d18)
  refine own_via (g' := (mkF m 21 #[.val (.ref a1)] [(.ref wHEAD)])) st ?_
  obtain ⟨T, X, eT, st⟩ := getS2 X hx hZ hown (host := "") (Or.inl (hw _ (own_w 9 rfl))) Via.refl eT (S_DONE.ext O.2) (g := (mkF m 21 #[.val (.ref a1)] [(.ref wHEAD)])) rfl (hb hby ep11m6_d21)
  refine own_via (g' := (mkF m 24 #[.val (.ref a1)] [(.ref wDONE), (.ref wHEAD)])) st ?_
  refine own_via (g' := (mkF m 32 #[.val (.ref a1)] [(.int 0)])) (fun t_ k_ => Jvm.RoadKit.acmp (g := (mkF m 24 #[.val (.ref a1)] [(.ref wDONE), (.ref wHEAD)])) X hx rfl rfl rfl (pc0 := 24) (pc' := 31) (same := false) rfl (hb hby ep11m6_d24) rfl (decide_eq_false fun q => neHD (Value.ref.inj q)) (by decide) (by decide) (XS.iconst X.here hx rfl (hb hby ep11m6_d31) k_)) ?_
  refine own_retN X hx hlk (t := .boolean) Bd.returns (by simp) (hb hby ep11m6_d32) (by decide) (by decide) ?_
  rw [eT]
  exact ⟨rfl, N, hh0⟩
theorem ej116m20_d0 : decode jdk_116_method_20_code 0 = .ok (.iload_n 1, 1) := by decide +kernel
theorem ej116m20_d1 : decode jdk_116_method_20_code 1 = .ok (.bipush 65, 2) := by decide +kernel
theorem ej116m20_d3 : decode jdk_116_method_20_code 3 = .ok (.if_icmp .ge 5, 3) := by decide +kernel
theorem ej116m20_d6 : decode jdk_116_method_20_code 6 = .ok (.iload_n 1, 1) := by decide +kernel
theorem ej116m20_d7 : decode jdk_116_method_20_code 7 = .ok (.ireturn, 1) := by decide +kernel
theorem ej116m20_d8 : decode jdk_116_method_20_code 8 = .ok (.iload_n 1, 1) := by decide +kernel
theorem ej116m20_d9 : decode jdk_116_method_20_code 9 = .ok (.bipush 32, 2) := by decide +kernel
theorem ej116m20_d11 : decode jdk_116_method_20_code 11 = .ok (.ior, 1) := by decide +kernel
theorem ej116m20_d12 : decode jdk_116_method_20_code 12 = .ok (.istore_n 2, 1) := by decide +kernel
theorem ej116m20_d13 : decode jdk_116_method_20_code 13 = .ok (.iload_n 2, 1) := by decide +kernel
theorem ej116m20_d14 : decode jdk_116_method_20_code 14 = .ok (.bipush 122, 2) := by decide +kernel
theorem ej116m20_d16 : decode jdk_116_method_20_code 16 = .ok (.if_icmp .le 24, 3) := by decide +kernel
theorem ej116m20_d40 : decode jdk_116_method_20_code 40 = .ok (.iload_n 2, 1) := by decide +kernel
theorem ej116m20_d41 : decode jdk_116_method_20_code 41 = .ok (.ireturn, 1) := by decide +kernel
theorem own_tl_pn : plainFor (⟨"java/lang/CharacterDataLatin1", "toLowerCase", "(I)I"⟩ : MethodName) = true := by first | exact plainFor_of_name (by first | (simp [plainName, overriddenIn]; done) | decide +kernel) | decide +kernel | exact Jvm.Free.JP.mathPlain rfl (by decide +kernel)
theorem own_tl_ef (m : MethodId) (x0 : Addr) (x1 : Int32) : entryFrame m #[(.ref x0), (.int x1)] 3 = mkF m 0 #[.val (.ref x0), .val (.int x1), .unset] [] := by first | (simp [entryFrame, mkF, argsToLocals, Value.category]; done) | rfl
def own_tl_Q (Z : State) (a1 : Addr) (c1 : Int32) (r1 : Int32) (h0 : Heap) (n0 : Nat) (v : Option Value) (h : Heap) (L : List Loc) : Prop := v = some (.int r1) ∧ Fr n0 L ∧ h = h0
set_option maxRecDepth 65536 in
set_option maxHeartbeats 40000000 in
theorem own_tl (l : Launch) (Z : State) (a0 : Array Value) (hw : ∀ d ∈ tables_1, d.before a0 Z = true) (ws : List Jvm.Cond) (a1 : Addr) (c1 : Int32) (r1 : Int32) (h0 : Heap) (n0 : Nat) (O : Old Z n0 h0) (hp : (c1, r1) ∈ own_DC) :
    MetFree l (⟨"java/lang/CharacterDataLatin1", "toLowerCase", "(I)I"⟩ : MethodName) (head1 (Jvm.Cond.code (⟨"java/lang/CharacterDataLatin1", "toLowerCase", "(I)I"⟩ : MethodName) jdk_116_method_20_code 3 (some .int) :: ws) ({ frames := 0, cells := 0, slots := 0, locals := 0 } : Room)) (fun a U => a = #[(.ref a1), (.int c1)] ∧ Z.Warmed39 U.vm ∧ U.heap = h0) (fun _ _ _ _ _ => True) (fun _ U o U' => ∃ v L, o = .returned v ∧ own_tl_Q Z a1 c1 r1 h0 n0 v U'.heap L ∧ FrameEnd U o U' L ({ frames := 0, cells := 0, slots := 0, locals := 0 } : Room).cells ({ frames := 0, cells := 0, slots := 0, locals := 0 } : Room).slots) := by
  refine MetFree.of_bodySF own_tl_pn hisR ?_
  intro p e s m args below meth c s₁ Bd hml0 hP hK
  obtain ⟨rfl, hZ, hh⟩ := hP
  have hx := Bd.exec
  have hby := Bd.bytes
  have hlk := Bd.notSynchronized
  have hml : c.maxLocals = 3 := hml0
  have hown : s.vm.findClass "java/lang/CharacterDataLatin1" = some m.cls := findClass_of_methodNamed Bd.named
  have hnm := (name_of_methodNamed Bd.named Bd.method).1
  have X : Stand p l e ({ frames := 0, cells := 0, slots := 0, locals := 0 } : Room) s m #[(.ref a1), (.int c1)] below meth c s₁ [] 0 0 := Stand.of_body Bd
  have eT : s₁.heap = h0 := by rw [← hh, Bd.state]; rfl
  have N := Fr.nil n0
  have K0 := Keep.refl h0 []
  show own_Ends p e below (own_Post s below (own_tl_Q Z a1 c1 r1 h0 n0) ({ frames := 0, cells := 0, slots := 0, locals := 0 } : Room).cells ({ frames := 0, cells := 0, slots := 0, locals := 0 } : Room).slots) s₁ (entryFrame m #[(.ref a1), (.int c1)] 3)
  rw [own_tl_ef m a1 c1]
  obtain ⟨T, hT⟩ : ∃ z, z = s₁ := ⟨_, rfl⟩
  rw [← hT] at X eT ⊢
  obtain ⟨h, hh0⟩ : ∃ z, z = h0 := ⟨_, rfl⟩
  rw [← hh0] at eT
  replace O : Old Z n0 h := by rw [hh0]; exact O
  replace K0 : Keep h0 h [] := by rw [hh0]; exact K0
  refine own_via (g' := (mkF m 3 (own_A39 a1 c1) [(.int 65), (.int c1)])) (fun t_ k_ => XS.iloadN X.here hx rfl (hb hby ej116m20_d0) rfl (XS.bipush X.here hx rfl (hb hby ej116m20_d1) k_)) ?_
  by_cases hc1 : c1 < (65 : Int32)
  · refine own_via (g' := (mkF m 7 (own_A39 a1 c1) [(.int c1)])) (fun t_ k_ => XS.icmpNo X.here hx rfl (hb hby ej116m20_d3) rfl (tlt hc1).2.1 (XS.iloadN X.here hx rfl (hb hby ej116m20_d6) rfl k_)) ?_
    refine own_retW X hx hlk Bd.returns rfl (Or.inl ⟨rfl, Or.inl rfl, _, rfl⟩) (hb hby ej116m20_d7) (by decide) (by decide) ?_
    rw [eT]
    exact ⟨by rw [show c1 = r1 from (own_dom2 (P := fun c1 r1 => c1 < (65 : Int32) → c1 = r1) (by decide) hp) hc1], N, hh0⟩
  · refine own_via (g' := (mkF m 12 (own_A39 a1 c1) [(.int (c1 ||| (32 : Int32)))])) (fun t_ k_ => XS.icmpYes X.here hx rfl (pc0 := 3) (pc' := 8) rfl (hb hby ej116m20_d3) rfl (flt hc1).2.1 (by decide) (by decide) (XS.iloadN X.here hx rfl (hb hby ej116m20_d8) rfl (XS.bipush X.here hx rfl (hb hby ej116m20_d9) (XS.ior X.here hx rfl (hb hby ej116m20_d11) rfl k_)))) ?_
    rw [(show (c1 ||| (32 : Int32)) = r1 from (own_dom2 (P := fun c1 r1 => (c1 ||| (32 : Int32)) = r1) (by decide) hp))]
    refine own_via (g' := (mkF m 41 (own_A36 a1 c1 r1) [(.int r1)])) (fun t_ k_ => XS.istoreN X.here hx rfl (hb hby ej116m20_d12) rfl (l' := (own_A36 a1 c1 r1)) rfl (XS.iloadN X.here hx rfl (hb hby ej116m20_d13) rfl (XS.bipush X.here hx rfl (hb hby ej116m20_d14) (XS.icmpYes X.here hx rfl (pc0 := 16) (pc' := 40) rfl (hb hby ej116m20_d16) rfl (flt (own_dom2 (P := fun c1 r1 => ¬ ((122 : Int32) < r1)) (by decide) hp)).2.2.2 (by decide) (by decide) (XS.iloadN X.here hx rfl (hb hby ej116m20_d40) rfl k_))))) ?_
    refine own_retW X hx hlk Bd.returns rfl (Or.inl ⟨rfl, Or.inl rfl, _, rfl⟩) (hb hby ej116m20_d41) (by decide) (by decide) ?_
    rw [eT]
    exact ⟨rfl, N, hh0⟩
theorem ej43m4_d0 : decode jdk_43_method_4_code 0 = .ok (.iload_n 0, 1) := by decide +kernel
theorem ej43m4_d1 : decode jdk_43_method_4_code 1 = .ok (.ifCond .lt 14, 3) := by decide +kernel
theorem ej43m4_d4 : decode jdk_43_method_4_code 4 = .ok (.iload_n 0, 1) := by decide +kernel
theorem ej43m4_d5 : decode jdk_43_method_4_code 5 = .ok (.sipush 255, 3) := by decide +kernel
theorem ej43m4_d8 : decode jdk_43_method_4_code 8 = .ok (.if_icmp .gt 7, 3) := by decide +kernel
theorem ej43m4_d11 : decode jdk_43_method_4_code 11 = .ok (.iconst 1, 1) := by decide +kernel
theorem ej43m4_d12 : decode jdk_43_method_4_code 12 = .ok (.goto 4, 3) := by decide +kernel
theorem ej43m4_d16 : decode jdk_43_method_4_code 16 = .ok (.ireturn, 1) := by decide +kernel
theorem own_can_pn : plainFor (⟨"java/lang/StringLatin1", "canEncode", "(I)Z"⟩ : MethodName) = true := by first | exact plainFor_of_name (by first | (simp [plainName, overriddenIn]; done) | decide +kernel) | decide +kernel | exact Jvm.Free.JP.mathPlain rfl (by decide +kernel)
theorem own_can_ef (m : MethodId) (x0 : Int32) : entryFrame m #[(.int x0)] 1 = mkF m 0 #[.val (.int x0)] [] := by first | (simp [entryFrame, mkF, argsToLocals, Value.category]; done) | rfl
def own_can_Q (Z : State) (c1 : Int32) (r1 : Int32) (h0 : Heap) (n0 : Nat) (v : Option Value) (h : Heap) (L : List Loc) : Prop := v = some (.int 1) ∧ Fr n0 L ∧ h = h0
set_option maxRecDepth 65536 in
set_option maxHeartbeats 40000000 in
theorem own_can (l : Launch) (Z : State) (a0 : Array Value) (hw : ∀ d ∈ tables_1, d.before a0 Z = true) (ws : List Jvm.Cond) (c1 : Int32) (r1 : Int32) (h0 : Heap) (n0 : Nat) (O : Old Z n0 h0) (hp : (c1, r1) ∈ own_DC) :
    MetFree l (⟨"java/lang/StringLatin1", "canEncode", "(I)Z"⟩ : MethodName) (head1 (Jvm.Cond.code (⟨"java/lang/StringLatin1", "canEncode", "(I)Z"⟩ : MethodName) jdk_43_method_4_code 1 (some .boolean) :: ws) ({ frames := 0, cells := 0, slots := 0, locals := 0 } : Room)) (fun a U => a = #[(.int c1)] ∧ Z.Warmed39 U.vm ∧ U.heap = h0) (fun _ _ _ _ _ => True) (fun _ U o U' => ∃ v L, o = .returned v ∧ own_can_Q Z c1 r1 h0 n0 v U'.heap L ∧ FrameEnd U o U' L ({ frames := 0, cells := 0, slots := 0, locals := 0 } : Room).cells ({ frames := 0, cells := 0, slots := 0, locals := 0 } : Room).slots) := by
  refine MetFree.of_bodySF own_can_pn hisR ?_
  intro p e s m args below meth c s₁ Bd hml0 hP hK
  obtain ⟨rfl, hZ, hh⟩ := hP
  have hx := Bd.exec
  have hby := Bd.bytes
  have hlk := Bd.notSynchronized
  have hml : c.maxLocals = 1 := hml0
  have hown : s.vm.findClass "java/lang/StringLatin1" = some m.cls := findClass_of_methodNamed Bd.named
  have hnm := (name_of_methodNamed Bd.named Bd.method).1
  have X : Stand p l e ({ frames := 0, cells := 0, slots := 0, locals := 0 } : Room) s m #[(.int c1)] below meth c s₁ [] 0 0 := Stand.of_body Bd
  have eT : s₁.heap = h0 := by rw [← hh, Bd.state]; rfl
  have N := Fr.nil n0
  have K0 := Keep.refl h0 []
  show own_Ends p e below (own_Post s below (own_can_Q Z c1 r1 h0 n0) ({ frames := 0, cells := 0, slots := 0, locals := 0 } : Room).cells ({ frames := 0, cells := 0, slots := 0, locals := 0 } : Room).slots) s₁ (entryFrame m #[(.int c1)] 1)
  rw [own_can_ef m c1]
  obtain ⟨T, hT⟩ : ∃ z, z = s₁ := ⟨_, rfl⟩
  rw [← hT] at X eT ⊢
  obtain ⟨h, hh0⟩ : ∃ z, z = h0 := ⟨_, rfl⟩
  rw [← hh0] at eT
  replace O : Old Z n0 h := by rw [hh0]; exact O
  replace K0 : Keep h0 h [] := by rw [hh0]; exact K0
  refine own_via (g' := (mkF m 16 #[.val (.int c1)] [(.int 1)])) (fun t_ k_ => XS.iloadN X.here hx rfl (hb hby ej43m4_d0) rfl (XS.ifNo X.here hx rfl (hb hby ej43m4_d1) rfl ((if0 _ _).trans (flt (own_dom2 (P := fun c1 r1 => ¬ (c1 < (0 : Int32))) (by decide) hp)).1) (XS.iloadN X.here hx rfl (hb hby ej43m4_d4) rfl (XS.sipush X.here hx rfl (hb hby ej43m4_d5) (XS.icmpNo X.here hx rfl (hb hby ej43m4_d8) rfl (flt (own_dom2 (P := fun c1 r1 => ¬ ((255 : Int32) < c1)) (by decide) hp)).2.2.1 (XS.iconst X.here hx rfl (hb hby ej43m4_d11) (XS.goto X.here hx rfl (pc0 := 12) (pc' := 16) rfl (hb hby ej43m4_d12) (by decide) (by decide) k_))))))) ?_
  refine own_retN X hx hlk (t := .boolean) Bd.returns (by simp) (hb hby ej43m4_d16) (by decide) (by decide) ?_
  rw [eT]
  exact ⟨rfl, N, hh0⟩
theorem ej123m3_d0 : decode jdk_123_method_3_code 0 = .ok (.iload_n 1, 1) := by decide +kernel
theorem ej123m3_d1 : decode jdk_123_method_3_code 1 = .ok (.iload_n 2, 1) := by decide +kernel
theorem ej123m3_d2 : decode jdk_123_method_3_code 2 = .ok (.iadd, 1) := by decide +kernel
theorem ej123m3_d3 : decode jdk_123_method_3_code 3 = .ok (.istore_n 3, 1) := by decide +kernel
theorem ej123m3_d4 : decode jdk_123_method_3_code 4 = .ok (.iload_n 1, 1) := by decide +kernel
theorem ej123m3_d5 : decode jdk_123_method_3_code 5 = .ok (.istore 4, 2) := by decide +kernel
theorem ej123m3_d7 : decode jdk_123_method_3_code 7 = .ok (.iload 4, 2) := by decide +kernel
theorem ej123m3_d9 : decode jdk_123_method_3_code 9 = .ok (.iload_n 3, 1) := by decide +kernel
theorem ej123m3_d10 : decode jdk_123_method_3_code 10 = .ok (.if_icmp .ge 21, 3) := by decide +kernel
theorem ej123m3_d13 : decode jdk_123_method_3_code 13 = .ok (.aload_n 0, 1) := by decide +kernel
theorem ej123m3_d14 : decode jdk_123_method_3_code 14 = .ok (.iload 4, 2) := by decide +kernel
theorem ej123m3_d16 : decode jdk_123_method_3_code 16 = .ok (.baload, 1) := by decide +kernel
theorem ej123m3_d17 : decode jdk_123_method_3_code 17 = .ok (.ifCond .ge 8, 3) := by decide +kernel
theorem ej123m3_d25 : decode jdk_123_method_3_code 25 = .ok (.iinc 4 1, 3) := by decide +kernel
theorem ej123m3_d28 : decode jdk_123_method_3_code 28 = .ok (.goto (-21), 3) := by decide +kernel
theorem ej123m3_d31 : decode jdk_123_method_3_code 31 = .ok (.iload_n 2, 1) := by decide +kernel
theorem ej123m3_d32 : decode jdk_123_method_3_code 32 = .ok (.ireturn, 1) := by decide +kernel
theorem own_cp_pn : plainFor (⟨"java/lang/StringCoding", "countPositives", "([BII)I"⟩ : MethodName) = true := by first | exact plainFor_of_name (by first | (simp [plainName, overriddenIn]; done) | decide +kernel) | decide +kernel | exact Jvm.Free.JP.mathPlain rfl (by decide +kernel)
theorem own_cp_ef (m : MethodId) (x0 : Addr) (x1 : Int32) (x2 : Int32) : entryFrame m #[(.ref x0), (.int x1), (.int x2)] 5 = mkF m 0 #[.val (.ref x0), .val (.int x1), .val (.int x2), .unset, .unset] [] := by first | (simp [entryFrame, mkF, argsToLocals, Value.category]; done) | rfl
def own_cp_Q (Z : State) (va : Addr) (kv : ClassId) (h0 : Heap) (n0 : Nat) (v : Option Value) (h : Heap) (L : List Loc) : Prop := v = some (.int 12) ∧ Fr n0 L ∧ h = h0
set_option maxRecDepth 65536 in
set_option maxHeartbeats 40000000 in
theorem own_cp (l : Launch) (Z : State) (a0 : Array Value) (hw : ∀ d ∈ tables_1, d.before a0 Z = true) (ws : List Jvm.Cond) (va : Addr) (kv : ClassId) (h0 : Heap) (n0 : Nat) (O : Old Z n0 h0) (E_va : Exa Z h0 va "[B") (V_va : Arv Z h0 va kv .byte (12 : Int32) [(.int 99), (.int 111), (.int 110), (.int 116), (.int 101), (.int 110), (.int 116), (.int 45), (.int 116), (.int 121), (.int 112), (.int 101)] (.int 0)) :
    MetFree l (⟨"java/lang/StringCoding", "countPositives", "([BII)I"⟩ : MethodName) (head1 (Jvm.Cond.code (⟨"java/lang/StringCoding", "countPositives", "([BII)I"⟩ : MethodName) jdk_123_method_3_code 5 (some .int) :: ws) ({ frames := 0, cells := 0, slots := 0, locals := 0 } : Room)) (fun a U => a = #[(.ref va), (.int 0), (.int 12)] ∧ Z.Warmed39 U.vm ∧ U.heap = h0) (fun _ _ _ _ _ => True) (fun _ U o U' => ∃ v L, o = .returned v ∧ own_cp_Q Z va kv h0 n0 v U'.heap L ∧ FrameEnd U o U' L ({ frames := 0, cells := 0, slots := 0, locals := 0 } : Room).cells ({ frames := 0, cells := 0, slots := 0, locals := 0 } : Room).slots) := by
  refine MetFree.of_bodySF own_cp_pn hisR ?_
  intro p e s m args below meth c s₁ Bd hml0 hP hK
  obtain ⟨rfl, hZ, hh⟩ := hP
  have hx := Bd.exec
  have hby := Bd.bytes
  have hlk := Bd.notSynchronized
  have hml : c.maxLocals = 5 := hml0
  have hown : s.vm.findClass "java/lang/StringCoding" = some m.cls := findClass_of_methodNamed Bd.named
  have hnm := (name_of_methodNamed Bd.named Bd.method).1
  have X : Stand p l e ({ frames := 0, cells := 0, slots := 0, locals := 0 } : Room) s m #[(.ref va), (.int 0), (.int 12)] below meth c s₁ [] 0 0 := Stand.of_body Bd
  have eT : s₁.heap = h0 := by rw [← hh, Bd.state]; rfl
  have N := Fr.nil n0
  have K0 := Keep.refl h0 []
  show own_Ends p e below (own_Post s below (own_cp_Q Z va kv h0 n0) ({ frames := 0, cells := 0, slots := 0, locals := 0 } : Room).cells ({ frames := 0, cells := 0, slots := 0, locals := 0 } : Room).slots) s₁ (entryFrame m #[(.ref va), (.int 0), (.int 12)] 5)
  rw [own_cp_ef m va (0 : Int32) (12 : Int32)]
  obtain ⟨T, hT⟩ : ∃ z, z = s₁ := ⟨_, rfl⟩
  rw [← hT] at X eT ⊢
  obtain ⟨h, hh0⟩ : ∃ z, z = h0 := ⟨_, rfl⟩
  rw [← hh0] at eT
  replace O : Old Z n0 h := by rw [hh0]; exact O
  replace K0 : Keep h0 h [] := by rw [hh0]; exact K0
  rw [← hh0] at E_va
  rw [← hh0] at V_va
  refine own_via (g' := (mkF m 3 #[.val (.ref va), .val (.int 0), .val (.int 12), .unset, .unset] [(.int ((0 : Int32) + (12 : Int32)))])) (fun t_ k_ => XS.iloadN X.here hx rfl (hb hby ej123m3_d0) rfl (XS.iloadN X.here hx rfl (hb hby ej123m3_d1) rfl (XS.iadd X.here hx rfl (hb hby ej123m3_d2) rfl k_))) ?_
  rw [(by decide : ((0 : Int32) + (12 : Int32)) = (12 : Int32))]
  refine own_via (g' := (mkF m 16 (own_A18 va 0 12 12 0) [(.int 0), (.ref va)])) (fun t_ k_ => XS.istoreN X.here hx rfl (hb hby ej123m3_d3) rfl (l' := #[.val (.ref va), .val (.int 0), .val (.int 12), .val (.int 12), .unset]) rfl (XS.iloadN X.here hx rfl (hb hby ej123m3_d4) rfl (XS.istore X.here hx rfl (hb hby ej123m3_d5) rfl (l' := (own_A18 va 0 12 12 0)) rfl (XS.iload X.here hx rfl (hb hby ej123m3_d7) rfl (XS.iloadN X.here hx rfl (hb hby ej123m3_d9) rfl (XS.icmpNo X.here hx rfl (hb hby ej123m3_d10) rfl (tlt (by decide : (0 : Int32) < (12 : Int32))).2.1 (XS.aloadN X.here hx rfl (hb hby ej123m3_d13) rfl rfl (XS.iload X.here hx rfl (hb hby ej123m3_d14) rfl k_)))))))) ?_
  obtain ⟨cl_, Ar_, -, Sz_, Nn_, Hs_, -⟩ := id V_va
  have hin_ : ¬ ((0 : Int32) < 0 ∨ cl_.slots.size ≤ ((0 : Int32)).toNatClampNeg) := inb_of Sz_ ⟨by decide, by decide⟩
  have hat_ : cl_.slots[((0 : Int32)).toNatClampNeg]? = some (.int 99) := Hs_.at hin_ rfl
  refine own_via (g' := (mkF m 28 (own_A18 va 0 12 12 ((0 : Int32) + (1 : Int32))) [])) (fun t_ k_ => X.baloadBytes hx (j := (0 : Int32)) (v := (.int 99)) (by rw [eT]; exact Ar_.1) (State.isArrayOf_alike hZ.alike Ar_.2.1) Ar_.2.2 hin_ hat_ (g := (mkF m 16 (own_A18 va 0 12 12 0) [(.int 0), (.ref va)])) rfl rfl (hb hby ej123m3_d16) _ (XS.ifYes X.here hx rfl (pc0 := 17) (pc' := 25) rfl (hb hby ej123m3_d17) rfl ((if0 _ _).trans (flt (by decide : ¬ ((99 : Int32) < (0 : Int32)))).2.1) (by decide) (by decide) (XS.iinc X.here hx rfl (hb hby ej123m3_d25) rfl (l' := (own_A18 va 0 12 12 ((0 : Int32) + (1 : Int32)))) rfl k_))) ?_
  rw [(by decide : ((0 : Int32) + (1 : Int32)) = (1 : Int32))]
  refine own_via (g' := (mkF m 16 (own_A18 va 0 12 12 1) [(.int 1), (.ref va)])) (fun t_ k_ => XS.goto X.here hx rfl (pc0 := 28) (pc' := 7) rfl (hb hby ej123m3_d28) (by decide) (by decide) (XS.iload X.here hx rfl (hb hby ej123m3_d7) rfl (XS.iloadN X.here hx rfl (hb hby ej123m3_d9) rfl (XS.icmpNo X.here hx rfl (hb hby ej123m3_d10) rfl (tlt (by decide : (1 : Int32) < (12 : Int32))).2.1 (XS.aloadN X.here hx rfl (hb hby ej123m3_d13) rfl rfl (XS.iload X.here hx rfl (hb hby ej123m3_d14) rfl k_)))))) ?_
  obtain ⟨cl_, Ar_, -, Sz_, Nn_, Hs_, -⟩ := id V_va
  have hin_ : ¬ ((1 : Int32) < 0 ∨ cl_.slots.size ≤ ((1 : Int32)).toNatClampNeg) := inb_of Sz_ ⟨by decide, by decide⟩
  have hat_ : cl_.slots[((1 : Int32)).toNatClampNeg]? = some (.int 111) := Hs_.at hin_ rfl
  refine own_via (g' := (mkF m 28 (own_A18 va 0 12 12 ((1 : Int32) + (1 : Int32))) [])) (fun t_ k_ => X.baloadBytes hx (j := (1 : Int32)) (v := (.int 111)) (by rw [eT]; exact Ar_.1) (State.isArrayOf_alike hZ.alike Ar_.2.1) Ar_.2.2 hin_ hat_ (g := (mkF m 16 (own_A18 va 0 12 12 1) [(.int 1), (.ref va)])) rfl rfl (hb hby ej123m3_d16) _ (XS.ifYes X.here hx rfl (pc0 := 17) (pc' := 25) rfl (hb hby ej123m3_d17) rfl ((if0 _ _).trans (flt (by decide : ¬ ((111 : Int32) < (0 : Int32)))).2.1) (by decide) (by decide) (XS.iinc X.here hx rfl (hb hby ej123m3_d25) rfl (l' := (own_A18 va 0 12 12 ((1 : Int32) + (1 : Int32)))) rfl k_))) ?_
  rw [(by decide : ((1 : Int32) + (1 : Int32)) = (2 : Int32))]
  refine own_via (g' := (mkF m 16 (own_A18 va 0 12 12 2) [(.int 2), (.ref va)])) (fun t_ k_ => XS.goto X.here hx rfl (pc0 := 28) (pc' := 7) rfl (hb hby ej123m3_d28) (by decide) (by decide) (XS.iload X.here hx rfl (hb hby ej123m3_d7) rfl (XS.iloadN X.here hx rfl (hb hby ej123m3_d9) rfl (XS.icmpNo X.here hx rfl (hb hby ej123m3_d10) rfl (tlt (by decide : (2 : Int32) < (12 : Int32))).2.1 (XS.aloadN X.here hx rfl (hb hby ej123m3_d13) rfl rfl (XS.iload X.here hx rfl (hb hby ej123m3_d14) rfl k_)))))) ?_
  obtain ⟨cl_, Ar_, -, Sz_, Nn_, Hs_, -⟩ := id V_va
  have hin_ : ¬ ((2 : Int32) < 0 ∨ cl_.slots.size ≤ ((2 : Int32)).toNatClampNeg) := inb_of Sz_ ⟨by decide, by decide⟩
  have hat_ : cl_.slots[((2 : Int32)).toNatClampNeg]? = some (.int 110) := Hs_.at hin_ rfl
  refine own_via (g' := (mkF m 28 (own_A18 va 0 12 12 ((2 : Int32) + (1 : Int32))) [])) (fun t_ k_ => X.baloadBytes hx (j := (2 : Int32)) (v := (.int 110)) (by rw [eT]; exact Ar_.1) (State.isArrayOf_alike hZ.alike Ar_.2.1) Ar_.2.2 hin_ hat_ (g := (mkF m 16 (own_A18 va 0 12 12 2) [(.int 2), (.ref va)])) rfl rfl (hb hby ej123m3_d16) _ (XS.ifYes X.here hx rfl (pc0 := 17) (pc' := 25) rfl (hb hby ej123m3_d17) rfl ((if0 _ _).trans (flt (by decide : ¬ ((110 : Int32) < (0 : Int32)))).2.1) (by decide) (by decide) (XS.iinc X.here hx rfl (hb hby ej123m3_d25) rfl (l' := (own_A18 va 0 12 12 ((2 : Int32) + (1 : Int32)))) rfl k_))) ?_
  rw [(by decide : ((2 : Int32) + (1 : Int32)) = (3 : Int32))]
  refine own_via (g' := (mkF m 16 (own_A18 va 0 12 12 3) [(.int 3), (.ref va)])) (fun t_ k_ => XS.goto X.here hx rfl (pc0 := 28) (pc' := 7) rfl (hb hby ej123m3_d28) (by decide) (by decide) (XS.iload X.here hx rfl (hb hby ej123m3_d7) rfl (XS.iloadN X.here hx rfl (hb hby ej123m3_d9) rfl (XS.icmpNo X.here hx rfl (hb hby ej123m3_d10) rfl (tlt (by decide : (3 : Int32) < (12 : Int32))).2.1 (XS.aloadN X.here hx rfl (hb hby ej123m3_d13) rfl rfl (XS.iload X.here hx rfl (hb hby ej123m3_d14) rfl k_)))))) ?_
  obtain ⟨cl_, Ar_, -, Sz_, Nn_, Hs_, -⟩ := id V_va
  have hin_ : ¬ ((3 : Int32) < 0 ∨ cl_.slots.size ≤ ((3 : Int32)).toNatClampNeg) := inb_of Sz_ ⟨by decide, by decide⟩
  have hat_ : cl_.slots[((3 : Int32)).toNatClampNeg]? = some (.int 116) := Hs_.at hin_ rfl
  refine own_via (g' := (mkF m 28 (own_A18 va 0 12 12 ((3 : Int32) + (1 : Int32))) [])) (fun t_ k_ => X.baloadBytes hx (j := (3 : Int32)) (v := (.int 116)) (by rw [eT]; exact Ar_.1) (State.isArrayOf_alike hZ.alike Ar_.2.1) Ar_.2.2 hin_ hat_ (g := (mkF m 16 (own_A18 va 0 12 12 3) [(.int 3), (.ref va)])) rfl rfl (hb hby ej123m3_d16) _ (XS.ifYes X.here hx rfl (pc0 := 17) (pc' := 25) rfl (hb hby ej123m3_d17) rfl ((if0 _ _).trans (flt (by decide : ¬ ((116 : Int32) < (0 : Int32)))).2.1) (by decide) (by decide) (XS.iinc X.here hx rfl (hb hby ej123m3_d25) rfl (l' := (own_A18 va 0 12 12 ((3 : Int32) + (1 : Int32)))) rfl k_))) ?_
  rw [(by decide : ((3 : Int32) + (1 : Int32)) = (4 : Int32))]
  refine own_via (g' := (mkF m 16 (own_A18 va 0 12 12 4) [(.int 4), (.ref va)])) (fun t_ k_ => XS.goto X.here hx rfl (pc0 := 28) (pc' := 7) rfl (hb hby ej123m3_d28) (by decide) (by decide) (XS.iload X.here hx rfl (hb hby ej123m3_d7) rfl (XS.iloadN X.here hx rfl (hb hby ej123m3_d9) rfl (XS.icmpNo X.here hx rfl (hb hby ej123m3_d10) rfl (tlt (by decide : (4 : Int32) < (12 : Int32))).2.1 (XS.aloadN X.here hx rfl (hb hby ej123m3_d13) rfl rfl (XS.iload X.here hx rfl (hb hby ej123m3_d14) rfl k_)))))) ?_
  obtain ⟨cl_, Ar_, -, Sz_, Nn_, Hs_, -⟩ := id V_va
  have hin_ : ¬ ((4 : Int32) < 0 ∨ cl_.slots.size ≤ ((4 : Int32)).toNatClampNeg) := inb_of Sz_ ⟨by decide, by decide⟩
  have hat_ : cl_.slots[((4 : Int32)).toNatClampNeg]? = some (.int 101) := Hs_.at hin_ rfl
  refine own_via (g' := (mkF m 28 (own_A18 va 0 12 12 ((4 : Int32) + (1 : Int32))) [])) (fun t_ k_ => X.baloadBytes hx (j := (4 : Int32)) (v := (.int 101)) (by rw [eT]; exact Ar_.1) (State.isArrayOf_alike hZ.alike Ar_.2.1) Ar_.2.2 hin_ hat_ (g := (mkF m 16 (own_A18 va 0 12 12 4) [(.int 4), (.ref va)])) rfl rfl (hb hby ej123m3_d16) _ (XS.ifYes X.here hx rfl (pc0 := 17) (pc' := 25) rfl (hb hby ej123m3_d17) rfl ((if0 _ _).trans (flt (by decide : ¬ ((101 : Int32) < (0 : Int32)))).2.1) (by decide) (by decide) (XS.iinc X.here hx rfl (hb hby ej123m3_d25) rfl (l' := (own_A18 va 0 12 12 ((4 : Int32) + (1 : Int32)))) rfl k_))) ?_
  rw [(by decide : ((4 : Int32) + (1 : Int32)) = (5 : Int32))]
  refine own_via (g' := (mkF m 16 (own_A18 va 0 12 12 5) [(.int 5), (.ref va)])) (fun t_ k_ => XS.goto X.here hx rfl (pc0 := 28) (pc' := 7) rfl (hb hby ej123m3_d28) (by decide) (by decide) (XS.iload X.here hx rfl (hb hby ej123m3_d7) rfl (XS.iloadN X.here hx rfl (hb hby ej123m3_d9) rfl (XS.icmpNo X.here hx rfl (hb hby ej123m3_d10) rfl (tlt (by decide : (5 : Int32) < (12 : Int32))).2.1 (XS.aloadN X.here hx rfl (hb hby ej123m3_d13) rfl rfl (XS.iload X.here hx rfl (hb hby ej123m3_d14) rfl k_)))))) ?_
  obtain ⟨cl_, Ar_, -, Sz_, Nn_, Hs_, -⟩ := id V_va
  have hin_ : ¬ ((5 : Int32) < 0 ∨ cl_.slots.size ≤ ((5 : Int32)).toNatClampNeg) := inb_of Sz_ ⟨by decide, by decide⟩
  have hat_ : cl_.slots[((5 : Int32)).toNatClampNeg]? = some (.int 110) := Hs_.at hin_ rfl
  refine own_via (g' := (mkF m 28 (own_A18 va 0 12 12 ((5 : Int32) + (1 : Int32))) [])) (fun t_ k_ => X.baloadBytes hx (j := (5 : Int32)) (v := (.int 110)) (by rw [eT]; exact Ar_.1) (State.isArrayOf_alike hZ.alike Ar_.2.1) Ar_.2.2 hin_ hat_ (g := (mkF m 16 (own_A18 va 0 12 12 5) [(.int 5), (.ref va)])) rfl rfl (hb hby ej123m3_d16) _ (XS.ifYes X.here hx rfl (pc0 := 17) (pc' := 25) rfl (hb hby ej123m3_d17) rfl ((if0 _ _).trans (flt (by decide : ¬ ((110 : Int32) < (0 : Int32)))).2.1) (by decide) (by decide) (XS.iinc X.here hx rfl (hb hby ej123m3_d25) rfl (l' := (own_A18 va 0 12 12 ((5 : Int32) + (1 : Int32)))) rfl k_))) ?_
  rw [(by decide : ((5 : Int32) + (1 : Int32)) = (6 : Int32))]
  refine own_via (g' := (mkF m 16 (own_A18 va 0 12 12 6) [(.int 6), (.ref va)])) (fun t_ k_ => XS.goto X.here hx rfl (pc0 := 28) (pc' := 7) rfl (hb hby ej123m3_d28) (by decide) (by decide) (XS.iload X.here hx rfl (hb hby ej123m3_d7) rfl (XS.iloadN X.here hx rfl (hb hby ej123m3_d9) rfl (XS.icmpNo X.here hx rfl (hb hby ej123m3_d10) rfl (tlt (by decide : (6 : Int32) < (12 : Int32))).2.1 (XS.aloadN X.here hx rfl (hb hby ej123m3_d13) rfl rfl (XS.iload X.here hx rfl (hb hby ej123m3_d14) rfl k_)))))) ?_
  obtain ⟨cl_, Ar_, -, Sz_, Nn_, Hs_, -⟩ := id V_va
  have hin_ : ¬ ((6 : Int32) < 0 ∨ cl_.slots.size ≤ ((6 : Int32)).toNatClampNeg) := inb_of Sz_ ⟨by decide, by decide⟩
  have hat_ : cl_.slots[((6 : Int32)).toNatClampNeg]? = some (.int 116) := Hs_.at hin_ rfl
  refine own_via (g' := (mkF m 28 (own_A18 va 0 12 12 ((6 : Int32) + (1 : Int32))) [])) (fun t_ k_ => X.baloadBytes hx (j := (6 : Int32)) (v := (.int 116)) (by rw [eT]; exact Ar_.1) (State.isArrayOf_alike hZ.alike Ar_.2.1) Ar_.2.2 hin_ hat_ (g := (mkF m 16 (own_A18 va 0 12 12 6) [(.int 6), (.ref va)])) rfl rfl (hb hby ej123m3_d16) _ (XS.ifYes X.here hx rfl (pc0 := 17) (pc' := 25) rfl (hb hby ej123m3_d17) rfl ((if0 _ _).trans (flt (by decide : ¬ ((116 : Int32) < (0 : Int32)))).2.1) (by decide) (by decide) (XS.iinc X.here hx rfl (hb hby ej123m3_d25) rfl (l' := (own_A18 va 0 12 12 ((6 : Int32) + (1 : Int32)))) rfl k_))) ?_
  rw [(by decide : ((6 : Int32) + (1 : Int32)) = (7 : Int32))]
  refine own_via (g' := (mkF m 16 (own_A18 va 0 12 12 7) [(.int 7), (.ref va)])) (fun t_ k_ => XS.goto X.here hx rfl (pc0 := 28) (pc' := 7) rfl (hb hby ej123m3_d28) (by decide) (by decide) (XS.iload X.here hx rfl (hb hby ej123m3_d7) rfl (XS.iloadN X.here hx rfl (hb hby ej123m3_d9) rfl (XS.icmpNo X.here hx rfl (hb hby ej123m3_d10) rfl (tlt (by decide : (7 : Int32) < (12 : Int32))).2.1 (XS.aloadN X.here hx rfl (hb hby ej123m3_d13) rfl rfl (XS.iload X.here hx rfl (hb hby ej123m3_d14) rfl k_)))))) ?_
  obtain ⟨cl_, Ar_, -, Sz_, Nn_, Hs_, -⟩ := id V_va
  have hin_ : ¬ ((7 : Int32) < 0 ∨ cl_.slots.size ≤ ((7 : Int32)).toNatClampNeg) := inb_of Sz_ ⟨by decide, by decide⟩
  have hat_ : cl_.slots[((7 : Int32)).toNatClampNeg]? = some (.int 45) := Hs_.at hin_ rfl
  refine own_via (g' := (mkF m 28 (own_A18 va 0 12 12 ((7 : Int32) + (1 : Int32))) [])) (fun t_ k_ => X.baloadBytes hx (j := (7 : Int32)) (v := (.int 45)) (by rw [eT]; exact Ar_.1) (State.isArrayOf_alike hZ.alike Ar_.2.1) Ar_.2.2 hin_ hat_ (g := (mkF m 16 (own_A18 va 0 12 12 7) [(.int 7), (.ref va)])) rfl rfl (hb hby ej123m3_d16) _ (XS.ifYes X.here hx rfl (pc0 := 17) (pc' := 25) rfl (hb hby ej123m3_d17) rfl ((if0 _ _).trans (flt (by decide : ¬ ((45 : Int32) < (0 : Int32)))).2.1) (by decide) (by decide) (XS.iinc X.here hx rfl (hb hby ej123m3_d25) rfl (l' := (own_A18 va 0 12 12 ((7 : Int32) + (1 : Int32)))) rfl k_))) ?_
  rw [(by decide : ((7 : Int32) + (1 : Int32)) = (8 : Int32))]
  refine own_via (g' := (mkF m 16 (own_A18 va 0 12 12 8) [(.int 8), (.ref va)])) (fun t_ k_ => XS.goto X.here hx rfl (pc0 := 28) (pc' := 7) rfl (hb hby ej123m3_d28) (by decide) (by decide) (XS.iload X.here hx rfl (hb hby ej123m3_d7) rfl (XS.iloadN X.here hx rfl (hb hby ej123m3_d9) rfl (XS.icmpNo X.here hx rfl (hb hby ej123m3_d10) rfl (tlt (by decide : (8 : Int32) < (12 : Int32))).2.1 (XS.aloadN X.here hx rfl (hb hby ej123m3_d13) rfl rfl (XS.iload X.here hx rfl (hb hby ej123m3_d14) rfl k_)))))) ?_
  obtain ⟨cl_, Ar_, -, Sz_, Nn_, Hs_, -⟩ := id V_va
  have hin_ : ¬ ((8 : Int32) < 0 ∨ cl_.slots.size ≤ ((8 : Int32)).toNatClampNeg) := inb_of Sz_ ⟨by decide, by decide⟩
  have hat_ : cl_.slots[((8 : Int32)).toNatClampNeg]? = some (.int 116) := Hs_.at hin_ rfl
  refine own_via (g' := (mkF m 28 (own_A18 va 0 12 12 ((8 : Int32) + (1 : Int32))) [])) (fun t_ k_ => X.baloadBytes hx (j := (8 : Int32)) (v := (.int 116)) (by rw [eT]; exact Ar_.1) (State.isArrayOf_alike hZ.alike Ar_.2.1) Ar_.2.2 hin_ hat_ (g := (mkF m 16 (own_A18 va 0 12 12 8) [(.int 8), (.ref va)])) rfl rfl (hb hby ej123m3_d16) _ (XS.ifYes X.here hx rfl (pc0 := 17) (pc' := 25) rfl (hb hby ej123m3_d17) rfl ((if0 _ _).trans (flt (by decide : ¬ ((116 : Int32) < (0 : Int32)))).2.1) (by decide) (by decide) (XS.iinc X.here hx rfl (hb hby ej123m3_d25) rfl (l' := (own_A18 va 0 12 12 ((8 : Int32) + (1 : Int32)))) rfl k_))) ?_
  rw [(by decide : ((8 : Int32) + (1 : Int32)) = (9 : Int32))]
  refine own_via (g' := (mkF m 16 (own_A18 va 0 12 12 9) [(.int 9), (.ref va)])) (fun t_ k_ => XS.goto X.here hx rfl (pc0 := 28) (pc' := 7) rfl (hb hby ej123m3_d28) (by decide) (by decide) (XS.iload X.here hx rfl (hb hby ej123m3_d7) rfl (XS.iloadN X.here hx rfl (hb hby ej123m3_d9) rfl (XS.icmpNo X.here hx rfl (hb hby ej123m3_d10) rfl (tlt (by decide : (9 : Int32) < (12 : Int32))).2.1 (XS.aloadN X.here hx rfl (hb hby ej123m3_d13) rfl rfl (XS.iload X.here hx rfl (hb hby ej123m3_d14) rfl k_)))))) ?_
  obtain ⟨cl_, Ar_, -, Sz_, Nn_, Hs_, -⟩ := id V_va
  have hin_ : ¬ ((9 : Int32) < 0 ∨ cl_.slots.size ≤ ((9 : Int32)).toNatClampNeg) := inb_of Sz_ ⟨by decide, by decide⟩
  have hat_ : cl_.slots[((9 : Int32)).toNatClampNeg]? = some (.int 121) := Hs_.at hin_ rfl
  refine own_via (g' := (mkF m 28 (own_A18 va 0 12 12 ((9 : Int32) + (1 : Int32))) [])) (fun t_ k_ => X.baloadBytes hx (j := (9 : Int32)) (v := (.int 121)) (by rw [eT]; exact Ar_.1) (State.isArrayOf_alike hZ.alike Ar_.2.1) Ar_.2.2 hin_ hat_ (g := (mkF m 16 (own_A18 va 0 12 12 9) [(.int 9), (.ref va)])) rfl rfl (hb hby ej123m3_d16) _ (XS.ifYes X.here hx rfl (pc0 := 17) (pc' := 25) rfl (hb hby ej123m3_d17) rfl ((if0 _ _).trans (flt (by decide : ¬ ((121 : Int32) < (0 : Int32)))).2.1) (by decide) (by decide) (XS.iinc X.here hx rfl (hb hby ej123m3_d25) rfl (l' := (own_A18 va 0 12 12 ((9 : Int32) + (1 : Int32)))) rfl k_))) ?_
  rw [(by decide : ((9 : Int32) + (1 : Int32)) = (10 : Int32))]
  refine own_via (g' := (mkF m 16 (own_A18 va 0 12 12 10) [(.int 10), (.ref va)])) (fun t_ k_ => XS.goto X.here hx rfl (pc0 := 28) (pc' := 7) rfl (hb hby ej123m3_d28) (by decide) (by decide) (XS.iload X.here hx rfl (hb hby ej123m3_d7) rfl (XS.iloadN X.here hx rfl (hb hby ej123m3_d9) rfl (XS.icmpNo X.here hx rfl (hb hby ej123m3_d10) rfl (tlt (by decide : (10 : Int32) < (12 : Int32))).2.1 (XS.aloadN X.here hx rfl (hb hby ej123m3_d13) rfl rfl (XS.iload X.here hx rfl (hb hby ej123m3_d14) rfl k_)))))) ?_
  obtain ⟨cl_, Ar_, -, Sz_, Nn_, Hs_, -⟩ := id V_va
  have hin_ : ¬ ((10 : Int32) < 0 ∨ cl_.slots.size ≤ ((10 : Int32)).toNatClampNeg) := inb_of Sz_ ⟨by decide, by decide⟩
  have hat_ : cl_.slots[((10 : Int32)).toNatClampNeg]? = some (.int 112) := Hs_.at hin_ rfl
  refine own_via (g' := (mkF m 28 (own_A18 va 0 12 12 ((10 : Int32) + (1 : Int32))) [])) (fun t_ k_ => X.baloadBytes hx (j := (10 : Int32)) (v := (.int 112)) (by rw [eT]; exact Ar_.1) (State.isArrayOf_alike hZ.alike Ar_.2.1) Ar_.2.2 hin_ hat_ (g := (mkF m 16 (own_A18 va 0 12 12 10) [(.int 10), (.ref va)])) rfl rfl (hb hby ej123m3_d16) _ (XS.ifYes X.here hx rfl (pc0 := 17) (pc' := 25) rfl (hb hby ej123m3_d17) rfl ((if0 _ _).trans (flt (by decide : ¬ ((112 : Int32) < (0 : Int32)))).2.1) (by decide) (by decide) (XS.iinc X.here hx rfl (hb hby ej123m3_d25) rfl (l' := (own_A18 va 0 12 12 ((10 : Int32) + (1 : Int32)))) rfl k_))) ?_
  rw [(by decide : ((10 : Int32) + (1 : Int32)) = (11 : Int32))]
  refine own_via (g' := (mkF m 16 (own_A18 va 0 12 12 11) [(.int 11), (.ref va)])) (fun t_ k_ => XS.goto X.here hx rfl (pc0 := 28) (pc' := 7) rfl (hb hby ej123m3_d28) (by decide) (by decide) (XS.iload X.here hx rfl (hb hby ej123m3_d7) rfl (XS.iloadN X.here hx rfl (hb hby ej123m3_d9) rfl (XS.icmpNo X.here hx rfl (hb hby ej123m3_d10) rfl (tlt (by decide : (11 : Int32) < (12 : Int32))).2.1 (XS.aloadN X.here hx rfl (hb hby ej123m3_d13) rfl rfl (XS.iload X.here hx rfl (hb hby ej123m3_d14) rfl k_)))))) ?_
  obtain ⟨cl_, Ar_, -, Sz_, Nn_, Hs_, -⟩ := id V_va
  have hin_ : ¬ ((11 : Int32) < 0 ∨ cl_.slots.size ≤ ((11 : Int32)).toNatClampNeg) := inb_of Sz_ ⟨by decide, by decide⟩
  have hat_ : cl_.slots[((11 : Int32)).toNatClampNeg]? = some (.int 101) := Hs_.at hin_ rfl
  refine own_via (g' := (mkF m 28 (own_A18 va 0 12 12 ((11 : Int32) + (1 : Int32))) [])) (fun t_ k_ => X.baloadBytes hx (j := (11 : Int32)) (v := (.int 101)) (by rw [eT]; exact Ar_.1) (State.isArrayOf_alike hZ.alike Ar_.2.1) Ar_.2.2 hin_ hat_ (g := (mkF m 16 (own_A18 va 0 12 12 11) [(.int 11), (.ref va)])) rfl rfl (hb hby ej123m3_d16) _ (XS.ifYes X.here hx rfl (pc0 := 17) (pc' := 25) rfl (hb hby ej123m3_d17) rfl ((if0 _ _).trans (flt (by decide : ¬ ((101 : Int32) < (0 : Int32)))).2.1) (by decide) (by decide) (XS.iinc X.here hx rfl (hb hby ej123m3_d25) rfl (l' := (own_A18 va 0 12 12 ((11 : Int32) + (1 : Int32)))) rfl k_))) ?_
  rw [(by decide : ((11 : Int32) + (1 : Int32)) = (12 : Int32))]
  refine own_via (g' := (mkF m 32 #[.val (.ref va), .val (.int 0), .val (.int 12), .val (.int 12), .val (.int 12)] [(.int 12)])) (fun t_ k_ => XS.goto X.here hx rfl (pc0 := 28) (pc' := 7) rfl (hb hby ej123m3_d28) (by decide) (by decide) (XS.iload X.here hx rfl (hb hby ej123m3_d7) rfl (XS.iloadN X.here hx rfl (hb hby ej123m3_d9) rfl (XS.icmpYes X.here hx rfl (pc0 := 10) (pc' := 31) rfl (hb hby ej123m3_d10) rfl (flt (by decide : ¬ ((12 : Int32) < (12 : Int32)))).2.1 (by decide) (by decide) (XS.iloadN X.here hx rfl (hb hby ej123m3_d31) rfl k_))))) ?_
  refine own_retW X hx hlk Bd.returns rfl (Or.inl ⟨rfl, Or.inl rfl, _, rfl⟩) (hb hby ej123m3_d32) (by decide) (by decide) ?_
  rw [eT]
  exact ⟨rfl, N, hh0⟩
theorem ej42m24_d0 : decode jdk_42_method_24_code 0 = .ok (.iload_n 0, 1) := by decide +kernel
theorem ej42m24_d1 : decode jdk_42_method_24_code 1 = .ok (.ifCond .ne 32, 3) := by decide +kernel
theorem ej42m24_d4 : decode jdk_42_method_24_code 4 = .ok (.aload_n 1, 1) := by decide +kernel
theorem ej42m24_d5 : decode jdk_42_method_24_code 5 = .ok (.iconst 0, 1) := by decide +kernel
theorem ej42m24_d6 : decode jdk_42_method_24_code 6 = .ok (.aload_n 1, 1) := by decide +kernel
theorem ej42m24_d7 : decode jdk_42_method_24_code 7 = .ok (.arraylength, 1) := by decide +kernel
theorem ej42m24_d8 : decode jdk_42_method_24_code 8 = .ok (.invokestatic 92, 3) := by decide +kernel
theorem ej42m24_d11 : decode jdk_42_method_24_code 11 = .ok (.istore_n 2, 1) := by decide +kernel
theorem ej42m24_d12 : decode jdk_42_method_24_code 12 = .ok (.aload_n 1, 1) := by decide +kernel
theorem ej42m24_d13 : decode jdk_42_method_24_code 13 = .ok (.invokevirtual 279, 3) := by decide +kernel
theorem ej42m24_d16 : decode jdk_42_method_24_code 16 = .ok (.checkcast 280, 3) := by decide +kernel
theorem ej42m24_d19 : decode jdk_42_method_24_code 19 = .ok (.astore_n 3, 1) := by decide +kernel
theorem ej42m24_d20 : decode jdk_42_method_24_code 20 = .ok (.iload_n 2, 1) := by decide +kernel
theorem ej42m24_d21 : decode jdk_42_method_24_code 21 = .ok (.aload_n 3, 1) := by decide +kernel
theorem ej42m24_d22 : decode jdk_42_method_24_code 22 = .ok (.arraylength, 1) := by decide +kernel
theorem ej42m24_d23 : decode jdk_42_method_24_code 23 = .ok (.if_icmp .ge 8, 3) := by decide +kernel
theorem ej42m24_d31 : decode jdk_42_method_24_code 31 = .ok (.aload_n 3, 1) := by decide +kernel
theorem ej42m24_d32 : decode jdk_42_method_24_code 32 = .ok (.areturn, 1) := by decide +kernel
theorem own_ea_pn : plainFor (⟨"java/lang/String", "encodeASCII", "(B[B)[B"⟩ : MethodName) = true := by first | exact plainFor_of_name (by first | (simp [plainName, overriddenIn]; done) | decide +kernel) | decide +kernel | exact Jvm.Free.JP.mathPlain rfl (by decide +kernel)
theorem own_ea_ef (m : MethodId) (x0 : Int32) (x1 : Addr) : entryFrame m #[(.int x0), (.ref x1)] 7 = mkF m 0 #[.val (.int x0), .val (.ref x1), .unset, .unset, .unset, .unset, .unset] [] := by first | (simp [entryFrame, mkF, argsToLocals, Value.category]; done) | rfl
def own_ea_Q (Z : State) (va : Addr) (kv : ClassId) (h0 : Heap) (n0 : Nat) (v : Option Value) (h : Heap) (L : List Loc) : Prop := ∃ b kb, v = some (.ref b) ∧ Fr n0 L ∧ Keep h0 h [] ∧ (kb : ClassId) = kb
set_option maxRecDepth 65536 in
set_option maxHeartbeats 40000000 in
theorem own_ea (l : Launch) (Z : State) (a0 : Array Value) (hw : ∀ d ∈ tables_1, d.before a0 Z = true) (ws : List Jvm.Cond) (va : Addr) (kv : ClassId) (h0 : Heap) (n0 : Nat) (O : Old Z n0 h0) (E_va : Exa Z h0 va "[B") (V_va : Arv Z h0 va kv .byte (12 : Int32) [(.int 99), (.int 111), (.int 110), (.int 116), (.int 101), (.int 110), (.int 116), (.int 45), (.int 116), (.int 121), (.int 112), (.int 101)] (.int 0)) :
    MetFree l (⟨"java/lang/String", "encodeASCII", "(B[B)[B"⟩ : MethodName) (head1 (Jvm.Cond.code (⟨"java/lang/String", "encodeASCII", "(B[B)[B"⟩ : MethodName) jdk_42_method_24_code 7 (some (.array .byte)) :: ws) ({ frames := 1, cells := 1, slots := 12, locals := 16 } : Room)) (fun a U => a = #[(.int 0), (.ref va)] ∧ Z.Warmed39 U.vm ∧ U.heap = h0) (fun _ _ _ _ _ => True) (fun _ U o U' => ∃ v L, o = .returned v ∧ own_ea_Q Z va kv h0 n0 v U'.heap L ∧ FrameEnd U o U' L ({ frames := 1, cells := 1, slots := 12, locals := 16 } : Room).cells ({ frames := 1, cells := 1, slots := 12, locals := 16 } : Room).slots) := by
  refine MetFree.of_bodySF own_ea_pn hisR ?_
  intro p e s m args below meth c s₁ Bd hml0 hP hK
  obtain ⟨rfl, hZ, hh⟩ := hP
  have hx := Bd.exec
  have hby := Bd.bytes
  have hlk := Bd.notSynchronized
  have hml : c.maxLocals = 7 := hml0
  have hown : s.vm.findClass "java/lang/String" = some m.cls := findClass_of_methodNamed Bd.named
  have hnm := (name_of_methodNamed Bd.named Bd.method).1
  have X : Stand p l e ({ frames := 1, cells := 1, slots := 12, locals := 16 } : Room) s m #[(.int 0), (.ref va)] below meth c s₁ [] 0 0 := Stand.of_body Bd
  have eT : s₁.heap = h0 := by rw [← hh, Bd.state]; rfl
  have N := Fr.nil n0
  have K0 := Keep.refl h0 []
  show own_Ends p e below (own_Post s below (own_ea_Q Z va kv h0 n0) ({ frames := 1, cells := 1, slots := 12, locals := 16 } : Room).cells ({ frames := 1, cells := 1, slots := 12, locals := 16 } : Room).slots) s₁ (entryFrame m #[(.int 0), (.ref va)] 7)
  rw [own_ea_ef m (0 : Int32) va]
  obtain ⟨T, hT⟩ : ∃ z, z = s₁ := ⟨_, rfl⟩
  rw [← hT] at X eT ⊢
  obtain ⟨h, hh0⟩ : ∃ z, z = h0 := ⟨_, rfl⟩
  rw [← hh0] at eT
  replace O : Old Z n0 h := by rw [hh0]; exact O
  replace K0 : Keep h0 h [] := by rw [hh0]; exact K0
  rw [← hh0] at E_va
  rw [← hh0] at V_va
  refine own_via (g' := (mkF m 7 (own_A29 0 va) [(.ref va), (.int 0), (.ref va)])) (fun t_ k_ => XS.iloadN X.here hx rfl (hb hby ej42m24_d0) rfl (XS.ifNo X.here hx rfl (hb hby ej42m24_d1) rfl ((if0 _ _).trans (teq (by decide : (0 : Int32) = (0 : Int32))).2) (XS.aloadN X.here hx rfl (hb hby ej42m24_d4) rfl rfl (XS.iconst X.here hx rfl (hb hby ej42m24_d5) (XS.aloadN X.here hx rfl (hb hby ej42m24_d6) rfl rfl k_))))) ?_
  obtain ⟨cl_, Ar_, -, Sz_, Nn_, -, -⟩ := id V_va
  refine own_via (g' := (mkF m 8 (own_A29 0 va) [(.int 12), (.int 0), (.ref va)])) (fun t_ k_ => X.arraylength hx (by rw [eT]; exact Ar_.1) (State.isArrayOf_alike hZ.alike Ar_.2.1) (g := (mkF m 7 (own_A29 0 va) [(.ref va), (.int 0), (.ref va)])) rfl rfl (hb hby ej42m24_d7) _ (by rw [len_of Sz_ Nn_]; exact k_)) ?_
  obtain ⟨_, _, ⟨T, Lq, kq, nq⟩, -, X, ⟨Lc, hQ, lq, yq, zq⟩, st⟩ := Jvm.LawKit.callS X hx (y := own_y1) hown (mvT hZ (hw _ (own_w 134 rfl))) (mvT hZ (hw _ (own_w 135 rfl))) (mvT hZ (hw _ (own_w 136 rfl))) (mvT hZ (hw _ (own_w 137 rfl))) (by decide) (backOf (W := 0) (own_cp l Z a0 hw [] va kv h n0 O E_va V_va) hZ (hw _ (own_w 137 rfl)) (hw _ (own_w 136 rfl)) (by decide) (by decide)) (g := (mkF m 8 (own_A29 0 va) [(.int 12), (.int 0), (.ref va)])) rfl (by rw [hml]; rfl) (argsL := [(.ref va), (.int 0), (.int 12)]) (rest := []) (lenOf own_pd1 rfl) rfl (by show 2 * 0 + _ ≤ _; exact Nat.le_of_eq rfl) (hb hby ej42m24_d8) (fun _ _ => ⟨rfl, eT, (by decide : 0 + 0 ≤ _), (by decide : 0 + 0 ≤ _)⟩)
  dsimp only [Pt.U, Pt.locs, Pt.cells, Pt.slots] at X lq yq zq st hQ
  rw [lq, yq, zq] at X
  obtain ⟨rfl, Nq, eT⟩ := hQ
  replace N := Fr.app N Nq
  refine own_via (g' := (mkF m 11 (own_A29 0 va) [(.int 12)])) st ?_
  refine own_via (g' := (mkF m 13 (own_A25 0 va 12) [(.ref va)])) (fun t_ k_ => XS.istoreN X.here hx rfl (hb hby ej42m24_d11) rfl (l' := (own_A25 0 va 12)) rfl (XS.aloadN X.here hx rfl (hb hby ej42m24_d12) rfl rfl k_)) ?_
  obtain ⟨b1, gb⟩ : ∃ z, z = h.size := ⟨_, rfl⟩
  obtain ⟨T, h2, X, eT, E, V_b1, E_b1, st⟩ := cloneH X hx hZ hown (hw _ (own_w 138 rfl)) (hw _ (own_w 139 rfl)) (hw _ (own_w 143 rfl)) (hw _ (own_w 141 rfl)) (hw _ (own_w 142 rfl)) (hw _ (own_w 144 rfl)) eT V_va.arh E_va (g := (mkF m 13 (own_A25 0 va 12) [(.ref va)])) rfl (by rw [hml]; rfl) rfl (hb hby ej42m24_d13) (by decide) (W := 0) (cap := 12) (by show 2 * 0 + _ ≤ _; exact Nat.le_of_eq rfl) (by decide) (by decide) (by decide) (by decide)
  rw [← gb] at V_b1 E_b1 st
  have ne_va_b1 : va ≠ b1 := Nat.ne_of_lt (Nat.lt_of_lt_of_le E_va.lt (Nat.le_of_eq gb.symm))
  have g_b1 : n0 ≤ b1 := Nat.le_trans (own_le O) (Nat.le_of_eq gb.symm)
  have sz_b1 : h0.size ≤ b1 := Nat.le_trans K0.1 (Nat.le_of_eq gb.symm)
  replace E_va := E_va.ext E
  replace V_va := V_va.ext E
  replace O := O.ext E
  replace K0 := K0.ext E
  replace V_b1 : Arv Z h2 b1 kv .byte (12 : Int32) [(.int 99), (.int 111), (.int 110), (.int 116), (.int 101), (.int 110), (.int 116), (.int 45), (.int 116), (.int 121), (.int 112), (.int 101)] (.int 0) := V_b1
  refine own_via (g' := (mkF m 16 (own_A25 0 va 12) [(.ref b1)])) st ?_
  obtain ⟨T, X, eT, st⟩ := castY X hx hZ hown (hw _ (own_w 145 rfl)) eT (Ins.self E_b1) (g := (mkF m 16 (own_A25 0 va 12) [(.ref b1)])) rfl rfl (hb hby ej42m24_d16)
  refine own_via (g' := (mkF m 19 (own_A25 0 va 12) [(.ref b1)])) st ?_
  refine own_via (g' := (mkF m 22 (own_A23 0 va 12 b1) [(.ref b1), (.int 12)])) (fun t_ k_ => XS.astoreN X.here hx rfl (hb hby ej42m24_d19) rfl rfl (l' := (own_A23 0 va 12 b1)) rfl (XS.iloadN X.here hx rfl (hb hby ej42m24_d20) rfl (XS.aloadN X.here hx rfl (hb hby ej42m24_d21) rfl rfl k_))) ?_
  obtain ⟨cl_, Ar_, -, Sz_, Nn_, -, -⟩ := id V_b1
  refine own_via (g' := (mkF m 23 (own_A23 0 va 12 b1) [(.int 12), (.int 12)])) (fun t_ k_ => X.arraylength hx (by rw [eT]; exact Ar_.1) (State.isArrayOf_alike hZ.alike Ar_.2.1) (g := (mkF m 22 (own_A23 0 va 12 b1) [(.ref b1), (.int 12)])) rfl rfl (hb hby ej42m24_d22) _ (by rw [len_of Sz_ Nn_]; exact k_)) ?_
  refine own_via (g' := (mkF m 32 (own_A23 0 va 12 b1) [(.ref b1)])) (fun t_ k_ => XS.icmpYes X.here hx rfl (pc0 := 23) (pc' := 31) rfl (hb hby ej42m24_d23) rfl (flt (by decide : ¬ ((12 : Int32) < (12 : Int32)))).2.1 (by decide) (by decide) (XS.aloadN X.here hx rfl (hb hby ej42m24_d31) rfl rfl k_)) ?_
  refine own_retW X hx hlk Bd.returns rfl (Or.inr (Or.inr (Or.inr (Or.inr ⟨rfl, rfl, rfl⟩)))) (hb hby ej42m24_d32) (by decide) (by decide) ?_
  rw [eT]
  exact ⟨b1, kv, rfl, N, K0, rfl⟩
theorem ej42m18_d0 : decode jdk_42_method_18_code 0 = .ok (.aload_n 0, 1) := by decide +kernel
theorem ej42m18_d1 : decode jdk_42_method_18_code 1 = .ok (.getstatic 86, 3) := by decide +kernel
theorem ej42m18_d4 : decode jdk_42_method_18_code 4 = .ok (.if_acmp .ne 10, 3) := by decide +kernel
theorem ej42m18_d14 : decode jdk_42_method_18_code 14 = .ok (.aload_n 0, 1) := by decide +kernel
theorem ej42m18_d15 : decode jdk_42_method_18_code 15 = .ok (.getstatic 116, 3) := by decide +kernel
theorem ej42m18_d18 : decode jdk_42_method_18_code 18 = .ok (.if_acmp .ne 9, 3) := by decide +kernel
theorem ej42m18_d27 : decode jdk_42_method_18_code 27 = .ok (.aload_n 0, 1) := by decide +kernel
theorem ej42m18_d28 : decode jdk_42_method_18_code 28 = .ok (.getstatic 123, 3) := by decide +kernel
theorem ej42m18_d31 : decode jdk_42_method_18_code 31 = .ok (.if_acmp .ne 9, 3) := by decide +kernel
theorem ej42m18_d34 : decode jdk_42_method_18_code 34 = .ok (.iload_n 1, 1) := by decide +kernel
theorem ej42m18_d35 : decode jdk_42_method_18_code 35 = .ok (.aload_n 2, 1) := by decide +kernel
theorem ej42m18_d36 : decode jdk_42_method_18_code 36 = .ok (.invokestatic 260, 3) := by decide +kernel
theorem ej42m18_d39 : decode jdk_42_method_18_code 39 = .ok (.areturn, 1) := by decide +kernel
theorem own_enc_pn : plainFor (⟨"java/lang/String", "encode", "(Ljava/nio/charset/Charset;B[B)[B"⟩ : MethodName) = true := by first | exact plainFor_of_name (by first | (simp [plainName, overriddenIn]; done) | decide +kernel) | decide +kernel | exact Jvm.Free.JP.mathPlain rfl (by decide +kernel)
theorem own_enc_ef (m : MethodId) (x0 : Addr) (x1 : Int32) (x2 : Addr) : entryFrame m #[(.ref x0), (.int x1), (.ref x2)] 3 = mkF m 0 #[.val (.ref x0), .val (.int x1), .val (.ref x2)] [] := by first | (simp [entryFrame, mkF, argsToLocals, Value.category]; done) | rfl
def own_enc_Q (Z : State) (va : Addr) (kv : ClassId) (wASC : Addr) (wU8 : Addr) (wISO : Addr) (h0 : Heap) (n0 : Nat) (v : Option Value) (h : Heap) (L : List Loc) : Prop := ∃ b kb, v = some (.ref b) ∧ Fr n0 L ∧ Keep h0 h [] ∧ (kb : ClassId) = kb
set_option maxRecDepth 65536 in
set_option maxHeartbeats 40000000 in
theorem own_enc (l : Launch) (Z : State) (a0 : Array Value) (hw : ∀ d ∈ tables_1, d.before a0 Z = true) (ws : List Jvm.Cond) (va : Addr) (kv : ClassId) (wASC : Addr) (wU8 : Addr) (wISO : Addr) (h0 : Heap) (n0 : Nat) (O : Old Z n0 h0) (E_va : Exa Z h0 va "[B") (V_va : Arv Z h0 va kv .byte (12 : Int32) [(.int 99), (.int 111), (.int 110), (.int 116), (.int 101), (.int 110), (.int 116), (.int 45), (.int 116), (.int 121), (.int 112), (.int 101)] (.int 0)) (S_u8 : Sta Z Z.heap "sun/nio/cs/UTF_8" "INSTANCE" "Lsun/nio/cs/UTF_8;" (.ref wU8)) (S_iso : Sta Z Z.heap "sun/nio/cs/ISO_8859_1" "INSTANCE" "Lsun/nio/cs/ISO_8859_1;" (.ref wISO)) (S_asc : Sta Z Z.heap "sun/nio/cs/US_ASCII" "INSTANCE" "Lsun/nio/cs/US_ASCII;" (.ref wASC)) (S_sca : Sta Z Z.heap "java/nio/charset/StandardCharsets" "US_ASCII" "Ljava/nio/charset/Charset;" (.ref wASC)) (neA8 : ¬ wASC = wU8) (neAI : ¬ wASC = wISO) :
    MetFree l (⟨"java/lang/String", "encode", "(Ljava/nio/charset/Charset;B[B)[B"⟩ : MethodName) (head1 (Jvm.Cond.code (⟨"java/lang/String", "encode", "(Ljava/nio/charset/Charset;B[B)[B"⟩ : MethodName) jdk_42_method_18_code 3 (some (.array .byte)) :: ws) ({ frames := 2, cells := 1, slots := 12, locals := 34 } : Room)) (fun a U => a = #[(.ref wASC), (.int 0), (.ref va)] ∧ Z.Warmed39 U.vm ∧ U.heap = h0) (fun _ _ _ _ _ => True) (fun _ U o U' => ∃ v L, o = .returned v ∧ own_enc_Q Z va kv wASC wU8 wISO h0 n0 v U'.heap L ∧ FrameEnd U o U' L ({ frames := 2, cells := 1, slots := 12, locals := 34 } : Room).cells ({ frames := 2, cells := 1, slots := 12, locals := 34 } : Room).slots) := by
  refine MetFree.of_bodySF own_enc_pn hisR ?_
  intro p e s m args below meth c s₁ Bd hml0 hP hK
  obtain ⟨rfl, hZ, hh⟩ := hP
  have hx := Bd.exec
  have hby := Bd.bytes
  have hlk := Bd.notSynchronized
  have hml : c.maxLocals = 3 := hml0
  have hown : s.vm.findClass "java/lang/String" = some m.cls := findClass_of_methodNamed Bd.named
  have hnm := (name_of_methodNamed Bd.named Bd.method).1
  have X : Stand p l e ({ frames := 2, cells := 1, slots := 12, locals := 34 } : Room) s m #[(.ref wASC), (.int 0), (.ref va)] below meth c s₁ [] 0 0 := Stand.of_body Bd
  have eT : s₁.heap = h0 := by rw [← hh, Bd.state]; rfl
  have N := Fr.nil n0
  have K0 := Keep.refl h0 []
  show own_Ends p e below (own_Post s below (own_enc_Q Z va kv wASC wU8 wISO h0 n0) ({ frames := 2, cells := 1, slots := 12, locals := 34 } : Room).cells ({ frames := 2, cells := 1, slots := 12, locals := 34 } : Room).slots) s₁ (entryFrame m #[(.ref wASC), (.int 0), (.ref va)] 3)
  rw [own_enc_ef m wASC (0 : Int32) va]
  obtain ⟨T, hT⟩ : ∃ z, z = s₁ := ⟨_, rfl⟩
  rw [← hT] at X eT ⊢
  obtain ⟨h, hh0⟩ : ∃ z, z = h0 := ⟨_, rfl⟩
  rw [← hh0] at eT
  replace O : Old Z n0 h := by rw [hh0]; exact O
  replace K0 : Keep h0 h [] := by rw [hh0]; exact K0
  rw [← hh0] at E_va
  rw [← hh0] at V_va
  refine own_via (g' := (mkF m 1 (own_A34 wASC 0 va) [(.ref wASC)])) (fun t_ k_ => XS.aloadN X.here hx rfl (hb hby ej42m18_d0) rfl rfl k_) ?_
  obtain ⟨T, X, eT, st⟩ := getS2 X hx hZ hown (host := "") (Or.inl (hw _ (own_w 125 rfl))) Via.refl eT (S_u8.ext O.2) (g := (mkF m 1 (own_A34 wASC 0 va) [(.ref wASC)])) rfl (hb hby ej42m18_d1)
  refine own_via (g' := (mkF m 4 (own_A34 wASC 0 va) [(.ref wU8), (.ref wASC)])) st ?_
  refine own_via (g' := (mkF m 15 (own_A34 wASC 0 va) [(.ref wASC)])) (fun t_ k_ => Jvm.RoadKit.acmp (g := (mkF m 4 (own_A34 wASC 0 va) [(.ref wU8), (.ref wASC)])) X hx rfl rfl rfl (pc0 := 4) (pc' := 14) (same := false) rfl (hb hby ej42m18_d4) rfl (decide_eq_false fun q => neA8 (Value.ref.inj q)) (by decide) (by decide) (XS.aloadN X.here hx rfl (hb hby ej42m18_d14) rfl rfl k_)) ?_
  obtain ⟨T, X, eT, st⟩ := getS2 X hx hZ hown (host := "") (Or.inl (hw _ (own_w 127 rfl))) Via.refl eT (S_iso.ext O.2) (g := (mkF m 15 (own_A34 wASC 0 va) [(.ref wASC)])) rfl (hb hby ej42m18_d15)
  refine own_via (g' := (mkF m 18 (own_A34 wASC 0 va) [(.ref wISO), (.ref wASC)])) st ?_
  refine own_via (g' := (mkF m 28 (own_A34 wASC 0 va) [(.ref wASC)])) (fun t_ k_ => Jvm.RoadKit.acmp (g := (mkF m 18 (own_A34 wASC 0 va) [(.ref wISO), (.ref wASC)])) X hx rfl rfl rfl (pc0 := 18) (pc' := 27) (same := false) rfl (hb hby ej42m18_d18) rfl (decide_eq_false fun q => neAI (Value.ref.inj q)) (by decide) (by decide) (XS.aloadN X.here hx rfl (hb hby ej42m18_d27) rfl rfl k_)) ?_
  obtain ⟨T, X, eT, st⟩ := getS2 X hx hZ hown (host := "") (Or.inl (hw _ (own_w 129 rfl))) Via.refl eT (S_asc.ext O.2) (g := (mkF m 28 (own_A34 wASC 0 va) [(.ref wASC)])) rfl (hb hby ej42m18_d28)
  refine own_via (g' := (mkF m 31 (own_A34 wASC 0 va) [(.ref wASC), (.ref wASC)])) st ?_
  refine own_via (g' := (mkF m 36 (own_A34 wASC 0 va) [(.ref va), (.int 0)])) (fun t_ k_ => Jvm.RoadKit.acmp (g := (mkF m 31 (own_A34 wASC 0 va) [(.ref wASC), (.ref wASC)])) X hx rfl rfl rfl (pc0 := 31) (pc' := 34) (same := true) rfl (hb hby ej42m18_d31) rfl (decide_eq_true rfl) (by decide) (by decide) (XS.iloadN X.here hx rfl (hb hby ej42m18_d34) rfl (XS.aloadN X.here hx rfl (hb hby ej42m18_d35) rfl rfl k_))) ?_
  obtain ⟨_, _, ⟨T, Lq, kq, nq⟩, -, X, ⟨Lc, hQ, lq, yq, zq⟩, st⟩ := Jvm.LawKit.callS X hx (y := own_y2) hown (mvT hZ (hw _ (own_w 131 rfl))) (mvT hZ (hw _ (own_w 132 rfl))) (mvT hZ (hw _ (own_w 65 rfl))) (mvT hZ (hw _ (own_w 133 rfl))) (by decide) (backOf (W := 0) (own_ea l Z a0 hw [] va kv h n0 O E_va V_va) hZ (hw _ (own_w 133 rfl)) (hw _ (own_w 65 rfl)) (by decide) (by decide)) (g := (mkF m 36 (own_A34 wASC 0 va) [(.ref va), (.int 0)])) rfl (by rw [hml]; rfl) (argsL := [(.int 0), (.ref va)]) (rest := []) (lenOf own_pd2 rfl) rfl (by show 2 * 0 + _ ≤ _; exact Nat.le_of_eq rfl) (hb hby ej42m18_d36) (fun _ _ => ⟨rfl, eT, (by decide : 0 + 1 ≤ _), (by decide : 0 + 12 ≤ _)⟩)
  dsimp only [Pt.U, Pt.locs, Pt.cells, Pt.slots] at X lq yq zq st hQ
  rw [lq, yq, zq] at X
  obtain ⟨bn, kbn, rfl, Nq, Kq, -⟩ := hQ
  replace N := Fr.app N Nq
  obtain ⟨h1, eT⟩ : ∃ z, T.heap = z := ⟨_, rfl⟩
  rw [eT] at Kq
  replace E_va := E_va.keep Kq
  replace V_va := V_va.keep Kq nin0
  replace O := O.keep Kq all0
  replace K0 := K0.trans Kq all0
  refine own_via (g' := (mkF m 39 (own_A34 wASC 0 va) [(.ref bn)])) st ?_
  refine own_retW X hx hlk Bd.returns rfl (Or.inr (Or.inr (Or.inr (Or.inr ⟨rfl, rfl, rfl⟩)))) (hb hby ej42m18_d39) (by decide) (by decide) ?_
  rw [eT]
  exact ⟨bn, kv, rfl, N, K0, rfl⟩
theorem ej42m152_d0 : decode jdk_42_method_152_code 0 = .ok (.getstatic 38, 3) := by decide +kernel
theorem ej42m152_d3 : decode jdk_42_method_152_code 3 = .ok (.ifCond .eq 10, 3) := by decide +kernel
theorem ej42m152_d6 : decode jdk_42_method_152_code 6 = .ok (.aload_n 0, 1) := by decide +kernel
theorem ej42m152_d7 : decode jdk_42_method_152_code 7 = .ok (.getfield 15, 3) := by decide +kernel
theorem ej42m152_d10 : decode jdk_42_method_152_code 10 = .ok (.goto 4, 3) := by decide +kernel
theorem ej42m152_d14 : decode jdk_42_method_152_code 14 = .ok (.ireturn, 1) := by decide +kernel
theorem own_coder_pn : plainFor (⟨"java/lang/String", "coder", "()B"⟩ : MethodName) = true := by first | exact plainFor_of_name (by first | (simp [plainName, overriddenIn]; done) | decide +kernel) | decide +kernel | exact Jvm.Free.JP.mathPlain rfl (by decide +kernel)
theorem own_coder_ef (m : MethodId) (x0 : Addr) : entryFrame m #[(.ref x0)] 1 = mkF m 0 #[.val (.ref x0)] [] := by first | (simp [entryFrame, mkF, argsToLocals, Value.category]; done) | rfl
def own_coder_Q (Z : State) (a1 : Addr) (zc : Int32) (h0 : Heap) (n0 : Nat) (v : Option Value) (h : Heap) (L : List Loc) : Prop := v = some (.int 0) ∧ Fr n0 L ∧ h = h0
set_option maxRecDepth 65536 in
set_option maxHeartbeats 40000000 in
theorem own_coder (l : Launch) (Z : State) (a0 : Array Value) (hw : ∀ d ∈ tables_1, d.before a0 Z = true) (ws : List Jvm.Cond) (a1 : Addr) (zc : Int32) (h0 : Heap) (n0 : Nat) (O : Old Z n0 h0) (F_coder_a1 : Fld Z h0 a1 "java/lang/String" "coder" "B" (.int 0)) (S_C : Sta Z Z.heap "java/lang/String" "COMPACT_STRINGS" "Z" (.int zc)) (hzc : ¬ zc = 0) :
    MetFree l (⟨"java/lang/String", "coder", "()B"⟩ : MethodName) (head1 (Jvm.Cond.code (⟨"java/lang/String", "coder", "()B"⟩ : MethodName) jdk_42_method_152_code 1 (some .byte) :: ws) ({ frames := 0, cells := 0, slots := 0, locals := 0 } : Room)) (fun a U => a = #[(.ref a1)] ∧ Z.Warmed39 U.vm ∧ U.heap = h0) (fun _ _ _ _ _ => True) (fun _ U o U' => ∃ v L, o = .returned v ∧ own_coder_Q Z a1 zc h0 n0 v U'.heap L ∧ FrameEnd U o U' L ({ frames := 0, cells := 0, slots := 0, locals := 0 } : Room).cells ({ frames := 0, cells := 0, slots := 0, locals := 0 } : Room).slots) := by
  refine MetFree.of_bodySF own_coder_pn hisR ?_
  intro p e s m args below meth c s₁ Bd hml0 hP hK
  obtain ⟨rfl, hZ, hh⟩ := hP
  have hx := Bd.exec
  have hby := Bd.bytes
  have hlk := Bd.notSynchronized
  have hml : c.maxLocals = 1 := hml0
  have hown : s.vm.findClass "java/lang/String" = some m.cls := findClass_of_methodNamed Bd.named
  have hnm := (name_of_methodNamed Bd.named Bd.method).1
  have X : Stand p l e ({ frames := 0, cells := 0, slots := 0, locals := 0 } : Room) s m #[(.ref a1)] below meth c s₁ [] 0 0 := Stand.of_body Bd
  have eT : s₁.heap = h0 := by rw [← hh, Bd.state]; rfl
  have N := Fr.nil n0
  have K0 := Keep.refl h0 []
  show own_Ends p e below (own_Post s below (own_coder_Q Z a1 zc h0 n0) ({ frames := 0, cells := 0, slots := 0, locals := 0 } : Room).cells ({ frames := 0, cells := 0, slots := 0, locals := 0 } : Room).slots) s₁ (entryFrame m #[(.ref a1)] 1)
  rw [own_coder_ef m a1]
  obtain ⟨T, hT⟩ : ∃ z, z = s₁ := ⟨_, rfl⟩
  rw [← hT] at X eT ⊢
  obtain ⟨h, hh0⟩ : ∃ z, z = h0 := ⟨_, rfl⟩
  rw [← hh0] at eT
  replace O : Old Z n0 h := by rw [hh0]; exact O
  replace K0 : Keep h0 h [] := by rw [hh0]; exact K0
  rw [← hh0] at F_coder_a1
  obtain ⟨T, X, eT, st⟩ := getS2 X hx hZ hown (host := "") (Or.inl (hw _ (own_w 93 rfl))) Via.refl eT (S_C.ext O.2) (g := (mkF m 0 #[.val (.ref a1)] [])) rfl (hb hby ej42m152_d0)
  refine own_via (g' := (mkF m 3 #[.val (.ref a1)] [(.int zc)])) st ?_
  refine own_via (g' := (mkF m 7 #[.val (.ref a1)] [(.ref a1)])) (fun t_ k_ => XS.ifNo X.here hx rfl (hb hby ej42m152_d3) rfl ((if0 _ _).trans (feq hzc).1) (XS.aloadN X.here hx rfl (hb hby ej42m152_d6) rfl rfl k_)) ?_
  obtain ⟨T, X, eT, st⟩ := getF X hx hZ hown (host := "") (Or.inl (hw _ (own_w 94 rfl))) Via.refl eT F_coder_a1 (g := (mkF m 7 #[.val (.ref a1)] [(.ref a1)])) rfl rfl (hb hby ej42m152_d7)
  refine own_via (g' := (mkF m 10 #[.val (.ref a1)] [(.int 0)])) st ?_
  refine own_via (g' := (mkF m 14 #[.val (.ref a1)] [(.int 0)])) (fun t_ k_ => XS.goto X.here hx rfl (pc0 := 10) (pc' := 14) rfl (hb hby ej42m152_d10) (by decide) (by decide) k_) ?_
  refine own_retN X hx hlk (t := .byte) Bd.returns (by simp) (hb hby ej42m152_d14) (by decide) (by decide) ?_
  rw [eT]
  exact ⟨rfl, N, hh0⟩
theorem ej42m154_d0 : decode jdk_42_method_154_code 0 = .ok (.getstatic 38, 3) := by decide +kernel
theorem ej42m154_d3 : decode jdk_42_method_154_code 3 = .ok (.ifCond .eq 14, 3) := by decide +kernel
theorem ej42m154_d6 : decode jdk_42_method_154_code 6 = .ok (.aload_n 0, 1) := by decide +kernel
theorem ej42m154_d7 : decode jdk_42_method_154_code 7 = .ok (.getfield 15, 3) := by decide +kernel
theorem ej42m154_d10 : decode jdk_42_method_154_code 10 = .ok (.ifCond .ne 7, 3) := by decide +kernel
theorem ej42m154_d13 : decode jdk_42_method_154_code 13 = .ok (.iconst 1, 1) := by decide +kernel
theorem ej42m154_d14 : decode jdk_42_method_154_code 14 = .ok (.goto 4, 3) := by decide +kernel
theorem ej42m154_d18 : decode jdk_42_method_154_code 18 = .ok (.ireturn, 1) := by decide +kernel
theorem own_sil_pn : plainFor (⟨"java/lang/String", "isLatin1", "()Z"⟩ : MethodName) = true := by first | exact plainFor_of_name (by first | (simp [plainName, overriddenIn]; done) | decide +kernel) | decide +kernel | exact Jvm.Free.JP.mathPlain rfl (by decide +kernel)
theorem own_sil_ef (m : MethodId) (x0 : Addr) : entryFrame m #[(.ref x0)] 1 = mkF m 0 #[.val (.ref x0)] [] := by first | (simp [entryFrame, mkF, argsToLocals, Value.category]; done) | rfl
def own_sil_Q (Z : State) (a1 : Addr) (zc : Int32) (h0 : Heap) (n0 : Nat) (v : Option Value) (h : Heap) (L : List Loc) : Prop := v = some (.int 1) ∧ Fr n0 L ∧ h = h0
set_option maxRecDepth 65536 in
set_option maxHeartbeats 40000000 in
theorem own_sil (l : Launch) (Z : State) (a0 : Array Value) (hw : ∀ d ∈ tables_1, d.before a0 Z = true) (ws : List Jvm.Cond) (a1 : Addr) (zc : Int32) (h0 : Heap) (n0 : Nat) (O : Old Z n0 h0) (F_coder_a1 : Fld Z h0 a1 "java/lang/String" "coder" "B" (.int 0)) (S_C : Sta Z Z.heap "java/lang/String" "COMPACT_STRINGS" "Z" (.int zc)) (hzc : ¬ zc = 0) :
    MetFree l (⟨"java/lang/String", "isLatin1", "()Z"⟩ : MethodName) (head1 (Jvm.Cond.code (⟨"java/lang/String", "isLatin1", "()Z"⟩ : MethodName) jdk_42_method_154_code 1 (some .boolean) :: ws) ({ frames := 0, cells := 0, slots := 0, locals := 0 } : Room)) (fun a U => a = #[(.ref a1)] ∧ Z.Warmed39 U.vm ∧ U.heap = h0) (fun _ _ _ _ _ => True) (fun _ U o U' => ∃ v L, o = .returned v ∧ own_sil_Q Z a1 zc h0 n0 v U'.heap L ∧ FrameEnd U o U' L ({ frames := 0, cells := 0, slots := 0, locals := 0 } : Room).cells ({ frames := 0, cells := 0, slots := 0, locals := 0 } : Room).slots) := by
  refine MetFree.of_bodySF own_sil_pn hisR ?_
  intro p e s m args below meth c s₁ Bd hml0 hP hK
  obtain ⟨rfl, hZ, hh⟩ := hP
  have hx := Bd.exec
  have hby := Bd.bytes
  have hlk := Bd.notSynchronized
  have hml : c.maxLocals = 1 := hml0
  have hown : s.vm.findClass "java/lang/String" = some m.cls := findClass_of_methodNamed Bd.named
  have hnm := (name_of_methodNamed Bd.named Bd.method).1
  have X : Stand p l e ({ frames := 0, cells := 0, slots := 0, locals := 0 } : Room) s m #[(.ref a1)] below meth c s₁ [] 0 0 := Stand.of_body Bd
  have eT : s₁.heap = h0 := by rw [← hh, Bd.state]; rfl
  have N := Fr.nil n0
  have K0 := Keep.refl h0 []
  show own_Ends p e below (own_Post s below (own_sil_Q Z a1 zc h0 n0) ({ frames := 0, cells := 0, slots := 0, locals := 0 } : Room).cells ({ frames := 0, cells := 0, slots := 0, locals := 0 } : Room).slots) s₁ (entryFrame m #[(.ref a1)] 1)
  rw [own_sil_ef m a1]
  obtain ⟨T, hT⟩ : ∃ z, z = s₁ := ⟨_, rfl⟩
  rw [← hT] at X eT ⊢
  obtain ⟨h, hh0⟩ : ∃ z, z = h0 := ⟨_, rfl⟩
  rw [← hh0] at eT
  replace O : Old Z n0 h := by rw [hh0]; exact O
  replace K0 : Keep h0 h [] := by rw [hh0]; exact K0
  rw [← hh0] at F_coder_a1
  obtain ⟨T, X, eT, st⟩ := getS2 X hx hZ hown (host := "") (Or.inl (hw _ (own_w 93 rfl))) Via.refl eT (S_C.ext O.2) (g := (mkF m 0 #[.val (.ref a1)] [])) rfl (hb hby ej42m154_d0)
  refine own_via (g' := (mkF m 3 #[.val (.ref a1)] [(.int zc)])) st ?_
  refine own_via (g' := (mkF m 7 #[.val (.ref a1)] [(.ref a1)])) (fun t_ k_ => XS.ifNo X.here hx rfl (hb hby ej42m154_d3) rfl ((if0 _ _).trans (feq hzc).1) (XS.aloadN X.here hx rfl (hb hby ej42m154_d6) rfl rfl k_)) ?_
  obtain ⟨T, X, eT, st⟩ := getF X hx hZ hown (host := "") (Or.inl (hw _ (own_w 94 rfl))) Via.refl eT F_coder_a1 (g := (mkF m 7 #[.val (.ref a1)] [(.ref a1)])) rfl rfl (hb hby ej42m154_d7)
  refine own_via (g' := (mkF m 10 #[.val (.ref a1)] [(.int 0)])) st ?_
  refine own_via (g' := (mkF m 18 #[.val (.ref a1)] [(.int 1)])) (fun t_ k_ => XS.ifNo X.here hx rfl (hb hby ej42m154_d10) rfl ((if0 _ _).trans (teq (by decide : (0 : Int32) = (0 : Int32))).2) (XS.iconst X.here hx rfl (hb hby ej42m154_d13) (XS.goto X.here hx rfl (pc0 := 14) (pc' := 18) rfl (hb hby ej42m154_d14) (by decide) (by decide) k_))) ?_
  refine own_retN X hx hlk (t := .boolean) Bd.returns (by simp) (hb hby ej42m154_d18) (by decide) (by decide) ?_
  rw [eT]
  exact ⟨rfl, N, hh0⟩
theorem ej42m64_d0 : decode jdk_42_method_64_code 0 = .ok (.aload_n 1, 1) := by decide +kernel
theorem ej42m64_d1 : decode jdk_42_method_64_code 1 = .ok (.ifnonnull 11, 3) := by decide +kernel
theorem ej42m64_d12 : decode jdk_42_method_64_code 12 = .ok (.aload_n 1, 1) := by decide +kernel
theorem ej42m64_d13 : decode jdk_42_method_64_code 13 = .ok (.aload_n 0, 1) := by decide +kernel
theorem ej42m64_d14 : decode jdk_42_method_64_code 14 = .ok (.invokevirtual 335, 3) := by decide +kernel
theorem ej42m64_d17 : decode jdk_42_method_64_code 17 = .ok (.aload_n 0, 1) := by decide +kernel
theorem ej42m64_d18 : decode jdk_42_method_64_code 18 = .ok (.getfield 9, 3) := by decide +kernel
theorem ej42m64_d21 : decode jdk_42_method_64_code 21 = .ok (.invokestatic 535, 3) := by decide +kernel
theorem ej42m64_d24 : decode jdk_42_method_64_code 24 = .ok (.areturn, 1) := by decide +kernel
theorem own_gb_pn : plainFor (⟨"java/lang/String", "getBytes", "(Ljava/nio/charset/Charset;)[B"⟩ : MethodName) = true := by first | exact plainFor_of_name (by first | (simp [plainName, overriddenIn]; done) | decide +kernel) | decide +kernel | exact Jvm.Free.JP.mathPlain rfl (by decide +kernel)
theorem own_gb_ef (m : MethodId) (x0 : Addr) (x1 : Addr) : entryFrame m #[(.ref x0), (.ref x1)] 2 = mkF m 0 #[.val (.ref x0), .val (.ref x1)] [] := by first | (simp [entryFrame, mkF, argsToLocals, Value.category]; done) | rfl
def own_gb_Q (Z : State) (s1 : Addr) (va : Addr) (kv : ClassId) (wASC : Addr) (wU8 : Addr) (wISO : Addr) (zc : Int32) (h0 : Heap) (n0 : Nat) (v : Option Value) (h : Heap) (L : List Loc) : Prop := ∃ b kb, v = some (.ref b) ∧ Fr n0 L ∧ Keep h0 h [] ∧ (kb : ClassId) = kb
set_option maxRecDepth 65536 in
set_option maxHeartbeats 40000000 in
theorem own_gb (l : Launch) (Z : State) (a0 : Array Value) (hw : ∀ d ∈ tables_1, d.before a0 Z = true) (ws : List Jvm.Cond) (s1 : Addr) (va : Addr) (kv : ClassId) (wASC : Addr) (wU8 : Addr) (wISO : Addr) (zc : Int32) (h0 : Heap) (n0 : Nat) (O : Old Z n0 h0) (E_s1 : Exa Z h0 s1 "java/lang/String") (F_value_s1 : Fld Z h0 s1 "java/lang/String" "value" "[B" (.ref va)) (F_coder_s1 : Fld Z h0 s1 "java/lang/String" "coder" "B" (.int 0)) (E_va : Exa Z h0 va "[B") (V_va : Arv Z h0 va kv .byte (12 : Int32) [(.int 99), (.int 111), (.int 110), (.int 116), (.int 101), (.int 110), (.int 116), (.int 45), (.int 116), (.int 121), (.int 112), (.int 101)] (.int 0)) (S_u8 : Sta Z Z.heap "sun/nio/cs/UTF_8" "INSTANCE" "Lsun/nio/cs/UTF_8;" (.ref wU8)) (S_iso : Sta Z Z.heap "sun/nio/cs/ISO_8859_1" "INSTANCE" "Lsun/nio/cs/ISO_8859_1;" (.ref wISO)) (S_asc : Sta Z Z.heap "sun/nio/cs/US_ASCII" "INSTANCE" "Lsun/nio/cs/US_ASCII;" (.ref wASC)) (S_sca : Sta Z Z.heap "java/nio/charset/StandardCharsets" "US_ASCII" "Ljava/nio/charset/Charset;" (.ref wASC)) (neA8 : ¬ wASC = wU8) (neAI : ¬ wASC = wISO) (S_C : Sta Z Z.heap "java/lang/String" "COMPACT_STRINGS" "Z" (.int zc)) (hzc : ¬ zc = 0) :
    MetFree l (⟨"java/lang/String", "getBytes", "(Ljava/nio/charset/Charset;)[B"⟩ : MethodName) (head1 (Jvm.Cond.code (⟨"java/lang/String", "getBytes", "(Ljava/nio/charset/Charset;)[B"⟩ : MethodName) jdk_42_method_64_code 2 (some (.array .byte)) :: ws) ({ frames := 3, cells := 1, slots := 12, locals := 48 } : Room)) (fun a U => a = #[(.ref s1), (.ref wASC)] ∧ Z.Warmed39 U.vm ∧ U.heap = h0) (fun _ _ _ _ _ => True) (fun _ U o U' => ∃ v L, o = .returned v ∧ own_gb_Q Z s1 va kv wASC wU8 wISO zc h0 n0 v U'.heap L ∧ FrameEnd U o U' L ({ frames := 3, cells := 1, slots := 12, locals := 48 } : Room).cells ({ frames := 3, cells := 1, slots := 12, locals := 48 } : Room).slots) := by
  refine MetFree.of_bodySF own_gb_pn hisR ?_
  intro p e s m args below meth c s₁ Bd hml0 hP hK
  obtain ⟨rfl, hZ, hh⟩ := hP
  have hx := Bd.exec
  have hby := Bd.bytes
  have hlk := Bd.notSynchronized
  have hml : c.maxLocals = 2 := hml0
  have hown : s.vm.findClass "java/lang/String" = some m.cls := findClass_of_methodNamed Bd.named
  have hnm := (name_of_methodNamed Bd.named Bd.method).1
  have X : Stand p l e ({ frames := 3, cells := 1, slots := 12, locals := 48 } : Room) s m #[(.ref s1), (.ref wASC)] below meth c s₁ [] 0 0 := Stand.of_body Bd
  have eT : s₁.heap = h0 := by rw [← hh, Bd.state]; rfl
  have N := Fr.nil n0
  have K0 := Keep.refl h0 []
  show own_Ends p e below (own_Post s below (own_gb_Q Z s1 va kv wASC wU8 wISO zc h0 n0) ({ frames := 3, cells := 1, slots := 12, locals := 48 } : Room).cells ({ frames := 3, cells := 1, slots := 12, locals := 48 } : Room).slots) s₁ (entryFrame m #[(.ref s1), (.ref wASC)] 2)
  rw [own_gb_ef m s1 wASC]
  obtain ⟨T, hT⟩ : ∃ z, z = s₁ := ⟨_, rfl⟩
  rw [← hT] at X eT ⊢
  obtain ⟨h, hh0⟩ : ∃ z, z = h0 := ⟨_, rfl⟩
  rw [← hh0] at eT
  replace O : Old Z n0 h := by rw [hh0]; exact O
  replace K0 : Keep h0 h [] := by rw [hh0]; exact K0
  rw [← hh0] at E_s1
  rw [← hh0] at F_value_s1
  rw [← hh0] at F_coder_s1
  rw [← hh0] at E_va
  rw [← hh0] at V_va
  have ne_s1_va := Exa.ne E_s1 E_va (by decide)
  refine own_via (g' := (mkF m 14 #[.val (.ref s1), .val (.ref wASC)] [(.ref s1), (.ref wASC)])) (fun t_ k_ => XS.aloadN X.here hx rfl (hb hby ej42m64_d0) rfl rfl (XS.ifnonnullYes X.here hx rfl (pc0 := 1) (pc' := 12) rfl (hb hby ej42m64_d1) rfl (by decide) (by decide) (XS.aloadN X.here hx rfl (hb hby ej42m64_d12) rfl rfl (XS.aloadN X.here hx rfl (hb hby ej42m64_d13) rfl rfl k_)))) ?_
  obtain ⟨cq, kq, qa, qb, qc⟩ := isOf hZ eT E_s1
  obtain ⟨_, _, ⟨T, Lq, kq, nq⟩, -, X, ⟨Lc, hQ, lq, yq, zq⟩, st⟩ := X.virtualBack hx (y := own_y3) (z := own_y3) hown (mvT hZ (hw _ (own_w 117 rfl))) (mvT hZ (hw _ (own_w 118 rfl))) (notFace_of_selects (args := #[]) (mvT hZ (hw _ (own_w 120 rfl)))) (mvT hZ (hw _ (own_w 120 rfl))) (mvT hZ (hw _ (own_w 119 rfl))) (by decide) (backOf (W := 1) (own_coder l Z a0 hw [] s1 zc h n0 O F_coder_s1 S_C hzc) hZ (hw _ (own_w 121 rfl)) (hw _ (own_w 65 rfl)) (by decide) (by decide)) qa qc (g := (mkF m 14 #[.val (.ref s1), .val (.ref wASC)] [(.ref s1), (.ref wASC)])) rfl (by rw [hml]; rfl) (Steps.refl _) (argsL := []) (rest := [(.ref wASC)]) (lenOf own_pd3 rfl) rfl (by show 2 * 0 + _ ≤ _; exact Nat.le_of_eq rfl) (hb hby ej42m64_d14) (fun _ _ => ⟨rfl, eT, (by decide : 0 + 0 ≤ _), (by decide : 0 + 0 ≤ _)⟩)
  dsimp only [Pt.U, Pt.locs, Pt.cells, Pt.slots] at X lq yq zq st hQ
  rw [lq, yq, zq] at X
  obtain ⟨rfl, Nq, eT⟩ := hQ
  replace N := Fr.app N Nq
  refine own_viaT (g' := (mkF m 17 #[.val (.ref s1), .val (.ref wASC)] [(.int 0), (.ref wASC)])) st ?_
  refine own_via (g' := (mkF m 18 #[.val (.ref s1), .val (.ref wASC)] [(.ref s1), (.int 0), (.ref wASC)])) (fun t_ k_ => XS.aloadN X.here hx rfl (hb hby ej42m64_d17) rfl rfl k_) ?_
  obtain ⟨T, X, eT, st⟩ := getF X hx hZ hown (host := "") (Or.inl (hw _ (own_w 95 rfl))) Via.refl eT F_value_s1 (g := (mkF m 18 #[.val (.ref s1), .val (.ref wASC)] [(.ref s1), (.int 0), (.ref wASC)])) rfl rfl (hb hby ej42m64_d18)
  refine own_via (g' := (mkF m 21 #[.val (.ref s1), .val (.ref wASC)] [(.ref va), (.int 0), (.ref wASC)])) st ?_
  obtain ⟨_, _, ⟨T, Lq, kq, nq⟩, -, X, ⟨Lc, hQ, lq, yq, zq⟩, st⟩ := Jvm.LawKit.callS X hx (y := own_y4) hown (mvT hZ (hw _ (own_w 122 rfl))) (mvT hZ (hw _ (own_w 123 rfl))) (mvT hZ (hw _ (own_w 65 rfl))) (mvT hZ (hw _ (own_w 124 rfl))) (by decide) (backOf (W := 0) (own_enc l Z a0 hw [] va kv wASC wU8 wISO h n0 O E_va V_va S_u8 S_iso S_asc S_sca neA8 neAI) hZ (hw _ (own_w 124 rfl)) (hw _ (own_w 65 rfl)) (by decide) (by decide)) (g := (mkF m 21 #[.val (.ref s1), .val (.ref wASC)] [(.ref va), (.int 0), (.ref wASC)])) rfl (by rw [hml]; rfl) (argsL := [(.ref wASC), (.int 0), (.ref va)]) (rest := []) (lenOf own_pd4 rfl) rfl (by show 2 * 0 + _ ≤ _; exact Nat.le_of_eq rfl) (hb hby ej42m64_d21) (fun _ _ => ⟨rfl, eT, (by decide : 0 + 1 ≤ _), (by decide : 0 + 12 ≤ _)⟩)
  dsimp only [Pt.U, Pt.locs, Pt.cells, Pt.slots] at X lq yq zq st hQ
  rw [lq, yq, zq] at X
  obtain ⟨bn, kbn, rfl, Nq, Kq, -⟩ := hQ
  replace N := Fr.app N Nq
  obtain ⟨h1, eT⟩ : ∃ z, T.heap = z := ⟨_, rfl⟩
  rw [eT] at Kq
  replace E_s1 := E_s1.keep Kq
  replace F_value_s1 := F_value_s1.keep Kq nin0
  replace F_coder_s1 := F_coder_s1.keep Kq nin0
  replace E_va := E_va.keep Kq
  replace V_va := V_va.keep Kq nin0
  replace O := O.keep Kq all0
  replace K0 := K0.trans Kq all0
  refine own_via (g' := (mkF m 24 #[.val (.ref s1), .val (.ref wASC)] [(.ref bn)])) st ?_
  refine own_retW X hx hlk Bd.returns rfl (Or.inr (Or.inr (Or.inr (Or.inr ⟨rfl, rfl, rfl⟩)))) (hb hby ej42m64_d24) (by decide) (by decide) ?_
  rw [eT]
  exact ⟨bn, kv, rfl, N, K0, rfl⟩
theorem ep11m36_d0 : decode prog_11_method_36_code 0 = .ok (.aload_n 0, 1) := by decide +kernel
theorem ep11m36_d1 : decode prog_11_method_36_code 1 = .ok (.getstatic 418, 3) := by decide +kernel
theorem ep11m36_d4 : decode prog_11_method_36_code 4 = .ok (.invokevirtual 421, 3) := by decide +kernel
theorem ep11m36_d7 : decode prog_11_method_36_code 7 = .ok (.areturn, 1) := by decide +kernel
theorem own_ascii_pn : plainFor (⟨"com/example/brassrig/brassrig/engine/ResponseReader", "ascii", "(Ljava/lang/String;)[B"⟩ : MethodName) = true := by first | exact plainFor_of_name (by first | (simp [plainName, overriddenIn]; done) | decide +kernel) | decide +kernel | exact Jvm.Free.JP.mathPlain rfl (by decide +kernel)
theorem own_ascii_ef (m : MethodId) (x0 : Addr) : entryFrame m #[(.ref x0)] 1 = mkF m 0 #[.val (.ref x0)] [] := by first | (simp [entryFrame, mkF, argsToLocals, Value.category]; done) | rfl
def own_ascii_Q (Z : State) (s1 : Addr) (va : Addr) (kv : ClassId) (wASC : Addr) (wU8 : Addr) (wISO : Addr) (zc : Int32) (h0 : Heap) (n0 : Nat) (v : Option Value) (h : Heap) (L : List Loc) : Prop := ∃ b kb, v = some (.ref b) ∧ Fr n0 L ∧ Keep h0 h [] ∧ (kb : ClassId) = kb
set_option maxRecDepth 65536 in
set_option maxHeartbeats 40000000 in
theorem own_ascii (l : Launch) (Z : State) (a0 : Array Value) (hw : ∀ d ∈ tables_1, d.before a0 Z = true) (ws : List Jvm.Cond) (s1 : Addr) (va : Addr) (kv : ClassId) (wASC : Addr) (wU8 : Addr) (wISO : Addr) (zc : Int32) (h0 : Heap) (n0 : Nat) (O : Old Z n0 h0) (E_s1 : Exa Z h0 s1 "java/lang/String") (F_value_s1 : Fld Z h0 s1 "java/lang/String" "value" "[B" (.ref va)) (F_coder_s1 : Fld Z h0 s1 "java/lang/String" "coder" "B" (.int 0)) (E_va : Exa Z h0 va "[B") (V_va : Arv Z h0 va kv .byte (12 : Int32) [(.int 99), (.int 111), (.int 110), (.int 116), (.int 101), (.int 110), (.int 116), (.int 45), (.int 116), (.int 121), (.int 112), (.int 101)] (.int 0)) (S_u8 : Sta Z Z.heap "sun/nio/cs/UTF_8" "INSTANCE" "Lsun/nio/cs/UTF_8;" (.ref wU8)) (S_iso : Sta Z Z.heap "sun/nio/cs/ISO_8859_1" "INSTANCE" "Lsun/nio/cs/ISO_8859_1;" (.ref wISO)) (S_asc : Sta Z Z.heap "sun/nio/cs/US_ASCII" "INSTANCE" "Lsun/nio/cs/US_ASCII;" (.ref wASC)) (S_sca : Sta Z Z.heap "java/nio/charset/StandardCharsets" "US_ASCII" "Ljava/nio/charset/Charset;" (.ref wASC)) (neA8 : ¬ wASC = wU8) (neAI : ¬ wASC = wISO) (S_C : Sta Z Z.heap "java/lang/String" "COMPACT_STRINGS" "Z" (.int zc)) (hzc : ¬ zc = 0) :
    MetFree l (⟨"com/example/brassrig/brassrig/engine/ResponseReader", "ascii", "(Ljava/lang/String;)[B"⟩ : MethodName) (head1 (Jvm.Cond.code (⟨"com/example/brassrig/brassrig/engine/ResponseReader", "ascii", "(Ljava/lang/String;)[B"⟩ : MethodName) prog_11_method_36_code 1 (some (.array .byte)) :: ws) ({ frames := 4, cells := 1, slots := 12, locals := 61 } : Room)) (fun a U => a = #[(.ref s1)] ∧ Z.Warmed39 U.vm ∧ U.heap = h0) (fun _ _ _ _ _ => True) (fun _ U o U' => ∃ v L, o = .returned v ∧ own_ascii_Q Z s1 va kv wASC wU8 wISO zc h0 n0 v U'.heap L ∧ FrameEnd U o U' L ({ frames := 4, cells := 1, slots := 12, locals := 61 } : Room).cells ({ frames := 4, cells := 1, slots := 12, locals := 61 } : Room).slots) := by
  refine MetFree.of_bodySF own_ascii_pn hisR ?_
  intro p e s m args below meth c s₁ Bd hml0 hP hK
  obtain ⟨rfl, hZ, hh⟩ := hP
  have hx := Bd.exec
  have hby := Bd.bytes
  have hlk := Bd.notSynchronized
  have hml : c.maxLocals = 1 := hml0
  have hown : s.vm.findClass "com/example/brassrig/brassrig/engine/ResponseReader" = some m.cls := findClass_of_methodNamed Bd.named
  have hnm := (name_of_methodNamed Bd.named Bd.method).1
  have X : Stand p l e ({ frames := 4, cells := 1, slots := 12, locals := 61 } : Room) s m #[(.ref s1)] below meth c s₁ [] 0 0 := Stand.of_body Bd
  have eT : s₁.heap = h0 := by rw [← hh, Bd.state]; rfl
  have N := Fr.nil n0
  have K0 := Keep.refl h0 []
  show own_Ends p e below (own_Post s below (own_ascii_Q Z s1 va kv wASC wU8 wISO zc h0 n0) ({ frames := 4, cells := 1, slots := 12, locals := 61 } : Room).cells ({ frames := 4, cells := 1, slots := 12, locals := 61 } : Room).slots) s₁ (entryFrame m #[(.ref s1)] 1)
  rw [own_ascii_ef m s1]
  obtain ⟨T, hT⟩ : ∃ z, z = s₁ := ⟨_, rfl⟩
  rw [← hT] at X eT ⊢
  obtain ⟨h, hh0⟩ : ∃ z, z = h0 := ⟨_, rfl⟩
  rw [← hh0] at eT
  replace O : Old Z n0 h := by rw [hh0]; exact O
  replace K0 : Keep h0 h [] := by rw [hh0]; exact K0
  rw [← hh0] at E_s1
  rw [← hh0] at F_value_s1
  rw [← hh0] at F_coder_s1
  rw [← hh0] at E_va
  rw [← hh0] at V_va
  have ne_s1_va := Exa.ne E_s1 E_va (by decide)
  refine own_via (g' := (mkF m 1 #[.val (.ref s1)] [(.ref s1)])) (fun t_ k_ => XS.aloadN X.here hx rfl (hb hby ep11m36_d0) rfl rfl k_) ?_
  obtain ⟨T, X, eT, st⟩ := getS2 X hx hZ hown (host := "") (Or.inl (hw _ (own_w 110 rfl))) Via.refl eT (S_sca.ext O.2) (g := (mkF m 1 #[.val (.ref s1)] [(.ref s1)])) rfl (hb hby ep11m36_d1)
  refine own_via (g' := (mkF m 4 #[.val (.ref s1)] [(.ref wASC), (.ref s1)])) st ?_
  obtain ⟨cq, kq, qa, qb, qc⟩ := isOf hZ eT E_s1
  obtain ⟨_, _, ⟨T, Lq, kq, nq⟩, -, X, ⟨Lc, hQ, lq, yq, zq⟩, st⟩ := X.virtualBack hx (y := own_y5) (z := own_y5) hown (mvT hZ (hw _ (own_w 112 rfl))) (mvT hZ (hw _ (own_w 113 rfl))) (notFace_of_selects (args := #[]) (mvT hZ (hw _ (own_w 115 rfl)))) (mvT hZ (hw _ (own_w 115 rfl))) (mvT hZ (hw _ (own_w 114 rfl))) (by decide) (backOf (W := 0) (own_gb l Z a0 hw [] s1 va kv wASC wU8 wISO zc h n0 O E_s1 F_value_s1 F_coder_s1 E_va V_va S_u8 S_iso S_asc S_sca neA8 neAI S_C hzc) hZ (hw _ (own_w 116 rfl)) (hw _ (own_w 65 rfl)) (by decide) (by decide)) qa qc (g := (mkF m 4 #[.val (.ref s1)] [(.ref wASC), (.ref s1)])) rfl (by rw [hml]; rfl) (Steps.refl _) (argsL := [(.ref wASC)]) (rest := []) (lenOf own_pd5 rfl) rfl (by show 2 * 0 + _ ≤ _; exact Nat.le_of_eq rfl) (hb hby ep11m36_d4) (fun _ _ => ⟨rfl, eT, (by decide : 0 + 1 ≤ _), (by decide : 0 + 12 ≤ _)⟩)
  dsimp only [Pt.U, Pt.locs, Pt.cells, Pt.slots] at X lq yq zq st hQ
  rw [lq, yq, zq] at X
  obtain ⟨bn, kbn, rfl, Nq, Kq, -⟩ := hQ
  replace N := Fr.app N Nq
  obtain ⟨h1, eT⟩ : ∃ z, T.heap = z := ⟨_, rfl⟩
  rw [eT] at Kq
  replace E_s1 := E_s1.keep Kq
  replace F_value_s1 := F_value_s1.keep Kq nin0
  replace F_coder_s1 := F_coder_s1.keep Kq nin0
  replace E_va := E_va.keep Kq
  replace V_va := V_va.keep Kq nin0
  replace O := O.keep Kq all0
  replace K0 := K0.trans Kq all0
  refine own_viaT (g' := (mkF m 7 #[.val (.ref s1)] [(.ref bn)])) st ?_
  refine own_retW X hx hlk Bd.returns rfl (Or.inr (Or.inr (Or.inr (Or.inr ⟨rfl, rfl, rfl⟩)))) (hb hby ep11m36_d7) (by decide) (by decide) ?_
  rw [eT]
  exact ⟨bn, kv, rfl, N, K0, rfl⟩
theorem ej40m36_d0 : decode jdk_40_method_36_code 0 = .ok (.getstatic 90, 3) := by decide +kernel
theorem ej40m36_d3 : decode jdk_40_method_36_code 3 = .ok (.areturn, 1) := by decide +kernel
theorem own_listOf_pn : plainFor (⟨"java/util/List", "of", "()Ljava/util/List;"⟩ : MethodName) = true := by first | exact plainFor_of_name (by first | (simp [plainName, overriddenIn]; done) | decide +kernel) | decide +kernel | exact Jvm.Free.JP.mathPlain rfl (by decide +kernel)
theorem own_listOf_ef (m : MethodId)  : entryFrame m #[] 0 = mkF m 0 #[] [] := by first | (simp [entryFrame, mkF, argsToLocals, Value.category]; done) | rfl
def own_listOf_Q (Z : State) (wEL : Addr) (wEA : Addr) (kEA : ClassId) (dE : Value) (h0 : Heap) (n0 : Nat) (v : Option Value) (h : Heap) (L : List Loc) : Prop := v = some (.ref wEL) ∧ Fr n0 L ∧ h = h0
set_option maxRecDepth 65536 in
set_option maxHeartbeats 40000000 in
theorem own_listOf (l : Launch) (Z : State) (a0 : Array Value) (hw : ∀ d ∈ tables_1, d.before a0 Z = true) (ws : List Jvm.Cond) (wEL : Addr) (wEA : Addr) (kEA : ClassId) (dE : Value) (h0 : Heap) (n0 : Nat) (O : Old Z n0 h0) (S_el : Sta Z Z.heap "java/util/ImmutableCollections" "EMPTY_LIST" "Ljava/util/ImmutableCollections$ListN;" (.ref wEL)) (E_el : Exa Z Z.heap wEL "java/util/ImmutableCollections$ListN") (F_el : Fld Z Z.heap wEL "java/util/ImmutableCollections$ListN" "elements" "[Ljava/lang/Object;" (.ref wEA)) (A_el : Arv Z Z.heap wEA kEA (.object "java/lang/Object") (0 : Int32) ([] : List Value) dE) :
    MetFree l (⟨"java/util/List", "of", "()Ljava/util/List;"⟩ : MethodName) (head1 (Jvm.Cond.code (⟨"java/util/List", "of", "()Ljava/util/List;"⟩ : MethodName) jdk_40_method_36_code 0 (some (.object "java/util/List")) :: ws) ({ frames := 0, cells := 0, slots := 0, locals := 0 } : Room)) (fun a U => a = #[] ∧ Z.Warmed39 U.vm ∧ U.heap = h0) (fun _ _ _ _ _ => True) (fun _ U o U' => ∃ v L, o = .returned v ∧ own_listOf_Q Z wEL wEA kEA dE h0 n0 v U'.heap L ∧ FrameEnd U o U' L ({ frames := 0, cells := 0, slots := 0, locals := 0 } : Room).cells ({ frames := 0, cells := 0, slots := 0, locals := 0 } : Room).slots) := by
  refine MetFree.of_bodySF own_listOf_pn hisR ?_
  intro p e s m args below meth c s₁ Bd hml0 hP hK
  obtain ⟨rfl, hZ, hh⟩ := hP
  have hx := Bd.exec
  have hby := Bd.bytes
  have hlk := Bd.notSynchronized
  have hml : c.maxLocals = 0 := hml0
  have hown : s.vm.findClass "java/util/List" = some m.cls := findClass_of_methodNamed Bd.named
  have hnm := (name_of_methodNamed Bd.named Bd.method).1
  have X : Stand p l e ({ frames := 0, cells := 0, slots := 0, locals := 0 } : Room) s m #[] below meth c s₁ [] 0 0 := Stand.of_body Bd
  have eT : s₁.heap = h0 := by rw [← hh, Bd.state]; rfl
  have N := Fr.nil n0
  have K0 := Keep.refl h0 []
  show own_Ends p e below (own_Post s below (own_listOf_Q Z wEL wEA kEA dE h0 n0) ({ frames := 0, cells := 0, slots := 0, locals := 0 } : Room).cells ({ frames := 0, cells := 0, slots := 0, locals := 0 } : Room).slots) s₁ (entryFrame m #[] 0)
  rw [own_listOf_ef m ]
  obtain ⟨T, hT⟩ : ∃ z, z = s₁ := ⟨_, rfl⟩
  rw [← hT] at X eT ⊢
  obtain ⟨h, hh0⟩ : ∃ z, z = h0 := ⟨_, rfl⟩
  rw [← hh0] at eT
  replace O : Old Z n0 h := by rw [hh0]; exact O
  replace K0 : Keep h0 h [] := by rw [hh0]; exact K0
  obtain ⟨T, X, eT, st⟩ := getS2 X hx hZ hown (host := "") (Or.inl (hw _ (own_w 151 rfl))) Via.refl eT (S_el.ext O.2) (g := (mkF m 0 #[] [])) rfl (hb hby ej40m36_d0)
  refine own_via (g' := (mkF m 3 #[] [(.ref wEL)])) st ?_
  refine own_retW X hx hlk Bd.returns rfl (Or.inr (Or.inr (Or.inr (Or.inr ⟨rfl, rfl, rfl⟩)))) (hb hby ej40m36_d3) (by decide) (by decide) ?_
  rw [eT]
  exact ⟨rfl, N, hh0⟩
theorem ej45m2_d0 : decode jdk_45_method_2_code 0 = .ok (.aload_n 0, 1) := by decide +kernel
theorem ej45m2_d1 : decode jdk_45_method_2_code 1 = .ok (.getfield 7, 3) := by decide +kernel
theorem ej45m2_d4 : decode jdk_45_method_2_code 4 = .ok (.arraylength, 1) := by decide +kernel
theorem ej45m2_d5 : decode jdk_45_method_2_code 5 = .ok (.ifCond .ne 7, 3) := by decide +kernel
theorem ej45m2_d8 : decode jdk_45_method_2_code 8 = .ok (.iconst 1, 1) := by decide +kernel
theorem ej45m2_d9 : decode jdk_45_method_2_code 9 = .ok (.goto 4, 3) := by decide +kernel
theorem ej45m2_d13 : decode jdk_45_method_2_code 13 = .ok (.ireturn, 1) := by decide +kernel
theorem own_lnEmpty_pn : plainFor (⟨"java/util/ImmutableCollections$ListN", "isEmpty", "()Z"⟩ : MethodName) = true := by first | exact plainFor_of_name (by first | (simp [plainName, overriddenIn]; done) | decide +kernel) | decide +kernel | exact Jvm.Free.JP.mathPlain rfl (by decide +kernel)
theorem own_lnEmpty_ef (m : MethodId) (x0 : Addr) : entryFrame m #[(.ref x0)] 1 = mkF m 0 #[.val (.ref x0)] [] := by first | (simp [entryFrame, mkF, argsToLocals, Value.category]; done) | rfl
def own_lnEmpty_Q (Z : State) (wEL : Addr) (wEA : Addr) (kEA : ClassId) (dE : Value) (h0 : Heap) (n0 : Nat) (v : Option Value) (h : Heap) (L : List Loc) : Prop := v = some (.int 1) ∧ Fr n0 L ∧ h = h0
set_option maxRecDepth 65536 in
set_option maxHeartbeats 40000000 in
theorem own_lnEmpty (l : Launch) (Z : State) (a0 : Array Value) (hw : ∀ d ∈ tables_1, d.before a0 Z = true) (ws : List Jvm.Cond) (wEL : Addr) (wEA : Addr) (kEA : ClassId) (dE : Value) (h0 : Heap) (n0 : Nat) (O : Old Z n0 h0) (S_el : Sta Z Z.heap "java/util/ImmutableCollections" "EMPTY_LIST" "Ljava/util/ImmutableCollections$ListN;" (.ref wEL)) (E_el : Exa Z Z.heap wEL "java/util/ImmutableCollections$ListN") (F_el : Fld Z Z.heap wEL "java/util/ImmutableCollections$ListN" "elements" "[Ljava/lang/Object;" (.ref wEA)) (A_el : Arv Z Z.heap wEA kEA (.object "java/lang/Object") (0 : Int32) ([] : List Value) dE) :
    MetFree l (⟨"java/util/ImmutableCollections$ListN", "isEmpty", "()Z"⟩ : MethodName) (head1 (Jvm.Cond.code (⟨"java/util/ImmutableCollections$ListN", "isEmpty", "()Z"⟩ : MethodName) jdk_45_method_2_code 1 (some .boolean) :: ws) ({ frames := 0, cells := 0, slots := 0, locals := 0 } : Room)) (fun a U => a = #[(.ref wEL)] ∧ Z.Warmed39 U.vm ∧ U.heap = h0) (fun _ _ _ _ _ => True) (fun _ U o U' => ∃ v L, o = .returned v ∧ own_lnEmpty_Q Z wEL wEA kEA dE h0 n0 v U'.heap L ∧ FrameEnd U o U' L ({ frames := 0, cells := 0, slots := 0, locals := 0 } : Room).cells ({ frames := 0, cells := 0, slots := 0, locals := 0 } : Room).slots) := by
  refine MetFree.of_bodySF own_lnEmpty_pn hisR ?_
  intro p e s m args below meth c s₁ Bd hml0 hP hK
  obtain ⟨rfl, hZ, hh⟩ := hP
  have hx := Bd.exec
  have hby := Bd.bytes
  have hlk := Bd.notSynchronized
  have hml : c.maxLocals = 1 := hml0
  have hown : s.vm.findClass "java/util/ImmutableCollections$ListN" = some m.cls := findClass_of_methodNamed Bd.named
  have hnm := (name_of_methodNamed Bd.named Bd.method).1
  have X : Stand p l e ({ frames := 0, cells := 0, slots := 0, locals := 0 } : Room) s m #[(.ref wEL)] below meth c s₁ [] 0 0 := Stand.of_body Bd
  have eT : s₁.heap = h0 := by rw [← hh, Bd.state]; rfl
  have N := Fr.nil n0
  have K0 := Keep.refl h0 []
  show own_Ends p e below (own_Post s below (own_lnEmpty_Q Z wEL wEA kEA dE h0 n0) ({ frames := 0, cells := 0, slots := 0, locals := 0 } : Room).cells ({ frames := 0, cells := 0, slots := 0, locals := 0 } : Room).slots) s₁ (entryFrame m #[(.ref wEL)] 1)
  rw [own_lnEmpty_ef m wEL]
  obtain ⟨T, hT⟩ : ∃ z, z = s₁ := ⟨_, rfl⟩
  rw [← hT] at X eT ⊢
  obtain ⟨h, hh0⟩ : ∃ z, z = h0 := ⟨_, rfl⟩
  rw [← hh0] at eT
  replace O : Old Z n0 h := by rw [hh0]; exact O
  replace K0 : Keep h0 h [] := by rw [hh0]; exact K0
  refine own_via (g' := (mkF m 1 #[.val (.ref wEL)] [(.ref wEL)])) (fun t_ k_ => XS.aloadN X.here hx rfl (hb hby ej45m2_d0) rfl rfl k_) ?_
  obtain ⟨T, X, eT, st⟩ := getF X hx hZ hown (host := "") (Or.inl (hw _ (own_w 163 rfl))) Via.refl eT (F_el.ext O.2) (g := (mkF m 1 #[.val (.ref wEL)] [(.ref wEL)])) rfl rfl (hb hby ej45m2_d1)
  refine own_via (g' := (mkF m 4 #[.val (.ref wEL)] [(.ref wEA)])) st ?_
  have V_wEA := A_el.ext O.2
  obtain ⟨cl_, Ar_, -, Sz_, Nn_, -, -⟩ := id V_wEA
  refine own_via (g' := (mkF m 5 #[.val (.ref wEL)] [(.int 0)])) (fun t_ k_ => X.arraylength hx (by rw [eT]; exact Ar_.1) (State.isArrayOf_alike hZ.alike Ar_.2.1) (g := (mkF m 4 #[.val (.ref wEL)] [(.ref wEA)])) rfl rfl (hb hby ej45m2_d4) _ (by rw [len_of Sz_ Nn_]; exact k_)) ?_
  refine own_via (g' := (mkF m 13 #[.val (.ref wEL)] [(.int 1)])) (fun t_ k_ => XS.ifNo X.here hx rfl (hb hby ej45m2_d5) rfl ((if0 _ _).trans (teq (by decide : (0 : Int32) = (0 : Int32))).2) (XS.iconst X.here hx rfl (hb hby ej45m2_d8) (XS.goto X.here hx rfl (pc0 := 9) (pc' := 13) rfl (hb hby ej45m2_d9) (by decide) (by decide) k_))) ?_
  refine own_retN X hx hlk (t := .boolean) Bd.returns (by simp) (hb hby ej45m2_d13) (by decide) (by decide) ?_
  rw [eT]
  exact ⟨rfl, N, hh0⟩
theorem ej43m32_d0 : decode jdk_43_method_32_code 0 = .ok (.aload_n 2, 1) := by decide +kernel
theorem ej43m32_d1 : decode jdk_43_method_32_code 1 = .ok (.ifnonnull 11, 3) := by decide +kernel
theorem ej43m32_d12 : decode jdk_43_method_32_code 12 = .ok (.aload_n 1, 1) := by decide +kernel
theorem ej43m32_d13 : decode jdk_43_method_32_code 13 = .ok (.arraylength, 1) := by decide +kernel
theorem ej43m32_d14 : decode jdk_43_method_32_code 14 = .ok (.istore 4, 2) := by decide +kernel
theorem ej43m32_d16 : decode jdk_43_method_32_code 16 = .ok (.iconst 0, 1) := by decide +kernel
theorem ej43m32_d17 : decode jdk_43_method_32_code 17 = .ok (.istore_n 3, 1) := by decide +kernel
theorem ej43m32_d18 : decode jdk_43_method_32_code 18 = .ok (.iload_n 3, 1) := by decide +kernel
theorem ej43m32_d19 : decode jdk_43_method_32_code 19 = .ok (.iload 4, 2) := by decide +kernel
theorem ej43m32_d21 : decode jdk_43_method_32_code 21 = .ok (.if_icmp .ge 34, 3) := by decide +kernel
theorem ej43m32_d24 : decode jdk_43_method_32_code 24 = .ok (.aload_n 1, 1) := by decide +kernel
theorem ej43m32_d25 : decode jdk_43_method_32_code 25 = .ok (.iload_n 3, 1) := by decide +kernel
theorem ej43m32_d26 : decode jdk_43_method_32_code 26 = .ok (.baload, 1) := by decide +kernel
theorem ej43m32_d27 : decode jdk_43_method_32_code 27 = .ok (.sipush 255, 3) := by decide +kernel
theorem ej43m32_d30 : decode jdk_43_method_32_code 30 = .ok (.iand, 1) := by decide +kernel
theorem ej43m32_d31 : decode jdk_43_method_32_code 31 = .ok (.istore 5, 2) := by decide +kernel
theorem ej43m32_d33 : decode jdk_43_method_32_code 33 = .ok (.iload 5, 2) := by decide +kernel
theorem ej43m32_d35 : decode jdk_43_method_32_code 35 = .ok (.getstatic 66, 3) := by decide +kernel
theorem ej43m32_d38 : decode jdk_43_method_32_code 38 = .ok (.iload 5, 2) := by decide +kernel
theorem ej43m32_d40 : decode jdk_43_method_32_code 40 = .ok (.invokevirtual 160, 3) := by decide +kernel
theorem ej43m32_d43 : decode jdk_43_method_32_code 43 = .ok (.if_icmp .eq 6, 3) := by decide +kernel
theorem ej43m32_d49 : decode jdk_43_method_32_code 49 = .ok (.iinc 3 1, 3) := by decide +kernel
theorem ej43m32_d52 : decode jdk_43_method_32_code 52 = .ok (.goto (-34), 3) := by decide +kernel
theorem ej43m32_d55 : decode jdk_43_method_32_code 55 = .ok (.iload_n 3, 1) := by decide +kernel
theorem ej43m32_d56 : decode jdk_43_method_32_code 56 = .ok (.iload 4, 2) := by decide +kernel
theorem ej43m32_d58 : decode jdk_43_method_32_code 58 = .ok (.if_icmp .ne 5, 3) := by decide +kernel
theorem ej43m32_d61 : decode jdk_43_method_32_code 61 = .ok (.aload_n 0, 1) := by decide +kernel
theorem ej43m32_d62 : decode jdk_43_method_32_code 62 = .ok (.areturn, 1) := by decide +kernel
theorem own_slA_pn : plainFor (⟨"java/lang/StringLatin1", "toLowerCase", "(Ljava/lang/String;[BLjava/util/Locale;)Ljava/lang/String;"⟩ : MethodName) = true := by first | exact plainFor_of_name (by first | (simp [plainName, overriddenIn]; done) | decide +kernel) | decide +kernel | exact Jvm.Free.JP.mathPlain rfl (by decide +kernel)
theorem own_slA_ef (m : MethodId) (x0 : Addr) (x1 : Addr) (x2 : Addr) : entryFrame m #[(.ref x0), (.ref x1), (.ref x2)] 9 = mkF m 0 #[.val (.ref x0), .val (.ref x1), .val (.ref x2), .unset, .unset, .unset, .unset, .unset, .unset] [] := by first | (simp [entryFrame, mkF, argsToLocals, Value.category]; done) | rfl
def own_slA_Q (Z : State) (s1 : Addr) (va : Addr) (kv : ClassId) (wL : Addr) (wCD : Addr) (h0 : Heap) (n0 : Nat) (v : Option Value) (h : Heap) (L : List Loc) : Prop := v = some (.ref s1) ∧ Fr n0 L ∧ h = h0
set_option maxRecDepth 65536 in
set_option maxHeartbeats 40000000 in
theorem own_slA (l : Launch) (Z : State) (a0 : Array Value) (hw : ∀ d ∈ tables_1, d.before a0 Z = true) (ws : List Jvm.Cond) (s1 : Addr) (va : Addr) (kv : ClassId) (wL : Addr) (wCD : Addr) (h0 : Heap) (n0 : Nat) (O : Old Z n0 h0) (E_va : Exa Z h0 va "[B") (V_va : Arv Z h0 va kv .byte (12 : Int32) [(.int 99), (.int 111), (.int 110), (.int 116), (.int 101), (.int 110), (.int 116), (.int 45), (.int 116), (.int 121), (.int 112), (.int 101)] (.int 0)) (S_cd : Sta Z Z.heap "java/lang/CharacterDataLatin1" "instance" "Ljava/lang/CharacterDataLatin1;" (.ref wCD)) (E_cd : Exa Z Z.heap wCD "java/lang/CharacterDataLatin1") :
    MetFree l (⟨"java/lang/StringLatin1", "toLowerCase", "(Ljava/lang/String;[BLjava/util/Locale;)Ljava/lang/String;"⟩ : MethodName) (head1 (Jvm.Cond.code (⟨"java/lang/StringLatin1", "toLowerCase", "(Ljava/lang/String;[BLjava/util/Locale;)Ljava/lang/String;"⟩ : MethodName) jdk_43_method_32_code 9 (some (.object "java/lang/String")) :: ws) ({ frames := 1, cells := 0, slots := 0, locals := 15 } : Room)) (fun a U => a = #[(.ref s1), (.ref va), (.ref wL)] ∧ Z.Warmed39 U.vm ∧ U.heap = h0) (fun _ _ _ _ _ => True) (fun _ U o U' => ∃ v L, o = .returned v ∧ own_slA_Q Z s1 va kv wL wCD h0 n0 v U'.heap L ∧ FrameEnd U o U' L ({ frames := 1, cells := 0, slots := 0, locals := 15 } : Room).cells ({ frames := 1, cells := 0, slots := 0, locals := 15 } : Room).slots) := by
  refine MetFree.of_bodySF own_slA_pn hisR ?_
  intro p e s m args below meth c s₁ Bd hml0 hP hK
  obtain ⟨rfl, hZ, hh⟩ := hP
  have hx := Bd.exec
  have hby := Bd.bytes
  have hlk := Bd.notSynchronized
  have hml : c.maxLocals = 9 := hml0
  have hown : s.vm.findClass "java/lang/StringLatin1" = some m.cls := findClass_of_methodNamed Bd.named
  have hnm := (name_of_methodNamed Bd.named Bd.method).1
  have X : Stand p l e ({ frames := 1, cells := 0, slots := 0, locals := 15 } : Room) s m #[(.ref s1), (.ref va), (.ref wL)] below meth c s₁ [] 0 0 := Stand.of_body Bd
  have eT : s₁.heap = h0 := by rw [← hh, Bd.state]; rfl
  have N := Fr.nil n0
  have K0 := Keep.refl h0 []
  show own_Ends p e below (own_Post s below (own_slA_Q Z s1 va kv wL wCD h0 n0) ({ frames := 1, cells := 0, slots := 0, locals := 15 } : Room).cells ({ frames := 1, cells := 0, slots := 0, locals := 15 } : Room).slots) s₁ (entryFrame m #[(.ref s1), (.ref va), (.ref wL)] 9)
  rw [own_slA_ef m s1 va wL]
  obtain ⟨T, hT⟩ : ∃ z, z = s₁ := ⟨_, rfl⟩
  rw [← hT] at X eT ⊢
  obtain ⟨h, hh0⟩ : ∃ z, z = h0 := ⟨_, rfl⟩
  rw [← hh0] at eT
  replace O : Old Z n0 h := by rw [hh0]; exact O
  replace K0 : Keep h0 h [] := by rw [hh0]; exact K0
  rw [← hh0] at E_va
  rw [← hh0] at V_va
  refine own_via (g' := (mkF m 13 (own_A21 s1 va wL) [(.ref va)])) (fun t_ k_ => XS.aloadN X.here hx rfl (hb hby ej43m32_d0) rfl rfl (XS.ifnonnullYes X.here hx rfl (pc0 := 1) (pc' := 12) rfl (hb hby ej43m32_d1) rfl (by decide) (by decide) (XS.aloadN X.here hx rfl (hb hby ej43m32_d12) rfl rfl k_))) ?_
  obtain ⟨cl_, Ar_, -, Sz_, Nn_, -, -⟩ := id V_va
  refine own_via (g' := (mkF m 14 (own_A21 s1 va wL) [(.int 12)])) (fun t_ k_ => X.arraylength hx (by rw [eT]; exact Ar_.1) (State.isArrayOf_alike hZ.alike Ar_.2.1) (g := (mkF m 13 (own_A21 s1 va wL) [(.ref va)])) rfl rfl (hb hby ej43m32_d13) _ (by rw [len_of Sz_ Nn_]; exact k_)) ?_
  refine own_via (g' := (mkF m 26 (own_A17 s1 va wL 0 12) [(.int 0), (.ref va)])) (fun t_ k_ => XS.istore X.here hx rfl (hb hby ej43m32_d14) rfl (l' := (own_A19 s1 va wL 12)) rfl (XS.iconst X.here hx rfl (hb hby ej43m32_d16) (XS.istoreN X.here hx rfl (hb hby ej43m32_d17) rfl (l' := (own_A17 s1 va wL 0 12)) rfl (XS.iloadN X.here hx rfl (hb hby ej43m32_d18) rfl (XS.iload X.here hx rfl (hb hby ej43m32_d19) rfl (XS.icmpNo X.here hx rfl (hb hby ej43m32_d21) rfl (tlt (by decide : (0 : Int32) < (12 : Int32))).2.1 (XS.aloadN X.here hx rfl (hb hby ej43m32_d24) rfl rfl (XS.iloadN X.here hx rfl (hb hby ej43m32_d25) rfl k_)))))))) ?_
  obtain ⟨cl_, Ar_, -, Sz_, Nn_, Hs_, -⟩ := id V_va
  have hin_ : ¬ ((0 : Int32) < 0 ∨ cl_.slots.size ≤ ((0 : Int32)).toNatClampNeg) := inb_of Sz_ ⟨by decide, by decide⟩
  have hat_ : cl_.slots[((0 : Int32)).toNatClampNeg]? = some (.int 99) := Hs_.at hin_ rfl
  refine own_via (g' := (mkF m 31 (own_A17 s1 va wL 0 12) [(.int ((99 : Int32) &&& (255 : Int32)))])) (fun t_ k_ => X.baloadBytes hx (j := (0 : Int32)) (v := (.int 99)) (by rw [eT]; exact Ar_.1) (State.isArrayOf_alike hZ.alike Ar_.2.1) Ar_.2.2 hin_ hat_ (g := (mkF m 26 (own_A17 s1 va wL 0 12) [(.int 0), (.ref va)])) rfl rfl (hb hby ej43m32_d26) _ (XS.sipush X.here hx rfl (hb hby ej43m32_d27) (XS.iand X.here hx rfl (hb hby ej43m32_d30) rfl k_))) ?_
  rw [(by decide : ((99 : Int32) &&& (255 : Int32)) = (99 : Int32))]
  refine own_via (g' := (mkF m 35 (own_A7 s1 va wL 0 12 99) [(.int 99)])) (fun t_ k_ => XS.istore X.here hx rfl (hb hby ej43m32_d31) rfl (l' := (own_A7 s1 va wL 0 12 99)) rfl (XS.iload X.here hx rfl (hb hby ej43m32_d33) rfl k_)) ?_
  obtain ⟨T, X, eT, st⟩ := getS2 X hx hZ hown (host := "") (Or.inl (hw _ (own_w 100 rfl))) Via.refl eT (S_cd.ext O.2) (g := (mkF m 35 (own_A7 s1 va wL 0 12 99) [(.int 99)])) rfl (hb hby ej43m32_d35)
  refine own_via (g' := (mkF m 38 (own_A7 s1 va wL 0 12 99) [(.ref wCD), (.int 99)])) st ?_
  refine own_via (g' := (mkF m 40 (own_A7 s1 va wL 0 12 99) [(.int 99), (.ref wCD), (.int 99)])) (fun t_ k_ => XS.iload X.here hx rfl (hb hby ej43m32_d38) rfl k_) ?_
  obtain ⟨cq, kq, qa, qb, qc⟩ := isOf hZ eT (E_cd.ext O.2)
  obtain ⟨_, _, ⟨T, Lq, kq, nq⟩, -, X, ⟨Lc, hQ, lq, yq, zq⟩, st⟩ := X.virtualBack hx (y := own_y6) (z := own_y6) hown (mvT hZ (hw _ (own_w 102 rfl))) (mvT hZ (hw _ (own_w 103 rfl))) (notFace_of_selects (args := #[]) (mvT hZ (hw _ (own_w 105 rfl)))) (mvT hZ (hw _ (own_w 105 rfl))) (mvT hZ (hw _ (own_w 104 rfl))) (by decide) (backOf (W := 1) (own_tl l Z a0 hw [] wCD (99 : Int32) (99 : Int32) h n0 O (by decide)) hZ (hw _ (own_w 106 rfl)) (hw _ (own_w 101 rfl)) (by decide) (by decide)) qa qc (g := (mkF m 40 (own_A7 s1 va wL 0 12 99) [(.int 99), (.ref wCD), (.int 99)])) rfl (by rw [hml]; rfl) (Steps.refl _) (argsL := [(.int 99)]) (rest := [(.int 99)]) (lenOf own_pd6 rfl) rfl (by show 2 * 0 + _ ≤ _; exact Nat.le_of_eq rfl) (hb hby ej43m32_d40) (fun _ _ => ⟨rfl, eT, (by decide : 0 + 0 ≤ _), (by decide : 0 + 0 ≤ _)⟩)
  dsimp only [Pt.U, Pt.locs, Pt.cells, Pt.slots] at X lq yq zq st hQ
  rw [lq, yq, zq] at X
  obtain ⟨rfl, Nq, eT⟩ := hQ
  replace N := Fr.app N Nq
  refine own_viaT (g' := (mkF m 43 (own_A7 s1 va wL 0 12 99) [(.int 99), (.int 99)])) st ?_
  refine own_via (g' := (mkF m 52 (own_A7 s1 va wL ((0 : Int32) + (1 : Int32)) 12 99) [])) (fun t_ k_ => XS.icmpYes X.here hx rfl (pc0 := 43) (pc' := 49) rfl (hb hby ej43m32_d43) rfl (teq (by decide : (99 : Int32) = (99 : Int32))).1 (by decide) (by decide) (XS.iinc X.here hx rfl (hb hby ej43m32_d49) rfl (l' := (own_A7 s1 va wL ((0 : Int32) + (1 : Int32)) 12 99)) rfl k_)) ?_
  rw [(by decide : ((0 : Int32) + (1 : Int32)) = (1 : Int32))]
  refine own_via (g' := (mkF m 26 (own_A7 s1 va wL 1 12 99) [(.int 1), (.ref va)])) (fun t_ k_ => XS.goto X.here hx rfl (pc0 := 52) (pc' := 18) rfl (hb hby ej43m32_d52) (by decide) (by decide) (XS.iloadN X.here hx rfl (hb hby ej43m32_d18) rfl (XS.iload X.here hx rfl (hb hby ej43m32_d19) rfl (XS.icmpNo X.here hx rfl (hb hby ej43m32_d21) rfl (tlt (by decide : (1 : Int32) < (12 : Int32))).2.1 (XS.aloadN X.here hx rfl (hb hby ej43m32_d24) rfl rfl (XS.iloadN X.here hx rfl (hb hby ej43m32_d25) rfl k_)))))) ?_
  obtain ⟨cl_, Ar_, -, Sz_, Nn_, Hs_, -⟩ := id V_va
  have hin_ : ¬ ((1 : Int32) < 0 ∨ cl_.slots.size ≤ ((1 : Int32)).toNatClampNeg) := inb_of Sz_ ⟨by decide, by decide⟩
  have hat_ : cl_.slots[((1 : Int32)).toNatClampNeg]? = some (.int 111) := Hs_.at hin_ rfl
  refine own_via (g' := (mkF m 31 (own_A7 s1 va wL 1 12 99) [(.int ((111 : Int32) &&& (255 : Int32)))])) (fun t_ k_ => X.baloadBytes hx (j := (1 : Int32)) (v := (.int 111)) (by rw [eT]; exact Ar_.1) (State.isArrayOf_alike hZ.alike Ar_.2.1) Ar_.2.2 hin_ hat_ (g := (mkF m 26 (own_A7 s1 va wL 1 12 99) [(.int 1), (.ref va)])) rfl rfl (hb hby ej43m32_d26) _ (XS.sipush X.here hx rfl (hb hby ej43m32_d27) (XS.iand X.here hx rfl (hb hby ej43m32_d30) rfl k_))) ?_
  rw [(by decide : ((111 : Int32) &&& (255 : Int32)) = (111 : Int32))]
  refine own_via (g' := (mkF m 35 (own_A7 s1 va wL 1 12 111) [(.int 111)])) (fun t_ k_ => XS.istore X.here hx rfl (hb hby ej43m32_d31) rfl (l' := (own_A7 s1 va wL 1 12 111)) rfl (XS.iload X.here hx rfl (hb hby ej43m32_d33) rfl k_)) ?_
  obtain ⟨T, X, eT, st⟩ := getS2 X hx hZ hown (host := "") (Or.inl (hw _ (own_w 100 rfl))) Via.refl eT (S_cd.ext O.2) (g := (mkF m 35 (own_A7 s1 va wL 1 12 111) [(.int 111)])) rfl (hb hby ej43m32_d35)
  refine own_via (g' := (mkF m 38 (own_A7 s1 va wL 1 12 111) [(.ref wCD), (.int 111)])) st ?_
  refine own_via (g' := (mkF m 40 (own_A7 s1 va wL 1 12 111) [(.int 111), (.ref wCD), (.int 111)])) (fun t_ k_ => XS.iload X.here hx rfl (hb hby ej43m32_d38) rfl k_) ?_
  obtain ⟨cq, kq, qa, qb, qc⟩ := isOf hZ eT (E_cd.ext O.2)
  obtain ⟨_, _, ⟨T, Lq, kq, nq⟩, -, X, ⟨Lc, hQ, lq, yq, zq⟩, st⟩ := X.virtualBack hx (y := own_y6) (z := own_y6) hown (mvT hZ (hw _ (own_w 102 rfl))) (mvT hZ (hw _ (own_w 103 rfl))) (notFace_of_selects (args := #[]) (mvT hZ (hw _ (own_w 105 rfl)))) (mvT hZ (hw _ (own_w 105 rfl))) (mvT hZ (hw _ (own_w 104 rfl))) (by decide) (backOf (W := 1) (own_tl l Z a0 hw [] wCD (111 : Int32) (111 : Int32) h n0 O (by decide)) hZ (hw _ (own_w 106 rfl)) (hw _ (own_w 101 rfl)) (by decide) (by decide)) qa qc (g := (mkF m 40 (own_A7 s1 va wL 1 12 111) [(.int 111), (.ref wCD), (.int 111)])) rfl (by rw [hml]; rfl) (Steps.refl _) (argsL := [(.int 111)]) (rest := [(.int 111)]) (lenOf own_pd6 rfl) rfl (by show 2 * 0 + _ ≤ _; exact Nat.le_of_eq rfl) (hb hby ej43m32_d40) (fun _ _ => ⟨rfl, eT, (by decide : 0 + 0 ≤ _), (by decide : 0 + 0 ≤ _)⟩)
  dsimp only [Pt.U, Pt.locs, Pt.cells, Pt.slots] at X lq yq zq st hQ
  rw [lq, yq, zq] at X
  obtain ⟨rfl, Nq, eT⟩ := hQ
  replace N := Fr.app N Nq
  refine own_viaT (g' := (mkF m 43 (own_A7 s1 va wL 1 12 111) [(.int 111), (.int 111)])) st ?_
  refine own_via (g' := (mkF m 52 (own_A7 s1 va wL ((1 : Int32) + (1 : Int32)) 12 111) [])) (fun t_ k_ => XS.icmpYes X.here hx rfl (pc0 := 43) (pc' := 49) rfl (hb hby ej43m32_d43) rfl (teq (by decide : (111 : Int32) = (111 : Int32))).1 (by decide) (by decide) (XS.iinc X.here hx rfl (hb hby ej43m32_d49) rfl (l' := (own_A7 s1 va wL ((1 : Int32) + (1 : Int32)) 12 111)) rfl k_)) ?_
  rw [(by decide : ((1 : Int32) + (1 : Int32)) = (2 : Int32))]
  refine own_via (g' := (mkF m 26 (own_A7 s1 va wL 2 12 111) [(.int 2), (.ref va)])) (fun t_ k_ => XS.goto X.here hx rfl (pc0 := 52) (pc' := 18) rfl (hb hby ej43m32_d52) (by decide) (by decide) (XS.iloadN X.here hx rfl (hb hby ej43m32_d18) rfl (XS.iload X.here hx rfl (hb hby ej43m32_d19) rfl (XS.icmpNo X.here hx rfl (hb hby ej43m32_d21) rfl (tlt (by decide : (2 : Int32) < (12 : Int32))).2.1 (XS.aloadN X.here hx rfl (hb hby ej43m32_d24) rfl rfl (XS.iloadN X.here hx rfl (hb hby ej43m32_d25) rfl k_)))))) ?_
  obtain ⟨cl_, Ar_, -, Sz_, Nn_, Hs_, -⟩ := id V_va
  have hin_ : ¬ ((2 : Int32) < 0 ∨ cl_.slots.size ≤ ((2 : Int32)).toNatClampNeg) := inb_of Sz_ ⟨by decide, by decide⟩
  have hat_ : cl_.slots[((2 : Int32)).toNatClampNeg]? = some (.int 110) := Hs_.at hin_ rfl
  refine own_via (g' := (mkF m 31 (own_A7 s1 va wL 2 12 111) [(.int ((110 : Int32) &&& (255 : Int32)))])) (fun t_ k_ => X.baloadBytes hx (j := (2 : Int32)) (v := (.int 110)) (by rw [eT]; exact Ar_.1) (State.isArrayOf_alike hZ.alike Ar_.2.1) Ar_.2.2 hin_ hat_ (g := (mkF m 26 (own_A7 s1 va wL 2 12 111) [(.int 2), (.ref va)])) rfl rfl (hb hby ej43m32_d26) _ (XS.sipush X.here hx rfl (hb hby ej43m32_d27) (XS.iand X.here hx rfl (hb hby ej43m32_d30) rfl k_))) ?_
  rw [(by decide : ((110 : Int32) &&& (255 : Int32)) = (110 : Int32))]
  refine own_via (g' := (mkF m 35 (own_A7 s1 va wL 2 12 110) [(.int 110)])) (fun t_ k_ => XS.istore X.here hx rfl (hb hby ej43m32_d31) rfl (l' := (own_A7 s1 va wL 2 12 110)) rfl (XS.iload X.here hx rfl (hb hby ej43m32_d33) rfl k_)) ?_
  obtain ⟨T, X, eT, st⟩ := getS2 X hx hZ hown (host := "") (Or.inl (hw _ (own_w 100 rfl))) Via.refl eT (S_cd.ext O.2) (g := (mkF m 35 (own_A7 s1 va wL 2 12 110) [(.int 110)])) rfl (hb hby ej43m32_d35)
  refine own_via (g' := (mkF m 38 (own_A7 s1 va wL 2 12 110) [(.ref wCD), (.int 110)])) st ?_
  refine own_via (g' := (mkF m 40 (own_A7 s1 va wL 2 12 110) [(.int 110), (.ref wCD), (.int 110)])) (fun t_ k_ => XS.iload X.here hx rfl (hb hby ej43m32_d38) rfl k_) ?_
  obtain ⟨cq, kq, qa, qb, qc⟩ := isOf hZ eT (E_cd.ext O.2)
  obtain ⟨_, _, ⟨T, Lq, kq, nq⟩, -, X, ⟨Lc, hQ, lq, yq, zq⟩, st⟩ := X.virtualBack hx (y := own_y6) (z := own_y6) hown (mvT hZ (hw _ (own_w 102 rfl))) (mvT hZ (hw _ (own_w 103 rfl))) (notFace_of_selects (args := #[]) (mvT hZ (hw _ (own_w 105 rfl)))) (mvT hZ (hw _ (own_w 105 rfl))) (mvT hZ (hw _ (own_w 104 rfl))) (by decide) (backOf (W := 1) (own_tl l Z a0 hw [] wCD (110 : Int32) (110 : Int32) h n0 O (by decide)) hZ (hw _ (own_w 106 rfl)) (hw _ (own_w 101 rfl)) (by decide) (by decide)) qa qc (g := (mkF m 40 (own_A7 s1 va wL 2 12 110) [(.int 110), (.ref wCD), (.int 110)])) rfl (by rw [hml]; rfl) (Steps.refl _) (argsL := [(.int 110)]) (rest := [(.int 110)]) (lenOf own_pd6 rfl) rfl (by show 2 * 0 + _ ≤ _; exact Nat.le_of_eq rfl) (hb hby ej43m32_d40) (fun _ _ => ⟨rfl, eT, (by decide : 0 + 0 ≤ _), (by decide : 0 + 0 ≤ _)⟩)
  dsimp only [Pt.U, Pt.locs, Pt.cells, Pt.slots] at X lq yq zq st hQ
  rw [lq, yq, zq] at X
  obtain ⟨rfl, Nq, eT⟩ := hQ
  replace N := Fr.app N Nq
  refine own_viaT (g' := (mkF m 43 (own_A7 s1 va wL 2 12 110) [(.int 110), (.int 110)])) st ?_
  refine own_via (g' := (mkF m 52 (own_A7 s1 va wL ((2 : Int32) + (1 : Int32)) 12 110) [])) (fun t_ k_ => XS.icmpYes X.here hx rfl (pc0 := 43) (pc' := 49) rfl (hb hby ej43m32_d43) rfl (teq (by decide : (110 : Int32) = (110 : Int32))).1 (by decide) (by decide) (XS.iinc X.here hx rfl (hb hby ej43m32_d49) rfl (l' := (own_A7 s1 va wL ((2 : Int32) + (1 : Int32)) 12 110)) rfl k_)) ?_
  rw [(by decide : ((2 : Int32) + (1 : Int32)) = (3 : Int32))]
  refine own_via (g' := (mkF m 26 (own_A7 s1 va wL 3 12 110) [(.int 3), (.ref va)])) (fun t_ k_ => XS.goto X.here hx rfl (pc0 := 52) (pc' := 18) rfl (hb hby ej43m32_d52) (by decide) (by decide) (XS.iloadN X.here hx rfl (hb hby ej43m32_d18) rfl (XS.iload X.here hx rfl (hb hby ej43m32_d19) rfl (XS.icmpNo X.here hx rfl (hb hby ej43m32_d21) rfl (tlt (by decide : (3 : Int32) < (12 : Int32))).2.1 (XS.aloadN X.here hx rfl (hb hby ej43m32_d24) rfl rfl (XS.iloadN X.here hx rfl (hb hby ej43m32_d25) rfl k_)))))) ?_
  obtain ⟨cl_, Ar_, -, Sz_, Nn_, Hs_, -⟩ := id V_va
  have hin_ : ¬ ((3 : Int32) < 0 ∨ cl_.slots.size ≤ ((3 : Int32)).toNatClampNeg) := inb_of Sz_ ⟨by decide, by decide⟩
  have hat_ : cl_.slots[((3 : Int32)).toNatClampNeg]? = some (.int 116) := Hs_.at hin_ rfl
  refine own_via (g' := (mkF m 31 (own_A7 s1 va wL 3 12 110) [(.int ((116 : Int32) &&& (255 : Int32)))])) (fun t_ k_ => X.baloadBytes hx (j := (3 : Int32)) (v := (.int 116)) (by rw [eT]; exact Ar_.1) (State.isArrayOf_alike hZ.alike Ar_.2.1) Ar_.2.2 hin_ hat_ (g := (mkF m 26 (own_A7 s1 va wL 3 12 110) [(.int 3), (.ref va)])) rfl rfl (hb hby ej43m32_d26) _ (XS.sipush X.here hx rfl (hb hby ej43m32_d27) (XS.iand X.here hx rfl (hb hby ej43m32_d30) rfl k_))) ?_
  rw [(by decide : ((116 : Int32) &&& (255 : Int32)) = (116 : Int32))]
  refine own_via (g' := (mkF m 35 (own_A7 s1 va wL 3 12 116) [(.int 116)])) (fun t_ k_ => XS.istore X.here hx rfl (hb hby ej43m32_d31) rfl (l' := (own_A7 s1 va wL 3 12 116)) rfl (XS.iload X.here hx rfl (hb hby ej43m32_d33) rfl k_)) ?_
  obtain ⟨T, X, eT, st⟩ := getS2 X hx hZ hown (host := "") (Or.inl (hw _ (own_w 100 rfl))) Via.refl eT (S_cd.ext O.2) (g := (mkF m 35 (own_A7 s1 va wL 3 12 116) [(.int 116)])) rfl (hb hby ej43m32_d35)
  refine own_via (g' := (mkF m 38 (own_A7 s1 va wL 3 12 116) [(.ref wCD), (.int 116)])) st ?_
  refine own_via (g' := (mkF m 40 (own_A7 s1 va wL 3 12 116) [(.int 116), (.ref wCD), (.int 116)])) (fun t_ k_ => XS.iload X.here hx rfl (hb hby ej43m32_d38) rfl k_) ?_
  obtain ⟨cq, kq, qa, qb, qc⟩ := isOf hZ eT (E_cd.ext O.2)
  obtain ⟨_, _, ⟨T, Lq, kq, nq⟩, -, X, ⟨Lc, hQ, lq, yq, zq⟩, st⟩ := X.virtualBack hx (y := own_y6) (z := own_y6) hown (mvT hZ (hw _ (own_w 102 rfl))) (mvT hZ (hw _ (own_w 103 rfl))) (notFace_of_selects (args := #[]) (mvT hZ (hw _ (own_w 105 rfl)))) (mvT hZ (hw _ (own_w 105 rfl))) (mvT hZ (hw _ (own_w 104 rfl))) (by decide) (backOf (W := 1) (own_tl l Z a0 hw [] wCD (116 : Int32) (116 : Int32) h n0 O (by decide)) hZ (hw _ (own_w 106 rfl)) (hw _ (own_w 101 rfl)) (by decide) (by decide)) qa qc (g := (mkF m 40 (own_A7 s1 va wL 3 12 116) [(.int 116), (.ref wCD), (.int 116)])) rfl (by rw [hml]; rfl) (Steps.refl _) (argsL := [(.int 116)]) (rest := [(.int 116)]) (lenOf own_pd6 rfl) rfl (by show 2 * 0 + _ ≤ _; exact Nat.le_of_eq rfl) (hb hby ej43m32_d40) (fun _ _ => ⟨rfl, eT, (by decide : 0 + 0 ≤ _), (by decide : 0 + 0 ≤ _)⟩)
  dsimp only [Pt.U, Pt.locs, Pt.cells, Pt.slots] at X lq yq zq st hQ
  rw [lq, yq, zq] at X
  obtain ⟨rfl, Nq, eT⟩ := hQ
  replace N := Fr.app N Nq
  refine own_viaT (g' := (mkF m 43 (own_A7 s1 va wL 3 12 116) [(.int 116), (.int 116)])) st ?_
  refine own_via (g' := (mkF m 52 (own_A7 s1 va wL ((3 : Int32) + (1 : Int32)) 12 116) [])) (fun t_ k_ => XS.icmpYes X.here hx rfl (pc0 := 43) (pc' := 49) rfl (hb hby ej43m32_d43) rfl (teq (by decide : (116 : Int32) = (116 : Int32))).1 (by decide) (by decide) (XS.iinc X.here hx rfl (hb hby ej43m32_d49) rfl (l' := (own_A7 s1 va wL ((3 : Int32) + (1 : Int32)) 12 116)) rfl k_)) ?_
  rw [(by decide : ((3 : Int32) + (1 : Int32)) = (4 : Int32))]
  refine own_via (g' := (mkF m 26 (own_A7 s1 va wL 4 12 116) [(.int 4), (.ref va)])) (fun t_ k_ => XS.goto X.here hx rfl (pc0 := 52) (pc' := 18) rfl (hb hby ej43m32_d52) (by decide) (by decide) (XS.iloadN X.here hx rfl (hb hby ej43m32_d18) rfl (XS.iload X.here hx rfl (hb hby ej43m32_d19) rfl (XS.icmpNo X.here hx rfl (hb hby ej43m32_d21) rfl (tlt (by decide : (4 : Int32) < (12 : Int32))).2.1 (XS.aloadN X.here hx rfl (hb hby ej43m32_d24) rfl rfl (XS.iloadN X.here hx rfl (hb hby ej43m32_d25) rfl k_)))))) ?_
  obtain ⟨cl_, Ar_, -, Sz_, Nn_, Hs_, -⟩ := id V_va
  have hin_ : ¬ ((4 : Int32) < 0 ∨ cl_.slots.size ≤ ((4 : Int32)).toNatClampNeg) := inb_of Sz_ ⟨by decide, by decide⟩
  have hat_ : cl_.slots[((4 : Int32)).toNatClampNeg]? = some (.int 101) := Hs_.at hin_ rfl
  refine own_via (g' := (mkF m 31 (own_A7 s1 va wL 4 12 116) [(.int ((101 : Int32) &&& (255 : Int32)))])) (fun t_ k_ => X.baloadBytes hx (j := (4 : Int32)) (v := (.int 101)) (by rw [eT]; exact Ar_.1) (State.isArrayOf_alike hZ.alike Ar_.2.1) Ar_.2.2 hin_ hat_ (g := (mkF m 26 (own_A7 s1 va wL 4 12 116) [(.int 4), (.ref va)])) rfl rfl (hb hby ej43m32_d26) _ (XS.sipush X.here hx rfl (hb hby ej43m32_d27) (XS.iand X.here hx rfl (hb hby ej43m32_d30) rfl k_))) ?_
  rw [(by decide : ((101 : Int32) &&& (255 : Int32)) = (101 : Int32))]
  refine own_via (g' := (mkF m 35 (own_A7 s1 va wL 4 12 101) [(.int 101)])) (fun t_ k_ => XS.istore X.here hx rfl (hb hby ej43m32_d31) rfl (l' := (own_A7 s1 va wL 4 12 101)) rfl (XS.iload X.here hx rfl (hb hby ej43m32_d33) rfl k_)) ?_
  obtain ⟨T, X, eT, st⟩ := getS2 X hx hZ hown (host := "") (Or.inl (hw _ (own_w 100 rfl))) Via.refl eT (S_cd.ext O.2) (g := (mkF m 35 (own_A7 s1 va wL 4 12 101) [(.int 101)])) rfl (hb hby ej43m32_d35)
  refine own_via (g' := (mkF m 38 (own_A7 s1 va wL 4 12 101) [(.ref wCD), (.int 101)])) st ?_
  refine own_via (g' := (mkF m 40 (own_A7 s1 va wL 4 12 101) [(.int 101), (.ref wCD), (.int 101)])) (fun t_ k_ => XS.iload X.here hx rfl (hb hby ej43m32_d38) rfl k_) ?_
  obtain ⟨cq, kq, qa, qb, qc⟩ := isOf hZ eT (E_cd.ext O.2)
  obtain ⟨_, _, ⟨T, Lq, kq, nq⟩, -, X, ⟨Lc, hQ, lq, yq, zq⟩, st⟩ := X.virtualBack hx (y := own_y6) (z := own_y6) hown (mvT hZ (hw _ (own_w 102 rfl))) (mvT hZ (hw _ (own_w 103 rfl))) (notFace_of_selects (args := #[]) (mvT hZ (hw _ (own_w 105 rfl)))) (mvT hZ (hw _ (own_w 105 rfl))) (mvT hZ (hw _ (own_w 104 rfl))) (by decide) (backOf (W := 1) (own_tl l Z a0 hw [] wCD (101 : Int32) (101 : Int32) h n0 O (by decide)) hZ (hw _ (own_w 106 rfl)) (hw _ (own_w 101 rfl)) (by decide) (by decide)) qa qc (g := (mkF m 40 (own_A7 s1 va wL 4 12 101) [(.int 101), (.ref wCD), (.int 101)])) rfl (by rw [hml]; rfl) (Steps.refl _) (argsL := [(.int 101)]) (rest := [(.int 101)]) (lenOf own_pd6 rfl) rfl (by show 2 * 0 + _ ≤ _; exact Nat.le_of_eq rfl) (hb hby ej43m32_d40) (fun _ _ => ⟨rfl, eT, (by decide : 0 + 0 ≤ _), (by decide : 0 + 0 ≤ _)⟩)
  dsimp only [Pt.U, Pt.locs, Pt.cells, Pt.slots] at X lq yq zq st hQ
  rw [lq, yq, zq] at X
  obtain ⟨rfl, Nq, eT⟩ := hQ
  replace N := Fr.app N Nq
  refine own_viaT (g' := (mkF m 43 (own_A7 s1 va wL 4 12 101) [(.int 101), (.int 101)])) st ?_
  refine own_via (g' := (mkF m 52 (own_A7 s1 va wL ((4 : Int32) + (1 : Int32)) 12 101) [])) (fun t_ k_ => XS.icmpYes X.here hx rfl (pc0 := 43) (pc' := 49) rfl (hb hby ej43m32_d43) rfl (teq (by decide : (101 : Int32) = (101 : Int32))).1 (by decide) (by decide) (XS.iinc X.here hx rfl (hb hby ej43m32_d49) rfl (l' := (own_A7 s1 va wL ((4 : Int32) + (1 : Int32)) 12 101)) rfl k_)) ?_
  rw [(by decide : ((4 : Int32) + (1 : Int32)) = (5 : Int32))]
  refine own_via (g' := (mkF m 26 (own_A7 s1 va wL 5 12 101) [(.int 5), (.ref va)])) (fun t_ k_ => XS.goto X.here hx rfl (pc0 := 52) (pc' := 18) rfl (hb hby ej43m32_d52) (by decide) (by decide) (XS.iloadN X.here hx rfl (hb hby ej43m32_d18) rfl (XS.iload X.here hx rfl (hb hby ej43m32_d19) rfl (XS.icmpNo X.here hx rfl (hb hby ej43m32_d21) rfl (tlt (by decide : (5 : Int32) < (12 : Int32))).2.1 (XS.aloadN X.here hx rfl (hb hby ej43m32_d24) rfl rfl (XS.iloadN X.here hx rfl (hb hby ej43m32_d25) rfl k_)))))) ?_
  obtain ⟨cl_, Ar_, -, Sz_, Nn_, Hs_, -⟩ := id V_va
  have hin_ : ¬ ((5 : Int32) < 0 ∨ cl_.slots.size ≤ ((5 : Int32)).toNatClampNeg) := inb_of Sz_ ⟨by decide, by decide⟩
  have hat_ : cl_.slots[((5 : Int32)).toNatClampNeg]? = some (.int 110) := Hs_.at hin_ rfl
  refine own_via (g' := (mkF m 31 (own_A7 s1 va wL 5 12 101) [(.int ((110 : Int32) &&& (255 : Int32)))])) (fun t_ k_ => X.baloadBytes hx (j := (5 : Int32)) (v := (.int 110)) (by rw [eT]; exact Ar_.1) (State.isArrayOf_alike hZ.alike Ar_.2.1) Ar_.2.2 hin_ hat_ (g := (mkF m 26 (own_A7 s1 va wL 5 12 101) [(.int 5), (.ref va)])) rfl rfl (hb hby ej43m32_d26) _ (XS.sipush X.here hx rfl (hb hby ej43m32_d27) (XS.iand X.here hx rfl (hb hby ej43m32_d30) rfl k_))) ?_
  rw [(by decide : ((110 : Int32) &&& (255 : Int32)) = (110 : Int32))]
  refine own_via (g' := (mkF m 35 (own_A7 s1 va wL 5 12 110) [(.int 110)])) (fun t_ k_ => XS.istore X.here hx rfl (hb hby ej43m32_d31) rfl (l' := (own_A7 s1 va wL 5 12 110)) rfl (XS.iload X.here hx rfl (hb hby ej43m32_d33) rfl k_)) ?_
  obtain ⟨T, X, eT, st⟩ := getS2 X hx hZ hown (host := "") (Or.inl (hw _ (own_w 100 rfl))) Via.refl eT (S_cd.ext O.2) (g := (mkF m 35 (own_A7 s1 va wL 5 12 110) [(.int 110)])) rfl (hb hby ej43m32_d35)
  refine own_via (g' := (mkF m 38 (own_A7 s1 va wL 5 12 110) [(.ref wCD), (.int 110)])) st ?_
  refine own_via (g' := (mkF m 40 (own_A7 s1 va wL 5 12 110) [(.int 110), (.ref wCD), (.int 110)])) (fun t_ k_ => XS.iload X.here hx rfl (hb hby ej43m32_d38) rfl k_) ?_
  obtain ⟨cq, kq, qa, qb, qc⟩ := isOf hZ eT (E_cd.ext O.2)
  obtain ⟨_, _, ⟨T, Lq, kq, nq⟩, -, X, ⟨Lc, hQ, lq, yq, zq⟩, st⟩ := X.virtualBack hx (y := own_y6) (z := own_y6) hown (mvT hZ (hw _ (own_w 102 rfl))) (mvT hZ (hw _ (own_w 103 rfl))) (notFace_of_selects (args := #[]) (mvT hZ (hw _ (own_w 105 rfl)))) (mvT hZ (hw _ (own_w 105 rfl))) (mvT hZ (hw _ (own_w 104 rfl))) (by decide) (backOf (W := 1) (own_tl l Z a0 hw [] wCD (110 : Int32) (110 : Int32) h n0 O (by decide)) hZ (hw _ (own_w 106 rfl)) (hw _ (own_w 101 rfl)) (by decide) (by decide)) qa qc (g := (mkF m 40 (own_A7 s1 va wL 5 12 110) [(.int 110), (.ref wCD), (.int 110)])) rfl (by rw [hml]; rfl) (Steps.refl _) (argsL := [(.int 110)]) (rest := [(.int 110)]) (lenOf own_pd6 rfl) rfl (by show 2 * 0 + _ ≤ _; exact Nat.le_of_eq rfl) (hb hby ej43m32_d40) (fun _ _ => ⟨rfl, eT, (by decide : 0 + 0 ≤ _), (by decide : 0 + 0 ≤ _)⟩)
  dsimp only [Pt.U, Pt.locs, Pt.cells, Pt.slots] at X lq yq zq st hQ
  rw [lq, yq, zq] at X
  obtain ⟨rfl, Nq, eT⟩ := hQ
  replace N := Fr.app N Nq
  refine own_viaT (g' := (mkF m 43 (own_A7 s1 va wL 5 12 110) [(.int 110), (.int 110)])) st ?_
  refine own_via (g' := (mkF m 52 (own_A7 s1 va wL ((5 : Int32) + (1 : Int32)) 12 110) [])) (fun t_ k_ => XS.icmpYes X.here hx rfl (pc0 := 43) (pc' := 49) rfl (hb hby ej43m32_d43) rfl (teq (by decide : (110 : Int32) = (110 : Int32))).1 (by decide) (by decide) (XS.iinc X.here hx rfl (hb hby ej43m32_d49) rfl (l' := (own_A7 s1 va wL ((5 : Int32) + (1 : Int32)) 12 110)) rfl k_)) ?_
  rw [(by decide : ((5 : Int32) + (1 : Int32)) = (6 : Int32))]
  refine own_via (g' := (mkF m 26 (own_A7 s1 va wL 6 12 110) [(.int 6), (.ref va)])) (fun t_ k_ => XS.goto X.here hx rfl (pc0 := 52) (pc' := 18) rfl (hb hby ej43m32_d52) (by decide) (by decide) (XS.iloadN X.here hx rfl (hb hby ej43m32_d18) rfl (XS.iload X.here hx rfl (hb hby ej43m32_d19) rfl (XS.icmpNo X.here hx rfl (hb hby ej43m32_d21) rfl (tlt (by decide : (6 : Int32) < (12 : Int32))).2.1 (XS.aloadN X.here hx rfl (hb hby ej43m32_d24) rfl rfl (XS.iloadN X.here hx rfl (hb hby ej43m32_d25) rfl k_)))))) ?_
  obtain ⟨cl_, Ar_, -, Sz_, Nn_, Hs_, -⟩ := id V_va
  have hin_ : ¬ ((6 : Int32) < 0 ∨ cl_.slots.size ≤ ((6 : Int32)).toNatClampNeg) := inb_of Sz_ ⟨by decide, by decide⟩
  have hat_ : cl_.slots[((6 : Int32)).toNatClampNeg]? = some (.int 116) := Hs_.at hin_ rfl
  refine own_via (g' := (mkF m 31 (own_A7 s1 va wL 6 12 110) [(.int ((116 : Int32) &&& (255 : Int32)))])) (fun t_ k_ => X.baloadBytes hx (j := (6 : Int32)) (v := (.int 116)) (by rw [eT]; exact Ar_.1) (State.isArrayOf_alike hZ.alike Ar_.2.1) Ar_.2.2 hin_ hat_ (g := (mkF m 26 (own_A7 s1 va wL 6 12 110) [(.int 6), (.ref va)])) rfl rfl (hb hby ej43m32_d26) _ (XS.sipush X.here hx rfl (hb hby ej43m32_d27) (XS.iand X.here hx rfl (hb hby ej43m32_d30) rfl k_))) ?_
  rw [(by decide : ((116 : Int32) &&& (255 : Int32)) = (116 : Int32))]
  refine own_via (g' := (mkF m 35 (own_A7 s1 va wL 6 12 116) [(.int 116)])) (fun t_ k_ => XS.istore X.here hx rfl (hb hby ej43m32_d31) rfl (l' := (own_A7 s1 va wL 6 12 116)) rfl (XS.iload X.here hx rfl (hb hby ej43m32_d33) rfl k_)) ?_
  obtain ⟨T, X, eT, st⟩ := getS2 X hx hZ hown (host := "") (Or.inl (hw _ (own_w 100 rfl))) Via.refl eT (S_cd.ext O.2) (g := (mkF m 35 (own_A7 s1 va wL 6 12 116) [(.int 116)])) rfl (hb hby ej43m32_d35)
  refine own_via (g' := (mkF m 38 (own_A7 s1 va wL 6 12 116) [(.ref wCD), (.int 116)])) st ?_
  refine own_via (g' := (mkF m 40 (own_A7 s1 va wL 6 12 116) [(.int 116), (.ref wCD), (.int 116)])) (fun t_ k_ => XS.iload X.here hx rfl (hb hby ej43m32_d38) rfl k_) ?_
  obtain ⟨cq, kq, qa, qb, qc⟩ := isOf hZ eT (E_cd.ext O.2)
  obtain ⟨_, _, ⟨T, Lq, kq, nq⟩, -, X, ⟨Lc, hQ, lq, yq, zq⟩, st⟩ := X.virtualBack hx (y := own_y6) (z := own_y6) hown (mvT hZ (hw _ (own_w 102 rfl))) (mvT hZ (hw _ (own_w 103 rfl))) (notFace_of_selects (args := #[]) (mvT hZ (hw _ (own_w 105 rfl)))) (mvT hZ (hw _ (own_w 105 rfl))) (mvT hZ (hw _ (own_w 104 rfl))) (by decide) (backOf (W := 1) (own_tl l Z a0 hw [] wCD (116 : Int32) (116 : Int32) h n0 O (by decide)) hZ (hw _ (own_w 106 rfl)) (hw _ (own_w 101 rfl)) (by decide) (by decide)) qa qc (g := (mkF m 40 (own_A7 s1 va wL 6 12 116) [(.int 116), (.ref wCD), (.int 116)])) rfl (by rw [hml]; rfl) (Steps.refl _) (argsL := [(.int 116)]) (rest := [(.int 116)]) (lenOf own_pd6 rfl) rfl (by show 2 * 0 + _ ≤ _; exact Nat.le_of_eq rfl) (hb hby ej43m32_d40) (fun _ _ => ⟨rfl, eT, (by decide : 0 + 0 ≤ _), (by decide : 0 + 0 ≤ _)⟩)
  dsimp only [Pt.U, Pt.locs, Pt.cells, Pt.slots] at X lq yq zq st hQ
  rw [lq, yq, zq] at X
  obtain ⟨rfl, Nq, eT⟩ := hQ
  replace N := Fr.app N Nq
  refine own_viaT (g' := (mkF m 43 (own_A7 s1 va wL 6 12 116) [(.int 116), (.int 116)])) st ?_
  refine own_via (g' := (mkF m 52 (own_A7 s1 va wL ((6 : Int32) + (1 : Int32)) 12 116) [])) (fun t_ k_ => XS.icmpYes X.here hx rfl (pc0 := 43) (pc' := 49) rfl (hb hby ej43m32_d43) rfl (teq (by decide : (116 : Int32) = (116 : Int32))).1 (by decide) (by decide) (XS.iinc X.here hx rfl (hb hby ej43m32_d49) rfl (l' := (own_A7 s1 va wL ((6 : Int32) + (1 : Int32)) 12 116)) rfl k_)) ?_
  rw [(by decide : ((6 : Int32) + (1 : Int32)) = (7 : Int32))]
  refine own_via (g' := (mkF m 26 (own_A7 s1 va wL 7 12 116) [(.int 7), (.ref va)])) (fun t_ k_ => XS.goto X.here hx rfl (pc0 := 52) (pc' := 18) rfl (hb hby ej43m32_d52) (by decide) (by decide) (XS.iloadN X.here hx rfl (hb hby ej43m32_d18) rfl (XS.iload X.here hx rfl (hb hby ej43m32_d19) rfl (XS.icmpNo X.here hx rfl (hb hby ej43m32_d21) rfl (tlt (by decide : (7 : Int32) < (12 : Int32))).2.1 (XS.aloadN X.here hx rfl (hb hby ej43m32_d24) rfl rfl (XS.iloadN X.here hx rfl (hb hby ej43m32_d25) rfl k_)))))) ?_
  obtain ⟨cl_, Ar_, -, Sz_, Nn_, Hs_, -⟩ := id V_va
  have hin_ : ¬ ((7 : Int32) < 0 ∨ cl_.slots.size ≤ ((7 : Int32)).toNatClampNeg) := inb_of Sz_ ⟨by decide, by decide⟩
  have hat_ : cl_.slots[((7 : Int32)).toNatClampNeg]? = some (.int 45) := Hs_.at hin_ rfl
  refine own_via (g' := (mkF m 31 (own_A7 s1 va wL 7 12 116) [(.int ((45 : Int32) &&& (255 : Int32)))])) (fun t_ k_ => X.baloadBytes hx (j := (7 : Int32)) (v := (.int 45)) (by rw [eT]; exact Ar_.1) (State.isArrayOf_alike hZ.alike Ar_.2.1) Ar_.2.2 hin_ hat_ (g := (mkF m 26 (own_A7 s1 va wL 7 12 116) [(.int 7), (.ref va)])) rfl rfl (hb hby ej43m32_d26) _ (XS.sipush X.here hx rfl (hb hby ej43m32_d27) (XS.iand X.here hx rfl (hb hby ej43m32_d30) rfl k_))) ?_
  rw [(by decide : ((45 : Int32) &&& (255 : Int32)) = (45 : Int32))]
  refine own_via (g' := (mkF m 35 (own_A7 s1 va wL 7 12 45) [(.int 45)])) (fun t_ k_ => XS.istore X.here hx rfl (hb hby ej43m32_d31) rfl (l' := (own_A7 s1 va wL 7 12 45)) rfl (XS.iload X.here hx rfl (hb hby ej43m32_d33) rfl k_)) ?_
  obtain ⟨T, X, eT, st⟩ := getS2 X hx hZ hown (host := "") (Or.inl (hw _ (own_w 100 rfl))) Via.refl eT (S_cd.ext O.2) (g := (mkF m 35 (own_A7 s1 va wL 7 12 45) [(.int 45)])) rfl (hb hby ej43m32_d35)
  refine own_via (g' := (mkF m 38 (own_A7 s1 va wL 7 12 45) [(.ref wCD), (.int 45)])) st ?_
  refine own_via (g' := (mkF m 40 (own_A7 s1 va wL 7 12 45) [(.int 45), (.ref wCD), (.int 45)])) (fun t_ k_ => XS.iload X.here hx rfl (hb hby ej43m32_d38) rfl k_) ?_
  obtain ⟨cq, kq, qa, qb, qc⟩ := isOf hZ eT (E_cd.ext O.2)
  obtain ⟨_, _, ⟨T, Lq, kq, nq⟩, -, X, ⟨Lc, hQ, lq, yq, zq⟩, st⟩ := X.virtualBack hx (y := own_y6) (z := own_y6) hown (mvT hZ (hw _ (own_w 102 rfl))) (mvT hZ (hw _ (own_w 103 rfl))) (notFace_of_selects (args := #[]) (mvT hZ (hw _ (own_w 105 rfl)))) (mvT hZ (hw _ (own_w 105 rfl))) (mvT hZ (hw _ (own_w 104 rfl))) (by decide) (backOf (W := 1) (own_tl l Z a0 hw [] wCD (45 : Int32) (45 : Int32) h n0 O (by decide)) hZ (hw _ (own_w 106 rfl)) (hw _ (own_w 101 rfl)) (by decide) (by decide)) qa qc (g := (mkF m 40 (own_A7 s1 va wL 7 12 45) [(.int 45), (.ref wCD), (.int 45)])) rfl (by rw [hml]; rfl) (Steps.refl _) (argsL := [(.int 45)]) (rest := [(.int 45)]) (lenOf own_pd6 rfl) rfl (by show 2 * 0 + _ ≤ _; exact Nat.le_of_eq rfl) (hb hby ej43m32_d40) (fun _ _ => ⟨rfl, eT, (by decide : 0 + 0 ≤ _), (by decide : 0 + 0 ≤ _)⟩)
  dsimp only [Pt.U, Pt.locs, Pt.cells, Pt.slots] at X lq yq zq st hQ
  rw [lq, yq, zq] at X
  obtain ⟨rfl, Nq, eT⟩ := hQ
  replace N := Fr.app N Nq
  refine own_viaT (g' := (mkF m 43 (own_A7 s1 va wL 7 12 45) [(.int 45), (.int 45)])) st ?_
  refine own_via (g' := (mkF m 52 (own_A7 s1 va wL ((7 : Int32) + (1 : Int32)) 12 45) [])) (fun t_ k_ => XS.icmpYes X.here hx rfl (pc0 := 43) (pc' := 49) rfl (hb hby ej43m32_d43) rfl (teq (by decide : (45 : Int32) = (45 : Int32))).1 (by decide) (by decide) (XS.iinc X.here hx rfl (hb hby ej43m32_d49) rfl (l' := (own_A7 s1 va wL ((7 : Int32) + (1 : Int32)) 12 45)) rfl k_)) ?_
  rw [(by decide : ((7 : Int32) + (1 : Int32)) = (8 : Int32))]
  refine own_via (g' := (mkF m 26 (own_A7 s1 va wL 8 12 45) [(.int 8), (.ref va)])) (fun t_ k_ => XS.goto X.here hx rfl (pc0 := 52) (pc' := 18) rfl (hb hby ej43m32_d52) (by decide) (by decide) (XS.iloadN X.here hx rfl (hb hby ej43m32_d18) rfl (XS.iload X.here hx rfl (hb hby ej43m32_d19) rfl (XS.icmpNo X.here hx rfl (hb hby ej43m32_d21) rfl (tlt (by decide : (8 : Int32) < (12 : Int32))).2.1 (XS.aloadN X.here hx rfl (hb hby ej43m32_d24) rfl rfl (XS.iloadN X.here hx rfl (hb hby ej43m32_d25) rfl k_)))))) ?_
  obtain ⟨cl_, Ar_, -, Sz_, Nn_, Hs_, -⟩ := id V_va
  have hin_ : ¬ ((8 : Int32) < 0 ∨ cl_.slots.size ≤ ((8 : Int32)).toNatClampNeg) := inb_of Sz_ ⟨by decide, by decide⟩
  have hat_ : cl_.slots[((8 : Int32)).toNatClampNeg]? = some (.int 116) := Hs_.at hin_ rfl
  refine own_via (g' := (mkF m 31 (own_A7 s1 va wL 8 12 45) [(.int ((116 : Int32) &&& (255 : Int32)))])) (fun t_ k_ => X.baloadBytes hx (j := (8 : Int32)) (v := (.int 116)) (by rw [eT]; exact Ar_.1) (State.isArrayOf_alike hZ.alike Ar_.2.1) Ar_.2.2 hin_ hat_ (g := (mkF m 26 (own_A7 s1 va wL 8 12 45) [(.int 8), (.ref va)])) rfl rfl (hb hby ej43m32_d26) _ (XS.sipush X.here hx rfl (hb hby ej43m32_d27) (XS.iand X.here hx rfl (hb hby ej43m32_d30) rfl k_))) ?_
  rw [(by decide : ((116 : Int32) &&& (255 : Int32)) = (116 : Int32))]
  refine own_via (g' := (mkF m 35 (own_A7 s1 va wL 8 12 116) [(.int 116)])) (fun t_ k_ => XS.istore X.here hx rfl (hb hby ej43m32_d31) rfl (l' := (own_A7 s1 va wL 8 12 116)) rfl (XS.iload X.here hx rfl (hb hby ej43m32_d33) rfl k_)) ?_
  obtain ⟨T, X, eT, st⟩ := getS2 X hx hZ hown (host := "") (Or.inl (hw _ (own_w 100 rfl))) Via.refl eT (S_cd.ext O.2) (g := (mkF m 35 (own_A7 s1 va wL 8 12 116) [(.int 116)])) rfl (hb hby ej43m32_d35)
  refine own_via (g' := (mkF m 38 (own_A7 s1 va wL 8 12 116) [(.ref wCD), (.int 116)])) st ?_
  refine own_via (g' := (mkF m 40 (own_A7 s1 va wL 8 12 116) [(.int 116), (.ref wCD), (.int 116)])) (fun t_ k_ => XS.iload X.here hx rfl (hb hby ej43m32_d38) rfl k_) ?_
  obtain ⟨cq, kq, qa, qb, qc⟩ := isOf hZ eT (E_cd.ext O.2)
  obtain ⟨_, _, ⟨T, Lq, kq, nq⟩, -, X, ⟨Lc, hQ, lq, yq, zq⟩, st⟩ := X.virtualBack hx (y := own_y6) (z := own_y6) hown (mvT hZ (hw _ (own_w 102 rfl))) (mvT hZ (hw _ (own_w 103 rfl))) (notFace_of_selects (args := #[]) (mvT hZ (hw _ (own_w 105 rfl)))) (mvT hZ (hw _ (own_w 105 rfl))) (mvT hZ (hw _ (own_w 104 rfl))) (by decide) (backOf (W := 1) (own_tl l Z a0 hw [] wCD (116 : Int32) (116 : Int32) h n0 O (by decide)) hZ (hw _ (own_w 106 rfl)) (hw _ (own_w 101 rfl)) (by decide) (by decide)) qa qc (g := (mkF m 40 (own_A7 s1 va wL 8 12 116) [(.int 116), (.ref wCD), (.int 116)])) rfl (by rw [hml]; rfl) (Steps.refl _) (argsL := [(.int 116)]) (rest := [(.int 116)]) (lenOf own_pd6 rfl) rfl (by show 2 * 0 + _ ≤ _; exact Nat.le_of_eq rfl) (hb hby ej43m32_d40) (fun _ _ => ⟨rfl, eT, (by decide : 0 + 0 ≤ _), (by decide : 0 + 0 ≤ _)⟩)
  dsimp only [Pt.U, Pt.locs, Pt.cells, Pt.slots] at X lq yq zq st hQ
  rw [lq, yq, zq] at X
  obtain ⟨rfl, Nq, eT⟩ := hQ
  replace N := Fr.app N Nq
  refine own_viaT (g' := (mkF m 43 (own_A7 s1 va wL 8 12 116) [(.int 116), (.int 116)])) st ?_
  refine own_via (g' := (mkF m 52 (own_A7 s1 va wL ((8 : Int32) + (1 : Int32)) 12 116) [])) (fun t_ k_ => XS.icmpYes X.here hx rfl (pc0 := 43) (pc' := 49) rfl (hb hby ej43m32_d43) rfl (teq (by decide : (116 : Int32) = (116 : Int32))).1 (by decide) (by decide) (XS.iinc X.here hx rfl (hb hby ej43m32_d49) rfl (l' := (own_A7 s1 va wL ((8 : Int32) + (1 : Int32)) 12 116)) rfl k_)) ?_
  rw [(by decide : ((8 : Int32) + (1 : Int32)) = (9 : Int32))]
  refine own_via (g' := (mkF m 26 (own_A7 s1 va wL 9 12 116) [(.int 9), (.ref va)])) (fun t_ k_ => XS.goto X.here hx rfl (pc0 := 52) (pc' := 18) rfl (hb hby ej43m32_d52) (by decide) (by decide) (XS.iloadN X.here hx rfl (hb hby ej43m32_d18) rfl (XS.iload X.here hx rfl (hb hby ej43m32_d19) rfl (XS.icmpNo X.here hx rfl (hb hby ej43m32_d21) rfl (tlt (by decide : (9 : Int32) < (12 : Int32))).2.1 (XS.aloadN X.here hx rfl (hb hby ej43m32_d24) rfl rfl (XS.iloadN X.here hx rfl (hb hby ej43m32_d25) rfl k_)))))) ?_
  obtain ⟨cl_, Ar_, -, Sz_, Nn_, Hs_, -⟩ := id V_va
  have hin_ : ¬ ((9 : Int32) < 0 ∨ cl_.slots.size ≤ ((9 : Int32)).toNatClampNeg) := inb_of Sz_ ⟨by decide, by decide⟩
  have hat_ : cl_.slots[((9 : Int32)).toNatClampNeg]? = some (.int 121) := Hs_.at hin_ rfl
  refine own_via (g' := (mkF m 31 (own_A7 s1 va wL 9 12 116) [(.int ((121 : Int32) &&& (255 : Int32)))])) (fun t_ k_ => X.baloadBytes hx (j := (9 : Int32)) (v := (.int 121)) (by rw [eT]; exact Ar_.1) (State.isArrayOf_alike hZ.alike Ar_.2.1) Ar_.2.2 hin_ hat_ (g := (mkF m 26 (own_A7 s1 va wL 9 12 116) [(.int 9), (.ref va)])) rfl rfl (hb hby ej43m32_d26) _ (XS.sipush X.here hx rfl (hb hby ej43m32_d27) (XS.iand X.here hx rfl (hb hby ej43m32_d30) rfl k_))) ?_
  rw [(by decide : ((121 : Int32) &&& (255 : Int32)) = (121 : Int32))]
  refine own_via (g' := (mkF m 35 (own_A7 s1 va wL 9 12 121) [(.int 121)])) (fun t_ k_ => XS.istore X.here hx rfl (hb hby ej43m32_d31) rfl (l' := (own_A7 s1 va wL 9 12 121)) rfl (XS.iload X.here hx rfl (hb hby ej43m32_d33) rfl k_)) ?_
  obtain ⟨T, X, eT, st⟩ := getS2 X hx hZ hown (host := "") (Or.inl (hw _ (own_w 100 rfl))) Via.refl eT (S_cd.ext O.2) (g := (mkF m 35 (own_A7 s1 va wL 9 12 121) [(.int 121)])) rfl (hb hby ej43m32_d35)
  refine own_via (g' := (mkF m 38 (own_A7 s1 va wL 9 12 121) [(.ref wCD), (.int 121)])) st ?_
  refine own_via (g' := (mkF m 40 (own_A7 s1 va wL 9 12 121) [(.int 121), (.ref wCD), (.int 121)])) (fun t_ k_ => XS.iload X.here hx rfl (hb hby ej43m32_d38) rfl k_) ?_
  obtain ⟨cq, kq, qa, qb, qc⟩ := isOf hZ eT (E_cd.ext O.2)
  obtain ⟨_, _, ⟨T, Lq, kq, nq⟩, -, X, ⟨Lc, hQ, lq, yq, zq⟩, st⟩ := X.virtualBack hx (y := own_y6) (z := own_y6) hown (mvT hZ (hw _ (own_w 102 rfl))) (mvT hZ (hw _ (own_w 103 rfl))) (notFace_of_selects (args := #[]) (mvT hZ (hw _ (own_w 105 rfl)))) (mvT hZ (hw _ (own_w 105 rfl))) (mvT hZ (hw _ (own_w 104 rfl))) (by decide) (backOf (W := 1) (own_tl l Z a0 hw [] wCD (121 : Int32) (121 : Int32) h n0 O (by decide)) hZ (hw _ (own_w 106 rfl)) (hw _ (own_w 101 rfl)) (by decide) (by decide)) qa qc (g := (mkF m 40 (own_A7 s1 va wL 9 12 121) [(.int 121), (.ref wCD), (.int 121)])) rfl (by rw [hml]; rfl) (Steps.refl _) (argsL := [(.int 121)]) (rest := [(.int 121)]) (lenOf own_pd6 rfl) rfl (by show 2 * 0 + _ ≤ _; exact Nat.le_of_eq rfl) (hb hby ej43m32_d40) (fun _ _ => ⟨rfl, eT, (by decide : 0 + 0 ≤ _), (by decide : 0 + 0 ≤ _)⟩)
  dsimp only [Pt.U, Pt.locs, Pt.cells, Pt.slots] at X lq yq zq st hQ
  rw [lq, yq, zq] at X
  obtain ⟨rfl, Nq, eT⟩ := hQ
  replace N := Fr.app N Nq
  refine own_viaT (g' := (mkF m 43 (own_A7 s1 va wL 9 12 121) [(.int 121), (.int 121)])) st ?_
  refine own_via (g' := (mkF m 52 (own_A7 s1 va wL ((9 : Int32) + (1 : Int32)) 12 121) [])) (fun t_ k_ => XS.icmpYes X.here hx rfl (pc0 := 43) (pc' := 49) rfl (hb hby ej43m32_d43) rfl (teq (by decide : (121 : Int32) = (121 : Int32))).1 (by decide) (by decide) (XS.iinc X.here hx rfl (hb hby ej43m32_d49) rfl (l' := (own_A7 s1 va wL ((9 : Int32) + (1 : Int32)) 12 121)) rfl k_)) ?_
  rw [(by decide : ((9 : Int32) + (1 : Int32)) = (10 : Int32))]
  refine own_via (g' := (mkF m 26 (own_A7 s1 va wL 10 12 121) [(.int 10), (.ref va)])) (fun t_ k_ => XS.goto X.here hx rfl (pc0 := 52) (pc' := 18) rfl (hb hby ej43m32_d52) (by decide) (by decide) (XS.iloadN X.here hx rfl (hb hby ej43m32_d18) rfl (XS.iload X.here hx rfl (hb hby ej43m32_d19) rfl (XS.icmpNo X.here hx rfl (hb hby ej43m32_d21) rfl (tlt (by decide : (10 : Int32) < (12 : Int32))).2.1 (XS.aloadN X.here hx rfl (hb hby ej43m32_d24) rfl rfl (XS.iloadN X.here hx rfl (hb hby ej43m32_d25) rfl k_)))))) ?_
  obtain ⟨cl_, Ar_, -, Sz_, Nn_, Hs_, -⟩ := id V_va
  have hin_ : ¬ ((10 : Int32) < 0 ∨ cl_.slots.size ≤ ((10 : Int32)).toNatClampNeg) := inb_of Sz_ ⟨by decide, by decide⟩
  have hat_ : cl_.slots[((10 : Int32)).toNatClampNeg]? = some (.int 112) := Hs_.at hin_ rfl
  refine own_via (g' := (mkF m 31 (own_A7 s1 va wL 10 12 121) [(.int ((112 : Int32) &&& (255 : Int32)))])) (fun t_ k_ => X.baloadBytes hx (j := (10 : Int32)) (v := (.int 112)) (by rw [eT]; exact Ar_.1) (State.isArrayOf_alike hZ.alike Ar_.2.1) Ar_.2.2 hin_ hat_ (g := (mkF m 26 (own_A7 s1 va wL 10 12 121) [(.int 10), (.ref va)])) rfl rfl (hb hby ej43m32_d26) _ (XS.sipush X.here hx rfl (hb hby ej43m32_d27) (XS.iand X.here hx rfl (hb hby ej43m32_d30) rfl k_))) ?_
  rw [(by decide : ((112 : Int32) &&& (255 : Int32)) = (112 : Int32))]
  refine own_via (g' := (mkF m 35 (own_A7 s1 va wL 10 12 112) [(.int 112)])) (fun t_ k_ => XS.istore X.here hx rfl (hb hby ej43m32_d31) rfl (l' := (own_A7 s1 va wL 10 12 112)) rfl (XS.iload X.here hx rfl (hb hby ej43m32_d33) rfl k_)) ?_
  obtain ⟨T, X, eT, st⟩ := getS2 X hx hZ hown (host := "") (Or.inl (hw _ (own_w 100 rfl))) Via.refl eT (S_cd.ext O.2) (g := (mkF m 35 (own_A7 s1 va wL 10 12 112) [(.int 112)])) rfl (hb hby ej43m32_d35)
  refine own_via (g' := (mkF m 38 (own_A7 s1 va wL 10 12 112) [(.ref wCD), (.int 112)])) st ?_
  refine own_via (g' := (mkF m 40 (own_A7 s1 va wL 10 12 112) [(.int 112), (.ref wCD), (.int 112)])) (fun t_ k_ => XS.iload X.here hx rfl (hb hby ej43m32_d38) rfl k_) ?_
  obtain ⟨cq, kq, qa, qb, qc⟩ := isOf hZ eT (E_cd.ext O.2)
  obtain ⟨_, _, ⟨T, Lq, kq, nq⟩, -, X, ⟨Lc, hQ, lq, yq, zq⟩, st⟩ := X.virtualBack hx (y := own_y6) (z := own_y6) hown (mvT hZ (hw _ (own_w 102 rfl))) (mvT hZ (hw _ (own_w 103 rfl))) (notFace_of_selects (args := #[]) (mvT hZ (hw _ (own_w 105 rfl)))) (mvT hZ (hw _ (own_w 105 rfl))) (mvT hZ (hw _ (own_w 104 rfl))) (by decide) (backOf (W := 1) (own_tl l Z a0 hw [] wCD (112 : Int32) (112 : Int32) h n0 O (by decide)) hZ (hw _ (own_w 106 rfl)) (hw _ (own_w 101 rfl)) (by decide) (by decide)) qa qc (g := (mkF m 40 (own_A7 s1 va wL 10 12 112) [(.int 112), (.ref wCD), (.int 112)])) rfl (by rw [hml]; rfl) (Steps.refl _) (argsL := [(.int 112)]) (rest := [(.int 112)]) (lenOf own_pd6 rfl) rfl (by show 2 * 0 + _ ≤ _; exact Nat.le_of_eq rfl) (hb hby ej43m32_d40) (fun _ _ => ⟨rfl, eT, (by decide : 0 + 0 ≤ _), (by decide : 0 + 0 ≤ _)⟩)
  dsimp only [Pt.U, Pt.locs, Pt.cells, Pt.slots] at X lq yq zq st hQ
  rw [lq, yq, zq] at X
  obtain ⟨rfl, Nq, eT⟩ := hQ
  replace N := Fr.app N Nq
  refine own_viaT (g' := (mkF m 43 (own_A7 s1 va wL 10 12 112) [(.int 112), (.int 112)])) st ?_
  refine own_via (g' := (mkF m 52 (own_A7 s1 va wL ((10 : Int32) + (1 : Int32)) 12 112) [])) (fun t_ k_ => XS.icmpYes X.here hx rfl (pc0 := 43) (pc' := 49) rfl (hb hby ej43m32_d43) rfl (teq (by decide : (112 : Int32) = (112 : Int32))).1 (by decide) (by decide) (XS.iinc X.here hx rfl (hb hby ej43m32_d49) rfl (l' := (own_A7 s1 va wL ((10 : Int32) + (1 : Int32)) 12 112)) rfl k_)) ?_
  rw [(by decide : ((10 : Int32) + (1 : Int32)) = (11 : Int32))]
  refine own_via (g' := (mkF m 26 (own_A7 s1 va wL 11 12 112) [(.int 11), (.ref va)])) (fun t_ k_ => XS.goto X.here hx rfl (pc0 := 52) (pc' := 18) rfl (hb hby ej43m32_d52) (by decide) (by decide) (XS.iloadN X.here hx rfl (hb hby ej43m32_d18) rfl (XS.iload X.here hx rfl (hb hby ej43m32_d19) rfl (XS.icmpNo X.here hx rfl (hb hby ej43m32_d21) rfl (tlt (by decide : (11 : Int32) < (12 : Int32))).2.1 (XS.aloadN X.here hx rfl (hb hby ej43m32_d24) rfl rfl (XS.iloadN X.here hx rfl (hb hby ej43m32_d25) rfl k_)))))) ?_
  obtain ⟨cl_, Ar_, -, Sz_, Nn_, Hs_, -⟩ := id V_va
  have hin_ : ¬ ((11 : Int32) < 0 ∨ cl_.slots.size ≤ ((11 : Int32)).toNatClampNeg) := inb_of Sz_ ⟨by decide, by decide⟩
  have hat_ : cl_.slots[((11 : Int32)).toNatClampNeg]? = some (.int 101) := Hs_.at hin_ rfl
  refine own_via (g' := (mkF m 31 (own_A7 s1 va wL 11 12 112) [(.int ((101 : Int32) &&& (255 : Int32)))])) (fun t_ k_ => X.baloadBytes hx (j := (11 : Int32)) (v := (.int 101)) (by rw [eT]; exact Ar_.1) (State.isArrayOf_alike hZ.alike Ar_.2.1) Ar_.2.2 hin_ hat_ (g := (mkF m 26 (own_A7 s1 va wL 11 12 112) [(.int 11), (.ref va)])) rfl rfl (hb hby ej43m32_d26) _ (XS.sipush X.here hx rfl (hb hby ej43m32_d27) (XS.iand X.here hx rfl (hb hby ej43m32_d30) rfl k_))) ?_
  rw [(by decide : ((101 : Int32) &&& (255 : Int32)) = (101 : Int32))]
  refine own_via (g' := (mkF m 35 (own_A7 s1 va wL 11 12 101) [(.int 101)])) (fun t_ k_ => XS.istore X.here hx rfl (hb hby ej43m32_d31) rfl (l' := (own_A7 s1 va wL 11 12 101)) rfl (XS.iload X.here hx rfl (hb hby ej43m32_d33) rfl k_)) ?_
  obtain ⟨T, X, eT, st⟩ := getS2 X hx hZ hown (host := "") (Or.inl (hw _ (own_w 100 rfl))) Via.refl eT (S_cd.ext O.2) (g := (mkF m 35 (own_A7 s1 va wL 11 12 101) [(.int 101)])) rfl (hb hby ej43m32_d35)
  refine own_via (g' := (mkF m 38 (own_A7 s1 va wL 11 12 101) [(.ref wCD), (.int 101)])) st ?_
  refine own_via (g' := (mkF m 40 (own_A7 s1 va wL 11 12 101) [(.int 101), (.ref wCD), (.int 101)])) (fun t_ k_ => XS.iload X.here hx rfl (hb hby ej43m32_d38) rfl k_) ?_
  obtain ⟨cq, kq, qa, qb, qc⟩ := isOf hZ eT (E_cd.ext O.2)
  obtain ⟨_, _, ⟨T, Lq, kq, nq⟩, -, X, ⟨Lc, hQ, lq, yq, zq⟩, st⟩ := X.virtualBack hx (y := own_y6) (z := own_y6) hown (mvT hZ (hw _ (own_w 102 rfl))) (mvT hZ (hw _ (own_w 103 rfl))) (notFace_of_selects (args := #[]) (mvT hZ (hw _ (own_w 105 rfl)))) (mvT hZ (hw _ (own_w 105 rfl))) (mvT hZ (hw _ (own_w 104 rfl))) (by decide) (backOf (W := 1) (own_tl l Z a0 hw [] wCD (101 : Int32) (101 : Int32) h n0 O (by decide)) hZ (hw _ (own_w 106 rfl)) (hw _ (own_w 101 rfl)) (by decide) (by decide)) qa qc (g := (mkF m 40 (own_A7 s1 va wL 11 12 101) [(.int 101), (.ref wCD), (.int 101)])) rfl (by rw [hml]; rfl) (Steps.refl _) (argsL := [(.int 101)]) (rest := [(.int 101)]) (lenOf own_pd6 rfl) rfl (by show 2 * 0 + _ ≤ _; exact Nat.le_of_eq rfl) (hb hby ej43m32_d40) (fun _ _ => ⟨rfl, eT, (by decide : 0 + 0 ≤ _), (by decide : 0 + 0 ≤ _)⟩)
  dsimp only [Pt.U, Pt.locs, Pt.cells, Pt.slots] at X lq yq zq st hQ
  rw [lq, yq, zq] at X
  obtain ⟨rfl, Nq, eT⟩ := hQ
  replace N := Fr.app N Nq
  refine own_viaT (g' := (mkF m 43 (own_A7 s1 va wL 11 12 101) [(.int 101), (.int 101)])) st ?_
  refine own_via (g' := (mkF m 52 (own_A7 s1 va wL ((11 : Int32) + (1 : Int32)) 12 101) [])) (fun t_ k_ => XS.icmpYes X.here hx rfl (pc0 := 43) (pc' := 49) rfl (hb hby ej43m32_d43) rfl (teq (by decide : (101 : Int32) = (101 : Int32))).1 (by decide) (by decide) (XS.iinc X.here hx rfl (hb hby ej43m32_d49) rfl (l' := (own_A7 s1 va wL ((11 : Int32) + (1 : Int32)) 12 101)) rfl k_)) ?_
  rw [(by decide : ((11 : Int32) + (1 : Int32)) = (12 : Int32))]
  refine own_via (g' := (mkF m 62 #[.val (.ref s1), .val (.ref va), .val (.ref wL), .val (.int 12), .val (.int 12), .val (.int 101), .unset, .unset, .unset] [(.ref s1)])) (fun t_ k_ => XS.goto X.here hx rfl (pc0 := 52) (pc' := 18) rfl (hb hby ej43m32_d52) (by decide) (by decide) (XS.iloadN X.here hx rfl (hb hby ej43m32_d18) rfl (XS.iload X.here hx rfl (hb hby ej43m32_d19) rfl (XS.icmpYes X.here hx rfl (pc0 := 21) (pc' := 55) rfl (hb hby ej43m32_d21) rfl (flt (by decide : ¬ ((12 : Int32) < (12 : Int32)))).2.1 (by decide) (by decide) (XS.iloadN X.here hx rfl (hb hby ej43m32_d55) rfl (XS.iload X.here hx rfl (hb hby ej43m32_d56) rfl (XS.icmpNo X.here hx rfl (hb hby ej43m32_d58) rfl (teq (by decide : (12 : Int32) = (12 : Int32))).2 (XS.aloadN X.here hx rfl (hb hby ej43m32_d61) rfl rfl k_)))))))) ?_
  refine own_retW X hx hlk Bd.returns rfl (Or.inr (Or.inr (Or.inr (Or.inr ⟨rfl, rfl, rfl⟩)))) (hb hby ej43m32_d62) (by decide) (by decide) ?_
  rw [eT]
  exact ⟨rfl, N, hh0⟩
theorem ej42m109_d0 : decode jdk_42_method_109_code 0 = .ok (.aload_n 0, 1) := by decide +kernel
theorem ej42m109_d1 : decode jdk_42_method_109_code 1 = .ok (.invokevirtual 492, 3) := by decide +kernel
theorem ej42m109_d4 : decode jdk_42_method_109_code 4 = .ok (.ifCond .eq 15, 3) := by decide +kernel
theorem ej42m109_d7 : decode jdk_42_method_109_code 7 = .ok (.aload_n 0, 1) := by decide +kernel
theorem ej42m109_d8 : decode jdk_42_method_109_code 8 = .ok (.aload_n 0, 1) := by decide +kernel
theorem ej42m109_d9 : decode jdk_42_method_109_code 9 = .ok (.getfield 9, 3) := by decide +kernel
theorem ej42m109_d12 : decode jdk_42_method_109_code 12 = .ok (.aload_n 1, 1) := by decide +kernel
theorem ej42m109_d13 : decode jdk_42_method_109_code 13 = .ok (.invokestatic 839, 3) := by decide +kernel
theorem ej42m109_d16 : decode jdk_42_method_109_code 16 = .ok (.goto 12, 3) := by decide +kernel
theorem ej42m109_d28 : decode jdk_42_method_109_code 28 = .ok (.areturn, 1) := by decide +kernel
theorem own_tlA_pn : plainFor (⟨"java/lang/String", "toLowerCase", "(Ljava/util/Locale;)Ljava/lang/String;"⟩ : MethodName) = true := by first | exact plainFor_of_name (by first | (simp [plainName, overriddenIn]; done) | decide +kernel) | decide +kernel | exact Jvm.Free.JP.mathPlain rfl (by decide +kernel)
theorem own_tlA_ef (m : MethodId) (x0 : Addr) (x1 : Addr) : entryFrame m #[(.ref x0), (.ref x1)] 2 = mkF m 0 #[.val (.ref x0), .val (.ref x1)] [] := by first | (simp [entryFrame, mkF, argsToLocals, Value.category]; done) | rfl
def own_tlA_Q (Z : State) (s1 : Addr) (va : Addr) (kv : ClassId) (wL : Addr) (wCD : Addr) (zc : Int32) (h0 : Heap) (n0 : Nat) (v : Option Value) (h : Heap) (L : List Loc) : Prop := v = some (.ref s1) ∧ Fr n0 L ∧ h = h0
set_option maxRecDepth 65536 in
set_option maxHeartbeats 40000000 in
theorem own_tlA (l : Launch) (Z : State) (a0 : Array Value) (hw : ∀ d ∈ tables_1, d.before a0 Z = true) (ws : List Jvm.Cond) (s1 : Addr) (va : Addr) (kv : ClassId) (wL : Addr) (wCD : Addr) (zc : Int32) (h0 : Heap) (n0 : Nat) (O : Old Z n0 h0) (E_s1 : Exa Z h0 s1 "java/lang/String") (F_value_s1 : Fld Z h0 s1 "java/lang/String" "value" "[B" (.ref va)) (F_coder_s1 : Fld Z h0 s1 "java/lang/String" "coder" "B" (.int 0)) (E_va : Exa Z h0 va "[B") (V_va : Arv Z h0 va kv .byte (12 : Int32) [(.int 99), (.int 111), (.int 110), (.int 116), (.int 101), (.int 110), (.int 116), (.int 45), (.int 116), (.int 121), (.int 112), (.int 101)] (.int 0)) (S_cd : Sta Z Z.heap "java/lang/CharacterDataLatin1" "instance" "Ljava/lang/CharacterDataLatin1;" (.ref wCD)) (E_cd : Exa Z Z.heap wCD "java/lang/CharacterDataLatin1") (S_C : Sta Z Z.heap "java/lang/String" "COMPACT_STRINGS" "Z" (.int zc)) (hzc : ¬ zc = 0) :
    MetFree l (⟨"java/lang/String", "toLowerCase", "(Ljava/util/Locale;)Ljava/lang/String;"⟩ : MethodName) (head1 (Jvm.Cond.code (⟨"java/lang/String", "toLowerCase", "(Ljava/util/Locale;)Ljava/lang/String;"⟩ : MethodName) jdk_42_method_109_code 2 (some (.object "java/lang/String")) :: ws) ({ frames := 2, cells := 0, slots := 0, locals := 35 } : Room)) (fun a U => a = #[(.ref s1), (.ref wL)] ∧ Z.Warmed39 U.vm ∧ U.heap = h0) (fun _ _ _ _ _ => True) (fun _ U o U' => ∃ v L, o = .returned v ∧ own_tlA_Q Z s1 va kv wL wCD zc h0 n0 v U'.heap L ∧ FrameEnd U o U' L ({ frames := 2, cells := 0, slots := 0, locals := 35 } : Room).cells ({ frames := 2, cells := 0, slots := 0, locals := 35 } : Room).slots) := by
  refine MetFree.of_bodySF own_tlA_pn hisR ?_
  intro p e s m args below meth c s₁ Bd hml0 hP hK
  obtain ⟨rfl, hZ, hh⟩ := hP
  have hx := Bd.exec
  have hby := Bd.bytes
  have hlk := Bd.notSynchronized
  have hml : c.maxLocals = 2 := hml0
  have hown : s.vm.findClass "java/lang/String" = some m.cls := findClass_of_methodNamed Bd.named
  have hnm := (name_of_methodNamed Bd.named Bd.method).1
  have X : Stand p l e ({ frames := 2, cells := 0, slots := 0, locals := 35 } : Room) s m #[(.ref s1), (.ref wL)] below meth c s₁ [] 0 0 := Stand.of_body Bd
  have eT : s₁.heap = h0 := by rw [← hh, Bd.state]; rfl
  have N := Fr.nil n0
  have K0 := Keep.refl h0 []
  show own_Ends p e below (own_Post s below (own_tlA_Q Z s1 va kv wL wCD zc h0 n0) ({ frames := 2, cells := 0, slots := 0, locals := 35 } : Room).cells ({ frames := 2, cells := 0, slots := 0, locals := 35 } : Room).slots) s₁ (entryFrame m #[(.ref s1), (.ref wL)] 2)
  rw [own_tlA_ef m s1 wL]
  obtain ⟨T, hT⟩ : ∃ z, z = s₁ := ⟨_, rfl⟩
  rw [← hT] at X eT ⊢
  obtain ⟨h, hh0⟩ : ∃ z, z = h0 := ⟨_, rfl⟩
  rw [← hh0] at eT
  replace O : Old Z n0 h := by rw [hh0]; exact O
  replace K0 : Keep h0 h [] := by rw [hh0]; exact K0
  rw [← hh0] at E_s1
  rw [← hh0] at F_value_s1
  rw [← hh0] at F_coder_s1
  rw [← hh0] at E_va
  rw [← hh0] at V_va
  have ne_s1_va := Exa.ne E_s1 E_va (by decide)
  refine own_via (g' := (mkF m 1 #[.val (.ref s1), .val (.ref wL)] [(.ref s1)])) (fun t_ k_ => XS.aloadN X.here hx rfl (hb hby ej42m109_d0) rfl rfl k_) ?_
  obtain ⟨cq, kq, qa, qb, qc⟩ := isOf hZ eT E_s1
  obtain ⟨_, _, ⟨T, Lq, kq, nq⟩, -, X, ⟨Lc, hQ, lq, yq, zq⟩, st⟩ := X.virtualBack hx (y := own_y7) (z := own_y7) hown (mvT hZ (hw _ (own_w 88 rfl))) (mvT hZ (hw _ (own_w 89 rfl))) (notFace_of_selects (args := #[]) (mvT hZ (hw _ (own_w 91 rfl)))) (mvT hZ (hw _ (own_w 91 rfl))) (mvT hZ (hw _ (own_w 90 rfl))) (by decide) (backOf (W := 0) (own_sil l Z a0 hw [] s1 zc h n0 O F_coder_s1 S_C hzc) hZ (hw _ (own_w 92 rfl)) (hw _ (own_w 65 rfl)) (by decide) (by decide)) qa qc (g := (mkF m 1 #[.val (.ref s1), .val (.ref wL)] [(.ref s1)])) rfl (by rw [hml]; rfl) (Steps.refl _) (argsL := []) (rest := []) (lenOf own_pd7 rfl) rfl (by show 2 * 0 + _ ≤ _; exact Nat.le_of_eq rfl) (hb hby ej42m109_d1) (fun _ _ => ⟨rfl, eT, (by decide : 0 + 0 ≤ _), (by decide : 0 + 0 ≤ _)⟩)
  dsimp only [Pt.U, Pt.locs, Pt.cells, Pt.slots] at X lq yq zq st hQ
  rw [lq, yq, zq] at X
  obtain ⟨rfl, Nq, eT⟩ := hQ
  replace N := Fr.app N Nq
  refine own_viaT (g' := (mkF m 4 #[.val (.ref s1), .val (.ref wL)] [(.int 1)])) st ?_
  refine own_via (g' := (mkF m 9 #[.val (.ref s1), .val (.ref wL)] [(.ref s1), (.ref s1)])) (fun t_ k_ => XS.ifNo X.here hx rfl (hb hby ej42m109_d4) rfl ((if0 _ _).trans (feq (by decide : ¬ ((1 : Int32) = (0 : Int32)))).1) (XS.aloadN X.here hx rfl (hb hby ej42m109_d7) rfl rfl (XS.aloadN X.here hx rfl (hb hby ej42m109_d8) rfl rfl k_))) ?_
  obtain ⟨T, X, eT, st⟩ := getF X hx hZ hown (host := "") (Or.inl (hw _ (own_w 95 rfl))) Via.refl eT F_value_s1 (g := (mkF m 9 #[.val (.ref s1), .val (.ref wL)] [(.ref s1), (.ref s1)])) rfl rfl (hb hby ej42m109_d9)
  refine own_via (g' := (mkF m 12 #[.val (.ref s1), .val (.ref wL)] [(.ref va), (.ref s1)])) st ?_
  refine own_via (g' := (mkF m 13 #[.val (.ref s1), .val (.ref wL)] [(.ref wL), (.ref va), (.ref s1)])) (fun t_ k_ => XS.aloadN X.here hx rfl (hb hby ej42m109_d12) rfl rfl k_) ?_
  obtain ⟨_, _, ⟨T, Lq, kq, nq⟩, -, X, ⟨Lc, hQ, lq, yq, zq⟩, st⟩ := Jvm.LawKit.callS X hx (y := own_y8) hown (mvT hZ (hw _ (own_w 96 rfl))) (mvT hZ (hw _ (own_w 97 rfl))) (mvT hZ (hw _ (own_w 98 rfl))) (mvT hZ (hw _ (own_w 99 rfl))) (by decide) (backOf (W := 0) (own_slA l Z a0 hw [] s1 va kv wL wCD h n0 O E_va V_va S_cd E_cd) hZ (hw _ (own_w 99 rfl)) (hw _ (own_w 98 rfl)) (by decide) (by decide)) (g := (mkF m 13 #[.val (.ref s1), .val (.ref wL)] [(.ref wL), (.ref va), (.ref s1)])) rfl (by rw [hml]; rfl) (argsL := [(.ref s1), (.ref va), (.ref wL)]) (rest := []) (lenOf own_pd8 rfl) rfl (by show 2 * 0 + _ ≤ _; exact Nat.le_of_eq rfl) (hb hby ej42m109_d13) (fun _ _ => ⟨rfl, eT, (by decide : 0 + 0 ≤ _), (by decide : 0 + 0 ≤ _)⟩)
  dsimp only [Pt.U, Pt.locs, Pt.cells, Pt.slots] at X lq yq zq st hQ
  rw [lq, yq, zq] at X
  obtain ⟨rfl, Nq, eT⟩ := hQ
  replace N := Fr.app N Nq
  refine own_via (g' := (mkF m 16 #[.val (.ref s1), .val (.ref wL)] [(.ref s1)])) st ?_
  refine own_via (g' := (mkF m 28 #[.val (.ref s1), .val (.ref wL)] [(.ref s1)])) (fun t_ k_ => XS.goto X.here hx rfl (pc0 := 16) (pc' := 28) rfl (hb hby ej42m109_d16) (by decide) (by decide) k_) ?_
  refine own_retW X hx hlk Bd.returns rfl (Or.inr (Or.inr (Or.inr (Or.inr ⟨rfl, rfl, rfl⟩)))) (hb hby ej42m109_d28) (by decide) (by decide) ?_
  rw [eT]
  exact ⟨rfl, N, hh0⟩
theorem ep11m9_d0 : decode prog_11_method_9_code 0 = .ok (.aload_n 1, 1) := by decide +kernel
theorem ep11m9_d1 : decode prog_11_method_9_code 1 = .ok (.getstatic 87, 3) := by decide +kernel
theorem ep11m9_d4 : decode prog_11_method_9_code 4 = .ok (.invokevirtual 93, 3) := by decide +kernel
theorem ep11m9_d7 : decode prog_11_method_9_code 7 = .ok (.invokestatic 99, 3) := by decide +kernel
theorem ep11m9_d10 : decode prog_11_method_9_code 10 = .ok (.astore_n 2, 1) := by decide +kernel
theorem ep11m9_d11 : decode prog_11_method_9_code 11 = .ok (.invokestatic 103, 3) := by decide +kernel
theorem ep11m9_d14 : decode prog_11_method_9_code 14 = .ok (.astore_n 3, 1) := by decide +kernel
theorem ep11m9_d15 : decode prog_11_method_9_code 15 = .ok (.iconst 0, 1) := by decide +kernel
theorem ep11m9_d16 : decode prog_11_method_9_code 16 = .ok (.istore 4, 2) := by decide +kernel
theorem ep11m9_d18 : decode prog_11_method_9_code 18 = .ok (.iload 4, 2) := by decide +kernel
theorem ep11m9_d20 : decode prog_11_method_9_code 20 = .ok (.aload_n 0, 1) := by decide +kernel
theorem ep11m9_d21 : decode prog_11_method_9_code 21 = .ok (.getfield 62, 3) := by decide +kernel
theorem ep11m9_d24 : decode prog_11_method_9_code 24 = .ok (.if_icmp .ge 54, 3) := by decide +kernel
theorem ep11m9_d78 : decode prog_11_method_9_code 78 = .ok (.aload_n 3, 1) := by decide +kernel
theorem ep11m9_d79 : decode prog_11_method_9_code 79 = .ok (.areturn, 1) := by decide +kernel
theorem own_valuesA_pn : plainFor (⟨"com/example/brassrig/brassrig/engine/ResponseReader", "values", "(Ljava/lang/String;)Ljava/util/List;"⟩ : MethodName) = true := by first | exact plainFor_of_name (by first | (simp [plainName, overriddenIn]; done) | decide +kernel) | decide +kernel | exact Jvm.Free.JP.mathPlain rfl (by decide +kernel)
theorem own_valuesA_ef (m : MethodId) (x0 : Addr) (x1 : Addr) : entryFrame m #[(.ref x0), (.ref x1)] 5 = mkF m 0 #[.val (.ref x0), .val (.ref x1), .unset, .unset, .unset] [] := by first | (simp [entryFrame, mkF, argsToLocals, Value.category]; done) | rfl
def own_valuesA_Q (Z : State) (a1 : Addr) (s1 : Addr) (va : Addr) (kv : ClassId) (wL : Addr) (wCD : Addr) (wASC : Addr) (wU8 : Addr) (wISO : Addr) (wEL : Addr) (wEA : Addr) (kEA : ClassId) (dE : Value) (zc : Int32) (h0 : Heap) (n0 : Nat) (v : Option Value) (h : Heap) (L : List Loc) : Prop := v = some (.ref wEL) ∧ Fr n0 L ∧ Keep h0 h []
set_option maxRecDepth 65536 in
set_option maxHeartbeats 40000000 in
theorem own_valuesA (l : Launch) (Z : State) (a0 : Array Value) (hw : ∀ d ∈ tables_1, d.before a0 Z = true) (ws : List Jvm.Cond) (a1 : Addr) (s1 : Addr) (va : Addr) (kv : ClassId) (wL : Addr) (wCD : Addr) (wASC : Addr) (wU8 : Addr) (wISO : Addr) (wEL : Addr) (wEA : Addr) (kEA : ClassId) (dE : Value) (zc : Int32) (h0 : Heap) (n0 : Nat) (O : Old Z n0 h0) (E_a1 : Exa Z h0 a1 "com/example/brassrig/brassrig/engine/ResponseReader") (F_fieldCount_a1 : Fld Z h0 a1 "com/example/brassrig/brassrig/engine/ResponseReader" "fieldCount" "I" (.int 0)) (E_s1 : Exa Z h0 s1 "java/lang/String") (F_value_s1 : Fld Z h0 s1 "java/lang/String" "value" "[B" (.ref va)) (F_coder_s1 : Fld Z h0 s1 "java/lang/String" "coder" "B" (.int 0)) (E_va : Exa Z h0 va "[B") (V_va : Arv Z h0 va kv .byte (12 : Int32) [(.int 99), (.int 111), (.int 110), (.int 116), (.int 101), (.int 110), (.int 116), (.int 45), (.int 116), (.int 121), (.int 112), (.int 101)] (.int 0)) (S_loc : Sta Z Z.heap "java/util/Locale" "ROOT" "Ljava/util/Locale;" (.ref wL)) (S_cd : Sta Z Z.heap "java/lang/CharacterDataLatin1" "instance" "Ljava/lang/CharacterDataLatin1;" (.ref wCD)) (E_cd : Exa Z Z.heap wCD "java/lang/CharacterDataLatin1") (S_u8 : Sta Z Z.heap "sun/nio/cs/UTF_8" "INSTANCE" "Lsun/nio/cs/UTF_8;" (.ref wU8)) (S_iso : Sta Z Z.heap "sun/nio/cs/ISO_8859_1" "INSTANCE" "Lsun/nio/cs/ISO_8859_1;" (.ref wISO)) (S_asc : Sta Z Z.heap "sun/nio/cs/US_ASCII" "INSTANCE" "Lsun/nio/cs/US_ASCII;" (.ref wASC)) (S_sca : Sta Z Z.heap "java/nio/charset/StandardCharsets" "US_ASCII" "Ljava/nio/charset/Charset;" (.ref wASC)) (neA8 : ¬ wASC = wU8) (neAI : ¬ wASC = wISO) (S_el : Sta Z Z.heap "java/util/ImmutableCollections" "EMPTY_LIST" "Ljava/util/ImmutableCollections$ListN;" (.ref wEL)) (E_el : Exa Z Z.heap wEL "java/util/ImmutableCollections$ListN") (F_el : Fld Z Z.heap wEL "java/util/ImmutableCollections$ListN" "elements" "[Ljava/lang/Object;" (.ref wEA)) (A_el : Arv Z Z.heap wEA kEA (.object "java/lang/Object") (0 : Int32) ([] : List Value) dE) (S_C : Sta Z Z.heap "java/lang/String" "COMPACT_STRINGS" "Z" (.int zc)) (hzc : ¬ zc = 0) :
    MetFree l (⟨"com/example/brassrig/brassrig/engine/ResponseReader", "values", "(Ljava/lang/String;)Ljava/util/List;"⟩ : MethodName) (head1 (Jvm.Cond.code (⟨"com/example/brassrig/brassrig/engine/ResponseReader", "values", "(Ljava/lang/String;)Ljava/util/List;"⟩ : MethodName) prog_11_method_9_code 5 (some (.object "java/util/List")) :: ws) ({ frames := 5, cells := 1, slots := 12, locals := 73 } : Room)) (fun a U => a = #[(.ref a1), (.ref s1)] ∧ Z.Warmed39 U.vm ∧ U.heap = h0) (fun _ _ _ _ _ => True) (fun _ U o U' => ∃ v L, o = .returned v ∧ own_valuesA_Q Z a1 s1 va kv wL wCD wASC wU8 wISO wEL wEA kEA dE zc h0 n0 v U'.heap L ∧ FrameEnd U o U' L ({ frames := 5, cells := 1, slots := 12, locals := 73 } : Room).cells ({ frames := 5, cells := 1, slots := 12, locals := 73 } : Room).slots) := by
  refine MetFree.of_bodySF own_valuesA_pn hisR ?_
  intro p e s m args below meth c s₁ Bd hml0 hP hK
  obtain ⟨rfl, hZ, hh⟩ := hP
  have hx := Bd.exec
  have hby := Bd.bytes
  have hlk := Bd.notSynchronized
  have hml : c.maxLocals = 5 := hml0
  have hown : s.vm.findClass "com/example/brassrig/brassrig/engine/ResponseReader" = some m.cls := findClass_of_methodNamed Bd.named
  have hnm := (name_of_methodNamed Bd.named Bd.method).1
  have X : Stand p l e ({ frames := 5, cells := 1, slots := 12, locals := 73 } : Room) s m #[(.ref a1), (.ref s1)] below meth c s₁ [] 0 0 := Stand.of_body Bd
  have eT : s₁.heap = h0 := by rw [← hh, Bd.state]; rfl
  have N := Fr.nil n0
  have K0 := Keep.refl h0 []
  show own_Ends p e below (own_Post s below (own_valuesA_Q Z a1 s1 va kv wL wCD wASC wU8 wISO wEL wEA kEA dE zc h0 n0) ({ frames := 5, cells := 1, slots := 12, locals := 73 } : Room).cells ({ frames := 5, cells := 1, slots := 12, locals := 73 } : Room).slots) s₁ (entryFrame m #[(.ref a1), (.ref s1)] 5)
  rw [own_valuesA_ef m a1 s1]
  obtain ⟨T, hT⟩ : ∃ z, z = s₁ := ⟨_, rfl⟩
  rw [← hT] at X eT ⊢
  obtain ⟨h, hh0⟩ : ∃ z, z = h0 := ⟨_, rfl⟩
  rw [← hh0] at eT
  replace O : Old Z n0 h := by rw [hh0]; exact O
  replace K0 : Keep h0 h [] := by rw [hh0]; exact K0
  rw [← hh0] at E_a1
  rw [← hh0] at F_fieldCount_a1
  rw [← hh0] at E_s1
  rw [← hh0] at F_value_s1
  rw [← hh0] at F_coder_s1
  rw [← hh0] at E_va
  rw [← hh0] at V_va
  have ne_a1_s1 := Exa.ne E_a1 E_s1 (by decide)
  have ne_a1_va := Exa.ne E_a1 E_va (by decide)
  have ne_s1_va := Exa.ne E_s1 E_va (by decide)
  refine own_via (g' := (mkF m 1 (own_A32 a1 s1) [(.ref s1)])) (fun t_ k_ => XS.aloadN X.here hx rfl (hb hby ep11m9_d0) rfl rfl k_) ?_
  obtain ⟨T, X, eT, st⟩ := getS2 X hx hZ hown (host := "") (Or.inl (hw _ (own_w 81 rfl))) Via.refl eT (S_loc.ext O.2) (g := (mkF m 1 (own_A32 a1 s1) [(.ref s1)])) rfl (hb hby ep11m9_d1)
  refine own_via (g' := (mkF m 4 (own_A32 a1 s1) [(.ref wL), (.ref s1)])) st ?_
  obtain ⟨cq, kq, qa, qb, qc⟩ := isOf hZ eT E_s1
  obtain ⟨_, _, ⟨T, Lq, kq, nq⟩, -, X, ⟨Lc, hQ, lq, yq, zq⟩, st⟩ := X.virtualBack hx (y := own_y9) (z := own_y9) hown (mvT hZ (hw _ (own_w 83 rfl))) (mvT hZ (hw _ (own_w 84 rfl))) (notFace_of_selects (args := #[]) (mvT hZ (hw _ (own_w 86 rfl)))) (mvT hZ (hw _ (own_w 86 rfl))) (mvT hZ (hw _ (own_w 85 rfl))) (by decide) (backOf (W := 0) (own_tlA l Z a0 hw [] s1 va kv wL wCD zc h n0 O E_s1 F_value_s1 F_coder_s1 E_va V_va S_cd E_cd S_C hzc) hZ (hw _ (own_w 87 rfl)) (hw _ (own_w 65 rfl)) (by decide) (by decide)) qa qc (g := (mkF m 4 (own_A32 a1 s1) [(.ref wL), (.ref s1)])) rfl (by rw [hml]; rfl) (Steps.refl _) (argsL := [(.ref wL)]) (rest := []) (lenOf own_pd9 rfl) rfl (by show 2 * 0 + _ ≤ _; exact Nat.le_of_eq rfl) (hb hby ep11m9_d4) (fun _ _ => ⟨rfl, eT, (by decide : 0 + 0 ≤ _), (by decide : 0 + 0 ≤ _)⟩)
  dsimp only [Pt.U, Pt.locs, Pt.cells, Pt.slots] at X lq yq zq st hQ
  rw [lq, yq, zq] at X
  obtain ⟨rfl, Nq, eT⟩ := hQ
  replace N := Fr.app N Nq
  refine own_viaT (g' := (mkF m 7 (own_A32 a1 s1) [(.ref s1)])) st ?_
  obtain ⟨_, _, ⟨T, Lq, kq, nq⟩, -, X, ⟨Lc, hQ, lq, yq, zq⟩, st⟩ := Jvm.LawKit.callS X hx (y := own_y10) hown (mvT hZ (hw _ (own_w 107 rfl))) (mvT hZ (hw _ (own_w 108 rfl))) (mvT hZ (hw _ (own_w 2 rfl))) (mvT hZ (hw _ (own_w 109 rfl))) (by decide) (backOf (W := 0) (own_ascii l Z a0 hw [] s1 va kv wASC wU8 wISO zc h n0 O E_s1 F_value_s1 F_coder_s1 E_va V_va S_u8 S_iso S_asc S_sca neA8 neAI S_C hzc) hZ (hw _ (own_w 109 rfl)) (hw _ (own_w 2 rfl)) (by decide) (by decide)) (g := (mkF m 7 (own_A32 a1 s1) [(.ref s1)])) rfl (by rw [hml]; rfl) (argsL := [(.ref s1)]) (rest := []) (lenOf own_pd10 rfl) rfl (by show 2 * 0 + _ ≤ _; exact Nat.le_of_eq rfl) (hb hby ep11m9_d7) (fun _ _ => ⟨rfl, eT, (by decide : 0 + 1 ≤ _), (by decide : 0 + 12 ≤ _)⟩)
  dsimp only [Pt.U, Pt.locs, Pt.cells, Pt.slots] at X lq yq zq st hQ
  rw [lq, yq, zq] at X
  obtain ⟨bn, kbn, rfl, Nq, Kq, -⟩ := hQ
  replace N := Fr.app N Nq
  obtain ⟨h1, eT⟩ : ∃ z, T.heap = z := ⟨_, rfl⟩
  rw [eT] at Kq
  replace E_a1 := E_a1.keep Kq
  replace F_fieldCount_a1 := F_fieldCount_a1.keep Kq nin0
  replace E_s1 := E_s1.keep Kq
  replace F_value_s1 := F_value_s1.keep Kq nin0
  replace F_coder_s1 := F_coder_s1.keep Kq nin0
  replace E_va := E_va.keep Kq
  replace V_va := V_va.keep Kq nin0
  replace O := O.keep Kq all0
  replace K0 := K0.trans Kq all0
  refine own_via (g' := (mkF m 10 (own_A32 a1 s1) [(.ref bn)])) st ?_
  refine own_via (g' := (mkF m 11 (own_A31 a1 s1 bn) [])) (fun t_ k_ => XS.astoreN X.here hx rfl (hb hby ep11m9_d10) rfl rfl (l' := (own_A31 a1 s1 bn)) rfl k_) ?_
  obtain ⟨_, _, ⟨T, Lq, kq, nq⟩, -, X, ⟨Lc, hQ, lq, yq, zq⟩, st⟩ := Jvm.LawKit.callS X hx (y := own_y11) hown (mvT hZ (hw _ (own_w 147 rfl))) (mvT hZ (hw _ (own_w 148 rfl))) (mvT hZ (hw _ (own_w 149 rfl))) (mvT hZ (hw _ (own_w 150 rfl))) (by decide) (backOf (W := 0) (own_listOf l Z a0 hw [] wEL wEA kEA dE h1 n0 O S_el E_el F_el A_el) hZ (hw _ (own_w 150 rfl)) (hw _ (own_w 149 rfl)) (by decide) (by decide)) (g := (mkF m 11 (own_A31 a1 s1 bn) [])) rfl (by rw [hml]; rfl) (argsL := []) (rest := []) (lenOf own_pd11 rfl) rfl (by show 2 * 0 + _ ≤ _; exact Nat.le_of_eq rfl) (hb hby ep11m9_d11) (fun _ _ => ⟨rfl, eT, (by decide : 1 + 0 ≤ _), (by decide : 12 + 0 ≤ _)⟩)
  dsimp only [Pt.U, Pt.locs, Pt.cells, Pt.slots] at X lq yq zq st hQ
  rw [lq, yq, zq] at X
  obtain ⟨rfl, Nq, eT⟩ := hQ
  replace N := Fr.app N Nq
  refine own_via (g' := (mkF m 14 (own_A31 a1 s1 bn) [(.ref wEL)])) st ?_
  refine own_via (g' := (mkF m 21 (own_A24 a1 s1 bn wEL 0) [(.ref a1), (.int 0)])) (fun t_ k_ => XS.astoreN X.here hx rfl (hb hby ep11m9_d14) rfl rfl (l' := (own_A28 a1 s1 bn wEL)) rfl (XS.iconst X.here hx rfl (hb hby ep11m9_d15) (XS.istore X.here hx rfl (hb hby ep11m9_d16) rfl (l' := (own_A24 a1 s1 bn wEL 0)) rfl (XS.iload X.here hx rfl (hb hby ep11m9_d18) rfl (XS.aloadN X.here hx rfl (hb hby ep11m9_d20) rfl rfl k_))))) ?_
  obtain ⟨T, X, eT, st⟩ := getF X hx hZ hown (host := "") (Or.inl (hw _ (own_w 50 rfl))) Via.refl eT F_fieldCount_a1 (g := (mkF m 21 (own_A24 a1 s1 bn wEL 0) [(.ref a1), (.int 0)])) rfl rfl (hb hby ep11m9_d21)
  refine own_via (g' := (mkF m 24 (own_A24 a1 s1 bn wEL 0) [(.int 0), (.int 0)])) st ?_
  refine own_via (g' := (mkF m 79 (own_A24 a1 s1 bn wEL 0) [(.ref wEL)])) (fun t_ k_ => XS.icmpYes X.here hx rfl (pc0 := 24) (pc' := 78) rfl (hb hby ep11m9_d24) rfl (flt (by decide : ¬ ((0 : Int32) < (0 : Int32)))).2.1 (by decide) (by decide) (XS.aloadN X.here hx rfl (hb hby ep11m9_d78) rfl rfl k_)) ?_
  refine own_retW X hx hlk Bd.returns rfl (Or.inr (Or.inr (Or.inr (Or.inr ⟨rfl, rfl, rfl⟩)))) (hb hby ep11m9_d79) (by decide) (by decide) ?_
  rw [eT]
  exact ⟨rfl, N, K0⟩
theorem ep11m10_d0 : decode prog_11_method_10_code 0 = .ok (.aload_n 0, 1) := by decide +kernel
theorem ep11m10_d1 : decode prog_11_method_10_code 1 = .ok (.aload_n 1, 1) := by decide +kernel
theorem ep11m10_d2 : decode prog_11_method_10_code 2 = .ok (.invokevirtual 129, 3) := by decide +kernel
theorem ep11m10_d5 : decode prog_11_method_10_code 5 = .ok (.astore_n 2, 1) := by decide +kernel
theorem ep11m10_d6 : decode prog_11_method_10_code 6 = .ok (.aload_n 2, 1) := by decide +kernel
theorem ep11m10_d7 : decode prog_11_method_10_code 7 = .ok (.invokeinterface 113 1, 5) := by decide +kernel
theorem ep11m10_d12 : decode prog_11_method_10_code 12 = .ok (.ifCond .eq 7, 3) := by decide +kernel
theorem ep11m10_d15 : decode prog_11_method_10_code 15 = .ok (.aconst_null, 1) := by decide +kernel
theorem ep11m10_d16 : decode prog_11_method_10_code 16 = .ok (.goto 13, 3) := by decide +kernel
theorem ep11m10_d29 : decode prog_11_method_10_code 29 = .ok (.areturn, 1) := by decide +kernel
theorem own_valueA_pn : plainFor (⟨"com/example/brassrig/brassrig/engine/ResponseReader", "value", "(Ljava/lang/String;)Ljava/lang/String;"⟩ : MethodName) = true := by first | exact plainFor_of_name (by first | (simp [plainName, overriddenIn]; done) | decide +kernel) | decide +kernel | exact Jvm.Free.JP.mathPlain rfl (by decide +kernel)
theorem own_valueA_ef (m : MethodId) (x0 : Addr) (x1 : Addr) : entryFrame m #[(.ref x0), (.ref x1)] 3 = mkF m 0 #[.val (.ref x0), .val (.ref x1), .unset] [] := by first | (simp [entryFrame, mkF, argsToLocals, Value.category]; done) | rfl
def own_valueA_Q (Z : State) (a1 : Addr) (s1 : Addr) (va : Addr) (kv : ClassId) (wL : Addr) (wCD : Addr) (wASC : Addr) (wU8 : Addr) (wISO : Addr) (wEL : Addr) (wEA : Addr) (kEA : ClassId) (dE : Value) (zc : Int32) (h0 : Heap) (n0 : Nat) (v : Option Value) (h : Heap) (L : List Loc) : Prop := v = some .null ∧ Fr n0 L ∧ Keep h0 h []
set_option maxRecDepth 65536 in
set_option maxHeartbeats 40000000 in
theorem own_valueA (l : Launch) (Z : State) (a0 : Array Value) (hw : ∀ d ∈ tables_1, d.before a0 Z = true) (ws : List Jvm.Cond) (a1 : Addr) (s1 : Addr) (va : Addr) (kv : ClassId) (wL : Addr) (wCD : Addr) (wASC : Addr) (wU8 : Addr) (wISO : Addr) (wEL : Addr) (wEA : Addr) (kEA : ClassId) (dE : Value) (zc : Int32) (h0 : Heap) (n0 : Nat) (O : Old Z n0 h0) (E_a1 : Exa Z h0 a1 "com/example/brassrig/brassrig/engine/ResponseReader") (F_fieldCount_a1 : Fld Z h0 a1 "com/example/brassrig/brassrig/engine/ResponseReader" "fieldCount" "I" (.int 0)) (E_s1 : Exa Z h0 s1 "java/lang/String") (F_value_s1 : Fld Z h0 s1 "java/lang/String" "value" "[B" (.ref va)) (F_coder_s1 : Fld Z h0 s1 "java/lang/String" "coder" "B" (.int 0)) (E_va : Exa Z h0 va "[B") (V_va : Arv Z h0 va kv .byte (12 : Int32) [(.int 99), (.int 111), (.int 110), (.int 116), (.int 101), (.int 110), (.int 116), (.int 45), (.int 116), (.int 121), (.int 112), (.int 101)] (.int 0)) (S_loc : Sta Z Z.heap "java/util/Locale" "ROOT" "Ljava/util/Locale;" (.ref wL)) (S_cd : Sta Z Z.heap "java/lang/CharacterDataLatin1" "instance" "Ljava/lang/CharacterDataLatin1;" (.ref wCD)) (E_cd : Exa Z Z.heap wCD "java/lang/CharacterDataLatin1") (S_u8 : Sta Z Z.heap "sun/nio/cs/UTF_8" "INSTANCE" "Lsun/nio/cs/UTF_8;" (.ref wU8)) (S_iso : Sta Z Z.heap "sun/nio/cs/ISO_8859_1" "INSTANCE" "Lsun/nio/cs/ISO_8859_1;" (.ref wISO)) (S_asc : Sta Z Z.heap "sun/nio/cs/US_ASCII" "INSTANCE" "Lsun/nio/cs/US_ASCII;" (.ref wASC)) (S_sca : Sta Z Z.heap "java/nio/charset/StandardCharsets" "US_ASCII" "Ljava/nio/charset/Charset;" (.ref wASC)) (neA8 : ¬ wASC = wU8) (neAI : ¬ wASC = wISO) (S_el : Sta Z Z.heap "java/util/ImmutableCollections" "EMPTY_LIST" "Ljava/util/ImmutableCollections$ListN;" (.ref wEL)) (E_el : Exa Z Z.heap wEL "java/util/ImmutableCollections$ListN") (F_el : Fld Z Z.heap wEL "java/util/ImmutableCollections$ListN" "elements" "[Ljava/lang/Object;" (.ref wEA)) (A_el : Arv Z Z.heap wEA kEA (.object "java/lang/Object") (0 : Int32) ([] : List Value) dE) (S_C : Sta Z Z.heap "java/lang/String" "COMPACT_STRINGS" "Z" (.int zc)) (hzc : ¬ zc = 0) :
    MetFree l (⟨"com/example/brassrig/brassrig/engine/ResponseReader", "value", "(Ljava/lang/String;)Ljava/lang/String;"⟩ : MethodName) (head1 (Jvm.Cond.code (⟨"com/example/brassrig/brassrig/engine/ResponseReader", "value", "(Ljava/lang/String;)Ljava/lang/String;"⟩ : MethodName) prog_11_method_10_code 3 (some (.object "java/lang/String")) :: ws) ({ frames := 6, cells := 1, slots := 12, locals := 89 } : Room)) (fun a U => a = #[(.ref a1), (.ref s1)] ∧ Z.Warmed39 U.vm ∧ U.heap = h0) (fun _ _ _ _ _ => True) (fun _ U o U' => ∃ v L, o = .returned v ∧ own_valueA_Q Z a1 s1 va kv wL wCD wASC wU8 wISO wEL wEA kEA dE zc h0 n0 v U'.heap L ∧ FrameEnd U o U' L ({ frames := 6, cells := 1, slots := 12, locals := 89 } : Room).cells ({ frames := 6, cells := 1, slots := 12, locals := 89 } : Room).slots) := by
  refine MetFree.of_bodySF own_valueA_pn hisR ?_
  intro p e s m args below meth c s₁ Bd hml0 hP hK
  obtain ⟨rfl, hZ, hh⟩ := hP
  have hx := Bd.exec
  have hby := Bd.bytes
  have hlk := Bd.notSynchronized
  have hml : c.maxLocals = 3 := hml0
  have hown : s.vm.findClass "com/example/brassrig/brassrig/engine/ResponseReader" = some m.cls := findClass_of_methodNamed Bd.named
  have hnm := (name_of_methodNamed Bd.named Bd.method).1
  have X : Stand p l e ({ frames := 6, cells := 1, slots := 12, locals := 89 } : Room) s m #[(.ref a1), (.ref s1)] below meth c s₁ [] 0 0 := Stand.of_body Bd
  have eT : s₁.heap = h0 := by rw [← hh, Bd.state]; rfl
  have N := Fr.nil n0
  have K0 := Keep.refl h0 []
  show own_Ends p e below (own_Post s below (own_valueA_Q Z a1 s1 va kv wL wCD wASC wU8 wISO wEL wEA kEA dE zc h0 n0) ({ frames := 6, cells := 1, slots := 12, locals := 89 } : Room).cells ({ frames := 6, cells := 1, slots := 12, locals := 89 } : Room).slots) s₁ (entryFrame m #[(.ref a1), (.ref s1)] 3)
  rw [own_valueA_ef m a1 s1]
  obtain ⟨T, hT⟩ : ∃ z, z = s₁ := ⟨_, rfl⟩
  rw [← hT] at X eT ⊢
  obtain ⟨h, hh0⟩ : ∃ z, z = h0 := ⟨_, rfl⟩
  rw [← hh0] at eT
  replace O : Old Z n0 h := by rw [hh0]; exact O
  replace K0 : Keep h0 h [] := by rw [hh0]; exact K0
  rw [← hh0] at E_a1
  rw [← hh0] at F_fieldCount_a1
  rw [← hh0] at E_s1
  rw [← hh0] at F_value_s1
  rw [← hh0] at F_coder_s1
  rw [← hh0] at E_va
  rw [← hh0] at V_va
  have ne_a1_s1 := Exa.ne E_a1 E_s1 (by decide)
  have ne_a1_va := Exa.ne E_a1 E_va (by decide)
  have ne_s1_va := Exa.ne E_s1 E_va (by decide)
  refine own_via (g' := (mkF m 2 (own_A40 a1 s1) [(.ref s1), (.ref a1)])) (fun t_ k_ => XS.aloadN X.here hx rfl (hb hby ep11m10_d0) rfl rfl (XS.aloadN X.here hx rfl (hb hby ep11m10_d1) rfl rfl k_)) ?_
  obtain ⟨cq, kq, qa, qb, qc⟩ := isOf hZ eT E_a1
  obtain ⟨_, _, ⟨T, Lq, kq, nq⟩, -, X, ⟨Lc, hQ, lq, yq, zq⟩, st⟩ := X.virtualBack hx (y := own_y12) (z := own_y12) hown (mvT hZ (hw _ (own_w 76 rfl))) (mvT hZ (hw _ (own_w 77 rfl))) (notFace_of_selects (args := #[]) (mvT hZ (hw _ (own_w 79 rfl)))) (mvT hZ (hw _ (own_w 79 rfl))) (mvT hZ (hw _ (own_w 78 rfl))) (by decide) (backOf (W := 0) (own_valuesA l Z a0 hw [] a1 s1 va kv wL wCD wASC wU8 wISO wEL wEA kEA dE zc h n0 O E_a1 F_fieldCount_a1 E_s1 F_value_s1 F_coder_s1 E_va V_va S_loc S_cd E_cd S_u8 S_iso S_asc S_sca neA8 neAI S_el E_el F_el A_el S_C hzc) hZ (hw _ (own_w 80 rfl)) (hw _ (own_w 2 rfl)) (by decide) (by decide)) qa qc (g := (mkF m 2 (own_A40 a1 s1) [(.ref s1), (.ref a1)])) rfl (by rw [hml]; rfl) (Steps.refl _) (argsL := [(.ref s1)]) (rest := []) (lenOf own_pd12 rfl) rfl (by show 2 * 0 + _ ≤ _; exact Nat.le_of_eq rfl) (hb hby ep11m10_d2) (fun _ _ => ⟨rfl, eT, (by decide : 0 + 1 ≤ _), (by decide : 0 + 12 ≤ _)⟩)
  dsimp only [Pt.U, Pt.locs, Pt.cells, Pt.slots] at X lq yq zq st hQ
  rw [lq, yq, zq] at X
  obtain ⟨rfl, Nq, Kq⟩ := hQ
  replace N := Fr.app N Nq
  obtain ⟨h1, eT⟩ : ∃ z, T.heap = z := ⟨_, rfl⟩
  rw [eT] at Kq
  replace E_a1 := E_a1.keep Kq
  replace F_fieldCount_a1 := F_fieldCount_a1.keep Kq nin0
  replace E_s1 := E_s1.keep Kq
  replace F_value_s1 := F_value_s1.keep Kq nin0
  replace F_coder_s1 := F_coder_s1.keep Kq nin0
  replace E_va := E_va.keep Kq
  replace V_va := V_va.keep Kq nin0
  replace O := O.keep Kq all0
  replace K0 := K0.trans Kq all0
  refine own_viaT (g' := (mkF m 5 (own_A40 a1 s1) [(.ref wEL)])) st ?_
  refine own_via (g' := (mkF m 7 (own_A35 a1 s1 wEL) [(.ref wEL)])) (fun t_ k_ => XS.astoreN X.here hx rfl (hb hby ep11m10_d5) rfl rfl (l' := (own_A35 a1 s1 wEL)) rfl (XS.aloadN X.here hx rfl (hb hby ep11m10_d6) rfl rfl k_)) ?_
  obtain ⟨cq, kq, qa, qb, qc⟩ := isOf hZ eT (E_el.ext O.2)
  obtain ⟨_, _, ⟨T, Lq, kq, nq⟩, -, X, ⟨Lc, hQ, lq, yq, zq⟩, st⟩ := X.interfaceBack hx (xi := own_y13) (y := own_y14) hown (mvT hZ (hw _ (own_w 153 rfl))) (mvT hZ (hw _ (own_w 154 rfl))) (mvT hZ (hw _ (own_w 155 rfl))) (mvT hZ (hw _ (own_w 156 rfl))) (mvT hZ (hw _ (own_w 157 rfl))) (mvT hZ (hw _ (own_w 158 rfl))) (mvT hZ (hw _ (own_w 159 rfl))) (mvT hZ (hw _ (own_w 160 rfl))) (by decide) (backOf (W := 0) (own_lnEmpty l Z a0 hw [] wEL wEA kEA dE h1 n0 O S_el E_el F_el A_el) hZ (hw _ (own_w 162 rfl)) (hw _ (own_w 161 rfl)) (by decide) (by decide)) qa qb qc (g := (mkF m 7 (own_A35 a1 s1 wEL) [(.ref wEL)])) rfl (by rw [hml]; rfl) (Steps.refl _) (argsL := []) (rest := []) (lenOf own_pd7 rfl) rfl (by show 2 * 0 + _ ≤ _; exact Nat.le_of_eq rfl) (hb hby ep11m10_d7) (fun _ _ => ⟨rfl, eT, (by decide : 1 + 0 ≤ _), (by decide : 12 + 0 ≤ _)⟩)
  dsimp only [Pt.U, Pt.locs, Pt.cells, Pt.slots] at X lq yq zq st hQ
  rw [lq, yq, zq] at X
  obtain ⟨rfl, Nq, eT⟩ := hQ
  replace N := Fr.app N Nq
  refine own_viaT (g' := (mkF m 12 (own_A35 a1 s1 wEL) [(.int 1)])) st ?_
  refine own_via (g' := (mkF m 29 (own_A35 a1 s1 wEL) [.null])) (fun t_ k_ => XS.ifNo X.here hx rfl (hb hby ep11m10_d12) rfl ((if0 _ _).trans (feq (by decide : ¬ ((1 : Int32) = (0 : Int32)))).1) (XS.aconstNull X.here hx rfl (hb hby ep11m10_d15) (XS.goto X.here hx rfl (pc0 := 16) (pc' := 29) rfl (hb hby ep11m10_d16) (by decide) (by decide) k_))) ?_
  refine own_retW X hx hlk Bd.returns rfl (Or.inr (Or.inr (Or.inr (Or.inr ⟨rfl, rfl, rfl⟩)))) (hb hby ep11m10_d29) (by decide) (by decide) ?_
  rw [eT]
  exact ⟨rfl, N, K0⟩
theorem ej3003m5_d0 : decode jdk_3003_method_5_code 0 = .ok (.aload_n 0, 1) := by decide +kernel
theorem ej3003m5_d1 : decode jdk_3003_method_5_code 1 = .ok (.getfield 19, 3) := by decide +kernel
theorem ej3003m5_d4 : decode jdk_3003_method_5_code 4 = .ok (.areturn, 1) := by decide +kernel
theorem own_blGet_pn : plainFor (⟨"sun/util/locale/BaseLocale", "getLanguage", "()Ljava/lang/String;"⟩ : MethodName) = true := by first | exact plainFor_of_name (by first | (simp [plainName, overriddenIn]; done) | decide +kernel) | decide +kernel | exact Jvm.Free.JP.mathPlain rfl (by decide +kernel)
theorem own_blGet_ef (m : MethodId) (x0 : Addr) : entryFrame m #[(.ref x0)] 1 = mkF m 0 #[.val (.ref x0)] [] := by first | (simp [entryFrame, mkF, argsToLocals, Value.category]; done) | rfl
def own_blGet_Q (Z : State) (wL : Addr) (wBL : Addr) (wLG : Addr) (wLV : Addr) (kLV : ClassId) (dLV : Value) (h0 : Heap) (n0 : Nat) (v : Option Value) (h : Heap) (L : List Loc) : Prop := v = some (.ref wLG) ∧ Fr n0 L ∧ h = h0
set_option maxRecDepth 65536 in
set_option maxHeartbeats 40000000 in
theorem own_blGet (l : Launch) (Z : State) (a0 : Array Value) (hw : ∀ d ∈ tables_1, d.before a0 Z = true) (ws : List Jvm.Cond) (wL : Addr) (wBL : Addr) (wLG : Addr) (wLV : Addr) (kLV : ClassId) (dLV : Value) (h0 : Heap) (n0 : Nat) (O : Old Z n0 h0) (E_loc : Exa Z Z.heap wL "java/util/Locale") (F_bl : Fld Z Z.heap wL "java/util/Locale" "baseLocale" "Lsun/util/locale/BaseLocale;" (.ref wBL)) (E_bl : Exa Z Z.heap wBL "sun/util/locale/BaseLocale") (F_lg : Fld Z Z.heap wBL "sun/util/locale/BaseLocale" "language" "Ljava/lang/String;" (.ref wLG)) (F_lgv : Fld Z Z.heap wLG "java/lang/String" "value" "[B" (.ref wLV)) (A_lg : Arv Z Z.heap wLV kLV .byte (0 : Int32) ([] : List Value) dLV) :
    MetFree l (⟨"sun/util/locale/BaseLocale", "getLanguage", "()Ljava/lang/String;"⟩ : MethodName) (head1 (Jvm.Cond.code (⟨"sun/util/locale/BaseLocale", "getLanguage", "()Ljava/lang/String;"⟩ : MethodName) jdk_3003_method_5_code 1 (some (.object "java/lang/String")) :: ws) ({ frames := 0, cells := 0, slots := 0, locals := 0 } : Room)) (fun a U => a = #[(.ref wBL)] ∧ Z.Warmed39 U.vm ∧ U.heap = h0) (fun _ _ _ _ _ => True) (fun _ U o U' => ∃ v L, o = .returned v ∧ own_blGet_Q Z wL wBL wLG wLV kLV dLV h0 n0 v U'.heap L ∧ FrameEnd U o U' L ({ frames := 0, cells := 0, slots := 0, locals := 0 } : Room).cells ({ frames := 0, cells := 0, slots := 0, locals := 0 } : Room).slots) := by
  refine MetFree.of_bodySF own_blGet_pn hisR ?_
  intro p e s m args below meth c s₁ Bd hml0 hP hK
  obtain ⟨rfl, hZ, hh⟩ := hP
  have hx := Bd.exec
  have hby := Bd.bytes
  have hlk := Bd.notSynchronized
  have hml : c.maxLocals = 1 := hml0
  have hown : s.vm.findClass "sun/util/locale/BaseLocale" = some m.cls := findClass_of_methodNamed Bd.named
  have hnm := (name_of_methodNamed Bd.named Bd.method).1
  have X : Stand p l e ({ frames := 0, cells := 0, slots := 0, locals := 0 } : Room) s m #[(.ref wBL)] below meth c s₁ [] 0 0 := Stand.of_body Bd
  have eT : s₁.heap = h0 := by rw [← hh, Bd.state]; rfl
  have N := Fr.nil n0
  have K0 := Keep.refl h0 []
  show own_Ends p e below (own_Post s below (own_blGet_Q Z wL wBL wLG wLV kLV dLV h0 n0) ({ frames := 0, cells := 0, slots := 0, locals := 0 } : Room).cells ({ frames := 0, cells := 0, slots := 0, locals := 0 } : Room).slots) s₁ (entryFrame m #[(.ref wBL)] 1)
  rw [own_blGet_ef m wBL]
  obtain ⟨T, hT⟩ : ∃ z, z = s₁ := ⟨_, rfl⟩
  rw [← hT] at X eT ⊢
  obtain ⟨h, hh0⟩ : ∃ z, z = h0 := ⟨_, rfl⟩
  rw [← hh0] at eT
  replace O : Old Z n0 h := by rw [hh0]; exact O
  replace K0 : Keep h0 h [] := by rw [hh0]; exact K0
  refine own_via (g' := (mkF m 1 #[.val (.ref wBL)] [(.ref wBL)])) (fun t_ k_ => XS.aloadN X.here hx rfl (hb hby ej3003m5_d0) rfl rfl k_) ?_
  obtain ⟨T, X, eT, st⟩ := getF X hx hZ hown (host := "") (Or.inl (hw _ (own_w 186 rfl))) Via.refl eT (F_lg.ext O.2) (g := (mkF m 1 #[.val (.ref wBL)] [(.ref wBL)])) rfl rfl (hb hby ej3003m5_d1)
  refine own_via (g' := (mkF m 4 #[.val (.ref wBL)] [(.ref wLG)])) st ?_
  refine own_retW X hx hlk Bd.returns rfl (Or.inr (Or.inr (Or.inr (Or.inr ⟨rfl, rfl, rfl⟩)))) (hb hby ej3003m5_d4) (by decide) (by decide) ?_
  rw [eT]
  exact ⟨rfl, N, hh0⟩
theorem ej2628m27_d0 : decode jdk_2628_method_27_code 0 = .ok (.aload_n 0, 1) := by decide +kernel
theorem ej2628m27_d1 : decode jdk_2628_method_27_code 1 = .ok (.getfield 28, 3) := by decide +kernel
theorem ej2628m27_d4 : decode jdk_2628_method_27_code 4 = .ok (.invokevirtual 293, 3) := by decide +kernel
theorem ej2628m27_d7 : decode jdk_2628_method_27_code 7 = .ok (.areturn, 1) := by decide +kernel
theorem own_locGet_pn : plainFor (⟨"java/util/Locale", "getLanguage", "()Ljava/lang/String;"⟩ : MethodName) = true := by first | exact plainFor_of_name (by first | (simp [plainName, overriddenIn]; done) | decide +kernel) | decide +kernel | exact Jvm.Free.JP.mathPlain rfl (by decide +kernel)
theorem own_locGet_ef (m : MethodId) (x0 : Addr) : entryFrame m #[(.ref x0)] 1 = mkF m 0 #[.val (.ref x0)] [] := by first | (simp [entryFrame, mkF, argsToLocals, Value.category]; done) | rfl
def own_locGet_Q (Z : State) (wL : Addr) (wBL : Addr) (wLG : Addr) (wLV : Addr) (kLV : ClassId) (dLV : Value) (h0 : Heap) (n0 : Nat) (v : Option Value) (h : Heap) (L : List Loc) : Prop := v = some (.ref wLG) ∧ Fr n0 L ∧ h = h0
set_option maxRecDepth 65536 in
set_option maxHeartbeats 40000000 in
theorem own_locGet (l : Launch) (Z : State) (a0 : Array Value) (hw : ∀ d ∈ tables_1, d.before a0 Z = true) (ws : List Jvm.Cond) (wL : Addr) (wBL : Addr) (wLG : Addr) (wLV : Addr) (kLV : ClassId) (dLV : Value) (h0 : Heap) (n0 : Nat) (O : Old Z n0 h0) (E_loc : Exa Z Z.heap wL "java/util/Locale") (F_bl : Fld Z Z.heap wL "java/util/Locale" "baseLocale" "Lsun/util/locale/BaseLocale;" (.ref wBL)) (E_bl : Exa Z Z.heap wBL "sun/util/locale/BaseLocale") (F_lg : Fld Z Z.heap wBL "sun/util/locale/BaseLocale" "language" "Ljava/lang/String;" (.ref wLG)) (F_lgv : Fld Z Z.heap wLG "java/lang/String" "value" "[B" (.ref wLV)) (A_lg : Arv Z Z.heap wLV kLV .byte (0 : Int32) ([] : List Value) dLV) :
    MetFree l (⟨"java/util/Locale", "getLanguage", "()Ljava/lang/String;"⟩ : MethodName) (head1 (Jvm.Cond.code (⟨"java/util/Locale", "getLanguage", "()Ljava/lang/String;"⟩ : MethodName) jdk_2628_method_27_code 1 (some (.object "java/lang/String")) :: ws) ({ frames := 1, cells := 0, slots := 0, locals := 12 } : Room)) (fun a U => a = #[(.ref wL)] ∧ Z.Warmed39 U.vm ∧ U.heap = h0) (fun _ _ _ _ _ => True) (fun _ U o U' => ∃ v L, o = .returned v ∧ own_locGet_Q Z wL wBL wLG wLV kLV dLV h0 n0 v U'.heap L ∧ FrameEnd U o U' L ({ frames := 1, cells := 0, slots := 0, locals := 12 } : Room).cells ({ frames := 1, cells := 0, slots := 0, locals := 12 } : Room).slots) := by
  refine MetFree.of_bodySF own_locGet_pn hisR ?_
  intro p e s m args below meth c s₁ Bd hml0 hP hK
  obtain ⟨rfl, hZ, hh⟩ := hP
  have hx := Bd.exec
  have hby := Bd.bytes
  have hlk := Bd.notSynchronized
  have hml : c.maxLocals = 1 := hml0
  have hown : s.vm.findClass "java/util/Locale" = some m.cls := findClass_of_methodNamed Bd.named
  have hnm := (name_of_methodNamed Bd.named Bd.method).1
  have X : Stand p l e ({ frames := 1, cells := 0, slots := 0, locals := 12 } : Room) s m #[(.ref wL)] below meth c s₁ [] 0 0 := Stand.of_body Bd
  have eT : s₁.heap = h0 := by rw [← hh, Bd.state]; rfl
  have N := Fr.nil n0
  have K0 := Keep.refl h0 []
  show own_Ends p e below (own_Post s below (own_locGet_Q Z wL wBL wLG wLV kLV dLV h0 n0) ({ frames := 1, cells := 0, slots := 0, locals := 12 } : Room).cells ({ frames := 1, cells := 0, slots := 0, locals := 12 } : Room).slots) s₁ (entryFrame m #[(.ref wL)] 1)
  rw [own_locGet_ef m wL]
  obtain ⟨T, hT⟩ : ∃ z, z = s₁ := ⟨_, rfl⟩
  rw [← hT] at X eT ⊢
  obtain ⟨h, hh0⟩ : ∃ z, z = h0 := ⟨_, rfl⟩
  rw [← hh0] at eT
  replace O : Old Z n0 h := by rw [hh0]; exact O
  replace K0 : Keep h0 h [] := by rw [hh0]; exact K0
  refine own_via (g' := (mkF m 1 #[.val (.ref wL)] [(.ref wL)])) (fun t_ k_ => XS.aloadN X.here hx rfl (hb hby ej2628m27_d0) rfl rfl k_) ?_
  obtain ⟨T, X, eT, st⟩ := getF X hx hZ hown (host := "") (Or.inl (hw _ (own_w 178 rfl))) Via.refl eT (F_bl.ext O.2) (g := (mkF m 1 #[.val (.ref wL)] [(.ref wL)])) rfl rfl (hb hby ej2628m27_d1)
  refine own_via (g' := (mkF m 4 #[.val (.ref wL)] [(.ref wBL)])) st ?_
  obtain ⟨cq, kq, qa, qb, qc⟩ := isOf hZ eT (E_bl.ext O.2)
  obtain ⟨_, _, ⟨T, Lq, kq, nq⟩, -, X, ⟨Lc, hQ, lq, yq, zq⟩, st⟩ := X.virtualBack hx (y := own_y15) (z := own_y15) hown (mvT hZ (hw _ (own_w 180 rfl))) (mvT hZ (hw _ (own_w 181 rfl))) (notFace_of_selects (args := #[]) (mvT hZ (hw _ (own_w 183 rfl)))) (mvT hZ (hw _ (own_w 183 rfl))) (mvT hZ (hw _ (own_w 182 rfl))) (by decide) (backOf (W := 0) (own_blGet l Z a0 hw [] wL wBL wLG wLV kLV dLV h n0 O E_loc F_bl E_bl F_lg F_lgv A_lg) hZ (hw _ (own_w 185 rfl)) (hw _ (own_w 184 rfl)) (by decide) (by decide)) qa qc (g := (mkF m 4 #[.val (.ref wL)] [(.ref wBL)])) rfl (by rw [hml]; rfl) (Steps.refl _) (argsL := []) (rest := []) (lenOf own_pd13 rfl) rfl (by show 2 * 0 + _ ≤ _; exact Nat.le_of_eq rfl) (hb hby ej2628m27_d4) (fun _ _ => ⟨rfl, eT, (by decide : 0 + 0 ≤ _), (by decide : 0 + 0 ≤ _)⟩)
  dsimp only [Pt.U, Pt.locs, Pt.cells, Pt.slots] at X lq yq zq st hQ
  rw [lq, yq, zq] at X
  obtain ⟨rfl, Nq, eT⟩ := hQ
  replace N := Fr.app N Nq
  refine own_viaT (g' := (mkF m 7 #[.val (.ref wL)] [(.ref wLG)])) st ?_
  refine own_retW X hx hlk Bd.returns rfl (Or.inr (Or.inr (Or.inr (Or.inr ⟨rfl, rfl, rfl⟩)))) (hb hby ej2628m27_d7) (by decide) (by decide) ?_
  rw [eT]
  exact ⟨rfl, N, hh0⟩
theorem own_litNe {Z : State} {h : Heap} {a a' b b' : Addr} {k k' : ClassId} {z z' : Int32} {vs vs' : List Value} {d d' : Value} (F : Fld Z h a "java/lang/String" "value" "[B" (.ref b)) (F' : Fld Z h a' "java/lang/String" "value" "[B" (.ref b')) (V : Arv Z h b k .byte z vs d) (V' : Arv Z h b' k' .byte z' vs' d') (hz : z.toNatClampNeg ≠ z'.toNatClampNeg) : ¬ a = a' := fun e => by
  subst e
  by_cases q : b = b'
  · subst q
    obtain ⟨c, A, -, S, -⟩ := V
    obtain ⟨c', A', -, S', -⟩ := V'
    cases A.1.symm.trans A'.1
    exact hz (S.symm.trans S')
  · exact Fld.ne F F' (fun r => q (Value.ref.inj r)) rfl
theorem ej42m151_d0 : decode jdk_42_method_151_code 0 = .ok (.aload_n 0, 1) := by decide +kernel
theorem ej42m151_d1 : decode jdk_42_method_151_code 1 = .ok (.invokespecial 1, 3) := by decide +kernel
theorem ej42m151_d4 : decode jdk_42_method_151_code 4 = .ok (.aload_n 0, 1) := by decide +kernel
theorem ej42m151_d5 : decode jdk_42_method_151_code 5 = .ok (.aload_n 1, 1) := by decide +kernel
theorem ej42m151_d6 : decode jdk_42_method_151_code 6 = .ok (.putfield 9, 3) := by decide +kernel
theorem ej42m151_d9 : decode jdk_42_method_151_code 9 = .ok (.aload_n 0, 1) := by decide +kernel
theorem ej42m151_d10 : decode jdk_42_method_151_code 10 = .ok (.iload_n 2, 1) := by decide +kernel
theorem ej42m151_d11 : decode jdk_42_method_151_code 11 = .ok (.putfield 15, 3) := by decide +kernel
theorem ej42m151_d14 : decode jdk_42_method_151_code 14 = .ok (.return_, 1) := by decide +kernel
theorem own_sbb_pn : plainFor (⟨"java/lang/String", "<init>", "([BB)V"⟩ : MethodName) = true := by first | exact plainFor_of_name (by first | (simp [plainName, overriddenIn]; done) | decide +kernel) | decide +kernel | exact Jvm.Free.JP.mathPlain rfl (by decide +kernel)
theorem own_sbb_ef (m : MethodId) (x0 : Addr) (x1 : Addr) (x2 : Int32) : entryFrame m #[(.ref x0), (.ref x1), (.int x2)] 3 = mkF m 0 #[.val (.ref x0), .val (.ref x1), .val (.int x2)] [] := by first | (simp [entryFrame, mkF, argsToLocals, Value.category]; done) | rfl
def own_sbb_Q (Z : State) (a1 : Addr) (va : Addr) (h0 : Heap) (n0 : Nat) (v : Option Value) (h : Heap) (L : List Loc) : Prop := v = none ∧ Fr n0 L ∧ Keep h0 h [a1] ∧ Fld Z h a1 "java/lang/String" "value" "[B" (.ref va) ∧ Fld Z h a1 "java/lang/String" "coder" "B" (.int 0)
set_option maxRecDepth 65536 in
set_option maxHeartbeats 40000000 in
theorem own_sbb (l : Launch) (Z : State) (a0 : Array Value) (hw : ∀ d ∈ tables_1, d.before a0 Z = true) (ws : List Jvm.Cond) (a1 : Addr) (va : Addr) (h0 : Heap) (n0 : Nat) (O : Old Z n0 h0) (E_a1 : Exa Z h0 a1 "java/lang/String") (F_value_a1 : Fld Z h0 a1 "java/lang/String" "value" "[B" .null) (F_coder_a1 : Fld Z h0 a1 "java/lang/String" "coder" "B" (.int 0)) (g_a1 : n0 ≤ a1) :
    MetFree l (⟨"java/lang/String", "<init>", "([BB)V"⟩ : MethodName) (head1 (Jvm.Cond.code (⟨"java/lang/String", "<init>", "([BB)V"⟩ : MethodName) jdk_42_method_151_code 3 none :: ws) ({ frames := 1, cells := 0, slots := 0, locals := 12 } : Room)) (fun a U => a = #[(.ref a1), (.ref va), (.int 0)] ∧ Z.Warmed39 U.vm ∧ U.heap = h0) (fun _ _ _ _ _ => True) (fun _ U o U' => ∃ v L, o = .returned v ∧ own_sbb_Q Z a1 va h0 n0 v U'.heap L ∧ FrameEnd U o U' L ({ frames := 1, cells := 0, slots := 0, locals := 12 } : Room).cells ({ frames := 1, cells := 0, slots := 0, locals := 12 } : Room).slots) := by
  refine MetFree.of_bodySF own_sbb_pn hisR ?_
  intro p e s m args below meth c s₁ Bd hml0 hP hK
  obtain ⟨rfl, hZ, hh⟩ := hP
  have hx := Bd.exec
  have hby := Bd.bytes
  have hlk := Bd.notSynchronized
  have hml : c.maxLocals = 3 := hml0
  have hown : s.vm.findClass "java/lang/String" = some m.cls := findClass_of_methodNamed Bd.named
  have hnm := (name_of_methodNamed Bd.named Bd.method).1
  have X : Stand p l e ({ frames := 1, cells := 0, slots := 0, locals := 12 } : Room) s m #[(.ref a1), (.ref va), (.int 0)] below meth c s₁ [] 0 0 := Stand.of_body Bd
  have eT : s₁.heap = h0 := by rw [← hh, Bd.state]; rfl
  have N := Fr.nil n0
  have K0 := Keep.refl h0 [a1]
  show own_Ends p e below (own_Post s below (own_sbb_Q Z a1 va h0 n0) ({ frames := 1, cells := 0, slots := 0, locals := 12 } : Room).cells ({ frames := 1, cells := 0, slots := 0, locals := 12 } : Room).slots) s₁ (entryFrame m #[(.ref a1), (.ref va), (.int 0)] 3)
  rw [own_sbb_ef m a1 va (0 : Int32)]
  obtain ⟨T, hT⟩ : ∃ z, z = s₁ := ⟨_, rfl⟩
  rw [← hT] at X eT ⊢
  obtain ⟨h, hh0⟩ : ∃ z, z = h0 := ⟨_, rfl⟩
  rw [← hh0] at eT
  replace O : Old Z n0 h := by rw [hh0]; exact O
  replace K0 : Keep h0 h [a1] := by rw [hh0]; exact K0
  rw [← hh0] at E_a1
  rw [← hh0] at F_value_a1
  rw [← hh0] at F_coder_a1
  refine own_via (g' := (mkF m 1 (own_A37 a1 va 0) [(.ref a1)])) (fun t_ k_ => XS.aloadN X.here hx rfl (hb hby ej42m151_d0) rfl rfl k_) ?_
  obtain ⟨T, X, eT, st⟩ := initO X hx hZ hown (hw _ (own_w 203 rfl)) (hw _ (own_w 7 rfl)) (hw _ (own_w 8 rfl)) eT (g := (mkF m 1 (own_A37 a1 va 0) [(.ref a1)])) rfl (by rw [hml]; rfl) rfl (hb hby ej42m151_d1) (by decide) (W := 0) (by show 2 * 0 + _ ≤ _; exact Nat.le_of_eq rfl) (by decide)
  refine own_via (g' := (mkF m 4 (own_A37 a1 va 0) [])) st ?_
  refine own_via (g' := (mkF m 6 (own_A37 a1 va 0) [(.ref va), (.ref a1)])) (fun t_ k_ => XS.aloadN X.here hx rfl (hb hby ej42m151_d4) rfl rfl (XS.aloadN X.here hx rfl (hb hby ej42m151_d5) rfl rfl k_)) ?_
  obtain ⟨T, h1, X, eT, W, st⟩ := putF X hx hZ hown (host := "") (Or.inl (hw _ (own_w 95 rfl))) Via.refl eT F_value_a1 E_a1 (Or.inr ⟨(hw _ (own_w 67 rfl)), rfl, hnm⟩) (hw _ (own_w 66 rfl)) (ty := (.array .byte)) (by decide) rfl rfl (g := (mkF m 6 (own_A37 a1 va 0) [(.ref va), (.ref a1)])) rfl rfl (hb hby ej42m151_d6)
  replace F_value_a1 := F_value_a1.same W
  replace E_a1 := E_a1.wr W
  replace F_coder_a1 := F_coder_a1.other W (Or.inr (slot_ne (Or.inr (hw _ (own_w 68 rfl))) (Or.inr (hw _ (own_w 67 rfl))) (by decide) (t := .byte) (t' := (.array .byte)) (by decide) (by decide)))
  replace O := O.wr W g_a1
  replace K0 := K0.wr W (Or.inl (List.mem_of_getElem? (i := 0) rfl))
  replace N := Fr.snoc X N g_a1
  refine own_via (g' := (mkF m 9 (own_A37 a1 va 0) [])) st ?_
  refine own_via (g' := (mkF m 11 (own_A37 a1 va 0) [(.int 0), (.ref a1)])) (fun t_ k_ => XS.aloadN X.here hx rfl (hb hby ej42m151_d9) rfl rfl (XS.iloadN X.here hx rfl (hb hby ej42m151_d10) rfl k_)) ?_
  obtain ⟨T, h2, X, eT, W, st⟩ := putFN X hx hZ hown (hw _ (own_w 94 rfl)) Via.refl eT F_coder_a1 E_a1 (Or.inr ⟨(hw _ (own_w 68 rfl)), rfl, hnm⟩) (hw _ (own_w 66 rfl)) (ty := .byte) (v' := (.int 0)) (by decide) rfl (by decide) (g := (mkF m 11 (own_A37 a1 va 0) [(.int 0), (.ref a1)])) rfl rfl (hb hby ej42m151_d11)
  replace F_coder_a1 := F_coder_a1.same W
  replace E_a1 := E_a1.wr W
  replace F_value_a1 := F_value_a1.other W (Or.inr (slot_ne (Or.inr (hw _ (own_w 67 rfl))) (Or.inr (hw _ (own_w 68 rfl))) (by decide) (t := (.array .byte)) (t' := .byte) (by decide) (by decide)))
  replace O := O.wr W g_a1
  replace K0 := K0.wr W (Or.inl (List.mem_of_getElem? (i := 0) rfl))
  replace N := Fr.snoc X N g_a1
  refine own_via (g' := (mkF m 14 (own_A37 a1 va 0) [])) st ?_
  refine own_retV X hx hlk Bd.returns (hb hby ej42m151_d14) (by decide) (by decide) ?_
  rw [eT]
  exact ⟨rfl, N, K0, F_value_a1, F_coder_a1⟩
theorem ej43m32_d46 : decode jdk_43_method_32_code 46 = .ok (.goto 9, 3) := by decide +kernel
theorem ej43m32_d63 : decode jdk_43_method_32_code 63 = .ok (.aload_n 2, 1) := by decide +kernel
theorem ej43m32_d64 : decode jdk_43_method_32_code 64 = .ok (.invokevirtual 162, 3) := by decide +kernel
theorem ej43m32_d67 : decode jdk_43_method_32_code 67 = .ok (.astore 5, 2) := by decide +kernel
theorem ej43m32_d69 : decode jdk_43_method_32_code 69 = .ok (.aload 5, 2) := by decide +kernel
theorem ej43m32_d71 : decode jdk_43_method_32_code 71 = .ok (.ldc 168, 2) := by decide +kernel
theorem ej43m32_d73 : decode jdk_43_method_32_code 73 = .ok (.if_acmp .eq 17, 3) := by decide +kernel
theorem ej43m32_d76 : decode jdk_43_method_32_code 76 = .ok (.aload 5, 2) := by decide +kernel
theorem ej43m32_d78 : decode jdk_43_method_32_code 78 = .ok (.ldc 170, 2) := by decide +kernel
theorem ej43m32_d80 : decode jdk_43_method_32_code 80 = .ok (.if_acmp .eq 10, 3) := by decide +kernel
theorem ej43m32_d83 : decode jdk_43_method_32_code 83 = .ok (.aload 5, 2) := by decide +kernel
theorem ej43m32_d85 : decode jdk_43_method_32_code 85 = .ok (.ldc 172, 2) := by decide +kernel
theorem ej43m32_d87 : decode jdk_43_method_32_code 87 = .ok (.if_acmp .ne 12, 3) := by decide +kernel
theorem ej43m32_d99 : decode jdk_43_method_32_code 99 = .ok (.iload 4, 2) := by decide +kernel
theorem ej43m32_d101 : decode jdk_43_method_32_code 101 = .ok (.newarray .byte, 2) := by decide +kernel
theorem ej43m32_d103 : decode jdk_43_method_32_code 103 = .ok (.astore 6, 2) := by decide +kernel
theorem ej43m32_d105 : decode jdk_43_method_32_code 105 = .ok (.aload_n 1, 1) := by decide +kernel
theorem ej43m32_d106 : decode jdk_43_method_32_code 106 = .ok (.iconst 0, 1) := by decide +kernel
theorem ej43m32_d107 : decode jdk_43_method_32_code 107 = .ok (.aload 6, 2) := by decide +kernel
theorem ej43m32_d109 : decode jdk_43_method_32_code 109 = .ok (.iconst 0, 1) := by decide +kernel
theorem ej43m32_d110 : decode jdk_43_method_32_code 110 = .ok (.iload_n 3, 1) := by decide +kernel
theorem ej43m32_d111 : decode jdk_43_method_32_code 111 = .ok (.invokestatic 28, 3) := by decide +kernel
theorem ej43m32_d114 : decode jdk_43_method_32_code 114 = .ok (.iload_n 3, 1) := by decide +kernel
theorem ej43m32_d115 : decode jdk_43_method_32_code 115 = .ok (.istore 7, 2) := by decide +kernel
theorem ej43m32_d117 : decode jdk_43_method_32_code 117 = .ok (.iload 7, 2) := by decide +kernel
theorem ej43m32_d119 : decode jdk_43_method_32_code 119 = .ok (.iload 4, 2) := by decide +kernel
theorem ej43m32_d121 : decode jdk_43_method_32_code 121 = .ok (.if_icmp .ge 54, 3) := by decide +kernel
theorem ej43m32_d124 : decode jdk_43_method_32_code 124 = .ok (.aload_n 1, 1) := by decide +kernel
theorem ej43m32_d125 : decode jdk_43_method_32_code 125 = .ok (.iload 7, 2) := by decide +kernel
theorem ej43m32_d127 : decode jdk_43_method_32_code 127 = .ok (.baload, 1) := by decide +kernel
theorem ej43m32_d128 : decode jdk_43_method_32_code 128 = .ok (.sipush 255, 3) := by decide +kernel
theorem ej43m32_d131 : decode jdk_43_method_32_code 131 = .ok (.iand, 1) := by decide +kernel
theorem ej43m32_d132 : decode jdk_43_method_32_code 132 = .ok (.istore 8, 2) := by decide +kernel
theorem ej43m32_d134 : decode jdk_43_method_32_code 134 = .ok (.getstatic 66, 3) := by decide +kernel
theorem ej43m32_d137 : decode jdk_43_method_32_code 137 = .ok (.iload 8, 2) := by decide +kernel
theorem ej43m32_d139 : decode jdk_43_method_32_code 139 = .ok (.invokevirtual 160, 3) := by decide +kernel
theorem ej43m32_d142 : decode jdk_43_method_32_code 142 = .ok (.istore 8, 2) := by decide +kernel
theorem ej43m32_d144 : decode jdk_43_method_32_code 144 = .ok (.iload 8, 2) := by decide +kernel
theorem ej43m32_d146 : decode jdk_43_method_32_code 146 = .ok (.invokestatic 88, 3) := by decide +kernel
theorem ej43m32_d149 : decode jdk_43_method_32_code 149 = .ok (.ifCond .ne 12, 3) := by decide +kernel
theorem ej43m32_d161 : decode jdk_43_method_32_code 161 = .ok (.aload 6, 2) := by decide +kernel
theorem ej43m32_d163 : decode jdk_43_method_32_code 163 = .ok (.iload 7, 2) := by decide +kernel
theorem ej43m32_d165 : decode jdk_43_method_32_code 165 = .ok (.iload 8, 2) := by decide +kernel
theorem ej43m32_d167 : decode jdk_43_method_32_code 167 = .ok (.i2b, 1) := by decide +kernel
theorem ej43m32_d168 : decode jdk_43_method_32_code 168 = .ok (.bastore, 1) := by decide +kernel
theorem ej43m32_d169 : decode jdk_43_method_32_code 169 = .ok (.iinc 7 1, 3) := by decide +kernel
theorem ej43m32_d172 : decode jdk_43_method_32_code 172 = .ok (.goto (-55), 3) := by decide +kernel
theorem ej43m32_d175 : decode jdk_43_method_32_code 175 = .ok (.new 1, 3) := by decide +kernel
theorem ej43m32_d178 : decode jdk_43_method_32_code 178 = .ok (.dup, 1) := by decide +kernel
theorem ej43m32_d179 : decode jdk_43_method_32_code 179 = .ok (.aload 6, 2) := by decide +kernel
theorem ej43m32_d181 : decode jdk_43_method_32_code 181 = .ok (.iconst 0, 1) := by decide +kernel
theorem ej43m32_d182 : decode jdk_43_method_32_code 182 = .ok (.invokespecial 112, 3) := by decide +kernel
theorem ej43m32_d185 : decode jdk_43_method_32_code 185 = .ok (.areturn, 1) := by decide +kernel
theorem own_slB_pn : plainFor (⟨"java/lang/StringLatin1", "toLowerCase", "(Ljava/lang/String;[BLjava/util/Locale;)Ljava/lang/String;"⟩ : MethodName) = true := by first | exact plainFor_of_name (by first | (simp [plainName, overriddenIn]; done) | decide +kernel) | decide +kernel | exact Jvm.Free.JP.mathPlain rfl (by decide +kernel)
theorem own_slB_ef (m : MethodId) (x0 : Addr) (x1 : Addr) (x2 : Addr) : entryFrame m #[(.ref x0), (.ref x1), (.ref x2)] 9 = mkF m 0 #[.val (.ref x0), .val (.ref x1), .val (.ref x2), .unset, .unset, .unset, .unset, .unset, .unset] [] := by first | (simp [entryFrame, mkF, argsToLocals, Value.category]; done) | rfl
def own_slB_Q (Z : State) (s1 : Addr) (va : Addr) (kv : ClassId) (wL : Addr) (wBL : Addr) (wLG : Addr) (wLV : Addr) (kLV : ClassId) (dLV : Value) (wCD : Addr) (h0 : Heap) (n0 : Nat) (v : Option Value) (h : Heap) (L : List Loc) : Prop := ∃ r b kb, v = some (.ref r) ∧ Fr n0 L ∧ Keep h0 h [] ∧ h0.size ≤ r ∧ h0.size ≤ b ∧ Exa Z h r "java/lang/String" ∧ Fld Z h r "java/lang/String" "value" "[B" (.ref b) ∧ Fld Z h r "java/lang/String" "coder" "B" (.int 0) ∧ Exa Z h b "[B" ∧ Arv Z h b kb .byte (12 : Int32) [(.int 99), (.int 111), (.int 110), (.int 116), (.int 101), (.int 110), (.int 116), (.int 45), (.int 116), (.int 121), (.int 112), (.int 101)] (.int 0)
set_option maxRecDepth 65536 in
set_option maxHeartbeats 40000000 in
theorem own_slB (l : Launch) (Z : State) (a0 : Array Value) (hw : ∀ d ∈ tables_1, d.before a0 Z = true) (ws : List Jvm.Cond) (s1 : Addr) (va : Addr) (kv : ClassId) (wL : Addr) (wBL : Addr) (wLG : Addr) (wLV : Addr) (kLV : ClassId) (dLV : Value) (wCD : Addr) (h0 : Heap) (n0 : Nat) (O : Old Z n0 h0) (E_va : Exa Z h0 va "[B") (V_va : Arv Z h0 va kv .byte (12 : Int32) [(.int 67), (.int 111), (.int 110), (.int 116), (.int 101), (.int 110), (.int 116), (.int 45), (.int 84), (.int 121), (.int 112), (.int 101)] (.int 0)) (E_loc : Exa Z Z.heap wL "java/util/Locale") (F_bl : Fld Z Z.heap wL "java/util/Locale" "baseLocale" "Lsun/util/locale/BaseLocale;" (.ref wBL)) (E_bl : Exa Z Z.heap wBL "sun/util/locale/BaseLocale") (F_lg : Fld Z Z.heap wBL "sun/util/locale/BaseLocale" "language" "Ljava/lang/String;" (.ref wLG)) (F_lgv : Fld Z Z.heap wLG "java/lang/String" "value" "[B" (.ref wLV)) (A_lg : Arv Z Z.heap wLV kLV .byte (0 : Int32) ([] : List Value) dLV) (S_cd : Sta Z Z.heap "java/lang/CharacterDataLatin1" "instance" "Ljava/lang/CharacterDataLatin1;" (.ref wCD)) (E_cd : Exa Z Z.heap wCD "java/lang/CharacterDataLatin1") :
    MetFree l (⟨"java/lang/StringLatin1", "toLowerCase", "(Ljava/lang/String;[BLjava/util/Locale;)Ljava/lang/String;"⟩ : MethodName) (head1 (Jvm.Cond.code (⟨"java/lang/StringLatin1", "toLowerCase", "(Ljava/lang/String;[BLjava/util/Locale;)Ljava/lang/String;"⟩ : MethodName) jdk_43_method_32_code 9 (some (.object "java/lang/String")) :: ws) ({ frames := 2, cells := 8, slots := 52, locals := 27 } : Room)) (fun a U => a = #[(.ref s1), (.ref va), (.ref wL)] ∧ Z.Warmed39 U.vm ∧ U.heap = h0 ∧ CHv Z own_EL U.vm h0) (fun _ _ _ _ _ => True) (fun _ U o U' => ∃ v L, o = .returned v ∧ own_slB_Q Z s1 va kv wL wBL wLG wLV kLV dLV wCD h0 n0 v U'.heap L ∧ CHr Z own_EL U.vm U.heap U'.vm U'.heap ∧ ReturnedEndW U o U' L ({ frames := 2, cells := 8, slots := 52, locals := 27 } : Room).cells ({ frames := 2, cells := 8, slots := 52, locals := 27 } : Room).slots) := by
  refine MetFree.of_bodySF own_slB_pn hisR ?_
  intro p e s m args below meth c s₁ Bd hml0 hP hK
  obtain ⟨rfl, hZ, hh, H0⟩ := hP
  have hx := Bd.exec
  have hby := Bd.bytes
  have hlk := Bd.notSynchronized
  have hml : c.maxLocals = 9 := hml0
  have hown : s.vm.findClass "java/lang/StringLatin1" = some m.cls := findClass_of_methodNamed Bd.named
  have hnm := (name_of_methodNamed Bd.named Bd.method).1
  have X : Stand p l e ({ frames := 2, cells := 8, slots := 52, locals := 27 } : Room) s m #[(.ref s1), (.ref va), (.ref wL)] below meth c s₁ [] 0 0 := Stand.of_body Bd
  have eT : s₁.heap = h0 := by rw [← hh, Bd.state]; rfl
  have N := Fr.nil n0
  have K0 := Keep.refl h0 []
  show own_Ends p e below (own_PostW s below (own_slB_Q Z s1 va kv wL wBL wLG wLV kLV dLV wCD h0 n0) (fun u => CHr Z own_EL s.vm s.heap u.vm u.heap) ({ frames := 2, cells := 8, slots := 52, locals := 27 } : Room).cells ({ frames := 2, cells := 8, slots := 52, locals := 27 } : Room).slots) s₁ (entryFrame m #[(.ref s1), (.ref va), (.ref wL)] 9)
  rw [own_slB_ef m s1 va wL]
  obtain ⟨T, hT⟩ : ∃ z, z = s₁ := ⟨_, rfl⟩
  rw [← hT] at X eT ⊢
  obtain ⟨h, hh0⟩ : ∃ z, z = h0 := ⟨_, rfl⟩
  rw [← hh0] at eT
  replace O : Old Z n0 h := by rw [hh0]; exact O
  replace K0 : Keep h0 h [] := by rw [hh0]; exact K0
  rw [← hh0] at E_va
  rw [← hh0] at V_va
  have wS : ∀ a ∈ Bundle.stringAtoms, a.before a0 Z = true := fun a ha => hw a ((by decide +kernel : ∀ d ∈ Bundle.stringAtoms, d ∈ tables_1) a ha)
  have hEL := own_hEL hw
  refine own_via (g' := (mkF m 13 (own_A21 s1 va wL) [(.ref va)])) (fun t_ k_ => XS.aloadN X.here hx rfl (hb hby ej43m32_d0) rfl rfl (XS.ifnonnullYes X.here hx rfl (pc0 := 1) (pc' := 12) rfl (hb hby ej43m32_d1) rfl (by decide) (by decide) (XS.aloadN X.here hx rfl (hb hby ej43m32_d12) rfl rfl k_))) ?_
  obtain ⟨cl_, Ar_, -, Sz_, Nn_, -, -⟩ := id V_va
  refine own_via (g' := (mkF m 14 (own_A21 s1 va wL) [(.int 12)])) (fun t_ k_ => X.arraylength hx (by rw [eT]; exact Ar_.1) (State.isArrayOf_alike hZ.alike Ar_.2.1) (g := (mkF m 13 (own_A21 s1 va wL) [(.ref va)])) rfl rfl (hb hby ej43m32_d13) _ (by rw [len_of Sz_ Nn_]; exact k_)) ?_
  refine own_via (g' := (mkF m 26 (own_A17 s1 va wL 0 12) [(.int 0), (.ref va)])) (fun t_ k_ => XS.istore X.here hx rfl (hb hby ej43m32_d14) rfl (l' := (own_A19 s1 va wL 12)) rfl (XS.iconst X.here hx rfl (hb hby ej43m32_d16) (XS.istoreN X.here hx rfl (hb hby ej43m32_d17) rfl (l' := (own_A17 s1 va wL 0 12)) rfl (XS.iloadN X.here hx rfl (hb hby ej43m32_d18) rfl (XS.iload X.here hx rfl (hb hby ej43m32_d19) rfl (XS.icmpNo X.here hx rfl (hb hby ej43m32_d21) rfl (tlt (by decide : (0 : Int32) < (12 : Int32))).2.1 (XS.aloadN X.here hx rfl (hb hby ej43m32_d24) rfl rfl (XS.iloadN X.here hx rfl (hb hby ej43m32_d25) rfl k_)))))))) ?_
  obtain ⟨cl_, Ar_, -, Sz_, Nn_, Hs_, -⟩ := id V_va
  have hin_ : ¬ ((0 : Int32) < 0 ∨ cl_.slots.size ≤ ((0 : Int32)).toNatClampNeg) := inb_of Sz_ ⟨by decide, by decide⟩
  have hat_ : cl_.slots[((0 : Int32)).toNatClampNeg]? = some (.int 67) := Hs_.at hin_ rfl
  refine own_via (g' := (mkF m 31 (own_A17 s1 va wL 0 12) [(.int ((67 : Int32) &&& (255 : Int32)))])) (fun t_ k_ => X.baloadBytes hx (j := (0 : Int32)) (v := (.int 67)) (by rw [eT]; exact Ar_.1) (State.isArrayOf_alike hZ.alike Ar_.2.1) Ar_.2.2 hin_ hat_ (g := (mkF m 26 (own_A17 s1 va wL 0 12) [(.int 0), (.ref va)])) rfl rfl (hb hby ej43m32_d26) _ (XS.sipush X.here hx rfl (hb hby ej43m32_d27) (XS.iand X.here hx rfl (hb hby ej43m32_d30) rfl k_))) ?_
  rw [(by decide : ((67 : Int32) &&& (255 : Int32)) = (67 : Int32))]
  refine own_via (g' := (mkF m 35 (own_A7 s1 va wL 0 12 67) [(.int 67)])) (fun t_ k_ => XS.istore X.here hx rfl (hb hby ej43m32_d31) rfl (l' := (own_A7 s1 va wL 0 12 67)) rfl (XS.iload X.here hx rfl (hb hby ej43m32_d33) rfl k_)) ?_
  obtain ⟨T, X, eT, st⟩ := getS2 X hx hZ hown (host := "") (Or.inl (hw _ (own_w 100 rfl))) Via.refl eT (S_cd.ext O.2) (g := (mkF m 35 (own_A7 s1 va wL 0 12 67) [(.int 67)])) rfl (hb hby ej43m32_d35)
  refine own_via (g' := (mkF m 38 (own_A7 s1 va wL 0 12 67) [(.ref wCD), (.int 67)])) st ?_
  refine own_via (g' := (mkF m 40 (own_A7 s1 va wL 0 12 67) [(.int 67), (.ref wCD), (.int 67)])) (fun t_ k_ => XS.iload X.here hx rfl (hb hby ej43m32_d38) rfl k_) ?_
  obtain ⟨cq, kq, qa, qb, qc⟩ := isOf hZ eT (E_cd.ext O.2)
  obtain ⟨_, _, ⟨T, Lq, kq, nq⟩, -, X, ⟨Lc, hQ, lq, yq, zq⟩, st⟩ := X.virtualBack hx (y := own_y6) (z := own_y6) hown (mvT hZ (hw _ (own_w 102 rfl))) (mvT hZ (hw _ (own_w 103 rfl))) (notFace_of_selects (args := #[]) (mvT hZ (hw _ (own_w 105 rfl)))) (mvT hZ (hw _ (own_w 105 rfl))) (mvT hZ (hw _ (own_w 104 rfl))) (by decide) (backOf (W := 1) (own_tl l Z a0 hw [] wCD (67 : Int32) (99 : Int32) h n0 O (by decide)) hZ (hw _ (own_w 106 rfl)) (hw _ (own_w 101 rfl)) (by decide) (by decide)) qa qc (g := (mkF m 40 (own_A7 s1 va wL 0 12 67) [(.int 67), (.ref wCD), (.int 67)])) rfl (by rw [hml]; rfl) (Steps.refl _) (argsL := [(.int 67)]) (rest := [(.int 67)]) (lenOf own_pd6 rfl) rfl (by show 2 * 0 + _ ≤ _; exact Nat.le_of_eq rfl) (hb hby ej43m32_d40) (fun _ _ => ⟨rfl, eT, (by decide : 0 + 0 ≤ _), (by decide : 0 + 0 ≤ _)⟩)
  dsimp only [Pt.U, Pt.locs, Pt.cells, Pt.slots] at X lq yq zq st hQ
  rw [lq, yq, zq] at X
  obtain ⟨rfl, Nq, eT⟩ := hQ
  replace N := Fr.app N Nq
  refine own_viaT (g' := (mkF m 43 (own_A7 s1 va wL 0 12 67) [(.int 99), (.int 67)])) st ?_
  refine own_via (g' := (mkF m 64 (own_A7 s1 va wL 0 12 67) [(.ref wL)])) (fun t_ k_ => XS.icmpNo X.here hx rfl (hb hby ej43m32_d43) rfl (feq (by decide : ¬ ((67 : Int32) = (99 : Int32)))).1 (XS.goto X.here hx rfl (pc0 := 46) (pc' := 55) rfl (hb hby ej43m32_d46) (by decide) (by decide) (XS.iloadN X.here hx rfl (hb hby ej43m32_d55) rfl (XS.iload X.here hx rfl (hb hby ej43m32_d56) rfl (XS.icmpYes X.here hx rfl (pc0 := 58) (pc' := 63) rfl (hb hby ej43m32_d58) rfl (feq (by decide : ¬ ((0 : Int32) = (12 : Int32)))).2 (by decide) (by decide) (XS.aloadN X.here hx rfl (hb hby ej43m32_d63) rfl rfl k_)))))) ?_
  obtain ⟨cq, kq, qa, qb, qc⟩ := isOf hZ eT (E_loc.ext O.2)
  obtain ⟨_, _, ⟨T, Lq, kq, nq⟩, -, X, ⟨Lc, hQ, lq, yq, zq⟩, st⟩ := X.virtualBack hx (y := own_y16) (z := own_y16) hown (mvT hZ (hw _ (own_w 173 rfl))) (mvT hZ (hw _ (own_w 174 rfl))) (notFace_of_selects (args := #[]) (mvT hZ (hw _ (own_w 176 rfl)))) (mvT hZ (hw _ (own_w 176 rfl))) (mvT hZ (hw _ (own_w 175 rfl))) (by decide) (backOf (W := 0) (own_locGet l Z a0 hw [] wL wBL wLG wLV kLV dLV h n0 O E_loc F_bl E_bl F_lg F_lgv A_lg) hZ (hw _ (own_w 177 rfl)) (hw _ (own_w 82 rfl)) (by decide) (by decide)) qa qc (g := (mkF m 64 (own_A7 s1 va wL 0 12 67) [(.ref wL)])) rfl (by rw [hml]; rfl) (Steps.refl _) (argsL := []) (rest := []) (lenOf own_pd13 rfl) rfl (by show 2 * 0 + _ ≤ _; exact Nat.le_of_eq rfl) (hb hby ej43m32_d64) (fun _ _ => ⟨rfl, eT, (by decide : 0 + 0 ≤ _), (by decide : 0 + 0 ≤ _)⟩)
  dsimp only [Pt.U, Pt.locs, Pt.cells, Pt.slots] at X lq yq zq st hQ
  rw [lq, yq, zq] at X
  obtain ⟨rfl, Nq, eT⟩ := hQ
  replace N := Fr.app N Nq
  refine own_viaT (g' := (mkF m 67 (own_A7 s1 va wL 0 12 67) [(.ref wLG)])) st ?_
  refine own_via (g' := (mkF m 71 (own_A14 s1 va wL 0 12 wLG) [(.ref wLG)])) (fun t_ k_ => XS.astore X.here hx rfl (hb hby ej43m32_d67) rfl rfl (l' := (own_A14 s1 va wL 0 12 wLG)) rfl (XS.aload X.here hx rfl (hb hby ej43m32_d69) rfl rfl k_)) ?_
  have H : CHr Z own_EL s.vm h0 s.vm h := by rw [hh0]; exact CHr.refl H0
  replace X := own_base X
  have hS := (State.WarmedH.refl s).since h0.size
  have hk : h0.size ≤ h.size := K0.1
  replace hZ : Z.Warmed39 (s.setVm s.vm).vm := hZ
  replace hown : (s.setVm s.vm).vm.findClass "java/lang/StringLatin1" = some m.cls := hown
  obtain ⟨t0, T, h1, k1, tb0, ktb0, X, eT, E, hS, hk, hZ, hown, E_t0, F_coder_t0, F_value_t0, V_tb0, lt_t0, lt_tb0, hCH, hLit, hne, st⟩ := ldcCH (s := s) X hx hZ hown (hw _ (own_w 188 rfl)) wS eT hS hk hEL (by decide) H.1 (vs := [(.int 116), (.int 114)]) (z := (2 : Int32)) ⟨by decide +kernel, by decide +kernel⟩ (by decide) rfl (g := (mkF m 71 (own_A14 s1 va wL 0 12 wLG) [(.ref wLG)])) rfl (hb hby ej43m32_d71) (n := 8) (by decide +kernel) (by decide) (by decide) (by decide)
  replace E_va := E_va.ext E
  replace V_va := V_va.ext E
  replace O := O.ext E
  replace K0 := K0.ext E
  replace H := H.trans hCH
  refine own_via (g' := (mkF m 73 (own_A14 s1 va wL 0 12 wLG) [(.ref t0), (.ref wLG)])) st ?_
  have neL0 : ¬ wLG = t0 := own_litNe (F_lgv.ext O.2) F_value_t0 (A_lg.ext O.2) V_tb0 (by decide)
  refine own_via (g' := (mkF m 78 (own_A14 s1 va wL 0 12 wLG) [(.ref wLG)])) (fun t_ k_ => Jvm.RoadKit.acmp (g := (mkF m 73 (own_A14 s1 va wL 0 12 wLG) [(.ref t0), (.ref wLG)])) X hx rfl rfl rfl (pc0 := 73) (pc' := 76) (same := false) rfl (hb hby ej43m32_d73) rfl (decide_eq_false fun q => neL0 (Value.ref.inj q)) (by decide) (by decide) (XS.aload X.here hx rfl (hb hby ej43m32_d76) rfl rfl k_)) ?_
  obtain ⟨t1, T, h2, k1, tb1, ktb1, X, eT, E, hS, hk, hZ, hown, E_t1, F_coder_t1, F_value_t1, V_tb1, lt_t1, lt_tb1, hCH, hLit, hne, st⟩ := ldcCH (s := s) X hx hZ hown (hw _ (own_w 189 rfl)) wS eT hS hk hEL (by decide) H.1 (vs := [(.int 97), (.int 122)]) (z := (2 : Int32)) ⟨by decide +kernel, by decide +kernel⟩ (by decide) rfl (g := (mkF m 78 (own_A14 s1 va wL 0 12 wLG) [(.ref wLG)])) rfl (hb hby ej43m32_d78) (n := 8) (by decide +kernel) (by decide) (by decide) (by decide)
  replace E_va := E_va.ext E
  replace V_va := V_va.ext E
  replace O := O.ext E
  replace K0 := K0.ext E
  replace H := H.trans hCH
  refine own_via (g' := (mkF m 80 (own_A14 s1 va wL 0 12 wLG) [(.ref t1), (.ref wLG)])) st ?_
  have neL1 : ¬ wLG = t1 := own_litNe (F_lgv.ext O.2) F_value_t1 (A_lg.ext O.2) V_tb1 (by decide)
  refine own_via (g' := (mkF m 85 (own_A14 s1 va wL 0 12 wLG) [(.ref wLG)])) (fun t_ k_ => Jvm.RoadKit.acmp (g := (mkF m 80 (own_A14 s1 va wL 0 12 wLG) [(.ref t1), (.ref wLG)])) X hx rfl rfl rfl (pc0 := 80) (pc' := 83) (same := false) rfl (hb hby ej43m32_d80) rfl (decide_eq_false fun q => neL1 (Value.ref.inj q)) (by decide) (by decide) (XS.aload X.here hx rfl (hb hby ej43m32_d83) rfl rfl k_)) ?_
  obtain ⟨t2, T, h3, k1, tb2, ktb2, X, eT, E, hS, hk, hZ, hown, E_t2, F_coder_t2, F_value_t2, V_tb2, lt_t2, lt_tb2, hCH, hLit, hne, st⟩ := ldcCH (s := s) X hx hZ hown (hw _ (own_w 190 rfl)) wS eT hS hk hEL (by decide) H.1 (vs := [(.int 108), (.int 116)]) (z := (2 : Int32)) ⟨by decide +kernel, by decide +kernel⟩ (by decide) rfl (g := (mkF m 85 (own_A14 s1 va wL 0 12 wLG) [(.ref wLG)])) rfl (hb hby ej43m32_d85) (n := 8) (by decide +kernel) (by decide) (by decide) (by decide)
  replace E_va := E_va.ext E
  replace V_va := V_va.ext E
  replace O := O.ext E
  replace K0 := K0.ext E
  replace H := H.trans hCH
  refine own_via (g' := (mkF m 87 (own_A14 s1 va wL 0 12 wLG) [(.ref t2), (.ref wLG)])) st ?_
  have neL2 : ¬ wLG = t2 := own_litNe (F_lgv.ext O.2) F_value_t2 (A_lg.ext O.2) V_tb2 (by decide)
  refine own_via (g' := (mkF m 101 (own_A14 s1 va wL 0 12 wLG) [(.int 12)])) (fun t_ k_ => Jvm.RoadKit.acmp (g := (mkF m 87 (own_A14 s1 va wL 0 12 wLG) [(.ref t2), (.ref wLG)])) X hx rfl rfl rfl (pc0 := 87) (pc' := 99) (same := false) rfl (hb hby ej43m32_d87) rfl (decide_eq_false fun q => neL2 (Value.ref.inj q)) (by decide) (by decide) (XS.iload X.here hx rfl (hb hby ej43m32_d99) rfl k_)) ?_
  obtain ⟨b4, gb⟩ : ∃ z, z = h3.size := ⟨_, rfl⟩
  obtain ⟨T, h5, kb4, X, eT, E, A_, E_b4, st⟩ := newPE X hx hZ (hw _ (own_w 14 rfl)) eT (g := (mkF m 101 (own_A14 s1 va wL 0 12 wLG) [(.int 12)])) rfl (hb hby ej43m32_d101) rfl (by decide) (cap := 12) (by decide) (by decide) (by decide) (by decide) (ad := "[B") (by decide)
  rw [← gb] at A_ E_b4 st
  have ne_va_b4 : va ≠ b4 := Nat.ne_of_lt (Nat.lt_of_lt_of_le E_va.lt (Nat.le_of_eq gb.symm))
  have S_b4 := own_safeNew H (Nat.le_of_eq gb.symm)
  have g_b4 : n0 ≤ b4 := Nat.le_trans (own_le O) (Nat.le_of_eq gb.symm)
  have sz_b4 : h0.size ≤ b4 := Nat.le_trans K0.1 (Nat.le_of_eq gb.symm)
  replace E_va := E_va.ext E
  replace V_va := V_va.ext E
  replace O := O.ext E
  replace K0 := K0.ext E
  replace hk := Nat.le_trans hk E.1
  replace S_b4 := Safe.ext E H.1 S_b4
  replace H := H.trans (CHr.ext E H.1)
  have V_b4 : Arv Z h5 b4 kb4 .byte (12 : Int32) [(.int 0), (.int 0), (.int 0), (.int 0), (.int 0), (.int 0), (.int 0), (.int 0), (.int 0), (.int 0), (.int 0), (.int 0)] (.int 0) := (Arv.new A_ (by decide)).pad (pad_rep [] (.int 0) 12)
  refine own_via (g' := (mkF m 103 (own_A14 s1 va wL 0 12 wLG) [(.ref b4)])) st ?_
  refine own_via (g' := (mkF m 111 (own_A11 s1 va wL 0 12 wLG b4) [(.int 0), (.int 0), (.ref b4), (.int 0), (.ref va)])) (fun t_ k_ => XS.astore X.here hx rfl (hb hby ej43m32_d103) rfl rfl (l' := (own_A11 s1 va wL 0 12 wLG b4)) rfl (XS.aloadN X.here hx rfl (hb hby ej43m32_d105) rfl rfl (XS.iconst X.here hx rfl (hb hby ej43m32_d106) (XS.aload X.here hx rfl (hb hby ej43m32_d107) rfl rfl (XS.iconst X.here hx rfl (hb hby ej43m32_d109) (XS.iloadN X.here hx rfl (hb hby ej43m32_d110) rfl k_)))))) ?_
  obtain ⟨T, h6, Lq, X, eT, N, Kq, Vq, st⟩ := cpA X hx hZ hown (hw _ (own_w 191 rfl)) (hw _ (own_w 194 rfl)) (hw _ (own_w 192 rfl)) (hw _ (own_w 193 rfl)) eT V_va V_b4 (Or.inl ⟨rfl, rfl⟩) (sp := 0) (dp := 0) (nn := 0) (by decide) (by decide) (by decide) (by decide) (by decide) rfl (by decide) N g_b4 (g := (mkF m 111 (own_A11 s1 va wL 0 12 wLG b4) [(.int 0), (.int 0), (.ref b4), (.int 0), (.ref va)])) rfl (by rw [hml]; rfl) rfl (hb hby ej43m32_d111) (by decide) (W := 0) (by show 2 * 0 + _ ≤ _; exact Nat.le_of_eq rfl) (by decide)
  have So : ∀ x ∈ [b4], Safe Z own_EL _ h5 x := (allS S_b4 all0)
  replace V_b4 : Arv Z h6 b4 kb4 .byte (12 : Int32) [(.int 0), (.int 0), (.int 0), (.int 0), (.int 0), (.int 0), (.int 0), (.int 0), (.int 0), (.int 0), (.int 0), (.int 0)] (.int 0) := Vq
  replace E_va := E_va.keep Kq
  replace V_va := V_va.keep Kq (ninS ne_va_b4 nin0)
  replace E_b4 := E_b4.keep Kq
  replace O := O.keep Kq (allS g_b4 all0)
  replace K0 := K0.trans Kq (allS (Or.inr sz_b4) all0)
  replace hk := Nat.le_trans hk Kq.1
  replace S_b4 := Safe.keep Kq So H.1 S_b4
  replace H := H.trans (CHr.keep Kq So H.1)
  refine own_via (g' := (mkF m 114 (own_A11 s1 va wL 0 12 wLG b4) [])) st ?_
  refine own_via (g' := (mkF m 127 (own_A10 s1 va wL 0 12 wLG b4 0) [(.int 0), (.ref va)])) (fun t_ k_ => XS.iloadN X.here hx rfl (hb hby ej43m32_d114) rfl (XS.istore X.here hx rfl (hb hby ej43m32_d115) rfl (l' := (own_A10 s1 va wL 0 12 wLG b4 0)) rfl (XS.iload X.here hx rfl (hb hby ej43m32_d117) rfl (XS.iload X.here hx rfl (hb hby ej43m32_d119) rfl (XS.icmpNo X.here hx rfl (hb hby ej43m32_d121) rfl (tlt (by decide : (0 : Int32) < (12 : Int32))).2.1 (XS.aloadN X.here hx rfl (hb hby ej43m32_d124) rfl rfl (XS.iload X.here hx rfl (hb hby ej43m32_d125) rfl k_))))))) ?_
  obtain ⟨cl_, Ar_, -, Sz_, Nn_, Hs_, -⟩ := id V_va
  have hin_ : ¬ ((0 : Int32) < 0 ∨ cl_.slots.size ≤ ((0 : Int32)).toNatClampNeg) := inb_of Sz_ ⟨by decide, by decide⟩
  have hat_ : cl_.slots[((0 : Int32)).toNatClampNeg]? = some (.int 67) := Hs_.at hin_ rfl
  refine own_via (g' := (mkF m 132 (own_A10 s1 va wL 0 12 wLG b4 0) [(.int ((67 : Int32) &&& (255 : Int32)))])) (fun t_ k_ => X.baloadBytes hx (j := (0 : Int32)) (v := (.int 67)) (by rw [eT]; exact Ar_.1) (State.isArrayOf_alike hZ.alike Ar_.2.1) Ar_.2.2 hin_ hat_ (g := (mkF m 127 (own_A10 s1 va wL 0 12 wLG b4 0) [(.int 0), (.ref va)])) rfl rfl (hb hby ej43m32_d127) _ (XS.sipush X.here hx rfl (hb hby ej43m32_d128) (XS.iand X.here hx rfl (hb hby ej43m32_d131) rfl k_))) ?_
  rw [(by decide : ((67 : Int32) &&& (255 : Int32)) = (67 : Int32))]
  refine own_via (g' := (mkF m 134 (own_A3 s1 va wL 0 12 wLG b4 0 67) [])) (fun t_ k_ => XS.istore X.here hx rfl (hb hby ej43m32_d132) rfl (l' := (own_A3 s1 va wL 0 12 wLG b4 0 67)) rfl k_) ?_
  obtain ⟨T, X, eT, st⟩ := getS2 X hx hZ hown (host := "") (Or.inl (hw _ (own_w 100 rfl))) Via.refl eT (S_cd.ext O.2) (g := (mkF m 134 (own_A3 s1 va wL 0 12 wLG b4 0 67) [])) rfl (hb hby ej43m32_d134)
  refine own_via (g' := (mkF m 137 (own_A3 s1 va wL 0 12 wLG b4 0 67) [(.ref wCD)])) st ?_
  refine own_via (g' := (mkF m 139 (own_A3 s1 va wL 0 12 wLG b4 0 67) [(.int 67), (.ref wCD)])) (fun t_ k_ => XS.iload X.here hx rfl (hb hby ej43m32_d137) rfl k_) ?_
  obtain ⟨cq, kq, qa, qb, qc⟩ := isOf hZ eT (E_cd.ext O.2)
  obtain ⟨_, _, ⟨T, Lq, kq, nq⟩, -, X, ⟨Lc, hQ, lq, yq, zq⟩, st⟩ := X.virtualBack hx (y := own_y6) (z := own_y6) hown (mvT hZ (hw _ (own_w 102 rfl))) (mvT hZ (hw _ (own_w 103 rfl))) (notFace_of_selects (args := #[]) (mvT hZ (hw _ (own_w 105 rfl)))) (mvT hZ (hw _ (own_w 105 rfl))) (mvT hZ (hw _ (own_w 104 rfl))) (by decide) (backOf (W := 0) (own_tl l Z a0 hw [] wCD (67 : Int32) (99 : Int32) h6 n0 O (by decide)) hZ (hw _ (own_w 106 rfl)) (hw _ (own_w 101 rfl)) (by decide) (by decide)) qa qc (g := (mkF m 139 (own_A3 s1 va wL 0 12 wLG b4 0 67) [(.int 67), (.ref wCD)])) rfl (by rw [hml]; rfl) (Steps.refl _) (argsL := [(.int 67)]) (rest := []) (lenOf own_pd6 rfl) rfl (by show 2 * 0 + _ ≤ _; exact Nat.le_of_eq rfl) (hb hby ej43m32_d139) (fun _ _ => ⟨rfl, eT, (by decide : 7 + 0 ≤ _), (by decide : 48 + 0 ≤ _)⟩)
  dsimp only [Pt.U, Pt.locs, Pt.cells, Pt.slots] at X lq yq zq st hQ
  rw [lq, yq, zq] at X
  obtain ⟨rfl, Nq, eT⟩ := hQ
  replace N := Fr.app N Nq
  refine own_viaT (g' := (mkF m 142 (own_A3 s1 va wL 0 12 wLG b4 0 67) [(.int 99)])) st ?_
  refine own_via (g' := (mkF m 146 (own_A3 s1 va wL 0 12 wLG b4 0 99) [(.int 99)])) (fun t_ k_ => XS.istore X.here hx rfl (hb hby ej43m32_d142) rfl (l' := (own_A3 s1 va wL 0 12 wLG b4 0 99)) rfl (XS.iload X.here hx rfl (hb hby ej43m32_d144) rfl k_)) ?_
  obtain ⟨_, _, ⟨T, Lq, kq, nq⟩, -, X, ⟨Lc, hQ, lq, yq, zq⟩, st⟩ := Jvm.LawKit.callS X hx (y := own_y17) hown (mvT hZ (hw _ (own_w 195 rfl))) (mvT hZ (hw _ (own_w 196 rfl))) (mvT hZ (hw _ (own_w 98 rfl))) (mvT hZ (hw _ (own_w 197 rfl))) (by decide) (backOf (W := 0) (own_can l Z a0 hw [] (99 : Int32) (99 : Int32) h6 n0 O (by decide)) hZ (hw _ (own_w 197 rfl)) (hw _ (own_w 98 rfl)) (by decide) (by decide)) (g := (mkF m 146 (own_A3 s1 va wL 0 12 wLG b4 0 99) [(.int 99)])) rfl (by rw [hml]; rfl) (argsL := [(.int 99)]) (rest := []) (lenOf own_pd14 rfl) rfl (by show 2 * 0 + _ ≤ _; exact Nat.le_of_eq rfl) (hb hby ej43m32_d146) (fun _ _ => ⟨rfl, eT, (by decide : 7 + 0 ≤ _), (by decide : 48 + 0 ≤ _)⟩)
  dsimp only [Pt.U, Pt.locs, Pt.cells, Pt.slots] at X lq yq zq st hQ
  rw [lq, yq, zq] at X
  obtain ⟨rfl, Nq, eT⟩ := hQ
  replace N := Fr.app N Nq
  refine own_via (g' := (mkF m 149 (own_A3 s1 va wL 0 12 wLG b4 0 99) [(.int 1)])) st ?_
  refine own_via (g' := (mkF m 168 (own_A3 s1 va wL 0 12 wLG b4 0 99) [(.int ((99 : Int32).toInt8.toInt32)), (.int 0), (.ref b4)])) (fun t_ k_ => XS.ifYes X.here hx rfl (pc0 := 149) (pc' := 161) rfl (hb hby ej43m32_d149) rfl ((if0 _ _).trans (feq (by decide : ¬ ((1 : Int32) = (0 : Int32)))).2) (by decide) (by decide) (XS.aload X.here hx rfl (hb hby ej43m32_d161) rfl rfl (XS.iload X.here hx rfl (hb hby ej43m32_d163) rfl (XS.iload X.here hx rfl (hb hby ej43m32_d165) rfl (XS.i2b X.here hx rfl (hb hby ej43m32_d167) rfl k_))))) ?_
  rw [(by decide : ((99 : Int32).toInt8.toInt32) = (99 : Int32))]
  obtain ⟨cl_, Ar_, qk_, Sz_, Nn_, Hs_, Gs_⟩ := id V_b4
  have hin_ : ¬ ((0 : Int32) < 0 ∨ cl_.slots.size ≤ ((0 : Int32)).toNatClampNeg) := inb_of Sz_ ⟨by decide, by decide⟩
  obtain ⟨T, h7, X, eT, W, st⟩ := stB X hx hZ eT Ar_ (j := (0 : Int32)) hin_ (g := (mkF m 168 (own_A3 s1 va wL 0 12 wLG b4 0 99) [(.int 99), (.int 0), (.ref b4)])) rfl rfl (hb hby ej43m32_d168)
  replace V_b4 : Arv Z h7 b4 kb4 .byte (12 : Int32) [(.int (((99 : Int32)).toInt8.toInt32)), (.int 0), (.int 0), (.int 0), (.int 0), (.int 0), (.int 0), (.int 0), (.int 0), (.int 0), (.int 0), (.int 0)] (.int 0) := Arv.set Ar_ qk_ Sz_ Nn_ Hs_ Gs_ (fits_nar_byte _) W 0 (by decide) (Nat.le_of_ble_eq_true rfl)
  have So := S_b4
  replace E_va := E_va.wr W
  replace V_va := V_va.other W ne_va_b4
  replace E_b4 := E_b4.wr W
  replace O := O.wr W g_b4
  replace K0 := K0.wr W (Or.inr sz_b4)
  replace N := Fr.snoc X N g_b4
  replace hk := Nat.le_trans hk (own_wrSz W)
  replace S_b4 := Safe.wr W So H.1 S_b4
  replace H := H.trans (CHr.wr W So H.1)
  refine own_via (g' := (mkF m 169 (own_A3 s1 va wL 0 12 wLG b4 0 99) [])) st ?_
  rw [(by decide : ((99 : Int32).toInt8.toInt32) = (99 : Int32))] at V_b4
  refine own_via (g' := (mkF m 172 (own_A3 s1 va wL 0 12 wLG b4 ((0 : Int32) + (1 : Int32)) 99) [])) (fun t_ k_ => XS.iinc X.here hx rfl (hb hby ej43m32_d169) rfl (l' := (own_A3 s1 va wL 0 12 wLG b4 ((0 : Int32) + (1 : Int32)) 99)) rfl k_) ?_
  rw [(by decide : ((0 : Int32) + (1 : Int32)) = (1 : Int32))]
  refine own_via (g' := (mkF m 127 (own_A3 s1 va wL 0 12 wLG b4 1 99) [(.int 1), (.ref va)])) (fun t_ k_ => XS.goto X.here hx rfl (pc0 := 172) (pc' := 117) rfl (hb hby ej43m32_d172) (by decide) (by decide) (XS.iload X.here hx rfl (hb hby ej43m32_d117) rfl (XS.iload X.here hx rfl (hb hby ej43m32_d119) rfl (XS.icmpNo X.here hx rfl (hb hby ej43m32_d121) rfl (tlt (by decide : (1 : Int32) < (12 : Int32))).2.1 (XS.aloadN X.here hx rfl (hb hby ej43m32_d124) rfl rfl (XS.iload X.here hx rfl (hb hby ej43m32_d125) rfl k_)))))) ?_
  obtain ⟨cl_, Ar_, -, Sz_, Nn_, Hs_, -⟩ := id V_va
  have hin_ : ¬ ((1 : Int32) < 0 ∨ cl_.slots.size ≤ ((1 : Int32)).toNatClampNeg) := inb_of Sz_ ⟨by decide, by decide⟩
  have hat_ : cl_.slots[((1 : Int32)).toNatClampNeg]? = some (.int 111) := Hs_.at hin_ rfl
  refine own_via (g' := (mkF m 132 (own_A3 s1 va wL 0 12 wLG b4 1 99) [(.int ((111 : Int32) &&& (255 : Int32)))])) (fun t_ k_ => X.baloadBytes hx (j := (1 : Int32)) (v := (.int 111)) (by rw [eT]; exact Ar_.1) (State.isArrayOf_alike hZ.alike Ar_.2.1) Ar_.2.2 hin_ hat_ (g := (mkF m 127 (own_A3 s1 va wL 0 12 wLG b4 1 99) [(.int 1), (.ref va)])) rfl rfl (hb hby ej43m32_d127) _ (XS.sipush X.here hx rfl (hb hby ej43m32_d128) (XS.iand X.here hx rfl (hb hby ej43m32_d131) rfl k_))) ?_
  rw [(by decide : ((111 : Int32) &&& (255 : Int32)) = (111 : Int32))]
  refine own_via (g' := (mkF m 134 (own_A3 s1 va wL 0 12 wLG b4 1 111) [])) (fun t_ k_ => XS.istore X.here hx rfl (hb hby ej43m32_d132) rfl (l' := (own_A3 s1 va wL 0 12 wLG b4 1 111)) rfl k_) ?_
  obtain ⟨T, X, eT, st⟩ := getS2 X hx hZ hown (host := "") (Or.inl (hw _ (own_w 100 rfl))) Via.refl eT (S_cd.ext O.2) (g := (mkF m 134 (own_A3 s1 va wL 0 12 wLG b4 1 111) [])) rfl (hb hby ej43m32_d134)
  refine own_via (g' := (mkF m 137 (own_A3 s1 va wL 0 12 wLG b4 1 111) [(.ref wCD)])) st ?_
  refine own_via (g' := (mkF m 139 (own_A3 s1 va wL 0 12 wLG b4 1 111) [(.int 111), (.ref wCD)])) (fun t_ k_ => XS.iload X.here hx rfl (hb hby ej43m32_d137) rfl k_) ?_
  obtain ⟨cq, kq, qa, qb, qc⟩ := isOf hZ eT (E_cd.ext O.2)
  obtain ⟨_, _, ⟨T, Lq, kq, nq⟩, -, X, ⟨Lc, hQ, lq, yq, zq⟩, st⟩ := X.virtualBack hx (y := own_y6) (z := own_y6) hown (mvT hZ (hw _ (own_w 102 rfl))) (mvT hZ (hw _ (own_w 103 rfl))) (notFace_of_selects (args := #[]) (mvT hZ (hw _ (own_w 105 rfl)))) (mvT hZ (hw _ (own_w 105 rfl))) (mvT hZ (hw _ (own_w 104 rfl))) (by decide) (backOf (W := 0) (own_tl l Z a0 hw [] wCD (111 : Int32) (111 : Int32) h7 n0 O (by decide)) hZ (hw _ (own_w 106 rfl)) (hw _ (own_w 101 rfl)) (by decide) (by decide)) qa qc (g := (mkF m 139 (own_A3 s1 va wL 0 12 wLG b4 1 111) [(.int 111), (.ref wCD)])) rfl (by rw [hml]; rfl) (Steps.refl _) (argsL := [(.int 111)]) (rest := []) (lenOf own_pd6 rfl) rfl (by show 2 * 0 + _ ≤ _; exact Nat.le_of_eq rfl) (hb hby ej43m32_d139) (fun _ _ => ⟨rfl, eT, (by decide : 7 + 0 ≤ _), (by decide : 48 + 0 ≤ _)⟩)
  dsimp only [Pt.U, Pt.locs, Pt.cells, Pt.slots] at X lq yq zq st hQ
  rw [lq, yq, zq] at X
  obtain ⟨rfl, Nq, eT⟩ := hQ
  replace N := Fr.app N Nq
  refine own_viaT (g' := (mkF m 142 (own_A3 s1 va wL 0 12 wLG b4 1 111) [(.int 111)])) st ?_
  refine own_via (g' := (mkF m 146 (own_A3 s1 va wL 0 12 wLG b4 1 111) [(.int 111)])) (fun t_ k_ => XS.istore X.here hx rfl (hb hby ej43m32_d142) rfl (l' := (own_A3 s1 va wL 0 12 wLG b4 1 111)) rfl (XS.iload X.here hx rfl (hb hby ej43m32_d144) rfl k_)) ?_
  obtain ⟨_, _, ⟨T, Lq, kq, nq⟩, -, X, ⟨Lc, hQ, lq, yq, zq⟩, st⟩ := Jvm.LawKit.callS X hx (y := own_y17) hown (mvT hZ (hw _ (own_w 195 rfl))) (mvT hZ (hw _ (own_w 196 rfl))) (mvT hZ (hw _ (own_w 98 rfl))) (mvT hZ (hw _ (own_w 197 rfl))) (by decide) (backOf (W := 0) (own_can l Z a0 hw [] (111 : Int32) (111 : Int32) h7 n0 O (by decide)) hZ (hw _ (own_w 197 rfl)) (hw _ (own_w 98 rfl)) (by decide) (by decide)) (g := (mkF m 146 (own_A3 s1 va wL 0 12 wLG b4 1 111) [(.int 111)])) rfl (by rw [hml]; rfl) (argsL := [(.int 111)]) (rest := []) (lenOf own_pd14 rfl) rfl (by show 2 * 0 + _ ≤ _; exact Nat.le_of_eq rfl) (hb hby ej43m32_d146) (fun _ _ => ⟨rfl, eT, (by decide : 7 + 0 ≤ _), (by decide : 48 + 0 ≤ _)⟩)
  dsimp only [Pt.U, Pt.locs, Pt.cells, Pt.slots] at X lq yq zq st hQ
  rw [lq, yq, zq] at X
  obtain ⟨rfl, Nq, eT⟩ := hQ
  replace N := Fr.app N Nq
  refine own_via (g' := (mkF m 149 (own_A3 s1 va wL 0 12 wLG b4 1 111) [(.int 1)])) st ?_
  refine own_via (g' := (mkF m 168 (own_A3 s1 va wL 0 12 wLG b4 1 111) [(.int ((111 : Int32).toInt8.toInt32)), (.int 1), (.ref b4)])) (fun t_ k_ => XS.ifYes X.here hx rfl (pc0 := 149) (pc' := 161) rfl (hb hby ej43m32_d149) rfl ((if0 _ _).trans (feq (by decide : ¬ ((1 : Int32) = (0 : Int32)))).2) (by decide) (by decide) (XS.aload X.here hx rfl (hb hby ej43m32_d161) rfl rfl (XS.iload X.here hx rfl (hb hby ej43m32_d163) rfl (XS.iload X.here hx rfl (hb hby ej43m32_d165) rfl (XS.i2b X.here hx rfl (hb hby ej43m32_d167) rfl k_))))) ?_
  rw [(by decide : ((111 : Int32).toInt8.toInt32) = (111 : Int32))]
  obtain ⟨cl_, Ar_, qk_, Sz_, Nn_, Hs_, Gs_⟩ := id V_b4
  have hin_ : ¬ ((1 : Int32) < 0 ∨ cl_.slots.size ≤ ((1 : Int32)).toNatClampNeg) := inb_of Sz_ ⟨by decide, by decide⟩
  obtain ⟨T, h8, X, eT, W, st⟩ := stB X hx hZ eT Ar_ (j := (1 : Int32)) hin_ (g := (mkF m 168 (own_A3 s1 va wL 0 12 wLG b4 1 111) [(.int 111), (.int 1), (.ref b4)])) rfl rfl (hb hby ej43m32_d168)
  replace V_b4 : Arv Z h8 b4 kb4 .byte (12 : Int32) [(.int 99), (.int (((111 : Int32)).toInt8.toInt32)), (.int 0), (.int 0), (.int 0), (.int 0), (.int 0), (.int 0), (.int 0), (.int 0), (.int 0), (.int 0)] (.int 0) := Arv.set Ar_ qk_ Sz_ Nn_ Hs_ Gs_ (fits_nar_byte _) W 1 (by decide) (Nat.le_of_ble_eq_true rfl)
  have So := S_b4
  replace E_va := E_va.wr W
  replace V_va := V_va.other W ne_va_b4
  replace E_b4 := E_b4.wr W
  replace O := O.wr W g_b4
  replace K0 := K0.wr W (Or.inr sz_b4)
  replace N := Fr.snoc X N g_b4
  replace hk := Nat.le_trans hk (own_wrSz W)
  replace S_b4 := Safe.wr W So H.1 S_b4
  replace H := H.trans (CHr.wr W So H.1)
  refine own_via (g' := (mkF m 169 (own_A3 s1 va wL 0 12 wLG b4 1 111) [])) st ?_
  rw [(by decide : ((111 : Int32).toInt8.toInt32) = (111 : Int32))] at V_b4
  refine own_via (g' := (mkF m 172 (own_A3 s1 va wL 0 12 wLG b4 ((1 : Int32) + (1 : Int32)) 111) [])) (fun t_ k_ => XS.iinc X.here hx rfl (hb hby ej43m32_d169) rfl (l' := (own_A3 s1 va wL 0 12 wLG b4 ((1 : Int32) + (1 : Int32)) 111)) rfl k_) ?_
  rw [(by decide : ((1 : Int32) + (1 : Int32)) = (2 : Int32))]
  refine own_via (g' := (mkF m 127 (own_A3 s1 va wL 0 12 wLG b4 2 111) [(.int 2), (.ref va)])) (fun t_ k_ => XS.goto X.here hx rfl (pc0 := 172) (pc' := 117) rfl (hb hby ej43m32_d172) (by decide) (by decide) (XS.iload X.here hx rfl (hb hby ej43m32_d117) rfl (XS.iload X.here hx rfl (hb hby ej43m32_d119) rfl (XS.icmpNo X.here hx rfl (hb hby ej43m32_d121) rfl (tlt (by decide : (2 : Int32) < (12 : Int32))).2.1 (XS.aloadN X.here hx rfl (hb hby ej43m32_d124) rfl rfl (XS.iload X.here hx rfl (hb hby ej43m32_d125) rfl k_)))))) ?_
  obtain ⟨cl_, Ar_, -, Sz_, Nn_, Hs_, -⟩ := id V_va
  have hin_ : ¬ ((2 : Int32) < 0 ∨ cl_.slots.size ≤ ((2 : Int32)).toNatClampNeg) := inb_of Sz_ ⟨by decide, by decide⟩
  have hat_ : cl_.slots[((2 : Int32)).toNatClampNeg]? = some (.int 110) := Hs_.at hin_ rfl
  refine own_via (g' := (mkF m 132 (own_A3 s1 va wL 0 12 wLG b4 2 111) [(.int ((110 : Int32) &&& (255 : Int32)))])) (fun t_ k_ => X.baloadBytes hx (j := (2 : Int32)) (v := (.int 110)) (by rw [eT]; exact Ar_.1) (State.isArrayOf_alike hZ.alike Ar_.2.1) Ar_.2.2 hin_ hat_ (g := (mkF m 127 (own_A3 s1 va wL 0 12 wLG b4 2 111) [(.int 2), (.ref va)])) rfl rfl (hb hby ej43m32_d127) _ (XS.sipush X.here hx rfl (hb hby ej43m32_d128) (XS.iand X.here hx rfl (hb hby ej43m32_d131) rfl k_))) ?_
  rw [(by decide : ((110 : Int32) &&& (255 : Int32)) = (110 : Int32))]
  refine own_via (g' := (mkF m 134 (own_A3 s1 va wL 0 12 wLG b4 2 110) [])) (fun t_ k_ => XS.istore X.here hx rfl (hb hby ej43m32_d132) rfl (l' := (own_A3 s1 va wL 0 12 wLG b4 2 110)) rfl k_) ?_
  obtain ⟨T, X, eT, st⟩ := getS2 X hx hZ hown (host := "") (Or.inl (hw _ (own_w 100 rfl))) Via.refl eT (S_cd.ext O.2) (g := (mkF m 134 (own_A3 s1 va wL 0 12 wLG b4 2 110) [])) rfl (hb hby ej43m32_d134)
  refine own_via (g' := (mkF m 137 (own_A3 s1 va wL 0 12 wLG b4 2 110) [(.ref wCD)])) st ?_
  refine own_via (g' := (mkF m 139 (own_A3 s1 va wL 0 12 wLG b4 2 110) [(.int 110), (.ref wCD)])) (fun t_ k_ => XS.iload X.here hx rfl (hb hby ej43m32_d137) rfl k_) ?_
  obtain ⟨cq, kq, qa, qb, qc⟩ := isOf hZ eT (E_cd.ext O.2)
  obtain ⟨_, _, ⟨T, Lq, kq, nq⟩, -, X, ⟨Lc, hQ, lq, yq, zq⟩, st⟩ := X.virtualBack hx (y := own_y6) (z := own_y6) hown (mvT hZ (hw _ (own_w 102 rfl))) (mvT hZ (hw _ (own_w 103 rfl))) (notFace_of_selects (args := #[]) (mvT hZ (hw _ (own_w 105 rfl)))) (mvT hZ (hw _ (own_w 105 rfl))) (mvT hZ (hw _ (own_w 104 rfl))) (by decide) (backOf (W := 0) (own_tl l Z a0 hw [] wCD (110 : Int32) (110 : Int32) h8 n0 O (by decide)) hZ (hw _ (own_w 106 rfl)) (hw _ (own_w 101 rfl)) (by decide) (by decide)) qa qc (g := (mkF m 139 (own_A3 s1 va wL 0 12 wLG b4 2 110) [(.int 110), (.ref wCD)])) rfl (by rw [hml]; rfl) (Steps.refl _) (argsL := [(.int 110)]) (rest := []) (lenOf own_pd6 rfl) rfl (by show 2 * 0 + _ ≤ _; exact Nat.le_of_eq rfl) (hb hby ej43m32_d139) (fun _ _ => ⟨rfl, eT, (by decide : 7 + 0 ≤ _), (by decide : 48 + 0 ≤ _)⟩)
  dsimp only [Pt.U, Pt.locs, Pt.cells, Pt.slots] at X lq yq zq st hQ
  rw [lq, yq, zq] at X
  obtain ⟨rfl, Nq, eT⟩ := hQ
  replace N := Fr.app N Nq
  refine own_viaT (g' := (mkF m 142 (own_A3 s1 va wL 0 12 wLG b4 2 110) [(.int 110)])) st ?_
  refine own_via (g' := (mkF m 146 (own_A3 s1 va wL 0 12 wLG b4 2 110) [(.int 110)])) (fun t_ k_ => XS.istore X.here hx rfl (hb hby ej43m32_d142) rfl (l' := (own_A3 s1 va wL 0 12 wLG b4 2 110)) rfl (XS.iload X.here hx rfl (hb hby ej43m32_d144) rfl k_)) ?_
  obtain ⟨_, _, ⟨T, Lq, kq, nq⟩, -, X, ⟨Lc, hQ, lq, yq, zq⟩, st⟩ := Jvm.LawKit.callS X hx (y := own_y17) hown (mvT hZ (hw _ (own_w 195 rfl))) (mvT hZ (hw _ (own_w 196 rfl))) (mvT hZ (hw _ (own_w 98 rfl))) (mvT hZ (hw _ (own_w 197 rfl))) (by decide) (backOf (W := 0) (own_can l Z a0 hw [] (110 : Int32) (110 : Int32) h8 n0 O (by decide)) hZ (hw _ (own_w 197 rfl)) (hw _ (own_w 98 rfl)) (by decide) (by decide)) (g := (mkF m 146 (own_A3 s1 va wL 0 12 wLG b4 2 110) [(.int 110)])) rfl (by rw [hml]; rfl) (argsL := [(.int 110)]) (rest := []) (lenOf own_pd14 rfl) rfl (by show 2 * 0 + _ ≤ _; exact Nat.le_of_eq rfl) (hb hby ej43m32_d146) (fun _ _ => ⟨rfl, eT, (by decide : 7 + 0 ≤ _), (by decide : 48 + 0 ≤ _)⟩)
  dsimp only [Pt.U, Pt.locs, Pt.cells, Pt.slots] at X lq yq zq st hQ
  rw [lq, yq, zq] at X
  obtain ⟨rfl, Nq, eT⟩ := hQ
  replace N := Fr.app N Nq
  refine own_via (g' := (mkF m 149 (own_A3 s1 va wL 0 12 wLG b4 2 110) [(.int 1)])) st ?_
  refine own_via (g' := (mkF m 168 (own_A3 s1 va wL 0 12 wLG b4 2 110) [(.int ((110 : Int32).toInt8.toInt32)), (.int 2), (.ref b4)])) (fun t_ k_ => XS.ifYes X.here hx rfl (pc0 := 149) (pc' := 161) rfl (hb hby ej43m32_d149) rfl ((if0 _ _).trans (feq (by decide : ¬ ((1 : Int32) = (0 : Int32)))).2) (by decide) (by decide) (XS.aload X.here hx rfl (hb hby ej43m32_d161) rfl rfl (XS.iload X.here hx rfl (hb hby ej43m32_d163) rfl (XS.iload X.here hx rfl (hb hby ej43m32_d165) rfl (XS.i2b X.here hx rfl (hb hby ej43m32_d167) rfl k_))))) ?_
  rw [(by decide : ((110 : Int32).toInt8.toInt32) = (110 : Int32))]
  obtain ⟨cl_, Ar_, qk_, Sz_, Nn_, Hs_, Gs_⟩ := id V_b4
  have hin_ : ¬ ((2 : Int32) < 0 ∨ cl_.slots.size ≤ ((2 : Int32)).toNatClampNeg) := inb_of Sz_ ⟨by decide, by decide⟩
  obtain ⟨T, h9, X, eT, W, st⟩ := stB X hx hZ eT Ar_ (j := (2 : Int32)) hin_ (g := (mkF m 168 (own_A3 s1 va wL 0 12 wLG b4 2 110) [(.int 110), (.int 2), (.ref b4)])) rfl rfl (hb hby ej43m32_d168)
  replace V_b4 : Arv Z h9 b4 kb4 .byte (12 : Int32) [(.int 99), (.int 111), (.int (((110 : Int32)).toInt8.toInt32)), (.int 0), (.int 0), (.int 0), (.int 0), (.int 0), (.int 0), (.int 0), (.int 0), (.int 0)] (.int 0) := Arv.set Ar_ qk_ Sz_ Nn_ Hs_ Gs_ (fits_nar_byte _) W 2 (by decide) (Nat.le_of_ble_eq_true rfl)
  have So := S_b4
  replace E_va := E_va.wr W
  replace V_va := V_va.other W ne_va_b4
  replace E_b4 := E_b4.wr W
  replace O := O.wr W g_b4
  replace K0 := K0.wr W (Or.inr sz_b4)
  replace N := Fr.snoc X N g_b4
  replace hk := Nat.le_trans hk (own_wrSz W)
  replace S_b4 := Safe.wr W So H.1 S_b4
  replace H := H.trans (CHr.wr W So H.1)
  refine own_via (g' := (mkF m 169 (own_A3 s1 va wL 0 12 wLG b4 2 110) [])) st ?_
  rw [(by decide : ((110 : Int32).toInt8.toInt32) = (110 : Int32))] at V_b4
  refine own_via (g' := (mkF m 172 (own_A3 s1 va wL 0 12 wLG b4 ((2 : Int32) + (1 : Int32)) 110) [])) (fun t_ k_ => XS.iinc X.here hx rfl (hb hby ej43m32_d169) rfl (l' := (own_A3 s1 va wL 0 12 wLG b4 ((2 : Int32) + (1 : Int32)) 110)) rfl k_) ?_
  rw [(by decide : ((2 : Int32) + (1 : Int32)) = (3 : Int32))]
  refine own_via (g' := (mkF m 127 (own_A3 s1 va wL 0 12 wLG b4 3 110) [(.int 3), (.ref va)])) (fun t_ k_ => XS.goto X.here hx rfl (pc0 := 172) (pc' := 117) rfl (hb hby ej43m32_d172) (by decide) (by decide) (XS.iload X.here hx rfl (hb hby ej43m32_d117) rfl (XS.iload X.here hx rfl (hb hby ej43m32_d119) rfl (XS.icmpNo X.here hx rfl (hb hby ej43m32_d121) rfl (tlt (by decide : (3 : Int32) < (12 : Int32))).2.1 (XS.aloadN X.here hx rfl (hb hby ej43m32_d124) rfl rfl (XS.iload X.here hx rfl (hb hby ej43m32_d125) rfl k_)))))) ?_
  obtain ⟨cl_, Ar_, -, Sz_, Nn_, Hs_, -⟩ := id V_va
  have hin_ : ¬ ((3 : Int32) < 0 ∨ cl_.slots.size ≤ ((3 : Int32)).toNatClampNeg) := inb_of Sz_ ⟨by decide, by decide⟩
  have hat_ : cl_.slots[((3 : Int32)).toNatClampNeg]? = some (.int 116) := Hs_.at hin_ rfl
  refine own_via (g' := (mkF m 132 (own_A3 s1 va wL 0 12 wLG b4 3 110) [(.int ((116 : Int32) &&& (255 : Int32)))])) (fun t_ k_ => X.baloadBytes hx (j := (3 : Int32)) (v := (.int 116)) (by rw [eT]; exact Ar_.1) (State.isArrayOf_alike hZ.alike Ar_.2.1) Ar_.2.2 hin_ hat_ (g := (mkF m 127 (own_A3 s1 va wL 0 12 wLG b4 3 110) [(.int 3), (.ref va)])) rfl rfl (hb hby ej43m32_d127) _ (XS.sipush X.here hx rfl (hb hby ej43m32_d128) (XS.iand X.here hx rfl (hb hby ej43m32_d131) rfl k_))) ?_
  rw [(by decide : ((116 : Int32) &&& (255 : Int32)) = (116 : Int32))]
  refine own_via (g' := (mkF m 134 (own_A3 s1 va wL 0 12 wLG b4 3 116) [])) (fun t_ k_ => XS.istore X.here hx rfl (hb hby ej43m32_d132) rfl (l' := (own_A3 s1 va wL 0 12 wLG b4 3 116)) rfl k_) ?_
  obtain ⟨T, X, eT, st⟩ := getS2 X hx hZ hown (host := "") (Or.inl (hw _ (own_w 100 rfl))) Via.refl eT (S_cd.ext O.2) (g := (mkF m 134 (own_A3 s1 va wL 0 12 wLG b4 3 116) [])) rfl (hb hby ej43m32_d134)
  refine own_via (g' := (mkF m 137 (own_A3 s1 va wL 0 12 wLG b4 3 116) [(.ref wCD)])) st ?_
  refine own_via (g' := (mkF m 139 (own_A3 s1 va wL 0 12 wLG b4 3 116) [(.int 116), (.ref wCD)])) (fun t_ k_ => XS.iload X.here hx rfl (hb hby ej43m32_d137) rfl k_) ?_
  obtain ⟨cq, kq, qa, qb, qc⟩ := isOf hZ eT (E_cd.ext O.2)
  obtain ⟨_, _, ⟨T, Lq, kq, nq⟩, -, X, ⟨Lc, hQ, lq, yq, zq⟩, st⟩ := X.virtualBack hx (y := own_y6) (z := own_y6) hown (mvT hZ (hw _ (own_w 102 rfl))) (mvT hZ (hw _ (own_w 103 rfl))) (notFace_of_selects (args := #[]) (mvT hZ (hw _ (own_w 105 rfl)))) (mvT hZ (hw _ (own_w 105 rfl))) (mvT hZ (hw _ (own_w 104 rfl))) (by decide) (backOf (W := 0) (own_tl l Z a0 hw [] wCD (116 : Int32) (116 : Int32) h9 n0 O (by decide)) hZ (hw _ (own_w 106 rfl)) (hw _ (own_w 101 rfl)) (by decide) (by decide)) qa qc (g := (mkF m 139 (own_A3 s1 va wL 0 12 wLG b4 3 116) [(.int 116), (.ref wCD)])) rfl (by rw [hml]; rfl) (Steps.refl _) (argsL := [(.int 116)]) (rest := []) (lenOf own_pd6 rfl) rfl (by show 2 * 0 + _ ≤ _; exact Nat.le_of_eq rfl) (hb hby ej43m32_d139) (fun _ _ => ⟨rfl, eT, (by decide : 7 + 0 ≤ _), (by decide : 48 + 0 ≤ _)⟩)
  dsimp only [Pt.U, Pt.locs, Pt.cells, Pt.slots] at X lq yq zq st hQ
  rw [lq, yq, zq] at X
  obtain ⟨rfl, Nq, eT⟩ := hQ
  replace N := Fr.app N Nq
  refine own_viaT (g' := (mkF m 142 (own_A3 s1 va wL 0 12 wLG b4 3 116) [(.int 116)])) st ?_
  refine own_via (g' := (mkF m 146 (own_A3 s1 va wL 0 12 wLG b4 3 116) [(.int 116)])) (fun t_ k_ => XS.istore X.here hx rfl (hb hby ej43m32_d142) rfl (l' := (own_A3 s1 va wL 0 12 wLG b4 3 116)) rfl (XS.iload X.here hx rfl (hb hby ej43m32_d144) rfl k_)) ?_
  obtain ⟨_, _, ⟨T, Lq, kq, nq⟩, -, X, ⟨Lc, hQ, lq, yq, zq⟩, st⟩ := Jvm.LawKit.callS X hx (y := own_y17) hown (mvT hZ (hw _ (own_w 195 rfl))) (mvT hZ (hw _ (own_w 196 rfl))) (mvT hZ (hw _ (own_w 98 rfl))) (mvT hZ (hw _ (own_w 197 rfl))) (by decide) (backOf (W := 0) (own_can l Z a0 hw [] (116 : Int32) (116 : Int32) h9 n0 O (by decide)) hZ (hw _ (own_w 197 rfl)) (hw _ (own_w 98 rfl)) (by decide) (by decide)) (g := (mkF m 146 (own_A3 s1 va wL 0 12 wLG b4 3 116) [(.int 116)])) rfl (by rw [hml]; rfl) (argsL := [(.int 116)]) (rest := []) (lenOf own_pd14 rfl) rfl (by show 2 * 0 + _ ≤ _; exact Nat.le_of_eq rfl) (hb hby ej43m32_d146) (fun _ _ => ⟨rfl, eT, (by decide : 7 + 0 ≤ _), (by decide : 48 + 0 ≤ _)⟩)
  dsimp only [Pt.U, Pt.locs, Pt.cells, Pt.slots] at X lq yq zq st hQ
  rw [lq, yq, zq] at X
  obtain ⟨rfl, Nq, eT⟩ := hQ
  replace N := Fr.app N Nq
  refine own_via (g' := (mkF m 149 (own_A3 s1 va wL 0 12 wLG b4 3 116) [(.int 1)])) st ?_
  refine own_via (g' := (mkF m 168 (own_A3 s1 va wL 0 12 wLG b4 3 116) [(.int ((116 : Int32).toInt8.toInt32)), (.int 3), (.ref b4)])) (fun t_ k_ => XS.ifYes X.here hx rfl (pc0 := 149) (pc' := 161) rfl (hb hby ej43m32_d149) rfl ((if0 _ _).trans (feq (by decide : ¬ ((1 : Int32) = (0 : Int32)))).2) (by decide) (by decide) (XS.aload X.here hx rfl (hb hby ej43m32_d161) rfl rfl (XS.iload X.here hx rfl (hb hby ej43m32_d163) rfl (XS.iload X.here hx rfl (hb hby ej43m32_d165) rfl (XS.i2b X.here hx rfl (hb hby ej43m32_d167) rfl k_))))) ?_
  rw [(by decide : ((116 : Int32).toInt8.toInt32) = (116 : Int32))]
  obtain ⟨cl_, Ar_, qk_, Sz_, Nn_, Hs_, Gs_⟩ := id V_b4
  have hin_ : ¬ ((3 : Int32) < 0 ∨ cl_.slots.size ≤ ((3 : Int32)).toNatClampNeg) := inb_of Sz_ ⟨by decide, by decide⟩
  obtain ⟨T, h10, X, eT, W, st⟩ := stB X hx hZ eT Ar_ (j := (3 : Int32)) hin_ (g := (mkF m 168 (own_A3 s1 va wL 0 12 wLG b4 3 116) [(.int 116), (.int 3), (.ref b4)])) rfl rfl (hb hby ej43m32_d168)
  replace V_b4 : Arv Z h10 b4 kb4 .byte (12 : Int32) [(.int 99), (.int 111), (.int 110), (.int (((116 : Int32)).toInt8.toInt32)), (.int 0), (.int 0), (.int 0), (.int 0), (.int 0), (.int 0), (.int 0), (.int 0)] (.int 0) := Arv.set Ar_ qk_ Sz_ Nn_ Hs_ Gs_ (fits_nar_byte _) W 3 (by decide) (Nat.le_of_ble_eq_true rfl)
  have So := S_b4
  replace E_va := E_va.wr W
  replace V_va := V_va.other W ne_va_b4
  replace E_b4 := E_b4.wr W
  replace O := O.wr W g_b4
  replace K0 := K0.wr W (Or.inr sz_b4)
  replace N := Fr.snoc X N g_b4
  replace hk := Nat.le_trans hk (own_wrSz W)
  replace S_b4 := Safe.wr W So H.1 S_b4
  replace H := H.trans (CHr.wr W So H.1)
  refine own_via (g' := (mkF m 169 (own_A3 s1 va wL 0 12 wLG b4 3 116) [])) st ?_
  rw [(by decide : ((116 : Int32).toInt8.toInt32) = (116 : Int32))] at V_b4
  refine own_via (g' := (mkF m 172 (own_A3 s1 va wL 0 12 wLG b4 ((3 : Int32) + (1 : Int32)) 116) [])) (fun t_ k_ => XS.iinc X.here hx rfl (hb hby ej43m32_d169) rfl (l' := (own_A3 s1 va wL 0 12 wLG b4 ((3 : Int32) + (1 : Int32)) 116)) rfl k_) ?_
  rw [(by decide : ((3 : Int32) + (1 : Int32)) = (4 : Int32))]
  refine own_via (g' := (mkF m 127 (own_A3 s1 va wL 0 12 wLG b4 4 116) [(.int 4), (.ref va)])) (fun t_ k_ => XS.goto X.here hx rfl (pc0 := 172) (pc' := 117) rfl (hb hby ej43m32_d172) (by decide) (by decide) (XS.iload X.here hx rfl (hb hby ej43m32_d117) rfl (XS.iload X.here hx rfl (hb hby ej43m32_d119) rfl (XS.icmpNo X.here hx rfl (hb hby ej43m32_d121) rfl (tlt (by decide : (4 : Int32) < (12 : Int32))).2.1 (XS.aloadN X.here hx rfl (hb hby ej43m32_d124) rfl rfl (XS.iload X.here hx rfl (hb hby ej43m32_d125) rfl k_)))))) ?_
  obtain ⟨cl_, Ar_, -, Sz_, Nn_, Hs_, -⟩ := id V_va
  have hin_ : ¬ ((4 : Int32) < 0 ∨ cl_.slots.size ≤ ((4 : Int32)).toNatClampNeg) := inb_of Sz_ ⟨by decide, by decide⟩
  have hat_ : cl_.slots[((4 : Int32)).toNatClampNeg]? = some (.int 101) := Hs_.at hin_ rfl
  refine own_via (g' := (mkF m 132 (own_A3 s1 va wL 0 12 wLG b4 4 116) [(.int ((101 : Int32) &&& (255 : Int32)))])) (fun t_ k_ => X.baloadBytes hx (j := (4 : Int32)) (v := (.int 101)) (by rw [eT]; exact Ar_.1) (State.isArrayOf_alike hZ.alike Ar_.2.1) Ar_.2.2 hin_ hat_ (g := (mkF m 127 (own_A3 s1 va wL 0 12 wLG b4 4 116) [(.int 4), (.ref va)])) rfl rfl (hb hby ej43m32_d127) _ (XS.sipush X.here hx rfl (hb hby ej43m32_d128) (XS.iand X.here hx rfl (hb hby ej43m32_d131) rfl k_))) ?_
  rw [(by decide : ((101 : Int32) &&& (255 : Int32)) = (101 : Int32))]
  refine own_via (g' := (mkF m 134 (own_A3 s1 va wL 0 12 wLG b4 4 101) [])) (fun t_ k_ => XS.istore X.here hx rfl (hb hby ej43m32_d132) rfl (l' := (own_A3 s1 va wL 0 12 wLG b4 4 101)) rfl k_) ?_
  obtain ⟨T, X, eT, st⟩ := getS2 X hx hZ hown (host := "") (Or.inl (hw _ (own_w 100 rfl))) Via.refl eT (S_cd.ext O.2) (g := (mkF m 134 (own_A3 s1 va wL 0 12 wLG b4 4 101) [])) rfl (hb hby ej43m32_d134)
  refine own_via (g' := (mkF m 137 (own_A3 s1 va wL 0 12 wLG b4 4 101) [(.ref wCD)])) st ?_
  refine own_via (g' := (mkF m 139 (own_A3 s1 va wL 0 12 wLG b4 4 101) [(.int 101), (.ref wCD)])) (fun t_ k_ => XS.iload X.here hx rfl (hb hby ej43m32_d137) rfl k_) ?_
  obtain ⟨cq, kq, qa, qb, qc⟩ := isOf hZ eT (E_cd.ext O.2)
  obtain ⟨_, _, ⟨T, Lq, kq, nq⟩, -, X, ⟨Lc, hQ, lq, yq, zq⟩, st⟩ := X.virtualBack hx (y := own_y6) (z := own_y6) hown (mvT hZ (hw _ (own_w 102 rfl))) (mvT hZ (hw _ (own_w 103 rfl))) (notFace_of_selects (args := #[]) (mvT hZ (hw _ (own_w 105 rfl)))) (mvT hZ (hw _ (own_w 105 rfl))) (mvT hZ (hw _ (own_w 104 rfl))) (by decide) (backOf (W := 0) (own_tl l Z a0 hw [] wCD (101 : Int32) (101 : Int32) h10 n0 O (by decide)) hZ (hw _ (own_w 106 rfl)) (hw _ (own_w 101 rfl)) (by decide) (by decide)) qa qc (g := (mkF m 139 (own_A3 s1 va wL 0 12 wLG b4 4 101) [(.int 101), (.ref wCD)])) rfl (by rw [hml]; rfl) (Steps.refl _) (argsL := [(.int 101)]) (rest := []) (lenOf own_pd6 rfl) rfl (by show 2 * 0 + _ ≤ _; exact Nat.le_of_eq rfl) (hb hby ej43m32_d139) (fun _ _ => ⟨rfl, eT, (by decide : 7 + 0 ≤ _), (by decide : 48 + 0 ≤ _)⟩)
  dsimp only [Pt.U, Pt.locs, Pt.cells, Pt.slots] at X lq yq zq st hQ
  rw [lq, yq, zq] at X
  obtain ⟨rfl, Nq, eT⟩ := hQ
  replace N := Fr.app N Nq
  refine own_viaT (g' := (mkF m 142 (own_A3 s1 va wL 0 12 wLG b4 4 101) [(.int 101)])) st ?_
  refine own_via (g' := (mkF m 146 (own_A3 s1 va wL 0 12 wLG b4 4 101) [(.int 101)])) (fun t_ k_ => XS.istore X.here hx rfl (hb hby ej43m32_d142) rfl (l' := (own_A3 s1 va wL 0 12 wLG b4 4 101)) rfl (XS.iload X.here hx rfl (hb hby ej43m32_d144) rfl k_)) ?_
  obtain ⟨_, _, ⟨T, Lq, kq, nq⟩, -, X, ⟨Lc, hQ, lq, yq, zq⟩, st⟩ := Jvm.LawKit.callS X hx (y := own_y17) hown (mvT hZ (hw _ (own_w 195 rfl))) (mvT hZ (hw _ (own_w 196 rfl))) (mvT hZ (hw _ (own_w 98 rfl))) (mvT hZ (hw _ (own_w 197 rfl))) (by decide) (backOf (W := 0) (own_can l Z a0 hw [] (101 : Int32) (101 : Int32) h10 n0 O (by decide)) hZ (hw _ (own_w 197 rfl)) (hw _ (own_w 98 rfl)) (by decide) (by decide)) (g := (mkF m 146 (own_A3 s1 va wL 0 12 wLG b4 4 101) [(.int 101)])) rfl (by rw [hml]; rfl) (argsL := [(.int 101)]) (rest := []) (lenOf own_pd14 rfl) rfl (by show 2 * 0 + _ ≤ _; exact Nat.le_of_eq rfl) (hb hby ej43m32_d146) (fun _ _ => ⟨rfl, eT, (by decide : 7 + 0 ≤ _), (by decide : 48 + 0 ≤ _)⟩)
  dsimp only [Pt.U, Pt.locs, Pt.cells, Pt.slots] at X lq yq zq st hQ
  rw [lq, yq, zq] at X
  obtain ⟨rfl, Nq, eT⟩ := hQ
  replace N := Fr.app N Nq
  refine own_via (g' := (mkF m 149 (own_A3 s1 va wL 0 12 wLG b4 4 101) [(.int 1)])) st ?_
  refine own_via (g' := (mkF m 168 (own_A3 s1 va wL 0 12 wLG b4 4 101) [(.int ((101 : Int32).toInt8.toInt32)), (.int 4), (.ref b4)])) (fun t_ k_ => XS.ifYes X.here hx rfl (pc0 := 149) (pc' := 161) rfl (hb hby ej43m32_d149) rfl ((if0 _ _).trans (feq (by decide : ¬ ((1 : Int32) = (0 : Int32)))).2) (by decide) (by decide) (XS.aload X.here hx rfl (hb hby ej43m32_d161) rfl rfl (XS.iload X.here hx rfl (hb hby ej43m32_d163) rfl (XS.iload X.here hx rfl (hb hby ej43m32_d165) rfl (XS.i2b X.here hx rfl (hb hby ej43m32_d167) rfl k_))))) ?_
  rw [(by decide : ((101 : Int32).toInt8.toInt32) = (101 : Int32))]
  obtain ⟨cl_, Ar_, qk_, Sz_, Nn_, Hs_, Gs_⟩ := id V_b4
  have hin_ : ¬ ((4 : Int32) < 0 ∨ cl_.slots.size ≤ ((4 : Int32)).toNatClampNeg) := inb_of Sz_ ⟨by decide, by decide⟩
  obtain ⟨T, h11, X, eT, W, st⟩ := stB X hx hZ eT Ar_ (j := (4 : Int32)) hin_ (g := (mkF m 168 (own_A3 s1 va wL 0 12 wLG b4 4 101) [(.int 101), (.int 4), (.ref b4)])) rfl rfl (hb hby ej43m32_d168)
  replace V_b4 : Arv Z h11 b4 kb4 .byte (12 : Int32) [(.int 99), (.int 111), (.int 110), (.int 116), (.int (((101 : Int32)).toInt8.toInt32)), (.int 0), (.int 0), (.int 0), (.int 0), (.int 0), (.int 0), (.int 0)] (.int 0) := Arv.set Ar_ qk_ Sz_ Nn_ Hs_ Gs_ (fits_nar_byte _) W 4 (by decide) (Nat.le_of_ble_eq_true rfl)
  have So := S_b4
  replace E_va := E_va.wr W
  replace V_va := V_va.other W ne_va_b4
  replace E_b4 := E_b4.wr W
  replace O := O.wr W g_b4
  replace K0 := K0.wr W (Or.inr sz_b4)
  replace N := Fr.snoc X N g_b4
  replace hk := Nat.le_trans hk (own_wrSz W)
  replace S_b4 := Safe.wr W So H.1 S_b4
  replace H := H.trans (CHr.wr W So H.1)
  refine own_via (g' := (mkF m 169 (own_A3 s1 va wL 0 12 wLG b4 4 101) [])) st ?_
  rw [(by decide : ((101 : Int32).toInt8.toInt32) = (101 : Int32))] at V_b4
  refine own_via (g' := (mkF m 172 (own_A3 s1 va wL 0 12 wLG b4 ((4 : Int32) + (1 : Int32)) 101) [])) (fun t_ k_ => XS.iinc X.here hx rfl (hb hby ej43m32_d169) rfl (l' := (own_A3 s1 va wL 0 12 wLG b4 ((4 : Int32) + (1 : Int32)) 101)) rfl k_) ?_
  rw [(by decide : ((4 : Int32) + (1 : Int32)) = (5 : Int32))]
  refine own_via (g' := (mkF m 127 (own_A3 s1 va wL 0 12 wLG b4 5 101) [(.int 5), (.ref va)])) (fun t_ k_ => XS.goto X.here hx rfl (pc0 := 172) (pc' := 117) rfl (hb hby ej43m32_d172) (by decide) (by decide) (XS.iload X.here hx rfl (hb hby ej43m32_d117) rfl (XS.iload X.here hx rfl (hb hby ej43m32_d119) rfl (XS.icmpNo X.here hx rfl (hb hby ej43m32_d121) rfl (tlt (by decide : (5 : Int32) < (12 : Int32))).2.1 (XS.aloadN X.here hx rfl (hb hby ej43m32_d124) rfl rfl (XS.iload X.here hx rfl (hb hby ej43m32_d125) rfl k_)))))) ?_
  obtain ⟨cl_, Ar_, -, Sz_, Nn_, Hs_, -⟩ := id V_va
  have hin_ : ¬ ((5 : Int32) < 0 ∨ cl_.slots.size ≤ ((5 : Int32)).toNatClampNeg) := inb_of Sz_ ⟨by decide, by decide⟩
  have hat_ : cl_.slots[((5 : Int32)).toNatClampNeg]? = some (.int 110) := Hs_.at hin_ rfl
  refine own_via (g' := (mkF m 132 (own_A3 s1 va wL 0 12 wLG b4 5 101) [(.int ((110 : Int32) &&& (255 : Int32)))])) (fun t_ k_ => X.baloadBytes hx (j := (5 : Int32)) (v := (.int 110)) (by rw [eT]; exact Ar_.1) (State.isArrayOf_alike hZ.alike Ar_.2.1) Ar_.2.2 hin_ hat_ (g := (mkF m 127 (own_A3 s1 va wL 0 12 wLG b4 5 101) [(.int 5), (.ref va)])) rfl rfl (hb hby ej43m32_d127) _ (XS.sipush X.here hx rfl (hb hby ej43m32_d128) (XS.iand X.here hx rfl (hb hby ej43m32_d131) rfl k_))) ?_
  rw [(by decide : ((110 : Int32) &&& (255 : Int32)) = (110 : Int32))]
  refine own_via (g' := (mkF m 134 (own_A3 s1 va wL 0 12 wLG b4 5 110) [])) (fun t_ k_ => XS.istore X.here hx rfl (hb hby ej43m32_d132) rfl (l' := (own_A3 s1 va wL 0 12 wLG b4 5 110)) rfl k_) ?_
  obtain ⟨T, X, eT, st⟩ := getS2 X hx hZ hown (host := "") (Or.inl (hw _ (own_w 100 rfl))) Via.refl eT (S_cd.ext O.2) (g := (mkF m 134 (own_A3 s1 va wL 0 12 wLG b4 5 110) [])) rfl (hb hby ej43m32_d134)
  refine own_via (g' := (mkF m 137 (own_A3 s1 va wL 0 12 wLG b4 5 110) [(.ref wCD)])) st ?_
  refine own_via (g' := (mkF m 139 (own_A3 s1 va wL 0 12 wLG b4 5 110) [(.int 110), (.ref wCD)])) (fun t_ k_ => XS.iload X.here hx rfl (hb hby ej43m32_d137) rfl k_) ?_
  obtain ⟨cq, kq, qa, qb, qc⟩ := isOf hZ eT (E_cd.ext O.2)
  obtain ⟨_, _, ⟨T, Lq, kq, nq⟩, -, X, ⟨Lc, hQ, lq, yq, zq⟩, st⟩ := X.virtualBack hx (y := own_y6) (z := own_y6) hown (mvT hZ (hw _ (own_w 102 rfl))) (mvT hZ (hw _ (own_w 103 rfl))) (notFace_of_selects (args := #[]) (mvT hZ (hw _ (own_w 105 rfl)))) (mvT hZ (hw _ (own_w 105 rfl))) (mvT hZ (hw _ (own_w 104 rfl))) (by decide) (backOf (W := 0) (own_tl l Z a0 hw [] wCD (110 : Int32) (110 : Int32) h11 n0 O (by decide)) hZ (hw _ (own_w 106 rfl)) (hw _ (own_w 101 rfl)) (by decide) (by decide)) qa qc (g := (mkF m 139 (own_A3 s1 va wL 0 12 wLG b4 5 110) [(.int 110), (.ref wCD)])) rfl (by rw [hml]; rfl) (Steps.refl _) (argsL := [(.int 110)]) (rest := []) (lenOf own_pd6 rfl) rfl (by show 2 * 0 + _ ≤ _; exact Nat.le_of_eq rfl) (hb hby ej43m32_d139) (fun _ _ => ⟨rfl, eT, (by decide : 7 + 0 ≤ _), (by decide : 48 + 0 ≤ _)⟩)
  dsimp only [Pt.U, Pt.locs, Pt.cells, Pt.slots] at X lq yq zq st hQ
  rw [lq, yq, zq] at X
  obtain ⟨rfl, Nq, eT⟩ := hQ
  replace N := Fr.app N Nq
  refine own_viaT (g' := (mkF m 142 (own_A3 s1 va wL 0 12 wLG b4 5 110) [(.int 110)])) st ?_
  refine own_via (g' := (mkF m 146 (own_A3 s1 va wL 0 12 wLG b4 5 110) [(.int 110)])) (fun t_ k_ => XS.istore X.here hx rfl (hb hby ej43m32_d142) rfl (l' := (own_A3 s1 va wL 0 12 wLG b4 5 110)) rfl (XS.iload X.here hx rfl (hb hby ej43m32_d144) rfl k_)) ?_
  obtain ⟨_, _, ⟨T, Lq, kq, nq⟩, -, X, ⟨Lc, hQ, lq, yq, zq⟩, st⟩ := Jvm.LawKit.callS X hx (y := own_y17) hown (mvT hZ (hw _ (own_w 195 rfl))) (mvT hZ (hw _ (own_w 196 rfl))) (mvT hZ (hw _ (own_w 98 rfl))) (mvT hZ (hw _ (own_w 197 rfl))) (by decide) (backOf (W := 0) (own_can l Z a0 hw [] (110 : Int32) (110 : Int32) h11 n0 O (by decide)) hZ (hw _ (own_w 197 rfl)) (hw _ (own_w 98 rfl)) (by decide) (by decide)) (g := (mkF m 146 (own_A3 s1 va wL 0 12 wLG b4 5 110) [(.int 110)])) rfl (by rw [hml]; rfl) (argsL := [(.int 110)]) (rest := []) (lenOf own_pd14 rfl) rfl (by show 2 * 0 + _ ≤ _; exact Nat.le_of_eq rfl) (hb hby ej43m32_d146) (fun _ _ => ⟨rfl, eT, (by decide : 7 + 0 ≤ _), (by decide : 48 + 0 ≤ _)⟩)
  dsimp only [Pt.U, Pt.locs, Pt.cells, Pt.slots] at X lq yq zq st hQ
  rw [lq, yq, zq] at X
  obtain ⟨rfl, Nq, eT⟩ := hQ
  replace N := Fr.app N Nq
  refine own_via (g' := (mkF m 149 (own_A3 s1 va wL 0 12 wLG b4 5 110) [(.int 1)])) st ?_
  refine own_via (g' := (mkF m 168 (own_A3 s1 va wL 0 12 wLG b4 5 110) [(.int ((110 : Int32).toInt8.toInt32)), (.int 5), (.ref b4)])) (fun t_ k_ => XS.ifYes X.here hx rfl (pc0 := 149) (pc' := 161) rfl (hb hby ej43m32_d149) rfl ((if0 _ _).trans (feq (by decide : ¬ ((1 : Int32) = (0 : Int32)))).2) (by decide) (by decide) (XS.aload X.here hx rfl (hb hby ej43m32_d161) rfl rfl (XS.iload X.here hx rfl (hb hby ej43m32_d163) rfl (XS.iload X.here hx rfl (hb hby ej43m32_d165) rfl (XS.i2b X.here hx rfl (hb hby ej43m32_d167) rfl k_))))) ?_
  rw [(by decide : ((110 : Int32).toInt8.toInt32) = (110 : Int32))]
  obtain ⟨cl_, Ar_, qk_, Sz_, Nn_, Hs_, Gs_⟩ := id V_b4
  have hin_ : ¬ ((5 : Int32) < 0 ∨ cl_.slots.size ≤ ((5 : Int32)).toNatClampNeg) := inb_of Sz_ ⟨by decide, by decide⟩
  obtain ⟨T, h12, X, eT, W, st⟩ := stB X hx hZ eT Ar_ (j := (5 : Int32)) hin_ (g := (mkF m 168 (own_A3 s1 va wL 0 12 wLG b4 5 110) [(.int 110), (.int 5), (.ref b4)])) rfl rfl (hb hby ej43m32_d168)
  replace V_b4 : Arv Z h12 b4 kb4 .byte (12 : Int32) [(.int 99), (.int 111), (.int 110), (.int 116), (.int 101), (.int (((110 : Int32)).toInt8.toInt32)), (.int 0), (.int 0), (.int 0), (.int 0), (.int 0), (.int 0)] (.int 0) := Arv.set Ar_ qk_ Sz_ Nn_ Hs_ Gs_ (fits_nar_byte _) W 5 (by decide) (Nat.le_of_ble_eq_true rfl)
  have So := S_b4
  replace E_va := E_va.wr W
  replace V_va := V_va.other W ne_va_b4
  replace E_b4 := E_b4.wr W
  replace O := O.wr W g_b4
  replace K0 := K0.wr W (Or.inr sz_b4)
  replace N := Fr.snoc X N g_b4
  replace hk := Nat.le_trans hk (own_wrSz W)
  replace S_b4 := Safe.wr W So H.1 S_b4
  replace H := H.trans (CHr.wr W So H.1)
  refine own_via (g' := (mkF m 169 (own_A3 s1 va wL 0 12 wLG b4 5 110) [])) st ?_
  rw [(by decide : ((110 : Int32).toInt8.toInt32) = (110 : Int32))] at V_b4
  refine own_via (g' := (mkF m 172 (own_A3 s1 va wL 0 12 wLG b4 ((5 : Int32) + (1 : Int32)) 110) [])) (fun t_ k_ => XS.iinc X.here hx rfl (hb hby ej43m32_d169) rfl (l' := (own_A3 s1 va wL 0 12 wLG b4 ((5 : Int32) + (1 : Int32)) 110)) rfl k_) ?_
  rw [(by decide : ((5 : Int32) + (1 : Int32)) = (6 : Int32))]
  refine own_via (g' := (mkF m 127 (own_A3 s1 va wL 0 12 wLG b4 6 110) [(.int 6), (.ref va)])) (fun t_ k_ => XS.goto X.here hx rfl (pc0 := 172) (pc' := 117) rfl (hb hby ej43m32_d172) (by decide) (by decide) (XS.iload X.here hx rfl (hb hby ej43m32_d117) rfl (XS.iload X.here hx rfl (hb hby ej43m32_d119) rfl (XS.icmpNo X.here hx rfl (hb hby ej43m32_d121) rfl (tlt (by decide : (6 : Int32) < (12 : Int32))).2.1 (XS.aloadN X.here hx rfl (hb hby ej43m32_d124) rfl rfl (XS.iload X.here hx rfl (hb hby ej43m32_d125) rfl k_)))))) ?_
  obtain ⟨cl_, Ar_, -, Sz_, Nn_, Hs_, -⟩ := id V_va
  have hin_ : ¬ ((6 : Int32) < 0 ∨ cl_.slots.size ≤ ((6 : Int32)).toNatClampNeg) := inb_of Sz_ ⟨by decide, by decide⟩
  have hat_ : cl_.slots[((6 : Int32)).toNatClampNeg]? = some (.int 116) := Hs_.at hin_ rfl
  refine own_via (g' := (mkF m 132 (own_A3 s1 va wL 0 12 wLG b4 6 110) [(.int ((116 : Int32) &&& (255 : Int32)))])) (fun t_ k_ => X.baloadBytes hx (j := (6 : Int32)) (v := (.int 116)) (by rw [eT]; exact Ar_.1) (State.isArrayOf_alike hZ.alike Ar_.2.1) Ar_.2.2 hin_ hat_ (g := (mkF m 127 (own_A3 s1 va wL 0 12 wLG b4 6 110) [(.int 6), (.ref va)])) rfl rfl (hb hby ej43m32_d127) _ (XS.sipush X.here hx rfl (hb hby ej43m32_d128) (XS.iand X.here hx rfl (hb hby ej43m32_d131) rfl k_))) ?_
  rw [(by decide : ((116 : Int32) &&& (255 : Int32)) = (116 : Int32))]
  refine own_via (g' := (mkF m 134 (own_A3 s1 va wL 0 12 wLG b4 6 116) [])) (fun t_ k_ => XS.istore X.here hx rfl (hb hby ej43m32_d132) rfl (l' := (own_A3 s1 va wL 0 12 wLG b4 6 116)) rfl k_) ?_
  obtain ⟨T, X, eT, st⟩ := getS2 X hx hZ hown (host := "") (Or.inl (hw _ (own_w 100 rfl))) Via.refl eT (S_cd.ext O.2) (g := (mkF m 134 (own_A3 s1 va wL 0 12 wLG b4 6 116) [])) rfl (hb hby ej43m32_d134)
  refine own_via (g' := (mkF m 137 (own_A3 s1 va wL 0 12 wLG b4 6 116) [(.ref wCD)])) st ?_
  refine own_via (g' := (mkF m 139 (own_A3 s1 va wL 0 12 wLG b4 6 116) [(.int 116), (.ref wCD)])) (fun t_ k_ => XS.iload X.here hx rfl (hb hby ej43m32_d137) rfl k_) ?_
  obtain ⟨cq, kq, qa, qb, qc⟩ := isOf hZ eT (E_cd.ext O.2)
  obtain ⟨_, _, ⟨T, Lq, kq, nq⟩, -, X, ⟨Lc, hQ, lq, yq, zq⟩, st⟩ := X.virtualBack hx (y := own_y6) (z := own_y6) hown (mvT hZ (hw _ (own_w 102 rfl))) (mvT hZ (hw _ (own_w 103 rfl))) (notFace_of_selects (args := #[]) (mvT hZ (hw _ (own_w 105 rfl)))) (mvT hZ (hw _ (own_w 105 rfl))) (mvT hZ (hw _ (own_w 104 rfl))) (by decide) (backOf (W := 0) (own_tl l Z a0 hw [] wCD (116 : Int32) (116 : Int32) h12 n0 O (by decide)) hZ (hw _ (own_w 106 rfl)) (hw _ (own_w 101 rfl)) (by decide) (by decide)) qa qc (g := (mkF m 139 (own_A3 s1 va wL 0 12 wLG b4 6 116) [(.int 116), (.ref wCD)])) rfl (by rw [hml]; rfl) (Steps.refl _) (argsL := [(.int 116)]) (rest := []) (lenOf own_pd6 rfl) rfl (by show 2 * 0 + _ ≤ _; exact Nat.le_of_eq rfl) (hb hby ej43m32_d139) (fun _ _ => ⟨rfl, eT, (by decide : 7 + 0 ≤ _), (by decide : 48 + 0 ≤ _)⟩)
  dsimp only [Pt.U, Pt.locs, Pt.cells, Pt.slots] at X lq yq zq st hQ
  rw [lq, yq, zq] at X
  obtain ⟨rfl, Nq, eT⟩ := hQ
  replace N := Fr.app N Nq
  refine own_viaT (g' := (mkF m 142 (own_A3 s1 va wL 0 12 wLG b4 6 116) [(.int 116)])) st ?_
  refine own_via (g' := (mkF m 146 (own_A3 s1 va wL 0 12 wLG b4 6 116) [(.int 116)])) (fun t_ k_ => XS.istore X.here hx rfl (hb hby ej43m32_d142) rfl (l' := (own_A3 s1 va wL 0 12 wLG b4 6 116)) rfl (XS.iload X.here hx rfl (hb hby ej43m32_d144) rfl k_)) ?_
  obtain ⟨_, _, ⟨T, Lq, kq, nq⟩, -, X, ⟨Lc, hQ, lq, yq, zq⟩, st⟩ := Jvm.LawKit.callS X hx (y := own_y17) hown (mvT hZ (hw _ (own_w 195 rfl))) (mvT hZ (hw _ (own_w 196 rfl))) (mvT hZ (hw _ (own_w 98 rfl))) (mvT hZ (hw _ (own_w 197 rfl))) (by decide) (backOf (W := 0) (own_can l Z a0 hw [] (116 : Int32) (116 : Int32) h12 n0 O (by decide)) hZ (hw _ (own_w 197 rfl)) (hw _ (own_w 98 rfl)) (by decide) (by decide)) (g := (mkF m 146 (own_A3 s1 va wL 0 12 wLG b4 6 116) [(.int 116)])) rfl (by rw [hml]; rfl) (argsL := [(.int 116)]) (rest := []) (lenOf own_pd14 rfl) rfl (by show 2 * 0 + _ ≤ _; exact Nat.le_of_eq rfl) (hb hby ej43m32_d146) (fun _ _ => ⟨rfl, eT, (by decide : 7 + 0 ≤ _), (by decide : 48 + 0 ≤ _)⟩)
  dsimp only [Pt.U, Pt.locs, Pt.cells, Pt.slots] at X lq yq zq st hQ
  rw [lq, yq, zq] at X
  obtain ⟨rfl, Nq, eT⟩ := hQ
  replace N := Fr.app N Nq
  refine own_via (g' := (mkF m 149 (own_A3 s1 va wL 0 12 wLG b4 6 116) [(.int 1)])) st ?_
  refine own_via (g' := (mkF m 168 (own_A3 s1 va wL 0 12 wLG b4 6 116) [(.int ((116 : Int32).toInt8.toInt32)), (.int 6), (.ref b4)])) (fun t_ k_ => XS.ifYes X.here hx rfl (pc0 := 149) (pc' := 161) rfl (hb hby ej43m32_d149) rfl ((if0 _ _).trans (feq (by decide : ¬ ((1 : Int32) = (0 : Int32)))).2) (by decide) (by decide) (XS.aload X.here hx rfl (hb hby ej43m32_d161) rfl rfl (XS.iload X.here hx rfl (hb hby ej43m32_d163) rfl (XS.iload X.here hx rfl (hb hby ej43m32_d165) rfl (XS.i2b X.here hx rfl (hb hby ej43m32_d167) rfl k_))))) ?_
  rw [(by decide : ((116 : Int32).toInt8.toInt32) = (116 : Int32))]
  obtain ⟨cl_, Ar_, qk_, Sz_, Nn_, Hs_, Gs_⟩ := id V_b4
  have hin_ : ¬ ((6 : Int32) < 0 ∨ cl_.slots.size ≤ ((6 : Int32)).toNatClampNeg) := inb_of Sz_ ⟨by decide, by decide⟩
  obtain ⟨T, h13, X, eT, W, st⟩ := stB X hx hZ eT Ar_ (j := (6 : Int32)) hin_ (g := (mkF m 168 (own_A3 s1 va wL 0 12 wLG b4 6 116) [(.int 116), (.int 6), (.ref b4)])) rfl rfl (hb hby ej43m32_d168)
  replace V_b4 : Arv Z h13 b4 kb4 .byte (12 : Int32) [(.int 99), (.int 111), (.int 110), (.int 116), (.int 101), (.int 110), (.int (((116 : Int32)).toInt8.toInt32)), (.int 0), (.int 0), (.int 0), (.int 0), (.int 0)] (.int 0) := Arv.set Ar_ qk_ Sz_ Nn_ Hs_ Gs_ (fits_nar_byte _) W 6 (by decide) (Nat.le_of_ble_eq_true rfl)
  have So := S_b4
  replace E_va := E_va.wr W
  replace V_va := V_va.other W ne_va_b4
  replace E_b4 := E_b4.wr W
  replace O := O.wr W g_b4
  replace K0 := K0.wr W (Or.inr sz_b4)
  replace N := Fr.snoc X N g_b4
  replace hk := Nat.le_trans hk (own_wrSz W)
  replace S_b4 := Safe.wr W So H.1 S_b4
  replace H := H.trans (CHr.wr W So H.1)
  refine own_via (g' := (mkF m 169 (own_A3 s1 va wL 0 12 wLG b4 6 116) [])) st ?_
  rw [(by decide : ((116 : Int32).toInt8.toInt32) = (116 : Int32))] at V_b4
  refine own_via (g' := (mkF m 172 (own_A3 s1 va wL 0 12 wLG b4 ((6 : Int32) + (1 : Int32)) 116) [])) (fun t_ k_ => XS.iinc X.here hx rfl (hb hby ej43m32_d169) rfl (l' := (own_A3 s1 va wL 0 12 wLG b4 ((6 : Int32) + (1 : Int32)) 116)) rfl k_) ?_
  rw [(by decide : ((6 : Int32) + (1 : Int32)) = (7 : Int32))]
  refine own_via (g' := (mkF m 127 (own_A3 s1 va wL 0 12 wLG b4 7 116) [(.int 7), (.ref va)])) (fun t_ k_ => XS.goto X.here hx rfl (pc0 := 172) (pc' := 117) rfl (hb hby ej43m32_d172) (by decide) (by decide) (XS.iload X.here hx rfl (hb hby ej43m32_d117) rfl (XS.iload X.here hx rfl (hb hby ej43m32_d119) rfl (XS.icmpNo X.here hx rfl (hb hby ej43m32_d121) rfl (tlt (by decide : (7 : Int32) < (12 : Int32))).2.1 (XS.aloadN X.here hx rfl (hb hby ej43m32_d124) rfl rfl (XS.iload X.here hx rfl (hb hby ej43m32_d125) rfl k_)))))) ?_
  obtain ⟨cl_, Ar_, -, Sz_, Nn_, Hs_, -⟩ := id V_va
  have hin_ : ¬ ((7 : Int32) < 0 ∨ cl_.slots.size ≤ ((7 : Int32)).toNatClampNeg) := inb_of Sz_ ⟨by decide, by decide⟩
  have hat_ : cl_.slots[((7 : Int32)).toNatClampNeg]? = some (.int 45) := Hs_.at hin_ rfl
  refine own_via (g' := (mkF m 132 (own_A3 s1 va wL 0 12 wLG b4 7 116) [(.int ((45 : Int32) &&& (255 : Int32)))])) (fun t_ k_ => X.baloadBytes hx (j := (7 : Int32)) (v := (.int 45)) (by rw [eT]; exact Ar_.1) (State.isArrayOf_alike hZ.alike Ar_.2.1) Ar_.2.2 hin_ hat_ (g := (mkF m 127 (own_A3 s1 va wL 0 12 wLG b4 7 116) [(.int 7), (.ref va)])) rfl rfl (hb hby ej43m32_d127) _ (XS.sipush X.here hx rfl (hb hby ej43m32_d128) (XS.iand X.here hx rfl (hb hby ej43m32_d131) rfl k_))) ?_
  rw [(by decide : ((45 : Int32) &&& (255 : Int32)) = (45 : Int32))]
  refine own_via (g' := (mkF m 134 (own_A3 s1 va wL 0 12 wLG b4 7 45) [])) (fun t_ k_ => XS.istore X.here hx rfl (hb hby ej43m32_d132) rfl (l' := (own_A3 s1 va wL 0 12 wLG b4 7 45)) rfl k_) ?_
  obtain ⟨T, X, eT, st⟩ := getS2 X hx hZ hown (host := "") (Or.inl (hw _ (own_w 100 rfl))) Via.refl eT (S_cd.ext O.2) (g := (mkF m 134 (own_A3 s1 va wL 0 12 wLG b4 7 45) [])) rfl (hb hby ej43m32_d134)
  refine own_via (g' := (mkF m 137 (own_A3 s1 va wL 0 12 wLG b4 7 45) [(.ref wCD)])) st ?_
  refine own_via (g' := (mkF m 139 (own_A3 s1 va wL 0 12 wLG b4 7 45) [(.int 45), (.ref wCD)])) (fun t_ k_ => XS.iload X.here hx rfl (hb hby ej43m32_d137) rfl k_) ?_
  obtain ⟨cq, kq, qa, qb, qc⟩ := isOf hZ eT (E_cd.ext O.2)
  obtain ⟨_, _, ⟨T, Lq, kq, nq⟩, -, X, ⟨Lc, hQ, lq, yq, zq⟩, st⟩ := X.virtualBack hx (y := own_y6) (z := own_y6) hown (mvT hZ (hw _ (own_w 102 rfl))) (mvT hZ (hw _ (own_w 103 rfl))) (notFace_of_selects (args := #[]) (mvT hZ (hw _ (own_w 105 rfl)))) (mvT hZ (hw _ (own_w 105 rfl))) (mvT hZ (hw _ (own_w 104 rfl))) (by decide) (backOf (W := 0) (own_tl l Z a0 hw [] wCD (45 : Int32) (45 : Int32) h13 n0 O (by decide)) hZ (hw _ (own_w 106 rfl)) (hw _ (own_w 101 rfl)) (by decide) (by decide)) qa qc (g := (mkF m 139 (own_A3 s1 va wL 0 12 wLG b4 7 45) [(.int 45), (.ref wCD)])) rfl (by rw [hml]; rfl) (Steps.refl _) (argsL := [(.int 45)]) (rest := []) (lenOf own_pd6 rfl) rfl (by show 2 * 0 + _ ≤ _; exact Nat.le_of_eq rfl) (hb hby ej43m32_d139) (fun _ _ => ⟨rfl, eT, (by decide : 7 + 0 ≤ _), (by decide : 48 + 0 ≤ _)⟩)
  dsimp only [Pt.U, Pt.locs, Pt.cells, Pt.slots] at X lq yq zq st hQ
  rw [lq, yq, zq] at X
  obtain ⟨rfl, Nq, eT⟩ := hQ
  replace N := Fr.app N Nq
  refine own_viaT (g' := (mkF m 142 (own_A3 s1 va wL 0 12 wLG b4 7 45) [(.int 45)])) st ?_
  refine own_via (g' := (mkF m 146 (own_A3 s1 va wL 0 12 wLG b4 7 45) [(.int 45)])) (fun t_ k_ => XS.istore X.here hx rfl (hb hby ej43m32_d142) rfl (l' := (own_A3 s1 va wL 0 12 wLG b4 7 45)) rfl (XS.iload X.here hx rfl (hb hby ej43m32_d144) rfl k_)) ?_
  obtain ⟨_, _, ⟨T, Lq, kq, nq⟩, -, X, ⟨Lc, hQ, lq, yq, zq⟩, st⟩ := Jvm.LawKit.callS X hx (y := own_y17) hown (mvT hZ (hw _ (own_w 195 rfl))) (mvT hZ (hw _ (own_w 196 rfl))) (mvT hZ (hw _ (own_w 98 rfl))) (mvT hZ (hw _ (own_w 197 rfl))) (by decide) (backOf (W := 0) (own_can l Z a0 hw [] (45 : Int32) (45 : Int32) h13 n0 O (by decide)) hZ (hw _ (own_w 197 rfl)) (hw _ (own_w 98 rfl)) (by decide) (by decide)) (g := (mkF m 146 (own_A3 s1 va wL 0 12 wLG b4 7 45) [(.int 45)])) rfl (by rw [hml]; rfl) (argsL := [(.int 45)]) (rest := []) (lenOf own_pd14 rfl) rfl (by show 2 * 0 + _ ≤ _; exact Nat.le_of_eq rfl) (hb hby ej43m32_d146) (fun _ _ => ⟨rfl, eT, (by decide : 7 + 0 ≤ _), (by decide : 48 + 0 ≤ _)⟩)
  dsimp only [Pt.U, Pt.locs, Pt.cells, Pt.slots] at X lq yq zq st hQ
  rw [lq, yq, zq] at X
  obtain ⟨rfl, Nq, eT⟩ := hQ
  replace N := Fr.app N Nq
  refine own_via (g' := (mkF m 149 (own_A3 s1 va wL 0 12 wLG b4 7 45) [(.int 1)])) st ?_
  refine own_via (g' := (mkF m 168 (own_A3 s1 va wL 0 12 wLG b4 7 45) [(.int ((45 : Int32).toInt8.toInt32)), (.int 7), (.ref b4)])) (fun t_ k_ => XS.ifYes X.here hx rfl (pc0 := 149) (pc' := 161) rfl (hb hby ej43m32_d149) rfl ((if0 _ _).trans (feq (by decide : ¬ ((1 : Int32) = (0 : Int32)))).2) (by decide) (by decide) (XS.aload X.here hx rfl (hb hby ej43m32_d161) rfl rfl (XS.iload X.here hx rfl (hb hby ej43m32_d163) rfl (XS.iload X.here hx rfl (hb hby ej43m32_d165) rfl (XS.i2b X.here hx rfl (hb hby ej43m32_d167) rfl k_))))) ?_
  rw [(by decide : ((45 : Int32).toInt8.toInt32) = (45 : Int32))]
  obtain ⟨cl_, Ar_, qk_, Sz_, Nn_, Hs_, Gs_⟩ := id V_b4
  have hin_ : ¬ ((7 : Int32) < 0 ∨ cl_.slots.size ≤ ((7 : Int32)).toNatClampNeg) := inb_of Sz_ ⟨by decide, by decide⟩
  obtain ⟨T, h14, X, eT, W, st⟩ := stB X hx hZ eT Ar_ (j := (7 : Int32)) hin_ (g := (mkF m 168 (own_A3 s1 va wL 0 12 wLG b4 7 45) [(.int 45), (.int 7), (.ref b4)])) rfl rfl (hb hby ej43m32_d168)
  replace V_b4 : Arv Z h14 b4 kb4 .byte (12 : Int32) [(.int 99), (.int 111), (.int 110), (.int 116), (.int 101), (.int 110), (.int 116), (.int (((45 : Int32)).toInt8.toInt32)), (.int 0), (.int 0), (.int 0), (.int 0)] (.int 0) := Arv.set Ar_ qk_ Sz_ Nn_ Hs_ Gs_ (fits_nar_byte _) W 7 (by decide) (Nat.le_of_ble_eq_true rfl)
  have So := S_b4
  replace E_va := E_va.wr W
  replace V_va := V_va.other W ne_va_b4
  replace E_b4 := E_b4.wr W
  replace O := O.wr W g_b4
  replace K0 := K0.wr W (Or.inr sz_b4)
  replace N := Fr.snoc X N g_b4
  replace hk := Nat.le_trans hk (own_wrSz W)
  replace S_b4 := Safe.wr W So H.1 S_b4
  replace H := H.trans (CHr.wr W So H.1)
  refine own_via (g' := (mkF m 169 (own_A3 s1 va wL 0 12 wLG b4 7 45) [])) st ?_
  rw [(by decide : ((45 : Int32).toInt8.toInt32) = (45 : Int32))] at V_b4
  refine own_via (g' := (mkF m 172 (own_A3 s1 va wL 0 12 wLG b4 ((7 : Int32) + (1 : Int32)) 45) [])) (fun t_ k_ => XS.iinc X.here hx rfl (hb hby ej43m32_d169) rfl (l' := (own_A3 s1 va wL 0 12 wLG b4 ((7 : Int32) + (1 : Int32)) 45)) rfl k_) ?_
  rw [(by decide : ((7 : Int32) + (1 : Int32)) = (8 : Int32))]
  refine own_via (g' := (mkF m 127 (own_A3 s1 va wL 0 12 wLG b4 8 45) [(.int 8), (.ref va)])) (fun t_ k_ => XS.goto X.here hx rfl (pc0 := 172) (pc' := 117) rfl (hb hby ej43m32_d172) (by decide) (by decide) (XS.iload X.here hx rfl (hb hby ej43m32_d117) rfl (XS.iload X.here hx rfl (hb hby ej43m32_d119) rfl (XS.icmpNo X.here hx rfl (hb hby ej43m32_d121) rfl (tlt (by decide : (8 : Int32) < (12 : Int32))).2.1 (XS.aloadN X.here hx rfl (hb hby ej43m32_d124) rfl rfl (XS.iload X.here hx rfl (hb hby ej43m32_d125) rfl k_)))))) ?_
  obtain ⟨cl_, Ar_, -, Sz_, Nn_, Hs_, -⟩ := id V_va
  have hin_ : ¬ ((8 : Int32) < 0 ∨ cl_.slots.size ≤ ((8 : Int32)).toNatClampNeg) := inb_of Sz_ ⟨by decide, by decide⟩
  have hat_ : cl_.slots[((8 : Int32)).toNatClampNeg]? = some (.int 84) := Hs_.at hin_ rfl
  refine own_via (g' := (mkF m 132 (own_A3 s1 va wL 0 12 wLG b4 8 45) [(.int ((84 : Int32) &&& (255 : Int32)))])) (fun t_ k_ => X.baloadBytes hx (j := (8 : Int32)) (v := (.int 84)) (by rw [eT]; exact Ar_.1) (State.isArrayOf_alike hZ.alike Ar_.2.1) Ar_.2.2 hin_ hat_ (g := (mkF m 127 (own_A3 s1 va wL 0 12 wLG b4 8 45) [(.int 8), (.ref va)])) rfl rfl (hb hby ej43m32_d127) _ (XS.sipush X.here hx rfl (hb hby ej43m32_d128) (XS.iand X.here hx rfl (hb hby ej43m32_d131) rfl k_))) ?_
  rw [(by decide : ((84 : Int32) &&& (255 : Int32)) = (84 : Int32))]
  refine own_via (g' := (mkF m 134 (own_A3 s1 va wL 0 12 wLG b4 8 84) [])) (fun t_ k_ => XS.istore X.here hx rfl (hb hby ej43m32_d132) rfl (l' := (own_A3 s1 va wL 0 12 wLG b4 8 84)) rfl k_) ?_
  obtain ⟨T, X, eT, st⟩ := getS2 X hx hZ hown (host := "") (Or.inl (hw _ (own_w 100 rfl))) Via.refl eT (S_cd.ext O.2) (g := (mkF m 134 (own_A3 s1 va wL 0 12 wLG b4 8 84) [])) rfl (hb hby ej43m32_d134)
  refine own_via (g' := (mkF m 137 (own_A3 s1 va wL 0 12 wLG b4 8 84) [(.ref wCD)])) st ?_
  refine own_via (g' := (mkF m 139 (own_A3 s1 va wL 0 12 wLG b4 8 84) [(.int 84), (.ref wCD)])) (fun t_ k_ => XS.iload X.here hx rfl (hb hby ej43m32_d137) rfl k_) ?_
  obtain ⟨cq, kq, qa, qb, qc⟩ := isOf hZ eT (E_cd.ext O.2)
  obtain ⟨_, _, ⟨T, Lq, kq, nq⟩, -, X, ⟨Lc, hQ, lq, yq, zq⟩, st⟩ := X.virtualBack hx (y := own_y6) (z := own_y6) hown (mvT hZ (hw _ (own_w 102 rfl))) (mvT hZ (hw _ (own_w 103 rfl))) (notFace_of_selects (args := #[]) (mvT hZ (hw _ (own_w 105 rfl)))) (mvT hZ (hw _ (own_w 105 rfl))) (mvT hZ (hw _ (own_w 104 rfl))) (by decide) (backOf (W := 0) (own_tl l Z a0 hw [] wCD (84 : Int32) (116 : Int32) h14 n0 O (by decide)) hZ (hw _ (own_w 106 rfl)) (hw _ (own_w 101 rfl)) (by decide) (by decide)) qa qc (g := (mkF m 139 (own_A3 s1 va wL 0 12 wLG b4 8 84) [(.int 84), (.ref wCD)])) rfl (by rw [hml]; rfl) (Steps.refl _) (argsL := [(.int 84)]) (rest := []) (lenOf own_pd6 rfl) rfl (by show 2 * 0 + _ ≤ _; exact Nat.le_of_eq rfl) (hb hby ej43m32_d139) (fun _ _ => ⟨rfl, eT, (by decide : 7 + 0 ≤ _), (by decide : 48 + 0 ≤ _)⟩)
  dsimp only [Pt.U, Pt.locs, Pt.cells, Pt.slots] at X lq yq zq st hQ
  rw [lq, yq, zq] at X
  obtain ⟨rfl, Nq, eT⟩ := hQ
  replace N := Fr.app N Nq
  refine own_viaT (g' := (mkF m 142 (own_A3 s1 va wL 0 12 wLG b4 8 84) [(.int 116)])) st ?_
  refine own_via (g' := (mkF m 146 (own_A3 s1 va wL 0 12 wLG b4 8 116) [(.int 116)])) (fun t_ k_ => XS.istore X.here hx rfl (hb hby ej43m32_d142) rfl (l' := (own_A3 s1 va wL 0 12 wLG b4 8 116)) rfl (XS.iload X.here hx rfl (hb hby ej43m32_d144) rfl k_)) ?_
  obtain ⟨_, _, ⟨T, Lq, kq, nq⟩, -, X, ⟨Lc, hQ, lq, yq, zq⟩, st⟩ := Jvm.LawKit.callS X hx (y := own_y17) hown (mvT hZ (hw _ (own_w 195 rfl))) (mvT hZ (hw _ (own_w 196 rfl))) (mvT hZ (hw _ (own_w 98 rfl))) (mvT hZ (hw _ (own_w 197 rfl))) (by decide) (backOf (W := 0) (own_can l Z a0 hw [] (116 : Int32) (116 : Int32) h14 n0 O (by decide)) hZ (hw _ (own_w 197 rfl)) (hw _ (own_w 98 rfl)) (by decide) (by decide)) (g := (mkF m 146 (own_A3 s1 va wL 0 12 wLG b4 8 116) [(.int 116)])) rfl (by rw [hml]; rfl) (argsL := [(.int 116)]) (rest := []) (lenOf own_pd14 rfl) rfl (by show 2 * 0 + _ ≤ _; exact Nat.le_of_eq rfl) (hb hby ej43m32_d146) (fun _ _ => ⟨rfl, eT, (by decide : 7 + 0 ≤ _), (by decide : 48 + 0 ≤ _)⟩)
  dsimp only [Pt.U, Pt.locs, Pt.cells, Pt.slots] at X lq yq zq st hQ
  rw [lq, yq, zq] at X
  obtain ⟨rfl, Nq, eT⟩ := hQ
  replace N := Fr.app N Nq
  refine own_via (g' := (mkF m 149 (own_A3 s1 va wL 0 12 wLG b4 8 116) [(.int 1)])) st ?_
  refine own_via (g' := (mkF m 168 (own_A3 s1 va wL 0 12 wLG b4 8 116) [(.int ((116 : Int32).toInt8.toInt32)), (.int 8), (.ref b4)])) (fun t_ k_ => XS.ifYes X.here hx rfl (pc0 := 149) (pc' := 161) rfl (hb hby ej43m32_d149) rfl ((if0 _ _).trans (feq (by decide : ¬ ((1 : Int32) = (0 : Int32)))).2) (by decide) (by decide) (XS.aload X.here hx rfl (hb hby ej43m32_d161) rfl rfl (XS.iload X.here hx rfl (hb hby ej43m32_d163) rfl (XS.iload X.here hx rfl (hb hby ej43m32_d165) rfl (XS.i2b X.here hx rfl (hb hby ej43m32_d167) rfl k_))))) ?_
  rw [(by decide : ((116 : Int32).toInt8.toInt32) = (116 : Int32))]
  obtain ⟨cl_, Ar_, qk_, Sz_, Nn_, Hs_, Gs_⟩ := id V_b4
  have hin_ : ¬ ((8 : Int32) < 0 ∨ cl_.slots.size ≤ ((8 : Int32)).toNatClampNeg) := inb_of Sz_ ⟨by decide, by decide⟩
  obtain ⟨T, h15, X, eT, W, st⟩ := stB X hx hZ eT Ar_ (j := (8 : Int32)) hin_ (g := (mkF m 168 (own_A3 s1 va wL 0 12 wLG b4 8 116) [(.int 116), (.int 8), (.ref b4)])) rfl rfl (hb hby ej43m32_d168)
  replace V_b4 : Arv Z h15 b4 kb4 .byte (12 : Int32) [(.int 99), (.int 111), (.int 110), (.int 116), (.int 101), (.int 110), (.int 116), (.int 45), (.int (((116 : Int32)).toInt8.toInt32)), (.int 0), (.int 0), (.int 0)] (.int 0) := Arv.set Ar_ qk_ Sz_ Nn_ Hs_ Gs_ (fits_nar_byte _) W 8 (by decide) (Nat.le_of_ble_eq_true rfl)
  have So := S_b4
  replace E_va := E_va.wr W
  replace V_va := V_va.other W ne_va_b4
  replace E_b4 := E_b4.wr W
  replace O := O.wr W g_b4
  replace K0 := K0.wr W (Or.inr sz_b4)
  replace N := Fr.snoc X N g_b4
  replace hk := Nat.le_trans hk (own_wrSz W)
  replace S_b4 := Safe.wr W So H.1 S_b4
  replace H := H.trans (CHr.wr W So H.1)
  refine own_via (g' := (mkF m 169 (own_A3 s1 va wL 0 12 wLG b4 8 116) [])) st ?_
  rw [(by decide : ((116 : Int32).toInt8.toInt32) = (116 : Int32))] at V_b4
  refine own_via (g' := (mkF m 172 (own_A3 s1 va wL 0 12 wLG b4 ((8 : Int32) + (1 : Int32)) 116) [])) (fun t_ k_ => XS.iinc X.here hx rfl (hb hby ej43m32_d169) rfl (l' := (own_A3 s1 va wL 0 12 wLG b4 ((8 : Int32) + (1 : Int32)) 116)) rfl k_) ?_
  rw [(by decide : ((8 : Int32) + (1 : Int32)) = (9 : Int32))]
  refine own_via (g' := (mkF m 127 (own_A3 s1 va wL 0 12 wLG b4 9 116) [(.int 9), (.ref va)])) (fun t_ k_ => XS.goto X.here hx rfl (pc0 := 172) (pc' := 117) rfl (hb hby ej43m32_d172) (by decide) (by decide) (XS.iload X.here hx rfl (hb hby ej43m32_d117) rfl (XS.iload X.here hx rfl (hb hby ej43m32_d119) rfl (XS.icmpNo X.here hx rfl (hb hby ej43m32_d121) rfl (tlt (by decide : (9 : Int32) < (12 : Int32))).2.1 (XS.aloadN X.here hx rfl (hb hby ej43m32_d124) rfl rfl (XS.iload X.here hx rfl (hb hby ej43m32_d125) rfl k_)))))) ?_
  obtain ⟨cl_, Ar_, -, Sz_, Nn_, Hs_, -⟩ := id V_va
  have hin_ : ¬ ((9 : Int32) < 0 ∨ cl_.slots.size ≤ ((9 : Int32)).toNatClampNeg) := inb_of Sz_ ⟨by decide, by decide⟩
  have hat_ : cl_.slots[((9 : Int32)).toNatClampNeg]? = some (.int 121) := Hs_.at hin_ rfl
  refine own_via (g' := (mkF m 132 (own_A3 s1 va wL 0 12 wLG b4 9 116) [(.int ((121 : Int32) &&& (255 : Int32)))])) (fun t_ k_ => X.baloadBytes hx (j := (9 : Int32)) (v := (.int 121)) (by rw [eT]; exact Ar_.1) (State.isArrayOf_alike hZ.alike Ar_.2.1) Ar_.2.2 hin_ hat_ (g := (mkF m 127 (own_A3 s1 va wL 0 12 wLG b4 9 116) [(.int 9), (.ref va)])) rfl rfl (hb hby ej43m32_d127) _ (XS.sipush X.here hx rfl (hb hby ej43m32_d128) (XS.iand X.here hx rfl (hb hby ej43m32_d131) rfl k_))) ?_
  rw [(by decide : ((121 : Int32) &&& (255 : Int32)) = (121 : Int32))]
  refine own_via (g' := (mkF m 134 (own_A3 s1 va wL 0 12 wLG b4 9 121) [])) (fun t_ k_ => XS.istore X.here hx rfl (hb hby ej43m32_d132) rfl (l' := (own_A3 s1 va wL 0 12 wLG b4 9 121)) rfl k_) ?_
  obtain ⟨T, X, eT, st⟩ := getS2 X hx hZ hown (host := "") (Or.inl (hw _ (own_w 100 rfl))) Via.refl eT (S_cd.ext O.2) (g := (mkF m 134 (own_A3 s1 va wL 0 12 wLG b4 9 121) [])) rfl (hb hby ej43m32_d134)
  refine own_via (g' := (mkF m 137 (own_A3 s1 va wL 0 12 wLG b4 9 121) [(.ref wCD)])) st ?_
  refine own_via (g' := (mkF m 139 (own_A3 s1 va wL 0 12 wLG b4 9 121) [(.int 121), (.ref wCD)])) (fun t_ k_ => XS.iload X.here hx rfl (hb hby ej43m32_d137) rfl k_) ?_
  obtain ⟨cq, kq, qa, qb, qc⟩ := isOf hZ eT (E_cd.ext O.2)
  obtain ⟨_, _, ⟨T, Lq, kq, nq⟩, -, X, ⟨Lc, hQ, lq, yq, zq⟩, st⟩ := X.virtualBack hx (y := own_y6) (z := own_y6) hown (mvT hZ (hw _ (own_w 102 rfl))) (mvT hZ (hw _ (own_w 103 rfl))) (notFace_of_selects (args := #[]) (mvT hZ (hw _ (own_w 105 rfl)))) (mvT hZ (hw _ (own_w 105 rfl))) (mvT hZ (hw _ (own_w 104 rfl))) (by decide) (backOf (W := 0) (own_tl l Z a0 hw [] wCD (121 : Int32) (121 : Int32) h15 n0 O (by decide)) hZ (hw _ (own_w 106 rfl)) (hw _ (own_w 101 rfl)) (by decide) (by decide)) qa qc (g := (mkF m 139 (own_A3 s1 va wL 0 12 wLG b4 9 121) [(.int 121), (.ref wCD)])) rfl (by rw [hml]; rfl) (Steps.refl _) (argsL := [(.int 121)]) (rest := []) (lenOf own_pd6 rfl) rfl (by show 2 * 0 + _ ≤ _; exact Nat.le_of_eq rfl) (hb hby ej43m32_d139) (fun _ _ => ⟨rfl, eT, (by decide : 7 + 0 ≤ _), (by decide : 48 + 0 ≤ _)⟩)
  dsimp only [Pt.U, Pt.locs, Pt.cells, Pt.slots] at X lq yq zq st hQ
  rw [lq, yq, zq] at X
  obtain ⟨rfl, Nq, eT⟩ := hQ
  replace N := Fr.app N Nq
  refine own_viaT (g' := (mkF m 142 (own_A3 s1 va wL 0 12 wLG b4 9 121) [(.int 121)])) st ?_
  refine own_via (g' := (mkF m 146 (own_A3 s1 va wL 0 12 wLG b4 9 121) [(.int 121)])) (fun t_ k_ => XS.istore X.here hx rfl (hb hby ej43m32_d142) rfl (l' := (own_A3 s1 va wL 0 12 wLG b4 9 121)) rfl (XS.iload X.here hx rfl (hb hby ej43m32_d144) rfl k_)) ?_
  obtain ⟨_, _, ⟨T, Lq, kq, nq⟩, -, X, ⟨Lc, hQ, lq, yq, zq⟩, st⟩ := Jvm.LawKit.callS X hx (y := own_y17) hown (mvT hZ (hw _ (own_w 195 rfl))) (mvT hZ (hw _ (own_w 196 rfl))) (mvT hZ (hw _ (own_w 98 rfl))) (mvT hZ (hw _ (own_w 197 rfl))) (by decide) (backOf (W := 0) (own_can l Z a0 hw [] (121 : Int32) (121 : Int32) h15 n0 O (by decide)) hZ (hw _ (own_w 197 rfl)) (hw _ (own_w 98 rfl)) (by decide) (by decide)) (g := (mkF m 146 (own_A3 s1 va wL 0 12 wLG b4 9 121) [(.int 121)])) rfl (by rw [hml]; rfl) (argsL := [(.int 121)]) (rest := []) (lenOf own_pd14 rfl) rfl (by show 2 * 0 + _ ≤ _; exact Nat.le_of_eq rfl) (hb hby ej43m32_d146) (fun _ _ => ⟨rfl, eT, (by decide : 7 + 0 ≤ _), (by decide : 48 + 0 ≤ _)⟩)
  dsimp only [Pt.U, Pt.locs, Pt.cells, Pt.slots] at X lq yq zq st hQ
  rw [lq, yq, zq] at X
  obtain ⟨rfl, Nq, eT⟩ := hQ
  replace N := Fr.app N Nq
  refine own_via (g' := (mkF m 149 (own_A3 s1 va wL 0 12 wLG b4 9 121) [(.int 1)])) st ?_
  refine own_via (g' := (mkF m 168 (own_A3 s1 va wL 0 12 wLG b4 9 121) [(.int ((121 : Int32).toInt8.toInt32)), (.int 9), (.ref b4)])) (fun t_ k_ => XS.ifYes X.here hx rfl (pc0 := 149) (pc' := 161) rfl (hb hby ej43m32_d149) rfl ((if0 _ _).trans (feq (by decide : ¬ ((1 : Int32) = (0 : Int32)))).2) (by decide) (by decide) (XS.aload X.here hx rfl (hb hby ej43m32_d161) rfl rfl (XS.iload X.here hx rfl (hb hby ej43m32_d163) rfl (XS.iload X.here hx rfl (hb hby ej43m32_d165) rfl (XS.i2b X.here hx rfl (hb hby ej43m32_d167) rfl k_))))) ?_
  rw [(by decide : ((121 : Int32).toInt8.toInt32) = (121 : Int32))]
  obtain ⟨cl_, Ar_, qk_, Sz_, Nn_, Hs_, Gs_⟩ := id V_b4
  have hin_ : ¬ ((9 : Int32) < 0 ∨ cl_.slots.size ≤ ((9 : Int32)).toNatClampNeg) := inb_of Sz_ ⟨by decide, by decide⟩
  obtain ⟨T, h16, X, eT, W, st⟩ := stB X hx hZ eT Ar_ (j := (9 : Int32)) hin_ (g := (mkF m 168 (own_A3 s1 va wL 0 12 wLG b4 9 121) [(.int 121), (.int 9), (.ref b4)])) rfl rfl (hb hby ej43m32_d168)
  replace V_b4 : Arv Z h16 b4 kb4 .byte (12 : Int32) [(.int 99), (.int 111), (.int 110), (.int 116), (.int 101), (.int 110), (.int 116), (.int 45), (.int 116), (.int (((121 : Int32)).toInt8.toInt32)), (.int 0), (.int 0)] (.int 0) := Arv.set Ar_ qk_ Sz_ Nn_ Hs_ Gs_ (fits_nar_byte _) W 9 (by decide) (Nat.le_of_ble_eq_true rfl)
  have So := S_b4
  replace E_va := E_va.wr W
  replace V_va := V_va.other W ne_va_b4
  replace E_b4 := E_b4.wr W
  replace O := O.wr W g_b4
  replace K0 := K0.wr W (Or.inr sz_b4)
  replace N := Fr.snoc X N g_b4
  replace hk := Nat.le_trans hk (own_wrSz W)
  replace S_b4 := Safe.wr W So H.1 S_b4
  replace H := H.trans (CHr.wr W So H.1)
  refine own_via (g' := (mkF m 169 (own_A3 s1 va wL 0 12 wLG b4 9 121) [])) st ?_
  rw [(by decide : ((121 : Int32).toInt8.toInt32) = (121 : Int32))] at V_b4
  refine own_via (g' := (mkF m 172 (own_A3 s1 va wL 0 12 wLG b4 ((9 : Int32) + (1 : Int32)) 121) [])) (fun t_ k_ => XS.iinc X.here hx rfl (hb hby ej43m32_d169) rfl (l' := (own_A3 s1 va wL 0 12 wLG b4 ((9 : Int32) + (1 : Int32)) 121)) rfl k_) ?_
  rw [(by decide : ((9 : Int32) + (1 : Int32)) = (10 : Int32))]
  refine own_via (g' := (mkF m 127 (own_A3 s1 va wL 0 12 wLG b4 10 121) [(.int 10), (.ref va)])) (fun t_ k_ => XS.goto X.here hx rfl (pc0 := 172) (pc' := 117) rfl (hb hby ej43m32_d172) (by decide) (by decide) (XS.iload X.here hx rfl (hb hby ej43m32_d117) rfl (XS.iload X.here hx rfl (hb hby ej43m32_d119) rfl (XS.icmpNo X.here hx rfl (hb hby ej43m32_d121) rfl (tlt (by decide : (10 : Int32) < (12 : Int32))).2.1 (XS.aloadN X.here hx rfl (hb hby ej43m32_d124) rfl rfl (XS.iload X.here hx rfl (hb hby ej43m32_d125) rfl k_)))))) ?_
  obtain ⟨cl_, Ar_, -, Sz_, Nn_, Hs_, -⟩ := id V_va
  have hin_ : ¬ ((10 : Int32) < 0 ∨ cl_.slots.size ≤ ((10 : Int32)).toNatClampNeg) := inb_of Sz_ ⟨by decide, by decide⟩
  have hat_ : cl_.slots[((10 : Int32)).toNatClampNeg]? = some (.int 112) := Hs_.at hin_ rfl
  refine own_via (g' := (mkF m 132 (own_A3 s1 va wL 0 12 wLG b4 10 121) [(.int ((112 : Int32) &&& (255 : Int32)))])) (fun t_ k_ => X.baloadBytes hx (j := (10 : Int32)) (v := (.int 112)) (by rw [eT]; exact Ar_.1) (State.isArrayOf_alike hZ.alike Ar_.2.1) Ar_.2.2 hin_ hat_ (g := (mkF m 127 (own_A3 s1 va wL 0 12 wLG b4 10 121) [(.int 10), (.ref va)])) rfl rfl (hb hby ej43m32_d127) _ (XS.sipush X.here hx rfl (hb hby ej43m32_d128) (XS.iand X.here hx rfl (hb hby ej43m32_d131) rfl k_))) ?_
  rw [(by decide : ((112 : Int32) &&& (255 : Int32)) = (112 : Int32))]
  refine own_via (g' := (mkF m 134 (own_A3 s1 va wL 0 12 wLG b4 10 112) [])) (fun t_ k_ => XS.istore X.here hx rfl (hb hby ej43m32_d132) rfl (l' := (own_A3 s1 va wL 0 12 wLG b4 10 112)) rfl k_) ?_
  obtain ⟨T, X, eT, st⟩ := getS2 X hx hZ hown (host := "") (Or.inl (hw _ (own_w 100 rfl))) Via.refl eT (S_cd.ext O.2) (g := (mkF m 134 (own_A3 s1 va wL 0 12 wLG b4 10 112) [])) rfl (hb hby ej43m32_d134)
  refine own_via (g' := (mkF m 137 (own_A3 s1 va wL 0 12 wLG b4 10 112) [(.ref wCD)])) st ?_
  refine own_via (g' := (mkF m 139 (own_A3 s1 va wL 0 12 wLG b4 10 112) [(.int 112), (.ref wCD)])) (fun t_ k_ => XS.iload X.here hx rfl (hb hby ej43m32_d137) rfl k_) ?_
  obtain ⟨cq, kq, qa, qb, qc⟩ := isOf hZ eT (E_cd.ext O.2)
  obtain ⟨_, _, ⟨T, Lq, kq, nq⟩, -, X, ⟨Lc, hQ, lq, yq, zq⟩, st⟩ := X.virtualBack hx (y := own_y6) (z := own_y6) hown (mvT hZ (hw _ (own_w 102 rfl))) (mvT hZ (hw _ (own_w 103 rfl))) (notFace_of_selects (args := #[]) (mvT hZ (hw _ (own_w 105 rfl)))) (mvT hZ (hw _ (own_w 105 rfl))) (mvT hZ (hw _ (own_w 104 rfl))) (by decide) (backOf (W := 0) (own_tl l Z a0 hw [] wCD (112 : Int32) (112 : Int32) h16 n0 O (by decide)) hZ (hw _ (own_w 106 rfl)) (hw _ (own_w 101 rfl)) (by decide) (by decide)) qa qc (g := (mkF m 139 (own_A3 s1 va wL 0 12 wLG b4 10 112) [(.int 112), (.ref wCD)])) rfl (by rw [hml]; rfl) (Steps.refl _) (argsL := [(.int 112)]) (rest := []) (lenOf own_pd6 rfl) rfl (by show 2 * 0 + _ ≤ _; exact Nat.le_of_eq rfl) (hb hby ej43m32_d139) (fun _ _ => ⟨rfl, eT, (by decide : 7 + 0 ≤ _), (by decide : 48 + 0 ≤ _)⟩)
  dsimp only [Pt.U, Pt.locs, Pt.cells, Pt.slots] at X lq yq zq st hQ
  rw [lq, yq, zq] at X
  obtain ⟨rfl, Nq, eT⟩ := hQ
  replace N := Fr.app N Nq
  refine own_viaT (g' := (mkF m 142 (own_A3 s1 va wL 0 12 wLG b4 10 112) [(.int 112)])) st ?_
  refine own_via (g' := (mkF m 146 (own_A3 s1 va wL 0 12 wLG b4 10 112) [(.int 112)])) (fun t_ k_ => XS.istore X.here hx rfl (hb hby ej43m32_d142) rfl (l' := (own_A3 s1 va wL 0 12 wLG b4 10 112)) rfl (XS.iload X.here hx rfl (hb hby ej43m32_d144) rfl k_)) ?_
  obtain ⟨_, _, ⟨T, Lq, kq, nq⟩, -, X, ⟨Lc, hQ, lq, yq, zq⟩, st⟩ := Jvm.LawKit.callS X hx (y := own_y17) hown (mvT hZ (hw _ (own_w 195 rfl))) (mvT hZ (hw _ (own_w 196 rfl))) (mvT hZ (hw _ (own_w 98 rfl))) (mvT hZ (hw _ (own_w 197 rfl))) (by decide) (backOf (W := 0) (own_can l Z a0 hw [] (112 : Int32) (112 : Int32) h16 n0 O (by decide)) hZ (hw _ (own_w 197 rfl)) (hw _ (own_w 98 rfl)) (by decide) (by decide)) (g := (mkF m 146 (own_A3 s1 va wL 0 12 wLG b4 10 112) [(.int 112)])) rfl (by rw [hml]; rfl) (argsL := [(.int 112)]) (rest := []) (lenOf own_pd14 rfl) rfl (by show 2 * 0 + _ ≤ _; exact Nat.le_of_eq rfl) (hb hby ej43m32_d146) (fun _ _ => ⟨rfl, eT, (by decide : 7 + 0 ≤ _), (by decide : 48 + 0 ≤ _)⟩)
  dsimp only [Pt.U, Pt.locs, Pt.cells, Pt.slots] at X lq yq zq st hQ
  rw [lq, yq, zq] at X
  obtain ⟨rfl, Nq, eT⟩ := hQ
  replace N := Fr.app N Nq
  refine own_via (g' := (mkF m 149 (own_A3 s1 va wL 0 12 wLG b4 10 112) [(.int 1)])) st ?_
  refine own_via (g' := (mkF m 168 (own_A3 s1 va wL 0 12 wLG b4 10 112) [(.int ((112 : Int32).toInt8.toInt32)), (.int 10), (.ref b4)])) (fun t_ k_ => XS.ifYes X.here hx rfl (pc0 := 149) (pc' := 161) rfl (hb hby ej43m32_d149) rfl ((if0 _ _).trans (feq (by decide : ¬ ((1 : Int32) = (0 : Int32)))).2) (by decide) (by decide) (XS.aload X.here hx rfl (hb hby ej43m32_d161) rfl rfl (XS.iload X.here hx rfl (hb hby ej43m32_d163) rfl (XS.iload X.here hx rfl (hb hby ej43m32_d165) rfl (XS.i2b X.here hx rfl (hb hby ej43m32_d167) rfl k_))))) ?_
  rw [(by decide : ((112 : Int32).toInt8.toInt32) = (112 : Int32))]
  obtain ⟨cl_, Ar_, qk_, Sz_, Nn_, Hs_, Gs_⟩ := id V_b4
  have hin_ : ¬ ((10 : Int32) < 0 ∨ cl_.slots.size ≤ ((10 : Int32)).toNatClampNeg) := inb_of Sz_ ⟨by decide, by decide⟩
  obtain ⟨T, h17, X, eT, W, st⟩ := stB X hx hZ eT Ar_ (j := (10 : Int32)) hin_ (g := (mkF m 168 (own_A3 s1 va wL 0 12 wLG b4 10 112) [(.int 112), (.int 10), (.ref b4)])) rfl rfl (hb hby ej43m32_d168)
  replace V_b4 : Arv Z h17 b4 kb4 .byte (12 : Int32) [(.int 99), (.int 111), (.int 110), (.int 116), (.int 101), (.int 110), (.int 116), (.int 45), (.int 116), (.int 121), (.int (((112 : Int32)).toInt8.toInt32)), (.int 0)] (.int 0) := Arv.set Ar_ qk_ Sz_ Nn_ Hs_ Gs_ (fits_nar_byte _) W 10 (by decide) (Nat.le_of_ble_eq_true rfl)
  have So := S_b4
  replace E_va := E_va.wr W
  replace V_va := V_va.other W ne_va_b4
  replace E_b4 := E_b4.wr W
  replace O := O.wr W g_b4
  replace K0 := K0.wr W (Or.inr sz_b4)
  replace N := Fr.snoc X N g_b4
  replace hk := Nat.le_trans hk (own_wrSz W)
  replace S_b4 := Safe.wr W So H.1 S_b4
  replace H := H.trans (CHr.wr W So H.1)
  refine own_via (g' := (mkF m 169 (own_A3 s1 va wL 0 12 wLG b4 10 112) [])) st ?_
  rw [(by decide : ((112 : Int32).toInt8.toInt32) = (112 : Int32))] at V_b4
  refine own_via (g' := (mkF m 172 (own_A3 s1 va wL 0 12 wLG b4 ((10 : Int32) + (1 : Int32)) 112) [])) (fun t_ k_ => XS.iinc X.here hx rfl (hb hby ej43m32_d169) rfl (l' := (own_A3 s1 va wL 0 12 wLG b4 ((10 : Int32) + (1 : Int32)) 112)) rfl k_) ?_
  rw [(by decide : ((10 : Int32) + (1 : Int32)) = (11 : Int32))]
  refine own_via (g' := (mkF m 127 (own_A3 s1 va wL 0 12 wLG b4 11 112) [(.int 11), (.ref va)])) (fun t_ k_ => XS.goto X.here hx rfl (pc0 := 172) (pc' := 117) rfl (hb hby ej43m32_d172) (by decide) (by decide) (XS.iload X.here hx rfl (hb hby ej43m32_d117) rfl (XS.iload X.here hx rfl (hb hby ej43m32_d119) rfl (XS.icmpNo X.here hx rfl (hb hby ej43m32_d121) rfl (tlt (by decide : (11 : Int32) < (12 : Int32))).2.1 (XS.aloadN X.here hx rfl (hb hby ej43m32_d124) rfl rfl (XS.iload X.here hx rfl (hb hby ej43m32_d125) rfl k_)))))) ?_
  obtain ⟨cl_, Ar_, -, Sz_, Nn_, Hs_, -⟩ := id V_va
  have hin_ : ¬ ((11 : Int32) < 0 ∨ cl_.slots.size ≤ ((11 : Int32)).toNatClampNeg) := inb_of Sz_ ⟨by decide, by decide⟩
  have hat_ : cl_.slots[((11 : Int32)).toNatClampNeg]? = some (.int 101) := Hs_.at hin_ rfl
  refine own_via (g' := (mkF m 132 (own_A3 s1 va wL 0 12 wLG b4 11 112) [(.int ((101 : Int32) &&& (255 : Int32)))])) (fun t_ k_ => X.baloadBytes hx (j := (11 : Int32)) (v := (.int 101)) (by rw [eT]; exact Ar_.1) (State.isArrayOf_alike hZ.alike Ar_.2.1) Ar_.2.2 hin_ hat_ (g := (mkF m 127 (own_A3 s1 va wL 0 12 wLG b4 11 112) [(.int 11), (.ref va)])) rfl rfl (hb hby ej43m32_d127) _ (XS.sipush X.here hx rfl (hb hby ej43m32_d128) (XS.iand X.here hx rfl (hb hby ej43m32_d131) rfl k_))) ?_
  rw [(by decide : ((101 : Int32) &&& (255 : Int32)) = (101 : Int32))]
  refine own_via (g' := (mkF m 134 (own_A3 s1 va wL 0 12 wLG b4 11 101) [])) (fun t_ k_ => XS.istore X.here hx rfl (hb hby ej43m32_d132) rfl (l' := (own_A3 s1 va wL 0 12 wLG b4 11 101)) rfl k_) ?_
  obtain ⟨T, X, eT, st⟩ := getS2 X hx hZ hown (host := "") (Or.inl (hw _ (own_w 100 rfl))) Via.refl eT (S_cd.ext O.2) (g := (mkF m 134 (own_A3 s1 va wL 0 12 wLG b4 11 101) [])) rfl (hb hby ej43m32_d134)
  refine own_via (g' := (mkF m 137 (own_A3 s1 va wL 0 12 wLG b4 11 101) [(.ref wCD)])) st ?_
  refine own_via (g' := (mkF m 139 (own_A3 s1 va wL 0 12 wLG b4 11 101) [(.int 101), (.ref wCD)])) (fun t_ k_ => XS.iload X.here hx rfl (hb hby ej43m32_d137) rfl k_) ?_
  obtain ⟨cq, kq, qa, qb, qc⟩ := isOf hZ eT (E_cd.ext O.2)
  obtain ⟨_, _, ⟨T, Lq, kq, nq⟩, -, X, ⟨Lc, hQ, lq, yq, zq⟩, st⟩ := X.virtualBack hx (y := own_y6) (z := own_y6) hown (mvT hZ (hw _ (own_w 102 rfl))) (mvT hZ (hw _ (own_w 103 rfl))) (notFace_of_selects (args := #[]) (mvT hZ (hw _ (own_w 105 rfl)))) (mvT hZ (hw _ (own_w 105 rfl))) (mvT hZ (hw _ (own_w 104 rfl))) (by decide) (backOf (W := 0) (own_tl l Z a0 hw [] wCD (101 : Int32) (101 : Int32) h17 n0 O (by decide)) hZ (hw _ (own_w 106 rfl)) (hw _ (own_w 101 rfl)) (by decide) (by decide)) qa qc (g := (mkF m 139 (own_A3 s1 va wL 0 12 wLG b4 11 101) [(.int 101), (.ref wCD)])) rfl (by rw [hml]; rfl) (Steps.refl _) (argsL := [(.int 101)]) (rest := []) (lenOf own_pd6 rfl) rfl (by show 2 * 0 + _ ≤ _; exact Nat.le_of_eq rfl) (hb hby ej43m32_d139) (fun _ _ => ⟨rfl, eT, (by decide : 7 + 0 ≤ _), (by decide : 48 + 0 ≤ _)⟩)
  dsimp only [Pt.U, Pt.locs, Pt.cells, Pt.slots] at X lq yq zq st hQ
  rw [lq, yq, zq] at X
  obtain ⟨rfl, Nq, eT⟩ := hQ
  replace N := Fr.app N Nq
  refine own_viaT (g' := (mkF m 142 (own_A3 s1 va wL 0 12 wLG b4 11 101) [(.int 101)])) st ?_
  refine own_via (g' := (mkF m 146 (own_A3 s1 va wL 0 12 wLG b4 11 101) [(.int 101)])) (fun t_ k_ => XS.istore X.here hx rfl (hb hby ej43m32_d142) rfl (l' := (own_A3 s1 va wL 0 12 wLG b4 11 101)) rfl (XS.iload X.here hx rfl (hb hby ej43m32_d144) rfl k_)) ?_
  obtain ⟨_, _, ⟨T, Lq, kq, nq⟩, -, X, ⟨Lc, hQ, lq, yq, zq⟩, st⟩ := Jvm.LawKit.callS X hx (y := own_y17) hown (mvT hZ (hw _ (own_w 195 rfl))) (mvT hZ (hw _ (own_w 196 rfl))) (mvT hZ (hw _ (own_w 98 rfl))) (mvT hZ (hw _ (own_w 197 rfl))) (by decide) (backOf (W := 0) (own_can l Z a0 hw [] (101 : Int32) (101 : Int32) h17 n0 O (by decide)) hZ (hw _ (own_w 197 rfl)) (hw _ (own_w 98 rfl)) (by decide) (by decide)) (g := (mkF m 146 (own_A3 s1 va wL 0 12 wLG b4 11 101) [(.int 101)])) rfl (by rw [hml]; rfl) (argsL := [(.int 101)]) (rest := []) (lenOf own_pd14 rfl) rfl (by show 2 * 0 + _ ≤ _; exact Nat.le_of_eq rfl) (hb hby ej43m32_d146) (fun _ _ => ⟨rfl, eT, (by decide : 7 + 0 ≤ _), (by decide : 48 + 0 ≤ _)⟩)
  dsimp only [Pt.U, Pt.locs, Pt.cells, Pt.slots] at X lq yq zq st hQ
  rw [lq, yq, zq] at X
  obtain ⟨rfl, Nq, eT⟩ := hQ
  replace N := Fr.app N Nq
  refine own_via (g' := (mkF m 149 (own_A3 s1 va wL 0 12 wLG b4 11 101) [(.int 1)])) st ?_
  refine own_via (g' := (mkF m 168 (own_A3 s1 va wL 0 12 wLG b4 11 101) [(.int ((101 : Int32).toInt8.toInt32)), (.int 11), (.ref b4)])) (fun t_ k_ => XS.ifYes X.here hx rfl (pc0 := 149) (pc' := 161) rfl (hb hby ej43m32_d149) rfl ((if0 _ _).trans (feq (by decide : ¬ ((1 : Int32) = (0 : Int32)))).2) (by decide) (by decide) (XS.aload X.here hx rfl (hb hby ej43m32_d161) rfl rfl (XS.iload X.here hx rfl (hb hby ej43m32_d163) rfl (XS.iload X.here hx rfl (hb hby ej43m32_d165) rfl (XS.i2b X.here hx rfl (hb hby ej43m32_d167) rfl k_))))) ?_
  rw [(by decide : ((101 : Int32).toInt8.toInt32) = (101 : Int32))]
  obtain ⟨cl_, Ar_, qk_, Sz_, Nn_, Hs_, Gs_⟩ := id V_b4
  have hin_ : ¬ ((11 : Int32) < 0 ∨ cl_.slots.size ≤ ((11 : Int32)).toNatClampNeg) := inb_of Sz_ ⟨by decide, by decide⟩
  obtain ⟨T, h18, X, eT, W, st⟩ := stB X hx hZ eT Ar_ (j := (11 : Int32)) hin_ (g := (mkF m 168 (own_A3 s1 va wL 0 12 wLG b4 11 101) [(.int 101), (.int 11), (.ref b4)])) rfl rfl (hb hby ej43m32_d168)
  replace V_b4 : Arv Z h18 b4 kb4 .byte (12 : Int32) [(.int 99), (.int 111), (.int 110), (.int 116), (.int 101), (.int 110), (.int 116), (.int 45), (.int 116), (.int 121), (.int 112), (.int (((101 : Int32)).toInt8.toInt32))] (.int 0) := Arv.set Ar_ qk_ Sz_ Nn_ Hs_ Gs_ (fits_nar_byte _) W 11 (by decide) (Nat.le_of_ble_eq_true rfl)
  have So := S_b4
  replace E_va := E_va.wr W
  replace V_va := V_va.other W ne_va_b4
  replace E_b4 := E_b4.wr W
  replace O := O.wr W g_b4
  replace K0 := K0.wr W (Or.inr sz_b4)
  replace N := Fr.snoc X N g_b4
  replace hk := Nat.le_trans hk (own_wrSz W)
  replace S_b4 := Safe.wr W So H.1 S_b4
  replace H := H.trans (CHr.wr W So H.1)
  refine own_via (g' := (mkF m 169 (own_A3 s1 va wL 0 12 wLG b4 11 101) [])) st ?_
  rw [(by decide : ((101 : Int32).toInt8.toInt32) = (101 : Int32))] at V_b4
  refine own_via (g' := (mkF m 172 (own_A3 s1 va wL 0 12 wLG b4 ((11 : Int32) + (1 : Int32)) 101) [])) (fun t_ k_ => XS.iinc X.here hx rfl (hb hby ej43m32_d169) rfl (l' := (own_A3 s1 va wL 0 12 wLG b4 ((11 : Int32) + (1 : Int32)) 101)) rfl k_) ?_
  rw [(by decide : ((11 : Int32) + (1 : Int32)) = (12 : Int32))]
  refine own_via (g' := (mkF m 175 (own_A3 s1 va wL 0 12 wLG b4 12 101) [])) (fun t_ k_ => XS.goto X.here hx rfl (pc0 := 172) (pc' := 117) rfl (hb hby ej43m32_d172) (by decide) (by decide) (XS.iload X.here hx rfl (hb hby ej43m32_d117) rfl (XS.iload X.here hx rfl (hb hby ej43m32_d119) rfl (XS.icmpYes X.here hx rfl (pc0 := 121) (pc' := 175) rfl (hb hby ej43m32_d121) rfl (flt (by decide : ¬ ((12 : Int32) < (12 : Int32)))).2.1 (by decide) (by decide) k_)))) ?_
  replace V_b4 : Arv Z h18 b4 kb4 .byte (12 : Int32) [(.int 99), (.int 111), (.int 110), (.int 116), (.int 101), (.int 110), (.int 116), (.int 45), (.int 116), (.int 121), (.int 112), (.int 101)] (.int 0) := V_b4
  obtain ⟨b19, gb⟩ : ∃ z, z = h18.size := ⟨_, rfl⟩
  obtain ⟨T, h20, X, eT, E, E_b19, Dq, -, st⟩ := newO X hx hZ hown (hw _ (own_w 198 rfl)) (hw _ (own_w 66 rfl)) (hw _ (own_w 65 rfl)) eT (g := (mkF m 175 (own_A3 s1 va wL 0 12 wLG b4 12 101) [])) rfl (hb hby ej43m32_d175) (by decide) (by decide)
  rw [← gb] at E_b19 Dq st
  have ne_b4_b19 : b4 ≠ b19 := Nat.ne_of_lt (Nat.lt_of_lt_of_le E_b4.lt (Nat.le_of_eq gb.symm))
  have ne_va_b19 : va ≠ b19 := Nat.ne_of_lt (Nat.lt_of_lt_of_le E_va.lt (Nat.le_of_eq gb.symm))
  have S_b19 := own_safeNew H (Nat.le_of_eq gb.symm)
  have g_b19 : n0 ≤ b19 := Nat.le_trans (own_le O) (Nat.le_of_eq gb.symm)
  have sz_b19 : h0.size ≤ b19 := Nat.le_trans K0.1 (Nat.le_of_eq gb.symm)
  replace E_va := E_va.ext E
  replace V_va := V_va.ext E
  replace E_b4 := E_b4.ext E
  replace V_b4 := V_b4.ext E
  replace O := O.ext E
  replace K0 := K0.ext E
  replace hk := Nat.le_trans hk E.1
  replace S_b4 := Safe.ext E H.1 S_b4
  replace S_b19 := Safe.ext E H.1 S_b19
  replace H := H.trans (CHr.ext E H.1)
  have F_value_b19 : Fld Z h20 b19 "java/lang/String" "value" "[B" .null := Dq (Or.inr (hw _ (own_w 67 rfl))) (ty := (.array .byte)) (by decide)
  have F_coder_b19 : Fld Z h20 b19 "java/lang/String" "coder" "B" (.int 0) := Dq (Or.inr (hw _ (own_w 68 rfl))) (ty := .byte) (by decide)
  refine own_via (g' := (mkF m 178 (own_A3 s1 va wL 0 12 wLG b4 12 101) [(.ref b19)])) st ?_
  refine own_via (g' := (mkF m 182 (own_A3 s1 va wL 0 12 wLG b4 12 101) [(.int 0), (.ref b4), (.ref b19), (.ref b19)])) (fun t_ k_ => XS.dup X.here hx rfl (hb hby ej43m32_d178) rfl rfl (XS.aload X.here hx rfl (hb hby ej43m32_d179) rfl rfl (XS.iconst X.here hx rfl (hb hby ej43m32_d181) k_))) ?_
  obtain ⟨_, _, ⟨T, Lq, kq, nq⟩, -, X, ⟨Lc, hQ, lq, yq, zq⟩, st⟩ := X.specialBack hx (y := own_y18) rfl hown (mvT hZ (hw _ (own_w 199 rfl))) (mvT hZ (hw _ (own_w 200 rfl))) (mvT hZ (hw _ (own_w 202 rfl))) (by decide) (backOf (W := 1) (own_sbb l Z a0 hw [] b19 b4 h20 n0 O E_b19 F_value_b19 F_coder_b19 g_b19) hZ (hw _ (own_w 202 rfl)) (hw _ (own_w 65 rfl)) (by decide) (by decide)) (g := (mkF m 182 (own_A3 s1 va wL 0 12 wLG b4 12 101) [(.int 0), (.ref b4), (.ref b19), (.ref b19)])) rfl (by rw [hml]; rfl) (Steps.refl _) (a := b19) (argsL := [(.ref b4), (.int 0)]) (rest := [(.ref b19)]) (lenOf own_pd15 rfl) rfl (by show 2 * 0 + _ ≤ _; exact Nat.le_of_eq rfl) (hb hby ej43m32_d182) (fun _ _ => ⟨rfl, eT, (by decide : 8 + 0 ≤ _), (by decide : 52 + 0 ≤ _)⟩)
  dsimp only [Pt.U, Pt.locs, Pt.cells, Pt.slots] at X lq yq zq st hQ
  rw [lq, yq, zq] at X
  obtain ⟨rfl, Nq, Kq, F_value_b19, F_coder_b19⟩ := hQ
  replace N := Fr.app N Nq
  obtain ⟨h21, eT⟩ : ∃ z, T.heap = z := ⟨_, rfl⟩
  rw [eT] at Kq F_value_b19 F_coder_b19
  have So : ∀ x ∈ [b19], Safe Z own_EL _ h20 x := (allS S_b19 all0)
  replace E_va := E_va.keep Kq
  replace V_va := V_va.keep Kq (ninS ne_va_b19 nin0)
  replace E_b4 := E_b4.keep Kq
  replace V_b4 := V_b4.keep Kq (ninS ne_b4_b19 nin0)
  replace E_b19 := E_b19.keep Kq
  replace O := O.keep Kq (allS g_b19 all0)
  replace K0 := K0.trans Kq (allS (Or.inr sz_b19) all0)
  replace hk := Nat.le_trans hk Kq.1
  replace S_b4 := Safe.keep Kq So H.1 S_b4
  replace S_b19 := Safe.keep Kq So H.1 S_b19
  replace H := H.trans (CHr.keep Kq So H.1)
  refine own_viaT (g' := (mkF m 185 (own_A3 s1 va wL 0 12 wLG b4 12 101) [(.ref b19)])) st ?_
  refine own_retWW X hS (by rw [eT]; exact hk) hx hlk Bd.returns rfl (Or.inr (Or.inr (Or.inr (Or.inr ⟨rfl, rfl, rfl⟩)))) (hb hby ej43m32_d185) (by decide) (by decide) (fun fs => by show CHr Z own_EL s.vm s.heap T.vm T.heap; rw [eT, hh]; exact H.trans (CHv.at X hZ hEL H.1)) ?_
  rw [eT]
  exact ⟨b19, b4, _, rfl, N, K0, sz_b19, sz_b4, E_b19, F_value_b19, F_coder_b19, E_b4, V_b4⟩
theorem own_litExa {Z : State} {EL : List (String × Nat)} {vm : Vm} {h : Heap} {a b : Addr} {k : ClassId} {z : Int32} {vs : List Value} {d : Value} (hal : Z.vm.Alike vm) (hne : ∀ x, Safe Z EL vm h x → x ≠ a ∧ x ≠ b) (V : Arv Z h b k .byte z vs d) : Exa Z h b "[B" := by
  obtain ⟨p, -, u, a', -, q, -, G, e⟩ : Bk Z EL vm h b := Classical.byContradiction fun r => (hne b r).2 rfl
  obtain ⟨cl, ⟨h1, ⟨h2, kk, h3, comp, h4⟩, -⟩, -⟩ := V
  have g1 : h[q.sa]? = some q.sC := G.ha
  have g2 : h[q.sd]? = some q.SA := G.hd
  obtain ⟨cS, ⟨-, hfS, hcS⟩, ⟨kS, k1, k2, -⟩, hB, -⟩ := G
  have hB : vm.findClass "[B" = some q.SA.cls := hB
  have k1 : vm.classes[cS]? = some kS := k1
  rcases e with rfl | rfl
  · exfalso
    have e1 : cl = q.sC := Option.some.inj (h1.symm.trans g1)
    obtain ⟨kS', hk', ek⟩ := hal.2.2 _ _ h3
    rw [e1, hcS] at hk'
    have e2 : kS' = kS := Option.some.inj (hk'.symm.trans k1)
    rw [← e2, ek] at k2
    have k2 : kk.kind = .ordinary := k2
    rw [h4] at k2
    cases k2
  · have e1 : cl = q.SA := Option.some.inj (h1.symm.trans g2)
    have hf : Z.vm.findClass "[B" = some cl.cls := by rw [← hal.findClass, e1]; exact hB
    exact ⟨cl, kk, h1, hf, h3, by cases hv : cl.vm <;> first | rfl | exact absurd hv (h2 _), fun ho => by rw [h4] at ho; cases ho⟩
theorem own_tlB_pn : plainFor (⟨"java/lang/String", "toLowerCase", "(Ljava/util/Locale;)Ljava/lang/String;"⟩ : MethodName) = true := by first | exact plainFor_of_name (by first | (simp [plainName, overriddenIn]; done) | decide +kernel) | decide +kernel | exact Jvm.Free.JP.mathPlain rfl (by decide +kernel)
theorem own_tlB_ef (m : MethodId) (x0 : Addr) (x1 : Addr) : entryFrame m #[(.ref x0), (.ref x1)] 2 = mkF m 0 #[.val (.ref x0), .val (.ref x1)] [] := by first | (simp [entryFrame, mkF, argsToLocals, Value.category]; done) | rfl
def own_tlB_Q (Z : State) (s1 : Addr) (va : Addr) (kv : ClassId) (wL : Addr) (wBL : Addr) (wLG : Addr) (wLV : Addr) (kLV : ClassId) (dLV : Value) (wCD : Addr) (zc : Int32) (h0 : Heap) (n0 : Nat) (v : Option Value) (h : Heap) (L : List Loc) : Prop := ∃ r b kb, v = some (.ref r) ∧ Fr n0 L ∧ Keep h0 h [] ∧ h0.size ≤ r ∧ h0.size ≤ b ∧ Exa Z h r "java/lang/String" ∧ Fld Z h r "java/lang/String" "value" "[B" (.ref b) ∧ Fld Z h r "java/lang/String" "coder" "B" (.int 0) ∧ Exa Z h b "[B" ∧ Arv Z h b kb .byte (12 : Int32) [(.int 99), (.int 111), (.int 110), (.int 116), (.int 101), (.int 110), (.int 116), (.int 45), (.int 116), (.int 121), (.int 112), (.int 101)] (.int 0)
set_option maxRecDepth 65536 in
set_option maxHeartbeats 40000000 in
theorem own_tlB (l : Launch) (Z : State) (a0 : Array Value) (hw : ∀ d ∈ tables_1, d.before a0 Z = true) (ws : List Jvm.Cond) (s1 : Addr) (va : Addr) (kv : ClassId) (wL : Addr) (wBL : Addr) (wLG : Addr) (wLV : Addr) (kLV : ClassId) (dLV : Value) (wCD : Addr) (zc : Int32) (h0 : Heap) (n0 : Nat) (O : Old Z n0 h0) (E_s1 : Exa Z h0 s1 "java/lang/String") (F_value_s1 : Fld Z h0 s1 "java/lang/String" "value" "[B" (.ref va)) (F_coder_s1 : Fld Z h0 s1 "java/lang/String" "coder" "B" (.int 0)) (E_va : Exa Z h0 va "[B") (V_va : Arv Z h0 va kv .byte (12 : Int32) [(.int 67), (.int 111), (.int 110), (.int 116), (.int 101), (.int 110), (.int 116), (.int 45), (.int 84), (.int 121), (.int 112), (.int 101)] (.int 0)) (E_loc : Exa Z Z.heap wL "java/util/Locale") (F_bl : Fld Z Z.heap wL "java/util/Locale" "baseLocale" "Lsun/util/locale/BaseLocale;" (.ref wBL)) (E_bl : Exa Z Z.heap wBL "sun/util/locale/BaseLocale") (F_lg : Fld Z Z.heap wBL "sun/util/locale/BaseLocale" "language" "Ljava/lang/String;" (.ref wLG)) (F_lgv : Fld Z Z.heap wLG "java/lang/String" "value" "[B" (.ref wLV)) (A_lg : Arv Z Z.heap wLV kLV .byte (0 : Int32) ([] : List Value) dLV) (S_cd : Sta Z Z.heap "java/lang/CharacterDataLatin1" "instance" "Ljava/lang/CharacterDataLatin1;" (.ref wCD)) (E_cd : Exa Z Z.heap wCD "java/lang/CharacterDataLatin1") (S_C : Sta Z Z.heap "java/lang/String" "COMPACT_STRINGS" "Z" (.int zc)) (hzc : ¬ zc = 0) :
    MetFree l (⟨"java/lang/String", "toLowerCase", "(Ljava/util/Locale;)Ljava/lang/String;"⟩ : MethodName) (head1 (Jvm.Cond.code (⟨"java/lang/String", "toLowerCase", "(Ljava/util/Locale;)Ljava/lang/String;"⟩ : MethodName) jdk_42_method_109_code 2 (some (.object "java/lang/String")) :: ws) ({ frames := 3, cells := 8, slots := 52, locals := 47 } : Room)) (fun a U => a = #[(.ref s1), (.ref wL)] ∧ Z.Warmed39 U.vm ∧ U.heap = h0 ∧ CHv Z own_EL U.vm h0) (fun _ _ _ _ _ => True) (fun _ U o U' => ∃ v L, o = .returned v ∧ own_tlB_Q Z s1 va kv wL wBL wLG wLV kLV dLV wCD zc h0 n0 v U'.heap L ∧ CHr Z own_EL U.vm U.heap U'.vm U'.heap ∧ ReturnedEndW U o U' L ({ frames := 3, cells := 8, slots := 52, locals := 47 } : Room).cells ({ frames := 3, cells := 8, slots := 52, locals := 47 } : Room).slots) := by
  refine MetFree.of_bodySF own_tlB_pn hisR ?_
  intro p e s m args below meth c s₁ Bd hml0 hP hK
  obtain ⟨rfl, hZ, hh, H0⟩ := hP
  have hx := Bd.exec
  have hby := Bd.bytes
  have hlk := Bd.notSynchronized
  have hml : c.maxLocals = 2 := hml0
  have hown : s.vm.findClass "java/lang/String" = some m.cls := findClass_of_methodNamed Bd.named
  have hnm := (name_of_methodNamed Bd.named Bd.method).1
  have X : Stand p l e ({ frames := 3, cells := 8, slots := 52, locals := 47 } : Room) s m #[(.ref s1), (.ref wL)] below meth c s₁ [] 0 0 := Stand.of_body Bd
  have eT : s₁.heap = h0 := by rw [← hh, Bd.state]; rfl
  have N := Fr.nil n0
  have K0 := Keep.refl h0 []
  show own_Ends p e below (own_PostW s below (own_tlB_Q Z s1 va kv wL wBL wLG wLV kLV dLV wCD zc h0 n0) (fun u => CHr Z own_EL s.vm s.heap u.vm u.heap) ({ frames := 3, cells := 8, slots := 52, locals := 47 } : Room).cells ({ frames := 3, cells := 8, slots := 52, locals := 47 } : Room).slots) s₁ (entryFrame m #[(.ref s1), (.ref wL)] 2)
  rw [own_tlB_ef m s1 wL]
  obtain ⟨T, hT⟩ : ∃ z, z = s₁ := ⟨_, rfl⟩
  rw [← hT] at X eT ⊢
  obtain ⟨h, hh0⟩ : ∃ z, z = h0 := ⟨_, rfl⟩
  rw [← hh0] at eT
  replace O : Old Z n0 h := by rw [hh0]; exact O
  replace K0 : Keep h0 h [] := by rw [hh0]; exact K0
  rw [← hh0] at E_s1
  rw [← hh0] at F_value_s1
  rw [← hh0] at F_coder_s1
  rw [← hh0] at E_va
  rw [← hh0] at V_va
  have wS : ∀ a ∈ Bundle.stringAtoms, a.before a0 Z = true := fun a ha => hw a ((by decide +kernel : ∀ d ∈ Bundle.stringAtoms, d ∈ tables_1) a ha)
  have hEL := own_hEL hw
  have ne_s1_va := Exa.ne E_s1 E_va (by decide)
  refine own_via (g' := (mkF m 1 #[.val (.ref s1), .val (.ref wL)] [(.ref s1)])) (fun t_ k_ => XS.aloadN X.here hx rfl (hb hby ej42m109_d0) rfl rfl k_) ?_
  obtain ⟨cq, kq, qa, qb, qc⟩ := isOf hZ eT E_s1
  obtain ⟨_, _, ⟨T, Lq, kq, nq⟩, -, X, ⟨Lc, hQ, lq, yq, zq⟩, st⟩ := X.virtualBack hx (y := own_y7) (z := own_y7) hown (mvT hZ (hw _ (own_w 88 rfl))) (mvT hZ (hw _ (own_w 89 rfl))) (notFace_of_selects (args := #[]) (mvT hZ (hw _ (own_w 91 rfl)))) (mvT hZ (hw _ (own_w 91 rfl))) (mvT hZ (hw _ (own_w 90 rfl))) (by decide) (backOf (W := 0) (own_sil l Z a0 hw [] s1 zc h n0 O F_coder_s1 S_C hzc) hZ (hw _ (own_w 92 rfl)) (hw _ (own_w 65 rfl)) (by decide) (by decide)) qa qc (g := (mkF m 1 #[.val (.ref s1), .val (.ref wL)] [(.ref s1)])) rfl (by rw [hml]; rfl) (Steps.refl _) (argsL := []) (rest := []) (lenOf own_pd7 rfl) rfl (by show 2 * 0 + _ ≤ _; exact Nat.le_of_eq rfl) (hb hby ej42m109_d1) (fun _ _ => ⟨rfl, eT, (by decide : 0 + 0 ≤ _), (by decide : 0 + 0 ≤ _)⟩)
  dsimp only [Pt.U, Pt.locs, Pt.cells, Pt.slots] at X lq yq zq st hQ
  rw [lq, yq, zq] at X
  obtain ⟨rfl, Nq, eT⟩ := hQ
  replace N := Fr.app N Nq
  refine own_viaT (g' := (mkF m 4 #[.val (.ref s1), .val (.ref wL)] [(.int 1)])) st ?_
  refine own_via (g' := (mkF m 9 #[.val (.ref s1), .val (.ref wL)] [(.ref s1), (.ref s1)])) (fun t_ k_ => XS.ifNo X.here hx rfl (hb hby ej42m109_d4) rfl ((if0 _ _).trans (feq (by decide : ¬ ((1 : Int32) = (0 : Int32)))).1) (XS.aloadN X.here hx rfl (hb hby ej42m109_d7) rfl rfl (XS.aloadN X.here hx rfl (hb hby ej42m109_d8) rfl rfl k_))) ?_
  obtain ⟨T, X, eT, st⟩ := getF X hx hZ hown (host := "") (Or.inl (hw _ (own_w 95 rfl))) Via.refl eT F_value_s1 (g := (mkF m 9 #[.val (.ref s1), .val (.ref wL)] [(.ref s1), (.ref s1)])) rfl rfl (hb hby ej42m109_d9)
  refine own_via (g' := (mkF m 12 #[.val (.ref s1), .val (.ref wL)] [(.ref va), (.ref s1)])) st ?_
  refine own_via (g' := (mkF m 13 #[.val (.ref s1), .val (.ref wL)] [(.ref wL), (.ref va), (.ref s1)])) (fun t_ k_ => XS.aloadN X.here hx rfl (hb hby ej42m109_d12) rfl rfl k_) ?_
  have H : CHr Z own_EL s.vm h0 s.vm h := by rw [hh0]; exact CHr.refl H0
  replace X := own_base X
  have hS := (State.WarmedH.refl s).since h0.size
  have hk : h0.size ≤ h.size := K0.1
  replace hZ : Z.Warmed39 (s.setVm s.vm).vm := hZ
  replace hown : (s.setVm s.vm).vm.findClass "java/lang/String" = some m.cls := hown
  obtain ⟨_, _, ⟨T, Lq, kq, nq⟩, -, X, hSq, hgr, ⟨Lc, hQ, lq, yq, zq, hCH⟩, st⟩ := callSS X hx (y := own_y8) hown (mvT hZ (hw _ (own_w 96 rfl))) (mvT hZ (hw _ (own_w 97 rfl))) (mvT hZ (hw _ (own_w 98 rfl))) (mvT hZ (hw _ (own_w 99 rfl))) (by decide) (backOfSH (W := 0) (s := s) (own_slB l Z a0 hw [] s1 va kv wL wBL wLG wLV kLV dLV wCD h n0 O E_va V_va E_loc F_bl E_bl F_lg F_lgv A_lg S_cd E_cd) hZ (hw _ (own_w 99 rfl)) (hw _ (own_w 98 rfl)) (by decide) (by decide) hEL H.1) (g := (mkF m 13 #[.val (.ref s1), .val (.ref wL)] [(.ref wL), (.ref va), (.ref s1)])) rfl (by rw [hml]; rfl) (argsL := [(.ref s1), (.ref va), (.ref wL)]) (rest := []) (lenOf own_pd8 rfl) rfl (by show 2 * 0 + _ ≤ _; exact Nat.le_of_eq rfl) (hb hby ej42m109_d13) (fun _ _ => ⟨rfl, eT, (by decide : 0 + 8 ≤ _), (by decide : 0 + 52 ≤ _)⟩)
  dsimp only [Pt.U, Pt.locs, Pt.cells, Pt.slots] at X hSq hgr lq yq zq st hQ hCH
  rw [lq, yq, zq] at X
  obtain ⟨r9, b9, kb9, rfl, Nq, Kq, szr9, szb9, E_r9, F_value_r9, F_coder_r9, E_b9, V_b9⟩ := hQ
  replace N := Fr.app N Nq
  replace hS := own_reS hS hSq (Nat.le_trans hk (by rw [← eT]; exact hgr))
  replace hZ := own_reZ hZ hSq
  replace hown := own_reown hown hSq
  replace hk := Nat.le_refl T.heap.size
  obtain ⟨vmW, eW⟩ : ∃ z, T.vm = z := ⟨_, rfl⟩
  rw [eW] at X hS hZ hown hCH
  replace X := own_flat X
  obtain ⟨h1, eT⟩ : ∃ z, T.heap = z := ⟨_, rfl⟩
  rw [eT] at Kq E_r9 F_value_r9 F_coder_r9 E_b9 V_b9
  have ne_s1_r9 : s1 ≠ r9 := Nat.ne_of_lt (Nat.lt_of_lt_of_le E_s1.lt szr9)
  have ne_va_r9 : va ≠ r9 := Nat.ne_of_lt (Nat.lt_of_lt_of_le E_va.lt szr9)
  have g_r9 : n0 ≤ r9 := Nat.le_trans (own_le O) szr9
  have sz_r9 : h0.size ≤ r9 := Nat.le_trans K0.1 szr9
  have ne_s1_b9 : s1 ≠ b9 := Nat.ne_of_lt (Nat.lt_of_lt_of_le E_s1.lt szb9)
  have ne_va_b9 : va ≠ b9 := Nat.ne_of_lt (Nat.lt_of_lt_of_le E_va.lt szb9)
  have g_b9 : n0 ≤ b9 := Nat.le_trans (own_le O) szb9
  have sz_b9 : h0.size ≤ b9 := Nat.le_trans K0.1 szb9
  replace E_s1 := E_s1.keep Kq
  replace F_value_s1 := F_value_s1.keep Kq nin0
  replace F_coder_s1 := F_coder_s1.keep Kq nin0
  replace E_va := E_va.keep Kq
  replace V_va := V_va.keep Kq nin0
  replace O := O.keep Kq all0
  replace K0 := K0.trans Kq all0
  rw [eT] at hk hS
  rw [eT] at hCH
  replace H := H.trans hCH
  refine own_viaT (g' := (mkF m 16 #[.val (.ref s1), .val (.ref wL)] [(.ref r9)])) st ?_
  refine own_via (g' := (mkF m 28 #[.val (.ref s1), .val (.ref wL)] [(.ref r9)])) (fun t_ k_ => XS.goto X.here hx rfl (pc0 := 16) (pc' := 28) rfl (hb hby ej42m109_d16) (by decide) (by decide) k_) ?_
  refine own_retWW X hS (by rw [eT]; exact hk) hx hlk Bd.returns rfl (Or.inr (Or.inr (Or.inr (Or.inr ⟨rfl, rfl, rfl⟩)))) (hb hby ej42m109_d28) (by decide) (by decide) (fun fs => by show CHr Z own_EL s.vm s.heap T.vm T.heap; rw [eT, hh]; exact H.trans (CHv.at X hZ hEL H.1)) ?_
  rw [eT]
  exact ⟨r9, b9, kb9, rfl, N, K0, sz_r9, sz_b9, E_r9, F_value_r9, F_coder_r9, E_b9, V_b9⟩
theorem own_valuesB_pn : plainFor (⟨"com/example/brassrig/brassrig/engine/ResponseReader", "values", "(Ljava/lang/String;)Ljava/util/List;"⟩ : MethodName) = true := by first | exact plainFor_of_name (by first | (simp [plainName, overriddenIn]; done) | decide +kernel) | decide +kernel | exact Jvm.Free.JP.mathPlain rfl (by decide +kernel)
theorem own_valuesB_ef (m : MethodId) (x0 : Addr) (x1 : Addr) : entryFrame m #[(.ref x0), (.ref x1)] 5 = mkF m 0 #[.val (.ref x0), .val (.ref x1), .unset, .unset, .unset] [] := by first | (simp [entryFrame, mkF, argsToLocals, Value.category]; done) | rfl
def own_valuesB_Q (Z : State) (a1 : Addr) (s1 : Addr) (va : Addr) (kv : ClassId) (wL : Addr) (wBL : Addr) (wLG : Addr) (wLV : Addr) (kLV : ClassId) (dLV : Value) (wCD : Addr) (wASC : Addr) (wU8 : Addr) (wISO : Addr) (wEL : Addr) (wEA : Addr) (kEA : ClassId) (dE : Value) (zc : Int32) (h0 : Heap) (n0 : Nat) (v : Option Value) (h : Heap) (L : List Loc) : Prop := v = some (.ref wEL) ∧ Fr n0 L ∧ Keep h0 h []
set_option maxRecDepth 65536 in
set_option maxHeartbeats 40000000 in
theorem own_valuesB (l : Launch) (Z : State) (a0 : Array Value) (hw : ∀ d ∈ tables_1, d.before a0 Z = true) (ws : List Jvm.Cond) (a1 : Addr) (s1 : Addr) (va : Addr) (kv : ClassId) (wL : Addr) (wBL : Addr) (wLG : Addr) (wLV : Addr) (kLV : ClassId) (dLV : Value) (wCD : Addr) (wASC : Addr) (wU8 : Addr) (wISO : Addr) (wEL : Addr) (wEA : Addr) (kEA : ClassId) (dE : Value) (zc : Int32) (h0 : Heap) (n0 : Nat) (O : Old Z n0 h0) (E_a1 : Exa Z h0 a1 "com/example/brassrig/brassrig/engine/ResponseReader") (F_fieldCount_a1 : Fld Z h0 a1 "com/example/brassrig/brassrig/engine/ResponseReader" "fieldCount" "I" (.int 0)) (E_s1 : Exa Z h0 s1 "java/lang/String") (F_value_s1 : Fld Z h0 s1 "java/lang/String" "value" "[B" (.ref va)) (F_coder_s1 : Fld Z h0 s1 "java/lang/String" "coder" "B" (.int 0)) (E_va : Exa Z h0 va "[B") (V_va : Arv Z h0 va kv .byte (12 : Int32) [(.int 67), (.int 111), (.int 110), (.int 116), (.int 101), (.int 110), (.int 116), (.int 45), (.int 84), (.int 121), (.int 112), (.int 101)] (.int 0)) (S_loc : Sta Z Z.heap "java/util/Locale" "ROOT" "Ljava/util/Locale;" (.ref wL)) (E_loc : Exa Z Z.heap wL "java/util/Locale") (F_bl : Fld Z Z.heap wL "java/util/Locale" "baseLocale" "Lsun/util/locale/BaseLocale;" (.ref wBL)) (E_bl : Exa Z Z.heap wBL "sun/util/locale/BaseLocale") (F_lg : Fld Z Z.heap wBL "sun/util/locale/BaseLocale" "language" "Ljava/lang/String;" (.ref wLG)) (F_lgv : Fld Z Z.heap wLG "java/lang/String" "value" "[B" (.ref wLV)) (A_lg : Arv Z Z.heap wLV kLV .byte (0 : Int32) ([] : List Value) dLV) (S_cd : Sta Z Z.heap "java/lang/CharacterDataLatin1" "instance" "Ljava/lang/CharacterDataLatin1;" (.ref wCD)) (E_cd : Exa Z Z.heap wCD "java/lang/CharacterDataLatin1") (S_u8 : Sta Z Z.heap "sun/nio/cs/UTF_8" "INSTANCE" "Lsun/nio/cs/UTF_8;" (.ref wU8)) (S_iso : Sta Z Z.heap "sun/nio/cs/ISO_8859_1" "INSTANCE" "Lsun/nio/cs/ISO_8859_1;" (.ref wISO)) (S_asc : Sta Z Z.heap "sun/nio/cs/US_ASCII" "INSTANCE" "Lsun/nio/cs/US_ASCII;" (.ref wASC)) (S_sca : Sta Z Z.heap "java/nio/charset/StandardCharsets" "US_ASCII" "Ljava/nio/charset/Charset;" (.ref wASC)) (neA8 : ¬ wASC = wU8) (neAI : ¬ wASC = wISO) (S_el : Sta Z Z.heap "java/util/ImmutableCollections" "EMPTY_LIST" "Ljava/util/ImmutableCollections$ListN;" (.ref wEL)) (E_el : Exa Z Z.heap wEL "java/util/ImmutableCollections$ListN") (F_el : Fld Z Z.heap wEL "java/util/ImmutableCollections$ListN" "elements" "[Ljava/lang/Object;" (.ref wEA)) (A_el : Arv Z Z.heap wEA kEA (.object "java/lang/Object") (0 : Int32) ([] : List Value) dE) (S_C : Sta Z Z.heap "java/lang/String" "COMPACT_STRINGS" "Z" (.int zc)) (hzc : ¬ zc = 0) :
    MetFree l (⟨"com/example/brassrig/brassrig/engine/ResponseReader", "values", "(Ljava/lang/String;)Ljava/util/List;"⟩ : MethodName) (head1 (Jvm.Cond.code (⟨"com/example/brassrig/brassrig/engine/ResponseReader", "values", "(Ljava/lang/String;)Ljava/util/List;"⟩ : MethodName) prog_11_method_9_code 5 (some (.object "java/util/List")) :: ws) ({ frames := 5, cells := 9, slots := 64, locals := 73 } : Room)) (fun a U => a = #[(.ref a1), (.ref s1)] ∧ Z.Warmed39 U.vm ∧ U.heap = h0 ∧ CHv Z own_EL U.vm h0) (fun _ _ _ _ _ => True) (fun _ U o U' => ∃ v L, o = .returned v ∧ own_valuesB_Q Z a1 s1 va kv wL wBL wLG wLV kLV dLV wCD wASC wU8 wISO wEL wEA kEA dE zc h0 n0 v U'.heap L ∧ CHr Z own_EL U.vm U.heap U'.vm U'.heap ∧ ReturnedEndW U o U' L ({ frames := 5, cells := 9, slots := 64, locals := 73 } : Room).cells ({ frames := 5, cells := 9, slots := 64, locals := 73 } : Room).slots) := by
  refine MetFree.of_bodySF own_valuesB_pn hisR ?_
  intro p e s m args below meth c s₁ Bd hml0 hP hK
  obtain ⟨rfl, hZ, hh, H0⟩ := hP
  have hx := Bd.exec
  have hby := Bd.bytes
  have hlk := Bd.notSynchronized
  have hml : c.maxLocals = 5 := hml0
  have hown : s.vm.findClass "com/example/brassrig/brassrig/engine/ResponseReader" = some m.cls := findClass_of_methodNamed Bd.named
  have hnm := (name_of_methodNamed Bd.named Bd.method).1
  have X : Stand p l e ({ frames := 5, cells := 9, slots := 64, locals := 73 } : Room) s m #[(.ref a1), (.ref s1)] below meth c s₁ [] 0 0 := Stand.of_body Bd
  have eT : s₁.heap = h0 := by rw [← hh, Bd.state]; rfl
  have N := Fr.nil n0
  have K0 := Keep.refl h0 []
  show own_Ends p e below (own_PostW s below (own_valuesB_Q Z a1 s1 va kv wL wBL wLG wLV kLV dLV wCD wASC wU8 wISO wEL wEA kEA dE zc h0 n0) (fun u => CHr Z own_EL s.vm s.heap u.vm u.heap) ({ frames := 5, cells := 9, slots := 64, locals := 73 } : Room).cells ({ frames := 5, cells := 9, slots := 64, locals := 73 } : Room).slots) s₁ (entryFrame m #[(.ref a1), (.ref s1)] 5)
  rw [own_valuesB_ef m a1 s1]
  obtain ⟨T, hT⟩ : ∃ z, z = s₁ := ⟨_, rfl⟩
  rw [← hT] at X eT ⊢
  obtain ⟨h, hh0⟩ : ∃ z, z = h0 := ⟨_, rfl⟩
  rw [← hh0] at eT
  replace O : Old Z n0 h := by rw [hh0]; exact O
  replace K0 : Keep h0 h [] := by rw [hh0]; exact K0
  rw [← hh0] at E_a1
  rw [← hh0] at F_fieldCount_a1
  rw [← hh0] at E_s1
  rw [← hh0] at F_value_s1
  rw [← hh0] at F_coder_s1
  rw [← hh0] at E_va
  rw [← hh0] at V_va
  have wS : ∀ a ∈ Bundle.stringAtoms, a.before a0 Z = true := fun a ha => hw a ((by decide +kernel : ∀ d ∈ Bundle.stringAtoms, d ∈ tables_1) a ha)
  have hEL := own_hEL hw
  have ne_a1_s1 := Exa.ne E_a1 E_s1 (by decide)
  have ne_a1_va := Exa.ne E_a1 E_va (by decide)
  have ne_s1_va := Exa.ne E_s1 E_va (by decide)
  refine own_via (g' := (mkF m 1 (own_A32 a1 s1) [(.ref s1)])) (fun t_ k_ => XS.aloadN X.here hx rfl (hb hby ep11m9_d0) rfl rfl k_) ?_
  obtain ⟨T, X, eT, st⟩ := getS2 X hx hZ hown (host := "") (Or.inl (hw _ (own_w 81 rfl))) Via.refl eT (S_loc.ext O.2) (g := (mkF m 1 (own_A32 a1 s1) [(.ref s1)])) rfl (hb hby ep11m9_d1)
  refine own_via (g' := (mkF m 4 (own_A32 a1 s1) [(.ref wL), (.ref s1)])) st ?_
  have H : CHr Z own_EL s.vm h0 s.vm h := by rw [hh0]; exact CHr.refl H0
  replace X := own_base X
  have hS := (State.WarmedH.refl s).since h0.size
  have hk : h0.size ≤ h.size := K0.1
  replace hZ : Z.Warmed39 (s.setVm s.vm).vm := hZ
  replace hown : (s.setVm s.vm).vm.findClass "com/example/brassrig/brassrig/engine/ResponseReader" = some m.cls := hown
  obtain ⟨cq, kq, qa, qb, qc⟩ := isOf hZ eT E_s1
  obtain ⟨_, _, ⟨T, Lq, kq, nq⟩, -, X, hSq, hgr, ⟨Lc, hQ, lq, yq, zq, hCH⟩, st⟩ := X.virtualBackS hx (y := own_y9) (z := own_y9) hown (mvT hZ (hw _ (own_w 83 rfl))) (mvT hZ (hw _ (own_w 84 rfl))) (notFace_of_selects (args := #[]) (mvT hZ (hw _ (own_w 86 rfl)))) (mvT hZ (hw _ (own_w 86 rfl))) (mvT hZ (hw _ (own_w 85 rfl))) (by decide) (backOfSH (W := 0) (s := s) (own_tlB l Z a0 hw [] s1 va kv wL wBL wLG wLV kLV dLV wCD zc h n0 O E_s1 F_value_s1 F_coder_s1 E_va V_va E_loc F_bl E_bl F_lg F_lgv A_lg S_cd E_cd S_C hzc) hZ (hw _ (own_w 87 rfl)) (hw _ (own_w 65 rfl)) (by decide) (by decide) hEL H.1) qa qc (g := (mkF m 4 (own_A32 a1 s1) [(.ref wL), (.ref s1)])) rfl (by rw [hml]; rfl) (Steps.refl _) (argsL := [(.ref wL)]) (rest := []) (lenOf own_pd9 rfl) rfl (by show 2 * 0 + _ ≤ _; exact Nat.le_of_eq rfl) (hb hby ep11m9_d4) (fun _ _ => ⟨rfl, eT, (by decide : 0 + 8 ≤ _), (by decide : 0 + 52 ≤ _)⟩)
  dsimp only [Pt.U, Pt.locs, Pt.cells, Pt.slots] at X hSq hgr lq yq zq st hQ hCH
  rw [lq, yq, zq] at X
  obtain ⟨r9, b9, kb9, rfl, Nq, Kq, szr9, szb9, E_r9, F_value_r9, F_coder_r9, E_b9, V_b9⟩ := hQ
  replace N := Fr.app N Nq
  replace hS := own_reS hS hSq (Nat.le_trans hk (by rw [← eT]; exact hgr))
  replace hZ := own_reZ hZ hSq
  replace hown := own_reown hown hSq
  replace hk := Nat.le_refl T.heap.size
  obtain ⟨vmW, eW⟩ : ∃ z, T.vm = z := ⟨_, rfl⟩
  rw [eW] at X hS hZ hown hCH
  replace X := own_flat X
  obtain ⟨h1, eT⟩ : ∃ z, T.heap = z := ⟨_, rfl⟩
  rw [eT] at Kq E_r9 F_value_r9 F_coder_r9 E_b9 V_b9
  have ne_a1_r9 : a1 ≠ r9 := Nat.ne_of_lt (Nat.lt_of_lt_of_le E_a1.lt szr9)
  have ne_s1_r9 : s1 ≠ r9 := Nat.ne_of_lt (Nat.lt_of_lt_of_le E_s1.lt szr9)
  have ne_va_r9 : va ≠ r9 := Nat.ne_of_lt (Nat.lt_of_lt_of_le E_va.lt szr9)
  have g_r9 : n0 ≤ r9 := Nat.le_trans (own_le O) szr9
  have sz_r9 : h0.size ≤ r9 := Nat.le_trans K0.1 szr9
  have ne_a1_b9 : a1 ≠ b9 := Nat.ne_of_lt (Nat.lt_of_lt_of_le E_a1.lt szb9)
  have ne_s1_b9 : s1 ≠ b9 := Nat.ne_of_lt (Nat.lt_of_lt_of_le E_s1.lt szb9)
  have ne_va_b9 : va ≠ b9 := Nat.ne_of_lt (Nat.lt_of_lt_of_le E_va.lt szb9)
  have g_b9 : n0 ≤ b9 := Nat.le_trans (own_le O) szb9
  have sz_b9 : h0.size ≤ b9 := Nat.le_trans K0.1 szb9
  replace E_a1 := E_a1.keep Kq
  replace F_fieldCount_a1 := F_fieldCount_a1.keep Kq nin0
  replace E_s1 := E_s1.keep Kq
  replace F_value_s1 := F_value_s1.keep Kq nin0
  replace F_coder_s1 := F_coder_s1.keep Kq nin0
  replace E_va := E_va.keep Kq
  replace V_va := V_va.keep Kq nin0
  replace O := O.keep Kq all0
  replace K0 := K0.trans Kq all0
  rw [eT] at hk hS
  rw [eT] at hCH
  replace H := H.trans hCH
  refine own_viaT (g' := (mkF m 7 (own_A32 a1 s1) [(.ref r9)])) st ?_
  obtain ⟨_, _, ⟨T, Lq, kq, nq⟩, -, X, ⟨Lc, hQ, lq, yq, zq⟩, st⟩ := Jvm.LawKit.callS X hx (y := own_y10) hown (mvT hZ (hw _ (own_w 107 rfl))) (mvT hZ (hw _ (own_w 108 rfl))) (mvT hZ (hw _ (own_w 2 rfl))) (mvT hZ (hw _ (own_w 109 rfl))) (by decide) (backOf (W := 0) (own_ascii l Z a0 hw [] r9 b9 kb9 wASC wU8 wISO zc h1 n0 O E_r9 F_value_r9 F_coder_r9 E_b9 V_b9 S_u8 S_iso S_asc S_sca neA8 neAI S_C hzc) hZ (hw _ (own_w 109 rfl)) (hw _ (own_w 2 rfl)) (by decide) (by decide)) (g := (mkF m 7 (own_A32 a1 s1) [(.ref r9)])) rfl (by rw [hml]; rfl) (argsL := [(.ref r9)]) (rest := []) (lenOf own_pd10 rfl) rfl (by show 2 * 0 + _ ≤ _; exact Nat.le_of_eq rfl) (hb hby ep11m9_d7) (fun _ _ => ⟨rfl, eT, (by decide : 8 + 1 ≤ _), (by decide : 52 + 12 ≤ _)⟩)
  dsimp only [Pt.U, Pt.locs, Pt.cells, Pt.slots] at X lq yq zq st hQ
  rw [lq, yq, zq] at X
  obtain ⟨bn, kbn, rfl, Nq, Kq, -⟩ := hQ
  replace N := Fr.app N Nq
  obtain ⟨h2, eT⟩ : ∃ z, T.heap = z := ⟨_, rfl⟩
  rw [eT] at Kq
  replace E_a1 := E_a1.keep Kq
  replace F_fieldCount_a1 := F_fieldCount_a1.keep Kq nin0
  replace E_s1 := E_s1.keep Kq
  replace F_value_s1 := F_value_s1.keep Kq nin0
  replace F_coder_s1 := F_coder_s1.keep Kq nin0
  replace E_va := E_va.keep Kq
  replace V_va := V_va.keep Kq nin0
  replace E_r9 := E_r9.keep Kq
  replace F_value_r9 := F_value_r9.keep Kq nin0
  replace F_coder_r9 := F_coder_r9.keep Kq nin0
  replace E_b9 := E_b9.keep Kq
  replace V_b9 := V_b9.keep Kq nin0
  replace O := O.keep Kq all0
  replace K0 := K0.trans Kq all0
  replace hk := Nat.le_trans hk Kq.1
  replace H := H.trans (CHr.keep Kq all0 H.1)
  refine own_via (g' := (mkF m 10 (own_A32 a1 s1) [(.ref bn)])) st ?_
  refine own_via (g' := (mkF m 11 (own_A31 a1 s1 bn) [])) (fun t_ k_ => XS.astoreN X.here hx rfl (hb hby ep11m9_d10) rfl rfl (l' := (own_A31 a1 s1 bn)) rfl k_) ?_
  obtain ⟨_, _, ⟨T, Lq, kq, nq⟩, -, X, ⟨Lc, hQ, lq, yq, zq⟩, st⟩ := Jvm.LawKit.callS X hx (y := own_y11) hown (mvT hZ (hw _ (own_w 147 rfl))) (mvT hZ (hw _ (own_w 148 rfl))) (mvT hZ (hw _ (own_w 149 rfl))) (mvT hZ (hw _ (own_w 150 rfl))) (by decide) (backOf (W := 0) (own_listOf l Z a0 hw [] wEL wEA kEA dE h2 n0 O S_el E_el F_el A_el) hZ (hw _ (own_w 150 rfl)) (hw _ (own_w 149 rfl)) (by decide) (by decide)) (g := (mkF m 11 (own_A31 a1 s1 bn) [])) rfl (by rw [hml]; rfl) (argsL := []) (rest := []) (lenOf own_pd11 rfl) rfl (by show 2 * 0 + _ ≤ _; exact Nat.le_of_eq rfl) (hb hby ep11m9_d11) (fun _ _ => ⟨rfl, eT, (by decide : 9 + 0 ≤ _), (by decide : 64 + 0 ≤ _)⟩)
  dsimp only [Pt.U, Pt.locs, Pt.cells, Pt.slots] at X lq yq zq st hQ
  rw [lq, yq, zq] at X
  obtain ⟨rfl, Nq, eT⟩ := hQ
  replace N := Fr.app N Nq
  refine own_via (g' := (mkF m 14 (own_A31 a1 s1 bn) [(.ref wEL)])) st ?_
  refine own_via (g' := (mkF m 21 (own_A24 a1 s1 bn wEL 0) [(.ref a1), (.int 0)])) (fun t_ k_ => XS.astoreN X.here hx rfl (hb hby ep11m9_d14) rfl rfl (l' := (own_A28 a1 s1 bn wEL)) rfl (XS.iconst X.here hx rfl (hb hby ep11m9_d15) (XS.istore X.here hx rfl (hb hby ep11m9_d16) rfl (l' := (own_A24 a1 s1 bn wEL 0)) rfl (XS.iload X.here hx rfl (hb hby ep11m9_d18) rfl (XS.aloadN X.here hx rfl (hb hby ep11m9_d20) rfl rfl k_))))) ?_
  obtain ⟨T, X, eT, st⟩ := getF X hx hZ hown (host := "") (Or.inl (hw _ (own_w 50 rfl))) Via.refl eT F_fieldCount_a1 (g := (mkF m 21 (own_A24 a1 s1 bn wEL 0) [(.ref a1), (.int 0)])) rfl rfl (hb hby ep11m9_d21)
  refine own_via (g' := (mkF m 24 (own_A24 a1 s1 bn wEL 0) [(.int 0), (.int 0)])) st ?_
  refine own_via (g' := (mkF m 79 (own_A24 a1 s1 bn wEL 0) [(.ref wEL)])) (fun t_ k_ => XS.icmpYes X.here hx rfl (pc0 := 24) (pc' := 78) rfl (hb hby ep11m9_d24) rfl (flt (by decide : ¬ ((0 : Int32) < (0 : Int32)))).2.1 (by decide) (by decide) (XS.aloadN X.here hx rfl (hb hby ep11m9_d78) rfl rfl k_)) ?_
  refine own_retWW X hS (by rw [eT]; exact hk) hx hlk Bd.returns rfl (Or.inr (Or.inr (Or.inr (Or.inr ⟨rfl, rfl, rfl⟩)))) (hb hby ep11m9_d79) (by decide) (by decide) (fun fs => by show CHr Z own_EL s.vm s.heap T.vm T.heap; rw [eT, hh]; exact H.trans (CHv.at X hZ hEL H.1)) ?_
  rw [eT]
  exact ⟨rfl, N, K0⟩
theorem own_valueB_pn : plainFor (⟨"com/example/brassrig/brassrig/engine/ResponseReader", "value", "(Ljava/lang/String;)Ljava/lang/String;"⟩ : MethodName) = true := by first | exact plainFor_of_name (by first | (simp [plainName, overriddenIn]; done) | decide +kernel) | decide +kernel | exact Jvm.Free.JP.mathPlain rfl (by decide +kernel)
theorem own_valueB_ef (m : MethodId) (x0 : Addr) (x1 : Addr) : entryFrame m #[(.ref x0), (.ref x1)] 3 = mkF m 0 #[.val (.ref x0), .val (.ref x1), .unset] [] := by first | (simp [entryFrame, mkF, argsToLocals, Value.category]; done) | rfl
def own_valueB_Q (Z : State) (a1 : Addr) (s1 : Addr) (va : Addr) (kv : ClassId) (wL : Addr) (wBL : Addr) (wLG : Addr) (wLV : Addr) (kLV : ClassId) (dLV : Value) (wCD : Addr) (wASC : Addr) (wU8 : Addr) (wISO : Addr) (wEL : Addr) (wEA : Addr) (kEA : ClassId) (dE : Value) (zc : Int32) (h0 : Heap) (n0 : Nat) (v : Option Value) (h : Heap) (L : List Loc) : Prop := v = some .null ∧ Fr n0 L ∧ Keep h0 h []
set_option maxRecDepth 65536 in
set_option maxHeartbeats 40000000 in
theorem own_valueB (l : Launch) (Z : State) (a0 : Array Value) (hw : ∀ d ∈ tables_1, d.before a0 Z = true) (ws : List Jvm.Cond) (a1 : Addr) (s1 : Addr) (va : Addr) (kv : ClassId) (wL : Addr) (wBL : Addr) (wLG : Addr) (wLV : Addr) (kLV : ClassId) (dLV : Value) (wCD : Addr) (wASC : Addr) (wU8 : Addr) (wISO : Addr) (wEL : Addr) (wEA : Addr) (kEA : ClassId) (dE : Value) (zc : Int32) (h0 : Heap) (n0 : Nat) (O : Old Z n0 h0) (E_a1 : Exa Z h0 a1 "com/example/brassrig/brassrig/engine/ResponseReader") (F_fieldCount_a1 : Fld Z h0 a1 "com/example/brassrig/brassrig/engine/ResponseReader" "fieldCount" "I" (.int 0)) (E_s1 : Exa Z h0 s1 "java/lang/String") (F_value_s1 : Fld Z h0 s1 "java/lang/String" "value" "[B" (.ref va)) (F_coder_s1 : Fld Z h0 s1 "java/lang/String" "coder" "B" (.int 0)) (E_va : Exa Z h0 va "[B") (V_va : Arv Z h0 va kv .byte (12 : Int32) [(.int 67), (.int 111), (.int 110), (.int 116), (.int 101), (.int 110), (.int 116), (.int 45), (.int 84), (.int 121), (.int 112), (.int 101)] (.int 0)) (S_loc : Sta Z Z.heap "java/util/Locale" "ROOT" "Ljava/util/Locale;" (.ref wL)) (E_loc : Exa Z Z.heap wL "java/util/Locale") (F_bl : Fld Z Z.heap wL "java/util/Locale" "baseLocale" "Lsun/util/locale/BaseLocale;" (.ref wBL)) (E_bl : Exa Z Z.heap wBL "sun/util/locale/BaseLocale") (F_lg : Fld Z Z.heap wBL "sun/util/locale/BaseLocale" "language" "Ljava/lang/String;" (.ref wLG)) (F_lgv : Fld Z Z.heap wLG "java/lang/String" "value" "[B" (.ref wLV)) (A_lg : Arv Z Z.heap wLV kLV .byte (0 : Int32) ([] : List Value) dLV) (S_cd : Sta Z Z.heap "java/lang/CharacterDataLatin1" "instance" "Ljava/lang/CharacterDataLatin1;" (.ref wCD)) (E_cd : Exa Z Z.heap wCD "java/lang/CharacterDataLatin1") (S_u8 : Sta Z Z.heap "sun/nio/cs/UTF_8" "INSTANCE" "Lsun/nio/cs/UTF_8;" (.ref wU8)) (S_iso : Sta Z Z.heap "sun/nio/cs/ISO_8859_1" "INSTANCE" "Lsun/nio/cs/ISO_8859_1;" (.ref wISO)) (S_asc : Sta Z Z.heap "sun/nio/cs/US_ASCII" "INSTANCE" "Lsun/nio/cs/US_ASCII;" (.ref wASC)) (S_sca : Sta Z Z.heap "java/nio/charset/StandardCharsets" "US_ASCII" "Ljava/nio/charset/Charset;" (.ref wASC)) (neA8 : ¬ wASC = wU8) (neAI : ¬ wASC = wISO) (S_el : Sta Z Z.heap "java/util/ImmutableCollections" "EMPTY_LIST" "Ljava/util/ImmutableCollections$ListN;" (.ref wEL)) (E_el : Exa Z Z.heap wEL "java/util/ImmutableCollections$ListN") (F_el : Fld Z Z.heap wEL "java/util/ImmutableCollections$ListN" "elements" "[Ljava/lang/Object;" (.ref wEA)) (A_el : Arv Z Z.heap wEA kEA (.object "java/lang/Object") (0 : Int32) ([] : List Value) dE) (S_C : Sta Z Z.heap "java/lang/String" "COMPACT_STRINGS" "Z" (.int zc)) (hzc : ¬ zc = 0) :
    MetFree l (⟨"com/example/brassrig/brassrig/engine/ResponseReader", "value", "(Ljava/lang/String;)Ljava/lang/String;"⟩ : MethodName) (head1 (Jvm.Cond.code (⟨"com/example/brassrig/brassrig/engine/ResponseReader", "value", "(Ljava/lang/String;)Ljava/lang/String;"⟩ : MethodName) prog_11_method_10_code 3 (some (.object "java/lang/String")) :: ws) ({ frames := 6, cells := 9, slots := 64, locals := 89 } : Room)) (fun a U => a = #[(.ref a1), (.ref s1)] ∧ Z.Warmed39 U.vm ∧ U.heap = h0 ∧ CHv Z own_EL U.vm h0) (fun _ _ _ _ _ => True) (fun _ U o U' => ∃ v L, o = .returned v ∧ own_valueB_Q Z a1 s1 va kv wL wBL wLG wLV kLV dLV wCD wASC wU8 wISO wEL wEA kEA dE zc h0 n0 v U'.heap L ∧ CHr Z own_EL U.vm U.heap U'.vm U'.heap ∧ ReturnedEndW U o U' L ({ frames := 6, cells := 9, slots := 64, locals := 89 } : Room).cells ({ frames := 6, cells := 9, slots := 64, locals := 89 } : Room).slots) := by
  refine MetFree.of_bodySF own_valueB_pn hisR ?_
  intro p e s m args below meth c s₁ Bd hml0 hP hK
  obtain ⟨rfl, hZ, hh, H0⟩ := hP
  have hx := Bd.exec
  have hby := Bd.bytes
  have hlk := Bd.notSynchronized
  have hml : c.maxLocals = 3 := hml0
  have hown : s.vm.findClass "com/example/brassrig/brassrig/engine/ResponseReader" = some m.cls := findClass_of_methodNamed Bd.named
  have hnm := (name_of_methodNamed Bd.named Bd.method).1
  have X : Stand p l e ({ frames := 6, cells := 9, slots := 64, locals := 89 } : Room) s m #[(.ref a1), (.ref s1)] below meth c s₁ [] 0 0 := Stand.of_body Bd
  have eT : s₁.heap = h0 := by rw [← hh, Bd.state]; rfl
  have N := Fr.nil n0
  have K0 := Keep.refl h0 []
  show own_Ends p e below (own_PostW s below (own_valueB_Q Z a1 s1 va kv wL wBL wLG wLV kLV dLV wCD wASC wU8 wISO wEL wEA kEA dE zc h0 n0) (fun u => CHr Z own_EL s.vm s.heap u.vm u.heap) ({ frames := 6, cells := 9, slots := 64, locals := 89 } : Room).cells ({ frames := 6, cells := 9, slots := 64, locals := 89 } : Room).slots) s₁ (entryFrame m #[(.ref a1), (.ref s1)] 3)
  rw [own_valueB_ef m a1 s1]
  obtain ⟨T, hT⟩ : ∃ z, z = s₁ := ⟨_, rfl⟩
  rw [← hT] at X eT ⊢
  obtain ⟨h, hh0⟩ : ∃ z, z = h0 := ⟨_, rfl⟩
  rw [← hh0] at eT
  replace O : Old Z n0 h := by rw [hh0]; exact O
  replace K0 : Keep h0 h [] := by rw [hh0]; exact K0
  rw [← hh0] at E_a1
  rw [← hh0] at F_fieldCount_a1
  rw [← hh0] at E_s1
  rw [← hh0] at F_value_s1
  rw [← hh0] at F_coder_s1
  rw [← hh0] at E_va
  rw [← hh0] at V_va
  have wS : ∀ a ∈ Bundle.stringAtoms, a.before a0 Z = true := fun a ha => hw a ((by decide +kernel : ∀ d ∈ Bundle.stringAtoms, d ∈ tables_1) a ha)
  have hEL := own_hEL hw
  have ne_a1_s1 := Exa.ne E_a1 E_s1 (by decide)
  have ne_a1_va := Exa.ne E_a1 E_va (by decide)
  have ne_s1_va := Exa.ne E_s1 E_va (by decide)
  refine own_via (g' := (mkF m 2 (own_A40 a1 s1) [(.ref s1), (.ref a1)])) (fun t_ k_ => XS.aloadN X.here hx rfl (hb hby ep11m10_d0) rfl rfl (XS.aloadN X.here hx rfl (hb hby ep11m10_d1) rfl rfl k_)) ?_
  have H : CHr Z own_EL s.vm h0 s.vm h := by rw [hh0]; exact CHr.refl H0
  replace X := own_base X
  have hS := (State.WarmedH.refl s).since h0.size
  have hk : h0.size ≤ h.size := K0.1
  replace hZ : Z.Warmed39 (s.setVm s.vm).vm := hZ
  replace hown : (s.setVm s.vm).vm.findClass "com/example/brassrig/brassrig/engine/ResponseReader" = some m.cls := hown
  obtain ⟨cq, kq, qa, qb, qc⟩ := isOf hZ eT E_a1
  obtain ⟨_, _, ⟨T, Lq, kq, nq⟩, -, X, hSq, hgr, ⟨Lc, hQ, lq, yq, zq, hCH⟩, st⟩ := X.virtualBackS hx (y := own_y12) (z := own_y12) hown (mvT hZ (hw _ (own_w 76 rfl))) (mvT hZ (hw _ (own_w 77 rfl))) (notFace_of_selects (args := #[]) (mvT hZ (hw _ (own_w 79 rfl)))) (mvT hZ (hw _ (own_w 79 rfl))) (mvT hZ (hw _ (own_w 78 rfl))) (by decide) (backOfSH (W := 0) (s := s) (own_valuesB l Z a0 hw [] a1 s1 va kv wL wBL wLG wLV kLV dLV wCD wASC wU8 wISO wEL wEA kEA dE zc h n0 O E_a1 F_fieldCount_a1 E_s1 F_value_s1 F_coder_s1 E_va V_va S_loc E_loc F_bl E_bl F_lg F_lgv A_lg S_cd E_cd S_u8 S_iso S_asc S_sca neA8 neAI S_el E_el F_el A_el S_C hzc) hZ (hw _ (own_w 80 rfl)) (hw _ (own_w 2 rfl)) (by decide) (by decide) hEL H.1) qa qc (g := (mkF m 2 (own_A40 a1 s1) [(.ref s1), (.ref a1)])) rfl (by rw [hml]; rfl) (Steps.refl _) (argsL := [(.ref s1)]) (rest := []) (lenOf own_pd12 rfl) rfl (by show 2 * 0 + _ ≤ _; exact Nat.le_of_eq rfl) (hb hby ep11m10_d2) (fun _ _ => ⟨rfl, eT, (by decide : 0 + 9 ≤ _), (by decide : 0 + 64 ≤ _)⟩)
  dsimp only [Pt.U, Pt.locs, Pt.cells, Pt.slots] at X hSq hgr lq yq zq st hQ hCH
  rw [lq, yq, zq] at X
  obtain ⟨rfl, Nq, Kq⟩ := hQ
  replace N := Fr.app N Nq
  replace hS := own_reS hS hSq (Nat.le_trans hk (by rw [← eT]; exact hgr))
  replace hZ := own_reZ hZ hSq
  replace hown := own_reown hown hSq
  replace hk := Nat.le_refl T.heap.size
  obtain ⟨vmW, eW⟩ : ∃ z, T.vm = z := ⟨_, rfl⟩
  rw [eW] at X hS hZ hown hCH
  replace X := own_flat X
  obtain ⟨h1, eT⟩ : ∃ z, T.heap = z := ⟨_, rfl⟩
  rw [eT] at Kq
  replace E_a1 := E_a1.keep Kq
  replace F_fieldCount_a1 := F_fieldCount_a1.keep Kq nin0
  replace E_s1 := E_s1.keep Kq
  replace F_value_s1 := F_value_s1.keep Kq nin0
  replace F_coder_s1 := F_coder_s1.keep Kq nin0
  replace E_va := E_va.keep Kq
  replace V_va := V_va.keep Kq nin0
  replace O := O.keep Kq all0
  replace K0 := K0.trans Kq all0
  rw [eT] at hk hS
  rw [eT] at hCH
  replace H := H.trans hCH
  refine own_viaT (g' := (mkF m 5 (own_A40 a1 s1) [(.ref wEL)])) st ?_
  refine own_via (g' := (mkF m 7 (own_A35 a1 s1 wEL) [(.ref wEL)])) (fun t_ k_ => XS.astoreN X.here hx rfl (hb hby ep11m10_d5) rfl rfl (l' := (own_A35 a1 s1 wEL)) rfl (XS.aloadN X.here hx rfl (hb hby ep11m10_d6) rfl rfl k_)) ?_
  obtain ⟨cq, kq, qa, qb, qc⟩ := isOf hZ eT (E_el.ext O.2)
  obtain ⟨_, _, ⟨T, Lq, kq, nq⟩, -, X, ⟨Lc, hQ, lq, yq, zq⟩, st⟩ := X.interfaceBack hx (xi := own_y13) (y := own_y14) hown (mvT hZ (hw _ (own_w 153 rfl))) (mvT hZ (hw _ (own_w 154 rfl))) (mvT hZ (hw _ (own_w 155 rfl))) (mvT hZ (hw _ (own_w 156 rfl))) (mvT hZ (hw _ (own_w 157 rfl))) (mvT hZ (hw _ (own_w 158 rfl))) (mvT hZ (hw _ (own_w 159 rfl))) (mvT hZ (hw _ (own_w 160 rfl))) (by decide) (backOf (W := 0) (own_lnEmpty l Z a0 hw [] wEL wEA kEA dE h1 n0 O S_el E_el F_el A_el) hZ (hw _ (own_w 162 rfl)) (hw _ (own_w 161 rfl)) (by decide) (by decide)) qa qb qc (g := (mkF m 7 (own_A35 a1 s1 wEL) [(.ref wEL)])) rfl (by rw [hml]; rfl) (Steps.refl _) (argsL := []) (rest := []) (lenOf own_pd7 rfl) rfl (by show 2 * 0 + _ ≤ _; exact Nat.le_of_eq rfl) (hb hby ep11m10_d7) (fun _ _ => ⟨rfl, eT, (by decide : 9 + 0 ≤ _), (by decide : 64 + 0 ≤ _)⟩)
  dsimp only [Pt.U, Pt.locs, Pt.cells, Pt.slots] at X lq yq zq st hQ
  rw [lq, yq, zq] at X
  obtain ⟨rfl, Nq, eT⟩ := hQ
  replace N := Fr.app N Nq
  refine own_viaT (g' := (mkF m 12 (own_A35 a1 s1 wEL) [(.int 1)])) st ?_
  refine own_via (g' := (mkF m 29 (own_A35 a1 s1 wEL) [.null])) (fun t_ k_ => XS.ifNo X.here hx rfl (hb hby ep11m10_d12) rfl ((if0 _ _).trans (feq (by decide : ¬ ((1 : Int32) = (0 : Int32)))).1) (XS.aconstNull X.here hx rfl (hb hby ep11m10_d15) (XS.goto X.here hx rfl (pc0 := 16) (pc' := 29) rfl (hb hby ep11m10_d16) (by decide) (by decide) k_))) ?_
  refine own_retWW X hS (by rw [eT]; exact hk) hx hlk Bd.returns rfl (Or.inr (Or.inr (Or.inr (Or.inr ⟨rfl, rfl, rfl⟩)))) (hb hby ep11m10_d29) (by decide) (by decide) (fun fs => by show CHr Z own_EL s.vm s.heap T.vm T.heap; rw [eT, hh]; exact H.trans (CHv.at X hZ hEL H.1)) ?_
  rw [eT]
  exact ⟨rfl, N, K0⟩
theorem ep11m13_d0 : decode prog_11_method_13_code 0 = .ok (.getstatic 164, 3) := by decide +kernel
theorem ep11m13_d3 : decode prog_11_method_13_code 3 = .ok (.astore_n 1, 1) := by decide +kernel
theorem ep11m13_d4 : decode prog_11_method_13_code 4 = .ok (.aload_n 0, 1) := by decide +kernel
theorem ep11m13_d5 : decode prog_11_method_13_code 5 = .ok (.ifnonnull 10, 3) := by decide +kernel
theorem ep11m13_d8 : decode prog_11_method_13_code 8 = .ok (.iconst 0, 1) := by decide +kernel
theorem ep11m13_d9 : decode prog_11_method_13_code 9 = .ok (.anewarray 94, 3) := by decide +kernel
theorem ep11m13_d12 : decode prog_11_method_13_code 12 = .ok (.goto 9, 3) := by decide +kernel
theorem ep11m13_d21 : decode prog_11_method_13_code 21 = .ok (.astore_n 2, 1) := by decide +kernel
theorem ep11m13_d22 : decode prog_11_method_13_code 22 = .ok (.iconst 1, 1) := by decide +kernel
theorem ep11m13_d23 : decode prog_11_method_13_code 23 = .ok (.istore_n 3, 1) := by decide +kernel
theorem ep11m13_d24 : decode prog_11_method_13_code 24 = .ok (.iload_n 3, 1) := by decide +kernel
theorem ep11m13_d25 : decode prog_11_method_13_code 25 = .ok (.aload_n 2, 1) := by decide +kernel
theorem ep11m13_d26 : decode prog_11_method_13_code 26 = .ok (.arraylength, 1) := by decide +kernel
theorem ep11m13_d27 : decode prog_11_method_13_code 27 = .ok (.if_icmp .ge 86, 3) := by decide +kernel
theorem ep11m13_d113 : decode prog_11_method_13_code 113 = .ok (.aload_n 1, 1) := by decide +kernel
theorem ep11m13_d114 : decode prog_11_method_13_code 114 = .ok (.areturn, 1) := by decide +kernel
theorem own_charset_pn : plainFor (⟨"com/example/brassrig/brassrig/engine/ResponseReader", "charset", "(Ljava/lang/String;)Ljava/nio/charset/Charset;"⟩ : MethodName) = true := by first | exact plainFor_of_name (by first | (simp [plainName, overriddenIn]; done) | decide +kernel) | decide +kernel | exact Jvm.Free.JP.mathPlain rfl (by decide +kernel)
theorem own_charset_ef (m : MethodId)  : entryFrame m #[.null] 8 = mkF m 0 #[.val .null, .unset, .unset, .unset, .unset, .unset, .unset, .unset] [] := by first | (simp [entryFrame, mkF, argsToLocals, Value.category]; done) | rfl
def own_charset_Q (Z : State) (wU8 : Addr) (h0 : Heap) (n0 : Nat) (v : Option Value) (h : Heap) (L : List Loc) : Prop := v = some (.ref wU8) ∧ Fr n0 L ∧ Keep h0 h []
set_option maxRecDepth 65536 in
set_option maxHeartbeats 40000000 in
theorem own_charset (l : Launch) (Z : State) (a0 : Array Value) (hw : ∀ d ∈ tables_1, d.before a0 Z = true) (ws : List Jvm.Cond) (wU8 : Addr) (h0 : Heap) (n0 : Nat) (O : Old Z n0 h0) (S_su8 : Sta Z Z.heap "java/nio/charset/StandardCharsets" "UTF_8" "Ljava/nio/charset/Charset;" (.ref wU8)) :
    MetFree l (⟨"com/example/brassrig/brassrig/engine/ResponseReader", "charset", "(Ljava/lang/String;)Ljava/nio/charset/Charset;"⟩ : MethodName) (head1 (Jvm.Cond.codeWith (⟨"com/example/brassrig/brassrig/engine/ResponseReader", "charset", "(Ljava/lang/String;)Ljava/nio/charset/Charset;"⟩ : MethodName) prog_11_method_13_code 8 (some (.object "java/nio/charset/Charset")) [((92), (98), (101), (208))] :: ws) ({ frames := 0, cells := 1, slots := 0, locals := 0 } : Room)) (fun a U => a = #[.null] ∧ Z.Warmed39 U.vm ∧ U.heap = h0) (fun _ _ _ _ _ => True) (fun _ U o U' => ∃ v L, o = .returned v ∧ own_charset_Q Z wU8 h0 n0 v U'.heap L ∧ FrameEnd U o U' L ({ frames := 0, cells := 1, slots := 0, locals := 0 } : Room).cells ({ frames := 0, cells := 1, slots := 0, locals := 0 } : Room).slots) := by
  refine MetFree.of_bodySF own_charset_pn hisWith ?_
  intro p e s m args below meth c s₁ Bd hml0 hP hK
  obtain ⟨rfl, hZ, hh⟩ := hP
  have hx := Bd.exec
  have hby := Bd.bytes
  have hlk := Bd.notSynchronized
  have hml : c.maxLocals = 8 := hml0
  have hown : s.vm.findClass "com/example/brassrig/brassrig/engine/ResponseReader" = some m.cls := findClass_of_methodNamed Bd.named
  have hnm := (name_of_methodNamed Bd.named Bd.method).1
  have X : Stand p l e ({ frames := 0, cells := 1, slots := 0, locals := 0 } : Room) s m #[.null] below meth c s₁ [] 0 0 := Stand.of_body Bd
  have eT : s₁.heap = h0 := by rw [← hh, Bd.state]; rfl
  have N := Fr.nil n0
  have K0 := Keep.refl h0 []
  show own_Ends p e below (own_Post s below (own_charset_Q Z wU8 h0 n0) ({ frames := 0, cells := 1, slots := 0, locals := 0 } : Room).cells ({ frames := 0, cells := 1, slots := 0, locals := 0 } : Room).slots) s₁ (entryFrame m #[.null] 8)
  rw [own_charset_ef m ]
  obtain ⟨T, hT⟩ : ∃ z, z = s₁ := ⟨_, rfl⟩
  rw [← hT] at X eT ⊢
  obtain ⟨h, hh0⟩ : ∃ z, z = h0 := ⟨_, rfl⟩
  rw [← hh0] at eT
  replace O : Old Z n0 h := by rw [hh0]; exact O
  replace K0 : Keep h0 h [] := by rw [hh0]; exact K0
  obtain ⟨T, X, eT, st⟩ := getS2 X hx hZ hown (host := "") (Or.inl (hw _ (own_w 207 rfl))) Via.refl eT (S_su8.ext O.2) (g := (mkF m 0 (own_A30 ) [])) rfl (hb hby ep11m13_d0)
  refine own_via (g' := (mkF m 3 (own_A30 ) [(.ref wU8)])) st ?_
  refine own_via (g' := (mkF m 9 (own_A27 wU8) [(.int 0)])) (fun t_ k_ => XS.astoreN X.here hx rfl (hb hby ep11m13_d3) rfl rfl (l' := (own_A27 wU8)) rfl (XS.aloadN X.here hx rfl (hb hby ep11m13_d4) rfl rfl (XS.ifnonnullNo X.here hx rfl (hb hby ep11m13_d5) rfl (XS.iconst X.here hx rfl (hb hby ep11m13_d8) k_)))) ?_
  obtain ⟨b1, gb⟩ : ∃ z, z = h.size := ⟨_, rfl⟩
  obtain ⟨T, h2, kb1, X, eT, E, A_, E_b1, -, st⟩ := newRE X hx hZ hown (hw _ (own_w 170 rfl)) (hw _ (own_w 208 rfl)) eT (g := (mkF m 9 (own_A27 wU8) [(.int 0)])) rfl (hb hby ep11m13_d9) rfl (by decide) (cap := 0) (by decide) (by decide) (by decide) (by decide) (ad := "[Ljava/lang/String;") (by decide +kernel)
  rw [← gb] at A_ E_b1 st
  have g_b1 : n0 ≤ b1 := Nat.le_trans (own_le O) (Nat.le_of_eq gb.symm)
  have sz_b1 : h0.size ≤ b1 := Nat.le_trans K0.1 (Nat.le_of_eq gb.symm)
  replace O := O.ext E
  replace K0 := K0.ext E
  have V_b1 : Arv Z h2 b1 kb1 (.object "java/lang/String") (0 : Int32) ([] : List Value) Value.null := Arv.new A_ (by decide)
  refine own_via (g' := (mkF m 12 (own_A27 wU8) [(.ref b1)])) st ?_
  refine own_via (g' := (mkF m 26 (own_A22 wU8 b1 1) [(.ref b1), (.int 1)])) (fun t_ k_ => XS.goto X.here hx rfl (pc0 := 12) (pc' := 21) rfl (hb hby ep11m13_d12) (by decide) (by decide) (XS.astoreN X.here hx rfl (hb hby ep11m13_d21) rfl rfl (l' := #[.val .null, .val (.ref wU8), .val (.ref b1), .unset, .unset, .unset, .unset, .unset]) rfl (XS.iconst X.here hx rfl (hb hby ep11m13_d22) (XS.istoreN X.here hx rfl (hb hby ep11m13_d23) rfl (l' := (own_A22 wU8 b1 1)) rfl (XS.iloadN X.here hx rfl (hb hby ep11m13_d24) rfl (XS.aloadN X.here hx rfl (hb hby ep11m13_d25) rfl rfl k_)))))) ?_
  obtain ⟨cl_, Ar_, -, Sz_, Nn_, -, -⟩ := id V_b1
  refine own_via (g' := (mkF m 27 (own_A22 wU8 b1 1) [(.int 0), (.int 1)])) (fun t_ k_ => X.arraylength hx (by rw [eT]; exact Ar_.1) (State.isArrayOf_alike hZ.alike Ar_.2.1) (g := (mkF m 26 (own_A22 wU8 b1 1) [(.ref b1), (.int 1)])) rfl rfl (hb hby ep11m13_d26) _ (by rw [len_of Sz_ Nn_]; exact k_)) ?_
  refine own_via (g' := (mkF m 114 (own_A22 wU8 b1 1) [(.ref wU8)])) (fun t_ k_ => XS.icmpYes X.here hx rfl (pc0 := 27) (pc' := 113) rfl (hb hby ep11m13_d27) rfl (flt (by decide : ¬ ((1 : Int32) < (0 : Int32)))).2.1 (by decide) (by decide) (XS.aloadN X.here hx rfl (hb hby ep11m13_d113) rfl rfl k_)) ?_
  refine own_retW X hx hlk Bd.returns rfl (Or.inr (Or.inr (Or.inr (Or.inr ⟨rfl, rfl, rfl⟩)))) (hb hby ep11m13_d114) (by decide) (by decide) ?_
  rw [eT]
  exact ⟨rfl, N, K0⟩
theorem ej31m10_d0 : decode jdk_31_method_10_code 0 = .ok (.aload_n 0, 1) := by decide +kernel
theorem ej31m10_d1 : decode jdk_31_method_10_code 1 = .ok (.ifnonnull 11, 3) := by decide +kernel
theorem ej31m10_d12 : decode jdk_31_method_10_code 12 = .ok (.aload_n 0, 1) := by decide +kernel
theorem ej31m10_d13 : decode jdk_31_method_10_code 13 = .ok (.areturn, 1) := by decide +kernel
theorem own_rnn_pn : plainFor (⟨"java/util/Objects", "requireNonNull", "(Ljava/lang/Object;)Ljava/lang/Object;"⟩ : MethodName) = true := by first | exact plainFor_of_name (by first | (simp [plainName, overriddenIn]; done) | decide +kernel) | decide +kernel | exact Jvm.Free.JP.mathPlain rfl (by decide +kernel)
theorem own_rnn_ef (m : MethodId) (x0 : Addr) : entryFrame m #[(.ref x0)] 1 = mkF m 0 #[.val (.ref x0)] [] := by first | (simp [entryFrame, mkF, argsToLocals, Value.category]; done) | rfl
def own_rnn_Q (Z : State) (a1 : Addr) (h0 : Heap) (n0 : Nat) (v : Option Value) (h : Heap) (L : List Loc) : Prop := v = some (.ref a1) ∧ Fr n0 L ∧ h = h0
set_option maxRecDepth 65536 in
set_option maxHeartbeats 40000000 in
theorem own_rnn (l : Launch) (Z : State) (a0 : Array Value) (hw : ∀ d ∈ tables_1, d.before a0 Z = true) (ws : List Jvm.Cond) (a1 : Addr) (h0 : Heap) (n0 : Nat) (O : Old Z n0 h0)  :
    MetFree l (⟨"java/util/Objects", "requireNonNull", "(Ljava/lang/Object;)Ljava/lang/Object;"⟩ : MethodName) (head1 (Jvm.Cond.code (⟨"java/util/Objects", "requireNonNull", "(Ljava/lang/Object;)Ljava/lang/Object;"⟩ : MethodName) jdk_31_method_10_code 1 (some (.object "java/lang/Object")) :: ws) ({ frames := 0, cells := 0, slots := 0, locals := 0 } : Room)) (fun a U => a = #[(.ref a1)] ∧ Z.Warmed39 U.vm ∧ U.heap = h0) (fun _ _ _ _ _ => True) (fun _ U o U' => ∃ v L, o = .returned v ∧ own_rnn_Q Z a1 h0 n0 v U'.heap L ∧ FrameEnd U o U' L ({ frames := 0, cells := 0, slots := 0, locals := 0 } : Room).cells ({ frames := 0, cells := 0, slots := 0, locals := 0 } : Room).slots) := by
  refine MetFree.of_bodySF own_rnn_pn hisR ?_
  intro p e s m args below meth c s₁ Bd hml0 hP hK
  obtain ⟨rfl, hZ, hh⟩ := hP
  have hx := Bd.exec
  have hby := Bd.bytes
  have hlk := Bd.notSynchronized
  have hml : c.maxLocals = 1 := hml0
  have hown : s.vm.findClass "java/util/Objects" = some m.cls := findClass_of_methodNamed Bd.named
  have hnm := (name_of_methodNamed Bd.named Bd.method).1
  have X : Stand p l e ({ frames := 0, cells := 0, slots := 0, locals := 0 } : Room) s m #[(.ref a1)] below meth c s₁ [] 0 0 := Stand.of_body Bd
  have eT : s₁.heap = h0 := by rw [← hh, Bd.state]; rfl
  have N := Fr.nil n0
  have K0 := Keep.refl h0 []
  show own_Ends p e below (own_Post s below (own_rnn_Q Z a1 h0 n0) ({ frames := 0, cells := 0, slots := 0, locals := 0 } : Room).cells ({ frames := 0, cells := 0, slots := 0, locals := 0 } : Room).slots) s₁ (entryFrame m #[(.ref a1)] 1)
  rw [own_rnn_ef m a1]
  obtain ⟨T, hT⟩ : ∃ z, z = s₁ := ⟨_, rfl⟩
  rw [← hT] at X eT ⊢
  obtain ⟨h, hh0⟩ : ∃ z, z = h0 := ⟨_, rfl⟩
  rw [← hh0] at eT
  replace O : Old Z n0 h := by rw [hh0]; exact O
  replace K0 : Keep h0 h [] := by rw [hh0]; exact K0
  refine own_via (g' := (mkF m 13 #[.val (.ref a1)] [(.ref a1)])) (fun t_ k_ => XS.aloadN X.here hx rfl (hb hby ej31m10_d0) rfl rfl (XS.ifnonnullYes X.here hx rfl (pc0 := 1) (pc' := 12) rfl (hb hby ej31m10_d1) rfl (by decide) (by decide) (XS.aloadN X.here hx rfl (hb hby ej31m10_d12) rfl rfl k_))) ?_
  refine own_retW X hx hlk Bd.returns rfl (Or.inr (Or.inr (Or.inr (Or.inr ⟨rfl, rfl, rfl⟩)))) (hb hby ej31m10_d13) (by decide) (by decide) ?_
  rw [eT]
  exact ⟨rfl, N, hh0⟩
theorem ej41m13_d0 : decode jdk_41_method_13_code 0 = .ok (.iload_n 2, 1) := by decide +kernel
theorem ej41m13_d1 : decode jdk_41_method_13_code 1 = .ok (.iload_n 0, 1) := by decide +kernel
theorem ej41m13_d2 : decode jdk_41_method_13_code 2 = .ok (.ior, 1) := by decide +kernel
theorem ej41m13_d3 : decode jdk_41_method_13_code 3 = .ok (.iload_n 1, 1) := by decide +kernel
theorem ej41m13_d4 : decode jdk_41_method_13_code 4 = .ok (.ior, 1) := by decide +kernel
theorem ej41m13_d5 : decode jdk_41_method_13_code 5 = .ok (.ifCond .lt 10, 3) := by decide +kernel
theorem ej41m13_d8 : decode jdk_41_method_13_code 8 = .ok (.iload_n 1, 1) := by decide +kernel
theorem ej41m13_d9 : decode jdk_41_method_13_code 9 = .ok (.iload_n 2, 1) := by decide +kernel
theorem ej41m13_d10 : decode jdk_41_method_13_code 10 = .ok (.iload_n 0, 1) := by decide +kernel
theorem ej41m13_d11 : decode jdk_41_method_13_code 11 = .ok (.isub, 1) := by decide +kernel
theorem ej41m13_d12 : decode jdk_41_method_13_code 12 = .ok (.if_icmp .le 11, 3) := by decide +kernel
theorem ej41m13_d23 : decode jdk_41_method_13_code 23 = .ok (.iload_n 0, 1) := by decide +kernel
theorem ej41m13_d24 : decode jdk_41_method_13_code 24 = .ok (.ireturn, 1) := by decide +kernel
theorem own_cfi_pn : plainFor (⟨"jdk/internal/util/Preconditions", "checkFromIndexSize", "(IIILjava/util/function/BiFunction;)I"⟩ : MethodName) = true := by first | exact plainFor_of_name (by first | (simp [plainName, overriddenIn]; done) | decide +kernel) | decide +kernel | exact Jvm.Free.JP.mathPlain rfl (by decide +kernel)
theorem own_cfi_ef (m : MethodId) (x0 : Int32) (x1 : Int32) (x2 : Int32) (x3 : Value) (hx3 : x3.isRef = true) : entryFrame m #[(.int x0), (.int x1), (.int x2), x3] 4 = mkF m 0 #[.val (.int x0), .val (.int x1), .val (.int x2), .val x3] [] := by rcases ref_cases hx3 with rfl | ⟨_, rfl⟩ <;> first | (simp [entryFrame, mkF, argsToLocals, Value.category]; done) | rfl
def own_cfi_Q (Z : State) (vS : Value) (h0 : Heap) (n0 : Nat) (v : Option Value) (h : Heap) (L : List Loc) : Prop := v = some (.int 0) ∧ Fr n0 L ∧ h = h0
set_option maxRecDepth 65536 in
set_option maxHeartbeats 40000000 in
theorem own_cfi (l : Launch) (Z : State) (a0 : Array Value) (hw : ∀ d ∈ tables_1, d.before a0 Z = true) (ws : List Jvm.Cond) (vS : Value) (h0 : Heap) (n0 : Nat) (O : Old Z n0 h0) (hvS : vS.isRef = true) :
    MetFree l (⟨"jdk/internal/util/Preconditions", "checkFromIndexSize", "(IIILjava/util/function/BiFunction;)I"⟩ : MethodName) (head1 (Jvm.Cond.code (⟨"jdk/internal/util/Preconditions", "checkFromIndexSize", "(IIILjava/util/function/BiFunction;)I"⟩ : MethodName) jdk_41_method_13_code 4 (some .int) :: ws) ({ frames := 0, cells := 0, slots := 0, locals := 0 } : Room)) (fun a U => a = #[(.int 0), (.int 0), (.int 0), vS] ∧ Z.Warmed39 U.vm ∧ U.heap = h0) (fun _ _ _ _ _ => True) (fun _ U o U' => ∃ v L, o = .returned v ∧ own_cfi_Q Z vS h0 n0 v U'.heap L ∧ FrameEnd U o U' L ({ frames := 0, cells := 0, slots := 0, locals := 0 } : Room).cells ({ frames := 0, cells := 0, slots := 0, locals := 0 } : Room).slots) := by
  refine MetFree.of_bodySF own_cfi_pn hisR ?_
  intro p e s m args below meth c s₁ Bd hml0 hP hK
  obtain ⟨rfl, hZ, hh⟩ := hP
  have hx := Bd.exec
  have hby := Bd.bytes
  have hlk := Bd.notSynchronized
  have hml : c.maxLocals = 4 := hml0
  have hown : s.vm.findClass "jdk/internal/util/Preconditions" = some m.cls := findClass_of_methodNamed Bd.named
  have hnm := (name_of_methodNamed Bd.named Bd.method).1
  have X : Stand p l e ({ frames := 0, cells := 0, slots := 0, locals := 0 } : Room) s m #[(.int 0), (.int 0), (.int 0), vS] below meth c s₁ [] 0 0 := Stand.of_body Bd
  have eT : s₁.heap = h0 := by rw [← hh, Bd.state]; rfl
  have N := Fr.nil n0
  have K0 := Keep.refl h0 []
  show own_Ends p e below (own_Post s below (own_cfi_Q Z vS h0 n0) ({ frames := 0, cells := 0, slots := 0, locals := 0 } : Room).cells ({ frames := 0, cells := 0, slots := 0, locals := 0 } : Room).slots) s₁ (entryFrame m #[(.int 0), (.int 0), (.int 0), vS] 4)
  rw [own_cfi_ef m (0 : Int32) (0 : Int32) (0 : Int32) vS hvS]
  obtain ⟨T, hT⟩ : ∃ z, z = s₁ := ⟨_, rfl⟩
  rw [← hT] at X eT ⊢
  obtain ⟨h, hh0⟩ : ∃ z, z = h0 := ⟨_, rfl⟩
  rw [← hh0] at eT
  replace O : Old Z n0 h := by rw [hh0]; exact O
  replace K0 : Keep h0 h [] := by rw [hh0]; exact K0
  refine own_via (g' := (mkF m 3 (own_A33 0 0 0 vS) [(.int ((0 : Int32) ||| (0 : Int32)))])) (fun t_ k_ => XS.iloadN X.here hx rfl (hb hby ej41m13_d0) rfl (XS.iloadN X.here hx rfl (hb hby ej41m13_d1) rfl (XS.ior X.here hx rfl (hb hby ej41m13_d2) rfl k_))) ?_
  rw [(by decide : ((0 : Int32) ||| (0 : Int32)) = (0 : Int32))]
  refine own_via (g' := (mkF m 5 (own_A33 0 0 0 vS) [(.int ((0 : Int32) ||| (0 : Int32)))])) (fun t_ k_ => XS.iloadN X.here hx rfl (hb hby ej41m13_d3) rfl (XS.ior X.here hx rfl (hb hby ej41m13_d4) rfl k_)) ?_
  rw [(by decide : ((0 : Int32) ||| (0 : Int32)) = (0 : Int32))]
  refine own_via (g' := (mkF m 12 (own_A33 0 0 0 vS) [(.int ((0 : Int32) - (0 : Int32))), (.int 0)])) (fun t_ k_ => XS.ifNo X.here hx rfl (hb hby ej41m13_d5) rfl ((if0 _ _).trans (flt (by decide : ¬ ((0 : Int32) < (0 : Int32)))).1) (XS.iloadN X.here hx rfl (hb hby ej41m13_d8) rfl (XS.iloadN X.here hx rfl (hb hby ej41m13_d9) rfl (XS.iloadN X.here hx rfl (hb hby ej41m13_d10) rfl (XS.isub X.here hx rfl (hb hby ej41m13_d11) rfl k_))))) ?_
  rw [(by decide : ((0 : Int32) - (0 : Int32)) = (0 : Int32))]
  refine own_via (g' := (mkF m 24 (own_A33 0 0 0 vS) [(.int 0)])) (fun t_ k_ => XS.icmpYes X.here hx rfl (pc0 := 12) (pc' := 23) rfl (hb hby ej41m13_d12) rfl (flt (by decide : ¬ ((0 : Int32) < (0 : Int32)))).2.2.2 (by decide) (by decide) (XS.iloadN X.here hx rfl (hb hby ej41m13_d23) rfl k_)) ?_
  refine own_retW X hx hlk Bd.returns rfl (Or.inl ⟨rfl, Or.inl rfl, _, rfl⟩) (hb hby ej41m13_d24) (by decide) (by decide) ?_
  rw [eT]
  exact ⟨rfl, N, hh0⟩
theorem ej42m157_d0 : decode jdk_42_method_157_code 0 = .ok (.iload_n 0, 1) := by decide +kernel
theorem ej42m157_d1 : decode jdk_42_method_157_code 1 = .ok (.iload_n 1, 1) := by decide +kernel
theorem ej42m157_d2 : decode jdk_42_method_157_code 2 = .ok (.iload_n 2, 1) := by decide +kernel
theorem ej42m157_d3 : decode jdk_42_method_157_code 3 = .ok (.getstatic 1053, 3) := by decide +kernel
theorem ej42m157_d6 : decode jdk_42_method_157_code 6 = .ok (.invokestatic 1065, 3) := by decide +kernel
theorem ej42m157_d9 : decode jdk_42_method_157_code 9 = .ok (.ireturn, 1) := by decide +kernel
theorem own_cbo_pn : plainFor (⟨"java/lang/String", "checkBoundsOffCount", "(III)I"⟩ : MethodName) = true := by first | exact plainFor_of_name (by first | (simp [plainName, overriddenIn]; done) | decide +kernel) | decide +kernel | exact Jvm.Free.JP.mathPlain rfl (by decide +kernel)
theorem own_cbo_ef (m : MethodId) (x0 : Int32) (x1 : Int32) (x2 : Int32) : entryFrame m #[(.int x0), (.int x1), (.int x2)] 3 = mkF m 0 #[.val (.int x0), .val (.int x1), .val (.int x2)] [] := by first | (simp [entryFrame, mkF, argsToLocals, Value.category]; done) | rfl
def own_cbo_Q (Z : State) (vS : Value) (h0 : Heap) (n0 : Nat) (v : Option Value) (h : Heap) (L : List Loc) : Prop := v = some (.int 0) ∧ Fr n0 L ∧ h = h0
set_option maxRecDepth 65536 in
set_option maxHeartbeats 40000000 in
theorem own_cbo (l : Launch) (Z : State) (a0 : Array Value) (hw : ∀ d ∈ tables_1, d.before a0 Z = true) (ws : List Jvm.Cond) (vS : Value) (h0 : Heap) (n0 : Nat) (O : Old Z n0 h0) (S_S : Sta Z Z.heap "jdk/internal/util/Preconditions" "SIOOBE_FORMATTER" "Ljava/util/function/BiFunction;" vS) (hvS : vS.isRef = true) :
    MetFree l (⟨"java/lang/String", "checkBoundsOffCount", "(III)I"⟩ : MethodName) (head1 (Jvm.Cond.code (⟨"java/lang/String", "checkBoundsOffCount", "(III)I"⟩ : MethodName) jdk_42_method_157_code 3 (some .int) :: ws) ({ frames := 1, cells := 0, slots := 0, locals := 15 } : Room)) (fun a U => a = #[(.int 0), (.int 0), (.int 0)] ∧ Z.Warmed39 U.vm ∧ U.heap = h0) (fun _ _ _ _ _ => True) (fun _ U o U' => ∃ v L, o = .returned v ∧ own_cbo_Q Z vS h0 n0 v U'.heap L ∧ FrameEnd U o U' L ({ frames := 1, cells := 0, slots := 0, locals := 15 } : Room).cells ({ frames := 1, cells := 0, slots := 0, locals := 15 } : Room).slots) := by
  refine MetFree.of_bodySF own_cbo_pn hisR ?_
  intro p e s m args below meth c s₁ Bd hml0 hP hK
  obtain ⟨rfl, hZ, hh⟩ := hP
  have hx := Bd.exec
  have hby := Bd.bytes
  have hlk := Bd.notSynchronized
  have hml : c.maxLocals = 3 := hml0
  have hown : s.vm.findClass "java/lang/String" = some m.cls := findClass_of_methodNamed Bd.named
  have hnm := (name_of_methodNamed Bd.named Bd.method).1
  have X : Stand p l e ({ frames := 1, cells := 0, slots := 0, locals := 15 } : Room) s m #[(.int 0), (.int 0), (.int 0)] below meth c s₁ [] 0 0 := Stand.of_body Bd
  have eT : s₁.heap = h0 := by rw [← hh, Bd.state]; rfl
  have N := Fr.nil n0
  have K0 := Keep.refl h0 []
  show own_Ends p e below (own_Post s below (own_cbo_Q Z vS h0 n0) ({ frames := 1, cells := 0, slots := 0, locals := 15 } : Room).cells ({ frames := 1, cells := 0, slots := 0, locals := 15 } : Room).slots) s₁ (entryFrame m #[(.int 0), (.int 0), (.int 0)] 3)
  rw [own_cbo_ef m (0 : Int32) (0 : Int32) (0 : Int32)]
  obtain ⟨T, hT⟩ : ∃ z, z = s₁ := ⟨_, rfl⟩
  rw [← hT] at X eT ⊢
  obtain ⟨h, hh0⟩ : ∃ z, z = h0 := ⟨_, rfl⟩
  rw [← hh0] at eT
  replace O : Old Z n0 h := by rw [hh0]; exact O
  replace K0 : Keep h0 h [] := by rw [hh0]; exact K0
  refine own_via (g' := (mkF m 3 (own_A38 0 0 0) [(.int 0), (.int 0), (.int 0)])) (fun t_ k_ => XS.iloadN X.here hx rfl (hb hby ej42m157_d0) rfl (XS.iloadN X.here hx rfl (hb hby ej42m157_d1) rfl (XS.iloadN X.here hx rfl (hb hby ej42m157_d2) rfl k_))) ?_
  obtain ⟨T, X, eT, st⟩ := getS2 X hx hZ hown (host := "") (Or.inl (hw _ (own_w 221 rfl))) Via.refl eT (S_S.ext O.2) (g := (mkF m 3 (own_A38 0 0 0) [(.int 0), (.int 0), (.int 0)])) rfl (hb hby ej42m157_d3)
  refine own_via (g' := (mkF m 6 (own_A38 0 0 0) [vS, (.int 0), (.int 0), (.int 0)])) st ?_
  obtain ⟨_, _, ⟨T, Lq, kq, nq⟩, -, X, ⟨Lc, hQ, lq, yq, zq⟩, st⟩ := Jvm.LawKit.callS X hx (y := own_y19) hown (mvT hZ (hw _ (own_w 223 rfl))) (mvT hZ (hw _ (own_w 224 rfl))) (mvT hZ (hw _ (own_w 222 rfl))) (mvT hZ (hw _ (own_w 225 rfl))) (by decide) (backOf (W := 0) (own_cfi l Z a0 hw [] vS h n0 O hvS) hZ (hw _ (own_w 225 rfl)) (hw _ (own_w 222 rfl)) (by decide) (by decide)) (g := (mkF m 6 (own_A38 0 0 0) [vS, (.int 0), (.int 0), (.int 0)])) rfl (by rw [hml]; rfl) (argsL := [(.int 0), (.int 0), (.int 0), vS]) (rest := []) (lenOf own_pd16 rfl) rfl (by show 2 * 0 + _ ≤ _; exact Nat.le_of_eq rfl) (hb hby ej42m157_d6) (fun _ _ => ⟨rfl, eT, (by decide : 0 + 0 ≤ _), (by decide : 0 + 0 ≤ _)⟩)
  dsimp only [Pt.U, Pt.locs, Pt.cells, Pt.slots] at X lq yq zq st hQ
  rw [lq, yq, zq] at X
  obtain ⟨rfl, Nq, eT⟩ := hQ
  replace N := Fr.app N Nq
  refine own_via (g' := (mkF m 9 (own_A38 0 0 0) [(.int 0)])) st ?_
  refine own_retW X hx hlk Bd.returns rfl (Or.inl ⟨rfl, Or.inl rfl, _, rfl⟩) (hb hby ej42m157_d9) (by decide) (by decide) ?_
  rw [eT]
  exact ⟨rfl, N, hh0⟩
theorem ej42m11_d0 : decode jdk_42_method_11_code 0 = .ok (.aload_n 0, 1) := by decide +kernel
theorem ej42m11_d1 : decode jdk_42_method_11_code 1 = .ok (.invokespecial 1, 3) := by decide +kernel
theorem ej42m11_d4 : decode jdk_42_method_11_code 4 = .ok (.iload 4, 2) := by decide +kernel
theorem ej42m11_d6 : decode jdk_42_method_11_code 6 = .ok (.ifCond .ne 24, 3) := by decide +kernel
theorem ej42m11_d9 : decode jdk_42_method_11_code 9 = .ok (.aload_n 0, 1) := by decide +kernel
theorem ej42m11_d10 : decode jdk_42_method_11_code 10 = .ok (.ldc 7, 2) := by decide +kernel
theorem ej42m11_d12 : decode jdk_42_method_11_code 12 = .ok (.getfield 9, 3) := by decide +kernel
theorem ej42m11_d15 : decode jdk_42_method_11_code 15 = .ok (.putfield 9, 3) := by decide +kernel
theorem ej42m11_d18 : decode jdk_42_method_11_code 18 = .ok (.aload_n 0, 1) := by decide +kernel
theorem ej42m11_d19 : decode jdk_42_method_11_code 19 = .ok (.ldc 7, 2) := by decide +kernel
theorem ej42m11_d21 : decode jdk_42_method_11_code 21 = .ok (.getfield 15, 3) := by decide +kernel
theorem ej42m11_d24 : decode jdk_42_method_11_code 24 = .ok (.putfield 15, 3) := by decide +kernel
theorem ej42m11_d27 : decode jdk_42_method_11_code 27 = .ok (.goto 852, 3) := by decide +kernel
theorem ej42m11_d879 : decode jdk_42_method_11_code 879 = .ok (.return_, 1) := by decide +kernel
theorem own_sz1_pn : plainFor (⟨"java/lang/String", "<init>", "(Ljava/nio/charset/Charset;[BII)V"⟩ : MethodName) = true := by first | exact plainFor_of_name (by first | (simp [plainName, overriddenIn]; done) | decide +kernel) | decide +kernel | exact Jvm.Free.JP.mathPlain rfl (by decide +kernel)
theorem own_sz1_ef (m : MethodId) (x0 : Addr) (x1 : Addr) (x2 : Addr) (x3 : Int32) (x4 : Int32) : entryFrame m #[(.ref x0), (.ref x1), (.ref x2), (.int x3), (.int x4)] 11 = mkF m 0 #[.val (.ref x0), .val (.ref x1), .val (.ref x2), .val (.int x3), .val (.int x4), .unset, .unset, .unset, .unset, .unset, .unset] [] := by first | (simp [entryFrame, mkF, argsToLocals, Value.category]; done) | rfl
def own_sz1_Q (Z : State) (a1 : Addr) (wU8 : Addr) (bb : Addr) (h0 : Heap) (n0 : Nat) (v : Option Value) (h : Heap) (L : List Loc) : Prop := ∃ b kb, v = none ∧ Fr n0 L ∧ Keep h0 h [a1] ∧ Exa Z h a1 "java/lang/String" ∧ Fld Z h a1 "java/lang/String" "value" "[B" (.ref b) ∧ Fld Z h a1 "java/lang/String" "coder" "B" (.int 0) ∧ Arv Z h b kb .byte (0 : Int32) ([] : List Value) (.int 0)
set_option maxRecDepth 65536 in
set_option maxHeartbeats 40000000 in
theorem own_sz1 (l : Launch) (Z : State) (a0 : Array Value) (hw : ∀ d ∈ tables_1, d.before a0 Z = true) (ws : List Jvm.Cond) (a1 : Addr) (wU8 : Addr) (bb : Addr) (h0 : Heap) (n0 : Nat) (O : Old Z n0 h0) (E_a1 : Exa Z h0 a1 "java/lang/String") (F_value_a1 : Fld Z h0 a1 "java/lang/String" "value" "[B" .null) (F_coder_a1 : Fld Z h0 a1 "java/lang/String" "coder" "B" (.int 0)) (g_a1 : n0 ≤ a1) :
    MetFree l (⟨"java/lang/String", "<init>", "(Ljava/nio/charset/Charset;[BII)V"⟩ : MethodName) (head1 (Jvm.Cond.codeWith (⟨"java/lang/String", "<init>", "(Ljava/nio/charset/Charset;[BII)V"⟩ : MethodName) jdk_42_method_11_code 11 none [((800), (813), (816), (202))] :: ws) ({ frames := 1, cells := 2, slots := 4, locals := 12 } : Room)) (fun a U => a = #[(.ref a1), (.ref wU8), (.ref bb), (.int 0), (.int 0)] ∧ Z.Warmed39 U.vm ∧ U.heap = h0 ∧ CHv Z own_EL U.vm h0) (fun _ _ _ _ _ => True) (fun _ U o U' => ∃ v L, o = .returned v ∧ own_sz1_Q Z a1 wU8 bb h0 n0 v U'.heap L ∧ CHr Z own_EL U.vm U.heap U'.vm U'.heap ∧ ReturnedEndW U o U' L ({ frames := 1, cells := 2, slots := 4, locals := 12 } : Room).cells ({ frames := 1, cells := 2, slots := 4, locals := 12 } : Room).slots) := by
  refine MetFree.of_bodySF own_sz1_pn hisWith ?_
  intro p e s m args below meth c s₁ Bd hml0 hP hK
  obtain ⟨rfl, hZ, hh, H0⟩ := hP
  have hx := Bd.exec
  have hby := Bd.bytes
  have hlk := Bd.notSynchronized
  have hml : c.maxLocals = 11 := hml0
  have hown : s.vm.findClass "java/lang/String" = some m.cls := findClass_of_methodNamed Bd.named
  have hnm := (name_of_methodNamed Bd.named Bd.method).1
  have X : Stand p l e ({ frames := 1, cells := 2, slots := 4, locals := 12 } : Room) s m #[(.ref a1), (.ref wU8), (.ref bb), (.int 0), (.int 0)] below meth c s₁ [] 0 0 := Stand.of_body Bd
  have eT : s₁.heap = h0 := by rw [← hh, Bd.state]; rfl
  have N := Fr.nil n0
  have K0 := Keep.refl h0 [a1]
  show own_Ends p e below (own_PostW s below (own_sz1_Q Z a1 wU8 bb h0 n0) (fun u => CHr Z own_EL s.vm s.heap u.vm u.heap) ({ frames := 1, cells := 2, slots := 4, locals := 12 } : Room).cells ({ frames := 1, cells := 2, slots := 4, locals := 12 } : Room).slots) s₁ (entryFrame m #[(.ref a1), (.ref wU8), (.ref bb), (.int 0), (.int 0)] 11)
  rw [own_sz1_ef m a1 wU8 bb (0 : Int32) (0 : Int32)]
  obtain ⟨T, hT⟩ : ∃ z, z = s₁ := ⟨_, rfl⟩
  rw [← hT] at X eT ⊢
  obtain ⟨h, hh0⟩ : ∃ z, z = h0 := ⟨_, rfl⟩
  rw [← hh0] at eT
  replace O : Old Z n0 h := by rw [hh0]; exact O
  replace K0 : Keep h0 h [a1] := by rw [hh0]; exact K0
  rw [← hh0] at E_a1
  rw [← hh0] at F_value_a1
  rw [← hh0] at F_coder_a1
  have wS : ∀ a ∈ Bundle.stringAtoms, a.before a0 Z = true := fun a ha => hw a ((by decide +kernel : ∀ d ∈ Bundle.stringAtoms, d ∈ tables_1) a ha)
  have hEL := own_hEL hw
  refine own_via (g' := (mkF m 1 (own_A13 a1 wU8 bb 0 0) [(.ref a1)])) (fun t_ k_ => XS.aloadN X.here hx rfl (hb hby ej42m11_d0) rfl rfl k_) ?_
  obtain ⟨T, X, eT, st⟩ := initO X hx hZ hown (hw _ (own_w 203 rfl)) (hw _ (own_w 7 rfl)) (hw _ (own_w 8 rfl)) eT (g := (mkF m 1 (own_A13 a1 wU8 bb 0 0) [(.ref a1)])) rfl (by rw [hml]; rfl) rfl (hb hby ej42m11_d1) (by decide) (W := 0) (by show 2 * 0 + _ ≤ _; exact Nat.le_of_eq rfl) (by decide)
  refine own_via (g' := (mkF m 4 (own_A13 a1 wU8 bb 0 0) [])) st ?_
  refine own_via (g' := (mkF m 10 (own_A13 a1 wU8 bb 0 0) [(.ref a1)])) (fun t_ k_ => XS.iload X.here hx rfl (hb hby ej42m11_d4) rfl (XS.ifNo X.here hx rfl (hb hby ej42m11_d6) rfl ((if0 _ _).trans (teq (by decide : (0 : Int32) = (0 : Int32))).2) (XS.aloadN X.here hx rfl (hb hby ej42m11_d9) rfl rfl k_))) ?_
  have H : CHr Z own_EL s.vm h0 s.vm h := by rw [hh0]; exact CHr.refl H0
  replace X := own_base X
  have hS := (State.WarmedH.refl s).since h0.size
  have hk : h0.size ≤ h.size := K0.1
  replace hZ : Z.Warmed39 (s.setVm s.vm).vm := hZ
  replace hown : (s.setVm s.vm).vm.findClass "java/lang/String" = some m.cls := hown
  have S_a1 := own_safeNull (EL := own_EL) hZ.alike E_a1 F_value_a1
  have LT_a1 := E_a1.lt
  obtain ⟨lt, T, h1, k1, lb, klb, X, eT, E, hS, hk, hZ, hown, E_lt, F_coder_lt, F_value_lt, V_lb, lt_lt, lt_lb, hCH, hLit, hne, st⟩ := ldcCH (s := s) X hx hZ hown (hw _ (own_w 229 rfl)) wS eT hS hk hEL (by decide) H.1 (vs := ([] : List Value)) (z := (0 : Int32)) ⟨by decide +kernel, by decide +kernel⟩ (by decide) rfl (g := (mkF m 10 (own_A13 a1 wU8 bb 0 0) [(.ref a1)])) rfl (hb hby ej42m11_d10) (n := 0) (by decide +kernel) (by decide) (by decide) (by decide)
  replace E_a1 := E_a1.ext E
  replace F_value_a1 := F_value_a1.ext E
  replace F_coder_a1 := F_coder_a1.ext E
  replace O := O.ext E
  replace K0 := K0.ext E
  replace S_a1 := hCH.safe LT_a1 S_a1
  have ne_a1_lt := (hne a1 S_a1).1
  have ne_a1_lb := (hne a1 S_a1).2
  replace H := H.trans hCH
  refine own_via (g' := (mkF m 12 (own_A13 a1 wU8 bb 0 0) [(.ref lt), (.ref a1)])) st ?_
  obtain ⟨T, X, eT, st⟩ := getF X hx hZ hown (host := "") (Or.inl (hw _ (own_w 95 rfl))) Via.refl eT F_value_lt (g := (mkF m 12 (own_A13 a1 wU8 bb 0 0) [(.ref lt), (.ref a1)])) rfl rfl (hb hby ej42m11_d12)
  refine own_via (g' := (mkF m 15 (own_A13 a1 wU8 bb 0 0) [(.ref lb), (.ref a1)])) st ?_
  obtain ⟨T, h2, X, eT, W, st⟩ := putF X hx hZ hown (host := "") (Or.inl (hw _ (own_w 95 rfl))) Via.refl eT F_value_a1 E_a1 (Or.inr ⟨(hw _ (own_w 67 rfl)), rfl, hnm⟩) (hw _ (own_w 66 rfl)) (ty := (.array .byte)) (by decide) rfl rfl (g := (mkF m 15 (own_A13 a1 wU8 bb 0 0) [(.ref lb), (.ref a1)])) rfl rfl (hb hby ej42m11_d15)
  replace F_value_a1 := F_value_a1.same W
  have So := S_a1
  replace E_a1 := E_a1.wr W
  replace F_coder_a1 := F_coder_a1.other W (Or.inr (slot_ne (Or.inr (hw _ (own_w 68 rfl))) (Or.inr (hw _ (own_w 67 rfl))) (by decide) (t := .byte) (t' := (.array .byte)) (by decide) (by decide)))
  replace E_lt := E_lt.wr W
  replace F_coder_lt := F_coder_lt.other W (Or.inl (Ne.symm ne_a1_lt))
  replace F_value_lt := F_value_lt.other W (Or.inl (Ne.symm ne_a1_lt))
  replace V_lb := V_lb.other W (Ne.symm ne_a1_lb)
  replace O := O.wr W g_a1
  replace K0 := K0.wr W (Or.inl (List.mem_of_getElem? (i := 0) rfl))
  replace N := Fr.snoc X N g_a1
  replace hk := Nat.le_trans hk (own_wrSz W)
  replace S_a1 := Safe.wr W So H.1 S_a1
  replace H := H.trans (CHr.wr W So H.1)
  refine own_via (g' := (mkF m 18 (own_A13 a1 wU8 bb 0 0) [])) st ?_
  refine own_via (g' := (mkF m 21 (own_A13 a1 wU8 bb 0 0) [(.ref lt), (.ref a1)])) (fun t_ k_ => XS.aloadN X.here hx rfl (hb hby ej42m11_d18) rfl rfl (ldcAgain X hx hZ hown (hw _ (own_w 229 rfl)) hLit (g := (mkF m 19 (own_A13 a1 wU8 bb 0 0) [(.ref a1)])) rfl (hb hby ej42m11_d19) _ k_)) ?_
  obtain ⟨T, X, eT, st⟩ := getF X hx hZ hown (host := "") (Or.inl (hw _ (own_w 94 rfl))) Via.refl eT F_coder_lt (g := (mkF m 21 (own_A13 a1 wU8 bb 0 0) [(.ref lt), (.ref a1)])) rfl rfl (hb hby ej42m11_d21)
  refine own_via (g' := (mkF m 24 (own_A13 a1 wU8 bb 0 0) [(.int 0), (.ref a1)])) st ?_
  obtain ⟨T, h3, X, eT, W, st⟩ := putFN X hx hZ hown (hw _ (own_w 94 rfl)) Via.refl eT F_coder_a1 E_a1 (Or.inr ⟨(hw _ (own_w 68 rfl)), rfl, hnm⟩) (hw _ (own_w 66 rfl)) (ty := .byte) (v' := (.int 0)) (by decide) rfl (by decide) (g := (mkF m 24 (own_A13 a1 wU8 bb 0 0) [(.int 0), (.ref a1)])) rfl rfl (hb hby ej42m11_d24)
  replace F_coder_a1 := F_coder_a1.same W
  have So := S_a1
  replace E_a1 := E_a1.wr W
  replace F_value_a1 := F_value_a1.other W (Or.inr (slot_ne (Or.inr (hw _ (own_w 67 rfl))) (Or.inr (hw _ (own_w 68 rfl))) (by decide) (t := (.array .byte)) (t' := .byte) (by decide) (by decide)))
  replace E_lt := E_lt.wr W
  replace F_coder_lt := F_coder_lt.other W (Or.inl (Ne.symm ne_a1_lt))
  replace F_value_lt := F_value_lt.other W (Or.inl (Ne.symm ne_a1_lt))
  replace V_lb := V_lb.other W (Ne.symm ne_a1_lb)
  replace O := O.wr W g_a1
  replace K0 := K0.wr W (Or.inl (List.mem_of_getElem? (i := 0) rfl))
  replace N := Fr.snoc X N g_a1
  replace hk := Nat.le_trans hk (own_wrSz W)
  replace S_a1 := Safe.wr W So H.1 S_a1
  replace H := H.trans (CHr.wr W So H.1)
  refine own_via (g' := (mkF m 27 (own_A13 a1 wU8 bb 0 0) [])) st ?_
  refine own_via (g' := (mkF m 879 (own_A13 a1 wU8 bb 0 0) [])) (fun t_ k_ => XS.goto X.here hx rfl (pc0 := 27) (pc' := 879) rfl (hb hby ej42m11_d27) (by decide) (by decide) k_) ?_
  refine own_retVW X hS (by rw [eT]; exact hk) hx hlk Bd.returns (hb hby ej42m11_d879) (by decide) (by decide) (fun fs => by show CHr Z own_EL s.vm s.heap T.vm T.heap; rw [eT, hh]; exact H.trans (CHv.at X hZ hEL H.1)) ?_
  rw [eT]
  exact ⟨lb, klb, rfl, N, K0, E_a1, F_value_a1, F_coder_a1, V_lb⟩
theorem ej42m10_d0 : decode jdk_42_method_10_code 0 = .ok (.aload_n 0, 1) := by decide +kernel
theorem ej42m10_d1 : decode jdk_42_method_10_code 1 = .ok (.aload 4, 2) := by decide +kernel
theorem ej42m10_d3 : decode jdk_42_method_10_code 3 = .ok (.invokestatic 78, 3) := by decide +kernel
theorem ej42m10_d6 : decode jdk_42_method_10_code 6 = .ok (.checkcast 84, 3) := by decide +kernel
theorem ej42m10_d9 : decode jdk_42_method_10_code 9 = .ok (.aload_n 1, 1) := by decide +kernel
theorem ej42m10_d10 : decode jdk_42_method_10_code 10 = .ok (.iload_n 2, 1) := by decide +kernel
theorem ej42m10_d11 : decode jdk_42_method_10_code 11 = .ok (.iload_n 3, 1) := by decide +kernel
theorem ej42m10_d12 : decode jdk_42_method_10_code 12 = .ok (.aload_n 1, 1) := by decide +kernel
theorem ej42m10_d13 : decode jdk_42_method_10_code 13 = .ok (.arraylength, 1) := by decide +kernel
theorem ej42m10_d14 : decode jdk_42_method_10_code 14 = .ok (.invokestatic 34, 3) := by decide +kernel
theorem ej42m10_d17 : decode jdk_42_method_10_code 17 = .ok (.iload_n 3, 1) := by decide +kernel
theorem ej42m10_d18 : decode jdk_42_method_10_code 18 = .ok (.invokespecial 75, 3) := by decide +kernel
theorem ej42m10_d21 : decode jdk_42_method_10_code 21 = .ok (.return_, 1) := by decide +kernel
theorem own_sz2_pn : plainFor (⟨"java/lang/String", "<init>", "([BIILjava/nio/charset/Charset;)V"⟩ : MethodName) = true := by first | exact plainFor_of_name (by first | (simp [plainName, overriddenIn]; done) | decide +kernel) | decide +kernel | exact Jvm.Free.JP.mathPlain rfl (by decide +kernel)
theorem own_sz2_ef (m : MethodId) (x0 : Addr) (x1 : Addr) (x2 : Int32) (x3 : Int32) (x4 : Addr) : entryFrame m #[(.ref x0), (.ref x1), (.int x2), (.int x3), (.ref x4)] 5 = mkF m 0 #[.val (.ref x0), .val (.ref x1), .val (.int x2), .val (.int x3), .val (.ref x4)] [] := by first | (simp [entryFrame, mkF, argsToLocals, Value.category]; done) | rfl
def own_sz2_Q (Z : State) (a1 : Addr) (wU8 : Addr) (bb : Addr) (kb_ : ClassId) (vS : Value) (h0 : Heap) (n0 : Nat) (v : Option Value) (h : Heap) (L : List Loc) : Prop := ∃ b kb, v = none ∧ Fr n0 L ∧ Keep h0 h [a1] ∧ Exa Z h a1 "java/lang/String" ∧ Fld Z h a1 "java/lang/String" "value" "[B" (.ref b) ∧ Fld Z h a1 "java/lang/String" "coder" "B" (.int 0) ∧ Arv Z h b kb .byte (0 : Int32) ([] : List Value) (.int 0)
set_option maxRecDepth 65536 in
set_option maxHeartbeats 40000000 in
theorem own_sz2 (l : Launch) (Z : State) (a0 : Array Value) (hw : ∀ d ∈ tables_1, d.before a0 Z = true) (ws : List Jvm.Cond) (a1 : Addr) (wU8 : Addr) (bb : Addr) (kb_ : ClassId) (vS : Value) (h0 : Heap) (n0 : Nat) (O : Old Z n0 h0) (E_a1 : Exa Z h0 a1 "java/lang/String") (F_value_a1 : Fld Z h0 a1 "java/lang/String" "value" "[B" .null) (F_coder_a1 : Fld Z h0 a1 "java/lang/String" "coder" "B" (.int 0)) (V_bb : Arv Z h0 bb kb_ .byte (0 : Int32) ([] : List Value) (.int 0)) (g_a1 : n0 ≤ a1) (ne_a1_bb : a1 ≠ bb) (E_u8 : Exa Z Z.heap wU8 "sun/nio/cs/UTF_8") (S_S : Sta Z Z.heap "jdk/internal/util/Preconditions" "SIOOBE_FORMATTER" "Ljava/util/function/BiFunction;" vS) (hvS : vS.isRef = true) :
    MetFree l (⟨"java/lang/String", "<init>", "([BIILjava/nio/charset/Charset;)V"⟩ : MethodName) (head1 (Jvm.Cond.code (⟨"java/lang/String", "<init>", "([BIILjava/nio/charset/Charset;)V"⟩ : MethodName) jdk_42_method_10_code 5 none :: ws) ({ frames := 2, cells := 2, slots := 4, locals := 34 } : Room)) (fun a U => a = #[(.ref a1), (.ref bb), (.int 0), (.int 0), (.ref wU8)] ∧ Z.Warmed39 U.vm ∧ U.heap = h0 ∧ CHv Z own_EL U.vm h0) (fun _ _ _ _ _ => True) (fun _ U o U' => ∃ v L, o = .returned v ∧ own_sz2_Q Z a1 wU8 bb kb_ vS h0 n0 v U'.heap L ∧ CHr Z own_EL U.vm U.heap U'.vm U'.heap ∧ ReturnedEndW U o U' L ({ frames := 2, cells := 2, slots := 4, locals := 34 } : Room).cells ({ frames := 2, cells := 2, slots := 4, locals := 34 } : Room).slots) := by
  refine MetFree.of_bodySF own_sz2_pn hisR ?_
  intro p e s m args below meth c s₁ Bd hml0 hP hK
  obtain ⟨rfl, hZ, hh, H0⟩ := hP
  have hx := Bd.exec
  have hby := Bd.bytes
  have hlk := Bd.notSynchronized
  have hml : c.maxLocals = 5 := hml0
  have hown : s.vm.findClass "java/lang/String" = some m.cls := findClass_of_methodNamed Bd.named
  have hnm := (name_of_methodNamed Bd.named Bd.method).1
  have X : Stand p l e ({ frames := 2, cells := 2, slots := 4, locals := 34 } : Room) s m #[(.ref a1), (.ref bb), (.int 0), (.int 0), (.ref wU8)] below meth c s₁ [] 0 0 := Stand.of_body Bd
  have eT : s₁.heap = h0 := by rw [← hh, Bd.state]; rfl
  have N := Fr.nil n0
  have K0 := Keep.refl h0 [a1]
  show own_Ends p e below (own_PostW s below (own_sz2_Q Z a1 wU8 bb kb_ vS h0 n0) (fun u => CHr Z own_EL s.vm s.heap u.vm u.heap) ({ frames := 2, cells := 2, slots := 4, locals := 34 } : Room).cells ({ frames := 2, cells := 2, slots := 4, locals := 34 } : Room).slots) s₁ (entryFrame m #[(.ref a1), (.ref bb), (.int 0), (.int 0), (.ref wU8)] 5)
  rw [own_sz2_ef m a1 bb (0 : Int32) (0 : Int32) wU8]
  obtain ⟨T, hT⟩ : ∃ z, z = s₁ := ⟨_, rfl⟩
  rw [← hT] at X eT ⊢
  obtain ⟨h, hh0⟩ : ∃ z, z = h0 := ⟨_, rfl⟩
  rw [← hh0] at eT
  replace O : Old Z n0 h := by rw [hh0]; exact O
  replace K0 : Keep h0 h [a1] := by rw [hh0]; exact K0
  rw [← hh0] at E_a1
  rw [← hh0] at F_value_a1
  rw [← hh0] at F_coder_a1
  rw [← hh0] at V_bb
  have wS : ∀ a ∈ Bundle.stringAtoms, a.before a0 Z = true := fun a ha => hw a ((by decide +kernel : ∀ d ∈ Bundle.stringAtoms, d ∈ tables_1) a ha)
  have hEL := own_hEL hw
  refine own_via (g' := (mkF m 3 (own_A26 a1 bb 0 0 wU8) [(.ref wU8), (.ref a1)])) (fun t_ k_ => XS.aloadN X.here hx rfl (hb hby ej42m10_d0) rfl rfl (XS.aload X.here hx rfl (hb hby ej42m10_d1) rfl rfl k_)) ?_
  obtain ⟨_, _, ⟨T, Lq, kq, nq⟩, -, X, ⟨Lc, hQ, lq, yq, zq⟩, st⟩ := Jvm.LawKit.callS X hx (y := own_y20) hown (mvT hZ (hw _ (own_w 212 rfl))) (mvT hZ (hw _ (own_w 213 rfl))) (mvT hZ (hw _ (own_w 214 rfl))) (mvT hZ (hw _ (own_w 215 rfl))) (by decide) (backOf (W := 1) (own_rnn l Z a0 hw [] wU8 h n0 O ) hZ (hw _ (own_w 215 rfl)) (hw _ (own_w 214 rfl)) (by decide) (by decide)) (g := (mkF m 3 (own_A26 a1 bb 0 0 wU8) [(.ref wU8), (.ref a1)])) rfl (by rw [hml]; rfl) (argsL := [(.ref wU8)]) (rest := [(.ref a1)]) (lenOf own_pd17 rfl) rfl (by show 2 * 0 + _ ≤ _; exact Nat.le_of_eq rfl) (hb hby ej42m10_d3) (fun _ _ => ⟨rfl, eT, (by decide : 0 + 0 ≤ _), (by decide : 0 + 0 ≤ _)⟩)
  dsimp only [Pt.U, Pt.locs, Pt.cells, Pt.slots] at X lq yq zq st hQ
  rw [lq, yq, zq] at X
  obtain ⟨rfl, Nq, eT⟩ := hQ
  replace N := Fr.app N Nq
  refine own_via (g' := (mkF m 6 (own_A26 a1 bb 0 0 wU8) [(.ref wU8), (.ref a1)])) st ?_
  obtain ⟨T, X, eT, st⟩ := castY X hx hZ hown (hw _ (own_w 216 rfl)) eT (Ins.of_exa (E_u8.ext O.2) (hw _ (own_w 217 rfl))) (g := (mkF m 6 (own_A26 a1 bb 0 0 wU8) [(.ref wU8), (.ref a1)])) rfl rfl (hb hby ej42m10_d6)
  refine own_via (g' := (mkF m 9 (own_A26 a1 bb 0 0 wU8) [(.ref wU8), (.ref a1)])) st ?_
  refine own_via (g' := (mkF m 13 (own_A26 a1 bb 0 0 wU8) [(.ref bb), (.int 0), (.int 0), (.ref bb), (.ref wU8), (.ref a1)])) (fun t_ k_ => XS.aloadN X.here hx rfl (hb hby ej42m10_d9) rfl rfl (XS.iloadN X.here hx rfl (hb hby ej42m10_d10) rfl (XS.iloadN X.here hx rfl (hb hby ej42m10_d11) rfl (XS.aloadN X.here hx rfl (hb hby ej42m10_d12) rfl rfl k_)))) ?_
  obtain ⟨cl_, Ar_, -, Sz_, Nn_, -, -⟩ := id V_bb
  refine own_via (g' := (mkF m 14 (own_A26 a1 bb 0 0 wU8) [(.int 0), (.int 0), (.int 0), (.ref bb), (.ref wU8), (.ref a1)])) (fun t_ k_ => X.arraylength hx (by rw [eT]; exact Ar_.1) (State.isArrayOf_alike hZ.alike Ar_.2.1) (g := (mkF m 13 (own_A26 a1 bb 0 0 wU8) [(.ref bb), (.int 0), (.int 0), (.ref bb), (.ref wU8), (.ref a1)])) rfl rfl (hb hby ej42m10_d13) _ (by rw [len_of Sz_ Nn_]; exact k_)) ?_
  obtain ⟨_, _, ⟨T, Lq, kq, nq⟩, -, X, ⟨Lc, hQ, lq, yq, zq⟩, st⟩ := Jvm.LawKit.callS X hx (y := own_y21) hown (mvT hZ (hw _ (own_w 218 rfl))) (mvT hZ (hw _ (own_w 219 rfl))) (mvT hZ (hw _ (own_w 65 rfl))) (mvT hZ (hw _ (own_w 220 rfl))) (by decide) (backOf (W := 3) (own_cbo l Z a0 hw [] vS h n0 O S_S hvS) hZ (hw _ (own_w 220 rfl)) (hw _ (own_w 65 rfl)) (by decide) (by decide)) (g := (mkF m 14 (own_A26 a1 bb 0 0 wU8) [(.int 0), (.int 0), (.int 0), (.ref bb), (.ref wU8), (.ref a1)])) rfl (by rw [hml]; rfl) (argsL := [(.int 0), (.int 0), (.int 0)]) (rest := [(.ref bb), (.ref wU8), (.ref a1)]) (lenOf own_pd18 rfl) rfl (by show 2 * 0 + _ ≤ _; exact Nat.le_of_eq rfl) (hb hby ej42m10_d14) (fun _ _ => ⟨rfl, eT, (by decide : 0 + 0 ≤ _), (by decide : 0 + 0 ≤ _)⟩)
  dsimp only [Pt.U, Pt.locs, Pt.cells, Pt.slots] at X lq yq zq st hQ
  rw [lq, yq, zq] at X
  obtain ⟨rfl, Nq, eT⟩ := hQ
  replace N := Fr.app N Nq
  refine own_via (g' := (mkF m 17 (own_A26 a1 bb 0 0 wU8) [(.int 0), (.ref bb), (.ref wU8), (.ref a1)])) st ?_
  refine own_via (g' := (mkF m 18 (own_A26 a1 bb 0 0 wU8) [(.int 0), (.int 0), (.ref bb), (.ref wU8), (.ref a1)])) (fun t_ k_ => XS.iloadN X.here hx rfl (hb hby ej42m10_d17) rfl k_) ?_
  have H : CHr Z own_EL s.vm h0 s.vm h := by rw [hh0]; exact CHr.refl H0
  replace X := own_base X
  have hS := (State.WarmedH.refl s).since h0.size
  have hk : h0.size ≤ h.size := K0.1
  replace hZ : Z.Warmed39 (s.setVm s.vm).vm := hZ
  replace hown : (s.setVm s.vm).vm.findClass "java/lang/String" = some m.cls := hown
  obtain ⟨_, _, ⟨T, Lq, kq, nq⟩, -, X, hSq, hgr, ⟨Lc, hQ, lq, yq, zq, hCH⟩, st⟩ := own_specialBackSH X hx (y := own_y22) rfl hown (mvT hZ (hw _ (own_w 226 rfl))) (mvT hZ (hw _ (own_w 227 rfl))) (mvT hZ (hw _ (own_w 228 rfl))) (by decide) (own_backSHW (W := 0) (s := s) (own_sz1 l Z a0 hw [] a1 wU8 bb h n0 O E_a1 F_value_a1 F_coder_a1 g_a1) hZ (hw _ (own_w 228 rfl)) (hw _ (own_w 65 rfl)) (by decide) (by decide) hEL H.1) (g := (mkF m 18 (own_A26 a1 bb 0 0 wU8) [(.int 0), (.int 0), (.ref bb), (.ref wU8), (.ref a1)])) rfl (by rw [hml]; rfl) (Steps.refl _) (a := a1) (argsL := [(.ref wU8), (.ref bb), (.int 0), (.int 0)]) (rest := []) (lenOf own_pd19 rfl) rfl (by show 2 * 0 + _ ≤ _; exact Nat.le_of_eq rfl) (hb hby ej42m10_d18) (fun _ _ => ⟨rfl, eT, (by decide : 0 + 2 ≤ _), (by decide : 0 + 4 ≤ _)⟩)
  dsimp only [Pt.U, Pt.locs, Pt.cells, Pt.slots] at X hSq hgr lq yq zq st hQ hCH
  rw [lq, yq, zq] at X
  obtain ⟨lb, klb, rfl, Nq, Kq, E_a1, F_value_a1, F_coder_a1, V_lb⟩ := hQ
  replace N := Fr.app N Nq
  replace hS := own_reS hS hSq (Nat.le_trans hk (by rw [← eT]; exact hgr))
  replace hZ := own_reZ hZ hSq
  replace hown := own_reown hown hSq
  replace hk := Nat.le_refl T.heap.size
  obtain ⟨vmW, eW⟩ : ∃ z, T.vm = z := ⟨_, rfl⟩
  rw [eW] at X hS hZ hown hCH
  replace X := own_flat X
  obtain ⟨h1, eT⟩ : ∃ z, T.heap = z := ⟨_, rfl⟩
  rw [eT] at Kq E_a1 F_value_a1 F_coder_a1 V_lb
  replace V_bb := V_bb.keep Kq (ninS (Ne.symm ne_a1_bb) nin0)
  replace O := O.keep Kq (allS g_a1 all0)
  replace K0 := K0.trans Kq (allS (Or.inl (List.mem_of_getElem? (i := 0) rfl)) all0)
  rw [eT] at hk hS
  rw [eT] at hCH
  replace H := H.trans hCH
  refine own_viaT (g' := (mkF m 21 (own_A26 a1 bb 0 0 wU8) [])) st ?_
  refine own_retVW X hS (by rw [eT]; exact hk) hx hlk Bd.returns (hb hby ej42m10_d21) (by decide) (by decide) (fun fs => by show CHr Z own_EL s.vm s.heap T.vm T.heap; rw [eT, hh]; exact H.trans (CHv.at X hZ hEL H.1)) ?_
  rw [eT]
  exact ⟨lb, klb, rfl, N, K0, E_a1, F_value_a1, F_coder_a1, V_lb⟩
theorem ep11m12_d0 : decode prog_11_method_12_code 0 = .ok (.new 94, 3) := by decide +kernel
theorem ep11m12_d3 : decode prog_11_method_12_code 3 = .ok (.dup, 1) := by decide +kernel
theorem ep11m12_d4 : decode prog_11_method_12_code 4 = .ok (.aload_n 0, 1) := by decide +kernel
theorem ep11m12_d5 : decode prog_11_method_12_code 5 = .ok (.getfield 29, 3) := by decide +kernel
theorem ep11m12_d8 : decode prog_11_method_12_code 8 = .ok (.iconst 0, 1) := by decide +kernel
theorem ep11m12_d9 : decode prog_11_method_12_code 9 = .ok (.aload_n 0, 1) := by decide +kernel
theorem ep11m12_d10 : decode prog_11_method_12_code 10 = .ok (.getfield 42, 3) := by decide +kernel
theorem ep11m12_d13 : decode prog_11_method_12_code 13 = .ok (.aload_n 0, 1) := by decide +kernel
theorem ep11m12_d14 : decode prog_11_method_12_code 14 = .ok (.ldc 152, 2) := by decide +kernel
theorem ep11m12_d16 : decode prog_11_method_12_code 16 = .ok (.invokevirtual 154, 3) := by decide +kernel
theorem ep11m12_d19 : decode prog_11_method_12_code 19 = .ok (.invokestatic 157, 3) := by decide +kernel
theorem ep11m12_d22 : decode prog_11_method_12_code 22 = .ok (.invokespecial 161, 3) := by decide +kernel
theorem ep11m12_d25 : decode prog_11_method_12_code 25 = .ok (.areturn, 1) := by decide +kernel
theorem own_bodyText_pn : plainFor (⟨"com/example/brassrig/brassrig/engine/ResponseReader", "bodyText", "()Ljava/lang/String;"⟩ : MethodName) = true := by first | exact plainFor_of_name (by first | (simp [plainName, overriddenIn]; done) | decide +kernel) | decide +kernel | exact Jvm.Free.JP.mathPlain rfl (by decide +kernel)
theorem own_bodyText_ef (m : MethodId) (x0 : Addr) : entryFrame m #[(.ref x0)] 1 = mkF m 0 #[.val (.ref x0)] [] := by first | (simp [entryFrame, mkF, argsToLocals, Value.category]; done) | rfl
def own_bodyText_Q (Z : State) (a1 : Addr) (bb : Addr) (kb_ : ClassId) (wL : Addr) (wBL : Addr) (wLG : Addr) (wLV : Addr) (kLV : ClassId) (dLV : Value) (wCD : Addr) (wASC : Addr) (wU8 : Addr) (wISO : Addr) (wEL : Addr) (wEA : Addr) (kEA : ClassId) (dE : Value) (zc : Int32) (vS : Value) (h0 : Heap) (n0 : Nat) (v : Option Value) (h : Heap) (L : List Loc) : Prop := ∃ r b kb, v = some (.ref r) ∧ Fr n0 L ∧ Keep h0 h [] ∧ Exa Z h r "java/lang/String" ∧ Fld Z h r "java/lang/String" "value" "[B" (.ref b) ∧ Arv Z h b kb .byte (0 : Int32) ([] : List Value) (.int 0)
set_option maxRecDepth 65536 in
set_option maxHeartbeats 40000000 in
theorem own_bodyText (l : Launch) (Z : State) (a0 : Array Value) (hw : ∀ d ∈ tables_1, d.before a0 Z = true) (ws : List Jvm.Cond) (a1 : Addr) (bb : Addr) (kb_ : ClassId) (wL : Addr) (wBL : Addr) (wLG : Addr) (wLV : Addr) (kLV : ClassId) (dLV : Value) (wCD : Addr) (wASC : Addr) (wU8 : Addr) (wISO : Addr) (wEL : Addr) (wEA : Addr) (kEA : ClassId) (dE : Value) (zc : Int32) (vS : Value) (h0 : Heap) (n0 : Nat) (O : Old Z n0 h0) (E_a1 : Exa Z h0 a1 "com/example/brassrig/brassrig/engine/ResponseReader") (F_fieldCount_a1 : Fld Z h0 a1 "com/example/brassrig/brassrig/engine/ResponseReader" "fieldCount" "I" (.int 0)) (F_body_a1 : Fld Z h0 a1 "com/example/brassrig/brassrig/engine/ResponseReader" "body" "[B" (.ref bb)) (F_bodyLength_a1 : Fld Z h0 a1 "com/example/brassrig/brassrig/engine/ResponseReader" "bodyLength" "I" (.int 0)) (V_bb : Arv Z h0 bb kb_ .byte (0 : Int32) ([] : List Value) (.int 0)) (S_loc : Sta Z Z.heap "java/util/Locale" "ROOT" "Ljava/util/Locale;" (.ref wL)) (E_loc : Exa Z Z.heap wL "java/util/Locale") (F_bl : Fld Z Z.heap wL "java/util/Locale" "baseLocale" "Lsun/util/locale/BaseLocale;" (.ref wBL)) (E_bl : Exa Z Z.heap wBL "sun/util/locale/BaseLocale") (F_lg : Fld Z Z.heap wBL "sun/util/locale/BaseLocale" "language" "Ljava/lang/String;" (.ref wLG)) (F_lgv : Fld Z Z.heap wLG "java/lang/String" "value" "[B" (.ref wLV)) (A_lg : Arv Z Z.heap wLV kLV .byte (0 : Int32) ([] : List Value) dLV) (S_cd : Sta Z Z.heap "java/lang/CharacterDataLatin1" "instance" "Ljava/lang/CharacterDataLatin1;" (.ref wCD)) (E_cd : Exa Z Z.heap wCD "java/lang/CharacterDataLatin1") (S_u8 : Sta Z Z.heap "sun/nio/cs/UTF_8" "INSTANCE" "Lsun/nio/cs/UTF_8;" (.ref wU8)) (S_iso : Sta Z Z.heap "sun/nio/cs/ISO_8859_1" "INSTANCE" "Lsun/nio/cs/ISO_8859_1;" (.ref wISO)) (S_asc : Sta Z Z.heap "sun/nio/cs/US_ASCII" "INSTANCE" "Lsun/nio/cs/US_ASCII;" (.ref wASC)) (S_sca : Sta Z Z.heap "java/nio/charset/StandardCharsets" "US_ASCII" "Ljava/nio/charset/Charset;" (.ref wASC)) (neA8 : ¬ wASC = wU8) (neAI : ¬ wASC = wISO) (S_el : Sta Z Z.heap "java/util/ImmutableCollections" "EMPTY_LIST" "Ljava/util/ImmutableCollections$ListN;" (.ref wEL)) (E_el : Exa Z Z.heap wEL "java/util/ImmutableCollections$ListN") (F_el : Fld Z Z.heap wEL "java/util/ImmutableCollections$ListN" "elements" "[Ljava/lang/Object;" (.ref wEA)) (A_el : Arv Z Z.heap wEA kEA (.object "java/lang/Object") (0 : Int32) ([] : List Value) dE) (S_C : Sta Z Z.heap "java/lang/String" "COMPACT_STRINGS" "Z" (.int zc)) (hzc : ¬ zc = 0) (S_su8 : Sta Z Z.heap "java/nio/charset/StandardCharsets" "UTF_8" "Ljava/nio/charset/Charset;" (.ref wU8)) (E_u8 : Exa Z Z.heap wU8 "sun/nio/cs/UTF_8") (S_S : Sta Z Z.heap "jdk/internal/util/Preconditions" "SIOOBE_FORMATTER" "Ljava/util/function/BiFunction;" vS) (hvS : vS.isRef = true) :
    MetFree l (⟨"com/example/brassrig/brassrig/engine/ResponseReader", "bodyText", "()Ljava/lang/String;"⟩ : MethodName) (head1 (Jvm.Cond.code (⟨"com/example/brassrig/brassrig/engine/ResponseReader", "bodyText", "()Ljava/lang/String;"⟩ : MethodName) prog_11_method_12_code 1 (some (.object "java/lang/String")) :: ws) ({ frames := 7, cells := 15, slots := 124, locals := 108 } : Room)) (fun a U => a = #[(.ref a1)] ∧ Z.Warmed39 U.vm ∧ U.heap = h0 ∧ CHv Z own_EL U.vm h0) (fun _ _ _ _ _ => True) (fun _ U o U' => ∃ v L, o = .returned v ∧ own_bodyText_Q Z a1 bb kb_ wL wBL wLG wLV kLV dLV wCD wASC wU8 wISO wEL wEA kEA dE zc vS h0 n0 v U'.heap L ∧ CHr Z own_EL U.vm U.heap U'.vm U'.heap ∧ ReturnedEndW U o U' L ({ frames := 7, cells := 15, slots := 124, locals := 108 } : Room).cells ({ frames := 7, cells := 15, slots := 124, locals := 108 } : Room).slots) := by
  refine MetFree.of_bodySF own_bodyText_pn hisR ?_
  intro p e s m args below meth c s₁ Bd hml0 hP hK
  obtain ⟨rfl, hZ, hh, H0⟩ := hP
  have hx := Bd.exec
  have hby := Bd.bytes
  have hlk := Bd.notSynchronized
  have hml : c.maxLocals = 1 := hml0
  have hown : s.vm.findClass "com/example/brassrig/brassrig/engine/ResponseReader" = some m.cls := findClass_of_methodNamed Bd.named
  have hnm := (name_of_methodNamed Bd.named Bd.method).1
  have X : Stand p l e ({ frames := 7, cells := 15, slots := 124, locals := 108 } : Room) s m #[(.ref a1)] below meth c s₁ [] 0 0 := Stand.of_body Bd
  have eT : s₁.heap = h0 := by rw [← hh, Bd.state]; rfl
  have N := Fr.nil n0
  have K0 := Keep.refl h0 []
  show own_Ends p e below (own_PostW s below (own_bodyText_Q Z a1 bb kb_ wL wBL wLG wLV kLV dLV wCD wASC wU8 wISO wEL wEA kEA dE zc vS h0 n0) (fun u => CHr Z own_EL s.vm s.heap u.vm u.heap) ({ frames := 7, cells := 15, slots := 124, locals := 108 } : Room).cells ({ frames := 7, cells := 15, slots := 124, locals := 108 } : Room).slots) s₁ (entryFrame m #[(.ref a1)] 1)
  rw [own_bodyText_ef m a1]
  obtain ⟨T, hT⟩ : ∃ z, z = s₁ := ⟨_, rfl⟩
  rw [← hT] at X eT ⊢
  obtain ⟨h, hh0⟩ : ∃ z, z = h0 := ⟨_, rfl⟩
  rw [← hh0] at eT
  replace O : Old Z n0 h := by rw [hh0]; exact O
  replace K0 : Keep h0 h [] := by rw [hh0]; exact K0
  rw [← hh0] at E_a1
  rw [← hh0] at F_fieldCount_a1
  rw [← hh0] at F_body_a1
  rw [← hh0] at F_bodyLength_a1
  rw [← hh0] at V_bb
  have wS : ∀ a ∈ Bundle.stringAtoms, a.before a0 Z = true := fun a ha => hw a ((by decide +kernel : ∀ d ∈ Bundle.stringAtoms, d ∈ tables_1) a ha)
  have hEL := own_hEL hw
  obtain ⟨b1, gb⟩ : ∃ z, z = h.size := ⟨_, rfl⟩
  obtain ⟨T, h2, X, eT, E, E_b1, Dq, -, st⟩ := newO X hx hZ hown (hw _ (own_w 170 rfl)) (hw _ (own_w 66 rfl)) (hw _ (own_w 65 rfl)) eT (g := (mkF m 0 #[.val (.ref a1)] [])) rfl (hb hby ep11m12_d0) (by decide) (by decide)
  rw [← gb] at E_b1 Dq st
  have ne_a1_b1 : a1 ≠ b1 := Nat.ne_of_lt (Nat.lt_of_lt_of_le E_a1.lt (Nat.le_of_eq gb.symm))
  have ne_bb_b1 : bb ≠ b1 := Nat.ne_of_lt (Nat.lt_of_lt_of_le V_bb.lt (Nat.le_of_eq gb.symm))
  have g_b1 : n0 ≤ b1 := Nat.le_trans (own_le O) (Nat.le_of_eq gb.symm)
  have sz_b1 : h0.size ≤ b1 := Nat.le_trans K0.1 (Nat.le_of_eq gb.symm)
  replace E_a1 := E_a1.ext E
  replace F_fieldCount_a1 := F_fieldCount_a1.ext E
  replace F_body_a1 := F_body_a1.ext E
  replace F_bodyLength_a1 := F_bodyLength_a1.ext E
  replace V_bb := V_bb.ext E
  replace O := O.ext E
  replace K0 := K0.ext E
  have F_value_b1 : Fld Z h2 b1 "java/lang/String" "value" "[B" .null := Dq (Or.inr (hw _ (own_w 67 rfl))) (ty := (.array .byte)) (by decide)
  have F_coder_b1 : Fld Z h2 b1 "java/lang/String" "coder" "B" (.int 0) := Dq (Or.inr (hw _ (own_w 68 rfl))) (ty := .byte) (by decide)
  refine own_via (g' := (mkF m 3 #[.val (.ref a1)] [(.ref b1)])) st ?_
  refine own_via (g' := (mkF m 5 #[.val (.ref a1)] [(.ref a1), (.ref b1), (.ref b1)])) (fun t_ k_ => XS.dup X.here hx rfl (hb hby ep11m12_d3) rfl rfl (XS.aloadN X.here hx rfl (hb hby ep11m12_d4) rfl rfl k_)) ?_
  obtain ⟨T, X, eT, st⟩ := getF X hx hZ hown (host := "") (Or.inl (hw _ (own_w 22 rfl))) Via.refl eT F_body_a1 (g := (mkF m 5 #[.val (.ref a1)] [(.ref a1), (.ref b1), (.ref b1)])) rfl rfl (hb hby ep11m12_d5)
  refine own_via (g' := (mkF m 8 #[.val (.ref a1)] [(.ref bb), (.ref b1), (.ref b1)])) st ?_
  refine own_via (g' := (mkF m 10 #[.val (.ref a1)] [(.ref a1), (.int 0), (.ref bb), (.ref b1), (.ref b1)])) (fun t_ k_ => XS.iconst X.here hx rfl (hb hby ep11m12_d8) (XS.aloadN X.here hx rfl (hb hby ep11m12_d9) rfl rfl k_)) ?_
  obtain ⟨T, X, eT, st⟩ := getF X hx hZ hown (host := "") (Or.inl (hw _ (own_w 35 rfl))) Via.refl eT F_bodyLength_a1 (g := (mkF m 10 #[.val (.ref a1)] [(.ref a1), (.int 0), (.ref bb), (.ref b1), (.ref b1)])) rfl rfl (hb hby ep11m12_d10)
  refine own_via (g' := (mkF m 13 #[.val (.ref a1)] [(.int 0), (.int 0), (.ref bb), (.ref b1), (.ref b1)])) st ?_
  refine own_via (g' := (mkF m 14 #[.val (.ref a1)] [(.ref a1), (.int 0), (.int 0), (.ref bb), (.ref b1), (.ref b1)])) (fun t_ k_ => XS.aloadN X.here hx rfl (hb hby ep11m12_d13) rfl rfl k_) ?_
  have H : CHr Z own_EL s.vm h0 s.vm h2 := CHr.keep K0 all0 H0
  replace X := own_base X
  have hS := (State.WarmedH.refl s).since h0.size
  have hk : h0.size ≤ h2.size := K0.1
  replace hZ : Z.Warmed39 (s.setVm s.vm).vm := hZ
  replace hown : (s.setVm s.vm).vm.findClass "com/example/brassrig/brassrig/engine/ResponseReader" = some m.cls := hown
  have S_b1 := own_safeNull (EL := own_EL) hZ.alike E_b1 F_value_b1
  have LT_b1 := E_b1.lt
  obtain ⟨s1, T, h3, k1, va, kva, X, eT, E, hS, hk, hZ, hown, E_s1, F_coder_s1, F_value_s1, V_va, lt_s1, lt_va, hCH, hLit, hne, st⟩ := ldcCH (s := s) X hx hZ hown (hw _ (own_w 171 rfl)) wS eT hS hk hEL (by decide) H.1 (vs := [(.int 67), (.int 111), (.int 110), (.int 116), (.int 101), (.int 110), (.int 116), (.int 45), (.int 84), (.int 121), (.int 112), (.int 101)]) (z := (12 : Int32)) ⟨by decide +kernel, by decide +kernel⟩ (by decide) rfl (g := (mkF m 14 #[.val (.ref a1)] [(.ref a1), (.int 0), (.int 0), (.ref bb), (.ref b1), (.ref b1)])) rfl (hb hby ep11m12_d14) (n := 48) (by decide +kernel) (by decide) (by decide) (by decide)
  replace E_a1 := E_a1.ext E
  replace F_fieldCount_a1 := F_fieldCount_a1.ext E
  replace F_body_a1 := F_body_a1.ext E
  replace F_bodyLength_a1 := F_bodyLength_a1.ext E
  replace V_bb := V_bb.ext E
  replace E_b1 := E_b1.ext E
  replace F_value_b1 := F_value_b1.ext E
  replace F_coder_b1 := F_coder_b1.ext E
  replace O := O.ext E
  replace K0 := K0.ext E
  replace S_b1 := hCH.safe LT_b1 S_b1
  have ne_b1_s1 := (hne b1 S_b1).1
  have ne_b1_va := (hne b1 S_b1).2
  replace H := H.trans hCH
  refine own_via (g' := (mkF m 16 #[.val (.ref a1)] [(.ref s1), (.ref a1), (.int 0), (.int 0), (.ref bb), (.ref b1), (.ref b1)])) st ?_
  have E_va := own_litExa hZ.alike hne V_va
  have LT_b1 := E_b1.lt
  obtain ⟨cq, kq, qa, qb, qc⟩ := isOf hZ eT E_a1
  obtain ⟨_, _, ⟨T, Lq, kq, nq⟩, -, X, hSq, hgr, ⟨Lc, hQ, lq, yq, zq, hCH⟩, st⟩ := X.virtualBackS hx (y := own_y23) (z := own_y23) hown (mvT hZ (hw _ (own_w 172 rfl))) (mvT hZ (hw _ (own_w 72 rfl))) (notFace_of_selects (args := #[]) (mvT hZ (hw _ (own_w 74 rfl)))) (mvT hZ (hw _ (own_w 74 rfl))) (mvT hZ (hw _ (own_w 73 rfl))) (by decide) (backOfSH (W := 5) (s := s) (own_valueB l Z a0 hw [] a1 s1 va kva wL wBL wLG wLV kLV dLV wCD wASC wU8 wISO wEL wEA kEA dE zc h3 n0 O E_a1 F_fieldCount_a1 E_s1 F_value_s1 F_coder_s1 E_va V_va S_loc E_loc F_bl E_bl F_lg F_lgv A_lg S_cd E_cd S_u8 S_iso S_asc S_sca neA8 neAI S_el E_el F_el A_el S_C hzc) hZ (hw _ (own_w 75 rfl)) (hw _ (own_w 2 rfl)) (by decide) (by decide) hEL H.1) qa qc (g := (mkF m 16 #[.val (.ref a1)] [(.ref s1), (.ref a1), (.int 0), (.int 0), (.ref bb), (.ref b1), (.ref b1)])) rfl (by rw [hml]; rfl) (Steps.refl _) (argsL := [(.ref s1)]) (rest := [(.int 0), (.int 0), (.ref bb), (.ref b1), (.ref b1)]) (lenOf own_pd20 rfl) rfl (by show 2 * 0 + _ ≤ _; exact Nat.le_of_eq rfl) (hb hby ep11m12_d16) (fun _ _ => ⟨rfl, eT, (by decide : 3 + 9 ≤ _), (by decide : 56 + 64 ≤ _)⟩)
  dsimp only [Pt.U, Pt.locs, Pt.cells, Pt.slots] at X hSq hgr lq yq zq st hQ hCH
  rw [lq, yq, zq] at X
  obtain ⟨rfl, Nq, Kq⟩ := hQ
  replace N := Fr.app N Nq
  replace hS := own_reS hS hSq (Nat.le_trans hk (by rw [← eT]; exact hgr))
  replace hZ := own_reZ hZ hSq
  replace hown := own_reown hown hSq
  replace hk := Nat.le_refl T.heap.size
  obtain ⟨vmW, eW⟩ : ∃ z, T.vm = z := ⟨_, rfl⟩
  rw [eW] at X hS hZ hown hCH
  replace X := own_flat X
  obtain ⟨h4, eT⟩ : ∃ z, T.heap = z := ⟨_, rfl⟩
  rw [eT] at Kq
  replace E_a1 := E_a1.keep Kq
  replace F_fieldCount_a1 := F_fieldCount_a1.keep Kq nin0
  replace F_body_a1 := F_body_a1.keep Kq nin0
  replace F_bodyLength_a1 := F_bodyLength_a1.keep Kq nin0
  replace V_bb := V_bb.keep Kq nin0
  replace E_b1 := E_b1.keep Kq
  replace F_value_b1 := F_value_b1.keep Kq nin0
  replace F_coder_b1 := F_coder_b1.keep Kq nin0
  replace E_s1 := E_s1.keep Kq
  replace F_coder_s1 := F_coder_s1.keep Kq nin0
  replace F_value_s1 := F_value_s1.keep Kq nin0
  replace V_va := V_va.keep Kq nin0
  replace E_va := E_va.keep Kq
  replace O := O.keep Kq all0
  replace K0 := K0.trans Kq all0
  rw [eT] at hk hS
  rw [eT] at hCH
  replace S_b1 := hCH.safe LT_b1 S_b1
  replace H := H.trans hCH
  refine own_viaT (g' := (mkF m 19 #[.val (.ref a1)] [.null, (.int 0), (.int 0), (.ref bb), (.ref b1), (.ref b1)])) st ?_
  obtain ⟨_, _, ⟨T, Lq, kq, nq⟩, -, X, ⟨Lc, hQ, lq, yq, zq⟩, st⟩ := callSH X hx (y := own_y24) hown (mvT hZ (hw _ (own_w 204 rfl))) (mvT hZ (hw _ (own_w 205 rfl))) (mvT hZ (hw _ (own_w 2 rfl))) (mvT hZ (hw _ (own_w 206 rfl))) (by decide) (backOfWith (W := 5) (own_charset l Z a0 hw [] wU8 h4 n0 O S_su8) hZ (hw _ (own_w 206 rfl)) (hw _ (own_w 2 rfl)) (by decide) (by decide)) (g := (mkF m 19 #[.val (.ref a1)] [.null, (.int 0), (.int 0), (.ref bb), (.ref b1), (.ref b1)])) rfl (by rw [hml]; rfl) (argsL := [.null]) (rest := [(.int 0), (.int 0), (.ref bb), (.ref b1), (.ref b1)]) (lenOf own_pd21 rfl) rfl (by show 2 * 0 + _ ≤ _; exact Nat.le_of_eq rfl) (hb hby ep11m12_d19) (fun _ _ => ⟨rfl, eT, (by decide : 12 + 1 ≤ _), (by decide : 120 + 0 ≤ _)⟩)
  dsimp only [Pt.U, Pt.locs, Pt.cells, Pt.slots] at X lq yq zq st hQ
  rw [lq, yq, zq] at X
  obtain ⟨rfl, Nq, Kq⟩ := hQ
  replace N := Fr.app N Nq
  obtain ⟨h5, eT⟩ : ∃ z, T.heap = z := ⟨_, rfl⟩
  rw [eT] at Kq
  replace E_a1 := E_a1.keep Kq
  replace F_fieldCount_a1 := F_fieldCount_a1.keep Kq nin0
  replace F_body_a1 := F_body_a1.keep Kq nin0
  replace F_bodyLength_a1 := F_bodyLength_a1.keep Kq nin0
  replace V_bb := V_bb.keep Kq nin0
  replace E_b1 := E_b1.keep Kq
  replace F_value_b1 := F_value_b1.keep Kq nin0
  replace F_coder_b1 := F_coder_b1.keep Kq nin0
  replace E_s1 := E_s1.keep Kq
  replace F_coder_s1 := F_coder_s1.keep Kq nin0
  replace F_value_s1 := F_value_s1.keep Kq nin0
  replace V_va := V_va.keep Kq nin0
  replace E_va := E_va.keep Kq
  replace O := O.keep Kq all0
  replace K0 := K0.trans Kq all0
  replace hk := Nat.le_trans hk Kq.1
  replace S_b1 := Safe.keep Kq all0 H.1 S_b1
  replace H := H.trans (CHr.keep Kq all0 H.1)
  refine own_via (g' := (mkF m 22 #[.val (.ref a1)] [(.ref wU8), (.int 0), (.int 0), (.ref bb), (.ref b1), (.ref b1)])) st ?_
  have LT_b1 := E_b1.lt
  obtain ⟨_, _, ⟨T, Lq, kq, nq⟩, -, X, hSq, hgr, ⟨Lc, hQ, lq, yq, zq, hCH⟩, st⟩ := X.specialBackS hx (y := own_y25) rfl hown (mvT hZ (hw _ (own_w 209 rfl))) (mvT hZ (hw _ (own_w 210 rfl))) (mvT hZ (hw _ (own_w 211 rfl))) (by decide) (backOfSH (W := 1) (s := s) (own_sz2 l Z a0 hw [] b1 wU8 bb kb_ vS h5 n0 O E_b1 F_value_b1 F_coder_b1 V_bb g_b1 (Ne.symm ne_bb_b1) E_u8 S_S hvS) hZ (hw _ (own_w 211 rfl)) (hw _ (own_w 65 rfl)) (by decide) (by decide) hEL H.1) (g := (mkF m 22 #[.val (.ref a1)] [(.ref wU8), (.int 0), (.int 0), (.ref bb), (.ref b1), (.ref b1)])) rfl (by rw [hml]; rfl) (Steps.refl _) (a := b1) (argsL := [(.ref bb), (.int 0), (.int 0), (.ref wU8)]) (rest := [(.ref b1)]) (lenOf own_pd22 rfl) rfl (by show 2 * 0 + _ ≤ _; exact Nat.le_of_eq rfl) (hb hby ep11m12_d22) (fun _ _ => ⟨rfl, eT, (by decide : 13 + 2 ≤ _), (by decide : 120 + 4 ≤ _)⟩)
  dsimp only [Pt.U, Pt.locs, Pt.cells, Pt.slots] at X hSq hgr lq yq zq st hQ hCH
  rw [lq, yq, zq] at X
  obtain ⟨lb, klb, rfl, Nq, Kq, E_b1, F_value_b1, F_coder_b1, V_lb⟩ := hQ
  replace N := Fr.app N Nq
  replace hS := own_reS hS hSq (Nat.le_trans hk (by rw [← eT]; exact hgr))
  replace hZ := own_reZ hZ hSq
  replace hown := own_reown hown hSq
  replace hk := Nat.le_refl T.heap.size
  obtain ⟨vmW, eW⟩ : ∃ z, T.vm = z := ⟨_, rfl⟩
  rw [eW] at X hS hZ hown hCH
  replace X := own_flat X
  obtain ⟨h6, eT⟩ : ∃ z, T.heap = z := ⟨_, rfl⟩
  rw [eT] at Kq E_b1 F_value_b1 F_coder_b1 V_lb
  replace E_a1 := E_a1.keep Kq
  replace F_fieldCount_a1 := F_fieldCount_a1.keep Kq (ninS ne_a1_b1 nin0)
  replace F_body_a1 := F_body_a1.keep Kq (ninS ne_a1_b1 nin0)
  replace F_bodyLength_a1 := F_bodyLength_a1.keep Kq (ninS ne_a1_b1 nin0)
  replace V_bb := V_bb.keep Kq (ninS ne_bb_b1 nin0)
  replace E_s1 := E_s1.keep Kq
  replace F_coder_s1 := F_coder_s1.keep Kq (ninS (Ne.symm ne_b1_s1) nin0)
  replace F_value_s1 := F_value_s1.keep Kq (ninS (Ne.symm ne_b1_s1) nin0)
  replace V_va := V_va.keep Kq (ninS (Ne.symm ne_b1_va) nin0)
  replace E_va := E_va.keep Kq
  replace O := O.keep Kq (allS g_b1 all0)
  replace K0 := K0.trans Kq (allS (Or.inr sz_b1) all0)
  rw [eT] at hk hS
  rw [eT] at hCH
  replace S_b1 := hCH.safe LT_b1 S_b1
  replace H := H.trans hCH
  refine own_viaT (g' := (mkF m 25 #[.val (.ref a1)] [(.ref b1)])) st ?_
  refine own_retWW X hS (by rw [eT]; exact hk) hx hlk Bd.returns rfl (Or.inr (Or.inr (Or.inr (Or.inr ⟨rfl, rfl, rfl⟩)))) (hb hby ep11m12_d25) (by decide) (by decide) (fun fs => by show CHr Z own_EL s.vm s.heap T.vm T.heap; rw [eT, hh]; exact H.trans (CHv.at X hZ hEL H.1)) ?_
  rw [eT]
  exact ⟨b1, lb, klb, rfl, N, K0, E_b1, F_value_b1, V_lb⟩
theorem ej42m55_d0 : decode jdk_42_method_55_code 0 = .ok (.aload_n 0, 1) := by decide +kernel
theorem ej42m55_d1 : decode jdk_42_method_55_code 1 = .ok (.getfield 9, 3) := by decide +kernel
theorem ej42m55_d4 : decode jdk_42_method_55_code 4 = .ok (.arraylength, 1) := by decide +kernel
theorem ej42m55_d5 : decode jdk_42_method_55_code 5 = .ok (.ifCond .ne 7, 3) := by decide +kernel
theorem ej42m55_d8 : decode jdk_42_method_55_code 8 = .ok (.iconst 1, 1) := by decide +kernel
theorem ej42m55_d9 : decode jdk_42_method_55_code 9 = .ok (.goto 4, 3) := by decide +kernel
theorem ej42m55_d13 : decode jdk_42_method_55_code 13 = .ok (.ireturn, 1) := by decide +kernel
theorem own_sie_pn : plainFor (⟨"java/lang/String", "isEmpty", "()Z"⟩ : MethodName) = true := by first | exact plainFor_of_name (by first | (simp [plainName, overriddenIn]; done) | decide +kernel) | decide +kernel | exact Jvm.Free.JP.mathPlain rfl (by decide +kernel)
theorem own_sie_ef (m : MethodId) (x0 : Addr) : entryFrame m #[(.ref x0)] 1 = mkF m 0 #[.val (.ref x0)] [] := by first | (simp [entryFrame, mkF, argsToLocals, Value.category]; done) | rfl
def own_sie_Q (Z : State) (a1 : Addr) (va : Addr) (kv : ClassId) (h0 : Heap) (n0 : Nat) (v : Option Value) (h : Heap) (L : List Loc) : Prop := v = some (.int 1) ∧ Fr n0 L ∧ h = h0
set_option maxRecDepth 65536 in
set_option maxHeartbeats 40000000 in
theorem own_sie (l : Launch) (Z : State) (a0 : Array Value) (hw : ∀ d ∈ tables_1, d.before a0 Z = true) (ws : List Jvm.Cond) (a1 : Addr) (va : Addr) (kv : ClassId) (h0 : Heap) (n0 : Nat) (O : Old Z n0 h0) (F_value_a1 : Fld Z h0 a1 "java/lang/String" "value" "[B" (.ref va)) (V_va : Arv Z h0 va kv .byte (0 : Int32) ([] : List Value) (.int 0)) :
    MetFree l (⟨"java/lang/String", "isEmpty", "()Z"⟩ : MethodName) (head1 (Jvm.Cond.code (⟨"java/lang/String", "isEmpty", "()Z"⟩ : MethodName) jdk_42_method_55_code 1 (some .boolean) :: ws) ({ frames := 0, cells := 0, slots := 0, locals := 0 } : Room)) (fun a U => a = #[(.ref a1)] ∧ Z.Warmed39 U.vm ∧ U.heap = h0) (fun _ _ _ _ _ => True) (fun _ U o U' => ∃ v L, o = .returned v ∧ own_sie_Q Z a1 va kv h0 n0 v U'.heap L ∧ FrameEnd U o U' L ({ frames := 0, cells := 0, slots := 0, locals := 0 } : Room).cells ({ frames := 0, cells := 0, slots := 0, locals := 0 } : Room).slots) := by
  refine MetFree.of_bodySF own_sie_pn hisR ?_
  intro p e s m args below meth c s₁ Bd hml0 hP hK
  obtain ⟨rfl, hZ, hh⟩ := hP
  have hx := Bd.exec
  have hby := Bd.bytes
  have hlk := Bd.notSynchronized
  have hml : c.maxLocals = 1 := hml0
  have hown : s.vm.findClass "java/lang/String" = some m.cls := findClass_of_methodNamed Bd.named
  have hnm := (name_of_methodNamed Bd.named Bd.method).1
  have X : Stand p l e ({ frames := 0, cells := 0, slots := 0, locals := 0 } : Room) s m #[(.ref a1)] below meth c s₁ [] 0 0 := Stand.of_body Bd
  have eT : s₁.heap = h0 := by rw [← hh, Bd.state]; rfl
  have N := Fr.nil n0
  have K0 := Keep.refl h0 []
  show own_Ends p e below (own_Post s below (own_sie_Q Z a1 va kv h0 n0) ({ frames := 0, cells := 0, slots := 0, locals := 0 } : Room).cells ({ frames := 0, cells := 0, slots := 0, locals := 0 } : Room).slots) s₁ (entryFrame m #[(.ref a1)] 1)
  rw [own_sie_ef m a1]
  obtain ⟨T, hT⟩ : ∃ z, z = s₁ := ⟨_, rfl⟩
  rw [← hT] at X eT ⊢
  obtain ⟨h, hh0⟩ : ∃ z, z = h0 := ⟨_, rfl⟩
  rw [← hh0] at eT
  replace O : Old Z n0 h := by rw [hh0]; exact O
  replace K0 : Keep h0 h [] := by rw [hh0]; exact K0
  rw [← hh0] at F_value_a1
  rw [← hh0] at V_va
  refine own_via (g' := (mkF m 1 #[.val (.ref a1)] [(.ref a1)])) (fun t_ k_ => XS.aloadN X.here hx rfl (hb hby ej42m55_d0) rfl rfl k_) ?_
  obtain ⟨T, X, eT, st⟩ := getF X hx hZ hown (host := "") (Or.inl (hw _ (own_w 95 rfl))) Via.refl eT F_value_a1 (g := (mkF m 1 #[.val (.ref a1)] [(.ref a1)])) rfl rfl (hb hby ej42m55_d1)
  refine own_via (g' := (mkF m 4 #[.val (.ref a1)] [(.ref va)])) st ?_
  obtain ⟨cl_, Ar_, -, Sz_, Nn_, -, -⟩ := id V_va
  refine own_via (g' := (mkF m 5 #[.val (.ref a1)] [(.int 0)])) (fun t_ k_ => X.arraylength hx (by rw [eT]; exact Ar_.1) (State.isArrayOf_alike hZ.alike Ar_.2.1) (g := (mkF m 4 #[.val (.ref a1)] [(.ref va)])) rfl rfl (hb hby ej42m55_d4) _ (by rw [len_of Sz_ Nn_]; exact k_)) ?_
  refine own_via (g' := (mkF m 13 #[.val (.ref a1)] [(.int 1)])) (fun t_ k_ => XS.ifNo X.here hx rfl (hb hby ej42m55_d5) rfl ((if0 _ _).trans (teq (by decide : (0 : Int32) = (0 : Int32))).2) (XS.iconst X.here hx rfl (hb hby ej42m55_d8) (XS.goto X.here hx rfl (pc0 := 9) (pc' := 13) rfl (hb hby ej42m55_d9) (by decide) (by decide) k_))) ?_
  refine own_retN X hx hlk (t := .boolean) Bd.returns (by simp) (hb hby ej42m55_d13) (by decide) (by decide) ?_
  rw [eT]
  exact ⟨rfl, N, hh0⟩
theorem own_law_pn : plainFor x = true := by first | exact plainFor_of_name (by first | (simp [plainName, overriddenIn]; done) | decide +kernel) | decide +kernel | exact Jvm.Free.JP.mathPlain rfl (by decide +kernel)
theorem own_law_ef (m : MethodId) (x0 : Int32) : entryFrame m #[(.int x0)] maxLocals = mkF m 0 #[.val (.int x0), .unset, .unset, .unset, .unset, .unset, .unset, .unset, .unset, .unset, .unset, .unset] [] := by first | (simp [entryFrame, mkF, argsToLocals, Value.category, maxLocals]; done) | rfl
def own_law_Q (Z : State) (p0 : Int32) (wDONE : Addr) (wHEAD : Addr) (wUNTIL_CLOSE : Addr) (wL : Addr) (wBL : Addr) (wLG : Addr) (wLV : Addr) (kLV : ClassId) (dLV : Value) (wCD : Addr) (wASC : Addr) (wU8 : Addr) (wISO : Addr) (wEL : Addr) (wEA : Addr) (kEA : ClassId) (dE : Value) (zc : Int32) (vS : Value) (h0 : Heap) (n0 : Nat) (v : Option Value) (h : Heap) (L : List Loc) : Prop := v = some (.int 1) ∧ Fr n0 L ∧ True
set_option maxRecDepth 65536 in
set_option maxHeartbeats 40000000 in
theorem own_law (l : Launch) (Z : State) (a0 : Array Value) (hw : ∀ d ∈ tables_1, d.before a0 Z = true) (ws : List Jvm.Cond) (p0 : Int32) (wDONE : Addr) (wHEAD : Addr) (wUNTIL_CLOSE : Addr) (wL : Addr) (wBL : Addr) (wLG : Addr) (wLV : Addr) (kLV : ClassId) (dLV : Value) (wCD : Addr) (wASC : Addr) (wU8 : Addr) (wISO : Addr) (wEL : Addr) (wEA : Addr) (kEA : ClassId) (dE : Value) (zc : Int32) (vS : Value) (h0 : Heap) (n0 : Nat) (O : Old Z n0 h0) (S_DONE : Sta Z Z.heap "com/example/brassrig/brassrig/engine/ResponseReader$State" "DONE" "Lcom/example/brassrig/brassrig/engine/ResponseReader$State;" (.ref wDONE)) (S_HEAD : Sta Z Z.heap "com/example/brassrig/brassrig/engine/ResponseReader$State" "HEAD" "Lcom/example/brassrig/brassrig/engine/ResponseReader$State;" (.ref wHEAD)) (S_UNTIL_CLOSE : Sta Z Z.heap "com/example/brassrig/brassrig/engine/ResponseReader$State" "UNTIL_CLOSE" "Lcom/example/brassrig/brassrig/engine/ResponseReader$State;" (.ref wUNTIL_CLOSE)) (neHU : ¬ wHEAD = wUNTIL_CLOSE) (neHD : ¬ wHEAD = wDONE) (S_loc : Sta Z Z.heap "java/util/Locale" "ROOT" "Ljava/util/Locale;" (.ref wL)) (E_loc : Exa Z Z.heap wL "java/util/Locale") (F_bl : Fld Z Z.heap wL "java/util/Locale" "baseLocale" "Lsun/util/locale/BaseLocale;" (.ref wBL)) (E_bl : Exa Z Z.heap wBL "sun/util/locale/BaseLocale") (F_lg : Fld Z Z.heap wBL "sun/util/locale/BaseLocale" "language" "Ljava/lang/String;" (.ref wLG)) (F_lgv : Fld Z Z.heap wLG "java/lang/String" "value" "[B" (.ref wLV)) (A_lg : Arv Z Z.heap wLV kLV .byte (0 : Int32) ([] : List Value) dLV) (S_cd : Sta Z Z.heap "java/lang/CharacterDataLatin1" "instance" "Ljava/lang/CharacterDataLatin1;" (.ref wCD)) (E_cd : Exa Z Z.heap wCD "java/lang/CharacterDataLatin1") (S_u8 : Sta Z Z.heap "sun/nio/cs/UTF_8" "INSTANCE" "Lsun/nio/cs/UTF_8;" (.ref wU8)) (S_iso : Sta Z Z.heap "sun/nio/cs/ISO_8859_1" "INSTANCE" "Lsun/nio/cs/ISO_8859_1;" (.ref wISO)) (S_asc : Sta Z Z.heap "sun/nio/cs/US_ASCII" "INSTANCE" "Lsun/nio/cs/US_ASCII;" (.ref wASC)) (S_sca : Sta Z Z.heap "java/nio/charset/StandardCharsets" "US_ASCII" "Ljava/nio/charset/Charset;" (.ref wASC)) (neA8 : ¬ wASC = wU8) (neAI : ¬ wASC = wISO) (S_el : Sta Z Z.heap "java/util/ImmutableCollections" "EMPTY_LIST" "Ljava/util/ImmutableCollections$ListN;" (.ref wEL)) (E_el : Exa Z Z.heap wEL "java/util/ImmutableCollections$ListN") (F_el : Fld Z Z.heap wEL "java/util/ImmutableCollections$ListN" "elements" "[Ljava/lang/Object;" (.ref wEA)) (A_el : Arv Z Z.heap wEA kEA (.object "java/lang/Object") (0 : Int32) ([] : List Value) dE) (S_C : Sta Z Z.heap "java/lang/String" "COMPACT_STRINGS" "Z" (.int zc)) (hzc : ¬ zc = 0) (S_su8 : Sta Z Z.heap "java/nio/charset/StandardCharsets" "UTF_8" "Ljava/nio/charset/Charset;" (.ref wU8)) (E_u8 : Exa Z Z.heap wU8 "sun/nio/cs/UTF_8") (S_S : Sta Z Z.heap "jdk/internal/util/Preconditions" "SIOOBE_FORMATTER" "Ljava/util/function/BiFunction;" vS) (hvS : vS.isRef = true) :
    MetFree l x (head1 (Jvm.Cond.code x code maxLocals ret :: ws) room_1) (fun a U => a = #[(.int p0)] ∧ Z.Warmed39 U.vm ∧ U.heap = h0 ∧ CHv Z own_EL U.vm h0) (fun _ _ _ _ _ => True) (fun _ U o U' => ∃ v L, o = .returned v ∧ own_law_Q Z p0 wDONE wHEAD wUNTIL_CLOSE wL wBL wLG wLV kLV dLV wCD wASC wU8 wISO wEL wEA kEA dE zc vS h0 n0 v U'.heap L ∧ True ∧ ReturnedEndW U o U' L room_1.cells room_1.slots) := by
  refine MetFree.of_bodySF own_law_pn hisR ?_
  intro p e s m args below meth c s₁ Bd hml0 hP hK
  obtain ⟨rfl, hZ, hh, H0⟩ := hP
  have hx := Bd.exec
  have hby := Bd.bytes
  have hlk := Bd.notSynchronized
  have hml : c.maxLocals = 12 := hml0
  have hown : s.vm.findClass "com/example/brassrig/brassrig/engine/ResponseReaderBeginPinLaw" = some m.cls := findClass_of_methodNamed Bd.named
  have hnm := (name_of_methodNamed Bd.named Bd.method).1
  have X : Stand p l e room_1 s m #[(.int p0)] below meth c s₁ [] 0 0 := Stand.of_body Bd
  have eT : s₁.heap = h0 := by rw [← hh, Bd.state]; rfl
  have N := Fr.nil n0
  have K0 := Keep.refl h0 []
  show own_Ends p e below (own_PostW s below (own_law_Q Z p0 wDONE wHEAD wUNTIL_CLOSE wL wBL wLG wLV kLV dLV wCD wASC wU8 wISO wEL wEA kEA dE zc vS h0 n0) (fun _ => True) room_1.cells room_1.slots) s₁ (entryFrame m #[(.int p0)] maxLocals)
  rw [own_law_ef m p0]
  obtain ⟨T, hT⟩ : ∃ z, z = s₁ := ⟨_, rfl⟩
  rw [← hT] at X eT ⊢
  obtain ⟨h, hh0⟩ : ∃ z, z = h0 := ⟨_, rfl⟩
  rw [← hh0] at eT
  replace O : Old Z n0 h := by rw [hh0]; exact O
  replace K0 : Keep h0 h [] := by rw [hh0]; exact K0
  have wS : ∀ a ∈ Bundle.stringAtoms, a.before a0 Z = true := fun a ha => hw a ((by decide +kernel : ∀ d ∈ Bundle.stringAtoms, d ∈ tables_1) a ha)
  have hEL := own_hEL hw
  refine own_via (g' := (mkF m 3 (own_A20 p0) [(.int (p0 &&& (1 : Int32)))])) (fun t_ k_ => XS.iloadN X.here hx rfl (hb hby at_0) rfl (XS.iconst X.here hx rfl (hb hby at_1) (XS.iand X.here hx rfl (hb hby at_2) rfl k_))) ?_
  obtain ⟨f1, hz1, ho1, hf1⟩ := own_flag (p0 &&& (1 : Int32))
  refine own_suff (T' := T) (g' := (mkF m 11 (own_A20 p0) [(.int f1)])) (fun kk_ => ?_) ?_
  · by_cases hq_ : (p0 &&& (1 : Int32)) = (0 : Int32)
    · rw [hz1 hq_] at kk_
      refine own_via (g' := (mkF m 11 (own_A20 p0) [(.int 0)])) (fun t_ k_ => XS.ifYes X.here hx rfl (pc0 := 3) (pc' := 10) rfl (hb hby at_3) rfl ((if0 _ _).trans (teq hq_).1) (by decide) (by decide) (XS.iconst X.here hx rfl (hb hby at_10) k_)) ?_
      exact kk_
    · rw [ho1 hq_] at kk_
      refine own_via (g' := (mkF m 11 (own_A20 p0) [(.int 1)])) (fun t_ k_ => XS.ifNo X.here hx rfl (hb hby at_3) rfl ((if0 _ _).trans (feq hq_).1) (XS.iconst X.here hx rfl (hb hby at_6) (XS.goto X.here hx rfl (pc0 := 7) (pc' := 11) rfl (hb hby at_7) (by decide) (by decide) k_))) ?_
      exact kk_
  refine own_via (g' := (mkF m 15 (own_A16 p0 f1) [(.int (p0 &&& (2 : Int32)))])) (fun t_ k_ => XS.istoreN X.here hx rfl (hb hby at_11) rfl (l' := (own_A16 p0 f1)) rfl (XS.iloadN X.here hx rfl (hb hby at_12) rfl (XS.iconst X.here hx rfl (hb hby at_13) (XS.iand X.here hx rfl (hb hby at_14) rfl k_)))) ?_
  obtain ⟨f2, hz2, ho2, hf2⟩ := own_flag (p0 &&& (2 : Int32))
  refine own_suff (T' := T) (g' := (mkF m 23 (own_A16 p0 f1) [(.int f2)])) (fun kk_ => ?_) ?_
  · by_cases hq_ : (p0 &&& (2 : Int32)) = (0 : Int32)
    · rw [hz2 hq_] at kk_
      refine own_via (g' := (mkF m 23 (own_A16 p0 f1) [(.int 0)])) (fun t_ k_ => XS.ifYes X.here hx rfl (pc0 := 15) (pc' := 22) rfl (hb hby at_15) rfl ((if0 _ _).trans (teq hq_).1) (by decide) (by decide) (XS.iconst X.here hx rfl (hb hby at_22) k_)) ?_
      exact kk_
    · rw [ho2 hq_] at kk_
      refine own_via (g' := (mkF m 23 (own_A16 p0 f1) [(.int 1)])) (fun t_ k_ => XS.ifNo X.here hx rfl (hb hby at_15) rfl ((if0 _ _).trans (feq hq_).1) (XS.iconst X.here hx rfl (hb hby at_18) (XS.goto X.here hx rfl (pc0 := 19) (pc' := 23) rfl (hb hby at_19) (by decide) (by decide) k_))) ?_
      exact kk_
  refine own_via (g' := (mkF m 27 (own_A15 p0 f1 f2) [(.int (p0 &&& (4 : Int32)))])) (fun t_ k_ => XS.istoreN X.here hx rfl (hb hby at_23) rfl (l' := (own_A15 p0 f1 f2)) rfl (XS.iloadN X.here hx rfl (hb hby at_24) rfl (XS.iconst X.here hx rfl (hb hby at_25) (XS.iand X.here hx rfl (hb hby at_26) rfl k_)))) ?_
  obtain ⟨f3, hz3, ho3, hf3⟩ := own_flag (p0 &&& (4 : Int32))
  refine own_suff (T' := T) (g' := (mkF m 35 (own_A15 p0 f1 f2) [(.int f3)])) (fun kk_ => ?_) ?_
  · by_cases hq_ : (p0 &&& (4 : Int32)) = (0 : Int32)
    · rw [hz3 hq_] at kk_
      refine own_via (g' := (mkF m 35 (own_A15 p0 f1 f2) [(.int 0)])) (fun t_ k_ => XS.ifYes X.here hx rfl (pc0 := 27) (pc' := 34) rfl (hb hby at_27) rfl ((if0 _ _).trans (teq hq_).1) (by decide) (by decide) (XS.iconst X.here hx rfl (hb hby at_34) k_)) ?_
      exact kk_
    · rw [ho3 hq_] at kk_
      refine own_via (g' := (mkF m 35 (own_A15 p0 f1 f2) [(.int 1)])) (fun t_ k_ => XS.ifNo X.here hx rfl (hb hby at_27) rfl ((if0 _ _).trans (feq hq_).1) (XS.iconst X.here hx rfl (hb hby at_30) (XS.goto X.here hx rfl (pc0 := 31) (pc' := 35) rfl (hb hby at_31) (by decide) (by decide) k_))) ?_
      exact kk_
  refine own_via (g' := (mkF m 40 (own_A12 p0 f1 f2 f3) [(.int (p0 &&& (8 : Int32)))])) (fun t_ k_ => XS.istoreN X.here hx rfl (hb hby at_35) rfl (l' := (own_A12 p0 f1 f2 f3)) rfl (XS.iloadN X.here hx rfl (hb hby at_36) rfl (XS.bipush X.here hx rfl (hb hby at_37) (XS.iand X.here hx rfl (hb hby at_39) rfl k_)))) ?_
  obtain ⟨f4, hz4, ho4, hf4⟩ := own_flag (p0 &&& (8 : Int32))
  refine own_suff (T' := T) (g' := (mkF m 48 (own_A12 p0 f1 f2 f3) [(.int f4)])) (fun kk_ => ?_) ?_
  · by_cases hq_ : (p0 &&& (8 : Int32)) = (0 : Int32)
    · rw [hz4 hq_] at kk_
      refine own_via (g' := (mkF m 48 (own_A12 p0 f1 f2 f3) [(.int 0)])) (fun t_ k_ => XS.ifYes X.here hx rfl (pc0 := 40) (pc' := 47) rfl (hb hby at_40) rfl ((if0 _ _).trans (teq hq_).1) (by decide) (by decide) (XS.iconst X.here hx rfl (hb hby at_47) k_)) ?_
      exact kk_
    · rw [ho4 hq_] at kk_
      refine own_via (g' := (mkF m 48 (own_A12 p0 f1 f2 f3) [(.int 1)])) (fun t_ k_ => XS.ifNo X.here hx rfl (hb hby at_40) rfl ((if0 _ _).trans (feq hq_).1) (XS.iconst X.here hx rfl (hb hby at_43) (XS.goto X.here hx rfl (pc0 := 44) (pc' := 48) rfl (hb hby at_44) (by decide) (by decide) k_))) ?_
      exact kk_
  refine own_via (g' := (mkF m 54 (own_A9 p0 f1 f2 f3 f4) [(.int (p0 &&& (16 : Int32)))])) (fun t_ k_ => XS.istore X.here hx rfl (hb hby at_48) rfl (l' := (own_A9 p0 f1 f2 f3 f4)) rfl (XS.iloadN X.here hx rfl (hb hby at_50) rfl (XS.bipush X.here hx rfl (hb hby at_51) (XS.iand X.here hx rfl (hb hby at_53) rfl k_)))) ?_
  obtain ⟨f5, hz5, ho5, hf5⟩ := own_flag (p0 &&& (16 : Int32))
  refine own_suff (T' := T) (g' := (mkF m 62 (own_A9 p0 f1 f2 f3 f4) [(.int f5)])) (fun kk_ => ?_) ?_
  · by_cases hq_ : (p0 &&& (16 : Int32)) = (0 : Int32)
    · rw [hz5 hq_] at kk_
      refine own_via (g' := (mkF m 62 (own_A9 p0 f1 f2 f3 f4) [(.int 0)])) (fun t_ k_ => XS.ifYes X.here hx rfl (pc0 := 54) (pc' := 61) rfl (hb hby at_54) rfl ((if0 _ _).trans (teq hq_).1) (by decide) (by decide) (XS.iconst X.here hx rfl (hb hby at_61) k_)) ?_
      exact kk_
    · rw [ho5 hq_] at kk_
      refine own_via (g' := (mkF m 62 (own_A9 p0 f1 f2 f3 f4) [(.int 1)])) (fun t_ k_ => XS.ifNo X.here hx rfl (hb hby at_54) rfl ((if0 _ _).trans (feq hq_).1) (XS.iconst X.here hx rfl (hb hby at_57) (XS.goto X.here hx rfl (pc0 := 58) (pc' := 62) rfl (hb hby at_58) (by decide) (by decide) k_))) ?_
      exact kk_
  refine own_via (g' := (mkF m 64 (own_A8 p0 f1 f2 f3 f4 f5) [])) (fun t_ k_ => XS.istore X.here hx rfl (hb hby at_62) rfl (l' := (own_A8 p0 f1 f2 f3 f4 f5)) rfl k_) ?_
  obtain ⟨b1, gb⟩ : ∃ z, z = h.size := ⟨_, rfl⟩
  obtain ⟨T, h2, X, eT, E, E_b1, Dq, -, st⟩ := newO X hx hZ hown (hw _ (own_w 0 rfl)) (hw _ (own_w 1 rfl)) (hw _ (own_w 2 rfl)) eT (g := (mkF m 64 (own_A8 p0 f1 f2 f3 f4 f5) [])) rfl (hb hby at_64) (by decide) (by decide)
  rw [← gb] at E_b1 Dq st
  have g_b1 : n0 ≤ b1 := Nat.le_trans (own_le O) (Nat.le_of_eq gb.symm)
  have sz_b1 : h0.size ≤ b1 := Nat.le_trans K0.1 (Nat.le_of_eq gb.symm)
  replace O := O.ext E
  replace K0 := K0.ext E
  have F_state_b1 : Fld Z h2 b1 "com/example/brassrig/brassrig/engine/ResponseReader" "state" "Lcom/example/brassrig/brassrig/engine/ResponseReader$State;" .null := Dq (Or.inl (hw _ (own_w 13 rfl))) (ty := (.object "com/example/brassrig/brassrig/engine/ResponseReader$State")) (by decide)
  have F_head_b1 : Fld Z h2 b1 "com/example/brassrig/brassrig/engine/ResponseReader" "head" "[B" .null := Dq (Or.inl (hw _ (own_w 16 rfl))) (ty := (.array .byte)) (by decide)
  have F_fields_b1 : Fld Z h2 b1 "com/example/brassrig/brassrig/engine/ResponseReader" "fields" "[I" .null := Dq (Or.inl (hw _ (own_w 19 rfl))) (ty := (.array .int)) (by decide)
  have F_line_b1 : Fld Z h2 b1 "com/example/brassrig/brassrig/engine/ResponseReader" "line" "[B" .null := Dq (Or.inl (hw _ (own_w 21 rfl))) (ty := (.array .byte)) (by decide)
  have F_body_b1 : Fld Z h2 b1 "com/example/brassrig/brassrig/engine/ResponseReader" "body" "[B" .null := Dq (Or.inl (hw _ (own_w 23 rfl))) (ty := (.array .byte)) (by decide)
  have F_bodiless_b1 : Fld Z h2 b1 "com/example/brassrig/brassrig/engine/ResponseReader" "bodiless" "Z" (.int 0) := Dq (Or.inl (hw _ (own_w 30 rfl))) (ty := .boolean) (by decide)
  have F_keepBody_b1 : Fld Z h2 b1 "com/example/brassrig/brassrig/engine/ResponseReader" "keepBody" "Z" (.int 0) := Dq (Or.inl (hw _ (own_w 32 rfl))) (ty := .boolean) (by decide)
  have F_started_b1 : Fld Z h2 b1 "com/example/brassrig/brassrig/engine/ResponseReader" "started" "Z" (.int 0) := Dq (Or.inl (hw _ (own_w 34 rfl))) (ty := .boolean) (by decide)
  have F_bodyLength_b1 : Fld Z h2 b1 "com/example/brassrig/brassrig/engine/ResponseReader" "bodyLength" "I" (.int 0) := Dq (Or.inl (hw _ (own_w 36 rfl))) (ty := .int) (by decide)
  have F_headLength_b1 : Fld Z h2 b1 "com/example/brassrig/brassrig/engine/ResponseReader" "headLength" "I" (.int 0) := Dq (Or.inl (hw _ (own_w 45 rfl))) (ty := .int) (by decide)
  have F_scanned_b1 : Fld Z h2 b1 "com/example/brassrig/brassrig/engine/ResponseReader" "scanned" "I" (.int 0) := Dq (Or.inl (hw _ (own_w 47 rfl))) (ty := .int) (by decide)
  have F_lineStart_b1 : Fld Z h2 b1 "com/example/brassrig/brassrig/engine/ResponseReader" "lineStart" "I" (.int 0) := Dq (Or.inl (hw _ (own_w 49 rfl))) (ty := .int) (by decide)
  have F_fieldCount_b1 : Fld Z h2 b1 "com/example/brassrig/brassrig/engine/ResponseReader" "fieldCount" "I" (.int 0) := Dq (Or.inl (hw _ (own_w 51 rfl))) (ty := .int) (by decide)
  refine own_via (g' := (mkF m 67 (own_A8 p0 f1 f2 f3 f4 f5) [(.ref b1)])) st ?_
  refine own_via (g' := (mkF m 68 (own_A8 p0 f1 f2 f3 f4 f5) [(.ref b1), (.ref b1)])) (fun t_ k_ => XS.dup X.here hx rfl (hb hby at_67) rfl rfl k_) ?_
  obtain ⟨_, _, ⟨T, Lq, kq, nq⟩, -, X, ⟨Lc, hQ, lq, yq, zq⟩, st⟩ := X.specialBack hx (y := own_y26) rfl hown (mvT hZ (hw _ (own_w 3 rfl))) (mvT hZ (hw _ (own_w 4 rfl))) (mvT hZ (hw _ (own_w 5 rfl))) (by decide) (backOf (W := 1) (own_init l Z a0 hw [] b1 wDONE wHEAD wUNTIL_CLOSE h2 n0 O E_b1 F_state_b1 F_head_b1 F_fields_b1 F_line_b1 F_body_b1 F_bodiless_b1 F_keepBody_b1 F_started_b1 F_bodyLength_b1 F_headLength_b1 F_scanned_b1 F_lineStart_b1 F_fieldCount_b1 g_b1 S_DONE S_HEAD S_UNTIL_CLOSE) hZ (hw _ (own_w 5 rfl)) (hw _ (own_w 2 rfl)) (by decide) (by decide)) (g := (mkF m 68 (own_A8 p0 f1 f2 f3 f4 f5) [(.ref b1), (.ref b1)])) rfl (by rw [hml]; rfl) (Steps.refl _) (a := b1) (argsL := []) (rest := [(.ref b1)]) (lenOf own_pd0 rfl) rfl (by show 2 * 0 + _ ≤ _; exact Nat.le_of_eq rfl) (hb hby at_68) (fun _ _ => ⟨rfl, eT, (by decide : 1 + 4 ≤ _), (by decide : 19 + 1152 ≤ _)⟩)
  dsimp only [Pt.U, Pt.locs, Pt.cells, Pt.slots] at X lq yq zq st hQ
  rw [lq, yq, zq] at X
  obtain ⟨ha, bb, kh, kb_, rfl, Nq, Kq, szh, szb, F_state_b1, F_head_b1, F_body_b1, F_bodiless_b1, F_keepBody_b1, F_started_b1, F_bodyLength_b1, F_headLength_b1, F_scanned_b1, F_lineStart_b1, F_fieldCount_b1, V_ha, V_bb⟩ := hQ
  replace N := Fr.app N Nq
  obtain ⟨h3, eT⟩ : ∃ z, T.heap = z := ⟨_, rfl⟩
  rw [eT] at Kq F_state_b1 F_head_b1 F_body_b1 F_bodiless_b1 F_keepBody_b1 F_started_b1 F_bodyLength_b1 F_headLength_b1 F_scanned_b1 F_lineStart_b1 F_fieldCount_b1 V_ha V_bb
  have ne_b1_ha : b1 ≠ ha := Nat.ne_of_lt (Nat.lt_of_lt_of_le E_b1.lt szh)
  have g_ha : n0 ≤ ha := Nat.le_trans (own_le O) szh
  have sz_ha : h0.size ≤ ha := Nat.le_trans K0.1 szh
  have ne_b1_bb : b1 ≠ bb := Nat.ne_of_lt (Nat.lt_of_lt_of_le E_b1.lt szb)
  have g_bb : n0 ≤ bb := Nat.le_trans (own_le O) szb
  have sz_bb : h0.size ≤ bb := Nat.le_trans K0.1 szb
  replace E_b1 := E_b1.keep Kq
  replace O := O.keep Kq (allS g_b1 all0)
  replace K0 := K0.trans Kq (allS (Or.inr sz_b1) all0)
  refine own_viaT (g' := (mkF m 71 (own_A8 p0 f1 f2 f3 f4 f5) [(.ref b1)])) st ?_
  refine own_via (g' := (mkF m 77 (own_A6 p0 f1 f2 f3 f4 f5 b1) [(.int f2), (.int f1), (.ref b1)])) (fun t_ k_ => XS.astore X.here hx rfl (hb hby at_71) rfl rfl (l' := (own_A6 p0 f1 f2 f3 f4 f5 b1)) rfl (XS.aload X.here hx rfl (hb hby at_73) rfl rfl (XS.iloadN X.here hx rfl (hb hby at_75) rfl (XS.iloadN X.here hx rfl (hb hby at_76) rfl k_)))) ?_
  obtain ⟨cq, kq, qa, qb, qc⟩ := isOf hZ eT E_b1
  obtain ⟨_, _, ⟨T, Lq, kq, nq⟩, -, X, ⟨Lc, hQ, lq, yq, zq⟩, st⟩ := X.virtualBack hx (y := own_y27) (z := own_y27) hown (mvT hZ (hw _ (own_w 24 rfl))) (mvT hZ (hw _ (own_w 25 rfl))) (notFace_of_selects (args := #[]) (mvT hZ (hw _ (own_w 27 rfl)))) (mvT hZ (hw _ (own_w 27 rfl))) (mvT hZ (hw _ (own_w 26 rfl))) (by decide) (backOf (W := 0) (own_begin l Z a0 hw [] b1 f1 f2 wDONE ha bb (0 : Int32) (0 : Int32) (0 : Int32) (0 : Int32) (0 : Int32) (0 : Int32) (0 : Int32) (0 : Int32) kh kb_ wDONE wHEAD wUNTIL_CLOSE h3 n0 O E_b1 F_state_b1 F_head_b1 F_body_b1 F_bodiless_b1 F_keepBody_b1 F_started_b1 F_bodyLength_b1 F_headLength_b1 F_scanned_b1 F_lineStart_b1 F_fieldCount_b1 V_ha V_bb g_b1 ne_b1_ha ne_b1_bb S_DONE S_HEAD S_UNTIL_CLOSE) hZ (hw _ (own_w 28 rfl)) (hw _ (own_w 2 rfl)) (by decide) (by decide)) qa qc (g := (mkF m 77 (own_A6 p0 f1 f2 f3 f4 f5 b1) [(.int f2), (.int f1), (.ref b1)])) rfl (by rw [hml]; rfl) (Steps.refl _) (argsL := [(.int f1), (.int f2)]) (rest := []) (lenOf own_pd23 rfl) rfl (by show 2 * 0 + _ ≤ _; exact Nat.le_of_eq rfl) (hb hby at_77) (fun _ _ => ⟨rfl, eT, (by decide : 5 + 0 ≤ _), (by decide : 1171 + 0 ≤ _)⟩)
  dsimp only [Pt.U, Pt.locs, Pt.cells, Pt.slots] at X lq yq zq st hQ
  rw [lq, yq, zq] at X
  obtain ⟨rfl, Nq, Kq, F_state_b1, F_head_b1, F_body_b1, F_headLength_b1, F_scanned_b1, F_lineStart_b1, F_fieldCount_b1, F_bodiless_b1, F_keepBody_b1, F_started_b1, F_bodyLength_b1⟩ := hQ
  replace N := Fr.app N Nq
  obtain ⟨h4, eT⟩ : ∃ z, T.heap = z := ⟨_, rfl⟩
  rw [eT] at Kq F_state_b1 F_head_b1 F_body_b1 F_headLength_b1 F_scanned_b1 F_lineStart_b1 F_fieldCount_b1 F_bodiless_b1 F_keepBody_b1 F_started_b1 F_bodyLength_b1
  replace E_b1 := E_b1.keep Kq
  replace V_ha := V_ha.keep Kq (ninS (Ne.symm ne_b1_ha) nin0)
  replace V_bb := V_bb.keep Kq (ninS (Ne.symm ne_b1_bb) nin0)
  replace O := O.keep Kq (allS g_b1 all0)
  replace K0 := K0.trans Kq (allS (Or.inr sz_b1) all0)
  refine own_viaT (g' := (mkF m 80 (own_A6 p0 f1 f2 f3 f4 f5 b1) [])) st ?_
  refine own_via (g' := (mkF m 82 (own_A6 p0 f1 f2 f3 f4 f5 b1) [(.int f5)])) (fun t_ k_ => XS.iload X.here hx rfl (hb hby at_80) rfl k_) ?_
  by_cases hc5 : f5 = (0 : Int32)
  · refine own_via (g' := (mkF m 95 (own_A6 p0 f1 f2 f3 f4 f5 b1) [(.ref b1)])) (fun t_ k_ => XS.ifYes X.here hx rfl (pc0 := 82) (pc' := 93) rfl (hb hby at_82) rfl ((if0 _ _).trans (teq hc5).1) (by decide) (by decide) (XS.aload X.here hx rfl (hb hby at_93) rfl rfl k_)) ?_
    obtain ⟨cq, kq, qa, qb, qc⟩ := isOf hZ eT E_b1
    obtain ⟨_, _, ⟨T, Lq, kq, nq⟩, -, X, ⟨Lc, hQ, lq, yq, zq⟩, st⟩ := X.virtualBack hx (y := own_y28) (z := own_y28) hown (mvT hZ (hw _ (own_w 52 rfl))) (mvT hZ (hw _ (own_w 53 rfl))) (notFace_of_selects (args := #[]) (mvT hZ (hw _ (own_w 55 rfl)))) (mvT hZ (hw _ (own_w 55 rfl))) (mvT hZ (hw _ (own_w 54 rfl))) (by decide) (backOf (W := 0) (own_started l Z a0 hw [] b1 h4 n0 O F_started_b1) hZ (hw _ (own_w 56 rfl)) (hw _ (own_w 2 rfl)) (by decide) (by decide)) qa qc (g := (mkF m 95 (own_A6 p0 f1 f2 f3 f4 f5 b1) [(.ref b1)])) rfl (by rw [hml]; rfl) (Steps.refl _) (argsL := []) (rest := []) (lenOf own_pd7 rfl) rfl (by show 2 * 0 + _ ≤ _; exact Nat.le_of_eq rfl) (hb hby at_95) (fun _ _ => ⟨rfl, eT, (by decide : 5 + 0 ≤ _), (by decide : 1171 + 0 ≤ _)⟩)
    dsimp only [Pt.U, Pt.locs, Pt.cells, Pt.slots] at X lq yq zq st hQ
    rw [lq, yq, zq] at X
    obtain ⟨rfl, Nq, eT⟩ := hQ
    replace N := Fr.app N Nq
    refine own_viaT (g' := (mkF m 98 (own_A6 p0 f1 f2 f3 f4 f5 b1) [(.int 0)])) st ?_
    refine own_via (g' := (mkF m 110 (own_A5 p0 f1 f2 f3 f4 f5 b1 1) [(.ref b1)])) (fun t_ k_ => XS.ifNo X.here hx rfl (hb hby at_98) rfl ((if0 _ _).trans (teq (by decide : (0 : Int32) = (0 : Int32))).2) (XS.iconst X.here hx rfl (hb hby at_101) (XS.goto X.here hx rfl (pc0 := 102) (pc' := 106) rfl (hb hby at_102) (by decide) (by decide) (XS.istore X.here hx rfl (hb hby at_106) rfl (l' := (own_A5 p0 f1 f2 f3 f4 f5 b1 1)) rfl (XS.aload X.here hx rfl (hb hby at_108) rfl rfl k_))))) ?_
    obtain ⟨cq, kq, qa, qb, qc⟩ := isOf hZ eT E_b1
    obtain ⟨_, _, ⟨T, Lq, kq, nq⟩, -, X, ⟨Lc, hQ, lq, yq, zq⟩, st⟩ := X.virtualBack hx (y := own_y29) (z := own_y29) hown (mvT hZ (hw _ (own_w 57 rfl))) (mvT hZ (hw _ (own_w 58 rfl))) (notFace_of_selects (args := #[]) (mvT hZ (hw _ (own_w 60 rfl)))) (mvT hZ (hw _ (own_w 60 rfl))) (mvT hZ (hw _ (own_w 59 rfl))) (by decide) (backOf (W := 0) (own_closed l Z a0 hw [] b1 wDONE wHEAD wUNTIL_CLOSE h4 n0 O F_state_b1 S_DONE S_HEAD S_UNTIL_CLOSE neHU neHD) hZ (hw _ (own_w 61 rfl)) (hw _ (own_w 2 rfl)) (by decide) (by decide)) qa qc (g := (mkF m 110 (own_A5 p0 f1 f2 f3 f4 f5 b1 1) [(.ref b1)])) rfl (by rw [hml]; rfl) (Steps.refl _) (argsL := []) (rest := []) (lenOf own_pd7 rfl) rfl (by show 2 * 0 + _ ≤ _; exact Nat.le_of_eq rfl) (hb hby at_110) (fun _ _ => ⟨rfl, eT, (by decide : 5 + 0 ≤ _), (by decide : 1171 + 0 ≤ _)⟩)
    dsimp only [Pt.U, Pt.locs, Pt.cells, Pt.slots] at X lq yq zq st hQ
    rw [lq, yq, zq] at X
    obtain ⟨rfl, Nq, eT⟩ := hQ
    replace N := Fr.app N Nq
    refine own_viaT (g' := (mkF m 113 (own_A5 p0 f1 f2 f3 f4 f5 b1 1) [(.int 0)])) st ?_
    refine own_via (g' := (mkF m 125 (own_A4 p0 f1 f2 f3 f4 f5 b1 1 1) [(.ref b1)])) (fun t_ k_ => XS.ifNo X.here hx rfl (hb hby at_113) rfl ((if0 _ _).trans (teq (by decide : (0 : Int32) = (0 : Int32))).2) (XS.iconst X.here hx rfl (hb hby at_116) (XS.goto X.here hx rfl (pc0 := 117) (pc' := 121) rfl (hb hby at_117) (by decide) (by decide) (XS.istore X.here hx rfl (hb hby at_121) rfl (l' := (own_A4 p0 f1 f2 f3 f4 f5 b1 1 1)) rfl (XS.aload X.here hx rfl (hb hby at_123) rfl rfl k_))))) ?_
    obtain ⟨cq, kq, qa, qb, qc⟩ := isOf hZ eT E_b1
    obtain ⟨_, _, ⟨T, Lq, kq, nq⟩, -, X, ⟨Lc, hQ, lq, yq, zq⟩, st⟩ := X.virtualBack hx (y := own_y29) (z := own_y29) hown (mvT hZ (hw _ (own_w 57 rfl))) (mvT hZ (hw _ (own_w 58 rfl))) (notFace_of_selects (args := #[]) (mvT hZ (hw _ (own_w 60 rfl)))) (mvT hZ (hw _ (own_w 60 rfl))) (mvT hZ (hw _ (own_w 59 rfl))) (by decide) (backOf (W := 0) (own_closed l Z a0 hw [] b1 wDONE wHEAD wUNTIL_CLOSE h4 n0 O F_state_b1 S_DONE S_HEAD S_UNTIL_CLOSE neHU neHD) hZ (hw _ (own_w 61 rfl)) (hw _ (own_w 2 rfl)) (by decide) (by decide)) qa qc (g := (mkF m 125 (own_A4 p0 f1 f2 f3 f4 f5 b1 1 1) [(.ref b1)])) rfl (by rw [hml]; rfl) (Steps.refl _) (argsL := []) (rest := []) (lenOf own_pd7 rfl) rfl (by show 2 * 0 + _ ≤ _; exact Nat.le_of_eq rfl) (hb hby at_125) (fun _ _ => ⟨rfl, eT, (by decide : 5 + 0 ≤ _), (by decide : 1171 + 0 ≤ _)⟩)
    dsimp only [Pt.U, Pt.locs, Pt.cells, Pt.slots] at X lq yq zq st hQ
    rw [lq, yq, zq] at X
    obtain ⟨rfl, Nq, eT⟩ := hQ
    replace N := Fr.app N Nq
    refine own_viaT (g' := (mkF m 128 (own_A4 p0 f1 f2 f3 f4 f5 b1 1 1) [(.int 0)])) st ?_
    refine own_via (g' := (mkF m 140 (own_A2 p0 f1 f2 f3 f4 f5 b1 1 1 1) [(.ref b1)])) (fun t_ k_ => XS.ifNo X.here hx rfl (hb hby at_128) rfl ((if0 _ _).trans (teq (by decide : (0 : Int32) = (0 : Int32))).2) (XS.iconst X.here hx rfl (hb hby at_131) (XS.goto X.here hx rfl (pc0 := 132) (pc' := 136) rfl (hb hby at_132) (by decide) (by decide) (XS.istore X.here hx rfl (hb hby at_136) rfl (l' := (own_A2 p0 f1 f2 f3 f4 f5 b1 1 1 1)) rfl (XS.aload X.here hx rfl (hb hby at_138) rfl rfl k_))))) ?_
    have H : CHr Z own_EL s.vm h0 s.vm h4 := CHr.keep K0 all0 H0
    replace X := own_base X
    have hS := (State.WarmedH.refl s).since h0.size
    have hk : h0.size ≤ h4.size := K0.1
    replace hZ : Z.Warmed39 (s.setVm s.vm).vm := hZ
    replace hown : (s.setVm s.vm).vm.findClass "com/example/brassrig/brassrig/engine/ResponseReaderBeginPinLaw" = some m.cls := hown
    obtain ⟨s1, T, h6, k1, va, kva, X, eT, E, hS, hk, hZ, hown, E_s1, F_coder_s1, F_value_s1, V_va, lt_s1, lt_va, hCH, hLit, hne, st⟩ := ldcCH (s := s) X hx hZ hown (hw _ (own_w 64 rfl)) wS eT hS hk hEL (by decide) H.1 (vs := [(.int 99), (.int 111), (.int 110), (.int 116), (.int 101), (.int 110), (.int 116), (.int 45), (.int 116), (.int 121), (.int 112), (.int 101)]) (z := (12 : Int32)) ⟨by decide +kernel, by decide +kernel⟩ (by decide) rfl (g := (mkF m 140 (own_A2 p0 f1 f2 f3 f4 f5 b1 1 1 1) [(.ref b1)])) rfl (hb hby at_140) (n := 48) (by decide +kernel) (by decide) (by decide) (by decide)
    replace E_b1 := E_b1.ext E
    replace F_state_b1 := F_state_b1.ext E
    replace F_head_b1 := F_head_b1.ext E
    replace F_body_b1 := F_body_b1.ext E
    replace F_bodiless_b1 := F_bodiless_b1.ext E
    replace F_keepBody_b1 := F_keepBody_b1.ext E
    replace F_started_b1 := F_started_b1.ext E
    replace F_bodyLength_b1 := F_bodyLength_b1.ext E
    replace F_headLength_b1 := F_headLength_b1.ext E
    replace F_scanned_b1 := F_scanned_b1.ext E
    replace F_lineStart_b1 := F_lineStart_b1.ext E
    replace F_fieldCount_b1 := F_fieldCount_b1.ext E
    replace V_ha := V_ha.ext E
    replace V_bb := V_bb.ext E
    replace O := O.ext E
    replace K0 := K0.ext E
    replace H := H.trans hCH
    refine own_via (g' := (mkF m 142 (own_A2 p0 f1 f2 f3 f4 f5 b1 1 1 1) [(.ref s1), (.ref b1)])) st ?_
    have E_va := own_litExa hZ.alike hne V_va
    obtain ⟨cq, kq, qa, qb, qc⟩ := isOf hZ eT E_b1
    obtain ⟨_, _, ⟨T, Lq, kq, nq⟩, -, X, ⟨Lc, hQ, lq, yq, zq⟩, st⟩ := X.virtualBack hx (y := own_y23) (z := own_y23) hown (mvT hZ (hw _ (own_w 71 rfl))) (mvT hZ (hw _ (own_w 72 rfl))) (notFace_of_selects (args := #[]) (mvT hZ (hw _ (own_w 74 rfl)))) (mvT hZ (hw _ (own_w 74 rfl))) (mvT hZ (hw _ (own_w 73 rfl))) (by decide) (backOf (W := 0) (own_valueA l Z a0 hw [] b1 s1 va kva wL wCD wASC wU8 wISO wEL wEA kEA dE zc h6 n0 O E_b1 F_fieldCount_b1 E_s1 F_value_s1 F_coder_s1 E_va V_va S_loc S_cd E_cd S_u8 S_iso S_asc S_sca neA8 neAI S_el E_el F_el A_el S_C hzc) hZ (hw _ (own_w 75 rfl)) (hw _ (own_w 2 rfl)) (by decide) (by decide)) qa qc (g := (mkF m 142 (own_A2 p0 f1 f2 f3 f4 f5 b1 1 1 1) [(.ref s1), (.ref b1)])) rfl (by rw [hml]; rfl) (Steps.refl _) (argsL := [(.ref s1)]) (rest := []) (lenOf own_pd20 rfl) rfl (by show 2 * 0 + _ ≤ _; exact Nat.le_of_eq rfl) (hb hby at_142) (fun _ _ => ⟨rfl, eT, (by decide : 7 + 1 ≤ _), (by decide : 1223 + 12 ≤ _)⟩)
    dsimp only [Pt.U, Pt.locs, Pt.cells, Pt.slots] at X lq yq zq st hQ
    rw [lq, yq, zq] at X
    obtain ⟨rfl, Nq, Kq⟩ := hQ
    replace N := Fr.app N Nq
    obtain ⟨h7, eT⟩ : ∃ z, T.heap = z := ⟨_, rfl⟩
    rw [eT] at Kq
    replace E_b1 := E_b1.keep Kq
    replace F_state_b1 := F_state_b1.keep Kq nin0
    replace F_head_b1 := F_head_b1.keep Kq nin0
    replace F_body_b1 := F_body_b1.keep Kq nin0
    replace F_bodiless_b1 := F_bodiless_b1.keep Kq nin0
    replace F_keepBody_b1 := F_keepBody_b1.keep Kq nin0
    replace F_started_b1 := F_started_b1.keep Kq nin0
    replace F_bodyLength_b1 := F_bodyLength_b1.keep Kq nin0
    replace F_headLength_b1 := F_headLength_b1.keep Kq nin0
    replace F_scanned_b1 := F_scanned_b1.keep Kq nin0
    replace F_lineStart_b1 := F_lineStart_b1.keep Kq nin0
    replace F_fieldCount_b1 := F_fieldCount_b1.keep Kq nin0
    replace V_ha := V_ha.keep Kq nin0
    replace V_bb := V_bb.keep Kq nin0
    replace E_s1 := E_s1.keep Kq
    replace F_coder_s1 := F_coder_s1.keep Kq nin0
    replace F_value_s1 := F_value_s1.keep Kq nin0
    replace V_va := V_va.keep Kq nin0
    replace E_va := E_va.keep Kq
    replace O := O.keep Kq all0
    replace K0 := K0.trans Kq all0
    replace hk := Nat.le_trans hk Kq.1
    replace H := H.trans (CHr.keep Kq all0 H.1)
    refine own_viaT (g' := (mkF m 145 (own_A2 p0 f1 f2 f3 f4 f5 b1 1 1 1) [.null])) st ?_
    refine own_via (g' := (mkF m 157 (own_A1 p0 f1 f2 f3 f4 f5 b1 1 1 1 1) [(.ref b1)])) (fun t_ k_ => XS.ifnonnullNo X.here hx rfl (hb hby at_145) rfl (XS.iconst X.here hx rfl (hb hby at_148) (XS.goto X.here hx rfl (pc0 := 149) (pc' := 153) rfl (hb hby at_149) (by decide) (by decide) (XS.istore X.here hx rfl (hb hby at_153) rfl (l' := (own_A1 p0 f1 f2 f3 f4 f5 b1 1 1 1 1)) rfl (XS.aload X.here hx rfl (hb hby at_155) rfl rfl k_))))) ?_
    obtain ⟨cq, kq, qa, qb, qc⟩ := isOf hZ eT E_b1
    obtain ⟨_, _, ⟨T, Lq, kq, nq⟩, -, X, hSq, hgr, ⟨Lc, hQ, lq, yq, zq, hCH⟩, st⟩ := X.virtualBackS hx (y := own_y30) (z := own_y30) hown (mvT hZ (hw _ (own_w 165 rfl))) (mvT hZ (hw _ (own_w 166 rfl))) (notFace_of_selects (args := #[]) (mvT hZ (hw _ (own_w 168 rfl)))) (mvT hZ (hw _ (own_w 168 rfl))) (mvT hZ (hw _ (own_w 167 rfl))) (by decide) (backOfSH (W := 0) (s := s) (own_bodyText l Z a0 hw [] b1 bb kb_ wL wBL wLG wLV kLV dLV wCD wASC wU8 wISO wEL wEA kEA dE zc vS h7 n0 O E_b1 F_fieldCount_b1 F_body_b1 F_bodyLength_b1 V_bb S_loc E_loc F_bl E_bl F_lg F_lgv A_lg S_cd E_cd S_u8 S_iso S_asc S_sca neA8 neAI S_el E_el F_el A_el S_C hzc S_su8 E_u8 S_S hvS) hZ (hw _ (own_w 169 rfl)) (hw _ (own_w 2 rfl)) (by decide) (by decide) hEL H.1) qa qc (g := (mkF m 157 (own_A1 p0 f1 f2 f3 f4 f5 b1 1 1 1 1) [(.ref b1)])) rfl (by rw [hml]; rfl) (Steps.refl _) (argsL := []) (rest := []) (lenOf own_pd13 rfl) rfl (by show 2 * 0 + _ ≤ _; exact Nat.le_of_eq rfl) (hb hby at_157) (fun _ _ => ⟨rfl, eT, (by decide : 8 + 15 ≤ _), (by decide : 1235 + 124 ≤ _)⟩)
    dsimp only [Pt.U, Pt.locs, Pt.cells, Pt.slots] at X hSq hgr lq yq zq st hQ hCH
    rw [lq, yq, zq] at X
    obtain ⟨rr, rb, krb, rfl, Nq, Kq, E_rr, F_value_rr, V_rb⟩ := hQ
    replace N := Fr.app N Nq
    replace hS := own_reS hS hSq (Nat.le_trans hk (by rw [← eT]; exact hgr))
    replace hZ := own_reZ hZ hSq
    replace hown := own_reown hown hSq
    replace hk := Nat.le_refl T.heap.size
    obtain ⟨vmW, eW⟩ : ∃ z, T.vm = z := ⟨_, rfl⟩
    rw [eW] at X hS hZ hown hCH
    replace X := own_flat X
    obtain ⟨h8, eT⟩ : ∃ z, T.heap = z := ⟨_, rfl⟩
    rw [eT] at Kq E_rr F_value_rr V_rb
    replace E_b1 := E_b1.keep Kq
    replace F_state_b1 := F_state_b1.keep Kq nin0
    replace F_head_b1 := F_head_b1.keep Kq nin0
    replace F_body_b1 := F_body_b1.keep Kq nin0
    replace F_bodiless_b1 := F_bodiless_b1.keep Kq nin0
    replace F_keepBody_b1 := F_keepBody_b1.keep Kq nin0
    replace F_started_b1 := F_started_b1.keep Kq nin0
    replace F_bodyLength_b1 := F_bodyLength_b1.keep Kq nin0
    replace F_headLength_b1 := F_headLength_b1.keep Kq nin0
    replace F_scanned_b1 := F_scanned_b1.keep Kq nin0
    replace F_lineStart_b1 := F_lineStart_b1.keep Kq nin0
    replace F_fieldCount_b1 := F_fieldCount_b1.keep Kq nin0
    replace V_ha := V_ha.keep Kq nin0
    replace V_bb := V_bb.keep Kq nin0
    replace E_s1 := E_s1.keep Kq
    replace F_coder_s1 := F_coder_s1.keep Kq nin0
    replace F_value_s1 := F_value_s1.keep Kq nin0
    replace V_va := V_va.keep Kq nin0
    replace E_va := E_va.keep Kq
    replace O := O.keep Kq all0
    replace K0 := K0.trans Kq all0
    rw [eT] at hk hS
    rw [eT] at hCH
    replace H := H.trans hCH
    refine own_viaT (g' := (mkF m 160 (own_A1 p0 f1 f2 f3 f4 f5 b1 1 1 1 1) [(.ref rr)])) st ?_
    obtain ⟨cq, kq, qa, qb, qc⟩ := isOf hZ eT E_rr
    obtain ⟨_, _, ⟨T, Lq, kq, nq⟩, -, X, ⟨Lc, hQ, lq, yq, zq⟩, st⟩ := X.virtualBack hx (y := own_y31) (z := own_y31) hown (mvT hZ (hw _ (own_w 230 rfl))) (mvT hZ (hw _ (own_w 231 rfl))) (notFace_of_selects (args := #[]) (mvT hZ (hw _ (own_w 233 rfl)))) (mvT hZ (hw _ (own_w 233 rfl))) (mvT hZ (hw _ (own_w 232 rfl))) (by decide) (backOf (W := 0) (own_sie l Z a0 hw [] rr rb krb h8 n0 O F_value_rr V_rb) hZ (hw _ (own_w 234 rfl)) (hw _ (own_w 65 rfl)) (by decide) (by decide)) qa qc (g := (mkF m 160 (own_A1 p0 f1 f2 f3 f4 f5 b1 1 1 1 1) [(.ref rr)])) rfl (by rw [hml]; rfl) (Steps.refl _) (argsL := []) (rest := []) (lenOf own_pd7 rfl) rfl (by show 2 * 0 + _ ≤ _; exact Nat.le_of_eq rfl) (hb hby at_160) (fun _ _ => ⟨rfl, eT, (by decide : 23 + 0 ≤ _), (by decide : 1359 + 0 ≤ _)⟩)
    dsimp only [Pt.U, Pt.locs, Pt.cells, Pt.slots] at X lq yq zq st hQ
    rw [lq, yq, zq] at X
    obtain ⟨rfl, Nq, eT⟩ := hQ
    replace N := Fr.app N Nq
    refine own_viaT (g' := (mkF m 163 (own_A1 p0 f1 f2 f3 f4 f5 b1 1 1 1 1) [(.int 1)])) st ?_
    refine own_via (g' := (mkF m 187 (own_A0 p0 f1 f2 f3 f4 f5 b1 1 1 1 1 1) [(.int 1)])) (fun t_ k_ => XS.istore X.here hx rfl (hb hby at_163) rfl (l' := (own_A0 p0 f1 f2 f3 f4 f5 b1 1 1 1 1 1)) rfl (XS.iload X.here hx rfl (hb hby at_165) rfl (XS.ifNo X.here hx rfl (hb hby at_167) rfl ((if0 _ _).trans (feq (by decide : ¬ ((1 : Int32) = (0 : Int32)))).1) (XS.iload X.here hx rfl (hb hby at_170) rfl (XS.ifNo X.here hx rfl (hb hby at_172) rfl ((if0 _ _).trans (feq (by decide : ¬ ((1 : Int32) = (0 : Int32)))).1) (XS.iload X.here hx rfl (hb hby at_175) rfl (XS.ifNo X.here hx rfl (hb hby at_177) rfl ((if0 _ _).trans (feq (by decide : ¬ ((1 : Int32) = (0 : Int32)))).1) (XS.iload X.here hx rfl (hb hby at_180) rfl (XS.ifNo X.here hx rfl (hb hby at_182) rfl ((if0 _ _).trans (feq (by decide : ¬ ((1 : Int32) = (0 : Int32)))).1) (XS.iload X.here hx rfl (hb hby at_185) rfl k_)))))))))) ?_
    refine own_via (g' := (mkF m 195 (own_A0 p0 f1 f2 f3 f4 f5 b1 1 1 1 1 1) [(.int 1)])) (fun t_ k_ => XS.ifNo X.here hx rfl (hb hby at_187) rfl ((if0 _ _).trans (feq (by decide : ¬ ((1 : Int32) = (0 : Int32)))).1) (XS.iconst X.here hx rfl (hb hby at_190) (XS.goto X.here hx rfl (pc0 := 191) (pc' := 195) rfl (hb hby at_191) (by decide) (by decide) k_))) ?_
    refine own_retNW X hS (by rw [eT]; exact hk) hx hlk (t := .boolean) Bd.returns (by simp) (hb hby at_195) (by decide) (by decide) (fun _ => trivial) ?_
    rw [eT]
    exact ⟨rfl, N, trivial⟩
  · refine own_via (g' := (mkF m 90 (own_A6 p0 f1 f2 f3 f4 f5 b1) [(.int f4), (.int f3), (.ref b1)])) (fun t_ k_ => XS.ifNo X.here hx rfl (hb hby at_82) rfl ((if0 _ _).trans (feq hc5).1) (XS.aload X.here hx rfl (hb hby at_85) rfl rfl (XS.iloadN X.here hx rfl (hb hby at_87) rfl (XS.iload X.here hx rfl (hb hby at_88) rfl k_)))) ?_
    obtain ⟨cq, kq, qa, qb, qc⟩ := isOf hZ eT E_b1
    obtain ⟨_, _, ⟨T, Lq, kq, nq⟩, -, X, ⟨Lc, hQ, lq, yq, zq⟩, st⟩ := X.virtualBack hx (y := own_y27) (z := own_y27) hown (mvT hZ (hw _ (own_w 24 rfl))) (mvT hZ (hw _ (own_w 25 rfl))) (notFace_of_selects (args := #[]) (mvT hZ (hw _ (own_w 27 rfl)))) (mvT hZ (hw _ (own_w 27 rfl))) (mvT hZ (hw _ (own_w 26 rfl))) (by decide) (backOf (W := 0) (own_begin l Z a0 hw [] b1 f3 f4 wHEAD ha bb (nar .boolean f1) (nar .boolean f2) (0 : Int32) (0 : Int32) (0 : Int32) (0 : Int32) (0 : Int32) (0 : Int32) kh kb_ wDONE wHEAD wUNTIL_CLOSE h4 n0 O E_b1 F_state_b1 F_head_b1 F_body_b1 F_bodiless_b1 F_keepBody_b1 F_started_b1 F_bodyLength_b1 F_headLength_b1 F_scanned_b1 F_lineStart_b1 F_fieldCount_b1 V_ha V_bb g_b1 ne_b1_ha ne_b1_bb S_DONE S_HEAD S_UNTIL_CLOSE) hZ (hw _ (own_w 28 rfl)) (hw _ (own_w 2 rfl)) (by decide) (by decide)) qa qc (g := (mkF m 90 (own_A6 p0 f1 f2 f3 f4 f5 b1) [(.int f4), (.int f3), (.ref b1)])) rfl (by rw [hml]; rfl) (Steps.refl _) (argsL := [(.int f3), (.int f4)]) (rest := []) (lenOf own_pd23 rfl) rfl (by show 2 * 0 + _ ≤ _; exact Nat.le_of_eq rfl) (hb hby at_90) (fun _ _ => ⟨rfl, eT, (by decide : 5 + 0 ≤ _), (by decide : 1171 + 0 ≤ _)⟩)
    dsimp only [Pt.U, Pt.locs, Pt.cells, Pt.slots] at X lq yq zq st hQ
    rw [lq, yq, zq] at X
    obtain ⟨rfl, Nq, Kq, F_state_b1, F_head_b1, F_body_b1, F_headLength_b1, F_scanned_b1, F_lineStart_b1, F_fieldCount_b1, F_bodiless_b1, F_keepBody_b1, F_started_b1, F_bodyLength_b1⟩ := hQ
    replace N := Fr.app N Nq
    obtain ⟨h9, eT⟩ : ∃ z, T.heap = z := ⟨_, rfl⟩
    rw [eT] at Kq F_state_b1 F_head_b1 F_body_b1 F_headLength_b1 F_scanned_b1 F_lineStart_b1 F_fieldCount_b1 F_bodiless_b1 F_keepBody_b1 F_started_b1 F_bodyLength_b1
    replace E_b1 := E_b1.keep Kq
    replace V_ha := V_ha.keep Kq (ninS (Ne.symm ne_b1_ha) nin0)
    replace V_bb := V_bb.keep Kq (ninS (Ne.symm ne_b1_bb) nin0)
    replace O := O.keep Kq (allS g_b1 all0)
    replace K0 := K0.trans Kq (allS (Or.inr sz_b1) all0)
    refine own_viaT (g' := (mkF m 93 (own_A6 p0 f1 f2 f3 f4 f5 b1) [])) st ?_
    refine own_via (g' := (mkF m 95 (own_A6 p0 f1 f2 f3 f4 f5 b1) [(.ref b1)])) (fun t_ k_ => XS.aload X.here hx rfl (hb hby at_93) rfl rfl k_) ?_
    obtain ⟨cq, kq, qa, qb, qc⟩ := isOf hZ eT E_b1
    obtain ⟨_, _, ⟨T, Lq, kq, nq⟩, -, X, ⟨Lc, hQ, lq, yq, zq⟩, st⟩ := X.virtualBack hx (y := own_y28) (z := own_y28) hown (mvT hZ (hw _ (own_w 52 rfl))) (mvT hZ (hw _ (own_w 53 rfl))) (notFace_of_selects (args := #[]) (mvT hZ (hw _ (own_w 55 rfl)))) (mvT hZ (hw _ (own_w 55 rfl))) (mvT hZ (hw _ (own_w 54 rfl))) (by decide) (backOf (W := 0) (own_started l Z a0 hw [] b1 h9 n0 O F_started_b1) hZ (hw _ (own_w 56 rfl)) (hw _ (own_w 2 rfl)) (by decide) (by decide)) qa qc (g := (mkF m 95 (own_A6 p0 f1 f2 f3 f4 f5 b1) [(.ref b1)])) rfl (by rw [hml]; rfl) (Steps.refl _) (argsL := []) (rest := []) (lenOf own_pd7 rfl) rfl (by show 2 * 0 + _ ≤ _; exact Nat.le_of_eq rfl) (hb hby at_95) (fun _ _ => ⟨rfl, eT, (by decide : 5 + 0 ≤ _), (by decide : 1171 + 0 ≤ _)⟩)
    dsimp only [Pt.U, Pt.locs, Pt.cells, Pt.slots] at X lq yq zq st hQ
    rw [lq, yq, zq] at X
    obtain ⟨rfl, Nq, eT⟩ := hQ
    replace N := Fr.app N Nq
    refine own_viaT (g' := (mkF m 98 (own_A6 p0 f1 f2 f3 f4 f5 b1) [(.int 0)])) st ?_
    refine own_via (g' := (mkF m 110 (own_A5 p0 f1 f2 f3 f4 f5 b1 1) [(.ref b1)])) (fun t_ k_ => XS.ifNo X.here hx rfl (hb hby at_98) rfl ((if0 _ _).trans (teq (by decide : (0 : Int32) = (0 : Int32))).2) (XS.iconst X.here hx rfl (hb hby at_101) (XS.goto X.here hx rfl (pc0 := 102) (pc' := 106) rfl (hb hby at_102) (by decide) (by decide) (XS.istore X.here hx rfl (hb hby at_106) rfl (l' := (own_A5 p0 f1 f2 f3 f4 f5 b1 1)) rfl (XS.aload X.here hx rfl (hb hby at_108) rfl rfl k_))))) ?_
    obtain ⟨cq, kq, qa, qb, qc⟩ := isOf hZ eT E_b1
    obtain ⟨_, _, ⟨T, Lq, kq, nq⟩, -, X, ⟨Lc, hQ, lq, yq, zq⟩, st⟩ := X.virtualBack hx (y := own_y29) (z := own_y29) hown (mvT hZ (hw _ (own_w 57 rfl))) (mvT hZ (hw _ (own_w 58 rfl))) (notFace_of_selects (args := #[]) (mvT hZ (hw _ (own_w 60 rfl)))) (mvT hZ (hw _ (own_w 60 rfl))) (mvT hZ (hw _ (own_w 59 rfl))) (by decide) (backOf (W := 0) (own_closed l Z a0 hw [] b1 wDONE wHEAD wUNTIL_CLOSE h9 n0 O F_state_b1 S_DONE S_HEAD S_UNTIL_CLOSE neHU neHD) hZ (hw _ (own_w 61 rfl)) (hw _ (own_w 2 rfl)) (by decide) (by decide)) qa qc (g := (mkF m 110 (own_A5 p0 f1 f2 f3 f4 f5 b1 1) [(.ref b1)])) rfl (by rw [hml]; rfl) (Steps.refl _) (argsL := []) (rest := []) (lenOf own_pd7 rfl) rfl (by show 2 * 0 + _ ≤ _; exact Nat.le_of_eq rfl) (hb hby at_110) (fun _ _ => ⟨rfl, eT, (by decide : 5 + 0 ≤ _), (by decide : 1171 + 0 ≤ _)⟩)
    dsimp only [Pt.U, Pt.locs, Pt.cells, Pt.slots] at X lq yq zq st hQ
    rw [lq, yq, zq] at X
    obtain ⟨rfl, Nq, eT⟩ := hQ
    replace N := Fr.app N Nq
    refine own_viaT (g' := (mkF m 113 (own_A5 p0 f1 f2 f3 f4 f5 b1 1) [(.int 0)])) st ?_
    refine own_via (g' := (mkF m 125 (own_A4 p0 f1 f2 f3 f4 f5 b1 1 1) [(.ref b1)])) (fun t_ k_ => XS.ifNo X.here hx rfl (hb hby at_113) rfl ((if0 _ _).trans (teq (by decide : (0 : Int32) = (0 : Int32))).2) (XS.iconst X.here hx rfl (hb hby at_116) (XS.goto X.here hx rfl (pc0 := 117) (pc' := 121) rfl (hb hby at_117) (by decide) (by decide) (XS.istore X.here hx rfl (hb hby at_121) rfl (l' := (own_A4 p0 f1 f2 f3 f4 f5 b1 1 1)) rfl (XS.aload X.here hx rfl (hb hby at_123) rfl rfl k_))))) ?_
    obtain ⟨cq, kq, qa, qb, qc⟩ := isOf hZ eT E_b1
    obtain ⟨_, _, ⟨T, Lq, kq, nq⟩, -, X, ⟨Lc, hQ, lq, yq, zq⟩, st⟩ := X.virtualBack hx (y := own_y29) (z := own_y29) hown (mvT hZ (hw _ (own_w 57 rfl))) (mvT hZ (hw _ (own_w 58 rfl))) (notFace_of_selects (args := #[]) (mvT hZ (hw _ (own_w 60 rfl)))) (mvT hZ (hw _ (own_w 60 rfl))) (mvT hZ (hw _ (own_w 59 rfl))) (by decide) (backOf (W := 0) (own_closed l Z a0 hw [] b1 wDONE wHEAD wUNTIL_CLOSE h9 n0 O F_state_b1 S_DONE S_HEAD S_UNTIL_CLOSE neHU neHD) hZ (hw _ (own_w 61 rfl)) (hw _ (own_w 2 rfl)) (by decide) (by decide)) qa qc (g := (mkF m 125 (own_A4 p0 f1 f2 f3 f4 f5 b1 1 1) [(.ref b1)])) rfl (by rw [hml]; rfl) (Steps.refl _) (argsL := []) (rest := []) (lenOf own_pd7 rfl) rfl (by show 2 * 0 + _ ≤ _; exact Nat.le_of_eq rfl) (hb hby at_125) (fun _ _ => ⟨rfl, eT, (by decide : 5 + 0 ≤ _), (by decide : 1171 + 0 ≤ _)⟩)
    dsimp only [Pt.U, Pt.locs, Pt.cells, Pt.slots] at X lq yq zq st hQ
    rw [lq, yq, zq] at X
    obtain ⟨rfl, Nq, eT⟩ := hQ
    replace N := Fr.app N Nq
    refine own_viaT (g' := (mkF m 128 (own_A4 p0 f1 f2 f3 f4 f5 b1 1 1) [(.int 0)])) st ?_
    refine own_via (g' := (mkF m 140 (own_A2 p0 f1 f2 f3 f4 f5 b1 1 1 1) [(.ref b1)])) (fun t_ k_ => XS.ifNo X.here hx rfl (hb hby at_128) rfl ((if0 _ _).trans (teq (by decide : (0 : Int32) = (0 : Int32))).2) (XS.iconst X.here hx rfl (hb hby at_131) (XS.goto X.here hx rfl (pc0 := 132) (pc' := 136) rfl (hb hby at_132) (by decide) (by decide) (XS.istore X.here hx rfl (hb hby at_136) rfl (l' := (own_A2 p0 f1 f2 f3 f4 f5 b1 1 1 1)) rfl (XS.aload X.here hx rfl (hb hby at_138) rfl rfl k_))))) ?_
    have H : CHr Z own_EL s.vm h0 s.vm h9 := CHr.keep K0 all0 H0
    replace X := own_base X
    have hS := (State.WarmedH.refl s).since h0.size
    have hk : h0.size ≤ h9.size := K0.1
    replace hZ : Z.Warmed39 (s.setVm s.vm).vm := hZ
    replace hown : (s.setVm s.vm).vm.findClass "com/example/brassrig/brassrig/engine/ResponseReaderBeginPinLaw" = some m.cls := hown
    obtain ⟨s1, T, h10, k1, va, kva, X, eT, E, hS, hk, hZ, hown, E_s1, F_coder_s1, F_value_s1, V_va, lt_s1, lt_va, hCH, hLit, hne, st⟩ := ldcCH (s := s) X hx hZ hown (hw _ (own_w 64 rfl)) wS eT hS hk hEL (by decide) H.1 (vs := [(.int 99), (.int 111), (.int 110), (.int 116), (.int 101), (.int 110), (.int 116), (.int 45), (.int 116), (.int 121), (.int 112), (.int 101)]) (z := (12 : Int32)) ⟨by decide +kernel, by decide +kernel⟩ (by decide) rfl (g := (mkF m 140 (own_A2 p0 f1 f2 f3 f4 f5 b1 1 1 1) [(.ref b1)])) rfl (hb hby at_140) (n := 48) (by decide +kernel) (by decide) (by decide) (by decide)
    replace E_b1 := E_b1.ext E
    replace F_state_b1 := F_state_b1.ext E
    replace F_head_b1 := F_head_b1.ext E
    replace F_body_b1 := F_body_b1.ext E
    replace F_bodiless_b1 := F_bodiless_b1.ext E
    replace F_keepBody_b1 := F_keepBody_b1.ext E
    replace F_started_b1 := F_started_b1.ext E
    replace F_bodyLength_b1 := F_bodyLength_b1.ext E
    replace F_headLength_b1 := F_headLength_b1.ext E
    replace F_scanned_b1 := F_scanned_b1.ext E
    replace F_lineStart_b1 := F_lineStart_b1.ext E
    replace F_fieldCount_b1 := F_fieldCount_b1.ext E
    replace V_ha := V_ha.ext E
    replace V_bb := V_bb.ext E
    replace O := O.ext E
    replace K0 := K0.ext E
    replace H := H.trans hCH
    refine own_via (g' := (mkF m 142 (own_A2 p0 f1 f2 f3 f4 f5 b1 1 1 1) [(.ref s1), (.ref b1)])) st ?_
    have E_va := own_litExa hZ.alike hne V_va
    obtain ⟨cq, kq, qa, qb, qc⟩ := isOf hZ eT E_b1
    obtain ⟨_, _, ⟨T, Lq, kq, nq⟩, -, X, ⟨Lc, hQ, lq, yq, zq⟩, st⟩ := X.virtualBack hx (y := own_y23) (z := own_y23) hown (mvT hZ (hw _ (own_w 71 rfl))) (mvT hZ (hw _ (own_w 72 rfl))) (notFace_of_selects (args := #[]) (mvT hZ (hw _ (own_w 74 rfl)))) (mvT hZ (hw _ (own_w 74 rfl))) (mvT hZ (hw _ (own_w 73 rfl))) (by decide) (backOf (W := 0) (own_valueA l Z a0 hw [] b1 s1 va kva wL wCD wASC wU8 wISO wEL wEA kEA dE zc h10 n0 O E_b1 F_fieldCount_b1 E_s1 F_value_s1 F_coder_s1 E_va V_va S_loc S_cd E_cd S_u8 S_iso S_asc S_sca neA8 neAI S_el E_el F_el A_el S_C hzc) hZ (hw _ (own_w 75 rfl)) (hw _ (own_w 2 rfl)) (by decide) (by decide)) qa qc (g := (mkF m 142 (own_A2 p0 f1 f2 f3 f4 f5 b1 1 1 1) [(.ref s1), (.ref b1)])) rfl (by rw [hml]; rfl) (Steps.refl _) (argsL := [(.ref s1)]) (rest := []) (lenOf own_pd20 rfl) rfl (by show 2 * 0 + _ ≤ _; exact Nat.le_of_eq rfl) (hb hby at_142) (fun _ _ => ⟨rfl, eT, (by decide : 7 + 1 ≤ _), (by decide : 1223 + 12 ≤ _)⟩)
    dsimp only [Pt.U, Pt.locs, Pt.cells, Pt.slots] at X lq yq zq st hQ
    rw [lq, yq, zq] at X
    obtain ⟨rfl, Nq, Kq⟩ := hQ
    replace N := Fr.app N Nq
    obtain ⟨h11, eT⟩ : ∃ z, T.heap = z := ⟨_, rfl⟩
    rw [eT] at Kq
    replace E_b1 := E_b1.keep Kq
    replace F_state_b1 := F_state_b1.keep Kq nin0
    replace F_head_b1 := F_head_b1.keep Kq nin0
    replace F_body_b1 := F_body_b1.keep Kq nin0
    replace F_bodiless_b1 := F_bodiless_b1.keep Kq nin0
    replace F_keepBody_b1 := F_keepBody_b1.keep Kq nin0
    replace F_started_b1 := F_started_b1.keep Kq nin0
    replace F_bodyLength_b1 := F_bodyLength_b1.keep Kq nin0
    replace F_headLength_b1 := F_headLength_b1.keep Kq nin0
    replace F_scanned_b1 := F_scanned_b1.keep Kq nin0
    replace F_lineStart_b1 := F_lineStart_b1.keep Kq nin0
    replace F_fieldCount_b1 := F_fieldCount_b1.keep Kq nin0
    replace V_ha := V_ha.keep Kq nin0
    replace V_bb := V_bb.keep Kq nin0
    replace E_s1 := E_s1.keep Kq
    replace F_coder_s1 := F_coder_s1.keep Kq nin0
    replace F_value_s1 := F_value_s1.keep Kq nin0
    replace V_va := V_va.keep Kq nin0
    replace E_va := E_va.keep Kq
    replace O := O.keep Kq all0
    replace K0 := K0.trans Kq all0
    replace hk := Nat.le_trans hk Kq.1
    replace H := H.trans (CHr.keep Kq all0 H.1)
    refine own_viaT (g' := (mkF m 145 (own_A2 p0 f1 f2 f3 f4 f5 b1 1 1 1) [.null])) st ?_
    refine own_via (g' := (mkF m 157 (own_A1 p0 f1 f2 f3 f4 f5 b1 1 1 1 1) [(.ref b1)])) (fun t_ k_ => XS.ifnonnullNo X.here hx rfl (hb hby at_145) rfl (XS.iconst X.here hx rfl (hb hby at_148) (XS.goto X.here hx rfl (pc0 := 149) (pc' := 153) rfl (hb hby at_149) (by decide) (by decide) (XS.istore X.here hx rfl (hb hby at_153) rfl (l' := (own_A1 p0 f1 f2 f3 f4 f5 b1 1 1 1 1)) rfl (XS.aload X.here hx rfl (hb hby at_155) rfl rfl k_))))) ?_
    obtain ⟨cq, kq, qa, qb, qc⟩ := isOf hZ eT E_b1
    obtain ⟨_, _, ⟨T, Lq, kq, nq⟩, -, X, hSq, hgr, ⟨Lc, hQ, lq, yq, zq, hCH⟩, st⟩ := X.virtualBackS hx (y := own_y30) (z := own_y30) hown (mvT hZ (hw _ (own_w 165 rfl))) (mvT hZ (hw _ (own_w 166 rfl))) (notFace_of_selects (args := #[]) (mvT hZ (hw _ (own_w 168 rfl)))) (mvT hZ (hw _ (own_w 168 rfl))) (mvT hZ (hw _ (own_w 167 rfl))) (by decide) (backOfSH (W := 0) (s := s) (own_bodyText l Z a0 hw [] b1 bb kb_ wL wBL wLG wLV kLV dLV wCD wASC wU8 wISO wEL wEA kEA dE zc vS h11 n0 O E_b1 F_fieldCount_b1 F_body_b1 F_bodyLength_b1 V_bb S_loc E_loc F_bl E_bl F_lg F_lgv A_lg S_cd E_cd S_u8 S_iso S_asc S_sca neA8 neAI S_el E_el F_el A_el S_C hzc S_su8 E_u8 S_S hvS) hZ (hw _ (own_w 169 rfl)) (hw _ (own_w 2 rfl)) (by decide) (by decide) hEL H.1) qa qc (g := (mkF m 157 (own_A1 p0 f1 f2 f3 f4 f5 b1 1 1 1 1) [(.ref b1)])) rfl (by rw [hml]; rfl) (Steps.refl _) (argsL := []) (rest := []) (lenOf own_pd13 rfl) rfl (by show 2 * 0 + _ ≤ _; exact Nat.le_of_eq rfl) (hb hby at_157) (fun _ _ => ⟨rfl, eT, (by decide : 8 + 15 ≤ _), (by decide : 1235 + 124 ≤ _)⟩)
    dsimp only [Pt.U, Pt.locs, Pt.cells, Pt.slots] at X hSq hgr lq yq zq st hQ hCH
    rw [lq, yq, zq] at X
    obtain ⟨rr, rb, krb, rfl, Nq, Kq, E_rr, F_value_rr, V_rb⟩ := hQ
    replace N := Fr.app N Nq
    replace hS := own_reS hS hSq (Nat.le_trans hk (by rw [← eT]; exact hgr))
    replace hZ := own_reZ hZ hSq
    replace hown := own_reown hown hSq
    replace hk := Nat.le_refl T.heap.size
    obtain ⟨vmW, eW⟩ : ∃ z, T.vm = z := ⟨_, rfl⟩
    rw [eW] at X hS hZ hown hCH
    replace X := own_flat X
    obtain ⟨h12, eT⟩ : ∃ z, T.heap = z := ⟨_, rfl⟩
    rw [eT] at Kq E_rr F_value_rr V_rb
    replace E_b1 := E_b1.keep Kq
    replace F_state_b1 := F_state_b1.keep Kq nin0
    replace F_head_b1 := F_head_b1.keep Kq nin0
    replace F_body_b1 := F_body_b1.keep Kq nin0
    replace F_bodiless_b1 := F_bodiless_b1.keep Kq nin0
    replace F_keepBody_b1 := F_keepBody_b1.keep Kq nin0
    replace F_started_b1 := F_started_b1.keep Kq nin0
    replace F_bodyLength_b1 := F_bodyLength_b1.keep Kq nin0
    replace F_headLength_b1 := F_headLength_b1.keep Kq nin0
    replace F_scanned_b1 := F_scanned_b1.keep Kq nin0
    replace F_lineStart_b1 := F_lineStart_b1.keep Kq nin0
    replace F_fieldCount_b1 := F_fieldCount_b1.keep Kq nin0
    replace V_ha := V_ha.keep Kq nin0
    replace V_bb := V_bb.keep Kq nin0
    replace E_s1 := E_s1.keep Kq
    replace F_coder_s1 := F_coder_s1.keep Kq nin0
    replace F_value_s1 := F_value_s1.keep Kq nin0
    replace V_va := V_va.keep Kq nin0
    replace E_va := E_va.keep Kq
    replace O := O.keep Kq all0
    replace K0 := K0.trans Kq all0
    rw [eT] at hk hS
    rw [eT] at hCH
    replace H := H.trans hCH
    refine own_viaT (g' := (mkF m 160 (own_A1 p0 f1 f2 f3 f4 f5 b1 1 1 1 1) [(.ref rr)])) st ?_
    obtain ⟨cq, kq, qa, qb, qc⟩ := isOf hZ eT E_rr
    obtain ⟨_, _, ⟨T, Lq, kq, nq⟩, -, X, ⟨Lc, hQ, lq, yq, zq⟩, st⟩ := X.virtualBack hx (y := own_y31) (z := own_y31) hown (mvT hZ (hw _ (own_w 230 rfl))) (mvT hZ (hw _ (own_w 231 rfl))) (notFace_of_selects (args := #[]) (mvT hZ (hw _ (own_w 233 rfl)))) (mvT hZ (hw _ (own_w 233 rfl))) (mvT hZ (hw _ (own_w 232 rfl))) (by decide) (backOf (W := 0) (own_sie l Z a0 hw [] rr rb krb h12 n0 O F_value_rr V_rb) hZ (hw _ (own_w 234 rfl)) (hw _ (own_w 65 rfl)) (by decide) (by decide)) qa qc (g := (mkF m 160 (own_A1 p0 f1 f2 f3 f4 f5 b1 1 1 1 1) [(.ref rr)])) rfl (by rw [hml]; rfl) (Steps.refl _) (argsL := []) (rest := []) (lenOf own_pd7 rfl) rfl (by show 2 * 0 + _ ≤ _; exact Nat.le_of_eq rfl) (hb hby at_160) (fun _ _ => ⟨rfl, eT, (by decide : 23 + 0 ≤ _), (by decide : 1359 + 0 ≤ _)⟩)
    dsimp only [Pt.U, Pt.locs, Pt.cells, Pt.slots] at X lq yq zq st hQ
    rw [lq, yq, zq] at X
    obtain ⟨rfl, Nq, eT⟩ := hQ
    replace N := Fr.app N Nq
    refine own_viaT (g' := (mkF m 163 (own_A1 p0 f1 f2 f3 f4 f5 b1 1 1 1 1) [(.int 1)])) st ?_
    refine own_via (g' := (mkF m 187 (own_A0 p0 f1 f2 f3 f4 f5 b1 1 1 1 1 1) [(.int 1)])) (fun t_ k_ => XS.istore X.here hx rfl (hb hby at_163) rfl (l' := (own_A0 p0 f1 f2 f3 f4 f5 b1 1 1 1 1 1)) rfl (XS.iload X.here hx rfl (hb hby at_165) rfl (XS.ifNo X.here hx rfl (hb hby at_167) rfl ((if0 _ _).trans (feq (by decide : ¬ ((1 : Int32) = (0 : Int32)))).1) (XS.iload X.here hx rfl (hb hby at_170) rfl (XS.ifNo X.here hx rfl (hb hby at_172) rfl ((if0 _ _).trans (feq (by decide : ¬ ((1 : Int32) = (0 : Int32)))).1) (XS.iload X.here hx rfl (hb hby at_175) rfl (XS.ifNo X.here hx rfl (hb hby at_177) rfl ((if0 _ _).trans (feq (by decide : ¬ ((1 : Int32) = (0 : Int32)))).1) (XS.iload X.here hx rfl (hb hby at_180) rfl (XS.ifNo X.here hx rfl (hb hby at_182) rfl ((if0 _ _).trans (feq (by decide : ¬ ((1 : Int32) = (0 : Int32)))).1) (XS.iload X.here hx rfl (hb hby at_185) rfl k_)))))))))) ?_
    refine own_via (g' := (mkF m 195 (own_A0 p0 f1 f2 f3 f4 f5 b1 1 1 1 1 1) [(.int 1)])) (fun t_ k_ => XS.ifNo X.here hx rfl (hb hby at_187) rfl ((if0 _ _).trans (feq (by decide : ¬ ((1 : Int32) = (0 : Int32)))).1) (XS.iconst X.here hx rfl (hb hby at_190) (XS.goto X.here hx rfl (pc0 := 191) (pc' := 195) rfl (hb hby at_191) (by decide) (by decide) k_))) ?_
    refine own_retNW X hS (by rw [eT]; exact hk) hx hlk (t := .boolean) Bd.returns (by simp) (hb hby at_195) (by decide) (by decide) (fun _ => trivial) ?_
    rw [eT]
    exact ⟨rfl, N, trivial⟩
theorem own_notEq {args : Array Value} {first s : State} {o : Option Outcome} {t : Term} {k z : Int32} (h : (Cond.not (.eq t (.int k))).value args first o s [] = some true) (ev : t.eval args first o [] s = some (.int z)) : ¬ z = k := fun q => by
  subst q
  simp [Cond.value, ev, Term.int_eval] at h
theorem own_isRef {args : Array Value} {first s : State} {o : Option Outcome} {t : Term} (h : (Cond.isRef t).value args first o s [] = some true) : ∃ v, t.eval args first o [] s = some v ∧ v.isRef = true := by
  simp only [Cond.value] at h
  cases hv : t.eval args first o [] s with
  | none => simp [hv] at h
  | some v => cases v <;> simp [hv] at h <;> exact ⟨_, rfl, rfl⟩
theorem own_lenC {args : Array Value} {s : State} {t : Term} {a : Addr} {c : Cell} {ty : FieldType} {z : Int32} (ev : t.eval args s none [] s = some (.ref a)) (A : Arr s s.heap a c ty) (h : (Term.length t).eval args s none [] s = some (.int z)) : c.slots.size < 2 ^ 31 ∧ c.slots.size.toInt32 = z := by
  have ha := A.fin (Vm.Alike.refl _)
  by_cases hl : c.slots.size < 2 ^ 31
  · rw [len_f ev ha hl] at h
    exact ⟨hl, by cases h; rfl⟩
  · simp [Term.eval, ev, ha, hl] at h
theorem own_eqT {args : Array Value} {first s : State} {o : Option Outcome} {a b : Term} {y : Addr} (h : (Cond.eq a b).value args first o s [] = some true) (ha : a.eval args first o [] s = some (.ref y)) : b.eval args first o [] s = some (.ref y) := by
  simp only [Cond.value, ha] at h
  cases hb : b.eval args first o [] s with
  | none => simp [hb] at h
  | some x => cases x <;> simp [hb] at h ⊢ <;> exact h.symm
set_option maxRecDepth 65536 in
set_option maxHeartbeats 40000000 in
theorem comes_1 {Post : Tables → Env → Array Value → State → Outcome → State → Prop} (hpost : ∀ tb e args s v u, (limb_1_1.after args s (.returned v) u = true ∧ limb_1_2.after args s (.returned v) u = true ∧ True) → ReturnedEndW s (.returned v) u (Jvm.fieldLocs frame_1_writes args s ++ Jvm.arrayLocs frame_1_arrays args s ++ Jvm.staticLocs frame_1_statics s) 48 8704 → Post tb e args s (.returned v) u) :
    ArmFor flags0 classFile x code maxLocals ret World_1 tables_1 room_1 Calls_1 rest_1 Pre_1 Post := by
  intro l hfl _ _ p e ha hc hk s m args below hf hA hF happ hP
  obtain ⟨hcalls, hrest, hpre⟩ := hP
  obtain ⟨-, -, -, hnamed, -, -, -, hat⟩ := (Spec.applies_iff hf).mp happ
  obtain ⟨hg, hn⟩ := and_e (Cond.before_iff.mp (show (Jvm.Cond.and given_1 narrow_1).before args s = true from hpre))
  obtain ⟨hcount, hg1⟩ := and_e hg
  obtain ⟨w0, rfl⟩ : ∃ w0 : Value, args = #[w0] := by
    have hs : args.size = 1 := by simpa [Cond.value, given_1] using hcount
    obtain ⟨L⟩ := args
    match L, hs with
    | [w0], _ => exact ⟨w0, rfl⟩
  have hw := fun d (hd : d ∈ tables_1) => atoms_spec (ws := Jvm.Cond.code x code maxLocals ret :: tables_1) hat d (List.mem_cons_of_mem _ hd)
  have hfit : Fit s := fun {y c} hc i hi => by
    obtain ⟨ha, rfl⟩ := Array.getElem?_eq_some_iff.mp hc
    have q := List.all_eq_true.mp ((Array.all_eq_true_iff_forall_mem.mp hF) _ (Array.getElem_mem ha)) i (List.mem_range.mpr hi)
    simpa [Array.getElem?_eq_getElem hi] using q
  obtain ⟨hsets, hown0⟩ := atoms_of _ (rest_1_c_eq ▸ (show rest_1_c.before _ s = true from hrest))
  have hr0 := Cond.before_iff.mp hown0
  obtain ⟨i0, ei0⟩ := is_v hg1
  obtain rfl : w0 = (.int i0) := Option.some.inj ei0
  obtain ⟨nn1, nn2⟩ := and_e hn
  obtain ⟨nn3, nn4⟩ := and_e nn2
  obtain ⟨nn5, nn6⟩ := and_e nn4
  obtain ⟨nn7, nn8⟩ := and_e nn6
  obtain ⟨nn9, nn10⟩ := and_e nn8
  obtain ⟨wDONE, evDONE⟩ := exa_v nn1
  have S_DONE := Sta.start evDONE (Or.inr ⟨(hw _ (own_w 10 rfl)), (hw _ (own_w 11 rfl))⟩)
  obtain ⟨wHEAD, evHEAD⟩ := exa_v nn3
  have S_HEAD := Sta.start evHEAD (Or.inr ⟨(hw _ (own_w 10 rfl)), (hw _ (own_w 43 rfl))⟩)
  obtain ⟨wUNTIL_CLOSE, evUNTIL_CLOSE⟩ := exa_v nn5
  have S_UNTIL_CLOSE := Sta.start evUNTIL_CLOSE (Or.inr ⟨(hw _ (own_w 10 rfl)), (hw _ (own_w 63 rfl))⟩)
  have Or_HEAD := Fld.start ((fld_at evHEAD).symm.trans (own_eqI nn7))
  have Or_UNTIL_CLOSE := Fld.start ((fld_at evUNTIL_CLOSE).symm.trans (own_eqI nn9))
  have Or_DONE := Fld.start ((fld_at evDONE).symm.trans (own_eqI nn10))
  have neHU : ¬ wHEAD = wUNTIL_CLOSE := Fld.ne Or_HEAD Or_UNTIL_CLOSE (by decide)
  have neHD : ¬ wHEAD = wDONE := Fld.ne Or_HEAD Or_DONE (by decide)
  obtain ⟨wL, evL⟩ := exa_v (Cond.before_iff.mp (hsets _ (List.mem_of_getElem? (i := 2) rfl)))
  have E_loc := Exa.start evL (Cond.before_iff.mp (hsets _ (List.mem_of_getElem? (i := 2) rfl)))
  have S_loc := Sta.start evL (Or.inl (hsets _ (List.mem_of_getElem? (i := 1) rfl)))
  obtain ⟨wBL, evBL⟩ := exa_v (Cond.before_iff.mp (hsets _ (List.mem_of_getElem? (i := 3) rfl)))
  have E_bl := Exa.start evBL (Cond.before_iff.mp (hsets _ (List.mem_of_getElem? (i := 3) rfl)))
  have F_bl := Fld.start ((fld_at evL).symm.trans evBL)
  obtain ⟨wLG, evLG⟩ := exa_v (Cond.before_iff.mp (hsets _ (List.mem_of_getElem? (i := 4) rfl)))
  have F_lg := Fld.start ((fld_at evBL).symm.trans evLG)
  obtain ⟨wLV, evLV⟩ := arr_v (Cond.before_iff.mp (hsets _ (List.mem_of_getElem? (i := 6) rfl)))
  have F_lgv := Fld.start ((fld_at evLG).symm.trans evLV)
  obtain ⟨clLV, ArLV⟩ := Arr.start evLV (Cond.before_iff.mp (hsets _ (List.mem_of_getElem? (i := 6) rfl)))
  obtain ⟨hq1, hq2⟩ := own_lenC evLV ArLV (own_eqI (Cond.before_iff.mp (hsets _ (List.mem_of_getElem? (i := 8) rfl))))
  have A_lg := Arv.start (vs := []) (dv := .null) hfit ArLV hq1 hq2 (by decide) rfl trivial
  obtain ⟨zc, evC⟩ := is_v (Cond.before_iff.mp (hsets _ (List.mem_of_getElem? (i := 10) rfl)))
  have S_C := Sta.start evC (Or.inl (hsets _ (List.mem_of_getElem? (i := 9) rfl)))
  have hzc : ¬ zc = 0 := own_notEq (Cond.before_iff.mp (hsets _ (List.mem_of_getElem? (i := 11) rfl))) evC
  obtain ⟨vS, evS, hvS⟩ := own_isRef (Cond.before_iff.mp (hsets _ (List.mem_of_getElem? (i := 17) rfl)))
  have S_S := Sta.start evS (Or.inl (hsets _ (List.mem_of_getElem? (i := 16) rfl)))
  obtain ⟨wCD, evCD⟩ := exa_v (Cond.before_iff.mp (hsets _ (List.mem_of_getElem? (i := 20) rfl)))
  have S_cd := Sta.start evCD (Or.inl (hsets _ (List.mem_of_getElem? (i := 19) rfl)))
  have E_cd := Exa.start evCD (Cond.before_iff.mp (hsets _ (List.mem_of_getElem? (i := 20) rfl)))
  obtain ⟨wASC, evSA⟩ := exa_v (Cond.before_iff.mp (hsets _ (List.mem_of_getElem? (i := 26) rfl)))
  have S_sca := Sta.start evSA (Or.inl (hsets _ (List.mem_of_getElem? (i := 22) rfl)))
  have evAI := own_eqT (Cond.before_iff.mp (hsets _ (List.mem_of_getElem? (i := 25) rfl))) evSA
  have S_asc := Sta.start evAI (Or.inl (hsets _ (List.mem_of_getElem? (i := 24) rfl)))
  have E_asc := Exa.start evSA (Cond.before_iff.mp (hsets _ (List.mem_of_getElem? (i := 26) rfl)))
  obtain ⟨wU8, evU8⟩ := exa_v (Cond.before_iff.mp (hsets _ (List.mem_of_getElem? (i := 29) rfl)))
  have S_u8 := Sta.start evU8 (Or.inl (hsets _ (List.mem_of_getElem? (i := 28) rfl)))
  have E_u8 := Exa.start evU8 (Cond.before_iff.mp (hsets _ (List.mem_of_getElem? (i := 29) rfl)))
  obtain ⟨wISO, evIS⟩ := exa_v (Cond.before_iff.mp (hsets _ (List.mem_of_getElem? (i := 32) rfl)))
  have S_iso := Sta.start evIS (Or.inl (hsets _ (List.mem_of_getElem? (i := 31) rfl)))
  have E_iso := Exa.start evIS (Cond.before_iff.mp (hsets _ (List.mem_of_getElem? (i := 32) rfl)))
  have neA8 : ¬ wASC = wU8 := Exa.ne E_asc E_u8 (by decide)
  have neAI : ¬ wASC = wISO := Exa.ne E_asc E_iso (by decide)
  have S_su8 := Sta.start (own_eqR (Cond.before_iff.mp (hsets _ (List.mem_of_getElem? (i := 47) rfl))) evU8) (Or.inl (hsets _ (List.mem_of_getElem? (i := 44) rfl)))
  obtain ⟨wEL, evEL⟩ := exa_v (Cond.before_iff.mp (hsets _ (List.mem_of_getElem? (i := 38) rfl)))
  have S_el := Sta.start evEL (Or.inl (hsets _ (List.mem_of_getElem? (i := 37) rfl)))
  have E_el := Exa.start evEL (Cond.before_iff.mp (hsets _ (List.mem_of_getElem? (i := 38) rfl)))
  obtain ⟨wEA, evEA⟩ := arr_v (Cond.before_iff.mp (hsets _ (List.mem_of_getElem? (i := 39) rfl)))
  have F_el := Fld.start ((fld_at evEL).symm.trans evEA)
  obtain ⟨clEA, ArEA⟩ := Arr.start evEA (Cond.before_iff.mp (hsets _ (List.mem_of_getElem? (i := 39) rfl)))
  obtain ⟨hp1, hp2⟩ := own_lenC evEA ArEA (own_eqI (Cond.before_iff.mp (hsets _ (List.mem_of_getElem? (i := 41) rfl))))
  have A_el := Arv.start (vs := []) (dv := .null) hfit ArEA hp1 hp2 (by decide) rfl trivial
  have hCH : CHv s own_EL s.vm s.heap := CHv.start (own_hEL hw) hcalls.1 (hsets _ (List.mem_of_getElem? (i := 11) rfl)) (hw _ (own_w 14 rfl)) (hw _ (own_w 66 rfl))
  obtain ⟨n, o, h1, h2, h3, _, L, rfl, ⟨rfl, N, -⟩, -, hq⟩ := own_law l s _ hw tables_1 i0 wDONE wHEAD wUNTIL_CLOSE wL wBL wLG wLV _ _ wCD wASC wU8 wISO wEL wEA _ _ zc vS s.heap s.heap.size (Old.start s) S_DONE S_HEAD S_UNTIL_CLOSE neHU neHD S_loc E_loc F_bl E_bl F_lg F_lgv A_lg S_cd E_cd S_u8 S_iso S_asc S_sca neA8 neAI S_el E_el F_el A_el S_C hzc S_su8 E_u8 S_S hvS p e ha hc hk s m _ below hf ((Spec.applies_iff_loose hf).mp happ).1 ⟨rfl, State.Warmed39.refl s, rfl, hCH⟩ trivial
  refine ⟨n, _, h1, h2, h3, hpost _ _ _ _ _ _ ⟨Cond.after_iff.mpr rfl, Cond.after_iff.mpr (eq_i res_at (Term.int_eval (1)) rfl), trivial⟩ ⟨hq.1, hq.2.1, hq.2.2.1, (hq.2.2.2.sift fun y hy => Or.inr (N y hy)).mono (by decide) (by decide)⟩⟩
theorem main_1_1 : Claimed_1_1 := comes_1 fun _ _ _ _ _ _ h hF => ⟨h.1, hF⟩
theorem main_1_2 : Claimed_1_2 := comes_1 fun _ _ _ _ _ _ h hF => ⟨h.2.1, hF⟩
end Jvm.Pilot.@@N@@
namespace Jvm.Pilot.@@N@@
open Jvm Jvm.ClassFile Sem Op Lib Jvm.Free Jvm.Stand Jvm.Pilot.@@N@@.Jvm.D
/-! MADE BY PROGRAM (witnessworld.py) out of the Statement's table words and the real class files: 45 classes; the members and pool entries that the words name. The judged class is class 1, her method 1. -/
namespace start1
open Jvm.ClassFile
def u (s : String) : CpInfo := .utf8 (stringToUtf16 s)
/-- a pool by its gaps: so many unusable entries, then the entry; so many at the end -/
def gap : Nat → List CpInfo → List CpInfo
  | 0, r => r
  | n + 1, r => .unusable :: gap n r
def poolList (es : List (Nat × CpInfo)) (last : Nat) : List CpInfo := es.foldr (fun e r => gap e.1 (e.2 :: r)) (gap last [])
def pool (es : List (Nat × CpInfo)) (last : Nat) : Array CpInfo := ⟨poolList es last⟩
def fileOf (pool : Array CpInfo) (this : Nat) (attrs : Array Attribute := #[]) (ms : Array MethodInfo := #[]) (fl : Nat := 33) (sup : Nat := 0) (ifs : Array Nat := #[]) (fds : Array FieldInfo := #[]) : ClassFile where
  minorVersion := 0
  majorVersion := 65
  constantPool := pool
  accessFlags := fl
  thisClass := this
  superClass := sup
  interfaces := ifs
  fields := fds
  methods := ms
  attributes := attrs
def plain (name : String) (sup : Option ClassId) : Class where
  name := name
  kind := .ordinary
  loader := none
  accessFlags := 33
  super := sup
  interfaces := #[]
  cf := none
  fields := #[]
  methods := #[]
  instanceTypes := #[]
  staticTypes := #[]
  resolved := #[]
  callSites := []
  init := .initialized
  statics := none
  mirror := none

def pool0 : Array CpInfo := pool [(5, u "<init>"), (0, u "()V"), (1, .class_ 10), (1, u "java/lang/Object"), (85, u "clone"), (0, u "()Ljava/lang/Object;")] 26

def k0c0 : Code := { maxStack := 0, maxLocals := 1, code := object_method_1_code, exceptionTable := #[], attributes := #[] }
def k0m0 : Method := { name := "<init>", desc := "()V", sig := { parameters := [], returnType := none }, accessFlags := 1, code := some k0c0 }
def k0m1 : Method := { name := "clone", desc := "()Ljava/lang/Object;", sig := { parameters := [], returnType := some (.object "java/lang/Object") }, accessFlags := 260, code := none }
/-- java/lang/Object -/
def k0 : Class := { plain "java/lang/Object" none with
  accessFlags := 33
  interfaces := #[]
  cf := some (fileOf pool0 8 #[] #[{ accessFlags := 1, nameIndex := 5, descriptorIndex := 6, attributes := #[] }, { accessFlags := 260, nameIndex := 96, descriptorIndex := 97, attributes := #[] }] 33 0 #[] #[])
  fields := #[]
  methods := #[k0m0, k0m1]
  instanceTypes := #[]
  staticTypes := #[]
  resolved := Array.replicate 124 none
  statics := none }

def pool1 : Array CpInfo := pool [(2, .class_ 4), (0, .nameAndType 5 6), (0, u "java/lang/Object"), (0, u "<init>"), (0, u "()V"), (0, .class_ 8), (0, u "com/example/brassrig/brassrig/engine/ResponseReader"), (0, .methodref 7 3), (0, .methodref 7 11), (0, .nameAndType 12 13), (0, u "begin"), (0, u "(ZZ)V"), (0, .methodref 7 15), (0, .nameAndType 16 17), (0, u "started"), (0, u "()Z"), (0, .methodref 7 19), (0, .nameAndType 20 17), (0, u "closed"), (0, .string 22), (0, u "content-type"), (0, .methodref 7 24), (0, .nameAndType 25 26), (0, u "value"), (0, u "(Ljava/lang/String;)Ljava/lang/String;"), (0, .methodref 7 28), (0, .nameAndType 29 30), (0, u "bodyText"), (0, u "()Ljava/lang/String;"), (0, .methodref 32 33), (0, .class_ 34), (0, .nameAndType 35 17), (0, u "java/lang/String"), (0, u "isEmpty"), (0, .class_ 37), (0, u "com/example/brassrig/brassrig/engine/ResponseReaderBeginPinLaw"), (2, u "law"), (0, u "(I)Z")] 3

def k1m0 : Method := { name := "<init>", desc := "()V", sig := { parameters := [], returnType := none }, accessFlags := 1, code := none }
def k1c1 : Code := { maxStack := 3, maxLocals := 12, code := code, exceptionTable := #[], attributes := #[] }
def k1m1 : Method := { name := "law", desc := "(I)Z", sig := { parameters := [.int], returnType := some .boolean }, accessFlags := 9, code := some k1c1 }
/-- com/example/brassrig/brassrig/engine/ResponseReaderBeginPinLaw -/
def k1 : Class := { plain "com/example/brassrig/brassrig/engine/ResponseReaderBeginPinLaw" (some 0) with
  accessFlags := 49
  interfaces := #[]
  cf := some (fileOf pool1 36 #[] #[{ accessFlags := 1, nameIndex := 5, descriptorIndex := 6, attributes := #[] }, { accessFlags := 9, nameIndex := 40, descriptorIndex := 41, attributes := #[] }] 49 2 #[] #[])
  fields := #[]
  methods := #[k1m0, k1m1]
  instanceTypes := #[]
  staticTypes := #[]
  resolved := Array.replicate 45 none
  statics := none }

def pool2 : Array CpInfo := pool [(1, .methodref 2 3), (0, .class_ 4), (0, .nameAndType 5 6), (0, u "java/lang/Object"), (0, u "<init>"), (0, u "()V"), (0, .fieldref 8 9), (0, .class_ 10), (0, .nameAndType 11 12), (0, u "com/example/brassrig/brassrig/engine/ResponseReader$State"), (0, u "DONE"), (0, u "Lcom/example/brassrig/brassrig/engine/ResponseReader$State;"), (0, .fieldref 14 15), (0, .class_ 16), (0, .nameAndType 17 12), (0, u "com/example/brassrig/brassrig/engine/ResponseReader"), (0, u "state"), (0, .fieldref 14 19), (0, .nameAndType 20 21), (0, u "head"), (0, u "[B"), (0, .fieldref 14 23), (0, .nameAndType 24 25), (0, u "fields"), (0, u "[I"), (0, .fieldref 14 27), (0, .nameAndType 28 21), (0, u "line"), (0, .fieldref 14 30), (0, .nameAndType 31 21), (0, u "body"), (0, .fieldref 14 33), (0, .nameAndType 34 35), (0, u "bodiless"), (0, u "Z"), (0, .fieldref 14 37), (0, .nameAndType 38 35), (0, u "keepBody"), (0, .fieldref 14 40), (0, .nameAndType 41 35), (0, u "started"), (0, .fieldref 14 43), (0, .nameAndType 44 45), (0, u "bodyLength"), (0, u "I"), (0, .integer 65536), (0, .methodref 14 48), (0, .nameAndType 49 6), (0, u "startHead"), (0, .fieldref 8 51), (0, .nameAndType 52 12), (0, u "HEAD"), (0, .fieldref 14 54), (0, .nameAndType 55 45), (0, u "headLength"), (0, .fieldref 14 57), (0, .nameAndType 58 45), (0, u "scanned"), (0, .fieldref 14 60), (0, .nameAndType 61 45), (0, u "lineStart"), (0, .fieldref 14 63), (0, .nameAndType 64 45), (0, u "fieldCount"), (5, u "()Z"), (9, u "reusable"), (0, .fieldref 8 82), (0, .nameAndType 83 12), (0, u "UNTIL_CLOSE"), (2, u "status"), (0, .fieldref 88 89), (0, .class_ 90), (0, .nameAndType 91 92), (0, u "java/util/Locale"), (0, u "ROOT"), (0, u "Ljava/util/Locale;"), (0, .methodref 94 95), (0, .class_ 96), (0, .nameAndType 97 98), (0, u "java/lang/String"), (0, u "toLowerCase"), (0, u "(Ljava/util/Locale;)Ljava/lang/String;"), (0, .methodref 14 100), (0, .nameAndType 101 102), (0, u "ascii"), (0, u "(Ljava/lang/String;)[B"), (0, .interfaceMethodref 104 105), (0, .class_ 106), (0, .nameAndType 107 108), (0, u "java/util/List"), (0, u "of"), (0, u "()Ljava/util/List;"), (4, .interfaceMethodref 104 114), (0, .nameAndType 115 70), (0, u "isEmpty"), (7, u "value"), (5, .methodref 14 130), (0, .nameAndType 131 132), (0, u "values"), (0, u "(Ljava/lang/String;)Ljava/util/List;"), (6, u "headEnd"), (12, .string 153), (0, u "Content-Type"), (0, .methodref 14 155), (0, .nameAndType 123 156), (0, u "(Ljava/lang/String;)Ljava/lang/String;"), (0, .methodref 14 158), (0, .nameAndType 159 160), (0, u "charset"), (0, u "(Ljava/lang/String;)Ljava/nio/charset/Charset;"), (0, .methodref 94 162), (0, .nameAndType 5 163), (0, u "([BIILjava/nio/charset/Charset;)V"), (0, .fieldref 165 166), (0, .class_ 167), (0, .nameAndType 168 169), (0, u "java/nio/charset/StandardCharsets"), (0, u "UTF_8"), (0, u "Ljava/nio/charset/Charset;"), (9, u "()Ljava/lang/String;"), (32, u "remaining"), (73, u "CONNECTION"), (26, u "TRANSFER_ENCODING"), (2, u "CONTENT_LENGTH"), (13, u "lineLength"), (2, u "lineEnded"), (2, u "J"), (81, .fieldref 165 419), (0, .nameAndType 420 169), (0, u "US_ASCII"), (0, .methodref 94 422), (0, .nameAndType 423 424), (0, u "getBytes"), (0, u "(Ljava/nio/charset/Charset;)[B"), (25, u "MAX_HEAD_BYTES"), (1, u "MAX_LINE_BYTES"), (0, u "FIRST_HEAD_BYTES"), (1, u "HEAD_PIECE_BYTES"), (1, u "KEPT_BUFFER_BYTES"), (0, u "FIELD_INTS"), (1, u "NO_CONTENT"), (1, u "NOT_MODIFIED"), (1, u "SWITCHING_PROTOCOLS"), (1, u "STATUS_LINE_LENGTH"), (3, u "begin"), (0, u "(ZZ)V"), (3, u "closed"), (6, u "bodyText")] 59

def k2c0 : Code := { maxStack := 2, maxLocals := 1, code := prog_11_method_1_code, exceptionTable := #[], attributes := #[] }
def k2m0 : Method := { name := "<init>", desc := "()V", sig := { parameters := [], returnType := none }, accessFlags := 0, code := some k2c0 }
def k2c1 : Code := { maxStack := 2, maxLocals := 3, code := prog_11_method_2_code, exceptionTable := #[], attributes := #[] }
def k2m1 : Method := { name := "begin", desc := "(ZZ)V", sig := { parameters := [.boolean, .boolean], returnType := none }, accessFlags := 0, code := some k2c1 }
def k2c2 : Code := { maxStack := 2, maxLocals := 1, code := prog_11_method_3_code, exceptionTable := #[], attributes := #[] }
def k2m2 : Method := { name := "startHead", desc := "()V", sig := { parameters := [], returnType := none }, accessFlags := 2, code := some k2c2 }
def k2c3 : Code := { maxStack := 1, maxLocals := 1, code := prog_11_method_4_code, exceptionTable := #[], attributes := #[] }
def k2m3 : Method := { name := "started", desc := "()Z", sig := { parameters := [], returnType := some .boolean }, accessFlags := 0, code := some k2c3 }
def k2c4 : Code := { maxStack := 2, maxLocals := 1, code := prog_11_method_6_code, exceptionTable := #[], attributes := #[] }
def k2m4 : Method := { name := "closed", desc := "()Z", sig := { parameters := [], returnType := some .boolean }, accessFlags := 0, code := some k2c4 }
def k2c5 : Code := { maxStack := 3, maxLocals := 5, code := prog_11_method_9_code, exceptionTable := #[], attributes := #[] }
def k2m5 : Method := { name := "values", desc := "(Ljava/lang/String;)Ljava/util/List;", sig := { parameters := [(.object "java/lang/String")], returnType := some (.object "java/util/List") }, accessFlags := 0, code := some k2c5 }
def k2c6 : Code := { maxStack := 2, maxLocals := 3, code := prog_11_method_10_code, exceptionTable := #[], attributes := #[] }
def k2m6 : Method := { name := "value", desc := "(Ljava/lang/String;)Ljava/lang/String;", sig := { parameters := [(.object "java/lang/String")], returnType := some (.object "java/lang/String") }, accessFlags := 0, code := some k2c6 }
def k2c7 : Code := { maxStack := 7, maxLocals := 1, code := prog_11_method_12_code, exceptionTable := #[], attributes := #[] }
def k2m7 : Method := { name := "bodyText", desc := "()Ljava/lang/String;", sig := { parameters := [], returnType := some (.object "java/lang/String") }, accessFlags := 0, code := some k2c7 }
def k2c8 : Code := { maxStack := 3, maxLocals := 8, code := prog_11_method_13_code, exceptionTable := #[{ startPc := 92, endPc := 98, handlerPc := 101, catchType := 208 }], attributes := #[] }
def k2m8 : Method := { name := "charset", desc := "(Ljava/lang/String;)Ljava/nio/charset/Charset;", sig := { parameters := [(.object "java/lang/String")], returnType := some (.object "java/nio/charset/Charset") }, accessFlags := 10, code := some k2c8 }
def k2c9 : Code := { maxStack := 2, maxLocals := 1, code := prog_11_method_36_code, exceptionTable := #[], attributes := #[] }
def k2m9 : Method := { name := "ascii", desc := "(Ljava/lang/String;)[B", sig := { parameters := [(.object "java/lang/String")], returnType := some (.array .byte) }, accessFlags := 10, code := some k2c9 }
/-- com/example/brassrig/brassrig/engine/ResponseReader -/
def k2 : Class := { plain "com/example/brassrig/brassrig/engine/ResponseReader" (some 0) with
  accessFlags := 48
  interfaces := #[]
  cf := some (fileOf pool2 14 #[.nestMembers #[8]] #[{ accessFlags := 0, nameIndex := 5, descriptorIndex := 6, attributes := #[] }, { accessFlags := 0, nameIndex := 470, descriptorIndex := 471, attributes := #[] }, { accessFlags := 2, nameIndex := 49, descriptorIndex := 6, attributes := #[] }, { accessFlags := 0, nameIndex := 41, descriptorIndex := 70, attributes := #[] }, { accessFlags := 0, nameIndex := 475, descriptorIndex := 70, attributes := #[] }, { accessFlags := 0, nameIndex := 131, descriptorIndex := 132, attributes := #[] }, { accessFlags := 0, nameIndex := 123, descriptorIndex := 156, attributes := #[] }, { accessFlags := 0, nameIndex := 482, descriptorIndex := 179, attributes := #[] }, { accessFlags := 10, nameIndex := 159, descriptorIndex := 160, attributes := #[] }, { accessFlags := 10, nameIndex := 101, descriptorIndex := 102, attributes := #[] }] 48 2 #[] #[{ accessFlags := 26, nameIndex := 450, descriptorIndex := 45, attributes := #[] }, { accessFlags := 26, nameIndex := 452, descriptorIndex := 45, attributes := #[] }, { accessFlags := 26, nameIndex := 453, descriptorIndex := 45, attributes := #[] }, { accessFlags := 26, nameIndex := 455, descriptorIndex := 45, attributes := #[] }, { accessFlags := 26, nameIndex := 457, descriptorIndex := 45, attributes := #[] }, { accessFlags := 26, nameIndex := 458, descriptorIndex := 45, attributes := #[] }, { accessFlags := 26, nameIndex := 460, descriptorIndex := 45, attributes := #[] }, { accessFlags := 26, nameIndex := 462, descriptorIndex := 45, attributes := #[] }, { accessFlags := 26, nameIndex := 464, descriptorIndex := 45, attributes := #[] }, { accessFlags := 26, nameIndex := 466, descriptorIndex := 45, attributes := #[] }, { accessFlags := 26, nameIndex := 316, descriptorIndex := 21, attributes := #[] }, { accessFlags := 26, nameIndex := 313, descriptorIndex := 21, attributes := #[] }, { accessFlags := 26, nameIndex := 286, descriptorIndex := 21, attributes := #[] }, { accessFlags := 2, nameIndex := 17, descriptorIndex := 12, attributes := #[] }, { accessFlags := 2, nameIndex := 34, descriptorIndex := 35, attributes := #[] }, { accessFlags := 2, nameIndex := 38, descriptorIndex := 35, attributes := #[] }, { accessFlags := 2, nameIndex := 41, descriptorIndex := 35, attributes := #[] }, { accessFlags := 2, nameIndex := 20, descriptorIndex := 21, attributes := #[] }, { accessFlags := 2, nameIndex := 55, descriptorIndex := 45, attributes := #[] }, { accessFlags := 2, nameIndex := 139, descriptorIndex := 45, attributes := #[] }, { accessFlags := 2, nameIndex := 58, descriptorIndex := 45, attributes := #[] }, { accessFlags := 2, nameIndex := 61, descriptorIndex := 45, attributes := #[] }, { accessFlags := 2, nameIndex := 24, descriptorIndex := 25, attributes := #[] }, { accessFlags := 2, nameIndex := 64, descriptorIndex := 45, attributes := #[] }, { accessFlags := 2, nameIndex := 86, descriptorIndex := 45, attributes := #[] }, { accessFlags := 2, nameIndex := 80, descriptorIndex := 35, attributes := #[] }, { accessFlags := 2, nameIndex := 212, descriptorIndex := 336, attributes := #[] }, { accessFlags := 2, nameIndex := 28, descriptorIndex := 21, attributes := #[] }, { accessFlags := 2, nameIndex := 330, descriptorIndex := 45, attributes := #[] }, { accessFlags := 2, nameIndex := 333, descriptorIndex := 35, attributes := #[] }, { accessFlags := 2, nameIndex := 31, descriptorIndex := 21, attributes := #[] }, { accessFlags := 2, nameIndex := 44, descriptorIndex := 45, attributes := #[] }])
  fields := #[{ name := "MAX_HEAD_BYTES", type := .int, accessFlags := 26, slot := 0, constantValue := 0 }, { name := "MAX_LINE_BYTES", type := .int, accessFlags := 26, slot := 1, constantValue := 0 }, { name := "FIRST_HEAD_BYTES", type := .int, accessFlags := 26, slot := 2, constantValue := 0 }, { name := "HEAD_PIECE_BYTES", type := .int, accessFlags := 26, slot := 3, constantValue := 0 }, { name := "KEPT_BUFFER_BYTES", type := .int, accessFlags := 26, slot := 4, constantValue := 0 }, { name := "FIELD_INTS", type := .int, accessFlags := 26, slot := 5, constantValue := 0 }, { name := "NO_CONTENT", type := .int, accessFlags := 26, slot := 6, constantValue := 0 }, { name := "NOT_MODIFIED", type := .int, accessFlags := 26, slot := 7, constantValue := 0 }, { name := "SWITCHING_PROTOCOLS", type := .int, accessFlags := 26, slot := 8, constantValue := 0 }, { name := "STATUS_LINE_LENGTH", type := .int, accessFlags := 26, slot := 9, constantValue := 0 }, { name := "CONTENT_LENGTH", type := (.array .byte), accessFlags := 26, slot := 10, constantValue := 0 }, { name := "TRANSFER_ENCODING", type := (.array .byte), accessFlags := 26, slot := 11, constantValue := 0 }, { name := "CONNECTION", type := (.array .byte), accessFlags := 26, slot := 12, constantValue := 0 }, { name := "state", type := (.object "com/example/brassrig/brassrig/engine/ResponseReader$State"), accessFlags := 2, slot := 0, constantValue := 0 }, { name := "bodiless", type := .boolean, accessFlags := 2, slot := 1, constantValue := 0 }, { name := "keepBody", type := .boolean, accessFlags := 2, slot := 2, constantValue := 0 }, { name := "started", type := .boolean, accessFlags := 2, slot := 3, constantValue := 0 }, { name := "head", type := (.array .byte), accessFlags := 2, slot := 4, constantValue := 0 }, { name := "headLength", type := .int, accessFlags := 2, slot := 5, constantValue := 0 }, { name := "headEnd", type := .int, accessFlags := 2, slot := 6, constantValue := 0 }, { name := "scanned", type := .int, accessFlags := 2, slot := 7, constantValue := 0 }, { name := "lineStart", type := .int, accessFlags := 2, slot := 8, constantValue := 0 }, { name := "fields", type := (.array .int), accessFlags := 2, slot := 9, constantValue := 0 }, { name := "fieldCount", type := .int, accessFlags := 2, slot := 10, constantValue := 0 }, { name := "status", type := .int, accessFlags := 2, slot := 11, constantValue := 0 }, { name := "reusable", type := .boolean, accessFlags := 2, slot := 12, constantValue := 0 }, { name := "remaining", type := .long, accessFlags := 2, slot := 13, constantValue := 0 }, { name := "line", type := (.array .byte), accessFlags := 2, slot := 14, constantValue := 0 }, { name := "lineLength", type := .int, accessFlags := 2, slot := 15, constantValue := 0 }, { name := "lineEnded", type := .boolean, accessFlags := 2, slot := 16, constantValue := 0 }, { name := "body", type := (.array .byte), accessFlags := 2, slot := 17, constantValue := 0 }, { name := "bodyLength", type := .int, accessFlags := 2, slot := 18, constantValue := 0 }]
  methods := #[k2m0, k2m1, k2m2, k2m3, k2m4, k2m5, k2m6, k2m7, k2m8, k2m9]
  instanceTypes := #[(.object "com/example/brassrig/brassrig/engine/ResponseReader$State"), .boolean, .boolean, .boolean, (.array .byte), .int, .int, .int, .int, (.array .int), .int, .int, .boolean, .long, (.array .byte), .int, .boolean, (.array .byte), .int]
  staticTypes := #[.int, .int, .int, .int, .int, .int, .int, .int, .int, .int, (.array .byte), (.array .byte), (.array .byte)]
  resolved := Array.replicate 542 none
  statics := none }

def pool3 : Array CpInfo := pool [(1, .class_ 2), (0, u "java/lang/constant/Constable"), (0, .class_ 4), (0, u "java/lang/Object")] 6

/-- java/lang/constant/Constable -/
def k3 : Class := { plain "java/lang/constant/Constable" (some 0) with
  accessFlags := 1537
  interfaces := #[]
  cf := some (fileOf pool3 1 #[] #[] 1537 3 #[] #[])
  fields := #[]
  methods := #[]
  instanceTypes := #[]
  staticTypes := #[]
  resolved := Array.replicate 11 none
  statics := none }

def pool4 : Array CpInfo := pool [(1, .class_ 2), (0, u "java/lang/Comparable"), (0, .class_ 4), (0, u "java/lang/Object")] 7

/-- java/lang/Comparable -/
def k4 : Class := { plain "java/lang/Comparable" (some 0) with
  accessFlags := 1537
  interfaces := #[]
  cf := some (fileOf pool4 1 #[] #[] 1537 3 #[] #[])
  fields := #[]
  methods := #[]
  instanceTypes := #[]
  staticTypes := #[]
  resolved := Array.replicate 12 none
  statics := none }

def pool5 : Array CpInfo := pool [(1, .class_ 2), (0, u "java/io/Serializable"), (0, .class_ 4), (0, u "java/lang/Object")] 2

/-- java/io/Serializable -/
def k5 : Class := { plain "java/io/Serializable" (some 0) with
  accessFlags := 1537
  interfaces := #[]
  cf := some (fileOf pool5 1 #[] #[] 1537 3 #[] #[])
  fields := #[]
  methods := #[]
  instanceTypes := #[]
  staticTypes := #[]
  resolved := Array.replicate 7 none
  statics := none }

def pool6 : Array CpInfo := pool [(2, .class_ 4), (1, u "java/lang/Enum"), (0, u "name"), (0, u "Ljava/lang/String;"), (2, u "ordinal"), (0, u "I"), (1, .class_ 14), (1, u "java/lang/Object"), (4, u "hash"), (86, .class_ 108), (1, u "java/lang/Enum$EnumDesc"), (2, .class_ 112), (0, u "java/lang/constant/Constable"), (0, .class_ 114), (0, u "java/lang/Comparable"), (0, .class_ 116), (0, u "java/io/Serializable")] 87

/-- java/lang/Enum -/
def k6 : Class := { plain "java/lang/Enum" (some 0) with
  accessFlags := 1057
  interfaces := #[3, 4, 5]
  cf := some (fileOf pool6 2 #[.nestMembers #[106]] #[] 1057 12 #[111, 113, 115] #[{ accessFlags := 18, nameIndex := 5, descriptorIndex := 6, attributes := #[] }, { accessFlags := 18, nameIndex := 9, descriptorIndex := 10, attributes := #[] }, { accessFlags := 2, nameIndex := 19, descriptorIndex := 10, attributes := #[] }])
  fields := #[{ name := "name", type := (.object "java/lang/String"), accessFlags := 18, slot := 0, constantValue := 0 }, { name := "ordinal", type := .int, accessFlags := 18, slot := 1, constantValue := 0 }, { name := "hash", type := .int, accessFlags := 2, slot := 2, constantValue := 0 }]
  methods := #[]
  instanceTypes := #[(.object "java/lang/String"), .int, .int]
  staticTypes := #[]
  resolved := Array.replicate 204 none
  statics := none }

def pool7 : Array CpInfo := pool [(1, .class_ 2), (0, u "com/example/brassrig/brassrig/engine/ResponseReader$State"), (2, u "HEAD"), (0, u "Lcom/example/brassrig/brassrig/engine/ResponseReader$State;"), (2, u "LENGTH"), (2, u "UNTIL_CLOSE"), (2, u "CHUNK_SIZE"), (2, u "CHUNK_DATA"), (2, u "CHUNK_END"), (2, u "TRAILERS"), (2, u "DONE"), (2, u "$VALUES"), (0, u "[Lcom/example/brassrig/brassrig/engine/ResponseReader$State;"), (6, .class_ 40), (1, u "java/lang/Enum"), (31, .class_ 73), (0, u "com/example/brassrig/brassrig/engine/ResponseReader")] 2

/-- com/example/brassrig/brassrig/engine/ResponseReader$State -/
def k7 : Class := { plain "com/example/brassrig/brassrig/engine/ResponseReader$State" (some 6) with
  accessFlags := 16432
  interfaces := #[]
  cf := some (fileOf pool7 1 #[.nestHost 72] #[] 16432 38 #[] #[{ accessFlags := 16409, nameIndex := 5, descriptorIndex := 6, attributes := #[] }, { accessFlags := 16409, nameIndex := 9, descriptorIndex := 6, attributes := #[] }, { accessFlags := 16409, nameIndex := 12, descriptorIndex := 6, attributes := #[] }, { accessFlags := 16409, nameIndex := 15, descriptorIndex := 6, attributes := #[] }, { accessFlags := 16409, nameIndex := 18, descriptorIndex := 6, attributes := #[] }, { accessFlags := 16409, nameIndex := 21, descriptorIndex := 6, attributes := #[] }, { accessFlags := 16409, nameIndex := 24, descriptorIndex := 6, attributes := #[] }, { accessFlags := 16409, nameIndex := 27, descriptorIndex := 6, attributes := #[] }, { accessFlags := 4122, nameIndex := 30, descriptorIndex := 31, attributes := #[] }])
  fields := #[{ name := "HEAD", type := (.object "com/example/brassrig/brassrig/engine/ResponseReader$State"), accessFlags := 16409, slot := 0, constantValue := 0 }, { name := "LENGTH", type := (.object "com/example/brassrig/brassrig/engine/ResponseReader$State"), accessFlags := 16409, slot := 1, constantValue := 0 }, { name := "UNTIL_CLOSE", type := (.object "com/example/brassrig/brassrig/engine/ResponseReader$State"), accessFlags := 16409, slot := 2, constantValue := 0 }, { name := "CHUNK_SIZE", type := (.object "com/example/brassrig/brassrig/engine/ResponseReader$State"), accessFlags := 16409, slot := 3, constantValue := 0 }, { name := "CHUNK_DATA", type := (.object "com/example/brassrig/brassrig/engine/ResponseReader$State"), accessFlags := 16409, slot := 4, constantValue := 0 }, { name := "CHUNK_END", type := (.object "com/example/brassrig/brassrig/engine/ResponseReader$State"), accessFlags := 16409, slot := 5, constantValue := 0 }, { name := "TRAILERS", type := (.object "com/example/brassrig/brassrig/engine/ResponseReader$State"), accessFlags := 16409, slot := 6, constantValue := 0 }, { name := "DONE", type := (.object "com/example/brassrig/brassrig/engine/ResponseReader$State"), accessFlags := 16409, slot := 7, constantValue := 0 }, { name := "$VALUES", type := (.array (.object "com/example/brassrig/brassrig/engine/ResponseReader$State")), accessFlags := 4122, slot := 8, constantValue := 0 }]
  methods := #[]
  instanceTypes := #[(.object "java/lang/String"), .int, .int]
  staticTypes := #[(.object "com/example/brassrig/brassrig/engine/ResponseReader$State"), (.object "com/example/brassrig/brassrig/engine/ResponseReader$State"), (.object "com/example/brassrig/brassrig/engine/ResponseReader$State"), (.object "com/example/brassrig/brassrig/engine/ResponseReader$State"), (.object "com/example/brassrig/brassrig/engine/ResponseReader$State"), (.object "com/example/brassrig/brassrig/engine/ResponseReader$State"), (.object "com/example/brassrig/brassrig/engine/ResponseReader$State"), (.object "com/example/brassrig/brassrig/engine/ResponseReader$State"), (.array (.object "com/example/brassrig/brassrig/engine/ResponseReader$State"))]
  resolved := Array.replicate 76 none
  statics := some 0 }

def pool8 : Array CpInfo := pool [(2, .class_ 4), (1, u "java/lang/CharSequence"), (42, .class_ 48), (0, u "java/lang/CharSequence$1CodePointIterator"), (10, .class_ 60), (0, u "java/lang/CharSequence$1CharIterator"), (5, .class_ 67), (0, u "java/lang/Object")] 63

/-- java/lang/CharSequence -/
def k8 : Class := { plain "java/lang/CharSequence" (some 0) with
  accessFlags := 1537
  interfaces := #[]
  cf := some (fileOf pool8 2 #[.nestMembers #[47, 59]] #[] 1537 66 #[] #[])
  fields := #[]
  methods := #[]
  instanceTypes := #[]
  staticTypes := #[]
  resolved := Array.replicate 131 none
  statics := none }

def pool9 : Array CpInfo := pool [(1, .class_ 2), (0, u "java/lang/constant/ConstantDesc"), (0, .class_ 4), (0, u "java/lang/Object")] 32

/-- java/lang/constant/ConstantDesc -/
def k9 : Class := { plain "java/lang/constant/ConstantDesc" (some 0) with
  accessFlags := 1537
  interfaces := #[]
  cf := some (fileOf pool9 1 #[] #[] 1537 3 #[] #[])
  fields := #[]
  methods := #[]
  instanceTypes := #[]
  staticTypes := #[]
  resolved := Array.replicate 37 none
  statics := none }

def pool10 : Array CpInfo := pool [(1, .methodref 2 3), (0, .class_ 4), (0, .nameAndType 5 6), (0, u "java/lang/Object"), (0, u "<init>"), (0, u "()V"), (0, .string 8), (0, u ""), (0, .fieldref 10 11), (0, .class_ 12), (0, .nameAndType 13 14), (0, u "java/lang/String"), (0, u "value"), (0, u "[B"), (0, .fieldref 10 16), (0, .nameAndType 17 18), (0, u "coder"), (0, u "B"), (2, u "hash"), (0, u "I"), (2, u "hashIsZero"), (0, u "Z"), (7, .methodref 10 35), (0, .nameAndType 36 37), (0, u "checkBoundsOffCount"), (0, u "(III)I"), (0, .fieldref 10 39), (0, .nameAndType 40 26), (0, u "COMPACT_STRINGS"), (34, .methodref 10 76), (0, .nameAndType 5 77), (0, u "(Ljava/nio/charset/Charset;[BII)V"), (0, .methodref 79 80), (0, .class_ 81), (0, .nameAndType 82 83), (0, u "java/util/Objects"), (0, u "requireNonNull"), (0, u "(Ljava/lang/Object;)Ljava/lang/Object;"), (0, .class_ 85), (0, u "java/nio/charset/Charset"), (0, .fieldref 87 88), (0, .class_ 89), (0, .nameAndType 90 91), (0, u "sun/nio/cs/UTF_8"), (0, u "INSTANCE"), (0, u "Lsun/nio/cs/UTF_8;"), (0, .methodref 93 94), (0, .class_ 95), (0, .nameAndType 96 97), (0, u "java/lang/StringCoding"), (0, u "countPositives"), (0, u "([BII)I"), (9, .class_ 109), (1, u "java/lang/StringLatin1"), (6, .fieldref 117 118), (0, .class_ 119), (0, .nameAndType 90 120), (0, u "sun/nio/cs/ISO_8859_1"), (0, u "Lsun/nio/cs/ISO_8859_1;"), (2, .fieldref 124 125), (0, .class_ 126), (0, .nameAndType 90 127), (0, u "sun/nio/cs/US_ASCII"), (0, u "Lsun/nio/cs/US_ASCII;"), (14, u "()Z"), (68, u "([BB)V"), (26, u "([BIILjava/nio/charset/Charset;)V"), (20, u "(B[B)[B"), (0, .methodref 10 261), (0, .nameAndType 262 259), (0, u "encodeASCII"), (16, .methodref 280 281), (0, .class_ 14), (0, .nameAndType 282 283), (0, u "clone"), (0, u "()Ljava/lang/Object;"), (33, u "encode"), (17, .methodref 10 336), (0, .nameAndType 17 337), (0, u "()B"), (154, .methodref 10 493), (0, .nameAndType 494 142), (0, u "isLatin1"), (37, u "getBytes"), (2, .methodref 10 536), (0, .nameAndType 317 537), (0, u "(Ljava/nio/charset/Charset;B[B)[B"), (37, .class_ 576), (0, u "java/lang/CharSequence"), (22, u "CASE_INSENSITIVE_ORDER"), (0, u "Ljava/util/Comparator;"), (91, u "isEmpty"), (146, .methodref 107 840), (0, .nameAndType 841 842), (0, u "toLowerCase"), (0, u "(Ljava/lang/String;[BLjava/util/Locale;)Ljava/lang/String;"), (9, u "(Ljava/util/Locale;)Ljava/lang/String;"), (200, .fieldref 1054 1055), (0, .class_ 1056), (0, .nameAndType 1057 1058), (0, u "jdk/internal/util/Preconditions"), (0, u "SIOOBE_FORMATTER"), (0, u "Ljava/util/function/BiFunction;"), (5, u "(IIILjava/util/function/BiFunction;)I"), (0, .methodref 1054 1066), (0, .nameAndType 1067 1064), (0, u "checkFromIndexSize"), (33, u "serialPersistentFields"), (0, u "[Ljava/io/ObjectStreamField;"), (0, .class_ 1104), (0, u "java/lang/String$CaseInsensitiveComparator"), (1, .class_ 1107), (0, u "java/io/Serializable"), (0, .class_ 1109), (0, u "java/lang/Comparable"), (0, .class_ 1111), (0, u "java/lang/constant/Constable"), (0, .class_ 1113), (0, u "java/lang/constant/ConstantDesc"), (2, u "serialVersionUID"), (0, u "J"), (3, u "REPL"), (0, u "C"), (2, u "LATIN1"), (1, u "UTF16"), (117, u "(Ljava/nio/charset/Charset;)[B")] 205

def k10m0 : Method := { name := "<init>", desc := "()V", sig := { parameters := [], returnType := none }, accessFlags := 1, code := none }
def k10c1 : Code := { maxStack := 6, maxLocals := 5, code := jdk_42_method_10_code, exceptionTable := #[], attributes := #[] }
def k10m1 : Method := { name := "<init>", desc := "([BIILjava/nio/charset/Charset;)V", sig := { parameters := [(.array .byte), .int, .int, (.object "java/nio/charset/Charset")], returnType := none }, accessFlags := 1, code := some k10c1 }
def k10c2 : Code := { maxStack := 6, maxLocals := 11, code := jdk_42_method_11_code, exceptionTable := #[{ startPc := 800, endPc := 813, handlerPc := 816, catchType := 202 }], attributes := #[] }
def k10m2 : Method := { name := "<init>", desc := "(Ljava/nio/charset/Charset;[BII)V", sig := { parameters := [(.object "java/nio/charset/Charset"), (.array .byte), .int, .int], returnType := none }, accessFlags := 2, code := some k10c2 }
def k10c3 : Code := { maxStack := 4, maxLocals := 3, code := jdk_42_method_18_code, exceptionTable := #[], attributes := #[] }
def k10m3 : Method := { name := "encode", desc := "(Ljava/nio/charset/Charset;B[B)[B", sig := { parameters := [(.object "java/nio/charset/Charset"), .byte, (.array .byte)], returnType := some (.array .byte) }, accessFlags := 10, code := some k10c3 }
def k10c4 : Code := { maxStack := 3, maxLocals := 7, code := jdk_42_method_24_code, exceptionTable := #[], attributes := #[] }
def k10m4 : Method := { name := "encodeASCII", desc := "(B[B)[B", sig := { parameters := [.byte, (.array .byte)], returnType := some (.array .byte) }, accessFlags := 10, code := some k10c4 }
def k10c5 : Code := { maxStack := 1, maxLocals := 1, code := jdk_42_method_55_code, exceptionTable := #[], attributes := #[] }
def k10m5 : Method := { name := "isEmpty", desc := "()Z", sig := { parameters := [], returnType := some .boolean }, accessFlags := 1, code := some k10c5 }
def k10c6 : Code := { maxStack := 3, maxLocals := 2, code := jdk_42_method_64_code, exceptionTable := #[], attributes := #[] }
def k10m6 : Method := { name := "getBytes", desc := "(Ljava/nio/charset/Charset;)[B", sig := { parameters := [(.object "java/nio/charset/Charset")], returnType := some (.array .byte) }, accessFlags := 1, code := some k10c6 }
def k10c7 : Code := { maxStack := 3, maxLocals := 2, code := jdk_42_method_109_code, exceptionTable := #[], attributes := #[] }
def k10m7 : Method := { name := "toLowerCase", desc := "(Ljava/util/Locale;)Ljava/lang/String;", sig := { parameters := [(.object "java/util/Locale")], returnType := some (.object "java/lang/String") }, accessFlags := 1, code := some k10c7 }
def k10c8 : Code := { maxStack := 2, maxLocals := 3, code := jdk_42_method_151_code, exceptionTable := #[], attributes := #[] }
def k10m8 : Method := { name := "<init>", desc := "([BB)V", sig := { parameters := [(.array .byte), .byte], returnType := none }, accessFlags := 0, code := some k10c8 }
def k10c9 : Code := { maxStack := 1, maxLocals := 1, code := jdk_42_method_152_code, exceptionTable := #[], attributes := #[] }
def k10m9 : Method := { name := "coder", desc := "()B", sig := { parameters := [], returnType := some .byte }, accessFlags := 0, code := some k10c9 }
def k10c10 : Code := { maxStack := 1, maxLocals := 1, code := jdk_42_method_154_code, exceptionTable := #[], attributes := #[] }
def k10m10 : Method := { name := "isLatin1", desc := "()Z", sig := { parameters := [], returnType := some .boolean }, accessFlags := 0, code := some k10c10 }
def k10c11 : Code := { maxStack := 4, maxLocals := 3, code := jdk_42_method_157_code, exceptionTable := #[], attributes := #[] }
def k10m11 : Method := { name := "checkBoundsOffCount", desc := "(III)I", sig := { parameters := [.int, .int, .int], returnType := some .int }, accessFlags := 8, code := some k10c11 }
/-- java/lang/String -/
def k10 : Class := { plain "java/lang/String" (some 0) with
  accessFlags := 49
  interfaces := #[5, 4, 8, 3, 9]
  cf := some (fileOf pool10 10 #[.nestMembers #[1103]] #[{ accessFlags := 1, nameIndex := 5, descriptorIndex := 6, attributes := #[] }, { accessFlags := 1, nameIndex := 5, descriptorIndex := 238, attributes := #[] }, { accessFlags := 2, nameIndex := 5, descriptorIndex := 77, attributes := #[] }, { accessFlags := 10, nameIndex := 317, descriptorIndex := 537, attributes := #[] }, { accessFlags := 10, nameIndex := 262, descriptorIndex := 259, attributes := #[] }, { accessFlags := 1, nameIndex := 692, descriptorIndex := 142, attributes := #[] }, { accessFlags := 1, nameIndex := 532, descriptorIndex := 1245, attributes := #[] }, { accessFlags := 1, nameIndex := 841, descriptorIndex := 852, attributes := #[] }, { accessFlags := 0, nameIndex := 5, descriptorIndex := 211, attributes := #[] }, { accessFlags := 0, nameIndex := 17, descriptorIndex := 337, attributes := #[] }, { accessFlags := 0, nameIndex := 494, descriptorIndex := 142, attributes := #[] }, { accessFlags := 8, nameIndex := 36, descriptorIndex := 37, attributes := #[] }] 49 2 #[1106, 1108, 575, 1110, 1112] #[{ accessFlags := 18, nameIndex := 13, descriptorIndex := 14, attributes := #[] }, { accessFlags := 18, nameIndex := 17, descriptorIndex := 18, attributes := #[] }, { accessFlags := 2, nameIndex := 21, descriptorIndex := 22, attributes := #[] }, { accessFlags := 2, nameIndex := 25, descriptorIndex := 26, attributes := #[] }, { accessFlags := 26, nameIndex := 1116, descriptorIndex := 1117, attributes := #[] }, { accessFlags := 24, nameIndex := 40, descriptorIndex := 26, attributes := #[] }, { accessFlags := 26, nameIndex := 1101, descriptorIndex := 1102, attributes := #[] }, { accessFlags := 26, nameIndex := 1121, descriptorIndex := 1122, attributes := #[] }, { accessFlags := 25, nameIndex := 599, descriptorIndex := 600, attributes := #[] }, { accessFlags := 24, nameIndex := 1125, descriptorIndex := 18, attributes := #[] }, { accessFlags := 24, nameIndex := 1127, descriptorIndex := 18, attributes := #[] }])
  fields := #[{ name := "value", type := (.array .byte), accessFlags := 18, slot := 0, constantValue := 0 }, { name := "coder", type := .byte, accessFlags := 18, slot := 1, constantValue := 0 }, { name := "hash", type := .int, accessFlags := 2, slot := 2, constantValue := 0 }, { name := "hashIsZero", type := .boolean, accessFlags := 2, slot := 3, constantValue := 0 }, { name := "serialVersionUID", type := .long, accessFlags := 26, slot := 0, constantValue := 0 }, { name := "COMPACT_STRINGS", type := .boolean, accessFlags := 24, slot := 1, constantValue := 0 }, { name := "serialPersistentFields", type := (.array (.object "java/io/ObjectStreamField")), accessFlags := 26, slot := 2, constantValue := 0 }, { name := "REPL", type := .char, accessFlags := 26, slot := 3, constantValue := 0 }, { name := "CASE_INSENSITIVE_ORDER", type := (.object "java/util/Comparator"), accessFlags := 25, slot := 4, constantValue := 0 }, { name := "LATIN1", type := .byte, accessFlags := 24, slot := 5, constantValue := 0 }, { name := "UTF16", type := .byte, accessFlags := 24, slot := 6, constantValue := 0 }]
  methods := #[k10m0, k10m1, k10m2, k10m3, k10m4, k10m5, k10m6, k10m7, k10m8, k10m9, k10m10, k10m11]
  instanceTypes := #[(.array .byte), .byte, .int, .boolean]
  staticTypes := #[.long, .boolean, (.array (.object "java/io/ObjectStreamField")), .char, (.object "java/util/Comparator"), .byte, .byte]
  resolved := Array.replicate 1451 none
  statics := some 1 }

def pool11 : Array CpInfo := pool [(1, .class_ 2), (0, u "java/lang/Cloneable"), (0, .class_ 4), (0, u "java/lang/Object")] 2

/-- java/lang/Cloneable -/
def k11 : Class := { plain "java/lang/Cloneable" (some 0) with
  accessFlags := 1537
  interfaces := #[]
  cf := some (fileOf pool11 1 #[] #[] 1537 3 #[] #[])
  fields := #[]
  methods := #[]
  instanceTypes := #[]
  staticTypes := #[]
  resolved := Array.replicate 7 none
  statics := none }

def pool12 : Array CpInfo := pool [(2, .class_ 4), (1, u "sun/util/locale/BaseLocale"), (2, .class_ 8), (0, u "java/util/Locale"), (6, u "CONSTANT_LOCALES"), (0, u "Ljava/util/Map;"), (7, .class_ 26), (1, u "java/lang/Object"), (1, .fieldref 7 29), (0, .nameAndType 30 31), (0, u "baseLocale"), (0, u "Lsun/util/locale/BaseLocale;"), (2, u "localeExtensions"), (0, u "Lsun/util/locale/LocaleExtensions;"), (31, .class_ 69), (1, u "java/util/Locale$Cache"), (3, .class_ 74), (0, u "java/util/Locale$LocaleKey"), (3, u "defaultLocale"), (0, u "Ljava/util/Locale;"), (6, .class_ 88), (1, u "java/util/Locale$Category"), (4, u "defaultDisplayLocale"), (6, u "$assertionsDisabled"), (0, u "Z"), (12, u "defaultFormatLocale"), (12, u "Ljava/lang/String;"), (131, u "isoCountries"), (0, u "[Ljava/lang/String;"), (15, .class_ 278), (1, u "java/util/Locale$IsoCountryCode"), (4, u "isoLanguages"), (9, .methodref 2 294), (0, .nameAndType 295 296), (0, u "getLanguage"), (0, u "()Ljava/lang/String;"), (78, u "languageTag"), (114, .class_ 492), (1, u "java/util/Locale$LocaleNameGetter"), (125, u "hashCodeValue"), (0, u "I"), (29, u "ROOT"), (129, .class_ 781), (1, u "java/util/Locale$FilteringMode"), (39, u "ENGLISH"), (2, u "FRENCH"), (2, u "GERMAN"), (2, u "ITALIAN"), (2, u "JAPANESE"), (2, u "KOREAN"), (2, u "CHINESE"), (2, u "SIMPLIFIED_CHINESE"), (2, u "TRADITIONAL_CHINESE"), (2, u "FRANCE"), (2, u "GERMANY"), (2, u "ITALY"), (2, u "JAPAN"), (2, u "KOREA"), (2, u "UK"), (2, u "US"), (2, u "CANADA"), (2, u "CANADA_FRENCH"), (2, u "CHINA"), (2, u "PRC"), (2, u "TAIWAN"), (13, u "serialPersistentFields"), (0, u "[Ljava/io/ObjectStreamField;"), (0, .class_ 898), (0, u "java/lang/Cloneable"), (0, .class_ 900), (0, u "java/io/Serializable"), (2, u "PRIVATE_USE_EXTENSION"), (0, u "C"), (2, u "UNICODE_LOCALE_EXTENSION"), (1, u "serialVersionUID"), (0, u "J"), (2, u "DISPLAY_LANGUAGE"), (1, u "DISPLAY_COUNTRY"), (1, u "DISPLAY_VARIANT"), (1, u "DISPLAY_SCRIPT"), (1, u "DISPLAY_UEXT_KEY"), (1, u "DISPLAY_UEXT_TYPE"), (174, .class_ 1099), (0, u "java/util/Locale$LanguageRange"), (0, .class_ 1101), (0, u "java/util/Locale$Builder"), (0, .class_ 1103), (0, u "java/util/Locale$IsoCountryCode$3"), (0, .class_ 1105), (0, u "java/util/Locale$IsoCountryCode$2"), (0, .class_ 1107), (0, u "java/util/Locale$IsoCountryCode$1")] 46

def k12c0 : Code := { maxStack := 1, maxLocals := 1, code := jdk_2628_method_27_code, exceptionTable := #[], attributes := #[] }
def k12m0 : Method := { name := "getLanguage", desc := "()Ljava/lang/String;", sig := { parameters := [], returnType := some (.object "java/lang/String") }, accessFlags := 1, code := some k12c0 }
/-- java/util/Locale -/
def k12 : Class := { plain "java/util/Locale" (some 0) with
  accessFlags := 49
  interfaces := #[11, 5]
  cf := some (fileOf pool12 7 #[.nestMembers #[1098, 779, 1100, 86, 490, 73, 67, 276, 1102, 1104, 1106]] #[{ accessFlags := 1, nameIndex := 295, descriptorIndex := 296, attributes := #[] }] 49 24 #[897, 899] #[{ accessFlags := 25, nameIndex := 821, descriptorIndex := 79, attributes := #[] }, { accessFlags := 25, nameIndex := 824, descriptorIndex := 79, attributes := #[] }, { accessFlags := 25, nameIndex := 827, descriptorIndex := 79, attributes := #[] }, { accessFlags := 25, nameIndex := 830, descriptorIndex := 79, attributes := #[] }, { accessFlags := 25, nameIndex := 833, descriptorIndex := 79, attributes := #[] }, { accessFlags := 25, nameIndex := 836, descriptorIndex := 79, attributes := #[] }, { accessFlags := 25, nameIndex := 839, descriptorIndex := 79, attributes := #[] }, { accessFlags := 25, nameIndex := 842, descriptorIndex := 79, attributes := #[] }, { accessFlags := 25, nameIndex := 845, descriptorIndex := 79, attributes := #[] }, { accessFlags := 25, nameIndex := 848, descriptorIndex := 79, attributes := #[] }, { accessFlags := 25, nameIndex := 851, descriptorIndex := 79, attributes := #[] }, { accessFlags := 25, nameIndex := 854, descriptorIndex := 79, attributes := #[] }, { accessFlags := 25, nameIndex := 857, descriptorIndex := 79, attributes := #[] }, { accessFlags := 25, nameIndex := 860, descriptorIndex := 79, attributes := #[] }, { accessFlags := 25, nameIndex := 863, descriptorIndex := 79, attributes := #[] }, { accessFlags := 25, nameIndex := 866, descriptorIndex := 79, attributes := #[] }, { accessFlags := 25, nameIndex := 869, descriptorIndex := 79, attributes := #[] }, { accessFlags := 25, nameIndex := 872, descriptorIndex := 79, attributes := #[] }, { accessFlags := 25, nameIndex := 649, descriptorIndex := 79, attributes := #[] }, { accessFlags := 26, nameIndex := 15, descriptorIndex := 16, attributes := #[] }, { accessFlags := 25, nameIndex := 875, descriptorIndex := 79, attributes := #[] }, { accessFlags := 25, nameIndex := 878, descriptorIndex := 79, attributes := #[] }, { accessFlags := 25, nameIndex := 881, descriptorIndex := 79, attributes := #[] }, { accessFlags := 25, nameIndex := 903, descriptorIndex := 904, attributes := #[] }, { accessFlags := 25, nameIndex := 907, descriptorIndex := 904, attributes := #[] }, { accessFlags := 24, nameIndex := 909, descriptorIndex := 910, attributes := #[] }, { accessFlags := 26, nameIndex := 913, descriptorIndex := 619, attributes := #[] }, { accessFlags := 26, nameIndex := 915, descriptorIndex := 619, attributes := #[] }, { accessFlags := 26, nameIndex := 917, descriptorIndex := 619, attributes := #[] }, { accessFlags := 26, nameIndex := 919, descriptorIndex := 619, attributes := #[] }, { accessFlags := 26, nameIndex := 921, descriptorIndex := 619, attributes := #[] }, { accessFlags := 26, nameIndex := 923, descriptorIndex := 619, attributes := #[] }, { accessFlags := 130, nameIndex := 30, descriptorIndex := 31, attributes := #[] }, { accessFlags := 130, nameIndex := 34, descriptorIndex := 35, attributes := #[] }, { accessFlags := 130, nameIndex := 618, descriptorIndex := 619, attributes := #[] }, { accessFlags := 74, nameIndex := 78, descriptorIndex := 79, attributes := #[] }, { accessFlags := 74, nameIndex := 93, descriptorIndex := 79, attributes := #[] }, { accessFlags := 74, nameIndex := 114, descriptorIndex := 79, attributes := #[] }, { accessFlags := 194, nameIndex := 375, descriptorIndex := 127, attributes := #[] }, { accessFlags := 26, nameIndex := 895, descriptorIndex := 896, attributes := #[] }, { accessFlags := 74, nameIndex := 283, descriptorIndex := 260, attributes := #[] }, { accessFlags := 74, nameIndex := 259, descriptorIndex := 260, attributes := #[] }, { accessFlags := 4120, nameIndex := 100, descriptorIndex := 101, attributes := #[] }])
  fields := #[{ name := "ENGLISH", type := (.object "java/util/Locale"), accessFlags := 25, slot := 0, constantValue := 0 }, { name := "FRENCH", type := (.object "java/util/Locale"), accessFlags := 25, slot := 1, constantValue := 0 }, { name := "GERMAN", type := (.object "java/util/Locale"), accessFlags := 25, slot := 2, constantValue := 0 }, { name := "ITALIAN", type := (.object "java/util/Locale"), accessFlags := 25, slot := 3, constantValue := 0 }, { name := "JAPANESE", type := (.object "java/util/Locale"), accessFlags := 25, slot := 4, constantValue := 0 }, { name := "KOREAN", type := (.object "java/util/Locale"), accessFlags := 25, slot := 5, constantValue := 0 }, { name := "CHINESE", type := (.object "java/util/Locale"), accessFlags := 25, slot := 6, constantValue := 0 }, { name := "SIMPLIFIED_CHINESE", type := (.object "java/util/Locale"), accessFlags := 25, slot := 7, constantValue := 0 }, { name := "TRADITIONAL_CHINESE", type := (.object "java/util/Locale"), accessFlags := 25, slot := 8, constantValue := 0 }, { name := "FRANCE", type := (.object "java/util/Locale"), accessFlags := 25, slot := 9, constantValue := 0 }, { name := "GERMANY", type := (.object "java/util/Locale"), accessFlags := 25, slot := 10, constantValue := 0 }, { name := "ITALY", type := (.object "java/util/Locale"), accessFlags := 25, slot := 11, constantValue := 0 }, { name := "JAPAN", type := (.object "java/util/Locale"), accessFlags := 25, slot := 12, constantValue := 0 }, { name := "KOREA", type := (.object "java/util/Locale"), accessFlags := 25, slot := 13, constantValue := 0 }, { name := "UK", type := (.object "java/util/Locale"), accessFlags := 25, slot := 14, constantValue := 0 }, { name := "US", type := (.object "java/util/Locale"), accessFlags := 25, slot := 15, constantValue := 0 }, { name := "CANADA", type := (.object "java/util/Locale"), accessFlags := 25, slot := 16, constantValue := 0 }, { name := "CANADA_FRENCH", type := (.object "java/util/Locale"), accessFlags := 25, slot := 17, constantValue := 0 }, { name := "ROOT", type := (.object "java/util/Locale"), accessFlags := 25, slot := 18, constantValue := 0 }, { name := "CONSTANT_LOCALES", type := (.object "java/util/Map"), accessFlags := 26, slot := 19, constantValue := 0 }, { name := "CHINA", type := (.object "java/util/Locale"), accessFlags := 25, slot := 20, constantValue := 0 }, { name := "PRC", type := (.object "java/util/Locale"), accessFlags := 25, slot := 21, constantValue := 0 }, { name := "TAIWAN", type := (.object "java/util/Locale"), accessFlags := 25, slot := 22, constantValue := 0 }, { name := "PRIVATE_USE_EXTENSION", type := .char, accessFlags := 25, slot := 23, constantValue := 0 }, { name := "UNICODE_LOCALE_EXTENSION", type := .char, accessFlags := 25, slot := 24, constantValue := 0 }, { name := "serialVersionUID", type := .long, accessFlags := 24, slot := 25, constantValue := 0 }, { name := "DISPLAY_LANGUAGE", type := .int, accessFlags := 26, slot := 26, constantValue := 0 }, { name := "DISPLAY_COUNTRY", type := .int, accessFlags := 26, slot := 27, constantValue := 0 }, { name := "DISPLAY_VARIANT", type := .int, accessFlags := 26, slot := 28, constantValue := 0 }, { name := "DISPLAY_SCRIPT", type := .int, accessFlags := 26, slot := 29, constantValue := 0 }, { name := "DISPLAY_UEXT_KEY", type := .int, accessFlags := 26, slot := 30, constantValue := 0 }, { name := "DISPLAY_UEXT_TYPE", type := .int, accessFlags := 26, slot := 31, constantValue := 0 }, { name := "baseLocale", type := (.object "sun/util/locale/BaseLocale"), accessFlags := 130, slot := 0, constantValue := 0 }, { name := "localeExtensions", type := (.object "sun/util/locale/LocaleExtensions"), accessFlags := 130, slot := 1, constantValue := 0 }, { name := "hashCodeValue", type := .int, accessFlags := 130, slot := 2, constantValue := 0 }, { name := "defaultLocale", type := (.object "java/util/Locale"), accessFlags := 74, slot := 32, constantValue := 0 }, { name := "defaultDisplayLocale", type := (.object "java/util/Locale"), accessFlags := 74, slot := 33, constantValue := 0 }, { name := "defaultFormatLocale", type := (.object "java/util/Locale"), accessFlags := 74, slot := 34, constantValue := 0 }, { name := "languageTag", type := (.object "java/lang/String"), accessFlags := 194, slot := 3, constantValue := 0 }, { name := "serialPersistentFields", type := (.array (.object "java/io/ObjectStreamField")), accessFlags := 26, slot := 35, constantValue := 0 }, { name := "isoLanguages", type := (.array (.object "java/lang/String")), accessFlags := 74, slot := 36, constantValue := 0 }, { name := "isoCountries", type := (.array (.object "java/lang/String")), accessFlags := 74, slot := 37, constantValue := 0 }, { name := "$assertionsDisabled", type := .boolean, accessFlags := 4120, slot := 38, constantValue := 0 }]
  methods := #[k12m0]
  instanceTypes := #[(.object "sun/util/locale/BaseLocale"), (.object "sun/util/locale/LocaleExtensions"), .int, (.object "java/lang/String")]
  staticTypes := #[(.object "java/util/Locale"), (.object "java/util/Locale"), (.object "java/util/Locale"), (.object "java/util/Locale"), (.object "java/util/Locale"), (.object "java/util/Locale"), (.object "java/util/Locale"), (.object "java/util/Locale"), (.object "java/util/Locale"), (.object "java/util/Locale"), (.object "java/util/Locale"), (.object "java/util/Locale"), (.object "java/util/Locale"), (.object "java/util/Locale"), (.object "java/util/Locale"), (.object "java/util/Locale"), (.object "java/util/Locale"), (.object "java/util/Locale"), (.object "java/util/Locale"), (.object "java/util/Map"), (.object "java/util/Locale"), (.object "java/util/Locale"), (.object "java/util/Locale"), .char, .char, .long, .int, .int, .int, .int, .int, .int, (.object "java/util/Locale"), (.object "java/util/Locale"), (.object "java/util/Locale"), (.array (.object "java/io/ObjectStreamField")), (.array (.object "java/lang/String")), (.array (.object "java/lang/String")), .boolean]
  resolved := Array.replicate 1154 none
  statics := some 2 }

def pool13 : Array CpInfo := pool [(1, .class_ 2), (0, u "java/lang/String"), (1, .class_ 6), (1, u "java/lang/Object"), (0, u "<init>"), (0, u "()V"), (5, .class_ 16), (1, u "java/lang/StringLatin1"), (11, .methodref 29 30), (0, .class_ 31), (0, .nameAndType 32 33), (0, u "java/lang/System"), (0, u "arraycopy"), (0, u "(Ljava/lang/Object;ILjava/lang/Object;II)V"), (32, .fieldref 67 68), (0, .class_ 69), (0, .nameAndType 70 71), (0, u "java/lang/CharacterDataLatin1"), (0, u "instance"), (0, u "Ljava/lang/CharacterDataLatin1;"), (3, u "(I)I"), (4, u "toLowerCase"), (7, .methodref 14 89), (0, .nameAndType 90 91), (0, u "canEncode"), (0, u "(I)Z"), (20, .methodref 1 113), (0, .nameAndType 7 114), (0, u "([BB)V"), (6, u "$assertionsDisabled"), (0, u "Z"), (37, .methodref 67 161), (0, .nameAndType 80 75), (0, .methodref 163 164), (0, .class_ 165), (0, .nameAndType 166 167), (0, u "java/util/Locale"), (0, u "getLanguage"), (0, u "()Ljava/lang/String;"), (0, .string 169), (0, u "tr"), (0, .string 171), (0, u "az"), (0, .string 173), (0, u "lt"), (47, .class_ 223), (1, u "java/lang/StringLatin1$LinesSpliterator"), (126, u "(Ljava/lang/String;[BLjava/util/Locale;)Ljava/lang/String;"), (39, .class_ 391), (0, u "java/lang/StringLatin1$CharsSpliterator")] 3

def k13m0 : Method := { name := "<init>", desc := "()V", sig := { parameters := [], returnType := none }, accessFlags := 0, code := none }
def k13c1 : Code := { maxStack := 2, maxLocals := 1, code := jdk_43_method_4_code, exceptionTable := #[], attributes := #[] }
def k13m1 : Method := { name := "canEncode", desc := "(I)Z", sig := { parameters := [.int], returnType := some .boolean }, accessFlags := 9, code := some k13c1 }
def k13c2 : Code := { maxStack := 5, maxLocals := 9, code := jdk_43_method_32_code, exceptionTable := #[], attributes := #[] }
def k13m2 : Method := { name := "toLowerCase", desc := "(Ljava/lang/String;[BLjava/util/Locale;)Ljava/lang/String;", sig := { parameters := [(.object "java/lang/String"), (.array .byte), (.object "java/util/Locale")], returnType := some (.object "java/lang/String") }, accessFlags := 9, code := some k13c2 }
/-- java/lang/StringLatin1 -/
def k13 : Class := { plain "java/lang/StringLatin1" (some 0) with
  accessFlags := 48
  interfaces := #[]
  cf := some (fileOf pool13 14 #[.nestMembers #[390, 221]] #[{ accessFlags := 0, nameIndex := 7, descriptorIndex := 8, attributes := #[] }, { accessFlags := 9, nameIndex := 90, descriptorIndex := 91, attributes := #[] }, { accessFlags := 9, nameIndex := 80, descriptorIndex := 350, attributes := #[] }] 48 4 #[] #[{ accessFlags := 4120, nameIndex := 121, descriptorIndex := 122, attributes := #[] }])
  fields := #[{ name := "$assertionsDisabled", type := .boolean, accessFlags := 4120, slot := 0, constantValue := 0 }]
  methods := #[k13m0, k13m1, k13m2]
  instanceTypes := #[]
  staticTypes := #[.boolean]
  resolved := Array.replicate 395 none
  statics := none }

def pool14 : Array CpInfo := pool [(2, .class_ 4), (1, u "java/lang/Object"), (0, u "<init>"), (0, u "()V"), (1, .class_ 10), (1, u "java/lang/CharacterData")] 75

def k14m0 : Method := { name := "<init>", desc := "()V", sig := { parameters := [], returnType := none }, accessFlags := 0, code := none }
/-- java/lang/CharacterData -/
def k14 : Class := { plain "java/lang/CharacterData" (some 0) with
  accessFlags := 1056
  interfaces := #[]
  cf := some (fileOf pool14 8 #[] #[{ accessFlags := 0, nameIndex := 5, descriptorIndex := 6, attributes := #[] }] 1056 2 #[] #[])
  fields := #[]
  methods := #[k14m0]
  instanceTypes := #[]
  staticTypes := #[]
  resolved := Array.replicate 86 none
  statics := none }

def pool15 : Array CpInfo := pool [(2, .class_ 4), (1, u "java/lang/CharacterDataLatin1"), (0, u "A"), (0, u "[I"), (2, u "B"), (0, u "[C"), (3, u "(I)I"), (12, u "DIGITS"), (0, u "[B"), (8, u "sharpsMap"), (1, .class_ 41), (1, u "java/lang/CharacterData"), (0, u "<init>"), (0, u "()V"), (3, u "instance"), (0, u "Ljava/lang/CharacterDataLatin1;"), (63, u "toLowerCase")] 28

def k15c0 : Code := { maxStack := 2, maxLocals := 3, code := jdk_116_method_20_code, exceptionTable := #[], attributes := #[] }
def k15m0 : Method := { name := "toLowerCase", desc := "(I)I", sig := { parameters := [.int], returnType := some .int }, accessFlags := 0, code := some k15c0 }
def k15m1 : Method := { name := "<init>", desc := "()V", sig := { parameters := [], returnType := none }, accessFlags := 2, code := none }
/-- java/lang/CharacterDataLatin1 -/
def k15 : Class := { plain "java/lang/CharacterDataLatin1" (some 14) with
  accessFlags := 32
  interfaces := #[]
  cf := some (fileOf pool15 2 #[] #[{ accessFlags := 0, nameIndex := 112, descriptorIndex := 14, attributes := #[] }, { accessFlags := 2, nameIndex := 42, descriptorIndex := 43, attributes := #[] }] 32 39 #[] #[{ accessFlags := 26, nameIndex := 27, descriptorIndex := 28, attributes := #[] }, { accessFlags := 8, nameIndex := 37, descriptorIndex := 10, attributes := #[] }, { accessFlags := 24, nameIndex := 47, descriptorIndex := 48, attributes := #[] }, { accessFlags := 24, nameIndex := 5, descriptorIndex := 6, attributes := #[] }, { accessFlags := 24, nameIndex := 9, descriptorIndex := 10, attributes := #[] }])
  fields := #[{ name := "DIGITS", type := (.array .byte), accessFlags := 26, slot := 0, constantValue := 0 }, { name := "sharpsMap", type := (.array .char), accessFlags := 8, slot := 1, constantValue := 0 }, { name := "instance", type := (.object "java/lang/CharacterDataLatin1"), accessFlags := 24, slot := 2, constantValue := 0 }, { name := "A", type := (.array .int), accessFlags := 24, slot := 3, constantValue := 0 }, { name := "B", type := (.array .char), accessFlags := 24, slot := 4, constantValue := 0 }]
  methods := #[k15m0, k15m1]
  instanceTypes := #[]
  staticTypes := #[(.array .byte), (.array .char), (.object "java/lang/CharacterDataLatin1"), (.array .int), (.array .char)]
  resolved := Array.replicate 141 none
  statics := some 3 }

def pool16 : Array CpInfo := pool [(2, .class_ 4), (1, u "java/lang/Object"), (0, u "<init>"), (0, u "()V"), (14, .class_ 23), (1, u "java/nio/charset/StandardCharsets"), (0, u "US_ASCII"), (0, u "Ljava/nio/charset/Charset;"), (7, u "ISO_8859_1"), (7, u "UTF_8"), (5, u "UTF_16BE"), (5, u "UTF_16LE"), (5, u "UTF_16")] 8

def k16m0 : Method := { name := "<init>", desc := "()V", sig := { parameters := [], returnType := none }, accessFlags := 2, code := none }
/-- java/nio/charset/StandardCharsets -/
def k16 : Class := { plain "java/nio/charset/StandardCharsets" (some 0) with
  accessFlags := 49
  interfaces := #[]
  cf := some (fileOf pool16 21 #[] #[{ accessFlags := 2, nameIndex := 5, descriptorIndex := 6, attributes := #[] }] 49 2 #[] #[{ accessFlags := 25, nameIndex := 24, descriptorIndex := 25, attributes := #[] }, { accessFlags := 25, nameIndex := 33, descriptorIndex := 25, attributes := #[] }, { accessFlags := 25, nameIndex := 41, descriptorIndex := 25, attributes := #[] }, { accessFlags := 25, nameIndex := 47, descriptorIndex := 25, attributes := #[] }, { accessFlags := 25, nameIndex := 53, descriptorIndex := 25, attributes := #[] }, { accessFlags := 25, nameIndex := 59, descriptorIndex := 25, attributes := #[] }])
  fields := #[{ name := "US_ASCII", type := (.object "java/nio/charset/Charset"), accessFlags := 25, slot := 0, constantValue := 0 }, { name := "ISO_8859_1", type := (.object "java/nio/charset/Charset"), accessFlags := 25, slot := 1, constantValue := 0 }, { name := "UTF_8", type := (.object "java/nio/charset/Charset"), accessFlags := 25, slot := 2, constantValue := 0 }, { name := "UTF_16BE", type := (.object "java/nio/charset/Charset"), accessFlags := 25, slot := 3, constantValue := 0 }, { name := "UTF_16LE", type := (.object "java/nio/charset/Charset"), accessFlags := 25, slot := 4, constantValue := 0 }, { name := "UTF_16", type := (.object "java/nio/charset/Charset"), accessFlags := 25, slot := 5, constantValue := 0 }]
  methods := #[k16m0]
  instanceTypes := #[]
  staticTypes := #[(.object "java/nio/charset/Charset"), (.object "java/nio/charset/Charset"), (.object "java/nio/charset/Charset"), (.object "java/nio/charset/Charset"), (.object "java/nio/charset/Charset"), (.object "java/nio/charset/Charset")]
  resolved := Array.replicate 68 none
  statics := some 4 }

def pool17 : Array CpInfo := pool [(18, .class_ 20), (1, u "java/nio/charset/Charset"), (0, u "cache1"), (0, u "[Ljava/lang/Object;"), (2, u "cache2"), (0, .class_ 27), (0, u "java/lang/Object"), (0, .class_ 29), (0, u "java/nio/charset/Charset$1"), (4, .class_ 36), (1, u "java/nio/charset/Charset$ThreadTrackHolder"), (21, .class_ 59), (0, u "java/nio/charset/Charset$2"), (11, .class_ 73), (1, u "java/nio/charset/Charset$ExtendedProviderHolder"), (22, u "standardProvider"), (0, u "Ljava/nio/charset/spi/CharsetProvider;"), (29, u "name"), (7, .class_ 136), (0, u "java/nio/charset/Charset$3"), (5, u "defaultCharset"), (0, u "Ljava/nio/charset/Charset;"), (14, u "zeroAliases"), (0, u "[Ljava/lang/String;"), (29, u "Ljava/lang/String;"), (2, u "aliases"), (2, u "aliasSet"), (0, u "Ljava/util/Set;"), (82, .class_ 280), (0, u "java/lang/Comparable"), (84, .class_ 366), (0, u "java/nio/charset/Charset$ExtendedProviderHolder$1")] 3

/-- java/nio/charset/Charset -/
def k17 : Class := { plain "java/nio/charset/Charset" (some 0) with
  accessFlags := 1057
  interfaces := #[4]
  cf := some (fileOf pool17 18 #[.nestMembers #[71, 365, 34, 135, 58, 28]] #[] 1057 26 #[279] #[{ accessFlags := 26, nameIndex := 96, descriptorIndex := 97, attributes := #[] }, { accessFlags := 26, nameIndex := 158, descriptorIndex := 159, attributes := #[] }, { accessFlags := 74, nameIndex := 21, descriptorIndex := 22, attributes := #[] }, { accessFlags := 74, nameIndex := 25, descriptorIndex := 22, attributes := #[] }, { accessFlags := 10, nameIndex := 142, descriptorIndex := 143, attributes := #[] }, { accessFlags := 18, nameIndex := 127, descriptorIndex := 189, attributes := #[] }, { accessFlags := 18, nameIndex := 192, descriptorIndex := 159, attributes := #[] }, { accessFlags := 2, nameIndex := 195, descriptorIndex := 196, attributes := #[] }])
  fields := #[{ name := "standardProvider", type := (.object "java/nio/charset/spi/CharsetProvider"), accessFlags := 26, slot := 0, constantValue := 0 }, { name := "zeroAliases", type := (.array (.object "java/lang/String")), accessFlags := 26, slot := 1, constantValue := 0 }, { name := "cache1", type := (.array (.object "java/lang/Object")), accessFlags := 74, slot := 2, constantValue := 0 }, { name := "cache2", type := (.array (.object "java/lang/Object")), accessFlags := 74, slot := 3, constantValue := 0 }, { name := "defaultCharset", type := (.object "java/nio/charset/Charset"), accessFlags := 10, slot := 4, constantValue := 0 }, { name := "name", type := (.object "java/lang/String"), accessFlags := 18, slot := 0, constantValue := 0 }, { name := "aliases", type := (.array (.object "java/lang/String")), accessFlags := 18, slot := 1, constantValue := 0 }, { name := "aliasSet", type := (.object "java/util/Set"), accessFlags := 2, slot := 2, constantValue := 0 }]
  methods := #[]
  instanceTypes := #[(.object "java/lang/String"), (.array (.object "java/lang/String")), (.object "java/util/Set")]
  staticTypes := #[(.object "java/nio/charset/spi/CharsetProvider"), (.array (.object "java/lang/String")), (.array (.object "java/lang/Object")), (.array (.object "java/lang/Object")), (.object "java/nio/charset/Charset")]
  resolved := Array.replicate 370 none
  statics := none }

def pool18 : Array CpInfo := pool [(1, .class_ 2), (0, u "sun/nio/cs/HistoricallyNamedCharset"), (0, .class_ 4), (0, u "java/lang/Object")] 4

/-- sun/nio/cs/HistoricallyNamedCharset -/
def k18 : Class := { plain "sun/nio/cs/HistoricallyNamedCharset" (some 0) with
  accessFlags := 1537
  interfaces := #[]
  cf := some (fileOf pool18 1 #[] #[] 1537 3 #[] #[])
  fields := #[]
  methods := #[]
  instanceTypes := #[]
  staticTypes := #[]
  resolved := Array.replicate 9 none
  statics := none }

def pool19 : Array CpInfo := pool [(2, .class_ 4), (1, u "java/nio/charset/Charset"), (130, .class_ 136), (0, u "sun/nio/cs/Unicode"), (0, .class_ 138), (0, u "sun/nio/cs/HistoricallyNamedCharset")] 15

/-- sun/nio/cs/Unicode -/
def k19 : Class := { plain "sun/nio/cs/Unicode" (some 17) with
  accessFlags := 1056
  interfaces := #[18]
  cf := some (fileOf pool19 135 #[] #[] 1056 2 #[137] #[])
  fields := #[]
  methods := #[]
  instanceTypes := #[(.object "java/lang/String"), (.array (.object "java/lang/String")), (.object "java/util/Set")]
  staticTypes := #[]
  resolved := Array.replicate 154 none
  statics := none }

def pool20 : Array CpInfo := pool [(10, .class_ 12), (1, u "sun/nio/cs/Unicode"), (0, u "<init>"), (3, .class_ 18), (0, u "sun/nio/cs/UTF_8$Decoder"), (3, .class_ 23), (0, u "sun/nio/cs/UTF_8$Encoder"), (15, .class_ 40), (0, u "sun/nio/cs/UTF_8"), (2, u "()V"), (2, u "INSTANCE"), (0, u "Lsun/nio/cs/UTF_8;"), (8, u "JLA"), (0, u "Ljdk/internal/access/JavaLangAccess;")] 26

def k20m0 : Method := { name := "<init>", desc := "()V", sig := { parameters := [], returnType := none }, accessFlags := 1, code := none }
/-- sun/nio/cs/UTF_8 -/
def k20 : Class := { plain "sun/nio/cs/UTF_8" (some 19) with
  accessFlags := 49
  interfaces := #[]
  cf := some (fileOf pool20 39 #[.nestMembers #[22, 17]] #[{ accessFlags := 1, nameIndex := 13, descriptorIndex := 43, attributes := #[] }] 49 10 #[] #[{ accessFlags := 25, nameIndex := 46, descriptorIndex := 47, attributes := #[] }, { accessFlags := 26, nameIndex := 56, descriptorIndex := 57, attributes := #[] }])
  fields := #[{ name := "INSTANCE", type := (.object "sun/nio/cs/UTF_8"), accessFlags := 25, slot := 0, constantValue := 0 }, { name := "JLA", type := (.object "jdk/internal/access/JavaLangAccess"), accessFlags := 26, slot := 1, constantValue := 0 }]
  methods := #[k20m0]
  instanceTypes := #[(.object "java/lang/String"), (.array (.object "java/lang/String")), (.object "java/util/Set")]
  staticTypes := #[(.object "sun/nio/cs/UTF_8"), (.object "jdk/internal/access/JavaLangAccess")]
  resolved := Array.replicate 84 none
  statics := some 5 }

def pool21 : Array CpInfo := pool [(10, .class_ 12), (1, u "java/nio/charset/Charset"), (0, u "<init>"), (5, .class_ 20), (0, u "sun/nio/cs/ISO_8859_1"), (0, .class_ 22), (0, u "sun/nio/cs/ISO_8859_1$Decoder"), (3, .class_ 27), (0, u "sun/nio/cs/ISO_8859_1$Encoder"), (3, u "()V"), (2, u "INSTANCE"), (0, u "Lsun/nio/cs/ISO_8859_1;"), (0, .class_ 37), (0, u "sun/nio/cs/HistoricallyNamedCharset")] 22

def k21m0 : Method := { name := "<init>", desc := "()V", sig := { parameters := [], returnType := none }, accessFlags := 1, code := none }
/-- sun/nio/cs/ISO_8859_1 -/
def k21 : Class := { plain "sun/nio/cs/ISO_8859_1" (some 17) with
  accessFlags := 33
  interfaces := #[18]
  cf := some (fileOf pool21 19 #[.nestMembers #[26, 21]] #[{ accessFlags := 1, nameIndex := 13, descriptorIndex := 31, attributes := #[] }] 33 10 #[36] #[{ accessFlags := 25, nameIndex := 34, descriptorIndex := 35, attributes := #[] }])
  fields := #[{ name := "INSTANCE", type := (.object "sun/nio/cs/ISO_8859_1"), accessFlags := 25, slot := 0, constantValue := 0 }]
  methods := #[k21m0]
  instanceTypes := #[(.object "java/lang/String"), (.array (.object "java/lang/String")), (.object "java/util/Set")]
  staticTypes := #[(.object "sun/nio/cs/ISO_8859_1")]
  resolved := Array.replicate 60 none
  statics := some 6 }

def pool22 : Array CpInfo := pool [(10, .class_ 12), (1, u "java/nio/charset/Charset"), (0, u "<init>"), (3, .class_ 18), (0, u "sun/nio/cs/US_ASCII"), (0, .class_ 20), (0, u "sun/nio/cs/US_ASCII$Decoder"), (3, .class_ 25), (0, u "sun/nio/cs/US_ASCII$Encoder"), (3, u "()V"), (2, u "INSTANCE"), (0, u "Lsun/nio/cs/US_ASCII;"), (8, u "JLA"), (0, u "Ljdk/internal/access/JavaLangAccess;"), (0, .class_ 45), (0, u "sun/nio/cs/HistoricallyNamedCharset")] 21

def k22m0 : Method := { name := "<init>", desc := "()V", sig := { parameters := [], returnType := none }, accessFlags := 1, code := none }
/-- sun/nio/cs/US_ASCII -/
def k22 : Class := { plain "sun/nio/cs/US_ASCII" (some 17) with
  accessFlags := 33
  interfaces := #[18]
  cf := some (fileOf pool22 17 #[.nestMembers #[24, 19]] #[{ accessFlags := 1, nameIndex := 13, descriptorIndex := 29, attributes := #[] }] 33 10 #[44] #[{ accessFlags := 25, nameIndex := 32, descriptorIndex := 33, attributes := #[] }, { accessFlags := 26, nameIndex := 42, descriptorIndex := 43, attributes := #[] }])
  fields := #[{ name := "INSTANCE", type := (.object "sun/nio/cs/US_ASCII"), accessFlags := 25, slot := 0, constantValue := 0 }, { name := "JLA", type := (.object "jdk/internal/access/JavaLangAccess"), accessFlags := 26, slot := 1, constantValue := 0 }]
  methods := #[k22m0]
  instanceTypes := #[(.object "java/lang/String"), (.array (.object "java/lang/String")), (.object "java/util/Set")]
  staticTypes := #[(.object "sun/nio/cs/US_ASCII"), (.object "jdk/internal/access/JavaLangAccess")]
  resolved := Array.replicate 67 none
  statics := some 7 }

def pool23 : Array CpInfo := pool [(2, .class_ 4), (1, u "java/lang/Object"), (0, u "<init>"), (0, u "()V"), (1, .class_ 10), (1, u "java/lang/StringCoding"), (0, u "countPositives"), (0, u "([BII)I")] 36

def k23m0 : Method := { name := "<init>", desc := "()V", sig := { parameters := [], returnType := none }, accessFlags := 2, code := none }
def k23c1 : Code := { maxStack := 2, maxLocals := 5, code := jdk_123_method_3_code, exceptionTable := #[], attributes := #[] }
def k23m1 : Method := { name := "countPositives", desc := "([BII)I", sig := { parameters := [(.array .byte), .int, .int], returnType := some .int }, accessFlags := 9, code := some k23c1 }
/-- java/lang/StringCoding -/
def k23 : Class := { plain "java/lang/StringCoding" (some 0) with
  accessFlags := 32
  interfaces := #[]
  cf := some (fileOf pool23 8 #[] #[{ accessFlags := 2, nameIndex := 5, descriptorIndex := 6, attributes := #[] }, { accessFlags := 9, nameIndex := 11, descriptorIndex := 12, attributes := #[] }] 32 2 #[] #[])
  fields := #[]
  methods := #[k23m0, k23m1]
  instanceTypes := #[]
  staticTypes := #[]
  resolved := Array.replicate 49 none
  statics := none }

def pool24 : Array CpInfo := pool [(8, .class_ 10), (1, u "java/lang/Iterable"), (24, .class_ 36), (0, u "java/lang/Object")] 25

/-- java/lang/Iterable -/
def k24 : Class := { plain "java/lang/Iterable" (some 0) with
  accessFlags := 1537
  interfaces := #[]
  cf := some (fileOf pool24 8 #[] #[] 1537 35 #[] #[])
  fields := #[]
  methods := #[]
  instanceTypes := #[]
  staticTypes := #[]
  resolved := Array.replicate 62 none
  statics := none }

def pool25 : Array CpInfo := pool [(10, .class_ 12), (1, u "java/util/Collection"), (47, .class_ 61), (0, u "java/lang/Object"), (0, .class_ 63), (0, u "java/lang/Iterable")] 51

/-- java/util/Collection -/
def k25 : Class := { plain "java/util/Collection" (some 0) with
  accessFlags := 1537
  interfaces := #[24]
  cf := some (fileOf pool25 10 #[] #[] 1537 60 #[62] #[])
  fields := #[]
  methods := #[]
  instanceTypes := #[]
  staticTypes := #[]
  resolved := Array.replicate 115 none
  statics := none }

def pool26 : Array CpInfo := pool [(8, .class_ 10), (1, u "java/util/SequencedCollection"), (15, .class_ 27), (0, u "java/lang/Object"), (0, .class_ 29), (0, u "java/util/Collection")] 27

/-- java/util/SequencedCollection -/
def k26 : Class := { plain "java/util/SequencedCollection" (some 0) with
  accessFlags := 1537
  interfaces := #[25]
  cf := some (fileOf pool26 8 #[] #[] 1537 26 #[28] #[])
  fields := #[]
  methods := #[]
  instanceTypes := #[]
  staticTypes := #[]
  resolved := Array.replicate 57 none
  statics := none }

def pool27 : Array CpInfo := pool [(8, .class_ 10), (1, u "java/util/List"), (7, u "()Z"), (48, u "isEmpty"), (20, u "of"), (1, .fieldref 91 92), (0, .class_ 93), (0, .nameAndType 94 95), (0, u "java/util/ImmutableCollections"), (0, u "EMPTY_LIST"), (0, u "Ljava/util/ImmutableCollections$ListN;"), (7, .class_ 104), (0, u "java/lang/Object"), (14, u "()Ljava/util/List;"), (0, .class_ 121), (0, u "java/util/SequencedCollection")] 129

def k27m0 : Method := { name := "isEmpty", desc := "()Z", sig := { parameters := [], returnType := some .boolean }, accessFlags := 1025, code := none }
def k27c1 : Code := { maxStack := 1, maxLocals := 0, code := jdk_40_method_36_code, exceptionTable := #[], attributes := #[] }
def k27m1 : Method := { name := "of", desc := "()Ljava/util/List;", sig := { parameters := [], returnType := some (.object "java/util/List") }, accessFlags := 9, code := some k27c1 }
/-- java/util/List -/
def k27 : Class := { plain "java/util/List" (some 0) with
  accessFlags := 1537
  interfaces := #[26]
  cf := some (fileOf pool27 8 #[] #[{ accessFlags := 1025, nameIndex := 67, descriptorIndex := 18, attributes := #[] }, { accessFlags := 9, nameIndex := 88, descriptorIndex := 119, attributes := #[] }] 1537 103 #[120] #[])
  fields := #[]
  methods := #[k27m0, k27m1]
  instanceTypes := #[]
  staticTypes := #[]
  resolved := Array.replicate 251 none
  statics := none }

def pool28 : Array CpInfo := pool [(2, .class_ 4), (1, u "java/lang/Object"), (0, u "<init>"), (0, u "()V"), (3, .class_ 11), (0, u "java/util/ImmutableCollections$List12"), (0, .class_ 13), (0, u "java/util/ImmutableCollections$ListN"), (3, u "Z"), (29, .class_ 49), (1, u "java/util/ImmutableCollections"), (0, u "$assertionsDisabled"), (5, u "[Ljava/lang/Object;"), (5, u "EMPTY_LIST"), (0, u "Ljava/util/ImmutableCollections$ListN;"), (8, u "EMPTY_LIST_NULLS"), (22, u "SALT32L"), (0, u "J"), (2, u "REVERSE"), (6, u "archivedObjects"), (2, u "EMPTY"), (0, u "Ljava/lang/Object;"), (0, .class_ 112), (0, u "java/util/ImmutableCollections$SetN"), (5, u "EMPTY_SET"), (0, u "Ljava/util/ImmutableCollections$SetN;"), (0, .class_ 121), (0, u "java/util/ImmutableCollections$MapN"), (3, u "EMPTY_MAP"), (0, u "Ljava/util/ImmutableCollections$MapN;"), (4, u "EXPAND_FACTOR"), (0, u "I"), (36, .class_ 170), (0, u "java/util/ImmutableCollections$MapN$MapNIterator"), (0, .class_ 172), (0, u "java/util/ImmutableCollections$MapN$1"), (0, .class_ 174), (0, u "java/util/ImmutableCollections$Map1"), (0, .class_ 176), (0, u "java/util/ImmutableCollections$AbstractImmutableMap"), (0, .class_ 178), (0, u "java/util/ImmutableCollections$SetN$SetNIterator"), (0, .class_ 180), (0, u "java/util/ImmutableCollections$Set12"), (0, .class_ 182), (0, u "java/util/ImmutableCollections$Set12$1"), (0, .class_ 184), (0, u "java/util/ImmutableCollections$AbstractImmutableSet"), (0, .class_ 186), (0, u "java/util/ImmutableCollections$SubList"), (0, .class_ 188), (0, u "java/util/ImmutableCollections$ListItr"), (0, .class_ 190), (0, u "java/util/ImmutableCollections$AbstractImmutableList"), (0, .class_ 192), (0, u "java/util/ImmutableCollections$AbstractImmutableCollection"), (0, .class_ 194), (0, u "java/util/ImmutableCollections$Access"), (0, .class_ 196), (0, u "java/util/ImmutableCollections$Access$1")] 16

def k28m0 : Method := { name := "<init>", desc := "()V", sig := { parameters := [], returnType := none }, accessFlags := 2, code := none }
/-- java/util/ImmutableCollections -/
def k28 : Class := { plain "java/util/ImmutableCollections" (some 0) with
  accessFlags := 32
  interfaces := #[]
  cf := some (fileOf pool28 47 #[.nestMembers #[120, 169, 171, 173, 175, 111, 177, 179, 181, 183, 12, 10, 185, 187, 189, 191, 193, 195]] #[{ accessFlags := 2, nameIndex := 5, descriptorIndex := 6, attributes := #[] }] 32 2 #[] #[{ accessFlags := 26, nameIndex := 95, descriptorIndex := 96, attributes := #[] }, { accessFlags := 26, nameIndex := 99, descriptorIndex := 17, attributes := #[] }, { accessFlags := 10, nameIndex := 106, descriptorIndex := 56, attributes := #[] }, { accessFlags := 26, nameIndex := 109, descriptorIndex := 110, attributes := #[] }, { accessFlags := 24, nameIndex := 62, descriptorIndex := 63, attributes := #[] }, { accessFlags := 24, nameIndex := 72, descriptorIndex := 63, attributes := #[] }, { accessFlags := 24, nameIndex := 118, descriptorIndex := 119, attributes := #[] }, { accessFlags := 24, nameIndex := 125, descriptorIndex := 126, attributes := #[] }, { accessFlags := 24, nameIndex := 131, descriptorIndex := 132, attributes := #[] }, { accessFlags := 4120, nameIndex := 50, descriptorIndex := 17, attributes := #[] }])
  fields := #[{ name := "SALT32L", type := .long, accessFlags := 26, slot := 0, constantValue := 0 }, { name := "REVERSE", type := .boolean, accessFlags := 26, slot := 1, constantValue := 0 }, { name := "archivedObjects", type := (.array (.object "java/lang/Object")), accessFlags := 10, slot := 2, constantValue := 0 }, { name := "EMPTY", type := (.object "java/lang/Object"), accessFlags := 26, slot := 3, constantValue := 0 }, { name := "EMPTY_LIST", type := (.object "java/util/ImmutableCollections$ListN"), accessFlags := 24, slot := 4, constantValue := 0 }, { name := "EMPTY_LIST_NULLS", type := (.object "java/util/ImmutableCollections$ListN"), accessFlags := 24, slot := 5, constantValue := 0 }, { name := "EMPTY_SET", type := (.object "java/util/ImmutableCollections$SetN"), accessFlags := 24, slot := 6, constantValue := 0 }, { name := "EMPTY_MAP", type := (.object "java/util/ImmutableCollections$MapN"), accessFlags := 24, slot := 7, constantValue := 0 }, { name := "EXPAND_FACTOR", type := .int, accessFlags := 24, slot := 8, constantValue := 0 }, { name := "$assertionsDisabled", type := .boolean, accessFlags := 4120, slot := 9, constantValue := 0 }]
  methods := #[k28m0]
  instanceTypes := #[]
  staticTypes := #[.long, .boolean, (.array (.object "java/lang/Object")), (.object "java/lang/Object"), (.object "java/util/ImmutableCollections$ListN"), (.object "java/util/ImmutableCollections$ListN"), (.object "java/util/ImmutableCollections$SetN"), (.object "java/util/ImmutableCollections$MapN"), .int, .boolean]
  resolved := Array.replicate 213 none
  statics := some 8 }

def pool29 : Array CpInfo := pool [(2, .class_ 4), (1, u "java/lang/Object"), (0, u "<init>"), (0, u "()V"), (1, .class_ 10), (1, u "java/util/AbstractCollection"), (66, .class_ 78), (0, u "java/util/Collection")] 81

def k29m0 : Method := { name := "<init>", desc := "()V", sig := { parameters := [], returnType := none }, accessFlags := 4, code := none }
/-- java/util/AbstractCollection -/
def k29 : Class := { plain "java/util/AbstractCollection" (some 0) with
  accessFlags := 1057
  interfaces := #[25]
  cf := some (fileOf pool29 8 #[] #[{ accessFlags := 4, nameIndex := 5, descriptorIndex := 6, attributes := #[] }] 1057 2 #[77] #[])
  fields := #[]
  methods := #[k29m0]
  instanceTypes := #[]
  staticTypes := #[]
  resolved := Array.replicate 160 none
  statics := none }

def pool30 : Array CpInfo := pool [(2, .class_ 4), (1, u "java/util/AbstractCollection"), (0, u "<init>"), (0, u "()V"), (1, .class_ 10), (1, u "java/util/ImmutableCollections"), (2, .class_ 14), (0, u "java/util/ImmutableCollections$AbstractImmutableCollection")] 41

def k30m0 : Method := { name := "<init>", desc := "()V", sig := { parameters := [], returnType := none }, accessFlags := 0, code := none }
/-- java/util/ImmutableCollections$AbstractImmutableCollection -/
def k30 : Class := { plain "java/util/ImmutableCollections$AbstractImmutableCollection" (some 29) with
  accessFlags := 1056
  interfaces := #[]
  cf := some (fileOf pool30 13 #[.nestHost 8] #[{ accessFlags := 0, nameIndex := 5, descriptorIndex := 6, attributes := #[] }] 1056 2 #[] #[])
  fields := #[]
  methods := #[k30m0]
  instanceTypes := #[]
  staticTypes := #[]
  resolved := Array.replicate 56 none
  statics := none }

def pool31 : Array CpInfo := pool [(1, .class_ 2), (0, u "java/util/RandomAccess"), (0, .class_ 4), (0, u "java/lang/Object")] 2

/-- java/util/RandomAccess -/
def k31 : Class := { plain "java/util/RandomAccess" (some 0) with
  accessFlags := 1537
  interfaces := #[]
  cf := some (fileOf pool31 1 #[] #[] 1537 3 #[] #[])
  fields := #[]
  methods := #[]
  instanceTypes := #[]
  staticTypes := #[]
  resolved := Array.replicate 7 none
  statics := none }

def pool32 : Array CpInfo := pool [(2, .class_ 4), (1, u "java/util/ImmutableCollections$AbstractImmutableCollection"), (0, u "<init>"), (0, u "()V"), (1, .class_ 10), (1, u "java/util/ImmutableCollections"), (3, .class_ 16), (1, u "java/util/ImmutableCollections$AbstractImmutableList"), (60, .class_ 78), (0, u "java/util/List"), (45, .class_ 125), (0, u "java/util/RandomAccess")] 70

def k32m0 : Method := { name := "<init>", desc := "()V", sig := { parameters := [], returnType := none }, accessFlags := 0, code := none }
/-- java/util/ImmutableCollections$AbstractImmutableList -/
def k32 : Class := { plain "java/util/ImmutableCollections$AbstractImmutableList" (some 30) with
  accessFlags := 1056
  interfaces := #[27, 31]
  cf := some (fileOf pool32 14 #[.nestHost 8] #[{ accessFlags := 0, nameIndex := 5, descriptorIndex := 6, attributes := #[] }] 1056 2 #[77, 124] #[])
  fields := #[]
  methods := #[k32m0]
  instanceTypes := #[]
  staticTypes := #[]
  resolved := Array.replicate 196 none
  statics := none }

def pool33 : Array CpInfo := pool [(2, .class_ 4), (1, u "java/util/ImmutableCollections$AbstractImmutableList"), (2, .fieldref 8 9), (0, .class_ 10), (0, .nameAndType 11 12), (0, u "java/util/ImmutableCollections$ListN"), (0, u "elements"), (0, u "[Ljava/lang/Object;"), (2, u "allowNulls"), (0, u "Z"), (42, .class_ 60), (0, u "java/io/Serializable"), (13, u "isEmpty"), (0, u "()Z"), (38, .class_ 115), (0, u "java/util/ImmutableCollections")] 3

def k33c0 : Code := { maxStack := 1, maxLocals := 1, code := jdk_45_method_2_code, exceptionTable := #[], attributes := #[] }
def k33m0 : Method := { name := "isEmpty", desc := "()Z", sig := { parameters := [], returnType := some .boolean }, accessFlags := 1, code := some k33c0 }
/-- java/util/ImmutableCollections$ListN -/
def k33 : Class := { plain "java/util/ImmutableCollections$ListN" (some 32) with
  accessFlags := 48
  interfaces := #[5]
  cf := some (fileOf pool33 8 #[.nestHost 114] #[{ accessFlags := 1, nameIndex := 74, descriptorIndex := 75, attributes := #[] }] 48 2 #[59] #[{ accessFlags := 18, nameIndex := 11, descriptorIndex := 12, attributes := #[] }, { accessFlags := 18, nameIndex := 15, descriptorIndex := 16, attributes := #[] }])
  fields := #[{ name := "elements", type := (.array (.object "java/lang/Object")), accessFlags := 18, slot := 0, constantValue := 0 }, { name := "allowNulls", type := .boolean, accessFlags := 18, slot := 1, constantValue := 0 }]
  methods := #[k33m0]
  instanceTypes := #[(.array (.object "java/lang/Object")), .boolean]
  staticTypes := #[]
  resolved := Array.replicate 119 none
  statics := none }

def pool34 : Array CpInfo := pool [(2, .class_ 4), (1, u "java/lang/Object"), (13, u "()Ljava/lang/String;"), (0, .fieldref 20 21), (0, .class_ 22), (0, .nameAndType 23 24), (0, u "sun/util/locale/BaseLocale"), (0, u "language"), (0, u "Ljava/lang/String;"), (5, u "script"), (5, u "region"), (2, u "variant"), (11, u "constantBaseLocales"), (0, u "[Lsun/util/locale/BaseLocale;"), (2, u "getLanguage"), (10, .class_ 67), (0, u "sun/util/locale/BaseLocale$Key"), (2, .class_ 72), (1, u "sun/util/locale/BaseLocale$Cache"), (24, u "OLD_ISO_CODES"), (0, u "Z"), (32, u "hash"), (0, u "I"), (41, u "US"), (15, u "ENGLISH"), (0, u "B"), (2, u "FRENCH"), (1, u "GERMAN"), (1, u "ITALIAN"), (1, u "JAPANESE"), (1, u "KOREAN"), (1, u "CHINESE"), (1, u "SIMPLIFIED_CHINESE"), (1, u "TRADITIONAL_CHINESE"), (1, u "FRANCE"), (1, u "GERMANY"), (1, u "ITALY"), (1, u "JAPAN"), (1, u "KOREA"), (1, u "UK"), (2, u "CANADA"), (1, u "CANADA_FRENCH"), (1, u "ROOT"), (1, u "NUM_CONSTANTS"), (1, u "SEP")] 31

def k34c0 : Code := { maxStack := 1, maxLocals := 1, code := jdk_3003_method_5_code, exceptionTable := #[], attributes := #[] }
def k34m0 : Method := { name := "getLanguage", desc := "()Ljava/lang/String;", sig := { parameters := [], returnType := some (.object "java/lang/String") }, accessFlags := 1, code := some k34c0 }
/-- sun/util/locale/BaseLocale -/
def k34 : Class := { plain "sun/util/locale/BaseLocale" (some 0) with
  accessFlags := 49
  interfaces := #[]
  cf := some (fileOf pool34 20 #[.nestMembers #[70, 66]] #[{ accessFlags := 1, nameIndex := 55, descriptorIndex := 18, attributes := #[] }] 49 2 #[] #[{ accessFlags := 9, nameIndex := 51, descriptorIndex := 52, attributes := #[] }, { accessFlags := 25, nameIndex := 190, descriptorIndex := 191, attributes := #[] }, { accessFlags := 25, nameIndex := 194, descriptorIndex := 191, attributes := #[] }, { accessFlags := 25, nameIndex := 196, descriptorIndex := 191, attributes := #[] }, { accessFlags := 25, nameIndex := 198, descriptorIndex := 191, attributes := #[] }, { accessFlags := 25, nameIndex := 200, descriptorIndex := 191, attributes := #[] }, { accessFlags := 25, nameIndex := 202, descriptorIndex := 191, attributes := #[] }, { accessFlags := 25, nameIndex := 204, descriptorIndex := 191, attributes := #[] }, { accessFlags := 25, nameIndex := 206, descriptorIndex := 191, attributes := #[] }, { accessFlags := 25, nameIndex := 208, descriptorIndex := 191, attributes := #[] }, { accessFlags := 25, nameIndex := 210, descriptorIndex := 191, attributes := #[] }, { accessFlags := 25, nameIndex := 212, descriptorIndex := 191, attributes := #[] }, { accessFlags := 25, nameIndex := 214, descriptorIndex := 191, attributes := #[] }, { accessFlags := 25, nameIndex := 216, descriptorIndex := 191, attributes := #[] }, { accessFlags := 25, nameIndex := 218, descriptorIndex := 191, attributes := #[] }, { accessFlags := 25, nameIndex := 220, descriptorIndex := 191, attributes := #[] }, { accessFlags := 25, nameIndex := 174, descriptorIndex := 191, attributes := #[] }, { accessFlags := 25, nameIndex := 223, descriptorIndex := 191, attributes := #[] }, { accessFlags := 25, nameIndex := 225, descriptorIndex := 191, attributes := #[] }, { accessFlags := 25, nameIndex := 227, descriptorIndex := 191, attributes := #[] }, { accessFlags := 25, nameIndex := 229, descriptorIndex := 191, attributes := #[] }, { accessFlags := 25, nameIndex := 231, descriptorIndex := 24, attributes := #[] }, { accessFlags := 18, nameIndex := 23, descriptorIndex := 24, attributes := #[] }, { accessFlags := 18, nameIndex := 30, descriptorIndex := 24, attributes := #[] }, { accessFlags := 18, nameIndex := 36, descriptorIndex := 24, attributes := #[] }, { accessFlags := 18, nameIndex := 39, descriptorIndex := 24, attributes := #[] }, { accessFlags := 2, nameIndex := 131, descriptorIndex := 132, attributes := #[] }, { accessFlags := 26, nameIndex := 97, descriptorIndex := 98, attributes := #[] }])
  fields := #[{ name := "constantBaseLocales", type := (.array (.object "sun/util/locale/BaseLocale")), accessFlags := 9, slot := 0, constantValue := 0 }, { name := "ENGLISH", type := .byte, accessFlags := 25, slot := 1, constantValue := 0 }, { name := "FRENCH", type := .byte, accessFlags := 25, slot := 2, constantValue := 0 }, { name := "GERMAN", type := .byte, accessFlags := 25, slot := 3, constantValue := 0 }, { name := "ITALIAN", type := .byte, accessFlags := 25, slot := 4, constantValue := 0 }, { name := "JAPANESE", type := .byte, accessFlags := 25, slot := 5, constantValue := 0 }, { name := "KOREAN", type := .byte, accessFlags := 25, slot := 6, constantValue := 0 }, { name := "CHINESE", type := .byte, accessFlags := 25, slot := 7, constantValue := 0 }, { name := "SIMPLIFIED_CHINESE", type := .byte, accessFlags := 25, slot := 8, constantValue := 0 }, { name := "TRADITIONAL_CHINESE", type := .byte, accessFlags := 25, slot := 9, constantValue := 0 }, { name := "FRANCE", type := .byte, accessFlags := 25, slot := 10, constantValue := 0 }, { name := "GERMANY", type := .byte, accessFlags := 25, slot := 11, constantValue := 0 }, { name := "ITALY", type := .byte, accessFlags := 25, slot := 12, constantValue := 0 }, { name := "JAPAN", type := .byte, accessFlags := 25, slot := 13, constantValue := 0 }, { name := "KOREA", type := .byte, accessFlags := 25, slot := 14, constantValue := 0 }, { name := "UK", type := .byte, accessFlags := 25, slot := 15, constantValue := 0 }, { name := "US", type := .byte, accessFlags := 25, slot := 16, constantValue := 0 }, { name := "CANADA", type := .byte, accessFlags := 25, slot := 17, constantValue := 0 }, { name := "CANADA_FRENCH", type := .byte, accessFlags := 25, slot := 18, constantValue := 0 }, { name := "ROOT", type := .byte, accessFlags := 25, slot := 19, constantValue := 0 }, { name := "NUM_CONSTANTS", type := .byte, accessFlags := 25, slot := 20, constantValue := 0 }, { name := "SEP", type := (.object "java/lang/String"), accessFlags := 25, slot := 21, constantValue := 0 }, { name := "language", type := (.object "java/lang/String"), accessFlags := 18, slot := 0, constantValue := 0 }, { name := "script", type := (.object "java/lang/String"), accessFlags := 18, slot := 1, constantValue := 0 }, { name := "region", type := (.object "java/lang/String"), accessFlags := 18, slot := 2, constantValue := 0 }, { name := "variant", type := (.object "java/lang/String"), accessFlags := 18, slot := 3, constantValue := 0 }, { name := "hash", type := .int, accessFlags := 2, slot := 4, constantValue := 0 }, { name := "OLD_ISO_CODES", type := .boolean, accessFlags := 26, slot := 22, constantValue := 0 }]
  methods := #[k34m0]
  instanceTypes := #[(.object "java/lang/String"), (.object "java/lang/String"), (.object "java/lang/String"), (.object "java/lang/String"), .int]
  staticTypes := #[(.array (.object "sun/util/locale/BaseLocale")), .byte, .byte, .byte, .byte, .byte, .byte, .byte, .byte, .byte, .byte, .byte, .byte, .byte, .byte, .byte, .byte, .byte, .byte, .byte, .byte, (.object "java/lang/String"), .boolean]
  resolved := Array.replicate 263 none
  statics := none }

def pool35 : Array CpInfo := pool [(2, .class_ 4), (1, u "java/lang/Object"), (0, u "<init>"), (0, u "()V"), (1, .class_ 10), (1, u "java/lang/System"), (0, u "allowSecurityManager"), (0, u "I"), (16, u "cons"), (0, u "Ljava/io/Console;"), (77, .class_ 110), (1, u "java/lang/System$CallersHolder"), (43, u "initialErrStream"), (0, u "Ljava/io/PrintStream;"), (19, u "security"), (0, u "Ljava/lang/SecurityManager;"), (31, .class_ 209), (0, u "java/lang/System$1"), (7, u "props"), (0, u "Ljava/util/Properties;"), (2, u "lineSeparator"), (0, u "Ljava/lang/String;"), (96, .class_ 321), (1, u "java/lang/System$LoggerFinder"), (5, .class_ 328), (0, u "java/lang/System$Logger"), (67, u "err"), (2, u "out"), (91, u "notSupportedJnuEncoding"), (15, u "in"), (17, u "initialIn"), (0, u "Ljava/io/InputStream;"), (35, u "bootLayer"), (0, u "Ljava/lang/ModuleLayer;"), (99, .class_ 664), (0, u "java/lang/System$2"), (9, u "NEVER"), (2, u "MAYBE"), (49, u "arraycopy"), (0, u "(Ljava/lang/Object;ILjava/lang/Object;II)V"), (72, .class_ 802), (0, u "java/lang/System$Logger$Level")] 31

def k35m0 : Method := { name := "<init>", desc := "()V", sig := { parameters := [], returnType := none }, accessFlags := 2, code := none }
def k35m1 : Method := { name := "arraycopy", desc := "(Ljava/lang/Object;ILjava/lang/Object;II)V", sig := { parameters := [(.object "java/lang/Object"), .int, (.object "java/lang/Object"), .int, .int], returnType := none }, accessFlags := 265, code := none }
/-- java/lang/System -/
def k35 : Class := { plain "java/lang/System" (some 0) with
  accessFlags := 49
  interfaces := #[]
  cf := some (fileOf pool35 8 #[.nestMembers #[319, 327, 801, 108, 663, 208]] #[{ accessFlags := 2, nameIndex := 5, descriptorIndex := 6, attributes := #[] }, { accessFlags := 265, nameIndex := 727, descriptorIndex := 728, attributes := #[] }] 49 2 #[] #[{ accessFlags := 25, nameIndex := 507, descriptorIndex := 526, attributes := #[] }, { accessFlags := 25, nameIndex := 399, descriptorIndex := 155, attributes := #[] }, { accessFlags := 25, nameIndex := 396, descriptorIndex := 155, attributes := #[] }, { accessFlags := 10, nameIndex := 525, descriptorIndex := 526, attributes := #[] }, { accessFlags := 26, nameIndex := 674, descriptorIndex := 12, attributes := #[] }, { accessFlags := 26, nameIndex := 677, descriptorIndex := 12, attributes := #[] }, { accessFlags := 10, nameIndex := 11, descriptorIndex := 12, attributes := #[] }, { accessFlags := 74, nameIndex := 175, descriptorIndex := 176, attributes := #[] }, { accessFlags := 10, nameIndex := 491, descriptorIndex := 222, attributes := #[] }, { accessFlags := 74, nameIndex := 29, descriptorIndex := 30, attributes := #[] }, { accessFlags := 74, nameIndex := 154, descriptorIndex := 155, attributes := #[] }, { accessFlags := 10, nameIndex := 217, descriptorIndex := 218, attributes := #[] }, { accessFlags := 10, nameIndex := 221, descriptorIndex := 222, attributes := #[] }, { accessFlags := 8, nameIndex := 562, descriptorIndex := 563, attributes := #[] }])
  fields := #[{ name := "in", type := (.object "java/io/InputStream"), accessFlags := 25, slot := 0, constantValue := 0 }, { name := "out", type := (.object "java/io/PrintStream"), accessFlags := 25, slot := 1, constantValue := 0 }, { name := "err", type := (.object "java/io/PrintStream"), accessFlags := 25, slot := 2, constantValue := 0 }, { name := "initialIn", type := (.object "java/io/InputStream"), accessFlags := 10, slot := 3, constantValue := 0 }, { name := "NEVER", type := .int, accessFlags := 26, slot := 4, constantValue := 0 }, { name := "MAYBE", type := .int, accessFlags := 26, slot := 5, constantValue := 0 }, { name := "allowSecurityManager", type := .int, accessFlags := 10, slot := 6, constantValue := 0 }, { name := "security", type := (.object "java/lang/SecurityManager"), accessFlags := 74, slot := 7, constantValue := 0 }, { name := "notSupportedJnuEncoding", type := (.object "java/lang/String"), accessFlags := 10, slot := 8, constantValue := 0 }, { name := "cons", type := (.object "java/io/Console"), accessFlags := 74, slot := 9, constantValue := 0 }, { name := "initialErrStream", type := (.object "java/io/PrintStream"), accessFlags := 74, slot := 10, constantValue := 0 }, { name := "props", type := (.object "java/util/Properties"), accessFlags := 10, slot := 11, constantValue := 0 }, { name := "lineSeparator", type := (.object "java/lang/String"), accessFlags := 10, slot := 12, constantValue := 0 }, { name := "bootLayer", type := (.object "java/lang/ModuleLayer"), accessFlags := 8, slot := 13, constantValue := 0 }]
  methods := #[k35m0, k35m1]
  instanceTypes := #[]
  staticTypes := #[(.object "java/io/InputStream"), (.object "java/io/PrintStream"), (.object "java/io/PrintStream"), (.object "java/io/InputStream"), .int, .int, .int, (.object "java/lang/SecurityManager"), (.object "java/lang/String"), (.object "java/io/Console"), (.object "java/io/PrintStream"), (.object "java/util/Properties"), (.object "java/lang/String"), (.object "java/lang/ModuleLayer")]
  resolved := Array.replicate 834 none
  statics := none }

def pool36 : Array CpInfo := pool [(2, .class_ 4), (1, u "java/lang/Object"), (0, u "<init>"), (0, u "()V"), (35, .class_ 44), (1, u "java/util/Objects"), (0, u "requireNonNull"), (0, u "(Ljava/lang/Object;)Ljava/lang/Object;")] 137

def k36m0 : Method := { name := "<init>", desc := "()V", sig := { parameters := [], returnType := none }, accessFlags := 2, code := none }
def k36c1 : Code := { maxStack := 2, maxLocals := 1, code := jdk_31_method_10_code, exceptionTable := #[], attributes := #[] }
def k36m1 : Method := { name := "requireNonNull", desc := "(Ljava/lang/Object;)Ljava/lang/Object;", sig := { parameters := [(.object "java/lang/Object")], returnType := some (.object "java/lang/Object") }, accessFlags := 9, code := some k36c1 }
/-- java/util/Objects -/
def k36 : Class := { plain "java/util/Objects" (some 0) with
  accessFlags := 49
  interfaces := #[]
  cf := some (fileOf pool36 42 #[] #[{ accessFlags := 2, nameIndex := 5, descriptorIndex := 6, attributes := #[] }, { accessFlags := 9, nameIndex := 45, descriptorIndex := 46, attributes := #[] }] 49 2 #[] #[])
  fields := #[]
  methods := #[k36m0, k36m1]
  instanceTypes := #[]
  staticTypes := #[]
  resolved := Array.replicate 184 none
  statics := none }

def pool37 : Array CpInfo := pool [(2, .class_ 4), (1, u "java/lang/Object"), (0, u "<init>"), (0, u "()V"), (17, .class_ 26), (1, u "jdk/internal/util/Preconditions"), (22, u "checkFromIndexSize"), (5, .class_ 56), (0, u "jdk/internal/util/Preconditions$4"), (57, .class_ 115), (0, u "jdk/internal/util/Preconditions$1"), (7, u "SIOOBE_FORMATTER"), (0, u "Ljava/util/function/BiFunction;"), (0, .class_ 126), (0, u "jdk/internal/util/Preconditions$2"), (3, u "AIOOBE_FORMATTER"), (0, .class_ 132), (0, u "jdk/internal/util/Preconditions$3"), (3, u "IOOBE_FORMATTER"), (46, u "(IIILjava/util/function/BiFunction;)I")] 10

def k37m0 : Method := { name := "<init>", desc := "()V", sig := { parameters := [], returnType := none }, accessFlags := 1, code := none }
def k37c1 : Code := { maxStack := 4, maxLocals := 4, code := jdk_41_method_13_code, exceptionTable := #[], attributes := #[] }
def k37m1 : Method := { name := "checkFromIndexSize", desc := "(IIILjava/util/function/BiFunction;)I", sig := { parameters := [.int, .int, .int, (.object "java/util/function/BiFunction")], returnType := some .int }, accessFlags := 9, code := some k37c1 }
/-- jdk/internal/util/Preconditions -/
def k37 : Class := { plain "jdk/internal/util/Preconditions" (some 0) with
  accessFlags := 33
  interfaces := #[]
  cf := some (fileOf pool37 24 #[.nestMembers #[55, 131, 125, 114]] #[{ accessFlags := 1, nameIndex := 5, descriptorIndex := 6, attributes := #[] }, { accessFlags := 9, nameIndex := 49, descriptorIndex := 183, attributes := #[] }] 33 2 #[] #[{ accessFlags := 25, nameIndex := 123, descriptorIndex := 124, attributes := #[] }, { accessFlags := 25, nameIndex := 130, descriptorIndex := 124, attributes := #[] }, { accessFlags := 25, nameIndex := 136, descriptorIndex := 124, attributes := #[] }])
  fields := #[{ name := "SIOOBE_FORMATTER", type := (.object "java/util/function/BiFunction"), accessFlags := 25, slot := 0, constantValue := 0 }, { name := "AIOOBE_FORMATTER", type := (.object "java/util/function/BiFunction"), accessFlags := 25, slot := 1, constantValue := 0 }, { name := "IOOBE_FORMATTER", type := (.object "java/util/function/BiFunction"), accessFlags := 25, slot := 2, constantValue := 0 }]
  methods := #[k37m0, k37m1]
  instanceTypes := #[]
  staticTypes := #[(.object "java/util/function/BiFunction"), (.object "java/util/function/BiFunction"), (.object "java/util/function/BiFunction")]
  resolved := Array.replicate 194 none
  statics := some 9 }

def pool38 : Array CpInfo := pool [(9, u "<init>"), (6, .class_ 18), (1, u "java/lang/Object"), (0, u "()V"), (1, .class_ 23), (1, u "jdk/internal/util/ArraysSupport"), (0, u "LOG2_ARRAY_LONG_INDEX_SCALE"), (0, u "I"), (2, u "U"), (0, u "Ljdk/internal/misc/Unsafe;"), (8, u "BIG_ENDIAN"), (0, u "Z"), (8, u "LOG2_BYTE_BIT_SIZE"), (4, u "LOG2_ARRAY_INT_INDEX_SCALE"), (54, u "JLA"), (0, u "Ljdk/internal/access/JavaLangAccess;"), (11, u "LOG2_ARRAY_BOOLEAN_INDEX_SCALE"), (9, u "LOG2_ARRAY_BYTE_INDEX_SCALE"), (5, u "LOG2_ARRAY_CHAR_INDEX_SCALE"), (5, u "LOG2_ARRAY_SHORT_INDEX_SCALE"), (18, u "LOG2_ARRAY_FLOAT_INDEX_SCALE"), (24, u "LOG2_ARRAY_DOUBLE_INDEX_SCALE"), (89, u "T_BOOLEAN"), (2, u "T_CHAR"), (1, u "T_FLOAT"), (1, u "T_DOUBLE"), (1, u "T_BYTE"), (1, u "T_SHORT"), (1, u "T_INT"), (1, u "T_LONG"), (1, u "SOFT_MAX_ARRAY_LENGTH")] 83

def k38m0 : Method := { name := "<init>", desc := "()V", sig := { parameters := [], returnType := none }, accessFlags := 2, code := none }
/-- jdk/internal/util/ArraysSupport -/
def k38 : Class := { plain "jdk/internal/util/ArraysSupport" (some 0) with
  accessFlags := 33
  interfaces := #[]
  cf := some (fileOf pool38 21 #[] #[{ accessFlags := 2, nameIndex := 9, descriptorIndex := 19, attributes := #[] }] 33 16 #[] #[{ accessFlags := 24, nameIndex := 28, descriptorIndex := 29, attributes := #[] }, { accessFlags := 26, nameIndex := 38, descriptorIndex := 39, attributes := #[] }, { accessFlags := 25, nameIndex := 121, descriptorIndex := 25, attributes := #[] }, { accessFlags := 25, nameIndex := 131, descriptorIndex := 25, attributes := #[] }, { accessFlags := 25, nameIndex := 137, descriptorIndex := 25, attributes := #[] }, { accessFlags := 25, nameIndex := 143, descriptorIndex := 25, attributes := #[] }, { accessFlags := 25, nameIndex := 53, descriptorIndex := 25, attributes := #[] }, { accessFlags := 25, nameIndex := 24, descriptorIndex := 25, attributes := #[] }, { accessFlags := 25, nameIndex := 162, descriptorIndex := 25, attributes := #[] }, { accessFlags := 25, nameIndex := 187, descriptorIndex := 25, attributes := #[] }, { accessFlags := 26, nameIndex := 48, descriptorIndex := 25, attributes := #[] }, { accessFlags := 25, nameIndex := 277, descriptorIndex := 25, attributes := #[] }, { accessFlags := 25, nameIndex := 280, descriptorIndex := 25, attributes := #[] }, { accessFlags := 25, nameIndex := 282, descriptorIndex := 25, attributes := #[] }, { accessFlags := 25, nameIndex := 284, descriptorIndex := 25, attributes := #[] }, { accessFlags := 25, nameIndex := 286, descriptorIndex := 25, attributes := #[] }, { accessFlags := 25, nameIndex := 288, descriptorIndex := 25, attributes := #[] }, { accessFlags := 25, nameIndex := 290, descriptorIndex := 25, attributes := #[] }, { accessFlags := 25, nameIndex := 292, descriptorIndex := 25, attributes := #[] }, { accessFlags := 26, nameIndex := 108, descriptorIndex := 109, attributes := #[] }, { accessFlags := 25, nameIndex := 294, descriptorIndex := 25, attributes := #[] }])
  fields := #[{ name := "U", type := (.object "jdk/internal/misc/Unsafe"), accessFlags := 24, slot := 0, constantValue := 0 }, { name := "BIG_ENDIAN", type := .boolean, accessFlags := 26, slot := 1, constantValue := 0 }, { name := "LOG2_ARRAY_BOOLEAN_INDEX_SCALE", type := .int, accessFlags := 25, slot := 2, constantValue := 0 }, { name := "LOG2_ARRAY_BYTE_INDEX_SCALE", type := .int, accessFlags := 25, slot := 3, constantValue := 0 }, { name := "LOG2_ARRAY_CHAR_INDEX_SCALE", type := .int, accessFlags := 25, slot := 4, constantValue := 0 }, { name := "LOG2_ARRAY_SHORT_INDEX_SCALE", type := .int, accessFlags := 25, slot := 5, constantValue := 0 }, { name := "LOG2_ARRAY_INT_INDEX_SCALE", type := .int, accessFlags := 25, slot := 6, constantValue := 0 }, { name := "LOG2_ARRAY_LONG_INDEX_SCALE", type := .int, accessFlags := 25, slot := 7, constantValue := 0 }, { name := "LOG2_ARRAY_FLOAT_INDEX_SCALE", type := .int, accessFlags := 25, slot := 8, constantValue := 0 }, { name := "LOG2_ARRAY_DOUBLE_INDEX_SCALE", type := .int, accessFlags := 25, slot := 9, constantValue := 0 }, { name := "LOG2_BYTE_BIT_SIZE", type := .int, accessFlags := 26, slot := 10, constantValue := 0 }, { name := "T_BOOLEAN", type := .int, accessFlags := 25, slot := 11, constantValue := 0 }, { name := "T_CHAR", type := .int, accessFlags := 25, slot := 12, constantValue := 0 }, { name := "T_FLOAT", type := .int, accessFlags := 25, slot := 13, constantValue := 0 }, { name := "T_DOUBLE", type := .int, accessFlags := 25, slot := 14, constantValue := 0 }, { name := "T_BYTE", type := .int, accessFlags := 25, slot := 15, constantValue := 0 }, { name := "T_SHORT", type := .int, accessFlags := 25, slot := 16, constantValue := 0 }, { name := "T_INT", type := .int, accessFlags := 25, slot := 17, constantValue := 0 }, { name := "T_LONG", type := .int, accessFlags := 25, slot := 18, constantValue := 0 }, { name := "JLA", type := (.object "jdk/internal/access/JavaLangAccess"), accessFlags := 26, slot := 19, constantValue := 0 }, { name := "SOFT_MAX_ARRAY_LENGTH", type := .int, accessFlags := 25, slot := 20, constantValue := 0 }]
  methods := #[k38m0]
  instanceTypes := #[]
  staticTypes := #[(.object "jdk/internal/misc/Unsafe"), .boolean, .int, .int, .int, .int, .int, .int, .int, .int, .int, .int, .int, .int, .int, .int, .int, .int, .int, (.object "jdk/internal/access/JavaLangAccess"), .int]
  resolved := Array.replicate 378 none
  statics := none }

/-- the primitive byte -/
def k39 : Class := { plain "byte" none with kind := .primitive 'B', accessFlags := 0x411 }
/-- [B -/
def k40 : Class := { plain "[B" (some 0) with kind := .array 39 .byte, interfaces := #[11, 5], accessFlags := 1041 }

/-- the primitive int -/
def k41 : Class := { plain "int" none with kind := .primitive 'I', accessFlags := 0x411 }
/-- [I -/
def k42 : Class := { plain "[I" (some 0) with kind := .array 41 .int, interfaces := #[11, 5], accessFlags := 1041 }

/-- [Ljava/lang/Object; -/
def k43 : Class := { plain "[Ljava/lang/Object;" (some 0) with kind := .array 0 (.object "java/lang/Object"), interfaces := #[11, 5], accessFlags := 1041 }

/-- [Ljava/lang/String; -/
def k44 : Class := { plain "[Ljava/lang/String;" (some 0) with kind := .array 10 (.object "java/lang/String"), interfaces := #[11, 5], accessFlags := 1041 }

def heap : Heap := #[{ cls := 7, slots := #[.ref 12, .null, .ref 13, .null, .null, .null, .null, .ref 11, .null], vm := .statics 7 },
  { cls := 10, slots := #[.long 0, .int 1, .null, .int 0, .null, .int 0, .int 0], vm := .statics 10 },
  { cls := 12, slots := #[.null, .null, .null, .null, .null, .null, .null, .null, .null, .null, .null, .null, .null, .null, .null, .null, .null, .null, .ref 14, .null, .null, .null, .null, .int 0, .int 0, .long 0, .int 0, .int 0, .int 0, .int 0, .int 0, .int 0, .null, .null, .null, .null, .null, .null, .int 0], vm := .statics 12 },
  { cls := 15, slots := #[.null, .null, .ref 20, .null, .null], vm := .statics 15 },
  { cls := 16, slots := #[.ref 21, .null, .ref 18, .null, .null, .null], vm := .statics 16 },
  { cls := 20, slots := #[.ref 18, .null], vm := .statics 20 },
  { cls := 21, slots := #[.ref 22], vm := .statics 21 },
  { cls := 22, slots := #[.ref 21, .null], vm := .statics 22 },
  { cls := 28, slots := #[.long 0, .int 0, .null, .null, .ref 19, .null, .null, .null, .int 0, .int 0], vm := .statics 28 },
  { cls := 37, slots := #[.null, .null, .null], vm := .statics 37 },
  { cls := 43, slots := #[], vm := .none },
  { cls := 7, slots := #[.null, .int 7, .int 0], vm := .none },
  { cls := 7, slots := #[.null, .int 0, .int 0], vm := .none },
  { cls := 7, slots := #[.null, .int 2, .int 0], vm := .none },
  { cls := 12, slots := #[.ref 15, .null, .int 0, .null], vm := .none },
  { cls := 34, slots := #[.ref 16, .null, .null, .null, .int 0], vm := .none },
  { cls := 10, slots := #[.ref 17, .int 0, .int 0, .int 0], vm := .none },
  { cls := 40, slots := #[], vm := .none },
  { cls := 20, slots := #[.null, .null, .null], vm := .none },
  { cls := 33, slots := #[.ref 10, .int 0], vm := .none },
  { cls := 15, slots := #[], vm := .none },
  { cls := 22, slots := #[.null, .null, .null], vm := .none },
  { cls := 21, slots := #[.null, .null, .null], vm := .none }]
def classes : Array Class := #[k0, k1, k2, k3, k4, k5, k6, k7, k8, k9, k10, k11, k12, k13, k14, k15, k16, k17, k18, k19, k20, k21, k22, k23, k24, k25, k26, k27, k28, k29, k30, k31, k32, k33, k34, k35, k36, k37, k38, k39, k40, k41, k42, k43, k44]
def interned : List (Array UInt16 × Addr) := []
def slotsUsed : Nat := 117
def theMethod : MethodId := ⟨1, 1⟩
def args0 : Array Value := #[.int 5]
def aboutOver (below : List Frame) : State where
  vm := { classes := classes, interned := interned.toArray }
  heap := heap
  slotsUsed := slotsUsed
  threads := #[{ frames := .invoking theMethod args0 :: below }]
def below0 : List Frame := [.native { method := ⟨0, 0⟩, args := #[] }]
def about1 : State := aboutOver below0
def p0 : Program := .bare "" "" ""
def e0 : Env := launch0.env 0 0 0
theorem w_frames : about1.frames = Frame.invoking theMethod args0 :: below0 := rfl
set_option maxRecDepth 65536 in
theorem w_args : argsFit about1.vm theMethod args0 = true := by decide +kernel
set_option maxRecDepth 65536 in
theorem w_heap : heapFits about1 = true := by decide +kernel
set_option maxRecDepth 65536 in
theorem w_runnable : about1.curStatus? = some .runnable := by decide +kernel
set_option maxRecDepth 65536 in
theorem w_alone : about1.alone = true := by decide +kernel
set_option maxRecDepth 65536 in
theorem w_named : about1.methodNamed? x = some theMethod := by decide +kernel
set_option maxRecDepth 65536 in
theorem w_hears : about1.hears theMethod below0 = true := by decide +kernel
set_option maxRecDepth 65536 in
theorem w_ripe : about1.ripe theMethod args0 below0 = true := by decide +kernel
theorem w_running : about1.status = .running := rfl
set_option maxRecDepth 65536 in
theorem w_room : about1.hasRoom e0.platform room_1 = true :=
  launch0.hasRoom_least _ room_1 (by decide +kernel) (by decide +kernel) (by decide +kernel) (by decide +kernel) (by decide +kernel) (by decide +kernel)
theorem allAtoms_all (ts : List Jvm.Cond) (a : Array Jvm.Value) (st : Jvm.State) : (allAtoms ts).before a st = ts.all (fun c => c.before a st) := by
  induction ts with
  | nil => rfl
  | cons c t ih =>
    show (Jvm.Cond.and c (allAtoms t)).before a st = _
    rw [Jvm.Cond.before_and, ih, List.all_cons]
def words1 : List Jvm.Cond := Jvm.Cond.code x code maxLocals ret :: tables_1
/-- a 'code' word, met by the world's own term for the bytes: nothing is compared byte by byte -/
theorem code_word {y : MethodName} {bytes : ByteArray} {mx : Nat} {rt : Option FieldType} {a : Array Value} {s : State} {m : MethodId} {meth : Method} {c : Code} (h1 : s.methodNamed? y = some m) (h2 : s.vm.method? m = some meth) (h3 : meth.code = some c) (h4 : c.code = bytes)
    (h5 : (c.maxLocals == mx && c.exceptionTable.isEmpty && decide (c.maxStack ≤ mostOperands) && decide (meth.sig.returnType = rt) && !meth.locks && decide (parseMethodDescriptor y.desc = some meth.sig)) = true) : (Jvm.Cond.code y bytes mx rt).before a s = true := by
  simp only [Bool.and_eq_true, beq_iff_eq, Bool.not_eq_true', decide_eq_true_eq] at h5
  obtain ⟨⟨⟨⟨⟨g1, g2⟩, g3⟩, g4⟩, g5⟩, g6⟩ := h5
  simp [Cond.before, Cond.holds, Cond.value, h1, h2, h3, h4, g1, g2, g3, g4, g5, g6]
def isCode : Jvm.Cond → Bool
  | .code _ _ _ _ => true
  | _ => false
theorem all_split {L : List Jvm.Cond} {P : Jvm.Cond → Bool} (h1 : L.all (fun c => isCode c || P c) = true) (h2 : ∀ c ∈ L.filter isCode, P c = true) : L.all P = true := by
  refine List.all_eq_true.mpr fun c hc => ?_
  have h := List.all_eq_true.mp h1 c hc
  rcases Bool.eq_false_or_eq_true (isCode c) with hi | hi
  · exact h2 c (List.mem_filter.mpr ⟨hc, hi⟩)
  · simpa [hi] using h
set_option maxRecDepth 65536 in
theorem w_c0 : (Jvm.Cond.code x code maxLocals ret).before args0 about1 = true := code_word (m := ⟨1, 1⟩) (meth := k1m1) (c := k1c1) (by decide +kernel) rfl rfl rfl (by decide +kernel)
set_option maxRecDepth 65536 in
theorem w_c1 : (Jvm.Cond.code ({ cls := "com/example/brassrig/brassrig/engine/ResponseReader", name := "<init>", desc := "()V" } : Jvm.MethodName) prog_11_method_1_code (1 : Nat) (Option.none : Option Jvm.ClassFile.FieldType)).before args0 about1 = true := code_word (m := ⟨2, 0⟩) (meth := k2m0) (c := k2c0) (by decide +kernel) rfl rfl rfl (by decide +kernel)
set_option maxRecDepth 65536 in
theorem w_c2 : (Jvm.Cond.code ({ cls := "java/lang/Object", name := "<init>", desc := "()V" } : Jvm.MethodName) object_method_1_code (1 : Nat) (Option.none : Option Jvm.ClassFile.FieldType)).before args0 about1 = true := code_word (m := ⟨0, 0⟩) (meth := k0m0) (c := k0c0) (by decide +kernel) rfl rfl rfl (by decide +kernel)
set_option maxRecDepth 65536 in
theorem w_c3 : (Jvm.Cond.code ({ cls := "com/example/brassrig/brassrig/engine/ResponseReader", name := "begin", desc := "(ZZ)V" } : Jvm.MethodName) prog_11_method_2_code (3 : Nat) (Option.none : Option Jvm.ClassFile.FieldType)).before args0 about1 = true := code_word (m := ⟨2, 1⟩) (meth := k2m1) (c := k2c1) (by decide +kernel) rfl rfl rfl (by decide +kernel)
set_option maxRecDepth 65536 in
theorem w_c4 : (Jvm.Cond.code ({ cls := "com/example/brassrig/brassrig/engine/ResponseReader", name := "startHead", desc := "()V" } : Jvm.MethodName) prog_11_method_3_code (1 : Nat) (Option.none : Option Jvm.ClassFile.FieldType)).before args0 about1 = true := code_word (m := ⟨2, 2⟩) (meth := k2m2) (c := k2c2) (by decide +kernel) rfl rfl rfl (by decide +kernel)
set_option maxRecDepth 65536 in
theorem w_c5 : (Jvm.Cond.code ({ cls := "com/example/brassrig/brassrig/engine/ResponseReader", name := "started", desc := "()Z" } : Jvm.MethodName) prog_11_method_4_code (1 : Nat) (Option.some Jvm.ClassFile.FieldType.boolean)).before args0 about1 = true := code_word (m := ⟨2, 3⟩) (meth := k2m3) (c := k2c3) (by decide +kernel) rfl rfl rfl (by decide +kernel)
set_option maxRecDepth 65536 in
theorem w_c6 : (Jvm.Cond.code ({ cls := "com/example/brassrig/brassrig/engine/ResponseReader", name := "closed", desc := "()Z" } : Jvm.MethodName) prog_11_method_6_code (1 : Nat) (Option.some Jvm.ClassFile.FieldType.boolean)).before args0 about1 = true := code_word (m := ⟨2, 4⟩) (meth := k2m4) (c := k2c4) (by decide +kernel) rfl rfl rfl (by decide +kernel)
set_option maxRecDepth 65536 in
theorem w_c7 : (Jvm.Cond.code ({ cls := "com/example/brassrig/brassrig/engine/ResponseReader", name := "value", desc := "(Ljava/lang/String;)Ljava/lang/String;" } : Jvm.MethodName) prog_11_method_10_code (3 : Nat) (Option.some (Jvm.ClassFile.FieldType.object "java/lang/String"))).before args0 about1 = true := code_word (m := ⟨2, 6⟩) (meth := k2m6) (c := k2c6) (by decide +kernel) rfl rfl rfl (by decide +kernel)
set_option maxRecDepth 65536 in
theorem w_c8 : (Jvm.Cond.code ({ cls := "com/example/brassrig/brassrig/engine/ResponseReader", name := "values", desc := "(Ljava/lang/String;)Ljava/util/List;" } : Jvm.MethodName) prog_11_method_9_code (5 : Nat) (Option.some (Jvm.ClassFile.FieldType.object "java/util/List"))).before args0 about1 = true := code_word (m := ⟨2, 5⟩) (meth := k2m5) (c := k2c5) (by decide +kernel) rfl rfl rfl (by decide +kernel)
set_option maxRecDepth 65536 in
theorem w_c9 : (Jvm.Cond.code ({ cls := "java/lang/String", name := "toLowerCase", desc := "(Ljava/util/Locale;)Ljava/lang/String;" } : Jvm.MethodName) jdk_42_method_109_code (2 : Nat) (Option.some (Jvm.ClassFile.FieldType.object "java/lang/String"))).before args0 about1 = true := code_word (m := ⟨10, 7⟩) (meth := k10m7) (c := k10c7) (by decide +kernel) rfl rfl rfl (by decide +kernel)
set_option maxRecDepth 65536 in
theorem w_c10 : (Jvm.Cond.code ({ cls := "java/lang/String", name := "isLatin1", desc := "()Z" } : Jvm.MethodName) jdk_42_method_154_code (1 : Nat) (Option.some Jvm.ClassFile.FieldType.boolean)).before args0 about1 = true := code_word (m := ⟨10, 10⟩) (meth := k10m10) (c := k10c10) (by decide +kernel) rfl rfl rfl (by decide +kernel)
set_option maxRecDepth 65536 in
theorem w_c11 : (Jvm.Cond.code ({ cls := "java/lang/StringLatin1", name := "toLowerCase", desc := "(Ljava/lang/String;[BLjava/util/Locale;)Ljava/lang/String;" } : Jvm.MethodName) jdk_43_method_32_code (9 : Nat) (Option.some (Jvm.ClassFile.FieldType.object "java/lang/String"))).before args0 about1 = true := code_word (m := ⟨13, 2⟩) (meth := k13m2) (c := k13c2) (by decide +kernel) rfl rfl rfl (by decide +kernel)
set_option maxRecDepth 65536 in
theorem w_c12 : (Jvm.Cond.code ({ cls := "java/lang/CharacterDataLatin1", name := "toLowerCase", desc := "(I)I" } : Jvm.MethodName) jdk_116_method_20_code (3 : Nat) (Option.some Jvm.ClassFile.FieldType.int)).before args0 about1 = true := code_word (m := ⟨15, 0⟩) (meth := k15m0) (c := k15c0) (by decide +kernel) rfl rfl rfl (by decide +kernel)
set_option maxRecDepth 65536 in
theorem w_c13 : (Jvm.Cond.code ({ cls := "com/example/brassrig/brassrig/engine/ResponseReader", name := "ascii", desc := "(Ljava/lang/String;)[B" } : Jvm.MethodName) prog_11_method_36_code (1 : Nat) (Option.some (Jvm.ClassFile.FieldType.array Jvm.ClassFile.FieldType.byte))).before args0 about1 = true := code_word (m := ⟨2, 9⟩) (meth := k2m9) (c := k2c9) (by decide +kernel) rfl rfl rfl (by decide +kernel)
set_option maxRecDepth 65536 in
theorem w_c14 : (Jvm.Cond.code ({ cls := "java/lang/String", name := "getBytes", desc := "(Ljava/nio/charset/Charset;)[B" } : Jvm.MethodName) jdk_42_method_64_code (2 : Nat) (Option.some (Jvm.ClassFile.FieldType.array Jvm.ClassFile.FieldType.byte))).before args0 about1 = true := code_word (m := ⟨10, 6⟩) (meth := k10m6) (c := k10c6) (by decide +kernel) rfl rfl rfl (by decide +kernel)
set_option maxRecDepth 65536 in
theorem w_c15 : (Jvm.Cond.code ({ cls := "java/lang/String", name := "coder", desc := "()B" } : Jvm.MethodName) jdk_42_method_152_code (1 : Nat) (Option.some Jvm.ClassFile.FieldType.byte)).before args0 about1 = true := code_word (m := ⟨10, 9⟩) (meth := k10m9) (c := k10c9) (by decide +kernel) rfl rfl rfl (by decide +kernel)
set_option maxRecDepth 65536 in
theorem w_c16 : (Jvm.Cond.code ({ cls := "java/lang/String", name := "encode", desc := "(Ljava/nio/charset/Charset;B[B)[B" } : Jvm.MethodName) jdk_42_method_18_code (3 : Nat) (Option.some (Jvm.ClassFile.FieldType.array Jvm.ClassFile.FieldType.byte))).before args0 about1 = true := code_word (m := ⟨10, 3⟩) (meth := k10m3) (c := k10c3) (by decide +kernel) rfl rfl rfl (by decide +kernel)
set_option maxRecDepth 65536 in
theorem w_c17 : (Jvm.Cond.code ({ cls := "java/lang/String", name := "encodeASCII", desc := "(B[B)[B" } : Jvm.MethodName) jdk_42_method_24_code (7 : Nat) (Option.some (Jvm.ClassFile.FieldType.array Jvm.ClassFile.FieldType.byte))).before args0 about1 = true := code_word (m := ⟨10, 4⟩) (meth := k10m4) (c := k10c4) (by decide +kernel) rfl rfl rfl (by decide +kernel)
set_option maxRecDepth 65536 in
theorem w_c18 : (Jvm.Cond.code ({ cls := "java/lang/StringCoding", name := "countPositives", desc := "([BII)I" } : Jvm.MethodName) jdk_123_method_3_code (5 : Nat) (Option.some Jvm.ClassFile.FieldType.int)).before args0 about1 = true := code_word (m := ⟨23, 1⟩) (meth := k23m1) (c := k23c1) (by decide +kernel) rfl rfl rfl (by decide +kernel)
set_option maxRecDepth 65536 in
theorem w_c19 : (Jvm.Cond.code ({ cls := "java/util/List", name := "of", desc := "()Ljava/util/List;" } : Jvm.MethodName) jdk_40_method_36_code (0 : Nat) (Option.some (Jvm.ClassFile.FieldType.object "java/util/List"))).before args0 about1 = true := code_word (m := ⟨27, 1⟩) (meth := k27m1) (c := k27c1) (by decide +kernel) rfl rfl rfl (by decide +kernel)
set_option maxRecDepth 65536 in
theorem w_c20 : (Jvm.Cond.code ({ cls := "java/util/ImmutableCollections$ListN", name := "isEmpty", desc := "()Z" } : Jvm.MethodName) jdk_45_method_2_code (1 : Nat) (Option.some Jvm.ClassFile.FieldType.boolean)).before args0 about1 = true := code_word (m := ⟨33, 0⟩) (meth := k33m0) (c := k33c0) (by decide +kernel) rfl rfl rfl (by decide +kernel)
set_option maxRecDepth 65536 in
theorem w_c21 : (Jvm.Cond.code ({ cls := "com/example/brassrig/brassrig/engine/ResponseReader", name := "bodyText", desc := "()Ljava/lang/String;" } : Jvm.MethodName) prog_11_method_12_code (1 : Nat) (Option.some (Jvm.ClassFile.FieldType.object "java/lang/String"))).before args0 about1 = true := code_word (m := ⟨2, 7⟩) (meth := k2m7) (c := k2c7) (by decide +kernel) rfl rfl rfl (by decide +kernel)
set_option maxRecDepth 65536 in
theorem w_c22 : (Jvm.Cond.code ({ cls := "java/util/Locale", name := "getLanguage", desc := "()Ljava/lang/String;" } : Jvm.MethodName) jdk_2628_method_27_code (1 : Nat) (Option.some (Jvm.ClassFile.FieldType.object "java/lang/String"))).before args0 about1 = true := code_word (m := ⟨12, 0⟩) (meth := k12m0) (c := k12c0) (by decide +kernel) rfl rfl rfl (by decide +kernel)
set_option maxRecDepth 65536 in
theorem w_c23 : (Jvm.Cond.code ({ cls := "sun/util/locale/BaseLocale", name := "getLanguage", desc := "()Ljava/lang/String;" } : Jvm.MethodName) jdk_3003_method_5_code (1 : Nat) (Option.some (Jvm.ClassFile.FieldType.object "java/lang/String"))).before args0 about1 = true := code_word (m := ⟨34, 0⟩) (meth := k34m0) (c := k34c0) (by decide +kernel) rfl rfl rfl (by decide +kernel)
set_option maxRecDepth 65536 in
theorem w_c24 : (Jvm.Cond.code ({ cls := "java/lang/StringLatin1", name := "canEncode", desc := "(I)Z" } : Jvm.MethodName) jdk_43_method_4_code (1 : Nat) (Option.some Jvm.ClassFile.FieldType.boolean)).before args0 about1 = true := code_word (m := ⟨13, 1⟩) (meth := k13m1) (c := k13c1) (by decide +kernel) rfl rfl rfl (by decide +kernel)
set_option maxRecDepth 65536 in
theorem w_c25 : (Jvm.Cond.code ({ cls := "java/lang/String", name := "<init>", desc := "([BB)V" } : Jvm.MethodName) jdk_42_method_151_code (3 : Nat) (Option.none : Option Jvm.ClassFile.FieldType)).before args0 about1 = true := code_word (m := ⟨10, 8⟩) (meth := k10m8) (c := k10c8) (by decide +kernel) rfl rfl rfl (by decide +kernel)
set_option maxRecDepth 65536 in
theorem w_c26 : (Jvm.Cond.code ({ cls := "java/lang/String", name := "<init>", desc := "([BIILjava/nio/charset/Charset;)V" } : Jvm.MethodName) jdk_42_method_10_code (5 : Nat) (Option.none : Option Jvm.ClassFile.FieldType)).before args0 about1 = true := code_word (m := ⟨10, 1⟩) (meth := k10m1) (c := k10c1) (by decide +kernel) rfl rfl rfl (by decide +kernel)
set_option maxRecDepth 65536 in
theorem w_c27 : (Jvm.Cond.code ({ cls := "java/util/Objects", name := "requireNonNull", desc := "(Ljava/lang/Object;)Ljava/lang/Object;" } : Jvm.MethodName) jdk_31_method_10_code (1 : Nat) (Option.some (Jvm.ClassFile.FieldType.object "java/lang/Object"))).before args0 about1 = true := code_word (m := ⟨36, 1⟩) (meth := k36m1) (c := k36c1) (by decide +kernel) rfl rfl rfl (by decide +kernel)
set_option maxRecDepth 65536 in
theorem w_c28 : (Jvm.Cond.code ({ cls := "java/lang/String", name := "checkBoundsOffCount", desc := "(III)I" } : Jvm.MethodName) jdk_42_method_157_code (3 : Nat) (Option.some Jvm.ClassFile.FieldType.int)).before args0 about1 = true := code_word (m := ⟨10, 11⟩) (meth := k10m11) (c := k10c11) (by decide +kernel) rfl rfl rfl (by decide +kernel)
set_option maxRecDepth 65536 in
theorem w_c29 : (Jvm.Cond.code ({ cls := "jdk/internal/util/Preconditions", name := "checkFromIndexSize", desc := "(IIILjava/util/function/BiFunction;)I" } : Jvm.MethodName) jdk_41_method_13_code (4 : Nat) (Option.some Jvm.ClassFile.FieldType.int)).before args0 about1 = true := code_word (m := ⟨37, 1⟩) (meth := k37m1) (c := k37c1) (by decide +kernel) rfl rfl rfl (by decide +kernel)
set_option maxRecDepth 65536 in
theorem w_c30 : (Jvm.Cond.code ({ cls := "java/lang/String", name := "isEmpty", desc := "()Z" } : Jvm.MethodName) jdk_42_method_55_code (1 : Nat) (Option.some Jvm.ClassFile.FieldType.boolean)).before args0 about1 = true := code_word (m := ⟨10, 5⟩) (meth := k10m5) (c := k10c5) (by decide +kernel) rfl rfl rfl (by decide +kernel)
def codes1 : List Jvm.Cond := [Jvm.Cond.code x code maxLocals ret, Jvm.Cond.code ({ cls := "com/example/brassrig/brassrig/engine/ResponseReader", name := "<init>", desc := "()V" } : Jvm.MethodName) prog_11_method_1_code (1 : Nat) (Option.none : Option Jvm.ClassFile.FieldType), Jvm.Cond.code ({ cls := "java/lang/Object", name := "<init>", desc := "()V" } : Jvm.MethodName) object_method_1_code (1 : Nat) (Option.none : Option Jvm.ClassFile.FieldType), Jvm.Cond.code ({ cls := "com/example/brassrig/brassrig/engine/ResponseReader", name := "begin", desc := "(ZZ)V" } : Jvm.MethodName) prog_11_method_2_code (3 : Nat) (Option.none : Option Jvm.ClassFile.FieldType), Jvm.Cond.code ({ cls := "com/example/brassrig/brassrig/engine/ResponseReader", name := "startHead", desc := "()V" } : Jvm.MethodName) prog_11_method_3_code (1 : Nat) (Option.none : Option Jvm.ClassFile.FieldType), Jvm.Cond.code ({ cls := "com/example/brassrig/brassrig/engine/ResponseReader", name := "started", desc := "()Z" } : Jvm.MethodName) prog_11_method_4_code (1 : Nat) (Option.some Jvm.ClassFile.FieldType.boolean), Jvm.Cond.code ({ cls := "com/example/brassrig/brassrig/engine/ResponseReader", name := "closed", desc := "()Z" } : Jvm.MethodName) prog_11_method_6_code (1 : Nat) (Option.some Jvm.ClassFile.FieldType.boolean), Jvm.Cond.code ({ cls := "com/example/brassrig/brassrig/engine/ResponseReader", name := "value", desc := "(Ljava/lang/String;)Ljava/lang/String;" } : Jvm.MethodName) prog_11_method_10_code (3 : Nat) (Option.some (Jvm.ClassFile.FieldType.object "java/lang/String")), Jvm.Cond.code ({ cls := "com/example/brassrig/brassrig/engine/ResponseReader", name := "values", desc := "(Ljava/lang/String;)Ljava/util/List;" } : Jvm.MethodName) prog_11_method_9_code (5 : Nat) (Option.some (Jvm.ClassFile.FieldType.object "java/util/List")), Jvm.Cond.code ({ cls := "java/lang/String", name := "toLowerCase", desc := "(Ljava/util/Locale;)Ljava/lang/String;" } : Jvm.MethodName) jdk_42_method_109_code (2 : Nat) (Option.some (Jvm.ClassFile.FieldType.object "java/lang/String")), Jvm.Cond.code ({ cls := "java/lang/String", name := "isLatin1", desc := "()Z" } : Jvm.MethodName) jdk_42_method_154_code (1 : Nat) (Option.some Jvm.ClassFile.FieldType.boolean), Jvm.Cond.code ({ cls := "java/lang/StringLatin1", name := "toLowerCase", desc := "(Ljava/lang/String;[BLjava/util/Locale;)Ljava/lang/String;" } : Jvm.MethodName) jdk_43_method_32_code (9 : Nat) (Option.some (Jvm.ClassFile.FieldType.object "java/lang/String")), Jvm.Cond.code ({ cls := "java/lang/CharacterDataLatin1", name := "toLowerCase", desc := "(I)I" } : Jvm.MethodName) jdk_116_method_20_code (3 : Nat) (Option.some Jvm.ClassFile.FieldType.int), Jvm.Cond.code ({ cls := "com/example/brassrig/brassrig/engine/ResponseReader", name := "ascii", desc := "(Ljava/lang/String;)[B" } : Jvm.MethodName) prog_11_method_36_code (1 : Nat) (Option.some (Jvm.ClassFile.FieldType.array Jvm.ClassFile.FieldType.byte)), Jvm.Cond.code ({ cls := "java/lang/String", name := "getBytes", desc := "(Ljava/nio/charset/Charset;)[B" } : Jvm.MethodName) jdk_42_method_64_code (2 : Nat) (Option.some (Jvm.ClassFile.FieldType.array Jvm.ClassFile.FieldType.byte)), Jvm.Cond.code ({ cls := "java/lang/String", name := "coder", desc := "()B" } : Jvm.MethodName) jdk_42_method_152_code (1 : Nat) (Option.some Jvm.ClassFile.FieldType.byte), Jvm.Cond.code ({ cls := "java/lang/String", name := "encode", desc := "(Ljava/nio/charset/Charset;B[B)[B" } : Jvm.MethodName) jdk_42_method_18_code (3 : Nat) (Option.some (Jvm.ClassFile.FieldType.array Jvm.ClassFile.FieldType.byte)), Jvm.Cond.code ({ cls := "java/lang/String", name := "encodeASCII", desc := "(B[B)[B" } : Jvm.MethodName) jdk_42_method_24_code (7 : Nat) (Option.some (Jvm.ClassFile.FieldType.array Jvm.ClassFile.FieldType.byte)), Jvm.Cond.code ({ cls := "java/lang/StringCoding", name := "countPositives", desc := "([BII)I" } : Jvm.MethodName) jdk_123_method_3_code (5 : Nat) (Option.some Jvm.ClassFile.FieldType.int), Jvm.Cond.code ({ cls := "java/util/List", name := "of", desc := "()Ljava/util/List;" } : Jvm.MethodName) jdk_40_method_36_code (0 : Nat) (Option.some (Jvm.ClassFile.FieldType.object "java/util/List")), Jvm.Cond.code ({ cls := "java/util/ImmutableCollections$ListN", name := "isEmpty", desc := "()Z" } : Jvm.MethodName) jdk_45_method_2_code (1 : Nat) (Option.some Jvm.ClassFile.FieldType.boolean), Jvm.Cond.code ({ cls := "com/example/brassrig/brassrig/engine/ResponseReader", name := "bodyText", desc := "()Ljava/lang/String;" } : Jvm.MethodName) prog_11_method_12_code (1 : Nat) (Option.some (Jvm.ClassFile.FieldType.object "java/lang/String")), Jvm.Cond.code ({ cls := "java/util/Locale", name := "getLanguage", desc := "()Ljava/lang/String;" } : Jvm.MethodName) jdk_2628_method_27_code (1 : Nat) (Option.some (Jvm.ClassFile.FieldType.object "java/lang/String")), Jvm.Cond.code ({ cls := "sun/util/locale/BaseLocale", name := "getLanguage", desc := "()Ljava/lang/String;" } : Jvm.MethodName) jdk_3003_method_5_code (1 : Nat) (Option.some (Jvm.ClassFile.FieldType.object "java/lang/String")), Jvm.Cond.code ({ cls := "java/lang/StringLatin1", name := "canEncode", desc := "(I)Z" } : Jvm.MethodName) jdk_43_method_4_code (1 : Nat) (Option.some Jvm.ClassFile.FieldType.boolean), Jvm.Cond.code ({ cls := "java/lang/String", name := "<init>", desc := "([BB)V" } : Jvm.MethodName) jdk_42_method_151_code (3 : Nat) (Option.none : Option Jvm.ClassFile.FieldType), Jvm.Cond.code ({ cls := "java/lang/String", name := "<init>", desc := "([BIILjava/nio/charset/Charset;)V" } : Jvm.MethodName) jdk_42_method_10_code (5 : Nat) (Option.none : Option Jvm.ClassFile.FieldType), Jvm.Cond.code ({ cls := "java/util/Objects", name := "requireNonNull", desc := "(Ljava/lang/Object;)Ljava/lang/Object;" } : Jvm.MethodName) jdk_31_method_10_code (1 : Nat) (Option.some (Jvm.ClassFile.FieldType.object "java/lang/Object")), Jvm.Cond.code ({ cls := "java/lang/String", name := "checkBoundsOffCount", desc := "(III)I" } : Jvm.MethodName) jdk_42_method_157_code (3 : Nat) (Option.some Jvm.ClassFile.FieldType.int), Jvm.Cond.code ({ cls := "jdk/internal/util/Preconditions", name := "checkFromIndexSize", desc := "(IIILjava/util/function/BiFunction;)I" } : Jvm.MethodName) jdk_41_method_13_code (4 : Nat) (Option.some Jvm.ClassFile.FieldType.int), Jvm.Cond.code ({ cls := "java/lang/String", name := "isEmpty", desc := "()Z" } : Jvm.MethodName) jdk_42_method_55_code (1 : Nat) (Option.some Jvm.ClassFile.FieldType.boolean)]
set_option maxRecDepth 65536 in
theorem codes_eq : words1.filter isCode = codes1 := rfl
theorem w_codes : ∀ c ∈ words1.filter isCode, c.before args0 about1 = true := by
  rw [codes_eq]
  intro c hc
  simp only [codes1, List.mem_cons, List.not_mem_nil, or_false] at hc
  rcases hc with rfl | rfl | rfl | rfl | rfl | rfl | rfl | rfl | rfl | rfl | rfl | rfl | rfl | rfl | rfl | rfl | rfl | rfl | rfl | rfl | rfl | rfl | rfl | rfl | rfl | rfl | rfl | rfl | rfl | rfl | rfl
  · exact w_c0
  · exact w_c1
  · exact w_c2
  · exact w_c3
  · exact w_c4
  · exact w_c5
  · exact w_c6
  · exact w_c7
  · exact w_c8
  · exact w_c9
  · exact w_c10
  · exact w_c11
  · exact w_c12
  · exact w_c13
  · exact w_c14
  · exact w_c15
  · exact w_c16
  · exact w_c17
  · exact w_c18
  · exact w_c19
  · exact w_c20
  · exact w_c21
  · exact w_c22
  · exact w_c23
  · exact w_c24
  · exact w_c25
  · exact w_c26
  · exact w_c27
  · exact w_c28
  · exact w_c29
  · exact w_c30
theorem own_codeW {y : MethodName} {bytes : ByteArray} {mx : Nat} {rt : Option FieldType} {hs : List (Nat × Nat × Nat × Nat)} {a : Array Value} {s : State} {m : MethodId} {meth : Method} {c : Code} (h1 : s.methodNamed? y = some m) (h2 : s.vm.method? m = some meth) (h3 : meth.code = some c) (h4 : c.code = bytes)
    (h5 : (c.maxLocals == mx && decide (c.exceptionTable.toList.map (fun h => (h.startPc, h.endPc, h.handlerPc, h.catchType)) = hs) && decide (c.maxStack ≤ mostOperands) && decide (meth.sig.returnType = rt) && !meth.locks && decide (parseMethodDescriptor y.desc = some meth.sig)) = true) : (Jvm.Cond.codeWith y bytes mx rt hs).before a s = true := by
  simp only [Bool.and_eq_true, beq_iff_eq, Bool.not_eq_true', decide_eq_true_eq] at h5
  obtain ⟨⟨⟨⟨⟨g1, g2⟩, g3⟩, g4⟩, g5⟩, g6⟩ := h5
  simp [Cond.before, Cond.holds, Cond.value, h1, h2, h3, h4, g1, g2, g3, g4, g5, g6]
set_option maxRecDepth 65536 in
theorem own_wcw : (Jvm.Cond.codeWith ({ cls := "java/lang/String", name := "<init>", desc := "(Ljava/nio/charset/Charset;[BII)V" } : Jvm.MethodName) jdk_42_method_11_code (11 : Nat) (Option.none : Option Jvm.ClassFile.FieldType) [(800, 813, 816, 202)]).before args0 about1 = true := own_codeW (m := ⟨10, 2⟩) (meth := k10m2) (c := k10c2) (by decide +kernel) rfl rfl rfl (by decide +kernel)
theorem own_mid (L : List Jvm.Cond) (P : Jvm.Cond → Bool) (k : Nat) (d : Jvm.Cond) (h1 : (L.take k).all P = true) (h2 : L.drop k = d :: L.drop (k + 1)) (h3 : P d = true) (h4 : (L.drop (k + 1)).all P = true) : L.all P = true := by
  rw [← List.take_append_drop k L, List.all_append, h1, h2, List.all_cons, h3, h4]
  rfl
set_option maxRecDepth 65536 in
theorem w_t1 : (words1.take 24).all (fun c => isCode c || c.before args0 about1) = true := by decide +kernel
set_option maxRecDepth 65536 in
theorem w_t2 : ((words1.drop 24).take 24).all (fun c => isCode c || c.before args0 about1) = true := by decide +kernel
set_option maxRecDepth 65536 in
theorem w_t3 : (((words1.drop 24).drop 24).take 24).all (fun c => isCode c || c.before args0 about1) = true := by decide +kernel
set_option maxRecDepth 65536 in
theorem w_t4 : ((((words1.drop 24).drop 24).drop 24).take 24).all (fun c => isCode c || c.before args0 about1) = true := by decide +kernel
set_option maxRecDepth 65536 in
theorem w_t5 : (((((words1.drop 24).drop 24).drop 24).drop 24).take 24).all (fun c => isCode c || c.before args0 about1) = true := by decide +kernel
set_option maxRecDepth 65536 in
theorem w_t6 : ((((((words1.drop 24).drop 24).drop 24).drop 24).drop 24).take 24).all (fun c => isCode c || c.before args0 about1) = true := by decide +kernel
set_option maxRecDepth 65536 in
theorem w_t7 : (((((((words1.drop 24).drop 24).drop 24).drop 24).drop 24).drop 24).take 24).all (fun c => isCode c || c.before args0 about1) = true := by decide +kernel
set_option maxRecDepth 65536 in
theorem w_t8 : ((((((((words1.drop 24).drop 24).drop 24).drop 24).drop 24).drop 24).drop 24).take 24).all (fun c => isCode c || c.before args0 about1) = true := by decide +kernel
set_option maxRecDepth 65536 in
theorem w_t9 : (((((((((words1.drop 24).drop 24).drop 24).drop 24).drop 24).drop 24).drop 24).drop 24).take 24).all (fun c => isCode c || c.before args0 about1) = true := by decide +kernel
set_option maxRecDepth 65536 in
theorem w_t10 : (((((((((words1.drop 24).drop 24).drop 24).drop 24).drop 24).drop 24).drop 24).drop 24).drop 24).all (fun c => isCode c || c.before args0 about1) = true := own_mid (((((((((words1.drop 24).drop 24).drop 24).drop 24).drop 24).drop 24).drop 24).drop 24).drop 24) _ 13 (Jvm.Cond.codeWith ({ cls := "java/lang/String", name := "<init>", desc := "(Ljava/nio/charset/Charset;[BII)V" } : Jvm.MethodName) jdk_42_method_11_code (11 : Nat) (Option.none : Option Jvm.ClassFile.FieldType) [(800, 813, 816, 202)]) (by decide +kernel) rfl (by show (isCode (Jvm.Cond.codeWith ({ cls := "java/lang/String", name := "<init>", desc := "(Ljava/nio/charset/Charset;[BII)V" } : Jvm.MethodName) jdk_42_method_11_code (11 : Nat) (Option.none : Option Jvm.ClassFile.FieldType) [(800, 813, 816, 202)]) || (Jvm.Cond.codeWith ({ cls := "java/lang/String", name := "<init>", desc := "(Ljava/nio/charset/Charset;[BII)V" } : Jvm.MethodName) jdk_42_method_11_code (11 : Nat) (Option.none : Option Jvm.ClassFile.FieldType) [(800, 813, 816, 202)]).before args0 about1) = true; rw [own_wcw]; rfl) (by decide +kernel)
theorem w_tables : (allAtoms (Jvm.Cond.code x code maxLocals ret :: tables_1)).before args0 about1 = true := by
  rw [allAtoms_all]
  show words1.all (fun c => c.before args0 about1) = true
  refine all_split ?_ w_codes
  rw [← List.take_append_drop 24 words1, List.all_append, w_t1, ← List.take_append_drop 24 (words1.drop 24), List.all_append, w_t2, ← List.take_append_drop 24 ((words1.drop 24).drop 24), List.all_append, w_t3, ← List.take_append_drop 24 (((words1.drop 24).drop 24).drop 24), List.all_append, w_t4, ← List.take_append_drop 24 ((((words1.drop 24).drop 24).drop 24).drop 24), List.all_append, w_t5, ← List.take_append_drop 24 (((((words1.drop 24).drop 24).drop 24).drop 24).drop 24), List.all_append, w_t6, ← List.take_append_drop 24 ((((((words1.drop 24).drop 24).drop 24).drop 24).drop 24).drop 24), List.all_append, w_t7, ← List.take_append_drop 24 (((((((words1.drop 24).drop 24).drop 24).drop 24).drop 24).drop 24).drop 24), List.all_append, w_t8, ← List.take_append_drop 24 ((((((((words1.drop 24).drop 24).drop 24).drop 24).drop 24).drop 24).drop 24).drop 24), List.all_append, w_t9, w_t10]
  rfl
set_option maxRecDepth 65536 in
theorem w_rest : rest_1_c.before args0 about1 = true := by decide +kernel
set_option maxRecDepth 65536 in
theorem w_case : (Jvm.Cond.and given_1 narrow_1).before args0 about1 = true := by decide +kernel
set_option maxRecDepth 65536 in
theorem w_consts : constsHeld consts_1 about1 := Jvm.Lit.constsHeldB_iff.mp (by decide +kernel)
theorem w_applies : (headSpec (Jvm.Cond.code x code maxLocals ret :: tables_1) room_1).applies x e0.platform about1 = true :=
  (Spec.applies_iff w_frames).mpr ⟨w_running, w_runnable, w_alone, w_named, w_hears, w_ripe, w_room, w_tables⟩
theorem atStart : AtStart classFile x code maxLocals ret World_1 tables_1 room_1 Calls_1 rest_1 Pre_1 launch0 p0 e0 about1 theMethod args0 below0 :=
  ⟨lists_1, trivial, launch0.admits_env _ _ _, launch0.least_env, fairChoices_fair.cas, fairChoices_fair.clock, w_frames, w_args, w_heap, w_applies, ⟨w_consts, trivial⟩, w_rest, w_case⟩
end start1
theorem witness_1 : WitnessClaimed_1 := ⟨start1.p0, start1.e0, start1.about1, start1.theMethod, start1.args0, start1.below0, start1.atStart⟩
end Jvm.Pilot.@@N@@
