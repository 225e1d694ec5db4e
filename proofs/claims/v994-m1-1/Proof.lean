import JvmDerived
import JvmDerived.Pilot.@@N@@Statement
import JvmDerived.Pilot.@@N@@Code
set_option linter.unusedVariables false
set_option linter.unusedSimpArgs false

namespace Jvm.Pilot.@@N@@
open Jvm Jvm.ClassFile Sem Op Lib Jvm.Free Jvm.Stand Jvm.LawKit Jvm.RoadKit Bundle Jvm.Pilot.@@N@@.Jvm.D
theorem own_w (i : Nat) {d : Jvm.Cond} (h : tables_1[i]? = some d) : d ∈ tables_1 := List.mem_of_getElem? h
section Own
variable {p : Program} {l : Launch} {e : Env} {R : Room} {s : State} {m : MethodId} {args : Array Value} {below : List Frame} {meth : Method} {c : Code} {T T' : State} {locs : List Loc} {cells slots : Nat} {g g' : JFrame} {P : State → Outcome → Prop}
/-- the run that stands at the frame g over T comes to an end of which P holds -/
def own_Ends (p : Program) (e : Env) (below : List Frame) (P : State → Outcome → Prop) (T : State) (g : JFrame) : Prop := ∃ u o, Steps p.tables e below (T.setTop g) u ∧ P u o
theorem own_via (st : ∀ t, Steps p.tables e below (T'.setTop g') t → Steps p.tables e below (T.setTop g) t) (k : own_Ends p e below P T' g') : own_Ends p e below P T g := by
  obtain ⟨a, b, c, d⟩ := k
  exact ⟨a, b, st _ c, d⟩
theorem own_viaT (st : Steps p.tables e below (T.setTop g) (T'.setTop g')) (k : own_Ends p e below P T' g') : own_Ends p e below P T g := own_via (fun _ k => st.trans k) k
def own_Post (s : State) (below : List Frame) (Q : Option Value → Heap → List Loc → Prop) (C S : Nat) : State → Outcome → Prop := fun u o => u.status = .running ∧ Ended u below o ∧ ∃ v L, o = .returned v ∧ Q v u.heap L ∧ FrameEnd s o u L C S
theorem own_leave (X : Stand p l e R s m args below meth c T locs cells slots) {v : Option Value} {Q : Option Value → Heap → List Loc → Prop} {C S : Nat} (hv : meth.sig.returnType = none → v = none) (hlk : meth.locks = false)
    (hst : ∀ fs, (∀ (f : JFrame) (acts : List Action), f.method = m → f.locked = none → f.entered = [] → (doReturn e (T.setTop f) acts v).1 = T.setFrames fs) → Steps p.tables e below (T.setTop g) (T.setFrames fs))
    (hC : cells ≤ C) (hS : slots ≤ S) (hQ : Q v T.heap locs) : own_Ends p e below (own_Post s below Q C S) T g := by
  obtain ⟨fs, hr, hrun, hended, hW, hsame⟩ := X.leave (v := v) hv hlk
  exact ⟨_, _, hst fs hr, hrun, hended, v, locs, rfl, hQ, ⟨_, rfl⟩, hW, hsame.mono hC hS⟩
theorem own_retV (X : Stand p l e R s m args below meth c T locs cells slots) (hx : p.tables.exec = Jvm.exec) (hlk : meth.locks = false) {Q : Option Value → Heap → List Loc → Prop} {C S : Nat} {pc : Nat} {Ls : Array Slot} (hret : meth.sig.returnType = none) (hd : decode c.code pc = .ok (.return_, 1))
    (hC : cells ≤ C) (hS : slots ≤ S) (hQ : Q none T.heap locs) : own_Ends p e below (own_Post s below Q C S) T (mkF m pc Ls []) :=
  own_leave X (fun _ => rfl) hlk (fun fs hr => X.returnOut hx hret hd hr) hC hS hQ
theorem own_retW (X : Stand p l e R s m args below meth c T locs cells slots) (hx : p.tables.exec = Jvm.exec) (hlk : meth.locks = false) {Q : Option Value → Heap → List Loc → Prop} {C S : Nat} {pc : Nat} {Ls : Array Slot} {w : Value} {t : FieldType} {i : Instr} {rest : List Value} (hret : meth.sig.returnType = some t) (hn : narrow t w = w)
    (hi : (i = .ireturn ∧ (t = .int ∨ t = .boolean ∨ t = .byte ∨ t = .char ∨ t = .short) ∧ ∃ z, w = .int z) ∨ (i = .lreturn ∧ t = .long ∧ ∃ z, w = .long z) ∨ (i = .dreturn ∧ t = .double ∧ ∃ z, w = .double z) ∨ (i = .freturn ∧ t = .float ∧ ∃ z, w = .float z) ∨ (i = .areturn ∧ t.isReference = true ∧ w.isRef = true))
    (hd : decode c.code pc = .ok (i, 1)) (hC : cells ≤ C) (hS : slots ≤ S) (hQ : Q (some w) T.heap locs) : own_Ends p e below (own_Post s below Q C S) T (mkF m pc Ls (w :: rest)) :=
  own_leave X (fun h => by rw [hret] at h; cases h) hlk (fun fs hr => retOut X hx hret hn hi hd hr) hC hS hQ
theorem own_retN (X : Stand p l e R s m args below meth c T locs cells slots) (hx : p.tables.exec = Jvm.exec) (hlk : meth.locks = false) {Q : Option Value → Heap → List Loc → Prop} {C S : Nat} {pc : Nat} {Ls : Array Slot} {z : Int32} {t : FieldType} {rest : List Value} (hret : meth.sig.returnType = some t) (ht : t = .boolean ∨ t = .byte ∨ t = .char ∨ t = .short)
    (hd : decode c.code pc = .ok (.ireturn, 1)) (hC : cells ≤ C) (hS : slots ≤ S) (hQ : Q (some (.int (nar t z))) T.heap locs) : own_Ends p e below (own_Post s below Q C S) T (mkF m pc Ls (.int z :: rest)) :=
  own_leave X (fun h => by rw [hret] at h; cases h) hlk (fun fs hr => retN X hx hret ht hd hr) hC hS hQ
theorem own_le {Z : State} {n0 : Nat} {h : Heap} (O : Old Z n0 h) : n0 ≤ h.size := O.1 ▸ O.2.1
theorem own_same {Z : State} {a0 : Array Value} {y : MethodName} (w : (Cond.declares y).before a0 Z = true) (hnf : NotFace Z y) (hy : y.cls ≠ "java/lang/invoke/MethodHandle" ∧ y.cls ≠ "java/lang/invoke/VarHandle") : (Cond.sameMethod y.cls y.cls y.name y.desc).before a0 Z = true := by
  obtain ⟨r0, r, hn, hrm, hstR, hsigR⟩ := Cond.declares_spec w
  have h := State.methodFound?_of_named hn hy
  obtain ⟨k, hk, hi⟩ := hnf r0 hn
  have hc := findClass_of_methodNamed hn
  have hn' : Z.methodNamed? { cls := y.cls, name := y.name, desc := y.desc } = some r0 := hn
  simp [Cond.before, Cond.holds, Cond.value, h, hc, hn', hk, hi]
theorem own_decl {s : State} {args : Array Value} {y : MethodName} {bytes : ByteArray} {maxL : Nat} {ret : Option FieldType} (wi : (Cond.instanceMethod y).before args s = true) (wc : (Cond.code y bytes maxL ret).before args s = true) : (Cond.declares y).before args s = true := by
  obtain ⟨mk, methM, hnamed, hmethM, hst, habM⟩ := Cond.instanceMethod_spec wi
  obtain ⟨m2, cM, q1, -, -, -, -, -, -, hsig⟩ := Cond.code_spec hnamed wc
  cases hmethM.symm.trans q1
  simp [Cond.before, Cond.holds, Cond.value, hnamed, hmethM, hst, hsig]
theorem own_nf {s : State} {args : Array Value} {C : String} {y z : MethodName} (w : (Cond.selects C z z).before args s = true) (e : z.cls = y.cls) : NotFace s y := fun r0 h0 => by
  obtain ⟨c2, r2, m2, q1, q2, q3, q4, kP, hkP, hkPi⟩ := Cond.selects_spec w
  have h1 := findClass_of_methodNamed h0
  have h2 := findClass_of_methodNamed q3
  rw [e] at h2
  have e2 : r0.cls = m2.cls := Option.some.inj (h1.symm.trans h2)
  exact ⟨kP, by rw [e2]; exact hkP, hkPi⟩
theorem own_shr0 (x : Int32) : x >>> ((0 : Int32) &&& 31) = x := by
  have h := c_ishr x 0 0 (by decide)
  apply Int32.toInt_inj.mp
  rw [h]; simp
theorem own_shl0 (x : Int32) : x <<< ((0 : Int32) &&& 31) = x := by
  have h := c_ishl x 0 0 (by decide)
  have r1 := rng32 x
  have r2 := rng32 (x <<< ((0 : Int32) &&& 31))
  apply Int32.toInt_inj.mp
  rw [show ((2 ^ 0 : Nat) : Int) = 1 from rfl, Int.mul_one] at h
  omega
theorem own_and3 (x : Int32) : x &&& 3 = 0 ∨ x &&& 3 = 1 ∨ x &&& 3 = 2 ∨ x &&& 3 = 3 := by
  have h := c_mask x 3 2 (by decide) (by decide)
  have e0 : (0 : Int32).toInt = 0 := by decide
  have e1 : (1 : Int32).toInt = 1 := by decide
  have e2 : (2 : Int32).toInt = 2 := by decide
  have e3 : (3 : Int32).toInt = 3 := by decide
  simp only [← Int32.toInt_inj]
  simp at h
  omega
theorem own_rb (x : Int32) : ((((x &&& 255).toInt8.toInt32) &&& 255).toUInt32.toUInt16.toUInt32.toInt32) = x &&& 255 := by
  rw [i2c_mask]
  have h1 := c_mask x 255 8 (by decide) (by decide)
  have h2 := c_mask ((x &&& 255).toInt8.toInt32) 255 8 (by decide) (by decide)
  have h3 := c_i2b (x &&& 255)
  apply Int32.toInt_inj.mp
  rw [show ((2 ^ 8 : Nat) : Int) = 256 from rfl] at h1 h2
  omega
theorem own_suff {T' : State} {g' : JFrame} (k : own_Ends p e below P T' g' → own_Ends p e below P T g) (h : own_Ends p e below P T' g') : own_Ends p e below P T g := k h
theorem own_nb0 : nar .boolean 0 = 0 := rfl
theorem own_nb1 : nar .boolean 1 = 1 := rfl
theorem own_nb {b : Int32} (h : b = 0 ∨ b = 1) : nar .boolean b = b := by rcases h with rfl | rfl <;> rfl
end Own
abbrev own_y0 : MethodName := ⟨"java/lang/Math", "max", "(II)I"⟩
abbrev own_y1 : MethodName := ⟨"jdk/internal/util/ArraysSupport", "newLength", "(III)I"⟩
abbrev own_y2 : MethodName := ⟨"java/lang/Math", "min", "(II)I"⟩
abbrev own_y3 : MethodName := ⟨"java/lang/AbstractStringBuilder", "newCapacity", "(I)I"⟩
abbrev own_y4 : MethodName := ⟨"java/util/Arrays", "copyOf", "([BI)[B"⟩
abbrev own_y5 : MethodName := ⟨"java/lang/AbstractStringBuilder", "ensureCapacityInternal", "(I)V"⟩
abbrev own_y6 : MethodName := ⟨"java/lang/AbstractStringBuilder", "isLatin1", "()Z"⟩
abbrev own_y7 : MethodName := ⟨"java/lang/StringLatin1", "canEncode", "(C)Z"⟩
abbrev own_y8 : MethodName := ⟨"java/lang/AbstractStringBuilder", "append", "(C)Ljava/lang/AbstractStringBuilder;"⟩
abbrev own_y9 : MethodName := ⟨"java/lang/AbstractStringBuilder", "<init>", "(I)V"⟩
abbrev own_y10 : MethodName := ⟨"java/lang/AbstractStringBuilder", "length", "()I"⟩
abbrev own_y11 : MethodName := ⟨"java/util/Arrays", "checkLength", "(II)V"⟩
abbrev own_y12 : MethodName := ⟨"java/util/Arrays", "copyOfRangeByte", "([BII)[B"⟩
abbrev own_y13 : MethodName := ⟨"java/lang/AbstractStringBuilder", "getValue", "()[B"⟩
abbrev own_y14 : MethodName := ⟨"java/lang/StringBuilder", "length", "()I"⟩
abbrev own_y15 : MethodName := ⟨"java/util/Arrays", "copyOfRange", "([BII)[B"⟩
abbrev own_y16 : MethodName := ⟨"java/lang/String", "<init>", "(Ljava/lang/AbstractStringBuilder;Ljava/lang/Void;)V"⟩
abbrev own_y17 : MethodName := ⟨"java/lang/String", "<init>", "(Ljava/lang/StringBuilder;)V"⟩
abbrev own_y18 : MethodName := ⟨"java/lang/String", "coder", "()B"⟩
abbrev own_y19 : MethodName := ⟨"jdk/internal/util/Preconditions", "checkIndex", "(IILjava/util/function/BiFunction;)I"⟩
abbrev own_y20 : MethodName := ⟨"java/lang/String", "checkIndex", "(II)V"⟩
abbrev own_y21 : MethodName := ⟨"java/lang/String", "isLatin1", "()Z"⟩
abbrev own_y22 : MethodName := ⟨"java/lang/StringLatin1", "charAt", "([BI)C"⟩
abbrev own_y23 : MethodName := ⟨"java/lang/StringBuilder", "<init>", "(I)V"⟩
abbrev own_y24 : MethodName := ⟨"java/lang/StringBuilder", "toString", "()Ljava/lang/String;"⟩
abbrev own_y25 : MethodName := ⟨"java/lang/StringBuilder", "append", "(C)Ljava/lang/StringBuilder;"⟩
abbrev own_y26 : MethodName := ⟨"com/example/rows_to_regions/rowstoregions/KeyTextEscapePinLaw", "plain", "(I)Z"⟩
abbrev own_y27 : MethodName := ⟨"java/lang/String", "charAt", "(I)C"⟩
abbrev own_y28 : MethodName := ⟨"com/example/rows_to_regions/rowstoregions/KeyTextEscapePinLaw", "hex", "(I)C"⟩
abbrev own_y29 : MethodName := ⟨"com/example/rows_to_regions/rowstoregions/KeyText", "escape", "([B)Ljava/lang/String;"⟩
abbrev own_y30 : MethodName := ⟨"java/lang/String", "length", "()I"⟩
abbrev own_y31 : MethodName := ⟨"com/example/rows_to_regions/rowstoregions/KeyTextEscapePinLaw", "width", "(I)I"⟩
abbrev own_y32 : MethodName := ⟨"com/example/rows_to_regions/rowstoregions/KeyTextEscapePinLaw", "matches", "(Ljava/lang/String;II)Z"⟩
abbrev own_L0 (x0 : Int32) (x1 : Int32) (x2 : Int32) (x3 : Int32) (x4 : Int32) (x5 : Int32) (x6 : Int32) (x7 : Int32) (x8 : Addr) (x9 : Addr) (x10 : Int32) (x11 : Int32) (x12 : Int32) (x13 : Int32) : Array Slot := #[.val (.int x0), .val (.int x1), .val (.int x2), .val (.int x3), .val (.int x4), .val (.int x5), .val (.int x6), .val (.int x7), .val (.ref x8), .val (.ref x9), .val (.int x10), .val (.int x11), .val (.int x12), .val (.int x13)]
abbrev own_L1 (x0 : Int32) (x1 : Int32) (x2 : Int32) (x3 : Int32) (x4 : Int32) (x5 : Int32) (x6 : Int32) (x7 : Int32) (x8 : Addr) (x9 : Addr) (x10 : Int32) (x11 : Int32) (x12 : Int32) : Array Slot := #[.val (.int x0), .val (.int x1), .val (.int x2), .val (.int x3), .val (.int x4), .val (.int x5), .val (.int x6), .val (.int x7), .val (.ref x8), .val (.ref x9), .val (.int x10), .val (.int x11), .val (.int x12), .unset]
abbrev own_L2 (x0 : Int32) (x1 : Int32) (x2 : Int32) (x3 : Int32) (x4 : Int32) (x5 : Int32) (x6 : Int32) (x7 : Int32) (x8 : Addr) (x9 : Addr) (x10 : Int32) (x11 : Int32) : Array Slot := #[.val (.int x0), .val (.int x1), .val (.int x2), .val (.int x3), .val (.int x4), .val (.int x5), .val (.int x6), .val (.int x7), .val (.ref x8), .val (.ref x9), .val (.int x10), .val (.int x11), .unset, .unset]
abbrev own_L3 (x0 : Int32) (x1 : Int32) (x2 : Int32) (x3 : Int32) (x4 : Int32) (x5 : Int32) (x6 : Int32) (x7 : Int32) (x8 : Addr) (x9 : Addr) (x10 : Int32) : Array Slot := #[.val (.int x0), .val (.int x1), .val (.int x2), .val (.int x3), .val (.int x4), .val (.int x5), .val (.int x6), .val (.int x7), .val (.ref x8), .val (.ref x9), .val (.int x10), .unset, .unset, .unset]
abbrev own_L4 (x0 : Int32) (x1 : Int32) (x2 : Int32) (x3 : Int32) (x4 : Int32) (x5 : Int32) (x6 : Int32) (x7 : Int32) (x8 : Addr) (x9 : Addr) : Array Slot := #[.val (.int x0), .val (.int x1), .val (.int x2), .val (.int x3), .val (.int x4), .val (.int x5), .val (.int x6), .val (.int x7), .val (.ref x8), .val (.ref x9), .unset, .unset, .unset, .unset]
abbrev own_L5 (x0 : Int32) (x1 : Int32) (x2 : Int32) (x3 : Int32) (x4 : Int32) (x5 : Int32) (x6 : Int32) (x7 : Int32) (x8 : Addr) : Array Slot := #[.val (.int x0), .val (.int x1), .val (.int x2), .val (.int x3), .val (.int x4), .val (.int x5), .val (.int x6), .val (.int x7), .val (.ref x8), .unset, .unset, .unset, .unset, .unset]
abbrev own_L6 (x0 : Int32) (x1 : Int32) (x2 : Int32) (x3 : Int32) (x4 : Int32) (x5 : Int32) (x6 : Int32) (x7 : Int32) : Array Slot := #[.val (.int x0), .val (.int x1), .val (.int x2), .val (.int x3), .val (.int x4), .val (.int x5), .val (.int x6), .val (.int x7), .unset, .unset, .unset, .unset, .unset, .unset]
abbrev own_L7 (x0 : Int32) (x1 : Int32) (x2 : Int32) (x3 : Int32) (x4 : Int32) (x5 : Int32) (x6 : Int32) : Array Slot := #[.val (.int x0), .val (.int x1), .val (.int x2), .val (.int x3), .val (.int x4), .val (.int x5), .val (.int x6), .unset, .unset, .unset, .unset, .unset, .unset, .unset]
abbrev own_L8 (x0 : Addr) (x1 : Int32) (x2 : Int32) (x3 : Int32) (x4 : Int32) (x5 : Int32) : Array Slot := #[.val (.ref x0), .val (.int x1), .val (.int x2), .val (.int x3), .val (.int x4), .val (.int x5)]
abbrev own_L9 (x0 : Addr) (x1 : Addr) (x2 : Addr) (x3 : Int32) (x4 : Int32) (x5 : Int32) (x6 : Int32) : Array Slot := #[.val (.ref x0), .val (.ref x1), .val (.ref x2), .val (.int x3), .val (.int x4), .val (.int x5), .val (.int x6)]
abbrev own_L10 (x0 : Addr) (x1 : Int32) (x2 : Int32) (x3 : Int32) (x4 : Int32) : Array Slot := #[.val (.ref x0), .val (.int x1), .val (.int x2), .val (.int x3), .val (.int x4), .unset]
abbrev own_L11 (x0 : Addr) (x1 : Int32) (x2 : Int32) (x3 : Int32) : Array Slot := #[.val (.ref x0), .val (.int x1), .val (.int x2), .val (.int x3), .unset, .unset]
abbrev own_L12 (x0 : Addr) (x1 : Addr) (x2 : Addr) (x3 : Int32) (x4 : Int32) (x5 : Int32) : Array Slot := #[.val (.ref x0), .val (.ref x1), .val (.ref x2), .val (.int x3), .val (.int x4), .val (.int x5), .unset]
abbrev own_L13 (x0 : Int32) (x1 : Int32) (x2 : Int32) (x3 : Int32) : Array Slot := #[.val (.int x0), .val (.int x1), .val (.int x2), .val (.int x3)]
abbrev own_L14 (x0 : Addr) (x1 : Addr) (x2 : Addr) (x3 : Int32) (x4 : Int32) : Array Slot := #[.val (.ref x0), .val (.ref x1), .val (.ref x2), .val (.int x3), .val (.int x4), .unset, .unset]
abbrev own_L15 (x0 : Addr) (x1 : Int32) (x2 : Int32) : Array Slot := #[.val (.ref x0), .val (.int x1), .val (.int x2), .unset, .unset, .unset]
abbrev own_L16 (x0 : Addr) (x1 : Addr) (x2 : Addr) : Array Slot := #[.val (.ref x0), .val (.ref x1), .val (.ref x2), .unset, .unset, .unset, .unset]
abbrev own_L17 (x0 : Addr) (x1 : Int32) : Array Slot := #[.val (.ref x0), .val (.int x1), .unset, .unset, .unset, .unset]
abbrev own_L18 (x0 : Addr) (x1 : Int32) (x2 : Int32) (x3 : Int32) (x4 : Addr) : Array Slot := #[.val (.ref x0), .val (.int x1), .val (.int x2), .val (.int x3), .val (.ref x4)]
abbrev own_L19 (x0 : Addr) (x1 : Addr) (x3 : Addr) (x4 : Int32) : Array Slot := #[.val (.ref x0), .val (.ref x1), .val .null, .val (.ref x3), .val (.int x4)]
abbrev own_L20 (x0 : Addr) (x1 : Addr) : Array Slot := #[.val (.ref x0), .val (.ref x1), .unset, .unset, .unset, .unset, .unset]
abbrev own_L21 (x0 : Int32) (x1 : Int32) (x2 : Int32) : Array Slot := #[.val (.int x0), .val (.int x1), .val (.int x2), .unset]
abbrev own_L22 (x0 : Addr) (x1 : Int32) (x2 : Addr) : Array Slot := #[.val (.ref x0), .val (.int x1), .val (.ref x2)]
abbrev own_L23 (x0 : Addr) (x1 : Int32) (x2 : Int32) (x3 : Int32) : Array Slot := #[.val (.ref x0), .val (.int x1), .val (.int x2), .val (.int x3), .unset]
abbrev own_L24 (x0 : Addr) (x1 : Addr) (x3 : Addr) : Array Slot := #[.val (.ref x0), .val (.ref x1), .val .null, .val (.ref x3), .unset]
abbrev own_L25 (x0 : Addr) : Array Slot := #[.val (.ref x0), .unset, .unset, .unset, .unset, .unset, .unset]
abbrev own_L26 (x0 : Addr) (x1 : Int32) (x2 : Int32) : Array Slot := #[.val (.ref x0), .val (.int x1), .val (.int x2)]
abbrev own_L27 (x0 : Addr) (x1 : Int32) (x2 : Int32) : Array Slot := #[.val (.ref x0), .val (.int x1), .val (.int x2), .unset, .unset]
abbrev own_L28 (x0 : Addr) (x1 : Int32) : Array Slot := #[.val (.ref x0), .val (.int x1), .unset]
abbrev own_L29 (x0 : Addr) (x1 : Addr) : Array Slot := #[.val (.ref x0), .val (.ref x1), .val .null, .unset, .unset]
theorem own_pd0 : parseMethodDescriptor "(II)I" = some ⟨[.int, .int], some .int⟩ := by decide +kernel
theorem own_pd1 : parseMethodDescriptor "(III)I" = some ⟨[.int, .int, .int], some .int⟩ := by decide +kernel
theorem own_pd2 : parseMethodDescriptor "(I)I" = some ⟨[.int], some .int⟩ := by decide +kernel
theorem own_pd3 : parseMethodDescriptor "([BI)[B" = some ⟨[(.array .byte), .int], some (.array .byte)⟩ := by decide +kernel
theorem own_pd4 : parseMethodDescriptor "(I)V" = some ⟨[.int], none⟩ := by decide +kernel
theorem own_pd5 : parseMethodDescriptor "()Z" = some ⟨[], some .boolean⟩ := by decide +kernel
theorem own_pd6 : parseMethodDescriptor "(C)Z" = some ⟨[.char], some .boolean⟩ := by decide +kernel
theorem own_pd7 : parseMethodDescriptor "(C)Ljava/lang/AbstractStringBuilder;" = some ⟨[.char], some (.object "java/lang/AbstractStringBuilder")⟩ := by decide +kernel
theorem own_pd8 : parseMethodDescriptor "()I" = some ⟨[], some .int⟩ := by decide +kernel
theorem own_pd9 : parseMethodDescriptor "(II)V" = some ⟨[.int, .int], none⟩ := by decide +kernel
theorem own_pd10 : parseMethodDescriptor "([BII)[B" = some ⟨[(.array .byte), .int, .int], some (.array .byte)⟩ := by decide +kernel
theorem own_pd11 : parseMethodDescriptor "()[B" = some ⟨[], some (.array .byte)⟩ := by decide +kernel
theorem own_pd12 : parseMethodDescriptor "(Ljava/lang/AbstractStringBuilder;Ljava/lang/Void;)V" = some ⟨[(.object "java/lang/AbstractStringBuilder"), (.object "java/lang/Void")], none⟩ := by decide +kernel
theorem own_pd13 : parseMethodDescriptor "(Ljava/lang/StringBuilder;)V" = some ⟨[(.object "java/lang/StringBuilder")], none⟩ := by decide +kernel
theorem own_pd14 : parseMethodDescriptor "()B" = some ⟨[], some .byte⟩ := by decide +kernel
theorem own_pd15 : parseMethodDescriptor "(IILjava/util/function/BiFunction;)I" = some ⟨[.int, .int, (.object "java/util/function/BiFunction")], some .int⟩ := by decide +kernel
theorem own_pd16 : parseMethodDescriptor "([BI)C" = some ⟨[(.array .byte), .int], some .char⟩ := by decide +kernel
theorem own_pd17 : parseMethodDescriptor "()Ljava/lang/String;" = some ⟨[], some (.object "java/lang/String")⟩ := by decide +kernel
theorem own_pd18 : parseMethodDescriptor "(C)Ljava/lang/StringBuilder;" = some ⟨[.char], some (.object "java/lang/StringBuilder")⟩ := by decide +kernel
theorem own_pd19 : parseMethodDescriptor "(I)Z" = some ⟨[.int], some .boolean⟩ := by decide +kernel
theorem own_pd20 : parseMethodDescriptor "(I)C" = some ⟨[.int], some .char⟩ := by decide +kernel
theorem own_pd21 : parseMethodDescriptor "([B)Ljava/lang/String;" = some ⟨[(.array .byte)], some (.object "java/lang/String")⟩ := by decide +kernel
theorem own_pd22 : parseMethodDescriptor "(Ljava/lang/String;II)Z" = some ⟨[(.object "java/lang/String"), .int, .int], some .boolean⟩ := by decide +kernel
section OwnWords
variable {args : Array Value} {first s : State} {o : Option Outcome} {idx : List Nat}
theorem own_eqI {a : Term} {k : Int32} (h : (Cond.eq a (.int k)).value args first o s idx = some true) : a.eval args first o idx s = some (.int k) := by
  simp only [Cond.value, Term.eval] at h
  cases ha : a.eval args first o idx s with
  | none => simp [ha] at h
  | some x => cases x <;> simp [ha] at h ⊢ <;> exact h
theorem own_eqR {a b : Term} {y : Addr} (h : (Cond.eq a b).value args first o s idx = some true) (hb : b.eval args first o idx s = some (.ref y)) : a.eval args first o idx s = some (.ref y) := by
  simp only [Cond.value, hb] at h
  cases ha : a.eval args first o idx s with
  | none => simp [ha] at h
  | some x => cases x <;> simp [ha] at h ⊢ <;> exact h
end OwnWords

theorem own_st255 {c : Int32} (h0 : 0 ≤ c.toInt) (h1 : c.toInt < 256) : (((c.toInt8.toInt32).toInt8.toInt32) &&& (255 : Int32)) = c := by
  have q1 := c_i2b c
  have q2 := c_i2b (c.toInt8.toInt32)
  have q3 := c_mask ((c.toInt8.toInt32).toInt8.toInt32) 255 8 (by decide) (by decide)
  rw [show ((2 ^ 8 : Nat) : Int) = 256 from rfl] at q3
  apply Int32.toInt_inj.mp
  omega
theorem own_v255 (x : Int32) : 0 ≤ (x &&& (255 : Int32)).toInt ∧ (x &&& (255 : Int32)).toInt < 256 := by
  have q3 := c_mask x 255 8 (by decide) (by decide)
  rw [show ((2 ^ 8 : Nat) : Int) = 256 from rfl] at q3
  omega
theorem own_le255 {c : Int32} (h1 : c.toInt < 256) : ¬ (255 : Int32) < c := by
  rw [Int32.lt_iff_toInt_lt]
  have : (255 : Int32).toInt = 255 := by decide
  omega
def own_hx (d : Int32) : Int32 := if d < 10 then 48 + d else 65 + (d - 10)
theorem own_hxI {d : Int32} (h0 : 0 ≤ d.toInt) (h1 : d.toInt < 16) : (own_hx d).toInt = if d.toInt < 10 then 48 + d.toInt else 55 + d.toInt := by
  have e10 : (10 : Int32).toInt = 10 := by decide
  have e48 : (48 : Int32).toInt = 48 := by decide
  have e65 : (65 : Int32).toInt = 65 := by decide
  unfold own_hx
  by_cases h : d < 10
  · rw [if_pos h]
    rw [Int32.lt_iff_toInt_lt, e10] at h
    rw [if_pos h]
    have q := c_iadd 48 d
    have r := rng32 (48 + d)
    omega
  · rw [if_neg h]
    rw [Int32.lt_iff_toInt_lt, e10] at h
    rw [if_neg h]
    have q := c_isub d 10
    have r := rng32 (d - 10)
    have q2 := c_iadd 65 (d - 10)
    have r2 := rng32 (65 + (d - 10))
    omega
theorem own_hxB {d : Int32} (h0 : 0 ≤ d.toInt) (h1 : d.toInt < 16) : 0 ≤ (own_hx d).toInt ∧ (own_hx d).toInt < 256 := by
  rw [own_hxI h0 h1]
  split <;> omega
theorem own_i2cS {c : Int32} (h0 : 0 ≤ c.toInt) (h1 : c.toInt < 65536) : c.toUInt32.toUInt16.toUInt32.toInt32 = c := by
  have q := c_i2c c
  apply Int32.toInt_inj.mp
  omega
theorem own_hi {v : Int32} (h0 : 0 ≤ v.toInt) (h1 : v.toInt < 256) : ((v.toUInt32 >>> ((4 : Int32) &&& 31).toUInt32).toInt32) = v / (16 : Int32) ∧ 0 ≤ (v / (16 : Int32)).toInt ∧ (v / (16 : Int32)).toInt < 16 := by
  have q := c_iushr v 4 4 (by decide) (by decide)
  rw [show ((2 ^ 4 : Nat) : Int) = 16 from rfl] at q
  have q2 := (c_idiv v 16 16 (by decide) (by decide)).1 h0
  refine ⟨?_, by omega, by omega⟩
  apply Int32.toInt_inj.mp
  omega
theorem own_lo {v : Int32} (h0 : 0 ≤ v.toInt) (h1 : v.toInt < 256) : (v &&& (15 : Int32)) = v % (16 : Int32) ∧ 0 ≤ (v % (16 : Int32)).toInt ∧ (v % (16 : Int32)).toInt < 16 := by
  have q := c_mask v 15 4 (by decide) (by decide)
  rw [show ((2 ^ 4 : Nat) : Int) = 16 from rfl] at q
  have q2 := (c_irem v 16 16 (by decide)).1 h0
  refine ⟨?_, by omega, by omega⟩
  apply Int32.toInt_inj.mp
  omega
theorem own_in16 {d : Int32} (h0 : 0 ≤ d.toInt) (h1 : d.toInt < 16) : ¬ d < 0 ∧ d < 16 := by
  have e0 : (0 : Int32).toInt = 0 := by decide
  have e16 : (16 : Int32).toInt = 16 := by decide
  rw [Int32.lt_iff_toInt_lt, Int32.lt_iff_toInt_lt]
  omega
theorem own_rangeMap (vs : List Value) (d : Value) : (List.range vs.length).map (fun i => vs.getD (0 + i) d) = vs := by
  apply List.ext_getElem
  · simp
  · intro i h1 h2
    simp at h1 h2 ⊢
    simp [h2]
theorem own_rangeTake (vs : List Value) (d : Value) (n : Nat) (h : n ≤ vs.length) : (List.range n).map (fun i => vs.getD (0 + i) d) = vs.take n := by
  apply List.ext_getElem
  · simp [h]
  · intro i h1 h2
    simp at h1 h2 ⊢
    have : i < vs.length := by omega
    simp [this]

theorem own_dom1 {D : List Int32} {P : Int32 → Prop} (h : ∀ q ∈ D, P q) {z : Int32} (hz : z ∈ D) : P z := h _ hz
theorem own_dom2 {D : List (Int32 × Int32)} {P : Int32 → Int32 → Prop} (h : ∀ q ∈ D, P q.1 q.2) {n z : Int32} (hz : (n, z) ∈ D) : P n z := h _ hz
theorem own_setEnd {cs : List Value} {n : Nat} {v d : Value} (hl : cs.length = n) : (cs ++ List.replicate 1 d).set n v = cs ++ [v] := by
  subst hl
  simp [List.set_append]
theorem own_cpy (cs : List Value) (k : Nat) (hl : cs.length = k) (d : Value) : ((List.replicate k d).take 0 ++ (List.range k).map (fun i => cs.getD (0 + i) d) ++ (List.replicate k d).drop (0 + k)) = cs := by
  subst hl
  rw [own_rangeMap]
  simp
abbrev own_sb (c : Int32) : Int32 := ((c.toInt8.toInt32).toInt8.toInt32)
abbrev own_D0 : List Int32 := [0, 1, 2, 3]
abbrev own_D1 : List Int32 := [1, 2, 3, 6, 8]
abbrev own_D2 : List (Int32 × Int32) := [(0, 0), (1, 1), (4, 4), (2, 2), (3, 3), (5, 6), (8, 14), (6, 8), (9, 18), (12, 18)]
abbrev own_D3 : List (Int32 × Int32) := [(5, 6), (8, 14), (6, 8), (9, 18), (12, 18)]
theorem own_pe {a b c : Prop} (h : ¬ (¬ a ∧ ¬ b ∧ ¬ c)) : a ∨ (¬ a ∧ b) ∨ (¬ a ∧ ¬ b ∧ c) := by
  by_cases ha : a
  · exact Or.inl ha
  by_cases hb : b
  · exact Or.inr (Or.inl ⟨ha, hb⟩)
  by_cases hc : c
  · exact Or.inr (Or.inr ⟨ha, hb, hc⟩)
  exact absurd ⟨ha, hb, hc⟩ h

theorem ej29m65_d0 : decode jdk_29_method_65_code 0 = .ok (.iload_n 0, 1) := by decide +kernel
theorem ej29m65_d1 : decode jdk_29_method_65_code 1 = .ok (.iload_n 1, 1) := by decide +kernel
theorem ej29m65_d2 : decode jdk_29_method_65_code 2 = .ok (.if_icmp .lt 7, 3) := by decide +kernel
theorem ej29m65_d5 : decode jdk_29_method_65_code 5 = .ok (.iload_n 0, 1) := by decide +kernel
theorem ej29m65_d6 : decode jdk_29_method_65_code 6 = .ok (.goto 4, 3) := by decide +kernel
theorem ej29m65_d9 : decode jdk_29_method_65_code 9 = .ok (.iload_n 1, 1) := by decide +kernel
theorem ej29m65_d10 : decode jdk_29_method_65_code 10 = .ok (.ireturn, 1) := by decide +kernel
theorem own_max_pn : plainFor (⟨"java/lang/Math", "max", "(II)I"⟩ : MethodName) = true := by first | exact plainFor_of_name (by first | (simp [plainName, overriddenIn]; done) | decide +kernel) | decide +kernel | exact Jvm.Free.JP.mathPlain rfl (by decide +kernel)
theorem own_max_ef (m : MethodId) (x0 : Int32) (x1 : Int32) : entryFrame m #[(.int x0), (.int x1)] 2 = mkF m 0 #[.val (.int x0), .val (.int x1)] [] := by first | (simp [entryFrame, mkF, argsToLocals, Value.category]; done) | rfl
def own_max_Q (Z : State) (x : Int32) (y : Int32) (r : Int32) (h0 : Heap) (n0 : Nat) (v : Option Value) (h : Heap) (L : List Loc) : Prop := v = some (.int r) ∧ Fr n0 L ∧ h = h0
set_option maxRecDepth 65536 in
set_option maxHeartbeats 40000000 in
theorem own_max (l : Launch) (Z : State) (a0 : Array Value) (hw : ∀ d ∈ tables_1, d.before a0 Z = true) (ws : List Jvm.Cond) (x : Int32) (y : Int32) (r : Int32) (h0 : Heap) (n0 : Nat) (O : Old Z n0 h0) (hr : (x < y → r = y) ∧ (¬ x < y → r = x)) :
    MetFree l (⟨"java/lang/Math", "max", "(II)I"⟩ : MethodName) (head1 (Jvm.Cond.code (⟨"java/lang/Math", "max", "(II)I"⟩ : MethodName) jdk_29_method_65_code 2 (some .int) :: ws) ({ frames := 0, cells := 0, slots := 0, locals := 0 } : Room)) (fun a U => a = #[(.int x), (.int y)] ∧ Z.Warmed39 U.vm ∧ U.heap = h0) (fun _ _ _ _ _ => True) (fun _ U o U' => ∃ v L, o = .returned v ∧ own_max_Q Z x y r h0 n0 v U'.heap L ∧ FrameEnd U o U' L ({ frames := 0, cells := 0, slots := 0, locals := 0 } : Room).cells ({ frames := 0, cells := 0, slots := 0, locals := 0 } : Room).slots) := by
  refine MetFree.of_bodySF own_max_pn hisR ?_
  intro p e s m args below meth c s₁ Bd hml0 hP hK
  obtain ⟨rfl, hZ, hh⟩ := hP
  have hx := Bd.exec
  have hby := Bd.bytes
  have hlk := Bd.notSynchronized
  have hml : c.maxLocals = 2 := hml0
  have hown : s.vm.findClass "java/lang/Math" = some m.cls := findClass_of_methodNamed Bd.named
  have hnm := (name_of_methodNamed Bd.named Bd.method).1
  have X : Stand p l e ({ frames := 0, cells := 0, slots := 0, locals := 0 } : Room) s m #[(.int x), (.int y)] below meth c s₁ [] 0 0 := Stand.of_body Bd
  have eT : s₁.heap = h0 := by rw [← hh, Bd.state]; rfl
  have N := Fr.nil n0
  have K0 := Keep.refl h0 []
  show own_Ends p e below (own_Post s below (own_max_Q Z x y r h0 n0) ({ frames := 0, cells := 0, slots := 0, locals := 0 } : Room).cells ({ frames := 0, cells := 0, slots := 0, locals := 0 } : Room).slots) s₁ (entryFrame m #[(.int x), (.int y)] 2)
  rw [own_max_ef m x y]
  obtain ⟨T, hT⟩ : ∃ z, z = s₁ := ⟨_, rfl⟩
  rw [← hT] at X eT ⊢
  obtain ⟨h, hh0⟩ : ∃ z, z = h0 := ⟨_, rfl⟩
  rw [← hh0] at eT
  replace O : Old Z n0 h := by rw [hh0]; exact O
  replace K0 : Keep h0 h [] := by rw [hh0]; exact K0
  refine own_via (g' := (mkF m 2 #[.val (.int x), .val (.int y)] [(.int y), (.int x)])) (fun t_ k_ => XS.iloadN X.here hx rfl (hb hby ej29m65_d0) rfl (XS.iloadN X.here hx rfl (hb hby ej29m65_d1) rfl k_)) ?_
  by_cases hc1 : x < y
  · refine own_via (g' := (mkF m 10 #[.val (.int x), .val (.int y)] [(.int y)])) (fun t_ k_ => XS.icmpYes X.here hx rfl (pc0 := 2) (pc' := 9) rfl (hb hby ej29m65_d2) rfl (tlt hc1).1 (by decide) (by decide) (XS.iloadN X.here hx rfl (hb hby ej29m65_d9) rfl k_)) ?_
    refine own_retW X hx hlk Bd.returns rfl (Or.inl ⟨rfl, Or.inl rfl, _, rfl⟩) (hb hby ej29m65_d10) (by decide) (by decide) ?_
    rw [eT]
    exact ⟨by rw [hr.1 hc1], N, hh0⟩
  · refine own_via (g' := (mkF m 10 #[.val (.int x), .val (.int y)] [(.int x)])) (fun t_ k_ => XS.icmpNo X.here hx rfl (hb hby ej29m65_d2) rfl (flt hc1).1 (XS.iloadN X.here hx rfl (hb hby ej29m65_d5) rfl (XS.goto X.here hx rfl (pc0 := 6) (pc' := 10) rfl (hb hby ej29m65_d6) (by decide) (by decide) k_))) ?_
    refine own_retW X hx hlk Bd.returns rfl (Or.inl ⟨rfl, Or.inl rfl, _, rfl⟩) (hb hby ej29m65_d10) (by decide) (by decide) ?_
    rw [eT]
    exact ⟨by rw [hr.2 hc1], N, hh0⟩
theorem ej29m69_d0 : decode jdk_29_method_69_code 0 = .ok (.iload_n 0, 1) := by decide +kernel
theorem ej29m69_d1 : decode jdk_29_method_69_code 1 = .ok (.iload_n 1, 1) := by decide +kernel
theorem ej29m69_d2 : decode jdk_29_method_69_code 2 = .ok (.if_icmp .gt 7, 3) := by decide +kernel
theorem ej29m69_d5 : decode jdk_29_method_69_code 5 = .ok (.iload_n 0, 1) := by decide +kernel
theorem ej29m69_d6 : decode jdk_29_method_69_code 6 = .ok (.goto 4, 3) := by decide +kernel
theorem ej29m69_d9 : decode jdk_29_method_69_code 9 = .ok (.iload_n 1, 1) := by decide +kernel
theorem ej29m69_d10 : decode jdk_29_method_69_code 10 = .ok (.ireturn, 1) := by decide +kernel
theorem own_min_pn : plainFor (⟨"java/lang/Math", "min", "(II)I"⟩ : MethodName) = true := by first | exact plainFor_of_name (by first | (simp [plainName, overriddenIn]; done) | decide +kernel) | decide +kernel | exact Jvm.Free.JP.mathPlain rfl (by decide +kernel)
theorem own_min_ef (m : MethodId) (x0 : Int32) (x1 : Int32) : entryFrame m #[(.int x0), (.int x1)] 2 = mkF m 0 #[.val (.int x0), .val (.int x1)] [] := by first | (simp [entryFrame, mkF, argsToLocals, Value.category]; done) | rfl
def own_min_Q (Z : State) (x : Int32) (y : Int32) (r : Int32) (h0 : Heap) (n0 : Nat) (v : Option Value) (h : Heap) (L : List Loc) : Prop := v = some (.int r) ∧ Fr n0 L ∧ h = h0
set_option maxRecDepth 65536 in
set_option maxHeartbeats 40000000 in
theorem own_min (l : Launch) (Z : State) (a0 : Array Value) (hw : ∀ d ∈ tables_1, d.before a0 Z = true) (ws : List Jvm.Cond) (x : Int32) (y : Int32) (r : Int32) (h0 : Heap) (n0 : Nat) (O : Old Z n0 h0) (hr : (y < x → r = y) ∧ (¬ y < x → r = x)) :
    MetFree l (⟨"java/lang/Math", "min", "(II)I"⟩ : MethodName) (head1 (Jvm.Cond.code (⟨"java/lang/Math", "min", "(II)I"⟩ : MethodName) jdk_29_method_69_code 2 (some .int) :: ws) ({ frames := 0, cells := 0, slots := 0, locals := 0 } : Room)) (fun a U => a = #[(.int x), (.int y)] ∧ Z.Warmed39 U.vm ∧ U.heap = h0) (fun _ _ _ _ _ => True) (fun _ U o U' => ∃ v L, o = .returned v ∧ own_min_Q Z x y r h0 n0 v U'.heap L ∧ FrameEnd U o U' L ({ frames := 0, cells := 0, slots := 0, locals := 0 } : Room).cells ({ frames := 0, cells := 0, slots := 0, locals := 0 } : Room).slots) := by
  refine MetFree.of_bodySF own_min_pn hisR ?_
  intro p e s m args below meth c s₁ Bd hml0 hP hK
  obtain ⟨rfl, hZ, hh⟩ := hP
  have hx := Bd.exec
  have hby := Bd.bytes
  have hlk := Bd.notSynchronized
  have hml : c.maxLocals = 2 := hml0
  have hown : s.vm.findClass "java/lang/Math" = some m.cls := findClass_of_methodNamed Bd.named
  have hnm := (name_of_methodNamed Bd.named Bd.method).1
  have X : Stand p l e ({ frames := 0, cells := 0, slots := 0, locals := 0 } : Room) s m #[(.int x), (.int y)] below meth c s₁ [] 0 0 := Stand.of_body Bd
  have eT : s₁.heap = h0 := by rw [← hh, Bd.state]; rfl
  have N := Fr.nil n0
  have K0 := Keep.refl h0 []
  show own_Ends p e below (own_Post s below (own_min_Q Z x y r h0 n0) ({ frames := 0, cells := 0, slots := 0, locals := 0 } : Room).cells ({ frames := 0, cells := 0, slots := 0, locals := 0 } : Room).slots) s₁ (entryFrame m #[(.int x), (.int y)] 2)
  rw [own_min_ef m x y]
  obtain ⟨T, hT⟩ : ∃ z, z = s₁ := ⟨_, rfl⟩
  rw [← hT] at X eT ⊢
  obtain ⟨h, hh0⟩ : ∃ z, z = h0 := ⟨_, rfl⟩
  rw [← hh0] at eT
  replace O : Old Z n0 h := by rw [hh0]; exact O
  replace K0 : Keep h0 h [] := by rw [hh0]; exact K0
  refine own_via (g' := (mkF m 2 #[.val (.int x), .val (.int y)] [(.int y), (.int x)])) (fun t_ k_ => XS.iloadN X.here hx rfl (hb hby ej29m69_d0) rfl (XS.iloadN X.here hx rfl (hb hby ej29m69_d1) rfl k_)) ?_
  by_cases hc1 : y < x
  · refine own_via (g' := (mkF m 10 #[.val (.int x), .val (.int y)] [(.int y)])) (fun t_ k_ => XS.icmpYes X.here hx rfl (pc0 := 2) (pc' := 9) rfl (hb hby ej29m69_d2) rfl (tlt hc1).2.2.1 (by decide) (by decide) (XS.iloadN X.here hx rfl (hb hby ej29m69_d9) rfl k_)) ?_
    refine own_retW X hx hlk Bd.returns rfl (Or.inl ⟨rfl, Or.inl rfl, _, rfl⟩) (hb hby ej29m69_d10) (by decide) (by decide) ?_
    rw [eT]
    exact ⟨by rw [hr.1 hc1], N, hh0⟩
  · refine own_via (g' := (mkF m 10 #[.val (.int x), .val (.int y)] [(.int x)])) (fun t_ k_ => XS.icmpNo X.here hx rfl (hb hby ej29m69_d2) rfl (flt hc1).2.2.1 (XS.iloadN X.here hx rfl (hb hby ej29m69_d5) rfl (XS.goto X.here hx rfl (pc0 := 6) (pc' := 10) rfl (hb hby ej29m69_d6) (by decide) (by decide) k_))) ?_
    refine own_retW X hx hlk Bd.returns rfl (Or.inl ⟨rfl, Or.inl rfl, _, rfl⟩) (hb hby ej29m69_d10) (by decide) (by decide) ?_
    rw [eT]
    exact ⟨by rw [hr.2 hc1], N, hh0⟩
theorem ej68m68_d0 : decode jdk_68_method_68_code 0 = .ok (.getstatic 18, 3) := by decide +kernel
theorem ej68m68_d3 : decode jdk_68_method_68_code 3 = .ok (.ifCond .eq 14, 3) := by decide +kernel
theorem ej68m68_d6 : decode jdk_68_method_68_code 6 = .ok (.aload_n 0, 1) := by decide +kernel
theorem ej68m68_d7 : decode jdk_68_method_68_code 7 = .ok (.getfield 22, 3) := by decide +kernel
theorem ej68m68_d10 : decode jdk_68_method_68_code 10 = .ok (.ifCond .ne 7, 3) := by decide +kernel
theorem ej68m68_d13 : decode jdk_68_method_68_code 13 = .ok (.iconst 1, 1) := by decide +kernel
theorem ej68m68_d14 : decode jdk_68_method_68_code 14 = .ok (.goto 4, 3) := by decide +kernel
theorem ej68m68_d18 : decode jdk_68_method_68_code 18 = .ok (.ireturn, 1) := by decide +kernel
theorem own_isl_pn : plainFor (⟨"java/lang/AbstractStringBuilder", "isLatin1", "()Z"⟩ : MethodName) = true := by first | exact plainFor_of_name (by first | (simp [plainName, overriddenIn]; done) | decide +kernel) | decide +kernel | exact Jvm.Free.JP.mathPlain rfl (by decide +kernel)
theorem own_isl_ef (m : MethodId) (x0 : Addr) : entryFrame m #[(.ref x0)] 1 = mkF m 0 #[.val (.ref x0)] [] := by first | (simp [entryFrame, mkF, argsToLocals, Value.category]; done) | rfl
def own_isl_Q (Z : State) (a1 : Addr) (zc : Int32) (h0 : Heap) (n0 : Nat) (v : Option Value) (h : Heap) (L : List Loc) : Prop := v = some (.int 1) ∧ Fr n0 L ∧ h = h0
set_option maxRecDepth 65536 in
set_option maxHeartbeats 40000000 in
theorem own_isl (l : Launch) (Z : State) (a0 : Array Value) (hw : ∀ d ∈ tables_1, d.before a0 Z = true) (ws : List Jvm.Cond) (a1 : Addr) (zc : Int32) (h0 : Heap) (n0 : Nat) (O : Old Z n0 h0) (F_coder_a1 : Fld Z h0 a1 "java/lang/AbstractStringBuilder" "coder" "B" (.int 0)) (S_C : Sta Z Z.heap "java/lang/String" "COMPACT_STRINGS" "Z" (.int zc)) (hzc : ¬ zc = 0) :
    MetFree l (⟨"java/lang/AbstractStringBuilder", "isLatin1", "()Z"⟩ : MethodName) (head1 (Jvm.Cond.code (⟨"java/lang/AbstractStringBuilder", "isLatin1", "()Z"⟩ : MethodName) jdk_68_method_68_code 1 (some .boolean) :: ws) ({ frames := 0, cells := 0, slots := 0, locals := 0 } : Room)) (fun a U => a = #[(.ref a1)] ∧ Z.Warmed39 U.vm ∧ U.heap = h0) (fun _ _ _ _ _ => True) (fun _ U o U' => ∃ v L, o = .returned v ∧ own_isl_Q Z a1 zc h0 n0 v U'.heap L ∧ FrameEnd U o U' L ({ frames := 0, cells := 0, slots := 0, locals := 0 } : Room).cells ({ frames := 0, cells := 0, slots := 0, locals := 0 } : Room).slots) := by
  refine MetFree.of_bodySF own_isl_pn hisR ?_
  intro p e s m args below meth c s₁ Bd hml0 hP hK
  obtain ⟨rfl, hZ, hh⟩ := hP
  have hx := Bd.exec
  have hby := Bd.bytes
  have hlk := Bd.notSynchronized
  have hml : c.maxLocals = 1 := hml0
  have hown : s.vm.findClass "java/lang/AbstractStringBuilder" = some m.cls := findClass_of_methodNamed Bd.named
  have hnm := (name_of_methodNamed Bd.named Bd.method).1
  have X : Stand p l e ({ frames := 0, cells := 0, slots := 0, locals := 0 } : Room) s m #[(.ref a1)] below meth c s₁ [] 0 0 := Stand.of_body Bd
  have eT : s₁.heap = h0 := by rw [← hh, Bd.state]; rfl
  have N := Fr.nil n0
  have K0 := Keep.refl h0 []
  show own_Ends p e below (own_Post s below (own_isl_Q Z a1 zc h0 n0) ({ frames := 0, cells := 0, slots := 0, locals := 0 } : Room).cells ({ frames := 0, cells := 0, slots := 0, locals := 0 } : Room).slots) s₁ (entryFrame m #[(.ref a1)] 1)
  rw [own_isl_ef m a1]
  obtain ⟨T, hT⟩ : ∃ z, z = s₁ := ⟨_, rfl⟩
  rw [← hT] at X eT ⊢
  obtain ⟨h, hh0⟩ : ∃ z, z = h0 := ⟨_, rfl⟩
  rw [← hh0] at eT
  replace O : Old Z n0 h := by rw [hh0]; exact O
  replace K0 : Keep h0 h [] := by rw [hh0]; exact K0
  rw [← hh0] at F_coder_a1
  obtain ⟨T, X, eT, st⟩ := getS2 X hx hZ hown (host := "") (Or.inl (hw _ (own_w 20 rfl))) Via.refl eT (S_C.ext O.2) (g := (mkF m 0 #[.val (.ref a1)] [])) rfl (hb hby ej68m68_d0)
  refine own_via (g' := (mkF m 3 #[.val (.ref a1)] [(.int zc)])) st ?_
  refine own_via (g' := (mkF m 7 #[.val (.ref a1)] [(.ref a1)])) (fun t_ k_ => XS.ifNo X.here hx rfl (hb hby ej68m68_d3) rfl ((if0 _ _).trans (feq hzc).1) (XS.aloadN X.here hx rfl (hb hby ej68m68_d6) rfl rfl k_)) ?_
  obtain ⟨T, X, eT, st⟩ := getF X hx hZ hown (host := "") (Or.inl (hw _ (own_w 24 rfl))) Via.refl eT F_coder_a1 (g := (mkF m 7 #[.val (.ref a1)] [(.ref a1)])) rfl rfl (hb hby ej68m68_d7)
  refine own_via (g' := (mkF m 10 #[.val (.ref a1)] [(.int 0)])) st ?_
  refine own_via (g' := (mkF m 18 #[.val (.ref a1)] [(.int 1)])) (fun t_ k_ => XS.ifNo X.here hx rfl (hb hby ej68m68_d10) rfl ((if0 _ _).trans (teq (by decide : (0 : Int32) = (0 : Int32))).2) (XS.iconst X.here hx rfl (hb hby ej68m68_d13) (XS.goto X.here hx rfl (pc0 := 14) (pc' := 18) rfl (hb hby ej68m68_d14) (by decide) (by decide) k_))) ?_
  refine own_retN X hx hlk (t := .boolean) Bd.returns (by simp) (hb hby ej68m68_d18) (by decide) (by decide) ?_
  rw [eT]
  exact ⟨rfl, N, hh0⟩
theorem ej43m3_d0 : decode jdk_43_method_3_code 0 = .ok (.iload_n 0, 1) := by decide +kernel
theorem ej43m3_d1 : decode jdk_43_method_3_code 1 = .ok (.sipush 255, 3) := by decide +kernel
theorem ej43m3_d4 : decode jdk_43_method_3_code 4 = .ok (.if_icmp .gt 7, 3) := by decide +kernel
theorem ej43m3_d7 : decode jdk_43_method_3_code 7 = .ok (.iconst 1, 1) := by decide +kernel
theorem ej43m3_d8 : decode jdk_43_method_3_code 8 = .ok (.goto 4, 3) := by decide +kernel
theorem ej43m3_d12 : decode jdk_43_method_3_code 12 = .ok (.ireturn, 1) := by decide +kernel
theorem own_can_pn : plainFor (⟨"java/lang/StringLatin1", "canEncode", "(C)Z"⟩ : MethodName) = true := by first | exact plainFor_of_name (by first | (simp [plainName, overriddenIn]; done) | decide +kernel) | decide +kernel | exact Jvm.Free.JP.mathPlain rfl (by decide +kernel)
theorem own_can_ef (m : MethodId) (x0 : Int32) : entryFrame m #[(.int x0)] 1 = mkF m 0 #[.val (.int x0)] [] := by first | (simp [entryFrame, mkF, argsToLocals, Value.category]; done) | rfl
def own_can_Q (Z : State) (c1 : Int32) (h0 : Heap) (n0 : Nat) (v : Option Value) (h : Heap) (L : List Loc) : Prop := v = some (.int 1) ∧ Fr n0 L ∧ h = h0
set_option maxRecDepth 65536 in
set_option maxHeartbeats 40000000 in
theorem own_can (l : Launch) (Z : State) (a0 : Array Value) (hw : ∀ d ∈ tables_1, d.before a0 Z = true) (ws : List Jvm.Cond) (c1 : Int32) (h0 : Heap) (n0 : Nat) (O : Old Z n0 h0) (hc : ¬ 255 < c1) :
    MetFree l (⟨"java/lang/StringLatin1", "canEncode", "(C)Z"⟩ : MethodName) (head1 (Jvm.Cond.code (⟨"java/lang/StringLatin1", "canEncode", "(C)Z"⟩ : MethodName) jdk_43_method_3_code 1 (some .boolean) :: ws) ({ frames := 0, cells := 0, slots := 0, locals := 0 } : Room)) (fun a U => a = #[(.int c1)] ∧ Z.Warmed39 U.vm ∧ U.heap = h0) (fun _ _ _ _ _ => True) (fun _ U o U' => ∃ v L, o = .returned v ∧ own_can_Q Z c1 h0 n0 v U'.heap L ∧ FrameEnd U o U' L ({ frames := 0, cells := 0, slots := 0, locals := 0 } : Room).cells ({ frames := 0, cells := 0, slots := 0, locals := 0 } : Room).slots) := by
  refine MetFree.of_bodySF own_can_pn hisR ?_
  intro p e s m args below meth c s₁ Bd hml0 hP hK
  obtain ⟨rfl, hZ, hh⟩ := hP
  have hx := Bd.exec
  have hby := Bd.bytes
  have hlk := Bd.notSynchronized
  have hml : c.maxLocals = 1 := hml0
  have hown : s.vm.findClass "java/lang/StringLatin1" = some m.cls := findClass_of_methodNamed Bd.named
  have hnm := (name_of_methodNamed Bd.named Bd.method).1
  have X : Stand p l e ({ frames := 0, cells := 0, slots := 0, locals := 0 } : Room) s m #[(.int c1)] below meth c s₁ [] 0 0 := Stand.of_body Bd
  have eT : s₁.heap = h0 := by rw [← hh, Bd.state]; rfl
  have N := Fr.nil n0
  have K0 := Keep.refl h0 []
  show own_Ends p e below (own_Post s below (own_can_Q Z c1 h0 n0) ({ frames := 0, cells := 0, slots := 0, locals := 0 } : Room).cells ({ frames := 0, cells := 0, slots := 0, locals := 0 } : Room).slots) s₁ (entryFrame m #[(.int c1)] 1)
  rw [own_can_ef m c1]
  obtain ⟨T, hT⟩ : ∃ z, z = s₁ := ⟨_, rfl⟩
  rw [← hT] at X eT ⊢
  obtain ⟨h, hh0⟩ : ∃ z, z = h0 := ⟨_, rfl⟩
  rw [← hh0] at eT
  replace O : Old Z n0 h := by rw [hh0]; exact O
  replace K0 : Keep h0 h [] := by rw [hh0]; exact K0
  refine own_via (g' := (mkF m 12 #[.val (.int c1)] [(.int 1)])) (fun t_ k_ => XS.iloadN X.here hx rfl (hb hby ej43m3_d0) rfl (XS.sipush X.here hx rfl (hb hby ej43m3_d1) (XS.icmpNo X.here hx rfl (hb hby ej43m3_d4) rfl (flt hc).2.2.1 (XS.iconst X.here hx rfl (hb hby ej43m3_d7) (XS.goto X.here hx rfl (pc0 := 8) (pc' := 12) rfl (hb hby ej43m3_d8) (by decide) (by decide) k_))))) ?_
  refine own_retN X hx hlk (t := .boolean) Bd.returns (by simp) (hb hby ej43m3_d12) (by decide) (by decide) ?_
  rw [eT]
  exact ⟨rfl, N, hh0⟩
theorem ej48m27_d0 : decode jdk_48_method_27_code 0 = .ok (.iload_n 0, 1) := by decide +kernel
theorem ej48m27_d1 : decode jdk_48_method_27_code 1 = .ok (.iload_n 1, 1) := by decide +kernel
theorem ej48m27_d2 : decode jdk_48_method_27_code 2 = .ok (.iload_n 2, 1) := by decide +kernel
theorem ej48m27_d3 : decode jdk_48_method_27_code 3 = .ok (.invokestatic 194, 3) := by decide +kernel
theorem ej48m27_d6 : decode jdk_48_method_27_code 6 = .ok (.iadd, 1) := by decide +kernel
theorem ej48m27_d7 : decode jdk_48_method_27_code 7 = .ok (.istore_n 3, 1) := by decide +kernel
theorem ej48m27_d8 : decode jdk_48_method_27_code 8 = .ok (.iconst 0, 1) := by decide +kernel
theorem ej48m27_d9 : decode jdk_48_method_27_code 9 = .ok (.iload_n 3, 1) := by decide +kernel
theorem ej48m27_d10 : decode jdk_48_method_27_code 10 = .ok (.if_icmp .ge 11, 3) := by decide +kernel
theorem ej48m27_d13 : decode jdk_48_method_27_code 13 = .ok (.iload_n 3, 1) := by decide +kernel
theorem ej48m27_d14 : decode jdk_48_method_27_code 14 = .ok (.ldc 200, 2) := by decide +kernel
theorem ej48m27_d16 : decode jdk_48_method_27_code 16 = .ok (.if_icmp .gt 5, 3) := by decide +kernel
theorem ej48m27_d19 : decode jdk_48_method_27_code 19 = .ok (.iload_n 3, 1) := by decide +kernel
theorem ej48m27_d20 : decode jdk_48_method_27_code 20 = .ok (.ireturn, 1) := by decide +kernel
theorem own_newLen_pn : plainFor (⟨"jdk/internal/util/ArraysSupport", "newLength", "(III)I"⟩ : MethodName) = true := by first | exact plainFor_of_name (by first | (simp [plainName, overriddenIn]; done) | decide +kernel) | decide +kernel | exact Jvm.Free.JP.mathPlain rfl (by decide +kernel)
theorem own_newLen_ef (m : MethodId) (x0 : Int32) (x1 : Int32) (x2 : Int32) : entryFrame m #[(.int x0), (.int x1), (.int x2)] 4 = mkF m 0 #[.val (.int x0), .val (.int x1), .val (.int x2), .unset] [] := by first | (simp [entryFrame, mkF, argsToLocals, Value.category]; done) | rfl
def own_newLen_Q (Z : State) (z : Int32) (h0 : Heap) (n0 : Nat) (v : Option Value) (h : Heap) (L : List Loc) : Prop := v = some (.int (z + (z + (2 : Int32)))) ∧ Fr n0 L ∧ h = h0
set_option maxRecDepth 65536 in
set_option maxHeartbeats 40000000 in
theorem own_newLen (l : Launch) (Z : State) (a0 : Array Value) (hw : ∀ d ∈ tables_1, d.before a0 Z = true) (ws : List Jvm.Cond) (z : Int32) (h0 : Heap) (n0 : Nat) (O : Old Z n0 h0) (hz : z ∈ own_D1) :
    MetFree l (⟨"jdk/internal/util/ArraysSupport", "newLength", "(III)I"⟩ : MethodName) (head1 (Jvm.Cond.code (⟨"jdk/internal/util/ArraysSupport", "newLength", "(III)I"⟩ : MethodName) jdk_48_method_27_code 4 (some .int) :: ws) ({ frames := 1, cells := 0, slots := 0, locals := 14 } : Room)) (fun a U => a = #[(.int z), (.int 1), (.int (z + (2 : Int32)))] ∧ Z.Warmed39 U.vm ∧ U.heap = h0) (fun _ _ _ _ _ => True) (fun _ U o U' => ∃ v L, o = .returned v ∧ own_newLen_Q Z z h0 n0 v U'.heap L ∧ FrameEnd U o U' L ({ frames := 1, cells := 0, slots := 0, locals := 14 } : Room).cells ({ frames := 1, cells := 0, slots := 0, locals := 14 } : Room).slots) := by
  refine MetFree.of_bodySF own_newLen_pn hisR ?_
  intro p e s m args below meth c s₁ Bd hml0 hP hK
  obtain ⟨rfl, hZ, hh⟩ := hP
  have hx := Bd.exec
  have hby := Bd.bytes
  have hlk := Bd.notSynchronized
  have hml : c.maxLocals = 4 := hml0
  have hown : s.vm.findClass "jdk/internal/util/ArraysSupport" = some m.cls := findClass_of_methodNamed Bd.named
  have hnm := (name_of_methodNamed Bd.named Bd.method).1
  have X : Stand p l e ({ frames := 1, cells := 0, slots := 0, locals := 14 } : Room) s m #[(.int z), (.int 1), (.int (z + (2 : Int32)))] below meth c s₁ [] 0 0 := Stand.of_body Bd
  have eT : s₁.heap = h0 := by rw [← hh, Bd.state]; rfl
  have N := Fr.nil n0
  have K0 := Keep.refl h0 []
  show own_Ends p e below (own_Post s below (own_newLen_Q Z z h0 n0) ({ frames := 1, cells := 0, slots := 0, locals := 14 } : Room).cells ({ frames := 1, cells := 0, slots := 0, locals := 14 } : Room).slots) s₁ (entryFrame m #[(.int z), (.int 1), (.int (z + (2 : Int32)))] 4)
  rw [own_newLen_ef m z (1 : Int32) (z + (2 : Int32))]
  obtain ⟨T, hT⟩ : ∃ z, z = s₁ := ⟨_, rfl⟩
  rw [← hT] at X eT ⊢
  obtain ⟨h, hh0⟩ : ∃ z, z = h0 := ⟨_, rfl⟩
  rw [← hh0] at eT
  replace O : Old Z n0 h := by rw [hh0]; exact O
  replace K0 : Keep h0 h [] := by rw [hh0]; exact K0
  refine own_via (g' := (mkF m 3 (own_L21 z 1 (z + (2 : Int32))) [(.int (z + (2 : Int32))), (.int 1), (.int z)])) (fun t_ k_ => XS.iloadN X.here hx rfl (hb hby ej48m27_d0) rfl (XS.iloadN X.here hx rfl (hb hby ej48m27_d1) rfl (XS.iloadN X.here hx rfl (hb hby ej48m27_d2) rfl k_))) ?_
  obtain ⟨_, _, ⟨T, Lq, kq, nq⟩, -, X, ⟨Lc, hQ, lq, yq, zq⟩, st⟩ := Jvm.LawKit.callS X hx (y := own_y0) hown (mvT hZ (hw _ (own_w 61 rfl))) (mvT hZ (hw _ (own_w 62 rfl))) (mvT hZ (hw _ (own_w 63 rfl))) (mvT hZ (hw _ (own_w 64 rfl))) (by decide) (backOf (W := 1) (own_max l Z a0 hw [] (1 : Int32) (z + (2 : Int32)) (z + (2 : Int32)) h n0 O (own_dom1 (P := fun z => ((1 : Int32) < (z + (2 : Int32)) → (z + (2 : Int32)) = (z + (2 : Int32))) ∧ (¬ (1 : Int32) < (z + (2 : Int32)) → (z + (2 : Int32)) = (1 : Int32))) (by decide) hz)) hZ (hw _ (own_w 64 rfl)) (hw _ (own_w 63 rfl)) (by decide) (by decide)) (g := (mkF m 3 (own_L21 z 1 (z + (2 : Int32))) [(.int (z + (2 : Int32))), (.int 1), (.int z)])) rfl (by rw [hml]; rfl) (argsL := [(.int 1), (.int (z + (2 : Int32)))]) (rest := [(.int z)]) (lenOf own_pd0 rfl) rfl (by show 2 * 0 + _ ≤ _; exact Nat.le_of_eq rfl) (hb hby ej48m27_d3) (fun _ _ => ⟨rfl, eT, (by decide : 0 + 0 ≤ _), (by decide : 0 + 0 ≤ _)⟩)
  dsimp only [Pt.U, Pt.locs, Pt.cells, Pt.slots] at X lq yq zq st hQ
  subst lq yq zq
  obtain ⟨rfl, Nq, eT⟩ := hQ
  replace N := Fr.app N Nq
  refine own_via (g' := (mkF m 6 (own_L21 z 1 (z + (2 : Int32))) [(.int (z + (2 : Int32))), (.int z)])) st ?_
  refine own_via (g' := (mkF m 20 (own_L13 z 1 (z + (2 : Int32)) (z + (z + (2 : Int32)))) [(.int (z + (z + (2 : Int32))))])) (fun t_ k_ => XS.iadd X.here hx rfl (hb hby ej48m27_d6) rfl (XS.istoreN X.here hx rfl (hb hby ej48m27_d7) rfl (l' := (own_L13 z 1 (z + (2 : Int32)) (z + (z + (2 : Int32))))) rfl (XS.iconst X.here hx rfl (hb hby ej48m27_d8) (XS.iloadN X.here hx rfl (hb hby ej48m27_d9) rfl (XS.icmpNo X.here hx rfl (hb hby ej48m27_d10) rfl (tlt (own_dom1 (P := fun z => (0 : Int32) < (z + (z + (2 : Int32)))) (by decide) hz)).2.1 (XS.iloadN X.here hx rfl (hb hby ej48m27_d13) rfl (X.ldcInt hx hown (mvT hZ (hw _ (own_w 65 rfl))) (g := (mkF m 14 (own_L13 z 1 (z + (2 : Int32)) (z + (z + (2 : Int32)))) [(.int (z + (z + (2 : Int32))))])) rfl (hb hby ej48m27_d14) _ (XS.icmpNo X.here hx rfl (hb hby ej48m27_d16) rfl (flt (own_dom1 (P := fun z => ¬ ((2147483639 : Int32) < (z + (z + (2 : Int32))))) (by decide) hz)).2.2.1 (XS.iloadN X.here hx rfl (hb hby ej48m27_d19) rfl k_))))))))) ?_
  refine own_retW X hx hlk Bd.returns rfl (Or.inl ⟨rfl, Or.inl rfl, _, rfl⟩) (hb hby ej48m27_d20) (by decide) (by decide) ?_
  rw [eT]
  exact ⟨rfl, N, hh0⟩
theorem ej68m10_d0 : decode jdk_68_method_10_code 0 = .ok (.aload_n 0, 1) := by decide +kernel
theorem ej68m10_d1 : decode jdk_68_method_10_code 1 = .ok (.getfield 15, 3) := by decide +kernel
theorem ej68m10_d4 : decode jdk_68_method_10_code 4 = .ok (.arraylength, 1) := by decide +kernel
theorem ej68m10_d5 : decode jdk_68_method_10_code 5 = .ok (.istore_n 2, 1) := by decide +kernel
theorem ej68m10_d6 : decode jdk_68_method_10_code 6 = .ok (.iload_n 1, 1) := by decide +kernel
theorem ej68m10_d7 : decode jdk_68_method_10_code 7 = .ok (.aload_n 0, 1) := by decide +kernel
theorem ej68m10_d8 : decode jdk_68_method_10_code 8 = .ok (.getfield 22, 3) := by decide +kernel
theorem ej68m10_d11 : decode jdk_68_method_10_code 11 = .ok (.ishl, 1) := by decide +kernel
theorem ej68m10_d12 : decode jdk_68_method_10_code 12 = .ok (.istore_n 3, 1) := by decide +kernel
theorem ej68m10_d13 : decode jdk_68_method_10_code 13 = .ok (.iload_n 3, 1) := by decide +kernel
theorem ej68m10_d14 : decode jdk_68_method_10_code 14 = .ok (.iload_n 2, 1) := by decide +kernel
theorem ej68m10_d15 : decode jdk_68_method_10_code 15 = .ok (.isub, 1) := by decide +kernel
theorem ej68m10_d16 : decode jdk_68_method_10_code 16 = .ok (.istore 4, 2) := by decide +kernel
theorem ej68m10_d18 : decode jdk_68_method_10_code 18 = .ok (.iload_n 2, 1) := by decide +kernel
theorem ej68m10_d19 : decode jdk_68_method_10_code 19 = .ok (.iload 4, 2) := by decide +kernel
theorem ej68m10_d21 : decode jdk_68_method_10_code 21 = .ok (.iload_n 2, 1) := by decide +kernel
theorem ej68m10_d22 : decode jdk_68_method_10_code 22 = .ok (.iconst 2, 1) := by decide +kernel
theorem ej68m10_d23 : decode jdk_68_method_10_code 23 = .ok (.aload_n 0, 1) := by decide +kernel
theorem ej68m10_d24 : decode jdk_68_method_10_code 24 = .ok (.getfield 22, 3) := by decide +kernel
theorem ej68m10_d27 : decode jdk_68_method_10_code 27 = .ok (.ishl, 1) := by decide +kernel
theorem ej68m10_d28 : decode jdk_68_method_10_code 28 = .ok (.iadd, 1) := by decide +kernel
theorem ej68m10_d29 : decode jdk_68_method_10_code 29 = .ok (.invokestatic 114, 3) := by decide +kernel
theorem ej68m10_d32 : decode jdk_68_method_10_code 32 = .ok (.istore 5, 2) := by decide +kernel
theorem ej68m10_d34 : decode jdk_68_method_10_code 34 = .ok (.iload 5, 2) := by decide +kernel
theorem ej68m10_d36 : decode jdk_68_method_10_code 36 = .ok (.ldc 39, 2) := by decide +kernel
theorem ej68m10_d38 : decode jdk_68_method_10_code 38 = .ok (.if_icmp .ne 13, 3) := by decide +kernel
theorem ej68m10_d51 : decode jdk_68_method_10_code 51 = .ok (.iload 5, 2) := by decide +kernel
theorem ej68m10_d53 : decode jdk_68_method_10_code 53 = .ok (.aload_n 0, 1) := by decide +kernel
theorem ej68m10_d54 : decode jdk_68_method_10_code 54 = .ok (.getfield 22, 3) := by decide +kernel
theorem ej68m10_d57 : decode jdk_68_method_10_code 57 = .ok (.ishr, 1) := by decide +kernel
theorem ej68m10_d58 : decode jdk_68_method_10_code 58 = .ok (.ireturn, 1) := by decide +kernel
theorem own_newCap_pn : plainFor (⟨"java/lang/AbstractStringBuilder", "newCapacity", "(I)I"⟩ : MethodName) = true := by first | exact plainFor_of_name (by first | (simp [plainName, overriddenIn]; done) | decide +kernel) | decide +kernel | exact Jvm.Free.JP.mathPlain rfl (by decide +kernel)
theorem own_newCap_ef (m : MethodId) (x0 : Addr) (x1 : Int32) : entryFrame m #[(.ref x0), (.int x1)] 6 = mkF m 0 #[.val (.ref x0), .val (.int x1), .unset, .unset, .unset, .unset] [] := by first | (simp [entryFrame, mkF, argsToLocals, Value.category]; done) | rfl
def own_newCap_Q (Z : State) (a1 : Addr) (va : Addr) (kv : ClassId) (z : Int32) (cs : List Value) (h0 : Heap) (n0 : Nat) (v : Option Value) (h : Heap) (L : List Loc) : Prop := v = some (.int (z + (z + (2 : Int32)))) ∧ Fr n0 L ∧ h = h0
set_option maxRecDepth 65536 in
set_option maxHeartbeats 40000000 in
theorem own_newCap (l : Launch) (Z : State) (a0 : Array Value) (hw : ∀ d ∈ tables_1, d.before a0 Z = true) (ws : List Jvm.Cond) (a1 : Addr) (va : Addr) (kv : ClassId) (z : Int32) (cs : List Value) (h0 : Heap) (n0 : Nat) (O : Old Z n0 h0) (F_value_a1 : Fld Z h0 a1 "java/lang/AbstractStringBuilder" "value" "[B" (.ref va)) (F_coder_a1 : Fld Z h0 a1 "java/lang/AbstractStringBuilder" "coder" "B" (.int 0)) (V_va : Arv Z h0 va kv .byte z cs (.int 0)) (hz : z ∈ own_D1) :
    MetFree l (⟨"java/lang/AbstractStringBuilder", "newCapacity", "(I)I"⟩ : MethodName) (head1 (Jvm.Cond.code (⟨"java/lang/AbstractStringBuilder", "newCapacity", "(I)I"⟩ : MethodName) jdk_68_method_10_code 6 (some .int) :: ws) ({ frames := 2, cells := 0, slots := 0, locals := 29 } : Room)) (fun a U => a = #[(.ref a1), (.int (z + (1 : Int32)))] ∧ Z.Warmed39 U.vm ∧ U.heap = h0) (fun _ _ _ _ _ => True) (fun _ U o U' => ∃ v L, o = .returned v ∧ own_newCap_Q Z a1 va kv z cs h0 n0 v U'.heap L ∧ FrameEnd U o U' L ({ frames := 2, cells := 0, slots := 0, locals := 29 } : Room).cells ({ frames := 2, cells := 0, slots := 0, locals := 29 } : Room).slots) := by
  refine MetFree.of_bodySF own_newCap_pn hisR ?_
  intro p e s m args below meth c s₁ Bd hml0 hP hK
  obtain ⟨rfl, hZ, hh⟩ := hP
  have hx := Bd.exec
  have hby := Bd.bytes
  have hlk := Bd.notSynchronized
  have hml : c.maxLocals = 6 := hml0
  have hown : s.vm.findClass "java/lang/AbstractStringBuilder" = some m.cls := findClass_of_methodNamed Bd.named
  have hnm := (name_of_methodNamed Bd.named Bd.method).1
  have X : Stand p l e ({ frames := 2, cells := 0, slots := 0, locals := 29 } : Room) s m #[(.ref a1), (.int (z + (1 : Int32)))] below meth c s₁ [] 0 0 := Stand.of_body Bd
  have eT : s₁.heap = h0 := by rw [← hh, Bd.state]; rfl
  have N := Fr.nil n0
  have K0 := Keep.refl h0 []
  show own_Ends p e below (own_Post s below (own_newCap_Q Z a1 va kv z cs h0 n0) ({ frames := 2, cells := 0, slots := 0, locals := 29 } : Room).cells ({ frames := 2, cells := 0, slots := 0, locals := 29 } : Room).slots) s₁ (entryFrame m #[(.ref a1), (.int (z + (1 : Int32)))] 6)
  rw [own_newCap_ef m a1 (z + (1 : Int32))]
  obtain ⟨T, hT⟩ : ∃ z, z = s₁ := ⟨_, rfl⟩
  rw [← hT] at X eT ⊢
  obtain ⟨h, hh0⟩ : ∃ z, z = h0 := ⟨_, rfl⟩
  rw [← hh0] at eT
  replace O : Old Z n0 h := by rw [hh0]; exact O
  replace K0 : Keep h0 h [] := by rw [hh0]; exact K0
  rw [← hh0] at F_value_a1
  rw [← hh0] at F_coder_a1
  rw [← hh0] at V_va
  refine own_via (g' := (mkF m 1 (own_L17 a1 (z + (1 : Int32))) [(.ref a1)])) (fun t_ k_ => XS.aloadN X.here hx rfl (hb hby ej68m10_d0) rfl rfl k_) ?_
  obtain ⟨T, X, eT, st⟩ := getF X hx hZ hown (host := "") (Or.inl (hw _ (own_w 22 rfl))) Via.refl eT F_value_a1 (g := (mkF m 1 (own_L17 a1 (z + (1 : Int32))) [(.ref a1)])) rfl rfl (hb hby ej68m10_d1)
  refine own_via (g' := (mkF m 4 (own_L17 a1 (z + (1 : Int32))) [(.ref va)])) st ?_
  obtain ⟨cl_, Ar_, -, Sz_, Nn_, -, -⟩ := id V_va
  refine own_via (g' := (mkF m 5 (own_L17 a1 (z + (1 : Int32))) [(.int z)])) (fun t_ k_ => X.arraylength hx (by rw [eT]; exact Ar_.1) (State.isArrayOf_alike hZ.alike Ar_.2.1) (g := (mkF m 4 (own_L17 a1 (z + (1 : Int32))) [(.ref va)])) rfl rfl (hb hby ej68m10_d4) _ (by rw [len_of Sz_ Nn_]; exact k_)) ?_
  refine own_via (g' := (mkF m 8 (own_L15 a1 (z + (1 : Int32)) z) [(.ref a1), (.int (z + (1 : Int32)))])) (fun t_ k_ => XS.istoreN X.here hx rfl (hb hby ej68m10_d5) rfl (l' := (own_L15 a1 (z + (1 : Int32)) z)) rfl (XS.iloadN X.here hx rfl (hb hby ej68m10_d6) rfl (XS.aloadN X.here hx rfl (hb hby ej68m10_d7) rfl rfl k_))) ?_
  obtain ⟨T, X, eT, st⟩ := getF X hx hZ hown (host := "") (Or.inl (hw _ (own_w 24 rfl))) Via.refl eT F_coder_a1 (g := (mkF m 8 (own_L15 a1 (z + (1 : Int32)) z) [(.ref a1), (.int (z + (1 : Int32)))])) rfl rfl (hb hby ej68m10_d8)
  refine own_via (g' := (mkF m 11 (own_L15 a1 (z + (1 : Int32)) z) [(.int 0), (.int (z + (1 : Int32)))])) st ?_
  refine own_via (g' := (mkF m 12 (own_L15 a1 (z + (1 : Int32)) z) [(.int ((z + (1 : Int32)) <<< ((0 : Int32) &&& 31)))])) (fun t_ k_ => XS.ishl X.here hx rfl (hb hby ej68m10_d11) rfl k_) ?_
  rw [own_shl0]
  refine own_via (g' := (mkF m 16 (own_L11 a1 (z + (1 : Int32)) z (z + (1 : Int32))) [(.int ((z + (1 : Int32)) - z))])) (fun t_ k_ => XS.istoreN X.here hx rfl (hb hby ej68m10_d12) rfl (l' := (own_L11 a1 (z + (1 : Int32)) z (z + (1 : Int32)))) rfl (XS.iloadN X.here hx rfl (hb hby ej68m10_d13) rfl (XS.iloadN X.here hx rfl (hb hby ej68m10_d14) rfl (XS.isub X.here hx rfl (hb hby ej68m10_d15) rfl k_)))) ?_
  rw [(show ((z + (1 : Int32)) - z) = (1 : Int32) from (own_dom1 (P := fun z => ((z + (1 : Int32)) - z) = (1 : Int32)) (by decide) hz))]
  refine own_via (g' := (mkF m 24 (own_L10 a1 (z + (1 : Int32)) z (z + (1 : Int32)) 1) [(.ref a1), (.int 2), (.int z), (.int 1), (.int z)])) (fun t_ k_ => XS.istore X.here hx rfl (hb hby ej68m10_d16) rfl (l' := (own_L10 a1 (z + (1 : Int32)) z (z + (1 : Int32)) 1)) rfl (XS.iloadN X.here hx rfl (hb hby ej68m10_d18) rfl (XS.iload X.here hx rfl (hb hby ej68m10_d19) rfl (XS.iloadN X.here hx rfl (hb hby ej68m10_d21) rfl (XS.iconst X.here hx rfl (hb hby ej68m10_d22) (XS.aloadN X.here hx rfl (hb hby ej68m10_d23) rfl rfl k_)))))) ?_
  obtain ⟨T, X, eT, st⟩ := getF X hx hZ hown (host := "") (Or.inl (hw _ (own_w 24 rfl))) Via.refl eT F_coder_a1 (g := (mkF m 24 (own_L10 a1 (z + (1 : Int32)) z (z + (1 : Int32)) 1) [(.ref a1), (.int 2), (.int z), (.int 1), (.int z)])) rfl rfl (hb hby ej68m10_d24)
  refine own_via (g' := (mkF m 27 (own_L10 a1 (z + (1 : Int32)) z (z + (1 : Int32)) 1) [(.int 0), (.int 2), (.int z), (.int 1), (.int z)])) st ?_
  refine own_via (g' := (mkF m 28 (own_L10 a1 (z + (1 : Int32)) z (z + (1 : Int32)) 1) [(.int ((2 : Int32) <<< ((0 : Int32) &&& 31))), (.int z), (.int 1), (.int z)])) (fun t_ k_ => XS.ishl X.here hx rfl (hb hby ej68m10_d27) rfl k_) ?_
  rw [(by decide : ((2 : Int32) <<< ((0 : Int32) &&& 31)) = (2 : Int32))]
  refine own_via (g' := (mkF m 29 (own_L10 a1 (z + (1 : Int32)) z (z + (1 : Int32)) 1) [(.int (z + (2 : Int32))), (.int 1), (.int z)])) (fun t_ k_ => XS.iadd X.here hx rfl (hb hby ej68m10_d28) rfl k_) ?_
  obtain ⟨_, _, ⟨T, Lq, kq, nq⟩, -, X, ⟨Lc, hQ, lq, yq, zq⟩, st⟩ := Jvm.LawKit.callS X hx (y := own_y1) hown (mvT hZ (hw _ (own_w 57 rfl))) (mvT hZ (hw _ (own_w 58 rfl))) (mvT hZ (hw _ (own_w 59 rfl))) (mvT hZ (hw _ (own_w 60 rfl))) (by decide) (backOf (W := 0) (own_newLen l Z a0 hw [] z h n0 O hz) hZ (hw _ (own_w 60 rfl)) (hw _ (own_w 59 rfl)) (by decide) (by decide)) (g := (mkF m 29 (own_L10 a1 (z + (1 : Int32)) z (z + (1 : Int32)) 1) [(.int (z + (2 : Int32))), (.int 1), (.int z)])) rfl (by rw [hml]; rfl) (argsL := [(.int z), (.int 1), (.int (z + (2 : Int32)))]) (rest := []) (lenOf own_pd1 rfl) rfl (by show 2 * 0 + _ ≤ _; exact Nat.le_of_eq rfl) (hb hby ej68m10_d29) (fun _ _ => ⟨rfl, eT, (by decide : 0 + 0 ≤ _), (by decide : 0 + 0 ≤ _)⟩)
  dsimp only [Pt.U, Pt.locs, Pt.cells, Pt.slots] at X lq yq zq st hQ
  subst lq yq zq
  obtain ⟨rfl, Nq, eT⟩ := hQ
  replace N := Fr.app N Nq
  refine own_via (g' := (mkF m 32 (own_L10 a1 (z + (1 : Int32)) z (z + (1 : Int32)) 1) [(.int (z + (z + (2 : Int32))))])) st ?_
  refine own_via (g' := (mkF m 54 (own_L8 a1 (z + (1 : Int32)) z (z + (1 : Int32)) 1 (z + (z + (2 : Int32)))) [(.ref a1), (.int (z + (z + (2 : Int32))))])) (fun t_ k_ => XS.istore X.here hx rfl (hb hby ej68m10_d32) rfl (l' := (own_L8 a1 (z + (1 : Int32)) z (z + (1 : Int32)) 1 (z + (z + (2 : Int32))))) rfl (XS.iload X.here hx rfl (hb hby ej68m10_d34) rfl (X.ldcInt hx hown (mvT hZ (hw _ (own_w 66 rfl))) (g := (mkF m 36 (own_L8 a1 (z + (1 : Int32)) z (z + (1 : Int32)) 1 (z + (z + (2 : Int32)))) [(.int (z + (z + (2 : Int32))))])) rfl (hb hby ej68m10_d36) _ (XS.icmpYes X.here hx rfl (pc0 := 38) (pc' := 51) rfl (hb hby ej68m10_d38) rfl (feq (own_dom1 (P := fun z => ¬ ((z + (z + (2 : Int32))) = (2147483647 : Int32))) (by decide) hz)).2 (by decide) (by decide) (XS.iload X.here hx rfl (hb hby ej68m10_d51) rfl (XS.aloadN X.here hx rfl (hb hby ej68m10_d53) rfl rfl k_)))))) ?_
  obtain ⟨T, X, eT, st⟩ := getF X hx hZ hown (host := "") (Or.inl (hw _ (own_w 24 rfl))) Via.refl eT F_coder_a1 (g := (mkF m 54 (own_L8 a1 (z + (1 : Int32)) z (z + (1 : Int32)) 1 (z + (z + (2 : Int32)))) [(.ref a1), (.int (z + (z + (2 : Int32))))])) rfl rfl (hb hby ej68m10_d54)
  refine own_via (g' := (mkF m 57 (own_L8 a1 (z + (1 : Int32)) z (z + (1 : Int32)) 1 (z + (z + (2 : Int32)))) [(.int 0), (.int (z + (z + (2 : Int32))))])) st ?_
  refine own_via (g' := (mkF m 58 (own_L8 a1 (z + (1 : Int32)) z (z + (1 : Int32)) 1 (z + (z + (2 : Int32)))) [(.int ((z + (z + (2 : Int32))) >>> ((0 : Int32) &&& 31)))])) (fun t_ k_ => XS.ishr X.here hx rfl (hb hby ej68m10_d57) rfl k_) ?_
  rw [own_shr0]
  refine own_retW X hx hlk Bd.returns rfl (Or.inl ⟨rfl, Or.inl rfl, _, rfl⟩) (hb hby ej68m10_d58) (by decide) (by decide) ?_
  rw [eT]
  exact ⟨rfl, N, hh0⟩
theorem ej65m121_d0 : decode jdk_65_method_121_code 0 = .ok (.iload_n 1, 1) := by decide +kernel
theorem ej65m121_d1 : decode jdk_65_method_121_code 1 = .ok (.aload_n 0, 1) := by decide +kernel
theorem ej65m121_d2 : decode jdk_65_method_121_code 2 = .ok (.arraylength, 1) := by decide +kernel
theorem ej65m121_d3 : decode jdk_65_method_121_code 3 = .ok (.if_icmp .ne 11, 3) := by decide +kernel
theorem ej65m121_d14 : decode jdk_65_method_121_code 14 = .ok (.iload_n 1, 1) := by decide +kernel
theorem ej65m121_d15 : decode jdk_65_method_121_code 15 = .ok (.newarray .byte, 2) := by decide +kernel
theorem ej65m121_d17 : decode jdk_65_method_121_code 17 = .ok (.astore_n 2, 1) := by decide +kernel
theorem ej65m121_d18 : decode jdk_65_method_121_code 18 = .ok (.aload_n 0, 1) := by decide +kernel
theorem ej65m121_d19 : decode jdk_65_method_121_code 19 = .ok (.iconst 0, 1) := by decide +kernel
theorem ej65m121_d20 : decode jdk_65_method_121_code 20 = .ok (.aload_n 2, 1) := by decide +kernel
theorem ej65m121_d21 : decode jdk_65_method_121_code 21 = .ok (.iconst 0, 1) := by decide +kernel
theorem ej65m121_d22 : decode jdk_65_method_121_code 22 = .ok (.aload_n 0, 1) := by decide +kernel
theorem ej65m121_d23 : decode jdk_65_method_121_code 23 = .ok (.arraylength, 1) := by decide +kernel
theorem ej65m121_d24 : decode jdk_65_method_121_code 24 = .ok (.iload_n 1, 1) := by decide +kernel
theorem ej65m121_d25 : decode jdk_65_method_121_code 25 = .ok (.invokestatic 304, 3) := by decide +kernel
theorem ej65m121_d28 : decode jdk_65_method_121_code 28 = .ok (.invokestatic 150, 3) := by decide +kernel
theorem ej65m121_d31 : decode jdk_65_method_121_code 31 = .ok (.aload_n 2, 1) := by decide +kernel
theorem ej65m121_d32 : decode jdk_65_method_121_code 32 = .ok (.areturn, 1) := by decide +kernel
theorem own_copyOf_pn : plainFor (⟨"java/util/Arrays", "copyOf", "([BI)[B"⟩ : MethodName) = true := by first | exact plainFor_of_name (by first | (simp [plainName, overriddenIn]; done) | decide +kernel) | decide +kernel | exact Jvm.Free.JP.mathPlain rfl (by decide +kernel)
theorem own_copyOf_ef (m : MethodId) (x0 : Addr) (x1 : Int32) : entryFrame m #[(.ref x0), (.int x1)] 3 = mkF m 0 #[.val (.ref x0), .val (.int x1), .unset] [] := by first | (simp [entryFrame, mkF, argsToLocals, Value.category]; done) | rfl
def own_copyOf_Q (Z : State) (va : Addr) (kv : ClassId) (z : Int32) (cs : List Value) (h0 : Heap) (n0 : Nat) (v : Option Value) (h : Heap) (L : List Loc) : Prop := ∃ b kb, v = some (.ref b) ∧ Fr n0 L ∧ Keep h0 h [] ∧ h0.size ≤ b ∧ Arv Z h b kb .byte (z + (z + (2 : Int32))) cs (.int 0) ∧ Exa Z h b "[B"
set_option maxRecDepth 65536 in
set_option maxHeartbeats 40000000 in
theorem own_copyOf (l : Launch) (Z : State) (a0 : Array Value) (hw : ∀ d ∈ tables_1, d.before a0 Z = true) (ws : List Jvm.Cond) (va : Addr) (kv : ClassId) (z : Int32) (cs : List Value) (h0 : Heap) (n0 : Nat) (O : Old Z n0 h0) (V_va : Arv Z h0 va kv .byte z cs (.int 0)) (hz : z ∈ own_D1) (hl : cs.length = z.toNatClampNeg) :
    MetFree l (⟨"java/util/Arrays", "copyOf", "([BI)[B"⟩ : MethodName) (head1 (Jvm.Cond.code (⟨"java/util/Arrays", "copyOf", "([BI)[B"⟩ : MethodName) jdk_65_method_121_code 3 (some (.array .byte)) :: ws) ({ frames := 1, cells := 1, slots := 18, locals := 18 } : Room)) (fun a U => a = #[(.ref va), (.int (z + (z + (2 : Int32))))] ∧ Z.Warmed39 U.vm ∧ U.heap = h0) (fun _ _ _ _ _ => True) (fun _ U o U' => ∃ v L, o = .returned v ∧ own_copyOf_Q Z va kv z cs h0 n0 v U'.heap L ∧ FrameEnd U o U' L ({ frames := 1, cells := 1, slots := 18, locals := 18 } : Room).cells ({ frames := 1, cells := 1, slots := 18, locals := 18 } : Room).slots) := by
  refine MetFree.of_bodySF own_copyOf_pn hisR ?_
  intro p e s m args below meth c s₁ Bd hml0 hP hK
  obtain ⟨rfl, hZ, hh⟩ := hP
  have hx := Bd.exec
  have hby := Bd.bytes
  have hlk := Bd.notSynchronized
  have hml : c.maxLocals = 3 := hml0
  have hown : s.vm.findClass "java/util/Arrays" = some m.cls := findClass_of_methodNamed Bd.named
  have hnm := (name_of_methodNamed Bd.named Bd.method).1
  have X : Stand p l e ({ frames := 1, cells := 1, slots := 18, locals := 18 } : Room) s m #[(.ref va), (.int (z + (z + (2 : Int32))))] below meth c s₁ [] 0 0 := Stand.of_body Bd
  have eT : s₁.heap = h0 := by rw [← hh, Bd.state]; rfl
  have N := Fr.nil n0
  have K0 := Keep.refl h0 []
  show own_Ends p e below (own_Post s below (own_copyOf_Q Z va kv z cs h0 n0) ({ frames := 1, cells := 1, slots := 18, locals := 18 } : Room).cells ({ frames := 1, cells := 1, slots := 18, locals := 18 } : Room).slots) s₁ (entryFrame m #[(.ref va), (.int (z + (z + (2 : Int32))))] 3)
  rw [own_copyOf_ef m va (z + (z + (2 : Int32)))]
  obtain ⟨T, hT⟩ : ∃ z, z = s₁ := ⟨_, rfl⟩
  rw [← hT] at X eT ⊢
  obtain ⟨h, hh0⟩ : ∃ z, z = h0 := ⟨_, rfl⟩
  rw [← hh0] at eT
  replace O : Old Z n0 h := by rw [hh0]; exact O
  replace K0 : Keep h0 h [] := by rw [hh0]; exact K0
  rw [← hh0] at V_va
  refine own_via (g' := (mkF m 2 (own_L28 va (z + (z + (2 : Int32)))) [(.ref va), (.int (z + (z + (2 : Int32))))])) (fun t_ k_ => XS.iloadN X.here hx rfl (hb hby ej65m121_d0) rfl (XS.aloadN X.here hx rfl (hb hby ej65m121_d1) rfl rfl k_)) ?_
  obtain ⟨cl_, Ar_, -, Sz_, Nn_, -, -⟩ := id V_va
  refine own_via (g' := (mkF m 3 (own_L28 va (z + (z + (2 : Int32)))) [(.int z), (.int (z + (z + (2 : Int32))))])) (fun t_ k_ => X.arraylength hx (by rw [eT]; exact Ar_.1) (State.isArrayOf_alike hZ.alike Ar_.2.1) (g := (mkF m 2 (own_L28 va (z + (z + (2 : Int32)))) [(.ref va), (.int (z + (z + (2 : Int32))))])) rfl rfl (hb hby ej65m121_d2) _ (by rw [len_of Sz_ Nn_]; exact k_)) ?_
  refine own_via (g' := (mkF m 15 (own_L28 va (z + (z + (2 : Int32)))) [(.int (z + (z + (2 : Int32))))])) (fun t_ k_ => XS.icmpYes X.here hx rfl (pc0 := 3) (pc' := 14) rfl (hb hby ej65m121_d3) rfl (feq (own_dom1 (P := fun z => ¬ ((z + (z + (2 : Int32))) = z)) (by decide) hz)).2 (by decide) (by decide) (XS.iloadN X.here hx rfl (hb hby ej65m121_d14) rfl k_)) ?_
  obtain ⟨b1, gb⟩ : ∃ z, z = h.size := ⟨_, rfl⟩
  obtain ⟨T, h2, kb1, X, eT, E, A_, E_b1, st⟩ := newPE X hx hZ (hw _ (own_w 0 rfl)) eT (g := (mkF m 15 (own_L28 va (z + (z + (2 : Int32)))) [(.int (z + (z + (2 : Int32))))])) rfl (hb hby ej65m121_d15) rfl (own_dom1 (P := fun z => ¬ ((z + (z + (2 : Int32)))) < 0) (by decide) hz) (cap := 18) (own_dom1 (P := fun z => ((z + (z + (2 : Int32)))).toNatClampNeg ≤ 18) (by decide) hz) (by decide) (by decide) (by decide) (ad := "[B") (by decide)
  rw [← gb] at A_ E_b1 st
  have ne_va_b1 : va ≠ b1 := Nat.ne_of_lt (Nat.lt_of_lt_of_le V_va.lt (Nat.le_of_eq gb.symm))
  have g_b1 : n0 ≤ b1 := Nat.le_trans (own_le O) (Nat.le_of_eq gb.symm)
  have sz_b1 : h0.size ≤ b1 := Nat.le_trans K0.1 (Nat.le_of_eq gb.symm)
  replace V_va := V_va.ext E
  replace O := O.ext E
  replace K0 := K0.ext E
  have V_b1 : Arv Z h2 b1 kb1 .byte (z + (z + (2 : Int32))) (List.replicate z.toNatClampNeg (Value.int (0 : Int32))) (.int 0) := (Arv.new A_ (own_dom1 (P := fun z => ¬ ((z + (z + (2 : Int32)))) < 0) (by decide) hz)).pad (pad_rep [] (.int 0) z.toNatClampNeg)
  refine own_via (g' := (mkF m 17 (own_L28 va (z + (z + (2 : Int32)))) [(.ref b1)])) st ?_
  refine own_via (g' := (mkF m 23 (own_L22 va (z + (z + (2 : Int32))) b1) [(.ref va), (.int 0), (.ref b1), (.int 0), (.ref va)])) (fun t_ k_ => XS.astoreN X.here hx rfl (hb hby ej65m121_d17) rfl rfl (l' := (own_L22 va (z + (z + (2 : Int32))) b1)) rfl (XS.aloadN X.here hx rfl (hb hby ej65m121_d18) rfl rfl (XS.iconst X.here hx rfl (hb hby ej65m121_d19) (XS.aloadN X.here hx rfl (hb hby ej65m121_d20) rfl rfl (XS.iconst X.here hx rfl (hb hby ej65m121_d21) (XS.aloadN X.here hx rfl (hb hby ej65m121_d22) rfl rfl k_)))))) ?_
  obtain ⟨cl_, Ar_, -, Sz_, Nn_, -, -⟩ := id V_va
  refine own_via (g' := (mkF m 24 (own_L22 va (z + (z + (2 : Int32))) b1) [(.int z), (.int 0), (.ref b1), (.int 0), (.ref va)])) (fun t_ k_ => X.arraylength hx (by rw [eT]; exact Ar_.1) (State.isArrayOf_alike hZ.alike Ar_.2.1) (g := (mkF m 23 (own_L22 va (z + (z + (2 : Int32))) b1) [(.ref va), (.int 0), (.ref b1), (.int 0), (.ref va)])) rfl rfl (hb hby ej65m121_d23) _ (by rw [len_of Sz_ Nn_]; exact k_)) ?_
  refine own_via (g' := (mkF m 25 (own_L22 va (z + (z + (2 : Int32))) b1) [(.int (z + (z + (2 : Int32)))), (.int z), (.int 0), (.ref b1), (.int 0), (.ref va)])) (fun t_ k_ => XS.iloadN X.here hx rfl (hb hby ej65m121_d24) rfl k_) ?_
  obtain ⟨_, _, ⟨T, Lq, kq, nq⟩, -, X, ⟨Lc, hQ, lq, yq, zq⟩, st⟩ := Jvm.LawKit.callS X hx (y := own_y2) hown (mvT hZ (hw _ (own_w 71 rfl))) (mvT hZ (hw _ (own_w 72 rfl))) (mvT hZ (hw _ (own_w 63 rfl))) (mvT hZ (hw _ (own_w 73 rfl))) (by decide) (backOf (W := 4) (own_min l Z a0 hw [] z (z + (z + (2 : Int32))) z h2 n0 O (own_dom1 (P := fun z => ((z + (z + (2 : Int32))) < z → z = (z + (z + (2 : Int32)))) ∧ (¬ (z + (z + (2 : Int32))) < z → z = z)) (by decide) hz)) hZ (hw _ (own_w 73 rfl)) (hw _ (own_w 63 rfl)) (by decide) (by decide)) (g := (mkF m 25 (own_L22 va (z + (z + (2 : Int32))) b1) [(.int (z + (z + (2 : Int32)))), (.int z), (.int 0), (.ref b1), (.int 0), (.ref va)])) rfl (by rw [hml]; rfl) (argsL := [(.int z), (.int (z + (z + (2 : Int32))))]) (rest := [(.int 0), (.ref b1), (.int 0), (.ref va)]) (lenOf own_pd0 rfl) rfl (by show 2 * 0 + _ ≤ _; exact Nat.le_of_eq rfl) (hb hby ej65m121_d25) (fun _ _ => ⟨rfl, eT, (by decide : 1 + 0 ≤ _), (by decide : 18 + 0 ≤ _)⟩)
  dsimp only [Pt.U, Pt.locs, Pt.cells, Pt.slots] at X lq yq zq st hQ
  subst lq yq zq
  obtain ⟨rfl, Nq, eT⟩ := hQ
  replace N := Fr.app N Nq
  refine own_via (g' := (mkF m 28 (own_L22 va (z + (z + (2 : Int32))) b1) [(.int z), (.int 0), (.ref b1), (.int 0), (.ref va)])) st ?_
  obtain ⟨T, h3, Lq, X, eT, N, Kq, Vq, st⟩ := cpA X hx hZ hown (hw _ (own_w 74 rfl)) (hw _ (own_w 77 rfl)) (hw _ (own_w 75 rfl)) (hw _ (own_w 76 rfl)) eT V_va V_b1 (Or.inl ⟨rfl, rfl⟩) (sp := (0 : Int32)) (dp := (0 : Int32)) (nn := z) (by decide) (by decide) (own_dom1 (P := fun z => ¬ z < 0) (by decide) hz) (own_dom1 (P := fun z => (0 : Int32).toNatClampNeg + (z).toNatClampNeg ≤ (z).toNatClampNeg) (by decide) hz) (own_dom1 (P := fun z => (0 : Int32).toNatClampNeg + (z).toNatClampNeg ≤ ((z + (z + (2 : Int32)))).toNatClampNeg) (by decide) hz) rfl (by rw [List.length_replicate]; exact Nat.le_of_eq (Nat.zero_add _)) N g_b1 (g := (mkF m 28 (own_L22 va (z + (z + (2 : Int32))) b1) [(.int z), (.int 0), (.ref b1), (.int 0), (.ref va)])) rfl (by rw [hml]; rfl) rfl (hb hby ej65m121_d28) (by decide) (W := 0) (by show 2 * 0 + _ ≤ _; exact Nat.le_of_eq rfl) (by decide)
  replace V_b1 : Arv Z h3 b1 kb1 .byte (z + (z + (2 : Int32))) cs (.int 0) := by
    have e_ := own_cpy cs _ hl (.int 0)
    rw [← e_]; exact Vq
  replace V_va := V_va.keep Kq (ninS ne_va_b1 nin0)
  replace E_b1 := E_b1.keep Kq
  replace O := O.keep Kq (allS g_b1 all0)
  replace K0 := K0.trans Kq (allS (Or.inr sz_b1) all0)
  refine own_via (g' := (mkF m 31 (own_L22 va (z + (z + (2 : Int32))) b1) [])) st ?_
  refine own_via (g' := (mkF m 32 (own_L22 va (z + (z + (2 : Int32))) b1) [(.ref b1)])) (fun t_ k_ => XS.aloadN X.here hx rfl (hb hby ej65m121_d31) rfl rfl k_) ?_
  refine own_retW X hx hlk Bd.returns rfl (Or.inr (Or.inr (Or.inr (Or.inr ⟨rfl, rfl, rfl⟩)))) (hb hby ej65m121_d32) (by decide) (by decide) ?_
  rw [eT]
  exact ⟨b1, _, rfl, N, K0, sz_b1, V_b1, E_b1⟩
theorem ej68m9_d0 : decode jdk_68_method_9_code 0 = .ok (.aload_n 0, 1) := by decide +kernel
theorem ej68m9_d1 : decode jdk_68_method_9_code 1 = .ok (.getfield 15, 3) := by decide +kernel
theorem ej68m9_d4 : decode jdk_68_method_9_code 4 = .ok (.arraylength, 1) := by decide +kernel
theorem ej68m9_d5 : decode jdk_68_method_9_code 5 = .ok (.aload_n 0, 1) := by decide +kernel
theorem ej68m9_d6 : decode jdk_68_method_9_code 6 = .ok (.getfield 22, 3) := by decide +kernel
theorem ej68m9_d9 : decode jdk_68_method_9_code 9 = .ok (.ishr, 1) := by decide +kernel
theorem ej68m9_d10 : decode jdk_68_method_9_code 10 = .ok (.istore_n 2, 1) := by decide +kernel
theorem ej68m9_d11 : decode jdk_68_method_9_code 11 = .ok (.iload_n 1, 1) := by decide +kernel
theorem ej68m9_d12 : decode jdk_68_method_9_code 12 = .ok (.iload_n 2, 1) := by decide +kernel
theorem ej68m9_d13 : decode jdk_68_method_9_code 13 = .ok (.isub, 1) := by decide +kernel
theorem ej68m9_d14 : decode jdk_68_method_9_code 14 = .ok (.ifCond .le 24, 3) := by decide +kernel
theorem ej68m9_d17 : decode jdk_68_method_9_code 17 = .ok (.aload_n 0, 1) := by decide +kernel
theorem ej68m9_d18 : decode jdk_68_method_9_code 18 = .ok (.aload_n 0, 1) := by decide +kernel
theorem ej68m9_d19 : decode jdk_68_method_9_code 19 = .ok (.getfield 15, 3) := by decide +kernel
theorem ej68m9_d22 : decode jdk_68_method_9_code 22 = .ok (.aload_n 0, 1) := by decide +kernel
theorem ej68m9_d23 : decode jdk_68_method_9_code 23 = .ok (.iload_n 1, 1) := by decide +kernel
theorem ej68m9_d24 : decode jdk_68_method_9_code 24 = .ok (.invokevirtual 104, 3) := by decide +kernel
theorem ej68m9_d27 : decode jdk_68_method_9_code 27 = .ok (.aload_n 0, 1) := by decide +kernel
theorem ej68m9_d28 : decode jdk_68_method_9_code 28 = .ok (.getfield 22, 3) := by decide +kernel
theorem ej68m9_d31 : decode jdk_68_method_9_code 31 = .ok (.ishl, 1) := by decide +kernel
theorem ej68m9_d32 : decode jdk_68_method_9_code 32 = .ok (.invokestatic 108, 3) := by decide +kernel
theorem ej68m9_d35 : decode jdk_68_method_9_code 35 = .ok (.putfield 15, 3) := by decide +kernel
theorem ej68m9_d38 : decode jdk_68_method_9_code 38 = .ok (.return_, 1) := by decide +kernel
theorem own_ensG_pn : plainFor (⟨"java/lang/AbstractStringBuilder", "ensureCapacityInternal", "(I)V"⟩ : MethodName) = true := by first | exact plainFor_of_name (by first | (simp [plainName, overriddenIn]; done) | decide +kernel) | decide +kernel | exact Jvm.Free.JP.mathPlain rfl (by decide +kernel)
theorem own_ensG_ef (m : MethodId) (x0 : Addr) (x1 : Int32) : entryFrame m #[(.ref x0), (.int x1)] 3 = mkF m 0 #[.val (.ref x0), .val (.int x1), .unset] [] := by first | (simp [entryFrame, mkF, argsToLocals, Value.category]; done) | rfl
def own_ensG_Q (Z : State) (a1 : Addr) (va : Addr) (kv : ClassId) (z : Int32) (cs : List Value) (h0 : Heap) (n0 : Nat) (v : Option Value) (h : Heap) (L : List Loc) : Prop := ∃ b kb, v = none ∧ Fr n0 L ∧ Keep h0 h [a1] ∧ h0.size ≤ b ∧ Fld Z h a1 "java/lang/AbstractStringBuilder" "value" "[B" (.ref b) ∧ Fld Z h a1 "java/lang/AbstractStringBuilder" "coder" "B" (.int 0) ∧ Fld Z h a1 "java/lang/AbstractStringBuilder" "count" "I" (.int z) ∧ Arv Z h b kb .byte (z + (z + (2 : Int32))) cs (.int 0) ∧ Exa Z h b "[B"
set_option maxRecDepth 65536 in
set_option maxHeartbeats 40000000 in
theorem own_ensG (l : Launch) (Z : State) (a0 : Array Value) (hw : ∀ d ∈ tables_1, d.before a0 Z = true) (ws : List Jvm.Cond) (a1 : Addr) (va : Addr) (kv : ClassId) (z : Int32) (cs : List Value) (h0 : Heap) (n0 : Nat) (O : Old Z n0 h0) (E_a1 : Exa Z h0 a1 "java/lang/StringBuilder") (F_value_a1 : Fld Z h0 a1 "java/lang/AbstractStringBuilder" "value" "[B" (.ref va)) (F_coder_a1 : Fld Z h0 a1 "java/lang/AbstractStringBuilder" "coder" "B" (.int 0)) (F_count_a1 : Fld Z h0 a1 "java/lang/AbstractStringBuilder" "count" "I" (.int z)) (E_va : Exa Z h0 va "[B") (V_va : Arv Z h0 va kv .byte z cs (.int 0)) (hz : z ∈ own_D1) (hl : cs.length = z.toNatClampNeg) (g_a1 : n0 ≤ a1) :
    MetFree l (⟨"java/lang/AbstractStringBuilder", "ensureCapacityInternal", "(I)V"⟩ : MethodName) (head1 (Jvm.Cond.code (⟨"java/lang/AbstractStringBuilder", "ensureCapacityInternal", "(I)V"⟩ : MethodName) jdk_68_method_9_code 3 none :: ws) ({ frames := 3, cells := 1, slots := 18, locals := 48 } : Room)) (fun a U => a = #[(.ref a1), (.int (z + (1 : Int32)))] ∧ Z.Warmed39 U.vm ∧ U.heap = h0) (fun _ _ _ _ _ => True) (fun _ U o U' => ∃ v L, o = .returned v ∧ own_ensG_Q Z a1 va kv z cs h0 n0 v U'.heap L ∧ FrameEnd U o U' L ({ frames := 3, cells := 1, slots := 18, locals := 48 } : Room).cells ({ frames := 3, cells := 1, slots := 18, locals := 48 } : Room).slots) := by
  refine MetFree.of_bodySF own_ensG_pn hisR ?_
  intro p e s m args below meth c s₁ Bd hml0 hP hK
  obtain ⟨rfl, hZ, hh⟩ := hP
  have hx := Bd.exec
  have hby := Bd.bytes
  have hlk := Bd.notSynchronized
  have hml : c.maxLocals = 3 := hml0
  have hown : s.vm.findClass "java/lang/AbstractStringBuilder" = some m.cls := findClass_of_methodNamed Bd.named
  have hnm := (name_of_methodNamed Bd.named Bd.method).1
  have X : Stand p l e ({ frames := 3, cells := 1, slots := 18, locals := 48 } : Room) s m #[(.ref a1), (.int (z + (1 : Int32)))] below meth c s₁ [] 0 0 := Stand.of_body Bd
  have eT : s₁.heap = h0 := by rw [← hh, Bd.state]; rfl
  have N := Fr.nil n0
  have K0 := Keep.refl h0 [a1]
  show own_Ends p e below (own_Post s below (own_ensG_Q Z a1 va kv z cs h0 n0) ({ frames := 3, cells := 1, slots := 18, locals := 48 } : Room).cells ({ frames := 3, cells := 1, slots := 18, locals := 48 } : Room).slots) s₁ (entryFrame m #[(.ref a1), (.int (z + (1 : Int32)))] 3)
  rw [own_ensG_ef m a1 (z + (1 : Int32))]
  obtain ⟨T, hT⟩ : ∃ z, z = s₁ := ⟨_, rfl⟩
  rw [← hT] at X eT ⊢
  obtain ⟨h, hh0⟩ : ∃ z, z = h0 := ⟨_, rfl⟩
  rw [← hh0] at eT
  replace O : Old Z n0 h := by rw [hh0]; exact O
  replace K0 : Keep h0 h [a1] := by rw [hh0]; exact K0
  rw [← hh0] at E_a1
  rw [← hh0] at F_value_a1
  rw [← hh0] at F_coder_a1
  rw [← hh0] at F_count_a1
  rw [← hh0] at E_va
  rw [← hh0] at V_va
  have ne_a1_va := Exa.ne E_a1 E_va (by decide)
  refine own_via (g' := (mkF m 1 (own_L28 a1 (z + (1 : Int32))) [(.ref a1)])) (fun t_ k_ => XS.aloadN X.here hx rfl (hb hby ej68m9_d0) rfl rfl k_) ?_
  obtain ⟨T, X, eT, st⟩ := getF X hx hZ hown (host := "") (Or.inl (hw _ (own_w 22 rfl))) Via.refl eT F_value_a1 (g := (mkF m 1 (own_L28 a1 (z + (1 : Int32))) [(.ref a1)])) rfl rfl (hb hby ej68m9_d1)
  refine own_via (g' := (mkF m 4 (own_L28 a1 (z + (1 : Int32))) [(.ref va)])) st ?_
  obtain ⟨cl_, Ar_, -, Sz_, Nn_, -, -⟩ := id V_va
  refine own_via (g' := (mkF m 5 (own_L28 a1 (z + (1 : Int32))) [(.int z)])) (fun t_ k_ => X.arraylength hx (by rw [eT]; exact Ar_.1) (State.isArrayOf_alike hZ.alike Ar_.2.1) (g := (mkF m 4 (own_L28 a1 (z + (1 : Int32))) [(.ref va)])) rfl rfl (hb hby ej68m9_d4) _ (by rw [len_of Sz_ Nn_]; exact k_)) ?_
  refine own_via (g' := (mkF m 6 (own_L28 a1 (z + (1 : Int32))) [(.ref a1), (.int z)])) (fun t_ k_ => XS.aloadN X.here hx rfl (hb hby ej68m9_d5) rfl rfl k_) ?_
  obtain ⟨T, X, eT, st⟩ := getF X hx hZ hown (host := "") (Or.inl (hw _ (own_w 24 rfl))) Via.refl eT F_coder_a1 (g := (mkF m 6 (own_L28 a1 (z + (1 : Int32))) [(.ref a1), (.int z)])) rfl rfl (hb hby ej68m9_d6)
  refine own_via (g' := (mkF m 9 (own_L28 a1 (z + (1 : Int32))) [(.int 0), (.int z)])) st ?_
  refine own_via (g' := (mkF m 10 (own_L28 a1 (z + (1 : Int32))) [(.int (z >>> ((0 : Int32) &&& 31)))])) (fun t_ k_ => XS.ishr X.here hx rfl (hb hby ej68m9_d9) rfl k_) ?_
  rw [own_shr0]
  refine own_via (g' := (mkF m 14 (own_L26 a1 (z + (1 : Int32)) z) [(.int ((z + (1 : Int32)) - z))])) (fun t_ k_ => XS.istoreN X.here hx rfl (hb hby ej68m9_d10) rfl (l' := (own_L26 a1 (z + (1 : Int32)) z)) rfl (XS.iloadN X.here hx rfl (hb hby ej68m9_d11) rfl (XS.iloadN X.here hx rfl (hb hby ej68m9_d12) rfl (XS.isub X.here hx rfl (hb hby ej68m9_d13) rfl k_)))) ?_
  rw [(show ((z + (1 : Int32)) - z) = (1 : Int32) from (own_dom1 (P := fun z => ((z + (1 : Int32)) - z) = (1 : Int32)) (by decide) hz))]
  refine own_via (g' := (mkF m 19 (own_L26 a1 (z + (1 : Int32)) z) [(.ref a1), (.ref a1)])) (fun t_ k_ => XS.ifNo X.here hx rfl (hb hby ej68m9_d14) rfl ((if0 _ _).trans (tlt (by decide : (0 : Int32) < (1 : Int32))).2.2.2) (XS.aloadN X.here hx rfl (hb hby ej68m9_d17) rfl rfl (XS.aloadN X.here hx rfl (hb hby ej68m9_d18) rfl rfl k_))) ?_
  obtain ⟨T, X, eT, st⟩ := getF X hx hZ hown (host := "") (Or.inl (hw _ (own_w 22 rfl))) Via.refl eT F_value_a1 (g := (mkF m 19 (own_L26 a1 (z + (1 : Int32)) z) [(.ref a1), (.ref a1)])) rfl rfl (hb hby ej68m9_d19)
  refine own_via (g' := (mkF m 22 (own_L26 a1 (z + (1 : Int32)) z) [(.ref va), (.ref a1)])) st ?_
  refine own_via (g' := (mkF m 24 (own_L26 a1 (z + (1 : Int32)) z) [(.int (z + (1 : Int32))), (.ref a1), (.ref va), (.ref a1)])) (fun t_ k_ => XS.aloadN X.here hx rfl (hb hby ej68m9_d22) rfl rfl (XS.iloadN X.here hx rfl (hb hby ej68m9_d23) rfl k_)) ?_
  obtain ⟨cq, kq, qa, qb, qc⟩ := isOf hZ eT E_a1
  obtain ⟨_, _, ⟨T, Lq, kq, nq⟩, -, X, ⟨Lc, hQ, lq, yq, zq⟩, st⟩ := X.virtualBack hx (y := own_y3) (z := own_y3) hown (mvT hZ (hw _ (own_w 52 rfl))) (own_decl (mvT hZ (hw _ (own_w 53 rfl))) (mvT hZ (hw _ (own_w 56 rfl)))) (notFace_of_selects (args := #[]) (mvT hZ (hw _ (own_w 55 rfl)))) (mvT hZ (hw _ (own_w 55 rfl))) (mvT hZ (hw _ (own_w 53 rfl))) (by decide) (backOf (W := 2) (own_newCap l Z a0 hw [] a1 va kv z cs h n0 O F_value_a1 F_coder_a1 V_va hz) hZ (hw _ (own_w 56 rfl)) (hw _ (own_w 15 rfl)) (by decide) (by decide)) qa qc (g := (mkF m 24 (own_L26 a1 (z + (1 : Int32)) z) [(.int (z + (1 : Int32))), (.ref a1), (.ref va), (.ref a1)])) rfl (by rw [hml]; rfl) (Steps.refl _) (argsL := [(.int (z + (1 : Int32)))]) (rest := [(.ref va), (.ref a1)]) (lenOf own_pd2 rfl) rfl (by show 2 * 0 + _ ≤ _; exact Nat.le_of_eq rfl) (hb hby ej68m9_d24) (fun _ _ => ⟨rfl, eT, (by decide : 0 + 0 ≤ _), (by decide : 0 + 0 ≤ _)⟩)
  dsimp only [Pt.U, Pt.locs, Pt.cells, Pt.slots] at X lq yq zq st hQ
  subst lq yq zq
  obtain ⟨rfl, Nq, eT⟩ := hQ
  replace N := Fr.app N Nq
  refine own_viaT (g' := (mkF m 27 (own_L26 a1 (z + (1 : Int32)) z) [(.int (z + (z + (2 : Int32)))), (.ref va), (.ref a1)])) st ?_
  refine own_via (g' := (mkF m 28 (own_L26 a1 (z + (1 : Int32)) z) [(.ref a1), (.int (z + (z + (2 : Int32)))), (.ref va), (.ref a1)])) (fun t_ k_ => XS.aloadN X.here hx rfl (hb hby ej68m9_d27) rfl rfl k_) ?_
  obtain ⟨T, X, eT, st⟩ := getF X hx hZ hown (host := "") (Or.inl (hw _ (own_w 24 rfl))) Via.refl eT F_coder_a1 (g := (mkF m 28 (own_L26 a1 (z + (1 : Int32)) z) [(.ref a1), (.int (z + (z + (2 : Int32)))), (.ref va), (.ref a1)])) rfl rfl (hb hby ej68m9_d28)
  refine own_via (g' := (mkF m 31 (own_L26 a1 (z + (1 : Int32)) z) [(.int 0), (.int (z + (z + (2 : Int32)))), (.ref va), (.ref a1)])) st ?_
  refine own_via (g' := (mkF m 32 (own_L26 a1 (z + (1 : Int32)) z) [(.int ((z + (z + (2 : Int32))) <<< ((0 : Int32) &&& 31))), (.ref va), (.ref a1)])) (fun t_ k_ => XS.ishl X.here hx rfl (hb hby ej68m9_d31) rfl k_) ?_
  rw [own_shl0]
  obtain ⟨_, _, ⟨T, Lq, kq, nq⟩, -, X, ⟨Lc, hQ, lq, yq, zq⟩, st⟩ := Jvm.LawKit.callS X hx (y := own_y4) hown (mvT hZ (hw _ (own_w 67 rfl))) (mvT hZ (hw _ (own_w 68 rfl))) (mvT hZ (hw _ (own_w 69 rfl))) (mvT hZ (hw _ (own_w 70 rfl))) (by decide) (backOf (W := 1) (own_copyOf l Z a0 hw [] va kv z cs h n0 O V_va hz hl) hZ (hw _ (own_w 70 rfl)) (hw _ (own_w 69 rfl)) (by decide) (by decide)) (g := (mkF m 32 (own_L26 a1 (z + (1 : Int32)) z) [(.int (z + (z + (2 : Int32)))), (.ref va), (.ref a1)])) rfl (by rw [hml]; rfl) (argsL := [(.ref va), (.int (z + (z + (2 : Int32))))]) (rest := [(.ref a1)]) (lenOf own_pd3 rfl) rfl (by show 2 * 0 + _ ≤ _; exact Nat.le_of_eq rfl) (hb hby ej68m9_d32) (fun _ _ => ⟨rfl, eT, (by decide : 0 + 1 ≤ _), (by decide : 0 + 18 ≤ _)⟩)
  dsimp only [Pt.U, Pt.locs, Pt.cells, Pt.slots] at X lq yq zq st hQ
  subst lq yq zq
  obtain ⟨bn, kbn, rfl, Nq, Kq, szq, V_bn, E_bn⟩ := hQ
  replace N := Fr.app N Nq
  obtain ⟨h1, eT⟩ : ∃ z, T.heap = z := ⟨_, rfl⟩
  rw [eT] at Kq V_bn E_bn
  have ne_a1_bn : a1 ≠ bn := Nat.ne_of_lt (Nat.lt_of_lt_of_le E_a1.lt szq)
  have ne_va_bn : va ≠ bn := Nat.ne_of_lt (Nat.lt_of_lt_of_le E_va.lt szq)
  have g_bn : n0 ≤ bn := Nat.le_trans (own_le O) szq
  have sz_bn : h0.size ≤ bn := Nat.le_trans K0.1 szq
  replace E_a1 := E_a1.keep Kq
  replace F_value_a1 := F_value_a1.keep Kq nin0
  replace F_coder_a1 := F_coder_a1.keep Kq nin0
  replace F_count_a1 := F_count_a1.keep Kq nin0
  replace E_va := E_va.keep Kq
  replace V_va := V_va.keep Kq nin0
  replace O := O.keep Kq all0
  replace K0 := K0.trans Kq all0
  refine own_via (g' := (mkF m 35 (own_L26 a1 (z + (1 : Int32)) z) [(.ref bn), (.ref a1)])) st ?_
  obtain ⟨T, h2, X, eT, W, st⟩ := putF X hx hZ hown (host := "") (Or.inl (hw _ (own_w 22 rfl))) Via.refl eT F_value_a1 E_a1 (Or.inl (hw _ (own_w 23 rfl))) (hw _ (own_w 6 rfl)) (ty := (.array .byte)) (by decide) rfl rfl (g := (mkF m 35 (own_L26 a1 (z + (1 : Int32)) z) [(.ref bn), (.ref a1)])) rfl rfl (hb hby ej68m9_d35)
  replace F_value_a1 := F_value_a1.same W
  replace E_a1 := E_a1.wr W
  replace F_coder_a1 := F_coder_a1.other W (Or.inr (slot_ne (Or.inl (hw _ (own_w 25 rfl))) (Or.inl (hw _ (own_w 23 rfl))) (by decide) (t := .byte) (t' := (.array .byte)) (by decide) (by decide)))
  replace F_count_a1 := F_count_a1.other W (Or.inr (slot_ne (Or.inl (hw _ (own_w 37 rfl))) (Or.inl (hw _ (own_w 23 rfl))) (by decide) (t := .int) (t' := (.array .byte)) (by decide) (by decide)))
  replace E_va := E_va.wr W
  replace V_va := V_va.other W (Ne.symm ne_a1_va)
  replace V_bn := V_bn.other W (Ne.symm ne_a1_bn)
  replace E_bn := E_bn.wr W
  replace O := O.wr W g_a1
  replace K0 := K0.wr W (Or.inl (List.mem_of_getElem? (i := 0) rfl))
  replace N := Fr.snoc X N g_a1
  refine own_via (g' := (mkF m 38 (own_L26 a1 (z + (1 : Int32)) z) [])) st ?_
  refine own_retV X hx hlk Bd.returns (hb hby ej68m9_d38) (by decide) (by decide) ?_
  rw [eT]
  exact ⟨bn, kbn, rfl, N, K0, sz_bn, F_value_a1, F_coder_a1, F_count_a1, V_bn, E_bn⟩
theorem ej68m31_d0 : decode jdk_68_method_31_code 0 = .ok (.aload_n 0, 1) := by decide +kernel
theorem ej68m31_d1 : decode jdk_68_method_31_code 1 = .ok (.aload_n 0, 1) := by decide +kernel
theorem ej68m31_d2 : decode jdk_68_method_31_code 2 = .ok (.getfield 79, 3) := by decide +kernel
theorem ej68m31_d5 : decode jdk_68_method_31_code 5 = .ok (.iconst 1, 1) := by decide +kernel
theorem ej68m31_d6 : decode jdk_68_method_31_code 6 = .ok (.iadd, 1) := by decide +kernel
theorem ej68m31_d7 : decode jdk_68_method_31_code 7 = .ok (.invokevirtual 100, 3) := by decide +kernel
theorem ej68m31_d10 : decode jdk_68_method_31_code 10 = .ok (.aload_n 0, 1) := by decide +kernel
theorem ej68m31_d11 : decode jdk_68_method_31_code 11 = .ok (.invokevirtual 83, 3) := by decide +kernel
theorem ej68m31_d14 : decode jdk_68_method_31_code 14 = .ok (.ifCond .eq 31, 3) := by decide +kernel
theorem ej68m31_d17 : decode jdk_68_method_31_code 17 = .ok (.iload_n 1, 1) := by decide +kernel
theorem ej68m31_d18 : decode jdk_68_method_31_code 18 = .ok (.invokestatic 191, 3) := by decide +kernel
theorem ej68m31_d21 : decode jdk_68_method_31_code 21 = .ok (.ifCond .eq 24, 3) := by decide +kernel
theorem ej68m31_d24 : decode jdk_68_method_31_code 24 = .ok (.aload_n 0, 1) := by decide +kernel
theorem ej68m31_d25 : decode jdk_68_method_31_code 25 = .ok (.getfield 15, 3) := by decide +kernel
theorem ej68m31_d28 : decode jdk_68_method_31_code 28 = .ok (.aload_n 0, 1) := by decide +kernel
theorem ej68m31_d29 : decode jdk_68_method_31_code 29 = .ok (.dup, 1) := by decide +kernel
theorem ej68m31_d30 : decode jdk_68_method_31_code 30 = .ok (.getfield 79, 3) := by decide +kernel
theorem ej68m31_d33 : decode jdk_68_method_31_code 33 = .ok (.dup_x1, 1) := by decide +kernel
theorem ej68m31_d34 : decode jdk_68_method_31_code 34 = .ok (.iconst 1, 1) := by decide +kernel
theorem ej68m31_d35 : decode jdk_68_method_31_code 35 = .ok (.iadd, 1) := by decide +kernel
theorem ej68m31_d36 : decode jdk_68_method_31_code 36 = .ok (.putfield 79, 3) := by decide +kernel
theorem ej68m31_d39 : decode jdk_68_method_31_code 39 = .ok (.iload_n 1, 1) := by decide +kernel
theorem ej68m31_d40 : decode jdk_68_method_31_code 40 = .ok (.i2b, 1) := by decide +kernel
theorem ej68m31_d41 : decode jdk_68_method_31_code 41 = .ok (.bastore, 1) := by decide +kernel
theorem ej68m31_d42 : decode jdk_68_method_31_code 42 = .ok (.goto 33, 3) := by decide +kernel
theorem ej68m31_d75 : decode jdk_68_method_31_code 75 = .ok (.aload_n 0, 1) := by decide +kernel
theorem ej68m31_d76 : decode jdk_68_method_31_code 76 = .ok (.areturn, 1) := by decide +kernel
theorem own_appG_pn : plainFor (⟨"java/lang/AbstractStringBuilder", "append", "(C)Ljava/lang/AbstractStringBuilder;"⟩ : MethodName) = true := by first | exact plainFor_of_name (by first | (simp [plainName, overriddenIn]; done) | decide +kernel) | decide +kernel | exact Jvm.Free.JP.mathPlain rfl (by decide +kernel)
theorem own_appG_ef (m : MethodId) (x0 : Addr) (x1 : Int32) : entryFrame m #[(.ref x0), (.int x1)] 2 = mkF m 0 #[.val (.ref x0), .val (.int x1)] [] := by first | (simp [entryFrame, mkF, argsToLocals, Value.category]; done) | rfl
def own_appG_Q (Z : State) (a1 : Addr) (ch : Int32) (va : Addr) (kv : ClassId) (z : Int32) (cs : List Value) (zc : Int32) (h0 : Heap) (n0 : Nat) (v : Option Value) (h : Heap) (L : List Loc) : Prop := ∃ b kb, v = some (.ref a1) ∧ Fr n0 L ∧ Keep h0 h [a1] ∧ h0.size ≤ b ∧ Fld Z h a1 "java/lang/AbstractStringBuilder" "value" "[B" (.ref b) ∧ Fld Z h a1 "java/lang/AbstractStringBuilder" "coder" "B" (.int 0) ∧ Fld Z h a1 "java/lang/AbstractStringBuilder" "count" "I" (.int (z + (1 : Int32))) ∧ Arv Z h b kb .byte (z + (z + (2 : Int32))) (cs ++ [Value.int (own_sb ch)]) (.int 0) ∧ Exa Z h b "[B"
set_option maxRecDepth 65536 in
set_option maxHeartbeats 40000000 in
theorem own_appG (l : Launch) (Z : State) (a0 : Array Value) (hw : ∀ d ∈ tables_1, d.before a0 Z = true) (ws : List Jvm.Cond) (a1 : Addr) (ch : Int32) (va : Addr) (kv : ClassId) (z : Int32) (cs : List Value) (zc : Int32) (h0 : Heap) (n0 : Nat) (O : Old Z n0 h0) (E_a1 : Exa Z h0 a1 "java/lang/StringBuilder") (F_value_a1 : Fld Z h0 a1 "java/lang/AbstractStringBuilder" "value" "[B" (.ref va)) (F_coder_a1 : Fld Z h0 a1 "java/lang/AbstractStringBuilder" "coder" "B" (.int 0)) (F_count_a1 : Fld Z h0 a1 "java/lang/AbstractStringBuilder" "count" "I" (.int z)) (E_va : Exa Z h0 va "[B") (V_va : Arv Z h0 va kv .byte z cs (.int 0)) (hz : z ∈ own_D1) (hl : cs.length = z.toNatClampNeg) (g_a1 : n0 ≤ a1) (hch : ¬ 255 < ch) (S_C : Sta Z Z.heap "java/lang/String" "COMPACT_STRINGS" "Z" (.int zc)) (hzc : ¬ zc = 0) :
    MetFree l (⟨"java/lang/AbstractStringBuilder", "append", "(C)Ljava/lang/AbstractStringBuilder;"⟩ : MethodName) (head1 (Jvm.Cond.code (⟨"java/lang/AbstractStringBuilder", "append", "(C)Ljava/lang/AbstractStringBuilder;"⟩ : MethodName) jdk_68_method_31_code 2 (some (.object "java/lang/AbstractStringBuilder")) :: ws) ({ frames := 4, cells := 1, slots := 18, locals := 62 } : Room)) (fun a U => a = #[(.ref a1), (.int ch)] ∧ Z.Warmed39 U.vm ∧ U.heap = h0) (fun _ _ _ _ _ => True) (fun _ U o U' => ∃ v L, o = .returned v ∧ own_appG_Q Z a1 ch va kv z cs zc h0 n0 v U'.heap L ∧ FrameEnd U o U' L ({ frames := 4, cells := 1, slots := 18, locals := 62 } : Room).cells ({ frames := 4, cells := 1, slots := 18, locals := 62 } : Room).slots) := by
  refine MetFree.of_bodySF own_appG_pn hisR ?_
  intro p e s m args below meth c s₁ Bd hml0 hP hK
  obtain ⟨rfl, hZ, hh⟩ := hP
  have hx := Bd.exec
  have hby := Bd.bytes
  have hlk := Bd.notSynchronized
  have hml : c.maxLocals = 2 := hml0
  have hown : s.vm.findClass "java/lang/AbstractStringBuilder" = some m.cls := findClass_of_methodNamed Bd.named
  have hnm := (name_of_methodNamed Bd.named Bd.method).1
  have X : Stand p l e ({ frames := 4, cells := 1, slots := 18, locals := 62 } : Room) s m #[(.ref a1), (.int ch)] below meth c s₁ [] 0 0 := Stand.of_body Bd
  have eT : s₁.heap = h0 := by rw [← hh, Bd.state]; rfl
  have N := Fr.nil n0
  have K0 := Keep.refl h0 [a1]
  show own_Ends p e below (own_Post s below (own_appG_Q Z a1 ch va kv z cs zc h0 n0) ({ frames := 4, cells := 1, slots := 18, locals := 62 } : Room).cells ({ frames := 4, cells := 1, slots := 18, locals := 62 } : Room).slots) s₁ (entryFrame m #[(.ref a1), (.int ch)] 2)
  rw [own_appG_ef m a1 ch]
  obtain ⟨T, hT⟩ : ∃ z, z = s₁ := ⟨_, rfl⟩
  rw [← hT] at X eT ⊢
  obtain ⟨h, hh0⟩ : ∃ z, z = h0 := ⟨_, rfl⟩
  rw [← hh0] at eT
  replace O : Old Z n0 h := by rw [hh0]; exact O
  replace K0 : Keep h0 h [a1] := by rw [hh0]; exact K0
  rw [← hh0] at E_a1
  rw [← hh0] at F_value_a1
  rw [← hh0] at F_coder_a1
  rw [← hh0] at F_count_a1
  rw [← hh0] at E_va
  rw [← hh0] at V_va
  have ne_a1_va := Exa.ne E_a1 E_va (by decide)
  refine own_via (g' := (mkF m 2 #[.val (.ref a1), .val (.int ch)] [(.ref a1), (.ref a1)])) (fun t_ k_ => XS.aloadN X.here hx rfl (hb hby ej68m31_d0) rfl rfl (XS.aloadN X.here hx rfl (hb hby ej68m31_d1) rfl rfl k_)) ?_
  obtain ⟨T, X, eT, st⟩ := getF X hx hZ hown (host := "") (Or.inl (hw _ (own_w 36 rfl))) Via.refl eT F_count_a1 (g := (mkF m 2 #[.val (.ref a1), .val (.int ch)] [(.ref a1), (.ref a1)])) rfl rfl (hb hby ej68m31_d2)
  refine own_via (g' := (mkF m 5 #[.val (.ref a1), .val (.int ch)] [(.int z), (.ref a1)])) st ?_
  refine own_via (g' := (mkF m 7 #[.val (.ref a1), .val (.int ch)] [(.int (z + (1 : Int32))), (.ref a1)])) (fun t_ k_ => XS.iconst X.here hx rfl (hb hby ej68m31_d5) (XS.iadd X.here hx rfl (hb hby ej68m31_d6) rfl k_)) ?_
  obtain ⟨cq, kq, qa, qb, qc⟩ := isOf hZ eT E_a1
  obtain ⟨_, _, ⟨T, Lq, kq, nq⟩, -, X, ⟨Lc, hQ, lq, yq, zq⟩, st⟩ := X.virtualBack hx (y := own_y5) (z := own_y5) hown (mvT hZ (hw _ (own_w 38 rfl))) (own_decl (mvT hZ (hw _ (own_w 39 rfl))) (mvT hZ (hw _ (own_w 42 rfl)))) (notFace_of_selects (args := #[]) (mvT hZ (hw _ (own_w 41 rfl)))) (mvT hZ (hw _ (own_w 41 rfl))) (mvT hZ (hw _ (own_w 39 rfl))) (by decide) (backOf (W := 0) (own_ensG l Z a0 hw [] a1 va kv z cs h n0 O E_a1 F_value_a1 F_coder_a1 F_count_a1 E_va V_va hz hl g_a1) hZ (hw _ (own_w 42 rfl)) (hw _ (own_w 15 rfl)) (by decide) (by decide)) qa qc (g := (mkF m 7 #[.val (.ref a1), .val (.int ch)] [(.int (z + (1 : Int32))), (.ref a1)])) rfl (by rw [hml]; rfl) (Steps.refl _) (argsL := [(.int (z + (1 : Int32)))]) (rest := []) (lenOf own_pd4 rfl) rfl (by show 2 * 0 + _ ≤ _; exact Nat.le_of_eq rfl) (hb hby ej68m31_d7) (fun _ _ => ⟨rfl, eT, (by decide : 0 + 1 ≤ _), (by decide : 0 + 18 ≤ _)⟩)
  dsimp only [Pt.U, Pt.locs, Pt.cells, Pt.slots] at X lq yq zq st hQ
  subst lq yq zq
  obtain ⟨bn, kbn, rfl, Nq, Kq, szq, F_value_a1, F_coder_a1, F_count_a1, V_bn, E_bn⟩ := hQ
  replace N := Fr.app N Nq
  obtain ⟨h1, eT⟩ : ∃ z, T.heap = z := ⟨_, rfl⟩
  rw [eT] at Kq F_value_a1 F_coder_a1 F_count_a1 V_bn E_bn
  have ne_a1_bn : a1 ≠ bn := Nat.ne_of_lt (Nat.lt_of_lt_of_le E_a1.lt szq)
  have ne_va_bn : va ≠ bn := Nat.ne_of_lt (Nat.lt_of_lt_of_le E_va.lt szq)
  have g_bn : n0 ≤ bn := Nat.le_trans (own_le O) szq
  have sz_bn : h0.size ≤ bn := Nat.le_trans K0.1 szq
  replace E_a1 := E_a1.keep Kq
  replace E_va := E_va.keep Kq
  replace V_va := V_va.keep Kq (ninS (Ne.symm ne_a1_va) nin0)
  replace O := O.keep Kq (allS g_a1 all0)
  replace K0 := K0.trans Kq (allS (Or.inl (List.mem_of_getElem? (i := 0) rfl)) all0)
  refine own_viaT (g' := (mkF m 10 #[.val (.ref a1), .val (.int ch)] [])) st ?_
  refine own_via (g' := (mkF m 11 #[.val (.ref a1), .val (.int ch)] [(.ref a1)])) (fun t_ k_ => XS.aloadN X.here hx rfl (hb hby ej68m31_d10) rfl rfl k_) ?_
  obtain ⟨cq, kq, qa, qb, qc⟩ := isOf hZ eT E_a1
  obtain ⟨_, _, ⟨T, Lq, kq, nq⟩, -, X, ⟨Lc, hQ, lq, yq, zq⟩, st⟩ := X.virtualBack hx (y := own_y6) (z := own_y6) hown (mvT hZ (hw _ (own_w 43 rfl))) (mvT hZ (hw _ (own_w 44 rfl))) (notFace_of_selects (args := #[]) (mvT hZ (hw _ (own_w 46 rfl)))) (mvT hZ (hw _ (own_w 46 rfl))) (mvT hZ (hw _ (own_w 45 rfl))) (by decide) (backOf (W := 0) (own_isl l Z a0 hw [] a1 zc h1 n0 O F_coder_a1 S_C hzc) hZ (hw _ (own_w 47 rfl)) (hw _ (own_w 15 rfl)) (by decide) (by decide)) qa qc (g := (mkF m 11 #[.val (.ref a1), .val (.int ch)] [(.ref a1)])) rfl (by rw [hml]; rfl) (Steps.refl _) (argsL := []) (rest := []) (lenOf own_pd5 rfl) rfl (by show 2 * 0 + _ ≤ _; exact Nat.le_of_eq rfl) (hb hby ej68m31_d11) (fun _ _ => ⟨rfl, eT, (by decide : 1 + 0 ≤ _), (by decide : 18 + 0 ≤ _)⟩)
  dsimp only [Pt.U, Pt.locs, Pt.cells, Pt.slots] at X lq yq zq st hQ
  subst lq yq zq
  obtain ⟨rfl, Nq, eT⟩ := hQ
  replace N := Fr.app N Nq
  refine own_viaT (g' := (mkF m 14 #[.val (.ref a1), .val (.int ch)] [(.int 1)])) st ?_
  refine own_via (g' := (mkF m 18 #[.val (.ref a1), .val (.int ch)] [(.int ch)])) (fun t_ k_ => XS.ifNo X.here hx rfl (hb hby ej68m31_d14) rfl ((if0 _ _).trans (feq (by decide : ¬ ((1 : Int32) = (0 : Int32)))).1) (XS.iloadN X.here hx rfl (hb hby ej68m31_d17) rfl k_)) ?_
  obtain ⟨_, _, ⟨T, Lq, kq, nq⟩, -, X, ⟨Lc, hQ, lq, yq, zq⟩, st⟩ := Jvm.LawKit.callS X hx (y := own_y7) hown (mvT hZ (hw _ (own_w 48 rfl))) (mvT hZ (hw _ (own_w 49 rfl))) (mvT hZ (hw _ (own_w 50 rfl))) (mvT hZ (hw _ (own_w 51 rfl))) (by decide) (backOf (W := 0) (own_can l Z a0 hw [] ch h1 n0 O hch) hZ (hw _ (own_w 51 rfl)) (hw _ (own_w 50 rfl)) (by decide) (by decide)) (g := (mkF m 18 #[.val (.ref a1), .val (.int ch)] [(.int ch)])) rfl (by rw [hml]; rfl) (argsL := [(.int ch)]) (rest := []) (lenOf own_pd6 rfl) rfl (by show 2 * 0 + _ ≤ _; exact Nat.le_of_eq rfl) (hb hby ej68m31_d18) (fun _ _ => ⟨rfl, eT, (by decide : 1 + 0 ≤ _), (by decide : 18 + 0 ≤ _)⟩)
  dsimp only [Pt.U, Pt.locs, Pt.cells, Pt.slots] at X lq yq zq st hQ
  subst lq yq zq
  obtain ⟨rfl, Nq, eT⟩ := hQ
  replace N := Fr.app N Nq
  refine own_via (g' := (mkF m 21 #[.val (.ref a1), .val (.int ch)] [(.int 1)])) st ?_
  refine own_via (g' := (mkF m 25 #[.val (.ref a1), .val (.int ch)] [(.ref a1)])) (fun t_ k_ => XS.ifNo X.here hx rfl (hb hby ej68m31_d21) rfl ((if0 _ _).trans (feq (by decide : ¬ ((1 : Int32) = (0 : Int32)))).1) (XS.aloadN X.here hx rfl (hb hby ej68m31_d24) rfl rfl k_)) ?_
  obtain ⟨T, X, eT, st⟩ := getF X hx hZ hown (host := "") (Or.inl (hw _ (own_w 22 rfl))) Via.refl eT F_value_a1 (g := (mkF m 25 #[.val (.ref a1), .val (.int ch)] [(.ref a1)])) rfl rfl (hb hby ej68m31_d25)
  refine own_via (g' := (mkF m 28 #[.val (.ref a1), .val (.int ch)] [(.ref bn)])) st ?_
  refine own_via (g' := (mkF m 30 #[.val (.ref a1), .val (.int ch)] [(.ref a1), (.ref a1), (.ref bn)])) (fun t_ k_ => XS.aloadN X.here hx rfl (hb hby ej68m31_d28) rfl rfl (XS.dup X.here hx rfl (hb hby ej68m31_d29) rfl rfl k_)) ?_
  obtain ⟨T, X, eT, st⟩ := getF X hx hZ hown (host := "") (Or.inl (hw _ (own_w 36 rfl))) Via.refl eT F_count_a1 (g := (mkF m 30 #[.val (.ref a1), .val (.int ch)] [(.ref a1), (.ref a1), (.ref bn)])) rfl rfl (hb hby ej68m31_d30)
  refine own_via (g' := (mkF m 33 #[.val (.ref a1), .val (.int ch)] [(.int z), (.ref a1), (.ref bn)])) st ?_
  refine own_via (g' := (mkF m 36 #[.val (.ref a1), .val (.int ch)] [(.int (z + (1 : Int32))), (.ref a1), (.int z), (.ref bn)])) (fun t_ k_ => XS.dupX1 X.here hx rfl (hb hby ej68m31_d33) rfl rfl rfl (XS.iconst X.here hx rfl (hb hby ej68m31_d34) (XS.iadd X.here hx rfl (hb hby ej68m31_d35) rfl k_))) ?_
  obtain ⟨T, h2, X, eT, W, st⟩ := putF X hx hZ hown (host := "") (Or.inl (hw _ (own_w 36 rfl))) Via.refl eT F_count_a1 E_a1 (Or.inl (hw _ (own_w 37 rfl))) (hw _ (own_w 6 rfl)) (ty := .int) (by decide) rfl rfl (g := (mkF m 36 #[.val (.ref a1), .val (.int ch)] [(.int (z + (1 : Int32))), (.ref a1), (.int z), (.ref bn)])) rfl rfl (hb hby ej68m31_d36)
  replace F_count_a1 := F_count_a1.same W
  replace E_a1 := E_a1.wr W
  replace F_value_a1 := F_value_a1.other W (Or.inr (slot_ne (Or.inl (hw _ (own_w 23 rfl))) (Or.inl (hw _ (own_w 37 rfl))) (by decide) (t := (.array .byte)) (t' := .int) (by decide) (by decide)))
  replace F_coder_a1 := F_coder_a1.other W (Or.inr (slot_ne (Or.inl (hw _ (own_w 25 rfl))) (Or.inl (hw _ (own_w 37 rfl))) (by decide) (t := .byte) (t' := .int) (by decide) (by decide)))
  replace E_va := E_va.wr W
  replace V_va := V_va.other W (Ne.symm ne_a1_va)
  replace V_bn := V_bn.other W (Ne.symm ne_a1_bn)
  replace E_bn := E_bn.wr W
  replace O := O.wr W g_a1
  replace K0 := K0.wr W (Or.inl (List.mem_of_getElem? (i := 0) rfl))
  replace N := Fr.snoc X N g_a1
  refine own_via (g' := (mkF m 39 #[.val (.ref a1), .val (.int ch)] [(.int z), (.ref bn)])) st ?_
  refine own_via (g' := (mkF m 41 #[.val (.ref a1), .val (.int ch)] [(.int (ch.toInt8.toInt32)), (.int z), (.ref bn)])) (fun t_ k_ => XS.iloadN X.here hx rfl (hb hby ej68m31_d39) rfl (XS.i2b X.here hx rfl (hb hby ej68m31_d40) rfl k_)) ?_
  replace V_bn : Arv Z h2 bn kbn .byte (z + (z + (2 : Int32))) (cs ++ List.replicate 1 (Value.int (0 : Int32))) (.int 0) := V_bn.pad (pad_rep cs (.int 0) 1)
  obtain ⟨cl_, Ar_, qk_, Sz_, Nn_, Hs_, Gs_⟩ := id V_bn
  have hin_ : ¬ (z < 0 ∨ cl_.slots.size ≤ (z).toNatClampNeg) := inb_of Sz_ (own_dom1 (P := fun z => ¬ z < 0 ∧ z < (z + (z + (2 : Int32)))) (by decide) hz)
  obtain ⟨T, h3, X, eT, W, st⟩ := stB X hx hZ eT Ar_ (j := z) hin_ (g := (mkF m 41 #[.val (.ref a1), .val (.int ch)] [(.int (ch.toInt8.toInt32)), (.int z), (.ref bn)])) rfl rfl (hb hby ej68m31_d41)
  replace V_bn : Arv Z h3 bn kbn .byte (z + (z + (2 : Int32))) ((cs ++ List.replicate 1 (Value.int (0 : Int32))).set z.toNatClampNeg (Value.int (((ch.toInt8.toInt32)).toInt8.toInt32))) (.int 0) := Arv.set Ar_ qk_ Sz_ Nn_ Hs_ Gs_ (fits_nar_byte _) W z.toNatClampNeg rfl (by simp [hl])
  replace E_a1 := E_a1.wr W
  replace F_value_a1 := F_value_a1.other W (Or.inl ne_a1_bn)
  replace F_coder_a1 := F_coder_a1.other W (Or.inl ne_a1_bn)
  replace F_count_a1 := F_count_a1.other W (Or.inl ne_a1_bn)
  replace E_va := E_va.wr W
  replace V_va := V_va.other W ne_va_bn
  replace E_bn := E_bn.wr W
  replace O := O.wr W g_bn
  replace K0 := K0.wr W (Or.inr sz_bn)
  replace N := Fr.snoc X N g_bn
  refine own_via (g' := (mkF m 42 #[.val (.ref a1), .val (.int ch)] [])) st ?_
  replace V_bn : Arv Z h3 bn kbn .byte (z + (z + (2 : Int32))) (cs ++ [Value.int (own_sb ch)]) (.int 0) := by rw [← own_setEnd hl]; exact V_bn
  refine own_via (g' := (mkF m 76 #[.val (.ref a1), .val (.int ch)] [(.ref a1)])) (fun t_ k_ => XS.goto X.here hx rfl (pc0 := 42) (pc' := 75) rfl (hb hby ej68m31_d42) (by decide) (by decide) (XS.aloadN X.here hx rfl (hb hby ej68m31_d75) rfl rfl k_)) ?_
  refine own_retW X hx hlk Bd.returns rfl (Or.inr (Or.inr (Or.inr (Or.inr ⟨rfl, rfl, rfl⟩)))) (hb hby ej68m31_d76) (by decide) (by decide) ?_
  rw [eT]
  exact ⟨bn, _, rfl, N, K0, sz_bn, F_value_a1, F_coder_a1, F_count_a1, V_bn, E_bn⟩
theorem ej67m14_d0 : decode jdk_67_method_14_code 0 = .ok (.aload_n 0, 1) := by decide +kernel
theorem ej67m14_d1 : decode jdk_67_method_14_code 1 = .ok (.iload_n 1, 1) := by decide +kernel
theorem ej67m14_d2 : decode jdk_67_method_14_code 2 = .ok (.invokespecial 50, 3) := by decide +kernel
theorem ej67m14_d5 : decode jdk_67_method_14_code 5 = .ok (.pop, 1) := by decide +kernel
theorem ej67m14_d6 : decode jdk_67_method_14_code 6 = .ok (.aload_n 0, 1) := by decide +kernel
theorem ej67m14_d7 : decode jdk_67_method_14_code 7 = .ok (.areturn, 1) := by decide +kernel
theorem own_sappG_pn : plainFor (⟨"java/lang/StringBuilder", "append", "(C)Ljava/lang/StringBuilder;"⟩ : MethodName) = true := by first | exact plainFor_of_name (by first | (simp [plainName, overriddenIn]; done) | decide +kernel) | decide +kernel | exact Jvm.Free.JP.mathPlain rfl (by decide +kernel)
theorem own_sappG_ef (m : MethodId) (x0 : Addr) (x1 : Int32) : entryFrame m #[(.ref x0), (.int x1)] 2 = mkF m 0 #[.val (.ref x0), .val (.int x1)] [] := by first | (simp [entryFrame, mkF, argsToLocals, Value.category]; done) | rfl
def own_sappG_Q (Z : State) (a1 : Addr) (ch : Int32) (va : Addr) (kv : ClassId) (z : Int32) (cs : List Value) (zc : Int32) (h0 : Heap) (n0 : Nat) (v : Option Value) (h : Heap) (L : List Loc) : Prop := ∃ b kb, v = some (.ref a1) ∧ Fr n0 L ∧ Keep h0 h [a1] ∧ h0.size ≤ b ∧ Fld Z h a1 "java/lang/AbstractStringBuilder" "value" "[B" (.ref b) ∧ Fld Z h a1 "java/lang/AbstractStringBuilder" "coder" "B" (.int 0) ∧ Fld Z h a1 "java/lang/AbstractStringBuilder" "count" "I" (.int (z + (1 : Int32))) ∧ Arv Z h b kb .byte (z + (z + (2 : Int32))) (cs ++ [Value.int (own_sb ch)]) (.int 0) ∧ Exa Z h b "[B"
set_option maxRecDepth 65536 in
set_option maxHeartbeats 40000000 in
theorem own_sappG (l : Launch) (Z : State) (a0 : Array Value) (hw : ∀ d ∈ tables_1, d.before a0 Z = true) (ws : List Jvm.Cond) (a1 : Addr) (ch : Int32) (va : Addr) (kv : ClassId) (z : Int32) (cs : List Value) (zc : Int32) (h0 : Heap) (n0 : Nat) (O : Old Z n0 h0) (E_a1 : Exa Z h0 a1 "java/lang/StringBuilder") (F_value_a1 : Fld Z h0 a1 "java/lang/AbstractStringBuilder" "value" "[B" (.ref va)) (F_coder_a1 : Fld Z h0 a1 "java/lang/AbstractStringBuilder" "coder" "B" (.int 0)) (F_count_a1 : Fld Z h0 a1 "java/lang/AbstractStringBuilder" "count" "I" (.int z)) (E_va : Exa Z h0 va "[B") (V_va : Arv Z h0 va kv .byte z cs (.int 0)) (hz : z ∈ own_D1) (hl : cs.length = z.toNatClampNeg) (g_a1 : n0 ≤ a1) (hch : ¬ 255 < ch) (S_C : Sta Z Z.heap "java/lang/String" "COMPACT_STRINGS" "Z" (.int zc)) (hzc : ¬ zc = 0) :
    MetFree l (⟨"java/lang/StringBuilder", "append", "(C)Ljava/lang/StringBuilder;"⟩ : MethodName) (head1 (Jvm.Cond.code (⟨"java/lang/StringBuilder", "append", "(C)Ljava/lang/StringBuilder;"⟩ : MethodName) jdk_67_method_14_code 2 (some (.object "java/lang/StringBuilder")) :: ws) ({ frames := 5, cells := 1, slots := 18, locals := 75 } : Room)) (fun a U => a = #[(.ref a1), (.int ch)] ∧ Z.Warmed39 U.vm ∧ U.heap = h0) (fun _ _ _ _ _ => True) (fun _ U o U' => ∃ v L, o = .returned v ∧ own_sappG_Q Z a1 ch va kv z cs zc h0 n0 v U'.heap L ∧ FrameEnd U o U' L ({ frames := 5, cells := 1, slots := 18, locals := 75 } : Room).cells ({ frames := 5, cells := 1, slots := 18, locals := 75 } : Room).slots) := by
  refine MetFree.of_bodySF own_sappG_pn hisR ?_
  intro p e s m args below meth c s₁ Bd hml0 hP hK
  obtain ⟨rfl, hZ, hh⟩ := hP
  have hx := Bd.exec
  have hby := Bd.bytes
  have hlk := Bd.notSynchronized
  have hml : c.maxLocals = 2 := hml0
  have hown : s.vm.findClass "java/lang/StringBuilder" = some m.cls := findClass_of_methodNamed Bd.named
  have hnm := (name_of_methodNamed Bd.named Bd.method).1
  have X : Stand p l e ({ frames := 5, cells := 1, slots := 18, locals := 75 } : Room) s m #[(.ref a1), (.int ch)] below meth c s₁ [] 0 0 := Stand.of_body Bd
  have eT : s₁.heap = h0 := by rw [← hh, Bd.state]; rfl
  have N := Fr.nil n0
  have K0 := Keep.refl h0 [a1]
  show own_Ends p e below (own_Post s below (own_sappG_Q Z a1 ch va kv z cs zc h0 n0) ({ frames := 5, cells := 1, slots := 18, locals := 75 } : Room).cells ({ frames := 5, cells := 1, slots := 18, locals := 75 } : Room).slots) s₁ (entryFrame m #[(.ref a1), (.int ch)] 2)
  rw [own_sappG_ef m a1 ch]
  obtain ⟨T, hT⟩ : ∃ z, z = s₁ := ⟨_, rfl⟩
  rw [← hT] at X eT ⊢
  obtain ⟨h, hh0⟩ : ∃ z, z = h0 := ⟨_, rfl⟩
  rw [← hh0] at eT
  replace O : Old Z n0 h := by rw [hh0]; exact O
  replace K0 : Keep h0 h [a1] := by rw [hh0]; exact K0
  rw [← hh0] at E_a1
  rw [← hh0] at F_value_a1
  rw [← hh0] at F_coder_a1
  rw [← hh0] at F_count_a1
  rw [← hh0] at E_va
  rw [← hh0] at V_va
  have ne_a1_va := Exa.ne E_a1 E_va (by decide)
  refine own_via (g' := (mkF m 2 #[.val (.ref a1), .val (.int ch)] [(.int ch), (.ref a1)])) (fun t_ k_ => XS.aloadN X.here hx rfl (hb hby ej67m14_d0) rfl rfl (XS.iloadN X.here hx rfl (hb hby ej67m14_d1) rfl k_)) ?_
  obtain ⟨_, _, ⟨T, Lq, kq, nq⟩, -, X, ⟨Lc, hQ, lq, yq, zq⟩, st⟩ := superBack X hx hZ (y := own_y8) hown (hw _ (own_w 31 rfl)) (own_same (hw _ (own_w 34 rfl)) (own_nf (hw _ (own_w 41 rfl)) rfl) (by decide)) (hw _ (own_w 32 rfl)) (hw _ (own_w 33 rfl)) (by decide) (backOf (W := 0) (own_appG l Z a0 hw [] a1 ch va kv z cs zc h n0 O E_a1 F_value_a1 F_coder_a1 F_count_a1 E_va V_va hz hl g_a1 hch S_C hzc) hZ (hw _ (own_w 35 rfl)) (hw _ (own_w 15 rfl)) (by decide) (by decide)) eT (Ins.self E_a1) (g := (mkF m 2 #[.val (.ref a1), .val (.int ch)] [(.int ch), (.ref a1)])) rfl (by rw [hml]; rfl) (hw _ (own_w 35 rfl)) (argsL := [(.int ch)]) (rest := []) (lenOf own_pd7 rfl) rfl (by show 2 * 0 + _ ≤ _; exact Nat.le_of_eq rfl) (hb hby ej67m14_d2) (fun _ _ => ⟨rfl, eT, (by decide : 0 + 1 ≤ _), (by decide : 0 + 18 ≤ _)⟩)
  dsimp only [Pt.U, Pt.locs, Pt.cells, Pt.slots] at X lq yq zq st hQ
  subst lq yq zq
  obtain ⟨bn, kbn, rfl, Nq, Kq, szq, F_value_a1, F_coder_a1, F_count_a1, V_bn, E_bn⟩ := hQ
  replace N := Fr.app N Nq
  obtain ⟨h1, eT⟩ : ∃ z, T.heap = z := ⟨_, rfl⟩
  rw [eT] at Kq F_value_a1 F_coder_a1 F_count_a1 V_bn E_bn
  have ne_a1_bn : a1 ≠ bn := Nat.ne_of_lt (Nat.lt_of_lt_of_le E_a1.lt szq)
  have ne_va_bn : va ≠ bn := Nat.ne_of_lt (Nat.lt_of_lt_of_le E_va.lt szq)
  have g_bn : n0 ≤ bn := Nat.le_trans (own_le O) szq
  have sz_bn : h0.size ≤ bn := Nat.le_trans K0.1 szq
  replace E_a1 := E_a1.keep Kq
  replace E_va := E_va.keep Kq
  replace V_va := V_va.keep Kq (ninS (Ne.symm ne_a1_va) nin0)
  replace O := O.keep Kq (allS g_a1 all0)
  replace K0 := K0.trans Kq (allS (Or.inl (List.mem_of_getElem? (i := 0) rfl)) all0)
  refine own_viaT (g' := (mkF m 5 #[.val (.ref a1), .val (.int ch)] [(.ref a1)])) st ?_
  refine own_via (g' := (mkF m 7 #[.val (.ref a1), .val (.int ch)] [(.ref a1)])) (fun t_ k_ => XS.pop X.here hx rfl (hb hby ej67m14_d5) rfl rfl (XS.aloadN X.here hx rfl (hb hby ej67m14_d6) rfl rfl k_)) ?_
  refine own_retW X hx hlk Bd.returns rfl (Or.inr (Or.inr (Or.inr (Or.inr ⟨rfl, rfl, rfl⟩)))) (hb hby ej67m14_d7) (by decide) (by decide) ?_
  rw [eT]
  exact ⟨bn, _, rfl, N, K0, sz_bn, F_value_a1, F_coder_a1, F_count_a1, V_bn, E_bn⟩
theorem own_ensN_pn : plainFor (⟨"java/lang/AbstractStringBuilder", "ensureCapacityInternal", "(I)V"⟩ : MethodName) = true := by first | exact plainFor_of_name (by first | (simp [plainName, overriddenIn]; done) | decide +kernel) | decide +kernel | exact Jvm.Free.JP.mathPlain rfl (by decide +kernel)
theorem own_ensN_ef (m : MethodId) (x0 : Addr) (x1 : Int32) : entryFrame m #[(.ref x0), (.int x1)] 3 = mkF m 0 #[.val (.ref x0), .val (.int x1), .unset] [] := by first | (simp [entryFrame, mkF, argsToLocals, Value.category]; done) | rfl
def own_ensN_Q (Z : State) (a1 : Addr) (p1 : Int32) (va : Addr) (kv : ClassId) (n : Int32) (z : Int32) (cs : List Value) (h0 : Heap) (n0 : Nat) (v : Option Value) (h : Heap) (L : List Loc) : Prop := v = none ∧ Fr n0 L ∧ h = h0
set_option maxRecDepth 65536 in
set_option maxHeartbeats 40000000 in
theorem own_ensN (l : Launch) (Z : State) (a0 : Array Value) (hw : ∀ d ∈ tables_1, d.before a0 Z = true) (ws : List Jvm.Cond) (a1 : Addr) (p1 : Int32) (va : Addr) (kv : ClassId) (n : Int32) (z : Int32) (cs : List Value) (h0 : Heap) (n0 : Nat) (O : Old Z n0 h0) (E_a1 : Exa Z h0 a1 "java/lang/StringBuilder") (F_value_a1 : Fld Z h0 a1 "java/lang/AbstractStringBuilder" "value" "[B" (.ref va)) (F_coder_a1 : Fld Z h0 a1 "java/lang/AbstractStringBuilder" "coder" "B" (.int 0)) (F_count_a1 : Fld Z h0 a1 "java/lang/AbstractStringBuilder" "count" "I" (.int n)) (E_va : Exa Z h0 va "[B") (V_va : Arv Z h0 va kv .byte z cs (.int 0)) (hroom : ¬ (0 : Int32) < (p1 - z)) :
    MetFree l (⟨"java/lang/AbstractStringBuilder", "ensureCapacityInternal", "(I)V"⟩ : MethodName) (head1 (Jvm.Cond.code (⟨"java/lang/AbstractStringBuilder", "ensureCapacityInternal", "(I)V"⟩ : MethodName) jdk_68_method_9_code 3 none :: ws) ({ frames := 0, cells := 0, slots := 0, locals := 0 } : Room)) (fun a U => a = #[(.ref a1), (.int p1)] ∧ Z.Warmed39 U.vm ∧ U.heap = h0) (fun _ _ _ _ _ => True) (fun _ U o U' => ∃ v L, o = .returned v ∧ own_ensN_Q Z a1 p1 va kv n z cs h0 n0 v U'.heap L ∧ FrameEnd U o U' L ({ frames := 0, cells := 0, slots := 0, locals := 0 } : Room).cells ({ frames := 0, cells := 0, slots := 0, locals := 0 } : Room).slots) := by
  refine MetFree.of_bodySF own_ensN_pn hisR ?_
  intro p e s m args below meth c s₁ Bd hml0 hP hK
  obtain ⟨rfl, hZ, hh⟩ := hP
  have hx := Bd.exec
  have hby := Bd.bytes
  have hlk := Bd.notSynchronized
  have hml : c.maxLocals = 3 := hml0
  have hown : s.vm.findClass "java/lang/AbstractStringBuilder" = some m.cls := findClass_of_methodNamed Bd.named
  have hnm := (name_of_methodNamed Bd.named Bd.method).1
  have X : Stand p l e ({ frames := 0, cells := 0, slots := 0, locals := 0 } : Room) s m #[(.ref a1), (.int p1)] below meth c s₁ [] 0 0 := Stand.of_body Bd
  have eT : s₁.heap = h0 := by rw [← hh, Bd.state]; rfl
  have N := Fr.nil n0
  have K0 := Keep.refl h0 []
  show own_Ends p e below (own_Post s below (own_ensN_Q Z a1 p1 va kv n z cs h0 n0) ({ frames := 0, cells := 0, slots := 0, locals := 0 } : Room).cells ({ frames := 0, cells := 0, slots := 0, locals := 0 } : Room).slots) s₁ (entryFrame m #[(.ref a1), (.int p1)] 3)
  rw [own_ensN_ef m a1 p1]
  obtain ⟨T, hT⟩ : ∃ z, z = s₁ := ⟨_, rfl⟩
  rw [← hT] at X eT ⊢
  obtain ⟨h, hh0⟩ : ∃ z, z = h0 := ⟨_, rfl⟩
  rw [← hh0] at eT
  replace O : Old Z n0 h := by rw [hh0]; exact O
  replace K0 : Keep h0 h [] := by rw [hh0]; exact K0
  rw [← hh0] at E_a1
  rw [← hh0] at F_value_a1
  rw [← hh0] at F_coder_a1
  rw [← hh0] at F_count_a1
  rw [← hh0] at E_va
  rw [← hh0] at V_va
  have ne_a1_va := Exa.ne E_a1 E_va (by decide)
  refine own_via (g' := (mkF m 1 (own_L28 a1 p1) [(.ref a1)])) (fun t_ k_ => XS.aloadN X.here hx rfl (hb hby ej68m9_d0) rfl rfl k_) ?_
  obtain ⟨T, X, eT, st⟩ := getF X hx hZ hown (host := "") (Or.inl (hw _ (own_w 22 rfl))) Via.refl eT F_value_a1 (g := (mkF m 1 (own_L28 a1 p1) [(.ref a1)])) rfl rfl (hb hby ej68m9_d1)
  refine own_via (g' := (mkF m 4 (own_L28 a1 p1) [(.ref va)])) st ?_
  obtain ⟨cl_, Ar_, -, Sz_, Nn_, -, -⟩ := id V_va
  refine own_via (g' := (mkF m 5 (own_L28 a1 p1) [(.int z)])) (fun t_ k_ => X.arraylength hx (by rw [eT]; exact Ar_.1) (State.isArrayOf_alike hZ.alike Ar_.2.1) (g := (mkF m 4 (own_L28 a1 p1) [(.ref va)])) rfl rfl (hb hby ej68m9_d4) _ (by rw [len_of Sz_ Nn_]; exact k_)) ?_
  refine own_via (g' := (mkF m 6 (own_L28 a1 p1) [(.ref a1), (.int z)])) (fun t_ k_ => XS.aloadN X.here hx rfl (hb hby ej68m9_d5) rfl rfl k_) ?_
  obtain ⟨T, X, eT, st⟩ := getF X hx hZ hown (host := "") (Or.inl (hw _ (own_w 24 rfl))) Via.refl eT F_coder_a1 (g := (mkF m 6 (own_L28 a1 p1) [(.ref a1), (.int z)])) rfl rfl (hb hby ej68m9_d6)
  refine own_via (g' := (mkF m 9 (own_L28 a1 p1) [(.int 0), (.int z)])) st ?_
  refine own_via (g' := (mkF m 10 (own_L28 a1 p1) [(.int (z >>> ((0 : Int32) &&& 31)))])) (fun t_ k_ => XS.ishr X.here hx rfl (hb hby ej68m9_d9) rfl k_) ?_
  rw [own_shr0]
  refine own_via (g' := (mkF m 38 (own_L26 a1 p1 z) [])) (fun t_ k_ => XS.istoreN X.here hx rfl (hb hby ej68m9_d10) rfl (l' := (own_L26 a1 p1 z)) rfl (XS.iloadN X.here hx rfl (hb hby ej68m9_d11) rfl (XS.iloadN X.here hx rfl (hb hby ej68m9_d12) rfl (XS.isub X.here hx rfl (hb hby ej68m9_d13) rfl (XS.ifYes X.here hx rfl (pc0 := 14) (pc' := 38) rfl (hb hby ej68m9_d14) rfl ((if0 _ _).trans (flt hroom).2.2.2) (by decide) (by decide) k_))))) ?_
  refine own_retV X hx hlk Bd.returns (hb hby ej68m9_d38) (by decide) (by decide) ?_
  rw [eT]
  exact ⟨rfl, N, hh0⟩
theorem own_appN_pn : plainFor (⟨"java/lang/AbstractStringBuilder", "append", "(C)Ljava/lang/AbstractStringBuilder;"⟩ : MethodName) = true := by first | exact plainFor_of_name (by first | (simp [plainName, overriddenIn]; done) | decide +kernel) | decide +kernel | exact Jvm.Free.JP.mathPlain rfl (by decide +kernel)
theorem own_appN_ef (m : MethodId) (x0 : Addr) (x1 : Int32) : entryFrame m #[(.ref x0), (.int x1)] 2 = mkF m 0 #[.val (.ref x0), .val (.int x1)] [] := by first | (simp [entryFrame, mkF, argsToLocals, Value.category]; done) | rfl
def own_appN_Q (Z : State) (a1 : Addr) (ch : Int32) (va : Addr) (kv : ClassId) (n : Int32) (z : Int32) (cs : List Value) (zc : Int32) (h0 : Heap) (n0 : Nat) (v : Option Value) (h : Heap) (L : List Loc) : Prop := v = some (.ref a1) ∧ Fr n0 L ∧ Keep h0 h [a1, va] ∧ Fld Z h a1 "java/lang/AbstractStringBuilder" "value" "[B" (.ref va) ∧ Fld Z h a1 "java/lang/AbstractStringBuilder" "coder" "B" (.int 0) ∧ Fld Z h a1 "java/lang/AbstractStringBuilder" "count" "I" (.int (n + (1 : Int32))) ∧ Arv Z h va kv .byte z (cs ++ [Value.int (own_sb ch)]) (.int 0)
set_option maxRecDepth 65536 in
set_option maxHeartbeats 40000000 in
theorem own_appN (l : Launch) (Z : State) (a0 : Array Value) (hw : ∀ d ∈ tables_1, d.before a0 Z = true) (ws : List Jvm.Cond) (a1 : Addr) (ch : Int32) (va : Addr) (kv : ClassId) (n : Int32) (z : Int32) (cs : List Value) (zc : Int32) (h0 : Heap) (n0 : Nat) (O : Old Z n0 h0) (E_a1 : Exa Z h0 a1 "java/lang/StringBuilder") (F_value_a1 : Fld Z h0 a1 "java/lang/AbstractStringBuilder" "value" "[B" (.ref va)) (F_coder_a1 : Fld Z h0 a1 "java/lang/AbstractStringBuilder" "coder" "B" (.int 0)) (F_count_a1 : Fld Z h0 a1 "java/lang/AbstractStringBuilder" "count" "I" (.int n)) (E_va : Exa Z h0 va "[B") (V_va : Arv Z h0 va kv .byte z cs (.int 0)) (hroom : ¬ (0 : Int32) < ((n + (1 : Int32)) - z)) (hin : ¬ n < 0 ∧ n < z) (hl : cs.length = n.toNatClampNeg) (g_a1 : n0 ≤ a1) (g_va : n0 ≤ va) (hch : ¬ 255 < ch) (S_C : Sta Z Z.heap "java/lang/String" "COMPACT_STRINGS" "Z" (.int zc)) (hzc : ¬ zc = 0) :
    MetFree l (⟨"java/lang/AbstractStringBuilder", "append", "(C)Ljava/lang/AbstractStringBuilder;"⟩ : MethodName) (head1 (Jvm.Cond.code (⟨"java/lang/AbstractStringBuilder", "append", "(C)Ljava/lang/AbstractStringBuilder;"⟩ : MethodName) jdk_68_method_31_code 2 (some (.object "java/lang/AbstractStringBuilder")) :: ws) ({ frames := 1, cells := 0, slots := 0, locals := 14 } : Room)) (fun a U => a = #[(.ref a1), (.int ch)] ∧ Z.Warmed39 U.vm ∧ U.heap = h0) (fun _ _ _ _ _ => True) (fun _ U o U' => ∃ v L, o = .returned v ∧ own_appN_Q Z a1 ch va kv n z cs zc h0 n0 v U'.heap L ∧ FrameEnd U o U' L ({ frames := 1, cells := 0, slots := 0, locals := 14 } : Room).cells ({ frames := 1, cells := 0, slots := 0, locals := 14 } : Room).slots) := by
  refine MetFree.of_bodySF own_appN_pn hisR ?_
  intro p e s m args below meth c s₁ Bd hml0 hP hK
  obtain ⟨rfl, hZ, hh⟩ := hP
  have hx := Bd.exec
  have hby := Bd.bytes
  have hlk := Bd.notSynchronized
  have hml : c.maxLocals = 2 := hml0
  have hown : s.vm.findClass "java/lang/AbstractStringBuilder" = some m.cls := findClass_of_methodNamed Bd.named
  have hnm := (name_of_methodNamed Bd.named Bd.method).1
  have X : Stand p l e ({ frames := 1, cells := 0, slots := 0, locals := 14 } : Room) s m #[(.ref a1), (.int ch)] below meth c s₁ [] 0 0 := Stand.of_body Bd
  have eT : s₁.heap = h0 := by rw [← hh, Bd.state]; rfl
  have N := Fr.nil n0
  have K0 := Keep.refl h0 [a1, va]
  show own_Ends p e below (own_Post s below (own_appN_Q Z a1 ch va kv n z cs zc h0 n0) ({ frames := 1, cells := 0, slots := 0, locals := 14 } : Room).cells ({ frames := 1, cells := 0, slots := 0, locals := 14 } : Room).slots) s₁ (entryFrame m #[(.ref a1), (.int ch)] 2)
  rw [own_appN_ef m a1 ch]
  obtain ⟨T, hT⟩ : ∃ z, z = s₁ := ⟨_, rfl⟩
  rw [← hT] at X eT ⊢
  obtain ⟨h, hh0⟩ : ∃ z, z = h0 := ⟨_, rfl⟩
  rw [← hh0] at eT
  replace O : Old Z n0 h := by rw [hh0]; exact O
  replace K0 : Keep h0 h [a1, va] := by rw [hh0]; exact K0
  rw [← hh0] at E_a1
  rw [← hh0] at F_value_a1
  rw [← hh0] at F_coder_a1
  rw [← hh0] at F_count_a1
  rw [← hh0] at E_va
  rw [← hh0] at V_va
  have ne_a1_va := Exa.ne E_a1 E_va (by decide)
  refine own_via (g' := (mkF m 2 #[.val (.ref a1), .val (.int ch)] [(.ref a1), (.ref a1)])) (fun t_ k_ => XS.aloadN X.here hx rfl (hb hby ej68m31_d0) rfl rfl (XS.aloadN X.here hx rfl (hb hby ej68m31_d1) rfl rfl k_)) ?_
  obtain ⟨T, X, eT, st⟩ := getF X hx hZ hown (host := "") (Or.inl (hw _ (own_w 36 rfl))) Via.refl eT F_count_a1 (g := (mkF m 2 #[.val (.ref a1), .val (.int ch)] [(.ref a1), (.ref a1)])) rfl rfl (hb hby ej68m31_d2)
  refine own_via (g' := (mkF m 5 #[.val (.ref a1), .val (.int ch)] [(.int n), (.ref a1)])) st ?_
  refine own_via (g' := (mkF m 7 #[.val (.ref a1), .val (.int ch)] [(.int (n + (1 : Int32))), (.ref a1)])) (fun t_ k_ => XS.iconst X.here hx rfl (hb hby ej68m31_d5) (XS.iadd X.here hx rfl (hb hby ej68m31_d6) rfl k_)) ?_
  obtain ⟨cq, kq, qa, qb, qc⟩ := isOf hZ eT E_a1
  obtain ⟨_, _, ⟨T, Lq, kq, nq⟩, -, X, ⟨Lc, hQ, lq, yq, zq⟩, st⟩ := X.virtualBack hx (y := own_y5) (z := own_y5) hown (mvT hZ (hw _ (own_w 38 rfl))) (own_decl (mvT hZ (hw _ (own_w 39 rfl))) (mvT hZ (hw _ (own_w 42 rfl)))) (notFace_of_selects (args := #[]) (mvT hZ (hw _ (own_w 41 rfl)))) (mvT hZ (hw _ (own_w 41 rfl))) (mvT hZ (hw _ (own_w 39 rfl))) (by decide) (backOf (W := 0) (own_ensN l Z a0 hw [] a1 (n + (1 : Int32)) va kv n z cs h n0 O E_a1 F_value_a1 F_coder_a1 F_count_a1 E_va V_va hroom) hZ (hw _ (own_w 42 rfl)) (hw _ (own_w 15 rfl)) (by decide) (by decide)) qa qc (g := (mkF m 7 #[.val (.ref a1), .val (.int ch)] [(.int (n + (1 : Int32))), (.ref a1)])) rfl (by rw [hml]; rfl) (Steps.refl _) (argsL := [(.int (n + (1 : Int32)))]) (rest := []) (lenOf own_pd4 rfl) rfl (by show 2 * 0 + _ ≤ _; exact Nat.le_of_eq rfl) (hb hby ej68m31_d7) (fun _ _ => ⟨rfl, eT, (by decide : 0 + 0 ≤ _), (by decide : 0 + 0 ≤ _)⟩)
  dsimp only [Pt.U, Pt.locs, Pt.cells, Pt.slots] at X lq yq zq st hQ
  subst lq yq zq
  obtain ⟨rfl, Nq, eT⟩ := hQ
  replace N := Fr.app N Nq
  refine own_viaT (g' := (mkF m 10 #[.val (.ref a1), .val (.int ch)] [])) st ?_
  refine own_via (g' := (mkF m 11 #[.val (.ref a1), .val (.int ch)] [(.ref a1)])) (fun t_ k_ => XS.aloadN X.here hx rfl (hb hby ej68m31_d10) rfl rfl k_) ?_
  obtain ⟨cq, kq, qa, qb, qc⟩ := isOf hZ eT E_a1
  obtain ⟨_, _, ⟨T, Lq, kq, nq⟩, -, X, ⟨Lc, hQ, lq, yq, zq⟩, st⟩ := X.virtualBack hx (y := own_y6) (z := own_y6) hown (mvT hZ (hw _ (own_w 43 rfl))) (mvT hZ (hw _ (own_w 44 rfl))) (notFace_of_selects (args := #[]) (mvT hZ (hw _ (own_w 46 rfl)))) (mvT hZ (hw _ (own_w 46 rfl))) (mvT hZ (hw _ (own_w 45 rfl))) (by decide) (backOf (W := 0) (own_isl l Z a0 hw [] a1 zc h n0 O F_coder_a1 S_C hzc) hZ (hw _ (own_w 47 rfl)) (hw _ (own_w 15 rfl)) (by decide) (by decide)) qa qc (g := (mkF m 11 #[.val (.ref a1), .val (.int ch)] [(.ref a1)])) rfl (by rw [hml]; rfl) (Steps.refl _) (argsL := []) (rest := []) (lenOf own_pd5 rfl) rfl (by show 2 * 0 + _ ≤ _; exact Nat.le_of_eq rfl) (hb hby ej68m31_d11) (fun _ _ => ⟨rfl, eT, (by decide : 0 + 0 ≤ _), (by decide : 0 + 0 ≤ _)⟩)
  dsimp only [Pt.U, Pt.locs, Pt.cells, Pt.slots] at X lq yq zq st hQ
  subst lq yq zq
  obtain ⟨rfl, Nq, eT⟩ := hQ
  replace N := Fr.app N Nq
  refine own_viaT (g' := (mkF m 14 #[.val (.ref a1), .val (.int ch)] [(.int 1)])) st ?_
  refine own_via (g' := (mkF m 18 #[.val (.ref a1), .val (.int ch)] [(.int ch)])) (fun t_ k_ => XS.ifNo X.here hx rfl (hb hby ej68m31_d14) rfl ((if0 _ _).trans (feq (by decide : ¬ ((1 : Int32) = (0 : Int32)))).1) (XS.iloadN X.here hx rfl (hb hby ej68m31_d17) rfl k_)) ?_
  obtain ⟨_, _, ⟨T, Lq, kq, nq⟩, -, X, ⟨Lc, hQ, lq, yq, zq⟩, st⟩ := Jvm.LawKit.callS X hx (y := own_y7) hown (mvT hZ (hw _ (own_w 48 rfl))) (mvT hZ (hw _ (own_w 49 rfl))) (mvT hZ (hw _ (own_w 50 rfl))) (mvT hZ (hw _ (own_w 51 rfl))) (by decide) (backOf (W := 0) (own_can l Z a0 hw [] ch h n0 O hch) hZ (hw _ (own_w 51 rfl)) (hw _ (own_w 50 rfl)) (by decide) (by decide)) (g := (mkF m 18 #[.val (.ref a1), .val (.int ch)] [(.int ch)])) rfl (by rw [hml]; rfl) (argsL := [(.int ch)]) (rest := []) (lenOf own_pd6 rfl) rfl (by show 2 * 0 + _ ≤ _; exact Nat.le_of_eq rfl) (hb hby ej68m31_d18) (fun _ _ => ⟨rfl, eT, (by decide : 0 + 0 ≤ _), (by decide : 0 + 0 ≤ _)⟩)
  dsimp only [Pt.U, Pt.locs, Pt.cells, Pt.slots] at X lq yq zq st hQ
  subst lq yq zq
  obtain ⟨rfl, Nq, eT⟩ := hQ
  replace N := Fr.app N Nq
  refine own_via (g' := (mkF m 21 #[.val (.ref a1), .val (.int ch)] [(.int 1)])) st ?_
  refine own_via (g' := (mkF m 25 #[.val (.ref a1), .val (.int ch)] [(.ref a1)])) (fun t_ k_ => XS.ifNo X.here hx rfl (hb hby ej68m31_d21) rfl ((if0 _ _).trans (feq (by decide : ¬ ((1 : Int32) = (0 : Int32)))).1) (XS.aloadN X.here hx rfl (hb hby ej68m31_d24) rfl rfl k_)) ?_
  obtain ⟨T, X, eT, st⟩ := getF X hx hZ hown (host := "") (Or.inl (hw _ (own_w 22 rfl))) Via.refl eT F_value_a1 (g := (mkF m 25 #[.val (.ref a1), .val (.int ch)] [(.ref a1)])) rfl rfl (hb hby ej68m31_d25)
  refine own_via (g' := (mkF m 28 #[.val (.ref a1), .val (.int ch)] [(.ref va)])) st ?_
  refine own_via (g' := (mkF m 30 #[.val (.ref a1), .val (.int ch)] [(.ref a1), (.ref a1), (.ref va)])) (fun t_ k_ => XS.aloadN X.here hx rfl (hb hby ej68m31_d28) rfl rfl (XS.dup X.here hx rfl (hb hby ej68m31_d29) rfl rfl k_)) ?_
  obtain ⟨T, X, eT, st⟩ := getF X hx hZ hown (host := "") (Or.inl (hw _ (own_w 36 rfl))) Via.refl eT F_count_a1 (g := (mkF m 30 #[.val (.ref a1), .val (.int ch)] [(.ref a1), (.ref a1), (.ref va)])) rfl rfl (hb hby ej68m31_d30)
  refine own_via (g' := (mkF m 33 #[.val (.ref a1), .val (.int ch)] [(.int n), (.ref a1), (.ref va)])) st ?_
  refine own_via (g' := (mkF m 36 #[.val (.ref a1), .val (.int ch)] [(.int (n + (1 : Int32))), (.ref a1), (.int n), (.ref va)])) (fun t_ k_ => XS.dupX1 X.here hx rfl (hb hby ej68m31_d33) rfl rfl rfl (XS.iconst X.here hx rfl (hb hby ej68m31_d34) (XS.iadd X.here hx rfl (hb hby ej68m31_d35) rfl k_))) ?_
  obtain ⟨T, h1, X, eT, W, st⟩ := putF X hx hZ hown (host := "") (Or.inl (hw _ (own_w 36 rfl))) Via.refl eT F_count_a1 E_a1 (Or.inl (hw _ (own_w 37 rfl))) (hw _ (own_w 6 rfl)) (ty := .int) (by decide) rfl rfl (g := (mkF m 36 #[.val (.ref a1), .val (.int ch)] [(.int (n + (1 : Int32))), (.ref a1), (.int n), (.ref va)])) rfl rfl (hb hby ej68m31_d36)
  replace F_count_a1 := F_count_a1.same W
  replace E_a1 := E_a1.wr W
  replace F_value_a1 := F_value_a1.other W (Or.inr (slot_ne (Or.inl (hw _ (own_w 23 rfl))) (Or.inl (hw _ (own_w 37 rfl))) (by decide) (t := (.array .byte)) (t' := .int) (by decide) (by decide)))
  replace F_coder_a1 := F_coder_a1.other W (Or.inr (slot_ne (Or.inl (hw _ (own_w 25 rfl))) (Or.inl (hw _ (own_w 37 rfl))) (by decide) (t := .byte) (t' := .int) (by decide) (by decide)))
  replace E_va := E_va.wr W
  replace V_va := V_va.other W (Ne.symm ne_a1_va)
  replace O := O.wr W g_a1
  replace K0 := K0.wr W (Or.inl (List.mem_of_getElem? (i := 0) rfl))
  replace N := Fr.snoc X N g_a1
  refine own_via (g' := (mkF m 39 #[.val (.ref a1), .val (.int ch)] [(.int n), (.ref va)])) st ?_
  refine own_via (g' := (mkF m 41 #[.val (.ref a1), .val (.int ch)] [(.int (ch.toInt8.toInt32)), (.int n), (.ref va)])) (fun t_ k_ => XS.iloadN X.here hx rfl (hb hby ej68m31_d39) rfl (XS.i2b X.here hx rfl (hb hby ej68m31_d40) rfl k_)) ?_
  replace V_va : Arv Z h1 va kv .byte z (cs ++ List.replicate 1 (Value.int (0 : Int32))) (.int 0) := V_va.pad (pad_rep cs (.int 0) 1)
  obtain ⟨cl_, Ar_, qk_, Sz_, Nn_, Hs_, Gs_⟩ := id V_va
  have hin_ : ¬ (n < 0 ∨ cl_.slots.size ≤ (n).toNatClampNeg) := inb_of Sz_ hin
  obtain ⟨T, h2, X, eT, W, st⟩ := stB X hx hZ eT Ar_ (j := n) hin_ (g := (mkF m 41 #[.val (.ref a1), .val (.int ch)] [(.int (ch.toInt8.toInt32)), (.int n), (.ref va)])) rfl rfl (hb hby ej68m31_d41)
  replace V_va : Arv Z h2 va kv .byte z ((cs ++ List.replicate 1 (Value.int (0 : Int32))).set n.toNatClampNeg (Value.int (((ch.toInt8.toInt32)).toInt8.toInt32))) (.int 0) := Arv.set Ar_ qk_ Sz_ Nn_ Hs_ Gs_ (fits_nar_byte _) W n.toNatClampNeg rfl (by simp [hl])
  replace E_a1 := E_a1.wr W
  replace F_value_a1 := F_value_a1.other W (Or.inl ne_a1_va)
  replace F_coder_a1 := F_coder_a1.other W (Or.inl ne_a1_va)
  replace F_count_a1 := F_count_a1.other W (Or.inl ne_a1_va)
  replace E_va := E_va.wr W
  replace O := O.wr W g_va
  replace K0 := K0.wr W (Or.inl (List.mem_of_getElem? (i := 1) rfl))
  replace N := Fr.snoc X N g_va
  refine own_via (g' := (mkF m 42 #[.val (.ref a1), .val (.int ch)] [])) st ?_
  replace V_va : Arv Z h2 va kv .byte z (cs ++ [Value.int (own_sb ch)]) (.int 0) := by rw [← own_setEnd hl]; exact V_va
  refine own_via (g' := (mkF m 76 #[.val (.ref a1), .val (.int ch)] [(.ref a1)])) (fun t_ k_ => XS.goto X.here hx rfl (pc0 := 42) (pc' := 75) rfl (hb hby ej68m31_d42) (by decide) (by decide) (XS.aloadN X.here hx rfl (hb hby ej68m31_d75) rfl rfl k_)) ?_
  refine own_retW X hx hlk Bd.returns rfl (Or.inr (Or.inr (Or.inr (Or.inr ⟨rfl, rfl, rfl⟩)))) (hb hby ej68m31_d76) (by decide) (by decide) ?_
  rw [eT]
  exact ⟨rfl, N, K0, F_value_a1, F_coder_a1, F_count_a1, V_va⟩
theorem own_sappN_pn : plainFor (⟨"java/lang/StringBuilder", "append", "(C)Ljava/lang/StringBuilder;"⟩ : MethodName) = true := by first | exact plainFor_of_name (by first | (simp [plainName, overriddenIn]; done) | decide +kernel) | decide +kernel | exact Jvm.Free.JP.mathPlain rfl (by decide +kernel)
theorem own_sappN_ef (m : MethodId) (x0 : Addr) (x1 : Int32) : entryFrame m #[(.ref x0), (.int x1)] 2 = mkF m 0 #[.val (.ref x0), .val (.int x1)] [] := by first | (simp [entryFrame, mkF, argsToLocals, Value.category]; done) | rfl
def own_sappN_Q (Z : State) (a1 : Addr) (ch : Int32) (va : Addr) (kv : ClassId) (n : Int32) (z : Int32) (cs : List Value) (zc : Int32) (h0 : Heap) (n0 : Nat) (v : Option Value) (h : Heap) (L : List Loc) : Prop := v = some (.ref a1) ∧ Fr n0 L ∧ Keep h0 h [a1, va] ∧ Fld Z h a1 "java/lang/AbstractStringBuilder" "value" "[B" (.ref va) ∧ Fld Z h a1 "java/lang/AbstractStringBuilder" "coder" "B" (.int 0) ∧ Fld Z h a1 "java/lang/AbstractStringBuilder" "count" "I" (.int (n + (1 : Int32))) ∧ Arv Z h va kv .byte z (cs ++ [Value.int (own_sb ch)]) (.int 0)
set_option maxRecDepth 65536 in
set_option maxHeartbeats 40000000 in
theorem own_sappN (l : Launch) (Z : State) (a0 : Array Value) (hw : ∀ d ∈ tables_1, d.before a0 Z = true) (ws : List Jvm.Cond) (a1 : Addr) (ch : Int32) (va : Addr) (kv : ClassId) (n : Int32) (z : Int32) (cs : List Value) (zc : Int32) (h0 : Heap) (n0 : Nat) (O : Old Z n0 h0) (E_a1 : Exa Z h0 a1 "java/lang/StringBuilder") (F_value_a1 : Fld Z h0 a1 "java/lang/AbstractStringBuilder" "value" "[B" (.ref va)) (F_coder_a1 : Fld Z h0 a1 "java/lang/AbstractStringBuilder" "coder" "B" (.int 0)) (F_count_a1 : Fld Z h0 a1 "java/lang/AbstractStringBuilder" "count" "I" (.int n)) (E_va : Exa Z h0 va "[B") (V_va : Arv Z h0 va kv .byte z cs (.int 0)) (hroom : ¬ (0 : Int32) < ((n + (1 : Int32)) - z)) (hin : ¬ n < 0 ∧ n < z) (hl : cs.length = n.toNatClampNeg) (g_a1 : n0 ≤ a1) (g_va : n0 ≤ va) (hch : ¬ 255 < ch) (S_C : Sta Z Z.heap "java/lang/String" "COMPACT_STRINGS" "Z" (.int zc)) (hzc : ¬ zc = 0) :
    MetFree l (⟨"java/lang/StringBuilder", "append", "(C)Ljava/lang/StringBuilder;"⟩ : MethodName) (head1 (Jvm.Cond.code (⟨"java/lang/StringBuilder", "append", "(C)Ljava/lang/StringBuilder;"⟩ : MethodName) jdk_67_method_14_code 2 (some (.object "java/lang/StringBuilder")) :: ws) ({ frames := 2, cells := 0, slots := 0, locals := 27 } : Room)) (fun a U => a = #[(.ref a1), (.int ch)] ∧ Z.Warmed39 U.vm ∧ U.heap = h0) (fun _ _ _ _ _ => True) (fun _ U o U' => ∃ v L, o = .returned v ∧ own_sappN_Q Z a1 ch va kv n z cs zc h0 n0 v U'.heap L ∧ FrameEnd U o U' L ({ frames := 2, cells := 0, slots := 0, locals := 27 } : Room).cells ({ frames := 2, cells := 0, slots := 0, locals := 27 } : Room).slots) := by
  refine MetFree.of_bodySF own_sappN_pn hisR ?_
  intro p e s m args below meth c s₁ Bd hml0 hP hK
  obtain ⟨rfl, hZ, hh⟩ := hP
  have hx := Bd.exec
  have hby := Bd.bytes
  have hlk := Bd.notSynchronized
  have hml : c.maxLocals = 2 := hml0
  have hown : s.vm.findClass "java/lang/StringBuilder" = some m.cls := findClass_of_methodNamed Bd.named
  have hnm := (name_of_methodNamed Bd.named Bd.method).1
  have X : Stand p l e ({ frames := 2, cells := 0, slots := 0, locals := 27 } : Room) s m #[(.ref a1), (.int ch)] below meth c s₁ [] 0 0 := Stand.of_body Bd
  have eT : s₁.heap = h0 := by rw [← hh, Bd.state]; rfl
  have N := Fr.nil n0
  have K0 := Keep.refl h0 [a1, va]
  show own_Ends p e below (own_Post s below (own_sappN_Q Z a1 ch va kv n z cs zc h0 n0) ({ frames := 2, cells := 0, slots := 0, locals := 27 } : Room).cells ({ frames := 2, cells := 0, slots := 0, locals := 27 } : Room).slots) s₁ (entryFrame m #[(.ref a1), (.int ch)] 2)
  rw [own_sappN_ef m a1 ch]
  obtain ⟨T, hT⟩ : ∃ z, z = s₁ := ⟨_, rfl⟩
  rw [← hT] at X eT ⊢
  obtain ⟨h, hh0⟩ : ∃ z, z = h0 := ⟨_, rfl⟩
  rw [← hh0] at eT
  replace O : Old Z n0 h := by rw [hh0]; exact O
  replace K0 : Keep h0 h [a1, va] := by rw [hh0]; exact K0
  rw [← hh0] at E_a1
  rw [← hh0] at F_value_a1
  rw [← hh0] at F_coder_a1
  rw [← hh0] at F_count_a1
  rw [← hh0] at E_va
  rw [← hh0] at V_va
  have ne_a1_va := Exa.ne E_a1 E_va (by decide)
  refine own_via (g' := (mkF m 2 #[.val (.ref a1), .val (.int ch)] [(.int ch), (.ref a1)])) (fun t_ k_ => XS.aloadN X.here hx rfl (hb hby ej67m14_d0) rfl rfl (XS.iloadN X.here hx rfl (hb hby ej67m14_d1) rfl k_)) ?_
  obtain ⟨_, _, ⟨T, Lq, kq, nq⟩, -, X, ⟨Lc, hQ, lq, yq, zq⟩, st⟩ := superBack X hx hZ (y := own_y8) hown (hw _ (own_w 31 rfl)) (own_same (hw _ (own_w 34 rfl)) (own_nf (hw _ (own_w 41 rfl)) rfl) (by decide)) (hw _ (own_w 32 rfl)) (hw _ (own_w 33 rfl)) (by decide) (backOf (W := 0) (own_appN l Z a0 hw [] a1 ch va kv n z cs zc h n0 O E_a1 F_value_a1 F_coder_a1 F_count_a1 E_va V_va hroom hin hl g_a1 g_va hch S_C hzc) hZ (hw _ (own_w 35 rfl)) (hw _ (own_w 15 rfl)) (by decide) (by decide)) eT (Ins.self E_a1) (g := (mkF m 2 #[.val (.ref a1), .val (.int ch)] [(.int ch), (.ref a1)])) rfl (by rw [hml]; rfl) (hw _ (own_w 35 rfl)) (argsL := [(.int ch)]) (rest := []) (lenOf own_pd7 rfl) rfl (by show 2 * 0 + _ ≤ _; exact Nat.le_of_eq rfl) (hb hby ej67m14_d2) (fun _ _ => ⟨rfl, eT, (by decide : 0 + 0 ≤ _), (by decide : 0 + 0 ≤ _)⟩)
  dsimp only [Pt.U, Pt.locs, Pt.cells, Pt.slots] at X lq yq zq st hQ
  subst lq yq zq
  obtain ⟨rfl, Nq, Kq, F_value_a1, F_coder_a1, F_count_a1, V_va⟩ := hQ
  replace N := Fr.app N Nq
  obtain ⟨h1, eT⟩ : ∃ z, T.heap = z := ⟨_, rfl⟩
  rw [eT] at Kq F_value_a1 F_coder_a1 F_count_a1 V_va
  replace E_a1 := E_a1.keep Kq
  replace E_va := E_va.keep Kq
  replace O := O.keep Kq (allS g_a1 (allS g_va all0))
  replace K0 := K0.trans Kq (allS (Or.inl (List.mem_of_getElem? (i := 0) rfl)) (allS (Or.inl (List.mem_of_getElem? (i := 1) rfl)) all0))
  refine own_viaT (g' := (mkF m 5 #[.val (.ref a1), .val (.int ch)] [(.ref a1)])) st ?_
  refine own_via (g' := (mkF m 7 #[.val (.ref a1), .val (.int ch)] [(.ref a1)])) (fun t_ k_ => XS.pop X.here hx rfl (hb hby ej67m14_d5) rfl rfl (XS.aloadN X.here hx rfl (hb hby ej67m14_d6) rfl rfl k_)) ?_
  refine own_retW X hx hlk Bd.returns rfl (Or.inr (Or.inr (Or.inr (Or.inr ⟨rfl, rfl, rfl⟩)))) (hb hby ej67m14_d7) (by decide) (by decide) ?_
  rw [eT]
  exact ⟨rfl, N, K0, F_value_a1, F_coder_a1, F_count_a1, V_va⟩
theorem ej68m2_d0 : decode jdk_68_method_2_code 0 = .ok (.aload_n 0, 1) := by decide +kernel
theorem ej68m2_d1 : decode jdk_68_method_2_code 1 = .ok (.invokespecial 3, 3) := by decide +kernel
theorem ej68m2_d4 : decode jdk_68_method_2_code 4 = .ok (.getstatic 18, 3) := by decide +kernel
theorem ej68m2_d7 : decode jdk_68_method_2_code 7 = .ok (.ifCond .eq 18, 3) := by decide +kernel
theorem ej68m2_d10 : decode jdk_68_method_2_code 10 = .ok (.aload_n 0, 1) := by decide +kernel
theorem ej68m2_d11 : decode jdk_68_method_2_code 11 = .ok (.iload_n 1, 1) := by decide +kernel
theorem ej68m2_d12 : decode jdk_68_method_2_code 12 = .ok (.newarray .byte, 2) := by decide +kernel
theorem ej68m2_d14 : decode jdk_68_method_2_code 14 = .ok (.putfield 15, 3) := by decide +kernel
theorem ej68m2_d17 : decode jdk_68_method_2_code 17 = .ok (.aload_n 0, 1) := by decide +kernel
theorem ej68m2_d18 : decode jdk_68_method_2_code 18 = .ok (.iconst 0, 1) := by decide +kernel
theorem ej68m2_d19 : decode jdk_68_method_2_code 19 = .ok (.putfield 22, 3) := by decide +kernel
theorem ej68m2_d22 : decode jdk_68_method_2_code 22 = .ok (.goto 16, 3) := by decide +kernel
theorem ej68m2_d38 : decode jdk_68_method_2_code 38 = .ok (.return_, 1) := by decide +kernel
theorem own_asbInit_pn : plainFor (⟨"java/lang/AbstractStringBuilder", "<init>", "(I)V"⟩ : MethodName) = true := by first | exact plainFor_of_name (by first | (simp [plainName, overriddenIn]; done) | decide +kernel) | decide +kernel | exact Jvm.Free.JP.mathPlain rfl (by decide +kernel)
theorem own_asbInit_ef (m : MethodId) (x0 : Addr) (x1 : Int32) : entryFrame m #[(.ref x0), (.int x1)] 2 = mkF m 0 #[.val (.ref x0), .val (.int x1)] [] := by first | (simp [entryFrame, mkF, argsToLocals, Value.category]; done) | rfl
def own_asbInit_Q (Z : State) (a1 : Addr) (z : Int32) (zc : Int32) (h0 : Heap) (n0 : Nat) (v : Option Value) (h : Heap) (L : List Loc) : Prop := ∃ b kb, v = none ∧ Fr n0 L ∧ Keep h0 h [a1] ∧ h0.size ≤ b ∧ Fld Z h a1 "java/lang/AbstractStringBuilder" "value" "[B" (.ref b) ∧ Fld Z h a1 "java/lang/AbstractStringBuilder" "coder" "B" (.int 0) ∧ Fld Z h a1 "java/lang/AbstractStringBuilder" "count" "I" (.int 0) ∧ Arv Z h b kb .byte z ([] : List Value) (.int 0) ∧ Exa Z h b "[B"
set_option maxRecDepth 65536 in
set_option maxHeartbeats 40000000 in
theorem own_asbInit (l : Launch) (Z : State) (a0 : Array Value) (hw : ∀ d ∈ tables_1, d.before a0 Z = true) (ws : List Jvm.Cond) (a1 : Addr) (z : Int32) (zc : Int32) (h0 : Heap) (n0 : Nat) (O : Old Z n0 h0) (E_a1 : Exa Z h0 a1 "java/lang/StringBuilder") (F_value_a1 : Fld Z h0 a1 "java/lang/AbstractStringBuilder" "value" "[B" .null) (F_coder_a1 : Fld Z h0 a1 "java/lang/AbstractStringBuilder" "coder" "B" (.int 0)) (F_count_a1 : Fld Z h0 a1 "java/lang/AbstractStringBuilder" "count" "I" (.int 0)) (hz : z ∈ own_D0) (g_a1 : n0 ≤ a1) (S_C : Sta Z Z.heap "java/lang/String" "COMPACT_STRINGS" "Z" (.int zc)) (hzc : ¬ zc = 0) :
    MetFree l (⟨"java/lang/AbstractStringBuilder", "<init>", "(I)V"⟩ : MethodName) (head1 (Jvm.Cond.code (⟨"java/lang/AbstractStringBuilder", "<init>", "(I)V"⟩ : MethodName) jdk_68_method_2_code 2 none :: ws) ({ frames := 1, cells := 1, slots := 3, locals := 12 } : Room)) (fun a U => a = #[(.ref a1), (.int z)] ∧ Z.Warmed39 U.vm ∧ U.heap = h0) (fun _ _ _ _ _ => True) (fun _ U o U' => ∃ v L, o = .returned v ∧ own_asbInit_Q Z a1 z zc h0 n0 v U'.heap L ∧ FrameEnd U o U' L ({ frames := 1, cells := 1, slots := 3, locals := 12 } : Room).cells ({ frames := 1, cells := 1, slots := 3, locals := 12 } : Room).slots) := by
  refine MetFree.of_bodySF own_asbInit_pn hisR ?_
  intro p e s m args below meth c s₁ Bd hml0 hP hK
  obtain ⟨rfl, hZ, hh⟩ := hP
  have hx := Bd.exec
  have hby := Bd.bytes
  have hlk := Bd.notSynchronized
  have hml : c.maxLocals = 2 := hml0
  have hown : s.vm.findClass "java/lang/AbstractStringBuilder" = some m.cls := findClass_of_methodNamed Bd.named
  have hnm := (name_of_methodNamed Bd.named Bd.method).1
  have X : Stand p l e ({ frames := 1, cells := 1, slots := 3, locals := 12 } : Room) s m #[(.ref a1), (.int z)] below meth c s₁ [] 0 0 := Stand.of_body Bd
  have eT : s₁.heap = h0 := by rw [← hh, Bd.state]; rfl
  have N := Fr.nil n0
  have K0 := Keep.refl h0 [a1]
  show own_Ends p e below (own_Post s below (own_asbInit_Q Z a1 z zc h0 n0) ({ frames := 1, cells := 1, slots := 3, locals := 12 } : Room).cells ({ frames := 1, cells := 1, slots := 3, locals := 12 } : Room).slots) s₁ (entryFrame m #[(.ref a1), (.int z)] 2)
  rw [own_asbInit_ef m a1 z]
  obtain ⟨T, hT⟩ : ∃ z, z = s₁ := ⟨_, rfl⟩
  rw [← hT] at X eT ⊢
  obtain ⟨h, hh0⟩ : ∃ z, z = h0 := ⟨_, rfl⟩
  rw [← hh0] at eT
  replace O : Old Z n0 h := by rw [hh0]; exact O
  replace K0 : Keep h0 h [a1] := by rw [hh0]; exact K0
  rw [← hh0] at E_a1
  rw [← hh0] at F_value_a1
  rw [← hh0] at F_coder_a1
  rw [← hh0] at F_count_a1
  refine own_via (g' := (mkF m 1 #[.val (.ref a1), .val (.int z)] [(.ref a1)])) (fun t_ k_ => XS.aloadN X.here hx rfl (hb hby ej68m2_d0) rfl rfl k_) ?_
  obtain ⟨T, X, eT, st⟩ := initO X hx hZ hown (hw _ (own_w 17 rfl)) (hw _ (own_w 18 rfl)) (hw _ (own_w 19 rfl)) eT (g := (mkF m 1 #[.val (.ref a1), .val (.int z)] [(.ref a1)])) rfl (by rw [hml]; rfl) rfl (hb hby ej68m2_d1) (by decide) (W := 0) (by show 2 * 0 + _ ≤ _; exact Nat.le_of_eq rfl) (by decide)
  refine own_via (g' := (mkF m 4 #[.val (.ref a1), .val (.int z)] [])) st ?_
  obtain ⟨T, X, eT, st⟩ := getS2 X hx hZ hown (host := "") (Or.inl (hw _ (own_w 20 rfl))) Via.refl eT (S_C.ext O.2) (g := (mkF m 4 #[.val (.ref a1), .val (.int z)] [])) rfl (hb hby ej68m2_d4)
  refine own_via (g' := (mkF m 7 #[.val (.ref a1), .val (.int z)] [(.int zc)])) st ?_
  refine own_via (g' := (mkF m 12 #[.val (.ref a1), .val (.int z)] [(.int z), (.ref a1)])) (fun t_ k_ => XS.ifNo X.here hx rfl (hb hby ej68m2_d7) rfl ((if0 _ _).trans (feq hzc).1) (XS.aloadN X.here hx rfl (hb hby ej68m2_d10) rfl rfl (XS.iloadN X.here hx rfl (hb hby ej68m2_d11) rfl k_))) ?_
  obtain ⟨b1, gb⟩ : ∃ z, z = h.size := ⟨_, rfl⟩
  obtain ⟨T, h2, kb1, X, eT, E, A_, E_b1, st⟩ := newPE X hx hZ (hw _ (own_w 0 rfl)) eT (g := (mkF m 12 #[.val (.ref a1), .val (.int z)] [(.int z), (.ref a1)])) rfl (hb hby ej68m2_d12) rfl (own_dom1 (P := fun z => ¬ (z) < 0) (by decide) hz) (cap := 3) (own_dom1 (P := fun z => (z).toNatClampNeg ≤ 3) (by decide) hz) (by decide) (by decide) (by decide) (ad := "[B") (by decide)
  rw [← gb] at A_ E_b1 st
  have ne_a1_b1 : a1 ≠ b1 := Nat.ne_of_lt (Nat.lt_of_lt_of_le E_a1.lt (Nat.le_of_eq gb.symm))
  have g_b1 : n0 ≤ b1 := Nat.le_trans (own_le O) (Nat.le_of_eq gb.symm)
  have sz_b1 : h0.size ≤ b1 := Nat.le_trans K0.1 (Nat.le_of_eq gb.symm)
  replace E_a1 := E_a1.ext E
  replace F_value_a1 := F_value_a1.ext E
  replace F_coder_a1 := F_coder_a1.ext E
  replace F_count_a1 := F_count_a1.ext E
  replace O := O.ext E
  replace K0 := K0.ext E
  have V_b1 : Arv Z h2 b1 kb1 .byte z ([] : List Value) (.int 0) := (Arv.new A_ (own_dom1 (P := fun z => ¬ (z) < 0) (by decide) hz))
  refine own_via (g' := (mkF m 14 #[.val (.ref a1), .val (.int z)] [(.ref b1), (.ref a1)])) st ?_
  obtain ⟨T, h3, X, eT, W, st⟩ := putF X hx hZ hown (host := "") (Or.inl (hw _ (own_w 22 rfl))) Via.refl eT F_value_a1 E_a1 (Or.inl (hw _ (own_w 23 rfl))) (hw _ (own_w 6 rfl)) (ty := (.array .byte)) (by decide) rfl rfl (g := (mkF m 14 #[.val (.ref a1), .val (.int z)] [(.ref b1), (.ref a1)])) rfl rfl (hb hby ej68m2_d14)
  replace F_value_a1 := F_value_a1.same W
  replace E_a1 := E_a1.wr W
  replace F_coder_a1 := F_coder_a1.other W (Or.inr (slot_ne (Or.inl (hw _ (own_w 25 rfl))) (Or.inl (hw _ (own_w 23 rfl))) (by decide) (t := .byte) (t' := (.array .byte)) (by decide) (by decide)))
  replace F_count_a1 := F_count_a1.other W (Or.inr (slot_ne (Or.inl (hw _ (own_w 37 rfl))) (Or.inl (hw _ (own_w 23 rfl))) (by decide) (t := .int) (t' := (.array .byte)) (by decide) (by decide)))
  replace E_b1 := E_b1.wr W
  replace V_b1 := V_b1.other W (Ne.symm ne_a1_b1)
  replace O := O.wr W g_a1
  replace K0 := K0.wr W (Or.inl (List.mem_of_getElem? (i := 0) rfl))
  replace N := Fr.snoc X N g_a1
  refine own_via (g' := (mkF m 17 #[.val (.ref a1), .val (.int z)] [])) st ?_
  refine own_via (g' := (mkF m 19 #[.val (.ref a1), .val (.int z)] [(.int 0), (.ref a1)])) (fun t_ k_ => XS.aloadN X.here hx rfl (hb hby ej68m2_d17) rfl rfl (XS.iconst X.here hx rfl (hb hby ej68m2_d18) k_)) ?_
  obtain ⟨T, h4, X, eT, W, st⟩ := putFN X hx hZ hown (hw _ (own_w 24 rfl)) Via.refl eT F_coder_a1 E_a1 (Or.inl (hw _ (own_w 25 rfl))) (hw _ (own_w 6 rfl)) (ty := .byte) (v' := (.int 0)) (by decide) rfl (by decide) (g := (mkF m 19 #[.val (.ref a1), .val (.int z)] [(.int 0), (.ref a1)])) rfl rfl (hb hby ej68m2_d19)
  replace F_coder_a1 := F_coder_a1.same W
  replace E_a1 := E_a1.wr W
  replace F_value_a1 := F_value_a1.other W (Or.inr (slot_ne (Or.inl (hw _ (own_w 23 rfl))) (Or.inl (hw _ (own_w 25 rfl))) (by decide) (t := (.array .byte)) (t' := .byte) (by decide) (by decide)))
  replace F_count_a1 := F_count_a1.other W (Or.inr (slot_ne (Or.inl (hw _ (own_w 37 rfl))) (Or.inl (hw _ (own_w 25 rfl))) (by decide) (t := .int) (t' := .byte) (by decide) (by decide)))
  replace E_b1 := E_b1.wr W
  replace V_b1 := V_b1.other W (Ne.symm ne_a1_b1)
  replace O := O.wr W g_a1
  replace K0 := K0.wr W (Or.inl (List.mem_of_getElem? (i := 0) rfl))
  replace N := Fr.snoc X N g_a1
  refine own_via (g' := (mkF m 22 #[.val (.ref a1), .val (.int z)] [])) st ?_
  refine own_via (g' := (mkF m 38 #[.val (.ref a1), .val (.int z)] [])) (fun t_ k_ => XS.goto X.here hx rfl (pc0 := 22) (pc' := 38) rfl (hb hby ej68m2_d22) (by decide) (by decide) k_) ?_
  refine own_retV X hx hlk Bd.returns (hb hby ej68m2_d38) (by decide) (by decide) ?_
  rw [eT]
  exact ⟨b1, _, rfl, N, K0, sz_b1, F_value_a1, F_coder_a1, F_count_a1, V_b1, E_b1⟩
theorem ej67m2_d0 : decode jdk_67_method_2_code 0 = .ok (.aload_n 0, 1) := by decide +kernel
theorem ej67m2_d1 : decode jdk_67_method_2_code 1 = .ok (.iload_n 1, 1) := by decide +kernel
theorem ej67m2_d2 : decode jdk_67_method_2_code 2 = .ok (.invokespecial 1, 3) := by decide +kernel
theorem ej67m2_d5 : decode jdk_67_method_2_code 5 = .ok (.return_, 1) := by decide +kernel
theorem own_sbInit_pn : plainFor (⟨"java/lang/StringBuilder", "<init>", "(I)V"⟩ : MethodName) = true := by first | exact plainFor_of_name (by first | (simp [plainName, overriddenIn]; done) | decide +kernel) | decide +kernel | exact Jvm.Free.JP.mathPlain rfl (by decide +kernel)
theorem own_sbInit_ef (m : MethodId) (x0 : Addr) (x1 : Int32) : entryFrame m #[(.ref x0), (.int x1)] 2 = mkF m 0 #[.val (.ref x0), .val (.int x1)] [] := by first | (simp [entryFrame, mkF, argsToLocals, Value.category]; done) | rfl
def own_sbInit_Q (Z : State) (a1 : Addr) (z : Int32) (zc : Int32) (h0 : Heap) (n0 : Nat) (v : Option Value) (h : Heap) (L : List Loc) : Prop := ∃ b kb, v = none ∧ Fr n0 L ∧ Keep h0 h [a1] ∧ h0.size ≤ b ∧ Fld Z h a1 "java/lang/AbstractStringBuilder" "value" "[B" (.ref b) ∧ Fld Z h a1 "java/lang/AbstractStringBuilder" "coder" "B" (.int 0) ∧ Fld Z h a1 "java/lang/AbstractStringBuilder" "count" "I" (.int 0) ∧ Arv Z h b kb .byte z ([] : List Value) (.int 0) ∧ Exa Z h b "[B"
set_option maxRecDepth 65536 in
set_option maxHeartbeats 40000000 in
theorem own_sbInit (l : Launch) (Z : State) (a0 : Array Value) (hw : ∀ d ∈ tables_1, d.before a0 Z = true) (ws : List Jvm.Cond) (a1 : Addr) (z : Int32) (zc : Int32) (h0 : Heap) (n0 : Nat) (O : Old Z n0 h0) (E_a1 : Exa Z h0 a1 "java/lang/StringBuilder") (F_value_a1 : Fld Z h0 a1 "java/lang/AbstractStringBuilder" "value" "[B" .null) (F_coder_a1 : Fld Z h0 a1 "java/lang/AbstractStringBuilder" "coder" "B" (.int 0)) (F_count_a1 : Fld Z h0 a1 "java/lang/AbstractStringBuilder" "count" "I" (.int 0)) (hz : z ∈ own_D0) (g_a1 : n0 ≤ a1) (S_C : Sta Z Z.heap "java/lang/String" "COMPACT_STRINGS" "Z" (.int zc)) (hzc : ¬ zc = 0) :
    MetFree l (⟨"java/lang/StringBuilder", "<init>", "(I)V"⟩ : MethodName) (head1 (Jvm.Cond.code (⟨"java/lang/StringBuilder", "<init>", "(I)V"⟩ : MethodName) jdk_67_method_2_code 2 none :: ws) ({ frames := 2, cells := 1, slots := 3, locals := 25 } : Room)) (fun a U => a = #[(.ref a1), (.int z)] ∧ Z.Warmed39 U.vm ∧ U.heap = h0) (fun _ _ _ _ _ => True) (fun _ U o U' => ∃ v L, o = .returned v ∧ own_sbInit_Q Z a1 z zc h0 n0 v U'.heap L ∧ FrameEnd U o U' L ({ frames := 2, cells := 1, slots := 3, locals := 25 } : Room).cells ({ frames := 2, cells := 1, slots := 3, locals := 25 } : Room).slots) := by
  refine MetFree.of_bodySF own_sbInit_pn hisR ?_
  intro p e s m args below meth c s₁ Bd hml0 hP hK
  obtain ⟨rfl, hZ, hh⟩ := hP
  have hx := Bd.exec
  have hby := Bd.bytes
  have hlk := Bd.notSynchronized
  have hml : c.maxLocals = 2 := hml0
  have hown : s.vm.findClass "java/lang/StringBuilder" = some m.cls := findClass_of_methodNamed Bd.named
  have hnm := (name_of_methodNamed Bd.named Bd.method).1
  have X : Stand p l e ({ frames := 2, cells := 1, slots := 3, locals := 25 } : Room) s m #[(.ref a1), (.int z)] below meth c s₁ [] 0 0 := Stand.of_body Bd
  have eT : s₁.heap = h0 := by rw [← hh, Bd.state]; rfl
  have N := Fr.nil n0
  have K0 := Keep.refl h0 [a1]
  show own_Ends p e below (own_Post s below (own_sbInit_Q Z a1 z zc h0 n0) ({ frames := 2, cells := 1, slots := 3, locals := 25 } : Room).cells ({ frames := 2, cells := 1, slots := 3, locals := 25 } : Room).slots) s₁ (entryFrame m #[(.ref a1), (.int z)] 2)
  rw [own_sbInit_ef m a1 z]
  obtain ⟨T, hT⟩ : ∃ z, z = s₁ := ⟨_, rfl⟩
  rw [← hT] at X eT ⊢
  obtain ⟨h, hh0⟩ : ∃ z, z = h0 := ⟨_, rfl⟩
  rw [← hh0] at eT
  replace O : Old Z n0 h := by rw [hh0]; exact O
  replace K0 : Keep h0 h [a1] := by rw [hh0]; exact K0
  rw [← hh0] at E_a1
  rw [← hh0] at F_value_a1
  rw [← hh0] at F_coder_a1
  rw [← hh0] at F_count_a1
  refine own_via (g' := (mkF m 2 #[.val (.ref a1), .val (.int z)] [(.int z), (.ref a1)])) (fun t_ k_ => XS.aloadN X.here hx rfl (hb hby ej67m2_d0) rfl rfl (XS.iloadN X.here hx rfl (hb hby ej67m2_d1) rfl k_)) ?_
  obtain ⟨_, _, ⟨T, Lq, kq, nq⟩, -, X, ⟨Lc, hQ, lq, yq, zq⟩, st⟩ := X.specialBack hx (y := own_y9) rfl hown (mvT hZ (hw _ (own_w 11 rfl))) (mvT hZ (hw _ (own_w 12 rfl))) (mvT hZ (hw _ (own_w 16 rfl))) (by decide) (backOf (W := 0) (own_asbInit l Z a0 hw [] a1 z zc h n0 O E_a1 F_value_a1 F_coder_a1 F_count_a1 hz g_a1 S_C hzc) hZ (hw _ (own_w 16 rfl)) (hw _ (own_w 15 rfl)) (by decide) (by decide)) (g := (mkF m 2 #[.val (.ref a1), .val (.int z)] [(.int z), (.ref a1)])) rfl (by rw [hml]; rfl) (Steps.refl _) (a := a1) (argsL := [(.int z)]) (rest := []) (lenOf own_pd4 rfl) rfl (by show 2 * 0 + _ ≤ _; exact Nat.le_of_eq rfl) (hb hby ej67m2_d2) (fun _ _ => ⟨rfl, eT, (by decide : 0 + 1 ≤ _), (by decide : 0 + 3 ≤ _)⟩)
  dsimp only [Pt.U, Pt.locs, Pt.cells, Pt.slots] at X lq yq zq st hQ
  subst lq yq zq
  obtain ⟨bn, kbn, rfl, Nq, Kq, szq, F_value_a1, F_coder_a1, F_count_a1, V_bn, E_bn⟩ := hQ
  replace N := Fr.app N Nq
  obtain ⟨h1, eT⟩ : ∃ z, T.heap = z := ⟨_, rfl⟩
  rw [eT] at Kq F_value_a1 F_coder_a1 F_count_a1 V_bn E_bn
  have ne_a1_bn : a1 ≠ bn := Nat.ne_of_lt (Nat.lt_of_lt_of_le E_a1.lt szq)
  have g_bn : n0 ≤ bn := Nat.le_trans (own_le O) szq
  have sz_bn : h0.size ≤ bn := Nat.le_trans K0.1 szq
  replace E_a1 := E_a1.keep Kq
  replace O := O.keep Kq (allS g_a1 all0)
  replace K0 := K0.trans Kq (allS (Or.inl (List.mem_of_getElem? (i := 0) rfl)) all0)
  refine own_viaT (g' := (mkF m 5 #[.val (.ref a1), .val (.int z)] [])) st ?_
  refine own_retV X hx hlk Bd.returns (hb hby ej67m2_d5) (by decide) (by decide) ?_
  rw [eT]
  exact ⟨bn, _, rfl, N, K0, sz_bn, F_value_a1, F_coder_a1, F_count_a1, V_bn, E_bn⟩
theorem ej68m64_d0 : decode jdk_68_method_64_code 0 = .ok (.aload_n 0, 1) := by decide +kernel
theorem ej68m64_d1 : decode jdk_68_method_64_code 1 = .ok (.getfield 15, 3) := by decide +kernel
theorem ej68m64_d4 : decode jdk_68_method_64_code 4 = .ok (.areturn, 1) := by decide +kernel
theorem own_getValue_pn : plainFor (⟨"java/lang/AbstractStringBuilder", "getValue", "()[B"⟩ : MethodName) = true := by first | exact plainFor_of_name (by first | (simp [plainName, overriddenIn]; done) | decide +kernel) | decide +kernel | exact Jvm.Free.JP.mathPlain rfl (by decide +kernel)
theorem own_getValue_ef (m : MethodId) (x0 : Addr) : entryFrame m #[(.ref x0)] 1 = mkF m 0 #[.val (.ref x0)] [] := by first | (simp [entryFrame, mkF, argsToLocals, Value.category]; done) | rfl
def own_getValue_Q (Z : State) (a1 : Addr) (va : Addr) (h0 : Heap) (n0 : Nat) (v : Option Value) (h : Heap) (L : List Loc) : Prop := v = some (.ref va) ∧ Fr n0 L ∧ h = h0
set_option maxRecDepth 65536 in
set_option maxHeartbeats 40000000 in
theorem own_getValue (l : Launch) (Z : State) (a0 : Array Value) (hw : ∀ d ∈ tables_1, d.before a0 Z = true) (ws : List Jvm.Cond) (a1 : Addr) (va : Addr) (h0 : Heap) (n0 : Nat) (O : Old Z n0 h0) (F_value_a1 : Fld Z h0 a1 "java/lang/AbstractStringBuilder" "value" "[B" (.ref va)) :
    MetFree l (⟨"java/lang/AbstractStringBuilder", "getValue", "()[B"⟩ : MethodName) (head1 (Jvm.Cond.code (⟨"java/lang/AbstractStringBuilder", "getValue", "()[B"⟩ : MethodName) jdk_68_method_64_code 1 (some (.array .byte)) :: ws) ({ frames := 0, cells := 0, slots := 0, locals := 0 } : Room)) (fun a U => a = #[(.ref a1)] ∧ Z.Warmed39 U.vm ∧ U.heap = h0) (fun _ _ _ _ _ => True) (fun _ U o U' => ∃ v L, o = .returned v ∧ own_getValue_Q Z a1 va h0 n0 v U'.heap L ∧ FrameEnd U o U' L ({ frames := 0, cells := 0, slots := 0, locals := 0 } : Room).cells ({ frames := 0, cells := 0, slots := 0, locals := 0 } : Room).slots) := by
  refine MetFree.of_bodySF own_getValue_pn hisR ?_
  intro p e s m args below meth c s₁ Bd hml0 hP hK
  obtain ⟨rfl, hZ, hh⟩ := hP
  have hx := Bd.exec
  have hby := Bd.bytes
  have hlk := Bd.notSynchronized
  have hml : c.maxLocals = 1 := hml0
  have hown : s.vm.findClass "java/lang/AbstractStringBuilder" = some m.cls := findClass_of_methodNamed Bd.named
  have hnm := (name_of_methodNamed Bd.named Bd.method).1
  have X : Stand p l e ({ frames := 0, cells := 0, slots := 0, locals := 0 } : Room) s m #[(.ref a1)] below meth c s₁ [] 0 0 := Stand.of_body Bd
  have eT : s₁.heap = h0 := by rw [← hh, Bd.state]; rfl
  have N := Fr.nil n0
  have K0 := Keep.refl h0 []
  show own_Ends p e below (own_Post s below (own_getValue_Q Z a1 va h0 n0) ({ frames := 0, cells := 0, slots := 0, locals := 0 } : Room).cells ({ frames := 0, cells := 0, slots := 0, locals := 0 } : Room).slots) s₁ (entryFrame m #[(.ref a1)] 1)
  rw [own_getValue_ef m a1]
  obtain ⟨T, hT⟩ : ∃ z, z = s₁ := ⟨_, rfl⟩
  rw [← hT] at X eT ⊢
  obtain ⟨h, hh0⟩ : ∃ z, z = h0 := ⟨_, rfl⟩
  rw [← hh0] at eT
  replace O : Old Z n0 h := by rw [hh0]; exact O
  replace K0 : Keep h0 h [] := by rw [hh0]; exact K0
  rw [← hh0] at F_value_a1
  refine own_via (g' := (mkF m 1 #[.val (.ref a1)] [(.ref a1)])) (fun t_ k_ => XS.aloadN X.here hx rfl (hb hby ej68m64_d0) rfl rfl k_) ?_
  obtain ⟨T, X, eT, st⟩ := getF X hx hZ hown (host := "") (Or.inl (hw _ (own_w 22 rfl))) Via.refl eT F_value_a1 (g := (mkF m 1 #[.val (.ref a1)] [(.ref a1)])) rfl rfl (hb hby ej68m64_d1)
  refine own_via (g' := (mkF m 4 #[.val (.ref a1)] [(.ref va)])) st ?_
  refine own_retW X hx hlk Bd.returns rfl (Or.inr (Or.inr (Or.inr (Or.inr ⟨rfl, rfl, rfl⟩)))) (hb hby ej68m64_d4) (by decide) (by decide) ?_
  rw [eT]
  exact ⟨rfl, N, hh0⟩
theorem ej68m6_d0 : decode jdk_68_method_6_code 0 = .ok (.aload_n 0, 1) := by decide +kernel
theorem ej68m6_d1 : decode jdk_68_method_6_code 1 = .ok (.getfield 79, 3) := by decide +kernel
theorem ej68m6_d4 : decode jdk_68_method_6_code 4 = .ok (.ireturn, 1) := by decide +kernel
theorem own_asbLen_pn : plainFor (⟨"java/lang/AbstractStringBuilder", "length", "()I"⟩ : MethodName) = true := by first | exact plainFor_of_name (by first | (simp [plainName, overriddenIn]; done) | decide +kernel) | decide +kernel | exact Jvm.Free.JP.mathPlain rfl (by decide +kernel)
theorem own_asbLen_ef (m : MethodId) (x0 : Addr) : entryFrame m #[(.ref x0)] 1 = mkF m 0 #[.val (.ref x0)] [] := by first | (simp [entryFrame, mkF, argsToLocals, Value.category]; done) | rfl
def own_asbLen_Q (Z : State) (a1 : Addr) (n : Int32) (h0 : Heap) (n0 : Nat) (v : Option Value) (h : Heap) (L : List Loc) : Prop := v = some (.int n) ∧ Fr n0 L ∧ h = h0
set_option maxRecDepth 65536 in
set_option maxHeartbeats 40000000 in
theorem own_asbLen (l : Launch) (Z : State) (a0 : Array Value) (hw : ∀ d ∈ tables_1, d.before a0 Z = true) (ws : List Jvm.Cond) (a1 : Addr) (n : Int32) (h0 : Heap) (n0 : Nat) (O : Old Z n0 h0) (E_a1 : Exa Z h0 a1 "java/lang/StringBuilder") (F_count_a1 : Fld Z h0 a1 "java/lang/AbstractStringBuilder" "count" "I" (.int n)) :
    MetFree l (⟨"java/lang/AbstractStringBuilder", "length", "()I"⟩ : MethodName) (head1 (Jvm.Cond.code (⟨"java/lang/AbstractStringBuilder", "length", "()I"⟩ : MethodName) jdk_68_method_6_code 1 (some .int) :: ws) ({ frames := 0, cells := 0, slots := 0, locals := 0 } : Room)) (fun a U => a = #[(.ref a1)] ∧ Z.Warmed39 U.vm ∧ U.heap = h0) (fun _ _ _ _ _ => True) (fun _ U o U' => ∃ v L, o = .returned v ∧ own_asbLen_Q Z a1 n h0 n0 v U'.heap L ∧ FrameEnd U o U' L ({ frames := 0, cells := 0, slots := 0, locals := 0 } : Room).cells ({ frames := 0, cells := 0, slots := 0, locals := 0 } : Room).slots) := by
  refine MetFree.of_bodySF own_asbLen_pn hisR ?_
  intro p e s m args below meth c s₁ Bd hml0 hP hK
  obtain ⟨rfl, hZ, hh⟩ := hP
  have hx := Bd.exec
  have hby := Bd.bytes
  have hlk := Bd.notSynchronized
  have hml : c.maxLocals = 1 := hml0
  have hown : s.vm.findClass "java/lang/AbstractStringBuilder" = some m.cls := findClass_of_methodNamed Bd.named
  have hnm := (name_of_methodNamed Bd.named Bd.method).1
  have X : Stand p l e ({ frames := 0, cells := 0, slots := 0, locals := 0 } : Room) s m #[(.ref a1)] below meth c s₁ [] 0 0 := Stand.of_body Bd
  have eT : s₁.heap = h0 := by rw [← hh, Bd.state]; rfl
  have N := Fr.nil n0
  have K0 := Keep.refl h0 []
  show own_Ends p e below (own_Post s below (own_asbLen_Q Z a1 n h0 n0) ({ frames := 0, cells := 0, slots := 0, locals := 0 } : Room).cells ({ frames := 0, cells := 0, slots := 0, locals := 0 } : Room).slots) s₁ (entryFrame m #[(.ref a1)] 1)
  rw [own_asbLen_ef m a1]
  obtain ⟨T, hT⟩ : ∃ z, z = s₁ := ⟨_, rfl⟩
  rw [← hT] at X eT ⊢
  obtain ⟨h, hh0⟩ : ∃ z, z = h0 := ⟨_, rfl⟩
  rw [← hh0] at eT
  replace O : Old Z n0 h := by rw [hh0]; exact O
  replace K0 : Keep h0 h [] := by rw [hh0]; exact K0
  rw [← hh0] at E_a1
  rw [← hh0] at F_count_a1
  refine own_via (g' := (mkF m 1 #[.val (.ref a1)] [(.ref a1)])) (fun t_ k_ => XS.aloadN X.here hx rfl (hb hby ej68m6_d0) rfl rfl k_) ?_
  obtain ⟨T, X, eT, st⟩ := getF X hx hZ hown (host := "") (Or.inl (hw _ (own_w 36 rfl))) Via.refl eT F_count_a1 (g := (mkF m 1 #[.val (.ref a1)] [(.ref a1)])) rfl rfl (hb hby ej68m6_d1)
  refine own_via (g' := (mkF m 4 #[.val (.ref a1)] [(.int n)])) st ?_
  refine own_retW X hx hlk Bd.returns rfl (Or.inl ⟨rfl, Or.inl rfl, _, rfl⟩) (hb hby ej68m6_d4) (by decide) (by decide) ?_
  rw [eT]
  exact ⟨rfl, N, hh0⟩
theorem ej67m93_d0 : decode jdk_67_method_93_code 0 = .ok (.aload_n 0, 1) := by decide +kernel
theorem ej67m93_d1 : decode jdk_67_method_93_code 1 = .ok (.invokespecial 343, 3) := by decide +kernel
theorem ej67m93_d4 : decode jdk_67_method_93_code 4 = .ok (.ireturn, 1) := by decide +kernel
theorem own_sbLen_pn : plainFor (⟨"java/lang/StringBuilder", "length", "()I"⟩ : MethodName) = true := by first | exact plainFor_of_name (by first | (simp [plainName, overriddenIn]; done) | decide +kernel) | decide +kernel | exact Jvm.Free.JP.mathPlain rfl (by decide +kernel)
theorem own_sbLen_ef (m : MethodId) (x0 : Addr) : entryFrame m #[(.ref x0)] 1 = mkF m 0 #[.val (.ref x0)] [] := by first | (simp [entryFrame, mkF, argsToLocals, Value.category]; done) | rfl
def own_sbLen_Q (Z : State) (a1 : Addr) (n : Int32) (h0 : Heap) (n0 : Nat) (v : Option Value) (h : Heap) (L : List Loc) : Prop := v = some (.int n) ∧ Fr n0 L ∧ h = h0
set_option maxRecDepth 65536 in
set_option maxHeartbeats 40000000 in
theorem own_sbLen (l : Launch) (Z : State) (a0 : Array Value) (hw : ∀ d ∈ tables_1, d.before a0 Z = true) (ws : List Jvm.Cond) (a1 : Addr) (n : Int32) (h0 : Heap) (n0 : Nat) (O : Old Z n0 h0) (E_a1 : Exa Z h0 a1 "java/lang/StringBuilder") (F_count_a1 : Fld Z h0 a1 "java/lang/AbstractStringBuilder" "count" "I" (.int n)) :
    MetFree l (⟨"java/lang/StringBuilder", "length", "()I"⟩ : MethodName) (head1 (Jvm.Cond.code (⟨"java/lang/StringBuilder", "length", "()I"⟩ : MethodName) jdk_67_method_93_code 1 (some .int) :: ws) ({ frames := 1, cells := 0, slots := 0, locals := 12 } : Room)) (fun a U => a = #[(.ref a1)] ∧ Z.Warmed39 U.vm ∧ U.heap = h0) (fun _ _ _ _ _ => True) (fun _ U o U' => ∃ v L, o = .returned v ∧ own_sbLen_Q Z a1 n h0 n0 v U'.heap L ∧ FrameEnd U o U' L ({ frames := 1, cells := 0, slots := 0, locals := 12 } : Room).cells ({ frames := 1, cells := 0, slots := 0, locals := 12 } : Room).slots) := by
  refine MetFree.of_bodySF own_sbLen_pn hisR ?_
  intro p e s m args below meth c s₁ Bd hml0 hP hK
  obtain ⟨rfl, hZ, hh⟩ := hP
  have hx := Bd.exec
  have hby := Bd.bytes
  have hlk := Bd.notSynchronized
  have hml : c.maxLocals = 1 := hml0
  have hown : s.vm.findClass "java/lang/StringBuilder" = some m.cls := findClass_of_methodNamed Bd.named
  have hnm := (name_of_methodNamed Bd.named Bd.method).1
  have X : Stand p l e ({ frames := 1, cells := 0, slots := 0, locals := 12 } : Room) s m #[(.ref a1)] below meth c s₁ [] 0 0 := Stand.of_body Bd
  have eT : s₁.heap = h0 := by rw [← hh, Bd.state]; rfl
  have N := Fr.nil n0
  have K0 := Keep.refl h0 []
  show own_Ends p e below (own_Post s below (own_sbLen_Q Z a1 n h0 n0) ({ frames := 1, cells := 0, slots := 0, locals := 12 } : Room).cells ({ frames := 1, cells := 0, slots := 0, locals := 12 } : Room).slots) s₁ (entryFrame m #[(.ref a1)] 1)
  rw [own_sbLen_ef m a1]
  obtain ⟨T, hT⟩ : ∃ z, z = s₁ := ⟨_, rfl⟩
  rw [← hT] at X eT ⊢
  obtain ⟨h, hh0⟩ : ∃ z, z = h0 := ⟨_, rfl⟩
  rw [← hh0] at eT
  replace O : Old Z n0 h := by rw [hh0]; exact O
  replace K0 : Keep h0 h [] := by rw [hh0]; exact K0
  rw [← hh0] at E_a1
  rw [← hh0] at F_count_a1
  refine own_via (g' := (mkF m 1 #[.val (.ref a1)] [(.ref a1)])) (fun t_ k_ => XS.aloadN X.here hx rfl (hb hby ej67m93_d0) rfl rfl k_) ?_
  obtain ⟨_, _, ⟨T, Lq, kq, nq⟩, -, X, ⟨Lc, hQ, lq, yq, zq⟩, st⟩ := superBack X hx hZ (y := own_y10) hown (hw _ (own_w 106 rfl)) (own_same (hw _ (own_w 101 rfl)) (own_nf (hw _ (own_w 41 rfl)) rfl) (by decide)) (hw _ (own_w 102 rfl)) (hw _ (own_w 33 rfl)) (by decide) (backOf (W := 0) (own_asbLen l Z a0 hw [] a1 n h n0 O E_a1 F_count_a1) hZ (hw _ (own_w 107 rfl)) (hw _ (own_w 15 rfl)) (by decide) (by decide)) eT (Ins.self E_a1) (g := (mkF m 1 #[.val (.ref a1)] [(.ref a1)])) rfl (by rw [hml]; rfl) (hw _ (own_w 107 rfl)) (argsL := []) (rest := []) (lenOf own_pd8 rfl) rfl (by show 2 * 0 + _ ≤ _; exact Nat.le_of_eq rfl) (hb hby ej67m93_d1) (fun _ _ => ⟨rfl, eT, (by decide : 0 + 0 ≤ _), (by decide : 0 + 0 ≤ _)⟩)
  dsimp only [Pt.U, Pt.locs, Pt.cells, Pt.slots] at X lq yq zq st hQ
  subst lq yq zq
  obtain ⟨rfl, Nq, eT⟩ := hQ
  replace N := Fr.app N Nq
  refine own_viaT (g' := (mkF m 4 #[.val (.ref a1)] [(.int n)])) st ?_
  refine own_retW X hx hlk Bd.returns rfl (Or.inl ⟨rfl, Or.inl rfl, _, rfl⟩) (hb hby ej67m93_d4) (by decide) (by decide) ?_
  rw [eT]
  exact ⟨rfl, N, hh0⟩
theorem ej65m131_d0 : decode jdk_65_method_131_code 0 = .ok (.iload_n 1, 1) := by decide +kernel
theorem ej65m131_d1 : decode jdk_65_method_131_code 1 = .ok (.iload_n 0, 1) := by decide +kernel
theorem ej65m131_d2 : decode jdk_65_method_131_code 2 = .ok (.if_icmp .ge 35, 3) := by decide +kernel
theorem ej65m131_d37 : decode jdk_65_method_131_code 37 = .ok (.return_, 1) := by decide +kernel
theorem own_chkLen_pn : plainFor (⟨"java/util/Arrays", "checkLength", "(II)V"⟩ : MethodName) = true := by first | exact plainFor_of_name (by first | (simp [plainName, overriddenIn]; done) | decide +kernel) | decide +kernel | exact Jvm.Free.JP.mathPlain rfl (by decide +kernel)
theorem own_chkLen_ef (m : MethodId) (x0 : Int32) (x1 : Int32) : entryFrame m #[(.int x0), (.int x1)] 2 = mkF m 0 #[.val (.int x0), .val (.int x1)] [] := by first | (simp [entryFrame, mkF, argsToLocals, Value.category]; done) | rfl
def own_chkLen_Q (Z : State) (x : Int32) (y : Int32) (h0 : Heap) (n0 : Nat) (v : Option Value) (h : Heap) (L : List Loc) : Prop := v = none ∧ Fr n0 L ∧ h = h0
set_option maxRecDepth 65536 in
set_option maxHeartbeats 40000000 in
theorem own_chkLen (l : Launch) (Z : State) (a0 : Array Value) (hw : ∀ d ∈ tables_1, d.before a0 Z = true) (ws : List Jvm.Cond) (x : Int32) (y : Int32) (h0 : Heap) (n0 : Nat) (O : Old Z n0 h0) (hc : ¬ y < x) :
    MetFree l (⟨"java/util/Arrays", "checkLength", "(II)V"⟩ : MethodName) (head1 (Jvm.Cond.code (⟨"java/util/Arrays", "checkLength", "(II)V"⟩ : MethodName) jdk_65_method_131_code 2 none :: ws) ({ frames := 0, cells := 0, slots := 0, locals := 0 } : Room)) (fun a U => a = #[(.int x), (.int y)] ∧ Z.Warmed39 U.vm ∧ U.heap = h0) (fun _ _ _ _ _ => True) (fun _ U o U' => ∃ v L, o = .returned v ∧ own_chkLen_Q Z x y h0 n0 v U'.heap L ∧ FrameEnd U o U' L ({ frames := 0, cells := 0, slots := 0, locals := 0 } : Room).cells ({ frames := 0, cells := 0, slots := 0, locals := 0 } : Room).slots) := by
  refine MetFree.of_bodySF own_chkLen_pn hisR ?_
  intro p e s m args below meth c s₁ Bd hml0 hP hK
  obtain ⟨rfl, hZ, hh⟩ := hP
  have hx := Bd.exec
  have hby := Bd.bytes
  have hlk := Bd.notSynchronized
  have hml : c.maxLocals = 2 := hml0
  have hown : s.vm.findClass "java/util/Arrays" = some m.cls := findClass_of_methodNamed Bd.named
  have hnm := (name_of_methodNamed Bd.named Bd.method).1
  have X : Stand p l e ({ frames := 0, cells := 0, slots := 0, locals := 0 } : Room) s m #[(.int x), (.int y)] below meth c s₁ [] 0 0 := Stand.of_body Bd
  have eT : s₁.heap = h0 := by rw [← hh, Bd.state]; rfl
  have N := Fr.nil n0
  have K0 := Keep.refl h0 []
  show own_Ends p e below (own_Post s below (own_chkLen_Q Z x y h0 n0) ({ frames := 0, cells := 0, slots := 0, locals := 0 } : Room).cells ({ frames := 0, cells := 0, slots := 0, locals := 0 } : Room).slots) s₁ (entryFrame m #[(.int x), (.int y)] 2)
  rw [own_chkLen_ef m x y]
  obtain ⟨T, hT⟩ : ∃ z, z = s₁ := ⟨_, rfl⟩
  rw [← hT] at X eT ⊢
  obtain ⟨h, hh0⟩ : ∃ z, z = h0 := ⟨_, rfl⟩
  rw [← hh0] at eT
  replace O : Old Z n0 h := by rw [hh0]; exact O
  replace K0 : Keep h0 h [] := by rw [hh0]; exact K0
  refine own_via (g' := (mkF m 37 #[.val (.int x), .val (.int y)] [])) (fun t_ k_ => XS.iloadN X.here hx rfl (hb hby ej65m131_d0) rfl (XS.iloadN X.here hx rfl (hb hby ej65m131_d1) rfl (XS.icmpYes X.here hx rfl (pc0 := 2) (pc' := 37) rfl (hb hby ej65m131_d2) rfl (flt hc).2.1 (by decide) (by decide) k_))) ?_
  refine own_retV X hx hlk Bd.returns (hb hby ej65m131_d37) (by decide) (by decide) ?_
  rw [eT]
  exact ⟨rfl, N, hh0⟩
theorem ej65m133_d0 : decode jdk_65_method_133_code 0 = .ok (.iload_n 1, 1) := by decide +kernel
theorem ej65m133_d1 : decode jdk_65_method_133_code 1 = .ok (.iload_n 2, 1) := by decide +kernel
theorem ej65m133_d2 : decode jdk_65_method_133_code 2 = .ok (.invokestatic 343, 3) := by decide +kernel
theorem ej65m133_d5 : decode jdk_65_method_133_code 5 = .ok (.iload_n 2, 1) := by decide +kernel
theorem ej65m133_d6 : decode jdk_65_method_133_code 6 = .ok (.iload_n 1, 1) := by decide +kernel
theorem ej65m133_d7 : decode jdk_65_method_133_code 7 = .ok (.isub, 1) := by decide +kernel
theorem ej65m133_d8 : decode jdk_65_method_133_code 8 = .ok (.istore_n 3, 1) := by decide +kernel
theorem ej65m133_d9 : decode jdk_65_method_133_code 9 = .ok (.iload_n 3, 1) := by decide +kernel
theorem ej65m133_d10 : decode jdk_65_method_133_code 10 = .ok (.newarray .byte, 2) := by decide +kernel
theorem ej65m133_d12 : decode jdk_65_method_133_code 12 = .ok (.astore 4, 2) := by decide +kernel
theorem ej65m133_d14 : decode jdk_65_method_133_code 14 = .ok (.aload_n 0, 1) := by decide +kernel
theorem ej65m133_d15 : decode jdk_65_method_133_code 15 = .ok (.iload_n 1, 1) := by decide +kernel
theorem ej65m133_d16 : decode jdk_65_method_133_code 16 = .ok (.aload 4, 2) := by decide +kernel
theorem ej65m133_d18 : decode jdk_65_method_133_code 18 = .ok (.iconst 0, 1) := by decide +kernel
theorem ej65m133_d19 : decode jdk_65_method_133_code 19 = .ok (.aload_n 0, 1) := by decide +kernel
theorem ej65m133_d20 : decode jdk_65_method_133_code 20 = .ok (.arraylength, 1) := by decide +kernel
theorem ej65m133_d21 : decode jdk_65_method_133_code 21 = .ok (.iload_n 1, 1) := by decide +kernel
theorem ej65m133_d22 : decode jdk_65_method_133_code 22 = .ok (.isub, 1) := by decide +kernel
theorem ej65m133_d23 : decode jdk_65_method_133_code 23 = .ok (.iload_n 3, 1) := by decide +kernel
theorem ej65m133_d24 : decode jdk_65_method_133_code 24 = .ok (.invokestatic 304, 3) := by decide +kernel
theorem ej65m133_d27 : decode jdk_65_method_133_code 27 = .ok (.invokestatic 150, 3) := by decide +kernel
theorem ej65m133_d30 : decode jdk_65_method_133_code 30 = .ok (.aload 4, 2) := by decide +kernel
theorem ej65m133_d32 : decode jdk_65_method_133_code 32 = .ok (.areturn, 1) := by decide +kernel
theorem own_crb_pn : plainFor (⟨"java/util/Arrays", "copyOfRangeByte", "([BII)[B"⟩ : MethodName) = true := by first | exact plainFor_of_name (by first | (simp [plainName, overriddenIn]; done) | decide +kernel) | decide +kernel | exact Jvm.Free.JP.mathPlain rfl (by decide +kernel)
theorem own_crb_ef (m : MethodId) (x0 : Addr) (x1 : Int32) (x2 : Int32) : entryFrame m #[(.ref x0), (.int x1), (.int x2)] 5 = mkF m 0 #[.val (.ref x0), .val (.int x1), .val (.int x2), .unset, .unset] [] := by first | (simp [entryFrame, mkF, argsToLocals, Value.category]; done) | rfl
def own_crb_Q (Z : State) (va : Addr) (kv : ClassId) (n : Int32) (z : Int32) (cs : List Value) (h0 : Heap) (n0 : Nat) (v : Option Value) (h : Heap) (L : List Loc) : Prop := ∃ b kb, v = some (.ref b) ∧ Fr n0 L ∧ Keep h0 h [] ∧ h0.size ≤ b ∧ Arv Z h b kb .byte n cs (.int 0) ∧ Exa Z h b "[B"
set_option maxRecDepth 65536 in
set_option maxHeartbeats 40000000 in
theorem own_crb (l : Launch) (Z : State) (a0 : Array Value) (hw : ∀ d ∈ tables_1, d.before a0 Z = true) (ws : List Jvm.Cond) (va : Addr) (kv : ClassId) (n : Int32) (z : Int32) (cs : List Value) (h0 : Heap) (n0 : Nat) (O : Old Z n0 h0) (E_va : Exa Z h0 va "[B") (V_va : Arv Z h0 va kv .byte z cs (.int 0)) (hp : (n, z) ∈ own_D3) (hl : cs.length = n.toNatClampNeg) :
    MetFree l (⟨"java/util/Arrays", "copyOfRangeByte", "([BII)[B"⟩ : MethodName) (head1 (Jvm.Cond.code (⟨"java/util/Arrays", "copyOfRangeByte", "([BII)[B"⟩ : MethodName) jdk_65_method_133_code 5 (some (.array .byte)) :: ws) ({ frames := 1, cells := 1, slots := 12, locals := 18 } : Room)) (fun a U => a = #[(.ref va), (.int 0), (.int n)] ∧ Z.Warmed39 U.vm ∧ U.heap = h0) (fun _ _ _ _ _ => True) (fun _ U o U' => ∃ v L, o = .returned v ∧ own_crb_Q Z va kv n z cs h0 n0 v U'.heap L ∧ FrameEnd U o U' L ({ frames := 1, cells := 1, slots := 12, locals := 18 } : Room).cells ({ frames := 1, cells := 1, slots := 12, locals := 18 } : Room).slots) := by
  refine MetFree.of_bodySF own_crb_pn hisR ?_
  intro p e s m args below meth c s₁ Bd hml0 hP hK
  obtain ⟨rfl, hZ, hh⟩ := hP
  have hx := Bd.exec
  have hby := Bd.bytes
  have hlk := Bd.notSynchronized
  have hml : c.maxLocals = 5 := hml0
  have hown : s.vm.findClass "java/util/Arrays" = some m.cls := findClass_of_methodNamed Bd.named
  have hnm := (name_of_methodNamed Bd.named Bd.method).1
  have X : Stand p l e ({ frames := 1, cells := 1, slots := 12, locals := 18 } : Room) s m #[(.ref va), (.int 0), (.int n)] below meth c s₁ [] 0 0 := Stand.of_body Bd
  have eT : s₁.heap = h0 := by rw [← hh, Bd.state]; rfl
  have N := Fr.nil n0
  have K0 := Keep.refl h0 []
  show own_Ends p e below (own_Post s below (own_crb_Q Z va kv n z cs h0 n0) ({ frames := 1, cells := 1, slots := 12, locals := 18 } : Room).cells ({ frames := 1, cells := 1, slots := 12, locals := 18 } : Room).slots) s₁ (entryFrame m #[(.ref va), (.int 0), (.int n)] 5)
  rw [own_crb_ef m va (0 : Int32) n]
  obtain ⟨T, hT⟩ : ∃ z, z = s₁ := ⟨_, rfl⟩
  rw [← hT] at X eT ⊢
  obtain ⟨h, hh0⟩ : ∃ z, z = h0 := ⟨_, rfl⟩
  rw [← hh0] at eT
  replace O : Old Z n0 h := by rw [hh0]; exact O
  replace K0 : Keep h0 h [] := by rw [hh0]; exact K0
  rw [← hh0] at E_va
  rw [← hh0] at V_va
  refine own_via (g' := (mkF m 2 (own_L27 va 0 n) [(.int n), (.int 0)])) (fun t_ k_ => XS.iloadN X.here hx rfl (hb hby ej65m133_d0) rfl (XS.iloadN X.here hx rfl (hb hby ej65m133_d1) rfl k_)) ?_
  obtain ⟨_, _, ⟨T, Lq, kq, nq⟩, -, X, ⟨Lc, hQ, lq, yq, zq⟩, st⟩ := Jvm.LawKit.callS X hx (y := own_y11) hown (mvT hZ (hw _ (own_w 173 rfl))) (mvT hZ (hw _ (own_w 174 rfl))) (mvT hZ (hw _ (own_w 69 rfl))) (mvT hZ (hw _ (own_w 175 rfl))) (by decide) (backOf (W := 0) (own_chkLen l Z a0 hw [] (0 : Int32) n h n0 O (own_dom2 (P := fun n z => ¬ n < (0 : Int32)) (by decide) hp)) hZ (hw _ (own_w 175 rfl)) (hw _ (own_w 69 rfl)) (by decide) (by decide)) (g := (mkF m 2 (own_L27 va 0 n) [(.int n), (.int 0)])) rfl (by rw [hml]; rfl) (argsL := [(.int 0), (.int n)]) (rest := []) (lenOf own_pd9 rfl) rfl (by show 2 * 0 + _ ≤ _; exact Nat.le_of_eq rfl) (hb hby ej65m133_d2) (fun _ _ => ⟨rfl, eT, (by decide : 0 + 0 ≤ _), (by decide : 0 + 0 ≤ _)⟩)
  dsimp only [Pt.U, Pt.locs, Pt.cells, Pt.slots] at X lq yq zq st hQ
  subst lq yq zq
  obtain ⟨rfl, Nq, eT⟩ := hQ
  replace N := Fr.app N Nq
  refine own_via (g' := (mkF m 5 (own_L27 va 0 n) [])) st ?_
  refine own_via (g' := (mkF m 8 (own_L27 va 0 n) [(.int (n - (0 : Int32)))])) (fun t_ k_ => XS.iloadN X.here hx rfl (hb hby ej65m133_d5) rfl (XS.iloadN X.here hx rfl (hb hby ej65m133_d6) rfl (XS.isub X.here hx rfl (hb hby ej65m133_d7) rfl k_))) ?_
  rw [(show (n - (0 : Int32)) = n from (own_dom2 (P := fun n z => (n - (0 : Int32)) = n) (by decide) hp))]
  refine own_via (g' := (mkF m 10 (own_L23 va 0 n n) [(.int n)])) (fun t_ k_ => XS.istoreN X.here hx rfl (hb hby ej65m133_d8) rfl (l' := (own_L23 va 0 n n)) rfl (XS.iloadN X.here hx rfl (hb hby ej65m133_d9) rfl k_)) ?_
  obtain ⟨b1, gb⟩ : ∃ z, z = h.size := ⟨_, rfl⟩
  obtain ⟨T, h2, kb1, X, eT, E, A_, E_b1, st⟩ := newPE X hx hZ (hw _ (own_w 0 rfl)) eT (g := (mkF m 10 (own_L23 va 0 n n) [(.int n)])) rfl (hb hby ej65m133_d10) rfl (own_dom2 (P := fun n z => ¬ (n) < 0) (by decide) hp) (cap := 12) (own_dom2 (P := fun n z => (n).toNatClampNeg ≤ 12) (by decide) hp) (by decide) (by decide) (by decide) (ad := "[B") (by decide)
  rw [← gb] at A_ E_b1 st
  have ne_va_b1 : va ≠ b1 := Nat.ne_of_lt (Nat.lt_of_lt_of_le E_va.lt (Nat.le_of_eq gb.symm))
  have g_b1 : n0 ≤ b1 := Nat.le_trans (own_le O) (Nat.le_of_eq gb.symm)
  have sz_b1 : h0.size ≤ b1 := Nat.le_trans K0.1 (Nat.le_of_eq gb.symm)
  replace E_va := E_va.ext E
  replace V_va := V_va.ext E
  replace O := O.ext E
  replace K0 := K0.ext E
  have V_b1 : Arv Z h2 b1 kb1 .byte n (List.replicate n.toNatClampNeg (Value.int (0 : Int32))) (.int 0) := (Arv.new A_ (own_dom2 (P := fun n z => ¬ (n) < 0) (by decide) hp)).pad (pad_rep [] (.int 0) n.toNatClampNeg)
  refine own_via (g' := (mkF m 12 (own_L23 va 0 n n) [(.ref b1)])) st ?_
  refine own_via (g' := (mkF m 20 (own_L18 va 0 n n b1) [(.ref va), (.int 0), (.ref b1), (.int 0), (.ref va)])) (fun t_ k_ => XS.astore X.here hx rfl (hb hby ej65m133_d12) rfl rfl (l' := (own_L18 va 0 n n b1)) rfl (XS.aloadN X.here hx rfl (hb hby ej65m133_d14) rfl rfl (XS.iloadN X.here hx rfl (hb hby ej65m133_d15) rfl (XS.aload X.here hx rfl (hb hby ej65m133_d16) rfl rfl (XS.iconst X.here hx rfl (hb hby ej65m133_d18) (XS.aloadN X.here hx rfl (hb hby ej65m133_d19) rfl rfl k_)))))) ?_
  obtain ⟨cl_, Ar_, -, Sz_, Nn_, -, -⟩ := id V_va
  refine own_via (g' := (mkF m 21 (own_L18 va 0 n n b1) [(.int z), (.int 0), (.ref b1), (.int 0), (.ref va)])) (fun t_ k_ => X.arraylength hx (by rw [eT]; exact Ar_.1) (State.isArrayOf_alike hZ.alike Ar_.2.1) (g := (mkF m 20 (own_L18 va 0 n n b1) [(.ref va), (.int 0), (.ref b1), (.int 0), (.ref va)])) rfl rfl (hb hby ej65m133_d20) _ (by rw [len_of Sz_ Nn_]; exact k_)) ?_
  refine own_via (g' := (mkF m 23 (own_L18 va 0 n n b1) [(.int (z - (0 : Int32))), (.int 0), (.ref b1), (.int 0), (.ref va)])) (fun t_ k_ => XS.iloadN X.here hx rfl (hb hby ej65m133_d21) rfl (XS.isub X.here hx rfl (hb hby ej65m133_d22) rfl k_)) ?_
  rw [(show (z - (0 : Int32)) = z from (own_dom2 (P := fun n z => (z - (0 : Int32)) = z) (by decide) hp))]
  refine own_via (g' := (mkF m 24 (own_L18 va 0 n n b1) [(.int n), (.int z), (.int 0), (.ref b1), (.int 0), (.ref va)])) (fun t_ k_ => XS.iloadN X.here hx rfl (hb hby ej65m133_d23) rfl k_) ?_
  obtain ⟨_, _, ⟨T, Lq, kq, nq⟩, -, X, ⟨Lc, hQ, lq, yq, zq⟩, st⟩ := Jvm.LawKit.callS X hx (y := own_y2) hown (mvT hZ (hw _ (own_w 71 rfl))) (mvT hZ (hw _ (own_w 72 rfl))) (mvT hZ (hw _ (own_w 63 rfl))) (mvT hZ (hw _ (own_w 73 rfl))) (by decide) (backOf (W := 4) (own_min l Z a0 hw [] z n n h2 n0 O (own_dom2 (P := fun n z => (n < z → n = n) ∧ (¬ n < z → n = z)) (by decide) hp)) hZ (hw _ (own_w 73 rfl)) (hw _ (own_w 63 rfl)) (by decide) (by decide)) (g := (mkF m 24 (own_L18 va 0 n n b1) [(.int n), (.int z), (.int 0), (.ref b1), (.int 0), (.ref va)])) rfl (by rw [hml]; rfl) (argsL := [(.int z), (.int n)]) (rest := [(.int 0), (.ref b1), (.int 0), (.ref va)]) (lenOf own_pd0 rfl) rfl (by show 2 * 0 + _ ≤ _; exact Nat.le_of_eq rfl) (hb hby ej65m133_d24) (fun _ _ => ⟨rfl, eT, (by decide : 1 + 0 ≤ _), (by decide : 12 + 0 ≤ _)⟩)
  dsimp only [Pt.U, Pt.locs, Pt.cells, Pt.slots] at X lq yq zq st hQ
  subst lq yq zq
  obtain ⟨rfl, Nq, eT⟩ := hQ
  replace N := Fr.app N Nq
  refine own_via (g' := (mkF m 27 (own_L18 va 0 n n b1) [(.int n), (.int 0), (.ref b1), (.int 0), (.ref va)])) st ?_
  obtain ⟨T, h3, Lq, X, eT, N, Kq, Vq, st⟩ := cpA X hx hZ hown (hw _ (own_w 74 rfl)) (hw _ (own_w 77 rfl)) (hw _ (own_w 75 rfl)) (hw _ (own_w 76 rfl)) eT V_va V_b1 (Or.inl ⟨rfl, rfl⟩) (sp := (0 : Int32)) (dp := (0 : Int32)) (nn := n) (by decide) (by decide) (own_dom2 (P := fun n z => ¬ n < 0) (by decide) hp) (own_dom2 (P := fun n z => (0 : Int32).toNatClampNeg + (n).toNatClampNeg ≤ (z).toNatClampNeg) (by decide) hp) (own_dom2 (P := fun n z => (0 : Int32).toNatClampNeg + (n).toNatClampNeg ≤ (n).toNatClampNeg) (by decide) hp) rfl (by rw [List.length_replicate]; exact Nat.le_of_eq (Nat.zero_add _)) N g_b1 (g := (mkF m 27 (own_L18 va 0 n n b1) [(.int n), (.int 0), (.ref b1), (.int 0), (.ref va)])) rfl (by rw [hml]; rfl) rfl (hb hby ej65m133_d27) (by decide) (W := 0) (by show 2 * 0 + _ ≤ _; exact Nat.le_of_eq rfl) (by decide)
  replace V_b1 : Arv Z h3 b1 kb1 .byte n cs (.int 0) := by
    have e_ := own_cpy cs _ hl (.int 0)
    rw [← e_]; exact Vq
  replace E_va := E_va.keep Kq
  replace V_va := V_va.keep Kq (ninS ne_va_b1 nin0)
  replace E_b1 := E_b1.keep Kq
  replace O := O.keep Kq (allS g_b1 all0)
  replace K0 := K0.trans Kq (allS (Or.inr sz_b1) all0)
  refine own_via (g' := (mkF m 30 (own_L18 va 0 n n b1) [])) st ?_
  refine own_via (g' := (mkF m 32 (own_L18 va 0 n n b1) [(.ref b1)])) (fun t_ k_ => XS.aload X.here hx rfl (hb hby ej65m133_d30) rfl rfl k_) ?_
  refine own_retW X hx hlk Bd.returns rfl (Or.inr (Or.inr (Or.inr (Or.inr ⟨rfl, rfl, rfl⟩)))) (hb hby ej65m133_d32) (by decide) (by decide) ?_
  rw [eT]
  exact ⟨b1, _, rfl, N, K0, sz_b1, V_b1, E_b1⟩
theorem ej65m132_d0 : decode jdk_65_method_132_code 0 = .ok (.iload_n 1, 1) := by decide +kernel
theorem ej65m132_d1 : decode jdk_65_method_132_code 1 = .ok (.ifCond .ne 9, 3) := by decide +kernel
theorem ej65m132_d4 : decode jdk_65_method_132_code 4 = .ok (.iload_n 2, 1) := by decide +kernel
theorem ej65m132_d5 : decode jdk_65_method_132_code 5 = .ok (.aload_n 0, 1) := by decide +kernel
theorem ej65m132_d6 : decode jdk_65_method_132_code 6 = .ok (.arraylength, 1) := by decide +kernel
theorem ej65m132_d7 : decode jdk_65_method_132_code 7 = .ok (.if_icmp .eq 10, 3) := by decide +kernel
theorem ej65m132_d10 : decode jdk_65_method_132_code 10 = .ok (.aload_n 0, 1) := by decide +kernel
theorem ej65m132_d11 : decode jdk_65_method_132_code 11 = .ok (.iload_n 1, 1) := by decide +kernel
theorem ej65m132_d12 : decode jdk_65_method_132_code 12 = .ok (.iload_n 2, 1) := by decide +kernel
theorem ej65m132_d13 : decode jdk_65_method_132_code 13 = .ok (.invokestatic 339, 3) := by decide +kernel
theorem ej65m132_d16 : decode jdk_65_method_132_code 16 = .ok (.areturn, 1) := by decide +kernel
theorem ej65m132_d17 : decode jdk_65_method_132_code 17 = .ok (.aload_n 0, 1) := by decide +kernel
theorem ej65m132_d18 : decode jdk_65_method_132_code 18 = .ok (.invokevirtual 310, 3) := by decide +kernel
theorem ej65m132_d21 : decode jdk_65_method_132_code 21 = .ok (.checkcast 311, 3) := by decide +kernel
theorem ej65m132_d24 : decode jdk_65_method_132_code 24 = .ok (.areturn, 1) := by decide +kernel
theorem own_cr_pn : plainFor (⟨"java/util/Arrays", "copyOfRange", "([BII)[B"⟩ : MethodName) = true := by first | exact plainFor_of_name (by first | (simp [plainName, overriddenIn]; done) | decide +kernel) | decide +kernel | exact Jvm.Free.JP.mathPlain rfl (by decide +kernel)
theorem own_cr_ef (m : MethodId) (x0 : Addr) (x1 : Int32) (x2 : Int32) : entryFrame m #[(.ref x0), (.int x1), (.int x2)] 3 = mkF m 0 #[.val (.ref x0), .val (.int x1), .val (.int x2)] [] := by first | (simp [entryFrame, mkF, argsToLocals, Value.category]; done) | rfl
def own_cr_Q (Z : State) (va : Addr) (kv : ClassId) (n : Int32) (z : Int32) (cs : List Value) (h0 : Heap) (n0 : Nat) (v : Option Value) (h : Heap) (L : List Loc) : Prop := ∃ b kb, v = some (.ref b) ∧ Fr n0 L ∧ Keep h0 h [] ∧ h0.size ≤ b ∧ Arv Z h b kb .byte n cs (.int 0) ∧ Exa Z h b "[B"
set_option maxRecDepth 65536 in
set_option maxHeartbeats 40000000 in
theorem own_cr (l : Launch) (Z : State) (a0 : Array Value) (hw : ∀ d ∈ tables_1, d.before a0 Z = true) (ws : List Jvm.Cond) (va : Addr) (kv : ClassId) (n : Int32) (z : Int32) (cs : List Value) (h0 : Heap) (n0 : Nat) (O : Old Z n0 h0) (E_va : Exa Z h0 va "[B") (V_va : Arv Z h0 va kv .byte z cs (.int 0)) (hp : (n, z) ∈ own_D2) (hl : cs.length = n.toNatClampNeg) :
    MetFree l (⟨"java/util/Arrays", "copyOfRange", "([BII)[B"⟩ : MethodName) (head1 (Jvm.Cond.code (⟨"java/util/Arrays", "copyOfRange", "([BII)[B"⟩ : MethodName) jdk_65_method_132_code 3 (some (.array .byte)) :: ws) ({ frames := 2, cells := 1, slots := 18, locals := 34 } : Room)) (fun a U => a = #[(.ref va), (.int 0), (.int n)] ∧ Z.Warmed39 U.vm ∧ U.heap = h0) (fun _ _ _ _ _ => True) (fun _ U o U' => ∃ v L, o = .returned v ∧ own_cr_Q Z va kv n z cs h0 n0 v U'.heap L ∧ FrameEnd U o U' L ({ frames := 2, cells := 1, slots := 18, locals := 34 } : Room).cells ({ frames := 2, cells := 1, slots := 18, locals := 34 } : Room).slots) := by
  refine MetFree.of_bodySF own_cr_pn hisR ?_
  intro p e s m args below meth c s₁ Bd hml0 hP hK
  obtain ⟨rfl, hZ, hh⟩ := hP
  have hx := Bd.exec
  have hby := Bd.bytes
  have hlk := Bd.notSynchronized
  have hml : c.maxLocals = 3 := hml0
  have hown : s.vm.findClass "java/util/Arrays" = some m.cls := findClass_of_methodNamed Bd.named
  have hnm := (name_of_methodNamed Bd.named Bd.method).1
  have X : Stand p l e ({ frames := 2, cells := 1, slots := 18, locals := 34 } : Room) s m #[(.ref va), (.int 0), (.int n)] below meth c s₁ [] 0 0 := Stand.of_body Bd
  have eT : s₁.heap = h0 := by rw [← hh, Bd.state]; rfl
  have N := Fr.nil n0
  have K0 := Keep.refl h0 []
  show own_Ends p e below (own_Post s below (own_cr_Q Z va kv n z cs h0 n0) ({ frames := 2, cells := 1, slots := 18, locals := 34 } : Room).cells ({ frames := 2, cells := 1, slots := 18, locals := 34 } : Room).slots) s₁ (entryFrame m #[(.ref va), (.int 0), (.int n)] 3)
  rw [own_cr_ef m va (0 : Int32) n]
  obtain ⟨T, hT⟩ : ∃ z, z = s₁ := ⟨_, rfl⟩
  rw [← hT] at X eT ⊢
  obtain ⟨h, hh0⟩ : ∃ z, z = h0 := ⟨_, rfl⟩
  rw [← hh0] at eT
  replace O : Old Z n0 h := by rw [hh0]; exact O
  replace K0 : Keep h0 h [] := by rw [hh0]; exact K0
  rw [← hh0] at E_va
  rw [← hh0] at V_va
  refine own_via (g' := (mkF m 6 (own_L26 va 0 n) [(.ref va), (.int n)])) (fun t_ k_ => XS.iloadN X.here hx rfl (hb hby ej65m132_d0) rfl (XS.ifNo X.here hx rfl (hb hby ej65m132_d1) rfl ((if0 _ _).trans (teq (by decide : (0 : Int32) = (0 : Int32))).2) (XS.iloadN X.here hx rfl (hb hby ej65m132_d4) rfl (XS.aloadN X.here hx rfl (hb hby ej65m132_d5) rfl rfl k_)))) ?_
  obtain ⟨cl_, Ar_, -, Sz_, Nn_, -, -⟩ := id V_va
  refine own_via (g' := (mkF m 7 (own_L26 va 0 n) [(.int z), (.int n)])) (fun t_ k_ => X.arraylength hx (by rw [eT]; exact Ar_.1) (State.isArrayOf_alike hZ.alike Ar_.2.1) (g := (mkF m 6 (own_L26 va 0 n) [(.ref va), (.int n)])) rfl rfl (hb hby ej65m132_d6) _ (by rw [len_of Sz_ Nn_]; exact k_)) ?_
  by_cases hc1 : n = z
  · refine own_via (g' := (mkF m 18 (own_L26 va 0 n) [(.ref va)])) (fun t_ k_ => XS.icmpYes X.here hx rfl (pc0 := 7) (pc' := 17) rfl (hb hby ej65m132_d7) rfl (teq hc1).1 (by decide) (by decide) (XS.aloadN X.here hx rfl (hb hby ej65m132_d17) rfl rfl k_)) ?_
    obtain ⟨b2, gb⟩ : ∃ z, z = h.size := ⟨_, rfl⟩
    obtain ⟨T, h3, X, eT, E, V_b2, E_b2, st⟩ := cloneH X hx hZ hown (hw _ (own_w 114 rfl)) (hw _ (own_w 115 rfl)) (hw _ (own_w 119 rfl)) (hw _ (own_w 117 rfl)) (hw _ (own_w 118 rfl)) (hw _ (own_w 120 rfl)) eT V_va.arh E_va (g := (mkF m 18 (own_L26 va 0 n) [(.ref va)])) rfl (by rw [hml]; rfl) rfl (hb hby ej65m132_d18) (by decide) (W := 0) (cap := 18) (by show 2 * 0 + _ ≤ _; exact Nat.le_of_eq rfl) (by decide) (own_dom2 (P := fun n z => z.toNatClampNeg ≤ 18) (by decide) hp) (by decide) (by decide)
    rw [← gb] at V_b2 E_b2 st
    have ne_va_b2 : va ≠ b2 := Nat.ne_of_lt (Nat.lt_of_lt_of_le E_va.lt (Nat.le_of_eq gb.symm))
    have g_b2 : n0 ≤ b2 := Nat.le_trans (own_le O) (Nat.le_of_eq gb.symm)
    have sz_b2 : h0.size ≤ b2 := Nat.le_trans K0.1 (Nat.le_of_eq gb.symm)
    replace E_va := E_va.ext E
    replace V_va := V_va.ext E
    replace O := O.ext E
    replace K0 := K0.ext E
    replace V_b2 : Arv Z h3 b2 kv .byte z cs (.int 0) := V_b2
    refine own_via (g' := (mkF m 21 (own_L26 va 0 n) [(.ref b2)])) st ?_
    obtain ⟨T, X, eT, st⟩ := castY X hx hZ hown (hw _ (own_w 121 rfl)) eT (Ins.self E_b2) (g := (mkF m 21 (own_L26 va 0 n) [(.ref b2)])) rfl rfl (hb hby ej65m132_d21)
    refine own_via (g' := (mkF m 24 (own_L26 va 0 n) [(.ref b2)])) st ?_
    refine own_retW X hx hlk Bd.returns rfl (Or.inr (Or.inr (Or.inr (Or.inr ⟨rfl, rfl, rfl⟩)))) (hb hby ej65m132_d24) (by decide) (by decide) ?_
    rw [eT]
    exact ⟨b2, _, rfl, N, K0, sz_b2, hc1.symm ▸ V_b2, E_b2⟩
  · refine own_via (g' := (mkF m 13 (own_L26 va 0 n) [(.int n), (.int 0), (.ref va)])) (fun t_ k_ => XS.icmpNo X.here hx rfl (hb hby ej65m132_d7) rfl (feq hc1).1 (XS.aloadN X.here hx rfl (hb hby ej65m132_d10) rfl rfl (XS.iloadN X.here hx rfl (hb hby ej65m132_d11) rfl (XS.iloadN X.here hx rfl (hb hby ej65m132_d12) rfl k_)))) ?_
    obtain ⟨_, _, ⟨T, Lq, kq, nq⟩, -, X, ⟨Lc, hQ, lq, yq, zq⟩, st⟩ := Jvm.LawKit.callS X hx (y := own_y12) hown (mvT hZ (hw _ (own_w 170 rfl))) (mvT hZ (hw _ (own_w 171 rfl))) (mvT hZ (hw _ (own_w 69 rfl))) (mvT hZ (hw _ (own_w 172 rfl))) (by decide) (backOf (W := 0) (own_crb l Z a0 hw [] va kv n z cs h n0 O E_va V_va (own_dom2 (P := fun n z => ¬ n = z → (n, z) ∈ own_D3) (by decide) hp hc1) hl) hZ (hw _ (own_w 172 rfl)) (hw _ (own_w 69 rfl)) (by decide) (by decide)) (g := (mkF m 13 (own_L26 va 0 n) [(.int n), (.int 0), (.ref va)])) rfl (by rw [hml]; rfl) (argsL := [(.ref va), (.int 0), (.int n)]) (rest := []) (lenOf own_pd10 rfl) rfl (by show 2 * 0 + _ ≤ _; exact Nat.le_of_eq rfl) (hb hby ej65m132_d13) (fun _ _ => ⟨rfl, eT, (by decide : 0 + 1 ≤ _), (by decide : 0 + 12 ≤ _)⟩)
    dsimp only [Pt.U, Pt.locs, Pt.cells, Pt.slots] at X lq yq zq st hQ
    subst lq yq zq
    obtain ⟨bn, kbn, rfl, Nq, Kq, szq, V_bn, E_bn⟩ := hQ
    replace N := Fr.app N Nq
    obtain ⟨h4, eT⟩ : ∃ z, T.heap = z := ⟨_, rfl⟩
    rw [eT] at Kq V_bn E_bn
    have ne_va_bn : va ≠ bn := Nat.ne_of_lt (Nat.lt_of_lt_of_le E_va.lt szq)
    have g_bn : n0 ≤ bn := Nat.le_trans (own_le O) szq
    have sz_bn : h0.size ≤ bn := Nat.le_trans K0.1 szq
    replace E_va := E_va.keep Kq
    replace V_va := V_va.keep Kq nin0
    replace O := O.keep Kq all0
    replace K0 := K0.trans Kq all0
    refine own_via (g' := (mkF m 16 (own_L26 va 0 n) [(.ref bn)])) st ?_
    refine own_retW X hx hlk Bd.returns rfl (Or.inr (Or.inr (Or.inr (Or.inr ⟨rfl, rfl, rfl⟩)))) (hb hby ej65m132_d16) (by decide) (by decide) ?_
    rw [eT]
    exact ⟨bn, _, rfl, N, K0, sz_bn, V_bn, E_bn⟩
theorem ej42m150_d0 : decode jdk_42_method_150_code 0 = .ok (.aload_n 0, 1) := by decide +kernel
theorem ej42m150_d1 : decode jdk_42_method_150_code 1 = .ok (.invokespecial 1, 3) := by decide +kernel
theorem ej42m150_d4 : decode jdk_42_method_150_code 4 = .ok (.aload_n 1, 1) := by decide +kernel
theorem ej42m150_d5 : decode jdk_42_method_150_code 5 = .ok (.invokevirtual 552, 3) := by decide +kernel
theorem ej42m150_d8 : decode jdk_42_method_150_code 8 = .ok (.astore_n 3, 1) := by decide +kernel
theorem ej42m150_d9 : decode jdk_42_method_150_code 9 = .ok (.aload_n 1, 1) := by decide +kernel
theorem ej42m150_d10 : decode jdk_42_method_150_code 10 = .ok (.invokevirtual 549, 3) := by decide +kernel
theorem ej42m150_d13 : decode jdk_42_method_150_code 13 = .ok (.istore 4, 2) := by decide +kernel
theorem ej42m150_d15 : decode jdk_42_method_150_code 15 = .ok (.aload_n 1, 1) := by decide +kernel
theorem ej42m150_d16 : decode jdk_42_method_150_code 16 = .ok (.invokevirtual 1047, 3) := by decide +kernel
theorem ej42m150_d19 : decode jdk_42_method_150_code 19 = .ok (.ifCond .eq 22, 3) := by decide +kernel
theorem ej42m150_d22 : decode jdk_42_method_150_code 22 = .ok (.aload_n 0, 1) := by decide +kernel
theorem ej42m150_d23 : decode jdk_42_method_150_code 23 = .ok (.iconst 0, 1) := by decide +kernel
theorem ej42m150_d24 : decode jdk_42_method_150_code 24 = .ok (.putfield 15, 3) := by decide +kernel
theorem ej42m150_d27 : decode jdk_42_method_150_code 27 = .ok (.aload_n 0, 1) := by decide +kernel
theorem ej42m150_d28 : decode jdk_42_method_150_code 28 = .ok (.aload_n 3, 1) := by decide +kernel
theorem ej42m150_d29 : decode jdk_42_method_150_code 29 = .ok (.iconst 0, 1) := by decide +kernel
theorem ej42m150_d30 : decode jdk_42_method_150_code 30 = .ok (.iload 4, 2) := by decide +kernel
theorem ej42m150_d32 : decode jdk_42_method_150_code 32 = .ok (.invokestatic 54, 3) := by decide +kernel
theorem ej42m150_d35 : decode jdk_42_method_150_code 35 = .ok (.putfield 9, 3) := by decide +kernel
theorem ej42m150_d38 : decode jdk_42_method_150_code 38 = .ok (.goto 59, 3) := by decide +kernel
theorem ej42m150_d97 : decode jdk_42_method_150_code 97 = .ok (.return_, 1) := by decide +kernel
theorem own_si2_pn : plainFor (⟨"java/lang/String", "<init>", "(Ljava/lang/AbstractStringBuilder;Ljava/lang/Void;)V"⟩ : MethodName) = true := by first | exact plainFor_of_name (by first | (simp [plainName, overriddenIn]; done) | decide +kernel) | decide +kernel | exact Jvm.Free.JP.mathPlain rfl (by decide +kernel)
theorem own_si2_ef (m : MethodId) (x0 : Addr) (x1 : Addr) : entryFrame m #[(.ref x0), (.ref x1), .null] 5 = mkF m 0 #[.val (.ref x0), .val (.ref x1), .val .null, .unset, .unset] [] := by first | (simp [entryFrame, mkF, argsToLocals, Value.category]; done) | rfl
def own_si2_Q (Z : State) (a1 : Addr) (s1 : Addr) (va : Addr) (kv : ClassId) (n : Int32) (z : Int32) (cs : List Value) (zc : Int32) (h0 : Heap) (n0 : Nat) (v : Option Value) (h : Heap) (L : List Loc) : Prop := ∃ b kb, v = none ∧ Fr n0 L ∧ Keep h0 h [a1] ∧ h0.size ≤ b ∧ Fld Z h a1 "java/lang/String" "value" "[B" (.ref b) ∧ Fld Z h a1 "java/lang/String" "coder" "B" (.int 0) ∧ Arv Z h b kb .byte n cs (.int 0) ∧ Exa Z h b "[B"
set_option maxRecDepth 65536 in
set_option maxHeartbeats 40000000 in
theorem own_si2 (l : Launch) (Z : State) (a0 : Array Value) (hw : ∀ d ∈ tables_1, d.before a0 Z = true) (ws : List Jvm.Cond) (a1 : Addr) (s1 : Addr) (va : Addr) (kv : ClassId) (n : Int32) (z : Int32) (cs : List Value) (zc : Int32) (h0 : Heap) (n0 : Nat) (O : Old Z n0 h0) (E_a1 : Exa Z h0 a1 "java/lang/String") (F_value_a1 : Fld Z h0 a1 "java/lang/String" "value" "[B" .null) (F_coder_a1 : Fld Z h0 a1 "java/lang/String" "coder" "B" (.int 0)) (E_s1 : Exa Z h0 s1 "java/lang/StringBuilder") (F_value_s1 : Fld Z h0 s1 "java/lang/AbstractStringBuilder" "value" "[B" (.ref va)) (F_coder_s1 : Fld Z h0 s1 "java/lang/AbstractStringBuilder" "coder" "B" (.int 0)) (F_count_s1 : Fld Z h0 s1 "java/lang/AbstractStringBuilder" "count" "I" (.int n)) (E_va : Exa Z h0 va "[B") (V_va : Arv Z h0 va kv .byte z cs (.int 0)) (hp : (n, z) ∈ own_D2) (hl : cs.length = n.toNatClampNeg) (g_a1 : n0 ≤ a1) (ne_a1_va : a1 ≠ va) (S_C : Sta Z Z.heap "java/lang/String" "COMPACT_STRINGS" "Z" (.int zc)) (hzc : ¬ zc = 0) :
    MetFree l (⟨"java/lang/String", "<init>", "(Ljava/lang/AbstractStringBuilder;Ljava/lang/Void;)V"⟩ : MethodName) (head1 (Jvm.Cond.code (⟨"java/lang/String", "<init>", "(Ljava/lang/AbstractStringBuilder;Ljava/lang/Void;)V"⟩ : MethodName) jdk_42_method_150_code 5 none :: ws) ({ frames := 3, cells := 1, slots := 18, locals := 49 } : Room)) (fun a U => a = #[(.ref a1), (.ref s1), .null] ∧ Z.Warmed39 U.vm ∧ U.heap = h0) (fun _ _ _ _ _ => True) (fun _ U o U' => ∃ v L, o = .returned v ∧ own_si2_Q Z a1 s1 va kv n z cs zc h0 n0 v U'.heap L ∧ FrameEnd U o U' L ({ frames := 3, cells := 1, slots := 18, locals := 49 } : Room).cells ({ frames := 3, cells := 1, slots := 18, locals := 49 } : Room).slots) := by
  refine MetFree.of_bodySF own_si2_pn hisR ?_
  intro p e s m args below meth c s₁ Bd hml0 hP hK
  obtain ⟨rfl, hZ, hh⟩ := hP
  have hx := Bd.exec
  have hby := Bd.bytes
  have hlk := Bd.notSynchronized
  have hml : c.maxLocals = 5 := hml0
  have hown : s.vm.findClass "java/lang/String" = some m.cls := findClass_of_methodNamed Bd.named
  have hnm := (name_of_methodNamed Bd.named Bd.method).1
  have X : Stand p l e ({ frames := 3, cells := 1, slots := 18, locals := 49 } : Room) s m #[(.ref a1), (.ref s1), .null] below meth c s₁ [] 0 0 := Stand.of_body Bd
  have eT : s₁.heap = h0 := by rw [← hh, Bd.state]; rfl
  have N := Fr.nil n0
  have K0 := Keep.refl h0 [a1]
  show own_Ends p e below (own_Post s below (own_si2_Q Z a1 s1 va kv n z cs zc h0 n0) ({ frames := 3, cells := 1, slots := 18, locals := 49 } : Room).cells ({ frames := 3, cells := 1, slots := 18, locals := 49 } : Room).slots) s₁ (entryFrame m #[(.ref a1), (.ref s1), .null] 5)
  rw [own_si2_ef m a1 s1]
  obtain ⟨T, hT⟩ : ∃ z, z = s₁ := ⟨_, rfl⟩
  rw [← hT] at X eT ⊢
  obtain ⟨h, hh0⟩ : ∃ z, z = h0 := ⟨_, rfl⟩
  rw [← hh0] at eT
  replace O : Old Z n0 h := by rw [hh0]; exact O
  replace K0 : Keep h0 h [a1] := by rw [hh0]; exact K0
  rw [← hh0] at E_a1
  rw [← hh0] at F_value_a1
  rw [← hh0] at F_coder_a1
  rw [← hh0] at E_s1
  rw [← hh0] at F_value_s1
  rw [← hh0] at F_coder_s1
  rw [← hh0] at F_count_s1
  rw [← hh0] at E_va
  rw [← hh0] at V_va
  have ne_a1_s1 := Exa.ne E_a1 E_s1 (by decide)
  have ne_s1_va := Exa.ne E_s1 E_va (by decide)
  refine own_via (g' := (mkF m 1 (own_L29 a1 s1) [(.ref a1)])) (fun t_ k_ => XS.aloadN X.here hx rfl (hb hby ej42m150_d0) rfl rfl k_) ?_
  obtain ⟨T, X, eT, st⟩ := initO X hx hZ hown (hw _ (own_w 94 rfl)) (hw _ (own_w 18 rfl)) (hw _ (own_w 19 rfl)) eT (g := (mkF m 1 (own_L29 a1 s1) [(.ref a1)])) rfl (by rw [hml]; rfl) rfl (hb hby ej42m150_d1) (by decide) (W := 0) (by show 2 * 0 + _ ≤ _; exact Nat.le_of_eq rfl) (by decide)
  refine own_via (g' := (mkF m 4 (own_L29 a1 s1) [])) st ?_
  refine own_via (g' := (mkF m 5 (own_L29 a1 s1) [(.ref s1)])) (fun t_ k_ => XS.aloadN X.here hx rfl (hb hby ej42m150_d4) rfl rfl k_) ?_
  obtain ⟨cq, kq, qa, qb, qc⟩ := isOf hZ eT E_s1
  obtain ⟨_, _, ⟨T, Lq, kq, nq⟩, -, X, ⟨Lc, hQ, lq, yq, zq⟩, st⟩ := X.virtualBack hx (y := own_y13) (z := own_y13) hown (mvT hZ (hw _ (own_w 95 rfl))) (mvT hZ (hw _ (own_w 96 rfl))) (notFace_of_selects (args := #[]) (mvT hZ (hw _ (own_w 98 rfl)))) (mvT hZ (hw _ (own_w 98 rfl))) (mvT hZ (hw _ (own_w 97 rfl))) (by decide) (backOf (W := 0) (own_getValue l Z a0 hw [] s1 va h n0 O F_value_s1) hZ (hw _ (own_w 99 rfl)) (hw _ (own_w 15 rfl)) (by decide) (by decide)) qa qc (g := (mkF m 5 (own_L29 a1 s1) [(.ref s1)])) rfl (by rw [hml]; rfl) (Steps.refl _) (argsL := []) (rest := []) (lenOf own_pd11 rfl) rfl (by show 2 * 0 + _ ≤ _; exact Nat.le_of_eq rfl) (hb hby ej42m150_d5) (fun _ _ => ⟨rfl, eT, (by decide : 0 + 0 ≤ _), (by decide : 0 + 0 ≤ _)⟩)
  dsimp only [Pt.U, Pt.locs, Pt.cells, Pt.slots] at X lq yq zq st hQ
  subst lq yq zq
  obtain ⟨rfl, Nq, eT⟩ := hQ
  replace N := Fr.app N Nq
  refine own_viaT (g' := (mkF m 8 (own_L29 a1 s1) [(.ref va)])) st ?_
  refine own_via (g' := (mkF m 10 (own_L24 a1 s1 va) [(.ref s1)])) (fun t_ k_ => XS.astoreN X.here hx rfl (hb hby ej42m150_d8) rfl rfl (l' := (own_L24 a1 s1 va)) rfl (XS.aloadN X.here hx rfl (hb hby ej42m150_d9) rfl rfl k_)) ?_
  obtain ⟨cq, kq, qa, qb, qc⟩ := isOf hZ eT E_s1
  obtain ⟨_, _, ⟨T, Lq, kq, nq⟩, -, X, ⟨Lc, hQ, lq, yq, zq⟩, st⟩ := X.virtualBack hx (y := own_y10) (z := own_y14) hown (mvT hZ (hw _ (own_w 100 rfl))) (mvT hZ (hw _ (own_w 101 rfl))) (own_nf (args := #[]) (mvT hZ (hw _ (own_w 41 rfl))) rfl) (mvT hZ (hw _ (own_w 103 rfl))) (mvT hZ (hw _ (own_w 104 rfl))) (by decide) (backOf (W := 0) (own_sbLen l Z a0 hw [] s1 n h n0 O E_s1 F_count_s1) hZ (hw _ (own_w 105 rfl)) (hw _ (own_w 7 rfl)) (by decide) (by decide)) qa qc (g := (mkF m 10 (own_L24 a1 s1 va) [(.ref s1)])) rfl (by rw [hml]; rfl) (Steps.refl _) (argsL := []) (rest := []) (lenOf own_pd8 rfl) rfl (by show 2 * 0 + _ ≤ _; exact Nat.le_of_eq rfl) (hb hby ej42m150_d10) (fun _ _ => ⟨rfl, eT, (by decide : 0 + 0 ≤ _), (by decide : 0 + 0 ≤ _)⟩)
  dsimp only [Pt.U, Pt.locs, Pt.cells, Pt.slots] at X lq yq zq st hQ
  subst lq yq zq
  obtain ⟨rfl, Nq, eT⟩ := hQ
  replace N := Fr.app N Nq
  refine own_viaT (g' := (mkF m 13 (own_L24 a1 s1 va) [(.int n)])) st ?_
  refine own_via (g' := (mkF m 16 (own_L19 a1 s1 va n) [(.ref s1)])) (fun t_ k_ => XS.istore X.here hx rfl (hb hby ej42m150_d13) rfl (l' := (own_L19 a1 s1 va n)) rfl (XS.aloadN X.here hx rfl (hb hby ej42m150_d15) rfl rfl k_)) ?_
  obtain ⟨cq, kq, qa, qb, qc⟩ := isOf hZ eT E_s1
  obtain ⟨_, _, ⟨T, Lq, kq, nq⟩, -, X, ⟨Lc, hQ, lq, yq, zq⟩, st⟩ := X.virtualBack hx (y := own_y6) (z := own_y6) hown (mvT hZ (hw _ (own_w 108 rfl))) (mvT hZ (hw _ (own_w 44 rfl))) (notFace_of_selects (args := #[]) (mvT hZ (hw _ (own_w 46 rfl)))) (mvT hZ (hw _ (own_w 46 rfl))) (mvT hZ (hw _ (own_w 45 rfl))) (by decide) (backOf (W := 0) (own_isl l Z a0 hw [] s1 zc h n0 O F_coder_s1 S_C hzc) hZ (hw _ (own_w 47 rfl)) (hw _ (own_w 15 rfl)) (by decide) (by decide)) qa qc (g := (mkF m 16 (own_L19 a1 s1 va n) [(.ref s1)])) rfl (by rw [hml]; rfl) (Steps.refl _) (argsL := []) (rest := []) (lenOf own_pd5 rfl) rfl (by show 2 * 0 + _ ≤ _; exact Nat.le_of_eq rfl) (hb hby ej42m150_d16) (fun _ _ => ⟨rfl, eT, (by decide : 0 + 0 ≤ _), (by decide : 0 + 0 ≤ _)⟩)
  dsimp only [Pt.U, Pt.locs, Pt.cells, Pt.slots] at X lq yq zq st hQ
  subst lq yq zq
  obtain ⟨rfl, Nq, eT⟩ := hQ
  replace N := Fr.app N Nq
  refine own_viaT (g' := (mkF m 19 (own_L19 a1 s1 va n) [(.int 1)])) st ?_
  refine own_via (g' := (mkF m 24 (own_L19 a1 s1 va n) [(.int 0), (.ref a1)])) (fun t_ k_ => XS.ifNo X.here hx rfl (hb hby ej42m150_d19) rfl ((if0 _ _).trans (feq (by decide : ¬ ((1 : Int32) = (0 : Int32)))).1) (XS.aloadN X.here hx rfl (hb hby ej42m150_d22) rfl rfl (XS.iconst X.here hx rfl (hb hby ej42m150_d23) k_))) ?_
  obtain ⟨T, h1, X, eT, W, st⟩ := putFN X hx hZ hown (hw _ (own_w 109 rfl)) Via.refl eT F_coder_a1 E_a1 (Or.inr ⟨(hw _ (own_w 110 rfl)), rfl, hnm⟩) (hw _ (own_w 86 rfl)) (ty := .byte) (v' := (.int 0)) (by decide) rfl (by decide) (g := (mkF m 24 (own_L19 a1 s1 va n) [(.int 0), (.ref a1)])) rfl rfl (hb hby ej42m150_d24)
  replace F_coder_a1 := F_coder_a1.same W
  replace E_a1 := E_a1.wr W
  replace F_value_a1 := F_value_a1.other W (Or.inr (slot_ne (Or.inr (hw _ (own_w 124 rfl))) (Or.inr (hw _ (own_w 110 rfl))) (by decide) (t := (.array .byte)) (t' := .byte) (by decide) (by decide)))
  replace E_s1 := E_s1.wr W
  replace F_value_s1 := F_value_s1.other W (Or.inl (Ne.symm ne_a1_s1))
  replace F_coder_s1 := F_coder_s1.other W (Or.inl (Ne.symm ne_a1_s1))
  replace F_count_s1 := F_count_s1.other W (Or.inl (Ne.symm ne_a1_s1))
  replace E_va := E_va.wr W
  replace V_va := V_va.other W (Ne.symm ne_a1_va)
  replace O := O.wr W g_a1
  replace K0 := K0.wr W (Or.inl (List.mem_of_getElem? (i := 0) rfl))
  replace N := Fr.snoc X N g_a1
  refine own_via (g' := (mkF m 27 (own_L19 a1 s1 va n) [])) st ?_
  refine own_via (g' := (mkF m 32 (own_L19 a1 s1 va n) [(.int n), (.int 0), (.ref va), (.ref a1)])) (fun t_ k_ => XS.aloadN X.here hx rfl (hb hby ej42m150_d27) rfl rfl (XS.aloadN X.here hx rfl (hb hby ej42m150_d28) rfl rfl (XS.iconst X.here hx rfl (hb hby ej42m150_d29) (XS.iload X.here hx rfl (hb hby ej42m150_d30) rfl k_)))) ?_
  obtain ⟨_, _, ⟨T, Lq, kq, nq⟩, -, X, ⟨Lc, hQ, lq, yq, zq⟩, st⟩ := Jvm.LawKit.callS X hx (y := own_y15) hown (mvT hZ (hw _ (own_w 111 rfl))) (mvT hZ (hw _ (own_w 112 rfl))) (mvT hZ (hw _ (own_w 69 rfl))) (mvT hZ (hw _ (own_w 113 rfl))) (by decide) (backOf (W := 1) (own_cr l Z a0 hw [] va kv n z cs h1 n0 O E_va V_va hp hl) hZ (hw _ (own_w 113 rfl)) (hw _ (own_w 69 rfl)) (by decide) (by decide)) (g := (mkF m 32 (own_L19 a1 s1 va n) [(.int n), (.int 0), (.ref va), (.ref a1)])) rfl (by rw [hml]; rfl) (argsL := [(.ref va), (.int 0), (.int n)]) (rest := [(.ref a1)]) (lenOf own_pd10 rfl) rfl (by show 2 * 0 + _ ≤ _; exact Nat.le_of_eq rfl) (hb hby ej42m150_d32) (fun _ _ => ⟨rfl, eT, (by decide : 0 + 1 ≤ _), (by decide : 0 + 18 ≤ _)⟩)
  dsimp only [Pt.U, Pt.locs, Pt.cells, Pt.slots] at X lq yq zq st hQ
  subst lq yq zq
  obtain ⟨bn, kbn, rfl, Nq, Kq, szq, V_bn, E_bn⟩ := hQ
  replace N := Fr.app N Nq
  obtain ⟨h2, eT⟩ : ∃ z, T.heap = z := ⟨_, rfl⟩
  rw [eT] at Kq V_bn E_bn
  have ne_a1_bn : a1 ≠ bn := Nat.ne_of_lt (Nat.lt_of_lt_of_le E_a1.lt szq)
  have ne_s1_bn : s1 ≠ bn := Nat.ne_of_lt (Nat.lt_of_lt_of_le E_s1.lt szq)
  have ne_va_bn : va ≠ bn := Nat.ne_of_lt (Nat.lt_of_lt_of_le E_va.lt szq)
  have g_bn : n0 ≤ bn := Nat.le_trans (own_le O) szq
  have sz_bn : h0.size ≤ bn := Nat.le_trans K0.1 szq
  replace E_a1 := E_a1.keep Kq
  replace F_value_a1 := F_value_a1.keep Kq nin0
  replace F_coder_a1 := F_coder_a1.keep Kq nin0
  replace E_s1 := E_s1.keep Kq
  replace F_value_s1 := F_value_s1.keep Kq nin0
  replace F_coder_s1 := F_coder_s1.keep Kq nin0
  replace F_count_s1 := F_count_s1.keep Kq nin0
  replace E_va := E_va.keep Kq
  replace V_va := V_va.keep Kq nin0
  replace O := O.keep Kq all0
  replace K0 := K0.trans Kq all0
  refine own_via (g' := (mkF m 35 (own_L19 a1 s1 va n) [(.ref bn), (.ref a1)])) st ?_
  obtain ⟨T, h3, X, eT, W, st⟩ := putF X hx hZ hown (host := "") (Or.inl (hw _ (own_w 123 rfl))) Via.refl eT F_value_a1 E_a1 (Or.inr ⟨(hw _ (own_w 124 rfl)), rfl, hnm⟩) (hw _ (own_w 86 rfl)) (ty := (.array .byte)) (by decide) rfl rfl (g := (mkF m 35 (own_L19 a1 s1 va n) [(.ref bn), (.ref a1)])) rfl rfl (hb hby ej42m150_d35)
  replace F_value_a1 := F_value_a1.same W
  replace E_a1 := E_a1.wr W
  replace F_coder_a1 := F_coder_a1.other W (Or.inr (slot_ne (Or.inr (hw _ (own_w 110 rfl))) (Or.inr (hw _ (own_w 124 rfl))) (by decide) (t := .byte) (t' := (.array .byte)) (by decide) (by decide)))
  replace E_s1 := E_s1.wr W
  replace F_value_s1 := F_value_s1.other W (Or.inl (Ne.symm ne_a1_s1))
  replace F_coder_s1 := F_coder_s1.other W (Or.inl (Ne.symm ne_a1_s1))
  replace F_count_s1 := F_count_s1.other W (Or.inl (Ne.symm ne_a1_s1))
  replace E_va := E_va.wr W
  replace V_va := V_va.other W (Ne.symm ne_a1_va)
  replace V_bn := V_bn.other W (Ne.symm ne_a1_bn)
  replace E_bn := E_bn.wr W
  replace O := O.wr W g_a1
  replace K0 := K0.wr W (Or.inl (List.mem_of_getElem? (i := 0) rfl))
  replace N := Fr.snoc X N g_a1
  refine own_via (g' := (mkF m 38 (own_L19 a1 s1 va n) [])) st ?_
  refine own_via (g' := (mkF m 97 (own_L19 a1 s1 va n) [])) (fun t_ k_ => XS.goto X.here hx rfl (pc0 := 38) (pc' := 97) rfl (hb hby ej42m150_d38) (by decide) (by decide) k_) ?_
  refine own_retV X hx hlk Bd.returns (hb hby ej42m150_d97) (by decide) (by decide) ?_
  rw [eT]
  exact ⟨bn, kbn, rfl, N, K0, sz_bn, F_value_a1, F_coder_a1, V_bn, E_bn⟩
theorem ej42m53_d0 : decode jdk_42_method_53_code 0 = .ok (.aload_n 0, 1) := by decide +kernel
theorem ej42m53_d1 : decode jdk_42_method_53_code 1 = .ok (.aload_n 1, 1) := by decide +kernel
theorem ej42m53_d2 : decode jdk_42_method_53_code 2 = .ok (.aconst_null, 1) := by decide +kernel
theorem ej42m53_d3 : decode jdk_42_method_53_code 3 = .ok (.invokespecial 489, 3) := by decide +kernel
theorem ej42m53_d6 : decode jdk_42_method_53_code 6 = .ok (.return_, 1) := by decide +kernel
theorem own_si1_pn : plainFor (⟨"java/lang/String", "<init>", "(Ljava/lang/StringBuilder;)V"⟩ : MethodName) = true := by first | exact plainFor_of_name (by first | (simp [plainName, overriddenIn]; done) | decide +kernel) | decide +kernel | exact Jvm.Free.JP.mathPlain rfl (by decide +kernel)
theorem own_si1_ef (m : MethodId) (x0 : Addr) (x1 : Addr) : entryFrame m #[(.ref x0), (.ref x1)] 2 = mkF m 0 #[.val (.ref x0), .val (.ref x1)] [] := by first | (simp [entryFrame, mkF, argsToLocals, Value.category]; done) | rfl
def own_si1_Q (Z : State) (a1 : Addr) (s1 : Addr) (va : Addr) (kv : ClassId) (n : Int32) (z : Int32) (cs : List Value) (zc : Int32) (h0 : Heap) (n0 : Nat) (v : Option Value) (h : Heap) (L : List Loc) : Prop := ∃ b kb, v = none ∧ Fr n0 L ∧ Keep h0 h [a1] ∧ h0.size ≤ b ∧ Fld Z h a1 "java/lang/String" "value" "[B" (.ref b) ∧ Fld Z h a1 "java/lang/String" "coder" "B" (.int 0) ∧ Arv Z h b kb .byte n cs (.int 0) ∧ Exa Z h b "[B"
set_option maxRecDepth 65536 in
set_option maxHeartbeats 40000000 in
theorem own_si1 (l : Launch) (Z : State) (a0 : Array Value) (hw : ∀ d ∈ tables_1, d.before a0 Z = true) (ws : List Jvm.Cond) (a1 : Addr) (s1 : Addr) (va : Addr) (kv : ClassId) (n : Int32) (z : Int32) (cs : List Value) (zc : Int32) (h0 : Heap) (n0 : Nat) (O : Old Z n0 h0) (E_a1 : Exa Z h0 a1 "java/lang/String") (F_value_a1 : Fld Z h0 a1 "java/lang/String" "value" "[B" .null) (F_coder_a1 : Fld Z h0 a1 "java/lang/String" "coder" "B" (.int 0)) (E_s1 : Exa Z h0 s1 "java/lang/StringBuilder") (F_value_s1 : Fld Z h0 s1 "java/lang/AbstractStringBuilder" "value" "[B" (.ref va)) (F_coder_s1 : Fld Z h0 s1 "java/lang/AbstractStringBuilder" "coder" "B" (.int 0)) (F_count_s1 : Fld Z h0 s1 "java/lang/AbstractStringBuilder" "count" "I" (.int n)) (E_va : Exa Z h0 va "[B") (V_va : Arv Z h0 va kv .byte z cs (.int 0)) (hp : (n, z) ∈ own_D2) (hl : cs.length = n.toNatClampNeg) (g_a1 : n0 ≤ a1) (ne_a1_va : a1 ≠ va) (S_C : Sta Z Z.heap "java/lang/String" "COMPACT_STRINGS" "Z" (.int zc)) (hzc : ¬ zc = 0) :
    MetFree l (⟨"java/lang/String", "<init>", "(Ljava/lang/StringBuilder;)V"⟩ : MethodName) (head1 (Jvm.Cond.code (⟨"java/lang/String", "<init>", "(Ljava/lang/StringBuilder;)V"⟩ : MethodName) jdk_42_method_53_code 2 none :: ws) ({ frames := 4, cells := 1, slots := 18, locals := 65 } : Room)) (fun a U => a = #[(.ref a1), (.ref s1)] ∧ Z.Warmed39 U.vm ∧ U.heap = h0) (fun _ _ _ _ _ => True) (fun _ U o U' => ∃ v L, o = .returned v ∧ own_si1_Q Z a1 s1 va kv n z cs zc h0 n0 v U'.heap L ∧ FrameEnd U o U' L ({ frames := 4, cells := 1, slots := 18, locals := 65 } : Room).cells ({ frames := 4, cells := 1, slots := 18, locals := 65 } : Room).slots) := by
  refine MetFree.of_bodySF own_si1_pn hisR ?_
  intro p e s m args below meth c s₁ Bd hml0 hP hK
  obtain ⟨rfl, hZ, hh⟩ := hP
  have hx := Bd.exec
  have hby := Bd.bytes
  have hlk := Bd.notSynchronized
  have hml : c.maxLocals = 2 := hml0
  have hown : s.vm.findClass "java/lang/String" = some m.cls := findClass_of_methodNamed Bd.named
  have hnm := (name_of_methodNamed Bd.named Bd.method).1
  have X : Stand p l e ({ frames := 4, cells := 1, slots := 18, locals := 65 } : Room) s m #[(.ref a1), (.ref s1)] below meth c s₁ [] 0 0 := Stand.of_body Bd
  have eT : s₁.heap = h0 := by rw [← hh, Bd.state]; rfl
  have N := Fr.nil n0
  have K0 := Keep.refl h0 [a1]
  show own_Ends p e below (own_Post s below (own_si1_Q Z a1 s1 va kv n z cs zc h0 n0) ({ frames := 4, cells := 1, slots := 18, locals := 65 } : Room).cells ({ frames := 4, cells := 1, slots := 18, locals := 65 } : Room).slots) s₁ (entryFrame m #[(.ref a1), (.ref s1)] 2)
  rw [own_si1_ef m a1 s1]
  obtain ⟨T, hT⟩ : ∃ z, z = s₁ := ⟨_, rfl⟩
  rw [← hT] at X eT ⊢
  obtain ⟨h, hh0⟩ : ∃ z, z = h0 := ⟨_, rfl⟩
  rw [← hh0] at eT
  replace O : Old Z n0 h := by rw [hh0]; exact O
  replace K0 : Keep h0 h [a1] := by rw [hh0]; exact K0
  rw [← hh0] at E_a1
  rw [← hh0] at F_value_a1
  rw [← hh0] at F_coder_a1
  rw [← hh0] at E_s1
  rw [← hh0] at F_value_s1
  rw [← hh0] at F_coder_s1
  rw [← hh0] at F_count_s1
  rw [← hh0] at E_va
  rw [← hh0] at V_va
  have ne_a1_s1 := Exa.ne E_a1 E_s1 (by decide)
  have ne_s1_va := Exa.ne E_s1 E_va (by decide)
  refine own_via (g' := (mkF m 3 #[.val (.ref a1), .val (.ref s1)] [.null, (.ref s1), (.ref a1)])) (fun t_ k_ => XS.aloadN X.here hx rfl (hb hby ej42m53_d0) rfl rfl (XS.aloadN X.here hx rfl (hb hby ej42m53_d1) rfl rfl (XS.aconstNull X.here hx rfl (hb hby ej42m53_d2) k_))) ?_
  obtain ⟨_, _, ⟨T, Lq, kq, nq⟩, -, X, ⟨Lc, hQ, lq, yq, zq⟩, st⟩ := X.specialBack hx (y := own_y16) rfl hown (mvT hZ (hw _ (own_w 91 rfl))) (mvT hZ (hw _ (own_w 92 rfl))) (mvT hZ (hw _ (own_w 93 rfl))) (by decide) (backOf (W := 0) (own_si2 l Z a0 hw [] a1 s1 va kv n z cs zc h n0 O E_a1 F_value_a1 F_coder_a1 E_s1 F_value_s1 F_coder_s1 F_count_s1 E_va V_va hp hl g_a1 ne_a1_va S_C hzc) hZ (hw _ (own_w 93 rfl)) (hw _ (own_w 21 rfl)) (by decide) (by decide)) (g := (mkF m 3 #[.val (.ref a1), .val (.ref s1)] [.null, (.ref s1), (.ref a1)])) rfl (by rw [hml]; rfl) (Steps.refl _) (a := a1) (argsL := [(.ref s1), .null]) (rest := []) (lenOf own_pd12 rfl) rfl (by show 2 * 0 + _ ≤ _; exact Nat.le_of_eq rfl) (hb hby ej42m53_d3) (fun _ _ => ⟨rfl, eT, (by decide : 0 + 1 ≤ _), (by decide : 0 + 18 ≤ _)⟩)
  dsimp only [Pt.U, Pt.locs, Pt.cells, Pt.slots] at X lq yq zq st hQ
  subst lq yq zq
  obtain ⟨bn, kbn, rfl, Nq, Kq, szq, F_value_a1, F_coder_a1, V_bn, E_bn⟩ := hQ
  replace N := Fr.app N Nq
  obtain ⟨h1, eT⟩ : ∃ z, T.heap = z := ⟨_, rfl⟩
  rw [eT] at Kq F_value_a1 F_coder_a1 V_bn E_bn
  have ne_a1_bn : a1 ≠ bn := Nat.ne_of_lt (Nat.lt_of_lt_of_le E_a1.lt szq)
  have ne_s1_bn : s1 ≠ bn := Nat.ne_of_lt (Nat.lt_of_lt_of_le E_s1.lt szq)
  have ne_va_bn : va ≠ bn := Nat.ne_of_lt (Nat.lt_of_lt_of_le E_va.lt szq)
  have g_bn : n0 ≤ bn := Nat.le_trans (own_le O) szq
  have sz_bn : h0.size ≤ bn := Nat.le_trans K0.1 szq
  replace E_a1 := E_a1.keep Kq
  replace E_s1 := E_s1.keep Kq
  replace F_value_s1 := F_value_s1.keep Kq (ninS (Ne.symm ne_a1_s1) nin0)
  replace F_coder_s1 := F_coder_s1.keep Kq (ninS (Ne.symm ne_a1_s1) nin0)
  replace F_count_s1 := F_count_s1.keep Kq (ninS (Ne.symm ne_a1_s1) nin0)
  replace E_va := E_va.keep Kq
  replace V_va := V_va.keep Kq (ninS (Ne.symm ne_a1_va) nin0)
  replace O := O.keep Kq (allS g_a1 all0)
  replace K0 := K0.trans Kq (allS (Or.inl (List.mem_of_getElem? (i := 0) rfl)) all0)
  refine own_viaT (g' := (mkF m 6 #[.val (.ref a1), .val (.ref s1)] [])) st ?_
  refine own_retV X hx hlk Bd.returns (hb hby ej42m53_d6) (by decide) (by decide) ?_
  rw [eT]
  exact ⟨bn, kbn, rfl, N, K0, sz_bn, F_value_a1, F_coder_a1, V_bn, E_bn⟩
theorem ej67m42_d0 : decode jdk_67_method_42_code 0 = .ok (.new 18, 3) := by decide +kernel
theorem ej67m42_d3 : decode jdk_67_method_42_code 3 = .ok (.dup, 1) := by decide +kernel
theorem ej67m42_d4 : decode jdk_67_method_42_code 4 = .ok (.aload_n 0, 1) := by decide +kernel
theorem ej67m42_d5 : decode jdk_67_method_42_code 5 = .ok (.invokespecial 137, 3) := by decide +kernel
theorem ej67m42_d8 : decode jdk_67_method_42_code 8 = .ok (.areturn, 1) := by decide +kernel
theorem own_ts_pn : plainFor (⟨"java/lang/StringBuilder", "toString", "()Ljava/lang/String;"⟩ : MethodName) = true := by first | exact plainFor_of_name (by first | (simp [plainName, overriddenIn]; done) | decide +kernel) | decide +kernel | exact Jvm.Free.JP.mathPlain rfl (by decide +kernel)
theorem own_ts_ef (m : MethodId) (x0 : Addr) : entryFrame m #[(.ref x0)] 1 = mkF m 0 #[.val (.ref x0)] [] := by first | (simp [entryFrame, mkF, argsToLocals, Value.category]; done) | rfl
def own_ts_Q (Z : State) (s1 : Addr) (va : Addr) (kv : ClassId) (n : Int32) (z : Int32) (cs : List Value) (zc : Int32) (h0 : Heap) (n0 : Nat) (v : Option Value) (h : Heap) (L : List Loc) : Prop := ∃ r b kb, v = some (.ref r) ∧ Fr n0 L ∧ Keep h0 h [] ∧ h0.size ≤ r ∧ h0.size ≤ b ∧ Exa Z h r "java/lang/String" ∧ Fld Z h r "java/lang/String" "value" "[B" (.ref b) ∧ Fld Z h r "java/lang/String" "coder" "B" (.int 0) ∧ Arv Z h b kb .byte n cs (.int 0)
set_option maxRecDepth 65536 in
set_option maxHeartbeats 40000000 in
theorem own_ts (l : Launch) (Z : State) (a0 : Array Value) (hw : ∀ d ∈ tables_1, d.before a0 Z = true) (ws : List Jvm.Cond) (s1 : Addr) (va : Addr) (kv : ClassId) (n : Int32) (z : Int32) (cs : List Value) (zc : Int32) (h0 : Heap) (n0 : Nat) (O : Old Z n0 h0) (E_s1 : Exa Z h0 s1 "java/lang/StringBuilder") (F_value_s1 : Fld Z h0 s1 "java/lang/AbstractStringBuilder" "value" "[B" (.ref va)) (F_coder_s1 : Fld Z h0 s1 "java/lang/AbstractStringBuilder" "coder" "B" (.int 0)) (F_count_s1 : Fld Z h0 s1 "java/lang/AbstractStringBuilder" "count" "I" (.int n)) (E_va : Exa Z h0 va "[B") (V_va : Arv Z h0 va kv .byte z cs (.int 0)) (hp : (n, z) ∈ own_D2) (hl : cs.length = n.toNatClampNeg) (S_C : Sta Z Z.heap "java/lang/String" "COMPACT_STRINGS" "Z" (.int zc)) (hzc : ¬ zc = 0) :
    MetFree l (⟨"java/lang/StringBuilder", "toString", "()Ljava/lang/String;"⟩ : MethodName) (head1 (Jvm.Cond.code (⟨"java/lang/StringBuilder", "toString", "()Ljava/lang/String;"⟩ : MethodName) jdk_67_method_42_code 1 (some (.object "java/lang/String")) :: ws) ({ frames := 5, cells := 2, slots := 22, locals := 79 } : Room)) (fun a U => a = #[(.ref s1)] ∧ Z.Warmed39 U.vm ∧ U.heap = h0) (fun _ _ _ _ _ => True) (fun _ U o U' => ∃ v L, o = .returned v ∧ own_ts_Q Z s1 va kv n z cs zc h0 n0 v U'.heap L ∧ FrameEnd U o U' L ({ frames := 5, cells := 2, slots := 22, locals := 79 } : Room).cells ({ frames := 5, cells := 2, slots := 22, locals := 79 } : Room).slots) := by
  refine MetFree.of_bodySF own_ts_pn hisR ?_
  intro p e s m args below meth c s₁ Bd hml0 hP hK
  obtain ⟨rfl, hZ, hh⟩ := hP
  have hx := Bd.exec
  have hby := Bd.bytes
  have hlk := Bd.notSynchronized
  have hml : c.maxLocals = 1 := hml0
  have hown : s.vm.findClass "java/lang/StringBuilder" = some m.cls := findClass_of_methodNamed Bd.named
  have hnm := (name_of_methodNamed Bd.named Bd.method).1
  have X : Stand p l e ({ frames := 5, cells := 2, slots := 22, locals := 79 } : Room) s m #[(.ref s1)] below meth c s₁ [] 0 0 := Stand.of_body Bd
  have eT : s₁.heap = h0 := by rw [← hh, Bd.state]; rfl
  have N := Fr.nil n0
  have K0 := Keep.refl h0 []
  show own_Ends p e below (own_Post s below (own_ts_Q Z s1 va kv n z cs zc h0 n0) ({ frames := 5, cells := 2, slots := 22, locals := 79 } : Room).cells ({ frames := 5, cells := 2, slots := 22, locals := 79 } : Room).slots) s₁ (entryFrame m #[(.ref s1)] 1)
  rw [own_ts_ef m s1]
  obtain ⟨T, hT⟩ : ∃ z, z = s₁ := ⟨_, rfl⟩
  rw [← hT] at X eT ⊢
  obtain ⟨h, hh0⟩ : ∃ z, z = h0 := ⟨_, rfl⟩
  rw [← hh0] at eT
  replace O : Old Z n0 h := by rw [hh0]; exact O
  replace K0 : Keep h0 h [] := by rw [hh0]; exact K0
  rw [← hh0] at E_s1
  rw [← hh0] at F_value_s1
  rw [← hh0] at F_coder_s1
  rw [← hh0] at F_count_s1
  rw [← hh0] at E_va
  rw [← hh0] at V_va
  have ne_s1_va := Exa.ne E_s1 E_va (by decide)
  obtain ⟨b1, gb⟩ : ∃ z, z = h.size := ⟨_, rfl⟩
  obtain ⟨T, h2, X, eT, E, E_b1, Dq, -, st⟩ := newO X hx hZ hown (hw _ (own_w 85 rfl)) (hw _ (own_w 86 rfl)) (hw _ (own_w 21 rfl)) eT (g := (mkF m 0 #[.val (.ref s1)] [])) rfl (hb hby ej67m42_d0) (by decide) (by decide)
  rw [← gb] at E_b1 Dq st
  have ne_s1_b1 : s1 ≠ b1 := Nat.ne_of_lt (Nat.lt_of_lt_of_le E_s1.lt (Nat.le_of_eq gb.symm))
  have ne_va_b1 : va ≠ b1 := Nat.ne_of_lt (Nat.lt_of_lt_of_le E_va.lt (Nat.le_of_eq gb.symm))
  have g_b1 : n0 ≤ b1 := Nat.le_trans (own_le O) (Nat.le_of_eq gb.symm)
  have sz_b1 : h0.size ≤ b1 := Nat.le_trans K0.1 (Nat.le_of_eq gb.symm)
  replace E_s1 := E_s1.ext E
  replace F_value_s1 := F_value_s1.ext E
  replace F_coder_s1 := F_coder_s1.ext E
  replace F_count_s1 := F_count_s1.ext E
  replace E_va := E_va.ext E
  replace V_va := V_va.ext E
  replace O := O.ext E
  replace K0 := K0.ext E
  have F_coder_b1 : Fld Z h2 b1 "java/lang/String" "coder" "B" (.int 0) := Dq (Or.inr (hw _ (own_w 110 rfl))) (ty := .byte) (by decide)
  have F_value_b1 : Fld Z h2 b1 "java/lang/String" "value" "[B" .null := Dq (Or.inr (hw _ (own_w 124 rfl))) (ty := (.array .byte)) (by decide)
  refine own_via (g' := (mkF m 3 #[.val (.ref s1)] [(.ref b1)])) st ?_
  refine own_via (g' := (mkF m 5 #[.val (.ref s1)] [(.ref s1), (.ref b1), (.ref b1)])) (fun t_ k_ => XS.dup X.here hx rfl (hb hby ej67m42_d3) rfl rfl (XS.aloadN X.here hx rfl (hb hby ej67m42_d4) rfl rfl k_)) ?_
  obtain ⟨_, _, ⟨T, Lq, kq, nq⟩, -, X, ⟨Lc, hQ, lq, yq, zq⟩, st⟩ := X.specialBack hx (y := own_y17) rfl hown (mvT hZ (hw _ (own_w 87 rfl))) (mvT hZ (hw _ (own_w 88 rfl))) (mvT hZ (hw _ (own_w 90 rfl))) (by decide) (backOf (W := 1) (own_si1 l Z a0 hw [] b1 s1 va kv n z cs zc h2 n0 O E_b1 F_value_b1 F_coder_b1 E_s1 F_value_s1 F_coder_s1 F_count_s1 E_va V_va hp hl g_b1 (Ne.symm ne_va_b1) S_C hzc) hZ (hw _ (own_w 90 rfl)) (hw _ (own_w 21 rfl)) (by decide) (by decide)) (g := (mkF m 5 #[.val (.ref s1)] [(.ref s1), (.ref b1), (.ref b1)])) rfl (by rw [hml]; rfl) (Steps.refl _) (a := b1) (argsL := [(.ref s1)]) (rest := [(.ref b1)]) (lenOf own_pd13 rfl) rfl (by show 2 * 0 + _ ≤ _; exact Nat.le_of_eq rfl) (hb hby ej67m42_d5) (fun _ _ => ⟨rfl, eT, (by decide : 1 + 1 ≤ _), (by decide : 4 + 18 ≤ _)⟩)
  dsimp only [Pt.U, Pt.locs, Pt.cells, Pt.slots] at X lq yq zq st hQ
  subst lq yq zq
  obtain ⟨bn, kbn, rfl, Nq, Kq, szq, F_value_b1, F_coder_b1, V_bn, E_bn⟩ := hQ
  replace N := Fr.app N Nq
  obtain ⟨h3, eT⟩ : ∃ z, T.heap = z := ⟨_, rfl⟩
  rw [eT] at Kq F_value_b1 F_coder_b1 V_bn E_bn
  have ne_b1_bn : b1 ≠ bn := Nat.ne_of_lt (Nat.lt_of_lt_of_le E_b1.lt szq)
  have ne_s1_bn : s1 ≠ bn := Nat.ne_of_lt (Nat.lt_of_lt_of_le E_s1.lt szq)
  have ne_va_bn : va ≠ bn := Nat.ne_of_lt (Nat.lt_of_lt_of_le E_va.lt szq)
  have g_bn : n0 ≤ bn := Nat.le_trans (own_le O) szq
  have sz_bn : h0.size ≤ bn := Nat.le_trans K0.1 szq
  replace E_s1 := E_s1.keep Kq
  replace F_value_s1 := F_value_s1.keep Kq (ninS ne_s1_b1 nin0)
  replace F_coder_s1 := F_coder_s1.keep Kq (ninS ne_s1_b1 nin0)
  replace F_count_s1 := F_count_s1.keep Kq (ninS ne_s1_b1 nin0)
  replace E_va := E_va.keep Kq
  replace V_va := V_va.keep Kq (ninS ne_va_b1 nin0)
  replace E_b1 := E_b1.keep Kq
  replace O := O.keep Kq (allS g_b1 all0)
  replace K0 := K0.trans Kq (allS (Or.inr sz_b1) all0)
  refine own_viaT (g' := (mkF m 8 #[.val (.ref s1)] [(.ref b1)])) st ?_
  refine own_retW X hx hlk Bd.returns rfl (Or.inr (Or.inr (Or.inr (Or.inr ⟨rfl, rfl, rfl⟩)))) (hb hby ej67m42_d8) (by decide) (by decide) ?_
  rw [eT]
  exact ⟨b1, bn, kbn, rfl, N, K0, sz_b1, sz_bn, E_b1, F_value_b1, F_coder_b1, V_bn⟩
theorem ej42m152_d0 : decode jdk_42_method_152_code 0 = .ok (.getstatic 38, 3) := by decide +kernel
theorem ej42m152_d3 : decode jdk_42_method_152_code 3 = .ok (.ifCond .eq 10, 3) := by decide +kernel
theorem ej42m152_d6 : decode jdk_42_method_152_code 6 = .ok (.aload_n 0, 1) := by decide +kernel
theorem ej42m152_d7 : decode jdk_42_method_152_code 7 = .ok (.getfield 15, 3) := by decide +kernel
theorem ej42m152_d10 : decode jdk_42_method_152_code 10 = .ok (.goto 4, 3) := by decide +kernel
theorem ej42m152_d14 : decode jdk_42_method_152_code 14 = .ok (.ireturn, 1) := by decide +kernel
theorem own_coder_pn : plainFor (⟨"java/lang/String", "coder", "()B"⟩ : MethodName) = true := by first | exact plainFor_of_name (by first | (simp [plainName, overriddenIn]; done) | decide +kernel) | decide +kernel | exact Jvm.Free.JP.mathPlain rfl (by decide +kernel)
theorem own_coder_ef (m : MethodId) (x0 : Addr) : entryFrame m #[(.ref x0)] 1 = mkF m 0 #[.val (.ref x0)] [] := by first | (simp [entryFrame, mkF, argsToLocals, Value.category]; done) | rfl
def own_coder_Q (Z : State) (a1 : Addr) (va : Addr) (kv : ClassId) (z : Int32) (vs : List Value) (zc : Int32) (h0 : Heap) (n0 : Nat) (v : Option Value) (h : Heap) (L : List Loc) : Prop := v = some (.int 0) ∧ Fr n0 L ∧ h = h0
set_option maxRecDepth 65536 in
set_option maxHeartbeats 40000000 in
theorem own_coder (l : Launch) (Z : State) (a0 : Array Value) (hw : ∀ d ∈ tables_1, d.before a0 Z = true) (ws : List Jvm.Cond) (a1 : Addr) (va : Addr) (kv : ClassId) (z : Int32) (vs : List Value) (zc : Int32) (h0 : Heap) (n0 : Nat) (O : Old Z n0 h0) (E_a1 : Exa Z h0 a1 "java/lang/String") (F_value_a1 : Fld Z h0 a1 "java/lang/String" "value" "[B" (.ref va)) (F_coder_a1 : Fld Z h0 a1 "java/lang/String" "coder" "B" (.int 0)) (V_va : Arv Z h0 va kv .byte z vs (.int 0)) (S_C : Sta Z Z.heap "java/lang/String" "COMPACT_STRINGS" "Z" (.int zc)) (hzc : ¬ zc = 0) :
    MetFree l (⟨"java/lang/String", "coder", "()B"⟩ : MethodName) (head1 (Jvm.Cond.code (⟨"java/lang/String", "coder", "()B"⟩ : MethodName) jdk_42_method_152_code 1 (some .byte) :: ws) ({ frames := 0, cells := 0, slots := 0, locals := 0 } : Room)) (fun a U => a = #[(.ref a1)] ∧ Z.Warmed39 U.vm ∧ U.heap = h0) (fun _ _ _ _ _ => True) (fun _ U o U' => ∃ v L, o = .returned v ∧ own_coder_Q Z a1 va kv z vs zc h0 n0 v U'.heap L ∧ FrameEnd U o U' L ({ frames := 0, cells := 0, slots := 0, locals := 0 } : Room).cells ({ frames := 0, cells := 0, slots := 0, locals := 0 } : Room).slots) := by
  refine MetFree.of_bodySF own_coder_pn hisR ?_
  intro p e s m args below meth c s₁ Bd hml0 hP hK
  obtain ⟨rfl, hZ, hh⟩ := hP
  have hx := Bd.exec
  have hby := Bd.bytes
  have hlk := Bd.notSynchronized
  have hml : c.maxLocals = 1 := hml0
  have hown : s.vm.findClass "java/lang/String" = some m.cls := findClass_of_methodNamed Bd.named
  have hnm := (name_of_methodNamed Bd.named Bd.method).1
  have X : Stand p l e ({ frames := 0, cells := 0, slots := 0, locals := 0 } : Room) s m #[(.ref a1)] below meth c s₁ [] 0 0 := Stand.of_body Bd
  have eT : s₁.heap = h0 := by rw [← hh, Bd.state]; rfl
  have N := Fr.nil n0
  have K0 := Keep.refl h0 []
  show own_Ends p e below (own_Post s below (own_coder_Q Z a1 va kv z vs zc h0 n0) ({ frames := 0, cells := 0, slots := 0, locals := 0 } : Room).cells ({ frames := 0, cells := 0, slots := 0, locals := 0 } : Room).slots) s₁ (entryFrame m #[(.ref a1)] 1)
  rw [own_coder_ef m a1]
  obtain ⟨T, hT⟩ : ∃ z, z = s₁ := ⟨_, rfl⟩
  rw [← hT] at X eT ⊢
  obtain ⟨h, hh0⟩ : ∃ z, z = h0 := ⟨_, rfl⟩
  rw [← hh0] at eT
  replace O : Old Z n0 h := by rw [hh0]; exact O
  replace K0 : Keep h0 h [] := by rw [hh0]; exact K0
  rw [← hh0] at E_a1
  rw [← hh0] at F_value_a1
  rw [← hh0] at F_coder_a1
  rw [← hh0] at V_va
  obtain ⟨T, X, eT, st⟩ := getS2 X hx hZ hown (host := "") (Or.inl (hw _ (own_w 142 rfl))) Via.refl eT (S_C.ext O.2) (g := (mkF m 0 #[.val (.ref a1)] [])) rfl (hb hby ej42m152_d0)
  refine own_via (g' := (mkF m 3 #[.val (.ref a1)] [(.int zc)])) st ?_
  refine own_via (g' := (mkF m 7 #[.val (.ref a1)] [(.ref a1)])) (fun t_ k_ => XS.ifNo X.here hx rfl (hb hby ej42m152_d3) rfl ((if0 _ _).trans (feq hzc).1) (XS.aloadN X.here hx rfl (hb hby ej42m152_d6) rfl rfl k_)) ?_
  obtain ⟨T, X, eT, st⟩ := getF X hx hZ hown (host := "") (Or.inl (hw _ (own_w 109 rfl))) Via.refl eT F_coder_a1 (g := (mkF m 7 #[.val (.ref a1)] [(.ref a1)])) rfl rfl (hb hby ej42m152_d7)
  refine own_via (g' := (mkF m 10 #[.val (.ref a1)] [(.int 0)])) st ?_
  refine own_via (g' := (mkF m 14 #[.val (.ref a1)] [(.int 0)])) (fun t_ k_ => XS.goto X.here hx rfl (pc0 := 10) (pc' := 14) rfl (hb hby ej42m152_d10) (by decide) (by decide) k_) ?_
  refine own_retN X hx hlk (t := .byte) Bd.returns (by simp) (hb hby ej42m152_d14) (by decide) (by decide) ?_
  rw [eT]
  exact ⟨rfl, N, hh0⟩
theorem ej42m54_d0 : decode jdk_42_method_54_code 0 = .ok (.aload_n 0, 1) := by decide +kernel
theorem ej42m54_d1 : decode jdk_42_method_54_code 1 = .ok (.getfield 9, 3) := by decide +kernel
theorem ej42m54_d4 : decode jdk_42_method_54_code 4 = .ok (.arraylength, 1) := by decide +kernel
theorem ej42m54_d5 : decode jdk_42_method_54_code 5 = .ok (.aload_n 0, 1) := by decide +kernel
theorem ej42m54_d6 : decode jdk_42_method_54_code 6 = .ok (.invokevirtual 335, 3) := by decide +kernel
theorem ej42m54_d9 : decode jdk_42_method_54_code 9 = .ok (.ishr, 1) := by decide +kernel
theorem ej42m54_d10 : decode jdk_42_method_54_code 10 = .ok (.ireturn, 1) := by decide +kernel
theorem own_strlen_pn : plainFor (⟨"java/lang/String", "length", "()I"⟩ : MethodName) = true := by first | exact plainFor_of_name (by first | (simp [plainName, overriddenIn]; done) | decide +kernel) | decide +kernel | exact Jvm.Free.JP.mathPlain rfl (by decide +kernel)
theorem own_strlen_ef (m : MethodId) (x0 : Addr) : entryFrame m #[(.ref x0)] 1 = mkF m 0 #[.val (.ref x0)] [] := by first | (simp [entryFrame, mkF, argsToLocals, Value.category]; done) | rfl
def own_strlen_Q (Z : State) (a1 : Addr) (va : Addr) (kv : ClassId) (z : Int32) (vs : List Value) (zc : Int32) (h0 : Heap) (n0 : Nat) (v : Option Value) (h : Heap) (L : List Loc) : Prop := v = some (.int z) ∧ Fr n0 L ∧ h = h0
set_option maxRecDepth 65536 in
set_option maxHeartbeats 40000000 in
theorem own_strlen (l : Launch) (Z : State) (a0 : Array Value) (hw : ∀ d ∈ tables_1, d.before a0 Z = true) (ws : List Jvm.Cond) (a1 : Addr) (va : Addr) (kv : ClassId) (z : Int32) (vs : List Value) (zc : Int32) (h0 : Heap) (n0 : Nat) (O : Old Z n0 h0) (E_a1 : Exa Z h0 a1 "java/lang/String") (F_value_a1 : Fld Z h0 a1 "java/lang/String" "value" "[B" (.ref va)) (F_coder_a1 : Fld Z h0 a1 "java/lang/String" "coder" "B" (.int 0)) (V_va : Arv Z h0 va kv .byte z vs (.int 0)) (S_C : Sta Z Z.heap "java/lang/String" "COMPACT_STRINGS" "Z" (.int zc)) (hzc : ¬ zc = 0) :
    MetFree l (⟨"java/lang/String", "length", "()I"⟩ : MethodName) (head1 (Jvm.Cond.code (⟨"java/lang/String", "length", "()I"⟩ : MethodName) jdk_42_method_54_code 1 (some .int) :: ws) ({ frames := 1, cells := 0, slots := 0, locals := 13 } : Room)) (fun a U => a = #[(.ref a1)] ∧ Z.Warmed39 U.vm ∧ U.heap = h0) (fun _ _ _ _ _ => True) (fun _ U o U' => ∃ v L, o = .returned v ∧ own_strlen_Q Z a1 va kv z vs zc h0 n0 v U'.heap L ∧ FrameEnd U o U' L ({ frames := 1, cells := 0, slots := 0, locals := 13 } : Room).cells ({ frames := 1, cells := 0, slots := 0, locals := 13 } : Room).slots) := by
  refine MetFree.of_bodySF own_strlen_pn hisR ?_
  intro p e s m args below meth c s₁ Bd hml0 hP hK
  obtain ⟨rfl, hZ, hh⟩ := hP
  have hx := Bd.exec
  have hby := Bd.bytes
  have hlk := Bd.notSynchronized
  have hml : c.maxLocals = 1 := hml0
  have hown : s.vm.findClass "java/lang/String" = some m.cls := findClass_of_methodNamed Bd.named
  have hnm := (name_of_methodNamed Bd.named Bd.method).1
  have X : Stand p l e ({ frames := 1, cells := 0, slots := 0, locals := 13 } : Room) s m #[(.ref a1)] below meth c s₁ [] 0 0 := Stand.of_body Bd
  have eT : s₁.heap = h0 := by rw [← hh, Bd.state]; rfl
  have N := Fr.nil n0
  have K0 := Keep.refl h0 []
  show own_Ends p e below (own_Post s below (own_strlen_Q Z a1 va kv z vs zc h0 n0) ({ frames := 1, cells := 0, slots := 0, locals := 13 } : Room).cells ({ frames := 1, cells := 0, slots := 0, locals := 13 } : Room).slots) s₁ (entryFrame m #[(.ref a1)] 1)
  rw [own_strlen_ef m a1]
  obtain ⟨T, hT⟩ : ∃ z, z = s₁ := ⟨_, rfl⟩
  rw [← hT] at X eT ⊢
  obtain ⟨h, hh0⟩ : ∃ z, z = h0 := ⟨_, rfl⟩
  rw [← hh0] at eT
  replace O : Old Z n0 h := by rw [hh0]; exact O
  replace K0 : Keep h0 h [] := by rw [hh0]; exact K0
  rw [← hh0] at E_a1
  rw [← hh0] at F_value_a1
  rw [← hh0] at F_coder_a1
  rw [← hh0] at V_va
  refine own_via (g' := (mkF m 1 #[.val (.ref a1)] [(.ref a1)])) (fun t_ k_ => XS.aloadN X.here hx rfl (hb hby ej42m54_d0) rfl rfl k_) ?_
  obtain ⟨T, X, eT, st⟩ := getF X hx hZ hown (host := "") (Or.inl (hw _ (own_w 123 rfl))) Via.refl eT F_value_a1 (g := (mkF m 1 #[.val (.ref a1)] [(.ref a1)])) rfl rfl (hb hby ej42m54_d1)
  refine own_via (g' := (mkF m 4 #[.val (.ref a1)] [(.ref va)])) st ?_
  obtain ⟨cl_, Ar_, -, Sz_, Nn_, -, -⟩ := id V_va
  refine own_via (g' := (mkF m 5 #[.val (.ref a1)] [(.int z)])) (fun t_ k_ => X.arraylength hx (by rw [eT]; exact Ar_.1) (State.isArrayOf_alike hZ.alike Ar_.2.1) (g := (mkF m 4 #[.val (.ref a1)] [(.ref va)])) rfl rfl (hb hby ej42m54_d4) _ (by rw [len_of Sz_ Nn_]; exact k_)) ?_
  refine own_via (g' := (mkF m 6 #[.val (.ref a1)] [(.ref a1), (.int z)])) (fun t_ k_ => XS.aloadN X.here hx rfl (hb hby ej42m54_d5) rfl rfl k_) ?_
  obtain ⟨cq, kq, qa, qb, qc⟩ := isOf hZ eT E_a1
  obtain ⟨_, _, ⟨T, Lq, kq, nq⟩, -, X, ⟨Lc, hQ, lq, yq, zq⟩, st⟩ := X.virtualBack hx (y := own_y18) (z := own_y18) hown (mvT hZ (hw _ (own_w 137 rfl))) (mvT hZ (hw _ (own_w 138 rfl))) (notFace_of_selects (args := #[]) (mvT hZ (hw _ (own_w 140 rfl)))) (mvT hZ (hw _ (own_w 140 rfl))) (mvT hZ (hw _ (own_w 139 rfl))) (by decide) (backOf (W := 1) (own_coder l Z a0 hw [] a1 va kv z vs zc h n0 O E_a1 F_value_a1 F_coder_a1 V_va S_C hzc) hZ (hw _ (own_w 141 rfl)) (hw _ (own_w 21 rfl)) (by decide) (by decide)) qa qc (g := (mkF m 6 #[.val (.ref a1)] [(.ref a1), (.int z)])) rfl (by rw [hml]; rfl) (Steps.refl _) (argsL := []) (rest := [(.int z)]) (lenOf own_pd14 rfl) rfl (by show 2 * 0 + _ ≤ _; exact Nat.le_of_eq rfl) (hb hby ej42m54_d6) (fun _ _ => ⟨rfl, eT, (by decide : 0 + 0 ≤ _), (by decide : 0 + 0 ≤ _)⟩)
  dsimp only [Pt.U, Pt.locs, Pt.cells, Pt.slots] at X lq yq zq st hQ
  subst lq yq zq
  obtain ⟨rfl, Nq, eT⟩ := hQ
  replace N := Fr.app N Nq
  refine own_viaT (g' := (mkF m 9 #[.val (.ref a1)] [(.int 0), (.int z)])) st ?_
  refine own_via (g' := (mkF m 10 #[.val (.ref a1)] [(.int (z >>> ((0 : Int32) &&& 31)))])) (fun t_ k_ => XS.ishr X.here hx rfl (hb hby ej42m54_d9) rfl k_) ?_
  rw [own_shr0]
  refine own_retW X hx hlk Bd.returns rfl (Or.inl ⟨rfl, Or.inl rfl, _, rfl⟩) (hb hby ej42m54_d10) (by decide) (by decide) ?_
  rw [eT]
  exact ⟨rfl, N, hh0⟩
theorem ej42m154_d0 : decode jdk_42_method_154_code 0 = .ok (.getstatic 38, 3) := by decide +kernel
theorem ej42m154_d3 : decode jdk_42_method_154_code 3 = .ok (.ifCond .eq 14, 3) := by decide +kernel
theorem ej42m154_d6 : decode jdk_42_method_154_code 6 = .ok (.aload_n 0, 1) := by decide +kernel
theorem ej42m154_d7 : decode jdk_42_method_154_code 7 = .ok (.getfield 15, 3) := by decide +kernel
theorem ej42m154_d10 : decode jdk_42_method_154_code 10 = .ok (.ifCond .ne 7, 3) := by decide +kernel
theorem ej42m154_d13 : decode jdk_42_method_154_code 13 = .ok (.iconst 1, 1) := by decide +kernel
theorem ej42m154_d14 : decode jdk_42_method_154_code 14 = .ok (.goto 4, 3) := by decide +kernel
theorem ej42m154_d18 : decode jdk_42_method_154_code 18 = .ok (.ireturn, 1) := by decide +kernel
theorem own_sil_pn : plainFor (⟨"java/lang/String", "isLatin1", "()Z"⟩ : MethodName) = true := by first | exact plainFor_of_name (by first | (simp [plainName, overriddenIn]; done) | decide +kernel) | decide +kernel | exact Jvm.Free.JP.mathPlain rfl (by decide +kernel)
theorem own_sil_ef (m : MethodId) (x0 : Addr) : entryFrame m #[(.ref x0)] 1 = mkF m 0 #[.val (.ref x0)] [] := by first | (simp [entryFrame, mkF, argsToLocals, Value.category]; done) | rfl
def own_sil_Q (Z : State) (a1 : Addr) (va : Addr) (kv : ClassId) (z : Int32) (vs : List Value) (zc : Int32) (h0 : Heap) (n0 : Nat) (v : Option Value) (h : Heap) (L : List Loc) : Prop := v = some (.int 1) ∧ Fr n0 L ∧ h = h0
set_option maxRecDepth 65536 in
set_option maxHeartbeats 40000000 in
theorem own_sil (l : Launch) (Z : State) (a0 : Array Value) (hw : ∀ d ∈ tables_1, d.before a0 Z = true) (ws : List Jvm.Cond) (a1 : Addr) (va : Addr) (kv : ClassId) (z : Int32) (vs : List Value) (zc : Int32) (h0 : Heap) (n0 : Nat) (O : Old Z n0 h0) (E_a1 : Exa Z h0 a1 "java/lang/String") (F_value_a1 : Fld Z h0 a1 "java/lang/String" "value" "[B" (.ref va)) (F_coder_a1 : Fld Z h0 a1 "java/lang/String" "coder" "B" (.int 0)) (V_va : Arv Z h0 va kv .byte z vs (.int 0)) (S_C : Sta Z Z.heap "java/lang/String" "COMPACT_STRINGS" "Z" (.int zc)) (hzc : ¬ zc = 0) :
    MetFree l (⟨"java/lang/String", "isLatin1", "()Z"⟩ : MethodName) (head1 (Jvm.Cond.code (⟨"java/lang/String", "isLatin1", "()Z"⟩ : MethodName) jdk_42_method_154_code 1 (some .boolean) :: ws) ({ frames := 0, cells := 0, slots := 0, locals := 0 } : Room)) (fun a U => a = #[(.ref a1)] ∧ Z.Warmed39 U.vm ∧ U.heap = h0) (fun _ _ _ _ _ => True) (fun _ U o U' => ∃ v L, o = .returned v ∧ own_sil_Q Z a1 va kv z vs zc h0 n0 v U'.heap L ∧ FrameEnd U o U' L ({ frames := 0, cells := 0, slots := 0, locals := 0 } : Room).cells ({ frames := 0, cells := 0, slots := 0, locals := 0 } : Room).slots) := by
  refine MetFree.of_bodySF own_sil_pn hisR ?_
  intro p e s m args below meth c s₁ Bd hml0 hP hK
  obtain ⟨rfl, hZ, hh⟩ := hP
  have hx := Bd.exec
  have hby := Bd.bytes
  have hlk := Bd.notSynchronized
  have hml : c.maxLocals = 1 := hml0
  have hown : s.vm.findClass "java/lang/String" = some m.cls := findClass_of_methodNamed Bd.named
  have hnm := (name_of_methodNamed Bd.named Bd.method).1
  have X : Stand p l e ({ frames := 0, cells := 0, slots := 0, locals := 0 } : Room) s m #[(.ref a1)] below meth c s₁ [] 0 0 := Stand.of_body Bd
  have eT : s₁.heap = h0 := by rw [← hh, Bd.state]; rfl
  have N := Fr.nil n0
  have K0 := Keep.refl h0 []
  show own_Ends p e below (own_Post s below (own_sil_Q Z a1 va kv z vs zc h0 n0) ({ frames := 0, cells := 0, slots := 0, locals := 0 } : Room).cells ({ frames := 0, cells := 0, slots := 0, locals := 0 } : Room).slots) s₁ (entryFrame m #[(.ref a1)] 1)
  rw [own_sil_ef m a1]
  obtain ⟨T, hT⟩ : ∃ z, z = s₁ := ⟨_, rfl⟩
  rw [← hT] at X eT ⊢
  obtain ⟨h, hh0⟩ : ∃ z, z = h0 := ⟨_, rfl⟩
  rw [← hh0] at eT
  replace O : Old Z n0 h := by rw [hh0]; exact O
  replace K0 : Keep h0 h [] := by rw [hh0]; exact K0
  rw [← hh0] at E_a1
  rw [← hh0] at F_value_a1
  rw [← hh0] at F_coder_a1
  rw [← hh0] at V_va
  obtain ⟨T, X, eT, st⟩ := getS2 X hx hZ hown (host := "") (Or.inl (hw _ (own_w 142 rfl))) Via.refl eT (S_C.ext O.2) (g := (mkF m 0 #[.val (.ref a1)] [])) rfl (hb hby ej42m154_d0)
  refine own_via (g' := (mkF m 3 #[.val (.ref a1)] [(.int zc)])) st ?_
  refine own_via (g' := (mkF m 7 #[.val (.ref a1)] [(.ref a1)])) (fun t_ k_ => XS.ifNo X.here hx rfl (hb hby ej42m154_d3) rfl ((if0 _ _).trans (feq hzc).1) (XS.aloadN X.here hx rfl (hb hby ej42m154_d6) rfl rfl k_)) ?_
  obtain ⟨T, X, eT, st⟩ := getF X hx hZ hown (host := "") (Or.inl (hw _ (own_w 109 rfl))) Via.refl eT F_coder_a1 (g := (mkF m 7 #[.val (.ref a1)] [(.ref a1)])) rfl rfl (hb hby ej42m154_d7)
  refine own_via (g' := (mkF m 10 #[.val (.ref a1)] [(.int 0)])) st ?_
  refine own_via (g' := (mkF m 18 #[.val (.ref a1)] [(.int 1)])) (fun t_ k_ => XS.ifNo X.here hx rfl (hb hby ej42m154_d10) rfl ((if0 _ _).trans (teq (by decide : (0 : Int32) = (0 : Int32))).2) (XS.iconst X.here hx rfl (hb hby ej42m154_d13) (XS.goto X.here hx rfl (pc0 := 14) (pc' := 18) rfl (hb hby ej42m154_d14) (by decide) (by decide) k_))) ?_
  refine own_retN X hx hlk (t := .boolean) Bd.returns (by simp) (hb hby ej42m154_d18) (by decide) (by decide) ?_
  rw [eT]
  exact ⟨rfl, N, hh0⟩
theorem ej41m11_d0 : decode jdk_41_method_11_code 0 = .ok (.iload_n 0, 1) := by decide +kernel
theorem ej41m11_d1 : decode jdk_41_method_11_code 1 = .ok (.ifCond .lt 8, 3) := by decide +kernel
theorem ej41m11_d4 : decode jdk_41_method_11_code 4 = .ok (.iload_n 0, 1) := by decide +kernel
theorem ej41m11_d5 : decode jdk_41_method_11_code 5 = .ok (.iload_n 1, 1) := by decide +kernel
theorem ej41m11_d6 : decode jdk_41_method_11_code 6 = .ok (.if_icmp .lt 10, 3) := by decide +kernel
theorem ej41m11_d16 : decode jdk_41_method_11_code 16 = .ok (.iload_n 0, 1) := by decide +kernel
theorem ej41m11_d17 : decode jdk_41_method_11_code 17 = .ok (.ireturn, 1) := by decide +kernel
theorem own_pci_pn : plainFor (⟨"jdk/internal/util/Preconditions", "checkIndex", "(IILjava/util/function/BiFunction;)I"⟩ : MethodName) = true := by first | exact plainFor_of_name (by first | (simp [plainName, overriddenIn]; done) | decide +kernel) | decide +kernel | exact Jvm.Free.JP.mathPlain rfl (by decide +kernel)
theorem own_pci_ef (m : MethodId) (x0 : Int32) (x1 : Int32) (x2 : Value) (hx2 : x2.isRef = true) : entryFrame m #[(.int x0), (.int x1), x2] 3 = mkF m 0 #[.val (.int x0), .val (.int x1), .val x2] [] := by rcases ref_cases hx2 with rfl | ⟨_, rfl⟩ <;> first | (simp [entryFrame, mkF, argsToLocals, Value.category]; done) | rfl
def own_pci_Q (Z : State) (j : Int32) (z : Int32) (vS : Value) (h0 : Heap) (n0 : Nat) (v : Option Value) (h : Heap) (L : List Loc) : Prop := v = some (.int j) ∧ Fr n0 L ∧ h = h0
set_option maxRecDepth 65536 in
set_option maxHeartbeats 40000000 in
theorem own_pci (l : Launch) (Z : State) (a0 : Array Value) (hw : ∀ d ∈ tables_1, d.before a0 Z = true) (ws : List Jvm.Cond) (j : Int32) (z : Int32) (vS : Value) (h0 : Heap) (n0 : Nat) (O : Old Z n0 h0) (hj : ¬ j < 0 ∧ j < z) (hvS : vS.isRef = true) :
    MetFree l (⟨"jdk/internal/util/Preconditions", "checkIndex", "(IILjava/util/function/BiFunction;)I"⟩ : MethodName) (head1 (Jvm.Cond.code (⟨"jdk/internal/util/Preconditions", "checkIndex", "(IILjava/util/function/BiFunction;)I"⟩ : MethodName) jdk_41_method_11_code 3 (some .int) :: ws) ({ frames := 0, cells := 0, slots := 0, locals := 0 } : Room)) (fun a U => a = #[(.int j), (.int z), vS] ∧ Z.Warmed39 U.vm ∧ U.heap = h0) (fun _ _ _ _ _ => True) (fun _ U o U' => ∃ v L, o = .returned v ∧ own_pci_Q Z j z vS h0 n0 v U'.heap L ∧ FrameEnd U o U' L ({ frames := 0, cells := 0, slots := 0, locals := 0 } : Room).cells ({ frames := 0, cells := 0, slots := 0, locals := 0 } : Room).slots) := by
  refine MetFree.of_bodySF own_pci_pn hisR ?_
  intro p e s m args below meth c s₁ Bd hml0 hP hK
  obtain ⟨rfl, hZ, hh⟩ := hP
  have hx := Bd.exec
  have hby := Bd.bytes
  have hlk := Bd.notSynchronized
  have hml : c.maxLocals = 3 := hml0
  have hown : s.vm.findClass "jdk/internal/util/Preconditions" = some m.cls := findClass_of_methodNamed Bd.named
  have hnm := (name_of_methodNamed Bd.named Bd.method).1
  have X : Stand p l e ({ frames := 0, cells := 0, slots := 0, locals := 0 } : Room) s m #[(.int j), (.int z), vS] below meth c s₁ [] 0 0 := Stand.of_body Bd
  have eT : s₁.heap = h0 := by rw [← hh, Bd.state]; rfl
  have N := Fr.nil n0
  have K0 := Keep.refl h0 []
  show own_Ends p e below (own_Post s below (own_pci_Q Z j z vS h0 n0) ({ frames := 0, cells := 0, slots := 0, locals := 0 } : Room).cells ({ frames := 0, cells := 0, slots := 0, locals := 0 } : Room).slots) s₁ (entryFrame m #[(.int j), (.int z), vS] 3)
  rw [own_pci_ef m j z vS hvS]
  obtain ⟨T, hT⟩ : ∃ z, z = s₁ := ⟨_, rfl⟩
  rw [← hT] at X eT ⊢
  obtain ⟨h, hh0⟩ : ∃ z, z = h0 := ⟨_, rfl⟩
  rw [← hh0] at eT
  replace O : Old Z n0 h := by rw [hh0]; exact O
  replace K0 : Keep h0 h [] := by rw [hh0]; exact K0
  refine own_via (g' := (mkF m 17 #[.val (.int j), .val (.int z), .val vS] [(.int j)])) (fun t_ k_ => XS.iloadN X.here hx rfl (hb hby ej41m11_d0) rfl (XS.ifNo X.here hx rfl (hb hby ej41m11_d1) rfl ((if0 _ _).trans (flt hj.1).1) (XS.iloadN X.here hx rfl (hb hby ej41m11_d4) rfl (XS.iloadN X.here hx rfl (hb hby ej41m11_d5) rfl (XS.icmpYes X.here hx rfl (pc0 := 6) (pc' := 16) rfl (hb hby ej41m11_d6) rfl (tlt hj.2).1 (by decide) (by decide) (XS.iloadN X.here hx rfl (hb hby ej41m11_d16) rfl k_)))))) ?_
  refine own_retW X hx hlk Bd.returns rfl (Or.inl ⟨rfl, Or.inl rfl, _, rfl⟩) (hb hby ej41m11_d17) (by decide) (by decide) ?_
  rw [eT]
  exact ⟨rfl, N, hh0⟩
theorem ej42m155_d0 : decode jdk_42_method_155_code 0 = .ok (.iload_n 0, 1) := by decide +kernel
theorem ej42m155_d1 : decode jdk_42_method_155_code 1 = .ok (.iload_n 1, 1) := by decide +kernel
theorem ej42m155_d2 : decode jdk_42_method_155_code 2 = .ok (.getstatic 1053, 3) := by decide +kernel
theorem ej42m155_d5 : decode jdk_42_method_155_code 5 = .ok (.invokestatic 1059, 3) := by decide +kernel
theorem ej42m155_d8 : decode jdk_42_method_155_code 8 = .ok (.pop, 1) := by decide +kernel
theorem ej42m155_d9 : decode jdk_42_method_155_code 9 = .ok (.return_, 1) := by decide +kernel
theorem own_sci_pn : plainFor (⟨"java/lang/String", "checkIndex", "(II)V"⟩ : MethodName) = true := by first | exact plainFor_of_name (by first | (simp [plainName, overriddenIn]; done) | decide +kernel) | decide +kernel | exact Jvm.Free.JP.mathPlain rfl (by decide +kernel)
theorem own_sci_ef (m : MethodId) (x0 : Int32) (x1 : Int32) : entryFrame m #[(.int x0), (.int x1)] 2 = mkF m 0 #[.val (.int x0), .val (.int x1)] [] := by first | (simp [entryFrame, mkF, argsToLocals, Value.category]; done) | rfl
def own_sci_Q (Z : State) (j : Int32) (z : Int32) (vS : Value) (h0 : Heap) (n0 : Nat) (v : Option Value) (h : Heap) (L : List Loc) : Prop := v = none ∧ Fr n0 L ∧ h = h0
set_option maxRecDepth 65536 in
set_option maxHeartbeats 40000000 in
theorem own_sci (l : Launch) (Z : State) (a0 : Array Value) (hw : ∀ d ∈ tables_1, d.before a0 Z = true) (ws : List Jvm.Cond) (j : Int32) (z : Int32) (vS : Value) (h0 : Heap) (n0 : Nat) (O : Old Z n0 h0) (hj : ¬ j < 0 ∧ j < z) (S_S : Sta Z Z.heap "jdk/internal/util/Preconditions" "SIOOBE_FORMATTER" "Ljava/util/function/BiFunction;" vS) (hvS : vS.isRef = true) :
    MetFree l (⟨"java/lang/String", "checkIndex", "(II)V"⟩ : MethodName) (head1 (Jvm.Cond.code (⟨"java/lang/String", "checkIndex", "(II)V"⟩ : MethodName) jdk_42_method_155_code 2 none :: ws) ({ frames := 1, cells := 0, slots := 0, locals := 14 } : Room)) (fun a U => a = #[(.int j), (.int z)] ∧ Z.Warmed39 U.vm ∧ U.heap = h0) (fun _ _ _ _ _ => True) (fun _ U o U' => ∃ v L, o = .returned v ∧ own_sci_Q Z j z vS h0 n0 v U'.heap L ∧ FrameEnd U o U' L ({ frames := 1, cells := 0, slots := 0, locals := 14 } : Room).cells ({ frames := 1, cells := 0, slots := 0, locals := 14 } : Room).slots) := by
  refine MetFree.of_bodySF own_sci_pn hisR ?_
  intro p e s m args below meth c s₁ Bd hml0 hP hK
  obtain ⟨rfl, hZ, hh⟩ := hP
  have hx := Bd.exec
  have hby := Bd.bytes
  have hlk := Bd.notSynchronized
  have hml : c.maxLocals = 2 := hml0
  have hown : s.vm.findClass "java/lang/String" = some m.cls := findClass_of_methodNamed Bd.named
  have hnm := (name_of_methodNamed Bd.named Bd.method).1
  have X : Stand p l e ({ frames := 1, cells := 0, slots := 0, locals := 14 } : Room) s m #[(.int j), (.int z)] below meth c s₁ [] 0 0 := Stand.of_body Bd
  have eT : s₁.heap = h0 := by rw [← hh, Bd.state]; rfl
  have N := Fr.nil n0
  have K0 := Keep.refl h0 []
  show own_Ends p e below (own_Post s below (own_sci_Q Z j z vS h0 n0) ({ frames := 1, cells := 0, slots := 0, locals := 14 } : Room).cells ({ frames := 1, cells := 0, slots := 0, locals := 14 } : Room).slots) s₁ (entryFrame m #[(.int j), (.int z)] 2)
  rw [own_sci_ef m j z]
  obtain ⟨T, hT⟩ : ∃ z, z = s₁ := ⟨_, rfl⟩
  rw [← hT] at X eT ⊢
  obtain ⟨h, hh0⟩ : ∃ z, z = h0 := ⟨_, rfl⟩
  rw [← hh0] at eT
  replace O : Old Z n0 h := by rw [hh0]; exact O
  replace K0 : Keep h0 h [] := by rw [hh0]; exact K0
  refine own_via (g' := (mkF m 2 #[.val (.int j), .val (.int z)] [(.int z), (.int j)])) (fun t_ k_ => XS.iloadN X.here hx rfl (hb hby ej42m155_d0) rfl (XS.iloadN X.here hx rfl (hb hby ej42m155_d1) rfl k_)) ?_
  obtain ⟨T, X, eT, st⟩ := getS2 X hx hZ hown (host := "") (Or.inl (hw _ (own_w 162 rfl))) Via.refl eT (S_S.ext O.2) (g := (mkF m 2 #[.val (.int j), .val (.int z)] [(.int z), (.int j)])) rfl (hb hby ej42m155_d2)
  refine own_via (g' := (mkF m 5 #[.val (.int j), .val (.int z)] [vS, (.int z), (.int j)])) st ?_
  obtain ⟨_, _, ⟨T, Lq, kq, nq⟩, -, X, ⟨Lc, hQ, lq, yq, zq⟩, st⟩ := Jvm.LawKit.callS X hx (y := own_y19) hown (mvT hZ (hw _ (own_w 164 rfl))) (mvT hZ (hw _ (own_w 165 rfl))) (mvT hZ (hw _ (own_w 163 rfl))) (mvT hZ (hw _ (own_w 166 rfl))) (by decide) (backOf (W := 0) (own_pci l Z a0 hw [] j z vS h n0 O hj hvS) hZ (hw _ (own_w 166 rfl)) (hw _ (own_w 163 rfl)) (by decide) (by decide)) (g := (mkF m 5 #[.val (.int j), .val (.int z)] [vS, (.int z), (.int j)])) rfl (by rw [hml]; rfl) (argsL := [(.int j), (.int z), vS]) (rest := []) (lenOf own_pd15 rfl) rfl (by show 2 * 0 + _ ≤ _; exact Nat.le_of_eq rfl) (hb hby ej42m155_d5) (fun _ _ => ⟨rfl, eT, (by decide : 0 + 0 ≤ _), (by decide : 0 + 0 ≤ _)⟩)
  dsimp only [Pt.U, Pt.locs, Pt.cells, Pt.slots] at X lq yq zq st hQ
  subst lq yq zq
  obtain ⟨rfl, Nq, eT⟩ := hQ
  replace N := Fr.app N Nq
  refine own_via (g' := (mkF m 8 #[.val (.int j), .val (.int z)] [(.int j)])) st ?_
  refine own_via (g' := (mkF m 9 #[.val (.int j), .val (.int z)] [])) (fun t_ k_ => XS.pop X.here hx rfl (hb hby ej42m155_d8) rfl rfl k_) ?_
  refine own_retV X hx hlk Bd.returns (hb hby ej42m155_d9) (by decide) (by decide) ?_
  rw [eT]
  exact ⟨rfl, N, hh0⟩
theorem ej43m2_d0 : decode jdk_43_method_2_code 0 = .ok (.iload_n 1, 1) := by decide +kernel
theorem ej43m2_d1 : decode jdk_43_method_2_code 1 = .ok (.aload_n 0, 1) := by decide +kernel
theorem ej43m2_d2 : decode jdk_43_method_2_code 2 = .ok (.arraylength, 1) := by decide +kernel
theorem ej43m2_d3 : decode jdk_43_method_2_code 3 = .ok (.invokestatic 9, 3) := by decide +kernel
theorem ej43m2_d6 : decode jdk_43_method_2_code 6 = .ok (.aload_n 0, 1) := by decide +kernel
theorem ej43m2_d7 : decode jdk_43_method_2_code 7 = .ok (.iload_n 1, 1) := by decide +kernel
theorem ej43m2_d8 : decode jdk_43_method_2_code 8 = .ok (.baload, 1) := by decide +kernel
theorem ej43m2_d9 : decode jdk_43_method_2_code 9 = .ok (.sipush 255, 3) := by decide +kernel
theorem ej43m2_d12 : decode jdk_43_method_2_code 12 = .ok (.iand, 1) := by decide +kernel
theorem ej43m2_d13 : decode jdk_43_method_2_code 13 = .ok (.i2c, 1) := by decide +kernel
theorem ej43m2_d14 : decode jdk_43_method_2_code 14 = .ok (.ireturn, 1) := by decide +kernel
theorem own_lca_pn : plainFor (⟨"java/lang/StringLatin1", "charAt", "([BI)C"⟩ : MethodName) = true := by first | exact plainFor_of_name (by first | (simp [plainName, overriddenIn]; done) | decide +kernel) | decide +kernel | exact Jvm.Free.JP.mathPlain rfl (by decide +kernel)
theorem own_lca_ef (m : MethodId) (x0 : Addr) (x1 : Int32) : entryFrame m #[(.ref x0), (.int x1)] 2 = mkF m 0 #[.val (.ref x0), .val (.int x1)] [] := by first | (simp [entryFrame, mkF, argsToLocals, Value.category]; done) | rfl
def own_lca_Q (Z : State) (va : Addr) (j : Int32) (kv : ClassId) (z : Int32) (vs : List Value) (x : Int32) (vS : Value) (h0 : Heap) (n0 : Nat) (v : Option Value) (h : Heap) (L : List Loc) : Prop := v = some (.int (x &&& (255 : Int32))) ∧ Fr n0 L ∧ h = h0
set_option maxRecDepth 65536 in
set_option maxHeartbeats 40000000 in
theorem own_lca (l : Launch) (Z : State) (a0 : Array Value) (hw : ∀ d ∈ tables_1, d.before a0 Z = true) (ws : List Jvm.Cond) (va : Addr) (j : Int32) (kv : ClassId) (z : Int32) (vs : List Value) (x : Int32) (vS : Value) (h0 : Heap) (n0 : Nat) (O : Old Z n0 h0) (V_va : Arv Z h0 va kv .byte z vs (.int 0)) (hj : ¬ j < 0 ∧ j < z) (hg : vs.getD j.toNatClampNeg (.int 0) = .int x) (S_S : Sta Z Z.heap "jdk/internal/util/Preconditions" "SIOOBE_FORMATTER" "Ljava/util/function/BiFunction;" vS) (hvS : vS.isRef = true) :
    MetFree l (⟨"java/lang/StringLatin1", "charAt", "([BI)C"⟩ : MethodName) (head1 (Jvm.Cond.code (⟨"java/lang/StringLatin1", "charAt", "([BI)C"⟩ : MethodName) jdk_43_method_2_code 2 (some .char) :: ws) ({ frames := 2, cells := 0, slots := 0, locals := 27 } : Room)) (fun a U => a = #[(.ref va), (.int j)] ∧ Z.Warmed39 U.vm ∧ U.heap = h0) (fun _ _ _ _ _ => True) (fun _ U o U' => ∃ v L, o = .returned v ∧ own_lca_Q Z va j kv z vs x vS h0 n0 v U'.heap L ∧ FrameEnd U o U' L ({ frames := 2, cells := 0, slots := 0, locals := 27 } : Room).cells ({ frames := 2, cells := 0, slots := 0, locals := 27 } : Room).slots) := by
  refine MetFree.of_bodySF own_lca_pn hisR ?_
  intro p e s m args below meth c s₁ Bd hml0 hP hK
  obtain ⟨rfl, hZ, hh⟩ := hP
  have hx := Bd.exec
  have hby := Bd.bytes
  have hlk := Bd.notSynchronized
  have hml : c.maxLocals = 2 := hml0
  have hown : s.vm.findClass "java/lang/StringLatin1" = some m.cls := findClass_of_methodNamed Bd.named
  have hnm := (name_of_methodNamed Bd.named Bd.method).1
  have X : Stand p l e ({ frames := 2, cells := 0, slots := 0, locals := 27 } : Room) s m #[(.ref va), (.int j)] below meth c s₁ [] 0 0 := Stand.of_body Bd
  have eT : s₁.heap = h0 := by rw [← hh, Bd.state]; rfl
  have N := Fr.nil n0
  have K0 := Keep.refl h0 []
  show own_Ends p e below (own_Post s below (own_lca_Q Z va j kv z vs x vS h0 n0) ({ frames := 2, cells := 0, slots := 0, locals := 27 } : Room).cells ({ frames := 2, cells := 0, slots := 0, locals := 27 } : Room).slots) s₁ (entryFrame m #[(.ref va), (.int j)] 2)
  rw [own_lca_ef m va j]
  obtain ⟨T, hT⟩ : ∃ z, z = s₁ := ⟨_, rfl⟩
  rw [← hT] at X eT ⊢
  obtain ⟨h, hh0⟩ : ∃ z, z = h0 := ⟨_, rfl⟩
  rw [← hh0] at eT
  replace O : Old Z n0 h := by rw [hh0]; exact O
  replace K0 : Keep h0 h [] := by rw [hh0]; exact K0
  rw [← hh0] at V_va
  refine own_via (g' := (mkF m 2 #[.val (.ref va), .val (.int j)] [(.ref va), (.int j)])) (fun t_ k_ => XS.iloadN X.here hx rfl (hb hby ej43m2_d0) rfl (XS.aloadN X.here hx rfl (hb hby ej43m2_d1) rfl rfl k_)) ?_
  obtain ⟨cl_, Ar_, -, Sz_, Nn_, -, -⟩ := id V_va
  refine own_via (g' := (mkF m 3 #[.val (.ref va), .val (.int j)] [(.int z), (.int j)])) (fun t_ k_ => X.arraylength hx (by rw [eT]; exact Ar_.1) (State.isArrayOf_alike hZ.alike Ar_.2.1) (g := (mkF m 2 #[.val (.ref va), .val (.int j)] [(.ref va), (.int j)])) rfl rfl (hb hby ej43m2_d2) _ (by rw [len_of Sz_ Nn_]; exact k_)) ?_
  obtain ⟨_, _, ⟨T, Lq, kq, nq⟩, -, X, ⟨Lc, hQ, lq, yq, zq⟩, st⟩ := Jvm.LawKit.callS X hx (y := own_y20) hown (mvT hZ (hw _ (own_w 159 rfl))) (mvT hZ (hw _ (own_w 160 rfl))) (mvT hZ (hw _ (own_w 21 rfl))) (mvT hZ (hw _ (own_w 161 rfl))) (by decide) (backOf (W := 0) (own_sci l Z a0 hw [] j z vS h n0 O hj S_S hvS) hZ (hw _ (own_w 161 rfl)) (hw _ (own_w 21 rfl)) (by decide) (by decide)) (g := (mkF m 3 #[.val (.ref va), .val (.int j)] [(.int z), (.int j)])) rfl (by rw [hml]; rfl) (argsL := [(.int j), (.int z)]) (rest := []) (lenOf own_pd9 rfl) rfl (by show 2 * 0 + _ ≤ _; exact Nat.le_of_eq rfl) (hb hby ej43m2_d3) (fun _ _ => ⟨rfl, eT, (by decide : 0 + 0 ≤ _), (by decide : 0 + 0 ≤ _)⟩)
  dsimp only [Pt.U, Pt.locs, Pt.cells, Pt.slots] at X lq yq zq st hQ
  subst lq yq zq
  obtain ⟨rfl, Nq, eT⟩ := hQ
  replace N := Fr.app N Nq
  refine own_via (g' := (mkF m 6 #[.val (.ref va), .val (.int j)] [])) st ?_
  refine own_via (g' := (mkF m 8 #[.val (.ref va), .val (.int j)] [(.int j), (.ref va)])) (fun t_ k_ => XS.aloadN X.here hx rfl (hb hby ej43m2_d6) rfl rfl (XS.iloadN X.here hx rfl (hb hby ej43m2_d7) rfl k_)) ?_
  obtain ⟨cl_, Ar_, -, Sz_, Nn_, Hs_, -⟩ := id V_va
  have hin_ : ¬ (j < 0 ∨ cl_.slots.size ≤ (j).toNatClampNeg) := inb_of Sz_ hj
  have hat_ : cl_.slots[(j).toNatClampNeg]? = some (.int x) := Hs_.at hin_ hg
  refine own_via (g' := (mkF m 14 #[.val (.ref va), .val (.int j)] [(.int ((x &&& (255 : Int32)).toUInt32.toUInt16.toUInt32.toInt32))])) (fun t_ k_ => X.baloadBytes hx (j := j) (v := (.int x)) (by rw [eT]; exact Ar_.1) (State.isArrayOf_alike hZ.alike Ar_.2.1) Ar_.2.2 hin_ hat_ (g := (mkF m 8 #[.val (.ref va), .val (.int j)] [(.int j), (.ref va)])) rfl rfl (hb hby ej43m2_d8) _ (XS.sipush X.here hx rfl (hb hby ej43m2_d9) (XS.iand X.here hx rfl (hb hby ej43m2_d12) rfl (XS.i2c X.here hx rfl (hb hby ej43m2_d13) rfl k_)))) ?_
  rw [i2c_mask]
  refine own_retN X hx hlk (t := .char) Bd.returns (by simp) (hb hby ej43m2_d14) (by decide) (by decide) ?_
  rw [eT]
  exact ⟨by show some (Value.int ((x &&& 255).toUInt32.toUInt16.toUInt32.toInt32)) = _; rw [i2c_mask], N, hh0⟩
theorem ej42m56_d0 : decode jdk_42_method_56_code 0 = .ok (.aload_n 0, 1) := by decide +kernel
theorem ej42m56_d1 : decode jdk_42_method_56_code 1 = .ok (.invokevirtual 492, 3) := by decide +kernel
theorem ej42m56_d4 : decode jdk_42_method_56_code 4 = .ok (.ifCond .eq 12, 3) := by decide +kernel
theorem ej42m56_d7 : decode jdk_42_method_56_code 7 = .ok (.aload_n 0, 1) := by decide +kernel
theorem ej42m56_d8 : decode jdk_42_method_56_code 8 = .ok (.getfield 9, 3) := by decide +kernel
theorem ej42m56_d11 : decode jdk_42_method_56_code 11 = .ok (.iload_n 1, 1) := by decide +kernel
theorem ej42m56_d12 : decode jdk_42_method_56_code 12 = .ok (.invokestatic 495, 3) := by decide +kernel
theorem ej42m56_d15 : decode jdk_42_method_56_code 15 = .ok (.ireturn, 1) := by decide +kernel
theorem own_charAt_pn : plainFor (⟨"java/lang/String", "charAt", "(I)C"⟩ : MethodName) = true := by first | exact plainFor_of_name (by first | (simp [plainName, overriddenIn]; done) | decide +kernel) | decide +kernel | exact Jvm.Free.JP.mathPlain rfl (by decide +kernel)
theorem own_charAt_ef (m : MethodId) (x0 : Addr) (x1 : Int32) : entryFrame m #[(.ref x0), (.int x1)] 2 = mkF m 0 #[.val (.ref x0), .val (.int x1)] [] := by first | (simp [entryFrame, mkF, argsToLocals, Value.category]; done) | rfl
def own_charAt_Q (Z : State) (a1 : Addr) (j : Int32) (va : Addr) (kv : ClassId) (z : Int32) (vs : List Value) (x : Int32) (zc : Int32) (vS : Value) (h0 : Heap) (n0 : Nat) (v : Option Value) (h : Heap) (L : List Loc) : Prop := v = some (.int (x &&& (255 : Int32))) ∧ Fr n0 L ∧ h = h0
set_option maxRecDepth 65536 in
set_option maxHeartbeats 40000000 in
theorem own_charAt (l : Launch) (Z : State) (a0 : Array Value) (hw : ∀ d ∈ tables_1, d.before a0 Z = true) (ws : List Jvm.Cond) (a1 : Addr) (j : Int32) (va : Addr) (kv : ClassId) (z : Int32) (vs : List Value) (x : Int32) (zc : Int32) (vS : Value) (h0 : Heap) (n0 : Nat) (O : Old Z n0 h0) (E_a1 : Exa Z h0 a1 "java/lang/String") (F_value_a1 : Fld Z h0 a1 "java/lang/String" "value" "[B" (.ref va)) (F_coder_a1 : Fld Z h0 a1 "java/lang/String" "coder" "B" (.int 0)) (V_va : Arv Z h0 va kv .byte z vs (.int 0)) (S_C : Sta Z Z.heap "java/lang/String" "COMPACT_STRINGS" "Z" (.int zc)) (hzc : ¬ zc = 0) (hj : ¬ j < 0 ∧ j < z) (hg : vs.getD j.toNatClampNeg (.int 0) = .int x) (S_S : Sta Z Z.heap "jdk/internal/util/Preconditions" "SIOOBE_FORMATTER" "Ljava/util/function/BiFunction;" vS) (hvS : vS.isRef = true) :
    MetFree l (⟨"java/lang/String", "charAt", "(I)C"⟩ : MethodName) (head1 (Jvm.Cond.code (⟨"java/lang/String", "charAt", "(I)C"⟩ : MethodName) jdk_42_method_56_code 2 (some .char) :: ws) ({ frames := 3, cells := 0, slots := 0, locals := 40 } : Room)) (fun a U => a = #[(.ref a1), (.int j)] ∧ Z.Warmed39 U.vm ∧ U.heap = h0) (fun _ _ _ _ _ => True) (fun _ U o U' => ∃ v L, o = .returned v ∧ own_charAt_Q Z a1 j va kv z vs x zc vS h0 n0 v U'.heap L ∧ FrameEnd U o U' L ({ frames := 3, cells := 0, slots := 0, locals := 40 } : Room).cells ({ frames := 3, cells := 0, slots := 0, locals := 40 } : Room).slots) := by
  refine MetFree.of_bodySF own_charAt_pn hisR ?_
  intro p e s m args below meth c s₁ Bd hml0 hP hK
  obtain ⟨rfl, hZ, hh⟩ := hP
  have hx := Bd.exec
  have hby := Bd.bytes
  have hlk := Bd.notSynchronized
  have hml : c.maxLocals = 2 := hml0
  have hown : s.vm.findClass "java/lang/String" = some m.cls := findClass_of_methodNamed Bd.named
  have hnm := (name_of_methodNamed Bd.named Bd.method).1
  have X : Stand p l e ({ frames := 3, cells := 0, slots := 0, locals := 40 } : Room) s m #[(.ref a1), (.int j)] below meth c s₁ [] 0 0 := Stand.of_body Bd
  have eT : s₁.heap = h0 := by rw [← hh, Bd.state]; rfl
  have N := Fr.nil n0
  have K0 := Keep.refl h0 []
  show own_Ends p e below (own_Post s below (own_charAt_Q Z a1 j va kv z vs x zc vS h0 n0) ({ frames := 3, cells := 0, slots := 0, locals := 40 } : Room).cells ({ frames := 3, cells := 0, slots := 0, locals := 40 } : Room).slots) s₁ (entryFrame m #[(.ref a1), (.int j)] 2)
  rw [own_charAt_ef m a1 j]
  obtain ⟨T, hT⟩ : ∃ z, z = s₁ := ⟨_, rfl⟩
  rw [← hT] at X eT ⊢
  obtain ⟨h, hh0⟩ : ∃ z, z = h0 := ⟨_, rfl⟩
  rw [← hh0] at eT
  replace O : Old Z n0 h := by rw [hh0]; exact O
  replace K0 : Keep h0 h [] := by rw [hh0]; exact K0
  rw [← hh0] at E_a1
  rw [← hh0] at F_value_a1
  rw [← hh0] at F_coder_a1
  rw [← hh0] at V_va
  refine own_via (g' := (mkF m 1 #[.val (.ref a1), .val (.int j)] [(.ref a1)])) (fun t_ k_ => XS.aloadN X.here hx rfl (hb hby ej42m56_d0) rfl rfl k_) ?_
  obtain ⟨cq, kq, qa, qb, qc⟩ := isOf hZ eT E_a1
  obtain ⟨_, _, ⟨T, Lq, kq, nq⟩, -, X, ⟨Lc, hQ, lq, yq, zq⟩, st⟩ := X.virtualBack hx (y := own_y21) (z := own_y21) hown (mvT hZ (hw _ (own_w 151 rfl))) (mvT hZ (hw _ (own_w 152 rfl))) (notFace_of_selects (args := #[]) (mvT hZ (hw _ (own_w 154 rfl)))) (mvT hZ (hw _ (own_w 154 rfl))) (mvT hZ (hw _ (own_w 153 rfl))) (by decide) (backOf (W := 0) (own_sil l Z a0 hw [] a1 va kv z vs zc h n0 O E_a1 F_value_a1 F_coder_a1 V_va S_C hzc) hZ (hw _ (own_w 155 rfl)) (hw _ (own_w 21 rfl)) (by decide) (by decide)) qa qc (g := (mkF m 1 #[.val (.ref a1), .val (.int j)] [(.ref a1)])) rfl (by rw [hml]; rfl) (Steps.refl _) (argsL := []) (rest := []) (lenOf own_pd5 rfl) rfl (by show 2 * 0 + _ ≤ _; exact Nat.le_of_eq rfl) (hb hby ej42m56_d1) (fun _ _ => ⟨rfl, eT, (by decide : 0 + 0 ≤ _), (by decide : 0 + 0 ≤ _)⟩)
  dsimp only [Pt.U, Pt.locs, Pt.cells, Pt.slots] at X lq yq zq st hQ
  subst lq yq zq
  obtain ⟨rfl, Nq, eT⟩ := hQ
  replace N := Fr.app N Nq
  refine own_viaT (g' := (mkF m 4 #[.val (.ref a1), .val (.int j)] [(.int 1)])) st ?_
  refine own_via (g' := (mkF m 8 #[.val (.ref a1), .val (.int j)] [(.ref a1)])) (fun t_ k_ => XS.ifNo X.here hx rfl (hb hby ej42m56_d4) rfl ((if0 _ _).trans (feq (by decide : ¬ ((1 : Int32) = (0 : Int32)))).1) (XS.aloadN X.here hx rfl (hb hby ej42m56_d7) rfl rfl k_)) ?_
  obtain ⟨T, X, eT, st⟩ := getF X hx hZ hown (host := "") (Or.inl (hw _ (own_w 123 rfl))) Via.refl eT F_value_a1 (g := (mkF m 8 #[.val (.ref a1), .val (.int j)] [(.ref a1)])) rfl rfl (hb hby ej42m56_d8)
  refine own_via (g' := (mkF m 11 #[.val (.ref a1), .val (.int j)] [(.ref va)])) st ?_
  refine own_via (g' := (mkF m 12 #[.val (.ref a1), .val (.int j)] [(.int j), (.ref va)])) (fun t_ k_ => XS.iloadN X.here hx rfl (hb hby ej42m56_d11) rfl k_) ?_
  obtain ⟨_, _, ⟨T, Lq, kq, nq⟩, -, X, ⟨Lc, hQ, lq, yq, zq⟩, st⟩ := Jvm.LawKit.callS X hx (y := own_y22) hown (mvT hZ (hw _ (own_w 156 rfl))) (mvT hZ (hw _ (own_w 157 rfl))) (mvT hZ (hw _ (own_w 50 rfl))) (mvT hZ (hw _ (own_w 158 rfl))) (by decide) (backOf (W := 0) (own_lca l Z a0 hw [] va j kv z vs x vS h n0 O V_va hj hg S_S hvS) hZ (hw _ (own_w 158 rfl)) (hw _ (own_w 50 rfl)) (by decide) (by decide)) (g := (mkF m 12 #[.val (.ref a1), .val (.int j)] [(.int j), (.ref va)])) rfl (by rw [hml]; rfl) (argsL := [(.ref va), (.int j)]) (rest := []) (lenOf own_pd16 rfl) rfl (by show 2 * 0 + _ ≤ _; exact Nat.le_of_eq rfl) (hb hby ej42m56_d12) (fun _ _ => ⟨rfl, eT, (by decide : 0 + 0 ≤ _), (by decide : 0 + 0 ≤ _)⟩)
  dsimp only [Pt.U, Pt.locs, Pt.cells, Pt.slots] at X lq yq zq st hQ
  subst lq yq zq
  obtain ⟨rfl, Nq, eT⟩ := hQ
  replace N := Fr.app N Nq
  refine own_via (g' := (mkF m 15 #[.val (.ref a1), .val (.int j)] [(.int (x &&& (255 : Int32)))])) st ?_
  refine own_retN X hx hlk (t := .char) Bd.returns (by simp) (hb hby ej42m56_d15) (by decide) (by decide) ?_
  rw [eT]
  exact ⟨by show some (Value.int ((x &&& 255).toUInt32.toUInt16.toUInt32.toInt32)) = _; rw [i2c_mask], N, hh0⟩
def own_E0  (N : Int32) (cs : List Value) : Prop := (N = (0 : Int32) ∧ cs = ([] : List Value))
theorem ep10m2_d0 : decode prog_10_method_2_code 0 = .ok (.new 7, 3) := by decide +kernel
theorem ep10m2_d3 : decode prog_10_method_2_code 3 = .ok (.dup, 1) := by decide +kernel
theorem ep10m2_d4 : decode prog_10_method_2_code 4 = .ok (.aload_n 0, 1) := by decide +kernel
theorem ep10m2_d5 : decode prog_10_method_2_code 5 = .ok (.arraylength, 1) := by decide +kernel
theorem ep10m2_d6 : decode prog_10_method_2_code 6 = .ok (.invokespecial 9, 3) := by decide +kernel
theorem ep10m2_d9 : decode prog_10_method_2_code 9 = .ok (.astore_n 1, 1) := by decide +kernel
theorem ep10m2_d10 : decode prog_10_method_2_code 10 = .ok (.aload_n 0, 1) := by decide +kernel
theorem ep10m2_d11 : decode prog_10_method_2_code 11 = .ok (.astore_n 2, 1) := by decide +kernel
theorem ep10m2_d12 : decode prog_10_method_2_code 12 = .ok (.aload_n 2, 1) := by decide +kernel
theorem ep10m2_d13 : decode prog_10_method_2_code 13 = .ok (.arraylength, 1) := by decide +kernel
theorem ep10m2_d14 : decode prog_10_method_2_code 14 = .ok (.istore_n 3, 1) := by decide +kernel
theorem ep10m2_d15 : decode prog_10_method_2_code 15 = .ok (.iconst 0, 1) := by decide +kernel
theorem ep10m2_d16 : decode prog_10_method_2_code 16 = .ok (.istore 4, 2) := by decide +kernel
theorem ep10m2_d18 : decode prog_10_method_2_code 18 = .ok (.iload 4, 2) := by decide +kernel
theorem ep10m2_d20 : decode prog_10_method_2_code 20 = .ok (.iload_n 3, 1) := by decide +kernel
theorem ep10m2_d21 : decode prog_10_method_2_code 21 = .ok (.if_icmp .ge 90, 3) := by decide +kernel
theorem ep10m2_d111 : decode prog_10_method_2_code 111 = .ok (.aload_n 1, 1) := by decide +kernel
theorem ep10m2_d112 : decode prog_10_method_2_code 112 = .ok (.invokevirtual 22, 3) := by decide +kernel
theorem ep10m2_d115 : decode prog_10_method_2_code 115 = .ok (.areturn, 1) := by decide +kernel
theorem own_esc0_pn : plainFor (⟨"com/example/rows_to_regions/rowstoregions/KeyText", "escape", "([B)Ljava/lang/String;"⟩ : MethodName) = true := by first | exact plainFor_of_name (by first | (simp [plainName, overriddenIn]; done) | decide +kernel) | decide +kernel | exact Jvm.Free.JP.mathPlain rfl (by decide +kernel)
theorem own_esc0_ef (m : MethodId) (x0 : Addr) : entryFrame m #[(.ref x0)] 7 = mkF m 0 #[.val (.ref x0), .unset, .unset, .unset, .unset, .unset, .unset] [] := by first | (simp [entryFrame, mkF, argsToLocals, Value.category]; done) | rfl
def own_esc0_Q (Z : State) (ka : Addr) (kk : ClassId) (wH : Addr) (kH : ClassId) (hv : List Value) (zc : Int32) (h0 : Heap) (n0 : Nat) (v : Option Value) (h : Heap) (L : List Loc) : Prop := ∃ r b kb N cs, v = some (.ref r) ∧ Fr n0 L ∧ Keep h0 h [] ∧ h0.size ≤ r ∧ h0.size ≤ b ∧ Exa Z h r "java/lang/String" ∧ Fld Z h r "java/lang/String" "value" "[B" (.ref b) ∧ Fld Z h r "java/lang/String" "coder" "B" (.int 0) ∧ Arv Z h b kb .byte N cs (.int 0) ∧ own_E0  N cs
set_option maxRecDepth 65536 in
set_option maxHeartbeats 40000000 in
theorem own_esc0 (l : Launch) (Z : State) (a0 : Array Value) (hw : ∀ d ∈ tables_1, d.before a0 Z = true) (ws : List Jvm.Cond) (ka : Addr) (kk : ClassId) (wH : Addr) (kH : ClassId) (hv : List Value) (zc : Int32) (h0 : Heap) (n0 : Nat) (O : Old Z n0 h0) (E_ka : Exa Z h0 ka "[B") (V_ka : Arv Z h0 ka kk .byte (0 : Int32) [] (.int 0)) (S_H : Sta Z Z.heap "com/example/rows_to_regions/rowstoregions/KeyText" "HEX_DIGITS" "[C" (.ref wH)) (VO_wH : Arv Z Z.heap wH kH .char (16 : Int32) hv (.int 0)) (hhx : ∀ d : Int32, 0 ≤ d.toInt → d.toInt < 16 → hv.getD d.toNatClampNeg (.int 0) = .int (own_hx d)) (S_C : Sta Z Z.heap "java/lang/String" "COMPACT_STRINGS" "Z" (.int zc)) (hzc : ¬ zc = 0) :
    MetFree l (⟨"com/example/rows_to_regions/rowstoregions/KeyText", "escape", "([B)Ljava/lang/String;"⟩ : MethodName) (head1 (Jvm.Cond.code (⟨"com/example/rows_to_regions/rowstoregions/KeyText", "escape", "([B)Ljava/lang/String;"⟩ : MethodName) prog_10_method_2_code 7 (some (.object "java/lang/String")) :: ws) ({ frames := 6, cells := 4, slots := 29, locals := 91 } : Room)) (fun a U => a = #[(.ref ka)] ∧ Z.Warmed39 U.vm ∧ U.heap = h0) (fun _ _ _ _ _ => True) (fun _ U o U' => ∃ v L, o = .returned v ∧ own_esc0_Q Z ka kk wH kH hv zc h0 n0 v U'.heap L ∧ FrameEnd U o U' L ({ frames := 6, cells := 4, slots := 29, locals := 91 } : Room).cells ({ frames := 6, cells := 4, slots := 29, locals := 91 } : Room).slots) := by
  refine MetFree.of_bodySF own_esc0_pn hisR ?_
  intro p e s m args below meth c s₁ Bd hml0 hP hK
  obtain ⟨rfl, hZ, hh⟩ := hP
  have hx := Bd.exec
  have hby := Bd.bytes
  have hlk := Bd.notSynchronized
  have hml : c.maxLocals = 7 := hml0
  have hown : s.vm.findClass "com/example/rows_to_regions/rowstoregions/KeyText" = some m.cls := findClass_of_methodNamed Bd.named
  have hnm := (name_of_methodNamed Bd.named Bd.method).1
  have X : Stand p l e ({ frames := 6, cells := 4, slots := 29, locals := 91 } : Room) s m #[(.ref ka)] below meth c s₁ [] 0 0 := Stand.of_body Bd
  have eT : s₁.heap = h0 := by rw [← hh, Bd.state]; rfl
  have N := Fr.nil n0
  have K0 := Keep.refl h0 []
  show own_Ends p e below (own_Post s below (own_esc0_Q Z ka kk wH kH hv zc h0 n0) ({ frames := 6, cells := 4, slots := 29, locals := 91 } : Room).cells ({ frames := 6, cells := 4, slots := 29, locals := 91 } : Room).slots) s₁ (entryFrame m #[(.ref ka)] 7)
  rw [own_esc0_ef m ka]
  obtain ⟨T, hT⟩ : ∃ z, z = s₁ := ⟨_, rfl⟩
  rw [← hT] at X eT ⊢
  obtain ⟨h, hh0⟩ : ∃ z, z = h0 := ⟨_, rfl⟩
  rw [← hh0] at eT
  replace O : Old Z n0 h := by rw [hh0]; exact O
  replace K0 : Keep h0 h [] := by rw [hh0]; exact K0
  rw [← hh0] at E_ka
  rw [← hh0] at V_ka
  obtain ⟨b1, gb⟩ : ∃ z, z = h.size := ⟨_, rfl⟩
  obtain ⟨T, h2, X, eT, E, E_b1, Dq, -, st⟩ := newO X hx hZ hown (hw _ (own_w 5 rfl)) (hw _ (own_w 6 rfl)) (hw _ (own_w 7 rfl)) eT (g := (mkF m 0 (own_L25 ka) [])) rfl (hb hby ep10m2_d0) (by decide) (by decide)
  rw [← gb] at E_b1 Dq st
  have ne_ka_b1 : ka ≠ b1 := Nat.ne_of_lt (Nat.lt_of_lt_of_le E_ka.lt (Nat.le_of_eq gb.symm))
  have g_b1 : n0 ≤ b1 := Nat.le_trans (own_le O) (Nat.le_of_eq gb.symm)
  have sz_b1 : h0.size ≤ b1 := Nat.le_trans K0.1 (Nat.le_of_eq gb.symm)
  replace E_ka := E_ka.ext E
  replace V_ka := V_ka.ext E
  replace O := O.ext E
  replace K0 := K0.ext E
  have F_value_b1 : Fld Z h2 b1 "java/lang/AbstractStringBuilder" "value" "[B" .null := Dq (Or.inl (hw _ (own_w 23 rfl))) (ty := (.array .byte)) (by decide)
  have F_coder_b1 : Fld Z h2 b1 "java/lang/AbstractStringBuilder" "coder" "B" (.int 0) := Dq (Or.inl (hw _ (own_w 25 rfl))) (ty := .byte) (by decide)
  have F_count_b1 : Fld Z h2 b1 "java/lang/AbstractStringBuilder" "count" "I" (.int 0) := Dq (Or.inl (hw _ (own_w 37 rfl))) (ty := .int) (by decide)
  refine own_via (g' := (mkF m 3 (own_L25 ka) [(.ref b1)])) st ?_
  refine own_via (g' := (mkF m 5 (own_L25 ka) [(.ref ka), (.ref b1), (.ref b1)])) (fun t_ k_ => XS.dup X.here hx rfl (hb hby ep10m2_d3) rfl rfl (XS.aloadN X.here hx rfl (hb hby ep10m2_d4) rfl rfl k_)) ?_
  obtain ⟨cl_, Ar_, -, Sz_, Nn_, -, -⟩ := id V_ka
  refine own_via (g' := (mkF m 6 (own_L25 ka) [(.int 0), (.ref b1), (.ref b1)])) (fun t_ k_ => X.arraylength hx (by rw [eT]; exact Ar_.1) (State.isArrayOf_alike hZ.alike Ar_.2.1) (g := (mkF m 5 (own_L25 ka) [(.ref ka), (.ref b1), (.ref b1)])) rfl rfl (hb hby ep10m2_d5) _ (by rw [len_of Sz_ Nn_]; exact k_)) ?_
  obtain ⟨_, _, ⟨T, Lq, kq, nq⟩, -, X, ⟨Lc, hQ, lq, yq, zq⟩, st⟩ := X.specialBack hx (y := own_y23) rfl hown (mvT hZ (hw _ (own_w 8 rfl))) (mvT hZ (hw _ (own_w 9 rfl))) (mvT hZ (hw _ (own_w 10 rfl))) (by decide) (backOf (W := 1) (own_sbInit l Z a0 hw [] b1 (0 : Int32) zc h2 n0 O E_b1 F_value_b1 F_coder_b1 F_count_b1 (by decide) g_b1 S_C hzc) hZ (hw _ (own_w 10 rfl)) (hw _ (own_w 7 rfl)) (by decide) (by decide)) (g := (mkF m 6 (own_L25 ka) [(.int 0), (.ref b1), (.ref b1)])) rfl (by rw [hml]; rfl) (Steps.refl _) (a := b1) (argsL := [(.int 0)]) (rest := [(.ref b1)]) (lenOf own_pd4 rfl) rfl (by show 2 * 0 + _ ≤ _; exact Nat.le_of_eq rfl) (hb hby ep10m2_d6) (fun _ _ => ⟨rfl, eT, (by decide : 1 + 1 ≤ _), (by decide : 4 + 3 ≤ _)⟩)
  dsimp only [Pt.U, Pt.locs, Pt.cells, Pt.slots] at X lq yq zq st hQ
  subst lq yq zq
  obtain ⟨bn, kbn, rfl, Nq, Kq, szq, F_value_b1, F_coder_b1, F_count_b1, V_bn, E_bn⟩ := hQ
  replace N := Fr.app N Nq
  obtain ⟨h3, eT⟩ : ∃ z, T.heap = z := ⟨_, rfl⟩
  rw [eT] at Kq F_value_b1 F_coder_b1 F_count_b1 V_bn E_bn
  have ne_b1_bn : b1 ≠ bn := Nat.ne_of_lt (Nat.lt_of_lt_of_le E_b1.lt szq)
  have ne_ka_bn : ka ≠ bn := Nat.ne_of_lt (Nat.lt_of_lt_of_le E_ka.lt szq)
  have g_bn : n0 ≤ bn := Nat.le_trans (own_le O) szq
  have sz_bn : h0.size ≤ bn := Nat.le_trans K0.1 szq
  replace E_ka := E_ka.keep Kq
  replace V_ka := V_ka.keep Kq (ninS ne_ka_b1 nin0)
  replace E_b1 := E_b1.keep Kq
  replace O := O.keep Kq (allS g_b1 all0)
  replace K0 := K0.trans Kq (allS (Or.inr sz_b1) all0)
  refine own_viaT (g' := (mkF m 9 (own_L25 ka) [(.ref b1)])) st ?_
  refine own_via (g' := (mkF m 13 (own_L16 ka b1 ka) [(.ref ka)])) (fun t_ k_ => XS.astoreN X.here hx rfl (hb hby ep10m2_d9) rfl rfl (l' := (own_L20 ka b1)) rfl (XS.aloadN X.here hx rfl (hb hby ep10m2_d10) rfl rfl (XS.astoreN X.here hx rfl (hb hby ep10m2_d11) rfl rfl (l' := (own_L16 ka b1 ka)) rfl (XS.aloadN X.here hx rfl (hb hby ep10m2_d12) rfl rfl k_)))) ?_
  obtain ⟨cl_, Ar_, -, Sz_, Nn_, -, -⟩ := id V_ka
  refine own_via (g' := (mkF m 14 (own_L16 ka b1 ka) [(.int 0)])) (fun t_ k_ => X.arraylength hx (by rw [eT]; exact Ar_.1) (State.isArrayOf_alike hZ.alike Ar_.2.1) (g := (mkF m 13 (own_L16 ka b1 ka) [(.ref ka)])) rfl rfl (hb hby ep10m2_d13) _ (by rw [len_of Sz_ Nn_]; exact k_)) ?_
  refine own_via (g' := (mkF m 112 (own_L14 ka b1 ka 0 0) [(.ref b1)])) (fun t_ k_ => XS.istoreN X.here hx rfl (hb hby ep10m2_d14) rfl (l' := #[.val (.ref ka), .val (.ref b1), .val (.ref ka), .val (.int 0), .unset, .unset, .unset]) rfl (XS.iconst X.here hx rfl (hb hby ep10m2_d15) (XS.istore X.here hx rfl (hb hby ep10m2_d16) rfl (l' := (own_L14 ka b1 ka 0 0)) rfl (XS.iload X.here hx rfl (hb hby ep10m2_d18) rfl (XS.iloadN X.here hx rfl (hb hby ep10m2_d20) rfl (XS.icmpYes X.here hx rfl (pc0 := 21) (pc' := 111) rfl (hb hby ep10m2_d21) rfl (flt (by decide : ¬ ((0 : Int32) < (0 : Int32)))).2.1 (by decide) (by decide) (XS.aloadN X.here hx rfl (hb hby ep10m2_d111) rfl rfl k_))))))) ?_
  obtain ⟨cq, kq, qa, qb, qc⟩ := isOf hZ eT E_b1
  obtain ⟨_, _, ⟨T, Lq, kq, nq⟩, -, X, ⟨Lc, hQ, lq, yq, zq⟩, st⟩ := X.virtualBack hx (y := own_y24) (z := own_y24) hown (mvT hZ (hw _ (own_w 80 rfl))) (mvT hZ (hw _ (own_w 81 rfl))) (notFace_of_selects (args := #[]) (mvT hZ (hw _ (own_w 83 rfl)))) (mvT hZ (hw _ (own_w 83 rfl))) (mvT hZ (hw _ (own_w 82 rfl))) (by decide) (backOf (W := 0) (own_ts l Z a0 hw [] b1 bn kbn (0 : Int32) (0 : Int32) ([] : List Value) zc h3 n0 O E_b1 F_value_b1 F_coder_b1 F_count_b1 E_bn V_bn (by decide) rfl S_C hzc) hZ (hw _ (own_w 84 rfl)) (hw _ (own_w 7 rfl)) (by decide) (by decide)) qa qc (g := (mkF m 112 (own_L14 ka b1 ka 0 0) [(.ref b1)])) rfl (by rw [hml]; rfl) (Steps.refl _) (argsL := []) (rest := []) (lenOf own_pd17 rfl) rfl (by show 2 * 0 + _ ≤ _; exact Nat.le_of_eq rfl) (hb hby ep10m2_d112) (fun _ _ => ⟨rfl, eT, (by decide : 2 + 2 ≤ _), (by decide : 7 + 22 ≤ _)⟩)
  dsimp only [Pt.U, Pt.locs, Pt.cells, Pt.slots] at X lq yq zq st hQ
  subst lq yq zq
  obtain ⟨rr, rb, kr, rfl, Nq, Kq, sz1, sz2, E_rr, F_value_rr, F_coder_rr, V_rb⟩ := hQ
  replace N := Fr.app N Nq
  obtain ⟨h4, eT⟩ : ∃ z, T.heap = z := ⟨_, rfl⟩
  rw [eT] at Kq E_rr F_value_rr F_coder_rr V_rb
  have ne_b1_rr : b1 ≠ rr := Nat.ne_of_lt (Nat.lt_of_lt_of_le E_b1.lt sz1)
  have ne_bn_rr : bn ≠ rr := Nat.ne_of_lt (Nat.lt_of_lt_of_le V_bn.lt sz1)
  have ne_ka_rr : ka ≠ rr := Nat.ne_of_lt (Nat.lt_of_lt_of_le E_ka.lt sz1)
  have g_rr : n0 ≤ rr := Nat.le_trans (own_le O) sz1
  have sz_rr : h0.size ≤ rr := Nat.le_trans K0.1 sz1
  have ne_b1_rb : b1 ≠ rb := Nat.ne_of_lt (Nat.lt_of_lt_of_le E_b1.lt sz2)
  have ne_bn_rb : bn ≠ rb := Nat.ne_of_lt (Nat.lt_of_lt_of_le V_bn.lt sz2)
  have ne_ka_rb : ka ≠ rb := Nat.ne_of_lt (Nat.lt_of_lt_of_le E_ka.lt sz2)
  have g_rb : n0 ≤ rb := Nat.le_trans (own_le O) sz2
  have sz_rb : h0.size ≤ rb := Nat.le_trans K0.1 sz2
  replace E_ka := E_ka.keep Kq
  replace V_ka := V_ka.keep Kq nin0
  replace E_b1 := E_b1.keep Kq
  replace F_value_b1 := F_value_b1.keep Kq nin0
  replace F_coder_b1 := F_coder_b1.keep Kq nin0
  replace F_count_b1 := F_count_b1.keep Kq nin0
  replace V_bn := V_bn.keep Kq nin0
  replace E_bn := E_bn.keep Kq
  replace O := O.keep Kq all0
  replace K0 := K0.trans Kq all0
  refine own_viaT (g' := (mkF m 115 (own_L14 ka b1 ka 0 0) [(.ref rr)])) st ?_
  refine own_retW X hx hlk Bd.returns rfl (Or.inr (Or.inr (Or.inr (Or.inr ⟨rfl, rfl, rfl⟩)))) (hb hby ep10m2_d115) (by decide) (by decide) ?_
  rw [eT]
  exact ⟨rr, rb, kr, _, _, rfl, N, K0, sz_rr, sz_rb, E_rr, F_value_rr, F_coder_rr, V_rb, ⟨rfl, rfl⟩⟩
def own_E1 (v0 : Int32) (N : Int32) (cs : List Value) : Prop := ((¬ v0 < (32 : Int32) ∧ ¬ (126 : Int32) < v0 ∧ ¬ v0 = (92 : Int32)) ∧ N = (1 : Int32) ∧ cs = [(.int (own_sb v0))]) ∨ (¬ (¬ v0 < (32 : Int32) ∧ ¬ (126 : Int32) < v0 ∧ ¬ v0 = (92 : Int32)) ∧ N = (4 : Int32) ∧ cs = [(.int (own_sb (92 : Int32))), (.int (own_sb (120 : Int32))), (.int (own_sb (own_hx (v0 / (16 : Int32))))), (.int (own_sb (own_hx (v0 % (16 : Int32)))))])
theorem ep10m2_d24 : decode prog_10_method_2_code 24 = .ok (.aload_n 2, 1) := by decide +kernel
theorem ep10m2_d25 : decode prog_10_method_2_code 25 = .ok (.iload 4, 2) := by decide +kernel
theorem ep10m2_d27 : decode prog_10_method_2_code 27 = .ok (.baload, 1) := by decide +kernel
theorem ep10m2_d28 : decode prog_10_method_2_code 28 = .ok (.istore 5, 2) := by decide +kernel
theorem ep10m2_d30 : decode prog_10_method_2_code 30 = .ok (.iload 5, 2) := by decide +kernel
theorem ep10m2_d32 : decode prog_10_method_2_code 32 = .ok (.sipush 255, 3) := by decide +kernel
theorem ep10m2_d35 : decode prog_10_method_2_code 35 = .ok (.iand, 1) := by decide +kernel
theorem ep10m2_d36 : decode prog_10_method_2_code 36 = .ok (.istore 6, 2) := by decide +kernel
theorem ep10m2_d38 : decode prog_10_method_2_code 38 = .ok (.iload 6, 2) := by decide +kernel
theorem ep10m2_d40 : decode prog_10_method_2_code 40 = .ok (.bipush 32, 2) := by decide +kernel
theorem ep10m2_d42 : decode prog_10_method_2_code 42 = .ok (.if_icmp .lt 28, 3) := by decide +kernel
theorem ep10m2_d45 : decode prog_10_method_2_code 45 = .ok (.iload 6, 2) := by decide +kernel
theorem ep10m2_d47 : decode prog_10_method_2_code 47 = .ok (.bipush 126, 2) := by decide +kernel
theorem ep10m2_d49 : decode prog_10_method_2_code 49 = .ok (.if_icmp .gt 21, 3) := by decide +kernel
theorem ep10m2_d52 : decode prog_10_method_2_code 52 = .ok (.iload 6, 2) := by decide +kernel
theorem ep10m2_d54 : decode prog_10_method_2_code 54 = .ok (.bipush 92, 2) := by decide +kernel
theorem ep10m2_d56 : decode prog_10_method_2_code 56 = .ok (.if_icmp .eq 14, 3) := by decide +kernel
theorem ep10m2_d59 : decode prog_10_method_2_code 59 = .ok (.aload_n 1, 1) := by decide +kernel
theorem ep10m2_d60 : decode prog_10_method_2_code 60 = .ok (.iload 6, 2) := by decide +kernel
theorem ep10m2_d62 : decode prog_10_method_2_code 62 = .ok (.i2c, 1) := by decide +kernel
theorem ep10m2_d63 : decode prog_10_method_2_code 63 = .ok (.invokevirtual 12, 3) := by decide +kernel
theorem ep10m2_d66 : decode prog_10_method_2_code 66 = .ok (.pop, 1) := by decide +kernel
theorem ep10m2_d67 : decode prog_10_method_2_code 67 = .ok (.goto 38, 3) := by decide +kernel
theorem ep10m2_d70 : decode prog_10_method_2_code 70 = .ok (.aload_n 1, 1) := by decide +kernel
theorem ep10m2_d71 : decode prog_10_method_2_code 71 = .ok (.bipush 92, 2) := by decide +kernel
theorem ep10m2_d73 : decode prog_10_method_2_code 73 = .ok (.invokevirtual 12, 3) := by decide +kernel
theorem ep10m2_d76 : decode prog_10_method_2_code 76 = .ok (.bipush 120, 2) := by decide +kernel
theorem ep10m2_d78 : decode prog_10_method_2_code 78 = .ok (.invokevirtual 12, 3) := by decide +kernel
theorem ep10m2_d81 : decode prog_10_method_2_code 81 = .ok (.getstatic 16, 3) := by decide +kernel
theorem ep10m2_d84 : decode prog_10_method_2_code 84 = .ok (.iload 6, 2) := by decide +kernel
theorem ep10m2_d86 : decode prog_10_method_2_code 86 = .ok (.iconst 4, 1) := by decide +kernel
theorem ep10m2_d87 : decode prog_10_method_2_code 87 = .ok (.iushr, 1) := by decide +kernel
theorem ep10m2_d88 : decode prog_10_method_2_code 88 = .ok (.caload, 1) := by decide +kernel
theorem ep10m2_d89 : decode prog_10_method_2_code 89 = .ok (.invokevirtual 12, 3) := by decide +kernel
theorem ep10m2_d92 : decode prog_10_method_2_code 92 = .ok (.getstatic 16, 3) := by decide +kernel
theorem ep10m2_d95 : decode prog_10_method_2_code 95 = .ok (.iload 6, 2) := by decide +kernel
theorem ep10m2_d97 : decode prog_10_method_2_code 97 = .ok (.bipush 15, 2) := by decide +kernel
theorem ep10m2_d99 : decode prog_10_method_2_code 99 = .ok (.iand, 1) := by decide +kernel
theorem ep10m2_d100 : decode prog_10_method_2_code 100 = .ok (.caload, 1) := by decide +kernel
theorem ep10m2_d101 : decode prog_10_method_2_code 101 = .ok (.invokevirtual 12, 3) := by decide +kernel
theorem ep10m2_d104 : decode prog_10_method_2_code 104 = .ok (.pop, 1) := by decide +kernel
theorem ep10m2_d105 : decode prog_10_method_2_code 105 = .ok (.iinc 4 1, 3) := by decide +kernel
theorem ep10m2_d108 : decode prog_10_method_2_code 108 = .ok (.goto (-90), 3) := by decide +kernel
theorem own_esc1_pn : plainFor (⟨"com/example/rows_to_regions/rowstoregions/KeyText", "escape", "([B)Ljava/lang/String;"⟩ : MethodName) = true := by first | exact plainFor_of_name (by first | (simp [plainName, overriddenIn]; done) | decide +kernel) | decide +kernel | exact Jvm.Free.JP.mathPlain rfl (by decide +kernel)
theorem own_esc1_ef (m : MethodId) (x0 : Addr) : entryFrame m #[(.ref x0)] 7 = mkF m 0 #[.val (.ref x0), .unset, .unset, .unset, .unset, .unset, .unset] [] := by first | (simp [entryFrame, mkF, argsToLocals, Value.category]; done) | rfl
def own_esc1_Q (Z : State) (ka : Addr) (kk : ClassId) (k0 : Int32) (v0 : Int32) (wH : Addr) (kH : ClassId) (hv : List Value) (zc : Int32) (h0 : Heap) (n0 : Nat) (v : Option Value) (h : Heap) (L : List Loc) : Prop := ∃ r b kb N cs, v = some (.ref r) ∧ Fr n0 L ∧ Keep h0 h [] ∧ h0.size ≤ r ∧ h0.size ≤ b ∧ Exa Z h r "java/lang/String" ∧ Fld Z h r "java/lang/String" "value" "[B" (.ref b) ∧ Fld Z h r "java/lang/String" "coder" "B" (.int 0) ∧ Arv Z h b kb .byte N cs (.int 0) ∧ own_E1 v0 N cs
set_option maxRecDepth 65536 in
set_option maxHeartbeats 40000000 in
theorem own_esc1 (l : Launch) (Z : State) (a0 : Array Value) (hw : ∀ d ∈ tables_1, d.before a0 Z = true) (ws : List Jvm.Cond) (ka : Addr) (kk : ClassId) (k0 : Int32) (v0 : Int32) (wH : Addr) (kH : ClassId) (hv : List Value) (zc : Int32) (h0 : Heap) (n0 : Nat) (O : Old Z n0 h0) (E_ka : Exa Z h0 ka "[B") (V_ka : Arv Z h0 ka kk .byte (1 : Int32) [(.int k0)] (.int 0)) (ek0 : (k0 &&& (255 : Int32)) = v0) (bd0 : 0 ≤ v0.toInt ∧ v0.toInt < 256) (S_H : Sta Z Z.heap "com/example/rows_to_regions/rowstoregions/KeyText" "HEX_DIGITS" "[C" (.ref wH)) (VO_wH : Arv Z Z.heap wH kH .char (16 : Int32) hv (.int 0)) (hhx : ∀ d : Int32, 0 ≤ d.toInt → d.toInt < 16 → hv.getD d.toNatClampNeg (.int 0) = .int (own_hx d)) (S_C : Sta Z Z.heap "java/lang/String" "COMPACT_STRINGS" "Z" (.int zc)) (hzc : ¬ zc = 0) :
    MetFree l (⟨"com/example/rows_to_regions/rowstoregions/KeyText", "escape", "([B)Ljava/lang/String;"⟩ : MethodName) (head1 (Jvm.Cond.code (⟨"com/example/rows_to_regions/rowstoregions/KeyText", "escape", "([B)Ljava/lang/String;"⟩ : MethodName) prog_10_method_2_code 7 (some (.object "java/lang/String")) :: ws) ({ frames := 6, cells := 5, slots := 47, locals := 91 } : Room)) (fun a U => a = #[(.ref ka)] ∧ Z.Warmed39 U.vm ∧ U.heap = h0) (fun _ _ _ _ _ => True) (fun _ U o U' => ∃ v L, o = .returned v ∧ own_esc1_Q Z ka kk k0 v0 wH kH hv zc h0 n0 v U'.heap L ∧ FrameEnd U o U' L ({ frames := 6, cells := 5, slots := 47, locals := 91 } : Room).cells ({ frames := 6, cells := 5, slots := 47, locals := 91 } : Room).slots) := by
  refine MetFree.of_bodySF own_esc1_pn hisR ?_
  intro p e s m args below meth c s₁ Bd hml0 hP hK
  obtain ⟨rfl, hZ, hh⟩ := hP
  have hx := Bd.exec
  have hby := Bd.bytes
  have hlk := Bd.notSynchronized
  have hml : c.maxLocals = 7 := hml0
  have hown : s.vm.findClass "com/example/rows_to_regions/rowstoregions/KeyText" = some m.cls := findClass_of_methodNamed Bd.named
  have hnm := (name_of_methodNamed Bd.named Bd.method).1
  have X : Stand p l e ({ frames := 6, cells := 5, slots := 47, locals := 91 } : Room) s m #[(.ref ka)] below meth c s₁ [] 0 0 := Stand.of_body Bd
  have eT : s₁.heap = h0 := by rw [← hh, Bd.state]; rfl
  have N := Fr.nil n0
  have K0 := Keep.refl h0 []
  show own_Ends p e below (own_Post s below (own_esc1_Q Z ka kk k0 v0 wH kH hv zc h0 n0) ({ frames := 6, cells := 5, slots := 47, locals := 91 } : Room).cells ({ frames := 6, cells := 5, slots := 47, locals := 91 } : Room).slots) s₁ (entryFrame m #[(.ref ka)] 7)
  rw [own_esc1_ef m ka]
  obtain ⟨T, hT⟩ : ∃ z, z = s₁ := ⟨_, rfl⟩
  rw [← hT] at X eT ⊢
  obtain ⟨h, hh0⟩ : ∃ z, z = h0 := ⟨_, rfl⟩
  rw [← hh0] at eT
  replace O : Old Z n0 h := by rw [hh0]; exact O
  replace K0 : Keep h0 h [] := by rw [hh0]; exact K0
  rw [← hh0] at E_ka
  rw [← hh0] at V_ka
  obtain ⟨b1, gb⟩ : ∃ z, z = h.size := ⟨_, rfl⟩
  obtain ⟨T, h2, X, eT, E, E_b1, Dq, -, st⟩ := newO X hx hZ hown (hw _ (own_w 5 rfl)) (hw _ (own_w 6 rfl)) (hw _ (own_w 7 rfl)) eT (g := (mkF m 0 (own_L25 ka) [])) rfl (hb hby ep10m2_d0) (by decide) (by decide)
  rw [← gb] at E_b1 Dq st
  have ne_ka_b1 : ka ≠ b1 := Nat.ne_of_lt (Nat.lt_of_lt_of_le E_ka.lt (Nat.le_of_eq gb.symm))
  have g_b1 : n0 ≤ b1 := Nat.le_trans (own_le O) (Nat.le_of_eq gb.symm)
  have sz_b1 : h0.size ≤ b1 := Nat.le_trans K0.1 (Nat.le_of_eq gb.symm)
  replace E_ka := E_ka.ext E
  replace V_ka := V_ka.ext E
  replace O := O.ext E
  replace K0 := K0.ext E
  have F_value_b1 : Fld Z h2 b1 "java/lang/AbstractStringBuilder" "value" "[B" .null := Dq (Or.inl (hw _ (own_w 23 rfl))) (ty := (.array .byte)) (by decide)
  have F_coder_b1 : Fld Z h2 b1 "java/lang/AbstractStringBuilder" "coder" "B" (.int 0) := Dq (Or.inl (hw _ (own_w 25 rfl))) (ty := .byte) (by decide)
  have F_count_b1 : Fld Z h2 b1 "java/lang/AbstractStringBuilder" "count" "I" (.int 0) := Dq (Or.inl (hw _ (own_w 37 rfl))) (ty := .int) (by decide)
  refine own_via (g' := (mkF m 3 (own_L25 ka) [(.ref b1)])) st ?_
  refine own_via (g' := (mkF m 5 (own_L25 ka) [(.ref ka), (.ref b1), (.ref b1)])) (fun t_ k_ => XS.dup X.here hx rfl (hb hby ep10m2_d3) rfl rfl (XS.aloadN X.here hx rfl (hb hby ep10m2_d4) rfl rfl k_)) ?_
  obtain ⟨cl_, Ar_, -, Sz_, Nn_, -, -⟩ := id V_ka
  refine own_via (g' := (mkF m 6 (own_L25 ka) [(.int 1), (.ref b1), (.ref b1)])) (fun t_ k_ => X.arraylength hx (by rw [eT]; exact Ar_.1) (State.isArrayOf_alike hZ.alike Ar_.2.1) (g := (mkF m 5 (own_L25 ka) [(.ref ka), (.ref b1), (.ref b1)])) rfl rfl (hb hby ep10m2_d5) _ (by rw [len_of Sz_ Nn_]; exact k_)) ?_
  obtain ⟨_, _, ⟨T, Lq, kq, nq⟩, -, X, ⟨Lc, hQ, lq, yq, zq⟩, st⟩ := X.specialBack hx (y := own_y23) rfl hown (mvT hZ (hw _ (own_w 8 rfl))) (mvT hZ (hw _ (own_w 9 rfl))) (mvT hZ (hw _ (own_w 10 rfl))) (by decide) (backOf (W := 1) (own_sbInit l Z a0 hw [] b1 (1 : Int32) zc h2 n0 O E_b1 F_value_b1 F_coder_b1 F_count_b1 (by decide) g_b1 S_C hzc) hZ (hw _ (own_w 10 rfl)) (hw _ (own_w 7 rfl)) (by decide) (by decide)) (g := (mkF m 6 (own_L25 ka) [(.int 1), (.ref b1), (.ref b1)])) rfl (by rw [hml]; rfl) (Steps.refl _) (a := b1) (argsL := [(.int 1)]) (rest := [(.ref b1)]) (lenOf own_pd4 rfl) rfl (by show 2 * 0 + _ ≤ _; exact Nat.le_of_eq rfl) (hb hby ep10m2_d6) (fun _ _ => ⟨rfl, eT, (by decide : 1 + 1 ≤ _), (by decide : 4 + 3 ≤ _)⟩)
  dsimp only [Pt.U, Pt.locs, Pt.cells, Pt.slots] at X lq yq zq st hQ
  subst lq yq zq
  obtain ⟨bn, kbn, rfl, Nq, Kq, szq, F_value_b1, F_coder_b1, F_count_b1, V_bn, E_bn⟩ := hQ
  replace N := Fr.app N Nq
  obtain ⟨h3, eT⟩ : ∃ z, T.heap = z := ⟨_, rfl⟩
  rw [eT] at Kq F_value_b1 F_coder_b1 F_count_b1 V_bn E_bn
  have ne_b1_bn : b1 ≠ bn := Nat.ne_of_lt (Nat.lt_of_lt_of_le E_b1.lt szq)
  have ne_ka_bn : ka ≠ bn := Nat.ne_of_lt (Nat.lt_of_lt_of_le E_ka.lt szq)
  have g_bn : n0 ≤ bn := Nat.le_trans (own_le O) szq
  have sz_bn : h0.size ≤ bn := Nat.le_trans K0.1 szq
  replace E_ka := E_ka.keep Kq
  replace V_ka := V_ka.keep Kq (ninS ne_ka_b1 nin0)
  replace E_b1 := E_b1.keep Kq
  replace O := O.keep Kq (allS g_b1 all0)
  replace K0 := K0.trans Kq (allS (Or.inr sz_b1) all0)
  refine own_viaT (g' := (mkF m 9 (own_L25 ka) [(.ref b1)])) st ?_
  refine own_via (g' := (mkF m 13 (own_L16 ka b1 ka) [(.ref ka)])) (fun t_ k_ => XS.astoreN X.here hx rfl (hb hby ep10m2_d9) rfl rfl (l' := (own_L20 ka b1)) rfl (XS.aloadN X.here hx rfl (hb hby ep10m2_d10) rfl rfl (XS.astoreN X.here hx rfl (hb hby ep10m2_d11) rfl rfl (l' := (own_L16 ka b1 ka)) rfl (XS.aloadN X.here hx rfl (hb hby ep10m2_d12) rfl rfl k_)))) ?_
  obtain ⟨cl_, Ar_, -, Sz_, Nn_, -, -⟩ := id V_ka
  refine own_via (g' := (mkF m 14 (own_L16 ka b1 ka) [(.int 1)])) (fun t_ k_ => X.arraylength hx (by rw [eT]; exact Ar_.1) (State.isArrayOf_alike hZ.alike Ar_.2.1) (g := (mkF m 13 (own_L16 ka b1 ka) [(.ref ka)])) rfl rfl (hb hby ep10m2_d13) _ (by rw [len_of Sz_ Nn_]; exact k_)) ?_
  refine own_via (g' := (mkF m 27 (own_L14 ka b1 ka 1 0) [(.int 0), (.ref ka)])) (fun t_ k_ => XS.istoreN X.here hx rfl (hb hby ep10m2_d14) rfl (l' := #[.val (.ref ka), .val (.ref b1), .val (.ref ka), .val (.int 1), .unset, .unset, .unset]) rfl (XS.iconst X.here hx rfl (hb hby ep10m2_d15) (XS.istore X.here hx rfl (hb hby ep10m2_d16) rfl (l' := (own_L14 ka b1 ka 1 0)) rfl (XS.iload X.here hx rfl (hb hby ep10m2_d18) rfl (XS.iloadN X.here hx rfl (hb hby ep10m2_d20) rfl (XS.icmpNo X.here hx rfl (hb hby ep10m2_d21) rfl (tlt (by decide : (0 : Int32) < (1 : Int32))).2.1 (XS.aloadN X.here hx rfl (hb hby ep10m2_d24) rfl rfl (XS.iload X.here hx rfl (hb hby ep10m2_d25) rfl k_)))))))) ?_
  obtain ⟨cl_, Ar_, -, Sz_, Nn_, Hs_, -⟩ := id V_ka
  have hin_ : ¬ ((0 : Int32) < 0 ∨ cl_.slots.size ≤ ((0 : Int32)).toNatClampNeg) := inb_of Sz_ ⟨by decide, by decide⟩
  have hat_ : cl_.slots[((0 : Int32)).toNatClampNeg]? = some (.int k0) := Hs_.at hin_ rfl
  refine own_via (g' := (mkF m 36 (own_L12 ka b1 ka 1 0 k0) [(.int (k0 &&& (255 : Int32)))])) (fun t_ k_ => X.baloadBytes hx (j := (0 : Int32)) (v := (.int k0)) (by rw [eT]; exact Ar_.1) (State.isArrayOf_alike hZ.alike Ar_.2.1) Ar_.2.2 hin_ hat_ (g := (mkF m 27 (own_L14 ka b1 ka 1 0) [(.int 0), (.ref ka)])) rfl rfl (hb hby ep10m2_d27) _ (XS.istore X.here hx rfl (hb hby ep10m2_d28) rfl (l' := (own_L12 ka b1 ka 1 0 k0)) rfl (XS.iload X.here hx rfl (hb hby ep10m2_d30) rfl (XS.sipush X.here hx rfl (hb hby ep10m2_d32) (XS.iand X.here hx rfl (hb hby ep10m2_d35) rfl k_))))) ?_
  rw [ek0]
  refine own_via (g' := (mkF m 38 (own_L9 ka b1 ka 1 0 k0 v0) [])) (fun t_ k_ => XS.istore X.here hx rfl (hb hby ep10m2_d36) rfl (l' := (own_L9 ka b1 ka 1 0 k0 v0)) rfl k_) ?_
  by_cases cd0 : (¬ v0 < (32 : Int32) ∧ ¬ (126 : Int32) < v0 ∧ ¬ v0 = (92 : Int32))
  · refine own_via (g' := (mkF m 60 (own_L9 ka b1 ka 1 0 k0 v0) [(.ref b1)])) (fun t_ k_ => XS.iload X.here hx rfl (hb hby ep10m2_d38) rfl (XS.bipush X.here hx rfl (hb hby ep10m2_d40) (XS.icmpNo X.here hx rfl (hb hby ep10m2_d42) rfl (flt cd0.1).1 (XS.iload X.here hx rfl (hb hby ep10m2_d45) rfl (XS.bipush X.here hx rfl (hb hby ep10m2_d47) (XS.icmpNo X.here hx rfl (hb hby ep10m2_d49) rfl (flt cd0.2.1).2.2.1 (XS.iload X.here hx rfl (hb hby ep10m2_d52) rfl (XS.bipush X.here hx rfl (hb hby ep10m2_d54) (XS.icmpNo X.here hx rfl (hb hby ep10m2_d56) rfl (feq cd0.2.2).1 (XS.aloadN X.here hx rfl (hb hby ep10m2_d59) rfl rfl k_)))))))))) ?_
    refine own_via (g' := (mkF m 63 (own_L9 ka b1 ka 1 0 k0 v0) [(.int (v0.toUInt32.toUInt16.toUInt32.toInt32)), (.ref b1)])) (fun t_ k_ => XS.iload X.here hx rfl (hb hby ep10m2_d60) rfl (XS.i2c X.here hx rfl (hb hby ep10m2_d62) rfl k_)) ?_
    rw [own_i2cS bd0.1 (Int.lt_trans bd0.2 (by decide))]
    obtain ⟨cq, kq, qa, qb, qc⟩ := isOf hZ eT E_b1
    obtain ⟨_, _, ⟨T, Lq, kq, nq⟩, -, X, ⟨Lc, hQ, lq, yq, zq⟩, st⟩ := X.virtualBack hx (y := own_y25) (z := own_y25) hown (mvT hZ (hw _ (own_w 26 rfl))) (mvT hZ (hw _ (own_w 27 rfl))) (notFace_of_selects (args := #[]) (mvT hZ (hw _ (own_w 29 rfl)))) (mvT hZ (hw _ (own_w 29 rfl))) (mvT hZ (hw _ (own_w 28 rfl))) (by decide) (backOf (W := 0) (own_sappN l Z a0 hw [] b1 v0 bn kbn (0 : Int32) (1 : Int32) ([] : List Value) zc h3 n0 O E_b1 F_value_b1 F_coder_b1 F_count_b1 E_bn V_bn (by decide) (by decide) rfl g_b1 g_bn (own_le255 bd0.2) S_C hzc) hZ (hw _ (own_w 30 rfl)) (hw _ (own_w 7 rfl)) (by decide) (by decide)) qa qc (g := (mkF m 63 (own_L9 ka b1 ka 1 0 k0 v0) [(.int v0), (.ref b1)])) rfl (by rw [hml]; rfl) (Steps.refl _) (argsL := [(.int v0)]) (rest := []) (lenOf own_pd18 rfl) rfl (by show 2 * 0 + _ ≤ _; exact Nat.le_of_eq rfl) (hb hby ep10m2_d63) (fun _ _ => ⟨rfl, eT, (by decide : 2 + 0 ≤ _), (by decide : 7 + 0 ≤ _)⟩)
    dsimp only [Pt.U, Pt.locs, Pt.cells, Pt.slots] at X lq yq zq st hQ
    subst lq yq zq
    obtain ⟨rfl, Nq, Kq, F_value_b1, F_coder_b1, F_count_b1, V_bn⟩ := hQ
    replace N := Fr.app N Nq
    obtain ⟨h4, eT⟩ : ∃ z, T.heap = z := ⟨_, rfl⟩
    rw [eT] at Kq F_value_b1 F_coder_b1 F_count_b1 V_bn
    replace E_ka := E_ka.keep Kq
    replace V_ka := V_ka.keep Kq (ninS ne_ka_b1 (ninS ne_ka_bn nin0))
    replace E_b1 := E_b1.keep Kq
    replace E_bn := E_bn.keep Kq
    replace O := O.keep Kq (allS g_b1 (allS g_bn all0))
    replace K0 := K0.trans Kq (allS (Or.inr sz_b1) (allS (Or.inr sz_bn) all0))
    refine own_viaT (g' := (mkF m 66 (own_L9 ka b1 ka 1 0 k0 v0) [(.ref b1)])) st ?_
    replace F_count_b1 : Fld Z h4 b1 "java/lang/AbstractStringBuilder" "count" "I" (.int 1) := F_count_b1
    replace V_bn : Arv Z h4 bn kbn .byte (1 : Int32) [(.int (own_sb v0))] (.int 0) := V_bn
    refine own_via (g' := (mkF m 18 (own_L9 ka b1 ka 1 ((0 : Int32) + (1 : Int32)) k0 v0) [])) (fun t_ k_ => XS.pop X.here hx rfl (hb hby ep10m2_d66) rfl rfl (XS.goto X.here hx rfl (pc0 := 67) (pc' := 105) rfl (hb hby ep10m2_d67) (by decide) (by decide) (XS.iinc X.here hx rfl (hb hby ep10m2_d105) rfl (l' := (own_L9 ka b1 ka 1 ((0 : Int32) + (1 : Int32)) k0 v0)) rfl (XS.goto X.here hx rfl (pc0 := 108) (pc' := 18) rfl (hb hby ep10m2_d108) (by decide) (by decide) k_)))) ?_
    rw [(by decide : ((0 : Int32) + (1 : Int32)) = (1 : Int32))]
    refine own_via (g' := (mkF m 112 (own_L9 ka b1 ka 1 1 k0 v0) [(.ref b1)])) (fun t_ k_ => XS.iload X.here hx rfl (hb hby ep10m2_d18) rfl (XS.iloadN X.here hx rfl (hb hby ep10m2_d20) rfl (XS.icmpYes X.here hx rfl (pc0 := 21) (pc' := 111) rfl (hb hby ep10m2_d21) rfl (flt (by decide : ¬ ((1 : Int32) < (1 : Int32)))).2.1 (by decide) (by decide) (XS.aloadN X.here hx rfl (hb hby ep10m2_d111) rfl rfl k_)))) ?_
    obtain ⟨cq, kq, qa, qb, qc⟩ := isOf hZ eT E_b1
    obtain ⟨_, _, ⟨T, Lq, kq, nq⟩, -, X, ⟨Lc, hQ, lq, yq, zq⟩, st⟩ := X.virtualBack hx (y := own_y24) (z := own_y24) hown (mvT hZ (hw _ (own_w 80 rfl))) (mvT hZ (hw _ (own_w 81 rfl))) (notFace_of_selects (args := #[]) (mvT hZ (hw _ (own_w 83 rfl)))) (mvT hZ (hw _ (own_w 83 rfl))) (mvT hZ (hw _ (own_w 82 rfl))) (by decide) (backOf (W := 0) (own_ts l Z a0 hw [] b1 bn kbn (1 : Int32) (1 : Int32) [(.int (own_sb v0))] zc h4 n0 O E_b1 F_value_b1 F_coder_b1 F_count_b1 E_bn V_bn (by decide) rfl S_C hzc) hZ (hw _ (own_w 84 rfl)) (hw _ (own_w 7 rfl)) (by decide) (by decide)) qa qc (g := (mkF m 112 (own_L9 ka b1 ka 1 1 k0 v0) [(.ref b1)])) rfl (by rw [hml]; rfl) (Steps.refl _) (argsL := []) (rest := []) (lenOf own_pd17 rfl) rfl (by show 2 * 0 + _ ≤ _; exact Nat.le_of_eq rfl) (hb hby ep10m2_d112) (fun _ _ => ⟨rfl, eT, (by decide : 2 + 2 ≤ _), (by decide : 7 + 22 ≤ _)⟩)
    dsimp only [Pt.U, Pt.locs, Pt.cells, Pt.slots] at X lq yq zq st hQ
    subst lq yq zq
    obtain ⟨rr, rb, kr, rfl, Nq, Kq, sz1, sz2, E_rr, F_value_rr, F_coder_rr, V_rb⟩ := hQ
    replace N := Fr.app N Nq
    obtain ⟨h5, eT⟩ : ∃ z, T.heap = z := ⟨_, rfl⟩
    rw [eT] at Kq E_rr F_value_rr F_coder_rr V_rb
    have ne_b1_rr : b1 ≠ rr := Nat.ne_of_lt (Nat.lt_of_lt_of_le E_b1.lt sz1)
    have ne_bn_rr : bn ≠ rr := Nat.ne_of_lt (Nat.lt_of_lt_of_le V_bn.lt sz1)
    have ne_ka_rr : ka ≠ rr := Nat.ne_of_lt (Nat.lt_of_lt_of_le E_ka.lt sz1)
    have g_rr : n0 ≤ rr := Nat.le_trans (own_le O) sz1
    have sz_rr : h0.size ≤ rr := Nat.le_trans K0.1 sz1
    have ne_b1_rb : b1 ≠ rb := Nat.ne_of_lt (Nat.lt_of_lt_of_le E_b1.lt sz2)
    have ne_bn_rb : bn ≠ rb := Nat.ne_of_lt (Nat.lt_of_lt_of_le V_bn.lt sz2)
    have ne_ka_rb : ka ≠ rb := Nat.ne_of_lt (Nat.lt_of_lt_of_le E_ka.lt sz2)
    have g_rb : n0 ≤ rb := Nat.le_trans (own_le O) sz2
    have sz_rb : h0.size ≤ rb := Nat.le_trans K0.1 sz2
    replace E_ka := E_ka.keep Kq
    replace V_ka := V_ka.keep Kq nin0
    replace E_b1 := E_b1.keep Kq
    replace F_value_b1 := F_value_b1.keep Kq nin0
    replace F_coder_b1 := F_coder_b1.keep Kq nin0
    replace F_count_b1 := F_count_b1.keep Kq nin0
    replace V_bn := V_bn.keep Kq nin0
    replace E_bn := E_bn.keep Kq
    replace O := O.keep Kq all0
    replace K0 := K0.trans Kq all0
    refine own_viaT (g' := (mkF m 115 (own_L9 ka b1 ka 1 1 k0 v0) [(.ref rr)])) st ?_
    refine own_retW X hx hlk Bd.returns rfl (Or.inr (Or.inr (Or.inr (Or.inr ⟨rfl, rfl, rfl⟩)))) (hb hby ep10m2_d115) (by decide) (by decide) ?_
    rw [eT]
    exact ⟨rr, rb, kr, _, _, rfl, N, K0, sz_rr, sz_rb, E_rr, F_value_rr, F_coder_rr, V_rb, Or.inl ⟨cd0, rfl, rfl⟩⟩
  · refine own_suff (T' := T) (g' := (mkF m 70 (own_L9 ka b1 ka 1 0 k0 v0) [])) (fun kk_ => ?_) ?_
    · rcases own_pe cd0 with q_ | ⟨q_, r_⟩ | ⟨q_, r_, u_⟩
      · refine own_via (g' := (mkF m 70 (own_L9 ka b1 ka 1 0 k0 v0) [])) (fun t_ k_ => XS.iload X.here hx rfl (hb hby ep10m2_d38) rfl (XS.bipush X.here hx rfl (hb hby ep10m2_d40) (XS.icmpYes X.here hx rfl (pc0 := 42) (pc' := 70) rfl (hb hby ep10m2_d42) rfl (tlt q_).1 (by decide) (by decide) k_))) ?_
        exact kk_
      · refine own_via (g' := (mkF m 70 (own_L9 ka b1 ka 1 0 k0 v0) [])) (fun t_ k_ => XS.iload X.here hx rfl (hb hby ep10m2_d38) rfl (XS.bipush X.here hx rfl (hb hby ep10m2_d40) (XS.icmpNo X.here hx rfl (hb hby ep10m2_d42) rfl (flt q_).1 (XS.iload X.here hx rfl (hb hby ep10m2_d45) rfl (XS.bipush X.here hx rfl (hb hby ep10m2_d47) (XS.icmpYes X.here hx rfl (pc0 := 49) (pc' := 70) rfl (hb hby ep10m2_d49) rfl (tlt r_).2.2.1 (by decide) (by decide) k_)))))) ?_
        exact kk_
      · refine own_via (g' := (mkF m 70 (own_L9 ka b1 ka 1 0 k0 v0) [])) (fun t_ k_ => XS.iload X.here hx rfl (hb hby ep10m2_d38) rfl (XS.bipush X.here hx rfl (hb hby ep10m2_d40) (XS.icmpNo X.here hx rfl (hb hby ep10m2_d42) rfl (flt q_).1 (XS.iload X.here hx rfl (hb hby ep10m2_d45) rfl (XS.bipush X.here hx rfl (hb hby ep10m2_d47) (XS.icmpNo X.here hx rfl (hb hby ep10m2_d49) rfl (flt r_).2.2.1 (XS.iload X.here hx rfl (hb hby ep10m2_d52) rfl (XS.bipush X.here hx rfl (hb hby ep10m2_d54) (XS.icmpYes X.here hx rfl (pc0 := 56) (pc' := 70) rfl (hb hby ep10m2_d56) rfl (teq u_).1 (by decide) (by decide) k_))))))))) ?_
        exact kk_
    refine own_via (g' := (mkF m 73 (own_L9 ka b1 ka 1 0 k0 v0) [(.int 92), (.ref b1)])) (fun t_ k_ => XS.aloadN X.here hx rfl (hb hby ep10m2_d70) rfl rfl (XS.bipush X.here hx rfl (hb hby ep10m2_d71) k_)) ?_
    obtain ⟨cq, kq, qa, qb, qc⟩ := isOf hZ eT E_b1
    obtain ⟨_, _, ⟨T, Lq, kq, nq⟩, -, X, ⟨Lc, hQ, lq, yq, zq⟩, st⟩ := X.virtualBack hx (y := own_y25) (z := own_y25) hown (mvT hZ (hw _ (own_w 26 rfl))) (mvT hZ (hw _ (own_w 27 rfl))) (notFace_of_selects (args := #[]) (mvT hZ (hw _ (own_w 29 rfl)))) (mvT hZ (hw _ (own_w 29 rfl))) (mvT hZ (hw _ (own_w 28 rfl))) (by decide) (backOf (W := 0) (own_sappN l Z a0 hw [] b1 (92 : Int32) bn kbn (0 : Int32) (1 : Int32) ([] : List Value) zc h3 n0 O E_b1 F_value_b1 F_coder_b1 F_count_b1 E_bn V_bn (by decide) (by decide) rfl g_b1 g_bn (by decide) S_C hzc) hZ (hw _ (own_w 30 rfl)) (hw _ (own_w 7 rfl)) (by decide) (by decide)) qa qc (g := (mkF m 73 (own_L9 ka b1 ka 1 0 k0 v0) [(.int 92), (.ref b1)])) rfl (by rw [hml]; rfl) (Steps.refl _) (argsL := [(.int 92)]) (rest := []) (lenOf own_pd18 rfl) rfl (by show 2 * 0 + _ ≤ _; exact Nat.le_of_eq rfl) (hb hby ep10m2_d73) (fun _ _ => ⟨rfl, eT, (by decide : 2 + 0 ≤ _), (by decide : 7 + 0 ≤ _)⟩)
    dsimp only [Pt.U, Pt.locs, Pt.cells, Pt.slots] at X lq yq zq st hQ
    subst lq yq zq
    obtain ⟨rfl, Nq, Kq, F_value_b1, F_coder_b1, F_count_b1, V_bn⟩ := hQ
    replace N := Fr.app N Nq
    obtain ⟨h6, eT⟩ : ∃ z, T.heap = z := ⟨_, rfl⟩
    rw [eT] at Kq F_value_b1 F_coder_b1 F_count_b1 V_bn
    replace E_ka := E_ka.keep Kq
    replace V_ka := V_ka.keep Kq (ninS ne_ka_b1 (ninS ne_ka_bn nin0))
    replace E_b1 := E_b1.keep Kq
    replace E_bn := E_bn.keep Kq
    replace O := O.keep Kq (allS g_b1 (allS g_bn all0))
    replace K0 := K0.trans Kq (allS (Or.inr sz_b1) (allS (Or.inr sz_bn) all0))
    refine own_viaT (g' := (mkF m 76 (own_L9 ka b1 ka 1 0 k0 v0) [(.ref b1)])) st ?_
    replace F_count_b1 : Fld Z h6 b1 "java/lang/AbstractStringBuilder" "count" "I" (.int 1) := F_count_b1
    replace V_bn : Arv Z h6 bn kbn .byte (1 : Int32) [(.int (own_sb (92 : Int32)))] (.int 0) := V_bn
    refine own_via (g' := (mkF m 78 (own_L9 ka b1 ka 1 0 k0 v0) [(.int 120), (.ref b1)])) (fun t_ k_ => XS.bipush X.here hx rfl (hb hby ep10m2_d76) k_) ?_
    obtain ⟨cq, kq, qa, qb, qc⟩ := isOf hZ eT E_b1
    obtain ⟨_, _, ⟨T, Lq, kq, nq⟩, -, X, ⟨Lc, hQ, lq, yq, zq⟩, st⟩ := X.virtualBack hx (y := own_y25) (z := own_y25) hown (mvT hZ (hw _ (own_w 26 rfl))) (mvT hZ (hw _ (own_w 27 rfl))) (notFace_of_selects (args := #[]) (mvT hZ (hw _ (own_w 29 rfl)))) (mvT hZ (hw _ (own_w 29 rfl))) (mvT hZ (hw _ (own_w 28 rfl))) (by decide) (backOf (W := 0) (own_sappG l Z a0 hw [] b1 (120 : Int32) bn kbn (1 : Int32) [(.int (own_sb (92 : Int32)))] zc h6 n0 O E_b1 F_value_b1 F_coder_b1 F_count_b1 E_bn V_bn (by decide) rfl g_b1 (by decide) S_C hzc) hZ (hw _ (own_w 30 rfl)) (hw _ (own_w 7 rfl)) (by decide) (by decide)) qa qc (g := (mkF m 78 (own_L9 ka b1 ka 1 0 k0 v0) [(.int 120), (.ref b1)])) rfl (by rw [hml]; rfl) (Steps.refl _) (argsL := [(.int 120)]) (rest := []) (lenOf own_pd18 rfl) rfl (by show 2 * 0 + _ ≤ _; exact Nat.le_of_eq rfl) (hb hby ep10m2_d78) (fun _ _ => ⟨rfl, eT, (by decide : 2 + 1 ≤ _), (by decide : 7 + 18 ≤ _)⟩)
    dsimp only [Pt.U, Pt.locs, Pt.cells, Pt.slots] at X lq yq zq st hQ
    subst lq yq zq
    obtain ⟨bg1, kg1, rfl, Nq, Kq, szq, F_value_b1, F_coder_b1, F_count_b1, V_bg1, E_bg1⟩ := hQ
    replace N := Fr.app N Nq
    obtain ⟨h7, eT⟩ : ∃ z, T.heap = z := ⟨_, rfl⟩
    rw [eT] at Kq F_value_b1 F_coder_b1 F_count_b1 V_bg1 E_bg1
    have ne_b1_bg1 : b1 ≠ bg1 := Nat.ne_of_lt (Nat.lt_of_lt_of_le E_b1.lt szq)
    have ne_bn_bg1 : bn ≠ bg1 := Nat.ne_of_lt (Nat.lt_of_lt_of_le V_bn.lt szq)
    have ne_ka_bg1 : ka ≠ bg1 := Nat.ne_of_lt (Nat.lt_of_lt_of_le E_ka.lt szq)
    have g_bg1 : n0 ≤ bg1 := Nat.le_trans (own_le O) szq
    have sz_bg1 : h0.size ≤ bg1 := Nat.le_trans K0.1 szq
    replace E_ka := E_ka.keep Kq
    replace V_ka := V_ka.keep Kq (ninS ne_ka_b1 nin0)
    replace E_b1 := E_b1.keep Kq
    replace V_bn := V_bn.keep Kq (ninS (Ne.symm ne_b1_bn) nin0)
    replace E_bn := E_bn.keep Kq
    replace O := O.keep Kq (allS g_b1 all0)
    replace K0 := K0.trans Kq (allS (Or.inr sz_b1) all0)
    refine own_viaT (g' := (mkF m 81 (own_L9 ka b1 ka 1 0 k0 v0) [(.ref b1)])) st ?_
    replace F_count_b1 : Fld Z h7 b1 "java/lang/AbstractStringBuilder" "count" "I" (.int 2) := F_count_b1
    replace V_bg1 : Arv Z h7 bg1 kg1 .byte (4 : Int32) [(.int (own_sb (92 : Int32))), (.int (own_sb (120 : Int32)))] (.int 0) := V_bg1
    obtain ⟨T, X, eT, st⟩ := getS2 X hx hZ hown (host := "") (Or.inl (hw _ (own_w 78 rfl))) Via.refl eT (S_H.ext O.2) (g := (mkF m 81 (own_L9 ka b1 ka 1 0 k0 v0) [(.ref b1)])) rfl (hb hby ep10m2_d81)
    refine own_via (g' := (mkF m 84 (own_L9 ka b1 ka 1 0 k0 v0) [(.ref wH), (.ref b1)])) st ?_
    refine own_via (g' := (mkF m 88 (own_L9 ka b1 ka 1 0 k0 v0) [(.int ((v0.toUInt32 >>> ((4 : Int32) &&& 31).toUInt32).toInt32)), (.ref wH), (.ref b1)])) (fun t_ k_ => XS.iload X.here hx rfl (hb hby ep10m2_d84) rfl (XS.iconst X.here hx rfl (hb hby ep10m2_d86) (XS.iushr X.here hx rfl (hb hby ep10m2_d87) rfl k_))) ?_
    rw [(own_hi bd0.1 bd0.2).1]
    have V_wH := VO_wH.ext O.2
    obtain ⟨cl_, Ar_, -, Sz_, Nn_, Hs_, -⟩ := id V_wH
    have hin_ : ¬ ((v0 / (16 : Int32)) < 0 ∨ cl_.slots.size ≤ ((v0 / (16 : Int32))).toNatClampNeg) := inb_of Sz_ (own_in16 ((own_hi bd0.1 bd0.2).2.1) ((own_hi bd0.1 bd0.2).2.2))
    have hat_ : cl_.slots[((v0 / (16 : Int32))).toNatClampNeg]? = some (.int (own_hx (v0 / (16 : Int32)))) := Hs_.at hin_ (hhx _ ((own_hi bd0.1 bd0.2).2.1) ((own_hi bd0.1 bd0.2).2.2))
    refine own_via (g' := (mkF m 89 (own_L9 ka b1 ka 1 0 k0 v0) [(.int (own_hx (v0 / (16 : Int32)))), (.ref b1)])) (fun t_ k_ => X.caload hx (j := (v0 / (16 : Int32))) (v := (.int (own_hx (v0 / (16 : Int32))))) (by rw [eT]; exact Ar_.1) (State.isArrayOf_alike hZ.alike Ar_.2.1) Ar_.2.2 hin_ hat_ (g := (mkF m 88 (own_L9 ka b1 ka 1 0 k0 v0) [(.int (v0 / (16 : Int32))), (.ref wH), (.ref b1)])) rfl rfl (hb hby ep10m2_d88) _ k_) ?_
    clear V_wH
    obtain ⟨cq, kq, qa, qb, qc⟩ := isOf hZ eT E_b1
    obtain ⟨_, _, ⟨T, Lq, kq, nq⟩, -, X, ⟨Lc, hQ, lq, yq, zq⟩, st⟩ := X.virtualBack hx (y := own_y25) (z := own_y25) hown (mvT hZ (hw _ (own_w 26 rfl))) (mvT hZ (hw _ (own_w 27 rfl))) (notFace_of_selects (args := #[]) (mvT hZ (hw _ (own_w 29 rfl)))) (mvT hZ (hw _ (own_w 29 rfl))) (mvT hZ (hw _ (own_w 28 rfl))) (by decide) (backOf (W := 0) (own_sappN l Z a0 hw [] b1 (own_hx (v0 / (16 : Int32))) bg1 kg1 (2 : Int32) (4 : Int32) [(.int (own_sb (92 : Int32))), (.int (own_sb (120 : Int32)))] zc h7 n0 O E_b1 F_value_b1 F_coder_b1 F_count_b1 E_bg1 V_bg1 (by decide) (by decide) rfl g_b1 g_bg1 (own_le255 (own_hxB ((own_hi bd0.1 bd0.2).2.1) ((own_hi bd0.1 bd0.2).2.2)).2) S_C hzc) hZ (hw _ (own_w 30 rfl)) (hw _ (own_w 7 rfl)) (by decide) (by decide)) qa qc (g := (mkF m 89 (own_L9 ka b1 ka 1 0 k0 v0) [(.int (own_hx (v0 / (16 : Int32)))), (.ref b1)])) rfl (by rw [hml]; rfl) (Steps.refl _) (argsL := [(.int (own_hx (v0 / (16 : Int32))))]) (rest := []) (lenOf own_pd18 rfl) rfl (by show 2 * 0 + _ ≤ _; exact Nat.le_of_eq rfl) (hb hby ep10m2_d89) (fun _ _ => ⟨rfl, eT, (by decide : 3 + 0 ≤ _), (by decide : 25 + 0 ≤ _)⟩)
    dsimp only [Pt.U, Pt.locs, Pt.cells, Pt.slots] at X lq yq zq st hQ
    subst lq yq zq
    obtain ⟨rfl, Nq, Kq, F_value_b1, F_coder_b1, F_count_b1, V_bg1⟩ := hQ
    replace N := Fr.app N Nq
    obtain ⟨h8, eT⟩ : ∃ z, T.heap = z := ⟨_, rfl⟩
    rw [eT] at Kq F_value_b1 F_coder_b1 F_count_b1 V_bg1
    replace E_ka := E_ka.keep Kq
    replace V_ka := V_ka.keep Kq (ninS ne_ka_b1 (ninS ne_ka_bg1 nin0))
    replace E_b1 := E_b1.keep Kq
    replace E_bg1 := E_bg1.keep Kq
    replace O := O.keep Kq (allS g_b1 (allS g_bg1 all0))
    replace K0 := K0.trans Kq (allS (Or.inr sz_b1) (allS (Or.inr sz_bg1) all0))
    refine own_viaT (g' := (mkF m 92 (own_L9 ka b1 ka 1 0 k0 v0) [(.ref b1)])) st ?_
    replace F_count_b1 : Fld Z h8 b1 "java/lang/AbstractStringBuilder" "count" "I" (.int 3) := F_count_b1
    replace V_bg1 : Arv Z h8 bg1 kg1 .byte (4 : Int32) [(.int (own_sb (92 : Int32))), (.int (own_sb (120 : Int32))), (.int (own_sb (own_hx (v0 / (16 : Int32)))))] (.int 0) := V_bg1
    obtain ⟨T, X, eT, st⟩ := getS2 X hx hZ hown (host := "") (Or.inl (hw _ (own_w 78 rfl))) Via.refl eT (S_H.ext O.2) (g := (mkF m 92 (own_L9 ka b1 ka 1 0 k0 v0) [(.ref b1)])) rfl (hb hby ep10m2_d92)
    refine own_via (g' := (mkF m 95 (own_L9 ka b1 ka 1 0 k0 v0) [(.ref wH), (.ref b1)])) st ?_
    refine own_via (g' := (mkF m 100 (own_L9 ka b1 ka 1 0 k0 v0) [(.int (v0 &&& (15 : Int32))), (.ref wH), (.ref b1)])) (fun t_ k_ => XS.iload X.here hx rfl (hb hby ep10m2_d95) rfl (XS.bipush X.here hx rfl (hb hby ep10m2_d97) (XS.iand X.here hx rfl (hb hby ep10m2_d99) rfl k_))) ?_
    rw [(own_lo bd0.1 bd0.2).1]
    have V_wH := VO_wH.ext O.2
    obtain ⟨cl_, Ar_, -, Sz_, Nn_, Hs_, -⟩ := id V_wH
    have hin_ : ¬ ((v0 % (16 : Int32)) < 0 ∨ cl_.slots.size ≤ ((v0 % (16 : Int32))).toNatClampNeg) := inb_of Sz_ (own_in16 ((own_lo bd0.1 bd0.2).2.1) ((own_lo bd0.1 bd0.2).2.2))
    have hat_ : cl_.slots[((v0 % (16 : Int32))).toNatClampNeg]? = some (.int (own_hx (v0 % (16 : Int32)))) := Hs_.at hin_ (hhx _ ((own_lo bd0.1 bd0.2).2.1) ((own_lo bd0.1 bd0.2).2.2))
    refine own_via (g' := (mkF m 101 (own_L9 ka b1 ka 1 0 k0 v0) [(.int (own_hx (v0 % (16 : Int32)))), (.ref b1)])) (fun t_ k_ => X.caload hx (j := (v0 % (16 : Int32))) (v := (.int (own_hx (v0 % (16 : Int32))))) (by rw [eT]; exact Ar_.1) (State.isArrayOf_alike hZ.alike Ar_.2.1) Ar_.2.2 hin_ hat_ (g := (mkF m 100 (own_L9 ka b1 ka 1 0 k0 v0) [(.int (v0 % (16 : Int32))), (.ref wH), (.ref b1)])) rfl rfl (hb hby ep10m2_d100) _ k_) ?_
    clear V_wH
    obtain ⟨cq, kq, qa, qb, qc⟩ := isOf hZ eT E_b1
    obtain ⟨_, _, ⟨T, Lq, kq, nq⟩, -, X, ⟨Lc, hQ, lq, yq, zq⟩, st⟩ := X.virtualBack hx (y := own_y25) (z := own_y25) hown (mvT hZ (hw _ (own_w 26 rfl))) (mvT hZ (hw _ (own_w 27 rfl))) (notFace_of_selects (args := #[]) (mvT hZ (hw _ (own_w 29 rfl)))) (mvT hZ (hw _ (own_w 29 rfl))) (mvT hZ (hw _ (own_w 28 rfl))) (by decide) (backOf (W := 0) (own_sappN l Z a0 hw [] b1 (own_hx (v0 % (16 : Int32))) bg1 kg1 (3 : Int32) (4 : Int32) [(.int (own_sb (92 : Int32))), (.int (own_sb (120 : Int32))), (.int (own_sb (own_hx (v0 / (16 : Int32)))))] zc h8 n0 O E_b1 F_value_b1 F_coder_b1 F_count_b1 E_bg1 V_bg1 (by decide) (by decide) rfl g_b1 g_bg1 (own_le255 (own_hxB ((own_lo bd0.1 bd0.2).2.1) ((own_lo bd0.1 bd0.2).2.2)).2) S_C hzc) hZ (hw _ (own_w 30 rfl)) (hw _ (own_w 7 rfl)) (by decide) (by decide)) qa qc (g := (mkF m 101 (own_L9 ka b1 ka 1 0 k0 v0) [(.int (own_hx (v0 % (16 : Int32)))), (.ref b1)])) rfl (by rw [hml]; rfl) (Steps.refl _) (argsL := [(.int (own_hx (v0 % (16 : Int32))))]) (rest := []) (lenOf own_pd18 rfl) rfl (by show 2 * 0 + _ ≤ _; exact Nat.le_of_eq rfl) (hb hby ep10m2_d101) (fun _ _ => ⟨rfl, eT, (by decide : 3 + 0 ≤ _), (by decide : 25 + 0 ≤ _)⟩)
    dsimp only [Pt.U, Pt.locs, Pt.cells, Pt.slots] at X lq yq zq st hQ
    subst lq yq zq
    obtain ⟨rfl, Nq, Kq, F_value_b1, F_coder_b1, F_count_b1, V_bg1⟩ := hQ
    replace N := Fr.app N Nq
    obtain ⟨h9, eT⟩ : ∃ z, T.heap = z := ⟨_, rfl⟩
    rw [eT] at Kq F_value_b1 F_coder_b1 F_count_b1 V_bg1
    replace E_ka := E_ka.keep Kq
    replace V_ka := V_ka.keep Kq (ninS ne_ka_b1 (ninS ne_ka_bg1 nin0))
    replace E_b1 := E_b1.keep Kq
    replace E_bg1 := E_bg1.keep Kq
    replace O := O.keep Kq (allS g_b1 (allS g_bg1 all0))
    replace K0 := K0.trans Kq (allS (Or.inr sz_b1) (allS (Or.inr sz_bg1) all0))
    refine own_viaT (g' := (mkF m 104 (own_L9 ka b1 ka 1 0 k0 v0) [(.ref b1)])) st ?_
    replace F_count_b1 : Fld Z h9 b1 "java/lang/AbstractStringBuilder" "count" "I" (.int 4) := F_count_b1
    replace V_bg1 : Arv Z h9 bg1 kg1 .byte (4 : Int32) [(.int (own_sb (92 : Int32))), (.int (own_sb (120 : Int32))), (.int (own_sb (own_hx (v0 / (16 : Int32))))), (.int (own_sb (own_hx (v0 % (16 : Int32)))))] (.int 0) := V_bg1
    refine own_via (g' := (mkF m 18 (own_L9 ka b1 ka 1 ((0 : Int32) + (1 : Int32)) k0 v0) [])) (fun t_ k_ => XS.pop X.here hx rfl (hb hby ep10m2_d104) rfl rfl (XS.iinc X.here hx rfl (hb hby ep10m2_d105) rfl (l' := (own_L9 ka b1 ka 1 ((0 : Int32) + (1 : Int32)) k0 v0)) rfl (XS.goto X.here hx rfl (pc0 := 108) (pc' := 18) rfl (hb hby ep10m2_d108) (by decide) (by decide) k_))) ?_
    rw [(by decide : ((0 : Int32) + (1 : Int32)) = (1 : Int32))]
    refine own_via (g' := (mkF m 112 (own_L9 ka b1 ka 1 1 k0 v0) [(.ref b1)])) (fun t_ k_ => XS.iload X.here hx rfl (hb hby ep10m2_d18) rfl (XS.iloadN X.here hx rfl (hb hby ep10m2_d20) rfl (XS.icmpYes X.here hx rfl (pc0 := 21) (pc' := 111) rfl (hb hby ep10m2_d21) rfl (flt (by decide : ¬ ((1 : Int32) < (1 : Int32)))).2.1 (by decide) (by decide) (XS.aloadN X.here hx rfl (hb hby ep10m2_d111) rfl rfl k_)))) ?_
    obtain ⟨cq, kq, qa, qb, qc⟩ := isOf hZ eT E_b1
    obtain ⟨_, _, ⟨T, Lq, kq, nq⟩, -, X, ⟨Lc, hQ, lq, yq, zq⟩, st⟩ := X.virtualBack hx (y := own_y24) (z := own_y24) hown (mvT hZ (hw _ (own_w 80 rfl))) (mvT hZ (hw _ (own_w 81 rfl))) (notFace_of_selects (args := #[]) (mvT hZ (hw _ (own_w 83 rfl)))) (mvT hZ (hw _ (own_w 83 rfl))) (mvT hZ (hw _ (own_w 82 rfl))) (by decide) (backOf (W := 0) (own_ts l Z a0 hw [] b1 bg1 kg1 (4 : Int32) (4 : Int32) [(.int (own_sb (92 : Int32))), (.int (own_sb (120 : Int32))), (.int (own_sb (own_hx (v0 / (16 : Int32))))), (.int (own_sb (own_hx (v0 % (16 : Int32)))))] zc h9 n0 O E_b1 F_value_b1 F_coder_b1 F_count_b1 E_bg1 V_bg1 (by decide) rfl S_C hzc) hZ (hw _ (own_w 84 rfl)) (hw _ (own_w 7 rfl)) (by decide) (by decide)) qa qc (g := (mkF m 112 (own_L9 ka b1 ka 1 1 k0 v0) [(.ref b1)])) rfl (by rw [hml]; rfl) (Steps.refl _) (argsL := []) (rest := []) (lenOf own_pd17 rfl) rfl (by show 2 * 0 + _ ≤ _; exact Nat.le_of_eq rfl) (hb hby ep10m2_d112) (fun _ _ => ⟨rfl, eT, (by decide : 3 + 2 ≤ _), (by decide : 25 + 22 ≤ _)⟩)
    dsimp only [Pt.U, Pt.locs, Pt.cells, Pt.slots] at X lq yq zq st hQ
    subst lq yq zq
    obtain ⟨rr, rb, kr, rfl, Nq, Kq, sz1, sz2, E_rr, F_value_rr, F_coder_rr, V_rb⟩ := hQ
    replace N := Fr.app N Nq
    obtain ⟨h10, eT⟩ : ∃ z, T.heap = z := ⟨_, rfl⟩
    rw [eT] at Kq E_rr F_value_rr F_coder_rr V_rb
    have ne_b1_rr : b1 ≠ rr := Nat.ne_of_lt (Nat.lt_of_lt_of_le E_b1.lt sz1)
    have ne_bg1_rr : bg1 ≠ rr := Nat.ne_of_lt (Nat.lt_of_lt_of_le V_bg1.lt sz1)
    have ne_ka_rr : ka ≠ rr := Nat.ne_of_lt (Nat.lt_of_lt_of_le E_ka.lt sz1)
    have g_rr : n0 ≤ rr := Nat.le_trans (own_le O) sz1
    have sz_rr : h0.size ≤ rr := Nat.le_trans K0.1 sz1
    have ne_b1_rb : b1 ≠ rb := Nat.ne_of_lt (Nat.lt_of_lt_of_le E_b1.lt sz2)
    have ne_bg1_rb : bg1 ≠ rb := Nat.ne_of_lt (Nat.lt_of_lt_of_le V_bg1.lt sz2)
    have ne_ka_rb : ka ≠ rb := Nat.ne_of_lt (Nat.lt_of_lt_of_le E_ka.lt sz2)
    have g_rb : n0 ≤ rb := Nat.le_trans (own_le O) sz2
    have sz_rb : h0.size ≤ rb := Nat.le_trans K0.1 sz2
    replace E_ka := E_ka.keep Kq
    replace V_ka := V_ka.keep Kq nin0
    replace E_b1 := E_b1.keep Kq
    replace F_value_b1 := F_value_b1.keep Kq nin0
    replace F_coder_b1 := F_coder_b1.keep Kq nin0
    replace F_count_b1 := F_count_b1.keep Kq nin0
    replace V_bg1 := V_bg1.keep Kq nin0
    replace E_bg1 := E_bg1.keep Kq
    replace O := O.keep Kq all0
    replace K0 := K0.trans Kq all0
    refine own_viaT (g' := (mkF m 115 (own_L9 ka b1 ka 1 1 k0 v0) [(.ref rr)])) st ?_
    refine own_retW X hx hlk Bd.returns rfl (Or.inr (Or.inr (Or.inr (Or.inr ⟨rfl, rfl, rfl⟩)))) (hb hby ep10m2_d115) (by decide) (by decide) ?_
    rw [eT]
    exact ⟨rr, rb, kr, _, _, rfl, N, K0, sz_rr, sz_rb, E_rr, F_value_rr, F_coder_rr, V_rb, Or.inr (⟨cd0, rfl, rfl⟩)⟩
def own_E2 (v0 : Int32) (v1 : Int32) (N : Int32) (cs : List Value) : Prop := ((¬ v0 < (32 : Int32) ∧ ¬ (126 : Int32) < v0 ∧ ¬ v0 = (92 : Int32)) ∧ (¬ v1 < (32 : Int32) ∧ ¬ (126 : Int32) < v1 ∧ ¬ v1 = (92 : Int32)) ∧ N = (2 : Int32) ∧ cs = [(.int (own_sb v0)), (.int (own_sb v1))]) ∨ ((¬ v0 < (32 : Int32) ∧ ¬ (126 : Int32) < v0 ∧ ¬ v0 = (92 : Int32)) ∧ ¬ (¬ v1 < (32 : Int32) ∧ ¬ (126 : Int32) < v1 ∧ ¬ v1 = (92 : Int32)) ∧ N = (5 : Int32) ∧ cs = [(.int (own_sb v0)), (.int (own_sb (92 : Int32))), (.int (own_sb (120 : Int32))), (.int (own_sb (own_hx (v1 / (16 : Int32))))), (.int (own_sb (own_hx (v1 % (16 : Int32)))))]) ∨ (¬ (¬ v0 < (32 : Int32) ∧ ¬ (126 : Int32) < v0 ∧ ¬ v0 = (92 : Int32)) ∧ (¬ v1 < (32 : Int32) ∧ ¬ (126 : Int32) < v1 ∧ ¬ v1 = (92 : Int32)) ∧ N = (5 : Int32) ∧ cs = [(.int (own_sb (92 : Int32))), (.int (own_sb (120 : Int32))), (.int (own_sb (own_hx (v0 / (16 : Int32))))), (.int (own_sb (own_hx (v0 % (16 : Int32))))), (.int (own_sb v1))]) ∨ (¬ (¬ v0 < (32 : Int32) ∧ ¬ (126 : Int32) < v0 ∧ ¬ v0 = (92 : Int32)) ∧ ¬ (¬ v1 < (32 : Int32) ∧ ¬ (126 : Int32) < v1 ∧ ¬ v1 = (92 : Int32)) ∧ N = (8 : Int32) ∧ cs = [(.int (own_sb (92 : Int32))), (.int (own_sb (120 : Int32))), (.int (own_sb (own_hx (v0 / (16 : Int32))))), (.int (own_sb (own_hx (v0 % (16 : Int32))))), (.int (own_sb (92 : Int32))), (.int (own_sb (120 : Int32))), (.int (own_sb (own_hx (v1 / (16 : Int32))))), (.int (own_sb (own_hx (v1 % (16 : Int32)))))])
theorem own_esc2_pn : plainFor (⟨"com/example/rows_to_regions/rowstoregions/KeyText", "escape", "([B)Ljava/lang/String;"⟩ : MethodName) = true := by first | exact plainFor_of_name (by first | (simp [plainName, overriddenIn]; done) | decide +kernel) | decide +kernel | exact Jvm.Free.JP.mathPlain rfl (by decide +kernel)
theorem own_esc2_ef (m : MethodId) (x0 : Addr) : entryFrame m #[(.ref x0)] 7 = mkF m 0 #[.val (.ref x0), .unset, .unset, .unset, .unset, .unset, .unset] [] := by first | (simp [entryFrame, mkF, argsToLocals, Value.category]; done) | rfl
def own_esc2_Q (Z : State) (ka : Addr) (kk : ClassId) (k0 : Int32) (k1 : Int32) (v0 : Int32) (v1 : Int32) (wH : Addr) (kH : ClassId) (hv : List Value) (zc : Int32) (h0 : Heap) (n0 : Nat) (v : Option Value) (h : Heap) (L : List Loc) : Prop := ∃ r b kb N cs, v = some (.ref r) ∧ Fr n0 L ∧ Keep h0 h [] ∧ h0.size ≤ r ∧ h0.size ≤ b ∧ Exa Z h r "java/lang/String" ∧ Fld Z h r "java/lang/String" "value" "[B" (.ref b) ∧ Fld Z h r "java/lang/String" "coder" "B" (.int 0) ∧ Arv Z h b kb .byte N cs (.int 0) ∧ own_E2 v0 v1 N cs
set_option maxRecDepth 65536 in
set_option maxHeartbeats 40000000 in
theorem own_esc2 (l : Launch) (Z : State) (a0 : Array Value) (hw : ∀ d ∈ tables_1, d.before a0 Z = true) (ws : List Jvm.Cond) (ka : Addr) (kk : ClassId) (k0 : Int32) (k1 : Int32) (v0 : Int32) (v1 : Int32) (wH : Addr) (kH : ClassId) (hv : List Value) (zc : Int32) (h0 : Heap) (n0 : Nat) (O : Old Z n0 h0) (E_ka : Exa Z h0 ka "[B") (V_ka : Arv Z h0 ka kk .byte (2 : Int32) [(.int k0), (.int k1)] (.int 0)) (ek0 : (k0 &&& (255 : Int32)) = v0) (bd0 : 0 ≤ v0.toInt ∧ v0.toInt < 256) (ek1 : (k1 &&& (255 : Int32)) = v1) (bd1 : 0 ≤ v1.toInt ∧ v1.toInt < 256) (S_H : Sta Z Z.heap "com/example/rows_to_regions/rowstoregions/KeyText" "HEX_DIGITS" "[C" (.ref wH)) (VO_wH : Arv Z Z.heap wH kH .char (16 : Int32) hv (.int 0)) (hhx : ∀ d : Int32, 0 ≤ d.toInt → d.toInt < 16 → hv.getD d.toNatClampNeg (.int 0) = .int (own_hx d)) (S_C : Sta Z Z.heap "java/lang/String" "COMPACT_STRINGS" "Z" (.int zc)) (hzc : ¬ zc = 0) :
    MetFree l (⟨"com/example/rows_to_regions/rowstoregions/KeyText", "escape", "([B)Ljava/lang/String;"⟩ : MethodName) (head1 (Jvm.Cond.code (⟨"com/example/rows_to_regions/rowstoregions/KeyText", "escape", "([B)Ljava/lang/String;"⟩ : MethodName) prog_10_method_2_code 7 (some (.object "java/lang/String")) :: ws) ({ frames := 6, cells := 6, slots := 65, locals := 91 } : Room)) (fun a U => a = #[(.ref ka)] ∧ Z.Warmed39 U.vm ∧ U.heap = h0) (fun _ _ _ _ _ => True) (fun _ U o U' => ∃ v L, o = .returned v ∧ own_esc2_Q Z ka kk k0 k1 v0 v1 wH kH hv zc h0 n0 v U'.heap L ∧ FrameEnd U o U' L ({ frames := 6, cells := 6, slots := 65, locals := 91 } : Room).cells ({ frames := 6, cells := 6, slots := 65, locals := 91 } : Room).slots) := by
  refine MetFree.of_bodySF own_esc2_pn hisR ?_
  intro p e s m args below meth c s₁ Bd hml0 hP hK
  obtain ⟨rfl, hZ, hh⟩ := hP
  have hx := Bd.exec
  have hby := Bd.bytes
  have hlk := Bd.notSynchronized
  have hml : c.maxLocals = 7 := hml0
  have hown : s.vm.findClass "com/example/rows_to_regions/rowstoregions/KeyText" = some m.cls := findClass_of_methodNamed Bd.named
  have hnm := (name_of_methodNamed Bd.named Bd.method).1
  have X : Stand p l e ({ frames := 6, cells := 6, slots := 65, locals := 91 } : Room) s m #[(.ref ka)] below meth c s₁ [] 0 0 := Stand.of_body Bd
  have eT : s₁.heap = h0 := by rw [← hh, Bd.state]; rfl
  have N := Fr.nil n0
  have K0 := Keep.refl h0 []
  show own_Ends p e below (own_Post s below (own_esc2_Q Z ka kk k0 k1 v0 v1 wH kH hv zc h0 n0) ({ frames := 6, cells := 6, slots := 65, locals := 91 } : Room).cells ({ frames := 6, cells := 6, slots := 65, locals := 91 } : Room).slots) s₁ (entryFrame m #[(.ref ka)] 7)
  rw [own_esc2_ef m ka]
  obtain ⟨T, hT⟩ : ∃ z, z = s₁ := ⟨_, rfl⟩
  rw [← hT] at X eT ⊢
  obtain ⟨h, hh0⟩ : ∃ z, z = h0 := ⟨_, rfl⟩
  rw [← hh0] at eT
  replace O : Old Z n0 h := by rw [hh0]; exact O
  replace K0 : Keep h0 h [] := by rw [hh0]; exact K0
  rw [← hh0] at E_ka
  rw [← hh0] at V_ka
  obtain ⟨b1, gb⟩ : ∃ z, z = h.size := ⟨_, rfl⟩
  obtain ⟨T, h2, X, eT, E, E_b1, Dq, -, st⟩ := newO X hx hZ hown (hw _ (own_w 5 rfl)) (hw _ (own_w 6 rfl)) (hw _ (own_w 7 rfl)) eT (g := (mkF m 0 (own_L25 ka) [])) rfl (hb hby ep10m2_d0) (by decide) (by decide)
  rw [← gb] at E_b1 Dq st
  have ne_ka_b1 : ka ≠ b1 := Nat.ne_of_lt (Nat.lt_of_lt_of_le E_ka.lt (Nat.le_of_eq gb.symm))
  have g_b1 : n0 ≤ b1 := Nat.le_trans (own_le O) (Nat.le_of_eq gb.symm)
  have sz_b1 : h0.size ≤ b1 := Nat.le_trans K0.1 (Nat.le_of_eq gb.symm)
  replace E_ka := E_ka.ext E
  replace V_ka := V_ka.ext E
  replace O := O.ext E
  replace K0 := K0.ext E
  have F_value_b1 : Fld Z h2 b1 "java/lang/AbstractStringBuilder" "value" "[B" .null := Dq (Or.inl (hw _ (own_w 23 rfl))) (ty := (.array .byte)) (by decide)
  have F_coder_b1 : Fld Z h2 b1 "java/lang/AbstractStringBuilder" "coder" "B" (.int 0) := Dq (Or.inl (hw _ (own_w 25 rfl))) (ty := .byte) (by decide)
  have F_count_b1 : Fld Z h2 b1 "java/lang/AbstractStringBuilder" "count" "I" (.int 0) := Dq (Or.inl (hw _ (own_w 37 rfl))) (ty := .int) (by decide)
  refine own_via (g' := (mkF m 3 (own_L25 ka) [(.ref b1)])) st ?_
  refine own_via (g' := (mkF m 5 (own_L25 ka) [(.ref ka), (.ref b1), (.ref b1)])) (fun t_ k_ => XS.dup X.here hx rfl (hb hby ep10m2_d3) rfl rfl (XS.aloadN X.here hx rfl (hb hby ep10m2_d4) rfl rfl k_)) ?_
  obtain ⟨cl_, Ar_, -, Sz_, Nn_, -, -⟩ := id V_ka
  refine own_via (g' := (mkF m 6 (own_L25 ka) [(.int 2), (.ref b1), (.ref b1)])) (fun t_ k_ => X.arraylength hx (by rw [eT]; exact Ar_.1) (State.isArrayOf_alike hZ.alike Ar_.2.1) (g := (mkF m 5 (own_L25 ka) [(.ref ka), (.ref b1), (.ref b1)])) rfl rfl (hb hby ep10m2_d5) _ (by rw [len_of Sz_ Nn_]; exact k_)) ?_
  obtain ⟨_, _, ⟨T, Lq, kq, nq⟩, -, X, ⟨Lc, hQ, lq, yq, zq⟩, st⟩ := X.specialBack hx (y := own_y23) rfl hown (mvT hZ (hw _ (own_w 8 rfl))) (mvT hZ (hw _ (own_w 9 rfl))) (mvT hZ (hw _ (own_w 10 rfl))) (by decide) (backOf (W := 1) (own_sbInit l Z a0 hw [] b1 (2 : Int32) zc h2 n0 O E_b1 F_value_b1 F_coder_b1 F_count_b1 (by decide) g_b1 S_C hzc) hZ (hw _ (own_w 10 rfl)) (hw _ (own_w 7 rfl)) (by decide) (by decide)) (g := (mkF m 6 (own_L25 ka) [(.int 2), (.ref b1), (.ref b1)])) rfl (by rw [hml]; rfl) (Steps.refl _) (a := b1) (argsL := [(.int 2)]) (rest := [(.ref b1)]) (lenOf own_pd4 rfl) rfl (by show 2 * 0 + _ ≤ _; exact Nat.le_of_eq rfl) (hb hby ep10m2_d6) (fun _ _ => ⟨rfl, eT, (by decide : 1 + 1 ≤ _), (by decide : 4 + 3 ≤ _)⟩)
  dsimp only [Pt.U, Pt.locs, Pt.cells, Pt.slots] at X lq yq zq st hQ
  subst lq yq zq
  obtain ⟨bn, kbn, rfl, Nq, Kq, szq, F_value_b1, F_coder_b1, F_count_b1, V_bn, E_bn⟩ := hQ
  replace N := Fr.app N Nq
  obtain ⟨h3, eT⟩ : ∃ z, T.heap = z := ⟨_, rfl⟩
  rw [eT] at Kq F_value_b1 F_coder_b1 F_count_b1 V_bn E_bn
  have ne_b1_bn : b1 ≠ bn := Nat.ne_of_lt (Nat.lt_of_lt_of_le E_b1.lt szq)
  have ne_ka_bn : ka ≠ bn := Nat.ne_of_lt (Nat.lt_of_lt_of_le E_ka.lt szq)
  have g_bn : n0 ≤ bn := Nat.le_trans (own_le O) szq
  have sz_bn : h0.size ≤ bn := Nat.le_trans K0.1 szq
  replace E_ka := E_ka.keep Kq
  replace V_ka := V_ka.keep Kq (ninS ne_ka_b1 nin0)
  replace E_b1 := E_b1.keep Kq
  replace O := O.keep Kq (allS g_b1 all0)
  replace K0 := K0.trans Kq (allS (Or.inr sz_b1) all0)
  refine own_viaT (g' := (mkF m 9 (own_L25 ka) [(.ref b1)])) st ?_
  refine own_via (g' := (mkF m 13 (own_L16 ka b1 ka) [(.ref ka)])) (fun t_ k_ => XS.astoreN X.here hx rfl (hb hby ep10m2_d9) rfl rfl (l' := (own_L20 ka b1)) rfl (XS.aloadN X.here hx rfl (hb hby ep10m2_d10) rfl rfl (XS.astoreN X.here hx rfl (hb hby ep10m2_d11) rfl rfl (l' := (own_L16 ka b1 ka)) rfl (XS.aloadN X.here hx rfl (hb hby ep10m2_d12) rfl rfl k_)))) ?_
  obtain ⟨cl_, Ar_, -, Sz_, Nn_, -, -⟩ := id V_ka
  refine own_via (g' := (mkF m 14 (own_L16 ka b1 ka) [(.int 2)])) (fun t_ k_ => X.arraylength hx (by rw [eT]; exact Ar_.1) (State.isArrayOf_alike hZ.alike Ar_.2.1) (g := (mkF m 13 (own_L16 ka b1 ka) [(.ref ka)])) rfl rfl (hb hby ep10m2_d13) _ (by rw [len_of Sz_ Nn_]; exact k_)) ?_
  refine own_via (g' := (mkF m 27 (own_L14 ka b1 ka 2 0) [(.int 0), (.ref ka)])) (fun t_ k_ => XS.istoreN X.here hx rfl (hb hby ep10m2_d14) rfl (l' := #[.val (.ref ka), .val (.ref b1), .val (.ref ka), .val (.int 2), .unset, .unset, .unset]) rfl (XS.iconst X.here hx rfl (hb hby ep10m2_d15) (XS.istore X.here hx rfl (hb hby ep10m2_d16) rfl (l' := (own_L14 ka b1 ka 2 0)) rfl (XS.iload X.here hx rfl (hb hby ep10m2_d18) rfl (XS.iloadN X.here hx rfl (hb hby ep10m2_d20) rfl (XS.icmpNo X.here hx rfl (hb hby ep10m2_d21) rfl (tlt (by decide : (0 : Int32) < (2 : Int32))).2.1 (XS.aloadN X.here hx rfl (hb hby ep10m2_d24) rfl rfl (XS.iload X.here hx rfl (hb hby ep10m2_d25) rfl k_)))))))) ?_
  obtain ⟨cl_, Ar_, -, Sz_, Nn_, Hs_, -⟩ := id V_ka
  have hin_ : ¬ ((0 : Int32) < 0 ∨ cl_.slots.size ≤ ((0 : Int32)).toNatClampNeg) := inb_of Sz_ ⟨by decide, by decide⟩
  have hat_ : cl_.slots[((0 : Int32)).toNatClampNeg]? = some (.int k0) := Hs_.at hin_ rfl
  refine own_via (g' := (mkF m 36 (own_L12 ka b1 ka 2 0 k0) [(.int (k0 &&& (255 : Int32)))])) (fun t_ k_ => X.baloadBytes hx (j := (0 : Int32)) (v := (.int k0)) (by rw [eT]; exact Ar_.1) (State.isArrayOf_alike hZ.alike Ar_.2.1) Ar_.2.2 hin_ hat_ (g := (mkF m 27 (own_L14 ka b1 ka 2 0) [(.int 0), (.ref ka)])) rfl rfl (hb hby ep10m2_d27) _ (XS.istore X.here hx rfl (hb hby ep10m2_d28) rfl (l' := (own_L12 ka b1 ka 2 0 k0)) rfl (XS.iload X.here hx rfl (hb hby ep10m2_d30) rfl (XS.sipush X.here hx rfl (hb hby ep10m2_d32) (XS.iand X.here hx rfl (hb hby ep10m2_d35) rfl k_))))) ?_
  rw [ek0]
  refine own_via (g' := (mkF m 38 (own_L9 ka b1 ka 2 0 k0 v0) [])) (fun t_ k_ => XS.istore X.here hx rfl (hb hby ep10m2_d36) rfl (l' := (own_L9 ka b1 ka 2 0 k0 v0)) rfl k_) ?_
  by_cases cd0 : (¬ v0 < (32 : Int32) ∧ ¬ (126 : Int32) < v0 ∧ ¬ v0 = (92 : Int32))
  · refine own_via (g' := (mkF m 60 (own_L9 ka b1 ka 2 0 k0 v0) [(.ref b1)])) (fun t_ k_ => XS.iload X.here hx rfl (hb hby ep10m2_d38) rfl (XS.bipush X.here hx rfl (hb hby ep10m2_d40) (XS.icmpNo X.here hx rfl (hb hby ep10m2_d42) rfl (flt cd0.1).1 (XS.iload X.here hx rfl (hb hby ep10m2_d45) rfl (XS.bipush X.here hx rfl (hb hby ep10m2_d47) (XS.icmpNo X.here hx rfl (hb hby ep10m2_d49) rfl (flt cd0.2.1).2.2.1 (XS.iload X.here hx rfl (hb hby ep10m2_d52) rfl (XS.bipush X.here hx rfl (hb hby ep10m2_d54) (XS.icmpNo X.here hx rfl (hb hby ep10m2_d56) rfl (feq cd0.2.2).1 (XS.aloadN X.here hx rfl (hb hby ep10m2_d59) rfl rfl k_)))))))))) ?_
    refine own_via (g' := (mkF m 63 (own_L9 ka b1 ka 2 0 k0 v0) [(.int (v0.toUInt32.toUInt16.toUInt32.toInt32)), (.ref b1)])) (fun t_ k_ => XS.iload X.here hx rfl (hb hby ep10m2_d60) rfl (XS.i2c X.here hx rfl (hb hby ep10m2_d62) rfl k_)) ?_
    rw [own_i2cS bd0.1 (Int.lt_trans bd0.2 (by decide))]
    obtain ⟨cq, kq, qa, qb, qc⟩ := isOf hZ eT E_b1
    obtain ⟨_, _, ⟨T, Lq, kq, nq⟩, -, X, ⟨Lc, hQ, lq, yq, zq⟩, st⟩ := X.virtualBack hx (y := own_y25) (z := own_y25) hown (mvT hZ (hw _ (own_w 26 rfl))) (mvT hZ (hw _ (own_w 27 rfl))) (notFace_of_selects (args := #[]) (mvT hZ (hw _ (own_w 29 rfl)))) (mvT hZ (hw _ (own_w 29 rfl))) (mvT hZ (hw _ (own_w 28 rfl))) (by decide) (backOf (W := 0) (own_sappN l Z a0 hw [] b1 v0 bn kbn (0 : Int32) (2 : Int32) ([] : List Value) zc h3 n0 O E_b1 F_value_b1 F_coder_b1 F_count_b1 E_bn V_bn (by decide) (by decide) rfl g_b1 g_bn (own_le255 bd0.2) S_C hzc) hZ (hw _ (own_w 30 rfl)) (hw _ (own_w 7 rfl)) (by decide) (by decide)) qa qc (g := (mkF m 63 (own_L9 ka b1 ka 2 0 k0 v0) [(.int v0), (.ref b1)])) rfl (by rw [hml]; rfl) (Steps.refl _) (argsL := [(.int v0)]) (rest := []) (lenOf own_pd18 rfl) rfl (by show 2 * 0 + _ ≤ _; exact Nat.le_of_eq rfl) (hb hby ep10m2_d63) (fun _ _ => ⟨rfl, eT, (by decide : 2 + 0 ≤ _), (by decide : 7 + 0 ≤ _)⟩)
    dsimp only [Pt.U, Pt.locs, Pt.cells, Pt.slots] at X lq yq zq st hQ
    subst lq yq zq
    obtain ⟨rfl, Nq, Kq, F_value_b1, F_coder_b1, F_count_b1, V_bn⟩ := hQ
    replace N := Fr.app N Nq
    obtain ⟨h4, eT⟩ : ∃ z, T.heap = z := ⟨_, rfl⟩
    rw [eT] at Kq F_value_b1 F_coder_b1 F_count_b1 V_bn
    replace E_ka := E_ka.keep Kq
    replace V_ka := V_ka.keep Kq (ninS ne_ka_b1 (ninS ne_ka_bn nin0))
    replace E_b1 := E_b1.keep Kq
    replace E_bn := E_bn.keep Kq
    replace O := O.keep Kq (allS g_b1 (allS g_bn all0))
    replace K0 := K0.trans Kq (allS (Or.inr sz_b1) (allS (Or.inr sz_bn) all0))
    refine own_viaT (g' := (mkF m 66 (own_L9 ka b1 ka 2 0 k0 v0) [(.ref b1)])) st ?_
    replace F_count_b1 : Fld Z h4 b1 "java/lang/AbstractStringBuilder" "count" "I" (.int 1) := F_count_b1
    replace V_bn : Arv Z h4 bn kbn .byte (2 : Int32) [(.int (own_sb v0))] (.int 0) := V_bn
    refine own_via (g' := (mkF m 18 (own_L9 ka b1 ka 2 ((0 : Int32) + (1 : Int32)) k0 v0) [])) (fun t_ k_ => XS.pop X.here hx rfl (hb hby ep10m2_d66) rfl rfl (XS.goto X.here hx rfl (pc0 := 67) (pc' := 105) rfl (hb hby ep10m2_d67) (by decide) (by decide) (XS.iinc X.here hx rfl (hb hby ep10m2_d105) rfl (l' := (own_L9 ka b1 ka 2 ((0 : Int32) + (1 : Int32)) k0 v0)) rfl (XS.goto X.here hx rfl (pc0 := 108) (pc' := 18) rfl (hb hby ep10m2_d108) (by decide) (by decide) k_)))) ?_
    rw [(by decide : ((0 : Int32) + (1 : Int32)) = (1 : Int32))]
    refine own_via (g' := (mkF m 27 (own_L9 ka b1 ka 2 1 k0 v0) [(.int 1), (.ref ka)])) (fun t_ k_ => XS.iload X.here hx rfl (hb hby ep10m2_d18) rfl (XS.iloadN X.here hx rfl (hb hby ep10m2_d20) rfl (XS.icmpNo X.here hx rfl (hb hby ep10m2_d21) rfl (tlt (by decide : (1 : Int32) < (2 : Int32))).2.1 (XS.aloadN X.here hx rfl (hb hby ep10m2_d24) rfl rfl (XS.iload X.here hx rfl (hb hby ep10m2_d25) rfl k_))))) ?_
    obtain ⟨cl_, Ar_, -, Sz_, Nn_, Hs_, -⟩ := id V_ka
    have hin_ : ¬ ((1 : Int32) < 0 ∨ cl_.slots.size ≤ ((1 : Int32)).toNatClampNeg) := inb_of Sz_ ⟨by decide, by decide⟩
    have hat_ : cl_.slots[((1 : Int32)).toNatClampNeg]? = some (.int k1) := Hs_.at hin_ rfl
    refine own_via (g' := (mkF m 36 (own_L9 ka b1 ka 2 1 k1 v0) [(.int (k1 &&& (255 : Int32)))])) (fun t_ k_ => X.baloadBytes hx (j := (1 : Int32)) (v := (.int k1)) (by rw [eT]; exact Ar_.1) (State.isArrayOf_alike hZ.alike Ar_.2.1) Ar_.2.2 hin_ hat_ (g := (mkF m 27 (own_L9 ka b1 ka 2 1 k0 v0) [(.int 1), (.ref ka)])) rfl rfl (hb hby ep10m2_d27) _ (XS.istore X.here hx rfl (hb hby ep10m2_d28) rfl (l' := (own_L9 ka b1 ka 2 1 k1 v0)) rfl (XS.iload X.here hx rfl (hb hby ep10m2_d30) rfl (XS.sipush X.here hx rfl (hb hby ep10m2_d32) (XS.iand X.here hx rfl (hb hby ep10m2_d35) rfl k_))))) ?_
    rw [ek1]
    refine own_via (g' := (mkF m 38 (own_L9 ka b1 ka 2 1 k1 v1) [])) (fun t_ k_ => XS.istore X.here hx rfl (hb hby ep10m2_d36) rfl (l' := (own_L9 ka b1 ka 2 1 k1 v1)) rfl k_) ?_
    by_cases cd1 : (¬ v1 < (32 : Int32) ∧ ¬ (126 : Int32) < v1 ∧ ¬ v1 = (92 : Int32))
    · refine own_via (g' := (mkF m 60 (own_L9 ka b1 ka 2 1 k1 v1) [(.ref b1)])) (fun t_ k_ => XS.iload X.here hx rfl (hb hby ep10m2_d38) rfl (XS.bipush X.here hx rfl (hb hby ep10m2_d40) (XS.icmpNo X.here hx rfl (hb hby ep10m2_d42) rfl (flt cd1.1).1 (XS.iload X.here hx rfl (hb hby ep10m2_d45) rfl (XS.bipush X.here hx rfl (hb hby ep10m2_d47) (XS.icmpNo X.here hx rfl (hb hby ep10m2_d49) rfl (flt cd1.2.1).2.2.1 (XS.iload X.here hx rfl (hb hby ep10m2_d52) rfl (XS.bipush X.here hx rfl (hb hby ep10m2_d54) (XS.icmpNo X.here hx rfl (hb hby ep10m2_d56) rfl (feq cd1.2.2).1 (XS.aloadN X.here hx rfl (hb hby ep10m2_d59) rfl rfl k_)))))))))) ?_
      refine own_via (g' := (mkF m 63 (own_L9 ka b1 ka 2 1 k1 v1) [(.int (v1.toUInt32.toUInt16.toUInt32.toInt32)), (.ref b1)])) (fun t_ k_ => XS.iload X.here hx rfl (hb hby ep10m2_d60) rfl (XS.i2c X.here hx rfl (hb hby ep10m2_d62) rfl k_)) ?_
      rw [own_i2cS bd1.1 (Int.lt_trans bd1.2 (by decide))]
      obtain ⟨cq, kq, qa, qb, qc⟩ := isOf hZ eT E_b1
      obtain ⟨_, _, ⟨T, Lq, kq, nq⟩, -, X, ⟨Lc, hQ, lq, yq, zq⟩, st⟩ := X.virtualBack hx (y := own_y25) (z := own_y25) hown (mvT hZ (hw _ (own_w 26 rfl))) (mvT hZ (hw _ (own_w 27 rfl))) (notFace_of_selects (args := #[]) (mvT hZ (hw _ (own_w 29 rfl)))) (mvT hZ (hw _ (own_w 29 rfl))) (mvT hZ (hw _ (own_w 28 rfl))) (by decide) (backOf (W := 0) (own_sappN l Z a0 hw [] b1 v1 bn kbn (1 : Int32) (2 : Int32) [(.int (own_sb v0))] zc h4 n0 O E_b1 F_value_b1 F_coder_b1 F_count_b1 E_bn V_bn (by decide) (by decide) rfl g_b1 g_bn (own_le255 bd1.2) S_C hzc) hZ (hw _ (own_w 30 rfl)) (hw _ (own_w 7 rfl)) (by decide) (by decide)) qa qc (g := (mkF m 63 (own_L9 ka b1 ka 2 1 k1 v1) [(.int v1), (.ref b1)])) rfl (by rw [hml]; rfl) (Steps.refl _) (argsL := [(.int v1)]) (rest := []) (lenOf own_pd18 rfl) rfl (by show 2 * 0 + _ ≤ _; exact Nat.le_of_eq rfl) (hb hby ep10m2_d63) (fun _ _ => ⟨rfl, eT, (by decide : 2 + 0 ≤ _), (by decide : 7 + 0 ≤ _)⟩)
      dsimp only [Pt.U, Pt.locs, Pt.cells, Pt.slots] at X lq yq zq st hQ
      subst lq yq zq
      obtain ⟨rfl, Nq, Kq, F_value_b1, F_coder_b1, F_count_b1, V_bn⟩ := hQ
      replace N := Fr.app N Nq
      obtain ⟨h5, eT⟩ : ∃ z, T.heap = z := ⟨_, rfl⟩
      rw [eT] at Kq F_value_b1 F_coder_b1 F_count_b1 V_bn
      replace E_ka := E_ka.keep Kq
      replace V_ka := V_ka.keep Kq (ninS ne_ka_b1 (ninS ne_ka_bn nin0))
      replace E_b1 := E_b1.keep Kq
      replace E_bn := E_bn.keep Kq
      replace O := O.keep Kq (allS g_b1 (allS g_bn all0))
      replace K0 := K0.trans Kq (allS (Or.inr sz_b1) (allS (Or.inr sz_bn) all0))
      refine own_viaT (g' := (mkF m 66 (own_L9 ka b1 ka 2 1 k1 v1) [(.ref b1)])) st ?_
      replace F_count_b1 : Fld Z h5 b1 "java/lang/AbstractStringBuilder" "count" "I" (.int 2) := F_count_b1
      replace V_bn : Arv Z h5 bn kbn .byte (2 : Int32) [(.int (own_sb v0)), (.int (own_sb v1))] (.int 0) := V_bn
      refine own_via (g' := (mkF m 18 (own_L9 ka b1 ka 2 ((1 : Int32) + (1 : Int32)) k1 v1) [])) (fun t_ k_ => XS.pop X.here hx rfl (hb hby ep10m2_d66) rfl rfl (XS.goto X.here hx rfl (pc0 := 67) (pc' := 105) rfl (hb hby ep10m2_d67) (by decide) (by decide) (XS.iinc X.here hx rfl (hb hby ep10m2_d105) rfl (l' := (own_L9 ka b1 ka 2 ((1 : Int32) + (1 : Int32)) k1 v1)) rfl (XS.goto X.here hx rfl (pc0 := 108) (pc' := 18) rfl (hb hby ep10m2_d108) (by decide) (by decide) k_)))) ?_
      rw [(by decide : ((1 : Int32) + (1 : Int32)) = (2 : Int32))]
      refine own_via (g' := (mkF m 112 (own_L9 ka b1 ka 2 2 k1 v1) [(.ref b1)])) (fun t_ k_ => XS.iload X.here hx rfl (hb hby ep10m2_d18) rfl (XS.iloadN X.here hx rfl (hb hby ep10m2_d20) rfl (XS.icmpYes X.here hx rfl (pc0 := 21) (pc' := 111) rfl (hb hby ep10m2_d21) rfl (flt (by decide : ¬ ((2 : Int32) < (2 : Int32)))).2.1 (by decide) (by decide) (XS.aloadN X.here hx rfl (hb hby ep10m2_d111) rfl rfl k_)))) ?_
      obtain ⟨cq, kq, qa, qb, qc⟩ := isOf hZ eT E_b1
      obtain ⟨_, _, ⟨T, Lq, kq, nq⟩, -, X, ⟨Lc, hQ, lq, yq, zq⟩, st⟩ := X.virtualBack hx (y := own_y24) (z := own_y24) hown (mvT hZ (hw _ (own_w 80 rfl))) (mvT hZ (hw _ (own_w 81 rfl))) (notFace_of_selects (args := #[]) (mvT hZ (hw _ (own_w 83 rfl)))) (mvT hZ (hw _ (own_w 83 rfl))) (mvT hZ (hw _ (own_w 82 rfl))) (by decide) (backOf (W := 0) (own_ts l Z a0 hw [] b1 bn kbn (2 : Int32) (2 : Int32) [(.int (own_sb v0)), (.int (own_sb v1))] zc h5 n0 O E_b1 F_value_b1 F_coder_b1 F_count_b1 E_bn V_bn (by decide) rfl S_C hzc) hZ (hw _ (own_w 84 rfl)) (hw _ (own_w 7 rfl)) (by decide) (by decide)) qa qc (g := (mkF m 112 (own_L9 ka b1 ka 2 2 k1 v1) [(.ref b1)])) rfl (by rw [hml]; rfl) (Steps.refl _) (argsL := []) (rest := []) (lenOf own_pd17 rfl) rfl (by show 2 * 0 + _ ≤ _; exact Nat.le_of_eq rfl) (hb hby ep10m2_d112) (fun _ _ => ⟨rfl, eT, (by decide : 2 + 2 ≤ _), (by decide : 7 + 22 ≤ _)⟩)
      dsimp only [Pt.U, Pt.locs, Pt.cells, Pt.slots] at X lq yq zq st hQ
      subst lq yq zq
      obtain ⟨rr, rb, kr, rfl, Nq, Kq, sz1, sz2, E_rr, F_value_rr, F_coder_rr, V_rb⟩ := hQ
      replace N := Fr.app N Nq
      obtain ⟨h6, eT⟩ : ∃ z, T.heap = z := ⟨_, rfl⟩
      rw [eT] at Kq E_rr F_value_rr F_coder_rr V_rb
      have ne_b1_rr : b1 ≠ rr := Nat.ne_of_lt (Nat.lt_of_lt_of_le E_b1.lt sz1)
      have ne_bn_rr : bn ≠ rr := Nat.ne_of_lt (Nat.lt_of_lt_of_le V_bn.lt sz1)
      have ne_ka_rr : ka ≠ rr := Nat.ne_of_lt (Nat.lt_of_lt_of_le E_ka.lt sz1)
      have g_rr : n0 ≤ rr := Nat.le_trans (own_le O) sz1
      have sz_rr : h0.size ≤ rr := Nat.le_trans K0.1 sz1
      have ne_b1_rb : b1 ≠ rb := Nat.ne_of_lt (Nat.lt_of_lt_of_le E_b1.lt sz2)
      have ne_bn_rb : bn ≠ rb := Nat.ne_of_lt (Nat.lt_of_lt_of_le V_bn.lt sz2)
      have ne_ka_rb : ka ≠ rb := Nat.ne_of_lt (Nat.lt_of_lt_of_le E_ka.lt sz2)
      have g_rb : n0 ≤ rb := Nat.le_trans (own_le O) sz2
      have sz_rb : h0.size ≤ rb := Nat.le_trans K0.1 sz2
      replace E_ka := E_ka.keep Kq
      replace V_ka := V_ka.keep Kq nin0
      replace E_b1 := E_b1.keep Kq
      replace F_value_b1 := F_value_b1.keep Kq nin0
      replace F_coder_b1 := F_coder_b1.keep Kq nin0
      replace F_count_b1 := F_count_b1.keep Kq nin0
      replace V_bn := V_bn.keep Kq nin0
      replace E_bn := E_bn.keep Kq
      replace O := O.keep Kq all0
      replace K0 := K0.trans Kq all0
      refine own_viaT (g' := (mkF m 115 (own_L9 ka b1 ka 2 2 k1 v1) [(.ref rr)])) st ?_
      refine own_retW X hx hlk Bd.returns rfl (Or.inr (Or.inr (Or.inr (Or.inr ⟨rfl, rfl, rfl⟩)))) (hb hby ep10m2_d115) (by decide) (by decide) ?_
      rw [eT]
      exact ⟨rr, rb, kr, _, _, rfl, N, K0, sz_rr, sz_rb, E_rr, F_value_rr, F_coder_rr, V_rb, Or.inl ⟨cd0, cd1, rfl, rfl⟩⟩
    · refine own_suff (T' := T) (g' := (mkF m 70 (own_L9 ka b1 ka 2 1 k1 v1) [])) (fun kk_ => ?_) ?_
      · rcases own_pe cd1 with q_ | ⟨q_, r_⟩ | ⟨q_, r_, u_⟩
        · refine own_via (g' := (mkF m 70 (own_L9 ka b1 ka 2 1 k1 v1) [])) (fun t_ k_ => XS.iload X.here hx rfl (hb hby ep10m2_d38) rfl (XS.bipush X.here hx rfl (hb hby ep10m2_d40) (XS.icmpYes X.here hx rfl (pc0 := 42) (pc' := 70) rfl (hb hby ep10m2_d42) rfl (tlt q_).1 (by decide) (by decide) k_))) ?_
          exact kk_
        · refine own_via (g' := (mkF m 70 (own_L9 ka b1 ka 2 1 k1 v1) [])) (fun t_ k_ => XS.iload X.here hx rfl (hb hby ep10m2_d38) rfl (XS.bipush X.here hx rfl (hb hby ep10m2_d40) (XS.icmpNo X.here hx rfl (hb hby ep10m2_d42) rfl (flt q_).1 (XS.iload X.here hx rfl (hb hby ep10m2_d45) rfl (XS.bipush X.here hx rfl (hb hby ep10m2_d47) (XS.icmpYes X.here hx rfl (pc0 := 49) (pc' := 70) rfl (hb hby ep10m2_d49) rfl (tlt r_).2.2.1 (by decide) (by decide) k_)))))) ?_
          exact kk_
        · refine own_via (g' := (mkF m 70 (own_L9 ka b1 ka 2 1 k1 v1) [])) (fun t_ k_ => XS.iload X.here hx rfl (hb hby ep10m2_d38) rfl (XS.bipush X.here hx rfl (hb hby ep10m2_d40) (XS.icmpNo X.here hx rfl (hb hby ep10m2_d42) rfl (flt q_).1 (XS.iload X.here hx rfl (hb hby ep10m2_d45) rfl (XS.bipush X.here hx rfl (hb hby ep10m2_d47) (XS.icmpNo X.here hx rfl (hb hby ep10m2_d49) rfl (flt r_).2.2.1 (XS.iload X.here hx rfl (hb hby ep10m2_d52) rfl (XS.bipush X.here hx rfl (hb hby ep10m2_d54) (XS.icmpYes X.here hx rfl (pc0 := 56) (pc' := 70) rfl (hb hby ep10m2_d56) rfl (teq u_).1 (by decide) (by decide) k_))))))))) ?_
          exact kk_
      refine own_via (g' := (mkF m 73 (own_L9 ka b1 ka 2 1 k1 v1) [(.int 92), (.ref b1)])) (fun t_ k_ => XS.aloadN X.here hx rfl (hb hby ep10m2_d70) rfl rfl (XS.bipush X.here hx rfl (hb hby ep10m2_d71) k_)) ?_
      obtain ⟨cq, kq, qa, qb, qc⟩ := isOf hZ eT E_b1
      obtain ⟨_, _, ⟨T, Lq, kq, nq⟩, -, X, ⟨Lc, hQ, lq, yq, zq⟩, st⟩ := X.virtualBack hx (y := own_y25) (z := own_y25) hown (mvT hZ (hw _ (own_w 26 rfl))) (mvT hZ (hw _ (own_w 27 rfl))) (notFace_of_selects (args := #[]) (mvT hZ (hw _ (own_w 29 rfl)))) (mvT hZ (hw _ (own_w 29 rfl))) (mvT hZ (hw _ (own_w 28 rfl))) (by decide) (backOf (W := 0) (own_sappN l Z a0 hw [] b1 (92 : Int32) bn kbn (1 : Int32) (2 : Int32) [(.int (own_sb v0))] zc h4 n0 O E_b1 F_value_b1 F_coder_b1 F_count_b1 E_bn V_bn (by decide) (by decide) rfl g_b1 g_bn (by decide) S_C hzc) hZ (hw _ (own_w 30 rfl)) (hw _ (own_w 7 rfl)) (by decide) (by decide)) qa qc (g := (mkF m 73 (own_L9 ka b1 ka 2 1 k1 v1) [(.int 92), (.ref b1)])) rfl (by rw [hml]; rfl) (Steps.refl _) (argsL := [(.int 92)]) (rest := []) (lenOf own_pd18 rfl) rfl (by show 2 * 0 + _ ≤ _; exact Nat.le_of_eq rfl) (hb hby ep10m2_d73) (fun _ _ => ⟨rfl, eT, (by decide : 2 + 0 ≤ _), (by decide : 7 + 0 ≤ _)⟩)
      dsimp only [Pt.U, Pt.locs, Pt.cells, Pt.slots] at X lq yq zq st hQ
      subst lq yq zq
      obtain ⟨rfl, Nq, Kq, F_value_b1, F_coder_b1, F_count_b1, V_bn⟩ := hQ
      replace N := Fr.app N Nq
      obtain ⟨h7, eT⟩ : ∃ z, T.heap = z := ⟨_, rfl⟩
      rw [eT] at Kq F_value_b1 F_coder_b1 F_count_b1 V_bn
      replace E_ka := E_ka.keep Kq
      replace V_ka := V_ka.keep Kq (ninS ne_ka_b1 (ninS ne_ka_bn nin0))
      replace E_b1 := E_b1.keep Kq
      replace E_bn := E_bn.keep Kq
      replace O := O.keep Kq (allS g_b1 (allS g_bn all0))
      replace K0 := K0.trans Kq (allS (Or.inr sz_b1) (allS (Or.inr sz_bn) all0))
      refine own_viaT (g' := (mkF m 76 (own_L9 ka b1 ka 2 1 k1 v1) [(.ref b1)])) st ?_
      replace F_count_b1 : Fld Z h7 b1 "java/lang/AbstractStringBuilder" "count" "I" (.int 2) := F_count_b1
      replace V_bn : Arv Z h7 bn kbn .byte (2 : Int32) [(.int (own_sb v0)), (.int (own_sb (92 : Int32)))] (.int 0) := V_bn
      refine own_via (g' := (mkF m 78 (own_L9 ka b1 ka 2 1 k1 v1) [(.int 120), (.ref b1)])) (fun t_ k_ => XS.bipush X.here hx rfl (hb hby ep10m2_d76) k_) ?_
      obtain ⟨cq, kq, qa, qb, qc⟩ := isOf hZ eT E_b1
      obtain ⟨_, _, ⟨T, Lq, kq, nq⟩, -, X, ⟨Lc, hQ, lq, yq, zq⟩, st⟩ := X.virtualBack hx (y := own_y25) (z := own_y25) hown (mvT hZ (hw _ (own_w 26 rfl))) (mvT hZ (hw _ (own_w 27 rfl))) (notFace_of_selects (args := #[]) (mvT hZ (hw _ (own_w 29 rfl)))) (mvT hZ (hw _ (own_w 29 rfl))) (mvT hZ (hw _ (own_w 28 rfl))) (by decide) (backOf (W := 0) (own_sappG l Z a0 hw [] b1 (120 : Int32) bn kbn (2 : Int32) [(.int (own_sb v0)), (.int (own_sb (92 : Int32)))] zc h7 n0 O E_b1 F_value_b1 F_coder_b1 F_count_b1 E_bn V_bn (by decide) rfl g_b1 (by decide) S_C hzc) hZ (hw _ (own_w 30 rfl)) (hw _ (own_w 7 rfl)) (by decide) (by decide)) qa qc (g := (mkF m 78 (own_L9 ka b1 ka 2 1 k1 v1) [(.int 120), (.ref b1)])) rfl (by rw [hml]; rfl) (Steps.refl _) (argsL := [(.int 120)]) (rest := []) (lenOf own_pd18 rfl) rfl (by show 2 * 0 + _ ≤ _; exact Nat.le_of_eq rfl) (hb hby ep10m2_d78) (fun _ _ => ⟨rfl, eT, (by decide : 2 + 1 ≤ _), (by decide : 7 + 18 ≤ _)⟩)
      dsimp only [Pt.U, Pt.locs, Pt.cells, Pt.slots] at X lq yq zq st hQ
      subst lq yq zq
      obtain ⟨bg1, kg1, rfl, Nq, Kq, szq, F_value_b1, F_coder_b1, F_count_b1, V_bg1, E_bg1⟩ := hQ
      replace N := Fr.app N Nq
      obtain ⟨h8, eT⟩ : ∃ z, T.heap = z := ⟨_, rfl⟩
      rw [eT] at Kq F_value_b1 F_coder_b1 F_count_b1 V_bg1 E_bg1
      have ne_b1_bg1 : b1 ≠ bg1 := Nat.ne_of_lt (Nat.lt_of_lt_of_le E_b1.lt szq)
      have ne_bn_bg1 : bn ≠ bg1 := Nat.ne_of_lt (Nat.lt_of_lt_of_le V_bn.lt szq)
      have ne_ka_bg1 : ka ≠ bg1 := Nat.ne_of_lt (Nat.lt_of_lt_of_le E_ka.lt szq)
      have g_bg1 : n0 ≤ bg1 := Nat.le_trans (own_le O) szq
      have sz_bg1 : h0.size ≤ bg1 := Nat.le_trans K0.1 szq
      replace E_ka := E_ka.keep Kq
      replace V_ka := V_ka.keep Kq (ninS ne_ka_b1 nin0)
      replace E_b1 := E_b1.keep Kq
      replace V_bn := V_bn.keep Kq (ninS (Ne.symm ne_b1_bn) nin0)
      replace E_bn := E_bn.keep Kq
      replace O := O.keep Kq (allS g_b1 all0)
      replace K0 := K0.trans Kq (allS (Or.inr sz_b1) all0)
      refine own_viaT (g' := (mkF m 81 (own_L9 ka b1 ka 2 1 k1 v1) [(.ref b1)])) st ?_
      replace F_count_b1 : Fld Z h8 b1 "java/lang/AbstractStringBuilder" "count" "I" (.int 3) := F_count_b1
      replace V_bg1 : Arv Z h8 bg1 kg1 .byte (6 : Int32) [(.int (own_sb v0)), (.int (own_sb (92 : Int32))), (.int (own_sb (120 : Int32)))] (.int 0) := V_bg1
      obtain ⟨T, X, eT, st⟩ := getS2 X hx hZ hown (host := "") (Or.inl (hw _ (own_w 78 rfl))) Via.refl eT (S_H.ext O.2) (g := (mkF m 81 (own_L9 ka b1 ka 2 1 k1 v1) [(.ref b1)])) rfl (hb hby ep10m2_d81)
      refine own_via (g' := (mkF m 84 (own_L9 ka b1 ka 2 1 k1 v1) [(.ref wH), (.ref b1)])) st ?_
      refine own_via (g' := (mkF m 88 (own_L9 ka b1 ka 2 1 k1 v1) [(.int ((v1.toUInt32 >>> ((4 : Int32) &&& 31).toUInt32).toInt32)), (.ref wH), (.ref b1)])) (fun t_ k_ => XS.iload X.here hx rfl (hb hby ep10m2_d84) rfl (XS.iconst X.here hx rfl (hb hby ep10m2_d86) (XS.iushr X.here hx rfl (hb hby ep10m2_d87) rfl k_))) ?_
      rw [(own_hi bd1.1 bd1.2).1]
      have V_wH := VO_wH.ext O.2
      obtain ⟨cl_, Ar_, -, Sz_, Nn_, Hs_, -⟩ := id V_wH
      have hin_ : ¬ ((v1 / (16 : Int32)) < 0 ∨ cl_.slots.size ≤ ((v1 / (16 : Int32))).toNatClampNeg) := inb_of Sz_ (own_in16 ((own_hi bd1.1 bd1.2).2.1) ((own_hi bd1.1 bd1.2).2.2))
      have hat_ : cl_.slots[((v1 / (16 : Int32))).toNatClampNeg]? = some (.int (own_hx (v1 / (16 : Int32)))) := Hs_.at hin_ (hhx _ ((own_hi bd1.1 bd1.2).2.1) ((own_hi bd1.1 bd1.2).2.2))
      refine own_via (g' := (mkF m 89 (own_L9 ka b1 ka 2 1 k1 v1) [(.int (own_hx (v1 / (16 : Int32)))), (.ref b1)])) (fun t_ k_ => X.caload hx (j := (v1 / (16 : Int32))) (v := (.int (own_hx (v1 / (16 : Int32))))) (by rw [eT]; exact Ar_.1) (State.isArrayOf_alike hZ.alike Ar_.2.1) Ar_.2.2 hin_ hat_ (g := (mkF m 88 (own_L9 ka b1 ka 2 1 k1 v1) [(.int (v1 / (16 : Int32))), (.ref wH), (.ref b1)])) rfl rfl (hb hby ep10m2_d88) _ k_) ?_
      clear V_wH
      obtain ⟨cq, kq, qa, qb, qc⟩ := isOf hZ eT E_b1
      obtain ⟨_, _, ⟨T, Lq, kq, nq⟩, -, X, ⟨Lc, hQ, lq, yq, zq⟩, st⟩ := X.virtualBack hx (y := own_y25) (z := own_y25) hown (mvT hZ (hw _ (own_w 26 rfl))) (mvT hZ (hw _ (own_w 27 rfl))) (notFace_of_selects (args := #[]) (mvT hZ (hw _ (own_w 29 rfl)))) (mvT hZ (hw _ (own_w 29 rfl))) (mvT hZ (hw _ (own_w 28 rfl))) (by decide) (backOf (W := 0) (own_sappN l Z a0 hw [] b1 (own_hx (v1 / (16 : Int32))) bg1 kg1 (3 : Int32) (6 : Int32) [(.int (own_sb v0)), (.int (own_sb (92 : Int32))), (.int (own_sb (120 : Int32)))] zc h8 n0 O E_b1 F_value_b1 F_coder_b1 F_count_b1 E_bg1 V_bg1 (by decide) (by decide) rfl g_b1 g_bg1 (own_le255 (own_hxB ((own_hi bd1.1 bd1.2).2.1) ((own_hi bd1.1 bd1.2).2.2)).2) S_C hzc) hZ (hw _ (own_w 30 rfl)) (hw _ (own_w 7 rfl)) (by decide) (by decide)) qa qc (g := (mkF m 89 (own_L9 ka b1 ka 2 1 k1 v1) [(.int (own_hx (v1 / (16 : Int32)))), (.ref b1)])) rfl (by rw [hml]; rfl) (Steps.refl _) (argsL := [(.int (own_hx (v1 / (16 : Int32))))]) (rest := []) (lenOf own_pd18 rfl) rfl (by show 2 * 0 + _ ≤ _; exact Nat.le_of_eq rfl) (hb hby ep10m2_d89) (fun _ _ => ⟨rfl, eT, (by decide : 3 + 0 ≤ _), (by decide : 25 + 0 ≤ _)⟩)
      dsimp only [Pt.U, Pt.locs, Pt.cells, Pt.slots] at X lq yq zq st hQ
      subst lq yq zq
      obtain ⟨rfl, Nq, Kq, F_value_b1, F_coder_b1, F_count_b1, V_bg1⟩ := hQ
      replace N := Fr.app N Nq
      obtain ⟨h9, eT⟩ : ∃ z, T.heap = z := ⟨_, rfl⟩
      rw [eT] at Kq F_value_b1 F_coder_b1 F_count_b1 V_bg1
      replace E_ka := E_ka.keep Kq
      replace V_ka := V_ka.keep Kq (ninS ne_ka_b1 (ninS ne_ka_bg1 nin0))
      replace E_b1 := E_b1.keep Kq
      replace E_bg1 := E_bg1.keep Kq
      replace O := O.keep Kq (allS g_b1 (allS g_bg1 all0))
      replace K0 := K0.trans Kq (allS (Or.inr sz_b1) (allS (Or.inr sz_bg1) all0))
      refine own_viaT (g' := (mkF m 92 (own_L9 ka b1 ka 2 1 k1 v1) [(.ref b1)])) st ?_
      replace F_count_b1 : Fld Z h9 b1 "java/lang/AbstractStringBuilder" "count" "I" (.int 4) := F_count_b1
      replace V_bg1 : Arv Z h9 bg1 kg1 .byte (6 : Int32) [(.int (own_sb v0)), (.int (own_sb (92 : Int32))), (.int (own_sb (120 : Int32))), (.int (own_sb (own_hx (v1 / (16 : Int32)))))] (.int 0) := V_bg1
      obtain ⟨T, X, eT, st⟩ := getS2 X hx hZ hown (host := "") (Or.inl (hw _ (own_w 78 rfl))) Via.refl eT (S_H.ext O.2) (g := (mkF m 92 (own_L9 ka b1 ka 2 1 k1 v1) [(.ref b1)])) rfl (hb hby ep10m2_d92)
      refine own_via (g' := (mkF m 95 (own_L9 ka b1 ka 2 1 k1 v1) [(.ref wH), (.ref b1)])) st ?_
      refine own_via (g' := (mkF m 100 (own_L9 ka b1 ka 2 1 k1 v1) [(.int (v1 &&& (15 : Int32))), (.ref wH), (.ref b1)])) (fun t_ k_ => XS.iload X.here hx rfl (hb hby ep10m2_d95) rfl (XS.bipush X.here hx rfl (hb hby ep10m2_d97) (XS.iand X.here hx rfl (hb hby ep10m2_d99) rfl k_))) ?_
      rw [(own_lo bd1.1 bd1.2).1]
      have V_wH := VO_wH.ext O.2
      obtain ⟨cl_, Ar_, -, Sz_, Nn_, Hs_, -⟩ := id V_wH
      have hin_ : ¬ ((v1 % (16 : Int32)) < 0 ∨ cl_.slots.size ≤ ((v1 % (16 : Int32))).toNatClampNeg) := inb_of Sz_ (own_in16 ((own_lo bd1.1 bd1.2).2.1) ((own_lo bd1.1 bd1.2).2.2))
      have hat_ : cl_.slots[((v1 % (16 : Int32))).toNatClampNeg]? = some (.int (own_hx (v1 % (16 : Int32)))) := Hs_.at hin_ (hhx _ ((own_lo bd1.1 bd1.2).2.1) ((own_lo bd1.1 bd1.2).2.2))
      refine own_via (g' := (mkF m 101 (own_L9 ka b1 ka 2 1 k1 v1) [(.int (own_hx (v1 % (16 : Int32)))), (.ref b1)])) (fun t_ k_ => X.caload hx (j := (v1 % (16 : Int32))) (v := (.int (own_hx (v1 % (16 : Int32))))) (by rw [eT]; exact Ar_.1) (State.isArrayOf_alike hZ.alike Ar_.2.1) Ar_.2.2 hin_ hat_ (g := (mkF m 100 (own_L9 ka b1 ka 2 1 k1 v1) [(.int (v1 % (16 : Int32))), (.ref wH), (.ref b1)])) rfl rfl (hb hby ep10m2_d100) _ k_) ?_
      clear V_wH
      obtain ⟨cq, kq, qa, qb, qc⟩ := isOf hZ eT E_b1
      obtain ⟨_, _, ⟨T, Lq, kq, nq⟩, -, X, ⟨Lc, hQ, lq, yq, zq⟩, st⟩ := X.virtualBack hx (y := own_y25) (z := own_y25) hown (mvT hZ (hw _ (own_w 26 rfl))) (mvT hZ (hw _ (own_w 27 rfl))) (notFace_of_selects (args := #[]) (mvT hZ (hw _ (own_w 29 rfl)))) (mvT hZ (hw _ (own_w 29 rfl))) (mvT hZ (hw _ (own_w 28 rfl))) (by decide) (backOf (W := 0) (own_sappN l Z a0 hw [] b1 (own_hx (v1 % (16 : Int32))) bg1 kg1 (4 : Int32) (6 : Int32) [(.int (own_sb v0)), (.int (own_sb (92 : Int32))), (.int (own_sb (120 : Int32))), (.int (own_sb (own_hx (v1 / (16 : Int32)))))] zc h9 n0 O E_b1 F_value_b1 F_coder_b1 F_count_b1 E_bg1 V_bg1 (by decide) (by decide) rfl g_b1 g_bg1 (own_le255 (own_hxB ((own_lo bd1.1 bd1.2).2.1) ((own_lo bd1.1 bd1.2).2.2)).2) S_C hzc) hZ (hw _ (own_w 30 rfl)) (hw _ (own_w 7 rfl)) (by decide) (by decide)) qa qc (g := (mkF m 101 (own_L9 ka b1 ka 2 1 k1 v1) [(.int (own_hx (v1 % (16 : Int32)))), (.ref b1)])) rfl (by rw [hml]; rfl) (Steps.refl _) (argsL := [(.int (own_hx (v1 % (16 : Int32))))]) (rest := []) (lenOf own_pd18 rfl) rfl (by show 2 * 0 + _ ≤ _; exact Nat.le_of_eq rfl) (hb hby ep10m2_d101) (fun _ _ => ⟨rfl, eT, (by decide : 3 + 0 ≤ _), (by decide : 25 + 0 ≤ _)⟩)
      dsimp only [Pt.U, Pt.locs, Pt.cells, Pt.slots] at X lq yq zq st hQ
      subst lq yq zq
      obtain ⟨rfl, Nq, Kq, F_value_b1, F_coder_b1, F_count_b1, V_bg1⟩ := hQ
      replace N := Fr.app N Nq
      obtain ⟨h10, eT⟩ : ∃ z, T.heap = z := ⟨_, rfl⟩
      rw [eT] at Kq F_value_b1 F_coder_b1 F_count_b1 V_bg1
      replace E_ka := E_ka.keep Kq
      replace V_ka := V_ka.keep Kq (ninS ne_ka_b1 (ninS ne_ka_bg1 nin0))
      replace E_b1 := E_b1.keep Kq
      replace E_bg1 := E_bg1.keep Kq
      replace O := O.keep Kq (allS g_b1 (allS g_bg1 all0))
      replace K0 := K0.trans Kq (allS (Or.inr sz_b1) (allS (Or.inr sz_bg1) all0))
      refine own_viaT (g' := (mkF m 104 (own_L9 ka b1 ka 2 1 k1 v1) [(.ref b1)])) st ?_
      replace F_count_b1 : Fld Z h10 b1 "java/lang/AbstractStringBuilder" "count" "I" (.int 5) := F_count_b1
      replace V_bg1 : Arv Z h10 bg1 kg1 .byte (6 : Int32) [(.int (own_sb v0)), (.int (own_sb (92 : Int32))), (.int (own_sb (120 : Int32))), (.int (own_sb (own_hx (v1 / (16 : Int32))))), (.int (own_sb (own_hx (v1 % (16 : Int32)))))] (.int 0) := V_bg1
      refine own_via (g' := (mkF m 18 (own_L9 ka b1 ka 2 ((1 : Int32) + (1 : Int32)) k1 v1) [])) (fun t_ k_ => XS.pop X.here hx rfl (hb hby ep10m2_d104) rfl rfl (XS.iinc X.here hx rfl (hb hby ep10m2_d105) rfl (l' := (own_L9 ka b1 ka 2 ((1 : Int32) + (1 : Int32)) k1 v1)) rfl (XS.goto X.here hx rfl (pc0 := 108) (pc' := 18) rfl (hb hby ep10m2_d108) (by decide) (by decide) k_))) ?_
      rw [(by decide : ((1 : Int32) + (1 : Int32)) = (2 : Int32))]
      refine own_via (g' := (mkF m 112 (own_L9 ka b1 ka 2 2 k1 v1) [(.ref b1)])) (fun t_ k_ => XS.iload X.here hx rfl (hb hby ep10m2_d18) rfl (XS.iloadN X.here hx rfl (hb hby ep10m2_d20) rfl (XS.icmpYes X.here hx rfl (pc0 := 21) (pc' := 111) rfl (hb hby ep10m2_d21) rfl (flt (by decide : ¬ ((2 : Int32) < (2 : Int32)))).2.1 (by decide) (by decide) (XS.aloadN X.here hx rfl (hb hby ep10m2_d111) rfl rfl k_)))) ?_
      obtain ⟨cq, kq, qa, qb, qc⟩ := isOf hZ eT E_b1
      obtain ⟨_, _, ⟨T, Lq, kq, nq⟩, -, X, ⟨Lc, hQ, lq, yq, zq⟩, st⟩ := X.virtualBack hx (y := own_y24) (z := own_y24) hown (mvT hZ (hw _ (own_w 80 rfl))) (mvT hZ (hw _ (own_w 81 rfl))) (notFace_of_selects (args := #[]) (mvT hZ (hw _ (own_w 83 rfl)))) (mvT hZ (hw _ (own_w 83 rfl))) (mvT hZ (hw _ (own_w 82 rfl))) (by decide) (backOf (W := 0) (own_ts l Z a0 hw [] b1 bg1 kg1 (5 : Int32) (6 : Int32) [(.int (own_sb v0)), (.int (own_sb (92 : Int32))), (.int (own_sb (120 : Int32))), (.int (own_sb (own_hx (v1 / (16 : Int32))))), (.int (own_sb (own_hx (v1 % (16 : Int32)))))] zc h10 n0 O E_b1 F_value_b1 F_coder_b1 F_count_b1 E_bg1 V_bg1 (by decide) rfl S_C hzc) hZ (hw _ (own_w 84 rfl)) (hw _ (own_w 7 rfl)) (by decide) (by decide)) qa qc (g := (mkF m 112 (own_L9 ka b1 ka 2 2 k1 v1) [(.ref b1)])) rfl (by rw [hml]; rfl) (Steps.refl _) (argsL := []) (rest := []) (lenOf own_pd17 rfl) rfl (by show 2 * 0 + _ ≤ _; exact Nat.le_of_eq rfl) (hb hby ep10m2_d112) (fun _ _ => ⟨rfl, eT, (by decide : 3 + 2 ≤ _), (by decide : 25 + 22 ≤ _)⟩)
      dsimp only [Pt.U, Pt.locs, Pt.cells, Pt.slots] at X lq yq zq st hQ
      subst lq yq zq
      obtain ⟨rr, rb, kr, rfl, Nq, Kq, sz1, sz2, E_rr, F_value_rr, F_coder_rr, V_rb⟩ := hQ
      replace N := Fr.app N Nq
      obtain ⟨h11, eT⟩ : ∃ z, T.heap = z := ⟨_, rfl⟩
      rw [eT] at Kq E_rr F_value_rr F_coder_rr V_rb
      have ne_b1_rr : b1 ≠ rr := Nat.ne_of_lt (Nat.lt_of_lt_of_le E_b1.lt sz1)
      have ne_bg1_rr : bg1 ≠ rr := Nat.ne_of_lt (Nat.lt_of_lt_of_le V_bg1.lt sz1)
      have ne_ka_rr : ka ≠ rr := Nat.ne_of_lt (Nat.lt_of_lt_of_le E_ka.lt sz1)
      have g_rr : n0 ≤ rr := Nat.le_trans (own_le O) sz1
      have sz_rr : h0.size ≤ rr := Nat.le_trans K0.1 sz1
      have ne_b1_rb : b1 ≠ rb := Nat.ne_of_lt (Nat.lt_of_lt_of_le E_b1.lt sz2)
      have ne_bg1_rb : bg1 ≠ rb := Nat.ne_of_lt (Nat.lt_of_lt_of_le V_bg1.lt sz2)
      have ne_ka_rb : ka ≠ rb := Nat.ne_of_lt (Nat.lt_of_lt_of_le E_ka.lt sz2)
      have g_rb : n0 ≤ rb := Nat.le_trans (own_le O) sz2
      have sz_rb : h0.size ≤ rb := Nat.le_trans K0.1 sz2
      replace E_ka := E_ka.keep Kq
      replace V_ka := V_ka.keep Kq nin0
      replace E_b1 := E_b1.keep Kq
      replace F_value_b1 := F_value_b1.keep Kq nin0
      replace F_coder_b1 := F_coder_b1.keep Kq nin0
      replace F_count_b1 := F_count_b1.keep Kq nin0
      replace V_bg1 := V_bg1.keep Kq nin0
      replace E_bg1 := E_bg1.keep Kq
      replace O := O.keep Kq all0
      replace K0 := K0.trans Kq all0
      refine own_viaT (g' := (mkF m 115 (own_L9 ka b1 ka 2 2 k1 v1) [(.ref rr)])) st ?_
      refine own_retW X hx hlk Bd.returns rfl (Or.inr (Or.inr (Or.inr (Or.inr ⟨rfl, rfl, rfl⟩)))) (hb hby ep10m2_d115) (by decide) (by decide) ?_
      rw [eT]
      exact ⟨rr, rb, kr, _, _, rfl, N, K0, sz_rr, sz_rb, E_rr, F_value_rr, F_coder_rr, V_rb, Or.inr (Or.inl ⟨cd0, cd1, rfl, rfl⟩)⟩
  · refine own_suff (T' := T) (g' := (mkF m 70 (own_L9 ka b1 ka 2 0 k0 v0) [])) (fun kk_ => ?_) ?_
    · rcases own_pe cd0 with q_ | ⟨q_, r_⟩ | ⟨q_, r_, u_⟩
      · refine own_via (g' := (mkF m 70 (own_L9 ka b1 ka 2 0 k0 v0) [])) (fun t_ k_ => XS.iload X.here hx rfl (hb hby ep10m2_d38) rfl (XS.bipush X.here hx rfl (hb hby ep10m2_d40) (XS.icmpYes X.here hx rfl (pc0 := 42) (pc' := 70) rfl (hb hby ep10m2_d42) rfl (tlt q_).1 (by decide) (by decide) k_))) ?_
        exact kk_
      · refine own_via (g' := (mkF m 70 (own_L9 ka b1 ka 2 0 k0 v0) [])) (fun t_ k_ => XS.iload X.here hx rfl (hb hby ep10m2_d38) rfl (XS.bipush X.here hx rfl (hb hby ep10m2_d40) (XS.icmpNo X.here hx rfl (hb hby ep10m2_d42) rfl (flt q_).1 (XS.iload X.here hx rfl (hb hby ep10m2_d45) rfl (XS.bipush X.here hx rfl (hb hby ep10m2_d47) (XS.icmpYes X.here hx rfl (pc0 := 49) (pc' := 70) rfl (hb hby ep10m2_d49) rfl (tlt r_).2.2.1 (by decide) (by decide) k_)))))) ?_
        exact kk_
      · refine own_via (g' := (mkF m 70 (own_L9 ka b1 ka 2 0 k0 v0) [])) (fun t_ k_ => XS.iload X.here hx rfl (hb hby ep10m2_d38) rfl (XS.bipush X.here hx rfl (hb hby ep10m2_d40) (XS.icmpNo X.here hx rfl (hb hby ep10m2_d42) rfl (flt q_).1 (XS.iload X.here hx rfl (hb hby ep10m2_d45) rfl (XS.bipush X.here hx rfl (hb hby ep10m2_d47) (XS.icmpNo X.here hx rfl (hb hby ep10m2_d49) rfl (flt r_).2.2.1 (XS.iload X.here hx rfl (hb hby ep10m2_d52) rfl (XS.bipush X.here hx rfl (hb hby ep10m2_d54) (XS.icmpYes X.here hx rfl (pc0 := 56) (pc' := 70) rfl (hb hby ep10m2_d56) rfl (teq u_).1 (by decide) (by decide) k_))))))))) ?_
        exact kk_
    refine own_via (g' := (mkF m 73 (own_L9 ka b1 ka 2 0 k0 v0) [(.int 92), (.ref b1)])) (fun t_ k_ => XS.aloadN X.here hx rfl (hb hby ep10m2_d70) rfl rfl (XS.bipush X.here hx rfl (hb hby ep10m2_d71) k_)) ?_
    obtain ⟨cq, kq, qa, qb, qc⟩ := isOf hZ eT E_b1
    obtain ⟨_, _, ⟨T, Lq, kq, nq⟩, -, X, ⟨Lc, hQ, lq, yq, zq⟩, st⟩ := X.virtualBack hx (y := own_y25) (z := own_y25) hown (mvT hZ (hw _ (own_w 26 rfl))) (mvT hZ (hw _ (own_w 27 rfl))) (notFace_of_selects (args := #[]) (mvT hZ (hw _ (own_w 29 rfl)))) (mvT hZ (hw _ (own_w 29 rfl))) (mvT hZ (hw _ (own_w 28 rfl))) (by decide) (backOf (W := 0) (own_sappN l Z a0 hw [] b1 (92 : Int32) bn kbn (0 : Int32) (2 : Int32) ([] : List Value) zc h3 n0 O E_b1 F_value_b1 F_coder_b1 F_count_b1 E_bn V_bn (by decide) (by decide) rfl g_b1 g_bn (by decide) S_C hzc) hZ (hw _ (own_w 30 rfl)) (hw _ (own_w 7 rfl)) (by decide) (by decide)) qa qc (g := (mkF m 73 (own_L9 ka b1 ka 2 0 k0 v0) [(.int 92), (.ref b1)])) rfl (by rw [hml]; rfl) (Steps.refl _) (argsL := [(.int 92)]) (rest := []) (lenOf own_pd18 rfl) rfl (by show 2 * 0 + _ ≤ _; exact Nat.le_of_eq rfl) (hb hby ep10m2_d73) (fun _ _ => ⟨rfl, eT, (by decide : 2 + 0 ≤ _), (by decide : 7 + 0 ≤ _)⟩)
    dsimp only [Pt.U, Pt.locs, Pt.cells, Pt.slots] at X lq yq zq st hQ
    subst lq yq zq
    obtain ⟨rfl, Nq, Kq, F_value_b1, F_coder_b1, F_count_b1, V_bn⟩ := hQ
    replace N := Fr.app N Nq
    obtain ⟨h12, eT⟩ : ∃ z, T.heap = z := ⟨_, rfl⟩
    rw [eT] at Kq F_value_b1 F_coder_b1 F_count_b1 V_bn
    replace E_ka := E_ka.keep Kq
    replace V_ka := V_ka.keep Kq (ninS ne_ka_b1 (ninS ne_ka_bn nin0))
    replace E_b1 := E_b1.keep Kq
    replace E_bn := E_bn.keep Kq
    replace O := O.keep Kq (allS g_b1 (allS g_bn all0))
    replace K0 := K0.trans Kq (allS (Or.inr sz_b1) (allS (Or.inr sz_bn) all0))
    refine own_viaT (g' := (mkF m 76 (own_L9 ka b1 ka 2 0 k0 v0) [(.ref b1)])) st ?_
    replace F_count_b1 : Fld Z h12 b1 "java/lang/AbstractStringBuilder" "count" "I" (.int 1) := F_count_b1
    replace V_bn : Arv Z h12 bn kbn .byte (2 : Int32) [(.int (own_sb (92 : Int32)))] (.int 0) := V_bn
    refine own_via (g' := (mkF m 78 (own_L9 ka b1 ka 2 0 k0 v0) [(.int 120), (.ref b1)])) (fun t_ k_ => XS.bipush X.here hx rfl (hb hby ep10m2_d76) k_) ?_
    obtain ⟨cq, kq, qa, qb, qc⟩ := isOf hZ eT E_b1
    obtain ⟨_, _, ⟨T, Lq, kq, nq⟩, -, X, ⟨Lc, hQ, lq, yq, zq⟩, st⟩ := X.virtualBack hx (y := own_y25) (z := own_y25) hown (mvT hZ (hw _ (own_w 26 rfl))) (mvT hZ (hw _ (own_w 27 rfl))) (notFace_of_selects (args := #[]) (mvT hZ (hw _ (own_w 29 rfl)))) (mvT hZ (hw _ (own_w 29 rfl))) (mvT hZ (hw _ (own_w 28 rfl))) (by decide) (backOf (W := 0) (own_sappN l Z a0 hw [] b1 (120 : Int32) bn kbn (1 : Int32) (2 : Int32) [(.int (own_sb (92 : Int32)))] zc h12 n0 O E_b1 F_value_b1 F_coder_b1 F_count_b1 E_bn V_bn (by decide) (by decide) rfl g_b1 g_bn (by decide) S_C hzc) hZ (hw _ (own_w 30 rfl)) (hw _ (own_w 7 rfl)) (by decide) (by decide)) qa qc (g := (mkF m 78 (own_L9 ka b1 ka 2 0 k0 v0) [(.int 120), (.ref b1)])) rfl (by rw [hml]; rfl) (Steps.refl _) (argsL := [(.int 120)]) (rest := []) (lenOf own_pd18 rfl) rfl (by show 2 * 0 + _ ≤ _; exact Nat.le_of_eq rfl) (hb hby ep10m2_d78) (fun _ _ => ⟨rfl, eT, (by decide : 2 + 0 ≤ _), (by decide : 7 + 0 ≤ _)⟩)
    dsimp only [Pt.U, Pt.locs, Pt.cells, Pt.slots] at X lq yq zq st hQ
    subst lq yq zq
    obtain ⟨rfl, Nq, Kq, F_value_b1, F_coder_b1, F_count_b1, V_bn⟩ := hQ
    replace N := Fr.app N Nq
    obtain ⟨h13, eT⟩ : ∃ z, T.heap = z := ⟨_, rfl⟩
    rw [eT] at Kq F_value_b1 F_coder_b1 F_count_b1 V_bn
    replace E_ka := E_ka.keep Kq
    replace V_ka := V_ka.keep Kq (ninS ne_ka_b1 (ninS ne_ka_bn nin0))
    replace E_b1 := E_b1.keep Kq
    replace E_bn := E_bn.keep Kq
    replace O := O.keep Kq (allS g_b1 (allS g_bn all0))
    replace K0 := K0.trans Kq (allS (Or.inr sz_b1) (allS (Or.inr sz_bn) all0))
    refine own_viaT (g' := (mkF m 81 (own_L9 ka b1 ka 2 0 k0 v0) [(.ref b1)])) st ?_
    replace F_count_b1 : Fld Z h13 b1 "java/lang/AbstractStringBuilder" "count" "I" (.int 2) := F_count_b1
    replace V_bn : Arv Z h13 bn kbn .byte (2 : Int32) [(.int (own_sb (92 : Int32))), (.int (own_sb (120 : Int32)))] (.int 0) := V_bn
    obtain ⟨T, X, eT, st⟩ := getS2 X hx hZ hown (host := "") (Or.inl (hw _ (own_w 78 rfl))) Via.refl eT (S_H.ext O.2) (g := (mkF m 81 (own_L9 ka b1 ka 2 0 k0 v0) [(.ref b1)])) rfl (hb hby ep10m2_d81)
    refine own_via (g' := (mkF m 84 (own_L9 ka b1 ka 2 0 k0 v0) [(.ref wH), (.ref b1)])) st ?_
    refine own_via (g' := (mkF m 88 (own_L9 ka b1 ka 2 0 k0 v0) [(.int ((v0.toUInt32 >>> ((4 : Int32) &&& 31).toUInt32).toInt32)), (.ref wH), (.ref b1)])) (fun t_ k_ => XS.iload X.here hx rfl (hb hby ep10m2_d84) rfl (XS.iconst X.here hx rfl (hb hby ep10m2_d86) (XS.iushr X.here hx rfl (hb hby ep10m2_d87) rfl k_))) ?_
    rw [(own_hi bd0.1 bd0.2).1]
    have V_wH := VO_wH.ext O.2
    obtain ⟨cl_, Ar_, -, Sz_, Nn_, Hs_, -⟩ := id V_wH
    have hin_ : ¬ ((v0 / (16 : Int32)) < 0 ∨ cl_.slots.size ≤ ((v0 / (16 : Int32))).toNatClampNeg) := inb_of Sz_ (own_in16 ((own_hi bd0.1 bd0.2).2.1) ((own_hi bd0.1 bd0.2).2.2))
    have hat_ : cl_.slots[((v0 / (16 : Int32))).toNatClampNeg]? = some (.int (own_hx (v0 / (16 : Int32)))) := Hs_.at hin_ (hhx _ ((own_hi bd0.1 bd0.2).2.1) ((own_hi bd0.1 bd0.2).2.2))
    refine own_via (g' := (mkF m 89 (own_L9 ka b1 ka 2 0 k0 v0) [(.int (own_hx (v0 / (16 : Int32)))), (.ref b1)])) (fun t_ k_ => X.caload hx (j := (v0 / (16 : Int32))) (v := (.int (own_hx (v0 / (16 : Int32))))) (by rw [eT]; exact Ar_.1) (State.isArrayOf_alike hZ.alike Ar_.2.1) Ar_.2.2 hin_ hat_ (g := (mkF m 88 (own_L9 ka b1 ka 2 0 k0 v0) [(.int (v0 / (16 : Int32))), (.ref wH), (.ref b1)])) rfl rfl (hb hby ep10m2_d88) _ k_) ?_
    clear V_wH
    obtain ⟨cq, kq, qa, qb, qc⟩ := isOf hZ eT E_b1
    obtain ⟨_, _, ⟨T, Lq, kq, nq⟩, -, X, ⟨Lc, hQ, lq, yq, zq⟩, st⟩ := X.virtualBack hx (y := own_y25) (z := own_y25) hown (mvT hZ (hw _ (own_w 26 rfl))) (mvT hZ (hw _ (own_w 27 rfl))) (notFace_of_selects (args := #[]) (mvT hZ (hw _ (own_w 29 rfl)))) (mvT hZ (hw _ (own_w 29 rfl))) (mvT hZ (hw _ (own_w 28 rfl))) (by decide) (backOf (W := 0) (own_sappG l Z a0 hw [] b1 (own_hx (v0 / (16 : Int32))) bn kbn (2 : Int32) [(.int (own_sb (92 : Int32))), (.int (own_sb (120 : Int32)))] zc h13 n0 O E_b1 F_value_b1 F_coder_b1 F_count_b1 E_bn V_bn (by decide) rfl g_b1 (own_le255 (own_hxB ((own_hi bd0.1 bd0.2).2.1) ((own_hi bd0.1 bd0.2).2.2)).2) S_C hzc) hZ (hw _ (own_w 30 rfl)) (hw _ (own_w 7 rfl)) (by decide) (by decide)) qa qc (g := (mkF m 89 (own_L9 ka b1 ka 2 0 k0 v0) [(.int (own_hx (v0 / (16 : Int32)))), (.ref b1)])) rfl (by rw [hml]; rfl) (Steps.refl _) (argsL := [(.int (own_hx (v0 / (16 : Int32))))]) (rest := []) (lenOf own_pd18 rfl) rfl (by show 2 * 0 + _ ≤ _; exact Nat.le_of_eq rfl) (hb hby ep10m2_d89) (fun _ _ => ⟨rfl, eT, (by decide : 2 + 1 ≤ _), (by decide : 7 + 18 ≤ _)⟩)
    dsimp only [Pt.U, Pt.locs, Pt.cells, Pt.slots] at X lq yq zq st hQ
    subst lq yq zq
    obtain ⟨bg1, kg1, rfl, Nq, Kq, szq, F_value_b1, F_coder_b1, F_count_b1, V_bg1, E_bg1⟩ := hQ
    replace N := Fr.app N Nq
    obtain ⟨h14, eT⟩ : ∃ z, T.heap = z := ⟨_, rfl⟩
    rw [eT] at Kq F_value_b1 F_coder_b1 F_count_b1 V_bg1 E_bg1
    have ne_b1_bg1 : b1 ≠ bg1 := Nat.ne_of_lt (Nat.lt_of_lt_of_le E_b1.lt szq)
    have ne_bn_bg1 : bn ≠ bg1 := Nat.ne_of_lt (Nat.lt_of_lt_of_le V_bn.lt szq)
    have ne_ka_bg1 : ka ≠ bg1 := Nat.ne_of_lt (Nat.lt_of_lt_of_le E_ka.lt szq)
    have g_bg1 : n0 ≤ bg1 := Nat.le_trans (own_le O) szq
    have sz_bg1 : h0.size ≤ bg1 := Nat.le_trans K0.1 szq
    replace E_ka := E_ka.keep Kq
    replace V_ka := V_ka.keep Kq (ninS ne_ka_b1 nin0)
    replace E_b1 := E_b1.keep Kq
    replace V_bn := V_bn.keep Kq (ninS (Ne.symm ne_b1_bn) nin0)
    replace E_bn := E_bn.keep Kq
    replace O := O.keep Kq (allS g_b1 all0)
    replace K0 := K0.trans Kq (allS (Or.inr sz_b1) all0)
    refine own_viaT (g' := (mkF m 92 (own_L9 ka b1 ka 2 0 k0 v0) [(.ref b1)])) st ?_
    replace F_count_b1 : Fld Z h14 b1 "java/lang/AbstractStringBuilder" "count" "I" (.int 3) := F_count_b1
    replace V_bg1 : Arv Z h14 bg1 kg1 .byte (6 : Int32) [(.int (own_sb (92 : Int32))), (.int (own_sb (120 : Int32))), (.int (own_sb (own_hx (v0 / (16 : Int32)))))] (.int 0) := V_bg1
    obtain ⟨T, X, eT, st⟩ := getS2 X hx hZ hown (host := "") (Or.inl (hw _ (own_w 78 rfl))) Via.refl eT (S_H.ext O.2) (g := (mkF m 92 (own_L9 ka b1 ka 2 0 k0 v0) [(.ref b1)])) rfl (hb hby ep10m2_d92)
    refine own_via (g' := (mkF m 95 (own_L9 ka b1 ka 2 0 k0 v0) [(.ref wH), (.ref b1)])) st ?_
    refine own_via (g' := (mkF m 100 (own_L9 ka b1 ka 2 0 k0 v0) [(.int (v0 &&& (15 : Int32))), (.ref wH), (.ref b1)])) (fun t_ k_ => XS.iload X.here hx rfl (hb hby ep10m2_d95) rfl (XS.bipush X.here hx rfl (hb hby ep10m2_d97) (XS.iand X.here hx rfl (hb hby ep10m2_d99) rfl k_))) ?_
    rw [(own_lo bd0.1 bd0.2).1]
    have V_wH := VO_wH.ext O.2
    obtain ⟨cl_, Ar_, -, Sz_, Nn_, Hs_, -⟩ := id V_wH
    have hin_ : ¬ ((v0 % (16 : Int32)) < 0 ∨ cl_.slots.size ≤ ((v0 % (16 : Int32))).toNatClampNeg) := inb_of Sz_ (own_in16 ((own_lo bd0.1 bd0.2).2.1) ((own_lo bd0.1 bd0.2).2.2))
    have hat_ : cl_.slots[((v0 % (16 : Int32))).toNatClampNeg]? = some (.int (own_hx (v0 % (16 : Int32)))) := Hs_.at hin_ (hhx _ ((own_lo bd0.1 bd0.2).2.1) ((own_lo bd0.1 bd0.2).2.2))
    refine own_via (g' := (mkF m 101 (own_L9 ka b1 ka 2 0 k0 v0) [(.int (own_hx (v0 % (16 : Int32)))), (.ref b1)])) (fun t_ k_ => X.caload hx (j := (v0 % (16 : Int32))) (v := (.int (own_hx (v0 % (16 : Int32))))) (by rw [eT]; exact Ar_.1) (State.isArrayOf_alike hZ.alike Ar_.2.1) Ar_.2.2 hin_ hat_ (g := (mkF m 100 (own_L9 ka b1 ka 2 0 k0 v0) [(.int (v0 % (16 : Int32))), (.ref wH), (.ref b1)])) rfl rfl (hb hby ep10m2_d100) _ k_) ?_
    clear V_wH
    obtain ⟨cq, kq, qa, qb, qc⟩ := isOf hZ eT E_b1
    obtain ⟨_, _, ⟨T, Lq, kq, nq⟩, -, X, ⟨Lc, hQ, lq, yq, zq⟩, st⟩ := X.virtualBack hx (y := own_y25) (z := own_y25) hown (mvT hZ (hw _ (own_w 26 rfl))) (mvT hZ (hw _ (own_w 27 rfl))) (notFace_of_selects (args := #[]) (mvT hZ (hw _ (own_w 29 rfl)))) (mvT hZ (hw _ (own_w 29 rfl))) (mvT hZ (hw _ (own_w 28 rfl))) (by decide) (backOf (W := 0) (own_sappN l Z a0 hw [] b1 (own_hx (v0 % (16 : Int32))) bg1 kg1 (3 : Int32) (6 : Int32) [(.int (own_sb (92 : Int32))), (.int (own_sb (120 : Int32))), (.int (own_sb (own_hx (v0 / (16 : Int32)))))] zc h14 n0 O E_b1 F_value_b1 F_coder_b1 F_count_b1 E_bg1 V_bg1 (by decide) (by decide) rfl g_b1 g_bg1 (own_le255 (own_hxB ((own_lo bd0.1 bd0.2).2.1) ((own_lo bd0.1 bd0.2).2.2)).2) S_C hzc) hZ (hw _ (own_w 30 rfl)) (hw _ (own_w 7 rfl)) (by decide) (by decide)) qa qc (g := (mkF m 101 (own_L9 ka b1 ka 2 0 k0 v0) [(.int (own_hx (v0 % (16 : Int32)))), (.ref b1)])) rfl (by rw [hml]; rfl) (Steps.refl _) (argsL := [(.int (own_hx (v0 % (16 : Int32))))]) (rest := []) (lenOf own_pd18 rfl) rfl (by show 2 * 0 + _ ≤ _; exact Nat.le_of_eq rfl) (hb hby ep10m2_d101) (fun _ _ => ⟨rfl, eT, (by decide : 3 + 0 ≤ _), (by decide : 25 + 0 ≤ _)⟩)
    dsimp only [Pt.U, Pt.locs, Pt.cells, Pt.slots] at X lq yq zq st hQ
    subst lq yq zq
    obtain ⟨rfl, Nq, Kq, F_value_b1, F_coder_b1, F_count_b1, V_bg1⟩ := hQ
    replace N := Fr.app N Nq
    obtain ⟨h15, eT⟩ : ∃ z, T.heap = z := ⟨_, rfl⟩
    rw [eT] at Kq F_value_b1 F_coder_b1 F_count_b1 V_bg1
    replace E_ka := E_ka.keep Kq
    replace V_ka := V_ka.keep Kq (ninS ne_ka_b1 (ninS ne_ka_bg1 nin0))
    replace E_b1 := E_b1.keep Kq
    replace E_bg1 := E_bg1.keep Kq
    replace O := O.keep Kq (allS g_b1 (allS g_bg1 all0))
    replace K0 := K0.trans Kq (allS (Or.inr sz_b1) (allS (Or.inr sz_bg1) all0))
    refine own_viaT (g' := (mkF m 104 (own_L9 ka b1 ka 2 0 k0 v0) [(.ref b1)])) st ?_
    replace F_count_b1 : Fld Z h15 b1 "java/lang/AbstractStringBuilder" "count" "I" (.int 4) := F_count_b1
    replace V_bg1 : Arv Z h15 bg1 kg1 .byte (6 : Int32) [(.int (own_sb (92 : Int32))), (.int (own_sb (120 : Int32))), (.int (own_sb (own_hx (v0 / (16 : Int32))))), (.int (own_sb (own_hx (v0 % (16 : Int32)))))] (.int 0) := V_bg1
    refine own_via (g' := (mkF m 18 (own_L9 ka b1 ka 2 ((0 : Int32) + (1 : Int32)) k0 v0) [])) (fun t_ k_ => XS.pop X.here hx rfl (hb hby ep10m2_d104) rfl rfl (XS.iinc X.here hx rfl (hb hby ep10m2_d105) rfl (l' := (own_L9 ka b1 ka 2 ((0 : Int32) + (1 : Int32)) k0 v0)) rfl (XS.goto X.here hx rfl (pc0 := 108) (pc' := 18) rfl (hb hby ep10m2_d108) (by decide) (by decide) k_))) ?_
    rw [(by decide : ((0 : Int32) + (1 : Int32)) = (1 : Int32))]
    refine own_via (g' := (mkF m 27 (own_L9 ka b1 ka 2 1 k0 v0) [(.int 1), (.ref ka)])) (fun t_ k_ => XS.iload X.here hx rfl (hb hby ep10m2_d18) rfl (XS.iloadN X.here hx rfl (hb hby ep10m2_d20) rfl (XS.icmpNo X.here hx rfl (hb hby ep10m2_d21) rfl (tlt (by decide : (1 : Int32) < (2 : Int32))).2.1 (XS.aloadN X.here hx rfl (hb hby ep10m2_d24) rfl rfl (XS.iload X.here hx rfl (hb hby ep10m2_d25) rfl k_))))) ?_
    obtain ⟨cl_, Ar_, -, Sz_, Nn_, Hs_, -⟩ := id V_ka
    have hin_ : ¬ ((1 : Int32) < 0 ∨ cl_.slots.size ≤ ((1 : Int32)).toNatClampNeg) := inb_of Sz_ ⟨by decide, by decide⟩
    have hat_ : cl_.slots[((1 : Int32)).toNatClampNeg]? = some (.int k1) := Hs_.at hin_ rfl
    refine own_via (g' := (mkF m 36 (own_L9 ka b1 ka 2 1 k1 v0) [(.int (k1 &&& (255 : Int32)))])) (fun t_ k_ => X.baloadBytes hx (j := (1 : Int32)) (v := (.int k1)) (by rw [eT]; exact Ar_.1) (State.isArrayOf_alike hZ.alike Ar_.2.1) Ar_.2.2 hin_ hat_ (g := (mkF m 27 (own_L9 ka b1 ka 2 1 k0 v0) [(.int 1), (.ref ka)])) rfl rfl (hb hby ep10m2_d27) _ (XS.istore X.here hx rfl (hb hby ep10m2_d28) rfl (l' := (own_L9 ka b1 ka 2 1 k1 v0)) rfl (XS.iload X.here hx rfl (hb hby ep10m2_d30) rfl (XS.sipush X.here hx rfl (hb hby ep10m2_d32) (XS.iand X.here hx rfl (hb hby ep10m2_d35) rfl k_))))) ?_
    rw [ek1]
    refine own_via (g' := (mkF m 38 (own_L9 ka b1 ka 2 1 k1 v1) [])) (fun t_ k_ => XS.istore X.here hx rfl (hb hby ep10m2_d36) rfl (l' := (own_L9 ka b1 ka 2 1 k1 v1)) rfl k_) ?_
    by_cases cd1 : (¬ v1 < (32 : Int32) ∧ ¬ (126 : Int32) < v1 ∧ ¬ v1 = (92 : Int32))
    · refine own_via (g' := (mkF m 60 (own_L9 ka b1 ka 2 1 k1 v1) [(.ref b1)])) (fun t_ k_ => XS.iload X.here hx rfl (hb hby ep10m2_d38) rfl (XS.bipush X.here hx rfl (hb hby ep10m2_d40) (XS.icmpNo X.here hx rfl (hb hby ep10m2_d42) rfl (flt cd1.1).1 (XS.iload X.here hx rfl (hb hby ep10m2_d45) rfl (XS.bipush X.here hx rfl (hb hby ep10m2_d47) (XS.icmpNo X.here hx rfl (hb hby ep10m2_d49) rfl (flt cd1.2.1).2.2.1 (XS.iload X.here hx rfl (hb hby ep10m2_d52) rfl (XS.bipush X.here hx rfl (hb hby ep10m2_d54) (XS.icmpNo X.here hx rfl (hb hby ep10m2_d56) rfl (feq cd1.2.2).1 (XS.aloadN X.here hx rfl (hb hby ep10m2_d59) rfl rfl k_)))))))))) ?_
      refine own_via (g' := (mkF m 63 (own_L9 ka b1 ka 2 1 k1 v1) [(.int (v1.toUInt32.toUInt16.toUInt32.toInt32)), (.ref b1)])) (fun t_ k_ => XS.iload X.here hx rfl (hb hby ep10m2_d60) rfl (XS.i2c X.here hx rfl (hb hby ep10m2_d62) rfl k_)) ?_
      rw [own_i2cS bd1.1 (Int.lt_trans bd1.2 (by decide))]
      obtain ⟨cq, kq, qa, qb, qc⟩ := isOf hZ eT E_b1
      obtain ⟨_, _, ⟨T, Lq, kq, nq⟩, -, X, ⟨Lc, hQ, lq, yq, zq⟩, st⟩ := X.virtualBack hx (y := own_y25) (z := own_y25) hown (mvT hZ (hw _ (own_w 26 rfl))) (mvT hZ (hw _ (own_w 27 rfl))) (notFace_of_selects (args := #[]) (mvT hZ (hw _ (own_w 29 rfl)))) (mvT hZ (hw _ (own_w 29 rfl))) (mvT hZ (hw _ (own_w 28 rfl))) (by decide) (backOf (W := 0) (own_sappN l Z a0 hw [] b1 v1 bg1 kg1 (4 : Int32) (6 : Int32) [(.int (own_sb (92 : Int32))), (.int (own_sb (120 : Int32))), (.int (own_sb (own_hx (v0 / (16 : Int32))))), (.int (own_sb (own_hx (v0 % (16 : Int32)))))] zc h15 n0 O E_b1 F_value_b1 F_coder_b1 F_count_b1 E_bg1 V_bg1 (by decide) (by decide) rfl g_b1 g_bg1 (own_le255 bd1.2) S_C hzc) hZ (hw _ (own_w 30 rfl)) (hw _ (own_w 7 rfl)) (by decide) (by decide)) qa qc (g := (mkF m 63 (own_L9 ka b1 ka 2 1 k1 v1) [(.int v1), (.ref b1)])) rfl (by rw [hml]; rfl) (Steps.refl _) (argsL := [(.int v1)]) (rest := []) (lenOf own_pd18 rfl) rfl (by show 2 * 0 + _ ≤ _; exact Nat.le_of_eq rfl) (hb hby ep10m2_d63) (fun _ _ => ⟨rfl, eT, (by decide : 3 + 0 ≤ _), (by decide : 25 + 0 ≤ _)⟩)
      dsimp only [Pt.U, Pt.locs, Pt.cells, Pt.slots] at X lq yq zq st hQ
      subst lq yq zq
      obtain ⟨rfl, Nq, Kq, F_value_b1, F_coder_b1, F_count_b1, V_bg1⟩ := hQ
      replace N := Fr.app N Nq
      obtain ⟨h16, eT⟩ : ∃ z, T.heap = z := ⟨_, rfl⟩
      rw [eT] at Kq F_value_b1 F_coder_b1 F_count_b1 V_bg1
      replace E_ka := E_ka.keep Kq
      replace V_ka := V_ka.keep Kq (ninS ne_ka_b1 (ninS ne_ka_bg1 nin0))
      replace E_b1 := E_b1.keep Kq
      replace E_bg1 := E_bg1.keep Kq
      replace O := O.keep Kq (allS g_b1 (allS g_bg1 all0))
      replace K0 := K0.trans Kq (allS (Or.inr sz_b1) (allS (Or.inr sz_bg1) all0))
      refine own_viaT (g' := (mkF m 66 (own_L9 ka b1 ka 2 1 k1 v1) [(.ref b1)])) st ?_
      replace F_count_b1 : Fld Z h16 b1 "java/lang/AbstractStringBuilder" "count" "I" (.int 5) := F_count_b1
      replace V_bg1 : Arv Z h16 bg1 kg1 .byte (6 : Int32) [(.int (own_sb (92 : Int32))), (.int (own_sb (120 : Int32))), (.int (own_sb (own_hx (v0 / (16 : Int32))))), (.int (own_sb (own_hx (v0 % (16 : Int32))))), (.int (own_sb v1))] (.int 0) := V_bg1
      refine own_via (g' := (mkF m 18 (own_L9 ka b1 ka 2 ((1 : Int32) + (1 : Int32)) k1 v1) [])) (fun t_ k_ => XS.pop X.here hx rfl (hb hby ep10m2_d66) rfl rfl (XS.goto X.here hx rfl (pc0 := 67) (pc' := 105) rfl (hb hby ep10m2_d67) (by decide) (by decide) (XS.iinc X.here hx rfl (hb hby ep10m2_d105) rfl (l' := (own_L9 ka b1 ka 2 ((1 : Int32) + (1 : Int32)) k1 v1)) rfl (XS.goto X.here hx rfl (pc0 := 108) (pc' := 18) rfl (hb hby ep10m2_d108) (by decide) (by decide) k_)))) ?_
      rw [(by decide : ((1 : Int32) + (1 : Int32)) = (2 : Int32))]
      refine own_via (g' := (mkF m 112 (own_L9 ka b1 ka 2 2 k1 v1) [(.ref b1)])) (fun t_ k_ => XS.iload X.here hx rfl (hb hby ep10m2_d18) rfl (XS.iloadN X.here hx rfl (hb hby ep10m2_d20) rfl (XS.icmpYes X.here hx rfl (pc0 := 21) (pc' := 111) rfl (hb hby ep10m2_d21) rfl (flt (by decide : ¬ ((2 : Int32) < (2 : Int32)))).2.1 (by decide) (by decide) (XS.aloadN X.here hx rfl (hb hby ep10m2_d111) rfl rfl k_)))) ?_
      obtain ⟨cq, kq, qa, qb, qc⟩ := isOf hZ eT E_b1
      obtain ⟨_, _, ⟨T, Lq, kq, nq⟩, -, X, ⟨Lc, hQ, lq, yq, zq⟩, st⟩ := X.virtualBack hx (y := own_y24) (z := own_y24) hown (mvT hZ (hw _ (own_w 80 rfl))) (mvT hZ (hw _ (own_w 81 rfl))) (notFace_of_selects (args := #[]) (mvT hZ (hw _ (own_w 83 rfl)))) (mvT hZ (hw _ (own_w 83 rfl))) (mvT hZ (hw _ (own_w 82 rfl))) (by decide) (backOf (W := 0) (own_ts l Z a0 hw [] b1 bg1 kg1 (5 : Int32) (6 : Int32) [(.int (own_sb (92 : Int32))), (.int (own_sb (120 : Int32))), (.int (own_sb (own_hx (v0 / (16 : Int32))))), (.int (own_sb (own_hx (v0 % (16 : Int32))))), (.int (own_sb v1))] zc h16 n0 O E_b1 F_value_b1 F_coder_b1 F_count_b1 E_bg1 V_bg1 (by decide) rfl S_C hzc) hZ (hw _ (own_w 84 rfl)) (hw _ (own_w 7 rfl)) (by decide) (by decide)) qa qc (g := (mkF m 112 (own_L9 ka b1 ka 2 2 k1 v1) [(.ref b1)])) rfl (by rw [hml]; rfl) (Steps.refl _) (argsL := []) (rest := []) (lenOf own_pd17 rfl) rfl (by show 2 * 0 + _ ≤ _; exact Nat.le_of_eq rfl) (hb hby ep10m2_d112) (fun _ _ => ⟨rfl, eT, (by decide : 3 + 2 ≤ _), (by decide : 25 + 22 ≤ _)⟩)
      dsimp only [Pt.U, Pt.locs, Pt.cells, Pt.slots] at X lq yq zq st hQ
      subst lq yq zq
      obtain ⟨rr, rb, kr, rfl, Nq, Kq, sz1, sz2, E_rr, F_value_rr, F_coder_rr, V_rb⟩ := hQ
      replace N := Fr.app N Nq
      obtain ⟨h17, eT⟩ : ∃ z, T.heap = z := ⟨_, rfl⟩
      rw [eT] at Kq E_rr F_value_rr F_coder_rr V_rb
      have ne_b1_rr : b1 ≠ rr := Nat.ne_of_lt (Nat.lt_of_lt_of_le E_b1.lt sz1)
      have ne_bg1_rr : bg1 ≠ rr := Nat.ne_of_lt (Nat.lt_of_lt_of_le V_bg1.lt sz1)
      have ne_ka_rr : ka ≠ rr := Nat.ne_of_lt (Nat.lt_of_lt_of_le E_ka.lt sz1)
      have g_rr : n0 ≤ rr := Nat.le_trans (own_le O) sz1
      have sz_rr : h0.size ≤ rr := Nat.le_trans K0.1 sz1
      have ne_b1_rb : b1 ≠ rb := Nat.ne_of_lt (Nat.lt_of_lt_of_le E_b1.lt sz2)
      have ne_bg1_rb : bg1 ≠ rb := Nat.ne_of_lt (Nat.lt_of_lt_of_le V_bg1.lt sz2)
      have ne_ka_rb : ka ≠ rb := Nat.ne_of_lt (Nat.lt_of_lt_of_le E_ka.lt sz2)
      have g_rb : n0 ≤ rb := Nat.le_trans (own_le O) sz2
      have sz_rb : h0.size ≤ rb := Nat.le_trans K0.1 sz2
      replace E_ka := E_ka.keep Kq
      replace V_ka := V_ka.keep Kq nin0
      replace E_b1 := E_b1.keep Kq
      replace F_value_b1 := F_value_b1.keep Kq nin0
      replace F_coder_b1 := F_coder_b1.keep Kq nin0
      replace F_count_b1 := F_count_b1.keep Kq nin0
      replace V_bg1 := V_bg1.keep Kq nin0
      replace E_bg1 := E_bg1.keep Kq
      replace O := O.keep Kq all0
      replace K0 := K0.trans Kq all0
      refine own_viaT (g' := (mkF m 115 (own_L9 ka b1 ka 2 2 k1 v1) [(.ref rr)])) st ?_
      refine own_retW X hx hlk Bd.returns rfl (Or.inr (Or.inr (Or.inr (Or.inr ⟨rfl, rfl, rfl⟩)))) (hb hby ep10m2_d115) (by decide) (by decide) ?_
      rw [eT]
      exact ⟨rr, rb, kr, _, _, rfl, N, K0, sz_rr, sz_rb, E_rr, F_value_rr, F_coder_rr, V_rb, Or.inr (Or.inr (Or.inl ⟨cd0, cd1, rfl, rfl⟩))⟩
    · refine own_suff (T' := T) (g' := (mkF m 70 (own_L9 ka b1 ka 2 1 k1 v1) [])) (fun kk_ => ?_) ?_
      · rcases own_pe cd1 with q_ | ⟨q_, r_⟩ | ⟨q_, r_, u_⟩
        · refine own_via (g' := (mkF m 70 (own_L9 ka b1 ka 2 1 k1 v1) [])) (fun t_ k_ => XS.iload X.here hx rfl (hb hby ep10m2_d38) rfl (XS.bipush X.here hx rfl (hb hby ep10m2_d40) (XS.icmpYes X.here hx rfl (pc0 := 42) (pc' := 70) rfl (hb hby ep10m2_d42) rfl (tlt q_).1 (by decide) (by decide) k_))) ?_
          exact kk_
        · refine own_via (g' := (mkF m 70 (own_L9 ka b1 ka 2 1 k1 v1) [])) (fun t_ k_ => XS.iload X.here hx rfl (hb hby ep10m2_d38) rfl (XS.bipush X.here hx rfl (hb hby ep10m2_d40) (XS.icmpNo X.here hx rfl (hb hby ep10m2_d42) rfl (flt q_).1 (XS.iload X.here hx rfl (hb hby ep10m2_d45) rfl (XS.bipush X.here hx rfl (hb hby ep10m2_d47) (XS.icmpYes X.here hx rfl (pc0 := 49) (pc' := 70) rfl (hb hby ep10m2_d49) rfl (tlt r_).2.2.1 (by decide) (by decide) k_)))))) ?_
          exact kk_
        · refine own_via (g' := (mkF m 70 (own_L9 ka b1 ka 2 1 k1 v1) [])) (fun t_ k_ => XS.iload X.here hx rfl (hb hby ep10m2_d38) rfl (XS.bipush X.here hx rfl (hb hby ep10m2_d40) (XS.icmpNo X.here hx rfl (hb hby ep10m2_d42) rfl (flt q_).1 (XS.iload X.here hx rfl (hb hby ep10m2_d45) rfl (XS.bipush X.here hx rfl (hb hby ep10m2_d47) (XS.icmpNo X.here hx rfl (hb hby ep10m2_d49) rfl (flt r_).2.2.1 (XS.iload X.here hx rfl (hb hby ep10m2_d52) rfl (XS.bipush X.here hx rfl (hb hby ep10m2_d54) (XS.icmpYes X.here hx rfl (pc0 := 56) (pc' := 70) rfl (hb hby ep10m2_d56) rfl (teq u_).1 (by decide) (by decide) k_))))))))) ?_
          exact kk_
      refine own_via (g' := (mkF m 73 (own_L9 ka b1 ka 2 1 k1 v1) [(.int 92), (.ref b1)])) (fun t_ k_ => XS.aloadN X.here hx rfl (hb hby ep10m2_d70) rfl rfl (XS.bipush X.here hx rfl (hb hby ep10m2_d71) k_)) ?_
      obtain ⟨cq, kq, qa, qb, qc⟩ := isOf hZ eT E_b1
      obtain ⟨_, _, ⟨T, Lq, kq, nq⟩, -, X, ⟨Lc, hQ, lq, yq, zq⟩, st⟩ := X.virtualBack hx (y := own_y25) (z := own_y25) hown (mvT hZ (hw _ (own_w 26 rfl))) (mvT hZ (hw _ (own_w 27 rfl))) (notFace_of_selects (args := #[]) (mvT hZ (hw _ (own_w 29 rfl)))) (mvT hZ (hw _ (own_w 29 rfl))) (mvT hZ (hw _ (own_w 28 rfl))) (by decide) (backOf (W := 0) (own_sappN l Z a0 hw [] b1 (92 : Int32) bg1 kg1 (4 : Int32) (6 : Int32) [(.int (own_sb (92 : Int32))), (.int (own_sb (120 : Int32))), (.int (own_sb (own_hx (v0 / (16 : Int32))))), (.int (own_sb (own_hx (v0 % (16 : Int32)))))] zc h15 n0 O E_b1 F_value_b1 F_coder_b1 F_count_b1 E_bg1 V_bg1 (by decide) (by decide) rfl g_b1 g_bg1 (by decide) S_C hzc) hZ (hw _ (own_w 30 rfl)) (hw _ (own_w 7 rfl)) (by decide) (by decide)) qa qc (g := (mkF m 73 (own_L9 ka b1 ka 2 1 k1 v1) [(.int 92), (.ref b1)])) rfl (by rw [hml]; rfl) (Steps.refl _) (argsL := [(.int 92)]) (rest := []) (lenOf own_pd18 rfl) rfl (by show 2 * 0 + _ ≤ _; exact Nat.le_of_eq rfl) (hb hby ep10m2_d73) (fun _ _ => ⟨rfl, eT, (by decide : 3 + 0 ≤ _), (by decide : 25 + 0 ≤ _)⟩)
      dsimp only [Pt.U, Pt.locs, Pt.cells, Pt.slots] at X lq yq zq st hQ
      subst lq yq zq
      obtain ⟨rfl, Nq, Kq, F_value_b1, F_coder_b1, F_count_b1, V_bg1⟩ := hQ
      replace N := Fr.app N Nq
      obtain ⟨h18, eT⟩ : ∃ z, T.heap = z := ⟨_, rfl⟩
      rw [eT] at Kq F_value_b1 F_coder_b1 F_count_b1 V_bg1
      replace E_ka := E_ka.keep Kq
      replace V_ka := V_ka.keep Kq (ninS ne_ka_b1 (ninS ne_ka_bg1 nin0))
      replace E_b1 := E_b1.keep Kq
      replace E_bg1 := E_bg1.keep Kq
      replace O := O.keep Kq (allS g_b1 (allS g_bg1 all0))
      replace K0 := K0.trans Kq (allS (Or.inr sz_b1) (allS (Or.inr sz_bg1) all0))
      refine own_viaT (g' := (mkF m 76 (own_L9 ka b1 ka 2 1 k1 v1) [(.ref b1)])) st ?_
      replace F_count_b1 : Fld Z h18 b1 "java/lang/AbstractStringBuilder" "count" "I" (.int 5) := F_count_b1
      replace V_bg1 : Arv Z h18 bg1 kg1 .byte (6 : Int32) [(.int (own_sb (92 : Int32))), (.int (own_sb (120 : Int32))), (.int (own_sb (own_hx (v0 / (16 : Int32))))), (.int (own_sb (own_hx (v0 % (16 : Int32))))), (.int (own_sb (92 : Int32)))] (.int 0) := V_bg1
      refine own_via (g' := (mkF m 78 (own_L9 ka b1 ka 2 1 k1 v1) [(.int 120), (.ref b1)])) (fun t_ k_ => XS.bipush X.here hx rfl (hb hby ep10m2_d76) k_) ?_
      obtain ⟨cq, kq, qa, qb, qc⟩ := isOf hZ eT E_b1
      obtain ⟨_, _, ⟨T, Lq, kq, nq⟩, -, X, ⟨Lc, hQ, lq, yq, zq⟩, st⟩ := X.virtualBack hx (y := own_y25) (z := own_y25) hown (mvT hZ (hw _ (own_w 26 rfl))) (mvT hZ (hw _ (own_w 27 rfl))) (notFace_of_selects (args := #[]) (mvT hZ (hw _ (own_w 29 rfl)))) (mvT hZ (hw _ (own_w 29 rfl))) (mvT hZ (hw _ (own_w 28 rfl))) (by decide) (backOf (W := 0) (own_sappN l Z a0 hw [] b1 (120 : Int32) bg1 kg1 (5 : Int32) (6 : Int32) [(.int (own_sb (92 : Int32))), (.int (own_sb (120 : Int32))), (.int (own_sb (own_hx (v0 / (16 : Int32))))), (.int (own_sb (own_hx (v0 % (16 : Int32))))), (.int (own_sb (92 : Int32)))] zc h18 n0 O E_b1 F_value_b1 F_coder_b1 F_count_b1 E_bg1 V_bg1 (by decide) (by decide) rfl g_b1 g_bg1 (by decide) S_C hzc) hZ (hw _ (own_w 30 rfl)) (hw _ (own_w 7 rfl)) (by decide) (by decide)) qa qc (g := (mkF m 78 (own_L9 ka b1 ka 2 1 k1 v1) [(.int 120), (.ref b1)])) rfl (by rw [hml]; rfl) (Steps.refl _) (argsL := [(.int 120)]) (rest := []) (lenOf own_pd18 rfl) rfl (by show 2 * 0 + _ ≤ _; exact Nat.le_of_eq rfl) (hb hby ep10m2_d78) (fun _ _ => ⟨rfl, eT, (by decide : 3 + 0 ≤ _), (by decide : 25 + 0 ≤ _)⟩)
      dsimp only [Pt.U, Pt.locs, Pt.cells, Pt.slots] at X lq yq zq st hQ
      subst lq yq zq
      obtain ⟨rfl, Nq, Kq, F_value_b1, F_coder_b1, F_count_b1, V_bg1⟩ := hQ
      replace N := Fr.app N Nq
      obtain ⟨h19, eT⟩ : ∃ z, T.heap = z := ⟨_, rfl⟩
      rw [eT] at Kq F_value_b1 F_coder_b1 F_count_b1 V_bg1
      replace E_ka := E_ka.keep Kq
      replace V_ka := V_ka.keep Kq (ninS ne_ka_b1 (ninS ne_ka_bg1 nin0))
      replace E_b1 := E_b1.keep Kq
      replace E_bg1 := E_bg1.keep Kq
      replace O := O.keep Kq (allS g_b1 (allS g_bg1 all0))
      replace K0 := K0.trans Kq (allS (Or.inr sz_b1) (allS (Or.inr sz_bg1) all0))
      refine own_viaT (g' := (mkF m 81 (own_L9 ka b1 ka 2 1 k1 v1) [(.ref b1)])) st ?_
      replace F_count_b1 : Fld Z h19 b1 "java/lang/AbstractStringBuilder" "count" "I" (.int 6) := F_count_b1
      replace V_bg1 : Arv Z h19 bg1 kg1 .byte (6 : Int32) [(.int (own_sb (92 : Int32))), (.int (own_sb (120 : Int32))), (.int (own_sb (own_hx (v0 / (16 : Int32))))), (.int (own_sb (own_hx (v0 % (16 : Int32))))), (.int (own_sb (92 : Int32))), (.int (own_sb (120 : Int32)))] (.int 0) := V_bg1
      obtain ⟨T, X, eT, st⟩ := getS2 X hx hZ hown (host := "") (Or.inl (hw _ (own_w 78 rfl))) Via.refl eT (S_H.ext O.2) (g := (mkF m 81 (own_L9 ka b1 ka 2 1 k1 v1) [(.ref b1)])) rfl (hb hby ep10m2_d81)
      refine own_via (g' := (mkF m 84 (own_L9 ka b1 ka 2 1 k1 v1) [(.ref wH), (.ref b1)])) st ?_
      refine own_via (g' := (mkF m 88 (own_L9 ka b1 ka 2 1 k1 v1) [(.int ((v1.toUInt32 >>> ((4 : Int32) &&& 31).toUInt32).toInt32)), (.ref wH), (.ref b1)])) (fun t_ k_ => XS.iload X.here hx rfl (hb hby ep10m2_d84) rfl (XS.iconst X.here hx rfl (hb hby ep10m2_d86) (XS.iushr X.here hx rfl (hb hby ep10m2_d87) rfl k_))) ?_
      rw [(own_hi bd1.1 bd1.2).1]
      have V_wH := VO_wH.ext O.2
      obtain ⟨cl_, Ar_, -, Sz_, Nn_, Hs_, -⟩ := id V_wH
      have hin_ : ¬ ((v1 / (16 : Int32)) < 0 ∨ cl_.slots.size ≤ ((v1 / (16 : Int32))).toNatClampNeg) := inb_of Sz_ (own_in16 ((own_hi bd1.1 bd1.2).2.1) ((own_hi bd1.1 bd1.2).2.2))
      have hat_ : cl_.slots[((v1 / (16 : Int32))).toNatClampNeg]? = some (.int (own_hx (v1 / (16 : Int32)))) := Hs_.at hin_ (hhx _ ((own_hi bd1.1 bd1.2).2.1) ((own_hi bd1.1 bd1.2).2.2))
      refine own_via (g' := (mkF m 89 (own_L9 ka b1 ka 2 1 k1 v1) [(.int (own_hx (v1 / (16 : Int32)))), (.ref b1)])) (fun t_ k_ => X.caload hx (j := (v1 / (16 : Int32))) (v := (.int (own_hx (v1 / (16 : Int32))))) (by rw [eT]; exact Ar_.1) (State.isArrayOf_alike hZ.alike Ar_.2.1) Ar_.2.2 hin_ hat_ (g := (mkF m 88 (own_L9 ka b1 ka 2 1 k1 v1) [(.int (v1 / (16 : Int32))), (.ref wH), (.ref b1)])) rfl rfl (hb hby ep10m2_d88) _ k_) ?_
      clear V_wH
      obtain ⟨cq, kq, qa, qb, qc⟩ := isOf hZ eT E_b1
      obtain ⟨_, _, ⟨T, Lq, kq, nq⟩, -, X, ⟨Lc, hQ, lq, yq, zq⟩, st⟩ := X.virtualBack hx (y := own_y25) (z := own_y25) hown (mvT hZ (hw _ (own_w 26 rfl))) (mvT hZ (hw _ (own_w 27 rfl))) (notFace_of_selects (args := #[]) (mvT hZ (hw _ (own_w 29 rfl)))) (mvT hZ (hw _ (own_w 29 rfl))) (mvT hZ (hw _ (own_w 28 rfl))) (by decide) (backOf (W := 0) (own_sappG l Z a0 hw [] b1 (own_hx (v1 / (16 : Int32))) bg1 kg1 (6 : Int32) [(.int (own_sb (92 : Int32))), (.int (own_sb (120 : Int32))), (.int (own_sb (own_hx (v0 / (16 : Int32))))), (.int (own_sb (own_hx (v0 % (16 : Int32))))), (.int (own_sb (92 : Int32))), (.int (own_sb (120 : Int32)))] zc h19 n0 O E_b1 F_value_b1 F_coder_b1 F_count_b1 E_bg1 V_bg1 (by decide) rfl g_b1 (own_le255 (own_hxB ((own_hi bd1.1 bd1.2).2.1) ((own_hi bd1.1 bd1.2).2.2)).2) S_C hzc) hZ (hw _ (own_w 30 rfl)) (hw _ (own_w 7 rfl)) (by decide) (by decide)) qa qc (g := (mkF m 89 (own_L9 ka b1 ka 2 1 k1 v1) [(.int (own_hx (v1 / (16 : Int32)))), (.ref b1)])) rfl (by rw [hml]; rfl) (Steps.refl _) (argsL := [(.int (own_hx (v1 / (16 : Int32))))]) (rest := []) (lenOf own_pd18 rfl) rfl (by show 2 * 0 + _ ≤ _; exact Nat.le_of_eq rfl) (hb hby ep10m2_d89) (fun _ _ => ⟨rfl, eT, (by decide : 3 + 1 ≤ _), (by decide : 25 + 18 ≤ _)⟩)
      dsimp only [Pt.U, Pt.locs, Pt.cells, Pt.slots] at X lq yq zq st hQ
      subst lq yq zq
      obtain ⟨bg2, kg2, rfl, Nq, Kq, szq, F_value_b1, F_coder_b1, F_count_b1, V_bg2, E_bg2⟩ := hQ
      replace N := Fr.app N Nq
      obtain ⟨h20, eT⟩ : ∃ z, T.heap = z := ⟨_, rfl⟩
      rw [eT] at Kq F_value_b1 F_coder_b1 F_count_b1 V_bg2 E_bg2
      have ne_b1_bg2 : b1 ≠ bg2 := Nat.ne_of_lt (Nat.lt_of_lt_of_le E_b1.lt szq)
      have ne_bg1_bg2 : bg1 ≠ bg2 := Nat.ne_of_lt (Nat.lt_of_lt_of_le V_bg1.lt szq)
      have ne_ka_bg2 : ka ≠ bg2 := Nat.ne_of_lt (Nat.lt_of_lt_of_le E_ka.lt szq)
      have g_bg2 : n0 ≤ bg2 := Nat.le_trans (own_le O) szq
      have sz_bg2 : h0.size ≤ bg2 := Nat.le_trans K0.1 szq
      replace E_ka := E_ka.keep Kq
      replace V_ka := V_ka.keep Kq (ninS ne_ka_b1 nin0)
      replace E_b1 := E_b1.keep Kq
      replace V_bg1 := V_bg1.keep Kq (ninS (Ne.symm ne_b1_bg1) nin0)
      replace E_bg1 := E_bg1.keep Kq
      replace O := O.keep Kq (allS g_b1 all0)
      replace K0 := K0.trans Kq (allS (Or.inr sz_b1) all0)
      refine own_viaT (g' := (mkF m 92 (own_L9 ka b1 ka 2 1 k1 v1) [(.ref b1)])) st ?_
      replace F_count_b1 : Fld Z h20 b1 "java/lang/AbstractStringBuilder" "count" "I" (.int 7) := F_count_b1
      replace V_bg2 : Arv Z h20 bg2 kg2 .byte (14 : Int32) [(.int (own_sb (92 : Int32))), (.int (own_sb (120 : Int32))), (.int (own_sb (own_hx (v0 / (16 : Int32))))), (.int (own_sb (own_hx (v0 % (16 : Int32))))), (.int (own_sb (92 : Int32))), (.int (own_sb (120 : Int32))), (.int (own_sb (own_hx (v1 / (16 : Int32)))))] (.int 0) := V_bg2
      obtain ⟨T, X, eT, st⟩ := getS2 X hx hZ hown (host := "") (Or.inl (hw _ (own_w 78 rfl))) Via.refl eT (S_H.ext O.2) (g := (mkF m 92 (own_L9 ka b1 ka 2 1 k1 v1) [(.ref b1)])) rfl (hb hby ep10m2_d92)
      refine own_via (g' := (mkF m 95 (own_L9 ka b1 ka 2 1 k1 v1) [(.ref wH), (.ref b1)])) st ?_
      refine own_via (g' := (mkF m 100 (own_L9 ka b1 ka 2 1 k1 v1) [(.int (v1 &&& (15 : Int32))), (.ref wH), (.ref b1)])) (fun t_ k_ => XS.iload X.here hx rfl (hb hby ep10m2_d95) rfl (XS.bipush X.here hx rfl (hb hby ep10m2_d97) (XS.iand X.here hx rfl (hb hby ep10m2_d99) rfl k_))) ?_
      rw [(own_lo bd1.1 bd1.2).1]
      have V_wH := VO_wH.ext O.2
      obtain ⟨cl_, Ar_, -, Sz_, Nn_, Hs_, -⟩ := id V_wH
      have hin_ : ¬ ((v1 % (16 : Int32)) < 0 ∨ cl_.slots.size ≤ ((v1 % (16 : Int32))).toNatClampNeg) := inb_of Sz_ (own_in16 ((own_lo bd1.1 bd1.2).2.1) ((own_lo bd1.1 bd1.2).2.2))
      have hat_ : cl_.slots[((v1 % (16 : Int32))).toNatClampNeg]? = some (.int (own_hx (v1 % (16 : Int32)))) := Hs_.at hin_ (hhx _ ((own_lo bd1.1 bd1.2).2.1) ((own_lo bd1.1 bd1.2).2.2))
      refine own_via (g' := (mkF m 101 (own_L9 ka b1 ka 2 1 k1 v1) [(.int (own_hx (v1 % (16 : Int32)))), (.ref b1)])) (fun t_ k_ => X.caload hx (j := (v1 % (16 : Int32))) (v := (.int (own_hx (v1 % (16 : Int32))))) (by rw [eT]; exact Ar_.1) (State.isArrayOf_alike hZ.alike Ar_.2.1) Ar_.2.2 hin_ hat_ (g := (mkF m 100 (own_L9 ka b1 ka 2 1 k1 v1) [(.int (v1 % (16 : Int32))), (.ref wH), (.ref b1)])) rfl rfl (hb hby ep10m2_d100) _ k_) ?_
      clear V_wH
      obtain ⟨cq, kq, qa, qb, qc⟩ := isOf hZ eT E_b1
      obtain ⟨_, _, ⟨T, Lq, kq, nq⟩, -, X, ⟨Lc, hQ, lq, yq, zq⟩, st⟩ := X.virtualBack hx (y := own_y25) (z := own_y25) hown (mvT hZ (hw _ (own_w 26 rfl))) (mvT hZ (hw _ (own_w 27 rfl))) (notFace_of_selects (args := #[]) (mvT hZ (hw _ (own_w 29 rfl)))) (mvT hZ (hw _ (own_w 29 rfl))) (mvT hZ (hw _ (own_w 28 rfl))) (by decide) (backOf (W := 0) (own_sappN l Z a0 hw [] b1 (own_hx (v1 % (16 : Int32))) bg2 kg2 (7 : Int32) (14 : Int32) [(.int (own_sb (92 : Int32))), (.int (own_sb (120 : Int32))), (.int (own_sb (own_hx (v0 / (16 : Int32))))), (.int (own_sb (own_hx (v0 % (16 : Int32))))), (.int (own_sb (92 : Int32))), (.int (own_sb (120 : Int32))), (.int (own_sb (own_hx (v1 / (16 : Int32)))))] zc h20 n0 O E_b1 F_value_b1 F_coder_b1 F_count_b1 E_bg2 V_bg2 (by decide) (by decide) rfl g_b1 g_bg2 (own_le255 (own_hxB ((own_lo bd1.1 bd1.2).2.1) ((own_lo bd1.1 bd1.2).2.2)).2) S_C hzc) hZ (hw _ (own_w 30 rfl)) (hw _ (own_w 7 rfl)) (by decide) (by decide)) qa qc (g := (mkF m 101 (own_L9 ka b1 ka 2 1 k1 v1) [(.int (own_hx (v1 % (16 : Int32)))), (.ref b1)])) rfl (by rw [hml]; rfl) (Steps.refl _) (argsL := [(.int (own_hx (v1 % (16 : Int32))))]) (rest := []) (lenOf own_pd18 rfl) rfl (by show 2 * 0 + _ ≤ _; exact Nat.le_of_eq rfl) (hb hby ep10m2_d101) (fun _ _ => ⟨rfl, eT, (by decide : 4 + 0 ≤ _), (by decide : 43 + 0 ≤ _)⟩)
      dsimp only [Pt.U, Pt.locs, Pt.cells, Pt.slots] at X lq yq zq st hQ
      subst lq yq zq
      obtain ⟨rfl, Nq, Kq, F_value_b1, F_coder_b1, F_count_b1, V_bg2⟩ := hQ
      replace N := Fr.app N Nq
      obtain ⟨h21, eT⟩ : ∃ z, T.heap = z := ⟨_, rfl⟩
      rw [eT] at Kq F_value_b1 F_coder_b1 F_count_b1 V_bg2
      replace E_ka := E_ka.keep Kq
      replace V_ka := V_ka.keep Kq (ninS ne_ka_b1 (ninS ne_ka_bg2 nin0))
      replace E_b1 := E_b1.keep Kq
      replace E_bg2 := E_bg2.keep Kq
      replace O := O.keep Kq (allS g_b1 (allS g_bg2 all0))
      replace K0 := K0.trans Kq (allS (Or.inr sz_b1) (allS (Or.inr sz_bg2) all0))
      refine own_viaT (g' := (mkF m 104 (own_L9 ka b1 ka 2 1 k1 v1) [(.ref b1)])) st ?_
      replace F_count_b1 : Fld Z h21 b1 "java/lang/AbstractStringBuilder" "count" "I" (.int 8) := F_count_b1
      replace V_bg2 : Arv Z h21 bg2 kg2 .byte (14 : Int32) [(.int (own_sb (92 : Int32))), (.int (own_sb (120 : Int32))), (.int (own_sb (own_hx (v0 / (16 : Int32))))), (.int (own_sb (own_hx (v0 % (16 : Int32))))), (.int (own_sb (92 : Int32))), (.int (own_sb (120 : Int32))), (.int (own_sb (own_hx (v1 / (16 : Int32))))), (.int (own_sb (own_hx (v1 % (16 : Int32)))))] (.int 0) := V_bg2
      refine own_via (g' := (mkF m 18 (own_L9 ka b1 ka 2 ((1 : Int32) + (1 : Int32)) k1 v1) [])) (fun t_ k_ => XS.pop X.here hx rfl (hb hby ep10m2_d104) rfl rfl (XS.iinc X.here hx rfl (hb hby ep10m2_d105) rfl (l' := (own_L9 ka b1 ka 2 ((1 : Int32) + (1 : Int32)) k1 v1)) rfl (XS.goto X.here hx rfl (pc0 := 108) (pc' := 18) rfl (hb hby ep10m2_d108) (by decide) (by decide) k_))) ?_
      rw [(by decide : ((1 : Int32) + (1 : Int32)) = (2 : Int32))]
      refine own_via (g' := (mkF m 112 (own_L9 ka b1 ka 2 2 k1 v1) [(.ref b1)])) (fun t_ k_ => XS.iload X.here hx rfl (hb hby ep10m2_d18) rfl (XS.iloadN X.here hx rfl (hb hby ep10m2_d20) rfl (XS.icmpYes X.here hx rfl (pc0 := 21) (pc' := 111) rfl (hb hby ep10m2_d21) rfl (flt (by decide : ¬ ((2 : Int32) < (2 : Int32)))).2.1 (by decide) (by decide) (XS.aloadN X.here hx rfl (hb hby ep10m2_d111) rfl rfl k_)))) ?_
      obtain ⟨cq, kq, qa, qb, qc⟩ := isOf hZ eT E_b1
      obtain ⟨_, _, ⟨T, Lq, kq, nq⟩, -, X, ⟨Lc, hQ, lq, yq, zq⟩, st⟩ := X.virtualBack hx (y := own_y24) (z := own_y24) hown (mvT hZ (hw _ (own_w 80 rfl))) (mvT hZ (hw _ (own_w 81 rfl))) (notFace_of_selects (args := #[]) (mvT hZ (hw _ (own_w 83 rfl)))) (mvT hZ (hw _ (own_w 83 rfl))) (mvT hZ (hw _ (own_w 82 rfl))) (by decide) (backOf (W := 0) (own_ts l Z a0 hw [] b1 bg2 kg2 (8 : Int32) (14 : Int32) [(.int (own_sb (92 : Int32))), (.int (own_sb (120 : Int32))), (.int (own_sb (own_hx (v0 / (16 : Int32))))), (.int (own_sb (own_hx (v0 % (16 : Int32))))), (.int (own_sb (92 : Int32))), (.int (own_sb (120 : Int32))), (.int (own_sb (own_hx (v1 / (16 : Int32))))), (.int (own_sb (own_hx (v1 % (16 : Int32)))))] zc h21 n0 O E_b1 F_value_b1 F_coder_b1 F_count_b1 E_bg2 V_bg2 (by decide) rfl S_C hzc) hZ (hw _ (own_w 84 rfl)) (hw _ (own_w 7 rfl)) (by decide) (by decide)) qa qc (g := (mkF m 112 (own_L9 ka b1 ka 2 2 k1 v1) [(.ref b1)])) rfl (by rw [hml]; rfl) (Steps.refl _) (argsL := []) (rest := []) (lenOf own_pd17 rfl) rfl (by show 2 * 0 + _ ≤ _; exact Nat.le_of_eq rfl) (hb hby ep10m2_d112) (fun _ _ => ⟨rfl, eT, (by decide : 4 + 2 ≤ _), (by decide : 43 + 22 ≤ _)⟩)
      dsimp only [Pt.U, Pt.locs, Pt.cells, Pt.slots] at X lq yq zq st hQ
      subst lq yq zq
      obtain ⟨rr, rb, kr, rfl, Nq, Kq, sz1, sz2, E_rr, F_value_rr, F_coder_rr, V_rb⟩ := hQ
      replace N := Fr.app N Nq
      obtain ⟨h22, eT⟩ : ∃ z, T.heap = z := ⟨_, rfl⟩
      rw [eT] at Kq E_rr F_value_rr F_coder_rr V_rb
      have ne_b1_rr : b1 ≠ rr := Nat.ne_of_lt (Nat.lt_of_lt_of_le E_b1.lt sz1)
      have ne_bg2_rr : bg2 ≠ rr := Nat.ne_of_lt (Nat.lt_of_lt_of_le V_bg2.lt sz1)
      have ne_ka_rr : ka ≠ rr := Nat.ne_of_lt (Nat.lt_of_lt_of_le E_ka.lt sz1)
      have g_rr : n0 ≤ rr := Nat.le_trans (own_le O) sz1
      have sz_rr : h0.size ≤ rr := Nat.le_trans K0.1 sz1
      have ne_b1_rb : b1 ≠ rb := Nat.ne_of_lt (Nat.lt_of_lt_of_le E_b1.lt sz2)
      have ne_bg2_rb : bg2 ≠ rb := Nat.ne_of_lt (Nat.lt_of_lt_of_le V_bg2.lt sz2)
      have ne_ka_rb : ka ≠ rb := Nat.ne_of_lt (Nat.lt_of_lt_of_le E_ka.lt sz2)
      have g_rb : n0 ≤ rb := Nat.le_trans (own_le O) sz2
      have sz_rb : h0.size ≤ rb := Nat.le_trans K0.1 sz2
      replace E_ka := E_ka.keep Kq
      replace V_ka := V_ka.keep Kq nin0
      replace E_b1 := E_b1.keep Kq
      replace F_value_b1 := F_value_b1.keep Kq nin0
      replace F_coder_b1 := F_coder_b1.keep Kq nin0
      replace F_count_b1 := F_count_b1.keep Kq nin0
      replace V_bg2 := V_bg2.keep Kq nin0
      replace E_bg2 := E_bg2.keep Kq
      replace O := O.keep Kq all0
      replace K0 := K0.trans Kq all0
      refine own_viaT (g' := (mkF m 115 (own_L9 ka b1 ka 2 2 k1 v1) [(.ref rr)])) st ?_
      refine own_retW X hx hlk Bd.returns rfl (Or.inr (Or.inr (Or.inr (Or.inr ⟨rfl, rfl, rfl⟩)))) (hb hby ep10m2_d115) (by decide) (by decide) ?_
      rw [eT]
      exact ⟨rr, rb, kr, _, _, rfl, N, K0, sz_rr, sz_rb, E_rr, F_value_rr, F_coder_rr, V_rb, Or.inr (Or.inr (Or.inr (⟨cd0, cd1, rfl, rfl⟩)))⟩
def own_E3 (v0 : Int32) (v1 : Int32) (v2 : Int32) (N : Int32) (cs : List Value) : Prop := ((¬ v0 < (32 : Int32) ∧ ¬ (126 : Int32) < v0 ∧ ¬ v0 = (92 : Int32)) ∧ (¬ v1 < (32 : Int32) ∧ ¬ (126 : Int32) < v1 ∧ ¬ v1 = (92 : Int32)) ∧ (¬ v2 < (32 : Int32) ∧ ¬ (126 : Int32) < v2 ∧ ¬ v2 = (92 : Int32)) ∧ N = (3 : Int32) ∧ cs = [(.int (own_sb v0)), (.int (own_sb v1)), (.int (own_sb v2))]) ∨ ((¬ v0 < (32 : Int32) ∧ ¬ (126 : Int32) < v0 ∧ ¬ v0 = (92 : Int32)) ∧ (¬ v1 < (32 : Int32) ∧ ¬ (126 : Int32) < v1 ∧ ¬ v1 = (92 : Int32)) ∧ ¬ (¬ v2 < (32 : Int32) ∧ ¬ (126 : Int32) < v2 ∧ ¬ v2 = (92 : Int32)) ∧ N = (6 : Int32) ∧ cs = [(.int (own_sb v0)), (.int (own_sb v1)), (.int (own_sb (92 : Int32))), (.int (own_sb (120 : Int32))), (.int (own_sb (own_hx (v2 / (16 : Int32))))), (.int (own_sb (own_hx (v2 % (16 : Int32)))))]) ∨ ((¬ v0 < (32 : Int32) ∧ ¬ (126 : Int32) < v0 ∧ ¬ v0 = (92 : Int32)) ∧ ¬ (¬ v1 < (32 : Int32) ∧ ¬ (126 : Int32) < v1 ∧ ¬ v1 = (92 : Int32)) ∧ (¬ v2 < (32 : Int32) ∧ ¬ (126 : Int32) < v2 ∧ ¬ v2 = (92 : Int32)) ∧ N = (6 : Int32) ∧ cs = [(.int (own_sb v0)), (.int (own_sb (92 : Int32))), (.int (own_sb (120 : Int32))), (.int (own_sb (own_hx (v1 / (16 : Int32))))), (.int (own_sb (own_hx (v1 % (16 : Int32))))), (.int (own_sb v2))]) ∨ ((¬ v0 < (32 : Int32) ∧ ¬ (126 : Int32) < v0 ∧ ¬ v0 = (92 : Int32)) ∧ ¬ (¬ v1 < (32 : Int32) ∧ ¬ (126 : Int32) < v1 ∧ ¬ v1 = (92 : Int32)) ∧ ¬ (¬ v2 < (32 : Int32) ∧ ¬ (126 : Int32) < v2 ∧ ¬ v2 = (92 : Int32)) ∧ N = (9 : Int32) ∧ cs = [(.int (own_sb v0)), (.int (own_sb (92 : Int32))), (.int (own_sb (120 : Int32))), (.int (own_sb (own_hx (v1 / (16 : Int32))))), (.int (own_sb (own_hx (v1 % (16 : Int32))))), (.int (own_sb (92 : Int32))), (.int (own_sb (120 : Int32))), (.int (own_sb (own_hx (v2 / (16 : Int32))))), (.int (own_sb (own_hx (v2 % (16 : Int32)))))]) ∨ (¬ (¬ v0 < (32 : Int32) ∧ ¬ (126 : Int32) < v0 ∧ ¬ v0 = (92 : Int32)) ∧ (¬ v1 < (32 : Int32) ∧ ¬ (126 : Int32) < v1 ∧ ¬ v1 = (92 : Int32)) ∧ (¬ v2 < (32 : Int32) ∧ ¬ (126 : Int32) < v2 ∧ ¬ v2 = (92 : Int32)) ∧ N = (6 : Int32) ∧ cs = [(.int (own_sb (92 : Int32))), (.int (own_sb (120 : Int32))), (.int (own_sb (own_hx (v0 / (16 : Int32))))), (.int (own_sb (own_hx (v0 % (16 : Int32))))), (.int (own_sb v1)), (.int (own_sb v2))]) ∨ (¬ (¬ v0 < (32 : Int32) ∧ ¬ (126 : Int32) < v0 ∧ ¬ v0 = (92 : Int32)) ∧ (¬ v1 < (32 : Int32) ∧ ¬ (126 : Int32) < v1 ∧ ¬ v1 = (92 : Int32)) ∧ ¬ (¬ v2 < (32 : Int32) ∧ ¬ (126 : Int32) < v2 ∧ ¬ v2 = (92 : Int32)) ∧ N = (9 : Int32) ∧ cs = [(.int (own_sb (92 : Int32))), (.int (own_sb (120 : Int32))), (.int (own_sb (own_hx (v0 / (16 : Int32))))), (.int (own_sb (own_hx (v0 % (16 : Int32))))), (.int (own_sb v1)), (.int (own_sb (92 : Int32))), (.int (own_sb (120 : Int32))), (.int (own_sb (own_hx (v2 / (16 : Int32))))), (.int (own_sb (own_hx (v2 % (16 : Int32)))))]) ∨ (¬ (¬ v0 < (32 : Int32) ∧ ¬ (126 : Int32) < v0 ∧ ¬ v0 = (92 : Int32)) ∧ ¬ (¬ v1 < (32 : Int32) ∧ ¬ (126 : Int32) < v1 ∧ ¬ v1 = (92 : Int32)) ∧ (¬ v2 < (32 : Int32) ∧ ¬ (126 : Int32) < v2 ∧ ¬ v2 = (92 : Int32)) ∧ N = (9 : Int32) ∧ cs = [(.int (own_sb (92 : Int32))), (.int (own_sb (120 : Int32))), (.int (own_sb (own_hx (v0 / (16 : Int32))))), (.int (own_sb (own_hx (v0 % (16 : Int32))))), (.int (own_sb (92 : Int32))), (.int (own_sb (120 : Int32))), (.int (own_sb (own_hx (v1 / (16 : Int32))))), (.int (own_sb (own_hx (v1 % (16 : Int32))))), (.int (own_sb v2))]) ∨ (¬ (¬ v0 < (32 : Int32) ∧ ¬ (126 : Int32) < v0 ∧ ¬ v0 = (92 : Int32)) ∧ ¬ (¬ v1 < (32 : Int32) ∧ ¬ (126 : Int32) < v1 ∧ ¬ v1 = (92 : Int32)) ∧ ¬ (¬ v2 < (32 : Int32) ∧ ¬ (126 : Int32) < v2 ∧ ¬ v2 = (92 : Int32)) ∧ N = (12 : Int32) ∧ cs = [(.int (own_sb (92 : Int32))), (.int (own_sb (120 : Int32))), (.int (own_sb (own_hx (v0 / (16 : Int32))))), (.int (own_sb (own_hx (v0 % (16 : Int32))))), (.int (own_sb (92 : Int32))), (.int (own_sb (120 : Int32))), (.int (own_sb (own_hx (v1 / (16 : Int32))))), (.int (own_sb (own_hx (v1 % (16 : Int32))))), (.int (own_sb (92 : Int32))), (.int (own_sb (120 : Int32))), (.int (own_sb (own_hx (v2 / (16 : Int32))))), (.int (own_sb (own_hx (v2 % (16 : Int32)))))])
theorem own_esc3_pn : plainFor (⟨"com/example/rows_to_regions/rowstoregions/KeyText", "escape", "([B)Ljava/lang/String;"⟩ : MethodName) = true := by first | exact plainFor_of_name (by first | (simp [plainName, overriddenIn]; done) | decide +kernel) | decide +kernel | exact Jvm.Free.JP.mathPlain rfl (by decide +kernel)
theorem own_esc3_ef (m : MethodId) (x0 : Addr) : entryFrame m #[(.ref x0)] 7 = mkF m 0 #[.val (.ref x0), .unset, .unset, .unset, .unset, .unset, .unset] [] := by first | (simp [entryFrame, mkF, argsToLocals, Value.category]; done) | rfl
def own_esc3_Q (Z : State) (ka : Addr) (kk : ClassId) (k0 : Int32) (k1 : Int32) (k2 : Int32) (v0 : Int32) (v1 : Int32) (v2 : Int32) (wH : Addr) (kH : ClassId) (hv : List Value) (zc : Int32) (h0 : Heap) (n0 : Nat) (v : Option Value) (h : Heap) (L : List Loc) : Prop := ∃ r b kb N cs, v = some (.ref r) ∧ Fr n0 L ∧ Keep h0 h [] ∧ h0.size ≤ r ∧ h0.size ≤ b ∧ Exa Z h r "java/lang/String" ∧ Fld Z h r "java/lang/String" "value" "[B" (.ref b) ∧ Fld Z h r "java/lang/String" "coder" "B" (.int 0) ∧ Arv Z h b kb .byte N cs (.int 0) ∧ own_E3 v0 v1 v2 N cs
set_option maxRecDepth 65536 in
set_option maxHeartbeats 40000000 in
theorem own_esc3 (l : Launch) (Z : State) (a0 : Array Value) (hw : ∀ d ∈ tables_1, d.before a0 Z = true) (ws : List Jvm.Cond) (ka : Addr) (kk : ClassId) (k0 : Int32) (k1 : Int32) (k2 : Int32) (v0 : Int32) (v1 : Int32) (v2 : Int32) (wH : Addr) (kH : ClassId) (hv : List Value) (zc : Int32) (h0 : Heap) (n0 : Nat) (O : Old Z n0 h0) (E_ka : Exa Z h0 ka "[B") (V_ka : Arv Z h0 ka kk .byte (3 : Int32) [(.int k0), (.int k1), (.int k2)] (.int 0)) (ek0 : (k0 &&& (255 : Int32)) = v0) (bd0 : 0 ≤ v0.toInt ∧ v0.toInt < 256) (ek1 : (k1 &&& (255 : Int32)) = v1) (bd1 : 0 ≤ v1.toInt ∧ v1.toInt < 256) (ek2 : (k2 &&& (255 : Int32)) = v2) (bd2 : 0 ≤ v2.toInt ∧ v2.toInt < 256) (S_H : Sta Z Z.heap "com/example/rows_to_regions/rowstoregions/KeyText" "HEX_DIGITS" "[C" (.ref wH)) (VO_wH : Arv Z Z.heap wH kH .char (16 : Int32) hv (.int 0)) (hhx : ∀ d : Int32, 0 ≤ d.toInt → d.toInt < 16 → hv.getD d.toNatClampNeg (.int 0) = .int (own_hx d)) (S_C : Sta Z Z.heap "java/lang/String" "COMPACT_STRINGS" "Z" (.int zc)) (hzc : ¬ zc = 0) :
    MetFree l (⟨"com/example/rows_to_regions/rowstoregions/KeyText", "escape", "([B)Ljava/lang/String;"⟩ : MethodName) (head1 (Jvm.Cond.code (⟨"com/example/rows_to_regions/rowstoregions/KeyText", "escape", "([B)Ljava/lang/String;"⟩ : MethodName) prog_10_method_2_code 7 (some (.object "java/lang/String")) :: ws) ({ frames := 6, cells := 6, slots := 65, locals := 91 } : Room)) (fun a U => a = #[(.ref ka)] ∧ Z.Warmed39 U.vm ∧ U.heap = h0) (fun _ _ _ _ _ => True) (fun _ U o U' => ∃ v L, o = .returned v ∧ own_esc3_Q Z ka kk k0 k1 k2 v0 v1 v2 wH kH hv zc h0 n0 v U'.heap L ∧ FrameEnd U o U' L ({ frames := 6, cells := 6, slots := 65, locals := 91 } : Room).cells ({ frames := 6, cells := 6, slots := 65, locals := 91 } : Room).slots) := by
  refine MetFree.of_bodySF own_esc3_pn hisR ?_
  intro p e s m args below meth c s₁ Bd hml0 hP hK
  obtain ⟨rfl, hZ, hh⟩ := hP
  have hx := Bd.exec
  have hby := Bd.bytes
  have hlk := Bd.notSynchronized
  have hml : c.maxLocals = 7 := hml0
  have hown : s.vm.findClass "com/example/rows_to_regions/rowstoregions/KeyText" = some m.cls := findClass_of_methodNamed Bd.named
  have hnm := (name_of_methodNamed Bd.named Bd.method).1
  have X : Stand p l e ({ frames := 6, cells := 6, slots := 65, locals := 91 } : Room) s m #[(.ref ka)] below meth c s₁ [] 0 0 := Stand.of_body Bd
  have eT : s₁.heap = h0 := by rw [← hh, Bd.state]; rfl
  have N := Fr.nil n0
  have K0 := Keep.refl h0 []
  show own_Ends p e below (own_Post s below (own_esc3_Q Z ka kk k0 k1 k2 v0 v1 v2 wH kH hv zc h0 n0) ({ frames := 6, cells := 6, slots := 65, locals := 91 } : Room).cells ({ frames := 6, cells := 6, slots := 65, locals := 91 } : Room).slots) s₁ (entryFrame m #[(.ref ka)] 7)
  rw [own_esc3_ef m ka]
  obtain ⟨T, hT⟩ : ∃ z, z = s₁ := ⟨_, rfl⟩
  rw [← hT] at X eT ⊢
  obtain ⟨h, hh0⟩ : ∃ z, z = h0 := ⟨_, rfl⟩
  rw [← hh0] at eT
  replace O : Old Z n0 h := by rw [hh0]; exact O
  replace K0 : Keep h0 h [] := by rw [hh0]; exact K0
  rw [← hh0] at E_ka
  rw [← hh0] at V_ka
  obtain ⟨b1, gb⟩ : ∃ z, z = h.size := ⟨_, rfl⟩
  obtain ⟨T, h2, X, eT, E, E_b1, Dq, -, st⟩ := newO X hx hZ hown (hw _ (own_w 5 rfl)) (hw _ (own_w 6 rfl)) (hw _ (own_w 7 rfl)) eT (g := (mkF m 0 (own_L25 ka) [])) rfl (hb hby ep10m2_d0) (by decide) (by decide)
  rw [← gb] at E_b1 Dq st
  have ne_ka_b1 : ka ≠ b1 := Nat.ne_of_lt (Nat.lt_of_lt_of_le E_ka.lt (Nat.le_of_eq gb.symm))
  have g_b1 : n0 ≤ b1 := Nat.le_trans (own_le O) (Nat.le_of_eq gb.symm)
  have sz_b1 : h0.size ≤ b1 := Nat.le_trans K0.1 (Nat.le_of_eq gb.symm)
  replace E_ka := E_ka.ext E
  replace V_ka := V_ka.ext E
  replace O := O.ext E
  replace K0 := K0.ext E
  have F_value_b1 : Fld Z h2 b1 "java/lang/AbstractStringBuilder" "value" "[B" .null := Dq (Or.inl (hw _ (own_w 23 rfl))) (ty := (.array .byte)) (by decide)
  have F_coder_b1 : Fld Z h2 b1 "java/lang/AbstractStringBuilder" "coder" "B" (.int 0) := Dq (Or.inl (hw _ (own_w 25 rfl))) (ty := .byte) (by decide)
  have F_count_b1 : Fld Z h2 b1 "java/lang/AbstractStringBuilder" "count" "I" (.int 0) := Dq (Or.inl (hw _ (own_w 37 rfl))) (ty := .int) (by decide)
  refine own_via (g' := (mkF m 3 (own_L25 ka) [(.ref b1)])) st ?_
  refine own_via (g' := (mkF m 5 (own_L25 ka) [(.ref ka), (.ref b1), (.ref b1)])) (fun t_ k_ => XS.dup X.here hx rfl (hb hby ep10m2_d3) rfl rfl (XS.aloadN X.here hx rfl (hb hby ep10m2_d4) rfl rfl k_)) ?_
  obtain ⟨cl_, Ar_, -, Sz_, Nn_, -, -⟩ := id V_ka
  refine own_via (g' := (mkF m 6 (own_L25 ka) [(.int 3), (.ref b1), (.ref b1)])) (fun t_ k_ => X.arraylength hx (by rw [eT]; exact Ar_.1) (State.isArrayOf_alike hZ.alike Ar_.2.1) (g := (mkF m 5 (own_L25 ka) [(.ref ka), (.ref b1), (.ref b1)])) rfl rfl (hb hby ep10m2_d5) _ (by rw [len_of Sz_ Nn_]; exact k_)) ?_
  obtain ⟨_, _, ⟨T, Lq, kq, nq⟩, -, X, ⟨Lc, hQ, lq, yq, zq⟩, st⟩ := X.specialBack hx (y := own_y23) rfl hown (mvT hZ (hw _ (own_w 8 rfl))) (mvT hZ (hw _ (own_w 9 rfl))) (mvT hZ (hw _ (own_w 10 rfl))) (by decide) (backOf (W := 1) (own_sbInit l Z a0 hw [] b1 (3 : Int32) zc h2 n0 O E_b1 F_value_b1 F_coder_b1 F_count_b1 (by decide) g_b1 S_C hzc) hZ (hw _ (own_w 10 rfl)) (hw _ (own_w 7 rfl)) (by decide) (by decide)) (g := (mkF m 6 (own_L25 ka) [(.int 3), (.ref b1), (.ref b1)])) rfl (by rw [hml]; rfl) (Steps.refl _) (a := b1) (argsL := [(.int 3)]) (rest := [(.ref b1)]) (lenOf own_pd4 rfl) rfl (by show 2 * 0 + _ ≤ _; exact Nat.le_of_eq rfl) (hb hby ep10m2_d6) (fun _ _ => ⟨rfl, eT, (by decide : 1 + 1 ≤ _), (by decide : 4 + 3 ≤ _)⟩)
  dsimp only [Pt.U, Pt.locs, Pt.cells, Pt.slots] at X lq yq zq st hQ
  subst lq yq zq
  obtain ⟨bn, kbn, rfl, Nq, Kq, szq, F_value_b1, F_coder_b1, F_count_b1, V_bn, E_bn⟩ := hQ
  replace N := Fr.app N Nq
  obtain ⟨h3, eT⟩ : ∃ z, T.heap = z := ⟨_, rfl⟩
  rw [eT] at Kq F_value_b1 F_coder_b1 F_count_b1 V_bn E_bn
  have ne_b1_bn : b1 ≠ bn := Nat.ne_of_lt (Nat.lt_of_lt_of_le E_b1.lt szq)
  have ne_ka_bn : ka ≠ bn := Nat.ne_of_lt (Nat.lt_of_lt_of_le E_ka.lt szq)
  have g_bn : n0 ≤ bn := Nat.le_trans (own_le O) szq
  have sz_bn : h0.size ≤ bn := Nat.le_trans K0.1 szq
  replace E_ka := E_ka.keep Kq
  replace V_ka := V_ka.keep Kq (ninS ne_ka_b1 nin0)
  replace E_b1 := E_b1.keep Kq
  replace O := O.keep Kq (allS g_b1 all0)
  replace K0 := K0.trans Kq (allS (Or.inr sz_b1) all0)
  refine own_viaT (g' := (mkF m 9 (own_L25 ka) [(.ref b1)])) st ?_
  refine own_via (g' := (mkF m 13 (own_L16 ka b1 ka) [(.ref ka)])) (fun t_ k_ => XS.astoreN X.here hx rfl (hb hby ep10m2_d9) rfl rfl (l' := (own_L20 ka b1)) rfl (XS.aloadN X.here hx rfl (hb hby ep10m2_d10) rfl rfl (XS.astoreN X.here hx rfl (hb hby ep10m2_d11) rfl rfl (l' := (own_L16 ka b1 ka)) rfl (XS.aloadN X.here hx rfl (hb hby ep10m2_d12) rfl rfl k_)))) ?_
  obtain ⟨cl_, Ar_, -, Sz_, Nn_, -, -⟩ := id V_ka
  refine own_via (g' := (mkF m 14 (own_L16 ka b1 ka) [(.int 3)])) (fun t_ k_ => X.arraylength hx (by rw [eT]; exact Ar_.1) (State.isArrayOf_alike hZ.alike Ar_.2.1) (g := (mkF m 13 (own_L16 ka b1 ka) [(.ref ka)])) rfl rfl (hb hby ep10m2_d13) _ (by rw [len_of Sz_ Nn_]; exact k_)) ?_
  refine own_via (g' := (mkF m 27 (own_L14 ka b1 ka 3 0) [(.int 0), (.ref ka)])) (fun t_ k_ => XS.istoreN X.here hx rfl (hb hby ep10m2_d14) rfl (l' := #[.val (.ref ka), .val (.ref b1), .val (.ref ka), .val (.int 3), .unset, .unset, .unset]) rfl (XS.iconst X.here hx rfl (hb hby ep10m2_d15) (XS.istore X.here hx rfl (hb hby ep10m2_d16) rfl (l' := (own_L14 ka b1 ka 3 0)) rfl (XS.iload X.here hx rfl (hb hby ep10m2_d18) rfl (XS.iloadN X.here hx rfl (hb hby ep10m2_d20) rfl (XS.icmpNo X.here hx rfl (hb hby ep10m2_d21) rfl (tlt (by decide : (0 : Int32) < (3 : Int32))).2.1 (XS.aloadN X.here hx rfl (hb hby ep10m2_d24) rfl rfl (XS.iload X.here hx rfl (hb hby ep10m2_d25) rfl k_)))))))) ?_
  obtain ⟨cl_, Ar_, -, Sz_, Nn_, Hs_, -⟩ := id V_ka
  have hin_ : ¬ ((0 : Int32) < 0 ∨ cl_.slots.size ≤ ((0 : Int32)).toNatClampNeg) := inb_of Sz_ ⟨by decide, by decide⟩
  have hat_ : cl_.slots[((0 : Int32)).toNatClampNeg]? = some (.int k0) := Hs_.at hin_ rfl
  refine own_via (g' := (mkF m 36 (own_L12 ka b1 ka 3 0 k0) [(.int (k0 &&& (255 : Int32)))])) (fun t_ k_ => X.baloadBytes hx (j := (0 : Int32)) (v := (.int k0)) (by rw [eT]; exact Ar_.1) (State.isArrayOf_alike hZ.alike Ar_.2.1) Ar_.2.2 hin_ hat_ (g := (mkF m 27 (own_L14 ka b1 ka 3 0) [(.int 0), (.ref ka)])) rfl rfl (hb hby ep10m2_d27) _ (XS.istore X.here hx rfl (hb hby ep10m2_d28) rfl (l' := (own_L12 ka b1 ka 3 0 k0)) rfl (XS.iload X.here hx rfl (hb hby ep10m2_d30) rfl (XS.sipush X.here hx rfl (hb hby ep10m2_d32) (XS.iand X.here hx rfl (hb hby ep10m2_d35) rfl k_))))) ?_
  rw [ek0]
  refine own_via (g' := (mkF m 38 (own_L9 ka b1 ka 3 0 k0 v0) [])) (fun t_ k_ => XS.istore X.here hx rfl (hb hby ep10m2_d36) rfl (l' := (own_L9 ka b1 ka 3 0 k0 v0)) rfl k_) ?_
  by_cases cd0 : (¬ v0 < (32 : Int32) ∧ ¬ (126 : Int32) < v0 ∧ ¬ v0 = (92 : Int32))
  · refine own_via (g' := (mkF m 60 (own_L9 ka b1 ka 3 0 k0 v0) [(.ref b1)])) (fun t_ k_ => XS.iload X.here hx rfl (hb hby ep10m2_d38) rfl (XS.bipush X.here hx rfl (hb hby ep10m2_d40) (XS.icmpNo X.here hx rfl (hb hby ep10m2_d42) rfl (flt cd0.1).1 (XS.iload X.here hx rfl (hb hby ep10m2_d45) rfl (XS.bipush X.here hx rfl (hb hby ep10m2_d47) (XS.icmpNo X.here hx rfl (hb hby ep10m2_d49) rfl (flt cd0.2.1).2.2.1 (XS.iload X.here hx rfl (hb hby ep10m2_d52) rfl (XS.bipush X.here hx rfl (hb hby ep10m2_d54) (XS.icmpNo X.here hx rfl (hb hby ep10m2_d56) rfl (feq cd0.2.2).1 (XS.aloadN X.here hx rfl (hb hby ep10m2_d59) rfl rfl k_)))))))))) ?_
    refine own_via (g' := (mkF m 63 (own_L9 ka b1 ka 3 0 k0 v0) [(.int (v0.toUInt32.toUInt16.toUInt32.toInt32)), (.ref b1)])) (fun t_ k_ => XS.iload X.here hx rfl (hb hby ep10m2_d60) rfl (XS.i2c X.here hx rfl (hb hby ep10m2_d62) rfl k_)) ?_
    rw [own_i2cS bd0.1 (Int.lt_trans bd0.2 (by decide))]
    obtain ⟨cq, kq, qa, qb, qc⟩ := isOf hZ eT E_b1
    obtain ⟨_, _, ⟨T, Lq, kq, nq⟩, -, X, ⟨Lc, hQ, lq, yq, zq⟩, st⟩ := X.virtualBack hx (y := own_y25) (z := own_y25) hown (mvT hZ (hw _ (own_w 26 rfl))) (mvT hZ (hw _ (own_w 27 rfl))) (notFace_of_selects (args := #[]) (mvT hZ (hw _ (own_w 29 rfl)))) (mvT hZ (hw _ (own_w 29 rfl))) (mvT hZ (hw _ (own_w 28 rfl))) (by decide) (backOf (W := 0) (own_sappN l Z a0 hw [] b1 v0 bn kbn (0 : Int32) (3 : Int32) ([] : List Value) zc h3 n0 O E_b1 F_value_b1 F_coder_b1 F_count_b1 E_bn V_bn (by decide) (by decide) rfl g_b1 g_bn (own_le255 bd0.2) S_C hzc) hZ (hw _ (own_w 30 rfl)) (hw _ (own_w 7 rfl)) (by decide) (by decide)) qa qc (g := (mkF m 63 (own_L9 ka b1 ka 3 0 k0 v0) [(.int v0), (.ref b1)])) rfl (by rw [hml]; rfl) (Steps.refl _) (argsL := [(.int v0)]) (rest := []) (lenOf own_pd18 rfl) rfl (by show 2 * 0 + _ ≤ _; exact Nat.le_of_eq rfl) (hb hby ep10m2_d63) (fun _ _ => ⟨rfl, eT, (by decide : 2 + 0 ≤ _), (by decide : 7 + 0 ≤ _)⟩)
    dsimp only [Pt.U, Pt.locs, Pt.cells, Pt.slots] at X lq yq zq st hQ
    subst lq yq zq
    obtain ⟨rfl, Nq, Kq, F_value_b1, F_coder_b1, F_count_b1, V_bn⟩ := hQ
    replace N := Fr.app N Nq
    obtain ⟨h4, eT⟩ : ∃ z, T.heap = z := ⟨_, rfl⟩
    rw [eT] at Kq F_value_b1 F_coder_b1 F_count_b1 V_bn
    replace E_ka := E_ka.keep Kq
    replace V_ka := V_ka.keep Kq (ninS ne_ka_b1 (ninS ne_ka_bn nin0))
    replace E_b1 := E_b1.keep Kq
    replace E_bn := E_bn.keep Kq
    replace O := O.keep Kq (allS g_b1 (allS g_bn all0))
    replace K0 := K0.trans Kq (allS (Or.inr sz_b1) (allS (Or.inr sz_bn) all0))
    refine own_viaT (g' := (mkF m 66 (own_L9 ka b1 ka 3 0 k0 v0) [(.ref b1)])) st ?_
    replace F_count_b1 : Fld Z h4 b1 "java/lang/AbstractStringBuilder" "count" "I" (.int 1) := F_count_b1
    replace V_bn : Arv Z h4 bn kbn .byte (3 : Int32) [(.int (own_sb v0))] (.int 0) := V_bn
    refine own_via (g' := (mkF m 18 (own_L9 ka b1 ka 3 ((0 : Int32) + (1 : Int32)) k0 v0) [])) (fun t_ k_ => XS.pop X.here hx rfl (hb hby ep10m2_d66) rfl rfl (XS.goto X.here hx rfl (pc0 := 67) (pc' := 105) rfl (hb hby ep10m2_d67) (by decide) (by decide) (XS.iinc X.here hx rfl (hb hby ep10m2_d105) rfl (l' := (own_L9 ka b1 ka 3 ((0 : Int32) + (1 : Int32)) k0 v0)) rfl (XS.goto X.here hx rfl (pc0 := 108) (pc' := 18) rfl (hb hby ep10m2_d108) (by decide) (by decide) k_)))) ?_
    rw [(by decide : ((0 : Int32) + (1 : Int32)) = (1 : Int32))]
    refine own_via (g' := (mkF m 27 (own_L9 ka b1 ka 3 1 k0 v0) [(.int 1), (.ref ka)])) (fun t_ k_ => XS.iload X.here hx rfl (hb hby ep10m2_d18) rfl (XS.iloadN X.here hx rfl (hb hby ep10m2_d20) rfl (XS.icmpNo X.here hx rfl (hb hby ep10m2_d21) rfl (tlt (by decide : (1 : Int32) < (3 : Int32))).2.1 (XS.aloadN X.here hx rfl (hb hby ep10m2_d24) rfl rfl (XS.iload X.here hx rfl (hb hby ep10m2_d25) rfl k_))))) ?_
    obtain ⟨cl_, Ar_, -, Sz_, Nn_, Hs_, -⟩ := id V_ka
    have hin_ : ¬ ((1 : Int32) < 0 ∨ cl_.slots.size ≤ ((1 : Int32)).toNatClampNeg) := inb_of Sz_ ⟨by decide, by decide⟩
    have hat_ : cl_.slots[((1 : Int32)).toNatClampNeg]? = some (.int k1) := Hs_.at hin_ rfl
    refine own_via (g' := (mkF m 36 (own_L9 ka b1 ka 3 1 k1 v0) [(.int (k1 &&& (255 : Int32)))])) (fun t_ k_ => X.baloadBytes hx (j := (1 : Int32)) (v := (.int k1)) (by rw [eT]; exact Ar_.1) (State.isArrayOf_alike hZ.alike Ar_.2.1) Ar_.2.2 hin_ hat_ (g := (mkF m 27 (own_L9 ka b1 ka 3 1 k0 v0) [(.int 1), (.ref ka)])) rfl rfl (hb hby ep10m2_d27) _ (XS.istore X.here hx rfl (hb hby ep10m2_d28) rfl (l' := (own_L9 ka b1 ka 3 1 k1 v0)) rfl (XS.iload X.here hx rfl (hb hby ep10m2_d30) rfl (XS.sipush X.here hx rfl (hb hby ep10m2_d32) (XS.iand X.here hx rfl (hb hby ep10m2_d35) rfl k_))))) ?_
    rw [ek1]
    refine own_via (g' := (mkF m 38 (own_L9 ka b1 ka 3 1 k1 v1) [])) (fun t_ k_ => XS.istore X.here hx rfl (hb hby ep10m2_d36) rfl (l' := (own_L9 ka b1 ka 3 1 k1 v1)) rfl k_) ?_
    by_cases cd1 : (¬ v1 < (32 : Int32) ∧ ¬ (126 : Int32) < v1 ∧ ¬ v1 = (92 : Int32))
    · refine own_via (g' := (mkF m 60 (own_L9 ka b1 ka 3 1 k1 v1) [(.ref b1)])) (fun t_ k_ => XS.iload X.here hx rfl (hb hby ep10m2_d38) rfl (XS.bipush X.here hx rfl (hb hby ep10m2_d40) (XS.icmpNo X.here hx rfl (hb hby ep10m2_d42) rfl (flt cd1.1).1 (XS.iload X.here hx rfl (hb hby ep10m2_d45) rfl (XS.bipush X.here hx rfl (hb hby ep10m2_d47) (XS.icmpNo X.here hx rfl (hb hby ep10m2_d49) rfl (flt cd1.2.1).2.2.1 (XS.iload X.here hx rfl (hb hby ep10m2_d52) rfl (XS.bipush X.here hx rfl (hb hby ep10m2_d54) (XS.icmpNo X.here hx rfl (hb hby ep10m2_d56) rfl (feq cd1.2.2).1 (XS.aloadN X.here hx rfl (hb hby ep10m2_d59) rfl rfl k_)))))))))) ?_
      refine own_via (g' := (mkF m 63 (own_L9 ka b1 ka 3 1 k1 v1) [(.int (v1.toUInt32.toUInt16.toUInt32.toInt32)), (.ref b1)])) (fun t_ k_ => XS.iload X.here hx rfl (hb hby ep10m2_d60) rfl (XS.i2c X.here hx rfl (hb hby ep10m2_d62) rfl k_)) ?_
      rw [own_i2cS bd1.1 (Int.lt_trans bd1.2 (by decide))]
      obtain ⟨cq, kq, qa, qb, qc⟩ := isOf hZ eT E_b1
      obtain ⟨_, _, ⟨T, Lq, kq, nq⟩, -, X, ⟨Lc, hQ, lq, yq, zq⟩, st⟩ := X.virtualBack hx (y := own_y25) (z := own_y25) hown (mvT hZ (hw _ (own_w 26 rfl))) (mvT hZ (hw _ (own_w 27 rfl))) (notFace_of_selects (args := #[]) (mvT hZ (hw _ (own_w 29 rfl)))) (mvT hZ (hw _ (own_w 29 rfl))) (mvT hZ (hw _ (own_w 28 rfl))) (by decide) (backOf (W := 0) (own_sappN l Z a0 hw [] b1 v1 bn kbn (1 : Int32) (3 : Int32) [(.int (own_sb v0))] zc h4 n0 O E_b1 F_value_b1 F_coder_b1 F_count_b1 E_bn V_bn (by decide) (by decide) rfl g_b1 g_bn (own_le255 bd1.2) S_C hzc) hZ (hw _ (own_w 30 rfl)) (hw _ (own_w 7 rfl)) (by decide) (by decide)) qa qc (g := (mkF m 63 (own_L9 ka b1 ka 3 1 k1 v1) [(.int v1), (.ref b1)])) rfl (by rw [hml]; rfl) (Steps.refl _) (argsL := [(.int v1)]) (rest := []) (lenOf own_pd18 rfl) rfl (by show 2 * 0 + _ ≤ _; exact Nat.le_of_eq rfl) (hb hby ep10m2_d63) (fun _ _ => ⟨rfl, eT, (by decide : 2 + 0 ≤ _), (by decide : 7 + 0 ≤ _)⟩)
      dsimp only [Pt.U, Pt.locs, Pt.cells, Pt.slots] at X lq yq zq st hQ
      subst lq yq zq
      obtain ⟨rfl, Nq, Kq, F_value_b1, F_coder_b1, F_count_b1, V_bn⟩ := hQ
      replace N := Fr.app N Nq
      obtain ⟨h5, eT⟩ : ∃ z, T.heap = z := ⟨_, rfl⟩
      rw [eT] at Kq F_value_b1 F_coder_b1 F_count_b1 V_bn
      replace E_ka := E_ka.keep Kq
      replace V_ka := V_ka.keep Kq (ninS ne_ka_b1 (ninS ne_ka_bn nin0))
      replace E_b1 := E_b1.keep Kq
      replace E_bn := E_bn.keep Kq
      replace O := O.keep Kq (allS g_b1 (allS g_bn all0))
      replace K0 := K0.trans Kq (allS (Or.inr sz_b1) (allS (Or.inr sz_bn) all0))
      refine own_viaT (g' := (mkF m 66 (own_L9 ka b1 ka 3 1 k1 v1) [(.ref b1)])) st ?_
      replace F_count_b1 : Fld Z h5 b1 "java/lang/AbstractStringBuilder" "count" "I" (.int 2) := F_count_b1
      replace V_bn : Arv Z h5 bn kbn .byte (3 : Int32) [(.int (own_sb v0)), (.int (own_sb v1))] (.int 0) := V_bn
      refine own_via (g' := (mkF m 18 (own_L9 ka b1 ka 3 ((1 : Int32) + (1 : Int32)) k1 v1) [])) (fun t_ k_ => XS.pop X.here hx rfl (hb hby ep10m2_d66) rfl rfl (XS.goto X.here hx rfl (pc0 := 67) (pc' := 105) rfl (hb hby ep10m2_d67) (by decide) (by decide) (XS.iinc X.here hx rfl (hb hby ep10m2_d105) rfl (l' := (own_L9 ka b1 ka 3 ((1 : Int32) + (1 : Int32)) k1 v1)) rfl (XS.goto X.here hx rfl (pc0 := 108) (pc' := 18) rfl (hb hby ep10m2_d108) (by decide) (by decide) k_)))) ?_
      rw [(by decide : ((1 : Int32) + (1 : Int32)) = (2 : Int32))]
      refine own_via (g' := (mkF m 27 (own_L9 ka b1 ka 3 2 k1 v1) [(.int 2), (.ref ka)])) (fun t_ k_ => XS.iload X.here hx rfl (hb hby ep10m2_d18) rfl (XS.iloadN X.here hx rfl (hb hby ep10m2_d20) rfl (XS.icmpNo X.here hx rfl (hb hby ep10m2_d21) rfl (tlt (by decide : (2 : Int32) < (3 : Int32))).2.1 (XS.aloadN X.here hx rfl (hb hby ep10m2_d24) rfl rfl (XS.iload X.here hx rfl (hb hby ep10m2_d25) rfl k_))))) ?_
      obtain ⟨cl_, Ar_, -, Sz_, Nn_, Hs_, -⟩ := id V_ka
      have hin_ : ¬ ((2 : Int32) < 0 ∨ cl_.slots.size ≤ ((2 : Int32)).toNatClampNeg) := inb_of Sz_ ⟨by decide, by decide⟩
      have hat_ : cl_.slots[((2 : Int32)).toNatClampNeg]? = some (.int k2) := Hs_.at hin_ rfl
      refine own_via (g' := (mkF m 36 (own_L9 ka b1 ka 3 2 k2 v1) [(.int (k2 &&& (255 : Int32)))])) (fun t_ k_ => X.baloadBytes hx (j := (2 : Int32)) (v := (.int k2)) (by rw [eT]; exact Ar_.1) (State.isArrayOf_alike hZ.alike Ar_.2.1) Ar_.2.2 hin_ hat_ (g := (mkF m 27 (own_L9 ka b1 ka 3 2 k1 v1) [(.int 2), (.ref ka)])) rfl rfl (hb hby ep10m2_d27) _ (XS.istore X.here hx rfl (hb hby ep10m2_d28) rfl (l' := (own_L9 ka b1 ka 3 2 k2 v1)) rfl (XS.iload X.here hx rfl (hb hby ep10m2_d30) rfl (XS.sipush X.here hx rfl (hb hby ep10m2_d32) (XS.iand X.here hx rfl (hb hby ep10m2_d35) rfl k_))))) ?_
      rw [ek2]
      refine own_via (g' := (mkF m 38 (own_L9 ka b1 ka 3 2 k2 v2) [])) (fun t_ k_ => XS.istore X.here hx rfl (hb hby ep10m2_d36) rfl (l' := (own_L9 ka b1 ka 3 2 k2 v2)) rfl k_) ?_
      by_cases cd2 : (¬ v2 < (32 : Int32) ∧ ¬ (126 : Int32) < v2 ∧ ¬ v2 = (92 : Int32))
      · refine own_via (g' := (mkF m 60 (own_L9 ka b1 ka 3 2 k2 v2) [(.ref b1)])) (fun t_ k_ => XS.iload X.here hx rfl (hb hby ep10m2_d38) rfl (XS.bipush X.here hx rfl (hb hby ep10m2_d40) (XS.icmpNo X.here hx rfl (hb hby ep10m2_d42) rfl (flt cd2.1).1 (XS.iload X.here hx rfl (hb hby ep10m2_d45) rfl (XS.bipush X.here hx rfl (hb hby ep10m2_d47) (XS.icmpNo X.here hx rfl (hb hby ep10m2_d49) rfl (flt cd2.2.1).2.2.1 (XS.iload X.here hx rfl (hb hby ep10m2_d52) rfl (XS.bipush X.here hx rfl (hb hby ep10m2_d54) (XS.icmpNo X.here hx rfl (hb hby ep10m2_d56) rfl (feq cd2.2.2).1 (XS.aloadN X.here hx rfl (hb hby ep10m2_d59) rfl rfl k_)))))))))) ?_
        refine own_via (g' := (mkF m 63 (own_L9 ka b1 ka 3 2 k2 v2) [(.int (v2.toUInt32.toUInt16.toUInt32.toInt32)), (.ref b1)])) (fun t_ k_ => XS.iload X.here hx rfl (hb hby ep10m2_d60) rfl (XS.i2c X.here hx rfl (hb hby ep10m2_d62) rfl k_)) ?_
        rw [own_i2cS bd2.1 (Int.lt_trans bd2.2 (by decide))]
        obtain ⟨cq, kq, qa, qb, qc⟩ := isOf hZ eT E_b1
        obtain ⟨_, _, ⟨T, Lq, kq, nq⟩, -, X, ⟨Lc, hQ, lq, yq, zq⟩, st⟩ := X.virtualBack hx (y := own_y25) (z := own_y25) hown (mvT hZ (hw _ (own_w 26 rfl))) (mvT hZ (hw _ (own_w 27 rfl))) (notFace_of_selects (args := #[]) (mvT hZ (hw _ (own_w 29 rfl)))) (mvT hZ (hw _ (own_w 29 rfl))) (mvT hZ (hw _ (own_w 28 rfl))) (by decide) (backOf (W := 0) (own_sappN l Z a0 hw [] b1 v2 bn kbn (2 : Int32) (3 : Int32) [(.int (own_sb v0)), (.int (own_sb v1))] zc h5 n0 O E_b1 F_value_b1 F_coder_b1 F_count_b1 E_bn V_bn (by decide) (by decide) rfl g_b1 g_bn (own_le255 bd2.2) S_C hzc) hZ (hw _ (own_w 30 rfl)) (hw _ (own_w 7 rfl)) (by decide) (by decide)) qa qc (g := (mkF m 63 (own_L9 ka b1 ka 3 2 k2 v2) [(.int v2), (.ref b1)])) rfl (by rw [hml]; rfl) (Steps.refl _) (argsL := [(.int v2)]) (rest := []) (lenOf own_pd18 rfl) rfl (by show 2 * 0 + _ ≤ _; exact Nat.le_of_eq rfl) (hb hby ep10m2_d63) (fun _ _ => ⟨rfl, eT, (by decide : 2 + 0 ≤ _), (by decide : 7 + 0 ≤ _)⟩)
        dsimp only [Pt.U, Pt.locs, Pt.cells, Pt.slots] at X lq yq zq st hQ
        subst lq yq zq
        obtain ⟨rfl, Nq, Kq, F_value_b1, F_coder_b1, F_count_b1, V_bn⟩ := hQ
        replace N := Fr.app N Nq
        obtain ⟨h6, eT⟩ : ∃ z, T.heap = z := ⟨_, rfl⟩
        rw [eT] at Kq F_value_b1 F_coder_b1 F_count_b1 V_bn
        replace E_ka := E_ka.keep Kq
        replace V_ka := V_ka.keep Kq (ninS ne_ka_b1 (ninS ne_ka_bn nin0))
        replace E_b1 := E_b1.keep Kq
        replace E_bn := E_bn.keep Kq
        replace O := O.keep Kq (allS g_b1 (allS g_bn all0))
        replace K0 := K0.trans Kq (allS (Or.inr sz_b1) (allS (Or.inr sz_bn) all0))
        refine own_viaT (g' := (mkF m 66 (own_L9 ka b1 ka 3 2 k2 v2) [(.ref b1)])) st ?_
        replace F_count_b1 : Fld Z h6 b1 "java/lang/AbstractStringBuilder" "count" "I" (.int 3) := F_count_b1
        replace V_bn : Arv Z h6 bn kbn .byte (3 : Int32) [(.int (own_sb v0)), (.int (own_sb v1)), (.int (own_sb v2))] (.int 0) := V_bn
        refine own_via (g' := (mkF m 18 (own_L9 ka b1 ka 3 ((2 : Int32) + (1 : Int32)) k2 v2) [])) (fun t_ k_ => XS.pop X.here hx rfl (hb hby ep10m2_d66) rfl rfl (XS.goto X.here hx rfl (pc0 := 67) (pc' := 105) rfl (hb hby ep10m2_d67) (by decide) (by decide) (XS.iinc X.here hx rfl (hb hby ep10m2_d105) rfl (l' := (own_L9 ka b1 ka 3 ((2 : Int32) + (1 : Int32)) k2 v2)) rfl (XS.goto X.here hx rfl (pc0 := 108) (pc' := 18) rfl (hb hby ep10m2_d108) (by decide) (by decide) k_)))) ?_
        rw [(by decide : ((2 : Int32) + (1 : Int32)) = (3 : Int32))]
        refine own_via (g' := (mkF m 112 (own_L9 ka b1 ka 3 3 k2 v2) [(.ref b1)])) (fun t_ k_ => XS.iload X.here hx rfl (hb hby ep10m2_d18) rfl (XS.iloadN X.here hx rfl (hb hby ep10m2_d20) rfl (XS.icmpYes X.here hx rfl (pc0 := 21) (pc' := 111) rfl (hb hby ep10m2_d21) rfl (flt (by decide : ¬ ((3 : Int32) < (3 : Int32)))).2.1 (by decide) (by decide) (XS.aloadN X.here hx rfl (hb hby ep10m2_d111) rfl rfl k_)))) ?_
        obtain ⟨cq, kq, qa, qb, qc⟩ := isOf hZ eT E_b1
        obtain ⟨_, _, ⟨T, Lq, kq, nq⟩, -, X, ⟨Lc, hQ, lq, yq, zq⟩, st⟩ := X.virtualBack hx (y := own_y24) (z := own_y24) hown (mvT hZ (hw _ (own_w 80 rfl))) (mvT hZ (hw _ (own_w 81 rfl))) (notFace_of_selects (args := #[]) (mvT hZ (hw _ (own_w 83 rfl)))) (mvT hZ (hw _ (own_w 83 rfl))) (mvT hZ (hw _ (own_w 82 rfl))) (by decide) (backOf (W := 0) (own_ts l Z a0 hw [] b1 bn kbn (3 : Int32) (3 : Int32) [(.int (own_sb v0)), (.int (own_sb v1)), (.int (own_sb v2))] zc h6 n0 O E_b1 F_value_b1 F_coder_b1 F_count_b1 E_bn V_bn (by decide) rfl S_C hzc) hZ (hw _ (own_w 84 rfl)) (hw _ (own_w 7 rfl)) (by decide) (by decide)) qa qc (g := (mkF m 112 (own_L9 ka b1 ka 3 3 k2 v2) [(.ref b1)])) rfl (by rw [hml]; rfl) (Steps.refl _) (argsL := []) (rest := []) (lenOf own_pd17 rfl) rfl (by show 2 * 0 + _ ≤ _; exact Nat.le_of_eq rfl) (hb hby ep10m2_d112) (fun _ _ => ⟨rfl, eT, (by decide : 2 + 2 ≤ _), (by decide : 7 + 22 ≤ _)⟩)
        dsimp only [Pt.U, Pt.locs, Pt.cells, Pt.slots] at X lq yq zq st hQ
        subst lq yq zq
        obtain ⟨rr, rb, kr, rfl, Nq, Kq, sz1, sz2, E_rr, F_value_rr, F_coder_rr, V_rb⟩ := hQ
        replace N := Fr.app N Nq
        obtain ⟨h7, eT⟩ : ∃ z, T.heap = z := ⟨_, rfl⟩
        rw [eT] at Kq E_rr F_value_rr F_coder_rr V_rb
        have ne_b1_rr : b1 ≠ rr := Nat.ne_of_lt (Nat.lt_of_lt_of_le E_b1.lt sz1)
        have ne_bn_rr : bn ≠ rr := Nat.ne_of_lt (Nat.lt_of_lt_of_le V_bn.lt sz1)
        have ne_ka_rr : ka ≠ rr := Nat.ne_of_lt (Nat.lt_of_lt_of_le E_ka.lt sz1)
        have g_rr : n0 ≤ rr := Nat.le_trans (own_le O) sz1
        have sz_rr : h0.size ≤ rr := Nat.le_trans K0.1 sz1
        have ne_b1_rb : b1 ≠ rb := Nat.ne_of_lt (Nat.lt_of_lt_of_le E_b1.lt sz2)
        have ne_bn_rb : bn ≠ rb := Nat.ne_of_lt (Nat.lt_of_lt_of_le V_bn.lt sz2)
        have ne_ka_rb : ka ≠ rb := Nat.ne_of_lt (Nat.lt_of_lt_of_le E_ka.lt sz2)
        have g_rb : n0 ≤ rb := Nat.le_trans (own_le O) sz2
        have sz_rb : h0.size ≤ rb := Nat.le_trans K0.1 sz2
        replace E_ka := E_ka.keep Kq
        replace V_ka := V_ka.keep Kq nin0
        replace E_b1 := E_b1.keep Kq
        replace F_value_b1 := F_value_b1.keep Kq nin0
        replace F_coder_b1 := F_coder_b1.keep Kq nin0
        replace F_count_b1 := F_count_b1.keep Kq nin0
        replace V_bn := V_bn.keep Kq nin0
        replace E_bn := E_bn.keep Kq
        replace O := O.keep Kq all0
        replace K0 := K0.trans Kq all0
        refine own_viaT (g' := (mkF m 115 (own_L9 ka b1 ka 3 3 k2 v2) [(.ref rr)])) st ?_
        refine own_retW X hx hlk Bd.returns rfl (Or.inr (Or.inr (Or.inr (Or.inr ⟨rfl, rfl, rfl⟩)))) (hb hby ep10m2_d115) (by decide) (by decide) ?_
        rw [eT]
        exact ⟨rr, rb, kr, _, _, rfl, N, K0, sz_rr, sz_rb, E_rr, F_value_rr, F_coder_rr, V_rb, Or.inl ⟨cd0, cd1, cd2, rfl, rfl⟩⟩
      · refine own_suff (T' := T) (g' := (mkF m 70 (own_L9 ka b1 ka 3 2 k2 v2) [])) (fun kk_ => ?_) ?_
        · rcases own_pe cd2 with q_ | ⟨q_, r_⟩ | ⟨q_, r_, u_⟩
          · refine own_via (g' := (mkF m 70 (own_L9 ka b1 ka 3 2 k2 v2) [])) (fun t_ k_ => XS.iload X.here hx rfl (hb hby ep10m2_d38) rfl (XS.bipush X.here hx rfl (hb hby ep10m2_d40) (XS.icmpYes X.here hx rfl (pc0 := 42) (pc' := 70) rfl (hb hby ep10m2_d42) rfl (tlt q_).1 (by decide) (by decide) k_))) ?_
            exact kk_
          · refine own_via (g' := (mkF m 70 (own_L9 ka b1 ka 3 2 k2 v2) [])) (fun t_ k_ => XS.iload X.here hx rfl (hb hby ep10m2_d38) rfl (XS.bipush X.here hx rfl (hb hby ep10m2_d40) (XS.icmpNo X.here hx rfl (hb hby ep10m2_d42) rfl (flt q_).1 (XS.iload X.here hx rfl (hb hby ep10m2_d45) rfl (XS.bipush X.here hx rfl (hb hby ep10m2_d47) (XS.icmpYes X.here hx rfl (pc0 := 49) (pc' := 70) rfl (hb hby ep10m2_d49) rfl (tlt r_).2.2.1 (by decide) (by decide) k_)))))) ?_
            exact kk_
          · refine own_via (g' := (mkF m 70 (own_L9 ka b1 ka 3 2 k2 v2) [])) (fun t_ k_ => XS.iload X.here hx rfl (hb hby ep10m2_d38) rfl (XS.bipush X.here hx rfl (hb hby ep10m2_d40) (XS.icmpNo X.here hx rfl (hb hby ep10m2_d42) rfl (flt q_).1 (XS.iload X.here hx rfl (hb hby ep10m2_d45) rfl (XS.bipush X.here hx rfl (hb hby ep10m2_d47) (XS.icmpNo X.here hx rfl (hb hby ep10m2_d49) rfl (flt r_).2.2.1 (XS.iload X.here hx rfl (hb hby ep10m2_d52) rfl (XS.bipush X.here hx rfl (hb hby ep10m2_d54) (XS.icmpYes X.here hx rfl (pc0 := 56) (pc' := 70) rfl (hb hby ep10m2_d56) rfl (teq u_).1 (by decide) (by decide) k_))))))))) ?_
            exact kk_
        refine own_via (g' := (mkF m 73 (own_L9 ka b1 ka 3 2 k2 v2) [(.int 92), (.ref b1)])) (fun t_ k_ => XS.aloadN X.here hx rfl (hb hby ep10m2_d70) rfl rfl (XS.bipush X.here hx rfl (hb hby ep10m2_d71) k_)) ?_
        obtain ⟨cq, kq, qa, qb, qc⟩ := isOf hZ eT E_b1
        obtain ⟨_, _, ⟨T, Lq, kq, nq⟩, -, X, ⟨Lc, hQ, lq, yq, zq⟩, st⟩ := X.virtualBack hx (y := own_y25) (z := own_y25) hown (mvT hZ (hw _ (own_w 26 rfl))) (mvT hZ (hw _ (own_w 27 rfl))) (notFace_of_selects (args := #[]) (mvT hZ (hw _ (own_w 29 rfl)))) (mvT hZ (hw _ (own_w 29 rfl))) (mvT hZ (hw _ (own_w 28 rfl))) (by decide) (backOf (W := 0) (own_sappN l Z a0 hw [] b1 (92 : Int32) bn kbn (2 : Int32) (3 : Int32) [(.int (own_sb v0)), (.int (own_sb v1))] zc h5 n0 O E_b1 F_value_b1 F_coder_b1 F_count_b1 E_bn V_bn (by decide) (by decide) rfl g_b1 g_bn (by decide) S_C hzc) hZ (hw _ (own_w 30 rfl)) (hw _ (own_w 7 rfl)) (by decide) (by decide)) qa qc (g := (mkF m 73 (own_L9 ka b1 ka 3 2 k2 v2) [(.int 92), (.ref b1)])) rfl (by rw [hml]; rfl) (Steps.refl _) (argsL := [(.int 92)]) (rest := []) (lenOf own_pd18 rfl) rfl (by show 2 * 0 + _ ≤ _; exact Nat.le_of_eq rfl) (hb hby ep10m2_d73) (fun _ _ => ⟨rfl, eT, (by decide : 2 + 0 ≤ _), (by decide : 7 + 0 ≤ _)⟩)
        dsimp only [Pt.U, Pt.locs, Pt.cells, Pt.slots] at X lq yq zq st hQ
        subst lq yq zq
        obtain ⟨rfl, Nq, Kq, F_value_b1, F_coder_b1, F_count_b1, V_bn⟩ := hQ
        replace N := Fr.app N Nq
        obtain ⟨h8, eT⟩ : ∃ z, T.heap = z := ⟨_, rfl⟩
        rw [eT] at Kq F_value_b1 F_coder_b1 F_count_b1 V_bn
        replace E_ka := E_ka.keep Kq
        replace V_ka := V_ka.keep Kq (ninS ne_ka_b1 (ninS ne_ka_bn nin0))
        replace E_b1 := E_b1.keep Kq
        replace E_bn := E_bn.keep Kq
        replace O := O.keep Kq (allS g_b1 (allS g_bn all0))
        replace K0 := K0.trans Kq (allS (Or.inr sz_b1) (allS (Or.inr sz_bn) all0))
        refine own_viaT (g' := (mkF m 76 (own_L9 ka b1 ka 3 2 k2 v2) [(.ref b1)])) st ?_
        replace F_count_b1 : Fld Z h8 b1 "java/lang/AbstractStringBuilder" "count" "I" (.int 3) := F_count_b1
        replace V_bn : Arv Z h8 bn kbn .byte (3 : Int32) [(.int (own_sb v0)), (.int (own_sb v1)), (.int (own_sb (92 : Int32)))] (.int 0) := V_bn
        refine own_via (g' := (mkF m 78 (own_L9 ka b1 ka 3 2 k2 v2) [(.int 120), (.ref b1)])) (fun t_ k_ => XS.bipush X.here hx rfl (hb hby ep10m2_d76) k_) ?_
        obtain ⟨cq, kq, qa, qb, qc⟩ := isOf hZ eT E_b1
        obtain ⟨_, _, ⟨T, Lq, kq, nq⟩, -, X, ⟨Lc, hQ, lq, yq, zq⟩, st⟩ := X.virtualBack hx (y := own_y25) (z := own_y25) hown (mvT hZ (hw _ (own_w 26 rfl))) (mvT hZ (hw _ (own_w 27 rfl))) (notFace_of_selects (args := #[]) (mvT hZ (hw _ (own_w 29 rfl)))) (mvT hZ (hw _ (own_w 29 rfl))) (mvT hZ (hw _ (own_w 28 rfl))) (by decide) (backOf (W := 0) (own_sappG l Z a0 hw [] b1 (120 : Int32) bn kbn (3 : Int32) [(.int (own_sb v0)), (.int (own_sb v1)), (.int (own_sb (92 : Int32)))] zc h8 n0 O E_b1 F_value_b1 F_coder_b1 F_count_b1 E_bn V_bn (by decide) rfl g_b1 (by decide) S_C hzc) hZ (hw _ (own_w 30 rfl)) (hw _ (own_w 7 rfl)) (by decide) (by decide)) qa qc (g := (mkF m 78 (own_L9 ka b1 ka 3 2 k2 v2) [(.int 120), (.ref b1)])) rfl (by rw [hml]; rfl) (Steps.refl _) (argsL := [(.int 120)]) (rest := []) (lenOf own_pd18 rfl) rfl (by show 2 * 0 + _ ≤ _; exact Nat.le_of_eq rfl) (hb hby ep10m2_d78) (fun _ _ => ⟨rfl, eT, (by decide : 2 + 1 ≤ _), (by decide : 7 + 18 ≤ _)⟩)
        dsimp only [Pt.U, Pt.locs, Pt.cells, Pt.slots] at X lq yq zq st hQ
        subst lq yq zq
        obtain ⟨bg1, kg1, rfl, Nq, Kq, szq, F_value_b1, F_coder_b1, F_count_b1, V_bg1, E_bg1⟩ := hQ
        replace N := Fr.app N Nq
        obtain ⟨h9, eT⟩ : ∃ z, T.heap = z := ⟨_, rfl⟩
        rw [eT] at Kq F_value_b1 F_coder_b1 F_count_b1 V_bg1 E_bg1
        have ne_b1_bg1 : b1 ≠ bg1 := Nat.ne_of_lt (Nat.lt_of_lt_of_le E_b1.lt szq)
        have ne_bn_bg1 : bn ≠ bg1 := Nat.ne_of_lt (Nat.lt_of_lt_of_le V_bn.lt szq)
        have ne_ka_bg1 : ka ≠ bg1 := Nat.ne_of_lt (Nat.lt_of_lt_of_le E_ka.lt szq)
        have g_bg1 : n0 ≤ bg1 := Nat.le_trans (own_le O) szq
        have sz_bg1 : h0.size ≤ bg1 := Nat.le_trans K0.1 szq
        replace E_ka := E_ka.keep Kq
        replace V_ka := V_ka.keep Kq (ninS ne_ka_b1 nin0)
        replace E_b1 := E_b1.keep Kq
        replace V_bn := V_bn.keep Kq (ninS (Ne.symm ne_b1_bn) nin0)
        replace E_bn := E_bn.keep Kq
        replace O := O.keep Kq (allS g_b1 all0)
        replace K0 := K0.trans Kq (allS (Or.inr sz_b1) all0)
        refine own_viaT (g' := (mkF m 81 (own_L9 ka b1 ka 3 2 k2 v2) [(.ref b1)])) st ?_
        replace F_count_b1 : Fld Z h9 b1 "java/lang/AbstractStringBuilder" "count" "I" (.int 4) := F_count_b1
        replace V_bg1 : Arv Z h9 bg1 kg1 .byte (8 : Int32) [(.int (own_sb v0)), (.int (own_sb v1)), (.int (own_sb (92 : Int32))), (.int (own_sb (120 : Int32)))] (.int 0) := V_bg1
        obtain ⟨T, X, eT, st⟩ := getS2 X hx hZ hown (host := "") (Or.inl (hw _ (own_w 78 rfl))) Via.refl eT (S_H.ext O.2) (g := (mkF m 81 (own_L9 ka b1 ka 3 2 k2 v2) [(.ref b1)])) rfl (hb hby ep10m2_d81)
        refine own_via (g' := (mkF m 84 (own_L9 ka b1 ka 3 2 k2 v2) [(.ref wH), (.ref b1)])) st ?_
        refine own_via (g' := (mkF m 88 (own_L9 ka b1 ka 3 2 k2 v2) [(.int ((v2.toUInt32 >>> ((4 : Int32) &&& 31).toUInt32).toInt32)), (.ref wH), (.ref b1)])) (fun t_ k_ => XS.iload X.here hx rfl (hb hby ep10m2_d84) rfl (XS.iconst X.here hx rfl (hb hby ep10m2_d86) (XS.iushr X.here hx rfl (hb hby ep10m2_d87) rfl k_))) ?_
        rw [(own_hi bd2.1 bd2.2).1]
        have V_wH := VO_wH.ext O.2
        obtain ⟨cl_, Ar_, -, Sz_, Nn_, Hs_, -⟩ := id V_wH
        have hin_ : ¬ ((v2 / (16 : Int32)) < 0 ∨ cl_.slots.size ≤ ((v2 / (16 : Int32))).toNatClampNeg) := inb_of Sz_ (own_in16 ((own_hi bd2.1 bd2.2).2.1) ((own_hi bd2.1 bd2.2).2.2))
        have hat_ : cl_.slots[((v2 / (16 : Int32))).toNatClampNeg]? = some (.int (own_hx (v2 / (16 : Int32)))) := Hs_.at hin_ (hhx _ ((own_hi bd2.1 bd2.2).2.1) ((own_hi bd2.1 bd2.2).2.2))
        refine own_via (g' := (mkF m 89 (own_L9 ka b1 ka 3 2 k2 v2) [(.int (own_hx (v2 / (16 : Int32)))), (.ref b1)])) (fun t_ k_ => X.caload hx (j := (v2 / (16 : Int32))) (v := (.int (own_hx (v2 / (16 : Int32))))) (by rw [eT]; exact Ar_.1) (State.isArrayOf_alike hZ.alike Ar_.2.1) Ar_.2.2 hin_ hat_ (g := (mkF m 88 (own_L9 ka b1 ka 3 2 k2 v2) [(.int (v2 / (16 : Int32))), (.ref wH), (.ref b1)])) rfl rfl (hb hby ep10m2_d88) _ k_) ?_
        clear V_wH
        obtain ⟨cq, kq, qa, qb, qc⟩ := isOf hZ eT E_b1
        obtain ⟨_, _, ⟨T, Lq, kq, nq⟩, -, X, ⟨Lc, hQ, lq, yq, zq⟩, st⟩ := X.virtualBack hx (y := own_y25) (z := own_y25) hown (mvT hZ (hw _ (own_w 26 rfl))) (mvT hZ (hw _ (own_w 27 rfl))) (notFace_of_selects (args := #[]) (mvT hZ (hw _ (own_w 29 rfl)))) (mvT hZ (hw _ (own_w 29 rfl))) (mvT hZ (hw _ (own_w 28 rfl))) (by decide) (backOf (W := 0) (own_sappN l Z a0 hw [] b1 (own_hx (v2 / (16 : Int32))) bg1 kg1 (4 : Int32) (8 : Int32) [(.int (own_sb v0)), (.int (own_sb v1)), (.int (own_sb (92 : Int32))), (.int (own_sb (120 : Int32)))] zc h9 n0 O E_b1 F_value_b1 F_coder_b1 F_count_b1 E_bg1 V_bg1 (by decide) (by decide) rfl g_b1 g_bg1 (own_le255 (own_hxB ((own_hi bd2.1 bd2.2).2.1) ((own_hi bd2.1 bd2.2).2.2)).2) S_C hzc) hZ (hw _ (own_w 30 rfl)) (hw _ (own_w 7 rfl)) (by decide) (by decide)) qa qc (g := (mkF m 89 (own_L9 ka b1 ka 3 2 k2 v2) [(.int (own_hx (v2 / (16 : Int32)))), (.ref b1)])) rfl (by rw [hml]; rfl) (Steps.refl _) (argsL := [(.int (own_hx (v2 / (16 : Int32))))]) (rest := []) (lenOf own_pd18 rfl) rfl (by show 2 * 0 + _ ≤ _; exact Nat.le_of_eq rfl) (hb hby ep10m2_d89) (fun _ _ => ⟨rfl, eT, (by decide : 3 + 0 ≤ _), (by decide : 25 + 0 ≤ _)⟩)
        dsimp only [Pt.U, Pt.locs, Pt.cells, Pt.slots] at X lq yq zq st hQ
        subst lq yq zq
        obtain ⟨rfl, Nq, Kq, F_value_b1, F_coder_b1, F_count_b1, V_bg1⟩ := hQ
        replace N := Fr.app N Nq
        obtain ⟨h10, eT⟩ : ∃ z, T.heap = z := ⟨_, rfl⟩
        rw [eT] at Kq F_value_b1 F_coder_b1 F_count_b1 V_bg1
        replace E_ka := E_ka.keep Kq
        replace V_ka := V_ka.keep Kq (ninS ne_ka_b1 (ninS ne_ka_bg1 nin0))
        replace E_b1 := E_b1.keep Kq
        replace E_bg1 := E_bg1.keep Kq
        replace O := O.keep Kq (allS g_b1 (allS g_bg1 all0))
        replace K0 := K0.trans Kq (allS (Or.inr sz_b1) (allS (Or.inr sz_bg1) all0))
        refine own_viaT (g' := (mkF m 92 (own_L9 ka b1 ka 3 2 k2 v2) [(.ref b1)])) st ?_
        replace F_count_b1 : Fld Z h10 b1 "java/lang/AbstractStringBuilder" "count" "I" (.int 5) := F_count_b1
        replace V_bg1 : Arv Z h10 bg1 kg1 .byte (8 : Int32) [(.int (own_sb v0)), (.int (own_sb v1)), (.int (own_sb (92 : Int32))), (.int (own_sb (120 : Int32))), (.int (own_sb (own_hx (v2 / (16 : Int32)))))] (.int 0) := V_bg1
        obtain ⟨T, X, eT, st⟩ := getS2 X hx hZ hown (host := "") (Or.inl (hw _ (own_w 78 rfl))) Via.refl eT (S_H.ext O.2) (g := (mkF m 92 (own_L9 ka b1 ka 3 2 k2 v2) [(.ref b1)])) rfl (hb hby ep10m2_d92)
        refine own_via (g' := (mkF m 95 (own_L9 ka b1 ka 3 2 k2 v2) [(.ref wH), (.ref b1)])) st ?_
        refine own_via (g' := (mkF m 100 (own_L9 ka b1 ka 3 2 k2 v2) [(.int (v2 &&& (15 : Int32))), (.ref wH), (.ref b1)])) (fun t_ k_ => XS.iload X.here hx rfl (hb hby ep10m2_d95) rfl (XS.bipush X.here hx rfl (hb hby ep10m2_d97) (XS.iand X.here hx rfl (hb hby ep10m2_d99) rfl k_))) ?_
        rw [(own_lo bd2.1 bd2.2).1]
        have V_wH := VO_wH.ext O.2
        obtain ⟨cl_, Ar_, -, Sz_, Nn_, Hs_, -⟩ := id V_wH
        have hin_ : ¬ ((v2 % (16 : Int32)) < 0 ∨ cl_.slots.size ≤ ((v2 % (16 : Int32))).toNatClampNeg) := inb_of Sz_ (own_in16 ((own_lo bd2.1 bd2.2).2.1) ((own_lo bd2.1 bd2.2).2.2))
        have hat_ : cl_.slots[((v2 % (16 : Int32))).toNatClampNeg]? = some (.int (own_hx (v2 % (16 : Int32)))) := Hs_.at hin_ (hhx _ ((own_lo bd2.1 bd2.2).2.1) ((own_lo bd2.1 bd2.2).2.2))
        refine own_via (g' := (mkF m 101 (own_L9 ka b1 ka 3 2 k2 v2) [(.int (own_hx (v2 % (16 : Int32)))), (.ref b1)])) (fun t_ k_ => X.caload hx (j := (v2 % (16 : Int32))) (v := (.int (own_hx (v2 % (16 : Int32))))) (by rw [eT]; exact Ar_.1) (State.isArrayOf_alike hZ.alike Ar_.2.1) Ar_.2.2 hin_ hat_ (g := (mkF m 100 (own_L9 ka b1 ka 3 2 k2 v2) [(.int (v2 % (16 : Int32))), (.ref wH), (.ref b1)])) rfl rfl (hb hby ep10m2_d100) _ k_) ?_
        clear V_wH
        obtain ⟨cq, kq, qa, qb, qc⟩ := isOf hZ eT E_b1
        obtain ⟨_, _, ⟨T, Lq, kq, nq⟩, -, X, ⟨Lc, hQ, lq, yq, zq⟩, st⟩ := X.virtualBack hx (y := own_y25) (z := own_y25) hown (mvT hZ (hw _ (own_w 26 rfl))) (mvT hZ (hw _ (own_w 27 rfl))) (notFace_of_selects (args := #[]) (mvT hZ (hw _ (own_w 29 rfl)))) (mvT hZ (hw _ (own_w 29 rfl))) (mvT hZ (hw _ (own_w 28 rfl))) (by decide) (backOf (W := 0) (own_sappN l Z a0 hw [] b1 (own_hx (v2 % (16 : Int32))) bg1 kg1 (5 : Int32) (8 : Int32) [(.int (own_sb v0)), (.int (own_sb v1)), (.int (own_sb (92 : Int32))), (.int (own_sb (120 : Int32))), (.int (own_sb (own_hx (v2 / (16 : Int32)))))] zc h10 n0 O E_b1 F_value_b1 F_coder_b1 F_count_b1 E_bg1 V_bg1 (by decide) (by decide) rfl g_b1 g_bg1 (own_le255 (own_hxB ((own_lo bd2.1 bd2.2).2.1) ((own_lo bd2.1 bd2.2).2.2)).2) S_C hzc) hZ (hw _ (own_w 30 rfl)) (hw _ (own_w 7 rfl)) (by decide) (by decide)) qa qc (g := (mkF m 101 (own_L9 ka b1 ka 3 2 k2 v2) [(.int (own_hx (v2 % (16 : Int32)))), (.ref b1)])) rfl (by rw [hml]; rfl) (Steps.refl _) (argsL := [(.int (own_hx (v2 % (16 : Int32))))]) (rest := []) (lenOf own_pd18 rfl) rfl (by show 2 * 0 + _ ≤ _; exact Nat.le_of_eq rfl) (hb hby ep10m2_d101) (fun _ _ => ⟨rfl, eT, (by decide : 3 + 0 ≤ _), (by decide : 25 + 0 ≤ _)⟩)
        dsimp only [Pt.U, Pt.locs, Pt.cells, Pt.slots] at X lq yq zq st hQ
        subst lq yq zq
        obtain ⟨rfl, Nq, Kq, F_value_b1, F_coder_b1, F_count_b1, V_bg1⟩ := hQ
        replace N := Fr.app N Nq
        obtain ⟨h11, eT⟩ : ∃ z, T.heap = z := ⟨_, rfl⟩
        rw [eT] at Kq F_value_b1 F_coder_b1 F_count_b1 V_bg1
        replace E_ka := E_ka.keep Kq
        replace V_ka := V_ka.keep Kq (ninS ne_ka_b1 (ninS ne_ka_bg1 nin0))
        replace E_b1 := E_b1.keep Kq
        replace E_bg1 := E_bg1.keep Kq
        replace O := O.keep Kq (allS g_b1 (allS g_bg1 all0))
        replace K0 := K0.trans Kq (allS (Or.inr sz_b1) (allS (Or.inr sz_bg1) all0))
        refine own_viaT (g' := (mkF m 104 (own_L9 ka b1 ka 3 2 k2 v2) [(.ref b1)])) st ?_
        replace F_count_b1 : Fld Z h11 b1 "java/lang/AbstractStringBuilder" "count" "I" (.int 6) := F_count_b1
        replace V_bg1 : Arv Z h11 bg1 kg1 .byte (8 : Int32) [(.int (own_sb v0)), (.int (own_sb v1)), (.int (own_sb (92 : Int32))), (.int (own_sb (120 : Int32))), (.int (own_sb (own_hx (v2 / (16 : Int32))))), (.int (own_sb (own_hx (v2 % (16 : Int32)))))] (.int 0) := V_bg1
        refine own_via (g' := (mkF m 18 (own_L9 ka b1 ka 3 ((2 : Int32) + (1 : Int32)) k2 v2) [])) (fun t_ k_ => XS.pop X.here hx rfl (hb hby ep10m2_d104) rfl rfl (XS.iinc X.here hx rfl (hb hby ep10m2_d105) rfl (l' := (own_L9 ka b1 ka 3 ((2 : Int32) + (1 : Int32)) k2 v2)) rfl (XS.goto X.here hx rfl (pc0 := 108) (pc' := 18) rfl (hb hby ep10m2_d108) (by decide) (by decide) k_))) ?_
        rw [(by decide : ((2 : Int32) + (1 : Int32)) = (3 : Int32))]
        refine own_via (g' := (mkF m 112 (own_L9 ka b1 ka 3 3 k2 v2) [(.ref b1)])) (fun t_ k_ => XS.iload X.here hx rfl (hb hby ep10m2_d18) rfl (XS.iloadN X.here hx rfl (hb hby ep10m2_d20) rfl (XS.icmpYes X.here hx rfl (pc0 := 21) (pc' := 111) rfl (hb hby ep10m2_d21) rfl (flt (by decide : ¬ ((3 : Int32) < (3 : Int32)))).2.1 (by decide) (by decide) (XS.aloadN X.here hx rfl (hb hby ep10m2_d111) rfl rfl k_)))) ?_
        obtain ⟨cq, kq, qa, qb, qc⟩ := isOf hZ eT E_b1
        obtain ⟨_, _, ⟨T, Lq, kq, nq⟩, -, X, ⟨Lc, hQ, lq, yq, zq⟩, st⟩ := X.virtualBack hx (y := own_y24) (z := own_y24) hown (mvT hZ (hw _ (own_w 80 rfl))) (mvT hZ (hw _ (own_w 81 rfl))) (notFace_of_selects (args := #[]) (mvT hZ (hw _ (own_w 83 rfl)))) (mvT hZ (hw _ (own_w 83 rfl))) (mvT hZ (hw _ (own_w 82 rfl))) (by decide) (backOf (W := 0) (own_ts l Z a0 hw [] b1 bg1 kg1 (6 : Int32) (8 : Int32) [(.int (own_sb v0)), (.int (own_sb v1)), (.int (own_sb (92 : Int32))), (.int (own_sb (120 : Int32))), (.int (own_sb (own_hx (v2 / (16 : Int32))))), (.int (own_sb (own_hx (v2 % (16 : Int32)))))] zc h11 n0 O E_b1 F_value_b1 F_coder_b1 F_count_b1 E_bg1 V_bg1 (by decide) rfl S_C hzc) hZ (hw _ (own_w 84 rfl)) (hw _ (own_w 7 rfl)) (by decide) (by decide)) qa qc (g := (mkF m 112 (own_L9 ka b1 ka 3 3 k2 v2) [(.ref b1)])) rfl (by rw [hml]; rfl) (Steps.refl _) (argsL := []) (rest := []) (lenOf own_pd17 rfl) rfl (by show 2 * 0 + _ ≤ _; exact Nat.le_of_eq rfl) (hb hby ep10m2_d112) (fun _ _ => ⟨rfl, eT, (by decide : 3 + 2 ≤ _), (by decide : 25 + 22 ≤ _)⟩)
        dsimp only [Pt.U, Pt.locs, Pt.cells, Pt.slots] at X lq yq zq st hQ
        subst lq yq zq
        obtain ⟨rr, rb, kr, rfl, Nq, Kq, sz1, sz2, E_rr, F_value_rr, F_coder_rr, V_rb⟩ := hQ
        replace N := Fr.app N Nq
        obtain ⟨h12, eT⟩ : ∃ z, T.heap = z := ⟨_, rfl⟩
        rw [eT] at Kq E_rr F_value_rr F_coder_rr V_rb
        have ne_b1_rr : b1 ≠ rr := Nat.ne_of_lt (Nat.lt_of_lt_of_le E_b1.lt sz1)
        have ne_bg1_rr : bg1 ≠ rr := Nat.ne_of_lt (Nat.lt_of_lt_of_le V_bg1.lt sz1)
        have ne_ka_rr : ka ≠ rr := Nat.ne_of_lt (Nat.lt_of_lt_of_le E_ka.lt sz1)
        have g_rr : n0 ≤ rr := Nat.le_trans (own_le O) sz1
        have sz_rr : h0.size ≤ rr := Nat.le_trans K0.1 sz1
        have ne_b1_rb : b1 ≠ rb := Nat.ne_of_lt (Nat.lt_of_lt_of_le E_b1.lt sz2)
        have ne_bg1_rb : bg1 ≠ rb := Nat.ne_of_lt (Nat.lt_of_lt_of_le V_bg1.lt sz2)
        have ne_ka_rb : ka ≠ rb := Nat.ne_of_lt (Nat.lt_of_lt_of_le E_ka.lt sz2)
        have g_rb : n0 ≤ rb := Nat.le_trans (own_le O) sz2
        have sz_rb : h0.size ≤ rb := Nat.le_trans K0.1 sz2
        replace E_ka := E_ka.keep Kq
        replace V_ka := V_ka.keep Kq nin0
        replace E_b1 := E_b1.keep Kq
        replace F_value_b1 := F_value_b1.keep Kq nin0
        replace F_coder_b1 := F_coder_b1.keep Kq nin0
        replace F_count_b1 := F_count_b1.keep Kq nin0
        replace V_bg1 := V_bg1.keep Kq nin0
        replace E_bg1 := E_bg1.keep Kq
        replace O := O.keep Kq all0
        replace K0 := K0.trans Kq all0
        refine own_viaT (g' := (mkF m 115 (own_L9 ka b1 ka 3 3 k2 v2) [(.ref rr)])) st ?_
        refine own_retW X hx hlk Bd.returns rfl (Or.inr (Or.inr (Or.inr (Or.inr ⟨rfl, rfl, rfl⟩)))) (hb hby ep10m2_d115) (by decide) (by decide) ?_
        rw [eT]
        exact ⟨rr, rb, kr, _, _, rfl, N, K0, sz_rr, sz_rb, E_rr, F_value_rr, F_coder_rr, V_rb, Or.inr (Or.inl ⟨cd0, cd1, cd2, rfl, rfl⟩)⟩
    · refine own_suff (T' := T) (g' := (mkF m 70 (own_L9 ka b1 ka 3 1 k1 v1) [])) (fun kk_ => ?_) ?_
      · rcases own_pe cd1 with q_ | ⟨q_, r_⟩ | ⟨q_, r_, u_⟩
        · refine own_via (g' := (mkF m 70 (own_L9 ka b1 ka 3 1 k1 v1) [])) (fun t_ k_ => XS.iload X.here hx rfl (hb hby ep10m2_d38) rfl (XS.bipush X.here hx rfl (hb hby ep10m2_d40) (XS.icmpYes X.here hx rfl (pc0 := 42) (pc' := 70) rfl (hb hby ep10m2_d42) rfl (tlt q_).1 (by decide) (by decide) k_))) ?_
          exact kk_
        · refine own_via (g' := (mkF m 70 (own_L9 ka b1 ka 3 1 k1 v1) [])) (fun t_ k_ => XS.iload X.here hx rfl (hb hby ep10m2_d38) rfl (XS.bipush X.here hx rfl (hb hby ep10m2_d40) (XS.icmpNo X.here hx rfl (hb hby ep10m2_d42) rfl (flt q_).1 (XS.iload X.here hx rfl (hb hby ep10m2_d45) rfl (XS.bipush X.here hx rfl (hb hby ep10m2_d47) (XS.icmpYes X.here hx rfl (pc0 := 49) (pc' := 70) rfl (hb hby ep10m2_d49) rfl (tlt r_).2.2.1 (by decide) (by decide) k_)))))) ?_
          exact kk_
        · refine own_via (g' := (mkF m 70 (own_L9 ka b1 ka 3 1 k1 v1) [])) (fun t_ k_ => XS.iload X.here hx rfl (hb hby ep10m2_d38) rfl (XS.bipush X.here hx rfl (hb hby ep10m2_d40) (XS.icmpNo X.here hx rfl (hb hby ep10m2_d42) rfl (flt q_).1 (XS.iload X.here hx rfl (hb hby ep10m2_d45) rfl (XS.bipush X.here hx rfl (hb hby ep10m2_d47) (XS.icmpNo X.here hx rfl (hb hby ep10m2_d49) rfl (flt r_).2.2.1 (XS.iload X.here hx rfl (hb hby ep10m2_d52) rfl (XS.bipush X.here hx rfl (hb hby ep10m2_d54) (XS.icmpYes X.here hx rfl (pc0 := 56) (pc' := 70) rfl (hb hby ep10m2_d56) rfl (teq u_).1 (by decide) (by decide) k_))))))))) ?_
          exact kk_
      refine own_via (g' := (mkF m 73 (own_L9 ka b1 ka 3 1 k1 v1) [(.int 92), (.ref b1)])) (fun t_ k_ => XS.aloadN X.here hx rfl (hb hby ep10m2_d70) rfl rfl (XS.bipush X.here hx rfl (hb hby ep10m2_d71) k_)) ?_
      obtain ⟨cq, kq, qa, qb, qc⟩ := isOf hZ eT E_b1
      obtain ⟨_, _, ⟨T, Lq, kq, nq⟩, -, X, ⟨Lc, hQ, lq, yq, zq⟩, st⟩ := X.virtualBack hx (y := own_y25) (z := own_y25) hown (mvT hZ (hw _ (own_w 26 rfl))) (mvT hZ (hw _ (own_w 27 rfl))) (notFace_of_selects (args := #[]) (mvT hZ (hw _ (own_w 29 rfl)))) (mvT hZ (hw _ (own_w 29 rfl))) (mvT hZ (hw _ (own_w 28 rfl))) (by decide) (backOf (W := 0) (own_sappN l Z a0 hw [] b1 (92 : Int32) bn kbn (1 : Int32) (3 : Int32) [(.int (own_sb v0))] zc h4 n0 O E_b1 F_value_b1 F_coder_b1 F_count_b1 E_bn V_bn (by decide) (by decide) rfl g_b1 g_bn (by decide) S_C hzc) hZ (hw _ (own_w 30 rfl)) (hw _ (own_w 7 rfl)) (by decide) (by decide)) qa qc (g := (mkF m 73 (own_L9 ka b1 ka 3 1 k1 v1) [(.int 92), (.ref b1)])) rfl (by rw [hml]; rfl) (Steps.refl _) (argsL := [(.int 92)]) (rest := []) (lenOf own_pd18 rfl) rfl (by show 2 * 0 + _ ≤ _; exact Nat.le_of_eq rfl) (hb hby ep10m2_d73) (fun _ _ => ⟨rfl, eT, (by decide : 2 + 0 ≤ _), (by decide : 7 + 0 ≤ _)⟩)
      dsimp only [Pt.U, Pt.locs, Pt.cells, Pt.slots] at X lq yq zq st hQ
      subst lq yq zq
      obtain ⟨rfl, Nq, Kq, F_value_b1, F_coder_b1, F_count_b1, V_bn⟩ := hQ
      replace N := Fr.app N Nq
      obtain ⟨h13, eT⟩ : ∃ z, T.heap = z := ⟨_, rfl⟩
      rw [eT] at Kq F_value_b1 F_coder_b1 F_count_b1 V_bn
      replace E_ka := E_ka.keep Kq
      replace V_ka := V_ka.keep Kq (ninS ne_ka_b1 (ninS ne_ka_bn nin0))
      replace E_b1 := E_b1.keep Kq
      replace E_bn := E_bn.keep Kq
      replace O := O.keep Kq (allS g_b1 (allS g_bn all0))
      replace K0 := K0.trans Kq (allS (Or.inr sz_b1) (allS (Or.inr sz_bn) all0))
      refine own_viaT (g' := (mkF m 76 (own_L9 ka b1 ka 3 1 k1 v1) [(.ref b1)])) st ?_
      replace F_count_b1 : Fld Z h13 b1 "java/lang/AbstractStringBuilder" "count" "I" (.int 2) := F_count_b1
      replace V_bn : Arv Z h13 bn kbn .byte (3 : Int32) [(.int (own_sb v0)), (.int (own_sb (92 : Int32)))] (.int 0) := V_bn
      refine own_via (g' := (mkF m 78 (own_L9 ka b1 ka 3 1 k1 v1) [(.int 120), (.ref b1)])) (fun t_ k_ => XS.bipush X.here hx rfl (hb hby ep10m2_d76) k_) ?_
      obtain ⟨cq, kq, qa, qb, qc⟩ := isOf hZ eT E_b1
      obtain ⟨_, _, ⟨T, Lq, kq, nq⟩, -, X, ⟨Lc, hQ, lq, yq, zq⟩, st⟩ := X.virtualBack hx (y := own_y25) (z := own_y25) hown (mvT hZ (hw _ (own_w 26 rfl))) (mvT hZ (hw _ (own_w 27 rfl))) (notFace_of_selects (args := #[]) (mvT hZ (hw _ (own_w 29 rfl)))) (mvT hZ (hw _ (own_w 29 rfl))) (mvT hZ (hw _ (own_w 28 rfl))) (by decide) (backOf (W := 0) (own_sappN l Z a0 hw [] b1 (120 : Int32) bn kbn (2 : Int32) (3 : Int32) [(.int (own_sb v0)), (.int (own_sb (92 : Int32)))] zc h13 n0 O E_b1 F_value_b1 F_coder_b1 F_count_b1 E_bn V_bn (by decide) (by decide) rfl g_b1 g_bn (by decide) S_C hzc) hZ (hw _ (own_w 30 rfl)) (hw _ (own_w 7 rfl)) (by decide) (by decide)) qa qc (g := (mkF m 78 (own_L9 ka b1 ka 3 1 k1 v1) [(.int 120), (.ref b1)])) rfl (by rw [hml]; rfl) (Steps.refl _) (argsL := [(.int 120)]) (rest := []) (lenOf own_pd18 rfl) rfl (by show 2 * 0 + _ ≤ _; exact Nat.le_of_eq rfl) (hb hby ep10m2_d78) (fun _ _ => ⟨rfl, eT, (by decide : 2 + 0 ≤ _), (by decide : 7 + 0 ≤ _)⟩)
      dsimp only [Pt.U, Pt.locs, Pt.cells, Pt.slots] at X lq yq zq st hQ
      subst lq yq zq
      obtain ⟨rfl, Nq, Kq, F_value_b1, F_coder_b1, F_count_b1, V_bn⟩ := hQ
      replace N := Fr.app N Nq
      obtain ⟨h14, eT⟩ : ∃ z, T.heap = z := ⟨_, rfl⟩
      rw [eT] at Kq F_value_b1 F_coder_b1 F_count_b1 V_bn
      replace E_ka := E_ka.keep Kq
      replace V_ka := V_ka.keep Kq (ninS ne_ka_b1 (ninS ne_ka_bn nin0))
      replace E_b1 := E_b1.keep Kq
      replace E_bn := E_bn.keep Kq
      replace O := O.keep Kq (allS g_b1 (allS g_bn all0))
      replace K0 := K0.trans Kq (allS (Or.inr sz_b1) (allS (Or.inr sz_bn) all0))
      refine own_viaT (g' := (mkF m 81 (own_L9 ka b1 ka 3 1 k1 v1) [(.ref b1)])) st ?_
      replace F_count_b1 : Fld Z h14 b1 "java/lang/AbstractStringBuilder" "count" "I" (.int 3) := F_count_b1
      replace V_bn : Arv Z h14 bn kbn .byte (3 : Int32) [(.int (own_sb v0)), (.int (own_sb (92 : Int32))), (.int (own_sb (120 : Int32)))] (.int 0) := V_bn
      obtain ⟨T, X, eT, st⟩ := getS2 X hx hZ hown (host := "") (Or.inl (hw _ (own_w 78 rfl))) Via.refl eT (S_H.ext O.2) (g := (mkF m 81 (own_L9 ka b1 ka 3 1 k1 v1) [(.ref b1)])) rfl (hb hby ep10m2_d81)
      refine own_via (g' := (mkF m 84 (own_L9 ka b1 ka 3 1 k1 v1) [(.ref wH), (.ref b1)])) st ?_
      refine own_via (g' := (mkF m 88 (own_L9 ka b1 ka 3 1 k1 v1) [(.int ((v1.toUInt32 >>> ((4 : Int32) &&& 31).toUInt32).toInt32)), (.ref wH), (.ref b1)])) (fun t_ k_ => XS.iload X.here hx rfl (hb hby ep10m2_d84) rfl (XS.iconst X.here hx rfl (hb hby ep10m2_d86) (XS.iushr X.here hx rfl (hb hby ep10m2_d87) rfl k_))) ?_
      rw [(own_hi bd1.1 bd1.2).1]
      have V_wH := VO_wH.ext O.2
      obtain ⟨cl_, Ar_, -, Sz_, Nn_, Hs_, -⟩ := id V_wH
      have hin_ : ¬ ((v1 / (16 : Int32)) < 0 ∨ cl_.slots.size ≤ ((v1 / (16 : Int32))).toNatClampNeg) := inb_of Sz_ (own_in16 ((own_hi bd1.1 bd1.2).2.1) ((own_hi bd1.1 bd1.2).2.2))
      have hat_ : cl_.slots[((v1 / (16 : Int32))).toNatClampNeg]? = some (.int (own_hx (v1 / (16 : Int32)))) := Hs_.at hin_ (hhx _ ((own_hi bd1.1 bd1.2).2.1) ((own_hi bd1.1 bd1.2).2.2))
      refine own_via (g' := (mkF m 89 (own_L9 ka b1 ka 3 1 k1 v1) [(.int (own_hx (v1 / (16 : Int32)))), (.ref b1)])) (fun t_ k_ => X.caload hx (j := (v1 / (16 : Int32))) (v := (.int (own_hx (v1 / (16 : Int32))))) (by rw [eT]; exact Ar_.1) (State.isArrayOf_alike hZ.alike Ar_.2.1) Ar_.2.2 hin_ hat_ (g := (mkF m 88 (own_L9 ka b1 ka 3 1 k1 v1) [(.int (v1 / (16 : Int32))), (.ref wH), (.ref b1)])) rfl rfl (hb hby ep10m2_d88) _ k_) ?_
      clear V_wH
      obtain ⟨cq, kq, qa, qb, qc⟩ := isOf hZ eT E_b1
      obtain ⟨_, _, ⟨T, Lq, kq, nq⟩, -, X, ⟨Lc, hQ, lq, yq, zq⟩, st⟩ := X.virtualBack hx (y := own_y25) (z := own_y25) hown (mvT hZ (hw _ (own_w 26 rfl))) (mvT hZ (hw _ (own_w 27 rfl))) (notFace_of_selects (args := #[]) (mvT hZ (hw _ (own_w 29 rfl)))) (mvT hZ (hw _ (own_w 29 rfl))) (mvT hZ (hw _ (own_w 28 rfl))) (by decide) (backOf (W := 0) (own_sappG l Z a0 hw [] b1 (own_hx (v1 / (16 : Int32))) bn kbn (3 : Int32) [(.int (own_sb v0)), (.int (own_sb (92 : Int32))), (.int (own_sb (120 : Int32)))] zc h14 n0 O E_b1 F_value_b1 F_coder_b1 F_count_b1 E_bn V_bn (by decide) rfl g_b1 (own_le255 (own_hxB ((own_hi bd1.1 bd1.2).2.1) ((own_hi bd1.1 bd1.2).2.2)).2) S_C hzc) hZ (hw _ (own_w 30 rfl)) (hw _ (own_w 7 rfl)) (by decide) (by decide)) qa qc (g := (mkF m 89 (own_L9 ka b1 ka 3 1 k1 v1) [(.int (own_hx (v1 / (16 : Int32)))), (.ref b1)])) rfl (by rw [hml]; rfl) (Steps.refl _) (argsL := [(.int (own_hx (v1 / (16 : Int32))))]) (rest := []) (lenOf own_pd18 rfl) rfl (by show 2 * 0 + _ ≤ _; exact Nat.le_of_eq rfl) (hb hby ep10m2_d89) (fun _ _ => ⟨rfl, eT, (by decide : 2 + 1 ≤ _), (by decide : 7 + 18 ≤ _)⟩)
      dsimp only [Pt.U, Pt.locs, Pt.cells, Pt.slots] at X lq yq zq st hQ
      subst lq yq zq
      obtain ⟨bg1, kg1, rfl, Nq, Kq, szq, F_value_b1, F_coder_b1, F_count_b1, V_bg1, E_bg1⟩ := hQ
      replace N := Fr.app N Nq
      obtain ⟨h15, eT⟩ : ∃ z, T.heap = z := ⟨_, rfl⟩
      rw [eT] at Kq F_value_b1 F_coder_b1 F_count_b1 V_bg1 E_bg1
      have ne_b1_bg1 : b1 ≠ bg1 := Nat.ne_of_lt (Nat.lt_of_lt_of_le E_b1.lt szq)
      have ne_bn_bg1 : bn ≠ bg1 := Nat.ne_of_lt (Nat.lt_of_lt_of_le V_bn.lt szq)
      have ne_ka_bg1 : ka ≠ bg1 := Nat.ne_of_lt (Nat.lt_of_lt_of_le E_ka.lt szq)
      have g_bg1 : n0 ≤ bg1 := Nat.le_trans (own_le O) szq
      have sz_bg1 : h0.size ≤ bg1 := Nat.le_trans K0.1 szq
      replace E_ka := E_ka.keep Kq
      replace V_ka := V_ka.keep Kq (ninS ne_ka_b1 nin0)
      replace E_b1 := E_b1.keep Kq
      replace V_bn := V_bn.keep Kq (ninS (Ne.symm ne_b1_bn) nin0)
      replace E_bn := E_bn.keep Kq
      replace O := O.keep Kq (allS g_b1 all0)
      replace K0 := K0.trans Kq (allS (Or.inr sz_b1) all0)
      refine own_viaT (g' := (mkF m 92 (own_L9 ka b1 ka 3 1 k1 v1) [(.ref b1)])) st ?_
      replace F_count_b1 : Fld Z h15 b1 "java/lang/AbstractStringBuilder" "count" "I" (.int 4) := F_count_b1
      replace V_bg1 : Arv Z h15 bg1 kg1 .byte (8 : Int32) [(.int (own_sb v0)), (.int (own_sb (92 : Int32))), (.int (own_sb (120 : Int32))), (.int (own_sb (own_hx (v1 / (16 : Int32)))))] (.int 0) := V_bg1
      obtain ⟨T, X, eT, st⟩ := getS2 X hx hZ hown (host := "") (Or.inl (hw _ (own_w 78 rfl))) Via.refl eT (S_H.ext O.2) (g := (mkF m 92 (own_L9 ka b1 ka 3 1 k1 v1) [(.ref b1)])) rfl (hb hby ep10m2_d92)
      refine own_via (g' := (mkF m 95 (own_L9 ka b1 ka 3 1 k1 v1) [(.ref wH), (.ref b1)])) st ?_
      refine own_via (g' := (mkF m 100 (own_L9 ka b1 ka 3 1 k1 v1) [(.int (v1 &&& (15 : Int32))), (.ref wH), (.ref b1)])) (fun t_ k_ => XS.iload X.here hx rfl (hb hby ep10m2_d95) rfl (XS.bipush X.here hx rfl (hb hby ep10m2_d97) (XS.iand X.here hx rfl (hb hby ep10m2_d99) rfl k_))) ?_
      rw [(own_lo bd1.1 bd1.2).1]
      have V_wH := VO_wH.ext O.2
      obtain ⟨cl_, Ar_, -, Sz_, Nn_, Hs_, -⟩ := id V_wH
      have hin_ : ¬ ((v1 % (16 : Int32)) < 0 ∨ cl_.slots.size ≤ ((v1 % (16 : Int32))).toNatClampNeg) := inb_of Sz_ (own_in16 ((own_lo bd1.1 bd1.2).2.1) ((own_lo bd1.1 bd1.2).2.2))
      have hat_ : cl_.slots[((v1 % (16 : Int32))).toNatClampNeg]? = some (.int (own_hx (v1 % (16 : Int32)))) := Hs_.at hin_ (hhx _ ((own_lo bd1.1 bd1.2).2.1) ((own_lo bd1.1 bd1.2).2.2))
      refine own_via (g' := (mkF m 101 (own_L9 ka b1 ka 3 1 k1 v1) [(.int (own_hx (v1 % (16 : Int32)))), (.ref b1)])) (fun t_ k_ => X.caload hx (j := (v1 % (16 : Int32))) (v := (.int (own_hx (v1 % (16 : Int32))))) (by rw [eT]; exact Ar_.1) (State.isArrayOf_alike hZ.alike Ar_.2.1) Ar_.2.2 hin_ hat_ (g := (mkF m 100 (own_L9 ka b1 ka 3 1 k1 v1) [(.int (v1 % (16 : Int32))), (.ref wH), (.ref b1)])) rfl rfl (hb hby ep10m2_d100) _ k_) ?_
      clear V_wH
      obtain ⟨cq, kq, qa, qb, qc⟩ := isOf hZ eT E_b1
      obtain ⟨_, _, ⟨T, Lq, kq, nq⟩, -, X, ⟨Lc, hQ, lq, yq, zq⟩, st⟩ := X.virtualBack hx (y := own_y25) (z := own_y25) hown (mvT hZ (hw _ (own_w 26 rfl))) (mvT hZ (hw _ (own_w 27 rfl))) (notFace_of_selects (args := #[]) (mvT hZ (hw _ (own_w 29 rfl)))) (mvT hZ (hw _ (own_w 29 rfl))) (mvT hZ (hw _ (own_w 28 rfl))) (by decide) (backOf (W := 0) (own_sappN l Z a0 hw [] b1 (own_hx (v1 % (16 : Int32))) bg1 kg1 (4 : Int32) (8 : Int32) [(.int (own_sb v0)), (.int (own_sb (92 : Int32))), (.int (own_sb (120 : Int32))), (.int (own_sb (own_hx (v1 / (16 : Int32)))))] zc h15 n0 O E_b1 F_value_b1 F_coder_b1 F_count_b1 E_bg1 V_bg1 (by decide) (by decide) rfl g_b1 g_bg1 (own_le255 (own_hxB ((own_lo bd1.1 bd1.2).2.1) ((own_lo bd1.1 bd1.2).2.2)).2) S_C hzc) hZ (hw _ (own_w 30 rfl)) (hw _ (own_w 7 rfl)) (by decide) (by decide)) qa qc (g := (mkF m 101 (own_L9 ka b1 ka 3 1 k1 v1) [(.int (own_hx (v1 % (16 : Int32)))), (.ref b1)])) rfl (by rw [hml]; rfl) (Steps.refl _) (argsL := [(.int (own_hx (v1 % (16 : Int32))))]) (rest := []) (lenOf own_pd18 rfl) rfl (by show 2 * 0 + _ ≤ _; exact Nat.le_of_eq rfl) (hb hby ep10m2_d101) (fun _ _ => ⟨rfl, eT, (by decide : 3 + 0 ≤ _), (by decide : 25 + 0 ≤ _)⟩)
      dsimp only [Pt.U, Pt.locs, Pt.cells, Pt.slots] at X lq yq zq st hQ
      subst lq yq zq
      obtain ⟨rfl, Nq, Kq, F_value_b1, F_coder_b1, F_count_b1, V_bg1⟩ := hQ
      replace N := Fr.app N Nq
      obtain ⟨h16, eT⟩ : ∃ z, T.heap = z := ⟨_, rfl⟩
      rw [eT] at Kq F_value_b1 F_coder_b1 F_count_b1 V_bg1
      replace E_ka := E_ka.keep Kq
      replace V_ka := V_ka.keep Kq (ninS ne_ka_b1 (ninS ne_ka_bg1 nin0))
      replace E_b1 := E_b1.keep Kq
      replace E_bg1 := E_bg1.keep Kq
      replace O := O.keep Kq (allS g_b1 (allS g_bg1 all0))
      replace K0 := K0.trans Kq (allS (Or.inr sz_b1) (allS (Or.inr sz_bg1) all0))
      refine own_viaT (g' := (mkF m 104 (own_L9 ka b1 ka 3 1 k1 v1) [(.ref b1)])) st ?_
      replace F_count_b1 : Fld Z h16 b1 "java/lang/AbstractStringBuilder" "count" "I" (.int 5) := F_count_b1
      replace V_bg1 : Arv Z h16 bg1 kg1 .byte (8 : Int32) [(.int (own_sb v0)), (.int (own_sb (92 : Int32))), (.int (own_sb (120 : Int32))), (.int (own_sb (own_hx (v1 / (16 : Int32))))), (.int (own_sb (own_hx (v1 % (16 : Int32)))))] (.int 0) := V_bg1
      refine own_via (g' := (mkF m 18 (own_L9 ka b1 ka 3 ((1 : Int32) + (1 : Int32)) k1 v1) [])) (fun t_ k_ => XS.pop X.here hx rfl (hb hby ep10m2_d104) rfl rfl (XS.iinc X.here hx rfl (hb hby ep10m2_d105) rfl (l' := (own_L9 ka b1 ka 3 ((1 : Int32) + (1 : Int32)) k1 v1)) rfl (XS.goto X.here hx rfl (pc0 := 108) (pc' := 18) rfl (hb hby ep10m2_d108) (by decide) (by decide) k_))) ?_
      rw [(by decide : ((1 : Int32) + (1 : Int32)) = (2 : Int32))]
      refine own_via (g' := (mkF m 27 (own_L9 ka b1 ka 3 2 k1 v1) [(.int 2), (.ref ka)])) (fun t_ k_ => XS.iload X.here hx rfl (hb hby ep10m2_d18) rfl (XS.iloadN X.here hx rfl (hb hby ep10m2_d20) rfl (XS.icmpNo X.here hx rfl (hb hby ep10m2_d21) rfl (tlt (by decide : (2 : Int32) < (3 : Int32))).2.1 (XS.aloadN X.here hx rfl (hb hby ep10m2_d24) rfl rfl (XS.iload X.here hx rfl (hb hby ep10m2_d25) rfl k_))))) ?_
      obtain ⟨cl_, Ar_, -, Sz_, Nn_, Hs_, -⟩ := id V_ka
      have hin_ : ¬ ((2 : Int32) < 0 ∨ cl_.slots.size ≤ ((2 : Int32)).toNatClampNeg) := inb_of Sz_ ⟨by decide, by decide⟩
      have hat_ : cl_.slots[((2 : Int32)).toNatClampNeg]? = some (.int k2) := Hs_.at hin_ rfl
      refine own_via (g' := (mkF m 36 (own_L9 ka b1 ka 3 2 k2 v1) [(.int (k2 &&& (255 : Int32)))])) (fun t_ k_ => X.baloadBytes hx (j := (2 : Int32)) (v := (.int k2)) (by rw [eT]; exact Ar_.1) (State.isArrayOf_alike hZ.alike Ar_.2.1) Ar_.2.2 hin_ hat_ (g := (mkF m 27 (own_L9 ka b1 ka 3 2 k1 v1) [(.int 2), (.ref ka)])) rfl rfl (hb hby ep10m2_d27) _ (XS.istore X.here hx rfl (hb hby ep10m2_d28) rfl (l' := (own_L9 ka b1 ka 3 2 k2 v1)) rfl (XS.iload X.here hx rfl (hb hby ep10m2_d30) rfl (XS.sipush X.here hx rfl (hb hby ep10m2_d32) (XS.iand X.here hx rfl (hb hby ep10m2_d35) rfl k_))))) ?_
      rw [ek2]
      refine own_via (g' := (mkF m 38 (own_L9 ka b1 ka 3 2 k2 v2) [])) (fun t_ k_ => XS.istore X.here hx rfl (hb hby ep10m2_d36) rfl (l' := (own_L9 ka b1 ka 3 2 k2 v2)) rfl k_) ?_
      by_cases cd2 : (¬ v2 < (32 : Int32) ∧ ¬ (126 : Int32) < v2 ∧ ¬ v2 = (92 : Int32))
      · refine own_via (g' := (mkF m 60 (own_L9 ka b1 ka 3 2 k2 v2) [(.ref b1)])) (fun t_ k_ => XS.iload X.here hx rfl (hb hby ep10m2_d38) rfl (XS.bipush X.here hx rfl (hb hby ep10m2_d40) (XS.icmpNo X.here hx rfl (hb hby ep10m2_d42) rfl (flt cd2.1).1 (XS.iload X.here hx rfl (hb hby ep10m2_d45) rfl (XS.bipush X.here hx rfl (hb hby ep10m2_d47) (XS.icmpNo X.here hx rfl (hb hby ep10m2_d49) rfl (flt cd2.2.1).2.2.1 (XS.iload X.here hx rfl (hb hby ep10m2_d52) rfl (XS.bipush X.here hx rfl (hb hby ep10m2_d54) (XS.icmpNo X.here hx rfl (hb hby ep10m2_d56) rfl (feq cd2.2.2).1 (XS.aloadN X.here hx rfl (hb hby ep10m2_d59) rfl rfl k_)))))))))) ?_
        refine own_via (g' := (mkF m 63 (own_L9 ka b1 ka 3 2 k2 v2) [(.int (v2.toUInt32.toUInt16.toUInt32.toInt32)), (.ref b1)])) (fun t_ k_ => XS.iload X.here hx rfl (hb hby ep10m2_d60) rfl (XS.i2c X.here hx rfl (hb hby ep10m2_d62) rfl k_)) ?_
        rw [own_i2cS bd2.1 (Int.lt_trans bd2.2 (by decide))]
        obtain ⟨cq, kq, qa, qb, qc⟩ := isOf hZ eT E_b1
        obtain ⟨_, _, ⟨T, Lq, kq, nq⟩, -, X, ⟨Lc, hQ, lq, yq, zq⟩, st⟩ := X.virtualBack hx (y := own_y25) (z := own_y25) hown (mvT hZ (hw _ (own_w 26 rfl))) (mvT hZ (hw _ (own_w 27 rfl))) (notFace_of_selects (args := #[]) (mvT hZ (hw _ (own_w 29 rfl)))) (mvT hZ (hw _ (own_w 29 rfl))) (mvT hZ (hw _ (own_w 28 rfl))) (by decide) (backOf (W := 0) (own_sappN l Z a0 hw [] b1 v2 bg1 kg1 (5 : Int32) (8 : Int32) [(.int (own_sb v0)), (.int (own_sb (92 : Int32))), (.int (own_sb (120 : Int32))), (.int (own_sb (own_hx (v1 / (16 : Int32))))), (.int (own_sb (own_hx (v1 % (16 : Int32)))))] zc h16 n0 O E_b1 F_value_b1 F_coder_b1 F_count_b1 E_bg1 V_bg1 (by decide) (by decide) rfl g_b1 g_bg1 (own_le255 bd2.2) S_C hzc) hZ (hw _ (own_w 30 rfl)) (hw _ (own_w 7 rfl)) (by decide) (by decide)) qa qc (g := (mkF m 63 (own_L9 ka b1 ka 3 2 k2 v2) [(.int v2), (.ref b1)])) rfl (by rw [hml]; rfl) (Steps.refl _) (argsL := [(.int v2)]) (rest := []) (lenOf own_pd18 rfl) rfl (by show 2 * 0 + _ ≤ _; exact Nat.le_of_eq rfl) (hb hby ep10m2_d63) (fun _ _ => ⟨rfl, eT, (by decide : 3 + 0 ≤ _), (by decide : 25 + 0 ≤ _)⟩)
        dsimp only [Pt.U, Pt.locs, Pt.cells, Pt.slots] at X lq yq zq st hQ
        subst lq yq zq
        obtain ⟨rfl, Nq, Kq, F_value_b1, F_coder_b1, F_count_b1, V_bg1⟩ := hQ
        replace N := Fr.app N Nq
        obtain ⟨h17, eT⟩ : ∃ z, T.heap = z := ⟨_, rfl⟩
        rw [eT] at Kq F_value_b1 F_coder_b1 F_count_b1 V_bg1
        replace E_ka := E_ka.keep Kq
        replace V_ka := V_ka.keep Kq (ninS ne_ka_b1 (ninS ne_ka_bg1 nin0))
        replace E_b1 := E_b1.keep Kq
        replace E_bg1 := E_bg1.keep Kq
        replace O := O.keep Kq (allS g_b1 (allS g_bg1 all0))
        replace K0 := K0.trans Kq (allS (Or.inr sz_b1) (allS (Or.inr sz_bg1) all0))
        refine own_viaT (g' := (mkF m 66 (own_L9 ka b1 ka 3 2 k2 v2) [(.ref b1)])) st ?_
        replace F_count_b1 : Fld Z h17 b1 "java/lang/AbstractStringBuilder" "count" "I" (.int 6) := F_count_b1
        replace V_bg1 : Arv Z h17 bg1 kg1 .byte (8 : Int32) [(.int (own_sb v0)), (.int (own_sb (92 : Int32))), (.int (own_sb (120 : Int32))), (.int (own_sb (own_hx (v1 / (16 : Int32))))), (.int (own_sb (own_hx (v1 % (16 : Int32))))), (.int (own_sb v2))] (.int 0) := V_bg1
        refine own_via (g' := (mkF m 18 (own_L9 ka b1 ka 3 ((2 : Int32) + (1 : Int32)) k2 v2) [])) (fun t_ k_ => XS.pop X.here hx rfl (hb hby ep10m2_d66) rfl rfl (XS.goto X.here hx rfl (pc0 := 67) (pc' := 105) rfl (hb hby ep10m2_d67) (by decide) (by decide) (XS.iinc X.here hx rfl (hb hby ep10m2_d105) rfl (l' := (own_L9 ka b1 ka 3 ((2 : Int32) + (1 : Int32)) k2 v2)) rfl (XS.goto X.here hx rfl (pc0 := 108) (pc' := 18) rfl (hb hby ep10m2_d108) (by decide) (by decide) k_)))) ?_
        rw [(by decide : ((2 : Int32) + (1 : Int32)) = (3 : Int32))]
        refine own_via (g' := (mkF m 112 (own_L9 ka b1 ka 3 3 k2 v2) [(.ref b1)])) (fun t_ k_ => XS.iload X.here hx rfl (hb hby ep10m2_d18) rfl (XS.iloadN X.here hx rfl (hb hby ep10m2_d20) rfl (XS.icmpYes X.here hx rfl (pc0 := 21) (pc' := 111) rfl (hb hby ep10m2_d21) rfl (flt (by decide : ¬ ((3 : Int32) < (3 : Int32)))).2.1 (by decide) (by decide) (XS.aloadN X.here hx rfl (hb hby ep10m2_d111) rfl rfl k_)))) ?_
        obtain ⟨cq, kq, qa, qb, qc⟩ := isOf hZ eT E_b1
        obtain ⟨_, _, ⟨T, Lq, kq, nq⟩, -, X, ⟨Lc, hQ, lq, yq, zq⟩, st⟩ := X.virtualBack hx (y := own_y24) (z := own_y24) hown (mvT hZ (hw _ (own_w 80 rfl))) (mvT hZ (hw _ (own_w 81 rfl))) (notFace_of_selects (args := #[]) (mvT hZ (hw _ (own_w 83 rfl)))) (mvT hZ (hw _ (own_w 83 rfl))) (mvT hZ (hw _ (own_w 82 rfl))) (by decide) (backOf (W := 0) (own_ts l Z a0 hw [] b1 bg1 kg1 (6 : Int32) (8 : Int32) [(.int (own_sb v0)), (.int (own_sb (92 : Int32))), (.int (own_sb (120 : Int32))), (.int (own_sb (own_hx (v1 / (16 : Int32))))), (.int (own_sb (own_hx (v1 % (16 : Int32))))), (.int (own_sb v2))] zc h17 n0 O E_b1 F_value_b1 F_coder_b1 F_count_b1 E_bg1 V_bg1 (by decide) rfl S_C hzc) hZ (hw _ (own_w 84 rfl)) (hw _ (own_w 7 rfl)) (by decide) (by decide)) qa qc (g := (mkF m 112 (own_L9 ka b1 ka 3 3 k2 v2) [(.ref b1)])) rfl (by rw [hml]; rfl) (Steps.refl _) (argsL := []) (rest := []) (lenOf own_pd17 rfl) rfl (by show 2 * 0 + _ ≤ _; exact Nat.le_of_eq rfl) (hb hby ep10m2_d112) (fun _ _ => ⟨rfl, eT, (by decide : 3 + 2 ≤ _), (by decide : 25 + 22 ≤ _)⟩)
        dsimp only [Pt.U, Pt.locs, Pt.cells, Pt.slots] at X lq yq zq st hQ
        subst lq yq zq
        obtain ⟨rr, rb, kr, rfl, Nq, Kq, sz1, sz2, E_rr, F_value_rr, F_coder_rr, V_rb⟩ := hQ
        replace N := Fr.app N Nq
        obtain ⟨h18, eT⟩ : ∃ z, T.heap = z := ⟨_, rfl⟩
        rw [eT] at Kq E_rr F_value_rr F_coder_rr V_rb
        have ne_b1_rr : b1 ≠ rr := Nat.ne_of_lt (Nat.lt_of_lt_of_le E_b1.lt sz1)
        have ne_bg1_rr : bg1 ≠ rr := Nat.ne_of_lt (Nat.lt_of_lt_of_le V_bg1.lt sz1)
        have ne_ka_rr : ka ≠ rr := Nat.ne_of_lt (Nat.lt_of_lt_of_le E_ka.lt sz1)
        have g_rr : n0 ≤ rr := Nat.le_trans (own_le O) sz1
        have sz_rr : h0.size ≤ rr := Nat.le_trans K0.1 sz1
        have ne_b1_rb : b1 ≠ rb := Nat.ne_of_lt (Nat.lt_of_lt_of_le E_b1.lt sz2)
        have ne_bg1_rb : bg1 ≠ rb := Nat.ne_of_lt (Nat.lt_of_lt_of_le V_bg1.lt sz2)
        have ne_ka_rb : ka ≠ rb := Nat.ne_of_lt (Nat.lt_of_lt_of_le E_ka.lt sz2)
        have g_rb : n0 ≤ rb := Nat.le_trans (own_le O) sz2
        have sz_rb : h0.size ≤ rb := Nat.le_trans K0.1 sz2
        replace E_ka := E_ka.keep Kq
        replace V_ka := V_ka.keep Kq nin0
        replace E_b1 := E_b1.keep Kq
        replace F_value_b1 := F_value_b1.keep Kq nin0
        replace F_coder_b1 := F_coder_b1.keep Kq nin0
        replace F_count_b1 := F_count_b1.keep Kq nin0
        replace V_bg1 := V_bg1.keep Kq nin0
        replace E_bg1 := E_bg1.keep Kq
        replace O := O.keep Kq all0
        replace K0 := K0.trans Kq all0
        refine own_viaT (g' := (mkF m 115 (own_L9 ka b1 ka 3 3 k2 v2) [(.ref rr)])) st ?_
        refine own_retW X hx hlk Bd.returns rfl (Or.inr (Or.inr (Or.inr (Or.inr ⟨rfl, rfl, rfl⟩)))) (hb hby ep10m2_d115) (by decide) (by decide) ?_
        rw [eT]
        exact ⟨rr, rb, kr, _, _, rfl, N, K0, sz_rr, sz_rb, E_rr, F_value_rr, F_coder_rr, V_rb, Or.inr (Or.inr (Or.inl ⟨cd0, cd1, cd2, rfl, rfl⟩))⟩
      · refine own_suff (T' := T) (g' := (mkF m 70 (own_L9 ka b1 ka 3 2 k2 v2) [])) (fun kk_ => ?_) ?_
        · rcases own_pe cd2 with q_ | ⟨q_, r_⟩ | ⟨q_, r_, u_⟩
          · refine own_via (g' := (mkF m 70 (own_L9 ka b1 ka 3 2 k2 v2) [])) (fun t_ k_ => XS.iload X.here hx rfl (hb hby ep10m2_d38) rfl (XS.bipush X.here hx rfl (hb hby ep10m2_d40) (XS.icmpYes X.here hx rfl (pc0 := 42) (pc' := 70) rfl (hb hby ep10m2_d42) rfl (tlt q_).1 (by decide) (by decide) k_))) ?_
            exact kk_
          · refine own_via (g' := (mkF m 70 (own_L9 ka b1 ka 3 2 k2 v2) [])) (fun t_ k_ => XS.iload X.here hx rfl (hb hby ep10m2_d38) rfl (XS.bipush X.here hx rfl (hb hby ep10m2_d40) (XS.icmpNo X.here hx rfl (hb hby ep10m2_d42) rfl (flt q_).1 (XS.iload X.here hx rfl (hb hby ep10m2_d45) rfl (XS.bipush X.here hx rfl (hb hby ep10m2_d47) (XS.icmpYes X.here hx rfl (pc0 := 49) (pc' := 70) rfl (hb hby ep10m2_d49) rfl (tlt r_).2.2.1 (by decide) (by decide) k_)))))) ?_
            exact kk_
          · refine own_via (g' := (mkF m 70 (own_L9 ka b1 ka 3 2 k2 v2) [])) (fun t_ k_ => XS.iload X.here hx rfl (hb hby ep10m2_d38) rfl (XS.bipush X.here hx rfl (hb hby ep10m2_d40) (XS.icmpNo X.here hx rfl (hb hby ep10m2_d42) rfl (flt q_).1 (XS.iload X.here hx rfl (hb hby ep10m2_d45) rfl (XS.bipush X.here hx rfl (hb hby ep10m2_d47) (XS.icmpNo X.here hx rfl (hb hby ep10m2_d49) rfl (flt r_).2.2.1 (XS.iload X.here hx rfl (hb hby ep10m2_d52) rfl (XS.bipush X.here hx rfl (hb hby ep10m2_d54) (XS.icmpYes X.here hx rfl (pc0 := 56) (pc' := 70) rfl (hb hby ep10m2_d56) rfl (teq u_).1 (by decide) (by decide) k_))))))))) ?_
            exact kk_
        refine own_via (g' := (mkF m 73 (own_L9 ka b1 ka 3 2 k2 v2) [(.int 92), (.ref b1)])) (fun t_ k_ => XS.aloadN X.here hx rfl (hb hby ep10m2_d70) rfl rfl (XS.bipush X.here hx rfl (hb hby ep10m2_d71) k_)) ?_
        obtain ⟨cq, kq, qa, qb, qc⟩ := isOf hZ eT E_b1
        obtain ⟨_, _, ⟨T, Lq, kq, nq⟩, -, X, ⟨Lc, hQ, lq, yq, zq⟩, st⟩ := X.virtualBack hx (y := own_y25) (z := own_y25) hown (mvT hZ (hw _ (own_w 26 rfl))) (mvT hZ (hw _ (own_w 27 rfl))) (notFace_of_selects (args := #[]) (mvT hZ (hw _ (own_w 29 rfl)))) (mvT hZ (hw _ (own_w 29 rfl))) (mvT hZ (hw _ (own_w 28 rfl))) (by decide) (backOf (W := 0) (own_sappN l Z a0 hw [] b1 (92 : Int32) bg1 kg1 (5 : Int32) (8 : Int32) [(.int (own_sb v0)), (.int (own_sb (92 : Int32))), (.int (own_sb (120 : Int32))), (.int (own_sb (own_hx (v1 / (16 : Int32))))), (.int (own_sb (own_hx (v1 % (16 : Int32)))))] zc h16 n0 O E_b1 F_value_b1 F_coder_b1 F_count_b1 E_bg1 V_bg1 (by decide) (by decide) rfl g_b1 g_bg1 (by decide) S_C hzc) hZ (hw _ (own_w 30 rfl)) (hw _ (own_w 7 rfl)) (by decide) (by decide)) qa qc (g := (mkF m 73 (own_L9 ka b1 ka 3 2 k2 v2) [(.int 92), (.ref b1)])) rfl (by rw [hml]; rfl) (Steps.refl _) (argsL := [(.int 92)]) (rest := []) (lenOf own_pd18 rfl) rfl (by show 2 * 0 + _ ≤ _; exact Nat.le_of_eq rfl) (hb hby ep10m2_d73) (fun _ _ => ⟨rfl, eT, (by decide : 3 + 0 ≤ _), (by decide : 25 + 0 ≤ _)⟩)
        dsimp only [Pt.U, Pt.locs, Pt.cells, Pt.slots] at X lq yq zq st hQ
        subst lq yq zq
        obtain ⟨rfl, Nq, Kq, F_value_b1, F_coder_b1, F_count_b1, V_bg1⟩ := hQ
        replace N := Fr.app N Nq
        obtain ⟨h19, eT⟩ : ∃ z, T.heap = z := ⟨_, rfl⟩
        rw [eT] at Kq F_value_b1 F_coder_b1 F_count_b1 V_bg1
        replace E_ka := E_ka.keep Kq
        replace V_ka := V_ka.keep Kq (ninS ne_ka_b1 (ninS ne_ka_bg1 nin0))
        replace E_b1 := E_b1.keep Kq
        replace E_bg1 := E_bg1.keep Kq
        replace O := O.keep Kq (allS g_b1 (allS g_bg1 all0))
        replace K0 := K0.trans Kq (allS (Or.inr sz_b1) (allS (Or.inr sz_bg1) all0))
        refine own_viaT (g' := (mkF m 76 (own_L9 ka b1 ka 3 2 k2 v2) [(.ref b1)])) st ?_
        replace F_count_b1 : Fld Z h19 b1 "java/lang/AbstractStringBuilder" "count" "I" (.int 6) := F_count_b1
        replace V_bg1 : Arv Z h19 bg1 kg1 .byte (8 : Int32) [(.int (own_sb v0)), (.int (own_sb (92 : Int32))), (.int (own_sb (120 : Int32))), (.int (own_sb (own_hx (v1 / (16 : Int32))))), (.int (own_sb (own_hx (v1 % (16 : Int32))))), (.int (own_sb (92 : Int32)))] (.int 0) := V_bg1
        refine own_via (g' := (mkF m 78 (own_L9 ka b1 ka 3 2 k2 v2) [(.int 120), (.ref b1)])) (fun t_ k_ => XS.bipush X.here hx rfl (hb hby ep10m2_d76) k_) ?_
        obtain ⟨cq, kq, qa, qb, qc⟩ := isOf hZ eT E_b1
        obtain ⟨_, _, ⟨T, Lq, kq, nq⟩, -, X, ⟨Lc, hQ, lq, yq, zq⟩, st⟩ := X.virtualBack hx (y := own_y25) (z := own_y25) hown (mvT hZ (hw _ (own_w 26 rfl))) (mvT hZ (hw _ (own_w 27 rfl))) (notFace_of_selects (args := #[]) (mvT hZ (hw _ (own_w 29 rfl)))) (mvT hZ (hw _ (own_w 29 rfl))) (mvT hZ (hw _ (own_w 28 rfl))) (by decide) (backOf (W := 0) (own_sappN l Z a0 hw [] b1 (120 : Int32) bg1 kg1 (6 : Int32) (8 : Int32) [(.int (own_sb v0)), (.int (own_sb (92 : Int32))), (.int (own_sb (120 : Int32))), (.int (own_sb (own_hx (v1 / (16 : Int32))))), (.int (own_sb (own_hx (v1 % (16 : Int32))))), (.int (own_sb (92 : Int32)))] zc h19 n0 O E_b1 F_value_b1 F_coder_b1 F_count_b1 E_bg1 V_bg1 (by decide) (by decide) rfl g_b1 g_bg1 (by decide) S_C hzc) hZ (hw _ (own_w 30 rfl)) (hw _ (own_w 7 rfl)) (by decide) (by decide)) qa qc (g := (mkF m 78 (own_L9 ka b1 ka 3 2 k2 v2) [(.int 120), (.ref b1)])) rfl (by rw [hml]; rfl) (Steps.refl _) (argsL := [(.int 120)]) (rest := []) (lenOf own_pd18 rfl) rfl (by show 2 * 0 + _ ≤ _; exact Nat.le_of_eq rfl) (hb hby ep10m2_d78) (fun _ _ => ⟨rfl, eT, (by decide : 3 + 0 ≤ _), (by decide : 25 + 0 ≤ _)⟩)
        dsimp only [Pt.U, Pt.locs, Pt.cells, Pt.slots] at X lq yq zq st hQ
        subst lq yq zq
        obtain ⟨rfl, Nq, Kq, F_value_b1, F_coder_b1, F_count_b1, V_bg1⟩ := hQ
        replace N := Fr.app N Nq
        obtain ⟨h20, eT⟩ : ∃ z, T.heap = z := ⟨_, rfl⟩
        rw [eT] at Kq F_value_b1 F_coder_b1 F_count_b1 V_bg1
        replace E_ka := E_ka.keep Kq
        replace V_ka := V_ka.keep Kq (ninS ne_ka_b1 (ninS ne_ka_bg1 nin0))
        replace E_b1 := E_b1.keep Kq
        replace E_bg1 := E_bg1.keep Kq
        replace O := O.keep Kq (allS g_b1 (allS g_bg1 all0))
        replace K0 := K0.trans Kq (allS (Or.inr sz_b1) (allS (Or.inr sz_bg1) all0))
        refine own_viaT (g' := (mkF m 81 (own_L9 ka b1 ka 3 2 k2 v2) [(.ref b1)])) st ?_
        replace F_count_b1 : Fld Z h20 b1 "java/lang/AbstractStringBuilder" "count" "I" (.int 7) := F_count_b1
        replace V_bg1 : Arv Z h20 bg1 kg1 .byte (8 : Int32) [(.int (own_sb v0)), (.int (own_sb (92 : Int32))), (.int (own_sb (120 : Int32))), (.int (own_sb (own_hx (v1 / (16 : Int32))))), (.int (own_sb (own_hx (v1 % (16 : Int32))))), (.int (own_sb (92 : Int32))), (.int (own_sb (120 : Int32)))] (.int 0) := V_bg1
        obtain ⟨T, X, eT, st⟩ := getS2 X hx hZ hown (host := "") (Or.inl (hw _ (own_w 78 rfl))) Via.refl eT (S_H.ext O.2) (g := (mkF m 81 (own_L9 ka b1 ka 3 2 k2 v2) [(.ref b1)])) rfl (hb hby ep10m2_d81)
        refine own_via (g' := (mkF m 84 (own_L9 ka b1 ka 3 2 k2 v2) [(.ref wH), (.ref b1)])) st ?_
        refine own_via (g' := (mkF m 88 (own_L9 ka b1 ka 3 2 k2 v2) [(.int ((v2.toUInt32 >>> ((4 : Int32) &&& 31).toUInt32).toInt32)), (.ref wH), (.ref b1)])) (fun t_ k_ => XS.iload X.here hx rfl (hb hby ep10m2_d84) rfl (XS.iconst X.here hx rfl (hb hby ep10m2_d86) (XS.iushr X.here hx rfl (hb hby ep10m2_d87) rfl k_))) ?_
        rw [(own_hi bd2.1 bd2.2).1]
        have V_wH := VO_wH.ext O.2
        obtain ⟨cl_, Ar_, -, Sz_, Nn_, Hs_, -⟩ := id V_wH
        have hin_ : ¬ ((v2 / (16 : Int32)) < 0 ∨ cl_.slots.size ≤ ((v2 / (16 : Int32))).toNatClampNeg) := inb_of Sz_ (own_in16 ((own_hi bd2.1 bd2.2).2.1) ((own_hi bd2.1 bd2.2).2.2))
        have hat_ : cl_.slots[((v2 / (16 : Int32))).toNatClampNeg]? = some (.int (own_hx (v2 / (16 : Int32)))) := Hs_.at hin_ (hhx _ ((own_hi bd2.1 bd2.2).2.1) ((own_hi bd2.1 bd2.2).2.2))
        refine own_via (g' := (mkF m 89 (own_L9 ka b1 ka 3 2 k2 v2) [(.int (own_hx (v2 / (16 : Int32)))), (.ref b1)])) (fun t_ k_ => X.caload hx (j := (v2 / (16 : Int32))) (v := (.int (own_hx (v2 / (16 : Int32))))) (by rw [eT]; exact Ar_.1) (State.isArrayOf_alike hZ.alike Ar_.2.1) Ar_.2.2 hin_ hat_ (g := (mkF m 88 (own_L9 ka b1 ka 3 2 k2 v2) [(.int (v2 / (16 : Int32))), (.ref wH), (.ref b1)])) rfl rfl (hb hby ep10m2_d88) _ k_) ?_
        clear V_wH
        obtain ⟨cq, kq, qa, qb, qc⟩ := isOf hZ eT E_b1
        obtain ⟨_, _, ⟨T, Lq, kq, nq⟩, -, X, ⟨Lc, hQ, lq, yq, zq⟩, st⟩ := X.virtualBack hx (y := own_y25) (z := own_y25) hown (mvT hZ (hw _ (own_w 26 rfl))) (mvT hZ (hw _ (own_w 27 rfl))) (notFace_of_selects (args := #[]) (mvT hZ (hw _ (own_w 29 rfl)))) (mvT hZ (hw _ (own_w 29 rfl))) (mvT hZ (hw _ (own_w 28 rfl))) (by decide) (backOf (W := 0) (own_sappN l Z a0 hw [] b1 (own_hx (v2 / (16 : Int32))) bg1 kg1 (7 : Int32) (8 : Int32) [(.int (own_sb v0)), (.int (own_sb (92 : Int32))), (.int (own_sb (120 : Int32))), (.int (own_sb (own_hx (v1 / (16 : Int32))))), (.int (own_sb (own_hx (v1 % (16 : Int32))))), (.int (own_sb (92 : Int32))), (.int (own_sb (120 : Int32)))] zc h20 n0 O E_b1 F_value_b1 F_coder_b1 F_count_b1 E_bg1 V_bg1 (by decide) (by decide) rfl g_b1 g_bg1 (own_le255 (own_hxB ((own_hi bd2.1 bd2.2).2.1) ((own_hi bd2.1 bd2.2).2.2)).2) S_C hzc) hZ (hw _ (own_w 30 rfl)) (hw _ (own_w 7 rfl)) (by decide) (by decide)) qa qc (g := (mkF m 89 (own_L9 ka b1 ka 3 2 k2 v2) [(.int (own_hx (v2 / (16 : Int32)))), (.ref b1)])) rfl (by rw [hml]; rfl) (Steps.refl _) (argsL := [(.int (own_hx (v2 / (16 : Int32))))]) (rest := []) (lenOf own_pd18 rfl) rfl (by show 2 * 0 + _ ≤ _; exact Nat.le_of_eq rfl) (hb hby ep10m2_d89) (fun _ _ => ⟨rfl, eT, (by decide : 3 + 0 ≤ _), (by decide : 25 + 0 ≤ _)⟩)
        dsimp only [Pt.U, Pt.locs, Pt.cells, Pt.slots] at X lq yq zq st hQ
        subst lq yq zq
        obtain ⟨rfl, Nq, Kq, F_value_b1, F_coder_b1, F_count_b1, V_bg1⟩ := hQ
        replace N := Fr.app N Nq
        obtain ⟨h21, eT⟩ : ∃ z, T.heap = z := ⟨_, rfl⟩
        rw [eT] at Kq F_value_b1 F_coder_b1 F_count_b1 V_bg1
        replace E_ka := E_ka.keep Kq
        replace V_ka := V_ka.keep Kq (ninS ne_ka_b1 (ninS ne_ka_bg1 nin0))
        replace E_b1 := E_b1.keep Kq
        replace E_bg1 := E_bg1.keep Kq
        replace O := O.keep Kq (allS g_b1 (allS g_bg1 all0))
        replace K0 := K0.trans Kq (allS (Or.inr sz_b1) (allS (Or.inr sz_bg1) all0))
        refine own_viaT (g' := (mkF m 92 (own_L9 ka b1 ka 3 2 k2 v2) [(.ref b1)])) st ?_
        replace F_count_b1 : Fld Z h21 b1 "java/lang/AbstractStringBuilder" "count" "I" (.int 8) := F_count_b1
        replace V_bg1 : Arv Z h21 bg1 kg1 .byte (8 : Int32) [(.int (own_sb v0)), (.int (own_sb (92 : Int32))), (.int (own_sb (120 : Int32))), (.int (own_sb (own_hx (v1 / (16 : Int32))))), (.int (own_sb (own_hx (v1 % (16 : Int32))))), (.int (own_sb (92 : Int32))), (.int (own_sb (120 : Int32))), (.int (own_sb (own_hx (v2 / (16 : Int32)))))] (.int 0) := V_bg1
        obtain ⟨T, X, eT, st⟩ := getS2 X hx hZ hown (host := "") (Or.inl (hw _ (own_w 78 rfl))) Via.refl eT (S_H.ext O.2) (g := (mkF m 92 (own_L9 ka b1 ka 3 2 k2 v2) [(.ref b1)])) rfl (hb hby ep10m2_d92)
        refine own_via (g' := (mkF m 95 (own_L9 ka b1 ka 3 2 k2 v2) [(.ref wH), (.ref b1)])) st ?_
        refine own_via (g' := (mkF m 100 (own_L9 ka b1 ka 3 2 k2 v2) [(.int (v2 &&& (15 : Int32))), (.ref wH), (.ref b1)])) (fun t_ k_ => XS.iload X.here hx rfl (hb hby ep10m2_d95) rfl (XS.bipush X.here hx rfl (hb hby ep10m2_d97) (XS.iand X.here hx rfl (hb hby ep10m2_d99) rfl k_))) ?_
        rw [(own_lo bd2.1 bd2.2).1]
        have V_wH := VO_wH.ext O.2
        obtain ⟨cl_, Ar_, -, Sz_, Nn_, Hs_, -⟩ := id V_wH
        have hin_ : ¬ ((v2 % (16 : Int32)) < 0 ∨ cl_.slots.size ≤ ((v2 % (16 : Int32))).toNatClampNeg) := inb_of Sz_ (own_in16 ((own_lo bd2.1 bd2.2).2.1) ((own_lo bd2.1 bd2.2).2.2))
        have hat_ : cl_.slots[((v2 % (16 : Int32))).toNatClampNeg]? = some (.int (own_hx (v2 % (16 : Int32)))) := Hs_.at hin_ (hhx _ ((own_lo bd2.1 bd2.2).2.1) ((own_lo bd2.1 bd2.2).2.2))
        refine own_via (g' := (mkF m 101 (own_L9 ka b1 ka 3 2 k2 v2) [(.int (own_hx (v2 % (16 : Int32)))), (.ref b1)])) (fun t_ k_ => X.caload hx (j := (v2 % (16 : Int32))) (v := (.int (own_hx (v2 % (16 : Int32))))) (by rw [eT]; exact Ar_.1) (State.isArrayOf_alike hZ.alike Ar_.2.1) Ar_.2.2 hin_ hat_ (g := (mkF m 100 (own_L9 ka b1 ka 3 2 k2 v2) [(.int (v2 % (16 : Int32))), (.ref wH), (.ref b1)])) rfl rfl (hb hby ep10m2_d100) _ k_) ?_
        clear V_wH
        obtain ⟨cq, kq, qa, qb, qc⟩ := isOf hZ eT E_b1
        obtain ⟨_, _, ⟨T, Lq, kq, nq⟩, -, X, ⟨Lc, hQ, lq, yq, zq⟩, st⟩ := X.virtualBack hx (y := own_y25) (z := own_y25) hown (mvT hZ (hw _ (own_w 26 rfl))) (mvT hZ (hw _ (own_w 27 rfl))) (notFace_of_selects (args := #[]) (mvT hZ (hw _ (own_w 29 rfl)))) (mvT hZ (hw _ (own_w 29 rfl))) (mvT hZ (hw _ (own_w 28 rfl))) (by decide) (backOf (W := 0) (own_sappG l Z a0 hw [] b1 (own_hx (v2 % (16 : Int32))) bg1 kg1 (8 : Int32) [(.int (own_sb v0)), (.int (own_sb (92 : Int32))), (.int (own_sb (120 : Int32))), (.int (own_sb (own_hx (v1 / (16 : Int32))))), (.int (own_sb (own_hx (v1 % (16 : Int32))))), (.int (own_sb (92 : Int32))), (.int (own_sb (120 : Int32))), (.int (own_sb (own_hx (v2 / (16 : Int32)))))] zc h21 n0 O E_b1 F_value_b1 F_coder_b1 F_count_b1 E_bg1 V_bg1 (by decide) rfl g_b1 (own_le255 (own_hxB ((own_lo bd2.1 bd2.2).2.1) ((own_lo bd2.1 bd2.2).2.2)).2) S_C hzc) hZ (hw _ (own_w 30 rfl)) (hw _ (own_w 7 rfl)) (by decide) (by decide)) qa qc (g := (mkF m 101 (own_L9 ka b1 ka 3 2 k2 v2) [(.int (own_hx (v2 % (16 : Int32)))), (.ref b1)])) rfl (by rw [hml]; rfl) (Steps.refl _) (argsL := [(.int (own_hx (v2 % (16 : Int32))))]) (rest := []) (lenOf own_pd18 rfl) rfl (by show 2 * 0 + _ ≤ _; exact Nat.le_of_eq rfl) (hb hby ep10m2_d101) (fun _ _ => ⟨rfl, eT, (by decide : 3 + 1 ≤ _), (by decide : 25 + 18 ≤ _)⟩)
        dsimp only [Pt.U, Pt.locs, Pt.cells, Pt.slots] at X lq yq zq st hQ
        subst lq yq zq
        obtain ⟨bg2, kg2, rfl, Nq, Kq, szq, F_value_b1, F_coder_b1, F_count_b1, V_bg2, E_bg2⟩ := hQ
        replace N := Fr.app N Nq
        obtain ⟨h22, eT⟩ : ∃ z, T.heap = z := ⟨_, rfl⟩
        rw [eT] at Kq F_value_b1 F_coder_b1 F_count_b1 V_bg2 E_bg2
        have ne_b1_bg2 : b1 ≠ bg2 := Nat.ne_of_lt (Nat.lt_of_lt_of_le E_b1.lt szq)
        have ne_bg1_bg2 : bg1 ≠ bg2 := Nat.ne_of_lt (Nat.lt_of_lt_of_le V_bg1.lt szq)
        have ne_ka_bg2 : ka ≠ bg2 := Nat.ne_of_lt (Nat.lt_of_lt_of_le E_ka.lt szq)
        have g_bg2 : n0 ≤ bg2 := Nat.le_trans (own_le O) szq
        have sz_bg2 : h0.size ≤ bg2 := Nat.le_trans K0.1 szq
        replace E_ka := E_ka.keep Kq
        replace V_ka := V_ka.keep Kq (ninS ne_ka_b1 nin0)
        replace E_b1 := E_b1.keep Kq
        replace V_bg1 := V_bg1.keep Kq (ninS (Ne.symm ne_b1_bg1) nin0)
        replace E_bg1 := E_bg1.keep Kq
        replace O := O.keep Kq (allS g_b1 all0)
        replace K0 := K0.trans Kq (allS (Or.inr sz_b1) all0)
        refine own_viaT (g' := (mkF m 104 (own_L9 ka b1 ka 3 2 k2 v2) [(.ref b1)])) st ?_
        replace F_count_b1 : Fld Z h22 b1 "java/lang/AbstractStringBuilder" "count" "I" (.int 9) := F_count_b1
        replace V_bg2 : Arv Z h22 bg2 kg2 .byte (18 : Int32) [(.int (own_sb v0)), (.int (own_sb (92 : Int32))), (.int (own_sb (120 : Int32))), (.int (own_sb (own_hx (v1 / (16 : Int32))))), (.int (own_sb (own_hx (v1 % (16 : Int32))))), (.int (own_sb (92 : Int32))), (.int (own_sb (120 : Int32))), (.int (own_sb (own_hx (v2 / (16 : Int32))))), (.int (own_sb (own_hx (v2 % (16 : Int32)))))] (.int 0) := V_bg2
        refine own_via (g' := (mkF m 18 (own_L9 ka b1 ka 3 ((2 : Int32) + (1 : Int32)) k2 v2) [])) (fun t_ k_ => XS.pop X.here hx rfl (hb hby ep10m2_d104) rfl rfl (XS.iinc X.here hx rfl (hb hby ep10m2_d105) rfl (l' := (own_L9 ka b1 ka 3 ((2 : Int32) + (1 : Int32)) k2 v2)) rfl (XS.goto X.here hx rfl (pc0 := 108) (pc' := 18) rfl (hb hby ep10m2_d108) (by decide) (by decide) k_))) ?_
        rw [(by decide : ((2 : Int32) + (1 : Int32)) = (3 : Int32))]
        refine own_via (g' := (mkF m 112 (own_L9 ka b1 ka 3 3 k2 v2) [(.ref b1)])) (fun t_ k_ => XS.iload X.here hx rfl (hb hby ep10m2_d18) rfl (XS.iloadN X.here hx rfl (hb hby ep10m2_d20) rfl (XS.icmpYes X.here hx rfl (pc0 := 21) (pc' := 111) rfl (hb hby ep10m2_d21) rfl (flt (by decide : ¬ ((3 : Int32) < (3 : Int32)))).2.1 (by decide) (by decide) (XS.aloadN X.here hx rfl (hb hby ep10m2_d111) rfl rfl k_)))) ?_
        obtain ⟨cq, kq, qa, qb, qc⟩ := isOf hZ eT E_b1
        obtain ⟨_, _, ⟨T, Lq, kq, nq⟩, -, X, ⟨Lc, hQ, lq, yq, zq⟩, st⟩ := X.virtualBack hx (y := own_y24) (z := own_y24) hown (mvT hZ (hw _ (own_w 80 rfl))) (mvT hZ (hw _ (own_w 81 rfl))) (notFace_of_selects (args := #[]) (mvT hZ (hw _ (own_w 83 rfl)))) (mvT hZ (hw _ (own_w 83 rfl))) (mvT hZ (hw _ (own_w 82 rfl))) (by decide) (backOf (W := 0) (own_ts l Z a0 hw [] b1 bg2 kg2 (9 : Int32) (18 : Int32) [(.int (own_sb v0)), (.int (own_sb (92 : Int32))), (.int (own_sb (120 : Int32))), (.int (own_sb (own_hx (v1 / (16 : Int32))))), (.int (own_sb (own_hx (v1 % (16 : Int32))))), (.int (own_sb (92 : Int32))), (.int (own_sb (120 : Int32))), (.int (own_sb (own_hx (v2 / (16 : Int32))))), (.int (own_sb (own_hx (v2 % (16 : Int32)))))] zc h22 n0 O E_b1 F_value_b1 F_coder_b1 F_count_b1 E_bg2 V_bg2 (by decide) rfl S_C hzc) hZ (hw _ (own_w 84 rfl)) (hw _ (own_w 7 rfl)) (by decide) (by decide)) qa qc (g := (mkF m 112 (own_L9 ka b1 ka 3 3 k2 v2) [(.ref b1)])) rfl (by rw [hml]; rfl) (Steps.refl _) (argsL := []) (rest := []) (lenOf own_pd17 rfl) rfl (by show 2 * 0 + _ ≤ _; exact Nat.le_of_eq rfl) (hb hby ep10m2_d112) (fun _ _ => ⟨rfl, eT, (by decide : 4 + 2 ≤ _), (by decide : 43 + 22 ≤ _)⟩)
        dsimp only [Pt.U, Pt.locs, Pt.cells, Pt.slots] at X lq yq zq st hQ
        subst lq yq zq
        obtain ⟨rr, rb, kr, rfl, Nq, Kq, sz1, sz2, E_rr, F_value_rr, F_coder_rr, V_rb⟩ := hQ
        replace N := Fr.app N Nq
        obtain ⟨h23, eT⟩ : ∃ z, T.heap = z := ⟨_, rfl⟩
        rw [eT] at Kq E_rr F_value_rr F_coder_rr V_rb
        have ne_b1_rr : b1 ≠ rr := Nat.ne_of_lt (Nat.lt_of_lt_of_le E_b1.lt sz1)
        have ne_bg2_rr : bg2 ≠ rr := Nat.ne_of_lt (Nat.lt_of_lt_of_le V_bg2.lt sz1)
        have ne_ka_rr : ka ≠ rr := Nat.ne_of_lt (Nat.lt_of_lt_of_le E_ka.lt sz1)
        have g_rr : n0 ≤ rr := Nat.le_trans (own_le O) sz1
        have sz_rr : h0.size ≤ rr := Nat.le_trans K0.1 sz1
        have ne_b1_rb : b1 ≠ rb := Nat.ne_of_lt (Nat.lt_of_lt_of_le E_b1.lt sz2)
        have ne_bg2_rb : bg2 ≠ rb := Nat.ne_of_lt (Nat.lt_of_lt_of_le V_bg2.lt sz2)
        have ne_ka_rb : ka ≠ rb := Nat.ne_of_lt (Nat.lt_of_lt_of_le E_ka.lt sz2)
        have g_rb : n0 ≤ rb := Nat.le_trans (own_le O) sz2
        have sz_rb : h0.size ≤ rb := Nat.le_trans K0.1 sz2
        replace E_ka := E_ka.keep Kq
        replace V_ka := V_ka.keep Kq nin0
        replace E_b1 := E_b1.keep Kq
        replace F_value_b1 := F_value_b1.keep Kq nin0
        replace F_coder_b1 := F_coder_b1.keep Kq nin0
        replace F_count_b1 := F_count_b1.keep Kq nin0
        replace V_bg2 := V_bg2.keep Kq nin0
        replace E_bg2 := E_bg2.keep Kq
        replace O := O.keep Kq all0
        replace K0 := K0.trans Kq all0
        refine own_viaT (g' := (mkF m 115 (own_L9 ka b1 ka 3 3 k2 v2) [(.ref rr)])) st ?_
        refine own_retW X hx hlk Bd.returns rfl (Or.inr (Or.inr (Or.inr (Or.inr ⟨rfl, rfl, rfl⟩)))) (hb hby ep10m2_d115) (by decide) (by decide) ?_
        rw [eT]
        exact ⟨rr, rb, kr, _, _, rfl, N, K0, sz_rr, sz_rb, E_rr, F_value_rr, F_coder_rr, V_rb, Or.inr (Or.inr (Or.inr (Or.inl ⟨cd0, cd1, cd2, rfl, rfl⟩)))⟩
  · refine own_suff (T' := T) (g' := (mkF m 70 (own_L9 ka b1 ka 3 0 k0 v0) [])) (fun kk_ => ?_) ?_
    · rcases own_pe cd0 with q_ | ⟨q_, r_⟩ | ⟨q_, r_, u_⟩
      · refine own_via (g' := (mkF m 70 (own_L9 ka b1 ka 3 0 k0 v0) [])) (fun t_ k_ => XS.iload X.here hx rfl (hb hby ep10m2_d38) rfl (XS.bipush X.here hx rfl (hb hby ep10m2_d40) (XS.icmpYes X.here hx rfl (pc0 := 42) (pc' := 70) rfl (hb hby ep10m2_d42) rfl (tlt q_).1 (by decide) (by decide) k_))) ?_
        exact kk_
      · refine own_via (g' := (mkF m 70 (own_L9 ka b1 ka 3 0 k0 v0) [])) (fun t_ k_ => XS.iload X.here hx rfl (hb hby ep10m2_d38) rfl (XS.bipush X.here hx rfl (hb hby ep10m2_d40) (XS.icmpNo X.here hx rfl (hb hby ep10m2_d42) rfl (flt q_).1 (XS.iload X.here hx rfl (hb hby ep10m2_d45) rfl (XS.bipush X.here hx rfl (hb hby ep10m2_d47) (XS.icmpYes X.here hx rfl (pc0 := 49) (pc' := 70) rfl (hb hby ep10m2_d49) rfl (tlt r_).2.2.1 (by decide) (by decide) k_)))))) ?_
        exact kk_
      · refine own_via (g' := (mkF m 70 (own_L9 ka b1 ka 3 0 k0 v0) [])) (fun t_ k_ => XS.iload X.here hx rfl (hb hby ep10m2_d38) rfl (XS.bipush X.here hx rfl (hb hby ep10m2_d40) (XS.icmpNo X.here hx rfl (hb hby ep10m2_d42) rfl (flt q_).1 (XS.iload X.here hx rfl (hb hby ep10m2_d45) rfl (XS.bipush X.here hx rfl (hb hby ep10m2_d47) (XS.icmpNo X.here hx rfl (hb hby ep10m2_d49) rfl (flt r_).2.2.1 (XS.iload X.here hx rfl (hb hby ep10m2_d52) rfl (XS.bipush X.here hx rfl (hb hby ep10m2_d54) (XS.icmpYes X.here hx rfl (pc0 := 56) (pc' := 70) rfl (hb hby ep10m2_d56) rfl (teq u_).1 (by decide) (by decide) k_))))))))) ?_
        exact kk_
    refine own_via (g' := (mkF m 73 (own_L9 ka b1 ka 3 0 k0 v0) [(.int 92), (.ref b1)])) (fun t_ k_ => XS.aloadN X.here hx rfl (hb hby ep10m2_d70) rfl rfl (XS.bipush X.here hx rfl (hb hby ep10m2_d71) k_)) ?_
    obtain ⟨cq, kq, qa, qb, qc⟩ := isOf hZ eT E_b1
    obtain ⟨_, _, ⟨T, Lq, kq, nq⟩, -, X, ⟨Lc, hQ, lq, yq, zq⟩, st⟩ := X.virtualBack hx (y := own_y25) (z := own_y25) hown (mvT hZ (hw _ (own_w 26 rfl))) (mvT hZ (hw _ (own_w 27 rfl))) (notFace_of_selects (args := #[]) (mvT hZ (hw _ (own_w 29 rfl)))) (mvT hZ (hw _ (own_w 29 rfl))) (mvT hZ (hw _ (own_w 28 rfl))) (by decide) (backOf (W := 0) (own_sappN l Z a0 hw [] b1 (92 : Int32) bn kbn (0 : Int32) (3 : Int32) ([] : List Value) zc h3 n0 O E_b1 F_value_b1 F_coder_b1 F_count_b1 E_bn V_bn (by decide) (by decide) rfl g_b1 g_bn (by decide) S_C hzc) hZ (hw _ (own_w 30 rfl)) (hw _ (own_w 7 rfl)) (by decide) (by decide)) qa qc (g := (mkF m 73 (own_L9 ka b1 ka 3 0 k0 v0) [(.int 92), (.ref b1)])) rfl (by rw [hml]; rfl) (Steps.refl _) (argsL := [(.int 92)]) (rest := []) (lenOf own_pd18 rfl) rfl (by show 2 * 0 + _ ≤ _; exact Nat.le_of_eq rfl) (hb hby ep10m2_d73) (fun _ _ => ⟨rfl, eT, (by decide : 2 + 0 ≤ _), (by decide : 7 + 0 ≤ _)⟩)
    dsimp only [Pt.U, Pt.locs, Pt.cells, Pt.slots] at X lq yq zq st hQ
    subst lq yq zq
    obtain ⟨rfl, Nq, Kq, F_value_b1, F_coder_b1, F_count_b1, V_bn⟩ := hQ
    replace N := Fr.app N Nq
    obtain ⟨h24, eT⟩ : ∃ z, T.heap = z := ⟨_, rfl⟩
    rw [eT] at Kq F_value_b1 F_coder_b1 F_count_b1 V_bn
    replace E_ka := E_ka.keep Kq
    replace V_ka := V_ka.keep Kq (ninS ne_ka_b1 (ninS ne_ka_bn nin0))
    replace E_b1 := E_b1.keep Kq
    replace E_bn := E_bn.keep Kq
    replace O := O.keep Kq (allS g_b1 (allS g_bn all0))
    replace K0 := K0.trans Kq (allS (Or.inr sz_b1) (allS (Or.inr sz_bn) all0))
    refine own_viaT (g' := (mkF m 76 (own_L9 ka b1 ka 3 0 k0 v0) [(.ref b1)])) st ?_
    replace F_count_b1 : Fld Z h24 b1 "java/lang/AbstractStringBuilder" "count" "I" (.int 1) := F_count_b1
    replace V_bn : Arv Z h24 bn kbn .byte (3 : Int32) [(.int (own_sb (92 : Int32)))] (.int 0) := V_bn
    refine own_via (g' := (mkF m 78 (own_L9 ka b1 ka 3 0 k0 v0) [(.int 120), (.ref b1)])) (fun t_ k_ => XS.bipush X.here hx rfl (hb hby ep10m2_d76) k_) ?_
    obtain ⟨cq, kq, qa, qb, qc⟩ := isOf hZ eT E_b1
    obtain ⟨_, _, ⟨T, Lq, kq, nq⟩, -, X, ⟨Lc, hQ, lq, yq, zq⟩, st⟩ := X.virtualBack hx (y := own_y25) (z := own_y25) hown (mvT hZ (hw _ (own_w 26 rfl))) (mvT hZ (hw _ (own_w 27 rfl))) (notFace_of_selects (args := #[]) (mvT hZ (hw _ (own_w 29 rfl)))) (mvT hZ (hw _ (own_w 29 rfl))) (mvT hZ (hw _ (own_w 28 rfl))) (by decide) (backOf (W := 0) (own_sappN l Z a0 hw [] b1 (120 : Int32) bn kbn (1 : Int32) (3 : Int32) [(.int (own_sb (92 : Int32)))] zc h24 n0 O E_b1 F_value_b1 F_coder_b1 F_count_b1 E_bn V_bn (by decide) (by decide) rfl g_b1 g_bn (by decide) S_C hzc) hZ (hw _ (own_w 30 rfl)) (hw _ (own_w 7 rfl)) (by decide) (by decide)) qa qc (g := (mkF m 78 (own_L9 ka b1 ka 3 0 k0 v0) [(.int 120), (.ref b1)])) rfl (by rw [hml]; rfl) (Steps.refl _) (argsL := [(.int 120)]) (rest := []) (lenOf own_pd18 rfl) rfl (by show 2 * 0 + _ ≤ _; exact Nat.le_of_eq rfl) (hb hby ep10m2_d78) (fun _ _ => ⟨rfl, eT, (by decide : 2 + 0 ≤ _), (by decide : 7 + 0 ≤ _)⟩)
    dsimp only [Pt.U, Pt.locs, Pt.cells, Pt.slots] at X lq yq zq st hQ
    subst lq yq zq
    obtain ⟨rfl, Nq, Kq, F_value_b1, F_coder_b1, F_count_b1, V_bn⟩ := hQ
    replace N := Fr.app N Nq
    obtain ⟨h25, eT⟩ : ∃ z, T.heap = z := ⟨_, rfl⟩
    rw [eT] at Kq F_value_b1 F_coder_b1 F_count_b1 V_bn
    replace E_ka := E_ka.keep Kq
    replace V_ka := V_ka.keep Kq (ninS ne_ka_b1 (ninS ne_ka_bn nin0))
    replace E_b1 := E_b1.keep Kq
    replace E_bn := E_bn.keep Kq
    replace O := O.keep Kq (allS g_b1 (allS g_bn all0))
    replace K0 := K0.trans Kq (allS (Or.inr sz_b1) (allS (Or.inr sz_bn) all0))
    refine own_viaT (g' := (mkF m 81 (own_L9 ka b1 ka 3 0 k0 v0) [(.ref b1)])) st ?_
    replace F_count_b1 : Fld Z h25 b1 "java/lang/AbstractStringBuilder" "count" "I" (.int 2) := F_count_b1
    replace V_bn : Arv Z h25 bn kbn .byte (3 : Int32) [(.int (own_sb (92 : Int32))), (.int (own_sb (120 : Int32)))] (.int 0) := V_bn
    obtain ⟨T, X, eT, st⟩ := getS2 X hx hZ hown (host := "") (Or.inl (hw _ (own_w 78 rfl))) Via.refl eT (S_H.ext O.2) (g := (mkF m 81 (own_L9 ka b1 ka 3 0 k0 v0) [(.ref b1)])) rfl (hb hby ep10m2_d81)
    refine own_via (g' := (mkF m 84 (own_L9 ka b1 ka 3 0 k0 v0) [(.ref wH), (.ref b1)])) st ?_
    refine own_via (g' := (mkF m 88 (own_L9 ka b1 ka 3 0 k0 v0) [(.int ((v0.toUInt32 >>> ((4 : Int32) &&& 31).toUInt32).toInt32)), (.ref wH), (.ref b1)])) (fun t_ k_ => XS.iload X.here hx rfl (hb hby ep10m2_d84) rfl (XS.iconst X.here hx rfl (hb hby ep10m2_d86) (XS.iushr X.here hx rfl (hb hby ep10m2_d87) rfl k_))) ?_
    rw [(own_hi bd0.1 bd0.2).1]
    have V_wH := VO_wH.ext O.2
    obtain ⟨cl_, Ar_, -, Sz_, Nn_, Hs_, -⟩ := id V_wH
    have hin_ : ¬ ((v0 / (16 : Int32)) < 0 ∨ cl_.slots.size ≤ ((v0 / (16 : Int32))).toNatClampNeg) := inb_of Sz_ (own_in16 ((own_hi bd0.1 bd0.2).2.1) ((own_hi bd0.1 bd0.2).2.2))
    have hat_ : cl_.slots[((v0 / (16 : Int32))).toNatClampNeg]? = some (.int (own_hx (v0 / (16 : Int32)))) := Hs_.at hin_ (hhx _ ((own_hi bd0.1 bd0.2).2.1) ((own_hi bd0.1 bd0.2).2.2))
    refine own_via (g' := (mkF m 89 (own_L9 ka b1 ka 3 0 k0 v0) [(.int (own_hx (v0 / (16 : Int32)))), (.ref b1)])) (fun t_ k_ => X.caload hx (j := (v0 / (16 : Int32))) (v := (.int (own_hx (v0 / (16 : Int32))))) (by rw [eT]; exact Ar_.1) (State.isArrayOf_alike hZ.alike Ar_.2.1) Ar_.2.2 hin_ hat_ (g := (mkF m 88 (own_L9 ka b1 ka 3 0 k0 v0) [(.int (v0 / (16 : Int32))), (.ref wH), (.ref b1)])) rfl rfl (hb hby ep10m2_d88) _ k_) ?_
    clear V_wH
    obtain ⟨cq, kq, qa, qb, qc⟩ := isOf hZ eT E_b1
    obtain ⟨_, _, ⟨T, Lq, kq, nq⟩, -, X, ⟨Lc, hQ, lq, yq, zq⟩, st⟩ := X.virtualBack hx (y := own_y25) (z := own_y25) hown (mvT hZ (hw _ (own_w 26 rfl))) (mvT hZ (hw _ (own_w 27 rfl))) (notFace_of_selects (args := #[]) (mvT hZ (hw _ (own_w 29 rfl)))) (mvT hZ (hw _ (own_w 29 rfl))) (mvT hZ (hw _ (own_w 28 rfl))) (by decide) (backOf (W := 0) (own_sappN l Z a0 hw [] b1 (own_hx (v0 / (16 : Int32))) bn kbn (2 : Int32) (3 : Int32) [(.int (own_sb (92 : Int32))), (.int (own_sb (120 : Int32)))] zc h25 n0 O E_b1 F_value_b1 F_coder_b1 F_count_b1 E_bn V_bn (by decide) (by decide) rfl g_b1 g_bn (own_le255 (own_hxB ((own_hi bd0.1 bd0.2).2.1) ((own_hi bd0.1 bd0.2).2.2)).2) S_C hzc) hZ (hw _ (own_w 30 rfl)) (hw _ (own_w 7 rfl)) (by decide) (by decide)) qa qc (g := (mkF m 89 (own_L9 ka b1 ka 3 0 k0 v0) [(.int (own_hx (v0 / (16 : Int32)))), (.ref b1)])) rfl (by rw [hml]; rfl) (Steps.refl _) (argsL := [(.int (own_hx (v0 / (16 : Int32))))]) (rest := []) (lenOf own_pd18 rfl) rfl (by show 2 * 0 + _ ≤ _; exact Nat.le_of_eq rfl) (hb hby ep10m2_d89) (fun _ _ => ⟨rfl, eT, (by decide : 2 + 0 ≤ _), (by decide : 7 + 0 ≤ _)⟩)
    dsimp only [Pt.U, Pt.locs, Pt.cells, Pt.slots] at X lq yq zq st hQ
    subst lq yq zq
    obtain ⟨rfl, Nq, Kq, F_value_b1, F_coder_b1, F_count_b1, V_bn⟩ := hQ
    replace N := Fr.app N Nq
    obtain ⟨h26, eT⟩ : ∃ z, T.heap = z := ⟨_, rfl⟩
    rw [eT] at Kq F_value_b1 F_coder_b1 F_count_b1 V_bn
    replace E_ka := E_ka.keep Kq
    replace V_ka := V_ka.keep Kq (ninS ne_ka_b1 (ninS ne_ka_bn nin0))
    replace E_b1 := E_b1.keep Kq
    replace E_bn := E_bn.keep Kq
    replace O := O.keep Kq (allS g_b1 (allS g_bn all0))
    replace K0 := K0.trans Kq (allS (Or.inr sz_b1) (allS (Or.inr sz_bn) all0))
    refine own_viaT (g' := (mkF m 92 (own_L9 ka b1 ka 3 0 k0 v0) [(.ref b1)])) st ?_
    replace F_count_b1 : Fld Z h26 b1 "java/lang/AbstractStringBuilder" "count" "I" (.int 3) := F_count_b1
    replace V_bn : Arv Z h26 bn kbn .byte (3 : Int32) [(.int (own_sb (92 : Int32))), (.int (own_sb (120 : Int32))), (.int (own_sb (own_hx (v0 / (16 : Int32)))))] (.int 0) := V_bn
    obtain ⟨T, X, eT, st⟩ := getS2 X hx hZ hown (host := "") (Or.inl (hw _ (own_w 78 rfl))) Via.refl eT (S_H.ext O.2) (g := (mkF m 92 (own_L9 ka b1 ka 3 0 k0 v0) [(.ref b1)])) rfl (hb hby ep10m2_d92)
    refine own_via (g' := (mkF m 95 (own_L9 ka b1 ka 3 0 k0 v0) [(.ref wH), (.ref b1)])) st ?_
    refine own_via (g' := (mkF m 100 (own_L9 ka b1 ka 3 0 k0 v0) [(.int (v0 &&& (15 : Int32))), (.ref wH), (.ref b1)])) (fun t_ k_ => XS.iload X.here hx rfl (hb hby ep10m2_d95) rfl (XS.bipush X.here hx rfl (hb hby ep10m2_d97) (XS.iand X.here hx rfl (hb hby ep10m2_d99) rfl k_))) ?_
    rw [(own_lo bd0.1 bd0.2).1]
    have V_wH := VO_wH.ext O.2
    obtain ⟨cl_, Ar_, -, Sz_, Nn_, Hs_, -⟩ := id V_wH
    have hin_ : ¬ ((v0 % (16 : Int32)) < 0 ∨ cl_.slots.size ≤ ((v0 % (16 : Int32))).toNatClampNeg) := inb_of Sz_ (own_in16 ((own_lo bd0.1 bd0.2).2.1) ((own_lo bd0.1 bd0.2).2.2))
    have hat_ : cl_.slots[((v0 % (16 : Int32))).toNatClampNeg]? = some (.int (own_hx (v0 % (16 : Int32)))) := Hs_.at hin_ (hhx _ ((own_lo bd0.1 bd0.2).2.1) ((own_lo bd0.1 bd0.2).2.2))
    refine own_via (g' := (mkF m 101 (own_L9 ka b1 ka 3 0 k0 v0) [(.int (own_hx (v0 % (16 : Int32)))), (.ref b1)])) (fun t_ k_ => X.caload hx (j := (v0 % (16 : Int32))) (v := (.int (own_hx (v0 % (16 : Int32))))) (by rw [eT]; exact Ar_.1) (State.isArrayOf_alike hZ.alike Ar_.2.1) Ar_.2.2 hin_ hat_ (g := (mkF m 100 (own_L9 ka b1 ka 3 0 k0 v0) [(.int (v0 % (16 : Int32))), (.ref wH), (.ref b1)])) rfl rfl (hb hby ep10m2_d100) _ k_) ?_
    clear V_wH
    obtain ⟨cq, kq, qa, qb, qc⟩ := isOf hZ eT E_b1
    obtain ⟨_, _, ⟨T, Lq, kq, nq⟩, -, X, ⟨Lc, hQ, lq, yq, zq⟩, st⟩ := X.virtualBack hx (y := own_y25) (z := own_y25) hown (mvT hZ (hw _ (own_w 26 rfl))) (mvT hZ (hw _ (own_w 27 rfl))) (notFace_of_selects (args := #[]) (mvT hZ (hw _ (own_w 29 rfl)))) (mvT hZ (hw _ (own_w 29 rfl))) (mvT hZ (hw _ (own_w 28 rfl))) (by decide) (backOf (W := 0) (own_sappG l Z a0 hw [] b1 (own_hx (v0 % (16 : Int32))) bn kbn (3 : Int32) [(.int (own_sb (92 : Int32))), (.int (own_sb (120 : Int32))), (.int (own_sb (own_hx (v0 / (16 : Int32)))))] zc h26 n0 O E_b1 F_value_b1 F_coder_b1 F_count_b1 E_bn V_bn (by decide) rfl g_b1 (own_le255 (own_hxB ((own_lo bd0.1 bd0.2).2.1) ((own_lo bd0.1 bd0.2).2.2)).2) S_C hzc) hZ (hw _ (own_w 30 rfl)) (hw _ (own_w 7 rfl)) (by decide) (by decide)) qa qc (g := (mkF m 101 (own_L9 ka b1 ka 3 0 k0 v0) [(.int (own_hx (v0 % (16 : Int32)))), (.ref b1)])) rfl (by rw [hml]; rfl) (Steps.refl _) (argsL := [(.int (own_hx (v0 % (16 : Int32))))]) (rest := []) (lenOf own_pd18 rfl) rfl (by show 2 * 0 + _ ≤ _; exact Nat.le_of_eq rfl) (hb hby ep10m2_d101) (fun _ _ => ⟨rfl, eT, (by decide : 2 + 1 ≤ _), (by decide : 7 + 18 ≤ _)⟩)
    dsimp only [Pt.U, Pt.locs, Pt.cells, Pt.slots] at X lq yq zq st hQ
    subst lq yq zq
    obtain ⟨bg1, kg1, rfl, Nq, Kq, szq, F_value_b1, F_coder_b1, F_count_b1, V_bg1, E_bg1⟩ := hQ
    replace N := Fr.app N Nq
    obtain ⟨h27, eT⟩ : ∃ z, T.heap = z := ⟨_, rfl⟩
    rw [eT] at Kq F_value_b1 F_coder_b1 F_count_b1 V_bg1 E_bg1
    have ne_b1_bg1 : b1 ≠ bg1 := Nat.ne_of_lt (Nat.lt_of_lt_of_le E_b1.lt szq)
    have ne_bn_bg1 : bn ≠ bg1 := Nat.ne_of_lt (Nat.lt_of_lt_of_le V_bn.lt szq)
    have ne_ka_bg1 : ka ≠ bg1 := Nat.ne_of_lt (Nat.lt_of_lt_of_le E_ka.lt szq)
    have g_bg1 : n0 ≤ bg1 := Nat.le_trans (own_le O) szq
    have sz_bg1 : h0.size ≤ bg1 := Nat.le_trans K0.1 szq
    replace E_ka := E_ka.keep Kq
    replace V_ka := V_ka.keep Kq (ninS ne_ka_b1 nin0)
    replace E_b1 := E_b1.keep Kq
    replace V_bn := V_bn.keep Kq (ninS (Ne.symm ne_b1_bn) nin0)
    replace E_bn := E_bn.keep Kq
    replace O := O.keep Kq (allS g_b1 all0)
    replace K0 := K0.trans Kq (allS (Or.inr sz_b1) all0)
    refine own_viaT (g' := (mkF m 104 (own_L9 ka b1 ka 3 0 k0 v0) [(.ref b1)])) st ?_
    replace F_count_b1 : Fld Z h27 b1 "java/lang/AbstractStringBuilder" "count" "I" (.int 4) := F_count_b1
    replace V_bg1 : Arv Z h27 bg1 kg1 .byte (8 : Int32) [(.int (own_sb (92 : Int32))), (.int (own_sb (120 : Int32))), (.int (own_sb (own_hx (v0 / (16 : Int32))))), (.int (own_sb (own_hx (v0 % (16 : Int32)))))] (.int 0) := V_bg1
    refine own_via (g' := (mkF m 18 (own_L9 ka b1 ka 3 ((0 : Int32) + (1 : Int32)) k0 v0) [])) (fun t_ k_ => XS.pop X.here hx rfl (hb hby ep10m2_d104) rfl rfl (XS.iinc X.here hx rfl (hb hby ep10m2_d105) rfl (l' := (own_L9 ka b1 ka 3 ((0 : Int32) + (1 : Int32)) k0 v0)) rfl (XS.goto X.here hx rfl (pc0 := 108) (pc' := 18) rfl (hb hby ep10m2_d108) (by decide) (by decide) k_))) ?_
    rw [(by decide : ((0 : Int32) + (1 : Int32)) = (1 : Int32))]
    refine own_via (g' := (mkF m 27 (own_L9 ka b1 ka 3 1 k0 v0) [(.int 1), (.ref ka)])) (fun t_ k_ => XS.iload X.here hx rfl (hb hby ep10m2_d18) rfl (XS.iloadN X.here hx rfl (hb hby ep10m2_d20) rfl (XS.icmpNo X.here hx rfl (hb hby ep10m2_d21) rfl (tlt (by decide : (1 : Int32) < (3 : Int32))).2.1 (XS.aloadN X.here hx rfl (hb hby ep10m2_d24) rfl rfl (XS.iload X.here hx rfl (hb hby ep10m2_d25) rfl k_))))) ?_
    obtain ⟨cl_, Ar_, -, Sz_, Nn_, Hs_, -⟩ := id V_ka
    have hin_ : ¬ ((1 : Int32) < 0 ∨ cl_.slots.size ≤ ((1 : Int32)).toNatClampNeg) := inb_of Sz_ ⟨by decide, by decide⟩
    have hat_ : cl_.slots[((1 : Int32)).toNatClampNeg]? = some (.int k1) := Hs_.at hin_ rfl
    refine own_via (g' := (mkF m 36 (own_L9 ka b1 ka 3 1 k1 v0) [(.int (k1 &&& (255 : Int32)))])) (fun t_ k_ => X.baloadBytes hx (j := (1 : Int32)) (v := (.int k1)) (by rw [eT]; exact Ar_.1) (State.isArrayOf_alike hZ.alike Ar_.2.1) Ar_.2.2 hin_ hat_ (g := (mkF m 27 (own_L9 ka b1 ka 3 1 k0 v0) [(.int 1), (.ref ka)])) rfl rfl (hb hby ep10m2_d27) _ (XS.istore X.here hx rfl (hb hby ep10m2_d28) rfl (l' := (own_L9 ka b1 ka 3 1 k1 v0)) rfl (XS.iload X.here hx rfl (hb hby ep10m2_d30) rfl (XS.sipush X.here hx rfl (hb hby ep10m2_d32) (XS.iand X.here hx rfl (hb hby ep10m2_d35) rfl k_))))) ?_
    rw [ek1]
    refine own_via (g' := (mkF m 38 (own_L9 ka b1 ka 3 1 k1 v1) [])) (fun t_ k_ => XS.istore X.here hx rfl (hb hby ep10m2_d36) rfl (l' := (own_L9 ka b1 ka 3 1 k1 v1)) rfl k_) ?_
    by_cases cd1 : (¬ v1 < (32 : Int32) ∧ ¬ (126 : Int32) < v1 ∧ ¬ v1 = (92 : Int32))
    · refine own_via (g' := (mkF m 60 (own_L9 ka b1 ka 3 1 k1 v1) [(.ref b1)])) (fun t_ k_ => XS.iload X.here hx rfl (hb hby ep10m2_d38) rfl (XS.bipush X.here hx rfl (hb hby ep10m2_d40) (XS.icmpNo X.here hx rfl (hb hby ep10m2_d42) rfl (flt cd1.1).1 (XS.iload X.here hx rfl (hb hby ep10m2_d45) rfl (XS.bipush X.here hx rfl (hb hby ep10m2_d47) (XS.icmpNo X.here hx rfl (hb hby ep10m2_d49) rfl (flt cd1.2.1).2.2.1 (XS.iload X.here hx rfl (hb hby ep10m2_d52) rfl (XS.bipush X.here hx rfl (hb hby ep10m2_d54) (XS.icmpNo X.here hx rfl (hb hby ep10m2_d56) rfl (feq cd1.2.2).1 (XS.aloadN X.here hx rfl (hb hby ep10m2_d59) rfl rfl k_)))))))))) ?_
      refine own_via (g' := (mkF m 63 (own_L9 ka b1 ka 3 1 k1 v1) [(.int (v1.toUInt32.toUInt16.toUInt32.toInt32)), (.ref b1)])) (fun t_ k_ => XS.iload X.here hx rfl (hb hby ep10m2_d60) rfl (XS.i2c X.here hx rfl (hb hby ep10m2_d62) rfl k_)) ?_
      rw [own_i2cS bd1.1 (Int.lt_trans bd1.2 (by decide))]
      obtain ⟨cq, kq, qa, qb, qc⟩ := isOf hZ eT E_b1
      obtain ⟨_, _, ⟨T, Lq, kq, nq⟩, -, X, ⟨Lc, hQ, lq, yq, zq⟩, st⟩ := X.virtualBack hx (y := own_y25) (z := own_y25) hown (mvT hZ (hw _ (own_w 26 rfl))) (mvT hZ (hw _ (own_w 27 rfl))) (notFace_of_selects (args := #[]) (mvT hZ (hw _ (own_w 29 rfl)))) (mvT hZ (hw _ (own_w 29 rfl))) (mvT hZ (hw _ (own_w 28 rfl))) (by decide) (backOf (W := 0) (own_sappN l Z a0 hw [] b1 v1 bg1 kg1 (4 : Int32) (8 : Int32) [(.int (own_sb (92 : Int32))), (.int (own_sb (120 : Int32))), (.int (own_sb (own_hx (v0 / (16 : Int32))))), (.int (own_sb (own_hx (v0 % (16 : Int32)))))] zc h27 n0 O E_b1 F_value_b1 F_coder_b1 F_count_b1 E_bg1 V_bg1 (by decide) (by decide) rfl g_b1 g_bg1 (own_le255 bd1.2) S_C hzc) hZ (hw _ (own_w 30 rfl)) (hw _ (own_w 7 rfl)) (by decide) (by decide)) qa qc (g := (mkF m 63 (own_L9 ka b1 ka 3 1 k1 v1) [(.int v1), (.ref b1)])) rfl (by rw [hml]; rfl) (Steps.refl _) (argsL := [(.int v1)]) (rest := []) (lenOf own_pd18 rfl) rfl (by show 2 * 0 + _ ≤ _; exact Nat.le_of_eq rfl) (hb hby ep10m2_d63) (fun _ _ => ⟨rfl, eT, (by decide : 3 + 0 ≤ _), (by decide : 25 + 0 ≤ _)⟩)
      dsimp only [Pt.U, Pt.locs, Pt.cells, Pt.slots] at X lq yq zq st hQ
      subst lq yq zq
      obtain ⟨rfl, Nq, Kq, F_value_b1, F_coder_b1, F_count_b1, V_bg1⟩ := hQ
      replace N := Fr.app N Nq
      obtain ⟨h28, eT⟩ : ∃ z, T.heap = z := ⟨_, rfl⟩
      rw [eT] at Kq F_value_b1 F_coder_b1 F_count_b1 V_bg1
      replace E_ka := E_ka.keep Kq
      replace V_ka := V_ka.keep Kq (ninS ne_ka_b1 (ninS ne_ka_bg1 nin0))
      replace E_b1 := E_b1.keep Kq
      replace E_bg1 := E_bg1.keep Kq
      replace O := O.keep Kq (allS g_b1 (allS g_bg1 all0))
      replace K0 := K0.trans Kq (allS (Or.inr sz_b1) (allS (Or.inr sz_bg1) all0))
      refine own_viaT (g' := (mkF m 66 (own_L9 ka b1 ka 3 1 k1 v1) [(.ref b1)])) st ?_
      replace F_count_b1 : Fld Z h28 b1 "java/lang/AbstractStringBuilder" "count" "I" (.int 5) := F_count_b1
      replace V_bg1 : Arv Z h28 bg1 kg1 .byte (8 : Int32) [(.int (own_sb (92 : Int32))), (.int (own_sb (120 : Int32))), (.int (own_sb (own_hx (v0 / (16 : Int32))))), (.int (own_sb (own_hx (v0 % (16 : Int32))))), (.int (own_sb v1))] (.int 0) := V_bg1
      refine own_via (g' := (mkF m 18 (own_L9 ka b1 ka 3 ((1 : Int32) + (1 : Int32)) k1 v1) [])) (fun t_ k_ => XS.pop X.here hx rfl (hb hby ep10m2_d66) rfl rfl (XS.goto X.here hx rfl (pc0 := 67) (pc' := 105) rfl (hb hby ep10m2_d67) (by decide) (by decide) (XS.iinc X.here hx rfl (hb hby ep10m2_d105) rfl (l' := (own_L9 ka b1 ka 3 ((1 : Int32) + (1 : Int32)) k1 v1)) rfl (XS.goto X.here hx rfl (pc0 := 108) (pc' := 18) rfl (hb hby ep10m2_d108) (by decide) (by decide) k_)))) ?_
      rw [(by decide : ((1 : Int32) + (1 : Int32)) = (2 : Int32))]
      refine own_via (g' := (mkF m 27 (own_L9 ka b1 ka 3 2 k1 v1) [(.int 2), (.ref ka)])) (fun t_ k_ => XS.iload X.here hx rfl (hb hby ep10m2_d18) rfl (XS.iloadN X.here hx rfl (hb hby ep10m2_d20) rfl (XS.icmpNo X.here hx rfl (hb hby ep10m2_d21) rfl (tlt (by decide : (2 : Int32) < (3 : Int32))).2.1 (XS.aloadN X.here hx rfl (hb hby ep10m2_d24) rfl rfl (XS.iload X.here hx rfl (hb hby ep10m2_d25) rfl k_))))) ?_
      obtain ⟨cl_, Ar_, -, Sz_, Nn_, Hs_, -⟩ := id V_ka
      have hin_ : ¬ ((2 : Int32) < 0 ∨ cl_.slots.size ≤ ((2 : Int32)).toNatClampNeg) := inb_of Sz_ ⟨by decide, by decide⟩
      have hat_ : cl_.slots[((2 : Int32)).toNatClampNeg]? = some (.int k2) := Hs_.at hin_ rfl
      refine own_via (g' := (mkF m 36 (own_L9 ka b1 ka 3 2 k2 v1) [(.int (k2 &&& (255 : Int32)))])) (fun t_ k_ => X.baloadBytes hx (j := (2 : Int32)) (v := (.int k2)) (by rw [eT]; exact Ar_.1) (State.isArrayOf_alike hZ.alike Ar_.2.1) Ar_.2.2 hin_ hat_ (g := (mkF m 27 (own_L9 ka b1 ka 3 2 k1 v1) [(.int 2), (.ref ka)])) rfl rfl (hb hby ep10m2_d27) _ (XS.istore X.here hx rfl (hb hby ep10m2_d28) rfl (l' := (own_L9 ka b1 ka 3 2 k2 v1)) rfl (XS.iload X.here hx rfl (hb hby ep10m2_d30) rfl (XS.sipush X.here hx rfl (hb hby ep10m2_d32) (XS.iand X.here hx rfl (hb hby ep10m2_d35) rfl k_))))) ?_
      rw [ek2]
      refine own_via (g' := (mkF m 38 (own_L9 ka b1 ka 3 2 k2 v2) [])) (fun t_ k_ => XS.istore X.here hx rfl (hb hby ep10m2_d36) rfl (l' := (own_L9 ka b1 ka 3 2 k2 v2)) rfl k_) ?_
      by_cases cd2 : (¬ v2 < (32 : Int32) ∧ ¬ (126 : Int32) < v2 ∧ ¬ v2 = (92 : Int32))
      · refine own_via (g' := (mkF m 60 (own_L9 ka b1 ka 3 2 k2 v2) [(.ref b1)])) (fun t_ k_ => XS.iload X.here hx rfl (hb hby ep10m2_d38) rfl (XS.bipush X.here hx rfl (hb hby ep10m2_d40) (XS.icmpNo X.here hx rfl (hb hby ep10m2_d42) rfl (flt cd2.1).1 (XS.iload X.here hx rfl (hb hby ep10m2_d45) rfl (XS.bipush X.here hx rfl (hb hby ep10m2_d47) (XS.icmpNo X.here hx rfl (hb hby ep10m2_d49) rfl (flt cd2.2.1).2.2.1 (XS.iload X.here hx rfl (hb hby ep10m2_d52) rfl (XS.bipush X.here hx rfl (hb hby ep10m2_d54) (XS.icmpNo X.here hx rfl (hb hby ep10m2_d56) rfl (feq cd2.2.2).1 (XS.aloadN X.here hx rfl (hb hby ep10m2_d59) rfl rfl k_)))))))))) ?_
        refine own_via (g' := (mkF m 63 (own_L9 ka b1 ka 3 2 k2 v2) [(.int (v2.toUInt32.toUInt16.toUInt32.toInt32)), (.ref b1)])) (fun t_ k_ => XS.iload X.here hx rfl (hb hby ep10m2_d60) rfl (XS.i2c X.here hx rfl (hb hby ep10m2_d62) rfl k_)) ?_
        rw [own_i2cS bd2.1 (Int.lt_trans bd2.2 (by decide))]
        obtain ⟨cq, kq, qa, qb, qc⟩ := isOf hZ eT E_b1
        obtain ⟨_, _, ⟨T, Lq, kq, nq⟩, -, X, ⟨Lc, hQ, lq, yq, zq⟩, st⟩ := X.virtualBack hx (y := own_y25) (z := own_y25) hown (mvT hZ (hw _ (own_w 26 rfl))) (mvT hZ (hw _ (own_w 27 rfl))) (notFace_of_selects (args := #[]) (mvT hZ (hw _ (own_w 29 rfl)))) (mvT hZ (hw _ (own_w 29 rfl))) (mvT hZ (hw _ (own_w 28 rfl))) (by decide) (backOf (W := 0) (own_sappN l Z a0 hw [] b1 v2 bg1 kg1 (5 : Int32) (8 : Int32) [(.int (own_sb (92 : Int32))), (.int (own_sb (120 : Int32))), (.int (own_sb (own_hx (v0 / (16 : Int32))))), (.int (own_sb (own_hx (v0 % (16 : Int32))))), (.int (own_sb v1))] zc h28 n0 O E_b1 F_value_b1 F_coder_b1 F_count_b1 E_bg1 V_bg1 (by decide) (by decide) rfl g_b1 g_bg1 (own_le255 bd2.2) S_C hzc) hZ (hw _ (own_w 30 rfl)) (hw _ (own_w 7 rfl)) (by decide) (by decide)) qa qc (g := (mkF m 63 (own_L9 ka b1 ka 3 2 k2 v2) [(.int v2), (.ref b1)])) rfl (by rw [hml]; rfl) (Steps.refl _) (argsL := [(.int v2)]) (rest := []) (lenOf own_pd18 rfl) rfl (by show 2 * 0 + _ ≤ _; exact Nat.le_of_eq rfl) (hb hby ep10m2_d63) (fun _ _ => ⟨rfl, eT, (by decide : 3 + 0 ≤ _), (by decide : 25 + 0 ≤ _)⟩)
        dsimp only [Pt.U, Pt.locs, Pt.cells, Pt.slots] at X lq yq zq st hQ
        subst lq yq zq
        obtain ⟨rfl, Nq, Kq, F_value_b1, F_coder_b1, F_count_b1, V_bg1⟩ := hQ
        replace N := Fr.app N Nq
        obtain ⟨h29, eT⟩ : ∃ z, T.heap = z := ⟨_, rfl⟩
        rw [eT] at Kq F_value_b1 F_coder_b1 F_count_b1 V_bg1
        replace E_ka := E_ka.keep Kq
        replace V_ka := V_ka.keep Kq (ninS ne_ka_b1 (ninS ne_ka_bg1 nin0))
        replace E_b1 := E_b1.keep Kq
        replace E_bg1 := E_bg1.keep Kq
        replace O := O.keep Kq (allS g_b1 (allS g_bg1 all0))
        replace K0 := K0.trans Kq (allS (Or.inr sz_b1) (allS (Or.inr sz_bg1) all0))
        refine own_viaT (g' := (mkF m 66 (own_L9 ka b1 ka 3 2 k2 v2) [(.ref b1)])) st ?_
        replace F_count_b1 : Fld Z h29 b1 "java/lang/AbstractStringBuilder" "count" "I" (.int 6) := F_count_b1
        replace V_bg1 : Arv Z h29 bg1 kg1 .byte (8 : Int32) [(.int (own_sb (92 : Int32))), (.int (own_sb (120 : Int32))), (.int (own_sb (own_hx (v0 / (16 : Int32))))), (.int (own_sb (own_hx (v0 % (16 : Int32))))), (.int (own_sb v1)), (.int (own_sb v2))] (.int 0) := V_bg1
        refine own_via (g' := (mkF m 18 (own_L9 ka b1 ka 3 ((2 : Int32) + (1 : Int32)) k2 v2) [])) (fun t_ k_ => XS.pop X.here hx rfl (hb hby ep10m2_d66) rfl rfl (XS.goto X.here hx rfl (pc0 := 67) (pc' := 105) rfl (hb hby ep10m2_d67) (by decide) (by decide) (XS.iinc X.here hx rfl (hb hby ep10m2_d105) rfl (l' := (own_L9 ka b1 ka 3 ((2 : Int32) + (1 : Int32)) k2 v2)) rfl (XS.goto X.here hx rfl (pc0 := 108) (pc' := 18) rfl (hb hby ep10m2_d108) (by decide) (by decide) k_)))) ?_
        rw [(by decide : ((2 : Int32) + (1 : Int32)) = (3 : Int32))]
        refine own_via (g' := (mkF m 112 (own_L9 ka b1 ka 3 3 k2 v2) [(.ref b1)])) (fun t_ k_ => XS.iload X.here hx rfl (hb hby ep10m2_d18) rfl (XS.iloadN X.here hx rfl (hb hby ep10m2_d20) rfl (XS.icmpYes X.here hx rfl (pc0 := 21) (pc' := 111) rfl (hb hby ep10m2_d21) rfl (flt (by decide : ¬ ((3 : Int32) < (3 : Int32)))).2.1 (by decide) (by decide) (XS.aloadN X.here hx rfl (hb hby ep10m2_d111) rfl rfl k_)))) ?_
        obtain ⟨cq, kq, qa, qb, qc⟩ := isOf hZ eT E_b1
        obtain ⟨_, _, ⟨T, Lq, kq, nq⟩, -, X, ⟨Lc, hQ, lq, yq, zq⟩, st⟩ := X.virtualBack hx (y := own_y24) (z := own_y24) hown (mvT hZ (hw _ (own_w 80 rfl))) (mvT hZ (hw _ (own_w 81 rfl))) (notFace_of_selects (args := #[]) (mvT hZ (hw _ (own_w 83 rfl)))) (mvT hZ (hw _ (own_w 83 rfl))) (mvT hZ (hw _ (own_w 82 rfl))) (by decide) (backOf (W := 0) (own_ts l Z a0 hw [] b1 bg1 kg1 (6 : Int32) (8 : Int32) [(.int (own_sb (92 : Int32))), (.int (own_sb (120 : Int32))), (.int (own_sb (own_hx (v0 / (16 : Int32))))), (.int (own_sb (own_hx (v0 % (16 : Int32))))), (.int (own_sb v1)), (.int (own_sb v2))] zc h29 n0 O E_b1 F_value_b1 F_coder_b1 F_count_b1 E_bg1 V_bg1 (by decide) rfl S_C hzc) hZ (hw _ (own_w 84 rfl)) (hw _ (own_w 7 rfl)) (by decide) (by decide)) qa qc (g := (mkF m 112 (own_L9 ka b1 ka 3 3 k2 v2) [(.ref b1)])) rfl (by rw [hml]; rfl) (Steps.refl _) (argsL := []) (rest := []) (lenOf own_pd17 rfl) rfl (by show 2 * 0 + _ ≤ _; exact Nat.le_of_eq rfl) (hb hby ep10m2_d112) (fun _ _ => ⟨rfl, eT, (by decide : 3 + 2 ≤ _), (by decide : 25 + 22 ≤ _)⟩)
        dsimp only [Pt.U, Pt.locs, Pt.cells, Pt.slots] at X lq yq zq st hQ
        subst lq yq zq
        obtain ⟨rr, rb, kr, rfl, Nq, Kq, sz1, sz2, E_rr, F_value_rr, F_coder_rr, V_rb⟩ := hQ
        replace N := Fr.app N Nq
        obtain ⟨h30, eT⟩ : ∃ z, T.heap = z := ⟨_, rfl⟩
        rw [eT] at Kq E_rr F_value_rr F_coder_rr V_rb
        have ne_b1_rr : b1 ≠ rr := Nat.ne_of_lt (Nat.lt_of_lt_of_le E_b1.lt sz1)
        have ne_bg1_rr : bg1 ≠ rr := Nat.ne_of_lt (Nat.lt_of_lt_of_le V_bg1.lt sz1)
        have ne_ka_rr : ka ≠ rr := Nat.ne_of_lt (Nat.lt_of_lt_of_le E_ka.lt sz1)
        have g_rr : n0 ≤ rr := Nat.le_trans (own_le O) sz1
        have sz_rr : h0.size ≤ rr := Nat.le_trans K0.1 sz1
        have ne_b1_rb : b1 ≠ rb := Nat.ne_of_lt (Nat.lt_of_lt_of_le E_b1.lt sz2)
        have ne_bg1_rb : bg1 ≠ rb := Nat.ne_of_lt (Nat.lt_of_lt_of_le V_bg1.lt sz2)
        have ne_ka_rb : ka ≠ rb := Nat.ne_of_lt (Nat.lt_of_lt_of_le E_ka.lt sz2)
        have g_rb : n0 ≤ rb := Nat.le_trans (own_le O) sz2
        have sz_rb : h0.size ≤ rb := Nat.le_trans K0.1 sz2
        replace E_ka := E_ka.keep Kq
        replace V_ka := V_ka.keep Kq nin0
        replace E_b1 := E_b1.keep Kq
        replace F_value_b1 := F_value_b1.keep Kq nin0
        replace F_coder_b1 := F_coder_b1.keep Kq nin0
        replace F_count_b1 := F_count_b1.keep Kq nin0
        replace V_bg1 := V_bg1.keep Kq nin0
        replace E_bg1 := E_bg1.keep Kq
        replace O := O.keep Kq all0
        replace K0 := K0.trans Kq all0
        refine own_viaT (g' := (mkF m 115 (own_L9 ka b1 ka 3 3 k2 v2) [(.ref rr)])) st ?_
        refine own_retW X hx hlk Bd.returns rfl (Or.inr (Or.inr (Or.inr (Or.inr ⟨rfl, rfl, rfl⟩)))) (hb hby ep10m2_d115) (by decide) (by decide) ?_
        rw [eT]
        exact ⟨rr, rb, kr, _, _, rfl, N, K0, sz_rr, sz_rb, E_rr, F_value_rr, F_coder_rr, V_rb, Or.inr (Or.inr (Or.inr (Or.inr (Or.inl ⟨cd0, cd1, cd2, rfl, rfl⟩))))⟩
      · refine own_suff (T' := T) (g' := (mkF m 70 (own_L9 ka b1 ka 3 2 k2 v2) [])) (fun kk_ => ?_) ?_
        · rcases own_pe cd2 with q_ | ⟨q_, r_⟩ | ⟨q_, r_, u_⟩
          · refine own_via (g' := (mkF m 70 (own_L9 ka b1 ka 3 2 k2 v2) [])) (fun t_ k_ => XS.iload X.here hx rfl (hb hby ep10m2_d38) rfl (XS.bipush X.here hx rfl (hb hby ep10m2_d40) (XS.icmpYes X.here hx rfl (pc0 := 42) (pc' := 70) rfl (hb hby ep10m2_d42) rfl (tlt q_).1 (by decide) (by decide) k_))) ?_
            exact kk_
          · refine own_via (g' := (mkF m 70 (own_L9 ka b1 ka 3 2 k2 v2) [])) (fun t_ k_ => XS.iload X.here hx rfl (hb hby ep10m2_d38) rfl (XS.bipush X.here hx rfl (hb hby ep10m2_d40) (XS.icmpNo X.here hx rfl (hb hby ep10m2_d42) rfl (flt q_).1 (XS.iload X.here hx rfl (hb hby ep10m2_d45) rfl (XS.bipush X.here hx rfl (hb hby ep10m2_d47) (XS.icmpYes X.here hx rfl (pc0 := 49) (pc' := 70) rfl (hb hby ep10m2_d49) rfl (tlt r_).2.2.1 (by decide) (by decide) k_)))))) ?_
            exact kk_
          · refine own_via (g' := (mkF m 70 (own_L9 ka b1 ka 3 2 k2 v2) [])) (fun t_ k_ => XS.iload X.here hx rfl (hb hby ep10m2_d38) rfl (XS.bipush X.here hx rfl (hb hby ep10m2_d40) (XS.icmpNo X.here hx rfl (hb hby ep10m2_d42) rfl (flt q_).1 (XS.iload X.here hx rfl (hb hby ep10m2_d45) rfl (XS.bipush X.here hx rfl (hb hby ep10m2_d47) (XS.icmpNo X.here hx rfl (hb hby ep10m2_d49) rfl (flt r_).2.2.1 (XS.iload X.here hx rfl (hb hby ep10m2_d52) rfl (XS.bipush X.here hx rfl (hb hby ep10m2_d54) (XS.icmpYes X.here hx rfl (pc0 := 56) (pc' := 70) rfl (hb hby ep10m2_d56) rfl (teq u_).1 (by decide) (by decide) k_))))))))) ?_
            exact kk_
        refine own_via (g' := (mkF m 73 (own_L9 ka b1 ka 3 2 k2 v2) [(.int 92), (.ref b1)])) (fun t_ k_ => XS.aloadN X.here hx rfl (hb hby ep10m2_d70) rfl rfl (XS.bipush X.here hx rfl (hb hby ep10m2_d71) k_)) ?_
        obtain ⟨cq, kq, qa, qb, qc⟩ := isOf hZ eT E_b1
        obtain ⟨_, _, ⟨T, Lq, kq, nq⟩, -, X, ⟨Lc, hQ, lq, yq, zq⟩, st⟩ := X.virtualBack hx (y := own_y25) (z := own_y25) hown (mvT hZ (hw _ (own_w 26 rfl))) (mvT hZ (hw _ (own_w 27 rfl))) (notFace_of_selects (args := #[]) (mvT hZ (hw _ (own_w 29 rfl)))) (mvT hZ (hw _ (own_w 29 rfl))) (mvT hZ (hw _ (own_w 28 rfl))) (by decide) (backOf (W := 0) (own_sappN l Z a0 hw [] b1 (92 : Int32) bg1 kg1 (5 : Int32) (8 : Int32) [(.int (own_sb (92 : Int32))), (.int (own_sb (120 : Int32))), (.int (own_sb (own_hx (v0 / (16 : Int32))))), (.int (own_sb (own_hx (v0 % (16 : Int32))))), (.int (own_sb v1))] zc h28 n0 O E_b1 F_value_b1 F_coder_b1 F_count_b1 E_bg1 V_bg1 (by decide) (by decide) rfl g_b1 g_bg1 (by decide) S_C hzc) hZ (hw _ (own_w 30 rfl)) (hw _ (own_w 7 rfl)) (by decide) (by decide)) qa qc (g := (mkF m 73 (own_L9 ka b1 ka 3 2 k2 v2) [(.int 92), (.ref b1)])) rfl (by rw [hml]; rfl) (Steps.refl _) (argsL := [(.int 92)]) (rest := []) (lenOf own_pd18 rfl) rfl (by show 2 * 0 + _ ≤ _; exact Nat.le_of_eq rfl) (hb hby ep10m2_d73) (fun _ _ => ⟨rfl, eT, (by decide : 3 + 0 ≤ _), (by decide : 25 + 0 ≤ _)⟩)
        dsimp only [Pt.U, Pt.locs, Pt.cells, Pt.slots] at X lq yq zq st hQ
        subst lq yq zq
        obtain ⟨rfl, Nq, Kq, F_value_b1, F_coder_b1, F_count_b1, V_bg1⟩ := hQ
        replace N := Fr.app N Nq
        obtain ⟨h31, eT⟩ : ∃ z, T.heap = z := ⟨_, rfl⟩
        rw [eT] at Kq F_value_b1 F_coder_b1 F_count_b1 V_bg1
        replace E_ka := E_ka.keep Kq
        replace V_ka := V_ka.keep Kq (ninS ne_ka_b1 (ninS ne_ka_bg1 nin0))
        replace E_b1 := E_b1.keep Kq
        replace E_bg1 := E_bg1.keep Kq
        replace O := O.keep Kq (allS g_b1 (allS g_bg1 all0))
        replace K0 := K0.trans Kq (allS (Or.inr sz_b1) (allS (Or.inr sz_bg1) all0))
        refine own_viaT (g' := (mkF m 76 (own_L9 ka b1 ka 3 2 k2 v2) [(.ref b1)])) st ?_
        replace F_count_b1 : Fld Z h31 b1 "java/lang/AbstractStringBuilder" "count" "I" (.int 6) := F_count_b1
        replace V_bg1 : Arv Z h31 bg1 kg1 .byte (8 : Int32) [(.int (own_sb (92 : Int32))), (.int (own_sb (120 : Int32))), (.int (own_sb (own_hx (v0 / (16 : Int32))))), (.int (own_sb (own_hx (v0 % (16 : Int32))))), (.int (own_sb v1)), (.int (own_sb (92 : Int32)))] (.int 0) := V_bg1
        refine own_via (g' := (mkF m 78 (own_L9 ka b1 ka 3 2 k2 v2) [(.int 120), (.ref b1)])) (fun t_ k_ => XS.bipush X.here hx rfl (hb hby ep10m2_d76) k_) ?_
        obtain ⟨cq, kq, qa, qb, qc⟩ := isOf hZ eT E_b1
        obtain ⟨_, _, ⟨T, Lq, kq, nq⟩, -, X, ⟨Lc, hQ, lq, yq, zq⟩, st⟩ := X.virtualBack hx (y := own_y25) (z := own_y25) hown (mvT hZ (hw _ (own_w 26 rfl))) (mvT hZ (hw _ (own_w 27 rfl))) (notFace_of_selects (args := #[]) (mvT hZ (hw _ (own_w 29 rfl)))) (mvT hZ (hw _ (own_w 29 rfl))) (mvT hZ (hw _ (own_w 28 rfl))) (by decide) (backOf (W := 0) (own_sappN l Z a0 hw [] b1 (120 : Int32) bg1 kg1 (6 : Int32) (8 : Int32) [(.int (own_sb (92 : Int32))), (.int (own_sb (120 : Int32))), (.int (own_sb (own_hx (v0 / (16 : Int32))))), (.int (own_sb (own_hx (v0 % (16 : Int32))))), (.int (own_sb v1)), (.int (own_sb (92 : Int32)))] zc h31 n0 O E_b1 F_value_b1 F_coder_b1 F_count_b1 E_bg1 V_bg1 (by decide) (by decide) rfl g_b1 g_bg1 (by decide) S_C hzc) hZ (hw _ (own_w 30 rfl)) (hw _ (own_w 7 rfl)) (by decide) (by decide)) qa qc (g := (mkF m 78 (own_L9 ka b1 ka 3 2 k2 v2) [(.int 120), (.ref b1)])) rfl (by rw [hml]; rfl) (Steps.refl _) (argsL := [(.int 120)]) (rest := []) (lenOf own_pd18 rfl) rfl (by show 2 * 0 + _ ≤ _; exact Nat.le_of_eq rfl) (hb hby ep10m2_d78) (fun _ _ => ⟨rfl, eT, (by decide : 3 + 0 ≤ _), (by decide : 25 + 0 ≤ _)⟩)
        dsimp only [Pt.U, Pt.locs, Pt.cells, Pt.slots] at X lq yq zq st hQ
        subst lq yq zq
        obtain ⟨rfl, Nq, Kq, F_value_b1, F_coder_b1, F_count_b1, V_bg1⟩ := hQ
        replace N := Fr.app N Nq
        obtain ⟨h32, eT⟩ : ∃ z, T.heap = z := ⟨_, rfl⟩
        rw [eT] at Kq F_value_b1 F_coder_b1 F_count_b1 V_bg1
        replace E_ka := E_ka.keep Kq
        replace V_ka := V_ka.keep Kq (ninS ne_ka_b1 (ninS ne_ka_bg1 nin0))
        replace E_b1 := E_b1.keep Kq
        replace E_bg1 := E_bg1.keep Kq
        replace O := O.keep Kq (allS g_b1 (allS g_bg1 all0))
        replace K0 := K0.trans Kq (allS (Or.inr sz_b1) (allS (Or.inr sz_bg1) all0))
        refine own_viaT (g' := (mkF m 81 (own_L9 ka b1 ka 3 2 k2 v2) [(.ref b1)])) st ?_
        replace F_count_b1 : Fld Z h32 b1 "java/lang/AbstractStringBuilder" "count" "I" (.int 7) := F_count_b1
        replace V_bg1 : Arv Z h32 bg1 kg1 .byte (8 : Int32) [(.int (own_sb (92 : Int32))), (.int (own_sb (120 : Int32))), (.int (own_sb (own_hx (v0 / (16 : Int32))))), (.int (own_sb (own_hx (v0 % (16 : Int32))))), (.int (own_sb v1)), (.int (own_sb (92 : Int32))), (.int (own_sb (120 : Int32)))] (.int 0) := V_bg1
        obtain ⟨T, X, eT, st⟩ := getS2 X hx hZ hown (host := "") (Or.inl (hw _ (own_w 78 rfl))) Via.refl eT (S_H.ext O.2) (g := (mkF m 81 (own_L9 ka b1 ka 3 2 k2 v2) [(.ref b1)])) rfl (hb hby ep10m2_d81)
        refine own_via (g' := (mkF m 84 (own_L9 ka b1 ka 3 2 k2 v2) [(.ref wH), (.ref b1)])) st ?_
        refine own_via (g' := (mkF m 88 (own_L9 ka b1 ka 3 2 k2 v2) [(.int ((v2.toUInt32 >>> ((4 : Int32) &&& 31).toUInt32).toInt32)), (.ref wH), (.ref b1)])) (fun t_ k_ => XS.iload X.here hx rfl (hb hby ep10m2_d84) rfl (XS.iconst X.here hx rfl (hb hby ep10m2_d86) (XS.iushr X.here hx rfl (hb hby ep10m2_d87) rfl k_))) ?_
        rw [(own_hi bd2.1 bd2.2).1]
        have V_wH := VO_wH.ext O.2
        obtain ⟨cl_, Ar_, -, Sz_, Nn_, Hs_, -⟩ := id V_wH
        have hin_ : ¬ ((v2 / (16 : Int32)) < 0 ∨ cl_.slots.size ≤ ((v2 / (16 : Int32))).toNatClampNeg) := inb_of Sz_ (own_in16 ((own_hi bd2.1 bd2.2).2.1) ((own_hi bd2.1 bd2.2).2.2))
        have hat_ : cl_.slots[((v2 / (16 : Int32))).toNatClampNeg]? = some (.int (own_hx (v2 / (16 : Int32)))) := Hs_.at hin_ (hhx _ ((own_hi bd2.1 bd2.2).2.1) ((own_hi bd2.1 bd2.2).2.2))
        refine own_via (g' := (mkF m 89 (own_L9 ka b1 ka 3 2 k2 v2) [(.int (own_hx (v2 / (16 : Int32)))), (.ref b1)])) (fun t_ k_ => X.caload hx (j := (v2 / (16 : Int32))) (v := (.int (own_hx (v2 / (16 : Int32))))) (by rw [eT]; exact Ar_.1) (State.isArrayOf_alike hZ.alike Ar_.2.1) Ar_.2.2 hin_ hat_ (g := (mkF m 88 (own_L9 ka b1 ka 3 2 k2 v2) [(.int (v2 / (16 : Int32))), (.ref wH), (.ref b1)])) rfl rfl (hb hby ep10m2_d88) _ k_) ?_
        clear V_wH
        obtain ⟨cq, kq, qa, qb, qc⟩ := isOf hZ eT E_b1
        obtain ⟨_, _, ⟨T, Lq, kq, nq⟩, -, X, ⟨Lc, hQ, lq, yq, zq⟩, st⟩ := X.virtualBack hx (y := own_y25) (z := own_y25) hown (mvT hZ (hw _ (own_w 26 rfl))) (mvT hZ (hw _ (own_w 27 rfl))) (notFace_of_selects (args := #[]) (mvT hZ (hw _ (own_w 29 rfl)))) (mvT hZ (hw _ (own_w 29 rfl))) (mvT hZ (hw _ (own_w 28 rfl))) (by decide) (backOf (W := 0) (own_sappN l Z a0 hw [] b1 (own_hx (v2 / (16 : Int32))) bg1 kg1 (7 : Int32) (8 : Int32) [(.int (own_sb (92 : Int32))), (.int (own_sb (120 : Int32))), (.int (own_sb (own_hx (v0 / (16 : Int32))))), (.int (own_sb (own_hx (v0 % (16 : Int32))))), (.int (own_sb v1)), (.int (own_sb (92 : Int32))), (.int (own_sb (120 : Int32)))] zc h32 n0 O E_b1 F_value_b1 F_coder_b1 F_count_b1 E_bg1 V_bg1 (by decide) (by decide) rfl g_b1 g_bg1 (own_le255 (own_hxB ((own_hi bd2.1 bd2.2).2.1) ((own_hi bd2.1 bd2.2).2.2)).2) S_C hzc) hZ (hw _ (own_w 30 rfl)) (hw _ (own_w 7 rfl)) (by decide) (by decide)) qa qc (g := (mkF m 89 (own_L9 ka b1 ka 3 2 k2 v2) [(.int (own_hx (v2 / (16 : Int32)))), (.ref b1)])) rfl (by rw [hml]; rfl) (Steps.refl _) (argsL := [(.int (own_hx (v2 / (16 : Int32))))]) (rest := []) (lenOf own_pd18 rfl) rfl (by show 2 * 0 + _ ≤ _; exact Nat.le_of_eq rfl) (hb hby ep10m2_d89) (fun _ _ => ⟨rfl, eT, (by decide : 3 + 0 ≤ _), (by decide : 25 + 0 ≤ _)⟩)
        dsimp only [Pt.U, Pt.locs, Pt.cells, Pt.slots] at X lq yq zq st hQ
        subst lq yq zq
        obtain ⟨rfl, Nq, Kq, F_value_b1, F_coder_b1, F_count_b1, V_bg1⟩ := hQ
        replace N := Fr.app N Nq
        obtain ⟨h33, eT⟩ : ∃ z, T.heap = z := ⟨_, rfl⟩
        rw [eT] at Kq F_value_b1 F_coder_b1 F_count_b1 V_bg1
        replace E_ka := E_ka.keep Kq
        replace V_ka := V_ka.keep Kq (ninS ne_ka_b1 (ninS ne_ka_bg1 nin0))
        replace E_b1 := E_b1.keep Kq
        replace E_bg1 := E_bg1.keep Kq
        replace O := O.keep Kq (allS g_b1 (allS g_bg1 all0))
        replace K0 := K0.trans Kq (allS (Or.inr sz_b1) (allS (Or.inr sz_bg1) all0))
        refine own_viaT (g' := (mkF m 92 (own_L9 ka b1 ka 3 2 k2 v2) [(.ref b1)])) st ?_
        replace F_count_b1 : Fld Z h33 b1 "java/lang/AbstractStringBuilder" "count" "I" (.int 8) := F_count_b1
        replace V_bg1 : Arv Z h33 bg1 kg1 .byte (8 : Int32) [(.int (own_sb (92 : Int32))), (.int (own_sb (120 : Int32))), (.int (own_sb (own_hx (v0 / (16 : Int32))))), (.int (own_sb (own_hx (v0 % (16 : Int32))))), (.int (own_sb v1)), (.int (own_sb (92 : Int32))), (.int (own_sb (120 : Int32))), (.int (own_sb (own_hx (v2 / (16 : Int32)))))] (.int 0) := V_bg1
        obtain ⟨T, X, eT, st⟩ := getS2 X hx hZ hown (host := "") (Or.inl (hw _ (own_w 78 rfl))) Via.refl eT (S_H.ext O.2) (g := (mkF m 92 (own_L9 ka b1 ka 3 2 k2 v2) [(.ref b1)])) rfl (hb hby ep10m2_d92)
        refine own_via (g' := (mkF m 95 (own_L9 ka b1 ka 3 2 k2 v2) [(.ref wH), (.ref b1)])) st ?_
        refine own_via (g' := (mkF m 100 (own_L9 ka b1 ka 3 2 k2 v2) [(.int (v2 &&& (15 : Int32))), (.ref wH), (.ref b1)])) (fun t_ k_ => XS.iload X.here hx rfl (hb hby ep10m2_d95) rfl (XS.bipush X.here hx rfl (hb hby ep10m2_d97) (XS.iand X.here hx rfl (hb hby ep10m2_d99) rfl k_))) ?_
        rw [(own_lo bd2.1 bd2.2).1]
        have V_wH := VO_wH.ext O.2
        obtain ⟨cl_, Ar_, -, Sz_, Nn_, Hs_, -⟩ := id V_wH
        have hin_ : ¬ ((v2 % (16 : Int32)) < 0 ∨ cl_.slots.size ≤ ((v2 % (16 : Int32))).toNatClampNeg) := inb_of Sz_ (own_in16 ((own_lo bd2.1 bd2.2).2.1) ((own_lo bd2.1 bd2.2).2.2))
        have hat_ : cl_.slots[((v2 % (16 : Int32))).toNatClampNeg]? = some (.int (own_hx (v2 % (16 : Int32)))) := Hs_.at hin_ (hhx _ ((own_lo bd2.1 bd2.2).2.1) ((own_lo bd2.1 bd2.2).2.2))
        refine own_via (g' := (mkF m 101 (own_L9 ka b1 ka 3 2 k2 v2) [(.int (own_hx (v2 % (16 : Int32)))), (.ref b1)])) (fun t_ k_ => X.caload hx (j := (v2 % (16 : Int32))) (v := (.int (own_hx (v2 % (16 : Int32))))) (by rw [eT]; exact Ar_.1) (State.isArrayOf_alike hZ.alike Ar_.2.1) Ar_.2.2 hin_ hat_ (g := (mkF m 100 (own_L9 ka b1 ka 3 2 k2 v2) [(.int (v2 % (16 : Int32))), (.ref wH), (.ref b1)])) rfl rfl (hb hby ep10m2_d100) _ k_) ?_
        clear V_wH
        obtain ⟨cq, kq, qa, qb, qc⟩ := isOf hZ eT E_b1
        obtain ⟨_, _, ⟨T, Lq, kq, nq⟩, -, X, ⟨Lc, hQ, lq, yq, zq⟩, st⟩ := X.virtualBack hx (y := own_y25) (z := own_y25) hown (mvT hZ (hw _ (own_w 26 rfl))) (mvT hZ (hw _ (own_w 27 rfl))) (notFace_of_selects (args := #[]) (mvT hZ (hw _ (own_w 29 rfl)))) (mvT hZ (hw _ (own_w 29 rfl))) (mvT hZ (hw _ (own_w 28 rfl))) (by decide) (backOf (W := 0) (own_sappG l Z a0 hw [] b1 (own_hx (v2 % (16 : Int32))) bg1 kg1 (8 : Int32) [(.int (own_sb (92 : Int32))), (.int (own_sb (120 : Int32))), (.int (own_sb (own_hx (v0 / (16 : Int32))))), (.int (own_sb (own_hx (v0 % (16 : Int32))))), (.int (own_sb v1)), (.int (own_sb (92 : Int32))), (.int (own_sb (120 : Int32))), (.int (own_sb (own_hx (v2 / (16 : Int32)))))] zc h33 n0 O E_b1 F_value_b1 F_coder_b1 F_count_b1 E_bg1 V_bg1 (by decide) rfl g_b1 (own_le255 (own_hxB ((own_lo bd2.1 bd2.2).2.1) ((own_lo bd2.1 bd2.2).2.2)).2) S_C hzc) hZ (hw _ (own_w 30 rfl)) (hw _ (own_w 7 rfl)) (by decide) (by decide)) qa qc (g := (mkF m 101 (own_L9 ka b1 ka 3 2 k2 v2) [(.int (own_hx (v2 % (16 : Int32)))), (.ref b1)])) rfl (by rw [hml]; rfl) (Steps.refl _) (argsL := [(.int (own_hx (v2 % (16 : Int32))))]) (rest := []) (lenOf own_pd18 rfl) rfl (by show 2 * 0 + _ ≤ _; exact Nat.le_of_eq rfl) (hb hby ep10m2_d101) (fun _ _ => ⟨rfl, eT, (by decide : 3 + 1 ≤ _), (by decide : 25 + 18 ≤ _)⟩)
        dsimp only [Pt.U, Pt.locs, Pt.cells, Pt.slots] at X lq yq zq st hQ
        subst lq yq zq
        obtain ⟨bg2, kg2, rfl, Nq, Kq, szq, F_value_b1, F_coder_b1, F_count_b1, V_bg2, E_bg2⟩ := hQ
        replace N := Fr.app N Nq
        obtain ⟨h34, eT⟩ : ∃ z, T.heap = z := ⟨_, rfl⟩
        rw [eT] at Kq F_value_b1 F_coder_b1 F_count_b1 V_bg2 E_bg2
        have ne_b1_bg2 : b1 ≠ bg2 := Nat.ne_of_lt (Nat.lt_of_lt_of_le E_b1.lt szq)
        have ne_bg1_bg2 : bg1 ≠ bg2 := Nat.ne_of_lt (Nat.lt_of_lt_of_le V_bg1.lt szq)
        have ne_ka_bg2 : ka ≠ bg2 := Nat.ne_of_lt (Nat.lt_of_lt_of_le E_ka.lt szq)
        have g_bg2 : n0 ≤ bg2 := Nat.le_trans (own_le O) szq
        have sz_bg2 : h0.size ≤ bg2 := Nat.le_trans K0.1 szq
        replace E_ka := E_ka.keep Kq
        replace V_ka := V_ka.keep Kq (ninS ne_ka_b1 nin0)
        replace E_b1 := E_b1.keep Kq
        replace V_bg1 := V_bg1.keep Kq (ninS (Ne.symm ne_b1_bg1) nin0)
        replace E_bg1 := E_bg1.keep Kq
        replace O := O.keep Kq (allS g_b1 all0)
        replace K0 := K0.trans Kq (allS (Or.inr sz_b1) all0)
        refine own_viaT (g' := (mkF m 104 (own_L9 ka b1 ka 3 2 k2 v2) [(.ref b1)])) st ?_
        replace F_count_b1 : Fld Z h34 b1 "java/lang/AbstractStringBuilder" "count" "I" (.int 9) := F_count_b1
        replace V_bg2 : Arv Z h34 bg2 kg2 .byte (18 : Int32) [(.int (own_sb (92 : Int32))), (.int (own_sb (120 : Int32))), (.int (own_sb (own_hx (v0 / (16 : Int32))))), (.int (own_sb (own_hx (v0 % (16 : Int32))))), (.int (own_sb v1)), (.int (own_sb (92 : Int32))), (.int (own_sb (120 : Int32))), (.int (own_sb (own_hx (v2 / (16 : Int32))))), (.int (own_sb (own_hx (v2 % (16 : Int32)))))] (.int 0) := V_bg2
        refine own_via (g' := (mkF m 18 (own_L9 ka b1 ka 3 ((2 : Int32) + (1 : Int32)) k2 v2) [])) (fun t_ k_ => XS.pop X.here hx rfl (hb hby ep10m2_d104) rfl rfl (XS.iinc X.here hx rfl (hb hby ep10m2_d105) rfl (l' := (own_L9 ka b1 ka 3 ((2 : Int32) + (1 : Int32)) k2 v2)) rfl (XS.goto X.here hx rfl (pc0 := 108) (pc' := 18) rfl (hb hby ep10m2_d108) (by decide) (by decide) k_))) ?_
        rw [(by decide : ((2 : Int32) + (1 : Int32)) = (3 : Int32))]
        refine own_via (g' := (mkF m 112 (own_L9 ka b1 ka 3 3 k2 v2) [(.ref b1)])) (fun t_ k_ => XS.iload X.here hx rfl (hb hby ep10m2_d18) rfl (XS.iloadN X.here hx rfl (hb hby ep10m2_d20) rfl (XS.icmpYes X.here hx rfl (pc0 := 21) (pc' := 111) rfl (hb hby ep10m2_d21) rfl (flt (by decide : ¬ ((3 : Int32) < (3 : Int32)))).2.1 (by decide) (by decide) (XS.aloadN X.here hx rfl (hb hby ep10m2_d111) rfl rfl k_)))) ?_
        obtain ⟨cq, kq, qa, qb, qc⟩ := isOf hZ eT E_b1
        obtain ⟨_, _, ⟨T, Lq, kq, nq⟩, -, X, ⟨Lc, hQ, lq, yq, zq⟩, st⟩ := X.virtualBack hx (y := own_y24) (z := own_y24) hown (mvT hZ (hw _ (own_w 80 rfl))) (mvT hZ (hw _ (own_w 81 rfl))) (notFace_of_selects (args := #[]) (mvT hZ (hw _ (own_w 83 rfl)))) (mvT hZ (hw _ (own_w 83 rfl))) (mvT hZ (hw _ (own_w 82 rfl))) (by decide) (backOf (W := 0) (own_ts l Z a0 hw [] b1 bg2 kg2 (9 : Int32) (18 : Int32) [(.int (own_sb (92 : Int32))), (.int (own_sb (120 : Int32))), (.int (own_sb (own_hx (v0 / (16 : Int32))))), (.int (own_sb (own_hx (v0 % (16 : Int32))))), (.int (own_sb v1)), (.int (own_sb (92 : Int32))), (.int (own_sb (120 : Int32))), (.int (own_sb (own_hx (v2 / (16 : Int32))))), (.int (own_sb (own_hx (v2 % (16 : Int32)))))] zc h34 n0 O E_b1 F_value_b1 F_coder_b1 F_count_b1 E_bg2 V_bg2 (by decide) rfl S_C hzc) hZ (hw _ (own_w 84 rfl)) (hw _ (own_w 7 rfl)) (by decide) (by decide)) qa qc (g := (mkF m 112 (own_L9 ka b1 ka 3 3 k2 v2) [(.ref b1)])) rfl (by rw [hml]; rfl) (Steps.refl _) (argsL := []) (rest := []) (lenOf own_pd17 rfl) rfl (by show 2 * 0 + _ ≤ _; exact Nat.le_of_eq rfl) (hb hby ep10m2_d112) (fun _ _ => ⟨rfl, eT, (by decide : 4 + 2 ≤ _), (by decide : 43 + 22 ≤ _)⟩)
        dsimp only [Pt.U, Pt.locs, Pt.cells, Pt.slots] at X lq yq zq st hQ
        subst lq yq zq
        obtain ⟨rr, rb, kr, rfl, Nq, Kq, sz1, sz2, E_rr, F_value_rr, F_coder_rr, V_rb⟩ := hQ
        replace N := Fr.app N Nq
        obtain ⟨h35, eT⟩ : ∃ z, T.heap = z := ⟨_, rfl⟩
        rw [eT] at Kq E_rr F_value_rr F_coder_rr V_rb
        have ne_b1_rr : b1 ≠ rr := Nat.ne_of_lt (Nat.lt_of_lt_of_le E_b1.lt sz1)
        have ne_bg2_rr : bg2 ≠ rr := Nat.ne_of_lt (Nat.lt_of_lt_of_le V_bg2.lt sz1)
        have ne_ka_rr : ka ≠ rr := Nat.ne_of_lt (Nat.lt_of_lt_of_le E_ka.lt sz1)
        have g_rr : n0 ≤ rr := Nat.le_trans (own_le O) sz1
        have sz_rr : h0.size ≤ rr := Nat.le_trans K0.1 sz1
        have ne_b1_rb : b1 ≠ rb := Nat.ne_of_lt (Nat.lt_of_lt_of_le E_b1.lt sz2)
        have ne_bg2_rb : bg2 ≠ rb := Nat.ne_of_lt (Nat.lt_of_lt_of_le V_bg2.lt sz2)
        have ne_ka_rb : ka ≠ rb := Nat.ne_of_lt (Nat.lt_of_lt_of_le E_ka.lt sz2)
        have g_rb : n0 ≤ rb := Nat.le_trans (own_le O) sz2
        have sz_rb : h0.size ≤ rb := Nat.le_trans K0.1 sz2
        replace E_ka := E_ka.keep Kq
        replace V_ka := V_ka.keep Kq nin0
        replace E_b1 := E_b1.keep Kq
        replace F_value_b1 := F_value_b1.keep Kq nin0
        replace F_coder_b1 := F_coder_b1.keep Kq nin0
        replace F_count_b1 := F_count_b1.keep Kq nin0
        replace V_bg2 := V_bg2.keep Kq nin0
        replace E_bg2 := E_bg2.keep Kq
        replace O := O.keep Kq all0
        replace K0 := K0.trans Kq all0
        refine own_viaT (g' := (mkF m 115 (own_L9 ka b1 ka 3 3 k2 v2) [(.ref rr)])) st ?_
        refine own_retW X hx hlk Bd.returns rfl (Or.inr (Or.inr (Or.inr (Or.inr ⟨rfl, rfl, rfl⟩)))) (hb hby ep10m2_d115) (by decide) (by decide) ?_
        rw [eT]
        exact ⟨rr, rb, kr, _, _, rfl, N, K0, sz_rr, sz_rb, E_rr, F_value_rr, F_coder_rr, V_rb, Or.inr (Or.inr (Or.inr (Or.inr (Or.inr (Or.inl ⟨cd0, cd1, cd2, rfl, rfl⟩)))))⟩
    · refine own_suff (T' := T) (g' := (mkF m 70 (own_L9 ka b1 ka 3 1 k1 v1) [])) (fun kk_ => ?_) ?_
      · rcases own_pe cd1 with q_ | ⟨q_, r_⟩ | ⟨q_, r_, u_⟩
        · refine own_via (g' := (mkF m 70 (own_L9 ka b1 ka 3 1 k1 v1) [])) (fun t_ k_ => XS.iload X.here hx rfl (hb hby ep10m2_d38) rfl (XS.bipush X.here hx rfl (hb hby ep10m2_d40) (XS.icmpYes X.here hx rfl (pc0 := 42) (pc' := 70) rfl (hb hby ep10m2_d42) rfl (tlt q_).1 (by decide) (by decide) k_))) ?_
          exact kk_
        · refine own_via (g' := (mkF m 70 (own_L9 ka b1 ka 3 1 k1 v1) [])) (fun t_ k_ => XS.iload X.here hx rfl (hb hby ep10m2_d38) rfl (XS.bipush X.here hx rfl (hb hby ep10m2_d40) (XS.icmpNo X.here hx rfl (hb hby ep10m2_d42) rfl (flt q_).1 (XS.iload X.here hx rfl (hb hby ep10m2_d45) rfl (XS.bipush X.here hx rfl (hb hby ep10m2_d47) (XS.icmpYes X.here hx rfl (pc0 := 49) (pc' := 70) rfl (hb hby ep10m2_d49) rfl (tlt r_).2.2.1 (by decide) (by decide) k_)))))) ?_
          exact kk_
        · refine own_via (g' := (mkF m 70 (own_L9 ka b1 ka 3 1 k1 v1) [])) (fun t_ k_ => XS.iload X.here hx rfl (hb hby ep10m2_d38) rfl (XS.bipush X.here hx rfl (hb hby ep10m2_d40) (XS.icmpNo X.here hx rfl (hb hby ep10m2_d42) rfl (flt q_).1 (XS.iload X.here hx rfl (hb hby ep10m2_d45) rfl (XS.bipush X.here hx rfl (hb hby ep10m2_d47) (XS.icmpNo X.here hx rfl (hb hby ep10m2_d49) rfl (flt r_).2.2.1 (XS.iload X.here hx rfl (hb hby ep10m2_d52) rfl (XS.bipush X.here hx rfl (hb hby ep10m2_d54) (XS.icmpYes X.here hx rfl (pc0 := 56) (pc' := 70) rfl (hb hby ep10m2_d56) rfl (teq u_).1 (by decide) (by decide) k_))))))))) ?_
          exact kk_
      refine own_via (g' := (mkF m 73 (own_L9 ka b1 ka 3 1 k1 v1) [(.int 92), (.ref b1)])) (fun t_ k_ => XS.aloadN X.here hx rfl (hb hby ep10m2_d70) rfl rfl (XS.bipush X.here hx rfl (hb hby ep10m2_d71) k_)) ?_
      obtain ⟨cq, kq, qa, qb, qc⟩ := isOf hZ eT E_b1
      obtain ⟨_, _, ⟨T, Lq, kq, nq⟩, -, X, ⟨Lc, hQ, lq, yq, zq⟩, st⟩ := X.virtualBack hx (y := own_y25) (z := own_y25) hown (mvT hZ (hw _ (own_w 26 rfl))) (mvT hZ (hw _ (own_w 27 rfl))) (notFace_of_selects (args := #[]) (mvT hZ (hw _ (own_w 29 rfl)))) (mvT hZ (hw _ (own_w 29 rfl))) (mvT hZ (hw _ (own_w 28 rfl))) (by decide) (backOf (W := 0) (own_sappN l Z a0 hw [] b1 (92 : Int32) bg1 kg1 (4 : Int32) (8 : Int32) [(.int (own_sb (92 : Int32))), (.int (own_sb (120 : Int32))), (.int (own_sb (own_hx (v0 / (16 : Int32))))), (.int (own_sb (own_hx (v0 % (16 : Int32)))))] zc h27 n0 O E_b1 F_value_b1 F_coder_b1 F_count_b1 E_bg1 V_bg1 (by decide) (by decide) rfl g_b1 g_bg1 (by decide) S_C hzc) hZ (hw _ (own_w 30 rfl)) (hw _ (own_w 7 rfl)) (by decide) (by decide)) qa qc (g := (mkF m 73 (own_L9 ka b1 ka 3 1 k1 v1) [(.int 92), (.ref b1)])) rfl (by rw [hml]; rfl) (Steps.refl _) (argsL := [(.int 92)]) (rest := []) (lenOf own_pd18 rfl) rfl (by show 2 * 0 + _ ≤ _; exact Nat.le_of_eq rfl) (hb hby ep10m2_d73) (fun _ _ => ⟨rfl, eT, (by decide : 3 + 0 ≤ _), (by decide : 25 + 0 ≤ _)⟩)
      dsimp only [Pt.U, Pt.locs, Pt.cells, Pt.slots] at X lq yq zq st hQ
      subst lq yq zq
      obtain ⟨rfl, Nq, Kq, F_value_b1, F_coder_b1, F_count_b1, V_bg1⟩ := hQ
      replace N := Fr.app N Nq
      obtain ⟨h36, eT⟩ : ∃ z, T.heap = z := ⟨_, rfl⟩
      rw [eT] at Kq F_value_b1 F_coder_b1 F_count_b1 V_bg1
      replace E_ka := E_ka.keep Kq
      replace V_ka := V_ka.keep Kq (ninS ne_ka_b1 (ninS ne_ka_bg1 nin0))
      replace E_b1 := E_b1.keep Kq
      replace E_bg1 := E_bg1.keep Kq
      replace O := O.keep Kq (allS g_b1 (allS g_bg1 all0))
      replace K0 := K0.trans Kq (allS (Or.inr sz_b1) (allS (Or.inr sz_bg1) all0))
      refine own_viaT (g' := (mkF m 76 (own_L9 ka b1 ka 3 1 k1 v1) [(.ref b1)])) st ?_
      replace F_count_b1 : Fld Z h36 b1 "java/lang/AbstractStringBuilder" "count" "I" (.int 5) := F_count_b1
      replace V_bg1 : Arv Z h36 bg1 kg1 .byte (8 : Int32) [(.int (own_sb (92 : Int32))), (.int (own_sb (120 : Int32))), (.int (own_sb (own_hx (v0 / (16 : Int32))))), (.int (own_sb (own_hx (v0 % (16 : Int32))))), (.int (own_sb (92 : Int32)))] (.int 0) := V_bg1
      refine own_via (g' := (mkF m 78 (own_L9 ka b1 ka 3 1 k1 v1) [(.int 120), (.ref b1)])) (fun t_ k_ => XS.bipush X.here hx rfl (hb hby ep10m2_d76) k_) ?_
      obtain ⟨cq, kq, qa, qb, qc⟩ := isOf hZ eT E_b1
      obtain ⟨_, _, ⟨T, Lq, kq, nq⟩, -, X, ⟨Lc, hQ, lq, yq, zq⟩, st⟩ := X.virtualBack hx (y := own_y25) (z := own_y25) hown (mvT hZ (hw _ (own_w 26 rfl))) (mvT hZ (hw _ (own_w 27 rfl))) (notFace_of_selects (args := #[]) (mvT hZ (hw _ (own_w 29 rfl)))) (mvT hZ (hw _ (own_w 29 rfl))) (mvT hZ (hw _ (own_w 28 rfl))) (by decide) (backOf (W := 0) (own_sappN l Z a0 hw [] b1 (120 : Int32) bg1 kg1 (5 : Int32) (8 : Int32) [(.int (own_sb (92 : Int32))), (.int (own_sb (120 : Int32))), (.int (own_sb (own_hx (v0 / (16 : Int32))))), (.int (own_sb (own_hx (v0 % (16 : Int32))))), (.int (own_sb (92 : Int32)))] zc h36 n0 O E_b1 F_value_b1 F_coder_b1 F_count_b1 E_bg1 V_bg1 (by decide) (by decide) rfl g_b1 g_bg1 (by decide) S_C hzc) hZ (hw _ (own_w 30 rfl)) (hw _ (own_w 7 rfl)) (by decide) (by decide)) qa qc (g := (mkF m 78 (own_L9 ka b1 ka 3 1 k1 v1) [(.int 120), (.ref b1)])) rfl (by rw [hml]; rfl) (Steps.refl _) (argsL := [(.int 120)]) (rest := []) (lenOf own_pd18 rfl) rfl (by show 2 * 0 + _ ≤ _; exact Nat.le_of_eq rfl) (hb hby ep10m2_d78) (fun _ _ => ⟨rfl, eT, (by decide : 3 + 0 ≤ _), (by decide : 25 + 0 ≤ _)⟩)
      dsimp only [Pt.U, Pt.locs, Pt.cells, Pt.slots] at X lq yq zq st hQ
      subst lq yq zq
      obtain ⟨rfl, Nq, Kq, F_value_b1, F_coder_b1, F_count_b1, V_bg1⟩ := hQ
      replace N := Fr.app N Nq
      obtain ⟨h37, eT⟩ : ∃ z, T.heap = z := ⟨_, rfl⟩
      rw [eT] at Kq F_value_b1 F_coder_b1 F_count_b1 V_bg1
      replace E_ka := E_ka.keep Kq
      replace V_ka := V_ka.keep Kq (ninS ne_ka_b1 (ninS ne_ka_bg1 nin0))
      replace E_b1 := E_b1.keep Kq
      replace E_bg1 := E_bg1.keep Kq
      replace O := O.keep Kq (allS g_b1 (allS g_bg1 all0))
      replace K0 := K0.trans Kq (allS (Or.inr sz_b1) (allS (Or.inr sz_bg1) all0))
      refine own_viaT (g' := (mkF m 81 (own_L9 ka b1 ka 3 1 k1 v1) [(.ref b1)])) st ?_
      replace F_count_b1 : Fld Z h37 b1 "java/lang/AbstractStringBuilder" "count" "I" (.int 6) := F_count_b1
      replace V_bg1 : Arv Z h37 bg1 kg1 .byte (8 : Int32) [(.int (own_sb (92 : Int32))), (.int (own_sb (120 : Int32))), (.int (own_sb (own_hx (v0 / (16 : Int32))))), (.int (own_sb (own_hx (v0 % (16 : Int32))))), (.int (own_sb (92 : Int32))), (.int (own_sb (120 : Int32)))] (.int 0) := V_bg1
      obtain ⟨T, X, eT, st⟩ := getS2 X hx hZ hown (host := "") (Or.inl (hw _ (own_w 78 rfl))) Via.refl eT (S_H.ext O.2) (g := (mkF m 81 (own_L9 ka b1 ka 3 1 k1 v1) [(.ref b1)])) rfl (hb hby ep10m2_d81)
      refine own_via (g' := (mkF m 84 (own_L9 ka b1 ka 3 1 k1 v1) [(.ref wH), (.ref b1)])) st ?_
      refine own_via (g' := (mkF m 88 (own_L9 ka b1 ka 3 1 k1 v1) [(.int ((v1.toUInt32 >>> ((4 : Int32) &&& 31).toUInt32).toInt32)), (.ref wH), (.ref b1)])) (fun t_ k_ => XS.iload X.here hx rfl (hb hby ep10m2_d84) rfl (XS.iconst X.here hx rfl (hb hby ep10m2_d86) (XS.iushr X.here hx rfl (hb hby ep10m2_d87) rfl k_))) ?_
      rw [(own_hi bd1.1 bd1.2).1]
      have V_wH := VO_wH.ext O.2
      obtain ⟨cl_, Ar_, -, Sz_, Nn_, Hs_, -⟩ := id V_wH
      have hin_ : ¬ ((v1 / (16 : Int32)) < 0 ∨ cl_.slots.size ≤ ((v1 / (16 : Int32))).toNatClampNeg) := inb_of Sz_ (own_in16 ((own_hi bd1.1 bd1.2).2.1) ((own_hi bd1.1 bd1.2).2.2))
      have hat_ : cl_.slots[((v1 / (16 : Int32))).toNatClampNeg]? = some (.int (own_hx (v1 / (16 : Int32)))) := Hs_.at hin_ (hhx _ ((own_hi bd1.1 bd1.2).2.1) ((own_hi bd1.1 bd1.2).2.2))
      refine own_via (g' := (mkF m 89 (own_L9 ka b1 ka 3 1 k1 v1) [(.int (own_hx (v1 / (16 : Int32)))), (.ref b1)])) (fun t_ k_ => X.caload hx (j := (v1 / (16 : Int32))) (v := (.int (own_hx (v1 / (16 : Int32))))) (by rw [eT]; exact Ar_.1) (State.isArrayOf_alike hZ.alike Ar_.2.1) Ar_.2.2 hin_ hat_ (g := (mkF m 88 (own_L9 ka b1 ka 3 1 k1 v1) [(.int (v1 / (16 : Int32))), (.ref wH), (.ref b1)])) rfl rfl (hb hby ep10m2_d88) _ k_) ?_
      clear V_wH
      obtain ⟨cq, kq, qa, qb, qc⟩ := isOf hZ eT E_b1
      obtain ⟨_, _, ⟨T, Lq, kq, nq⟩, -, X, ⟨Lc, hQ, lq, yq, zq⟩, st⟩ := X.virtualBack hx (y := own_y25) (z := own_y25) hown (mvT hZ (hw _ (own_w 26 rfl))) (mvT hZ (hw _ (own_w 27 rfl))) (notFace_of_selects (args := #[]) (mvT hZ (hw _ (own_w 29 rfl)))) (mvT hZ (hw _ (own_w 29 rfl))) (mvT hZ (hw _ (own_w 28 rfl))) (by decide) (backOf (W := 0) (own_sappN l Z a0 hw [] b1 (own_hx (v1 / (16 : Int32))) bg1 kg1 (6 : Int32) (8 : Int32) [(.int (own_sb (92 : Int32))), (.int (own_sb (120 : Int32))), (.int (own_sb (own_hx (v0 / (16 : Int32))))), (.int (own_sb (own_hx (v0 % (16 : Int32))))), (.int (own_sb (92 : Int32))), (.int (own_sb (120 : Int32)))] zc h37 n0 O E_b1 F_value_b1 F_coder_b1 F_count_b1 E_bg1 V_bg1 (by decide) (by decide) rfl g_b1 g_bg1 (own_le255 (own_hxB ((own_hi bd1.1 bd1.2).2.1) ((own_hi bd1.1 bd1.2).2.2)).2) S_C hzc) hZ (hw _ (own_w 30 rfl)) (hw _ (own_w 7 rfl)) (by decide) (by decide)) qa qc (g := (mkF m 89 (own_L9 ka b1 ka 3 1 k1 v1) [(.int (own_hx (v1 / (16 : Int32)))), (.ref b1)])) rfl (by rw [hml]; rfl) (Steps.refl _) (argsL := [(.int (own_hx (v1 / (16 : Int32))))]) (rest := []) (lenOf own_pd18 rfl) rfl (by show 2 * 0 + _ ≤ _; exact Nat.le_of_eq rfl) (hb hby ep10m2_d89) (fun _ _ => ⟨rfl, eT, (by decide : 3 + 0 ≤ _), (by decide : 25 + 0 ≤ _)⟩)
      dsimp only [Pt.U, Pt.locs, Pt.cells, Pt.slots] at X lq yq zq st hQ
      subst lq yq zq
      obtain ⟨rfl, Nq, Kq, F_value_b1, F_coder_b1, F_count_b1, V_bg1⟩ := hQ
      replace N := Fr.app N Nq
      obtain ⟨h38, eT⟩ : ∃ z, T.heap = z := ⟨_, rfl⟩
      rw [eT] at Kq F_value_b1 F_coder_b1 F_count_b1 V_bg1
      replace E_ka := E_ka.keep Kq
      replace V_ka := V_ka.keep Kq (ninS ne_ka_b1 (ninS ne_ka_bg1 nin0))
      replace E_b1 := E_b1.keep Kq
      replace E_bg1 := E_bg1.keep Kq
      replace O := O.keep Kq (allS g_b1 (allS g_bg1 all0))
      replace K0 := K0.trans Kq (allS (Or.inr sz_b1) (allS (Or.inr sz_bg1) all0))
      refine own_viaT (g' := (mkF m 92 (own_L9 ka b1 ka 3 1 k1 v1) [(.ref b1)])) st ?_
      replace F_count_b1 : Fld Z h38 b1 "java/lang/AbstractStringBuilder" "count" "I" (.int 7) := F_count_b1
      replace V_bg1 : Arv Z h38 bg1 kg1 .byte (8 : Int32) [(.int (own_sb (92 : Int32))), (.int (own_sb (120 : Int32))), (.int (own_sb (own_hx (v0 / (16 : Int32))))), (.int (own_sb (own_hx (v0 % (16 : Int32))))), (.int (own_sb (92 : Int32))), (.int (own_sb (120 : Int32))), (.int (own_sb (own_hx (v1 / (16 : Int32)))))] (.int 0) := V_bg1
      obtain ⟨T, X, eT, st⟩ := getS2 X hx hZ hown (host := "") (Or.inl (hw _ (own_w 78 rfl))) Via.refl eT (S_H.ext O.2) (g := (mkF m 92 (own_L9 ka b1 ka 3 1 k1 v1) [(.ref b1)])) rfl (hb hby ep10m2_d92)
      refine own_via (g' := (mkF m 95 (own_L9 ka b1 ka 3 1 k1 v1) [(.ref wH), (.ref b1)])) st ?_
      refine own_via (g' := (mkF m 100 (own_L9 ka b1 ka 3 1 k1 v1) [(.int (v1 &&& (15 : Int32))), (.ref wH), (.ref b1)])) (fun t_ k_ => XS.iload X.here hx rfl (hb hby ep10m2_d95) rfl (XS.bipush X.here hx rfl (hb hby ep10m2_d97) (XS.iand X.here hx rfl (hb hby ep10m2_d99) rfl k_))) ?_
      rw [(own_lo bd1.1 bd1.2).1]
      have V_wH := VO_wH.ext O.2
      obtain ⟨cl_, Ar_, -, Sz_, Nn_, Hs_, -⟩ := id V_wH
      have hin_ : ¬ ((v1 % (16 : Int32)) < 0 ∨ cl_.slots.size ≤ ((v1 % (16 : Int32))).toNatClampNeg) := inb_of Sz_ (own_in16 ((own_lo bd1.1 bd1.2).2.1) ((own_lo bd1.1 bd1.2).2.2))
      have hat_ : cl_.slots[((v1 % (16 : Int32))).toNatClampNeg]? = some (.int (own_hx (v1 % (16 : Int32)))) := Hs_.at hin_ (hhx _ ((own_lo bd1.1 bd1.2).2.1) ((own_lo bd1.1 bd1.2).2.2))
      refine own_via (g' := (mkF m 101 (own_L9 ka b1 ka 3 1 k1 v1) [(.int (own_hx (v1 % (16 : Int32)))), (.ref b1)])) (fun t_ k_ => X.caload hx (j := (v1 % (16 : Int32))) (v := (.int (own_hx (v1 % (16 : Int32))))) (by rw [eT]; exact Ar_.1) (State.isArrayOf_alike hZ.alike Ar_.2.1) Ar_.2.2 hin_ hat_ (g := (mkF m 100 (own_L9 ka b1 ka 3 1 k1 v1) [(.int (v1 % (16 : Int32))), (.ref wH), (.ref b1)])) rfl rfl (hb hby ep10m2_d100) _ k_) ?_
      clear V_wH
      obtain ⟨cq, kq, qa, qb, qc⟩ := isOf hZ eT E_b1
      obtain ⟨_, _, ⟨T, Lq, kq, nq⟩, -, X, ⟨Lc, hQ, lq, yq, zq⟩, st⟩ := X.virtualBack hx (y := own_y25) (z := own_y25) hown (mvT hZ (hw _ (own_w 26 rfl))) (mvT hZ (hw _ (own_w 27 rfl))) (notFace_of_selects (args := #[]) (mvT hZ (hw _ (own_w 29 rfl)))) (mvT hZ (hw _ (own_w 29 rfl))) (mvT hZ (hw _ (own_w 28 rfl))) (by decide) (backOf (W := 0) (own_sappN l Z a0 hw [] b1 (own_hx (v1 % (16 : Int32))) bg1 kg1 (7 : Int32) (8 : Int32) [(.int (own_sb (92 : Int32))), (.int (own_sb (120 : Int32))), (.int (own_sb (own_hx (v0 / (16 : Int32))))), (.int (own_sb (own_hx (v0 % (16 : Int32))))), (.int (own_sb (92 : Int32))), (.int (own_sb (120 : Int32))), (.int (own_sb (own_hx (v1 / (16 : Int32)))))] zc h38 n0 O E_b1 F_value_b1 F_coder_b1 F_count_b1 E_bg1 V_bg1 (by decide) (by decide) rfl g_b1 g_bg1 (own_le255 (own_hxB ((own_lo bd1.1 bd1.2).2.1) ((own_lo bd1.1 bd1.2).2.2)).2) S_C hzc) hZ (hw _ (own_w 30 rfl)) (hw _ (own_w 7 rfl)) (by decide) (by decide)) qa qc (g := (mkF m 101 (own_L9 ka b1 ka 3 1 k1 v1) [(.int (own_hx (v1 % (16 : Int32)))), (.ref b1)])) rfl (by rw [hml]; rfl) (Steps.refl _) (argsL := [(.int (own_hx (v1 % (16 : Int32))))]) (rest := []) (lenOf own_pd18 rfl) rfl (by show 2 * 0 + _ ≤ _; exact Nat.le_of_eq rfl) (hb hby ep10m2_d101) (fun _ _ => ⟨rfl, eT, (by decide : 3 + 0 ≤ _), (by decide : 25 + 0 ≤ _)⟩)
      dsimp only [Pt.U, Pt.locs, Pt.cells, Pt.slots] at X lq yq zq st hQ
      subst lq yq zq
      obtain ⟨rfl, Nq, Kq, F_value_b1, F_coder_b1, F_count_b1, V_bg1⟩ := hQ
      replace N := Fr.app N Nq
      obtain ⟨h39, eT⟩ : ∃ z, T.heap = z := ⟨_, rfl⟩
      rw [eT] at Kq F_value_b1 F_coder_b1 F_count_b1 V_bg1
      replace E_ka := E_ka.keep Kq
      replace V_ka := V_ka.keep Kq (ninS ne_ka_b1 (ninS ne_ka_bg1 nin0))
      replace E_b1 := E_b1.keep Kq
      replace E_bg1 := E_bg1.keep Kq
      replace O := O.keep Kq (allS g_b1 (allS g_bg1 all0))
      replace K0 := K0.trans Kq (allS (Or.inr sz_b1) (allS (Or.inr sz_bg1) all0))
      refine own_viaT (g' := (mkF m 104 (own_L9 ka b1 ka 3 1 k1 v1) [(.ref b1)])) st ?_
      replace F_count_b1 : Fld Z h39 b1 "java/lang/AbstractStringBuilder" "count" "I" (.int 8) := F_count_b1
      replace V_bg1 : Arv Z h39 bg1 kg1 .byte (8 : Int32) [(.int (own_sb (92 : Int32))), (.int (own_sb (120 : Int32))), (.int (own_sb (own_hx (v0 / (16 : Int32))))), (.int (own_sb (own_hx (v0 % (16 : Int32))))), (.int (own_sb (92 : Int32))), (.int (own_sb (120 : Int32))), (.int (own_sb (own_hx (v1 / (16 : Int32))))), (.int (own_sb (own_hx (v1 % (16 : Int32)))))] (.int 0) := V_bg1
      refine own_via (g' := (mkF m 18 (own_L9 ka b1 ka 3 ((1 : Int32) + (1 : Int32)) k1 v1) [])) (fun t_ k_ => XS.pop X.here hx rfl (hb hby ep10m2_d104) rfl rfl (XS.iinc X.here hx rfl (hb hby ep10m2_d105) rfl (l' := (own_L9 ka b1 ka 3 ((1 : Int32) + (1 : Int32)) k1 v1)) rfl (XS.goto X.here hx rfl (pc0 := 108) (pc' := 18) rfl (hb hby ep10m2_d108) (by decide) (by decide) k_))) ?_
      rw [(by decide : ((1 : Int32) + (1 : Int32)) = (2 : Int32))]
      refine own_via (g' := (mkF m 27 (own_L9 ka b1 ka 3 2 k1 v1) [(.int 2), (.ref ka)])) (fun t_ k_ => XS.iload X.here hx rfl (hb hby ep10m2_d18) rfl (XS.iloadN X.here hx rfl (hb hby ep10m2_d20) rfl (XS.icmpNo X.here hx rfl (hb hby ep10m2_d21) rfl (tlt (by decide : (2 : Int32) < (3 : Int32))).2.1 (XS.aloadN X.here hx rfl (hb hby ep10m2_d24) rfl rfl (XS.iload X.here hx rfl (hb hby ep10m2_d25) rfl k_))))) ?_
      obtain ⟨cl_, Ar_, -, Sz_, Nn_, Hs_, -⟩ := id V_ka
      have hin_ : ¬ ((2 : Int32) < 0 ∨ cl_.slots.size ≤ ((2 : Int32)).toNatClampNeg) := inb_of Sz_ ⟨by decide, by decide⟩
      have hat_ : cl_.slots[((2 : Int32)).toNatClampNeg]? = some (.int k2) := Hs_.at hin_ rfl
      refine own_via (g' := (mkF m 36 (own_L9 ka b1 ka 3 2 k2 v1) [(.int (k2 &&& (255 : Int32)))])) (fun t_ k_ => X.baloadBytes hx (j := (2 : Int32)) (v := (.int k2)) (by rw [eT]; exact Ar_.1) (State.isArrayOf_alike hZ.alike Ar_.2.1) Ar_.2.2 hin_ hat_ (g := (mkF m 27 (own_L9 ka b1 ka 3 2 k1 v1) [(.int 2), (.ref ka)])) rfl rfl (hb hby ep10m2_d27) _ (XS.istore X.here hx rfl (hb hby ep10m2_d28) rfl (l' := (own_L9 ka b1 ka 3 2 k2 v1)) rfl (XS.iload X.here hx rfl (hb hby ep10m2_d30) rfl (XS.sipush X.here hx rfl (hb hby ep10m2_d32) (XS.iand X.here hx rfl (hb hby ep10m2_d35) rfl k_))))) ?_
      rw [ek2]
      refine own_via (g' := (mkF m 38 (own_L9 ka b1 ka 3 2 k2 v2) [])) (fun t_ k_ => XS.istore X.here hx rfl (hb hby ep10m2_d36) rfl (l' := (own_L9 ka b1 ka 3 2 k2 v2)) rfl k_) ?_
      by_cases cd2 : (¬ v2 < (32 : Int32) ∧ ¬ (126 : Int32) < v2 ∧ ¬ v2 = (92 : Int32))
      · refine own_via (g' := (mkF m 60 (own_L9 ka b1 ka 3 2 k2 v2) [(.ref b1)])) (fun t_ k_ => XS.iload X.here hx rfl (hb hby ep10m2_d38) rfl (XS.bipush X.here hx rfl (hb hby ep10m2_d40) (XS.icmpNo X.here hx rfl (hb hby ep10m2_d42) rfl (flt cd2.1).1 (XS.iload X.here hx rfl (hb hby ep10m2_d45) rfl (XS.bipush X.here hx rfl (hb hby ep10m2_d47) (XS.icmpNo X.here hx rfl (hb hby ep10m2_d49) rfl (flt cd2.2.1).2.2.1 (XS.iload X.here hx rfl (hb hby ep10m2_d52) rfl (XS.bipush X.here hx rfl (hb hby ep10m2_d54) (XS.icmpNo X.here hx rfl (hb hby ep10m2_d56) rfl (feq cd2.2.2).1 (XS.aloadN X.here hx rfl (hb hby ep10m2_d59) rfl rfl k_)))))))))) ?_
        refine own_via (g' := (mkF m 63 (own_L9 ka b1 ka 3 2 k2 v2) [(.int (v2.toUInt32.toUInt16.toUInt32.toInt32)), (.ref b1)])) (fun t_ k_ => XS.iload X.here hx rfl (hb hby ep10m2_d60) rfl (XS.i2c X.here hx rfl (hb hby ep10m2_d62) rfl k_)) ?_
        rw [own_i2cS bd2.1 (Int.lt_trans bd2.2 (by decide))]
        obtain ⟨cq, kq, qa, qb, qc⟩ := isOf hZ eT E_b1
        obtain ⟨_, _, ⟨T, Lq, kq, nq⟩, -, X, ⟨Lc, hQ, lq, yq, zq⟩, st⟩ := X.virtualBack hx (y := own_y25) (z := own_y25) hown (mvT hZ (hw _ (own_w 26 rfl))) (mvT hZ (hw _ (own_w 27 rfl))) (notFace_of_selects (args := #[]) (mvT hZ (hw _ (own_w 29 rfl)))) (mvT hZ (hw _ (own_w 29 rfl))) (mvT hZ (hw _ (own_w 28 rfl))) (by decide) (backOf (W := 0) (own_sappG l Z a0 hw [] b1 v2 bg1 kg1 (8 : Int32) [(.int (own_sb (92 : Int32))), (.int (own_sb (120 : Int32))), (.int (own_sb (own_hx (v0 / (16 : Int32))))), (.int (own_sb (own_hx (v0 % (16 : Int32))))), (.int (own_sb (92 : Int32))), (.int (own_sb (120 : Int32))), (.int (own_sb (own_hx (v1 / (16 : Int32))))), (.int (own_sb (own_hx (v1 % (16 : Int32)))))] zc h39 n0 O E_b1 F_value_b1 F_coder_b1 F_count_b1 E_bg1 V_bg1 (by decide) rfl g_b1 (own_le255 bd2.2) S_C hzc) hZ (hw _ (own_w 30 rfl)) (hw _ (own_w 7 rfl)) (by decide) (by decide)) qa qc (g := (mkF m 63 (own_L9 ka b1 ka 3 2 k2 v2) [(.int v2), (.ref b1)])) rfl (by rw [hml]; rfl) (Steps.refl _) (argsL := [(.int v2)]) (rest := []) (lenOf own_pd18 rfl) rfl (by show 2 * 0 + _ ≤ _; exact Nat.le_of_eq rfl) (hb hby ep10m2_d63) (fun _ _ => ⟨rfl, eT, (by decide : 3 + 1 ≤ _), (by decide : 25 + 18 ≤ _)⟩)
        dsimp only [Pt.U, Pt.locs, Pt.cells, Pt.slots] at X lq yq zq st hQ
        subst lq yq zq
        obtain ⟨bg2, kg2, rfl, Nq, Kq, szq, F_value_b1, F_coder_b1, F_count_b1, V_bg2, E_bg2⟩ := hQ
        replace N := Fr.app N Nq
        obtain ⟨h40, eT⟩ : ∃ z, T.heap = z := ⟨_, rfl⟩
        rw [eT] at Kq F_value_b1 F_coder_b1 F_count_b1 V_bg2 E_bg2
        have ne_b1_bg2 : b1 ≠ bg2 := Nat.ne_of_lt (Nat.lt_of_lt_of_le E_b1.lt szq)
        have ne_bg1_bg2 : bg1 ≠ bg2 := Nat.ne_of_lt (Nat.lt_of_lt_of_le V_bg1.lt szq)
        have ne_ka_bg2 : ka ≠ bg2 := Nat.ne_of_lt (Nat.lt_of_lt_of_le E_ka.lt szq)
        have g_bg2 : n0 ≤ bg2 := Nat.le_trans (own_le O) szq
        have sz_bg2 : h0.size ≤ bg2 := Nat.le_trans K0.1 szq
        replace E_ka := E_ka.keep Kq
        replace V_ka := V_ka.keep Kq (ninS ne_ka_b1 nin0)
        replace E_b1 := E_b1.keep Kq
        replace V_bg1 := V_bg1.keep Kq (ninS (Ne.symm ne_b1_bg1) nin0)
        replace E_bg1 := E_bg1.keep Kq
        replace O := O.keep Kq (allS g_b1 all0)
        replace K0 := K0.trans Kq (allS (Or.inr sz_b1) all0)
        refine own_viaT (g' := (mkF m 66 (own_L9 ka b1 ka 3 2 k2 v2) [(.ref b1)])) st ?_
        replace F_count_b1 : Fld Z h40 b1 "java/lang/AbstractStringBuilder" "count" "I" (.int 9) := F_count_b1
        replace V_bg2 : Arv Z h40 bg2 kg2 .byte (18 : Int32) [(.int (own_sb (92 : Int32))), (.int (own_sb (120 : Int32))), (.int (own_sb (own_hx (v0 / (16 : Int32))))), (.int (own_sb (own_hx (v0 % (16 : Int32))))), (.int (own_sb (92 : Int32))), (.int (own_sb (120 : Int32))), (.int (own_sb (own_hx (v1 / (16 : Int32))))), (.int (own_sb (own_hx (v1 % (16 : Int32))))), (.int (own_sb v2))] (.int 0) := V_bg2
        refine own_via (g' := (mkF m 18 (own_L9 ka b1 ka 3 ((2 : Int32) + (1 : Int32)) k2 v2) [])) (fun t_ k_ => XS.pop X.here hx rfl (hb hby ep10m2_d66) rfl rfl (XS.goto X.here hx rfl (pc0 := 67) (pc' := 105) rfl (hb hby ep10m2_d67) (by decide) (by decide) (XS.iinc X.here hx rfl (hb hby ep10m2_d105) rfl (l' := (own_L9 ka b1 ka 3 ((2 : Int32) + (1 : Int32)) k2 v2)) rfl (XS.goto X.here hx rfl (pc0 := 108) (pc' := 18) rfl (hb hby ep10m2_d108) (by decide) (by decide) k_)))) ?_
        rw [(by decide : ((2 : Int32) + (1 : Int32)) = (3 : Int32))]
        refine own_via (g' := (mkF m 112 (own_L9 ka b1 ka 3 3 k2 v2) [(.ref b1)])) (fun t_ k_ => XS.iload X.here hx rfl (hb hby ep10m2_d18) rfl (XS.iloadN X.here hx rfl (hb hby ep10m2_d20) rfl (XS.icmpYes X.here hx rfl (pc0 := 21) (pc' := 111) rfl (hb hby ep10m2_d21) rfl (flt (by decide : ¬ ((3 : Int32) < (3 : Int32)))).2.1 (by decide) (by decide) (XS.aloadN X.here hx rfl (hb hby ep10m2_d111) rfl rfl k_)))) ?_
        obtain ⟨cq, kq, qa, qb, qc⟩ := isOf hZ eT E_b1
        obtain ⟨_, _, ⟨T, Lq, kq, nq⟩, -, X, ⟨Lc, hQ, lq, yq, zq⟩, st⟩ := X.virtualBack hx (y := own_y24) (z := own_y24) hown (mvT hZ (hw _ (own_w 80 rfl))) (mvT hZ (hw _ (own_w 81 rfl))) (notFace_of_selects (args := #[]) (mvT hZ (hw _ (own_w 83 rfl)))) (mvT hZ (hw _ (own_w 83 rfl))) (mvT hZ (hw _ (own_w 82 rfl))) (by decide) (backOf (W := 0) (own_ts l Z a0 hw [] b1 bg2 kg2 (9 : Int32) (18 : Int32) [(.int (own_sb (92 : Int32))), (.int (own_sb (120 : Int32))), (.int (own_sb (own_hx (v0 / (16 : Int32))))), (.int (own_sb (own_hx (v0 % (16 : Int32))))), (.int (own_sb (92 : Int32))), (.int (own_sb (120 : Int32))), (.int (own_sb (own_hx (v1 / (16 : Int32))))), (.int (own_sb (own_hx (v1 % (16 : Int32))))), (.int (own_sb v2))] zc h40 n0 O E_b1 F_value_b1 F_coder_b1 F_count_b1 E_bg2 V_bg2 (by decide) rfl S_C hzc) hZ (hw _ (own_w 84 rfl)) (hw _ (own_w 7 rfl)) (by decide) (by decide)) qa qc (g := (mkF m 112 (own_L9 ka b1 ka 3 3 k2 v2) [(.ref b1)])) rfl (by rw [hml]; rfl) (Steps.refl _) (argsL := []) (rest := []) (lenOf own_pd17 rfl) rfl (by show 2 * 0 + _ ≤ _; exact Nat.le_of_eq rfl) (hb hby ep10m2_d112) (fun _ _ => ⟨rfl, eT, (by decide : 4 + 2 ≤ _), (by decide : 43 + 22 ≤ _)⟩)
        dsimp only [Pt.U, Pt.locs, Pt.cells, Pt.slots] at X lq yq zq st hQ
        subst lq yq zq
        obtain ⟨rr, rb, kr, rfl, Nq, Kq, sz1, sz2, E_rr, F_value_rr, F_coder_rr, V_rb⟩ := hQ
        replace N := Fr.app N Nq
        obtain ⟨h41, eT⟩ : ∃ z, T.heap = z := ⟨_, rfl⟩
        rw [eT] at Kq E_rr F_value_rr F_coder_rr V_rb
        have ne_b1_rr : b1 ≠ rr := Nat.ne_of_lt (Nat.lt_of_lt_of_le E_b1.lt sz1)
        have ne_bg2_rr : bg2 ≠ rr := Nat.ne_of_lt (Nat.lt_of_lt_of_le V_bg2.lt sz1)
        have ne_ka_rr : ka ≠ rr := Nat.ne_of_lt (Nat.lt_of_lt_of_le E_ka.lt sz1)
        have g_rr : n0 ≤ rr := Nat.le_trans (own_le O) sz1
        have sz_rr : h0.size ≤ rr := Nat.le_trans K0.1 sz1
        have ne_b1_rb : b1 ≠ rb := Nat.ne_of_lt (Nat.lt_of_lt_of_le E_b1.lt sz2)
        have ne_bg2_rb : bg2 ≠ rb := Nat.ne_of_lt (Nat.lt_of_lt_of_le V_bg2.lt sz2)
        have ne_ka_rb : ka ≠ rb := Nat.ne_of_lt (Nat.lt_of_lt_of_le E_ka.lt sz2)
        have g_rb : n0 ≤ rb := Nat.le_trans (own_le O) sz2
        have sz_rb : h0.size ≤ rb := Nat.le_trans K0.1 sz2
        replace E_ka := E_ka.keep Kq
        replace V_ka := V_ka.keep Kq nin0
        replace E_b1 := E_b1.keep Kq
        replace F_value_b1 := F_value_b1.keep Kq nin0
        replace F_coder_b1 := F_coder_b1.keep Kq nin0
        replace F_count_b1 := F_count_b1.keep Kq nin0
        replace V_bg2 := V_bg2.keep Kq nin0
        replace E_bg2 := E_bg2.keep Kq
        replace O := O.keep Kq all0
        replace K0 := K0.trans Kq all0
        refine own_viaT (g' := (mkF m 115 (own_L9 ka b1 ka 3 3 k2 v2) [(.ref rr)])) st ?_
        refine own_retW X hx hlk Bd.returns rfl (Or.inr (Or.inr (Or.inr (Or.inr ⟨rfl, rfl, rfl⟩)))) (hb hby ep10m2_d115) (by decide) (by decide) ?_
        rw [eT]
        exact ⟨rr, rb, kr, _, _, rfl, N, K0, sz_rr, sz_rb, E_rr, F_value_rr, F_coder_rr, V_rb, Or.inr (Or.inr (Or.inr (Or.inr (Or.inr (Or.inr (Or.inl ⟨cd0, cd1, cd2, rfl, rfl⟩))))))⟩
      · refine own_suff (T' := T) (g' := (mkF m 70 (own_L9 ka b1 ka 3 2 k2 v2) [])) (fun kk_ => ?_) ?_
        · rcases own_pe cd2 with q_ | ⟨q_, r_⟩ | ⟨q_, r_, u_⟩
          · refine own_via (g' := (mkF m 70 (own_L9 ka b1 ka 3 2 k2 v2) [])) (fun t_ k_ => XS.iload X.here hx rfl (hb hby ep10m2_d38) rfl (XS.bipush X.here hx rfl (hb hby ep10m2_d40) (XS.icmpYes X.here hx rfl (pc0 := 42) (pc' := 70) rfl (hb hby ep10m2_d42) rfl (tlt q_).1 (by decide) (by decide) k_))) ?_
            exact kk_
          · refine own_via (g' := (mkF m 70 (own_L9 ka b1 ka 3 2 k2 v2) [])) (fun t_ k_ => XS.iload X.here hx rfl (hb hby ep10m2_d38) rfl (XS.bipush X.here hx rfl (hb hby ep10m2_d40) (XS.icmpNo X.here hx rfl (hb hby ep10m2_d42) rfl (flt q_).1 (XS.iload X.here hx rfl (hb hby ep10m2_d45) rfl (XS.bipush X.here hx rfl (hb hby ep10m2_d47) (XS.icmpYes X.here hx rfl (pc0 := 49) (pc' := 70) rfl (hb hby ep10m2_d49) rfl (tlt r_).2.2.1 (by decide) (by decide) k_)))))) ?_
            exact kk_
          · refine own_via (g' := (mkF m 70 (own_L9 ka b1 ka 3 2 k2 v2) [])) (fun t_ k_ => XS.iload X.here hx rfl (hb hby ep10m2_d38) rfl (XS.bipush X.here hx rfl (hb hby ep10m2_d40) (XS.icmpNo X.here hx rfl (hb hby ep10m2_d42) rfl (flt q_).1 (XS.iload X.here hx rfl (hb hby ep10m2_d45) rfl (XS.bipush X.here hx rfl (hb hby ep10m2_d47) (XS.icmpNo X.here hx rfl (hb hby ep10m2_d49) rfl (flt r_).2.2.1 (XS.iload X.here hx rfl (hb hby ep10m2_d52) rfl (XS.bipush X.here hx rfl (hb hby ep10m2_d54) (XS.icmpYes X.here hx rfl (pc0 := 56) (pc' := 70) rfl (hb hby ep10m2_d56) rfl (teq u_).1 (by decide) (by decide) k_))))))))) ?_
            exact kk_
        refine own_via (g' := (mkF m 73 (own_L9 ka b1 ka 3 2 k2 v2) [(.int 92), (.ref b1)])) (fun t_ k_ => XS.aloadN X.here hx rfl (hb hby ep10m2_d70) rfl rfl (XS.bipush X.here hx rfl (hb hby ep10m2_d71) k_)) ?_
        obtain ⟨cq, kq, qa, qb, qc⟩ := isOf hZ eT E_b1
        obtain ⟨_, _, ⟨T, Lq, kq, nq⟩, -, X, ⟨Lc, hQ, lq, yq, zq⟩, st⟩ := X.virtualBack hx (y := own_y25) (z := own_y25) hown (mvT hZ (hw _ (own_w 26 rfl))) (mvT hZ (hw _ (own_w 27 rfl))) (notFace_of_selects (args := #[]) (mvT hZ (hw _ (own_w 29 rfl)))) (mvT hZ (hw _ (own_w 29 rfl))) (mvT hZ (hw _ (own_w 28 rfl))) (by decide) (backOf (W := 0) (own_sappG l Z a0 hw [] b1 (92 : Int32) bg1 kg1 (8 : Int32) [(.int (own_sb (92 : Int32))), (.int (own_sb (120 : Int32))), (.int (own_sb (own_hx (v0 / (16 : Int32))))), (.int (own_sb (own_hx (v0 % (16 : Int32))))), (.int (own_sb (92 : Int32))), (.int (own_sb (120 : Int32))), (.int (own_sb (own_hx (v1 / (16 : Int32))))), (.int (own_sb (own_hx (v1 % (16 : Int32)))))] zc h39 n0 O E_b1 F_value_b1 F_coder_b1 F_count_b1 E_bg1 V_bg1 (by decide) rfl g_b1 (by decide) S_C hzc) hZ (hw _ (own_w 30 rfl)) (hw _ (own_w 7 rfl)) (by decide) (by decide)) qa qc (g := (mkF m 73 (own_L9 ka b1 ka 3 2 k2 v2) [(.int 92), (.ref b1)])) rfl (by rw [hml]; rfl) (Steps.refl _) (argsL := [(.int 92)]) (rest := []) (lenOf own_pd18 rfl) rfl (by show 2 * 0 + _ ≤ _; exact Nat.le_of_eq rfl) (hb hby ep10m2_d73) (fun _ _ => ⟨rfl, eT, (by decide : 3 + 1 ≤ _), (by decide : 25 + 18 ≤ _)⟩)
        dsimp only [Pt.U, Pt.locs, Pt.cells, Pt.slots] at X lq yq zq st hQ
        subst lq yq zq
        obtain ⟨bg2, kg2, rfl, Nq, Kq, szq, F_value_b1, F_coder_b1, F_count_b1, V_bg2, E_bg2⟩ := hQ
        replace N := Fr.app N Nq
        obtain ⟨h42, eT⟩ : ∃ z, T.heap = z := ⟨_, rfl⟩
        rw [eT] at Kq F_value_b1 F_coder_b1 F_count_b1 V_bg2 E_bg2
        have ne_b1_bg2 : b1 ≠ bg2 := Nat.ne_of_lt (Nat.lt_of_lt_of_le E_b1.lt szq)
        have ne_bg1_bg2 : bg1 ≠ bg2 := Nat.ne_of_lt (Nat.lt_of_lt_of_le V_bg1.lt szq)
        have ne_ka_bg2 : ka ≠ bg2 := Nat.ne_of_lt (Nat.lt_of_lt_of_le E_ka.lt szq)
        have g_bg2 : n0 ≤ bg2 := Nat.le_trans (own_le O) szq
        have sz_bg2 : h0.size ≤ bg2 := Nat.le_trans K0.1 szq
        replace E_ka := E_ka.keep Kq
        replace V_ka := V_ka.keep Kq (ninS ne_ka_b1 nin0)
        replace E_b1 := E_b1.keep Kq
        replace V_bg1 := V_bg1.keep Kq (ninS (Ne.symm ne_b1_bg1) nin0)
        replace E_bg1 := E_bg1.keep Kq
        replace O := O.keep Kq (allS g_b1 all0)
        replace K0 := K0.trans Kq (allS (Or.inr sz_b1) all0)
        refine own_viaT (g' := (mkF m 76 (own_L9 ka b1 ka 3 2 k2 v2) [(.ref b1)])) st ?_
        replace F_count_b1 : Fld Z h42 b1 "java/lang/AbstractStringBuilder" "count" "I" (.int 9) := F_count_b1
        replace V_bg2 : Arv Z h42 bg2 kg2 .byte (18 : Int32) [(.int (own_sb (92 : Int32))), (.int (own_sb (120 : Int32))), (.int (own_sb (own_hx (v0 / (16 : Int32))))), (.int (own_sb (own_hx (v0 % (16 : Int32))))), (.int (own_sb (92 : Int32))), (.int (own_sb (120 : Int32))), (.int (own_sb (own_hx (v1 / (16 : Int32))))), (.int (own_sb (own_hx (v1 % (16 : Int32))))), (.int (own_sb (92 : Int32)))] (.int 0) := V_bg2
        refine own_via (g' := (mkF m 78 (own_L9 ka b1 ka 3 2 k2 v2) [(.int 120), (.ref b1)])) (fun t_ k_ => XS.bipush X.here hx rfl (hb hby ep10m2_d76) k_) ?_
        obtain ⟨cq, kq, qa, qb, qc⟩ := isOf hZ eT E_b1
        obtain ⟨_, _, ⟨T, Lq, kq, nq⟩, -, X, ⟨Lc, hQ, lq, yq, zq⟩, st⟩ := X.virtualBack hx (y := own_y25) (z := own_y25) hown (mvT hZ (hw _ (own_w 26 rfl))) (mvT hZ (hw _ (own_w 27 rfl))) (notFace_of_selects (args := #[]) (mvT hZ (hw _ (own_w 29 rfl)))) (mvT hZ (hw _ (own_w 29 rfl))) (mvT hZ (hw _ (own_w 28 rfl))) (by decide) (backOf (W := 0) (own_sappN l Z a0 hw [] b1 (120 : Int32) bg2 kg2 (9 : Int32) (18 : Int32) [(.int (own_sb (92 : Int32))), (.int (own_sb (120 : Int32))), (.int (own_sb (own_hx (v0 / (16 : Int32))))), (.int (own_sb (own_hx (v0 % (16 : Int32))))), (.int (own_sb (92 : Int32))), (.int (own_sb (120 : Int32))), (.int (own_sb (own_hx (v1 / (16 : Int32))))), (.int (own_sb (own_hx (v1 % (16 : Int32))))), (.int (own_sb (92 : Int32)))] zc h42 n0 O E_b1 F_value_b1 F_coder_b1 F_count_b1 E_bg2 V_bg2 (by decide) (by decide) rfl g_b1 g_bg2 (by decide) S_C hzc) hZ (hw _ (own_w 30 rfl)) (hw _ (own_w 7 rfl)) (by decide) (by decide)) qa qc (g := (mkF m 78 (own_L9 ka b1 ka 3 2 k2 v2) [(.int 120), (.ref b1)])) rfl (by rw [hml]; rfl) (Steps.refl _) (argsL := [(.int 120)]) (rest := []) (lenOf own_pd18 rfl) rfl (by show 2 * 0 + _ ≤ _; exact Nat.le_of_eq rfl) (hb hby ep10m2_d78) (fun _ _ => ⟨rfl, eT, (by decide : 4 + 0 ≤ _), (by decide : 43 + 0 ≤ _)⟩)
        dsimp only [Pt.U, Pt.locs, Pt.cells, Pt.slots] at X lq yq zq st hQ
        subst lq yq zq
        obtain ⟨rfl, Nq, Kq, F_value_b1, F_coder_b1, F_count_b1, V_bg2⟩ := hQ
        replace N := Fr.app N Nq
        obtain ⟨h43, eT⟩ : ∃ z, T.heap = z := ⟨_, rfl⟩
        rw [eT] at Kq F_value_b1 F_coder_b1 F_count_b1 V_bg2
        replace E_ka := E_ka.keep Kq
        replace V_ka := V_ka.keep Kq (ninS ne_ka_b1 (ninS ne_ka_bg2 nin0))
        replace E_b1 := E_b1.keep Kq
        replace E_bg2 := E_bg2.keep Kq
        replace O := O.keep Kq (allS g_b1 (allS g_bg2 all0))
        replace K0 := K0.trans Kq (allS (Or.inr sz_b1) (allS (Or.inr sz_bg2) all0))
        refine own_viaT (g' := (mkF m 81 (own_L9 ka b1 ka 3 2 k2 v2) [(.ref b1)])) st ?_
        replace F_count_b1 : Fld Z h43 b1 "java/lang/AbstractStringBuilder" "count" "I" (.int 10) := F_count_b1
        replace V_bg2 : Arv Z h43 bg2 kg2 .byte (18 : Int32) [(.int (own_sb (92 : Int32))), (.int (own_sb (120 : Int32))), (.int (own_sb (own_hx (v0 / (16 : Int32))))), (.int (own_sb (own_hx (v0 % (16 : Int32))))), (.int (own_sb (92 : Int32))), (.int (own_sb (120 : Int32))), (.int (own_sb (own_hx (v1 / (16 : Int32))))), (.int (own_sb (own_hx (v1 % (16 : Int32))))), (.int (own_sb (92 : Int32))), (.int (own_sb (120 : Int32)))] (.int 0) := V_bg2
        obtain ⟨T, X, eT, st⟩ := getS2 X hx hZ hown (host := "") (Or.inl (hw _ (own_w 78 rfl))) Via.refl eT (S_H.ext O.2) (g := (mkF m 81 (own_L9 ka b1 ka 3 2 k2 v2) [(.ref b1)])) rfl (hb hby ep10m2_d81)
        refine own_via (g' := (mkF m 84 (own_L9 ka b1 ka 3 2 k2 v2) [(.ref wH), (.ref b1)])) st ?_
        refine own_via (g' := (mkF m 88 (own_L9 ka b1 ka 3 2 k2 v2) [(.int ((v2.toUInt32 >>> ((4 : Int32) &&& 31).toUInt32).toInt32)), (.ref wH), (.ref b1)])) (fun t_ k_ => XS.iload X.here hx rfl (hb hby ep10m2_d84) rfl (XS.iconst X.here hx rfl (hb hby ep10m2_d86) (XS.iushr X.here hx rfl (hb hby ep10m2_d87) rfl k_))) ?_
        rw [(own_hi bd2.1 bd2.2).1]
        have V_wH := VO_wH.ext O.2
        obtain ⟨cl_, Ar_, -, Sz_, Nn_, Hs_, -⟩ := id V_wH
        have hin_ : ¬ ((v2 / (16 : Int32)) < 0 ∨ cl_.slots.size ≤ ((v2 / (16 : Int32))).toNatClampNeg) := inb_of Sz_ (own_in16 ((own_hi bd2.1 bd2.2).2.1) ((own_hi bd2.1 bd2.2).2.2))
        have hat_ : cl_.slots[((v2 / (16 : Int32))).toNatClampNeg]? = some (.int (own_hx (v2 / (16 : Int32)))) := Hs_.at hin_ (hhx _ ((own_hi bd2.1 bd2.2).2.1) ((own_hi bd2.1 bd2.2).2.2))
        refine own_via (g' := (mkF m 89 (own_L9 ka b1 ka 3 2 k2 v2) [(.int (own_hx (v2 / (16 : Int32)))), (.ref b1)])) (fun t_ k_ => X.caload hx (j := (v2 / (16 : Int32))) (v := (.int (own_hx (v2 / (16 : Int32))))) (by rw [eT]; exact Ar_.1) (State.isArrayOf_alike hZ.alike Ar_.2.1) Ar_.2.2 hin_ hat_ (g := (mkF m 88 (own_L9 ka b1 ka 3 2 k2 v2) [(.int (v2 / (16 : Int32))), (.ref wH), (.ref b1)])) rfl rfl (hb hby ep10m2_d88) _ k_) ?_
        clear V_wH
        obtain ⟨cq, kq, qa, qb, qc⟩ := isOf hZ eT E_b1
        obtain ⟨_, _, ⟨T, Lq, kq, nq⟩, -, X, ⟨Lc, hQ, lq, yq, zq⟩, st⟩ := X.virtualBack hx (y := own_y25) (z := own_y25) hown (mvT hZ (hw _ (own_w 26 rfl))) (mvT hZ (hw _ (own_w 27 rfl))) (notFace_of_selects (args := #[]) (mvT hZ (hw _ (own_w 29 rfl)))) (mvT hZ (hw _ (own_w 29 rfl))) (mvT hZ (hw _ (own_w 28 rfl))) (by decide) (backOf (W := 0) (own_sappN l Z a0 hw [] b1 (own_hx (v2 / (16 : Int32))) bg2 kg2 (10 : Int32) (18 : Int32) [(.int (own_sb (92 : Int32))), (.int (own_sb (120 : Int32))), (.int (own_sb (own_hx (v0 / (16 : Int32))))), (.int (own_sb (own_hx (v0 % (16 : Int32))))), (.int (own_sb (92 : Int32))), (.int (own_sb (120 : Int32))), (.int (own_sb (own_hx (v1 / (16 : Int32))))), (.int (own_sb (own_hx (v1 % (16 : Int32))))), (.int (own_sb (92 : Int32))), (.int (own_sb (120 : Int32)))] zc h43 n0 O E_b1 F_value_b1 F_coder_b1 F_count_b1 E_bg2 V_bg2 (by decide) (by decide) rfl g_b1 g_bg2 (own_le255 (own_hxB ((own_hi bd2.1 bd2.2).2.1) ((own_hi bd2.1 bd2.2).2.2)).2) S_C hzc) hZ (hw _ (own_w 30 rfl)) (hw _ (own_w 7 rfl)) (by decide) (by decide)) qa qc (g := (mkF m 89 (own_L9 ka b1 ka 3 2 k2 v2) [(.int (own_hx (v2 / (16 : Int32)))), (.ref b1)])) rfl (by rw [hml]; rfl) (Steps.refl _) (argsL := [(.int (own_hx (v2 / (16 : Int32))))]) (rest := []) (lenOf own_pd18 rfl) rfl (by show 2 * 0 + _ ≤ _; exact Nat.le_of_eq rfl) (hb hby ep10m2_d89) (fun _ _ => ⟨rfl, eT, (by decide : 4 + 0 ≤ _), (by decide : 43 + 0 ≤ _)⟩)
        dsimp only [Pt.U, Pt.locs, Pt.cells, Pt.slots] at X lq yq zq st hQ
        subst lq yq zq
        obtain ⟨rfl, Nq, Kq, F_value_b1, F_coder_b1, F_count_b1, V_bg2⟩ := hQ
        replace N := Fr.app N Nq
        obtain ⟨h44, eT⟩ : ∃ z, T.heap = z := ⟨_, rfl⟩
        rw [eT] at Kq F_value_b1 F_coder_b1 F_count_b1 V_bg2
        replace E_ka := E_ka.keep Kq
        replace V_ka := V_ka.keep Kq (ninS ne_ka_b1 (ninS ne_ka_bg2 nin0))
        replace E_b1 := E_b1.keep Kq
        replace E_bg2 := E_bg2.keep Kq
        replace O := O.keep Kq (allS g_b1 (allS g_bg2 all0))
        replace K0 := K0.trans Kq (allS (Or.inr sz_b1) (allS (Or.inr sz_bg2) all0))
        refine own_viaT (g' := (mkF m 92 (own_L9 ka b1 ka 3 2 k2 v2) [(.ref b1)])) st ?_
        replace F_count_b1 : Fld Z h44 b1 "java/lang/AbstractStringBuilder" "count" "I" (.int 11) := F_count_b1
        replace V_bg2 : Arv Z h44 bg2 kg2 .byte (18 : Int32) [(.int (own_sb (92 : Int32))), (.int (own_sb (120 : Int32))), (.int (own_sb (own_hx (v0 / (16 : Int32))))), (.int (own_sb (own_hx (v0 % (16 : Int32))))), (.int (own_sb (92 : Int32))), (.int (own_sb (120 : Int32))), (.int (own_sb (own_hx (v1 / (16 : Int32))))), (.int (own_sb (own_hx (v1 % (16 : Int32))))), (.int (own_sb (92 : Int32))), (.int (own_sb (120 : Int32))), (.int (own_sb (own_hx (v2 / (16 : Int32)))))] (.int 0) := V_bg2
        obtain ⟨T, X, eT, st⟩ := getS2 X hx hZ hown (host := "") (Or.inl (hw _ (own_w 78 rfl))) Via.refl eT (S_H.ext O.2) (g := (mkF m 92 (own_L9 ka b1 ka 3 2 k2 v2) [(.ref b1)])) rfl (hb hby ep10m2_d92)
        refine own_via (g' := (mkF m 95 (own_L9 ka b1 ka 3 2 k2 v2) [(.ref wH), (.ref b1)])) st ?_
        refine own_via (g' := (mkF m 100 (own_L9 ka b1 ka 3 2 k2 v2) [(.int (v2 &&& (15 : Int32))), (.ref wH), (.ref b1)])) (fun t_ k_ => XS.iload X.here hx rfl (hb hby ep10m2_d95) rfl (XS.bipush X.here hx rfl (hb hby ep10m2_d97) (XS.iand X.here hx rfl (hb hby ep10m2_d99) rfl k_))) ?_
        rw [(own_lo bd2.1 bd2.2).1]
        have V_wH := VO_wH.ext O.2
        obtain ⟨cl_, Ar_, -, Sz_, Nn_, Hs_, -⟩ := id V_wH
        have hin_ : ¬ ((v2 % (16 : Int32)) < 0 ∨ cl_.slots.size ≤ ((v2 % (16 : Int32))).toNatClampNeg) := inb_of Sz_ (own_in16 ((own_lo bd2.1 bd2.2).2.1) ((own_lo bd2.1 bd2.2).2.2))
        have hat_ : cl_.slots[((v2 % (16 : Int32))).toNatClampNeg]? = some (.int (own_hx (v2 % (16 : Int32)))) := Hs_.at hin_ (hhx _ ((own_lo bd2.1 bd2.2).2.1) ((own_lo bd2.1 bd2.2).2.2))
        refine own_via (g' := (mkF m 101 (own_L9 ka b1 ka 3 2 k2 v2) [(.int (own_hx (v2 % (16 : Int32)))), (.ref b1)])) (fun t_ k_ => X.caload hx (j := (v2 % (16 : Int32))) (v := (.int (own_hx (v2 % (16 : Int32))))) (by rw [eT]; exact Ar_.1) (State.isArrayOf_alike hZ.alike Ar_.2.1) Ar_.2.2 hin_ hat_ (g := (mkF m 100 (own_L9 ka b1 ka 3 2 k2 v2) [(.int (v2 % (16 : Int32))), (.ref wH), (.ref b1)])) rfl rfl (hb hby ep10m2_d100) _ k_) ?_
        clear V_wH
        obtain ⟨cq, kq, qa, qb, qc⟩ := isOf hZ eT E_b1
        obtain ⟨_, _, ⟨T, Lq, kq, nq⟩, -, X, ⟨Lc, hQ, lq, yq, zq⟩, st⟩ := X.virtualBack hx (y := own_y25) (z := own_y25) hown (mvT hZ (hw _ (own_w 26 rfl))) (mvT hZ (hw _ (own_w 27 rfl))) (notFace_of_selects (args := #[]) (mvT hZ (hw _ (own_w 29 rfl)))) (mvT hZ (hw _ (own_w 29 rfl))) (mvT hZ (hw _ (own_w 28 rfl))) (by decide) (backOf (W := 0) (own_sappN l Z a0 hw [] b1 (own_hx (v2 % (16 : Int32))) bg2 kg2 (11 : Int32) (18 : Int32) [(.int (own_sb (92 : Int32))), (.int (own_sb (120 : Int32))), (.int (own_sb (own_hx (v0 / (16 : Int32))))), (.int (own_sb (own_hx (v0 % (16 : Int32))))), (.int (own_sb (92 : Int32))), (.int (own_sb (120 : Int32))), (.int (own_sb (own_hx (v1 / (16 : Int32))))), (.int (own_sb (own_hx (v1 % (16 : Int32))))), (.int (own_sb (92 : Int32))), (.int (own_sb (120 : Int32))), (.int (own_sb (own_hx (v2 / (16 : Int32)))))] zc h44 n0 O E_b1 F_value_b1 F_coder_b1 F_count_b1 E_bg2 V_bg2 (by decide) (by decide) rfl g_b1 g_bg2 (own_le255 (own_hxB ((own_lo bd2.1 bd2.2).2.1) ((own_lo bd2.1 bd2.2).2.2)).2) S_C hzc) hZ (hw _ (own_w 30 rfl)) (hw _ (own_w 7 rfl)) (by decide) (by decide)) qa qc (g := (mkF m 101 (own_L9 ka b1 ka 3 2 k2 v2) [(.int (own_hx (v2 % (16 : Int32)))), (.ref b1)])) rfl (by rw [hml]; rfl) (Steps.refl _) (argsL := [(.int (own_hx (v2 % (16 : Int32))))]) (rest := []) (lenOf own_pd18 rfl) rfl (by show 2 * 0 + _ ≤ _; exact Nat.le_of_eq rfl) (hb hby ep10m2_d101) (fun _ _ => ⟨rfl, eT, (by decide : 4 + 0 ≤ _), (by decide : 43 + 0 ≤ _)⟩)
        dsimp only [Pt.U, Pt.locs, Pt.cells, Pt.slots] at X lq yq zq st hQ
        subst lq yq zq
        obtain ⟨rfl, Nq, Kq, F_value_b1, F_coder_b1, F_count_b1, V_bg2⟩ := hQ
        replace N := Fr.app N Nq
        obtain ⟨h45, eT⟩ : ∃ z, T.heap = z := ⟨_, rfl⟩
        rw [eT] at Kq F_value_b1 F_coder_b1 F_count_b1 V_bg2
        replace E_ka := E_ka.keep Kq
        replace V_ka := V_ka.keep Kq (ninS ne_ka_b1 (ninS ne_ka_bg2 nin0))
        replace E_b1 := E_b1.keep Kq
        replace E_bg2 := E_bg2.keep Kq
        replace O := O.keep Kq (allS g_b1 (allS g_bg2 all0))
        replace K0 := K0.trans Kq (allS (Or.inr sz_b1) (allS (Or.inr sz_bg2) all0))
        refine own_viaT (g' := (mkF m 104 (own_L9 ka b1 ka 3 2 k2 v2) [(.ref b1)])) st ?_
        replace F_count_b1 : Fld Z h45 b1 "java/lang/AbstractStringBuilder" "count" "I" (.int 12) := F_count_b1
        replace V_bg2 : Arv Z h45 bg2 kg2 .byte (18 : Int32) [(.int (own_sb (92 : Int32))), (.int (own_sb (120 : Int32))), (.int (own_sb (own_hx (v0 / (16 : Int32))))), (.int (own_sb (own_hx (v0 % (16 : Int32))))), (.int (own_sb (92 : Int32))), (.int (own_sb (120 : Int32))), (.int (own_sb (own_hx (v1 / (16 : Int32))))), (.int (own_sb (own_hx (v1 % (16 : Int32))))), (.int (own_sb (92 : Int32))), (.int (own_sb (120 : Int32))), (.int (own_sb (own_hx (v2 / (16 : Int32))))), (.int (own_sb (own_hx (v2 % (16 : Int32)))))] (.int 0) := V_bg2
        refine own_via (g' := (mkF m 18 (own_L9 ka b1 ka 3 ((2 : Int32) + (1 : Int32)) k2 v2) [])) (fun t_ k_ => XS.pop X.here hx rfl (hb hby ep10m2_d104) rfl rfl (XS.iinc X.here hx rfl (hb hby ep10m2_d105) rfl (l' := (own_L9 ka b1 ka 3 ((2 : Int32) + (1 : Int32)) k2 v2)) rfl (XS.goto X.here hx rfl (pc0 := 108) (pc' := 18) rfl (hb hby ep10m2_d108) (by decide) (by decide) k_))) ?_
        rw [(by decide : ((2 : Int32) + (1 : Int32)) = (3 : Int32))]
        refine own_via (g' := (mkF m 112 (own_L9 ka b1 ka 3 3 k2 v2) [(.ref b1)])) (fun t_ k_ => XS.iload X.here hx rfl (hb hby ep10m2_d18) rfl (XS.iloadN X.here hx rfl (hb hby ep10m2_d20) rfl (XS.icmpYes X.here hx rfl (pc0 := 21) (pc' := 111) rfl (hb hby ep10m2_d21) rfl (flt (by decide : ¬ ((3 : Int32) < (3 : Int32)))).2.1 (by decide) (by decide) (XS.aloadN X.here hx rfl (hb hby ep10m2_d111) rfl rfl k_)))) ?_
        obtain ⟨cq, kq, qa, qb, qc⟩ := isOf hZ eT E_b1
        obtain ⟨_, _, ⟨T, Lq, kq, nq⟩, -, X, ⟨Lc, hQ, lq, yq, zq⟩, st⟩ := X.virtualBack hx (y := own_y24) (z := own_y24) hown (mvT hZ (hw _ (own_w 80 rfl))) (mvT hZ (hw _ (own_w 81 rfl))) (notFace_of_selects (args := #[]) (mvT hZ (hw _ (own_w 83 rfl)))) (mvT hZ (hw _ (own_w 83 rfl))) (mvT hZ (hw _ (own_w 82 rfl))) (by decide) (backOf (W := 0) (own_ts l Z a0 hw [] b1 bg2 kg2 (12 : Int32) (18 : Int32) [(.int (own_sb (92 : Int32))), (.int (own_sb (120 : Int32))), (.int (own_sb (own_hx (v0 / (16 : Int32))))), (.int (own_sb (own_hx (v0 % (16 : Int32))))), (.int (own_sb (92 : Int32))), (.int (own_sb (120 : Int32))), (.int (own_sb (own_hx (v1 / (16 : Int32))))), (.int (own_sb (own_hx (v1 % (16 : Int32))))), (.int (own_sb (92 : Int32))), (.int (own_sb (120 : Int32))), (.int (own_sb (own_hx (v2 / (16 : Int32))))), (.int (own_sb (own_hx (v2 % (16 : Int32)))))] zc h45 n0 O E_b1 F_value_b1 F_coder_b1 F_count_b1 E_bg2 V_bg2 (by decide) rfl S_C hzc) hZ (hw _ (own_w 84 rfl)) (hw _ (own_w 7 rfl)) (by decide) (by decide)) qa qc (g := (mkF m 112 (own_L9 ka b1 ka 3 3 k2 v2) [(.ref b1)])) rfl (by rw [hml]; rfl) (Steps.refl _) (argsL := []) (rest := []) (lenOf own_pd17 rfl) rfl (by show 2 * 0 + _ ≤ _; exact Nat.le_of_eq rfl) (hb hby ep10m2_d112) (fun _ _ => ⟨rfl, eT, (by decide : 4 + 2 ≤ _), (by decide : 43 + 22 ≤ _)⟩)
        dsimp only [Pt.U, Pt.locs, Pt.cells, Pt.slots] at X lq yq zq st hQ
        subst lq yq zq
        obtain ⟨rr, rb, kr, rfl, Nq, Kq, sz1, sz2, E_rr, F_value_rr, F_coder_rr, V_rb⟩ := hQ
        replace N := Fr.app N Nq
        obtain ⟨h46, eT⟩ : ∃ z, T.heap = z := ⟨_, rfl⟩
        rw [eT] at Kq E_rr F_value_rr F_coder_rr V_rb
        have ne_b1_rr : b1 ≠ rr := Nat.ne_of_lt (Nat.lt_of_lt_of_le E_b1.lt sz1)
        have ne_bg2_rr : bg2 ≠ rr := Nat.ne_of_lt (Nat.lt_of_lt_of_le V_bg2.lt sz1)
        have ne_ka_rr : ka ≠ rr := Nat.ne_of_lt (Nat.lt_of_lt_of_le E_ka.lt sz1)
        have g_rr : n0 ≤ rr := Nat.le_trans (own_le O) sz1
        have sz_rr : h0.size ≤ rr := Nat.le_trans K0.1 sz1
        have ne_b1_rb : b1 ≠ rb := Nat.ne_of_lt (Nat.lt_of_lt_of_le E_b1.lt sz2)
        have ne_bg2_rb : bg2 ≠ rb := Nat.ne_of_lt (Nat.lt_of_lt_of_le V_bg2.lt sz2)
        have ne_ka_rb : ka ≠ rb := Nat.ne_of_lt (Nat.lt_of_lt_of_le E_ka.lt sz2)
        have g_rb : n0 ≤ rb := Nat.le_trans (own_le O) sz2
        have sz_rb : h0.size ≤ rb := Nat.le_trans K0.1 sz2
        replace E_ka := E_ka.keep Kq
        replace V_ka := V_ka.keep Kq nin0
        replace E_b1 := E_b1.keep Kq
        replace F_value_b1 := F_value_b1.keep Kq nin0
        replace F_coder_b1 := F_coder_b1.keep Kq nin0
        replace F_count_b1 := F_count_b1.keep Kq nin0
        replace V_bg2 := V_bg2.keep Kq nin0
        replace E_bg2 := E_bg2.keep Kq
        replace O := O.keep Kq all0
        replace K0 := K0.trans Kq all0
        refine own_viaT (g' := (mkF m 115 (own_L9 ka b1 ka 3 3 k2 v2) [(.ref rr)])) st ?_
        refine own_retW X hx hlk Bd.returns rfl (Or.inr (Or.inr (Or.inr (Or.inr ⟨rfl, rfl, rfl⟩)))) (hb hby ep10m2_d115) (by decide) (by decide) ?_
        rw [eT]
        exact ⟨rr, rb, kr, _, _, rfl, N, K0, sz_rr, sz_rb, E_rr, F_value_rr, F_coder_rr, V_rb, Or.inr (Or.inr (Or.inr (Or.inr (Or.inr (Or.inr (Or.inr (⟨cd0, cd1, cd2, rfl, rfl⟩)))))))⟩
theorem emethod_3_d0 : decode method_3_code 0 = .ok (.iload_n 0, 1) := by decide +kernel
theorem emethod_3_d1 : decode method_3_code 1 = .ok (.bipush 32, 2) := by decide +kernel
theorem emethod_3_d3 : decode method_3_code 3 = .ok (.if_icmp .lt 19, 3) := by decide +kernel
theorem emethod_3_d6 : decode method_3_code 6 = .ok (.iload_n 0, 1) := by decide +kernel
theorem emethod_3_d7 : decode method_3_code 7 = .ok (.bipush 126, 2) := by decide +kernel
theorem emethod_3_d9 : decode method_3_code 9 = .ok (.if_icmp .gt 13, 3) := by decide +kernel
theorem emethod_3_d12 : decode method_3_code 12 = .ok (.iload_n 0, 1) := by decide +kernel
theorem emethod_3_d13 : decode method_3_code 13 = .ok (.bipush 92, 2) := by decide +kernel
theorem emethod_3_d15 : decode method_3_code 15 = .ok (.if_icmp .eq 7, 3) := by decide +kernel
theorem emethod_3_d18 : decode method_3_code 18 = .ok (.iconst 1, 1) := by decide +kernel
theorem emethod_3_d19 : decode method_3_code 19 = .ok (.goto 4, 3) := by decide +kernel
theorem emethod_3_d23 : decode method_3_code 23 = .ok (.ireturn, 1) := by decide +kernel
theorem own_plP_pn : plainFor (⟨"com/example/rows_to_regions/rowstoregions/KeyTextEscapePinLaw", "plain", "(I)Z"⟩ : MethodName) = true := by first | exact plainFor_of_name (by first | (simp [plainName, overriddenIn]; done) | decide +kernel) | decide +kernel | exact Jvm.Free.JP.mathPlain rfl (by decide +kernel)
theorem own_plP_ef (m : MethodId) (x0 : Int32) : entryFrame m #[(.int x0)] 1 = mkF m 0 #[.val (.int x0)] [] := by first | (simp [entryFrame, mkF, argsToLocals, Value.category]; done) | rfl
def own_plP_Q (Z : State) (w : Int32) (h0 : Heap) (n0 : Nat) (v : Option Value) (h : Heap) (L : List Loc) : Prop := v = some (.int 1) ∧ Fr n0 L ∧ h = h0
set_option maxRecDepth 65536 in
set_option maxHeartbeats 40000000 in
theorem own_plP (l : Launch) (Z : State) (a0 : Array Value) (hw : ∀ d ∈ tables_1, d.before a0 Z = true) (ws : List Jvm.Cond) (w : Int32) (h0 : Heap) (n0 : Nat) (O : Old Z n0 h0) (pp : (¬ w < (32 : Int32) ∧ ¬ (126 : Int32) < w ∧ ¬ w = (92 : Int32))) :
    MetFree l (⟨"com/example/rows_to_regions/rowstoregions/KeyTextEscapePinLaw", "plain", "(I)Z"⟩ : MethodName) (head1 (Jvm.Cond.code (⟨"com/example/rows_to_regions/rowstoregions/KeyTextEscapePinLaw", "plain", "(I)Z"⟩ : MethodName) method_3_code 1 (some .boolean) :: ws) ({ frames := 0, cells := 0, slots := 0, locals := 0 } : Room)) (fun a U => a = #[(.int w)] ∧ Z.Warmed39 U.vm ∧ U.heap = h0) (fun _ _ _ _ _ => True) (fun _ U o U' => ∃ v L, o = .returned v ∧ own_plP_Q Z w h0 n0 v U'.heap L ∧ FrameEnd U o U' L ({ frames := 0, cells := 0, slots := 0, locals := 0 } : Room).cells ({ frames := 0, cells := 0, slots := 0, locals := 0 } : Room).slots) := by
  refine MetFree.of_bodySF own_plP_pn hisR ?_
  intro p e s m args below meth c s₁ Bd hml0 hP hK
  obtain ⟨rfl, hZ, hh⟩ := hP
  have hx := Bd.exec
  have hby := Bd.bytes
  have hlk := Bd.notSynchronized
  have hml : c.maxLocals = 1 := hml0
  have hown : s.vm.findClass "com/example/rows_to_regions/rowstoregions/KeyTextEscapePinLaw" = some m.cls := findClass_of_methodNamed Bd.named
  have hnm := (name_of_methodNamed Bd.named Bd.method).1
  have X : Stand p l e ({ frames := 0, cells := 0, slots := 0, locals := 0 } : Room) s m #[(.int w)] below meth c s₁ [] 0 0 := Stand.of_body Bd
  have eT : s₁.heap = h0 := by rw [← hh, Bd.state]; rfl
  have N := Fr.nil n0
  have K0 := Keep.refl h0 []
  show own_Ends p e below (own_Post s below (own_plP_Q Z w h0 n0) ({ frames := 0, cells := 0, slots := 0, locals := 0 } : Room).cells ({ frames := 0, cells := 0, slots := 0, locals := 0 } : Room).slots) s₁ (entryFrame m #[(.int w)] 1)
  rw [own_plP_ef m w]
  obtain ⟨T, hT⟩ : ∃ z, z = s₁ := ⟨_, rfl⟩
  rw [← hT] at X eT ⊢
  obtain ⟨h, hh0⟩ : ∃ z, z = h0 := ⟨_, rfl⟩
  rw [← hh0] at eT
  replace O : Old Z n0 h := by rw [hh0]; exact O
  replace K0 : Keep h0 h [] := by rw [hh0]; exact K0
  refine own_via (g' := (mkF m 19 #[.val (.int w)] [(.int 1)])) (fun t_ k_ => XS.iloadN X.here hx rfl (hb hby emethod_3_d0) rfl (XS.bipush X.here hx rfl (hb hby emethod_3_d1) (XS.icmpNo X.here hx rfl (hb hby emethod_3_d3) rfl (flt pp.1).1 (XS.iloadN X.here hx rfl (hb hby emethod_3_d6) rfl (XS.bipush X.here hx rfl (hb hby emethod_3_d7) (XS.icmpNo X.here hx rfl (hb hby emethod_3_d9) rfl (flt pp.2.1).2.2.1 (XS.iloadN X.here hx rfl (hb hby emethod_3_d12) rfl (XS.bipush X.here hx rfl (hb hby emethod_3_d13) (XS.icmpNo X.here hx rfl (hb hby emethod_3_d15) rfl (feq pp.2.2).1 (XS.iconst X.here hx rfl (hb hby emethod_3_d18) k_)))))))))) ?_
  refine own_via (g' := (mkF m 23 #[.val (.int w)] [(.int 1)])) (fun t_ k_ => XS.goto X.here hx rfl (pc0 := 19) (pc' := 23) rfl (hb hby emethod_3_d19) (by decide) (by decide) k_) ?_
  refine own_retN X hx hlk (t := .boolean) Bd.returns (by simp) (hb hby emethod_3_d23) (by decide) (by decide) ?_
  rw [eT]
  exact ⟨rfl, N, hh0⟩
theorem emethod_3_d22 : decode method_3_code 22 = .ok (.iconst 0, 1) := by decide +kernel
theorem own_plE_pn : plainFor (⟨"com/example/rows_to_regions/rowstoregions/KeyTextEscapePinLaw", "plain", "(I)Z"⟩ : MethodName) = true := by first | exact plainFor_of_name (by first | (simp [plainName, overriddenIn]; done) | decide +kernel) | decide +kernel | exact Jvm.Free.JP.mathPlain rfl (by decide +kernel)
theorem own_plE_ef (m : MethodId) (x0 : Int32) : entryFrame m #[(.int x0)] 1 = mkF m 0 #[.val (.int x0)] [] := by first | (simp [entryFrame, mkF, argsToLocals, Value.category]; done) | rfl
def own_plE_Q (Z : State) (w : Int32) (h0 : Heap) (n0 : Nat) (v : Option Value) (h : Heap) (L : List Loc) : Prop := v = some (.int 0) ∧ Fr n0 L ∧ h = h0
set_option maxRecDepth 65536 in
set_option maxHeartbeats 40000000 in
theorem own_plE (l : Launch) (Z : State) (a0 : Array Value) (hw : ∀ d ∈ tables_1, d.before a0 Z = true) (ws : List Jvm.Cond) (w : Int32) (h0 : Heap) (n0 : Nat) (O : Old Z n0 h0) (pp : ¬ (¬ w < (32 : Int32) ∧ ¬ (126 : Int32) < w ∧ ¬ w = (92 : Int32))) :
    MetFree l (⟨"com/example/rows_to_regions/rowstoregions/KeyTextEscapePinLaw", "plain", "(I)Z"⟩ : MethodName) (head1 (Jvm.Cond.code (⟨"com/example/rows_to_regions/rowstoregions/KeyTextEscapePinLaw", "plain", "(I)Z"⟩ : MethodName) method_3_code 1 (some .boolean) :: ws) ({ frames := 0, cells := 0, slots := 0, locals := 0 } : Room)) (fun a U => a = #[(.int w)] ∧ Z.Warmed39 U.vm ∧ U.heap = h0) (fun _ _ _ _ _ => True) (fun _ U o U' => ∃ v L, o = .returned v ∧ own_plE_Q Z w h0 n0 v U'.heap L ∧ FrameEnd U o U' L ({ frames := 0, cells := 0, slots := 0, locals := 0 } : Room).cells ({ frames := 0, cells := 0, slots := 0, locals := 0 } : Room).slots) := by
  refine MetFree.of_bodySF own_plE_pn hisR ?_
  intro p e s m args below meth c s₁ Bd hml0 hP hK
  obtain ⟨rfl, hZ, hh⟩ := hP
  have hx := Bd.exec
  have hby := Bd.bytes
  have hlk := Bd.notSynchronized
  have hml : c.maxLocals = 1 := hml0
  have hown : s.vm.findClass "com/example/rows_to_regions/rowstoregions/KeyTextEscapePinLaw" = some m.cls := findClass_of_methodNamed Bd.named
  have hnm := (name_of_methodNamed Bd.named Bd.method).1
  have X : Stand p l e ({ frames := 0, cells := 0, slots := 0, locals := 0 } : Room) s m #[(.int w)] below meth c s₁ [] 0 0 := Stand.of_body Bd
  have eT : s₁.heap = h0 := by rw [← hh, Bd.state]; rfl
  have N := Fr.nil n0
  have K0 := Keep.refl h0 []
  show own_Ends p e below (own_Post s below (own_plE_Q Z w h0 n0) ({ frames := 0, cells := 0, slots := 0, locals := 0 } : Room).cells ({ frames := 0, cells := 0, slots := 0, locals := 0 } : Room).slots) s₁ (entryFrame m #[(.int w)] 1)
  rw [own_plE_ef m w]
  obtain ⟨T, hT⟩ : ∃ z, z = s₁ := ⟨_, rfl⟩
  rw [← hT] at X eT ⊢
  obtain ⟨h, hh0⟩ : ∃ z, z = h0 := ⟨_, rfl⟩
  rw [← hh0] at eT
  replace O : Old Z n0 h := by rw [hh0]; exact O
  replace K0 : Keep h0 h [] := by rw [hh0]; exact K0
  refine own_via (g' := (mkF m 3 #[.val (.int w)] [(.int 32), (.int w)])) (fun t_ k_ => XS.iloadN X.here hx rfl (hb hby emethod_3_d0) rfl (XS.bipush X.here hx rfl (hb hby emethod_3_d1) k_)) ?_
  by_cases hc1 : w < (32 : Int32)
  · refine own_via (g' := (mkF m 23 #[.val (.int w)] [(.int 0)])) (fun t_ k_ => XS.icmpYes X.here hx rfl (pc0 := 3) (pc' := 22) rfl (hb hby emethod_3_d3) rfl (tlt hc1).1 (by decide) (by decide) (XS.iconst X.here hx rfl (hb hby emethod_3_d22) k_)) ?_
    refine own_retN X hx hlk (t := .boolean) Bd.returns (by simp) (hb hby emethod_3_d23) (by decide) (by decide) ?_
    rw [eT]
    exact ⟨rfl, N, hh0⟩
  · refine own_via (g' := (mkF m 9 #[.val (.int w)] [(.int 126), (.int w)])) (fun t_ k_ => XS.icmpNo X.here hx rfl (hb hby emethod_3_d3) rfl (flt hc1).1 (XS.iloadN X.here hx rfl (hb hby emethod_3_d6) rfl (XS.bipush X.here hx rfl (hb hby emethod_3_d7) k_))) ?_
    by_cases hc2 : (126 : Int32) < w
    · refine own_via (g' := (mkF m 23 #[.val (.int w)] [(.int 0)])) (fun t_ k_ => XS.icmpYes X.here hx rfl (pc0 := 9) (pc' := 22) rfl (hb hby emethod_3_d9) rfl (tlt hc2).2.2.1 (by decide) (by decide) (XS.iconst X.here hx rfl (hb hby emethod_3_d22) k_)) ?_
      refine own_retN X hx hlk (t := .boolean) Bd.returns (by simp) (hb hby emethod_3_d23) (by decide) (by decide) ?_
      rw [eT]
      exact ⟨rfl, N, hh0⟩
    · refine own_via (g' := (mkF m 15 #[.val (.int w)] [(.int 92), (.int w)])) (fun t_ k_ => XS.icmpNo X.here hx rfl (hb hby emethod_3_d9) rfl (flt hc2).2.2.1 (XS.iloadN X.here hx rfl (hb hby emethod_3_d12) rfl (XS.bipush X.here hx rfl (hb hby emethod_3_d13) k_))) ?_
      by_cases hc3 : w = (92 : Int32)
      · refine own_via (g' := (mkF m 23 #[.val (.int w)] [(.int 0)])) (fun t_ k_ => XS.icmpYes X.here hx rfl (pc0 := 15) (pc' := 22) rfl (hb hby emethod_3_d15) rfl (teq hc3).1 (by decide) (by decide) (XS.iconst X.here hx rfl (hb hby emethod_3_d22) k_)) ?_
        refine own_retN X hx hlk (t := .boolean) Bd.returns (by simp) (hb hby emethod_3_d23) (by decide) (by decide) ?_
        rw [eT]
        exact ⟨rfl, N, hh0⟩
      · refine own_via (g' := (mkF m 23 #[.val (.int w)] [(.int 1)])) (fun t_ k_ => XS.icmpNo X.here hx rfl (hb hby emethod_3_d15) rfl (feq hc3).1 (XS.iconst X.here hx rfl (hb hby emethod_3_d18) (XS.goto X.here hx rfl (pc0 := 19) (pc' := 23) rfl (hb hby emethod_3_d19) (by decide) (by decide) k_))) ?_
        refine own_retN X hx hlk (t := .boolean) Bd.returns (by simp) (hb hby emethod_3_d23) (by decide) (by decide) ?_
        rw [eT]
        exact absurd ⟨hc1, hc2, hc3⟩ pp
theorem emethod_4_d0 : decode method_4_code 0 = .ok (.iload_n 0, 1) := by decide +kernel
theorem emethod_4_d1 : decode method_4_code 1 = .ok (.invokestatic 29, 3) := by decide +kernel
theorem emethod_4_d4 : decode method_4_code 4 = .ok (.ifCond .eq 7, 3) := by decide +kernel
theorem emethod_4_d7 : decode method_4_code 7 = .ok (.iconst 1, 1) := by decide +kernel
theorem emethod_4_d8 : decode method_4_code 8 = .ok (.goto 4, 3) := by decide +kernel
theorem emethod_4_d12 : decode method_4_code 12 = .ok (.ireturn, 1) := by decide +kernel
theorem own_wdP_pn : plainFor (⟨"com/example/rows_to_regions/rowstoregions/KeyTextEscapePinLaw", "width", "(I)I"⟩ : MethodName) = true := by first | exact plainFor_of_name (by first | (simp [plainName, overriddenIn]; done) | decide +kernel) | decide +kernel | exact Jvm.Free.JP.mathPlain rfl (by decide +kernel)
theorem own_wdP_ef (m : MethodId) (x0 : Int32) : entryFrame m #[(.int x0)] 1 = mkF m 0 #[.val (.int x0)] [] := by first | (simp [entryFrame, mkF, argsToLocals, Value.category]; done) | rfl
def own_wdP_Q (Z : State) (w : Int32) (h0 : Heap) (n0 : Nat) (v : Option Value) (h : Heap) (L : List Loc) : Prop := v = some (.int 1) ∧ Fr n0 L ∧ h = h0
set_option maxRecDepth 65536 in
set_option maxHeartbeats 40000000 in
theorem own_wdP (l : Launch) (Z : State) (a0 : Array Value) (hw : ∀ d ∈ tables_1, d.before a0 Z = true) (ws : List Jvm.Cond) (w : Int32) (h0 : Heap) (n0 : Nat) (O : Old Z n0 h0) (pp : (¬ w < (32 : Int32) ∧ ¬ (126 : Int32) < w ∧ ¬ w = (92 : Int32))) :
    MetFree l (⟨"com/example/rows_to_regions/rowstoregions/KeyTextEscapePinLaw", "width", "(I)I"⟩ : MethodName) (head1 (Jvm.Cond.code (⟨"com/example/rows_to_regions/rowstoregions/KeyTextEscapePinLaw", "width", "(I)I"⟩ : MethodName) method_4_code 1 (some .int) :: ws) ({ frames := 1, cells := 0, slots := 0, locals := 12 } : Room)) (fun a U => a = #[(.int w)] ∧ Z.Warmed39 U.vm ∧ U.heap = h0) (fun _ _ _ _ _ => True) (fun _ U o U' => ∃ v L, o = .returned v ∧ own_wdP_Q Z w h0 n0 v U'.heap L ∧ FrameEnd U o U' L ({ frames := 1, cells := 0, slots := 0, locals := 12 } : Room).cells ({ frames := 1, cells := 0, slots := 0, locals := 12 } : Room).slots) := by
  refine MetFree.of_bodySF own_wdP_pn hisR ?_
  intro p e s m args below meth c s₁ Bd hml0 hP hK
  obtain ⟨rfl, hZ, hh⟩ := hP
  have hx := Bd.exec
  have hby := Bd.bytes
  have hlk := Bd.notSynchronized
  have hml : c.maxLocals = 1 := hml0
  have hown : s.vm.findClass "com/example/rows_to_regions/rowstoregions/KeyTextEscapePinLaw" = some m.cls := findClass_of_methodNamed Bd.named
  have hnm := (name_of_methodNamed Bd.named Bd.method).1
  have X : Stand p l e ({ frames := 1, cells := 0, slots := 0, locals := 12 } : Room) s m #[(.int w)] below meth c s₁ [] 0 0 := Stand.of_body Bd
  have eT : s₁.heap = h0 := by rw [← hh, Bd.state]; rfl
  have N := Fr.nil n0
  have K0 := Keep.refl h0 []
  show own_Ends p e below (own_Post s below (own_wdP_Q Z w h0 n0) ({ frames := 1, cells := 0, slots := 0, locals := 12 } : Room).cells ({ frames := 1, cells := 0, slots := 0, locals := 12 } : Room).slots) s₁ (entryFrame m #[(.int w)] 1)
  rw [own_wdP_ef m w]
  obtain ⟨T, hT⟩ : ∃ z, z = s₁ := ⟨_, rfl⟩
  rw [← hT] at X eT ⊢
  obtain ⟨h, hh0⟩ : ∃ z, z = h0 := ⟨_, rfl⟩
  rw [← hh0] at eT
  replace O : Old Z n0 h := by rw [hh0]; exact O
  replace K0 : Keep h0 h [] := by rw [hh0]; exact K0
  refine own_via (g' := (mkF m 1 #[.val (.int w)] [(.int w)])) (fun t_ k_ => XS.iloadN X.here hx rfl (hb hby emethod_4_d0) rfl k_) ?_
  obtain ⟨_, _, ⟨T, Lq, kq, nq⟩, -, X, ⟨Lc, hQ, lq, yq, zq⟩, st⟩ := Jvm.LawKit.callS X hx (y := own_y26) hown (mvT hZ (hw _ (own_w 129 rfl))) (mvT hZ (hw _ (own_w 130 rfl))) (mvT hZ (hw _ (own_w 127 rfl))) (mvT hZ (hw _ (own_w 131 rfl))) (by decide) (backOf (W := 0) (own_plP l Z a0 hw [] w h n0 O pp) hZ (hw _ (own_w 131 rfl)) (hw _ (own_w 127 rfl)) (by decide) (by decide)) (g := (mkF m 1 #[.val (.int w)] [(.int w)])) rfl (by rw [hml]; rfl) (argsL := [(.int w)]) (rest := []) (lenOf own_pd19 rfl) rfl (by show 2 * 0 + _ ≤ _; exact Nat.le_of_eq rfl) (hb hby emethod_4_d1) (fun _ _ => ⟨rfl, eT, (by decide : 0 + 0 ≤ _), (by decide : 0 + 0 ≤ _)⟩)
  dsimp only [Pt.U, Pt.locs, Pt.cells, Pt.slots] at X lq yq zq st hQ
  subst lq yq zq
  obtain ⟨rfl, Nq, eT⟩ := hQ
  replace N := Fr.app N Nq
  refine own_via (g' := (mkF m 4 #[.val (.int w)] [(.int 1)])) st ?_
  refine own_via (g' := (mkF m 12 #[.val (.int w)] [(.int 1)])) (fun t_ k_ => XS.ifNo X.here hx rfl (hb hby emethod_4_d4) rfl ((if0 _ _).trans (feq (by decide : ¬ ((1 : Int32) = (0 : Int32)))).1) (XS.iconst X.here hx rfl (hb hby emethod_4_d7) (XS.goto X.here hx rfl (pc0 := 8) (pc' := 12) rfl (hb hby emethod_4_d8) (by decide) (by decide) k_))) ?_
  refine own_retW X hx hlk Bd.returns rfl (Or.inl ⟨rfl, Or.inl rfl, _, rfl⟩) (hb hby emethod_4_d12) (by decide) (by decide) ?_
  rw [eT]
  exact ⟨rfl, N, hh0⟩
theorem emethod_4_d11 : decode method_4_code 11 = .ok (.iconst 4, 1) := by decide +kernel
theorem own_wdE_pn : plainFor (⟨"com/example/rows_to_regions/rowstoregions/KeyTextEscapePinLaw", "width", "(I)I"⟩ : MethodName) = true := by first | exact plainFor_of_name (by first | (simp [plainName, overriddenIn]; done) | decide +kernel) | decide +kernel | exact Jvm.Free.JP.mathPlain rfl (by decide +kernel)
theorem own_wdE_ef (m : MethodId) (x0 : Int32) : entryFrame m #[(.int x0)] 1 = mkF m 0 #[.val (.int x0)] [] := by first | (simp [entryFrame, mkF, argsToLocals, Value.category]; done) | rfl
def own_wdE_Q (Z : State) (w : Int32) (h0 : Heap) (n0 : Nat) (v : Option Value) (h : Heap) (L : List Loc) : Prop := v = some (.int 4) ∧ Fr n0 L ∧ h = h0
set_option maxRecDepth 65536 in
set_option maxHeartbeats 40000000 in
theorem own_wdE (l : Launch) (Z : State) (a0 : Array Value) (hw : ∀ d ∈ tables_1, d.before a0 Z = true) (ws : List Jvm.Cond) (w : Int32) (h0 : Heap) (n0 : Nat) (O : Old Z n0 h0) (pp : ¬ (¬ w < (32 : Int32) ∧ ¬ (126 : Int32) < w ∧ ¬ w = (92 : Int32))) :
    MetFree l (⟨"com/example/rows_to_regions/rowstoregions/KeyTextEscapePinLaw", "width", "(I)I"⟩ : MethodName) (head1 (Jvm.Cond.code (⟨"com/example/rows_to_regions/rowstoregions/KeyTextEscapePinLaw", "width", "(I)I"⟩ : MethodName) method_4_code 1 (some .int) :: ws) ({ frames := 1, cells := 0, slots := 0, locals := 12 } : Room)) (fun a U => a = #[(.int w)] ∧ Z.Warmed39 U.vm ∧ U.heap = h0) (fun _ _ _ _ _ => True) (fun _ U o U' => ∃ v L, o = .returned v ∧ own_wdE_Q Z w h0 n0 v U'.heap L ∧ FrameEnd U o U' L ({ frames := 1, cells := 0, slots := 0, locals := 12 } : Room).cells ({ frames := 1, cells := 0, slots := 0, locals := 12 } : Room).slots) := by
  refine MetFree.of_bodySF own_wdE_pn hisR ?_
  intro p e s m args below meth c s₁ Bd hml0 hP hK
  obtain ⟨rfl, hZ, hh⟩ := hP
  have hx := Bd.exec
  have hby := Bd.bytes
  have hlk := Bd.notSynchronized
  have hml : c.maxLocals = 1 := hml0
  have hown : s.vm.findClass "com/example/rows_to_regions/rowstoregions/KeyTextEscapePinLaw" = some m.cls := findClass_of_methodNamed Bd.named
  have hnm := (name_of_methodNamed Bd.named Bd.method).1
  have X : Stand p l e ({ frames := 1, cells := 0, slots := 0, locals := 12 } : Room) s m #[(.int w)] below meth c s₁ [] 0 0 := Stand.of_body Bd
  have eT : s₁.heap = h0 := by rw [← hh, Bd.state]; rfl
  have N := Fr.nil n0
  have K0 := Keep.refl h0 []
  show own_Ends p e below (own_Post s below (own_wdE_Q Z w h0 n0) ({ frames := 1, cells := 0, slots := 0, locals := 12 } : Room).cells ({ frames := 1, cells := 0, slots := 0, locals := 12 } : Room).slots) s₁ (entryFrame m #[(.int w)] 1)
  rw [own_wdE_ef m w]
  obtain ⟨T, hT⟩ : ∃ z, z = s₁ := ⟨_, rfl⟩
  rw [← hT] at X eT ⊢
  obtain ⟨h, hh0⟩ : ∃ z, z = h0 := ⟨_, rfl⟩
  rw [← hh0] at eT
  replace O : Old Z n0 h := by rw [hh0]; exact O
  replace K0 : Keep h0 h [] := by rw [hh0]; exact K0
  refine own_via (g' := (mkF m 1 #[.val (.int w)] [(.int w)])) (fun t_ k_ => XS.iloadN X.here hx rfl (hb hby emethod_4_d0) rfl k_) ?_
  obtain ⟨_, _, ⟨T, Lq, kq, nq⟩, -, X, ⟨Lc, hQ, lq, yq, zq⟩, st⟩ := Jvm.LawKit.callS X hx (y := own_y26) hown (mvT hZ (hw _ (own_w 129 rfl))) (mvT hZ (hw _ (own_w 130 rfl))) (mvT hZ (hw _ (own_w 127 rfl))) (mvT hZ (hw _ (own_w 131 rfl))) (by decide) (backOf (W := 0) (own_plE l Z a0 hw [] w h n0 O pp) hZ (hw _ (own_w 131 rfl)) (hw _ (own_w 127 rfl)) (by decide) (by decide)) (g := (mkF m 1 #[.val (.int w)] [(.int w)])) rfl (by rw [hml]; rfl) (argsL := [(.int w)]) (rest := []) (lenOf own_pd19 rfl) rfl (by show 2 * 0 + _ ≤ _; exact Nat.le_of_eq rfl) (hb hby emethod_4_d1) (fun _ _ => ⟨rfl, eT, (by decide : 0 + 0 ≤ _), (by decide : 0 + 0 ≤ _)⟩)
  dsimp only [Pt.U, Pt.locs, Pt.cells, Pt.slots] at X lq yq zq st hQ
  subst lq yq zq
  obtain ⟨rfl, Nq, eT⟩ := hQ
  replace N := Fr.app N Nq
  refine own_via (g' := (mkF m 4 #[.val (.int w)] [(.int 0)])) st ?_
  refine own_via (g' := (mkF m 12 #[.val (.int w)] [(.int 4)])) (fun t_ k_ => XS.ifYes X.here hx rfl (pc0 := 4) (pc' := 11) rfl (hb hby emethod_4_d4) rfl ((if0 _ _).trans (teq (by decide : (0 : Int32) = (0 : Int32))).1) (by decide) (by decide) (XS.iconst X.here hx rfl (hb hby emethod_4_d11) k_)) ?_
  refine own_retW X hx hlk Bd.returns rfl (Or.inl ⟨rfl, Or.inl rfl, _, rfl⟩) (hb hby emethod_4_d12) (by decide) (by decide) ?_
  rw [eT]
  exact ⟨rfl, N, hh0⟩
theorem emethod_5_d0 : decode method_5_code 0 = .ok (.iload_n 0, 1) := by decide +kernel
theorem emethod_5_d1 : decode method_5_code 1 = .ok (.bipush 10, 2) := by decide +kernel
theorem emethod_5_d3 : decode method_5_code 3 = .ok (.if_icmp .ge 11, 3) := by decide +kernel
theorem emethod_5_d6 : decode method_5_code 6 = .ok (.bipush 48, 2) := by decide +kernel
theorem emethod_5_d8 : decode method_5_code 8 = .ok (.iload_n 0, 1) := by decide +kernel
theorem emethod_5_d9 : decode method_5_code 9 = .ok (.iadd, 1) := by decide +kernel
theorem emethod_5_d10 : decode method_5_code 10 = .ok (.i2c, 1) := by decide +kernel
theorem emethod_5_d11 : decode method_5_code 11 = .ok (.goto 11, 3) := by decide +kernel
theorem emethod_5_d14 : decode method_5_code 14 = .ok (.bipush 65, 2) := by decide +kernel
theorem emethod_5_d16 : decode method_5_code 16 = .ok (.iload_n 0, 1) := by decide +kernel
theorem emethod_5_d17 : decode method_5_code 17 = .ok (.bipush 10, 2) := by decide +kernel
theorem emethod_5_d19 : decode method_5_code 19 = .ok (.isub, 1) := by decide +kernel
theorem emethod_5_d20 : decode method_5_code 20 = .ok (.iadd, 1) := by decide +kernel
theorem emethod_5_d21 : decode method_5_code 21 = .ok (.i2c, 1) := by decide +kernel
theorem emethod_5_d22 : decode method_5_code 22 = .ok (.ireturn, 1) := by decide +kernel
theorem own_hexM_pn : plainFor (⟨"com/example/rows_to_regions/rowstoregions/KeyTextEscapePinLaw", "hex", "(I)C"⟩ : MethodName) = true := by first | exact plainFor_of_name (by first | (simp [plainName, overriddenIn]; done) | decide +kernel) | decide +kernel | exact Jvm.Free.JP.mathPlain rfl (by decide +kernel)
theorem own_hexM_ef (m : MethodId) (x0 : Int32) : entryFrame m #[(.int x0)] 1 = mkF m 0 #[.val (.int x0)] [] := by first | (simp [entryFrame, mkF, argsToLocals, Value.category]; done) | rfl
def own_hexM_Q (Z : State) (d : Int32) (h0 : Heap) (n0 : Nat) (v : Option Value) (h : Heap) (L : List Loc) : Prop := v = some (.int (own_hx d)) ∧ Fr n0 L ∧ h = h0
set_option maxRecDepth 65536 in
set_option maxHeartbeats 40000000 in
theorem own_hexM (l : Launch) (Z : State) (a0 : Array Value) (hw : ∀ d ∈ tables_1, d.before a0 Z = true) (ws : List Jvm.Cond) (d : Int32) (h0 : Heap) (n0 : Nat) (O : Old Z n0 h0) (dd : 0 ≤ d.toInt ∧ d.toInt < 16) :
    MetFree l (⟨"com/example/rows_to_regions/rowstoregions/KeyTextEscapePinLaw", "hex", "(I)C"⟩ : MethodName) (head1 (Jvm.Cond.code (⟨"com/example/rows_to_regions/rowstoregions/KeyTextEscapePinLaw", "hex", "(I)C"⟩ : MethodName) method_5_code 1 (some .char) :: ws) ({ frames := 0, cells := 0, slots := 0, locals := 0 } : Room)) (fun a U => a = #[(.int d)] ∧ Z.Warmed39 U.vm ∧ U.heap = h0) (fun _ _ _ _ _ => True) (fun _ U o U' => ∃ v L, o = .returned v ∧ own_hexM_Q Z d h0 n0 v U'.heap L ∧ FrameEnd U o U' L ({ frames := 0, cells := 0, slots := 0, locals := 0 } : Room).cells ({ frames := 0, cells := 0, slots := 0, locals := 0 } : Room).slots) := by
  refine MetFree.of_bodySF own_hexM_pn hisR ?_
  intro p e s m args below meth c s₁ Bd hml0 hP hK
  obtain ⟨rfl, hZ, hh⟩ := hP
  have hx := Bd.exec
  have hby := Bd.bytes
  have hlk := Bd.notSynchronized
  have hml : c.maxLocals = 1 := hml0
  have hown : s.vm.findClass "com/example/rows_to_regions/rowstoregions/KeyTextEscapePinLaw" = some m.cls := findClass_of_methodNamed Bd.named
  have hnm := (name_of_methodNamed Bd.named Bd.method).1
  have X : Stand p l e ({ frames := 0, cells := 0, slots := 0, locals := 0 } : Room) s m #[(.int d)] below meth c s₁ [] 0 0 := Stand.of_body Bd
  have eT : s₁.heap = h0 := by rw [← hh, Bd.state]; rfl
  have N := Fr.nil n0
  have K0 := Keep.refl h0 []
  show own_Ends p e below (own_Post s below (own_hexM_Q Z d h0 n0) ({ frames := 0, cells := 0, slots := 0, locals := 0 } : Room).cells ({ frames := 0, cells := 0, slots := 0, locals := 0 } : Room).slots) s₁ (entryFrame m #[(.int d)] 1)
  rw [own_hexM_ef m d]
  obtain ⟨T, hT⟩ : ∃ z, z = s₁ := ⟨_, rfl⟩
  rw [← hT] at X eT ⊢
  obtain ⟨h, hh0⟩ : ∃ z, z = h0 := ⟨_, rfl⟩
  rw [← hh0] at eT
  replace O : Old Z n0 h := by rw [hh0]; exact O
  replace K0 : Keep h0 h [] := by rw [hh0]; exact K0
  refine own_via (g' := (mkF m 3 #[.val (.int d)] [(.int 10), (.int d)])) (fun t_ k_ => XS.iloadN X.here hx rfl (hb hby emethod_5_d0) rfl (XS.bipush X.here hx rfl (hb hby emethod_5_d1) k_)) ?_
  by_cases hc1 : d < (10 : Int32)
  · refine own_via (g' := (mkF m 22 #[.val (.int d)] [(.int (((48 : Int32) + d).toUInt32.toUInt16.toUInt32.toInt32))])) (fun t_ k_ => XS.icmpNo X.here hx rfl (hb hby emethod_5_d3) rfl (tlt hc1).2.1 (XS.bipush X.here hx rfl (hb hby emethod_5_d6) (XS.iloadN X.here hx rfl (hb hby emethod_5_d8) rfl (XS.iadd X.here hx rfl (hb hby emethod_5_d9) rfl (XS.i2c X.here hx rfl (hb hby emethod_5_d10) rfl (XS.goto X.here hx rfl (pc0 := 11) (pc' := 22) rfl (hb hby emethod_5_d11) (by decide) (by decide) k_)))))) ?_
    refine own_retN X hx hlk (t := .char) Bd.returns (by simp) (hb hby emethod_5_d22) (by decide) (by decide) ?_
    rw [eT]
    have e_ : own_hx d = (48 : Int32) + d := if_pos hc1
    have b_ := own_hxB dd.1 dd.2
    exact ⟨by show some (Value.int (((48 : Int32) + d).toUInt32.toUInt16.toUInt32.toInt32.toUInt32.toUInt16.toUInt32.toInt32)) = _; rw [← e_, own_i2cS b_.1 (Int.lt_trans b_.2 (by decide)), own_i2cS b_.1 (Int.lt_trans b_.2 (by decide))], N, hh0⟩
  · refine own_via (g' := (mkF m 22 #[.val (.int d)] [(.int (((65 : Int32) + (d - (10 : Int32))).toUInt32.toUInt16.toUInt32.toInt32))])) (fun t_ k_ => XS.icmpYes X.here hx rfl (pc0 := 3) (pc' := 14) rfl (hb hby emethod_5_d3) rfl (flt hc1).2.1 (by decide) (by decide) (XS.bipush X.here hx rfl (hb hby emethod_5_d14) (XS.iloadN X.here hx rfl (hb hby emethod_5_d16) rfl (XS.bipush X.here hx rfl (hb hby emethod_5_d17) (XS.isub X.here hx rfl (hb hby emethod_5_d19) rfl (XS.iadd X.here hx rfl (hb hby emethod_5_d20) rfl (XS.i2c X.here hx rfl (hb hby emethod_5_d21) rfl k_))))))) ?_
    refine own_retN X hx hlk (t := .char) Bd.returns (by simp) (hb hby emethod_5_d22) (by decide) (by decide) ?_
    rw [eT]
    have e_ : own_hx d = (65 : Int32) + (d - (10 : Int32)) := if_neg hc1
    have b_ := own_hxB dd.1 dd.2
    exact ⟨by show some (Value.int (((65 : Int32) + (d - (10 : Int32))).toUInt32.toUInt16.toUInt32.toInt32.toUInt32.toUInt16.toUInt32.toInt32)) = _; rw [← e_, own_i2cS b_.1 (Int.lt_trans b_.2 (by decide)), own_i2cS b_.1 (Int.lt_trans b_.2 (by decide))], N, hh0⟩
theorem emethod_6_d0 : decode method_6_code 0 = .ok (.iload_n 2, 1) := by decide +kernel
theorem emethod_6_d1 : decode method_6_code 1 = .ok (.invokestatic 29, 3) := by decide +kernel
theorem emethod_6_d4 : decode method_6_code 4 = .ok (.ifCond .eq 19, 3) := by decide +kernel
theorem emethod_6_d7 : decode method_6_code 7 = .ok (.aload_n 0, 1) := by decide +kernel
theorem emethod_6_d8 : decode method_6_code 8 = .ok (.iload_n 1, 1) := by decide +kernel
theorem emethod_6_d9 : decode method_6_code 9 = .ok (.invokevirtual 33, 3) := by decide +kernel
theorem emethod_6_d12 : decode method_6_code 12 = .ok (.iload_n 2, 1) := by decide +kernel
theorem emethod_6_d13 : decode method_6_code 13 = .ok (.i2c, 1) := by decide +kernel
theorem emethod_6_d14 : decode method_6_code 14 = .ok (.if_icmp .ne 7, 3) := by decide +kernel
theorem emethod_6_d17 : decode method_6_code 17 = .ok (.iconst 1, 1) := by decide +kernel
theorem emethod_6_d18 : decode method_6_code 18 = .ok (.goto 4, 3) := by decide +kernel
theorem emethod_6_d22 : decode method_6_code 22 = .ok (.ireturn, 1) := by decide +kernel
theorem own_mP_pn : plainFor (⟨"com/example/rows_to_regions/rowstoregions/KeyTextEscapePinLaw", "matches", "(Ljava/lang/String;II)Z"⟩ : MethodName) = true := by first | exact plainFor_of_name (by first | (simp [plainName, overriddenIn]; done) | decide +kernel) | decide +kernel | exact Jvm.Free.JP.mathPlain rfl (by decide +kernel)
theorem own_mP_ef (m : MethodId) (x0 : Addr) (x1 : Int32) (x2 : Int32) : entryFrame m #[(.ref x0), (.int x1), (.int x2)] 3 = mkF m 0 #[.val (.ref x0), .val (.int x1), .val (.int x2)] [] := by first | (simp [entryFrame, mkF, argsToLocals, Value.category]; done) | rfl
def own_mP_Q (Z : State) (a1 : Addr) (va : Addr) (kv : ClassId) (z : Int32) (vs : List Value) (j : Int32) (w : Int32) (x0 : Int32) (zc : Int32) (vS : Value) (h0 : Heap) (n0 : Nat) (v : Option Value) (h : Heap) (L : List Loc) : Prop := v = some (.int 1) ∧ Fr n0 L ∧ h = h0
set_option maxRecDepth 65536 in
set_option maxHeartbeats 40000000 in
theorem own_mP (l : Launch) (Z : State) (a0 : Array Value) (hw : ∀ d ∈ tables_1, d.before a0 Z = true) (ws : List Jvm.Cond) (a1 : Addr) (va : Addr) (kv : ClassId) (z : Int32) (vs : List Value) (j : Int32) (w : Int32) (x0 : Int32) (zc : Int32) (vS : Value) (h0 : Heap) (n0 : Nat) (O : Old Z n0 h0) (E_a1 : Exa Z h0 a1 "java/lang/String") (F_value_a1 : Fld Z h0 a1 "java/lang/String" "value" "[B" (.ref va)) (F_coder_a1 : Fld Z h0 a1 "java/lang/String" "coder" "B" (.int 0)) (V_va : Arv Z h0 va kv .byte z vs (.int 0)) (hj0 : ¬ j < 0 ∧ j < z) (hg0 : vs.getD j.toNatClampNeg (.int 0) = .int x0) (ex0 : (x0 &&& (255 : Int32)) = w) (bw : 0 ≤ w.toInt ∧ w.toInt < 256) (pp : (¬ w < (32 : Int32) ∧ ¬ (126 : Int32) < w ∧ ¬ w = (92 : Int32))) (S_C : Sta Z Z.heap "java/lang/String" "COMPACT_STRINGS" "Z" (.int zc)) (hzc : ¬ zc = 0) (S_S : Sta Z Z.heap "jdk/internal/util/Preconditions" "SIOOBE_FORMATTER" "Ljava/util/function/BiFunction;" vS) (hvS : vS.isRef = true) :
    MetFree l (⟨"com/example/rows_to_regions/rowstoregions/KeyTextEscapePinLaw", "matches", "(Ljava/lang/String;II)Z"⟩ : MethodName) (head1 (Jvm.Cond.code (⟨"com/example/rows_to_regions/rowstoregions/KeyTextEscapePinLaw", "matches", "(Ljava/lang/String;II)Z"⟩ : MethodName) method_6_code 3 (some .boolean) :: ws) ({ frames := 4, cells := 0, slots := 0, locals := 53 } : Room)) (fun a U => a = #[(.ref a1), (.int j), (.int w)] ∧ Z.Warmed39 U.vm ∧ U.heap = h0) (fun _ _ _ _ _ => True) (fun _ U o U' => ∃ v L, o = .returned v ∧ own_mP_Q Z a1 va kv z vs j w x0 zc vS h0 n0 v U'.heap L ∧ FrameEnd U o U' L ({ frames := 4, cells := 0, slots := 0, locals := 53 } : Room).cells ({ frames := 4, cells := 0, slots := 0, locals := 53 } : Room).slots) := by
  refine MetFree.of_bodySF own_mP_pn hisR ?_
  intro p e s m args below meth c s₁ Bd hml0 hP hK
  obtain ⟨rfl, hZ, hh⟩ := hP
  have hx := Bd.exec
  have hby := Bd.bytes
  have hlk := Bd.notSynchronized
  have hml : c.maxLocals = 3 := hml0
  have hown : s.vm.findClass "com/example/rows_to_regions/rowstoregions/KeyTextEscapePinLaw" = some m.cls := findClass_of_methodNamed Bd.named
  have hnm := (name_of_methodNamed Bd.named Bd.method).1
  have X : Stand p l e ({ frames := 4, cells := 0, slots := 0, locals := 53 } : Room) s m #[(.ref a1), (.int j), (.int w)] below meth c s₁ [] 0 0 := Stand.of_body Bd
  have eT : s₁.heap = h0 := by rw [← hh, Bd.state]; rfl
  have N := Fr.nil n0
  have K0 := Keep.refl h0 []
  show own_Ends p e below (own_Post s below (own_mP_Q Z a1 va kv z vs j w x0 zc vS h0 n0) ({ frames := 4, cells := 0, slots := 0, locals := 53 } : Room).cells ({ frames := 4, cells := 0, slots := 0, locals := 53 } : Room).slots) s₁ (entryFrame m #[(.ref a1), (.int j), (.int w)] 3)
  rw [own_mP_ef m a1 j w]
  obtain ⟨T, hT⟩ : ∃ z, z = s₁ := ⟨_, rfl⟩
  rw [← hT] at X eT ⊢
  obtain ⟨h, hh0⟩ : ∃ z, z = h0 := ⟨_, rfl⟩
  rw [← hh0] at eT
  replace O : Old Z n0 h := by rw [hh0]; exact O
  replace K0 : Keep h0 h [] := by rw [hh0]; exact K0
  rw [← hh0] at E_a1
  rw [← hh0] at F_value_a1
  rw [← hh0] at F_coder_a1
  rw [← hh0] at V_va
  refine own_via (g' := (mkF m 1 (own_L26 a1 j w) [(.int w)])) (fun t_ k_ => XS.iloadN X.here hx rfl (hb hby emethod_6_d0) rfl k_) ?_
  obtain ⟨_, _, ⟨T, Lq, kq, nq⟩, -, X, ⟨Lc, hQ, lq, yq, zq⟩, st⟩ := Jvm.LawKit.callS X hx (y := own_y26) hown (mvT hZ (hw _ (own_w 129 rfl))) (mvT hZ (hw _ (own_w 130 rfl))) (mvT hZ (hw _ (own_w 127 rfl))) (mvT hZ (hw _ (own_w 131 rfl))) (by decide) (backOf (W := 0) (own_plP l Z a0 hw [] w h n0 O pp) hZ (hw _ (own_w 131 rfl)) (hw _ (own_w 127 rfl)) (by decide) (by decide)) (g := (mkF m 1 (own_L26 a1 j w) [(.int w)])) rfl (by rw [hml]; rfl) (argsL := [(.int w)]) (rest := []) (lenOf own_pd19 rfl) rfl (by show 2 * 0 + _ ≤ _; exact Nat.le_of_eq rfl) (hb hby emethod_6_d1) (fun _ _ => ⟨rfl, eT, (by decide : 0 + 0 ≤ _), (by decide : 0 + 0 ≤ _)⟩)
  dsimp only [Pt.U, Pt.locs, Pt.cells, Pt.slots] at X lq yq zq st hQ
  subst lq yq zq
  obtain ⟨rfl, Nq, eT⟩ := hQ
  replace N := Fr.app N Nq
  refine own_via (g' := (mkF m 4 (own_L26 a1 j w) [(.int 1)])) st ?_
  refine own_via (g' := (mkF m 9 (own_L26 a1 j w) [(.int j), (.ref a1)])) (fun t_ k_ => XS.ifNo X.here hx rfl (hb hby emethod_6_d4) rfl ((if0 _ _).trans (feq (by decide : ¬ ((1 : Int32) = (0 : Int32)))).1) (XS.aloadN X.here hx rfl (hb hby emethod_6_d7) rfl rfl (XS.iloadN X.here hx rfl (hb hby emethod_6_d8) rfl k_))) ?_
  obtain ⟨cq, kq, qa, qb, qc⟩ := isOf hZ eT E_a1
  obtain ⟨_, _, ⟨T, Lq, kq, nq⟩, -, X, ⟨Lc, hQ, lq, yq, zq⟩, st⟩ := X.virtualBack hx (y := own_y27) (z := own_y27) hown (mvT hZ (hw _ (own_w 146 rfl))) (mvT hZ (hw _ (own_w 147 rfl))) (notFace_of_selects (args := #[]) (mvT hZ (hw _ (own_w 149 rfl)))) (mvT hZ (hw _ (own_w 149 rfl))) (mvT hZ (hw _ (own_w 148 rfl))) (by decide) (backOf (W := 0) (own_charAt l Z a0 hw [] a1 j va kv z vs x0 zc vS h n0 O E_a1 F_value_a1 F_coder_a1 V_va S_C hzc hj0 hg0 S_S hvS) hZ (hw _ (own_w 150 rfl)) (hw _ (own_w 21 rfl)) (by decide) (by decide)) qa qc (g := (mkF m 9 (own_L26 a1 j w) [(.int j), (.ref a1)])) rfl (by rw [hml]; rfl) (Steps.refl _) (argsL := [(.int j)]) (rest := []) (lenOf own_pd20 rfl) rfl (by show 2 * 0 + _ ≤ _; exact Nat.le_of_eq rfl) (hb hby emethod_6_d9) (fun _ _ => ⟨rfl, eT, (by decide : 0 + 0 ≤ _), (by decide : 0 + 0 ≤ _)⟩)
  dsimp only [Pt.U, Pt.locs, Pt.cells, Pt.slots] at X lq yq zq st hQ
  subst lq yq zq
  obtain ⟨rfl, Nq, eT⟩ := hQ
  replace N := Fr.app N Nq
  refine own_viaT (g' := (mkF m 12 (own_L26 a1 j w) [(.int (x0 &&& (255 : Int32)))])) st ?_
  rw [ex0]
  refine own_via (g' := (mkF m 14 (own_L26 a1 j w) [(.int (w.toUInt32.toUInt16.toUInt32.toInt32)), (.int w)])) (fun t_ k_ => XS.iloadN X.here hx rfl (hb hby emethod_6_d12) rfl (XS.i2c X.here hx rfl (hb hby emethod_6_d13) rfl k_)) ?_
  rw [own_i2cS bw.1 (Int.lt_trans bw.2 (by decide))]
  refine own_via (g' := (mkF m 22 (own_L26 a1 j w) [(.int 1)])) (fun t_ k_ => XS.icmpNo X.here hx rfl (hb hby emethod_6_d14) rfl (teq (rfl : w = w)).2 (XS.iconst X.here hx rfl (hb hby emethod_6_d17) (XS.goto X.here hx rfl (pc0 := 18) (pc' := 22) rfl (hb hby emethod_6_d18) (by decide) (by decide) k_))) ?_
  refine own_retN X hx hlk (t := .boolean) Bd.returns (by simp) (hb hby emethod_6_d22) (by decide) (by decide) ?_
  rw [eT]
  exact ⟨rfl, N, hh0⟩
theorem emethod_6_d23 : decode method_6_code 23 = .ok (.aload_n 0, 1) := by decide +kernel
theorem emethod_6_d24 : decode method_6_code 24 = .ok (.iload_n 1, 1) := by decide +kernel
theorem emethod_6_d25 : decode method_6_code 25 = .ok (.invokevirtual 33, 3) := by decide +kernel
theorem emethod_6_d28 : decode method_6_code 28 = .ok (.bipush 92, 2) := by decide +kernel
theorem emethod_6_d30 : decode method_6_code 30 = .ok (.if_icmp .ne 53, 3) := by decide +kernel
theorem emethod_6_d33 : decode method_6_code 33 = .ok (.aload_n 0, 1) := by decide +kernel
theorem emethod_6_d34 : decode method_6_code 34 = .ok (.iload_n 1, 1) := by decide +kernel
theorem emethod_6_d35 : decode method_6_code 35 = .ok (.iconst 1, 1) := by decide +kernel
theorem emethod_6_d36 : decode method_6_code 36 = .ok (.iadd, 1) := by decide +kernel
theorem emethod_6_d37 : decode method_6_code 37 = .ok (.invokevirtual 33, 3) := by decide +kernel
theorem emethod_6_d40 : decode method_6_code 40 = .ok (.bipush 120, 2) := by decide +kernel
theorem emethod_6_d42 : decode method_6_code 42 = .ok (.if_icmp .ne 41, 3) := by decide +kernel
theorem emethod_6_d45 : decode method_6_code 45 = .ok (.aload_n 0, 1) := by decide +kernel
theorem emethod_6_d46 : decode method_6_code 46 = .ok (.iload_n 1, 1) := by decide +kernel
theorem emethod_6_d47 : decode method_6_code 47 = .ok (.iconst 2, 1) := by decide +kernel
theorem emethod_6_d48 : decode method_6_code 48 = .ok (.iadd, 1) := by decide +kernel
theorem emethod_6_d49 : decode method_6_code 49 = .ok (.invokevirtual 33, 3) := by decide +kernel
theorem emethod_6_d52 : decode method_6_code 52 = .ok (.iload_n 2, 1) := by decide +kernel
theorem emethod_6_d53 : decode method_6_code 53 = .ok (.bipush 16, 2) := by decide +kernel
theorem emethod_6_d55 : decode method_6_code 55 = .ok (.idiv, 1) := by decide +kernel
theorem emethod_6_d56 : decode method_6_code 56 = .ok (.invokestatic 37, 3) := by decide +kernel
theorem emethod_6_d59 : decode method_6_code 59 = .ok (.if_icmp .ne 24, 3) := by decide +kernel
theorem emethod_6_d62 : decode method_6_code 62 = .ok (.aload_n 0, 1) := by decide +kernel
theorem emethod_6_d63 : decode method_6_code 63 = .ok (.iload_n 1, 1) := by decide +kernel
theorem emethod_6_d64 : decode method_6_code 64 = .ok (.iconst 3, 1) := by decide +kernel
theorem emethod_6_d65 : decode method_6_code 65 = .ok (.iadd, 1) := by decide +kernel
theorem emethod_6_d66 : decode method_6_code 66 = .ok (.invokevirtual 33, 3) := by decide +kernel
theorem emethod_6_d69 : decode method_6_code 69 = .ok (.iload_n 2, 1) := by decide +kernel
theorem emethod_6_d70 : decode method_6_code 70 = .ok (.bipush 16, 2) := by decide +kernel
theorem emethod_6_d72 : decode method_6_code 72 = .ok (.irem, 1) := by decide +kernel
theorem emethod_6_d73 : decode method_6_code 73 = .ok (.invokestatic 37, 3) := by decide +kernel
theorem emethod_6_d76 : decode method_6_code 76 = .ok (.if_icmp .ne 7, 3) := by decide +kernel
theorem emethod_6_d79 : decode method_6_code 79 = .ok (.iconst 1, 1) := by decide +kernel
theorem emethod_6_d80 : decode method_6_code 80 = .ok (.goto 4, 3) := by decide +kernel
theorem emethod_6_d84 : decode method_6_code 84 = .ok (.ireturn, 1) := by decide +kernel
theorem own_mE_pn : plainFor (⟨"com/example/rows_to_regions/rowstoregions/KeyTextEscapePinLaw", "matches", "(Ljava/lang/String;II)Z"⟩ : MethodName) = true := by first | exact plainFor_of_name (by first | (simp [plainName, overriddenIn]; done) | decide +kernel) | decide +kernel | exact Jvm.Free.JP.mathPlain rfl (by decide +kernel)
theorem own_mE_ef (m : MethodId) (x0 : Addr) (x1 : Int32) (x2 : Int32) : entryFrame m #[(.ref x0), (.int x1), (.int x2)] 3 = mkF m 0 #[.val (.ref x0), .val (.int x1), .val (.int x2)] [] := by first | (simp [entryFrame, mkF, argsToLocals, Value.category]; done) | rfl
def own_mE_Q (Z : State) (a1 : Addr) (va : Addr) (kv : ClassId) (z : Int32) (vs : List Value) (j : Int32) (w : Int32) (x0 : Int32) (x1 : Int32) (x2 : Int32) (x3 : Int32) (zc : Int32) (vS : Value) (h0 : Heap) (n0 : Nat) (v : Option Value) (h : Heap) (L : List Loc) : Prop := v = some (.int 1) ∧ Fr n0 L ∧ h = h0
set_option maxRecDepth 65536 in
set_option maxHeartbeats 40000000 in
theorem own_mE (l : Launch) (Z : State) (a0 : Array Value) (hw : ∀ d ∈ tables_1, d.before a0 Z = true) (ws : List Jvm.Cond) (a1 : Addr) (va : Addr) (kv : ClassId) (z : Int32) (vs : List Value) (j : Int32) (w : Int32) (x0 : Int32) (x1 : Int32) (x2 : Int32) (x3 : Int32) (zc : Int32) (vS : Value) (h0 : Heap) (n0 : Nat) (O : Old Z n0 h0) (E_a1 : Exa Z h0 a1 "java/lang/String") (F_value_a1 : Fld Z h0 a1 "java/lang/String" "value" "[B" (.ref va)) (F_coder_a1 : Fld Z h0 a1 "java/lang/String" "coder" "B" (.int 0)) (V_va : Arv Z h0 va kv .byte z vs (.int 0)) (hj0 : ¬ j < 0 ∧ j < z) (hj1 : ¬ (j + (1 : Int32)) < 0 ∧ (j + (1 : Int32)) < z) (hj2 : ¬ (j + (2 : Int32)) < 0 ∧ (j + (2 : Int32)) < z) (hj3 : ¬ (j + (3 : Int32)) < 0 ∧ (j + (3 : Int32)) < z) (hg0 : vs.getD j.toNatClampNeg (.int 0) = .int x0) (hg1 : vs.getD (j + (1 : Int32)).toNatClampNeg (.int 0) = .int x1) (hg2 : vs.getD (j + (2 : Int32)).toNatClampNeg (.int 0) = .int x2) (hg3 : vs.getD (j + (3 : Int32)).toNatClampNeg (.int 0) = .int x3) (ex0 : (x0 &&& (255 : Int32)) = (92 : Int32)) (ex1 : (x1 &&& (255 : Int32)) = (120 : Int32)) (ex2 : (x2 &&& (255 : Int32)) = (own_hx (w / (16 : Int32)))) (ex3 : (x3 &&& (255 : Int32)) = (own_hx (w % (16 : Int32)))) (bw : 0 ≤ w.toInt ∧ w.toInt < 256) (pp : ¬ (¬ w < (32 : Int32) ∧ ¬ (126 : Int32) < w ∧ ¬ w = (92 : Int32))) (S_C : Sta Z Z.heap "java/lang/String" "COMPACT_STRINGS" "Z" (.int zc)) (hzc : ¬ zc = 0) (S_S : Sta Z Z.heap "jdk/internal/util/Preconditions" "SIOOBE_FORMATTER" "Ljava/util/function/BiFunction;" vS) (hvS : vS.isRef = true) :
    MetFree l (⟨"com/example/rows_to_regions/rowstoregions/KeyTextEscapePinLaw", "matches", "(Ljava/lang/String;II)Z"⟩ : MethodName) (head1 (Jvm.Cond.code (⟨"com/example/rows_to_regions/rowstoregions/KeyTextEscapePinLaw", "matches", "(Ljava/lang/String;II)Z"⟩ : MethodName) method_6_code 3 (some .boolean) :: ws) ({ frames := 4, cells := 0, slots := 0, locals := 53 } : Room)) (fun a U => a = #[(.ref a1), (.int j), (.int w)] ∧ Z.Warmed39 U.vm ∧ U.heap = h0) (fun _ _ _ _ _ => True) (fun _ U o U' => ∃ v L, o = .returned v ∧ own_mE_Q Z a1 va kv z vs j w x0 x1 x2 x3 zc vS h0 n0 v U'.heap L ∧ FrameEnd U o U' L ({ frames := 4, cells := 0, slots := 0, locals := 53 } : Room).cells ({ frames := 4, cells := 0, slots := 0, locals := 53 } : Room).slots) := by
  refine MetFree.of_bodySF own_mE_pn hisR ?_
  intro p e s m args below meth c s₁ Bd hml0 hP hK
  obtain ⟨rfl, hZ, hh⟩ := hP
  have hx := Bd.exec
  have hby := Bd.bytes
  have hlk := Bd.notSynchronized
  have hml : c.maxLocals = 3 := hml0
  have hown : s.vm.findClass "com/example/rows_to_regions/rowstoregions/KeyTextEscapePinLaw" = some m.cls := findClass_of_methodNamed Bd.named
  have hnm := (name_of_methodNamed Bd.named Bd.method).1
  have X : Stand p l e ({ frames := 4, cells := 0, slots := 0, locals := 53 } : Room) s m #[(.ref a1), (.int j), (.int w)] below meth c s₁ [] 0 0 := Stand.of_body Bd
  have eT : s₁.heap = h0 := by rw [← hh, Bd.state]; rfl
  have N := Fr.nil n0
  have K0 := Keep.refl h0 []
  show own_Ends p e below (own_Post s below (own_mE_Q Z a1 va kv z vs j w x0 x1 x2 x3 zc vS h0 n0) ({ frames := 4, cells := 0, slots := 0, locals := 53 } : Room).cells ({ frames := 4, cells := 0, slots := 0, locals := 53 } : Room).slots) s₁ (entryFrame m #[(.ref a1), (.int j), (.int w)] 3)
  rw [own_mE_ef m a1 j w]
  obtain ⟨T, hT⟩ : ∃ z, z = s₁ := ⟨_, rfl⟩
  rw [← hT] at X eT ⊢
  obtain ⟨h, hh0⟩ : ∃ z, z = h0 := ⟨_, rfl⟩
  rw [← hh0] at eT
  replace O : Old Z n0 h := by rw [hh0]; exact O
  replace K0 : Keep h0 h [] := by rw [hh0]; exact K0
  rw [← hh0] at E_a1
  rw [← hh0] at F_value_a1
  rw [← hh0] at F_coder_a1
  rw [← hh0] at V_va
  refine own_via (g' := (mkF m 1 (own_L26 a1 j w) [(.int w)])) (fun t_ k_ => XS.iloadN X.here hx rfl (hb hby emethod_6_d0) rfl k_) ?_
  obtain ⟨_, _, ⟨T, Lq, kq, nq⟩, -, X, ⟨Lc, hQ, lq, yq, zq⟩, st⟩ := Jvm.LawKit.callS X hx (y := own_y26) hown (mvT hZ (hw _ (own_w 129 rfl))) (mvT hZ (hw _ (own_w 130 rfl))) (mvT hZ (hw _ (own_w 127 rfl))) (mvT hZ (hw _ (own_w 131 rfl))) (by decide) (backOf (W := 0) (own_plE l Z a0 hw [] w h n0 O pp) hZ (hw _ (own_w 131 rfl)) (hw _ (own_w 127 rfl)) (by decide) (by decide)) (g := (mkF m 1 (own_L26 a1 j w) [(.int w)])) rfl (by rw [hml]; rfl) (argsL := [(.int w)]) (rest := []) (lenOf own_pd19 rfl) rfl (by show 2 * 0 + _ ≤ _; exact Nat.le_of_eq rfl) (hb hby emethod_6_d1) (fun _ _ => ⟨rfl, eT, (by decide : 0 + 0 ≤ _), (by decide : 0 + 0 ≤ _)⟩)
  dsimp only [Pt.U, Pt.locs, Pt.cells, Pt.slots] at X lq yq zq st hQ
  subst lq yq zq
  obtain ⟨rfl, Nq, eT⟩ := hQ
  replace N := Fr.app N Nq
  refine own_via (g' := (mkF m 4 (own_L26 a1 j w) [(.int 0)])) st ?_
  refine own_via (g' := (mkF m 25 (own_L26 a1 j w) [(.int j), (.ref a1)])) (fun t_ k_ => XS.ifYes X.here hx rfl (pc0 := 4) (pc' := 23) rfl (hb hby emethod_6_d4) rfl ((if0 _ _).trans (teq (by decide : (0 : Int32) = (0 : Int32))).1) (by decide) (by decide) (XS.aloadN X.here hx rfl (hb hby emethod_6_d23) rfl rfl (XS.iloadN X.here hx rfl (hb hby emethod_6_d24) rfl k_))) ?_
  obtain ⟨cq, kq, qa, qb, qc⟩ := isOf hZ eT E_a1
  obtain ⟨_, _, ⟨T, Lq, kq, nq⟩, -, X, ⟨Lc, hQ, lq, yq, zq⟩, st⟩ := X.virtualBack hx (y := own_y27) (z := own_y27) hown (mvT hZ (hw _ (own_w 146 rfl))) (mvT hZ (hw _ (own_w 147 rfl))) (notFace_of_selects (args := #[]) (mvT hZ (hw _ (own_w 149 rfl)))) (mvT hZ (hw _ (own_w 149 rfl))) (mvT hZ (hw _ (own_w 148 rfl))) (by decide) (backOf (W := 0) (own_charAt l Z a0 hw [] a1 j va kv z vs x0 zc vS h n0 O E_a1 F_value_a1 F_coder_a1 V_va S_C hzc hj0 hg0 S_S hvS) hZ (hw _ (own_w 150 rfl)) (hw _ (own_w 21 rfl)) (by decide) (by decide)) qa qc (g := (mkF m 25 (own_L26 a1 j w) [(.int j), (.ref a1)])) rfl (by rw [hml]; rfl) (Steps.refl _) (argsL := [(.int j)]) (rest := []) (lenOf own_pd20 rfl) rfl (by show 2 * 0 + _ ≤ _; exact Nat.le_of_eq rfl) (hb hby emethod_6_d25) (fun _ _ => ⟨rfl, eT, (by decide : 0 + 0 ≤ _), (by decide : 0 + 0 ≤ _)⟩)
  dsimp only [Pt.U, Pt.locs, Pt.cells, Pt.slots] at X lq yq zq st hQ
  subst lq yq zq
  obtain ⟨rfl, Nq, eT⟩ := hQ
  replace N := Fr.app N Nq
  refine own_viaT (g' := (mkF m 28 (own_L26 a1 j w) [(.int (x0 &&& (255 : Int32)))])) st ?_
  rw [ex0]
  refine own_via (g' := (mkF m 37 (own_L26 a1 j w) [(.int (j + (1 : Int32))), (.ref a1)])) (fun t_ k_ => XS.bipush X.here hx rfl (hb hby emethod_6_d28) (XS.icmpNo X.here hx rfl (hb hby emethod_6_d30) rfl (teq (by decide : (92 : Int32) = (92 : Int32))).2 (XS.aloadN X.here hx rfl (hb hby emethod_6_d33) rfl rfl (XS.iloadN X.here hx rfl (hb hby emethod_6_d34) rfl (XS.iconst X.here hx rfl (hb hby emethod_6_d35) (XS.iadd X.here hx rfl (hb hby emethod_6_d36) rfl k_)))))) ?_
  obtain ⟨cq, kq, qa, qb, qc⟩ := isOf hZ eT E_a1
  obtain ⟨_, _, ⟨T, Lq, kq, nq⟩, -, X, ⟨Lc, hQ, lq, yq, zq⟩, st⟩ := X.virtualBack hx (y := own_y27) (z := own_y27) hown (mvT hZ (hw _ (own_w 146 rfl))) (mvT hZ (hw _ (own_w 147 rfl))) (notFace_of_selects (args := #[]) (mvT hZ (hw _ (own_w 149 rfl)))) (mvT hZ (hw _ (own_w 149 rfl))) (mvT hZ (hw _ (own_w 148 rfl))) (by decide) (backOf (W := 0) (own_charAt l Z a0 hw [] a1 (j + (1 : Int32)) va kv z vs x1 zc vS h n0 O E_a1 F_value_a1 F_coder_a1 V_va S_C hzc hj1 hg1 S_S hvS) hZ (hw _ (own_w 150 rfl)) (hw _ (own_w 21 rfl)) (by decide) (by decide)) qa qc (g := (mkF m 37 (own_L26 a1 j w) [(.int (j + (1 : Int32))), (.ref a1)])) rfl (by rw [hml]; rfl) (Steps.refl _) (argsL := [(.int (j + (1 : Int32)))]) (rest := []) (lenOf own_pd20 rfl) rfl (by show 2 * 0 + _ ≤ _; exact Nat.le_of_eq rfl) (hb hby emethod_6_d37) (fun _ _ => ⟨rfl, eT, (by decide : 0 + 0 ≤ _), (by decide : 0 + 0 ≤ _)⟩)
  dsimp only [Pt.U, Pt.locs, Pt.cells, Pt.slots] at X lq yq zq st hQ
  subst lq yq zq
  obtain ⟨rfl, Nq, eT⟩ := hQ
  replace N := Fr.app N Nq
  refine own_viaT (g' := (mkF m 40 (own_L26 a1 j w) [(.int (x1 &&& (255 : Int32)))])) st ?_
  rw [ex1]
  refine own_via (g' := (mkF m 49 (own_L26 a1 j w) [(.int (j + (2 : Int32))), (.ref a1)])) (fun t_ k_ => XS.bipush X.here hx rfl (hb hby emethod_6_d40) (XS.icmpNo X.here hx rfl (hb hby emethod_6_d42) rfl (teq (by decide : (120 : Int32) = (120 : Int32))).2 (XS.aloadN X.here hx rfl (hb hby emethod_6_d45) rfl rfl (XS.iloadN X.here hx rfl (hb hby emethod_6_d46) rfl (XS.iconst X.here hx rfl (hb hby emethod_6_d47) (XS.iadd X.here hx rfl (hb hby emethod_6_d48) rfl k_)))))) ?_
  obtain ⟨cq, kq, qa, qb, qc⟩ := isOf hZ eT E_a1
  obtain ⟨_, _, ⟨T, Lq, kq, nq⟩, -, X, ⟨Lc, hQ, lq, yq, zq⟩, st⟩ := X.virtualBack hx (y := own_y27) (z := own_y27) hown (mvT hZ (hw _ (own_w 146 rfl))) (mvT hZ (hw _ (own_w 147 rfl))) (notFace_of_selects (args := #[]) (mvT hZ (hw _ (own_w 149 rfl)))) (mvT hZ (hw _ (own_w 149 rfl))) (mvT hZ (hw _ (own_w 148 rfl))) (by decide) (backOf (W := 0) (own_charAt l Z a0 hw [] a1 (j + (2 : Int32)) va kv z vs x2 zc vS h n0 O E_a1 F_value_a1 F_coder_a1 V_va S_C hzc hj2 hg2 S_S hvS) hZ (hw _ (own_w 150 rfl)) (hw _ (own_w 21 rfl)) (by decide) (by decide)) qa qc (g := (mkF m 49 (own_L26 a1 j w) [(.int (j + (2 : Int32))), (.ref a1)])) rfl (by rw [hml]; rfl) (Steps.refl _) (argsL := [(.int (j + (2 : Int32)))]) (rest := []) (lenOf own_pd20 rfl) rfl (by show 2 * 0 + _ ≤ _; exact Nat.le_of_eq rfl) (hb hby emethod_6_d49) (fun _ _ => ⟨rfl, eT, (by decide : 0 + 0 ≤ _), (by decide : 0 + 0 ≤ _)⟩)
  dsimp only [Pt.U, Pt.locs, Pt.cells, Pt.slots] at X lq yq zq st hQ
  subst lq yq zq
  obtain ⟨rfl, Nq, eT⟩ := hQ
  replace N := Fr.app N Nq
  refine own_viaT (g' := (mkF m 52 (own_L26 a1 j w) [(.int (x2 &&& (255 : Int32)))])) st ?_
  rw [ex2]
  refine own_via (g' := (mkF m 56 (own_L26 a1 j w) [(.int (w / (16 : Int32))), (.int (own_hx (w / (16 : Int32))))])) (fun t_ k_ => XS.iloadN X.here hx rfl (hb hby emethod_6_d52) rfl (XS.bipush X.here hx rfl (hb hby emethod_6_d53) (XS.idiv X.here hx rfl (hb hby emethod_6_d55) rfl (by decide) k_))) ?_
  obtain ⟨_, _, ⟨T, Lq, kq, nq⟩, -, X, ⟨Lc, hQ, lq, yq, zq⟩, st⟩ := Jvm.LawKit.callS X hx (y := own_y28) hown (mvT hZ (hw _ (own_w 167 rfl))) (mvT hZ (hw _ (own_w 168 rfl))) (mvT hZ (hw _ (own_w 127 rfl))) (mvT hZ (hw _ (own_w 169 rfl))) (by decide) (backOf (W := 1) (own_hexM l Z a0 hw [] (w / (16 : Int32)) h n0 O (own_hi bw.1 bw.2).2) hZ (hw _ (own_w 169 rfl)) (hw _ (own_w 127 rfl)) (by decide) (by decide)) (g := (mkF m 56 (own_L26 a1 j w) [(.int (w / (16 : Int32))), (.int (own_hx (w / (16 : Int32))))])) rfl (by rw [hml]; rfl) (argsL := [(.int (w / (16 : Int32)))]) (rest := [(.int (own_hx (w / (16 : Int32))))]) (lenOf own_pd20 rfl) rfl (by show 2 * 0 + _ ≤ _; exact Nat.le_of_eq rfl) (hb hby emethod_6_d56) (fun _ _ => ⟨rfl, eT, (by decide : 0 + 0 ≤ _), (by decide : 0 + 0 ≤ _)⟩)
  dsimp only [Pt.U, Pt.locs, Pt.cells, Pt.slots] at X lq yq zq st hQ
  subst lq yq zq
  obtain ⟨rfl, Nq, eT⟩ := hQ
  replace N := Fr.app N Nq
  refine own_via (g' := (mkF m 59 (own_L26 a1 j w) [(.int (own_hx (w / (16 : Int32)))), (.int (own_hx (w / (16 : Int32))))])) st ?_
  refine own_via (g' := (mkF m 66 (own_L26 a1 j w) [(.int (j + (3 : Int32))), (.ref a1)])) (fun t_ k_ => XS.icmpNo X.here hx rfl (hb hby emethod_6_d59) rfl (teq (rfl : (own_hx (w / (16 : Int32))) = (own_hx (w / (16 : Int32))))).2 (XS.aloadN X.here hx rfl (hb hby emethod_6_d62) rfl rfl (XS.iloadN X.here hx rfl (hb hby emethod_6_d63) rfl (XS.iconst X.here hx rfl (hb hby emethod_6_d64) (XS.iadd X.here hx rfl (hb hby emethod_6_d65) rfl k_))))) ?_
  obtain ⟨cq, kq, qa, qb, qc⟩ := isOf hZ eT E_a1
  obtain ⟨_, _, ⟨T, Lq, kq, nq⟩, -, X, ⟨Lc, hQ, lq, yq, zq⟩, st⟩ := X.virtualBack hx (y := own_y27) (z := own_y27) hown (mvT hZ (hw _ (own_w 146 rfl))) (mvT hZ (hw _ (own_w 147 rfl))) (notFace_of_selects (args := #[]) (mvT hZ (hw _ (own_w 149 rfl)))) (mvT hZ (hw _ (own_w 149 rfl))) (mvT hZ (hw _ (own_w 148 rfl))) (by decide) (backOf (W := 0) (own_charAt l Z a0 hw [] a1 (j + (3 : Int32)) va kv z vs x3 zc vS h n0 O E_a1 F_value_a1 F_coder_a1 V_va S_C hzc hj3 hg3 S_S hvS) hZ (hw _ (own_w 150 rfl)) (hw _ (own_w 21 rfl)) (by decide) (by decide)) qa qc (g := (mkF m 66 (own_L26 a1 j w) [(.int (j + (3 : Int32))), (.ref a1)])) rfl (by rw [hml]; rfl) (Steps.refl _) (argsL := [(.int (j + (3 : Int32)))]) (rest := []) (lenOf own_pd20 rfl) rfl (by show 2 * 0 + _ ≤ _; exact Nat.le_of_eq rfl) (hb hby emethod_6_d66) (fun _ _ => ⟨rfl, eT, (by decide : 0 + 0 ≤ _), (by decide : 0 + 0 ≤ _)⟩)
  dsimp only [Pt.U, Pt.locs, Pt.cells, Pt.slots] at X lq yq zq st hQ
  subst lq yq zq
  obtain ⟨rfl, Nq, eT⟩ := hQ
  replace N := Fr.app N Nq
  refine own_viaT (g' := (mkF m 69 (own_L26 a1 j w) [(.int (x3 &&& (255 : Int32)))])) st ?_
  rw [ex3]
  refine own_via (g' := (mkF m 73 (own_L26 a1 j w) [(.int (w % (16 : Int32))), (.int (own_hx (w % (16 : Int32))))])) (fun t_ k_ => XS.iloadN X.here hx rfl (hb hby emethod_6_d69) rfl (XS.bipush X.here hx rfl (hb hby emethod_6_d70) (iremM (g := (mkF m 72 (own_L26 a1 j w) [(.int 16), (.int w), (.int (own_hx (w % (16 : Int32))))])) X hx rfl (hb hby emethod_6_d72) rfl (by decide) k_))) ?_
  obtain ⟨_, _, ⟨T, Lq, kq, nq⟩, -, X, ⟨Lc, hQ, lq, yq, zq⟩, st⟩ := Jvm.LawKit.callS X hx (y := own_y28) hown (mvT hZ (hw _ (own_w 167 rfl))) (mvT hZ (hw _ (own_w 168 rfl))) (mvT hZ (hw _ (own_w 127 rfl))) (mvT hZ (hw _ (own_w 169 rfl))) (by decide) (backOf (W := 1) (own_hexM l Z a0 hw [] (w % (16 : Int32)) h n0 O (own_lo bw.1 bw.2).2) hZ (hw _ (own_w 169 rfl)) (hw _ (own_w 127 rfl)) (by decide) (by decide)) (g := (mkF m 73 (own_L26 a1 j w) [(.int (w % (16 : Int32))), (.int (own_hx (w % (16 : Int32))))])) rfl (by rw [hml]; rfl) (argsL := [(.int (w % (16 : Int32)))]) (rest := [(.int (own_hx (w % (16 : Int32))))]) (lenOf own_pd20 rfl) rfl (by show 2 * 0 + _ ≤ _; exact Nat.le_of_eq rfl) (hb hby emethod_6_d73) (fun _ _ => ⟨rfl, eT, (by decide : 0 + 0 ≤ _), (by decide : 0 + 0 ≤ _)⟩)
  dsimp only [Pt.U, Pt.locs, Pt.cells, Pt.slots] at X lq yq zq st hQ
  subst lq yq zq
  obtain ⟨rfl, Nq, eT⟩ := hQ
  replace N := Fr.app N Nq
  refine own_via (g' := (mkF m 76 (own_L26 a1 j w) [(.int (own_hx (w % (16 : Int32)))), (.int (own_hx (w % (16 : Int32))))])) st ?_
  refine own_via (g' := (mkF m 84 (own_L26 a1 j w) [(.int 1)])) (fun t_ k_ => XS.icmpNo X.here hx rfl (hb hby emethod_6_d76) rfl (teq (rfl : (own_hx (w % (16 : Int32))) = (own_hx (w % (16 : Int32))))).2 (XS.iconst X.here hx rfl (hb hby emethod_6_d79) (XS.goto X.here hx rfl (pc0 := 80) (pc' := 84) rfl (hb hby emethod_6_d80) (by decide) (by decide) k_))) ?_
  refine own_retN X hx hlk (t := .boolean) Bd.returns (by simp) (hb hby emethod_6_d84) (by decide) (by decide) ?_
  rw [eT]
  exact ⟨rfl, N, hh0⟩
def own_W (w r : Int32) : Prop := ((¬ w < (32 : Int32) ∧ ¬ (126 : Int32) < w ∧ ¬ w = (92 : Int32)) ∧ r = 1) ∨ (¬ (¬ w < (32 : Int32) ∧ ¬ (126 : Int32) < w ∧ ¬ w = (92 : Int32)) ∧ r = 4)
def own_M (vs : List Value) (z j w : Int32) : Prop := ((¬ w < (32 : Int32) ∧ ¬ (126 : Int32) < w ∧ ¬ w = (92 : Int32)) ∧ ∃ x0, (¬ j < 0 ∧ j < z) ∧ vs.getD j.toNatClampNeg (.int 0) = .int x0 ∧ (x0 &&& (255 : Int32)) = w) ∨
  (¬ (¬ w < (32 : Int32) ∧ ¬ (126 : Int32) < w ∧ ¬ w = (92 : Int32)) ∧ ∃ x0 x1 x2 x3, ((¬ j < 0 ∧ j < z) ∧ (¬ (j + 1) < 0 ∧ (j + 1) < z) ∧ (¬ (j + 2) < 0 ∧ (j + 2) < z) ∧ (¬ (j + 3) < 0 ∧ (j + 3) < z)) ∧
    (vs.getD j.toNatClampNeg (.int 0) = .int x0 ∧ vs.getD (j + 1).toNatClampNeg (.int 0) = .int x1 ∧ vs.getD (j + 2).toNatClampNeg (.int 0) = .int x2 ∧ vs.getD (j + 3).toNatClampNeg (.int 0) = .int x3) ∧
    (x0 &&& (255 : Int32)) = (92 : Int32) ∧ (x1 &&& (255 : Int32)) = (120 : Int32) ∧ (x2 &&& (255 : Int32)) = own_hx (w / (16 : Int32)) ∧ (x3 &&& (255 : Int32)) = own_hx (w % (16 : Int32)))
theorem own_exH {v : Int32} (b : 0 ≤ v.toInt ∧ v.toInt < 256) : ((((own_hx (v / (16 : Int32))).toInt8.toInt32).toInt8.toInt32) &&& (255 : Int32)) = own_hx (v / (16 : Int32)) := own_st255 (own_hxB (own_hi b.1 b.2).2.1 (own_hi b.1 b.2).2.2).1 (own_hxB (own_hi b.1 b.2).2.1 (own_hi b.1 b.2).2.2).2
theorem own_exL {v : Int32} (b : 0 ≤ v.toInt ∧ v.toInt < 256) : ((((own_hx (v % (16 : Int32))).toInt8.toInt32).toInt8.toInt32) &&& (255 : Int32)) = own_hx (v % (16 : Int32)) := own_st255 (own_hxB (own_lo b.1 b.2).2.1 (own_lo b.1 b.2).2.2).1 (own_hxB (own_lo b.1 b.2).2.1 (own_lo b.1 b.2).2.2).2
def own_wdG_Q (Z : State) (w : Int32) (r : Int32) (h0 : Heap) (n0 : Nat) (v : Option Value) (h : Heap) (L : List Loc) : Prop := v = some (.int r) ∧ Fr n0 L ∧ h = h0
theorem own_wdG (l : Launch) (Z : State) (a0 : Array Value) (hw : ∀ d ∈ tables_1, d.before a0 Z = true) (ws : List Jvm.Cond) (w : Int32) (r : Int32) (h0 : Heap) (n0 : Nat) (O : Old Z n0 h0) (hr : own_W w r) :
    MetFree l (⟨"com/example/rows_to_regions/rowstoregions/KeyTextEscapePinLaw", "width", "(I)I"⟩ : MethodName) (head1 (Jvm.Cond.code (⟨"com/example/rows_to_regions/rowstoregions/KeyTextEscapePinLaw", "width", "(I)I"⟩ : MethodName) method_4_code 1 (some .int) :: ws) ({ frames := 1, cells := 0, slots := 0, locals := 12 } : Room)) (fun a U => a = #[(.int w)] ∧ Z.Warmed39 U.vm ∧ U.heap = h0) (fun _ _ _ _ _ => True) (fun _ U o U' => ∃ v L, o = .returned v ∧ own_wdG_Q Z w r h0 n0 v U'.heap L ∧ FrameEnd U o U' L ({ frames := 1, cells := 0, slots := 0, locals := 12 } : Room).cells ({ frames := 1, cells := 0, slots := 0, locals := 12 } : Room).slots) := by
  rcases hr with ⟨pp, rfl⟩ | ⟨pp, rfl⟩
  · exact own_wdP l Z a0 hw ws w h0 n0 O pp
  · exact own_wdE l Z a0 hw ws w h0 n0 O pp
def own_mG_Q (Z : State) (a1 : Addr) (va : Addr) (kv : ClassId) (z : Int32) (vs : List Value) (j : Int32) (w : Int32) (zc : Int32) (vS : Value) (h0 : Heap) (n0 : Nat) (v : Option Value) (h : Heap) (L : List Loc) : Prop := v = some (.int 1) ∧ Fr n0 L ∧ h = h0
theorem own_mG (l : Launch) (Z : State) (a0 : Array Value) (hw : ∀ d ∈ tables_1, d.before a0 Z = true) (ws : List Jvm.Cond) (a1 : Addr) (va : Addr) (kv : ClassId) (z : Int32) (vs : List Value) (j : Int32) (w : Int32) (zc : Int32) (vS : Value) (h0 : Heap) (n0 : Nat) (O : Old Z n0 h0) (E_a1 : Exa Z h0 a1 "java/lang/String") (F_value_a1 : Fld Z h0 a1 "java/lang/String" "value" "[B" (.ref va)) (F_coder_a1 : Fld Z h0 a1 "java/lang/String" "coder" "B" (.int 0)) (V_va : Arv Z h0 va kv .byte z vs (.int 0)) (bw : 0 ≤ w.toInt ∧ w.toInt < 256) (S_C : Sta Z Z.heap "java/lang/String" "COMPACT_STRINGS" "Z" (.int zc)) (hzc : ¬ zc = 0) (S_S : Sta Z Z.heap "jdk/internal/util/Preconditions" "SIOOBE_FORMATTER" "Ljava/util/function/BiFunction;" vS) (hvS : vS.isRef = true) (hm : own_M vs z j w) :
    MetFree l (⟨"com/example/rows_to_regions/rowstoregions/KeyTextEscapePinLaw", "matches", "(Ljava/lang/String;II)Z"⟩ : MethodName) (head1 (Jvm.Cond.code (⟨"com/example/rows_to_regions/rowstoregions/KeyTextEscapePinLaw", "matches", "(Ljava/lang/String;II)Z"⟩ : MethodName) method_6_code 3 (some .boolean) :: ws) ({ frames := 4, cells := 0, slots := 0, locals := 53 } : Room)) (fun a U => a = #[(.ref a1), (.int j), (.int w)] ∧ Z.Warmed39 U.vm ∧ U.heap = h0) (fun _ _ _ _ _ => True) (fun _ U o U' => ∃ v L, o = .returned v ∧ own_mG_Q Z a1 va kv z vs j w zc vS h0 n0 v U'.heap L ∧ FrameEnd U o U' L ({ frames := 4, cells := 0, slots := 0, locals := 53 } : Room).cells ({ frames := 4, cells := 0, slots := 0, locals := 53 } : Room).slots) := by
  rcases hm with ⟨pp, x0, hj0, hg0, ex0⟩ | ⟨pp, x0, x1, x2, x3, ⟨hj0, hj1, hj2, hj3⟩, ⟨hg0, hg1, hg2, hg3⟩, ex0, ex1, ex2, ex3⟩
  · exact own_mP l Z a0 hw ws a1 va kv z vs j w x0 zc vS h0 n0 O E_a1 F_value_a1 F_coder_a1 V_va hj0 hg0 ex0 bw pp S_C hzc S_S hvS
  · exact own_mE l Z a0 hw ws a1 va kv z vs j w x0 x1 x2 x3 zc vS h0 n0 O E_a1 F_value_a1 F_coder_a1 V_va hj0 hj1 hj2 hj3 hg0 hg1 hg2 hg3 ex0 ex1 ex2 ex3 bw pp S_C hzc S_S hvS
theorem own_dec1 {v0 : Int32} {N : Int32} {cs : List Value} (bd0 : 0 ≤ v0.toInt ∧ v0.toInt < 256) (hE : own_E1 v0 N cs) : ∃ w0, N = ((w0 + (0 : Int32)) + (0 : Int32)) ∧ own_W v0 w0 ∧ own_M cs N (0 : Int32) v0 := by
  rcases hE with ⟨cd0, rfl, rfl⟩ | ⟨cd0, rfl, rfl⟩
  · exact ⟨(1 : Int32), by decide, Or.inl ⟨cd0, rfl⟩, Or.inl ⟨cd0, _, by decide, rfl, own_st255 bd0.1 bd0.2⟩⟩
  · exact ⟨(4 : Int32), by decide, Or.inr ⟨cd0, rfl⟩, Or.inr ⟨cd0, _, _, _, _, by decide, ⟨rfl, rfl, rfl, rfl⟩, by decide, by decide, own_exH bd0, own_exL bd0⟩⟩
theorem own_dec2 {v0 : Int32} {v1 : Int32} {N : Int32} {cs : List Value} (bd0 : 0 ≤ v0.toInt ∧ v0.toInt < 256) (bd1 : 0 ≤ v1.toInt ∧ v1.toInt < 256) (hE : own_E2 v0 v1 N cs) : ∃ w0 w1, N = ((w0 + w1) + (0 : Int32)) ∧ own_W v0 w0 ∧ own_W v1 w1 ∧ own_M cs N (0 : Int32) v0 ∧ own_M cs N w0 v1 := by
  rcases hE with ⟨cd0, cd1, rfl, rfl⟩ | ⟨cd0, cd1, rfl, rfl⟩ | ⟨cd0, cd1, rfl, rfl⟩ | ⟨cd0, cd1, rfl, rfl⟩
  · exact ⟨(1 : Int32), (1 : Int32), by decide, Or.inl ⟨cd0, rfl⟩, Or.inl ⟨cd1, rfl⟩, Or.inl ⟨cd0, _, by decide, rfl, own_st255 bd0.1 bd0.2⟩, Or.inl ⟨cd1, _, by decide, rfl, own_st255 bd1.1 bd1.2⟩⟩
  · exact ⟨(1 : Int32), (4 : Int32), by decide, Or.inl ⟨cd0, rfl⟩, Or.inr ⟨cd1, rfl⟩, Or.inl ⟨cd0, _, by decide, rfl, own_st255 bd0.1 bd0.2⟩, Or.inr ⟨cd1, _, _, _, _, by decide, ⟨rfl, rfl, rfl, rfl⟩, by decide, by decide, own_exH bd1, own_exL bd1⟩⟩
  · exact ⟨(4 : Int32), (1 : Int32), by decide, Or.inr ⟨cd0, rfl⟩, Or.inl ⟨cd1, rfl⟩, Or.inr ⟨cd0, _, _, _, _, by decide, ⟨rfl, rfl, rfl, rfl⟩, by decide, by decide, own_exH bd0, own_exL bd0⟩, Or.inl ⟨cd1, _, by decide, rfl, own_st255 bd1.1 bd1.2⟩⟩
  · exact ⟨(4 : Int32), (4 : Int32), by decide, Or.inr ⟨cd0, rfl⟩, Or.inr ⟨cd1, rfl⟩, Or.inr ⟨cd0, _, _, _, _, by decide, ⟨rfl, rfl, rfl, rfl⟩, by decide, by decide, own_exH bd0, own_exL bd0⟩, Or.inr ⟨cd1, _, _, _, _, by decide, ⟨rfl, rfl, rfl, rfl⟩, by decide, by decide, own_exH bd1, own_exL bd1⟩⟩
theorem own_dec3 {v0 : Int32} {v1 : Int32} {v2 : Int32} {N : Int32} {cs : List Value} (bd0 : 0 ≤ v0.toInt ∧ v0.toInt < 256) (bd1 : 0 ≤ v1.toInt ∧ v1.toInt < 256) (bd2 : 0 ≤ v2.toInt ∧ v2.toInt < 256) (hE : own_E3 v0 v1 v2 N cs) : ∃ w0 w1 w2, N = ((w0 + w1) + w2) ∧ own_W v0 w0 ∧ own_W v1 w1 ∧ own_W v2 w2 ∧ own_M cs N (0 : Int32) v0 ∧ own_M cs N w0 v1 ∧ own_M cs N (w0 + w1) v2 := by
  rcases hE with ⟨cd0, cd1, cd2, rfl, rfl⟩ | ⟨cd0, cd1, cd2, rfl, rfl⟩ | ⟨cd0, cd1, cd2, rfl, rfl⟩ | ⟨cd0, cd1, cd2, rfl, rfl⟩ | ⟨cd0, cd1, cd2, rfl, rfl⟩ | ⟨cd0, cd1, cd2, rfl, rfl⟩ | ⟨cd0, cd1, cd2, rfl, rfl⟩ | ⟨cd0, cd1, cd2, rfl, rfl⟩
  · exact ⟨(1 : Int32), (1 : Int32), (1 : Int32), by decide, Or.inl ⟨cd0, rfl⟩, Or.inl ⟨cd1, rfl⟩, Or.inl ⟨cd2, rfl⟩, Or.inl ⟨cd0, _, by decide, rfl, own_st255 bd0.1 bd0.2⟩, Or.inl ⟨cd1, _, by decide, rfl, own_st255 bd1.1 bd1.2⟩, Or.inl ⟨cd2, _, by decide, rfl, own_st255 bd2.1 bd2.2⟩⟩
  · exact ⟨(1 : Int32), (1 : Int32), (4 : Int32), by decide, Or.inl ⟨cd0, rfl⟩, Or.inl ⟨cd1, rfl⟩, Or.inr ⟨cd2, rfl⟩, Or.inl ⟨cd0, _, by decide, rfl, own_st255 bd0.1 bd0.2⟩, Or.inl ⟨cd1, _, by decide, rfl, own_st255 bd1.1 bd1.2⟩, Or.inr ⟨cd2, _, _, _, _, by decide, ⟨rfl, rfl, rfl, rfl⟩, by decide, by decide, own_exH bd2, own_exL bd2⟩⟩
  · exact ⟨(1 : Int32), (4 : Int32), (1 : Int32), by decide, Or.inl ⟨cd0, rfl⟩, Or.inr ⟨cd1, rfl⟩, Or.inl ⟨cd2, rfl⟩, Or.inl ⟨cd0, _, by decide, rfl, own_st255 bd0.1 bd0.2⟩, Or.inr ⟨cd1, _, _, _, _, by decide, ⟨rfl, rfl, rfl, rfl⟩, by decide, by decide, own_exH bd1, own_exL bd1⟩, Or.inl ⟨cd2, _, by decide, rfl, own_st255 bd2.1 bd2.2⟩⟩
  · exact ⟨(1 : Int32), (4 : Int32), (4 : Int32), by decide, Or.inl ⟨cd0, rfl⟩, Or.inr ⟨cd1, rfl⟩, Or.inr ⟨cd2, rfl⟩, Or.inl ⟨cd0, _, by decide, rfl, own_st255 bd0.1 bd0.2⟩, Or.inr ⟨cd1, _, _, _, _, by decide, ⟨rfl, rfl, rfl, rfl⟩, by decide, by decide, own_exH bd1, own_exL bd1⟩, Or.inr ⟨cd2, _, _, _, _, by decide, ⟨rfl, rfl, rfl, rfl⟩, by decide, by decide, own_exH bd2, own_exL bd2⟩⟩
  · exact ⟨(4 : Int32), (1 : Int32), (1 : Int32), by decide, Or.inr ⟨cd0, rfl⟩, Or.inl ⟨cd1, rfl⟩, Or.inl ⟨cd2, rfl⟩, Or.inr ⟨cd0, _, _, _, _, by decide, ⟨rfl, rfl, rfl, rfl⟩, by decide, by decide, own_exH bd0, own_exL bd0⟩, Or.inl ⟨cd1, _, by decide, rfl, own_st255 bd1.1 bd1.2⟩, Or.inl ⟨cd2, _, by decide, rfl, own_st255 bd2.1 bd2.2⟩⟩
  · exact ⟨(4 : Int32), (1 : Int32), (4 : Int32), by decide, Or.inr ⟨cd0, rfl⟩, Or.inl ⟨cd1, rfl⟩, Or.inr ⟨cd2, rfl⟩, Or.inr ⟨cd0, _, _, _, _, by decide, ⟨rfl, rfl, rfl, rfl⟩, by decide, by decide, own_exH bd0, own_exL bd0⟩, Or.inl ⟨cd1, _, by decide, rfl, own_st255 bd1.1 bd1.2⟩, Or.inr ⟨cd2, _, _, _, _, by decide, ⟨rfl, rfl, rfl, rfl⟩, by decide, by decide, own_exH bd2, own_exL bd2⟩⟩
  · exact ⟨(4 : Int32), (4 : Int32), (1 : Int32), by decide, Or.inr ⟨cd0, rfl⟩, Or.inr ⟨cd1, rfl⟩, Or.inl ⟨cd2, rfl⟩, Or.inr ⟨cd0, _, _, _, _, by decide, ⟨rfl, rfl, rfl, rfl⟩, by decide, by decide, own_exH bd0, own_exL bd0⟩, Or.inr ⟨cd1, _, _, _, _, by decide, ⟨rfl, rfl, rfl, rfl⟩, by decide, by decide, own_exH bd1, own_exL bd1⟩, Or.inl ⟨cd2, _, by decide, rfl, own_st255 bd2.1 bd2.2⟩⟩
  · exact ⟨(4 : Int32), (4 : Int32), (4 : Int32), by decide, Or.inr ⟨cd0, rfl⟩, Or.inr ⟨cd1, rfl⟩, Or.inr ⟨cd2, rfl⟩, Or.inr ⟨cd0, _, _, _, _, by decide, ⟨rfl, rfl, rfl, rfl⟩, by decide, by decide, own_exH bd0, own_exL bd0⟩, Or.inr ⟨cd1, _, _, _, _, by decide, ⟨rfl, rfl, rfl, rfl⟩, by decide, by decide, own_exH bd1, own_exL bd1⟩, Or.inr ⟨cd2, _, _, _, _, by decide, ⟨rfl, rfl, rfl, rfl⟩, by decide, by decide, own_exH bd2, own_exL bd2⟩⟩
theorem own_law_pn : plainFor x = true := by first | exact plainFor_of_name (by first | (simp [plainName, overriddenIn]; done) | decide +kernel) | decide +kernel | exact Jvm.Free.JP.mathPlain rfl (by decide +kernel)
theorem own_law_ef (m : MethodId) (x0 : Int32) (x1 : Int32) (x2 : Int32) (x3 : Int32) : entryFrame m #[(.int x0), (.int x1), (.int x2), (.int x3)] maxLocals = mkF m 0 #[.val (.int x0), .val (.int x1), .val (.int x2), .val (.int x3), .unset, .unset, .unset, .unset, .unset, .unset, .unset, .unset, .unset, .unset] [] := by first | (simp [entryFrame, mkF, argsToLocals, Value.category, maxLocals]; done) | rfl
def own_law_Q (Z : State) (p0 : Int32) (p1 : Int32) (p2 : Int32) (p3 : Int32) (wH : Addr) (kH : ClassId) (hv : List Value) (zc : Int32) (vS : Value) (h0 : Heap) (n0 : Nat) (v : Option Value) (h : Heap) (L : List Loc) : Prop := v = some (.int 1) ∧ Fr n0 L ∧ True
set_option maxRecDepth 65536 in
set_option maxHeartbeats 40000000 in
theorem own_law (l : Launch) (Z : State) (a0 : Array Value) (hw : ∀ d ∈ tables_1, d.before a0 Z = true) (ws : List Jvm.Cond) (p0 : Int32) (p1 : Int32) (p2 : Int32) (p3 : Int32) (wH : Addr) (kH : ClassId) (hv : List Value) (zc : Int32) (vS : Value) (h0 : Heap) (n0 : Nat) (O : Old Z n0 h0) (S_H : Sta Z Z.heap "com/example/rows_to_regions/rowstoregions/KeyText" "HEX_DIGITS" "[C" (.ref wH)) (VO_wH : Arv Z Z.heap wH kH .char (16 : Int32) hv (.int 0)) (hhx : ∀ d : Int32, 0 ≤ d.toInt → d.toInt < 16 → hv.getD d.toNatClampNeg (.int 0) = .int (own_hx d)) (S_C : Sta Z Z.heap "java/lang/String" "COMPACT_STRINGS" "Z" (.int zc)) (hzc : ¬ zc = 0) (S_S : Sta Z Z.heap "jdk/internal/util/Preconditions" "SIOOBE_FORMATTER" "Ljava/util/function/BiFunction;" vS) (hvS : vS.isRef = true) :
    MetFree l x (head1 (Jvm.Cond.code x code maxLocals ret :: ws) room_1) (fun a U => a = #[(.int p0), (.int p1), (.int p2), (.int p3)] ∧ Z.Warmed39 U.vm ∧ U.heap = h0) (fun _ _ _ _ _ => True) (fun _ U o U' => ∃ v L, o = .returned v ∧ own_law_Q Z p0 p1 p2 p3 wH kH hv zc vS h0 n0 v U'.heap L ∧ FrameEnd U o U' L room_1.cells room_1.slots) := by
  refine MetFree.of_bodySF own_law_pn hisR ?_
  intro p e s m args below meth c s₁ Bd hml0 hP hK
  obtain ⟨rfl, hZ, hh⟩ := hP
  have hx := Bd.exec
  have hby := Bd.bytes
  have hlk := Bd.notSynchronized
  have hml : c.maxLocals = 14 := hml0
  have hown : s.vm.findClass "com/example/rows_to_regions/rowstoregions/KeyTextEscapePinLaw" = some m.cls := findClass_of_methodNamed Bd.named
  have hnm := (name_of_methodNamed Bd.named Bd.method).1
  have X : Stand p l e room_1 s m #[(.int p0), (.int p1), (.int p2), (.int p3)] below meth c s₁ [] 0 0 := Stand.of_body Bd
  have eT : s₁.heap = h0 := by rw [← hh, Bd.state]; rfl
  have N := Fr.nil n0
  have K0 := Keep.refl h0 []
  show own_Ends p e below (own_Post s below (own_law_Q Z p0 p1 p2 p3 wH kH hv zc vS h0 n0) room_1.cells room_1.slots) s₁ (entryFrame m #[(.int p0), (.int p1), (.int p2), (.int p3)] maxLocals)
  rw [own_law_ef m p0 p1 p2 p3]
  obtain ⟨T, hT⟩ : ∃ z, z = s₁ := ⟨_, rfl⟩
  rw [← hT] at X eT ⊢
  obtain ⟨h, hh0⟩ : ∃ z, z = h0 := ⟨_, rfl⟩
  rw [← hh0] at eT
  replace O : Old Z n0 h := by rw [hh0]; exact O
  replace K0 : Keep h0 h [] := by rw [hh0]; exact K0
  refine own_via (g' := (mkF m 3 #[.val (.int p0), .val (.int p1), .val (.int p2), .val (.int p3), .unset, .unset, .unset, .unset, .unset, .unset, .unset, .unset, .unset, .unset] [(.int (p3 &&& (3 : Int32)))])) (fun t_ k_ => XS.iloadN X.here hx rfl (hb hby at_0) rfl (XS.iconst X.here hx rfl (hb hby at_1) (XS.iand X.here hx rfl (hb hby at_2) rfl k_))) ?_
  rcases own_and3 p3 with hL | hL | hL | hL
  · rw [hL]
    refine own_via (g' := (mkF m 20 (own_L7 p0 p1 p2 p3 0 (p0 &&& (255 : Int32)) (p1 &&& (255 : Int32))) [(.int p2)])) (fun t_ k_ => XS.istore X.here hx rfl (hb hby at_3) rfl (l' := #[.val (.int p0), .val (.int p1), .val (.int p2), .val (.int p3), .val (.int 0), .unset, .unset, .unset, .unset, .unset, .unset, .unset, .unset, .unset]) rfl (XS.iloadN X.here hx rfl (hb hby at_5) rfl (XS.sipush X.here hx rfl (hb hby at_6) (XS.iand X.here hx rfl (hb hby at_9) rfl (XS.istore X.here hx rfl (hb hby at_10) rfl (l' := #[.val (.int p0), .val (.int p1), .val (.int p2), .val (.int p3), .val (.int 0), .val (.int (p0 &&& (255 : Int32))), .unset, .unset, .unset, .unset, .unset, .unset, .unset, .unset]) rfl (XS.iloadN X.here hx rfl (hb hby at_12) rfl (XS.sipush X.here hx rfl (hb hby at_13) (XS.iand X.here hx rfl (hb hby at_16) rfl (XS.istore X.here hx rfl (hb hby at_17) rfl (l' := (own_L7 p0 p1 p2 p3 0 (p0 &&& (255 : Int32)) (p1 &&& (255 : Int32)))) rfl (XS.iloadN X.here hx rfl (hb hby at_19) rfl k_)))))))))) ?_
    refine own_via (g' := (mkF m 28 (own_L6 p0 p1 p2 p3 0 (p0 &&& (255 : Int32)) (p1 &&& (255 : Int32)) (p2 &&& (255 : Int32))) [(.int 0)])) (fun t_ k_ => XS.sipush X.here hx rfl (hb hby at_20) (XS.iand X.here hx rfl (hb hby at_23) rfl (XS.istore X.here hx rfl (hb hby at_24) rfl (l' := (own_L6 p0 p1 p2 p3 0 (p0 &&& (255 : Int32)) (p1 &&& (255 : Int32)) (p2 &&& (255 : Int32)))) rfl (XS.iload X.here hx rfl (hb hby at_26) rfl k_)))) ?_
    obtain ⟨b1, gb⟩ : ∃ z, z = h.size := ⟨_, rfl⟩
    obtain ⟨T, h2, kb1, X, eT, E, A_, E_b1, st⟩ := newPE X hx hZ (hw _ (own_w 0 rfl)) eT (g := (mkF m 28 (own_L6 p0 p1 p2 p3 0 (p0 &&& (255 : Int32)) (p1 &&& (255 : Int32)) (p2 &&& (255 : Int32))) [(.int 0)])) rfl (hb hby at_28) rfl (by decide) (cap := 0) (by decide) (by decide) (by decide) (by decide) (ad := "[B") (by decide)
    rw [← gb] at A_ E_b1 st
    have g_b1 : n0 ≤ b1 := Nat.le_trans (own_le O) (Nat.le_of_eq gb.symm)
    have sz_b1 : h0.size ≤ b1 := Nat.le_trans K0.1 (Nat.le_of_eq gb.symm)
    replace O := O.ext E
    replace K0 := K0.ext E
    have V_b1 : Arv Z h2 b1 kb1 .byte (0 : Int32) [] (.int 0) := (Arv.new A_ (by decide)).pad (pad_rep [] (.int 0) 0)
    refine own_via (g' := (mkF m 30 (own_L6 p0 p1 p2 p3 0 (p0 &&& (255 : Int32)) (p1 &&& (255 : Int32)) (p2 &&& (255 : Int32))) [(.ref b1)])) st ?_
    refine own_via (g' := (mkF m 72 (own_L5 p0 p1 p2 p3 0 (p0 &&& (255 : Int32)) (p1 &&& (255 : Int32)) (p2 &&& (255 : Int32)) b1) [(.ref b1)])) (fun t_ k_ => XS.astore X.here hx rfl (hb hby at_30) rfl rfl (l' := (own_L5 p0 p1 p2 p3 0 (p0 &&& (255 : Int32)) (p1 &&& (255 : Int32)) (p2 &&& (255 : Int32)) b1)) rfl (XS.iload X.here hx rfl (hb hby at_32) rfl (XS.ifYes X.here hx rfl (pc0 := 34) (pc' := 44) rfl (hb hby at_34) rfl ((if0 _ _).trans (flt (by decide : ¬ ((0 : Int32) < (0 : Int32)))).2.2.2) (by decide) (by decide) (XS.iload X.here hx rfl (hb hby at_44) rfl (XS.iconst X.here hx rfl (hb hby at_46) (XS.icmpYes X.here hx rfl (pc0 := 47) (pc' := 57) rfl (hb hby at_47) rfl (flt (by decide : ¬ ((1 : Int32) < (0 : Int32)))).2.2.2 (by decide) (by decide) (XS.iload X.here hx rfl (hb hby at_57) rfl (XS.iconst X.here hx rfl (hb hby at_59) (XS.icmpYes X.here hx rfl (pc0 := 60) (pc' := 70) rfl (hb hby at_60) rfl (flt (by decide : ¬ ((2 : Int32) < (0 : Int32)))).2.2.2 (by decide) (by decide) (XS.aload X.here hx rfl (hb hby at_70) rfl rfl k_)))))))))) ?_
    obtain ⟨_, _, ⟨T, Lq, kq, nq⟩, -, X, ⟨Lc, hQ, lq, yq, zq⟩, st⟩ := Jvm.LawKit.callS X hx (y := own_y29) hown (mvT hZ (hw _ (own_w 1 rfl))) (mvT hZ (hw _ (own_w 2 rfl))) (mvT hZ (hw _ (own_w 3 rfl))) (mvT hZ (hw _ (own_w 4 rfl))) (by decide) (backOf (W := 0) (own_esc0 l Z a0 hw [] b1 kb1 wH kH hv zc h2 n0 O E_b1 V_b1 S_H VO_wH hhx S_C hzc) hZ (hw _ (own_w 4 rfl)) (hw _ (own_w 3 rfl)) (by decide) (by decide)) (g := (mkF m 72 (own_L5 p0 p1 p2 p3 0 (p0 &&& (255 : Int32)) (p1 &&& (255 : Int32)) (p2 &&& (255 : Int32)) b1) [(.ref b1)])) rfl (by rw [hml]; rfl) (argsL := [(.ref b1)]) (rest := []) (lenOf own_pd21 rfl) rfl (by show 2 * 0 + _ ≤ _; exact Nat.le_of_eq rfl) (hb hby at_72) (fun _ _ => ⟨rfl, eT, (by decide : 1 + 4 ≤ _), (by decide : 0 + 29 ≤ _)⟩)
    dsimp only [Pt.U, Pt.locs, Pt.cells, Pt.slots] at X lq yq zq st hQ
    subst lq yq zq
    obtain ⟨rr, rb, kr, N_, cs, rfl, Nq, Kq, sz1, sz2, E_rr, F_value_rr, F_coder_rr, V_rb, hE⟩ := hQ
    replace N := Fr.app N Nq
    obtain ⟨h3, eT⟩ : ∃ z, T.heap = z := ⟨_, rfl⟩
    rw [eT] at Kq E_rr F_value_rr F_coder_rr V_rb
    have ne_b1_rr : b1 ≠ rr := Nat.ne_of_lt (Nat.lt_of_lt_of_le E_b1.lt sz1)
    have g_rr : n0 ≤ rr := Nat.le_trans (own_le O) sz1
    have sz_rr : h0.size ≤ rr := Nat.le_trans K0.1 sz1
    have ne_b1_rb : b1 ≠ rb := Nat.ne_of_lt (Nat.lt_of_lt_of_le E_b1.lt sz2)
    have g_rb : n0 ≤ rb := Nat.le_trans (own_le O) sz2
    have sz_rb : h0.size ≤ rb := Nat.le_trans K0.1 sz2
    replace E_b1 := E_b1.keep Kq
    replace V_b1 := V_b1.keep Kq nin0
    replace O := O.keep Kq all0
    replace K0 := K0.trans Kq all0
    refine own_via (g' := (mkF m 75 (own_L5 p0 p1 p2 p3 0 (p0 &&& (255 : Int32)) (p1 &&& (255 : Int32)) (p2 &&& (255 : Int32)) b1) [(.ref rr)])) st ?_
    have eN := hE.1
    refine own_via (g' := (mkF m 110 (own_L2 p0 p1 p2 p3 0 (p0 &&& (255 : Int32)) (p1 &&& (255 : Int32)) (p2 &&& (255 : Int32)) b1 rr 0 0) [])) (fun t_ k_ => XS.astore X.here hx rfl (hb hby at_75) rfl rfl (l' := (own_L4 p0 p1 p2 p3 0 (p0 &&& (255 : Int32)) (p1 &&& (255 : Int32)) (p2 &&& (255 : Int32)) b1 rr)) rfl (XS.iload X.here hx rfl (hb hby at_77) rfl (XS.ifYes X.here hx rfl (pc0 := 79) (pc' := 90) rfl (hb hby at_79) rfl ((if0 _ _).trans (flt (by decide : ¬ ((0 : Int32) < (0 : Int32)))).2.2.2) (by decide) (by decide) (XS.iconst X.here hx rfl (hb hby at_90) (XS.istore X.here hx rfl (hb hby at_91) rfl (l' := (own_L3 p0 p1 p2 p3 0 (p0 &&& (255 : Int32)) (p1 &&& (255 : Int32)) (p2 &&& (255 : Int32)) b1 rr 0)) rfl (XS.iload X.here hx rfl (hb hby at_93) rfl (XS.iconst X.here hx rfl (hb hby at_95) (XS.icmpYes X.here hx rfl (pc0 := 96) (pc' := 107) rfl (hb hby at_96) rfl (flt (by decide : ¬ ((1 : Int32) < (0 : Int32)))).2.2.2 (by decide) (by decide) (XS.iconst X.here hx rfl (hb hby at_107) (XS.istore X.here hx rfl (hb hby at_108) rfl (l' := (own_L2 p0 p1 p2 p3 0 (p0 &&& (255 : Int32)) (p1 &&& (255 : Int32)) (p2 &&& (255 : Int32)) b1 rr 0 0)) rfl k_)))))))))) ?_
    refine own_via (g' := (mkF m 129 (own_L1 p0 p1 p2 p3 0 (p0 &&& (255 : Int32)) (p1 &&& (255 : Int32)) (p2 &&& (255 : Int32)) b1 rr 0 0 0) [(.ref rr)])) (fun t_ k_ => XS.iload X.here hx rfl (hb hby at_110) rfl (XS.iconst X.here hx rfl (hb hby at_112) (XS.icmpYes X.here hx rfl (pc0 := 113) (pc' := 124) rfl (hb hby at_113) rfl (flt (by decide : ¬ ((2 : Int32) < (0 : Int32)))).2.2.2 (by decide) (by decide) (XS.iconst X.here hx rfl (hb hby at_124) (XS.istore X.here hx rfl (hb hby at_125) rfl (l' := (own_L1 p0 p1 p2 p3 0 (p0 &&& (255 : Int32)) (p1 &&& (255 : Int32)) (p2 &&& (255 : Int32)) b1 rr 0 0 0)) rfl (XS.aload X.here hx rfl (hb hby at_127) rfl rfl k_)))))) ?_
    obtain ⟨cq, kq, qa, qb, qc⟩ := isOf hZ eT E_rr
    obtain ⟨_, _, ⟨T, Lq, kq, nq⟩, -, X, ⟨Lc, hQ, lq, yq, zq⟩, st⟩ := X.virtualBack hx (y := own_y30) (z := own_y30) hown (mvT hZ (hw _ (own_w 132 rfl))) (mvT hZ (hw _ (own_w 133 rfl))) (notFace_of_selects (args := #[]) (mvT hZ (hw _ (own_w 135 rfl)))) (mvT hZ (hw _ (own_w 135 rfl))) (mvT hZ (hw _ (own_w 134 rfl))) (by decide) (backOf (W := 0) (own_strlen l Z a0 hw [] rr rb kr N_ cs zc h3 n0 O E_rr F_value_rr F_coder_rr V_rb S_C hzc) hZ (hw _ (own_w 136 rfl)) (hw _ (own_w 21 rfl)) (by decide) (by decide)) qa qc (g := (mkF m 129 (own_L1 p0 p1 p2 p3 0 (p0 &&& (255 : Int32)) (p1 &&& (255 : Int32)) (p2 &&& (255 : Int32)) b1 rr 0 0 0) [(.ref rr)])) rfl (by rw [hml]; rfl) (Steps.refl _) (argsL := []) (rest := []) (lenOf own_pd8 rfl) rfl (by show 2 * 0 + _ ≤ _; exact Nat.le_of_eq rfl) (hb hby at_129) (fun _ _ => ⟨rfl, eT, (by decide : 5 + 0 ≤ _), (by decide : 29 + 0 ≤ _)⟩)
    dsimp only [Pt.U, Pt.locs, Pt.cells, Pt.slots] at X lq yq zq st hQ
    subst lq yq zq
    obtain ⟨rfl, Nq, eT⟩ := hQ
    replace N := Fr.app N Nq
    refine own_viaT (g' := (mkF m 132 (own_L1 p0 p1 p2 p3 0 (p0 &&& (255 : Int32)) (p1 &&& (255 : Int32)) (p2 &&& (255 : Int32)) b1 rr 0 0 0) [(.int N_)])) st ?_
    refine own_via (g' := (mkF m 137 (own_L1 p0 p1 p2 p3 0 (p0 &&& (255 : Int32)) (p1 &&& (255 : Int32)) (p2 &&& (255 : Int32)) b1 rr 0 0 0) [(.int ((0 : Int32) + (0 : Int32))), (.int N_)])) (fun t_ k_ => XS.iload X.here hx rfl (hb hby at_132) rfl (XS.iload X.here hx rfl (hb hby at_134) rfl (XS.iadd X.here hx rfl (hb hby at_136) rfl k_))) ?_
    rw [(by decide : ((0 : Int32) + (0 : Int32)) = (0 : Int32))]
    refine own_via (g' := (mkF m 140 (own_L1 p0 p1 p2 p3 0 (p0 &&& (255 : Int32)) (p1 &&& (255 : Int32)) (p2 &&& (255 : Int32)) b1 rr 0 0 0) [(.int ((0 : Int32) + (0 : Int32))), (.int N_)])) (fun t_ k_ => XS.iload X.here hx rfl (hb hby at_137) rfl (XS.iadd X.here hx rfl (hb hby at_139) rfl k_)) ?_
    rw [(by decide : ((0 : Int32) + (0 : Int32)) = (0 : Int32))]
    refine own_via (g' := (mkF m 209 (own_L0 p0 p1 p2 p3 0 (p0 &&& (255 : Int32)) (p1 &&& (255 : Int32)) (p2 &&& (255 : Int32)) b1 rr 0 0 0 1) [(.int 2), (.int 0)])) (fun t_ k_ => XS.icmpYes X.here hx rfl (pc0 := 140) (pc' := 145) rfl (hb hby at_140) rfl (teq eN).1 (by decide) (by decide) (XS.iconst X.here hx rfl (hb hby at_145) (XS.istore X.here hx rfl (hb hby at_146) rfl (l' := (own_L0 p0 p1 p2 p3 0 (p0 &&& (255 : Int32)) (p1 &&& (255 : Int32)) (p2 &&& (255 : Int32)) b1 rr 0 0 0 1)) rfl (XS.iload X.here hx rfl (hb hby at_148) rfl (XS.ifYes X.here hx rfl (pc0 := 150) (pc' := 176) rfl (hb hby at_150) rfl ((if0 _ _).trans (flt (by decide : ¬ ((0 : Int32) < (0 : Int32)))).2.2.2) (by decide) (by decide) (XS.iload X.here hx rfl (hb hby at_176) rfl (XS.iconst X.here hx rfl (hb hby at_178) (XS.icmpYes X.here hx rfl (pc0 := 179) (pc' := 206) rfl (hb hby at_179) rfl (flt (by decide : ¬ ((1 : Int32) < (0 : Int32)))).2.2.2 (by decide) (by decide) (XS.iload X.here hx rfl (hb hby at_206) rfl (XS.iconst X.here hx rfl (hb hby at_208) k_)))))))))) ?_
    refine own_via (g' := (mkF m 241 (own_L0 p0 p1 p2 p3 0 (p0 &&& (255 : Int32)) (p1 &&& (255 : Int32)) (p2 &&& (255 : Int32)) b1 rr 0 0 0 1) [(.int 1)])) (fun t_ k_ => XS.icmpYes X.here hx rfl (pc0 := 209) (pc' := 239) rfl (hb hby at_209) rfl (flt (by decide : ¬ ((2 : Int32) < (0 : Int32)))).2.2.2 (by decide) (by decide) (XS.iload X.here hx rfl (hb hby at_239) rfl k_)) ?_
    refine own_retN X hx hlk (t := .boolean) Bd.returns (by simp) (hb hby at_241) (by decide) (by decide) ?_
    rw [eT]
    exact ⟨rfl, N, trivial⟩
  · rw [hL]
    refine own_via (g' := (mkF m 20 (own_L7 p0 p1 p2 p3 1 (p0 &&& (255 : Int32)) (p1 &&& (255 : Int32))) [(.int p2)])) (fun t_ k_ => XS.istore X.here hx rfl (hb hby at_3) rfl (l' := #[.val (.int p0), .val (.int p1), .val (.int p2), .val (.int p3), .val (.int 1), .unset, .unset, .unset, .unset, .unset, .unset, .unset, .unset, .unset]) rfl (XS.iloadN X.here hx rfl (hb hby at_5) rfl (XS.sipush X.here hx rfl (hb hby at_6) (XS.iand X.here hx rfl (hb hby at_9) rfl (XS.istore X.here hx rfl (hb hby at_10) rfl (l' := #[.val (.int p0), .val (.int p1), .val (.int p2), .val (.int p3), .val (.int 1), .val (.int (p0 &&& (255 : Int32))), .unset, .unset, .unset, .unset, .unset, .unset, .unset, .unset]) rfl (XS.iloadN X.here hx rfl (hb hby at_12) rfl (XS.sipush X.here hx rfl (hb hby at_13) (XS.iand X.here hx rfl (hb hby at_16) rfl (XS.istore X.here hx rfl (hb hby at_17) rfl (l' := (own_L7 p0 p1 p2 p3 1 (p0 &&& (255 : Int32)) (p1 &&& (255 : Int32)))) rfl (XS.iloadN X.here hx rfl (hb hby at_19) rfl k_)))))))))) ?_
    refine own_via (g' := (mkF m 28 (own_L6 p0 p1 p2 p3 1 (p0 &&& (255 : Int32)) (p1 &&& (255 : Int32)) (p2 &&& (255 : Int32))) [(.int 1)])) (fun t_ k_ => XS.sipush X.here hx rfl (hb hby at_20) (XS.iand X.here hx rfl (hb hby at_23) rfl (XS.istore X.here hx rfl (hb hby at_24) rfl (l' := (own_L6 p0 p1 p2 p3 1 (p0 &&& (255 : Int32)) (p1 &&& (255 : Int32)) (p2 &&& (255 : Int32)))) rfl (XS.iload X.here hx rfl (hb hby at_26) rfl k_)))) ?_
    obtain ⟨b4, gb⟩ : ∃ z, z = h.size := ⟨_, rfl⟩
    obtain ⟨T, h5, kb4, X, eT, E, A_, E_b4, st⟩ := newPE X hx hZ (hw _ (own_w 0 rfl)) eT (g := (mkF m 28 (own_L6 p0 p1 p2 p3 1 (p0 &&& (255 : Int32)) (p1 &&& (255 : Int32)) (p2 &&& (255 : Int32))) [(.int 1)])) rfl (hb hby at_28) rfl (by decide) (cap := 1) (by decide) (by decide) (by decide) (by decide) (ad := "[B") (by decide)
    rw [← gb] at A_ E_b4 st
    have g_b4 : n0 ≤ b4 := Nat.le_trans (own_le O) (Nat.le_of_eq gb.symm)
    have sz_b4 : h0.size ≤ b4 := Nat.le_trans K0.1 (Nat.le_of_eq gb.symm)
    replace O := O.ext E
    replace K0 := K0.ext E
    have V_b4 : Arv Z h5 b4 kb4 .byte (1 : Int32) [(.int 0)] (.int 0) := (Arv.new A_ (by decide)).pad (pad_rep [] (.int 0) 1)
    refine own_via (g' := (mkF m 30 (own_L6 p0 p1 p2 p3 1 (p0 &&& (255 : Int32)) (p1 &&& (255 : Int32)) (p2 &&& (255 : Int32))) [(.ref b4)])) st ?_
    refine own_via (g' := (mkF m 43 (own_L5 p0 p1 p2 p3 1 (p0 &&& (255 : Int32)) (p1 &&& (255 : Int32)) (p2 &&& (255 : Int32)) b4) [(.int ((p0 &&& (255 : Int32)).toInt8.toInt32)), (.int 0), (.ref b4)])) (fun t_ k_ => XS.astore X.here hx rfl (hb hby at_30) rfl rfl (l' := (own_L5 p0 p1 p2 p3 1 (p0 &&& (255 : Int32)) (p1 &&& (255 : Int32)) (p2 &&& (255 : Int32)) b4)) rfl (XS.iload X.here hx rfl (hb hby at_32) rfl (XS.ifNo X.here hx rfl (hb hby at_34) rfl ((if0 _ _).trans (tlt (by decide : (0 : Int32) < (1 : Int32))).2.2.2) (XS.aload X.here hx rfl (hb hby at_37) rfl rfl (XS.iconst X.here hx rfl (hb hby at_39) (XS.iload X.here hx rfl (hb hby at_40) rfl (XS.i2b X.here hx rfl (hb hby at_42) rfl k_))))))) ?_
    obtain ⟨cl_, Ar_, qk_, Sz_, Nn_, Hs_, Gs_⟩ := id V_b4
    have hin_ : ¬ ((0 : Int32) < 0 ∨ cl_.slots.size ≤ ((0 : Int32)).toNatClampNeg) := inb_of Sz_ ⟨by decide, by decide⟩
    obtain ⟨T, h6, X, eT, W, st⟩ := stB X hx hZ eT Ar_ (j := (0 : Int32)) hin_ (g := (mkF m 43 (own_L5 p0 p1 p2 p3 1 (p0 &&& (255 : Int32)) (p1 &&& (255 : Int32)) (p2 &&& (255 : Int32)) b4) [(.int ((p0 &&& (255 : Int32)).toInt8.toInt32)), (.int 0), (.ref b4)])) rfl rfl (hb hby at_43)
    replace V_b4 : Arv Z h6 b4 kb4 .byte (1 : Int32) [(.int ((((p0 &&& (255 : Int32)).toInt8.toInt32)).toInt8.toInt32))] (.int 0) := Arv.set Ar_ qk_ Sz_ Nn_ Hs_ Gs_ (fits_nar_byte _) W 0 (by decide) (Nat.le_of_ble_eq_true rfl)
    replace E_b4 := E_b4.wr W
    replace O := O.wr W g_b4
    replace K0 := K0.wr W (Or.inr sz_b4)
    replace N := Fr.snoc X N g_b4
    refine own_via (g' := (mkF m 44 (own_L5 p0 p1 p2 p3 1 (p0 &&& (255 : Int32)) (p1 &&& (255 : Int32)) (p2 &&& (255 : Int32)) b4) [])) st ?_
    refine own_via (g' := (mkF m 72 (own_L5 p0 p1 p2 p3 1 (p0 &&& (255 : Int32)) (p1 &&& (255 : Int32)) (p2 &&& (255 : Int32)) b4) [(.ref b4)])) (fun t_ k_ => XS.iload X.here hx rfl (hb hby at_44) rfl (XS.iconst X.here hx rfl (hb hby at_46) (XS.icmpYes X.here hx rfl (pc0 := 47) (pc' := 57) rfl (hb hby at_47) rfl (flt (by decide : ¬ ((1 : Int32) < (1 : Int32)))).2.2.2 (by decide) (by decide) (XS.iload X.here hx rfl (hb hby at_57) rfl (XS.iconst X.here hx rfl (hb hby at_59) (XS.icmpYes X.here hx rfl (pc0 := 60) (pc' := 70) rfl (hb hby at_60) rfl (flt (by decide : ¬ ((2 : Int32) < (1 : Int32)))).2.2.2 (by decide) (by decide) (XS.aload X.here hx rfl (hb hby at_70) rfl rfl k_))))))) ?_
    obtain ⟨_, _, ⟨T, Lq, kq, nq⟩, -, X, ⟨Lc, hQ, lq, yq, zq⟩, st⟩ := Jvm.LawKit.callS X hx (y := own_y29) hown (mvT hZ (hw _ (own_w 1 rfl))) (mvT hZ (hw _ (own_w 2 rfl))) (mvT hZ (hw _ (own_w 3 rfl))) (mvT hZ (hw _ (own_w 4 rfl))) (by decide) (backOf (W := 0) (own_esc1 l Z a0 hw [] b4 kb4 ((((p0 &&& (255 : Int32)).toInt8.toInt32)).toInt8.toInt32) (p0 &&& (255 : Int32)) wH kH hv zc h6 n0 O E_b4 V_b4 (own_st255 (own_v255 p0).1 (own_v255 p0).2) (own_v255 p0) S_H VO_wH hhx S_C hzc) hZ (hw _ (own_w 4 rfl)) (hw _ (own_w 3 rfl)) (by decide) (by decide)) (g := (mkF m 72 (own_L5 p0 p1 p2 p3 1 (p0 &&& (255 : Int32)) (p1 &&& (255 : Int32)) (p2 &&& (255 : Int32)) b4) [(.ref b4)])) rfl (by rw [hml]; rfl) (argsL := [(.ref b4)]) (rest := []) (lenOf own_pd21 rfl) rfl (by show 2 * 0 + _ ≤ _; exact Nat.le_of_eq rfl) (hb hby at_72) (fun _ _ => ⟨rfl, eT, (by decide : 1 + 5 ≤ _), (by decide : 1 + 47 ≤ _)⟩)
    dsimp only [Pt.U, Pt.locs, Pt.cells, Pt.slots] at X lq yq zq st hQ
    subst lq yq zq
    obtain ⟨rr, rb, kr, N_, cs, rfl, Nq, Kq, sz1, sz2, E_rr, F_value_rr, F_coder_rr, V_rb, hE⟩ := hQ
    replace N := Fr.app N Nq
    obtain ⟨h7, eT⟩ : ∃ z, T.heap = z := ⟨_, rfl⟩
    rw [eT] at Kq E_rr F_value_rr F_coder_rr V_rb
    have ne_b4_rr : b4 ≠ rr := Nat.ne_of_lt (Nat.lt_of_lt_of_le E_b4.lt sz1)
    have g_rr : n0 ≤ rr := Nat.le_trans (own_le O) sz1
    have sz_rr : h0.size ≤ rr := Nat.le_trans K0.1 sz1
    have ne_b4_rb : b4 ≠ rb := Nat.ne_of_lt (Nat.lt_of_lt_of_le E_b4.lt sz2)
    have g_rb : n0 ≤ rb := Nat.le_trans (own_le O) sz2
    have sz_rb : h0.size ≤ rb := Nat.le_trans K0.1 sz2
    replace E_b4 := E_b4.keep Kq
    replace V_b4 := V_b4.keep Kq nin0
    replace O := O.keep Kq all0
    replace K0 := K0.trans Kq all0
    refine own_via (g' := (mkF m 75 (own_L5 p0 p1 p2 p3 1 (p0 &&& (255 : Int32)) (p1 &&& (255 : Int32)) (p2 &&& (255 : Int32)) b4) [(.ref rr)])) st ?_
    obtain ⟨w0, eN, hW0, hM0⟩ := own_dec1 (own_v255 p0) hE
    refine own_via (g' := (mkF m 84 (own_L4 p0 p1 p2 p3 1 (p0 &&& (255 : Int32)) (p1 &&& (255 : Int32)) (p2 &&& (255 : Int32)) b4 rr) [(.int (p0 &&& (255 : Int32)))])) (fun t_ k_ => XS.astore X.here hx rfl (hb hby at_75) rfl rfl (l' := (own_L4 p0 p1 p2 p3 1 (p0 &&& (255 : Int32)) (p1 &&& (255 : Int32)) (p2 &&& (255 : Int32)) b4 rr)) rfl (XS.iload X.here hx rfl (hb hby at_77) rfl (XS.ifNo X.here hx rfl (hb hby at_79) rfl ((if0 _ _).trans (tlt (by decide : (0 : Int32) < (1 : Int32))).2.2.2) (XS.iload X.here hx rfl (hb hby at_82) rfl k_)))) ?_
    obtain ⟨_, _, ⟨T, Lq, kq, nq⟩, -, X, ⟨Lc, hQ, lq, yq, zq⟩, st⟩ := Jvm.LawKit.callS X hx (y := own_y31) hown (mvT hZ (hw _ (own_w 125 rfl))) (mvT hZ (hw _ (own_w 126 rfl))) (mvT hZ (hw _ (own_w 127 rfl))) (mvT hZ (hw _ (own_w 128 rfl))) (by decide) (backOf (W := 0) (own_wdG l Z a0 hw [] (p0 &&& (255 : Int32)) w0 h7 n0 O hW0) hZ (hw _ (own_w 128 rfl)) (hw _ (own_w 127 rfl)) (by decide) (by decide)) (g := (mkF m 84 (own_L4 p0 p1 p2 p3 1 (p0 &&& (255 : Int32)) (p1 &&& (255 : Int32)) (p2 &&& (255 : Int32)) b4 rr) [(.int (p0 &&& (255 : Int32)))])) rfl (by rw [hml]; rfl) (argsL := [(.int (p0 &&& (255 : Int32)))]) (rest := []) (lenOf own_pd2 rfl) rfl (by show 2 * 0 + _ ≤ _; exact Nat.le_of_eq rfl) (hb hby at_84) (fun _ _ => ⟨rfl, eT, (by decide : 6 + 0 ≤ _), (by decide : 48 + 0 ≤ _)⟩)
    dsimp only [Pt.U, Pt.locs, Pt.cells, Pt.slots] at X lq yq zq st hQ
    subst lq yq zq
    obtain ⟨rfl, Nq, eT⟩ := hQ
    replace N := Fr.app N Nq
    refine own_via (g' := (mkF m 87 (own_L4 p0 p1 p2 p3 1 (p0 &&& (255 : Int32)) (p1 &&& (255 : Int32)) (p2 &&& (255 : Int32)) b4 rr) [(.int w0)])) st ?_
    refine own_via (g' := (mkF m 124 (own_L2 p0 p1 p2 p3 1 (p0 &&& (255 : Int32)) (p1 &&& (255 : Int32)) (p2 &&& (255 : Int32)) b4 rr w0 0) [])) (fun t_ k_ => XS.goto X.here hx rfl (pc0 := 87) (pc' := 91) rfl (hb hby at_87) (by decide) (by decide) (XS.istore X.here hx rfl (hb hby at_91) rfl (l' := (own_L3 p0 p1 p2 p3 1 (p0 &&& (255 : Int32)) (p1 &&& (255 : Int32)) (p2 &&& (255 : Int32)) b4 rr w0)) rfl (XS.iload X.here hx rfl (hb hby at_93) rfl (XS.iconst X.here hx rfl (hb hby at_95) (XS.icmpYes X.here hx rfl (pc0 := 96) (pc' := 107) rfl (hb hby at_96) rfl (flt (by decide : ¬ ((1 : Int32) < (1 : Int32)))).2.2.2 (by decide) (by decide) (XS.iconst X.here hx rfl (hb hby at_107) (XS.istore X.here hx rfl (hb hby at_108) rfl (l' := (own_L2 p0 p1 p2 p3 1 (p0 &&& (255 : Int32)) (p1 &&& (255 : Int32)) (p2 &&& (255 : Int32)) b4 rr w0 0)) rfl (XS.iload X.here hx rfl (hb hby at_110) rfl (XS.iconst X.here hx rfl (hb hby at_112) (XS.icmpYes X.here hx rfl (pc0 := 113) (pc' := 124) rfl (hb hby at_113) rfl (flt (by decide : ¬ ((2 : Int32) < (1 : Int32)))).2.2.2 (by decide) (by decide) k_)))))))))) ?_
    refine own_via (g' := (mkF m 129 (own_L1 p0 p1 p2 p3 1 (p0 &&& (255 : Int32)) (p1 &&& (255 : Int32)) (p2 &&& (255 : Int32)) b4 rr w0 0 0) [(.ref rr)])) (fun t_ k_ => XS.iconst X.here hx rfl (hb hby at_124) (XS.istore X.here hx rfl (hb hby at_125) rfl (l' := (own_L1 p0 p1 p2 p3 1 (p0 &&& (255 : Int32)) (p1 &&& (255 : Int32)) (p2 &&& (255 : Int32)) b4 rr w0 0 0)) rfl (XS.aload X.here hx rfl (hb hby at_127) rfl rfl k_))) ?_
    obtain ⟨cq, kq, qa, qb, qc⟩ := isOf hZ eT E_rr
    obtain ⟨_, _, ⟨T, Lq, kq, nq⟩, -, X, ⟨Lc, hQ, lq, yq, zq⟩, st⟩ := X.virtualBack hx (y := own_y30) (z := own_y30) hown (mvT hZ (hw _ (own_w 132 rfl))) (mvT hZ (hw _ (own_w 133 rfl))) (notFace_of_selects (args := #[]) (mvT hZ (hw _ (own_w 135 rfl)))) (mvT hZ (hw _ (own_w 135 rfl))) (mvT hZ (hw _ (own_w 134 rfl))) (by decide) (backOf (W := 0) (own_strlen l Z a0 hw [] rr rb kr N_ cs zc h7 n0 O E_rr F_value_rr F_coder_rr V_rb S_C hzc) hZ (hw _ (own_w 136 rfl)) (hw _ (own_w 21 rfl)) (by decide) (by decide)) qa qc (g := (mkF m 129 (own_L1 p0 p1 p2 p3 1 (p0 &&& (255 : Int32)) (p1 &&& (255 : Int32)) (p2 &&& (255 : Int32)) b4 rr w0 0 0) [(.ref rr)])) rfl (by rw [hml]; rfl) (Steps.refl _) (argsL := []) (rest := []) (lenOf own_pd8 rfl) rfl (by show 2 * 0 + _ ≤ _; exact Nat.le_of_eq rfl) (hb hby at_129) (fun _ _ => ⟨rfl, eT, (by decide : 6 + 0 ≤ _), (by decide : 48 + 0 ≤ _)⟩)
    dsimp only [Pt.U, Pt.locs, Pt.cells, Pt.slots] at X lq yq zq st hQ
    subst lq yq zq
    obtain ⟨rfl, Nq, eT⟩ := hQ
    replace N := Fr.app N Nq
    refine own_viaT (g' := (mkF m 132 (own_L1 p0 p1 p2 p3 1 (p0 &&& (255 : Int32)) (p1 &&& (255 : Int32)) (p2 &&& (255 : Int32)) b4 rr w0 0 0) [(.int N_)])) st ?_
    refine own_via (g' := (mkF m 153 (own_L0 p0 p1 p2 p3 1 (p0 &&& (255 : Int32)) (p1 &&& (255 : Int32)) (p2 &&& (255 : Int32)) b4 rr w0 0 0 1) [])) (fun t_ k_ => XS.iload X.here hx rfl (hb hby at_132) rfl (XS.iload X.here hx rfl (hb hby at_134) rfl (XS.iadd X.here hx rfl (hb hby at_136) rfl (XS.iload X.here hx rfl (hb hby at_137) rfl (XS.iadd X.here hx rfl (hb hby at_139) rfl (XS.icmpYes X.here hx rfl (pc0 := 140) (pc' := 145) rfl (hb hby at_140) rfl (teq eN).1 (by decide) (by decide) (XS.iconst X.here hx rfl (hb hby at_145) (XS.istore X.here hx rfl (hb hby at_146) rfl (l' := (own_L0 p0 p1 p2 p3 1 (p0 &&& (255 : Int32)) (p1 &&& (255 : Int32)) (p2 &&& (255 : Int32)) b4 rr w0 0 0 1)) rfl (XS.iload X.here hx rfl (hb hby at_148) rfl (XS.ifNo X.here hx rfl (hb hby at_150) rfl ((if0 _ _).trans (tlt (by decide : (0 : Int32) < (1 : Int32))).2.2.2) k_)))))))))) ?_
    refine own_via (g' := (mkF m 163 (own_L0 p0 p1 p2 p3 1 (p0 &&& (255 : Int32)) (p1 &&& (255 : Int32)) (p2 &&& (255 : Int32)) b4 rr w0 0 0 1) [(.int (p0 &&& (255 : Int32))), (.int 0), (.ref rr)])) (fun t_ k_ => XS.iload X.here hx rfl (hb hby at_153) rfl (XS.ifNo X.here hx rfl (hb hby at_155) rfl ((if0 _ _).trans (feq (by decide : ¬ ((1 : Int32) = (0 : Int32)))).1) (XS.aload X.here hx rfl (hb hby at_158) rfl rfl (XS.iconst X.here hx rfl (hb hby at_160) (XS.iload X.here hx rfl (hb hby at_161) rfl k_))))) ?_
    obtain ⟨_, _, ⟨T, Lq, kq, nq⟩, -, X, ⟨Lc, hQ, lq, yq, zq⟩, st⟩ := Jvm.LawKit.callS X hx (y := own_y32) hown (mvT hZ (hw _ (own_w 143 rfl))) (mvT hZ (hw _ (own_w 144 rfl))) (mvT hZ (hw _ (own_w 127 rfl))) (mvT hZ (hw _ (own_w 145 rfl))) (by decide) (backOf (W := 0) (own_mG l Z a0 hw [] rr rb kr N_ cs (0 : Int32) (p0 &&& (255 : Int32)) zc vS h7 n0 O E_rr F_value_rr F_coder_rr V_rb (own_v255 p0) S_C hzc S_S hvS hM0) hZ (hw _ (own_w 145 rfl)) (hw _ (own_w 127 rfl)) (by decide) (by decide)) (g := (mkF m 163 (own_L0 p0 p1 p2 p3 1 (p0 &&& (255 : Int32)) (p1 &&& (255 : Int32)) (p2 &&& (255 : Int32)) b4 rr w0 0 0 1) [(.int (p0 &&& (255 : Int32))), (.int 0), (.ref rr)])) rfl (by rw [hml]; rfl) (argsL := [(.ref rr), (.int 0), (.int (p0 &&& (255 : Int32)))]) (rest := []) (lenOf own_pd22 rfl) rfl (by show 2 * 0 + _ ≤ _; exact Nat.le_of_eq rfl) (hb hby at_163) (fun _ _ => ⟨rfl, eT, (by decide : 6 + 0 ≤ _), (by decide : 48 + 0 ≤ _)⟩)
    dsimp only [Pt.U, Pt.locs, Pt.cells, Pt.slots] at X lq yq zq st hQ
    subst lq yq zq
    obtain ⟨rfl, Nq, eT⟩ := hQ
    replace N := Fr.app N Nq
    refine own_via (g' := (mkF m 166 (own_L0 p0 p1 p2 p3 1 (p0 &&& (255 : Int32)) (p1 &&& (255 : Int32)) (p2 &&& (255 : Int32)) b4 rr w0 0 0 1) [(.int 1)])) st ?_
    refine own_via (g' := (mkF m 239 (own_L0 p0 p1 p2 p3 1 (p0 &&& (255 : Int32)) (p1 &&& (255 : Int32)) (p2 &&& (255 : Int32)) b4 rr w0 0 0 1) [])) (fun t_ k_ => XS.ifNo X.here hx rfl (hb hby at_166) rfl ((if0 _ _).trans (feq (by decide : ¬ ((1 : Int32) = (0 : Int32)))).1) (XS.iconst X.here hx rfl (hb hby at_169) (XS.goto X.here hx rfl (pc0 := 170) (pc' := 174) rfl (hb hby at_170) (by decide) (by decide) (XS.istore X.here hx rfl (hb hby at_174) rfl (l' := (own_L0 p0 p1 p2 p3 1 (p0 &&& (255 : Int32)) (p1 &&& (255 : Int32)) (p2 &&& (255 : Int32)) b4 rr w0 0 0 1)) rfl (XS.iload X.here hx rfl (hb hby at_176) rfl (XS.iconst X.here hx rfl (hb hby at_178) (XS.icmpYes X.here hx rfl (pc0 := 179) (pc' := 206) rfl (hb hby at_179) rfl (flt (by decide : ¬ ((1 : Int32) < (1 : Int32)))).2.2.2 (by decide) (by decide) (XS.iload X.here hx rfl (hb hby at_206) rfl (XS.iconst X.here hx rfl (hb hby at_208) (XS.icmpYes X.here hx rfl (pc0 := 209) (pc' := 239) rfl (hb hby at_209) rfl (flt (by decide : ¬ ((2 : Int32) < (1 : Int32)))).2.2.2 (by decide) (by decide) k_)))))))))) ?_
    refine own_via (g' := (mkF m 241 (own_L0 p0 p1 p2 p3 1 (p0 &&& (255 : Int32)) (p1 &&& (255 : Int32)) (p2 &&& (255 : Int32)) b4 rr w0 0 0 1) [(.int 1)])) (fun t_ k_ => XS.iload X.here hx rfl (hb hby at_239) rfl k_) ?_
    refine own_retN X hx hlk (t := .boolean) Bd.returns (by simp) (hb hby at_241) (by decide) (by decide) ?_
    rw [eT]
    exact ⟨rfl, N, trivial⟩
  · rw [hL]
    refine own_via (g' := (mkF m 20 (own_L7 p0 p1 p2 p3 2 (p0 &&& (255 : Int32)) (p1 &&& (255 : Int32))) [(.int p2)])) (fun t_ k_ => XS.istore X.here hx rfl (hb hby at_3) rfl (l' := #[.val (.int p0), .val (.int p1), .val (.int p2), .val (.int p3), .val (.int 2), .unset, .unset, .unset, .unset, .unset, .unset, .unset, .unset, .unset]) rfl (XS.iloadN X.here hx rfl (hb hby at_5) rfl (XS.sipush X.here hx rfl (hb hby at_6) (XS.iand X.here hx rfl (hb hby at_9) rfl (XS.istore X.here hx rfl (hb hby at_10) rfl (l' := #[.val (.int p0), .val (.int p1), .val (.int p2), .val (.int p3), .val (.int 2), .val (.int (p0 &&& (255 : Int32))), .unset, .unset, .unset, .unset, .unset, .unset, .unset, .unset]) rfl (XS.iloadN X.here hx rfl (hb hby at_12) rfl (XS.sipush X.here hx rfl (hb hby at_13) (XS.iand X.here hx rfl (hb hby at_16) rfl (XS.istore X.here hx rfl (hb hby at_17) rfl (l' := (own_L7 p0 p1 p2 p3 2 (p0 &&& (255 : Int32)) (p1 &&& (255 : Int32)))) rfl (XS.iloadN X.here hx rfl (hb hby at_19) rfl k_)))))))))) ?_
    refine own_via (g' := (mkF m 28 (own_L6 p0 p1 p2 p3 2 (p0 &&& (255 : Int32)) (p1 &&& (255 : Int32)) (p2 &&& (255 : Int32))) [(.int 2)])) (fun t_ k_ => XS.sipush X.here hx rfl (hb hby at_20) (XS.iand X.here hx rfl (hb hby at_23) rfl (XS.istore X.here hx rfl (hb hby at_24) rfl (l' := (own_L6 p0 p1 p2 p3 2 (p0 &&& (255 : Int32)) (p1 &&& (255 : Int32)) (p2 &&& (255 : Int32)))) rfl (XS.iload X.here hx rfl (hb hby at_26) rfl k_)))) ?_
    obtain ⟨b8, gb⟩ : ∃ z, z = h.size := ⟨_, rfl⟩
    obtain ⟨T, h9, kb8, X, eT, E, A_, E_b8, st⟩ := newPE X hx hZ (hw _ (own_w 0 rfl)) eT (g := (mkF m 28 (own_L6 p0 p1 p2 p3 2 (p0 &&& (255 : Int32)) (p1 &&& (255 : Int32)) (p2 &&& (255 : Int32))) [(.int 2)])) rfl (hb hby at_28) rfl (by decide) (cap := 2) (by decide) (by decide) (by decide) (by decide) (ad := "[B") (by decide)
    rw [← gb] at A_ E_b8 st
    have g_b8 : n0 ≤ b8 := Nat.le_trans (own_le O) (Nat.le_of_eq gb.symm)
    have sz_b8 : h0.size ≤ b8 := Nat.le_trans K0.1 (Nat.le_of_eq gb.symm)
    replace O := O.ext E
    replace K0 := K0.ext E
    have V_b8 : Arv Z h9 b8 kb8 .byte (2 : Int32) [(.int 0), (.int 0)] (.int 0) := (Arv.new A_ (by decide)).pad (pad_rep [] (.int 0) 2)
    refine own_via (g' := (mkF m 30 (own_L6 p0 p1 p2 p3 2 (p0 &&& (255 : Int32)) (p1 &&& (255 : Int32)) (p2 &&& (255 : Int32))) [(.ref b8)])) st ?_
    refine own_via (g' := (mkF m 43 (own_L5 p0 p1 p2 p3 2 (p0 &&& (255 : Int32)) (p1 &&& (255 : Int32)) (p2 &&& (255 : Int32)) b8) [(.int ((p0 &&& (255 : Int32)).toInt8.toInt32)), (.int 0), (.ref b8)])) (fun t_ k_ => XS.astore X.here hx rfl (hb hby at_30) rfl rfl (l' := (own_L5 p0 p1 p2 p3 2 (p0 &&& (255 : Int32)) (p1 &&& (255 : Int32)) (p2 &&& (255 : Int32)) b8)) rfl (XS.iload X.here hx rfl (hb hby at_32) rfl (XS.ifNo X.here hx rfl (hb hby at_34) rfl ((if0 _ _).trans (tlt (by decide : (0 : Int32) < (2 : Int32))).2.2.2) (XS.aload X.here hx rfl (hb hby at_37) rfl rfl (XS.iconst X.here hx rfl (hb hby at_39) (XS.iload X.here hx rfl (hb hby at_40) rfl (XS.i2b X.here hx rfl (hb hby at_42) rfl k_))))))) ?_
    obtain ⟨cl_, Ar_, qk_, Sz_, Nn_, Hs_, Gs_⟩ := id V_b8
    have hin_ : ¬ ((0 : Int32) < 0 ∨ cl_.slots.size ≤ ((0 : Int32)).toNatClampNeg) := inb_of Sz_ ⟨by decide, by decide⟩
    obtain ⟨T, h10, X, eT, W, st⟩ := stB X hx hZ eT Ar_ (j := (0 : Int32)) hin_ (g := (mkF m 43 (own_L5 p0 p1 p2 p3 2 (p0 &&& (255 : Int32)) (p1 &&& (255 : Int32)) (p2 &&& (255 : Int32)) b8) [(.int ((p0 &&& (255 : Int32)).toInt8.toInt32)), (.int 0), (.ref b8)])) rfl rfl (hb hby at_43)
    replace V_b8 : Arv Z h10 b8 kb8 .byte (2 : Int32) [(.int ((((p0 &&& (255 : Int32)).toInt8.toInt32)).toInt8.toInt32)), (.int 0)] (.int 0) := Arv.set Ar_ qk_ Sz_ Nn_ Hs_ Gs_ (fits_nar_byte _) W 0 (by decide) (Nat.le_of_ble_eq_true rfl)
    replace E_b8 := E_b8.wr W
    replace O := O.wr W g_b8
    replace K0 := K0.wr W (Or.inr sz_b8)
    replace N := Fr.snoc X N g_b8
    refine own_via (g' := (mkF m 44 (own_L5 p0 p1 p2 p3 2 (p0 &&& (255 : Int32)) (p1 &&& (255 : Int32)) (p2 &&& (255 : Int32)) b8) [])) st ?_
    refine own_via (g' := (mkF m 56 (own_L5 p0 p1 p2 p3 2 (p0 &&& (255 : Int32)) (p1 &&& (255 : Int32)) (p2 &&& (255 : Int32)) b8) [(.int ((p1 &&& (255 : Int32)).toInt8.toInt32)), (.int 1), (.ref b8)])) (fun t_ k_ => XS.iload X.here hx rfl (hb hby at_44) rfl (XS.iconst X.here hx rfl (hb hby at_46) (XS.icmpNo X.here hx rfl (hb hby at_47) rfl (tlt (by decide : (1 : Int32) < (2 : Int32))).2.2.2 (XS.aload X.here hx rfl (hb hby at_50) rfl rfl (XS.iconst X.here hx rfl (hb hby at_52) (XS.iload X.here hx rfl (hb hby at_53) rfl (XS.i2b X.here hx rfl (hb hby at_55) rfl k_))))))) ?_
    obtain ⟨cl_, Ar_, qk_, Sz_, Nn_, Hs_, Gs_⟩ := id V_b8
    have hin_ : ¬ ((1 : Int32) < 0 ∨ cl_.slots.size ≤ ((1 : Int32)).toNatClampNeg) := inb_of Sz_ ⟨by decide, by decide⟩
    obtain ⟨T, h11, X, eT, W, st⟩ := stB X hx hZ eT Ar_ (j := (1 : Int32)) hin_ (g := (mkF m 56 (own_L5 p0 p1 p2 p3 2 (p0 &&& (255 : Int32)) (p1 &&& (255 : Int32)) (p2 &&& (255 : Int32)) b8) [(.int ((p1 &&& (255 : Int32)).toInt8.toInt32)), (.int 1), (.ref b8)])) rfl rfl (hb hby at_56)
    replace V_b8 : Arv Z h11 b8 kb8 .byte (2 : Int32) [(.int ((((p0 &&& (255 : Int32)).toInt8.toInt32)).toInt8.toInt32)), (.int ((((p1 &&& (255 : Int32)).toInt8.toInt32)).toInt8.toInt32))] (.int 0) := Arv.set Ar_ qk_ Sz_ Nn_ Hs_ Gs_ (fits_nar_byte _) W 1 (by decide) (Nat.le_of_ble_eq_true rfl)
    replace E_b8 := E_b8.wr W
    replace O := O.wr W g_b8
    replace K0 := K0.wr W (Or.inr sz_b8)
    replace N := Fr.snoc X N g_b8
    refine own_via (g' := (mkF m 57 (own_L5 p0 p1 p2 p3 2 (p0 &&& (255 : Int32)) (p1 &&& (255 : Int32)) (p2 &&& (255 : Int32)) b8) [])) st ?_
    refine own_via (g' := (mkF m 72 (own_L5 p0 p1 p2 p3 2 (p0 &&& (255 : Int32)) (p1 &&& (255 : Int32)) (p2 &&& (255 : Int32)) b8) [(.ref b8)])) (fun t_ k_ => XS.iload X.here hx rfl (hb hby at_57) rfl (XS.iconst X.here hx rfl (hb hby at_59) (XS.icmpYes X.here hx rfl (pc0 := 60) (pc' := 70) rfl (hb hby at_60) rfl (flt (by decide : ¬ ((2 : Int32) < (2 : Int32)))).2.2.2 (by decide) (by decide) (XS.aload X.here hx rfl (hb hby at_70) rfl rfl k_)))) ?_
    obtain ⟨_, _, ⟨T, Lq, kq, nq⟩, -, X, ⟨Lc, hQ, lq, yq, zq⟩, st⟩ := Jvm.LawKit.callS X hx (y := own_y29) hown (mvT hZ (hw _ (own_w 1 rfl))) (mvT hZ (hw _ (own_w 2 rfl))) (mvT hZ (hw _ (own_w 3 rfl))) (mvT hZ (hw _ (own_w 4 rfl))) (by decide) (backOf (W := 0) (own_esc2 l Z a0 hw [] b8 kb8 ((((p0 &&& (255 : Int32)).toInt8.toInt32)).toInt8.toInt32) ((((p1 &&& (255 : Int32)).toInt8.toInt32)).toInt8.toInt32) (p0 &&& (255 : Int32)) (p1 &&& (255 : Int32)) wH kH hv zc h11 n0 O E_b8 V_b8 (own_st255 (own_v255 p0).1 (own_v255 p0).2) (own_v255 p0) (own_st255 (own_v255 p1).1 (own_v255 p1).2) (own_v255 p1) S_H VO_wH hhx S_C hzc) hZ (hw _ (own_w 4 rfl)) (hw _ (own_w 3 rfl)) (by decide) (by decide)) (g := (mkF m 72 (own_L5 p0 p1 p2 p3 2 (p0 &&& (255 : Int32)) (p1 &&& (255 : Int32)) (p2 &&& (255 : Int32)) b8) [(.ref b8)])) rfl (by rw [hml]; rfl) (argsL := [(.ref b8)]) (rest := []) (lenOf own_pd21 rfl) rfl (by show 2 * 0 + _ ≤ _; exact Nat.le_of_eq rfl) (hb hby at_72) (fun _ _ => ⟨rfl, eT, (by decide : 1 + 6 ≤ _), (by decide : 2 + 65 ≤ _)⟩)
    dsimp only [Pt.U, Pt.locs, Pt.cells, Pt.slots] at X lq yq zq st hQ
    subst lq yq zq
    obtain ⟨rr, rb, kr, N_, cs, rfl, Nq, Kq, sz1, sz2, E_rr, F_value_rr, F_coder_rr, V_rb, hE⟩ := hQ
    replace N := Fr.app N Nq
    obtain ⟨h12, eT⟩ : ∃ z, T.heap = z := ⟨_, rfl⟩
    rw [eT] at Kq E_rr F_value_rr F_coder_rr V_rb
    have ne_b8_rr : b8 ≠ rr := Nat.ne_of_lt (Nat.lt_of_lt_of_le E_b8.lt sz1)
    have g_rr : n0 ≤ rr := Nat.le_trans (own_le O) sz1
    have sz_rr : h0.size ≤ rr := Nat.le_trans K0.1 sz1
    have ne_b8_rb : b8 ≠ rb := Nat.ne_of_lt (Nat.lt_of_lt_of_le E_b8.lt sz2)
    have g_rb : n0 ≤ rb := Nat.le_trans (own_le O) sz2
    have sz_rb : h0.size ≤ rb := Nat.le_trans K0.1 sz2
    replace E_b8 := E_b8.keep Kq
    replace V_b8 := V_b8.keep Kq nin0
    replace O := O.keep Kq all0
    replace K0 := K0.trans Kq all0
    refine own_via (g' := (mkF m 75 (own_L5 p0 p1 p2 p3 2 (p0 &&& (255 : Int32)) (p1 &&& (255 : Int32)) (p2 &&& (255 : Int32)) b8) [(.ref rr)])) st ?_
    obtain ⟨w0, w1, eN, hW0, hW1, hM0, hM1⟩ := own_dec2 (own_v255 p0) (own_v255 p1) hE
    refine own_via (g' := (mkF m 84 (own_L4 p0 p1 p2 p3 2 (p0 &&& (255 : Int32)) (p1 &&& (255 : Int32)) (p2 &&& (255 : Int32)) b8 rr) [(.int (p0 &&& (255 : Int32)))])) (fun t_ k_ => XS.astore X.here hx rfl (hb hby at_75) rfl rfl (l' := (own_L4 p0 p1 p2 p3 2 (p0 &&& (255 : Int32)) (p1 &&& (255 : Int32)) (p2 &&& (255 : Int32)) b8 rr)) rfl (XS.iload X.here hx rfl (hb hby at_77) rfl (XS.ifNo X.here hx rfl (hb hby at_79) rfl ((if0 _ _).trans (tlt (by decide : (0 : Int32) < (2 : Int32))).2.2.2) (XS.iload X.here hx rfl (hb hby at_82) rfl k_)))) ?_
    obtain ⟨_, _, ⟨T, Lq, kq, nq⟩, -, X, ⟨Lc, hQ, lq, yq, zq⟩, st⟩ := Jvm.LawKit.callS X hx (y := own_y31) hown (mvT hZ (hw _ (own_w 125 rfl))) (mvT hZ (hw _ (own_w 126 rfl))) (mvT hZ (hw _ (own_w 127 rfl))) (mvT hZ (hw _ (own_w 128 rfl))) (by decide) (backOf (W := 0) (own_wdG l Z a0 hw [] (p0 &&& (255 : Int32)) w0 h12 n0 O hW0) hZ (hw _ (own_w 128 rfl)) (hw _ (own_w 127 rfl)) (by decide) (by decide)) (g := (mkF m 84 (own_L4 p0 p1 p2 p3 2 (p0 &&& (255 : Int32)) (p1 &&& (255 : Int32)) (p2 &&& (255 : Int32)) b8 rr) [(.int (p0 &&& (255 : Int32)))])) rfl (by rw [hml]; rfl) (argsL := [(.int (p0 &&& (255 : Int32)))]) (rest := []) (lenOf own_pd2 rfl) rfl (by show 2 * 0 + _ ≤ _; exact Nat.le_of_eq rfl) (hb hby at_84) (fun _ _ => ⟨rfl, eT, (by decide : 7 + 0 ≤ _), (by decide : 67 + 0 ≤ _)⟩)
    dsimp only [Pt.U, Pt.locs, Pt.cells, Pt.slots] at X lq yq zq st hQ
    subst lq yq zq
    obtain ⟨rfl, Nq, eT⟩ := hQ
    replace N := Fr.app N Nq
    refine own_via (g' := (mkF m 87 (own_L4 p0 p1 p2 p3 2 (p0 &&& (255 : Int32)) (p1 &&& (255 : Int32)) (p2 &&& (255 : Int32)) b8 rr) [(.int w0)])) st ?_
    refine own_via (g' := (mkF m 101 (own_L3 p0 p1 p2 p3 2 (p0 &&& (255 : Int32)) (p1 &&& (255 : Int32)) (p2 &&& (255 : Int32)) b8 rr w0) [(.int (p1 &&& (255 : Int32)))])) (fun t_ k_ => XS.goto X.here hx rfl (pc0 := 87) (pc' := 91) rfl (hb hby at_87) (by decide) (by decide) (XS.istore X.here hx rfl (hb hby at_91) rfl (l' := (own_L3 p0 p1 p2 p3 2 (p0 &&& (255 : Int32)) (p1 &&& (255 : Int32)) (p2 &&& (255 : Int32)) b8 rr w0)) rfl (XS.iload X.here hx rfl (hb hby at_93) rfl (XS.iconst X.here hx rfl (hb hby at_95) (XS.icmpNo X.here hx rfl (hb hby at_96) rfl (tlt (by decide : (1 : Int32) < (2 : Int32))).2.2.2 (XS.iload X.here hx rfl (hb hby at_99) rfl k_)))))) ?_
    obtain ⟨_, _, ⟨T, Lq, kq, nq⟩, -, X, ⟨Lc, hQ, lq, yq, zq⟩, st⟩ := Jvm.LawKit.callS X hx (y := own_y31) hown (mvT hZ (hw _ (own_w 125 rfl))) (mvT hZ (hw _ (own_w 126 rfl))) (mvT hZ (hw _ (own_w 127 rfl))) (mvT hZ (hw _ (own_w 128 rfl))) (by decide) (backOf (W := 0) (own_wdG l Z a0 hw [] (p1 &&& (255 : Int32)) w1 h12 n0 O hW1) hZ (hw _ (own_w 128 rfl)) (hw _ (own_w 127 rfl)) (by decide) (by decide)) (g := (mkF m 101 (own_L3 p0 p1 p2 p3 2 (p0 &&& (255 : Int32)) (p1 &&& (255 : Int32)) (p2 &&& (255 : Int32)) b8 rr w0) [(.int (p1 &&& (255 : Int32)))])) rfl (by rw [hml]; rfl) (argsL := [(.int (p1 &&& (255 : Int32)))]) (rest := []) (lenOf own_pd2 rfl) rfl (by show 2 * 0 + _ ≤ _; exact Nat.le_of_eq rfl) (hb hby at_101) (fun _ _ => ⟨rfl, eT, (by decide : 7 + 0 ≤ _), (by decide : 67 + 0 ≤ _)⟩)
    dsimp only [Pt.U, Pt.locs, Pt.cells, Pt.slots] at X lq yq zq st hQ
    subst lq yq zq
    obtain ⟨rfl, Nq, eT⟩ := hQ
    replace N := Fr.app N Nq
    refine own_via (g' := (mkF m 104 (own_L3 p0 p1 p2 p3 2 (p0 &&& (255 : Int32)) (p1 &&& (255 : Int32)) (p2 &&& (255 : Int32)) b8 rr w0) [(.int w1)])) st ?_
    refine own_via (g' := (mkF m 129 (own_L1 p0 p1 p2 p3 2 (p0 &&& (255 : Int32)) (p1 &&& (255 : Int32)) (p2 &&& (255 : Int32)) b8 rr w0 w1 0) [(.ref rr)])) (fun t_ k_ => XS.goto X.here hx rfl (pc0 := 104) (pc' := 108) rfl (hb hby at_104) (by decide) (by decide) (XS.istore X.here hx rfl (hb hby at_108) rfl (l' := (own_L2 p0 p1 p2 p3 2 (p0 &&& (255 : Int32)) (p1 &&& (255 : Int32)) (p2 &&& (255 : Int32)) b8 rr w0 w1)) rfl (XS.iload X.here hx rfl (hb hby at_110) rfl (XS.iconst X.here hx rfl (hb hby at_112) (XS.icmpYes X.here hx rfl (pc0 := 113) (pc' := 124) rfl (hb hby at_113) rfl (flt (by decide : ¬ ((2 : Int32) < (2 : Int32)))).2.2.2 (by decide) (by decide) (XS.iconst X.here hx rfl (hb hby at_124) (XS.istore X.here hx rfl (hb hby at_125) rfl (l' := (own_L1 p0 p1 p2 p3 2 (p0 &&& (255 : Int32)) (p1 &&& (255 : Int32)) (p2 &&& (255 : Int32)) b8 rr w0 w1 0)) rfl (XS.aload X.here hx rfl (hb hby at_127) rfl rfl k_)))))))) ?_
    obtain ⟨cq, kq, qa, qb, qc⟩ := isOf hZ eT E_rr
    obtain ⟨_, _, ⟨T, Lq, kq, nq⟩, -, X, ⟨Lc, hQ, lq, yq, zq⟩, st⟩ := X.virtualBack hx (y := own_y30) (z := own_y30) hown (mvT hZ (hw _ (own_w 132 rfl))) (mvT hZ (hw _ (own_w 133 rfl))) (notFace_of_selects (args := #[]) (mvT hZ (hw _ (own_w 135 rfl)))) (mvT hZ (hw _ (own_w 135 rfl))) (mvT hZ (hw _ (own_w 134 rfl))) (by decide) (backOf (W := 0) (own_strlen l Z a0 hw [] rr rb kr N_ cs zc h12 n0 O E_rr F_value_rr F_coder_rr V_rb S_C hzc) hZ (hw _ (own_w 136 rfl)) (hw _ (own_w 21 rfl)) (by decide) (by decide)) qa qc (g := (mkF m 129 (own_L1 p0 p1 p2 p3 2 (p0 &&& (255 : Int32)) (p1 &&& (255 : Int32)) (p2 &&& (255 : Int32)) b8 rr w0 w1 0) [(.ref rr)])) rfl (by rw [hml]; rfl) (Steps.refl _) (argsL := []) (rest := []) (lenOf own_pd8 rfl) rfl (by show 2 * 0 + _ ≤ _; exact Nat.le_of_eq rfl) (hb hby at_129) (fun _ _ => ⟨rfl, eT, (by decide : 7 + 0 ≤ _), (by decide : 67 + 0 ≤ _)⟩)
    dsimp only [Pt.U, Pt.locs, Pt.cells, Pt.slots] at X lq yq zq st hQ
    subst lq yq zq
    obtain ⟨rfl, Nq, eT⟩ := hQ
    replace N := Fr.app N Nq
    refine own_viaT (g' := (mkF m 132 (own_L1 p0 p1 p2 p3 2 (p0 &&& (255 : Int32)) (p1 &&& (255 : Int32)) (p2 &&& (255 : Int32)) b8 rr w0 w1 0) [(.int N_)])) st ?_
    refine own_via (g' := (mkF m 153 (own_L0 p0 p1 p2 p3 2 (p0 &&& (255 : Int32)) (p1 &&& (255 : Int32)) (p2 &&& (255 : Int32)) b8 rr w0 w1 0 1) [])) (fun t_ k_ => XS.iload X.here hx rfl (hb hby at_132) rfl (XS.iload X.here hx rfl (hb hby at_134) rfl (XS.iadd X.here hx rfl (hb hby at_136) rfl (XS.iload X.here hx rfl (hb hby at_137) rfl (XS.iadd X.here hx rfl (hb hby at_139) rfl (XS.icmpYes X.here hx rfl (pc0 := 140) (pc' := 145) rfl (hb hby at_140) rfl (teq eN).1 (by decide) (by decide) (XS.iconst X.here hx rfl (hb hby at_145) (XS.istore X.here hx rfl (hb hby at_146) rfl (l' := (own_L0 p0 p1 p2 p3 2 (p0 &&& (255 : Int32)) (p1 &&& (255 : Int32)) (p2 &&& (255 : Int32)) b8 rr w0 w1 0 1)) rfl (XS.iload X.here hx rfl (hb hby at_148) rfl (XS.ifNo X.here hx rfl (hb hby at_150) rfl ((if0 _ _).trans (tlt (by decide : (0 : Int32) < (2 : Int32))).2.2.2) k_)))))))))) ?_
    refine own_via (g' := (mkF m 163 (own_L0 p0 p1 p2 p3 2 (p0 &&& (255 : Int32)) (p1 &&& (255 : Int32)) (p2 &&& (255 : Int32)) b8 rr w0 w1 0 1) [(.int (p0 &&& (255 : Int32))), (.int 0), (.ref rr)])) (fun t_ k_ => XS.iload X.here hx rfl (hb hby at_153) rfl (XS.ifNo X.here hx rfl (hb hby at_155) rfl ((if0 _ _).trans (feq (by decide : ¬ ((1 : Int32) = (0 : Int32)))).1) (XS.aload X.here hx rfl (hb hby at_158) rfl rfl (XS.iconst X.here hx rfl (hb hby at_160) (XS.iload X.here hx rfl (hb hby at_161) rfl k_))))) ?_
    obtain ⟨_, _, ⟨T, Lq, kq, nq⟩, -, X, ⟨Lc, hQ, lq, yq, zq⟩, st⟩ := Jvm.LawKit.callS X hx (y := own_y32) hown (mvT hZ (hw _ (own_w 143 rfl))) (mvT hZ (hw _ (own_w 144 rfl))) (mvT hZ (hw _ (own_w 127 rfl))) (mvT hZ (hw _ (own_w 145 rfl))) (by decide) (backOf (W := 0) (own_mG l Z a0 hw [] rr rb kr N_ cs (0 : Int32) (p0 &&& (255 : Int32)) zc vS h12 n0 O E_rr F_value_rr F_coder_rr V_rb (own_v255 p0) S_C hzc S_S hvS hM0) hZ (hw _ (own_w 145 rfl)) (hw _ (own_w 127 rfl)) (by decide) (by decide)) (g := (mkF m 163 (own_L0 p0 p1 p2 p3 2 (p0 &&& (255 : Int32)) (p1 &&& (255 : Int32)) (p2 &&& (255 : Int32)) b8 rr w0 w1 0 1) [(.int (p0 &&& (255 : Int32))), (.int 0), (.ref rr)])) rfl (by rw [hml]; rfl) (argsL := [(.ref rr), (.int 0), (.int (p0 &&& (255 : Int32)))]) (rest := []) (lenOf own_pd22 rfl) rfl (by show 2 * 0 + _ ≤ _; exact Nat.le_of_eq rfl) (hb hby at_163) (fun _ _ => ⟨rfl, eT, (by decide : 7 + 0 ≤ _), (by decide : 67 + 0 ≤ _)⟩)
    dsimp only [Pt.U, Pt.locs, Pt.cells, Pt.slots] at X lq yq zq st hQ
    subst lq yq zq
    obtain ⟨rfl, Nq, eT⟩ := hQ
    replace N := Fr.app N Nq
    refine own_via (g' := (mkF m 166 (own_L0 p0 p1 p2 p3 2 (p0 &&& (255 : Int32)) (p1 &&& (255 : Int32)) (p2 &&& (255 : Int32)) b8 rr w0 w1 0 1) [(.int 1)])) st ?_
    refine own_via (g' := (mkF m 189 (own_L0 p0 p1 p2 p3 2 (p0 &&& (255 : Int32)) (p1 &&& (255 : Int32)) (p2 &&& (255 : Int32)) b8 rr w0 w1 0 1) [(.ref rr)])) (fun t_ k_ => XS.ifNo X.here hx rfl (hb hby at_166) rfl ((if0 _ _).trans (feq (by decide : ¬ ((1 : Int32) = (0 : Int32)))).1) (XS.iconst X.here hx rfl (hb hby at_169) (XS.goto X.here hx rfl (pc0 := 170) (pc' := 174) rfl (hb hby at_170) (by decide) (by decide) (XS.istore X.here hx rfl (hb hby at_174) rfl (l' := (own_L0 p0 p1 p2 p3 2 (p0 &&& (255 : Int32)) (p1 &&& (255 : Int32)) (p2 &&& (255 : Int32)) b8 rr w0 w1 0 1)) rfl (XS.iload X.here hx rfl (hb hby at_176) rfl (XS.iconst X.here hx rfl (hb hby at_178) (XS.icmpNo X.here hx rfl (hb hby at_179) rfl (tlt (by decide : (1 : Int32) < (2 : Int32))).2.2.2 (XS.iload X.here hx rfl (hb hby at_182) rfl (XS.ifNo X.here hx rfl (hb hby at_184) rfl ((if0 _ _).trans (feq (by decide : ¬ ((1 : Int32) = (0 : Int32)))).1) (XS.aload X.here hx rfl (hb hby at_187) rfl rfl k_)))))))))) ?_
    refine own_via (g' := (mkF m 193 (own_L0 p0 p1 p2 p3 2 (p0 &&& (255 : Int32)) (p1 &&& (255 : Int32)) (p2 &&& (255 : Int32)) b8 rr w0 w1 0 1) [(.int (p1 &&& (255 : Int32))), (.int w0), (.ref rr)])) (fun t_ k_ => XS.iload X.here hx rfl (hb hby at_189) rfl (XS.iload X.here hx rfl (hb hby at_191) rfl k_)) ?_
    obtain ⟨_, _, ⟨T, Lq, kq, nq⟩, -, X, ⟨Lc, hQ, lq, yq, zq⟩, st⟩ := Jvm.LawKit.callS X hx (y := own_y32) hown (mvT hZ (hw _ (own_w 143 rfl))) (mvT hZ (hw _ (own_w 144 rfl))) (mvT hZ (hw _ (own_w 127 rfl))) (mvT hZ (hw _ (own_w 145 rfl))) (by decide) (backOf (W := 0) (own_mG l Z a0 hw [] rr rb kr N_ cs w0 (p1 &&& (255 : Int32)) zc vS h12 n0 O E_rr F_value_rr F_coder_rr V_rb (own_v255 p1) S_C hzc S_S hvS hM1) hZ (hw _ (own_w 145 rfl)) (hw _ (own_w 127 rfl)) (by decide) (by decide)) (g := (mkF m 193 (own_L0 p0 p1 p2 p3 2 (p0 &&& (255 : Int32)) (p1 &&& (255 : Int32)) (p2 &&& (255 : Int32)) b8 rr w0 w1 0 1) [(.int (p1 &&& (255 : Int32))), (.int w0), (.ref rr)])) rfl (by rw [hml]; rfl) (argsL := [(.ref rr), (.int w0), (.int (p1 &&& (255 : Int32)))]) (rest := []) (lenOf own_pd22 rfl) rfl (by show 2 * 0 + _ ≤ _; exact Nat.le_of_eq rfl) (hb hby at_193) (fun _ _ => ⟨rfl, eT, (by decide : 7 + 0 ≤ _), (by decide : 67 + 0 ≤ _)⟩)
    dsimp only [Pt.U, Pt.locs, Pt.cells, Pt.slots] at X lq yq zq st hQ
    subst lq yq zq
    obtain ⟨rfl, Nq, eT⟩ := hQ
    replace N := Fr.app N Nq
    refine own_via (g' := (mkF m 196 (own_L0 p0 p1 p2 p3 2 (p0 &&& (255 : Int32)) (p1 &&& (255 : Int32)) (p2 &&& (255 : Int32)) b8 rr w0 w1 0 1) [(.int 1)])) st ?_
    refine own_via (g' := (mkF m 241 (own_L0 p0 p1 p2 p3 2 (p0 &&& (255 : Int32)) (p1 &&& (255 : Int32)) (p2 &&& (255 : Int32)) b8 rr w0 w1 0 1) [(.int 1)])) (fun t_ k_ => XS.ifNo X.here hx rfl (hb hby at_196) rfl ((if0 _ _).trans (feq (by decide : ¬ ((1 : Int32) = (0 : Int32)))).1) (XS.iconst X.here hx rfl (hb hby at_199) (XS.goto X.here hx rfl (pc0 := 200) (pc' := 204) rfl (hb hby at_200) (by decide) (by decide) (XS.istore X.here hx rfl (hb hby at_204) rfl (l' := (own_L0 p0 p1 p2 p3 2 (p0 &&& (255 : Int32)) (p1 &&& (255 : Int32)) (p2 &&& (255 : Int32)) b8 rr w0 w1 0 1)) rfl (XS.iload X.here hx rfl (hb hby at_206) rfl (XS.iconst X.here hx rfl (hb hby at_208) (XS.icmpYes X.here hx rfl (pc0 := 209) (pc' := 239) rfl (hb hby at_209) rfl (flt (by decide : ¬ ((2 : Int32) < (2 : Int32)))).2.2.2 (by decide) (by decide) (XS.iload X.here hx rfl (hb hby at_239) rfl k_)))))))) ?_
    refine own_retN X hx hlk (t := .boolean) Bd.returns (by simp) (hb hby at_241) (by decide) (by decide) ?_
    rw [eT]
    exact ⟨rfl, N, trivial⟩
  · rw [hL]
    refine own_via (g' := (mkF m 20 (own_L7 p0 p1 p2 p3 3 (p0 &&& (255 : Int32)) (p1 &&& (255 : Int32))) [(.int p2)])) (fun t_ k_ => XS.istore X.here hx rfl (hb hby at_3) rfl (l' := #[.val (.int p0), .val (.int p1), .val (.int p2), .val (.int p3), .val (.int 3), .unset, .unset, .unset, .unset, .unset, .unset, .unset, .unset, .unset]) rfl (XS.iloadN X.here hx rfl (hb hby at_5) rfl (XS.sipush X.here hx rfl (hb hby at_6) (XS.iand X.here hx rfl (hb hby at_9) rfl (XS.istore X.here hx rfl (hb hby at_10) rfl (l' := #[.val (.int p0), .val (.int p1), .val (.int p2), .val (.int p3), .val (.int 3), .val (.int (p0 &&& (255 : Int32))), .unset, .unset, .unset, .unset, .unset, .unset, .unset, .unset]) rfl (XS.iloadN X.here hx rfl (hb hby at_12) rfl (XS.sipush X.here hx rfl (hb hby at_13) (XS.iand X.here hx rfl (hb hby at_16) rfl (XS.istore X.here hx rfl (hb hby at_17) rfl (l' := (own_L7 p0 p1 p2 p3 3 (p0 &&& (255 : Int32)) (p1 &&& (255 : Int32)))) rfl (XS.iloadN X.here hx rfl (hb hby at_19) rfl k_)))))))))) ?_
    refine own_via (g' := (mkF m 28 (own_L6 p0 p1 p2 p3 3 (p0 &&& (255 : Int32)) (p1 &&& (255 : Int32)) (p2 &&& (255 : Int32))) [(.int 3)])) (fun t_ k_ => XS.sipush X.here hx rfl (hb hby at_20) (XS.iand X.here hx rfl (hb hby at_23) rfl (XS.istore X.here hx rfl (hb hby at_24) rfl (l' := (own_L6 p0 p1 p2 p3 3 (p0 &&& (255 : Int32)) (p1 &&& (255 : Int32)) (p2 &&& (255 : Int32)))) rfl (XS.iload X.here hx rfl (hb hby at_26) rfl k_)))) ?_
    obtain ⟨b13, gb⟩ : ∃ z, z = h.size := ⟨_, rfl⟩
    obtain ⟨T, h14, kb13, X, eT, E, A_, E_b13, st⟩ := newPE X hx hZ (hw _ (own_w 0 rfl)) eT (g := (mkF m 28 (own_L6 p0 p1 p2 p3 3 (p0 &&& (255 : Int32)) (p1 &&& (255 : Int32)) (p2 &&& (255 : Int32))) [(.int 3)])) rfl (hb hby at_28) rfl (by decide) (cap := 3) (by decide) (by decide) (by decide) (by decide) (ad := "[B") (by decide)
    rw [← gb] at A_ E_b13 st
    have g_b13 : n0 ≤ b13 := Nat.le_trans (own_le O) (Nat.le_of_eq gb.symm)
    have sz_b13 : h0.size ≤ b13 := Nat.le_trans K0.1 (Nat.le_of_eq gb.symm)
    replace O := O.ext E
    replace K0 := K0.ext E
    have V_b13 : Arv Z h14 b13 kb13 .byte (3 : Int32) [(.int 0), (.int 0), (.int 0)] (.int 0) := (Arv.new A_ (by decide)).pad (pad_rep [] (.int 0) 3)
    refine own_via (g' := (mkF m 30 (own_L6 p0 p1 p2 p3 3 (p0 &&& (255 : Int32)) (p1 &&& (255 : Int32)) (p2 &&& (255 : Int32))) [(.ref b13)])) st ?_
    refine own_via (g' := (mkF m 43 (own_L5 p0 p1 p2 p3 3 (p0 &&& (255 : Int32)) (p1 &&& (255 : Int32)) (p2 &&& (255 : Int32)) b13) [(.int ((p0 &&& (255 : Int32)).toInt8.toInt32)), (.int 0), (.ref b13)])) (fun t_ k_ => XS.astore X.here hx rfl (hb hby at_30) rfl rfl (l' := (own_L5 p0 p1 p2 p3 3 (p0 &&& (255 : Int32)) (p1 &&& (255 : Int32)) (p2 &&& (255 : Int32)) b13)) rfl (XS.iload X.here hx rfl (hb hby at_32) rfl (XS.ifNo X.here hx rfl (hb hby at_34) rfl ((if0 _ _).trans (tlt (by decide : (0 : Int32) < (3 : Int32))).2.2.2) (XS.aload X.here hx rfl (hb hby at_37) rfl rfl (XS.iconst X.here hx rfl (hb hby at_39) (XS.iload X.here hx rfl (hb hby at_40) rfl (XS.i2b X.here hx rfl (hb hby at_42) rfl k_))))))) ?_
    obtain ⟨cl_, Ar_, qk_, Sz_, Nn_, Hs_, Gs_⟩ := id V_b13
    have hin_ : ¬ ((0 : Int32) < 0 ∨ cl_.slots.size ≤ ((0 : Int32)).toNatClampNeg) := inb_of Sz_ ⟨by decide, by decide⟩
    obtain ⟨T, h15, X, eT, W, st⟩ := stB X hx hZ eT Ar_ (j := (0 : Int32)) hin_ (g := (mkF m 43 (own_L5 p0 p1 p2 p3 3 (p0 &&& (255 : Int32)) (p1 &&& (255 : Int32)) (p2 &&& (255 : Int32)) b13) [(.int ((p0 &&& (255 : Int32)).toInt8.toInt32)), (.int 0), (.ref b13)])) rfl rfl (hb hby at_43)
    replace V_b13 : Arv Z h15 b13 kb13 .byte (3 : Int32) [(.int ((((p0 &&& (255 : Int32)).toInt8.toInt32)).toInt8.toInt32)), (.int 0), (.int 0)] (.int 0) := Arv.set Ar_ qk_ Sz_ Nn_ Hs_ Gs_ (fits_nar_byte _) W 0 (by decide) (Nat.le_of_ble_eq_true rfl)
    replace E_b13 := E_b13.wr W
    replace O := O.wr W g_b13
    replace K0 := K0.wr W (Or.inr sz_b13)
    replace N := Fr.snoc X N g_b13
    refine own_via (g' := (mkF m 44 (own_L5 p0 p1 p2 p3 3 (p0 &&& (255 : Int32)) (p1 &&& (255 : Int32)) (p2 &&& (255 : Int32)) b13) [])) st ?_
    refine own_via (g' := (mkF m 56 (own_L5 p0 p1 p2 p3 3 (p0 &&& (255 : Int32)) (p1 &&& (255 : Int32)) (p2 &&& (255 : Int32)) b13) [(.int ((p1 &&& (255 : Int32)).toInt8.toInt32)), (.int 1), (.ref b13)])) (fun t_ k_ => XS.iload X.here hx rfl (hb hby at_44) rfl (XS.iconst X.here hx rfl (hb hby at_46) (XS.icmpNo X.here hx rfl (hb hby at_47) rfl (tlt (by decide : (1 : Int32) < (3 : Int32))).2.2.2 (XS.aload X.here hx rfl (hb hby at_50) rfl rfl (XS.iconst X.here hx rfl (hb hby at_52) (XS.iload X.here hx rfl (hb hby at_53) rfl (XS.i2b X.here hx rfl (hb hby at_55) rfl k_))))))) ?_
    obtain ⟨cl_, Ar_, qk_, Sz_, Nn_, Hs_, Gs_⟩ := id V_b13
    have hin_ : ¬ ((1 : Int32) < 0 ∨ cl_.slots.size ≤ ((1 : Int32)).toNatClampNeg) := inb_of Sz_ ⟨by decide, by decide⟩
    obtain ⟨T, h16, X, eT, W, st⟩ := stB X hx hZ eT Ar_ (j := (1 : Int32)) hin_ (g := (mkF m 56 (own_L5 p0 p1 p2 p3 3 (p0 &&& (255 : Int32)) (p1 &&& (255 : Int32)) (p2 &&& (255 : Int32)) b13) [(.int ((p1 &&& (255 : Int32)).toInt8.toInt32)), (.int 1), (.ref b13)])) rfl rfl (hb hby at_56)
    replace V_b13 : Arv Z h16 b13 kb13 .byte (3 : Int32) [(.int ((((p0 &&& (255 : Int32)).toInt8.toInt32)).toInt8.toInt32)), (.int ((((p1 &&& (255 : Int32)).toInt8.toInt32)).toInt8.toInt32)), (.int 0)] (.int 0) := Arv.set Ar_ qk_ Sz_ Nn_ Hs_ Gs_ (fits_nar_byte _) W 1 (by decide) (Nat.le_of_ble_eq_true rfl)
    replace E_b13 := E_b13.wr W
    replace O := O.wr W g_b13
    replace K0 := K0.wr W (Or.inr sz_b13)
    replace N := Fr.snoc X N g_b13
    refine own_via (g' := (mkF m 57 (own_L5 p0 p1 p2 p3 3 (p0 &&& (255 : Int32)) (p1 &&& (255 : Int32)) (p2 &&& (255 : Int32)) b13) [])) st ?_
    refine own_via (g' := (mkF m 69 (own_L5 p0 p1 p2 p3 3 (p0 &&& (255 : Int32)) (p1 &&& (255 : Int32)) (p2 &&& (255 : Int32)) b13) [(.int ((p2 &&& (255 : Int32)).toInt8.toInt32)), (.int 2), (.ref b13)])) (fun t_ k_ => XS.iload X.here hx rfl (hb hby at_57) rfl (XS.iconst X.here hx rfl (hb hby at_59) (XS.icmpNo X.here hx rfl (hb hby at_60) rfl (tlt (by decide : (2 : Int32) < (3 : Int32))).2.2.2 (XS.aload X.here hx rfl (hb hby at_63) rfl rfl (XS.iconst X.here hx rfl (hb hby at_65) (XS.iload X.here hx rfl (hb hby at_66) rfl (XS.i2b X.here hx rfl (hb hby at_68) rfl k_))))))) ?_
    obtain ⟨cl_, Ar_, qk_, Sz_, Nn_, Hs_, Gs_⟩ := id V_b13
    have hin_ : ¬ ((2 : Int32) < 0 ∨ cl_.slots.size ≤ ((2 : Int32)).toNatClampNeg) := inb_of Sz_ ⟨by decide, by decide⟩
    obtain ⟨T, h17, X, eT, W, st⟩ := stB X hx hZ eT Ar_ (j := (2 : Int32)) hin_ (g := (mkF m 69 (own_L5 p0 p1 p2 p3 3 (p0 &&& (255 : Int32)) (p1 &&& (255 : Int32)) (p2 &&& (255 : Int32)) b13) [(.int ((p2 &&& (255 : Int32)).toInt8.toInt32)), (.int 2), (.ref b13)])) rfl rfl (hb hby at_69)
    replace V_b13 : Arv Z h17 b13 kb13 .byte (3 : Int32) [(.int ((((p0 &&& (255 : Int32)).toInt8.toInt32)).toInt8.toInt32)), (.int ((((p1 &&& (255 : Int32)).toInt8.toInt32)).toInt8.toInt32)), (.int ((((p2 &&& (255 : Int32)).toInt8.toInt32)).toInt8.toInt32))] (.int 0) := Arv.set Ar_ qk_ Sz_ Nn_ Hs_ Gs_ (fits_nar_byte _) W 2 (by decide) (Nat.le_of_ble_eq_true rfl)
    replace E_b13 := E_b13.wr W
    replace O := O.wr W g_b13
    replace K0 := K0.wr W (Or.inr sz_b13)
    replace N := Fr.snoc X N g_b13
    refine own_via (g' := (mkF m 70 (own_L5 p0 p1 p2 p3 3 (p0 &&& (255 : Int32)) (p1 &&& (255 : Int32)) (p2 &&& (255 : Int32)) b13) [])) st ?_
    refine own_via (g' := (mkF m 72 (own_L5 p0 p1 p2 p3 3 (p0 &&& (255 : Int32)) (p1 &&& (255 : Int32)) (p2 &&& (255 : Int32)) b13) [(.ref b13)])) (fun t_ k_ => XS.aload X.here hx rfl (hb hby at_70) rfl rfl k_) ?_
    obtain ⟨_, _, ⟨T, Lq, kq, nq⟩, -, X, ⟨Lc, hQ, lq, yq, zq⟩, st⟩ := Jvm.LawKit.callS X hx (y := own_y29) hown (mvT hZ (hw _ (own_w 1 rfl))) (mvT hZ (hw _ (own_w 2 rfl))) (mvT hZ (hw _ (own_w 3 rfl))) (mvT hZ (hw _ (own_w 4 rfl))) (by decide) (backOf (W := 0) (own_esc3 l Z a0 hw [] b13 kb13 ((((p0 &&& (255 : Int32)).toInt8.toInt32)).toInt8.toInt32) ((((p1 &&& (255 : Int32)).toInt8.toInt32)).toInt8.toInt32) ((((p2 &&& (255 : Int32)).toInt8.toInt32)).toInt8.toInt32) (p0 &&& (255 : Int32)) (p1 &&& (255 : Int32)) (p2 &&& (255 : Int32)) wH kH hv zc h17 n0 O E_b13 V_b13 (own_st255 (own_v255 p0).1 (own_v255 p0).2) (own_v255 p0) (own_st255 (own_v255 p1).1 (own_v255 p1).2) (own_v255 p1) (own_st255 (own_v255 p2).1 (own_v255 p2).2) (own_v255 p2) S_H VO_wH hhx S_C hzc) hZ (hw _ (own_w 4 rfl)) (hw _ (own_w 3 rfl)) (by decide) (by decide)) (g := (mkF m 72 (own_L5 p0 p1 p2 p3 3 (p0 &&& (255 : Int32)) (p1 &&& (255 : Int32)) (p2 &&& (255 : Int32)) b13) [(.ref b13)])) rfl (by rw [hml]; rfl) (argsL := [(.ref b13)]) (rest := []) (lenOf own_pd21 rfl) rfl (by show 2 * 0 + _ ≤ _; exact Nat.le_of_eq rfl) (hb hby at_72) (fun _ _ => ⟨rfl, eT, (by decide : 1 + 6 ≤ _), (by decide : 3 + 65 ≤ _)⟩)
    dsimp only [Pt.U, Pt.locs, Pt.cells, Pt.slots] at X lq yq zq st hQ
    subst lq yq zq
    obtain ⟨rr, rb, kr, N_, cs, rfl, Nq, Kq, sz1, sz2, E_rr, F_value_rr, F_coder_rr, V_rb, hE⟩ := hQ
    replace N := Fr.app N Nq
    obtain ⟨h18, eT⟩ : ∃ z, T.heap = z := ⟨_, rfl⟩
    rw [eT] at Kq E_rr F_value_rr F_coder_rr V_rb
    have ne_b13_rr : b13 ≠ rr := Nat.ne_of_lt (Nat.lt_of_lt_of_le E_b13.lt sz1)
    have g_rr : n0 ≤ rr := Nat.le_trans (own_le O) sz1
    have sz_rr : h0.size ≤ rr := Nat.le_trans K0.1 sz1
    have ne_b13_rb : b13 ≠ rb := Nat.ne_of_lt (Nat.lt_of_lt_of_le E_b13.lt sz2)
    have g_rb : n0 ≤ rb := Nat.le_trans (own_le O) sz2
    have sz_rb : h0.size ≤ rb := Nat.le_trans K0.1 sz2
    replace E_b13 := E_b13.keep Kq
    replace V_b13 := V_b13.keep Kq nin0
    replace O := O.keep Kq all0
    replace K0 := K0.trans Kq all0
    refine own_via (g' := (mkF m 75 (own_L5 p0 p1 p2 p3 3 (p0 &&& (255 : Int32)) (p1 &&& (255 : Int32)) (p2 &&& (255 : Int32)) b13) [(.ref rr)])) st ?_
    obtain ⟨w0, w1, w2, eN, hW0, hW1, hW2, hM0, hM1, hM2⟩ := own_dec3 (own_v255 p0) (own_v255 p1) (own_v255 p2) hE
    refine own_via (g' := (mkF m 84 (own_L4 p0 p1 p2 p3 3 (p0 &&& (255 : Int32)) (p1 &&& (255 : Int32)) (p2 &&& (255 : Int32)) b13 rr) [(.int (p0 &&& (255 : Int32)))])) (fun t_ k_ => XS.astore X.here hx rfl (hb hby at_75) rfl rfl (l' := (own_L4 p0 p1 p2 p3 3 (p0 &&& (255 : Int32)) (p1 &&& (255 : Int32)) (p2 &&& (255 : Int32)) b13 rr)) rfl (XS.iload X.here hx rfl (hb hby at_77) rfl (XS.ifNo X.here hx rfl (hb hby at_79) rfl ((if0 _ _).trans (tlt (by decide : (0 : Int32) < (3 : Int32))).2.2.2) (XS.iload X.here hx rfl (hb hby at_82) rfl k_)))) ?_
    obtain ⟨_, _, ⟨T, Lq, kq, nq⟩, -, X, ⟨Lc, hQ, lq, yq, zq⟩, st⟩ := Jvm.LawKit.callS X hx (y := own_y31) hown (mvT hZ (hw _ (own_w 125 rfl))) (mvT hZ (hw _ (own_w 126 rfl))) (mvT hZ (hw _ (own_w 127 rfl))) (mvT hZ (hw _ (own_w 128 rfl))) (by decide) (backOf (W := 0) (own_wdG l Z a0 hw [] (p0 &&& (255 : Int32)) w0 h18 n0 O hW0) hZ (hw _ (own_w 128 rfl)) (hw _ (own_w 127 rfl)) (by decide) (by decide)) (g := (mkF m 84 (own_L4 p0 p1 p2 p3 3 (p0 &&& (255 : Int32)) (p1 &&& (255 : Int32)) (p2 &&& (255 : Int32)) b13 rr) [(.int (p0 &&& (255 : Int32)))])) rfl (by rw [hml]; rfl) (argsL := [(.int (p0 &&& (255 : Int32)))]) (rest := []) (lenOf own_pd2 rfl) rfl (by show 2 * 0 + _ ≤ _; exact Nat.le_of_eq rfl) (hb hby at_84) (fun _ _ => ⟨rfl, eT, (by decide : 7 + 0 ≤ _), (by decide : 68 + 0 ≤ _)⟩)
    dsimp only [Pt.U, Pt.locs, Pt.cells, Pt.slots] at X lq yq zq st hQ
    subst lq yq zq
    obtain ⟨rfl, Nq, eT⟩ := hQ
    replace N := Fr.app N Nq
    refine own_via (g' := (mkF m 87 (own_L4 p0 p1 p2 p3 3 (p0 &&& (255 : Int32)) (p1 &&& (255 : Int32)) (p2 &&& (255 : Int32)) b13 rr) [(.int w0)])) st ?_
    refine own_via (g' := (mkF m 101 (own_L3 p0 p1 p2 p3 3 (p0 &&& (255 : Int32)) (p1 &&& (255 : Int32)) (p2 &&& (255 : Int32)) b13 rr w0) [(.int (p1 &&& (255 : Int32)))])) (fun t_ k_ => XS.goto X.here hx rfl (pc0 := 87) (pc' := 91) rfl (hb hby at_87) (by decide) (by decide) (XS.istore X.here hx rfl (hb hby at_91) rfl (l' := (own_L3 p0 p1 p2 p3 3 (p0 &&& (255 : Int32)) (p1 &&& (255 : Int32)) (p2 &&& (255 : Int32)) b13 rr w0)) rfl (XS.iload X.here hx rfl (hb hby at_93) rfl (XS.iconst X.here hx rfl (hb hby at_95) (XS.icmpNo X.here hx rfl (hb hby at_96) rfl (tlt (by decide : (1 : Int32) < (3 : Int32))).2.2.2 (XS.iload X.here hx rfl (hb hby at_99) rfl k_)))))) ?_
    obtain ⟨_, _, ⟨T, Lq, kq, nq⟩, -, X, ⟨Lc, hQ, lq, yq, zq⟩, st⟩ := Jvm.LawKit.callS X hx (y := own_y31) hown (mvT hZ (hw _ (own_w 125 rfl))) (mvT hZ (hw _ (own_w 126 rfl))) (mvT hZ (hw _ (own_w 127 rfl))) (mvT hZ (hw _ (own_w 128 rfl))) (by decide) (backOf (W := 0) (own_wdG l Z a0 hw [] (p1 &&& (255 : Int32)) w1 h18 n0 O hW1) hZ (hw _ (own_w 128 rfl)) (hw _ (own_w 127 rfl)) (by decide) (by decide)) (g := (mkF m 101 (own_L3 p0 p1 p2 p3 3 (p0 &&& (255 : Int32)) (p1 &&& (255 : Int32)) (p2 &&& (255 : Int32)) b13 rr w0) [(.int (p1 &&& (255 : Int32)))])) rfl (by rw [hml]; rfl) (argsL := [(.int (p1 &&& (255 : Int32)))]) (rest := []) (lenOf own_pd2 rfl) rfl (by show 2 * 0 + _ ≤ _; exact Nat.le_of_eq rfl) (hb hby at_101) (fun _ _ => ⟨rfl, eT, (by decide : 7 + 0 ≤ _), (by decide : 68 + 0 ≤ _)⟩)
    dsimp only [Pt.U, Pt.locs, Pt.cells, Pt.slots] at X lq yq zq st hQ
    subst lq yq zq
    obtain ⟨rfl, Nq, eT⟩ := hQ
    replace N := Fr.app N Nq
    refine own_via (g' := (mkF m 104 (own_L3 p0 p1 p2 p3 3 (p0 &&& (255 : Int32)) (p1 &&& (255 : Int32)) (p2 &&& (255 : Int32)) b13 rr w0) [(.int w1)])) st ?_
    refine own_via (g' := (mkF m 118 (own_L2 p0 p1 p2 p3 3 (p0 &&& (255 : Int32)) (p1 &&& (255 : Int32)) (p2 &&& (255 : Int32)) b13 rr w0 w1) [(.int (p2 &&& (255 : Int32)))])) (fun t_ k_ => XS.goto X.here hx rfl (pc0 := 104) (pc' := 108) rfl (hb hby at_104) (by decide) (by decide) (XS.istore X.here hx rfl (hb hby at_108) rfl (l' := (own_L2 p0 p1 p2 p3 3 (p0 &&& (255 : Int32)) (p1 &&& (255 : Int32)) (p2 &&& (255 : Int32)) b13 rr w0 w1)) rfl (XS.iload X.here hx rfl (hb hby at_110) rfl (XS.iconst X.here hx rfl (hb hby at_112) (XS.icmpNo X.here hx rfl (hb hby at_113) rfl (tlt (by decide : (2 : Int32) < (3 : Int32))).2.2.2 (XS.iload X.here hx rfl (hb hby at_116) rfl k_)))))) ?_
    obtain ⟨_, _, ⟨T, Lq, kq, nq⟩, -, X, ⟨Lc, hQ, lq, yq, zq⟩, st⟩ := Jvm.LawKit.callS X hx (y := own_y31) hown (mvT hZ (hw _ (own_w 125 rfl))) (mvT hZ (hw _ (own_w 126 rfl))) (mvT hZ (hw _ (own_w 127 rfl))) (mvT hZ (hw _ (own_w 128 rfl))) (by decide) (backOf (W := 0) (own_wdG l Z a0 hw [] (p2 &&& (255 : Int32)) w2 h18 n0 O hW2) hZ (hw _ (own_w 128 rfl)) (hw _ (own_w 127 rfl)) (by decide) (by decide)) (g := (mkF m 118 (own_L2 p0 p1 p2 p3 3 (p0 &&& (255 : Int32)) (p1 &&& (255 : Int32)) (p2 &&& (255 : Int32)) b13 rr w0 w1) [(.int (p2 &&& (255 : Int32)))])) rfl (by rw [hml]; rfl) (argsL := [(.int (p2 &&& (255 : Int32)))]) (rest := []) (lenOf own_pd2 rfl) rfl (by show 2 * 0 + _ ≤ _; exact Nat.le_of_eq rfl) (hb hby at_118) (fun _ _ => ⟨rfl, eT, (by decide : 7 + 0 ≤ _), (by decide : 68 + 0 ≤ _)⟩)
    dsimp only [Pt.U, Pt.locs, Pt.cells, Pt.slots] at X lq yq zq st hQ
    subst lq yq zq
    obtain ⟨rfl, Nq, eT⟩ := hQ
    replace N := Fr.app N Nq
    refine own_via (g' := (mkF m 121 (own_L2 p0 p1 p2 p3 3 (p0 &&& (255 : Int32)) (p1 &&& (255 : Int32)) (p2 &&& (255 : Int32)) b13 rr w0 w1) [(.int w2)])) st ?_
    refine own_via (g' := (mkF m 129 (own_L1 p0 p1 p2 p3 3 (p0 &&& (255 : Int32)) (p1 &&& (255 : Int32)) (p2 &&& (255 : Int32)) b13 rr w0 w1 w2) [(.ref rr)])) (fun t_ k_ => XS.goto X.here hx rfl (pc0 := 121) (pc' := 125) rfl (hb hby at_121) (by decide) (by decide) (XS.istore X.here hx rfl (hb hby at_125) rfl (l' := (own_L1 p0 p1 p2 p3 3 (p0 &&& (255 : Int32)) (p1 &&& (255 : Int32)) (p2 &&& (255 : Int32)) b13 rr w0 w1 w2)) rfl (XS.aload X.here hx rfl (hb hby at_127) rfl rfl k_))) ?_
    obtain ⟨cq, kq, qa, qb, qc⟩ := isOf hZ eT E_rr
    obtain ⟨_, _, ⟨T, Lq, kq, nq⟩, -, X, ⟨Lc, hQ, lq, yq, zq⟩, st⟩ := X.virtualBack hx (y := own_y30) (z := own_y30) hown (mvT hZ (hw _ (own_w 132 rfl))) (mvT hZ (hw _ (own_w 133 rfl))) (notFace_of_selects (args := #[]) (mvT hZ (hw _ (own_w 135 rfl)))) (mvT hZ (hw _ (own_w 135 rfl))) (mvT hZ (hw _ (own_w 134 rfl))) (by decide) (backOf (W := 0) (own_strlen l Z a0 hw [] rr rb kr N_ cs zc h18 n0 O E_rr F_value_rr F_coder_rr V_rb S_C hzc) hZ (hw _ (own_w 136 rfl)) (hw _ (own_w 21 rfl)) (by decide) (by decide)) qa qc (g := (mkF m 129 (own_L1 p0 p1 p2 p3 3 (p0 &&& (255 : Int32)) (p1 &&& (255 : Int32)) (p2 &&& (255 : Int32)) b13 rr w0 w1 w2) [(.ref rr)])) rfl (by rw [hml]; rfl) (Steps.refl _) (argsL := []) (rest := []) (lenOf own_pd8 rfl) rfl (by show 2 * 0 + _ ≤ _; exact Nat.le_of_eq rfl) (hb hby at_129) (fun _ _ => ⟨rfl, eT, (by decide : 7 + 0 ≤ _), (by decide : 68 + 0 ≤ _)⟩)
    dsimp only [Pt.U, Pt.locs, Pt.cells, Pt.slots] at X lq yq zq st hQ
    subst lq yq zq
    obtain ⟨rfl, Nq, eT⟩ := hQ
    replace N := Fr.app N Nq
    refine own_viaT (g' := (mkF m 132 (own_L1 p0 p1 p2 p3 3 (p0 &&& (255 : Int32)) (p1 &&& (255 : Int32)) (p2 &&& (255 : Int32)) b13 rr w0 w1 w2) [(.int N_)])) st ?_
    refine own_via (g' := (mkF m 153 (own_L0 p0 p1 p2 p3 3 (p0 &&& (255 : Int32)) (p1 &&& (255 : Int32)) (p2 &&& (255 : Int32)) b13 rr w0 w1 w2 1) [])) (fun t_ k_ => XS.iload X.here hx rfl (hb hby at_132) rfl (XS.iload X.here hx rfl (hb hby at_134) rfl (XS.iadd X.here hx rfl (hb hby at_136) rfl (XS.iload X.here hx rfl (hb hby at_137) rfl (XS.iadd X.here hx rfl (hb hby at_139) rfl (XS.icmpYes X.here hx rfl (pc0 := 140) (pc' := 145) rfl (hb hby at_140) rfl (teq eN).1 (by decide) (by decide) (XS.iconst X.here hx rfl (hb hby at_145) (XS.istore X.here hx rfl (hb hby at_146) rfl (l' := (own_L0 p0 p1 p2 p3 3 (p0 &&& (255 : Int32)) (p1 &&& (255 : Int32)) (p2 &&& (255 : Int32)) b13 rr w0 w1 w2 1)) rfl (XS.iload X.here hx rfl (hb hby at_148) rfl (XS.ifNo X.here hx rfl (hb hby at_150) rfl ((if0 _ _).trans (tlt (by decide : (0 : Int32) < (3 : Int32))).2.2.2) k_)))))))))) ?_
    refine own_via (g' := (mkF m 163 (own_L0 p0 p1 p2 p3 3 (p0 &&& (255 : Int32)) (p1 &&& (255 : Int32)) (p2 &&& (255 : Int32)) b13 rr w0 w1 w2 1) [(.int (p0 &&& (255 : Int32))), (.int 0), (.ref rr)])) (fun t_ k_ => XS.iload X.here hx rfl (hb hby at_153) rfl (XS.ifNo X.here hx rfl (hb hby at_155) rfl ((if0 _ _).trans (feq (by decide : ¬ ((1 : Int32) = (0 : Int32)))).1) (XS.aload X.here hx rfl (hb hby at_158) rfl rfl (XS.iconst X.here hx rfl (hb hby at_160) (XS.iload X.here hx rfl (hb hby at_161) rfl k_))))) ?_
    obtain ⟨_, _, ⟨T, Lq, kq, nq⟩, -, X, ⟨Lc, hQ, lq, yq, zq⟩, st⟩ := Jvm.LawKit.callS X hx (y := own_y32) hown (mvT hZ (hw _ (own_w 143 rfl))) (mvT hZ (hw _ (own_w 144 rfl))) (mvT hZ (hw _ (own_w 127 rfl))) (mvT hZ (hw _ (own_w 145 rfl))) (by decide) (backOf (W := 0) (own_mG l Z a0 hw [] rr rb kr N_ cs (0 : Int32) (p0 &&& (255 : Int32)) zc vS h18 n0 O E_rr F_value_rr F_coder_rr V_rb (own_v255 p0) S_C hzc S_S hvS hM0) hZ (hw _ (own_w 145 rfl)) (hw _ (own_w 127 rfl)) (by decide) (by decide)) (g := (mkF m 163 (own_L0 p0 p1 p2 p3 3 (p0 &&& (255 : Int32)) (p1 &&& (255 : Int32)) (p2 &&& (255 : Int32)) b13 rr w0 w1 w2 1) [(.int (p0 &&& (255 : Int32))), (.int 0), (.ref rr)])) rfl (by rw [hml]; rfl) (argsL := [(.ref rr), (.int 0), (.int (p0 &&& (255 : Int32)))]) (rest := []) (lenOf own_pd22 rfl) rfl (by show 2 * 0 + _ ≤ _; exact Nat.le_of_eq rfl) (hb hby at_163) (fun _ _ => ⟨rfl, eT, (by decide : 7 + 0 ≤ _), (by decide : 68 + 0 ≤ _)⟩)
    dsimp only [Pt.U, Pt.locs, Pt.cells, Pt.slots] at X lq yq zq st hQ
    subst lq yq zq
    obtain ⟨rfl, Nq, eT⟩ := hQ
    replace N := Fr.app N Nq
    refine own_via (g' := (mkF m 166 (own_L0 p0 p1 p2 p3 3 (p0 &&& (255 : Int32)) (p1 &&& (255 : Int32)) (p2 &&& (255 : Int32)) b13 rr w0 w1 w2 1) [(.int 1)])) st ?_
    refine own_via (g' := (mkF m 189 (own_L0 p0 p1 p2 p3 3 (p0 &&& (255 : Int32)) (p1 &&& (255 : Int32)) (p2 &&& (255 : Int32)) b13 rr w0 w1 w2 1) [(.ref rr)])) (fun t_ k_ => XS.ifNo X.here hx rfl (hb hby at_166) rfl ((if0 _ _).trans (feq (by decide : ¬ ((1 : Int32) = (0 : Int32)))).1) (XS.iconst X.here hx rfl (hb hby at_169) (XS.goto X.here hx rfl (pc0 := 170) (pc' := 174) rfl (hb hby at_170) (by decide) (by decide) (XS.istore X.here hx rfl (hb hby at_174) rfl (l' := (own_L0 p0 p1 p2 p3 3 (p0 &&& (255 : Int32)) (p1 &&& (255 : Int32)) (p2 &&& (255 : Int32)) b13 rr w0 w1 w2 1)) rfl (XS.iload X.here hx rfl (hb hby at_176) rfl (XS.iconst X.here hx rfl (hb hby at_178) (XS.icmpNo X.here hx rfl (hb hby at_179) rfl (tlt (by decide : (1 : Int32) < (3 : Int32))).2.2.2 (XS.iload X.here hx rfl (hb hby at_182) rfl (XS.ifNo X.here hx rfl (hb hby at_184) rfl ((if0 _ _).trans (feq (by decide : ¬ ((1 : Int32) = (0 : Int32)))).1) (XS.aload X.here hx rfl (hb hby at_187) rfl rfl k_)))))))))) ?_
    refine own_via (g' := (mkF m 193 (own_L0 p0 p1 p2 p3 3 (p0 &&& (255 : Int32)) (p1 &&& (255 : Int32)) (p2 &&& (255 : Int32)) b13 rr w0 w1 w2 1) [(.int (p1 &&& (255 : Int32))), (.int w0), (.ref rr)])) (fun t_ k_ => XS.iload X.here hx rfl (hb hby at_189) rfl (XS.iload X.here hx rfl (hb hby at_191) rfl k_)) ?_
    obtain ⟨_, _, ⟨T, Lq, kq, nq⟩, -, X, ⟨Lc, hQ, lq, yq, zq⟩, st⟩ := Jvm.LawKit.callS X hx (y := own_y32) hown (mvT hZ (hw _ (own_w 143 rfl))) (mvT hZ (hw _ (own_w 144 rfl))) (mvT hZ (hw _ (own_w 127 rfl))) (mvT hZ (hw _ (own_w 145 rfl))) (by decide) (backOf (W := 0) (own_mG l Z a0 hw [] rr rb kr N_ cs w0 (p1 &&& (255 : Int32)) zc vS h18 n0 O E_rr F_value_rr F_coder_rr V_rb (own_v255 p1) S_C hzc S_S hvS hM1) hZ (hw _ (own_w 145 rfl)) (hw _ (own_w 127 rfl)) (by decide) (by decide)) (g := (mkF m 193 (own_L0 p0 p1 p2 p3 3 (p0 &&& (255 : Int32)) (p1 &&& (255 : Int32)) (p2 &&& (255 : Int32)) b13 rr w0 w1 w2 1) [(.int (p1 &&& (255 : Int32))), (.int w0), (.ref rr)])) rfl (by rw [hml]; rfl) (argsL := [(.ref rr), (.int w0), (.int (p1 &&& (255 : Int32)))]) (rest := []) (lenOf own_pd22 rfl) rfl (by show 2 * 0 + _ ≤ _; exact Nat.le_of_eq rfl) (hb hby at_193) (fun _ _ => ⟨rfl, eT, (by decide : 7 + 0 ≤ _), (by decide : 68 + 0 ≤ _)⟩)
    dsimp only [Pt.U, Pt.locs, Pt.cells, Pt.slots] at X lq yq zq st hQ
    subst lq yq zq
    obtain ⟨rfl, Nq, eT⟩ := hQ
    replace N := Fr.app N Nq
    refine own_via (g' := (mkF m 196 (own_L0 p0 p1 p2 p3 3 (p0 &&& (255 : Int32)) (p1 &&& (255 : Int32)) (p2 &&& (255 : Int32)) b13 rr w0 w1 w2 1) [(.int 1)])) st ?_
    refine own_via (g' := (mkF m 219 (own_L0 p0 p1 p2 p3 3 (p0 &&& (255 : Int32)) (p1 &&& (255 : Int32)) (p2 &&& (255 : Int32)) b13 rr w0 w1 w2 1) [(.ref rr)])) (fun t_ k_ => XS.ifNo X.here hx rfl (hb hby at_196) rfl ((if0 _ _).trans (feq (by decide : ¬ ((1 : Int32) = (0 : Int32)))).1) (XS.iconst X.here hx rfl (hb hby at_199) (XS.goto X.here hx rfl (pc0 := 200) (pc' := 204) rfl (hb hby at_200) (by decide) (by decide) (XS.istore X.here hx rfl (hb hby at_204) rfl (l' := (own_L0 p0 p1 p2 p3 3 (p0 &&& (255 : Int32)) (p1 &&& (255 : Int32)) (p2 &&& (255 : Int32)) b13 rr w0 w1 w2 1)) rfl (XS.iload X.here hx rfl (hb hby at_206) rfl (XS.iconst X.here hx rfl (hb hby at_208) (XS.icmpNo X.here hx rfl (hb hby at_209) rfl (tlt (by decide : (2 : Int32) < (3 : Int32))).2.2.2 (XS.iload X.here hx rfl (hb hby at_212) rfl (XS.ifNo X.here hx rfl (hb hby at_214) rfl ((if0 _ _).trans (feq (by decide : ¬ ((1 : Int32) = (0 : Int32)))).1) (XS.aload X.here hx rfl (hb hby at_217) rfl rfl k_)))))))))) ?_
    refine own_via (g' := (mkF m 226 (own_L0 p0 p1 p2 p3 3 (p0 &&& (255 : Int32)) (p1 &&& (255 : Int32)) (p2 &&& (255 : Int32)) b13 rr w0 w1 w2 1) [(.int (p2 &&& (255 : Int32))), (.int (w0 + w1)), (.ref rr)])) (fun t_ k_ => XS.iload X.here hx rfl (hb hby at_219) rfl (XS.iload X.here hx rfl (hb hby at_221) rfl (XS.iadd X.here hx rfl (hb hby at_223) rfl (XS.iload X.here hx rfl (hb hby at_224) rfl k_)))) ?_
    obtain ⟨_, _, ⟨T, Lq, kq, nq⟩, -, X, ⟨Lc, hQ, lq, yq, zq⟩, st⟩ := Jvm.LawKit.callS X hx (y := own_y32) hown (mvT hZ (hw _ (own_w 143 rfl))) (mvT hZ (hw _ (own_w 144 rfl))) (mvT hZ (hw _ (own_w 127 rfl))) (mvT hZ (hw _ (own_w 145 rfl))) (by decide) (backOf (W := 0) (own_mG l Z a0 hw [] rr rb kr N_ cs (w0 + w1) (p2 &&& (255 : Int32)) zc vS h18 n0 O E_rr F_value_rr F_coder_rr V_rb (own_v255 p2) S_C hzc S_S hvS hM2) hZ (hw _ (own_w 145 rfl)) (hw _ (own_w 127 rfl)) (by decide) (by decide)) (g := (mkF m 226 (own_L0 p0 p1 p2 p3 3 (p0 &&& (255 : Int32)) (p1 &&& (255 : Int32)) (p2 &&& (255 : Int32)) b13 rr w0 w1 w2 1) [(.int (p2 &&& (255 : Int32))), (.int (w0 + w1)), (.ref rr)])) rfl (by rw [hml]; rfl) (argsL := [(.ref rr), (.int (w0 + w1)), (.int (p2 &&& (255 : Int32)))]) (rest := []) (lenOf own_pd22 rfl) rfl (by show 2 * 0 + _ ≤ _; exact Nat.le_of_eq rfl) (hb hby at_226) (fun _ _ => ⟨rfl, eT, (by decide : 7 + 0 ≤ _), (by decide : 68 + 0 ≤ _)⟩)
    dsimp only [Pt.U, Pt.locs, Pt.cells, Pt.slots] at X lq yq zq st hQ
    subst lq yq zq
    obtain ⟨rfl, Nq, eT⟩ := hQ
    replace N := Fr.app N Nq
    refine own_via (g' := (mkF m 229 (own_L0 p0 p1 p2 p3 3 (p0 &&& (255 : Int32)) (p1 &&& (255 : Int32)) (p2 &&& (255 : Int32)) b13 rr w0 w1 w2 1) [(.int 1)])) st ?_
    refine own_via (g' := (mkF m 241 (own_L0 p0 p1 p2 p3 3 (p0 &&& (255 : Int32)) (p1 &&& (255 : Int32)) (p2 &&& (255 : Int32)) b13 rr w0 w1 w2 1) [(.int 1)])) (fun t_ k_ => XS.ifNo X.here hx rfl (hb hby at_229) rfl ((if0 _ _).trans (feq (by decide : ¬ ((1 : Int32) = (0 : Int32)))).1) (XS.iconst X.here hx rfl (hb hby at_232) (XS.goto X.here hx rfl (pc0 := 233) (pc' := 237) rfl (hb hby at_233) (by decide) (by decide) (XS.istore X.here hx rfl (hb hby at_237) rfl (l' := (own_L0 p0 p1 p2 p3 3 (p0 &&& (255 : Int32)) (p1 &&& (255 : Int32)) (p2 &&& (255 : Int32)) b13 rr w0 w1 w2 1)) rfl (XS.iload X.here hx rfl (hb hby at_239) rfl k_))))) ?_
    refine own_retN X hx hlk (t := .boolean) Bd.returns (by simp) (hb hby at_241) (by decide) (by decide) ?_
    rw [eT]
    exact ⟨rfl, N, trivial⟩
theorem own_lenC {args : Array Value} {s : State} {t : Term} {a : Addr} {c : Cell} {ty : FieldType} {z : Int32} (ev : t.eval args s none [] s = some (.ref a)) (A : Arr s s.heap a c ty) (h : (Term.length t).eval args s none [] s = some (.int z)) : c.slots.size < 2 ^ 31 ∧ c.slots.size.toInt32 = z := by
  have ha := A.fin (Vm.Alike.refl _)
  by_cases hl : c.slots.size < 2 ^ 31
  · rw [len_f ev ha hl] at h
    exact ⟨hl, by cases h; rfl⟩
  · simp [Term.eval, ev, ha, hl] at h
theorem own_op1 {args : Array Value} {s : State} {f : Unary} {a : Term} {idx : List Nat} : (Term.op1 f a).eval args s none idx s = (a.eval args s none idx s).bind f.apply := by
  simp only [Term.eval]; rfl
theorem own_op2 {args : Array Value} {s : State} {f : Binary} {a b : Term} {idx : List Nat} : (Term.op2 f a b).eval args s none idx s = (a.eval args s none idx s).bind fun x => (b.eval args s none idx s).bind fun y => f.apply x y := by
  simp only [Term.eval]; rfl
theorem own_or {args : Array Value} {s : State} {a b : Cond} {idx : List Nat} (q : a.value args s none s idx = some false) (h : (Cond.or a b).value args s none s idx = some true) : b.value args s none s idx = some true := by
  simpa only [Cond.value, q] using h
theorem own_hexEl {args : Array Value} {s : State} {t : Term} {a : Addr} {cl : Cell} {ty : FieldType} {K : Int64} (ev : ∀ idx, t.eval args s none idx s = some (.ref a)) (A : Arr s s.heap a cl ty) (j : Int32) (hj : ¬ j < 0)
    (h : (Cond.eq (.op1 .i2l (.elem t (.index 0))) (.op2 .ladd (.op1 .i2l (.index 0)) (.long K))).value args s none s [j.toNatClampNeg] = some true) : cl.slots[j.toNatClampNeg]? = some (.int (j.toInt64 + K).toInt32) := by
  have ia : (Term.index 0).eval args s none [j.toNatClampNeg] s = some (.int j) := idx_at hj
  have e1 : (Term.elem t (.index 0)).eval args s none [j.toNatClampNeg] s = cl.slots[j.toNatClampNeg]? := elem_f (ev _) ia (A.fin (Vm.Alike.refl _)) hj
  have q1 : (Term.op1 .i2l (.elem t (.index 0))).eval args s none [j.toNatClampNeg] s = (cl.slots[j.toNatClampNeg]?).bind (Unary.apply .i2l) := by
    rw [own_op1, e1]
  have q3 : (Term.op1 .i2l (.index 0)).eval args s none [j.toNatClampNeg] s = some (.long j.toInt64) := by
    rw [own_op1, ia]; rfl
  have q2 : (Term.op2 .ladd (.op1 .i2l (.index 0)) (.long K)).eval args s none [j.toNatClampNeg] s = some (.long (j.toInt64 + K)) := by
    rw [own_op2, q3]
    simp only [Term.eval]; rfl
  simp only [Cond.value, q1, q2] at h
  cases hv : cl.slots[j.toNatClampNeg]? with
  | none => simp [hv] at h
  | some v =>
    cases v with
    | int x =>
      simp [hv, Unary.apply] at h
      rw [← h]; simp
    | _ => simp [hv, Unary.apply] at h
theorem own_hexOr1 {args : Array Value} {s : State} {c : Cond} {j : Int32} (hj : ¬ j < 0) (hl : ¬ (10 : Int32) ≤ j) (h : (Cond.or (.le (.int 10) (.index 0)) c).value args s none s [j.toNatClampNeg] = some true) : c.value args s none s [j.toNatClampNeg] = some true := by
  have ia : (Term.index 0).eval args s none [j.toNatClampNeg] s = some (.int j) := idx_at hj
  have q : (Cond.le (.int 10) (.index 0)).value args s none s [j.toNatClampNeg] = some false := by
    simp only [Cond.value, ia, Term.int_eval]
    simp [hl]
  exact own_or q h
theorem own_hexOr2 {args : Array Value} {s : State} {c : Cond} {j : Int32} (hj : ¬ j < 0) (hl : ¬ j < (10 : Int32)) (h : (Cond.or (.lt (.index 0) (.int 10)) c).value args s none s [j.toNatClampNeg] = some true) : c.value args s none s [j.toNatClampNeg] = some true := by
  have ia : (Term.index 0).eval args s none [j.toNatClampNeg] s = some (.int j) := idx_at hj
  have q : (Cond.lt (.index 0) (.int 10)).value args s none s [j.toNatClampNeg] = some false := by
    simp only [Cond.value, ia, Term.int_eval]
    simp [hl]
  exact own_or q h
theorem own_16 {d : Int32} (h0 : 0 ≤ d.toInt) (h1 : d.toInt < 16) : d ∈ ([0, 1, 2, 3, 4, 5, 6, 7, 8, 9, 10, 11, 12, 13, 14, 15] : List Int32) := by
  have h : ∀ k : Int, d.toInt = k → d = Int32.ofInt k := fun k e => by rw [← e]; simp
  have hk : d.toInt = 0 ∨ d.toInt = 1 ∨ d.toInt = 2 ∨ d.toInt = 3 ∨ d.toInt = 4 ∨ d.toInt = 5 ∨ d.toInt = 6 ∨ d.toInt = 7 ∨ d.toInt = 8 ∨ d.toInt = 9 ∨ d.toInt = 10 ∨ d.toInt = 11 ∨ d.toInt = 12 ∨ d.toInt = 13 ∨ d.toInt = 14 ∨ d.toInt = 15 := by omega
  rcases hk with e | e | e | e | e | e | e | e | e | e | e | e | e | e | e | e <;> (rw [h _ e]; decide)
theorem own_hexStart {args : Array Value} {s : State} {t : Term} {a : Addr} {cl : Cell} (hf : Fit s) (ev : ∀ idx, t.eval args s none idx s = some (.ref a)) (A : Arr s s.heap a cl .char) (hq1 : cl.slots.size < 2 ^ 31) (hq2 : cl.slots.size.toInt32 = 16)
    (h1 : (Cond.all t (.or (.le (.int 10) (.index 0)) (.eq (.op1 .i2l (.elem t (.index 0))) (.op2 .ladd (.op1 .i2l (.index 0)) (.long 48))))).value args s none s [] = some true)
    (h2 : (Cond.all t (.or (.lt (.index 0) (.int 10)) (.eq (.op1 .i2l (.elem t (.index 0))) (.op2 .ladd (.op1 .i2l (.index 0)) (.long 55))))).value args s none s [] = some true) :
    Arv s s.heap a cl.cls .char (16 : Int32) cl.slots.toList (.int 0) ∧ ∀ d : Int32, 0 ≤ d.toInt → d.toInt < 16 → cl.slots.toList.getD d.toNatClampNeg (.int 0) = .int (own_hx d) := by
  have S : cl.slots.size = 16 := by
    have e := congrArg Int32.toInt hq2
    rw [len_toInt hq1] at e
    have : (16 : Int32).toInt = 16 := by decide
    omega
  have hA := A.fin (Vm.Alike.refl _)
  have a1 := Cond.all_elim (ev []) hA h1
  have a2 := Cond.all_elim (ev []) hA h2
  have key : ∀ d : Int32, 0 ≤ d.toInt → d.toInt < 16 → cl.slots[d.toNatClampNeg]? = some (.int (own_hx d)) := fun d q0 q1 => by
    have hm := own_16 q0 q1
    have hj : ¬ d < 0 := (by decide : ∀ q ∈ ([0, 1, 2, 3, 4, 5, 6, 7, 8, 9, 10, 11, 12, 13, 14, 15] : List Int32), ¬ q < 0) d hm
    have hlt : d.toNatClampNeg < cl.slots.size := by
      rw [S]; exact (by decide : ∀ q ∈ ([0, 1, 2, 3, 4, 5, 6, 7, 8, 9, 10, 11, 12, 13, 14, 15] : List Int32), q.toNatClampNeg < 16) d hm
    by_cases h10 : d < 10
    · have r := own_hexEl ev A d hj (own_hexOr1 hj ((by decide : ∀ q ∈ ([0, 1, 2, 3, 4, 5, 6, 7, 8, 9, 10, 11, 12, 13, 14, 15] : List Int32), q < 10 → ¬ (10 : Int32) ≤ q) d hm h10) (a1 _ hlt))
      rw [r, (by decide : ∀ q ∈ ([0, 1, 2, 3, 4, 5, 6, 7, 8, 9, 10, 11, 12, 13, 14, 15] : List Int32), q < 10 → (q.toInt64 + 48).toInt32 = own_hx q) d hm h10]
    · have r := own_hexEl ev A d hj (own_hexOr2 hj h10 (a2 _ hlt))
      rw [r, (by decide : ∀ q ∈ ([0, 1, 2, 3, 4, 5, 6, 7, 8, 9, 10, 11, 12, 13, 14, 15] : List Int32), ¬ q < 10 → (q.toInt64 + 55).toInt32 = own_hx q) d hm h10]
  have hs : ∀ i, i < cl.slots.size → cl.slots[i]? = some (cl.slots.toList.getD i (.int 0)) := fun i hi => by
    simp [hi]
  refine ⟨⟨cl, A, rfl, by rw [S]; rfl, by decide, hs, fun i hi => ?_⟩, fun d q0 q1 => ?_⟩
  · have e1 : (Nat.toInt32 i).toNatClampNeg = i := by simp only [Int32.toNatClampNeg, len_toInt (Nat.lt_trans hi hq1)]; rfl
    have e2 : ¬ (Nat.toInt32 i) < 0 := by
      rw [Int32.lt_iff_toInt_lt, len_toInt (Nat.lt_trans hi hq1)]
      have : (0 : Int32).toInt = 0 := by decide
      omega
    exact elem_fits (j := Nat.toInt32 i) hf A (by rw [e1]; intro q; rcases q with q | q; exact e2 q; omega) (by rw [e1]; exact hs i hi)
  · have k := key d q0 q1
    have hlt : d.toNatClampNeg < cl.slots.size := by
      rw [S]; exact (by decide : ∀ q ∈ ([0, 1, 2, 3, 4, 5, 6, 7, 8, 9, 10, 11, 12, 13, 14, 15] : List Int32), q.toNatClampNeg < 16) d (own_16 q0 q1)
    rw [hs _ hlt] at k
    exact Option.some.inj k

theorem own_notEq {args : Array Value} {first s : State} {o : Option Outcome} {t : Term} {k z : Int32} (h : (Cond.not (.eq t (.int k))).value args first o s [] = some true) (ev : t.eval args first o [] s = some (.int z)) : ¬ z = k := fun q => by
  subst q
  simp [Cond.value, ev, Term.int_eval] at h
theorem own_isRef {args : Array Value} {first s : State} {o : Option Outcome} {t : Term} (h : (Cond.isRef t).value args first o s [] = some true) : ∃ v, t.eval args first o [] s = some v ∧ v.isRef = true := by
  simp only [Cond.value] at h
  cases hv : t.eval args first o [] s with
  | none => simp [hv] at h
  | some v => cases v <;> simp [hv] at h <;> exact ⟨_, rfl, rfl⟩
set_option maxRecDepth 65536 in
set_option maxHeartbeats 40000000 in
theorem comes_1 {Post : Tables → Env → Array Value → State → Outcome → State → Prop} (hpost : ∀ tb e args s v u, (limb_1_1.after args s (.returned v) u = true ∧ limb_1_2.after args s (.returned v) u = true ∧ True) → FrameEnd s (.returned v) u (Jvm.fieldLocs frame_1_writes args s ++ Jvm.arrayLocs frame_1_arrays args s ++ Jvm.staticLocs frame_1_statics s) 24 192 → Post tb e args s (.returned v) u) :
    ArmFor flags0 classFile x code maxLocals ret World_1 tables_1 room_1 Calls_1 rest_1 Pre_1 Post := by
  intro l hfl _ _ p e ha hc hk s m args below hf hA hF happ hP
  obtain ⟨hcalls, hrest, hpre⟩ := hP
  obtain ⟨-, -, -, hnamed, -, -, -, hat⟩ := (Spec.applies_iff hf).mp happ
  obtain ⟨hg, hn⟩ := and_e (Cond.before_iff.mp (show (Jvm.Cond.and given_1 narrow_1).before args s = true from hpre))
  obtain ⟨hcount, hg1⟩ := and_e hg
  obtain ⟨hv0, hg2⟩ := and_e hg1
  obtain ⟨hv1, hg3⟩ := and_e hg2
  obtain ⟨hv2, hg4⟩ := and_e hg3
  obtain ⟨w0, w1, w2, w3, rfl⟩ : ∃ w0 w1 w2 w3 : Value, args = #[w0, w1, w2, w3] := by
    have hs : args.size = 4 := by simpa [Cond.value, given_1] using hcount
    obtain ⟨L⟩ := args
    match L, hs with
    | [w0, w1, w2, w3], _ => exact ⟨w0, w1, w2, w3, rfl⟩
  have hw := fun d (hd : d ∈ tables_1) => atoms_spec (ws := Jvm.Cond.code x code maxLocals ret :: tables_1) hat d (List.mem_cons_of_mem _ hd)
  have hfit : Fit s := fun {y c} hc i hi => by
    obtain ⟨ha, rfl⟩ := Array.getElem?_eq_some_iff.mp hc
    have q := List.all_eq_true.mp ((Array.all_eq_true_iff_forall_mem.mp hF) _ (Array.getElem_mem ha)) i (List.mem_range.mpr hi)
    simpa [Array.getElem?_eq_getElem hi] using q
  obtain ⟨hsets, hown0⟩ := atoms_of _ (rest_1_c_eq ▸ (show rest_1_c.before _ s = true from hrest))
  have hr0 := Cond.before_iff.mp hown0
  obtain ⟨i0, ei0⟩ := is_v hv0
  obtain rfl : w0 = (.int i0) := Option.some.inj ei0
  obtain ⟨i1, ei1⟩ := is_v hv1
  obtain rfl : w1 = (.int i1) := Option.some.inj ei1
  obtain ⟨i2, ei2⟩ := is_v hv2
  obtain rfl : w2 = (.int i2) := Option.some.inj ei2
  obtain ⟨i3, ei3⟩ := is_v hg4
  obtain rfl : w3 = (.int i3) := Option.some.inj ei3
  obtain ⟨nn1, nn2⟩ := and_e hn
  obtain ⟨nn3, nn4⟩ := and_e nn2
  obtain ⟨nn5, nn6⟩ := and_e nn4
  obtain ⟨wH, evH⟩ := arr_v nn1
  obtain ⟨clH, ArH⟩ := Arr.start evH nn1
  obtain ⟨hq1, hq2⟩ := own_lenC evH ArH (own_eqI nn3)
  obtain ⟨VO_wH, hhx⟩ := own_hexStart hfit (fun idx => evH) ArH hq1 hq2 nn5 nn6
  have S_H := Sta.start evH (Or.inr ⟨(hw _ (own_w 3 rfl)), (hw _ (own_w 79 rfl))⟩)
  obtain ⟨zc, evC⟩ := is_v (Cond.before_iff.mp (hsets _ (List.mem_of_getElem? (i := 1) rfl)))
  have S_C := Sta.start evC (Or.inl (hsets _ (List.mem_of_getElem? (i := 0) rfl)))
  have hzc : ¬ zc = 0 := own_notEq (Cond.before_iff.mp (hsets _ (List.mem_of_getElem? (i := 2) rfl))) evC
  obtain ⟨vS, evS, hvS⟩ := own_isRef (Cond.before_iff.mp (hsets _ (List.mem_of_getElem? (i := 8) rfl)))
  have S_S := Sta.start evS (Or.inl (hsets _ (List.mem_of_getElem? (i := 7) rfl)))
  obtain ⟨n, o, h1, h2, h3, _, L, rfl, ⟨rfl, N, -⟩, hq⟩ := own_law l s _ hw tables_1 i0 i1 i2 i3 wH clH.cls clH.slots.toList zc vS s.heap s.heap.size (Old.start s) S_H VO_wH hhx S_C hzc S_S hvS p e ha hc hk s m _ below hf ((Spec.applies_iff_loose hf).mp happ).1 ⟨rfl, State.Warmed39.refl s, rfl⟩ trivial
  refine ⟨n, _, h1, h2, h3, hpost _ _ _ _ _ _ ⟨Cond.after_iff.mpr rfl, Cond.after_iff.mpr (eq_i res_at (Term.int_eval (1)) rfl), trivial⟩ ⟨hq.1, hq.2.1, (hq.2.2.sift fun y hy => Or.inr (N y hy)).mono (by decide) (by decide)⟩⟩
theorem main_1_1 : Claimed_1_1 := comes_1 fun _ _ _ _ _ _ h hF => ⟨h.1, hF⟩
theorem main_1_2 : Claimed_1_2 := comes_1 fun _ _ _ _ _ _ h hF => ⟨h.2.1, hF⟩
end Jvm.Pilot.@@N@@
namespace Jvm.Pilot.@@N@@
open Jvm Jvm.ClassFile Sem Op Lib Jvm.Free Jvm.Stand Jvm.Pilot.@@N@@.Jvm.D
/-! MADE BY PROGRAM (witnessworld.py) out of the Statement's table words and the real class files: 25 classes; the members and pool entries that the words name. The judged class is class 1, her method 1. -/
namespace start1
open Jvm.ClassFile
def u (s : String) : CpInfo := .utf8 (stringToUtf16 s)
/-- a pool by its gaps: so many unusable entries, then the entry; so many at the end -/
def gap : Nat → List CpInfo → List CpInfo
  | 0, r => r
  | n + 1, r => .unusable :: gap n r
def poolList (es : List (Nat × CpInfo)) (last : Nat) : List CpInfo := es.foldr (fun e r => gap e.1 (e.2 :: r)) (gap last [])
def pool (es : List (Nat × CpInfo)) (last : Nat) : Array CpInfo := ⟨poolList es last⟩
def fileOf (pool : Array CpInfo) (this : Nat) (attrs : Array Attribute := #[]) (ms : Array MethodInfo := #[]) (fl : Nat := 33) (sup : Nat := 0) (ifs : Array Nat := #[]) (fds : Array FieldInfo := #[]) : ClassFile where
  minorVersion := 0
  majorVersion := 65
  constantPool := pool
  accessFlags := fl
  thisClass := this
  superClass := sup
  interfaces := ifs
  fields := fds
  methods := ms
  attributes := attrs
def plain (name : String) (sup : Option ClassId) : Class where
  name := name
  kind := .ordinary
  loader := none
  accessFlags := 33
  super := sup
  interfaces := #[]
  cf := none
  fields := #[]
  methods := #[]
  instanceTypes := #[]
  staticTypes := #[]
  resolved := #[]
  callSites := []
  init := .initialized
  statics := none
  mirror := none

def pool0 : Array CpInfo := pool [(5, u "<init>"), (0, u "()V"), (1, .class_ 10), (1, u "java/lang/Object"), (85, u "clone"), (0, u "()Ljava/lang/Object;")] 26

def k0c0 : Code := { maxStack := 0, maxLocals := 1, code := object_method_1_code, exceptionTable := #[], attributes := #[] }
def k0m0 : Method := { name := "<init>", desc := "()V", sig := { parameters := [], returnType := none }, accessFlags := 1, code := some k0c0 }
def k0m1 : Method := { name := "clone", desc := "()Ljava/lang/Object;", sig := { parameters := [], returnType := some (.object "java/lang/Object") }, accessFlags := 260, code := none }
/-- java/lang/Object -/
def k0 : Class := { plain "java/lang/Object" none with
  accessFlags := 33
  interfaces := #[]
  cf := some (fileOf pool0 8 #[] #[{ accessFlags := 1, nameIndex := 5, descriptorIndex := 6, attributes := #[] }, { accessFlags := 260, nameIndex := 96, descriptorIndex := 97, attributes := #[] }] 33 0 #[] #[])
  fields := #[]
  methods := #[k0m0, k0m1]
  instanceTypes := #[]
  staticTypes := #[]
  resolved := Array.replicate 124 none
  statics := none }

def pool1 : Array CpInfo := pool [(2, .class_ 4), (1, u "java/lang/Object"), (0, u "<init>"), (0, u "()V"), (0, .methodref 8 9), (0, .class_ 10), (0, .nameAndType 11 12), (0, u "com/example/rows_to_regions/rowstoregions/KeyText"), (0, u "escape"), (0, u "([B)Ljava/lang/String;"), (0, .methodref 14 15), (0, .class_ 16), (0, .nameAndType 17 18), (0, u "com/example/rows_to_regions/rowstoregions/KeyTextEscapePinLaw"), (0, u "width"), (0, u "(I)I"), (0, .methodref 20 21), (0, .class_ 22), (0, .nameAndType 23 24), (0, u "java/lang/String"), (0, u "length"), (0, u "()I"), (0, .methodref 14 26), (0, .nameAndType 27 28), (0, u "matches"), (0, u "(Ljava/lang/String;II)Z"), (0, .methodref 14 30), (0, .nameAndType 31 32), (0, u "plain"), (0, u "(I)Z"), (0, .methodref 20 34), (0, .nameAndType 35 36), (0, u "charAt"), (0, u "(I)C"), (0, .methodref 14 38), (0, .nameAndType 39 36), (0, u "hex"), (2, u "law"), (0, u "(IIII)Z")] 5

def k1m0 : Method := { name := "<init>", desc := "()V", sig := { parameters := [], returnType := none }, accessFlags := 2, code := none }
def k1c1 : Code := { maxStack := 3, maxLocals := 14, code := code, exceptionTable := #[], attributes := #[] }
def k1m1 : Method := { name := "law", desc := "(IIII)Z", sig := { parameters := [.int, .int, .int, .int], returnType := some .boolean }, accessFlags := 9, code := some k1c1 }
def k1c2 : Code := { maxStack := 2, maxLocals := 1, code := method_3_code, exceptionTable := #[], attributes := #[] }
def k1m2 : Method := { name := "plain", desc := "(I)Z", sig := { parameters := [.int], returnType := some .boolean }, accessFlags := 10, code := some k1c2 }
def k1c3 : Code := { maxStack := 1, maxLocals := 1, code := method_4_code, exceptionTable := #[], attributes := #[] }
def k1m3 : Method := { name := "width", desc := "(I)I", sig := { parameters := [.int], returnType := some .int }, accessFlags := 10, code := some k1c3 }
def k1c4 : Code := { maxStack := 3, maxLocals := 1, code := method_5_code, exceptionTable := #[], attributes := #[] }
def k1m4 : Method := { name := "hex", desc := "(I)C", sig := { parameters := [.int], returnType := some .char }, accessFlags := 10, code := some k1c4 }
def k1c5 : Code := { maxStack := 3, maxLocals := 3, code := method_6_code, exceptionTable := #[], attributes := #[] }
def k1m5 : Method := { name := "matches", desc := "(Ljava/lang/String;II)Z", sig := { parameters := [(.object "java/lang/String"), .int, .int], returnType := some .boolean }, accessFlags := 10, code := some k1c5 }
/-- com/example/rows_to_regions/rowstoregions/KeyTextEscapePinLaw -/
def k1 : Class := { plain "com/example/rows_to_regions/rowstoregions/KeyTextEscapePinLaw" (some 0) with
  accessFlags := 49
  interfaces := #[]
  cf := some (fileOf pool1 14 #[] #[{ accessFlags := 2, nameIndex := 5, descriptorIndex := 6, attributes := #[] }, { accessFlags := 9, nameIndex := 42, descriptorIndex := 43, attributes := #[] }, { accessFlags := 10, nameIndex := 31, descriptorIndex := 32, attributes := #[] }, { accessFlags := 10, nameIndex := 17, descriptorIndex := 18, attributes := #[] }, { accessFlags := 10, nameIndex := 39, descriptorIndex := 36, attributes := #[] }, { accessFlags := 10, nameIndex := 27, descriptorIndex := 28, attributes := #[] }] 49 2 #[] #[])
  fields := #[]
  methods := #[k1m0, k1m1, k1m2, k1m3, k1m4, k1m5]
  instanceTypes := #[]
  staticTypes := #[]
  resolved := Array.replicate 49 none
  statics := none }

def pool2 : Array CpInfo := pool [(2, .class_ 4), (1, u "java/lang/Object"), (0, u "<init>"), (0, u "()V"), (0, .class_ 8), (0, u "java/lang/StringBuilder"), (0, .methodref 7 10), (0, .nameAndType 5 11), (0, u "(I)V"), (0, .methodref 7 13), (0, .nameAndType 14 15), (0, u "append"), (0, u "(C)Ljava/lang/StringBuilder;"), (0, .fieldref 17 18), (0, .class_ 19), (0, .nameAndType 20 21), (0, u "com/example/rows_to_regions/rowstoregions/KeyText"), (0, u "HEX_DIGITS"), (0, u "[C"), (0, .methodref 7 23), (0, .nameAndType 24 25), (0, u "toString"), (0, u "()Ljava/lang/String;"), (53, u "escape"), (0, u "([B)Ljava/lang/String;")] 23

def k2m0 : Method := { name := "<init>", desc := "()V", sig := { parameters := [], returnType := none }, accessFlags := 2, code := none }
def k2c1 : Code := { maxStack := 4, maxLocals := 7, code := prog_10_method_2_code, exceptionTable := #[], attributes := #[] }
def k2m1 : Method := { name := "escape", desc := "([B)Ljava/lang/String;", sig := { parameters := [(.array .byte)], returnType := some (.object "java/lang/String") }, accessFlags := 9, code := some k2c1 }
/-- com/example/rows_to_regions/rowstoregions/KeyText -/
def k2 : Class := { plain "com/example/rows_to_regions/rowstoregions/KeyText" (some 0) with
  accessFlags := 33
  interfaces := #[]
  cf := some (fileOf pool2 17 #[] #[{ accessFlags := 2, nameIndex := 5, descriptorIndex := 6, attributes := #[] }, { accessFlags := 9, nameIndex := 79, descriptorIndex := 80, attributes := #[] }] 33 2 #[] #[{ accessFlags := 26, nameIndex := 20, descriptorIndex := 21, attributes := #[] }])
  fields := #[{ name := "HEX_DIGITS", type := (.array .char), accessFlags := 26, slot := 0, constantValue := 0 }]
  methods := #[k2m0, k2m1]
  instanceTypes := #[]
  staticTypes := #[(.array .char)]
  resolved := Array.replicate 104 none
  statics := some 0 }

def pool3 : Array CpInfo := pool [(1, .class_ 2), (0, u "java/lang/Appendable"), (0, .class_ 4), (0, u "java/lang/Object")] 9

/-- java/lang/Appendable -/
def k3 : Class := { plain "java/lang/Appendable" (some 0) with
  accessFlags := 1537
  interfaces := #[]
  cf := some (fileOf pool3 1 #[] #[] 1537 3 #[] #[])
  fields := #[]
  methods := #[]
  instanceTypes := #[]
  staticTypes := #[]
  resolved := Array.replicate 14 none
  statics := none }

def pool4 : Array CpInfo := pool [(2, .class_ 4), (1, u "java/lang/CharSequence"), (42, .class_ 48), (0, u "java/lang/CharSequence$1CodePointIterator"), (10, .class_ 60), (0, u "java/lang/CharSequence$1CharIterator"), (5, .class_ 67), (0, u "java/lang/Object")] 63

/-- java/lang/CharSequence -/
def k4 : Class := { plain "java/lang/CharSequence" (some 0) with
  accessFlags := 1537
  interfaces := #[]
  cf := some (fileOf pool4 2 #[.nestMembers #[47, 59]] #[] 1537 66 #[] #[])
  fields := #[]
  methods := #[]
  instanceTypes := #[]
  staticTypes := #[]
  resolved := Array.replicate 131 none
  statics := none }

def pool5 : Array CpInfo := pool [(1, .class_ 2), (0, u "java/lang/String"), (0, .methodref 4 5), (0, .class_ 6), (0, .nameAndType 7 8), (0, u "java/lang/Object"), (0, u "<init>"), (0, u "()V"), (1, .class_ 12), (1, u "java/lang/AbstractStringBuilder"), (0, u "EMPTYVALUE"), (0, u "[B"), (0, .fieldref 10 16), (0, .nameAndType 17 14), (0, u "value"), (0, .fieldref 1 19), (0, .nameAndType 20 21), (0, u "COMPACT_STRINGS"), (0, u "Z"), (0, .fieldref 10 23), (0, .nameAndType 24 25), (0, u "coder"), (0, u "B"), (8, u "length"), (0, u "()I"), (3, .integer 2147483647), (5, u "append"), (2, .class_ 49), (0, u "java/lang/CharSequence"), (25, u "maybeLatin1"), (3, .fieldref 10 80), (0, .nameAndType 81 82), (0, u "count"), (0, u "I"), (0, .methodref 10 84), (0, .nameAndType 85 86), (0, u "isLatin1"), (0, u "()Z"), (1, .class_ 90), (1, u "java/lang/StringLatin1"), (9, .methodref 10 101), (0, .nameAndType 102 103), (0, u "ensureCapacityInternal"), (0, u "(I)V"), (0, .methodref 10 105), (0, .nameAndType 106 107), (0, u "newCapacity"), (0, u "(I)I"), (0, .methodref 109 110), (0, .class_ 111), (0, .nameAndType 112 113), (0, u "java/util/Arrays"), (0, u "copyOf"), (0, u "([BI)[B"), (0, .methodref 115 116), (0, .class_ 117), (0, .nameAndType 118 119), (0, u "jdk/internal/util/ArraysSupport"), (0, u "newLength"), (0, u "(III)I"), (71, .methodref 88 192), (0, .nameAndType 193 194), (0, u "canEncode"), (0, u "(C)Z"), (97, u "(C)Ljava/lang/AbstractStringBuilder;"), (110, u "()[B"), (40, .class_ 445), (0, u "java/lang/Appendable"), (106, u "getValue")] 56

def k5m0 : Method := { name := "<init>", desc := "()V", sig := { parameters := [], returnType := none }, accessFlags := 0, code := none }
def k5c1 : Code := { maxStack := 2, maxLocals := 2, code := jdk_68_method_2_code, exceptionTable := #[], attributes := #[] }
def k5m1 : Method := { name := "<init>", desc := "(I)V", sig := { parameters := [.int], returnType := none }, accessFlags := 0, code := some k5c1 }
def k5c2 : Code := { maxStack := 1, maxLocals := 1, code := jdk_68_method_6_code, exceptionTable := #[], attributes := #[] }
def k5m2 : Method := { name := "length", desc := "()I", sig := { parameters := [], returnType := some .int }, accessFlags := 1, code := some k5c2 }
def k5c3 : Code := { maxStack := 4, maxLocals := 3, code := jdk_68_method_9_code, exceptionTable := #[], attributes := #[] }
def k5m3 : Method := { name := "ensureCapacityInternal", desc := "(I)V", sig := { parameters := [.int], returnType := none }, accessFlags := 2, code := some k5c3 }
def k5c4 : Code := { maxStack := 5, maxLocals := 6, code := jdk_68_method_10_code, exceptionTable := #[], attributes := #[] }
def k5m4 : Method := { name := "newCapacity", desc := "(I)I", sig := { parameters := [.int], returnType := some .int }, accessFlags := 2, code := some k5c4 }
def k5c5 : Code := { maxStack := 5, maxLocals := 2, code := jdk_68_method_31_code, exceptionTable := #[], attributes := #[] }
def k5m5 : Method := { name := "append", desc := "(C)Ljava/lang/AbstractStringBuilder;", sig := { parameters := [.char], returnType := some (.object "java/lang/AbstractStringBuilder") }, accessFlags := 1, code := some k5c5 }
def k5c6 : Code := { maxStack := 1, maxLocals := 1, code := jdk_68_method_64_code, exceptionTable := #[], attributes := #[] }
def k5m6 : Method := { name := "getValue", desc := "()[B", sig := { parameters := [], returnType := some (.array .byte) }, accessFlags := 16, code := some k5c6 }
def k5c7 : Code := { maxStack := 1, maxLocals := 1, code := jdk_68_method_68_code, exceptionTable := #[], attributes := #[] }
def k5m7 : Method := { name := "isLatin1", desc := "()Z", sig := { parameters := [], returnType := some .boolean }, accessFlags := 16, code := some k5c7 }
/-- java/lang/AbstractStringBuilder -/
def k5 : Class := { plain "java/lang/AbstractStringBuilder" (some 0) with
  accessFlags := 1056
  interfaces := #[3, 4]
  cf := some (fileOf pool5 10 #[] #[{ accessFlags := 0, nameIndex := 7, descriptorIndex := 8, attributes := #[] }, { accessFlags := 0, nameIndex := 7, descriptorIndex := 103, attributes := #[] }, { accessFlags := 1, nameIndex := 34, descriptorIndex := 35, attributes := #[] }, { accessFlags := 2, nameIndex := 102, descriptorIndex := 103, attributes := #[] }, { accessFlags := 2, nameIndex := 106, descriptorIndex := 107, attributes := #[] }, { accessFlags := 1, nameIndex := 45, descriptorIndex := 292, attributes := #[] }, { accessFlags := 16, nameIndex := 552, descriptorIndex := 403, attributes := #[] }, { accessFlags := 16, nameIndex := 85, descriptorIndex := 86, attributes := #[] }] 1056 4 #[444, 48] #[{ accessFlags := 0, nameIndex := 17, descriptorIndex := 14, attributes := #[] }, { accessFlags := 0, nameIndex := 24, descriptorIndex := 25, attributes := #[] }, { accessFlags := 0, nameIndex := 75, descriptorIndex := 21, attributes := #[] }, { accessFlags := 0, nameIndex := 81, descriptorIndex := 82, attributes := #[] }, { accessFlags := 26, nameIndex := 13, descriptorIndex := 14, attributes := #[] }])
  fields := #[{ name := "value", type := (.array .byte), accessFlags := 0, slot := 0, constantValue := 0 }, { name := "coder", type := .byte, accessFlags := 0, slot := 1, constantValue := 0 }, { name := "maybeLatin1", type := .boolean, accessFlags := 0, slot := 2, constantValue := 0 }, { name := "count", type := .int, accessFlags := 0, slot := 3, constantValue := 0 }, { name := "EMPTYVALUE", type := (.array .byte), accessFlags := 26, slot := 0, constantValue := 0 }]
  methods := #[k5m0, k5m1, k5m2, k5m3, k5m4, k5m5, k5m6, k5m7]
  instanceTypes := #[(.array .byte), .byte, .boolean, .int]
  staticTypes := #[(.array .byte)]
  resolved := Array.replicate 609 none
  statics := none }

def pool6 : Array CpInfo := pool [(1, .class_ 2), (0, u "java/io/Serializable"), (0, .class_ 4), (0, u "java/lang/Object")] 2

/-- java/io/Serializable -/
def k6 : Class := { plain "java/io/Serializable" (some 0) with
  accessFlags := 1537
  interfaces := #[]
  cf := some (fileOf pool6 1 #[] #[] 1537 3 #[] #[])
  fields := #[]
  methods := #[]
  instanceTypes := #[]
  staticTypes := #[]
  resolved := Array.replicate 7 none
  statics := none }

def pool7 : Array CpInfo := pool [(1, .class_ 2), (0, u "java/lang/Comparable"), (0, .class_ 4), (0, u "java/lang/Object")] 7

/-- java/lang/Comparable -/
def k7 : Class := { plain "java/lang/Comparable" (some 0) with
  accessFlags := 1537
  interfaces := #[]
  cf := some (fileOf pool7 1 #[] #[] 1537 3 #[] #[])
  fields := #[]
  methods := #[]
  instanceTypes := #[]
  staticTypes := #[]
  resolved := Array.replicate 12 none
  statics := none }

def pool8 : Array CpInfo := pool [(1, .methodref 2 3), (0, .class_ 4), (0, .nameAndType 5 6), (0, u "java/lang/AbstractStringBuilder"), (0, u "<init>"), (0, u "(I)V"), (11, .class_ 20), (1, u "java/lang/String"), (3, .class_ 26), (1, u "java/lang/StringBuilder"), (0, u "append"), (22, .methodref 2 51), (0, .nameAndType 27 52), (0, u "(C)Ljava/lang/AbstractStringBuilder;"), (84, .methodref 18 138), (0, .nameAndType 5 139), (0, u "(Ljava/lang/StringBuilder;)V"), (5, u "()V"), (10, u "()I"), (129, u "(C)Ljava/lang/StringBuilder;"), (56, .methodref 2 344), (0, .nameAndType 345 156), (0, u "length"), (3, .class_ 350), (0, u "java/lang/Appendable"), (0, .class_ 352), (0, u "java/io/Serializable"), (0, .class_ 354), (0, u "java/lang/Comparable"), (0, .class_ 356), (0, u "java/lang/CharSequence"), (0, u "serialVersionUID"), (0, u "J"), (40, u "toString"), (0, u "()Ljava/lang/String;")] 21

def k8m0 : Method := { name := "<init>", desc := "()V", sig := { parameters := [], returnType := none }, accessFlags := 1, code := none }
def k8c1 : Code := { maxStack := 2, maxLocals := 2, code := jdk_67_method_2_code, exceptionTable := #[], attributes := #[] }
def k8m1 : Method := { name := "<init>", desc := "(I)V", sig := { parameters := [.int], returnType := none }, accessFlags := 1, code := some k8c1 }
def k8c2 : Code := { maxStack := 2, maxLocals := 2, code := jdk_67_method_14_code, exceptionTable := #[], attributes := #[] }
def k8m2 : Method := { name := "append", desc := "(C)Ljava/lang/StringBuilder;", sig := { parameters := [.char], returnType := some (.object "java/lang/StringBuilder") }, accessFlags := 1, code := some k8c2 }
def k8c3 : Code := { maxStack := 3, maxLocals := 1, code := jdk_67_method_42_code, exceptionTable := #[], attributes := #[] }
def k8m3 : Method := { name := "toString", desc := "()Ljava/lang/String;", sig := { parameters := [], returnType := some (.object "java/lang/String") }, accessFlags := 1, code := some k8c3 }
def k8c4 : Code := { maxStack := 1, maxLocals := 1, code := jdk_67_method_93_code, exceptionTable := #[], attributes := #[] }
def k8m4 : Method := { name := "length", desc := "()I", sig := { parameters := [], returnType := some .int }, accessFlags := 4161, code := some k8c4 }
/-- java/lang/StringBuilder -/
def k8 : Class := { plain "java/lang/StringBuilder" (some 5) with
  accessFlags := 49
  interfaces := #[3, 6, 7, 4]
  cf := some (fileOf pool8 24 #[] #[{ accessFlags := 1, nameIndex := 5, descriptorIndex := 145, attributes := #[] }, { accessFlags := 1, nameIndex := 5, descriptorIndex := 6, attributes := #[] }, { accessFlags := 1, nameIndex := 27, descriptorIndex := 286, attributes := #[] }, { accessFlags := 1, nameIndex := 399, descriptorIndex := 400, attributes := #[] }, { accessFlags := 4161, nameIndex := 345, descriptorIndex := 156, attributes := #[] }] 49 2 #[349, 351, 353, 355] #[{ accessFlags := 24, nameIndex := 357, descriptorIndex := 358, attributes := #[] }])
  fields := #[{ name := "serialVersionUID", type := .long, accessFlags := 24, slot := 0, constantValue := 0 }]
  methods := #[k8m0, k8m1, k8m2, k8m3, k8m4]
  instanceTypes := #[(.array .byte), .byte, .boolean, .int]
  staticTypes := #[.long]
  resolved := Array.replicate 422 none
  statics := none }

def pool9 : Array CpInfo := pool [(1, .class_ 2), (0, u "java/lang/constant/Constable"), (0, .class_ 4), (0, u "java/lang/Object")] 6

/-- java/lang/constant/Constable -/
def k9 : Class := { plain "java/lang/constant/Constable" (some 0) with
  accessFlags := 1537
  interfaces := #[]
  cf := some (fileOf pool9 1 #[] #[] 1537 3 #[] #[])
  fields := #[]
  methods := #[]
  instanceTypes := #[]
  staticTypes := #[]
  resolved := Array.replicate 11 none
  statics := none }

def pool10 : Array CpInfo := pool [(1, .class_ 2), (0, u "java/lang/constant/ConstantDesc"), (0, .class_ 4), (0, u "java/lang/Object")] 32

/-- java/lang/constant/ConstantDesc -/
def k10 : Class := { plain "java/lang/constant/ConstantDesc" (some 0) with
  accessFlags := 1537
  interfaces := #[]
  cf := some (fileOf pool10 1 #[] #[] 1537 3 #[] #[])
  fields := #[]
  methods := #[]
  instanceTypes := #[]
  staticTypes := #[]
  resolved := Array.replicate 37 none
  statics := none }

def pool11 : Array CpInfo := pool [(1, .methodref 2 3), (0, .class_ 4), (0, .nameAndType 5 6), (0, u "java/lang/Object"), (0, u "<init>"), (0, u "()V"), (2, .fieldref 10 11), (0, .class_ 12), (0, .nameAndType 13 14), (0, u "java/lang/String"), (0, u "value"), (0, u "[B"), (0, .fieldref 10 16), (0, .nameAndType 17 18), (0, u "coder"), (0, u "B"), (2, u "hash"), (0, u "I"), (2, u "hashIsZero"), (0, u "Z"), (11, .fieldref 10 39), (0, .nameAndType 40 26), (0, u "COMPACT_STRINGS"), (13, .methodref 55 56), (0, .class_ 57), (0, .nameAndType 58 59), (0, u "java/util/Arrays"), (0, u "copyOfRange"), (0, u "([BII)[B"), (47, .class_ 109), (1, u "java/lang/StringLatin1"), (32, u "()Z"), (191, u "()I"), (0, .methodref 10 336), (0, .nameAndType 17 337), (0, u "()B"), (2, u "()[B"), (22, u "([BI)C"), (27, u "(II)V"), (35, u "(I)C"), (61, .methodref 10 490), (0, .nameAndType 5 491), (0, u "(Ljava/lang/AbstractStringBuilder;Ljava/lang/Void;)V"), (0, .methodref 10 493), (0, .nameAndType 494 142), (0, u "isLatin1"), (0, .methodref 107 496), (0, .nameAndType 497 363), (0, u "charAt"), (3, u "checkIndex"), (4, .nameAndType 507 334), (0, u "length"), (41, .methodref 550 506), (0, .class_ 551), (0, u "java/lang/AbstractStringBuilder"), (0, .methodref 550 553), (0, .nameAndType 554 340), (0, u "getValue"), (20, .class_ 576), (0, u "java/lang/CharSequence"), (22, u "CASE_INSENSITIVE_ORDER"), (0, u "Ljava/util/Comparator;"), (446, .methodref 550 493), (5, .fieldref 1054 1055), (0, .class_ 1056), (0, .nameAndType 1057 1058), (0, u "jdk/internal/util/Preconditions"), (0, u "SIOOBE_FORMATTER"), (0, u "Ljava/util/function/BiFunction;"), (0, .methodref 1054 1060), (0, .nameAndType 501 1061), (0, u "(IILjava/util/function/BiFunction;)I"), (39, u "serialPersistentFields"), (0, u "[Ljava/io/ObjectStreamField;"), (0, .class_ 1104), (0, u "java/lang/String$CaseInsensitiveComparator"), (1, .class_ 1107), (0, u "java/io/Serializable"), (0, .class_ 1109), (0, u "java/lang/Comparable"), (0, .class_ 1111), (0, u "java/lang/constant/Constable"), (0, .class_ 1113), (0, u "java/lang/constant/ConstantDesc"), (2, u "serialVersionUID"), (0, u "J"), (3, u "REPL"), (0, u "C"), (2, u "LATIN1"), (1, u "UTF16"), (105, u "(Ljava/lang/StringBuilder;)V")] 217

def k11m0 : Method := { name := "<init>", desc := "()V", sig := { parameters := [], returnType := none }, accessFlags := 1, code := none }
def k11c1 : Code := { maxStack := 3, maxLocals := 2, code := jdk_42_method_53_code, exceptionTable := #[], attributes := #[] }
def k11m1 : Method := { name := "<init>", desc := "(Ljava/lang/StringBuilder;)V", sig := { parameters := [(.object "java/lang/StringBuilder")], returnType := none }, accessFlags := 1, code := some k11c1 }
def k11c2 : Code := { maxStack := 2, maxLocals := 1, code := jdk_42_method_54_code, exceptionTable := #[], attributes := #[] }
def k11m2 : Method := { name := "length", desc := "()I", sig := { parameters := [], returnType := some .int }, accessFlags := 1, code := some k11c2 }
def k11c3 : Code := { maxStack := 2, maxLocals := 2, code := jdk_42_method_56_code, exceptionTable := #[], attributes := #[] }
def k11m3 : Method := { name := "charAt", desc := "(I)C", sig := { parameters := [.int], returnType := some .char }, accessFlags := 1, code := some k11c3 }
def k11c4 : Code := { maxStack := 5, maxLocals := 5, code := jdk_42_method_150_code, exceptionTable := #[], attributes := #[] }
def k11m4 : Method := { name := "<init>", desc := "(Ljava/lang/AbstractStringBuilder;Ljava/lang/Void;)V", sig := { parameters := [(.object "java/lang/AbstractStringBuilder"), (.object "java/lang/Void")], returnType := none }, accessFlags := 0, code := some k11c4 }
def k11c5 : Code := { maxStack := 1, maxLocals := 1, code := jdk_42_method_152_code, exceptionTable := #[], attributes := #[] }
def k11m5 : Method := { name := "coder", desc := "()B", sig := { parameters := [], returnType := some .byte }, accessFlags := 0, code := some k11c5 }
def k11c6 : Code := { maxStack := 1, maxLocals := 1, code := jdk_42_method_154_code, exceptionTable := #[], attributes := #[] }
def k11m6 : Method := { name := "isLatin1", desc := "()Z", sig := { parameters := [], returnType := some .boolean }, accessFlags := 0, code := some k11c6 }
def k11c7 : Code := { maxStack := 3, maxLocals := 2, code := jdk_42_method_155_code, exceptionTable := #[], attributes := #[] }
def k11m7 : Method := { name := "checkIndex", desc := "(II)V", sig := { parameters := [.int, .int], returnType := none }, accessFlags := 8, code := some k11c7 }
/-- java/lang/String -/
def k11 : Class := { plain "java/lang/String" (some 0) with
  accessFlags := 49
  interfaces := #[6, 7, 4, 9, 10]
  cf := some (fileOf pool11 10 #[.nestMembers #[1103]] #[{ accessFlags := 1, nameIndex := 5, descriptorIndex := 6, attributes := #[] }, { accessFlags := 1, nameIndex := 5, descriptorIndex := 1233, attributes := #[] }, { accessFlags := 1, nameIndex := 507, descriptorIndex := 334, attributes := #[] }, { accessFlags := 1, nameIndex := 497, descriptorIndex := 427, attributes := #[] }, { accessFlags := 0, nameIndex := 5, descriptorIndex := 491, attributes := #[] }, { accessFlags := 0, nameIndex := 17, descriptorIndex := 337, attributes := #[] }, { accessFlags := 0, nameIndex := 494, descriptorIndex := 142, attributes := #[] }, { accessFlags := 8, nameIndex := 501, descriptorIndex := 391, attributes := #[] }] 49 2 #[1106, 1108, 575, 1110, 1112] #[{ accessFlags := 18, nameIndex := 13, descriptorIndex := 14, attributes := #[] }, { accessFlags := 18, nameIndex := 17, descriptorIndex := 18, attributes := #[] }, { accessFlags := 2, nameIndex := 21, descriptorIndex := 22, attributes := #[] }, { accessFlags := 2, nameIndex := 25, descriptorIndex := 26, attributes := #[] }, { accessFlags := 26, nameIndex := 1116, descriptorIndex := 1117, attributes := #[] }, { accessFlags := 24, nameIndex := 40, descriptorIndex := 26, attributes := #[] }, { accessFlags := 26, nameIndex := 1101, descriptorIndex := 1102, attributes := #[] }, { accessFlags := 26, nameIndex := 1121, descriptorIndex := 1122, attributes := #[] }, { accessFlags := 25, nameIndex := 599, descriptorIndex := 600, attributes := #[] }, { accessFlags := 24, nameIndex := 1125, descriptorIndex := 18, attributes := #[] }, { accessFlags := 24, nameIndex := 1127, descriptorIndex := 18, attributes := #[] }])
  fields := #[{ name := "value", type := (.array .byte), accessFlags := 18, slot := 0, constantValue := 0 }, { name := "coder", type := .byte, accessFlags := 18, slot := 1, constantValue := 0 }, { name := "hash", type := .int, accessFlags := 2, slot := 2, constantValue := 0 }, { name := "hashIsZero", type := .boolean, accessFlags := 2, slot := 3, constantValue := 0 }, { name := "serialVersionUID", type := .long, accessFlags := 26, slot := 0, constantValue := 0 }, { name := "COMPACT_STRINGS", type := .boolean, accessFlags := 24, slot := 1, constantValue := 0 }, { name := "serialPersistentFields", type := (.array (.object "java/io/ObjectStreamField")), accessFlags := 26, slot := 2, constantValue := 0 }, { name := "REPL", type := .char, accessFlags := 26, slot := 3, constantValue := 0 }, { name := "CASE_INSENSITIVE_ORDER", type := (.object "java/util/Comparator"), accessFlags := 25, slot := 4, constantValue := 0 }, { name := "LATIN1", type := .byte, accessFlags := 24, slot := 5, constantValue := 0 }, { name := "UTF16", type := .byte, accessFlags := 24, slot := 6, constantValue := 0 }]
  methods := #[k11m0, k11m1, k11m2, k11m3, k11m4, k11m5, k11m6, k11m7]
  instanceTypes := #[(.array .byte), .byte, .int, .boolean]
  staticTypes := #[.long, .boolean, (.array (.object "java/io/ObjectStreamField")), .char, (.object "java/util/Comparator"), .byte, .byte]
  resolved := Array.replicate 1451 none
  statics := some 1 }

def pool12 : Array CpInfo := pool [(1, .class_ 2), (0, u "java/lang/String"), (1, .class_ 6), (1, u "java/lang/Object"), (0, u "<init>"), (0, u "()V"), (0, .methodref 1 10), (0, .nameAndType 11 12), (0, u "checkIndex"), (0, u "(II)V"), (1, .class_ 16), (1, u "java/lang/StringLatin1"), (36, u "([BI)C"), (36, u "canEncode"), (14, u "(C)Z"), (15, u "$assertionsDisabled"), (0, u "Z"), (98, .class_ 223), (1, u "java/lang/StringLatin1$LinesSpliterator"), (28, u "charAt"), (137, .class_ 391), (0, u "java/lang/StringLatin1$CharsSpliterator")] 3

def k12m0 : Method := { name := "<init>", desc := "()V", sig := { parameters := [], returnType := none }, accessFlags := 0, code := none }
def k12c1 : Code := { maxStack := 2, maxLocals := 2, code := jdk_43_method_2_code, exceptionTable := #[], attributes := #[] }
def k12m1 : Method := { name := "charAt", desc := "([BI)C", sig := { parameters := [(.array .byte), .int], returnType := some .char }, accessFlags := 9, code := some k12c1 }
def k12c2 : Code := { maxStack := 2, maxLocals := 1, code := jdk_43_method_3_code, exceptionTable := #[], attributes := #[] }
def k12m2 : Method := { name := "canEncode", desc := "(C)Z", sig := { parameters := [.char], returnType := some .boolean }, accessFlags := 9, code := some k12c2 }
/-- java/lang/StringLatin1 -/
def k12 : Class := { plain "java/lang/StringLatin1" (some 0) with
  accessFlags := 48
  interfaces := #[]
  cf := some (fileOf pool12 14 #[.nestMembers #[390, 221]] #[{ accessFlags := 0, nameIndex := 7, descriptorIndex := 8, attributes := #[] }, { accessFlags := 9, nameIndex := 252, descriptorIndex := 53, attributes := #[] }, { accessFlags := 9, nameIndex := 90, descriptorIndex := 105, attributes := #[] }] 48 4 #[] #[{ accessFlags := 4120, nameIndex := 121, descriptorIndex := 122, attributes := #[] }])
  fields := #[{ name := "$assertionsDisabled", type := .boolean, accessFlags := 4120, slot := 0, constantValue := 0 }]
  methods := #[k12m0, k12m1, k12m2]
  instanceTypes := #[]
  staticTypes := #[.boolean]
  resolved := Array.replicate 395 none
  statics := none }

def pool13 : Array CpInfo := pool [(9, u "<init>"), (6, .class_ 18), (1, u "java/lang/Object"), (0, u "()V"), (1, .class_ 23), (1, u "jdk/internal/util/ArraysSupport"), (0, u "LOG2_ARRAY_LONG_INDEX_SCALE"), (0, u "I"), (2, u "U"), (0, u "Ljdk/internal/misc/Unsafe;"), (8, u "BIG_ENDIAN"), (0, u "Z"), (8, u "LOG2_BYTE_BIT_SIZE"), (4, u "LOG2_ARRAY_INT_INDEX_SCALE"), (54, u "JLA"), (0, u "Ljdk/internal/access/JavaLangAccess;"), (11, u "LOG2_ARRAY_BOOLEAN_INDEX_SCALE"), (9, u "LOG2_ARRAY_BYTE_INDEX_SCALE"), (5, u "LOG2_ARRAY_CHAR_INDEX_SCALE"), (5, u "LOG2_ARRAY_SHORT_INDEX_SCALE"), (18, u "LOG2_ARRAY_FLOAT_INDEX_SCALE"), (24, u "LOG2_ARRAY_DOUBLE_INDEX_SCALE"), (6, .methodref 195 196), (0, .class_ 197), (0, .nameAndType 198 199), (0, u "java/lang/Math"), (0, u "max"), (0, u "(II)I"), (0, .integer 2147483639), (76, u "T_BOOLEAN"), (2, u "T_CHAR"), (1, u "T_FLOAT"), (1, u "T_DOUBLE"), (1, u "T_BYTE"), (1, u "T_SHORT"), (1, u "T_INT"), (1, u "T_LONG"), (1, u "SOFT_MAX_ARRAY_LENGTH"), (56, u "newLength"), (0, u "(III)I")] 25

def k13m0 : Method := { name := "<init>", desc := "()V", sig := { parameters := [], returnType := none }, accessFlags := 2, code := none }
def k13c1 : Code := { maxStack := 3, maxLocals := 4, code := jdk_48_method_27_code, exceptionTable := #[], attributes := #[] }
def k13m1 : Method := { name := "newLength", desc := "(III)I", sig := { parameters := [.int, .int, .int], returnType := some .int }, accessFlags := 9, code := some k13c1 }
/-- jdk/internal/util/ArraysSupport -/
def k13 : Class := { plain "jdk/internal/util/ArraysSupport" (some 0) with
  accessFlags := 33
  interfaces := #[]
  cf := some (fileOf pool13 21 #[] #[{ accessFlags := 2, nameIndex := 9, descriptorIndex := 19, attributes := #[] }, { accessFlags := 9, nameIndex := 351, descriptorIndex := 352, attributes := #[] }] 33 16 #[] #[{ accessFlags := 24, nameIndex := 28, descriptorIndex := 29, attributes := #[] }, { accessFlags := 26, nameIndex := 38, descriptorIndex := 39, attributes := #[] }, { accessFlags := 25, nameIndex := 121, descriptorIndex := 25, attributes := #[] }, { accessFlags := 25, nameIndex := 131, descriptorIndex := 25, attributes := #[] }, { accessFlags := 25, nameIndex := 137, descriptorIndex := 25, attributes := #[] }, { accessFlags := 25, nameIndex := 143, descriptorIndex := 25, attributes := #[] }, { accessFlags := 25, nameIndex := 53, descriptorIndex := 25, attributes := #[] }, { accessFlags := 25, nameIndex := 24, descriptorIndex := 25, attributes := #[] }, { accessFlags := 25, nameIndex := 162, descriptorIndex := 25, attributes := #[] }, { accessFlags := 25, nameIndex := 187, descriptorIndex := 25, attributes := #[] }, { accessFlags := 26, nameIndex := 48, descriptorIndex := 25, attributes := #[] }, { accessFlags := 25, nameIndex := 277, descriptorIndex := 25, attributes := #[] }, { accessFlags := 25, nameIndex := 280, descriptorIndex := 25, attributes := #[] }, { accessFlags := 25, nameIndex := 282, descriptorIndex := 25, attributes := #[] }, { accessFlags := 25, nameIndex := 284, descriptorIndex := 25, attributes := #[] }, { accessFlags := 25, nameIndex := 286, descriptorIndex := 25, attributes := #[] }, { accessFlags := 25, nameIndex := 288, descriptorIndex := 25, attributes := #[] }, { accessFlags := 25, nameIndex := 290, descriptorIndex := 25, attributes := #[] }, { accessFlags := 25, nameIndex := 292, descriptorIndex := 25, attributes := #[] }, { accessFlags := 26, nameIndex := 108, descriptorIndex := 109, attributes := #[] }, { accessFlags := 25, nameIndex := 294, descriptorIndex := 25, attributes := #[] }])
  fields := #[{ name := "U", type := (.object "jdk/internal/misc/Unsafe"), accessFlags := 24, slot := 0, constantValue := 0 }, { name := "BIG_ENDIAN", type := .boolean, accessFlags := 26, slot := 1, constantValue := 0 }, { name := "LOG2_ARRAY_BOOLEAN_INDEX_SCALE", type := .int, accessFlags := 25, slot := 2, constantValue := 0 }, { name := "LOG2_ARRAY_BYTE_INDEX_SCALE", type := .int, accessFlags := 25, slot := 3, constantValue := 0 }, { name := "LOG2_ARRAY_CHAR_INDEX_SCALE", type := .int, accessFlags := 25, slot := 4, constantValue := 0 }, { name := "LOG2_ARRAY_SHORT_INDEX_SCALE", type := .int, accessFlags := 25, slot := 5, constantValue := 0 }, { name := "LOG2_ARRAY_INT_INDEX_SCALE", type := .int, accessFlags := 25, slot := 6, constantValue := 0 }, { name := "LOG2_ARRAY_LONG_INDEX_SCALE", type := .int, accessFlags := 25, slot := 7, constantValue := 0 }, { name := "LOG2_ARRAY_FLOAT_INDEX_SCALE", type := .int, accessFlags := 25, slot := 8, constantValue := 0 }, { name := "LOG2_ARRAY_DOUBLE_INDEX_SCALE", type := .int, accessFlags := 25, slot := 9, constantValue := 0 }, { name := "LOG2_BYTE_BIT_SIZE", type := .int, accessFlags := 26, slot := 10, constantValue := 0 }, { name := "T_BOOLEAN", type := .int, accessFlags := 25, slot := 11, constantValue := 0 }, { name := "T_CHAR", type := .int, accessFlags := 25, slot := 12, constantValue := 0 }, { name := "T_FLOAT", type := .int, accessFlags := 25, slot := 13, constantValue := 0 }, { name := "T_DOUBLE", type := .int, accessFlags := 25, slot := 14, constantValue := 0 }, { name := "T_BYTE", type := .int, accessFlags := 25, slot := 15, constantValue := 0 }, { name := "T_SHORT", type := .int, accessFlags := 25, slot := 16, constantValue := 0 }, { name := "T_INT", type := .int, accessFlags := 25, slot := 17, constantValue := 0 }, { name := "T_LONG", type := .int, accessFlags := 25, slot := 18, constantValue := 0 }, { name := "JLA", type := (.object "jdk/internal/access/JavaLangAccess"), accessFlags := 26, slot := 19, constantValue := 0 }, { name := "SOFT_MAX_ARRAY_LENGTH", type := .int, accessFlags := 25, slot := 20, constantValue := 0 }]
  methods := #[k13m0, k13m1]
  instanceTypes := #[]
  staticTypes := #[(.object "jdk/internal/misc/Unsafe"), .boolean, .int, .int, .int, .int, .int, .int, .int, .int, .int, .int, .int, .int, .int, .int, .int, .int, .int, (.object "jdk/internal/access/JavaLangAccess"), .int]
  resolved := Array.replicate 378 none
  statics := none }

def pool14 : Array CpInfo := pool [(1, .class_ 2), (0, u "java/lang/Math"), (1, .class_ 6), (1, u "java/lang/Object"), (0, u "<init>"), (0, u "()V"), (89, .class_ 100), (1, u "java/lang/Math$RandomNumberGeneratorHolder"), (71, u "negativeZeroFloatBits"), (0, u "J"), (2, u "negativeZeroDoubleBits"), (21, u "max"), (2, u "min"), (43, u "$assertionsDisabled"), (0, u "Z"), (88, u "(II)I"), (2, u "twoToTheDoubleScaleDown"), (0, u "D"), (4, u "twoToTheDoubleScaleUp"), (9, u "E"), (3, u "PI"), (2, u "TAU"), (2, u "DEGREES_TO_RADIANS"), (0, u "RADIANS_TO_DEGREES")] 94

def k14m0 : Method := { name := "<init>", desc := "()V", sig := { parameters := [], returnType := none }, accessFlags := 2, code := none }
def k14c1 : Code := { maxStack := 2, maxLocals := 2, code := jdk_29_method_65_code, exceptionTable := #[], attributes := #[] }
def k14m1 : Method := { name := "max", desc := "(II)I", sig := { parameters := [.int, .int], returnType := some .int }, accessFlags := 9, code := some k14c1 }
def k14c2 : Code := { maxStack := 2, maxLocals := 2, code := jdk_29_method_69_code, exceptionTable := #[], attributes := #[] }
def k14m2 : Method := { name := "min", desc := "(II)I", sig := { parameters := [.int, .int], returnType := some .int }, accessFlags := 9, code := some k14c2 }
/-- java/lang/Math -/
def k14 : Class := { plain "java/lang/Math" (some 0) with
  accessFlags := 49
  interfaces := #[]
  cf := some (fileOf pool14 1 #[.nestMembers #[98]] #[{ accessFlags := 2, nameIndex := 7, descriptorIndex := 8, attributes := #[] }, { accessFlags := 9, nameIndex := 198, descriptorIndex := 335, attributes := #[] }, { accessFlags := 9, nameIndex := 201, descriptorIndex := 335, attributes := #[] }] 49 4 #[] #[{ accessFlags := 25, nameIndex := 354, descriptorIndex := 339, attributes := #[] }, { accessFlags := 25, nameIndex := 358, descriptorIndex := 339, attributes := #[] }, { accessFlags := 25, nameIndex := 361, descriptorIndex := 339, attributes := #[] }, { accessFlags := 26, nameIndex := 364, descriptorIndex := 339, attributes := #[] }, { accessFlags := 26, nameIndex := 365, descriptorIndex := 339, attributes := #[] }, { accessFlags := 26, nameIndex := 172, descriptorIndex := 173, attributes := #[] }, { accessFlags := 26, nameIndex := 176, descriptorIndex := 173, attributes := #[] }, { accessFlags := 8, nameIndex := 344, descriptorIndex := 339, attributes := #[] }, { accessFlags := 8, nameIndex := 338, descriptorIndex := 339, attributes := #[] }, { accessFlags := 4120, nameIndex := 245, descriptorIndex := 246, attributes := #[] }])
  fields := #[{ name := "E", type := .double, accessFlags := 25, slot := 0, constantValue := 0 }, { name := "PI", type := .double, accessFlags := 25, slot := 1, constantValue := 0 }, { name := "TAU", type := .double, accessFlags := 25, slot := 2, constantValue := 0 }, { name := "DEGREES_TO_RADIANS", type := .double, accessFlags := 26, slot := 3, constantValue := 0 }, { name := "RADIANS_TO_DEGREES", type := .double, accessFlags := 26, slot := 4, constantValue := 0 }, { name := "negativeZeroFloatBits", type := .long, accessFlags := 26, slot := 5, constantValue := 0 }, { name := "negativeZeroDoubleBits", type := .long, accessFlags := 26, slot := 6, constantValue := 0 }, { name := "twoToTheDoubleScaleUp", type := .double, accessFlags := 8, slot := 7, constantValue := 0 }, { name := "twoToTheDoubleScaleDown", type := .double, accessFlags := 8, slot := 8, constantValue := 0 }, { name := "$assertionsDisabled", type := .boolean, accessFlags := 4120, slot := 9, constantValue := 0 }]
  methods := #[k14m0, k14m1, k14m2]
  instanceTypes := #[]
  staticTypes := #[.double, .double, .double, .double, .double, .long, .long, .double, .double, .boolean]
  resolved := Array.replicate 460 none
  statics := none }

def pool15 : Array CpInfo := pool [(2, .class_ 4), (1, u "java/lang/Object"), (0, u "<init>"), (0, u "()V"), (7, .class_ 16), (1, u "java/util/Arrays"), (57, .class_ 76), (1, u "java/util/Arrays$NaturalOrder"), (32, u "()Ljava/lang/Object;"), (3, .class_ 115), (1, u "java/util/Arrays$LegacyMergeSort"), (1, u "Z"), (10, .nameAndType 129 109), (0, u "clone"), (9, u "copyOfRange"), (10, .methodref 151 152), (0, .class_ 153), (0, .nameAndType 154 155), (0, u "java/lang/System"), (0, u "arraycopy"), (0, u "(Ljava/lang/Object;ILjava/lang/Object;II)V"), (146, u "copyOf"), (1, .methodref 305 306), (0, .class_ 307), (0, .nameAndType 308 309), (0, u "java/lang/Math"), (0, u "min"), (0, u "(II)I"), (0, .methodref 311 128), (0, .class_ 312), (0, u "[B"), (26, .methodref 14 340), (0, .nameAndType 341 342), (0, u "copyOfRangeByte"), (0, u "([BII)[B"), (0, .methodref 14 344), (0, .nameAndType 345 346), (0, u "checkLength"), (0, u "(II)V"), (28, .class_ 376), (0, u "java/util/Arrays$ArrayList"), (68, u "$assertionsDisabled"), (269, u "MIN_ARRAY_SORT_GRAN"), (0, u "I"), (2, u "INSERTIONSORT_THRESHOLD"), (149, u "([BI)[B"), (105, .class_ 976), (0, u "java/util/Arrays$ArrayItr")] 52

def k15m0 : Method := { name := "<init>", desc := "()V", sig := { parameters := [], returnType := none }, accessFlags := 2, code := none }
def k15c1 : Code := { maxStack := 6, maxLocals := 3, code := jdk_65_method_121_code, exceptionTable := #[], attributes := #[] }
def k15m1 : Method := { name := "copyOf", desc := "([BI)[B", sig := { parameters := [(.array .byte), .int], returnType := some (.array .byte) }, accessFlags := 9, code := some k15c1 }
def k15c2 : Code := { maxStack := 4, maxLocals := 2, code := jdk_65_method_131_code, exceptionTable := #[], attributes := #[] }
def k15m2 : Method := { name := "checkLength", desc := "(II)V", sig := { parameters := [.int, .int], returnType := none }, accessFlags := 10, code := some k15c2 }
def k15c3 : Code := { maxStack := 3, maxLocals := 3, code := jdk_65_method_132_code, exceptionTable := #[], attributes := #[] }
def k15m3 : Method := { name := "copyOfRange", desc := "([BII)[B", sig := { parameters := [(.array .byte), .int, .int], returnType := some (.array .byte) }, accessFlags := 9, code := some k15c3 }
def k15c4 : Code := { maxStack := 6, maxLocals := 5, code := jdk_65_method_133_code, exceptionTable := #[], attributes := #[] }
def k15m4 : Method := { name := "copyOfRangeByte", desc := "([BII)[B", sig := { parameters := [(.array .byte), .int, .int], returnType := some (.array .byte) }, accessFlags := 10, code := some k15c4 }
/-- java/util/Arrays -/
def k15 : Class := { plain "java/util/Arrays" (some 0) with
  accessFlags := 49
  interfaces := #[]
  cf := some (fileOf pool15 14 #[.nestMembers #[975, 375, 113, 74]] #[{ accessFlags := 2, nameIndex := 5, descriptorIndex := 6, attributes := #[] }, { accessFlags := 9, nameIndex := 302, descriptorIndex := 869, attributes := #[] }, { accessFlags := 10, nameIndex := 345, descriptorIndex := 346, attributes := #[] }, { accessFlags := 9, nameIndex := 139, descriptorIndex := 342, attributes := #[] }, { accessFlags := 10, nameIndex := 341, descriptorIndex := 342, attributes := #[] }] 49 2 #[] #[{ accessFlags := 26, nameIndex := 715, descriptorIndex := 716, attributes := #[] }, { accessFlags := 26, nameIndex := 719, descriptorIndex := 716, attributes := #[] }, { accessFlags := 4120, nameIndex := 445, descriptorIndex := 117, attributes := #[] }])
  fields := #[{ name := "MIN_ARRAY_SORT_GRAN", type := .int, accessFlags := 26, slot := 0, constantValue := 0 }, { name := "INSERTIONSORT_THRESHOLD", type := .int, accessFlags := 26, slot := 1, constantValue := 0 }, { name := "$assertionsDisabled", type := .boolean, accessFlags := 4120, slot := 2, constantValue := 0 }]
  methods := #[k15m0, k15m1, k15m2, k15m3, k15m4]
  instanceTypes := #[]
  staticTypes := #[.int, .int, .boolean]
  resolved := Array.replicate 1029 none
  statics := none }

def pool16 : Array CpInfo := pool [(2, .class_ 4), (1, u "java/lang/Object"), (0, u "<init>"), (0, u "()V"), (1, .class_ 10), (1, u "java/lang/System"), (0, u "allowSecurityManager"), (0, u "I"), (16, u "cons"), (0, u "Ljava/io/Console;"), (77, .class_ 110), (1, u "java/lang/System$CallersHolder"), (43, u "initialErrStream"), (0, u "Ljava/io/PrintStream;"), (19, u "security"), (0, u "Ljava/lang/SecurityManager;"), (31, .class_ 209), (0, u "java/lang/System$1"), (7, u "props"), (0, u "Ljava/util/Properties;"), (2, u "lineSeparator"), (0, u "Ljava/lang/String;"), (96, .class_ 321), (1, u "java/lang/System$LoggerFinder"), (5, .class_ 328), (0, u "java/lang/System$Logger"), (67, u "err"), (2, u "out"), (91, u "notSupportedJnuEncoding"), (15, u "in"), (17, u "initialIn"), (0, u "Ljava/io/InputStream;"), (35, u "bootLayer"), (0, u "Ljava/lang/ModuleLayer;"), (99, .class_ 664), (0, u "java/lang/System$2"), (9, u "NEVER"), (2, u "MAYBE"), (49, u "arraycopy"), (0, u "(Ljava/lang/Object;ILjava/lang/Object;II)V"), (72, .class_ 802), (0, u "java/lang/System$Logger$Level")] 31

def k16m0 : Method := { name := "<init>", desc := "()V", sig := { parameters := [], returnType := none }, accessFlags := 2, code := none }
def k16m1 : Method := { name := "arraycopy", desc := "(Ljava/lang/Object;ILjava/lang/Object;II)V", sig := { parameters := [(.object "java/lang/Object"), .int, (.object "java/lang/Object"), .int, .int], returnType := none }, accessFlags := 265, code := none }
/-- java/lang/System -/
def k16 : Class := { plain "java/lang/System" (some 0) with
  accessFlags := 49
  interfaces := #[]
  cf := some (fileOf pool16 8 #[.nestMembers #[319, 327, 801, 108, 663, 208]] #[{ accessFlags := 2, nameIndex := 5, descriptorIndex := 6, attributes := #[] }, { accessFlags := 265, nameIndex := 727, descriptorIndex := 728, attributes := #[] }] 49 2 #[] #[{ accessFlags := 25, nameIndex := 507, descriptorIndex := 526, attributes := #[] }, { accessFlags := 25, nameIndex := 399, descriptorIndex := 155, attributes := #[] }, { accessFlags := 25, nameIndex := 396, descriptorIndex := 155, attributes := #[] }, { accessFlags := 10, nameIndex := 525, descriptorIndex := 526, attributes := #[] }, { accessFlags := 26, nameIndex := 674, descriptorIndex := 12, attributes := #[] }, { accessFlags := 26, nameIndex := 677, descriptorIndex := 12, attributes := #[] }, { accessFlags := 10, nameIndex := 11, descriptorIndex := 12, attributes := #[] }, { accessFlags := 74, nameIndex := 175, descriptorIndex := 176, attributes := #[] }, { accessFlags := 10, nameIndex := 491, descriptorIndex := 222, attributes := #[] }, { accessFlags := 74, nameIndex := 29, descriptorIndex := 30, attributes := #[] }, { accessFlags := 74, nameIndex := 154, descriptorIndex := 155, attributes := #[] }, { accessFlags := 10, nameIndex := 217, descriptorIndex := 218, attributes := #[] }, { accessFlags := 10, nameIndex := 221, descriptorIndex := 222, attributes := #[] }, { accessFlags := 8, nameIndex := 562, descriptorIndex := 563, attributes := #[] }])
  fields := #[{ name := "in", type := (.object "java/io/InputStream"), accessFlags := 25, slot := 0, constantValue := 0 }, { name := "out", type := (.object "java/io/PrintStream"), accessFlags := 25, slot := 1, constantValue := 0 }, { name := "err", type := (.object "java/io/PrintStream"), accessFlags := 25, slot := 2, constantValue := 0 }, { name := "initialIn", type := (.object "java/io/InputStream"), accessFlags := 10, slot := 3, constantValue := 0 }, { name := "NEVER", type := .int, accessFlags := 26, slot := 4, constantValue := 0 }, { name := "MAYBE", type := .int, accessFlags := 26, slot := 5, constantValue := 0 }, { name := "allowSecurityManager", type := .int, accessFlags := 10, slot := 6, constantValue := 0 }, { name := "security", type := (.object "java/lang/SecurityManager"), accessFlags := 74, slot := 7, constantValue := 0 }, { name := "notSupportedJnuEncoding", type := (.object "java/lang/String"), accessFlags := 10, slot := 8, constantValue := 0 }, { name := "cons", type := (.object "java/io/Console"), accessFlags := 74, slot := 9, constantValue := 0 }, { name := "initialErrStream", type := (.object "java/io/PrintStream"), accessFlags := 74, slot := 10, constantValue := 0 }, { name := "props", type := (.object "java/util/Properties"), accessFlags := 10, slot := 11, constantValue := 0 }, { name := "lineSeparator", type := (.object "java/lang/String"), accessFlags := 10, slot := 12, constantValue := 0 }, { name := "bootLayer", type := (.object "java/lang/ModuleLayer"), accessFlags := 8, slot := 13, constantValue := 0 }]
  methods := #[k16m0, k16m1]
  instanceTypes := #[]
  staticTypes := #[(.object "java/io/InputStream"), (.object "java/io/PrintStream"), (.object "java/io/PrintStream"), (.object "java/io/InputStream"), .int, .int, .int, (.object "java/lang/SecurityManager"), (.object "java/lang/String"), (.object "java/io/Console"), (.object "java/io/PrintStream"), (.object "java/util/Properties"), (.object "java/lang/String"), (.object "java/lang/ModuleLayer")]
  resolved := Array.replicate 834 none
  statics := none }

def pool17 : Array CpInfo := pool [(1, .class_ 2), (0, u "java/lang/Cloneable"), (0, .class_ 4), (0, u "java/lang/Object")] 2

/-- java/lang/Cloneable -/
def k17 : Class := { plain "java/lang/Cloneable" (some 0) with
  accessFlags := 1537
  interfaces := #[]
  cf := some (fileOf pool17 1 #[] #[] 1537 3 #[] #[])
  fields := #[]
  methods := #[]
  instanceTypes := #[]
  staticTypes := #[]
  resolved := Array.replicate 7 none
  statics := none }

def pool18 : Array CpInfo := pool [(2, .class_ 4), (1, u "java/lang/Object"), (0, u "<init>"), (0, u "()V"), (17, .class_ 26), (1, u "jdk/internal/util/Preconditions"), (6, u "checkIndex"), (21, .class_ 56), (0, u "jdk/internal/util/Preconditions$4"), (57, .class_ 115), (0, u "jdk/internal/util/Preconditions$1"), (7, u "SIOOBE_FORMATTER"), (0, u "Ljava/util/function/BiFunction;"), (0, .class_ 126), (0, u "jdk/internal/util/Preconditions$2"), (3, u "AIOOBE_FORMATTER"), (0, .class_ 132), (0, u "jdk/internal/util/Preconditions$3"), (3, u "IOOBE_FORMATTER"), (41, u "(IILjava/util/function/BiFunction;)I")] 15

def k18m0 : Method := { name := "<init>", desc := "()V", sig := { parameters := [], returnType := none }, accessFlags := 1, code := none }
def k18c1 : Code := { maxStack := 3, maxLocals := 3, code := jdk_41_method_11_code, exceptionTable := #[], attributes := #[] }
def k18m1 : Method := { name := "checkIndex", desc := "(IILjava/util/function/BiFunction;)I", sig := { parameters := [.int, .int, (.object "java/util/function/BiFunction")], returnType := some .int }, accessFlags := 9, code := some k18c1 }
/-- jdk/internal/util/Preconditions -/
def k18 : Class := { plain "jdk/internal/util/Preconditions" (some 0) with
  accessFlags := 33
  interfaces := #[]
  cf := some (fileOf pool18 24 #[.nestMembers #[55, 131, 125, 114]] #[{ accessFlags := 1, nameIndex := 5, descriptorIndex := 6, attributes := #[] }, { accessFlags := 9, nameIndex := 33, descriptorIndex := 178, attributes := #[] }] 33 2 #[] #[{ accessFlags := 25, nameIndex := 123, descriptorIndex := 124, attributes := #[] }, { accessFlags := 25, nameIndex := 130, descriptorIndex := 124, attributes := #[] }, { accessFlags := 25, nameIndex := 136, descriptorIndex := 124, attributes := #[] }])
  fields := #[{ name := "SIOOBE_FORMATTER", type := (.object "java/util/function/BiFunction"), accessFlags := 25, slot := 0, constantValue := 0 }, { name := "AIOOBE_FORMATTER", type := (.object "java/util/function/BiFunction"), accessFlags := 25, slot := 1, constantValue := 0 }, { name := "IOOBE_FORMATTER", type := (.object "java/util/function/BiFunction"), accessFlags := 25, slot := 2, constantValue := 0 }]
  methods := #[k18m0, k18m1]
  instanceTypes := #[]
  staticTypes := #[(.object "java/util/function/BiFunction"), (.object "java/util/function/BiFunction"), (.object "java/util/function/BiFunction")]
  resolved := Array.replicate 194 none
  statics := some 2 }

/-- the primitive byte -/
def k19 : Class := { plain "byte" none with kind := .primitive 'B', accessFlags := 0x411 }
/-- [B -/
def k20 : Class := { plain "[B" (some 0) with kind := .array 19 .byte, interfaces := #[17, 6], accessFlags := 1041 }

/-- the primitive char -/
def k21 : Class := { plain "char" none with kind := .primitive 'C', accessFlags := 0x411 }
/-- [C -/
def k22 : Class := { plain "[C" (some 0) with kind := .array 21 .char, interfaces := #[17, 6], accessFlags := 1041 }

/-- the primitive int -/
def k23 : Class := { plain "int" none with kind := .primitive 'I', accessFlags := 0x411 }
/-- [I -/
def k24 : Class := { plain "[I" (some 0) with kind := .array 23 .int, interfaces := #[17, 6], accessFlags := 1041 }

def heap : Heap := #[{ cls := 2, slots := #[.ref 3], vm := .statics 2 },
  { cls := 11, slots := #[.long 0, .int 1, .null, .int 0, .null, .int 0, .int 0], vm := .statics 11 },
  { cls := 18, slots := #[.null, .null, .null], vm := .statics 18 },
  { cls := 22, slots := #[.int 48, .int 49, .int 50, .int 51, .int 52, .int 53, .int 54, .int 55, .int 56, .int 57, .int 65, .int 66, .int 67, .int 68, .int 69, .int 70], vm := .none }]
def classes : Array Class := #[k0, k1, k2, k3, k4, k5, k6, k7, k8, k9, k10, k11, k12, k13, k14, k15, k16, k17, k18, k19, k20, k21, k22, k23, k24]
def interned : List (Array UInt16 × Addr) := []
def slotsUsed : Nat := 27
def theMethod : MethodId := ⟨1, 1⟩
def args0 : Array Value := #[.int 97, .int 5, .int 92, .int 3]
def aboutOver (below : List Frame) : State where
  vm := { classes := classes, interned := interned.toArray }
  heap := heap
  slotsUsed := slotsUsed
  threads := #[{ frames := .invoking theMethod args0 :: below }]
def below0 : List Frame := [.native { method := ⟨0, 0⟩, args := #[] }]
def about1 : State := aboutOver below0
def p0 : Program := .bare "" "" ""
def e0 : Env := launch0.env 0 0 0
theorem w_frames : about1.frames = Frame.invoking theMethod args0 :: below0 := rfl
set_option maxRecDepth 65536 in
theorem w_args : argsFit about1.vm theMethod args0 = true := by decide +kernel
set_option maxRecDepth 65536 in
theorem w_heap : heapFits about1 = true := by decide +kernel
set_option maxRecDepth 65536 in
theorem w_runnable : about1.curStatus? = some .runnable := by decide +kernel
set_option maxRecDepth 65536 in
theorem w_alone : about1.alone = true := by decide +kernel
set_option maxRecDepth 65536 in
theorem w_named : about1.methodNamed? x = some theMethod := by decide +kernel
set_option maxRecDepth 65536 in
theorem w_hears : about1.hears theMethod below0 = true := by decide +kernel
set_option maxRecDepth 65536 in
theorem w_ripe : about1.ripe theMethod args0 below0 = true := by decide +kernel
theorem w_running : about1.status = .running := rfl
set_option maxRecDepth 65536 in
theorem w_room : about1.hasRoom e0.platform room_1 = true :=
  launch0.hasRoom_least _ room_1 (by decide +kernel) (by decide +kernel) (by decide +kernel) (by decide +kernel) (by decide +kernel) (by decide +kernel)
theorem allAtoms_all (ts : List Jvm.Cond) (a : Array Jvm.Value) (st : Jvm.State) : (allAtoms ts).before a st = ts.all (fun c => c.before a st) := by
  induction ts with
  | nil => rfl
  | cons c t ih =>
    show (Jvm.Cond.and c (allAtoms t)).before a st = _
    rw [Jvm.Cond.before_and, ih, List.all_cons]
def words1 : List Jvm.Cond := Jvm.Cond.code x code maxLocals ret :: tables_1
/-- a 'code' word, met by the world's own term for the bytes: nothing is compared byte by byte -/
theorem code_word {y : MethodName} {bytes : ByteArray} {mx : Nat} {rt : Option FieldType} {a : Array Value} {s : State} {m : MethodId} {meth : Method} {c : Code} (h1 : s.methodNamed? y = some m) (h2 : s.vm.method? m = some meth) (h3 : meth.code = some c) (h4 : c.code = bytes)
    (h5 : (c.maxLocals == mx && c.exceptionTable.isEmpty && decide (c.maxStack ≤ mostOperands) && decide (meth.sig.returnType = rt) && !meth.locks && decide (parseMethodDescriptor y.desc = some meth.sig)) = true) : (Jvm.Cond.code y bytes mx rt).before a s = true := by
  simp only [Bool.and_eq_true, beq_iff_eq, Bool.not_eq_true', decide_eq_true_eq] at h5
  obtain ⟨⟨⟨⟨⟨g1, g2⟩, g3⟩, g4⟩, g5⟩, g6⟩ := h5
  simp [Cond.before, Cond.holds, Cond.value, h1, h2, h3, h4, g1, g2, g3, g4, g5, g6]
def isCode : Jvm.Cond → Bool
  | .code _ _ _ _ => true
  | _ => false
theorem all_split {L : List Jvm.Cond} {P : Jvm.Cond → Bool} (h1 : L.all (fun c => isCode c || P c) = true) (h2 : ∀ c ∈ L.filter isCode, P c = true) : L.all P = true := by
  refine List.all_eq_true.mpr fun c hc => ?_
  have h := List.all_eq_true.mp h1 c hc
  rcases Bool.eq_false_or_eq_true (isCode c) with hi | hi
  · exact h2 c (List.mem_filter.mpr ⟨hc, hi⟩)
  · simpa [hi] using h
set_option maxRecDepth 65536 in
theorem w_c0 : (Jvm.Cond.code x code maxLocals ret).before args0 about1 = true := code_word (m := ⟨1, 1⟩) (meth := k1m1) (c := k1c1) (by decide +kernel) rfl rfl rfl (by decide +kernel)
set_option maxRecDepth 65536 in
theorem w_c1 : (Jvm.Cond.code ({ cls := "com/example/rows_to_regions/rowstoregions/KeyText", name := "escape", desc := "([B)Ljava/lang/String;" } : Jvm.MethodName) prog_10_method_2_code (7 : Nat) (Option.some (Jvm.ClassFile.FieldType.object "java/lang/String"))).before args0 about1 = true := code_word (m := ⟨2, 1⟩) (meth := k2m1) (c := k2c1) (by decide +kernel) rfl rfl rfl (by decide +kernel)
set_option maxRecDepth 65536 in
theorem w_c2 : (Jvm.Cond.code ({ cls := "java/lang/StringBuilder", name := "<init>", desc := "(I)V" } : Jvm.MethodName) jdk_67_method_2_code (2 : Nat) (Option.none : Option Jvm.ClassFile.FieldType)).before args0 about1 = true := code_word (m := ⟨8, 1⟩) (meth := k8m1) (c := k8c1) (by decide +kernel) rfl rfl rfl (by decide +kernel)
set_option maxRecDepth 65536 in
theorem w_c3 : (Jvm.Cond.code ({ cls := "java/lang/AbstractStringBuilder", name := "<init>", desc := "(I)V" } : Jvm.MethodName) jdk_68_method_2_code (2 : Nat) (Option.none : Option Jvm.ClassFile.FieldType)).before args0 about1 = true := code_word (m := ⟨5, 1⟩) (meth := k5m1) (c := k5c1) (by decide +kernel) rfl rfl rfl (by decide +kernel)
set_option maxRecDepth 65536 in
theorem w_c4 : (Jvm.Cond.code ({ cls := "java/lang/Object", name := "<init>", desc := "()V" } : Jvm.MethodName) object_method_1_code (1 : Nat) (Option.none : Option Jvm.ClassFile.FieldType)).before args0 about1 = true := code_word (m := ⟨0, 0⟩) (meth := k0m0) (c := k0c0) (by decide +kernel) rfl rfl rfl (by decide +kernel)
set_option maxRecDepth 65536 in
theorem w_c5 : (Jvm.Cond.code ({ cls := "java/lang/StringBuilder", name := "append", desc := "(C)Ljava/lang/StringBuilder;" } : Jvm.MethodName) jdk_67_method_14_code (2 : Nat) (Option.some (Jvm.ClassFile.FieldType.object "java/lang/StringBuilder"))).before args0 about1 = true := code_word (m := ⟨8, 2⟩) (meth := k8m2) (c := k8c2) (by decide +kernel) rfl rfl rfl (by decide +kernel)
set_option maxRecDepth 65536 in
theorem w_c6 : (Jvm.Cond.code ({ cls := "java/lang/AbstractStringBuilder", name := "append", desc := "(C)Ljava/lang/AbstractStringBuilder;" } : Jvm.MethodName) jdk_68_method_31_code (2 : Nat) (Option.some (Jvm.ClassFile.FieldType.object "java/lang/AbstractStringBuilder"))).before args0 about1 = true := code_word (m := ⟨5, 5⟩) (meth := k5m5) (c := k5c5) (by decide +kernel) rfl rfl rfl (by decide +kernel)
set_option maxRecDepth 65536 in
theorem w_c7 : (Jvm.Cond.code ({ cls := "java/lang/AbstractStringBuilder", name := "ensureCapacityInternal", desc := "(I)V" } : Jvm.MethodName) jdk_68_method_9_code (3 : Nat) (Option.none : Option Jvm.ClassFile.FieldType)).before args0 about1 = true := code_word (m := ⟨5, 3⟩) (meth := k5m3) (c := k5c3) (by decide +kernel) rfl rfl rfl (by decide +kernel)
set_option maxRecDepth 65536 in
theorem w_c8 : (Jvm.Cond.code ({ cls := "java/lang/AbstractStringBuilder", name := "isLatin1", desc := "()Z" } : Jvm.MethodName) jdk_68_method_68_code (1 : Nat) (Option.some Jvm.ClassFile.FieldType.boolean)).before args0 about1 = true := code_word (m := ⟨5, 7⟩) (meth := k5m7) (c := k5c7) (by decide +kernel) rfl rfl rfl (by decide +kernel)
set_option maxRecDepth 65536 in
theorem w_c9 : (Jvm.Cond.code ({ cls := "java/lang/StringLatin1", name := "canEncode", desc := "(C)Z" } : Jvm.MethodName) jdk_43_method_3_code (1 : Nat) (Option.some Jvm.ClassFile.FieldType.boolean)).before args0 about1 = true := code_word (m := ⟨12, 2⟩) (meth := k12m2) (c := k12c2) (by decide +kernel) rfl rfl rfl (by decide +kernel)
set_option maxRecDepth 65536 in
theorem w_c10 : (Jvm.Cond.code ({ cls := "java/lang/AbstractStringBuilder", name := "newCapacity", desc := "(I)I" } : Jvm.MethodName) jdk_68_method_10_code (6 : Nat) (Option.some Jvm.ClassFile.FieldType.int)).before args0 about1 = true := code_word (m := ⟨5, 4⟩) (meth := k5m4) (c := k5c4) (by decide +kernel) rfl rfl rfl (by decide +kernel)
set_option maxRecDepth 65536 in
theorem w_c11 : (Jvm.Cond.code ({ cls := "jdk/internal/util/ArraysSupport", name := "newLength", desc := "(III)I" } : Jvm.MethodName) jdk_48_method_27_code (4 : Nat) (Option.some Jvm.ClassFile.FieldType.int)).before args0 about1 = true := code_word (m := ⟨13, 1⟩) (meth := k13m1) (c := k13c1) (by decide +kernel) rfl rfl rfl (by decide +kernel)
set_option maxRecDepth 65536 in
theorem w_c12 : (Jvm.Cond.code ({ cls := "java/lang/Math", name := "max", desc := "(II)I" } : Jvm.MethodName) jdk_29_method_65_code (2 : Nat) (Option.some Jvm.ClassFile.FieldType.int)).before args0 about1 = true := code_word (m := ⟨14, 1⟩) (meth := k14m1) (c := k14c1) (by decide +kernel) rfl rfl rfl (by decide +kernel)
set_option maxRecDepth 65536 in
theorem w_c13 : (Jvm.Cond.code ({ cls := "java/util/Arrays", name := "copyOf", desc := "([BI)[B" } : Jvm.MethodName) jdk_65_method_121_code (3 : Nat) (Option.some (Jvm.ClassFile.FieldType.array Jvm.ClassFile.FieldType.byte))).before args0 about1 = true := code_word (m := ⟨15, 1⟩) (meth := k15m1) (c := k15c1) (by decide +kernel) rfl rfl rfl (by decide +kernel)
set_option maxRecDepth 65536 in
theorem w_c14 : (Jvm.Cond.code ({ cls := "java/lang/Math", name := "min", desc := "(II)I" } : Jvm.MethodName) jdk_29_method_69_code (2 : Nat) (Option.some Jvm.ClassFile.FieldType.int)).before args0 about1 = true := code_word (m := ⟨14, 2⟩) (meth := k14m2) (c := k14c2) (by decide +kernel) rfl rfl rfl (by decide +kernel)
set_option maxRecDepth 65536 in
theorem w_c15 : (Jvm.Cond.code ({ cls := "java/lang/StringBuilder", name := "toString", desc := "()Ljava/lang/String;" } : Jvm.MethodName) jdk_67_method_42_code (1 : Nat) (Option.some (Jvm.ClassFile.FieldType.object "java/lang/String"))).before args0 about1 = true := code_word (m := ⟨8, 3⟩) (meth := k8m3) (c := k8c3) (by decide +kernel) rfl rfl rfl (by decide +kernel)
set_option maxRecDepth 65536 in
theorem w_c16 : (Jvm.Cond.code ({ cls := "java/lang/String", name := "<init>", desc := "(Ljava/lang/StringBuilder;)V" } : Jvm.MethodName) jdk_42_method_53_code (2 : Nat) (Option.none : Option Jvm.ClassFile.FieldType)).before args0 about1 = true := code_word (m := ⟨11, 1⟩) (meth := k11m1) (c := k11c1) (by decide +kernel) rfl rfl rfl (by decide +kernel)
set_option maxRecDepth 65536 in
theorem w_c17 : (Jvm.Cond.code ({ cls := "java/lang/String", name := "<init>", desc := "(Ljava/lang/AbstractStringBuilder;Ljava/lang/Void;)V" } : Jvm.MethodName) jdk_42_method_150_code (5 : Nat) (Option.none : Option Jvm.ClassFile.FieldType)).before args0 about1 = true := code_word (m := ⟨11, 4⟩) (meth := k11m4) (c := k11c4) (by decide +kernel) rfl rfl rfl (by decide +kernel)
set_option maxRecDepth 65536 in
theorem w_c18 : (Jvm.Cond.code ({ cls := "java/lang/AbstractStringBuilder", name := "getValue", desc := "()[B" } : Jvm.MethodName) jdk_68_method_64_code (1 : Nat) (Option.some (Jvm.ClassFile.FieldType.array Jvm.ClassFile.FieldType.byte))).before args0 about1 = true := code_word (m := ⟨5, 6⟩) (meth := k5m6) (c := k5c6) (by decide +kernel) rfl rfl rfl (by decide +kernel)
set_option maxRecDepth 65536 in
theorem w_c19 : (Jvm.Cond.code ({ cls := "java/lang/StringBuilder", name := "length", desc := "()I" } : Jvm.MethodName) jdk_67_method_93_code (1 : Nat) (Option.some Jvm.ClassFile.FieldType.int)).before args0 about1 = true := code_word (m := ⟨8, 4⟩) (meth := k8m4) (c := k8c4) (by decide +kernel) rfl rfl rfl (by decide +kernel)
set_option maxRecDepth 65536 in
theorem w_c20 : (Jvm.Cond.code ({ cls := "java/lang/AbstractStringBuilder", name := "length", desc := "()I" } : Jvm.MethodName) jdk_68_method_6_code (1 : Nat) (Option.some Jvm.ClassFile.FieldType.int)).before args0 about1 = true := code_word (m := ⟨5, 2⟩) (meth := k5m2) (c := k5c2) (by decide +kernel) rfl rfl rfl (by decide +kernel)
set_option maxRecDepth 65536 in
theorem w_c21 : (Jvm.Cond.code ({ cls := "java/util/Arrays", name := "copyOfRange", desc := "([BII)[B" } : Jvm.MethodName) jdk_65_method_132_code (3 : Nat) (Option.some (Jvm.ClassFile.FieldType.array Jvm.ClassFile.FieldType.byte))).before args0 about1 = true := code_word (m := ⟨15, 3⟩) (meth := k15m3) (c := k15c3) (by decide +kernel) rfl rfl rfl (by decide +kernel)
set_option maxRecDepth 65536 in
theorem w_c22 : (Jvm.Cond.code ({ cls := "com/example/rows_to_regions/rowstoregions/KeyTextEscapePinLaw", name := "width", desc := "(I)I" } : Jvm.MethodName) method_4_code (1 : Nat) (Option.some Jvm.ClassFile.FieldType.int)).before args0 about1 = true := code_word (m := ⟨1, 3⟩) (meth := k1m3) (c := k1c3) (by decide +kernel) rfl rfl rfl (by decide +kernel)
set_option maxRecDepth 65536 in
theorem w_c23 : (Jvm.Cond.code ({ cls := "com/example/rows_to_regions/rowstoregions/KeyTextEscapePinLaw", name := "plain", desc := "(I)Z" } : Jvm.MethodName) method_3_code (1 : Nat) (Option.some Jvm.ClassFile.FieldType.boolean)).before args0 about1 = true := code_word (m := ⟨1, 2⟩) (meth := k1m2) (c := k1c2) (by decide +kernel) rfl rfl rfl (by decide +kernel)
set_option maxRecDepth 65536 in
theorem w_c24 : (Jvm.Cond.code ({ cls := "java/lang/String", name := "length", desc := "()I" } : Jvm.MethodName) jdk_42_method_54_code (1 : Nat) (Option.some Jvm.ClassFile.FieldType.int)).before args0 about1 = true := code_word (m := ⟨11, 2⟩) (meth := k11m2) (c := k11c2) (by decide +kernel) rfl rfl rfl (by decide +kernel)
set_option maxRecDepth 65536 in
theorem w_c25 : (Jvm.Cond.code ({ cls := "java/lang/String", name := "coder", desc := "()B" } : Jvm.MethodName) jdk_42_method_152_code (1 : Nat) (Option.some Jvm.ClassFile.FieldType.byte)).before args0 about1 = true := code_word (m := ⟨11, 5⟩) (meth := k11m5) (c := k11c5) (by decide +kernel) rfl rfl rfl (by decide +kernel)
set_option maxRecDepth 65536 in
theorem w_c26 : (Jvm.Cond.code ({ cls := "com/example/rows_to_regions/rowstoregions/KeyTextEscapePinLaw", name := "matches", desc := "(Ljava/lang/String;II)Z" } : Jvm.MethodName) method_6_code (3 : Nat) (Option.some Jvm.ClassFile.FieldType.boolean)).before args0 about1 = true := code_word (m := ⟨1, 5⟩) (meth := k1m5) (c := k1c5) (by decide +kernel) rfl rfl rfl (by decide +kernel)
set_option maxRecDepth 65536 in
theorem w_c27 : (Jvm.Cond.code ({ cls := "java/lang/String", name := "charAt", desc := "(I)C" } : Jvm.MethodName) jdk_42_method_56_code (2 : Nat) (Option.some Jvm.ClassFile.FieldType.char)).before args0 about1 = true := code_word (m := ⟨11, 3⟩) (meth := k11m3) (c := k11c3) (by decide +kernel) rfl rfl rfl (by decide +kernel)
set_option maxRecDepth 65536 in
theorem w_c28 : (Jvm.Cond.code ({ cls := "java/lang/String", name := "isLatin1", desc := "()Z" } : Jvm.MethodName) jdk_42_method_154_code (1 : Nat) (Option.some Jvm.ClassFile.FieldType.boolean)).before args0 about1 = true := code_word (m := ⟨11, 6⟩) (meth := k11m6) (c := k11c6) (by decide +kernel) rfl rfl rfl (by decide +kernel)
set_option maxRecDepth 65536 in
theorem w_c29 : (Jvm.Cond.code ({ cls := "java/lang/StringLatin1", name := "charAt", desc := "([BI)C" } : Jvm.MethodName) jdk_43_method_2_code (2 : Nat) (Option.some Jvm.ClassFile.FieldType.char)).before args0 about1 = true := code_word (m := ⟨12, 1⟩) (meth := k12m1) (c := k12c1) (by decide +kernel) rfl rfl rfl (by decide +kernel)
set_option maxRecDepth 65536 in
theorem w_c30 : (Jvm.Cond.code ({ cls := "java/lang/String", name := "checkIndex", desc := "(II)V" } : Jvm.MethodName) jdk_42_method_155_code (2 : Nat) (Option.none : Option Jvm.ClassFile.FieldType)).before args0 about1 = true := code_word (m := ⟨11, 7⟩) (meth := k11m7) (c := k11c7) (by decide +kernel) rfl rfl rfl (by decide +kernel)
set_option maxRecDepth 65536 in
theorem w_c31 : (Jvm.Cond.code ({ cls := "jdk/internal/util/Preconditions", name := "checkIndex", desc := "(IILjava/util/function/BiFunction;)I" } : Jvm.MethodName) jdk_41_method_11_code (3 : Nat) (Option.some Jvm.ClassFile.FieldType.int)).before args0 about1 = true := code_word (m := ⟨18, 1⟩) (meth := k18m1) (c := k18c1) (by decide +kernel) rfl rfl rfl (by decide +kernel)
set_option maxRecDepth 65536 in
theorem w_c32 : (Jvm.Cond.code ({ cls := "com/example/rows_to_regions/rowstoregions/KeyTextEscapePinLaw", name := "hex", desc := "(I)C" } : Jvm.MethodName) method_5_code (1 : Nat) (Option.some Jvm.ClassFile.FieldType.char)).before args0 about1 = true := code_word (m := ⟨1, 4⟩) (meth := k1m4) (c := k1c4) (by decide +kernel) rfl rfl rfl (by decide +kernel)
set_option maxRecDepth 65536 in
theorem w_c33 : (Jvm.Cond.code ({ cls := "java/util/Arrays", name := "copyOfRangeByte", desc := "([BII)[B" } : Jvm.MethodName) jdk_65_method_133_code (5 : Nat) (Option.some (Jvm.ClassFile.FieldType.array Jvm.ClassFile.FieldType.byte))).before args0 about1 = true := code_word (m := ⟨15, 4⟩) (meth := k15m4) (c := k15c4) (by decide +kernel) rfl rfl rfl (by decide +kernel)
set_option maxRecDepth 65536 in
theorem w_c34 : (Jvm.Cond.code ({ cls := "java/util/Arrays", name := "checkLength", desc := "(II)V" } : Jvm.MethodName) jdk_65_method_131_code (2 : Nat) (Option.none : Option Jvm.ClassFile.FieldType)).before args0 about1 = true := code_word (m := ⟨15, 2⟩) (meth := k15m2) (c := k15c2) (by decide +kernel) rfl rfl rfl (by decide +kernel)
def codes1 : List Jvm.Cond := [Jvm.Cond.code x code maxLocals ret, Jvm.Cond.code ({ cls := "com/example/rows_to_regions/rowstoregions/KeyText", name := "escape", desc := "([B)Ljava/lang/String;" } : Jvm.MethodName) prog_10_method_2_code (7 : Nat) (Option.some (Jvm.ClassFile.FieldType.object "java/lang/String")), Jvm.Cond.code ({ cls := "java/lang/StringBuilder", name := "<init>", desc := "(I)V" } : Jvm.MethodName) jdk_67_method_2_code (2 : Nat) (Option.none : Option Jvm.ClassFile.FieldType), Jvm.Cond.code ({ cls := "java/lang/AbstractStringBuilder", name := "<init>", desc := "(I)V" } : Jvm.MethodName) jdk_68_method_2_code (2 : Nat) (Option.none : Option Jvm.ClassFile.FieldType), Jvm.Cond.code ({ cls := "java/lang/Object", name := "<init>", desc := "()V" } : Jvm.MethodName) object_method_1_code (1 : Nat) (Option.none : Option Jvm.ClassFile.FieldType), Jvm.Cond.code ({ cls := "java/lang/StringBuilder", name := "append", desc := "(C)Ljava/lang/StringBuilder;" } : Jvm.MethodName) jdk_67_method_14_code (2 : Nat) (Option.some (Jvm.ClassFile.FieldType.object "java/lang/StringBuilder")), Jvm.Cond.code ({ cls := "java/lang/AbstractStringBuilder", name := "append", desc := "(C)Ljava/lang/AbstractStringBuilder;" } : Jvm.MethodName) jdk_68_method_31_code (2 : Nat) (Option.some (Jvm.ClassFile.FieldType.object "java/lang/AbstractStringBuilder")), Jvm.Cond.code ({ cls := "java/lang/AbstractStringBuilder", name := "ensureCapacityInternal", desc := "(I)V" } : Jvm.MethodName) jdk_68_method_9_code (3 : Nat) (Option.none : Option Jvm.ClassFile.FieldType), Jvm.Cond.code ({ cls := "java/lang/AbstractStringBuilder", name := "isLatin1", desc := "()Z" } : Jvm.MethodName) jdk_68_method_68_code (1 : Nat) (Option.some Jvm.ClassFile.FieldType.boolean), Jvm.Cond.code ({ cls := "java/lang/StringLatin1", name := "canEncode", desc := "(C)Z" } : Jvm.MethodName) jdk_43_method_3_code (1 : Nat) (Option.some Jvm.ClassFile.FieldType.boolean), Jvm.Cond.code ({ cls := "java/lang/AbstractStringBuilder", name := "newCapacity", desc := "(I)I" } : Jvm.MethodName) jdk_68_method_10_code (6 : Nat) (Option.some Jvm.ClassFile.FieldType.int), Jvm.Cond.code ({ cls := "jdk/internal/util/ArraysSupport", name := "newLength", desc := "(III)I" } : Jvm.MethodName) jdk_48_method_27_code (4 : Nat) (Option.some Jvm.ClassFile.FieldType.int), Jvm.Cond.code ({ cls := "java/lang/Math", name := "max", desc := "(II)I" } : Jvm.MethodName) jdk_29_method_65_code (2 : Nat) (Option.some Jvm.ClassFile.FieldType.int), Jvm.Cond.code ({ cls := "java/util/Arrays", name := "copyOf", desc := "([BI)[B" } : Jvm.MethodName) jdk_65_method_121_code (3 : Nat) (Option.some (Jvm.ClassFile.FieldType.array Jvm.ClassFile.FieldType.byte)), Jvm.Cond.code ({ cls := "java/lang/Math", name := "min", desc := "(II)I" } : Jvm.MethodName) jdk_29_method_69_code (2 : Nat) (Option.some Jvm.ClassFile.FieldType.int), Jvm.Cond.code ({ cls := "java/lang/StringBuilder", name := "toString", desc := "()Ljava/lang/String;" } : Jvm.MethodName) jdk_67_method_42_code (1 : Nat) (Option.some (Jvm.ClassFile.FieldType.object "java/lang/String")), Jvm.Cond.code ({ cls := "java/lang/String", name := "<init>", desc := "(Ljava/lang/StringBuilder;)V" } : Jvm.MethodName) jdk_42_method_53_code (2 : Nat) (Option.none : Option Jvm.ClassFile.FieldType), Jvm.Cond.code ({ cls := "java/lang/String", name := "<init>", desc := "(Ljava/lang/AbstractStringBuilder;Ljava/lang/Void;)V" } : Jvm.MethodName) jdk_42_method_150_code (5 : Nat) (Option.none : Option Jvm.ClassFile.FieldType), Jvm.Cond.code ({ cls := "java/lang/AbstractStringBuilder", name := "getValue", desc := "()[B" } : Jvm.MethodName) jdk_68_method_64_code (1 : Nat) (Option.some (Jvm.ClassFile.FieldType.array Jvm.ClassFile.FieldType.byte)), Jvm.Cond.code ({ cls := "java/lang/StringBuilder", name := "length", desc := "()I" } : Jvm.MethodName) jdk_67_method_93_code (1 : Nat) (Option.some Jvm.ClassFile.FieldType.int), Jvm.Cond.code ({ cls := "java/lang/AbstractStringBuilder", name := "length", desc := "()I" } : Jvm.MethodName) jdk_68_method_6_code (1 : Nat) (Option.some Jvm.ClassFile.FieldType.int), Jvm.Cond.code ({ cls := "java/util/Arrays", name := "copyOfRange", desc := "([BII)[B" } : Jvm.MethodName) jdk_65_method_132_code (3 : Nat) (Option.some (Jvm.ClassFile.FieldType.array Jvm.ClassFile.FieldType.byte)), Jvm.Cond.code ({ cls := "com/example/rows_to_regions/rowstoregions/KeyTextEscapePinLaw", name := "width", desc := "(I)I" } : Jvm.MethodName) method_4_code (1 : Nat) (Option.some Jvm.ClassFile.FieldType.int), Jvm.Cond.code ({ cls := "com/example/rows_to_regions/rowstoregions/KeyTextEscapePinLaw", name := "plain", desc := "(I)Z" } : Jvm.MethodName) method_3_code (1 : Nat) (Option.some Jvm.ClassFile.FieldType.boolean), Jvm.Cond.code ({ cls := "java/lang/String", name := "length", desc := "()I" } : Jvm.MethodName) jdk_42_method_54_code (1 : Nat) (Option.some Jvm.ClassFile.FieldType.int), Jvm.Cond.code ({ cls := "java/lang/String", name := "coder", desc := "()B" } : Jvm.MethodName) jdk_42_method_152_code (1 : Nat) (Option.some Jvm.ClassFile.FieldType.byte), Jvm.Cond.code ({ cls := "com/example/rows_to_regions/rowstoregions/KeyTextEscapePinLaw", name := "matches", desc := "(Ljava/lang/String;II)Z" } : Jvm.MethodName) method_6_code (3 : Nat) (Option.some Jvm.ClassFile.FieldType.boolean), Jvm.Cond.code ({ cls := "java/lang/String", name := "charAt", desc := "(I)C" } : Jvm.MethodName) jdk_42_method_56_code (2 : Nat) (Option.some Jvm.ClassFile.FieldType.char), Jvm.Cond.code ({ cls := "java/lang/String", name := "isLatin1", desc := "()Z" } : Jvm.MethodName) jdk_42_method_154_code (1 : Nat) (Option.some Jvm.ClassFile.FieldType.boolean), Jvm.Cond.code ({ cls := "java/lang/StringLatin1", name := "charAt", desc := "([BI)C" } : Jvm.MethodName) jdk_43_method_2_code (2 : Nat) (Option.some Jvm.ClassFile.FieldType.char), Jvm.Cond.code ({ cls := "java/lang/String", name := "checkIndex", desc := "(II)V" } : Jvm.MethodName) jdk_42_method_155_code (2 : Nat) (Option.none : Option Jvm.ClassFile.FieldType), Jvm.Cond.code ({ cls := "jdk/internal/util/Preconditions", name := "checkIndex", desc := "(IILjava/util/function/BiFunction;)I" } : Jvm.MethodName) jdk_41_method_11_code (3 : Nat) (Option.some Jvm.ClassFile.FieldType.int), Jvm.Cond.code ({ cls := "com/example/rows_to_regions/rowstoregions/KeyTextEscapePinLaw", name := "hex", desc := "(I)C" } : Jvm.MethodName) method_5_code (1 : Nat) (Option.some Jvm.ClassFile.FieldType.char), Jvm.Cond.code ({ cls := "java/util/Arrays", name := "copyOfRangeByte", desc := "([BII)[B" } : Jvm.MethodName) jdk_65_method_133_code (5 : Nat) (Option.some (Jvm.ClassFile.FieldType.array Jvm.ClassFile.FieldType.byte)), Jvm.Cond.code ({ cls := "java/util/Arrays", name := "checkLength", desc := "(II)V" } : Jvm.MethodName) jdk_65_method_131_code (2 : Nat) (Option.none : Option Jvm.ClassFile.FieldType)]
set_option maxRecDepth 65536 in
theorem codes_eq : words1.filter isCode = codes1 := rfl
theorem w_codes : ∀ c ∈ words1.filter isCode, c.before args0 about1 = true := by
  rw [codes_eq]
  intro c hc
  simp only [codes1, List.mem_cons, List.not_mem_nil, or_false] at hc
  rcases hc with rfl | rfl | rfl | rfl | rfl | rfl | rfl | rfl | rfl | rfl | rfl | rfl | rfl | rfl | rfl | rfl | rfl | rfl | rfl | rfl | rfl | rfl | rfl | rfl | rfl | rfl | rfl | rfl | rfl | rfl | rfl | rfl | rfl | rfl | rfl
  · exact w_c0
  · exact w_c1
  · exact w_c2
  · exact w_c3
  · exact w_c4
  · exact w_c5
  · exact w_c6
  · exact w_c7
  · exact w_c8
  · exact w_c9
  · exact w_c10
  · exact w_c11
  · exact w_c12
  · exact w_c13
  · exact w_c14
  · exact w_c15
  · exact w_c16
  · exact w_c17
  · exact w_c18
  · exact w_c19
  · exact w_c20
  · exact w_c21
  · exact w_c22
  · exact w_c23
  · exact w_c24
  · exact w_c25
  · exact w_c26
  · exact w_c27
  · exact w_c28
  · exact w_c29
  · exact w_c30
  · exact w_c31
  · exact w_c32
  · exact w_c33
  · exact w_c34
set_option maxRecDepth 65536 in
theorem w_t1 : (words1.take 24).all (fun c => isCode c || c.before args0 about1) = true := by decide +kernel
set_option maxRecDepth 65536 in
theorem w_t2 : ((words1.drop 24).take 24).all (fun c => isCode c || c.before args0 about1) = true := by decide +kernel
set_option maxRecDepth 65536 in
theorem w_t3 : (((words1.drop 24).drop 24).take 24).all (fun c => isCode c || c.before args0 about1) = true := by decide +kernel
set_option maxRecDepth 65536 in
theorem w_t4 : ((((words1.drop 24).drop 24).drop 24).take 24).all (fun c => isCode c || c.before args0 about1) = true := by decide +kernel
set_option maxRecDepth 65536 in
theorem w_t5 : (((((words1.drop 24).drop 24).drop 24).drop 24).take 24).all (fun c => isCode c || c.before args0 about1) = true := by decide +kernel
set_option maxRecDepth 65536 in
theorem w_t6 : ((((((words1.drop 24).drop 24).drop 24).drop 24).drop 24).take 24).all (fun c => isCode c || c.before args0 about1) = true := by decide +kernel
set_option maxRecDepth 65536 in
theorem w_t7 : (((((((words1.drop 24).drop 24).drop 24).drop 24).drop 24).drop 24).take 24).all (fun c => isCode c || c.before args0 about1) = true := by decide +kernel
set_option maxRecDepth 65536 in
theorem w_t8 : (((((((words1.drop 24).drop 24).drop 24).drop 24).drop 24).drop 24).drop 24).all (fun c => isCode c || c.before args0 about1) = true := by decide +kernel
theorem w_tables : (allAtoms (Jvm.Cond.code x code maxLocals ret :: tables_1)).before args0 about1 = true := by
  rw [allAtoms_all]
  show words1.all (fun c => c.before args0 about1) = true
  refine all_split ?_ w_codes
  rw [← List.take_append_drop 24 words1, List.all_append, w_t1, ← List.take_append_drop 24 (words1.drop 24), List.all_append, w_t2, ← List.take_append_drop 24 ((words1.drop 24).drop 24), List.all_append, w_t3, ← List.take_append_drop 24 (((words1.drop 24).drop 24).drop 24), List.all_append, w_t4, ← List.take_append_drop 24 ((((words1.drop 24).drop 24).drop 24).drop 24), List.all_append, w_t5, ← List.take_append_drop 24 (((((words1.drop 24).drop 24).drop 24).drop 24).drop 24), List.all_append, w_t6, ← List.take_append_drop 24 ((((((words1.drop 24).drop 24).drop 24).drop 24).drop 24).drop 24), List.all_append, w_t7, w_t8]
  rfl
set_option maxRecDepth 65536 in
theorem w_rest : rest_1_c.before args0 about1 = true := by decide +kernel
set_option maxRecDepth 65536 in
theorem w_case : (Jvm.Cond.and given_1 narrow_1).before args0 about1 = true := by decide +kernel
theorem w_applies : (headSpec (Jvm.Cond.code x code maxLocals ret :: tables_1) room_1).applies x e0.platform about1 = true :=
  (Spec.applies_iff w_frames).mpr ⟨w_running, w_runnable, w_alone, w_named, w_hears, w_ripe, w_room, w_tables⟩
theorem atStart : AtStart classFile x code maxLocals ret World_1 tables_1 room_1 Calls_1 rest_1 Pre_1 launch0 p0 e0 about1 theMethod args0 below0 :=
  ⟨lists_1, trivial, launch0.admits_env _ _ _, launch0.least_env, fairChoices_fair.cas, fairChoices_fair.clock, w_frames, w_args, w_heap, w_applies, trivial, w_rest, w_case⟩
end start1
theorem witness_1 : WitnessClaimed_1 := ⟨start1.p0, start1.e0, start1.about1, start1.theMethod, start1.args0, start1.below0, start1.atStart⟩
end Jvm.Pilot.@@N@@
