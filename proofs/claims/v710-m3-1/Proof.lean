import JvmDerived
import JvmDerived.Pilot.@@N@@Statement
import JvmDerived.Pilot.@@N@@Code
set_option linter.unusedVariables false
set_option linter.unusedSimpArgs false

namespace Jvm.Pilot.@@N@@
open Jvm Jvm.ClassFile Sem Op Lib Jvm.Free Jvm.Stand Jvm.LawKit Jvm.RoadKit Bundle Jvm.Pilot.@@N@@.Jvm.D
section Own
variable {p : Program} {l : Launch} {e : Env} {R : Room} {s : State} {m : MethodId} {args : Array Value} {below : List Frame} {meth : Method} {c : Code} {T T' : State} {locs : List Loc} {cells slots : Nat} {g g' : JFrame} {P : State → Outcome → Prop}
/-- the run that stands at the frame g over T comes to an end of which P holds -/
def own_Ends (p : Program) (e : Env) (below : List Frame) (P : State → Outcome → Prop) (T : State) (g : JFrame) : Prop := ∃ u o, Steps p.tables e below (T.setTop g) u ∧ P u o
theorem own_via (st : ∀ t, Steps p.tables e below (T'.setTop g') t → Steps p.tables e below (T.setTop g) t) (k : own_Ends p e below P T' g') : own_Ends p e below P T g := by
  obtain ⟨a, b, c, d⟩ := k
  exact ⟨a, b, st _ c, d⟩
theorem own_viaT (st : Steps p.tables e below (T.setTop g) (T'.setTop g')) (k : own_Ends p e below P T' g') : own_Ends p e below P T g := own_via (fun _ k => st.trans k) k
def own_Post (s : State) (below : List Frame) (Q : Option Value → Heap → List Loc → Prop) (C S : Nat) : State → Outcome → Prop := fun u o => u.status = .running ∧ Ended u below o ∧ ∃ v L, o = .returned v ∧ Q v u.heap L ∧ FrameEnd s o u L C S
theorem own_leave (X : Stand p l e R s m args below meth c T locs cells slots) {v : Option Value} {Q : Option Value → Heap → List Loc → Prop} {C S : Nat} (hv : meth.sig.returnType = none → v = none) (hlk : meth.locks = false)
    (hst : ∀ fs, (∀ (f : JFrame) (acts : List Action), f.method = m → f.locked = none → f.entered = [] → (doReturn e (T.setTop f) acts v).1 = T.setFrames fs) → Steps p.tables e below (T.setTop g) (T.setFrames fs))
    (hC : cells ≤ C) (hS : slots ≤ S) (hQ : Q v T.heap locs) : own_Ends p e below (own_Post s below Q C S) T g := by
  obtain ⟨fs, hr, hrun, hended, hW, hsame⟩ := X.leave (v := v) hv hlk
  exact ⟨_, _, hst fs hr, hrun, hended, v, locs, rfl, hQ, ⟨_, rfl⟩, hW, hsame.mono hC hS⟩
theorem own_retV (X : Stand p l e R s m args below meth c T locs cells slots) (hx : p.tables.exec = Jvm.exec) (hlk : meth.locks = false) {Q : Option Value → Heap → List Loc → Prop} {C S : Nat} {pc : Nat} {Ls : Array Slot} (hret : meth.sig.returnType = none) (hd : decode c.code pc = .ok (.return_, 1))
    (hC : cells ≤ C) (hS : slots ≤ S) (hQ : Q none T.heap locs) : own_Ends p e below (own_Post s below Q C S) T (mkF m pc Ls []) :=
  own_leave X (fun _ => rfl) hlk (fun fs hr => X.returnOut hx hret hd hr) hC hS hQ
theorem own_retW (X : Stand p l e R s m args below meth c T locs cells slots) (hx : p.tables.exec = Jvm.exec) (hlk : meth.locks = false) {Q : Option Value → Heap → List Loc → Prop} {C S : Nat} {pc : Nat} {Ls : Array Slot} {w : Value} {t : FieldType} {i : Instr} {rest : List Value} (hret : meth.sig.returnType = some t) (hn : narrow t w = w)
    (hi : (i = .ireturn ∧ (t = .int ∨ t = .boolean ∨ t = .byte ∨ t = .char ∨ t = .short) ∧ ∃ z, w = .int z) ∨ (i = .lreturn ∧ t = .long ∧ ∃ z, w = .long z) ∨ (i = .dreturn ∧ t = .double ∧ ∃ z, w = .double z) ∨ (i = .freturn ∧ t = .float ∧ ∃ z, w = .float z) ∨ (i = .areturn ∧ t.isReference = true ∧ w.isRef = true))
    (hd : decode c.code pc = .ok (i, 1)) (hC : cells ≤ C) (hS : slots ≤ S) (hQ : Q (some w) T.heap locs) : own_Ends p e below (own_Post s below Q C S) T (mkF m pc Ls (w :: rest)) :=
  own_leave X (fun h => by rw [hret] at h; cases h) hlk (fun fs hr => retOut X hx hret hn hi hd hr) hC hS hQ
theorem own_retN (X : Stand p l e R s m args below meth c T locs cells slots) (hx : p.tables.exec = Jvm.exec) (hlk : meth.locks = false) {Q : Option Value → Heap → List Loc → Prop} {C S : Nat} {pc : Nat} {Ls : Array Slot} {z : Int32} {t : FieldType} {rest : List Value} (hret : meth.sig.returnType = some t) (ht : t = .boolean ∨ t = .byte ∨ t = .char ∨ t = .short)
    (hd : decode c.code pc = .ok (.ireturn, 1)) (hC : cells ≤ C) (hS : slots ≤ S) (hQ : Q (some (.int (nar t z))) T.heap locs) : own_Ends p e below (own_Post s below Q C S) T (mkF m pc Ls (.int z :: rest)) :=
  own_leave X (fun h => by rw [hret] at h; cases h) hlk (fun fs hr => retN X hx hret ht hd hr) hC hS hQ
theorem own_le {Z : State} {n0 : Nat} {h : Heap} (O : Old Z n0 h) : n0 ≤ h.size := O.1 ▸ O.2.1
theorem own_nb0 : nar .boolean 0 = 0 := rfl
theorem own_nb1 : nar .boolean 1 = 1 := rfl
theorem own_nb {b : Int32} (h : b = 0 ∨ b = 1) : nar .boolean b = b := by rcases h with rfl | rfl <;> rfl
end Own
theorem own_pd0 : parseMethodDescriptor "()I" = some ⟨[], some .int⟩ := by decide +kernel
theorem own_pd1 : parseMethodDescriptor "(I)Lcom/example/polyquery/polyquery/catalog/Comparison$Operator;" = some ⟨[.int], some (.object "com/example/polyquery/polyquery/catalog/Comparison$Operator")⟩ := by decide +kernel
theorem own_pd2 : parseMethodDescriptor "()Z" = some ⟨[], some .boolean⟩ := by decide +kernel
theorem own_pd3 : parseMethodDescriptor "(I)Z" = some ⟨[.int], some .boolean⟩ := by decide +kernel
theorem own_pd4 : parseMethodDescriptor "()Lcom/example/polyquery/polyquery/catalog/Comparison$Operator;" = some ⟨[], some (.object "com/example/polyquery/polyquery/catalog/Comparison$Operator")⟩ := by decide +kernel
section OwnWords
variable {args : Array Value} {first s : State} {o : Option Outcome} {idx : List Nat}
theorem own_eqI {a : Term} {k : Int32} (h : (Cond.eq a (.int k)).value args first o s idx = some true) : a.eval args first o idx s = some (.int k) := by
  simp only [Cond.value, Term.eval] at h
  cases ha : a.eval args first o idx s with
  | none => simp [ha] at h
  | some x => cases x <;> simp [ha] at h ⊢ <;> exact h
theorem own_eqR {a b : Term} {y : Addr} (h : (Cond.eq a b).value args first o s idx = some true) (hb : b.eval args first o idx s = some (.ref y)) : a.eval args first o idx s = some (.ref y) := by
  simp only [Cond.value, hb] at h
  cases ha : a.eval args first o idx s with
  | none => simp [ha] at h
  | some x => cases x <;> simp [ha] at h ⊢ <;> exact h
end OwnWords

theorem own_neg (a : Int32) : (a ||| (-2147483648 : Int32)) < 0 := by
  rw [Int32.lt_iff_toInt_lt]
  have h : (a ||| (-2147483648 : Int32)).toBitVec.msb = true := by
    show (a.toBitVec ||| (-2147483648 : Int32).toBitVec).msb = true
    rw [BitVec.msb_or]
    have : (-2147483648 : Int32).toBitVec.msb = true := by decide
    rw [this, Bool.or_true]
  show (a ||| (-2147483648 : Int32)).toBitVec.toInt < 0
  exact BitVec.toInt_neg_of_msb_true h
theorem own_pos (b : Int32) : 0 < ((b &&& (2147483647 : Int32)) ||| (1 : Int32)) := by
  rw [Int32.lt_iff_toInt_lt]
  have h : ((b &&& (2147483647 : Int32)) ||| (1 : Int32)).toBitVec.msb = false := by
    show ((b.toBitVec &&& (2147483647 : Int32).toBitVec) ||| (1 : Int32).toBitVec).msb = false
    rw [BitVec.msb_or, BitVec.msb_and]
    have h1 : (2147483647 : Int32).toBitVec.msb = false := by decide
    have h2 : (1 : Int32).toBitVec.msb = false := by decide
    rw [h1, h2, Bool.and_false, Bool.or_false]
  have h0 : ((b &&& (2147483647 : Int32)) ||| (1 : Int32)).toBitVec ≠ 0#32 := fun q => by
    have q0 : ((b.toBitVec &&& (2147483647 : Int32).toBitVec) ||| (1 : Int32).toBitVec).getLsbD 0 = false := by
      have : ((b.toBitVec &&& (2147483647 : Int32).toBitVec) ||| (1 : Int32).toBitVec) = 0#32 := q
      rw [this]; rfl
    rw [BitVec.getLsbD_or] at q0
    have h3 : (1 : Int32).toBitVec.getLsbD 0 = true := by decide
    rw [h3, Bool.or_true] at q0
    cases q0
  show (0 : Int32).toInt < ((b &&& (2147483647 : Int32)) ||| (1 : Int32)).toBitVec.toInt
  rw [BitVec.toInt_eq_toNat_of_msb h]
  have : 0 < ((b &&& (2147483647 : Int32)) ||| (1 : Int32)).toBitVec.toNat := Nat.pos_of_ne_zero fun q => h0 (BitVec.eq_of_toNat_eq q)
  show (0 : Int) < _
  omega
theorem own_n0 {x : Int32} (h : x < 0) : ¬ x = 0 ∧ ¬ 0 < x := ⟨fun q => by subst q; exact absurd h (by decide), fun q => by rw [Int32.lt_iff_toInt_lt] at h q; omega⟩
theorem own_p0 {x : Int32} (h : 0 < x) : ¬ x = 0 ∧ ¬ x < 0 := ⟨fun q => by subst q; exact absurd h (by decide), fun q => by rw [Int32.lt_iff_toInt_lt] at h q; omega⟩
def own_pickV (k : Int32) (wEQUAL wNOT_EQUAL wLESS wLESS_OR_EQUAL wGREATER wGREATER_OR_EQUAL : Addr) : Addr := if k = 0 then wEQUAL else if k = 1 then wNOT_EQUAL else if k = 2 then wLESS else if k = 3 then wLESS_OR_EQUAL else if k = 4 then wGREATER else wGREATER_OR_EQUAL
def own_holdsV (o p : Int32) : Int32 := if o = 0 then (if p = 0 then 1 else 0) else if o = 1 then (if p = 0 then 0 else 1) else if o = 2 then (if p < 0 then 1 else 0) else if o = 3 then (if 0 < p then 0 else 1) else if o = 4 then (if 0 < p then 1 else 0) else (if p < 0 then 0 else 1)
def own_swapV (o : Int32) (a : Addr) (wEQUAL wNOT_EQUAL wLESS wLESS_OR_EQUAL wGREATER wGREATER_OR_EQUAL : Addr) : Addr := if o = 0 then a else if o = 1 then a else if o = 2 then wGREATER else if o = 3 then wGREATER_OR_EQUAL else if o = 4 then wLESS else wLESS_OR_EQUAL
def own_negV (o : Int32) (wEQUAL wNOT_EQUAL wLESS wLESS_OR_EQUAL wGREATER wGREATER_OR_EQUAL : Addr) : Addr := if o = 0 then wNOT_EQUAL else if o = 1 then wEQUAL else if o = 2 then wGREATER_OR_EQUAL else if o = 3 then wGREATER else if o = 4 then wLESS_OR_EQUAL else wLESS
theorem own_pick_d0 : decode method_2_code 0 = .ok (.iload_n 0, 1) := by decide +kernel
theorem own_pick_d1 : decode method_2_code 1 = .ok (.ifCond .ne 7, 3) := by decide +kernel
theorem own_pick_d4 : decode method_2_code 4 = .ok (.getstatic 7, 3) := by decide +kernel
theorem own_pick_d7 : decode method_2_code 7 = .ok (.areturn, 1) := by decide +kernel
theorem own_pick_d8 : decode method_2_code 8 = .ok (.iload_n 0, 1) := by decide +kernel
theorem own_pick_d9 : decode method_2_code 9 = .ok (.iconst 1, 1) := by decide +kernel
theorem own_pick_d10 : decode method_2_code 10 = .ok (.if_icmp .ne 7, 3) := by decide +kernel
theorem own_pick_d13 : decode method_2_code 13 = .ok (.getstatic 13, 3) := by decide +kernel
theorem own_pick_d16 : decode method_2_code 16 = .ok (.areturn, 1) := by decide +kernel
theorem own_pick_d17 : decode method_2_code 17 = .ok (.iload_n 0, 1) := by decide +kernel
theorem own_pick_d18 : decode method_2_code 18 = .ok (.iconst 2, 1) := by decide +kernel
theorem own_pick_d19 : decode method_2_code 19 = .ok (.if_icmp .ne 7, 3) := by decide +kernel
theorem own_pick_d22 : decode method_2_code 22 = .ok (.getstatic 16, 3) := by decide +kernel
theorem own_pick_d25 : decode method_2_code 25 = .ok (.areturn, 1) := by decide +kernel
theorem own_pick_d26 : decode method_2_code 26 = .ok (.iload_n 0, 1) := by decide +kernel
theorem own_pick_d27 : decode method_2_code 27 = .ok (.iconst 3, 1) := by decide +kernel
theorem own_pick_d28 : decode method_2_code 28 = .ok (.if_icmp .ne 7, 3) := by decide +kernel
theorem own_pick_d31 : decode method_2_code 31 = .ok (.getstatic 19, 3) := by decide +kernel
theorem own_pick_d34 : decode method_2_code 34 = .ok (.areturn, 1) := by decide +kernel
theorem own_pick_d35 : decode method_2_code 35 = .ok (.iload_n 0, 1) := by decide +kernel
theorem own_pick_d36 : decode method_2_code 36 = .ok (.iconst 4, 1) := by decide +kernel
theorem own_pick_d37 : decode method_2_code 37 = .ok (.if_icmp .ne 7, 3) := by decide +kernel
theorem own_pick_d40 : decode method_2_code 40 = .ok (.getstatic 22, 3) := by decide +kernel
theorem own_pick_d43 : decode method_2_code 43 = .ok (.areturn, 1) := by decide +kernel
theorem own_pick_d44 : decode method_2_code 44 = .ok (.getstatic 25, 3) := by decide +kernel
theorem own_pick_d47 : decode method_2_code 47 = .ok (.areturn, 1) := by decide +kernel
theorem own_pick_pn : plainFor (⟨"com/example/polyquery/polyquery/catalog/OperatorIsOrderPinLaw", "pick", "(I)Lcom/example/polyquery/polyquery/catalog/Comparison$Operator;"⟩ : MethodName) = true := by first | exact plainFor_of_name (by first | (simp [plainName, overriddenIn]; done) | decide +kernel) | decide +kernel
theorem own_pick_ef (m : MethodId) (x0 : Int32) : entryFrame m #[(.int x0)] 1 = mkF m 0 #[.val (.int x0)] [] := by first | (simp [entryFrame, mkF, argsToLocals, Value.category]; done) | rfl
def own_pick_Q (Z : State) (c1 : Int32) (wEQUAL : Addr) (wNOT_EQUAL : Addr) (wLESS : Addr) (wLESS_OR_EQUAL : Addr) (wGREATER : Addr) (wGREATER_OR_EQUAL : Addr) (r : Addr) (h0 : Heap) (n0 : Nat) (v : Option Value) (h : Heap) (L : List Loc) : Prop := v = some (.ref r) ∧ Fr n0 L ∧ h = h0
set_option maxRecDepth 65536 in
set_option maxHeartbeats 40000000 in
theorem own_pick (l : Launch) (Z : State) (a0 : Array Value) (hw : ∀ d ∈ tables_1, d.before a0 Z = true) (ws : List Jvm.Cond) (c1 : Int32) (wEQUAL : Addr) (wNOT_EQUAL : Addr) (wLESS : Addr) (wLESS_OR_EQUAL : Addr) (wGREATER : Addr) (wGREATER_OR_EQUAL : Addr) (r : Addr) (h0 : Heap) (n0 : Nat) (O : Old Z n0 h0) (S_EQUAL : Sta Z Z.heap "com/example/polyquery/polyquery/catalog/Comparison$Operator" "EQUAL" "Lcom/example/polyquery/polyquery/catalog/Comparison$Operator;" (.ref wEQUAL)) (S_NOT_EQUAL : Sta Z Z.heap "com/example/polyquery/polyquery/catalog/Comparison$Operator" "NOT_EQUAL" "Lcom/example/polyquery/polyquery/catalog/Comparison$Operator;" (.ref wNOT_EQUAL)) (S_LESS : Sta Z Z.heap "com/example/polyquery/polyquery/catalog/Comparison$Operator" "LESS" "Lcom/example/polyquery/polyquery/catalog/Comparison$Operator;" (.ref wLESS)) (S_LESS_OR_EQUAL : Sta Z Z.heap "com/example/polyquery/polyquery/catalog/Comparison$Operator" "LESS_OR_EQUAL" "Lcom/example/polyquery/polyquery/catalog/Comparison$Operator;" (.ref wLESS_OR_EQUAL)) (S_GREATER : Sta Z Z.heap "com/example/polyquery/polyquery/catalog/Comparison$Operator" "GREATER" "Lcom/example/polyquery/polyquery/catalog/Comparison$Operator;" (.ref wGREATER)) (S_GREATER_OR_EQUAL : Sta Z Z.heap "com/example/polyquery/polyquery/catalog/Comparison$Operator" "GREATER_OR_EQUAL" "Lcom/example/polyquery/polyquery/catalog/Comparison$Operator;" (.ref wGREATER_OR_EQUAL)) (hr : r = own_pickV c1 wEQUAL wNOT_EQUAL wLESS wLESS_OR_EQUAL wGREATER wGREATER_OR_EQUAL) :
    MetFree l (⟨"com/example/polyquery/polyquery/catalog/OperatorIsOrderPinLaw", "pick", "(I)Lcom/example/polyquery/polyquery/catalog/Comparison$Operator;"⟩ : MethodName) (head1 (Jvm.Cond.code (⟨"com/example/polyquery/polyquery/catalog/OperatorIsOrderPinLaw", "pick", "(I)Lcom/example/polyquery/polyquery/catalog/Comparison$Operator;"⟩ : MethodName) method_2_code 1 (some (.object "com/example/polyquery/polyquery/catalog/Comparison$Operator")) :: ws) ({ frames := 0, cells := 0, slots := 0, locals := 0 } : Room)) (fun a U => a = #[(.int c1)] ∧ Z.Warmed39 U.vm ∧ U.heap = h0) (fun _ _ _ _ _ => True) (fun _ U o U' => ∃ v L, o = .returned v ∧ own_pick_Q Z c1 wEQUAL wNOT_EQUAL wLESS wLESS_OR_EQUAL wGREATER wGREATER_OR_EQUAL r h0 n0 v U'.heap L ∧ FrameEnd U o U' L ({ frames := 0, cells := 0, slots := 0, locals := 0 } : Room).cells ({ frames := 0, cells := 0, slots := 0, locals := 0 } : Room).slots) := by
  refine MetFree.of_bodySF own_pick_pn hisR ?_
  intro p e s m args below meth c s₁ Bd hml0 hP hK
  obtain ⟨rfl, hZ, hh⟩ := hP
  have hx := Bd.exec
  have hby := Bd.bytes
  have hlk := Bd.notSynchronized
  have hml : c.maxLocals = 1 := hml0
  have hown : s.vm.findClass "com/example/polyquery/polyquery/catalog/OperatorIsOrderPinLaw" = some m.cls := findClass_of_methodNamed Bd.named
  have hnm := (name_of_methodNamed Bd.named Bd.method).1
  have X : Stand p l e ({ frames := 0, cells := 0, slots := 0, locals := 0 } : Room) s m #[(.int c1)] below meth c s₁ [] 0 0 := Stand.of_body Bd
  have eT : s₁.heap = h0 := by rw [← hh, Bd.state]; rfl
  have N := Fr.nil n0
  have K0 := Keep.refl h0 []
  show own_Ends p e below (own_Post s below (own_pick_Q Z c1 wEQUAL wNOT_EQUAL wLESS wLESS_OR_EQUAL wGREATER wGREATER_OR_EQUAL r h0 n0) ({ frames := 0, cells := 0, slots := 0, locals := 0 } : Room).cells ({ frames := 0, cells := 0, slots := 0, locals := 0 } : Room).slots) s₁ (entryFrame m #[(.int c1)] 1)
  rw [own_pick_ef m c1]
  obtain ⟨T, hT⟩ : ∃ z, z = s₁ := ⟨_, rfl⟩
  rw [← hT] at X eT ⊢
  obtain ⟨h, hh0⟩ : ∃ z, z = h0 := ⟨_, rfl⟩
  rw [← hh0] at eT
  replace O : Old Z n0 h := by rw [hh0]; exact O
  replace K0 : Keep h0 h [] := by rw [hh0]; exact K0
  refine own_via (T' := T) (g' := (mkF m 1 #[.val (.int c1)] [(.int c1)])) (fun t_ k_ => XS.iloadN X.here hx rfl (hb hby own_pick_d0) rfl k_) ?_
  by_cases hc1 : c1 = (0 : Int32)
  · refine own_via (T' := T) (g' := (mkF m 4 #[.val (.int c1)] [])) (fun t_ k_ => XS.ifNo X.here hx rfl (hb hby own_pick_d1) rfl ((if0 _ _).trans (teq hc1).2) k_) ?_
    obtain ⟨T, X, eT, st⟩ := getS2 X hx hZ hown (host := "") (Or.inl (hw _ (List.mem_of_getElem? (i := 5) rfl))) Via.refl eT (S_EQUAL.ext O.2) (g := (mkF m 4 #[.val (.int c1)] [])) rfl (hb hby own_pick_d4)
    refine own_via (g' := (mkF m 7 #[.val (.int c1)] [(.ref wEQUAL)])) st ?_
    refine own_retW X hx hlk Bd.returns rfl (Or.inr (Or.inr (Or.inr (Or.inr ⟨rfl, rfl, rfl⟩)))) (hb hby own_pick_d7) (by decide) (by decide) ?_
    rw [eT]
    exact ⟨by rw [hr]; simp [own_pickV, hc1], N, hh0⟩
  · refine own_via (T' := T) (g' := (mkF m 8 #[.val (.int c1)] [])) (fun t_ k_ => XS.ifYes X.here hx rfl (pc0 := 1) (pc' := 8) rfl (hb hby own_pick_d1) rfl ((if0 _ _).trans (feq hc1).2) (by decide) (by decide) k_) ?_
    refine own_via (T' := T) (g' := (mkF m 9 #[.val (.int c1)] [(.int c1)])) (fun t_ k_ => XS.iloadN X.here hx rfl (hb hby own_pick_d8) rfl k_) ?_
    refine own_via (T' := T) (g' := (mkF m 10 #[.val (.int c1)] [(.int (1 : Int32)), (.int c1)])) (fun t_ k_ => XS.iconst X.here hx rfl (hb hby own_pick_d9) k_) ?_
    by_cases hc2 : c1 = (1 : Int32)
    · refine own_via (T' := T) (g' := (mkF m 13 #[.val (.int c1)] [])) (fun t_ k_ => XS.icmpNo X.here hx rfl (hb hby own_pick_d10) rfl (teq hc2).2 k_) ?_
      obtain ⟨T, X, eT, st⟩ := getS2 X hx hZ hown (host := "") (Or.inl (hw _ (List.mem_of_getElem? (i := 41) rfl))) Via.refl eT (S_NOT_EQUAL.ext O.2) (g := (mkF m 13 #[.val (.int c1)] [])) rfl (hb hby own_pick_d13)
      refine own_via (g' := (mkF m 16 #[.val (.int c1)] [(.ref wNOT_EQUAL)])) st ?_
      refine own_retW X hx hlk Bd.returns rfl (Or.inr (Or.inr (Or.inr (Or.inr ⟨rfl, rfl, rfl⟩)))) (hb hby own_pick_d16) (by decide) (by decide) ?_
      rw [eT]
      exact ⟨by rw [hr]; simp [own_pickV, hc1, hc2], N, hh0⟩
    · refine own_via (T' := T) (g' := (mkF m 17 #[.val (.int c1)] [])) (fun t_ k_ => XS.icmpYes X.here hx rfl (pc0 := 10) (pc' := 17) rfl (hb hby own_pick_d10) rfl (feq hc2).2 (by decide) (by decide) k_) ?_
      refine own_via (T' := T) (g' := (mkF m 18 #[.val (.int c1)] [(.int c1)])) (fun t_ k_ => XS.iloadN X.here hx rfl (hb hby own_pick_d17) rfl k_) ?_
      refine own_via (T' := T) (g' := (mkF m 19 #[.val (.int c1)] [(.int (2 : Int32)), (.int c1)])) (fun t_ k_ => XS.iconst X.here hx rfl (hb hby own_pick_d18) k_) ?_
      by_cases hc3 : c1 = (2 : Int32)
      · refine own_via (T' := T) (g' := (mkF m 22 #[.val (.int c1)] [])) (fun t_ k_ => XS.icmpNo X.here hx rfl (hb hby own_pick_d19) rfl (teq hc3).2 k_) ?_
        obtain ⟨T, X, eT, st⟩ := getS2 X hx hZ hown (host := "") (Or.inl (hw _ (List.mem_of_getElem? (i := 42) rfl))) Via.refl eT (S_LESS.ext O.2) (g := (mkF m 22 #[.val (.int c1)] [])) rfl (hb hby own_pick_d22)
        refine own_via (g' := (mkF m 25 #[.val (.int c1)] [(.ref wLESS)])) st ?_
        refine own_retW X hx hlk Bd.returns rfl (Or.inr (Or.inr (Or.inr (Or.inr ⟨rfl, rfl, rfl⟩)))) (hb hby own_pick_d25) (by decide) (by decide) ?_
        rw [eT]
        exact ⟨by rw [hr]; simp [own_pickV, hc1, hc2, hc3], N, hh0⟩
      · refine own_via (T' := T) (g' := (mkF m 26 #[.val (.int c1)] [])) (fun t_ k_ => XS.icmpYes X.here hx rfl (pc0 := 19) (pc' := 26) rfl (hb hby own_pick_d19) rfl (feq hc3).2 (by decide) (by decide) k_) ?_
        refine own_via (T' := T) (g' := (mkF m 27 #[.val (.int c1)] [(.int c1)])) (fun t_ k_ => XS.iloadN X.here hx rfl (hb hby own_pick_d26) rfl k_) ?_
        refine own_via (T' := T) (g' := (mkF m 28 #[.val (.int c1)] [(.int (3 : Int32)), (.int c1)])) (fun t_ k_ => XS.iconst X.here hx rfl (hb hby own_pick_d27) k_) ?_
        by_cases hc4 : c1 = (3 : Int32)
        · refine own_via (T' := T) (g' := (mkF m 31 #[.val (.int c1)] [])) (fun t_ k_ => XS.icmpNo X.here hx rfl (hb hby own_pick_d28) rfl (teq hc4).2 k_) ?_
          obtain ⟨T, X, eT, st⟩ := getS2 X hx hZ hown (host := "") (Or.inl (hw _ (List.mem_of_getElem? (i := 52) rfl))) Via.refl eT (S_LESS_OR_EQUAL.ext O.2) (g := (mkF m 31 #[.val (.int c1)] [])) rfl (hb hby own_pick_d31)
          refine own_via (g' := (mkF m 34 #[.val (.int c1)] [(.ref wLESS_OR_EQUAL)])) st ?_
          refine own_retW X hx hlk Bd.returns rfl (Or.inr (Or.inr (Or.inr (Or.inr ⟨rfl, rfl, rfl⟩)))) (hb hby own_pick_d34) (by decide) (by decide) ?_
          rw [eT]
          exact ⟨by rw [hr]; simp [own_pickV, hc1, hc2, hc3, hc4], N, hh0⟩
        · refine own_via (T' := T) (g' := (mkF m 35 #[.val (.int c1)] [])) (fun t_ k_ => XS.icmpYes X.here hx rfl (pc0 := 28) (pc' := 35) rfl (hb hby own_pick_d28) rfl (feq hc4).2 (by decide) (by decide) k_) ?_
          refine own_via (T' := T) (g' := (mkF m 36 #[.val (.int c1)] [(.int c1)])) (fun t_ k_ => XS.iloadN X.here hx rfl (hb hby own_pick_d35) rfl k_) ?_
          refine own_via (T' := T) (g' := (mkF m 37 #[.val (.int c1)] [(.int (4 : Int32)), (.int c1)])) (fun t_ k_ => XS.iconst X.here hx rfl (hb hby own_pick_d36) k_) ?_
          by_cases hc5 : c1 = (4 : Int32)
          · refine own_via (T' := T) (g' := (mkF m 40 #[.val (.int c1)] [])) (fun t_ k_ => XS.icmpNo X.here hx rfl (hb hby own_pick_d37) rfl (teq hc5).2 k_) ?_
            obtain ⟨T, X, eT, st⟩ := getS2 X hx hZ hown (host := "") (Or.inl (hw _ (List.mem_of_getElem? (i := 53) rfl))) Via.refl eT (S_GREATER.ext O.2) (g := (mkF m 40 #[.val (.int c1)] [])) rfl (hb hby own_pick_d40)
            refine own_via (g' := (mkF m 43 #[.val (.int c1)] [(.ref wGREATER)])) st ?_
            refine own_retW X hx hlk Bd.returns rfl (Or.inr (Or.inr (Or.inr (Or.inr ⟨rfl, rfl, rfl⟩)))) (hb hby own_pick_d43) (by decide) (by decide) ?_
            rw [eT]
            exact ⟨by rw [hr]; simp [own_pickV, hc1, hc2, hc3, hc4, hc5], N, hh0⟩
          · refine own_via (T' := T) (g' := (mkF m 44 #[.val (.int c1)] [])) (fun t_ k_ => XS.icmpYes X.here hx rfl (pc0 := 37) (pc' := 44) rfl (hb hby own_pick_d37) rfl (feq hc5).2 (by decide) (by decide) k_) ?_
            obtain ⟨T, X, eT, st⟩ := getS2 X hx hZ hown (host := "") (Or.inl (hw _ (List.mem_of_getElem? (i := 48) rfl))) Via.refl eT (S_GREATER_OR_EQUAL.ext O.2) (g := (mkF m 44 #[.val (.int c1)] [])) rfl (hb hby own_pick_d44)
            refine own_via (g' := (mkF m 47 #[.val (.int c1)] [(.ref wGREATER_OR_EQUAL)])) st ?_
            refine own_retW X hx hlk Bd.returns rfl (Or.inr (Or.inr (Or.inr (Or.inr ⟨rfl, rfl, rfl⟩)))) (hb hby own_pick_d47) (by decide) (by decide) ?_
            rw [eT]
            exact ⟨by rw [hr]; simp [own_pickV, hc1, hc2, hc3, hc4, hc5], N, hh0⟩
theorem own_isOrder_d0 : decode prog_8_method_8_code 0 = .ok (.aload_n 0, 1) := by decide +kernel
theorem own_isOrder_d1 : decode prog_8_method_8_code 1 = .ok (.getstatic 3, 3) := by decide +kernel
theorem own_isOrder_d4 : decode prog_8_method_8_code 4 = .ok (.if_acmp .eq 14, 3) := by decide +kernel
theorem own_isOrder_d7 : decode prog_8_method_8_code 7 = .ok (.aload_n 0, 1) := by decide +kernel
theorem own_isOrder_d8 : decode prog_8_method_8_code 8 = .ok (.getstatic 7, 3) := by decide +kernel
theorem own_isOrder_d11 : decode prog_8_method_8_code 11 = .ok (.if_acmp .eq 7, 3) := by decide +kernel
theorem own_isOrder_d14 : decode prog_8_method_8_code 14 = .ok (.iconst 1, 1) := by decide +kernel
theorem own_isOrder_d15 : decode prog_8_method_8_code 15 = .ok (.goto 4, 3) := by decide +kernel
theorem own_isOrder_d18 : decode prog_8_method_8_code 18 = .ok (.iconst 0, 1) := by decide +kernel
theorem own_isOrder_d19 : decode prog_8_method_8_code 19 = .ok (.ireturn, 1) := by decide +kernel
theorem own_isOrder_pn : plainFor (⟨"com/example/polyquery/polyquery/catalog/Comparison$Operator", "isOrder", "()Z"⟩ : MethodName) = true := by first | exact plainFor_of_name (by first | (simp [plainName, overriddenIn]; done) | decide +kernel) | decide +kernel
theorem own_isOrder_ef (m : MethodId) (x0 : Addr) : entryFrame m #[(.ref x0)] 1 = mkF m 0 #[.val (.ref x0)] [] := by first | (simp [entryFrame, mkF, argsToLocals, Value.category]; done) | rfl
def own_isOrder_Q (Z : State) (a1 : Addr) (wEQUAL : Addr) (wNOT_EQUAL : Addr) (r : Int32) (h0 : Heap) (n0 : Nat) (v : Option Value) (h : Heap) (L : List Loc) : Prop := v = some (.int r) ∧ Fr n0 L ∧ h = h0
set_option maxRecDepth 65536 in
set_option maxHeartbeats 40000000 in
theorem own_isOrder (l : Launch) (Z : State) (a0 : Array Value) (hw : ∀ d ∈ tables_1, d.before a0 Z = true) (ws : List Jvm.Cond) (a1 : Addr) (wEQUAL : Addr) (wNOT_EQUAL : Addr) (r : Int32) (h0 : Heap) (n0 : Nat) (O : Old Z n0 h0) (S_EQUAL : Sta Z Z.heap "com/example/polyquery/polyquery/catalog/Comparison$Operator" "EQUAL" "Lcom/example/polyquery/polyquery/catalog/Comparison$Operator;" (.ref wEQUAL)) (S_NOT_EQUAL : Sta Z Z.heap "com/example/polyquery/polyquery/catalog/Comparison$Operator" "NOT_EQUAL" "Lcom/example/polyquery/polyquery/catalog/Comparison$Operator;" (.ref wNOT_EQUAL)) (hr : (a1 = wEQUAL → r = 0) ∧ (a1 = wNOT_EQUAL → r = 0) ∧ (¬ a1 = wEQUAL → ¬ a1 = wNOT_EQUAL → r = 1)) :
    MetFree l (⟨"com/example/polyquery/polyquery/catalog/Comparison$Operator", "isOrder", "()Z"⟩ : MethodName) (head1 (Jvm.Cond.code (⟨"com/example/polyquery/polyquery/catalog/Comparison$Operator", "isOrder", "()Z"⟩ : MethodName) prog_8_method_8_code 1 (some .boolean) :: ws) ({ frames := 0, cells := 0, slots := 0, locals := 0 } : Room)) (fun a U => a = #[(.ref a1)] ∧ Z.Warmed39 U.vm ∧ U.heap = h0) (fun _ _ _ _ _ => True) (fun _ U o U' => ∃ v L, o = .returned v ∧ own_isOrder_Q Z a1 wEQUAL wNOT_EQUAL r h0 n0 v U'.heap L ∧ FrameEnd U o U' L ({ frames := 0, cells := 0, slots := 0, locals := 0 } : Room).cells ({ frames := 0, cells := 0, slots := 0, locals := 0 } : Room).slots) := by
  refine MetFree.of_bodySF own_isOrder_pn hisR ?_
  intro p e s m args below meth c s₁ Bd hml0 hP hK
  obtain ⟨rfl, hZ, hh⟩ := hP
  have hx := Bd.exec
  have hby := Bd.bytes
  have hlk := Bd.notSynchronized
  have hml : c.maxLocals = 1 := hml0
  have hown : s.vm.findClass "com/example/polyquery/polyquery/catalog/Comparison$Operator" = some m.cls := findClass_of_methodNamed Bd.named
  have hnm := (name_of_methodNamed Bd.named Bd.method).1
  have X : Stand p l e ({ frames := 0, cells := 0, slots := 0, locals := 0 } : Room) s m #[(.ref a1)] below meth c s₁ [] 0 0 := Stand.of_body Bd
  have eT : s₁.heap = h0 := by rw [← hh, Bd.state]; rfl
  have N := Fr.nil n0
  have K0 := Keep.refl h0 []
  show own_Ends p e below (own_Post s below (own_isOrder_Q Z a1 wEQUAL wNOT_EQUAL r h0 n0) ({ frames := 0, cells := 0, slots := 0, locals := 0 } : Room).cells ({ frames := 0, cells := 0, slots := 0, locals := 0 } : Room).slots) s₁ (entryFrame m #[(.ref a1)] 1)
  rw [own_isOrder_ef m a1]
  obtain ⟨T, hT⟩ : ∃ z, z = s₁ := ⟨_, rfl⟩
  rw [← hT] at X eT ⊢
  obtain ⟨h, hh0⟩ : ∃ z, z = h0 := ⟨_, rfl⟩
  rw [← hh0] at eT
  replace O : Old Z n0 h := by rw [hh0]; exact O
  replace K0 : Keep h0 h [] := by rw [hh0]; exact K0
  refine own_via (T' := T) (g' := (mkF m 1 #[.val (.ref a1)] [(.ref a1)])) (fun t_ k_ => XS.aloadN X.here hx rfl (hb hby own_isOrder_d0) rfl rfl k_) ?_
  obtain ⟨T, X, eT, st⟩ := getS2 X hx hZ hown (host := "") (Or.inl (hw _ (List.mem_of_getElem? (i := 14) rfl))) Via.refl eT (S_EQUAL.ext O.2) (g := (mkF m 1 #[.val (.ref a1)] [(.ref a1)])) rfl (hb hby own_isOrder_d1)
  refine own_via (g' := (mkF m 4 #[.val (.ref a1)] [(.ref wEQUAL), (.ref a1)])) st ?_
  by_cases hc1 : a1 = wEQUAL
  · refine own_via (T' := T) (g' := (mkF m 18 #[.val (.ref a1)] [])) (fun t_ k_ => Jvm.RoadKit.acmp (g := (mkF m 4 #[.val (.ref a1)] [(.ref wEQUAL), (.ref a1)])) X hx rfl rfl rfl (pc0 := 4) (pc' := 18) (same := true) rfl (hb hby own_isOrder_d4) rfl (decide_eq_true (congrArg Value.ref hc1)) (by decide) (by decide) k_) ?_
    refine own_via (T' := T) (g' := (mkF m 19 #[.val (.ref a1)] [(.int (0 : Int32))])) (fun t_ k_ => XS.iconst X.here hx rfl (hb hby own_isOrder_d18) k_) ?_
    refine own_retN X hx hlk (t := .boolean) Bd.returns (by simp) (hb hby own_isOrder_d19) (by decide) (by decide) ?_
    rw [eT]
    exact ⟨by rw [hr.1 hc1]; rfl, N, hh0⟩
  · refine own_via (T' := T) (g' := (mkF m 7 #[.val (.ref a1)] [])) (fun t_ k_ => Jvm.RoadKit.acmp (g := (mkF m 4 #[.val (.ref a1)] [(.ref wEQUAL), (.ref a1)])) X hx rfl rfl rfl (pc0 := 4) (pc' := 7) (same := false) rfl (hb hby own_isOrder_d4) rfl (decide_eq_false fun q => hc1 (Value.ref.inj q)) (by decide) (by decide) k_) ?_
    refine own_via (T' := T) (g' := (mkF m 8 #[.val (.ref a1)] [(.ref a1)])) (fun t_ k_ => XS.aloadN X.here hx rfl (hb hby own_isOrder_d7) rfl rfl k_) ?_
    obtain ⟨T, X, eT, st⟩ := getS2 X hx hZ hown (host := "") (Or.inl (hw _ (List.mem_of_getElem? (i := 39) rfl))) Via.refl eT (S_NOT_EQUAL.ext O.2) (g := (mkF m 8 #[.val (.ref a1)] [(.ref a1)])) rfl (hb hby own_isOrder_d8)
    refine own_via (g' := (mkF m 11 #[.val (.ref a1)] [(.ref wNOT_EQUAL), (.ref a1)])) st ?_
    by_cases hc2 : a1 = wNOT_EQUAL
    · refine own_via (T' := T) (g' := (mkF m 18 #[.val (.ref a1)] [])) (fun t_ k_ => Jvm.RoadKit.acmp (g := (mkF m 11 #[.val (.ref a1)] [(.ref wNOT_EQUAL), (.ref a1)])) X hx rfl rfl rfl (pc0 := 11) (pc' := 18) (same := true) rfl (hb hby own_isOrder_d11) rfl (decide_eq_true (congrArg Value.ref hc2)) (by decide) (by decide) k_) ?_
      refine own_via (T' := T) (g' := (mkF m 19 #[.val (.ref a1)] [(.int (0 : Int32))])) (fun t_ k_ => XS.iconst X.here hx rfl (hb hby own_isOrder_d18) k_) ?_
      refine own_retN X hx hlk (t := .boolean) Bd.returns (by simp) (hb hby own_isOrder_d19) (by decide) (by decide) ?_
      rw [eT]
      exact ⟨by rw [hr.2.1 hc2]; rfl, N, hh0⟩
    · refine own_via (T' := T) (g' := (mkF m 14 #[.val (.ref a1)] [])) (fun t_ k_ => Jvm.RoadKit.acmp (g := (mkF m 11 #[.val (.ref a1)] [(.ref wNOT_EQUAL), (.ref a1)])) X hx rfl rfl rfl (pc0 := 11) (pc' := 14) (same := false) rfl (hb hby own_isOrder_d11) rfl (decide_eq_false fun q => hc2 (Value.ref.inj q)) (by decide) (by decide) k_) ?_
      refine own_via (T' := T) (g' := (mkF m 15 #[.val (.ref a1)] [(.int (1 : Int32))])) (fun t_ k_ => XS.iconst X.here hx rfl (hb hby own_isOrder_d14) k_) ?_
      refine own_via (T' := T) (g' := (mkF m 19 #[.val (.ref a1)] [(.int (1 : Int32))])) (fun t_ k_ => XS.goto X.here hx rfl (pc0 := 15) (pc' := 19) rfl (hb hby own_isOrder_d15) (by decide) (by decide) k_) ?_
      refine own_retN X hx hlk (t := .boolean) Bd.returns (by simp) (hb hby own_isOrder_d19) (by decide) (by decide) ?_
      rw [eT]
      exact ⟨by rw [hr.2.2 hc1 hc2]; rfl, N, hh0⟩
theorem own_ordinal_d0 : decode jdk_37_method_2_code 0 = .ok (.aload_n 0, 1) := by decide +kernel
theorem own_ordinal_d1 : decode jdk_37_method_2_code 1 = .ok (.getfield 7, 3) := by decide +kernel
theorem own_ordinal_d4 : decode jdk_37_method_2_code 4 = .ok (.ireturn, 1) := by decide +kernel
theorem own_ordinal_pn : plainFor (⟨"java/lang/Enum", "ordinal", "()I"⟩ : MethodName) = true := by first | exact plainFor_of_name (by first | (simp [plainName, overriddenIn]; done) | decide +kernel) | decide +kernel
theorem own_ordinal_ef (m : MethodId) (x0 : Addr) : entryFrame m #[(.ref x0)] 1 = mkF m 0 #[.val (.ref x0)] [] := by first | (simp [entryFrame, mkF, argsToLocals, Value.category]; done) | rfl
def own_ordinal_Q (Z : State) (a1 : Addr) (o1 : Int32) (h0 : Heap) (n0 : Nat) (v : Option Value) (h : Heap) (L : List Loc) : Prop := v = some (.int o1) ∧ Fr n0 L ∧ h = h0
set_option maxRecDepth 65536 in
set_option maxHeartbeats 40000000 in
theorem own_ordinal (l : Launch) (Z : State) (a0 : Array Value) (hw : ∀ d ∈ tables_1, d.before a0 Z = true) (ws : List Jvm.Cond) (a1 : Addr) (o1 : Int32) (h0 : Heap) (n0 : Nat) (O : Old Z n0 h0) (F_ord : Fld Z Z.heap a1 "java/lang/Enum" "ordinal" "I" (.int o1)) :
    MetFree l (⟨"java/lang/Enum", "ordinal", "()I"⟩ : MethodName) (head1 (Jvm.Cond.code (⟨"java/lang/Enum", "ordinal", "()I"⟩ : MethodName) jdk_37_method_2_code 1 (some .int) :: ws) ({ frames := 0, cells := 0, slots := 0, locals := 0 } : Room)) (fun a U => a = #[(.ref a1)] ∧ Z.Warmed39 U.vm ∧ U.heap = h0) (fun _ _ _ _ _ => True) (fun _ U o U' => ∃ v L, o = .returned v ∧ own_ordinal_Q Z a1 o1 h0 n0 v U'.heap L ∧ FrameEnd U o U' L ({ frames := 0, cells := 0, slots := 0, locals := 0 } : Room).cells ({ frames := 0, cells := 0, slots := 0, locals := 0 } : Room).slots) := by
  refine MetFree.of_bodySF own_ordinal_pn hisR ?_
  intro p e s m args below meth c s₁ Bd hml0 hP hK
  obtain ⟨rfl, hZ, hh⟩ := hP
  have hx := Bd.exec
  have hby := Bd.bytes
  have hlk := Bd.notSynchronized
  have hml : c.maxLocals = 1 := hml0
  have hown : s.vm.findClass "java/lang/Enum" = some m.cls := findClass_of_methodNamed Bd.named
  have hnm := (name_of_methodNamed Bd.named Bd.method).1
  have X : Stand p l e ({ frames := 0, cells := 0, slots := 0, locals := 0 } : Room) s m #[(.ref a1)] below meth c s₁ [] 0 0 := Stand.of_body Bd
  have eT : s₁.heap = h0 := by rw [← hh, Bd.state]; rfl
  have N := Fr.nil n0
  have K0 := Keep.refl h0 []
  show own_Ends p e below (own_Post s below (own_ordinal_Q Z a1 o1 h0 n0) ({ frames := 0, cells := 0, slots := 0, locals := 0 } : Room).cells ({ frames := 0, cells := 0, slots := 0, locals := 0 } : Room).slots) s₁ (entryFrame m #[(.ref a1)] 1)
  rw [own_ordinal_ef m a1]
  obtain ⟨T, hT⟩ : ∃ z, z = s₁ := ⟨_, rfl⟩
  rw [← hT] at X eT ⊢
  obtain ⟨h, hh0⟩ : ∃ z, z = h0 := ⟨_, rfl⟩
  rw [← hh0] at eT
  replace O : Old Z n0 h := by rw [hh0]; exact O
  replace K0 : Keep h0 h [] := by rw [hh0]; exact K0
  refine own_via (T' := T) (g' := (mkF m 1 #[.val (.ref a1)] [(.ref a1)])) (fun t_ k_ => XS.aloadN X.here hx rfl (hb hby own_ordinal_d0) rfl rfl k_) ?_
  obtain ⟨T, X, eT, st⟩ := getF X hx hZ hown (host := "") (Or.inl (hw _ (List.mem_of_getElem? (i := 27) rfl))) Via.refl eT (F_ord.ext O.2) (g := (mkF m 1 #[.val (.ref a1)] [(.ref a1)])) rfl rfl (hb hby own_ordinal_d1)
  refine own_via (g' := (mkF m 4 #[.val (.ref a1)] [(.int o1)])) st ?_
  refine own_retW X hx hlk Bd.returns rfl (Or.inl ⟨rfl, Or.inl rfl, _, rfl⟩) (hb hby own_ordinal_d4) (by decide) (by decide) ?_
  rw [eT]
  exact ⟨rfl, N, hh0⟩
theorem own_holds_d0 : decode prog_8_method_9_code 0 = .ok (.aload_n 0, 1) := by decide +kernel
theorem own_holds_d1 : decode prog_8_method_9_code 1 = .ok (.invokevirtual 55, 3) := by decide +kernel
theorem own_holds_d4 : decode prog_8_method_9_code 4 = .ok (.tableswitch 40 0 5 #[50, 62, 74, 86, 98, 110], 40) := by decide +kernel
theorem own_holds_d54 : decode prog_8_method_9_code 54 = .ok (.iload_n 1, 1) := by decide +kernel
theorem own_holds_d55 : decode prog_8_method_9_code 55 = .ok (.ifCond .ne 7, 3) := by decide +kernel
theorem own_holds_d58 : decode prog_8_method_9_code 58 = .ok (.iconst 1, 1) := by decide +kernel
theorem own_holds_d59 : decode prog_8_method_9_code 59 = .ok (.goto 64, 3) := by decide +kernel
theorem own_holds_d62 : decode prog_8_method_9_code 62 = .ok (.iconst 0, 1) := by decide +kernel
theorem own_holds_d63 : decode prog_8_method_9_code 63 = .ok (.goto 60, 3) := by decide +kernel
theorem own_holds_d66 : decode prog_8_method_9_code 66 = .ok (.iload_n 1, 1) := by decide +kernel
theorem own_holds_d67 : decode prog_8_method_9_code 67 = .ok (.ifCond .eq 7, 3) := by decide +kernel
theorem own_holds_d70 : decode prog_8_method_9_code 70 = .ok (.iconst 1, 1) := by decide +kernel
theorem own_holds_d71 : decode prog_8_method_9_code 71 = .ok (.goto 52, 3) := by decide +kernel
theorem own_holds_d74 : decode prog_8_method_9_code 74 = .ok (.iconst 0, 1) := by decide +kernel
theorem own_holds_d75 : decode prog_8_method_9_code 75 = .ok (.goto 48, 3) := by decide +kernel
theorem own_holds_d78 : decode prog_8_method_9_code 78 = .ok (.iload_n 1, 1) := by decide +kernel
theorem own_holds_d79 : decode prog_8_method_9_code 79 = .ok (.ifCond .ge 7, 3) := by decide +kernel
theorem own_holds_d82 : decode prog_8_method_9_code 82 = .ok (.iconst 1, 1) := by decide +kernel
theorem own_holds_d83 : decode prog_8_method_9_code 83 = .ok (.goto 40, 3) := by decide +kernel
theorem own_holds_d86 : decode prog_8_method_9_code 86 = .ok (.iconst 0, 1) := by decide +kernel
theorem own_holds_d87 : decode prog_8_method_9_code 87 = .ok (.goto 36, 3) := by decide +kernel
theorem own_holds_d90 : decode prog_8_method_9_code 90 = .ok (.iload_n 1, 1) := by decide +kernel
theorem own_holds_d91 : decode prog_8_method_9_code 91 = .ok (.ifCond .gt 7, 3) := by decide +kernel
theorem own_holds_d94 : decode prog_8_method_9_code 94 = .ok (.iconst 1, 1) := by decide +kernel
theorem own_holds_d95 : decode prog_8_method_9_code 95 = .ok (.goto 28, 3) := by decide +kernel
theorem own_holds_d98 : decode prog_8_method_9_code 98 = .ok (.iconst 0, 1) := by decide +kernel
theorem own_holds_d99 : decode prog_8_method_9_code 99 = .ok (.goto 24, 3) := by decide +kernel
theorem own_holds_d102 : decode prog_8_method_9_code 102 = .ok (.iload_n 1, 1) := by decide +kernel
theorem own_holds_d103 : decode prog_8_method_9_code 103 = .ok (.ifCond .le 7, 3) := by decide +kernel
theorem own_holds_d106 : decode prog_8_method_9_code 106 = .ok (.iconst 1, 1) := by decide +kernel
theorem own_holds_d107 : decode prog_8_method_9_code 107 = .ok (.goto 16, 3) := by decide +kernel
theorem own_holds_d110 : decode prog_8_method_9_code 110 = .ok (.iconst 0, 1) := by decide +kernel
theorem own_holds_d111 : decode prog_8_method_9_code 111 = .ok (.goto 12, 3) := by decide +kernel
theorem own_holds_d114 : decode prog_8_method_9_code 114 = .ok (.iload_n 1, 1) := by decide +kernel
theorem own_holds_d115 : decode prog_8_method_9_code 115 = .ok (.ifCond .lt 7, 3) := by decide +kernel
theorem own_holds_d118 : decode prog_8_method_9_code 118 = .ok (.iconst 1, 1) := by decide +kernel
theorem own_holds_d119 : decode prog_8_method_9_code 119 = .ok (.goto 4, 3) := by decide +kernel
theorem own_holds_d122 : decode prog_8_method_9_code 122 = .ok (.iconst 0, 1) := by decide +kernel
theorem own_holds_d123 : decode prog_8_method_9_code 123 = .ok (.ireturn, 1) := by decide +kernel
theorem own_holds_pn : plainFor (⟨"com/example/polyquery/polyquery/catalog/Comparison$Operator", "holds", "(I)Z"⟩ : MethodName) = true := by first | exact plainFor_of_name (by first | (simp [plainName, overriddenIn]; done) | decide +kernel) | decide +kernel
theorem own_holds_ef (m : MethodId) (x0 : Addr) (x1 : Int32) : entryFrame m #[(.ref x0), (.int x1)] 2 = mkF m 0 #[.val (.ref x0), .val (.int x1)] [] := by first | (simp [entryFrame, mkF, argsToLocals, Value.category]; done) | rfl
def own_holds_Q (Z : State) (a1 : Addr) (p1 : Int32) (o1 : Int32) (r : Int32) (h0 : Heap) (n0 : Nat) (v : Option Value) (h : Heap) (L : List Loc) : Prop := v = some (.int r) ∧ Fr n0 L ∧ h = h0
set_option maxRecDepth 65536 in
set_option maxHeartbeats 40000000 in
theorem own_holds (l : Launch) (Z : State) (a0 : Array Value) (hw : ∀ d ∈ tables_1, d.before a0 Z = true) (ws : List Jvm.Cond) (a1 : Addr) (p1 : Int32) (o1 : Int32) (r : Int32) (h0 : Heap) (n0 : Nat) (O : Old Z n0 h0) (E_a1 : Exa Z Z.heap a1 "com/example/polyquery/polyquery/catalog/Comparison$Operator") (F_ord : Fld Z Z.heap a1 "java/lang/Enum" "ordinal" "I" (.int o1)) (ho : o1 = 0 ∨ o1 = 1 ∨ o1 = 2 ∨ o1 = 3 ∨ o1 = 4 ∨ o1 = 5) (hr : r = own_holdsV o1 p1) :
    MetFree l (⟨"com/example/polyquery/polyquery/catalog/Comparison$Operator", "holds", "(I)Z"⟩ : MethodName) (head1 (Jvm.Cond.code (⟨"com/example/polyquery/polyquery/catalog/Comparison$Operator", "holds", "(I)Z"⟩ : MethodName) prog_8_method_9_code 2 (some .boolean) :: ws) ({ frames := 1, cells := 0, slots := 0, locals := 12 } : Room)) (fun a U => a = #[(.ref a1), (.int p1)] ∧ Z.Warmed39 U.vm ∧ U.heap = h0) (fun _ _ _ _ _ => True) (fun _ U o U' => ∃ v L, o = .returned v ∧ own_holds_Q Z a1 p1 o1 r h0 n0 v U'.heap L ∧ FrameEnd U o U' L ({ frames := 1, cells := 0, slots := 0, locals := 12 } : Room).cells ({ frames := 1, cells := 0, slots := 0, locals := 12 } : Room).slots) := by
  refine MetFree.of_bodySF own_holds_pn hisR ?_
  intro p e s m args below meth c s₁ Bd hml0 hP hK
  obtain ⟨rfl, hZ, hh⟩ := hP
  have hx := Bd.exec
  have hby := Bd.bytes
  have hlk := Bd.notSynchronized
  have hml : c.maxLocals = 2 := hml0
  have hown : s.vm.findClass "com/example/polyquery/polyquery/catalog/Comparison$Operator" = some m.cls := findClass_of_methodNamed Bd.named
  have hnm := (name_of_methodNamed Bd.named Bd.method).1
  have X : Stand p l e ({ frames := 1, cells := 0, slots := 0, locals := 12 } : Room) s m #[(.ref a1), (.int p1)] below meth c s₁ [] 0 0 := Stand.of_body Bd
  have eT : s₁.heap = h0 := by rw [← hh, Bd.state]; rfl
  have N := Fr.nil n0
  have K0 := Keep.refl h0 []
  show own_Ends p e below (own_Post s below (own_holds_Q Z a1 p1 o1 r h0 n0) ({ frames := 1, cells := 0, slots := 0, locals := 12 } : Room).cells ({ frames := 1, cells := 0, slots := 0, locals := 12 } : Room).slots) s₁ (entryFrame m #[(.ref a1), (.int p1)] 2)
  rw [own_holds_ef m a1 p1]
  obtain ⟨T, hT⟩ : ∃ z, z = s₁ := ⟨_, rfl⟩
  rw [← hT] at X eT ⊢
  obtain ⟨h, hh0⟩ : ∃ z, z = h0 := ⟨_, rfl⟩
  rw [← hh0] at eT
  replace O : Old Z n0 h := by rw [hh0]; exact O
  replace K0 : Keep h0 h [] := by rw [hh0]; exact K0
  refine own_via (T' := T) (g' := (mkF m 1 #[.val (.ref a1), .val (.int p1)] [(.ref a1)])) (fun t_ k_ => XS.aloadN X.here hx rfl (hb hby own_holds_d0) rfl rfl k_) ?_
  obtain ⟨cq, kq, qa, qb, qc⟩ := isOf hZ eT (E_a1.ext O.2)
  obtain ⟨_, _, ⟨T, Lq, kq, nq⟩, -, X, ⟨Lc, hQ, lq, yq, zq⟩, st⟩ := X.virtualBackUp hx (x := (⟨"com/example/polyquery/polyquery/catalog/Comparison$Operator", "ordinal", "()I"⟩ : MethodName)) (y := (⟨"java/lang/Enum", "ordinal", "()I"⟩ : MethodName)) (owner := "java/lang/Enum") hown (mvT hZ (hw _ (List.mem_of_getElem? (i := 20) rfl))) (mvT hZ (hw _ (List.mem_of_getElem? (i := 21) rfl))) (mvT hZ (hw _ (List.mem_of_getElem? (i := 22) rfl))) (by decide) (mvT hZ (hw _ (List.mem_of_getElem? (i := 24) rfl))) (mvT hZ (hw _ (List.mem_of_getElem? (i := 23) rfl))) (backOf (W := 0) (own_ordinal l Z a0 hw [] a1 o1 h n0 O F_ord) hZ (hw _ (List.mem_of_getElem? (i := 26) rfl)) (hw _ (List.mem_of_getElem? (i := 25) rfl)) (by decide) (by decide)) qa qc (g := (mkF m 1 #[.val (.ref a1), .val (.int p1)] [(.ref a1)])) rfl (by rw [hml]; rfl) (Steps.refl _) (argsL := []) (rest := []) (lenOf own_pd0 rfl) rfl (by show 2 * 0 + _ ≤ _; exact Nat.le_of_eq rfl) (hb hby own_holds_d1) (fun _ _ => ⟨rfl, eT, (by decide : 0 + 0 ≤ _), (by decide : 0 + 0 ≤ _)⟩)
  dsimp only [Pt.U, Pt.locs, Pt.cells, Pt.slots] at X lq yq zq st hQ
  subst lq yq zq
  obtain ⟨rfl, Nq, eT⟩ := hQ
  replace N := Fr.app N Nq
  refine own_viaT (g' := (mkF m 4 #[.val (.ref a1), .val (.int p1)] [(.int o1)])) st ?_
  by_cases hc1 : o1 = (0 : Int32)
  · refine own_via (T' := T) (g' := (mkF m 54 #[.val (.ref a1), .val (.int p1)] [])) (fun t_ k_ => XS.tswIn X.here hx rfl (pc0 := 4) (pc' := 54) rfl (hb hby own_holds_d4) (i := o1) rfl (by rw [hc1]; decide) (o := 50) (by rw [hc1]; decide) (by decide) (by decide) k_) ?_
    refine own_via (T' := T) (g' := (mkF m 55 #[.val (.ref a1), .val (.int p1)] [(.int p1)])) (fun t_ k_ => XS.iloadN X.here hx rfl (hb hby own_holds_d54) rfl k_) ?_
    by_cases hc2 : p1 = (0 : Int32)
    · refine own_via (T' := T) (g' := (mkF m 58 #[.val (.ref a1), .val (.int p1)] [])) (fun t_ k_ => XS.ifNo X.here hx rfl (hb hby own_holds_d55) rfl ((if0 _ _).trans (teq hc2).2) k_) ?_
      refine own_via (T' := T) (g' := (mkF m 59 #[.val (.ref a1), .val (.int p1)] [(.int (1 : Int32))])) (fun t_ k_ => XS.iconst X.here hx rfl (hb hby own_holds_d58) k_) ?_
      refine own_via (T' := T) (g' := (mkF m 123 #[.val (.ref a1), .val (.int p1)] [(.int (1 : Int32))])) (fun t_ k_ => XS.goto X.here hx rfl (pc0 := 59) (pc' := 123) rfl (hb hby own_holds_d59) (by decide) (by decide) k_) ?_
      refine own_retN X hx hlk (t := .boolean) Bd.returns (by simp) (hb hby own_holds_d123) (by decide) (by decide) ?_
      rw [eT]
      exact ⟨by rw [hr]; simp [own_holdsV, own_nb0, own_nb1, hc1, hc2], N, hh0⟩
    · refine own_via (T' := T) (g' := (mkF m 62 #[.val (.ref a1), .val (.int p1)] [])) (fun t_ k_ => XS.ifYes X.here hx rfl (pc0 := 55) (pc' := 62) rfl (hb hby own_holds_d55) rfl ((if0 _ _).trans (feq hc2).2) (by decide) (by decide) k_) ?_
      refine own_via (T' := T) (g' := (mkF m 63 #[.val (.ref a1), .val (.int p1)] [(.int (0 : Int32))])) (fun t_ k_ => XS.iconst X.here hx rfl (hb hby own_holds_d62) k_) ?_
      refine own_via (T' := T) (g' := (mkF m 123 #[.val (.ref a1), .val (.int p1)] [(.int (0 : Int32))])) (fun t_ k_ => XS.goto X.here hx rfl (pc0 := 63) (pc' := 123) rfl (hb hby own_holds_d63) (by decide) (by decide) k_) ?_
      refine own_retN X hx hlk (t := .boolean) Bd.returns (by simp) (hb hby own_holds_d123) (by decide) (by decide) ?_
      rw [eT]
      exact ⟨by rw [hr]; simp [own_holdsV, own_nb0, own_nb1, hc1, hc2], N, hh0⟩
  by_cases hc3 : o1 = (1 : Int32)
  · refine own_via (T' := T) (g' := (mkF m 66 #[.val (.ref a1), .val (.int p1)] [])) (fun t_ k_ => XS.tswIn X.here hx rfl (pc0 := 4) (pc' := 66) rfl (hb hby own_holds_d4) (i := o1) rfl (by rw [hc3]; decide) (o := 62) (by rw [hc3]; decide) (by decide) (by decide) k_) ?_
    refine own_via (T' := T) (g' := (mkF m 67 #[.val (.ref a1), .val (.int p1)] [(.int p1)])) (fun t_ k_ => XS.iloadN X.here hx rfl (hb hby own_holds_d66) rfl k_) ?_
    by_cases hc4 : p1 = (0 : Int32)
    · refine own_via (T' := T) (g' := (mkF m 74 #[.val (.ref a1), .val (.int p1)] [])) (fun t_ k_ => XS.ifYes X.here hx rfl (pc0 := 67) (pc' := 74) rfl (hb hby own_holds_d67) rfl ((if0 _ _).trans (teq hc4).1) (by decide) (by decide) k_) ?_
      refine own_via (T' := T) (g' := (mkF m 75 #[.val (.ref a1), .val (.int p1)] [(.int (0 : Int32))])) (fun t_ k_ => XS.iconst X.here hx rfl (hb hby own_holds_d74) k_) ?_
      refine own_via (T' := T) (g' := (mkF m 123 #[.val (.ref a1), .val (.int p1)] [(.int (0 : Int32))])) (fun t_ k_ => XS.goto X.here hx rfl (pc0 := 75) (pc' := 123) rfl (hb hby own_holds_d75) (by decide) (by decide) k_) ?_
      refine own_retN X hx hlk (t := .boolean) Bd.returns (by simp) (hb hby own_holds_d123) (by decide) (by decide) ?_
      rw [eT]
      exact ⟨by rw [hr]; simp [own_holdsV, own_nb0, own_nb1, hc1, hc3, hc4], N, hh0⟩
    · refine own_via (T' := T) (g' := (mkF m 70 #[.val (.ref a1), .val (.int p1)] [])) (fun t_ k_ => XS.ifNo X.here hx rfl (hb hby own_holds_d67) rfl ((if0 _ _).trans (feq hc4).1) k_) ?_
      refine own_via (T' := T) (g' := (mkF m 71 #[.val (.ref a1), .val (.int p1)] [(.int (1 : Int32))])) (fun t_ k_ => XS.iconst X.here hx rfl (hb hby own_holds_d70) k_) ?_
      refine own_via (T' := T) (g' := (mkF m 123 #[.val (.ref a1), .val (.int p1)] [(.int (1 : Int32))])) (fun t_ k_ => XS.goto X.here hx rfl (pc0 := 71) (pc' := 123) rfl (hb hby own_holds_d71) (by decide) (by decide) k_) ?_
      refine own_retN X hx hlk (t := .boolean) Bd.returns (by simp) (hb hby own_holds_d123) (by decide) (by decide) ?_
      rw [eT]
      exact ⟨by rw [hr]; simp [own_holdsV, own_nb0, own_nb1, hc1, hc3, hc4], N, hh0⟩
  by_cases hc5 : o1 = (2 : Int32)
  · refine own_via (T' := T) (g' := (mkF m 78 #[.val (.ref a1), .val (.int p1)] [])) (fun t_ k_ => XS.tswIn X.here hx rfl (pc0 := 4) (pc' := 78) rfl (hb hby own_holds_d4) (i := o1) rfl (by rw [hc5]; decide) (o := 74) (by rw [hc5]; decide) (by decide) (by decide) k_) ?_
    refine own_via (T' := T) (g' := (mkF m 79 #[.val (.ref a1), .val (.int p1)] [(.int p1)])) (fun t_ k_ => XS.iloadN X.here hx rfl (hb hby own_holds_d78) rfl k_) ?_
    by_cases hc6 : p1 < (0 : Int32)
    · refine own_via (T' := T) (g' := (mkF m 82 #[.val (.ref a1), .val (.int p1)] [])) (fun t_ k_ => XS.ifNo X.here hx rfl (hb hby own_holds_d79) rfl ((if0 _ _).trans (tlt hc6).2.1) k_) ?_
      refine own_via (T' := T) (g' := (mkF m 83 #[.val (.ref a1), .val (.int p1)] [(.int (1 : Int32))])) (fun t_ k_ => XS.iconst X.here hx rfl (hb hby own_holds_d82) k_) ?_
      refine own_via (T' := T) (g' := (mkF m 123 #[.val (.ref a1), .val (.int p1)] [(.int (1 : Int32))])) (fun t_ k_ => XS.goto X.here hx rfl (pc0 := 83) (pc' := 123) rfl (hb hby own_holds_d83) (by decide) (by decide) k_) ?_
      refine own_retN X hx hlk (t := .boolean) Bd.returns (by simp) (hb hby own_holds_d123) (by decide) (by decide) ?_
      rw [eT]
      exact ⟨by rw [hr]; simp [own_holdsV, own_nb0, own_nb1, hc1, hc3, hc5, hc6], N, hh0⟩
    · refine own_via (T' := T) (g' := (mkF m 86 #[.val (.ref a1), .val (.int p1)] [])) (fun t_ k_ => XS.ifYes X.here hx rfl (pc0 := 79) (pc' := 86) rfl (hb hby own_holds_d79) rfl ((if0 _ _).trans (flt hc6).2.1) (by decide) (by decide) k_) ?_
      refine own_via (T' := T) (g' := (mkF m 87 #[.val (.ref a1), .val (.int p1)] [(.int (0 : Int32))])) (fun t_ k_ => XS.iconst X.here hx rfl (hb hby own_holds_d86) k_) ?_
      refine own_via (T' := T) (g' := (mkF m 123 #[.val (.ref a1), .val (.int p1)] [(.int (0 : Int32))])) (fun t_ k_ => XS.goto X.here hx rfl (pc0 := 87) (pc' := 123) rfl (hb hby own_holds_d87) (by decide) (by decide) k_) ?_
      refine own_retN X hx hlk (t := .boolean) Bd.returns (by simp) (hb hby own_holds_d123) (by decide) (by decide) ?_
      rw [eT]
      exact ⟨by rw [hr]; simp [own_holdsV, own_nb0, own_nb1, hc1, hc3, hc5, hc6], N, hh0⟩
  by_cases hc7 : o1 = (3 : Int32)
  · refine own_via (T' := T) (g' := (mkF m 90 #[.val (.ref a1), .val (.int p1)] [])) (fun t_ k_ => XS.tswIn X.here hx rfl (pc0 := 4) (pc' := 90) rfl (hb hby own_holds_d4) (i := o1) rfl (by rw [hc7]; decide) (o := 86) (by rw [hc7]; decide) (by decide) (by decide) k_) ?_
    refine own_via (T' := T) (g' := (mkF m 91 #[.val (.ref a1), .val (.int p1)] [(.int p1)])) (fun t_ k_ => XS.iloadN X.here hx rfl (hb hby own_holds_d90) rfl k_) ?_
    by_cases hc8 : (0 : Int32) < p1
    · refine own_via (T' := T) (g' := (mkF m 98 #[.val (.ref a1), .val (.int p1)] [])) (fun t_ k_ => XS.ifYes X.here hx rfl (pc0 := 91) (pc' := 98) rfl (hb hby own_holds_d91) rfl ((if0 _ _).trans (tlt hc8).2.2.1) (by decide) (by decide) k_) ?_
      refine own_via (T' := T) (g' := (mkF m 99 #[.val (.ref a1), .val (.int p1)] [(.int (0 : Int32))])) (fun t_ k_ => XS.iconst X.here hx rfl (hb hby own_holds_d98) k_) ?_
      refine own_via (T' := T) (g' := (mkF m 123 #[.val (.ref a1), .val (.int p1)] [(.int (0 : Int32))])) (fun t_ k_ => XS.goto X.here hx rfl (pc0 := 99) (pc' := 123) rfl (hb hby own_holds_d99) (by decide) (by decide) k_) ?_
      refine own_retN X hx hlk (t := .boolean) Bd.returns (by simp) (hb hby own_holds_d123) (by decide) (by decide) ?_
      rw [eT]
      exact ⟨by rw [hr]; simp [own_holdsV, own_nb0, own_nb1, hc1, hc3, hc5, hc7, hc8], N, hh0⟩
    · refine own_via (T' := T) (g' := (mkF m 94 #[.val (.ref a1), .val (.int p1)] [])) (fun t_ k_ => XS.ifNo X.here hx rfl (hb hby own_holds_d91) rfl ((if0 _ _).trans (flt hc8).2.2.1) k_) ?_
      refine own_via (T' := T) (g' := (mkF m 95 #[.val (.ref a1), .val (.int p1)] [(.int (1 : Int32))])) (fun t_ k_ => XS.iconst X.here hx rfl (hb hby own_holds_d94) k_) ?_
      refine own_via (T' := T) (g' := (mkF m 123 #[.val (.ref a1), .val (.int p1)] [(.int (1 : Int32))])) (fun t_ k_ => XS.goto X.here hx rfl (pc0 := 95) (pc' := 123) rfl (hb hby own_holds_d95) (by decide) (by decide) k_) ?_
      refine own_retN X hx hlk (t := .boolean) Bd.returns (by simp) (hb hby own_holds_d123) (by decide) (by decide) ?_
      rw [eT]
      exact ⟨by rw [hr]; simp [own_holdsV, own_nb0, own_nb1, hc1, hc3, hc5, hc7, hc8], N, hh0⟩
  by_cases hc9 : o1 = (4 : Int32)
  · refine own_via (T' := T) (g' := (mkF m 102 #[.val (.ref a1), .val (.int p1)] [])) (fun t_ k_ => XS.tswIn X.here hx rfl (pc0 := 4) (pc' := 102) rfl (hb hby own_holds_d4) (i := o1) rfl (by rw [hc9]; decide) (o := 98) (by rw [hc9]; decide) (by decide) (by decide) k_) ?_
    refine own_via (T' := T) (g' := (mkF m 103 #[.val (.ref a1), .val (.int p1)] [(.int p1)])) (fun t_ k_ => XS.iloadN X.here hx rfl (hb hby own_holds_d102) rfl k_) ?_
    by_cases hc10 : (0 : Int32) < p1
    · refine own_via (T' := T) (g' := (mkF m 106 #[.val (.ref a1), .val (.int p1)] [])) (fun t_ k_ => XS.ifNo X.here hx rfl (hb hby own_holds_d103) rfl ((if0 _ _).trans (tlt hc10).2.2.2) k_) ?_
      refine own_via (T' := T) (g' := (mkF m 107 #[.val (.ref a1), .val (.int p1)] [(.int (1 : Int32))])) (fun t_ k_ => XS.iconst X.here hx rfl (hb hby own_holds_d106) k_) ?_
      refine own_via (T' := T) (g' := (mkF m 123 #[.val (.ref a1), .val (.int p1)] [(.int (1 : Int32))])) (fun t_ k_ => XS.goto X.here hx rfl (pc0 := 107) (pc' := 123) rfl (hb hby own_holds_d107) (by decide) (by decide) k_) ?_
      refine own_retN X hx hlk (t := .boolean) Bd.returns (by simp) (hb hby own_holds_d123) (by decide) (by decide) ?_
      rw [eT]
      exact ⟨by rw [hr]; simp [own_holdsV, own_nb0, own_nb1, hc1, hc3, hc5, hc7, hc9, hc10], N, hh0⟩
    · refine own_via (T' := T) (g' := (mkF m 110 #[.val (.ref a1), .val (.int p1)] [])) (fun t_ k_ => XS.ifYes X.here hx rfl (pc0 := 103) (pc' := 110) rfl (hb hby own_holds_d103) rfl ((if0 _ _).trans (flt hc10).2.2.2) (by decide) (by decide) k_) ?_
      refine own_via (T' := T) (g' := (mkF m 111 #[.val (.ref a1), .val (.int p1)] [(.int (0 : Int32))])) (fun t_ k_ => XS.iconst X.here hx rfl (hb hby own_holds_d110) k_) ?_
      refine own_via (T' := T) (g' := (mkF m 123 #[.val (.ref a1), .val (.int p1)] [(.int (0 : Int32))])) (fun t_ k_ => XS.goto X.here hx rfl (pc0 := 111) (pc' := 123) rfl (hb hby own_holds_d111) (by decide) (by decide) k_) ?_
      refine own_retN X hx hlk (t := .boolean) Bd.returns (by simp) (hb hby own_holds_d123) (by decide) (by decide) ?_
      rw [eT]
      exact ⟨by rw [hr]; simp [own_holdsV, own_nb0, own_nb1, hc1, hc3, hc5, hc7, hc9, hc10], N, hh0⟩
  by_cases hc11 : o1 = (5 : Int32)
  · refine own_via (T' := T) (g' := (mkF m 114 #[.val (.ref a1), .val (.int p1)] [])) (fun t_ k_ => XS.tswIn X.here hx rfl (pc0 := 4) (pc' := 114) rfl (hb hby own_holds_d4) (i := o1) rfl (by rw [hc11]; decide) (o := 110) (by rw [hc11]; decide) (by decide) (by decide) k_) ?_
    refine own_via (T' := T) (g' := (mkF m 115 #[.val (.ref a1), .val (.int p1)] [(.int p1)])) (fun t_ k_ => XS.iloadN X.here hx rfl (hb hby own_holds_d114) rfl k_) ?_
    by_cases hc12 : p1 < (0 : Int32)
    · refine own_via (T' := T) (g' := (mkF m 122 #[.val (.ref a1), .val (.int p1)] [])) (fun t_ k_ => XS.ifYes X.here hx rfl (pc0 := 115) (pc' := 122) rfl (hb hby own_holds_d115) rfl ((if0 _ _).trans (tlt hc12).1) (by decide) (by decide) k_) ?_
      refine own_via (T' := T) (g' := (mkF m 123 #[.val (.ref a1), .val (.int p1)] [(.int (0 : Int32))])) (fun t_ k_ => XS.iconst X.here hx rfl (hb hby own_holds_d122) k_) ?_
      refine own_retN X hx hlk (t := .boolean) Bd.returns (by simp) (hb hby own_holds_d123) (by decide) (by decide) ?_
      rw [eT]
      exact ⟨by rw [hr]; simp [own_holdsV, own_nb0, own_nb1, hc1, hc3, hc5, hc7, hc9, hc11, hc12], N, hh0⟩
    · refine own_via (T' := T) (g' := (mkF m 118 #[.val (.ref a1), .val (.int p1)] [])) (fun t_ k_ => XS.ifNo X.here hx rfl (hb hby own_holds_d115) rfl ((if0 _ _).trans (flt hc12).1) k_) ?_
      refine own_via (T' := T) (g' := (mkF m 119 #[.val (.ref a1), .val (.int p1)] [(.int (1 : Int32))])) (fun t_ k_ => XS.iconst X.here hx rfl (hb hby own_holds_d118) k_) ?_
      refine own_via (T' := T) (g' := (mkF m 123 #[.val (.ref a1), .val (.int p1)] [(.int (1 : Int32))])) (fun t_ k_ => XS.goto X.here hx rfl (pc0 := 119) (pc' := 123) rfl (hb hby own_holds_d119) (by decide) (by decide) k_) ?_
      refine own_retN X hx hlk (t := .boolean) Bd.returns (by simp) (hb hby own_holds_d123) (by decide) (by decide) ?_
      rw [eT]
      exact ⟨by rw [hr]; simp [own_holdsV, own_nb0, own_nb1, hc1, hc3, hc5, hc7, hc9, hc11, hc12], N, hh0⟩
  rcases ho with q | q | q | q | q | q
  · exact absurd q hc1
  · exact absurd q hc3
  · exact absurd q hc5
  · exact absurd q hc7
  · exact absurd q hc9
  · exact absurd q hc11
theorem own_swapped_d0 : decode prog_8_method_7_code 0 = .ok (.aload_n 0, 1) := by decide +kernel
theorem own_swapped_d1 : decode prog_8_method_7_code 1 = .ok (.invokevirtual 55, 3) := by decide +kernel
theorem own_swapped_d4 : decode prog_8_method_7_code 4 = .ok (.tableswitch 40 0 5 #[50, 50, 54, 60, 66, 72], 40) := by decide +kernel
theorem own_swapped_d54 : decode prog_8_method_7_code 54 = .ok (.aload_n 0, 1) := by decide +kernel
theorem own_swapped_d55 : decode prog_8_method_7_code 55 = .ok (.goto 24, 3) := by decide +kernel
theorem own_swapped_d58 : decode prog_8_method_7_code 58 = .ok (.getstatic 16, 3) := by decide +kernel
theorem own_swapped_d61 : decode prog_8_method_7_code 61 = .ok (.goto 18, 3) := by decide +kernel
theorem own_swapped_d64 : decode prog_8_method_7_code 64 = .ok (.getstatic 19, 3) := by decide +kernel
theorem own_swapped_d67 : decode prog_8_method_7_code 67 = .ok (.goto 12, 3) := by decide +kernel
theorem own_swapped_d70 : decode prog_8_method_7_code 70 = .ok (.getstatic 10, 3) := by decide +kernel
theorem own_swapped_d73 : decode prog_8_method_7_code 73 = .ok (.goto 6, 3) := by decide +kernel
theorem own_swapped_d76 : decode prog_8_method_7_code 76 = .ok (.getstatic 13, 3) := by decide +kernel
theorem own_swapped_d79 : decode prog_8_method_7_code 79 = .ok (.areturn, 1) := by decide +kernel
theorem own_swapped_pn : plainFor (⟨"com/example/polyquery/polyquery/catalog/Comparison$Operator", "swapped", "()Lcom/example/polyquery/polyquery/catalog/Comparison$Operator;"⟩ : MethodName) = true := by first | exact plainFor_of_name (by first | (simp [plainName, overriddenIn]; done) | decide +kernel) | decide +kernel
theorem own_swapped_ef (m : MethodId) (x0 : Addr) : entryFrame m #[(.ref x0)] 1 = mkF m 0 #[.val (.ref x0)] [] := by first | (simp [entryFrame, mkF, argsToLocals, Value.category]; done) | rfl
def own_swapped_Q (Z : State) (a1 : Addr) (o1 : Int32) (wEQUAL : Addr) (wNOT_EQUAL : Addr) (wLESS : Addr) (wLESS_OR_EQUAL : Addr) (wGREATER : Addr) (wGREATER_OR_EQUAL : Addr) (r : Addr) (h0 : Heap) (n0 : Nat) (v : Option Value) (h : Heap) (L : List Loc) : Prop := v = some (.ref r) ∧ Fr n0 L ∧ h = h0
set_option maxRecDepth 65536 in
set_option maxHeartbeats 40000000 in
theorem own_swapped (l : Launch) (Z : State) (a0 : Array Value) (hw : ∀ d ∈ tables_1, d.before a0 Z = true) (ws : List Jvm.Cond) (a1 : Addr) (o1 : Int32) (wEQUAL : Addr) (wNOT_EQUAL : Addr) (wLESS : Addr) (wLESS_OR_EQUAL : Addr) (wGREATER : Addr) (wGREATER_OR_EQUAL : Addr) (r : Addr) (h0 : Heap) (n0 : Nat) (O : Old Z n0 h0) (E_a1 : Exa Z Z.heap a1 "com/example/polyquery/polyquery/catalog/Comparison$Operator") (F_ord : Fld Z Z.heap a1 "java/lang/Enum" "ordinal" "I" (.int o1)) (ho : o1 = 0 ∨ o1 = 1 ∨ o1 = 2 ∨ o1 = 3 ∨ o1 = 4 ∨ o1 = 5) (S_EQUAL : Sta Z Z.heap "com/example/polyquery/polyquery/catalog/Comparison$Operator" "EQUAL" "Lcom/example/polyquery/polyquery/catalog/Comparison$Operator;" (.ref wEQUAL)) (S_NOT_EQUAL : Sta Z Z.heap "com/example/polyquery/polyquery/catalog/Comparison$Operator" "NOT_EQUAL" "Lcom/example/polyquery/polyquery/catalog/Comparison$Operator;" (.ref wNOT_EQUAL)) (S_LESS : Sta Z Z.heap "com/example/polyquery/polyquery/catalog/Comparison$Operator" "LESS" "Lcom/example/polyquery/polyquery/catalog/Comparison$Operator;" (.ref wLESS)) (S_LESS_OR_EQUAL : Sta Z Z.heap "com/example/polyquery/polyquery/catalog/Comparison$Operator" "LESS_OR_EQUAL" "Lcom/example/polyquery/polyquery/catalog/Comparison$Operator;" (.ref wLESS_OR_EQUAL)) (S_GREATER : Sta Z Z.heap "com/example/polyquery/polyquery/catalog/Comparison$Operator" "GREATER" "Lcom/example/polyquery/polyquery/catalog/Comparison$Operator;" (.ref wGREATER)) (S_GREATER_OR_EQUAL : Sta Z Z.heap "com/example/polyquery/polyquery/catalog/Comparison$Operator" "GREATER_OR_EQUAL" "Lcom/example/polyquery/polyquery/catalog/Comparison$Operator;" (.ref wGREATER_OR_EQUAL)) (hr : r = own_swapV o1 a1 wEQUAL wNOT_EQUAL wLESS wLESS_OR_EQUAL wGREATER wGREATER_OR_EQUAL) :
    MetFree l (⟨"com/example/polyquery/polyquery/catalog/Comparison$Operator", "swapped", "()Lcom/example/polyquery/polyquery/catalog/Comparison$Operator;"⟩ : MethodName) (head1 (Jvm.Cond.code (⟨"com/example/polyquery/polyquery/catalog/Comparison$Operator", "swapped", "()Lcom/example/polyquery/polyquery/catalog/Comparison$Operator;"⟩ : MethodName) prog_8_method_7_code 1 (some (.object "com/example/polyquery/polyquery/catalog/Comparison$Operator")) :: ws) ({ frames := 1, cells := 0, slots := 0, locals := 12 } : Room)) (fun a U => a = #[(.ref a1)] ∧ Z.Warmed39 U.vm ∧ U.heap = h0) (fun _ _ _ _ _ => True) (fun _ U o U' => ∃ v L, o = .returned v ∧ own_swapped_Q Z a1 o1 wEQUAL wNOT_EQUAL wLESS wLESS_OR_EQUAL wGREATER wGREATER_OR_EQUAL r h0 n0 v U'.heap L ∧ FrameEnd U o U' L ({ frames := 1, cells := 0, slots := 0, locals := 12 } : Room).cells ({ frames := 1, cells := 0, slots := 0, locals := 12 } : Room).slots) := by
  refine MetFree.of_bodySF own_swapped_pn hisR ?_
  intro p e s m args below meth c s₁ Bd hml0 hP hK
  obtain ⟨rfl, hZ, hh⟩ := hP
  have hx := Bd.exec
  have hby := Bd.bytes
  have hlk := Bd.notSynchronized
  have hml : c.maxLocals = 1 := hml0
  have hown : s.vm.findClass "com/example/polyquery/polyquery/catalog/Comparison$Operator" = some m.cls := findClass_of_methodNamed Bd.named
  have hnm := (name_of_methodNamed Bd.named Bd.method).1
  have X : Stand p l e ({ frames := 1, cells := 0, slots := 0, locals := 12 } : Room) s m #[(.ref a1)] below meth c s₁ [] 0 0 := Stand.of_body Bd
  have eT : s₁.heap = h0 := by rw [← hh, Bd.state]; rfl
  have N := Fr.nil n0
  have K0 := Keep.refl h0 []
  show own_Ends p e below (own_Post s below (own_swapped_Q Z a1 o1 wEQUAL wNOT_EQUAL wLESS wLESS_OR_EQUAL wGREATER wGREATER_OR_EQUAL r h0 n0) ({ frames := 1, cells := 0, slots := 0, locals := 12 } : Room).cells ({ frames := 1, cells := 0, slots := 0, locals := 12 } : Room).slots) s₁ (entryFrame m #[(.ref a1)] 1)
  rw [own_swapped_ef m a1]
  obtain ⟨T, hT⟩ : ∃ z, z = s₁ := ⟨_, rfl⟩
  rw [← hT] at X eT ⊢
  obtain ⟨h, hh0⟩ : ∃ z, z = h0 := ⟨_, rfl⟩
  rw [← hh0] at eT
  replace O : Old Z n0 h := by rw [hh0]; exact O
  replace K0 : Keep h0 h [] := by rw [hh0]; exact K0
  refine own_via (T' := T) (g' := (mkF m 1 #[.val (.ref a1)] [(.ref a1)])) (fun t_ k_ => XS.aloadN X.here hx rfl (hb hby own_swapped_d0) rfl rfl k_) ?_
  obtain ⟨cq, kq, qa, qb, qc⟩ := isOf hZ eT (E_a1.ext O.2)
  obtain ⟨_, _, ⟨T, Lq, kq, nq⟩, -, X, ⟨Lc, hQ, lq, yq, zq⟩, st⟩ := X.virtualBackUp hx (x := (⟨"com/example/polyquery/polyquery/catalog/Comparison$Operator", "ordinal", "()I"⟩ : MethodName)) (y := (⟨"java/lang/Enum", "ordinal", "()I"⟩ : MethodName)) (owner := "java/lang/Enum") hown (mvT hZ (hw _ (List.mem_of_getElem? (i := 20) rfl))) (mvT hZ (hw _ (List.mem_of_getElem? (i := 21) rfl))) (mvT hZ (hw _ (List.mem_of_getElem? (i := 22) rfl))) (by decide) (mvT hZ (hw _ (List.mem_of_getElem? (i := 24) rfl))) (mvT hZ (hw _ (List.mem_of_getElem? (i := 23) rfl))) (backOf (W := 0) (own_ordinal l Z a0 hw [] a1 o1 h n0 O F_ord) hZ (hw _ (List.mem_of_getElem? (i := 26) rfl)) (hw _ (List.mem_of_getElem? (i := 25) rfl)) (by decide) (by decide)) qa qc (g := (mkF m 1 #[.val (.ref a1)] [(.ref a1)])) rfl (by rw [hml]; rfl) (Steps.refl _) (argsL := []) (rest := []) (lenOf own_pd0 rfl) rfl (by show 2 * 0 + _ ≤ _; exact Nat.le_of_eq rfl) (hb hby own_swapped_d1) (fun _ _ => ⟨rfl, eT, (by decide : 0 + 0 ≤ _), (by decide : 0 + 0 ≤ _)⟩)
  dsimp only [Pt.U, Pt.locs, Pt.cells, Pt.slots] at X lq yq zq st hQ
  subst lq yq zq
  obtain ⟨rfl, Nq, eT⟩ := hQ
  replace N := Fr.app N Nq
  refine own_viaT (g' := (mkF m 4 #[.val (.ref a1)] [(.int o1)])) st ?_
  by_cases hc1 : o1 = (0 : Int32)
  · refine own_via (T' := T) (g' := (mkF m 54 #[.val (.ref a1)] [])) (fun t_ k_ => XS.tswIn X.here hx rfl (pc0 := 4) (pc' := 54) rfl (hb hby own_swapped_d4) (i := o1) rfl (by rw [hc1]; decide) (o := 50) (by rw [hc1]; decide) (by decide) (by decide) k_) ?_
    refine own_via (T' := T) (g' := (mkF m 55 #[.val (.ref a1)] [(.ref a1)])) (fun t_ k_ => XS.aloadN X.here hx rfl (hb hby own_swapped_d54) rfl rfl k_) ?_
    refine own_via (T' := T) (g' := (mkF m 79 #[.val (.ref a1)] [(.ref a1)])) (fun t_ k_ => XS.goto X.here hx rfl (pc0 := 55) (pc' := 79) rfl (hb hby own_swapped_d55) (by decide) (by decide) k_) ?_
    refine own_retW X hx hlk Bd.returns rfl (Or.inr (Or.inr (Or.inr (Or.inr ⟨rfl, rfl, rfl⟩)))) (hb hby own_swapped_d79) (by decide) (by decide) ?_
    rw [eT]
    exact ⟨by rw [hr]; simp [own_swapV, hc1], N, hh0⟩
  by_cases hc2 : o1 = (1 : Int32)
  · refine own_via (T' := T) (g' := (mkF m 54 #[.val (.ref a1)] [])) (fun t_ k_ => XS.tswIn X.here hx rfl (pc0 := 4) (pc' := 54) rfl (hb hby own_swapped_d4) (i := o1) rfl (by rw [hc2]; decide) (o := 50) (by rw [hc2]; decide) (by decide) (by decide) k_) ?_
    refine own_via (T' := T) (g' := (mkF m 55 #[.val (.ref a1)] [(.ref a1)])) (fun t_ k_ => XS.aloadN X.here hx rfl (hb hby own_swapped_d54) rfl rfl k_) ?_
    refine own_via (T' := T) (g' := (mkF m 79 #[.val (.ref a1)] [(.ref a1)])) (fun t_ k_ => XS.goto X.here hx rfl (pc0 := 55) (pc' := 79) rfl (hb hby own_swapped_d55) (by decide) (by decide) k_) ?_
    refine own_retW X hx hlk Bd.returns rfl (Or.inr (Or.inr (Or.inr (Or.inr ⟨rfl, rfl, rfl⟩)))) (hb hby own_swapped_d79) (by decide) (by decide) ?_
    rw [eT]
    exact ⟨by rw [hr]; simp [own_swapV, hc1, hc2], N, hh0⟩
  by_cases hc3 : o1 = (2 : Int32)
  · refine own_via (T' := T) (g' := (mkF m 58 #[.val (.ref a1)] [])) (fun t_ k_ => XS.tswIn X.here hx rfl (pc0 := 4) (pc' := 58) rfl (hb hby own_swapped_d4) (i := o1) rfl (by rw [hc3]; decide) (o := 54) (by rw [hc3]; decide) (by decide) (by decide) k_) ?_
    obtain ⟨T, X, eT, st⟩ := getS2 X hx hZ hown (host := "") (Or.inl (hw _ (List.mem_of_getElem? (i := 44) rfl))) Via.refl eT (S_GREATER.ext O.2) (g := (mkF m 58 #[.val (.ref a1)] [])) rfl (hb hby own_swapped_d58)
    refine own_via (g' := (mkF m 61 #[.val (.ref a1)] [(.ref wGREATER)])) st ?_
    refine own_via (T' := T) (g' := (mkF m 79 #[.val (.ref a1)] [(.ref wGREATER)])) (fun t_ k_ => XS.goto X.here hx rfl (pc0 := 61) (pc' := 79) rfl (hb hby own_swapped_d61) (by decide) (by decide) k_) ?_
    refine own_retW X hx hlk Bd.returns rfl (Or.inr (Or.inr (Or.inr (Or.inr ⟨rfl, rfl, rfl⟩)))) (hb hby own_swapped_d79) (by decide) (by decide) ?_
    rw [eT]
    exact ⟨by rw [hr]; simp [own_swapV, hc1, hc2, hc3], N, hh0⟩
  by_cases hc4 : o1 = (3 : Int32)
  · refine own_via (T' := T) (g' := (mkF m 64 #[.val (.ref a1)] [])) (fun t_ k_ => XS.tswIn X.here hx rfl (pc0 := 4) (pc' := 64) rfl (hb hby own_swapped_d4) (i := o1) rfl (by rw [hc4]; decide) (o := 60) (by rw [hc4]; decide) (by decide) (by decide) k_) ?_
    obtain ⟨T, X, eT, st⟩ := getS2 X hx hZ hown (host := "") (Or.inl (hw _ (List.mem_of_getElem? (i := 46) rfl))) Via.refl eT (S_GREATER_OR_EQUAL.ext O.2) (g := (mkF m 64 #[.val (.ref a1)] [])) rfl (hb hby own_swapped_d64)
    refine own_via (g' := (mkF m 67 #[.val (.ref a1)] [(.ref wGREATER_OR_EQUAL)])) st ?_
    refine own_via (T' := T) (g' := (mkF m 79 #[.val (.ref a1)] [(.ref wGREATER_OR_EQUAL)])) (fun t_ k_ => XS.goto X.here hx rfl (pc0 := 67) (pc' := 79) rfl (hb hby own_swapped_d67) (by decide) (by decide) k_) ?_
    refine own_retW X hx hlk Bd.returns rfl (Or.inr (Or.inr (Or.inr (Or.inr ⟨rfl, rfl, rfl⟩)))) (hb hby own_swapped_d79) (by decide) (by decide) ?_
    rw [eT]
    exact ⟨by rw [hr]; simp [own_swapV, hc1, hc2, hc3, hc4], N, hh0⟩
  by_cases hc5 : o1 = (4 : Int32)
  · refine own_via (T' := T) (g' := (mkF m 70 #[.val (.ref a1)] [])) (fun t_ k_ => XS.tswIn X.here hx rfl (pc0 := 4) (pc' := 70) rfl (hb hby own_swapped_d4) (i := o1) rfl (by rw [hc5]; decide) (o := 66) (by rw [hc5]; decide) (by decide) (by decide) k_) ?_
    obtain ⟨T, X, eT, st⟩ := getS2 X hx hZ hown (host := "") (Or.inl (hw _ (List.mem_of_getElem? (i := 51) rfl))) Via.refl eT (S_LESS.ext O.2) (g := (mkF m 70 #[.val (.ref a1)] [])) rfl (hb hby own_swapped_d70)
    refine own_via (g' := (mkF m 73 #[.val (.ref a1)] [(.ref wLESS)])) st ?_
    refine own_via (T' := T) (g' := (mkF m 79 #[.val (.ref a1)] [(.ref wLESS)])) (fun t_ k_ => XS.goto X.here hx rfl (pc0 := 73) (pc' := 79) rfl (hb hby own_swapped_d73) (by decide) (by decide) k_) ?_
    refine own_retW X hx hlk Bd.returns rfl (Or.inr (Or.inr (Or.inr (Or.inr ⟨rfl, rfl, rfl⟩)))) (hb hby own_swapped_d79) (by decide) (by decide) ?_
    rw [eT]
    exact ⟨by rw [hr]; simp [own_swapV, hc1, hc2, hc3, hc4, hc5], N, hh0⟩
  by_cases hc6 : o1 = (5 : Int32)
  · refine own_via (T' := T) (g' := (mkF m 76 #[.val (.ref a1)] [])) (fun t_ k_ => XS.tswIn X.here hx rfl (pc0 := 4) (pc' := 76) rfl (hb hby own_swapped_d4) (i := o1) rfl (by rw [hc6]; decide) (o := 72) (by rw [hc6]; decide) (by decide) (by decide) k_) ?_
    obtain ⟨T, X, eT, st⟩ := getS2 X hx hZ hown (host := "") (Or.inl (hw _ (List.mem_of_getElem? (i := 49) rfl))) Via.refl eT (S_LESS_OR_EQUAL.ext O.2) (g := (mkF m 76 #[.val (.ref a1)] [])) rfl (hb hby own_swapped_d76)
    refine own_via (g' := (mkF m 79 #[.val (.ref a1)] [(.ref wLESS_OR_EQUAL)])) st ?_
    refine own_retW X hx hlk Bd.returns rfl (Or.inr (Or.inr (Or.inr (Or.inr ⟨rfl, rfl, rfl⟩)))) (hb hby own_swapped_d79) (by decide) (by decide) ?_
    rw [eT]
    exact ⟨by rw [hr]; simp [own_swapV, hc1, hc2, hc3, hc4, hc5, hc6], N, hh0⟩
  rcases ho with q | q | q | q | q | q
  · exact absurd q hc1
  · exact absurd q hc2
  · exact absurd q hc3
  · exact absurd q hc4
  · exact absurd q hc5
  · exact absurd q hc6
theorem own_negated_d0 : decode prog_8_method_6_code 0 = .ok (.aload_n 0, 1) := by decide +kernel
theorem own_negated_d1 : decode prog_8_method_6_code 1 = .ok (.invokevirtual 55, 3) := by decide +kernel
theorem own_negated_d4 : decode prog_8_method_6_code 4 = .ok (.tableswitch 40 0 5 #[50, 56, 62, 68, 74, 80], 40) := by decide +kernel
theorem own_negated_d54 : decode prog_8_method_6_code 54 = .ok (.getstatic 7, 3) := by decide +kernel
theorem own_negated_d57 : decode prog_8_method_6_code 57 = .ok (.goto 30, 3) := by decide +kernel
theorem own_negated_d60 : decode prog_8_method_6_code 60 = .ok (.getstatic 3, 3) := by decide +kernel
theorem own_negated_d63 : decode prog_8_method_6_code 63 = .ok (.goto 24, 3) := by decide +kernel
theorem own_negated_d66 : decode prog_8_method_6_code 66 = .ok (.getstatic 19, 3) := by decide +kernel
theorem own_negated_d69 : decode prog_8_method_6_code 69 = .ok (.goto 18, 3) := by decide +kernel
theorem own_negated_d72 : decode prog_8_method_6_code 72 = .ok (.getstatic 16, 3) := by decide +kernel
theorem own_negated_d75 : decode prog_8_method_6_code 75 = .ok (.goto 12, 3) := by decide +kernel
theorem own_negated_d78 : decode prog_8_method_6_code 78 = .ok (.getstatic 13, 3) := by decide +kernel
theorem own_negated_d81 : decode prog_8_method_6_code 81 = .ok (.goto 6, 3) := by decide +kernel
theorem own_negated_d84 : decode prog_8_method_6_code 84 = .ok (.getstatic 10, 3) := by decide +kernel
theorem own_negated_d87 : decode prog_8_method_6_code 87 = .ok (.areturn, 1) := by decide +kernel
theorem own_negated_pn : plainFor (⟨"com/example/polyquery/polyquery/catalog/Comparison$Operator", "negated", "()Lcom/example/polyquery/polyquery/catalog/Comparison$Operator;"⟩ : MethodName) = true := by first | exact plainFor_of_name (by first | (simp [plainName, overriddenIn]; done) | decide +kernel) | decide +kernel
theorem own_negated_ef (m : MethodId) (x0 : Addr) : entryFrame m #[(.ref x0)] 1 = mkF m 0 #[.val (.ref x0)] [] := by first | (simp [entryFrame, mkF, argsToLocals, Value.category]; done) | rfl
def own_negated_Q (Z : State) (a1 : Addr) (o1 : Int32) (wEQUAL : Addr) (wNOT_EQUAL : Addr) (wLESS : Addr) (wLESS_OR_EQUAL : Addr) (wGREATER : Addr) (wGREATER_OR_EQUAL : Addr) (r : Addr) (h0 : Heap) (n0 : Nat) (v : Option Value) (h : Heap) (L : List Loc) : Prop := v = some (.ref r) ∧ Fr n0 L ∧ h = h0
set_option maxRecDepth 65536 in
set_option maxHeartbeats 40000000 in
theorem own_negated (l : Launch) (Z : State) (a0 : Array Value) (hw : ∀ d ∈ tables_1, d.before a0 Z = true) (ws : List Jvm.Cond) (a1 : Addr) (o1 : Int32) (wEQUAL : Addr) (wNOT_EQUAL : Addr) (wLESS : Addr) (wLESS_OR_EQUAL : Addr) (wGREATER : Addr) (wGREATER_OR_EQUAL : Addr) (r : Addr) (h0 : Heap) (n0 : Nat) (O : Old Z n0 h0) (E_a1 : Exa Z Z.heap a1 "com/example/polyquery/polyquery/catalog/Comparison$Operator") (F_ord : Fld Z Z.heap a1 "java/lang/Enum" "ordinal" "I" (.int o1)) (ho : o1 = 0 ∨ o1 = 1 ∨ o1 = 2 ∨ o1 = 3 ∨ o1 = 4 ∨ o1 = 5) (S_EQUAL : Sta Z Z.heap "com/example/polyquery/polyquery/catalog/Comparison$Operator" "EQUAL" "Lcom/example/polyquery/polyquery/catalog/Comparison$Operator;" (.ref wEQUAL)) (S_NOT_EQUAL : Sta Z Z.heap "com/example/polyquery/polyquery/catalog/Comparison$Operator" "NOT_EQUAL" "Lcom/example/polyquery/polyquery/catalog/Comparison$Operator;" (.ref wNOT_EQUAL)) (S_LESS : Sta Z Z.heap "com/example/polyquery/polyquery/catalog/Comparison$Operator" "LESS" "Lcom/example/polyquery/polyquery/catalog/Comparison$Operator;" (.ref wLESS)) (S_LESS_OR_EQUAL : Sta Z Z.heap "com/example/polyquery/polyquery/catalog/Comparison$Operator" "LESS_OR_EQUAL" "Lcom/example/polyquery/polyquery/catalog/Comparison$Operator;" (.ref wLESS_OR_EQUAL)) (S_GREATER : Sta Z Z.heap "com/example/polyquery/polyquery/catalog/Comparison$Operator" "GREATER" "Lcom/example/polyquery/polyquery/catalog/Comparison$Operator;" (.ref wGREATER)) (S_GREATER_OR_EQUAL : Sta Z Z.heap "com/example/polyquery/polyquery/catalog/Comparison$Operator" "GREATER_OR_EQUAL" "Lcom/example/polyquery/polyquery/catalog/Comparison$Operator;" (.ref wGREATER_OR_EQUAL)) (hr : r = own_negV o1 wEQUAL wNOT_EQUAL wLESS wLESS_OR_EQUAL wGREATER wGREATER_OR_EQUAL) :
    MetFree l (⟨"com/example/polyquery/polyquery/catalog/Comparison$Operator", "negated", "()Lcom/example/polyquery/polyquery/catalog/Comparison$Operator;"⟩ : MethodName) (head1 (Jvm.Cond.code (⟨"com/example/polyquery/polyquery/catalog/Comparison$Operator", "negated", "()Lcom/example/polyquery/polyquery/catalog/Comparison$Operator;"⟩ : MethodName) prog_8_method_6_code 1 (some (.object "com/example/polyquery/polyquery/catalog/Comparison$Operator")) :: ws) ({ frames := 1, cells := 0, slots := 0, locals := 12 } : Room)) (fun a U => a = #[(.ref a1)] ∧ Z.Warmed39 U.vm ∧ U.heap = h0) (fun _ _ _ _ _ => True) (fun _ U o U' => ∃ v L, o = .returned v ∧ own_negated_Q Z a1 o1 wEQUAL wNOT_EQUAL wLESS wLESS_OR_EQUAL wGREATER wGREATER_OR_EQUAL r h0 n0 v U'.heap L ∧ FrameEnd U o U' L ({ frames := 1, cells := 0, slots := 0, locals := 12 } : Room).cells ({ frames := 1, cells := 0, slots := 0, locals := 12 } : Room).slots) := by
  refine MetFree.of_bodySF own_negated_pn hisR ?_
  intro p e s m args below meth c s₁ Bd hml0 hP hK
  obtain ⟨rfl, hZ, hh⟩ := hP
  have hx := Bd.exec
  have hby := Bd.bytes
  have hlk := Bd.notSynchronized
  have hml : c.maxLocals = 1 := hml0
  have hown : s.vm.findClass "com/example/polyquery/polyquery/catalog/Comparison$Operator" = some m.cls := findClass_of_methodNamed Bd.named
  have hnm := (name_of_methodNamed Bd.named Bd.method).1
  have X : Stand p l e ({ frames := 1, cells := 0, slots := 0, locals := 12 } : Room) s m #[(.ref a1)] below meth c s₁ [] 0 0 := Stand.of_body Bd
  have eT : s₁.heap = h0 := by rw [← hh, Bd.state]; rfl
  have N := Fr.nil n0
  have K0 := Keep.refl h0 []
  show own_Ends p e below (own_Post s below (own_negated_Q Z a1 o1 wEQUAL wNOT_EQUAL wLESS wLESS_OR_EQUAL wGREATER wGREATER_OR_EQUAL r h0 n0) ({ frames := 1, cells := 0, slots := 0, locals := 12 } : Room).cells ({ frames := 1, cells := 0, slots := 0, locals := 12 } : Room).slots) s₁ (entryFrame m #[(.ref a1)] 1)
  rw [own_negated_ef m a1]
  obtain ⟨T, hT⟩ : ∃ z, z = s₁ := ⟨_, rfl⟩
  rw [← hT] at X eT ⊢
  obtain ⟨h, hh0⟩ : ∃ z, z = h0 := ⟨_, rfl⟩
  rw [← hh0] at eT
  replace O : Old Z n0 h := by rw [hh0]; exact O
  replace K0 : Keep h0 h [] := by rw [hh0]; exact K0
  refine own_via (T' := T) (g' := (mkF m 1 #[.val (.ref a1)] [(.ref a1)])) (fun t_ k_ => XS.aloadN X.here hx rfl (hb hby own_negated_d0) rfl rfl k_) ?_
  obtain ⟨cq, kq, qa, qb, qc⟩ := isOf hZ eT (E_a1.ext O.2)
  obtain ⟨_, _, ⟨T, Lq, kq, nq⟩, -, X, ⟨Lc, hQ, lq, yq, zq⟩, st⟩ := X.virtualBackUp hx (x := (⟨"com/example/polyquery/polyquery/catalog/Comparison$Operator", "ordinal", "()I"⟩ : MethodName)) (y := (⟨"java/lang/Enum", "ordinal", "()I"⟩ : MethodName)) (owner := "java/lang/Enum") hown (mvT hZ (hw _ (List.mem_of_getElem? (i := 20) rfl))) (mvT hZ (hw _ (List.mem_of_getElem? (i := 21) rfl))) (mvT hZ (hw _ (List.mem_of_getElem? (i := 22) rfl))) (by decide) (mvT hZ (hw _ (List.mem_of_getElem? (i := 24) rfl))) (mvT hZ (hw _ (List.mem_of_getElem? (i := 23) rfl))) (backOf (W := 0) (own_ordinal l Z a0 hw [] a1 o1 h n0 O F_ord) hZ (hw _ (List.mem_of_getElem? (i := 26) rfl)) (hw _ (List.mem_of_getElem? (i := 25) rfl)) (by decide) (by decide)) qa qc (g := (mkF m 1 #[.val (.ref a1)] [(.ref a1)])) rfl (by rw [hml]; rfl) (Steps.refl _) (argsL := []) (rest := []) (lenOf own_pd0 rfl) rfl (by show 2 * 0 + _ ≤ _; exact Nat.le_of_eq rfl) (hb hby own_negated_d1) (fun _ _ => ⟨rfl, eT, (by decide : 0 + 0 ≤ _), (by decide : 0 + 0 ≤ _)⟩)
  dsimp only [Pt.U, Pt.locs, Pt.cells, Pt.slots] at X lq yq zq st hQ
  subst lq yq zq
  obtain ⟨rfl, Nq, eT⟩ := hQ
  replace N := Fr.app N Nq
  refine own_viaT (g' := (mkF m 4 #[.val (.ref a1)] [(.int o1)])) st ?_
  by_cases hc1 : o1 = (0 : Int32)
  · refine own_via (T' := T) (g' := (mkF m 54 #[.val (.ref a1)] [])) (fun t_ k_ => XS.tswIn X.here hx rfl (pc0 := 4) (pc' := 54) rfl (hb hby own_negated_d4) (i := o1) rfl (by rw [hc1]; decide) (o := 50) (by rw [hc1]; decide) (by decide) (by decide) k_) ?_
    obtain ⟨T, X, eT, st⟩ := getS2 X hx hZ hown (host := "") (Or.inl (hw _ (List.mem_of_getElem? (i := 39) rfl))) Via.refl eT (S_NOT_EQUAL.ext O.2) (g := (mkF m 54 #[.val (.ref a1)] [])) rfl (hb hby own_negated_d54)
    refine own_via (g' := (mkF m 57 #[.val (.ref a1)] [(.ref wNOT_EQUAL)])) st ?_
    refine own_via (T' := T) (g' := (mkF m 87 #[.val (.ref a1)] [(.ref wNOT_EQUAL)])) (fun t_ k_ => XS.goto X.here hx rfl (pc0 := 57) (pc' := 87) rfl (hb hby own_negated_d57) (by decide) (by decide) k_) ?_
    refine own_retW X hx hlk Bd.returns rfl (Or.inr (Or.inr (Or.inr (Or.inr ⟨rfl, rfl, rfl⟩)))) (hb hby own_negated_d87) (by decide) (by decide) ?_
    rw [eT]
    exact ⟨by rw [hr]; simp [own_negV, hc1], N, hh0⟩
  by_cases hc2 : o1 = (1 : Int32)
  · refine own_via (T' := T) (g' := (mkF m 60 #[.val (.ref a1)] [])) (fun t_ k_ => XS.tswIn X.here hx rfl (pc0 := 4) (pc' := 60) rfl (hb hby own_negated_d4) (i := o1) rfl (by rw [hc2]; decide) (o := 56) (by rw [hc2]; decide) (by decide) (by decide) k_) ?_
    obtain ⟨T, X, eT, st⟩ := getS2 X hx hZ hown (host := "") (Or.inl (hw _ (List.mem_of_getElem? (i := 14) rfl))) Via.refl eT (S_EQUAL.ext O.2) (g := (mkF m 60 #[.val (.ref a1)] [])) rfl (hb hby own_negated_d60)
    refine own_via (g' := (mkF m 63 #[.val (.ref a1)] [(.ref wEQUAL)])) st ?_
    refine own_via (T' := T) (g' := (mkF m 87 #[.val (.ref a1)] [(.ref wEQUAL)])) (fun t_ k_ => XS.goto X.here hx rfl (pc0 := 63) (pc' := 87) rfl (hb hby own_negated_d63) (by decide) (by decide) k_) ?_
    refine own_retW X hx hlk Bd.returns rfl (Or.inr (Or.inr (Or.inr (Or.inr ⟨rfl, rfl, rfl⟩)))) (hb hby own_negated_d87) (by decide) (by decide) ?_
    rw [eT]
    exact ⟨by rw [hr]; simp [own_negV, hc1, hc2], N, hh0⟩
  by_cases hc3 : o1 = (2 : Int32)
  · refine own_via (T' := T) (g' := (mkF m 66 #[.val (.ref a1)] [])) (fun t_ k_ => XS.tswIn X.here hx rfl (pc0 := 4) (pc' := 66) rfl (hb hby own_negated_d4) (i := o1) rfl (by rw [hc3]; decide) (o := 62) (by rw [hc3]; decide) (by decide) (by decide) k_) ?_
    obtain ⟨T, X, eT, st⟩ := getS2 X hx hZ hown (host := "") (Or.inl (hw _ (List.mem_of_getElem? (i := 46) rfl))) Via.refl eT (S_GREATER_OR_EQUAL.ext O.2) (g := (mkF m 66 #[.val (.ref a1)] [])) rfl (hb hby own_negated_d66)
    refine own_via (g' := (mkF m 69 #[.val (.ref a1)] [(.ref wGREATER_OR_EQUAL)])) st ?_
    refine own_via (T' := T) (g' := (mkF m 87 #[.val (.ref a1)] [(.ref wGREATER_OR_EQUAL)])) (fun t_ k_ => XS.goto X.here hx rfl (pc0 := 69) (pc' := 87) rfl (hb hby own_negated_d69) (by decide) (by decide) k_) ?_
    refine own_retW X hx hlk Bd.returns rfl (Or.inr (Or.inr (Or.inr (Or.inr ⟨rfl, rfl, rfl⟩)))) (hb hby own_negated_d87) (by decide) (by decide) ?_
    rw [eT]
    exact ⟨by rw [hr]; simp [own_negV, hc1, hc2, hc3], N, hh0⟩
  by_cases hc4 : o1 = (3 : Int32)
  · refine own_via (T' := T) (g' := (mkF m 72 #[.val (.ref a1)] [])) (fun t_ k_ => XS.tswIn X.here hx rfl (pc0 := 4) (pc' := 72) rfl (hb hby own_negated_d4) (i := o1) rfl (by rw [hc4]; decide) (o := 68) (by rw [hc4]; decide) (by decide) (by decide) k_) ?_
    obtain ⟨T, X, eT, st⟩ := getS2 X hx hZ hown (host := "") (Or.inl (hw _ (List.mem_of_getElem? (i := 44) rfl))) Via.refl eT (S_GREATER.ext O.2) (g := (mkF m 72 #[.val (.ref a1)] [])) rfl (hb hby own_negated_d72)
    refine own_via (g' := (mkF m 75 #[.val (.ref a1)] [(.ref wGREATER)])) st ?_
    refine own_via (T' := T) (g' := (mkF m 87 #[.val (.ref a1)] [(.ref wGREATER)])) (fun t_ k_ => XS.goto X.here hx rfl (pc0 := 75) (pc' := 87) rfl (hb hby own_negated_d75) (by decide) (by decide) k_) ?_
    refine own_retW X hx hlk Bd.returns rfl (Or.inr (Or.inr (Or.inr (Or.inr ⟨rfl, rfl, rfl⟩)))) (hb hby own_negated_d87) (by decide) (by decide) ?_
    rw [eT]
    exact ⟨by rw [hr]; simp [own_negV, hc1, hc2, hc3, hc4], N, hh0⟩
  by_cases hc5 : o1 = (4 : Int32)
  · refine own_via (T' := T) (g' := (mkF m 78 #[.val (.ref a1)] [])) (fun t_ k_ => XS.tswIn X.here hx rfl (pc0 := 4) (pc' := 78) rfl (hb hby own_negated_d4) (i := o1) rfl (by rw [hc5]; decide) (o := 74) (by rw [hc5]; decide) (by decide) (by decide) k_) ?_
    obtain ⟨T, X, eT, st⟩ := getS2 X hx hZ hown (host := "") (Or.inl (hw _ (List.mem_of_getElem? (i := 49) rfl))) Via.refl eT (S_LESS_OR_EQUAL.ext O.2) (g := (mkF m 78 #[.val (.ref a1)] [])) rfl (hb hby own_negated_d78)
    refine own_via (g' := (mkF m 81 #[.val (.ref a1)] [(.ref wLESS_OR_EQUAL)])) st ?_
    refine own_via (T' := T) (g' := (mkF m 87 #[.val (.ref a1)] [(.ref wLESS_OR_EQUAL)])) (fun t_ k_ => XS.goto X.here hx rfl (pc0 := 81) (pc' := 87) rfl (hb hby own_negated_d81) (by decide) (by decide) k_) ?_
    refine own_retW X hx hlk Bd.returns rfl (Or.inr (Or.inr (Or.inr (Or.inr ⟨rfl, rfl, rfl⟩)))) (hb hby own_negated_d87) (by decide) (by decide) ?_
    rw [eT]
    exact ⟨by rw [hr]; simp [own_negV, hc1, hc2, hc3, hc4, hc5], N, hh0⟩
  by_cases hc6 : o1 = (5 : Int32)
  · refine own_via (T' := T) (g' := (mkF m 84 #[.val (.ref a1)] [])) (fun t_ k_ => XS.tswIn X.here hx rfl (pc0 := 4) (pc' := 84) rfl (hb hby own_negated_d4) (i := o1) rfl (by rw [hc6]; decide) (o := 80) (by rw [hc6]; decide) (by decide) (by decide) k_) ?_
    obtain ⟨T, X, eT, st⟩ := getS2 X hx hZ hown (host := "") (Or.inl (hw _ (List.mem_of_getElem? (i := 51) rfl))) Via.refl eT (S_LESS.ext O.2) (g := (mkF m 84 #[.val (.ref a1)] [])) rfl (hb hby own_negated_d84)
    refine own_via (g' := (mkF m 87 #[.val (.ref a1)] [(.ref wLESS)])) st ?_
    refine own_retW X hx hlk Bd.returns rfl (Or.inr (Or.inr (Or.inr (Or.inr ⟨rfl, rfl, rfl⟩)))) (hb hby own_negated_d87) (by decide) (by decide) ?_
    rw [eT]
    exact ⟨by rw [hr]; simp [own_negV, hc1, hc2, hc3, hc4, hc5, hc6], N, hh0⟩
  rcases ho with q | q | q | q | q | q
  · exact absurd q hc1
  · exact absurd q hc2
  · exact absurd q hc3
  · exact absurd q hc4
  · exact absurd q hc5
  · exact absurd q hc6
theorem own_law_pn : plainFor x = true := by first | exact plainFor_of_name (by first | (simp [plainName, overriddenIn]; done) | decide +kernel) | decide +kernel
theorem own_law_ef (m : MethodId) (x0 : Int32) (x1 : Int32) (x2 : Int32) : entryFrame m #[(.int x0), (.int x1), (.int x2)] maxLocals = mkF m 0 #[.val (.int x0), .val (.int x1), .val (.int x2), .unset, .unset, .unset, .unset, .unset, .unset, .unset] [] := by first | (simp [entryFrame, mkF, argsToLocals, Value.category, maxLocals]; done) | rfl
def own_law_Q (Z : State) (p0 : Int32) (p1 : Int32) (p2 : Int32) (wEQUAL : Addr) (wNOT_EQUAL : Addr) (wLESS : Addr) (wLESS_OR_EQUAL : Addr) (wGREATER : Addr) (wGREATER_OR_EQUAL : Addr) (h0 : Heap) (n0 : Nat) (v : Option Value) (h : Heap) (L : List Loc) : Prop := v = some (.int (1 : Int32)) ∧ Fr n0 L ∧ True
set_option maxRecDepth 65536 in
set_option maxHeartbeats 40000000 in
theorem own_law (l : Launch) (Z : State) (a0 : Array Value) (hw : ∀ d ∈ tables_1, d.before a0 Z = true) (ws : List Jvm.Cond) (p0 : Int32) (p1 : Int32) (p2 : Int32) (wEQUAL : Addr) (wNOT_EQUAL : Addr) (wLESS : Addr) (wLESS_OR_EQUAL : Addr) (wGREATER : Addr) (wGREATER_OR_EQUAL : Addr) (h0 : Heap) (n0 : Nat) (O : Old Z n0 h0) (S_EQUAL : Sta Z Z.heap "com/example/polyquery/polyquery/catalog/Comparison$Operator" "EQUAL" "Lcom/example/polyquery/polyquery/catalog/Comparison$Operator;" (.ref wEQUAL)) (S_NOT_EQUAL : Sta Z Z.heap "com/example/polyquery/polyquery/catalog/Comparison$Operator" "NOT_EQUAL" "Lcom/example/polyquery/polyquery/catalog/Comparison$Operator;" (.ref wNOT_EQUAL)) (S_LESS : Sta Z Z.heap "com/example/polyquery/polyquery/catalog/Comparison$Operator" "LESS" "Lcom/example/polyquery/polyquery/catalog/Comparison$Operator;" (.ref wLESS)) (S_LESS_OR_EQUAL : Sta Z Z.heap "com/example/polyquery/polyquery/catalog/Comparison$Operator" "LESS_OR_EQUAL" "Lcom/example/polyquery/polyquery/catalog/Comparison$Operator;" (.ref wLESS_OR_EQUAL)) (S_GREATER : Sta Z Z.heap "com/example/polyquery/polyquery/catalog/Comparison$Operator" "GREATER" "Lcom/example/polyquery/polyquery/catalog/Comparison$Operator;" (.ref wGREATER)) (S_GREATER_OR_EQUAL : Sta Z Z.heap "com/example/polyquery/polyquery/catalog/Comparison$Operator" "GREATER_OR_EQUAL" "Lcom/example/polyquery/polyquery/catalog/Comparison$Operator;" (.ref wGREATER_OR_EQUAL)) (E_EQUAL : Exa Z Z.heap wEQUAL "com/example/polyquery/polyquery/catalog/Comparison$Operator") (E_NOT_EQUAL : Exa Z Z.heap wNOT_EQUAL "com/example/polyquery/polyquery/catalog/Comparison$Operator") (E_LESS : Exa Z Z.heap wLESS "com/example/polyquery/polyquery/catalog/Comparison$Operator") (E_LESS_OR_EQUAL : Exa Z Z.heap wLESS_OR_EQUAL "com/example/polyquery/polyquery/catalog/Comparison$Operator") (E_GREATER : Exa Z Z.heap wGREATER "com/example/polyquery/polyquery/catalog/Comparison$Operator") (E_GREATER_OR_EQUAL : Exa Z Z.heap wGREATER_OR_EQUAL "com/example/polyquery/polyquery/catalog/Comparison$Operator") (F_EQUAL : Fld Z Z.heap wEQUAL "java/lang/Enum" "ordinal" "I" (.int 0)) (F_NOT_EQUAL : Fld Z Z.heap wNOT_EQUAL "java/lang/Enum" "ordinal" "I" (.int 1)) (F_LESS : Fld Z Z.heap wLESS "java/lang/Enum" "ordinal" "I" (.int 2)) (F_LESS_OR_EQUAL : Fld Z Z.heap wLESS_OR_EQUAL "java/lang/Enum" "ordinal" "I" (.int 3)) (F_GREATER : Fld Z Z.heap wGREATER "java/lang/Enum" "ordinal" "I" (.int 4)) (F_GREATER_OR_EQUAL : Fld Z Z.heap wGREATER_OR_EQUAL "java/lang/Enum" "ordinal" "I" (.int 5)) (ne_0_1 : ¬ wEQUAL = wNOT_EQUAL) (ne_0_2 : ¬ wEQUAL = wLESS) (ne_0_3 : ¬ wEQUAL = wLESS_OR_EQUAL) (ne_0_4 : ¬ wEQUAL = wGREATER) (ne_0_5 : ¬ wEQUAL = wGREATER_OR_EQUAL) (ne_1_0 : ¬ wNOT_EQUAL = wEQUAL) (ne_1_2 : ¬ wNOT_EQUAL = wLESS) (ne_1_3 : ¬ wNOT_EQUAL = wLESS_OR_EQUAL) (ne_1_4 : ¬ wNOT_EQUAL = wGREATER) (ne_1_5 : ¬ wNOT_EQUAL = wGREATER_OR_EQUAL) (ne_2_0 : ¬ wLESS = wEQUAL) (ne_2_1 : ¬ wLESS = wNOT_EQUAL) (ne_2_3 : ¬ wLESS = wLESS_OR_EQUAL) (ne_2_4 : ¬ wLESS = wGREATER) (ne_2_5 : ¬ wLESS = wGREATER_OR_EQUAL) (ne_3_0 : ¬ wLESS_OR_EQUAL = wEQUAL) (ne_3_1 : ¬ wLESS_OR_EQUAL = wNOT_EQUAL) (ne_3_2 : ¬ wLESS_OR_EQUAL = wLESS) (ne_3_4 : ¬ wLESS_OR_EQUAL = wGREATER) (ne_3_5 : ¬ wLESS_OR_EQUAL = wGREATER_OR_EQUAL) (ne_4_0 : ¬ wGREATER = wEQUAL) (ne_4_1 : ¬ wGREATER = wNOT_EQUAL) (ne_4_2 : ¬ wGREATER = wLESS) (ne_4_3 : ¬ wGREATER = wLESS_OR_EQUAL) (ne_4_5 : ¬ wGREATER = wGREATER_OR_EQUAL) (ne_5_0 : ¬ wGREATER_OR_EQUAL = wEQUAL) (ne_5_1 : ¬ wGREATER_OR_EQUAL = wNOT_EQUAL) (ne_5_2 : ¬ wGREATER_OR_EQUAL = wLESS) (ne_5_3 : ¬ wGREATER_OR_EQUAL = wLESS_OR_EQUAL) (ne_5_4 : ¬ wGREATER_OR_EQUAL = wGREATER) :
    MetFree l x (head1 (Jvm.Cond.code x code maxLocals ret :: ws) room_1) (fun a U => a = #[(.int p0), (.int p1), (.int p2)] ∧ Z.Warmed39 U.vm ∧ U.heap = h0) (fun _ _ _ _ _ => True) (fun _ U o U' => ∃ v L, o = .returned v ∧ own_law_Q Z p0 p1 p2 wEQUAL wNOT_EQUAL wLESS wLESS_OR_EQUAL wGREATER wGREATER_OR_EQUAL h0 n0 v U'.heap L ∧ FrameEnd U o U' L room_1.cells room_1.slots) := by
  refine MetFree.of_bodySF own_law_pn hisR ?_
  intro p e s m args below meth c s₁ Bd hml0 hP hK
  obtain ⟨rfl, hZ, hh⟩ := hP
  have hx := Bd.exec
  have hby := Bd.bytes
  have hlk := Bd.notSynchronized
  have hml : c.maxLocals = 10 := hml0
  have hown : s.vm.findClass "com/example/polyquery/polyquery/catalog/OperatorIsOrderPinLaw" = some m.cls := findClass_of_methodNamed Bd.named
  have hnm := (name_of_methodNamed Bd.named Bd.method).1
  have X : Stand p l e room_1 s m #[(.int p0), (.int p1), (.int p2)] below meth c s₁ [] 0 0 := Stand.of_body Bd
  have eT : s₁.heap = h0 := by rw [← hh, Bd.state]; rfl
  have N := Fr.nil n0
  have K0 := Keep.refl h0 []
  show own_Ends p e below (own_Post s below (own_law_Q Z p0 p1 p2 wEQUAL wNOT_EQUAL wLESS wLESS_OR_EQUAL wGREATER wGREATER_OR_EQUAL h0 n0) room_1.cells room_1.slots) s₁ (entryFrame m #[(.int p0), (.int p1), (.int p2)] maxLocals)
  rw [own_law_ef m p0 p1 p2]
  obtain ⟨T, hT⟩ : ∃ z, z = s₁ := ⟨_, rfl⟩
  rw [← hT] at X eT ⊢
  obtain ⟨h, hh0⟩ : ∃ z, z = h0 := ⟨_, rfl⟩
  rw [← hh0] at eT
  replace O : Old Z n0 h := by rw [hh0]; exact O
  replace K0 : Keep h0 h [] := by rw [hh0]; exact K0
  refine own_via (T' := T) (g' := (mkF m 1 #[.val (.int p0), .val (.int p1), .val (.int p2), .unset, .unset, .unset, .unset, .unset, .unset, .unset] [(.int p0)])) (fun t_ k_ => XS.iloadN X.here hx rfl (hb hby at_0) rfl k_) ?_
  refine own_via (T' := T) (g' := (mkF m 3 #[.val (.int p0), .val (.int p1), .val (.int p2), .unset, .unset, .unset, .unset, .unset, .unset, .unset] [(.int (2147483647 : Int32)), (.int p0)])) (fun t_ k_ => X.ldcInt hx hown (mvT hZ (hw _ (List.mem_of_getElem? (i := 0) rfl))) (g := (mkF m 1 #[.val (.int p0), .val (.int p1), .val (.int p2), .unset, .unset, .unset, .unset, .unset, .unset, .unset] [(.int p0)])) rfl (hb hby at_1) _ k_) ?_
  refine own_via (T' := T) (g' := (mkF m 4 #[.val (.int p0), .val (.int p1), .val (.int p2), .unset, .unset, .unset, .unset, .unset, .unset, .unset] [(.int (p0 &&& (2147483647 : Int32)))])) (fun t_ k_ => XS.iand X.here hx rfl (hb hby at_3) rfl k_) ?_
  refine own_via (T' := T) (g' := (mkF m 6 #[.val (.int p0), .val (.int p1), .val (.int p2), .unset, .unset, .unset, .unset, .unset, .unset, .unset] [(.int (6 : Int32)), (.int (p0 &&& (2147483647 : Int32)))])) (fun t_ k_ => XS.bipush X.here hx rfl (hb hby at_4) k_) ?_
  refine own_via (T' := T) (g' := (mkF m 7 #[.val (.int p0), .val (.int p1), .val (.int p2), .unset, .unset, .unset, .unset, .unset, .unset, .unset] [(.int ((p0 &&& (2147483647 : Int32)) % (6 : Int32)))])) (fun t_ k_ => iremM (g := (mkF m 6 #[.val (.int p0), .val (.int p1), .val (.int p2), .unset, .unset, .unset, .unset, .unset, .unset, .unset] [(.int (6 : Int32)), (.int (p0 &&& (2147483647 : Int32)))])) X hx rfl (hb hby at_6) rfl (by decide) k_) ?_
  obtain ⟨k, hd_k⟩ : ∃ z, z = ((p0 &&& (2147483647 : Int32)) % (6 : Int32)) := ⟨_, rfl⟩
  rw [← hd_k]
  by_cases hc1 : k = (0 : Int32)
  · obtain ⟨_, _, ⟨T, Lq, kq, nq⟩, -, X, ⟨Lc, hQ, lq, yq, zq⟩, st⟩ := Jvm.LawKit.callS X hx (y := (⟨"com/example/polyquery/polyquery/catalog/OperatorIsOrderPinLaw", "pick", "(I)Lcom/example/polyquery/polyquery/catalog/Comparison$Operator;"⟩ : MethodName)) hown (mvT hZ (hw _ (List.mem_of_getElem? (i := 1) rfl))) (mvT hZ (hw _ (List.mem_of_getElem? (i := 2) rfl))) (mvT hZ (hw _ (List.mem_of_getElem? (i := 3) rfl))) (mvT hZ (hw _ (List.mem_of_getElem? (i := 4) rfl))) (by decide) (backOf (W := 0) (own_pick l Z a0 hw [] k wEQUAL wNOT_EQUAL wLESS wLESS_OR_EQUAL wGREATER wGREATER_OR_EQUAL wEQUAL h n0 O S_EQUAL S_NOT_EQUAL S_LESS S_LESS_OR_EQUAL S_GREATER S_GREATER_OR_EQUAL (by simp [own_pickV, hc1])) hZ (hw _ (List.mem_of_getElem? (i := 4) rfl)) (hw _ (List.mem_of_getElem? (i := 3) rfl)) (by decide) (by decide)) (g := (mkF m 7 #[.val (.int p0), .val (.int p1), .val (.int p2), .unset, .unset, .unset, .unset, .unset, .unset, .unset] [(.int k)])) rfl (by rw [hml]; rfl) (argsL := [(.int k)]) (rest := []) (lenOf own_pd1 rfl) rfl (by show 2 * 0 + _ ≤ _; exact Nat.le_of_eq rfl) (hb hby at_7) (fun _ _ => ⟨rfl, eT, (by decide : 0 + 0 ≤ _), (by decide : 0 + 0 ≤ _)⟩)
    dsimp only [Pt.U, Pt.locs, Pt.cells, Pt.slots] at X lq yq zq st hQ
    subst lq yq zq
    obtain ⟨rfl, Nq, eT⟩ := hQ
    replace N := Fr.app N Nq
    refine own_via (g' := (mkF m 10 #[.val (.int p0), .val (.int p1), .val (.int p2), .unset, .unset, .unset, .unset, .unset, .unset, .unset] [(.ref wEQUAL)])) st ?_
    refine own_via (T' := T) (g' := (mkF m 11 #[.val (.int p0), .val (.int p1), .val (.int p2), .val (.ref wEQUAL), .unset, .unset, .unset, .unset, .unset, .unset] [])) (fun t_ k_ => XS.astoreN X.here hx rfl (hb hby at_10) rfl rfl (l' := #[.val (.int p0), .val (.int p1), .val (.int p2), .val (.ref wEQUAL), .unset, .unset, .unset, .unset, .unset, .unset]) rfl k_) ?_
    refine own_via (T' := T) (g' := (mkF m 12 #[.val (.int p0), .val (.int p1), .val (.int p2), .val (.ref wEQUAL), .unset, .unset, .unset, .unset, .unset, .unset] [(.int p1)])) (fun t_ k_ => XS.iloadN X.here hx rfl (hb hby at_11) rfl k_) ?_
    refine own_via (T' := T) (g' := (mkF m 14 #[.val (.int p0), .val (.int p1), .val (.int p2), .val (.ref wEQUAL), .unset, .unset, .unset, .unset, .unset, .unset] [(.int (-2147483648 : Int32)), (.int p1)])) (fun t_ k_ => X.ldcInt hx hown (mvT hZ (hw _ (List.mem_of_getElem? (i := 8) rfl))) (g := (mkF m 12 #[.val (.int p0), .val (.int p1), .val (.int p2), .val (.ref wEQUAL), .unset, .unset, .unset, .unset, .unset, .unset] [(.int p1)])) rfl (hb hby at_12) _ k_) ?_
    refine own_via (T' := T) (g' := (mkF m 15 #[.val (.int p0), .val (.int p1), .val (.int p2), .val (.ref wEQUAL), .unset, .unset, .unset, .unset, .unset, .unset] [(.int (p1 ||| (-2147483648 : Int32)))])) (fun t_ k_ => XS.ior X.here hx rfl (hb hby at_14) rfl k_) ?_
    obtain ⟨ng, hd_ng⟩ : ∃ z, z = (p1 ||| (-2147483648 : Int32)) := ⟨_, rfl⟩
    rw [← hd_ng]
    have hng : ng < 0 := by rw [hd_ng]; exact own_neg p1
    have hng0 := own_n0 hng
    refine own_via (T' := T) (g' := (mkF m 17 #[.val (.int p0), .val (.int p1), .val (.int p2), .val (.ref wEQUAL), .val (.int ng), .unset, .unset, .unset, .unset, .unset] [])) (fun t_ k_ => XS.istore X.here hx rfl (hb hby at_15) rfl (l' := #[.val (.int p0), .val (.int p1), .val (.int p2), .val (.ref wEQUAL), .val (.int ng), .unset, .unset, .unset, .unset, .unset]) rfl k_) ?_
    refine own_via (T' := T) (g' := (mkF m 18 #[.val (.int p0), .val (.int p1), .val (.int p2), .val (.ref wEQUAL), .val (.int ng), .unset, .unset, .unset, .unset, .unset] [(.int p2)])) (fun t_ k_ => XS.iloadN X.here hx rfl (hb hby at_17) rfl k_) ?_
    refine own_via (T' := T) (g' := (mkF m 20 #[.val (.int p0), .val (.int p1), .val (.int p2), .val (.ref wEQUAL), .val (.int ng), .unset, .unset, .unset, .unset, .unset] [(.int (2147483647 : Int32)), (.int p2)])) (fun t_ k_ => X.ldcInt hx hown (mvT hZ (hw _ (List.mem_of_getElem? (i := 0) rfl))) (g := (mkF m 18 #[.val (.int p0), .val (.int p1), .val (.int p2), .val (.ref wEQUAL), .val (.int ng), .unset, .unset, .unset, .unset, .unset] [(.int p2)])) rfl (hb hby at_18) _ k_) ?_
    refine own_via (T' := T) (g' := (mkF m 21 #[.val (.int p0), .val (.int p1), .val (.int p2), .val (.ref wEQUAL), .val (.int ng), .unset, .unset, .unset, .unset, .unset] [(.int (p2 &&& (2147483647 : Int32)))])) (fun t_ k_ => XS.iand X.here hx rfl (hb hby at_20) rfl k_) ?_
    refine own_via (T' := T) (g' := (mkF m 22 #[.val (.int p0), .val (.int p1), .val (.int p2), .val (.ref wEQUAL), .val (.int ng), .unset, .unset, .unset, .unset, .unset] [(.int (1 : Int32)), (.int (p2 &&& (2147483647 : Int32)))])) (fun t_ k_ => XS.iconst X.here hx rfl (hb hby at_21) k_) ?_
    refine own_via (T' := T) (g' := (mkF m 23 #[.val (.int p0), .val (.int p1), .val (.int p2), .val (.ref wEQUAL), .val (.int ng), .unset, .unset, .unset, .unset, .unset] [(.int ((p2 &&& (2147483647 : Int32)) ||| (1 : Int32)))])) (fun t_ k_ => XS.ior X.here hx rfl (hb hby at_22) rfl k_) ?_
    obtain ⟨ps, hd_ps⟩ : ∃ z, z = ((p2 &&& (2147483647 : Int32)) ||| (1 : Int32)) := ⟨_, rfl⟩
    rw [← hd_ps]
    have hps : 0 < ps := by rw [hd_ps]; exact own_pos p2
    have hps0 := own_p0 hps
    refine own_via (T' := T) (g' := (mkF m 25 #[.val (.int p0), .val (.int p1), .val (.int p2), .val (.ref wEQUAL), .val (.int ng), .val (.int ps), .unset, .unset, .unset, .unset] [])) (fun t_ k_ => XS.istore X.here hx rfl (hb hby at_23) rfl (l' := #[.val (.int p0), .val (.int p1), .val (.int p2), .val (.ref wEQUAL), .val (.int ng), .val (.int ps), .unset, .unset, .unset, .unset]) rfl k_) ?_
    refine own_via (T' := T) (g' := (mkF m 26 #[.val (.int p0), .val (.int p1), .val (.int p2), .val (.ref wEQUAL), .val (.int ng), .val (.int ps), .unset, .unset, .unset, .unset] [(.ref wEQUAL)])) (fun t_ k_ => XS.aloadN X.here hx rfl (hb hby at_25) rfl rfl k_) ?_
    obtain ⟨cq, kq, qa, qb, qc⟩ := isOf hZ eT (E_EQUAL.ext O.2)
    obtain ⟨_, _, ⟨T, Lq, kq, nq⟩, -, X, ⟨Lc, hQ, lq, yq, zq⟩, st⟩ := X.virtualBack hx (y := (⟨"com/example/polyquery/polyquery/catalog/Comparison$Operator", "isOrder", "()Z"⟩ : MethodName)) (z := (⟨"com/example/polyquery/polyquery/catalog/Comparison$Operator", "isOrder", "()Z"⟩ : MethodName)) hown (mvT hZ (hw _ (List.mem_of_getElem? (i := 9) rfl))) (mvT hZ (hw _ (List.mem_of_getElem? (i := 10) rfl))) (notFace_of_selects (args := #[]) (mvT hZ (hw _ (List.mem_of_getElem? (i := 12) rfl)))) (mvT hZ (hw _ (List.mem_of_getElem? (i := 12) rfl))) (mvT hZ (hw _ (List.mem_of_getElem? (i := 11) rfl))) (by decide) (backOf (W := 0) (own_isOrder l Z a0 hw [] wEQUAL wEQUAL wNOT_EQUAL (0 : Int32) h n0 O S_EQUAL S_NOT_EQUAL ⟨fun _ => rfl, fun _ => rfl, fun q _ => absurd rfl q⟩) hZ (hw _ (List.mem_of_getElem? (i := 13) rfl)) (hw _ (List.mem_of_getElem? (i := 6) rfl)) (by decide) (by decide)) qa qc (g := (mkF m 26 #[.val (.int p0), .val (.int p1), .val (.int p2), .val (.ref wEQUAL), .val (.int ng), .val (.int ps), .unset, .unset, .unset, .unset] [(.ref wEQUAL)])) rfl (by rw [hml]; rfl) (Steps.refl _) (argsL := []) (rest := []) (lenOf own_pd2 rfl) rfl (by show 2 * 0 + _ ≤ _; exact Nat.le_of_eq rfl) (hb hby at_26) (fun _ _ => ⟨rfl, eT, (by decide : 0 + 0 ≤ _), (by decide : 0 + 0 ≤ _)⟩)
    dsimp only [Pt.U, Pt.locs, Pt.cells, Pt.slots] at X lq yq zq st hQ
    subst lq yq zq
    obtain ⟨rfl, Nq, eT⟩ := hQ
    replace N := Fr.app N Nq
    refine own_viaT (g' := (mkF m 29 #[.val (.int p0), .val (.int p1), .val (.int p2), .val (.ref wEQUAL), .val (.int ng), .val (.int ps), .unset, .unset, .unset, .unset] [(.int (0 : Int32))])) st ?_
    refine own_via (T' := T) (g' := (mkF m 31 #[.val (.int p0), .val (.int p1), .val (.int p2), .val (.ref wEQUAL), .val (.int ng), .val (.int ps), .val (.int (0 : Int32)), .unset, .unset, .unset] [])) (fun t_ k_ => XS.istore X.here hx rfl (hb hby at_29) rfl (l' := #[.val (.int p0), .val (.int p1), .val (.int p2), .val (.ref wEQUAL), .val (.int ng), .val (.int ps), .val (.int (0 : Int32)), .unset, .unset, .unset]) rfl k_) ?_
    refine own_via (T' := T) (g' := (mkF m 32 #[.val (.int p0), .val (.int p1), .val (.int p2), .val (.ref wEQUAL), .val (.int ng), .val (.int ps), .val (.int (0 : Int32)), .unset, .unset, .unset] [(.ref wEQUAL)])) (fun t_ k_ => XS.aloadN X.here hx rfl (hb hby at_31) rfl rfl k_) ?_
    refine own_via (T' := T) (g' := (mkF m 34 #[.val (.int p0), .val (.int p1), .val (.int p2), .val (.ref wEQUAL), .val (.int ng), .val (.int ps), .val (.int (0 : Int32)), .unset, .unset, .unset] [(.int ng), (.ref wEQUAL)])) (fun t_ k_ => XS.iload X.here hx rfl (hb hby at_32) rfl k_) ?_
    obtain ⟨cq, kq, qa, qb, qc⟩ := isOf hZ eT (E_EQUAL.ext O.2)
    obtain ⟨_, _, ⟨T, Lq, kq, nq⟩, -, X, ⟨Lc, hQ, lq, yq, zq⟩, st⟩ := X.virtualBack hx (y := (⟨"com/example/polyquery/polyquery/catalog/Comparison$Operator", "holds", "(I)Z"⟩ : MethodName)) (z := (⟨"com/example/polyquery/polyquery/catalog/Comparison$Operator", "holds", "(I)Z"⟩ : MethodName)) hown (mvT hZ (hw _ (List.mem_of_getElem? (i := 15) rfl))) (mvT hZ (hw _ (List.mem_of_getElem? (i := 16) rfl))) (notFace_of_selects (args := #[]) (mvT hZ (hw _ (List.mem_of_getElem? (i := 18) rfl)))) (mvT hZ (hw _ (List.mem_of_getElem? (i := 18) rfl))) (mvT hZ (hw _ (List.mem_of_getElem? (i := 17) rfl))) (by decide) (backOf (W := 0) (own_holds l Z a0 hw [] wEQUAL ng (0 : Int32) (0 : Int32) h n0 O E_EQUAL F_EQUAL (by decide) (by simp [own_holdsV, hng, hng0.1, hng0.2])) hZ (hw _ (List.mem_of_getElem? (i := 19) rfl)) (hw _ (List.mem_of_getElem? (i := 6) rfl)) (by decide) (by decide)) qa qc (g := (mkF m 34 #[.val (.int p0), .val (.int p1), .val (.int p2), .val (.ref wEQUAL), .val (.int ng), .val (.int ps), .val (.int (0 : Int32)), .unset, .unset, .unset] [(.int ng), (.ref wEQUAL)])) rfl (by rw [hml]; rfl) (Steps.refl _) (argsL := [(.int ng)]) (rest := []) (lenOf own_pd3 rfl) rfl (by show 2 * 0 + _ ≤ _; exact Nat.le_of_eq rfl) (hb hby at_34) (fun _ _ => ⟨rfl, eT, (by decide : 0 + 0 ≤ _), (by decide : 0 + 0 ≤ _)⟩)
    dsimp only [Pt.U, Pt.locs, Pt.cells, Pt.slots] at X lq yq zq st hQ
    subst lq yq zq
    obtain ⟨rfl, Nq, eT⟩ := hQ
    replace N := Fr.app N Nq
    refine own_viaT (g' := (mkF m 37 #[.val (.int p0), .val (.int p1), .val (.int p2), .val (.ref wEQUAL), .val (.int ng), .val (.int ps), .val (.int (0 : Int32)), .unset, .unset, .unset] [(.int (0 : Int32))])) st ?_
    refine own_via (T' := T) (g' := (mkF m 38 #[.val (.int p0), .val (.int p1), .val (.int p2), .val (.ref wEQUAL), .val (.int ng), .val (.int ps), .val (.int (0 : Int32)), .unset, .unset, .unset] [(.ref wEQUAL), (.int (0 : Int32))])) (fun t_ k_ => XS.aloadN X.here hx rfl (hb hby at_37) rfl rfl k_) ?_
    refine own_via (T' := T) (g' := (mkF m 40 #[.val (.int p0), .val (.int p1), .val (.int p2), .val (.ref wEQUAL), .val (.int ng), .val (.int ps), .val (.int (0 : Int32)), .unset, .unset, .unset] [(.int ps), (.ref wEQUAL), (.int (0 : Int32))])) (fun t_ k_ => XS.iload X.here hx rfl (hb hby at_38) rfl k_) ?_
    obtain ⟨cq, kq, qa, qb, qc⟩ := isOf hZ eT (E_EQUAL.ext O.2)
    obtain ⟨_, _, ⟨T, Lq, kq, nq⟩, -, X, ⟨Lc, hQ, lq, yq, zq⟩, st⟩ := X.virtualBack hx (y := (⟨"com/example/polyquery/polyquery/catalog/Comparison$Operator", "holds", "(I)Z"⟩ : MethodName)) (z := (⟨"com/example/polyquery/polyquery/catalog/Comparison$Operator", "holds", "(I)Z"⟩ : MethodName)) hown (mvT hZ (hw _ (List.mem_of_getElem? (i := 15) rfl))) (mvT hZ (hw _ (List.mem_of_getElem? (i := 16) rfl))) (notFace_of_selects (args := #[]) (mvT hZ (hw _ (List.mem_of_getElem? (i := 18) rfl)))) (mvT hZ (hw _ (List.mem_of_getElem? (i := 18) rfl))) (mvT hZ (hw _ (List.mem_of_getElem? (i := 17) rfl))) (by decide) (backOf (W := 1) (own_holds l Z a0 hw [] wEQUAL ps (0 : Int32) (0 : Int32) h n0 O E_EQUAL F_EQUAL (by decide) (by simp [own_holdsV, hps, hps0.1, hps0.2])) hZ (hw _ (List.mem_of_getElem? (i := 19) rfl)) (hw _ (List.mem_of_getElem? (i := 6) rfl)) (by decide) (by decide)) qa qc (g := (mkF m 40 #[.val (.int p0), .val (.int p1), .val (.int p2), .val (.ref wEQUAL), .val (.int ng), .val (.int ps), .val (.int (0 : Int32)), .unset, .unset, .unset] [(.int ps), (.ref wEQUAL), (.int (0 : Int32))])) rfl (by rw [hml]; rfl) (Steps.refl _) (argsL := [(.int ps)]) (rest := [(.int (0 : Int32))]) (lenOf own_pd3 rfl) rfl (by show 2 * 0 + _ ≤ _; exact Nat.le_of_eq rfl) (hb hby at_40) (fun _ _ => ⟨rfl, eT, (by decide : 0 + 0 ≤ _), (by decide : 0 + 0 ≤ _)⟩)
    dsimp only [Pt.U, Pt.locs, Pt.cells, Pt.slots] at X lq yq zq st hQ
    subst lq yq zq
    obtain ⟨rfl, Nq, eT⟩ := hQ
    replace N := Fr.app N Nq
    refine own_viaT (g' := (mkF m 43 #[.val (.int p0), .val (.int p1), .val (.int p2), .val (.ref wEQUAL), .val (.int ng), .val (.int ps), .val (.int (0 : Int32)), .unset, .unset, .unset] [(.int (0 : Int32)), (.int (0 : Int32))])) st ?_
    refine own_via (T' := T) (g' := (mkF m 50 #[.val (.int p0), .val (.int p1), .val (.int p2), .val (.ref wEQUAL), .val (.int ng), .val (.int ps), .val (.int (0 : Int32)), .unset, .unset, .unset] [])) (fun t_ k_ => XS.icmpYes X.here hx rfl (pc0 := 43) (pc' := 50) rfl (hb hby at_43) rfl (teq (by decide : (0 : Int32) = (0 : Int32))).1 (by decide) (by decide) k_) ?_
    refine own_via (T' := T) (g' := (mkF m 51 #[.val (.int p0), .val (.int p1), .val (.int p2), .val (.ref wEQUAL), .val (.int ng), .val (.int ps), .val (.int (0 : Int32)), .unset, .unset, .unset] [(.int (0 : Int32))])) (fun t_ k_ => XS.iconst X.here hx rfl (hb hby at_50) k_) ?_
    refine own_via (T' := T) (g' := (mkF m 53 #[.val (.int p0), .val (.int p1), .val (.int p2), .val (.ref wEQUAL), .val (.int ng), .val (.int ps), .val (.int (0 : Int32)), .val (.int (0 : Int32)), .unset, .unset] [])) (fun t_ k_ => XS.istore X.here hx rfl (hb hby at_51) rfl (l' := #[.val (.int p0), .val (.int p1), .val (.int p2), .val (.ref wEQUAL), .val (.int ng), .val (.int ps), .val (.int (0 : Int32)), .val (.int (0 : Int32)), .unset, .unset]) rfl k_) ?_
    refine own_via (T' := T) (g' := (mkF m 54 #[.val (.int p0), .val (.int p1), .val (.int p2), .val (.ref wEQUAL), .val (.int ng), .val (.int ps), .val (.int (0 : Int32)), .val (.int (0 : Int32)), .unset, .unset] [(.ref wEQUAL)])) (fun t_ k_ => XS.aloadN X.here hx rfl (hb hby at_53) rfl rfl k_) ?_
    obtain ⟨cq, kq, qa, qb, qc⟩ := isOf hZ eT (E_EQUAL.ext O.2)
    obtain ⟨_, _, ⟨T, Lq, kq, nq⟩, -, X, ⟨Lc, hQ, lq, yq, zq⟩, st⟩ := X.virtualBack hx (y := (⟨"com/example/polyquery/polyquery/catalog/Comparison$Operator", "swapped", "()Lcom/example/polyquery/polyquery/catalog/Comparison$Operator;"⟩ : MethodName)) (z := (⟨"com/example/polyquery/polyquery/catalog/Comparison$Operator", "swapped", "()Lcom/example/polyquery/polyquery/catalog/Comparison$Operator;"⟩ : MethodName)) hown (mvT hZ (hw _ (List.mem_of_getElem? (i := 29) rfl))) (mvT hZ (hw _ (List.mem_of_getElem? (i := 30) rfl))) (notFace_of_selects (args := #[]) (mvT hZ (hw _ (List.mem_of_getElem? (i := 32) rfl)))) (mvT hZ (hw _ (List.mem_of_getElem? (i := 32) rfl))) (mvT hZ (hw _ (List.mem_of_getElem? (i := 31) rfl))) (by decide) (backOf (W := 0) (own_swapped l Z a0 hw [] wEQUAL (0 : Int32) wEQUAL wNOT_EQUAL wLESS wLESS_OR_EQUAL wGREATER wGREATER_OR_EQUAL wEQUAL h n0 O E_EQUAL F_EQUAL (by decide) S_EQUAL S_NOT_EQUAL S_LESS S_LESS_OR_EQUAL S_GREATER S_GREATER_OR_EQUAL (by simp [own_swapV])) hZ (hw _ (List.mem_of_getElem? (i := 33) rfl)) (hw _ (List.mem_of_getElem? (i := 6) rfl)) (by decide) (by decide)) qa qc (g := (mkF m 54 #[.val (.int p0), .val (.int p1), .val (.int p2), .val (.ref wEQUAL), .val (.int ng), .val (.int ps), .val (.int (0 : Int32)), .val (.int (0 : Int32)), .unset, .unset] [(.ref wEQUAL)])) rfl (by rw [hml]; rfl) (Steps.refl _) (argsL := []) (rest := []) (lenOf own_pd4 rfl) rfl (by show 2 * 0 + _ ≤ _; exact Nat.le_of_eq rfl) (hb hby at_54) (fun _ _ => ⟨rfl, eT, (by decide : 0 + 0 ≤ _), (by decide : 0 + 0 ≤ _)⟩)
    dsimp only [Pt.U, Pt.locs, Pt.cells, Pt.slots] at X lq yq zq st hQ
    subst lq yq zq
    obtain ⟨rfl, Nq, eT⟩ := hQ
    replace N := Fr.app N Nq
    refine own_viaT (g' := (mkF m 57 #[.val (.int p0), .val (.int p1), .val (.int p2), .val (.ref wEQUAL), .val (.int ng), .val (.int ps), .val (.int (0 : Int32)), .val (.int (0 : Int32)), .unset, .unset] [(.ref wEQUAL)])) st ?_
    refine own_via (T' := T) (g' := (mkF m 58 #[.val (.int p0), .val (.int p1), .val (.int p2), .val (.ref wEQUAL), .val (.int ng), .val (.int ps), .val (.int (0 : Int32)), .val (.int (0 : Int32)), .unset, .unset] [(.ref wEQUAL), (.ref wEQUAL)])) (fun t_ k_ => XS.aloadN X.here hx rfl (hb hby at_57) rfl rfl k_) ?_
    refine own_via (T' := T) (g' := (mkF m 65 #[.val (.int p0), .val (.int p1), .val (.int p2), .val (.ref wEQUAL), .val (.int ng), .val (.int ps), .val (.int (0 : Int32)), .val (.int (0 : Int32)), .unset, .unset] [])) (fun t_ k_ => Jvm.RoadKit.acmp (g := (mkF m 58 #[.val (.int p0), .val (.int p1), .val (.int p2), .val (.ref wEQUAL), .val (.int ng), .val (.int ps), .val (.int (0 : Int32)), .val (.int (0 : Int32)), .unset, .unset] [(.ref wEQUAL), (.ref wEQUAL)])) X hx rfl rfl rfl (pc0 := 58) (pc' := 65) (same := true) rfl (hb hby at_58) rfl (decide_eq_true rfl) (by decide) (by decide) k_) ?_
    refine own_via (T' := T) (g' := (mkF m 66 #[.val (.int p0), .val (.int p1), .val (.int p2), .val (.ref wEQUAL), .val (.int ng), .val (.int ps), .val (.int (0 : Int32)), .val (.int (0 : Int32)), .unset, .unset] [(.int (0 : Int32))])) (fun t_ k_ => XS.iconst X.here hx rfl (hb hby at_65) k_) ?_
    refine own_via (T' := T) (g' := (mkF m 68 #[.val (.int p0), .val (.int p1), .val (.int p2), .val (.ref wEQUAL), .val (.int ng), .val (.int ps), .val (.int (0 : Int32)), .val (.int (0 : Int32)), .val (.int (0 : Int32)), .unset] [])) (fun t_ k_ => XS.istore X.here hx rfl (hb hby at_66) rfl (l' := #[.val (.int p0), .val (.int p1), .val (.int p2), .val (.ref wEQUAL), .val (.int ng), .val (.int ps), .val (.int (0 : Int32)), .val (.int (0 : Int32)), .val (.int (0 : Int32)), .unset]) rfl k_) ?_
    refine own_via (T' := T) (g' := (mkF m 69 #[.val (.int p0), .val (.int p1), .val (.int p2), .val (.ref wEQUAL), .val (.int ng), .val (.int ps), .val (.int (0 : Int32)), .val (.int (0 : Int32)), .val (.int (0 : Int32)), .unset] [(.ref wEQUAL)])) (fun t_ k_ => XS.aloadN X.here hx rfl (hb hby at_68) rfl rfl k_) ?_
    obtain ⟨cq, kq, qa, qb, qc⟩ := isOf hZ eT (E_EQUAL.ext O.2)
    obtain ⟨_, _, ⟨T, Lq, kq, nq⟩, -, X, ⟨Lc, hQ, lq, yq, zq⟩, st⟩ := X.virtualBack hx (y := (⟨"com/example/polyquery/polyquery/catalog/Comparison$Operator", "negated", "()Lcom/example/polyquery/polyquery/catalog/Comparison$Operator;"⟩ : MethodName)) (z := (⟨"com/example/polyquery/polyquery/catalog/Comparison$Operator", "negated", "()Lcom/example/polyquery/polyquery/catalog/Comparison$Operator;"⟩ : MethodName)) hown (mvT hZ (hw _ (List.mem_of_getElem? (i := 34) rfl))) (mvT hZ (hw _ (List.mem_of_getElem? (i := 35) rfl))) (notFace_of_selects (args := #[]) (mvT hZ (hw _ (List.mem_of_getElem? (i := 37) rfl)))) (mvT hZ (hw _ (List.mem_of_getElem? (i := 37) rfl))) (mvT hZ (hw _ (List.mem_of_getElem? (i := 36) rfl))) (by decide) (backOf (W := 0) (own_negated l Z a0 hw [] wEQUAL (0 : Int32) wEQUAL wNOT_EQUAL wLESS wLESS_OR_EQUAL wGREATER wGREATER_OR_EQUAL wNOT_EQUAL h n0 O E_EQUAL F_EQUAL (by decide) S_EQUAL S_NOT_EQUAL S_LESS S_LESS_OR_EQUAL S_GREATER S_GREATER_OR_EQUAL (by simp [own_negV])) hZ (hw _ (List.mem_of_getElem? (i := 38) rfl)) (hw _ (List.mem_of_getElem? (i := 6) rfl)) (by decide) (by decide)) qa qc (g := (mkF m 69 #[.val (.int p0), .val (.int p1), .val (.int p2), .val (.ref wEQUAL), .val (.int ng), .val (.int ps), .val (.int (0 : Int32)), .val (.int (0 : Int32)), .val (.int (0 : Int32)), .unset] [(.ref wEQUAL)])) rfl (by rw [hml]; rfl) (Steps.refl _) (argsL := []) (rest := []) (lenOf own_pd4 rfl) rfl (by show 2 * 0 + _ ≤ _; exact Nat.le_of_eq rfl) (hb hby at_69) (fun _ _ => ⟨rfl, eT, (by decide : 0 + 0 ≤ _), (by decide : 0 + 0 ≤ _)⟩)
    dsimp only [Pt.U, Pt.locs, Pt.cells, Pt.slots] at X lq yq zq st hQ
    subst lq yq zq
    obtain ⟨rfl, Nq, eT⟩ := hQ
    replace N := Fr.app N Nq
    refine own_viaT (g' := (mkF m 72 #[.val (.int p0), .val (.int p1), .val (.int p2), .val (.ref wEQUAL), .val (.int ng), .val (.int ps), .val (.int (0 : Int32)), .val (.int (0 : Int32)), .val (.int (0 : Int32)), .unset] [(.ref wNOT_EQUAL)])) st ?_
    obtain ⟨cq, kq, qa, qb, qc⟩ := isOf hZ eT (E_NOT_EQUAL.ext O.2)
    obtain ⟨_, _, ⟨T, Lq, kq, nq⟩, -, X, ⟨Lc, hQ, lq, yq, zq⟩, st⟩ := X.virtualBack hx (y := (⟨"com/example/polyquery/polyquery/catalog/Comparison$Operator", "isOrder", "()Z"⟩ : MethodName)) (z := (⟨"com/example/polyquery/polyquery/catalog/Comparison$Operator", "isOrder", "()Z"⟩ : MethodName)) hown (mvT hZ (hw _ (List.mem_of_getElem? (i := 9) rfl))) (mvT hZ (hw _ (List.mem_of_getElem? (i := 10) rfl))) (notFace_of_selects (args := #[]) (mvT hZ (hw _ (List.mem_of_getElem? (i := 12) rfl)))) (mvT hZ (hw _ (List.mem_of_getElem? (i := 12) rfl))) (mvT hZ (hw _ (List.mem_of_getElem? (i := 11) rfl))) (by decide) (backOf (W := 0) (own_isOrder l Z a0 hw [] wNOT_EQUAL wEQUAL wNOT_EQUAL (0 : Int32) h n0 O S_EQUAL S_NOT_EQUAL ⟨fun _ => rfl, fun _ => rfl, fun _ q => absurd rfl q⟩) hZ (hw _ (List.mem_of_getElem? (i := 13) rfl)) (hw _ (List.mem_of_getElem? (i := 6) rfl)) (by decide) (by decide)) qa qc (g := (mkF m 72 #[.val (.int p0), .val (.int p1), .val (.int p2), .val (.ref wEQUAL), .val (.int ng), .val (.int ps), .val (.int (0 : Int32)), .val (.int (0 : Int32)), .val (.int (0 : Int32)), .unset] [(.ref wNOT_EQUAL)])) rfl (by rw [hml]; rfl) (Steps.refl _) (argsL := []) (rest := []) (lenOf own_pd2 rfl) rfl (by show 2 * 0 + _ ≤ _; exact Nat.le_of_eq rfl) (hb hby at_72) (fun _ _ => ⟨rfl, eT, (by decide : 0 + 0 ≤ _), (by decide : 0 + 0 ≤ _)⟩)
    dsimp only [Pt.U, Pt.locs, Pt.cells, Pt.slots] at X lq yq zq st hQ
    subst lq yq zq
    obtain ⟨rfl, Nq, eT⟩ := hQ
    replace N := Fr.app N Nq
    refine own_viaT (g' := (mkF m 75 #[.val (.int p0), .val (.int p1), .val (.int p2), .val (.ref wEQUAL), .val (.int ng), .val (.int ps), .val (.int (0 : Int32)), .val (.int (0 : Int32)), .val (.int (0 : Int32)), .unset] [(.int (0 : Int32))])) st ?_
    refine own_via (T' := T) (g' := (mkF m 77 #[.val (.int p0), .val (.int p1), .val (.int p2), .val (.ref wEQUAL), .val (.int ng), .val (.int ps), .val (.int (0 : Int32)), .val (.int (0 : Int32)), .val (.int (0 : Int32)), .val (.int (0 : Int32))] [])) (fun t_ k_ => XS.istore X.here hx rfl (hb hby at_75) rfl (l' := #[.val (.int p0), .val (.int p1), .val (.int p2), .val (.ref wEQUAL), .val (.int ng), .val (.int ps), .val (.int (0 : Int32)), .val (.int (0 : Int32)), .val (.int (0 : Int32)), .val (.int (0 : Int32))]) rfl k_) ?_
    refine own_via (T' := T) (g' := (mkF m 79 #[.val (.int p0), .val (.int p1), .val (.int p2), .val (.ref wEQUAL), .val (.int ng), .val (.int ps), .val (.int (0 : Int32)), .val (.int (0 : Int32)), .val (.int (0 : Int32)), .val (.int (0 : Int32))] [(.int (0 : Int32))])) (fun t_ k_ => XS.iload X.here hx rfl (hb hby at_77) rfl k_) ?_
    refine own_via (T' := T) (g' := (mkF m 81 #[.val (.int p0), .val (.int p1), .val (.int p2), .val (.ref wEQUAL), .val (.int ng), .val (.int ps), .val (.int (0 : Int32)), .val (.int (0 : Int32)), .val (.int (0 : Int32)), .val (.int (0 : Int32))] [(.int (0 : Int32)), (.int (0 : Int32))])) (fun t_ k_ => XS.iload X.here hx rfl (hb hby at_79) rfl k_) ?_
    refine own_via (T' := T) (g' := (mkF m 84 #[.val (.int p0), .val (.int p1), .val (.int p2), .val (.ref wEQUAL), .val (.int ng), .val (.int ps), .val (.int (0 : Int32)), .val (.int (0 : Int32)), .val (.int (0 : Int32)), .val (.int (0 : Int32))] [])) (fun t_ k_ => XS.icmpNo X.here hx rfl (hb hby at_81) rfl (teq (by decide : (0 : Int32) = (0 : Int32))).2 k_) ?_
    refine own_via (T' := T) (g' := (mkF m 86 #[.val (.int p0), .val (.int p1), .val (.int p2), .val (.ref wEQUAL), .val (.int ng), .val (.int ps), .val (.int (0 : Int32)), .val (.int (0 : Int32)), .val (.int (0 : Int32)), .val (.int (0 : Int32))] [(.int (0 : Int32))])) (fun t_ k_ => XS.iload X.here hx rfl (hb hby at_84) rfl k_) ?_
    refine own_via (T' := T) (g' := (mkF m 88 #[.val (.int p0), .val (.int p1), .val (.int p2), .val (.ref wEQUAL), .val (.int ng), .val (.int ps), .val (.int (0 : Int32)), .val (.int (0 : Int32)), .val (.int (0 : Int32)), .val (.int (0 : Int32))] [(.int (0 : Int32)), (.int (0 : Int32))])) (fun t_ k_ => XS.iload X.here hx rfl (hb hby at_86) rfl k_) ?_
    refine own_via (T' := T) (g' := (mkF m 91 #[.val (.int p0), .val (.int p1), .val (.int p2), .val (.ref wEQUAL), .val (.int ng), .val (.int ps), .val (.int (0 : Int32)), .val (.int (0 : Int32)), .val (.int (0 : Int32)), .val (.int (0 : Int32))] [])) (fun t_ k_ => XS.icmpNo X.here hx rfl (hb hby at_88) rfl (teq (by decide : (0 : Int32) = (0 : Int32))).2 k_) ?_
    refine own_via (T' := T) (g' := (mkF m 93 #[.val (.int p0), .val (.int p1), .val (.int p2), .val (.ref wEQUAL), .val (.int ng), .val (.int ps), .val (.int (0 : Int32)), .val (.int (0 : Int32)), .val (.int (0 : Int32)), .val (.int (0 : Int32))] [(.int (0 : Int32))])) (fun t_ k_ => XS.iload X.here hx rfl (hb hby at_91) rfl k_) ?_
    refine own_via (T' := T) (g' := (mkF m 95 #[.val (.int p0), .val (.int p1), .val (.int p2), .val (.ref wEQUAL), .val (.int ng), .val (.int ps), .val (.int (0 : Int32)), .val (.int (0 : Int32)), .val (.int (0 : Int32)), .val (.int (0 : Int32))] [(.int (0 : Int32)), (.int (0 : Int32))])) (fun t_ k_ => XS.iload X.here hx rfl (hb hby at_93) rfl k_) ?_
    refine own_via (T' := T) (g' := (mkF m 98 #[.val (.int p0), .val (.int p1), .val (.int p2), .val (.ref wEQUAL), .val (.int ng), .val (.int ps), .val (.int (0 : Int32)), .val (.int (0 : Int32)), .val (.int (0 : Int32)), .val (.int (0 : Int32))] [])) (fun t_ k_ => XS.icmpNo X.here hx rfl (hb hby at_95) rfl (teq (by decide : (0 : Int32) = (0 : Int32))).2 k_) ?_
    refine own_via (T' := T) (g' := (mkF m 99 #[.val (.int p0), .val (.int p1), .val (.int p2), .val (.ref wEQUAL), .val (.int ng), .val (.int ps), .val (.int (0 : Int32)), .val (.int (0 : Int32)), .val (.int (0 : Int32)), .val (.int (0 : Int32))] [(.int (1 : Int32))])) (fun t_ k_ => XS.iconst X.here hx rfl (hb hby at_98) k_) ?_
    refine own_via (T' := T) (g' := (mkF m 103 #[.val (.int p0), .val (.int p1), .val (.int p2), .val (.ref wEQUAL), .val (.int ng), .val (.int ps), .val (.int (0 : Int32)), .val (.int (0 : Int32)), .val (.int (0 : Int32)), .val (.int (0 : Int32))] [(.int (1 : Int32))])) (fun t_ k_ => XS.goto X.here hx rfl (pc0 := 99) (pc' := 103) rfl (hb hby at_99) (by decide) (by decide) k_) ?_
    refine own_retN X hx hlk (t := .boolean) Bd.returns (by simp) (hb hby at_103) (by decide) (by decide) ?_
    rw [eT]
    exact ⟨rfl, N, trivial⟩
  · by_cases hc2 : k = (1 : Int32)
    · obtain ⟨_, _, ⟨T, Lq, kq, nq⟩, -, X, ⟨Lc, hQ, lq, yq, zq⟩, st⟩ := Jvm.LawKit.callS X hx (y := (⟨"com/example/polyquery/polyquery/catalog/OperatorIsOrderPinLaw", "pick", "(I)Lcom/example/polyquery/polyquery/catalog/Comparison$Operator;"⟩ : MethodName)) hown (mvT hZ (hw _ (List.mem_of_getElem? (i := 1) rfl))) (mvT hZ (hw _ (List.mem_of_getElem? (i := 2) rfl))) (mvT hZ (hw _ (List.mem_of_getElem? (i := 3) rfl))) (mvT hZ (hw _ (List.mem_of_getElem? (i := 4) rfl))) (by decide) (backOf (W := 0) (own_pick l Z a0 hw [] k wEQUAL wNOT_EQUAL wLESS wLESS_OR_EQUAL wGREATER wGREATER_OR_EQUAL wNOT_EQUAL h n0 O S_EQUAL S_NOT_EQUAL S_LESS S_LESS_OR_EQUAL S_GREATER S_GREATER_OR_EQUAL (by simp [own_pickV, hc1, hc2])) hZ (hw _ (List.mem_of_getElem? (i := 4) rfl)) (hw _ (List.mem_of_getElem? (i := 3) rfl)) (by decide) (by decide)) (g := (mkF m 7 #[.val (.int p0), .val (.int p1), .val (.int p2), .unset, .unset, .unset, .unset, .unset, .unset, .unset] [(.int k)])) rfl (by rw [hml]; rfl) (argsL := [(.int k)]) (rest := []) (lenOf own_pd1 rfl) rfl (by show 2 * 0 + _ ≤ _; exact Nat.le_of_eq rfl) (hb hby at_7) (fun _ _ => ⟨rfl, eT, (by decide : 0 + 0 ≤ _), (by decide : 0 + 0 ≤ _)⟩)
      dsimp only [Pt.U, Pt.locs, Pt.cells, Pt.slots] at X lq yq zq st hQ
      subst lq yq zq
      obtain ⟨rfl, Nq, eT⟩ := hQ
      replace N := Fr.app N Nq
      refine own_via (g' := (mkF m 10 #[.val (.int p0), .val (.int p1), .val (.int p2), .unset, .unset, .unset, .unset, .unset, .unset, .unset] [(.ref wNOT_EQUAL)])) st ?_
      refine own_via (T' := T) (g' := (mkF m 11 #[.val (.int p0), .val (.int p1), .val (.int p2), .val (.ref wNOT_EQUAL), .unset, .unset, .unset, .unset, .unset, .unset] [])) (fun t_ k_ => XS.astoreN X.here hx rfl (hb hby at_10) rfl rfl (l' := #[.val (.int p0), .val (.int p1), .val (.int p2), .val (.ref wNOT_EQUAL), .unset, .unset, .unset, .unset, .unset, .unset]) rfl k_) ?_
      refine own_via (T' := T) (g' := (mkF m 12 #[.val (.int p0), .val (.int p1), .val (.int p2), .val (.ref wNOT_EQUAL), .unset, .unset, .unset, .unset, .unset, .unset] [(.int p1)])) (fun t_ k_ => XS.iloadN X.here hx rfl (hb hby at_11) rfl k_) ?_
      refine own_via (T' := T) (g' := (mkF m 14 #[.val (.int p0), .val (.int p1), .val (.int p2), .val (.ref wNOT_EQUAL), .unset, .unset, .unset, .unset, .unset, .unset] [(.int (-2147483648 : Int32)), (.int p1)])) (fun t_ k_ => X.ldcInt hx hown (mvT hZ (hw _ (List.mem_of_getElem? (i := 8) rfl))) (g := (mkF m 12 #[.val (.int p0), .val (.int p1), .val (.int p2), .val (.ref wNOT_EQUAL), .unset, .unset, .unset, .unset, .unset, .unset] [(.int p1)])) rfl (hb hby at_12) _ k_) ?_
      refine own_via (T' := T) (g' := (mkF m 15 #[.val (.int p0), .val (.int p1), .val (.int p2), .val (.ref wNOT_EQUAL), .unset, .unset, .unset, .unset, .unset, .unset] [(.int (p1 ||| (-2147483648 : Int32)))])) (fun t_ k_ => XS.ior X.here hx rfl (hb hby at_14) rfl k_) ?_
      obtain ⟨ng, hd_ng⟩ : ∃ z, z = (p1 ||| (-2147483648 : Int32)) := ⟨_, rfl⟩
      rw [← hd_ng]
      have hng : ng < 0 := by rw [hd_ng]; exact own_neg p1
      have hng0 := own_n0 hng
      refine own_via (T' := T) (g' := (mkF m 17 #[.val (.int p0), .val (.int p1), .val (.int p2), .val (.ref wNOT_EQUAL), .val (.int ng), .unset, .unset, .unset, .unset, .unset] [])) (fun t_ k_ => XS.istore X.here hx rfl (hb hby at_15) rfl (l' := #[.val (.int p0), .val (.int p1), .val (.int p2), .val (.ref wNOT_EQUAL), .val (.int ng), .unset, .unset, .unset, .unset, .unset]) rfl k_) ?_
      refine own_via (T' := T) (g' := (mkF m 18 #[.val (.int p0), .val (.int p1), .val (.int p2), .val (.ref wNOT_EQUAL), .val (.int ng), .unset, .unset, .unset, .unset, .unset] [(.int p2)])) (fun t_ k_ => XS.iloadN X.here hx rfl (hb hby at_17) rfl k_) ?_
      refine own_via (T' := T) (g' := (mkF m 20 #[.val (.int p0), .val (.int p1), .val (.int p2), .val (.ref wNOT_EQUAL), .val (.int ng), .unset, .unset, .unset, .unset, .unset] [(.int (2147483647 : Int32)), (.int p2)])) (fun t_ k_ => X.ldcInt hx hown (mvT hZ (hw _ (List.mem_of_getElem? (i := 0) rfl))) (g := (mkF m 18 #[.val (.int p0), .val (.int p1), .val (.int p2), .val (.ref wNOT_EQUAL), .val (.int ng), .unset, .unset, .unset, .unset, .unset] [(.int p2)])) rfl (hb hby at_18) _ k_) ?_
      refine own_via (T' := T) (g' := (mkF m 21 #[.val (.int p0), .val (.int p1), .val (.int p2), .val (.ref wNOT_EQUAL), .val (.int ng), .unset, .unset, .unset, .unset, .unset] [(.int (p2 &&& (2147483647 : Int32)))])) (fun t_ k_ => XS.iand X.here hx rfl (hb hby at_20) rfl k_) ?_
      refine own_via (T' := T) (g' := (mkF m 22 #[.val (.int p0), .val (.int p1), .val (.int p2), .val (.ref wNOT_EQUAL), .val (.int ng), .unset, .unset, .unset, .unset, .unset] [(.int (1 : Int32)), (.int (p2 &&& (2147483647 : Int32)))])) (fun t_ k_ => XS.iconst X.here hx rfl (hb hby at_21) k_) ?_
      refine own_via (T' := T) (g' := (mkF m 23 #[.val (.int p0), .val (.int p1), .val (.int p2), .val (.ref wNOT_EQUAL), .val (.int ng), .unset, .unset, .unset, .unset, .unset] [(.int ((p2 &&& (2147483647 : Int32)) ||| (1 : Int32)))])) (fun t_ k_ => XS.ior X.here hx rfl (hb hby at_22) rfl k_) ?_
      obtain ⟨ps, hd_ps⟩ : ∃ z, z = ((p2 &&& (2147483647 : Int32)) ||| (1 : Int32)) := ⟨_, rfl⟩
      rw [← hd_ps]
      have hps : 0 < ps := by rw [hd_ps]; exact own_pos p2
      have hps0 := own_p0 hps
      refine own_via (T' := T) (g' := (mkF m 25 #[.val (.int p0), .val (.int p1), .val (.int p2), .val (.ref wNOT_EQUAL), .val (.int ng), .val (.int ps), .unset, .unset, .unset, .unset] [])) (fun t_ k_ => XS.istore X.here hx rfl (hb hby at_23) rfl (l' := #[.val (.int p0), .val (.int p1), .val (.int p2), .val (.ref wNOT_EQUAL), .val (.int ng), .val (.int ps), .unset, .unset, .unset, .unset]) rfl k_) ?_
      refine own_via (T' := T) (g' := (mkF m 26 #[.val (.int p0), .val (.int p1), .val (.int p2), .val (.ref wNOT_EQUAL), .val (.int ng), .val (.int ps), .unset, .unset, .unset, .unset] [(.ref wNOT_EQUAL)])) (fun t_ k_ => XS.aloadN X.here hx rfl (hb hby at_25) rfl rfl k_) ?_
      obtain ⟨cq, kq, qa, qb, qc⟩ := isOf hZ eT (E_NOT_EQUAL.ext O.2)
      obtain ⟨_, _, ⟨T, Lq, kq, nq⟩, -, X, ⟨Lc, hQ, lq, yq, zq⟩, st⟩ := X.virtualBack hx (y := (⟨"com/example/polyquery/polyquery/catalog/Comparison$Operator", "isOrder", "()Z"⟩ : MethodName)) (z := (⟨"com/example/polyquery/polyquery/catalog/Comparison$Operator", "isOrder", "()Z"⟩ : MethodName)) hown (mvT hZ (hw _ (List.mem_of_getElem? (i := 9) rfl))) (mvT hZ (hw _ (List.mem_of_getElem? (i := 10) rfl))) (notFace_of_selects (args := #[]) (mvT hZ (hw _ (List.mem_of_getElem? (i := 12) rfl)))) (mvT hZ (hw _ (List.mem_of_getElem? (i := 12) rfl))) (mvT hZ (hw _ (List.mem_of_getElem? (i := 11) rfl))) (by decide) (backOf (W := 0) (own_isOrder l Z a0 hw [] wNOT_EQUAL wEQUAL wNOT_EQUAL (0 : Int32) h n0 O S_EQUAL S_NOT_EQUAL ⟨fun _ => rfl, fun _ => rfl, fun _ q => absurd rfl q⟩) hZ (hw _ (List.mem_of_getElem? (i := 13) rfl)) (hw _ (List.mem_of_getElem? (i := 6) rfl)) (by decide) (by decide)) qa qc (g := (mkF m 26 #[.val (.int p0), .val (.int p1), .val (.int p2), .val (.ref wNOT_EQUAL), .val (.int ng), .val (.int ps), .unset, .unset, .unset, .unset] [(.ref wNOT_EQUAL)])) rfl (by rw [hml]; rfl) (Steps.refl _) (argsL := []) (rest := []) (lenOf own_pd2 rfl) rfl (by show 2 * 0 + _ ≤ _; exact Nat.le_of_eq rfl) (hb hby at_26) (fun _ _ => ⟨rfl, eT, (by decide : 0 + 0 ≤ _), (by decide : 0 + 0 ≤ _)⟩)
      dsimp only [Pt.U, Pt.locs, Pt.cells, Pt.slots] at X lq yq zq st hQ
      subst lq yq zq
      obtain ⟨rfl, Nq, eT⟩ := hQ
      replace N := Fr.app N Nq
      refine own_viaT (g' := (mkF m 29 #[.val (.int p0), .val (.int p1), .val (.int p2), .val (.ref wNOT_EQUAL), .val (.int ng), .val (.int ps), .unset, .unset, .unset, .unset] [(.int (0 : Int32))])) st ?_
      refine own_via (T' := T) (g' := (mkF m 31 #[.val (.int p0), .val (.int p1), .val (.int p2), .val (.ref wNOT_EQUAL), .val (.int ng), .val (.int ps), .val (.int (0 : Int32)), .unset, .unset, .unset] [])) (fun t_ k_ => XS.istore X.here hx rfl (hb hby at_29) rfl (l' := #[.val (.int p0), .val (.int p1), .val (.int p2), .val (.ref wNOT_EQUAL), .val (.int ng), .val (.int ps), .val (.int (0 : Int32)), .unset, .unset, .unset]) rfl k_) ?_
      refine own_via (T' := T) (g' := (mkF m 32 #[.val (.int p0), .val (.int p1), .val (.int p2), .val (.ref wNOT_EQUAL), .val (.int ng), .val (.int ps), .val (.int (0 : Int32)), .unset, .unset, .unset] [(.ref wNOT_EQUAL)])) (fun t_ k_ => XS.aloadN X.here hx rfl (hb hby at_31) rfl rfl k_) ?_
      refine own_via (T' := T) (g' := (mkF m 34 #[.val (.int p0), .val (.int p1), .val (.int p2), .val (.ref wNOT_EQUAL), .val (.int ng), .val (.int ps), .val (.int (0 : Int32)), .unset, .unset, .unset] [(.int ng), (.ref wNOT_EQUAL)])) (fun t_ k_ => XS.iload X.here hx rfl (hb hby at_32) rfl k_) ?_
      obtain ⟨cq, kq, qa, qb, qc⟩ := isOf hZ eT (E_NOT_EQUAL.ext O.2)
      obtain ⟨_, _, ⟨T, Lq, kq, nq⟩, -, X, ⟨Lc, hQ, lq, yq, zq⟩, st⟩ := X.virtualBack hx (y := (⟨"com/example/polyquery/polyquery/catalog/Comparison$Operator", "holds", "(I)Z"⟩ : MethodName)) (z := (⟨"com/example/polyquery/polyquery/catalog/Comparison$Operator", "holds", "(I)Z"⟩ : MethodName)) hown (mvT hZ (hw _ (List.mem_of_getElem? (i := 15) rfl))) (mvT hZ (hw _ (List.mem_of_getElem? (i := 16) rfl))) (notFace_of_selects (args := #[]) (mvT hZ (hw _ (List.mem_of_getElem? (i := 18) rfl)))) (mvT hZ (hw _ (List.mem_of_getElem? (i := 18) rfl))) (mvT hZ (hw _ (List.mem_of_getElem? (i := 17) rfl))) (by decide) (backOf (W := 0) (own_holds l Z a0 hw [] wNOT_EQUAL ng (1 : Int32) (1 : Int32) h n0 O E_NOT_EQUAL F_NOT_EQUAL (by decide) (by simp [own_holdsV, hng, hng0.1, hng0.2])) hZ (hw _ (List.mem_of_getElem? (i := 19) rfl)) (hw _ (List.mem_of_getElem? (i := 6) rfl)) (by decide) (by decide)) qa qc (g := (mkF m 34 #[.val (.int p0), .val (.int p1), .val (.int p2), .val (.ref wNOT_EQUAL), .val (.int ng), .val (.int ps), .val (.int (0 : Int32)), .unset, .unset, .unset] [(.int ng), (.ref wNOT_EQUAL)])) rfl (by rw [hml]; rfl) (Steps.refl _) (argsL := [(.int ng)]) (rest := []) (lenOf own_pd3 rfl) rfl (by show 2 * 0 + _ ≤ _; exact Nat.le_of_eq rfl) (hb hby at_34) (fun _ _ => ⟨rfl, eT, (by decide : 0 + 0 ≤ _), (by decide : 0 + 0 ≤ _)⟩)
      dsimp only [Pt.U, Pt.locs, Pt.cells, Pt.slots] at X lq yq zq st hQ
      subst lq yq zq
      obtain ⟨rfl, Nq, eT⟩ := hQ
      replace N := Fr.app N Nq
      refine own_viaT (g' := (mkF m 37 #[.val (.int p0), .val (.int p1), .val (.int p2), .val (.ref wNOT_EQUAL), .val (.int ng), .val (.int ps), .val (.int (0 : Int32)), .unset, .unset, .unset] [(.int (1 : Int32))])) st ?_
      refine own_via (T' := T) (g' := (mkF m 38 #[.val (.int p0), .val (.int p1), .val (.int p2), .val (.ref wNOT_EQUAL), .val (.int ng), .val (.int ps), .val (.int (0 : Int32)), .unset, .unset, .unset] [(.ref wNOT_EQUAL), (.int (1 : Int32))])) (fun t_ k_ => XS.aloadN X.here hx rfl (hb hby at_37) rfl rfl k_) ?_
      refine own_via (T' := T) (g' := (mkF m 40 #[.val (.int p0), .val (.int p1), .val (.int p2), .val (.ref wNOT_EQUAL), .val (.int ng), .val (.int ps), .val (.int (0 : Int32)), .unset, .unset, .unset] [(.int ps), (.ref wNOT_EQUAL), (.int (1 : Int32))])) (fun t_ k_ => XS.iload X.here hx rfl (hb hby at_38) rfl k_) ?_
      obtain ⟨cq, kq, qa, qb, qc⟩ := isOf hZ eT (E_NOT_EQUAL.ext O.2)
      obtain ⟨_, _, ⟨T, Lq, kq, nq⟩, -, X, ⟨Lc, hQ, lq, yq, zq⟩, st⟩ := X.virtualBack hx (y := (⟨"com/example/polyquery/polyquery/catalog/Comparison$Operator", "holds", "(I)Z"⟩ : MethodName)) (z := (⟨"com/example/polyquery/polyquery/catalog/Comparison$Operator", "holds", "(I)Z"⟩ : MethodName)) hown (mvT hZ (hw _ (List.mem_of_getElem? (i := 15) rfl))) (mvT hZ (hw _ (List.mem_of_getElem? (i := 16) rfl))) (notFace_of_selects (args := #[]) (mvT hZ (hw _ (List.mem_of_getElem? (i := 18) rfl)))) (mvT hZ (hw _ (List.mem_of_getElem? (i := 18) rfl))) (mvT hZ (hw _ (List.mem_of_getElem? (i := 17) rfl))) (by decide) (backOf (W := 1) (own_holds l Z a0 hw [] wNOT_EQUAL ps (1 : Int32) (1 : Int32) h n0 O E_NOT_EQUAL F_NOT_EQUAL (by decide) (by simp [own_holdsV, hps, hps0.1, hps0.2])) hZ (hw _ (List.mem_of_getElem? (i := 19) rfl)) (hw _ (List.mem_of_getElem? (i := 6) rfl)) (by decide) (by decide)) qa qc (g := (mkF m 40 #[.val (.int p0), .val (.int p1), .val (.int p2), .val (.ref wNOT_EQUAL), .val (.int ng), .val (.int ps), .val (.int (0 : Int32)), .unset, .unset, .unset] [(.int ps), (.ref wNOT_EQUAL), (.int (1 : Int32))])) rfl (by rw [hml]; rfl) (Steps.refl _) (argsL := [(.int ps)]) (rest := [(.int (1 : Int32))]) (lenOf own_pd3 rfl) rfl (by show 2 * 0 + _ ≤ _; exact Nat.le_of_eq rfl) (hb hby at_40) (fun _ _ => ⟨rfl, eT, (by decide : 0 + 0 ≤ _), (by decide : 0 + 0 ≤ _)⟩)
      dsimp only [Pt.U, Pt.locs, Pt.cells, Pt.slots] at X lq yq zq st hQ
      subst lq yq zq
      obtain ⟨rfl, Nq, eT⟩ := hQ
      replace N := Fr.app N Nq
      refine own_viaT (g' := (mkF m 43 #[.val (.int p0), .val (.int p1), .val (.int p2), .val (.ref wNOT_EQUAL), .val (.int ng), .val (.int ps), .val (.int (0 : Int32)), .unset, .unset, .unset] [(.int (1 : Int32)), (.int (1 : Int32))])) st ?_
      refine own_via (T' := T) (g' := (mkF m 50 #[.val (.int p0), .val (.int p1), .val (.int p2), .val (.ref wNOT_EQUAL), .val (.int ng), .val (.int ps), .val (.int (0 : Int32)), .unset, .unset, .unset] [])) (fun t_ k_ => XS.icmpYes X.here hx rfl (pc0 := 43) (pc' := 50) rfl (hb hby at_43) rfl (teq (by decide : (1 : Int32) = (1 : Int32))).1 (by decide) (by decide) k_) ?_
      refine own_via (T' := T) (g' := (mkF m 51 #[.val (.int p0), .val (.int p1), .val (.int p2), .val (.ref wNOT_EQUAL), .val (.int ng), .val (.int ps), .val (.int (0 : Int32)), .unset, .unset, .unset] [(.int (0 : Int32))])) (fun t_ k_ => XS.iconst X.here hx rfl (hb hby at_50) k_) ?_
      refine own_via (T' := T) (g' := (mkF m 53 #[.val (.int p0), .val (.int p1), .val (.int p2), .val (.ref wNOT_EQUAL), .val (.int ng), .val (.int ps), .val (.int (0 : Int32)), .val (.int (0 : Int32)), .unset, .unset] [])) (fun t_ k_ => XS.istore X.here hx rfl (hb hby at_51) rfl (l' := #[.val (.int p0), .val (.int p1), .val (.int p2), .val (.ref wNOT_EQUAL), .val (.int ng), .val (.int ps), .val (.int (0 : Int32)), .val (.int (0 : Int32)), .unset, .unset]) rfl k_) ?_
      refine own_via (T' := T) (g' := (mkF m 54 #[.val (.int p0), .val (.int p1), .val (.int p2), .val (.ref wNOT_EQUAL), .val (.int ng), .val (.int ps), .val (.int (0 : Int32)), .val (.int (0 : Int32)), .unset, .unset] [(.ref wNOT_EQUAL)])) (fun t_ k_ => XS.aloadN X.here hx rfl (hb hby at_53) rfl rfl k_) ?_
      obtain ⟨cq, kq, qa, qb, qc⟩ := isOf hZ eT (E_NOT_EQUAL.ext O.2)
      obtain ⟨_, _, ⟨T, Lq, kq, nq⟩, -, X, ⟨Lc, hQ, lq, yq, zq⟩, st⟩ := X.virtualBack hx (y := (⟨"com/example/polyquery/polyquery/catalog/Comparison$Operator", "swapped", "()Lcom/example/polyquery/polyquery/catalog/Comparison$Operator;"⟩ : MethodName)) (z := (⟨"com/example/polyquery/polyquery/catalog/Comparison$Operator", "swapped", "()Lcom/example/polyquery/polyquery/catalog/Comparison$Operator;"⟩ : MethodName)) hown (mvT hZ (hw _ (List.mem_of_getElem? (i := 29) rfl))) (mvT hZ (hw _ (List.mem_of_getElem? (i := 30) rfl))) (notFace_of_selects (args := #[]) (mvT hZ (hw _ (List.mem_of_getElem? (i := 32) rfl)))) (mvT hZ (hw _ (List.mem_of_getElem? (i := 32) rfl))) (mvT hZ (hw _ (List.mem_of_getElem? (i := 31) rfl))) (by decide) (backOf (W := 0) (own_swapped l Z a0 hw [] wNOT_EQUAL (1 : Int32) wEQUAL wNOT_EQUAL wLESS wLESS_OR_EQUAL wGREATER wGREATER_OR_EQUAL wNOT_EQUAL h n0 O E_NOT_EQUAL F_NOT_EQUAL (by decide) S_EQUAL S_NOT_EQUAL S_LESS S_LESS_OR_EQUAL S_GREATER S_GREATER_OR_EQUAL (by simp [own_swapV])) hZ (hw _ (List.mem_of_getElem? (i := 33) rfl)) (hw _ (List.mem_of_getElem? (i := 6) rfl)) (by decide) (by decide)) qa qc (g := (mkF m 54 #[.val (.int p0), .val (.int p1), .val (.int p2), .val (.ref wNOT_EQUAL), .val (.int ng), .val (.int ps), .val (.int (0 : Int32)), .val (.int (0 : Int32)), .unset, .unset] [(.ref wNOT_EQUAL)])) rfl (by rw [hml]; rfl) (Steps.refl _) (argsL := []) (rest := []) (lenOf own_pd4 rfl) rfl (by show 2 * 0 + _ ≤ _; exact Nat.le_of_eq rfl) (hb hby at_54) (fun _ _ => ⟨rfl, eT, (by decide : 0 + 0 ≤ _), (by decide : 0 + 0 ≤ _)⟩)
      dsimp only [Pt.U, Pt.locs, Pt.cells, Pt.slots] at X lq yq zq st hQ
      subst lq yq zq
      obtain ⟨rfl, Nq, eT⟩ := hQ
      replace N := Fr.app N Nq
      refine own_viaT (g' := (mkF m 57 #[.val (.int p0), .val (.int p1), .val (.int p2), .val (.ref wNOT_EQUAL), .val (.int ng), .val (.int ps), .val (.int (0 : Int32)), .val (.int (0 : Int32)), .unset, .unset] [(.ref wNOT_EQUAL)])) st ?_
      refine own_via (T' := T) (g' := (mkF m 58 #[.val (.int p0), .val (.int p1), .val (.int p2), .val (.ref wNOT_EQUAL), .val (.int ng), .val (.int ps), .val (.int (0 : Int32)), .val (.int (0 : Int32)), .unset, .unset] [(.ref wNOT_EQUAL), (.ref wNOT_EQUAL)])) (fun t_ k_ => XS.aloadN X.here hx rfl (hb hby at_57) rfl rfl k_) ?_
      refine own_via (T' := T) (g' := (mkF m 65 #[.val (.int p0), .val (.int p1), .val (.int p2), .val (.ref wNOT_EQUAL), .val (.int ng), .val (.int ps), .val (.int (0 : Int32)), .val (.int (0 : Int32)), .unset, .unset] [])) (fun t_ k_ => Jvm.RoadKit.acmp (g := (mkF m 58 #[.val (.int p0), .val (.int p1), .val (.int p2), .val (.ref wNOT_EQUAL), .val (.int ng), .val (.int ps), .val (.int (0 : Int32)), .val (.int (0 : Int32)), .unset, .unset] [(.ref wNOT_EQUAL), (.ref wNOT_EQUAL)])) X hx rfl rfl rfl (pc0 := 58) (pc' := 65) (same := true) rfl (hb hby at_58) rfl (decide_eq_true rfl) (by decide) (by decide) k_) ?_
      refine own_via (T' := T) (g' := (mkF m 66 #[.val (.int p0), .val (.int p1), .val (.int p2), .val (.ref wNOT_EQUAL), .val (.int ng), .val (.int ps), .val (.int (0 : Int32)), .val (.int (0 : Int32)), .unset, .unset] [(.int (0 : Int32))])) (fun t_ k_ => XS.iconst X.here hx rfl (hb hby at_65) k_) ?_
      refine own_via (T' := T) (g' := (mkF m 68 #[.val (.int p0), .val (.int p1), .val (.int p2), .val (.ref wNOT_EQUAL), .val (.int ng), .val (.int ps), .val (.int (0 : Int32)), .val (.int (0 : Int32)), .val (.int (0 : Int32)), .unset] [])) (fun t_ k_ => XS.istore X.here hx rfl (hb hby at_66) rfl (l' := #[.val (.int p0), .val (.int p1), .val (.int p2), .val (.ref wNOT_EQUAL), .val (.int ng), .val (.int ps), .val (.int (0 : Int32)), .val (.int (0 : Int32)), .val (.int (0 : Int32)), .unset]) rfl k_) ?_
      refine own_via (T' := T) (g' := (mkF m 69 #[.val (.int p0), .val (.int p1), .val (.int p2), .val (.ref wNOT_EQUAL), .val (.int ng), .val (.int ps), .val (.int (0 : Int32)), .val (.int (0 : Int32)), .val (.int (0 : Int32)), .unset] [(.ref wNOT_EQUAL)])) (fun t_ k_ => XS.aloadN X.here hx rfl (hb hby at_68) rfl rfl k_) ?_
      obtain ⟨cq, kq, qa, qb, qc⟩ := isOf hZ eT (E_NOT_EQUAL.ext O.2)
      obtain ⟨_, _, ⟨T, Lq, kq, nq⟩, -, X, ⟨Lc, hQ, lq, yq, zq⟩, st⟩ := X.virtualBack hx (y := (⟨"com/example/polyquery/polyquery/catalog/Comparison$Operator", "negated", "()Lcom/example/polyquery/polyquery/catalog/Comparison$Operator;"⟩ : MethodName)) (z := (⟨"com/example/polyquery/polyquery/catalog/Comparison$Operator", "negated", "()Lcom/example/polyquery/polyquery/catalog/Comparison$Operator;"⟩ : MethodName)) hown (mvT hZ (hw _ (List.mem_of_getElem? (i := 34) rfl))) (mvT hZ (hw _ (List.mem_of_getElem? (i := 35) rfl))) (notFace_of_selects (args := #[]) (mvT hZ (hw _ (List.mem_of_getElem? (i := 37) rfl)))) (mvT hZ (hw _ (List.mem_of_getElem? (i := 37) rfl))) (mvT hZ (hw _ (List.mem_of_getElem? (i := 36) rfl))) (by decide) (backOf (W := 0) (own_negated l Z a0 hw [] wNOT_EQUAL (1 : Int32) wEQUAL wNOT_EQUAL wLESS wLESS_OR_EQUAL wGREATER wGREATER_OR_EQUAL wEQUAL h n0 O E_NOT_EQUAL F_NOT_EQUAL (by decide) S_EQUAL S_NOT_EQUAL S_LESS S_LESS_OR_EQUAL S_GREATER S_GREATER_OR_EQUAL (by simp [own_negV])) hZ (hw _ (List.mem_of_getElem? (i := 38) rfl)) (hw _ (List.mem_of_getElem? (i := 6) rfl)) (by decide) (by decide)) qa qc (g := (mkF m 69 #[.val (.int p0), .val (.int p1), .val (.int p2), .val (.ref wNOT_EQUAL), .val (.int ng), .val (.int ps), .val (.int (0 : Int32)), .val (.int (0 : Int32)), .val (.int (0 : Int32)), .unset] [(.ref wNOT_EQUAL)])) rfl (by rw [hml]; rfl) (Steps.refl _) (argsL := []) (rest := []) (lenOf own_pd4 rfl) rfl (by show 2 * 0 + _ ≤ _; exact Nat.le_of_eq rfl) (hb hby at_69) (fun _ _ => ⟨rfl, eT, (by decide : 0 + 0 ≤ _), (by decide : 0 + 0 ≤ _)⟩)
      dsimp only [Pt.U, Pt.locs, Pt.cells, Pt.slots] at X lq yq zq st hQ
      subst lq yq zq
      obtain ⟨rfl, Nq, eT⟩ := hQ
      replace N := Fr.app N Nq
      refine own_viaT (g' := (mkF m 72 #[.val (.int p0), .val (.int p1), .val (.int p2), .val (.ref wNOT_EQUAL), .val (.int ng), .val (.int ps), .val (.int (0 : Int32)), .val (.int (0 : Int32)), .val (.int (0 : Int32)), .unset] [(.ref wEQUAL)])) st ?_
      obtain ⟨cq, kq, qa, qb, qc⟩ := isOf hZ eT (E_EQUAL.ext O.2)
      obtain ⟨_, _, ⟨T, Lq, kq, nq⟩, -, X, ⟨Lc, hQ, lq, yq, zq⟩, st⟩ := X.virtualBack hx (y := (⟨"com/example/polyquery/polyquery/catalog/Comparison$Operator", "isOrder", "()Z"⟩ : MethodName)) (z := (⟨"com/example/polyquery/polyquery/catalog/Comparison$Operator", "isOrder", "()Z"⟩ : MethodName)) hown (mvT hZ (hw _ (List.mem_of_getElem? (i := 9) rfl))) (mvT hZ (hw _ (List.mem_of_getElem? (i := 10) rfl))) (notFace_of_selects (args := #[]) (mvT hZ (hw _ (List.mem_of_getElem? (i := 12) rfl)))) (mvT hZ (hw _ (List.mem_of_getElem? (i := 12) rfl))) (mvT hZ (hw _ (List.mem_of_getElem? (i := 11) rfl))) (by decide) (backOf (W := 0) (own_isOrder l Z a0 hw [] wEQUAL wEQUAL wNOT_EQUAL (0 : Int32) h n0 O S_EQUAL S_NOT_EQUAL ⟨fun _ => rfl, fun _ => rfl, fun q _ => absurd rfl q⟩) hZ (hw _ (List.mem_of_getElem? (i := 13) rfl)) (hw _ (List.mem_of_getElem? (i := 6) rfl)) (by decide) (by decide)) qa qc (g := (mkF m 72 #[.val (.int p0), .val (.int p1), .val (.int p2), .val (.ref wNOT_EQUAL), .val (.int ng), .val (.int ps), .val (.int (0 : Int32)), .val (.int (0 : Int32)), .val (.int (0 : Int32)), .unset] [(.ref wEQUAL)])) rfl (by rw [hml]; rfl) (Steps.refl _) (argsL := []) (rest := []) (lenOf own_pd2 rfl) rfl (by show 2 * 0 + _ ≤ _; exact Nat.le_of_eq rfl) (hb hby at_72) (fun _ _ => ⟨rfl, eT, (by decide : 0 + 0 ≤ _), (by decide : 0 + 0 ≤ _)⟩)
      dsimp only [Pt.U, Pt.locs, Pt.cells, Pt.slots] at X lq yq zq st hQ
      subst lq yq zq
      obtain ⟨rfl, Nq, eT⟩ := hQ
      replace N := Fr.app N Nq
      refine own_viaT (g' := (mkF m 75 #[.val (.int p0), .val (.int p1), .val (.int p2), .val (.ref wNOT_EQUAL), .val (.int ng), .val (.int ps), .val (.int (0 : Int32)), .val (.int (0 : Int32)), .val (.int (0 : Int32)), .unset] [(.int (0 : Int32))])) st ?_
      refine own_via (T' := T) (g' := (mkF m 77 #[.val (.int p0), .val (.int p1), .val (.int p2), .val (.ref wNOT_EQUAL), .val (.int ng), .val (.int ps), .val (.int (0 : Int32)), .val (.int (0 : Int32)), .val (.int (0 : Int32)), .val (.int (0 : Int32))] [])) (fun t_ k_ => XS.istore X.here hx rfl (hb hby at_75) rfl (l' := #[.val (.int p0), .val (.int p1), .val (.int p2), .val (.ref wNOT_EQUAL), .val (.int ng), .val (.int ps), .val (.int (0 : Int32)), .val (.int (0 : Int32)), .val (.int (0 : Int32)), .val (.int (0 : Int32))]) rfl k_) ?_
      refine own_via (T' := T) (g' := (mkF m 79 #[.val (.int p0), .val (.int p1), .val (.int p2), .val (.ref wNOT_EQUAL), .val (.int ng), .val (.int ps), .val (.int (0 : Int32)), .val (.int (0 : Int32)), .val (.int (0 : Int32)), .val (.int (0 : Int32))] [(.int (0 : Int32))])) (fun t_ k_ => XS.iload X.here hx rfl (hb hby at_77) rfl k_) ?_
      refine own_via (T' := T) (g' := (mkF m 81 #[.val (.int p0), .val (.int p1), .val (.int p2), .val (.ref wNOT_EQUAL), .val (.int ng), .val (.int ps), .val (.int (0 : Int32)), .val (.int (0 : Int32)), .val (.int (0 : Int32)), .val (.int (0 : Int32))] [(.int (0 : Int32)), (.int (0 : Int32))])) (fun t_ k_ => XS.iload X.here hx rfl (hb hby at_79) rfl k_) ?_
      refine own_via (T' := T) (g' := (mkF m 84 #[.val (.int p0), .val (.int p1), .val (.int p2), .val (.ref wNOT_EQUAL), .val (.int ng), .val (.int ps), .val (.int (0 : Int32)), .val (.int (0 : Int32)), .val (.int (0 : Int32)), .val (.int (0 : Int32))] [])) (fun t_ k_ => XS.icmpNo X.here hx rfl (hb hby at_81) rfl (teq (by decide : (0 : Int32) = (0 : Int32))).2 k_) ?_
      refine own_via (T' := T) (g' := (mkF m 86 #[.val (.int p0), .val (.int p1), .val (.int p2), .val (.ref wNOT_EQUAL), .val (.int ng), .val (.int ps), .val (.int (0 : Int32)), .val (.int (0 : Int32)), .val (.int (0 : Int32)), .val (.int (0 : Int32))] [(.int (0 : Int32))])) (fun t_ k_ => XS.iload X.here hx rfl (hb hby at_84) rfl k_) ?_
      refine own_via (T' := T) (g' := (mkF m 88 #[.val (.int p0), .val (.int p1), .val (.int p2), .val (.ref wNOT_EQUAL), .val (.int ng), .val (.int ps), .val (.int (0 : Int32)), .val (.int (0 : Int32)), .val (.int (0 : Int32)), .val (.int (0 : Int32))] [(.int (0 : Int32)), (.int (0 : Int32))])) (fun t_ k_ => XS.iload X.here hx rfl (hb hby at_86) rfl k_) ?_
      refine own_via (T' := T) (g' := (mkF m 91 #[.val (.int p0), .val (.int p1), .val (.int p2), .val (.ref wNOT_EQUAL), .val (.int ng), .val (.int ps), .val (.int (0 : Int32)), .val (.int (0 : Int32)), .val (.int (0 : Int32)), .val (.int (0 : Int32))] [])) (fun t_ k_ => XS.icmpNo X.here hx rfl (hb hby at_88) rfl (teq (by decide : (0 : Int32) = (0 : Int32))).2 k_) ?_
      refine own_via (T' := T) (g' := (mkF m 93 #[.val (.int p0), .val (.int p1), .val (.int p2), .val (.ref wNOT_EQUAL), .val (.int ng), .val (.int ps), .val (.int (0 : Int32)), .val (.int (0 : Int32)), .val (.int (0 : Int32)), .val (.int (0 : Int32))] [(.int (0 : Int32))])) (fun t_ k_ => XS.iload X.here hx rfl (hb hby at_91) rfl k_) ?_
      refine own_via (T' := T) (g' := (mkF m 95 #[.val (.int p0), .val (.int p1), .val (.int p2), .val (.ref wNOT_EQUAL), .val (.int ng), .val (.int ps), .val (.int (0 : Int32)), .val (.int (0 : Int32)), .val (.int (0 : Int32)), .val (.int (0 : Int32))] [(.int (0 : Int32)), (.int (0 : Int32))])) (fun t_ k_ => XS.iload X.here hx rfl (hb hby at_93) rfl k_) ?_
      refine own_via (T' := T) (g' := (mkF m 98 #[.val (.int p0), .val (.int p1), .val (.int p2), .val (.ref wNOT_EQUAL), .val (.int ng), .val (.int ps), .val (.int (0 : Int32)), .val (.int (0 : Int32)), .val (.int (0 : Int32)), .val (.int (0 : Int32))] [])) (fun t_ k_ => XS.icmpNo X.here hx rfl (hb hby at_95) rfl (teq (by decide : (0 : Int32) = (0 : Int32))).2 k_) ?_
      refine own_via (T' := T) (g' := (mkF m 99 #[.val (.int p0), .val (.int p1), .val (.int p2), .val (.ref wNOT_EQUAL), .val (.int ng), .val (.int ps), .val (.int (0 : Int32)), .val (.int (0 : Int32)), .val (.int (0 : Int32)), .val (.int (0 : Int32))] [(.int (1 : Int32))])) (fun t_ k_ => XS.iconst X.here hx rfl (hb hby at_98) k_) ?_
      refine own_via (T' := T) (g' := (mkF m 103 #[.val (.int p0), .val (.int p1), .val (.int p2), .val (.ref wNOT_EQUAL), .val (.int ng), .val (.int ps), .val (.int (0 : Int32)), .val (.int (0 : Int32)), .val (.int (0 : Int32)), .val (.int (0 : Int32))] [(.int (1 : Int32))])) (fun t_ k_ => XS.goto X.here hx rfl (pc0 := 99) (pc' := 103) rfl (hb hby at_99) (by decide) (by decide) k_) ?_
      refine own_retN X hx hlk (t := .boolean) Bd.returns (by simp) (hb hby at_103) (by decide) (by decide) ?_
      rw [eT]
      exact ⟨rfl, N, trivial⟩
    · by_cases hc3 : k = (2 : Int32)
      · obtain ⟨_, _, ⟨T, Lq, kq, nq⟩, -, X, ⟨Lc, hQ, lq, yq, zq⟩, st⟩ := Jvm.LawKit.callS X hx (y := (⟨"com/example/polyquery/polyquery/catalog/OperatorIsOrderPinLaw", "pick", "(I)Lcom/example/polyquery/polyquery/catalog/Comparison$Operator;"⟩ : MethodName)) hown (mvT hZ (hw _ (List.mem_of_getElem? (i := 1) rfl))) (mvT hZ (hw _ (List.mem_of_getElem? (i := 2) rfl))) (mvT hZ (hw _ (List.mem_of_getElem? (i := 3) rfl))) (mvT hZ (hw _ (List.mem_of_getElem? (i := 4) rfl))) (by decide) (backOf (W := 0) (own_pick l Z a0 hw [] k wEQUAL wNOT_EQUAL wLESS wLESS_OR_EQUAL wGREATER wGREATER_OR_EQUAL wLESS h n0 O S_EQUAL S_NOT_EQUAL S_LESS S_LESS_OR_EQUAL S_GREATER S_GREATER_OR_EQUAL (by simp [own_pickV, hc1, hc2, hc3])) hZ (hw _ (List.mem_of_getElem? (i := 4) rfl)) (hw _ (List.mem_of_getElem? (i := 3) rfl)) (by decide) (by decide)) (g := (mkF m 7 #[.val (.int p0), .val (.int p1), .val (.int p2), .unset, .unset, .unset, .unset, .unset, .unset, .unset] [(.int k)])) rfl (by rw [hml]; rfl) (argsL := [(.int k)]) (rest := []) (lenOf own_pd1 rfl) rfl (by show 2 * 0 + _ ≤ _; exact Nat.le_of_eq rfl) (hb hby at_7) (fun _ _ => ⟨rfl, eT, (by decide : 0 + 0 ≤ _), (by decide : 0 + 0 ≤ _)⟩)
        dsimp only [Pt.U, Pt.locs, Pt.cells, Pt.slots] at X lq yq zq st hQ
        subst lq yq zq
        obtain ⟨rfl, Nq, eT⟩ := hQ
        replace N := Fr.app N Nq
        refine own_via (g' := (mkF m 10 #[.val (.int p0), .val (.int p1), .val (.int p2), .unset, .unset, .unset, .unset, .unset, .unset, .unset] [(.ref wLESS)])) st ?_
        refine own_via (T' := T) (g' := (mkF m 11 #[.val (.int p0), .val (.int p1), .val (.int p2), .val (.ref wLESS), .unset, .unset, .unset, .unset, .unset, .unset] [])) (fun t_ k_ => XS.astoreN X.here hx rfl (hb hby at_10) rfl rfl (l' := #[.val (.int p0), .val (.int p1), .val (.int p2), .val (.ref wLESS), .unset, .unset, .unset, .unset, .unset, .unset]) rfl k_) ?_
        refine own_via (T' := T) (g' := (mkF m 12 #[.val (.int p0), .val (.int p1), .val (.int p2), .val (.ref wLESS), .unset, .unset, .unset, .unset, .unset, .unset] [(.int p1)])) (fun t_ k_ => XS.iloadN X.here hx rfl (hb hby at_11) rfl k_) ?_
        refine own_via (T' := T) (g' := (mkF m 14 #[.val (.int p0), .val (.int p1), .val (.int p2), .val (.ref wLESS), .unset, .unset, .unset, .unset, .unset, .unset] [(.int (-2147483648 : Int32)), (.int p1)])) (fun t_ k_ => X.ldcInt hx hown (mvT hZ (hw _ (List.mem_of_getElem? (i := 8) rfl))) (g := (mkF m 12 #[.val (.int p0), .val (.int p1), .val (.int p2), .val (.ref wLESS), .unset, .unset, .unset, .unset, .unset, .unset] [(.int p1)])) rfl (hb hby at_12) _ k_) ?_
        refine own_via (T' := T) (g' := (mkF m 15 #[.val (.int p0), .val (.int p1), .val (.int p2), .val (.ref wLESS), .unset, .unset, .unset, .unset, .unset, .unset] [(.int (p1 ||| (-2147483648 : Int32)))])) (fun t_ k_ => XS.ior X.here hx rfl (hb hby at_14) rfl k_) ?_
        obtain ⟨ng, hd_ng⟩ : ∃ z, z = (p1 ||| (-2147483648 : Int32)) := ⟨_, rfl⟩
        rw [← hd_ng]
        have hng : ng < 0 := by rw [hd_ng]; exact own_neg p1
        have hng0 := own_n0 hng
        refine own_via (T' := T) (g' := (mkF m 17 #[.val (.int p0), .val (.int p1), .val (.int p2), .val (.ref wLESS), .val (.int ng), .unset, .unset, .unset, .unset, .unset] [])) (fun t_ k_ => XS.istore X.here hx rfl (hb hby at_15) rfl (l' := #[.val (.int p0), .val (.int p1), .val (.int p2), .val (.ref wLESS), .val (.int ng), .unset, .unset, .unset, .unset, .unset]) rfl k_) ?_
        refine own_via (T' := T) (g' := (mkF m 18 #[.val (.int p0), .val (.int p1), .val (.int p2), .val (.ref wLESS), .val (.int ng), .unset, .unset, .unset, .unset, .unset] [(.int p2)])) (fun t_ k_ => XS.iloadN X.here hx rfl (hb hby at_17) rfl k_) ?_
        refine own_via (T' := T) (g' := (mkF m 20 #[.val (.int p0), .val (.int p1), .val (.int p2), .val (.ref wLESS), .val (.int ng), .unset, .unset, .unset, .unset, .unset] [(.int (2147483647 : Int32)), (.int p2)])) (fun t_ k_ => X.ldcInt hx hown (mvT hZ (hw _ (List.mem_of_getElem? (i := 0) rfl))) (g := (mkF m 18 #[.val (.int p0), .val (.int p1), .val (.int p2), .val (.ref wLESS), .val (.int ng), .unset, .unset, .unset, .unset, .unset] [(.int p2)])) rfl (hb hby at_18) _ k_) ?_
        refine own_via (T' := T) (g' := (mkF m 21 #[.val (.int p0), .val (.int p1), .val (.int p2), .val (.ref wLESS), .val (.int ng), .unset, .unset, .unset, .unset, .unset] [(.int (p2 &&& (2147483647 : Int32)))])) (fun t_ k_ => XS.iand X.here hx rfl (hb hby at_20) rfl k_) ?_
        refine own_via (T' := T) (g' := (mkF m 22 #[.val (.int p0), .val (.int p1), .val (.int p2), .val (.ref wLESS), .val (.int ng), .unset, .unset, .unset, .unset, .unset] [(.int (1 : Int32)), (.int (p2 &&& (2147483647 : Int32)))])) (fun t_ k_ => XS.iconst X.here hx rfl (hb hby at_21) k_) ?_
        refine own_via (T' := T) (g' := (mkF m 23 #[.val (.int p0), .val (.int p1), .val (.int p2), .val (.ref wLESS), .val (.int ng), .unset, .unset, .unset, .unset, .unset] [(.int ((p2 &&& (2147483647 : Int32)) ||| (1 : Int32)))])) (fun t_ k_ => XS.ior X.here hx rfl (hb hby at_22) rfl k_) ?_
        obtain ⟨ps, hd_ps⟩ : ∃ z, z = ((p2 &&& (2147483647 : Int32)) ||| (1 : Int32)) := ⟨_, rfl⟩
        rw [← hd_ps]
        have hps : 0 < ps := by rw [hd_ps]; exact own_pos p2
        have hps0 := own_p0 hps
        refine own_via (T' := T) (g' := (mkF m 25 #[.val (.int p0), .val (.int p1), .val (.int p2), .val (.ref wLESS), .val (.int ng), .val (.int ps), .unset, .unset, .unset, .unset] [])) (fun t_ k_ => XS.istore X.here hx rfl (hb hby at_23) rfl (l' := #[.val (.int p0), .val (.int p1), .val (.int p2), .val (.ref wLESS), .val (.int ng), .val (.int ps), .unset, .unset, .unset, .unset]) rfl k_) ?_
        refine own_via (T' := T) (g' := (mkF m 26 #[.val (.int p0), .val (.int p1), .val (.int p2), .val (.ref wLESS), .val (.int ng), .val (.int ps), .unset, .unset, .unset, .unset] [(.ref wLESS)])) (fun t_ k_ => XS.aloadN X.here hx rfl (hb hby at_25) rfl rfl k_) ?_
        obtain ⟨cq, kq, qa, qb, qc⟩ := isOf hZ eT (E_LESS.ext O.2)
        obtain ⟨_, _, ⟨T, Lq, kq, nq⟩, -, X, ⟨Lc, hQ, lq, yq, zq⟩, st⟩ := X.virtualBack hx (y := (⟨"com/example/polyquery/polyquery/catalog/Comparison$Operator", "isOrder", "()Z"⟩ : MethodName)) (z := (⟨"com/example/polyquery/polyquery/catalog/Comparison$Operator", "isOrder", "()Z"⟩ : MethodName)) hown (mvT hZ (hw _ (List.mem_of_getElem? (i := 9) rfl))) (mvT hZ (hw _ (List.mem_of_getElem? (i := 10) rfl))) (notFace_of_selects (args := #[]) (mvT hZ (hw _ (List.mem_of_getElem? (i := 12) rfl)))) (mvT hZ (hw _ (List.mem_of_getElem? (i := 12) rfl))) (mvT hZ (hw _ (List.mem_of_getElem? (i := 11) rfl))) (by decide) (backOf (W := 0) (own_isOrder l Z a0 hw [] wLESS wEQUAL wNOT_EQUAL (1 : Int32) h n0 O S_EQUAL S_NOT_EQUAL ⟨fun q => absurd q ne_2_0, fun q => absurd q ne_2_1, fun _ _ => rfl⟩) hZ (hw _ (List.mem_of_getElem? (i := 13) rfl)) (hw _ (List.mem_of_getElem? (i := 6) rfl)) (by decide) (by decide)) qa qc (g := (mkF m 26 #[.val (.int p0), .val (.int p1), .val (.int p2), .val (.ref wLESS), .val (.int ng), .val (.int ps), .unset, .unset, .unset, .unset] [(.ref wLESS)])) rfl (by rw [hml]; rfl) (Steps.refl _) (argsL := []) (rest := []) (lenOf own_pd2 rfl) rfl (by show 2 * 0 + _ ≤ _; exact Nat.le_of_eq rfl) (hb hby at_26) (fun _ _ => ⟨rfl, eT, (by decide : 0 + 0 ≤ _), (by decide : 0 + 0 ≤ _)⟩)
        dsimp only [Pt.U, Pt.locs, Pt.cells, Pt.slots] at X lq yq zq st hQ
        subst lq yq zq
        obtain ⟨rfl, Nq, eT⟩ := hQ
        replace N := Fr.app N Nq
        refine own_viaT (g' := (mkF m 29 #[.val (.int p0), .val (.int p1), .val (.int p2), .val (.ref wLESS), .val (.int ng), .val (.int ps), .unset, .unset, .unset, .unset] [(.int (1 : Int32))])) st ?_
        refine own_via (T' := T) (g' := (mkF m 31 #[.val (.int p0), .val (.int p1), .val (.int p2), .val (.ref wLESS), .val (.int ng), .val (.int ps), .val (.int (1 : Int32)), .unset, .unset, .unset] [])) (fun t_ k_ => XS.istore X.here hx rfl (hb hby at_29) rfl (l' := #[.val (.int p0), .val (.int p1), .val (.int p2), .val (.ref wLESS), .val (.int ng), .val (.int ps), .val (.int (1 : Int32)), .unset, .unset, .unset]) rfl k_) ?_
        refine own_via (T' := T) (g' := (mkF m 32 #[.val (.int p0), .val (.int p1), .val (.int p2), .val (.ref wLESS), .val (.int ng), .val (.int ps), .val (.int (1 : Int32)), .unset, .unset, .unset] [(.ref wLESS)])) (fun t_ k_ => XS.aloadN X.here hx rfl (hb hby at_31) rfl rfl k_) ?_
        refine own_via (T' := T) (g' := (mkF m 34 #[.val (.int p0), .val (.int p1), .val (.int p2), .val (.ref wLESS), .val (.int ng), .val (.int ps), .val (.int (1 : Int32)), .unset, .unset, .unset] [(.int ng), (.ref wLESS)])) (fun t_ k_ => XS.iload X.here hx rfl (hb hby at_32) rfl k_) ?_
        obtain ⟨cq, kq, qa, qb, qc⟩ := isOf hZ eT (E_LESS.ext O.2)
        obtain ⟨_, _, ⟨T, Lq, kq, nq⟩, -, X, ⟨Lc, hQ, lq, yq, zq⟩, st⟩ := X.virtualBack hx (y := (⟨"com/example/polyquery/polyquery/catalog/Comparison$Operator", "holds", "(I)Z"⟩ : MethodName)) (z := (⟨"com/example/polyquery/polyquery/catalog/Comparison$Operator", "holds", "(I)Z"⟩ : MethodName)) hown (mvT hZ (hw _ (List.mem_of_getElem? (i := 15) rfl))) (mvT hZ (hw _ (List.mem_of_getElem? (i := 16) rfl))) (notFace_of_selects (args := #[]) (mvT hZ (hw _ (List.mem_of_getElem? (i := 18) rfl)))) (mvT hZ (hw _ (List.mem_of_getElem? (i := 18) rfl))) (mvT hZ (hw _ (List.mem_of_getElem? (i := 17) rfl))) (by decide) (backOf (W := 0) (own_holds l Z a0 hw [] wLESS ng (2 : Int32) (1 : Int32) h n0 O E_LESS F_LESS (by decide) (by simp [own_holdsV, hng, hng0.1, hng0.2])) hZ (hw _ (List.mem_of_getElem? (i := 19) rfl)) (hw _ (List.mem_of_getElem? (i := 6) rfl)) (by decide) (by decide)) qa qc (g := (mkF m 34 #[.val (.int p0), .val (.int p1), .val (.int p2), .val (.ref wLESS), .val (.int ng), .val (.int ps), .val (.int (1 : Int32)), .unset, .unset, .unset] [(.int ng), (.ref wLESS)])) rfl (by rw [hml]; rfl) (Steps.refl _) (argsL := [(.int ng)]) (rest := []) (lenOf own_pd3 rfl) rfl (by show 2 * 0 + _ ≤ _; exact Nat.le_of_eq rfl) (hb hby at_34) (fun _ _ => ⟨rfl, eT, (by decide : 0 + 0 ≤ _), (by decide : 0 + 0 ≤ _)⟩)
        dsimp only [Pt.U, Pt.locs, Pt.cells, Pt.slots] at X lq yq zq st hQ
        subst lq yq zq
        obtain ⟨rfl, Nq, eT⟩ := hQ
        replace N := Fr.app N Nq
        refine own_viaT (g' := (mkF m 37 #[.val (.int p0), .val (.int p1), .val (.int p2), .val (.ref wLESS), .val (.int ng), .val (.int ps), .val (.int (1 : Int32)), .unset, .unset, .unset] [(.int (1 : Int32))])) st ?_
        refine own_via (T' := T) (g' := (mkF m 38 #[.val (.int p0), .val (.int p1), .val (.int p2), .val (.ref wLESS), .val (.int ng), .val (.int ps), .val (.int (1 : Int32)), .unset, .unset, .unset] [(.ref wLESS), (.int (1 : Int32))])) (fun t_ k_ => XS.aloadN X.here hx rfl (hb hby at_37) rfl rfl k_) ?_
        refine own_via (T' := T) (g' := (mkF m 40 #[.val (.int p0), .val (.int p1), .val (.int p2), .val (.ref wLESS), .val (.int ng), .val (.int ps), .val (.int (1 : Int32)), .unset, .unset, .unset] [(.int ps), (.ref wLESS), (.int (1 : Int32))])) (fun t_ k_ => XS.iload X.here hx rfl (hb hby at_38) rfl k_) ?_
        obtain ⟨cq, kq, qa, qb, qc⟩ := isOf hZ eT (E_LESS.ext O.2)
        obtain ⟨_, _, ⟨T, Lq, kq, nq⟩, -, X, ⟨Lc, hQ, lq, yq, zq⟩, st⟩ := X.virtualBack hx (y := (⟨"com/example/polyquery/polyquery/catalog/Comparison$Operator", "holds", "(I)Z"⟩ : MethodName)) (z := (⟨"com/example/polyquery/polyquery/catalog/Comparison$Operator", "holds", "(I)Z"⟩ : MethodName)) hown (mvT hZ (hw _ (List.mem_of_getElem? (i := 15) rfl))) (mvT hZ (hw _ (List.mem_of_getElem? (i := 16) rfl))) (notFace_of_selects (args := #[]) (mvT hZ (hw _ (List.mem_of_getElem? (i := 18) rfl)))) (mvT hZ (hw _ (List.mem_of_getElem? (i := 18) rfl))) (mvT hZ (hw _ (List.mem_of_getElem? (i := 17) rfl))) (by decide) (backOf (W := 1) (own_holds l Z a0 hw [] wLESS ps (2 : Int32) (0 : Int32) h n0 O E_LESS F_LESS (by decide) (by simp [own_holdsV, hps, hps0.1, hps0.2])) hZ (hw _ (List.mem_of_getElem? (i := 19) rfl)) (hw _ (List.mem_of_getElem? (i := 6) rfl)) (by decide) (by decide)) qa qc (g := (mkF m 40 #[.val (.int p0), .val (.int p1), .val (.int p2), .val (.ref wLESS), .val (.int ng), .val (.int ps), .val (.int (1 : Int32)), .unset, .unset, .unset] [(.int ps), (.ref wLESS), (.int (1 : Int32))])) rfl (by rw [hml]; rfl) (Steps.refl _) (argsL := [(.int ps)]) (rest := [(.int (1 : Int32))]) (lenOf own_pd3 rfl) rfl (by show 2 * 0 + _ ≤ _; exact Nat.le_of_eq rfl) (hb hby at_40) (fun _ _ => ⟨rfl, eT, (by decide : 0 + 0 ≤ _), (by decide : 0 + 0 ≤ _)⟩)
        dsimp only [Pt.U, Pt.locs, Pt.cells, Pt.slots] at X lq yq zq st hQ
        subst lq yq zq
        obtain ⟨rfl, Nq, eT⟩ := hQ
        replace N := Fr.app N Nq
        refine own_viaT (g' := (mkF m 43 #[.val (.int p0), .val (.int p1), .val (.int p2), .val (.ref wLESS), .val (.int ng), .val (.int ps), .val (.int (1 : Int32)), .unset, .unset, .unset] [(.int (0 : Int32)), (.int (1 : Int32))])) st ?_
        refine own_via (T' := T) (g' := (mkF m 46 #[.val (.int p0), .val (.int p1), .val (.int p2), .val (.ref wLESS), .val (.int ng), .val (.int ps), .val (.int (1 : Int32)), .unset, .unset, .unset] [])) (fun t_ k_ => XS.icmpNo X.here hx rfl (hb hby at_43) rfl (feq (by decide : ¬ ((1 : Int32) = (0 : Int32)))).1 k_) ?_
        refine own_via (T' := T) (g' := (mkF m 47 #[.val (.int p0), .val (.int p1), .val (.int p2), .val (.ref wLESS), .val (.int ng), .val (.int ps), .val (.int (1 : Int32)), .unset, .unset, .unset] [(.int (1 : Int32))])) (fun t_ k_ => XS.iconst X.here hx rfl (hb hby at_46) k_) ?_
        refine own_via (T' := T) (g' := (mkF m 51 #[.val (.int p0), .val (.int p1), .val (.int p2), .val (.ref wLESS), .val (.int ng), .val (.int ps), .val (.int (1 : Int32)), .unset, .unset, .unset] [(.int (1 : Int32))])) (fun t_ k_ => XS.goto X.here hx rfl (pc0 := 47) (pc' := 51) rfl (hb hby at_47) (by decide) (by decide) k_) ?_
        refine own_via (T' := T) (g' := (mkF m 53 #[.val (.int p0), .val (.int p1), .val (.int p2), .val (.ref wLESS), .val (.int ng), .val (.int ps), .val (.int (1 : Int32)), .val (.int (1 : Int32)), .unset, .unset] [])) (fun t_ k_ => XS.istore X.here hx rfl (hb hby at_51) rfl (l' := #[.val (.int p0), .val (.int p1), .val (.int p2), .val (.ref wLESS), .val (.int ng), .val (.int ps), .val (.int (1 : Int32)), .val (.int (1 : Int32)), .unset, .unset]) rfl k_) ?_
        refine own_via (T' := T) (g' := (mkF m 54 #[.val (.int p0), .val (.int p1), .val (.int p2), .val (.ref wLESS), .val (.int ng), .val (.int ps), .val (.int (1 : Int32)), .val (.int (1 : Int32)), .unset, .unset] [(.ref wLESS)])) (fun t_ k_ => XS.aloadN X.here hx rfl (hb hby at_53) rfl rfl k_) ?_
        obtain ⟨cq, kq, qa, qb, qc⟩ := isOf hZ eT (E_LESS.ext O.2)
        obtain ⟨_, _, ⟨T, Lq, kq, nq⟩, -, X, ⟨Lc, hQ, lq, yq, zq⟩, st⟩ := X.virtualBack hx (y := (⟨"com/example/polyquery/polyquery/catalog/Comparison$Operator", "swapped", "()Lcom/example/polyquery/polyquery/catalog/Comparison$Operator;"⟩ : MethodName)) (z := (⟨"com/example/polyquery/polyquery/catalog/Comparison$Operator", "swapped", "()Lcom/example/polyquery/polyquery/catalog/Comparison$Operator;"⟩ : MethodName)) hown (mvT hZ (hw _ (List.mem_of_getElem? (i := 29) rfl))) (mvT hZ (hw _ (List.mem_of_getElem? (i := 30) rfl))) (notFace_of_selects (args := #[]) (mvT hZ (hw _ (List.mem_of_getElem? (i := 32) rfl)))) (mvT hZ (hw _ (List.mem_of_getElem? (i := 32) rfl))) (mvT hZ (hw _ (List.mem_of_getElem? (i := 31) rfl))) (by decide) (backOf (W := 0) (own_swapped l Z a0 hw [] wLESS (2 : Int32) wEQUAL wNOT_EQUAL wLESS wLESS_OR_EQUAL wGREATER wGREATER_OR_EQUAL wGREATER h n0 O E_LESS F_LESS (by decide) S_EQUAL S_NOT_EQUAL S_LESS S_LESS_OR_EQUAL S_GREATER S_GREATER_OR_EQUAL (by simp [own_swapV])) hZ (hw _ (List.mem_of_getElem? (i := 33) rfl)) (hw _ (List.mem_of_getElem? (i := 6) rfl)) (by decide) (by decide)) qa qc (g := (mkF m 54 #[.val (.int p0), .val (.int p1), .val (.int p2), .val (.ref wLESS), .val (.int ng), .val (.int ps), .val (.int (1 : Int32)), .val (.int (1 : Int32)), .unset, .unset] [(.ref wLESS)])) rfl (by rw [hml]; rfl) (Steps.refl _) (argsL := []) (rest := []) (lenOf own_pd4 rfl) rfl (by show 2 * 0 + _ ≤ _; exact Nat.le_of_eq rfl) (hb hby at_54) (fun _ _ => ⟨rfl, eT, (by decide : 0 + 0 ≤ _), (by decide : 0 + 0 ≤ _)⟩)
        dsimp only [Pt.U, Pt.locs, Pt.cells, Pt.slots] at X lq yq zq st hQ
        subst lq yq zq
        obtain ⟨rfl, Nq, eT⟩ := hQ
        replace N := Fr.app N Nq
        refine own_viaT (g' := (mkF m 57 #[.val (.int p0), .val (.int p1), .val (.int p2), .val (.ref wLESS), .val (.int ng), .val (.int ps), .val (.int (1 : Int32)), .val (.int (1 : Int32)), .unset, .unset] [(.ref wGREATER)])) st ?_
        refine own_via (T' := T) (g' := (mkF m 58 #[.val (.int p0), .val (.int p1), .val (.int p2), .val (.ref wLESS), .val (.int ng), .val (.int ps), .val (.int (1 : Int32)), .val (.int (1 : Int32)), .unset, .unset] [(.ref wLESS), (.ref wGREATER)])) (fun t_ k_ => XS.aloadN X.here hx rfl (hb hby at_57) rfl rfl k_) ?_
        refine own_via (T' := T) (g' := (mkF m 61 #[.val (.int p0), .val (.int p1), .val (.int p2), .val (.ref wLESS), .val (.int ng), .val (.int ps), .val (.int (1 : Int32)), .val (.int (1 : Int32)), .unset, .unset] [])) (fun t_ k_ => Jvm.RoadKit.acmp (g := (mkF m 58 #[.val (.int p0), .val (.int p1), .val (.int p2), .val (.ref wLESS), .val (.int ng), .val (.int ps), .val (.int (1 : Int32)), .val (.int (1 : Int32)), .unset, .unset] [(.ref wLESS), (.ref wGREATER)])) X hx rfl rfl rfl (pc0 := 58) (pc' := 61) (same := false) rfl (hb hby at_58) rfl (decide_eq_false fun q => ne_4_2 (Value.ref.inj q)) (by decide) (by decide) k_) ?_
        refine own_via (T' := T) (g' := (mkF m 62 #[.val (.int p0), .val (.int p1), .val (.int p2), .val (.ref wLESS), .val (.int ng), .val (.int ps), .val (.int (1 : Int32)), .val (.int (1 : Int32)), .unset, .unset] [(.int (1 : Int32))])) (fun t_ k_ => XS.iconst X.here hx rfl (hb hby at_61) k_) ?_
        refine own_via (T' := T) (g' := (mkF m 66 #[.val (.int p0), .val (.int p1), .val (.int p2), .val (.ref wLESS), .val (.int ng), .val (.int ps), .val (.int (1 : Int32)), .val (.int (1 : Int32)), .unset, .unset] [(.int (1 : Int32))])) (fun t_ k_ => XS.goto X.here hx rfl (pc0 := 62) (pc' := 66) rfl (hb hby at_62) (by decide) (by decide) k_) ?_
        refine own_via (T' := T) (g' := (mkF m 68 #[.val (.int p0), .val (.int p1), .val (.int p2), .val (.ref wLESS), .val (.int ng), .val (.int ps), .val (.int (1 : Int32)), .val (.int (1 : Int32)), .val (.int (1 : Int32)), .unset] [])) (fun t_ k_ => XS.istore X.here hx rfl (hb hby at_66) rfl (l' := #[.val (.int p0), .val (.int p1), .val (.int p2), .val (.ref wLESS), .val (.int ng), .val (.int ps), .val (.int (1 : Int32)), .val (.int (1 : Int32)), .val (.int (1 : Int32)), .unset]) rfl k_) ?_
        refine own_via (T' := T) (g' := (mkF m 69 #[.val (.int p0), .val (.int p1), .val (.int p2), .val (.ref wLESS), .val (.int ng), .val (.int ps), .val (.int (1 : Int32)), .val (.int (1 : Int32)), .val (.int (1 : Int32)), .unset] [(.ref wLESS)])) (fun t_ k_ => XS.aloadN X.here hx rfl (hb hby at_68) rfl rfl k_) ?_
        obtain ⟨cq, kq, qa, qb, qc⟩ := isOf hZ eT (E_LESS.ext O.2)
        obtain ⟨_, _, ⟨T, Lq, kq, nq⟩, -, X, ⟨Lc, hQ, lq, yq, zq⟩, st⟩ := X.virtualBack hx (y := (⟨"com/example/polyquery/polyquery/catalog/Comparison$Operator", "negated", "()Lcom/example/polyquery/polyquery/catalog/Comparison$Operator;"⟩ : MethodName)) (z := (⟨"com/example/polyquery/polyquery/catalog/Comparison$Operator", "negated", "()Lcom/example/polyquery/polyquery/catalog/Comparison$Operator;"⟩ : MethodName)) hown (mvT hZ (hw _ (List.mem_of_getElem? (i := 34) rfl))) (mvT hZ (hw _ (List.mem_of_getElem? (i := 35) rfl))) (notFace_of_selects (args := #[]) (mvT hZ (hw _ (List.mem_of_getElem? (i := 37) rfl)))) (mvT hZ (hw _ (List.mem_of_getElem? (i := 37) rfl))) (mvT hZ (hw _ (List.mem_of_getElem? (i := 36) rfl))) (by decide) (backOf (W := 0) (own_negated l Z a0 hw [] wLESS (2 : Int32) wEQUAL wNOT_EQUAL wLESS wLESS_OR_EQUAL wGREATER wGREATER_OR_EQUAL wGREATER_OR_EQUAL h n0 O E_LESS F_LESS (by decide) S_EQUAL S_NOT_EQUAL S_LESS S_LESS_OR_EQUAL S_GREATER S_GREATER_OR_EQUAL (by simp [own_negV])) hZ (hw _ (List.mem_of_getElem? (i := 38) rfl)) (hw _ (List.mem_of_getElem? (i := 6) rfl)) (by decide) (by decide)) qa qc (g := (mkF m 69 #[.val (.int p0), .val (.int p1), .val (.int p2), .val (.ref wLESS), .val (.int ng), .val (.int ps), .val (.int (1 : Int32)), .val (.int (1 : Int32)), .val (.int (1 : Int32)), .unset] [(.ref wLESS)])) rfl (by rw [hml]; rfl) (Steps.refl _) (argsL := []) (rest := []) (lenOf own_pd4 rfl) rfl (by show 2 * 0 + _ ≤ _; exact Nat.le_of_eq rfl) (hb hby at_69) (fun _ _ => ⟨rfl, eT, (by decide : 0 + 0 ≤ _), (by decide : 0 + 0 ≤ _)⟩)
        dsimp only [Pt.U, Pt.locs, Pt.cells, Pt.slots] at X lq yq zq st hQ
        subst lq yq zq
        obtain ⟨rfl, Nq, eT⟩ := hQ
        replace N := Fr.app N Nq
        refine own_viaT (g' := (mkF m 72 #[.val (.int p0), .val (.int p1), .val (.int p2), .val (.ref wLESS), .val (.int ng), .val (.int ps), .val (.int (1 : Int32)), .val (.int (1 : Int32)), .val (.int (1 : Int32)), .unset] [(.ref wGREATER_OR_EQUAL)])) st ?_
        obtain ⟨cq, kq, qa, qb, qc⟩ := isOf hZ eT (E_GREATER_OR_EQUAL.ext O.2)
        obtain ⟨_, _, ⟨T, Lq, kq, nq⟩, -, X, ⟨Lc, hQ, lq, yq, zq⟩, st⟩ := X.virtualBack hx (y := (⟨"com/example/polyquery/polyquery/catalog/Comparison$Operator", "isOrder", "()Z"⟩ : MethodName)) (z := (⟨"com/example/polyquery/polyquery/catalog/Comparison$Operator", "isOrder", "()Z"⟩ : MethodName)) hown (mvT hZ (hw _ (List.mem_of_getElem? (i := 9) rfl))) (mvT hZ (hw _ (List.mem_of_getElem? (i := 10) rfl))) (notFace_of_selects (args := #[]) (mvT hZ (hw _ (List.mem_of_getElem? (i := 12) rfl)))) (mvT hZ (hw _ (List.mem_of_getElem? (i := 12) rfl))) (mvT hZ (hw _ (List.mem_of_getElem? (i := 11) rfl))) (by decide) (backOf (W := 0) (own_isOrder l Z a0 hw [] wGREATER_OR_EQUAL wEQUAL wNOT_EQUAL (1 : Int32) h n0 O S_EQUAL S_NOT_EQUAL ⟨fun q => absurd q ne_5_0, fun q => absurd q ne_5_1, fun _ _ => rfl⟩) hZ (hw _ (List.mem_of_getElem? (i := 13) rfl)) (hw _ (List.mem_of_getElem? (i := 6) rfl)) (by decide) (by decide)) qa qc (g := (mkF m 72 #[.val (.int p0), .val (.int p1), .val (.int p2), .val (.ref wLESS), .val (.int ng), .val (.int ps), .val (.int (1 : Int32)), .val (.int (1 : Int32)), .val (.int (1 : Int32)), .unset] [(.ref wGREATER_OR_EQUAL)])) rfl (by rw [hml]; rfl) (Steps.refl _) (argsL := []) (rest := []) (lenOf own_pd2 rfl) rfl (by show 2 * 0 + _ ≤ _; exact Nat.le_of_eq rfl) (hb hby at_72) (fun _ _ => ⟨rfl, eT, (by decide : 0 + 0 ≤ _), (by decide : 0 + 0 ≤ _)⟩)
        dsimp only [Pt.U, Pt.locs, Pt.cells, Pt.slots] at X lq yq zq st hQ
        subst lq yq zq
        obtain ⟨rfl, Nq, eT⟩ := hQ
        replace N := Fr.app N Nq
        refine own_viaT (g' := (mkF m 75 #[.val (.int p0), .val (.int p1), .val (.int p2), .val (.ref wLESS), .val (.int ng), .val (.int ps), .val (.int (1 : Int32)), .val (.int (1 : Int32)), .val (.int (1 : Int32)), .unset] [(.int (1 : Int32))])) st ?_
        refine own_via (T' := T) (g' := (mkF m 77 #[.val (.int p0), .val (.int p1), .val (.int p2), .val (.ref wLESS), .val (.int ng), .val (.int ps), .val (.int (1 : Int32)), .val (.int (1 : Int32)), .val (.int (1 : Int32)), .val (.int (1 : Int32))] [])) (fun t_ k_ => XS.istore X.here hx rfl (hb hby at_75) rfl (l' := #[.val (.int p0), .val (.int p1), .val (.int p2), .val (.ref wLESS), .val (.int ng), .val (.int ps), .val (.int (1 : Int32)), .val (.int (1 : Int32)), .val (.int (1 : Int32)), .val (.int (1 : Int32))]) rfl k_) ?_
        refine own_via (T' := T) (g' := (mkF m 79 #[.val (.int p0), .val (.int p1), .val (.int p2), .val (.ref wLESS), .val (.int ng), .val (.int ps), .val (.int (1 : Int32)), .val (.int (1 : Int32)), .val (.int (1 : Int32)), .val (.int (1 : Int32))] [(.int (1 : Int32))])) (fun t_ k_ => XS.iload X.here hx rfl (hb hby at_77) rfl k_) ?_
        refine own_via (T' := T) (g' := (mkF m 81 #[.val (.int p0), .val (.int p1), .val (.int p2), .val (.ref wLESS), .val (.int ng), .val (.int ps), .val (.int (1 : Int32)), .val (.int (1 : Int32)), .val (.int (1 : Int32)), .val (.int (1 : Int32))] [(.int (1 : Int32)), (.int (1 : Int32))])) (fun t_ k_ => XS.iload X.here hx rfl (hb hby at_79) rfl k_) ?_
        refine own_via (T' := T) (g' := (mkF m 84 #[.val (.int p0), .val (.int p1), .val (.int p2), .val (.ref wLESS), .val (.int ng), .val (.int ps), .val (.int (1 : Int32)), .val (.int (1 : Int32)), .val (.int (1 : Int32)), .val (.int (1 : Int32))] [])) (fun t_ k_ => XS.icmpNo X.here hx rfl (hb hby at_81) rfl (teq (by decide : (1 : Int32) = (1 : Int32))).2 k_) ?_
        refine own_via (T' := T) (g' := (mkF m 86 #[.val (.int p0), .val (.int p1), .val (.int p2), .val (.ref wLESS), .val (.int ng), .val (.int ps), .val (.int (1 : Int32)), .val (.int (1 : Int32)), .val (.int (1 : Int32)), .val (.int (1 : Int32))] [(.int (1 : Int32))])) (fun t_ k_ => XS.iload X.here hx rfl (hb hby at_84) rfl k_) ?_
        refine own_via (T' := T) (g' := (mkF m 88 #[.val (.int p0), .val (.int p1), .val (.int p2), .val (.ref wLESS), .val (.int ng), .val (.int ps), .val (.int (1 : Int32)), .val (.int (1 : Int32)), .val (.int (1 : Int32)), .val (.int (1 : Int32))] [(.int (1 : Int32)), (.int (1 : Int32))])) (fun t_ k_ => XS.iload X.here hx rfl (hb hby at_86) rfl k_) ?_
        refine own_via (T' := T) (g' := (mkF m 91 #[.val (.int p0), .val (.int p1), .val (.int p2), .val (.ref wLESS), .val (.int ng), .val (.int ps), .val (.int (1 : Int32)), .val (.int (1 : Int32)), .val (.int (1 : Int32)), .val (.int (1 : Int32))] [])) (fun t_ k_ => XS.icmpNo X.here hx rfl (hb hby at_88) rfl (teq (by decide : (1 : Int32) = (1 : Int32))).2 k_) ?_
        refine own_via (T' := T) (g' := (mkF m 93 #[.val (.int p0), .val (.int p1), .val (.int p2), .val (.ref wLESS), .val (.int ng), .val (.int ps), .val (.int (1 : Int32)), .val (.int (1 : Int32)), .val (.int (1 : Int32)), .val (.int (1 : Int32))] [(.int (1 : Int32))])) (fun t_ k_ => XS.iload X.here hx rfl (hb hby at_91) rfl k_) ?_
        refine own_via (T' := T) (g' := (mkF m 95 #[.val (.int p0), .val (.int p1), .val (.int p2), .val (.ref wLESS), .val (.int ng), .val (.int ps), .val (.int (1 : Int32)), .val (.int (1 : Int32)), .val (.int (1 : Int32)), .val (.int (1 : Int32))] [(.int (1 : Int32)), (.int (1 : Int32))])) (fun t_ k_ => XS.iload X.here hx rfl (hb hby at_93) rfl k_) ?_
        refine own_via (T' := T) (g' := (mkF m 98 #[.val (.int p0), .val (.int p1), .val (.int p2), .val (.ref wLESS), .val (.int ng), .val (.int ps), .val (.int (1 : Int32)), .val (.int (1 : Int32)), .val (.int (1 : Int32)), .val (.int (1 : Int32))] [])) (fun t_ k_ => XS.icmpNo X.here hx rfl (hb hby at_95) rfl (teq (by decide : (1 : Int32) = (1 : Int32))).2 k_) ?_
        refine own_via (T' := T) (g' := (mkF m 99 #[.val (.int p0), .val (.int p1), .val (.int p2), .val (.ref wLESS), .val (.int ng), .val (.int ps), .val (.int (1 : Int32)), .val (.int (1 : Int32)), .val (.int (1 : Int32)), .val (.int (1 : Int32))] [(.int (1 : Int32))])) (fun t_ k_ => XS.iconst X.here hx rfl (hb hby at_98) k_) ?_
        refine own_via (T' := T) (g' := (mkF m 103 #[.val (.int p0), .val (.int p1), .val (.int p2), .val (.ref wLESS), .val (.int ng), .val (.int ps), .val (.int (1 : Int32)), .val (.int (1 : Int32)), .val (.int (1 : Int32)), .val (.int (1 : Int32))] [(.int (1 : Int32))])) (fun t_ k_ => XS.goto X.here hx rfl (pc0 := 99) (pc' := 103) rfl (hb hby at_99) (by decide) (by decide) k_) ?_
        refine own_retN X hx hlk (t := .boolean) Bd.returns (by simp) (hb hby at_103) (by decide) (by decide) ?_
        rw [eT]
        exact ⟨rfl, N, trivial⟩
      · by_cases hc4 : k = (3 : Int32)
        · obtain ⟨_, _, ⟨T, Lq, kq, nq⟩, -, X, ⟨Lc, hQ, lq, yq, zq⟩, st⟩ := Jvm.LawKit.callS X hx (y := (⟨"com/example/polyquery/polyquery/catalog/OperatorIsOrderPinLaw", "pick", "(I)Lcom/example/polyquery/polyquery/catalog/Comparison$Operator;"⟩ : MethodName)) hown (mvT hZ (hw _ (List.mem_of_getElem? (i := 1) rfl))) (mvT hZ (hw _ (List.mem_of_getElem? (i := 2) rfl))) (mvT hZ (hw _ (List.mem_of_getElem? (i := 3) rfl))) (mvT hZ (hw _ (List.mem_of_getElem? (i := 4) rfl))) (by decide) (backOf (W := 0) (own_pick l Z a0 hw [] k wEQUAL wNOT_EQUAL wLESS wLESS_OR_EQUAL wGREATER wGREATER_OR_EQUAL wLESS_OR_EQUAL h n0 O S_EQUAL S_NOT_EQUAL S_LESS S_LESS_OR_EQUAL S_GREATER S_GREATER_OR_EQUAL (by simp [own_pickV, hc1, hc2, hc3, hc4])) hZ (hw _ (List.mem_of_getElem? (i := 4) rfl)) (hw _ (List.mem_of_getElem? (i := 3) rfl)) (by decide) (by decide)) (g := (mkF m 7 #[.val (.int p0), .val (.int p1), .val (.int p2), .unset, .unset, .unset, .unset, .unset, .unset, .unset] [(.int k)])) rfl (by rw [hml]; rfl) (argsL := [(.int k)]) (rest := []) (lenOf own_pd1 rfl) rfl (by show 2 * 0 + _ ≤ _; exact Nat.le_of_eq rfl) (hb hby at_7) (fun _ _ => ⟨rfl, eT, (by decide : 0 + 0 ≤ _), (by decide : 0 + 0 ≤ _)⟩)
          dsimp only [Pt.U, Pt.locs, Pt.cells, Pt.slots] at X lq yq zq st hQ
          subst lq yq zq
          obtain ⟨rfl, Nq, eT⟩ := hQ
          replace N := Fr.app N Nq
          refine own_via (g' := (mkF m 10 #[.val (.int p0), .val (.int p1), .val (.int p2), .unset, .unset, .unset, .unset, .unset, .unset, .unset] [(.ref wLESS_OR_EQUAL)])) st ?_
          refine own_via (T' := T) (g' := (mkF m 11 #[.val (.int p0), .val (.int p1), .val (.int p2), .val (.ref wLESS_OR_EQUAL), .unset, .unset, .unset, .unset, .unset, .unset] [])) (fun t_ k_ => XS.astoreN X.here hx rfl (hb hby at_10) rfl rfl (l' := #[.val (.int p0), .val (.int p1), .val (.int p2), .val (.ref wLESS_OR_EQUAL), .unset, .unset, .unset, .unset, .unset, .unset]) rfl k_) ?_
          refine own_via (T' := T) (g' := (mkF m 12 #[.val (.int p0), .val (.int p1), .val (.int p2), .val (.ref wLESS_OR_EQUAL), .unset, .unset, .unset, .unset, .unset, .unset] [(.int p1)])) (fun t_ k_ => XS.iloadN X.here hx rfl (hb hby at_11) rfl k_) ?_
          refine own_via (T' := T) (g' := (mkF m 14 #[.val (.int p0), .val (.int p1), .val (.int p2), .val (.ref wLESS_OR_EQUAL), .unset, .unset, .unset, .unset, .unset, .unset] [(.int (-2147483648 : Int32)), (.int p1)])) (fun t_ k_ => X.ldcInt hx hown (mvT hZ (hw _ (List.mem_of_getElem? (i := 8) rfl))) (g := (mkF m 12 #[.val (.int p0), .val (.int p1), .val (.int p2), .val (.ref wLESS_OR_EQUAL), .unset, .unset, .unset, .unset, .unset, .unset] [(.int p1)])) rfl (hb hby at_12) _ k_) ?_
          refine own_via (T' := T) (g' := (mkF m 15 #[.val (.int p0), .val (.int p1), .val (.int p2), .val (.ref wLESS_OR_EQUAL), .unset, .unset, .unset, .unset, .unset, .unset] [(.int (p1 ||| (-2147483648 : Int32)))])) (fun t_ k_ => XS.ior X.here hx rfl (hb hby at_14) rfl k_) ?_
          obtain ⟨ng, hd_ng⟩ : ∃ z, z = (p1 ||| (-2147483648 : Int32)) := ⟨_, rfl⟩
          rw [← hd_ng]
          have hng : ng < 0 := by rw [hd_ng]; exact own_neg p1
          have hng0 := own_n0 hng
          refine own_via (T' := T) (g' := (mkF m 17 #[.val (.int p0), .val (.int p1), .val (.int p2), .val (.ref wLESS_OR_EQUAL), .val (.int ng), .unset, .unset, .unset, .unset, .unset] [])) (fun t_ k_ => XS.istore X.here hx rfl (hb hby at_15) rfl (l' := #[.val (.int p0), .val (.int p1), .val (.int p2), .val (.ref wLESS_OR_EQUAL), .val (.int ng), .unset, .unset, .unset, .unset, .unset]) rfl k_) ?_
          refine own_via (T' := T) (g' := (mkF m 18 #[.val (.int p0), .val (.int p1), .val (.int p2), .val (.ref wLESS_OR_EQUAL), .val (.int ng), .unset, .unset, .unset, .unset, .unset] [(.int p2)])) (fun t_ k_ => XS.iloadN X.here hx rfl (hb hby at_17) rfl k_) ?_
          refine own_via (T' := T) (g' := (mkF m 20 #[.val (.int p0), .val (.int p1), .val (.int p2), .val (.ref wLESS_OR_EQUAL), .val (.int ng), .unset, .unset, .unset, .unset, .unset] [(.int (2147483647 : Int32)), (.int p2)])) (fun t_ k_ => X.ldcInt hx hown (mvT hZ (hw _ (List.mem_of_getElem? (i := 0) rfl))) (g := (mkF m 18 #[.val (.int p0), .val (.int p1), .val (.int p2), .val (.ref wLESS_OR_EQUAL), .val (.int ng), .unset, .unset, .unset, .unset, .unset] [(.int p2)])) rfl (hb hby at_18) _ k_) ?_
          refine own_via (T' := T) (g' := (mkF m 21 #[.val (.int p0), .val (.int p1), .val (.int p2), .val (.ref wLESS_OR_EQUAL), .val (.int ng), .unset, .unset, .unset, .unset, .unset] [(.int (p2 &&& (2147483647 : Int32)))])) (fun t_ k_ => XS.iand X.here hx rfl (hb hby at_20) rfl k_) ?_
          refine own_via (T' := T) (g' := (mkF m 22 #[.val (.int p0), .val (.int p1), .val (.int p2), .val (.ref wLESS_OR_EQUAL), .val (.int ng), .unset, .unset, .unset, .unset, .unset] [(.int (1 : Int32)), (.int (p2 &&& (2147483647 : Int32)))])) (fun t_ k_ => XS.iconst X.here hx rfl (hb hby at_21) k_) ?_
          refine own_via (T' := T) (g' := (mkF m 23 #[.val (.int p0), .val (.int p1), .val (.int p2), .val (.ref wLESS_OR_EQUAL), .val (.int ng), .unset, .unset, .unset, .unset, .unset] [(.int ((p2 &&& (2147483647 : Int32)) ||| (1 : Int32)))])) (fun t_ k_ => XS.ior X.here hx rfl (hb hby at_22) rfl k_) ?_
          obtain ⟨ps, hd_ps⟩ : ∃ z, z = ((p2 &&& (2147483647 : Int32)) ||| (1 : Int32)) := ⟨_, rfl⟩
          rw [← hd_ps]
          have hps : 0 < ps := by rw [hd_ps]; exact own_pos p2
          have hps0 := own_p0 hps
          refine own_via (T' := T) (g' := (mkF m 25 #[.val (.int p0), .val (.int p1), .val (.int p2), .val (.ref wLESS_OR_EQUAL), .val (.int ng), .val (.int ps), .unset, .unset, .unset, .unset] [])) (fun t_ k_ => XS.istore X.here hx rfl (hb hby at_23) rfl (l' := #[.val (.int p0), .val (.int p1), .val (.int p2), .val (.ref wLESS_OR_EQUAL), .val (.int ng), .val (.int ps), .unset, .unset, .unset, .unset]) rfl k_) ?_
          refine own_via (T' := T) (g' := (mkF m 26 #[.val (.int p0), .val (.int p1), .val (.int p2), .val (.ref wLESS_OR_EQUAL), .val (.int ng), .val (.int ps), .unset, .unset, .unset, .unset] [(.ref wLESS_OR_EQUAL)])) (fun t_ k_ => XS.aloadN X.here hx rfl (hb hby at_25) rfl rfl k_) ?_
          obtain ⟨cq, kq, qa, qb, qc⟩ := isOf hZ eT (E_LESS_OR_EQUAL.ext O.2)
          obtain ⟨_, _, ⟨T, Lq, kq, nq⟩, -, X, ⟨Lc, hQ, lq, yq, zq⟩, st⟩ := X.virtualBack hx (y := (⟨"com/example/polyquery/polyquery/catalog/Comparison$Operator", "isOrder", "()Z"⟩ : MethodName)) (z := (⟨"com/example/polyquery/polyquery/catalog/Comparison$Operator", "isOrder", "()Z"⟩ : MethodName)) hown (mvT hZ (hw _ (List.mem_of_getElem? (i := 9) rfl))) (mvT hZ (hw _ (List.mem_of_getElem? (i := 10) rfl))) (notFace_of_selects (args := #[]) (mvT hZ (hw _ (List.mem_of_getElem? (i := 12) rfl)))) (mvT hZ (hw _ (List.mem_of_getElem? (i := 12) rfl))) (mvT hZ (hw _ (List.mem_of_getElem? (i := 11) rfl))) (by decide) (backOf (W := 0) (own_isOrder l Z a0 hw [] wLESS_OR_EQUAL wEQUAL wNOT_EQUAL (1 : Int32) h n0 O S_EQUAL S_NOT_EQUAL ⟨fun q => absurd q ne_3_0, fun q => absurd q ne_3_1, fun _ _ => rfl⟩) hZ (hw _ (List.mem_of_getElem? (i := 13) rfl)) (hw _ (List.mem_of_getElem? (i := 6) rfl)) (by decide) (by decide)) qa qc (g := (mkF m 26 #[.val (.int p0), .val (.int p1), .val (.int p2), .val (.ref wLESS_OR_EQUAL), .val (.int ng), .val (.int ps), .unset, .unset, .unset, .unset] [(.ref wLESS_OR_EQUAL)])) rfl (by rw [hml]; rfl) (Steps.refl _) (argsL := []) (rest := []) (lenOf own_pd2 rfl) rfl (by show 2 * 0 + _ ≤ _; exact Nat.le_of_eq rfl) (hb hby at_26) (fun _ _ => ⟨rfl, eT, (by decide : 0 + 0 ≤ _), (by decide : 0 + 0 ≤ _)⟩)
          dsimp only [Pt.U, Pt.locs, Pt.cells, Pt.slots] at X lq yq zq st hQ
          subst lq yq zq
          obtain ⟨rfl, Nq, eT⟩ := hQ
          replace N := Fr.app N Nq
          refine own_viaT (g' := (mkF m 29 #[.val (.int p0), .val (.int p1), .val (.int p2), .val (.ref wLESS_OR_EQUAL), .val (.int ng), .val (.int ps), .unset, .unset, .unset, .unset] [(.int (1 : Int32))])) st ?_
          refine own_via (T' := T) (g' := (mkF m 31 #[.val (.int p0), .val (.int p1), .val (.int p2), .val (.ref wLESS_OR_EQUAL), .val (.int ng), .val (.int ps), .val (.int (1 : Int32)), .unset, .unset, .unset] [])) (fun t_ k_ => XS.istore X.here hx rfl (hb hby at_29) rfl (l' := #[.val (.int p0), .val (.int p1), .val (.int p2), .val (.ref wLESS_OR_EQUAL), .val (.int ng), .val (.int ps), .val (.int (1 : Int32)), .unset, .unset, .unset]) rfl k_) ?_
          refine own_via (T' := T) (g' := (mkF m 32 #[.val (.int p0), .val (.int p1), .val (.int p2), .val (.ref wLESS_OR_EQUAL), .val (.int ng), .val (.int ps), .val (.int (1 : Int32)), .unset, .unset, .unset] [(.ref wLESS_OR_EQUAL)])) (fun t_ k_ => XS.aloadN X.here hx rfl (hb hby at_31) rfl rfl k_) ?_
          refine own_via (T' := T) (g' := (mkF m 34 #[.val (.int p0), .val (.int p1), .val (.int p2), .val (.ref wLESS_OR_EQUAL), .val (.int ng), .val (.int ps), .val (.int (1 : Int32)), .unset, .unset, .unset] [(.int ng), (.ref wLESS_OR_EQUAL)])) (fun t_ k_ => XS.iload X.here hx rfl (hb hby at_32) rfl k_) ?_
          obtain ⟨cq, kq, qa, qb, qc⟩ := isOf hZ eT (E_LESS_OR_EQUAL.ext O.2)
          obtain ⟨_, _, ⟨T, Lq, kq, nq⟩, -, X, ⟨Lc, hQ, lq, yq, zq⟩, st⟩ := X.virtualBack hx (y := (⟨"com/example/polyquery/polyquery/catalog/Comparison$Operator", "holds", "(I)Z"⟩ : MethodName)) (z := (⟨"com/example/polyquery/polyquery/catalog/Comparison$Operator", "holds", "(I)Z"⟩ : MethodName)) hown (mvT hZ (hw _ (List.mem_of_getElem? (i := 15) rfl))) (mvT hZ (hw _ (List.mem_of_getElem? (i := 16) rfl))) (notFace_of_selects (args := #[]) (mvT hZ (hw _ (List.mem_of_getElem? (i := 18) rfl)))) (mvT hZ (hw _ (List.mem_of_getElem? (i := 18) rfl))) (mvT hZ (hw _ (List.mem_of_getElem? (i := 17) rfl))) (by decide) (backOf (W := 0) (own_holds l Z a0 hw [] wLESS_OR_EQUAL ng (3 : Int32) (1 : Int32) h n0 O E_LESS_OR_EQUAL F_LESS_OR_EQUAL (by decide) (by simp [own_holdsV, hng, hng0.1, hng0.2])) hZ (hw _ (List.mem_of_getElem? (i := 19) rfl)) (hw _ (List.mem_of_getElem? (i := 6) rfl)) (by decide) (by decide)) qa qc (g := (mkF m 34 #[.val (.int p0), .val (.int p1), .val (.int p2), .val (.ref wLESS_OR_EQUAL), .val (.int ng), .val (.int ps), .val (.int (1 : Int32)), .unset, .unset, .unset] [(.int ng), (.ref wLESS_OR_EQUAL)])) rfl (by rw [hml]; rfl) (Steps.refl _) (argsL := [(.int ng)]) (rest := []) (lenOf own_pd3 rfl) rfl (by show 2 * 0 + _ ≤ _; exact Nat.le_of_eq rfl) (hb hby at_34) (fun _ _ => ⟨rfl, eT, (by decide : 0 + 0 ≤ _), (by decide : 0 + 0 ≤ _)⟩)
          dsimp only [Pt.U, Pt.locs, Pt.cells, Pt.slots] at X lq yq zq st hQ
          subst lq yq zq
          obtain ⟨rfl, Nq, eT⟩ := hQ
          replace N := Fr.app N Nq
          refine own_viaT (g' := (mkF m 37 #[.val (.int p0), .val (.int p1), .val (.int p2), .val (.ref wLESS_OR_EQUAL), .val (.int ng), .val (.int ps), .val (.int (1 : Int32)), .unset, .unset, .unset] [(.int (1 : Int32))])) st ?_
          refine own_via (T' := T) (g' := (mkF m 38 #[.val (.int p0), .val (.int p1), .val (.int p2), .val (.ref wLESS_OR_EQUAL), .val (.int ng), .val (.int ps), .val (.int (1 : Int32)), .unset, .unset, .unset] [(.ref wLESS_OR_EQUAL), (.int (1 : Int32))])) (fun t_ k_ => XS.aloadN X.here hx rfl (hb hby at_37) rfl rfl k_) ?_
          refine own_via (T' := T) (g' := (mkF m 40 #[.val (.int p0), .val (.int p1), .val (.int p2), .val (.ref wLESS_OR_EQUAL), .val (.int ng), .val (.int ps), .val (.int (1 : Int32)), .unset, .unset, .unset] [(.int ps), (.ref wLESS_OR_EQUAL), (.int (1 : Int32))])) (fun t_ k_ => XS.iload X.here hx rfl (hb hby at_38) rfl k_) ?_
          obtain ⟨cq, kq, qa, qb, qc⟩ := isOf hZ eT (E_LESS_OR_EQUAL.ext O.2)
          obtain ⟨_, _, ⟨T, Lq, kq, nq⟩, -, X, ⟨Lc, hQ, lq, yq, zq⟩, st⟩ := X.virtualBack hx (y := (⟨"com/example/polyquery/polyquery/catalog/Comparison$Operator", "holds", "(I)Z"⟩ : MethodName)) (z := (⟨"com/example/polyquery/polyquery/catalog/Comparison$Operator", "holds", "(I)Z"⟩ : MethodName)) hown (mvT hZ (hw _ (List.mem_of_getElem? (i := 15) rfl))) (mvT hZ (hw _ (List.mem_of_getElem? (i := 16) rfl))) (notFace_of_selects (args := #[]) (mvT hZ (hw _ (List.mem_of_getElem? (i := 18) rfl)))) (mvT hZ (hw _ (List.mem_of_getElem? (i := 18) rfl))) (mvT hZ (hw _ (List.mem_of_getElem? (i := 17) rfl))) (by decide) (backOf (W := 1) (own_holds l Z a0 hw [] wLESS_OR_EQUAL ps (3 : Int32) (0 : Int32) h n0 O E_LESS_OR_EQUAL F_LESS_OR_EQUAL (by decide) (by simp [own_holdsV, hps, hps0.1, hps0.2])) hZ (hw _ (List.mem_of_getElem? (i := 19) rfl)) (hw _ (List.mem_of_getElem? (i := 6) rfl)) (by decide) (by decide)) qa qc (g := (mkF m 40 #[.val (.int p0), .val (.int p1), .val (.int p2), .val (.ref wLESS_OR_EQUAL), .val (.int ng), .val (.int ps), .val (.int (1 : Int32)), .unset, .unset, .unset] [(.int ps), (.ref wLESS_OR_EQUAL), (.int (1 : Int32))])) rfl (by rw [hml]; rfl) (Steps.refl _) (argsL := [(.int ps)]) (rest := [(.int (1 : Int32))]) (lenOf own_pd3 rfl) rfl (by show 2 * 0 + _ ≤ _; exact Nat.le_of_eq rfl) (hb hby at_40) (fun _ _ => ⟨rfl, eT, (by decide : 0 + 0 ≤ _), (by decide : 0 + 0 ≤ _)⟩)
          dsimp only [Pt.U, Pt.locs, Pt.cells, Pt.slots] at X lq yq zq st hQ
          subst lq yq zq
          obtain ⟨rfl, Nq, eT⟩ := hQ
          replace N := Fr.app N Nq
          refine own_viaT (g' := (mkF m 43 #[.val (.int p0), .val (.int p1), .val (.int p2), .val (.ref wLESS_OR_EQUAL), .val (.int ng), .val (.int ps), .val (.int (1 : Int32)), .unset, .unset, .unset] [(.int (0 : Int32)), (.int (1 : Int32))])) st ?_
          refine own_via (T' := T) (g' := (mkF m 46 #[.val (.int p0), .val (.int p1), .val (.int p2), .val (.ref wLESS_OR_EQUAL), .val (.int ng), .val (.int ps), .val (.int (1 : Int32)), .unset, .unset, .unset] [])) (fun t_ k_ => XS.icmpNo X.here hx rfl (hb hby at_43) rfl (feq (by decide : ¬ ((1 : Int32) = (0 : Int32)))).1 k_) ?_
          refine own_via (T' := T) (g' := (mkF m 47 #[.val (.int p0), .val (.int p1), .val (.int p2), .val (.ref wLESS_OR_EQUAL), .val (.int ng), .val (.int ps), .val (.int (1 : Int32)), .unset, .unset, .unset] [(.int (1 : Int32))])) (fun t_ k_ => XS.iconst X.here hx rfl (hb hby at_46) k_) ?_
          refine own_via (T' := T) (g' := (mkF m 51 #[.val (.int p0), .val (.int p1), .val (.int p2), .val (.ref wLESS_OR_EQUAL), .val (.int ng), .val (.int ps), .val (.int (1 : Int32)), .unset, .unset, .unset] [(.int (1 : Int32))])) (fun t_ k_ => XS.goto X.here hx rfl (pc0 := 47) (pc' := 51) rfl (hb hby at_47) (by decide) (by decide) k_) ?_
          refine own_via (T' := T) (g' := (mkF m 53 #[.val (.int p0), .val (.int p1), .val (.int p2), .val (.ref wLESS_OR_EQUAL), .val (.int ng), .val (.int ps), .val (.int (1 : Int32)), .val (.int (1 : Int32)), .unset, .unset] [])) (fun t_ k_ => XS.istore X.here hx rfl (hb hby at_51) rfl (l' := #[.val (.int p0), .val (.int p1), .val (.int p2), .val (.ref wLESS_OR_EQUAL), .val (.int ng), .val (.int ps), .val (.int (1 : Int32)), .val (.int (1 : Int32)), .unset, .unset]) rfl k_) ?_
          refine own_via (T' := T) (g' := (mkF m 54 #[.val (.int p0), .val (.int p1), .val (.int p2), .val (.ref wLESS_OR_EQUAL), .val (.int ng), .val (.int ps), .val (.int (1 : Int32)), .val (.int (1 : Int32)), .unset, .unset] [(.ref wLESS_OR_EQUAL)])) (fun t_ k_ => XS.aloadN X.here hx rfl (hb hby at_53) rfl rfl k_) ?_
          obtain ⟨cq, kq, qa, qb, qc⟩ := isOf hZ eT (E_LESS_OR_EQUAL.ext O.2)
          obtain ⟨_, _, ⟨T, Lq, kq, nq⟩, -, X, ⟨Lc, hQ, lq, yq, zq⟩, st⟩ := X.virtualBack hx (y := (⟨"com/example/polyquery/polyquery/catalog/Comparison$Operator", "swapped", "()Lcom/example/polyquery/polyquery/catalog/Comparison$Operator;"⟩ : MethodName)) (z := (⟨"com/example/polyquery/polyquery/catalog/Comparison$Operator", "swapped", "()Lcom/example/polyquery/polyquery/catalog/Comparison$Operator;"⟩ : MethodName)) hown (mvT hZ (hw _ (List.mem_of_getElem? (i := 29) rfl))) (mvT hZ (hw _ (List.mem_of_getElem? (i := 30) rfl))) (notFace_of_selects (args := #[]) (mvT hZ (hw _ (List.mem_of_getElem? (i := 32) rfl)))) (mvT hZ (hw _ (List.mem_of_getElem? (i := 32) rfl))) (mvT hZ (hw _ (List.mem_of_getElem? (i := 31) rfl))) (by decide) (backOf (W := 0) (own_swapped l Z a0 hw [] wLESS_OR_EQUAL (3 : Int32) wEQUAL wNOT_EQUAL wLESS wLESS_OR_EQUAL wGREATER wGREATER_OR_EQUAL wGREATER_OR_EQUAL h n0 O E_LESS_OR_EQUAL F_LESS_OR_EQUAL (by decide) S_EQUAL S_NOT_EQUAL S_LESS S_LESS_OR_EQUAL S_GREATER S_GREATER_OR_EQUAL (by simp [own_swapV])) hZ (hw _ (List.mem_of_getElem? (i := 33) rfl)) (hw _ (List.mem_of_getElem? (i := 6) rfl)) (by decide) (by decide)) qa qc (g := (mkF m 54 #[.val (.int p0), .val (.int p1), .val (.int p2), .val (.ref wLESS_OR_EQUAL), .val (.int ng), .val (.int ps), .val (.int (1 : Int32)), .val (.int (1 : Int32)), .unset, .unset] [(.ref wLESS_OR_EQUAL)])) rfl (by rw [hml]; rfl) (Steps.refl _) (argsL := []) (rest := []) (lenOf own_pd4 rfl) rfl (by show 2 * 0 + _ ≤ _; exact Nat.le_of_eq rfl) (hb hby at_54) (fun _ _ => ⟨rfl, eT, (by decide : 0 + 0 ≤ _), (by decide : 0 + 0 ≤ _)⟩)
          dsimp only [Pt.U, Pt.locs, Pt.cells, Pt.slots] at X lq yq zq st hQ
          subst lq yq zq
          obtain ⟨rfl, Nq, eT⟩ := hQ
          replace N := Fr.app N Nq
          refine own_viaT (g' := (mkF m 57 #[.val (.int p0), .val (.int p1), .val (.int p2), .val (.ref wLESS_OR_EQUAL), .val (.int ng), .val (.int ps), .val (.int (1 : Int32)), .val (.int (1 : Int32)), .unset, .unset] [(.ref wGREATER_OR_EQUAL)])) st ?_
          refine own_via (T' := T) (g' := (mkF m 58 #[.val (.int p0), .val (.int p1), .val (.int p2), .val (.ref wLESS_OR_EQUAL), .val (.int ng), .val (.int ps), .val (.int (1 : Int32)), .val (.int (1 : Int32)), .unset, .unset] [(.ref wLESS_OR_EQUAL), (.ref wGREATER_OR_EQUAL)])) (fun t_ k_ => XS.aloadN X.here hx rfl (hb hby at_57) rfl rfl k_) ?_
          refine own_via (T' := T) (g' := (mkF m 61 #[.val (.int p0), .val (.int p1), .val (.int p2), .val (.ref wLESS_OR_EQUAL), .val (.int ng), .val (.int ps), .val (.int (1 : Int32)), .val (.int (1 : Int32)), .unset, .unset] [])) (fun t_ k_ => Jvm.RoadKit.acmp (g := (mkF m 58 #[.val (.int p0), .val (.int p1), .val (.int p2), .val (.ref wLESS_OR_EQUAL), .val (.int ng), .val (.int ps), .val (.int (1 : Int32)), .val (.int (1 : Int32)), .unset, .unset] [(.ref wLESS_OR_EQUAL), (.ref wGREATER_OR_EQUAL)])) X hx rfl rfl rfl (pc0 := 58) (pc' := 61) (same := false) rfl (hb hby at_58) rfl (decide_eq_false fun q => ne_5_3 (Value.ref.inj q)) (by decide) (by decide) k_) ?_
          refine own_via (T' := T) (g' := (mkF m 62 #[.val (.int p0), .val (.int p1), .val (.int p2), .val (.ref wLESS_OR_EQUAL), .val (.int ng), .val (.int ps), .val (.int (1 : Int32)), .val (.int (1 : Int32)), .unset, .unset] [(.int (1 : Int32))])) (fun t_ k_ => XS.iconst X.here hx rfl (hb hby at_61) k_) ?_
          refine own_via (T' := T) (g' := (mkF m 66 #[.val (.int p0), .val (.int p1), .val (.int p2), .val (.ref wLESS_OR_EQUAL), .val (.int ng), .val (.int ps), .val (.int (1 : Int32)), .val (.int (1 : Int32)), .unset, .unset] [(.int (1 : Int32))])) (fun t_ k_ => XS.goto X.here hx rfl (pc0 := 62) (pc' := 66) rfl (hb hby at_62) (by decide) (by decide) k_) ?_
          refine own_via (T' := T) (g' := (mkF m 68 #[.val (.int p0), .val (.int p1), .val (.int p2), .val (.ref wLESS_OR_EQUAL), .val (.int ng), .val (.int ps), .val (.int (1 : Int32)), .val (.int (1 : Int32)), .val (.int (1 : Int32)), .unset] [])) (fun t_ k_ => XS.istore X.here hx rfl (hb hby at_66) rfl (l' := #[.val (.int p0), .val (.int p1), .val (.int p2), .val (.ref wLESS_OR_EQUAL), .val (.int ng), .val (.int ps), .val (.int (1 : Int32)), .val (.int (1 : Int32)), .val (.int (1 : Int32)), .unset]) rfl k_) ?_
          refine own_via (T' := T) (g' := (mkF m 69 #[.val (.int p0), .val (.int p1), .val (.int p2), .val (.ref wLESS_OR_EQUAL), .val (.int ng), .val (.int ps), .val (.int (1 : Int32)), .val (.int (1 : Int32)), .val (.int (1 : Int32)), .unset] [(.ref wLESS_OR_EQUAL)])) (fun t_ k_ => XS.aloadN X.here hx rfl (hb hby at_68) rfl rfl k_) ?_
          obtain ⟨cq, kq, qa, qb, qc⟩ := isOf hZ eT (E_LESS_OR_EQUAL.ext O.2)
          obtain ⟨_, _, ⟨T, Lq, kq, nq⟩, -, X, ⟨Lc, hQ, lq, yq, zq⟩, st⟩ := X.virtualBack hx (y := (⟨"com/example/polyquery/polyquery/catalog/Comparison$Operator", "negated", "()Lcom/example/polyquery/polyquery/catalog/Comparison$Operator;"⟩ : MethodName)) (z := (⟨"com/example/polyquery/polyquery/catalog/Comparison$Operator", "negated", "()Lcom/example/polyquery/polyquery/catalog/Comparison$Operator;"⟩ : MethodName)) hown (mvT hZ (hw _ (List.mem_of_getElem? (i := 34) rfl))) (mvT hZ (hw _ (List.mem_of_getElem? (i := 35) rfl))) (notFace_of_selects (args := #[]) (mvT hZ (hw _ (List.mem_of_getElem? (i := 37) rfl)))) (mvT hZ (hw _ (List.mem_of_getElem? (i := 37) rfl))) (mvT hZ (hw _ (List.mem_of_getElem? (i := 36) rfl))) (by decide) (backOf (W := 0) (own_negated l Z a0 hw [] wLESS_OR_EQUAL (3 : Int32) wEQUAL wNOT_EQUAL wLESS wLESS_OR_EQUAL wGREATER wGREATER_OR_EQUAL wGREATER h n0 O E_LESS_OR_EQUAL F_LESS_OR_EQUAL (by decide) S_EQUAL S_NOT_EQUAL S_LESS S_LESS_OR_EQUAL S_GREATER S_GREATER_OR_EQUAL (by simp [own_negV])) hZ (hw _ (List.mem_of_getElem? (i := 38) rfl)) (hw _ (List.mem_of_getElem? (i := 6) rfl)) (by decide) (by decide)) qa qc (g := (mkF m 69 #[.val (.int p0), .val (.int p1), .val (.int p2), .val (.ref wLESS_OR_EQUAL), .val (.int ng), .val (.int ps), .val (.int (1 : Int32)), .val (.int (1 : Int32)), .val (.int (1 : Int32)), .unset] [(.ref wLESS_OR_EQUAL)])) rfl (by rw [hml]; rfl) (Steps.refl _) (argsL := []) (rest := []) (lenOf own_pd4 rfl) rfl (by show 2 * 0 + _ ≤ _; exact Nat.le_of_eq rfl) (hb hby at_69) (fun _ _ => ⟨rfl, eT, (by decide : 0 + 0 ≤ _), (by decide : 0 + 0 ≤ _)⟩)
          dsimp only [Pt.U, Pt.locs, Pt.cells, Pt.slots] at X lq yq zq st hQ
          subst lq yq zq
          obtain ⟨rfl, Nq, eT⟩ := hQ
          replace N := Fr.app N Nq
          refine own_viaT (g' := (mkF m 72 #[.val (.int p0), .val (.int p1), .val (.int p2), .val (.ref wLESS_OR_EQUAL), .val (.int ng), .val (.int ps), .val (.int (1 : Int32)), .val (.int (1 : Int32)), .val (.int (1 : Int32)), .unset] [(.ref wGREATER)])) st ?_
          obtain ⟨cq, kq, qa, qb, qc⟩ := isOf hZ eT (E_GREATER.ext O.2)
          obtain ⟨_, _, ⟨T, Lq, kq, nq⟩, -, X, ⟨Lc, hQ, lq, yq, zq⟩, st⟩ := X.virtualBack hx (y := (⟨"com/example/polyquery/polyquery/catalog/Comparison$Operator", "isOrder", "()Z"⟩ : MethodName)) (z := (⟨"com/example/polyquery/polyquery/catalog/Comparison$Operator", "isOrder", "()Z"⟩ : MethodName)) hown (mvT hZ (hw _ (List.mem_of_getElem? (i := 9) rfl))) (mvT hZ (hw _ (List.mem_of_getElem? (i := 10) rfl))) (notFace_of_selects (args := #[]) (mvT hZ (hw _ (List.mem_of_getElem? (i := 12) rfl)))) (mvT hZ (hw _ (List.mem_of_getElem? (i := 12) rfl))) (mvT hZ (hw _ (List.mem_of_getElem? (i := 11) rfl))) (by decide) (backOf (W := 0) (own_isOrder l Z a0 hw [] wGREATER wEQUAL wNOT_EQUAL (1 : Int32) h n0 O S_EQUAL S_NOT_EQUAL ⟨fun q => absurd q ne_4_0, fun q => absurd q ne_4_1, fun _ _ => rfl⟩) hZ (hw _ (List.mem_of_getElem? (i := 13) rfl)) (hw _ (List.mem_of_getElem? (i := 6) rfl)) (by decide) (by decide)) qa qc (g := (mkF m 72 #[.val (.int p0), .val (.int p1), .val (.int p2), .val (.ref wLESS_OR_EQUAL), .val (.int ng), .val (.int ps), .val (.int (1 : Int32)), .val (.int (1 : Int32)), .val (.int (1 : Int32)), .unset] [(.ref wGREATER)])) rfl (by rw [hml]; rfl) (Steps.refl _) (argsL := []) (rest := []) (lenOf own_pd2 rfl) rfl (by show 2 * 0 + _ ≤ _; exact Nat.le_of_eq rfl) (hb hby at_72) (fun _ _ => ⟨rfl, eT, (by decide : 0 + 0 ≤ _), (by decide : 0 + 0 ≤ _)⟩)
          dsimp only [Pt.U, Pt.locs, Pt.cells, Pt.slots] at X lq yq zq st hQ
          subst lq yq zq
          obtain ⟨rfl, Nq, eT⟩ := hQ
          replace N := Fr.app N Nq
          refine own_viaT (g' := (mkF m 75 #[.val (.int p0), .val (.int p1), .val (.int p2), .val (.ref wLESS_OR_EQUAL), .val (.int ng), .val (.int ps), .val (.int (1 : Int32)), .val (.int (1 : Int32)), .val (.int (1 : Int32)), .unset] [(.int (1 : Int32))])) st ?_
          refine own_via (T' := T) (g' := (mkF m 77 #[.val (.int p0), .val (.int p1), .val (.int p2), .val (.ref wLESS_OR_EQUAL), .val (.int ng), .val (.int ps), .val (.int (1 : Int32)), .val (.int (1 : Int32)), .val (.int (1 : Int32)), .val (.int (1 : Int32))] [])) (fun t_ k_ => XS.istore X.here hx rfl (hb hby at_75) rfl (l' := #[.val (.int p0), .val (.int p1), .val (.int p2), .val (.ref wLESS_OR_EQUAL), .val (.int ng), .val (.int ps), .val (.int (1 : Int32)), .val (.int (1 : Int32)), .val (.int (1 : Int32)), .val (.int (1 : Int32))]) rfl k_) ?_
          refine own_via (T' := T) (g' := (mkF m 79 #[.val (.int p0), .val (.int p1), .val (.int p2), .val (.ref wLESS_OR_EQUAL), .val (.int ng), .val (.int ps), .val (.int (1 : Int32)), .val (.int (1 : Int32)), .val (.int (1 : Int32)), .val (.int (1 : Int32))] [(.int (1 : Int32))])) (fun t_ k_ => XS.iload X.here hx rfl (hb hby at_77) rfl k_) ?_
          refine own_via (T' := T) (g' := (mkF m 81 #[.val (.int p0), .val (.int p1), .val (.int p2), .val (.ref wLESS_OR_EQUAL), .val (.int ng), .val (.int ps), .val (.int (1 : Int32)), .val (.int (1 : Int32)), .val (.int (1 : Int32)), .val (.int (1 : Int32))] [(.int (1 : Int32)), (.int (1 : Int32))])) (fun t_ k_ => XS.iload X.here hx rfl (hb hby at_79) rfl k_) ?_
          refine own_via (T' := T) (g' := (mkF m 84 #[.val (.int p0), .val (.int p1), .val (.int p2), .val (.ref wLESS_OR_EQUAL), .val (.int ng), .val (.int ps), .val (.int (1 : Int32)), .val (.int (1 : Int32)), .val (.int (1 : Int32)), .val (.int (1 : Int32))] [])) (fun t_ k_ => XS.icmpNo X.here hx rfl (hb hby at_81) rfl (teq (by decide : (1 : Int32) = (1 : Int32))).2 k_) ?_
          refine own_via (T' := T) (g' := (mkF m 86 #[.val (.int p0), .val (.int p1), .val (.int p2), .val (.ref wLESS_OR_EQUAL), .val (.int ng), .val (.int ps), .val (.int (1 : Int32)), .val (.int (1 : Int32)), .val (.int (1 : Int32)), .val (.int (1 : Int32))] [(.int (1 : Int32))])) (fun t_ k_ => XS.iload X.here hx rfl (hb hby at_84) rfl k_) ?_
          refine own_via (T' := T) (g' := (mkF m 88 #[.val (.int p0), .val (.int p1), .val (.int p2), .val (.ref wLESS_OR_EQUAL), .val (.int ng), .val (.int ps), .val (.int (1 : Int32)), .val (.int (1 : Int32)), .val (.int (1 : Int32)), .val (.int (1 : Int32))] [(.int (1 : Int32)), (.int (1 : Int32))])) (fun t_ k_ => XS.iload X.here hx rfl (hb hby at_86) rfl k_) ?_
          refine own_via (T' := T) (g' := (mkF m 91 #[.val (.int p0), .val (.int p1), .val (.int p2), .val (.ref wLESS_OR_EQUAL), .val (.int ng), .val (.int ps), .val (.int (1 : Int32)), .val (.int (1 : Int32)), .val (.int (1 : Int32)), .val (.int (1 : Int32))] [])) (fun t_ k_ => XS.icmpNo X.here hx rfl (hb hby at_88) rfl (teq (by decide : (1 : Int32) = (1 : Int32))).2 k_) ?_
          refine own_via (T' := T) (g' := (mkF m 93 #[.val (.int p0), .val (.int p1), .val (.int p2), .val (.ref wLESS_OR_EQUAL), .val (.int ng), .val (.int ps), .val (.int (1 : Int32)), .val (.int (1 : Int32)), .val (.int (1 : Int32)), .val (.int (1 : Int32))] [(.int (1 : Int32))])) (fun t_ k_ => XS.iload X.here hx rfl (hb hby at_91) rfl k_) ?_
          refine own_via (T' := T) (g' := (mkF m 95 #[.val (.int p0), .val (.int p1), .val (.int p2), .val (.ref wLESS_OR_EQUAL), .val (.int ng), .val (.int ps), .val (.int (1 : Int32)), .val (.int (1 : Int32)), .val (.int (1 : Int32)), .val (.int (1 : Int32))] [(.int (1 : Int32)), (.int (1 : Int32))])) (fun t_ k_ => XS.iload X.here hx rfl (hb hby at_93) rfl k_) ?_
          refine own_via (T' := T) (g' := (mkF m 98 #[.val (.int p0), .val (.int p1), .val (.int p2), .val (.ref wLESS_OR_EQUAL), .val (.int ng), .val (.int ps), .val (.int (1 : Int32)), .val (.int (1 : Int32)), .val (.int (1 : Int32)), .val (.int (1 : Int32))] [])) (fun t_ k_ => XS.icmpNo X.here hx rfl (hb hby at_95) rfl (teq (by decide : (1 : Int32) = (1 : Int32))).2 k_) ?_
          refine own_via (T' := T) (g' := (mkF m 99 #[.val (.int p0), .val (.int p1), .val (.int p2), .val (.ref wLESS_OR_EQUAL), .val (.int ng), .val (.int ps), .val (.int (1 : Int32)), .val (.int (1 : Int32)), .val (.int (1 : Int32)), .val (.int (1 : Int32))] [(.int (1 : Int32))])) (fun t_ k_ => XS.iconst X.here hx rfl (hb hby at_98) k_) ?_
          refine own_via (T' := T) (g' := (mkF m 103 #[.val (.int p0), .val (.int p1), .val (.int p2), .val (.ref wLESS_OR_EQUAL), .val (.int ng), .val (.int ps), .val (.int (1 : Int32)), .val (.int (1 : Int32)), .val (.int (1 : Int32)), .val (.int (1 : Int32))] [(.int (1 : Int32))])) (fun t_ k_ => XS.goto X.here hx rfl (pc0 := 99) (pc' := 103) rfl (hb hby at_99) (by decide) (by decide) k_) ?_
          refine own_retN X hx hlk (t := .boolean) Bd.returns (by simp) (hb hby at_103) (by decide) (by decide) ?_
          rw [eT]
          exact ⟨rfl, N, trivial⟩
        · by_cases hc5 : k = (4 : Int32)
          · obtain ⟨_, _, ⟨T, Lq, kq, nq⟩, -, X, ⟨Lc, hQ, lq, yq, zq⟩, st⟩ := Jvm.LawKit.callS X hx (y := (⟨"com/example/polyquery/polyquery/catalog/OperatorIsOrderPinLaw", "pick", "(I)Lcom/example/polyquery/polyquery/catalog/Comparison$Operator;"⟩ : MethodName)) hown (mvT hZ (hw _ (List.mem_of_getElem? (i := 1) rfl))) (mvT hZ (hw _ (List.mem_of_getElem? (i := 2) rfl))) (mvT hZ (hw _ (List.mem_of_getElem? (i := 3) rfl))) (mvT hZ (hw _ (List.mem_of_getElem? (i := 4) rfl))) (by decide) (backOf (W := 0) (own_pick l Z a0 hw [] k wEQUAL wNOT_EQUAL wLESS wLESS_OR_EQUAL wGREATER wGREATER_OR_EQUAL wGREATER h n0 O S_EQUAL S_NOT_EQUAL S_LESS S_LESS_OR_EQUAL S_GREATER S_GREATER_OR_EQUAL (by simp [own_pickV, hc1, hc2, hc3, hc4, hc5])) hZ (hw _ (List.mem_of_getElem? (i := 4) rfl)) (hw _ (List.mem_of_getElem? (i := 3) rfl)) (by decide) (by decide)) (g := (mkF m 7 #[.val (.int p0), .val (.int p1), .val (.int p2), .unset, .unset, .unset, .unset, .unset, .unset, .unset] [(.int k)])) rfl (by rw [hml]; rfl) (argsL := [(.int k)]) (rest := []) (lenOf own_pd1 rfl) rfl (by show 2 * 0 + _ ≤ _; exact Nat.le_of_eq rfl) (hb hby at_7) (fun _ _ => ⟨rfl, eT, (by decide : 0 + 0 ≤ _), (by decide : 0 + 0 ≤ _)⟩)
            dsimp only [Pt.U, Pt.locs, Pt.cells, Pt.slots] at X lq yq zq st hQ
            subst lq yq zq
            obtain ⟨rfl, Nq, eT⟩ := hQ
            replace N := Fr.app N Nq
            refine own_via (g' := (mkF m 10 #[.val (.int p0), .val (.int p1), .val (.int p2), .unset, .unset, .unset, .unset, .unset, .unset, .unset] [(.ref wGREATER)])) st ?_
            refine own_via (T' := T) (g' := (mkF m 11 #[.val (.int p0), .val (.int p1), .val (.int p2), .val (.ref wGREATER), .unset, .unset, .unset, .unset, .unset, .unset] [])) (fun t_ k_ => XS.astoreN X.here hx rfl (hb hby at_10) rfl rfl (l' := #[.val (.int p0), .val (.int p1), .val (.int p2), .val (.ref wGREATER), .unset, .unset, .unset, .unset, .unset, .unset]) rfl k_) ?_
            refine own_via (T' := T) (g' := (mkF m 12 #[.val (.int p0), .val (.int p1), .val (.int p2), .val (.ref wGREATER), .unset, .unset, .unset, .unset, .unset, .unset] [(.int p1)])) (fun t_ k_ => XS.iloadN X.here hx rfl (hb hby at_11) rfl k_) ?_
            refine own_via (T' := T) (g' := (mkF m 14 #[.val (.int p0), .val (.int p1), .val (.int p2), .val (.ref wGREATER), .unset, .unset, .unset, .unset, .unset, .unset] [(.int (-2147483648 : Int32)), (.int p1)])) (fun t_ k_ => X.ldcInt hx hown (mvT hZ (hw _ (List.mem_of_getElem? (i := 8) rfl))) (g := (mkF m 12 #[.val (.int p0), .val (.int p1), .val (.int p2), .val (.ref wGREATER), .unset, .unset, .unset, .unset, .unset, .unset] [(.int p1)])) rfl (hb hby at_12) _ k_) ?_
            refine own_via (T' := T) (g' := (mkF m 15 #[.val (.int p0), .val (.int p1), .val (.int p2), .val (.ref wGREATER), .unset, .unset, .unset, .unset, .unset, .unset] [(.int (p1 ||| (-2147483648 : Int32)))])) (fun t_ k_ => XS.ior X.here hx rfl (hb hby at_14) rfl k_) ?_
            obtain ⟨ng, hd_ng⟩ : ∃ z, z = (p1 ||| (-2147483648 : Int32)) := ⟨_, rfl⟩
            rw [← hd_ng]
            have hng : ng < 0 := by rw [hd_ng]; exact own_neg p1
            have hng0 := own_n0 hng
            refine own_via (T' := T) (g' := (mkF m 17 #[.val (.int p0), .val (.int p1), .val (.int p2), .val (.ref wGREATER), .val (.int ng), .unset, .unset, .unset, .unset, .unset] [])) (fun t_ k_ => XS.istore X.here hx rfl (hb hby at_15) rfl (l' := #[.val (.int p0), .val (.int p1), .val (.int p2), .val (.ref wGREATER), .val (.int ng), .unset, .unset, .unset, .unset, .unset]) rfl k_) ?_
            refine own_via (T' := T) (g' := (mkF m 18 #[.val (.int p0), .val (.int p1), .val (.int p2), .val (.ref wGREATER), .val (.int ng), .unset, .unset, .unset, .unset, .unset] [(.int p2)])) (fun t_ k_ => XS.iloadN X.here hx rfl (hb hby at_17) rfl k_) ?_
            refine own_via (T' := T) (g' := (mkF m 20 #[.val (.int p0), .val (.int p1), .val (.int p2), .val (.ref wGREATER), .val (.int ng), .unset, .unset, .unset, .unset, .unset] [(.int (2147483647 : Int32)), (.int p2)])) (fun t_ k_ => X.ldcInt hx hown (mvT hZ (hw _ (List.mem_of_getElem? (i := 0) rfl))) (g := (mkF m 18 #[.val (.int p0), .val (.int p1), .val (.int p2), .val (.ref wGREATER), .val (.int ng), .unset, .unset, .unset, .unset, .unset] [(.int p2)])) rfl (hb hby at_18) _ k_) ?_
            refine own_via (T' := T) (g' := (mkF m 21 #[.val (.int p0), .val (.int p1), .val (.int p2), .val (.ref wGREATER), .val (.int ng), .unset, .unset, .unset, .unset, .unset] [(.int (p2 &&& (2147483647 : Int32)))])) (fun t_ k_ => XS.iand X.here hx rfl (hb hby at_20) rfl k_) ?_
            refine own_via (T' := T) (g' := (mkF m 22 #[.val (.int p0), .val (.int p1), .val (.int p2), .val (.ref wGREATER), .val (.int ng), .unset, .unset, .unset, .unset, .unset] [(.int (1 : Int32)), (.int (p2 &&& (2147483647 : Int32)))])) (fun t_ k_ => XS.iconst X.here hx rfl (hb hby at_21) k_) ?_
            refine own_via (T' := T) (g' := (mkF m 23 #[.val (.int p0), .val (.int p1), .val (.int p2), .val (.ref wGREATER), .val (.int ng), .unset, .unset, .unset, .unset, .unset] [(.int ((p2 &&& (2147483647 : Int32)) ||| (1 : Int32)))])) (fun t_ k_ => XS.ior X.here hx rfl (hb hby at_22) rfl k_) ?_
            obtain ⟨ps, hd_ps⟩ : ∃ z, z = ((p2 &&& (2147483647 : Int32)) ||| (1 : Int32)) := ⟨_, rfl⟩
            rw [← hd_ps]
            have hps : 0 < ps := by rw [hd_ps]; exact own_pos p2
            have hps0 := own_p0 hps
            refine own_via (T' := T) (g' := (mkF m 25 #[.val (.int p0), .val (.int p1), .val (.int p2), .val (.ref wGREATER), .val (.int ng), .val (.int ps), .unset, .unset, .unset, .unset] [])) (fun t_ k_ => XS.istore X.here hx rfl (hb hby at_23) rfl (l' := #[.val (.int p0), .val (.int p1), .val (.int p2), .val (.ref wGREATER), .val (.int ng), .val (.int ps), .unset, .unset, .unset, .unset]) rfl k_) ?_
            refine own_via (T' := T) (g' := (mkF m 26 #[.val (.int p0), .val (.int p1), .val (.int p2), .val (.ref wGREATER), .val (.int ng), .val (.int ps), .unset, .unset, .unset, .unset] [(.ref wGREATER)])) (fun t_ k_ => XS.aloadN X.here hx rfl (hb hby at_25) rfl rfl k_) ?_
            obtain ⟨cq, kq, qa, qb, qc⟩ := isOf hZ eT (E_GREATER.ext O.2)
            obtain ⟨_, _, ⟨T, Lq, kq, nq⟩, -, X, ⟨Lc, hQ, lq, yq, zq⟩, st⟩ := X.virtualBack hx (y := (⟨"com/example/polyquery/polyquery/catalog/Comparison$Operator", "isOrder", "()Z"⟩ : MethodName)) (z := (⟨"com/example/polyquery/polyquery/catalog/Comparison$Operator", "isOrder", "()Z"⟩ : MethodName)) hown (mvT hZ (hw _ (List.mem_of_getElem? (i := 9) rfl))) (mvT hZ (hw _ (List.mem_of_getElem? (i := 10) rfl))) (notFace_of_selects (args := #[]) (mvT hZ (hw _ (List.mem_of_getElem? (i := 12) rfl)))) (mvT hZ (hw _ (List.mem_of_getElem? (i := 12) rfl))) (mvT hZ (hw _ (List.mem_of_getElem? (i := 11) rfl))) (by decide) (backOf (W := 0) (own_isOrder l Z a0 hw [] wGREATER wEQUAL wNOT_EQUAL (1 : Int32) h n0 O S_EQUAL S_NOT_EQUAL ⟨fun q => absurd q ne_4_0, fun q => absurd q ne_4_1, fun _ _ => rfl⟩) hZ (hw _ (List.mem_of_getElem? (i := 13) rfl)) (hw _ (List.mem_of_getElem? (i := 6) rfl)) (by decide) (by decide)) qa qc (g := (mkF m 26 #[.val (.int p0), .val (.int p1), .val (.int p2), .val (.ref wGREATER), .val (.int ng), .val (.int ps), .unset, .unset, .unset, .unset] [(.ref wGREATER)])) rfl (by rw [hml]; rfl) (Steps.refl _) (argsL := []) (rest := []) (lenOf own_pd2 rfl) rfl (by show 2 * 0 + _ ≤ _; exact Nat.le_of_eq rfl) (hb hby at_26) (fun _ _ => ⟨rfl, eT, (by decide : 0 + 0 ≤ _), (by decide : 0 + 0 ≤ _)⟩)
            dsimp only [Pt.U, Pt.locs, Pt.cells, Pt.slots] at X lq yq zq st hQ
            subst lq yq zq
            obtain ⟨rfl, Nq, eT⟩ := hQ
            replace N := Fr.app N Nq
            refine own_viaT (g' := (mkF m 29 #[.val (.int p0), .val (.int p1), .val (.int p2), .val (.ref wGREATER), .val (.int ng), .val (.int ps), .unset, .unset, .unset, .unset] [(.int (1 : Int32))])) st ?_
            refine own_via (T' := T) (g' := (mkF m 31 #[.val (.int p0), .val (.int p1), .val (.int p2), .val (.ref wGREATER), .val (.int ng), .val (.int ps), .val (.int (1 : Int32)), .unset, .unset, .unset] [])) (fun t_ k_ => XS.istore X.here hx rfl (hb hby at_29) rfl (l' := #[.val (.int p0), .val (.int p1), .val (.int p2), .val (.ref wGREATER), .val (.int ng), .val (.int ps), .val (.int (1 : Int32)), .unset, .unset, .unset]) rfl k_) ?_
            refine own_via (T' := T) (g' := (mkF m 32 #[.val (.int p0), .val (.int p1), .val (.int p2), .val (.ref wGREATER), .val (.int ng), .val (.int ps), .val (.int (1 : Int32)), .unset, .unset, .unset] [(.ref wGREATER)])) (fun t_ k_ => XS.aloadN X.here hx rfl (hb hby at_31) rfl rfl k_) ?_
            refine own_via (T' := T) (g' := (mkF m 34 #[.val (.int p0), .val (.int p1), .val (.int p2), .val (.ref wGREATER), .val (.int ng), .val (.int ps), .val (.int (1 : Int32)), .unset, .unset, .unset] [(.int ng), (.ref wGREATER)])) (fun t_ k_ => XS.iload X.here hx rfl (hb hby at_32) rfl k_) ?_
            obtain ⟨cq, kq, qa, qb, qc⟩ := isOf hZ eT (E_GREATER.ext O.2)
            obtain ⟨_, _, ⟨T, Lq, kq, nq⟩, -, X, ⟨Lc, hQ, lq, yq, zq⟩, st⟩ := X.virtualBack hx (y := (⟨"com/example/polyquery/polyquery/catalog/Comparison$Operator", "holds", "(I)Z"⟩ : MethodName)) (z := (⟨"com/example/polyquery/polyquery/catalog/Comparison$Operator", "holds", "(I)Z"⟩ : MethodName)) hown (mvT hZ (hw _ (List.mem_of_getElem? (i := 15) rfl))) (mvT hZ (hw _ (List.mem_of_getElem? (i := 16) rfl))) (notFace_of_selects (args := #[]) (mvT hZ (hw _ (List.mem_of_getElem? (i := 18) rfl)))) (mvT hZ (hw _ (List.mem_of_getElem? (i := 18) rfl))) (mvT hZ (hw _ (List.mem_of_getElem? (i := 17) rfl))) (by decide) (backOf (W := 0) (own_holds l Z a0 hw [] wGREATER ng (4 : Int32) (0 : Int32) h n0 O E_GREATER F_GREATER (by decide) (by simp [own_holdsV, hng, hng0.1, hng0.2])) hZ (hw _ (List.mem_of_getElem? (i := 19) rfl)) (hw _ (List.mem_of_getElem? (i := 6) rfl)) (by decide) (by decide)) qa qc (g := (mkF m 34 #[.val (.int p0), .val (.int p1), .val (.int p2), .val (.ref wGREATER), .val (.int ng), .val (.int ps), .val (.int (1 : Int32)), .unset, .unset, .unset] [(.int ng), (.ref wGREATER)])) rfl (by rw [hml]; rfl) (Steps.refl _) (argsL := [(.int ng)]) (rest := []) (lenOf own_pd3 rfl) rfl (by show 2 * 0 + _ ≤ _; exact Nat.le_of_eq rfl) (hb hby at_34) (fun _ _ => ⟨rfl, eT, (by decide : 0 + 0 ≤ _), (by decide : 0 + 0 ≤ _)⟩)
            dsimp only [Pt.U, Pt.locs, Pt.cells, Pt.slots] at X lq yq zq st hQ
            subst lq yq zq
            obtain ⟨rfl, Nq, eT⟩ := hQ
            replace N := Fr.app N Nq
            refine own_viaT (g' := (mkF m 37 #[.val (.int p0), .val (.int p1), .val (.int p2), .val (.ref wGREATER), .val (.int ng), .val (.int ps), .val (.int (1 : Int32)), .unset, .unset, .unset] [(.int (0 : Int32))])) st ?_
            refine own_via (T' := T) (g' := (mkF m 38 #[.val (.int p0), .val (.int p1), .val (.int p2), .val (.ref wGREATER), .val (.int ng), .val (.int ps), .val (.int (1 : Int32)), .unset, .unset, .unset] [(.ref wGREATER), (.int (0 : Int32))])) (fun t_ k_ => XS.aloadN X.here hx rfl (hb hby at_37) rfl rfl k_) ?_
            refine own_via (T' := T) (g' := (mkF m 40 #[.val (.int p0), .val (.int p1), .val (.int p2), .val (.ref wGREATER), .val (.int ng), .val (.int ps), .val (.int (1 : Int32)), .unset, .unset, .unset] [(.int ps), (.ref wGREATER), (.int (0 : Int32))])) (fun t_ k_ => XS.iload X.here hx rfl (hb hby at_38) rfl k_) ?_
            obtain ⟨cq, kq, qa, qb, qc⟩ := isOf hZ eT (E_GREATER.ext O.2)
            obtain ⟨_, _, ⟨T, Lq, kq, nq⟩, -, X, ⟨Lc, hQ, lq, yq, zq⟩, st⟩ := X.virtualBack hx (y := (⟨"com/example/polyquery/polyquery/catalog/Comparison$Operator", "holds", "(I)Z"⟩ : MethodName)) (z := (⟨"com/example/polyquery/polyquery/catalog/Comparison$Operator", "holds", "(I)Z"⟩ : MethodName)) hown (mvT hZ (hw _ (List.mem_of_getElem? (i := 15) rfl))) (mvT hZ (hw _ (List.mem_of_getElem? (i := 16) rfl))) (notFace_of_selects (args := #[]) (mvT hZ (hw _ (List.mem_of_getElem? (i := 18) rfl)))) (mvT hZ (hw _ (List.mem_of_getElem? (i := 18) rfl))) (mvT hZ (hw _ (List.mem_of_getElem? (i := 17) rfl))) (by decide) (backOf (W := 1) (own_holds l Z a0 hw [] wGREATER ps (4 : Int32) (1 : Int32) h n0 O E_GREATER F_GREATER (by decide) (by simp [own_holdsV, hps, hps0.1, hps0.2])) hZ (hw _ (List.mem_of_getElem? (i := 19) rfl)) (hw _ (List.mem_of_getElem? (i := 6) rfl)) (by decide) (by decide)) qa qc (g := (mkF m 40 #[.val (.int p0), .val (.int p1), .val (.int p2), .val (.ref wGREATER), .val (.int ng), .val (.int ps), .val (.int (1 : Int32)), .unset, .unset, .unset] [(.int ps), (.ref wGREATER), (.int (0 : Int32))])) rfl (by rw [hml]; rfl) (Steps.refl _) (argsL := [(.int ps)]) (rest := [(.int (0 : Int32))]) (lenOf own_pd3 rfl) rfl (by show 2 * 0 + _ ≤ _; exact Nat.le_of_eq rfl) (hb hby at_40) (fun _ _ => ⟨rfl, eT, (by decide : 0 + 0 ≤ _), (by decide : 0 + 0 ≤ _)⟩)
            dsimp only [Pt.U, Pt.locs, Pt.cells, Pt.slots] at X lq yq zq st hQ
            subst lq yq zq
            obtain ⟨rfl, Nq, eT⟩ := hQ
            replace N := Fr.app N Nq
            refine own_viaT (g' := (mkF m 43 #[.val (.int p0), .val (.int p1), .val (.int p2), .val (.ref wGREATER), .val (.int ng), .val (.int ps), .val (.int (1 : Int32)), .unset, .unset, .unset] [(.int (1 : Int32)), (.int (0 : Int32))])) st ?_
            refine own_via (T' := T) (g' := (mkF m 46 #[.val (.int p0), .val (.int p1), .val (.int p2), .val (.ref wGREATER), .val (.int ng), .val (.int ps), .val (.int (1 : Int32)), .unset, .unset, .unset] [])) (fun t_ k_ => XS.icmpNo X.here hx rfl (hb hby at_43) rfl (feq (by decide : ¬ ((0 : Int32) = (1 : Int32)))).1 k_) ?_
            refine own_via (T' := T) (g' := (mkF m 47 #[.val (.int p0), .val (.int p1), .val (.int p2), .val (.ref wGREATER), .val (.int ng), .val (.int ps), .val (.int (1 : Int32)), .unset, .unset, .unset] [(.int (1 : Int32))])) (fun t_ k_ => XS.iconst X.here hx rfl (hb hby at_46) k_) ?_
            refine own_via (T' := T) (g' := (mkF m 51 #[.val (.int p0), .val (.int p1), .val (.int p2), .val (.ref wGREATER), .val (.int ng), .val (.int ps), .val (.int (1 : Int32)), .unset, .unset, .unset] [(.int (1 : Int32))])) (fun t_ k_ => XS.goto X.here hx rfl (pc0 := 47) (pc' := 51) rfl (hb hby at_47) (by decide) (by decide) k_) ?_
            refine own_via (T' := T) (g' := (mkF m 53 #[.val (.int p0), .val (.int p1), .val (.int p2), .val (.ref wGREATER), .val (.int ng), .val (.int ps), .val (.int (1 : Int32)), .val (.int (1 : Int32)), .unset, .unset] [])) (fun t_ k_ => XS.istore X.here hx rfl (hb hby at_51) rfl (l' := #[.val (.int p0), .val (.int p1), .val (.int p2), .val (.ref wGREATER), .val (.int ng), .val (.int ps), .val (.int (1 : Int32)), .val (.int (1 : Int32)), .unset, .unset]) rfl k_) ?_
            refine own_via (T' := T) (g' := (mkF m 54 #[.val (.int p0), .val (.int p1), .val (.int p2), .val (.ref wGREATER), .val (.int ng), .val (.int ps), .val (.int (1 : Int32)), .val (.int (1 : Int32)), .unset, .unset] [(.ref wGREATER)])) (fun t_ k_ => XS.aloadN X.here hx rfl (hb hby at_53) rfl rfl k_) ?_
            obtain ⟨cq, kq, qa, qb, qc⟩ := isOf hZ eT (E_GREATER.ext O.2)
            obtain ⟨_, _, ⟨T, Lq, kq, nq⟩, -, X, ⟨Lc, hQ, lq, yq, zq⟩, st⟩ := X.virtualBack hx (y := (⟨"com/example/polyquery/polyquery/catalog/Comparison$Operator", "swapped", "()Lcom/example/polyquery/polyquery/catalog/Comparison$Operator;"⟩ : MethodName)) (z := (⟨"com/example/polyquery/polyquery/catalog/Comparison$Operator", "swapped", "()Lcom/example/polyquery/polyquery/catalog/Comparison$Operator;"⟩ : MethodName)) hown (mvT hZ (hw _ (List.mem_of_getElem? (i := 29) rfl))) (mvT hZ (hw _ (List.mem_of_getElem? (i := 30) rfl))) (notFace_of_selects (args := #[]) (mvT hZ (hw _ (List.mem_of_getElem? (i := 32) rfl)))) (mvT hZ (hw _ (List.mem_of_getElem? (i := 32) rfl))) (mvT hZ (hw _ (List.mem_of_getElem? (i := 31) rfl))) (by decide) (backOf (W := 0) (own_swapped l Z a0 hw [] wGREATER (4 : Int32) wEQUAL wNOT_EQUAL wLESS wLESS_OR_EQUAL wGREATER wGREATER_OR_EQUAL wLESS h n0 O E_GREATER F_GREATER (by decide) S_EQUAL S_NOT_EQUAL S_LESS S_LESS_OR_EQUAL S_GREATER S_GREATER_OR_EQUAL (by simp [own_swapV])) hZ (hw _ (List.mem_of_getElem? (i := 33) rfl)) (hw _ (List.mem_of_getElem? (i := 6) rfl)) (by decide) (by decide)) qa qc (g := (mkF m 54 #[.val (.int p0), .val (.int p1), .val (.int p2), .val (.ref wGREATER), .val (.int ng), .val (.int ps), .val (.int (1 : Int32)), .val (.int (1 : Int32)), .unset, .unset] [(.ref wGREATER)])) rfl (by rw [hml]; rfl) (Steps.refl _) (argsL := []) (rest := []) (lenOf own_pd4 rfl) rfl (by show 2 * 0 + _ ≤ _; exact Nat.le_of_eq rfl) (hb hby at_54) (fun _ _ => ⟨rfl, eT, (by decide : 0 + 0 ≤ _), (by decide : 0 + 0 ≤ _)⟩)
            dsimp only [Pt.U, Pt.locs, Pt.cells, Pt.slots] at X lq yq zq st hQ
            subst lq yq zq
            obtain ⟨rfl, Nq, eT⟩ := hQ
            replace N := Fr.app N Nq
            refine own_viaT (g' := (mkF m 57 #[.val (.int p0), .val (.int p1), .val (.int p2), .val (.ref wGREATER), .val (.int ng), .val (.int ps), .val (.int (1 : Int32)), .val (.int (1 : Int32)), .unset, .unset] [(.ref wLESS)])) st ?_
            refine own_via (T' := T) (g' := (mkF m 58 #[.val (.int p0), .val (.int p1), .val (.int p2), .val (.ref wGREATER), .val (.int ng), .val (.int ps), .val (.int (1 : Int32)), .val (.int (1 : Int32)), .unset, .unset] [(.ref wGREATER), (.ref wLESS)])) (fun t_ k_ => XS.aloadN X.here hx rfl (hb hby at_57) rfl rfl k_) ?_
            refine own_via (T' := T) (g' := (mkF m 61 #[.val (.int p0), .val (.int p1), .val (.int p2), .val (.ref wGREATER), .val (.int ng), .val (.int ps), .val (.int (1 : Int32)), .val (.int (1 : Int32)), .unset, .unset] [])) (fun t_ k_ => Jvm.RoadKit.acmp (g := (mkF m 58 #[.val (.int p0), .val (.int p1), .val (.int p2), .val (.ref wGREATER), .val (.int ng), .val (.int ps), .val (.int (1 : Int32)), .val (.int (1 : Int32)), .unset, .unset] [(.ref wGREATER), (.ref wLESS)])) X hx rfl rfl rfl (pc0 := 58) (pc' := 61) (same := false) rfl (hb hby at_58) rfl (decide_eq_false fun q => ne_2_4 (Value.ref.inj q)) (by decide) (by decide) k_) ?_
            refine own_via (T' := T) (g' := (mkF m 62 #[.val (.int p0), .val (.int p1), .val (.int p2), .val (.ref wGREATER), .val (.int ng), .val (.int ps), .val (.int (1 : Int32)), .val (.int (1 : Int32)), .unset, .unset] [(.int (1 : Int32))])) (fun t_ k_ => XS.iconst X.here hx rfl (hb hby at_61) k_) ?_
            refine own_via (T' := T) (g' := (mkF m 66 #[.val (.int p0), .val (.int p1), .val (.int p2), .val (.ref wGREATER), .val (.int ng), .val (.int ps), .val (.int (1 : Int32)), .val (.int (1 : Int32)), .unset, .unset] [(.int (1 : Int32))])) (fun t_ k_ => XS.goto X.here hx rfl (pc0 := 62) (pc' := 66) rfl (hb hby at_62) (by decide) (by decide) k_) ?_
            refine own_via (T' := T) (g' := (mkF m 68 #[.val (.int p0), .val (.int p1), .val (.int p2), .val (.ref wGREATER), .val (.int ng), .val (.int ps), .val (.int (1 : Int32)), .val (.int (1 : Int32)), .val (.int (1 : Int32)), .unset] [])) (fun t_ k_ => XS.istore X.here hx rfl (hb hby at_66) rfl (l' := #[.val (.int p0), .val (.int p1), .val (.int p2), .val (.ref wGREATER), .val (.int ng), .val (.int ps), .val (.int (1 : Int32)), .val (.int (1 : Int32)), .val (.int (1 : Int32)), .unset]) rfl k_) ?_
            refine own_via (T' := T) (g' := (mkF m 69 #[.val (.int p0), .val (.int p1), .val (.int p2), .val (.ref wGREATER), .val (.int ng), .val (.int ps), .val (.int (1 : Int32)), .val (.int (1 : Int32)), .val (.int (1 : Int32)), .unset] [(.ref wGREATER)])) (fun t_ k_ => XS.aloadN X.here hx rfl (hb hby at_68) rfl rfl k_) ?_
            obtain ⟨cq, kq, qa, qb, qc⟩ := isOf hZ eT (E_GREATER.ext O.2)
            obtain ⟨_, _, ⟨T, Lq, kq, nq⟩, -, X, ⟨Lc, hQ, lq, yq, zq⟩, st⟩ := X.virtualBack hx (y := (⟨"com/example/polyquery/polyquery/catalog/Comparison$Operator", "negated", "()Lcom/example/polyquery/polyquery/catalog/Comparison$Operator;"⟩ : MethodName)) (z := (⟨"com/example/polyquery/polyquery/catalog/Comparison$Operator", "negated", "()Lcom/example/polyquery/polyquery/catalog/Comparison$Operator;"⟩ : MethodName)) hown (mvT hZ (hw _ (List.mem_of_getElem? (i := 34) rfl))) (mvT hZ (hw _ (List.mem_of_getElem? (i := 35) rfl))) (notFace_of_selects (args := #[]) (mvT hZ (hw _ (List.mem_of_getElem? (i := 37) rfl)))) (mvT hZ (hw _ (List.mem_of_getElem? (i := 37) rfl))) (mvT hZ (hw _ (List.mem_of_getElem? (i := 36) rfl))) (by decide) (backOf (W := 0) (own_negated l Z a0 hw [] wGREATER (4 : Int32) wEQUAL wNOT_EQUAL wLESS wLESS_OR_EQUAL wGREATER wGREATER_OR_EQUAL wLESS_OR_EQUAL h n0 O E_GREATER F_GREATER (by decide) S_EQUAL S_NOT_EQUAL S_LESS S_LESS_OR_EQUAL S_GREATER S_GREATER_OR_EQUAL (by simp [own_negV])) hZ (hw _ (List.mem_of_getElem? (i := 38) rfl)) (hw _ (List.mem_of_getElem? (i := 6) rfl)) (by decide) (by decide)) qa qc (g := (mkF m 69 #[.val (.int p0), .val (.int p1), .val (.int p2), .val (.ref wGREATER), .val (.int ng), .val (.int ps), .val (.int (1 : Int32)), .val (.int (1 : Int32)), .val (.int (1 : Int32)), .unset] [(.ref wGREATER)])) rfl (by rw [hml]; rfl) (Steps.refl _) (argsL := []) (rest := []) (lenOf own_pd4 rfl) rfl (by show 2 * 0 + _ ≤ _; exact Nat.le_of_eq rfl) (hb hby at_69) (fun _ _ => ⟨rfl, eT, (by decide : 0 + 0 ≤ _), (by decide : 0 + 0 ≤ _)⟩)
            dsimp only [Pt.U, Pt.locs, Pt.cells, Pt.slots] at X lq yq zq st hQ
            subst lq yq zq
            obtain ⟨rfl, Nq, eT⟩ := hQ
            replace N := Fr.app N Nq
            refine own_viaT (g' := (mkF m 72 #[.val (.int p0), .val (.int p1), .val (.int p2), .val (.ref wGREATER), .val (.int ng), .val (.int ps), .val (.int (1 : Int32)), .val (.int (1 : Int32)), .val (.int (1 : Int32)), .unset] [(.ref wLESS_OR_EQUAL)])) st ?_
            obtain ⟨cq, kq, qa, qb, qc⟩ := isOf hZ eT (E_LESS_OR_EQUAL.ext O.2)
            obtain ⟨_, _, ⟨T, Lq, kq, nq⟩, -, X, ⟨Lc, hQ, lq, yq, zq⟩, st⟩ := X.virtualBack hx (y := (⟨"com/example/polyquery/polyquery/catalog/Comparison$Operator", "isOrder", "()Z"⟩ : MethodName)) (z := (⟨"com/example/polyquery/polyquery/catalog/Comparison$Operator", "isOrder", "()Z"⟩ : MethodName)) hown (mvT hZ (hw _ (List.mem_of_getElem? (i := 9) rfl))) (mvT hZ (hw _ (List.mem_of_getElem? (i := 10) rfl))) (notFace_of_selects (args := #[]) (mvT hZ (hw _ (List.mem_of_getElem? (i := 12) rfl)))) (mvT hZ (hw _ (List.mem_of_getElem? (i := 12) rfl))) (mvT hZ (hw _ (List.mem_of_getElem? (i := 11) rfl))) (by decide) (backOf (W := 0) (own_isOrder l Z a0 hw [] wLESS_OR_EQUAL wEQUAL wNOT_EQUAL (1 : Int32) h n0 O S_EQUAL S_NOT_EQUAL ⟨fun q => absurd q ne_3_0, fun q => absurd q ne_3_1, fun _ _ => rfl⟩) hZ (hw _ (List.mem_of_getElem? (i := 13) rfl)) (hw _ (List.mem_of_getElem? (i := 6) rfl)) (by decide) (by decide)) qa qc (g := (mkF m 72 #[.val (.int p0), .val (.int p1), .val (.int p2), .val (.ref wGREATER), .val (.int ng), .val (.int ps), .val (.int (1 : Int32)), .val (.int (1 : Int32)), .val (.int (1 : Int32)), .unset] [(.ref wLESS_OR_EQUAL)])) rfl (by rw [hml]; rfl) (Steps.refl _) (argsL := []) (rest := []) (lenOf own_pd2 rfl) rfl (by show 2 * 0 + _ ≤ _; exact Nat.le_of_eq rfl) (hb hby at_72) (fun _ _ => ⟨rfl, eT, (by decide : 0 + 0 ≤ _), (by decide : 0 + 0 ≤ _)⟩)
            dsimp only [Pt.U, Pt.locs, Pt.cells, Pt.slots] at X lq yq zq st hQ
            subst lq yq zq
            obtain ⟨rfl, Nq, eT⟩ := hQ
            replace N := Fr.app N Nq
            refine own_viaT (g' := (mkF m 75 #[.val (.int p0), .val (.int p1), .val (.int p2), .val (.ref wGREATER), .val (.int ng), .val (.int ps), .val (.int (1 : Int32)), .val (.int (1 : Int32)), .val (.int (1 : Int32)), .unset] [(.int (1 : Int32))])) st ?_
            refine own_via (T' := T) (g' := (mkF m 77 #[.val (.int p0), .val (.int p1), .val (.int p2), .val (.ref wGREATER), .val (.int ng), .val (.int ps), .val (.int (1 : Int32)), .val (.int (1 : Int32)), .val (.int (1 : Int32)), .val (.int (1 : Int32))] [])) (fun t_ k_ => XS.istore X.here hx rfl (hb hby at_75) rfl (l' := #[.val (.int p0), .val (.int p1), .val (.int p2), .val (.ref wGREATER), .val (.int ng), .val (.int ps), .val (.int (1 : Int32)), .val (.int (1 : Int32)), .val (.int (1 : Int32)), .val (.int (1 : Int32))]) rfl k_) ?_
            refine own_via (T' := T) (g' := (mkF m 79 #[.val (.int p0), .val (.int p1), .val (.int p2), .val (.ref wGREATER), .val (.int ng), .val (.int ps), .val (.int (1 : Int32)), .val (.int (1 : Int32)), .val (.int (1 : Int32)), .val (.int (1 : Int32))] [(.int (1 : Int32))])) (fun t_ k_ => XS.iload X.here hx rfl (hb hby at_77) rfl k_) ?_
            refine own_via (T' := T) (g' := (mkF m 81 #[.val (.int p0), .val (.int p1), .val (.int p2), .val (.ref wGREATER), .val (.int ng), .val (.int ps), .val (.int (1 : Int32)), .val (.int (1 : Int32)), .val (.int (1 : Int32)), .val (.int (1 : Int32))] [(.int (1 : Int32)), (.int (1 : Int32))])) (fun t_ k_ => XS.iload X.here hx rfl (hb hby at_79) rfl k_) ?_
            refine own_via (T' := T) (g' := (mkF m 84 #[.val (.int p0), .val (.int p1), .val (.int p2), .val (.ref wGREATER), .val (.int ng), .val (.int ps), .val (.int (1 : Int32)), .val (.int (1 : Int32)), .val (.int (1 : Int32)), .val (.int (1 : Int32))] [])) (fun t_ k_ => XS.icmpNo X.here hx rfl (hb hby at_81) rfl (teq (by decide : (1 : Int32) = (1 : Int32))).2 k_) ?_
            refine own_via (T' := T) (g' := (mkF m 86 #[.val (.int p0), .val (.int p1), .val (.int p2), .val (.ref wGREATER), .val (.int ng), .val (.int ps), .val (.int (1 : Int32)), .val (.int (1 : Int32)), .val (.int (1 : Int32)), .val (.int (1 : Int32))] [(.int (1 : Int32))])) (fun t_ k_ => XS.iload X.here hx rfl (hb hby at_84) rfl k_) ?_
            refine own_via (T' := T) (g' := (mkF m 88 #[.val (.int p0), .val (.int p1), .val (.int p2), .val (.ref wGREATER), .val (.int ng), .val (.int ps), .val (.int (1 : Int32)), .val (.int (1 : Int32)), .val (.int (1 : Int32)), .val (.int (1 : Int32))] [(.int (1 : Int32)), (.int (1 : Int32))])) (fun t_ k_ => XS.iload X.here hx rfl (hb hby at_86) rfl k_) ?_
            refine own_via (T' := T) (g' := (mkF m 91 #[.val (.int p0), .val (.int p1), .val (.int p2), .val (.ref wGREATER), .val (.int ng), .val (.int ps), .val (.int (1 : Int32)), .val (.int (1 : Int32)), .val (.int (1 : Int32)), .val (.int (1 : Int32))] [])) (fun t_ k_ => XS.icmpNo X.here hx rfl (hb hby at_88) rfl (teq (by decide : (1 : Int32) = (1 : Int32))).2 k_) ?_
            refine own_via (T' := T) (g' := (mkF m 93 #[.val (.int p0), .val (.int p1), .val (.int p2), .val (.ref wGREATER), .val (.int ng), .val (.int ps), .val (.int (1 : Int32)), .val (.int (1 : Int32)), .val (.int (1 : Int32)), .val (.int (1 : Int32))] [(.int (1 : Int32))])) (fun t_ k_ => XS.iload X.here hx rfl (hb hby at_91) rfl k_) ?_
            refine own_via (T' := T) (g' := (mkF m 95 #[.val (.int p0), .val (.int p1), .val (.int p2), .val (.ref wGREATER), .val (.int ng), .val (.int ps), .val (.int (1 : Int32)), .val (.int (1 : Int32)), .val (.int (1 : Int32)), .val (.int (1 : Int32))] [(.int (1 : Int32)), (.int (1 : Int32))])) (fun t_ k_ => XS.iload X.here hx rfl (hb hby at_93) rfl k_) ?_
            refine own_via (T' := T) (g' := (mkF m 98 #[.val (.int p0), .val (.int p1), .val (.int p2), .val (.ref wGREATER), .val (.int ng), .val (.int ps), .val (.int (1 : Int32)), .val (.int (1 : Int32)), .val (.int (1 : Int32)), .val (.int (1 : Int32))] [])) (fun t_ k_ => XS.icmpNo X.here hx rfl (hb hby at_95) rfl (teq (by decide : (1 : Int32) = (1 : Int32))).2 k_) ?_
            refine own_via (T' := T) (g' := (mkF m 99 #[.val (.int p0), .val (.int p1), .val (.int p2), .val (.ref wGREATER), .val (.int ng), .val (.int ps), .val (.int (1 : Int32)), .val (.int (1 : Int32)), .val (.int (1 : Int32)), .val (.int (1 : Int32))] [(.int (1 : Int32))])) (fun t_ k_ => XS.iconst X.here hx rfl (hb hby at_98) k_) ?_
            refine own_via (T' := T) (g' := (mkF m 103 #[.val (.int p0), .val (.int p1), .val (.int p2), .val (.ref wGREATER), .val (.int ng), .val (.int ps), .val (.int (1 : Int32)), .val (.int (1 : Int32)), .val (.int (1 : Int32)), .val (.int (1 : Int32))] [(.int (1 : Int32))])) (fun t_ k_ => XS.goto X.here hx rfl (pc0 := 99) (pc' := 103) rfl (hb hby at_99) (by decide) (by decide) k_) ?_
            refine own_retN X hx hlk (t := .boolean) Bd.returns (by simp) (hb hby at_103) (by decide) (by decide) ?_
            rw [eT]
            exact ⟨rfl, N, trivial⟩
          · obtain ⟨_, _, ⟨T, Lq, kq, nq⟩, -, X, ⟨Lc, hQ, lq, yq, zq⟩, st⟩ := Jvm.LawKit.callS X hx (y := (⟨"com/example/polyquery/polyquery/catalog/OperatorIsOrderPinLaw", "pick", "(I)Lcom/example/polyquery/polyquery/catalog/Comparison$Operator;"⟩ : MethodName)) hown (mvT hZ (hw _ (List.mem_of_getElem? (i := 1) rfl))) (mvT hZ (hw _ (List.mem_of_getElem? (i := 2) rfl))) (mvT hZ (hw _ (List.mem_of_getElem? (i := 3) rfl))) (mvT hZ (hw _ (List.mem_of_getElem? (i := 4) rfl))) (by decide) (backOf (W := 0) (own_pick l Z a0 hw [] k wEQUAL wNOT_EQUAL wLESS wLESS_OR_EQUAL wGREATER wGREATER_OR_EQUAL wGREATER_OR_EQUAL h n0 O S_EQUAL S_NOT_EQUAL S_LESS S_LESS_OR_EQUAL S_GREATER S_GREATER_OR_EQUAL (by simp [own_pickV, hc1, hc2, hc3, hc4, hc5])) hZ (hw _ (List.mem_of_getElem? (i := 4) rfl)) (hw _ (List.mem_of_getElem? (i := 3) rfl)) (by decide) (by decide)) (g := (mkF m 7 #[.val (.int p0), .val (.int p1), .val (.int p2), .unset, .unset, .unset, .unset, .unset, .unset, .unset] [(.int k)])) rfl (by rw [hml]; rfl) (argsL := [(.int k)]) (rest := []) (lenOf own_pd1 rfl) rfl (by show 2 * 0 + _ ≤ _; exact Nat.le_of_eq rfl) (hb hby at_7) (fun _ _ => ⟨rfl, eT, (by decide : 0 + 0 ≤ _), (by decide : 0 + 0 ≤ _)⟩)
            dsimp only [Pt.U, Pt.locs, Pt.cells, Pt.slots] at X lq yq zq st hQ
            subst lq yq zq
            obtain ⟨rfl, Nq, eT⟩ := hQ
            replace N := Fr.app N Nq
            refine own_via (g' := (mkF m 10 #[.val (.int p0), .val (.int p1), .val (.int p2), .unset, .unset, .unset, .unset, .unset, .unset, .unset] [(.ref wGREATER_OR_EQUAL)])) st ?_
            refine own_via (T' := T) (g' := (mkF m 11 #[.val (.int p0), .val (.int p1), .val (.int p2), .val (.ref wGREATER_OR_EQUAL), .unset, .unset, .unset, .unset, .unset, .unset] [])) (fun t_ k_ => XS.astoreN X.here hx rfl (hb hby at_10) rfl rfl (l' := #[.val (.int p0), .val (.int p1), .val (.int p2), .val (.ref wGREATER_OR_EQUAL), .unset, .unset, .unset, .unset, .unset, .unset]) rfl k_) ?_
            refine own_via (T' := T) (g' := (mkF m 12 #[.val (.int p0), .val (.int p1), .val (.int p2), .val (.ref wGREATER_OR_EQUAL), .unset, .unset, .unset, .unset, .unset, .unset] [(.int p1)])) (fun t_ k_ => XS.iloadN X.here hx rfl (hb hby at_11) rfl k_) ?_
            refine own_via (T' := T) (g' := (mkF m 14 #[.val (.int p0), .val (.int p1), .val (.int p2), .val (.ref wGREATER_OR_EQUAL), .unset, .unset, .unset, .unset, .unset, .unset] [(.int (-2147483648 : Int32)), (.int p1)])) (fun t_ k_ => X.ldcInt hx hown (mvT hZ (hw _ (List.mem_of_getElem? (i := 8) rfl))) (g := (mkF m 12 #[.val (.int p0), .val (.int p1), .val (.int p2), .val (.ref wGREATER_OR_EQUAL), .unset, .unset, .unset, .unset, .unset, .unset] [(.int p1)])) rfl (hb hby at_12) _ k_) ?_
            refine own_via (T' := T) (g' := (mkF m 15 #[.val (.int p0), .val (.int p1), .val (.int p2), .val (.ref wGREATER_OR_EQUAL), .unset, .unset, .unset, .unset, .unset, .unset] [(.int (p1 ||| (-2147483648 : Int32)))])) (fun t_ k_ => XS.ior X.here hx rfl (hb hby at_14) rfl k_) ?_
            obtain ⟨ng, hd_ng⟩ : ∃ z, z = (p1 ||| (-2147483648 : Int32)) := ⟨_, rfl⟩
            rw [← hd_ng]
            have hng : ng < 0 := by rw [hd_ng]; exact own_neg p1
            have hng0 := own_n0 hng
            refine own_via (T' := T) (g' := (mkF m 17 #[.val (.int p0), .val (.int p1), .val (.int p2), .val (.ref wGREATER_OR_EQUAL), .val (.int ng), .unset, .unset, .unset, .unset, .unset] [])) (fun t_ k_ => XS.istore X.here hx rfl (hb hby at_15) rfl (l' := #[.val (.int p0), .val (.int p1), .val (.int p2), .val (.ref wGREATER_OR_EQUAL), .val (.int ng), .unset, .unset, .unset, .unset, .unset]) rfl k_) ?_
            refine own_via (T' := T) (g' := (mkF m 18 #[.val (.int p0), .val (.int p1), .val (.int p2), .val (.ref wGREATER_OR_EQUAL), .val (.int ng), .unset, .unset, .unset, .unset, .unset] [(.int p2)])) (fun t_ k_ => XS.iloadN X.here hx rfl (hb hby at_17) rfl k_) ?_
            refine own_via (T' := T) (g' := (mkF m 20 #[.val (.int p0), .val (.int p1), .val (.int p2), .val (.ref wGREATER_OR_EQUAL), .val (.int ng), .unset, .unset, .unset, .unset, .unset] [(.int (2147483647 : Int32)), (.int p2)])) (fun t_ k_ => X.ldcInt hx hown (mvT hZ (hw _ (List.mem_of_getElem? (i := 0) rfl))) (g := (mkF m 18 #[.val (.int p0), .val (.int p1), .val (.int p2), .val (.ref wGREATER_OR_EQUAL), .val (.int ng), .unset, .unset, .unset, .unset, .unset] [(.int p2)])) rfl (hb hby at_18) _ k_) ?_
            refine own_via (T' := T) (g' := (mkF m 21 #[.val (.int p0), .val (.int p1), .val (.int p2), .val (.ref wGREATER_OR_EQUAL), .val (.int ng), .unset, .unset, .unset, .unset, .unset] [(.int (p2 &&& (2147483647 : Int32)))])) (fun t_ k_ => XS.iand X.here hx rfl (hb hby at_20) rfl k_) ?_
            refine own_via (T' := T) (g' := (mkF m 22 #[.val (.int p0), .val (.int p1), .val (.int p2), .val (.ref wGREATER_OR_EQUAL), .val (.int ng), .unset, .unset, .unset, .unset, .unset] [(.int (1 : Int32)), (.int (p2 &&& (2147483647 : Int32)))])) (fun t_ k_ => XS.iconst X.here hx rfl (hb hby at_21) k_) ?_
            refine own_via (T' := T) (g' := (mkF m 23 #[.val (.int p0), .val (.int p1), .val (.int p2), .val (.ref wGREATER_OR_EQUAL), .val (.int ng), .unset, .unset, .unset, .unset, .unset] [(.int ((p2 &&& (2147483647 : Int32)) ||| (1 : Int32)))])) (fun t_ k_ => XS.ior X.here hx rfl (hb hby at_22) rfl k_) ?_
            obtain ⟨ps, hd_ps⟩ : ∃ z, z = ((p2 &&& (2147483647 : Int32)) ||| (1 : Int32)) := ⟨_, rfl⟩
            rw [← hd_ps]
            have hps : 0 < ps := by rw [hd_ps]; exact own_pos p2
            have hps0 := own_p0 hps
            refine own_via (T' := T) (g' := (mkF m 25 #[.val (.int p0), .val (.int p1), .val (.int p2), .val (.ref wGREATER_OR_EQUAL), .val (.int ng), .val (.int ps), .unset, .unset, .unset, .unset] [])) (fun t_ k_ => XS.istore X.here hx rfl (hb hby at_23) rfl (l' := #[.val (.int p0), .val (.int p1), .val (.int p2), .val (.ref wGREATER_OR_EQUAL), .val (.int ng), .val (.int ps), .unset, .unset, .unset, .unset]) rfl k_) ?_
            refine own_via (T' := T) (g' := (mkF m 26 #[.val (.int p0), .val (.int p1), .val (.int p2), .val (.ref wGREATER_OR_EQUAL), .val (.int ng), .val (.int ps), .unset, .unset, .unset, .unset] [(.ref wGREATER_OR_EQUAL)])) (fun t_ k_ => XS.aloadN X.here hx rfl (hb hby at_25) rfl rfl k_) ?_
            obtain ⟨cq, kq, qa, qb, qc⟩ := isOf hZ eT (E_GREATER_OR_EQUAL.ext O.2)
            obtain ⟨_, _, ⟨T, Lq, kq, nq⟩, -, X, ⟨Lc, hQ, lq, yq, zq⟩, st⟩ := X.virtualBack hx (y := (⟨"com/example/polyquery/polyquery/catalog/Comparison$Operator", "isOrder", "()Z"⟩ : MethodName)) (z := (⟨"com/example/polyquery/polyquery/catalog/Comparison$Operator", "isOrder", "()Z"⟩ : MethodName)) hown (mvT hZ (hw _ (List.mem_of_getElem? (i := 9) rfl))) (mvT hZ (hw _ (List.mem_of_getElem? (i := 10) rfl))) (notFace_of_selects (args := #[]) (mvT hZ (hw _ (List.mem_of_getElem? (i := 12) rfl)))) (mvT hZ (hw _ (List.mem_of_getElem? (i := 12) rfl))) (mvT hZ (hw _ (List.mem_of_getElem? (i := 11) rfl))) (by decide) (backOf (W := 0) (own_isOrder l Z a0 hw [] wGREATER_OR_EQUAL wEQUAL wNOT_EQUAL (1 : Int32) h n0 O S_EQUAL S_NOT_EQUAL ⟨fun q => absurd q ne_5_0, fun q => absurd q ne_5_1, fun _ _ => rfl⟩) hZ (hw _ (List.mem_of_getElem? (i := 13) rfl)) (hw _ (List.mem_of_getElem? (i := 6) rfl)) (by decide) (by decide)) qa qc (g := (mkF m 26 #[.val (.int p0), .val (.int p1), .val (.int p2), .val (.ref wGREATER_OR_EQUAL), .val (.int ng), .val (.int ps), .unset, .unset, .unset, .unset] [(.ref wGREATER_OR_EQUAL)])) rfl (by rw [hml]; rfl) (Steps.refl _) (argsL := []) (rest := []) (lenOf own_pd2 rfl) rfl (by show 2 * 0 + _ ≤ _; exact Nat.le_of_eq rfl) (hb hby at_26) (fun _ _ => ⟨rfl, eT, (by decide : 0 + 0 ≤ _), (by decide : 0 + 0 ≤ _)⟩)
            dsimp only [Pt.U, Pt.locs, Pt.cells, Pt.slots] at X lq yq zq st hQ
            subst lq yq zq
            obtain ⟨rfl, Nq, eT⟩ := hQ
            replace N := Fr.app N Nq
            refine own_viaT (g' := (mkF m 29 #[.val (.int p0), .val (.int p1), .val (.int p2), .val (.ref wGREATER_OR_EQUAL), .val (.int ng), .val (.int ps), .unset, .unset, .unset, .unset] [(.int (1 : Int32))])) st ?_
            refine own_via (T' := T) (g' := (mkF m 31 #[.val (.int p0), .val (.int p1), .val (.int p2), .val (.ref wGREATER_OR_EQUAL), .val (.int ng), .val (.int ps), .val (.int (1 : Int32)), .unset, .unset, .unset] [])) (fun t_ k_ => XS.istore X.here hx rfl (hb hby at_29) rfl (l' := #[.val (.int p0), .val (.int p1), .val (.int p2), .val (.ref wGREATER_OR_EQUAL), .val (.int ng), .val (.int ps), .val (.int (1 : Int32)), .unset, .unset, .unset]) rfl k_) ?_
            refine own_via (T' := T) (g' := (mkF m 32 #[.val (.int p0), .val (.int p1), .val (.int p2), .val (.ref wGREATER_OR_EQUAL), .val (.int ng), .val (.int ps), .val (.int (1 : Int32)), .unset, .unset, .unset] [(.ref wGREATER_OR_EQUAL)])) (fun t_ k_ => XS.aloadN X.here hx rfl (hb hby at_31) rfl rfl k_) ?_
            refine own_via (T' := T) (g' := (mkF m 34 #[.val (.int p0), .val (.int p1), .val (.int p2), .val (.ref wGREATER_OR_EQUAL), .val (.int ng), .val (.int ps), .val (.int (1 : Int32)), .unset, .unset, .unset] [(.int ng), (.ref wGREATER_OR_EQUAL)])) (fun t_ k_ => XS.iload X.here hx rfl (hb hby at_32) rfl k_) ?_
            obtain ⟨cq, kq, qa, qb, qc⟩ := isOf hZ eT (E_GREATER_OR_EQUAL.ext O.2)
            obtain ⟨_, _, ⟨T, Lq, kq, nq⟩, -, X, ⟨Lc, hQ, lq, yq, zq⟩, st⟩ := X.virtualBack hx (y := (⟨"com/example/polyquery/polyquery/catalog/Comparison$Operator", "holds", "(I)Z"⟩ : MethodName)) (z := (⟨"com/example/polyquery/polyquery/catalog/Comparison$Operator", "holds", "(I)Z"⟩ : MethodName)) hown (mvT hZ (hw _ (List.mem_of_getElem? (i := 15) rfl))) (mvT hZ (hw _ (List.mem_of_getElem? (i := 16) rfl))) (notFace_of_selects (args := #[]) (mvT hZ (hw _ (List.mem_of_getElem? (i := 18) rfl)))) (mvT hZ (hw _ (List.mem_of_getElem? (i := 18) rfl))) (mvT hZ (hw _ (List.mem_of_getElem? (i := 17) rfl))) (by decide) (backOf (W := 0) (own_holds l Z a0 hw [] wGREATER_OR_EQUAL ng (5 : Int32) (0 : Int32) h n0 O E_GREATER_OR_EQUAL F_GREATER_OR_EQUAL (by decide) (by simp [own_holdsV, hng, hng0.1, hng0.2])) hZ (hw _ (List.mem_of_getElem? (i := 19) rfl)) (hw _ (List.mem_of_getElem? (i := 6) rfl)) (by decide) (by decide)) qa qc (g := (mkF m 34 #[.val (.int p0), .val (.int p1), .val (.int p2), .val (.ref wGREATER_OR_EQUAL), .val (.int ng), .val (.int ps), .val (.int (1 : Int32)), .unset, .unset, .unset] [(.int ng), (.ref wGREATER_OR_EQUAL)])) rfl (by rw [hml]; rfl) (Steps.refl _) (argsL := [(.int ng)]) (rest := []) (lenOf own_pd3 rfl) rfl (by show 2 * 0 + _ ≤ _; exact Nat.le_of_eq rfl) (hb hby at_34) (fun _ _ => ⟨rfl, eT, (by decide : 0 + 0 ≤ _), (by decide : 0 + 0 ≤ _)⟩)
            dsimp only [Pt.U, Pt.locs, Pt.cells, Pt.slots] at X lq yq zq st hQ
            subst lq yq zq
            obtain ⟨rfl, Nq, eT⟩ := hQ
            replace N := Fr.app N Nq
            refine own_viaT (g' := (mkF m 37 #[.val (.int p0), .val (.int p1), .val (.int p2), .val (.ref wGREATER_OR_EQUAL), .val (.int ng), .val (.int ps), .val (.int (1 : Int32)), .unset, .unset, .unset] [(.int (0 : Int32))])) st ?_
            refine own_via (T' := T) (g' := (mkF m 38 #[.val (.int p0), .val (.int p1), .val (.int p2), .val (.ref wGREATER_OR_EQUAL), .val (.int ng), .val (.int ps), .val (.int (1 : Int32)), .unset, .unset, .unset] [(.ref wGREATER_OR_EQUAL), (.int (0 : Int32))])) (fun t_ k_ => XS.aloadN X.here hx rfl (hb hby at_37) rfl rfl k_) ?_
            refine own_via (T' := T) (g' := (mkF m 40 #[.val (.int p0), .val (.int p1), .val (.int p2), .val (.ref wGREATER_OR_EQUAL), .val (.int ng), .val (.int ps), .val (.int (1 : Int32)), .unset, .unset, .unset] [(.int ps), (.ref wGREATER_OR_EQUAL), (.int (0 : Int32))])) (fun t_ k_ => XS.iload X.here hx rfl (hb hby at_38) rfl k_) ?_
            obtain ⟨cq, kq, qa, qb, qc⟩ := isOf hZ eT (E_GREATER_OR_EQUAL.ext O.2)
            obtain ⟨_, _, ⟨T, Lq, kq, nq⟩, -, X, ⟨Lc, hQ, lq, yq, zq⟩, st⟩ := X.virtualBack hx (y := (⟨"com/example/polyquery/polyquery/catalog/Comparison$Operator", "holds", "(I)Z"⟩ : MethodName)) (z := (⟨"com/example/polyquery/polyquery/catalog/Comparison$Operator", "holds", "(I)Z"⟩ : MethodName)) hown (mvT hZ (hw _ (List.mem_of_getElem? (i := 15) rfl))) (mvT hZ (hw _ (List.mem_of_getElem? (i := 16) rfl))) (notFace_of_selects (args := #[]) (mvT hZ (hw _ (List.mem_of_getElem? (i := 18) rfl)))) (mvT hZ (hw _ (List.mem_of_getElem? (i := 18) rfl))) (mvT hZ (hw _ (List.mem_of_getElem? (i := 17) rfl))) (by decide) (backOf (W := 1) (own_holds l Z a0 hw [] wGREATER_OR_EQUAL ps (5 : Int32) (1 : Int32) h n0 O E_GREATER_OR_EQUAL F_GREATER_OR_EQUAL (by decide) (by simp [own_holdsV, hps, hps0.1, hps0.2])) hZ (hw _ (List.mem_of_getElem? (i := 19) rfl)) (hw _ (List.mem_of_getElem? (i := 6) rfl)) (by decide) (by decide)) qa qc (g := (mkF m 40 #[.val (.int p0), .val (.int p1), .val (.int p2), .val (.ref wGREATER_OR_EQUAL), .val (.int ng), .val (.int ps), .val (.int (1 : Int32)), .unset, .unset, .unset] [(.int ps), (.ref wGREATER_OR_EQUAL), (.int (0 : Int32))])) rfl (by rw [hml]; rfl) (Steps.refl _) (argsL := [(.int ps)]) (rest := [(.int (0 : Int32))]) (lenOf own_pd3 rfl) rfl (by show 2 * 0 + _ ≤ _; exact Nat.le_of_eq rfl) (hb hby at_40) (fun _ _ => ⟨rfl, eT, (by decide : 0 + 0 ≤ _), (by decide : 0 + 0 ≤ _)⟩)
            dsimp only [Pt.U, Pt.locs, Pt.cells, Pt.slots] at X lq yq zq st hQ
            subst lq yq zq
            obtain ⟨rfl, Nq, eT⟩ := hQ
            replace N := Fr.app N Nq
            refine own_viaT (g' := (mkF m 43 #[.val (.int p0), .val (.int p1), .val (.int p2), .val (.ref wGREATER_OR_EQUAL), .val (.int ng), .val (.int ps), .val (.int (1 : Int32)), .unset, .unset, .unset] [(.int (1 : Int32)), (.int (0 : Int32))])) st ?_
            refine own_via (T' := T) (g' := (mkF m 46 #[.val (.int p0), .val (.int p1), .val (.int p2), .val (.ref wGREATER_OR_EQUAL), .val (.int ng), .val (.int ps), .val (.int (1 : Int32)), .unset, .unset, .unset] [])) (fun t_ k_ => XS.icmpNo X.here hx rfl (hb hby at_43) rfl (feq (by decide : ¬ ((0 : Int32) = (1 : Int32)))).1 k_) ?_
            refine own_via (T' := T) (g' := (mkF m 47 #[.val (.int p0), .val (.int p1), .val (.int p2), .val (.ref wGREATER_OR_EQUAL), .val (.int ng), .val (.int ps), .val (.int (1 : Int32)), .unset, .unset, .unset] [(.int (1 : Int32))])) (fun t_ k_ => XS.iconst X.here hx rfl (hb hby at_46) k_) ?_
            refine own_via (T' := T) (g' := (mkF m 51 #[.val (.int p0), .val (.int p1), .val (.int p2), .val (.ref wGREATER_OR_EQUAL), .val (.int ng), .val (.int ps), .val (.int (1 : Int32)), .unset, .unset, .unset] [(.int (1 : Int32))])) (fun t_ k_ => XS.goto X.here hx rfl (pc0 := 47) (pc' := 51) rfl (hb hby at_47) (by decide) (by decide) k_) ?_
            refine own_via (T' := T) (g' := (mkF m 53 #[.val (.int p0), .val (.int p1), .val (.int p2), .val (.ref wGREATER_OR_EQUAL), .val (.int ng), .val (.int ps), .val (.int (1 : Int32)), .val (.int (1 : Int32)), .unset, .unset] [])) (fun t_ k_ => XS.istore X.here hx rfl (hb hby at_51) rfl (l' := #[.val (.int p0), .val (.int p1), .val (.int p2), .val (.ref wGREATER_OR_EQUAL), .val (.int ng), .val (.int ps), .val (.int (1 : Int32)), .val (.int (1 : Int32)), .unset, .unset]) rfl k_) ?_
            refine own_via (T' := T) (g' := (mkF m 54 #[.val (.int p0), .val (.int p1), .val (.int p2), .val (.ref wGREATER_OR_EQUAL), .val (.int ng), .val (.int ps), .val (.int (1 : Int32)), .val (.int (1 : Int32)), .unset, .unset] [(.ref wGREATER_OR_EQUAL)])) (fun t_ k_ => XS.aloadN X.here hx rfl (hb hby at_53) rfl rfl k_) ?_
            obtain ⟨cq, kq, qa, qb, qc⟩ := isOf hZ eT (E_GREATER_OR_EQUAL.ext O.2)
            obtain ⟨_, _, ⟨T, Lq, kq, nq⟩, -, X, ⟨Lc, hQ, lq, yq, zq⟩, st⟩ := X.virtualBack hx (y := (⟨"com/example/polyquery/polyquery/catalog/Comparison$Operator", "swapped", "()Lcom/example/polyquery/polyquery/catalog/Comparison$Operator;"⟩ : MethodName)) (z := (⟨"com/example/polyquery/polyquery/catalog/Comparison$Operator", "swapped", "()Lcom/example/polyquery/polyquery/catalog/Comparison$Operator;"⟩ : MethodName)) hown (mvT hZ (hw _ (List.mem_of_getElem? (i := 29) rfl))) (mvT hZ (hw _ (List.mem_of_getElem? (i := 30) rfl))) (notFace_of_selects (args := #[]) (mvT hZ (hw _ (List.mem_of_getElem? (i := 32) rfl)))) (mvT hZ (hw _ (List.mem_of_getElem? (i := 32) rfl))) (mvT hZ (hw _ (List.mem_of_getElem? (i := 31) rfl))) (by decide) (backOf (W := 0) (own_swapped l Z a0 hw [] wGREATER_OR_EQUAL (5 : Int32) wEQUAL wNOT_EQUAL wLESS wLESS_OR_EQUAL wGREATER wGREATER_OR_EQUAL wLESS_OR_EQUAL h n0 O E_GREATER_OR_EQUAL F_GREATER_OR_EQUAL (by decide) S_EQUAL S_NOT_EQUAL S_LESS S_LESS_OR_EQUAL S_GREATER S_GREATER_OR_EQUAL (by simp [own_swapV])) hZ (hw _ (List.mem_of_getElem? (i := 33) rfl)) (hw _ (List.mem_of_getElem? (i := 6) rfl)) (by decide) (by decide)) qa qc (g := (mkF m 54 #[.val (.int p0), .val (.int p1), .val (.int p2), .val (.ref wGREATER_OR_EQUAL), .val (.int ng), .val (.int ps), .val (.int (1 : Int32)), .val (.int (1 : Int32)), .unset, .unset] [(.ref wGREATER_OR_EQUAL)])) rfl (by rw [hml]; rfl) (Steps.refl _) (argsL := []) (rest := []) (lenOf own_pd4 rfl) rfl (by show 2 * 0 + _ ≤ _; exact Nat.le_of_eq rfl) (hb hby at_54) (fun _ _ => ⟨rfl, eT, (by decide : 0 + 0 ≤ _), (by decide : 0 + 0 ≤ _)⟩)
            dsimp only [Pt.U, Pt.locs, Pt.cells, Pt.slots] at X lq yq zq st hQ
            subst lq yq zq
            obtain ⟨rfl, Nq, eT⟩ := hQ
            replace N := Fr.app N Nq
            refine own_viaT (g' := (mkF m 57 #[.val (.int p0), .val (.int p1), .val (.int p2), .val (.ref wGREATER_OR_EQUAL), .val (.int ng), .val (.int ps), .val (.int (1 : Int32)), .val (.int (1 : Int32)), .unset, .unset] [(.ref wLESS_OR_EQUAL)])) st ?_
            refine own_via (T' := T) (g' := (mkF m 58 #[.val (.int p0), .val (.int p1), .val (.int p2), .val (.ref wGREATER_OR_EQUAL), .val (.int ng), .val (.int ps), .val (.int (1 : Int32)), .val (.int (1 : Int32)), .unset, .unset] [(.ref wGREATER_OR_EQUAL), (.ref wLESS_OR_EQUAL)])) (fun t_ k_ => XS.aloadN X.here hx rfl (hb hby at_57) rfl rfl k_) ?_
            refine own_via (T' := T) (g' := (mkF m 61 #[.val (.int p0), .val (.int p1), .val (.int p2), .val (.ref wGREATER_OR_EQUAL), .val (.int ng), .val (.int ps), .val (.int (1 : Int32)), .val (.int (1 : Int32)), .unset, .unset] [])) (fun t_ k_ => Jvm.RoadKit.acmp (g := (mkF m 58 #[.val (.int p0), .val (.int p1), .val (.int p2), .val (.ref wGREATER_OR_EQUAL), .val (.int ng), .val (.int ps), .val (.int (1 : Int32)), .val (.int (1 : Int32)), .unset, .unset] [(.ref wGREATER_OR_EQUAL), (.ref wLESS_OR_EQUAL)])) X hx rfl rfl rfl (pc0 := 58) (pc' := 61) (same := false) rfl (hb hby at_58) rfl (decide_eq_false fun q => ne_3_5 (Value.ref.inj q)) (by decide) (by decide) k_) ?_
            refine own_via (T' := T) (g' := (mkF m 62 #[.val (.int p0), .val (.int p1), .val (.int p2), .val (.ref wGREATER_OR_EQUAL), .val (.int ng), .val (.int ps), .val (.int (1 : Int32)), .val (.int (1 : Int32)), .unset, .unset] [(.int (1 : Int32))])) (fun t_ k_ => XS.iconst X.here hx rfl (hb hby at_61) k_) ?_
            refine own_via (T' := T) (g' := (mkF m 66 #[.val (.int p0), .val (.int p1), .val (.int p2), .val (.ref wGREATER_OR_EQUAL), .val (.int ng), .val (.int ps), .val (.int (1 : Int32)), .val (.int (1 : Int32)), .unset, .unset] [(.int (1 : Int32))])) (fun t_ k_ => XS.goto X.here hx rfl (pc0 := 62) (pc' := 66) rfl (hb hby at_62) (by decide) (by decide) k_) ?_
            refine own_via (T' := T) (g' := (mkF m 68 #[.val (.int p0), .val (.int p1), .val (.int p2), .val (.ref wGREATER_OR_EQUAL), .val (.int ng), .val (.int ps), .val (.int (1 : Int32)), .val (.int (1 : Int32)), .val (.int (1 : Int32)), .unset] [])) (fun t_ k_ => XS.istore X.here hx rfl (hb hby at_66) rfl (l' := #[.val (.int p0), .val (.int p1), .val (.int p2), .val (.ref wGREATER_OR_EQUAL), .val (.int ng), .val (.int ps), .val (.int (1 : Int32)), .val (.int (1 : Int32)), .val (.int (1 : Int32)), .unset]) rfl k_) ?_
            refine own_via (T' := T) (g' := (mkF m 69 #[.val (.int p0), .val (.int p1), .val (.int p2), .val (.ref wGREATER_OR_EQUAL), .val (.int ng), .val (.int ps), .val (.int (1 : Int32)), .val (.int (1 : Int32)), .val (.int (1 : Int32)), .unset] [(.ref wGREATER_OR_EQUAL)])) (fun t_ k_ => XS.aloadN X.here hx rfl (hb hby at_68) rfl rfl k_) ?_
            obtain ⟨cq, kq, qa, qb, qc⟩ := isOf hZ eT (E_GREATER_OR_EQUAL.ext O.2)
            obtain ⟨_, _, ⟨T, Lq, kq, nq⟩, -, X, ⟨Lc, hQ, lq, yq, zq⟩, st⟩ := X.virtualBack hx (y := (⟨"com/example/polyquery/polyquery/catalog/Comparison$Operator", "negated", "()Lcom/example/polyquery/polyquery/catalog/Comparison$Operator;"⟩ : MethodName)) (z := (⟨"com/example/polyquery/polyquery/catalog/Comparison$Operator", "negated", "()Lcom/example/polyquery/polyquery/catalog/Comparison$Operator;"⟩ : MethodName)) hown (mvT hZ (hw _ (List.mem_of_getElem? (i := 34) rfl))) (mvT hZ (hw _ (List.mem_of_getElem? (i := 35) rfl))) (notFace_of_selects (args := #[]) (mvT hZ (hw _ (List.mem_of_getElem? (i := 37) rfl)))) (mvT hZ (hw _ (List.mem_of_getElem? (i := 37) rfl))) (mvT hZ (hw _ (List.mem_of_getElem? (i := 36) rfl))) (by decide) (backOf (W := 0) (own_negated l Z a0 hw [] wGREATER_OR_EQUAL (5 : Int32) wEQUAL wNOT_EQUAL wLESS wLESS_OR_EQUAL wGREATER wGREATER_OR_EQUAL wLESS h n0 O E_GREATER_OR_EQUAL F_GREATER_OR_EQUAL (by decide) S_EQUAL S_NOT_EQUAL S_LESS S_LESS_OR_EQUAL S_GREATER S_GREATER_OR_EQUAL (by simp [own_negV])) hZ (hw _ (List.mem_of_getElem? (i := 38) rfl)) (hw _ (List.mem_of_getElem? (i := 6) rfl)) (by decide) (by decide)) qa qc (g := (mkF m 69 #[.val (.int p0), .val (.int p1), .val (.int p2), .val (.ref wGREATER_OR_EQUAL), .val (.int ng), .val (.int ps), .val (.int (1 : Int32)), .val (.int (1 : Int32)), .val (.int (1 : Int32)), .unset] [(.ref wGREATER_OR_EQUAL)])) rfl (by rw [hml]; rfl) (Steps.refl _) (argsL := []) (rest := []) (lenOf own_pd4 rfl) rfl (by show 2 * 0 + _ ≤ _; exact Nat.le_of_eq rfl) (hb hby at_69) (fun _ _ => ⟨rfl, eT, (by decide : 0 + 0 ≤ _), (by decide : 0 + 0 ≤ _)⟩)
            dsimp only [Pt.U, Pt.locs, Pt.cells, Pt.slots] at X lq yq zq st hQ
            subst lq yq zq
            obtain ⟨rfl, Nq, eT⟩ := hQ
            replace N := Fr.app N Nq
            refine own_viaT (g' := (mkF m 72 #[.val (.int p0), .val (.int p1), .val (.int p2), .val (.ref wGREATER_OR_EQUAL), .val (.int ng), .val (.int ps), .val (.int (1 : Int32)), .val (.int (1 : Int32)), .val (.int (1 : Int32)), .unset] [(.ref wLESS)])) st ?_
            obtain ⟨cq, kq, qa, qb, qc⟩ := isOf hZ eT (E_LESS.ext O.2)
            obtain ⟨_, _, ⟨T, Lq, kq, nq⟩, -, X, ⟨Lc, hQ, lq, yq, zq⟩, st⟩ := X.virtualBack hx (y := (⟨"com/example/polyquery/polyquery/catalog/Comparison$Operator", "isOrder", "()Z"⟩ : MethodName)) (z := (⟨"com/example/polyquery/polyquery/catalog/Comparison$Operator", "isOrder", "()Z"⟩ : MethodName)) hown (mvT hZ (hw _ (List.mem_of_getElem? (i := 9) rfl))) (mvT hZ (hw _ (List.mem_of_getElem? (i := 10) rfl))) (notFace_of_selects (args := #[]) (mvT hZ (hw _ (List.mem_of_getElem? (i := 12) rfl)))) (mvT hZ (hw _ (List.mem_of_getElem? (i := 12) rfl))) (mvT hZ (hw _ (List.mem_of_getElem? (i := 11) rfl))) (by decide) (backOf (W := 0) (own_isOrder l Z a0 hw [] wLESS wEQUAL wNOT_EQUAL (1 : Int32) h n0 O S_EQUAL S_NOT_EQUAL ⟨fun q => absurd q ne_2_0, fun q => absurd q ne_2_1, fun _ _ => rfl⟩) hZ (hw _ (List.mem_of_getElem? (i := 13) rfl)) (hw _ (List.mem_of_getElem? (i := 6) rfl)) (by decide) (by decide)) qa qc (g := (mkF m 72 #[.val (.int p0), .val (.int p1), .val (.int p2), .val (.ref wGREATER_OR_EQUAL), .val (.int ng), .val (.int ps), .val (.int (1 : Int32)), .val (.int (1 : Int32)), .val (.int (1 : Int32)), .unset] [(.ref wLESS)])) rfl (by rw [hml]; rfl) (Steps.refl _) (argsL := []) (rest := []) (lenOf own_pd2 rfl) rfl (by show 2 * 0 + _ ≤ _; exact Nat.le_of_eq rfl) (hb hby at_72) (fun _ _ => ⟨rfl, eT, (by decide : 0 + 0 ≤ _), (by decide : 0 + 0 ≤ _)⟩)
            dsimp only [Pt.U, Pt.locs, Pt.cells, Pt.slots] at X lq yq zq st hQ
            subst lq yq zq
            obtain ⟨rfl, Nq, eT⟩ := hQ
            replace N := Fr.app N Nq
            refine own_viaT (g' := (mkF m 75 #[.val (.int p0), .val (.int p1), .val (.int p2), .val (.ref wGREATER_OR_EQUAL), .val (.int ng), .val (.int ps), .val (.int (1 : Int32)), .val (.int (1 : Int32)), .val (.int (1 : Int32)), .unset] [(.int (1 : Int32))])) st ?_
            refine own_via (T' := T) (g' := (mkF m 77 #[.val (.int p0), .val (.int p1), .val (.int p2), .val (.ref wGREATER_OR_EQUAL), .val (.int ng), .val (.int ps), .val (.int (1 : Int32)), .val (.int (1 : Int32)), .val (.int (1 : Int32)), .val (.int (1 : Int32))] [])) (fun t_ k_ => XS.istore X.here hx rfl (hb hby at_75) rfl (l' := #[.val (.int p0), .val (.int p1), .val (.int p2), .val (.ref wGREATER_OR_EQUAL), .val (.int ng), .val (.int ps), .val (.int (1 : Int32)), .val (.int (1 : Int32)), .val (.int (1 : Int32)), .val (.int (1 : Int32))]) rfl k_) ?_
            refine own_via (T' := T) (g' := (mkF m 79 #[.val (.int p0), .val (.int p1), .val (.int p2), .val (.ref wGREATER_OR_EQUAL), .val (.int ng), .val (.int ps), .val (.int (1 : Int32)), .val (.int (1 : Int32)), .val (.int (1 : Int32)), .val (.int (1 : Int32))] [(.int (1 : Int32))])) (fun t_ k_ => XS.iload X.here hx rfl (hb hby at_77) rfl k_) ?_
            refine own_via (T' := T) (g' := (mkF m 81 #[.val (.int p0), .val (.int p1), .val (.int p2), .val (.ref wGREATER_OR_EQUAL), .val (.int ng), .val (.int ps), .val (.int (1 : Int32)), .val (.int (1 : Int32)), .val (.int (1 : Int32)), .val (.int (1 : Int32))] [(.int (1 : Int32)), (.int (1 : Int32))])) (fun t_ k_ => XS.iload X.here hx rfl (hb hby at_79) rfl k_) ?_
            refine own_via (T' := T) (g' := (mkF m 84 #[.val (.int p0), .val (.int p1), .val (.int p2), .val (.ref wGREATER_OR_EQUAL), .val (.int ng), .val (.int ps), .val (.int (1 : Int32)), .val (.int (1 : Int32)), .val (.int (1 : Int32)), .val (.int (1 : Int32))] [])) (fun t_ k_ => XS.icmpNo X.here hx rfl (hb hby at_81) rfl (teq (by decide : (1 : Int32) = (1 : Int32))).2 k_) ?_
            refine own_via (T' := T) (g' := (mkF m 86 #[.val (.int p0), .val (.int p1), .val (.int p2), .val (.ref wGREATER_OR_EQUAL), .val (.int ng), .val (.int ps), .val (.int (1 : Int32)), .val (.int (1 : Int32)), .val (.int (1 : Int32)), .val (.int (1 : Int32))] [(.int (1 : Int32))])) (fun t_ k_ => XS.iload X.here hx rfl (hb hby at_84) rfl k_) ?_
            refine own_via (T' := T) (g' := (mkF m 88 #[.val (.int p0), .val (.int p1), .val (.int p2), .val (.ref wGREATER_OR_EQUAL), .val (.int ng), .val (.int ps), .val (.int (1 : Int32)), .val (.int (1 : Int32)), .val (.int (1 : Int32)), .val (.int (1 : Int32))] [(.int (1 : Int32)), (.int (1 : Int32))])) (fun t_ k_ => XS.iload X.here hx rfl (hb hby at_86) rfl k_) ?_
            refine own_via (T' := T) (g' := (mkF m 91 #[.val (.int p0), .val (.int p1), .val (.int p2), .val (.ref wGREATER_OR_EQUAL), .val (.int ng), .val (.int ps), .val (.int (1 : Int32)), .val (.int (1 : Int32)), .val (.int (1 : Int32)), .val (.int (1 : Int32))] [])) (fun t_ k_ => XS.icmpNo X.here hx rfl (hb hby at_88) rfl (teq (by decide : (1 : Int32) = (1 : Int32))).2 k_) ?_
            refine own_via (T' := T) (g' := (mkF m 93 #[.val (.int p0), .val (.int p1), .val (.int p2), .val (.ref wGREATER_OR_EQUAL), .val (.int ng), .val (.int ps), .val (.int (1 : Int32)), .val (.int (1 : Int32)), .val (.int (1 : Int32)), .val (.int (1 : Int32))] [(.int (1 : Int32))])) (fun t_ k_ => XS.iload X.here hx rfl (hb hby at_91) rfl k_) ?_
            refine own_via (T' := T) (g' := (mkF m 95 #[.val (.int p0), .val (.int p1), .val (.int p2), .val (.ref wGREATER_OR_EQUAL), .val (.int ng), .val (.int ps), .val (.int (1 : Int32)), .val (.int (1 : Int32)), .val (.int (1 : Int32)), .val (.int (1 : Int32))] [(.int (1 : Int32)), (.int (1 : Int32))])) (fun t_ k_ => XS.iload X.here hx rfl (hb hby at_93) rfl k_) ?_
            refine own_via (T' := T) (g' := (mkF m 98 #[.val (.int p0), .val (.int p1), .val (.int p2), .val (.ref wGREATER_OR_EQUAL), .val (.int ng), .val (.int ps), .val (.int (1 : Int32)), .val (.int (1 : Int32)), .val (.int (1 : Int32)), .val (.int (1 : Int32))] [])) (fun t_ k_ => XS.icmpNo X.here hx rfl (hb hby at_95) rfl (teq (by decide : (1 : Int32) = (1 : Int32))).2 k_) ?_
            refine own_via (T' := T) (g' := (mkF m 99 #[.val (.int p0), .val (.int p1), .val (.int p2), .val (.ref wGREATER_OR_EQUAL), .val (.int ng), .val (.int ps), .val (.int (1 : Int32)), .val (.int (1 : Int32)), .val (.int (1 : Int32)), .val (.int (1 : Int32))] [(.int (1 : Int32))])) (fun t_ k_ => XS.iconst X.here hx rfl (hb hby at_98) k_) ?_
            refine own_via (T' := T) (g' := (mkF m 103 #[.val (.int p0), .val (.int p1), .val (.int p2), .val (.ref wGREATER_OR_EQUAL), .val (.int ng), .val (.int ps), .val (.int (1 : Int32)), .val (.int (1 : Int32)), .val (.int (1 : Int32)), .val (.int (1 : Int32))] [(.int (1 : Int32))])) (fun t_ k_ => XS.goto X.here hx rfl (pc0 := 99) (pc' := 103) rfl (hb hby at_99) (by decide) (by decide) k_) ?_
            refine own_retN X hx hlk (t := .boolean) Bd.returns (by simp) (hb hby at_103) (by decide) (by decide) ?_
            rw [eT]
            exact ⟨rfl, N, trivial⟩
set_option maxRecDepth 65536 in
set_option maxHeartbeats 40000000 in
theorem comes_1 {Post : Tables → Env → Array Value → State → Outcome → State → Prop} (hpost : ∀ tb e args s v u, (limb_1_1.after args s (.returned v) u = true ∧ limb_1_2.after args s (.returned v) u = true ∧ True) → FrameEnd s (.returned v) u (Jvm.fieldLocs frame_1_writes args s ++ Jvm.arrayLocs frame_1_arrays args s ++ Jvm.staticLocs frame_1_statics s) 0 0 → Post tb e args s (.returned v) u) :
    ArmFor flags0 classFile x code maxLocals ret World_1 tables_1 room_1 Calls_1 rest_1 Pre_1 Post := by
  intro l hfl _ _ p e ha hc hk s m args below hf hA hF happ hP
  obtain ⟨hcalls, hrest, hpre⟩ := hP
  obtain ⟨-, -, -, hnamed, -, -, -, hat⟩ := (Spec.applies_iff hf).mp happ
  obtain ⟨hg, hn⟩ := and_e (Cond.before_iff.mp (show (Jvm.Cond.and given_1 narrow_1).before args s = true from hpre))
  obtain ⟨hcount, hg1⟩ := and_e hg
  obtain ⟨hv0, hg2⟩ := and_e hg1
  obtain ⟨hv1, hg3⟩ := and_e hg2
  obtain ⟨w0, w1, w2, rfl⟩ : ∃ w0 w1 w2 : Value, args = #[w0, w1, w2] := by
    have hs : args.size = 3 := by simpa [Cond.value, given_1] using hcount
    obtain ⟨L⟩ := args
    match L, hs with
    | [w0, w1, w2], _ => exact ⟨w0, w1, w2, rfl⟩
  have hw := fun d (hd : d ∈ tables_1) => atoms_spec (ws := Jvm.Cond.code x code maxLocals ret :: tables_1) hat d (List.mem_cons_of_mem _ hd)
  have hfit : Fit s := fun {y c} hc i hi => by
    obtain ⟨ha, rfl⟩ := Array.getElem?_eq_some_iff.mp hc
    have q := List.all_eq_true.mp ((Array.all_eq_true_iff_forall_mem.mp hF) _ (Array.getElem_mem ha)) i (List.mem_range.mpr hi)
    simpa [Array.getElem?_eq_getElem hi] using q
  obtain ⟨i0, ei0⟩ := is_v hv0
  obtain rfl : w0 = (.int i0) := Option.some.inj ei0
  obtain ⟨i1, ei1⟩ := is_v hv1
  obtain rfl : w1 = (.int i1) := Option.some.inj ei1
  obtain ⟨i2, ei2⟩ := is_v hg3
  obtain rfl : w2 = (.int i2) := Option.some.inj ei2
  obtain ⟨nn1, nn2⟩ := and_e hn
  obtain ⟨nn3, nn4⟩ := and_e nn2
  obtain ⟨nn5, nn6⟩ := and_e nn4
  obtain ⟨nn7, nn8⟩ := and_e nn6
  obtain ⟨nn9, nn10⟩ := and_e nn8
  obtain ⟨nn11, nn12⟩ := and_e nn10
  obtain ⟨nn13, nn14⟩ := and_e nn12
  obtain ⟨nn15, nn16⟩ := and_e nn14
  obtain ⟨nn17, nn18⟩ := and_e nn16
  obtain ⟨nn19, nn20⟩ := and_e nn18
  obtain ⟨nn21, nn22⟩ := and_e nn20
  obtain ⟨wEQUAL, evEQUAL⟩ := exa_v nn1
  have E_EQUAL := Exa.start evEQUAL nn1
  have S_EQUAL := Sta.start evEQUAL (Or.inr ⟨(hw _ (List.mem_of_getElem? (i := 6) rfl)), (hw _ (List.mem_of_getElem? (i := 7) rfl))⟩)
  obtain ⟨wNOT_EQUAL, evNOT_EQUAL⟩ := exa_v nn5
  have E_NOT_EQUAL := Exa.start evNOT_EQUAL nn5
  have S_NOT_EQUAL := Sta.start evNOT_EQUAL (Or.inr ⟨(hw _ (List.mem_of_getElem? (i := 6) rfl)), (hw _ (List.mem_of_getElem? (i := 40) rfl))⟩)
  obtain ⟨wLESS, evLESS⟩ := exa_v nn9
  have E_LESS := Exa.start evLESS nn9
  have S_LESS := Sta.start evLESS (Or.inr ⟨(hw _ (List.mem_of_getElem? (i := 6) rfl)), (hw _ (List.mem_of_getElem? (i := 43) rfl))⟩)
  obtain ⟨wGREATER, evGREATER⟩ := exa_v nn13
  have E_GREATER := Exa.start evGREATER nn13
  have S_GREATER := Sta.start evGREATER (Or.inr ⟨(hw _ (List.mem_of_getElem? (i := 6) rfl)), (hw _ (List.mem_of_getElem? (i := 45) rfl))⟩)
  obtain ⟨wGREATER_OR_EQUAL, evGREATER_OR_EQUAL⟩ := exa_v nn17
  have E_GREATER_OR_EQUAL := Exa.start evGREATER_OR_EQUAL nn17
  have S_GREATER_OR_EQUAL := Sta.start evGREATER_OR_EQUAL (Or.inr ⟨(hw _ (List.mem_of_getElem? (i := 6) rfl)), (hw _ (List.mem_of_getElem? (i := 47) rfl))⟩)
  obtain ⟨wLESS_OR_EQUAL, evLESS_OR_EQUAL⟩ := exa_v nn21
  have E_LESS_OR_EQUAL := Exa.start evLESS_OR_EQUAL nn21
  have S_LESS_OR_EQUAL := Sta.start evLESS_OR_EQUAL (Or.inr ⟨(hw _ (List.mem_of_getElem? (i := 6) rfl)), (hw _ (List.mem_of_getElem? (i := 50) rfl))⟩)
  have F_EQUAL := Fld.start ((fld_at evEQUAL).symm.trans (own_eqI nn3))
  have F_NOT_EQUAL := Fld.start ((fld_at evNOT_EQUAL).symm.trans (own_eqI nn7))
  have F_LESS := Fld.start ((fld_at evLESS).symm.trans (own_eqI nn11))
  have F_GREATER := Fld.start ((fld_at evGREATER).symm.trans (own_eqI nn15))
  have F_GREATER_OR_EQUAL := Fld.start ((fld_at evGREATER_OR_EQUAL).symm.trans (own_eqI nn19))
  have F_LESS_OR_EQUAL := Fld.start ((fld_at evLESS_OR_EQUAL).symm.trans (own_eqI nn22))
  have ne_0_1 := Fld.ne F_EQUAL F_NOT_EQUAL (by decide)
  have ne_0_2 := Fld.ne F_EQUAL F_LESS (by decide)
  have ne_0_3 := Fld.ne F_EQUAL F_LESS_OR_EQUAL (by decide)
  have ne_0_4 := Fld.ne F_EQUAL F_GREATER (by decide)
  have ne_0_5 := Fld.ne F_EQUAL F_GREATER_OR_EQUAL (by decide)
  have ne_1_0 := Fld.ne F_NOT_EQUAL F_EQUAL (by decide)
  have ne_1_2 := Fld.ne F_NOT_EQUAL F_LESS (by decide)
  have ne_1_3 := Fld.ne F_NOT_EQUAL F_LESS_OR_EQUAL (by decide)
  have ne_1_4 := Fld.ne F_NOT_EQUAL F_GREATER (by decide)
  have ne_1_5 := Fld.ne F_NOT_EQUAL F_GREATER_OR_EQUAL (by decide)
  have ne_2_0 := Fld.ne F_LESS F_EQUAL (by decide)
  have ne_2_1 := Fld.ne F_LESS F_NOT_EQUAL (by decide)
  have ne_2_3 := Fld.ne F_LESS F_LESS_OR_EQUAL (by decide)
  have ne_2_4 := Fld.ne F_LESS F_GREATER (by decide)
  have ne_2_5 := Fld.ne F_LESS F_GREATER_OR_EQUAL (by decide)
  have ne_3_0 := Fld.ne F_LESS_OR_EQUAL F_EQUAL (by decide)
  have ne_3_1 := Fld.ne F_LESS_OR_EQUAL F_NOT_EQUAL (by decide)
  have ne_3_2 := Fld.ne F_LESS_OR_EQUAL F_LESS (by decide)
  have ne_3_4 := Fld.ne F_LESS_OR_EQUAL F_GREATER (by decide)
  have ne_3_5 := Fld.ne F_LESS_OR_EQUAL F_GREATER_OR_EQUAL (by decide)
  have ne_4_0 := Fld.ne F_GREATER F_EQUAL (by decide)
  have ne_4_1 := Fld.ne F_GREATER F_NOT_EQUAL (by decide)
  have ne_4_2 := Fld.ne F_GREATER F_LESS (by decide)
  have ne_4_3 := Fld.ne F_GREATER F_LESS_OR_EQUAL (by decide)
  have ne_4_5 := Fld.ne F_GREATER F_GREATER_OR_EQUAL (by decide)
  have ne_5_0 := Fld.ne F_GREATER_OR_EQUAL F_EQUAL (by decide)
  have ne_5_1 := Fld.ne F_GREATER_OR_EQUAL F_NOT_EQUAL (by decide)
  have ne_5_2 := Fld.ne F_GREATER_OR_EQUAL F_LESS (by decide)
  have ne_5_3 := Fld.ne F_GREATER_OR_EQUAL F_LESS_OR_EQUAL (by decide)
  have ne_5_4 := Fld.ne F_GREATER_OR_EQUAL F_GREATER (by decide)
  obtain ⟨n, o, h1, h2, h3, _, L, rfl, ⟨rfl, N, -⟩, hq⟩ := own_law l s _ hw tables_1 i0 i1 i2 wEQUAL wNOT_EQUAL wLESS wLESS_OR_EQUAL wGREATER wGREATER_OR_EQUAL s.heap s.heap.size (Old.start s) S_EQUAL S_NOT_EQUAL S_LESS S_LESS_OR_EQUAL S_GREATER S_GREATER_OR_EQUAL E_EQUAL E_NOT_EQUAL E_LESS E_LESS_OR_EQUAL E_GREATER E_GREATER_OR_EQUAL F_EQUAL F_NOT_EQUAL F_LESS F_LESS_OR_EQUAL F_GREATER F_GREATER_OR_EQUAL ne_0_1 ne_0_2 ne_0_3 ne_0_4 ne_0_5 ne_1_0 ne_1_2 ne_1_3 ne_1_4 ne_1_5 ne_2_0 ne_2_1 ne_2_3 ne_2_4 ne_2_5 ne_3_0 ne_3_1 ne_3_2 ne_3_4 ne_3_5 ne_4_0 ne_4_1 ne_4_2 ne_4_3 ne_4_5 ne_5_0 ne_5_1 ne_5_2 ne_5_3 ne_5_4 p e ha hc hk s m _ below hf ((Spec.applies_iff_loose hf).mp happ).1 ⟨rfl, State.Warmed39.refl s, rfl⟩ trivial
  refine ⟨n, _, h1, h2, h3, hpost _ _ _ _ _ _ ⟨Cond.after_iff.mpr rfl, Cond.after_iff.mpr (eq_i res_at (Term.int_eval (1)) rfl), trivial⟩ ⟨hq.1, hq.2.1, (hq.2.2.sift fun y hy => Or.inr (N y hy)).mono (by decide) (by decide)⟩⟩
theorem main_1_1 : Claimed_1_1 := comes_1 fun _ _ _ _ _ _ h hF => ⟨h.1, hF⟩
theorem main_1_2 : Claimed_1_2 := comes_1 fun _ _ _ _ _ _ h hF => ⟨h.2.1, hF⟩
end Jvm.Pilot.@@N@@
namespace Jvm.Pilot.@@N@@
open Jvm Jvm.ClassFile Sem Op Lib Jvm.Free Jvm.Stand Jvm.Pilot.@@N@@.Jvm.D
/-! MADE BY PROGRAM (witnessworld.py) out of the Statement's table words and the real class files: 12 classes; the members and pool entries that the words name. The judged class is class 1, her method 2. -/
namespace start1
open Jvm.ClassFile
def u (s : String) : CpInfo := .utf8 (stringToUtf16 s)
/-- a pool by its gaps: so many unusable entries, then the entry; so many at the end -/
def gap : Nat → List CpInfo → List CpInfo
  | 0, r => r
  | n + 1, r => .unusable :: gap n r
def poolList (es : List (Nat × CpInfo)) (last : Nat) : List CpInfo := es.foldr (fun e r => gap e.1 (e.2 :: r)) (gap last [])
def pool (es : List (Nat × CpInfo)) (last : Nat) : Array CpInfo := ⟨poolList es last⟩
def fileOf (pool : Array CpInfo) (this : Nat) (attrs : Array Attribute := #[]) (ms : Array MethodInfo := #[]) (fl : Nat := 33) (sup : Nat := 0) (ifs : Array Nat := #[]) (fds : Array FieldInfo := #[]) : ClassFile where
  minorVersion := 0
  majorVersion := 65
  constantPool := pool
  accessFlags := fl
  thisClass := this
  superClass := sup
  interfaces := ifs
  fields := fds
  methods := ms
  attributes := attrs
def plain (name : String) (sup : Option ClassId) : Class where
  name := name
  kind := .ordinary
  loader := none
  accessFlags := 33
  super := sup
  interfaces := #[]
  cf := none
  fields := #[]
  methods := #[]
  instanceTypes := #[]
  staticTypes := #[]
  resolved := #[]
  callSites := []
  init := .initialized
  statics := none
  mirror := none

def pool0 : Array CpInfo := pool [(5, u "<init>"), (0, u "()V"), (1, .class_ 10), (1, u "java/lang/Object")] 113

def k0m0 : Method := { name := "<init>", desc := "()V", sig := { parameters := [], returnType := none }, accessFlags := 1, code := none }
/-- java/lang/Object -/
def k0 : Class := { plain "java/lang/Object" none with
  accessFlags := 33
  interfaces := #[]
  cf := some (fileOf pool0 8 #[] #[{ accessFlags := 1, nameIndex := 5, descriptorIndex := 6, attributes := #[] }] 33 0 #[] #[])
  fields := #[]
  methods := #[k0m0]
  instanceTypes := #[]
  staticTypes := #[]
  resolved := Array.replicate 124 none
  statics := none }

def pool1 : Array CpInfo := pool [(2, .class_ 4), (1, u "java/lang/Object"), (0, u "<init>"), (0, u "()V"), (0, .fieldref 8 9), (0, .class_ 10), (0, .nameAndType 11 12), (0, u "com/example/polyquery/polyquery/catalog/Comparison$Operator"), (0, u "EQUAL"), (0, u "Lcom/example/polyquery/polyquery/catalog/Comparison$Operator;"), (0, .fieldref 8 14), (0, .nameAndType 15 12), (0, u "NOT_EQUAL"), (0, .fieldref 8 17), (0, .nameAndType 18 12), (0, u "LESS"), (0, .fieldref 8 20), (0, .nameAndType 21 12), (0, u "LESS_OR_EQUAL"), (0, .fieldref 8 23), (0, .nameAndType 24 12), (0, u "GREATER"), (0, .fieldref 8 26), (0, .nameAndType 27 12), (0, u "GREATER_OR_EQUAL"), (0, .integer 2147483647), (0, .methodref 30 31), (0, .class_ 32), (0, .nameAndType 33 34), (0, u "com/example/polyquery/polyquery/catalog/OperatorIsOrderPinLaw"), (0, u "pick"), (0, u "(I)Lcom/example/polyquery/polyquery/catalog/Comparison$Operator;"), (2, .integer 2147483648), (0, .methodref 8 39), (0, .nameAndType 40 41), (0, u "isOrder"), (0, u "()Z"), (0, .methodref 8 43), (0, .nameAndType 44 45), (0, u "holds"), (0, u "(I)Z"), (0, .methodref 8 47), (0, .nameAndType 48 49), (0, u "swapped"), (0, u "()Lcom/example/polyquery/polyquery/catalog/Comparison$Operator;"), (0, .methodref 8 51), (0, .nameAndType 52 49), (0, u "negated"), (3, u "law"), (0, u "(III)Z")] 6

def k1m0 : Method := { name := "<init>", desc := "()V", sig := { parameters := [], returnType := none }, accessFlags := 2, code := none }
def k1c1 : Code := { maxStack := 2, maxLocals := 1, code := method_2_code, exceptionTable := #[], attributes := #[] }
def k1m1 : Method := { name := "pick", desc := "(I)Lcom/example/polyquery/polyquery/catalog/Comparison$Operator;", sig := { parameters := [.int], returnType := some (.object "com/example/polyquery/polyquery/catalog/Comparison$Operator") }, accessFlags := 10, code := some k1c1 }
def k1c2 : Code := { maxStack := 3, maxLocals := 10, code := code, exceptionTable := #[], attributes := #[] }
def k1m2 : Method := { name := "law", desc := "(III)Z", sig := { parameters := [.int, .int, .int], returnType := some .boolean }, accessFlags := 9, code := some k1c2 }
/-- com/example/polyquery/polyquery/catalog/OperatorIsOrderPinLaw -/
def k1 : Class := { plain "com/example/polyquery/polyquery/catalog/OperatorIsOrderPinLaw" (some 0) with
  accessFlags := 49
  interfaces := #[]
  cf := some (fileOf pool1 30 #[] #[{ accessFlags := 2, nameIndex := 5, descriptorIndex := 6, attributes := #[] }, { accessFlags := 10, nameIndex := 33, descriptorIndex := 34, attributes := #[] }, { accessFlags := 9, nameIndex := 56, descriptorIndex := 57, attributes := #[] }] 49 2 #[] #[])
  fields := #[]
  methods := #[k1m0, k1m1, k1m2]
  instanceTypes := #[]
  staticTypes := #[]
  resolved := Array.replicate 64 none
  statics := none }

def pool2 : Array CpInfo := pool [(1, .class_ 2), (0, u "java/lang/constant/Constable"), (0, .class_ 4), (0, u "java/lang/Object")] 6

/-- java/lang/constant/Constable -/
def k2 : Class := { plain "java/lang/constant/Constable" (some 0) with
  accessFlags := 1537
  interfaces := #[]
  cf := some (fileOf pool2 1 #[] #[] 1537 3 #[] #[])
  fields := #[]
  methods := #[]
  instanceTypes := #[]
  staticTypes := #[]
  resolved := Array.replicate 11 none
  statics := none }

def pool3 : Array CpInfo := pool [(1, .class_ 2), (0, u "java/lang/Comparable"), (0, .class_ 4), (0, u "java/lang/Object")] 7

/-- java/lang/Comparable -/
def k3 : Class := { plain "java/lang/Comparable" (some 0) with
  accessFlags := 1537
  interfaces := #[]
  cf := some (fileOf pool3 1 #[] #[] 1537 3 #[] #[])
  fields := #[]
  methods := #[]
  instanceTypes := #[]
  staticTypes := #[]
  resolved := Array.replicate 12 none
  statics := none }

def pool4 : Array CpInfo := pool [(1, .class_ 2), (0, u "java/io/Serializable"), (0, .class_ 4), (0, u "java/lang/Object")] 2

/-- java/io/Serializable -/
def k4 : Class := { plain "java/io/Serializable" (some 0) with
  accessFlags := 1537
  interfaces := #[]
  cf := some (fileOf pool4 1 #[] #[] 1537 3 #[] #[])
  fields := #[]
  methods := #[]
  instanceTypes := #[]
  staticTypes := #[]
  resolved := Array.replicate 7 none
  statics := none }

def pool5 : Array CpInfo := pool [(2, .class_ 4), (1, u "java/lang/Enum"), (0, u "name"), (0, u "Ljava/lang/String;"), (0, .fieldref 2 8), (0, .nameAndType 9 10), (0, u "ordinal"), (0, u "I"), (1, .class_ 14), (1, u "java/lang/Object"), (4, u "hash"), (86, .class_ 108), (1, u "java/lang/Enum$EnumDesc"), (2, .class_ 112), (0, u "java/lang/constant/Constable"), (0, .class_ 114), (0, u "java/lang/Comparable"), (0, .class_ 116), (0, u "java/io/Serializable"), (9, u "()I")] 77

def k5c0 : Code := { maxStack := 1, maxLocals := 1, code := jdk_37_method_2_code, exceptionTable := #[], attributes := #[] }
def k5m0 : Method := { name := "ordinal", desc := "()I", sig := { parameters := [], returnType := some .int }, accessFlags := 17, code := some k5c0 }
/-- java/lang/Enum -/
def k5 : Class := { plain "java/lang/Enum" (some 0) with
  accessFlags := 1057
  interfaces := #[2, 3, 4]
  cf := some (fileOf pool5 2 #[.nestMembers #[106]] #[{ accessFlags := 17, nameIndex := 9, descriptorIndex := 126, attributes := #[] }] 1057 12 #[111, 113, 115] #[{ accessFlags := 18, nameIndex := 5, descriptorIndex := 6, attributes := #[] }, { accessFlags := 18, nameIndex := 9, descriptorIndex := 10, attributes := #[] }, { accessFlags := 2, nameIndex := 19, descriptorIndex := 10, attributes := #[] }])
  fields := #[{ name := "name", type := (.object "java/lang/String"), accessFlags := 18, slot := 0, constantValue := 0 }, { name := "ordinal", type := .int, accessFlags := 18, slot := 1, constantValue := 0 }, { name := "hash", type := .int, accessFlags := 2, slot := 2, constantValue := 0 }]
  methods := #[k5m0]
  instanceTypes := #[(.object "java/lang/String"), .int, .int]
  staticTypes := #[]
  resolved := Array.replicate 204 none
  statics := none }

def pool6 : Array CpInfo := pool [(1, .class_ 2), (0, u "com/example/polyquery/polyquery/catalog/Comparison$Operator"), (0, .fieldref 1 4), (0, .nameAndType 5 6), (0, u "EQUAL"), (0, u "Lcom/example/polyquery/polyquery/catalog/Comparison$Operator;"), (0, .fieldref 1 8), (0, .nameAndType 9 6), (0, u "NOT_EQUAL"), (0, .fieldref 1 11), (0, .nameAndType 12 6), (0, u "LESS"), (0, .fieldref 1 14), (0, .nameAndType 15 6), (0, u "LESS_OR_EQUAL"), (0, .fieldref 1 17), (0, .nameAndType 18 6), (0, u "GREATER"), (0, .fieldref 1 20), (0, .nameAndType 21 6), (0, u "GREATER_OR_EQUAL"), (2, u "$VALUES"), (0, u "[Lcom/example/polyquery/polyquery/catalog/Comparison$Operator;"), (6, .class_ 34), (1, u "java/lang/Enum"), (8, u "symbol"), (0, u "Ljava/lang/String;"), (10, .methodref 1 56), (0, .nameAndType 57 58), (0, u "ordinal"), (0, u "()I"), (38, u "negated"), (0, u "()Lcom/example/polyquery/polyquery/catalog/Comparison$Operator;"), (0, u "swapped"), (0, u "isOrder"), (0, u "()Z"), (0, u "holds"), (0, u "(I)Z"), (6, .class_ 111), (0, u "com/example/polyquery/polyquery/catalog/Comparison")] 2

def k6c0 : Code := { maxStack := 4, maxLocals := 1, code := prog_8_method_6_code, exceptionTable := #[], attributes := #[] }
def k6m0 : Method := { name := "negated", desc := "()Lcom/example/polyquery/polyquery/catalog/Comparison$Operator;", sig := { parameters := [], returnType := some (.object "com/example/polyquery/polyquery/catalog/Comparison$Operator") }, accessFlags := 1, code := some k6c0 }
def k6c1 : Code := { maxStack := 4, maxLocals := 1, code := prog_8_method_7_code, exceptionTable := #[], attributes := #[] }
def k6m1 : Method := { name := "swapped", desc := "()Lcom/example/polyquery/polyquery/catalog/Comparison$Operator;", sig := { parameters := [], returnType := some (.object "com/example/polyquery/polyquery/catalog/Comparison$Operator") }, accessFlags := 1, code := some k6c1 }
def k6c2 : Code := { maxStack := 2, maxLocals := 1, code := prog_8_method_8_code, exceptionTable := #[], attributes := #[] }
def k6m2 : Method := { name := "isOrder", desc := "()Z", sig := { parameters := [], returnType := some .boolean }, accessFlags := 1, code := some k6c2 }
def k6c3 : Code := { maxStack := 4, maxLocals := 2, code := prog_8_method_9_code, exceptionTable := #[], attributes := #[] }
def k6m3 : Method := { name := "holds", desc := "(I)Z", sig := { parameters := [.int], returnType := some .boolean }, accessFlags := 0, code := some k6c3 }
/-- com/example/polyquery/polyquery/catalog/Comparison$Operator -/
def k6 : Class := { plain "com/example/polyquery/polyquery/catalog/Comparison$Operator" (some 5) with
  accessFlags := 16433
  interfaces := #[]
  cf := some (fileOf pool6 1 #[.nestHost 110] #[{ accessFlags := 1, nameIndex := 97, descriptorIndex := 98, attributes := #[] }, { accessFlags := 1, nameIndex := 99, descriptorIndex := 98, attributes := #[] }, { accessFlags := 1, nameIndex := 100, descriptorIndex := 101, attributes := #[] }, { accessFlags := 0, nameIndex := 102, descriptorIndex := 103, attributes := #[] }] 16433 32 #[] #[{ accessFlags := 16409, nameIndex := 5, descriptorIndex := 6, attributes := #[] }, { accessFlags := 16409, nameIndex := 9, descriptorIndex := 6, attributes := #[] }, { accessFlags := 16409, nameIndex := 12, descriptorIndex := 6, attributes := #[] }, { accessFlags := 16409, nameIndex := 15, descriptorIndex := 6, attributes := #[] }, { accessFlags := 16409, nameIndex := 18, descriptorIndex := 6, attributes := #[] }, { accessFlags := 16409, nameIndex := 21, descriptorIndex := 6, attributes := #[] }, { accessFlags := 18, nameIndex := 43, descriptorIndex := 44, attributes := #[] }, { accessFlags := 4122, nameIndex := 24, descriptorIndex := 25, attributes := #[] }])
  fields := #[{ name := "EQUAL", type := (.object "com/example/polyquery/polyquery/catalog/Comparison$Operator"), accessFlags := 16409, slot := 0, constantValue := 0 }, { name := "NOT_EQUAL", type := (.object "com/example/polyquery/polyquery/catalog/Comparison$Operator"), accessFlags := 16409, slot := 1, constantValue := 0 }, { name := "LESS", type := (.object "com/example/polyquery/polyquery/catalog/Comparison$Operator"), accessFlags := 16409, slot := 2, constantValue := 0 }, { name := "LESS_OR_EQUAL", type := (.object "com/example/polyquery/polyquery/catalog/Comparison$Operator"), accessFlags := 16409, slot := 3, constantValue := 0 }, { name := "GREATER", type := (.object "com/example/polyquery/polyquery/catalog/Comparison$Operator"), accessFlags := 16409, slot := 4, constantValue := 0 }, { name := "GREATER_OR_EQUAL", type := (.object "com/example/polyquery/polyquery/catalog/Comparison$Operator"), accessFlags := 16409, slot := 5, constantValue := 0 }, { name := "symbol", type := (.object "java/lang/String"), accessFlags := 18, slot := 3, constantValue := 0 }, { name := "$VALUES", type := (.array (.object "com/example/polyquery/polyquery/catalog/Comparison$Operator")), accessFlags := 4122, slot := 6, constantValue := 0 }]
  methods := #[k6m0, k6m1, k6m2, k6m3]
  instanceTypes := #[(.object "java/lang/String"), .int, .int, (.object "java/lang/String")]
  staticTypes := #[(.object "com/example/polyquery/polyquery/catalog/Comparison$Operator"), (.object "com/example/polyquery/polyquery/catalog/Comparison$Operator"), (.object "com/example/polyquery/polyquery/catalog/Comparison$Operator"), (.object "com/example/polyquery/polyquery/catalog/Comparison$Operator"), (.object "com/example/polyquery/polyquery/catalog/Comparison$Operator"), (.object "com/example/polyquery/polyquery/catalog/Comparison$Operator"), (.array (.object "com/example/polyquery/polyquery/catalog/Comparison$Operator"))]
  resolved := Array.replicate 114 none
  statics := some 0 }

def pool7 : Array CpInfo := pool [(1, u "java/lang/Cloneable"), (0, .class_ 1), (0, u "java/lang/Object"), (0, .class_ 3)] 3

/-- java/lang/Cloneable -/
def k7 : Class := { plain "java/lang/Cloneable" (some 0) with
  accessFlags := 1537
  interfaces := #[]
  cf := some (fileOf pool7 2 #[] #[] 1537 4 #[] #[])
  fields := #[]
  methods := #[]
  instanceTypes := #[]
  staticTypes := #[]
  resolved := Array.replicate 8 none
  statics := none }

/-- the primitive byte -/
def k8 : Class := { plain "byte" none with kind := .primitive 'B', accessFlags := 0x411 }
/-- [B -/
def k9 : Class := { plain "[B" (some 0) with kind := .array 8 .byte, interfaces := #[7, 4], accessFlags := 1041 }

/-- the primitive int -/
def k10 : Class := { plain "int" none with kind := .primitive 'I', accessFlags := 0x411 }
/-- [I -/
def k11 : Class := { plain "[I" (some 0) with kind := .array 10 .int, interfaces := #[7, 4], accessFlags := 1041 }

def heap : Heap := #[{ cls := 6, slots := #[.ref 1, .ref 2, .ref 3, .ref 4, .ref 5, .ref 6, .null], vm := .statics 6 },
  { cls := 6, slots := #[.null, .int 0, .int 0, .null], vm := .none },
  { cls := 6, slots := #[.null, .int 1, .int 0, .null], vm := .none },
  { cls := 6, slots := #[.null, .int 2, .int 0, .null], vm := .none },
  { cls := 6, slots := #[.null, .int 3, .int 0, .null], vm := .none },
  { cls := 6, slots := #[.null, .int 4, .int 0, .null], vm := .none },
  { cls := 6, slots := #[.null, .int 5, .int 0, .null], vm := .none }]
def classes : Array Class := #[k0, k1, k2, k3, k4, k5, k6, k7, k8, k9, k10, k11]
def interned : List (Array UInt16 × Addr) := []
def slotsUsed : Nat := 31
def theMethod : MethodId := ⟨1, 2⟩
def args0 : Array Value := #[.int 5, .int 3, .int 4]
def aboutOver (below : List Frame) : State where
  vm := { classes := classes, interned := interned.toArray }
  heap := heap
  slotsUsed := slotsUsed
  threads := #[{ frames := .invoking theMethod args0 :: below }]
def below0 : List Frame := [.native { method := ⟨0, 0⟩, args := #[] }]
def about1 : State := aboutOver below0
def p0 : Program := .bare "" "" ""
def e0 : Env := launch0.env 0 0 0
theorem w_frames : about1.frames = Frame.invoking theMethod args0 :: below0 := rfl
set_option maxRecDepth 65536 in
theorem w_args : argsFit about1.vm theMethod args0 = true := by decide +kernel
set_option maxRecDepth 65536 in
theorem w_heap : heapFits about1 = true := by decide +kernel
set_option maxRecDepth 65536 in
theorem w_runnable : about1.curStatus? = some .runnable := by decide +kernel
set_option maxRecDepth 65536 in
theorem w_alone : about1.alone = true := by decide +kernel
set_option maxRecDepth 65536 in
theorem w_named : about1.methodNamed? x = some theMethod := by decide +kernel
set_option maxRecDepth 65536 in
theorem w_hears : about1.hears theMethod below0 = true := by decide +kernel
set_option maxRecDepth 65536 in
theorem w_ripe : about1.ripe theMethod args0 below0 = true := by decide +kernel
theorem w_running : about1.status = .running := rfl
set_option maxRecDepth 65536 in
theorem w_room : about1.hasRoom e0.platform room_1 = true :=
  launch0.hasRoom_least _ room_1 (by decide +kernel) (by decide +kernel) (by decide +kernel) (by decide +kernel) (by decide +kernel) (by decide +kernel)
theorem allAtoms_all (ts : List Jvm.Cond) (a : Array Jvm.Value) (st : Jvm.State) : (allAtoms ts).before a st = ts.all (fun c => c.before a st) := by
  induction ts with
  | nil => rfl
  | cons c t ih =>
    show (Jvm.Cond.and c (allAtoms t)).before a st = _
    rw [Jvm.Cond.before_and, ih, List.all_cons]
def words1 : List Jvm.Cond := Jvm.Cond.code x code maxLocals ret :: tables_1
/-- a 'code' word, met by the world's own term for the bytes: nothing is compared byte by byte -/
theorem code_word {y : MethodName} {bytes : ByteArray} {mx : Nat} {rt : Option FieldType} {a : Array Value} {s : State} {m : MethodId} {meth : Method} {c : Code} (h1 : s.methodNamed? y = some m) (h2 : s.vm.method? m = some meth) (h3 : meth.code = some c) (h4 : c.code = bytes)
    (h5 : (c.maxLocals == mx && c.exceptionTable.isEmpty && decide (c.maxStack ≤ mostOperands) && decide (meth.sig.returnType = rt) && !meth.locks && decide (parseMethodDescriptor y.desc = some meth.sig)) = true) : (Jvm.Cond.code y bytes mx rt).before a s = true := by
  simp only [Bool.and_eq_true, beq_iff_eq, Bool.not_eq_true', decide_eq_true_eq] at h5
  obtain ⟨⟨⟨⟨⟨g1, g2⟩, g3⟩, g4⟩, g5⟩, g6⟩ := h5
  simp [Cond.before, Cond.holds, Cond.value, h1, h2, h3, h4, g1, g2, g3, g4, g5, g6]
def isCode : Jvm.Cond → Bool
  | .code _ _ _ _ => true
  | _ => false
theorem all_split {L : List Jvm.Cond} {P : Jvm.Cond → Bool} (h1 : L.all (fun c => isCode c || P c) = true) (h2 : ∀ c ∈ L.filter isCode, P c = true) : L.all P = true := by
  refine List.all_eq_true.mpr fun c hc => ?_
  have h := List.all_eq_true.mp h1 c hc
  rcases Bool.eq_false_or_eq_true (isCode c) with hi | hi
  · exact h2 c (List.mem_filter.mpr ⟨hc, hi⟩)
  · simpa [hi] using h
set_option maxRecDepth 65536 in
theorem w_c0 : (Jvm.Cond.code x code maxLocals ret).before args0 about1 = true := code_word (m := ⟨1, 2⟩) (meth := k1m2) (c := k1c2) (by decide +kernel) rfl rfl rfl (by decide +kernel)
set_option maxRecDepth 65536 in
theorem w_c1 : (Jvm.Cond.code ({ cls := "com/example/polyquery/polyquery/catalog/OperatorIsOrderPinLaw", name := "pick", desc := "(I)Lcom/example/polyquery/polyquery/catalog/Comparison$Operator;" } : Jvm.MethodName) method_2_code (1 : Nat) (Option.some (Jvm.ClassFile.FieldType.object "com/example/polyquery/polyquery/catalog/Comparison$Operator"))).before args0 about1 = true := code_word (m := ⟨1, 1⟩) (meth := k1m1) (c := k1c1) (by decide +kernel) rfl rfl rfl (by decide +kernel)
set_option maxRecDepth 65536 in
theorem w_c2 : (Jvm.Cond.code ({ cls := "com/example/polyquery/polyquery/catalog/Comparison$Operator", name := "isOrder", desc := "()Z" } : Jvm.MethodName) prog_8_method_8_code (1 : Nat) (Option.some Jvm.ClassFile.FieldType.boolean)).before args0 about1 = true := code_word (m := ⟨6, 2⟩) (meth := k6m2) (c := k6c2) (by decide +kernel) rfl rfl rfl (by decide +kernel)
set_option maxRecDepth 65536 in
theorem w_c3 : (Jvm.Cond.code ({ cls := "com/example/polyquery/polyquery/catalog/Comparison$Operator", name := "holds", desc := "(I)Z" } : Jvm.MethodName) prog_8_method_9_code (2 : Nat) (Option.some Jvm.ClassFile.FieldType.boolean)).before args0 about1 = true := code_word (m := ⟨6, 3⟩) (meth := k6m3) (c := k6c3) (by decide +kernel) rfl rfl rfl (by decide +kernel)
set_option maxRecDepth 65536 in
theorem w_c4 : (Jvm.Cond.code ({ cls := "java/lang/Enum", name := "ordinal", desc := "()I" } : Jvm.MethodName) jdk_37_method_2_code (1 : Nat) (Option.some Jvm.ClassFile.FieldType.int)).before args0 about1 = true := code_word (m := ⟨5, 0⟩) (meth := k5m0) (c := k5c0) (by decide +kernel) rfl rfl rfl (by decide +kernel)
set_option maxRecDepth 65536 in
theorem w_c5 : (Jvm.Cond.code ({ cls := "com/example/polyquery/polyquery/catalog/Comparison$Operator", name := "swapped", desc := "()Lcom/example/polyquery/polyquery/catalog/Comparison$Operator;" } : Jvm.MethodName) prog_8_method_7_code (1 : Nat) (Option.some (Jvm.ClassFile.FieldType.object "com/example/polyquery/polyquery/catalog/Comparison$Operator"))).before args0 about1 = true := code_word (m := ⟨6, 1⟩) (meth := k6m1) (c := k6c1) (by decide +kernel) rfl rfl rfl (by decide +kernel)
set_option maxRecDepth 65536 in
theorem w_c6 : (Jvm.Cond.code ({ cls := "com/example/polyquery/polyquery/catalog/Comparison$Operator", name := "negated", desc := "()Lcom/example/polyquery/polyquery/catalog/Comparison$Operator;" } : Jvm.MethodName) prog_8_method_6_code (1 : Nat) (Option.some (Jvm.ClassFile.FieldType.object "com/example/polyquery/polyquery/catalog/Comparison$Operator"))).before args0 about1 = true := code_word (m := ⟨6, 0⟩) (meth := k6m0) (c := k6c0) (by decide +kernel) rfl rfl rfl (by decide +kernel)
def codes1 : List Jvm.Cond := [Jvm.Cond.code x code maxLocals ret, Jvm.Cond.code ({ cls := "com/example/polyquery/polyquery/catalog/OperatorIsOrderPinLaw", name := "pick", desc := "(I)Lcom/example/polyquery/polyquery/catalog/Comparison$Operator;" } : Jvm.MethodName) method_2_code (1 : Nat) (Option.some (Jvm.ClassFile.FieldType.object "com/example/polyquery/polyquery/catalog/Comparison$Operator")), Jvm.Cond.code ({ cls := "com/example/polyquery/polyquery/catalog/Comparison$Operator", name := "isOrder", desc := "()Z" } : Jvm.MethodName) prog_8_method_8_code (1 : Nat) (Option.some Jvm.ClassFile.FieldType.boolean), Jvm.Cond.code ({ cls := "com/example/polyquery/polyquery/catalog/Comparison$Operator", name := "holds", desc := "(I)Z" } : Jvm.MethodName) prog_8_method_9_code (2 : Nat) (Option.some Jvm.ClassFile.FieldType.boolean), Jvm.Cond.code ({ cls := "java/lang/Enum", name := "ordinal", desc := "()I" } : Jvm.MethodName) jdk_37_method_2_code (1 : Nat) (Option.some Jvm.ClassFile.FieldType.int), Jvm.Cond.code ({ cls := "com/example/polyquery/polyquery/catalog/Comparison$Operator", name := "swapped", desc := "()Lcom/example/polyquery/polyquery/catalog/Comparison$Operator;" } : Jvm.MethodName) prog_8_method_7_code (1 : Nat) (Option.some (Jvm.ClassFile.FieldType.object "com/example/polyquery/polyquery/catalog/Comparison$Operator")), Jvm.Cond.code ({ cls := "com/example/polyquery/polyquery/catalog/Comparison$Operator", name := "negated", desc := "()Lcom/example/polyquery/polyquery/catalog/Comparison$Operator;" } : Jvm.MethodName) prog_8_method_6_code (1 : Nat) (Option.some (Jvm.ClassFile.FieldType.object "com/example/polyquery/polyquery/catalog/Comparison$Operator"))]
set_option maxRecDepth 65536 in
theorem codes_eq : words1.filter isCode = codes1 := rfl
theorem w_codes : ∀ c ∈ words1.filter isCode, c.before args0 about1 = true := by
  rw [codes_eq]
  intro c hc
  simp only [codes1, List.mem_cons, List.not_mem_nil, or_false] at hc
  rcases hc with rfl | rfl | rfl | rfl | rfl | rfl | rfl
  · exact w_c0
  · exact w_c1
  · exact w_c2
  · exact w_c3
  · exact w_c4
  · exact w_c5
  · exact w_c6
set_option maxRecDepth 65536 in
theorem w_t1 : (words1.take 24).all (fun c => isCode c || c.before args0 about1) = true := by decide +kernel
set_option maxRecDepth 65536 in
theorem w_t2 : ((words1.drop 24).take 24).all (fun c => isCode c || c.before args0 about1) = true := by decide +kernel
set_option maxRecDepth 65536 in
theorem w_t3 : ((words1.drop 24).drop 24).all (fun c => isCode c || c.before args0 about1) = true := by decide +kernel
theorem w_tables : (allAtoms (Jvm.Cond.code x code maxLocals ret :: tables_1)).before args0 about1 = true := by
  rw [allAtoms_all]
  show words1.all (fun c => c.before args0 about1) = true
  refine all_split ?_ w_codes
  rw [← List.take_append_drop 24 words1, List.all_append, w_t1, ← List.take_append_drop 24 (words1.drop 24), List.all_append, w_t2, w_t3]
  rfl
set_option maxRecDepth 65536 in
theorem w_case : (Jvm.Cond.and given_1 narrow_1).before args0 about1 = true := by decide +kernel
theorem w_applies : (headSpec (Jvm.Cond.code x code maxLocals ret :: tables_1) room_1).applies x e0.platform about1 = true :=
  (Spec.applies_iff w_frames).mpr ⟨w_running, w_runnable, w_alone, w_named, w_hears, w_ripe, w_room, w_tables⟩
theorem atStart : AtStart classFile x code maxLocals ret World_1 tables_1 room_1 Calls_1 rest_1 Pre_1 launch0 p0 e0 about1 theMethod args0 below0 :=
  ⟨lists_1, trivial, launch0.admits_env _ _ _, launch0.least_env, fairChoices_fair.cas, fairChoices_fair.clock, w_frames, w_args, w_heap, w_applies, trivial, trivial, w_case⟩
end start1
theorem witness_1 : WitnessClaimed_1 := ⟨start1.p0, start1.e0, start1.about1, start1.theMethod, start1.args0, start1.below0, start1.atStart⟩
end Jvm.Pilot.@@N@@
