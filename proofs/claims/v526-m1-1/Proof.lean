import JvmDerived
import JvmDerived.Pilot.@@N@@Statement
import JvmDerived.Pilot.@@N@@Code
set_option linter.unusedVariables false
set_option linter.unusedSimpArgs false

namespace Jvm.Pilot.@@N@@
open Jvm Jvm.ClassFile Sem Op Lib Jvm.Free Jvm.Stand Jvm.LawKit Jvm.RoadKit Bundle Jvm.Pilot.@@N@@.Jvm.D
section Own
variable {p : Program} {l : Launch} {e : Env} {R : Room} {s : State} {m : MethodId} {args : Array Value} {below : List Frame} {meth : Method} {c : Code} {T T' : State} {locs : List Loc} {cells slots : Nat} {g g' : JFrame} {P : State → Outcome → Prop}
/-- the run that stands at the frame g over T comes to an end of which P holds -/
def own_Ends (p : Program) (e : Env) (below : List Frame) (P : State → Outcome → Prop) (T : State) (g : JFrame) : Prop := ∃ u o, Steps p.tables e below (T.setTop g) u ∧ P u o
theorem own_via (st : ∀ t, Steps p.tables e below (T'.setTop g') t → Steps p.tables e below (T.setTop g) t) (k : own_Ends p e below P T' g') : own_Ends p e below P T g := by
  obtain ⟨a, b, c, d⟩ := k
  exact ⟨a, b, st _ c, d⟩
theorem own_viaT (st : Steps p.tables e below (T.setTop g) (T'.setTop g')) (k : own_Ends p e below P T' g') : own_Ends p e below P T g := own_via (fun _ k => st.trans k) k
def own_Post (s : State) (below : List Frame) (Q : Option Value → Heap → List Loc → Prop) (C S : Nat) : State → Outcome → Prop := fun u o => u.status = .running ∧ Ended u below o ∧ ∃ v L, o = .returned v ∧ Q v u.heap L ∧ FrameEnd s o u L C S
theorem own_leave (X : Stand p l e R s m args below meth c T locs cells slots) {v : Option Value} {Q : Option Value → Heap → List Loc → Prop} {C S : Nat} (hv : meth.sig.returnType = none → v = none) (hlk : meth.locks = false)
    (hst : ∀ fs, (∀ (f : JFrame) (acts : List Action), f.method = m → f.locked = none → f.entered = [] → (doReturn e (T.setTop f) acts v).1 = T.setFrames fs) → Steps p.tables e below (T.setTop g) (T.setFrames fs))
    (hC : cells ≤ C) (hS : slots ≤ S) (hQ : Q v T.heap locs) : own_Ends p e below (own_Post s below Q C S) T g := by
  obtain ⟨fs, hr, hrun, hended, hW, hsame⟩ := X.leave (v := v) hv hlk
  exact ⟨_, _, hst fs hr, hrun, hended, v, locs, rfl, hQ, ⟨_, rfl⟩, hW, hsame.mono hC hS⟩
theorem own_retV (X : Stand p l e R s m args below meth c T locs cells slots) (hx : p.tables.exec = Jvm.exec) (hlk : meth.locks = false) {Q : Option Value → Heap → List Loc → Prop} {C S : Nat} {pc : Nat} {Ls : Array Slot} (hret : meth.sig.returnType = none) (hd : decode c.code pc = .ok (.return_, 1))
    (hC : cells ≤ C) (hS : slots ≤ S) (hQ : Q none T.heap locs) : own_Ends p e below (own_Post s below Q C S) T (mkF m pc Ls []) :=
  own_leave X (fun _ => rfl) hlk (fun fs hr => X.returnOut hx hret hd hr) hC hS hQ
theorem own_retW (X : Stand p l e R s m args below meth c T locs cells slots) (hx : p.tables.exec = Jvm.exec) (hlk : meth.locks = false) {Q : Option Value → Heap → List Loc → Prop} {C S : Nat} {pc : Nat} {Ls : Array Slot} {w : Value} {t : FieldType} {i : Instr} {rest : List Value} (hret : meth.sig.returnType = some t) (hn : narrow t w = w)
    (hi : (i = .ireturn ∧ (t = .int ∨ t = .boolean ∨ t = .byte ∨ t = .char ∨ t = .short) ∧ ∃ z, w = .int z) ∨ (i = .lreturn ∧ t = .long ∧ ∃ z, w = .long z) ∨ (i = .dreturn ∧ t = .double ∧ ∃ z, w = .double z) ∨ (i = .freturn ∧ t = .float ∧ ∃ z, w = .float z) ∨ (i = .areturn ∧ t.isReference = true ∧ w.isRef = true))
    (hd : decode c.code pc = .ok (i, 1)) (hC : cells ≤ C) (hS : slots ≤ S) (hQ : Q (some w) T.heap locs) : own_Ends p e below (own_Post s below Q C S) T (mkF m pc Ls (w :: rest)) :=
  own_leave X (fun h => by rw [hret] at h; cases h) hlk (fun fs hr => retOut X hx hret hn hi hd hr) hC hS hQ
theorem own_retN (X : Stand p l e R s m args below meth c T locs cells slots) (hx : p.tables.exec = Jvm.exec) (hlk : meth.locks = false) {Q : Option Value → Heap → List Loc → Prop} {C S : Nat} {pc : Nat} {Ls : Array Slot} {z : Int32} {t : FieldType} {rest : List Value} (hret : meth.sig.returnType = some t) (ht : t = .boolean ∨ t = .byte ∨ t = .char ∨ t = .short)
    (hd : decode c.code pc = .ok (.ireturn, 1)) (hC : cells ≤ C) (hS : slots ≤ S) (hQ : Q (some (.int (nar t z))) T.heap locs) : own_Ends p e below (own_Post s below Q C S) T (mkF m pc Ls (.int z :: rest)) :=
  own_leave X (fun h => by rw [hret] at h; cases h) hlk (fun fs hr => retN X hx hret ht hd hr) hC hS hQ
theorem own_le {Z : State} {n0 : Nat} {h : Heap} (O : Old Z n0 h) : n0 ≤ h.size := O.1 ▸ O.2.1
theorem own_nb0 : nar .boolean 0 = 0 := rfl
theorem own_nb1 : nar .boolean 1 = 1 := rfl
theorem own_nb {b : Int32} (h : b = 0 ∨ b = 1) : nar .boolean b = b := by rcases h with rfl | rfl <;> rfl
end Own
theorem own_pd0 : parseMethodDescriptor "(I)Lcom/example/demarcate/demarcate/Attribute;" = some ⟨[.int], some (.object "com/example/demarcate/demarcate/Attribute")⟩ := by decide +kernel
theorem own_pd1 : parseMethodDescriptor "(IZ)Lcom/example/demarcate/demarcate/Attribute$Entry;" = some ⟨[.int, .boolean], some (.object "com/example/demarcate/demarcate/Attribute$Entry")⟩ := by decide +kernel
theorem own_pd2 : parseMethodDescriptor "(Z)Lcom/example/demarcate/demarcate/Attribute$Entry;" = some ⟨[.boolean], some (.object "com/example/demarcate/demarcate/Attribute$Entry")⟩ := by decide +kernel
section OwnWords
variable {args : Array Value} {first s : State} {o : Option Outcome} {idx : List Nat}
theorem own_eqI {a : Term} {k : Int32} (h : (Cond.eq a (.int k)).value args first o s idx = some true) : a.eval args first o idx s = some (.int k) := by
  simp only [Cond.value, Term.eval] at h
  cases ha : a.eval args first o idx s with
  | none => simp [ha] at h
  | some x => cases x <;> simp [ha] at h ⊢ <;> exact h
theorem own_eqR {a b : Term} {y : Addr} (h : (Cond.eq a b).value args first o s idx = some true) (hb : b.eval args first o idx s = some (.ref y)) : a.eval args first o idx s = some (.ref y) := by
  simp only [Cond.value, hb] at h
  cases ha : a.eval args first o idx s with
  | none => simp [ha] at h
  | some x => cases x <;> simp [ha] at h ⊢ <;> exact h
end OwnWords

def own_pickV (k : Int32) (wREQUIRED wREQUIRES_NEW wMANDATORY wNOT_SUPPORTED wNEVER wSUPPORTS wNESTED : Addr) : Addr := if k = 0 then wREQUIRED else if k = 1 then wREQUIRES_NEW else if k = 2 then wMANDATORY else if k = 3 then wNOT_SUPPORTED else if k = 4 then wNEVER else if k = 5 then wSUPPORTS else wNESTED
def own_expV (k b : Int32) (wJOIN wNEW_TRANSACTION wREFUSE wNO_TRANSACTION wSAVEPOINT : Addr) : Addr := if k = 0 then (if b = 0 then wNEW_TRANSACTION else wJOIN) else if k = 1 then (if b = 0 then wNEW_TRANSACTION else wNEW_TRANSACTION) else if k = 2 then (if b = 0 then wREFUSE else wJOIN) else if k = 3 then (if b = 0 then wNO_TRANSACTION else wNO_TRANSACTION) else if k = 4 then (if b = 0 then wNO_TRANSACTION else wREFUSE) else if k = 5 then (if b = 0 then wNO_TRANSACTION else wJOIN) else if b = 0 then wNEW_TRANSACTION else wSAVEPOINT
theorem own_pick_d0 : decode method_3_code 0 = .ok (.iload_n 0, 1) := by decide +kernel
theorem own_pick_d1 : decode method_3_code 1 = .ok (.ifCond .ne 7, 3) := by decide +kernel
theorem own_pick_d4 : decode method_3_code 4 = .ok (.getstatic 24, 3) := by decide +kernel
theorem own_pick_d7 : decode method_3_code 7 = .ok (.areturn, 1) := by decide +kernel
theorem own_pick_d8 : decode method_3_code 8 = .ok (.iload_n 0, 1) := by decide +kernel
theorem own_pick_d9 : decode method_3_code 9 = .ok (.iconst 1, 1) := by decide +kernel
theorem own_pick_d10 : decode method_3_code 10 = .ok (.if_icmp .ne 7, 3) := by decide +kernel
theorem own_pick_d13 : decode method_3_code 13 = .ok (.getstatic 28, 3) := by decide +kernel
theorem own_pick_d16 : decode method_3_code 16 = .ok (.areturn, 1) := by decide +kernel
theorem own_pick_d17 : decode method_3_code 17 = .ok (.iload_n 0, 1) := by decide +kernel
theorem own_pick_d18 : decode method_3_code 18 = .ok (.iconst 2, 1) := by decide +kernel
theorem own_pick_d19 : decode method_3_code 19 = .ok (.if_icmp .ne 7, 3) := by decide +kernel
theorem own_pick_d22 : decode method_3_code 22 = .ok (.getstatic 31, 3) := by decide +kernel
theorem own_pick_d25 : decode method_3_code 25 = .ok (.areturn, 1) := by decide +kernel
theorem own_pick_d26 : decode method_3_code 26 = .ok (.iload_n 0, 1) := by decide +kernel
theorem own_pick_d27 : decode method_3_code 27 = .ok (.iconst 3, 1) := by decide +kernel
theorem own_pick_d28 : decode method_3_code 28 = .ok (.if_icmp .ne 7, 3) := by decide +kernel
theorem own_pick_d31 : decode method_3_code 31 = .ok (.getstatic 34, 3) := by decide +kernel
theorem own_pick_d34 : decode method_3_code 34 = .ok (.areturn, 1) := by decide +kernel
theorem own_pick_d35 : decode method_3_code 35 = .ok (.iload_n 0, 1) := by decide +kernel
theorem own_pick_d36 : decode method_3_code 36 = .ok (.iconst 4, 1) := by decide +kernel
theorem own_pick_d37 : decode method_3_code 37 = .ok (.if_icmp .ne 7, 3) := by decide +kernel
theorem own_pick_d40 : decode method_3_code 40 = .ok (.getstatic 37, 3) := by decide +kernel
theorem own_pick_d43 : decode method_3_code 43 = .ok (.areturn, 1) := by decide +kernel
theorem own_pick_d44 : decode method_3_code 44 = .ok (.iload_n 0, 1) := by decide +kernel
theorem own_pick_d45 : decode method_3_code 45 = .ok (.iconst 5, 1) := by decide +kernel
theorem own_pick_d46 : decode method_3_code 46 = .ok (.if_icmp .ne 7, 3) := by decide +kernel
theorem own_pick_d49 : decode method_3_code 49 = .ok (.getstatic 40, 3) := by decide +kernel
theorem own_pick_d52 : decode method_3_code 52 = .ok (.areturn, 1) := by decide +kernel
theorem own_pick_d53 : decode method_3_code 53 = .ok (.getstatic 43, 3) := by decide +kernel
theorem own_pick_d56 : decode method_3_code 56 = .ok (.areturn, 1) := by decide +kernel
theorem own_pick_pn : plainFor (⟨"com/example/demarcate/demarcate/AttributeEntryPinLaw", "pick", "(I)Lcom/example/demarcate/demarcate/Attribute;"⟩ : MethodName) = true := by first | exact plainFor_of_name (by first | (simp [plainName, overriddenIn]; done) | decide +kernel) | decide +kernel
theorem own_pick_ef (m : MethodId) (x0 : Int32) : entryFrame m #[(.int x0)] 1 = mkF m 0 #[.val (.int x0)] [] := by first | (simp [entryFrame, mkF, argsToLocals, Value.category]; done) | rfl
def own_pick_Q (Z : State) (c1 : Int32) (wREQUIRED : Addr) (wREQUIRES_NEW : Addr) (wMANDATORY : Addr) (wNOT_SUPPORTED : Addr) (wNEVER : Addr) (wSUPPORTS : Addr) (wNESTED : Addr) (r : Addr) (h0 : Heap) (n0 : Nat) (v : Option Value) (h : Heap) (L : List Loc) : Prop := v = some (.ref r) ∧ Fr n0 L ∧ h = h0
set_option maxRecDepth 65536 in
set_option maxHeartbeats 40000000 in
theorem own_pick (l : Launch) (Z : State) (a0 : Array Value) (hw : ∀ d ∈ tables_1, d.before a0 Z = true) (ws : List Jvm.Cond) (c1 : Int32) (wREQUIRED : Addr) (wREQUIRES_NEW : Addr) (wMANDATORY : Addr) (wNOT_SUPPORTED : Addr) (wNEVER : Addr) (wSUPPORTS : Addr) (wNESTED : Addr) (r : Addr) (h0 : Heap) (n0 : Nat) (O : Old Z n0 h0) (S_REQUIRED : Sta Z Z.heap "com/example/demarcate/demarcate/Attribute" "REQUIRED" "Lcom/example/demarcate/demarcate/Attribute;" (.ref wREQUIRED)) (S_REQUIRES_NEW : Sta Z Z.heap "com/example/demarcate/demarcate/Attribute" "REQUIRES_NEW" "Lcom/example/demarcate/demarcate/Attribute;" (.ref wREQUIRES_NEW)) (S_MANDATORY : Sta Z Z.heap "com/example/demarcate/demarcate/Attribute" "MANDATORY" "Lcom/example/demarcate/demarcate/Attribute;" (.ref wMANDATORY)) (S_NOT_SUPPORTED : Sta Z Z.heap "com/example/demarcate/demarcate/Attribute" "NOT_SUPPORTED" "Lcom/example/demarcate/demarcate/Attribute;" (.ref wNOT_SUPPORTED)) (S_NEVER : Sta Z Z.heap "com/example/demarcate/demarcate/Attribute" "NEVER" "Lcom/example/demarcate/demarcate/Attribute;" (.ref wNEVER)) (S_SUPPORTS : Sta Z Z.heap "com/example/demarcate/demarcate/Attribute" "SUPPORTS" "Lcom/example/demarcate/demarcate/Attribute;" (.ref wSUPPORTS)) (S_NESTED : Sta Z Z.heap "com/example/demarcate/demarcate/Attribute" "NESTED" "Lcom/example/demarcate/demarcate/Attribute;" (.ref wNESTED)) (hr : r = own_pickV c1 wREQUIRED wREQUIRES_NEW wMANDATORY wNOT_SUPPORTED wNEVER wSUPPORTS wNESTED) :
    MetFree l (⟨"com/example/demarcate/demarcate/AttributeEntryPinLaw", "pick", "(I)Lcom/example/demarcate/demarcate/Attribute;"⟩ : MethodName) (head1 (Jvm.Cond.code (⟨"com/example/demarcate/demarcate/AttributeEntryPinLaw", "pick", "(I)Lcom/example/demarcate/demarcate/Attribute;"⟩ : MethodName) method_3_code 1 (some (.object "com/example/demarcate/demarcate/Attribute")) :: ws) ({ frames := 0, cells := 0, slots := 0, locals := 0 } : Room)) (fun a U => a = #[(.int c1)] ∧ Z.Warmed39 U.vm ∧ U.heap = h0) (fun _ _ _ _ _ => True) (fun _ U o U' => ∃ v L, o = .returned v ∧ own_pick_Q Z c1 wREQUIRED wREQUIRES_NEW wMANDATORY wNOT_SUPPORTED wNEVER wSUPPORTS wNESTED r h0 n0 v U'.heap L ∧ FrameEnd U o U' L ({ frames := 0, cells := 0, slots := 0, locals := 0 } : Room).cells ({ frames := 0, cells := 0, slots := 0, locals := 0 } : Room).slots) := by
  refine MetFree.of_bodySF own_pick_pn hisR ?_
  intro p e s m args below meth c s₁ Bd hml0 hP hK
  obtain ⟨rfl, hZ, hh⟩ := hP
  have hx := Bd.exec
  have hby := Bd.bytes
  have hlk := Bd.notSynchronized
  have hml : c.maxLocals = 1 := hml0
  have hown : s.vm.findClass "com/example/demarcate/demarcate/AttributeEntryPinLaw" = some m.cls := findClass_of_methodNamed Bd.named
  have hnm := (name_of_methodNamed Bd.named Bd.method).1
  have X : Stand p l e ({ frames := 0, cells := 0, slots := 0, locals := 0 } : Room) s m #[(.int c1)] below meth c s₁ [] 0 0 := Stand.of_body Bd
  have eT : s₁.heap = h0 := by rw [← hh, Bd.state]; rfl
  have N := Fr.nil n0
  have K0 := Keep.refl h0 []
  show own_Ends p e below (own_Post s below (own_pick_Q Z c1 wREQUIRED wREQUIRES_NEW wMANDATORY wNOT_SUPPORTED wNEVER wSUPPORTS wNESTED r h0 n0) ({ frames := 0, cells := 0, slots := 0, locals := 0 } : Room).cells ({ frames := 0, cells := 0, slots := 0, locals := 0 } : Room).slots) s₁ (entryFrame m #[(.int c1)] 1)
  rw [own_pick_ef m c1]
  obtain ⟨T, hT⟩ : ∃ z, z = s₁ := ⟨_, rfl⟩
  rw [← hT] at X eT ⊢
  obtain ⟨h, hh0⟩ : ∃ z, z = h0 := ⟨_, rfl⟩
  rw [← hh0] at eT
  replace O : Old Z n0 h := by rw [hh0]; exact O
  replace K0 : Keep h0 h [] := by rw [hh0]; exact K0
  refine own_via (T' := T) (g' := (mkF m 1 #[.val (.int c1)] [(.int c1)])) (fun t_ k_ => XS.iloadN X.here hx rfl (hb hby own_pick_d0) rfl k_) ?_
  by_cases hc1 : c1 = (0 : Int32)
  · refine own_via (T' := T) (g' := (mkF m 4 #[.val (.int c1)] [])) (fun t_ k_ => XS.ifNo X.here hx rfl (hb hby own_pick_d1) rfl ((if0 _ _).trans (teq hc1).2) k_) ?_
    obtain ⟨T, X, eT, st⟩ := getS2 X hx hZ hown (host := "") (Or.inl (hw _ (List.mem_of_getElem? (i := 5) rfl))) Via.refl eT (S_REQUIRED.ext O.2) (g := (mkF m 4 #[.val (.int c1)] [])) rfl (hb hby own_pick_d4)
    refine own_via (g' := (mkF m 7 #[.val (.int c1)] [(.ref wREQUIRED)])) st ?_
    refine own_retW X hx hlk Bd.returns rfl (Or.inr (Or.inr (Or.inr (Or.inr ⟨rfl, rfl, rfl⟩)))) (hb hby own_pick_d7) (by decide) (by decide) ?_
    rw [eT]
    exact ⟨by rw [hr]; simp [own_pickV, hc1], N, hh0⟩
  · refine own_via (T' := T) (g' := (mkF m 8 #[.val (.int c1)] [])) (fun t_ k_ => XS.ifYes X.here hx rfl (pc0 := 1) (pc' := 8) rfl (hb hby own_pick_d1) rfl ((if0 _ _).trans (feq hc1).2) (by decide) (by decide) k_) ?_
    refine own_via (T' := T) (g' := (mkF m 9 #[.val (.int c1)] [(.int c1)])) (fun t_ k_ => XS.iloadN X.here hx rfl (hb hby own_pick_d8) rfl k_) ?_
    refine own_via (T' := T) (g' := (mkF m 10 #[.val (.int c1)] [(.int (1 : Int32)), (.int c1)])) (fun t_ k_ => XS.iconst X.here hx rfl (hb hby own_pick_d9) k_) ?_
    by_cases hc2 : c1 = (1 : Int32)
    · refine own_via (T' := T) (g' := (mkF m 13 #[.val (.int c1)] [])) (fun t_ k_ => XS.icmpNo X.here hx rfl (hb hby own_pick_d10) rfl (teq hc2).2 k_) ?_
      obtain ⟨T, X, eT, st⟩ := getS2 X hx hZ hown (host := "") (Or.inl (hw _ (List.mem_of_getElem? (i := 25) rfl))) Via.refl eT (S_REQUIRES_NEW.ext O.2) (g := (mkF m 13 #[.val (.int c1)] [])) rfl (hb hby own_pick_d13)
      refine own_via (g' := (mkF m 16 #[.val (.int c1)] [(.ref wREQUIRES_NEW)])) st ?_
      refine own_retW X hx hlk Bd.returns rfl (Or.inr (Or.inr (Or.inr (Or.inr ⟨rfl, rfl, rfl⟩)))) (hb hby own_pick_d16) (by decide) (by decide) ?_
      rw [eT]
      exact ⟨by rw [hr]; simp [own_pickV, hc1, hc2], N, hh0⟩
    · refine own_via (T' := T) (g' := (mkF m 17 #[.val (.int c1)] [])) (fun t_ k_ => XS.icmpYes X.here hx rfl (pc0 := 10) (pc' := 17) rfl (hb hby own_pick_d10) rfl (feq hc2).2 (by decide) (by decide) k_) ?_
      refine own_via (T' := T) (g' := (mkF m 18 #[.val (.int c1)] [(.int c1)])) (fun t_ k_ => XS.iloadN X.here hx rfl (hb hby own_pick_d17) rfl k_) ?_
      refine own_via (T' := T) (g' := (mkF m 19 #[.val (.int c1)] [(.int (2 : Int32)), (.int c1)])) (fun t_ k_ => XS.iconst X.here hx rfl (hb hby own_pick_d18) k_) ?_
      by_cases hc3 : c1 = (2 : Int32)
      · refine own_via (T' := T) (g' := (mkF m 22 #[.val (.int c1)] [])) (fun t_ k_ => XS.icmpNo X.here hx rfl (hb hby own_pick_d19) rfl (teq hc3).2 k_) ?_
        obtain ⟨T, X, eT, st⟩ := getS2 X hx hZ hown (host := "") (Or.inl (hw _ (List.mem_of_getElem? (i := 39) rfl))) Via.refl eT (S_MANDATORY.ext O.2) (g := (mkF m 22 #[.val (.int c1)] [])) rfl (hb hby own_pick_d22)
        refine own_via (g' := (mkF m 25 #[.val (.int c1)] [(.ref wMANDATORY)])) st ?_
        refine own_retW X hx hlk Bd.returns rfl (Or.inr (Or.inr (Or.inr (Or.inr ⟨rfl, rfl, rfl⟩)))) (hb hby own_pick_d25) (by decide) (by decide) ?_
        rw [eT]
        exact ⟨by rw [hr]; simp [own_pickV, hc1, hc2, hc3], N, hh0⟩
      · refine own_via (T' := T) (g' := (mkF m 26 #[.val (.int c1)] [])) (fun t_ k_ => XS.icmpYes X.here hx rfl (pc0 := 19) (pc' := 26) rfl (hb hby own_pick_d19) rfl (feq hc3).2 (by decide) (by decide) k_) ?_
        refine own_via (T' := T) (g' := (mkF m 27 #[.val (.int c1)] [(.int c1)])) (fun t_ k_ => XS.iloadN X.here hx rfl (hb hby own_pick_d26) rfl k_) ?_
        refine own_via (T' := T) (g' := (mkF m 28 #[.val (.int c1)] [(.int (3 : Int32)), (.int c1)])) (fun t_ k_ => XS.iconst X.here hx rfl (hb hby own_pick_d27) k_) ?_
        by_cases hc4 : c1 = (3 : Int32)
        · refine own_via (T' := T) (g' := (mkF m 31 #[.val (.int c1)] [])) (fun t_ k_ => XS.icmpNo X.here hx rfl (hb hby own_pick_d28) rfl (teq hc4).2 k_) ?_
          obtain ⟨T, X, eT, st⟩ := getS2 X hx hZ hown (host := "") (Or.inl (hw _ (List.mem_of_getElem? (i := 21) rfl))) Via.refl eT (S_NOT_SUPPORTED.ext O.2) (g := (mkF m 31 #[.val (.int c1)] [])) rfl (hb hby own_pick_d31)
          refine own_via (g' := (mkF m 34 #[.val (.int c1)] [(.ref wNOT_SUPPORTED)])) st ?_
          refine own_retW X hx hlk Bd.returns rfl (Or.inr (Or.inr (Or.inr (Or.inr ⟨rfl, rfl, rfl⟩)))) (hb hby own_pick_d34) (by decide) (by decide) ?_
          rw [eT]
          exact ⟨by rw [hr]; simp [own_pickV, hc1, hc2, hc3, hc4], N, hh0⟩
        · refine own_via (T' := T) (g' := (mkF m 35 #[.val (.int c1)] [])) (fun t_ k_ => XS.icmpYes X.here hx rfl (pc0 := 28) (pc' := 35) rfl (hb hby own_pick_d28) rfl (feq hc4).2 (by decide) (by decide) k_) ?_
          refine own_via (T' := T) (g' := (mkF m 36 #[.val (.int c1)] [(.int c1)])) (fun t_ k_ => XS.iloadN X.here hx rfl (hb hby own_pick_d35) rfl k_) ?_
          refine own_via (T' := T) (g' := (mkF m 37 #[.val (.int c1)] [(.int (4 : Int32)), (.int c1)])) (fun t_ k_ => XS.iconst X.here hx rfl (hb hby own_pick_d36) k_) ?_
          by_cases hc5 : c1 = (4 : Int32)
          · refine own_via (T' := T) (g' := (mkF m 40 #[.val (.int c1)] [])) (fun t_ k_ => XS.icmpNo X.here hx rfl (hb hby own_pick_d37) rfl (teq hc5).2 k_) ?_
            obtain ⟨T, X, eT, st⟩ := getS2 X hx hZ hown (host := "") (Or.inl (hw _ (List.mem_of_getElem? (i := 31) rfl))) Via.refl eT (S_NEVER.ext O.2) (g := (mkF m 40 #[.val (.int c1)] [])) rfl (hb hby own_pick_d40)
            refine own_via (g' := (mkF m 43 #[.val (.int c1)] [(.ref wNEVER)])) st ?_
            refine own_retW X hx hlk Bd.returns rfl (Or.inr (Or.inr (Or.inr (Or.inr ⟨rfl, rfl, rfl⟩)))) (hb hby own_pick_d43) (by decide) (by decide) ?_
            rw [eT]
            exact ⟨by rw [hr]; simp [own_pickV, hc1, hc2, hc3, hc4, hc5], N, hh0⟩
          · refine own_via (T' := T) (g' := (mkF m 44 #[.val (.int c1)] [])) (fun t_ k_ => XS.icmpYes X.here hx rfl (pc0 := 37) (pc' := 44) rfl (hb hby own_pick_d37) rfl (feq hc5).2 (by decide) (by decide) k_) ?_
            refine own_via (T' := T) (g' := (mkF m 45 #[.val (.int c1)] [(.int c1)])) (fun t_ k_ => XS.iloadN X.here hx rfl (hb hby own_pick_d44) rfl k_) ?_
            refine own_via (T' := T) (g' := (mkF m 46 #[.val (.int c1)] [(.int (5 : Int32)), (.int c1)])) (fun t_ k_ => XS.iconst X.here hx rfl (hb hby own_pick_d45) k_) ?_
            by_cases hc6 : c1 = (5 : Int32)
            · refine own_via (T' := T) (g' := (mkF m 49 #[.val (.int c1)] [])) (fun t_ k_ => XS.icmpNo X.here hx rfl (hb hby own_pick_d46) rfl (teq hc6).2 k_) ?_
              obtain ⟨T, X, eT, st⟩ := getS2 X hx hZ hown (host := "") (Or.inl (hw _ (List.mem_of_getElem? (i := 37) rfl))) Via.refl eT (S_SUPPORTS.ext O.2) (g := (mkF m 49 #[.val (.int c1)] [])) rfl (hb hby own_pick_d49)
              refine own_via (g' := (mkF m 52 #[.val (.int c1)] [(.ref wSUPPORTS)])) st ?_
              refine own_retW X hx hlk Bd.returns rfl (Or.inr (Or.inr (Or.inr (Or.inr ⟨rfl, rfl, rfl⟩)))) (hb hby own_pick_d52) (by decide) (by decide) ?_
              rw [eT]
              exact ⟨by rw [hr]; simp [own_pickV, hc1, hc2, hc3, hc4, hc5, hc6], N, hh0⟩
            · refine own_via (T' := T) (g' := (mkF m 53 #[.val (.int c1)] [])) (fun t_ k_ => XS.icmpYes X.here hx rfl (pc0 := 46) (pc' := 53) rfl (hb hby own_pick_d46) rfl (feq hc6).2 (by decide) (by decide) k_) ?_
              obtain ⟨T, X, eT, st⟩ := getS2 X hx hZ hown (host := "") (Or.inl (hw _ (List.mem_of_getElem? (i := 35) rfl))) Via.refl eT (S_NESTED.ext O.2) (g := (mkF m 53 #[.val (.int c1)] [])) rfl (hb hby own_pick_d53)
              refine own_via (g' := (mkF m 56 #[.val (.int c1)] [(.ref wNESTED)])) st ?_
              refine own_retW X hx hlk Bd.returns rfl (Or.inr (Or.inr (Or.inr (Or.inr ⟨rfl, rfl, rfl⟩)))) (hb hby own_pick_d56) (by decide) (by decide) ?_
              rw [eT]
              exact ⟨by rw [hr]; simp [own_pickV, hc1, hc2, hc3, hc4, hc5, hc6], N, hh0⟩
theorem own_expect_d0 : decode method_4_code 0 = .ok (.iload_n 0, 1) := by decide +kernel
theorem own_expect_d1 : decode method_4_code 1 = .ok (.ifCond .ne 15, 3) := by decide +kernel
theorem own_expect_d4 : decode method_4_code 4 = .ok (.iload_n 1, 1) := by decide +kernel
theorem own_expect_d5 : decode method_4_code 5 = .ok (.ifCond .eq 7, 3) := by decide +kernel
theorem own_expect_d8 : decode method_4_code 8 = .ok (.getstatic 46, 3) := by decide +kernel
theorem own_expect_d11 : decode method_4_code 11 = .ok (.areturn, 1) := by decide +kernel
theorem own_expect_d12 : decode method_4_code 12 = .ok (.getstatic 52, 3) := by decide +kernel
theorem own_expect_d15 : decode method_4_code 15 = .ok (.areturn, 1) := by decide +kernel
theorem own_expect_d16 : decode method_4_code 16 = .ok (.iload_n 0, 1) := by decide +kernel
theorem own_expect_d17 : decode method_4_code 17 = .ok (.iconst 1, 1) := by decide +kernel
theorem own_expect_d18 : decode method_4_code 18 = .ok (.if_icmp .ne 7, 3) := by decide +kernel
theorem own_expect_d21 : decode method_4_code 21 = .ok (.getstatic 52, 3) := by decide +kernel
theorem own_expect_d24 : decode method_4_code 24 = .ok (.areturn, 1) := by decide +kernel
theorem own_expect_d25 : decode method_4_code 25 = .ok (.iload_n 0, 1) := by decide +kernel
theorem own_expect_d26 : decode method_4_code 26 = .ok (.iconst 2, 1) := by decide +kernel
theorem own_expect_d27 : decode method_4_code 27 = .ok (.if_icmp .ne 15, 3) := by decide +kernel
theorem own_expect_d30 : decode method_4_code 30 = .ok (.iload_n 1, 1) := by decide +kernel
theorem own_expect_d31 : decode method_4_code 31 = .ok (.ifCond .eq 7, 3) := by decide +kernel
theorem own_expect_d34 : decode method_4_code 34 = .ok (.getstatic 46, 3) := by decide +kernel
theorem own_expect_d37 : decode method_4_code 37 = .ok (.areturn, 1) := by decide +kernel
theorem own_expect_d38 : decode method_4_code 38 = .ok (.getstatic 55, 3) := by decide +kernel
theorem own_expect_d41 : decode method_4_code 41 = .ok (.areturn, 1) := by decide +kernel
theorem own_expect_d42 : decode method_4_code 42 = .ok (.iload_n 0, 1) := by decide +kernel
theorem own_expect_d43 : decode method_4_code 43 = .ok (.iconst 3, 1) := by decide +kernel
theorem own_expect_d44 : decode method_4_code 44 = .ok (.if_icmp .ne 7, 3) := by decide +kernel
theorem own_expect_d47 : decode method_4_code 47 = .ok (.getstatic 58, 3) := by decide +kernel
theorem own_expect_d50 : decode method_4_code 50 = .ok (.areturn, 1) := by decide +kernel
theorem own_expect_d51 : decode method_4_code 51 = .ok (.iload_n 0, 1) := by decide +kernel
theorem own_expect_d52 : decode method_4_code 52 = .ok (.iconst 4, 1) := by decide +kernel
theorem own_expect_d53 : decode method_4_code 53 = .ok (.if_icmp .ne 15, 3) := by decide +kernel
theorem own_expect_d56 : decode method_4_code 56 = .ok (.iload_n 1, 1) := by decide +kernel
theorem own_expect_d57 : decode method_4_code 57 = .ok (.ifCond .eq 7, 3) := by decide +kernel
theorem own_expect_d60 : decode method_4_code 60 = .ok (.getstatic 55, 3) := by decide +kernel
theorem own_expect_d63 : decode method_4_code 63 = .ok (.areturn, 1) := by decide +kernel
theorem own_expect_d64 : decode method_4_code 64 = .ok (.getstatic 58, 3) := by decide +kernel
theorem own_expect_d67 : decode method_4_code 67 = .ok (.areturn, 1) := by decide +kernel
theorem own_expect_d68 : decode method_4_code 68 = .ok (.iload_n 0, 1) := by decide +kernel
theorem own_expect_d69 : decode method_4_code 69 = .ok (.iconst 5, 1) := by decide +kernel
theorem own_expect_d70 : decode method_4_code 70 = .ok (.if_icmp .ne 15, 3) := by decide +kernel
theorem own_expect_d73 : decode method_4_code 73 = .ok (.iload_n 1, 1) := by decide +kernel
theorem own_expect_d74 : decode method_4_code 74 = .ok (.ifCond .eq 7, 3) := by decide +kernel
theorem own_expect_d77 : decode method_4_code 77 = .ok (.getstatic 46, 3) := by decide +kernel
theorem own_expect_d80 : decode method_4_code 80 = .ok (.areturn, 1) := by decide +kernel
theorem own_expect_d81 : decode method_4_code 81 = .ok (.getstatic 58, 3) := by decide +kernel
theorem own_expect_d84 : decode method_4_code 84 = .ok (.areturn, 1) := by decide +kernel
theorem own_expect_d85 : decode method_4_code 85 = .ok (.iload_n 1, 1) := by decide +kernel
theorem own_expect_d86 : decode method_4_code 86 = .ok (.ifCond .eq 7, 3) := by decide +kernel
theorem own_expect_d89 : decode method_4_code 89 = .ok (.getstatic 61, 3) := by decide +kernel
theorem own_expect_d92 : decode method_4_code 92 = .ok (.areturn, 1) := by decide +kernel
theorem own_expect_d93 : decode method_4_code 93 = .ok (.getstatic 52, 3) := by decide +kernel
theorem own_expect_d96 : decode method_4_code 96 = .ok (.areturn, 1) := by decide +kernel
theorem own_expect_pn : plainFor (⟨"com/example/demarcate/demarcate/AttributeEntryPinLaw", "expect", "(IZ)Lcom/example/demarcate/demarcate/Attribute$Entry;"⟩ : MethodName) = true := by first | exact plainFor_of_name (by first | (simp [plainName, overriddenIn]; done) | decide +kernel) | decide +kernel
theorem own_expect_ef (m : MethodId) (x0 : Int32) (x1 : Int32) : entryFrame m #[(.int x0), (.int x1)] 2 = mkF m 0 #[.val (.int x0), .val (.int x1)] [] := by first | (simp [entryFrame, mkF, argsToLocals, Value.category]; done) | rfl
def own_expect_Q (Z : State) (c1 : Int32) (b1 : Int32) (wJOIN : Addr) (wNEW_TRANSACTION : Addr) (wREFUSE : Addr) (wNO_TRANSACTION : Addr) (wSAVEPOINT : Addr) (r : Addr) (h0 : Heap) (n0 : Nat) (v : Option Value) (h : Heap) (L : List Loc) : Prop := v = some (.ref r) ∧ Fr n0 L ∧ h = h0
set_option maxRecDepth 65536 in
set_option maxHeartbeats 40000000 in
theorem own_expect (l : Launch) (Z : State) (a0 : Array Value) (hw : ∀ d ∈ tables_1, d.before a0 Z = true) (ws : List Jvm.Cond) (c1 : Int32) (b1 : Int32) (wJOIN : Addr) (wNEW_TRANSACTION : Addr) (wREFUSE : Addr) (wNO_TRANSACTION : Addr) (wSAVEPOINT : Addr) (r : Addr) (h0 : Heap) (n0 : Nat) (O : Old Z n0 h0) (S_JOIN : Sta Z Z.heap "com/example/demarcate/demarcate/Attribute$Entry" "JOIN" "Lcom/example/demarcate/demarcate/Attribute$Entry;" (.ref wJOIN)) (S_NEW_TRANSACTION : Sta Z Z.heap "com/example/demarcate/demarcate/Attribute$Entry" "NEW_TRANSACTION" "Lcom/example/demarcate/demarcate/Attribute$Entry;" (.ref wNEW_TRANSACTION)) (S_REFUSE : Sta Z Z.heap "com/example/demarcate/demarcate/Attribute$Entry" "REFUSE" "Lcom/example/demarcate/demarcate/Attribute$Entry;" (.ref wREFUSE)) (S_NO_TRANSACTION : Sta Z Z.heap "com/example/demarcate/demarcate/Attribute$Entry" "NO_TRANSACTION" "Lcom/example/demarcate/demarcate/Attribute$Entry;" (.ref wNO_TRANSACTION)) (S_SAVEPOINT : Sta Z Z.heap "com/example/demarcate/demarcate/Attribute$Entry" "SAVEPOINT" "Lcom/example/demarcate/demarcate/Attribute$Entry;" (.ref wSAVEPOINT)) (hr : r = own_expV c1 b1 wJOIN wNEW_TRANSACTION wREFUSE wNO_TRANSACTION wSAVEPOINT) :
    MetFree l (⟨"com/example/demarcate/demarcate/AttributeEntryPinLaw", "expect", "(IZ)Lcom/example/demarcate/demarcate/Attribute$Entry;"⟩ : MethodName) (head1 (Jvm.Cond.code (⟨"com/example/demarcate/demarcate/AttributeEntryPinLaw", "expect", "(IZ)Lcom/example/demarcate/demarcate/Attribute$Entry;"⟩ : MethodName) method_4_code 2 (some (.object "com/example/demarcate/demarcate/Attribute$Entry")) :: ws) ({ frames := 0, cells := 0, slots := 0, locals := 0 } : Room)) (fun a U => a = #[(.int c1), (.int b1)] ∧ Z.Warmed39 U.vm ∧ U.heap = h0) (fun _ _ _ _ _ => True) (fun _ U o U' => ∃ v L, o = .returned v ∧ own_expect_Q Z c1 b1 wJOIN wNEW_TRANSACTION wREFUSE wNO_TRANSACTION wSAVEPOINT r h0 n0 v U'.heap L ∧ FrameEnd U o U' L ({ frames := 0, cells := 0, slots := 0, locals := 0 } : Room).cells ({ frames := 0, cells := 0, slots := 0, locals := 0 } : Room).slots) := by
  refine MetFree.of_bodySF own_expect_pn hisR ?_
  intro p e s m args below meth c s₁ Bd hml0 hP hK
  obtain ⟨rfl, hZ, hh⟩ := hP
  have hx := Bd.exec
  have hby := Bd.bytes
  have hlk := Bd.notSynchronized
  have hml : c.maxLocals = 2 := hml0
  have hown : s.vm.findClass "com/example/demarcate/demarcate/AttributeEntryPinLaw" = some m.cls := findClass_of_methodNamed Bd.named
  have hnm := (name_of_methodNamed Bd.named Bd.method).1
  have X : Stand p l e ({ frames := 0, cells := 0, slots := 0, locals := 0 } : Room) s m #[(.int c1), (.int b1)] below meth c s₁ [] 0 0 := Stand.of_body Bd
  have eT : s₁.heap = h0 := by rw [← hh, Bd.state]; rfl
  have N := Fr.nil n0
  have K0 := Keep.refl h0 []
  show own_Ends p e below (own_Post s below (own_expect_Q Z c1 b1 wJOIN wNEW_TRANSACTION wREFUSE wNO_TRANSACTION wSAVEPOINT r h0 n0) ({ frames := 0, cells := 0, slots := 0, locals := 0 } : Room).cells ({ frames := 0, cells := 0, slots := 0, locals := 0 } : Room).slots) s₁ (entryFrame m #[(.int c1), (.int b1)] 2)
  rw [own_expect_ef m c1 b1]
  obtain ⟨T, hT⟩ : ∃ z, z = s₁ := ⟨_, rfl⟩
  rw [← hT] at X eT ⊢
  obtain ⟨h, hh0⟩ : ∃ z, z = h0 := ⟨_, rfl⟩
  rw [← hh0] at eT
  replace O : Old Z n0 h := by rw [hh0]; exact O
  replace K0 : Keep h0 h [] := by rw [hh0]; exact K0
  refine own_via (T' := T) (g' := (mkF m 1 #[.val (.int c1), .val (.int b1)] [(.int c1)])) (fun t_ k_ => XS.iloadN X.here hx rfl (hb hby own_expect_d0) rfl k_) ?_
  by_cases hc1 : c1 = (0 : Int32)
  · refine own_via (T' := T) (g' := (mkF m 4 #[.val (.int c1), .val (.int b1)] [])) (fun t_ k_ => XS.ifNo X.here hx rfl (hb hby own_expect_d1) rfl ((if0 _ _).trans (teq hc1).2) k_) ?_
    refine own_via (T' := T) (g' := (mkF m 5 #[.val (.int c1), .val (.int b1)] [(.int b1)])) (fun t_ k_ => XS.iloadN X.here hx rfl (hb hby own_expect_d4) rfl k_) ?_
    by_cases hc2 : b1 = (0 : Int32)
    · refine own_via (T' := T) (g' := (mkF m 12 #[.val (.int c1), .val (.int b1)] [])) (fun t_ k_ => XS.ifYes X.here hx rfl (pc0 := 5) (pc' := 12) rfl (hb hby own_expect_d5) rfl ((if0 _ _).trans (teq hc2).1) (by decide) (by decide) k_) ?_
      obtain ⟨T, X, eT, st⟩ := getS2 X hx hZ hown (host := "") (Or.inl (hw _ (List.mem_of_getElem? (i := 27) rfl))) Via.refl eT (S_NEW_TRANSACTION.ext O.2) (g := (mkF m 12 #[.val (.int c1), .val (.int b1)] [])) rfl (hb hby own_expect_d12)
      refine own_via (g' := (mkF m 15 #[.val (.int c1), .val (.int b1)] [(.ref wNEW_TRANSACTION)])) st ?_
      refine own_retW X hx hlk Bd.returns rfl (Or.inr (Or.inr (Or.inr (Or.inr ⟨rfl, rfl, rfl⟩)))) (hb hby own_expect_d15) (by decide) (by decide) ?_
      rw [eT]
      exact ⟨by rw [hr]; simp [own_expV, hc1, hc2], N, hh0⟩
    · refine own_via (T' := T) (g' := (mkF m 8 #[.val (.int c1), .val (.int b1)] [])) (fun t_ k_ => XS.ifNo X.here hx rfl (hb hby own_expect_d5) rfl ((if0 _ _).trans (feq hc2).1) k_) ?_
      obtain ⟨T, X, eT, st⟩ := getS2 X hx hZ hown (host := "") (Or.inl (hw _ (List.mem_of_getElem? (i := 11) rfl))) Via.refl eT (S_JOIN.ext O.2) (g := (mkF m 8 #[.val (.int c1), .val (.int b1)] [])) rfl (hb hby own_expect_d8)
      refine own_via (g' := (mkF m 11 #[.val (.int c1), .val (.int b1)] [(.ref wJOIN)])) st ?_
      refine own_retW X hx hlk Bd.returns rfl (Or.inr (Or.inr (Or.inr (Or.inr ⟨rfl, rfl, rfl⟩)))) (hb hby own_expect_d11) (by decide) (by decide) ?_
      rw [eT]
      exact ⟨by rw [hr]; simp [own_expV, hc1, hc2], N, hh0⟩
  · refine own_via (T' := T) (g' := (mkF m 16 #[.val (.int c1), .val (.int b1)] [])) (fun t_ k_ => XS.ifYes X.here hx rfl (pc0 := 1) (pc' := 16) rfl (hb hby own_expect_d1) rfl ((if0 _ _).trans (feq hc1).2) (by decide) (by decide) k_) ?_
    refine own_via (T' := T) (g' := (mkF m 17 #[.val (.int c1), .val (.int b1)] [(.int c1)])) (fun t_ k_ => XS.iloadN X.here hx rfl (hb hby own_expect_d16) rfl k_) ?_
    refine own_via (T' := T) (g' := (mkF m 18 #[.val (.int c1), .val (.int b1)] [(.int (1 : Int32)), (.int c1)])) (fun t_ k_ => XS.iconst X.here hx rfl (hb hby own_expect_d17) k_) ?_
    by_cases hc3 : c1 = (1 : Int32)
    · refine own_via (T' := T) (g' := (mkF m 21 #[.val (.int c1), .val (.int b1)] [])) (fun t_ k_ => XS.icmpNo X.here hx rfl (hb hby own_expect_d18) rfl (teq hc3).2 k_) ?_
      obtain ⟨T, X, eT, st⟩ := getS2 X hx hZ hown (host := "") (Or.inl (hw _ (List.mem_of_getElem? (i := 27) rfl))) Via.refl eT (S_NEW_TRANSACTION.ext O.2) (g := (mkF m 21 #[.val (.int c1), .val (.int b1)] [])) rfl (hb hby own_expect_d21)
      refine own_via (g' := (mkF m 24 #[.val (.int c1), .val (.int b1)] [(.ref wNEW_TRANSACTION)])) st ?_
      refine own_retW X hx hlk Bd.returns rfl (Or.inr (Or.inr (Or.inr (Or.inr ⟨rfl, rfl, rfl⟩)))) (hb hby own_expect_d24) (by decide) (by decide) ?_
      rw [eT]
      exact ⟨by rw [hr]; simp [own_expV, hc1, hc3], N, hh0⟩
    · refine own_via (T' := T) (g' := (mkF m 25 #[.val (.int c1), .val (.int b1)] [])) (fun t_ k_ => XS.icmpYes X.here hx rfl (pc0 := 18) (pc' := 25) rfl (hb hby own_expect_d18) rfl (feq hc3).2 (by decide) (by decide) k_) ?_
      refine own_via (T' := T) (g' := (mkF m 26 #[.val (.int c1), .val (.int b1)] [(.int c1)])) (fun t_ k_ => XS.iloadN X.here hx rfl (hb hby own_expect_d25) rfl k_) ?_
      refine own_via (T' := T) (g' := (mkF m 27 #[.val (.int c1), .val (.int b1)] [(.int (2 : Int32)), (.int c1)])) (fun t_ k_ => XS.iconst X.here hx rfl (hb hby own_expect_d26) k_) ?_
      by_cases hc4 : c1 = (2 : Int32)
      · refine own_via (T' := T) (g' := (mkF m 30 #[.val (.int c1), .val (.int b1)] [])) (fun t_ k_ => XS.icmpNo X.here hx rfl (hb hby own_expect_d27) rfl (teq hc4).2 k_) ?_
        refine own_via (T' := T) (g' := (mkF m 31 #[.val (.int c1), .val (.int b1)] [(.int b1)])) (fun t_ k_ => XS.iloadN X.here hx rfl (hb hby own_expect_d30) rfl k_) ?_
        by_cases hc5 : b1 = (0 : Int32)
        · refine own_via (T' := T) (g' := (mkF m 38 #[.val (.int c1), .val (.int b1)] [])) (fun t_ k_ => XS.ifYes X.here hx rfl (pc0 := 31) (pc' := 38) rfl (hb hby own_expect_d31) rfl ((if0 _ _).trans (teq hc5).1) (by decide) (by decide) k_) ?_
          obtain ⟨T, X, eT, st⟩ := getS2 X hx hZ hown (host := "") (Or.inl (hw _ (List.mem_of_getElem? (i := 33) rfl))) Via.refl eT (S_REFUSE.ext O.2) (g := (mkF m 38 #[.val (.int c1), .val (.int b1)] [])) rfl (hb hby own_expect_d38)
          refine own_via (g' := (mkF m 41 #[.val (.int c1), .val (.int b1)] [(.ref wREFUSE)])) st ?_
          refine own_retW X hx hlk Bd.returns rfl (Or.inr (Or.inr (Or.inr (Or.inr ⟨rfl, rfl, rfl⟩)))) (hb hby own_expect_d41) (by decide) (by decide) ?_
          rw [eT]
          exact ⟨by rw [hr]; simp [own_expV, hc1, hc3, hc4, hc5], N, hh0⟩
        · refine own_via (T' := T) (g' := (mkF m 34 #[.val (.int c1), .val (.int b1)] [])) (fun t_ k_ => XS.ifNo X.here hx rfl (hb hby own_expect_d31) rfl ((if0 _ _).trans (feq hc5).1) k_) ?_
          obtain ⟨T, X, eT, st⟩ := getS2 X hx hZ hown (host := "") (Or.inl (hw _ (List.mem_of_getElem? (i := 11) rfl))) Via.refl eT (S_JOIN.ext O.2) (g := (mkF m 34 #[.val (.int c1), .val (.int b1)] [])) rfl (hb hby own_expect_d34)
          refine own_via (g' := (mkF m 37 #[.val (.int c1), .val (.int b1)] [(.ref wJOIN)])) st ?_
          refine own_retW X hx hlk Bd.returns rfl (Or.inr (Or.inr (Or.inr (Or.inr ⟨rfl, rfl, rfl⟩)))) (hb hby own_expect_d37) (by decide) (by decide) ?_
          rw [eT]
          exact ⟨by rw [hr]; simp [own_expV, hc1, hc3, hc4, hc5], N, hh0⟩
      · refine own_via (T' := T) (g' := (mkF m 42 #[.val (.int c1), .val (.int b1)] [])) (fun t_ k_ => XS.icmpYes X.here hx rfl (pc0 := 27) (pc' := 42) rfl (hb hby own_expect_d27) rfl (feq hc4).2 (by decide) (by decide) k_) ?_
        refine own_via (T' := T) (g' := (mkF m 43 #[.val (.int c1), .val (.int b1)] [(.int c1)])) (fun t_ k_ => XS.iloadN X.here hx rfl (hb hby own_expect_d42) rfl k_) ?_
        refine own_via (T' := T) (g' := (mkF m 44 #[.val (.int c1), .val (.int b1)] [(.int (3 : Int32)), (.int c1)])) (fun t_ k_ => XS.iconst X.here hx rfl (hb hby own_expect_d43) k_) ?_
        by_cases hc6 : c1 = (3 : Int32)
        · refine own_via (T' := T) (g' := (mkF m 47 #[.val (.int c1), .val (.int b1)] [])) (fun t_ k_ => XS.icmpNo X.here hx rfl (hb hby own_expect_d44) rfl (teq hc6).2 k_) ?_
          obtain ⟨T, X, eT, st⟩ := getS2 X hx hZ hown (host := "") (Or.inl (hw _ (List.mem_of_getElem? (i := 23) rfl))) Via.refl eT (S_NO_TRANSACTION.ext O.2) (g := (mkF m 47 #[.val (.int c1), .val (.int b1)] [])) rfl (hb hby own_expect_d47)
          refine own_via (g' := (mkF m 50 #[.val (.int c1), .val (.int b1)] [(.ref wNO_TRANSACTION)])) st ?_
          refine own_retW X hx hlk Bd.returns rfl (Or.inr (Or.inr (Or.inr (Or.inr ⟨rfl, rfl, rfl⟩)))) (hb hby own_expect_d50) (by decide) (by decide) ?_
          rw [eT]
          exact ⟨by rw [hr]; simp [own_expV, hc1, hc3, hc4, hc6], N, hh0⟩
        · refine own_via (T' := T) (g' := (mkF m 51 #[.val (.int c1), .val (.int b1)] [])) (fun t_ k_ => XS.icmpYes X.here hx rfl (pc0 := 44) (pc' := 51) rfl (hb hby own_expect_d44) rfl (feq hc6).2 (by decide) (by decide) k_) ?_
          refine own_via (T' := T) (g' := (mkF m 52 #[.val (.int c1), .val (.int b1)] [(.int c1)])) (fun t_ k_ => XS.iloadN X.here hx rfl (hb hby own_expect_d51) rfl k_) ?_
          refine own_via (T' := T) (g' := (mkF m 53 #[.val (.int c1), .val (.int b1)] [(.int (4 : Int32)), (.int c1)])) (fun t_ k_ => XS.iconst X.here hx rfl (hb hby own_expect_d52) k_) ?_
          by_cases hc7 : c1 = (4 : Int32)
          · refine own_via (T' := T) (g' := (mkF m 56 #[.val (.int c1), .val (.int b1)] [])) (fun t_ k_ => XS.icmpNo X.here hx rfl (hb hby own_expect_d53) rfl (teq hc7).2 k_) ?_
            refine own_via (T' := T) (g' := (mkF m 57 #[.val (.int c1), .val (.int b1)] [(.int b1)])) (fun t_ k_ => XS.iloadN X.here hx rfl (hb hby own_expect_d56) rfl k_) ?_
            by_cases hc8 : b1 = (0 : Int32)
            · refine own_via (T' := T) (g' := (mkF m 64 #[.val (.int c1), .val (.int b1)] [])) (fun t_ k_ => XS.ifYes X.here hx rfl (pc0 := 57) (pc' := 64) rfl (hb hby own_expect_d57) rfl ((if0 _ _).trans (teq hc8).1) (by decide) (by decide) k_) ?_
              obtain ⟨T, X, eT, st⟩ := getS2 X hx hZ hown (host := "") (Or.inl (hw _ (List.mem_of_getElem? (i := 23) rfl))) Via.refl eT (S_NO_TRANSACTION.ext O.2) (g := (mkF m 64 #[.val (.int c1), .val (.int b1)] [])) rfl (hb hby own_expect_d64)
              refine own_via (g' := (mkF m 67 #[.val (.int c1), .val (.int b1)] [(.ref wNO_TRANSACTION)])) st ?_
              refine own_retW X hx hlk Bd.returns rfl (Or.inr (Or.inr (Or.inr (Or.inr ⟨rfl, rfl, rfl⟩)))) (hb hby own_expect_d67) (by decide) (by decide) ?_
              rw [eT]
              exact ⟨by rw [hr]; simp [own_expV, hc1, hc3, hc4, hc6, hc7, hc8], N, hh0⟩
            · refine own_via (T' := T) (g' := (mkF m 60 #[.val (.int c1), .val (.int b1)] [])) (fun t_ k_ => XS.ifNo X.here hx rfl (hb hby own_expect_d57) rfl ((if0 _ _).trans (feq hc8).1) k_) ?_
              obtain ⟨T, X, eT, st⟩ := getS2 X hx hZ hown (host := "") (Or.inl (hw _ (List.mem_of_getElem? (i := 33) rfl))) Via.refl eT (S_REFUSE.ext O.2) (g := (mkF m 60 #[.val (.int c1), .val (.int b1)] [])) rfl (hb hby own_expect_d60)
              refine own_via (g' := (mkF m 63 #[.val (.int c1), .val (.int b1)] [(.ref wREFUSE)])) st ?_
              refine own_retW X hx hlk Bd.returns rfl (Or.inr (Or.inr (Or.inr (Or.inr ⟨rfl, rfl, rfl⟩)))) (hb hby own_expect_d63) (by decide) (by decide) ?_
              rw [eT]
              exact ⟨by rw [hr]; simp [own_expV, hc1, hc3, hc4, hc6, hc7, hc8], N, hh0⟩
          · refine own_via (T' := T) (g' := (mkF m 68 #[.val (.int c1), .val (.int b1)] [])) (fun t_ k_ => XS.icmpYes X.here hx rfl (pc0 := 53) (pc' := 68) rfl (hb hby own_expect_d53) rfl (feq hc7).2 (by decide) (by decide) k_) ?_
            refine own_via (T' := T) (g' := (mkF m 69 #[.val (.int c1), .val (.int b1)] [(.int c1)])) (fun t_ k_ => XS.iloadN X.here hx rfl (hb hby own_expect_d68) rfl k_) ?_
            refine own_via (T' := T) (g' := (mkF m 70 #[.val (.int c1), .val (.int b1)] [(.int (5 : Int32)), (.int c1)])) (fun t_ k_ => XS.iconst X.here hx rfl (hb hby own_expect_d69) k_) ?_
            by_cases hc9 : c1 = (5 : Int32)
            · refine own_via (T' := T) (g' := (mkF m 73 #[.val (.int c1), .val (.int b1)] [])) (fun t_ k_ => XS.icmpNo X.here hx rfl (hb hby own_expect_d70) rfl (teq hc9).2 k_) ?_
              refine own_via (T' := T) (g' := (mkF m 74 #[.val (.int c1), .val (.int b1)] [(.int b1)])) (fun t_ k_ => XS.iloadN X.here hx rfl (hb hby own_expect_d73) rfl k_) ?_
              by_cases hc10 : b1 = (0 : Int32)
              · refine own_via (T' := T) (g' := (mkF m 81 #[.val (.int c1), .val (.int b1)] [])) (fun t_ k_ => XS.ifYes X.here hx rfl (pc0 := 74) (pc' := 81) rfl (hb hby own_expect_d74) rfl ((if0 _ _).trans (teq hc10).1) (by decide) (by decide) k_) ?_
                obtain ⟨T, X, eT, st⟩ := getS2 X hx hZ hown (host := "") (Or.inl (hw _ (List.mem_of_getElem? (i := 23) rfl))) Via.refl eT (S_NO_TRANSACTION.ext O.2) (g := (mkF m 81 #[.val (.int c1), .val (.int b1)] [])) rfl (hb hby own_expect_d81)
                refine own_via (g' := (mkF m 84 #[.val (.int c1), .val (.int b1)] [(.ref wNO_TRANSACTION)])) st ?_
                refine own_retW X hx hlk Bd.returns rfl (Or.inr (Or.inr (Or.inr (Or.inr ⟨rfl, rfl, rfl⟩)))) (hb hby own_expect_d84) (by decide) (by decide) ?_
                rw [eT]
                exact ⟨by rw [hr]; simp [own_expV, hc1, hc3, hc4, hc6, hc7, hc9, hc10], N, hh0⟩
              · refine own_via (T' := T) (g' := (mkF m 77 #[.val (.int c1), .val (.int b1)] [])) (fun t_ k_ => XS.ifNo X.here hx rfl (hb hby own_expect_d74) rfl ((if0 _ _).trans (feq hc10).1) k_) ?_
                obtain ⟨T, X, eT, st⟩ := getS2 X hx hZ hown (host := "") (Or.inl (hw _ (List.mem_of_getElem? (i := 11) rfl))) Via.refl eT (S_JOIN.ext O.2) (g := (mkF m 77 #[.val (.int c1), .val (.int b1)] [])) rfl (hb hby own_expect_d77)
                refine own_via (g' := (mkF m 80 #[.val (.int c1), .val (.int b1)] [(.ref wJOIN)])) st ?_
                refine own_retW X hx hlk Bd.returns rfl (Or.inr (Or.inr (Or.inr (Or.inr ⟨rfl, rfl, rfl⟩)))) (hb hby own_expect_d80) (by decide) (by decide) ?_
                rw [eT]
                exact ⟨by rw [hr]; simp [own_expV, hc1, hc3, hc4, hc6, hc7, hc9, hc10], N, hh0⟩
            · refine own_via (T' := T) (g' := (mkF m 85 #[.val (.int c1), .val (.int b1)] [])) (fun t_ k_ => XS.icmpYes X.here hx rfl (pc0 := 70) (pc' := 85) rfl (hb hby own_expect_d70) rfl (feq hc9).2 (by decide) (by decide) k_) ?_
              refine own_via (T' := T) (g' := (mkF m 86 #[.val (.int c1), .val (.int b1)] [(.int b1)])) (fun t_ k_ => XS.iloadN X.here hx rfl (hb hby own_expect_d85) rfl k_) ?_
              by_cases hc11 : b1 = (0 : Int32)
              · refine own_via (T' := T) (g' := (mkF m 93 #[.val (.int c1), .val (.int b1)] [])) (fun t_ k_ => XS.ifYes X.here hx rfl (pc0 := 86) (pc' := 93) rfl (hb hby own_expect_d86) rfl ((if0 _ _).trans (teq hc11).1) (by decide) (by decide) k_) ?_
                obtain ⟨T, X, eT, st⟩ := getS2 X hx hZ hown (host := "") (Or.inl (hw _ (List.mem_of_getElem? (i := 27) rfl))) Via.refl eT (S_NEW_TRANSACTION.ext O.2) (g := (mkF m 93 #[.val (.int c1), .val (.int b1)] [])) rfl (hb hby own_expect_d93)
                refine own_via (g' := (mkF m 96 #[.val (.int c1), .val (.int b1)] [(.ref wNEW_TRANSACTION)])) st ?_
                refine own_retW X hx hlk Bd.returns rfl (Or.inr (Or.inr (Or.inr (Or.inr ⟨rfl, rfl, rfl⟩)))) (hb hby own_expect_d96) (by decide) (by decide) ?_
                rw [eT]
                exact ⟨by rw [hr]; simp [own_expV, hc1, hc3, hc4, hc6, hc7, hc9, hc11], N, hh0⟩
              · refine own_via (T' := T) (g' := (mkF m 89 #[.val (.int c1), .val (.int b1)] [])) (fun t_ k_ => XS.ifNo X.here hx rfl (hb hby own_expect_d86) rfl ((if0 _ _).trans (feq hc11).1) k_) ?_
                obtain ⟨T, X, eT, st⟩ := getS2 X hx hZ hown (host := "") (Or.inl (hw _ (List.mem_of_getElem? (i := 41) rfl))) Via.refl eT (S_SAVEPOINT.ext O.2) (g := (mkF m 89 #[.val (.int c1), .val (.int b1)] [])) rfl (hb hby own_expect_d89)
                refine own_via (g' := (mkF m 92 #[.val (.int c1), .val (.int b1)] [(.ref wSAVEPOINT)])) st ?_
                refine own_retW X hx hlk Bd.returns rfl (Or.inr (Or.inr (Or.inr (Or.inr ⟨rfl, rfl, rfl⟩)))) (hb hby own_expect_d92) (by decide) (by decide) ?_
                rw [eT]
                exact ⟨by rw [hr]; simp [own_expV, hc1, hc3, hc4, hc6, hc7, hc9, hc11], N, hh0⟩
theorem own_entry_d0 : decode prog_1_method_4_code 0 = .ok (.iload_n 1, 1) := by decide +kernel
theorem own_entry_d1 : decode prog_1_method_4_code 1 = .ok (.ifCond .eq 10, 3) := by decide +kernel
theorem own_entry_d4 : decode prog_1_method_4_code 4 = .ok (.aload_n 0, 1) := by decide +kernel
theorem own_entry_d5 : decode prog_1_method_4_code 5 = .ok (.getfield 44, 3) := by decide +kernel
theorem own_entry_d8 : decode prog_1_method_4_code 8 = .ok (.goto 7, 3) := by decide +kernel
theorem own_entry_d11 : decode prog_1_method_4_code 11 = .ok (.aload_n 0, 1) := by decide +kernel
theorem own_entry_d12 : decode prog_1_method_4_code 12 = .ok (.getfield 48, 3) := by decide +kernel
theorem own_entry_d15 : decode prog_1_method_4_code 15 = .ok (.areturn, 1) := by decide +kernel
theorem own_entry_pn : plainFor (⟨"com/example/demarcate/demarcate/Attribute", "entry", "(Z)Lcom/example/demarcate/demarcate/Attribute$Entry;"⟩ : MethodName) = true := by first | exact plainFor_of_name (by first | (simp [plainName, overriddenIn]; done) | decide +kernel) | decide +kernel
theorem own_entry_ef (m : MethodId) (x0 : Addr) (x1 : Int32) : entryFrame m #[(.ref x0), (.int x1)] 2 = mkF m 0 #[.val (.ref x0), .val (.int x1)] [] := by first | (simp [entryFrame, mkF, argsToLocals, Value.category]; done) | rfl
def own_entry_Q (Z : State) (a1 : Addr) (b1 : Int32) (f1 : Addr) (f2 : Addr) (r : Addr) (h0 : Heap) (n0 : Nat) (v : Option Value) (h : Heap) (L : List Loc) : Prop := v = some (.ref r) ∧ Fr n0 L ∧ h = h0
set_option maxRecDepth 65536 in
set_option maxHeartbeats 40000000 in
theorem own_entry (l : Launch) (Z : State) (a0 : Array Value) (hw : ∀ d ∈ tables_1, d.before a0 Z = true) (ws : List Jvm.Cond) (a1 : Addr) (b1 : Int32) (f1 : Addr) (f2 : Addr) (r : Addr) (h0 : Heap) (n0 : Nat) (O : Old Z n0 h0) (F_in : Fld Z Z.heap a1 "com/example/demarcate/demarcate/Attribute" "inTransaction" "Lcom/example/demarcate/demarcate/Attribute$Entry;" (.ref f1)) (F_ot : Fld Z Z.heap a1 "com/example/demarcate/demarcate/Attribute" "otherwise" "Lcom/example/demarcate/demarcate/Attribute$Entry;" (.ref f2)) (hr : (b1 = 0 → r = f2) ∧ (¬ b1 = 0 → r = f1)) :
    MetFree l (⟨"com/example/demarcate/demarcate/Attribute", "entry", "(Z)Lcom/example/demarcate/demarcate/Attribute$Entry;"⟩ : MethodName) (head1 (Jvm.Cond.code (⟨"com/example/demarcate/demarcate/Attribute", "entry", "(Z)Lcom/example/demarcate/demarcate/Attribute$Entry;"⟩ : MethodName) prog_1_method_4_code 2 (some (.object "com/example/demarcate/demarcate/Attribute$Entry")) :: ws) ({ frames := 0, cells := 0, slots := 0, locals := 0 } : Room)) (fun a U => a = #[(.ref a1), (.int b1)] ∧ Z.Warmed39 U.vm ∧ U.heap = h0) (fun _ _ _ _ _ => True) (fun _ U o U' => ∃ v L, o = .returned v ∧ own_entry_Q Z a1 b1 f1 f2 r h0 n0 v U'.heap L ∧ FrameEnd U o U' L ({ frames := 0, cells := 0, slots := 0, locals := 0 } : Room).cells ({ frames := 0, cells := 0, slots := 0, locals := 0 } : Room).slots) := by
  refine MetFree.of_bodySF own_entry_pn hisR ?_
  intro p e s m args below meth c s₁ Bd hml0 hP hK
  obtain ⟨rfl, hZ, hh⟩ := hP
  have hx := Bd.exec
  have hby := Bd.bytes
  have hlk := Bd.notSynchronized
  have hml : c.maxLocals = 2 := hml0
  have hown : s.vm.findClass "com/example/demarcate/demarcate/Attribute" = some m.cls := findClass_of_methodNamed Bd.named
  have hnm := (name_of_methodNamed Bd.named Bd.method).1
  have X : Stand p l e ({ frames := 0, cells := 0, slots := 0, locals := 0 } : Room) s m #[(.ref a1), (.int b1)] below meth c s₁ [] 0 0 := Stand.of_body Bd
  have eT : s₁.heap = h0 := by rw [← hh, Bd.state]; rfl
  have N := Fr.nil n0
  have K0 := Keep.refl h0 []
  show own_Ends p e below (own_Post s below (own_entry_Q Z a1 b1 f1 f2 r h0 n0) ({ frames := 0, cells := 0, slots := 0, locals := 0 } : Room).cells ({ frames := 0, cells := 0, slots := 0, locals := 0 } : Room).slots) s₁ (entryFrame m #[(.ref a1), (.int b1)] 2)
  rw [own_entry_ef m a1 b1]
  obtain ⟨T, hT⟩ : ∃ z, z = s₁ := ⟨_, rfl⟩
  rw [← hT] at X eT ⊢
  obtain ⟨h, hh0⟩ : ∃ z, z = h0 := ⟨_, rfl⟩
  rw [← hh0] at eT
  replace O : Old Z n0 h := by rw [hh0]; exact O
  replace K0 : Keep h0 h [] := by rw [hh0]; exact K0
  refine own_via (T' := T) (g' := (mkF m 1 #[.val (.ref a1), .val (.int b1)] [(.int b1)])) (fun t_ k_ => XS.iloadN X.here hx rfl (hb hby own_entry_d0) rfl k_) ?_
  by_cases hc1 : b1 = (0 : Int32)
  · refine own_via (T' := T) (g' := (mkF m 11 #[.val (.ref a1), .val (.int b1)] [])) (fun t_ k_ => XS.ifYes X.here hx rfl (pc0 := 1) (pc' := 11) rfl (hb hby own_entry_d1) rfl ((if0 _ _).trans (teq hc1).1) (by decide) (by decide) k_) ?_
    refine own_via (T' := T) (g' := (mkF m 12 #[.val (.ref a1), .val (.int b1)] [(.ref a1)])) (fun t_ k_ => XS.aloadN X.here hx rfl (hb hby own_entry_d11) rfl rfl k_) ?_
    obtain ⟨T, X, eT, st⟩ := getF X hx hZ hown (host := "") (Or.inl (hw _ (List.mem_of_getElem? (i := 29) rfl))) Via.refl eT (F_ot.ext O.2) (g := (mkF m 12 #[.val (.ref a1), .val (.int b1)] [(.ref a1)])) rfl rfl (hb hby own_entry_d12)
    refine own_via (g' := (mkF m 15 #[.val (.ref a1), .val (.int b1)] [(.ref f2)])) st ?_
    refine own_retW X hx hlk Bd.returns rfl (Or.inr (Or.inr (Or.inr (Or.inr ⟨rfl, rfl, rfl⟩)))) (hb hby own_entry_d15) (by decide) (by decide) ?_
    rw [eT]
    exact ⟨by rw [hr.1 hc1], N, hh0⟩
  · refine own_via (T' := T) (g' := (mkF m 4 #[.val (.ref a1), .val (.int b1)] [])) (fun t_ k_ => XS.ifNo X.here hx rfl (hb hby own_entry_d1) rfl ((if0 _ _).trans (feq hc1).1) k_) ?_
    refine own_via (T' := T) (g' := (mkF m 5 #[.val (.ref a1), .val (.int b1)] [(.ref a1)])) (fun t_ k_ => XS.aloadN X.here hx rfl (hb hby own_entry_d4) rfl rfl k_) ?_
    obtain ⟨T, X, eT, st⟩ := getF X hx hZ hown (host := "") (Or.inl (hw _ (List.mem_of_getElem? (i := 19) rfl))) Via.refl eT (F_in.ext O.2) (g := (mkF m 5 #[.val (.ref a1), .val (.int b1)] [(.ref a1)])) rfl rfl (hb hby own_entry_d5)
    refine own_via (g' := (mkF m 8 #[.val (.ref a1), .val (.int b1)] [(.ref f1)])) st ?_
    refine own_via (T' := T) (g' := (mkF m 15 #[.val (.ref a1), .val (.int b1)] [(.ref f1)])) (fun t_ k_ => XS.goto X.here hx rfl (pc0 := 8) (pc' := 15) rfl (hb hby own_entry_d8) (by decide) (by decide) k_) ?_
    refine own_retW X hx hlk Bd.returns rfl (Or.inr (Or.inr (Or.inr (Or.inr ⟨rfl, rfl, rfl⟩)))) (hb hby own_entry_d15) (by decide) (by decide) ?_
    rw [eT]
    exact ⟨by rw [hr.2 hc1], N, hh0⟩
theorem own_law_pn : plainFor x = true := by first | exact plainFor_of_name (by first | (simp [plainName, overriddenIn]; done) | decide +kernel) | decide +kernel
theorem own_law_ef (m : MethodId) (x0 : Int32) (x1 : Int32) : entryFrame m #[(.int x0), (.int x1)] maxLocals = mkF m 0 #[.val (.int x0), .val (.int x1), .unset, .unset, .unset, .unset] [] := by first | (simp [entryFrame, mkF, argsToLocals, Value.category, maxLocals]; done) | rfl
def own_law_Q (Z : State) (p0 : Int32) (p1 : Int32) (wREQUIRED : Addr) (wREQUIRES_NEW : Addr) (wMANDATORY : Addr) (wNOT_SUPPORTED : Addr) (wNEVER : Addr) (wSUPPORTS : Addr) (wNESTED : Addr) (wJOIN : Addr) (wNEW_TRANSACTION : Addr) (wREFUSE : Addr) (wNO_TRANSACTION : Addr) (wSAVEPOINT : Addr) (h0 : Heap) (n0 : Nat) (v : Option Value) (h : Heap) (L : List Loc) : Prop := v = some (.int (1 : Int32)) ∧ Fr n0 L ∧ True
set_option maxRecDepth 65536 in
set_option maxHeartbeats 40000000 in
theorem own_law (l : Launch) (Z : State) (a0 : Array Value) (hw : ∀ d ∈ tables_1, d.before a0 Z = true) (ws : List Jvm.Cond) (p0 : Int32) (p1 : Int32) (wREQUIRED : Addr) (wREQUIRES_NEW : Addr) (wMANDATORY : Addr) (wNOT_SUPPORTED : Addr) (wNEVER : Addr) (wSUPPORTS : Addr) (wNESTED : Addr) (wJOIN : Addr) (wNEW_TRANSACTION : Addr) (wREFUSE : Addr) (wNO_TRANSACTION : Addr) (wSAVEPOINT : Addr) (h0 : Heap) (n0 : Nat) (O : Old Z n0 h0) (S_REQUIRED : Sta Z Z.heap "com/example/demarcate/demarcate/Attribute" "REQUIRED" "Lcom/example/demarcate/demarcate/Attribute;" (.ref wREQUIRED)) (S_REQUIRES_NEW : Sta Z Z.heap "com/example/demarcate/demarcate/Attribute" "REQUIRES_NEW" "Lcom/example/demarcate/demarcate/Attribute;" (.ref wREQUIRES_NEW)) (S_MANDATORY : Sta Z Z.heap "com/example/demarcate/demarcate/Attribute" "MANDATORY" "Lcom/example/demarcate/demarcate/Attribute;" (.ref wMANDATORY)) (S_NOT_SUPPORTED : Sta Z Z.heap "com/example/demarcate/demarcate/Attribute" "NOT_SUPPORTED" "Lcom/example/demarcate/demarcate/Attribute;" (.ref wNOT_SUPPORTED)) (S_NEVER : Sta Z Z.heap "com/example/demarcate/demarcate/Attribute" "NEVER" "Lcom/example/demarcate/demarcate/Attribute;" (.ref wNEVER)) (S_SUPPORTS : Sta Z Z.heap "com/example/demarcate/demarcate/Attribute" "SUPPORTS" "Lcom/example/demarcate/demarcate/Attribute;" (.ref wSUPPORTS)) (S_NESTED : Sta Z Z.heap "com/example/demarcate/demarcate/Attribute" "NESTED" "Lcom/example/demarcate/demarcate/Attribute;" (.ref wNESTED)) (S_JOIN : Sta Z Z.heap "com/example/demarcate/demarcate/Attribute$Entry" "JOIN" "Lcom/example/demarcate/demarcate/Attribute$Entry;" (.ref wJOIN)) (S_NEW_TRANSACTION : Sta Z Z.heap "com/example/demarcate/demarcate/Attribute$Entry" "NEW_TRANSACTION" "Lcom/example/demarcate/demarcate/Attribute$Entry;" (.ref wNEW_TRANSACTION)) (S_REFUSE : Sta Z Z.heap "com/example/demarcate/demarcate/Attribute$Entry" "REFUSE" "Lcom/example/demarcate/demarcate/Attribute$Entry;" (.ref wREFUSE)) (S_NO_TRANSACTION : Sta Z Z.heap "com/example/demarcate/demarcate/Attribute$Entry" "NO_TRANSACTION" "Lcom/example/demarcate/demarcate/Attribute$Entry;" (.ref wNO_TRANSACTION)) (S_SAVEPOINT : Sta Z Z.heap "com/example/demarcate/demarcate/Attribute$Entry" "SAVEPOINT" "Lcom/example/demarcate/demarcate/Attribute$Entry;" (.ref wSAVEPOINT)) (E_REQUIRED : Exa Z Z.heap wREQUIRED "com/example/demarcate/demarcate/Attribute") (E_REQUIRES_NEW : Exa Z Z.heap wREQUIRES_NEW "com/example/demarcate/demarcate/Attribute") (E_MANDATORY : Exa Z Z.heap wMANDATORY "com/example/demarcate/demarcate/Attribute") (E_NOT_SUPPORTED : Exa Z Z.heap wNOT_SUPPORTED "com/example/demarcate/demarcate/Attribute") (E_NEVER : Exa Z Z.heap wNEVER "com/example/demarcate/demarcate/Attribute") (E_SUPPORTS : Exa Z Z.heap wSUPPORTS "com/example/demarcate/demarcate/Attribute") (E_NESTED : Exa Z Z.heap wNESTED "com/example/demarcate/demarcate/Attribute") (F_in_REQUIRED : Fld Z Z.heap wREQUIRED "com/example/demarcate/demarcate/Attribute" "inTransaction" "Lcom/example/demarcate/demarcate/Attribute$Entry;" (.ref wJOIN)) (F_in_REQUIRES_NEW : Fld Z Z.heap wREQUIRES_NEW "com/example/demarcate/demarcate/Attribute" "inTransaction" "Lcom/example/demarcate/demarcate/Attribute$Entry;" (.ref wNEW_TRANSACTION)) (F_in_MANDATORY : Fld Z Z.heap wMANDATORY "com/example/demarcate/demarcate/Attribute" "inTransaction" "Lcom/example/demarcate/demarcate/Attribute$Entry;" (.ref wJOIN)) (F_in_NOT_SUPPORTED : Fld Z Z.heap wNOT_SUPPORTED "com/example/demarcate/demarcate/Attribute" "inTransaction" "Lcom/example/demarcate/demarcate/Attribute$Entry;" (.ref wNO_TRANSACTION)) (F_in_NEVER : Fld Z Z.heap wNEVER "com/example/demarcate/demarcate/Attribute" "inTransaction" "Lcom/example/demarcate/demarcate/Attribute$Entry;" (.ref wREFUSE)) (F_in_SUPPORTS : Fld Z Z.heap wSUPPORTS "com/example/demarcate/demarcate/Attribute" "inTransaction" "Lcom/example/demarcate/demarcate/Attribute$Entry;" (.ref wJOIN)) (F_in_NESTED : Fld Z Z.heap wNESTED "com/example/demarcate/demarcate/Attribute" "inTransaction" "Lcom/example/demarcate/demarcate/Attribute$Entry;" (.ref wSAVEPOINT)) (F_ot_REQUIRED : Fld Z Z.heap wREQUIRED "com/example/demarcate/demarcate/Attribute" "otherwise" "Lcom/example/demarcate/demarcate/Attribute$Entry;" (.ref wNEW_TRANSACTION)) (F_ot_REQUIRES_NEW : Fld Z Z.heap wREQUIRES_NEW "com/example/demarcate/demarcate/Attribute" "otherwise" "Lcom/example/demarcate/demarcate/Attribute$Entry;" (.ref wNEW_TRANSACTION)) (F_ot_MANDATORY : Fld Z Z.heap wMANDATORY "com/example/demarcate/demarcate/Attribute" "otherwise" "Lcom/example/demarcate/demarcate/Attribute$Entry;" (.ref wREFUSE)) (F_ot_NOT_SUPPORTED : Fld Z Z.heap wNOT_SUPPORTED "com/example/demarcate/demarcate/Attribute" "otherwise" "Lcom/example/demarcate/demarcate/Attribute$Entry;" (.ref wNO_TRANSACTION)) (F_ot_NEVER : Fld Z Z.heap wNEVER "com/example/demarcate/demarcate/Attribute" "otherwise" "Lcom/example/demarcate/demarcate/Attribute$Entry;" (.ref wNO_TRANSACTION)) (F_ot_SUPPORTS : Fld Z Z.heap wSUPPORTS "com/example/demarcate/demarcate/Attribute" "otherwise" "Lcom/example/demarcate/demarcate/Attribute$Entry;" (.ref wNO_TRANSACTION)) (F_ot_NESTED : Fld Z Z.heap wNESTED "com/example/demarcate/demarcate/Attribute" "otherwise" "Lcom/example/demarcate/demarcate/Attribute$Entry;" (.ref wNEW_TRANSACTION)) :
    MetFree l x (head1 (Jvm.Cond.code x code maxLocals ret :: ws) room_1) (fun a U => a = #[(.int p0), (.int p1)] ∧ Z.Warmed39 U.vm ∧ U.heap = h0) (fun _ _ _ _ _ => True) (fun _ U o U' => ∃ v L, o = .returned v ∧ own_law_Q Z p0 p1 wREQUIRED wREQUIRES_NEW wMANDATORY wNOT_SUPPORTED wNEVER wSUPPORTS wNESTED wJOIN wNEW_TRANSACTION wREFUSE wNO_TRANSACTION wSAVEPOINT h0 n0 v U'.heap L ∧ FrameEnd U o U' L room_1.cells room_1.slots) := by
  refine MetFree.of_bodySF own_law_pn hisR ?_
  intro p e s m args below meth c s₁ Bd hml0 hP hK
  obtain ⟨rfl, hZ, hh⟩ := hP
  have hx := Bd.exec
  have hby := Bd.bytes
  have hlk := Bd.notSynchronized
  have hml : c.maxLocals = 6 := hml0
  have hown : s.vm.findClass "com/example/demarcate/demarcate/AttributeEntryPinLaw" = some m.cls := findClass_of_methodNamed Bd.named
  have hnm := (name_of_methodNamed Bd.named Bd.method).1
  have X : Stand p l e room_1 s m #[(.int p0), (.int p1)] below meth c s₁ [] 0 0 := Stand.of_body Bd
  have eT : s₁.heap = h0 := by rw [← hh, Bd.state]; rfl
  have N := Fr.nil n0
  have K0 := Keep.refl h0 []
  show own_Ends p e below (own_Post s below (own_law_Q Z p0 p1 wREQUIRED wREQUIRES_NEW wMANDATORY wNOT_SUPPORTED wNEVER wSUPPORTS wNESTED wJOIN wNEW_TRANSACTION wREFUSE wNO_TRANSACTION wSAVEPOINT h0 n0) room_1.cells room_1.slots) s₁ (entryFrame m #[(.int p0), (.int p1)] maxLocals)
  rw [own_law_ef m p0 p1]
  obtain ⟨T, hT⟩ : ∃ z, z = s₁ := ⟨_, rfl⟩
  rw [← hT] at X eT ⊢
  obtain ⟨h, hh0⟩ : ∃ z, z = h0 := ⟨_, rfl⟩
  rw [← hh0] at eT
  replace O : Old Z n0 h := by rw [hh0]; exact O
  replace K0 : Keep h0 h [] := by rw [hh0]; exact K0
  refine own_via (T' := T) (g' := (mkF m 1 #[.val (.int p0), .val (.int p1), .unset, .unset, .unset, .unset] [(.int p0)])) (fun t_ k_ => XS.iloadN X.here hx rfl (hb hby at_0) rfl k_) ?_
  refine own_via (T' := T) (g' := (mkF m 3 #[.val (.int p0), .val (.int p1), .unset, .unset, .unset, .unset] [(.int (2147483647 : Int32)), (.int p0)])) (fun t_ k_ => X.ldcInt hx hown (mvT hZ (hw _ (List.mem_of_getElem? (i := 0) rfl))) (g := (mkF m 1 #[.val (.int p0), .val (.int p1), .unset, .unset, .unset, .unset] [(.int p0)])) rfl (hb hby at_1) _ k_) ?_
  refine own_via (T' := T) (g' := (mkF m 4 #[.val (.int p0), .val (.int p1), .unset, .unset, .unset, .unset] [(.int (p0 &&& (2147483647 : Int32)))])) (fun t_ k_ => XS.iand X.here hx rfl (hb hby at_3) rfl k_) ?_
  refine own_via (T' := T) (g' := (mkF m 6 #[.val (.int p0), .val (.int p1), .unset, .unset, .unset, .unset] [(.int (7 : Int32)), (.int (p0 &&& (2147483647 : Int32)))])) (fun t_ k_ => XS.bipush X.here hx rfl (hb hby at_4) k_) ?_
  refine own_via (T' := T) (g' := (mkF m 7 #[.val (.int p0), .val (.int p1), .unset, .unset, .unset, .unset] [(.int ((p0 &&& (2147483647 : Int32)) % (7 : Int32)))])) (fun t_ k_ => iremM (g := (mkF m 6 #[.val (.int p0), .val (.int p1), .unset, .unset, .unset, .unset] [(.int (7 : Int32)), (.int (p0 &&& (2147483647 : Int32)))])) X hx rfl (hb hby at_6) rfl (by decide) k_) ?_
  obtain ⟨k, hd_k⟩ : ∃ z, z = ((p0 &&& (2147483647 : Int32)) % (7 : Int32)) := ⟨_, rfl⟩
  rw [← hd_k]
  refine own_via (T' := T) (g' := (mkF m 8 #[.val (.int p0), .val (.int p1), .val (.int k), .unset, .unset, .unset] [])) (fun t_ k_ => XS.istoreN X.here hx rfl (hb hby at_7) rfl (l' := #[.val (.int p0), .val (.int p1), .val (.int k), .unset, .unset, .unset]) rfl k_) ?_
  refine own_via (T' := T) (g' := (mkF m 9 #[.val (.int p0), .val (.int p1), .val (.int k), .unset, .unset, .unset] [(.int p1)])) (fun t_ k_ => XS.iloadN X.here hx rfl (hb hby at_8) rfl k_) ?_
  refine own_via (T' := T) (g' := (mkF m 10 #[.val (.int p0), .val (.int p1), .val (.int k), .unset, .unset, .unset] [(.int (1 : Int32)), (.int p1)])) (fun t_ k_ => XS.iconst X.here hx rfl (hb hby at_9) k_) ?_
  refine own_via (T' := T) (g' := (mkF m 11 #[.val (.int p0), .val (.int p1), .val (.int k), .unset, .unset, .unset] [(.int (p1 &&& (1 : Int32)))])) (fun t_ k_ => XS.iand X.here hx rfl (hb hby at_10) rfl k_) ?_
  by_cases hc1 : (p1 &&& (1 : Int32)) = (0 : Int32)
  · refine own_via (T' := T) (g' := (mkF m 18 #[.val (.int p0), .val (.int p1), .val (.int k), .unset, .unset, .unset] [])) (fun t_ k_ => XS.ifYes X.here hx rfl (pc0 := 11) (pc' := 18) rfl (hb hby at_11) rfl ((if0 _ _).trans (teq hc1).1) (by decide) (by decide) k_) ?_
    refine own_via (T' := T) (g' := (mkF m 19 #[.val (.int p0), .val (.int p1), .val (.int k), .unset, .unset, .unset] [(.int (0 : Int32))])) (fun t_ k_ => XS.iconst X.here hx rfl (hb hby at_18) k_) ?_
    refine own_via (T' := T) (g' := (mkF m 20 #[.val (.int p0), .val (.int p1), .val (.int k), .val (.int (0 : Int32)), .unset, .unset] [])) (fun t_ k_ => XS.istoreN X.here hx rfl (hb hby at_19) rfl (l' := #[.val (.int p0), .val (.int p1), .val (.int k), .val (.int (0 : Int32)), .unset, .unset]) rfl k_) ?_
    refine own_via (T' := T) (g' := (mkF m 21 #[.val (.int p0), .val (.int p1), .val (.int k), .val (.int (0 : Int32)), .unset, .unset] [(.int k)])) (fun t_ k_ => XS.iloadN X.here hx rfl (hb hby at_20) rfl k_) ?_
    by_cases hc2 : k = (0 : Int32)
    · obtain ⟨_, _, ⟨T, Lq, kq, nq⟩, -, X, ⟨Lc, hQ, lq, yq, zq⟩, st⟩ := Jvm.LawKit.callS X hx (y := (⟨"com/example/demarcate/demarcate/AttributeEntryPinLaw", "pick", "(I)Lcom/example/demarcate/demarcate/Attribute;"⟩ : MethodName)) hown (mvT hZ (hw _ (List.mem_of_getElem? (i := 1) rfl))) (mvT hZ (hw _ (List.mem_of_getElem? (i := 2) rfl))) (mvT hZ (hw _ (List.mem_of_getElem? (i := 3) rfl))) (mvT hZ (hw _ (List.mem_of_getElem? (i := 4) rfl))) (by decide) (backOf (W := 0) (own_pick l Z a0 hw [] k wREQUIRED wREQUIRES_NEW wMANDATORY wNOT_SUPPORTED wNEVER wSUPPORTS wNESTED wREQUIRED h n0 O S_REQUIRED S_REQUIRES_NEW S_MANDATORY S_NOT_SUPPORTED S_NEVER S_SUPPORTS S_NESTED (by simp [own_pickV, hc2])) hZ (hw _ (List.mem_of_getElem? (i := 4) rfl)) (hw _ (List.mem_of_getElem? (i := 3) rfl)) (by decide) (by decide)) (g := (mkF m 21 #[.val (.int p0), .val (.int p1), .val (.int k), .val (.int (0 : Int32)), .unset, .unset] [(.int k)])) rfl (by rw [hml]; rfl) (argsL := [(.int k)]) (rest := []) (lenOf own_pd0 rfl) rfl (by show 2 * 0 + _ ≤ _; exact Nat.le_of_eq rfl) (hb hby at_21) (fun _ _ => ⟨rfl, eT, (by decide : 0 + 0 ≤ _), (by decide : 0 + 0 ≤ _)⟩)
      dsimp only [Pt.U, Pt.locs, Pt.cells, Pt.slots] at X lq yq zq st hQ
      subst lq yq zq
      obtain ⟨rfl, Nq, eT⟩ := hQ
      replace N := Fr.app N Nq
      refine own_via (g' := (mkF m 24 #[.val (.int p0), .val (.int p1), .val (.int k), .val (.int (0 : Int32)), .unset, .unset] [(.ref wREQUIRED)])) st ?_
      refine own_via (T' := T) (g' := (mkF m 26 #[.val (.int p0), .val (.int p1), .val (.int k), .val (.int (0 : Int32)), .val (.ref wREQUIRED), .unset] [])) (fun t_ k_ => XS.astore X.here hx rfl (hb hby at_24) rfl rfl (l' := #[.val (.int p0), .val (.int p1), .val (.int k), .val (.int (0 : Int32)), .val (.ref wREQUIRED), .unset]) rfl k_) ?_
      refine own_via (T' := T) (g' := (mkF m 27 #[.val (.int p0), .val (.int p1), .val (.int k), .val (.int (0 : Int32)), .val (.ref wREQUIRED), .unset] [(.int k)])) (fun t_ k_ => XS.iloadN X.here hx rfl (hb hby at_26) rfl k_) ?_
      refine own_via (T' := T) (g' := (mkF m 28 #[.val (.int p0), .val (.int p1), .val (.int k), .val (.int (0 : Int32)), .val (.ref wREQUIRED), .unset] [(.int (0 : Int32)), (.int k)])) (fun t_ k_ => XS.iloadN X.here hx rfl (hb hby at_27) rfl k_) ?_
      obtain ⟨_, _, ⟨T, Lq, kq, nq⟩, -, X, ⟨Lc, hQ, lq, yq, zq⟩, st⟩ := Jvm.LawKit.callS X hx (y := (⟨"com/example/demarcate/demarcate/AttributeEntryPinLaw", "expect", "(IZ)Lcom/example/demarcate/demarcate/Attribute$Entry;"⟩ : MethodName)) hown (mvT hZ (hw _ (List.mem_of_getElem? (i := 8) rfl))) (mvT hZ (hw _ (List.mem_of_getElem? (i := 9) rfl))) (mvT hZ (hw _ (List.mem_of_getElem? (i := 3) rfl))) (mvT hZ (hw _ (List.mem_of_getElem? (i := 10) rfl))) (by decide) (backOf (W := 0) (own_expect l Z a0 hw [] k (0 : Int32) wJOIN wNEW_TRANSACTION wREFUSE wNO_TRANSACTION wSAVEPOINT wNEW_TRANSACTION h n0 O S_JOIN S_NEW_TRANSACTION S_REFUSE S_NO_TRANSACTION S_SAVEPOINT (by simp [own_expV, hc2])) hZ (hw _ (List.mem_of_getElem? (i := 10) rfl)) (hw _ (List.mem_of_getElem? (i := 3) rfl)) (by decide) (by decide)) (g := (mkF m 28 #[.val (.int p0), .val (.int p1), .val (.int k), .val (.int (0 : Int32)), .val (.ref wREQUIRED), .unset] [(.int (0 : Int32)), (.int k)])) rfl (by rw [hml]; rfl) (argsL := [(.int k), (.int (0 : Int32))]) (rest := []) (lenOf own_pd1 rfl) rfl (by show 2 * 0 + _ ≤ _; exact Nat.le_of_eq rfl) (hb hby at_28) (fun _ _ => ⟨rfl, eT, (by decide : 0 + 0 ≤ _), (by decide : 0 + 0 ≤ _)⟩)
      dsimp only [Pt.U, Pt.locs, Pt.cells, Pt.slots] at X lq yq zq st hQ
      subst lq yq zq
      obtain ⟨rfl, Nq, eT⟩ := hQ
      replace N := Fr.app N Nq
      refine own_via (g' := (mkF m 31 #[.val (.int p0), .val (.int p1), .val (.int k), .val (.int (0 : Int32)), .val (.ref wREQUIRED), .unset] [(.ref wNEW_TRANSACTION)])) st ?_
      refine own_via (T' := T) (g' := (mkF m 33 #[.val (.int p0), .val (.int p1), .val (.int k), .val (.int (0 : Int32)), .val (.ref wREQUIRED), .val (.ref wNEW_TRANSACTION)] [])) (fun t_ k_ => XS.astore X.here hx rfl (hb hby at_31) rfl rfl (l' := #[.val (.int p0), .val (.int p1), .val (.int k), .val (.int (0 : Int32)), .val (.ref wREQUIRED), .val (.ref wNEW_TRANSACTION)]) rfl k_) ?_
      refine own_via (T' := T) (g' := (mkF m 35 #[.val (.int p0), .val (.int p1), .val (.int k), .val (.int (0 : Int32)), .val (.ref wREQUIRED), .val (.ref wNEW_TRANSACTION)] [(.ref wREQUIRED)])) (fun t_ k_ => XS.aload X.here hx rfl (hb hby at_33) rfl rfl k_) ?_
      refine own_via (T' := T) (g' := (mkF m 36 #[.val (.int p0), .val (.int p1), .val (.int k), .val (.int (0 : Int32)), .val (.ref wREQUIRED), .val (.ref wNEW_TRANSACTION)] [(.int (0 : Int32)), (.ref wREQUIRED)])) (fun t_ k_ => XS.iloadN X.here hx rfl (hb hby at_35) rfl k_) ?_
      obtain ⟨cq, kq, qa, qb, qc⟩ := isOf hZ eT (E_REQUIRED.ext O.2)
      obtain ⟨_, _, ⟨T, Lq, kq, nq⟩, -, X, ⟨Lc, hQ, lq, yq, zq⟩, st⟩ := X.virtualBack hx (y := (⟨"com/example/demarcate/demarcate/Attribute", "entry", "(Z)Lcom/example/demarcate/demarcate/Attribute$Entry;"⟩ : MethodName)) (z := (⟨"com/example/demarcate/demarcate/Attribute", "entry", "(Z)Lcom/example/demarcate/demarcate/Attribute$Entry;"⟩ : MethodName)) hown (mvT hZ (hw _ (List.mem_of_getElem? (i := 14) rfl))) (mvT hZ (hw _ (List.mem_of_getElem? (i := 15) rfl))) (notFace_of_selects (args := #[]) (mvT hZ (hw _ (List.mem_of_getElem? (i := 17) rfl)))) (mvT hZ (hw _ (List.mem_of_getElem? (i := 17) rfl))) (mvT hZ (hw _ (List.mem_of_getElem? (i := 16) rfl))) (by decide) (backOf (W := 0) (own_entry l Z a0 hw [] wREQUIRED (0 : Int32) wJOIN wNEW_TRANSACTION wNEW_TRANSACTION h n0 O F_in_REQUIRED F_ot_REQUIRED ⟨fun q => by first | rfl | exact absurd q (by decide), fun q => by first | rfl | exact absurd rfl q⟩) hZ (hw _ (List.mem_of_getElem? (i := 18) rfl)) (hw _ (List.mem_of_getElem? (i := 6) rfl)) (by decide) (by decide)) qa qc (g := (mkF m 36 #[.val (.int p0), .val (.int p1), .val (.int k), .val (.int (0 : Int32)), .val (.ref wREQUIRED), .val (.ref wNEW_TRANSACTION)] [(.int (0 : Int32)), (.ref wREQUIRED)])) rfl (by rw [hml]; rfl) (Steps.refl _) (argsL := [(.int (0 : Int32))]) (rest := []) (lenOf own_pd2 rfl) rfl (by show 2 * 0 + _ ≤ _; exact Nat.le_of_eq rfl) (hb hby at_36) (fun _ _ => ⟨rfl, eT, (by decide : 0 + 0 ≤ _), (by decide : 0 + 0 ≤ _)⟩)
      dsimp only [Pt.U, Pt.locs, Pt.cells, Pt.slots] at X lq yq zq st hQ
      subst lq yq zq
      obtain ⟨rfl, Nq, eT⟩ := hQ
      replace N := Fr.app N Nq
      refine own_viaT (g' := (mkF m 39 #[.val (.int p0), .val (.int p1), .val (.int k), .val (.int (0 : Int32)), .val (.ref wREQUIRED), .val (.ref wNEW_TRANSACTION)] [(.ref wNEW_TRANSACTION)])) st ?_
      refine own_via (T' := T) (g' := (mkF m 41 #[.val (.int p0), .val (.int p1), .val (.int k), .val (.int (0 : Int32)), .val (.ref wREQUIRED), .val (.ref wNEW_TRANSACTION)] [(.ref wNEW_TRANSACTION), (.ref wNEW_TRANSACTION)])) (fun t_ k_ => XS.aload X.here hx rfl (hb hby at_39) rfl rfl k_) ?_
      refine own_via (T' := T) (g' := (mkF m 44 #[.val (.int p0), .val (.int p1), .val (.int k), .val (.int (0 : Int32)), .val (.ref wREQUIRED), .val (.ref wNEW_TRANSACTION)] [])) (fun t_ k_ => Jvm.RoadKit.acmp (g := (mkF m 41 #[.val (.int p0), .val (.int p1), .val (.int k), .val (.int (0 : Int32)), .val (.ref wREQUIRED), .val (.ref wNEW_TRANSACTION)] [(.ref wNEW_TRANSACTION), (.ref wNEW_TRANSACTION)])) X hx rfl rfl rfl (pc0 := 41) (pc' := 44) (same := true) rfl (hb hby at_41) rfl (decide_eq_true rfl) (by decide) (by decide) k_) ?_
      refine own_via (T' := T) (g' := (mkF m 45 #[.val (.int p0), .val (.int p1), .val (.int k), .val (.int (0 : Int32)), .val (.ref wREQUIRED), .val (.ref wNEW_TRANSACTION)] [(.int (1 : Int32))])) (fun t_ k_ => XS.iconst X.here hx rfl (hb hby at_44) k_) ?_
      refine own_via (T' := T) (g' := (mkF m 49 #[.val (.int p0), .val (.int p1), .val (.int k), .val (.int (0 : Int32)), .val (.ref wREQUIRED), .val (.ref wNEW_TRANSACTION)] [(.int (1 : Int32))])) (fun t_ k_ => XS.goto X.here hx rfl (pc0 := 45) (pc' := 49) rfl (hb hby at_45) (by decide) (by decide) k_) ?_
      refine own_retN X hx hlk (t := .boolean) Bd.returns (by simp) (hb hby at_49) (by decide) (by decide) ?_
      rw [eT]
      exact ⟨rfl, N, trivial⟩
    · by_cases hc3 : k = (1 : Int32)
      · obtain ⟨_, _, ⟨T, Lq, kq, nq⟩, -, X, ⟨Lc, hQ, lq, yq, zq⟩, st⟩ := Jvm.LawKit.callS X hx (y := (⟨"com/example/demarcate/demarcate/AttributeEntryPinLaw", "pick", "(I)Lcom/example/demarcate/demarcate/Attribute;"⟩ : MethodName)) hown (mvT hZ (hw _ (List.mem_of_getElem? (i := 1) rfl))) (mvT hZ (hw _ (List.mem_of_getElem? (i := 2) rfl))) (mvT hZ (hw _ (List.mem_of_getElem? (i := 3) rfl))) (mvT hZ (hw _ (List.mem_of_getElem? (i := 4) rfl))) (by decide) (backOf (W := 0) (own_pick l Z a0 hw [] k wREQUIRED wREQUIRES_NEW wMANDATORY wNOT_SUPPORTED wNEVER wSUPPORTS wNESTED wREQUIRES_NEW h n0 O S_REQUIRED S_REQUIRES_NEW S_MANDATORY S_NOT_SUPPORTED S_NEVER S_SUPPORTS S_NESTED (by simp [own_pickV, hc2, hc3])) hZ (hw _ (List.mem_of_getElem? (i := 4) rfl)) (hw _ (List.mem_of_getElem? (i := 3) rfl)) (by decide) (by decide)) (g := (mkF m 21 #[.val (.int p0), .val (.int p1), .val (.int k), .val (.int (0 : Int32)), .unset, .unset] [(.int k)])) rfl (by rw [hml]; rfl) (argsL := [(.int k)]) (rest := []) (lenOf own_pd0 rfl) rfl (by show 2 * 0 + _ ≤ _; exact Nat.le_of_eq rfl) (hb hby at_21) (fun _ _ => ⟨rfl, eT, (by decide : 0 + 0 ≤ _), (by decide : 0 + 0 ≤ _)⟩)
        dsimp only [Pt.U, Pt.locs, Pt.cells, Pt.slots] at X lq yq zq st hQ
        subst lq yq zq
        obtain ⟨rfl, Nq, eT⟩ := hQ
        replace N := Fr.app N Nq
        refine own_via (g' := (mkF m 24 #[.val (.int p0), .val (.int p1), .val (.int k), .val (.int (0 : Int32)), .unset, .unset] [(.ref wREQUIRES_NEW)])) st ?_
        refine own_via (T' := T) (g' := (mkF m 26 #[.val (.int p0), .val (.int p1), .val (.int k), .val (.int (0 : Int32)), .val (.ref wREQUIRES_NEW), .unset] [])) (fun t_ k_ => XS.astore X.here hx rfl (hb hby at_24) rfl rfl (l' := #[.val (.int p0), .val (.int p1), .val (.int k), .val (.int (0 : Int32)), .val (.ref wREQUIRES_NEW), .unset]) rfl k_) ?_
        refine own_via (T' := T) (g' := (mkF m 27 #[.val (.int p0), .val (.int p1), .val (.int k), .val (.int (0 : Int32)), .val (.ref wREQUIRES_NEW), .unset] [(.int k)])) (fun t_ k_ => XS.iloadN X.here hx rfl (hb hby at_26) rfl k_) ?_
        refine own_via (T' := T) (g' := (mkF m 28 #[.val (.int p0), .val (.int p1), .val (.int k), .val (.int (0 : Int32)), .val (.ref wREQUIRES_NEW), .unset] [(.int (0 : Int32)), (.int k)])) (fun t_ k_ => XS.iloadN X.here hx rfl (hb hby at_27) rfl k_) ?_
        obtain ⟨_, _, ⟨T, Lq, kq, nq⟩, -, X, ⟨Lc, hQ, lq, yq, zq⟩, st⟩ := Jvm.LawKit.callS X hx (y := (⟨"com/example/demarcate/demarcate/AttributeEntryPinLaw", "expect", "(IZ)Lcom/example/demarcate/demarcate/Attribute$Entry;"⟩ : MethodName)) hown (mvT hZ (hw _ (List.mem_of_getElem? (i := 8) rfl))) (mvT hZ (hw _ (List.mem_of_getElem? (i := 9) rfl))) (mvT hZ (hw _ (List.mem_of_getElem? (i := 3) rfl))) (mvT hZ (hw _ (List.mem_of_getElem? (i := 10) rfl))) (by decide) (backOf (W := 0) (own_expect l Z a0 hw [] k (0 : Int32) wJOIN wNEW_TRANSACTION wREFUSE wNO_TRANSACTION wSAVEPOINT wNEW_TRANSACTION h n0 O S_JOIN S_NEW_TRANSACTION S_REFUSE S_NO_TRANSACTION S_SAVEPOINT (by simp [own_expV, hc2, hc3])) hZ (hw _ (List.mem_of_getElem? (i := 10) rfl)) (hw _ (List.mem_of_getElem? (i := 3) rfl)) (by decide) (by decide)) (g := (mkF m 28 #[.val (.int p0), .val (.int p1), .val (.int k), .val (.int (0 : Int32)), .val (.ref wREQUIRES_NEW), .unset] [(.int (0 : Int32)), (.int k)])) rfl (by rw [hml]; rfl) (argsL := [(.int k), (.int (0 : Int32))]) (rest := []) (lenOf own_pd1 rfl) rfl (by show 2 * 0 + _ ≤ _; exact Nat.le_of_eq rfl) (hb hby at_28) (fun _ _ => ⟨rfl, eT, (by decide : 0 + 0 ≤ _), (by decide : 0 + 0 ≤ _)⟩)
        dsimp only [Pt.U, Pt.locs, Pt.cells, Pt.slots] at X lq yq zq st hQ
        subst lq yq zq
        obtain ⟨rfl, Nq, eT⟩ := hQ
        replace N := Fr.app N Nq
        refine own_via (g' := (mkF m 31 #[.val (.int p0), .val (.int p1), .val (.int k), .val (.int (0 : Int32)), .val (.ref wREQUIRES_NEW), .unset] [(.ref wNEW_TRANSACTION)])) st ?_
        refine own_via (T' := T) (g' := (mkF m 33 #[.val (.int p0), .val (.int p1), .val (.int k), .val (.int (0 : Int32)), .val (.ref wREQUIRES_NEW), .val (.ref wNEW_TRANSACTION)] [])) (fun t_ k_ => XS.astore X.here hx rfl (hb hby at_31) rfl rfl (l' := #[.val (.int p0), .val (.int p1), .val (.int k), .val (.int (0 : Int32)), .val (.ref wREQUIRES_NEW), .val (.ref wNEW_TRANSACTION)]) rfl k_) ?_
        refine own_via (T' := T) (g' := (mkF m 35 #[.val (.int p0), .val (.int p1), .val (.int k), .val (.int (0 : Int32)), .val (.ref wREQUIRES_NEW), .val (.ref wNEW_TRANSACTION)] [(.ref wREQUIRES_NEW)])) (fun t_ k_ => XS.aload X.here hx rfl (hb hby at_33) rfl rfl k_) ?_
        refine own_via (T' := T) (g' := (mkF m 36 #[.val (.int p0), .val (.int p1), .val (.int k), .val (.int (0 : Int32)), .val (.ref wREQUIRES_NEW), .val (.ref wNEW_TRANSACTION)] [(.int (0 : Int32)), (.ref wREQUIRES_NEW)])) (fun t_ k_ => XS.iloadN X.here hx rfl (hb hby at_35) rfl k_) ?_
        obtain ⟨cq, kq, qa, qb, qc⟩ := isOf hZ eT (E_REQUIRES_NEW.ext O.2)
        obtain ⟨_, _, ⟨T, Lq, kq, nq⟩, -, X, ⟨Lc, hQ, lq, yq, zq⟩, st⟩ := X.virtualBack hx (y := (⟨"com/example/demarcate/demarcate/Attribute", "entry", "(Z)Lcom/example/demarcate/demarcate/Attribute$Entry;"⟩ : MethodName)) (z := (⟨"com/example/demarcate/demarcate/Attribute", "entry", "(Z)Lcom/example/demarcate/demarcate/Attribute$Entry;"⟩ : MethodName)) hown (mvT hZ (hw _ (List.mem_of_getElem? (i := 14) rfl))) (mvT hZ (hw _ (List.mem_of_getElem? (i := 15) rfl))) (notFace_of_selects (args := #[]) (mvT hZ (hw _ (List.mem_of_getElem? (i := 17) rfl)))) (mvT hZ (hw _ (List.mem_of_getElem? (i := 17) rfl))) (mvT hZ (hw _ (List.mem_of_getElem? (i := 16) rfl))) (by decide) (backOf (W := 0) (own_entry l Z a0 hw [] wREQUIRES_NEW (0 : Int32) wNEW_TRANSACTION wNEW_TRANSACTION wNEW_TRANSACTION h n0 O F_in_REQUIRES_NEW F_ot_REQUIRES_NEW ⟨fun q => by first | rfl | exact absurd q (by decide), fun q => by first | rfl | exact absurd rfl q⟩) hZ (hw _ (List.mem_of_getElem? (i := 18) rfl)) (hw _ (List.mem_of_getElem? (i := 6) rfl)) (by decide) (by decide)) qa qc (g := (mkF m 36 #[.val (.int p0), .val (.int p1), .val (.int k), .val (.int (0 : Int32)), .val (.ref wREQUIRES_NEW), .val (.ref wNEW_TRANSACTION)] [(.int (0 : Int32)), (.ref wREQUIRES_NEW)])) rfl (by rw [hml]; rfl) (Steps.refl _) (argsL := [(.int (0 : Int32))]) (rest := []) (lenOf own_pd2 rfl) rfl (by show 2 * 0 + _ ≤ _; exact Nat.le_of_eq rfl) (hb hby at_36) (fun _ _ => ⟨rfl, eT, (by decide : 0 + 0 ≤ _), (by decide : 0 + 0 ≤ _)⟩)
        dsimp only [Pt.U, Pt.locs, Pt.cells, Pt.slots] at X lq yq zq st hQ
        subst lq yq zq
        obtain ⟨rfl, Nq, eT⟩ := hQ
        replace N := Fr.app N Nq
        refine own_viaT (g' := (mkF m 39 #[.val (.int p0), .val (.int p1), .val (.int k), .val (.int (0 : Int32)), .val (.ref wREQUIRES_NEW), .val (.ref wNEW_TRANSACTION)] [(.ref wNEW_TRANSACTION)])) st ?_
        refine own_via (T' := T) (g' := (mkF m 41 #[.val (.int p0), .val (.int p1), .val (.int k), .val (.int (0 : Int32)), .val (.ref wREQUIRES_NEW), .val (.ref wNEW_TRANSACTION)] [(.ref wNEW_TRANSACTION), (.ref wNEW_TRANSACTION)])) (fun t_ k_ => XS.aload X.here hx rfl (hb hby at_39) rfl rfl k_) ?_
        refine own_via (T' := T) (g' := (mkF m 44 #[.val (.int p0), .val (.int p1), .val (.int k), .val (.int (0 : Int32)), .val (.ref wREQUIRES_NEW), .val (.ref wNEW_TRANSACTION)] [])) (fun t_ k_ => Jvm.RoadKit.acmp (g := (mkF m 41 #[.val (.int p0), .val (.int p1), .val (.int k), .val (.int (0 : Int32)), .val (.ref wREQUIRES_NEW), .val (.ref wNEW_TRANSACTION)] [(.ref wNEW_TRANSACTION), (.ref wNEW_TRANSACTION)])) X hx rfl rfl rfl (pc0 := 41) (pc' := 44) (same := true) rfl (hb hby at_41) rfl (decide_eq_true rfl) (by decide) (by decide) k_) ?_
        refine own_via (T' := T) (g' := (mkF m 45 #[.val (.int p0), .val (.int p1), .val (.int k), .val (.int (0 : Int32)), .val (.ref wREQUIRES_NEW), .val (.ref wNEW_TRANSACTION)] [(.int (1 : Int32))])) (fun t_ k_ => XS.iconst X.here hx rfl (hb hby at_44) k_) ?_
        refine own_via (T' := T) (g' := (mkF m 49 #[.val (.int p0), .val (.int p1), .val (.int k), .val (.int (0 : Int32)), .val (.ref wREQUIRES_NEW), .val (.ref wNEW_TRANSACTION)] [(.int (1 : Int32))])) (fun t_ k_ => XS.goto X.here hx rfl (pc0 := 45) (pc' := 49) rfl (hb hby at_45) (by decide) (by decide) k_) ?_
        refine own_retN X hx hlk (t := .boolean) Bd.returns (by simp) (hb hby at_49) (by decide) (by decide) ?_
        rw [eT]
        exact ⟨rfl, N, trivial⟩
      · by_cases hc4 : k = (2 : Int32)
        · obtain ⟨_, _, ⟨T, Lq, kq, nq⟩, -, X, ⟨Lc, hQ, lq, yq, zq⟩, st⟩ := Jvm.LawKit.callS X hx (y := (⟨"com/example/demarcate/demarcate/AttributeEntryPinLaw", "pick", "(I)Lcom/example/demarcate/demarcate/Attribute;"⟩ : MethodName)) hown (mvT hZ (hw _ (List.mem_of_getElem? (i := 1) rfl))) (mvT hZ (hw _ (List.mem_of_getElem? (i := 2) rfl))) (mvT hZ (hw _ (List.mem_of_getElem? (i := 3) rfl))) (mvT hZ (hw _ (List.mem_of_getElem? (i := 4) rfl))) (by decide) (backOf (W := 0) (own_pick l Z a0 hw [] k wREQUIRED wREQUIRES_NEW wMANDATORY wNOT_SUPPORTED wNEVER wSUPPORTS wNESTED wMANDATORY h n0 O S_REQUIRED S_REQUIRES_NEW S_MANDATORY S_NOT_SUPPORTED S_NEVER S_SUPPORTS S_NESTED (by simp [own_pickV, hc2, hc3, hc4])) hZ (hw _ (List.mem_of_getElem? (i := 4) rfl)) (hw _ (List.mem_of_getElem? (i := 3) rfl)) (by decide) (by decide)) (g := (mkF m 21 #[.val (.int p0), .val (.int p1), .val (.int k), .val (.int (0 : Int32)), .unset, .unset] [(.int k)])) rfl (by rw [hml]; rfl) (argsL := [(.int k)]) (rest := []) (lenOf own_pd0 rfl) rfl (by show 2 * 0 + _ ≤ _; exact Nat.le_of_eq rfl) (hb hby at_21) (fun _ _ => ⟨rfl, eT, (by decide : 0 + 0 ≤ _), (by decide : 0 + 0 ≤ _)⟩)
          dsimp only [Pt.U, Pt.locs, Pt.cells, Pt.slots] at X lq yq zq st hQ
          subst lq yq zq
          obtain ⟨rfl, Nq, eT⟩ := hQ
          replace N := Fr.app N Nq
          refine own_via (g' := (mkF m 24 #[.val (.int p0), .val (.int p1), .val (.int k), .val (.int (0 : Int32)), .unset, .unset] [(.ref wMANDATORY)])) st ?_
          refine own_via (T' := T) (g' := (mkF m 26 #[.val (.int p0), .val (.int p1), .val (.int k), .val (.int (0 : Int32)), .val (.ref wMANDATORY), .unset] [])) (fun t_ k_ => XS.astore X.here hx rfl (hb hby at_24) rfl rfl (l' := #[.val (.int p0), .val (.int p1), .val (.int k), .val (.int (0 : Int32)), .val (.ref wMANDATORY), .unset]) rfl k_) ?_
          refine own_via (T' := T) (g' := (mkF m 27 #[.val (.int p0), .val (.int p1), .val (.int k), .val (.int (0 : Int32)), .val (.ref wMANDATORY), .unset] [(.int k)])) (fun t_ k_ => XS.iloadN X.here hx rfl (hb hby at_26) rfl k_) ?_
          refine own_via (T' := T) (g' := (mkF m 28 #[.val (.int p0), .val (.int p1), .val (.int k), .val (.int (0 : Int32)), .val (.ref wMANDATORY), .unset] [(.int (0 : Int32)), (.int k)])) (fun t_ k_ => XS.iloadN X.here hx rfl (hb hby at_27) rfl k_) ?_
          obtain ⟨_, _, ⟨T, Lq, kq, nq⟩, -, X, ⟨Lc, hQ, lq, yq, zq⟩, st⟩ := Jvm.LawKit.callS X hx (y := (⟨"com/example/demarcate/demarcate/AttributeEntryPinLaw", "expect", "(IZ)Lcom/example/demarcate/demarcate/Attribute$Entry;"⟩ : MethodName)) hown (mvT hZ (hw _ (List.mem_of_getElem? (i := 8) rfl))) (mvT hZ (hw _ (List.mem_of_getElem? (i := 9) rfl))) (mvT hZ (hw _ (List.mem_of_getElem? (i := 3) rfl))) (mvT hZ (hw _ (List.mem_of_getElem? (i := 10) rfl))) (by decide) (backOf (W := 0) (own_expect l Z a0 hw [] k (0 : Int32) wJOIN wNEW_TRANSACTION wREFUSE wNO_TRANSACTION wSAVEPOINT wREFUSE h n0 O S_JOIN S_NEW_TRANSACTION S_REFUSE S_NO_TRANSACTION S_SAVEPOINT (by simp [own_expV, hc2, hc3, hc4])) hZ (hw _ (List.mem_of_getElem? (i := 10) rfl)) (hw _ (List.mem_of_getElem? (i := 3) rfl)) (by decide) (by decide)) (g := (mkF m 28 #[.val (.int p0), .val (.int p1), .val (.int k), .val (.int (0 : Int32)), .val (.ref wMANDATORY), .unset] [(.int (0 : Int32)), (.int k)])) rfl (by rw [hml]; rfl) (argsL := [(.int k), (.int (0 : Int32))]) (rest := []) (lenOf own_pd1 rfl) rfl (by show 2 * 0 + _ ≤ _; exact Nat.le_of_eq rfl) (hb hby at_28) (fun _ _ => ⟨rfl, eT, (by decide : 0 + 0 ≤ _), (by decide : 0 + 0 ≤ _)⟩)
          dsimp only [Pt.U, Pt.locs, Pt.cells, Pt.slots] at X lq yq zq st hQ
          subst lq yq zq
          obtain ⟨rfl, Nq, eT⟩ := hQ
          replace N := Fr.app N Nq
          refine own_via (g' := (mkF m 31 #[.val (.int p0), .val (.int p1), .val (.int k), .val (.int (0 : Int32)), .val (.ref wMANDATORY), .unset] [(.ref wREFUSE)])) st ?_
          refine own_via (T' := T) (g' := (mkF m 33 #[.val (.int p0), .val (.int p1), .val (.int k), .val (.int (0 : Int32)), .val (.ref wMANDATORY), .val (.ref wREFUSE)] [])) (fun t_ k_ => XS.astore X.here hx rfl (hb hby at_31) rfl rfl (l' := #[.val (.int p0), .val (.int p1), .val (.int k), .val (.int (0 : Int32)), .val (.ref wMANDATORY), .val (.ref wREFUSE)]) rfl k_) ?_
          refine own_via (T' := T) (g' := (mkF m 35 #[.val (.int p0), .val (.int p1), .val (.int k), .val (.int (0 : Int32)), .val (.ref wMANDATORY), .val (.ref wREFUSE)] [(.ref wMANDATORY)])) (fun t_ k_ => XS.aload X.here hx rfl (hb hby at_33) rfl rfl k_) ?_
          refine own_via (T' := T) (g' := (mkF m 36 #[.val (.int p0), .val (.int p1), .val (.int k), .val (.int (0 : Int32)), .val (.ref wMANDATORY), .val (.ref wREFUSE)] [(.int (0 : Int32)), (.ref wMANDATORY)])) (fun t_ k_ => XS.iloadN X.here hx rfl (hb hby at_35) rfl k_) ?_
          obtain ⟨cq, kq, qa, qb, qc⟩ := isOf hZ eT (E_MANDATORY.ext O.2)
          obtain ⟨_, _, ⟨T, Lq, kq, nq⟩, -, X, ⟨Lc, hQ, lq, yq, zq⟩, st⟩ := X.virtualBack hx (y := (⟨"com/example/demarcate/demarcate/Attribute", "entry", "(Z)Lcom/example/demarcate/demarcate/Attribute$Entry;"⟩ : MethodName)) (z := (⟨"com/example/demarcate/demarcate/Attribute", "entry", "(Z)Lcom/example/demarcate/demarcate/Attribute$Entry;"⟩ : MethodName)) hown (mvT hZ (hw _ (List.mem_of_getElem? (i := 14) rfl))) (mvT hZ (hw _ (List.mem_of_getElem? (i := 15) rfl))) (notFace_of_selects (args := #[]) (mvT hZ (hw _ (List.mem_of_getElem? (i := 17) rfl)))) (mvT hZ (hw _ (List.mem_of_getElem? (i := 17) rfl))) (mvT hZ (hw _ (List.mem_of_getElem? (i := 16) rfl))) (by decide) (backOf (W := 0) (own_entry l Z a0 hw [] wMANDATORY (0 : Int32) wJOIN wREFUSE wREFUSE h n0 O F_in_MANDATORY F_ot_MANDATORY ⟨fun q => by first | rfl | exact absurd q (by decide), fun q => by first | rfl | exact absurd rfl q⟩) hZ (hw _ (List.mem_of_getElem? (i := 18) rfl)) (hw _ (List.mem_of_getElem? (i := 6) rfl)) (by decide) (by decide)) qa qc (g := (mkF m 36 #[.val (.int p0), .val (.int p1), .val (.int k), .val (.int (0 : Int32)), .val (.ref wMANDATORY), .val (.ref wREFUSE)] [(.int (0 : Int32)), (.ref wMANDATORY)])) rfl (by rw [hml]; rfl) (Steps.refl _) (argsL := [(.int (0 : Int32))]) (rest := []) (lenOf own_pd2 rfl) rfl (by show 2 * 0 + _ ≤ _; exact Nat.le_of_eq rfl) (hb hby at_36) (fun _ _ => ⟨rfl, eT, (by decide : 0 + 0 ≤ _), (by decide : 0 + 0 ≤ _)⟩)
          dsimp only [Pt.U, Pt.locs, Pt.cells, Pt.slots] at X lq yq zq st hQ
          subst lq yq zq
          obtain ⟨rfl, Nq, eT⟩ := hQ
          replace N := Fr.app N Nq
          refine own_viaT (g' := (mkF m 39 #[.val (.int p0), .val (.int p1), .val (.int k), .val (.int (0 : Int32)), .val (.ref wMANDATORY), .val (.ref wREFUSE)] [(.ref wREFUSE)])) st ?_
          refine own_via (T' := T) (g' := (mkF m 41 #[.val (.int p0), .val (.int p1), .val (.int k), .val (.int (0 : Int32)), .val (.ref wMANDATORY), .val (.ref wREFUSE)] [(.ref wREFUSE), (.ref wREFUSE)])) (fun t_ k_ => XS.aload X.here hx rfl (hb hby at_39) rfl rfl k_) ?_
          refine own_via (T' := T) (g' := (mkF m 44 #[.val (.int p0), .val (.int p1), .val (.int k), .val (.int (0 : Int32)), .val (.ref wMANDATORY), .val (.ref wREFUSE)] [])) (fun t_ k_ => Jvm.RoadKit.acmp (g := (mkF m 41 #[.val (.int p0), .val (.int p1), .val (.int k), .val (.int (0 : Int32)), .val (.ref wMANDATORY), .val (.ref wREFUSE)] [(.ref wREFUSE), (.ref wREFUSE)])) X hx rfl rfl rfl (pc0 := 41) (pc' := 44) (same := true) rfl (hb hby at_41) rfl (decide_eq_true rfl) (by decide) (by decide) k_) ?_
          refine own_via (T' := T) (g' := (mkF m 45 #[.val (.int p0), .val (.int p1), .val (.int k), .val (.int (0 : Int32)), .val (.ref wMANDATORY), .val (.ref wREFUSE)] [(.int (1 : Int32))])) (fun t_ k_ => XS.iconst X.here hx rfl (hb hby at_44) k_) ?_
          refine own_via (T' := T) (g' := (mkF m 49 #[.val (.int p0), .val (.int p1), .val (.int k), .val (.int (0 : Int32)), .val (.ref wMANDATORY), .val (.ref wREFUSE)] [(.int (1 : Int32))])) (fun t_ k_ => XS.goto X.here hx rfl (pc0 := 45) (pc' := 49) rfl (hb hby at_45) (by decide) (by decide) k_) ?_
          refine own_retN X hx hlk (t := .boolean) Bd.returns (by simp) (hb hby at_49) (by decide) (by decide) ?_
          rw [eT]
          exact ⟨rfl, N, trivial⟩
        · by_cases hc5 : k = (3 : Int32)
          · obtain ⟨_, _, ⟨T, Lq, kq, nq⟩, -, X, ⟨Lc, hQ, lq, yq, zq⟩, st⟩ := Jvm.LawKit.callS X hx (y := (⟨"com/example/demarcate/demarcate/AttributeEntryPinLaw", "pick", "(I)Lcom/example/demarcate/demarcate/Attribute;"⟩ : MethodName)) hown (mvT hZ (hw _ (List.mem_of_getElem? (i := 1) rfl))) (mvT hZ (hw _ (List.mem_of_getElem? (i := 2) rfl))) (mvT hZ (hw _ (List.mem_of_getElem? (i := 3) rfl))) (mvT hZ (hw _ (List.mem_of_getElem? (i := 4) rfl))) (by decide) (backOf (W := 0) (own_pick l Z a0 hw [] k wREQUIRED wREQUIRES_NEW wMANDATORY wNOT_SUPPORTED wNEVER wSUPPORTS wNESTED wNOT_SUPPORTED h n0 O S_REQUIRED S_REQUIRES_NEW S_MANDATORY S_NOT_SUPPORTED S_NEVER S_SUPPORTS S_NESTED (by simp [own_pickV, hc2, hc3, hc4, hc5])) hZ (hw _ (List.mem_of_getElem? (i := 4) rfl)) (hw _ (List.mem_of_getElem? (i := 3) rfl)) (by decide) (by decide)) (g := (mkF m 21 #[.val (.int p0), .val (.int p1), .val (.int k), .val (.int (0 : Int32)), .unset, .unset] [(.int k)])) rfl (by rw [hml]; rfl) (argsL := [(.int k)]) (rest := []) (lenOf own_pd0 rfl) rfl (by show 2 * 0 + _ ≤ _; exact Nat.le_of_eq rfl) (hb hby at_21) (fun _ _ => ⟨rfl, eT, (by decide : 0 + 0 ≤ _), (by decide : 0 + 0 ≤ _)⟩)
            dsimp only [Pt.U, Pt.locs, Pt.cells, Pt.slots] at X lq yq zq st hQ
            subst lq yq zq
            obtain ⟨rfl, Nq, eT⟩ := hQ
            replace N := Fr.app N Nq
            refine own_via (g' := (mkF m 24 #[.val (.int p0), .val (.int p1), .val (.int k), .val (.int (0 : Int32)), .unset, .unset] [(.ref wNOT_SUPPORTED)])) st ?_
            refine own_via (T' := T) (g' := (mkF m 26 #[.val (.int p0), .val (.int p1), .val (.int k), .val (.int (0 : Int32)), .val (.ref wNOT_SUPPORTED), .unset] [])) (fun t_ k_ => XS.astore X.here hx rfl (hb hby at_24) rfl rfl (l' := #[.val (.int p0), .val (.int p1), .val (.int k), .val (.int (0 : Int32)), .val (.ref wNOT_SUPPORTED), .unset]) rfl k_) ?_
            refine own_via (T' := T) (g' := (mkF m 27 #[.val (.int p0), .val (.int p1), .val (.int k), .val (.int (0 : Int32)), .val (.ref wNOT_SUPPORTED), .unset] [(.int k)])) (fun t_ k_ => XS.iloadN X.here hx rfl (hb hby at_26) rfl k_) ?_
            refine own_via (T' := T) (g' := (mkF m 28 #[.val (.int p0), .val (.int p1), .val (.int k), .val (.int (0 : Int32)), .val (.ref wNOT_SUPPORTED), .unset] [(.int (0 : Int32)), (.int k)])) (fun t_ k_ => XS.iloadN X.here hx rfl (hb hby at_27) rfl k_) ?_
            obtain ⟨_, _, ⟨T, Lq, kq, nq⟩, -, X, ⟨Lc, hQ, lq, yq, zq⟩, st⟩ := Jvm.LawKit.callS X hx (y := (⟨"com/example/demarcate/demarcate/AttributeEntryPinLaw", "expect", "(IZ)Lcom/example/demarcate/demarcate/Attribute$Entry;"⟩ : MethodName)) hown (mvT hZ (hw _ (List.mem_of_getElem? (i := 8) rfl))) (mvT hZ (hw _ (List.mem_of_getElem? (i := 9) rfl))) (mvT hZ (hw _ (List.mem_of_getElem? (i := 3) rfl))) (mvT hZ (hw _ (List.mem_of_getElem? (i := 10) rfl))) (by decide) (backOf (W := 0) (own_expect l Z a0 hw [] k (0 : Int32) wJOIN wNEW_TRANSACTION wREFUSE wNO_TRANSACTION wSAVEPOINT wNO_TRANSACTION h n0 O S_JOIN S_NEW_TRANSACTION S_REFUSE S_NO_TRANSACTION S_SAVEPOINT (by simp [own_expV, hc2, hc3, hc4, hc5])) hZ (hw _ (List.mem_of_getElem? (i := 10) rfl)) (hw _ (List.mem_of_getElem? (i := 3) rfl)) (by decide) (by decide)) (g := (mkF m 28 #[.val (.int p0), .val (.int p1), .val (.int k), .val (.int (0 : Int32)), .val (.ref wNOT_SUPPORTED), .unset] [(.int (0 : Int32)), (.int k)])) rfl (by rw [hml]; rfl) (argsL := [(.int k), (.int (0 : Int32))]) (rest := []) (lenOf own_pd1 rfl) rfl (by show 2 * 0 + _ ≤ _; exact Nat.le_of_eq rfl) (hb hby at_28) (fun _ _ => ⟨rfl, eT, (by decide : 0 + 0 ≤ _), (by decide : 0 + 0 ≤ _)⟩)
            dsimp only [Pt.U, Pt.locs, Pt.cells, Pt.slots] at X lq yq zq st hQ
            subst lq yq zq
            obtain ⟨rfl, Nq, eT⟩ := hQ
            replace N := Fr.app N Nq
            refine own_via (g' := (mkF m 31 #[.val (.int p0), .val (.int p1), .val (.int k), .val (.int (0 : Int32)), .val (.ref wNOT_SUPPORTED), .unset] [(.ref wNO_TRANSACTION)])) st ?_
            refine own_via (T' := T) (g' := (mkF m 33 #[.val (.int p0), .val (.int p1), .val (.int k), .val (.int (0 : Int32)), .val (.ref wNOT_SUPPORTED), .val (.ref wNO_TRANSACTION)] [])) (fun t_ k_ => XS.astore X.here hx rfl (hb hby at_31) rfl rfl (l' := #[.val (.int p0), .val (.int p1), .val (.int k), .val (.int (0 : Int32)), .val (.ref wNOT_SUPPORTED), .val (.ref wNO_TRANSACTION)]) rfl k_) ?_
            refine own_via (T' := T) (g' := (mkF m 35 #[.val (.int p0), .val (.int p1), .val (.int k), .val (.int (0 : Int32)), .val (.ref wNOT_SUPPORTED), .val (.ref wNO_TRANSACTION)] [(.ref wNOT_SUPPORTED)])) (fun t_ k_ => XS.aload X.here hx rfl (hb hby at_33) rfl rfl k_) ?_
            refine own_via (T' := T) (g' := (mkF m 36 #[.val (.int p0), .val (.int p1), .val (.int k), .val (.int (0 : Int32)), .val (.ref wNOT_SUPPORTED), .val (.ref wNO_TRANSACTION)] [(.int (0 : Int32)), (.ref wNOT_SUPPORTED)])) (fun t_ k_ => XS.iloadN X.here hx rfl (hb hby at_35) rfl k_) ?_
            obtain ⟨cq, kq, qa, qb, qc⟩ := isOf hZ eT (E_NOT_SUPPORTED.ext O.2)
            obtain ⟨_, _, ⟨T, Lq, kq, nq⟩, -, X, ⟨Lc, hQ, lq, yq, zq⟩, st⟩ := X.virtualBack hx (y := (⟨"com/example/demarcate/demarcate/Attribute", "entry", "(Z)Lcom/example/demarcate/demarcate/Attribute$Entry;"⟩ : MethodName)) (z := (⟨"com/example/demarcate/demarcate/Attribute", "entry", "(Z)Lcom/example/demarcate/demarcate/Attribute$Entry;"⟩ : MethodName)) hown (mvT hZ (hw _ (List.mem_of_getElem? (i := 14) rfl))) (mvT hZ (hw _ (List.mem_of_getElem? (i := 15) rfl))) (notFace_of_selects (args := #[]) (mvT hZ (hw _ (List.mem_of_getElem? (i := 17) rfl)))) (mvT hZ (hw _ (List.mem_of_getElem? (i := 17) rfl))) (mvT hZ (hw _ (List.mem_of_getElem? (i := 16) rfl))) (by decide) (backOf (W := 0) (own_entry l Z a0 hw [] wNOT_SUPPORTED (0 : Int32) wNO_TRANSACTION wNO_TRANSACTION wNO_TRANSACTION h n0 O F_in_NOT_SUPPORTED F_ot_NOT_SUPPORTED ⟨fun q => by first | rfl | exact absurd q (by decide), fun q => by first | rfl | exact absurd rfl q⟩) hZ (hw _ (List.mem_of_getElem? (i := 18) rfl)) (hw _ (List.mem_of_getElem? (i := 6) rfl)) (by decide) (by decide)) qa qc (g := (mkF m 36 #[.val (.int p0), .val (.int p1), .val (.int k), .val (.int (0 : Int32)), .val (.ref wNOT_SUPPORTED), .val (.ref wNO_TRANSACTION)] [(.int (0 : Int32)), (.ref wNOT_SUPPORTED)])) rfl (by rw [hml]; rfl) (Steps.refl _) (argsL := [(.int (0 : Int32))]) (rest := []) (lenOf own_pd2 rfl) rfl (by show 2 * 0 + _ ≤ _; exact Nat.le_of_eq rfl) (hb hby at_36) (fun _ _ => ⟨rfl, eT, (by decide : 0 + 0 ≤ _), (by decide : 0 + 0 ≤ _)⟩)
            dsimp only [Pt.U, Pt.locs, Pt.cells, Pt.slots] at X lq yq zq st hQ
            subst lq yq zq
            obtain ⟨rfl, Nq, eT⟩ := hQ
            replace N := Fr.app N Nq
            refine own_viaT (g' := (mkF m 39 #[.val (.int p0), .val (.int p1), .val (.int k), .val (.int (0 : Int32)), .val (.ref wNOT_SUPPORTED), .val (.ref wNO_TRANSACTION)] [(.ref wNO_TRANSACTION)])) st ?_
            refine own_via (T' := T) (g' := (mkF m 41 #[.val (.int p0), .val (.int p1), .val (.int k), .val (.int (0 : Int32)), .val (.ref wNOT_SUPPORTED), .val (.ref wNO_TRANSACTION)] [(.ref wNO_TRANSACTION), (.ref wNO_TRANSACTION)])) (fun t_ k_ => XS.aload X.here hx rfl (hb hby at_39) rfl rfl k_) ?_
            refine own_via (T' := T) (g' := (mkF m 44 #[.val (.int p0), .val (.int p1), .val (.int k), .val (.int (0 : Int32)), .val (.ref wNOT_SUPPORTED), .val (.ref wNO_TRANSACTION)] [])) (fun t_ k_ => Jvm.RoadKit.acmp (g := (mkF m 41 #[.val (.int p0), .val (.int p1), .val (.int k), .val (.int (0 : Int32)), .val (.ref wNOT_SUPPORTED), .val (.ref wNO_TRANSACTION)] [(.ref wNO_TRANSACTION), (.ref wNO_TRANSACTION)])) X hx rfl rfl rfl (pc0 := 41) (pc' := 44) (same := true) rfl (hb hby at_41) rfl (decide_eq_true rfl) (by decide) (by decide) k_) ?_
            refine own_via (T' := T) (g' := (mkF m 45 #[.val (.int p0), .val (.int p1), .val (.int k), .val (.int (0 : Int32)), .val (.ref wNOT_SUPPORTED), .val (.ref wNO_TRANSACTION)] [(.int (1 : Int32))])) (fun t_ k_ => XS.iconst X.here hx rfl (hb hby at_44) k_) ?_
            refine own_via (T' := T) (g' := (mkF m 49 #[.val (.int p0), .val (.int p1), .val (.int k), .val (.int (0 : Int32)), .val (.ref wNOT_SUPPORTED), .val (.ref wNO_TRANSACTION)] [(.int (1 : Int32))])) (fun t_ k_ => XS.goto X.here hx rfl (pc0 := 45) (pc' := 49) rfl (hb hby at_45) (by decide) (by decide) k_) ?_
            refine own_retN X hx hlk (t := .boolean) Bd.returns (by simp) (hb hby at_49) (by decide) (by decide) ?_
            rw [eT]
            exact ⟨rfl, N, trivial⟩
          · by_cases hc6 : k = (4 : Int32)
            · obtain ⟨_, _, ⟨T, Lq, kq, nq⟩, -, X, ⟨Lc, hQ, lq, yq, zq⟩, st⟩ := Jvm.LawKit.callS X hx (y := (⟨"com/example/demarcate/demarcate/AttributeEntryPinLaw", "pick", "(I)Lcom/example/demarcate/demarcate/Attribute;"⟩ : MethodName)) hown (mvT hZ (hw _ (List.mem_of_getElem? (i := 1) rfl))) (mvT hZ (hw _ (List.mem_of_getElem? (i := 2) rfl))) (mvT hZ (hw _ (List.mem_of_getElem? (i := 3) rfl))) (mvT hZ (hw _ (List.mem_of_getElem? (i := 4) rfl))) (by decide) (backOf (W := 0) (own_pick l Z a0 hw [] k wREQUIRED wREQUIRES_NEW wMANDATORY wNOT_SUPPORTED wNEVER wSUPPORTS wNESTED wNEVER h n0 O S_REQUIRED S_REQUIRES_NEW S_MANDATORY S_NOT_SUPPORTED S_NEVER S_SUPPORTS S_NESTED (by simp [own_pickV, hc2, hc3, hc4, hc5, hc6])) hZ (hw _ (List.mem_of_getElem? (i := 4) rfl)) (hw _ (List.mem_of_getElem? (i := 3) rfl)) (by decide) (by decide)) (g := (mkF m 21 #[.val (.int p0), .val (.int p1), .val (.int k), .val (.int (0 : Int32)), .unset, .unset] [(.int k)])) rfl (by rw [hml]; rfl) (argsL := [(.int k)]) (rest := []) (lenOf own_pd0 rfl) rfl (by show 2 * 0 + _ ≤ _; exact Nat.le_of_eq rfl) (hb hby at_21) (fun _ _ => ⟨rfl, eT, (by decide : 0 + 0 ≤ _), (by decide : 0 + 0 ≤ _)⟩)
              dsimp only [Pt.U, Pt.locs, Pt.cells, Pt.slots] at X lq yq zq st hQ
              subst lq yq zq
              obtain ⟨rfl, Nq, eT⟩ := hQ
              replace N := Fr.app N Nq
              refine own_via (g' := (mkF m 24 #[.val (.int p0), .val (.int p1), .val (.int k), .val (.int (0 : Int32)), .unset, .unset] [(.ref wNEVER)])) st ?_
              refine own_via (T' := T) (g' := (mkF m 26 #[.val (.int p0), .val (.int p1), .val (.int k), .val (.int (0 : Int32)), .val (.ref wNEVER), .unset] [])) (fun t_ k_ => XS.astore X.here hx rfl (hb hby at_24) rfl rfl (l' := #[.val (.int p0), .val (.int p1), .val (.int k), .val (.int (0 : Int32)), .val (.ref wNEVER), .unset]) rfl k_) ?_
              refine own_via (T' := T) (g' := (mkF m 27 #[.val (.int p0), .val (.int p1), .val (.int k), .val (.int (0 : Int32)), .val (.ref wNEVER), .unset] [(.int k)])) (fun t_ k_ => XS.iloadN X.here hx rfl (hb hby at_26) rfl k_) ?_
              refine own_via (T' := T) (g' := (mkF m 28 #[.val (.int p0), .val (.int p1), .val (.int k), .val (.int (0 : Int32)), .val (.ref wNEVER), .unset] [(.int (0 : Int32)), (.int k)])) (fun t_ k_ => XS.iloadN X.here hx rfl (hb hby at_27) rfl k_) ?_
              obtain ⟨_, _, ⟨T, Lq, kq, nq⟩, -, X, ⟨Lc, hQ, lq, yq, zq⟩, st⟩ := Jvm.LawKit.callS X hx (y := (⟨"com/example/demarcate/demarcate/AttributeEntryPinLaw", "expect", "(IZ)Lcom/example/demarcate/demarcate/Attribute$Entry;"⟩ : MethodName)) hown (mvT hZ (hw _ (List.mem_of_getElem? (i := 8) rfl))) (mvT hZ (hw _ (List.mem_of_getElem? (i := 9) rfl))) (mvT hZ (hw _ (List.mem_of_getElem? (i := 3) rfl))) (mvT hZ (hw _ (List.mem_of_getElem? (i := 10) rfl))) (by decide) (backOf (W := 0) (own_expect l Z a0 hw [] k (0 : Int32) wJOIN wNEW_TRANSACTION wREFUSE wNO_TRANSACTION wSAVEPOINT wNO_TRANSACTION h n0 O S_JOIN S_NEW_TRANSACTION S_REFUSE S_NO_TRANSACTION S_SAVEPOINT (by simp [own_expV, hc2, hc3, hc4, hc5, hc6])) hZ (hw _ (List.mem_of_getElem? (i := 10) rfl)) (hw _ (List.mem_of_getElem? (i := 3) rfl)) (by decide) (by decide)) (g := (mkF m 28 #[.val (.int p0), .val (.int p1), .val (.int k), .val (.int (0 : Int32)), .val (.ref wNEVER), .unset] [(.int (0 : Int32)), (.int k)])) rfl (by rw [hml]; rfl) (argsL := [(.int k), (.int (0 : Int32))]) (rest := []) (lenOf own_pd1 rfl) rfl (by show 2 * 0 + _ ≤ _; exact Nat.le_of_eq rfl) (hb hby at_28) (fun _ _ => ⟨rfl, eT, (by decide : 0 + 0 ≤ _), (by decide : 0 + 0 ≤ _)⟩)
              dsimp only [Pt.U, Pt.locs, Pt.cells, Pt.slots] at X lq yq zq st hQ
              subst lq yq zq
              obtain ⟨rfl, Nq, eT⟩ := hQ
              replace N := Fr.app N Nq
              refine own_via (g' := (mkF m 31 #[.val (.int p0), .val (.int p1), .val (.int k), .val (.int (0 : Int32)), .val (.ref wNEVER), .unset] [(.ref wNO_TRANSACTION)])) st ?_
              refine own_via (T' := T) (g' := (mkF m 33 #[.val (.int p0), .val (.int p1), .val (.int k), .val (.int (0 : Int32)), .val (.ref wNEVER), .val (.ref wNO_TRANSACTION)] [])) (fun t_ k_ => XS.astore X.here hx rfl (hb hby at_31) rfl rfl (l' := #[.val (.int p0), .val (.int p1), .val (.int k), .val (.int (0 : Int32)), .val (.ref wNEVER), .val (.ref wNO_TRANSACTION)]) rfl k_) ?_
              refine own_via (T' := T) (g' := (mkF m 35 #[.val (.int p0), .val (.int p1), .val (.int k), .val (.int (0 : Int32)), .val (.ref wNEVER), .val (.ref wNO_TRANSACTION)] [(.ref wNEVER)])) (fun t_ k_ => XS.aload X.here hx rfl (hb hby at_33) rfl rfl k_) ?_
              refine own_via (T' := T) (g' := (mkF m 36 #[.val (.int p0), .val (.int p1), .val (.int k), .val (.int (0 : Int32)), .val (.ref wNEVER), .val (.ref wNO_TRANSACTION)] [(.int (0 : Int32)), (.ref wNEVER)])) (fun t_ k_ => XS.iloadN X.here hx rfl (hb hby at_35) rfl k_) ?_
              obtain ⟨cq, kq, qa, qb, qc⟩ := isOf hZ eT (E_NEVER.ext O.2)
              obtain ⟨_, _, ⟨T, Lq, kq, nq⟩, -, X, ⟨Lc, hQ, lq, yq, zq⟩, st⟩ := X.virtualBack hx (y := (⟨"com/example/demarcate/demarcate/Attribute", "entry", "(Z)Lcom/example/demarcate/demarcate/Attribute$Entry;"⟩ : MethodName)) (z := (⟨"com/example/demarcate/demarcate/Attribute", "entry", "(Z)Lcom/example/demarcate/demarcate/Attribute$Entry;"⟩ : MethodName)) hown (mvT hZ (hw _ (List.mem_of_getElem? (i := 14) rfl))) (mvT hZ (hw _ (List.mem_of_getElem? (i := 15) rfl))) (notFace_of_selects (args := #[]) (mvT hZ (hw _ (List.mem_of_getElem? (i := 17) rfl)))) (mvT hZ (hw _ (List.mem_of_getElem? (i := 17) rfl))) (mvT hZ (hw _ (List.mem_of_getElem? (i := 16) rfl))) (by decide) (backOf (W := 0) (own_entry l Z a0 hw [] wNEVER (0 : Int32) wREFUSE wNO_TRANSACTION wNO_TRANSACTION h n0 O F_in_NEVER F_ot_NEVER ⟨fun q => by first | rfl | exact absurd q (by decide), fun q => by first | rfl | exact absurd rfl q⟩) hZ (hw _ (List.mem_of_getElem? (i := 18) rfl)) (hw _ (List.mem_of_getElem? (i := 6) rfl)) (by decide) (by decide)) qa qc (g := (mkF m 36 #[.val (.int p0), .val (.int p1), .val (.int k), .val (.int (0 : Int32)), .val (.ref wNEVER), .val (.ref wNO_TRANSACTION)] [(.int (0 : Int32)), (.ref wNEVER)])) rfl (by rw [hml]; rfl) (Steps.refl _) (argsL := [(.int (0 : Int32))]) (rest := []) (lenOf own_pd2 rfl) rfl (by show 2 * 0 + _ ≤ _; exact Nat.le_of_eq rfl) (hb hby at_36) (fun _ _ => ⟨rfl, eT, (by decide : 0 + 0 ≤ _), (by decide : 0 + 0 ≤ _)⟩)
              dsimp only [Pt.U, Pt.locs, Pt.cells, Pt.slots] at X lq yq zq st hQ
              subst lq yq zq
              obtain ⟨rfl, Nq, eT⟩ := hQ
              replace N := Fr.app N Nq
              refine own_viaT (g' := (mkF m 39 #[.val (.int p0), .val (.int p1), .val (.int k), .val (.int (0 : Int32)), .val (.ref wNEVER), .val (.ref wNO_TRANSACTION)] [(.ref wNO_TRANSACTION)])) st ?_
              refine own_via (T' := T) (g' := (mkF m 41 #[.val (.int p0), .val (.int p1), .val (.int k), .val (.int (0 : Int32)), .val (.ref wNEVER), .val (.ref wNO_TRANSACTION)] [(.ref wNO_TRANSACTION), (.ref wNO_TRANSACTION)])) (fun t_ k_ => XS.aload X.here hx rfl (hb hby at_39) rfl rfl k_) ?_
              refine own_via (T' := T) (g' := (mkF m 44 #[.val (.int p0), .val (.int p1), .val (.int k), .val (.int (0 : Int32)), .val (.ref wNEVER), .val (.ref wNO_TRANSACTION)] [])) (fun t_ k_ => Jvm.RoadKit.acmp (g := (mkF m 41 #[.val (.int p0), .val (.int p1), .val (.int k), .val (.int (0 : Int32)), .val (.ref wNEVER), .val (.ref wNO_TRANSACTION)] [(.ref wNO_TRANSACTION), (.ref wNO_TRANSACTION)])) X hx rfl rfl rfl (pc0 := 41) (pc' := 44) (same := true) rfl (hb hby at_41) rfl (decide_eq_true rfl) (by decide) (by decide) k_) ?_
              refine own_via (T' := T) (g' := (mkF m 45 #[.val (.int p0), .val (.int p1), .val (.int k), .val (.int (0 : Int32)), .val (.ref wNEVER), .val (.ref wNO_TRANSACTION)] [(.int (1 : Int32))])) (fun t_ k_ => XS.iconst X.here hx rfl (hb hby at_44) k_) ?_
              refine own_via (T' := T) (g' := (mkF m 49 #[.val (.int p0), .val (.int p1), .val (.int k), .val (.int (0 : Int32)), .val (.ref wNEVER), .val (.ref wNO_TRANSACTION)] [(.int (1 : Int32))])) (fun t_ k_ => XS.goto X.here hx rfl (pc0 := 45) (pc' := 49) rfl (hb hby at_45) (by decide) (by decide) k_) ?_
              refine own_retN X hx hlk (t := .boolean) Bd.returns (by simp) (hb hby at_49) (by decide) (by decide) ?_
              rw [eT]
              exact ⟨rfl, N, trivial⟩
            · by_cases hc7 : k = (5 : Int32)
              · obtain ⟨_, _, ⟨T, Lq, kq, nq⟩, -, X, ⟨Lc, hQ, lq, yq, zq⟩, st⟩ := Jvm.LawKit.callS X hx (y := (⟨"com/example/demarcate/demarcate/AttributeEntryPinLaw", "pick", "(I)Lcom/example/demarcate/demarcate/Attribute;"⟩ : MethodName)) hown (mvT hZ (hw _ (List.mem_of_getElem? (i := 1) rfl))) (mvT hZ (hw _ (List.mem_of_getElem? (i := 2) rfl))) (mvT hZ (hw _ (List.mem_of_getElem? (i := 3) rfl))) (mvT hZ (hw _ (List.mem_of_getElem? (i := 4) rfl))) (by decide) (backOf (W := 0) (own_pick l Z a0 hw [] k wREQUIRED wREQUIRES_NEW wMANDATORY wNOT_SUPPORTED wNEVER wSUPPORTS wNESTED wSUPPORTS h n0 O S_REQUIRED S_REQUIRES_NEW S_MANDATORY S_NOT_SUPPORTED S_NEVER S_SUPPORTS S_NESTED (by simp [own_pickV, hc2, hc3, hc4, hc5, hc6, hc7])) hZ (hw _ (List.mem_of_getElem? (i := 4) rfl)) (hw _ (List.mem_of_getElem? (i := 3) rfl)) (by decide) (by decide)) (g := (mkF m 21 #[.val (.int p0), .val (.int p1), .val (.int k), .val (.int (0 : Int32)), .unset, .unset] [(.int k)])) rfl (by rw [hml]; rfl) (argsL := [(.int k)]) (rest := []) (lenOf own_pd0 rfl) rfl (by show 2 * 0 + _ ≤ _; exact Nat.le_of_eq rfl) (hb hby at_21) (fun _ _ => ⟨rfl, eT, (by decide : 0 + 0 ≤ _), (by decide : 0 + 0 ≤ _)⟩)
                dsimp only [Pt.U, Pt.locs, Pt.cells, Pt.slots] at X lq yq zq st hQ
                subst lq yq zq
                obtain ⟨rfl, Nq, eT⟩ := hQ
                replace N := Fr.app N Nq
                refine own_via (g' := (mkF m 24 #[.val (.int p0), .val (.int p1), .val (.int k), .val (.int (0 : Int32)), .unset, .unset] [(.ref wSUPPORTS)])) st ?_
                refine own_via (T' := T) (g' := (mkF m 26 #[.val (.int p0), .val (.int p1), .val (.int k), .val (.int (0 : Int32)), .val (.ref wSUPPORTS), .unset] [])) (fun t_ k_ => XS.astore X.here hx rfl (hb hby at_24) rfl rfl (l' := #[.val (.int p0), .val (.int p1), .val (.int k), .val (.int (0 : Int32)), .val (.ref wSUPPORTS), .unset]) rfl k_) ?_
                refine own_via (T' := T) (g' := (mkF m 27 #[.val (.int p0), .val (.int p1), .val (.int k), .val (.int (0 : Int32)), .val (.ref wSUPPORTS), .unset] [(.int k)])) (fun t_ k_ => XS.iloadN X.here hx rfl (hb hby at_26) rfl k_) ?_
                refine own_via (T' := T) (g' := (mkF m 28 #[.val (.int p0), .val (.int p1), .val (.int k), .val (.int (0 : Int32)), .val (.ref wSUPPORTS), .unset] [(.int (0 : Int32)), (.int k)])) (fun t_ k_ => XS.iloadN X.here hx rfl (hb hby at_27) rfl k_) ?_
                obtain ⟨_, _, ⟨T, Lq, kq, nq⟩, -, X, ⟨Lc, hQ, lq, yq, zq⟩, st⟩ := Jvm.LawKit.callS X hx (y := (⟨"com/example/demarcate/demarcate/AttributeEntryPinLaw", "expect", "(IZ)Lcom/example/demarcate/demarcate/Attribute$Entry;"⟩ : MethodName)) hown (mvT hZ (hw _ (List.mem_of_getElem? (i := 8) rfl))) (mvT hZ (hw _ (List.mem_of_getElem? (i := 9) rfl))) (mvT hZ (hw _ (List.mem_of_getElem? (i := 3) rfl))) (mvT hZ (hw _ (List.mem_of_getElem? (i := 10) rfl))) (by decide) (backOf (W := 0) (own_expect l Z a0 hw [] k (0 : Int32) wJOIN wNEW_TRANSACTION wREFUSE wNO_TRANSACTION wSAVEPOINT wNO_TRANSACTION h n0 O S_JOIN S_NEW_TRANSACTION S_REFUSE S_NO_TRANSACTION S_SAVEPOINT (by simp [own_expV, hc2, hc3, hc4, hc5, hc6, hc7])) hZ (hw _ (List.mem_of_getElem? (i := 10) rfl)) (hw _ (List.mem_of_getElem? (i := 3) rfl)) (by decide) (by decide)) (g := (mkF m 28 #[.val (.int p0), .val (.int p1), .val (.int k), .val (.int (0 : Int32)), .val (.ref wSUPPORTS), .unset] [(.int (0 : Int32)), (.int k)])) rfl (by rw [hml]; rfl) (argsL := [(.int k), (.int (0 : Int32))]) (rest := []) (lenOf own_pd1 rfl) rfl (by show 2 * 0 + _ ≤ _; exact Nat.le_of_eq rfl) (hb hby at_28) (fun _ _ => ⟨rfl, eT, (by decide : 0 + 0 ≤ _), (by decide : 0 + 0 ≤ _)⟩)
                dsimp only [Pt.U, Pt.locs, Pt.cells, Pt.slots] at X lq yq zq st hQ
                subst lq yq zq
                obtain ⟨rfl, Nq, eT⟩ := hQ
                replace N := Fr.app N Nq
                refine own_via (g' := (mkF m 31 #[.val (.int p0), .val (.int p1), .val (.int k), .val (.int (0 : Int32)), .val (.ref wSUPPORTS), .unset] [(.ref wNO_TRANSACTION)])) st ?_
                refine own_via (T' := T) (g' := (mkF m 33 #[.val (.int p0), .val (.int p1), .val (.int k), .val (.int (0 : Int32)), .val (.ref wSUPPORTS), .val (.ref wNO_TRANSACTION)] [])) (fun t_ k_ => XS.astore X.here hx rfl (hb hby at_31) rfl rfl (l' := #[.val (.int p0), .val (.int p1), .val (.int k), .val (.int (0 : Int32)), .val (.ref wSUPPORTS), .val (.ref wNO_TRANSACTION)]) rfl k_) ?_
                refine own_via (T' := T) (g' := (mkF m 35 #[.val (.int p0), .val (.int p1), .val (.int k), .val (.int (0 : Int32)), .val (.ref wSUPPORTS), .val (.ref wNO_TRANSACTION)] [(.ref wSUPPORTS)])) (fun t_ k_ => XS.aload X.here hx rfl (hb hby at_33) rfl rfl k_) ?_
                refine own_via (T' := T) (g' := (mkF m 36 #[.val (.int p0), .val (.int p1), .val (.int k), .val (.int (0 : Int32)), .val (.ref wSUPPORTS), .val (.ref wNO_TRANSACTION)] [(.int (0 : Int32)), (.ref wSUPPORTS)])) (fun t_ k_ => XS.iloadN X.here hx rfl (hb hby at_35) rfl k_) ?_
                obtain ⟨cq, kq, qa, qb, qc⟩ := isOf hZ eT (E_SUPPORTS.ext O.2)
                obtain ⟨_, _, ⟨T, Lq, kq, nq⟩, -, X, ⟨Lc, hQ, lq, yq, zq⟩, st⟩ := X.virtualBack hx (y := (⟨"com/example/demarcate/demarcate/Attribute", "entry", "(Z)Lcom/example/demarcate/demarcate/Attribute$Entry;"⟩ : MethodName)) (z := (⟨"com/example/demarcate/demarcate/Attribute", "entry", "(Z)Lcom/example/demarcate/demarcate/Attribute$Entry;"⟩ : MethodName)) hown (mvT hZ (hw _ (List.mem_of_getElem? (i := 14) rfl))) (mvT hZ (hw _ (List.mem_of_getElem? (i := 15) rfl))) (notFace_of_selects (args := #[]) (mvT hZ (hw _ (List.mem_of_getElem? (i := 17) rfl)))) (mvT hZ (hw _ (List.mem_of_getElem? (i := 17) rfl))) (mvT hZ (hw _ (List.mem_of_getElem? (i := 16) rfl))) (by decide) (backOf (W := 0) (own_entry l Z a0 hw [] wSUPPORTS (0 : Int32) wJOIN wNO_TRANSACTION wNO_TRANSACTION h n0 O F_in_SUPPORTS F_ot_SUPPORTS ⟨fun q => by first | rfl | exact absurd q (by decide), fun q => by first | rfl | exact absurd rfl q⟩) hZ (hw _ (List.mem_of_getElem? (i := 18) rfl)) (hw _ (List.mem_of_getElem? (i := 6) rfl)) (by decide) (by decide)) qa qc (g := (mkF m 36 #[.val (.int p0), .val (.int p1), .val (.int k), .val (.int (0 : Int32)), .val (.ref wSUPPORTS), .val (.ref wNO_TRANSACTION)] [(.int (0 : Int32)), (.ref wSUPPORTS)])) rfl (by rw [hml]; rfl) (Steps.refl _) (argsL := [(.int (0 : Int32))]) (rest := []) (lenOf own_pd2 rfl) rfl (by show 2 * 0 + _ ≤ _; exact Nat.le_of_eq rfl) (hb hby at_36) (fun _ _ => ⟨rfl, eT, (by decide : 0 + 0 ≤ _), (by decide : 0 + 0 ≤ _)⟩)
                dsimp only [Pt.U, Pt.locs, Pt.cells, Pt.slots] at X lq yq zq st hQ
                subst lq yq zq
                obtain ⟨rfl, Nq, eT⟩ := hQ
                replace N := Fr.app N Nq
                refine own_viaT (g' := (mkF m 39 #[.val (.int p0), .val (.int p1), .val (.int k), .val (.int (0 : Int32)), .val (.ref wSUPPORTS), .val (.ref wNO_TRANSACTION)] [(.ref wNO_TRANSACTION)])) st ?_
                refine own_via (T' := T) (g' := (mkF m 41 #[.val (.int p0), .val (.int p1), .val (.int k), .val (.int (0 : Int32)), .val (.ref wSUPPORTS), .val (.ref wNO_TRANSACTION)] [(.ref wNO_TRANSACTION), (.ref wNO_TRANSACTION)])) (fun t_ k_ => XS.aload X.here hx rfl (hb hby at_39) rfl rfl k_) ?_
                refine own_via (T' := T) (g' := (mkF m 44 #[.val (.int p0), .val (.int p1), .val (.int k), .val (.int (0 : Int32)), .val (.ref wSUPPORTS), .val (.ref wNO_TRANSACTION)] [])) (fun t_ k_ => Jvm.RoadKit.acmp (g := (mkF m 41 #[.val (.int p0), .val (.int p1), .val (.int k), .val (.int (0 : Int32)), .val (.ref wSUPPORTS), .val (.ref wNO_TRANSACTION)] [(.ref wNO_TRANSACTION), (.ref wNO_TRANSACTION)])) X hx rfl rfl rfl (pc0 := 41) (pc' := 44) (same := true) rfl (hb hby at_41) rfl (decide_eq_true rfl) (by decide) (by decide) k_) ?_
                refine own_via (T' := T) (g' := (mkF m 45 #[.val (.int p0), .val (.int p1), .val (.int k), .val (.int (0 : Int32)), .val (.ref wSUPPORTS), .val (.ref wNO_TRANSACTION)] [(.int (1 : Int32))])) (fun t_ k_ => XS.iconst X.here hx rfl (hb hby at_44) k_) ?_
                refine own_via (T' := T) (g' := (mkF m 49 #[.val (.int p0), .val (.int p1), .val (.int k), .val (.int (0 : Int32)), .val (.ref wSUPPORTS), .val (.ref wNO_TRANSACTION)] [(.int (1 : Int32))])) (fun t_ k_ => XS.goto X.here hx rfl (pc0 := 45) (pc' := 49) rfl (hb hby at_45) (by decide) (by decide) k_) ?_
                refine own_retN X hx hlk (t := .boolean) Bd.returns (by simp) (hb hby at_49) (by decide) (by decide) ?_
                rw [eT]
                exact ⟨rfl, N, trivial⟩
              · obtain ⟨_, _, ⟨T, Lq, kq, nq⟩, -, X, ⟨Lc, hQ, lq, yq, zq⟩, st⟩ := Jvm.LawKit.callS X hx (y := (⟨"com/example/demarcate/demarcate/AttributeEntryPinLaw", "pick", "(I)Lcom/example/demarcate/demarcate/Attribute;"⟩ : MethodName)) hown (mvT hZ (hw _ (List.mem_of_getElem? (i := 1) rfl))) (mvT hZ (hw _ (List.mem_of_getElem? (i := 2) rfl))) (mvT hZ (hw _ (List.mem_of_getElem? (i := 3) rfl))) (mvT hZ (hw _ (List.mem_of_getElem? (i := 4) rfl))) (by decide) (backOf (W := 0) (own_pick l Z a0 hw [] k wREQUIRED wREQUIRES_NEW wMANDATORY wNOT_SUPPORTED wNEVER wSUPPORTS wNESTED wNESTED h n0 O S_REQUIRED S_REQUIRES_NEW S_MANDATORY S_NOT_SUPPORTED S_NEVER S_SUPPORTS S_NESTED (by simp [own_pickV, hc2, hc3, hc4, hc5, hc6, hc7])) hZ (hw _ (List.mem_of_getElem? (i := 4) rfl)) (hw _ (List.mem_of_getElem? (i := 3) rfl)) (by decide) (by decide)) (g := (mkF m 21 #[.val (.int p0), .val (.int p1), .val (.int k), .val (.int (0 : Int32)), .unset, .unset] [(.int k)])) rfl (by rw [hml]; rfl) (argsL := [(.int k)]) (rest := []) (lenOf own_pd0 rfl) rfl (by show 2 * 0 + _ ≤ _; exact Nat.le_of_eq rfl) (hb hby at_21) (fun _ _ => ⟨rfl, eT, (by decide : 0 + 0 ≤ _), (by decide : 0 + 0 ≤ _)⟩)
                dsimp only [Pt.U, Pt.locs, Pt.cells, Pt.slots] at X lq yq zq st hQ
                subst lq yq zq
                obtain ⟨rfl, Nq, eT⟩ := hQ
                replace N := Fr.app N Nq
                refine own_via (g' := (mkF m 24 #[.val (.int p0), .val (.int p1), .val (.int k), .val (.int (0 : Int32)), .unset, .unset] [(.ref wNESTED)])) st ?_
                refine own_via (T' := T) (g' := (mkF m 26 #[.val (.int p0), .val (.int p1), .val (.int k), .val (.int (0 : Int32)), .val (.ref wNESTED), .unset] [])) (fun t_ k_ => XS.astore X.here hx rfl (hb hby at_24) rfl rfl (l' := #[.val (.int p0), .val (.int p1), .val (.int k), .val (.int (0 : Int32)), .val (.ref wNESTED), .unset]) rfl k_) ?_
                refine own_via (T' := T) (g' := (mkF m 27 #[.val (.int p0), .val (.int p1), .val (.int k), .val (.int (0 : Int32)), .val (.ref wNESTED), .unset] [(.int k)])) (fun t_ k_ => XS.iloadN X.here hx rfl (hb hby at_26) rfl k_) ?_
                refine own_via (T' := T) (g' := (mkF m 28 #[.val (.int p0), .val (.int p1), .val (.int k), .val (.int (0 : Int32)), .val (.ref wNESTED), .unset] [(.int (0 : Int32)), (.int k)])) (fun t_ k_ => XS.iloadN X.here hx rfl (hb hby at_27) rfl k_) ?_
                obtain ⟨_, _, ⟨T, Lq, kq, nq⟩, -, X, ⟨Lc, hQ, lq, yq, zq⟩, st⟩ := Jvm.LawKit.callS X hx (y := (⟨"com/example/demarcate/demarcate/AttributeEntryPinLaw", "expect", "(IZ)Lcom/example/demarcate/demarcate/Attribute$Entry;"⟩ : MethodName)) hown (mvT hZ (hw _ (List.mem_of_getElem? (i := 8) rfl))) (mvT hZ (hw _ (List.mem_of_getElem? (i := 9) rfl))) (mvT hZ (hw _ (List.mem_of_getElem? (i := 3) rfl))) (mvT hZ (hw _ (List.mem_of_getElem? (i := 10) rfl))) (by decide) (backOf (W := 0) (own_expect l Z a0 hw [] k (0 : Int32) wJOIN wNEW_TRANSACTION wREFUSE wNO_TRANSACTION wSAVEPOINT wNEW_TRANSACTION h n0 O S_JOIN S_NEW_TRANSACTION S_REFUSE S_NO_TRANSACTION S_SAVEPOINT (by simp [own_expV, hc2, hc3, hc4, hc5, hc6, hc7])) hZ (hw _ (List.mem_of_getElem? (i := 10) rfl)) (hw _ (List.mem_of_getElem? (i := 3) rfl)) (by decide) (by decide)) (g := (mkF m 28 #[.val (.int p0), .val (.int p1), .val (.int k), .val (.int (0 : Int32)), .val (.ref wNESTED), .unset] [(.int (0 : Int32)), (.int k)])) rfl (by rw [hml]; rfl) (argsL := [(.int k), (.int (0 : Int32))]) (rest := []) (lenOf own_pd1 rfl) rfl (by show 2 * 0 + _ ≤ _; exact Nat.le_of_eq rfl) (hb hby at_28) (fun _ _ => ⟨rfl, eT, (by decide : 0 + 0 ≤ _), (by decide : 0 + 0 ≤ _)⟩)
                dsimp only [Pt.U, Pt.locs, Pt.cells, Pt.slots] at X lq yq zq st hQ
                subst lq yq zq
                obtain ⟨rfl, Nq, eT⟩ := hQ
                replace N := Fr.app N Nq
                refine own_via (g' := (mkF m 31 #[.val (.int p0), .val (.int p1), .val (.int k), .val (.int (0 : Int32)), .val (.ref wNESTED), .unset] [(.ref wNEW_TRANSACTION)])) st ?_
                refine own_via (T' := T) (g' := (mkF m 33 #[.val (.int p0), .val (.int p1), .val (.int k), .val (.int (0 : Int32)), .val (.ref wNESTED), .val (.ref wNEW_TRANSACTION)] [])) (fun t_ k_ => XS.astore X.here hx rfl (hb hby at_31) rfl rfl (l' := #[.val (.int p0), .val (.int p1), .val (.int k), .val (.int (0 : Int32)), .val (.ref wNESTED), .val (.ref wNEW_TRANSACTION)]) rfl k_) ?_
                refine own_via (T' := T) (g' := (mkF m 35 #[.val (.int p0), .val (.int p1), .val (.int k), .val (.int (0 : Int32)), .val (.ref wNESTED), .val (.ref wNEW_TRANSACTION)] [(.ref wNESTED)])) (fun t_ k_ => XS.aload X.here hx rfl (hb hby at_33) rfl rfl k_) ?_
                refine own_via (T' := T) (g' := (mkF m 36 #[.val (.int p0), .val (.int p1), .val (.int k), .val (.int (0 : Int32)), .val (.ref wNESTED), .val (.ref wNEW_TRANSACTION)] [(.int (0 : Int32)), (.ref wNESTED)])) (fun t_ k_ => XS.iloadN X.here hx rfl (hb hby at_35) rfl k_) ?_
                obtain ⟨cq, kq, qa, qb, qc⟩ := isOf hZ eT (E_NESTED.ext O.2)
                obtain ⟨_, _, ⟨T, Lq, kq, nq⟩, -, X, ⟨Lc, hQ, lq, yq, zq⟩, st⟩ := X.virtualBack hx (y := (⟨"com/example/demarcate/demarcate/Attribute", "entry", "(Z)Lcom/example/demarcate/demarcate/Attribute$Entry;"⟩ : MethodName)) (z := (⟨"com/example/demarcate/demarcate/Attribute", "entry", "(Z)Lcom/example/demarcate/demarcate/Attribute$Entry;"⟩ : MethodName)) hown (mvT hZ (hw _ (List.mem_of_getElem? (i := 14) rfl))) (mvT hZ (hw _ (List.mem_of_getElem? (i := 15) rfl))) (notFace_of_selects (args := #[]) (mvT hZ (hw _ (List.mem_of_getElem? (i := 17) rfl)))) (mvT hZ (hw _ (List.mem_of_getElem? (i := 17) rfl))) (mvT hZ (hw _ (List.mem_of_getElem? (i := 16) rfl))) (by decide) (backOf (W := 0) (own_entry l Z a0 hw [] wNESTED (0 : Int32) wSAVEPOINT wNEW_TRANSACTION wNEW_TRANSACTION h n0 O F_in_NESTED F_ot_NESTED ⟨fun q => by first | rfl | exact absurd q (by decide), fun q => by first | rfl | exact absurd rfl q⟩) hZ (hw _ (List.mem_of_getElem? (i := 18) rfl)) (hw _ (List.mem_of_getElem? (i := 6) rfl)) (by decide) (by decide)) qa qc (g := (mkF m 36 #[.val (.int p0), .val (.int p1), .val (.int k), .val (.int (0 : Int32)), .val (.ref wNESTED), .val (.ref wNEW_TRANSACTION)] [(.int (0 : Int32)), (.ref wNESTED)])) rfl (by rw [hml]; rfl) (Steps.refl _) (argsL := [(.int (0 : Int32))]) (rest := []) (lenOf own_pd2 rfl) rfl (by show 2 * 0 + _ ≤ _; exact Nat.le_of_eq rfl) (hb hby at_36) (fun _ _ => ⟨rfl, eT, (by decide : 0 + 0 ≤ _), (by decide : 0 + 0 ≤ _)⟩)
                dsimp only [Pt.U, Pt.locs, Pt.cells, Pt.slots] at X lq yq zq st hQ
                subst lq yq zq
                obtain ⟨rfl, Nq, eT⟩ := hQ
                replace N := Fr.app N Nq
                refine own_viaT (g' := (mkF m 39 #[.val (.int p0), .val (.int p1), .val (.int k), .val (.int (0 : Int32)), .val (.ref wNESTED), .val (.ref wNEW_TRANSACTION)] [(.ref wNEW_TRANSACTION)])) st ?_
                refine own_via (T' := T) (g' := (mkF m 41 #[.val (.int p0), .val (.int p1), .val (.int k), .val (.int (0 : Int32)), .val (.ref wNESTED), .val (.ref wNEW_TRANSACTION)] [(.ref wNEW_TRANSACTION), (.ref wNEW_TRANSACTION)])) (fun t_ k_ => XS.aload X.here hx rfl (hb hby at_39) rfl rfl k_) ?_
                refine own_via (T' := T) (g' := (mkF m 44 #[.val (.int p0), .val (.int p1), .val (.int k), .val (.int (0 : Int32)), .val (.ref wNESTED), .val (.ref wNEW_TRANSACTION)] [])) (fun t_ k_ => Jvm.RoadKit.acmp (g := (mkF m 41 #[.val (.int p0), .val (.int p1), .val (.int k), .val (.int (0 : Int32)), .val (.ref wNESTED), .val (.ref wNEW_TRANSACTION)] [(.ref wNEW_TRANSACTION), (.ref wNEW_TRANSACTION)])) X hx rfl rfl rfl (pc0 := 41) (pc' := 44) (same := true) rfl (hb hby at_41) rfl (decide_eq_true rfl) (by decide) (by decide) k_) ?_
                refine own_via (T' := T) (g' := (mkF m 45 #[.val (.int p0), .val (.int p1), .val (.int k), .val (.int (0 : Int32)), .val (.ref wNESTED), .val (.ref wNEW_TRANSACTION)] [(.int (1 : Int32))])) (fun t_ k_ => XS.iconst X.here hx rfl (hb hby at_44) k_) ?_
                refine own_via (T' := T) (g' := (mkF m 49 #[.val (.int p0), .val (.int p1), .val (.int k), .val (.int (0 : Int32)), .val (.ref wNESTED), .val (.ref wNEW_TRANSACTION)] [(.int (1 : Int32))])) (fun t_ k_ => XS.goto X.here hx rfl (pc0 := 45) (pc' := 49) rfl (hb hby at_45) (by decide) (by decide) k_) ?_
                refine own_retN X hx hlk (t := .boolean) Bd.returns (by simp) (hb hby at_49) (by decide) (by decide) ?_
                rw [eT]
                exact ⟨rfl, N, trivial⟩
  · refine own_via (T' := T) (g' := (mkF m 14 #[.val (.int p0), .val (.int p1), .val (.int k), .unset, .unset, .unset] [])) (fun t_ k_ => XS.ifNo X.here hx rfl (hb hby at_11) rfl ((if0 _ _).trans (feq hc1).1) k_) ?_
    refine own_via (T' := T) (g' := (mkF m 15 #[.val (.int p0), .val (.int p1), .val (.int k), .unset, .unset, .unset] [(.int (1 : Int32))])) (fun t_ k_ => XS.iconst X.here hx rfl (hb hby at_14) k_) ?_
    refine own_via (T' := T) (g' := (mkF m 19 #[.val (.int p0), .val (.int p1), .val (.int k), .unset, .unset, .unset] [(.int (1 : Int32))])) (fun t_ k_ => XS.goto X.here hx rfl (pc0 := 15) (pc' := 19) rfl (hb hby at_15) (by decide) (by decide) k_) ?_
    refine own_via (T' := T) (g' := (mkF m 20 #[.val (.int p0), .val (.int p1), .val (.int k), .val (.int (1 : Int32)), .unset, .unset] [])) (fun t_ k_ => XS.istoreN X.here hx rfl (hb hby at_19) rfl (l' := #[.val (.int p0), .val (.int p1), .val (.int k), .val (.int (1 : Int32)), .unset, .unset]) rfl k_) ?_
    refine own_via (T' := T) (g' := (mkF m 21 #[.val (.int p0), .val (.int p1), .val (.int k), .val (.int (1 : Int32)), .unset, .unset] [(.int k)])) (fun t_ k_ => XS.iloadN X.here hx rfl (hb hby at_20) rfl k_) ?_
    by_cases hc8 : k = (0 : Int32)
    · obtain ⟨_, _, ⟨T, Lq, kq, nq⟩, -, X, ⟨Lc, hQ, lq, yq, zq⟩, st⟩ := Jvm.LawKit.callS X hx (y := (⟨"com/example/demarcate/demarcate/AttributeEntryPinLaw", "pick", "(I)Lcom/example/demarcate/demarcate/Attribute;"⟩ : MethodName)) hown (mvT hZ (hw _ (List.mem_of_getElem? (i := 1) rfl))) (mvT hZ (hw _ (List.mem_of_getElem? (i := 2) rfl))) (mvT hZ (hw _ (List.mem_of_getElem? (i := 3) rfl))) (mvT hZ (hw _ (List.mem_of_getElem? (i := 4) rfl))) (by decide) (backOf (W := 0) (own_pick l Z a0 hw [] k wREQUIRED wREQUIRES_NEW wMANDATORY wNOT_SUPPORTED wNEVER wSUPPORTS wNESTED wREQUIRED h n0 O S_REQUIRED S_REQUIRES_NEW S_MANDATORY S_NOT_SUPPORTED S_NEVER S_SUPPORTS S_NESTED (by simp [own_pickV, hc8])) hZ (hw _ (List.mem_of_getElem? (i := 4) rfl)) (hw _ (List.mem_of_getElem? (i := 3) rfl)) (by decide) (by decide)) (g := (mkF m 21 #[.val (.int p0), .val (.int p1), .val (.int k), .val (.int (1 : Int32)), .unset, .unset] [(.int k)])) rfl (by rw [hml]; rfl) (argsL := [(.int k)]) (rest := []) (lenOf own_pd0 rfl) rfl (by show 2 * 0 + _ ≤ _; exact Nat.le_of_eq rfl) (hb hby at_21) (fun _ _ => ⟨rfl, eT, (by decide : 0 + 0 ≤ _), (by decide : 0 + 0 ≤ _)⟩)
      dsimp only [Pt.U, Pt.locs, Pt.cells, Pt.slots] at X lq yq zq st hQ
      subst lq yq zq
      obtain ⟨rfl, Nq, eT⟩ := hQ
      replace N := Fr.app N Nq
      refine own_via (g' := (mkF m 24 #[.val (.int p0), .val (.int p1), .val (.int k), .val (.int (1 : Int32)), .unset, .unset] [(.ref wREQUIRED)])) st ?_
      refine own_via (T' := T) (g' := (mkF m 26 #[.val (.int p0), .val (.int p1), .val (.int k), .val (.int (1 : Int32)), .val (.ref wREQUIRED), .unset] [])) (fun t_ k_ => XS.astore X.here hx rfl (hb hby at_24) rfl rfl (l' := #[.val (.int p0), .val (.int p1), .val (.int k), .val (.int (1 : Int32)), .val (.ref wREQUIRED), .unset]) rfl k_) ?_
      refine own_via (T' := T) (g' := (mkF m 27 #[.val (.int p0), .val (.int p1), .val (.int k), .val (.int (1 : Int32)), .val (.ref wREQUIRED), .unset] [(.int k)])) (fun t_ k_ => XS.iloadN X.here hx rfl (hb hby at_26) rfl k_) ?_
      refine own_via (T' := T) (g' := (mkF m 28 #[.val (.int p0), .val (.int p1), .val (.int k), .val (.int (1 : Int32)), .val (.ref wREQUIRED), .unset] [(.int (1 : Int32)), (.int k)])) (fun t_ k_ => XS.iloadN X.here hx rfl (hb hby at_27) rfl k_) ?_
      obtain ⟨_, _, ⟨T, Lq, kq, nq⟩, -, X, ⟨Lc, hQ, lq, yq, zq⟩, st⟩ := Jvm.LawKit.callS X hx (y := (⟨"com/example/demarcate/demarcate/AttributeEntryPinLaw", "expect", "(IZ)Lcom/example/demarcate/demarcate/Attribute$Entry;"⟩ : MethodName)) hown (mvT hZ (hw _ (List.mem_of_getElem? (i := 8) rfl))) (mvT hZ (hw _ (List.mem_of_getElem? (i := 9) rfl))) (mvT hZ (hw _ (List.mem_of_getElem? (i := 3) rfl))) (mvT hZ (hw _ (List.mem_of_getElem? (i := 10) rfl))) (by decide) (backOf (W := 0) (own_expect l Z a0 hw [] k (1 : Int32) wJOIN wNEW_TRANSACTION wREFUSE wNO_TRANSACTION wSAVEPOINT wJOIN h n0 O S_JOIN S_NEW_TRANSACTION S_REFUSE S_NO_TRANSACTION S_SAVEPOINT (by simp [own_expV, hc8])) hZ (hw _ (List.mem_of_getElem? (i := 10) rfl)) (hw _ (List.mem_of_getElem? (i := 3) rfl)) (by decide) (by decide)) (g := (mkF m 28 #[.val (.int p0), .val (.int p1), .val (.int k), .val (.int (1 : Int32)), .val (.ref wREQUIRED), .unset] [(.int (1 : Int32)), (.int k)])) rfl (by rw [hml]; rfl) (argsL := [(.int k), (.int (1 : Int32))]) (rest := []) (lenOf own_pd1 rfl) rfl (by show 2 * 0 + _ ≤ _; exact Nat.le_of_eq rfl) (hb hby at_28) (fun _ _ => ⟨rfl, eT, (by decide : 0 + 0 ≤ _), (by decide : 0 + 0 ≤ _)⟩)
      dsimp only [Pt.U, Pt.locs, Pt.cells, Pt.slots] at X lq yq zq st hQ
      subst lq yq zq
      obtain ⟨rfl, Nq, eT⟩ := hQ
      replace N := Fr.app N Nq
      refine own_via (g' := (mkF m 31 #[.val (.int p0), .val (.int p1), .val (.int k), .val (.int (1 : Int32)), .val (.ref wREQUIRED), .unset] [(.ref wJOIN)])) st ?_
      refine own_via (T' := T) (g' := (mkF m 33 #[.val (.int p0), .val (.int p1), .val (.int k), .val (.int (1 : Int32)), .val (.ref wREQUIRED), .val (.ref wJOIN)] [])) (fun t_ k_ => XS.astore X.here hx rfl (hb hby at_31) rfl rfl (l' := #[.val (.int p0), .val (.int p1), .val (.int k), .val (.int (1 : Int32)), .val (.ref wREQUIRED), .val (.ref wJOIN)]) rfl k_) ?_
      refine own_via (T' := T) (g' := (mkF m 35 #[.val (.int p0), .val (.int p1), .val (.int k), .val (.int (1 : Int32)), .val (.ref wREQUIRED), .val (.ref wJOIN)] [(.ref wREQUIRED)])) (fun t_ k_ => XS.aload X.here hx rfl (hb hby at_33) rfl rfl k_) ?_
      refine own_via (T' := T) (g' := (mkF m 36 #[.val (.int p0), .val (.int p1), .val (.int k), .val (.int (1 : Int32)), .val (.ref wREQUIRED), .val (.ref wJOIN)] [(.int (1 : Int32)), (.ref wREQUIRED)])) (fun t_ k_ => XS.iloadN X.here hx rfl (hb hby at_35) rfl k_) ?_
      obtain ⟨cq, kq, qa, qb, qc⟩ := isOf hZ eT (E_REQUIRED.ext O.2)
      obtain ⟨_, _, ⟨T, Lq, kq, nq⟩, -, X, ⟨Lc, hQ, lq, yq, zq⟩, st⟩ := X.virtualBack hx (y := (⟨"com/example/demarcate/demarcate/Attribute", "entry", "(Z)Lcom/example/demarcate/demarcate/Attribute$Entry;"⟩ : MethodName)) (z := (⟨"com/example/demarcate/demarcate/Attribute", "entry", "(Z)Lcom/example/demarcate/demarcate/Attribute$Entry;"⟩ : MethodName)) hown (mvT hZ (hw _ (List.mem_of_getElem? (i := 14) rfl))) (mvT hZ (hw _ (List.mem_of_getElem? (i := 15) rfl))) (notFace_of_selects (args := #[]) (mvT hZ (hw _ (List.mem_of_getElem? (i := 17) rfl)))) (mvT hZ (hw _ (List.mem_of_getElem? (i := 17) rfl))) (mvT hZ (hw _ (List.mem_of_getElem? (i := 16) rfl))) (by decide) (backOf (W := 0) (own_entry l Z a0 hw [] wREQUIRED (1 : Int32) wJOIN wNEW_TRANSACTION wJOIN h n0 O F_in_REQUIRED F_ot_REQUIRED ⟨fun q => by first | rfl | exact absurd q (by decide), fun q => by first | rfl | exact absurd rfl q⟩) hZ (hw _ (List.mem_of_getElem? (i := 18) rfl)) (hw _ (List.mem_of_getElem? (i := 6) rfl)) (by decide) (by decide)) qa qc (g := (mkF m 36 #[.val (.int p0), .val (.int p1), .val (.int k), .val (.int (1 : Int32)), .val (.ref wREQUIRED), .val (.ref wJOIN)] [(.int (1 : Int32)), (.ref wREQUIRED)])) rfl (by rw [hml]; rfl) (Steps.refl _) (argsL := [(.int (1 : Int32))]) (rest := []) (lenOf own_pd2 rfl) rfl (by show 2 * 0 + _ ≤ _; exact Nat.le_of_eq rfl) (hb hby at_36) (fun _ _ => ⟨rfl, eT, (by decide : 0 + 0 ≤ _), (by decide : 0 + 0 ≤ _)⟩)
      dsimp only [Pt.U, Pt.locs, Pt.cells, Pt.slots] at X lq yq zq st hQ
      subst lq yq zq
      obtain ⟨rfl, Nq, eT⟩ := hQ
      replace N := Fr.app N Nq
      refine own_viaT (g' := (mkF m 39 #[.val (.int p0), .val (.int p1), .val (.int k), .val (.int (1 : Int32)), .val (.ref wREQUIRED), .val (.ref wJOIN)] [(.ref wJOIN)])) st ?_
      refine own_via (T' := T) (g' := (mkF m 41 #[.val (.int p0), .val (.int p1), .val (.int k), .val (.int (1 : Int32)), .val (.ref wREQUIRED), .val (.ref wJOIN)] [(.ref wJOIN), (.ref wJOIN)])) (fun t_ k_ => XS.aload X.here hx rfl (hb hby at_39) rfl rfl k_) ?_
      refine own_via (T' := T) (g' := (mkF m 44 #[.val (.int p0), .val (.int p1), .val (.int k), .val (.int (1 : Int32)), .val (.ref wREQUIRED), .val (.ref wJOIN)] [])) (fun t_ k_ => Jvm.RoadKit.acmp (g := (mkF m 41 #[.val (.int p0), .val (.int p1), .val (.int k), .val (.int (1 : Int32)), .val (.ref wREQUIRED), .val (.ref wJOIN)] [(.ref wJOIN), (.ref wJOIN)])) X hx rfl rfl rfl (pc0 := 41) (pc' := 44) (same := true) rfl (hb hby at_41) rfl (decide_eq_true rfl) (by decide) (by decide) k_) ?_
      refine own_via (T' := T) (g' := (mkF m 45 #[.val (.int p0), .val (.int p1), .val (.int k), .val (.int (1 : Int32)), .val (.ref wREQUIRED), .val (.ref wJOIN)] [(.int (1 : Int32))])) (fun t_ k_ => XS.iconst X.here hx rfl (hb hby at_44) k_) ?_
      refine own_via (T' := T) (g' := (mkF m 49 #[.val (.int p0), .val (.int p1), .val (.int k), .val (.int (1 : Int32)), .val (.ref wREQUIRED), .val (.ref wJOIN)] [(.int (1 : Int32))])) (fun t_ k_ => XS.goto X.here hx rfl (pc0 := 45) (pc' := 49) rfl (hb hby at_45) (by decide) (by decide) k_) ?_
      refine own_retN X hx hlk (t := .boolean) Bd.returns (by simp) (hb hby at_49) (by decide) (by decide) ?_
      rw [eT]
      exact ⟨rfl, N, trivial⟩
    · by_cases hc9 : k = (1 : Int32)
      · obtain ⟨_, _, ⟨T, Lq, kq, nq⟩, -, X, ⟨Lc, hQ, lq, yq, zq⟩, st⟩ := Jvm.LawKit.callS X hx (y := (⟨"com/example/demarcate/demarcate/AttributeEntryPinLaw", "pick", "(I)Lcom/example/demarcate/demarcate/Attribute;"⟩ : MethodName)) hown (mvT hZ (hw _ (List.mem_of_getElem? (i := 1) rfl))) (mvT hZ (hw _ (List.mem_of_getElem? (i := 2) rfl))) (mvT hZ (hw _ (List.mem_of_getElem? (i := 3) rfl))) (mvT hZ (hw _ (List.mem_of_getElem? (i := 4) rfl))) (by decide) (backOf (W := 0) (own_pick l Z a0 hw [] k wREQUIRED wREQUIRES_NEW wMANDATORY wNOT_SUPPORTED wNEVER wSUPPORTS wNESTED wREQUIRES_NEW h n0 O S_REQUIRED S_REQUIRES_NEW S_MANDATORY S_NOT_SUPPORTED S_NEVER S_SUPPORTS S_NESTED (by simp [own_pickV, hc8, hc9])) hZ (hw _ (List.mem_of_getElem? (i := 4) rfl)) (hw _ (List.mem_of_getElem? (i := 3) rfl)) (by decide) (by decide)) (g := (mkF m 21 #[.val (.int p0), .val (.int p1), .val (.int k), .val (.int (1 : Int32)), .unset, .unset] [(.int k)])) rfl (by rw [hml]; rfl) (argsL := [(.int k)]) (rest := []) (lenOf own_pd0 rfl) rfl (by show 2 * 0 + _ ≤ _; exact Nat.le_of_eq rfl) (hb hby at_21) (fun _ _ => ⟨rfl, eT, (by decide : 0 + 0 ≤ _), (by decide : 0 + 0 ≤ _)⟩)
        dsimp only [Pt.U, Pt.locs, Pt.cells, Pt.slots] at X lq yq zq st hQ
        subst lq yq zq
        obtain ⟨rfl, Nq, eT⟩ := hQ
        replace N := Fr.app N Nq
        refine own_via (g' := (mkF m 24 #[.val (.int p0), .val (.int p1), .val (.int k), .val (.int (1 : Int32)), .unset, .unset] [(.ref wREQUIRES_NEW)])) st ?_
        refine own_via (T' := T) (g' := (mkF m 26 #[.val (.int p0), .val (.int p1), .val (.int k), .val (.int (1 : Int32)), .val (.ref wREQUIRES_NEW), .unset] [])) (fun t_ k_ => XS.astore X.here hx rfl (hb hby at_24) rfl rfl (l' := #[.val (.int p0), .val (.int p1), .val (.int k), .val (.int (1 : Int32)), .val (.ref wREQUIRES_NEW), .unset]) rfl k_) ?_
        refine own_via (T' := T) (g' := (mkF m 27 #[.val (.int p0), .val (.int p1), .val (.int k), .val (.int (1 : Int32)), .val (.ref wREQUIRES_NEW), .unset] [(.int k)])) (fun t_ k_ => XS.iloadN X.here hx rfl (hb hby at_26) rfl k_) ?_
        refine own_via (T' := T) (g' := (mkF m 28 #[.val (.int p0), .val (.int p1), .val (.int k), .val (.int (1 : Int32)), .val (.ref wREQUIRES_NEW), .unset] [(.int (1 : Int32)), (.int k)])) (fun t_ k_ => XS.iloadN X.here hx rfl (hb hby at_27) rfl k_) ?_
        obtain ⟨_, _, ⟨T, Lq, kq, nq⟩, -, X, ⟨Lc, hQ, lq, yq, zq⟩, st⟩ := Jvm.LawKit.callS X hx (y := (⟨"com/example/demarcate/demarcate/AttributeEntryPinLaw", "expect", "(IZ)Lcom/example/demarcate/demarcate/Attribute$Entry;"⟩ : MethodName)) hown (mvT hZ (hw _ (List.mem_of_getElem? (i := 8) rfl))) (mvT hZ (hw _ (List.mem_of_getElem? (i := 9) rfl))) (mvT hZ (hw _ (List.mem_of_getElem? (i := 3) rfl))) (mvT hZ (hw _ (List.mem_of_getElem? (i := 10) rfl))) (by decide) (backOf (W := 0) (own_expect l Z a0 hw [] k (1 : Int32) wJOIN wNEW_TRANSACTION wREFUSE wNO_TRANSACTION wSAVEPOINT wNEW_TRANSACTION h n0 O S_JOIN S_NEW_TRANSACTION S_REFUSE S_NO_TRANSACTION S_SAVEPOINT (by simp [own_expV, hc8, hc9])) hZ (hw _ (List.mem_of_getElem? (i := 10) rfl)) (hw _ (List.mem_of_getElem? (i := 3) rfl)) (by decide) (by decide)) (g := (mkF m 28 #[.val (.int p0), .val (.int p1), .val (.int k), .val (.int (1 : Int32)), .val (.ref wREQUIRES_NEW), .unset] [(.int (1 : Int32)), (.int k)])) rfl (by rw [hml]; rfl) (argsL := [(.int k), (.int (1 : Int32))]) (rest := []) (lenOf own_pd1 rfl) rfl (by show 2 * 0 + _ ≤ _; exact Nat.le_of_eq rfl) (hb hby at_28) (fun _ _ => ⟨rfl, eT, (by decide : 0 + 0 ≤ _), (by decide : 0 + 0 ≤ _)⟩)
        dsimp only [Pt.U, Pt.locs, Pt.cells, Pt.slots] at X lq yq zq st hQ
        subst lq yq zq
        obtain ⟨rfl, Nq, eT⟩ := hQ
        replace N := Fr.app N Nq
        refine own_via (g' := (mkF m 31 #[.val (.int p0), .val (.int p1), .val (.int k), .val (.int (1 : Int32)), .val (.ref wREQUIRES_NEW), .unset] [(.ref wNEW_TRANSACTION)])) st ?_
        refine own_via (T' := T) (g' := (mkF m 33 #[.val (.int p0), .val (.int p1), .val (.int k), .val (.int (1 : Int32)), .val (.ref wREQUIRES_NEW), .val (.ref wNEW_TRANSACTION)] [])) (fun t_ k_ => XS.astore X.here hx rfl (hb hby at_31) rfl rfl (l' := #[.val (.int p0), .val (.int p1), .val (.int k), .val (.int (1 : Int32)), .val (.ref wREQUIRES_NEW), .val (.ref wNEW_TRANSACTION)]) rfl k_) ?_
        refine own_via (T' := T) (g' := (mkF m 35 #[.val (.int p0), .val (.int p1), .val (.int k), .val (.int (1 : Int32)), .val (.ref wREQUIRES_NEW), .val (.ref wNEW_TRANSACTION)] [(.ref wREQUIRES_NEW)])) (fun t_ k_ => XS.aload X.here hx rfl (hb hby at_33) rfl rfl k_) ?_
        refine own_via (T' := T) (g' := (mkF m 36 #[.val (.int p0), .val (.int p1), .val (.int k), .val (.int (1 : Int32)), .val (.ref wREQUIRES_NEW), .val (.ref wNEW_TRANSACTION)] [(.int (1 : Int32)), (.ref wREQUIRES_NEW)])) (fun t_ k_ => XS.iloadN X.here hx rfl (hb hby at_35) rfl k_) ?_
        obtain ⟨cq, kq, qa, qb, qc⟩ := isOf hZ eT (E_REQUIRES_NEW.ext O.2)
        obtain ⟨_, _, ⟨T, Lq, kq, nq⟩, -, X, ⟨Lc, hQ, lq, yq, zq⟩, st⟩ := X.virtualBack hx (y := (⟨"com/example/demarcate/demarcate/Attribute", "entry", "(Z)Lcom/example/demarcate/demarcate/Attribute$Entry;"⟩ : MethodName)) (z := (⟨"com/example/demarcate/demarcate/Attribute", "entry", "(Z)Lcom/example/demarcate/demarcate/Attribute$Entry;"⟩ : MethodName)) hown (mvT hZ (hw _ (List.mem_of_getElem? (i := 14) rfl))) (mvT hZ (hw _ (List.mem_of_getElem? (i := 15) rfl))) (notFace_of_selects (args := #[]) (mvT hZ (hw _ (List.mem_of_getElem? (i := 17) rfl)))) (mvT hZ (hw _ (List.mem_of_getElem? (i := 17) rfl))) (mvT hZ (hw _ (List.mem_of_getElem? (i := 16) rfl))) (by decide) (backOf (W := 0) (own_entry l Z a0 hw [] wREQUIRES_NEW (1 : Int32) wNEW_TRANSACTION wNEW_TRANSACTION wNEW_TRANSACTION h n0 O F_in_REQUIRES_NEW F_ot_REQUIRES_NEW ⟨fun q => by first | rfl | exact absurd q (by decide), fun q => by first | rfl | exact absurd rfl q⟩) hZ (hw _ (List.mem_of_getElem? (i := 18) rfl)) (hw _ (List.mem_of_getElem? (i := 6) rfl)) (by decide) (by decide)) qa qc (g := (mkF m 36 #[.val (.int p0), .val (.int p1), .val (.int k), .val (.int (1 : Int32)), .val (.ref wREQUIRES_NEW), .val (.ref wNEW_TRANSACTION)] [(.int (1 : Int32)), (.ref wREQUIRES_NEW)])) rfl (by rw [hml]; rfl) (Steps.refl _) (argsL := [(.int (1 : Int32))]) (rest := []) (lenOf own_pd2 rfl) rfl (by show 2 * 0 + _ ≤ _; exact Nat.le_of_eq rfl) (hb hby at_36) (fun _ _ => ⟨rfl, eT, (by decide : 0 + 0 ≤ _), (by decide : 0 + 0 ≤ _)⟩)
        dsimp only [Pt.U, Pt.locs, Pt.cells, Pt.slots] at X lq yq zq st hQ
        subst lq yq zq
        obtain ⟨rfl, Nq, eT⟩ := hQ
        replace N := Fr.app N Nq
        refine own_viaT (g' := (mkF m 39 #[.val (.int p0), .val (.int p1), .val (.int k), .val (.int (1 : Int32)), .val (.ref wREQUIRES_NEW), .val (.ref wNEW_TRANSACTION)] [(.ref wNEW_TRANSACTION)])) st ?_
        refine own_via (T' := T) (g' := (mkF m 41 #[.val (.int p0), .val (.int p1), .val (.int k), .val (.int (1 : Int32)), .val (.ref wREQUIRES_NEW), .val (.ref wNEW_TRANSACTION)] [(.ref wNEW_TRANSACTION), (.ref wNEW_TRANSACTION)])) (fun t_ k_ => XS.aload X.here hx rfl (hb hby at_39) rfl rfl k_) ?_
        refine own_via (T' := T) (g' := (mkF m 44 #[.val (.int p0), .val (.int p1), .val (.int k), .val (.int (1 : Int32)), .val (.ref wREQUIRES_NEW), .val (.ref wNEW_TRANSACTION)] [])) (fun t_ k_ => Jvm.RoadKit.acmp (g := (mkF m 41 #[.val (.int p0), .val (.int p1), .val (.int k), .val (.int (1 : Int32)), .val (.ref wREQUIRES_NEW), .val (.ref wNEW_TRANSACTION)] [(.ref wNEW_TRANSACTION), (.ref wNEW_TRANSACTION)])) X hx rfl rfl rfl (pc0 := 41) (pc' := 44) (same := true) rfl (hb hby at_41) rfl (decide_eq_true rfl) (by decide) (by decide) k_) ?_
        refine own_via (T' := T) (g' := (mkF m 45 #[.val (.int p0), .val (.int p1), .val (.int k), .val (.int (1 : Int32)), .val (.ref wREQUIRES_NEW), .val (.ref wNEW_TRANSACTION)] [(.int (1 : Int32))])) (fun t_ k_ => XS.iconst X.here hx rfl (hb hby at_44) k_) ?_
        refine own_via (T' := T) (g' := (mkF m 49 #[.val (.int p0), .val (.int p1), .val (.int k), .val (.int (1 : Int32)), .val (.ref wREQUIRES_NEW), .val (.ref wNEW_TRANSACTION)] [(.int (1 : Int32))])) (fun t_ k_ => XS.goto X.here hx rfl (pc0 := 45) (pc' := 49) rfl (hb hby at_45) (by decide) (by decide) k_) ?_
        refine own_retN X hx hlk (t := .boolean) Bd.returns (by simp) (hb hby at_49) (by decide) (by decide) ?_
        rw [eT]
        exact ⟨rfl, N, trivial⟩
      · by_cases hc10 : k = (2 : Int32)
        · obtain ⟨_, _, ⟨T, Lq, kq, nq⟩, -, X, ⟨Lc, hQ, lq, yq, zq⟩, st⟩ := Jvm.LawKit.callS X hx (y := (⟨"com/example/demarcate/demarcate/AttributeEntryPinLaw", "pick", "(I)Lcom/example/demarcate/demarcate/Attribute;"⟩ : MethodName)) hown (mvT hZ (hw _ (List.mem_of_getElem? (i := 1) rfl))) (mvT hZ (hw _ (List.mem_of_getElem? (i := 2) rfl))) (mvT hZ (hw _ (List.mem_of_getElem? (i := 3) rfl))) (mvT hZ (hw _ (List.mem_of_getElem? (i := 4) rfl))) (by decide) (backOf (W := 0) (own_pick l Z a0 hw [] k wREQUIRED wREQUIRES_NEW wMANDATORY wNOT_SUPPORTED wNEVER wSUPPORTS wNESTED wMANDATORY h n0 O S_REQUIRED S_REQUIRES_NEW S_MANDATORY S_NOT_SUPPORTED S_NEVER S_SUPPORTS S_NESTED (by simp [own_pickV, hc8, hc9, hc10])) hZ (hw _ (List.mem_of_getElem? (i := 4) rfl)) (hw _ (List.mem_of_getElem? (i := 3) rfl)) (by decide) (by decide)) (g := (mkF m 21 #[.val (.int p0), .val (.int p1), .val (.int k), .val (.int (1 : Int32)), .unset, .unset] [(.int k)])) rfl (by rw [hml]; rfl) (argsL := [(.int k)]) (rest := []) (lenOf own_pd0 rfl) rfl (by show 2 * 0 + _ ≤ _; exact Nat.le_of_eq rfl) (hb hby at_21) (fun _ _ => ⟨rfl, eT, (by decide : 0 + 0 ≤ _), (by decide : 0 + 0 ≤ _)⟩)
          dsimp only [Pt.U, Pt.locs, Pt.cells, Pt.slots] at X lq yq zq st hQ
          subst lq yq zq
          obtain ⟨rfl, Nq, eT⟩ := hQ
          replace N := Fr.app N Nq
          refine own_via (g' := (mkF m 24 #[.val (.int p0), .val (.int p1), .val (.int k), .val (.int (1 : Int32)), .unset, .unset] [(.ref wMANDATORY)])) st ?_
          refine own_via (T' := T) (g' := (mkF m 26 #[.val (.int p0), .val (.int p1), .val (.int k), .val (.int (1 : Int32)), .val (.ref wMANDATORY), .unset] [])) (fun t_ k_ => XS.astore X.here hx rfl (hb hby at_24) rfl rfl (l' := #[.val (.int p0), .val (.int p1), .val (.int k), .val (.int (1 : Int32)), .val (.ref wMANDATORY), .unset]) rfl k_) ?_
          refine own_via (T' := T) (g' := (mkF m 27 #[.val (.int p0), .val (.int p1), .val (.int k), .val (.int (1 : Int32)), .val (.ref wMANDATORY), .unset] [(.int k)])) (fun t_ k_ => XS.iloadN X.here hx rfl (hb hby at_26) rfl k_) ?_
          refine own_via (T' := T) (g' := (mkF m 28 #[.val (.int p0), .val (.int p1), .val (.int k), .val (.int (1 : Int32)), .val (.ref wMANDATORY), .unset] [(.int (1 : Int32)), (.int k)])) (fun t_ k_ => XS.iloadN X.here hx rfl (hb hby at_27) rfl k_) ?_
          obtain ⟨_, _, ⟨T, Lq, kq, nq⟩, -, X, ⟨Lc, hQ, lq, yq, zq⟩, st⟩ := Jvm.LawKit.callS X hx (y := (⟨"com/example/demarcate/demarcate/AttributeEntryPinLaw", "expect", "(IZ)Lcom/example/demarcate/demarcate/Attribute$Entry;"⟩ : MethodName)) hown (mvT hZ (hw _ (List.mem_of_getElem? (i := 8) rfl))) (mvT hZ (hw _ (List.mem_of_getElem? (i := 9) rfl))) (mvT hZ (hw _ (List.mem_of_getElem? (i := 3) rfl))) (mvT hZ (hw _ (List.mem_of_getElem? (i := 10) rfl))) (by decide) (backOf (W := 0) (own_expect l Z a0 hw [] k (1 : Int32) wJOIN wNEW_TRANSACTION wREFUSE wNO_TRANSACTION wSAVEPOINT wJOIN h n0 O S_JOIN S_NEW_TRANSACTION S_REFUSE S_NO_TRANSACTION S_SAVEPOINT (by simp [own_expV, hc8, hc9, hc10])) hZ (hw _ (List.mem_of_getElem? (i := 10) rfl)) (hw _ (List.mem_of_getElem? (i := 3) rfl)) (by decide) (by decide)) (g := (mkF m 28 #[.val (.int p0), .val (.int p1), .val (.int k), .val (.int (1 : Int32)), .val (.ref wMANDATORY), .unset] [(.int (1 : Int32)), (.int k)])) rfl (by rw [hml]; rfl) (argsL := [(.int k), (.int (1 : Int32))]) (rest := []) (lenOf own_pd1 rfl) rfl (by show 2 * 0 + _ ≤ _; exact Nat.le_of_eq rfl) (hb hby at_28) (fun _ _ => ⟨rfl, eT, (by decide : 0 + 0 ≤ _), (by decide : 0 + 0 ≤ _)⟩)
          dsimp only [Pt.U, Pt.locs, Pt.cells, Pt.slots] at X lq yq zq st hQ
          subst lq yq zq
          obtain ⟨rfl, Nq, eT⟩ := hQ
          replace N := Fr.app N Nq
          refine own_via (g' := (mkF m 31 #[.val (.int p0), .val (.int p1), .val (.int k), .val (.int (1 : Int32)), .val (.ref wMANDATORY), .unset] [(.ref wJOIN)])) st ?_
          refine own_via (T' := T) (g' := (mkF m 33 #[.val (.int p0), .val (.int p1), .val (.int k), .val (.int (1 : Int32)), .val (.ref wMANDATORY), .val (.ref wJOIN)] [])) (fun t_ k_ => XS.astore X.here hx rfl (hb hby at_31) rfl rfl (l' := #[.val (.int p0), .val (.int p1), .val (.int k), .val (.int (1 : Int32)), .val (.ref wMANDATORY), .val (.ref wJOIN)]) rfl k_) ?_
          refine own_via (T' := T) (g' := (mkF m 35 #[.val (.int p0), .val (.int p1), .val (.int k), .val (.int (1 : Int32)), .val (.ref wMANDATORY), .val (.ref wJOIN)] [(.ref wMANDATORY)])) (fun t_ k_ => XS.aload X.here hx rfl (hb hby at_33) rfl rfl k_) ?_
          refine own_via (T' := T) (g' := (mkF m 36 #[.val (.int p0), .val (.int p1), .val (.int k), .val (.int (1 : Int32)), .val (.ref wMANDATORY), .val (.ref wJOIN)] [(.int (1 : Int32)), (.ref wMANDATORY)])) (fun t_ k_ => XS.iloadN X.here hx rfl (hb hby at_35) rfl k_) ?_
          obtain ⟨cq, kq, qa, qb, qc⟩ := isOf hZ eT (E_MANDATORY.ext O.2)
          obtain ⟨_, _, ⟨T, Lq, kq, nq⟩, -, X, ⟨Lc, hQ, lq, yq, zq⟩, st⟩ := X.virtualBack hx (y := (⟨"com/example/demarcate/demarcate/Attribute", "entry", "(Z)Lcom/example/demarcate/demarcate/Attribute$Entry;"⟩ : MethodName)) (z := (⟨"com/example/demarcate/demarcate/Attribute", "entry", "(Z)Lcom/example/demarcate/demarcate/Attribute$Entry;"⟩ : MethodName)) hown (mvT hZ (hw _ (List.mem_of_getElem? (i := 14) rfl))) (mvT hZ (hw _ (List.mem_of_getElem? (i := 15) rfl))) (notFace_of_selects (args := #[]) (mvT hZ (hw _ (List.mem_of_getElem? (i := 17) rfl)))) (mvT hZ (hw _ (List.mem_of_getElem? (i := 17) rfl))) (mvT hZ (hw _ (List.mem_of_getElem? (i := 16) rfl))) (by decide) (backOf (W := 0) (own_entry l Z a0 hw [] wMANDATORY (1 : Int32) wJOIN wREFUSE wJOIN h n0 O F_in_MANDATORY F_ot_MANDATORY ⟨fun q => by first | rfl | exact absurd q (by decide), fun q => by first | rfl | exact absurd rfl q⟩) hZ (hw _ (List.mem_of_getElem? (i := 18) rfl)) (hw _ (List.mem_of_getElem? (i := 6) rfl)) (by decide) (by decide)) qa qc (g := (mkF m 36 #[.val (.int p0), .val (.int p1), .val (.int k), .val (.int (1 : Int32)), .val (.ref wMANDATORY), .val (.ref wJOIN)] [(.int (1 : Int32)), (.ref wMANDATORY)])) rfl (by rw [hml]; rfl) (Steps.refl _) (argsL := [(.int (1 : Int32))]) (rest := []) (lenOf own_pd2 rfl) rfl (by show 2 * 0 + _ ≤ _; exact Nat.le_of_eq rfl) (hb hby at_36) (fun _ _ => ⟨rfl, eT, (by decide : 0 + 0 ≤ _), (by decide : 0 + 0 ≤ _)⟩)
          dsimp only [Pt.U, Pt.locs, Pt.cells, Pt.slots] at X lq yq zq st hQ
          subst lq yq zq
          obtain ⟨rfl, Nq, eT⟩ := hQ
          replace N := Fr.app N Nq
          refine own_viaT (g' := (mkF m 39 #[.val (.int p0), .val (.int p1), .val (.int k), .val (.int (1 : Int32)), .val (.ref wMANDATORY), .val (.ref wJOIN)] [(.ref wJOIN)])) st ?_
          refine own_via (T' := T) (g' := (mkF m 41 #[.val (.int p0), .val (.int p1), .val (.int k), .val (.int (1 : Int32)), .val (.ref wMANDATORY), .val (.ref wJOIN)] [(.ref wJOIN), (.ref wJOIN)])) (fun t_ k_ => XS.aload X.here hx rfl (hb hby at_39) rfl rfl k_) ?_
          refine own_via (T' := T) (g' := (mkF m 44 #[.val (.int p0), .val (.int p1), .val (.int k), .val (.int (1 : Int32)), .val (.ref wMANDATORY), .val (.ref wJOIN)] [])) (fun t_ k_ => Jvm.RoadKit.acmp (g := (mkF m 41 #[.val (.int p0), .val (.int p1), .val (.int k), .val (.int (1 : Int32)), .val (.ref wMANDATORY), .val (.ref wJOIN)] [(.ref wJOIN), (.ref wJOIN)])) X hx rfl rfl rfl (pc0 := 41) (pc' := 44) (same := true) rfl (hb hby at_41) rfl (decide_eq_true rfl) (by decide) (by decide) k_) ?_
          refine own_via (T' := T) (g' := (mkF m 45 #[.val (.int p0), .val (.int p1), .val (.int k), .val (.int (1 : Int32)), .val (.ref wMANDATORY), .val (.ref wJOIN)] [(.int (1 : Int32))])) (fun t_ k_ => XS.iconst X.here hx rfl (hb hby at_44) k_) ?_
          refine own_via (T' := T) (g' := (mkF m 49 #[.val (.int p0), .val (.int p1), .val (.int k), .val (.int (1 : Int32)), .val (.ref wMANDATORY), .val (.ref wJOIN)] [(.int (1 : Int32))])) (fun t_ k_ => XS.goto X.here hx rfl (pc0 := 45) (pc' := 49) rfl (hb hby at_45) (by decide) (by decide) k_) ?_
          refine own_retN X hx hlk (t := .boolean) Bd.returns (by simp) (hb hby at_49) (by decide) (by decide) ?_
          rw [eT]
          exact ⟨rfl, N, trivial⟩
        · by_cases hc11 : k = (3 : Int32)
          · obtain ⟨_, _, ⟨T, Lq, kq, nq⟩, -, X, ⟨Lc, hQ, lq, yq, zq⟩, st⟩ := Jvm.LawKit.callS X hx (y := (⟨"com/example/demarcate/demarcate/AttributeEntryPinLaw", "pick", "(I)Lcom/example/demarcate/demarcate/Attribute;"⟩ : MethodName)) hown (mvT hZ (hw _ (List.mem_of_getElem? (i := 1) rfl))) (mvT hZ (hw _ (List.mem_of_getElem? (i := 2) rfl))) (mvT hZ (hw _ (List.mem_of_getElem? (i := 3) rfl))) (mvT hZ (hw _ (List.mem_of_getElem? (i := 4) rfl))) (by decide) (backOf (W := 0) (own_pick l Z a0 hw [] k wREQUIRED wREQUIRES_NEW wMANDATORY wNOT_SUPPORTED wNEVER wSUPPORTS wNESTED wNOT_SUPPORTED h n0 O S_REQUIRED S_REQUIRES_NEW S_MANDATORY S_NOT_SUPPORTED S_NEVER S_SUPPORTS S_NESTED (by simp [own_pickV, hc8, hc9, hc10, hc11])) hZ (hw _ (List.mem_of_getElem? (i := 4) rfl)) (hw _ (List.mem_of_getElem? (i := 3) rfl)) (by decide) (by decide)) (g := (mkF m 21 #[.val (.int p0), .val (.int p1), .val (.int k), .val (.int (1 : Int32)), .unset, .unset] [(.int k)])) rfl (by rw [hml]; rfl) (argsL := [(.int k)]) (rest := []) (lenOf own_pd0 rfl) rfl (by show 2 * 0 + _ ≤ _; exact Nat.le_of_eq rfl) (hb hby at_21) (fun _ _ => ⟨rfl, eT, (by decide : 0 + 0 ≤ _), (by decide : 0 + 0 ≤ _)⟩)
            dsimp only [Pt.U, Pt.locs, Pt.cells, Pt.slots] at X lq yq zq st hQ
            subst lq yq zq
            obtain ⟨rfl, Nq, eT⟩ := hQ
            replace N := Fr.app N Nq
            refine own_via (g' := (mkF m 24 #[.val (.int p0), .val (.int p1), .val (.int k), .val (.int (1 : Int32)), .unset, .unset] [(.ref wNOT_SUPPORTED)])) st ?_
            refine own_via (T' := T) (g' := (mkF m 26 #[.val (.int p0), .val (.int p1), .val (.int k), .val (.int (1 : Int32)), .val (.ref wNOT_SUPPORTED), .unset] [])) (fun t_ k_ => XS.astore X.here hx rfl (hb hby at_24) rfl rfl (l' := #[.val (.int p0), .val (.int p1), .val (.int k), .val (.int (1 : Int32)), .val (.ref wNOT_SUPPORTED), .unset]) rfl k_) ?_
            refine own_via (T' := T) (g' := (mkF m 27 #[.val (.int p0), .val (.int p1), .val (.int k), .val (.int (1 : Int32)), .val (.ref wNOT_SUPPORTED), .unset] [(.int k)])) (fun t_ k_ => XS.iloadN X.here hx rfl (hb hby at_26) rfl k_) ?_
            refine own_via (T' := T) (g' := (mkF m 28 #[.val (.int p0), .val (.int p1), .val (.int k), .val (.int (1 : Int32)), .val (.ref wNOT_SUPPORTED), .unset] [(.int (1 : Int32)), (.int k)])) (fun t_ k_ => XS.iloadN X.here hx rfl (hb hby at_27) rfl k_) ?_
            obtain ⟨_, _, ⟨T, Lq, kq, nq⟩, -, X, ⟨Lc, hQ, lq, yq, zq⟩, st⟩ := Jvm.LawKit.callS X hx (y := (⟨"com/example/demarcate/demarcate/AttributeEntryPinLaw", "expect", "(IZ)Lcom/example/demarcate/demarcate/Attribute$Entry;"⟩ : MethodName)) hown (mvT hZ (hw _ (List.mem_of_getElem? (i := 8) rfl))) (mvT hZ (hw _ (List.mem_of_getElem? (i := 9) rfl))) (mvT hZ (hw _ (List.mem_of_getElem? (i := 3) rfl))) (mvT hZ (hw _ (List.mem_of_getElem? (i := 10) rfl))) (by decide) (backOf (W := 0) (own_expect l Z a0 hw [] k (1 : Int32) wJOIN wNEW_TRANSACTION wREFUSE wNO_TRANSACTION wSAVEPOINT wNO_TRANSACTION h n0 O S_JOIN S_NEW_TRANSACTION S_REFUSE S_NO_TRANSACTION S_SAVEPOINT (by simp [own_expV, hc8, hc9, hc10, hc11])) hZ (hw _ (List.mem_of_getElem? (i := 10) rfl)) (hw _ (List.mem_of_getElem? (i := 3) rfl)) (by decide) (by decide)) (g := (mkF m 28 #[.val (.int p0), .val (.int p1), .val (.int k), .val (.int (1 : Int32)), .val (.ref wNOT_SUPPORTED), .unset] [(.int (1 : Int32)), (.int k)])) rfl (by rw [hml]; rfl) (argsL := [(.int k), (.int (1 : Int32))]) (rest := []) (lenOf own_pd1 rfl) rfl (by show 2 * 0 + _ ≤ _; exact Nat.le_of_eq rfl) (hb hby at_28) (fun _ _ => ⟨rfl, eT, (by decide : 0 + 0 ≤ _), (by decide : 0 + 0 ≤ _)⟩)
            dsimp only [Pt.U, Pt.locs, Pt.cells, Pt.slots] at X lq yq zq st hQ
            subst lq yq zq
            obtain ⟨rfl, Nq, eT⟩ := hQ
            replace N := Fr.app N Nq
            refine own_via (g' := (mkF m 31 #[.val (.int p0), .val (.int p1), .val (.int k), .val (.int (1 : Int32)), .val (.ref wNOT_SUPPORTED), .unset] [(.ref wNO_TRANSACTION)])) st ?_
            refine own_via (T' := T) (g' := (mkF m 33 #[.val (.int p0), .val (.int p1), .val (.int k), .val (.int (1 : Int32)), .val (.ref wNOT_SUPPORTED), .val (.ref wNO_TRANSACTION)] [])) (fun t_ k_ => XS.astore X.here hx rfl (hb hby at_31) rfl rfl (l' := #[.val (.int p0), .val (.int p1), .val (.int k), .val (.int (1 : Int32)), .val (.ref wNOT_SUPPORTED), .val (.ref wNO_TRANSACTION)]) rfl k_) ?_
            refine own_via (T' := T) (g' := (mkF m 35 #[.val (.int p0), .val (.int p1), .val (.int k), .val (.int (1 : Int32)), .val (.ref wNOT_SUPPORTED), .val (.ref wNO_TRANSACTION)] [(.ref wNOT_SUPPORTED)])) (fun t_ k_ => XS.aload X.here hx rfl (hb hby at_33) rfl rfl k_) ?_
            refine own_via (T' := T) (g' := (mkF m 36 #[.val (.int p0), .val (.int p1), .val (.int k), .val (.int (1 : Int32)), .val (.ref wNOT_SUPPORTED), .val (.ref wNO_TRANSACTION)] [(.int (1 : Int32)), (.ref wNOT_SUPPORTED)])) (fun t_ k_ => XS.iloadN X.here hx rfl (hb hby at_35) rfl k_) ?_
            obtain ⟨cq, kq, qa, qb, qc⟩ := isOf hZ eT (E_NOT_SUPPORTED.ext O.2)
            obtain ⟨_, _, ⟨T, Lq, kq, nq⟩, -, X, ⟨Lc, hQ, lq, yq, zq⟩, st⟩ := X.virtualBack hx (y := (⟨"com/example/demarcate/demarcate/Attribute", "entry", "(Z)Lcom/example/demarcate/demarcate/Attribute$Entry;"⟩ : MethodName)) (z := (⟨"com/example/demarcate/demarcate/Attribute", "entry", "(Z)Lcom/example/demarcate/demarcate/Attribute$Entry;"⟩ : MethodName)) hown (mvT hZ (hw _ (List.mem_of_getElem? (i := 14) rfl))) (mvT hZ (hw _ (List.mem_of_getElem? (i := 15) rfl))) (notFace_of_selects (args := #[]) (mvT hZ (hw _ (List.mem_of_getElem? (i := 17) rfl)))) (mvT hZ (hw _ (List.mem_of_getElem? (i := 17) rfl))) (mvT hZ (hw _ (List.mem_of_getElem? (i := 16) rfl))) (by decide) (backOf (W := 0) (own_entry l Z a0 hw [] wNOT_SUPPORTED (1 : Int32) wNO_TRANSACTION wNO_TRANSACTION wNO_TRANSACTION h n0 O F_in_NOT_SUPPORTED F_ot_NOT_SUPPORTED ⟨fun q => by first | rfl | exact absurd q (by decide), fun q => by first | rfl | exact absurd rfl q⟩) hZ (hw _ (List.mem_of_getElem? (i := 18) rfl)) (hw _ (List.mem_of_getElem? (i := 6) rfl)) (by decide) (by decide)) qa qc (g := (mkF m 36 #[.val (.int p0), .val (.int p1), .val (.int k), .val (.int (1 : Int32)), .val (.ref wNOT_SUPPORTED), .val (.ref wNO_TRANSACTION)] [(.int (1 : Int32)), (.ref wNOT_SUPPORTED)])) rfl (by rw [hml]; rfl) (Steps.refl _) (argsL := [(.int (1 : Int32))]) (rest := []) (lenOf own_pd2 rfl) rfl (by show 2 * 0 + _ ≤ _; exact Nat.le_of_eq rfl) (hb hby at_36) (fun _ _ => ⟨rfl, eT, (by decide : 0 + 0 ≤ _), (by decide : 0 + 0 ≤ _)⟩)
            dsimp only [Pt.U, Pt.locs, Pt.cells, Pt.slots] at X lq yq zq st hQ
            subst lq yq zq
            obtain ⟨rfl, Nq, eT⟩ := hQ
            replace N := Fr.app N Nq
            refine own_viaT (g' := (mkF m 39 #[.val (.int p0), .val (.int p1), .val (.int k), .val (.int (1 : Int32)), .val (.ref wNOT_SUPPORTED), .val (.ref wNO_TRANSACTION)] [(.ref wNO_TRANSACTION)])) st ?_
            refine own_via (T' := T) (g' := (mkF m 41 #[.val (.int p0), .val (.int p1), .val (.int k), .val (.int (1 : Int32)), .val (.ref wNOT_SUPPORTED), .val (.ref wNO_TRANSACTION)] [(.ref wNO_TRANSACTION), (.ref wNO_TRANSACTION)])) (fun t_ k_ => XS.aload X.here hx rfl (hb hby at_39) rfl rfl k_) ?_
            refine own_via (T' := T) (g' := (mkF m 44 #[.val (.int p0), .val (.int p1), .val (.int k), .val (.int (1 : Int32)), .val (.ref wNOT_SUPPORTED), .val (.ref wNO_TRANSACTION)] [])) (fun t_ k_ => Jvm.RoadKit.acmp (g := (mkF m 41 #[.val (.int p0), .val (.int p1), .val (.int k), .val (.int (1 : Int32)), .val (.ref wNOT_SUPPORTED), .val (.ref wNO_TRANSACTION)] [(.ref wNO_TRANSACTION), (.ref wNO_TRANSACTION)])) X hx rfl rfl rfl (pc0 := 41) (pc' := 44) (same := true) rfl (hb hby at_41) rfl (decide_eq_true rfl) (by decide) (by decide) k_) ?_
            refine own_via (T' := T) (g' := (mkF m 45 #[.val (.int p0), .val (.int p1), .val (.int k), .val (.int (1 : Int32)), .val (.ref wNOT_SUPPORTED), .val (.ref wNO_TRANSACTION)] [(.int (1 : Int32))])) (fun t_ k_ => XS.iconst X.here hx rfl (hb hby at_44) k_) ?_
            refine own_via (T' := T) (g' := (mkF m 49 #[.val (.int p0), .val (.int p1), .val (.int k), .val (.int (1 : Int32)), .val (.ref wNOT_SUPPORTED), .val (.ref wNO_TRANSACTION)] [(.int (1 : Int32))])) (fun t_ k_ => XS.goto X.here hx rfl (pc0 := 45) (pc' := 49) rfl (hb hby at_45) (by decide) (by decide) k_) ?_
            refine own_retN X hx hlk (t := .boolean) Bd.returns (by simp) (hb hby at_49) (by decide) (by decide) ?_
            rw [eT]
            exact ⟨rfl, N, trivial⟩
          · by_cases hc12 : k = (4 : Int32)
            · obtain ⟨_, _, ⟨T, Lq, kq, nq⟩, -, X, ⟨Lc, hQ, lq, yq, zq⟩, st⟩ := Jvm.LawKit.callS X hx (y := (⟨"com/example/demarcate/demarcate/AttributeEntryPinLaw", "pick", "(I)Lcom/example/demarcate/demarcate/Attribute;"⟩ : MethodName)) hown (mvT hZ (hw _ (List.mem_of_getElem? (i := 1) rfl))) (mvT hZ (hw _ (List.mem_of_getElem? (i := 2) rfl))) (mvT hZ (hw _ (List.mem_of_getElem? (i := 3) rfl))) (mvT hZ (hw _ (List.mem_of_getElem? (i := 4) rfl))) (by decide) (backOf (W := 0) (own_pick l Z a0 hw [] k wREQUIRED wREQUIRES_NEW wMANDATORY wNOT_SUPPORTED wNEVER wSUPPORTS wNESTED wNEVER h n0 O S_REQUIRED S_REQUIRES_NEW S_MANDATORY S_NOT_SUPPORTED S_NEVER S_SUPPORTS S_NESTED (by simp [own_pickV, hc8, hc9, hc10, hc11, hc12])) hZ (hw _ (List.mem_of_getElem? (i := 4) rfl)) (hw _ (List.mem_of_getElem? (i := 3) rfl)) (by decide) (by decide)) (g := (mkF m 21 #[.val (.int p0), .val (.int p1), .val (.int k), .val (.int (1 : Int32)), .unset, .unset] [(.int k)])) rfl (by rw [hml]; rfl) (argsL := [(.int k)]) (rest := []) (lenOf own_pd0 rfl) rfl (by show 2 * 0 + _ ≤ _; exact Nat.le_of_eq rfl) (hb hby at_21) (fun _ _ => ⟨rfl, eT, (by decide : 0 + 0 ≤ _), (by decide : 0 + 0 ≤ _)⟩)
              dsimp only [Pt.U, Pt.locs, Pt.cells, Pt.slots] at X lq yq zq st hQ
              subst lq yq zq
              obtain ⟨rfl, Nq, eT⟩ := hQ
              replace N := Fr.app N Nq
              refine own_via (g' := (mkF m 24 #[.val (.int p0), .val (.int p1), .val (.int k), .val (.int (1 : Int32)), .unset, .unset] [(.ref wNEVER)])) st ?_
              refine own_via (T' := T) (g' := (mkF m 26 #[.val (.int p0), .val (.int p1), .val (.int k), .val (.int (1 : Int32)), .val (.ref wNEVER), .unset] [])) (fun t_ k_ => XS.astore X.here hx rfl (hb hby at_24) rfl rfl (l' := #[.val (.int p0), .val (.int p1), .val (.int k), .val (.int (1 : Int32)), .val (.ref wNEVER), .unset]) rfl k_) ?_
              refine own_via (T' := T) (g' := (mkF m 27 #[.val (.int p0), .val (.int p1), .val (.int k), .val (.int (1 : Int32)), .val (.ref wNEVER), .unset] [(.int k)])) (fun t_ k_ => XS.iloadN X.here hx rfl (hb hby at_26) rfl k_) ?_
              refine own_via (T' := T) (g' := (mkF m 28 #[.val (.int p0), .val (.int p1), .val (.int k), .val (.int (1 : Int32)), .val (.ref wNEVER), .unset] [(.int (1 : Int32)), (.int k)])) (fun t_ k_ => XS.iloadN X.here hx rfl (hb hby at_27) rfl k_) ?_
              obtain ⟨_, _, ⟨T, Lq, kq, nq⟩, -, X, ⟨Lc, hQ, lq, yq, zq⟩, st⟩ := Jvm.LawKit.callS X hx (y := (⟨"com/example/demarcate/demarcate/AttributeEntryPinLaw", "expect", "(IZ)Lcom/example/demarcate/demarcate/Attribute$Entry;"⟩ : MethodName)) hown (mvT hZ (hw _ (List.mem_of_getElem? (i := 8) rfl))) (mvT hZ (hw _ (List.mem_of_getElem? (i := 9) rfl))) (mvT hZ (hw _ (List.mem_of_getElem? (i := 3) rfl))) (mvT hZ (hw _ (List.mem_of_getElem? (i := 10) rfl))) (by decide) (backOf (W := 0) (own_expect l Z a0 hw [] k (1 : Int32) wJOIN wNEW_TRANSACTION wREFUSE wNO_TRANSACTION wSAVEPOINT wREFUSE h n0 O S_JOIN S_NEW_TRANSACTION S_REFUSE S_NO_TRANSACTION S_SAVEPOINT (by simp [own_expV, hc8, hc9, hc10, hc11, hc12])) hZ (hw _ (List.mem_of_getElem? (i := 10) rfl)) (hw _ (List.mem_of_getElem? (i := 3) rfl)) (by decide) (by decide)) (g := (mkF m 28 #[.val (.int p0), .val (.int p1), .val (.int k), .val (.int (1 : Int32)), .val (.ref wNEVER), .unset] [(.int (1 : Int32)), (.int k)])) rfl (by rw [hml]; rfl) (argsL := [(.int k), (.int (1 : Int32))]) (rest := []) (lenOf own_pd1 rfl) rfl (by show 2 * 0 + _ ≤ _; exact Nat.le_of_eq rfl) (hb hby at_28) (fun _ _ => ⟨rfl, eT, (by decide : 0 + 0 ≤ _), (by decide : 0 + 0 ≤ _)⟩)
              dsimp only [Pt.U, Pt.locs, Pt.cells, Pt.slots] at X lq yq zq st hQ
              subst lq yq zq
              obtain ⟨rfl, Nq, eT⟩ := hQ
              replace N := Fr.app N Nq
              refine own_via (g' := (mkF m 31 #[.val (.int p0), .val (.int p1), .val (.int k), .val (.int (1 : Int32)), .val (.ref wNEVER), .unset] [(.ref wREFUSE)])) st ?_
              refine own_via (T' := T) (g' := (mkF m 33 #[.val (.int p0), .val (.int p1), .val (.int k), .val (.int (1 : Int32)), .val (.ref wNEVER), .val (.ref wREFUSE)] [])) (fun t_ k_ => XS.astore X.here hx rfl (hb hby at_31) rfl rfl (l' := #[.val (.int p0), .val (.int p1), .val (.int k), .val (.int (1 : Int32)), .val (.ref wNEVER), .val (.ref wREFUSE)]) rfl k_) ?_
              refine own_via (T' := T) (g' := (mkF m 35 #[.val (.int p0), .val (.int p1), .val (.int k), .val (.int (1 : Int32)), .val (.ref wNEVER), .val (.ref wREFUSE)] [(.ref wNEVER)])) (fun t_ k_ => XS.aload X.here hx rfl (hb hby at_33) rfl rfl k_) ?_
              refine own_via (T' := T) (g' := (mkF m 36 #[.val (.int p0), .val (.int p1), .val (.int k), .val (.int (1 : Int32)), .val (.ref wNEVER), .val (.ref wREFUSE)] [(.int (1 : Int32)), (.ref wNEVER)])) (fun t_ k_ => XS.iloadN X.here hx rfl (hb hby at_35) rfl k_) ?_
              obtain ⟨cq, kq, qa, qb, qc⟩ := isOf hZ eT (E_NEVER.ext O.2)
              obtain ⟨_, _, ⟨T, Lq, kq, nq⟩, -, X, ⟨Lc, hQ, lq, yq, zq⟩, st⟩ := X.virtualBack hx (y := (⟨"com/example/demarcate/demarcate/Attribute", "entry", "(Z)Lcom/example/demarcate/demarcate/Attribute$Entry;"⟩ : MethodName)) (z := (⟨"com/example/demarcate/demarcate/Attribute", "entry", "(Z)Lcom/example/demarcate/demarcate/Attribute$Entry;"⟩ : MethodName)) hown (mvT hZ (hw _ (List.mem_of_getElem? (i := 14) rfl))) (mvT hZ (hw _ (List.mem_of_getElem? (i := 15) rfl))) (notFace_of_selects (args := #[]) (mvT hZ (hw _ (List.mem_of_getElem? (i := 17) rfl)))) (mvT hZ (hw _ (List.mem_of_getElem? (i := 17) rfl))) (mvT hZ (hw _ (List.mem_of_getElem? (i := 16) rfl))) (by decide) (backOf (W := 0) (own_entry l Z a0 hw [] wNEVER (1 : Int32) wREFUSE wNO_TRANSACTION wREFUSE h n0 O F_in_NEVER F_ot_NEVER ⟨fun q => by first | rfl | exact absurd q (by decide), fun q => by first | rfl | exact absurd rfl q⟩) hZ (hw _ (List.mem_of_getElem? (i := 18) rfl)) (hw _ (List.mem_of_getElem? (i := 6) rfl)) (by decide) (by decide)) qa qc (g := (mkF m 36 #[.val (.int p0), .val (.int p1), .val (.int k), .val (.int (1 : Int32)), .val (.ref wNEVER), .val (.ref wREFUSE)] [(.int (1 : Int32)), (.ref wNEVER)])) rfl (by rw [hml]; rfl) (Steps.refl _) (argsL := [(.int (1 : Int32))]) (rest := []) (lenOf own_pd2 rfl) rfl (by show 2 * 0 + _ ≤ _; exact Nat.le_of_eq rfl) (hb hby at_36) (fun _ _ => ⟨rfl, eT, (by decide : 0 + 0 ≤ _), (by decide : 0 + 0 ≤ _)⟩)
              dsimp only [Pt.U, Pt.locs, Pt.cells, Pt.slots] at X lq yq zq st hQ
              subst lq yq zq
              obtain ⟨rfl, Nq, eT⟩ := hQ
              replace N := Fr.app N Nq
              refine own_viaT (g' := (mkF m 39 #[.val (.int p0), .val (.int p1), .val (.int k), .val (.int (1 : Int32)), .val (.ref wNEVER), .val (.ref wREFUSE)] [(.ref wREFUSE)])) st ?_
              refine own_via (T' := T) (g' := (mkF m 41 #[.val (.int p0), .val (.int p1), .val (.int k), .val (.int (1 : Int32)), .val (.ref wNEVER), .val (.ref wREFUSE)] [(.ref wREFUSE), (.ref wREFUSE)])) (fun t_ k_ => XS.aload X.here hx rfl (hb hby at_39) rfl rfl k_) ?_
              refine own_via (T' := T) (g' := (mkF m 44 #[.val (.int p0), .val (.int p1), .val (.int k), .val (.int (1 : Int32)), .val (.ref wNEVER), .val (.ref wREFUSE)] [])) (fun t_ k_ => Jvm.RoadKit.acmp (g := (mkF m 41 #[.val (.int p0), .val (.int p1), .val (.int k), .val (.int (1 : Int32)), .val (.ref wNEVER), .val (.ref wREFUSE)] [(.ref wREFUSE), (.ref wREFUSE)])) X hx rfl rfl rfl (pc0 := 41) (pc' := 44) (same := true) rfl (hb hby at_41) rfl (decide_eq_true rfl) (by decide) (by decide) k_) ?_
              refine own_via (T' := T) (g' := (mkF m 45 #[.val (.int p0), .val (.int p1), .val (.int k), .val (.int (1 : Int32)), .val (.ref wNEVER), .val (.ref wREFUSE)] [(.int (1 : Int32))])) (fun t_ k_ => XS.iconst X.here hx rfl (hb hby at_44) k_) ?_
              refine own_via (T' := T) (g' := (mkF m 49 #[.val (.int p0), .val (.int p1), .val (.int k), .val (.int (1 : Int32)), .val (.ref wNEVER), .val (.ref wREFUSE)] [(.int (1 : Int32))])) (fun t_ k_ => XS.goto X.here hx rfl (pc0 := 45) (pc' := 49) rfl (hb hby at_45) (by decide) (by decide) k_) ?_
              refine own_retN X hx hlk (t := .boolean) Bd.returns (by simp) (hb hby at_49) (by decide) (by decide) ?_
              rw [eT]
              exact ⟨rfl, N, trivial⟩
            · by_cases hc13 : k = (5 : Int32)
              · obtain ⟨_, _, ⟨T, Lq, kq, nq⟩, -, X, ⟨Lc, hQ, lq, yq, zq⟩, st⟩ := Jvm.LawKit.callS X hx (y := (⟨"com/example/demarcate/demarcate/AttributeEntryPinLaw", "pick", "(I)Lcom/example/demarcate/demarcate/Attribute;"⟩ : MethodName)) hown (mvT hZ (hw _ (List.mem_of_getElem? (i := 1) rfl))) (mvT hZ (hw _ (List.mem_of_getElem? (i := 2) rfl))) (mvT hZ (hw _ (List.mem_of_getElem? (i := 3) rfl))) (mvT hZ (hw _ (List.mem_of_getElem? (i := 4) rfl))) (by decide) (backOf (W := 0) (own_pick l Z a0 hw [] k wREQUIRED wREQUIRES_NEW wMANDATORY wNOT_SUPPORTED wNEVER wSUPPORTS wNESTED wSUPPORTS h n0 O S_REQUIRED S_REQUIRES_NEW S_MANDATORY S_NOT_SUPPORTED S_NEVER S_SUPPORTS S_NESTED (by simp [own_pickV, hc8, hc9, hc10, hc11, hc12, hc13])) hZ (hw _ (List.mem_of_getElem? (i := 4) rfl)) (hw _ (List.mem_of_getElem? (i := 3) rfl)) (by decide) (by decide)) (g := (mkF m 21 #[.val (.int p0), .val (.int p1), .val (.int k), .val (.int (1 : Int32)), .unset, .unset] [(.int k)])) rfl (by rw [hml]; rfl) (argsL := [(.int k)]) (rest := []) (lenOf own_pd0 rfl) rfl (by show 2 * 0 + _ ≤ _; exact Nat.le_of_eq rfl) (hb hby at_21) (fun _ _ => ⟨rfl, eT, (by decide : 0 + 0 ≤ _), (by decide : 0 + 0 ≤ _)⟩)
                dsimp only [Pt.U, Pt.locs, Pt.cells, Pt.slots] at X lq yq zq st hQ
                subst lq yq zq
                obtain ⟨rfl, Nq, eT⟩ := hQ
                replace N := Fr.app N Nq
                refine own_via (g' := (mkF m 24 #[.val (.int p0), .val (.int p1), .val (.int k), .val (.int (1 : Int32)), .unset, .unset] [(.ref wSUPPORTS)])) st ?_
                refine own_via (T' := T) (g' := (mkF m 26 #[.val (.int p0), .val (.int p1), .val (.int k), .val (.int (1 : Int32)), .val (.ref wSUPPORTS), .unset] [])) (fun t_ k_ => XS.astore X.here hx rfl (hb hby at_24) rfl rfl (l' := #[.val (.int p0), .val (.int p1), .val (.int k), .val (.int (1 : Int32)), .val (.ref wSUPPORTS), .unset]) rfl k_) ?_
                refine own_via (T' := T) (g' := (mkF m 27 #[.val (.int p0), .val (.int p1), .val (.int k), .val (.int (1 : Int32)), .val (.ref wSUPPORTS), .unset] [(.int k)])) (fun t_ k_ => XS.iloadN X.here hx rfl (hb hby at_26) rfl k_) ?_
                refine own_via (T' := T) (g' := (mkF m 28 #[.val (.int p0), .val (.int p1), .val (.int k), .val (.int (1 : Int32)), .val (.ref wSUPPORTS), .unset] [(.int (1 : Int32)), (.int k)])) (fun t_ k_ => XS.iloadN X.here hx rfl (hb hby at_27) rfl k_) ?_
                obtain ⟨_, _, ⟨T, Lq, kq, nq⟩, -, X, ⟨Lc, hQ, lq, yq, zq⟩, st⟩ := Jvm.LawKit.callS X hx (y := (⟨"com/example/demarcate/demarcate/AttributeEntryPinLaw", "expect", "(IZ)Lcom/example/demarcate/demarcate/Attribute$Entry;"⟩ : MethodName)) hown (mvT hZ (hw _ (List.mem_of_getElem? (i := 8) rfl))) (mvT hZ (hw _ (List.mem_of_getElem? (i := 9) rfl))) (mvT hZ (hw _ (List.mem_of_getElem? (i := 3) rfl))) (mvT hZ (hw _ (List.mem_of_getElem? (i := 10) rfl))) (by decide) (backOf (W := 0) (own_expect l Z a0 hw [] k (1 : Int32) wJOIN wNEW_TRANSACTION wREFUSE wNO_TRANSACTION wSAVEPOINT wJOIN h n0 O S_JOIN S_NEW_TRANSACTION S_REFUSE S_NO_TRANSACTION S_SAVEPOINT (by simp [own_expV, hc8, hc9, hc10, hc11, hc12, hc13])) hZ (hw _ (List.mem_of_getElem? (i := 10) rfl)) (hw _ (List.mem_of_getElem? (i := 3) rfl)) (by decide) (by decide)) (g := (mkF m 28 #[.val (.int p0), .val (.int p1), .val (.int k), .val (.int (1 : Int32)), .val (.ref wSUPPORTS), .unset] [(.int (1 : Int32)), (.int k)])) rfl (by rw [hml]; rfl) (argsL := [(.int k), (.int (1 : Int32))]) (rest := []) (lenOf own_pd1 rfl) rfl (by show 2 * 0 + _ ≤ _; exact Nat.le_of_eq rfl) (hb hby at_28) (fun _ _ => ⟨rfl, eT, (by decide : 0 + 0 ≤ _), (by decide : 0 + 0 ≤ _)⟩)
                dsimp only [Pt.U, Pt.locs, Pt.cells, Pt.slots] at X lq yq zq st hQ
                subst lq yq zq
                obtain ⟨rfl, Nq, eT⟩ := hQ
                replace N := Fr.app N Nq
                refine own_via (g' := (mkF m 31 #[.val (.int p0), .val (.int p1), .val (.int k), .val (.int (1 : Int32)), .val (.ref wSUPPORTS), .unset] [(.ref wJOIN)])) st ?_
                refine own_via (T' := T) (g' := (mkF m 33 #[.val (.int p0), .val (.int p1), .val (.int k), .val (.int (1 : Int32)), .val (.ref wSUPPORTS), .val (.ref wJOIN)] [])) (fun t_ k_ => XS.astore X.here hx rfl (hb hby at_31) rfl rfl (l' := #[.val (.int p0), .val (.int p1), .val (.int k), .val (.int (1 : Int32)), .val (.ref wSUPPORTS), .val (.ref wJOIN)]) rfl k_) ?_
                refine own_via (T' := T) (g' := (mkF m 35 #[.val (.int p0), .val (.int p1), .val (.int k), .val (.int (1 : Int32)), .val (.ref wSUPPORTS), .val (.ref wJOIN)] [(.ref wSUPPORTS)])) (fun t_ k_ => XS.aload X.here hx rfl (hb hby at_33) rfl rfl k_) ?_
                refine own_via (T' := T) (g' := (mkF m 36 #[.val (.int p0), .val (.int p1), .val (.int k), .val (.int (1 : Int32)), .val (.ref wSUPPORTS), .val (.ref wJOIN)] [(.int (1 : Int32)), (.ref wSUPPORTS)])) (fun t_ k_ => XS.iloadN X.here hx rfl (hb hby at_35) rfl k_) ?_
                obtain ⟨cq, kq, qa, qb, qc⟩ := isOf hZ eT (E_SUPPORTS.ext O.2)
                obtain ⟨_, _, ⟨T, Lq, kq, nq⟩, -, X, ⟨Lc, hQ, lq, yq, zq⟩, st⟩ := X.virtualBack hx (y := (⟨"com/example/demarcate/demarcate/Attribute", "entry", "(Z)Lcom/example/demarcate/demarcate/Attribute$Entry;"⟩ : MethodName)) (z := (⟨"com/example/demarcate/demarcate/Attribute", "entry", "(Z)Lcom/example/demarcate/demarcate/Attribute$Entry;"⟩ : MethodName)) hown (mvT hZ (hw _ (List.mem_of_getElem? (i := 14) rfl))) (mvT hZ (hw _ (List.mem_of_getElem? (i := 15) rfl))) (notFace_of_selects (args := #[]) (mvT hZ (hw _ (List.mem_of_getElem? (i := 17) rfl)))) (mvT hZ (hw _ (List.mem_of_getElem? (i := 17) rfl))) (mvT hZ (hw _ (List.mem_of_getElem? (i := 16) rfl))) (by decide) (backOf (W := 0) (own_entry l Z a0 hw [] wSUPPORTS (1 : Int32) wJOIN wNO_TRANSACTION wJOIN h n0 O F_in_SUPPORTS F_ot_SUPPORTS ⟨fun q => by first | rfl | exact absurd q (by decide), fun q => by first | rfl | exact absurd rfl q⟩) hZ (hw _ (List.mem_of_getElem? (i := 18) rfl)) (hw _ (List.mem_of_getElem? (i := 6) rfl)) (by decide) (by decide)) qa qc (g := (mkF m 36 #[.val (.int p0), .val (.int p1), .val (.int k), .val (.int (1 : Int32)), .val (.ref wSUPPORTS), .val (.ref wJOIN)] [(.int (1 : Int32)), (.ref wSUPPORTS)])) rfl (by rw [hml]; rfl) (Steps.refl _) (argsL := [(.int (1 : Int32))]) (rest := []) (lenOf own_pd2 rfl) rfl (by show 2 * 0 + _ ≤ _; exact Nat.le_of_eq rfl) (hb hby at_36) (fun _ _ => ⟨rfl, eT, (by decide : 0 + 0 ≤ _), (by decide : 0 + 0 ≤ _)⟩)
                dsimp only [Pt.U, Pt.locs, Pt.cells, Pt.slots] at X lq yq zq st hQ
                subst lq yq zq
                obtain ⟨rfl, Nq, eT⟩ := hQ
                replace N := Fr.app N Nq
                refine own_viaT (g' := (mkF m 39 #[.val (.int p0), .val (.int p1), .val (.int k), .val (.int (1 : Int32)), .val (.ref wSUPPORTS), .val (.ref wJOIN)] [(.ref wJOIN)])) st ?_
                refine own_via (T' := T) (g' := (mkF m 41 #[.val (.int p0), .val (.int p1), .val (.int k), .val (.int (1 : Int32)), .val (.ref wSUPPORTS), .val (.ref wJOIN)] [(.ref wJOIN), (.ref wJOIN)])) (fun t_ k_ => XS.aload X.here hx rfl (hb hby at_39) rfl rfl k_) ?_
                refine own_via (T' := T) (g' := (mkF m 44 #[.val (.int p0), .val (.int p1), .val (.int k), .val (.int (1 : Int32)), .val (.ref wSUPPORTS), .val (.ref wJOIN)] [])) (fun t_ k_ => Jvm.RoadKit.acmp (g := (mkF m 41 #[.val (.int p0), .val (.int p1), .val (.int k), .val (.int (1 : Int32)), .val (.ref wSUPPORTS), .val (.ref wJOIN)] [(.ref wJOIN), (.ref wJOIN)])) X hx rfl rfl rfl (pc0 := 41) (pc' := 44) (same := true) rfl (hb hby at_41) rfl (decide_eq_true rfl) (by decide) (by decide) k_) ?_
                refine own_via (T' := T) (g' := (mkF m 45 #[.val (.int p0), .val (.int p1), .val (.int k), .val (.int (1 : Int32)), .val (.ref wSUPPORTS), .val (.ref wJOIN)] [(.int (1 : Int32))])) (fun t_ k_ => XS.iconst X.here hx rfl (hb hby at_44) k_) ?_
                refine own_via (T' := T) (g' := (mkF m 49 #[.val (.int p0), .val (.int p1), .val (.int k), .val (.int (1 : Int32)), .val (.ref wSUPPORTS), .val (.ref wJOIN)] [(.int (1 : Int32))])) (fun t_ k_ => XS.goto X.here hx rfl (pc0 := 45) (pc' := 49) rfl (hb hby at_45) (by decide) (by decide) k_) ?_
                refine own_retN X hx hlk (t := .boolean) Bd.returns (by simp) (hb hby at_49) (by decide) (by decide) ?_
                rw [eT]
                exact ⟨rfl, N, trivial⟩
              · obtain ⟨_, _, ⟨T, Lq, kq, nq⟩, -, X, ⟨Lc, hQ, lq, yq, zq⟩, st⟩ := Jvm.LawKit.callS X hx (y := (⟨"com/example/demarcate/demarcate/AttributeEntryPinLaw", "pick", "(I)Lcom/example/demarcate/demarcate/Attribute;"⟩ : MethodName)) hown (mvT hZ (hw _ (List.mem_of_getElem? (i := 1) rfl))) (mvT hZ (hw _ (List.mem_of_getElem? (i := 2) rfl))) (mvT hZ (hw _ (List.mem_of_getElem? (i := 3) rfl))) (mvT hZ (hw _ (List.mem_of_getElem? (i := 4) rfl))) (by decide) (backOf (W := 0) (own_pick l Z a0 hw [] k wREQUIRED wREQUIRES_NEW wMANDATORY wNOT_SUPPORTED wNEVER wSUPPORTS wNESTED wNESTED h n0 O S_REQUIRED S_REQUIRES_NEW S_MANDATORY S_NOT_SUPPORTED S_NEVER S_SUPPORTS S_NESTED (by simp [own_pickV, hc8, hc9, hc10, hc11, hc12, hc13])) hZ (hw _ (List.mem_of_getElem? (i := 4) rfl)) (hw _ (List.mem_of_getElem? (i := 3) rfl)) (by decide) (by decide)) (g := (mkF m 21 #[.val (.int p0), .val (.int p1), .val (.int k), .val (.int (1 : Int32)), .unset, .unset] [(.int k)])) rfl (by rw [hml]; rfl) (argsL := [(.int k)]) (rest := []) (lenOf own_pd0 rfl) rfl (by show 2 * 0 + _ ≤ _; exact Nat.le_of_eq rfl) (hb hby at_21) (fun _ _ => ⟨rfl, eT, (by decide : 0 + 0 ≤ _), (by decide : 0 + 0 ≤ _)⟩)
                dsimp only [Pt.U, Pt.locs, Pt.cells, Pt.slots] at X lq yq zq st hQ
                subst lq yq zq
                obtain ⟨rfl, Nq, eT⟩ := hQ
                replace N := Fr.app N Nq
                refine own_via (g' := (mkF m 24 #[.val (.int p0), .val (.int p1), .val (.int k), .val (.int (1 : Int32)), .unset, .unset] [(.ref wNESTED)])) st ?_
                refine own_via (T' := T) (g' := (mkF m 26 #[.val (.int p0), .val (.int p1), .val (.int k), .val (.int (1 : Int32)), .val (.ref wNESTED), .unset] [])) (fun t_ k_ => XS.astore X.here hx rfl (hb hby at_24) rfl rfl (l' := #[.val (.int p0), .val (.int p1), .val (.int k), .val (.int (1 : Int32)), .val (.ref wNESTED), .unset]) rfl k_) ?_
                refine own_via (T' := T) (g' := (mkF m 27 #[.val (.int p0), .val (.int p1), .val (.int k), .val (.int (1 : Int32)), .val (.ref wNESTED), .unset] [(.int k)])) (fun t_ k_ => XS.iloadN X.here hx rfl (hb hby at_26) rfl k_) ?_
                refine own_via (T' := T) (g' := (mkF m 28 #[.val (.int p0), .val (.int p1), .val (.int k), .val (.int (1 : Int32)), .val (.ref wNESTED), .unset] [(.int (1 : Int32)), (.int k)])) (fun t_ k_ => XS.iloadN X.here hx rfl (hb hby at_27) rfl k_) ?_
                obtain ⟨_, _, ⟨T, Lq, kq, nq⟩, -, X, ⟨Lc, hQ, lq, yq, zq⟩, st⟩ := Jvm.LawKit.callS X hx (y := (⟨"com/example/demarcate/demarcate/AttributeEntryPinLaw", "expect", "(IZ)Lcom/example/demarcate/demarcate/Attribute$Entry;"⟩ : MethodName)) hown (mvT hZ (hw _ (List.mem_of_getElem? (i := 8) rfl))) (mvT hZ (hw _ (List.mem_of_getElem? (i := 9) rfl))) (mvT hZ (hw _ (List.mem_of_getElem? (i := 3) rfl))) (mvT hZ (hw _ (List.mem_of_getElem? (i := 10) rfl))) (by decide) (backOf (W := 0) (own_expect l Z a0 hw [] k (1 : Int32) wJOIN wNEW_TRANSACTION wREFUSE wNO_TRANSACTION wSAVEPOINT wSAVEPOINT h n0 O S_JOIN S_NEW_TRANSACTION S_REFUSE S_NO_TRANSACTION S_SAVEPOINT (by simp [own_expV, hc8, hc9, hc10, hc11, hc12, hc13])) hZ (hw _ (List.mem_of_getElem? (i := 10) rfl)) (hw _ (List.mem_of_getElem? (i := 3) rfl)) (by decide) (by decide)) (g := (mkF m 28 #[.val (.int p0), .val (.int p1), .val (.int k), .val (.int (1 : Int32)), .val (.ref wNESTED), .unset] [(.int (1 : Int32)), (.int k)])) rfl (by rw [hml]; rfl) (argsL := [(.int k), (.int (1 : Int32))]) (rest := []) (lenOf own_pd1 rfl) rfl (by show 2 * 0 + _ ≤ _; exact Nat.le_of_eq rfl) (hb hby at_28) (fun _ _ => ⟨rfl, eT, (by decide : 0 + 0 ≤ _), (by decide : 0 + 0 ≤ _)⟩)
                dsimp only [Pt.U, Pt.locs, Pt.cells, Pt.slots] at X lq yq zq st hQ
                subst lq yq zq
                obtain ⟨rfl, Nq, eT⟩ := hQ
                replace N := Fr.app N Nq
                refine own_via (g' := (mkF m 31 #[.val (.int p0), .val (.int p1), .val (.int k), .val (.int (1 : Int32)), .val (.ref wNESTED), .unset] [(.ref wSAVEPOINT)])) st ?_
                refine own_via (T' := T) (g' := (mkF m 33 #[.val (.int p0), .val (.int p1), .val (.int k), .val (.int (1 : Int32)), .val (.ref wNESTED), .val (.ref wSAVEPOINT)] [])) (fun t_ k_ => XS.astore X.here hx rfl (hb hby at_31) rfl rfl (l' := #[.val (.int p0), .val (.int p1), .val (.int k), .val (.int (1 : Int32)), .val (.ref wNESTED), .val (.ref wSAVEPOINT)]) rfl k_) ?_
                refine own_via (T' := T) (g' := (mkF m 35 #[.val (.int p0), .val (.int p1), .val (.int k), .val (.int (1 : Int32)), .val (.ref wNESTED), .val (.ref wSAVEPOINT)] [(.ref wNESTED)])) (fun t_ k_ => XS.aload X.here hx rfl (hb hby at_33) rfl rfl k_) ?_
                refine own_via (T' := T) (g' := (mkF m 36 #[.val (.int p0), .val (.int p1), .val (.int k), .val (.int (1 : Int32)), .val (.ref wNESTED), .val (.ref wSAVEPOINT)] [(.int (1 : Int32)), (.ref wNESTED)])) (fun t_ k_ => XS.iloadN X.here hx rfl (hb hby at_35) rfl k_) ?_
                obtain ⟨cq, kq, qa, qb, qc⟩ := isOf hZ eT (E_NESTED.ext O.2)
                obtain ⟨_, _, ⟨T, Lq, kq, nq⟩, -, X, ⟨Lc, hQ, lq, yq, zq⟩, st⟩ := X.virtualBack hx (y := (⟨"com/example/demarcate/demarcate/Attribute", "entry", "(Z)Lcom/example/demarcate/demarcate/Attribute$Entry;"⟩ : MethodName)) (z := (⟨"com/example/demarcate/demarcate/Attribute", "entry", "(Z)Lcom/example/demarcate/demarcate/Attribute$Entry;"⟩ : MethodName)) hown (mvT hZ (hw _ (List.mem_of_getElem? (i := 14) rfl))) (mvT hZ (hw _ (List.mem_of_getElem? (i := 15) rfl))) (notFace_of_selects (args := #[]) (mvT hZ (hw _ (List.mem_of_getElem? (i := 17) rfl)))) (mvT hZ (hw _ (List.mem_of_getElem? (i := 17) rfl))) (mvT hZ (hw _ (List.mem_of_getElem? (i := 16) rfl))) (by decide) (backOf (W := 0) (own_entry l Z a0 hw [] wNESTED (1 : Int32) wSAVEPOINT wNEW_TRANSACTION wSAVEPOINT h n0 O F_in_NESTED F_ot_NESTED ⟨fun q => by first | rfl | exact absurd q (by decide), fun q => by first | rfl | exact absurd rfl q⟩) hZ (hw _ (List.mem_of_getElem? (i := 18) rfl)) (hw _ (List.mem_of_getElem? (i := 6) rfl)) (by decide) (by decide)) qa qc (g := (mkF m 36 #[.val (.int p0), .val (.int p1), .val (.int k), .val (.int (1 : Int32)), .val (.ref wNESTED), .val (.ref wSAVEPOINT)] [(.int (1 : Int32)), (.ref wNESTED)])) rfl (by rw [hml]; rfl) (Steps.refl _) (argsL := [(.int (1 : Int32))]) (rest := []) (lenOf own_pd2 rfl) rfl (by show 2 * 0 + _ ≤ _; exact Nat.le_of_eq rfl) (hb hby at_36) (fun _ _ => ⟨rfl, eT, (by decide : 0 + 0 ≤ _), (by decide : 0 + 0 ≤ _)⟩)
                dsimp only [Pt.U, Pt.locs, Pt.cells, Pt.slots] at X lq yq zq st hQ
                subst lq yq zq
                obtain ⟨rfl, Nq, eT⟩ := hQ
                replace N := Fr.app N Nq
                refine own_viaT (g' := (mkF m 39 #[.val (.int p0), .val (.int p1), .val (.int k), .val (.int (1 : Int32)), .val (.ref wNESTED), .val (.ref wSAVEPOINT)] [(.ref wSAVEPOINT)])) st ?_
                refine own_via (T' := T) (g' := (mkF m 41 #[.val (.int p0), .val (.int p1), .val (.int k), .val (.int (1 : Int32)), .val (.ref wNESTED), .val (.ref wSAVEPOINT)] [(.ref wSAVEPOINT), (.ref wSAVEPOINT)])) (fun t_ k_ => XS.aload X.here hx rfl (hb hby at_39) rfl rfl k_) ?_
                refine own_via (T' := T) (g' := (mkF m 44 #[.val (.int p0), .val (.int p1), .val (.int k), .val (.int (1 : Int32)), .val (.ref wNESTED), .val (.ref wSAVEPOINT)] [])) (fun t_ k_ => Jvm.RoadKit.acmp (g := (mkF m 41 #[.val (.int p0), .val (.int p1), .val (.int k), .val (.int (1 : Int32)), .val (.ref wNESTED), .val (.ref wSAVEPOINT)] [(.ref wSAVEPOINT), (.ref wSAVEPOINT)])) X hx rfl rfl rfl (pc0 := 41) (pc' := 44) (same := true) rfl (hb hby at_41) rfl (decide_eq_true rfl) (by decide) (by decide) k_) ?_
                refine own_via (T' := T) (g' := (mkF m 45 #[.val (.int p0), .val (.int p1), .val (.int k), .val (.int (1 : Int32)), .val (.ref wNESTED), .val (.ref wSAVEPOINT)] [(.int (1 : Int32))])) (fun t_ k_ => XS.iconst X.here hx rfl (hb hby at_44) k_) ?_
                refine own_via (T' := T) (g' := (mkF m 49 #[.val (.int p0), .val (.int p1), .val (.int k), .val (.int (1 : Int32)), .val (.ref wNESTED), .val (.ref wSAVEPOINT)] [(.int (1 : Int32))])) (fun t_ k_ => XS.goto X.here hx rfl (pc0 := 45) (pc' := 49) rfl (hb hby at_45) (by decide) (by decide) k_) ?_
                refine own_retN X hx hlk (t := .boolean) Bd.returns (by simp) (hb hby at_49) (by decide) (by decide) ?_
                rw [eT]
                exact ⟨rfl, N, trivial⟩
set_option maxRecDepth 65536 in
set_option maxHeartbeats 40000000 in
theorem comes_1 {Post : Tables → Env → Array Value → State → Outcome → State → Prop} (hpost : ∀ tb e args s v u, (limb_1_1.after args s (.returned v) u = true ∧ limb_1_2.after args s (.returned v) u = true ∧ True) → FrameEnd s (.returned v) u (Jvm.fieldLocs frame_1_writes args s ++ Jvm.arrayLocs frame_1_arrays args s ++ Jvm.staticLocs frame_1_statics s) 0 0 → Post tb e args s (.returned v) u) :
    ArmFor flags0 classFile x code maxLocals ret World_1 tables_1 room_1 Calls_1 rest_1 Pre_1 Post := by
  intro l hfl _ _ p e ha hc hk s m args below hf hA hF happ hP
  obtain ⟨hcalls, hrest, hpre⟩ := hP
  obtain ⟨-, -, -, hnamed, -, -, -, hat⟩ := (Spec.applies_iff hf).mp happ
  obtain ⟨hg, hn⟩ := and_e (Cond.before_iff.mp (show (Jvm.Cond.and given_1 narrow_1).before args s = true from hpre))
  obtain ⟨hcount, hg1⟩ := and_e hg
  obtain ⟨hv0, hg2⟩ := and_e hg1
  obtain ⟨w0, w1, rfl⟩ : ∃ w0 w1 : Value, args = #[w0, w1] := by
    have hs : args.size = 2 := by simpa [Cond.value, given_1] using hcount
    obtain ⟨L⟩ := args
    match L, hs with
    | [w0, w1], _ => exact ⟨w0, w1, rfl⟩
  have hw := fun d (hd : d ∈ tables_1) => atoms_spec (ws := Jvm.Cond.code x code maxLocals ret :: tables_1) hat d (List.mem_cons_of_mem _ hd)
  have hfit : Fit s := fun {y c} hc i hi => by
    obtain ⟨ha, rfl⟩ := Array.getElem?_eq_some_iff.mp hc
    have q := List.all_eq_true.mp ((Array.all_eq_true_iff_forall_mem.mp hF) _ (Array.getElem_mem ha)) i (List.mem_range.mpr hi)
    simpa [Array.getElem?_eq_getElem hi] using q
  obtain ⟨i0, ei0⟩ := is_v hv0
  obtain rfl : w0 = (.int i0) := Option.some.inj ei0
  obtain ⟨i1, ei1⟩ := is_v hg2
  obtain rfl : w1 = (.int i1) := Option.some.inj ei1
  obtain ⟨nn1, nn2⟩ := and_e hn
  obtain ⟨nn3, nn4⟩ := and_e nn2
  obtain ⟨nn5, nn6⟩ := and_e nn4
  obtain ⟨nn7, nn8⟩ := and_e nn6
  obtain ⟨nn9, nn10⟩ := and_e nn8
  obtain ⟨nn11, nn12⟩ := and_e nn10
  obtain ⟨nn13, nn14⟩ := and_e nn12
  obtain ⟨nn15, nn16⟩ := and_e nn14
  obtain ⟨nn17, nn18⟩ := and_e nn16
  obtain ⟨nn19, nn20⟩ := and_e nn18
  obtain ⟨nn21, nn22⟩ := and_e nn20
  obtain ⟨nn23, nn24⟩ := and_e nn22
  obtain ⟨nn25, nn26⟩ := and_e nn24
  obtain ⟨nn27, nn28⟩ := and_e nn26
  obtain ⟨nn29, nn30⟩ := and_e nn28
  obtain ⟨nn31, nn32⟩ := and_e nn30
  obtain ⟨nn33, nn34⟩ := and_e nn32
  obtain ⟨nn35, nn36⟩ := and_e nn34
  obtain ⟨nn37, nn38⟩ := and_e nn36
  obtain ⟨nn39, nn40⟩ := and_e nn38
  obtain ⟨nn41, nn42⟩ := and_e nn40
  obtain ⟨nn43, nn44⟩ := and_e nn42
  obtain ⟨nn45, nn46⟩ := and_e nn44
  obtain ⟨nn47, nn48⟩ := and_e nn46
  obtain ⟨nn49, nn50⟩ := and_e nn48
  obtain ⟨wREQUIRED, evREQUIRED⟩ := exa_v nn1
  have E_REQUIRED := Exa.start evREQUIRED nn1
  have S_REQUIRED := Sta.start evREQUIRED (Or.inr ⟨(hw _ (List.mem_of_getElem? (i := 6) rfl)), (hw _ (List.mem_of_getElem? (i := 7) rfl))⟩)
  obtain ⟨wJOIN, evJOIN⟩ := exa_v nn3
  have E_JOIN := Exa.start evJOIN nn3
  have S_JOIN := Sta.start evJOIN (Or.inr ⟨(hw _ (List.mem_of_getElem? (i := 12) rfl)), (hw _ (List.mem_of_getElem? (i := 13) rfl))⟩)
  obtain ⟨wNOT_SUPPORTED, evNOT_SUPPORTED⟩ := exa_v nn7
  have E_NOT_SUPPORTED := Exa.start evNOT_SUPPORTED nn7
  have S_NOT_SUPPORTED := Sta.start evNOT_SUPPORTED (Or.inr ⟨(hw _ (List.mem_of_getElem? (i := 6) rfl)), (hw _ (List.mem_of_getElem? (i := 22) rfl))⟩)
  obtain ⟨wNO_TRANSACTION, evNO_TRANSACTION⟩ := exa_v nn9
  have E_NO_TRANSACTION := Exa.start evNO_TRANSACTION nn9
  have S_NO_TRANSACTION := Sta.start evNO_TRANSACTION (Or.inr ⟨(hw _ (List.mem_of_getElem? (i := 12) rfl)), (hw _ (List.mem_of_getElem? (i := 24) rfl))⟩)
  obtain ⟨wREQUIRES_NEW, evREQUIRES_NEW⟩ := exa_v nn13
  have E_REQUIRES_NEW := Exa.start evREQUIRES_NEW nn13
  have S_REQUIRES_NEW := Sta.start evREQUIRES_NEW (Or.inr ⟨(hw _ (List.mem_of_getElem? (i := 6) rfl)), (hw _ (List.mem_of_getElem? (i := 26) rfl))⟩)
  obtain ⟨wNEW_TRANSACTION, evNEW_TRANSACTION⟩ := exa_v nn15
  have E_NEW_TRANSACTION := Exa.start evNEW_TRANSACTION nn15
  have S_NEW_TRANSACTION := Sta.start evNEW_TRANSACTION (Or.inr ⟨(hw _ (List.mem_of_getElem? (i := 12) rfl)), (hw _ (List.mem_of_getElem? (i := 28) rfl))⟩)
  obtain ⟨wNEVER, evNEVER⟩ := exa_v nn19
  have E_NEVER := Exa.start evNEVER nn19
  have S_NEVER := Sta.start evNEVER (Or.inr ⟨(hw _ (List.mem_of_getElem? (i := 6) rfl)), (hw _ (List.mem_of_getElem? (i := 32) rfl))⟩)
  obtain ⟨wREFUSE, evREFUSE⟩ := exa_v nn23
  have E_REFUSE := Exa.start evREFUSE nn23
  have S_REFUSE := Sta.start evREFUSE (Or.inr ⟨(hw _ (List.mem_of_getElem? (i := 12) rfl)), (hw _ (List.mem_of_getElem? (i := 34) rfl))⟩)
  obtain ⟨wNESTED, evNESTED⟩ := exa_v nn27
  have E_NESTED := Exa.start evNESTED nn27
  have S_NESTED := Sta.start evNESTED (Or.inr ⟨(hw _ (List.mem_of_getElem? (i := 6) rfl)), (hw _ (List.mem_of_getElem? (i := 36) rfl))⟩)
  obtain ⟨wSUPPORTS, evSUPPORTS⟩ := exa_v nn33
  have E_SUPPORTS := Exa.start evSUPPORTS nn33
  have S_SUPPORTS := Sta.start evSUPPORTS (Or.inr ⟨(hw _ (List.mem_of_getElem? (i := 6) rfl)), (hw _ (List.mem_of_getElem? (i := 38) rfl))⟩)
  obtain ⟨wMANDATORY, evMANDATORY⟩ := exa_v nn41
  have E_MANDATORY := Exa.start evMANDATORY nn41
  have S_MANDATORY := Sta.start evMANDATORY (Or.inr ⟨(hw _ (List.mem_of_getElem? (i := 6) rfl)), (hw _ (List.mem_of_getElem? (i := 40) rfl))⟩)
  obtain ⟨wSAVEPOINT, evSAVEPOINT⟩ := exa_v nn47
  have E_SAVEPOINT := Exa.start evSAVEPOINT nn47
  have S_SAVEPOINT := Sta.start evSAVEPOINT (Or.inr ⟨(hw _ (List.mem_of_getElem? (i := 12) rfl)), (hw _ (List.mem_of_getElem? (i := 42) rfl))⟩)
  have F_in_REQUIRED := Fld.start ((fld_at evREQUIRED).symm.trans (own_eqR nn5 evJOIN))
  have F_in_NOT_SUPPORTED := Fld.start ((fld_at evNOT_SUPPORTED).symm.trans (own_eqR nn11 evNO_TRANSACTION))
  have F_ot_REQUIRES_NEW := Fld.start ((fld_at evREQUIRES_NEW).symm.trans (own_eqR nn17 evNEW_TRANSACTION))
  have F_ot_NEVER := Fld.start ((fld_at evNEVER).symm.trans (own_eqR nn21 evNO_TRANSACTION))
  have F_in_NEVER := Fld.start ((fld_at evNEVER).symm.trans (own_eqR nn25 evREFUSE))
  have F_ot_NESTED := Fld.start ((fld_at evNESTED).symm.trans (own_eqR nn29 evNEW_TRANSACTION))
  have F_in_REQUIRES_NEW := Fld.start ((fld_at evREQUIRES_NEW).symm.trans (own_eqR nn31 evNEW_TRANSACTION))
  have F_in_SUPPORTS := Fld.start ((fld_at evSUPPORTS).symm.trans (own_eqR nn35 evJOIN))
  have F_ot_REQUIRED := Fld.start ((fld_at evREQUIRED).symm.trans (own_eqR nn37 evNEW_TRANSACTION))
  have F_ot_SUPPORTS := Fld.start ((fld_at evSUPPORTS).symm.trans (own_eqR nn39 evNO_TRANSACTION))
  have F_ot_MANDATORY := Fld.start ((fld_at evMANDATORY).symm.trans (own_eqR nn43 evREFUSE))
  have F_ot_NOT_SUPPORTED := Fld.start ((fld_at evNOT_SUPPORTED).symm.trans (own_eqR nn45 evNO_TRANSACTION))
  have F_in_NESTED := Fld.start ((fld_at evNESTED).symm.trans (own_eqR nn49 evSAVEPOINT))
  have F_in_MANDATORY := Fld.start ((fld_at evMANDATORY).symm.trans (own_eqR nn50 evJOIN))
  obtain ⟨n, o, h1, h2, h3, _, L, rfl, ⟨rfl, N, -⟩, hq⟩ := own_law l s _ hw tables_1 i0 i1 wREQUIRED wREQUIRES_NEW wMANDATORY wNOT_SUPPORTED wNEVER wSUPPORTS wNESTED wJOIN wNEW_TRANSACTION wREFUSE wNO_TRANSACTION wSAVEPOINT s.heap s.heap.size (Old.start s) S_REQUIRED S_REQUIRES_NEW S_MANDATORY S_NOT_SUPPORTED S_NEVER S_SUPPORTS S_NESTED S_JOIN S_NEW_TRANSACTION S_REFUSE S_NO_TRANSACTION S_SAVEPOINT E_REQUIRED E_REQUIRES_NEW E_MANDATORY E_NOT_SUPPORTED E_NEVER E_SUPPORTS E_NESTED F_in_REQUIRED F_in_REQUIRES_NEW F_in_MANDATORY F_in_NOT_SUPPORTED F_in_NEVER F_in_SUPPORTS F_in_NESTED F_ot_REQUIRED F_ot_REQUIRES_NEW F_ot_MANDATORY F_ot_NOT_SUPPORTED F_ot_NEVER F_ot_SUPPORTS F_ot_NESTED p e ha hc hk s m _ below hf ((Spec.applies_iff_loose hf).mp happ).1 ⟨rfl, State.Warmed39.refl s, rfl⟩ trivial
  refine ⟨n, _, h1, h2, h3, hpost _ _ _ _ _ _ ⟨Cond.after_iff.mpr rfl, Cond.after_iff.mpr (eq_i res_at (Term.int_eval (1)) rfl), trivial⟩ ⟨hq.1, hq.2.1, (hq.2.2.sift fun y hy => Or.inr (N y hy)).mono (by decide) (by decide)⟩⟩
theorem main_1_1 : Claimed_1_1 := comes_1 fun _ _ _ _ _ _ h hF => ⟨h.1, hF⟩
theorem main_1_2 : Claimed_1_2 := comes_1 fun _ _ _ _ _ _ h hF => ⟨h.2.1, hF⟩
end Jvm.Pilot.@@N@@
namespace Jvm.Pilot.@@N@@
open Jvm Jvm.ClassFile Sem Op Lib Jvm.Free Jvm.Stand Jvm.Pilot.@@N@@.Jvm.D
/-! MADE BY PROGRAM (witnessworld.py) out of the Statement's table words and the real class files: 13 classes; the members and pool entries that the words name. The judged class is class 1, her method 1. -/
namespace start1
open Jvm.ClassFile
def u (s : String) : CpInfo := .utf8 (stringToUtf16 s)
/-- a pool by its gaps: so many unusable entries, then the entry; so many at the end -/
def gap : Nat → List CpInfo → List CpInfo
  | 0, r => r
  | n + 1, r => .unusable :: gap n r
def poolList (es : List (Nat × CpInfo)) (last : Nat) : List CpInfo := es.foldr (fun e r => gap e.1 (e.2 :: r)) (gap last [])
def pool (es : List (Nat × CpInfo)) (last : Nat) : Array CpInfo := ⟨poolList es last⟩
def fileOf (pool : Array CpInfo) (this : Nat) (attrs : Array Attribute := #[]) (ms : Array MethodInfo := #[]) (fl : Nat := 33) (sup : Nat := 0) (ifs : Array Nat := #[]) (fds : Array FieldInfo := #[]) : ClassFile where
  minorVersion := 0
  majorVersion := 65
  constantPool := pool
  accessFlags := fl
  thisClass := this
  superClass := sup
  interfaces := ifs
  fields := fds
  methods := ms
  attributes := attrs
def plain (name : String) (sup : Option ClassId) : Class where
  name := name
  kind := .ordinary
  loader := none
  accessFlags := 33
  super := sup
  interfaces := #[]
  cf := none
  fields := #[]
  methods := #[]
  instanceTypes := #[]
  staticTypes := #[]
  resolved := #[]
  callSites := []
  init := .initialized
  statics := none
  mirror := none

def pool0 : Array CpInfo := pool [(5, u "<init>"), (0, u "()V"), (1, .class_ 10), (1, u "java/lang/Object")] 113

def k0m0 : Method := { name := "<init>", desc := "()V", sig := { parameters := [], returnType := none }, accessFlags := 1, code := none }
/-- java/lang/Object -/
def k0 : Class := { plain "java/lang/Object" none with
  accessFlags := 33
  interfaces := #[]
  cf := some (fileOf pool0 8 #[] #[{ accessFlags := 1, nameIndex := 5, descriptorIndex := 6, attributes := #[] }] 33 0 #[] #[])
  fields := #[]
  methods := #[k0m0]
  instanceTypes := #[]
  staticTypes := #[]
  resolved := Array.replicate 124 none
  statics := none }

def pool1 : Array CpInfo := pool [(2, .class_ 4), (1, u "java/lang/Object"), (0, u "<init>"), (0, u "()V"), (0, .integer 2147483647), (0, .methodref 9 10), (0, .class_ 11), (0, .nameAndType 12 13), (0, u "com/example/demarcate/demarcate/AttributeEntryPinLaw"), (0, u "pick"), (0, u "(I)Lcom/example/demarcate/demarcate/Attribute;"), (0, .methodref 9 15), (0, .nameAndType 16 17), (0, u "expect"), (0, u "(IZ)Lcom/example/demarcate/demarcate/Attribute$Entry;"), (0, .methodref 19 20), (0, .class_ 21), (0, .nameAndType 22 23), (0, u "com/example/demarcate/demarcate/Attribute"), (0, u "entry"), (0, u "(Z)Lcom/example/demarcate/demarcate/Attribute$Entry;"), (0, .fieldref 19 25), (0, .nameAndType 26 27), (0, u "REQUIRED"), (0, u "Lcom/example/demarcate/demarcate/Attribute;"), (0, .fieldref 19 29), (0, .nameAndType 30 27), (0, u "REQUIRES_NEW"), (0, .fieldref 19 32), (0, .nameAndType 33 27), (0, u "MANDATORY"), (0, .fieldref 19 35), (0, .nameAndType 36 27), (0, u "NOT_SUPPORTED"), (0, .fieldref 19 38), (0, .nameAndType 39 27), (0, u "NEVER"), (0, .fieldref 19 41), (0, .nameAndType 42 27), (0, u "SUPPORTS"), (0, .fieldref 19 44), (0, .nameAndType 45 27), (0, u "NESTED"), (0, .fieldref 47 48), (0, .class_ 49), (0, .nameAndType 50 51), (0, u "com/example/demarcate/demarcate/Attribute$Entry"), (0, u "JOIN"), (0, u "Lcom/example/demarcate/demarcate/Attribute$Entry;"), (0, .fieldref 47 53), (0, .nameAndType 54 51), (0, u "NEW_TRANSACTION"), (0, .fieldref 47 56), (0, .nameAndType 57 51), (0, u "REFUSE"), (0, .fieldref 47 59), (0, .nameAndType 60 51), (0, u "NO_TRANSACTION"), (0, .fieldref 47 62), (0, .nameAndType 63 51), (0, u "SAVEPOINT"), (2, u "law"), (0, u "(II)Z")] 5

def k1m0 : Method := { name := "<init>", desc := "()V", sig := { parameters := [], returnType := none }, accessFlags := 1, code := none }
def k1c1 : Code := { maxStack := 2, maxLocals := 6, code := code, exceptionTable := #[], attributes := #[] }
def k1m1 : Method := { name := "law", desc := "(II)Z", sig := { parameters := [.int, .int], returnType := some .boolean }, accessFlags := 9, code := some k1c1 }
def k1c2 : Code := { maxStack := 2, maxLocals := 1, code := method_3_code, exceptionTable := #[], attributes := #[] }
def k1m2 : Method := { name := "pick", desc := "(I)Lcom/example/demarcate/demarcate/Attribute;", sig := { parameters := [.int], returnType := some (.object "com/example/demarcate/demarcate/Attribute") }, accessFlags := 10, code := some k1c2 }
def k1c3 : Code := { maxStack := 2, maxLocals := 2, code := method_4_code, exceptionTable := #[], attributes := #[] }
def k1m3 : Method := { name := "expect", desc := "(IZ)Lcom/example/demarcate/demarcate/Attribute$Entry;", sig := { parameters := [.int, .boolean], returnType := some (.object "com/example/demarcate/demarcate/Attribute$Entry") }, accessFlags := 10, code := some k1c3 }
/-- com/example/demarcate/demarcate/AttributeEntryPinLaw -/
def k1 : Class := { plain "com/example/demarcate/demarcate/AttributeEntryPinLaw" (some 0) with
  accessFlags := 49
  interfaces := #[]
  cf := some (fileOf pool1 9 #[] #[{ accessFlags := 1, nameIndex := 5, descriptorIndex := 6, attributes := #[] }, { accessFlags := 9, nameIndex := 66, descriptorIndex := 67, attributes := #[] }, { accessFlags := 10, nameIndex := 12, descriptorIndex := 13, attributes := #[] }, { accessFlags := 10, nameIndex := 16, descriptorIndex := 17, attributes := #[] }] 49 2 #[] #[])
  fields := #[]
  methods := #[k1m0, k1m1, k1m2, k1m3]
  instanceTypes := #[]
  staticTypes := #[]
  resolved := Array.replicate 73 none
  statics := none }

def pool2 : Array CpInfo := pool [(1, .class_ 2), (0, u "java/lang/constant/Constable"), (0, .class_ 4), (0, u "java/lang/Object")] 6

/-- java/lang/constant/Constable -/
def k2 : Class := { plain "java/lang/constant/Constable" (some 0) with
  accessFlags := 1537
  interfaces := #[]
  cf := some (fileOf pool2 1 #[] #[] 1537 3 #[] #[])
  fields := #[]
  methods := #[]
  instanceTypes := #[]
  staticTypes := #[]
  resolved := Array.replicate 11 none
  statics := none }

def pool3 : Array CpInfo := pool [(1, .class_ 2), (0, u "java/lang/Comparable"), (0, .class_ 4), (0, u "java/lang/Object")] 7

/-- java/lang/Comparable -/
def k3 : Class := { plain "java/lang/Comparable" (some 0) with
  accessFlags := 1537
  interfaces := #[]
  cf := some (fileOf pool3 1 #[] #[] 1537 3 #[] #[])
  fields := #[]
  methods := #[]
  instanceTypes := #[]
  staticTypes := #[]
  resolved := Array.replicate 12 none
  statics := none }

def pool4 : Array CpInfo := pool [(1, .class_ 2), (0, u "java/io/Serializable"), (0, .class_ 4), (0, u "java/lang/Object")] 2

/-- java/io/Serializable -/
def k4 : Class := { plain "java/io/Serializable" (some 0) with
  accessFlags := 1537
  interfaces := #[]
  cf := some (fileOf pool4 1 #[] #[] 1537 3 #[] #[])
  fields := #[]
  methods := #[]
  instanceTypes := #[]
  staticTypes := #[]
  resolved := Array.replicate 7 none
  statics := none }

def pool5 : Array CpInfo := pool [(2, .class_ 4), (1, u "java/lang/Enum"), (0, u "name"), (0, u "Ljava/lang/String;"), (2, u "ordinal"), (0, u "I"), (1, .class_ 14), (1, u "java/lang/Object"), (4, u "hash"), (86, .class_ 108), (1, u "java/lang/Enum$EnumDesc"), (2, .class_ 112), (0, u "java/lang/constant/Constable"), (0, .class_ 114), (0, u "java/lang/Comparable"), (0, .class_ 116), (0, u "java/io/Serializable")] 87

/-- java/lang/Enum -/
def k5 : Class := { plain "java/lang/Enum" (some 0) with
  accessFlags := 1057
  interfaces := #[2, 3, 4]
  cf := some (fileOf pool5 2 #[.nestMembers #[106]] #[] 1057 12 #[111, 113, 115] #[{ accessFlags := 18, nameIndex := 5, descriptorIndex := 6, attributes := #[] }, { accessFlags := 18, nameIndex := 9, descriptorIndex := 10, attributes := #[] }, { accessFlags := 2, nameIndex := 19, descriptorIndex := 10, attributes := #[] }])
  fields := #[{ name := "name", type := (.object "java/lang/String"), accessFlags := 18, slot := 0, constantValue := 0 }, { name := "ordinal", type := .int, accessFlags := 18, slot := 1, constantValue := 0 }, { name := "hash", type := .int, accessFlags := 2, slot := 2, constantValue := 0 }]
  methods := #[]
  instanceTypes := #[(.object "java/lang/String"), .int, .int]
  staticTypes := #[]
  resolved := Array.replicate 204 none
  statics := none }

def pool6 : Array CpInfo := pool [(1, .class_ 2), (0, u "com/example/demarcate/demarcate/Attribute"), (2, u "REQUIRED"), (0, u "Lcom/example/demarcate/demarcate/Attribute;"), (2, u "REQUIRES_NEW"), (2, u "MANDATORY"), (2, u "NOT_SUPPORTED"), (2, u "NEVER"), (2, u "SUPPORTS"), (2, u "NESTED"), (2, u "$VALUES"), (0, u "[Lcom/example/demarcate/demarcate/Attribute;"), (6, .class_ 37), (1, u "java/lang/Enum"), (6, .fieldref 1 45), (0, .nameAndType 46 47), (0, u "inTransaction"), (0, u "Lcom/example/demarcate/demarcate/Attribute$Entry;"), (0, .fieldref 1 49), (0, .nameAndType 50 47), (0, u "otherwise"), (2, .class_ 55), (1, u "com/example/demarcate/demarcate/Attribute$Entry"), (33, u "entry"), (0, u "(Z)Lcom/example/demarcate/demarcate/Attribute$Entry;")] 9

def k6c0 : Code := { maxStack := 1, maxLocals := 2, code := prog_1_method_4_code, exceptionTable := #[], attributes := #[] }
def k6m0 : Method := { name := "entry", desc := "(Z)Lcom/example/demarcate/demarcate/Attribute$Entry;", sig := { parameters := [.boolean], returnType := some (.object "com/example/demarcate/demarcate/Attribute$Entry") }, accessFlags := 0, code := some k6c0 }
/-- com/example/demarcate/demarcate/Attribute -/
def k6 : Class := { plain "com/example/demarcate/demarcate/Attribute" (some 5) with
  accessFlags := 16433
  interfaces := #[]
  cf := some (fileOf pool6 1 #[.nestMembers #[53]] #[{ accessFlags := 0, nameIndex := 89, descriptorIndex := 90, attributes := #[] }] 16433 35 #[] #[{ accessFlags := 16409, nameIndex := 5, descriptorIndex := 6, attributes := #[] }, { accessFlags := 16409, nameIndex := 9, descriptorIndex := 6, attributes := #[] }, { accessFlags := 16409, nameIndex := 12, descriptorIndex := 6, attributes := #[] }, { accessFlags := 16409, nameIndex := 15, descriptorIndex := 6, attributes := #[] }, { accessFlags := 16409, nameIndex := 18, descriptorIndex := 6, attributes := #[] }, { accessFlags := 16409, nameIndex := 21, descriptorIndex := 6, attributes := #[] }, { accessFlags := 16409, nameIndex := 24, descriptorIndex := 6, attributes := #[] }, { accessFlags := 18, nameIndex := 46, descriptorIndex := 47, attributes := #[] }, { accessFlags := 18, nameIndex := 50, descriptorIndex := 47, attributes := #[] }, { accessFlags := 4122, nameIndex := 27, descriptorIndex := 28, attributes := #[] }])
  fields := #[{ name := "REQUIRED", type := (.object "com/example/demarcate/demarcate/Attribute"), accessFlags := 16409, slot := 0, constantValue := 0 }, { name := "REQUIRES_NEW", type := (.object "com/example/demarcate/demarcate/Attribute"), accessFlags := 16409, slot := 1, constantValue := 0 }, { name := "MANDATORY", type := (.object "com/example/demarcate/demarcate/Attribute"), accessFlags := 16409, slot := 2, constantValue := 0 }, { name := "NOT_SUPPORTED", type := (.object "com/example/demarcate/demarcate/Attribute"), accessFlags := 16409, slot := 3, constantValue := 0 }, { name := "NEVER", type := (.object "com/example/demarcate/demarcate/Attribute"), accessFlags := 16409, slot := 4, constantValue := 0 }, { name := "SUPPORTS", type := (.object "com/example/demarcate/demarcate/Attribute"), accessFlags := 16409, slot := 5, constantValue := 0 }, { name := "NESTED", type := (.object "com/example/demarcate/demarcate/Attribute"), accessFlags := 16409, slot := 6, constantValue := 0 }, { name := "inTransaction", type := (.object "com/example/demarcate/demarcate/Attribute$Entry"), accessFlags := 18, slot := 3, constantValue := 0 }, { name := "otherwise", type := (.object "com/example/demarcate/demarcate/Attribute$Entry"), accessFlags := 18, slot := 4, constantValue := 0 }, { name := "$VALUES", type := (.array (.object "com/example/demarcate/demarcate/Attribute")), accessFlags := 4122, slot := 7, constantValue := 0 }]
  methods := #[k6m0]
  instanceTypes := #[(.object "java/lang/String"), .int, .int, (.object "com/example/demarcate/demarcate/Attribute$Entry"), (.object "com/example/demarcate/demarcate/Attribute$Entry")]
  staticTypes := #[(.object "com/example/demarcate/demarcate/Attribute"), (.object "com/example/demarcate/demarcate/Attribute"), (.object "com/example/demarcate/demarcate/Attribute"), (.object "com/example/demarcate/demarcate/Attribute"), (.object "com/example/demarcate/demarcate/Attribute"), (.object "com/example/demarcate/demarcate/Attribute"), (.object "com/example/demarcate/demarcate/Attribute"), (.array (.object "com/example/demarcate/demarcate/Attribute"))]
  resolved := Array.replicate 100 none
  statics := some 0 }

def pool7 : Array CpInfo := pool [(1, .class_ 2), (0, u "com/example/demarcate/demarcate/Attribute$Entry"), (2, u "JOIN"), (0, u "Lcom/example/demarcate/demarcate/Attribute$Entry;"), (2, u "NEW_TRANSACTION"), (2, u "SAVEPOINT"), (2, u "NO_TRANSACTION"), (2, u "REFUSE"), (2, u "$VALUES"), (0, u "[Lcom/example/demarcate/demarcate/Attribute$Entry;"), (6, .class_ 31), (1, u "java/lang/Enum"), (28, .class_ 61), (0, u "com/example/demarcate/demarcate/Attribute")] 2

/-- com/example/demarcate/demarcate/Attribute$Entry -/
def k7 : Class := { plain "com/example/demarcate/demarcate/Attribute$Entry" (some 5) with
  accessFlags := 16432
  interfaces := #[]
  cf := some (fileOf pool7 1 #[.nestHost 60] #[] 16432 29 #[] #[{ accessFlags := 16409, nameIndex := 5, descriptorIndex := 6, attributes := #[] }, { accessFlags := 16409, nameIndex := 9, descriptorIndex := 6, attributes := #[] }, { accessFlags := 16409, nameIndex := 12, descriptorIndex := 6, attributes := #[] }, { accessFlags := 16409, nameIndex := 15, descriptorIndex := 6, attributes := #[] }, { accessFlags := 16409, nameIndex := 18, descriptorIndex := 6, attributes := #[] }, { accessFlags := 4122, nameIndex := 21, descriptorIndex := 22, attributes := #[] }])
  fields := #[{ name := "JOIN", type := (.object "com/example/demarcate/demarcate/Attribute$Entry"), accessFlags := 16409, slot := 0, constantValue := 0 }, { name := "NEW_TRANSACTION", type := (.object "com/example/demarcate/demarcate/Attribute$Entry"), accessFlags := 16409, slot := 1, constantValue := 0 }, { name := "SAVEPOINT", type := (.object "com/example/demarcate/demarcate/Attribute$Entry"), accessFlags := 16409, slot := 2, constantValue := 0 }, { name := "NO_TRANSACTION", type := (.object "com/example/demarcate/demarcate/Attribute$Entry"), accessFlags := 16409, slot := 3, constantValue := 0 }, { name := "REFUSE", type := (.object "com/example/demarcate/demarcate/Attribute$Entry"), accessFlags := 16409, slot := 4, constantValue := 0 }, { name := "$VALUES", type := (.array (.object "com/example/demarcate/demarcate/Attribute$Entry")), accessFlags := 4122, slot := 5, constantValue := 0 }]
  methods := #[]
  instanceTypes := #[(.object "java/lang/String"), .int, .int]
  staticTypes := #[(.object "com/example/demarcate/demarcate/Attribute$Entry"), (.object "com/example/demarcate/demarcate/Attribute$Entry"), (.object "com/example/demarcate/demarcate/Attribute$Entry"), (.object "com/example/demarcate/demarcate/Attribute$Entry"), (.object "com/example/demarcate/demarcate/Attribute$Entry"), (.array (.object "com/example/demarcate/demarcate/Attribute$Entry"))]
  resolved := Array.replicate 64 none
  statics := some 1 }

def pool8 : Array CpInfo := pool [(1, u "java/lang/Cloneable"), (0, .class_ 1), (0, u "java/lang/Object"), (0, .class_ 3)] 3

/-- java/lang/Cloneable -/
def k8 : Class := { plain "java/lang/Cloneable" (some 0) with
  accessFlags := 1537
  interfaces := #[]
  cf := some (fileOf pool8 2 #[] #[] 1537 4 #[] #[])
  fields := #[]
  methods := #[]
  instanceTypes := #[]
  staticTypes := #[]
  resolved := Array.replicate 8 none
  statics := none }

/-- the primitive byte -/
def k9 : Class := { plain "byte" none with kind := .primitive 'B', accessFlags := 0x411 }
/-- [B -/
def k10 : Class := { plain "[B" (some 0) with kind := .array 9 .byte, interfaces := #[8, 4], accessFlags := 1041 }

/-- the primitive int -/
def k11 : Class := { plain "int" none with kind := .primitive 'I', accessFlags := 0x411 }
/-- [I -/
def k12 : Class := { plain "[I" (some 0) with kind := .array 11 .int, interfaces := #[8, 4], accessFlags := 1041 }

def heap : Heap := #[{ cls := 6, slots := #[.ref 7, .ref 8, .ref 9, .ref 10, .ref 11, .ref 12, .ref 13, .null], vm := .statics 6 },
  { cls := 7, slots := #[.ref 2, .ref 3, .ref 6, .ref 5, .ref 4, .null], vm := .statics 7 },
  { cls := 7, slots := #[.null, .int 0, .int 0], vm := .none },
  { cls := 7, slots := #[.null, .int 1, .int 0], vm := .none },
  { cls := 7, slots := #[.null, .int 2, .int 0], vm := .none },
  { cls := 7, slots := #[.null, .int 3, .int 0], vm := .none },
  { cls := 7, slots := #[.null, .int 4, .int 0], vm := .none },
  { cls := 6, slots := #[.null, .int 0, .int 0, .ref 2, .ref 3], vm := .none },
  { cls := 6, slots := #[.null, .int 1, .int 0, .ref 3, .ref 3], vm := .none },
  { cls := 6, slots := #[.null, .int 2, .int 0, .ref 2, .ref 4], vm := .none },
  { cls := 6, slots := #[.null, .int 3, .int 0, .ref 5, .ref 5], vm := .none },
  { cls := 6, slots := #[.null, .int 4, .int 0, .ref 4, .ref 5], vm := .none },
  { cls := 6, slots := #[.null, .int 5, .int 0, .ref 2, .ref 5], vm := .none },
  { cls := 6, slots := #[.null, .int 6, .int 0, .ref 6, .ref 3], vm := .none }]
def classes : Array Class := #[k0, k1, k2, k3, k4, k5, k6, k7, k8, k9, k10, k11, k12]
def interned : List (Array UInt16 × Addr) := []
def slotsUsed : Nat := 64
def theMethod : MethodId := ⟨1, 1⟩
def args0 : Array Value := #[.int 5, .int 3]
def aboutOver (below : List Frame) : State where
  vm := { classes := classes, interned := interned.toArray }
  heap := heap
  slotsUsed := slotsUsed
  threads := #[{ frames := .invoking theMethod args0 :: below }]
def below0 : List Frame := [.native { method := ⟨0, 0⟩, args := #[] }]
def about1 : State := aboutOver below0
def p0 : Program := .bare "" "" ""
def e0 : Env := launch0.env 0 0 0
theorem w_frames : about1.frames = Frame.invoking theMethod args0 :: below0 := rfl
set_option maxRecDepth 65536 in
theorem w_args : argsFit about1.vm theMethod args0 = true := by decide +kernel
set_option maxRecDepth 65536 in
theorem w_heap : heapFits about1 = true := by decide +kernel
set_option maxRecDepth 65536 in
theorem w_runnable : about1.curStatus? = some .runnable := by decide +kernel
set_option maxRecDepth 65536 in
theorem w_alone : about1.alone = true := by decide +kernel
set_option maxRecDepth 65536 in
theorem w_named : about1.methodNamed? x = some theMethod := by decide +kernel
set_option maxRecDepth 65536 in
theorem w_hears : about1.hears theMethod below0 = true := by decide +kernel
set_option maxRecDepth 65536 in
theorem w_ripe : about1.ripe theMethod args0 below0 = true := by decide +kernel
theorem w_running : about1.status = .running := rfl
set_option maxRecDepth 65536 in
theorem w_room : about1.hasRoom e0.platform room_1 = true :=
  launch0.hasRoom_least _ room_1 (by decide +kernel) (by decide +kernel) (by decide +kernel) (by decide +kernel) (by decide +kernel) (by decide +kernel)
theorem allAtoms_all (ts : List Jvm.Cond) (a : Array Jvm.Value) (st : Jvm.State) : (allAtoms ts).before a st = ts.all (fun c => c.before a st) := by
  induction ts with
  | nil => rfl
  | cons c t ih =>
    show (Jvm.Cond.and c (allAtoms t)).before a st = _
    rw [Jvm.Cond.before_and, ih, List.all_cons]
def words1 : List Jvm.Cond := Jvm.Cond.code x code maxLocals ret :: tables_1
/-- a 'code' word, met by the world's own term for the bytes: nothing is compared byte by byte -/
theorem code_word {y : MethodName} {bytes : ByteArray} {mx : Nat} {rt : Option FieldType} {a : Array Value} {s : State} {m : MethodId} {meth : Method} {c : Code} (h1 : s.methodNamed? y = some m) (h2 : s.vm.method? m = some meth) (h3 : meth.code = some c) (h4 : c.code = bytes)
    (h5 : (c.maxLocals == mx && c.exceptionTable.isEmpty && decide (c.maxStack ≤ mostOperands) && decide (meth.sig.returnType = rt) && !meth.locks && decide (parseMethodDescriptor y.desc = some meth.sig)) = true) : (Jvm.Cond.code y bytes mx rt).before a s = true := by
  simp only [Bool.and_eq_true, beq_iff_eq, Bool.not_eq_true', decide_eq_true_eq] at h5
  obtain ⟨⟨⟨⟨⟨g1, g2⟩, g3⟩, g4⟩, g5⟩, g6⟩ := h5
  simp [Cond.before, Cond.holds, Cond.value, h1, h2, h3, h4, g1, g2, g3, g4, g5, g6]
def isCode : Jvm.Cond → Bool
  | .code _ _ _ _ => true
  | _ => false
theorem all_split {L : List Jvm.Cond} {P : Jvm.Cond → Bool} (h1 : L.all (fun c => isCode c || P c) = true) (h2 : ∀ c ∈ L.filter isCode, P c = true) : L.all P = true := by
  refine List.all_eq_true.mpr fun c hc => ?_
  have h := List.all_eq_true.mp h1 c hc
  rcases Bool.eq_false_or_eq_true (isCode c) with hi | hi
  · exact h2 c (List.mem_filter.mpr ⟨hc, hi⟩)
  · simpa [hi] using h
set_option maxRecDepth 65536 in
theorem w_c0 : (Jvm.Cond.code x code maxLocals ret).before args0 about1 = true := code_word (m := ⟨1, 1⟩) (meth := k1m1) (c := k1c1) (by decide +kernel) rfl rfl rfl (by decide +kernel)
set_option maxRecDepth 65536 in
theorem w_c1 : (Jvm.Cond.code ({ cls := "com/example/demarcate/demarcate/AttributeEntryPinLaw", name := "pick", desc := "(I)Lcom/example/demarcate/demarcate/Attribute;" } : Jvm.MethodName) method_3_code (1 : Nat) (Option.some (Jvm.ClassFile.FieldType.object "com/example/demarcate/demarcate/Attribute"))).before args0 about1 = true := code_word (m := ⟨1, 2⟩) (meth := k1m2) (c := k1c2) (by decide +kernel) rfl rfl rfl (by decide +kernel)
set_option maxRecDepth 65536 in
theorem w_c2 : (Jvm.Cond.code ({ cls := "com/example/demarcate/demarcate/AttributeEntryPinLaw", name := "expect", desc := "(IZ)Lcom/example/demarcate/demarcate/Attribute$Entry;" } : Jvm.MethodName) method_4_code (2 : Nat) (Option.some (Jvm.ClassFile.FieldType.object "com/example/demarcate/demarcate/Attribute$Entry"))).before args0 about1 = true := code_word (m := ⟨1, 3⟩) (meth := k1m3) (c := k1c3) (by decide +kernel) rfl rfl rfl (by decide +kernel)
set_option maxRecDepth 65536 in
theorem w_c3 : (Jvm.Cond.code ({ cls := "com/example/demarcate/demarcate/Attribute", name := "entry", desc := "(Z)Lcom/example/demarcate/demarcate/Attribute$Entry;" } : Jvm.MethodName) prog_1_method_4_code (2 : Nat) (Option.some (Jvm.ClassFile.FieldType.object "com/example/demarcate/demarcate/Attribute$Entry"))).before args0 about1 = true := code_word (m := ⟨6, 0⟩) (meth := k6m0) (c := k6c0) (by decide +kernel) rfl rfl rfl (by decide +kernel)
def codes1 : List Jvm.Cond := [Jvm.Cond.code x code maxLocals ret, Jvm.Cond.code ({ cls := "com/example/demarcate/demarcate/AttributeEntryPinLaw", name := "pick", desc := "(I)Lcom/example/demarcate/demarcate/Attribute;" } : Jvm.MethodName) method_3_code (1 : Nat) (Option.some (Jvm.ClassFile.FieldType.object "com/example/demarcate/demarcate/Attribute")), Jvm.Cond.code ({ cls := "com/example/demarcate/demarcate/AttributeEntryPinLaw", name := "expect", desc := "(IZ)Lcom/example/demarcate/demarcate/Attribute$Entry;" } : Jvm.MethodName) method_4_code (2 : Nat) (Option.some (Jvm.ClassFile.FieldType.object "com/example/demarcate/demarcate/Attribute$Entry")), Jvm.Cond.code ({ cls := "com/example/demarcate/demarcate/Attribute", name := "entry", desc := "(Z)Lcom/example/demarcate/demarcate/Attribute$Entry;" } : Jvm.MethodName) prog_1_method_4_code (2 : Nat) (Option.some (Jvm.ClassFile.FieldType.object "com/example/demarcate/demarcate/Attribute$Entry"))]
set_option maxRecDepth 65536 in
theorem codes_eq : words1.filter isCode = codes1 := rfl
theorem w_codes : ∀ c ∈ words1.filter isCode, c.before args0 about1 = true := by
  rw [codes_eq]
  intro c hc
  simp only [codes1, List.mem_cons, List.not_mem_nil, or_false] at hc
  rcases hc with rfl | rfl | rfl | rfl
  · exact w_c0
  · exact w_c1
  · exact w_c2
  · exact w_c3
set_option maxRecDepth 65536 in
theorem w_t1 : (words1.take 24).all (fun c => isCode c || c.before args0 about1) = true := by decide +kernel
set_option maxRecDepth 65536 in
theorem w_t2 : (words1.drop 24).all (fun c => isCode c || c.before args0 about1) = true := by decide +kernel
theorem w_tables : (allAtoms (Jvm.Cond.code x code maxLocals ret :: tables_1)).before args0 about1 = true := by
  rw [allAtoms_all]
  show words1.all (fun c => c.before args0 about1) = true
  refine all_split ?_ w_codes
  rw [← List.take_append_drop 24 words1, List.all_append, w_t1, w_t2]
  rfl
set_option maxRecDepth 65536 in
theorem w_case : (Jvm.Cond.and given_1 narrow_1).before args0 about1 = true := by decide +kernel
theorem w_applies : (headSpec (Jvm.Cond.code x code maxLocals ret :: tables_1) room_1).applies x e0.platform about1 = true :=
  (Spec.applies_iff w_frames).mpr ⟨w_running, w_runnable, w_alone, w_named, w_hears, w_ripe, w_room, w_tables⟩
theorem atStart : AtStart classFile x code maxLocals ret World_1 tables_1 room_1 Calls_1 rest_1 Pre_1 launch0 p0 e0 about1 theMethod args0 below0 :=
  ⟨lists_1, trivial, launch0.admits_env _ _ _, launch0.least_env, fairChoices_fair.cas, fairChoices_fair.clock, w_frames, w_args, w_heap, w_applies, trivial, trivial, w_case⟩
end start1
theorem witness_1 : WitnessClaimed_1 := ⟨start1.p0, start1.e0, start1.about1, start1.theMethod, start1.args0, start1.below0, start1.atStart⟩
end Jvm.Pilot.@@N@@
