import JvmDerived
import JvmDerived.Pilot.@@N@@Statement
import JvmDerived.Pilot.@@N@@Code
set_option linter.unusedVariables false
set_option linter.unusedSimpArgs false

namespace Jvm.Pilot.@@N@@
open Jvm Jvm.ClassFile Sem Op Lib Jvm.Free Jvm.Stand Jvm.LawKit Jvm.RoadKit Bundle Jvm.Pilot.@@N@@.Jvm.D
section Own
variable {p : Program} {l : Launch} {e : Env} {R : Room} {s : State} {m : MethodId} {args : Array Value} {below : List Frame} {meth : Method} {c : Code} {T T' : State} {locs : List Loc} {cells slots : Nat} {g g' : JFrame} {P : State → Outcome → Prop}
/-- the run that stands at the frame g over T comes to an end of which P holds -/
def own_Ends (p : Program) (e : Env) (below : List Frame) (P : State → Outcome → Prop) (T : State) (g : JFrame) : Prop := ∃ u o, Steps p.tables e below (T.setTop g) u ∧ P u o
theorem own_via (st : ∀ t, Steps p.tables e below (T'.setTop g') t → Steps p.tables e below (T.setTop g) t) (k : own_Ends p e below P T' g') : own_Ends p e below P T g := by
  obtain ⟨a, b, c, d⟩ := k
  exact ⟨a, b, st _ c, d⟩
theorem own_viaT (st : Steps p.tables e below (T.setTop g) (T'.setTop g')) (k : own_Ends p e below P T' g') : own_Ends p e below P T g := own_via (fun _ k => st.trans k) k
def own_Post (s : State) (below : List Frame) (Q : Option Value → Heap → List Loc → Prop) (C S : Nat) : State → Outcome → Prop := fun u o => u.status = .running ∧ Ended u below o ∧ ∃ v L, o = .returned v ∧ Q v u.heap L ∧ FrameEnd s o u L C S
theorem own_leave (X : Stand p l e R s m args below meth c T locs cells slots) {v : Option Value} {Q : Option Value → Heap → List Loc → Prop} {C S : Nat} (hv : meth.sig.returnType = none → v = none) (hlk : meth.locks = false)
    (hst : ∀ fs, (∀ (f : JFrame) (acts : List Action), f.method = m → f.locked = none → f.entered = [] → (doReturn e (T.setTop f) acts v).1 = T.setFrames fs) → Steps p.tables e below (T.setTop g) (T.setFrames fs))
    (hC : cells ≤ C) (hS : slots ≤ S) (hQ : Q v T.heap locs) : own_Ends p e below (own_Post s below Q C S) T g := by
  obtain ⟨fs, hr, hrun, hended, hW, hsame⟩ := X.leave (v := v) hv hlk
  exact ⟨_, _, hst fs hr, hrun, hended, v, locs, rfl, hQ, ⟨_, rfl⟩, hW, hsame.mono hC hS⟩
theorem own_retV (X : Stand p l e R s m args below meth c T locs cells slots) (hx : p.tables.exec = Jvm.exec) (hlk : meth.locks = false) {Q : Option Value → Heap → List Loc → Prop} {C S : Nat} {pc : Nat} {Ls : Array Slot} (hret : meth.sig.returnType = none) (hd : decode c.code pc = .ok (.return_, 1))
    (hC : cells ≤ C) (hS : slots ≤ S) (hQ : Q none T.heap locs) : own_Ends p e below (own_Post s below Q C S) T (mkF m pc Ls []) :=
  own_leave X (fun _ => rfl) hlk (fun fs hr => X.returnOut hx hret hd hr) hC hS hQ
theorem own_retW (X : Stand p l e R s m args below meth c T locs cells slots) (hx : p.tables.exec = Jvm.exec) (hlk : meth.locks = false) {Q : Option Value → Heap → List Loc → Prop} {C S : Nat} {pc : Nat} {Ls : Array Slot} {w : Value} {t : FieldType} {i : Instr} {rest : List Value} (hret : meth.sig.returnType = some t) (hn : narrow t w = w)
    (hi : (i = .ireturn ∧ (t = .int ∨ t = .boolean ∨ t = .byte ∨ t = .char ∨ t = .short) ∧ ∃ z, w = .int z) ∨ (i = .lreturn ∧ t = .long ∧ ∃ z, w = .long z) ∨ (i = .dreturn ∧ t = .double ∧ ∃ z, w = .double z) ∨ (i = .freturn ∧ t = .float ∧ ∃ z, w = .float z) ∨ (i = .areturn ∧ t.isReference = true ∧ w.isRef = true))
    (hd : decode c.code pc = .ok (i, 1)) (hC : cells ≤ C) (hS : slots ≤ S) (hQ : Q (some w) T.heap locs) : own_Ends p e below (own_Post s below Q C S) T (mkF m pc Ls (w :: rest)) :=
  own_leave X (fun h => by rw [hret] at h; cases h) hlk (fun fs hr => retOut X hx hret hn hi hd hr) hC hS hQ
theorem own_retN (X : Stand p l e R s m args below meth c T locs cells slots) (hx : p.tables.exec = Jvm.exec) (hlk : meth.locks = false) {Q : Option Value → Heap → List Loc → Prop} {C S : Nat} {pc : Nat} {Ls : Array Slot} {z : Int32} {t : FieldType} {rest : List Value} (hret : meth.sig.returnType = some t) (ht : t = .boolean ∨ t = .byte ∨ t = .char ∨ t = .short)
    (hd : decode c.code pc = .ok (.ireturn, 1)) (hC : cells ≤ C) (hS : slots ≤ S) (hQ : Q (some (.int (nar t z))) T.heap locs) : own_Ends p e below (own_Post s below Q C S) T (mkF m pc Ls (.int z :: rest)) :=
  own_leave X (fun h => by rw [hret] at h; cases h) hlk (fun fs hr => retN X hx hret ht hd hr) hC hS hQ
theorem own_le {Z : State} {n0 : Nat} {h : Heap} (O : Old Z n0 h) : n0 ≤ h.size := O.1 ▸ O.2.1
theorem own_nb0 : nar .boolean 0 = 0 := rfl
theorem own_nb1 : nar .boolean 1 = 1 := rfl
theorem own_nb {b : Int32} (h : b = 0 ∨ b = 1) : nar .boolean b = b := by rcases h with rfl | rfl <;> rfl
end Own
theorem own_pd0 : parseMethodDescriptor "(C)Lcom/example/accessio/accessio/model/ElectronicLocation$Relationship;" = some ⟨[.char], some (.object "com/example/accessio/accessio/model/ElectronicLocation$Relationship")⟩ := by decide +kernel
section OwnWords
variable {args : Array Value} {first s : State} {o : Option Outcome} {idx : List Nat}
theorem own_eqI {a : Term} {k : Int32} (h : (Cond.eq a (.int k)).value args first o s idx = some true) : a.eval args first o idx s = some (.int k) := by
  simp only [Cond.value, Term.eval] at h
  cases ha : a.eval args first o idx s with
  | none => simp [ha] at h
  | some x => cases x <;> simp [ha] at h ⊢ <;> exact h
theorem own_eqR {a b : Term} {y : Addr} (h : (Cond.eq a b).value args first o s idx = some true) (hb : b.eval args first o idx s = some (.ref y)) : a.eval args first o idx s = some (.ref y) := by
  simp only [Cond.value, hb] at h
  cases ha : a.eval args first o idx s with
  | none => simp [ha] at h
  | some x => cases x <;> simp [ha] at h ⊢ <;> exact h
end OwnWords

theorem own_of_d0 : decode prog_7_method_4_code 0 = .ok (.iload_n 0, 1) := by decide +kernel
theorem own_of_d1 : decode prog_7_method_4_code 1 = .ok (.tableswitch 45 48 50 #[27, 33, 39], 27) := by decide +kernel
theorem own_of_d28 : decode prog_7_method_4_code 28 = .ok (.getstatic 3, 3) := by decide +kernel
theorem own_of_d31 : decode prog_7_method_4_code 31 = .ok (.goto 18, 3) := by decide +kernel
theorem own_of_d34 : decode prog_7_method_4_code 34 = .ok (.getstatic 7, 3) := by decide +kernel
theorem own_of_d37 : decode prog_7_method_4_code 37 = .ok (.goto 12, 3) := by decide +kernel
theorem own_of_d40 : decode prog_7_method_4_code 40 = .ok (.getstatic 10, 3) := by decide +kernel
theorem own_of_d43 : decode prog_7_method_4_code 43 = .ok (.goto 6, 3) := by decide +kernel
theorem own_of_d46 : decode prog_7_method_4_code 46 = .ok (.getstatic 13, 3) := by decide +kernel
theorem own_of_d49 : decode prog_7_method_4_code 49 = .ok (.areturn, 1) := by decide +kernel
theorem own_of_pn : plainFor (⟨"com/example/accessio/accessio/model/ElectronicLocation$Relationship", "of", "(C)Lcom/example/accessio/accessio/model/ElectronicLocation$Relationship;"⟩ : MethodName) = true := by first | exact plainFor_of_name (by first | (simp [plainName, overriddenIn]; done) | decide +kernel) | decide +kernel
theorem own_of_ef (m : MethodId) (x0 : Int32) : entryFrame m #[(.int x0)] 1 = mkF m 0 #[.val (.int x0)] [] := by first | (simp [entryFrame, mkF, argsToLocals, Value.category]; done) | rfl
def own_of_Q (Z : State) (c1 : Int32) (wRESOURCE : Addr) (wVERSION_OF_RESOURCE : Addr) (wRELATED_RESOURCE : Addr) (wNO_INFORMATION_PROVIDED : Addr) (r : Addr) (h0 : Heap) (n0 : Nat) (v : Option Value) (h : Heap) (L : List Loc) : Prop := v = some (.ref r) ∧ Fr n0 L ∧ h = h0
set_option maxRecDepth 65536 in
set_option maxHeartbeats 40000000 in
theorem own_of (l : Launch) (Z : State) (a0 : Array Value) (hw : ∀ d ∈ tables_1, d.before a0 Z = true) (ws : List Jvm.Cond) (c1 : Int32) (wRESOURCE : Addr) (wVERSION_OF_RESOURCE : Addr) (wRELATED_RESOURCE : Addr) (wNO_INFORMATION_PROVIDED : Addr) (r : Addr) (h0 : Heap) (n0 : Nat) (O : Old Z n0 h0) (S_RESOURCE : Sta Z Z.heap "com/example/accessio/accessio/model/ElectronicLocation$Relationship" "RESOURCE" "Lcom/example/accessio/accessio/model/ElectronicLocation$Relationship;" (.ref wRESOURCE)) (S_VERSION_OF_RESOURCE : Sta Z Z.heap "com/example/accessio/accessio/model/ElectronicLocation$Relationship" "VERSION_OF_RESOURCE" "Lcom/example/accessio/accessio/model/ElectronicLocation$Relationship;" (.ref wVERSION_OF_RESOURCE)) (S_RELATED_RESOURCE : Sta Z Z.heap "com/example/accessio/accessio/model/ElectronicLocation$Relationship" "RELATED_RESOURCE" "Lcom/example/accessio/accessio/model/ElectronicLocation$Relationship;" (.ref wRELATED_RESOURCE)) (S_NO_INFORMATION_PROVIDED : Sta Z Z.heap "com/example/accessio/accessio/model/ElectronicLocation$Relationship" "NO_INFORMATION_PROVIDED" "Lcom/example/accessio/accessio/model/ElectronicLocation$Relationship;" (.ref wNO_INFORMATION_PROVIDED)) (hr : (c1 = 48 → r = wRESOURCE) ∧ (c1 = 49 → r = wVERSION_OF_RESOURCE) ∧ (c1 = 50 → r = wRELATED_RESOURCE) ∧ (¬ c1 = 48 → ¬ c1 = 49 → ¬ c1 = 50 → r = wNO_INFORMATION_PROVIDED)) :
    MetFree l (⟨"com/example/accessio/accessio/model/ElectronicLocation$Relationship", "of", "(C)Lcom/example/accessio/accessio/model/ElectronicLocation$Relationship;"⟩ : MethodName) (head1 (Jvm.Cond.code (⟨"com/example/accessio/accessio/model/ElectronicLocation$Relationship", "of", "(C)Lcom/example/accessio/accessio/model/ElectronicLocation$Relationship;"⟩ : MethodName) prog_7_method_4_code 1 (some (.object "com/example/accessio/accessio/model/ElectronicLocation$Relationship")) :: ws) ({ frames := 0, cells := 0, slots := 0, locals := 0 } : Room)) (fun a U => a = #[(.int c1)] ∧ Z.Warmed39 U.vm ∧ U.heap = h0) (fun _ _ _ _ _ => True) (fun _ U o U' => ∃ v L, o = .returned v ∧ own_of_Q Z c1 wRESOURCE wVERSION_OF_RESOURCE wRELATED_RESOURCE wNO_INFORMATION_PROVIDED r h0 n0 v U'.heap L ∧ FrameEnd U o U' L ({ frames := 0, cells := 0, slots := 0, locals := 0 } : Room).cells ({ frames := 0, cells := 0, slots := 0, locals := 0 } : Room).slots) := by
  refine MetFree.of_bodySF own_of_pn hisR ?_
  intro p e s m args below meth c s₁ Bd hml0 hP hK
  obtain ⟨rfl, hZ, hh⟩ := hP
  have hx := Bd.exec
  have hby := Bd.bytes
  have hlk := Bd.notSynchronized
  have hml : c.maxLocals = 1 := hml0
  have hown : s.vm.findClass "com/example/accessio/accessio/model/ElectronicLocation$Relationship" = some m.cls := findClass_of_methodNamed Bd.named
  have hnm := (name_of_methodNamed Bd.named Bd.method).1
  have X : Stand p l e ({ frames := 0, cells := 0, slots := 0, locals := 0 } : Room) s m #[(.int c1)] below meth c s₁ [] 0 0 := Stand.of_body Bd
  have eT : s₁.heap = h0 := by rw [← hh, Bd.state]; rfl
  have N := Fr.nil n0
  have K0 := Keep.refl h0 []
  show own_Ends p e below (own_Post s below (own_of_Q Z c1 wRESOURCE wVERSION_OF_RESOURCE wRELATED_RESOURCE wNO_INFORMATION_PROVIDED r h0 n0) ({ frames := 0, cells := 0, slots := 0, locals := 0 } : Room).cells ({ frames := 0, cells := 0, slots := 0, locals := 0 } : Room).slots) s₁ (entryFrame m #[(.int c1)] 1)
  rw [own_of_ef m c1]
  obtain ⟨T, hT⟩ : ∃ z, z = s₁ := ⟨_, rfl⟩
  rw [← hT] at X eT ⊢
  obtain ⟨h, hh0⟩ : ∃ z, z = h0 := ⟨_, rfl⟩
  rw [← hh0] at eT
  replace O : Old Z n0 h := by rw [hh0]; exact O
  replace K0 : Keep h0 h [] := by rw [hh0]; exact K0
  refine own_via (T' := T) (g' := (mkF m 1 #[.val (.int c1)] [(.int c1)])) (fun t_ k_ => XS.iloadN X.here hx rfl (hb hby own_of_d0) rfl k_) ?_
  by_cases hc1 : c1 = (48 : Int32)
  · refine own_via (T' := T) (g' := (mkF m 28 #[.val (.int c1)] [])) (fun t_ k_ => XS.tswIn X.here hx rfl (pc0 := 1) (pc' := 28) rfl (hb hby own_of_d1) (i := c1) rfl (by rw [hc1]; decide) (o := 27) (by rw [hc1]; decide) (by decide) (by decide) k_) ?_
    obtain ⟨T, X, eT, st⟩ := getS2 X hx hZ hown (host := "") (Or.inl (hw _ (List.mem_of_getElem? (i := 14) rfl))) Via.refl eT (S_RESOURCE.ext O.2) (g := (mkF m 28 #[.val (.int c1)] [])) rfl (hb hby own_of_d28)
    refine own_via (g' := (mkF m 31 #[.val (.int c1)] [(.ref wRESOURCE)])) st ?_
    refine own_via (T' := T) (g' := (mkF m 49 #[.val (.int c1)] [(.ref wRESOURCE)])) (fun t_ k_ => XS.goto X.here hx rfl (pc0 := 31) (pc' := 49) rfl (hb hby own_of_d31) (by decide) (by decide) k_) ?_
    refine own_retW X hx hlk Bd.returns rfl (Or.inr (Or.inr (Or.inr (Or.inr ⟨rfl, rfl, rfl⟩)))) (hb hby own_of_d49) (by decide) (by decide) ?_
    rw [eT]
    exact ⟨by rw [hr.1 hc1], N, hh0⟩
  by_cases hc2 : c1 = (49 : Int32)
  · refine own_via (T' := T) (g' := (mkF m 34 #[.val (.int c1)] [])) (fun t_ k_ => XS.tswIn X.here hx rfl (pc0 := 1) (pc' := 34) rfl (hb hby own_of_d1) (i := c1) rfl (by rw [hc2]; decide) (o := 33) (by rw [hc2]; decide) (by decide) (by decide) k_) ?_
    obtain ⟨T, X, eT, st⟩ := getS2 X hx hZ hown (host := "") (Or.inl (hw _ (List.mem_of_getElem? (i := 11) rfl))) Via.refl eT (S_VERSION_OF_RESOURCE.ext O.2) (g := (mkF m 34 #[.val (.int c1)] [])) rfl (hb hby own_of_d34)
    refine own_via (g' := (mkF m 37 #[.val (.int c1)] [(.ref wVERSION_OF_RESOURCE)])) st ?_
    refine own_via (T' := T) (g' := (mkF m 49 #[.val (.int c1)] [(.ref wVERSION_OF_RESOURCE)])) (fun t_ k_ => XS.goto X.here hx rfl (pc0 := 37) (pc' := 49) rfl (hb hby own_of_d37) (by decide) (by decide) k_) ?_
    refine own_retW X hx hlk Bd.returns rfl (Or.inr (Or.inr (Or.inr (Or.inr ⟨rfl, rfl, rfl⟩)))) (hb hby own_of_d49) (by decide) (by decide) ?_
    rw [eT]
    exact ⟨by rw [hr.2.1 hc2], N, hh0⟩
  by_cases hc3 : c1 = (50 : Int32)
  · refine own_via (T' := T) (g' := (mkF m 40 #[.val (.int c1)] [])) (fun t_ k_ => XS.tswIn X.here hx rfl (pc0 := 1) (pc' := 40) rfl (hb hby own_of_d1) (i := c1) rfl (by rw [hc3]; decide) (o := 39) (by rw [hc3]; decide) (by decide) (by decide) k_) ?_
    obtain ⟨T, X, eT, st⟩ := getS2 X hx hZ hown (host := "") (Or.inl (hw _ (List.mem_of_getElem? (i := 8) rfl))) Via.refl eT (S_RELATED_RESOURCE.ext O.2) (g := (mkF m 40 #[.val (.int c1)] [])) rfl (hb hby own_of_d40)
    refine own_via (g' := (mkF m 43 #[.val (.int c1)] [(.ref wRELATED_RESOURCE)])) st ?_
    refine own_via (T' := T) (g' := (mkF m 49 #[.val (.int c1)] [(.ref wRELATED_RESOURCE)])) (fun t_ k_ => XS.goto X.here hx rfl (pc0 := 43) (pc' := 49) rfl (hb hby own_of_d43) (by decide) (by decide) k_) ?_
    refine own_retW X hx hlk Bd.returns rfl (Or.inr (Or.inr (Or.inr (Or.inr ⟨rfl, rfl, rfl⟩)))) (hb hby own_of_d49) (by decide) (by decide) ?_
    rw [eT]
    exact ⟨by rw [hr.2.2.1 hc3], N, hh0⟩
  have hout : (c1).toInt < 48 ∨ (c1).toInt > 50 := by
    have q0 : (c1).toInt ≠ 48 := fun q => hc1 (Int32.toInt_inj.mp q)
    have q1 : (c1).toInt ≠ 49 := fun q => hc2 (Int32.toInt_inj.mp q)
    have q2 : (c1).toInt ≠ 50 := fun q => hc3 (Int32.toInt_inj.mp q)
    omega
  refine own_via (T' := T) (g' := (mkF m 46 #[.val (.int c1)] [])) (fun t_ k_ => XS.tswOut X.here hx rfl (pc0 := 1) (pc' := 46) rfl (hb hby own_of_d1) (i := c1) rfl hout (by decide) (by decide) k_) ?_
  obtain ⟨T, X, eT, st⟩ := getS2 X hx hZ hown (host := "") (Or.inl (hw _ (List.mem_of_getElem? (i := 5) rfl))) Via.refl eT (S_NO_INFORMATION_PROVIDED.ext O.2) (g := (mkF m 46 #[.val (.int c1)] [])) rfl (hb hby own_of_d46)
  refine own_via (g' := (mkF m 49 #[.val (.int c1)] [(.ref wNO_INFORMATION_PROVIDED)])) st ?_
  refine own_retW X hx hlk Bd.returns rfl (Or.inr (Or.inr (Or.inr (Or.inr ⟨rfl, rfl, rfl⟩)))) (hb hby own_of_d49) (by decide) (by decide) ?_
  rw [eT]
  exact ⟨by rw [hr.2.2.2 hc1 hc2 hc3], N, hh0⟩
theorem own_law_pn : plainFor x = true := by first | exact plainFor_of_name (by first | (simp [plainName, overriddenIn]; done) | decide +kernel) | decide +kernel
theorem own_law_ef (m : MethodId) (x0 : Int32) (x1 : Int32) : entryFrame m #[(.int x0), (.int x1)] maxLocals = mkF m 0 #[.val (.int x0), .val (.int x1), .unset, .unset, .unset] [] := by first | (simp [entryFrame, mkF, argsToLocals, Value.category, maxLocals]; done) | rfl
def own_law_Q (Z : State) (p0 : Int32) (p1 : Int32) (wRESOURCE : Addr) (wVERSION_OF_RESOURCE : Addr) (wRELATED_RESOURCE : Addr) (wNO_INFORMATION_PROVIDED : Addr) (h0 : Heap) (n0 : Nat) (v : Option Value) (h : Heap) (L : List Loc) : Prop := v = some (.int (1 : Int32)) ∧ Fr n0 L ∧ True
set_option maxRecDepth 65536 in
set_option maxHeartbeats 40000000 in
theorem own_law (l : Launch) (Z : State) (a0 : Array Value) (hw : ∀ d ∈ tables_1, d.before a0 Z = true) (ws : List Jvm.Cond) (p0 : Int32) (p1 : Int32) (wRESOURCE : Addr) (wVERSION_OF_RESOURCE : Addr) (wRELATED_RESOURCE : Addr) (wNO_INFORMATION_PROVIDED : Addr) (h0 : Heap) (n0 : Nat) (O : Old Z n0 h0) (S_RESOURCE : Sta Z Z.heap "com/example/accessio/accessio/model/ElectronicLocation$Relationship" "RESOURCE" "Lcom/example/accessio/accessio/model/ElectronicLocation$Relationship;" (.ref wRESOURCE)) (S_VERSION_OF_RESOURCE : Sta Z Z.heap "com/example/accessio/accessio/model/ElectronicLocation$Relationship" "VERSION_OF_RESOURCE" "Lcom/example/accessio/accessio/model/ElectronicLocation$Relationship;" (.ref wVERSION_OF_RESOURCE)) (S_RELATED_RESOURCE : Sta Z Z.heap "com/example/accessio/accessio/model/ElectronicLocation$Relationship" "RELATED_RESOURCE" "Lcom/example/accessio/accessio/model/ElectronicLocation$Relationship;" (.ref wRELATED_RESOURCE)) (S_NO_INFORMATION_PROVIDED : Sta Z Z.heap "com/example/accessio/accessio/model/ElectronicLocation$Relationship" "NO_INFORMATION_PROVIDED" "Lcom/example/accessio/accessio/model/ElectronicLocation$Relationship;" (.ref wNO_INFORMATION_PROVIDED)) :
    MetFree l x (head1 (Jvm.Cond.code x code maxLocals ret :: ws) room_1) (fun a U => a = #[(.int p0), (.int p1)] ∧ Z.Warmed39 U.vm ∧ U.heap = h0) (fun _ _ _ _ _ => True) (fun _ U o U' => ∃ v L, o = .returned v ∧ own_law_Q Z p0 p1 wRESOURCE wVERSION_OF_RESOURCE wRELATED_RESOURCE wNO_INFORMATION_PROVIDED h0 n0 v U'.heap L ∧ FrameEnd U o U' L room_1.cells room_1.slots) := by
  refine MetFree.of_bodySF own_law_pn hisR ?_
  intro p e s m args below meth c s₁ Bd hml0 hP hK
  obtain ⟨rfl, hZ, hh⟩ := hP
  have hx := Bd.exec
  have hby := Bd.bytes
  have hlk := Bd.notSynchronized
  have hml : c.maxLocals = 5 := hml0
  have hown : s.vm.findClass "com/example/accessio/accessio/model/RelationshipOfPinLaw" = some m.cls := findClass_of_methodNamed Bd.named
  have hnm := (name_of_methodNamed Bd.named Bd.method).1
  have X : Stand p l e room_1 s m #[(.int p0), (.int p1)] below meth c s₁ [] 0 0 := Stand.of_body Bd
  have eT : s₁.heap = h0 := by rw [← hh, Bd.state]; rfl
  have N := Fr.nil n0
  have K0 := Keep.refl h0 []
  show own_Ends p e below (own_Post s below (own_law_Q Z p0 p1 wRESOURCE wVERSION_OF_RESOURCE wRELATED_RESOURCE wNO_INFORMATION_PROVIDED h0 n0) room_1.cells room_1.slots) s₁ (entryFrame m #[(.int p0), (.int p1)] maxLocals)
  rw [own_law_ef m p0 p1]
  obtain ⟨T, hT⟩ : ∃ z, z = s₁ := ⟨_, rfl⟩
  rw [← hT] at X eT ⊢
  obtain ⟨h, hh0⟩ : ∃ z, z = h0 := ⟨_, rfl⟩
  rw [← hh0] at eT
  replace O : Old Z n0 h := by rw [hh0]; exact O
  replace K0 : Keep h0 h [] := by rw [hh0]; exact K0
  refine own_via (T' := T) (g' := (mkF m 1 #[.val (.int p0), .val (.int p1), .unset, .unset, .unset] [(.int p1)])) (fun t_ k_ => XS.iloadN X.here hx rfl (hb hby at_0) rfl k_) ?_
  refine own_via (T' := T) (g' := (mkF m 2 #[.val (.int p0), .val (.int p1), .unset, .unset, .unset] [(.int (1 : Int32)), (.int p1)])) (fun t_ k_ => XS.iconst X.here hx rfl (hb hby at_1) k_) ?_
  refine own_via (T' := T) (g' := (mkF m 3 #[.val (.int p0), .val (.int p1), .unset, .unset, .unset] [(.int (p1 &&& (1 : Int32)))])) (fun t_ k_ => XS.iand X.here hx rfl (hb hby at_2) rfl k_) ?_
  by_cases hc1 : (p1 &&& (1 : Int32)) = (0 : Int32)
  · refine own_via (T' := T) (g' := (mkF m 20 #[.val (.int p0), .val (.int p1), .unset, .unset, .unset] [])) (fun t_ k_ => XS.ifYes X.here hx rfl (pc0 := 3) (pc' := 20) rfl (hb hby at_3) rfl ((if0 _ _).trans (teq hc1).1) (by decide) (by decide) k_) ?_
    refine own_via (T' := T) (g' := (mkF m 21 #[.val (.int p0), .val (.int p1), .unset, .unset, .unset] [(.int p0)])) (fun t_ k_ => XS.iloadN X.here hx rfl (hb hby at_20) rfl k_) ?_
    refine own_via (T' := T) (g' := (mkF m 22 #[.val (.int p0), .val (.int p1), .unset, .unset, .unset] [(.int (p0.toUInt32.toUInt16.toUInt32.toInt32))])) (fun t_ k_ => XS.i2c X.here hx rfl (hb hby at_21) rfl k_) ?_
    refine own_via (T' := T) (g' := (mkF m 23 #[.val (.int p0), .val (.int p1), .val (.int (p0.toUInt32.toUInt16.toUInt32.toInt32)), .unset, .unset] [])) (fun t_ k_ => XS.istoreN X.here hx rfl (hb hby at_22) rfl (l' := #[.val (.int p0), .val (.int p1), .val (.int (p0.toUInt32.toUInt16.toUInt32.toInt32)), .unset, .unset]) rfl k_) ?_
    obtain ⟨ch, hd_ch⟩ : ∃ z, z = (p0.toUInt32.toUInt16.toUInt32.toInt32) := ⟨_, rfl⟩
    rw [← hd_ch]
    refine own_via (T' := T) (g' := (mkF m 24 #[.val (.int p0), .val (.int p1), .val (.int ch), .unset, .unset] [(.int ch)])) (fun t_ k_ => XS.iloadN X.here hx rfl (hb hby at_23) rfl k_) ?_
    by_cases hc2 : ch = (48 : Int32)
    · have hr : (ch = 48 → wRESOURCE = wRESOURCE) ∧ (ch = 49 → wRESOURCE = wVERSION_OF_RESOURCE) ∧ (ch = 50 → wRESOURCE = wRELATED_RESOURCE) ∧ (¬ ch = 48 → ¬ ch = 49 → ¬ ch = 50 → wRESOURCE = wNO_INFORMATION_PROVIDED) := by
        refine ⟨fun q => ?_, fun q => ?_, fun q => ?_, fun q1 q2 q3 => ?_⟩ <;> first | rfl | (exact absurd hc2 ‹_›) | (rw [hc2] at q; exact absurd q (by decide))
      obtain ⟨_, _, ⟨T, Lq, kq, nq⟩, -, X, ⟨Lc, hQ, lq, yq, zq⟩, st⟩ := Jvm.LawKit.callS X hx (y := (⟨"com/example/accessio/accessio/model/ElectronicLocation$Relationship", "of", "(C)Lcom/example/accessio/accessio/model/ElectronicLocation$Relationship;"⟩ : MethodName)) hown (mvT hZ (hw _ (List.mem_of_getElem? (i := 1) rfl))) (mvT hZ (hw _ (List.mem_of_getElem? (i := 2) rfl))) (mvT hZ (hw _ (List.mem_of_getElem? (i := 3) rfl))) (mvT hZ (hw _ (List.mem_of_getElem? (i := 4) rfl))) (by decide) (backOf (W := 0) (own_of l Z a0 hw [] ch wRESOURCE wVERSION_OF_RESOURCE wRELATED_RESOURCE wNO_INFORMATION_PROVIDED wRESOURCE h n0 O S_RESOURCE S_VERSION_OF_RESOURCE S_RELATED_RESOURCE S_NO_INFORMATION_PROVIDED hr) hZ (hw _ (List.mem_of_getElem? (i := 4) rfl)) (hw _ (List.mem_of_getElem? (i := 3) rfl)) (by decide) (by decide)) (g := (mkF m 24 #[.val (.int p0), .val (.int p1), .val (.int ch), .unset, .unset] [(.int ch)])) rfl (by rw [hml]; rfl) (argsL := [(.int ch)]) (rest := []) (lenOf own_pd0 rfl) rfl (by show 2 * 0 + _ ≤ _; exact Nat.le_of_eq rfl) (hb hby at_24) (fun _ _ => ⟨rfl, eT, (by decide : 0 + 0 ≤ _), (by decide : 0 + 0 ≤ _)⟩)
      dsimp only [Pt.U, Pt.locs, Pt.cells, Pt.slots] at X lq yq zq st hQ
      subst lq yq zq
      obtain ⟨rfl, Nq, eT⟩ := hQ
      replace N := Fr.app N Nq
      refine own_via (g' := (mkF m 27 #[.val (.int p0), .val (.int p1), .val (.int ch), .unset, .unset] [(.ref wRESOURCE)])) st ?_
      refine own_via (T' := T) (g' := (mkF m 28 #[.val (.int p0), .val (.int p1), .val (.int ch), .val (.ref wRESOURCE), .unset] [])) (fun t_ k_ => XS.astoreN X.here hx rfl (hb hby at_27) rfl rfl (l' := #[.val (.int p0), .val (.int p1), .val (.int ch), .val (.ref wRESOURCE), .unset]) rfl k_) ?_
      refine own_via (T' := T) (g' := (mkF m 29 #[.val (.int p0), .val (.int p1), .val (.int ch), .val (.ref wRESOURCE), .unset] [(.int ch)])) (fun t_ k_ => XS.iloadN X.here hx rfl (hb hby at_28) rfl k_) ?_
      refine own_via (T' := T) (g' := (mkF m 31 #[.val (.int p0), .val (.int p1), .val (.int ch), .val (.ref wRESOURCE), .unset] [(.int (48 : Int32)), (.int ch)])) (fun t_ k_ => XS.bipush X.here hx rfl (hb hby at_29) k_) ?_
      refine own_via (T' := T) (g' := (mkF m 34 #[.val (.int p0), .val (.int p1), .val (.int ch), .val (.ref wRESOURCE), .unset] [])) (fun t_ k_ => XS.icmpNo X.here hx rfl (hb hby at_31) rfl (teq hc2).2 k_) ?_
      obtain ⟨T, X, eT, st⟩ := getS2 X hx hZ hown (host := "") (Or.inl (hw _ (List.mem_of_getElem? (i := 16) rfl))) Via.refl eT (S_RESOURCE.ext O.2) (g := (mkF m 34 #[.val (.int p0), .val (.int p1), .val (.int ch), .val (.ref wRESOURCE), .unset] [])) rfl (hb hby at_34)
      refine own_via (g' := (mkF m 37 #[.val (.int p0), .val (.int p1), .val (.int ch), .val (.ref wRESOURCE), .unset] [(.ref wRESOURCE)])) st ?_
      refine own_via (T' := T) (g' := (mkF m 39 #[.val (.int p0), .val (.int p1), .val (.int ch), .val (.ref wRESOURCE), .val (.ref wRESOURCE)] [])) (fun t_ k_ => XS.astore X.here hx rfl (hb hby at_37) rfl rfl (l' := #[.val (.int p0), .val (.int p1), .val (.int ch), .val (.ref wRESOURCE), .val (.ref wRESOURCE)]) rfl k_) ?_
      refine own_via (T' := T) (g' := (mkF m 75 #[.val (.int p0), .val (.int p1), .val (.int ch), .val (.ref wRESOURCE), .val (.ref wRESOURCE)] [])) (fun t_ k_ => XS.goto X.here hx rfl (pc0 := 39) (pc' := 75) rfl (hb hby at_39) (by decide) (by decide) k_) ?_
      refine own_via (T' := T) (g' := (mkF m 76 #[.val (.int p0), .val (.int p1), .val (.int ch), .val (.ref wRESOURCE), .val (.ref wRESOURCE)] [(.ref wRESOURCE)])) (fun t_ k_ => XS.aloadN X.here hx rfl (hb hby at_75) rfl rfl k_) ?_
      refine own_via (T' := T) (g' := (mkF m 78 #[.val (.int p0), .val (.int p1), .val (.int ch), .val (.ref wRESOURCE), .val (.ref wRESOURCE)] [(.ref wRESOURCE), (.ref wRESOURCE)])) (fun t_ k_ => XS.aload X.here hx rfl (hb hby at_76) rfl rfl k_) ?_
      refine own_via (T' := T) (g' := (mkF m 81 #[.val (.int p0), .val (.int p1), .val (.int ch), .val (.ref wRESOURCE), .val (.ref wRESOURCE)] [])) (fun t_ k_ => Jvm.RoadKit.acmp (g := (mkF m 78 #[.val (.int p0), .val (.int p1), .val (.int ch), .val (.ref wRESOURCE), .val (.ref wRESOURCE)] [(.ref wRESOURCE), (.ref wRESOURCE)])) X hx rfl rfl rfl (pc0 := 78) (pc' := 81) (same := true) rfl (hb hby at_78) rfl (decide_eq_true rfl) (by decide) (by decide) k_) ?_
      refine own_via (T' := T) (g' := (mkF m 82 #[.val (.int p0), .val (.int p1), .val (.int ch), .val (.ref wRESOURCE), .val (.ref wRESOURCE)] [(.int (1 : Int32))])) (fun t_ k_ => XS.iconst X.here hx rfl (hb hby at_81) k_) ?_
      refine own_via (T' := T) (g' := (mkF m 86 #[.val (.int p0), .val (.int p1), .val (.int ch), .val (.ref wRESOURCE), .val (.ref wRESOURCE)] [(.int (1 : Int32))])) (fun t_ k_ => XS.goto X.here hx rfl (pc0 := 82) (pc' := 86) rfl (hb hby at_82) (by decide) (by decide) k_) ?_
      refine own_retN X hx hlk (t := .boolean) Bd.returns (by simp) (hb hby at_86) (by decide) (by decide) ?_
      rw [eT]
      exact ⟨rfl, N, trivial⟩
    · by_cases hc3 : ch = (49 : Int32)
      · have hr : (ch = 48 → wVERSION_OF_RESOURCE = wRESOURCE) ∧ (ch = 49 → wVERSION_OF_RESOURCE = wVERSION_OF_RESOURCE) ∧ (ch = 50 → wVERSION_OF_RESOURCE = wRELATED_RESOURCE) ∧ (¬ ch = 48 → ¬ ch = 49 → ¬ ch = 50 → wVERSION_OF_RESOURCE = wNO_INFORMATION_PROVIDED) := by
          refine ⟨fun q => ?_, fun q => ?_, fun q => ?_, fun q1 q2 q3 => ?_⟩ <;> first | rfl | (exact absurd hc3 ‹_›) | (rw [hc3] at q; exact absurd q (by decide))
        obtain ⟨_, _, ⟨T, Lq, kq, nq⟩, -, X, ⟨Lc, hQ, lq, yq, zq⟩, st⟩ := Jvm.LawKit.callS X hx (y := (⟨"com/example/accessio/accessio/model/ElectronicLocation$Relationship", "of", "(C)Lcom/example/accessio/accessio/model/ElectronicLocation$Relationship;"⟩ : MethodName)) hown (mvT hZ (hw _ (List.mem_of_getElem? (i := 1) rfl))) (mvT hZ (hw _ (List.mem_of_getElem? (i := 2) rfl))) (mvT hZ (hw _ (List.mem_of_getElem? (i := 3) rfl))) (mvT hZ (hw _ (List.mem_of_getElem? (i := 4) rfl))) (by decide) (backOf (W := 0) (own_of l Z a0 hw [] ch wRESOURCE wVERSION_OF_RESOURCE wRELATED_RESOURCE wNO_INFORMATION_PROVIDED wVERSION_OF_RESOURCE h n0 O S_RESOURCE S_VERSION_OF_RESOURCE S_RELATED_RESOURCE S_NO_INFORMATION_PROVIDED hr) hZ (hw _ (List.mem_of_getElem? (i := 4) rfl)) (hw _ (List.mem_of_getElem? (i := 3) rfl)) (by decide) (by decide)) (g := (mkF m 24 #[.val (.int p0), .val (.int p1), .val (.int ch), .unset, .unset] [(.int ch)])) rfl (by rw [hml]; rfl) (argsL := [(.int ch)]) (rest := []) (lenOf own_pd0 rfl) rfl (by show 2 * 0 + _ ≤ _; exact Nat.le_of_eq rfl) (hb hby at_24) (fun _ _ => ⟨rfl, eT, (by decide : 0 + 0 ≤ _), (by decide : 0 + 0 ≤ _)⟩)
        dsimp only [Pt.U, Pt.locs, Pt.cells, Pt.slots] at X lq yq zq st hQ
        subst lq yq zq
        obtain ⟨rfl, Nq, eT⟩ := hQ
        replace N := Fr.app N Nq
        refine own_via (g' := (mkF m 27 #[.val (.int p0), .val (.int p1), .val (.int ch), .unset, .unset] [(.ref wVERSION_OF_RESOURCE)])) st ?_
        refine own_via (T' := T) (g' := (mkF m 28 #[.val (.int p0), .val (.int p1), .val (.int ch), .val (.ref wVERSION_OF_RESOURCE), .unset] [])) (fun t_ k_ => XS.astoreN X.here hx rfl (hb hby at_27) rfl rfl (l' := #[.val (.int p0), .val (.int p1), .val (.int ch), .val (.ref wVERSION_OF_RESOURCE), .unset]) rfl k_) ?_
        refine own_via (T' := T) (g' := (mkF m 29 #[.val (.int p0), .val (.int p1), .val (.int ch), .val (.ref wVERSION_OF_RESOURCE), .unset] [(.int ch)])) (fun t_ k_ => XS.iloadN X.here hx rfl (hb hby at_28) rfl k_) ?_
        refine own_via (T' := T) (g' := (mkF m 31 #[.val (.int p0), .val (.int p1), .val (.int ch), .val (.ref wVERSION_OF_RESOURCE), .unset] [(.int (48 : Int32)), (.int ch)])) (fun t_ k_ => XS.bipush X.here hx rfl (hb hby at_29) k_) ?_
        refine own_via (T' := T) (g' := (mkF m 42 #[.val (.int p0), .val (.int p1), .val (.int ch), .val (.ref wVERSION_OF_RESOURCE), .unset] [])) (fun t_ k_ => XS.icmpYes X.here hx rfl (pc0 := 31) (pc' := 42) rfl (hb hby at_31) rfl (feq hc2).2 (by decide) (by decide) k_) ?_
        refine own_via (T' := T) (g' := (mkF m 43 #[.val (.int p0), .val (.int p1), .val (.int ch), .val (.ref wVERSION_OF_RESOURCE), .unset] [(.int ch)])) (fun t_ k_ => XS.iloadN X.here hx rfl (hb hby at_42) rfl k_) ?_
        refine own_via (T' := T) (g' := (mkF m 45 #[.val (.int p0), .val (.int p1), .val (.int ch), .val (.ref wVERSION_OF_RESOURCE), .unset] [(.int (49 : Int32)), (.int ch)])) (fun t_ k_ => XS.bipush X.here hx rfl (hb hby at_43) k_) ?_
        refine own_via (T' := T) (g' := (mkF m 48 #[.val (.int p0), .val (.int p1), .val (.int ch), .val (.ref wVERSION_OF_RESOURCE), .unset] [])) (fun t_ k_ => XS.icmpNo X.here hx rfl (hb hby at_45) rfl (teq hc3).2 k_) ?_
        obtain ⟨T, X, eT, st⟩ := getS2 X hx hZ hown (host := "") (Or.inl (hw _ (List.mem_of_getElem? (i := 13) rfl))) Via.refl eT (S_VERSION_OF_RESOURCE.ext O.2) (g := (mkF m 48 #[.val (.int p0), .val (.int p1), .val (.int ch), .val (.ref wVERSION_OF_RESOURCE), .unset] [])) rfl (hb hby at_48)
        refine own_via (g' := (mkF m 51 #[.val (.int p0), .val (.int p1), .val (.int ch), .val (.ref wVERSION_OF_RESOURCE), .unset] [(.ref wVERSION_OF_RESOURCE)])) st ?_
        refine own_via (T' := T) (g' := (mkF m 53 #[.val (.int p0), .val (.int p1), .val (.int ch), .val (.ref wVERSION_OF_RESOURCE), .val (.ref wVERSION_OF_RESOURCE)] [])) (fun t_ k_ => XS.astore X.here hx rfl (hb hby at_51) rfl rfl (l' := #[.val (.int p0), .val (.int p1), .val (.int ch), .val (.ref wVERSION_OF_RESOURCE), .val (.ref wVERSION_OF_RESOURCE)]) rfl k_) ?_
        refine own_via (T' := T) (g' := (mkF m 75 #[.val (.int p0), .val (.int p1), .val (.int ch), .val (.ref wVERSION_OF_RESOURCE), .val (.ref wVERSION_OF_RESOURCE)] [])) (fun t_ k_ => XS.goto X.here hx rfl (pc0 := 53) (pc' := 75) rfl (hb hby at_53) (by decide) (by decide) k_) ?_
        refine own_via (T' := T) (g' := (mkF m 76 #[.val (.int p0), .val (.int p1), .val (.int ch), .val (.ref wVERSION_OF_RESOURCE), .val (.ref wVERSION_OF_RESOURCE)] [(.ref wVERSION_OF_RESOURCE)])) (fun t_ k_ => XS.aloadN X.here hx rfl (hb hby at_75) rfl rfl k_) ?_
        refine own_via (T' := T) (g' := (mkF m 78 #[.val (.int p0), .val (.int p1), .val (.int ch), .val (.ref wVERSION_OF_RESOURCE), .val (.ref wVERSION_OF_RESOURCE)] [(.ref wVERSION_OF_RESOURCE), (.ref wVERSION_OF_RESOURCE)])) (fun t_ k_ => XS.aload X.here hx rfl (hb hby at_76) rfl rfl k_) ?_
        refine own_via (T' := T) (g' := (mkF m 81 #[.val (.int p0), .val (.int p1), .val (.int ch), .val (.ref wVERSION_OF_RESOURCE), .val (.ref wVERSION_OF_RESOURCE)] [])) (fun t_ k_ => Jvm.RoadKit.acmp (g := (mkF m 78 #[.val (.int p0), .val (.int p1), .val (.int ch), .val (.ref wVERSION_OF_RESOURCE), .val (.ref wVERSION_OF_RESOURCE)] [(.ref wVERSION_OF_RESOURCE), (.ref wVERSION_OF_RESOURCE)])) X hx rfl rfl rfl (pc0 := 78) (pc' := 81) (same := true) rfl (hb hby at_78) rfl (decide_eq_true rfl) (by decide) (by decide) k_) ?_
        refine own_via (T' := T) (g' := (mkF m 82 #[.val (.int p0), .val (.int p1), .val (.int ch), .val (.ref wVERSION_OF_RESOURCE), .val (.ref wVERSION_OF_RESOURCE)] [(.int (1 : Int32))])) (fun t_ k_ => XS.iconst X.here hx rfl (hb hby at_81) k_) ?_
        refine own_via (T' := T) (g' := (mkF m 86 #[.val (.int p0), .val (.int p1), .val (.int ch), .val (.ref wVERSION_OF_RESOURCE), .val (.ref wVERSION_OF_RESOURCE)] [(.int (1 : Int32))])) (fun t_ k_ => XS.goto X.here hx rfl (pc0 := 82) (pc' := 86) rfl (hb hby at_82) (by decide) (by decide) k_) ?_
        refine own_retN X hx hlk (t := .boolean) Bd.returns (by simp) (hb hby at_86) (by decide) (by decide) ?_
        rw [eT]
        exact ⟨rfl, N, trivial⟩
      · by_cases hc4 : ch = (50 : Int32)
        · have hr : (ch = 48 → wRELATED_RESOURCE = wRESOURCE) ∧ (ch = 49 → wRELATED_RESOURCE = wVERSION_OF_RESOURCE) ∧ (ch = 50 → wRELATED_RESOURCE = wRELATED_RESOURCE) ∧ (¬ ch = 48 → ¬ ch = 49 → ¬ ch = 50 → wRELATED_RESOURCE = wNO_INFORMATION_PROVIDED) := by
            refine ⟨fun q => ?_, fun q => ?_, fun q => ?_, fun q1 q2 q3 => ?_⟩ <;> first | rfl | (exact absurd hc4 ‹_›) | (rw [hc4] at q; exact absurd q (by decide))
          obtain ⟨_, _, ⟨T, Lq, kq, nq⟩, -, X, ⟨Lc, hQ, lq, yq, zq⟩, st⟩ := Jvm.LawKit.callS X hx (y := (⟨"com/example/accessio/accessio/model/ElectronicLocation$Relationship", "of", "(C)Lcom/example/accessio/accessio/model/ElectronicLocation$Relationship;"⟩ : MethodName)) hown (mvT hZ (hw _ (List.mem_of_getElem? (i := 1) rfl))) (mvT hZ (hw _ (List.mem_of_getElem? (i := 2) rfl))) (mvT hZ (hw _ (List.mem_of_getElem? (i := 3) rfl))) (mvT hZ (hw _ (List.mem_of_getElem? (i := 4) rfl))) (by decide) (backOf (W := 0) (own_of l Z a0 hw [] ch wRESOURCE wVERSION_OF_RESOURCE wRELATED_RESOURCE wNO_INFORMATION_PROVIDED wRELATED_RESOURCE h n0 O S_RESOURCE S_VERSION_OF_RESOURCE S_RELATED_RESOURCE S_NO_INFORMATION_PROVIDED hr) hZ (hw _ (List.mem_of_getElem? (i := 4) rfl)) (hw _ (List.mem_of_getElem? (i := 3) rfl)) (by decide) (by decide)) (g := (mkF m 24 #[.val (.int p0), .val (.int p1), .val (.int ch), .unset, .unset] [(.int ch)])) rfl (by rw [hml]; rfl) (argsL := [(.int ch)]) (rest := []) (lenOf own_pd0 rfl) rfl (by show 2 * 0 + _ ≤ _; exact Nat.le_of_eq rfl) (hb hby at_24) (fun _ _ => ⟨rfl, eT, (by decide : 0 + 0 ≤ _), (by decide : 0 + 0 ≤ _)⟩)
          dsimp only [Pt.U, Pt.locs, Pt.cells, Pt.slots] at X lq yq zq st hQ
          subst lq yq zq
          obtain ⟨rfl, Nq, eT⟩ := hQ
          replace N := Fr.app N Nq
          refine own_via (g' := (mkF m 27 #[.val (.int p0), .val (.int p1), .val (.int ch), .unset, .unset] [(.ref wRELATED_RESOURCE)])) st ?_
          refine own_via (T' := T) (g' := (mkF m 28 #[.val (.int p0), .val (.int p1), .val (.int ch), .val (.ref wRELATED_RESOURCE), .unset] [])) (fun t_ k_ => XS.astoreN X.here hx rfl (hb hby at_27) rfl rfl (l' := #[.val (.int p0), .val (.int p1), .val (.int ch), .val (.ref wRELATED_RESOURCE), .unset]) rfl k_) ?_
          refine own_via (T' := T) (g' := (mkF m 29 #[.val (.int p0), .val (.int p1), .val (.int ch), .val (.ref wRELATED_RESOURCE), .unset] [(.int ch)])) (fun t_ k_ => XS.iloadN X.here hx rfl (hb hby at_28) rfl k_) ?_
          refine own_via (T' := T) (g' := (mkF m 31 #[.val (.int p0), .val (.int p1), .val (.int ch), .val (.ref wRELATED_RESOURCE), .unset] [(.int (48 : Int32)), (.int ch)])) (fun t_ k_ => XS.bipush X.here hx rfl (hb hby at_29) k_) ?_
          refine own_via (T' := T) (g' := (mkF m 42 #[.val (.int p0), .val (.int p1), .val (.int ch), .val (.ref wRELATED_RESOURCE), .unset] [])) (fun t_ k_ => XS.icmpYes X.here hx rfl (pc0 := 31) (pc' := 42) rfl (hb hby at_31) rfl (feq hc2).2 (by decide) (by decide) k_) ?_
          refine own_via (T' := T) (g' := (mkF m 43 #[.val (.int p0), .val (.int p1), .val (.int ch), .val (.ref wRELATED_RESOURCE), .unset] [(.int ch)])) (fun t_ k_ => XS.iloadN X.here hx rfl (hb hby at_42) rfl k_) ?_
          refine own_via (T' := T) (g' := (mkF m 45 #[.val (.int p0), .val (.int p1), .val (.int ch), .val (.ref wRELATED_RESOURCE), .unset] [(.int (49 : Int32)), (.int ch)])) (fun t_ k_ => XS.bipush X.here hx rfl (hb hby at_43) k_) ?_
          refine own_via (T' := T) (g' := (mkF m 56 #[.val (.int p0), .val (.int p1), .val (.int ch), .val (.ref wRELATED_RESOURCE), .unset] [])) (fun t_ k_ => XS.icmpYes X.here hx rfl (pc0 := 45) (pc' := 56) rfl (hb hby at_45) rfl (feq hc3).2 (by decide) (by decide) k_) ?_
          refine own_via (T' := T) (g' := (mkF m 57 #[.val (.int p0), .val (.int p1), .val (.int ch), .val (.ref wRELATED_RESOURCE), .unset] [(.int ch)])) (fun t_ k_ => XS.iloadN X.here hx rfl (hb hby at_56) rfl k_) ?_
          refine own_via (T' := T) (g' := (mkF m 59 #[.val (.int p0), .val (.int p1), .val (.int ch), .val (.ref wRELATED_RESOURCE), .unset] [(.int (50 : Int32)), (.int ch)])) (fun t_ k_ => XS.bipush X.here hx rfl (hb hby at_57) k_) ?_
          refine own_via (T' := T) (g' := (mkF m 62 #[.val (.int p0), .val (.int p1), .val (.int ch), .val (.ref wRELATED_RESOURCE), .unset] [])) (fun t_ k_ => XS.icmpNo X.here hx rfl (hb hby at_59) rfl (teq hc4).2 k_) ?_
          obtain ⟨T, X, eT, st⟩ := getS2 X hx hZ hown (host := "") (Or.inl (hw _ (List.mem_of_getElem? (i := 10) rfl))) Via.refl eT (S_RELATED_RESOURCE.ext O.2) (g := (mkF m 62 #[.val (.int p0), .val (.int p1), .val (.int ch), .val (.ref wRELATED_RESOURCE), .unset] [])) rfl (hb hby at_62)
          refine own_via (g' := (mkF m 65 #[.val (.int p0), .val (.int p1), .val (.int ch), .val (.ref wRELATED_RESOURCE), .unset] [(.ref wRELATED_RESOURCE)])) st ?_
          refine own_via (T' := T) (g' := (mkF m 67 #[.val (.int p0), .val (.int p1), .val (.int ch), .val (.ref wRELATED_RESOURCE), .val (.ref wRELATED_RESOURCE)] [])) (fun t_ k_ => XS.astore X.here hx rfl (hb hby at_65) rfl rfl (l' := #[.val (.int p0), .val (.int p1), .val (.int ch), .val (.ref wRELATED_RESOURCE), .val (.ref wRELATED_RESOURCE)]) rfl k_) ?_
          refine own_via (T' := T) (g' := (mkF m 75 #[.val (.int p0), .val (.int p1), .val (.int ch), .val (.ref wRELATED_RESOURCE), .val (.ref wRELATED_RESOURCE)] [])) (fun t_ k_ => XS.goto X.here hx rfl (pc0 := 67) (pc' := 75) rfl (hb hby at_67) (by decide) (by decide) k_) ?_
          refine own_via (T' := T) (g' := (mkF m 76 #[.val (.int p0), .val (.int p1), .val (.int ch), .val (.ref wRELATED_RESOURCE), .val (.ref wRELATED_RESOURCE)] [(.ref wRELATED_RESOURCE)])) (fun t_ k_ => XS.aloadN X.here hx rfl (hb hby at_75) rfl rfl k_) ?_
          refine own_via (T' := T) (g' := (mkF m 78 #[.val (.int p0), .val (.int p1), .val (.int ch), .val (.ref wRELATED_RESOURCE), .val (.ref wRELATED_RESOURCE)] [(.ref wRELATED_RESOURCE), (.ref wRELATED_RESOURCE)])) (fun t_ k_ => XS.aload X.here hx rfl (hb hby at_76) rfl rfl k_) ?_
          refine own_via (T' := T) (g' := (mkF m 81 #[.val (.int p0), .val (.int p1), .val (.int ch), .val (.ref wRELATED_RESOURCE), .val (.ref wRELATED_RESOURCE)] [])) (fun t_ k_ => Jvm.RoadKit.acmp (g := (mkF m 78 #[.val (.int p0), .val (.int p1), .val (.int ch), .val (.ref wRELATED_RESOURCE), .val (.ref wRELATED_RESOURCE)] [(.ref wRELATED_RESOURCE), (.ref wRELATED_RESOURCE)])) X hx rfl rfl rfl (pc0 := 78) (pc' := 81) (same := true) rfl (hb hby at_78) rfl (decide_eq_true rfl) (by decide) (by decide) k_) ?_
          refine own_via (T' := T) (g' := (mkF m 82 #[.val (.int p0), .val (.int p1), .val (.int ch), .val (.ref wRELATED_RESOURCE), .val (.ref wRELATED_RESOURCE)] [(.int (1 : Int32))])) (fun t_ k_ => XS.iconst X.here hx rfl (hb hby at_81) k_) ?_
          refine own_via (T' := T) (g' := (mkF m 86 #[.val (.int p0), .val (.int p1), .val (.int ch), .val (.ref wRELATED_RESOURCE), .val (.ref wRELATED_RESOURCE)] [(.int (1 : Int32))])) (fun t_ k_ => XS.goto X.here hx rfl (pc0 := 82) (pc' := 86) rfl (hb hby at_82) (by decide) (by decide) k_) ?_
          refine own_retN X hx hlk (t := .boolean) Bd.returns (by simp) (hb hby at_86) (by decide) (by decide) ?_
          rw [eT]
          exact ⟨rfl, N, trivial⟩
        · have hr : (ch = 48 → wNO_INFORMATION_PROVIDED = wRESOURCE) ∧ (ch = 49 → wNO_INFORMATION_PROVIDED = wVERSION_OF_RESOURCE) ∧ (ch = 50 → wNO_INFORMATION_PROVIDED = wRELATED_RESOURCE) ∧ (¬ ch = 48 → ¬ ch = 49 → ¬ ch = 50 → wNO_INFORMATION_PROVIDED = wNO_INFORMATION_PROVIDED) := ⟨fun q => absurd q hc2, fun q => absurd q hc3, fun q => absurd q hc4, fun _ _ _ => rfl⟩
          obtain ⟨_, _, ⟨T, Lq, kq, nq⟩, -, X, ⟨Lc, hQ, lq, yq, zq⟩, st⟩ := Jvm.LawKit.callS X hx (y := (⟨"com/example/accessio/accessio/model/ElectronicLocation$Relationship", "of", "(C)Lcom/example/accessio/accessio/model/ElectronicLocation$Relationship;"⟩ : MethodName)) hown (mvT hZ (hw _ (List.mem_of_getElem? (i := 1) rfl))) (mvT hZ (hw _ (List.mem_of_getElem? (i := 2) rfl))) (mvT hZ (hw _ (List.mem_of_getElem? (i := 3) rfl))) (mvT hZ (hw _ (List.mem_of_getElem? (i := 4) rfl))) (by decide) (backOf (W := 0) (own_of l Z a0 hw [] ch wRESOURCE wVERSION_OF_RESOURCE wRELATED_RESOURCE wNO_INFORMATION_PROVIDED wNO_INFORMATION_PROVIDED h n0 O S_RESOURCE S_VERSION_OF_RESOURCE S_RELATED_RESOURCE S_NO_INFORMATION_PROVIDED hr) hZ (hw _ (List.mem_of_getElem? (i := 4) rfl)) (hw _ (List.mem_of_getElem? (i := 3) rfl)) (by decide) (by decide)) (g := (mkF m 24 #[.val (.int p0), .val (.int p1), .val (.int ch), .unset, .unset] [(.int ch)])) rfl (by rw [hml]; rfl) (argsL := [(.int ch)]) (rest := []) (lenOf own_pd0 rfl) rfl (by show 2 * 0 + _ ≤ _; exact Nat.le_of_eq rfl) (hb hby at_24) (fun _ _ => ⟨rfl, eT, (by decide : 0 + 0 ≤ _), (by decide : 0 + 0 ≤ _)⟩)
          dsimp only [Pt.U, Pt.locs, Pt.cells, Pt.slots] at X lq yq zq st hQ
          subst lq yq zq
          obtain ⟨rfl, Nq, eT⟩ := hQ
          replace N := Fr.app N Nq
          refine own_via (g' := (mkF m 27 #[.val (.int p0), .val (.int p1), .val (.int ch), .unset, .unset] [(.ref wNO_INFORMATION_PROVIDED)])) st ?_
          refine own_via (T' := T) (g' := (mkF m 28 #[.val (.int p0), .val (.int p1), .val (.int ch), .val (.ref wNO_INFORMATION_PROVIDED), .unset] [])) (fun t_ k_ => XS.astoreN X.here hx rfl (hb hby at_27) rfl rfl (l' := #[.val (.int p0), .val (.int p1), .val (.int ch), .val (.ref wNO_INFORMATION_PROVIDED), .unset]) rfl k_) ?_
          refine own_via (T' := T) (g' := (mkF m 29 #[.val (.int p0), .val (.int p1), .val (.int ch), .val (.ref wNO_INFORMATION_PROVIDED), .unset] [(.int ch)])) (fun t_ k_ => XS.iloadN X.here hx rfl (hb hby at_28) rfl k_) ?_
          refine own_via (T' := T) (g' := (mkF m 31 #[.val (.int p0), .val (.int p1), .val (.int ch), .val (.ref wNO_INFORMATION_PROVIDED), .unset] [(.int (48 : Int32)), (.int ch)])) (fun t_ k_ => XS.bipush X.here hx rfl (hb hby at_29) k_) ?_
          refine own_via (T' := T) (g' := (mkF m 42 #[.val (.int p0), .val (.int p1), .val (.int ch), .val (.ref wNO_INFORMATION_PROVIDED), .unset] [])) (fun t_ k_ => XS.icmpYes X.here hx rfl (pc0 := 31) (pc' := 42) rfl (hb hby at_31) rfl (feq hc2).2 (by decide) (by decide) k_) ?_
          refine own_via (T' := T) (g' := (mkF m 43 #[.val (.int p0), .val (.int p1), .val (.int ch), .val (.ref wNO_INFORMATION_PROVIDED), .unset] [(.int ch)])) (fun t_ k_ => XS.iloadN X.here hx rfl (hb hby at_42) rfl k_) ?_
          refine own_via (T' := T) (g' := (mkF m 45 #[.val (.int p0), .val (.int p1), .val (.int ch), .val (.ref wNO_INFORMATION_PROVIDED), .unset] [(.int (49 : Int32)), (.int ch)])) (fun t_ k_ => XS.bipush X.here hx rfl (hb hby at_43) k_) ?_
          refine own_via (T' := T) (g' := (mkF m 56 #[.val (.int p0), .val (.int p1), .val (.int ch), .val (.ref wNO_INFORMATION_PROVIDED), .unset] [])) (fun t_ k_ => XS.icmpYes X.here hx rfl (pc0 := 45) (pc' := 56) rfl (hb hby at_45) rfl (feq hc3).2 (by decide) (by decide) k_) ?_
          refine own_via (T' := T) (g' := (mkF m 57 #[.val (.int p0), .val (.int p1), .val (.int ch), .val (.ref wNO_INFORMATION_PROVIDED), .unset] [(.int ch)])) (fun t_ k_ => XS.iloadN X.here hx rfl (hb hby at_56) rfl k_) ?_
          refine own_via (T' := T) (g' := (mkF m 59 #[.val (.int p0), .val (.int p1), .val (.int ch), .val (.ref wNO_INFORMATION_PROVIDED), .unset] [(.int (50 : Int32)), (.int ch)])) (fun t_ k_ => XS.bipush X.here hx rfl (hb hby at_57) k_) ?_
          refine own_via (T' := T) (g' := (mkF m 70 #[.val (.int p0), .val (.int p1), .val (.int ch), .val (.ref wNO_INFORMATION_PROVIDED), .unset] [])) (fun t_ k_ => XS.icmpYes X.here hx rfl (pc0 := 59) (pc' := 70) rfl (hb hby at_59) rfl (feq hc4).2 (by decide) (by decide) k_) ?_
          obtain ⟨T, X, eT, st⟩ := getS2 X hx hZ hown (host := "") (Or.inl (hw _ (List.mem_of_getElem? (i := 7) rfl))) Via.refl eT (S_NO_INFORMATION_PROVIDED.ext O.2) (g := (mkF m 70 #[.val (.int p0), .val (.int p1), .val (.int ch), .val (.ref wNO_INFORMATION_PROVIDED), .unset] [])) rfl (hb hby at_70)
          refine own_via (g' := (mkF m 73 #[.val (.int p0), .val (.int p1), .val (.int ch), .val (.ref wNO_INFORMATION_PROVIDED), .unset] [(.ref wNO_INFORMATION_PROVIDED)])) st ?_
          refine own_via (T' := T) (g' := (mkF m 75 #[.val (.int p0), .val (.int p1), .val (.int ch), .val (.ref wNO_INFORMATION_PROVIDED), .val (.ref wNO_INFORMATION_PROVIDED)] [])) (fun t_ k_ => XS.astore X.here hx rfl (hb hby at_73) rfl rfl (l' := #[.val (.int p0), .val (.int p1), .val (.int ch), .val (.ref wNO_INFORMATION_PROVIDED), .val (.ref wNO_INFORMATION_PROVIDED)]) rfl k_) ?_
          refine own_via (T' := T) (g' := (mkF m 76 #[.val (.int p0), .val (.int p1), .val (.int ch), .val (.ref wNO_INFORMATION_PROVIDED), .val (.ref wNO_INFORMATION_PROVIDED)] [(.ref wNO_INFORMATION_PROVIDED)])) (fun t_ k_ => XS.aloadN X.here hx rfl (hb hby at_75) rfl rfl k_) ?_
          refine own_via (T' := T) (g' := (mkF m 78 #[.val (.int p0), .val (.int p1), .val (.int ch), .val (.ref wNO_INFORMATION_PROVIDED), .val (.ref wNO_INFORMATION_PROVIDED)] [(.ref wNO_INFORMATION_PROVIDED), (.ref wNO_INFORMATION_PROVIDED)])) (fun t_ k_ => XS.aload X.here hx rfl (hb hby at_76) rfl rfl k_) ?_
          refine own_via (T' := T) (g' := (mkF m 81 #[.val (.int p0), .val (.int p1), .val (.int ch), .val (.ref wNO_INFORMATION_PROVIDED), .val (.ref wNO_INFORMATION_PROVIDED)] [])) (fun t_ k_ => Jvm.RoadKit.acmp (g := (mkF m 78 #[.val (.int p0), .val (.int p1), .val (.int ch), .val (.ref wNO_INFORMATION_PROVIDED), .val (.ref wNO_INFORMATION_PROVIDED)] [(.ref wNO_INFORMATION_PROVIDED), (.ref wNO_INFORMATION_PROVIDED)])) X hx rfl rfl rfl (pc0 := 78) (pc' := 81) (same := true) rfl (hb hby at_78) rfl (decide_eq_true rfl) (by decide) (by decide) k_) ?_
          refine own_via (T' := T) (g' := (mkF m 82 #[.val (.int p0), .val (.int p1), .val (.int ch), .val (.ref wNO_INFORMATION_PROVIDED), .val (.ref wNO_INFORMATION_PROVIDED)] [(.int (1 : Int32))])) (fun t_ k_ => XS.iconst X.here hx rfl (hb hby at_81) k_) ?_
          refine own_via (T' := T) (g' := (mkF m 86 #[.val (.int p0), .val (.int p1), .val (.int ch), .val (.ref wNO_INFORMATION_PROVIDED), .val (.ref wNO_INFORMATION_PROVIDED)] [(.int (1 : Int32))])) (fun t_ k_ => XS.goto X.here hx rfl (pc0 := 82) (pc' := 86) rfl (hb hby at_82) (by decide) (by decide) k_) ?_
          refine own_retN X hx hlk (t := .boolean) Bd.returns (by simp) (hb hby at_86) (by decide) (by decide) ?_
          rw [eT]
          exact ⟨rfl, N, trivial⟩
  · refine own_via (T' := T) (g' := (mkF m 6 #[.val (.int p0), .val (.int p1), .unset, .unset, .unset] [])) (fun t_ k_ => XS.ifNo X.here hx rfl (hb hby at_3) rfl ((if0 _ _).trans (feq hc1).1) k_) ?_
    refine own_via (T' := T) (g' := (mkF m 8 #[.val (.int p0), .val (.int p1), .unset, .unset, .unset] [(.int (47 : Int32))])) (fun t_ k_ => XS.bipush X.here hx rfl (hb hby at_6) k_) ?_
    refine own_via (T' := T) (g' := (mkF m 9 #[.val (.int p0), .val (.int p1), .unset, .unset, .unset] [(.int p0), (.int (47 : Int32))])) (fun t_ k_ => XS.iloadN X.here hx rfl (hb hby at_8) rfl k_) ?_
    refine own_via (T' := T) (g' := (mkF m 11 #[.val (.int p0), .val (.int p1), .unset, .unset, .unset] [(.int (2147483647 : Int32)), (.int p0), (.int (47 : Int32))])) (fun t_ k_ => X.ldcInt hx hown (mvT hZ (hw _ (List.mem_of_getElem? (i := 0) rfl))) (g := (mkF m 9 #[.val (.int p0), .val (.int p1), .unset, .unset, .unset] [(.int p0), (.int (47 : Int32))])) rfl (hb hby at_9) _ k_) ?_
    refine own_via (T' := T) (g' := (mkF m 12 #[.val (.int p0), .val (.int p1), .unset, .unset, .unset] [(.int (p0 &&& (2147483647 : Int32))), (.int (47 : Int32))])) (fun t_ k_ => XS.iand X.here hx rfl (hb hby at_11) rfl k_) ?_
    refine own_via (T' := T) (g' := (mkF m 13 #[.val (.int p0), .val (.int p1), .unset, .unset, .unset] [(.int (5 : Int32)), (.int (p0 &&& (2147483647 : Int32))), (.int (47 : Int32))])) (fun t_ k_ => XS.iconst X.here hx rfl (hb hby at_12) k_) ?_
    refine own_via (T' := T) (g' := (mkF m 14 #[.val (.int p0), .val (.int p1), .unset, .unset, .unset] [(.int ((p0 &&& (2147483647 : Int32)) % (5 : Int32))), (.int (47 : Int32))])) (fun t_ k_ => iremM (g := (mkF m 13 #[.val (.int p0), .val (.int p1), .unset, .unset, .unset] [(.int (5 : Int32)), (.int (p0 &&& (2147483647 : Int32))), (.int (47 : Int32))])) X hx rfl (hb hby at_13) rfl (by decide) k_) ?_
    refine own_via (T' := T) (g' := (mkF m 15 #[.val (.int p0), .val (.int p1), .unset, .unset, .unset] [(.int ((47 : Int32) + ((p0 &&& (2147483647 : Int32)) % (5 : Int32))))])) (fun t_ k_ => XS.iadd X.here hx rfl (hb hby at_14) rfl k_) ?_
    refine own_via (T' := T) (g' := (mkF m 16 #[.val (.int p0), .val (.int p1), .unset, .unset, .unset] [(.int (((47 : Int32) + ((p0 &&& (2147483647 : Int32)) % (5 : Int32))).toUInt32.toUInt16.toUInt32.toInt32))])) (fun t_ k_ => XS.i2c X.here hx rfl (hb hby at_15) rfl k_) ?_
    refine own_via (T' := T) (g' := (mkF m 17 #[.val (.int p0), .val (.int p1), .val (.int (((47 : Int32) + ((p0 &&& (2147483647 : Int32)) % (5 : Int32))).toUInt32.toUInt16.toUInt32.toInt32)), .unset, .unset] [])) (fun t_ k_ => XS.istoreN X.here hx rfl (hb hby at_16) rfl (l' := #[.val (.int p0), .val (.int p1), .val (.int (((47 : Int32) + ((p0 &&& (2147483647 : Int32)) % (5 : Int32))).toUInt32.toUInt16.toUInt32.toInt32)), .unset, .unset]) rfl k_) ?_
    refine own_via (T' := T) (g' := (mkF m 23 #[.val (.int p0), .val (.int p1), .val (.int (((47 : Int32) + ((p0 &&& (2147483647 : Int32)) % (5 : Int32))).toUInt32.toUInt16.toUInt32.toInt32)), .unset, .unset] [])) (fun t_ k_ => XS.goto X.here hx rfl (pc0 := 17) (pc' := 23) rfl (hb hby at_17) (by decide) (by decide) k_) ?_
    obtain ⟨ch, hd_ch⟩ : ∃ z, z = (((47 : Int32) + ((p0 &&& (2147483647 : Int32)) % (5 : Int32))).toUInt32.toUInt16.toUInt32.toInt32) := ⟨_, rfl⟩
    rw [← hd_ch]
    refine own_via (T' := T) (g' := (mkF m 24 #[.val (.int p0), .val (.int p1), .val (.int ch), .unset, .unset] [(.int ch)])) (fun t_ k_ => XS.iloadN X.here hx rfl (hb hby at_23) rfl k_) ?_
    by_cases hc5 : ch = (48 : Int32)
    · have hr : (ch = 48 → wRESOURCE = wRESOURCE) ∧ (ch = 49 → wRESOURCE = wVERSION_OF_RESOURCE) ∧ (ch = 50 → wRESOURCE = wRELATED_RESOURCE) ∧ (¬ ch = 48 → ¬ ch = 49 → ¬ ch = 50 → wRESOURCE = wNO_INFORMATION_PROVIDED) := by
        refine ⟨fun q => ?_, fun q => ?_, fun q => ?_, fun q1 q2 q3 => ?_⟩ <;> first | rfl | (exact absurd hc5 ‹_›) | (rw [hc5] at q; exact absurd q (by decide))
      obtain ⟨_, _, ⟨T, Lq, kq, nq⟩, -, X, ⟨Lc, hQ, lq, yq, zq⟩, st⟩ := Jvm.LawKit.callS X hx (y := (⟨"com/example/accessio/accessio/model/ElectronicLocation$Relationship", "of", "(C)Lcom/example/accessio/accessio/model/ElectronicLocation$Relationship;"⟩ : MethodName)) hown (mvT hZ (hw _ (List.mem_of_getElem? (i := 1) rfl))) (mvT hZ (hw _ (List.mem_of_getElem? (i := 2) rfl))) (mvT hZ (hw _ (List.mem_of_getElem? (i := 3) rfl))) (mvT hZ (hw _ (List.mem_of_getElem? (i := 4) rfl))) (by decide) (backOf (W := 0) (own_of l Z a0 hw [] ch wRESOURCE wVERSION_OF_RESOURCE wRELATED_RESOURCE wNO_INFORMATION_PROVIDED wRESOURCE h n0 O S_RESOURCE S_VERSION_OF_RESOURCE S_RELATED_RESOURCE S_NO_INFORMATION_PROVIDED hr) hZ (hw _ (List.mem_of_getElem? (i := 4) rfl)) (hw _ (List.mem_of_getElem? (i := 3) rfl)) (by decide) (by decide)) (g := (mkF m 24 #[.val (.int p0), .val (.int p1), .val (.int ch), .unset, .unset] [(.int ch)])) rfl (by rw [hml]; rfl) (argsL := [(.int ch)]) (rest := []) (lenOf own_pd0 rfl) rfl (by show 2 * 0 + _ ≤ _; exact Nat.le_of_eq rfl) (hb hby at_24) (fun _ _ => ⟨rfl, eT, (by decide : 0 + 0 ≤ _), (by decide : 0 + 0 ≤ _)⟩)
      dsimp only [Pt.U, Pt.locs, Pt.cells, Pt.slots] at X lq yq zq st hQ
      subst lq yq zq
      obtain ⟨rfl, Nq, eT⟩ := hQ
      replace N := Fr.app N Nq
      refine own_via (g' := (mkF m 27 #[.val (.int p0), .val (.int p1), .val (.int ch), .unset, .unset] [(.ref wRESOURCE)])) st ?_
      refine own_via (T' := T) (g' := (mkF m 28 #[.val (.int p0), .val (.int p1), .val (.int ch), .val (.ref wRESOURCE), .unset] [])) (fun t_ k_ => XS.astoreN X.here hx rfl (hb hby at_27) rfl rfl (l' := #[.val (.int p0), .val (.int p1), .val (.int ch), .val (.ref wRESOURCE), .unset]) rfl k_) ?_
      refine own_via (T' := T) (g' := (mkF m 29 #[.val (.int p0), .val (.int p1), .val (.int ch), .val (.ref wRESOURCE), .unset] [(.int ch)])) (fun t_ k_ => XS.iloadN X.here hx rfl (hb hby at_28) rfl k_) ?_
      refine own_via (T' := T) (g' := (mkF m 31 #[.val (.int p0), .val (.int p1), .val (.int ch), .val (.ref wRESOURCE), .unset] [(.int (48 : Int32)), (.int ch)])) (fun t_ k_ => XS.bipush X.here hx rfl (hb hby at_29) k_) ?_
      refine own_via (T' := T) (g' := (mkF m 34 #[.val (.int p0), .val (.int p1), .val (.int ch), .val (.ref wRESOURCE), .unset] [])) (fun t_ k_ => XS.icmpNo X.here hx rfl (hb hby at_31) rfl (teq hc5).2 k_) ?_
      obtain ⟨T, X, eT, st⟩ := getS2 X hx hZ hown (host := "") (Or.inl (hw _ (List.mem_of_getElem? (i := 16) rfl))) Via.refl eT (S_RESOURCE.ext O.2) (g := (mkF m 34 #[.val (.int p0), .val (.int p1), .val (.int ch), .val (.ref wRESOURCE), .unset] [])) rfl (hb hby at_34)
      refine own_via (g' := (mkF m 37 #[.val (.int p0), .val (.int p1), .val (.int ch), .val (.ref wRESOURCE), .unset] [(.ref wRESOURCE)])) st ?_
      refine own_via (T' := T) (g' := (mkF m 39 #[.val (.int p0), .val (.int p1), .val (.int ch), .val (.ref wRESOURCE), .val (.ref wRESOURCE)] [])) (fun t_ k_ => XS.astore X.here hx rfl (hb hby at_37) rfl rfl (l' := #[.val (.int p0), .val (.int p1), .val (.int ch), .val (.ref wRESOURCE), .val (.ref wRESOURCE)]) rfl k_) ?_
      refine own_via (T' := T) (g' := (mkF m 75 #[.val (.int p0), .val (.int p1), .val (.int ch), .val (.ref wRESOURCE), .val (.ref wRESOURCE)] [])) (fun t_ k_ => XS.goto X.here hx rfl (pc0 := 39) (pc' := 75) rfl (hb hby at_39) (by decide) (by decide) k_) ?_
      refine own_via (T' := T) (g' := (mkF m 76 #[.val (.int p0), .val (.int p1), .val (.int ch), .val (.ref wRESOURCE), .val (.ref wRESOURCE)] [(.ref wRESOURCE)])) (fun t_ k_ => XS.aloadN X.here hx rfl (hb hby at_75) rfl rfl k_) ?_
      refine own_via (T' := T) (g' := (mkF m 78 #[.val (.int p0), .val (.int p1), .val (.int ch), .val (.ref wRESOURCE), .val (.ref wRESOURCE)] [(.ref wRESOURCE), (.ref wRESOURCE)])) (fun t_ k_ => XS.aload X.here hx rfl (hb hby at_76) rfl rfl k_) ?_
      refine own_via (T' := T) (g' := (mkF m 81 #[.val (.int p0), .val (.int p1), .val (.int ch), .val (.ref wRESOURCE), .val (.ref wRESOURCE)] [])) (fun t_ k_ => Jvm.RoadKit.acmp (g := (mkF m 78 #[.val (.int p0), .val (.int p1), .val (.int ch), .val (.ref wRESOURCE), .val (.ref wRESOURCE)] [(.ref wRESOURCE), (.ref wRESOURCE)])) X hx rfl rfl rfl (pc0 := 78) (pc' := 81) (same := true) rfl (hb hby at_78) rfl (decide_eq_true rfl) (by decide) (by decide) k_) ?_
      refine own_via (T' := T) (g' := (mkF m 82 #[.val (.int p0), .val (.int p1), .val (.int ch), .val (.ref wRESOURCE), .val (.ref wRESOURCE)] [(.int (1 : Int32))])) (fun t_ k_ => XS.iconst X.here hx rfl (hb hby at_81) k_) ?_
      refine own_via (T' := T) (g' := (mkF m 86 #[.val (.int p0), .val (.int p1), .val (.int ch), .val (.ref wRESOURCE), .val (.ref wRESOURCE)] [(.int (1 : Int32))])) (fun t_ k_ => XS.goto X.here hx rfl (pc0 := 82) (pc' := 86) rfl (hb hby at_82) (by decide) (by decide) k_) ?_
      refine own_retN X hx hlk (t := .boolean) Bd.returns (by simp) (hb hby at_86) (by decide) (by decide) ?_
      rw [eT]
      exact ⟨rfl, N, trivial⟩
    · by_cases hc6 : ch = (49 : Int32)
      · have hr : (ch = 48 → wVERSION_OF_RESOURCE = wRESOURCE) ∧ (ch = 49 → wVERSION_OF_RESOURCE = wVERSION_OF_RESOURCE) ∧ (ch = 50 → wVERSION_OF_RESOURCE = wRELATED_RESOURCE) ∧ (¬ ch = 48 → ¬ ch = 49 → ¬ ch = 50 → wVERSION_OF_RESOURCE = wNO_INFORMATION_PROVIDED) := by
          refine ⟨fun q => ?_, fun q => ?_, fun q => ?_, fun q1 q2 q3 => ?_⟩ <;> first | rfl | (exact absurd hc6 ‹_›) | (rw [hc6] at q; exact absurd q (by decide))
        obtain ⟨_, _, ⟨T, Lq, kq, nq⟩, -, X, ⟨Lc, hQ, lq, yq, zq⟩, st⟩ := Jvm.LawKit.callS X hx (y := (⟨"com/example/accessio/accessio/model/ElectronicLocation$Relationship", "of", "(C)Lcom/example/accessio/accessio/model/ElectronicLocation$Relationship;"⟩ : MethodName)) hown (mvT hZ (hw _ (List.mem_of_getElem? (i := 1) rfl))) (mvT hZ (hw _ (List.mem_of_getElem? (i := 2) rfl))) (mvT hZ (hw _ (List.mem_of_getElem? (i := 3) rfl))) (mvT hZ (hw _ (List.mem_of_getElem? (i := 4) rfl))) (by decide) (backOf (W := 0) (own_of l Z a0 hw [] ch wRESOURCE wVERSION_OF_RESOURCE wRELATED_RESOURCE wNO_INFORMATION_PROVIDED wVERSION_OF_RESOURCE h n0 O S_RESOURCE S_VERSION_OF_RESOURCE S_RELATED_RESOURCE S_NO_INFORMATION_PROVIDED hr) hZ (hw _ (List.mem_of_getElem? (i := 4) rfl)) (hw _ (List.mem_of_getElem? (i := 3) rfl)) (by decide) (by decide)) (g := (mkF m 24 #[.val (.int p0), .val (.int p1), .val (.int ch), .unset, .unset] [(.int ch)])) rfl (by rw [hml]; rfl) (argsL := [(.int ch)]) (rest := []) (lenOf own_pd0 rfl) rfl (by show 2 * 0 + _ ≤ _; exact Nat.le_of_eq rfl) (hb hby at_24) (fun _ _ => ⟨rfl, eT, (by decide : 0 + 0 ≤ _), (by decide : 0 + 0 ≤ _)⟩)
        dsimp only [Pt.U, Pt.locs, Pt.cells, Pt.slots] at X lq yq zq st hQ
        subst lq yq zq
        obtain ⟨rfl, Nq, eT⟩ := hQ
        replace N := Fr.app N Nq
        refine own_via (g' := (mkF m 27 #[.val (.int p0), .val (.int p1), .val (.int ch), .unset, .unset] [(.ref wVERSION_OF_RESOURCE)])) st ?_
        refine own_via (T' := T) (g' := (mkF m 28 #[.val (.int p0), .val (.int p1), .val (.int ch), .val (.ref wVERSION_OF_RESOURCE), .unset] [])) (fun t_ k_ => XS.astoreN X.here hx rfl (hb hby at_27) rfl rfl (l' := #[.val (.int p0), .val (.int p1), .val (.int ch), .val (.ref wVERSION_OF_RESOURCE), .unset]) rfl k_) ?_
        refine own_via (T' := T) (g' := (mkF m 29 #[.val (.int p0), .val (.int p1), .val (.int ch), .val (.ref wVERSION_OF_RESOURCE), .unset] [(.int ch)])) (fun t_ k_ => XS.iloadN X.here hx rfl (hb hby at_28) rfl k_) ?_
        refine own_via (T' := T) (g' := (mkF m 31 #[.val (.int p0), .val (.int p1), .val (.int ch), .val (.ref wVERSION_OF_RESOURCE), .unset] [(.int (48 : Int32)), (.int ch)])) (fun t_ k_ => XS.bipush X.here hx rfl (hb hby at_29) k_) ?_
        refine own_via (T' := T) (g' := (mkF m 42 #[.val (.int p0), .val (.int p1), .val (.int ch), .val (.ref wVERSION_OF_RESOURCE), .unset] [])) (fun t_ k_ => XS.icmpYes X.here hx rfl (pc0 := 31) (pc' := 42) rfl (hb hby at_31) rfl (feq hc5).2 (by decide) (by decide) k_) ?_
        refine own_via (T' := T) (g' := (mkF m 43 #[.val (.int p0), .val (.int p1), .val (.int ch), .val (.ref wVERSION_OF_RESOURCE), .unset] [(.int ch)])) (fun t_ k_ => XS.iloadN X.here hx rfl (hb hby at_42) rfl k_) ?_
        refine own_via (T' := T) (g' := (mkF m 45 #[.val (.int p0), .val (.int p1), .val (.int ch), .val (.ref wVERSION_OF_RESOURCE), .unset] [(.int (49 : Int32)), (.int ch)])) (fun t_ k_ => XS.bipush X.here hx rfl (hb hby at_43) k_) ?_
        refine own_via (T' := T) (g' := (mkF m 48 #[.val (.int p0), .val (.int p1), .val (.int ch), .val (.ref wVERSION_OF_RESOURCE), .unset] [])) (fun t_ k_ => XS.icmpNo X.here hx rfl (hb hby at_45) rfl (teq hc6).2 k_) ?_
        obtain ⟨T, X, eT, st⟩ := getS2 X hx hZ hown (host := "") (Or.inl (hw _ (List.mem_of_getElem? (i := 13) rfl))) Via.refl eT (S_VERSION_OF_RESOURCE.ext O.2) (g := (mkF m 48 #[.val (.int p0), .val (.int p1), .val (.int ch), .val (.ref wVERSION_OF_RESOURCE), .unset] [])) rfl (hb hby at_48)
        refine own_via (g' := (mkF m 51 #[.val (.int p0), .val (.int p1), .val (.int ch), .val (.ref wVERSION_OF_RESOURCE), .unset] [(.ref wVERSION_OF_RESOURCE)])) st ?_
        refine own_via (T' := T) (g' := (mkF m 53 #[.val (.int p0), .val (.int p1), .val (.int ch), .val (.ref wVERSION_OF_RESOURCE), .val (.ref wVERSION_OF_RESOURCE)] [])) (fun t_ k_ => XS.astore X.here hx rfl (hb hby at_51) rfl rfl (l' := #[.val (.int p0), .val (.int p1), .val (.int ch), .val (.ref wVERSION_OF_RESOURCE), .val (.ref wVERSION_OF_RESOURCE)]) rfl k_) ?_
        refine own_via (T' := T) (g' := (mkF m 75 #[.val (.int p0), .val (.int p1), .val (.int ch), .val (.ref wVERSION_OF_RESOURCE), .val (.ref wVERSION_OF_RESOURCE)] [])) (fun t_ k_ => XS.goto X.here hx rfl (pc0 := 53) (pc' := 75) rfl (hb hby at_53) (by decide) (by decide) k_) ?_
        refine own_via (T' := T) (g' := (mkF m 76 #[.val (.int p0), .val (.int p1), .val (.int ch), .val (.ref wVERSION_OF_RESOURCE), .val (.ref wVERSION_OF_RESOURCE)] [(.ref wVERSION_OF_RESOURCE)])) (fun t_ k_ => XS.aloadN X.here hx rfl (hb hby at_75) rfl rfl k_) ?_
        refine own_via (T' := T) (g' := (mkF m 78 #[.val (.int p0), .val (.int p1), .val (.int ch), .val (.ref wVERSION_OF_RESOURCE), .val (.ref wVERSION_OF_RESOURCE)] [(.ref wVERSION_OF_RESOURCE), (.ref wVERSION_OF_RESOURCE)])) (fun t_ k_ => XS.aload X.here hx rfl (hb hby at_76) rfl rfl k_) ?_
        refine own_via (T' := T) (g' := (mkF m 81 #[.val (.int p0), .val (.int p1), .val (.int ch), .val (.ref wVERSION_OF_RESOURCE), .val (.ref wVERSION_OF_RESOURCE)] [])) (fun t_ k_ => Jvm.RoadKit.acmp (g := (mkF m 78 #[.val (.int p0), .val (.int p1), .val (.int ch), .val (.ref wVERSION_OF_RESOURCE), .val (.ref wVERSION_OF_RESOURCE)] [(.ref wVERSION_OF_RESOURCE), (.ref wVERSION_OF_RESOURCE)])) X hx rfl rfl rfl (pc0 := 78) (pc' := 81) (same := true) rfl (hb hby at_78) rfl (decide_eq_true rfl) (by decide) (by decide) k_) ?_
        refine own_via (T' := T) (g' := (mkF m 82 #[.val (.int p0), .val (.int p1), .val (.int ch), .val (.ref wVERSION_OF_RESOURCE), .val (.ref wVERSION_OF_RESOURCE)] [(.int (1 : Int32))])) (fun t_ k_ => XS.iconst X.here hx rfl (hb hby at_81) k_) ?_
        refine own_via (T' := T) (g' := (mkF m 86 #[.val (.int p0), .val (.int p1), .val (.int ch), .val (.ref wVERSION_OF_RESOURCE), .val (.ref wVERSION_OF_RESOURCE)] [(.int (1 : Int32))])) (fun t_ k_ => XS.goto X.here hx rfl (pc0 := 82) (pc' := 86) rfl (hb hby at_82) (by decide) (by decide) k_) ?_
        refine own_retN X hx hlk (t := .boolean) Bd.returns (by simp) (hb hby at_86) (by decide) (by decide) ?_
        rw [eT]
        exact ⟨rfl, N, trivial⟩
      · by_cases hc7 : ch = (50 : Int32)
        · have hr : (ch = 48 → wRELATED_RESOURCE = wRESOURCE) ∧ (ch = 49 → wRELATED_RESOURCE = wVERSION_OF_RESOURCE) ∧ (ch = 50 → wRELATED_RESOURCE = wRELATED_RESOURCE) ∧ (¬ ch = 48 → ¬ ch = 49 → ¬ ch = 50 → wRELATED_RESOURCE = wNO_INFORMATION_PROVIDED) := by
            refine ⟨fun q => ?_, fun q => ?_, fun q => ?_, fun q1 q2 q3 => ?_⟩ <;> first | rfl | (exact absurd hc7 ‹_›) | (rw [hc7] at q; exact absurd q (by decide))
          obtain ⟨_, _, ⟨T, Lq, kq, nq⟩, -, X, ⟨Lc, hQ, lq, yq, zq⟩, st⟩ := Jvm.LawKit.callS X hx (y := (⟨"com/example/accessio/accessio/model/ElectronicLocation$Relationship", "of", "(C)Lcom/example/accessio/accessio/model/ElectronicLocation$Relationship;"⟩ : MethodName)) hown (mvT hZ (hw _ (List.mem_of_getElem? (i := 1) rfl))) (mvT hZ (hw _ (List.mem_of_getElem? (i := 2) rfl))) (mvT hZ (hw _ (List.mem_of_getElem? (i := 3) rfl))) (mvT hZ (hw _ (List.mem_of_getElem? (i := 4) rfl))) (by decide) (backOf (W := 0) (own_of l Z a0 hw [] ch wRESOURCE wVERSION_OF_RESOURCE wRELATED_RESOURCE wNO_INFORMATION_PROVIDED wRELATED_RESOURCE h n0 O S_RESOURCE S_VERSION_OF_RESOURCE S_RELATED_RESOURCE S_NO_INFORMATION_PROVIDED hr) hZ (hw _ (List.mem_of_getElem? (i := 4) rfl)) (hw _ (List.mem_of_getElem? (i := 3) rfl)) (by decide) (by decide)) (g := (mkF m 24 #[.val (.int p0), .val (.int p1), .val (.int ch), .unset, .unset] [(.int ch)])) rfl (by rw [hml]; rfl) (argsL := [(.int ch)]) (rest := []) (lenOf own_pd0 rfl) rfl (by show 2 * 0 + _ ≤ _; exact Nat.le_of_eq rfl) (hb hby at_24) (fun _ _ => ⟨rfl, eT, (by decide : 0 + 0 ≤ _), (by decide : 0 + 0 ≤ _)⟩)
          dsimp only [Pt.U, Pt.locs, Pt.cells, Pt.slots] at X lq yq zq st hQ
          subst lq yq zq
          obtain ⟨rfl, Nq, eT⟩ := hQ
          replace N := Fr.app N Nq
          refine own_via (g' := (mkF m 27 #[.val (.int p0), .val (.int p1), .val (.int ch), .unset, .unset] [(.ref wRELATED_RESOURCE)])) st ?_
          refine own_via (T' := T) (g' := (mkF m 28 #[.val (.int p0), .val (.int p1), .val (.int ch), .val (.ref wRELATED_RESOURCE), .unset] [])) (fun t_ k_ => XS.astoreN X.here hx rfl (hb hby at_27) rfl rfl (l' := #[.val (.int p0), .val (.int p1), .val (.int ch), .val (.ref wRELATED_RESOURCE), .unset]) rfl k_) ?_
          refine own_via (T' := T) (g' := (mkF m 29 #[.val (.int p0), .val (.int p1), .val (.int ch), .val (.ref wRELATED_RESOURCE), .unset] [(.int ch)])) (fun t_ k_ => XS.iloadN X.here hx rfl (hb hby at_28) rfl k_) ?_
          refine own_via (T' := T) (g' := (mkF m 31 #[.val (.int p0), .val (.int p1), .val (.int ch), .val (.ref wRELATED_RESOURCE), .unset] [(.int (48 : Int32)), (.int ch)])) (fun t_ k_ => XS.bipush X.here hx rfl (hb hby at_29) k_) ?_
          refine own_via (T' := T) (g' := (mkF m 42 #[.val (.int p0), .val (.int p1), .val (.int ch), .val (.ref wRELATED_RESOURCE), .unset] [])) (fun t_ k_ => XS.icmpYes X.here hx rfl (pc0 := 31) (pc' := 42) rfl (hb hby at_31) rfl (feq hc5).2 (by decide) (by decide) k_) ?_
          refine own_via (T' := T) (g' := (mkF m 43 #[.val (.int p0), .val (.int p1), .val (.int ch), .val (.ref wRELATED_RESOURCE), .unset] [(.int ch)])) (fun t_ k_ => XS.iloadN X.here hx rfl (hb hby at_42) rfl k_) ?_
          refine own_via (T' := T) (g' := (mkF m 45 #[.val (.int p0), .val (.int p1), .val (.int ch), .val (.ref wRELATED_RESOURCE), .unset] [(.int (49 : Int32)), (.int ch)])) (fun t_ k_ => XS.bipush X.here hx rfl (hb hby at_43) k_) ?_
          refine own_via (T' := T) (g' := (mkF m 56 #[.val (.int p0), .val (.int p1), .val (.int ch), .val (.ref wRELATED_RESOURCE), .unset] [])) (fun t_ k_ => XS.icmpYes X.here hx rfl (pc0 := 45) (pc' := 56) rfl (hb hby at_45) rfl (feq hc6).2 (by decide) (by decide) k_) ?_
          refine own_via (T' := T) (g' := (mkF m 57 #[.val (.int p0), .val (.int p1), .val (.int ch), .val (.ref wRELATED_RESOURCE), .unset] [(.int ch)])) (fun t_ k_ => XS.iloadN X.here hx rfl (hb hby at_56) rfl k_) ?_
          refine own_via (T' := T) (g' := (mkF m 59 #[.val (.int p0), .val (.int p1), .val (.int ch), .val (.ref wRELATED_RESOURCE), .unset] [(.int (50 : Int32)), (.int ch)])) (fun t_ k_ => XS.bipush X.here hx rfl (hb hby at_57) k_) ?_
          refine own_via (T' := T) (g' := (mkF m 62 #[.val (.int p0), .val (.int p1), .val (.int ch), .val (.ref wRELATED_RESOURCE), .unset] [])) (fun t_ k_ => XS.icmpNo X.here hx rfl (hb hby at_59) rfl (teq hc7).2 k_) ?_
          obtain ⟨T, X, eT, st⟩ := getS2 X hx hZ hown (host := "") (Or.inl (hw _ (List.mem_of_getElem? (i := 10) rfl))) Via.refl eT (S_RELATED_RESOURCE.ext O.2) (g := (mkF m 62 #[.val (.int p0), .val (.int p1), .val (.int ch), .val (.ref wRELATED_RESOURCE), .unset] [])) rfl (hb hby at_62)
          refine own_via (g' := (mkF m 65 #[.val (.int p0), .val (.int p1), .val (.int ch), .val (.ref wRELATED_RESOURCE), .unset] [(.ref wRELATED_RESOURCE)])) st ?_
          refine own_via (T' := T) (g' := (mkF m 67 #[.val (.int p0), .val (.int p1), .val (.int ch), .val (.ref wRELATED_RESOURCE), .val (.ref wRELATED_RESOURCE)] [])) (fun t_ k_ => XS.astore X.here hx rfl (hb hby at_65) rfl rfl (l' := #[.val (.int p0), .val (.int p1), .val (.int ch), .val (.ref wRELATED_RESOURCE), .val (.ref wRELATED_RESOURCE)]) rfl k_) ?_
          refine own_via (T' := T) (g' := (mkF m 75 #[.val (.int p0), .val (.int p1), .val (.int ch), .val (.ref wRELATED_RESOURCE), .val (.ref wRELATED_RESOURCE)] [])) (fun t_ k_ => XS.goto X.here hx rfl (pc0 := 67) (pc' := 75) rfl (hb hby at_67) (by decide) (by decide) k_) ?_
          refine own_via (T' := T) (g' := (mkF m 76 #[.val (.int p0), .val (.int p1), .val (.int ch), .val (.ref wRELATED_RESOURCE), .val (.ref wRELATED_RESOURCE)] [(.ref wRELATED_RESOURCE)])) (fun t_ k_ => XS.aloadN X.here hx rfl (hb hby at_75) rfl rfl k_) ?_
          refine own_via (T' := T) (g' := (mkF m 78 #[.val (.int p0), .val (.int p1), .val (.int ch), .val (.ref wRELATED_RESOURCE), .val (.ref wRELATED_RESOURCE)] [(.ref wRELATED_RESOURCE), (.ref wRELATED_RESOURCE)])) (fun t_ k_ => XS.aload X.here hx rfl (hb hby at_76) rfl rfl k_) ?_
          refine own_via (T' := T) (g' := (mkF m 81 #[.val (.int p0), .val (.int p1), .val (.int ch), .val (.ref wRELATED_RESOURCE), .val (.ref wRELATED_RESOURCE)] [])) (fun t_ k_ => Jvm.RoadKit.acmp (g := (mkF m 78 #[.val (.int p0), .val (.int p1), .val (.int ch), .val (.ref wRELATED_RESOURCE), .val (.ref wRELATED_RESOURCE)] [(.ref wRELATED_RESOURCE), (.ref wRELATED_RESOURCE)])) X hx rfl rfl rfl (pc0 := 78) (pc' := 81) (same := true) rfl (hb hby at_78) rfl (decide_eq_true rfl) (by decide) (by decide) k_) ?_
          refine own_via (T' := T) (g' := (mkF m 82 #[.val (.int p0), .val (.int p1), .val (.int ch), .val (.ref wRELATED_RESOURCE), .val (.ref wRELATED_RESOURCE)] [(.int (1 : Int32))])) (fun t_ k_ => XS.iconst X.here hx rfl (hb hby at_81) k_) ?_
          refine own_via (T' := T) (g' := (mkF m 86 #[.val (.int p0), .val (.int p1), .val (.int ch), .val (.ref wRELATED_RESOURCE), .val (.ref wRELATED_RESOURCE)] [(.int (1 : Int32))])) (fun t_ k_ => XS.goto X.here hx rfl (pc0 := 82) (pc' := 86) rfl (hb hby at_82) (by decide) (by decide) k_) ?_
          refine own_retN X hx hlk (t := .boolean) Bd.returns (by simp) (hb hby at_86) (by decide) (by decide) ?_
          rw [eT]
          exact ⟨rfl, N, trivial⟩
        · have hr : (ch = 48 → wNO_INFORMATION_PROVIDED = wRESOURCE) ∧ (ch = 49 → wNO_INFORMATION_PROVIDED = wVERSION_OF_RESOURCE) ∧ (ch = 50 → wNO_INFORMATION_PROVIDED = wRELATED_RESOURCE) ∧ (¬ ch = 48 → ¬ ch = 49 → ¬ ch = 50 → wNO_INFORMATION_PROVIDED = wNO_INFORMATION_PROVIDED) := ⟨fun q => absurd q hc5, fun q => absurd q hc6, fun q => absurd q hc7, fun _ _ _ => rfl⟩
          obtain ⟨_, _, ⟨T, Lq, kq, nq⟩, -, X, ⟨Lc, hQ, lq, yq, zq⟩, st⟩ := Jvm.LawKit.callS X hx (y := (⟨"com/example/accessio/accessio/model/ElectronicLocation$Relationship", "of", "(C)Lcom/example/accessio/accessio/model/ElectronicLocation$Relationship;"⟩ : MethodName)) hown (mvT hZ (hw _ (List.mem_of_getElem? (i := 1) rfl))) (mvT hZ (hw _ (List.mem_of_getElem? (i := 2) rfl))) (mvT hZ (hw _ (List.mem_of_getElem? (i := 3) rfl))) (mvT hZ (hw _ (List.mem_of_getElem? (i := 4) rfl))) (by decide) (backOf (W := 0) (own_of l Z a0 hw [] ch wRESOURCE wVERSION_OF_RESOURCE wRELATED_RESOURCE wNO_INFORMATION_PROVIDED wNO_INFORMATION_PROVIDED h n0 O S_RESOURCE S_VERSION_OF_RESOURCE S_RELATED_RESOURCE S_NO_INFORMATION_PROVIDED hr) hZ (hw _ (List.mem_of_getElem? (i := 4) rfl)) (hw _ (List.mem_of_getElem? (i := 3) rfl)) (by decide) (by decide)) (g := (mkF m 24 #[.val (.int p0), .val (.int p1), .val (.int ch), .unset, .unset] [(.int ch)])) rfl (by rw [hml]; rfl) (argsL := [(.int ch)]) (rest := []) (lenOf own_pd0 rfl) rfl (by show 2 * 0 + _ ≤ _; exact Nat.le_of_eq rfl) (hb hby at_24) (fun _ _ => ⟨rfl, eT, (by decide : 0 + 0 ≤ _), (by decide : 0 + 0 ≤ _)⟩)
          dsimp only [Pt.U, Pt.locs, Pt.cells, Pt.slots] at X lq yq zq st hQ
          subst lq yq zq
          obtain ⟨rfl, Nq, eT⟩ := hQ
          replace N := Fr.app N Nq
          refine own_via (g' := (mkF m 27 #[.val (.int p0), .val (.int p1), .val (.int ch), .unset, .unset] [(.ref wNO_INFORMATION_PROVIDED)])) st ?_
          refine own_via (T' := T) (g' := (mkF m 28 #[.val (.int p0), .val (.int p1), .val (.int ch), .val (.ref wNO_INFORMATION_PROVIDED), .unset] [])) (fun t_ k_ => XS.astoreN X.here hx rfl (hb hby at_27) rfl rfl (l' := #[.val (.int p0), .val (.int p1), .val (.int ch), .val (.ref wNO_INFORMATION_PROVIDED), .unset]) rfl k_) ?_
          refine own_via (T' := T) (g' := (mkF m 29 #[.val (.int p0), .val (.int p1), .val (.int ch), .val (.ref wNO_INFORMATION_PROVIDED), .unset] [(.int ch)])) (fun t_ k_ => XS.iloadN X.here hx rfl (hb hby at_28) rfl k_) ?_
          refine own_via (T' := T) (g' := (mkF m 31 #[.val (.int p0), .val (.int p1), .val (.int ch), .val (.ref wNO_INFORMATION_PROVIDED), .unset] [(.int (48 : Int32)), (.int ch)])) (fun t_ k_ => XS.bipush X.here hx rfl (hb hby at_29) k_) ?_
          refine own_via (T' := T) (g' := (mkF m 42 #[.val (.int p0), .val (.int p1), .val (.int ch), .val (.ref wNO_INFORMATION_PROVIDED), .unset] [])) (fun t_ k_ => XS.icmpYes X.here hx rfl (pc0 := 31) (pc' := 42) rfl (hb hby at_31) rfl (feq hc5).2 (by decide) (by decide) k_) ?_
          refine own_via (T' := T) (g' := (mkF m 43 #[.val (.int p0), .val (.int p1), .val (.int ch), .val (.ref wNO_INFORMATION_PROVIDED), .unset] [(.int ch)])) (fun t_ k_ => XS.iloadN X.here hx rfl (hb hby at_42) rfl k_) ?_
          refine own_via (T' := T) (g' := (mkF m 45 #[.val (.int p0), .val (.int p1), .val (.int ch), .val (.ref wNO_INFORMATION_PROVIDED), .unset] [(.int (49 : Int32)), (.int ch)])) (fun t_ k_ => XS.bipush X.here hx rfl (hb hby at_43) k_) ?_
          refine own_via (T' := T) (g' := (mkF m 56 #[.val (.int p0), .val (.int p1), .val (.int ch), .val (.ref wNO_INFORMATION_PROVIDED), .unset] [])) (fun t_ k_ => XS.icmpYes X.here hx rfl (pc0 := 45) (pc' := 56) rfl (hb hby at_45) rfl (feq hc6).2 (by decide) (by decide) k_) ?_
          refine own_via (T' := T) (g' := (mkF m 57 #[.val (.int p0), .val (.int p1), .val (.int ch), .val (.ref wNO_INFORMATION_PROVIDED), .unset] [(.int ch)])) (fun t_ k_ => XS.iloadN X.here hx rfl (hb hby at_56) rfl k_) ?_
          refine own_via (T' := T) (g' := (mkF m 59 #[.val (.int p0), .val (.int p1), .val (.int ch), .val (.ref wNO_INFORMATION_PROVIDED), .unset] [(.int (50 : Int32)), (.int ch)])) (fun t_ k_ => XS.bipush X.here hx rfl (hb hby at_57) k_) ?_
          refine own_via (T' := T) (g' := (mkF m 70 #[.val (.int p0), .val (.int p1), .val (.int ch), .val (.ref wNO_INFORMATION_PROVIDED), .unset] [])) (fun t_ k_ => XS.icmpYes X.here hx rfl (pc0 := 59) (pc' := 70) rfl (hb hby at_59) rfl (feq hc7).2 (by decide) (by decide) k_) ?_
          obtain ⟨T, X, eT, st⟩ := getS2 X hx hZ hown (host := "") (Or.inl (hw _ (List.mem_of_getElem? (i := 7) rfl))) Via.refl eT (S_NO_INFORMATION_PROVIDED.ext O.2) (g := (mkF m 70 #[.val (.int p0), .val (.int p1), .val (.int ch), .val (.ref wNO_INFORMATION_PROVIDED), .unset] [])) rfl (hb hby at_70)
          refine own_via (g' := (mkF m 73 #[.val (.int p0), .val (.int p1), .val (.int ch), .val (.ref wNO_INFORMATION_PROVIDED), .unset] [(.ref wNO_INFORMATION_PROVIDED)])) st ?_
          refine own_via (T' := T) (g' := (mkF m 75 #[.val (.int p0), .val (.int p1), .val (.int ch), .val (.ref wNO_INFORMATION_PROVIDED), .val (.ref wNO_INFORMATION_PROVIDED)] [])) (fun t_ k_ => XS.astore X.here hx rfl (hb hby at_73) rfl rfl (l' := #[.val (.int p0), .val (.int p1), .val (.int ch), .val (.ref wNO_INFORMATION_PROVIDED), .val (.ref wNO_INFORMATION_PROVIDED)]) rfl k_) ?_
          refine own_via (T' := T) (g' := (mkF m 76 #[.val (.int p0), .val (.int p1), .val (.int ch), .val (.ref wNO_INFORMATION_PROVIDED), .val (.ref wNO_INFORMATION_PROVIDED)] [(.ref wNO_INFORMATION_PROVIDED)])) (fun t_ k_ => XS.aloadN X.here hx rfl (hb hby at_75) rfl rfl k_) ?_
          refine own_via (T' := T) (g' := (mkF m 78 #[.val (.int p0), .val (.int p1), .val (.int ch), .val (.ref wNO_INFORMATION_PROVIDED), .val (.ref wNO_INFORMATION_PROVIDED)] [(.ref wNO_INFORMATION_PROVIDED), (.ref wNO_INFORMATION_PROVIDED)])) (fun t_ k_ => XS.aload X.here hx rfl (hb hby at_76) rfl rfl k_) ?_
          refine own_via (T' := T) (g' := (mkF m 81 #[.val (.int p0), .val (.int p1), .val (.int ch), .val (.ref wNO_INFORMATION_PROVIDED), .val (.ref wNO_INFORMATION_PROVIDED)] [])) (fun t_ k_ => Jvm.RoadKit.acmp (g := (mkF m 78 #[.val (.int p0), .val (.int p1), .val (.int ch), .val (.ref wNO_INFORMATION_PROVIDED), .val (.ref wNO_INFORMATION_PROVIDED)] [(.ref wNO_INFORMATION_PROVIDED), (.ref wNO_INFORMATION_PROVIDED)])) X hx rfl rfl rfl (pc0 := 78) (pc' := 81) (same := true) rfl (hb hby at_78) rfl (decide_eq_true rfl) (by decide) (by decide) k_) ?_
          refine own_via (T' := T) (g' := (mkF m 82 #[.val (.int p0), .val (.int p1), .val (.int ch), .val (.ref wNO_INFORMATION_PROVIDED), .val (.ref wNO_INFORMATION_PROVIDED)] [(.int (1 : Int32))])) (fun t_ k_ => XS.iconst X.here hx rfl (hb hby at_81) k_) ?_
          refine own_via (T' := T) (g' := (mkF m 86 #[.val (.int p0), .val (.int p1), .val (.int ch), .val (.ref wNO_INFORMATION_PROVIDED), .val (.ref wNO_INFORMATION_PROVIDED)] [(.int (1 : Int32))])) (fun t_ k_ => XS.goto X.here hx rfl (pc0 := 82) (pc' := 86) rfl (hb hby at_82) (by decide) (by decide) k_) ?_
          refine own_retN X hx hlk (t := .boolean) Bd.returns (by simp) (hb hby at_86) (by decide) (by decide) ?_
          rw [eT]
          exact ⟨rfl, N, trivial⟩
set_option maxRecDepth 65536 in
set_option maxHeartbeats 40000000 in
theorem comes_1 {Post : Tables → Env → Array Value → State → Outcome → State → Prop} (hpost : ∀ tb e args s v u, (limb_1_1.after args s (.returned v) u = true ∧ limb_1_2.after args s (.returned v) u = true ∧ True) → FrameEnd s (.returned v) u (Jvm.fieldLocs frame_1_writes args s ++ Jvm.arrayLocs frame_1_arrays args s ++ Jvm.staticLocs frame_1_statics s) 0 0 → Post tb e args s (.returned v) u) :
    ArmFor flags0 classFile x code maxLocals ret World_1 tables_1 room_1 Calls_1 rest_1 Pre_1 Post := by
  intro l hfl _ _ p e ha hc hk s m args below hf hA hF happ hP
  obtain ⟨hcalls, hrest, hpre⟩ := hP
  obtain ⟨-, -, -, hnamed, -, -, -, hat⟩ := (Spec.applies_iff hf).mp happ
  obtain ⟨hg, hn⟩ := and_e (Cond.before_iff.mp (show (Jvm.Cond.and given_1 narrow_1).before args s = true from hpre))
  obtain ⟨hcount, hg1⟩ := and_e hg
  obtain ⟨hv0, hg2⟩ := and_e hg1
  obtain ⟨w0, w1, rfl⟩ : ∃ w0 w1 : Value, args = #[w0, w1] := by
    have hs : args.size = 2 := by simpa [Cond.value, given_1] using hcount
    obtain ⟨L⟩ := args
    match L, hs with
    | [w0, w1], _ => exact ⟨w0, w1, rfl⟩
  have hw := fun d (hd : d ∈ tables_1) => atoms_spec (ws := Jvm.Cond.code x code maxLocals ret :: tables_1) hat d (List.mem_cons_of_mem _ hd)
  have hfit : Fit s := fun {y c} hc i hi => by
    obtain ⟨ha, rfl⟩ := Array.getElem?_eq_some_iff.mp hc
    have q := List.all_eq_true.mp ((Array.all_eq_true_iff_forall_mem.mp hF) _ (Array.getElem_mem ha)) i (List.mem_range.mpr hi)
    simpa [Array.getElem?_eq_getElem hi] using q
  obtain ⟨i0, ei0⟩ := is_v hv0
  obtain rfl : w0 = (.int i0) := Option.some.inj ei0
  obtain ⟨i1, ei1⟩ := is_v hg2
  obtain rfl : w1 = (.int i1) := Option.some.inj ei1
  obtain ⟨nn1, nn2⟩ := and_e hn
  obtain ⟨nn3, nn4⟩ := and_e nn2
  obtain ⟨nn5, nn6⟩ := and_e nn4
  obtain ⟨wNO_INFORMATION_PROVIDED, evNO_INFORMATION_PROVIDED⟩ := exa_v nn1
  have S_NO_INFORMATION_PROVIDED := Sta.start evNO_INFORMATION_PROVIDED (Or.inr ⟨(hw _ (List.mem_of_getElem? (i := 3) rfl)), (hw _ (List.mem_of_getElem? (i := 6) rfl))⟩)
  obtain ⟨wRELATED_RESOURCE, evRELATED_RESOURCE⟩ := exa_v nn3
  have S_RELATED_RESOURCE := Sta.start evRELATED_RESOURCE (Or.inr ⟨(hw _ (List.mem_of_getElem? (i := 3) rfl)), (hw _ (List.mem_of_getElem? (i := 9) rfl))⟩)
  obtain ⟨wVERSION_OF_RESOURCE, evVERSION_OF_RESOURCE⟩ := exa_v nn5
  have S_VERSION_OF_RESOURCE := Sta.start evVERSION_OF_RESOURCE (Or.inr ⟨(hw _ (List.mem_of_getElem? (i := 3) rfl)), (hw _ (List.mem_of_getElem? (i := 12) rfl))⟩)
  obtain ⟨wRESOURCE, evRESOURCE⟩ := exa_v nn6
  have S_RESOURCE := Sta.start evRESOURCE (Or.inr ⟨(hw _ (List.mem_of_getElem? (i := 3) rfl)), (hw _ (List.mem_of_getElem? (i := 15) rfl))⟩)
  obtain ⟨n, o, h1, h2, h3, _, L, rfl, ⟨rfl, N, -⟩, hq⟩ := own_law l s _ hw tables_1 i0 i1 wRESOURCE wVERSION_OF_RESOURCE wRELATED_RESOURCE wNO_INFORMATION_PROVIDED s.heap s.heap.size (Old.start s) S_RESOURCE S_VERSION_OF_RESOURCE S_RELATED_RESOURCE S_NO_INFORMATION_PROVIDED p e ha hc hk s m _ below hf ((Spec.applies_iff_loose hf).mp happ).1 ⟨rfl, State.Warmed39.refl s, rfl⟩ trivial
  refine ⟨n, _, h1, h2, h3, hpost _ _ _ _ _ _ ⟨Cond.after_iff.mpr rfl, Cond.after_iff.mpr (eq_i res_at (Term.int_eval (1)) rfl), trivial⟩ ⟨hq.1, hq.2.1, (hq.2.2.sift fun y hy => Or.inr (N y hy)).mono (by decide) (by decide)⟩⟩
theorem main_1_1 : Claimed_1_1 := comes_1 fun _ _ _ _ _ _ h hF => ⟨h.1, hF⟩
theorem main_1_2 : Claimed_1_2 := comes_1 fun _ _ _ _ _ _ h hF => ⟨h.2.1, hF⟩
end Jvm.Pilot.@@N@@
namespace Jvm.Pilot.@@N@@
open Jvm Jvm.ClassFile Sem Op Lib Jvm.Free Jvm.Stand Jvm.Pilot.@@N@@.Jvm.D
/-! MADE BY PROGRAM (witnessworld.py) out of the Statement's table words and the real class files: 12 classes; the members and pool entries that the words name. The judged class is class 1, her method 1. -/
namespace start1
open Jvm.ClassFile
def u (s : String) : CpInfo := .utf8 (stringToUtf16 s)
/-- a pool by its gaps: so many unusable entries, then the entry; so many at the end -/
def gap : Nat → List CpInfo → List CpInfo
  | 0, r => r
  | n + 1, r => .unusable :: gap n r
def poolList (es : List (Nat × CpInfo)) (last : Nat) : List CpInfo := es.foldr (fun e r => gap e.1 (e.2 :: r)) (gap last [])
def pool (es : List (Nat × CpInfo)) (last : Nat) : Array CpInfo := ⟨poolList es last⟩
def fileOf (pool : Array CpInfo) (this : Nat) (attrs : Array Attribute := #[]) (ms : Array MethodInfo := #[]) (fl : Nat := 33) (sup : Nat := 0) (ifs : Array Nat := #[]) (fds : Array FieldInfo := #[]) : ClassFile where
  minorVersion := 0
  majorVersion := 65
  constantPool := pool
  accessFlags := fl
  thisClass := this
  superClass := sup
  interfaces := ifs
  fields := fds
  methods := ms
  attributes := attrs
def plain (name : String) (sup : Option ClassId) : Class where
  name := name
  kind := .ordinary
  loader := none
  accessFlags := 33
  super := sup
  interfaces := #[]
  cf := none
  fields := #[]
  methods := #[]
  instanceTypes := #[]
  staticTypes := #[]
  resolved := #[]
  callSites := []
  init := .initialized
  statics := none
  mirror := none

def pool0 : Array CpInfo := pool [(5, u "<init>"), (0, u "()V"), (1, .class_ 10), (1, u "java/lang/Object")] 113

def k0m0 : Method := { name := "<init>", desc := "()V", sig := { parameters := [], returnType := none }, accessFlags := 1, code := none }
/-- java/lang/Object -/
def k0 : Class := { plain "java/lang/Object" none with
  accessFlags := 33
  interfaces := #[]
  cf := some (fileOf pool0 8 #[] #[{ accessFlags := 1, nameIndex := 5, descriptorIndex := 6, attributes := #[] }] 33 0 #[] #[])
  fields := #[]
  methods := #[k0m0]
  instanceTypes := #[]
  staticTypes := #[]
  resolved := Array.replicate 124 none
  statics := none }

def pool1 : Array CpInfo := pool [(2, .class_ 4), (1, u "java/lang/Object"), (0, u "<init>"), (0, u "()V"), (0, .integer 2147483647), (0, .methodref 9 10), (0, .class_ 11), (0, .nameAndType 12 13), (0, u "com/example/accessio/accessio/model/ElectronicLocation$Relationship"), (0, u "of"), (0, u "(C)Lcom/example/accessio/accessio/model/ElectronicLocation$Relationship;"), (0, .fieldref 9 15), (0, .nameAndType 16 17), (0, u "RESOURCE"), (0, u "Lcom/example/accessio/accessio/model/ElectronicLocation$Relationship;"), (0, .fieldref 9 19), (0, .nameAndType 20 17), (0, u "VERSION_OF_RESOURCE"), (0, .fieldref 9 22), (0, .nameAndType 23 17), (0, u "RELATED_RESOURCE"), (0, .fieldref 9 25), (0, .nameAndType 26 17), (0, u "NO_INFORMATION_PROVIDED"), (0, .class_ 28), (0, u "com/example/accessio/accessio/model/RelationshipOfPinLaw"), (2, u "law"), (0, u "(II)Z")] 7

def k1m0 : Method := { name := "<init>", desc := "()V", sig := { parameters := [], returnType := none }, accessFlags := 1, code := none }
def k1c1 : Code := { maxStack := 3, maxLocals := 5, code := code, exceptionTable := #[], attributes := #[] }
def k1m1 : Method := { name := "law", desc := "(II)Z", sig := { parameters := [.int, .int], returnType := some .boolean }, accessFlags := 9, code := some k1c1 }
/-- com/example/accessio/accessio/model/RelationshipOfPinLaw -/
def k1 : Class := { plain "com/example/accessio/accessio/model/RelationshipOfPinLaw" (some 0) with
  accessFlags := 49
  interfaces := #[]
  cf := some (fileOf pool1 27 #[] #[{ accessFlags := 1, nameIndex := 5, descriptorIndex := 6, attributes := #[] }, { accessFlags := 9, nameIndex := 31, descriptorIndex := 32, attributes := #[] }] 49 2 #[] #[])
  fields := #[]
  methods := #[k1m0, k1m1]
  instanceTypes := #[]
  staticTypes := #[]
  resolved := Array.replicate 40 none
  statics := none }

def pool2 : Array CpInfo := pool [(1, .class_ 2), (0, u "java/lang/constant/Constable"), (0, .class_ 4), (0, u "java/lang/Object")] 6

/-- java/lang/constant/Constable -/
def k2 : Class := { plain "java/lang/constant/Constable" (some 0) with
  accessFlags := 1537
  interfaces := #[]
  cf := some (fileOf pool2 1 #[] #[] 1537 3 #[] #[])
  fields := #[]
  methods := #[]
  instanceTypes := #[]
  staticTypes := #[]
  resolved := Array.replicate 11 none
  statics := none }

def pool3 : Array CpInfo := pool [(1, .class_ 2), (0, u "java/lang/Comparable"), (0, .class_ 4), (0, u "java/lang/Object")] 7

/-- java/lang/Comparable -/
def k3 : Class := { plain "java/lang/Comparable" (some 0) with
  accessFlags := 1537
  interfaces := #[]
  cf := some (fileOf pool3 1 #[] #[] 1537 3 #[] #[])
  fields := #[]
  methods := #[]
  instanceTypes := #[]
  staticTypes := #[]
  resolved := Array.replicate 12 none
  statics := none }

def pool4 : Array CpInfo := pool [(1, .class_ 2), (0, u "java/io/Serializable"), (0, .class_ 4), (0, u "java/lang/Object")] 2

/-- java/io/Serializable -/
def k4 : Class := { plain "java/io/Serializable" (some 0) with
  accessFlags := 1537
  interfaces := #[]
  cf := some (fileOf pool4 1 #[] #[] 1537 3 #[] #[])
  fields := #[]
  methods := #[]
  instanceTypes := #[]
  staticTypes := #[]
  resolved := Array.replicate 7 none
  statics := none }

def pool5 : Array CpInfo := pool [(2, .class_ 4), (1, u "java/lang/Enum"), (0, u "name"), (0, u "Ljava/lang/String;"), (2, u "ordinal"), (0, u "I"), (1, .class_ 14), (1, u "java/lang/Object"), (4, u "hash"), (86, .class_ 108), (1, u "java/lang/Enum$EnumDesc"), (2, .class_ 112), (0, u "java/lang/constant/Constable"), (0, .class_ 114), (0, u "java/lang/Comparable"), (0, .class_ 116), (0, u "java/io/Serializable")] 87

/-- java/lang/Enum -/
def k5 : Class := { plain "java/lang/Enum" (some 0) with
  accessFlags := 1057
  interfaces := #[2, 3, 4]
  cf := some (fileOf pool5 2 #[.nestMembers #[106]] #[] 1057 12 #[111, 113, 115] #[{ accessFlags := 18, nameIndex := 5, descriptorIndex := 6, attributes := #[] }, { accessFlags := 18, nameIndex := 9, descriptorIndex := 10, attributes := #[] }, { accessFlags := 2, nameIndex := 19, descriptorIndex := 10, attributes := #[] }])
  fields := #[{ name := "name", type := (.object "java/lang/String"), accessFlags := 18, slot := 0, constantValue := 0 }, { name := "ordinal", type := .int, accessFlags := 18, slot := 1, constantValue := 0 }, { name := "hash", type := .int, accessFlags := 2, slot := 2, constantValue := 0 }]
  methods := #[]
  instanceTypes := #[(.object "java/lang/String"), .int, .int]
  staticTypes := #[]
  resolved := Array.replicate 204 none
  statics := none }

def pool6 : Array CpInfo := pool [(1, .class_ 2), (0, u "com/example/accessio/accessio/model/ElectronicLocation$Relationship"), (0, .fieldref 1 4), (0, .nameAndType 5 6), (0, u "RESOURCE"), (0, u "Lcom/example/accessio/accessio/model/ElectronicLocation$Relationship;"), (0, .fieldref 1 8), (0, .nameAndType 9 6), (0, u "VERSION_OF_RESOURCE"), (0, .fieldref 1 11), (0, .nameAndType 12 6), (0, u "RELATED_RESOURCE"), (0, .fieldref 1 14), (0, .nameAndType 15 6), (0, u "NO_INFORMATION_PROVIDED"), (2, u "$VALUES"), (0, u "[Lcom/example/accessio/accessio/model/ElectronicLocation$Relationship;"), (6, .class_ 28), (1, u "java/lang/Enum"), (8, u "folioName"), (0, u "Ljava/lang/String;"), (26, u "of"), (0, u "(C)Lcom/example/accessio/accessio/model/ElectronicLocation$Relationship;"), (8, .class_ 76), (0, u "com/example/accessio/accessio/model/ElectronicLocation")] 2

def k6c0 : Code := { maxStack := 1, maxLocals := 1, code := prog_7_method_4_code, exceptionTable := #[], attributes := #[] }
def k6m0 : Method := { name := "of", desc := "(C)Lcom/example/accessio/accessio/model/ElectronicLocation$Relationship;", sig := { parameters := [.char], returnType := some (.object "com/example/accessio/accessio/model/ElectronicLocation$Relationship") }, accessFlags := 9, code := some k6c0 }
/-- com/example/accessio/accessio/model/ElectronicLocation$Relationship -/
def k6 : Class := { plain "com/example/accessio/accessio/model/ElectronicLocation$Relationship" (some 5) with
  accessFlags := 16433
  interfaces := #[]
  cf := some (fileOf pool6 1 #[.nestHost 75] #[{ accessFlags := 9, nameIndex := 65, descriptorIndex := 66, attributes := #[] }] 16433 26 #[] #[{ accessFlags := 16409, nameIndex := 5, descriptorIndex := 6, attributes := #[] }, { accessFlags := 16409, nameIndex := 9, descriptorIndex := 6, attributes := #[] }, { accessFlags := 16409, nameIndex := 12, descriptorIndex := 6, attributes := #[] }, { accessFlags := 16409, nameIndex := 15, descriptorIndex := 6, attributes := #[] }, { accessFlags := 18, nameIndex := 37, descriptorIndex := 38, attributes := #[] }, { accessFlags := 4122, nameIndex := 18, descriptorIndex := 19, attributes := #[] }])
  fields := #[{ name := "RESOURCE", type := (.object "com/example/accessio/accessio/model/ElectronicLocation$Relationship"), accessFlags := 16409, slot := 0, constantValue := 0 }, { name := "VERSION_OF_RESOURCE", type := (.object "com/example/accessio/accessio/model/ElectronicLocation$Relationship"), accessFlags := 16409, slot := 1, constantValue := 0 }, { name := "RELATED_RESOURCE", type := (.object "com/example/accessio/accessio/model/ElectronicLocation$Relationship"), accessFlags := 16409, slot := 2, constantValue := 0 }, { name := "NO_INFORMATION_PROVIDED", type := (.object "com/example/accessio/accessio/model/ElectronicLocation$Relationship"), accessFlags := 16409, slot := 3, constantValue := 0 }, { name := "folioName", type := (.object "java/lang/String"), accessFlags := 18, slot := 3, constantValue := 0 }, { name := "$VALUES", type := (.array (.object "com/example/accessio/accessio/model/ElectronicLocation$Relationship")), accessFlags := 4122, slot := 4, constantValue := 0 }]
  methods := #[k6m0]
  instanceTypes := #[(.object "java/lang/String"), .int, .int, (.object "java/lang/String")]
  staticTypes := #[(.object "com/example/accessio/accessio/model/ElectronicLocation$Relationship"), (.object "com/example/accessio/accessio/model/ElectronicLocation$Relationship"), (.object "com/example/accessio/accessio/model/ElectronicLocation$Relationship"), (.object "com/example/accessio/accessio/model/ElectronicLocation$Relationship"), (.array (.object "com/example/accessio/accessio/model/ElectronicLocation$Relationship"))]
  resolved := Array.replicate 79 none
  statics := some 0 }

def pool7 : Array CpInfo := pool [(1, u "java/lang/Cloneable"), (0, .class_ 1), (0, u "java/lang/Object"), (0, .class_ 3)] 3

/-- java/lang/Cloneable -/
def k7 : Class := { plain "java/lang/Cloneable" (some 0) with
  accessFlags := 1537
  interfaces := #[]
  cf := some (fileOf pool7 2 #[] #[] 1537 4 #[] #[])
  fields := #[]
  methods := #[]
  instanceTypes := #[]
  staticTypes := #[]
  resolved := Array.replicate 8 none
  statics := none }

/-- the primitive byte -/
def k8 : Class := { plain "byte" none with kind := .primitive 'B', accessFlags := 0x411 }
/-- [B -/
def k9 : Class := { plain "[B" (some 0) with kind := .array 8 .byte, interfaces := #[7, 4], accessFlags := 1041 }

/-- the primitive int -/
def k10 : Class := { plain "int" none with kind := .primitive 'I', accessFlags := 0x411 }
/-- [I -/
def k11 : Class := { plain "[I" (some 0) with kind := .array 10 .int, interfaces := #[7, 4], accessFlags := 1041 }

def heap : Heap := #[{ cls := 6, slots := #[.ref 1, .ref 2, .ref 3, .ref 4, .null], vm := .statics 6 },
  { cls := 6, slots := #[.null, .int 0, .int 0, .null], vm := .none },
  { cls := 6, slots := #[.null, .int 1, .int 0, .null], vm := .none },
  { cls := 6, slots := #[.null, .int 2, .int 0, .null], vm := .none },
  { cls := 6, slots := #[.null, .int 3, .int 0, .null], vm := .none }]
def classes : Array Class := #[k0, k1, k2, k3, k4, k5, k6, k7, k8, k9, k10, k11]
def interned : List (Array UInt16 × Addr) := []
def slotsUsed : Nat := 21
def theMethod : MethodId := ⟨1, 1⟩
def args0 : Array Value := #[.int 5, .int 3]
def aboutOver (below : List Frame) : State where
  vm := { classes := classes, interned := interned.toArray }
  heap := heap
  slotsUsed := slotsUsed
  threads := #[{ frames := .invoking theMethod args0 :: below }]
def below0 : List Frame := [.native { method := ⟨0, 0⟩, args := #[] }]
def about1 : State := aboutOver below0
def p0 : Program := .bare "" "" ""
def e0 : Env := launch0.env 0 0 0
theorem w_frames : about1.frames = Frame.invoking theMethod args0 :: below0 := rfl
set_option maxRecDepth 65536 in
theorem w_args : argsFit about1.vm theMethod args0 = true := by decide +kernel
set_option maxRecDepth 65536 in
theorem w_heap : heapFits about1 = true := by decide +kernel
set_option maxRecDepth 65536 in
theorem w_runnable : about1.curStatus? = some .runnable := by decide +kernel
set_option maxRecDepth 65536 in
theorem w_alone : about1.alone = true := by decide +kernel
set_option maxRecDepth 65536 in
theorem w_named : about1.methodNamed? x = some theMethod := by decide +kernel
set_option maxRecDepth 65536 in
theorem w_hears : about1.hears theMethod below0 = true := by decide +kernel
set_option maxRecDepth 65536 in
theorem w_ripe : about1.ripe theMethod args0 below0 = true := by decide +kernel
theorem w_running : about1.status = .running := rfl
set_option maxRecDepth 65536 in
theorem w_room : about1.hasRoom e0.platform room_1 = true :=
  launch0.hasRoom_least _ room_1 (by decide +kernel) (by decide +kernel) (by decide +kernel) (by decide +kernel) (by decide +kernel) (by decide +kernel)
theorem allAtoms_all (ts : List Jvm.Cond) (a : Array Jvm.Value) (st : Jvm.State) : (allAtoms ts).before a st = ts.all (fun c => c.before a st) := by
  induction ts with
  | nil => rfl
  | cons c t ih =>
    show (Jvm.Cond.and c (allAtoms t)).before a st = _
    rw [Jvm.Cond.before_and, ih, List.all_cons]
def words1 : List Jvm.Cond := Jvm.Cond.code x code maxLocals ret :: tables_1
/-- a 'code' word, met by the world's own term for the bytes: nothing is compared byte by byte -/
theorem code_word {y : MethodName} {bytes : ByteArray} {mx : Nat} {rt : Option FieldType} {a : Array Value} {s : State} {m : MethodId} {meth : Method} {c : Code} (h1 : s.methodNamed? y = some m) (h2 : s.vm.method? m = some meth) (h3 : meth.code = some c) (h4 : c.code = bytes)
    (h5 : (c.maxLocals == mx && c.exceptionTable.isEmpty && decide (c.maxStack ≤ mostOperands) && decide (meth.sig.returnType = rt) && !meth.locks && decide (parseMethodDescriptor y.desc = some meth.sig)) = true) : (Jvm.Cond.code y bytes mx rt).before a s = true := by
  simp only [Bool.and_eq_true, beq_iff_eq, Bool.not_eq_true', decide_eq_true_eq] at h5
  obtain ⟨⟨⟨⟨⟨g1, g2⟩, g3⟩, g4⟩, g5⟩, g6⟩ := h5
  simp [Cond.before, Cond.holds, Cond.value, h1, h2, h3, h4, g1, g2, g3, g4, g5, g6]
def isCode : Jvm.Cond → Bool
  | .code _ _ _ _ => true
  | _ => false
theorem all_split {L : List Jvm.Cond} {P : Jvm.Cond → Bool} (h1 : L.all (fun c => isCode c || P c) = true) (h2 : ∀ c ∈ L.filter isCode, P c = true) : L.all P = true := by
  refine List.all_eq_true.mpr fun c hc => ?_
  have h := List.all_eq_true.mp h1 c hc
  rcases Bool.eq_false_or_eq_true (isCode c) with hi | hi
  · exact h2 c (List.mem_filter.mpr ⟨hc, hi⟩)
  · simpa [hi] using h
set_option maxRecDepth 65536 in
theorem w_c0 : (Jvm.Cond.code x code maxLocals ret).before args0 about1 = true := code_word (m := ⟨1, 1⟩) (meth := k1m1) (c := k1c1) (by decide +kernel) rfl rfl rfl (by decide +kernel)
set_option maxRecDepth 65536 in
theorem w_c1 : (Jvm.Cond.code ({ cls := "com/example/accessio/accessio/model/ElectronicLocation$Relationship", name := "of", desc := "(C)Lcom/example/accessio/accessio/model/ElectronicLocation$Relationship;" } : Jvm.MethodName) prog_7_method_4_code (1 : Nat) (Option.some (Jvm.ClassFile.FieldType.object "com/example/accessio/accessio/model/ElectronicLocation$Relationship"))).before args0 about1 = true := code_word (m := ⟨6, 0⟩) (meth := k6m0) (c := k6c0) (by decide +kernel) rfl rfl rfl (by decide +kernel)
def codes1 : List Jvm.Cond := [Jvm.Cond.code x code maxLocals ret, Jvm.Cond.code ({ cls := "com/example/accessio/accessio/model/ElectronicLocation$Relationship", name := "of", desc := "(C)Lcom/example/accessio/accessio/model/ElectronicLocation$Relationship;" } : Jvm.MethodName) prog_7_method_4_code (1 : Nat) (Option.some (Jvm.ClassFile.FieldType.object "com/example/accessio/accessio/model/ElectronicLocation$Relationship"))]
set_option maxRecDepth 65536 in
theorem codes_eq : words1.filter isCode = codes1 := rfl
theorem w_codes : ∀ c ∈ words1.filter isCode, c.before args0 about1 = true := by
  rw [codes_eq]
  intro c hc
  simp only [codes1, List.mem_cons, List.not_mem_nil, or_false] at hc
  rcases hc with rfl | rfl
  · exact w_c0
  · exact w_c1
set_option maxRecDepth 65536 in
theorem w_t1 : words1.all (fun c => isCode c || c.before args0 about1) = true := by decide +kernel
theorem w_tables : (allAtoms (Jvm.Cond.code x code maxLocals ret :: tables_1)).before args0 about1 = true := by
  rw [allAtoms_all]
  show words1.all (fun c => c.before args0 about1) = true
  refine all_split ?_ w_codes
  rw [w_t1]
set_option maxRecDepth 65536 in
theorem w_case : (Jvm.Cond.and given_1 narrow_1).before args0 about1 = true := by decide +kernel
theorem w_applies : (headSpec (Jvm.Cond.code x code maxLocals ret :: tables_1) room_1).applies x e0.platform about1 = true :=
  (Spec.applies_iff w_frames).mpr ⟨w_running, w_runnable, w_alone, w_named, w_hears, w_ripe, w_room, w_tables⟩
theorem atStart : AtStart classFile x code maxLocals ret World_1 tables_1 room_1 Calls_1 rest_1 Pre_1 launch0 p0 e0 about1 theMethod args0 below0 :=
  ⟨lists_1, trivial, launch0.admits_env _ _ _, launch0.least_env, fairChoices_fair.cas, fairChoices_fair.clock, w_frames, w_args, w_heap, w_applies, trivial, trivial, w_case⟩
end start1
theorem witness_1 : WitnessClaimed_1 := ⟨start1.p0, start1.e0, start1.about1, start1.theMethod, start1.args0, start1.below0, start1.atStart⟩
end Jvm.Pilot.@@N@@
