import JvmDerived
import JvmDerived.Pilot.@@N@@Statement
import JvmDerived.Pilot.@@N@@Code
set_option linter.unusedVariables false
set_option linter.unusedSimpArgs false

namespace Jvm.Pilot.@@N@@
open Jvm Jvm.ClassFile Sem Op Lib Jvm.Free Jvm.Stand Jvm.LawKit Jvm.RoadKit Bundle Jvm.Pilot.@@N@@.Jvm.D
section Own
variable {p : Program} {l : Launch} {e : Env} {R : Room} {s : State} {m : MethodId} {args : Array Value} {below : List Frame} {meth : Method} {c : Code} {T T' : State} {locs : List Loc} {cells slots : Nat} {g g' : JFrame} {P : State → Outcome → Prop}
/-- the run that stands at the frame g over T comes to an end of which P holds -/
def own_Ends (p : Program) (e : Env) (below : List Frame) (P : State → Outcome → Prop) (T : State) (g : JFrame) : Prop := ∃ u o, Steps p.tables e below (T.setTop g) u ∧ P u o
theorem own_via (st : ∀ t, Steps p.tables e below (T'.setTop g') t → Steps p.tables e below (T.setTop g) t) (k : own_Ends p e below P T' g') : own_Ends p e below P T g := by
  obtain ⟨a, b, c, d⟩ := k
  exact ⟨a, b, st _ c, d⟩
theorem own_viaT (st : Steps p.tables e below (T.setTop g) (T'.setTop g')) (k : own_Ends p e below P T' g') : own_Ends p e below P T g := own_via (fun _ k => st.trans k) k
def own_Post (s : State) (below : List Frame) (Q : Option Value → Heap → List Loc → Prop) (C S : Nat) : State → Outcome → Prop := fun u o => u.status = .running ∧ Ended u below o ∧ ∃ v L, o = .returned v ∧ Q v u.heap L ∧ FrameEnd s o u L C S
theorem own_leave (X : Stand p l e R s m args below meth c T locs cells slots) {v : Option Value} {Q : Option Value → Heap → List Loc → Prop} {C S : Nat} (hv : meth.sig.returnType = none → v = none) (hlk : meth.locks = false)
    (hst : ∀ fs, (∀ (f : JFrame) (acts : List Action), f.method = m → f.locked = none → f.entered = [] → (doReturn e (T.setTop f) acts v).1 = T.setFrames fs) → Steps p.tables e below (T.setTop g) (T.setFrames fs))
    (hC : cells ≤ C) (hS : slots ≤ S) (hQ : Q v T.heap locs) : own_Ends p e below (own_Post s below Q C S) T g := by
  obtain ⟨fs, hr, hrun, hended, hW, hsame⟩ := X.leave (v := v) hv hlk
  exact ⟨_, _, hst fs hr, hrun, hended, v, locs, rfl, hQ, ⟨_, rfl⟩, hW, hsame.mono hC hS⟩
theorem own_retV (X : Stand p l e R s m args below meth c T locs cells slots) (hx : p.tables.exec = Jvm.exec) (hlk : meth.locks = false) {Q : Option Value → Heap → List Loc → Prop} {C S : Nat} {pc : Nat} {Ls : Array Slot} (hret : meth.sig.returnType = none) (hd : decode c.code pc = .ok (.return_, 1))
    (hC : cells ≤ C) (hS : slots ≤ S) (hQ : Q none T.heap locs) : own_Ends p e below (own_Post s below Q C S) T (mkF m pc Ls []) :=
  own_leave X (fun _ => rfl) hlk (fun fs hr => X.returnOut hx hret hd hr) hC hS hQ
theorem own_retW (X : Stand p l e R s m args below meth c T locs cells slots) (hx : p.tables.exec = Jvm.exec) (hlk : meth.locks = false) {Q : Option Value → Heap → List Loc → Prop} {C S : Nat} {pc : Nat} {Ls : Array Slot} {w : Value} {t : FieldType} {i : Instr} {rest : List Value} (hret : meth.sig.returnType = some t) (hn : narrow t w = w)
    (hi : (i = .ireturn ∧ (t = .int ∨ t = .boolean ∨ t = .byte ∨ t = .char ∨ t = .short) ∧ ∃ z, w = .int z) ∨ (i = .lreturn ∧ t = .long ∧ ∃ z, w = .long z) ∨ (i = .dreturn ∧ t = .double ∧ ∃ z, w = .double z) ∨ (i = .freturn ∧ t = .float ∧ ∃ z, w = .float z) ∨ (i = .areturn ∧ t.isReference = true ∧ w.isRef = true))
    (hd : decode c.code pc = .ok (i, 1)) (hC : cells ≤ C) (hS : slots ≤ S) (hQ : Q (some w) T.heap locs) : own_Ends p e below (own_Post s below Q C S) T (mkF m pc Ls (w :: rest)) :=
  own_leave X (fun h => by rw [hret] at h; cases h) hlk (fun fs hr => retOut X hx hret hn hi hd hr) hC hS hQ
theorem own_retN (X : Stand p l e R s m args below meth c T locs cells slots) (hx : p.tables.exec = Jvm.exec) (hlk : meth.locks = false) {Q : Option Value → Heap → List Loc → Prop} {C S : Nat} {pc : Nat} {Ls : Array Slot} {z : Int32} {t : FieldType} {rest : List Value} (hret : meth.sig.returnType = some t) (ht : t = .boolean ∨ t = .byte ∨ t = .char ∨ t = .short)
    (hd : decode c.code pc = .ok (.ireturn, 1)) (hC : cells ≤ C) (hS : slots ≤ S) (hQ : Q (some (.int (nar t z))) T.heap locs) : own_Ends p e below (own_Post s below Q C S) T (mkF m pc Ls (.int z :: rest)) :=
  own_leave X (fun h => by rw [hret] at h; cases h) hlk (fun fs hr => retN X hx hret ht hd hr) hC hS hQ
theorem own_le {Z : State} {n0 : Nat} {h : Heap} (O : Old Z n0 h) : n0 ≤ h.size := O.1 ▸ O.2.1
theorem own_nb0 : nar .boolean 0 = 0 := rfl
theorem own_nb1 : nar .boolean 1 = 1 := rfl
theorem own_nb {b : Int32} (h : b = 0 ∨ b = 1) : nar .boolean b = b := by rcases h with rfl | rfl <;> rfl
end Own
theorem own_pd0 : parseMethodDescriptor "()Z" = some ⟨[], some .boolean⟩ := by decide +kernel
section OwnWords
variable {args : Array Value} {first s : State} {o : Option Outcome} {idx : List Nat}
theorem own_eqI {a : Term} {k : Int32} (h : (Cond.eq a (.int k)).value args first o s idx = some true) : a.eval args first o idx s = some (.int k) := by
  simp only [Cond.value, Term.eval] at h
  cases ha : a.eval args first o idx s with
  | none => simp [ha] at h
  | some x => cases x <;> simp [ha] at h ⊢ <;> exact h
theorem own_eqR {a b : Term} {y : Addr} (h : (Cond.eq a b).value args first o s idx = some true) (hb : b.eval args first o idx s = some (.ref y)) : a.eval args first o idx s = some (.ref y) := by
  simp only [Cond.value, hb] at h
  cases ha : a.eval args first o idx s with
  | none => simp [ha] at h
  | some x => cases x <;> simp [ha] at h ⊢ <;> exact h
end OwnWords

theorem own_nt_d0 : decode prog_1_method_4_code 0 = .ok (.aload_n 0, 1) := by decide +kernel
theorem own_nt_d1 : decode prog_1_method_4_code 1 = .ok (.getstatic 3, 3) := by decide +kernel
theorem own_nt_d4 : decode prog_1_method_4_code 4 = .ok (.if_acmp .eq 7, 3) := by decide +kernel
theorem own_nt_d7 : decode prog_1_method_4_code 7 = .ok (.iconst 1, 1) := by decide +kernel
theorem own_nt_d8 : decode prog_1_method_4_code 8 = .ok (.goto 4, 3) := by decide +kernel
theorem own_nt_d11 : decode prog_1_method_4_code 11 = .ok (.iconst 0, 1) := by decide +kernel
theorem own_nt_d12 : decode prog_1_method_4_code 12 = .ok (.ireturn, 1) := by decide +kernel
theorem own_nt_pn : plainFor (⟨"com/example/nuthatch/nuthatch/Analysis", "needsTarget", "()Z"⟩ : MethodName) = true := by first | exact plainFor_of_name (by first | (simp [plainName, overriddenIn]; done) | decide +kernel) | decide +kernel
theorem own_nt_ef (m : MethodId) (x0 : Addr) : entryFrame m #[(.ref x0)] 1 = mkF m 0 #[.val (.ref x0)] [] := by first | (simp [entryFrame, mkF, argsToLocals, Value.category]; done) | rfl
def own_nt_Q (Z : State) (a1 : Addr) (wCOUNT : Addr) (r : Int32) (h0 : Heap) (n0 : Nat) (v : Option Value) (h : Heap) (L : List Loc) : Prop := v = some (.int r) ∧ Fr n0 L ∧ h = h0
set_option maxRecDepth 65536 in
set_option maxHeartbeats 40000000 in
theorem own_nt (l : Launch) (Z : State) (a0 : Array Value) (hw : ∀ d ∈ tables_1, d.before a0 Z = true) (ws : List Jvm.Cond) (a1 : Addr) (wCOUNT : Addr) (r : Int32) (h0 : Heap) (n0 : Nat) (O : Old Z n0 h0) (S_COUNT : Sta Z Z.heap "com/example/nuthatch/nuthatch/Analysis" "COUNT" "Lcom/example/nuthatch/nuthatch/Analysis;" (.ref wCOUNT)) (hr : (a1 = wCOUNT → r = 0) ∧ (¬ a1 = wCOUNT → r = 1)) :
    MetFree l (⟨"com/example/nuthatch/nuthatch/Analysis", "needsTarget", "()Z"⟩ : MethodName) (head1 (Jvm.Cond.code (⟨"com/example/nuthatch/nuthatch/Analysis", "needsTarget", "()Z"⟩ : MethodName) prog_1_method_4_code 1 (some .boolean) :: ws) ({ frames := 0, cells := 0, slots := 0, locals := 0 } : Room)) (fun a U => a = #[(.ref a1)] ∧ Z.Warmed39 U.vm ∧ U.heap = h0) (fun _ _ _ _ _ => True) (fun _ U o U' => ∃ v L, o = .returned v ∧ own_nt_Q Z a1 wCOUNT r h0 n0 v U'.heap L ∧ FrameEnd U o U' L ({ frames := 0, cells := 0, slots := 0, locals := 0 } : Room).cells ({ frames := 0, cells := 0, slots := 0, locals := 0 } : Room).slots) := by
  refine MetFree.of_bodySF own_nt_pn hisR ?_
  intro p e s m args below meth c s₁ Bd hml0 hP hK
  obtain ⟨rfl, hZ, hh⟩ := hP
  have hx := Bd.exec
  have hby := Bd.bytes
  have hlk := Bd.notSynchronized
  have hml : c.maxLocals = 1 := hml0
  have hown : s.vm.findClass "com/example/nuthatch/nuthatch/Analysis" = some m.cls := findClass_of_methodNamed Bd.named
  have hnm := (name_of_methodNamed Bd.named Bd.method).1
  have X : Stand p l e ({ frames := 0, cells := 0, slots := 0, locals := 0 } : Room) s m #[(.ref a1)] below meth c s₁ [] 0 0 := Stand.of_body Bd
  have eT : s₁.heap = h0 := by rw [← hh, Bd.state]; rfl
  have N := Fr.nil n0
  have K0 := Keep.refl h0 []
  show own_Ends p e below (own_Post s below (own_nt_Q Z a1 wCOUNT r h0 n0) ({ frames := 0, cells := 0, slots := 0, locals := 0 } : Room).cells ({ frames := 0, cells := 0, slots := 0, locals := 0 } : Room).slots) s₁ (entryFrame m #[(.ref a1)] 1)
  rw [own_nt_ef m a1]
  obtain ⟨T, hT⟩ : ∃ z, z = s₁ := ⟨_, rfl⟩
  rw [← hT] at X eT ⊢
  obtain ⟨h, hh0⟩ : ∃ z, z = h0 := ⟨_, rfl⟩
  rw [← hh0] at eT
  replace O : Old Z n0 h := by rw [hh0]; exact O
  replace K0 : Keep h0 h [] := by rw [hh0]; exact K0
  refine own_via (T' := T) (g' := (mkF m 1 #[.val (.ref a1)] [(.ref a1)])) (fun t_ k_ => XS.aloadN X.here hx rfl (hb hby own_nt_d0) rfl rfl k_) ?_
  obtain ⟨T, X, eT, st⟩ := getS2 X hx hZ hown (host := "") (Or.inl (hw _ (List.mem_of_getElem? (i := 9) rfl))) Via.refl eT (S_COUNT.ext O.2) (g := (mkF m 1 #[.val (.ref a1)] [(.ref a1)])) rfl (hb hby own_nt_d1)
  refine own_via (g' := (mkF m 4 #[.val (.ref a1)] [(.ref wCOUNT), (.ref a1)])) st ?_
  by_cases hc1 : a1 = wCOUNT
  · refine own_via (T' := T) (g' := (mkF m 11 #[.val (.ref a1)] [])) (fun t_ k_ => Jvm.RoadKit.acmp (g := (mkF m 4 #[.val (.ref a1)] [(.ref wCOUNT), (.ref a1)])) X hx rfl rfl rfl (pc0 := 4) (pc' := 11) (same := true) rfl (hb hby own_nt_d4) rfl (decide_eq_true (congrArg Value.ref hc1)) (by decide) (by decide) k_) ?_
    refine own_via (T' := T) (g' := (mkF m 12 #[.val (.ref a1)] [(.int (0 : Int32))])) (fun t_ k_ => XS.iconst X.here hx rfl (hb hby own_nt_d11) k_) ?_
    refine own_retN X hx hlk (t := .boolean) Bd.returns (by simp) (hb hby own_nt_d12) (by decide) (by decide) ?_
    rw [eT]
    exact ⟨by rw [hr.1 hc1]; rfl, N, hh0⟩
  · refine own_via (T' := T) (g' := (mkF m 7 #[.val (.ref a1)] [])) (fun t_ k_ => Jvm.RoadKit.acmp (g := (mkF m 4 #[.val (.ref a1)] [(.ref wCOUNT), (.ref a1)])) X hx rfl rfl rfl (pc0 := 4) (pc' := 7) (same := false) rfl (hb hby own_nt_d4) rfl (decide_eq_false fun q => hc1 (Value.ref.inj q)) (by decide) (by decide) k_) ?_
    refine own_via (T' := T) (g' := (mkF m 8 #[.val (.ref a1)] [(.int (1 : Int32))])) (fun t_ k_ => XS.iconst X.here hx rfl (hb hby own_nt_d7) k_) ?_
    refine own_via (T' := T) (g' := (mkF m 12 #[.val (.ref a1)] [(.int (1 : Int32))])) (fun t_ k_ => XS.goto X.here hx rfl (pc0 := 8) (pc' := 12) rfl (hb hby own_nt_d8) (by decide) (by decide) k_) ?_
    refine own_retN X hx hlk (t := .boolean) Bd.returns (by simp) (hb hby own_nt_d12) (by decide) (by decide) ?_
    rw [eT]
    exact ⟨by rw [hr.2 hc1]; rfl, N, hh0⟩
theorem own_law_pn : plainFor x = true := by first | exact plainFor_of_name (by first | (simp [plainName, overriddenIn]; done) | decide +kernel) | decide +kernel
theorem own_law_ef (m : MethodId) (x0 : Int32) : entryFrame m #[(.int x0)] maxLocals = mkF m 0 #[.val (.int x0), .unset, .unset, .unset] [] := by first | (simp [entryFrame, mkF, argsToLocals, Value.category, maxLocals]; done) | rfl
def own_law_Q (Z : State) (p0 : Int32) (wCOUNT : Addr) (wSUM : Addr) (wAVERAGE : Addr) (wMINIMUM : Addr) (wMAXIMUM : Addr) (h0 : Heap) (n0 : Nat) (v : Option Value) (h : Heap) (L : List Loc) : Prop := v = some (.int (1 : Int32)) ∧ Fr n0 L ∧ True
set_option maxRecDepth 65536 in
set_option maxHeartbeats 40000000 in
theorem own_law (l : Launch) (Z : State) (a0 : Array Value) (hw : ∀ d ∈ tables_1, d.before a0 Z = true) (ws : List Jvm.Cond) (p0 : Int32) (wCOUNT : Addr) (wSUM : Addr) (wAVERAGE : Addr) (wMINIMUM : Addr) (wMAXIMUM : Addr) (h0 : Heap) (n0 : Nat) (O : Old Z n0 h0) (S_COUNT : Sta Z Z.heap "com/example/nuthatch/nuthatch/Analysis" "COUNT" "Lcom/example/nuthatch/nuthatch/Analysis;" (.ref wCOUNT)) (S_SUM : Sta Z Z.heap "com/example/nuthatch/nuthatch/Analysis" "SUM" "Lcom/example/nuthatch/nuthatch/Analysis;" (.ref wSUM)) (S_AVERAGE : Sta Z Z.heap "com/example/nuthatch/nuthatch/Analysis" "AVERAGE" "Lcom/example/nuthatch/nuthatch/Analysis;" (.ref wAVERAGE)) (S_MINIMUM : Sta Z Z.heap "com/example/nuthatch/nuthatch/Analysis" "MINIMUM" "Lcom/example/nuthatch/nuthatch/Analysis;" (.ref wMINIMUM)) (S_MAXIMUM : Sta Z Z.heap "com/example/nuthatch/nuthatch/Analysis" "MAXIMUM" "Lcom/example/nuthatch/nuthatch/Analysis;" (.ref wMAXIMUM)) (E_COUNT : Exa Z Z.heap wCOUNT "com/example/nuthatch/nuthatch/Analysis") (E_SUM : Exa Z Z.heap wSUM "com/example/nuthatch/nuthatch/Analysis") (E_AVERAGE : Exa Z Z.heap wAVERAGE "com/example/nuthatch/nuthatch/Analysis") (E_MINIMUM : Exa Z Z.heap wMINIMUM "com/example/nuthatch/nuthatch/Analysis") (E_MAXIMUM : Exa Z Z.heap wMAXIMUM "com/example/nuthatch/nuthatch/Analysis") (ne_wSUM : ¬ wSUM = wCOUNT) (ne_wAVERAGE : ¬ wAVERAGE = wCOUNT) (ne_wMINIMUM : ¬ wMINIMUM = wCOUNT) (ne_wMAXIMUM : ¬ wMAXIMUM = wCOUNT) :
    MetFree l x (head1 (Jvm.Cond.code x code maxLocals ret :: ws) room_1) (fun a U => a = #[(.int p0)] ∧ Z.Warmed39 U.vm ∧ U.heap = h0) (fun _ _ _ _ _ => True) (fun _ U o U' => ∃ v L, o = .returned v ∧ own_law_Q Z p0 wCOUNT wSUM wAVERAGE wMINIMUM wMAXIMUM h0 n0 v U'.heap L ∧ FrameEnd U o U' L room_1.cells room_1.slots) := by
  refine MetFree.of_bodySF own_law_pn hisR ?_
  intro p e s m args below meth c s₁ Bd hml0 hP hK
  obtain ⟨rfl, hZ, hh⟩ := hP
  have hx := Bd.exec
  have hby := Bd.bytes
  have hlk := Bd.notSynchronized
  have hml : c.maxLocals = 4 := hml0
  have hown : s.vm.findClass "com/example/nuthatch/nuthatch/AnalysisNeedsTargetPinLaw" = some m.cls := findClass_of_methodNamed Bd.named
  have hnm := (name_of_methodNamed Bd.named Bd.method).1
  have X : Stand p l e room_1 s m #[(.int p0)] below meth c s₁ [] 0 0 := Stand.of_body Bd
  have eT : s₁.heap = h0 := by rw [← hh, Bd.state]; rfl
  have N := Fr.nil n0
  have K0 := Keep.refl h0 []
  show own_Ends p e below (own_Post s below (own_law_Q Z p0 wCOUNT wSUM wAVERAGE wMINIMUM wMAXIMUM h0 n0) room_1.cells room_1.slots) s₁ (entryFrame m #[(.int p0)] maxLocals)
  rw [own_law_ef m p0]
  obtain ⟨T, hT⟩ : ∃ z, z = s₁ := ⟨_, rfl⟩
  rw [← hT] at X eT ⊢
  obtain ⟨h, hh0⟩ : ∃ z, z = h0 := ⟨_, rfl⟩
  rw [← hh0] at eT
  replace O : Old Z n0 h := by rw [hh0]; exact O
  replace K0 : Keep h0 h [] := by rw [hh0]; exact K0
  refine own_via (T' := T) (g' := (mkF m 1 #[.val (.int p0), .unset, .unset, .unset] [(.int p0)])) (fun t_ k_ => XS.iloadN X.here hx rfl (hb hby at_0) rfl k_) ?_
  refine own_via (T' := T) (g' := (mkF m 3 #[.val (.int p0), .unset, .unset, .unset] [(.int (2147483647 : Int32)), (.int p0)])) (fun t_ k_ => X.ldcInt hx hown (mvT hZ (hw _ (List.mem_of_getElem? (i := 0) rfl))) (g := (mkF m 1 #[.val (.int p0), .unset, .unset, .unset] [(.int p0)])) rfl (hb hby at_1) _ k_) ?_
  refine own_via (T' := T) (g' := (mkF m 4 #[.val (.int p0), .unset, .unset, .unset] [(.int (p0 &&& (2147483647 : Int32)))])) (fun t_ k_ => XS.iand X.here hx rfl (hb hby at_3) rfl k_) ?_
  refine own_via (T' := T) (g' := (mkF m 5 #[.val (.int p0), .unset, .unset, .unset] [(.int (5 : Int32)), (.int (p0 &&& (2147483647 : Int32)))])) (fun t_ k_ => XS.iconst X.here hx rfl (hb hby at_4) k_) ?_
  refine own_via (T' := T) (g' := (mkF m 6 #[.val (.int p0), .unset, .unset, .unset] [(.int ((p0 &&& (2147483647 : Int32)) % (5 : Int32)))])) (fun t_ k_ => iremM (g := (mkF m 5 #[.val (.int p0), .unset, .unset, .unset] [(.int (5 : Int32)), (.int (p0 &&& (2147483647 : Int32)))])) X hx rfl (hb hby at_5) rfl (by decide) k_) ?_
  obtain ⟨k, hd_k⟩ : ∃ z, z = ((p0 &&& (2147483647 : Int32)) % (5 : Int32)) := ⟨_, rfl⟩
  rw [← hd_k]
  refine own_via (T' := T) (g' := (mkF m 7 #[.val (.int p0), .val (.int k), .unset, .unset] [])) (fun t_ k_ => XS.istoreN X.here hx rfl (hb hby at_6) rfl (l' := #[.val (.int p0), .val (.int k), .unset, .unset]) rfl k_) ?_
  refine own_via (T' := T) (g' := (mkF m 8 #[.val (.int p0), .val (.int k), .unset, .unset] [(.int k)])) (fun t_ k_ => XS.iloadN X.here hx rfl (hb hby at_7) rfl k_) ?_
  by_cases hc1 : k = (0 : Int32)
  · refine own_via (T' := T) (g' := (mkF m 11 #[.val (.int p0), .val (.int k), .unset, .unset] [])) (fun t_ k_ => XS.ifNo X.here hx rfl (hb hby at_8) rfl ((if0 _ _).trans (teq hc1).2) k_) ?_
    obtain ⟨T, X, eT, st⟩ := getS2 X hx hZ hown (host := "") (Or.inl (hw _ (List.mem_of_getElem? (i := 1) rfl))) Via.refl eT (S_COUNT.ext O.2) (g := (mkF m 11 #[.val (.int p0), .val (.int k), .unset, .unset] [])) rfl (hb hby at_11)
    refine own_via (g' := (mkF m 14 #[.val (.int p0), .val (.int k), .unset, .unset] [(.ref wCOUNT)])) st ?_
    refine own_via (T' := T) (g' := (mkF m 15 #[.val (.int p0), .val (.int k), .val (.ref wCOUNT), .unset] [])) (fun t_ k_ => XS.astoreN X.here hx rfl (hb hby at_14) rfl rfl (l' := #[.val (.int p0), .val (.int k), .val (.ref wCOUNT), .unset]) rfl k_) ?_
    refine own_via (T' := T) (g' := (mkF m 16 #[.val (.int p0), .val (.int k), .val (.ref wCOUNT), .unset] [(.int (0 : Int32))])) (fun t_ k_ => XS.iconst X.here hx rfl (hb hby at_15) k_) ?_
    refine own_via (T' := T) (g' := (mkF m 17 #[.val (.int p0), .val (.int k), .val (.ref wCOUNT), .val (.int (0 : Int32))] [])) (fun t_ k_ => XS.istoreN X.here hx rfl (hb hby at_16) rfl (l' := #[.val (.int p0), .val (.int k), .val (.ref wCOUNT), .val (.int (0 : Int32))]) rfl k_) ?_
    refine own_via (T' := T) (g' := (mkF m 68 #[.val (.int p0), .val (.int k), .val (.ref wCOUNT), .val (.int (0 : Int32))] [])) (fun t_ k_ => XS.goto X.here hx rfl (pc0 := 17) (pc' := 68) rfl (hb hby at_17) (by decide) (by decide) k_) ?_
    refine own_via (T' := T) (g' := (mkF m 69 #[.val (.int p0), .val (.int k), .val (.ref wCOUNT), .val (.int (0 : Int32))] [(.ref wCOUNT)])) (fun t_ k_ => XS.aloadN X.here hx rfl (hb hby at_68) rfl rfl k_) ?_
    obtain ⟨cq, kq, qa, qb, qc⟩ := isOf hZ eT (E_COUNT.ext O.2)
    obtain ⟨_, _, ⟨T, Lq, kq, nq⟩, -, X, ⟨Lc, hQ, lq, yq, zq⟩, st⟩ := X.virtualBack hx (y := (⟨"com/example/nuthatch/nuthatch/Analysis", "needsTarget", "()Z"⟩ : MethodName)) (z := (⟨"com/example/nuthatch/nuthatch/Analysis", "needsTarget", "()Z"⟩ : MethodName)) hown (mvT hZ (hw _ (List.mem_of_getElem? (i := 4) rfl))) (mvT hZ (hw _ (List.mem_of_getElem? (i := 5) rfl))) (notFace_of_selects (args := #[]) (mvT hZ (hw _ (List.mem_of_getElem? (i := 7) rfl)))) (mvT hZ (hw _ (List.mem_of_getElem? (i := 7) rfl))) (mvT hZ (hw _ (List.mem_of_getElem? (i := 6) rfl))) (by decide) (backOf (W := 0) (own_nt l Z a0 hw [] wCOUNT wCOUNT 0 h n0 O S_COUNT ⟨fun _ => rfl, fun q => absurd rfl q⟩) hZ (hw _ (List.mem_of_getElem? (i := 8) rfl)) (hw _ (List.mem_of_getElem? (i := 2) rfl)) (by decide) (by decide)) qa qc (g := (mkF m 69 #[.val (.int p0), .val (.int k), .val (.ref wCOUNT), .val (.int (0 : Int32))] [(.ref wCOUNT)])) rfl (by rw [hml]; rfl) (Steps.refl _) (argsL := []) (rest := []) (lenOf own_pd0 rfl) rfl (by show 2 * 0 + _ ≤ _; exact Nat.le_of_eq rfl) (hb hby at_69) (fun _ _ => ⟨rfl, eT, (by decide : 0 + 0 ≤ _), (by decide : 0 + 0 ≤ _)⟩)
    dsimp only [Pt.U, Pt.locs, Pt.cells, Pt.slots] at X lq yq zq st hQ
    subst lq yq zq
    obtain ⟨rfl, Nq, eT⟩ := hQ
    replace N := Fr.app N Nq
    refine own_viaT (g' := (mkF m 72 #[.val (.int p0), .val (.int k), .val (.ref wCOUNT), .val (.int (0 : Int32))] [(.int (0 : Int32))])) st ?_
    refine own_via (T' := T) (g' := (mkF m 73 #[.val (.int p0), .val (.int k), .val (.ref wCOUNT), .val (.int (0 : Int32))] [(.int (0 : Int32)), (.int (0 : Int32))])) (fun t_ k_ => XS.iloadN X.here hx rfl (hb hby at_72) rfl k_) ?_
    refine own_via (T' := T) (g' := (mkF m 76 #[.val (.int p0), .val (.int k), .val (.ref wCOUNT), .val (.int (0 : Int32))] [])) (fun t_ k_ => XS.icmpNo X.here hx rfl (hb hby at_73) rfl (teq (by decide : (0 : Int32) = (0 : Int32))).2 k_) ?_
    refine own_via (T' := T) (g' := (mkF m 77 #[.val (.int p0), .val (.int k), .val (.ref wCOUNT), .val (.int (0 : Int32))] [(.int (1 : Int32))])) (fun t_ k_ => XS.iconst X.here hx rfl (hb hby at_76) k_) ?_
    refine own_via (T' := T) (g' := (mkF m 81 #[.val (.int p0), .val (.int k), .val (.ref wCOUNT), .val (.int (0 : Int32))] [(.int (1 : Int32))])) (fun t_ k_ => XS.goto X.here hx rfl (pc0 := 77) (pc' := 81) rfl (hb hby at_77) (by decide) (by decide) k_) ?_
    refine own_retN X hx hlk (t := .boolean) Bd.returns (by simp) (hb hby at_81) (by decide) (by decide) ?_
    rw [eT]
    exact ⟨rfl, N, trivial⟩
  · refine own_via (T' := T) (g' := (mkF m 20 #[.val (.int p0), .val (.int k), .unset, .unset] [])) (fun t_ k_ => XS.ifYes X.here hx rfl (pc0 := 8) (pc' := 20) rfl (hb hby at_8) rfl ((if0 _ _).trans (feq hc1).2) (by decide) (by decide) k_) ?_
    refine own_via (T' := T) (g' := (mkF m 21 #[.val (.int p0), .val (.int k), .unset, .unset] [(.int k)])) (fun t_ k_ => XS.iloadN X.here hx rfl (hb hby at_20) rfl k_) ?_
    refine own_via (T' := T) (g' := (mkF m 22 #[.val (.int p0), .val (.int k), .unset, .unset] [(.int (1 : Int32)), (.int k)])) (fun t_ k_ => XS.iconst X.here hx rfl (hb hby at_21) k_) ?_
    by_cases hc2 : k = (1 : Int32)
    · refine own_via (T' := T) (g' := (mkF m 25 #[.val (.int p0), .val (.int k), .unset, .unset] [])) (fun t_ k_ => XS.icmpNo X.here hx rfl (hb hby at_22) rfl (teq hc2).2 k_) ?_
      obtain ⟨T, X, eT, st⟩ := getS2 X hx hZ hown (host := "") (Or.inl (hw _ (List.mem_of_getElem? (i := 12) rfl))) Via.refl eT (S_SUM.ext O.2) (g := (mkF m 25 #[.val (.int p0), .val (.int k), .unset, .unset] [])) rfl (hb hby at_25)
      refine own_via (g' := (mkF m 28 #[.val (.int p0), .val (.int k), .unset, .unset] [(.ref wSUM)])) st ?_
      refine own_via (T' := T) (g' := (mkF m 29 #[.val (.int p0), .val (.int k), .val (.ref wSUM), .unset] [])) (fun t_ k_ => XS.astoreN X.here hx rfl (hb hby at_28) rfl rfl (l' := #[.val (.int p0), .val (.int k), .val (.ref wSUM), .unset]) rfl k_) ?_
      refine own_via (T' := T) (g' := (mkF m 30 #[.val (.int p0), .val (.int k), .val (.ref wSUM), .unset] [(.int (1 : Int32))])) (fun t_ k_ => XS.iconst X.here hx rfl (hb hby at_29) k_) ?_
      refine own_via (T' := T) (g' := (mkF m 31 #[.val (.int p0), .val (.int k), .val (.ref wSUM), .val (.int (1 : Int32))] [])) (fun t_ k_ => XS.istoreN X.here hx rfl (hb hby at_30) rfl (l' := #[.val (.int p0), .val (.int k), .val (.ref wSUM), .val (.int (1 : Int32))]) rfl k_) ?_
      refine own_via (T' := T) (g' := (mkF m 68 #[.val (.int p0), .val (.int k), .val (.ref wSUM), .val (.int (1 : Int32))] [])) (fun t_ k_ => XS.goto X.here hx rfl (pc0 := 31) (pc' := 68) rfl (hb hby at_31) (by decide) (by decide) k_) ?_
      refine own_via (T' := T) (g' := (mkF m 69 #[.val (.int p0), .val (.int k), .val (.ref wSUM), .val (.int (1 : Int32))] [(.ref wSUM)])) (fun t_ k_ => XS.aloadN X.here hx rfl (hb hby at_68) rfl rfl k_) ?_
      obtain ⟨cq, kq, qa, qb, qc⟩ := isOf hZ eT (E_SUM.ext O.2)
      obtain ⟨_, _, ⟨T, Lq, kq, nq⟩, -, X, ⟨Lc, hQ, lq, yq, zq⟩, st⟩ := X.virtualBack hx (y := (⟨"com/example/nuthatch/nuthatch/Analysis", "needsTarget", "()Z"⟩ : MethodName)) (z := (⟨"com/example/nuthatch/nuthatch/Analysis", "needsTarget", "()Z"⟩ : MethodName)) hown (mvT hZ (hw _ (List.mem_of_getElem? (i := 4) rfl))) (mvT hZ (hw _ (List.mem_of_getElem? (i := 5) rfl))) (notFace_of_selects (args := #[]) (mvT hZ (hw _ (List.mem_of_getElem? (i := 7) rfl)))) (mvT hZ (hw _ (List.mem_of_getElem? (i := 7) rfl))) (mvT hZ (hw _ (List.mem_of_getElem? (i := 6) rfl))) (by decide) (backOf (W := 0) (own_nt l Z a0 hw [] wSUM wCOUNT 1 h n0 O S_COUNT ⟨fun q => absurd q ne_wSUM, fun _ => rfl⟩) hZ (hw _ (List.mem_of_getElem? (i := 8) rfl)) (hw _ (List.mem_of_getElem? (i := 2) rfl)) (by decide) (by decide)) qa qc (g := (mkF m 69 #[.val (.int p0), .val (.int k), .val (.ref wSUM), .val (.int (1 : Int32))] [(.ref wSUM)])) rfl (by rw [hml]; rfl) (Steps.refl _) (argsL := []) (rest := []) (lenOf own_pd0 rfl) rfl (by show 2 * 0 + _ ≤ _; exact Nat.le_of_eq rfl) (hb hby at_69) (fun _ _ => ⟨rfl, eT, (by decide : 0 + 0 ≤ _), (by decide : 0 + 0 ≤ _)⟩)
      dsimp only [Pt.U, Pt.locs, Pt.cells, Pt.slots] at X lq yq zq st hQ
      subst lq yq zq
      obtain ⟨rfl, Nq, eT⟩ := hQ
      replace N := Fr.app N Nq
      refine own_viaT (g' := (mkF m 72 #[.val (.int p0), .val (.int k), .val (.ref wSUM), .val (.int (1 : Int32))] [(.int (1 : Int32))])) st ?_
      refine own_via (T' := T) (g' := (mkF m 73 #[.val (.int p0), .val (.int k), .val (.ref wSUM), .val (.int (1 : Int32))] [(.int (1 : Int32)), (.int (1 : Int32))])) (fun t_ k_ => XS.iloadN X.here hx rfl (hb hby at_72) rfl k_) ?_
      refine own_via (T' := T) (g' := (mkF m 76 #[.val (.int p0), .val (.int k), .val (.ref wSUM), .val (.int (1 : Int32))] [])) (fun t_ k_ => XS.icmpNo X.here hx rfl (hb hby at_73) rfl (teq (by decide : (1 : Int32) = (1 : Int32))).2 k_) ?_
      refine own_via (T' := T) (g' := (mkF m 77 #[.val (.int p0), .val (.int k), .val (.ref wSUM), .val (.int (1 : Int32))] [(.int (1 : Int32))])) (fun t_ k_ => XS.iconst X.here hx rfl (hb hby at_76) k_) ?_
      refine own_via (T' := T) (g' := (mkF m 81 #[.val (.int p0), .val (.int k), .val (.ref wSUM), .val (.int (1 : Int32))] [(.int (1 : Int32))])) (fun t_ k_ => XS.goto X.here hx rfl (pc0 := 77) (pc' := 81) rfl (hb hby at_77) (by decide) (by decide) k_) ?_
      refine own_retN X hx hlk (t := .boolean) Bd.returns (by simp) (hb hby at_81) (by decide) (by decide) ?_
      rw [eT]
      exact ⟨rfl, N, trivial⟩
    · refine own_via (T' := T) (g' := (mkF m 34 #[.val (.int p0), .val (.int k), .unset, .unset] [])) (fun t_ k_ => XS.icmpYes X.here hx rfl (pc0 := 22) (pc' := 34) rfl (hb hby at_22) rfl (feq hc2).2 (by decide) (by decide) k_) ?_
      refine own_via (T' := T) (g' := (mkF m 35 #[.val (.int p0), .val (.int k), .unset, .unset] [(.int k)])) (fun t_ k_ => XS.iloadN X.here hx rfl (hb hby at_34) rfl k_) ?_
      refine own_via (T' := T) (g' := (mkF m 36 #[.val (.int p0), .val (.int k), .unset, .unset] [(.int (2 : Int32)), (.int k)])) (fun t_ k_ => XS.iconst X.here hx rfl (hb hby at_35) k_) ?_
      by_cases hc3 : k = (2 : Int32)
      · refine own_via (T' := T) (g' := (mkF m 39 #[.val (.int p0), .val (.int k), .unset, .unset] [])) (fun t_ k_ => XS.icmpNo X.here hx rfl (hb hby at_36) rfl (teq hc3).2 k_) ?_
        obtain ⟨T, X, eT, st⟩ := getS2 X hx hZ hown (host := "") (Or.inl (hw _ (List.mem_of_getElem? (i := 16) rfl))) Via.refl eT (S_AVERAGE.ext O.2) (g := (mkF m 39 #[.val (.int p0), .val (.int k), .unset, .unset] [])) rfl (hb hby at_39)
        refine own_via (g' := (mkF m 42 #[.val (.int p0), .val (.int k), .unset, .unset] [(.ref wAVERAGE)])) st ?_
        refine own_via (T' := T) (g' := (mkF m 43 #[.val (.int p0), .val (.int k), .val (.ref wAVERAGE), .unset] [])) (fun t_ k_ => XS.astoreN X.here hx rfl (hb hby at_42) rfl rfl (l' := #[.val (.int p0), .val (.int k), .val (.ref wAVERAGE), .unset]) rfl k_) ?_
        refine own_via (T' := T) (g' := (mkF m 44 #[.val (.int p0), .val (.int k), .val (.ref wAVERAGE), .unset] [(.int (1 : Int32))])) (fun t_ k_ => XS.iconst X.here hx rfl (hb hby at_43) k_) ?_
        refine own_via (T' := T) (g' := (mkF m 45 #[.val (.int p0), .val (.int k), .val (.ref wAVERAGE), .val (.int (1 : Int32))] [])) (fun t_ k_ => XS.istoreN X.here hx rfl (hb hby at_44) rfl (l' := #[.val (.int p0), .val (.int k), .val (.ref wAVERAGE), .val (.int (1 : Int32))]) rfl k_) ?_
        refine own_via (T' := T) (g' := (mkF m 68 #[.val (.int p0), .val (.int k), .val (.ref wAVERAGE), .val (.int (1 : Int32))] [])) (fun t_ k_ => XS.goto X.here hx rfl (pc0 := 45) (pc' := 68) rfl (hb hby at_45) (by decide) (by decide) k_) ?_
        refine own_via (T' := T) (g' := (mkF m 69 #[.val (.int p0), .val (.int k), .val (.ref wAVERAGE), .val (.int (1 : Int32))] [(.ref wAVERAGE)])) (fun t_ k_ => XS.aloadN X.here hx rfl (hb hby at_68) rfl rfl k_) ?_
        obtain ⟨cq, kq, qa, qb, qc⟩ := isOf hZ eT (E_AVERAGE.ext O.2)
        obtain ⟨_, _, ⟨T, Lq, kq, nq⟩, -, X, ⟨Lc, hQ, lq, yq, zq⟩, st⟩ := X.virtualBack hx (y := (⟨"com/example/nuthatch/nuthatch/Analysis", "needsTarget", "()Z"⟩ : MethodName)) (z := (⟨"com/example/nuthatch/nuthatch/Analysis", "needsTarget", "()Z"⟩ : MethodName)) hown (mvT hZ (hw _ (List.mem_of_getElem? (i := 4) rfl))) (mvT hZ (hw _ (List.mem_of_getElem? (i := 5) rfl))) (notFace_of_selects (args := #[]) (mvT hZ (hw _ (List.mem_of_getElem? (i := 7) rfl)))) (mvT hZ (hw _ (List.mem_of_getElem? (i := 7) rfl))) (mvT hZ (hw _ (List.mem_of_getElem? (i := 6) rfl))) (by decide) (backOf (W := 0) (own_nt l Z a0 hw [] wAVERAGE wCOUNT 1 h n0 O S_COUNT ⟨fun q => absurd q ne_wAVERAGE, fun _ => rfl⟩) hZ (hw _ (List.mem_of_getElem? (i := 8) rfl)) (hw _ (List.mem_of_getElem? (i := 2) rfl)) (by decide) (by decide)) qa qc (g := (mkF m 69 #[.val (.int p0), .val (.int k), .val (.ref wAVERAGE), .val (.int (1 : Int32))] [(.ref wAVERAGE)])) rfl (by rw [hml]; rfl) (Steps.refl _) (argsL := []) (rest := []) (lenOf own_pd0 rfl) rfl (by show 2 * 0 + _ ≤ _; exact Nat.le_of_eq rfl) (hb hby at_69) (fun _ _ => ⟨rfl, eT, (by decide : 0 + 0 ≤ _), (by decide : 0 + 0 ≤ _)⟩)
        dsimp only [Pt.U, Pt.locs, Pt.cells, Pt.slots] at X lq yq zq st hQ
        subst lq yq zq
        obtain ⟨rfl, Nq, eT⟩ := hQ
        replace N := Fr.app N Nq
        refine own_viaT (g' := (mkF m 72 #[.val (.int p0), .val (.int k), .val (.ref wAVERAGE), .val (.int (1 : Int32))] [(.int (1 : Int32))])) st ?_
        refine own_via (T' := T) (g' := (mkF m 73 #[.val (.int p0), .val (.int k), .val (.ref wAVERAGE), .val (.int (1 : Int32))] [(.int (1 : Int32)), (.int (1 : Int32))])) (fun t_ k_ => XS.iloadN X.here hx rfl (hb hby at_72) rfl k_) ?_
        refine own_via (T' := T) (g' := (mkF m 76 #[.val (.int p0), .val (.int k), .val (.ref wAVERAGE), .val (.int (1 : Int32))] [])) (fun t_ k_ => XS.icmpNo X.here hx rfl (hb hby at_73) rfl (teq (by decide : (1 : Int32) = (1 : Int32))).2 k_) ?_
        refine own_via (T' := T) (g' := (mkF m 77 #[.val (.int p0), .val (.int k), .val (.ref wAVERAGE), .val (.int (1 : Int32))] [(.int (1 : Int32))])) (fun t_ k_ => XS.iconst X.here hx rfl (hb hby at_76) k_) ?_
        refine own_via (T' := T) (g' := (mkF m 81 #[.val (.int p0), .val (.int k), .val (.ref wAVERAGE), .val (.int (1 : Int32))] [(.int (1 : Int32))])) (fun t_ k_ => XS.goto X.here hx rfl (pc0 := 77) (pc' := 81) rfl (hb hby at_77) (by decide) (by decide) k_) ?_
        refine own_retN X hx hlk (t := .boolean) Bd.returns (by simp) (hb hby at_81) (by decide) (by decide) ?_
        rw [eT]
        exact ⟨rfl, N, trivial⟩
      · refine own_via (T' := T) (g' := (mkF m 48 #[.val (.int p0), .val (.int k), .unset, .unset] [])) (fun t_ k_ => XS.icmpYes X.here hx rfl (pc0 := 36) (pc' := 48) rfl (hb hby at_36) rfl (feq hc3).2 (by decide) (by decide) k_) ?_
        refine own_via (T' := T) (g' := (mkF m 49 #[.val (.int p0), .val (.int k), .unset, .unset] [(.int k)])) (fun t_ k_ => XS.iloadN X.here hx rfl (hb hby at_48) rfl k_) ?_
        refine own_via (T' := T) (g' := (mkF m 50 #[.val (.int p0), .val (.int k), .unset, .unset] [(.int (3 : Int32)), (.int k)])) (fun t_ k_ => XS.iconst X.here hx rfl (hb hby at_49) k_) ?_
        by_cases hc4 : k = (3 : Int32)
        · refine own_via (T' := T) (g' := (mkF m 53 #[.val (.int p0), .val (.int k), .unset, .unset] [])) (fun t_ k_ => XS.icmpNo X.here hx rfl (hb hby at_50) rfl (teq hc4).2 k_) ?_
          obtain ⟨T, X, eT, st⟩ := getS2 X hx hZ hown (host := "") (Or.inl (hw _ (List.mem_of_getElem? (i := 10) rfl))) Via.refl eT (S_MINIMUM.ext O.2) (g := (mkF m 53 #[.val (.int p0), .val (.int k), .unset, .unset] [])) rfl (hb hby at_53)
          refine own_via (g' := (mkF m 56 #[.val (.int p0), .val (.int k), .unset, .unset] [(.ref wMINIMUM)])) st ?_
          refine own_via (T' := T) (g' := (mkF m 57 #[.val (.int p0), .val (.int k), .val (.ref wMINIMUM), .unset] [])) (fun t_ k_ => XS.astoreN X.here hx rfl (hb hby at_56) rfl rfl (l' := #[.val (.int p0), .val (.int k), .val (.ref wMINIMUM), .unset]) rfl k_) ?_
          refine own_via (T' := T) (g' := (mkF m 58 #[.val (.int p0), .val (.int k), .val (.ref wMINIMUM), .unset] [(.int (1 : Int32))])) (fun t_ k_ => XS.iconst X.here hx rfl (hb hby at_57) k_) ?_
          refine own_via (T' := T) (g' := (mkF m 59 #[.val (.int p0), .val (.int k), .val (.ref wMINIMUM), .val (.int (1 : Int32))] [])) (fun t_ k_ => XS.istoreN X.here hx rfl (hb hby at_58) rfl (l' := #[.val (.int p0), .val (.int k), .val (.ref wMINIMUM), .val (.int (1 : Int32))]) rfl k_) ?_
          refine own_via (T' := T) (g' := (mkF m 68 #[.val (.int p0), .val (.int k), .val (.ref wMINIMUM), .val (.int (1 : Int32))] [])) (fun t_ k_ => XS.goto X.here hx rfl (pc0 := 59) (pc' := 68) rfl (hb hby at_59) (by decide) (by decide) k_) ?_
          refine own_via (T' := T) (g' := (mkF m 69 #[.val (.int p0), .val (.int k), .val (.ref wMINIMUM), .val (.int (1 : Int32))] [(.ref wMINIMUM)])) (fun t_ k_ => XS.aloadN X.here hx rfl (hb hby at_68) rfl rfl k_) ?_
          obtain ⟨cq, kq, qa, qb, qc⟩ := isOf hZ eT (E_MINIMUM.ext O.2)
          obtain ⟨_, _, ⟨T, Lq, kq, nq⟩, -, X, ⟨Lc, hQ, lq, yq, zq⟩, st⟩ := X.virtualBack hx (y := (⟨"com/example/nuthatch/nuthatch/Analysis", "needsTarget", "()Z"⟩ : MethodName)) (z := (⟨"com/example/nuthatch/nuthatch/Analysis", "needsTarget", "()Z"⟩ : MethodName)) hown (mvT hZ (hw _ (List.mem_of_getElem? (i := 4) rfl))) (mvT hZ (hw _ (List.mem_of_getElem? (i := 5) rfl))) (notFace_of_selects (args := #[]) (mvT hZ (hw _ (List.mem_of_getElem? (i := 7) rfl)))) (mvT hZ (hw _ (List.mem_of_getElem? (i := 7) rfl))) (mvT hZ (hw _ (List.mem_of_getElem? (i := 6) rfl))) (by decide) (backOf (W := 0) (own_nt l Z a0 hw [] wMINIMUM wCOUNT 1 h n0 O S_COUNT ⟨fun q => absurd q ne_wMINIMUM, fun _ => rfl⟩) hZ (hw _ (List.mem_of_getElem? (i := 8) rfl)) (hw _ (List.mem_of_getElem? (i := 2) rfl)) (by decide) (by decide)) qa qc (g := (mkF m 69 #[.val (.int p0), .val (.int k), .val (.ref wMINIMUM), .val (.int (1 : Int32))] [(.ref wMINIMUM)])) rfl (by rw [hml]; rfl) (Steps.refl _) (argsL := []) (rest := []) (lenOf own_pd0 rfl) rfl (by show 2 * 0 + _ ≤ _; exact Nat.le_of_eq rfl) (hb hby at_69) (fun _ _ => ⟨rfl, eT, (by decide : 0 + 0 ≤ _), (by decide : 0 + 0 ≤ _)⟩)
          dsimp only [Pt.U, Pt.locs, Pt.cells, Pt.slots] at X lq yq zq st hQ
          subst lq yq zq
          obtain ⟨rfl, Nq, eT⟩ := hQ
          replace N := Fr.app N Nq
          refine own_viaT (g' := (mkF m 72 #[.val (.int p0), .val (.int k), .val (.ref wMINIMUM), .val (.int (1 : Int32))] [(.int (1 : Int32))])) st ?_
          refine own_via (T' := T) (g' := (mkF m 73 #[.val (.int p0), .val (.int k), .val (.ref wMINIMUM), .val (.int (1 : Int32))] [(.int (1 : Int32)), (.int (1 : Int32))])) (fun t_ k_ => XS.iloadN X.here hx rfl (hb hby at_72) rfl k_) ?_
          refine own_via (T' := T) (g' := (mkF m 76 #[.val (.int p0), .val (.int k), .val (.ref wMINIMUM), .val (.int (1 : Int32))] [])) (fun t_ k_ => XS.icmpNo X.here hx rfl (hb hby at_73) rfl (teq (by decide : (1 : Int32) = (1 : Int32))).2 k_) ?_
          refine own_via (T' := T) (g' := (mkF m 77 #[.val (.int p0), .val (.int k), .val (.ref wMINIMUM), .val (.int (1 : Int32))] [(.int (1 : Int32))])) (fun t_ k_ => XS.iconst X.here hx rfl (hb hby at_76) k_) ?_
          refine own_via (T' := T) (g' := (mkF m 81 #[.val (.int p0), .val (.int k), .val (.ref wMINIMUM), .val (.int (1 : Int32))] [(.int (1 : Int32))])) (fun t_ k_ => XS.goto X.here hx rfl (pc0 := 77) (pc' := 81) rfl (hb hby at_77) (by decide) (by decide) k_) ?_
          refine own_retN X hx hlk (t := .boolean) Bd.returns (by simp) (hb hby at_81) (by decide) (by decide) ?_
          rw [eT]
          exact ⟨rfl, N, trivial⟩
        · refine own_via (T' := T) (g' := (mkF m 62 #[.val (.int p0), .val (.int k), .unset, .unset] [])) (fun t_ k_ => XS.icmpYes X.here hx rfl (pc0 := 50) (pc' := 62) rfl (hb hby at_50) rfl (feq hc4).2 (by decide) (by decide) k_) ?_
          obtain ⟨T, X, eT, st⟩ := getS2 X hx hZ hown (host := "") (Or.inl (hw _ (List.mem_of_getElem? (i := 14) rfl))) Via.refl eT (S_MAXIMUM.ext O.2) (g := (mkF m 62 #[.val (.int p0), .val (.int k), .unset, .unset] [])) rfl (hb hby at_62)
          refine own_via (g' := (mkF m 65 #[.val (.int p0), .val (.int k), .unset, .unset] [(.ref wMAXIMUM)])) st ?_
          refine own_via (T' := T) (g' := (mkF m 66 #[.val (.int p0), .val (.int k), .val (.ref wMAXIMUM), .unset] [])) (fun t_ k_ => XS.astoreN X.here hx rfl (hb hby at_65) rfl rfl (l' := #[.val (.int p0), .val (.int k), .val (.ref wMAXIMUM), .unset]) rfl k_) ?_
          refine own_via (T' := T) (g' := (mkF m 67 #[.val (.int p0), .val (.int k), .val (.ref wMAXIMUM), .unset] [(.int (1 : Int32))])) (fun t_ k_ => XS.iconst X.here hx rfl (hb hby at_66) k_) ?_
          refine own_via (T' := T) (g' := (mkF m 68 #[.val (.int p0), .val (.int k), .val (.ref wMAXIMUM), .val (.int (1 : Int32))] [])) (fun t_ k_ => XS.istoreN X.here hx rfl (hb hby at_67) rfl (l' := #[.val (.int p0), .val (.int k), .val (.ref wMAXIMUM), .val (.int (1 : Int32))]) rfl k_) ?_
          refine own_via (T' := T) (g' := (mkF m 69 #[.val (.int p0), .val (.int k), .val (.ref wMAXIMUM), .val (.int (1 : Int32))] [(.ref wMAXIMUM)])) (fun t_ k_ => XS.aloadN X.here hx rfl (hb hby at_68) rfl rfl k_) ?_
          obtain ⟨cq, kq, qa, qb, qc⟩ := isOf hZ eT (E_MAXIMUM.ext O.2)
          obtain ⟨_, _, ⟨T, Lq, kq, nq⟩, -, X, ⟨Lc, hQ, lq, yq, zq⟩, st⟩ := X.virtualBack hx (y := (⟨"com/example/nuthatch/nuthatch/Analysis", "needsTarget", "()Z"⟩ : MethodName)) (z := (⟨"com/example/nuthatch/nuthatch/Analysis", "needsTarget", "()Z"⟩ : MethodName)) hown (mvT hZ (hw _ (List.mem_of_getElem? (i := 4) rfl))) (mvT hZ (hw _ (List.mem_of_getElem? (i := 5) rfl))) (notFace_of_selects (args := #[]) (mvT hZ (hw _ (List.mem_of_getElem? (i := 7) rfl)))) (mvT hZ (hw _ (List.mem_of_getElem? (i := 7) rfl))) (mvT hZ (hw _ (List.mem_of_getElem? (i := 6) rfl))) (by decide) (backOf (W := 0) (own_nt l Z a0 hw [] wMAXIMUM wCOUNT 1 h n0 O S_COUNT ⟨fun q => absurd q ne_wMAXIMUM, fun _ => rfl⟩) hZ (hw _ (List.mem_of_getElem? (i := 8) rfl)) (hw _ (List.mem_of_getElem? (i := 2) rfl)) (by decide) (by decide)) qa qc (g := (mkF m 69 #[.val (.int p0), .val (.int k), .val (.ref wMAXIMUM), .val (.int (1 : Int32))] [(.ref wMAXIMUM)])) rfl (by rw [hml]; rfl) (Steps.refl _) (argsL := []) (rest := []) (lenOf own_pd0 rfl) rfl (by show 2 * 0 + _ ≤ _; exact Nat.le_of_eq rfl) (hb hby at_69) (fun _ _ => ⟨rfl, eT, (by decide : 0 + 0 ≤ _), (by decide : 0 + 0 ≤ _)⟩)
          dsimp only [Pt.U, Pt.locs, Pt.cells, Pt.slots] at X lq yq zq st hQ
          subst lq yq zq
          obtain ⟨rfl, Nq, eT⟩ := hQ
          replace N := Fr.app N Nq
          refine own_viaT (g' := (mkF m 72 #[.val (.int p0), .val (.int k), .val (.ref wMAXIMUM), .val (.int (1 : Int32))] [(.int (1 : Int32))])) st ?_
          refine own_via (T' := T) (g' := (mkF m 73 #[.val (.int p0), .val (.int k), .val (.ref wMAXIMUM), .val (.int (1 : Int32))] [(.int (1 : Int32)), (.int (1 : Int32))])) (fun t_ k_ => XS.iloadN X.here hx rfl (hb hby at_72) rfl k_) ?_
          refine own_via (T' := T) (g' := (mkF m 76 #[.val (.int p0), .val (.int k), .val (.ref wMAXIMUM), .val (.int (1 : Int32))] [])) (fun t_ k_ => XS.icmpNo X.here hx rfl (hb hby at_73) rfl (teq (by decide : (1 : Int32) = (1 : Int32))).2 k_) ?_
          refine own_via (T' := T) (g' := (mkF m 77 #[.val (.int p0), .val (.int k), .val (.ref wMAXIMUM), .val (.int (1 : Int32))] [(.int (1 : Int32))])) (fun t_ k_ => XS.iconst X.here hx rfl (hb hby at_76) k_) ?_
          refine own_via (T' := T) (g' := (mkF m 81 #[.val (.int p0), .val (.int k), .val (.ref wMAXIMUM), .val (.int (1 : Int32))] [(.int (1 : Int32))])) (fun t_ k_ => XS.goto X.here hx rfl (pc0 := 77) (pc' := 81) rfl (hb hby at_77) (by decide) (by decide) k_) ?_
          refine own_retN X hx hlk (t := .boolean) Bd.returns (by simp) (hb hby at_81) (by decide) (by decide) ?_
          rw [eT]
          exact ⟨rfl, N, trivial⟩
set_option maxRecDepth 65536 in
set_option maxHeartbeats 40000000 in
theorem comes_1 {Post : Tables → Env → Array Value → State → Outcome → State → Prop} (hpost : ∀ tb e args s v u, (limb_1_1.after args s (.returned v) u = true ∧ limb_1_2.after args s (.returned v) u = true ∧ True) → FrameEnd s (.returned v) u (Jvm.fieldLocs frame_1_writes args s ++ Jvm.arrayLocs frame_1_arrays args s ++ Jvm.staticLocs frame_1_statics s) 0 0 → Post tb e args s (.returned v) u) :
    ArmFor flags0 classFile x code maxLocals ret World_1 tables_1 room_1 Calls_1 rest_1 Pre_1 Post := by
  intro l hfl _ _ p e ha hc hk s m args below hf hA hF happ hP
  obtain ⟨hcalls, hrest, hpre⟩ := hP
  obtain ⟨-, -, -, hnamed, -, -, -, hat⟩ := (Spec.applies_iff hf).mp happ
  obtain ⟨hg, hn⟩ := and_e (Cond.before_iff.mp (show (Jvm.Cond.and given_1 narrow_1).before args s = true from hpre))
  obtain ⟨hcount, hg1⟩ := and_e hg
  obtain ⟨w0, rfl⟩ : ∃ w0 : Value, args = #[w0] := by
    have hs : args.size = 1 := by simpa [Cond.value, given_1] using hcount
    obtain ⟨L⟩ := args
    match L, hs with
    | [w0], _ => exact ⟨w0, rfl⟩
  have hw := fun d (hd : d ∈ tables_1) => atoms_spec (ws := Jvm.Cond.code x code maxLocals ret :: tables_1) hat d (List.mem_cons_of_mem _ hd)
  have hfit : Fit s := fun {y c} hc i hi => by
    obtain ⟨ha, rfl⟩ := Array.getElem?_eq_some_iff.mp hc
    have q := List.all_eq_true.mp ((Array.all_eq_true_iff_forall_mem.mp hF) _ (Array.getElem_mem ha)) i (List.mem_range.mpr hi)
    simpa [Array.getElem?_eq_getElem hi] using q
  obtain ⟨i0, ei0⟩ := is_v hg1
  obtain rfl : w0 = (.int i0) := Option.some.inj ei0
  obtain ⟨nn1, nn2⟩ := and_e hn
  obtain ⟨nn3, nn4⟩ := and_e nn2
  obtain ⟨nn5, nn6⟩ := and_e nn4
  obtain ⟨nn7, nn8⟩ := and_e nn6
  obtain ⟨nn9, nn10⟩ := and_e nn8
  obtain ⟨nn11, nn12⟩ := and_e nn10
  obtain ⟨nn13, nn14⟩ := and_e nn12
  obtain ⟨nn15, nn16⟩ := and_e nn14
  obtain ⟨nn17, nn18⟩ := and_e nn16
  obtain ⟨wCOUNT, evCOUNT⟩ := exa_v nn1
  have E_COUNT := Exa.start evCOUNT nn1
  have S_COUNT := Sta.start evCOUNT (Or.inr ⟨(hw _ (List.mem_of_getElem? (i := 2) rfl)), (hw _ (List.mem_of_getElem? (i := 3) rfl))⟩)
  obtain ⟨wMINIMUM, evMINIMUM⟩ := exa_v nn3
  have E_MINIMUM := Exa.start evMINIMUM nn3
  have S_MINIMUM := Sta.start evMINIMUM (Or.inr ⟨(hw _ (List.mem_of_getElem? (i := 2) rfl)), (hw _ (List.mem_of_getElem? (i := 11) rfl))⟩)
  obtain ⟨wSUM, evSUM⟩ := exa_v nn9
  have E_SUM := Exa.start evSUM nn9
  have S_SUM := Sta.start evSUM (Or.inr ⟨(hw _ (List.mem_of_getElem? (i := 2) rfl)), (hw _ (List.mem_of_getElem? (i := 13) rfl))⟩)
  obtain ⟨wMAXIMUM, evMAXIMUM⟩ := exa_v nn13
  have E_MAXIMUM := Exa.start evMAXIMUM nn13
  have S_MAXIMUM := Sta.start evMAXIMUM (Or.inr ⟨(hw _ (List.mem_of_getElem? (i := 2) rfl)), (hw _ (List.mem_of_getElem? (i := 15) rfl))⟩)
  obtain ⟨wAVERAGE, evAVERAGE⟩ := exa_v nn17
  have E_AVERAGE := Exa.start evAVERAGE nn17
  have S_AVERAGE := Sta.start evAVERAGE (Or.inr ⟨(hw _ (List.mem_of_getElem? (i := 2) rfl)), (hw _ (List.mem_of_getElem? (i := 17) rfl))⟩)
  have F_MINIMUM := Fld.start ((fld_at evMINIMUM).symm.trans (own_eqI nn5))
  have F_COUNT := Fld.start ((fld_at evCOUNT).symm.trans (own_eqI nn7))
  have F_SUM := Fld.start ((fld_at evSUM).symm.trans (own_eqI nn11))
  have F_MAXIMUM := Fld.start ((fld_at evMAXIMUM).symm.trans (own_eqI nn15))
  have F_AVERAGE := Fld.start ((fld_at evAVERAGE).symm.trans (own_eqI nn18))
  have ne_wSUM := Fld.ne F_SUM F_COUNT (by decide)
  have ne_wAVERAGE := Fld.ne F_AVERAGE F_COUNT (by decide)
  have ne_wMINIMUM := Fld.ne F_MINIMUM F_COUNT (by decide)
  have ne_wMAXIMUM := Fld.ne F_MAXIMUM F_COUNT (by decide)
  obtain ⟨n, o, h1, h2, h3, _, L, rfl, ⟨rfl, N, -⟩, hq⟩ := own_law l s _ hw tables_1 i0 wCOUNT wSUM wAVERAGE wMINIMUM wMAXIMUM s.heap s.heap.size (Old.start s) S_COUNT S_SUM S_AVERAGE S_MINIMUM S_MAXIMUM E_COUNT E_SUM E_AVERAGE E_MINIMUM E_MAXIMUM ne_wSUM ne_wAVERAGE ne_wMINIMUM ne_wMAXIMUM p e ha hc hk s m _ below hf ((Spec.applies_iff_loose hf).mp happ).1 ⟨rfl, State.Warmed39.refl s, rfl⟩ trivial
  refine ⟨n, _, h1, h2, h3, hpost _ _ _ _ _ _ ⟨Cond.after_iff.mpr rfl, Cond.after_iff.mpr (eq_i res_at (Term.int_eval (1)) rfl), trivial⟩ ⟨hq.1, hq.2.1, (hq.2.2.sift fun y hy => Or.inr (N y hy)).mono (by decide) (by decide)⟩⟩
theorem main_1_1 : Claimed_1_1 := comes_1 fun _ _ _ _ _ _ h hF => ⟨h.1, hF⟩
theorem main_1_2 : Claimed_1_2 := comes_1 fun _ _ _ _ _ _ h hF => ⟨h.2.1, hF⟩
end Jvm.Pilot.@@N@@
namespace Jvm.Pilot.@@N@@
open Jvm Jvm.ClassFile Sem Op Lib Jvm.Free Jvm.Stand Jvm.Pilot.@@N@@.Jvm.D
/-! MADE BY PROGRAM (witnessworld.py) out of the Statement's table words and the real class files: 12 classes; the members and pool entries that the words name. The judged class is class 1, her method 1. -/
namespace start1
open Jvm.ClassFile
def u (s : String) : CpInfo := .utf8 (stringToUtf16 s)
/-- a pool by its gaps: so many unusable entries, then the entry; so many at the end -/
def gap : Nat → List CpInfo → List CpInfo
  | 0, r => r
  | n + 1, r => .unusable :: gap n r
def poolList (es : List (Nat × CpInfo)) (last : Nat) : List CpInfo := es.foldr (fun e r => gap e.1 (e.2 :: r)) (gap last [])
def pool (es : List (Nat × CpInfo)) (last : Nat) : Array CpInfo := ⟨poolList es last⟩
def fileOf (pool : Array CpInfo) (this : Nat) (attrs : Array Attribute := #[]) (ms : Array MethodInfo := #[]) (fl : Nat := 33) (sup : Nat := 0) (ifs : Array Nat := #[]) (fds : Array FieldInfo := #[]) : ClassFile where
  minorVersion := 0
  majorVersion := 65
  constantPool := pool
  accessFlags := fl
  thisClass := this
  superClass := sup
  interfaces := ifs
  fields := fds
  methods := ms
  attributes := attrs
def plain (name : String) (sup : Option ClassId) : Class where
  name := name
  kind := .ordinary
  loader := none
  accessFlags := 33
  super := sup
  interfaces := #[]
  cf := none
  fields := #[]
  methods := #[]
  instanceTypes := #[]
  staticTypes := #[]
  resolved := #[]
  callSites := []
  init := .initialized
  statics := none
  mirror := none

def pool0 : Array CpInfo := pool [(5, u "<init>"), (0, u "()V"), (1, .class_ 10), (1, u "java/lang/Object")] 113

def k0m0 : Method := { name := "<init>", desc := "()V", sig := { parameters := [], returnType := none }, accessFlags := 1, code := none }
/-- java/lang/Object -/
def k0 : Class := { plain "java/lang/Object" none with
  accessFlags := 33
  interfaces := #[]
  cf := some (fileOf pool0 8 #[] #[{ accessFlags := 1, nameIndex := 5, descriptorIndex := 6, attributes := #[] }] 33 0 #[] #[])
  fields := #[]
  methods := #[k0m0]
  instanceTypes := #[]
  staticTypes := #[]
  resolved := Array.replicate 124 none
  statics := none }

def pool1 : Array CpInfo := pool [(2, .class_ 4), (1, u "java/lang/Object"), (0, u "<init>"), (0, u "()V"), (0, .integer 2147483647), (0, .fieldref 9 10), (0, .class_ 11), (0, .nameAndType 12 13), (0, u "com/example/nuthatch/nuthatch/Analysis"), (0, u "COUNT"), (0, u "Lcom/example/nuthatch/nuthatch/Analysis;"), (0, .fieldref 9 15), (0, .nameAndType 16 13), (0, u "SUM"), (0, .fieldref 9 18), (0, .nameAndType 19 13), (0, u "AVERAGE"), (0, .fieldref 9 21), (0, .nameAndType 22 13), (0, u "MINIMUM"), (0, .fieldref 9 24), (0, .nameAndType 25 13), (0, u "MAXIMUM"), (0, .methodref 9 27), (0, .nameAndType 28 29), (0, u "needsTarget"), (0, u "()Z"), (0, .class_ 31), (0, u "com/example/nuthatch/nuthatch/AnalysisNeedsTargetPinLaw"), (2, u "law"), (0, u "(I)Z")] 3

def k1m0 : Method := { name := "<init>", desc := "()V", sig := { parameters := [], returnType := none }, accessFlags := 1, code := none }
def k1c1 : Code := { maxStack := 2, maxLocals := 4, code := code, exceptionTable := #[], attributes := #[] }
def k1m1 : Method := { name := "law", desc := "(I)Z", sig := { parameters := [.int], returnType := some .boolean }, accessFlags := 9, code := some k1c1 }
/-- com/example/nuthatch/nuthatch/AnalysisNeedsTargetPinLaw -/
def k1 : Class := { plain "com/example/nuthatch/nuthatch/AnalysisNeedsTargetPinLaw" (some 0) with
  accessFlags := 49
  interfaces := #[]
  cf := some (fileOf pool1 30 #[] #[{ accessFlags := 1, nameIndex := 5, descriptorIndex := 6, attributes := #[] }, { accessFlags := 9, nameIndex := 34, descriptorIndex := 35, attributes := #[] }] 49 2 #[] #[])
  fields := #[]
  methods := #[k1m0, k1m1]
  instanceTypes := #[]
  staticTypes := #[]
  resolved := Array.replicate 39 none
  statics := none }

def pool2 : Array CpInfo := pool [(1, .class_ 2), (0, u "java/lang/constant/Constable"), (0, .class_ 4), (0, u "java/lang/Object")] 6

/-- java/lang/constant/Constable -/
def k2 : Class := { plain "java/lang/constant/Constable" (some 0) with
  accessFlags := 1537
  interfaces := #[]
  cf := some (fileOf pool2 1 #[] #[] 1537 3 #[] #[])
  fields := #[]
  methods := #[]
  instanceTypes := #[]
  staticTypes := #[]
  resolved := Array.replicate 11 none
  statics := none }

def pool3 : Array CpInfo := pool [(1, .class_ 2), (0, u "java/lang/Comparable"), (0, .class_ 4), (0, u "java/lang/Object")] 7

/-- java/lang/Comparable -/
def k3 : Class := { plain "java/lang/Comparable" (some 0) with
  accessFlags := 1537
  interfaces := #[]
  cf := some (fileOf pool3 1 #[] #[] 1537 3 #[] #[])
  fields := #[]
  methods := #[]
  instanceTypes := #[]
  staticTypes := #[]
  resolved := Array.replicate 12 none
  statics := none }

def pool4 : Array CpInfo := pool [(1, .class_ 2), (0, u "java/io/Serializable"), (0, .class_ 4), (0, u "java/lang/Object")] 2

/-- java/io/Serializable -/
def k4 : Class := { plain "java/io/Serializable" (some 0) with
  accessFlags := 1537
  interfaces := #[]
  cf := some (fileOf pool4 1 #[] #[] 1537 3 #[] #[])
  fields := #[]
  methods := #[]
  instanceTypes := #[]
  staticTypes := #[]
  resolved := Array.replicate 7 none
  statics := none }

def pool5 : Array CpInfo := pool [(2, .class_ 4), (1, u "java/lang/Enum"), (0, u "name"), (0, u "Ljava/lang/String;"), (2, u "ordinal"), (0, u "I"), (1, .class_ 14), (1, u "java/lang/Object"), (4, u "hash"), (86, .class_ 108), (1, u "java/lang/Enum$EnumDesc"), (2, .class_ 112), (0, u "java/lang/constant/Constable"), (0, .class_ 114), (0, u "java/lang/Comparable"), (0, .class_ 116), (0, u "java/io/Serializable")] 87

/-- java/lang/Enum -/
def k5 : Class := { plain "java/lang/Enum" (some 0) with
  accessFlags := 1057
  interfaces := #[2, 3, 4]
  cf := some (fileOf pool5 2 #[.nestMembers #[106]] #[] 1057 12 #[111, 113, 115] #[{ accessFlags := 18, nameIndex := 5, descriptorIndex := 6, attributes := #[] }, { accessFlags := 18, nameIndex := 9, descriptorIndex := 10, attributes := #[] }, { accessFlags := 2, nameIndex := 19, descriptorIndex := 10, attributes := #[] }])
  fields := #[{ name := "name", type := (.object "java/lang/String"), accessFlags := 18, slot := 0, constantValue := 0 }, { name := "ordinal", type := .int, accessFlags := 18, slot := 1, constantValue := 0 }, { name := "hash", type := .int, accessFlags := 2, slot := 2, constantValue := 0 }]
  methods := #[]
  instanceTypes := #[(.object "java/lang/String"), .int, .int]
  staticTypes := #[]
  resolved := Array.replicate 204 none
  statics := none }

def pool6 : Array CpInfo := pool [(1, .class_ 2), (0, u "com/example/nuthatch/nuthatch/Analysis"), (0, .fieldref 1 4), (0, .nameAndType 5 6), (0, u "COUNT"), (0, u "Lcom/example/nuthatch/nuthatch/Analysis;"), (2, u "SUM"), (2, u "AVERAGE"), (2, u "MINIMUM"), (2, u "MAXIMUM"), (2, u "$VALUES"), (0, u "[Lcom/example/nuthatch/nuthatch/Analysis;"), (6, .class_ 31), (1, u "java/lang/Enum"), (23, u "needsTarget"), (0, u "()Z")] 5

def k6c0 : Code := { maxStack := 2, maxLocals := 1, code := prog_1_method_4_code, exceptionTable := #[], attributes := #[] }
def k6m0 : Method := { name := "needsTarget", desc := "()Z", sig := { parameters := [], returnType := some .boolean }, accessFlags := 0, code := some k6c0 }
/-- com/example/nuthatch/nuthatch/Analysis -/
def k6 : Class := { plain "com/example/nuthatch/nuthatch/Analysis" (some 5) with
  accessFlags := 16432
  interfaces := #[]
  cf := some (fileOf pool6 1 #[] #[{ accessFlags := 0, nameIndex := 55, descriptorIndex := 56, attributes := #[] }] 16432 29 #[] #[{ accessFlags := 16409, nameIndex := 5, descriptorIndex := 6, attributes := #[] }, { accessFlags := 16409, nameIndex := 9, descriptorIndex := 6, attributes := #[] }, { accessFlags := 16409, nameIndex := 12, descriptorIndex := 6, attributes := #[] }, { accessFlags := 16409, nameIndex := 15, descriptorIndex := 6, attributes := #[] }, { accessFlags := 16409, nameIndex := 18, descriptorIndex := 6, attributes := #[] }, { accessFlags := 4122, nameIndex := 21, descriptorIndex := 22, attributes := #[] }])
  fields := #[{ name := "COUNT", type := (.object "com/example/nuthatch/nuthatch/Analysis"), accessFlags := 16409, slot := 0, constantValue := 0 }, { name := "SUM", type := (.object "com/example/nuthatch/nuthatch/Analysis"), accessFlags := 16409, slot := 1, constantValue := 0 }, { name := "AVERAGE", type := (.object "com/example/nuthatch/nuthatch/Analysis"), accessFlags := 16409, slot := 2, constantValue := 0 }, { name := "MINIMUM", type := (.object "com/example/nuthatch/nuthatch/Analysis"), accessFlags := 16409, slot := 3, constantValue := 0 }, { name := "MAXIMUM", type := (.object "com/example/nuthatch/nuthatch/Analysis"), accessFlags := 16409, slot := 4, constantValue := 0 }, { name := "$VALUES", type := (.array (.object "com/example/nuthatch/nuthatch/Analysis")), accessFlags := 4122, slot := 5, constantValue := 0 }]
  methods := #[k6m0]
  instanceTypes := #[(.object "java/lang/String"), .int, .int]
  staticTypes := #[(.object "com/example/nuthatch/nuthatch/Analysis"), (.object "com/example/nuthatch/nuthatch/Analysis"), (.object "com/example/nuthatch/nuthatch/Analysis"), (.object "com/example/nuthatch/nuthatch/Analysis"), (.object "com/example/nuthatch/nuthatch/Analysis"), (.array (.object "com/example/nuthatch/nuthatch/Analysis"))]
  resolved := Array.replicate 62 none
  statics := some 0 }

def pool7 : Array CpInfo := pool [(1, u "java/lang/Cloneable"), (0, .class_ 1), (0, u "java/lang/Object"), (0, .class_ 3)] 3

/-- java/lang/Cloneable -/
def k7 : Class := { plain "java/lang/Cloneable" (some 0) with
  accessFlags := 1537
  interfaces := #[]
  cf := some (fileOf pool7 2 #[] #[] 1537 4 #[] #[])
  fields := #[]
  methods := #[]
  instanceTypes := #[]
  staticTypes := #[]
  resolved := Array.replicate 8 none
  statics := none }

/-- the primitive byte -/
def k8 : Class := { plain "byte" none with kind := .primitive 'B', accessFlags := 0x411 }
/-- [B -/
def k9 : Class := { plain "[B" (some 0) with kind := .array 8 .byte, interfaces := #[7, 4], accessFlags := 1041 }

/-- the primitive int -/
def k10 : Class := { plain "int" none with kind := .primitive 'I', accessFlags := 0x411 }
/-- [I -/
def k11 : Class := { plain "[I" (some 0) with kind := .array 10 .int, interfaces := #[7, 4], accessFlags := 1041 }

def heap : Heap := #[{ cls := 6, slots := #[.ref 1, .ref 2, .ref 3, .ref 4, .ref 5, .null], vm := .statics 6 },
  { cls := 6, slots := #[.null, .int 0, .int 0], vm := .none },
  { cls := 6, slots := #[.null, .int 1, .int 0], vm := .none },
  { cls := 6, slots := #[.null, .int 2, .int 0], vm := .none },
  { cls := 6, slots := #[.null, .int 3, .int 0], vm := .none },
  { cls := 6, slots := #[.null, .int 4, .int 0], vm := .none }]
def classes : Array Class := #[k0, k1, k2, k3, k4, k5, k6, k7, k8, k9, k10, k11]
def interned : List (Array UInt16 × Addr) := []
def slotsUsed : Nat := 21
def theMethod : MethodId := ⟨1, 1⟩
def args0 : Array Value := #[.int 5]
def aboutOver (below : List Frame) : State where
  vm := { classes := classes, interned := interned.toArray }
  heap := heap
  slotsUsed := slotsUsed
  threads := #[{ frames := .invoking theMethod args0 :: below }]
def below0 : List Frame := [.native { method := ⟨0, 0⟩, args := #[] }]
def about1 : State := aboutOver below0
def p0 : Program := .bare "" "" ""
def e0 : Env := launch0.env 0 0 0
theorem w_frames : about1.frames = Frame.invoking theMethod args0 :: below0 := rfl
set_option maxRecDepth 65536 in
theorem w_args : argsFit about1.vm theMethod args0 = true := by decide +kernel
set_option maxRecDepth 65536 in
theorem w_heap : heapFits about1 = true := by decide +kernel
set_option maxRecDepth 65536 in
theorem w_runnable : about1.curStatus? = some .runnable := by decide +kernel
set_option maxRecDepth 65536 in
theorem w_alone : about1.alone = true := by decide +kernel
set_option maxRecDepth 65536 in
theorem w_named : about1.methodNamed? x = some theMethod := by decide +kernel
set_option maxRecDepth 65536 in
theorem w_hears : about1.hears theMethod below0 = true := by decide +kernel
set_option maxRecDepth 65536 in
theorem w_ripe : about1.ripe theMethod args0 below0 = true := by decide +kernel
theorem w_running : about1.status = .running := rfl
set_option maxRecDepth 65536 in
theorem w_room : about1.hasRoom e0.platform room_1 = true :=
  launch0.hasRoom_least _ room_1 (by decide +kernel) (by decide +kernel) (by decide +kernel) (by decide +kernel) (by decide +kernel) (by decide +kernel)
theorem allAtoms_all (ts : List Jvm.Cond) (a : Array Jvm.Value) (st : Jvm.State) : (allAtoms ts).before a st = ts.all (fun c => c.before a st) := by
  induction ts with
  | nil => rfl
  | cons c t ih =>
    show (Jvm.Cond.and c (allAtoms t)).before a st = _
    rw [Jvm.Cond.before_and, ih, List.all_cons]
def words1 : List Jvm.Cond := Jvm.Cond.code x code maxLocals ret :: tables_1
/-- a 'code' word, met by the world's own term for the bytes: nothing is compared byte by byte -/
theorem code_word {y : MethodName} {bytes : ByteArray} {mx : Nat} {rt : Option FieldType} {a : Array Value} {s : State} {m : MethodId} {meth : Method} {c : Code} (h1 : s.methodNamed? y = some m) (h2 : s.vm.method? m = some meth) (h3 : meth.code = some c) (h4 : c.code = bytes)
    (h5 : (c.maxLocals == mx && c.exceptionTable.isEmpty && decide (c.maxStack ≤ mostOperands) && decide (meth.sig.returnType = rt) && !meth.locks && decide (parseMethodDescriptor y.desc = some meth.sig)) = true) : (Jvm.Cond.code y bytes mx rt).before a s = true := by
  simp only [Bool.and_eq_true, beq_iff_eq, Bool.not_eq_true', decide_eq_true_eq] at h5
  obtain ⟨⟨⟨⟨⟨g1, g2⟩, g3⟩, g4⟩, g5⟩, g6⟩ := h5
  simp [Cond.before, Cond.holds, Cond.value, h1, h2, h3, h4, g1, g2, g3, g4, g5, g6]
def isCode : Jvm.Cond → Bool
  | .code _ _ _ _ => true
  | _ => false
theorem all_split {L : List Jvm.Cond} {P : Jvm.Cond → Bool} (h1 : L.all (fun c => isCode c || P c) = true) (h2 : ∀ c ∈ L.filter isCode, P c = true) : L.all P = true := by
  refine List.all_eq_true.mpr fun c hc => ?_
  have h := List.all_eq_true.mp h1 c hc
  rcases Bool.eq_false_or_eq_true (isCode c) with hi | hi
  · exact h2 c (List.mem_filter.mpr ⟨hc, hi⟩)
  · simpa [hi] using h
set_option maxRecDepth 65536 in
theorem w_c0 : (Jvm.Cond.code x code maxLocals ret).before args0 about1 = true := code_word (m := ⟨1, 1⟩) (meth := k1m1) (c := k1c1) (by decide +kernel) rfl rfl rfl (by decide +kernel)
set_option maxRecDepth 65536 in
theorem w_c1 : (Jvm.Cond.code ({ cls := "com/example/nuthatch/nuthatch/Analysis", name := "needsTarget", desc := "()Z" } : Jvm.MethodName) prog_1_method_4_code (1 : Nat) (Option.some Jvm.ClassFile.FieldType.boolean)).before args0 about1 = true := code_word (m := ⟨6, 0⟩) (meth := k6m0) (c := k6c0) (by decide +kernel) rfl rfl rfl (by decide +kernel)
def codes1 : List Jvm.Cond := [Jvm.Cond.code x code maxLocals ret, Jvm.Cond.code ({ cls := "com/example/nuthatch/nuthatch/Analysis", name := "needsTarget", desc := "()Z" } : Jvm.MethodName) prog_1_method_4_code (1 : Nat) (Option.some Jvm.ClassFile.FieldType.boolean)]
set_option maxRecDepth 65536 in
theorem codes_eq : words1.filter isCode = codes1 := rfl
theorem w_codes : ∀ c ∈ words1.filter isCode, c.before args0 about1 = true := by
  rw [codes_eq]
  intro c hc
  simp only [codes1, List.mem_cons, List.not_mem_nil, or_false] at hc
  rcases hc with rfl | rfl
  · exact w_c0
  · exact w_c1
set_option maxRecDepth 65536 in
theorem w_t1 : words1.all (fun c => isCode c || c.before args0 about1) = true := by decide +kernel
theorem w_tables : (allAtoms (Jvm.Cond.code x code maxLocals ret :: tables_1)).before args0 about1 = true := by
  rw [allAtoms_all]
  show words1.all (fun c => c.before args0 about1) = true
  refine all_split ?_ w_codes
  rw [w_t1]
set_option maxRecDepth 65536 in
theorem w_case : (Jvm.Cond.and given_1 narrow_1).before args0 about1 = true := by decide +kernel
theorem w_applies : (headSpec (Jvm.Cond.code x code maxLocals ret :: tables_1) room_1).applies x e0.platform about1 = true :=
  (Spec.applies_iff w_frames).mpr ⟨w_running, w_runnable, w_alone, w_named, w_hears, w_ripe, w_room, w_tables⟩
theorem atStart : AtStart classFile x code maxLocals ret World_1 tables_1 room_1 Calls_1 rest_1 Pre_1 launch0 p0 e0 about1 theMethod args0 below0 :=
  ⟨lists_1, trivial, launch0.admits_env _ _ _, launch0.least_env, fairChoices_fair.cas, fairChoices_fair.clock, w_frames, w_args, w_heap, w_applies, trivial, trivial, w_case⟩
end start1
theorem witness_1 : WitnessClaimed_1 := ⟨start1.p0, start1.e0, start1.about1, start1.theMethod, start1.args0, start1.below0, start1.atStart⟩
end Jvm.Pilot.@@N@@
