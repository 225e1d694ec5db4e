import JvmDerived
import JvmDerived.Pilot.@@N@@Statement
import JvmDerived.Pilot.@@N@@Code
set_option linter.unusedVariables false
set_option linter.unusedSimpArgs false
@@BLOCK:LamKit.lean.txt@@
namespace Jvm.Pilot.@@N@@
open Jvm Jvm.ClassFile Sem Op Lib Jvm.Free Jvm.Stand Jvm.LawKit Jvm.RoadKit Bundle Jvm.Pilot.@@N@@.Jvm.D
section Own
variable {p : Program} {l : Launch} {e : Env} {R : Room} {s : State} {m : MethodId} {args : Array Value} {below : List Frame} {meth : Method} {c : Code} {T T' : State} {locs : List Loc} {cells slots : Nat} {g g' : JFrame} {P : State → Outcome → Prop}
/-- the run that stands at the frame g over T comes to an end of which P holds -/
def own_Ends (p : Program) (e : Env) (below : List Frame) (P : State → Outcome → Prop) (T : State) (g : JFrame) : Prop := ∃ u o, Steps p.tables e below (T.setTop g) u ∧ P u o
theorem own_via (st : ∀ t, Steps p.tables e below (T'.setTop g') t → Steps p.tables e below (T.setTop g) t) (k : own_Ends p e below P T' g') : own_Ends p e below P T g := by
  obtain ⟨a, b, c, d⟩ := k
  exact ⟨a, b, st _ c, d⟩
theorem own_viaT (st : Steps p.tables e below (T.setTop g) (T'.setTop g')) (k : own_Ends p e below P T' g') : own_Ends p e below P T g := own_via (fun _ k => st.trans k) k
def own_Post (s : State) (below : List Frame) (Q : Option Value → Heap → List Loc → Prop) (C S : Nat) : State → Outcome → Prop := fun u o => u.status = .running ∧ Ended u below o ∧ ∃ v L, o = .returned v ∧ Q v u.heap L ∧ FrameEnd s o u L C S
theorem own_leave (X : Stand p l e R s m args below meth c T locs cells slots) {v : Option Value} {Q : Option Value → Heap → List Loc → Prop} {C S : Nat} (hv : meth.sig.returnType = none → v = none) (hlk : meth.locks = false)
    (hst : ∀ fs, (∀ (f : JFrame) (acts : List Action), f.method = m → f.locked = none → f.entered = [] → (doReturn e (T.setTop f) acts v).1 = T.setFrames fs) → Steps p.tables e below (T.setTop g) (T.setFrames fs))
    (hC : cells ≤ C) (hS : slots ≤ S) (hQ : Q v T.heap locs) : own_Ends p e below (own_Post s below Q C S) T g := by
  obtain ⟨fs, hr, hrun, hended, hW, hsame⟩ := X.leave (v := v) hv hlk
  exact ⟨_, _, hst fs hr, hrun, hended, v, locs, rfl, hQ, ⟨_, rfl⟩, hW, hsame.mono hC hS⟩
theorem own_retV (X : Stand p l e R s m args below meth c T locs cells slots) (hx : p.tables.exec = Jvm.exec) (hlk : meth.locks = false) {Q : Option Value → Heap → List Loc → Prop} {C S : Nat} {pc : Nat} {Ls : Array Slot} (hret : meth.sig.returnType = none) (hd : decode c.code pc = .ok (.return_, 1))
    (hC : cells ≤ C) (hS : slots ≤ S) (hQ : Q none T.heap locs) : own_Ends p e below (own_Post s below Q C S) T (mkF m pc Ls []) :=
  own_leave X (fun _ => rfl) hlk (fun fs hr => X.returnOut hx hret hd hr) hC hS hQ
theorem own_retW (X : Stand p l e R s m args below meth c T locs cells slots) (hx : p.tables.exec = Jvm.exec) (hlk : meth.locks = false) {Q : Option Value → Heap → List Loc → Prop} {C S : Nat} {pc : Nat} {Ls : Array Slot} {w : Value} {t : FieldType} {i : Instr} {rest : List Value} (hret : meth.sig.returnType = some t) (hn : narrow t w = w)
    (hi : (i = .ireturn ∧ (t = .int ∨ t = .boolean ∨ t = .byte ∨ t = .char ∨ t = .short) ∧ ∃ z, w = .int z) ∨ (i = .lreturn ∧ t = .long ∧ ∃ z, w = .long z) ∨ (i = .dreturn ∧ t = .double ∧ ∃ z, w = .double z) ∨ (i = .freturn ∧ t = .float ∧ ∃ z, w = .float z) ∨ (i = .areturn ∧ t.isReference = true ∧ w.isRef = true))
    (hd : decode c.code pc = .ok (i, 1)) (hC : cells ≤ C) (hS : slots ≤ S) (hQ : Q (some w) T.heap locs) : own_Ends p e below (own_Post s below Q C S) T (mkF m pc Ls (w :: rest)) :=
  own_leave X (fun h => by rw [hret] at h; cases h) hlk (fun fs hr => retOut X hx hret hn hi hd hr) hC hS hQ
theorem own_retN (X : Stand p l e R s m args below meth c T locs cells slots) (hx : p.tables.exec = Jvm.exec) (hlk : meth.locks = false) {Q : Option Value → Heap → List Loc → Prop} {C S : Nat} {pc : Nat} {Ls : Array Slot} {z : Int32} {t : FieldType} {rest : List Value} (hret : meth.sig.returnType = some t) (ht : t = .boolean ∨ t = .byte ∨ t = .char ∨ t = .short)
    (hd : decode c.code pc = .ok (.ireturn, 1)) (hC : cells ≤ C) (hS : slots ≤ S) (hQ : Q (some (.int (nar t z))) T.heap locs) : own_Ends p e below (own_Post s below Q C S) T (mkF m pc Ls (.int z :: rest)) :=
  own_leave X (fun h => by rw [hret] at h; cases h) hlk (fun fs hr => retN X hx hret ht hd hr) hC hS hQ
theorem own_le {Z : State} {n0 : Nat} {h : Heap} (O : Old Z n0 h) : n0 ≤ h.size := O.1 ▸ O.2.1
theorem own_nb0 : nar .boolean 0 = 0 := rfl
theorem own_nb1 : nar .boolean 1 = 1 := rfl
theorem own_nb {b : Int32} (h : b = 0 ∨ b = 1) : nar .boolean b = b := by rcases h with rfl | rfl <;> rfl
end Own
theorem own_pd0 : parseMethodDescriptor "()V" = some ⟨[], none⟩ := by decide +kernel
theorem own_pd1 : parseMethodDescriptor "(Ljava/lang/Object;)Ljava/lang/Object;" = some ⟨[(.object "java/lang/Object")], some (.object "java/lang/Object")⟩ := by decide +kernel
theorem own_pd2 : parseMethodDescriptor "(Ljava/lang/Object;)V" = some ⟨[(.object "java/lang/Object")], none⟩ := by decide +kernel
theorem own_pd3 : parseMethodDescriptor "(I)V" = some ⟨[.int], none⟩ := by decide +kernel
theorem own_pd4 : parseMethodDescriptor "()I" = some ⟨[], some .int⟩ := by decide +kernel
theorem own_pd5 : parseMethodDescriptor "(I)Ljava/lang/Integer;" = some ⟨[.int], some (.object "java/lang/Integer")⟩ := by decide +kernel
theorem own_pd6 : parseMethodDescriptor "()Z" = some ⟨[], some .boolean⟩ := by decide +kernel
theorem own_pd7 : parseMethodDescriptor "()Ljava/util/Optional;" = some ⟨[], some (.object "java/util/Optional")⟩ := by decide +kernel
theorem own_pd8 : parseMethodDescriptor "(Ljava/lang/Object;)Ljava/util/Optional;" = some ⟨[(.object "java/lang/Object")], some (.object "java/util/Optional")⟩ := by decide +kernel
theorem own_pd9 : parseMethodDescriptor "(Ljava/util/function/Function;)Ljava/util/Optional;" = some ⟨[(.object "java/util/function/Function")], some (.object "java/util/Optional")⟩ := by decide +kernel
theorem own_pd10 : parseMethodDescriptor "(Ljava/util/Optional;Z)V" = some ⟨[(.object "java/util/Optional"), .boolean], none⟩ := by decide +kernel
theorem own_pd11 : parseMethodDescriptor "(Lcom/example/wise_crawler/wisecrawler/url/CanonicalUrl;Ljava/time/Instant;Ljava/lang/String;Lcom/example/wise_crawler/wisecrawler/fetch/HeaderFields;ILcom/example/wise_crawler/wisecrawler/fetch/HeaderFields;Lcom/example/wise_crawler/wisecrawler/fetch/SpooledBytes;Ljava/util/Optional;)V" = some ⟨[(.object "com/example/wise_crawler/wisecrawler/url/CanonicalUrl"), (.object "java/time/Instant"), (.object "java/lang/String"), (.object "com/example/wise_crawler/wisecrawler/fetch/HeaderFields"), .int, (.object "com/example/wise_crawler/wisecrawler/fetch/HeaderFields"), (.object "com/example/wise_crawler/wisecrawler/fetch/SpooledBytes"), (.object "java/util/Optional")], none⟩ := by decide +kernel
section OwnWords
variable {args : Array Value} {first s : State} {o : Option Outcome} {idx : List Nat}
theorem own_eqI {a : Term} {k : Int32} (h : (Cond.eq a (.int k)).value args first o s idx = some true) : a.eval args first o idx s = some (.int k) := by
  simp only [Cond.value, Term.eval] at h
  cases ha : a.eval args first o idx s with
  | none => simp [ha] at h
  | some x => cases x <;> simp [ha] at h ⊢ <;> exact h
theorem own_eqR {a b : Term} {y : Addr} (h : (Cond.eq a b).value args first o s idx = some true) (hb : b.eval args first o idx s = some (.ref y)) : a.eval args first o idx s = some (.ref y) := by
  simp only [Cond.value, hb] at h
  cases ha : a.eval args first o idx s with
  | none => simp [ha] at h
  | some x => cases x <;> simp [ha] at h ⊢ <;> exact h
end OwnWords

section OwnLam
variable {p : Program} {l : Launch} {e : Env} {R : Room} {s : State} {m : MethodId} {args : Array Value} {below : List Frame} {meth : Method} {c : Code} {T : State} {locs : List Loc} {cells slots : Nat} {Z : State} {a0 : Array Value} {h : Heap}
theorem own_enter (X : Stand p l e R s m args below meth c T locs cells slots) {g : JFrame} (hg : g.method = m) (hsize : g.locals.size = c.maxLocals) {ig : Instr} {len : Nat} (hdg : decode c.code g.pc = .ok (ig, len)) {mk : MethodId} {methk : Method} {ck : Code} (av : Array Value) {R' : Room} (hmk : T.vm.method? mk = some methk) (hck : methk.code = some ck) (hlk : methk.locks = false) (hpk : T.plainMethod mk)
    (hfr : R'.frames + 1 ≤ R.frames) (hlo : 2 * g.monitorRoom + (g.stack.map fun v => v.category).sum + (ck.maxLocals + 11) + R'.locals ≤ R.locals) (hce : cells + R'.cells ≤ R.cells) (hsl : slots + R'.slots ≤ R.slots) {Q : Option Value → Heap → List Loc → Prop}
    (hE : ∀ (s' U : State), s'.vm = T.vm → U.heap = T.heap → Stand p l e R' s' mk av (.java g :: below) methk ck U [] 0 0 → own_Ends p e (.java g :: below) (own_Post s' (.java g :: below) Q R'.cells R'.slots) U (entryFrame mk av ck.maxLocals)) :
    ∃ (v : Option Value) (T' : State) (L : List Loc), Stand p l e R s m args below meth c T' (locs ++ L) (cells + R'.cells) (slots + R'.slots) ∧ Q v T'.heap L ∧
      ∀ acts, Steps p.tables e below (doInvoke e (T.setTop g) acts mk av).1 (T'.setTop { g with pc := g.pc + len, stack := v.toList ++ g.stack }) := by
  obtain ⟨Y, hin⟩ := X.into hg hsize hdg av hmk hck hlk hpk hfr hlo hce hsl
  obtain ⟨u, o, hst, hrun, hend, v, L, rfl, hQ, hfe⟩ := hE (T.calling g mk av) ((T.setTop g).pushFrame (.java (entryFrame mk av ck.maxLocals))) rfl rfl Y
  obtain ⟨T', X', -, -, ht⟩ := X.outOf hg hdg hend hfe.2.1 hfe.2.2
  refine ⟨v, T', L, X', ?_, fun acts => ?_⟩
  · have q : u.heap = (T'.setTop { g with pc := g.pc + len, stack := v.toList ++ g.stack }).heap := congrArg State.heap ht
    have q2 : u.heap = T'.heap := q
    rw [← q2]; exact hQ
  · rw [hin acts, ← ht]
    exact Steps.weaken (mid := [.java g]) hst
theorem own_mready {vm' : Vm} (hW : Z.Warmed39 vm') {d i : Nat} {t : MethodId} (hr : Z.vm.methodReady d i t) : vm'.methodReady d i t := by
  obtain ⟨k, h1, h2⟩ := hr
  obtain ⟨k', g1, -, -, g4, -⟩ := hW.2.2.2 _ _ h1
  refine ⟨k', g1, ?_⟩
  rcases g4 i with q | ⟨q, -⟩
  · rw [q]; exact h2
  · rw [q] at h2; cases h2
theorem own_cready {vm' : Vm} (hW : Z.Warmed39 vm') {d i : Nat} {t : ClassId} (hr : Z.vm.classReady d i t) : vm'.classReady d i t := by
  obtain ⟨k, h1, h2⟩ := hr
  obtain ⟨k', g1, -, -, g4, -⟩ := hW.2.2.2 _ _ h1
  refine ⟨k', g1, ?_⟩
  rcases g4 i with q | ⟨q, -⟩
  · rw [q]; exact h2
  · rw [q] at h2; cases h2
theorem own_castReady (X : Stand p l e R s m args below meth c T locs cells slots) (hx : p.tables.exec = Jvm.exec) (hZ : Z.Warmed39 s.vm) {index : Nat} {cT : ClassId} {K : String} (hr : Z.vm.classReady m.cls index cT) (hf : Z.vm.findClass K = some cT) (eT : T.heap = h) {a : Addr} (F : Exa Z h a K)
    {g : JFrame} (hg : g.method = m) {rest : List Value} (hs : g.stack = .ref a :: rest) (hd : decode c.code g.pc = .ok (.checkcast index, 3)) : ∀ target, Steps p.tables e below (T.setTop { g with pc := g.pc + 3 }) target → Steps p.tables e below (T.setTop g) target := by
  intro t hk
  have hT : Z.Warmed39 T.vm := wtrans hZ X.warmed
  obtain ⟨cell, k, h1, h2, h3, h4, -⟩ := F
  have ec : cell.cls = cT := Option.some.inj (h2.symm.trans hf)
  obtain ⟨k', q, -⟩ := hT.alike.2.2 _ _ h3
  subst hg
  jvm_step X.here [hx, hd, checkcast.wp_ready (e := e) (s := T) (f := g) X.here.top (own_cready hT hr) hs]
  refine ⟨cell, (by rw [eT]; exact h1), (fun z hz => by rw [hz] at h4; cases h4), k', q, k', (by rw [← ec]; exact q), ?_⟩
  rw [ec, Vm.assignable_self]
  exact hk
theorem own_poly {s : State} {y : MethodName} {r : MethodId} (hn : s.methodNamed? y = some r) (hy : y.cls ≠ "java/lang/invoke/MethodHandle" ∧ y.cls ≠ "java/lang/invoke/VarHandle") : ∃ k, s.vm.classes[r.cls]? = some k ∧ ∀ z : Method, signaturePolymorphic k z = false := by
  obtain ⟨k, hk, hn'⟩ := className_of_methodNamed hn
  exact ⟨k, hk, fun z => by simp [signaturePolymorphic, hn', hy.1, hy.2]⟩
theorem own_named39 {U : State} (hT : Z.Warmed39 U.vm) {y : MethodName} {t : MethodId} (hn : Z.methodNamed? y = some t) : U.methodNamed? y = some t := by
  have q : (Z.setVm U.vm).methodNamed? y = some t := by rw [State.methodNamed?_setVm hT.alike]; exact hn
  exact q
theorem own_virtReady (X : Stand p l e R s m args below meth c T locs cells slots) (hx : p.tables.exec = Jvm.exec) (hZ : Z.Warmed39 s.vm) {index ci nt : Nat} {y : MethodName} {C : String} {kK : Class} {file : ClassFile} {toy : ClassId} {t0 : MethodId}
    (hkK : Z.vm.classes[m.cls]? = some kK) (hfile : kK.cf = some file) (hidx : file.constantPool[index]? = some (.methodref ci nt)) (hmr : Z.vm.methodReady m.cls index t0) (hcr : Z.vm.classReady m.cls ci toy) (ht0 : Z.methodNamed? y = some t0) (htoy : Z.vm.findClass y.cls = some toy)
    (wdecl : (Cond.declares y).before a0 Z = true) (wsel : (Cond.selects C y y).before a0 Z = true) (winst : (Cond.instanceMethod y).before a0 Z = true) (hy : y.cls ≠ "java/lang/invoke/MethodHandle" ∧ y.cls ≠ "java/lang/invoke/VarHandle")
    {W : Nat} {Pre : Pt → Array Value → Prop} {Post : Pt → Array Value → Option Value → Pt → Prop} (hK : Back l R p e below s args y 3 W Pre Post) (eT : T.heap = h) {b : Addr} (E : Exa Z h b C)
    {g : JFrame} (hg : g.method = m) (hsize : g.locals.size = c.maxLocals) {argsL rest : List Value} (hlen : ∀ sig, parseMethodDescriptor y.desc = some sig → argsL.length = sig.parameters.length) (hstack : g.stack = argsL.reverse ++ .ref b :: rest) (hW : 2 * g.monitorRoom + (rest.map fun v => v.category).sum ≤ W)
    (hdg : decode c.code g.pc = .ok (.invokevirtual index, 3)) (hpre : Pre ⟨T, locs, cells, slots⟩ (.ref b :: argsL).toArray) :
    ∃ (v : Option Value) (B : Pt), Stand p l e R s m args below meth c B.U B.locs B.cells B.slots ∧ Post ⟨T, locs, cells, slots⟩ (.ref b :: argsL).toArray v B ∧
      Steps p.tables e below (T.setTop g) (B.U.setTop { g with pc := g.pc + 3, stack := v.toList ++ rest }) := by
  have hT : Z.Warmed39 T.vm := wtrans hZ X.warmed
  have hn0 : T.methodNamed? y = some t0 := own_named39 hT ht0
  obtain ⟨r0, r, hn, hrm, hstR, hsigR⟩ := Cond.declares_spec (mv (s := T) (args := args) hT wdecl)
  obtain ⟨mk, methM, hnamed, hmethM, -, habM⟩ := Cond.instanceMethod_spec (mv (s := T) (args := args) hT winst)
  obtain ⟨c2, r2, m2, q1, q2, q3, q4, kP, hkP, hkPi⟩ := Cond.selects_spec (mv (s := T) (args := args) hT wsel)
  cases hn.symm.trans hn0
  cases hn.symm.trans hnamed
  cases (State.methodFound?_of_named hn hy).symm.trans q2
  cases hnamed.symm.trans q3
  obtain ⟨cB, kB, hcB, hkB, cellB, hcellT, hclsB, hstatB⟩ := isOf (s := T) (T := T) hT eT E
  cases hcB.symm.trans q1
  have hselP : selectMethod e.platform T.vm cellB.cls t0 = .method t0 := by rw [Launch.admits_selectMethod X.admits, hclsB]; exact q4
  obtain ⟨kr, hkr, hpo⟩ := own_poly hn hy
  have ec : toy = t0.cls := Option.some.inj (htoy.symm.trans (findClass_of_methodNamed ht0))
  obtain rfl : kr = kP := Option.some.inj (hkr.symm.trans hkP)
  obtain ⟨kK', hkK', eK'⟩ := hT.alike.2.2 _ _ hkK
  obtain ⟨v, B, X', hpost, hsteps⟩ := hK m meth c ⟨T, locs, cells, slots⟩ { g with stack := rest } (.invokevirtual index) t0 (.ref b :: argsL).toArray X hg hsize hdg hW hn hpre
  refine ⟨v, B, X', hpost, ?_⟩
  subst hg
  jvm_step X.here [hx, hdg, invokevirtual.wp_ready (e := e) (s := T) (f := g) (r := t0) (m := t0) (args := argsL) (rest := rest) X.here.top ⟨kK', file, ci, nt, toy, kr, hkK', by rw [eK']; exact hfile, hidx, own_cready hT hcr, by rw [ec]; exact hkr, hkPi⟩ (own_mready hT hmr) hkr hrm (hpo _) hstR (hlen _ hsigR) hstack hcellT (fun z hz => by rw [hz] at hstatB; cases hstatB) hselP hmethM habM hkP hkPi]
  intro acts
  rw [doInvoke_state]
  exact hsteps
end OwnLam
section OwnLam2
open Jvm.Free.HMW Jvm.Free.Fn
variable {p : Program} {l : Launch} {e : Env} {R : Room} {s : State} {m : MethodId} {args : Array Value} {below : List Frame} {meth : Method} {c : Code} {T : State} {locs : List Loc} {cells slots : Nat} {Z : State} {a0 : Array Value} {h : Heap}
theorem own_FnX39 (hZ : Z.Warmed39 s.vm) {xi : MethodName} {cF : ClassId} {mk : MethodId} (hF : FnX xi cF mk Z) : FnX xi cF mk s := by
  obtain ⟨kF, methK, h1, h2, h3, h4, h5⟩ := hF
  obtain ⟨k', q, -⟩ := hZ.alike.2.2 _ _ h1
  refine ⟨k', methK, q, by rw [hZ.alike.method?]; exact h2, h3, h4, fun r0 r hn hr => ?_⟩
  have hn' : Z.methodNamed? xi = some r0 := by
    rw [← State.methodNamed?_setVm (s := Z) hZ.alike]; exact hn
  rw [hZ.alike.method?] at hr
  obtain ⟨g1, g2, g3⟩ := h5 r0 r hn' hr
  refine ⟨by rw [hZ.alike.assignable]; exact g1, by rw [hZ.alike.selectMethod]; exact g2, ?_⟩
  rw [Vm.Alike.superclasses41 hZ.alike]
  have e1 : (fun k => (declaredIn s.vm r.name r.desc k).any fun (x : MethodId × Method) => x.2.isPrivate || x.2.isStatic) = (fun k => (declaredIn Z.vm r.name r.desc k).any fun (x : MethodId × Method) => x.2.isPrivate || x.2.isStatic) := by
    funext k
    rw [hZ.alike.declaredIn]
  exact (congrArg (fun f => (cF :: Z.vm.superclasses cF).any f) e1).trans g3
/-- the site's one object, its class, the class's record: at the start Z -/
def own_Lam (Z : State) (y : MethodName) (pc : Nat) (σ : Lambda.Shape) (aF : Addr) (cK : ClassId) : Prop :=
  (∃ (mD : MethodId) (kD : Class) (i0 p0 : Nat), Z.methodNamed? y = some mD ∧ Z.vm.classes[mD.cls]? = some kD ∧ (kD.callSites.find? fun z => z.1 == mD.idx && z.2.1 == pc) = some (i0, p0, .constant aF)) ∧
    Jvm.LamKit.Made Z y.cls σ cK ∧ ∃ cell : Cell, Z.heap[aF]? = some cell ∧ cell.cls = cK ∧ cell.vm = .none
theorem own_lamStart {y : MethodName} {pc index : Nat} {σ : Lambda.Shape} (w : (Cond.lambdaSite y pc index σ).before a0 Z = true) (hcap : σ.captured = []) : ∃ aF cK, own_Lam Z y pc σ aF cK := by
  obtain ⟨cK, one, hat⟩ := Cond.lambdaSite_spec w
  obtain ⟨mD, kD, cfD, i0, p0, lk, hmD, hkD, -, -, -, hfind, hmade, hcan, hl⟩ := State.lambdaAt?_spec hat
  obtain ⟨kD', hkD', hnameD⟩ := className_of_methodNamed hmD
  cases hkD.symm.trans hkD'
  rcases hl with ⟨a, cell, rfl, -, -, hcell, hcls, hvm, -⟩ | ⟨-, -, hne⟩
  · exact ⟨a, cK, ⟨mD, kD, i0, p0, hmD, hkD, hfind⟩, ⟨mD.cls, kD, hkD, hnameD, hmade, hcan⟩, cell, hcell, hcls, hvm⟩
  · exact absurd hcap hne
theorem own_site (X : Stand p l e R s m args below meth c T locs cells slots) (hx : p.tables.exec = Jvm.exec) (hZ : Z.Warmed39 s.vm) {y : MethodName} {pc index : Nat} {σ : Lambda.Shape} {aF : Addr} {cK : ClassId} (hnm : s.methodNamed? y = some m) (LM : own_Lam Z y pc σ aF cK)
    {g : JFrame} (hg : g.method = m) (hpc : g.pc = pc) (hsize : g.locals.size = c.maxLocals) (hdg : decode c.code g.pc = .ok (.invokedynamic index, 5)) (hwords : 2 * g.monitorRoom + (g.stack.map fun v => v.category).sum + 3072 ≤ R.locals) :
    ∀ target, Steps p.tables e below (T.setTop { g with pc := g.pc + 5, stack := .ref aF :: g.stack }) target → Steps p.tables e below (T.setTop g) target := by
  obtain ⟨⟨mD, kD, i0, p0, h1, h2, h3⟩, -, -⟩ := LM
  cases hnm.symm.trans (own_named39 hZ h1)
  obtain ⟨k', q, ek⟩ := hZ.alike.2.2 _ _ h2
  have hw : e.platform.lambdaLinkWords = 3072 := by rw [X.admits.platform]
  exact fun target k_ => X.lambdaConstant hx hg hsize hdg q (by rw [hpc, ek]; exact h3) (by rw [hw]; exact hwords) k_
theorem own_lamFn {y xi : MethodName} {pc : Nat} {σ : Lambda.Shape} {aF : Addr} {cK : ClassId} (LM : own_Lam Z y pc σ aF cK) {fcode : ByteArray} {fml idx ci : Nat} {fret : Option FieldType} (hok : Jvm.LamKit.fwdOK σ y.cls fcode fml fret idx ci = true)
    (hcls : σ.iface = xi.cls) (hname : σ.name = xi.name) (hdesc : σ.sam.toString = xi.desc) (hword : (Cond.interfaceMethod xi.cls xi.cls xi.name xi.desc).before a0 Z = true) : FnX xi cK ⟨cK, 1⟩ Z := by
  obtain ⟨-, ⟨d, dk, hd, hdn, hmade, hcan⟩, -⟩ := LM
  obtain ⟨k, tk, file, methk, ck, toy, t, nt, hk, hpn, hfile, hidx, hnt, hmk, hck, hby, hmlk, hlk, hfl, -⟩ := Jvm.LamKit.made_static hok hd hdn hmade
  exact FnX.of_site hmade hcan hcls hname hdesc hword hk hmk hfl
theorem own_lamIs {y : MethodName} {pc : Nat} {σ : Lambda.Shape} {aF : Addr} {cK : ClassId} {n0 : Nat} (LM : own_Lam Z y pc σ aF cK) (O : Old Z n0 h) (eT : T.heap = h) : IsOf cK T aF := by
  obtain ⟨-, -, cell, h1, h2, h3⟩ := LM
  exact ⟨cell, by rw [eT]; exact O.2.2 _ _ h1, h2, by rw [h3]; rfl⟩
end OwnLam2
theorem own_fnW {s : State} {args : Array Value} {own : String} {index : Nat} {xi : MethodName} (w1 : (Cond.methodLink own index xi).before args s = true) (w2 : (Cond.declares xi).before args s = true) (w3 : (Cond.interfaceMethod xi.cls xi.cls xi.name xi.desc).before args s = true) : ∀ w ∈ Jvm.Free.Fn.fnW own index xi, w.before args s = true := fun w q => by
  simp only [Jvm.Free.Fn.fnW, List.mem_cons, List.not_mem_nil, or_false] at q
  rcases q with rfl | rfl | rfl
  · exact w1
  · exact w2
  · exact w3
theorem own_targetIs {Z : State} {y : MethodName} {σ : Lambda.Shape} {toy : ClassId} {tk : Class} {t t0 : MethodId} (ht0 : Z.methodNamed? y = some t0) (hpoly : y.cls ≠ "java/lang/invoke/MethodHandle" ∧ y.cls ≠ "java/lang/invoke/VarHandle") (hy : y.cls = σ.implClass ∧ y.name = σ.implName ∧ y.desc = σ.implDesc.toString)
    (htoy : Z.vm.findClass σ.implClass = some toy) (htk : Z.vm.classes[toy]? = some tk) (hlook : ((methodIn toy σ.implName σ.implDesc.toString tk.isInterface none).ask { classPath := fun _ => none } Z.vm).1 = .ok t) : t = t0 := by
  obtain ⟨y1, y2, y3⟩ := hy
  have h1 : Z.methodFound? y.cls y.name y.desc = some t0 := State.methodFound?_of_named ht0 hpoly
  rw [y1, y2, y3] at h1
  simp only [State.methodFound?, htoy, htk, Option.bind_eq_bind, Option.bind_some] at h1
  rw [hlook] at h1
  exact Option.some.inj h1

section OwnLam3
variable {p : Program} {l : Launch} {e : Env} {R : Room} {s : State} {m : MethodId} {args : Array Value} {below : List Frame} {meth : Method} {c : Code} {T : State} {locs : List Loc} {cells slots : Nat} {Z : State} {a0 : Array Value} {h : Heap}
/-- the made class's entry idx names the method name:desc of the class cn -/
def own_fwd2 (σ : Lambda.Shape) (host : String) (idx ci nt : Nat) (cn name desc : String) : Bool :=
  match σ.file host with
  | none => false
  | some D => decide (D.constantPool[idx]? = some (.methodref ci nt)) && decide (D.constantPool.className? ci = some cn) && decide (D.constantPool.nameAndType? nt = some (name, desc)) && decide (ci ≠ D.thisClass) &&
    match D.constantPool[ci]? with
    | some (.class_ n) => decide (D.constantPool.string? n = some cn)
    | _ => false
theorem own_made2 {st : Setting} {vm : Vm} {d cK : ClassId} {dk : Class} {σ : Lambda.Shape} {host cn name desc : String} {idx ci nt : Nat} (hok : own_fwd2 σ host idx ci nt cn name desc = true) (hd : vm.classes[d]? = some dk) (hname : dk.name = host) (hm : Lambda.isMade st vm d σ cK = true)
    {owner : ClassId} {ko : Class} {mv : MethodId} (hf : vm.findClass cn = some owner) (hko : vm.classes[owner]? = some ko) (hl : ((methodIn owner name desc ko.isInterface none).ask st vm).1 = .ok mv) :
    ∃ (k : Class) (file : ClassFile), vm.classes[cK]? = some k ∧ k.cf = some file ∧ file.constantPool[idx]? = some (.methodref ci nt) ∧ file.constantPool.nameAndType? nt = some (name, desc) ∧ vm.methodReady cK idx mv ∧ vm.classReady cK ci owner := by
  obtain ⟨dk', k, ok, tk, file, cf, object, iface, toy, lay, methods, target, found, hd', hk, hfile, hcf, -, -, -, -, hms, ht, htk, hg, -, hrec, -, -, -, -, hpool, hmeth, -, -, hres, -⟩ := Lambda.isMade_spec hm
  cases hd.symm.trans hd'
  rw [hname] at hcf
  unfold own_fwd2 at hok
  rw [hcf] at hok
  simp only [Bool.and_eq_true, decide_eq_true_eq] at hok
  obtain ⟨⟨⟨⟨h1, h2⟩, h3⟩, h4⟩, h5⟩ := hok
  refine ⟨k, file, hk, hfile, by rw [hpool.2.1]; exact h1, by rw [hpool.2.1]; exact h3, ⟨k, hk, hres idx _ (Lambda.resolvedOf_method h1 h2 hf hko h3 hl)⟩, ?_⟩
  split at h5
  · rename_i n hn
    exact ⟨k, hk, hres ci _ (Lambda.resolvedOf_class hn h4 (of_decide_eq_true h5) hf)⟩
  · cases h5
theorem own_looked {y : MethodName} {t0 : MethodId} (ht0 : Z.methodNamed? y = some t0) (hpoly : y.cls ≠ "java/lang/invoke/MethodHandle" ∧ y.cls ≠ "java/lang/invoke/VarHandle") :
    ∃ ko, Z.vm.findClass y.cls = some t0.cls ∧ Z.vm.classes[t0.cls]? = some ko ∧ ((methodIn t0.cls y.name y.desc ko.isInterface none).ask { classPath := fun _ => none } Z.vm).1 = .ok t0 := by
  obtain ⟨ko, hko, -⟩ := className_of_methodNamed ht0
  have hfc := findClass_of_methodNamed ht0
  refine ⟨ko, hfc, hko, ?_⟩
  have h1 : Z.methodFound? y.cls y.name y.desc = some t0 := State.methodFound?_of_named ht0 hpoly
  simp only [State.methodFound?, hfc, hko, Option.bind_eq_bind, Option.bind_some] at h1
  cases hq : ((methodIn t0.cls y.name y.desc ko.isInterface none).ask { classPath := fun _ => none } Z.vm).1 with
  | error x => rw [hq] at h1; cases h1
  | ok t => rw [hq] at h1; cases h1; rfl
theorem own_statReady (X : Stand p l e R s m args below meth c T locs cells slots) (hx : p.tables.exec = Jvm.exec) (hZ : Z.Warmed39 s.vm) {index ci nt : Nat} {y : MethodName} {bytes : ByteArray} {maxL : Nat} {ret : Option FieldType} {kK : Class} {file : ClassFile} {t0 : MethodId}
    (hkK : Z.vm.classes[m.cls]? = some kK) (hfile : kK.cf = some file) (hidx : file.constantPool[index]? = some (.methodref ci nt)) (hnt : file.constantPool.nameAndType? nt = some (y.name, y.desc)) (hmr : Z.vm.methodReady m.cls index t0) (hcr : Z.vm.classReady m.cls ci t0.cls) (ht0 : Z.methodNamed? y = some t0)
    (wcode : (Cond.code y bytes maxL ret).before a0 Z = true) (wstat : (Cond.static y).before a0 Z = true) (wini : (Cond.initialized y.cls).before a0 Z = true) (hy : y.cls ≠ "java/lang/invoke/MethodHandle" ∧ y.cls ≠ "java/lang/invoke/VarHandle")
    {W : Nat} {Pre : Pt → Array Value → Prop} {Post : Pt → Array Value → Option Value → Pt → Prop} (hK : Back l R p e below s args y 3 W Pre Post)
    {g : JFrame} (hg : g.method = m) (hsize : g.locals.size = c.maxLocals) {argsL rest : List Value} (hlen : ∀ sig, parseMethodDescriptor y.desc = some sig → argsL.length = sig.parameters.length) (hstack : g.stack = argsL.reverse ++ rest) (hW : 2 * g.monitorRoom + (rest.map fun v => v.category).sum ≤ W)
    (hdg : decode c.code g.pc = .ok (.invokestatic index, 3)) (hpre : Pre ⟨T, locs, cells, slots⟩ argsL.toArray) :
    ∃ (v : Option Value) (B : Pt), Stand p l e R s m args below meth c B.U B.locs B.cells B.slots ∧ Post ⟨T, locs, cells, slots⟩ argsL.toArray v B ∧
      Steps p.tables e below (T.setTop g) (B.U.setTop { g with pc := g.pc + 3, stack := v.toList ++ rest }) := by
  have hT : Z.Warmed39 T.vm := wtrans hZ X.warmed
  have hn0 : T.methodNamed? y = some t0 := own_named39 hT ht0
  obtain ⟨methM, cM, hmethM, -, -, -, -, -, -, hsigM⟩ := Cond.code_spec hn0 (mv (s := T) (args := args) hT wcode)
  have hstatic : methM.isStatic = true := Cond.static_spec hn0 hmethM (mv (s := T) (args := args) hT wstat)
  obtain ⟨kP, hkP, hpo⟩ := own_poly hn0 hy
  have hinitP : kP.init = .initialized := Cond.initialized_spec (findClass_of_methodNamed hn0) hkP (mv (s := T) (args := args) hT wini)
  obtain ⟨kK', hkK', eK'⟩ := hT.alike.2.2 _ _ hkK
  obtain ⟨b, hmem⟩ := memberRef_ask' (e := e) (vm := T.vm) (d := m.cls) (index := index) hkK' (by rw [eK']; exact hfile) (Or.inl hidx) hnt
  obtain ⟨v, B, X', hpost, hsteps⟩ := hK m meth c ⟨T, locs, cells, slots⟩ { g with stack := rest } (.invokestatic index) t0 argsL.toArray X hg hsize hdg hW hn0 hpre
  refine ⟨v, B, X', hpost, ?_⟩
  subst hg
  jvm_step X.here [hx, hdg, invokestatic.wp_ready (e := e) (s := T) (f := g) (m := t0) (k := kP) (meth := methM) (args := argsL) (rest := rest) X.here.top ⟨ci, _, _, b, t0.cls, kP, hmem, own_cready hT hcr, hkP, by simp [hpo]⟩ (own_mready hT hmr) hkP hmethM (hpo _) hstatic hinitP (hlen _ hsigM) hstack]
  intro acts
  rw [doInvoke_state]
  exact hsteps
theorem own_boxIdx {x : Int32} (h1 : ¬ x < (-128 : Int32)) (h2 : ¬ (127 : Int32) < x) : ¬ (x + (128 : Int32)) < 0 ∧ (x + (128 : Int32)) < (256 : Int32) := by
  have q := c_iadd x 128
  have r := rng32 (x + 128)
  have r2 := rng32 x
  have e1 : (128 : Int32).toInt = 128 := by decide
  have e2 : (-128 : Int32).toInt = -128 := by decide
  have e3 : (127 : Int32).toInt = 127 := by decide
  have e4 : (256 : Int32).toInt = 256 := by decide
  have e5 : (0 : Int32).toInt = 0 := by decide
  rw [Int32.lt_iff_toInt_lt] at h1 h2
  rw [Int32.lt_iff_toInt_lt, Int32.lt_iff_toInt_lt]
  omega
theorem own_boxVal (x : Int32) : (x + (128 : Int32)) - (128 : Int32) = x := by
  exact Int32.add_sub_cancel x 128
end OwnLam3

def own_shape : Jvm.Lambda.Shape := (Jvm.Lambda.Shape.mk "java/util/function/Function" "apply" (Jvm.ClassFile.MethodDescriptor.mk ([(Jvm.ClassFile.FieldType.object "java/lang/Object")] : List Jvm.ClassFile.FieldType) (Option.some (Jvm.ClassFile.FieldType.object "java/lang/Object"))) ([] : List Jvm.ClassFile.FieldType) (5 : Nat) "com/example/wise_crawler/wisecrawler/fetch/Exchange" "status" (Jvm.ClassFile.MethodDescriptor.mk ([] : List Jvm.ClassFile.FieldType) (Option.some Jvm.ClassFile.FieldType.int)) false (Jvm.ClassFile.MethodDescriptor.mk ([(Jvm.ClassFile.FieldType.object "com/example/wise_crawler/wisecrawler/fetch/Exchange")] : List Jvm.ClassFile.FieldType) (Option.some (Jvm.ClassFile.FieldType.object "java/lang/Integer"))))
def own_fcode : ByteArray := ⟨#[0x2b, 0xc0, 0x00, 0x0e, 0xb6, 0x00, 0x12, 0xb8, 0x00, 0x18, 0xb0]⟩
theorem own_fok : Jvm.LamKit.fwdOK own_shape "com/example/wise_crawler/wisecrawler/crawl/Answer" own_fcode 2 (some (.object "java/lang/Object")) 18 14 = true := by decide +kernel
theorem own_fok2 : own_fwd2 own_shape "com/example/wise_crawler/wisecrawler/crawl/Answer" 24 20 23 "java/lang/Integer" "valueOf" "(I)Ljava/lang/Integer;" = true := by decide +kernel
theorem own_f0 : decode own_fcode 0 = .ok (.aload_n 1, 1) := by decide +kernel
theorem own_f1 : decode own_fcode 1 = .ok (.checkcast 14, 3) := by decide +kernel
theorem own_f4 : decode own_fcode 4 = .ok (.invokevirtual 18, 3) := by decide +kernel
theorem own_f7 : decode own_fcode 7 = .ok (.invokestatic 24, 3) := by decide +kernel
theorem own_f10 : decode own_fcode 10 = .ok (.areturn, 1) := by decide +kernel
theorem own_fef (m : MethodId) (x0 x1 : Addr) : entryFrame m #[(.ref x0), (.ref x1)] 2 = mkF m 0 #[.val (.ref x0), .val (.ref x1)] [] := by first | (simp [entryFrame, mkF, argsToLocals, Value.category]; done) | rfl
theorem own_rec_d0 : decode jdk_30_method_1_code 0 = .ok (.aload_n 0, 1) := by decide +kernel
theorem own_rec_d1 : decode jdk_30_method_1_code 1 = .ok (.invokespecial 1, 3) := by decide +kernel
theorem own_rec_d4 : decode jdk_30_method_1_code 4 = .ok (.return_, 1) := by decide +kernel
theorem own_rec_pn : plainFor (⟨"java/lang/Record", "<init>", "()V"⟩ : MethodName) = true := by first | exact plainFor_of_name (by first | (simp [plainName, overriddenIn]; done) | decide +kernel) | decide +kernel
theorem own_rec_ef (m : MethodId) (x0 : Addr) : entryFrame m #[(.ref x0)] 1 = mkF m 0 #[.val (.ref x0)] [] := by first | (simp [entryFrame, mkF, argsToLocals, Value.category]; done) | rfl
def own_rec_Q (Z : State) (a1 : Addr) (h0 : Heap) (n0 : Nat) (v : Option Value) (h : Heap) (L : List Loc) : Prop := v = none ∧ Fr n0 L ∧ h = h0
set_option maxRecDepth 65536 in
set_option maxHeartbeats 40000000 in
theorem own_rec (l : Launch) (Z : State) (a0 : Array Value) (hw : ∀ d ∈ tables_1, d.before a0 Z = true) (ws : List Jvm.Cond) (a1 : Addr) (h0 : Heap) (n0 : Nat) (O : Old Z n0 h0)  :
    MetFree l (⟨"java/lang/Record", "<init>", "()V"⟩ : MethodName) (head1 (Jvm.Cond.code (⟨"java/lang/Record", "<init>", "()V"⟩ : MethodName) jdk_30_method_1_code 1 none :: ws) ({ frames := 1, cells := 0, slots := 0, locals := 12 } : Room)) (fun a U => a = #[(.ref a1)] ∧ Z.Warmed39 U.vm ∧ U.heap = h0) (fun _ _ _ _ _ => True) (fun _ U o U' => ∃ v L, o = .returned v ∧ own_rec_Q Z a1 h0 n0 v U'.heap L ∧ FrameEnd U o U' L ({ frames := 1, cells := 0, slots := 0, locals := 12 } : Room).cells ({ frames := 1, cells := 0, slots := 0, locals := 12 } : Room).slots) := by
  refine MetFree.of_bodySF own_rec_pn hisR ?_
  intro p e s m args below meth c s₁ Bd hml0 hP hK
  obtain ⟨rfl, hZ, hh⟩ := hP
  have hx := Bd.exec
  have hby := Bd.bytes
  have hlk := Bd.notSynchronized
  have hml : c.maxLocals = 1 := hml0
  have hown : s.vm.findClass "java/lang/Record" = some m.cls := findClass_of_methodNamed Bd.named
  have hnm := (name_of_methodNamed Bd.named Bd.method).1
  have X : Stand p l e ({ frames := 1, cells := 0, slots := 0, locals := 12 } : Room) s m #[(.ref a1)] below meth c s₁ [] 0 0 := Stand.of_body Bd
  have eT : s₁.heap = h0 := by rw [← hh, Bd.state]; rfl
  have N := Fr.nil n0
  have K0 := Keep.refl h0 []
  show own_Ends p e below (own_Post s below (own_rec_Q Z a1 h0 n0) ({ frames := 1, cells := 0, slots := 0, locals := 12 } : Room).cells ({ frames := 1, cells := 0, slots := 0, locals := 12 } : Room).slots) s₁ (entryFrame m #[(.ref a1)] 1)
  rw [own_rec_ef m a1]
  obtain ⟨T, hT⟩ : ∃ z, z = s₁ := ⟨_, rfl⟩
  rw [← hT] at X eT ⊢
  obtain ⟨h, hh0⟩ : ∃ z, z = h0 := ⟨_, rfl⟩
  rw [← hh0] at eT
  replace O : Old Z n0 h := by rw [hh0]; exact O
  replace K0 : Keep h0 h [] := by rw [hh0]; exact K0
  refine own_via (T' := T) (g' := (mkF m 1 #[.val (.ref a1)] [(.ref a1)])) (fun t_ k_ => XS.aloadN X.here hx rfl (hb hby own_rec_d0) rfl rfl k_) ?_
  obtain ⟨T, X, eT, st⟩ := initO X hx hZ hown (hw _ (List.mem_of_getElem? (i := 11) rfl)) (hw _ (List.mem_of_getElem? (i := 12) rfl)) (hw _ (List.mem_of_getElem? (i := 13) rfl)) eT (g := (mkF m 1 #[.val (.ref a1)] [(.ref a1)])) rfl (by rw [hml]; rfl) rfl (hb hby own_rec_d1) (by decide) (W := 0) (by show 2 * 0 + _ ≤ _; exact Nat.le_of_eq rfl) (by decide)
  refine own_via (g' := (mkF m 4 #[.val (.ref a1)] [])) st ?_
  refine own_retV X hx hlk Bd.returns (hb hby own_rec_d4) (by decide) (by decide) ?_
  rw [eT]
  exact ⟨rfl, N, hh0⟩
theorem own_exch_d0 : decode prog_28_method_1_code 0 = .ok (.aload_n 0, 1) := by decide +kernel
theorem own_exch_d1 : decode prog_28_method_1_code 1 = .ok (.invokespecial 1, 3) := by decide +kernel
theorem own_exch_d4 : decode prog_28_method_1_code 4 = .ok (.aload_n 0, 1) := by decide +kernel
theorem own_exch_d5 : decode prog_28_method_1_code 5 = .ok (.aload_n 1, 1) := by decide +kernel
theorem own_exch_d6 : decode prog_28_method_1_code 6 = .ok (.putfield 7, 3) := by decide +kernel
theorem own_exch_d9 : decode prog_28_method_1_code 9 = .ok (.aload_n 0, 1) := by decide +kernel
theorem own_exch_d10 : decode prog_28_method_1_code 10 = .ok (.aload_n 2, 1) := by decide +kernel
theorem own_exch_d11 : decode prog_28_method_1_code 11 = .ok (.putfield 13, 3) := by decide +kernel
theorem own_exch_d14 : decode prog_28_method_1_code 14 = .ok (.aload_n 0, 1) := by decide +kernel
theorem own_exch_d15 : decode prog_28_method_1_code 15 = .ok (.aload_n 3, 1) := by decide +kernel
theorem own_exch_d16 : decode prog_28_method_1_code 16 = .ok (.putfield 17, 3) := by decide +kernel
theorem own_exch_d19 : decode prog_28_method_1_code 19 = .ok (.aload_n 0, 1) := by decide +kernel
theorem own_exch_d20 : decode prog_28_method_1_code 20 = .ok (.aload 4, 2) := by decide +kernel
theorem own_exch_d22 : decode prog_28_method_1_code 22 = .ok (.putfield 21, 3) := by decide +kernel
theorem own_exch_d25 : decode prog_28_method_1_code 25 = .ok (.aload_n 0, 1) := by decide +kernel
theorem own_exch_d26 : decode prog_28_method_1_code 26 = .ok (.iload 5, 2) := by decide +kernel
theorem own_exch_d28 : decode prog_28_method_1_code 28 = .ok (.putfield 25, 3) := by decide +kernel
theorem own_exch_d31 : decode prog_28_method_1_code 31 = .ok (.aload_n 0, 1) := by decide +kernel
theorem own_exch_d32 : decode prog_28_method_1_code 32 = .ok (.aload 6, 2) := by decide +kernel
theorem own_exch_d34 : decode prog_28_method_1_code 34 = .ok (.putfield 29, 3) := by decide +kernel
theorem own_exch_d37 : decode prog_28_method_1_code 37 = .ok (.aload_n 0, 1) := by decide +kernel
theorem own_exch_d38 : decode prog_28_method_1_code 38 = .ok (.aload 7, 2) := by decide +kernel
theorem own_exch_d40 : decode prog_28_method_1_code 40 = .ok (.putfield 32, 3) := by decide +kernel
theorem own_exch_d43 : decode prog_28_method_1_code 43 = .ok (.aload_n 0, 1) := by decide +kernel
theorem own_exch_d44 : decode prog_28_method_1_code 44 = .ok (.aload 8, 2) := by decide +kernel
theorem own_exch_d46 : decode prog_28_method_1_code 46 = .ok (.putfield 36, 3) := by decide +kernel
theorem own_exch_d49 : decode prog_28_method_1_code 49 = .ok (.return_, 1) := by decide +kernel
theorem own_exch_pn : plainFor (⟨"com/example/wise_crawler/wisecrawler/fetch/Exchange", "<init>", "(Lcom/example/wise_crawler/wisecrawler/url/CanonicalUrl;Ljava/time/Instant;Ljava/lang/String;Lcom/example/wise_crawler/wisecrawler/fetch/HeaderFields;ILcom/example/wise_crawler/wisecrawler/fetch/HeaderFields;Lcom/example/wise_crawler/wisecrawler/fetch/SpooledBytes;Ljava/util/Optional;)V"⟩ : MethodName) = true := by first | exact plainFor_of_name (by first | (simp [plainName, overriddenIn]; done) | decide +kernel) | decide +kernel
theorem own_exch_ef (m : MethodId) (x0 : Addr) (x5 : Int32) : entryFrame m #[(.ref x0), .null, .null, .null, .null, (.int x5), .null, .null, .null] 9 = mkF m 0 #[.val (.ref x0), .val .null, .val .null, .val .null, .val .null, .val (.int x5), .val .null, .val .null, .val .null] [] := by first | (simp [entryFrame, mkF, argsToLocals, Value.category]; done) | rfl
def own_exch_Q (Z : State) (a1 : Addr) (p5 : Int32) (h0 : Heap) (n0 : Nat) (v : Option Value) (h : Heap) (L : List Loc) : Prop := v = none ∧ Fr n0 L ∧ Keep h0 h [a1] ∧ Exa Z h a1 "com/example/wise_crawler/wisecrawler/fetch/Exchange" ∧ Fld Z h a1 "com/example/wise_crawler/wisecrawler/fetch/Exchange" "status" "I" (.int p5)
set_option maxRecDepth 65536 in
set_option maxHeartbeats 40000000 in
theorem own_exch (l : Launch) (Z : State) (a0 : Array Value) (hw : ∀ d ∈ tables_1, d.before a0 Z = true) (ws : List Jvm.Cond) (a1 : Addr) (p5 : Int32) (h0 : Heap) (n0 : Nat) (O : Old Z n0 h0) (E_a1 : Exa Z h0 a1 "com/example/wise_crawler/wisecrawler/fetch/Exchange") (F_url_a1 : Fld Z h0 a1 "com/example/wise_crawler/wisecrawler/fetch/Exchange" "url" "Lcom/example/wise_crawler/wisecrawler/url/CanonicalUrl;" .null) (F_date_a1 : Fld Z h0 a1 "com/example/wise_crawler/wisecrawler/fetch/Exchange" "date" "Ljava/time/Instant;" .null) (F_protocol_a1 : Fld Z h0 a1 "com/example/wise_crawler/wisecrawler/fetch/Exchange" "protocol" "Ljava/lang/String;" .null) (F_requestHeaders_a1 : Fld Z h0 a1 "com/example/wise_crawler/wisecrawler/fetch/Exchange" "requestHeaders" "Lcom/example/wise_crawler/wisecrawler/fetch/HeaderFields;" .null) (F_status_a1 : Fld Z h0 a1 "com/example/wise_crawler/wisecrawler/fetch/Exchange" "status" "I" (.int (0 : Int32))) (F_responseHeaders_a1 : Fld Z h0 a1 "com/example/wise_crawler/wisecrawler/fetch/Exchange" "responseHeaders" "Lcom/example/wise_crawler/wisecrawler/fetch/HeaderFields;" .null) (F_body_a1 : Fld Z h0 a1 "com/example/wise_crawler/wisecrawler/fetch/Exchange" "body" "Lcom/example/wise_crawler/wisecrawler/fetch/SpooledBytes;" .null) (F_truncation_a1 : Fld Z h0 a1 "com/example/wise_crawler/wisecrawler/fetch/Exchange" "truncation" "Ljava/util/Optional;" .null) (g_a1 : n0 ≤ a1) :
    MetFree l (⟨"com/example/wise_crawler/wisecrawler/fetch/Exchange", "<init>", "(Lcom/example/wise_crawler/wisecrawler/url/CanonicalUrl;Ljava/time/Instant;Ljava/lang/String;Lcom/example/wise_crawler/wisecrawler/fetch/HeaderFields;ILcom/example/wise_crawler/wisecrawler/fetch/HeaderFields;Lcom/example/wise_crawler/wisecrawler/fetch/SpooledBytes;Ljava/util/Optional;)V"⟩ : MethodName) (head1 (Jvm.Cond.code (⟨"com/example/wise_crawler/wisecrawler/fetch/Exchange", "<init>", "(Lcom/example/wise_crawler/wisecrawler/url/CanonicalUrl;Ljava/time/Instant;Ljava/lang/String;Lcom/example/wise_crawler/wisecrawler/fetch/HeaderFields;ILcom/example/wise_crawler/wisecrawler/fetch/HeaderFields;Lcom/example/wise_crawler/wisecrawler/fetch/SpooledBytes;Ljava/util/Optional;)V"⟩ : MethodName) prog_28_method_1_code 9 none :: ws) ({ frames := 2, cells := 0, slots := 0, locals := 24 } : Room)) (fun a U => a = #[(.ref a1), .null, .null, .null, .null, (.int p5), .null, .null, .null] ∧ Z.Warmed39 U.vm ∧ U.heap = h0) (fun _ _ _ _ _ => True) (fun _ U o U' => ∃ v L, o = .returned v ∧ own_exch_Q Z a1 p5 h0 n0 v U'.heap L ∧ FrameEnd U o U' L ({ frames := 2, cells := 0, slots := 0, locals := 24 } : Room).cells ({ frames := 2, cells := 0, slots := 0, locals := 24 } : Room).slots) := by
  refine MetFree.of_bodySF own_exch_pn hisR ?_
  intro p e s m args below meth c s₁ Bd hml0 hP hK
  obtain ⟨rfl, hZ, hh⟩ := hP
  have hx := Bd.exec
  have hby := Bd.bytes
  have hlk := Bd.notSynchronized
  have hml : c.maxLocals = 9 := hml0
  have hown : s.vm.findClass "com/example/wise_crawler/wisecrawler/fetch/Exchange" = some m.cls := findClass_of_methodNamed Bd.named
  have hnm := (name_of_methodNamed Bd.named Bd.method).1
  have X : Stand p l e ({ frames := 2, cells := 0, slots := 0, locals := 24 } : Room) s m #[(.ref a1), .null, .null, .null, .null, (.int p5), .null, .null, .null] below meth c s₁ [] 0 0 := Stand.of_body Bd
  have eT : s₁.heap = h0 := by rw [← hh, Bd.state]; rfl
  have N := Fr.nil n0
  have K0 := Keep.refl h0 [a1]
  show own_Ends p e below (own_Post s below (own_exch_Q Z a1 p5 h0 n0) ({ frames := 2, cells := 0, slots := 0, locals := 24 } : Room).cells ({ frames := 2, cells := 0, slots := 0, locals := 24 } : Room).slots) s₁ (entryFrame m #[(.ref a1), .null, .null, .null, .null, (.int p5), .null, .null, .null] 9)
  rw [own_exch_ef m a1 p5]
  obtain ⟨T, hT⟩ : ∃ z, z = s₁ := ⟨_, rfl⟩
  rw [← hT] at X eT ⊢
  obtain ⟨h, hh0⟩ : ∃ z, z = h0 := ⟨_, rfl⟩
  rw [← hh0] at eT
  replace O : Old Z n0 h := by rw [hh0]; exact O
  replace K0 : Keep h0 h [a1] := by rw [hh0]; exact K0
  rw [← hh0] at E_a1
  rw [← hh0] at F_url_a1
  rw [← hh0] at F_date_a1
  rw [← hh0] at F_protocol_a1
  rw [← hh0] at F_requestHeaders_a1
  rw [← hh0] at F_status_a1
  rw [← hh0] at F_responseHeaders_a1
  rw [← hh0] at F_body_a1
  rw [← hh0] at F_truncation_a1
  refine own_via (T' := T) (g' := (mkF m 1 #[.val (.ref a1), .val .null, .val .null, .val .null, .val .null, .val (.int p5), .val .null, .val .null, .val .null] [(.ref a1)])) (fun t_ k_ => XS.aloadN X.here hx rfl (hb hby own_exch_d0) rfl rfl k_) ?_
  obtain ⟨_, _, ⟨T, Lq, kq, nq⟩, -, X, ⟨Lc, hQ, lq, yq, zq⟩, st⟩ := X.specialBack hx (y := (⟨"java/lang/Record", "<init>", "()V"⟩ : MethodName)) rfl hown (mvT hZ (hw _ (List.mem_of_getElem? (i := 6) rfl))) (mvT hZ (hw _ (List.mem_of_getElem? (i := 7) rfl))) (mvT hZ (hw _ (List.mem_of_getElem? (i := 10) rfl))) (by decide) (backOf (W := 0) (own_rec l Z a0 hw [] a1 h n0 O ) hZ (hw _ (List.mem_of_getElem? (i := 10) rfl)) (hw _ (List.mem_of_getElem? (i := 9) rfl)) (by decide) (by decide)) (g := (mkF m 1 #[.val (.ref a1), .val .null, .val .null, .val .null, .val .null, .val (.int p5), .val .null, .val .null, .val .null] [(.ref a1)])) rfl (by rw [hml]; rfl) (Steps.refl _) (a := a1) (argsL := []) (rest := []) (lenOf own_pd0 rfl) rfl (by show 2 * 0 + _ ≤ _; exact Nat.le_of_eq rfl) (hb hby own_exch_d1) (fun _ _ => ⟨rfl, eT, (by decide : 0 + 0 ≤ _), (by decide : 0 + 0 ≤ _)⟩)
  dsimp only [Pt.U, Pt.locs, Pt.cells, Pt.slots] at X lq yq zq st hQ
  subst lq yq zq
  obtain ⟨rfl, Nq, eT⟩ := hQ
  replace N := Fr.app N Nq
  refine own_viaT (g' := (mkF m 4 #[.val (.ref a1), .val .null, .val .null, .val .null, .val .null, .val (.int p5), .val .null, .val .null, .val .null] [])) st ?_
  refine own_via (T' := T) (g' := (mkF m 5 #[.val (.ref a1), .val .null, .val .null, .val .null, .val .null, .val (.int p5), .val .null, .val .null, .val .null] [(.ref a1)])) (fun t_ k_ => XS.aloadN X.here hx rfl (hb hby own_exch_d4) rfl rfl k_) ?_
  refine own_via (T' := T) (g' := (mkF m 6 #[.val (.ref a1), .val .null, .val .null, .val .null, .val .null, .val (.int p5), .val .null, .val .null, .val .null] [.null, (.ref a1)])) (fun t_ k_ => XS.aloadN X.here hx rfl (hb hby own_exch_d5) rfl rfl k_) ?_
  obtain ⟨T, h1, X, eT, W, st⟩ := putF X hx hZ hown (host := "") (Or.inl (hw _ (List.mem_of_getElem? (i := 14) rfl))) Via.refl eT F_url_a1 E_a1 (Or.inr ⟨(hw _ (List.mem_of_getElem? (i := 15) rfl)), rfl, hnm⟩) (hw _ (List.mem_of_getElem? (i := 1) rfl)) (ty := (.object "com/example/wise_crawler/wisecrawler/url/CanonicalUrl")) (by decide) rfl rfl (g := (mkF m 6 #[.val (.ref a1), .val .null, .val .null, .val .null, .val .null, .val (.int p5), .val .null, .val .null, .val .null] [.null, (.ref a1)])) rfl rfl (hb hby own_exch_d6)
  replace F_url_a1 := F_url_a1.same W
  replace E_a1 := E_a1.wr W
  replace F_date_a1 := F_date_a1.other W (Or.inr (slot_ne (Or.inr (hw _ (List.mem_of_getElem? (i := 17) rfl))) (Or.inr (hw _ (List.mem_of_getElem? (i := 15) rfl))) (by decide) (t := (.object "java/time/Instant")) (t' := (.object "com/example/wise_crawler/wisecrawler/url/CanonicalUrl")) (by decide) (by decide)))
  replace F_protocol_a1 := F_protocol_a1.other W (Or.inr (slot_ne (Or.inr (hw _ (List.mem_of_getElem? (i := 19) rfl))) (Or.inr (hw _ (List.mem_of_getElem? (i := 15) rfl))) (by decide) (t := (.object "java/lang/String")) (t' := (.object "com/example/wise_crawler/wisecrawler/url/CanonicalUrl")) (by decide) (by decide)))
  replace F_requestHeaders_a1 := F_requestHeaders_a1.other W (Or.inr (slot_ne (Or.inr (hw _ (List.mem_of_getElem? (i := 21) rfl))) (Or.inr (hw _ (List.mem_of_getElem? (i := 15) rfl))) (by decide) (t := (.object "com/example/wise_crawler/wisecrawler/fetch/HeaderFields")) (t' := (.object "com/example/wise_crawler/wisecrawler/url/CanonicalUrl")) (by decide) (by decide)))
  replace F_status_a1 := F_status_a1.other W (Or.inr (slot_ne (Or.inr (hw _ (List.mem_of_getElem? (i := 23) rfl))) (Or.inr (hw _ (List.mem_of_getElem? (i := 15) rfl))) (by decide) (t := .int) (t' := (.object "com/example/wise_crawler/wisecrawler/url/CanonicalUrl")) (by decide) (by decide)))
  replace F_responseHeaders_a1 := F_responseHeaders_a1.other W (Or.inr (slot_ne (Or.inr (hw _ (List.mem_of_getElem? (i := 25) rfl))) (Or.inr (hw _ (List.mem_of_getElem? (i := 15) rfl))) (by decide) (t := (.object "com/example/wise_crawler/wisecrawler/fetch/HeaderFields")) (t' := (.object "com/example/wise_crawler/wisecrawler/url/CanonicalUrl")) (by decide) (by decide)))
  replace F_body_a1 := F_body_a1.other W (Or.inr (slot_ne (Or.inr (hw _ (List.mem_of_getElem? (i := 27) rfl))) (Or.inr (hw _ (List.mem_of_getElem? (i := 15) rfl))) (by decide) (t := (.object "com/example/wise_crawler/wisecrawler/fetch/SpooledBytes")) (t' := (.object "com/example/wise_crawler/wisecrawler/url/CanonicalUrl")) (by decide) (by decide)))
  replace F_truncation_a1 := F_truncation_a1.other W (Or.inr (slot_ne (Or.inr (hw _ (List.mem_of_getElem? (i := 29) rfl))) (Or.inr (hw _ (List.mem_of_getElem? (i := 15) rfl))) (by decide) (t := (.object "java/util/Optional")) (t' := (.object "com/example/wise_crawler/wisecrawler/url/CanonicalUrl")) (by decide) (by decide)))
  replace O := O.wr W g_a1
  replace K0 := K0.wr W (Or.inl (List.mem_of_getElem? (i := 0) rfl))
  replace N := Fr.snoc X N g_a1
  refine own_via (g' := (mkF m 9 #[.val (.ref a1), .val .null, .val .null, .val .null, .val .null, .val (.int p5), .val .null, .val .null, .val .null] [])) st ?_
  refine own_via (T' := T) (g' := (mkF m 10 #[.val (.ref a1), .val .null, .val .null, .val .null, .val .null, .val (.int p5), .val .null, .val .null, .val .null] [(.ref a1)])) (fun t_ k_ => XS.aloadN X.here hx rfl (hb hby own_exch_d9) rfl rfl k_) ?_
  refine own_via (T' := T) (g' := (mkF m 11 #[.val (.ref a1), .val .null, .val .null, .val .null, .val .null, .val (.int p5), .val .null, .val .null, .val .null] [.null, (.ref a1)])) (fun t_ k_ => XS.aloadN X.here hx rfl (hb hby own_exch_d10) rfl rfl k_) ?_
  obtain ⟨T, h2, X, eT, W, st⟩ := putF X hx hZ hown (host := "") (Or.inl (hw _ (List.mem_of_getElem? (i := 16) rfl))) Via.refl eT F_date_a1 E_a1 (Or.inr ⟨(hw _ (List.mem_of_getElem? (i := 17) rfl)), rfl, hnm⟩) (hw _ (List.mem_of_getElem? (i := 1) rfl)) (ty := (.object "java/time/Instant")) (by decide) rfl rfl (g := (mkF m 11 #[.val (.ref a1), .val .null, .val .null, .val .null, .val .null, .val (.int p5), .val .null, .val .null, .val .null] [.null, (.ref a1)])) rfl rfl (hb hby own_exch_d11)
  replace F_date_a1 := F_date_a1.same W
  replace E_a1 := E_a1.wr W
  replace F_url_a1 := F_url_a1.other W (Or.inr (slot_ne (Or.inr (hw _ (List.mem_of_getElem? (i := 15) rfl))) (Or.inr (hw _ (List.mem_of_getElem? (i := 17) rfl))) (by decide) (t := (.object "com/example/wise_crawler/wisecrawler/url/CanonicalUrl")) (t' := (.object "java/time/Instant")) (by decide) (by decide)))
  replace F_protocol_a1 := F_protocol_a1.other W (Or.inr (slot_ne (Or.inr (hw _ (List.mem_of_getElem? (i := 19) rfl))) (Or.inr (hw _ (List.mem_of_getElem? (i := 17) rfl))) (by decide) (t := (.object "java/lang/String")) (t' := (.object "java/time/Instant")) (by decide) (by decide)))
  replace F_requestHeaders_a1 := F_requestHeaders_a1.other W (Or.inr (slot_ne (Or.inr (hw _ (List.mem_of_getElem? (i := 21) rfl))) (Or.inr (hw _ (List.mem_of_getElem? (i := 17) rfl))) (by decide) (t := (.object "com/example/wise_crawler/wisecrawler/fetch/HeaderFields")) (t' := (.object "java/time/Instant")) (by decide) (by decide)))
  replace F_status_a1 := F_status_a1.other W (Or.inr (slot_ne (Or.inr (hw _ (List.mem_of_getElem? (i := 23) rfl))) (Or.inr (hw _ (List.mem_of_getElem? (i := 17) rfl))) (by decide) (t := .int) (t' := (.object "java/time/Instant")) (by decide) (by decide)))
  replace F_responseHeaders_a1 := F_responseHeaders_a1.other W (Or.inr (slot_ne (Or.inr (hw _ (List.mem_of_getElem? (i := 25) rfl))) (Or.inr (hw _ (List.mem_of_getElem? (i := 17) rfl))) (by decide) (t := (.object "com/example/wise_crawler/wisecrawler/fetch/HeaderFields")) (t' := (.object "java/time/Instant")) (by decide) (by decide)))
  replace F_body_a1 := F_body_a1.other W (Or.inr (slot_ne (Or.inr (hw _ (List.mem_of_getElem? (i := 27) rfl))) (Or.inr (hw _ (List.mem_of_getElem? (i := 17) rfl))) (by decide) (t := (.object "com/example/wise_crawler/wisecrawler/fetch/SpooledBytes")) (t' := (.object "java/time/Instant")) (by decide) (by decide)))
  replace F_truncation_a1 := F_truncation_a1.other W (Or.inr (slot_ne (Or.inr (hw _ (List.mem_of_getElem? (i := 29) rfl))) (Or.inr (hw _ (List.mem_of_getElem? (i := 17) rfl))) (by decide) (t := (.object "java/util/Optional")) (t' := (.object "java/time/Instant")) (by decide) (by decide)))
  replace O := O.wr W g_a1
  replace K0 := K0.wr W (Or.inl (List.mem_of_getElem? (i := 0) rfl))
  replace N := Fr.snoc X N g_a1
  refine own_via (g' := (mkF m 14 #[.val (.ref a1), .val .null, .val .null, .val .null, .val .null, .val (.int p5), .val .null, .val .null, .val .null] [])) st ?_
  refine own_via (T' := T) (g' := (mkF m 15 #[.val (.ref a1), .val .null, .val .null, .val .null, .val .null, .val (.int p5), .val .null, .val .null, .val .null] [(.ref a1)])) (fun t_ k_ => XS.aloadN X.here hx rfl (hb hby own_exch_d14) rfl rfl k_) ?_
  refine own_via (T' := T) (g' := (mkF m 16 #[.val (.ref a1), .val .null, .val .null, .val .null, .val .null, .val (.int p5), .val .null, .val .null, .val .null] [.null, (.ref a1)])) (fun t_ k_ => XS.aloadN X.here hx rfl (hb hby own_exch_d15) rfl rfl k_) ?_
  obtain ⟨T, h3, X, eT, W, st⟩ := putF X hx hZ hown (host := "") (Or.inl (hw _ (List.mem_of_getElem? (i := 18) rfl))) Via.refl eT F_protocol_a1 E_a1 (Or.inr ⟨(hw _ (List.mem_of_getElem? (i := 19) rfl)), rfl, hnm⟩) (hw _ (List.mem_of_getElem? (i := 1) rfl)) (ty := (.object "java/lang/String")) (by decide) rfl rfl (g := (mkF m 16 #[.val (.ref a1), .val .null, .val .null, .val .null, .val .null, .val (.int p5), .val .null, .val .null, .val .null] [.null, (.ref a1)])) rfl rfl (hb hby own_exch_d16)
  replace F_protocol_a1 := F_protocol_a1.same W
  replace E_a1 := E_a1.wr W
  replace F_url_a1 := F_url_a1.other W (Or.inr (slot_ne (Or.inr (hw _ (List.mem_of_getElem? (i := 15) rfl))) (Or.inr (hw _ (List.mem_of_getElem? (i := 19) rfl))) (by decide) (t := (.object "com/example/wise_crawler/wisecrawler/url/CanonicalUrl")) (t' := (.object "java/lang/String")) (by decide) (by decide)))
  replace F_date_a1 := F_date_a1.other W (Or.inr (slot_ne (Or.inr (hw _ (List.mem_of_getElem? (i := 17) rfl))) (Or.inr (hw _ (List.mem_of_getElem? (i := 19) rfl))) (by decide) (t := (.object "java/time/Instant")) (t' := (.object "java/lang/String")) (by decide) (by decide)))
  replace F_requestHeaders_a1 := F_requestHeaders_a1.other W (Or.inr (slot_ne (Or.inr (hw _ (List.mem_of_getElem? (i := 21) rfl))) (Or.inr (hw _ (List.mem_of_getElem? (i := 19) rfl))) (by decide) (t := (.object "com/example/wise_crawler/wisecrawler/fetch/HeaderFields")) (t' := (.object "java/lang/String")) (by decide) (by decide)))
  replace F_status_a1 := F_status_a1.other W (Or.inr (slot_ne (Or.inr (hw _ (List.mem_of_getElem? (i := 23) rfl))) (Or.inr (hw _ (List.mem_of_getElem? (i := 19) rfl))) (by decide) (t := .int) (t' := (.object "java/lang/String")) (by decide) (by decide)))
  replace F_responseHeaders_a1 := F_responseHeaders_a1.other W (Or.inr (slot_ne (Or.inr (hw _ (List.mem_of_getElem? (i := 25) rfl))) (Or.inr (hw _ (List.mem_of_getElem? (i := 19) rfl))) (by decide) (t := (.object "com/example/wise_crawler/wisecrawler/fetch/HeaderFields")) (t' := (.object "java/lang/String")) (by decide) (by decide)))
  replace F_body_a1 := F_body_a1.other W (Or.inr (slot_ne (Or.inr (hw _ (List.mem_of_getElem? (i := 27) rfl))) (Or.inr (hw _ (List.mem_of_getElem? (i := 19) rfl))) (by decide) (t := (.object "com/example/wise_crawler/wisecrawler/fetch/SpooledBytes")) (t' := (.object "java/lang/String")) (by decide) (by decide)))
  replace F_truncation_a1 := F_truncation_a1.other W (Or.inr (slot_ne (Or.inr (hw _ (List.mem_of_getElem? (i := 29) rfl))) (Or.inr (hw _ (List.mem_of_getElem? (i := 19) rfl))) (by decide) (t := (.object "java/util/Optional")) (t' := (.object "java/lang/String")) (by decide) (by decide)))
  replace O := O.wr W g_a1
  replace K0 := K0.wr W (Or.inl (List.mem_of_getElem? (i := 0) rfl))
  replace N := Fr.snoc X N g_a1
  refine own_via (g' := (mkF m 19 #[.val (.ref a1), .val .null, .val .null, .val .null, .val .null, .val (.int p5), .val .null, .val .null, .val .null] [])) st ?_
  refine own_via (T' := T) (g' := (mkF m 20 #[.val (.ref a1), .val .null, .val .null, .val .null, .val .null, .val (.int p5), .val .null, .val .null, .val .null] [(.ref a1)])) (fun t_ k_ => XS.aloadN X.here hx rfl (hb hby own_exch_d19) rfl rfl k_) ?_
  refine own_via (T' := T) (g' := (mkF m 22 #[.val (.ref a1), .val .null, .val .null, .val .null, .val .null, .val (.int p5), .val .null, .val .null, .val .null] [.null, (.ref a1)])) (fun t_ k_ => XS.aload X.here hx rfl (hb hby own_exch_d20) rfl rfl k_) ?_
  obtain ⟨T, h4, X, eT, W, st⟩ := putF X hx hZ hown (host := "") (Or.inl (hw _ (List.mem_of_getElem? (i := 20) rfl))) Via.refl eT F_requestHeaders_a1 E_a1 (Or.inr ⟨(hw _ (List.mem_of_getElem? (i := 21) rfl)), rfl, hnm⟩) (hw _ (List.mem_of_getElem? (i := 1) rfl)) (ty := (.object "com/example/wise_crawler/wisecrawler/fetch/HeaderFields")) (by decide) rfl rfl (g := (mkF m 22 #[.val (.ref a1), .val .null, .val .null, .val .null, .val .null, .val (.int p5), .val .null, .val .null, .val .null] [.null, (.ref a1)])) rfl rfl (hb hby own_exch_d22)
  replace F_requestHeaders_a1 := F_requestHeaders_a1.same W
  replace E_a1 := E_a1.wr W
  replace F_url_a1 := F_url_a1.other W (Or.inr (slot_ne (Or.inr (hw _ (List.mem_of_getElem? (i := 15) rfl))) (Or.inr (hw _ (List.mem_of_getElem? (i := 21) rfl))) (by decide) (t := (.object "com/example/wise_crawler/wisecrawler/url/CanonicalUrl")) (t' := (.object "com/example/wise_crawler/wisecrawler/fetch/HeaderFields")) (by decide) (by decide)))
  replace F_date_a1 := F_date_a1.other W (Or.inr (slot_ne (Or.inr (hw _ (List.mem_of_getElem? (i := 17) rfl))) (Or.inr (hw _ (List.mem_of_getElem? (i := 21) rfl))) (by decide) (t := (.object "java/time/Instant")) (t' := (.object "com/example/wise_crawler/wisecrawler/fetch/HeaderFields")) (by decide) (by decide)))
  replace F_protocol_a1 := F_protocol_a1.other W (Or.inr (slot_ne (Or.inr (hw _ (List.mem_of_getElem? (i := 19) rfl))) (Or.inr (hw _ (List.mem_of_getElem? (i := 21) rfl))) (by decide) (t := (.object "java/lang/String")) (t' := (.object "com/example/wise_crawler/wisecrawler/fetch/HeaderFields")) (by decide) (by decide)))
  replace F_status_a1 := F_status_a1.other W (Or.inr (slot_ne (Or.inr (hw _ (List.mem_of_getElem? (i := 23) rfl))) (Or.inr (hw _ (List.mem_of_getElem? (i := 21) rfl))) (by decide) (t := .int) (t' := (.object "com/example/wise_crawler/wisecrawler/fetch/HeaderFields")) (by decide) (by decide)))
  replace F_responseHeaders_a1 := F_responseHeaders_a1.other W (Or.inr (slot_ne (Or.inr (hw _ (List.mem_of_getElem? (i := 25) rfl))) (Or.inr (hw _ (List.mem_of_getElem? (i := 21) rfl))) (by decide) (t := (.object "com/example/wise_crawler/wisecrawler/fetch/HeaderFields")) (t' := (.object "com/example/wise_crawler/wisecrawler/fetch/HeaderFields")) (by decide) (by decide)))
  replace F_body_a1 := F_body_a1.other W (Or.inr (slot_ne (Or.inr (hw _ (List.mem_of_getElem? (i := 27) rfl))) (Or.inr (hw _ (List.mem_of_getElem? (i := 21) rfl))) (by decide) (t := (.object "com/example/wise_crawler/wisecrawler/fetch/SpooledBytes")) (t' := (.object "com/example/wise_crawler/wisecrawler/fetch/HeaderFields")) (by decide) (by decide)))
  replace F_truncation_a1 := F_truncation_a1.other W (Or.inr (slot_ne (Or.inr (hw _ (List.mem_of_getElem? (i := 29) rfl))) (Or.inr (hw _ (List.mem_of_getElem? (i := 21) rfl))) (by decide) (t := (.object "java/util/Optional")) (t' := (.object "com/example/wise_crawler/wisecrawler/fetch/HeaderFields")) (by decide) (by decide)))
  replace O := O.wr W g_a1
  replace K0 := K0.wr W (Or.inl (List.mem_of_getElem? (i := 0) rfl))
  replace N := Fr.snoc X N g_a1
  refine own_via (g' := (mkF m 25 #[.val (.ref a1), .val .null, .val .null, .val .null, .val .null, .val (.int p5), .val .null, .val .null, .val .null] [])) st ?_
  refine own_via (T' := T) (g' := (mkF m 26 #[.val (.ref a1), .val .null, .val .null, .val .null, .val .null, .val (.int p5), .val .null, .val .null, .val .null] [(.ref a1)])) (fun t_ k_ => XS.aloadN X.here hx rfl (hb hby own_exch_d25) rfl rfl k_) ?_
  refine own_via (T' := T) (g' := (mkF m 28 #[.val (.ref a1), .val .null, .val .null, .val .null, .val .null, .val (.int p5), .val .null, .val .null, .val .null] [(.int p5), (.ref a1)])) (fun t_ k_ => XS.iload X.here hx rfl (hb hby own_exch_d26) rfl k_) ?_
  obtain ⟨T, h5, X, eT, W, st⟩ := putF X hx hZ hown (host := "") (Or.inl (hw _ (List.mem_of_getElem? (i := 22) rfl))) Via.refl eT F_status_a1 E_a1 (Or.inr ⟨(hw _ (List.mem_of_getElem? (i := 23) rfl)), rfl, hnm⟩) (hw _ (List.mem_of_getElem? (i := 1) rfl)) (ty := .int) (by decide) rfl rfl (g := (mkF m 28 #[.val (.ref a1), .val .null, .val .null, .val .null, .val .null, .val (.int p5), .val .null, .val .null, .val .null] [(.int p5), (.ref a1)])) rfl rfl (hb hby own_exch_d28)
  replace F_status_a1 := F_status_a1.same W
  replace E_a1 := E_a1.wr W
  replace F_url_a1 := F_url_a1.other W (Or.inr (slot_ne (Or.inr (hw _ (List.mem_of_getElem? (i := 15) rfl))) (Or.inr (hw _ (List.mem_of_getElem? (i := 23) rfl))) (by decide) (t := (.object "com/example/wise_crawler/wisecrawler/url/CanonicalUrl")) (t' := .int) (by decide) (by decide)))
  replace F_date_a1 := F_date_a1.other W (Or.inr (slot_ne (Or.inr (hw _ (List.mem_of_getElem? (i := 17) rfl))) (Or.inr (hw _ (List.mem_of_getElem? (i := 23) rfl))) (by decide) (t := (.object "java/time/Instant")) (t' := .int) (by decide) (by decide)))
  replace F_protocol_a1 := F_protocol_a1.other W (Or.inr (slot_ne (Or.inr (hw _ (List.mem_of_getElem? (i := 19) rfl))) (Or.inr (hw _ (List.mem_of_getElem? (i := 23) rfl))) (by decide) (t := (.object "java/lang/String")) (t' := .int) (by decide) (by decide)))
  replace F_requestHeaders_a1 := F_requestHeaders_a1.other W (Or.inr (slot_ne (Or.inr (hw _ (List.mem_of_getElem? (i := 21) rfl))) (Or.inr (hw _ (List.mem_of_getElem? (i := 23) rfl))) (by decide) (t := (.object "com/example/wise_crawler/wisecrawler/fetch/HeaderFields")) (t' := .int) (by decide) (by decide)))
  replace F_responseHeaders_a1 := F_responseHeaders_a1.other W (Or.inr (slot_ne (Or.inr (hw _ (List.mem_of_getElem? (i := 25) rfl))) (Or.inr (hw _ (List.mem_of_getElem? (i := 23) rfl))) (by decide) (t := (.object "com/example/wise_crawler/wisecrawler/fetch/HeaderFields")) (t' := .int) (by decide) (by decide)))
  replace F_body_a1 := F_body_a1.other W (Or.inr (slot_ne (Or.inr (hw _ (List.mem_of_getElem? (i := 27) rfl))) (Or.inr (hw _ (List.mem_of_getElem? (i := 23) rfl))) (by decide) (t := (.object "com/example/wise_crawler/wisecrawler/fetch/SpooledBytes")) (t' := .int) (by decide) (by decide)))
  replace F_truncation_a1 := F_truncation_a1.other W (Or.inr (slot_ne (Or.inr (hw _ (List.mem_of_getElem? (i := 29) rfl))) (Or.inr (hw _ (List.mem_of_getElem? (i := 23) rfl))) (by decide) (t := (.object "java/util/Optional")) (t' := .int) (by decide) (by decide)))
  replace O := O.wr W g_a1
  replace K0 := K0.wr W (Or.inl (List.mem_of_getElem? (i := 0) rfl))
  replace N := Fr.snoc X N g_a1
  refine own_via (g' := (mkF m 31 #[.val (.ref a1), .val .null, .val .null, .val .null, .val .null, .val (.int p5), .val .null, .val .null, .val .null] [])) st ?_
  refine own_via (T' := T) (g' := (mkF m 32 #[.val (.ref a1), .val .null, .val .null, .val .null, .val .null, .val (.int p5), .val .null, .val .null, .val .null] [(.ref a1)])) (fun t_ k_ => XS.aloadN X.here hx rfl (hb hby own_exch_d31) rfl rfl k_) ?_
  refine own_via (T' := T) (g' := (mkF m 34 #[.val (.ref a1), .val .null, .val .null, .val .null, .val .null, .val (.int p5), .val .null, .val .null, .val .null] [.null, (.ref a1)])) (fun t_ k_ => XS.aload X.here hx rfl (hb hby own_exch_d32) rfl rfl k_) ?_
  obtain ⟨T, h6, X, eT, W, st⟩ := putF X hx hZ hown (host := "") (Or.inl (hw _ (List.mem_of_getElem? (i := 24) rfl))) Via.refl eT F_responseHeaders_a1 E_a1 (Or.inr ⟨(hw _ (List.mem_of_getElem? (i := 25) rfl)), rfl, hnm⟩) (hw _ (List.mem_of_getElem? (i := 1) rfl)) (ty := (.object "com/example/wise_crawler/wisecrawler/fetch/HeaderFields")) (by decide) rfl rfl (g := (mkF m 34 #[.val (.ref a1), .val .null, .val .null, .val .null, .val .null, .val (.int p5), .val .null, .val .null, .val .null] [.null, (.ref a1)])) rfl rfl (hb hby own_exch_d34)
  replace F_responseHeaders_a1 := F_responseHeaders_a1.same W
  replace E_a1 := E_a1.wr W
  replace F_url_a1 := F_url_a1.other W (Or.inr (slot_ne (Or.inr (hw _ (List.mem_of_getElem? (i := 15) rfl))) (Or.inr (hw _ (List.mem_of_getElem? (i := 25) rfl))) (by decide) (t := (.object "com/example/wise_crawler/wisecrawler/url/CanonicalUrl")) (t' := (.object "com/example/wise_crawler/wisecrawler/fetch/HeaderFields")) (by decide) (by decide)))
  replace F_date_a1 := F_date_a1.other W (Or.inr (slot_ne (Or.inr (hw _ (List.mem_of_getElem? (i := 17) rfl))) (Or.inr (hw _ (List.mem_of_getElem? (i := 25) rfl))) (by decide) (t := (.object "java/time/Instant")) (t' := (.object "com/example/wise_crawler/wisecrawler/fetch/HeaderFields")) (by decide) (by decide)))
  replace F_protocol_a1 := F_protocol_a1.other W (Or.inr (slot_ne (Or.inr (hw _ (List.mem_of_getElem? (i := 19) rfl))) (Or.inr (hw _ (List.mem_of_getElem? (i := 25) rfl))) (by decide) (t := (.object "java/lang/String")) (t' := (.object "com/example/wise_crawler/wisecrawler/fetch/HeaderFields")) (by decide) (by decide)))
  replace F_requestHeaders_a1 := F_requestHeaders_a1.other W (Or.inr (slot_ne (Or.inr (hw _ (List.mem_of_getElem? (i := 21) rfl))) (Or.inr (hw _ (List.mem_of_getElem? (i := 25) rfl))) (by decide) (t := (.object "com/example/wise_crawler/wisecrawler/fetch/HeaderFields")) (t' := (.object "com/example/wise_crawler/wisecrawler/fetch/HeaderFields")) (by decide) (by decide)))
  replace F_status_a1 := F_status_a1.other W (Or.inr (slot_ne (Or.inr (hw _ (List.mem_of_getElem? (i := 23) rfl))) (Or.inr (hw _ (List.mem_of_getElem? (i := 25) rfl))) (by decide) (t := .int) (t' := (.object "com/example/wise_crawler/wisecrawler/fetch/HeaderFields")) (by decide) (by decide)))
  replace F_body_a1 := F_body_a1.other W (Or.inr (slot_ne (Or.inr (hw _ (List.mem_of_getElem? (i := 27) rfl))) (Or.inr (hw _ (List.mem_of_getElem? (i := 25) rfl))) (by decide) (t := (.object "com/example/wise_crawler/wisecrawler/fetch/SpooledBytes")) (t' := (.object "com/example/wise_crawler/wisecrawler/fetch/HeaderFields")) (by decide) (by decide)))
  replace F_truncation_a1 := F_truncation_a1.other W (Or.inr (slot_ne (Or.inr (hw _ (List.mem_of_getElem? (i := 29) rfl))) (Or.inr (hw _ (List.mem_of_getElem? (i := 25) rfl))) (by decide) (t := (.object "java/util/Optional")) (t' := (.object "com/example/wise_crawler/wisecrawler/fetch/HeaderFields")) (by decide) (by decide)))
  replace O := O.wr W g_a1
  replace K0 := K0.wr W (Or.inl (List.mem_of_getElem? (i := 0) rfl))
  replace N := Fr.snoc X N g_a1
  refine own_via (g' := (mkF m 37 #[.val (.ref a1), .val .null, .val .null, .val .null, .val .null, .val (.int p5), .val .null, .val .null, .val .null] [])) st ?_
  refine own_via (T' := T) (g' := (mkF m 38 #[.val (.ref a1), .val .null, .val .null, .val .null, .val .null, .val (.int p5), .val .null, .val .null, .val .null] [(.ref a1)])) (fun t_ k_ => XS.aloadN X.here hx rfl (hb hby own_exch_d37) rfl rfl k_) ?_
  refine own_via (T' := T) (g' := (mkF m 40 #[.val (.ref a1), .val .null, .val .null, .val .null, .val .null, .val (.int p5), .val .null, .val .null, .val .null] [.null, (.ref a1)])) (fun t_ k_ => XS.aload X.here hx rfl (hb hby own_exch_d38) rfl rfl k_) ?_
  obtain ⟨T, h7, X, eT, W, st⟩ := putF X hx hZ hown (host := "") (Or.inl (hw _ (List.mem_of_getElem? (i := 26) rfl))) Via.refl eT F_body_a1 E_a1 (Or.inr ⟨(hw _ (List.mem_of_getElem? (i := 27) rfl)), rfl, hnm⟩) (hw _ (List.mem_of_getElem? (i := 1) rfl)) (ty := (.object "com/example/wise_crawler/wisecrawler/fetch/SpooledBytes")) (by decide) rfl rfl (g := (mkF m 40 #[.val (.ref a1), .val .null, .val .null, .val .null, .val .null, .val (.int p5), .val .null, .val .null, .val .null] [.null, (.ref a1)])) rfl rfl (hb hby own_exch_d40)
  replace F_body_a1 := F_body_a1.same W
  replace E_a1 := E_a1.wr W
  replace F_url_a1 := F_url_a1.other W (Or.inr (slot_ne (Or.inr (hw _ (List.mem_of_getElem? (i := 15) rfl))) (Or.inr (hw _ (List.mem_of_getElem? (i := 27) rfl))) (by decide) (t := (.object "com/example/wise_crawler/wisecrawler/url/CanonicalUrl")) (t' := (.object "com/example/wise_crawler/wisecrawler/fetch/SpooledBytes")) (by decide) (by decide)))
  replace F_date_a1 := F_date_a1.other W (Or.inr (slot_ne (Or.inr (hw _ (List.mem_of_getElem? (i := 17) rfl))) (Or.inr (hw _ (List.mem_of_getElem? (i := 27) rfl))) (by decide) (t := (.object "java/time/Instant")) (t' := (.object "com/example/wise_crawler/wisecrawler/fetch/SpooledBytes")) (by decide) (by decide)))
  replace F_protocol_a1 := F_protocol_a1.other W (Or.inr (slot_ne (Or.inr (hw _ (List.mem_of_getElem? (i := 19) rfl))) (Or.inr (hw _ (List.mem_of_getElem? (i := 27) rfl))) (by decide) (t := (.object "java/lang/String")) (t' := (.object "com/example/wise_crawler/wisecrawler/fetch/SpooledBytes")) (by decide) (by decide)))
  replace F_requestHeaders_a1 := F_requestHeaders_a1.other W (Or.inr (slot_ne (Or.inr (hw _ (List.mem_of_getElem? (i := 21) rfl))) (Or.inr (hw _ (List.mem_of_getElem? (i := 27) rfl))) (by decide) (t := (.object "com/example/wise_crawler/wisecrawler/fetch/HeaderFields")) (t' := (.object "com/example/wise_crawler/wisecrawler/fetch/SpooledBytes")) (by decide) (by decide)))
  replace F_status_a1 := F_status_a1.other W (Or.inr (slot_ne (Or.inr (hw _ (List.mem_of_getElem? (i := 23) rfl))) (Or.inr (hw _ (List.mem_of_getElem? (i := 27) rfl))) (by decide) (t := .int) (t' := (.object "com/example/wise_crawler/wisecrawler/fetch/SpooledBytes")) (by decide) (by decide)))
  replace F_responseHeaders_a1 := F_responseHeaders_a1.other W (Or.inr (slot_ne (Or.inr (hw _ (List.mem_of_getElem? (i := 25) rfl))) (Or.inr (hw _ (List.mem_of_getElem? (i := 27) rfl))) (by decide) (t := (.object "com/example/wise_crawler/wisecrawler/fetch/HeaderFields")) (t' := (.object "com/example/wise_crawler/wisecrawler/fetch/SpooledBytes")) (by decide) (by decide)))
  replace F_truncation_a1 := F_truncation_a1.other W (Or.inr (slot_ne (Or.inr (hw _ (List.mem_of_getElem? (i := 29) rfl))) (Or.inr (hw _ (List.mem_of_getElem? (i := 27) rfl))) (by decide) (t := (.object "java/util/Optional")) (t' := (.object "com/example/wise_crawler/wisecrawler/fetch/SpooledBytes")) (by decide) (by decide)))
  replace O := O.wr W g_a1
  replace K0 := K0.wr W (Or.inl (List.mem_of_getElem? (i := 0) rfl))
  replace N := Fr.snoc X N g_a1
  refine own_via (g' := (mkF m 43 #[.val (.ref a1), .val .null, .val .null, .val .null, .val .null, .val (.int p5), .val .null, .val .null, .val .null] [])) st ?_
  refine own_via (T' := T) (g' := (mkF m 44 #[.val (.ref a1), .val .null, .val .null, .val .null, .val .null, .val (.int p5), .val .null, .val .null, .val .null] [(.ref a1)])) (fun t_ k_ => XS.aloadN X.here hx rfl (hb hby own_exch_d43) rfl rfl k_) ?_
  refine own_via (T' := T) (g' := (mkF m 46 #[.val (.ref a1), .val .null, .val .null, .val .null, .val .null, .val (.int p5), .val .null, .val .null, .val .null] [.null, (.ref a1)])) (fun t_ k_ => XS.aload X.here hx rfl (hb hby own_exch_d44) rfl rfl k_) ?_
  obtain ⟨T, h8, X, eT, W, st⟩ := putF X hx hZ hown (host := "") (Or.inl (hw _ (List.mem_of_getElem? (i := 28) rfl))) Via.refl eT F_truncation_a1 E_a1 (Or.inr ⟨(hw _ (List.mem_of_getElem? (i := 29) rfl)), rfl, hnm⟩) (hw _ (List.mem_of_getElem? (i := 1) rfl)) (ty := (.object "java/util/Optional")) (by decide) rfl rfl (g := (mkF m 46 #[.val (.ref a1), .val .null, .val .null, .val .null, .val .null, .val (.int p5), .val .null, .val .null, .val .null] [.null, (.ref a1)])) rfl rfl (hb hby own_exch_d46)
  replace F_truncation_a1 := F_truncation_a1.same W
  replace E_a1 := E_a1.wr W
  replace F_url_a1 := F_url_a1.other W (Or.inr (slot_ne (Or.inr (hw _ (List.mem_of_getElem? (i := 15) rfl))) (Or.inr (hw _ (List.mem_of_getElem? (i := 29) rfl))) (by decide) (t := (.object "com/example/wise_crawler/wisecrawler/url/CanonicalUrl")) (t' := (.object "java/util/Optional")) (by decide) (by decide)))
  replace F_date_a1 := F_date_a1.other W (Or.inr (slot_ne (Or.inr (hw _ (List.mem_of_getElem? (i := 17) rfl))) (Or.inr (hw _ (List.mem_of_getElem? (i := 29) rfl))) (by decide) (t := (.object "java/time/Instant")) (t' := (.object "java/util/Optional")) (by decide) (by decide)))
  replace F_protocol_a1 := F_protocol_a1.other W (Or.inr (slot_ne (Or.inr (hw _ (List.mem_of_getElem? (i := 19) rfl))) (Or.inr (hw _ (List.mem_of_getElem? (i := 29) rfl))) (by decide) (t := (.object "java/lang/String")) (t' := (.object "java/util/Optional")) (by decide) (by decide)))
  replace F_requestHeaders_a1 := F_requestHeaders_a1.other W (Or.inr (slot_ne (Or.inr (hw _ (List.mem_of_getElem? (i := 21) rfl))) (Or.inr (hw _ (List.mem_of_getElem? (i := 29) rfl))) (by decide) (t := (.object "com/example/wise_crawler/wisecrawler/fetch/HeaderFields")) (t' := (.object "java/util/Optional")) (by decide) (by decide)))
  replace F_status_a1 := F_status_a1.other W (Or.inr (slot_ne (Or.inr (hw _ (List.mem_of_getElem? (i := 23) rfl))) (Or.inr (hw _ (List.mem_of_getElem? (i := 29) rfl))) (by decide) (t := .int) (t' := (.object "java/util/Optional")) (by decide) (by decide)))
  replace F_responseHeaders_a1 := F_responseHeaders_a1.other W (Or.inr (slot_ne (Or.inr (hw _ (List.mem_of_getElem? (i := 25) rfl))) (Or.inr (hw _ (List.mem_of_getElem? (i := 29) rfl))) (by decide) (t := (.object "com/example/wise_crawler/wisecrawler/fetch/HeaderFields")) (t' := (.object "java/util/Optional")) (by decide) (by decide)))
  replace F_body_a1 := F_body_a1.other W (Or.inr (slot_ne (Or.inr (hw _ (List.mem_of_getElem? (i := 27) rfl))) (Or.inr (hw _ (List.mem_of_getElem? (i := 29) rfl))) (by decide) (t := (.object "com/example/wise_crawler/wisecrawler/fetch/SpooledBytes")) (t' := (.object "java/util/Optional")) (by decide) (by decide)))
  replace O := O.wr W g_a1
  replace K0 := K0.wr W (Or.inl (List.mem_of_getElem? (i := 0) rfl))
  replace N := Fr.snoc X N g_a1
  refine own_via (g' := (mkF m 49 #[.val (.ref a1), .val .null, .val .null, .val .null, .val .null, .val (.int p5), .val .null, .val .null, .val .null] [])) st ?_
  refine own_retV X hx hlk Bd.returns (hb hby own_exch_d49) (by decide) (by decide) ?_
  rw [eT]
  exact ⟨rfl, N, K0, E_a1, F_status_a1⟩
theorem own_rnn_d0 : decode jdk_31_method_10_code 0 = .ok (.aload_n 0, 1) := by decide +kernel
theorem own_rnn_d1 : decode jdk_31_method_10_code 1 = .ok (.ifnonnull 11, 3) := by decide +kernel
theorem own_rnn_d12 : decode jdk_31_method_10_code 12 = .ok (.aload_n 0, 1) := by decide +kernel
theorem own_rnn_d13 : decode jdk_31_method_10_code 13 = .ok (.areturn, 1) := by decide +kernel
theorem own_rnn_pn : plainFor (⟨"java/util/Objects", "requireNonNull", "(Ljava/lang/Object;)Ljava/lang/Object;"⟩ : MethodName) = true := by first | exact plainFor_of_name (by first | (simp [plainName, overriddenIn]; done) | decide +kernel) | decide +kernel
theorem own_rnn_ef (m : MethodId) (x0 : Addr) : entryFrame m #[(.ref x0)] 1 = mkF m 0 #[.val (.ref x0)] [] := by first | (simp [entryFrame, mkF, argsToLocals, Value.category]; done) | rfl
def own_rnn_Q (Z : State) (a1 : Addr) (h0 : Heap) (n0 : Nat) (v : Option Value) (h : Heap) (L : List Loc) : Prop := v = some (.ref a1) ∧ Fr n0 L ∧ h = h0
set_option maxRecDepth 65536 in
set_option maxHeartbeats 40000000 in
theorem own_rnn (l : Launch) (Z : State) (a0 : Array Value) (hw : ∀ d ∈ tables_1, d.before a0 Z = true) (ws : List Jvm.Cond) (a1 : Addr) (h0 : Heap) (n0 : Nat) (O : Old Z n0 h0)  :
    MetFree l (⟨"java/util/Objects", "requireNonNull", "(Ljava/lang/Object;)Ljava/lang/Object;"⟩ : MethodName) (head1 (Jvm.Cond.code (⟨"java/util/Objects", "requireNonNull", "(Ljava/lang/Object;)Ljava/lang/Object;"⟩ : MethodName) jdk_31_method_10_code 1 (some (.object "java/lang/Object")) :: ws) ({ frames := 0, cells := 0, slots := 0, locals := 0 } : Room)) (fun a U => a = #[(.ref a1)] ∧ Z.Warmed39 U.vm ∧ U.heap = h0) (fun _ _ _ _ _ => True) (fun _ U o U' => ∃ v L, o = .returned v ∧ own_rnn_Q Z a1 h0 n0 v U'.heap L ∧ FrameEnd U o U' L ({ frames := 0, cells := 0, slots := 0, locals := 0 } : Room).cells ({ frames := 0, cells := 0, slots := 0, locals := 0 } : Room).slots) := by
  refine MetFree.of_bodySF own_rnn_pn hisR ?_
  intro p e s m args below meth c s₁ Bd hml0 hP hK
  obtain ⟨rfl, hZ, hh⟩ := hP
  have hx := Bd.exec
  have hby := Bd.bytes
  have hlk := Bd.notSynchronized
  have hml : c.maxLocals = 1 := hml0
  have hown : s.vm.findClass "java/util/Objects" = some m.cls := findClass_of_methodNamed Bd.named
  have hnm := (name_of_methodNamed Bd.named Bd.method).1
  have X : Stand p l e ({ frames := 0, cells := 0, slots := 0, locals := 0 } : Room) s m #[(.ref a1)] below meth c s₁ [] 0 0 := Stand.of_body Bd
  have eT : s₁.heap = h0 := by rw [← hh, Bd.state]; rfl
  have N := Fr.nil n0
  have K0 := Keep.refl h0 []
  show own_Ends p e below (own_Post s below (own_rnn_Q Z a1 h0 n0) ({ frames := 0, cells := 0, slots := 0, locals := 0 } : Room).cells ({ frames := 0, cells := 0, slots := 0, locals := 0 } : Room).slots) s₁ (entryFrame m #[(.ref a1)] 1)
  rw [own_rnn_ef m a1]
  obtain ⟨T, hT⟩ : ∃ z, z = s₁ := ⟨_, rfl⟩
  rw [← hT] at X eT ⊢
  obtain ⟨h, hh0⟩ : ∃ z, z = h0 := ⟨_, rfl⟩
  rw [← hh0] at eT
  replace O : Old Z n0 h := by rw [hh0]; exact O
  replace K0 : Keep h0 h [] := by rw [hh0]; exact K0
  refine own_via (T' := T) (g' := (mkF m 1 #[.val (.ref a1)] [(.ref a1)])) (fun t_ k_ => XS.aloadN X.here hx rfl (hb hby own_rnn_d0) rfl rfl k_) ?_
  refine own_via (T' := T) (g' := (mkF m 12 #[.val (.ref a1)] [])) (fun t_ k_ => XS.ifnonnullYes X.here hx rfl (pc0 := 1) (pc' := 12) rfl (hb hby own_rnn_d1) rfl (by decide) (by decide) k_) ?_
  refine own_via (T' := T) (g' := (mkF m 13 #[.val (.ref a1)] [(.ref a1)])) (fun t_ k_ => XS.aloadN X.here hx rfl (hb hby own_rnn_d12) rfl rfl k_) ?_
  refine own_retW X hx hlk Bd.returns rfl (Or.inr (Or.inr (Or.inr (Or.inr ⟨rfl, rfl, rfl⟩)))) (hb hby own_rnn_d13) (by decide) (by decide) ?_
  rw [eT]
  exact ⟨rfl, N, hh0⟩
theorem own_optinit_d0 : decode jdk_32_method_2_code 0 = .ok (.aload_n 0, 1) := by decide +kernel
theorem own_optinit_d1 : decode jdk_32_method_2_code 1 = .ok (.invokespecial 7, 3) := by decide +kernel
theorem own_optinit_d4 : decode jdk_32_method_2_code 4 = .ok (.aload_n 0, 1) := by decide +kernel
theorem own_optinit_d5 : decode jdk_32_method_2_code 5 = .ok (.aload_n 1, 1) := by decide +kernel
theorem own_optinit_d6 : decode jdk_32_method_2_code 6 = .ok (.putfield 13, 3) := by decide +kernel
theorem own_optinit_d9 : decode jdk_32_method_2_code 9 = .ok (.return_, 1) := by decide +kernel
theorem own_optinit_pn : plainFor (⟨"java/util/Optional", "<init>", "(Ljava/lang/Object;)V"⟩ : MethodName) = true := by first | exact plainFor_of_name (by first | (simp [plainName, overriddenIn]; done) | decide +kernel) | decide +kernel
theorem own_optinit_ef (m : MethodId) (x0 : Addr) (x1 : Addr) : entryFrame m #[(.ref x0), (.ref x1)] 2 = mkF m 0 #[.val (.ref x0), .val (.ref x1)] [] := by first | (simp [entryFrame, mkF, argsToLocals, Value.category]; done) | rfl
def own_optinit_Q (Z : State) (a1 : Addr) (v1 : Addr) (h0 : Heap) (n0 : Nat) (v : Option Value) (h : Heap) (L : List Loc) : Prop := v = none ∧ Fr n0 L ∧ Keep h0 h [a1] ∧ Exa Z h a1 "java/util/Optional" ∧ Fld Z h a1 "java/util/Optional" "value" "Ljava/lang/Object;" (.ref v1)
set_option maxRecDepth 65536 in
set_option maxHeartbeats 40000000 in
theorem own_optinit (l : Launch) (Z : State) (a0 : Array Value) (hw : ∀ d ∈ tables_1, d.before a0 Z = true) (ws : List Jvm.Cond) (a1 : Addr) (v1 : Addr) (h0 : Heap) (n0 : Nat) (O : Old Z n0 h0) (E_a1 : Exa Z h0 a1 "java/util/Optional") (F_value_a1 : Fld Z h0 a1 "java/util/Optional" "value" "Ljava/lang/Object;" .null) (g_a1 : n0 ≤ a1) :
    MetFree l (⟨"java/util/Optional", "<init>", "(Ljava/lang/Object;)V"⟩ : MethodName) (head1 (Jvm.Cond.code (⟨"java/util/Optional", "<init>", "(Ljava/lang/Object;)V"⟩ : MethodName) jdk_32_method_2_code 2 none :: ws) ({ frames := 1, cells := 0, slots := 0, locals := 12 } : Room)) (fun a U => a = #[(.ref a1), (.ref v1)] ∧ Z.Warmed39 U.vm ∧ U.heap = h0) (fun _ _ _ _ _ => True) (fun _ U o U' => ∃ v L, o = .returned v ∧ own_optinit_Q Z a1 v1 h0 n0 v U'.heap L ∧ FrameEnd U o U' L ({ frames := 1, cells := 0, slots := 0, locals := 12 } : Room).cells ({ frames := 1, cells := 0, slots := 0, locals := 12 } : Room).slots) := by
  refine MetFree.of_bodySF own_optinit_pn hisR ?_
  intro p e s m args below meth c s₁ Bd hml0 hP hK
  obtain ⟨rfl, hZ, hh⟩ := hP
  have hx := Bd.exec
  have hby := Bd.bytes
  have hlk := Bd.notSynchronized
  have hml : c.maxLocals = 2 := hml0
  have hown : s.vm.findClass "java/util/Optional" = some m.cls := findClass_of_methodNamed Bd.named
  have hnm := (name_of_methodNamed Bd.named Bd.method).1
  have X : Stand p l e ({ frames := 1, cells := 0, slots := 0, locals := 12 } : Room) s m #[(.ref a1), (.ref v1)] below meth c s₁ [] 0 0 := Stand.of_body Bd
  have eT : s₁.heap = h0 := by rw [← hh, Bd.state]; rfl
  have N := Fr.nil n0
  have K0 := Keep.refl h0 [a1]
  show own_Ends p e below (own_Post s below (own_optinit_Q Z a1 v1 h0 n0) ({ frames := 1, cells := 0, slots := 0, locals := 12 } : Room).cells ({ frames := 1, cells := 0, slots := 0, locals := 12 } : Room).slots) s₁ (entryFrame m #[(.ref a1), (.ref v1)] 2)
  rw [own_optinit_ef m a1 v1]
  obtain ⟨T, hT⟩ : ∃ z, z = s₁ := ⟨_, rfl⟩
  rw [← hT] at X eT ⊢
  obtain ⟨h, hh0⟩ : ∃ z, z = h0 := ⟨_, rfl⟩
  rw [← hh0] at eT
  replace O : Old Z n0 h := by rw [hh0]; exact O
  replace K0 : Keep h0 h [a1] := by rw [hh0]; exact K0
  rw [← hh0] at E_a1
  rw [← hh0] at F_value_a1
  refine own_via (T' := T) (g' := (mkF m 1 #[.val (.ref a1), .val (.ref v1)] [(.ref a1)])) (fun t_ k_ => XS.aloadN X.here hx rfl (hb hby own_optinit_d0) rfl rfl k_) ?_
  obtain ⟨T, X, eT, st⟩ := initO X hx hZ hown (hw _ (List.mem_of_getElem? (i := 47) rfl)) (hw _ (List.mem_of_getElem? (i := 12) rfl)) (hw _ (List.mem_of_getElem? (i := 13) rfl)) eT (g := (mkF m 1 #[.val (.ref a1), .val (.ref v1)] [(.ref a1)])) rfl (by rw [hml]; rfl) rfl (hb hby own_optinit_d1) (by decide) (W := 0) (by show 2 * 0 + _ ≤ _; exact Nat.le_of_eq rfl) (by decide)
  refine own_via (g' := (mkF m 4 #[.val (.ref a1), .val (.ref v1)] [])) st ?_
  refine own_via (T' := T) (g' := (mkF m 5 #[.val (.ref a1), .val (.ref v1)] [(.ref a1)])) (fun t_ k_ => XS.aloadN X.here hx rfl (hb hby own_optinit_d4) rfl rfl k_) ?_
  refine own_via (T' := T) (g' := (mkF m 6 #[.val (.ref a1), .val (.ref v1)] [(.ref v1), (.ref a1)])) (fun t_ k_ => XS.aloadN X.here hx rfl (hb hby own_optinit_d5) rfl rfl k_) ?_
  obtain ⟨T, h1, X, eT, W, st⟩ := putF X hx hZ hown (host := "") (Or.inl (hw _ (List.mem_of_getElem? (i := 48) rfl))) Via.refl eT F_value_a1 E_a1 (Or.inr ⟨(hw _ (List.mem_of_getElem? (i := 49) rfl)), rfl, hnm⟩) (hw _ (List.mem_of_getElem? (i := 38) rfl)) (ty := (.object "java/lang/Object")) (by decide) rfl rfl (g := (mkF m 6 #[.val (.ref a1), .val (.ref v1)] [(.ref v1), (.ref a1)])) rfl rfl (hb hby own_optinit_d6)
  replace F_value_a1 := F_value_a1.same W
  replace E_a1 := E_a1.wr W
  replace O := O.wr W g_a1
  replace K0 := K0.wr W (Or.inl (List.mem_of_getElem? (i := 0) rfl))
  replace N := Fr.snoc X N g_a1
  refine own_via (g' := (mkF m 9 #[.val (.ref a1), .val (.ref v1)] [])) st ?_
  refine own_retV X hx hlk Bd.returns (hb hby own_optinit_d9) (by decide) (by decide) ?_
  rw [eT]
  exact ⟨rfl, N, K0, E_a1, F_value_a1⟩
theorem own_optof_d0 : decode jdk_32_method_3_code 0 = .ok (.new 2, 3) := by decide +kernel
theorem own_optof_d3 : decode jdk_32_method_3_code 3 = .ok (.dup, 1) := by decide +kernel
theorem own_optof_d4 : decode jdk_32_method_3_code 4 = .ok (.aload_n 0, 1) := by decide +kernel
theorem own_optof_d5 : decode jdk_32_method_3_code 5 = .ok (.invokestatic 17, 3) := by decide +kernel
theorem own_optof_d8 : decode jdk_32_method_3_code 8 = .ok (.invokespecial 23, 3) := by decide +kernel
theorem own_optof_d11 : decode jdk_32_method_3_code 11 = .ok (.areturn, 1) := by decide +kernel
theorem own_optof_pn : plainFor (⟨"java/util/Optional", "of", "(Ljava/lang/Object;)Ljava/util/Optional;"⟩ : MethodName) = true := by first | exact plainFor_of_name (by first | (simp [plainName, overriddenIn]; done) | decide +kernel) | decide +kernel
theorem own_optof_ef (m : MethodId) (x0 : Addr) : entryFrame m #[(.ref x0)] 1 = mkF m 0 #[.val (.ref x0)] [] := by first | (simp [entryFrame, mkF, argsToLocals, Value.category]; done) | rfl
def own_optof_Q (Z : State) (v1 : Addr) (h0 : Heap) (n0 : Nat) (v : Option Value) (h : Heap) (L : List Loc) : Prop := ∃ r, v = some (.ref r) ∧ Fr n0 L ∧ Keep h0 h [] ∧ h0.size ≤ r ∧ Exa Z h r "java/util/Optional" ∧ Fld Z h r "java/util/Optional" "value" "Ljava/lang/Object;" (.ref v1)
set_option maxRecDepth 65536 in
set_option maxHeartbeats 40000000 in
theorem own_optof (l : Launch) (Z : State) (a0 : Array Value) (hw : ∀ d ∈ tables_1, d.before a0 Z = true) (ws : List Jvm.Cond) (v1 : Addr) (h0 : Heap) (n0 : Nat) (O : Old Z n0 h0)  :
    MetFree l (⟨"java/util/Optional", "of", "(Ljava/lang/Object;)Ljava/util/Optional;"⟩ : MethodName) (head1 (Jvm.Cond.code (⟨"java/util/Optional", "of", "(Ljava/lang/Object;)Ljava/util/Optional;"⟩ : MethodName) jdk_32_method_3_code 1 (some (.object "java/util/Optional")) :: ws) ({ frames := 2, cells := 1, slots := 1, locals := 26 } : Room)) (fun a U => a = #[(.ref v1)] ∧ Z.Warmed39 U.vm ∧ U.heap = h0) (fun _ _ _ _ _ => True) (fun _ U o U' => ∃ v L, o = .returned v ∧ own_optof_Q Z v1 h0 n0 v U'.heap L ∧ FrameEnd U o U' L ({ frames := 2, cells := 1, slots := 1, locals := 26 } : Room).cells ({ frames := 2, cells := 1, slots := 1, locals := 26 } : Room).slots) := by
  refine MetFree.of_bodySF own_optof_pn hisR ?_
  intro p e s m args below meth c s₁ Bd hml0 hP hK
  obtain ⟨rfl, hZ, hh⟩ := hP
  have hx := Bd.exec
  have hby := Bd.bytes
  have hlk := Bd.notSynchronized
  have hml : c.maxLocals = 1 := hml0
  have hown : s.vm.findClass "java/util/Optional" = some m.cls := findClass_of_methodNamed Bd.named
  have hnm := (name_of_methodNamed Bd.named Bd.method).1
  have X : Stand p l e ({ frames := 2, cells := 1, slots := 1, locals := 26 } : Room) s m #[(.ref v1)] below meth c s₁ [] 0 0 := Stand.of_body Bd
  have eT : s₁.heap = h0 := by rw [← hh, Bd.state]; rfl
  have N := Fr.nil n0
  have K0 := Keep.refl h0 []
  show own_Ends p e below (own_Post s below (own_optof_Q Z v1 h0 n0) ({ frames := 2, cells := 1, slots := 1, locals := 26 } : Room).cells ({ frames := 2, cells := 1, slots := 1, locals := 26 } : Room).slots) s₁ (entryFrame m #[(.ref v1)] 1)
  rw [own_optof_ef m v1]
  obtain ⟨T, hT⟩ : ∃ z, z = s₁ := ⟨_, rfl⟩
  rw [← hT] at X eT ⊢
  obtain ⟨h, hh0⟩ : ∃ z, z = h0 := ⟨_, rfl⟩
  rw [← hh0] at eT
  replace O : Old Z n0 h := by rw [hh0]; exact O
  replace K0 : Keep h0 h [] := by rw [hh0]; exact K0
  obtain ⟨b1, gb⟩ : ∃ z, z = h.size := ⟨_, rfl⟩
  obtain ⟨T, h2, X, eT, E, E_b1, Dq, -, st⟩ := newO X hx hZ hown (hw _ (List.mem_of_getElem? (i := 37) rfl)) (hw _ (List.mem_of_getElem? (i := 38) rfl)) (hw _ (List.mem_of_getElem? (i := 35) rfl)) eT (g := (mkF m 0 #[.val (.ref v1)] [])) rfl (hb hby own_optof_d0) (by decide) (by decide)
  rw [← gb] at E_b1 Dq st
  have g_b1 : n0 ≤ b1 := Nat.le_trans (own_le O) (Nat.le_of_eq gb.symm)
  have sz_b1 : h0.size ≤ b1 := Nat.le_trans K0.1 (Nat.le_of_eq gb.symm)
  replace O := O.ext E
  replace K0 := K0.ext E
  have F_value_b1 : Fld Z h2 b1 "java/util/Optional" "value" "Ljava/lang/Object;" .null := Dq (Or.inr (hw _ (List.mem_of_getElem? (i := 49) rfl))) (ty := (.object "java/lang/Object")) (by decide)
  refine own_via (g' := (mkF m 3 #[.val (.ref v1)] [(.ref b1)])) st ?_
  refine own_via (T' := T) (g' := (mkF m 4 #[.val (.ref v1)] [(.ref b1), (.ref b1)])) (fun t_ k_ => XS.dup X.here hx rfl (hb hby own_optof_d3) rfl rfl k_) ?_
  refine own_via (T' := T) (g' := (mkF m 5 #[.val (.ref v1)] [(.ref v1), (.ref b1), (.ref b1)])) (fun t_ k_ => XS.aloadN X.here hx rfl (hb hby own_optof_d4) rfl rfl k_) ?_
  obtain ⟨_, _, ⟨T, Lq, kq, nq⟩, -, X, ⟨Lc, hQ, lq, yq, zq⟩, st⟩ := Jvm.LawKit.callS X hx (y := (⟨"java/util/Objects", "requireNonNull", "(Ljava/lang/Object;)Ljava/lang/Object;"⟩ : MethodName)) hown (mvT hZ (hw _ (List.mem_of_getElem? (i := 39) rfl))) (mvT hZ (hw _ (List.mem_of_getElem? (i := 40) rfl))) (mvT hZ (hw _ (List.mem_of_getElem? (i := 41) rfl))) (mvT hZ (hw _ (List.mem_of_getElem? (i := 42) rfl))) (by decide) (backOf (W := 2) (own_rnn l Z a0 hw [] v1 h2 n0 O ) hZ (hw _ (List.mem_of_getElem? (i := 42) rfl)) (hw _ (List.mem_of_getElem? (i := 41) rfl)) (by decide) (by decide)) (g := (mkF m 5 #[.val (.ref v1)] [(.ref v1), (.ref b1), (.ref b1)])) rfl (by rw [hml]; rfl) (argsL := [(.ref v1)]) (rest := [(.ref b1), (.ref b1)]) (lenOf own_pd1 rfl) rfl (by show 2 * 0 + _ ≤ _; exact Nat.le_of_eq rfl) (hb hby own_optof_d5) (fun _ _ => ⟨rfl, eT, (by decide : 1 + 0 ≤ _), (by decide : 1 + 0 ≤ _)⟩)
  dsimp only [Pt.U, Pt.locs, Pt.cells, Pt.slots] at X lq yq zq st hQ
  subst lq yq zq
  obtain ⟨rfl, Nq, eT⟩ := hQ
  replace N := Fr.app N Nq
  refine own_via (g' := (mkF m 8 #[.val (.ref v1)] [(.ref v1), (.ref b1), (.ref b1)])) st ?_
  obtain ⟨_, _, ⟨T, Lq, kq, nq⟩, -, X, ⟨Lc, hQ, lq, yq, zq⟩, st⟩ := X.specialBack hx (y := (⟨"java/util/Optional", "<init>", "(Ljava/lang/Object;)V"⟩ : MethodName)) rfl hown (mvT hZ (hw _ (List.mem_of_getElem? (i := 43) rfl))) (mvT hZ (hw _ (List.mem_of_getElem? (i := 44) rfl))) (mvT hZ (hw _ (List.mem_of_getElem? (i := 46) rfl))) (by decide) (backOf (W := 1) (own_optinit l Z a0 hw [] b1 v1 h2 n0 O E_b1 F_value_b1 g_b1) hZ (hw _ (List.mem_of_getElem? (i := 46) rfl)) (hw _ (List.mem_of_getElem? (i := 35) rfl)) (by decide) (by decide)) (g := (mkF m 8 #[.val (.ref v1)] [(.ref v1), (.ref b1), (.ref b1)])) rfl (by rw [hml]; rfl) (Steps.refl _) (a := b1) (argsL := [(.ref v1)]) (rest := [(.ref b1)]) (lenOf own_pd2 rfl) rfl (by show 2 * 0 + _ ≤ _; exact Nat.le_of_eq rfl) (hb hby own_optof_d8) (fun _ _ => ⟨rfl, eT, (by decide : 1 + 0 ≤ _), (by decide : 1 + 0 ≤ _)⟩)
  dsimp only [Pt.U, Pt.locs, Pt.cells, Pt.slots] at X lq yq zq st hQ
  subst lq yq zq
  obtain ⟨rfl, Nq, Kq, E_b1, F_value_b1⟩ := hQ
  replace N := Fr.app N Nq
  obtain ⟨h3, eT⟩ : ∃ z, T.heap = z := ⟨_, rfl⟩
  rw [eT] at Kq E_b1 F_value_b1
  replace O := O.keep Kq (allS g_b1 all0)
  replace K0 := K0.trans Kq (allS (Or.inr sz_b1) all0)
  refine own_viaT (g' := (mkF m 11 #[.val (.ref v1)] [(.ref b1)])) st ?_
  refine own_retW X hx hlk Bd.returns rfl (Or.inr (Or.inr (Or.inr (Or.inr ⟨rfl, rfl, rfl⟩)))) (hb hby own_optof_d11) (by decide) (by decide) ?_
  rw [eT]
  exact ⟨b1, rfl, N, K0, sz_b1, E_b1, F_value_b1⟩
theorem own_ansinit_d0 : decode prog_3_method_1_code 0 = .ok (.aload_n 0, 1) := by decide +kernel
theorem own_ansinit_d1 : decode prog_3_method_1_code 1 = .ok (.invokespecial 1, 3) := by decide +kernel
theorem own_ansinit_d4 : decode prog_3_method_1_code 4 = .ok (.aload_n 0, 1) := by decide +kernel
theorem own_ansinit_d5 : decode prog_3_method_1_code 5 = .ok (.aload_n 1, 1) := by decide +kernel
theorem own_ansinit_d6 : decode prog_3_method_1_code 6 = .ok (.putfield 7, 3) := by decide +kernel
theorem own_ansinit_d9 : decode prog_3_method_1_code 9 = .ok (.aload_n 0, 1) := by decide +kernel
theorem own_ansinit_d10 : decode prog_3_method_1_code 10 = .ok (.iload_n 2, 1) := by decide +kernel
theorem own_ansinit_d11 : decode prog_3_method_1_code 11 = .ok (.putfield 13, 3) := by decide +kernel
theorem own_ansinit_d14 : decode prog_3_method_1_code 14 = .ok (.return_, 1) := by decide +kernel
theorem own_ansinit_pn : plainFor (⟨"com/example/wise_crawler/wisecrawler/crawl/Answer", "<init>", "(Ljava/util/Optional;Z)V"⟩ : MethodName) = true := by first | exact plainFor_of_name (by first | (simp [plainName, overriddenIn]; done) | decide +kernel) | decide +kernel
theorem own_ansinit_ef (m : MethodId) (x0 : Addr) (x1 : Addr) (x2 : Int32) : entryFrame m #[(.ref x0), (.ref x1), (.int x2)] 3 = mkF m 0 #[.val (.ref x0), .val (.ref x1), .val (.int x2)] [] := by first | (simp [entryFrame, mkF, argsToLocals, Value.category]; done) | rfl
def own_ansinit_Q (Z : State) (a1 : Addr) (o1 : Addr) (t1 : Int32) (h0 : Heap) (n0 : Nat) (v : Option Value) (h : Heap) (L : List Loc) : Prop := v = none ∧ Fr n0 L ∧ Keep h0 h [a1] ∧ Exa Z h a1 "com/example/wise_crawler/wisecrawler/crawl/Answer" ∧ Fld Z h a1 "com/example/wise_crawler/wisecrawler/crawl/Answer" "response" "Ljava/util/Optional;" (.ref o1)
set_option maxRecDepth 65536 in
set_option maxHeartbeats 40000000 in
theorem own_ansinit (l : Launch) (Z : State) (a0 : Array Value) (hw : ∀ d ∈ tables_1, d.before a0 Z = true) (ws : List Jvm.Cond) (a1 : Addr) (o1 : Addr) (t1 : Int32) (h0 : Heap) (n0 : Nat) (O : Old Z n0 h0) (E_a1 : Exa Z h0 a1 "com/example/wise_crawler/wisecrawler/crawl/Answer") (F_response_a1 : Fld Z h0 a1 "com/example/wise_crawler/wisecrawler/crawl/Answer" "response" "Ljava/util/Optional;" .null) (F_timedOut_a1 : Fld Z h0 a1 "com/example/wise_crawler/wisecrawler/crawl/Answer" "timedOut" "Z" (.int (0 : Int32))) (g_a1 : n0 ≤ a1) :
    MetFree l (⟨"com/example/wise_crawler/wisecrawler/crawl/Answer", "<init>", "(Ljava/util/Optional;Z)V"⟩ : MethodName) (head1 (Jvm.Cond.code (⟨"com/example/wise_crawler/wisecrawler/crawl/Answer", "<init>", "(Ljava/util/Optional;Z)V"⟩ : MethodName) prog_3_method_1_code 3 none :: ws) ({ frames := 2, cells := 0, slots := 0, locals := 24 } : Room)) (fun a U => a = #[(.ref a1), (.ref o1), (.int t1)] ∧ Z.Warmed39 U.vm ∧ U.heap = h0) (fun _ _ _ _ _ => True) (fun _ U o U' => ∃ v L, o = .returned v ∧ own_ansinit_Q Z a1 o1 t1 h0 n0 v U'.heap L ∧ FrameEnd U o U' L ({ frames := 2, cells := 0, slots := 0, locals := 24 } : Room).cells ({ frames := 2, cells := 0, slots := 0, locals := 24 } : Room).slots) := by
  refine MetFree.of_bodySF own_ansinit_pn hisR ?_
  intro p e s m args below meth c s₁ Bd hml0 hP hK
  obtain ⟨rfl, hZ, hh⟩ := hP
  have hx := Bd.exec
  have hby := Bd.bytes
  have hlk := Bd.notSynchronized
  have hml : c.maxLocals = 3 := hml0
  have hown : s.vm.findClass "com/example/wise_crawler/wisecrawler/crawl/Answer" = some m.cls := findClass_of_methodNamed Bd.named
  have hnm := (name_of_methodNamed Bd.named Bd.method).1
  have X : Stand p l e ({ frames := 2, cells := 0, slots := 0, locals := 24 } : Room) s m #[(.ref a1), (.ref o1), (.int t1)] below meth c s₁ [] 0 0 := Stand.of_body Bd
  have eT : s₁.heap = h0 := by rw [← hh, Bd.state]; rfl
  have N := Fr.nil n0
  have K0 := Keep.refl h0 [a1]
  show own_Ends p e below (own_Post s below (own_ansinit_Q Z a1 o1 t1 h0 n0) ({ frames := 2, cells := 0, slots := 0, locals := 24 } : Room).cells ({ frames := 2, cells := 0, slots := 0, locals := 24 } : Room).slots) s₁ (entryFrame m #[(.ref a1), (.ref o1), (.int t1)] 3)
  rw [own_ansinit_ef m a1 o1 t1]
  obtain ⟨T, hT⟩ : ∃ z, z = s₁ := ⟨_, rfl⟩
  rw [← hT] at X eT ⊢
  obtain ⟨h, hh0⟩ : ∃ z, z = h0 := ⟨_, rfl⟩
  rw [← hh0] at eT
  replace O : Old Z n0 h := by rw [hh0]; exact O
  replace K0 : Keep h0 h [a1] := by rw [hh0]; exact K0
  rw [← hh0] at E_a1
  rw [← hh0] at F_response_a1
  rw [← hh0] at F_timedOut_a1
  refine own_via (T' := T) (g' := (mkF m 1 #[.val (.ref a1), .val (.ref o1), .val (.int t1)] [(.ref a1)])) (fun t_ k_ => XS.aloadN X.here hx rfl (hb hby own_ansinit_d0) rfl rfl k_) ?_
  obtain ⟨_, _, ⟨T, Lq, kq, nq⟩, -, X, ⟨Lc, hQ, lq, yq, zq⟩, st⟩ := X.specialBack hx (y := (⟨"java/lang/Record", "<init>", "()V"⟩ : MethodName)) rfl hown (mvT hZ (hw _ (List.mem_of_getElem? (i := 53) rfl))) (mvT hZ (hw _ (List.mem_of_getElem? (i := 7) rfl))) (mvT hZ (hw _ (List.mem_of_getElem? (i := 10) rfl))) (by decide) (backOf (W := 0) (own_rec l Z a0 hw [] a1 h n0 O ) hZ (hw _ (List.mem_of_getElem? (i := 10) rfl)) (hw _ (List.mem_of_getElem? (i := 9) rfl)) (by decide) (by decide)) (g := (mkF m 1 #[.val (.ref a1), .val (.ref o1), .val (.int t1)] [(.ref a1)])) rfl (by rw [hml]; rfl) (Steps.refl _) (a := a1) (argsL := []) (rest := []) (lenOf own_pd0 rfl) rfl (by show 2 * 0 + _ ≤ _; exact Nat.le_of_eq rfl) (hb hby own_ansinit_d1) (fun _ _ => ⟨rfl, eT, (by decide : 0 + 0 ≤ _), (by decide : 0 + 0 ≤ _)⟩)
  dsimp only [Pt.U, Pt.locs, Pt.cells, Pt.slots] at X lq yq zq st hQ
  subst lq yq zq
  obtain ⟨rfl, Nq, eT⟩ := hQ
  replace N := Fr.app N Nq
  refine own_viaT (g' := (mkF m 4 #[.val (.ref a1), .val (.ref o1), .val (.int t1)] [])) st ?_
  refine own_via (T' := T) (g' := (mkF m 5 #[.val (.ref a1), .val (.ref o1), .val (.int t1)] [(.ref a1)])) (fun t_ k_ => XS.aloadN X.here hx rfl (hb hby own_ansinit_d4) rfl rfl k_) ?_
  refine own_via (T' := T) (g' := (mkF m 6 #[.val (.ref a1), .val (.ref o1), .val (.int t1)] [(.ref o1), (.ref a1)])) (fun t_ k_ => XS.aloadN X.here hx rfl (hb hby own_ansinit_d5) rfl rfl k_) ?_
  obtain ⟨T, h1, X, eT, W, st⟩ := putF X hx hZ hown (host := "") (Or.inl (hw _ (List.mem_of_getElem? (i := 54) rfl))) Via.refl eT F_response_a1 E_a1 (Or.inr ⟨(hw _ (List.mem_of_getElem? (i := 55) rfl)), rfl, hnm⟩) (hw _ (List.mem_of_getElem? (i := 31) rfl)) (ty := (.object "java/util/Optional")) (by decide) rfl rfl (g := (mkF m 6 #[.val (.ref a1), .val (.ref o1), .val (.int t1)] [(.ref o1), (.ref a1)])) rfl rfl (hb hby own_ansinit_d6)
  replace F_response_a1 := F_response_a1.same W
  replace E_a1 := E_a1.wr W
  replace F_timedOut_a1 := F_timedOut_a1.other W (Or.inr (slot_ne (Or.inr (hw _ (List.mem_of_getElem? (i := 57) rfl))) (Or.inr (hw _ (List.mem_of_getElem? (i := 55) rfl))) (by decide) (t := .boolean) (t' := (.object "java/util/Optional")) (by decide) (by decide)))
  replace O := O.wr W g_a1
  replace K0 := K0.wr W (Or.inl (List.mem_of_getElem? (i := 0) rfl))
  replace N := Fr.snoc X N g_a1
  refine own_via (g' := (mkF m 9 #[.val (.ref a1), .val (.ref o1), .val (.int t1)] [])) st ?_
  refine own_via (T' := T) (g' := (mkF m 10 #[.val (.ref a1), .val (.ref o1), .val (.int t1)] [(.ref a1)])) (fun t_ k_ => XS.aloadN X.here hx rfl (hb hby own_ansinit_d9) rfl rfl k_) ?_
  refine own_via (T' := T) (g' := (mkF m 11 #[.val (.ref a1), .val (.ref o1), .val (.int t1)] [(.int t1), (.ref a1)])) (fun t_ k_ => XS.iloadN X.here hx rfl (hb hby own_ansinit_d10) rfl k_) ?_
  obtain ⟨T, h2, X, eT, W, st⟩ := putFN X hx hZ hown (hw _ (List.mem_of_getElem? (i := 56) rfl)) Via.refl eT F_timedOut_a1 E_a1 (Or.inr ⟨(hw _ (List.mem_of_getElem? (i := 57) rfl)), rfl, hnm⟩) (hw _ (List.mem_of_getElem? (i := 31) rfl)) (ty := .boolean) (v' := (.int (nar .boolean t1))) (by decide) rfl (by exact fits_nar_bool _) (g := (mkF m 11 #[.val (.ref a1), .val (.ref o1), .val (.int t1)] [(.int t1), (.ref a1)])) rfl rfl (hb hby own_ansinit_d11)
  replace F_timedOut_a1 := F_timedOut_a1.same W
  replace E_a1 := E_a1.wr W
  replace F_response_a1 := F_response_a1.other W (Or.inr (slot_ne (Or.inr (hw _ (List.mem_of_getElem? (i := 55) rfl))) (Or.inr (hw _ (List.mem_of_getElem? (i := 57) rfl))) (by decide) (t := (.object "java/util/Optional")) (t' := .boolean) (by decide) (by decide)))
  replace O := O.wr W g_a1
  replace K0 := K0.wr W (Or.inl (List.mem_of_getElem? (i := 0) rfl))
  replace N := Fr.snoc X N g_a1
  refine own_via (g' := (mkF m 14 #[.val (.ref a1), .val (.ref o1), .val (.int t1)] [])) st ?_
  refine own_retV X hx hlk Bd.returns (hb hby own_ansinit_d14) (by decide) (by decide) ?_
  rw [eT]
  exact ⟨rfl, N, K0, E_a1, F_response_a1⟩
theorem own_optempty_d0 : decode jdk_32_method_1_code 0 = .ok (.getstatic 1, 3) := by decide +kernel
theorem own_optempty_d3 : decode jdk_32_method_1_code 3 = .ok (.astore_n 0, 1) := by decide +kernel
theorem own_optempty_d4 : decode jdk_32_method_1_code 4 = .ok (.aload_n 0, 1) := by decide +kernel
theorem own_optempty_d5 : decode jdk_32_method_1_code 5 = .ok (.areturn, 1) := by decide +kernel
theorem own_optempty_pn : plainFor (⟨"java/util/Optional", "empty", "()Ljava/util/Optional;"⟩ : MethodName) = true := by first | exact plainFor_of_name (by first | (simp [plainName, overriddenIn]; done) | decide +kernel) | decide +kernel
theorem own_optempty_ef (m : MethodId)  : entryFrame m #[] 1 = mkF m 0 #[.unset] [] := by first | (simp [entryFrame, mkF, argsToLocals, Value.category]; done) | rfl
def own_optempty_Q (Z : State) (wEMPTY : Addr) (h0 : Heap) (n0 : Nat) (v : Option Value) (h : Heap) (L : List Loc) : Prop := v = some (.ref wEMPTY) ∧ Fr n0 L ∧ h = h0
set_option maxRecDepth 65536 in
set_option maxHeartbeats 40000000 in
theorem own_optempty (l : Launch) (Z : State) (a0 : Array Value) (hw : ∀ d ∈ tables_1, d.before a0 Z = true) (ws : List Jvm.Cond) (wEMPTY : Addr) (h0 : Heap) (n0 : Nat) (O : Old Z n0 h0) (S_EMPTY : Sta Z Z.heap "java/util/Optional" "EMPTY" "Ljava/util/Optional;" (.ref wEMPTY)) :
    MetFree l (⟨"java/util/Optional", "empty", "()Ljava/util/Optional;"⟩ : MethodName) (head1 (Jvm.Cond.code (⟨"java/util/Optional", "empty", "()Ljava/util/Optional;"⟩ : MethodName) jdk_32_method_1_code 1 (some (.object "java/util/Optional")) :: ws) ({ frames := 0, cells := 0, slots := 0, locals := 0 } : Room)) (fun a U => a = #[] ∧ Z.Warmed39 U.vm ∧ U.heap = h0) (fun _ _ _ _ _ => True) (fun _ U o U' => ∃ v L, o = .returned v ∧ own_optempty_Q Z wEMPTY h0 n0 v U'.heap L ∧ FrameEnd U o U' L ({ frames := 0, cells := 0, slots := 0, locals := 0 } : Room).cells ({ frames := 0, cells := 0, slots := 0, locals := 0 } : Room).slots) := by
  refine MetFree.of_bodySF own_optempty_pn hisR ?_
  intro p e s m args below meth c s₁ Bd hml0 hP hK
  obtain ⟨rfl, hZ, hh⟩ := hP
  have hx := Bd.exec
  have hby := Bd.bytes
  have hlk := Bd.notSynchronized
  have hml : c.maxLocals = 1 := hml0
  have hown : s.vm.findClass "java/util/Optional" = some m.cls := findClass_of_methodNamed Bd.named
  have hnm := (name_of_methodNamed Bd.named Bd.method).1
  have X : Stand p l e ({ frames := 0, cells := 0, slots := 0, locals := 0 } : Room) s m #[] below meth c s₁ [] 0 0 := Stand.of_body Bd
  have eT : s₁.heap = h0 := by rw [← hh, Bd.state]; rfl
  have N := Fr.nil n0
  have K0 := Keep.refl h0 []
  show own_Ends p e below (own_Post s below (own_optempty_Q Z wEMPTY h0 n0) ({ frames := 0, cells := 0, slots := 0, locals := 0 } : Room).cells ({ frames := 0, cells := 0, slots := 0, locals := 0 } : Room).slots) s₁ (entryFrame m #[] 1)
  rw [own_optempty_ef m ]
  obtain ⟨T, hT⟩ : ∃ z, z = s₁ := ⟨_, rfl⟩
  rw [← hT] at X eT ⊢
  obtain ⟨h, hh0⟩ : ∃ z, z = h0 := ⟨_, rfl⟩
  rw [← hh0] at eT
  replace O : Old Z n0 h := by rw [hh0]; exact O
  replace K0 : Keep h0 h [] := by rw [hh0]; exact K0
  obtain ⟨T, X, eT, st⟩ := getS2 X hx hZ hown (host := "") (Or.inl (hw _ (List.mem_of_getElem? (i := 110) rfl))) Via.refl eT (S_EMPTY.ext O.2) (g := (mkF m 0 #[.unset] [])) rfl (hb hby own_optempty_d0)
  refine own_via (g' := (mkF m 3 #[.unset] [(.ref wEMPTY)])) st ?_
  refine own_via (T' := T) (g' := (mkF m 4 #[.val (.ref wEMPTY)] [])) (fun t_ k_ => XS.astoreN X.here hx rfl (hb hby own_optempty_d3) rfl rfl (l' := #[.val (.ref wEMPTY)]) rfl k_) ?_
  refine own_via (T' := T) (g' := (mkF m 5 #[.val (.ref wEMPTY)] [(.ref wEMPTY)])) (fun t_ k_ => XS.aloadN X.here hx rfl (hb hby own_optempty_d4) rfl rfl k_) ?_
  refine own_retW X hx hlk Bd.returns rfl (Or.inr (Or.inr (Or.inr (Or.inr ⟨rfl, rfl, rfl⟩)))) (hb hby own_optempty_d5) (by decide) (by decide) ?_
  rw [eT]
  exact ⟨rfl, N, hh0⟩
theorem own_isemptyN_d0 : decode jdk_32_method_7_code 0 = .ok (.aload_n 0, 1) := by decide +kernel
theorem own_isemptyN_d1 : decode jdk_32_method_7_code 1 = .ok (.getfield 13, 3) := by decide +kernel
theorem own_isemptyN_d4 : decode jdk_32_method_7_code 4 = .ok (.ifnonnull 7, 3) := by decide +kernel
theorem own_isemptyN_d7 : decode jdk_32_method_7_code 7 = .ok (.iconst 1, 1) := by decide +kernel
theorem own_isemptyN_d8 : decode jdk_32_method_7_code 8 = .ok (.goto 4, 3) := by decide +kernel
theorem own_isemptyN_d12 : decode jdk_32_method_7_code 12 = .ok (.ireturn, 1) := by decide +kernel
theorem own_isemptyN_pn : plainFor (⟨"java/util/Optional", "isEmpty", "()Z"⟩ : MethodName) = true := by first | exact plainFor_of_name (by first | (simp [plainName, overriddenIn]; done) | decide +kernel) | decide +kernel
theorem own_isemptyN_ef (m : MethodId) (x0 : Addr) : entryFrame m #[(.ref x0)] 1 = mkF m 0 #[.val (.ref x0)] [] := by first | (simp [entryFrame, mkF, argsToLocals, Value.category]; done) | rfl
def own_isemptyN_Q (Z : State) (a1 : Addr) (h0 : Heap) (n0 : Nat) (v : Option Value) (h : Heap) (L : List Loc) : Prop := v = some (.int (1 : Int32)) ∧ Fr n0 L ∧ h = h0
set_option maxRecDepth 65536 in
set_option maxHeartbeats 40000000 in
theorem own_isemptyN (l : Launch) (Z : State) (a0 : Array Value) (hw : ∀ d ∈ tables_1, d.before a0 Z = true) (ws : List Jvm.Cond) (a1 : Addr) (h0 : Heap) (n0 : Nat) (O : Old Z n0 h0) (F_value_a1 : Fld Z h0 a1 "java/util/Optional" "value" "Ljava/lang/Object;" .null) :
    MetFree l (⟨"java/util/Optional", "isEmpty", "()Z"⟩ : MethodName) (head1 (Jvm.Cond.code (⟨"java/util/Optional", "isEmpty", "()Z"⟩ : MethodName) jdk_32_method_7_code 1 (some .boolean) :: ws) ({ frames := 0, cells := 0, slots := 0, locals := 0 } : Room)) (fun a U => a = #[(.ref a1)] ∧ Z.Warmed39 U.vm ∧ U.heap = h0) (fun _ _ _ _ _ => True) (fun _ U o U' => ∃ v L, o = .returned v ∧ own_isemptyN_Q Z a1 h0 n0 v U'.heap L ∧ FrameEnd U o U' L ({ frames := 0, cells := 0, slots := 0, locals := 0 } : Room).cells ({ frames := 0, cells := 0, slots := 0, locals := 0 } : Room).slots) := by
  refine MetFree.of_bodySF own_isemptyN_pn hisR ?_
  intro p e s m args below meth c s₁ Bd hml0 hP hK
  obtain ⟨rfl, hZ, hh⟩ := hP
  have hx := Bd.exec
  have hby := Bd.bytes
  have hlk := Bd.notSynchronized
  have hml : c.maxLocals = 1 := hml0
  have hown : s.vm.findClass "java/util/Optional" = some m.cls := findClass_of_methodNamed Bd.named
  have hnm := (name_of_methodNamed Bd.named Bd.method).1
  have X : Stand p l e ({ frames := 0, cells := 0, slots := 0, locals := 0 } : Room) s m #[(.ref a1)] below meth c s₁ [] 0 0 := Stand.of_body Bd
  have eT : s₁.heap = h0 := by rw [← hh, Bd.state]; rfl
  have N := Fr.nil n0
  have K0 := Keep.refl h0 []
  show own_Ends p e below (own_Post s below (own_isemptyN_Q Z a1 h0 n0) ({ frames := 0, cells := 0, slots := 0, locals := 0 } : Room).cells ({ frames := 0, cells := 0, slots := 0, locals := 0 } : Room).slots) s₁ (entryFrame m #[(.ref a1)] 1)
  rw [own_isemptyN_ef m a1]
  obtain ⟨T, hT⟩ : ∃ z, z = s₁ := ⟨_, rfl⟩
  rw [← hT] at X eT ⊢
  obtain ⟨h, hh0⟩ : ∃ z, z = h0 := ⟨_, rfl⟩
  rw [← hh0] at eT
  replace O : Old Z n0 h := by rw [hh0]; exact O
  replace K0 : Keep h0 h [] := by rw [hh0]; exact K0
  rw [← hh0] at F_value_a1
  refine own_via (T' := T) (g' := (mkF m 1 #[.val (.ref a1)] [(.ref a1)])) (fun t_ k_ => XS.aloadN X.here hx rfl (hb hby own_isemptyN_d0) rfl rfl k_) ?_
  obtain ⟨T, X, eT, st⟩ := getF X hx hZ hown (host := "") (Or.inl (hw _ (List.mem_of_getElem? (i := 48) rfl))) Via.refl eT F_value_a1 (g := (mkF m 1 #[.val (.ref a1)] [(.ref a1)])) rfl rfl (hb hby own_isemptyN_d1)
  refine own_via (g' := (mkF m 4 #[.val (.ref a1)] [.null])) st ?_
  refine own_via (T' := T) (g' := (mkF m 7 #[.val (.ref a1)] [])) (fun t_ k_ => XS.ifnonnullNo X.here hx rfl (hb hby own_isemptyN_d4) rfl k_) ?_
  refine own_via (T' := T) (g' := (mkF m 8 #[.val (.ref a1)] [(.int (1 : Int32))])) (fun t_ k_ => XS.iconst X.here hx rfl (hb hby own_isemptyN_d7) k_) ?_
  refine own_via (T' := T) (g' := (mkF m 12 #[.val (.ref a1)] [(.int (1 : Int32))])) (fun t_ k_ => XS.goto X.here hx rfl (pc0 := 8) (pc' := 12) rfl (hb hby own_isemptyN_d8) (by decide) (by decide) k_) ?_
  refine own_retN X hx hlk (t := .boolean) Bd.returns (by simp) (hb hby own_isemptyN_d12) (by decide) (by decide) ?_
  rw [eT]
  exact ⟨rfl, N, hh0⟩
theorem own_isemptyV_d0 : decode jdk_32_method_7_code 0 = .ok (.aload_n 0, 1) := by decide +kernel
theorem own_isemptyV_d1 : decode jdk_32_method_7_code 1 = .ok (.getfield 13, 3) := by decide +kernel
theorem own_isemptyV_d4 : decode jdk_32_method_7_code 4 = .ok (.ifnonnull 7, 3) := by decide +kernel
theorem own_isemptyV_d11 : decode jdk_32_method_7_code 11 = .ok (.iconst 0, 1) := by decide +kernel
theorem own_isemptyV_d12 : decode jdk_32_method_7_code 12 = .ok (.ireturn, 1) := by decide +kernel
theorem own_isemptyV_pn : plainFor (⟨"java/util/Optional", "isEmpty", "()Z"⟩ : MethodName) = true := by first | exact plainFor_of_name (by first | (simp [plainName, overriddenIn]; done) | decide +kernel) | decide +kernel
theorem own_isemptyV_ef (m : MethodId) (x0 : Addr) : entryFrame m #[(.ref x0)] 1 = mkF m 0 #[.val (.ref x0)] [] := by first | (simp [entryFrame, mkF, argsToLocals, Value.category]; done) | rfl
def own_isemptyV_Q (Z : State) (a1 : Addr) (v1 : Addr) (h0 : Heap) (n0 : Nat) (v : Option Value) (h : Heap) (L : List Loc) : Prop := v = some (.int (0 : Int32)) ∧ Fr n0 L ∧ h = h0
set_option maxRecDepth 65536 in
set_option maxHeartbeats 40000000 in
theorem own_isemptyV (l : Launch) (Z : State) (a0 : Array Value) (hw : ∀ d ∈ tables_1, d.before a0 Z = true) (ws : List Jvm.Cond) (a1 : Addr) (v1 : Addr) (h0 : Heap) (n0 : Nat) (O : Old Z n0 h0) (F_value_a1 : Fld Z h0 a1 "java/util/Optional" "value" "Ljava/lang/Object;" (.ref v1)) :
    MetFree l (⟨"java/util/Optional", "isEmpty", "()Z"⟩ : MethodName) (head1 (Jvm.Cond.code (⟨"java/util/Optional", "isEmpty", "()Z"⟩ : MethodName) jdk_32_method_7_code 1 (some .boolean) :: ws) ({ frames := 0, cells := 0, slots := 0, locals := 0 } : Room)) (fun a U => a = #[(.ref a1)] ∧ Z.Warmed39 U.vm ∧ U.heap = h0) (fun _ _ _ _ _ => True) (fun _ U o U' => ∃ v L, o = .returned v ∧ own_isemptyV_Q Z a1 v1 h0 n0 v U'.heap L ∧ FrameEnd U o U' L ({ frames := 0, cells := 0, slots := 0, locals := 0 } : Room).cells ({ frames := 0, cells := 0, slots := 0, locals := 0 } : Room).slots) := by
  refine MetFree.of_bodySF own_isemptyV_pn hisR ?_
  intro p e s m args below meth c s₁ Bd hml0 hP hK
  obtain ⟨rfl, hZ, hh⟩ := hP
  have hx := Bd.exec
  have hby := Bd.bytes
  have hlk := Bd.notSynchronized
  have hml : c.maxLocals = 1 := hml0
  have hown : s.vm.findClass "java/util/Optional" = some m.cls := findClass_of_methodNamed Bd.named
  have hnm := (name_of_methodNamed Bd.named Bd.method).1
  have X : Stand p l e ({ frames := 0, cells := 0, slots := 0, locals := 0 } : Room) s m #[(.ref a1)] below meth c s₁ [] 0 0 := Stand.of_body Bd
  have eT : s₁.heap = h0 := by rw [← hh, Bd.state]; rfl
  have N := Fr.nil n0
  have K0 := Keep.refl h0 []
  show own_Ends p e below (own_Post s below (own_isemptyV_Q Z a1 v1 h0 n0) ({ frames := 0, cells := 0, slots := 0, locals := 0 } : Room).cells ({ frames := 0, cells := 0, slots := 0, locals := 0 } : Room).slots) s₁ (entryFrame m #[(.ref a1)] 1)
  rw [own_isemptyV_ef m a1]
  obtain ⟨T, hT⟩ : ∃ z, z = s₁ := ⟨_, rfl⟩
  rw [← hT] at X eT ⊢
  obtain ⟨h, hh0⟩ : ∃ z, z = h0 := ⟨_, rfl⟩
  rw [← hh0] at eT
  replace O : Old Z n0 h := by rw [hh0]; exact O
  replace K0 : Keep h0 h [] := by rw [hh0]; exact K0
  rw [← hh0] at F_value_a1
  refine own_via (T' := T) (g' := (mkF m 1 #[.val (.ref a1)] [(.ref a1)])) (fun t_ k_ => XS.aloadN X.here hx rfl (hb hby own_isemptyV_d0) rfl rfl k_) ?_
  obtain ⟨T, X, eT, st⟩ := getF X hx hZ hown (host := "") (Or.inl (hw _ (List.mem_of_getElem? (i := 48) rfl))) Via.refl eT F_value_a1 (g := (mkF m 1 #[.val (.ref a1)] [(.ref a1)])) rfl rfl (hb hby own_isemptyV_d1)
  refine own_via (g' := (mkF m 4 #[.val (.ref a1)] [(.ref v1)])) st ?_
  refine own_via (T' := T) (g' := (mkF m 11 #[.val (.ref a1)] [])) (fun t_ k_ => XS.ifnonnullYes X.here hx rfl (pc0 := 4) (pc' := 11) rfl (hb hby own_isemptyV_d4) rfl (by decide) (by decide) k_) ?_
  refine own_via (T' := T) (g' := (mkF m 12 #[.val (.ref a1)] [(.int (0 : Int32))])) (fun t_ k_ => XS.iconst X.here hx rfl (hb hby own_isemptyV_d11) k_) ?_
  refine own_retN X hx hlk (t := .boolean) Bd.returns (by simp) (hb hby own_isemptyV_d12) (by decide) (by decide) ?_
  rw [eT]
  exact ⟨rfl, N, hh0⟩
theorem own_number_d0 : decode jdk_18_method_1_code 0 = .ok (.aload_n 0, 1) := by decide +kernel
theorem own_number_d1 : decode jdk_18_method_1_code 1 = .ok (.invokespecial 1, 3) := by decide +kernel
theorem own_number_d4 : decode jdk_18_method_1_code 4 = .ok (.return_, 1) := by decide +kernel
theorem own_number_pn : plainFor (⟨"java/lang/Number", "<init>", "()V"⟩ : MethodName) = true := by first | exact plainFor_of_name (by first | (simp [plainName, overriddenIn]; done) | decide +kernel) | decide +kernel
theorem own_number_ef (m : MethodId) (x0 : Addr) : entryFrame m #[(.ref x0)] 1 = mkF m 0 #[.val (.ref x0)] [] := by first | (simp [entryFrame, mkF, argsToLocals, Value.category]; done) | rfl
def own_number_Q (Z : State) (a1 : Addr) (h0 : Heap) (n0 : Nat) (v : Option Value) (h : Heap) (L : List Loc) : Prop := v = none ∧ Fr n0 L ∧ h = h0
set_option maxRecDepth 65536 in
set_option maxHeartbeats 40000000 in
theorem own_number (l : Launch) (Z : State) (a0 : Array Value) (hw : ∀ d ∈ tables_1, d.before a0 Z = true) (ws : List Jvm.Cond) (a1 : Addr) (h0 : Heap) (n0 : Nat) (O : Old Z n0 h0)  :
    MetFree l (⟨"java/lang/Number", "<init>", "()V"⟩ : MethodName) (head1 (Jvm.Cond.code (⟨"java/lang/Number", "<init>", "()V"⟩ : MethodName) jdk_18_method_1_code 1 none :: ws) ({ frames := 1, cells := 0, slots := 0, locals := 12 } : Room)) (fun a U => a = #[(.ref a1)] ∧ Z.Warmed39 U.vm ∧ U.heap = h0) (fun _ _ _ _ _ => True) (fun _ U o U' => ∃ v L, o = .returned v ∧ own_number_Q Z a1 h0 n0 v U'.heap L ∧ FrameEnd U o U' L ({ frames := 1, cells := 0, slots := 0, locals := 12 } : Room).cells ({ frames := 1, cells := 0, slots := 0, locals := 12 } : Room).slots) := by
  refine MetFree.of_bodySF own_number_pn hisR ?_
  intro p e s m args below meth c s₁ Bd hml0 hP hK
  obtain ⟨rfl, hZ, hh⟩ := hP
  have hx := Bd.exec
  have hby := Bd.bytes
  have hlk := Bd.notSynchronized
  have hml : c.maxLocals = 1 := hml0
  have hown : s.vm.findClass "java/lang/Number" = some m.cls := findClass_of_methodNamed Bd.named
  have hnm := (name_of_methodNamed Bd.named Bd.method).1
  have X : Stand p l e ({ frames := 1, cells := 0, slots := 0, locals := 12 } : Room) s m #[(.ref a1)] below meth c s₁ [] 0 0 := Stand.of_body Bd
  have eT : s₁.heap = h0 := by rw [← hh, Bd.state]; rfl
  have N := Fr.nil n0
  have K0 := Keep.refl h0 []
  show own_Ends p e below (own_Post s below (own_number_Q Z a1 h0 n0) ({ frames := 1, cells := 0, slots := 0, locals := 12 } : Room).cells ({ frames := 1, cells := 0, slots := 0, locals := 12 } : Room).slots) s₁ (entryFrame m #[(.ref a1)] 1)
  rw [own_number_ef m a1]
  obtain ⟨T, hT⟩ : ∃ z, z = s₁ := ⟨_, rfl⟩
  rw [← hT] at X eT ⊢
  obtain ⟨h, hh0⟩ : ∃ z, z = h0 := ⟨_, rfl⟩
  rw [← hh0] at eT
  replace O : Old Z n0 h := by rw [hh0]; exact O
  replace K0 : Keep h0 h [] := by rw [hh0]; exact K0
  refine own_via (T' := T) (g' := (mkF m 1 #[.val (.ref a1)] [(.ref a1)])) (fun t_ k_ => XS.aloadN X.here hx rfl (hb hby own_number_d0) rfl rfl k_) ?_
  obtain ⟨T, X, eT, st⟩ := initO X hx hZ hown (hw _ (List.mem_of_getElem? (i := 123) rfl)) (hw _ (List.mem_of_getElem? (i := 12) rfl)) (hw _ (List.mem_of_getElem? (i := 13) rfl)) eT (g := (mkF m 1 #[.val (.ref a1)] [(.ref a1)])) rfl (by rw [hml]; rfl) rfl (hb hby own_number_d1) (by decide) (W := 0) (by show 2 * 0 + _ ≤ _; exact Nat.le_of_eq rfl) (by decide)
  refine own_via (g' := (mkF m 4 #[.val (.ref a1)] [])) st ?_
  refine own_retV X hx hlk Bd.returns (hb hby own_number_d4) (by decide) (by decide) ?_
  rw [eT]
  exact ⟨rfl, N, hh0⟩
theorem own_intinit_d0 : decode jdk_33_method_23_code 0 = .ok (.aload_n 0, 1) := by decide +kernel
theorem own_intinit_d1 : decode jdk_33_method_23_code 1 = .ok (.invokespecial 202, 3) := by decide +kernel
theorem own_intinit_d4 : decode jdk_33_method_23_code 4 = .ok (.aload_n 0, 1) := by decide +kernel
theorem own_intinit_d5 : decode jdk_33_method_23_code 5 = .ok (.iload_n 1, 1) := by decide +kernel
theorem own_intinit_d6 : decode jdk_33_method_23_code 6 = .ok (.putfield 205, 3) := by decide +kernel
theorem own_intinit_d9 : decode jdk_33_method_23_code 9 = .ok (.return_, 1) := by decide +kernel
theorem own_intinit_pn : plainFor (⟨"java/lang/Integer", "<init>", "(I)V"⟩ : MethodName) = true := by first | exact plainFor_of_name (by first | (simp [plainName, overriddenIn]; done) | decide +kernel) | decide +kernel
theorem own_intinit_ef (m : MethodId) (x0 : Addr) (x1 : Int32) : entryFrame m #[(.ref x0), (.int x1)] 2 = mkF m 0 #[.val (.ref x0), .val (.int x1)] [] := by first | (simp [entryFrame, mkF, argsToLocals, Value.category]; done) | rfl
def own_intinit_Q (Z : State) (a1 : Addr) (q1 : Int32) (h0 : Heap) (n0 : Nat) (v : Option Value) (h : Heap) (L : List Loc) : Prop := v = none ∧ Fr n0 L ∧ Keep h0 h [a1] ∧ Exa Z h a1 "java/lang/Integer" ∧ Fld Z h a1 "java/lang/Integer" "value" "I" (.int q1)
set_option maxRecDepth 65536 in
set_option maxHeartbeats 40000000 in
theorem own_intinit (l : Launch) (Z : State) (a0 : Array Value) (hw : ∀ d ∈ tables_1, d.before a0 Z = true) (ws : List Jvm.Cond) (a1 : Addr) (q1 : Int32) (h0 : Heap) (n0 : Nat) (O : Old Z n0 h0) (E_a1 : Exa Z h0 a1 "java/lang/Integer") (F_value_a1 : Fld Z h0 a1 "java/lang/Integer" "value" "I" (.int (0 : Int32))) (g_a1 : n0 ≤ a1) :
    MetFree l (⟨"java/lang/Integer", "<init>", "(I)V"⟩ : MethodName) (head1 (Jvm.Cond.code (⟨"java/lang/Integer", "<init>", "(I)V"⟩ : MethodName) jdk_33_method_23_code 2 none :: ws) ({ frames := 2, cells := 0, slots := 0, locals := 24 } : Room)) (fun a U => a = #[(.ref a1), (.int q1)] ∧ Z.Warmed39 U.vm ∧ U.heap = h0) (fun _ _ _ _ _ => True) (fun _ U o U' => ∃ v L, o = .returned v ∧ own_intinit_Q Z a1 q1 h0 n0 v U'.heap L ∧ FrameEnd U o U' L ({ frames := 2, cells := 0, slots := 0, locals := 24 } : Room).cells ({ frames := 2, cells := 0, slots := 0, locals := 24 } : Room).slots) := by
  refine MetFree.of_bodySF own_intinit_pn hisR ?_
  intro p e s m args below meth c s₁ Bd hml0 hP hK
  obtain ⟨rfl, hZ, hh⟩ := hP
  have hx := Bd.exec
  have hby := Bd.bytes
  have hlk := Bd.notSynchronized
  have hml : c.maxLocals = 2 := hml0
  have hown : s.vm.findClass "java/lang/Integer" = some m.cls := findClass_of_methodNamed Bd.named
  have hnm := (name_of_methodNamed Bd.named Bd.method).1
  have X : Stand p l e ({ frames := 2, cells := 0, slots := 0, locals := 24 } : Room) s m #[(.ref a1), (.int q1)] below meth c s₁ [] 0 0 := Stand.of_body Bd
  have eT : s₁.heap = h0 := by rw [← hh, Bd.state]; rfl
  have N := Fr.nil n0
  have K0 := Keep.refl h0 [a1]
  show own_Ends p e below (own_Post s below (own_intinit_Q Z a1 q1 h0 n0) ({ frames := 2, cells := 0, slots := 0, locals := 24 } : Room).cells ({ frames := 2, cells := 0, slots := 0, locals := 24 } : Room).slots) s₁ (entryFrame m #[(.ref a1), (.int q1)] 2)
  rw [own_intinit_ef m a1 q1]
  obtain ⟨T, hT⟩ : ∃ z, z = s₁ := ⟨_, rfl⟩
  rw [← hT] at X eT ⊢
  obtain ⟨h, hh0⟩ : ∃ z, z = h0 := ⟨_, rfl⟩
  rw [← hh0] at eT
  replace O : Old Z n0 h := by rw [hh0]; exact O
  replace K0 : Keep h0 h [a1] := by rw [hh0]; exact K0
  rw [← hh0] at E_a1
  rw [← hh0] at F_value_a1
  refine own_via (T' := T) (g' := (mkF m 1 #[.val (.ref a1), .val (.int q1)] [(.ref a1)])) (fun t_ k_ => XS.aloadN X.here hx rfl (hb hby own_intinit_d0) rfl rfl k_) ?_
  obtain ⟨_, _, ⟨T, Lq, kq, nq⟩, -, X, ⟨Lc, hQ, lq, yq, zq⟩, st⟩ := X.specialBack hx (y := (⟨"java/lang/Number", "<init>", "()V"⟩ : MethodName)) rfl hown (mvT hZ (hw _ (List.mem_of_getElem? (i := 117) rfl))) (mvT hZ (hw _ (List.mem_of_getElem? (i := 118) rfl))) (mvT hZ (hw _ (List.mem_of_getElem? (i := 122) rfl))) (by decide) (backOf (W := 0) (own_number l Z a0 hw [] a1 h n0 O ) hZ (hw _ (List.mem_of_getElem? (i := 122) rfl)) (hw _ (List.mem_of_getElem? (i := 121) rfl)) (by decide) (by decide)) (g := (mkF m 1 #[.val (.ref a1), .val (.int q1)] [(.ref a1)])) rfl (by rw [hml]; rfl) (Steps.refl _) (a := a1) (argsL := []) (rest := []) (lenOf own_pd0 rfl) rfl (by show 2 * 0 + _ ≤ _; exact Nat.le_of_eq rfl) (hb hby own_intinit_d1) (fun _ _ => ⟨rfl, eT, (by decide : 0 + 0 ≤ _), (by decide : 0 + 0 ≤ _)⟩)
  dsimp only [Pt.U, Pt.locs, Pt.cells, Pt.slots] at X lq yq zq st hQ
  subst lq yq zq
  obtain ⟨rfl, Nq, eT⟩ := hQ
  replace N := Fr.app N Nq
  refine own_viaT (g' := (mkF m 4 #[.val (.ref a1), .val (.int q1)] [])) st ?_
  refine own_via (T' := T) (g' := (mkF m 5 #[.val (.ref a1), .val (.int q1)] [(.ref a1)])) (fun t_ k_ => XS.aloadN X.here hx rfl (hb hby own_intinit_d4) rfl rfl k_) ?_
  refine own_via (T' := T) (g' := (mkF m 6 #[.val (.ref a1), .val (.int q1)] [(.int q1), (.ref a1)])) (fun t_ k_ => XS.iloadN X.here hx rfl (hb hby own_intinit_d5) rfl k_) ?_
  obtain ⟨T, h1, X, eT, W, st⟩ := putF X hx hZ hown (host := "") (Or.inl (hw _ (List.mem_of_getElem? (i := 105) rfl))) Via.refl eT F_value_a1 E_a1 (Or.inr ⟨(hw _ (List.mem_of_getElem? (i := 106) rfl)), rfl, hnm⟩) (hw _ (List.mem_of_getElem? (i := 113) rfl)) (ty := .int) (by decide) rfl rfl (g := (mkF m 6 #[.val (.ref a1), .val (.int q1)] [(.int q1), (.ref a1)])) rfl rfl (hb hby own_intinit_d6)
  replace F_value_a1 := F_value_a1.same W
  replace E_a1 := E_a1.wr W
  replace O := O.wr W g_a1
  replace K0 := K0.wr W (Or.inl (List.mem_of_getElem? (i := 0) rfl))
  replace N := Fr.snoc X N g_a1
  refine own_via (g' := (mkF m 9 #[.val (.ref a1), .val (.int q1)] [])) st ?_
  refine own_retV X hx hlk Bd.returns (hb hby own_intinit_d9) (by decide) (by decide) ?_
  rw [eT]
  exact ⟨rfl, N, K0, E_a1, F_value_a1⟩
theorem own_valueOf_d0 : decode jdk_33_method_22_code 0 = .ok (.iload_n 0, 1) := by decide +kernel
theorem own_valueOf_d1 : decode jdk_33_method_22_code 1 = .ok (.bipush (-128), 2) := by decide +kernel
theorem own_valueOf_d3 : decode jdk_33_method_22_code 3 = .ok (.if_icmp .lt 20, 3) := by decide +kernel
theorem own_valueOf_d6 : decode jdk_33_method_22_code 6 = .ok (.iload_n 0, 1) := by decide +kernel
theorem own_valueOf_d7 : decode jdk_33_method_22_code 7 = .ok (.getstatic 191, 3) := by decide +kernel
theorem own_valueOf_d10 : decode jdk_33_method_22_code 10 = .ok (.if_icmp .gt 13, 3) := by decide +kernel
theorem own_valueOf_d13 : decode jdk_33_method_22_code 13 = .ok (.getstatic 195, 3) := by decide +kernel
theorem own_valueOf_d16 : decode jdk_33_method_22_code 16 = .ok (.iload_n 0, 1) := by decide +kernel
theorem own_valueOf_d17 : decode jdk_33_method_22_code 17 = .ok (.sipush 128, 3) := by decide +kernel
theorem own_valueOf_d20 : decode jdk_33_method_22_code 20 = .ok (.iadd, 1) := by decide +kernel
theorem own_valueOf_d21 : decode jdk_33_method_22_code 21 = .ok (.aaload, 1) := by decide +kernel
theorem own_valueOf_d22 : decode jdk_33_method_22_code 22 = .ok (.areturn, 1) := by decide +kernel
theorem own_valueOf_d23 : decode jdk_33_method_22_code 23 = .ok (.new 1, 3) := by decide +kernel
theorem own_valueOf_d26 : decode jdk_33_method_22_code 26 = .ok (.dup, 1) := by decide +kernel
theorem own_valueOf_d27 : decode jdk_33_method_22_code 27 = .ok (.iload_n 0, 1) := by decide +kernel
theorem own_valueOf_d28 : decode jdk_33_method_22_code 28 = .ok (.invokespecial 199, 3) := by decide +kernel
theorem own_valueOf_d31 : decode jdk_33_method_22_code 31 = .ok (.areturn, 1) := by decide +kernel
theorem own_valueOf_pn : plainFor (⟨"java/lang/Integer", "valueOf", "(I)Ljava/lang/Integer;"⟩ : MethodName) = true := by first | exact plainFor_of_name (by first | (simp [plainName, overriddenIn]; done) | decide +kernel) | decide +kernel
theorem own_valueOf_ef (m : MethodId) (x0 : Int32) : entryFrame m #[(.int x0)] 1 = mkF m 0 #[.val (.int x0)] [] := by first | (simp [entryFrame, mkF, argsToLocals, Value.category]; done) | rfl
def own_valueOf_Q (Z : State) (q1 : Int32) (wCA : Addr) (clCA : Cell) (h0 : Heap) (n0 : Nat) (v : Option Value) (h : Heap) (L : List Loc) : Prop := ∃ r, v = some (.ref r) ∧ Fr n0 L ∧ Keep h0 h [] ∧ Exa Z h r "java/lang/Integer" ∧ Fld Z h r "java/lang/Integer" "value" "I" (.int q1)
set_option maxRecDepth 65536 in
set_option maxHeartbeats 40000000 in
theorem own_valueOf (l : Launch) (Z : State) (a0 : Array Value) (hw : ∀ d ∈ tables_1, d.before a0 Z = true) (ws : List Jvm.Cond) (q1 : Int32) (wCA : Addr) (clCA : Cell) (h0 : Heap) (n0 : Nat) (O : Old Z n0 h0) (S_high : Sta Z Z.heap "java/lang/Integer$IntegerCache" "high" "I" (.int 127)) (S_cache : Sta Z Z.heap "java/lang/Integer$IntegerCache" "cache" "[Ljava/lang/Integer;" (.ref wCA)) (BX : Bxs Z wCA clCA "java/lang/Integer" "I" 256 (fun j => .int (j - 128))) :
    MetFree l (⟨"java/lang/Integer", "valueOf", "(I)Ljava/lang/Integer;"⟩ : MethodName) (head1 (Jvm.Cond.code (⟨"java/lang/Integer", "valueOf", "(I)Ljava/lang/Integer;"⟩ : MethodName) jdk_33_method_22_code 1 (some (.object "java/lang/Integer")) :: ws) ({ frames := 3, cells := 1, slots := 1, locals := 38 } : Room)) (fun a U => a = #[(.int q1)] ∧ Z.Warmed39 U.vm ∧ U.heap = h0) (fun _ _ _ _ _ => True) (fun _ U o U' => ∃ v L, o = .returned v ∧ own_valueOf_Q Z q1 wCA clCA h0 n0 v U'.heap L ∧ FrameEnd U o U' L ({ frames := 3, cells := 1, slots := 1, locals := 38 } : Room).cells ({ frames := 3, cells := 1, slots := 1, locals := 38 } : Room).slots) := by
  refine MetFree.of_bodySF own_valueOf_pn hisR ?_
  intro p e s m args below meth c s₁ Bd hml0 hP hK
  obtain ⟨rfl, hZ, hh⟩ := hP
  have hx := Bd.exec
  have hby := Bd.bytes
  have hlk := Bd.notSynchronized
  have hml : c.maxLocals = 1 := hml0
  have hown : s.vm.findClass "java/lang/Integer" = some m.cls := findClass_of_methodNamed Bd.named
  have hnm := (name_of_methodNamed Bd.named Bd.method).1
  have X : Stand p l e ({ frames := 3, cells := 1, slots := 1, locals := 38 } : Room) s m #[(.int q1)] below meth c s₁ [] 0 0 := Stand.of_body Bd
  have eT : s₁.heap = h0 := by rw [← hh, Bd.state]; rfl
  have N := Fr.nil n0
  have K0 := Keep.refl h0 []
  show own_Ends p e below (own_Post s below (own_valueOf_Q Z q1 wCA clCA h0 n0) ({ frames := 3, cells := 1, slots := 1, locals := 38 } : Room).cells ({ frames := 3, cells := 1, slots := 1, locals := 38 } : Room).slots) s₁ (entryFrame m #[(.int q1)] 1)
  rw [own_valueOf_ef m q1]
  obtain ⟨T, hT⟩ : ∃ z, z = s₁ := ⟨_, rfl⟩
  rw [← hT] at X eT ⊢
  obtain ⟨h, hh0⟩ : ∃ z, z = h0 := ⟨_, rfl⟩
  rw [← hh0] at eT
  replace O : Old Z n0 h := by rw [hh0]; exact O
  replace K0 : Keep h0 h [] := by rw [hh0]; exact K0
  refine own_via (T' := T) (g' := (mkF m 1 #[.val (.int q1)] [(.int q1)])) (fun t_ k_ => XS.iloadN X.here hx rfl (hb hby own_valueOf_d0) rfl k_) ?_
  refine own_via (T' := T) (g' := (mkF m 3 #[.val (.int q1)] [(.int (-128 : Int32)), (.int q1)])) (fun t_ k_ => XS.bipush X.here hx rfl (hb hby own_valueOf_d1) k_) ?_
  by_cases hc1 : q1 < (-128 : Int32)
  · refine own_via (T' := T) (g' := (mkF m 23 #[.val (.int q1)] [])) (fun t_ k_ => XS.icmpYes X.here hx rfl (pc0 := 3) (pc' := 23) rfl (hb hby own_valueOf_d3) rfl (tlt hc1).1 (by decide) (by decide) k_) ?_
    obtain ⟨b2, gb⟩ : ∃ z, z = h.size := ⟨_, rfl⟩
    obtain ⟨T, h3, X, eT, E, E_b2, Dq, -, st⟩ := newO X hx hZ hown (hw _ (List.mem_of_getElem? (i := 112) rfl)) (hw _ (List.mem_of_getElem? (i := 113) rfl)) (hw _ (List.mem_of_getElem? (i := 84) rfl)) eT (g := (mkF m 23 #[.val (.int q1)] [])) rfl (hb hby own_valueOf_d23) (by decide) (by decide)
    rw [← gb] at E_b2 Dq st
    have g_b2 : n0 ≤ b2 := Nat.le_trans (own_le O) (Nat.le_of_eq gb.symm)
    have sz_b2 : h0.size ≤ b2 := Nat.le_trans K0.1 (Nat.le_of_eq gb.symm)
    replace O := O.ext E
    replace K0 := K0.ext E
    have F_value_b2 : Fld Z h3 b2 "java/lang/Integer" "value" "I" (.int (0 : Int32)) := Dq (Or.inr (hw _ (List.mem_of_getElem? (i := 106) rfl))) (ty := .int) (by decide)
    refine own_via (g' := (mkF m 26 #[.val (.int q1)] [(.ref b2)])) st ?_
    refine own_via (T' := T) (g' := (mkF m 27 #[.val (.int q1)] [(.ref b2), (.ref b2)])) (fun t_ k_ => XS.dup X.here hx rfl (hb hby own_valueOf_d26) rfl rfl k_) ?_
    refine own_via (T' := T) (g' := (mkF m 28 #[.val (.int q1)] [(.int q1), (.ref b2), (.ref b2)])) (fun t_ k_ => XS.iloadN X.here hx rfl (hb hby own_valueOf_d27) rfl k_) ?_
    obtain ⟨_, _, ⟨T, Lq, kq, nq⟩, -, X, ⟨Lc, hQ, lq, yq, zq⟩, st⟩ := X.specialBack hx (y := (⟨"java/lang/Integer", "<init>", "(I)V"⟩ : MethodName)) rfl hown (mvT hZ (hw _ (List.mem_of_getElem? (i := 114) rfl))) (mvT hZ (hw _ (List.mem_of_getElem? (i := 115) rfl))) (mvT hZ (hw _ (List.mem_of_getElem? (i := 116) rfl))) (by decide) (backOf (W := 1) (own_intinit l Z a0 hw [] b2 q1 h3 n0 O E_b2 F_value_b2 g_b2) hZ (hw _ (List.mem_of_getElem? (i := 116) rfl)) (hw _ (List.mem_of_getElem? (i := 84) rfl)) (by decide) (by decide)) (g := (mkF m 28 #[.val (.int q1)] [(.int q1), (.ref b2), (.ref b2)])) rfl (by rw [hml]; rfl) (Steps.refl _) (a := b2) (argsL := [(.int q1)]) (rest := [(.ref b2)]) (lenOf own_pd3 rfl) rfl (by show 2 * 0 + _ ≤ _; exact Nat.le_of_eq rfl) (hb hby own_valueOf_d28) (fun _ _ => ⟨rfl, eT, (by decide : 1 + 0 ≤ _), (by decide : 1 + 0 ≤ _)⟩)
    dsimp only [Pt.U, Pt.locs, Pt.cells, Pt.slots] at X lq yq zq st hQ
    subst lq yq zq
    obtain ⟨rfl, Nq, Kq, E_b2, F_value_b2⟩ := hQ
    replace N := Fr.app N Nq
    obtain ⟨h4, eT⟩ : ∃ z, T.heap = z := ⟨_, rfl⟩
    rw [eT] at Kq E_b2 F_value_b2
    replace O := O.keep Kq (allS g_b2 all0)
    replace K0 := K0.trans Kq (allS (Or.inr sz_b2) all0)
    refine own_viaT (g' := (mkF m 31 #[.val (.int q1)] [(.ref b2)])) st ?_
    refine own_retW X hx hlk Bd.returns rfl (Or.inr (Or.inr (Or.inr (Or.inr ⟨rfl, rfl, rfl⟩)))) (hb hby own_valueOf_d31) (by decide) (by decide) ?_
    rw [eT]
    exact ⟨b2, rfl, N, K0, E_b2, F_value_b2⟩
  · refine own_via (T' := T) (g' := (mkF m 6 #[.val (.int q1)] [])) (fun t_ k_ => XS.icmpNo X.here hx rfl (hb hby own_valueOf_d3) rfl (flt hc1).1 k_) ?_
    refine own_via (T' := T) (g' := (mkF m 7 #[.val (.int q1)] [(.int q1)])) (fun t_ k_ => XS.iloadN X.here hx rfl (hb hby own_valueOf_d6) rfl k_) ?_
    obtain ⟨T, X, eT, st⟩ := getS2 X hx hZ hown (host := "") (Or.inl (hw _ (List.mem_of_getElem? (i := 86) rfl))) Via.refl eT (S_high.ext O.2) (g := (mkF m 7 #[.val (.int q1)] [(.int q1)])) rfl (hb hby own_valueOf_d7)
    refine own_via (g' := (mkF m 10 #[.val (.int q1)] [(.int (127 : Int32)), (.int q1)])) st ?_
    by_cases hc5 : (127 : Int32) < q1
    · refine own_via (T' := T) (g' := (mkF m 23 #[.val (.int q1)] [])) (fun t_ k_ => XS.icmpYes X.here hx rfl (pc0 := 10) (pc' := 23) rfl (hb hby own_valueOf_d10) rfl (tlt hc5).2.2.1 (by decide) (by decide) k_) ?_
      obtain ⟨b6, gb⟩ : ∃ z, z = h.size := ⟨_, rfl⟩
      obtain ⟨T, h7, X, eT, E, E_b6, Dq, -, st⟩ := newO X hx hZ hown (hw _ (List.mem_of_getElem? (i := 112) rfl)) (hw _ (List.mem_of_getElem? (i := 113) rfl)) (hw _ (List.mem_of_getElem? (i := 84) rfl)) eT (g := (mkF m 23 #[.val (.int q1)] [])) rfl (hb hby own_valueOf_d23) (by decide) (by decide)
      rw [← gb] at E_b6 Dq st
      have g_b6 : n0 ≤ b6 := Nat.le_trans (own_le O) (Nat.le_of_eq gb.symm)
      have sz_b6 : h0.size ≤ b6 := Nat.le_trans K0.1 (Nat.le_of_eq gb.symm)
      replace O := O.ext E
      replace K0 := K0.ext E
      have F_value_b6 : Fld Z h7 b6 "java/lang/Integer" "value" "I" (.int (0 : Int32)) := Dq (Or.inr (hw _ (List.mem_of_getElem? (i := 106) rfl))) (ty := .int) (by decide)
      refine own_via (g' := (mkF m 26 #[.val (.int q1)] [(.ref b6)])) st ?_
      refine own_via (T' := T) (g' := (mkF m 27 #[.val (.int q1)] [(.ref b6), (.ref b6)])) (fun t_ k_ => XS.dup X.here hx rfl (hb hby own_valueOf_d26) rfl rfl k_) ?_
      refine own_via (T' := T) (g' := (mkF m 28 #[.val (.int q1)] [(.int q1), (.ref b6), (.ref b6)])) (fun t_ k_ => XS.iloadN X.here hx rfl (hb hby own_valueOf_d27) rfl k_) ?_
      obtain ⟨_, _, ⟨T, Lq, kq, nq⟩, -, X, ⟨Lc, hQ, lq, yq, zq⟩, st⟩ := X.specialBack hx (y := (⟨"java/lang/Integer", "<init>", "(I)V"⟩ : MethodName)) rfl hown (mvT hZ (hw _ (List.mem_of_getElem? (i := 114) rfl))) (mvT hZ (hw _ (List.mem_of_getElem? (i := 115) rfl))) (mvT hZ (hw _ (List.mem_of_getElem? (i := 116) rfl))) (by decide) (backOf (W := 1) (own_intinit l Z a0 hw [] b6 q1 h7 n0 O E_b6 F_value_b6 g_b6) hZ (hw _ (List.mem_of_getElem? (i := 116) rfl)) (hw _ (List.mem_of_getElem? (i := 84) rfl)) (by decide) (by decide)) (g := (mkF m 28 #[.val (.int q1)] [(.int q1), (.ref b6), (.ref b6)])) rfl (by rw [hml]; rfl) (Steps.refl _) (a := b6) (argsL := [(.int q1)]) (rest := [(.ref b6)]) (lenOf own_pd3 rfl) rfl (by show 2 * 0 + _ ≤ _; exact Nat.le_of_eq rfl) (hb hby own_valueOf_d28) (fun _ _ => ⟨rfl, eT, (by decide : 1 + 0 ≤ _), (by decide : 1 + 0 ≤ _)⟩)
      dsimp only [Pt.U, Pt.locs, Pt.cells, Pt.slots] at X lq yq zq st hQ
      subst lq yq zq
      obtain ⟨rfl, Nq, Kq, E_b6, F_value_b6⟩ := hQ
      replace N := Fr.app N Nq
      obtain ⟨h8, eT⟩ : ∃ z, T.heap = z := ⟨_, rfl⟩
      rw [eT] at Kq E_b6 F_value_b6
      replace O := O.keep Kq (allS g_b6 all0)
      replace K0 := K0.trans Kq (allS (Or.inr sz_b6) all0)
      refine own_viaT (g' := (mkF m 31 #[.val (.int q1)] [(.ref b6)])) st ?_
      refine own_retW X hx hlk Bd.returns rfl (Or.inr (Or.inr (Or.inr (Or.inr ⟨rfl, rfl, rfl⟩)))) (hb hby own_valueOf_d31) (by decide) (by decide) ?_
      rw [eT]
      exact ⟨b6, rfl, N, K0, E_b6, F_value_b6⟩
    · refine own_via (T' := T) (g' := (mkF m 13 #[.val (.int q1)] [])) (fun t_ k_ => XS.icmpNo X.here hx rfl (hb hby own_valueOf_d10) rfl (flt hc5).2.2.1 k_) ?_
      obtain ⟨T, X, eT, st⟩ := getS2 X hx hZ hown (host := "") (Or.inl (hw _ (List.mem_of_getElem? (i := 88) rfl))) Via.refl eT (S_cache.ext O.2) (g := (mkF m 13 #[.val (.int q1)] [])) rfl (hb hby own_valueOf_d13)
      refine own_via (g' := (mkF m 16 #[.val (.int q1)] [(.ref wCA)])) st ?_
      refine own_via (T' := T) (g' := (mkF m 17 #[.val (.int q1)] [(.int q1), (.ref wCA)])) (fun t_ k_ => XS.iloadN X.here hx rfl (hb hby own_valueOf_d16) rfl k_) ?_
      refine own_via (T' := T) (g' := (mkF m 20 #[.val (.int q1)] [(.int (128 : Int32)), (.int q1), (.ref wCA)])) (fun t_ k_ => XS.sipush X.here hx rfl (hb hby own_valueOf_d17) k_) ?_
      refine own_via (T' := T) (g' := (mkF m 21 #[.val (.int q1)] [(.int (q1 + (128 : Int32))), (.ref wCA)])) (fun t_ k_ => XS.iadd X.here hx rfl (hb hby own_valueOf_d20) rfl k_) ?_
      have hix := own_boxIdx hc1 hc5
      have hin := inb_of BX.2.1 hix
      obtain ⟨ibx, hat, E_ibx, F_value_ibx⟩ := BX.2.2.2 _ hin
      have F_value_ibx' : Fld Z Z.heap ibx "java/lang/Integer" "value" "I" (.int q1) := by rw [← own_boxVal q1]; exact F_value_ibx
      have Ar := (BX.1).ext O.2
      refine own_via (T' := T) (g' := (mkF m 22 #[.val (.int q1)] [(.ref ibx)])) (fun t_ k_ => X.aaload hx (j := (q1 + (128 : Int32))) (v := .ref ibx) (by rw [eT]; exact Ar.1) (State.isArrayOf_alike hZ.alike Ar.2.1) rfl Ar.2.2 hin hat (g := (mkF m 21 #[.val (.int q1)] [(.int (q1 + (128 : Int32))), (.ref wCA)])) rfl rfl (hb hby own_valueOf_d21) _ k_) ?_
      refine own_retW X hx hlk Bd.returns rfl (Or.inr (Or.inr (Or.inr (Or.inr ⟨rfl, rfl, rfl⟩)))) (hb hby own_valueOf_d22) (by decide) (by decide) ?_
      rw [eT]
      exact ⟨ibx, rfl, N, K0, E_ibx.ext O.2, F_value_ibx'.ext O.2⟩
theorem own_intValue_d0 : decode jdk_33_method_27_code 0 = .ok (.aload_n 0, 1) := by decide +kernel
theorem own_intValue_d1 : decode jdk_33_method_27_code 1 = .ok (.getfield 205, 3) := by decide +kernel
theorem own_intValue_d4 : decode jdk_33_method_27_code 4 = .ok (.ireturn, 1) := by decide +kernel
theorem own_intValue_pn : plainFor (⟨"java/lang/Integer", "intValue", "()I"⟩ : MethodName) = true := by first | exact plainFor_of_name (by first | (simp [plainName, overriddenIn]; done) | decide +kernel) | decide +kernel
theorem own_intValue_ef (m : MethodId) (x0 : Addr) : entryFrame m #[(.ref x0)] 1 = mkF m 0 #[.val (.ref x0)] [] := by first | (simp [entryFrame, mkF, argsToLocals, Value.category]; done) | rfl
def own_intValue_Q (Z : State) (a1 : Addr) (q1 : Int32) (h0 : Heap) (n0 : Nat) (v : Option Value) (h : Heap) (L : List Loc) : Prop := v = some (.int q1) ∧ Fr n0 L ∧ h = h0
set_option maxRecDepth 65536 in
set_option maxHeartbeats 40000000 in
theorem own_intValue (l : Launch) (Z : State) (a0 : Array Value) (hw : ∀ d ∈ tables_1, d.before a0 Z = true) (ws : List Jvm.Cond) (a1 : Addr) (q1 : Int32) (h0 : Heap) (n0 : Nat) (O : Old Z n0 h0) (F_value_a1 : Fld Z h0 a1 "java/lang/Integer" "value" "I" (.int q1)) :
    MetFree l (⟨"java/lang/Integer", "intValue", "()I"⟩ : MethodName) (head1 (Jvm.Cond.code (⟨"java/lang/Integer", "intValue", "()I"⟩ : MethodName) jdk_33_method_27_code 1 (some .int) :: ws) ({ frames := 0, cells := 0, slots := 0, locals := 0 } : Room)) (fun a U => a = #[(.ref a1)] ∧ Z.Warmed39 U.vm ∧ U.heap = h0) (fun _ _ _ _ _ => True) (fun _ U o U' => ∃ v L, o = .returned v ∧ own_intValue_Q Z a1 q1 h0 n0 v U'.heap L ∧ FrameEnd U o U' L ({ frames := 0, cells := 0, slots := 0, locals := 0 } : Room).cells ({ frames := 0, cells := 0, slots := 0, locals := 0 } : Room).slots) := by
  refine MetFree.of_bodySF own_intValue_pn hisR ?_
  intro p e s m args below meth c s₁ Bd hml0 hP hK
  obtain ⟨rfl, hZ, hh⟩ := hP
  have hx := Bd.exec
  have hby := Bd.bytes
  have hlk := Bd.notSynchronized
  have hml : c.maxLocals = 1 := hml0
  have hown : s.vm.findClass "java/lang/Integer" = some m.cls := findClass_of_methodNamed Bd.named
  have hnm := (name_of_methodNamed Bd.named Bd.method).1
  have X : Stand p l e ({ frames := 0, cells := 0, slots := 0, locals := 0 } : Room) s m #[(.ref a1)] below meth c s₁ [] 0 0 := Stand.of_body Bd
  have eT : s₁.heap = h0 := by rw [← hh, Bd.state]; rfl
  have N := Fr.nil n0
  have K0 := Keep.refl h0 []
  show own_Ends p e below (own_Post s below (own_intValue_Q Z a1 q1 h0 n0) ({ frames := 0, cells := 0, slots := 0, locals := 0 } : Room).cells ({ frames := 0, cells := 0, slots := 0, locals := 0 } : Room).slots) s₁ (entryFrame m #[(.ref a1)] 1)
  rw [own_intValue_ef m a1]
  obtain ⟨T, hT⟩ : ∃ z, z = s₁ := ⟨_, rfl⟩
  rw [← hT] at X eT ⊢
  obtain ⟨h, hh0⟩ : ∃ z, z = h0 := ⟨_, rfl⟩
  rw [← hh0] at eT
  replace O : Old Z n0 h := by rw [hh0]; exact O
  replace K0 : Keep h0 h [] := by rw [hh0]; exact K0
  rw [← hh0] at F_value_a1
  refine own_via (T' := T) (g' := (mkF m 1 #[.val (.ref a1)] [(.ref a1)])) (fun t_ k_ => XS.aloadN X.here hx rfl (hb hby own_intValue_d0) rfl rfl k_) ?_
  obtain ⟨T, X, eT, st⟩ := getF X hx hZ hown (host := "") (Or.inl (hw _ (List.mem_of_getElem? (i := 105) rfl))) Via.refl eT F_value_a1 (g := (mkF m 1 #[.val (.ref a1)] [(.ref a1)])) rfl rfl (hb hby own_intValue_d1)
  refine own_via (g' := (mkF m 4 #[.val (.ref a1)] [(.int q1)])) st ?_
  refine own_retW X hx hlk Bd.returns rfl (Or.inl ⟨rfl, Or.inl rfl, _, rfl⟩) (hb hby own_intValue_d4) (by decide) (by decide) ?_
  rw [eT]
  exact ⟨rfl, N, hh0⟩
theorem own_status_d0 : decode prog_28_method_16_code 0 = .ok (.aload_n 0, 1) := by decide +kernel
theorem own_status_d1 : decode prog_28_method_16_code 1 = .ok (.getfield 25, 3) := by decide +kernel
theorem own_status_d4 : decode prog_28_method_16_code 4 = .ok (.ireturn, 1) := by decide +kernel
theorem own_status_pn : plainFor (⟨"com/example/wise_crawler/wisecrawler/fetch/Exchange", "status", "()I"⟩ : MethodName) = true := by first | exact plainFor_of_name (by first | (simp [plainName, overriddenIn]; done) | decide +kernel) | decide +kernel
theorem own_status_ef (m : MethodId) (x0 : Addr) : entryFrame m #[(.ref x0)] 1 = mkF m 0 #[.val (.ref x0)] [] := by first | (simp [entryFrame, mkF, argsToLocals, Value.category]; done) | rfl
def own_status_Q (Z : State) (x1 : Addr) (s1 : Int32) (h0 : Heap) (n0 : Nat) (v : Option Value) (h : Heap) (L : List Loc) : Prop := v = some (.int s1) ∧ Fr n0 L ∧ h = h0
set_option maxRecDepth 65536 in
set_option maxHeartbeats 40000000 in
theorem own_status (l : Launch) (Z : State) (a0 : Array Value) (hw : ∀ d ∈ tables_1, d.before a0 Z = true) (ws : List Jvm.Cond) (x1 : Addr) (s1 : Int32) (h0 : Heap) (n0 : Nat) (O : Old Z n0 h0) (F_status_x1 : Fld Z h0 x1 "com/example/wise_crawler/wisecrawler/fetch/Exchange" "status" "I" (.int s1)) :
    MetFree l (⟨"com/example/wise_crawler/wisecrawler/fetch/Exchange", "status", "()I"⟩ : MethodName) (head1 (Jvm.Cond.code (⟨"com/example/wise_crawler/wisecrawler/fetch/Exchange", "status", "()I"⟩ : MethodName) prog_28_method_16_code 1 (some .int) :: ws) ({ frames := 0, cells := 0, slots := 0, locals := 0 } : Room)) (fun a U => a = #[(.ref x1)] ∧ Z.Warmed39 U.vm ∧ U.heap = h0) (fun _ _ _ _ _ => True) (fun _ U o U' => ∃ v L, o = .returned v ∧ own_status_Q Z x1 s1 h0 n0 v U'.heap L ∧ FrameEnd U o U' L ({ frames := 0, cells := 0, slots := 0, locals := 0 } : Room).cells ({ frames := 0, cells := 0, slots := 0, locals := 0 } : Room).slots) := by
  refine MetFree.of_bodySF own_status_pn hisR ?_
  intro p e s m args below meth c s₁ Bd hml0 hP hK
  obtain ⟨rfl, hZ, hh⟩ := hP
  have hx := Bd.exec
  have hby := Bd.bytes
  have hlk := Bd.notSynchronized
  have hml : c.maxLocals = 1 := hml0
  have hown : s.vm.findClass "com/example/wise_crawler/wisecrawler/fetch/Exchange" = some m.cls := findClass_of_methodNamed Bd.named
  have hnm := (name_of_methodNamed Bd.named Bd.method).1
  have X : Stand p l e ({ frames := 0, cells := 0, slots := 0, locals := 0 } : Room) s m #[(.ref x1)] below meth c s₁ [] 0 0 := Stand.of_body Bd
  have eT : s₁.heap = h0 := by rw [← hh, Bd.state]; rfl
  have N := Fr.nil n0
  have K0 := Keep.refl h0 []
  show own_Ends p e below (own_Post s below (own_status_Q Z x1 s1 h0 n0) ({ frames := 0, cells := 0, slots := 0, locals := 0 } : Room).cells ({ frames := 0, cells := 0, slots := 0, locals := 0 } : Room).slots) s₁ (entryFrame m #[(.ref x1)] 1)
  rw [own_status_ef m x1]
  obtain ⟨T, hT⟩ : ∃ z, z = s₁ := ⟨_, rfl⟩
  rw [← hT] at X eT ⊢
  obtain ⟨h, hh0⟩ : ∃ z, z = h0 := ⟨_, rfl⟩
  rw [← hh0] at eT
  replace O : Old Z n0 h := by rw [hh0]; exact O
  replace K0 : Keep h0 h [] := by rw [hh0]; exact K0
  rw [← hh0] at F_status_x1
  refine own_via (T' := T) (g' := (mkF m 1 #[.val (.ref x1)] [(.ref x1)])) (fun t_ k_ => XS.aloadN X.here hx rfl (hb hby own_status_d0) rfl rfl k_) ?_
  obtain ⟨T, X, eT, st⟩ := getF X hx hZ hown (host := "") (Or.inl (hw _ (List.mem_of_getElem? (i := 22) rfl))) Via.refl eT F_status_x1 (g := (mkF m 1 #[.val (.ref x1)] [(.ref x1)])) rfl rfl (hb hby own_status_d1)
  refine own_via (g' := (mkF m 4 #[.val (.ref x1)] [(.int s1)])) st ?_
  refine own_retW X hx hlk Bd.returns rfl (Or.inl ⟨rfl, Or.inl rfl, _, rfl⟩) (hb hby own_status_d4) (by decide) (by decide) ?_
  rw [eT]
  exact ⟨rfl, N, hh0⟩
def own_applyQ (Z : State) (n0 : Nat) (h : Heap) (s1 : Int32) (v : Option Value) (h' : Heap) (L : List Loc) : Prop := ∃ r, v = some (.ref r) ∧ Fr n0 L ∧ Keep h h' [] ∧ Exa Z h' r "java/lang/Integer" ∧ Fld Z h' r "java/lang/Integer" "value" "I" (.int s1)
set_option maxRecDepth 65536 in
set_option maxHeartbeats 40000000 in
theorem own_apply (l : Launch) (Z : State) (a0 : Array Value) (hw : ∀ d ∈ tables_1, d.before a0 Z = true) (aF x1 : Addr) (s1 : Int32) (wCA : Addr) (clCA : Cell) (cK : ClassId) (h : Heap) (n0 : Nat) (O : Old Z n0 h) (LM : own_Lam Z (⟨"com/example/wise_crawler/wisecrawler/crawl/Answer", "status", "()I"⟩ : MethodName) 4 own_shape aF cK) (S_high : Sta Z Z.heap "java/lang/Integer$IntegerCache" "high" "I" (.int 127)) (S_cache : Sta Z Z.heap "java/lang/Integer$IntegerCache" "cache" "[Ljava/lang/Integer;" (.ref wCA)) (BX : Bxs Z wCA clCA "java/lang/Integer" "I" 256 (fun j => .int (j - 128))) (E_x1 : Exa Z h x1 "com/example/wise_crawler/wisecrawler/fetch/Exchange") (F_st : Fld Z h x1 "com/example/wise_crawler/wisecrawler/fetch/Exchange" "status" "I" (.int s1))
    {p : Program} {R : Room} {e : Env} {below : List Frame} {s : State} {args : Array Value} {W : Nat} (hx : p.tables.exec = Jvm.exec) (hZ : Z.Warmed39 s.vm) (hf : ({ frames := 4, cells := 1, slots := 1, locals := 50 } : Room).frames + 1 ≤ R.frames) (hl : W + (2 + 11) + ({ frames := 4, cells := 1, slots := 1, locals := 50 } : Room).locals ≤ R.locals) :
    BackW l R p e below s args (fun _ mk => mk = ⟨cK, 1⟩) 5 W (fun A a => a = #[.ref aF, .ref x1] ∧ A.U.heap = h ∧ A.cells + ({ frames := 4, cells := 1, slots := 1, locals := 50 } : Room).cells ≤ R.cells ∧ A.slots + ({ frames := 4, cells := 1, slots := 1, locals := 50 } : Room).slots ≤ R.slots)
      (fun A _ v B => ∃ L, own_applyQ Z n0 h s1 v B.U.heap L ∧ B.locs = A.locs ++ L ∧ B.cells = A.cells + ({ frames := 4, cells := 1, slots := 1, locals := 50 } : Room).cells ∧ B.slots = A.slots + ({ frames := 4, cells := 1, slots := 1, locals := 50 } : Room).slots) := by
  intro m meth c A g ig mk a X hg hsize hdg hW hwho ⟨ha, hh, hc, hs⟩
  subst hwho ha
  obtain ⟨-, ⟨d, dk, hd, hdn, hmade, -⟩, -⟩ := LM
  obtain ⟨k, tk, file, methk, ck, toy, t, nt, hk, hpn, hfile, hidx, hnt, hmk, hck, hby, hmlk, hlk, -, hret, htoy, htk, hlook, hmr, hcr⟩ := Jvm.LamKit.made_static own_fok hd hdn hmade
  have hU : Z.Warmed39 A.U.vm := wtrans hZ X.warmed
  obtain ⟨t0, ht0⟩ := Cond.code_named (hw _ (List.mem_of_getElem? (i := 82) rfl))
  have htt : t = t0 := own_targetIs ht0 (by decide) ⟨rfl, rfl, (by decide +kernel)⟩ htoy htk hlook
  subst htt
  obtain ⟨tv, htv⟩ := Cond.code_named (hw _ (List.mem_of_getElem? (i := 85) rfl))
  obtain ⟨kv, v1, v2, v3⟩ := own_looked htv (by decide)
  obtain ⟨k2, file2, hk2, hfile2, hidx2, hnt2, hmr2, hcr2⟩ := own_made2 own_fok2 hd hdn hmade v1 v2 v3
  obtain ⟨k', hk', ek'⟩ := hU.alike.2.2 _ _ hk
  obtain ⟨v, T', L, X', hQ, hst⟩ := own_enter X hg hsize hdg #[.ref aF, .ref x1] (R' := ({ frames := 4, cells := 1, slots := 1, locals := 50 } : Room)) (by rw [hU.alike.method?]; exact hmk) hck hlk (State.plainMethod.of_name fun kk hkk => by cases hk'.symm.trans hkk; rw [ek']; exact hpn) hf (by rw [hmlk]; omega) hc hs (Q := own_applyQ Z n0 h s1) (fun s' U e1 e2 Y => by
    have hZ' : Z.Warmed39 s'.vm := by rw [e1]; exact hU
    have eT : U.heap = h := e2.trans hh
    rw [hmlk, own_fef]
    refine own_via (T' := U) (g' := (mkF ⟨cK, 1⟩ 1 #[.val (.ref aF), .val (.ref x1)] [(.ref x1)])) (fun t_ k_ => XS.aloadN Y.here hx rfl (hb hby own_f0) rfl rfl k_) ?_
    refine own_via (T' := U) (g' := (mkF ⟨cK, 1⟩ 4 #[.val (.ref aF), .val (.ref x1)] [(.ref x1)])) (own_castReady Y hx hZ' hcr htoy eT E_x1 (g := (mkF ⟨cK, 1⟩ 1 #[.val (.ref aF), .val (.ref x1)] [(.ref x1)])) rfl rfl (hb hby own_f1)) ?_
    obtain ⟨_, ⟨T, Lq, kq, nq⟩, X, ⟨Lc, hQ, lq, yq, zq⟩, st⟩ := own_virtReady Y hx hZ' (y := (⟨"com/example/wise_crawler/wisecrawler/fetch/Exchange", "status", "()I"⟩ : MethodName)) (C := "com/example/wise_crawler/wisecrawler/fetch/Exchange") hk hfile hidx hmr hcr ht0 htoy (hw _ (List.mem_of_getElem? (i := 79) rfl)) (hw _ (List.mem_of_getElem? (i := 80) rfl)) (hw _ (List.mem_of_getElem? (i := 81) rfl)) (by decide) (backOf (W := 0) (own_status l Z a0 hw [] x1 s1 h n0 O F_st) hZ' (hw _ (List.mem_of_getElem? (i := 82) rfl)) (hw _ (List.mem_of_getElem? (i := 2) rfl)) (by decide) (by decide)) eT E_x1 (g := (mkF ⟨cK, 1⟩ 4 #[.val (.ref aF), .val (.ref x1)] [(.ref x1)])) rfl (by rw [hmlk]; rfl) (argsL := []) (rest := []) (lenOf own_pd4 rfl) rfl (by show 2 * 0 + _ ≤ _; exact Nat.le_of_eq rfl) (hb hby own_f4) ⟨rfl, eT, (by decide : 0 + 0 ≤ _), (by decide : 0 + 0 ≤ _)⟩
    dsimp only [Pt.U, Pt.locs, Pt.cells, Pt.slots] at X lq yq zq st hQ
    subst lq yq zq
    obtain ⟨rfl, Nq, eT2⟩ := hQ
    refine own_viaT (g' := (mkF ⟨cK, 1⟩ 7 #[.val (.ref aF), .val (.ref x1)] [(.int s1)])) st ?_
    obtain ⟨_, ⟨T, Lq, kq, nq⟩, X, ⟨Lc2, hQ, lq, yq, zq⟩, st⟩ := own_statReady X hx hZ' (y := (⟨"java/lang/Integer", "valueOf", "(I)Ljava/lang/Integer;"⟩ : MethodName)) hk2 hfile2 hidx2 hnt2 hmr2 hcr2 htv (hw _ (List.mem_of_getElem? (i := 85) rfl)) (hw _ (List.mem_of_getElem? (i := 83) rfl)) (hw _ (List.mem_of_getElem? (i := 84) rfl)) (by decide) (backOf (W := 0) (own_valueOf l Z a0 hw [] s1 wCA clCA h n0 O S_high S_cache BX) hZ' (hw _ (List.mem_of_getElem? (i := 85) rfl)) (hw _ (List.mem_of_getElem? (i := 84) rfl)) (by decide) (by decide)) (g := (mkF ⟨cK, 1⟩ 7 #[.val (.ref aF), .val (.ref x1)] [(.int s1)])) rfl (by rw [hmlk]; rfl) (argsL := [(.int s1)]) (rest := []) (lenOf own_pd5 rfl) rfl (by show 2 * 0 + _ ≤ _; exact Nat.le_of_eq rfl) (hb hby own_f7) ⟨rfl, eT2, (by decide : 0 + _ ≤ _), (by decide : 0 + _ ≤ _)⟩
    dsimp only [Pt.U, Pt.locs, Pt.cells, Pt.slots] at X lq yq zq st hQ
    subst lq yq zq
    obtain ⟨r, rfl, Nq2, Kq, E_r, F_r⟩ := hQ
    refine own_viaT (g' := (mkF ⟨cK, 1⟩ 10 #[.val (.ref aF), .val (.ref x1)] [(.ref r)])) st ?_
    refine own_retW X hx hlk hret rfl (Or.inr (Or.inr (Or.inr (Or.inr ⟨rfl, rfl, rfl⟩)))) (hb hby own_f10) (by decide) (by decide) ?_
    exact ⟨r, rfl, ((Fr.nil n0).app Nq).app Nq2, Kq, E_r, F_r⟩)
  exact ⟨v, ⟨T', A.locs ++ L, _, _⟩, X', ⟨L, hQ, rfl, rfl, rfl⟩, hst []⟩
theorem own_ofNul_d0 : decode jdk_32_method_4_code 0 = .ok (.aload_n 0, 1) := by decide +kernel
theorem own_ofNul_d1 : decode jdk_32_method_4_code 1 = .ok (.ifnonnull 9, 3) := by decide +kernel
theorem own_ofNul_d10 : decode jdk_32_method_4_code 10 = .ok (.new 2, 3) := by decide +kernel
theorem own_ofNul_d13 : decode jdk_32_method_4_code 13 = .ok (.dup, 1) := by decide +kernel
theorem own_ofNul_d14 : decode jdk_32_method_4_code 14 = .ok (.aload_n 0, 1) := by decide +kernel
theorem own_ofNul_d15 : decode jdk_32_method_4_code 15 = .ok (.invokespecial 23, 3) := by decide +kernel
theorem own_ofNul_d18 : decode jdk_32_method_4_code 18 = .ok (.areturn, 1) := by decide +kernel
theorem own_ofNul_pn : plainFor (⟨"java/util/Optional", "ofNullable", "(Ljava/lang/Object;)Ljava/util/Optional;"⟩ : MethodName) = true := by first | exact plainFor_of_name (by first | (simp [plainName, overriddenIn]; done) | decide +kernel) | decide +kernel
theorem own_ofNul_ef (m : MethodId) (x0 : Addr) : entryFrame m #[(.ref x0)] 1 = mkF m 0 #[.val (.ref x0)] [] := by first | (simp [entryFrame, mkF, argsToLocals, Value.category]; done) | rfl
def own_ofNul_Q (Z : State) (v1 : Addr) (h0 : Heap) (n0 : Nat) (v : Option Value) (h : Heap) (L : List Loc) : Prop := ∃ r, v = some (.ref r) ∧ Fr n0 L ∧ Keep h0 h [] ∧ h0.size ≤ r ∧ Exa Z h r "java/util/Optional" ∧ Fld Z h r "java/util/Optional" "value" "Ljava/lang/Object;" (.ref v1)
set_option maxRecDepth 65536 in
set_option maxHeartbeats 40000000 in
theorem own_ofNul (l : Launch) (Z : State) (a0 : Array Value) (hw : ∀ d ∈ tables_1, d.before a0 Z = true) (ws : List Jvm.Cond) (v1 : Addr) (h0 : Heap) (n0 : Nat) (O : Old Z n0 h0)  :
    MetFree l (⟨"java/util/Optional", "ofNullable", "(Ljava/lang/Object;)Ljava/util/Optional;"⟩ : MethodName) (head1 (Jvm.Cond.code (⟨"java/util/Optional", "ofNullable", "(Ljava/lang/Object;)Ljava/util/Optional;"⟩ : MethodName) jdk_32_method_4_code 1 (some (.object "java/util/Optional")) :: ws) ({ frames := 2, cells := 1, slots := 1, locals := 26 } : Room)) (fun a U => a = #[(.ref v1)] ∧ Z.Warmed39 U.vm ∧ U.heap = h0) (fun _ _ _ _ _ => True) (fun _ U o U' => ∃ v L, o = .returned v ∧ own_ofNul_Q Z v1 h0 n0 v U'.heap L ∧ FrameEnd U o U' L ({ frames := 2, cells := 1, slots := 1, locals := 26 } : Room).cells ({ frames := 2, cells := 1, slots := 1, locals := 26 } : Room).slots) := by
  refine MetFree.of_bodySF own_ofNul_pn hisR ?_
  intro p e s m args below meth c s₁ Bd hml0 hP hK
  obtain ⟨rfl, hZ, hh⟩ := hP
  have hx := Bd.exec
  have hby := Bd.bytes
  have hlk := Bd.notSynchronized
  have hml : c.maxLocals = 1 := hml0
  have hown : s.vm.findClass "java/util/Optional" = some m.cls := findClass_of_methodNamed Bd.named
  have hnm := (name_of_methodNamed Bd.named Bd.method).1
  have X : Stand p l e ({ frames := 2, cells := 1, slots := 1, locals := 26 } : Room) s m #[(.ref v1)] below meth c s₁ [] 0 0 := Stand.of_body Bd
  have eT : s₁.heap = h0 := by rw [← hh, Bd.state]; rfl
  have N := Fr.nil n0
  have K0 := Keep.refl h0 []
  show own_Ends p e below (own_Post s below (own_ofNul_Q Z v1 h0 n0) ({ frames := 2, cells := 1, slots := 1, locals := 26 } : Room).cells ({ frames := 2, cells := 1, slots := 1, locals := 26 } : Room).slots) s₁ (entryFrame m #[(.ref v1)] 1)
  rw [own_ofNul_ef m v1]
  obtain ⟨T, hT⟩ : ∃ z, z = s₁ := ⟨_, rfl⟩
  rw [← hT] at X eT ⊢
  obtain ⟨h, hh0⟩ : ∃ z, z = h0 := ⟨_, rfl⟩
  rw [← hh0] at eT
  replace O : Old Z n0 h := by rw [hh0]; exact O
  replace K0 : Keep h0 h [] := by rw [hh0]; exact K0
  refine own_via (T' := T) (g' := (mkF m 1 #[.val (.ref v1)] [(.ref v1)])) (fun t_ k_ => XS.aloadN X.here hx rfl (hb hby own_ofNul_d0) rfl rfl k_) ?_
  refine own_via (T' := T) (g' := (mkF m 10 #[.val (.ref v1)] [])) (fun t_ k_ => XS.ifnonnullYes X.here hx rfl (pc0 := 1) (pc' := 10) rfl (hb hby own_ofNul_d1) rfl (by decide) (by decide) k_) ?_
  obtain ⟨b1, gb⟩ : ∃ z, z = h.size := ⟨_, rfl⟩
  obtain ⟨T, h2, X, eT, E, E_b1, Dq, -, st⟩ := newO X hx hZ hown (hw _ (List.mem_of_getElem? (i := 37) rfl)) (hw _ (List.mem_of_getElem? (i := 38) rfl)) (hw _ (List.mem_of_getElem? (i := 35) rfl)) eT (g := (mkF m 10 #[.val (.ref v1)] [])) rfl (hb hby own_ofNul_d10) (by decide) (by decide)
  rw [← gb] at E_b1 Dq st
  have g_b1 : n0 ≤ b1 := Nat.le_trans (own_le O) (Nat.le_of_eq gb.symm)
  have sz_b1 : h0.size ≤ b1 := Nat.le_trans K0.1 (Nat.le_of_eq gb.symm)
  replace O := O.ext E
  replace K0 := K0.ext E
  have F_value_b1 : Fld Z h2 b1 "java/util/Optional" "value" "Ljava/lang/Object;" .null := Dq (Or.inr (hw _ (List.mem_of_getElem? (i := 49) rfl))) (ty := (.object "java/lang/Object")) (by decide)
  refine own_via (g' := (mkF m 13 #[.val (.ref v1)] [(.ref b1)])) st ?_
  refine own_via (T' := T) (g' := (mkF m 14 #[.val (.ref v1)] [(.ref b1), (.ref b1)])) (fun t_ k_ => XS.dup X.here hx rfl (hb hby own_ofNul_d13) rfl rfl k_) ?_
  refine own_via (T' := T) (g' := (mkF m 15 #[.val (.ref v1)] [(.ref v1), (.ref b1), (.ref b1)])) (fun t_ k_ => XS.aloadN X.here hx rfl (hb hby own_ofNul_d14) rfl rfl k_) ?_
  obtain ⟨_, _, ⟨T, Lq, kq, nq⟩, -, X, ⟨Lc, hQ, lq, yq, zq⟩, st⟩ := X.specialBack hx (y := (⟨"java/util/Optional", "<init>", "(Ljava/lang/Object;)V"⟩ : MethodName)) rfl hown (mvT hZ (hw _ (List.mem_of_getElem? (i := 43) rfl))) (mvT hZ (hw _ (List.mem_of_getElem? (i := 44) rfl))) (mvT hZ (hw _ (List.mem_of_getElem? (i := 46) rfl))) (by decide) (backOf (W := 1) (own_optinit l Z a0 hw [] b1 v1 h2 n0 O E_b1 F_value_b1 g_b1) hZ (hw _ (List.mem_of_getElem? (i := 46) rfl)) (hw _ (List.mem_of_getElem? (i := 35) rfl)) (by decide) (by decide)) (g := (mkF m 15 #[.val (.ref v1)] [(.ref v1), (.ref b1), (.ref b1)])) rfl (by rw [hml]; rfl) (Steps.refl _) (a := b1) (argsL := [(.ref v1)]) (rest := [(.ref b1)]) (lenOf own_pd2 rfl) rfl (by show 2 * 0 + _ ≤ _; exact Nat.le_of_eq rfl) (hb hby own_ofNul_d15) (fun _ _ => ⟨rfl, eT, (by decide : 1 + 0 ≤ _), (by decide : 1 + 0 ≤ _)⟩)
  dsimp only [Pt.U, Pt.locs, Pt.cells, Pt.slots] at X lq yq zq st hQ
  subst lq yq zq
  obtain ⟨rfl, Nq, Kq, E_b1, F_value_b1⟩ := hQ
  replace N := Fr.app N Nq
  obtain ⟨h3, eT⟩ : ∃ z, T.heap = z := ⟨_, rfl⟩
  rw [eT] at Kq E_b1 F_value_b1
  replace O := O.keep Kq (allS g_b1 all0)
  replace K0 := K0.trans Kq (allS (Or.inr sz_b1) all0)
  refine own_viaT (g' := (mkF m 18 #[.val (.ref v1)] [(.ref b1)])) st ?_
  refine own_retW X hx hlk Bd.returns rfl (Or.inr (Or.inr (Or.inr (Or.inr ⟨rfl, rfl, rfl⟩)))) (hb hby own_ofNul_d18) (by decide) (by decide) ?_
  rw [eT]
  exact ⟨b1, rfl, N, K0, sz_b1, E_b1, F_value_b1⟩
theorem own_mapN_d0 : decode jdk_32_method_11_code 0 = .ok (.aload_n 1, 1) := by decide +kernel
theorem own_mapN_d1 : decode jdk_32_method_11_code 1 = .ok (.invokestatic 17, 3) := by decide +kernel
theorem own_mapN_d4 : decode jdk_32_method_11_code 4 = .ok (.pop, 1) := by decide +kernel
theorem own_mapN_d5 : decode jdk_32_method_11_code 5 = .ok (.aload_n 0, 1) := by decide +kernel
theorem own_mapN_d6 : decode jdk_32_method_11_code 6 = .ok (.invokevirtual 43, 3) := by decide +kernel
theorem own_mapN_d9 : decode jdk_32_method_11_code 9 = .ok (.ifCond .eq 7, 3) := by decide +kernel
theorem own_mapN_d12 : decode jdk_32_method_11_code 12 = .ok (.invokestatic 53, 3) := by decide +kernel
theorem own_mapN_d15 : decode jdk_32_method_11_code 15 = .ok (.areturn, 1) := by decide +kernel
theorem own_mapN_pn : plainFor (⟨"java/util/Optional", "map", "(Ljava/util/function/Function;)Ljava/util/Optional;"⟩ : MethodName) = true := by first | exact plainFor_of_name (by first | (simp [plainName, overriddenIn]; done) | decide +kernel) | decide +kernel
theorem own_mapN_ef (m : MethodId) (x0 : Addr) (x1 : Addr) : entryFrame m #[(.ref x0), (.ref x1)] 2 = mkF m 0 #[.val (.ref x0), .val (.ref x1)] [] := by first | (simp [entryFrame, mkF, argsToLocals, Value.category]; done) | rfl
def own_mapN_Q (Z : State) (a1 : Addr) (aF : Addr) (cK : ClassId) (wEMPTY : Addr) (h0 : Heap) (n0 : Nat) (v : Option Value) (h : Heap) (L : List Loc) : Prop := v = some (.ref wEMPTY) ∧ Fr n0 L ∧ h = h0
set_option maxRecDepth 65536 in
set_option maxHeartbeats 40000000 in
theorem own_mapN (l : Launch) (Z : State) (a0 : Array Value) (hw : ∀ d ∈ tables_1, d.before a0 Z = true) (ws : List Jvm.Cond) (a1 : Addr) (aF : Addr) (cK : ClassId) (wEMPTY : Addr) (h0 : Heap) (n0 : Nat) (O : Old Z n0 h0) (LM : own_Lam Z (⟨"com/example/wise_crawler/wisecrawler/crawl/Answer", "status", "()I"⟩ : MethodName) 4 own_shape aF cK) (S_EMPTY : Sta Z Z.heap "java/util/Optional" "EMPTY" "Ljava/util/Optional;" (.ref wEMPTY)) (E_a1 : Exa Z h0 a1 "java/util/Optional") (F_value_a1 : Fld Z h0 a1 "java/util/Optional" "value" "Ljava/lang/Object;" .null) :
    MetFree l (⟨"java/util/Optional", "map", "(Ljava/util/function/Function;)Ljava/util/Optional;"⟩ : MethodName) (head1 (Jvm.Cond.code (⟨"java/util/Optional", "map", "(Ljava/util/function/Function;)Ljava/util/Optional;"⟩ : MethodName) jdk_32_method_11_code 2 (some (.object "java/util/Optional")) :: ws) ({ frames := 1, cells := 0, slots := 0, locals := 12 } : Room)) (fun a U => a = #[(.ref a1), (.ref aF)] ∧ Z.Warmed39 U.vm ∧ U.heap = h0) (fun _ _ _ _ _ => True) (fun _ U o U' => ∃ v L, o = .returned v ∧ own_mapN_Q Z a1 aF cK wEMPTY h0 n0 v U'.heap L ∧ FrameEnd U o U' L ({ frames := 1, cells := 0, slots := 0, locals := 12 } : Room).cells ({ frames := 1, cells := 0, slots := 0, locals := 12 } : Room).slots) := by
  refine MetFree.of_bodySF own_mapN_pn hisR ?_
  intro p e s m args below meth c s₁ Bd hml0 hP hK
  obtain ⟨rfl, hZ, hh⟩ := hP
  have hx := Bd.exec
  have hby := Bd.bytes
  have hlk := Bd.notSynchronized
  have hml : c.maxLocals = 2 := hml0
  have hown : s.vm.findClass "java/util/Optional" = some m.cls := findClass_of_methodNamed Bd.named
  have hnm := (name_of_methodNamed Bd.named Bd.method).1
  have X : Stand p l e ({ frames := 1, cells := 0, slots := 0, locals := 12 } : Room) s m #[(.ref a1), (.ref aF)] below meth c s₁ [] 0 0 := Stand.of_body Bd
  have eT : s₁.heap = h0 := by rw [← hh, Bd.state]; rfl
  have N := Fr.nil n0
  have K0 := Keep.refl h0 []
  show own_Ends p e below (own_Post s below (own_mapN_Q Z a1 aF cK wEMPTY h0 n0) ({ frames := 1, cells := 0, slots := 0, locals := 12 } : Room).cells ({ frames := 1, cells := 0, slots := 0, locals := 12 } : Room).slots) s₁ (entryFrame m #[(.ref a1), (.ref aF)] 2)
  rw [own_mapN_ef m a1 aF]
  obtain ⟨T, hT⟩ : ∃ z, z = s₁ := ⟨_, rfl⟩
  rw [← hT] at X eT ⊢
  obtain ⟨h, hh0⟩ : ∃ z, z = h0 := ⟨_, rfl⟩
  rw [← hh0] at eT
  replace O : Old Z n0 h := by rw [hh0]; exact O
  replace K0 : Keep h0 h [] := by rw [hh0]; exact K0
  rw [← hh0] at E_a1
  rw [← hh0] at F_value_a1
  refine own_via (T' := T) (g' := (mkF m 1 #[.val (.ref a1), .val (.ref aF)] [(.ref aF)])) (fun t_ k_ => XS.aloadN X.here hx rfl (hb hby own_mapN_d0) rfl rfl k_) ?_
  obtain ⟨_, _, ⟨T, Lq, kq, nq⟩, -, X, ⟨Lc, hQ, lq, yq, zq⟩, st⟩ := Jvm.LawKit.callS X hx (y := (⟨"java/util/Objects", "requireNonNull", "(Ljava/lang/Object;)Ljava/lang/Object;"⟩ : MethodName)) hown (mvT hZ (hw _ (List.mem_of_getElem? (i := 39) rfl))) (mvT hZ (hw _ (List.mem_of_getElem? (i := 40) rfl))) (mvT hZ (hw _ (List.mem_of_getElem? (i := 41) rfl))) (mvT hZ (hw _ (List.mem_of_getElem? (i := 42) rfl))) (by decide) (backOf (W := 0) (own_rnn l Z a0 hw [] aF h n0 O ) hZ (hw _ (List.mem_of_getElem? (i := 42) rfl)) (hw _ (List.mem_of_getElem? (i := 41) rfl)) (by decide) (by decide)) (g := (mkF m 1 #[.val (.ref a1), .val (.ref aF)] [(.ref aF)])) rfl (by rw [hml]; rfl) (argsL := [(.ref aF)]) (rest := []) (lenOf own_pd1 rfl) rfl (by show 2 * 0 + _ ≤ _; exact Nat.le_of_eq rfl) (hb hby own_mapN_d1) (fun _ _ => ⟨rfl, eT, (by decide : 0 + 0 ≤ _), (by decide : 0 + 0 ≤ _)⟩)
  dsimp only [Pt.U, Pt.locs, Pt.cells, Pt.slots] at X lq yq zq st hQ
  subst lq yq zq
  obtain ⟨rfl, Nq, eT⟩ := hQ
  replace N := Fr.app N Nq
  refine own_via (g' := (mkF m 4 #[.val (.ref a1), .val (.ref aF)] [(.ref aF)])) st ?_
  refine own_via (T' := T) (g' := (mkF m 5 #[.val (.ref a1), .val (.ref aF)] [])) (fun t_ k_ => XS.pop X.here hx rfl (hb hby own_mapN_d4) rfl rfl k_) ?_
  refine own_via (T' := T) (g' := (mkF m 6 #[.val (.ref a1), .val (.ref aF)] [(.ref a1)])) (fun t_ k_ => XS.aloadN X.here hx rfl (hb hby own_mapN_d5) rfl rfl k_) ?_
  obtain ⟨cq, kq, qa, qb, qc⟩ := isOf hZ eT E_a1
  obtain ⟨_, _, ⟨T, Lq, kq, nq⟩, -, X, ⟨Lc, hQ, lq, yq, zq⟩, st⟩ := X.virtualBack hx (y := (⟨"java/util/Optional", "isEmpty", "()Z"⟩ : MethodName)) (z := (⟨"java/util/Optional", "isEmpty", "()Z"⟩ : MethodName)) hown (mvT hZ (hw _ (List.mem_of_getElem? (i := 71) rfl))) (mvT hZ (hw _ (List.mem_of_getElem? (i := 72) rfl))) (notFace_of_selects (args := #[]) (mvT hZ (hw _ (List.mem_of_getElem? (i := 74) rfl)))) (mvT hZ (hw _ (List.mem_of_getElem? (i := 74) rfl))) (mvT hZ (hw _ (List.mem_of_getElem? (i := 73) rfl))) (by decide) (backOf (W := 0) (own_isemptyN l Z a0 hw [] a1 h n0 O F_value_a1) hZ (hw _ (List.mem_of_getElem? (i := 75) rfl)) (hw _ (List.mem_of_getElem? (i := 35) rfl)) (by decide) (by decide)) qa qc (g := (mkF m 6 #[.val (.ref a1), .val (.ref aF)] [(.ref a1)])) rfl (by rw [hml]; rfl) (Steps.refl _) (argsL := []) (rest := []) (lenOf own_pd6 rfl) rfl (by show 2 * 0 + _ ≤ _; exact Nat.le_of_eq rfl) (hb hby own_mapN_d6) (fun _ _ => ⟨rfl, eT, (by decide : 0 + 0 ≤ _), (by decide : 0 + 0 ≤ _)⟩)
  dsimp only [Pt.U, Pt.locs, Pt.cells, Pt.slots] at X lq yq zq st hQ
  subst lq yq zq
  obtain ⟨rfl, Nq, eT⟩ := hQ
  replace N := Fr.app N Nq
  refine own_viaT (g' := (mkF m 9 #[.val (.ref a1), .val (.ref aF)] [(.int (1 : Int32))])) st ?_
  refine own_via (T' := T) (g' := (mkF m 12 #[.val (.ref a1), .val (.ref aF)] [])) (fun t_ k_ => XS.ifNo X.here hx rfl (hb hby own_mapN_d9) rfl ((if0 _ _).trans (feq (by decide : ¬ ((1 : Int32) = (0 : Int32)))).1) k_) ?_
  obtain ⟨_, _, ⟨T, Lq, kq, nq⟩, -, X, ⟨Lc, hQ, lq, yq, zq⟩, st⟩ := Jvm.LawKit.callS X hx (y := (⟨"java/util/Optional", "empty", "()Ljava/util/Optional;"⟩ : MethodName)) hown (mvT hZ (hw _ (List.mem_of_getElem? (i := 111) rfl))) (mvT hZ (hw _ (List.mem_of_getElem? (i := 108) rfl))) (mvT hZ (hw _ (List.mem_of_getElem? (i := 35) rfl))) (mvT hZ (hw _ (List.mem_of_getElem? (i := 109) rfl))) (by decide) (backOf (W := 0) (own_optempty l Z a0 hw [] wEMPTY h n0 O S_EMPTY) hZ (hw _ (List.mem_of_getElem? (i := 109) rfl)) (hw _ (List.mem_of_getElem? (i := 35) rfl)) (by decide) (by decide)) (g := (mkF m 12 #[.val (.ref a1), .val (.ref aF)] [])) rfl (by rw [hml]; rfl) (argsL := []) (rest := []) (lenOf own_pd7 rfl) rfl (by show 2 * 0 + _ ≤ _; exact Nat.le_of_eq rfl) (hb hby own_mapN_d12) (fun _ _ => ⟨rfl, eT, (by decide : 0 + 0 ≤ _), (by decide : 0 + 0 ≤ _)⟩)
  dsimp only [Pt.U, Pt.locs, Pt.cells, Pt.slots] at X lq yq zq st hQ
  subst lq yq zq
  obtain ⟨rfl, Nq, eT⟩ := hQ
  replace N := Fr.app N Nq
  refine own_via (g' := (mkF m 15 #[.val (.ref a1), .val (.ref aF)] [(.ref wEMPTY)])) st ?_
  refine own_retW X hx hlk Bd.returns rfl (Or.inr (Or.inr (Or.inr (Or.inr ⟨rfl, rfl, rfl⟩)))) (hb hby own_mapN_d15) (by decide) (by decide) ?_
  rw [eT]
  exact ⟨rfl, N, hh0⟩
theorem own_mapV_d0 : decode jdk_32_method_11_code 0 = .ok (.aload_n 1, 1) := by decide +kernel
theorem own_mapV_d1 : decode jdk_32_method_11_code 1 = .ok (.invokestatic 17, 3) := by decide +kernel
theorem own_mapV_d4 : decode jdk_32_method_11_code 4 = .ok (.pop, 1) := by decide +kernel
theorem own_mapV_d5 : decode jdk_32_method_11_code 5 = .ok (.aload_n 0, 1) := by decide +kernel
theorem own_mapV_d6 : decode jdk_32_method_11_code 6 = .ok (.invokevirtual 43, 3) := by decide +kernel
theorem own_mapV_d9 : decode jdk_32_method_11_code 9 = .ok (.ifCond .eq 7, 3) := by decide +kernel
theorem own_mapV_d16 : decode jdk_32_method_11_code 16 = .ok (.aload_n 1, 1) := by decide +kernel
theorem own_mapV_d17 : decode jdk_32_method_11_code 17 = .ok (.aload_n 0, 1) := by decide +kernel
theorem own_mapV_d18 : decode jdk_32_method_11_code 18 = .ok (.getfield 13, 3) := by decide +kernel
theorem own_mapV_d21 : decode jdk_32_method_11_code 21 = .ok (.invokeinterface 57 2, 5) := by decide +kernel
theorem own_mapV_d26 : decode jdk_32_method_11_code 26 = .ok (.invokestatic 62, 3) := by decide +kernel
theorem own_mapV_d29 : decode jdk_32_method_11_code 29 = .ok (.areturn, 1) := by decide +kernel
theorem own_mapV_pn : plainFor (⟨"java/util/Optional", "map", "(Ljava/util/function/Function;)Ljava/util/Optional;"⟩ : MethodName) = true := by first | exact plainFor_of_name (by first | (simp [plainName, overriddenIn]; done) | decide +kernel) | decide +kernel
theorem own_mapV_ef (m : MethodId) (x0 : Addr) (x1 : Addr) : entryFrame m #[(.ref x0), (.ref x1)] 2 = mkF m 0 #[.val (.ref x0), .val (.ref x1)] [] := by first | (simp [entryFrame, mkF, argsToLocals, Value.category]; done) | rfl
def own_mapV_Q (Z : State) (a1 : Addr) (aF : Addr) (cK : ClassId) (x1 : Addr) (s1 : Int32) (wCA : Addr) (clCA : Cell) (h0 : Heap) (n0 : Nat) (v : Option Value) (h : Heap) (L : List Loc) : Prop := ∃ r i1, v = some (.ref r) ∧ Fr n0 L ∧ Keep h0 h [] ∧ h0.size ≤ r ∧ Exa Z h r "java/util/Optional" ∧ Fld Z h r "java/util/Optional" "value" "Ljava/lang/Object;" (.ref i1) ∧ Exa Z h i1 "java/lang/Integer" ∧ Fld Z h i1 "java/lang/Integer" "value" "I" (.int s1)
set_option maxRecDepth 65536 in
set_option maxHeartbeats 40000000 in
theorem own_mapV (l : Launch) (Z : State) (a0 : Array Value) (hw : ∀ d ∈ tables_1, d.before a0 Z = true) (ws : List Jvm.Cond) (a1 : Addr) (aF : Addr) (cK : ClassId) (x1 : Addr) (s1 : Int32) (wCA : Addr) (clCA : Cell) (h0 : Heap) (n0 : Nat) (O : Old Z n0 h0) (LM : own_Lam Z (⟨"com/example/wise_crawler/wisecrawler/crawl/Answer", "status", "()I"⟩ : MethodName) 4 own_shape aF cK) (S_high : Sta Z Z.heap "java/lang/Integer$IntegerCache" "high" "I" (.int 127)) (S_cache : Sta Z Z.heap "java/lang/Integer$IntegerCache" "cache" "[Ljava/lang/Integer;" (.ref wCA)) (BX : Bxs Z wCA clCA "java/lang/Integer" "I" 256 (fun j => .int (j - 128))) (E_a1 : Exa Z h0 a1 "java/util/Optional") (F_value_a1 : Fld Z h0 a1 "java/util/Optional" "value" "Ljava/lang/Object;" (.ref x1)) (E_x1 : Exa Z h0 x1 "com/example/wise_crawler/wisecrawler/fetch/Exchange") (F_status_x1 : Fld Z h0 x1 "com/example/wise_crawler/wisecrawler/fetch/Exchange" "status" "I" (.int s1)) :
    MetFree l (⟨"java/util/Optional", "map", "(Ljava/util/function/Function;)Ljava/util/Optional;"⟩ : MethodName) (head1 (Jvm.Cond.code (⟨"java/util/Optional", "map", "(Ljava/util/function/Function;)Ljava/util/Optional;"⟩ : MethodName) jdk_32_method_11_code 2 (some (.object "java/util/Optional")) :: ws) ({ frames := 5, cells := 2, slots := 2, locals := 63 } : Room)) (fun a U => a = #[(.ref a1), (.ref aF)] ∧ Z.Warmed39 U.vm ∧ U.heap = h0) (fun _ _ _ _ _ => True) (fun _ U o U' => ∃ v L, o = .returned v ∧ own_mapV_Q Z a1 aF cK x1 s1 wCA clCA h0 n0 v U'.heap L ∧ FrameEnd U o U' L ({ frames := 5, cells := 2, slots := 2, locals := 63 } : Room).cells ({ frames := 5, cells := 2, slots := 2, locals := 63 } : Room).slots) := by
  refine MetFree.of_bodySF own_mapV_pn hisR ?_
  intro p e s m args below meth c s₁ Bd hml0 hP hK
  obtain ⟨rfl, hZ, hh⟩ := hP
  have hx := Bd.exec
  have hby := Bd.bytes
  have hlk := Bd.notSynchronized
  have hml : c.maxLocals = 2 := hml0
  have hown : s.vm.findClass "java/util/Optional" = some m.cls := findClass_of_methodNamed Bd.named
  have hnm := (name_of_methodNamed Bd.named Bd.method).1
  have X : Stand p l e ({ frames := 5, cells := 2, slots := 2, locals := 63 } : Room) s m #[(.ref a1), (.ref aF)] below meth c s₁ [] 0 0 := Stand.of_body Bd
  have eT : s₁.heap = h0 := by rw [← hh, Bd.state]; rfl
  have N := Fr.nil n0
  have K0 := Keep.refl h0 []
  show own_Ends p e below (own_Post s below (own_mapV_Q Z a1 aF cK x1 s1 wCA clCA h0 n0) ({ frames := 5, cells := 2, slots := 2, locals := 63 } : Room).cells ({ frames := 5, cells := 2, slots := 2, locals := 63 } : Room).slots) s₁ (entryFrame m #[(.ref a1), (.ref aF)] 2)
  rw [own_mapV_ef m a1 aF]
  obtain ⟨T, hT⟩ : ∃ z, z = s₁ := ⟨_, rfl⟩
  rw [← hT] at X eT ⊢
  obtain ⟨h, hh0⟩ : ∃ z, z = h0 := ⟨_, rfl⟩
  rw [← hh0] at eT
  replace O : Old Z n0 h := by rw [hh0]; exact O
  replace K0 : Keep h0 h [] := by rw [hh0]; exact K0
  rw [← hh0] at E_a1
  rw [← hh0] at F_value_a1
  rw [← hh0] at E_x1
  rw [← hh0] at F_status_x1
  refine own_via (T' := T) (g' := (mkF m 1 #[.val (.ref a1), .val (.ref aF)] [(.ref aF)])) (fun t_ k_ => XS.aloadN X.here hx rfl (hb hby own_mapV_d0) rfl rfl k_) ?_
  obtain ⟨_, _, ⟨T, Lq, kq, nq⟩, -, X, ⟨Lc, hQ, lq, yq, zq⟩, st⟩ := Jvm.LawKit.callS X hx (y := (⟨"java/util/Objects", "requireNonNull", "(Ljava/lang/Object;)Ljava/lang/Object;"⟩ : MethodName)) hown (mvT hZ (hw _ (List.mem_of_getElem? (i := 39) rfl))) (mvT hZ (hw _ (List.mem_of_getElem? (i := 40) rfl))) (mvT hZ (hw _ (List.mem_of_getElem? (i := 41) rfl))) (mvT hZ (hw _ (List.mem_of_getElem? (i := 42) rfl))) (by decide) (backOf (W := 0) (own_rnn l Z a0 hw [] aF h n0 O ) hZ (hw _ (List.mem_of_getElem? (i := 42) rfl)) (hw _ (List.mem_of_getElem? (i := 41) rfl)) (by decide) (by decide)) (g := (mkF m 1 #[.val (.ref a1), .val (.ref aF)] [(.ref aF)])) rfl (by rw [hml]; rfl) (argsL := [(.ref aF)]) (rest := []) (lenOf own_pd1 rfl) rfl (by show 2 * 0 + _ ≤ _; exact Nat.le_of_eq rfl) (hb hby own_mapV_d1) (fun _ _ => ⟨rfl, eT, (by decide : 0 + 0 ≤ _), (by decide : 0 + 0 ≤ _)⟩)
  dsimp only [Pt.U, Pt.locs, Pt.cells, Pt.slots] at X lq yq zq st hQ
  subst lq yq zq
  obtain ⟨rfl, Nq, eT⟩ := hQ
  replace N := Fr.app N Nq
  refine own_via (g' := (mkF m 4 #[.val (.ref a1), .val (.ref aF)] [(.ref aF)])) st ?_
  refine own_via (T' := T) (g' := (mkF m 5 #[.val (.ref a1), .val (.ref aF)] [])) (fun t_ k_ => XS.pop X.here hx rfl (hb hby own_mapV_d4) rfl rfl k_) ?_
  refine own_via (T' := T) (g' := (mkF m 6 #[.val (.ref a1), .val (.ref aF)] [(.ref a1)])) (fun t_ k_ => XS.aloadN X.here hx rfl (hb hby own_mapV_d5) rfl rfl k_) ?_
  obtain ⟨cq, kq, qa, qb, qc⟩ := isOf hZ eT E_a1
  obtain ⟨_, _, ⟨T, Lq, kq, nq⟩, -, X, ⟨Lc, hQ, lq, yq, zq⟩, st⟩ := X.virtualBack hx (y := (⟨"java/util/Optional", "isEmpty", "()Z"⟩ : MethodName)) (z := (⟨"java/util/Optional", "isEmpty", "()Z"⟩ : MethodName)) hown (mvT hZ (hw _ (List.mem_of_getElem? (i := 71) rfl))) (mvT hZ (hw _ (List.mem_of_getElem? (i := 72) rfl))) (notFace_of_selects (args := #[]) (mvT hZ (hw _ (List.mem_of_getElem? (i := 74) rfl)))) (mvT hZ (hw _ (List.mem_of_getElem? (i := 74) rfl))) (mvT hZ (hw _ (List.mem_of_getElem? (i := 73) rfl))) (by decide) (backOf (W := 0) (own_isemptyV l Z a0 hw [] a1 x1 h n0 O F_value_a1) hZ (hw _ (List.mem_of_getElem? (i := 75) rfl)) (hw _ (List.mem_of_getElem? (i := 35) rfl)) (by decide) (by decide)) qa qc (g := (mkF m 6 #[.val (.ref a1), .val (.ref aF)] [(.ref a1)])) rfl (by rw [hml]; rfl) (Steps.refl _) (argsL := []) (rest := []) (lenOf own_pd6 rfl) rfl (by show 2 * 0 + _ ≤ _; exact Nat.le_of_eq rfl) (hb hby own_mapV_d6) (fun _ _ => ⟨rfl, eT, (by decide : 0 + 0 ≤ _), (by decide : 0 + 0 ≤ _)⟩)
  dsimp only [Pt.U, Pt.locs, Pt.cells, Pt.slots] at X lq yq zq st hQ
  subst lq yq zq
  obtain ⟨rfl, Nq, eT⟩ := hQ
  replace N := Fr.app N Nq
  refine own_viaT (g' := (mkF m 9 #[.val (.ref a1), .val (.ref aF)] [(.int (0 : Int32))])) st ?_
  refine own_via (T' := T) (g' := (mkF m 16 #[.val (.ref a1), .val (.ref aF)] [])) (fun t_ k_ => XS.ifYes X.here hx rfl (pc0 := 9) (pc' := 16) rfl (hb hby own_mapV_d9) rfl ((if0 _ _).trans (teq (by decide : (0 : Int32) = (0 : Int32))).1) (by decide) (by decide) k_) ?_
  refine own_via (T' := T) (g' := (mkF m 17 #[.val (.ref a1), .val (.ref aF)] [(.ref aF)])) (fun t_ k_ => XS.aloadN X.here hx rfl (hb hby own_mapV_d16) rfl rfl k_) ?_
  refine own_via (T' := T) (g' := (mkF m 18 #[.val (.ref a1), .val (.ref aF)] [(.ref a1), (.ref aF)])) (fun t_ k_ => XS.aloadN X.here hx rfl (hb hby own_mapV_d17) rfl rfl k_) ?_
  obtain ⟨T, X, eT, st⟩ := getF X hx hZ hown (host := "") (Or.inl (hw _ (List.mem_of_getElem? (i := 48) rfl))) Via.refl eT F_value_a1 (g := (mkF m 18 #[.val (.ref a1), .val (.ref aF)] [(.ref a1), (.ref aF)])) rfl rfl (hb hby own_mapV_d18)
  refine own_via (g' := (mkF m 21 #[.val (.ref a1), .val (.ref aF)] [(.ref x1), (.ref aF)])) st ?_
  obtain ⟨_, _, ⟨T, Lq, kq, nq⟩, -, X, ⟨Lc, hQ, lq, yq, zq⟩, st⟩ := X.fnAt hx (xi := (⟨"java/util/function/Function", "apply", "(Ljava/lang/Object;)Ljava/lang/Object;"⟩ : MethodName)) hown (own_fnW (mvT hZ (hw _ (List.mem_of_getElem? (i := 76) rfl))) (mvT hZ (hw _ (List.mem_of_getElem? (i := 77) rfl))) (mvT hZ (hw _ (List.mem_of_getElem? (i := 78) rfl)))) (by decide) (own_FnX39 hZ (own_lamFn LM own_fok rfl rfl (by decide +kernel) (hw _ (List.mem_of_getElem? (i := 78) rfl)))) (own_apply l Z a0 hw aF x1 s1 wCA clCA cK h n0 O LM S_high S_cache BX E_x1 F_status_x1 hx hZ (W := 0) (by decide) (by decide)) (fun _ _ => rfl) (own_lamIs LM O eT) (g := (mkF m 21 #[.val (.ref a1), .val (.ref aF)] [(.ref x1), (.ref aF)])) rfl (by rw [hml]; rfl) (Steps.refl _) (argsL := [(.ref x1)]) (rest := []) (lenOf own_pd1 rfl) rfl (by show 2 * 0 + _ ≤ _; exact Nat.le_of_eq rfl) (hb hby own_mapV_d21) (fun _ _ => ⟨rfl, eT, (by decide : 0 + 1 ≤ _), (by decide : 0 + 1 ≤ _)⟩)
  dsimp only [Pt.U, Pt.locs, Pt.cells, Pt.slots] at X lq yq zq st hQ
  subst lq yq zq
  obtain ⟨i1, rfl, Nq, Kq, E_i1, F_value_i1⟩ := hQ
  replace N := Fr.app N Nq
  obtain ⟨h1, eT⟩ : ∃ z, T.heap = z := ⟨_, rfl⟩
  rw [eT] at Kq E_i1 F_value_i1
  replace E_a1 := E_a1.keep Kq
  replace F_value_a1 := F_value_a1.keep Kq nin0
  replace E_x1 := E_x1.keep Kq
  replace F_status_x1 := F_status_x1.keep Kq nin0
  replace O := O.keep Kq all0
  replace K0 := K0.trans Kq all0
  refine own_viaT (g' := (mkF m 26 #[.val (.ref a1), .val (.ref aF)] [(.ref i1)])) st ?_
  obtain ⟨_, _, ⟨T, Lq, kq, nq⟩, -, X, ⟨Lc, hQ, lq, yq, zq⟩, st⟩ := Jvm.LawKit.callS X hx (y := (⟨"java/util/Optional", "ofNullable", "(Ljava/lang/Object;)Ljava/util/Optional;"⟩ : MethodName)) hown (mvT hZ (hw _ (List.mem_of_getElem? (i := 89) rfl))) (mvT hZ (hw _ (List.mem_of_getElem? (i := 90) rfl))) (mvT hZ (hw _ (List.mem_of_getElem? (i := 35) rfl))) (mvT hZ (hw _ (List.mem_of_getElem? (i := 91) rfl))) (by decide) (backOf (W := 0) (own_ofNul l Z a0 hw [] i1 h1 n0 O ) hZ (hw _ (List.mem_of_getElem? (i := 91) rfl)) (hw _ (List.mem_of_getElem? (i := 35) rfl)) (by decide) (by decide)) (g := (mkF m 26 #[.val (.ref a1), .val (.ref aF)] [(.ref i1)])) rfl (by rw [hml]; rfl) (argsL := [(.ref i1)]) (rest := []) (lenOf own_pd8 rfl) rfl (by show 2 * 0 + _ ≤ _; exact Nat.le_of_eq rfl) (hb hby own_mapV_d26) (fun _ _ => ⟨rfl, eT, (by decide : 1 + 1 ≤ _), (by decide : 1 + 1 ≤ _)⟩)
  dsimp only [Pt.U, Pt.locs, Pt.cells, Pt.slots] at X lq yq zq st hQ
  subst lq yq zq
  obtain ⟨r2, rfl, Nq, Kq, szq, E_r2, F_value_r2⟩ := hQ
  replace N := Fr.app N Nq
  obtain ⟨h3, eT⟩ : ∃ z, T.heap = z := ⟨_, rfl⟩
  rw [eT] at Kq E_r2 F_value_r2
  have ne_a1_r2 : a1 ≠ r2 := Nat.ne_of_lt (Nat.lt_of_lt_of_le E_a1.lt szq)
  have ne_i1_r2 : i1 ≠ r2 := Nat.ne_of_lt (Nat.lt_of_lt_of_le E_i1.lt szq)
  have ne_x1_r2 : x1 ≠ r2 := Nat.ne_of_lt (Nat.lt_of_lt_of_le E_x1.lt szq)
  have g_r2 : n0 ≤ r2 := Nat.le_trans (own_le O) szq
  have sz_r2 : h0.size ≤ r2 := Nat.le_trans K0.1 szq
  replace E_a1 := E_a1.keep Kq
  replace F_value_a1 := F_value_a1.keep Kq nin0
  replace E_x1 := E_x1.keep Kq
  replace F_status_x1 := F_status_x1.keep Kq nin0
  replace E_i1 := E_i1.keep Kq
  replace F_value_i1 := F_value_i1.keep Kq nin0
  replace O := O.keep Kq all0
  replace K0 := K0.trans Kq all0
  refine own_via (g' := (mkF m 29 #[.val (.ref a1), .val (.ref aF)] [(.ref r2)])) st ?_
  refine own_retW X hx hlk Bd.returns rfl (Or.inr (Or.inr (Or.inr (Or.inr ⟨rfl, rfl, rfl⟩)))) (hb hby own_mapV_d29) (by decide) (by decide) ?_
  rw [eT]
  exact ⟨r2, i1, rfl, N, K0, sz_r2, E_r2, F_value_r2, E_i1, F_value_i1⟩
theorem own_orElseN_d0 : decode jdk_32_method_15_code 0 = .ok (.aload_n 0, 1) := by decide +kernel
theorem own_orElseN_d1 : decode jdk_32_method_15_code 1 = .ok (.getfield 13, 3) := by decide +kernel
theorem own_orElseN_d4 : decode jdk_32_method_15_code 4 = .ok (.ifnull 10, 3) := by decide +kernel
theorem own_orElseN_d14 : decode jdk_32_method_15_code 14 = .ok (.aload_n 1, 1) := by decide +kernel
theorem own_orElseN_d15 : decode jdk_32_method_15_code 15 = .ok (.areturn, 1) := by decide +kernel
theorem own_orElseN_pn : plainFor (⟨"java/util/Optional", "orElse", "(Ljava/lang/Object;)Ljava/lang/Object;"⟩ : MethodName) = true := by first | exact plainFor_of_name (by first | (simp [plainName, overriddenIn]; done) | decide +kernel) | decide +kernel
theorem own_orElseN_ef (m : MethodId) (x0 : Addr) (x1 : Addr) : entryFrame m #[(.ref x0), (.ref x1)] 2 = mkF m 0 #[.val (.ref x0), .val (.ref x1)] [] := by first | (simp [entryFrame, mkF, argsToLocals, Value.category]; done) | rfl
def own_orElseN_Q (Z : State) (a1 : Addr) (e1 : Addr) (h0 : Heap) (n0 : Nat) (v : Option Value) (h : Heap) (L : List Loc) : Prop := v = some (.ref e1) ∧ Fr n0 L ∧ h = h0
set_option maxRecDepth 65536 in
set_option maxHeartbeats 40000000 in
theorem own_orElseN (l : Launch) (Z : State) (a0 : Array Value) (hw : ∀ d ∈ tables_1, d.before a0 Z = true) (ws : List Jvm.Cond) (a1 : Addr) (e1 : Addr) (h0 : Heap) (n0 : Nat) (O : Old Z n0 h0) (F_value_a1 : Fld Z h0 a1 "java/util/Optional" "value" "Ljava/lang/Object;" .null) :
    MetFree l (⟨"java/util/Optional", "orElse", "(Ljava/lang/Object;)Ljava/lang/Object;"⟩ : MethodName) (head1 (Jvm.Cond.code (⟨"java/util/Optional", "orElse", "(Ljava/lang/Object;)Ljava/lang/Object;"⟩ : MethodName) jdk_32_method_15_code 2 (some (.object "java/lang/Object")) :: ws) ({ frames := 0, cells := 0, slots := 0, locals := 0 } : Room)) (fun a U => a = #[(.ref a1), (.ref e1)] ∧ Z.Warmed39 U.vm ∧ U.heap = h0) (fun _ _ _ _ _ => True) (fun _ U o U' => ∃ v L, o = .returned v ∧ own_orElseN_Q Z a1 e1 h0 n0 v U'.heap L ∧ FrameEnd U o U' L ({ frames := 0, cells := 0, slots := 0, locals := 0 } : Room).cells ({ frames := 0, cells := 0, slots := 0, locals := 0 } : Room).slots) := by
  refine MetFree.of_bodySF own_orElseN_pn hisR ?_
  intro p e s m args below meth c s₁ Bd hml0 hP hK
  obtain ⟨rfl, hZ, hh⟩ := hP
  have hx := Bd.exec
  have hby := Bd.bytes
  have hlk := Bd.notSynchronized
  have hml : c.maxLocals = 2 := hml0
  have hown : s.vm.findClass "java/util/Optional" = some m.cls := findClass_of_methodNamed Bd.named
  have hnm := (name_of_methodNamed Bd.named Bd.method).1
  have X : Stand p l e ({ frames := 0, cells := 0, slots := 0, locals := 0 } : Room) s m #[(.ref a1), (.ref e1)] below meth c s₁ [] 0 0 := Stand.of_body Bd
  have eT : s₁.heap = h0 := by rw [← hh, Bd.state]; rfl
  have N := Fr.nil n0
  have K0 := Keep.refl h0 []
  show own_Ends p e below (own_Post s below (own_orElseN_Q Z a1 e1 h0 n0) ({ frames := 0, cells := 0, slots := 0, locals := 0 } : Room).cells ({ frames := 0, cells := 0, slots := 0, locals := 0 } : Room).slots) s₁ (entryFrame m #[(.ref a1), (.ref e1)] 2)
  rw [own_orElseN_ef m a1 e1]
  obtain ⟨T, hT⟩ : ∃ z, z = s₁ := ⟨_, rfl⟩
  rw [← hT] at X eT ⊢
  obtain ⟨h, hh0⟩ : ∃ z, z = h0 := ⟨_, rfl⟩
  rw [← hh0] at eT
  replace O : Old Z n0 h := by rw [hh0]; exact O
  replace K0 : Keep h0 h [] := by rw [hh0]; exact K0
  rw [← hh0] at F_value_a1
  refine own_via (T' := T) (g' := (mkF m 1 #[.val (.ref a1), .val (.ref e1)] [(.ref a1)])) (fun t_ k_ => XS.aloadN X.here hx rfl (hb hby own_orElseN_d0) rfl rfl k_) ?_
  obtain ⟨T, X, eT, st⟩ := getF X hx hZ hown (host := "") (Or.inl (hw _ (List.mem_of_getElem? (i := 48) rfl))) Via.refl eT F_value_a1 (g := (mkF m 1 #[.val (.ref a1), .val (.ref e1)] [(.ref a1)])) rfl rfl (hb hby own_orElseN_d1)
  refine own_via (g' := (mkF m 4 #[.val (.ref a1), .val (.ref e1)] [.null])) st ?_
  refine own_via (T' := T) (g' := (mkF m 14 #[.val (.ref a1), .val (.ref e1)] [])) (fun t_ k_ => XS.ifnullYes X.here hx rfl (pc0 := 4) (pc' := 14) rfl (hb hby own_orElseN_d4) rfl (by decide) (by decide) k_) ?_
  refine own_via (T' := T) (g' := (mkF m 15 #[.val (.ref a1), .val (.ref e1)] [(.ref e1)])) (fun t_ k_ => XS.aloadN X.here hx rfl (hb hby own_orElseN_d14) rfl rfl k_) ?_
  refine own_retW X hx hlk Bd.returns rfl (Or.inr (Or.inr (Or.inr (Or.inr ⟨rfl, rfl, rfl⟩)))) (hb hby own_orElseN_d15) (by decide) (by decide) ?_
  rw [eT]
  exact ⟨rfl, N, hh0⟩
theorem own_orElseV_d0 : decode jdk_32_method_15_code 0 = .ok (.aload_n 0, 1) := by decide +kernel
theorem own_orElseV_d1 : decode jdk_32_method_15_code 1 = .ok (.getfield 13, 3) := by decide +kernel
theorem own_orElseV_d4 : decode jdk_32_method_15_code 4 = .ok (.ifnull 10, 3) := by decide +kernel
theorem own_orElseV_d7 : decode jdk_32_method_15_code 7 = .ok (.aload_n 0, 1) := by decide +kernel
theorem own_orElseV_d8 : decode jdk_32_method_15_code 8 = .ok (.getfield 13, 3) := by decide +kernel
theorem own_orElseV_d11 : decode jdk_32_method_15_code 11 = .ok (.goto 4, 3) := by decide +kernel
theorem own_orElseV_d15 : decode jdk_32_method_15_code 15 = .ok (.areturn, 1) := by decide +kernel
theorem own_orElseV_pn : plainFor (⟨"java/util/Optional", "orElse", "(Ljava/lang/Object;)Ljava/lang/Object;"⟩ : MethodName) = true := by first | exact plainFor_of_name (by first | (simp [plainName, overriddenIn]; done) | decide +kernel) | decide +kernel
theorem own_orElseV_ef (m : MethodId) (x0 : Addr) (x1 : Addr) : entryFrame m #[(.ref x0), (.ref x1)] 2 = mkF m 0 #[.val (.ref x0), .val (.ref x1)] [] := by first | (simp [entryFrame, mkF, argsToLocals, Value.category]; done) | rfl
def own_orElseV_Q (Z : State) (a1 : Addr) (e1 : Addr) (v1 : Addr) (h0 : Heap) (n0 : Nat) (v : Option Value) (h : Heap) (L : List Loc) : Prop := v = some (.ref v1) ∧ Fr n0 L ∧ h = h0
set_option maxRecDepth 65536 in
set_option maxHeartbeats 40000000 in
theorem own_orElseV (l : Launch) (Z : State) (a0 : Array Value) (hw : ∀ d ∈ tables_1, d.before a0 Z = true) (ws : List Jvm.Cond) (a1 : Addr) (e1 : Addr) (v1 : Addr) (h0 : Heap) (n0 : Nat) (O : Old Z n0 h0) (F_value_a1 : Fld Z h0 a1 "java/util/Optional" "value" "Ljava/lang/Object;" (.ref v1)) :
    MetFree l (⟨"java/util/Optional", "orElse", "(Ljava/lang/Object;)Ljava/lang/Object;"⟩ : MethodName) (head1 (Jvm.Cond.code (⟨"java/util/Optional", "orElse", "(Ljava/lang/Object;)Ljava/lang/Object;"⟩ : MethodName) jdk_32_method_15_code 2 (some (.object "java/lang/Object")) :: ws) ({ frames := 0, cells := 0, slots := 0, locals := 0 } : Room)) (fun a U => a = #[(.ref a1), (.ref e1)] ∧ Z.Warmed39 U.vm ∧ U.heap = h0) (fun _ _ _ _ _ => True) (fun _ U o U' => ∃ v L, o = .returned v ∧ own_orElseV_Q Z a1 e1 v1 h0 n0 v U'.heap L ∧ FrameEnd U o U' L ({ frames := 0, cells := 0, slots := 0, locals := 0 } : Room).cells ({ frames := 0, cells := 0, slots := 0, locals := 0 } : Room).slots) := by
  refine MetFree.of_bodySF own_orElseV_pn hisR ?_
  intro p e s m args below meth c s₁ Bd hml0 hP hK
  obtain ⟨rfl, hZ, hh⟩ := hP
  have hx := Bd.exec
  have hby := Bd.bytes
  have hlk := Bd.notSynchronized
  have hml : c.maxLocals = 2 := hml0
  have hown : s.vm.findClass "java/util/Optional" = some m.cls := findClass_of_methodNamed Bd.named
  have hnm := (name_of_methodNamed Bd.named Bd.method).1
  have X : Stand p l e ({ frames := 0, cells := 0, slots := 0, locals := 0 } : Room) s m #[(.ref a1), (.ref e1)] below meth c s₁ [] 0 0 := Stand.of_body Bd
  have eT : s₁.heap = h0 := by rw [← hh, Bd.state]; rfl
  have N := Fr.nil n0
  have K0 := Keep.refl h0 []
  show own_Ends p e below (own_Post s below (own_orElseV_Q Z a1 e1 v1 h0 n0) ({ frames := 0, cells := 0, slots := 0, locals := 0 } : Room).cells ({ frames := 0, cells := 0, slots := 0, locals := 0 } : Room).slots) s₁ (entryFrame m #[(.ref a1), (.ref e1)] 2)
  rw [own_orElseV_ef m a1 e1]
  obtain ⟨T, hT⟩ : ∃ z, z = s₁ := ⟨_, rfl⟩
  rw [← hT] at X eT ⊢
  obtain ⟨h, hh0⟩ : ∃ z, z = h0 := ⟨_, rfl⟩
  rw [← hh0] at eT
  replace O : Old Z n0 h := by rw [hh0]; exact O
  replace K0 : Keep h0 h [] := by rw [hh0]; exact K0
  rw [← hh0] at F_value_a1
  refine own_via (T' := T) (g' := (mkF m 1 #[.val (.ref a1), .val (.ref e1)] [(.ref a1)])) (fun t_ k_ => XS.aloadN X.here hx rfl (hb hby own_orElseV_d0) rfl rfl k_) ?_
  obtain ⟨T, X, eT, st⟩ := getF X hx hZ hown (host := "") (Or.inl (hw _ (List.mem_of_getElem? (i := 48) rfl))) Via.refl eT F_value_a1 (g := (mkF m 1 #[.val (.ref a1), .val (.ref e1)] [(.ref a1)])) rfl rfl (hb hby own_orElseV_d1)
  refine own_via (g' := (mkF m 4 #[.val (.ref a1), .val (.ref e1)] [(.ref v1)])) st ?_
  refine own_via (T' := T) (g' := (mkF m 7 #[.val (.ref a1), .val (.ref e1)] [])) (fun t_ k_ => XS.ifnullNo X.here hx rfl (hb hby own_orElseV_d4) rfl k_) ?_
  refine own_via (T' := T) (g' := (mkF m 8 #[.val (.ref a1), .val (.ref e1)] [(.ref a1)])) (fun t_ k_ => XS.aloadN X.here hx rfl (hb hby own_orElseV_d7) rfl rfl k_) ?_
  obtain ⟨T, X, eT, st⟩ := getF X hx hZ hown (host := "") (Or.inl (hw _ (List.mem_of_getElem? (i := 48) rfl))) Via.refl eT F_value_a1 (g := (mkF m 8 #[.val (.ref a1), .val (.ref e1)] [(.ref a1)])) rfl rfl (hb hby own_orElseV_d8)
  refine own_via (g' := (mkF m 11 #[.val (.ref a1), .val (.ref e1)] [(.ref v1)])) st ?_
  refine own_via (T' := T) (g' := (mkF m 15 #[.val (.ref a1), .val (.ref e1)] [(.ref v1)])) (fun t_ k_ => XS.goto X.here hx rfl (pc0 := 11) (pc' := 15) rfl (hb hby own_orElseV_d11) (by decide) (by decide) k_) ?_
  refine own_retW X hx hlk Bd.returns rfl (Or.inr (Or.inr (Or.inr (Or.inr ⟨rfl, rfl, rfl⟩)))) (hb hby own_orElseV_d15) (by decide) (by decide) ?_
  rw [eT]
  exact ⟨rfl, N, hh0⟩
theorem own_sA_d0 : decode prog_3_method_3_code 0 = .ok (.aload_n 0, 1) := by decide +kernel
theorem own_sA_d1 : decode prog_3_method_3_code 1 = .ok (.getfield 7, 3) := by decide +kernel
theorem own_sA_d4 : decode prog_3_method_3_code 4 = .ok (.invokedynamic 42, 5) := by decide +kernel
theorem own_sA_d9 : decode prog_3_method_3_code 9 = .ok (.invokevirtual 46, 3) := by decide +kernel
theorem own_sA_d12 : decode prog_3_method_3_code 12 = .ok (.iconst 0, 1) := by decide +kernel
theorem own_sA_d13 : decode prog_3_method_3_code 13 = .ok (.invokestatic 50, 3) := by decide +kernel
theorem own_sA_d16 : decode prog_3_method_3_code 16 = .ok (.invokevirtual 56, 3) := by decide +kernel
theorem own_sA_d19 : decode prog_3_method_3_code 19 = .ok (.checkcast 51, 3) := by decide +kernel
theorem own_sA_d22 : decode prog_3_method_3_code 22 = .ok (.invokevirtual 60, 3) := by decide +kernel
theorem own_sA_d25 : decode prog_3_method_3_code 25 = .ok (.ireturn, 1) := by decide +kernel
theorem own_sA_pn : plainFor (⟨"com/example/wise_crawler/wisecrawler/crawl/Answer", "status", "()I"⟩ : MethodName) = true := by first | exact plainFor_of_name (by first | (simp [plainName, overriddenIn]; done) | decide +kernel) | decide +kernel
theorem own_sA_ef (m : MethodId) (x0 : Addr) : entryFrame m #[(.ref x0)] 1 = mkF m 0 #[.val (.ref x0)] [] := by first | (simp [entryFrame, mkF, argsToLocals, Value.category]; done) | rfl
def own_sA_Q (Z : State) (a1 : Addr) (r1 : Addr) (aF : Addr) (cK : ClassId) (wCA : Addr) (clCA : Cell) (wEMPTY : Addr) (h0 : Heap) (n0 : Nat) (v : Option Value) (h : Heap) (L : List Loc) : Prop := v = some (.int (0 : Int32)) ∧ Fr n0 L ∧ Keep h0 h []
set_option maxRecDepth 65536 in
set_option maxHeartbeats 40000000 in
theorem own_sA (l : Launch) (Z : State) (a0 : Array Value) (hw : ∀ d ∈ tables_1, d.before a0 Z = true) (ws : List Jvm.Cond) (a1 : Addr) (r1 : Addr) (aF : Addr) (cK : ClassId) (wCA : Addr) (clCA : Cell) (wEMPTY : Addr) (h0 : Heap) (n0 : Nat) (O : Old Z n0 h0) (LM : own_Lam Z (⟨"com/example/wise_crawler/wisecrawler/crawl/Answer", "status", "()I"⟩ : MethodName) 4 own_shape aF cK) (S_high : Sta Z Z.heap "java/lang/Integer$IntegerCache" "high" "I" (.int 127)) (S_cache : Sta Z Z.heap "java/lang/Integer$IntegerCache" "cache" "[Ljava/lang/Integer;" (.ref wCA)) (BX : Bxs Z wCA clCA "java/lang/Integer" "I" 256 (fun j => .int (j - 128))) (S_EMPTY : Sta Z Z.heap "java/util/Optional" "EMPTY" "Ljava/util/Optional;" (.ref wEMPTY)) (E_w : Exa Z Z.heap wEMPTY "java/util/Optional") (F_w : Fld Z Z.heap wEMPTY "java/util/Optional" "value" "Ljava/lang/Object;" .null) (F_response_a1 : Fld Z h0 a1 "com/example/wise_crawler/wisecrawler/crawl/Answer" "response" "Ljava/util/Optional;" (.ref r1)) (E_r1 : Exa Z h0 r1 "java/util/Optional") (F_value_r1 : Fld Z h0 r1 "java/util/Optional" "value" "Ljava/lang/Object;" .null) :
    MetFree l (⟨"com/example/wise_crawler/wisecrawler/crawl/Answer", "status", "()I"⟩ : MethodName) (head1 (Jvm.Cond.code (⟨"com/example/wise_crawler/wisecrawler/crawl/Answer", "status", "()I"⟩ : MethodName) prog_3_method_3_code 1 (some .int) :: ws) ({ frames := 4, cells := 1, slots := 1, locals := 3073 } : Room)) (fun a U => a = #[(.ref a1)] ∧ Z.Warmed39 U.vm ∧ U.heap = h0) (fun _ _ _ _ _ => True) (fun _ U o U' => ∃ v L, o = .returned v ∧ own_sA_Q Z a1 r1 aF cK wCA clCA wEMPTY h0 n0 v U'.heap L ∧ FrameEnd U o U' L ({ frames := 4, cells := 1, slots := 1, locals := 3073 } : Room).cells ({ frames := 4, cells := 1, slots := 1, locals := 3073 } : Room).slots) := by
  refine MetFree.of_bodySF own_sA_pn hisR ?_
  intro p e s m args below meth c s₁ Bd hml0 hP hK
  obtain ⟨rfl, hZ, hh⟩ := hP
  have hx := Bd.exec
  have hby := Bd.bytes
  have hlk := Bd.notSynchronized
  have hml : c.maxLocals = 1 := hml0
  have hown : s.vm.findClass "com/example/wise_crawler/wisecrawler/crawl/Answer" = some m.cls := findClass_of_methodNamed Bd.named
  have hnm := (name_of_methodNamed Bd.named Bd.method).1
  have X : Stand p l e ({ frames := 4, cells := 1, slots := 1, locals := 3073 } : Room) s m #[(.ref a1)] below meth c s₁ [] 0 0 := Stand.of_body Bd
  have eT : s₁.heap = h0 := by rw [← hh, Bd.state]; rfl
  have N := Fr.nil n0
  have K0 := Keep.refl h0 []
  show own_Ends p e below (own_Post s below (own_sA_Q Z a1 r1 aF cK wCA clCA wEMPTY h0 n0) ({ frames := 4, cells := 1, slots := 1, locals := 3073 } : Room).cells ({ frames := 4, cells := 1, slots := 1, locals := 3073 } : Room).slots) s₁ (entryFrame m #[(.ref a1)] 1)
  rw [own_sA_ef m a1]
  obtain ⟨T, hT⟩ : ∃ z, z = s₁ := ⟨_, rfl⟩
  rw [← hT] at X eT ⊢
  obtain ⟨h, hh0⟩ : ∃ z, z = h0 := ⟨_, rfl⟩
  rw [← hh0] at eT
  replace O : Old Z n0 h := by rw [hh0]; exact O
  replace K0 : Keep h0 h [] := by rw [hh0]; exact K0
  rw [← hh0] at F_response_a1
  rw [← hh0] at E_r1
  rw [← hh0] at F_value_r1
  refine own_via (T' := T) (g' := (mkF m 1 #[.val (.ref a1)] [(.ref a1)])) (fun t_ k_ => XS.aloadN X.here hx rfl (hb hby own_sA_d0) rfl rfl k_) ?_
  obtain ⟨T, X, eT, st⟩ := getF X hx hZ hown (host := "") (Or.inl (hw _ (List.mem_of_getElem? (i := 54) rfl))) Via.refl eT F_response_a1 (g := (mkF m 1 #[.val (.ref a1)] [(.ref a1)])) rfl rfl (hb hby own_sA_d1)
  refine own_via (g' := (mkF m 4 #[.val (.ref a1)] [(.ref r1)])) st ?_
  refine own_via (T' := T) (g' := (mkF m 9 #[.val (.ref a1)] [(.ref aF), (.ref r1)])) (fun t_ k_ => own_site X hx hZ (y := (⟨"com/example/wise_crawler/wisecrawler/crawl/Answer", "status", "()I"⟩ : MethodName)) Bd.named LM (g := (mkF m 4 #[.val (.ref a1)] [(.ref r1)])) rfl rfl (by rw [hml]; rfl) (hb hby own_sA_d4) (Nat.le_of_ble_eq_true rfl) _ k_) ?_
  obtain ⟨cq, kq, qa, qb, qc⟩ := isOf hZ eT E_r1
  obtain ⟨_, _, ⟨T, Lq, kq, nq⟩, -, X, ⟨Lc, hQ, lq, yq, zq⟩, st⟩ := X.virtualBack hx (y := (⟨"java/util/Optional", "map", "(Ljava/util/function/Function;)Ljava/util/Optional;"⟩ : MethodName)) (z := (⟨"java/util/Optional", "map", "(Ljava/util/function/Function;)Ljava/util/Optional;"⟩ : MethodName)) hown (mvT hZ (hw _ (List.mem_of_getElem? (i := 66) rfl))) (mvT hZ (hw _ (List.mem_of_getElem? (i := 67) rfl))) (notFace_of_selects (args := #[]) (mvT hZ (hw _ (List.mem_of_getElem? (i := 69) rfl)))) (mvT hZ (hw _ (List.mem_of_getElem? (i := 69) rfl))) (mvT hZ (hw _ (List.mem_of_getElem? (i := 68) rfl))) (by decide) (backOf (W := 0) (own_mapN l Z a0 hw [] r1 aF cK wEMPTY h n0 O LM S_EMPTY E_r1 F_value_r1) hZ (hw _ (List.mem_of_getElem? (i := 70) rfl)) (hw _ (List.mem_of_getElem? (i := 35) rfl)) (by decide) (by decide)) qa qc (g := (mkF m 9 #[.val (.ref a1)] [(.ref aF), (.ref r1)])) rfl (by rw [hml]; rfl) (Steps.refl _) (argsL := [(.ref aF)]) (rest := []) (lenOf own_pd9 rfl) rfl (by show 2 * 0 + _ ≤ _; exact Nat.le_of_eq rfl) (hb hby own_sA_d9) (fun _ _ => ⟨rfl, eT, (by decide : 0 + 0 ≤ _), (by decide : 0 + 0 ≤ _)⟩)
  dsimp only [Pt.U, Pt.locs, Pt.cells, Pt.slots] at X lq yq zq st hQ
  subst lq yq zq
  obtain ⟨rfl, Nq, eT⟩ := hQ
  replace N := Fr.app N Nq
  refine own_viaT (g' := (mkF m 12 #[.val (.ref a1)] [(.ref wEMPTY)])) st ?_
  refine own_via (T' := T) (g' := (mkF m 13 #[.val (.ref a1)] [(.int (0 : Int32)), (.ref wEMPTY)])) (fun t_ k_ => XS.iconst X.here hx rfl (hb hby own_sA_d12) k_) ?_
  obtain ⟨_, _, ⟨T, Lq, kq, nq⟩, -, X, ⟨Lc, hQ, lq, yq, zq⟩, st⟩ := Jvm.LawKit.callS X hx (y := (⟨"java/lang/Integer", "valueOf", "(I)Ljava/lang/Integer;"⟩ : MethodName)) hown (mvT hZ (hw _ (List.mem_of_getElem? (i := 92) rfl))) (mvT hZ (hw _ (List.mem_of_getElem? (i := 83) rfl))) (mvT hZ (hw _ (List.mem_of_getElem? (i := 84) rfl))) (mvT hZ (hw _ (List.mem_of_getElem? (i := 85) rfl))) (by decide) (backOf (W := 1) (own_valueOf l Z a0 hw [] (0 : Int32) wCA clCA h n0 O S_high S_cache BX) hZ (hw _ (List.mem_of_getElem? (i := 85) rfl)) (hw _ (List.mem_of_getElem? (i := 84) rfl)) (by decide) (by decide)) (g := (mkF m 13 #[.val (.ref a1)] [(.int (0 : Int32)), (.ref wEMPTY)])) rfl (by rw [hml]; rfl) (argsL := [(.int (0 : Int32))]) (rest := [(.ref wEMPTY)]) (lenOf own_pd5 rfl) rfl (by show 2 * 0 + _ ≤ _; exact Nat.le_of_eq rfl) (hb hby own_sA_d13) (fun _ _ => ⟨rfl, eT, (by decide : 0 + 1 ≤ _), (by decide : 0 + 1 ≤ _)⟩)
  dsimp only [Pt.U, Pt.locs, Pt.cells, Pt.slots] at X lq yq zq st hQ
  subst lq yq zq
  obtain ⟨i1, rfl, Nq, Kq, E_i1, F_value_i1⟩ := hQ
  replace N := Fr.app N Nq
  obtain ⟨h2, eT⟩ : ∃ z, T.heap = z := ⟨_, rfl⟩
  rw [eT] at Kq E_i1 F_value_i1
  replace F_response_a1 := F_response_a1.keep Kq nin0
  replace E_r1 := E_r1.keep Kq
  replace F_value_r1 := F_value_r1.keep Kq nin0
  replace O := O.keep Kq all0
  replace K0 := K0.trans Kq all0
  refine own_via (g' := (mkF m 16 #[.val (.ref a1)] [(.ref i1), (.ref wEMPTY)])) st ?_
  obtain ⟨cq, kq, qa, qb, qc⟩ := isOf hZ eT (E_w.ext O.2)
  obtain ⟨_, _, ⟨T, Lq, kq, nq⟩, -, X, ⟨Lc, hQ, lq, yq, zq⟩, st⟩ := X.virtualBack hx (y := (⟨"java/util/Optional", "orElse", "(Ljava/lang/Object;)Ljava/lang/Object;"⟩ : MethodName)) (z := (⟨"java/util/Optional", "orElse", "(Ljava/lang/Object;)Ljava/lang/Object;"⟩ : MethodName)) hown (mvT hZ (hw _ (List.mem_of_getElem? (i := 93) rfl))) (mvT hZ (hw _ (List.mem_of_getElem? (i := 94) rfl))) (notFace_of_selects (args := #[]) (mvT hZ (hw _ (List.mem_of_getElem? (i := 96) rfl)))) (mvT hZ (hw _ (List.mem_of_getElem? (i := 96) rfl))) (mvT hZ (hw _ (List.mem_of_getElem? (i := 95) rfl))) (by decide) (backOf (W := 0) (own_orElseN l Z a0 hw [] wEMPTY i1 h2 n0 O (F_w.ext O.2)) hZ (hw _ (List.mem_of_getElem? (i := 97) rfl)) (hw _ (List.mem_of_getElem? (i := 35) rfl)) (by decide) (by decide)) qa qc (g := (mkF m 16 #[.val (.ref a1)] [(.ref i1), (.ref wEMPTY)])) rfl (by rw [hml]; rfl) (Steps.refl _) (argsL := [(.ref i1)]) (rest := []) (lenOf own_pd1 rfl) rfl (by show 2 * 0 + _ ≤ _; exact Nat.le_of_eq rfl) (hb hby own_sA_d16) (fun _ _ => ⟨rfl, eT, (by decide : 1 + 0 ≤ _), (by decide : 1 + 0 ≤ _)⟩)
  dsimp only [Pt.U, Pt.locs, Pt.cells, Pt.slots] at X lq yq zq st hQ
  subst lq yq zq
  obtain ⟨rfl, Nq, eT⟩ := hQ
  replace N := Fr.app N Nq
  refine own_viaT (g' := (mkF m 19 #[.val (.ref a1)] [(.ref i1)])) st ?_
  obtain ⟨T, X, eT, st⟩ := castY X hx hZ hown (hw _ (List.mem_of_getElem? (i := 98) rfl)) eT (Ins.self E_i1) (g := (mkF m 19 #[.val (.ref a1)] [(.ref i1)])) rfl rfl (hb hby own_sA_d19)
  refine own_via (g' := (mkF m 22 #[.val (.ref a1)] [(.ref i1)])) st ?_
  obtain ⟨cq, kq, qa, qb, qc⟩ := isOf hZ eT E_i1
  obtain ⟨_, _, ⟨T, Lq, kq, nq⟩, -, X, ⟨Lc, hQ, lq, yq, zq⟩, st⟩ := X.virtualBack hx (y := (⟨"java/lang/Integer", "intValue", "()I"⟩ : MethodName)) (z := (⟨"java/lang/Integer", "intValue", "()I"⟩ : MethodName)) hown (mvT hZ (hw _ (List.mem_of_getElem? (i := 100) rfl))) (mvT hZ (hw _ (List.mem_of_getElem? (i := 101) rfl))) (notFace_of_selects (args := #[]) (mvT hZ (hw _ (List.mem_of_getElem? (i := 103) rfl)))) (mvT hZ (hw _ (List.mem_of_getElem? (i := 103) rfl))) (mvT hZ (hw _ (List.mem_of_getElem? (i := 102) rfl))) (by decide) (backOf (W := 0) (own_intValue l Z a0 hw [] i1 (0 : Int32) h2 n0 O F_value_i1) hZ (hw _ (List.mem_of_getElem? (i := 104) rfl)) (hw _ (List.mem_of_getElem? (i := 84) rfl)) (by decide) (by decide)) qa qc (g := (mkF m 22 #[.val (.ref a1)] [(.ref i1)])) rfl (by rw [hml]; rfl) (Steps.refl _) (argsL := []) (rest := []) (lenOf own_pd4 rfl) rfl (by show 2 * 0 + _ ≤ _; exact Nat.le_of_eq rfl) (hb hby own_sA_d22) (fun _ _ => ⟨rfl, eT, (by decide : 1 + 0 ≤ _), (by decide : 1 + 0 ≤ _)⟩)
  dsimp only [Pt.U, Pt.locs, Pt.cells, Pt.slots] at X lq yq zq st hQ
  subst lq yq zq
  obtain ⟨rfl, Nq, eT⟩ := hQ
  replace N := Fr.app N Nq
  refine own_viaT (g' := (mkF m 25 #[.val (.ref a1)] [(.int (0 : Int32))])) st ?_
  refine own_retW X hx hlk Bd.returns rfl (Or.inl ⟨rfl, Or.inl rfl, _, rfl⟩) (hb hby own_sA_d25) (by decide) (by decide) ?_
  rw [eT]
  exact ⟨rfl, N, K0⟩
theorem own_sB_d0 : decode prog_3_method_3_code 0 = .ok (.aload_n 0, 1) := by decide +kernel
theorem own_sB_d1 : decode prog_3_method_3_code 1 = .ok (.getfield 7, 3) := by decide +kernel
theorem own_sB_d4 : decode prog_3_method_3_code 4 = .ok (.invokedynamic 42, 5) := by decide +kernel
theorem own_sB_d9 : decode prog_3_method_3_code 9 = .ok (.invokevirtual 46, 3) := by decide +kernel
theorem own_sB_d12 : decode prog_3_method_3_code 12 = .ok (.iconst 0, 1) := by decide +kernel
theorem own_sB_d13 : decode prog_3_method_3_code 13 = .ok (.invokestatic 50, 3) := by decide +kernel
theorem own_sB_d16 : decode prog_3_method_3_code 16 = .ok (.invokevirtual 56, 3) := by decide +kernel
theorem own_sB_d19 : decode prog_3_method_3_code 19 = .ok (.checkcast 51, 3) := by decide +kernel
theorem own_sB_d22 : decode prog_3_method_3_code 22 = .ok (.invokevirtual 60, 3) := by decide +kernel
theorem own_sB_d25 : decode prog_3_method_3_code 25 = .ok (.ireturn, 1) := by decide +kernel
theorem own_sB_pn : plainFor (⟨"com/example/wise_crawler/wisecrawler/crawl/Answer", "status", "()I"⟩ : MethodName) = true := by first | exact plainFor_of_name (by first | (simp [plainName, overriddenIn]; done) | decide +kernel) | decide +kernel
theorem own_sB_ef (m : MethodId) (x0 : Addr) : entryFrame m #[(.ref x0)] 1 = mkF m 0 #[.val (.ref x0)] [] := by first | (simp [entryFrame, mkF, argsToLocals, Value.category]; done) | rfl
def own_sB_Q (Z : State) (a1 : Addr) (r1 : Addr) (aF : Addr) (cK : ClassId) (wCA : Addr) (clCA : Cell) (x1 : Addr) (s1 : Int32) (h0 : Heap) (n0 : Nat) (v : Option Value) (h : Heap) (L : List Loc) : Prop := v = some (.int s1) ∧ Fr n0 L ∧ Keep h0 h []
set_option maxRecDepth 65536 in
set_option maxHeartbeats 40000000 in
theorem own_sB (l : Launch) (Z : State) (a0 : Array Value) (hw : ∀ d ∈ tables_1, d.before a0 Z = true) (ws : List Jvm.Cond) (a1 : Addr) (r1 : Addr) (aF : Addr) (cK : ClassId) (wCA : Addr) (clCA : Cell) (x1 : Addr) (s1 : Int32) (h0 : Heap) (n0 : Nat) (O : Old Z n0 h0) (LM : own_Lam Z (⟨"com/example/wise_crawler/wisecrawler/crawl/Answer", "status", "()I"⟩ : MethodName) 4 own_shape aF cK) (S_high : Sta Z Z.heap "java/lang/Integer$IntegerCache" "high" "I" (.int 127)) (S_cache : Sta Z Z.heap "java/lang/Integer$IntegerCache" "cache" "[Ljava/lang/Integer;" (.ref wCA)) (BX : Bxs Z wCA clCA "java/lang/Integer" "I" 256 (fun j => .int (j - 128))) (F_response_a1 : Fld Z h0 a1 "com/example/wise_crawler/wisecrawler/crawl/Answer" "response" "Ljava/util/Optional;" (.ref r1)) (E_r1 : Exa Z h0 r1 "java/util/Optional") (F_value_r1 : Fld Z h0 r1 "java/util/Optional" "value" "Ljava/lang/Object;" (.ref x1)) (E_x1 : Exa Z h0 x1 "com/example/wise_crawler/wisecrawler/fetch/Exchange") (F_status_x1 : Fld Z h0 x1 "com/example/wise_crawler/wisecrawler/fetch/Exchange" "status" "I" (.int s1)) :
    MetFree l (⟨"com/example/wise_crawler/wisecrawler/crawl/Answer", "status", "()I"⟩ : MethodName) (head1 (Jvm.Cond.code (⟨"com/example/wise_crawler/wisecrawler/crawl/Answer", "status", "()I"⟩ : MethodName) prog_3_method_3_code 1 (some .int) :: ws) ({ frames := 6, cells := 3, slots := 3, locals := 3073 } : Room)) (fun a U => a = #[(.ref a1)] ∧ Z.Warmed39 U.vm ∧ U.heap = h0) (fun _ _ _ _ _ => True) (fun _ U o U' => ∃ v L, o = .returned v ∧ own_sB_Q Z a1 r1 aF cK wCA clCA x1 s1 h0 n0 v U'.heap L ∧ FrameEnd U o U' L ({ frames := 6, cells := 3, slots := 3, locals := 3073 } : Room).cells ({ frames := 6, cells := 3, slots := 3, locals := 3073 } : Room).slots) := by
  refine MetFree.of_bodySF own_sB_pn hisR ?_
  intro p e s m args below meth c s₁ Bd hml0 hP hK
  obtain ⟨rfl, hZ, hh⟩ := hP
  have hx := Bd.exec
  have hby := Bd.bytes
  have hlk := Bd.notSynchronized
  have hml : c.maxLocals = 1 := hml0
  have hown : s.vm.findClass "com/example/wise_crawler/wisecrawler/crawl/Answer" = some m.cls := findClass_of_methodNamed Bd.named
  have hnm := (name_of_methodNamed Bd.named Bd.method).1
  have X : Stand p l e ({ frames := 6, cells := 3, slots := 3, locals := 3073 } : Room) s m #[(.ref a1)] below meth c s₁ [] 0 0 := Stand.of_body Bd
  have eT : s₁.heap = h0 := by rw [← hh, Bd.state]; rfl
  have N := Fr.nil n0
  have K0 := Keep.refl h0 []
  show own_Ends p e below (own_Post s below (own_sB_Q Z a1 r1 aF cK wCA clCA x1 s1 h0 n0) ({ frames := 6, cells := 3, slots := 3, locals := 3073 } : Room).cells ({ frames := 6, cells := 3, slots := 3, locals := 3073 } : Room).slots) s₁ (entryFrame m #[(.ref a1)] 1)
  rw [own_sB_ef m a1]
  obtain ⟨T, hT⟩ : ∃ z, z = s₁ := ⟨_, rfl⟩
  rw [← hT] at X eT ⊢
  obtain ⟨h, hh0⟩ : ∃ z, z = h0 := ⟨_, rfl⟩
  rw [← hh0] at eT
  replace O : Old Z n0 h := by rw [hh0]; exact O
  replace K0 : Keep h0 h [] := by rw [hh0]; exact K0
  rw [← hh0] at F_response_a1
  rw [← hh0] at E_r1
  rw [← hh0] at F_value_r1
  rw [← hh0] at E_x1
  rw [← hh0] at F_status_x1
  refine own_via (T' := T) (g' := (mkF m 1 #[.val (.ref a1)] [(.ref a1)])) (fun t_ k_ => XS.aloadN X.here hx rfl (hb hby own_sB_d0) rfl rfl k_) ?_
  obtain ⟨T, X, eT, st⟩ := getF X hx hZ hown (host := "") (Or.inl (hw _ (List.mem_of_getElem? (i := 54) rfl))) Via.refl eT F_response_a1 (g := (mkF m 1 #[.val (.ref a1)] [(.ref a1)])) rfl rfl (hb hby own_sB_d1)
  refine own_via (g' := (mkF m 4 #[.val (.ref a1)] [(.ref r1)])) st ?_
  refine own_via (T' := T) (g' := (mkF m 9 #[.val (.ref a1)] [(.ref aF), (.ref r1)])) (fun t_ k_ => own_site X hx hZ (y := (⟨"com/example/wise_crawler/wisecrawler/crawl/Answer", "status", "()I"⟩ : MethodName)) Bd.named LM (g := (mkF m 4 #[.val (.ref a1)] [(.ref r1)])) rfl rfl (by rw [hml]; rfl) (hb hby own_sB_d4) (Nat.le_of_ble_eq_true rfl) _ k_) ?_
  obtain ⟨cq, kq, qa, qb, qc⟩ := isOf hZ eT E_r1
  obtain ⟨_, _, ⟨T, Lq, kq, nq⟩, -, X, ⟨Lc, hQ, lq, yq, zq⟩, st⟩ := X.virtualBack hx (y := (⟨"java/util/Optional", "map", "(Ljava/util/function/Function;)Ljava/util/Optional;"⟩ : MethodName)) (z := (⟨"java/util/Optional", "map", "(Ljava/util/function/Function;)Ljava/util/Optional;"⟩ : MethodName)) hown (mvT hZ (hw _ (List.mem_of_getElem? (i := 66) rfl))) (mvT hZ (hw _ (List.mem_of_getElem? (i := 67) rfl))) (notFace_of_selects (args := #[]) (mvT hZ (hw _ (List.mem_of_getElem? (i := 69) rfl)))) (mvT hZ (hw _ (List.mem_of_getElem? (i := 69) rfl))) (mvT hZ (hw _ (List.mem_of_getElem? (i := 68) rfl))) (by decide) (backOf (W := 0) (own_mapV l Z a0 hw [] r1 aF cK x1 s1 wCA clCA h n0 O LM S_high S_cache BX E_r1 F_value_r1 E_x1 F_status_x1) hZ (hw _ (List.mem_of_getElem? (i := 70) rfl)) (hw _ (List.mem_of_getElem? (i := 35) rfl)) (by decide) (by decide)) qa qc (g := (mkF m 9 #[.val (.ref a1)] [(.ref aF), (.ref r1)])) rfl (by rw [hml]; rfl) (Steps.refl _) (argsL := [(.ref aF)]) (rest := []) (lenOf own_pd9 rfl) rfl (by show 2 * 0 + _ ≤ _; exact Nat.le_of_eq rfl) (hb hby own_sB_d9) (fun _ _ => ⟨rfl, eT, (by decide : 0 + 2 ≤ _), (by decide : 0 + 2 ≤ _)⟩)
  dsimp only [Pt.U, Pt.locs, Pt.cells, Pt.slots] at X lq yq zq st hQ
  subst lq yq zq
  obtain ⟨r2, im, rfl, Nq, Kq, szq, E_r2, F_value_r2, E_im, F_value_im⟩ := hQ
  replace N := Fr.app N Nq
  obtain ⟨h1, eT⟩ : ∃ z, T.heap = z := ⟨_, rfl⟩
  rw [eT] at Kq E_r2 F_value_r2 E_im F_value_im
  have ne_a1_r2 : a1 ≠ r2 := Nat.ne_of_lt (Nat.lt_of_lt_of_le F_response_a1.lt szq)
  have ne_r1_r2 : r1 ≠ r2 := Nat.ne_of_lt (Nat.lt_of_lt_of_le E_r1.lt szq)
  have ne_x1_r2 : x1 ≠ r2 := Nat.ne_of_lt (Nat.lt_of_lt_of_le E_x1.lt szq)
  have g_r2 : n0 ≤ r2 := Nat.le_trans (own_le O) szq
  have sz_r2 : h0.size ≤ r2 := Nat.le_trans K0.1 szq
  replace F_response_a1 := F_response_a1.keep Kq nin0
  replace E_r1 := E_r1.keep Kq
  replace F_value_r1 := F_value_r1.keep Kq nin0
  replace E_x1 := E_x1.keep Kq
  replace F_status_x1 := F_status_x1.keep Kq nin0
  replace O := O.keep Kq all0
  replace K0 := K0.trans Kq all0
  refine own_viaT (g' := (mkF m 12 #[.val (.ref a1)] [(.ref r2)])) st ?_
  refine own_via (T' := T) (g' := (mkF m 13 #[.val (.ref a1)] [(.int (0 : Int32)), (.ref r2)])) (fun t_ k_ => XS.iconst X.here hx rfl (hb hby own_sB_d12) k_) ?_
  obtain ⟨_, _, ⟨T, Lq, kq, nq⟩, -, X, ⟨Lc, hQ, lq, yq, zq⟩, st⟩ := Jvm.LawKit.callS X hx (y := (⟨"java/lang/Integer", "valueOf", "(I)Ljava/lang/Integer;"⟩ : MethodName)) hown (mvT hZ (hw _ (List.mem_of_getElem? (i := 92) rfl))) (mvT hZ (hw _ (List.mem_of_getElem? (i := 83) rfl))) (mvT hZ (hw _ (List.mem_of_getElem? (i := 84) rfl))) (mvT hZ (hw _ (List.mem_of_getElem? (i := 85) rfl))) (by decide) (backOf (W := 1) (own_valueOf l Z a0 hw [] (0 : Int32) wCA clCA h1 n0 O S_high S_cache BX) hZ (hw _ (List.mem_of_getElem? (i := 85) rfl)) (hw _ (List.mem_of_getElem? (i := 84) rfl)) (by decide) (by decide)) (g := (mkF m 13 #[.val (.ref a1)] [(.int (0 : Int32)), (.ref r2)])) rfl (by rw [hml]; rfl) (argsL := [(.int (0 : Int32))]) (rest := [(.ref r2)]) (lenOf own_pd5 rfl) rfl (by show 2 * 0 + _ ≤ _; exact Nat.le_of_eq rfl) (hb hby own_sB_d13) (fun _ _ => ⟨rfl, eT, (by decide : 2 + 1 ≤ _), (by decide : 2 + 1 ≤ _)⟩)
  dsimp only [Pt.U, Pt.locs, Pt.cells, Pt.slots] at X lq yq zq st hQ
  subst lq yq zq
  obtain ⟨i2, rfl, Nq, Kq, E_i2, F_value_i2⟩ := hQ
  replace N := Fr.app N Nq
  obtain ⟨h3, eT⟩ : ∃ z, T.heap = z := ⟨_, rfl⟩
  rw [eT] at Kq E_i2 F_value_i2
  replace F_response_a1 := F_response_a1.keep Kq nin0
  replace E_r1 := E_r1.keep Kq
  replace F_value_r1 := F_value_r1.keep Kq nin0
  replace E_x1 := E_x1.keep Kq
  replace F_status_x1 := F_status_x1.keep Kq nin0
  replace E_r2 := E_r2.keep Kq
  replace F_value_r2 := F_value_r2.keep Kq nin0
  replace E_im := E_im.keep Kq
  replace F_value_im := F_value_im.keep Kq nin0
  replace O := O.keep Kq all0
  replace K0 := K0.trans Kq all0
  refine own_via (g' := (mkF m 16 #[.val (.ref a1)] [(.ref i2), (.ref r2)])) st ?_
  obtain ⟨cq, kq, qa, qb, qc⟩ := isOf hZ eT E_r2
  obtain ⟨_, _, ⟨T, Lq, kq, nq⟩, -, X, ⟨Lc, hQ, lq, yq, zq⟩, st⟩ := X.virtualBack hx (y := (⟨"java/util/Optional", "orElse", "(Ljava/lang/Object;)Ljava/lang/Object;"⟩ : MethodName)) (z := (⟨"java/util/Optional", "orElse", "(Ljava/lang/Object;)Ljava/lang/Object;"⟩ : MethodName)) hown (mvT hZ (hw _ (List.mem_of_getElem? (i := 93) rfl))) (mvT hZ (hw _ (List.mem_of_getElem? (i := 94) rfl))) (notFace_of_selects (args := #[]) (mvT hZ (hw _ (List.mem_of_getElem? (i := 96) rfl)))) (mvT hZ (hw _ (List.mem_of_getElem? (i := 96) rfl))) (mvT hZ (hw _ (List.mem_of_getElem? (i := 95) rfl))) (by decide) (backOf (W := 0) (own_orElseV l Z a0 hw [] r2 i2 im h3 n0 O F_value_r2) hZ (hw _ (List.mem_of_getElem? (i := 97) rfl)) (hw _ (List.mem_of_getElem? (i := 35) rfl)) (by decide) (by decide)) qa qc (g := (mkF m 16 #[.val (.ref a1)] [(.ref i2), (.ref r2)])) rfl (by rw [hml]; rfl) (Steps.refl _) (argsL := [(.ref i2)]) (rest := []) (lenOf own_pd1 rfl) rfl (by show 2 * 0 + _ ≤ _; exact Nat.le_of_eq rfl) (hb hby own_sB_d16) (fun _ _ => ⟨rfl, eT, (by decide : 3 + 0 ≤ _), (by decide : 3 + 0 ≤ _)⟩)
  dsimp only [Pt.U, Pt.locs, Pt.cells, Pt.slots] at X lq yq zq st hQ
  subst lq yq zq
  obtain ⟨rfl, Nq, eT⟩ := hQ
  replace N := Fr.app N Nq
  refine own_viaT (g' := (mkF m 19 #[.val (.ref a1)] [(.ref im)])) st ?_
  obtain ⟨T, X, eT, st⟩ := castY X hx hZ hown (hw _ (List.mem_of_getElem? (i := 98) rfl)) eT (Ins.self E_im) (g := (mkF m 19 #[.val (.ref a1)] [(.ref im)])) rfl rfl (hb hby own_sB_d19)
  refine own_via (g' := (mkF m 22 #[.val (.ref a1)] [(.ref im)])) st ?_
  obtain ⟨cq, kq, qa, qb, qc⟩ := isOf hZ eT E_im
  obtain ⟨_, _, ⟨T, Lq, kq, nq⟩, -, X, ⟨Lc, hQ, lq, yq, zq⟩, st⟩ := X.virtualBack hx (y := (⟨"java/lang/Integer", "intValue", "()I"⟩ : MethodName)) (z := (⟨"java/lang/Integer", "intValue", "()I"⟩ : MethodName)) hown (mvT hZ (hw _ (List.mem_of_getElem? (i := 100) rfl))) (mvT hZ (hw _ (List.mem_of_getElem? (i := 101) rfl))) (notFace_of_selects (args := #[]) (mvT hZ (hw _ (List.mem_of_getElem? (i := 103) rfl)))) (mvT hZ (hw _ (List.mem_of_getElem? (i := 103) rfl))) (mvT hZ (hw _ (List.mem_of_getElem? (i := 102) rfl))) (by decide) (backOf (W := 0) (own_intValue l Z a0 hw [] im s1 h3 n0 O F_value_im) hZ (hw _ (List.mem_of_getElem? (i := 104) rfl)) (hw _ (List.mem_of_getElem? (i := 84) rfl)) (by decide) (by decide)) qa qc (g := (mkF m 22 #[.val (.ref a1)] [(.ref im)])) rfl (by rw [hml]; rfl) (Steps.refl _) (argsL := []) (rest := []) (lenOf own_pd4 rfl) rfl (by show 2 * 0 + _ ≤ _; exact Nat.le_of_eq rfl) (hb hby own_sB_d22) (fun _ _ => ⟨rfl, eT, (by decide : 3 + 0 ≤ _), (by decide : 3 + 0 ≤ _)⟩)
  dsimp only [Pt.U, Pt.locs, Pt.cells, Pt.slots] at X lq yq zq st hQ
  subst lq yq zq
  obtain ⟨rfl, Nq, eT⟩ := hQ
  replace N := Fr.app N Nq
  refine own_viaT (g' := (mkF m 25 #[.val (.ref a1)] [(.int s1)])) st ?_
  refine own_retW X hx hlk Bd.returns rfl (Or.inl ⟨rfl, Or.inl rfl, _, rfl⟩) (hb hby own_sB_d25) (by decide) (by decide) ?_
  rw [eT]
  exact ⟨rfl, N, K0⟩
theorem own_law_pn : plainFor x = true := by first | exact plainFor_of_name (by first | (simp [plainName, overriddenIn]; done) | decide +kernel) | decide +kernel
theorem own_law_ef (m : MethodId) (x0 : Int32) (x1 : Int32) : entryFrame m #[(.int x0), (.int x1)] maxLocals = mkF m 0 #[.val (.int x0), .val (.int x1), .unset, .unset, .unset, .unset, .unset] [] := by first | (simp [entryFrame, mkF, argsToLocals, Value.category, maxLocals]; done) | rfl
def own_law_Q (Z : State) (p0 : Int32) (p1 : Int32) (aF : Addr) (cK : ClassId) (wCA : Addr) (clCA : Cell) (wEMPTY : Addr) (h0 : Heap) (n0 : Nat) (v : Option Value) (h : Heap) (L : List Loc) : Prop := v = some (.int (1 : Int32)) ∧ Fr n0 L ∧ True
set_option maxRecDepth 65536 in
set_option maxHeartbeats 40000000 in
theorem own_law (l : Launch) (Z : State) (a0 : Array Value) (hw : ∀ d ∈ tables_1, d.before a0 Z = true) (ws : List Jvm.Cond) (p0 : Int32) (p1 : Int32) (aF : Addr) (cK : ClassId) (wCA : Addr) (clCA : Cell) (wEMPTY : Addr) (h0 : Heap) (n0 : Nat) (O : Old Z n0 h0) (LM : own_Lam Z (⟨"com/example/wise_crawler/wisecrawler/crawl/Answer", "status", "()I"⟩ : MethodName) 4 own_shape aF cK) (S_high : Sta Z Z.heap "java/lang/Integer$IntegerCache" "high" "I" (.int 127)) (S_cache : Sta Z Z.heap "java/lang/Integer$IntegerCache" "cache" "[Ljava/lang/Integer;" (.ref wCA)) (BX : Bxs Z wCA clCA "java/lang/Integer" "I" 256 (fun j => .int (j - 128))) (S_EMPTY : Sta Z Z.heap "java/util/Optional" "EMPTY" "Ljava/util/Optional;" (.ref wEMPTY)) (E_w : Exa Z Z.heap wEMPTY "java/util/Optional") (F_w : Fld Z Z.heap wEMPTY "java/util/Optional" "value" "Ljava/lang/Object;" .null) :
    MetFree l x (head1 (Jvm.Cond.code x code maxLocals ret :: ws) room_1) (fun a U => a = #[(.int p0), (.int p1)] ∧ Z.Warmed39 U.vm ∧ U.heap = h0) (fun _ _ _ _ _ => True) (fun _ U o U' => ∃ v L, o = .returned v ∧ own_law_Q Z p0 p1 aF cK wCA clCA wEMPTY h0 n0 v U'.heap L ∧ FrameEnd U o U' L room_1.cells room_1.slots) := by
  refine MetFree.of_bodySF own_law_pn hisR ?_
  intro p e s m args below meth c s₁ Bd hml0 hP hK
  obtain ⟨rfl, hZ, hh⟩ := hP
  have hx := Bd.exec
  have hby := Bd.bytes
  have hlk := Bd.notSynchronized
  have hml : c.maxLocals = 7 := hml0
  have hown : s.vm.findClass "com/example/wise_crawler/wisecrawler/crawl/AnswerStatusPinLaw" = some m.cls := findClass_of_methodNamed Bd.named
  have hnm := (name_of_methodNamed Bd.named Bd.method).1
  have X : Stand p l e room_1 s m #[(.int p0), (.int p1)] below meth c s₁ [] 0 0 := Stand.of_body Bd
  have eT : s₁.heap = h0 := by rw [← hh, Bd.state]; rfl
  have N := Fr.nil n0
  have K0 := Keep.refl h0 []
  show own_Ends p e below (own_Post s below (own_law_Q Z p0 p1 aF cK wCA clCA wEMPTY h0 n0) room_1.cells room_1.slots) s₁ (entryFrame m #[(.int p0), (.int p1)] maxLocals)
  rw [own_law_ef m p0 p1]
  obtain ⟨T, hT⟩ : ∃ z, z = s₁ := ⟨_, rfl⟩
  rw [← hT] at X eT ⊢
  obtain ⟨h, hh0⟩ : ∃ z, z = h0 := ⟨_, rfl⟩
  rw [← hh0] at eT
  replace O : Old Z n0 h := by rw [hh0]; exact O
  replace K0 : Keep h0 h [] := by rw [hh0]; exact K0
  refine own_via (T' := T) (g' := (mkF m 1 #[.val (.int p0), .val (.int p1), .unset, .unset, .unset, .unset, .unset] [(.int p1)])) (fun t_ k_ => XS.iloadN X.here hx rfl (hb hby at_0) rfl k_) ?_
  refine own_via (T' := T) (g' := (mkF m 2 #[.val (.int p0), .val (.int p1), .unset, .unset, .unset, .unset, .unset] [(.int (1 : Int32)), (.int p1)])) (fun t_ k_ => XS.iconst X.here hx rfl (hb hby at_1) k_) ?_
  refine own_via (T' := T) (g' := (mkF m 3 #[.val (.int p0), .val (.int p1), .unset, .unset, .unset, .unset, .unset] [(.int (p1 &&& (1 : Int32)))])) (fun t_ k_ => XS.iand X.here hx rfl (hb hby at_2) rfl k_) ?_
  by_cases hc1 : (p1 &&& (1 : Int32)) = (0 : Int32)
  · refine own_via (T' := T) (g' := (mkF m 10 #[.val (.int p0), .val (.int p1), .unset, .unset, .unset, .unset, .unset] [])) (fun t_ k_ => XS.ifYes X.here hx rfl (pc0 := 3) (pc' := 10) rfl (hb hby at_3) rfl ((if0 _ _).trans (teq hc1).1) (by decide) (by decide) k_) ?_
    refine own_via (T' := T) (g' := (mkF m 11 #[.val (.int p0), .val (.int p1), .unset, .unset, .unset, .unset, .unset] [(.int (0 : Int32))])) (fun t_ k_ => XS.iconst X.here hx rfl (hb hby at_10) k_) ?_
    refine own_via (T' := T) (g' := (mkF m 12 #[.val (.int p0), .val (.int p1), .val (.int (0 : Int32)), .unset, .unset, .unset, .unset] [])) (fun t_ k_ => XS.istoreN X.here hx rfl (hb hby at_11) rfl (l' := #[.val (.int p0), .val (.int p1), .val (.int (0 : Int32)), .unset, .unset, .unset, .unset]) rfl k_) ?_
    refine own_via (T' := T) (g' := (mkF m 13 #[.val (.int p0), .val (.int p1), .val (.int (0 : Int32)), .unset, .unset, .unset, .unset] [(.int p1)])) (fun t_ k_ => XS.iloadN X.here hx rfl (hb hby at_12) rfl k_) ?_
    refine own_via (T' := T) (g' := (mkF m 14 #[.val (.int p0), .val (.int p1), .val (.int (0 : Int32)), .unset, .unset, .unset, .unset] [(.int (2 : Int32)), (.int p1)])) (fun t_ k_ => XS.iconst X.here hx rfl (hb hby at_13) k_) ?_
    refine own_via (T' := T) (g' := (mkF m 15 #[.val (.int p0), .val (.int p1), .val (.int (0 : Int32)), .unset, .unset, .unset, .unset] [(.int (p1 &&& (2 : Int32)))])) (fun t_ k_ => XS.iand X.here hx rfl (hb hby at_14) rfl k_) ?_
    by_cases hc2 : (p1 &&& (2 : Int32)) = (0 : Int32)
    · refine own_via (T' := T) (g' := (mkF m 22 #[.val (.int p0), .val (.int p1), .val (.int (0 : Int32)), .unset, .unset, .unset, .unset] [])) (fun t_ k_ => XS.ifYes X.here hx rfl (pc0 := 15) (pc' := 22) rfl (hb hby at_15) rfl ((if0 _ _).trans (teq hc2).1) (by decide) (by decide) k_) ?_
      refine own_via (T' := T) (g' := (mkF m 23 #[.val (.int p0), .val (.int p1), .val (.int (0 : Int32)), .unset, .unset, .unset, .unset] [(.int (0 : Int32))])) (fun t_ k_ => XS.iconst X.here hx rfl (hb hby at_22) k_) ?_
      refine own_via (T' := T) (g' := (mkF m 24 #[.val (.int p0), .val (.int p1), .val (.int (0 : Int32)), .val (.int (0 : Int32)), .unset, .unset, .unset] [])) (fun t_ k_ => XS.istoreN X.here hx rfl (hb hby at_23) rfl (l' := #[.val (.int p0), .val (.int p1), .val (.int (0 : Int32)), .val (.int (0 : Int32)), .unset, .unset, .unset]) rfl k_) ?_
      refine own_via (T' := T) (g' := (mkF m 25 #[.val (.int p0), .val (.int p1), .val (.int (0 : Int32)), .val (.int (0 : Int32)), .unset, .unset, .unset] [(.int (0 : Int32))])) (fun t_ k_ => XS.iloadN X.here hx rfl (hb hby at_24) rfl k_) ?_
      refine own_via (T' := T) (g' := (mkF m 66 #[.val (.int p0), .val (.int p1), .val (.int (0 : Int32)), .val (.int (0 : Int32)), .unset, .unset, .unset] [])) (fun t_ k_ => XS.ifYes X.here hx rfl (pc0 := 25) (pc' := 66) rfl (hb hby at_25) rfl ((if0 _ _).trans (teq (by decide : (0 : Int32) = (0 : Int32))).1) (by decide) (by decide) k_) ?_
      obtain ⟨_, _, ⟨T, Lq, kq, nq⟩, -, X, ⟨Lc, hQ, lq, yq, zq⟩, st⟩ := Jvm.LawKit.callS X hx (y := (⟨"java/util/Optional", "empty", "()Ljava/util/Optional;"⟩ : MethodName)) hown (mvT hZ (hw _ (List.mem_of_getElem? (i := 107) rfl))) (mvT hZ (hw _ (List.mem_of_getElem? (i := 108) rfl))) (mvT hZ (hw _ (List.mem_of_getElem? (i := 35) rfl))) (mvT hZ (hw _ (List.mem_of_getElem? (i := 109) rfl))) (by decide) (backOf (W := 0) (own_optempty l Z a0 hw [] wEMPTY h n0 O S_EMPTY) hZ (hw _ (List.mem_of_getElem? (i := 109) rfl)) (hw _ (List.mem_of_getElem? (i := 35) rfl)) (by decide) (by decide)) (g := (mkF m 66 #[.val (.int p0), .val (.int p1), .val (.int (0 : Int32)), .val (.int (0 : Int32)), .unset, .unset, .unset] [])) rfl (by rw [hml]; rfl) (argsL := []) (rest := []) (lenOf own_pd7 rfl) rfl (by show 2 * 0 + _ ≤ _; exact Nat.le_of_eq rfl) (hb hby at_66) (fun _ _ => ⟨rfl, eT, (by decide : 0 + 0 ≤ _), (by decide : 0 + 0 ≤ _)⟩)
      dsimp only [Pt.U, Pt.locs, Pt.cells, Pt.slots] at X lq yq zq st hQ
      subst lq yq zq
      obtain ⟨rfl, Nq, eT⟩ := hQ
      replace N := Fr.app N Nq
      refine own_via (g' := (mkF m 69 #[.val (.int p0), .val (.int p1), .val (.int (0 : Int32)), .val (.int (0 : Int32)), .unset, .unset, .unset] [(.ref wEMPTY)])) st ?_
      refine own_via (T' := T) (g' := (mkF m 71 #[.val (.int p0), .val (.int p1), .val (.int (0 : Int32)), .val (.int (0 : Int32)), .unset, .unset, .val (.ref wEMPTY)] [])) (fun t_ k_ => XS.astore X.here hx rfl (hb hby at_69) rfl rfl (l' := #[.val (.int p0), .val (.int p1), .val (.int (0 : Int32)), .val (.int (0 : Int32)), .unset, .unset, .val (.ref wEMPTY)]) rfl k_) ?_
      obtain ⟨b3, gb⟩ : ∃ z, z = h.size := ⟨_, rfl⟩
      obtain ⟨T, h4, X, eT, E, E_b3, Dq, -, st⟩ := newO X hx hZ hown (hw _ (List.mem_of_getElem? (i := 30) rfl)) (hw _ (List.mem_of_getElem? (i := 31) rfl)) (hw _ (List.mem_of_getElem? (i := 32) rfl)) eT (g := (mkF m 71 #[.val (.int p0), .val (.int p1), .val (.int (0 : Int32)), .val (.int (0 : Int32)), .unset, .unset, .val (.ref wEMPTY)] [])) rfl (hb hby at_71) (by decide) (by decide)
      rw [← gb] at E_b3 Dq st
      have g_b3 : n0 ≤ b3 := Nat.le_trans (own_le O) (Nat.le_of_eq gb.symm)
      have sz_b3 : h0.size ≤ b3 := Nat.le_trans K0.1 (Nat.le_of_eq gb.symm)
      replace O := O.ext E
      replace K0 := K0.ext E
      have F_response_b3 : Fld Z h4 b3 "com/example/wise_crawler/wisecrawler/crawl/Answer" "response" "Ljava/util/Optional;" .null := Dq (Or.inr (hw _ (List.mem_of_getElem? (i := 55) rfl))) (ty := (.object "java/util/Optional")) (by decide)
      have F_timedOut_b3 : Fld Z h4 b3 "com/example/wise_crawler/wisecrawler/crawl/Answer" "timedOut" "Z" (.int (0 : Int32)) := Dq (Or.inr (hw _ (List.mem_of_getElem? (i := 57) rfl))) (ty := .boolean) (by decide)
      refine own_via (g' := (mkF m 74 #[.val (.int p0), .val (.int p1), .val (.int (0 : Int32)), .val (.int (0 : Int32)), .unset, .unset, .val (.ref wEMPTY)] [(.ref b3)])) st ?_
      refine own_via (T' := T) (g' := (mkF m 75 #[.val (.int p0), .val (.int p1), .val (.int (0 : Int32)), .val (.int (0 : Int32)), .unset, .unset, .val (.ref wEMPTY)] [(.ref b3), (.ref b3)])) (fun t_ k_ => XS.dup X.here hx rfl (hb hby at_74) rfl rfl k_) ?_
      refine own_via (T' := T) (g' := (mkF m 77 #[.val (.int p0), .val (.int p1), .val (.int (0 : Int32)), .val (.int (0 : Int32)), .unset, .unset, .val (.ref wEMPTY)] [(.ref wEMPTY), (.ref b3), (.ref b3)])) (fun t_ k_ => XS.aload X.here hx rfl (hb hby at_75) rfl rfl k_) ?_
      refine own_via (T' := T) (g' := (mkF m 78 #[.val (.int p0), .val (.int p1), .val (.int (0 : Int32)), .val (.int (0 : Int32)), .unset, .unset, .val (.ref wEMPTY)] [(.int (0 : Int32)), (.ref wEMPTY), (.ref b3), (.ref b3)])) (fun t_ k_ => XS.iloadN X.here hx rfl (hb hby at_77) rfl k_) ?_
      obtain ⟨_, _, ⟨T, Lq, kq, nq⟩, -, X, ⟨Lc, hQ, lq, yq, zq⟩, st⟩ := X.specialBack hx (y := (⟨"com/example/wise_crawler/wisecrawler/crawl/Answer", "<init>", "(Ljava/util/Optional;Z)V"⟩ : MethodName)) rfl hown (mvT hZ (hw _ (List.mem_of_getElem? (i := 50) rfl))) (mvT hZ (hw _ (List.mem_of_getElem? (i := 51) rfl))) (mvT hZ (hw _ (List.mem_of_getElem? (i := 52) rfl))) (by decide) (backOf (W := 1) (own_ansinit l Z a0 hw [] b3 wEMPTY (0 : Int32) h4 n0 O E_b3 F_response_b3 F_timedOut_b3 g_b3) hZ (hw _ (List.mem_of_getElem? (i := 52) rfl)) (hw _ (List.mem_of_getElem? (i := 32) rfl)) (by decide) (by decide)) (g := (mkF m 78 #[.val (.int p0), .val (.int p1), .val (.int (0 : Int32)), .val (.int (0 : Int32)), .unset, .unset, .val (.ref wEMPTY)] [(.int (0 : Int32)), (.ref wEMPTY), (.ref b3), (.ref b3)])) rfl (by rw [hml]; rfl) (Steps.refl _) (a := b3) (argsL := [(.ref wEMPTY), (.int (0 : Int32))]) (rest := [(.ref b3)]) (lenOf own_pd10 rfl) rfl (by show 2 * 0 + _ ≤ _; exact Nat.le_of_eq rfl) (hb hby at_78) (fun _ _ => ⟨rfl, eT, (by decide : 1 + 0 ≤ _), (by decide : 2 + 0 ≤ _)⟩)
      dsimp only [Pt.U, Pt.locs, Pt.cells, Pt.slots] at X lq yq zq st hQ
      subst lq yq zq
      obtain ⟨rfl, Nq, Kq, E_b3, F_response_b3⟩ := hQ
      replace N := Fr.app N Nq
      obtain ⟨h5, eT⟩ : ∃ z, T.heap = z := ⟨_, rfl⟩
      rw [eT] at Kq E_b3 F_response_b3
      replace O := O.keep Kq (allS g_b3 all0)
      replace K0 := K0.trans Kq (allS (Or.inr sz_b3) all0)
      refine own_viaT (g' := (mkF m 81 #[.val (.int p0), .val (.int p1), .val (.int (0 : Int32)), .val (.int (0 : Int32)), .unset, .unset, .val (.ref wEMPTY)] [(.ref b3)])) st ?_
      refine own_via (T' := T) (g' := (mkF m 83 #[.val (.int p0), .val (.int p1), .val (.int (0 : Int32)), .val (.int (0 : Int32)), .val (.ref b3), .unset, .val (.ref wEMPTY)] [])) (fun t_ k_ => XS.astore X.here hx rfl (hb hby at_81) rfl rfl (l' := #[.val (.int p0), .val (.int p1), .val (.int (0 : Int32)), .val (.int (0 : Int32)), .val (.ref b3), .unset, .val (.ref wEMPTY)]) rfl k_) ?_
      refine own_via (T' := T) (g' := (mkF m 84 #[.val (.int p0), .val (.int p1), .val (.int (0 : Int32)), .val (.int (0 : Int32)), .val (.ref b3), .unset, .val (.ref wEMPTY)] [(.int (0 : Int32))])) (fun t_ k_ => XS.iconst X.here hx rfl (hb hby at_83) k_) ?_
      refine own_via (T' := T) (g' := (mkF m 86 #[.val (.int p0), .val (.int p1), .val (.int (0 : Int32)), .val (.int (0 : Int32)), .val (.ref b3), .val (.int (0 : Int32)), .val (.ref wEMPTY)] [])) (fun t_ k_ => XS.istore X.here hx rfl (hb hby at_84) rfl (l' := #[.val (.int p0), .val (.int p1), .val (.int (0 : Int32)), .val (.int (0 : Int32)), .val (.ref b3), .val (.int (0 : Int32)), .val (.ref wEMPTY)]) rfl k_) ?_
      refine own_via (T' := T) (g' := (mkF m 88 #[.val (.int p0), .val (.int p1), .val (.int (0 : Int32)), .val (.int (0 : Int32)), .val (.ref b3), .val (.int (0 : Int32)), .val (.ref wEMPTY)] [(.ref b3)])) (fun t_ k_ => XS.aload X.here hx rfl (hb hby at_86) rfl rfl k_) ?_
      obtain ⟨cq, kq, qa, qb, qc⟩ := isOf hZ eT E_b3
      obtain ⟨_, _, ⟨T, Lq, kq, nq⟩, -, X, ⟨Lc, hQ, lq, yq, zq⟩, st⟩ := X.virtualBack hx (y := (⟨"com/example/wise_crawler/wisecrawler/crawl/Answer", "status", "()I"⟩ : MethodName)) (z := (⟨"com/example/wise_crawler/wisecrawler/crawl/Answer", "status", "()I"⟩ : MethodName)) hown (mvT hZ (hw _ (List.mem_of_getElem? (i := 58) rfl))) (mvT hZ (hw _ (List.mem_of_getElem? (i := 59) rfl))) (notFace_of_selects (args := #[]) (mvT hZ (hw _ (List.mem_of_getElem? (i := 61) rfl)))) (mvT hZ (hw _ (List.mem_of_getElem? (i := 61) rfl))) (mvT hZ (hw _ (List.mem_of_getElem? (i := 60) rfl))) (by decide) (backOf (W := 0) (own_sA l Z a0 hw [] b3 wEMPTY aF cK wCA clCA wEMPTY h5 n0 O LM S_high S_cache BX S_EMPTY E_w F_w F_response_b3 (E_w.ext O.2) (F_w.ext O.2)) hZ (hw _ (List.mem_of_getElem? (i := 62) rfl)) (hw _ (List.mem_of_getElem? (i := 32) rfl)) (by decide) (by decide)) qa qc (g := (mkF m 88 #[.val (.int p0), .val (.int p1), .val (.int (0 : Int32)), .val (.int (0 : Int32)), .val (.ref b3), .val (.int (0 : Int32)), .val (.ref wEMPTY)] [(.ref b3)])) rfl (by rw [hml]; rfl) (Steps.refl _) (argsL := []) (rest := []) (lenOf own_pd4 rfl) rfl (by show 2 * 0 + _ ≤ _; exact Nat.le_of_eq rfl) (hb hby at_88) (fun _ _ => ⟨rfl, eT, (by decide : 1 + 1 ≤ _), (by decide : 2 + 1 ≤ _)⟩)
      dsimp only [Pt.U, Pt.locs, Pt.cells, Pt.slots] at X lq yq zq st hQ
      subst lq yq zq
      obtain ⟨rfl, Nq, Kq⟩ := hQ
      replace N := Fr.app N Nq
      obtain ⟨h6, eT⟩ : ∃ z, T.heap = z := ⟨_, rfl⟩
      rw [eT] at Kq
      replace E_b3 := E_b3.keep Kq
      replace F_response_b3 := F_response_b3.keep Kq nin0
      replace O := O.keep Kq all0
      replace K0 := K0.trans Kq all0
      refine own_viaT (g' := (mkF m 91 #[.val (.int p0), .val (.int p1), .val (.int (0 : Int32)), .val (.int (0 : Int32)), .val (.ref b3), .val (.int (0 : Int32)), .val (.ref wEMPTY)] [(.int (0 : Int32))])) st ?_
      refine own_via (T' := T) (g' := (mkF m 93 #[.val (.int p0), .val (.int p1), .val (.int (0 : Int32)), .val (.int (0 : Int32)), .val (.ref b3), .val (.int (0 : Int32)), .val (.ref wEMPTY)] [(.int (0 : Int32)), (.int (0 : Int32))])) (fun t_ k_ => XS.iload X.here hx rfl (hb hby at_91) rfl k_) ?_
      refine own_via (T' := T) (g' := (mkF m 96 #[.val (.int p0), .val (.int p1), .val (.int (0 : Int32)), .val (.int (0 : Int32)), .val (.ref b3), .val (.int (0 : Int32)), .val (.ref wEMPTY)] [])) (fun t_ k_ => XS.icmpNo X.here hx rfl (hb hby at_93) rfl (teq (by decide : (0 : Int32) = (0 : Int32))).2 k_) ?_
      refine own_via (T' := T) (g' := (mkF m 97 #[.val (.int p0), .val (.int p1), .val (.int (0 : Int32)), .val (.int (0 : Int32)), .val (.ref b3), .val (.int (0 : Int32)), .val (.ref wEMPTY)] [(.int (1 : Int32))])) (fun t_ k_ => XS.iconst X.here hx rfl (hb hby at_96) k_) ?_
      refine own_via (T' := T) (g' := (mkF m 101 #[.val (.int p0), .val (.int p1), .val (.int (0 : Int32)), .val (.int (0 : Int32)), .val (.ref b3), .val (.int (0 : Int32)), .val (.ref wEMPTY)] [(.int (1 : Int32))])) (fun t_ k_ => XS.goto X.here hx rfl (pc0 := 97) (pc' := 101) rfl (hb hby at_97) (by decide) (by decide) k_) ?_
      refine own_retN X hx hlk (t := .boolean) Bd.returns (by simp) (hb hby at_101) (by decide) (by decide) ?_
      rw [eT]
      exact ⟨rfl, N, trivial⟩
    · refine own_via (T' := T) (g' := (mkF m 18 #[.val (.int p0), .val (.int p1), .val (.int (0 : Int32)), .unset, .unset, .unset, .unset] [])) (fun t_ k_ => XS.ifNo X.here hx rfl (hb hby at_15) rfl ((if0 _ _).trans (feq hc2).1) k_) ?_
      refine own_via (T' := T) (g' := (mkF m 19 #[.val (.int p0), .val (.int p1), .val (.int (0 : Int32)), .unset, .unset, .unset, .unset] [(.int (1 : Int32))])) (fun t_ k_ => XS.iconst X.here hx rfl (hb hby at_18) k_) ?_
      refine own_via (T' := T) (g' := (mkF m 23 #[.val (.int p0), .val (.int p1), .val (.int (0 : Int32)), .unset, .unset, .unset, .unset] [(.int (1 : Int32))])) (fun t_ k_ => XS.goto X.here hx rfl (pc0 := 19) (pc' := 23) rfl (hb hby at_19) (by decide) (by decide) k_) ?_
      refine own_via (T' := T) (g' := (mkF m 24 #[.val (.int p0), .val (.int p1), .val (.int (0 : Int32)), .val (.int (1 : Int32)), .unset, .unset, .unset] [])) (fun t_ k_ => XS.istoreN X.here hx rfl (hb hby at_23) rfl (l' := #[.val (.int p0), .val (.int p1), .val (.int (0 : Int32)), .val (.int (1 : Int32)), .unset, .unset, .unset]) rfl k_) ?_
      refine own_via (T' := T) (g' := (mkF m 25 #[.val (.int p0), .val (.int p1), .val (.int (0 : Int32)), .val (.int (1 : Int32)), .unset, .unset, .unset] [(.int (0 : Int32))])) (fun t_ k_ => XS.iloadN X.here hx rfl (hb hby at_24) rfl k_) ?_
      refine own_via (T' := T) (g' := (mkF m 66 #[.val (.int p0), .val (.int p1), .val (.int (0 : Int32)), .val (.int (1 : Int32)), .unset, .unset, .unset] [])) (fun t_ k_ => XS.ifYes X.here hx rfl (pc0 := 25) (pc' := 66) rfl (hb hby at_25) rfl ((if0 _ _).trans (teq (by decide : (0 : Int32) = (0 : Int32))).1) (by decide) (by decide) k_) ?_
      obtain ⟨_, _, ⟨T, Lq, kq, nq⟩, -, X, ⟨Lc, hQ, lq, yq, zq⟩, st⟩ := Jvm.LawKit.callS X hx (y := (⟨"java/util/Optional", "empty", "()Ljava/util/Optional;"⟩ : MethodName)) hown (mvT hZ (hw _ (List.mem_of_getElem? (i := 107) rfl))) (mvT hZ (hw _ (List.mem_of_getElem? (i := 108) rfl))) (mvT hZ (hw _ (List.mem_of_getElem? (i := 35) rfl))) (mvT hZ (hw _ (List.mem_of_getElem? (i := 109) rfl))) (by decide) (backOf (W := 0) (own_optempty l Z a0 hw [] wEMPTY h n0 O S_EMPTY) hZ (hw _ (List.mem_of_getElem? (i := 109) rfl)) (hw _ (List.mem_of_getElem? (i := 35) rfl)) (by decide) (by decide)) (g := (mkF m 66 #[.val (.int p0), .val (.int p1), .val (.int (0 : Int32)), .val (.int (1 : Int32)), .unset, .unset, .unset] [])) rfl (by rw [hml]; rfl) (argsL := []) (rest := []) (lenOf own_pd7 rfl) rfl (by show 2 * 0 + _ ≤ _; exact Nat.le_of_eq rfl) (hb hby at_66) (fun _ _ => ⟨rfl, eT, (by decide : 0 + 0 ≤ _), (by decide : 0 + 0 ≤ _)⟩)
      dsimp only [Pt.U, Pt.locs, Pt.cells, Pt.slots] at X lq yq zq st hQ
      subst lq yq zq
      obtain ⟨rfl, Nq, eT⟩ := hQ
      replace N := Fr.app N Nq
      refine own_via (g' := (mkF m 69 #[.val (.int p0), .val (.int p1), .val (.int (0 : Int32)), .val (.int (1 : Int32)), .unset, .unset, .unset] [(.ref wEMPTY)])) st ?_
      refine own_via (T' := T) (g' := (mkF m 71 #[.val (.int p0), .val (.int p1), .val (.int (0 : Int32)), .val (.int (1 : Int32)), .unset, .unset, .val (.ref wEMPTY)] [])) (fun t_ k_ => XS.astore X.here hx rfl (hb hby at_69) rfl rfl (l' := #[.val (.int p0), .val (.int p1), .val (.int (0 : Int32)), .val (.int (1 : Int32)), .unset, .unset, .val (.ref wEMPTY)]) rfl k_) ?_
      obtain ⟨b7, gb⟩ : ∃ z, z = h.size := ⟨_, rfl⟩
      obtain ⟨T, h8, X, eT, E, E_b7, Dq, -, st⟩ := newO X hx hZ hown (hw _ (List.mem_of_getElem? (i := 30) rfl)) (hw _ (List.mem_of_getElem? (i := 31) rfl)) (hw _ (List.mem_of_getElem? (i := 32) rfl)) eT (g := (mkF m 71 #[.val (.int p0), .val (.int p1), .val (.int (0 : Int32)), .val (.int (1 : Int32)), .unset, .unset, .val (.ref wEMPTY)] [])) rfl (hb hby at_71) (by decide) (by decide)
      rw [← gb] at E_b7 Dq st
      have g_b7 : n0 ≤ b7 := Nat.le_trans (own_le O) (Nat.le_of_eq gb.symm)
      have sz_b7 : h0.size ≤ b7 := Nat.le_trans K0.1 (Nat.le_of_eq gb.symm)
      replace O := O.ext E
      replace K0 := K0.ext E
      have F_response_b7 : Fld Z h8 b7 "com/example/wise_crawler/wisecrawler/crawl/Answer" "response" "Ljava/util/Optional;" .null := Dq (Or.inr (hw _ (List.mem_of_getElem? (i := 55) rfl))) (ty := (.object "java/util/Optional")) (by decide)
      have F_timedOut_b7 : Fld Z h8 b7 "com/example/wise_crawler/wisecrawler/crawl/Answer" "timedOut" "Z" (.int (0 : Int32)) := Dq (Or.inr (hw _ (List.mem_of_getElem? (i := 57) rfl))) (ty := .boolean) (by decide)
      refine own_via (g' := (mkF m 74 #[.val (.int p0), .val (.int p1), .val (.int (0 : Int32)), .val (.int (1 : Int32)), .unset, .unset, .val (.ref wEMPTY)] [(.ref b7)])) st ?_
      refine own_via (T' := T) (g' := (mkF m 75 #[.val (.int p0), .val (.int p1), .val (.int (0 : Int32)), .val (.int (1 : Int32)), .unset, .unset, .val (.ref wEMPTY)] [(.ref b7), (.ref b7)])) (fun t_ k_ => XS.dup X.here hx rfl (hb hby at_74) rfl rfl k_) ?_
      refine own_via (T' := T) (g' := (mkF m 77 #[.val (.int p0), .val (.int p1), .val (.int (0 : Int32)), .val (.int (1 : Int32)), .unset, .unset, .val (.ref wEMPTY)] [(.ref wEMPTY), (.ref b7), (.ref b7)])) (fun t_ k_ => XS.aload X.here hx rfl (hb hby at_75) rfl rfl k_) ?_
      refine own_via (T' := T) (g' := (mkF m 78 #[.val (.int p0), .val (.int p1), .val (.int (0 : Int32)), .val (.int (1 : Int32)), .unset, .unset, .val (.ref wEMPTY)] [(.int (1 : Int32)), (.ref wEMPTY), (.ref b7), (.ref b7)])) (fun t_ k_ => XS.iloadN X.here hx rfl (hb hby at_77) rfl k_) ?_
      obtain ⟨_, _, ⟨T, Lq, kq, nq⟩, -, X, ⟨Lc, hQ, lq, yq, zq⟩, st⟩ := X.specialBack hx (y := (⟨"com/example/wise_crawler/wisecrawler/crawl/Answer", "<init>", "(Ljava/util/Optional;Z)V"⟩ : MethodName)) rfl hown (mvT hZ (hw _ (List.mem_of_getElem? (i := 50) rfl))) (mvT hZ (hw _ (List.mem_of_getElem? (i := 51) rfl))) (mvT hZ (hw _ (List.mem_of_getElem? (i := 52) rfl))) (by decide) (backOf (W := 1) (own_ansinit l Z a0 hw [] b7 wEMPTY (1 : Int32) h8 n0 O E_b7 F_response_b7 F_timedOut_b7 g_b7) hZ (hw _ (List.mem_of_getElem? (i := 52) rfl)) (hw _ (List.mem_of_getElem? (i := 32) rfl)) (by decide) (by decide)) (g := (mkF m 78 #[.val (.int p0), .val (.int p1), .val (.int (0 : Int32)), .val (.int (1 : Int32)), .unset, .unset, .val (.ref wEMPTY)] [(.int (1 : Int32)), (.ref wEMPTY), (.ref b7), (.ref b7)])) rfl (by rw [hml]; rfl) (Steps.refl _) (a := b7) (argsL := [(.ref wEMPTY), (.int (1 : Int32))]) (rest := [(.ref b7)]) (lenOf own_pd10 rfl) rfl (by show 2 * 0 + _ ≤ _; exact Nat.le_of_eq rfl) (hb hby at_78) (fun _ _ => ⟨rfl, eT, (by decide : 1 + 0 ≤ _), (by decide : 2 + 0 ≤ _)⟩)
      dsimp only [Pt.U, Pt.locs, Pt.cells, Pt.slots] at X lq yq zq st hQ
      subst lq yq zq
      obtain ⟨rfl, Nq, Kq, E_b7, F_response_b7⟩ := hQ
      replace N := Fr.app N Nq
      obtain ⟨h9, eT⟩ : ∃ z, T.heap = z := ⟨_, rfl⟩
      rw [eT] at Kq E_b7 F_response_b7
      replace O := O.keep Kq (allS g_b7 all0)
      replace K0 := K0.trans Kq (allS (Or.inr sz_b7) all0)
      refine own_viaT (g' := (mkF m 81 #[.val (.int p0), .val (.int p1), .val (.int (0 : Int32)), .val (.int (1 : Int32)), .unset, .unset, .val (.ref wEMPTY)] [(.ref b7)])) st ?_
      refine own_via (T' := T) (g' := (mkF m 83 #[.val (.int p0), .val (.int p1), .val (.int (0 : Int32)), .val (.int (1 : Int32)), .val (.ref b7), .unset, .val (.ref wEMPTY)] [])) (fun t_ k_ => XS.astore X.here hx rfl (hb hby at_81) rfl rfl (l' := #[.val (.int p0), .val (.int p1), .val (.int (0 : Int32)), .val (.int (1 : Int32)), .val (.ref b7), .unset, .val (.ref wEMPTY)]) rfl k_) ?_
      refine own_via (T' := T) (g' := (mkF m 84 #[.val (.int p0), .val (.int p1), .val (.int (0 : Int32)), .val (.int (1 : Int32)), .val (.ref b7), .unset, .val (.ref wEMPTY)] [(.int (0 : Int32))])) (fun t_ k_ => XS.iconst X.here hx rfl (hb hby at_83) k_) ?_
      refine own_via (T' := T) (g' := (mkF m 86 #[.val (.int p0), .val (.int p1), .val (.int (0 : Int32)), .val (.int (1 : Int32)), .val (.ref b7), .val (.int (0 : Int32)), .val (.ref wEMPTY)] [])) (fun t_ k_ => XS.istore X.here hx rfl (hb hby at_84) rfl (l' := #[.val (.int p0), .val (.int p1), .val (.int (0 : Int32)), .val (.int (1 : Int32)), .val (.ref b7), .val (.int (0 : Int32)), .val (.ref wEMPTY)]) rfl k_) ?_
      refine own_via (T' := T) (g' := (mkF m 88 #[.val (.int p0), .val (.int p1), .val (.int (0 : Int32)), .val (.int (1 : Int32)), .val (.ref b7), .val (.int (0 : Int32)), .val (.ref wEMPTY)] [(.ref b7)])) (fun t_ k_ => XS.aload X.here hx rfl (hb hby at_86) rfl rfl k_) ?_
      obtain ⟨cq, kq, qa, qb, qc⟩ := isOf hZ eT E_b7
      obtain ⟨_, _, ⟨T, Lq, kq, nq⟩, -, X, ⟨Lc, hQ, lq, yq, zq⟩, st⟩ := X.virtualBack hx (y := (⟨"com/example/wise_crawler/wisecrawler/crawl/Answer", "status", "()I"⟩ : MethodName)) (z := (⟨"com/example/wise_crawler/wisecrawler/crawl/Answer", "status", "()I"⟩ : MethodName)) hown (mvT hZ (hw _ (List.mem_of_getElem? (i := 58) rfl))) (mvT hZ (hw _ (List.mem_of_getElem? (i := 59) rfl))) (notFace_of_selects (args := #[]) (mvT hZ (hw _ (List.mem_of_getElem? (i := 61) rfl)))) (mvT hZ (hw _ (List.mem_of_getElem? (i := 61) rfl))) (mvT hZ (hw _ (List.mem_of_getElem? (i := 60) rfl))) (by decide) (backOf (W := 0) (own_sA l Z a0 hw [] b7 wEMPTY aF cK wCA clCA wEMPTY h9 n0 O LM S_high S_cache BX S_EMPTY E_w F_w F_response_b7 (E_w.ext O.2) (F_w.ext O.2)) hZ (hw _ (List.mem_of_getElem? (i := 62) rfl)) (hw _ (List.mem_of_getElem? (i := 32) rfl)) (by decide) (by decide)) qa qc (g := (mkF m 88 #[.val (.int p0), .val (.int p1), .val (.int (0 : Int32)), .val (.int (1 : Int32)), .val (.ref b7), .val (.int (0 : Int32)), .val (.ref wEMPTY)] [(.ref b7)])) rfl (by rw [hml]; rfl) (Steps.refl _) (argsL := []) (rest := []) (lenOf own_pd4 rfl) rfl (by show 2 * 0 + _ ≤ _; exact Nat.le_of_eq rfl) (hb hby at_88) (fun _ _ => ⟨rfl, eT, (by decide : 1 + 1 ≤ _), (by decide : 2 + 1 ≤ _)⟩)
      dsimp only [Pt.U, Pt.locs, Pt.cells, Pt.slots] at X lq yq zq st hQ
      subst lq yq zq
      obtain ⟨rfl, Nq, Kq⟩ := hQ
      replace N := Fr.app N Nq
      obtain ⟨h10, eT⟩ : ∃ z, T.heap = z := ⟨_, rfl⟩
      rw [eT] at Kq
      replace E_b7 := E_b7.keep Kq
      replace F_response_b7 := F_response_b7.keep Kq nin0
      replace O := O.keep Kq all0
      replace K0 := K0.trans Kq all0
      refine own_viaT (g' := (mkF m 91 #[.val (.int p0), .val (.int p1), .val (.int (0 : Int32)), .val (.int (1 : Int32)), .val (.ref b7), .val (.int (0 : Int32)), .val (.ref wEMPTY)] [(.int (0 : Int32))])) st ?_
      refine own_via (T' := T) (g' := (mkF m 93 #[.val (.int p0), .val (.int p1), .val (.int (0 : Int32)), .val (.int (1 : Int32)), .val (.ref b7), .val (.int (0 : Int32)), .val (.ref wEMPTY)] [(.int (0 : Int32)), (.int (0 : Int32))])) (fun t_ k_ => XS.iload X.here hx rfl (hb hby at_91) rfl k_) ?_
      refine own_via (T' := T) (g' := (mkF m 96 #[.val (.int p0), .val (.int p1), .val (.int (0 : Int32)), .val (.int (1 : Int32)), .val (.ref b7), .val (.int (0 : Int32)), .val (.ref wEMPTY)] [])) (fun t_ k_ => XS.icmpNo X.here hx rfl (hb hby at_93) rfl (teq (by decide : (0 : Int32) = (0 : Int32))).2 k_) ?_
      refine own_via (T' := T) (g' := (mkF m 97 #[.val (.int p0), .val (.int p1), .val (.int (0 : Int32)), .val (.int (1 : Int32)), .val (.ref b7), .val (.int (0 : Int32)), .val (.ref wEMPTY)] [(.int (1 : Int32))])) (fun t_ k_ => XS.iconst X.here hx rfl (hb hby at_96) k_) ?_
      refine own_via (T' := T) (g' := (mkF m 101 #[.val (.int p0), .val (.int p1), .val (.int (0 : Int32)), .val (.int (1 : Int32)), .val (.ref b7), .val (.int (0 : Int32)), .val (.ref wEMPTY)] [(.int (1 : Int32))])) (fun t_ k_ => XS.goto X.here hx rfl (pc0 := 97) (pc' := 101) rfl (hb hby at_97) (by decide) (by decide) k_) ?_
      refine own_retN X hx hlk (t := .boolean) Bd.returns (by simp) (hb hby at_101) (by decide) (by decide) ?_
      rw [eT]
      exact ⟨rfl, N, trivial⟩
  · refine own_via (T' := T) (g' := (mkF m 6 #[.val (.int p0), .val (.int p1), .unset, .unset, .unset, .unset, .unset] [])) (fun t_ k_ => XS.ifNo X.here hx rfl (hb hby at_3) rfl ((if0 _ _).trans (feq hc1).1) k_) ?_
    refine own_via (T' := T) (g' := (mkF m 7 #[.val (.int p0), .val (.int p1), .unset, .unset, .unset, .unset, .unset] [(.int (1 : Int32))])) (fun t_ k_ => XS.iconst X.here hx rfl (hb hby at_6) k_) ?_
    refine own_via (T' := T) (g' := (mkF m 11 #[.val (.int p0), .val (.int p1), .unset, .unset, .unset, .unset, .unset] [(.int (1 : Int32))])) (fun t_ k_ => XS.goto X.here hx rfl (pc0 := 7) (pc' := 11) rfl (hb hby at_7) (by decide) (by decide) k_) ?_
    refine own_via (T' := T) (g' := (mkF m 12 #[.val (.int p0), .val (.int p1), .val (.int (1 : Int32)), .unset, .unset, .unset, .unset] [])) (fun t_ k_ => XS.istoreN X.here hx rfl (hb hby at_11) rfl (l' := #[.val (.int p0), .val (.int p1), .val (.int (1 : Int32)), .unset, .unset, .unset, .unset]) rfl k_) ?_
    refine own_via (T' := T) (g' := (mkF m 13 #[.val (.int p0), .val (.int p1), .val (.int (1 : Int32)), .unset, .unset, .unset, .unset] [(.int p1)])) (fun t_ k_ => XS.iloadN X.here hx rfl (hb hby at_12) rfl k_) ?_
    refine own_via (T' := T) (g' := (mkF m 14 #[.val (.int p0), .val (.int p1), .val (.int (1 : Int32)), .unset, .unset, .unset, .unset] [(.int (2 : Int32)), (.int p1)])) (fun t_ k_ => XS.iconst X.here hx rfl (hb hby at_13) k_) ?_
    refine own_via (T' := T) (g' := (mkF m 15 #[.val (.int p0), .val (.int p1), .val (.int (1 : Int32)), .unset, .unset, .unset, .unset] [(.int (p1 &&& (2 : Int32)))])) (fun t_ k_ => XS.iand X.here hx rfl (hb hby at_14) rfl k_) ?_
    by_cases hc11 : (p1 &&& (2 : Int32)) = (0 : Int32)
    · refine own_via (T' := T) (g' := (mkF m 22 #[.val (.int p0), .val (.int p1), .val (.int (1 : Int32)), .unset, .unset, .unset, .unset] [])) (fun t_ k_ => XS.ifYes X.here hx rfl (pc0 := 15) (pc' := 22) rfl (hb hby at_15) rfl ((if0 _ _).trans (teq hc11).1) (by decide) (by decide) k_) ?_
      refine own_via (T' := T) (g' := (mkF m 23 #[.val (.int p0), .val (.int p1), .val (.int (1 : Int32)), .unset, .unset, .unset, .unset] [(.int (0 : Int32))])) (fun t_ k_ => XS.iconst X.here hx rfl (hb hby at_22) k_) ?_
      refine own_via (T' := T) (g' := (mkF m 24 #[.val (.int p0), .val (.int p1), .val (.int (1 : Int32)), .val (.int (0 : Int32)), .unset, .unset, .unset] [])) (fun t_ k_ => XS.istoreN X.here hx rfl (hb hby at_23) rfl (l' := #[.val (.int p0), .val (.int p1), .val (.int (1 : Int32)), .val (.int (0 : Int32)), .unset, .unset, .unset]) rfl k_) ?_
      refine own_via (T' := T) (g' := (mkF m 25 #[.val (.int p0), .val (.int p1), .val (.int (1 : Int32)), .val (.int (0 : Int32)), .unset, .unset, .unset] [(.int (1 : Int32))])) (fun t_ k_ => XS.iloadN X.here hx rfl (hb hby at_24) rfl k_) ?_
      refine own_via (T' := T) (g' := (mkF m 28 #[.val (.int p0), .val (.int p1), .val (.int (1 : Int32)), .val (.int (0 : Int32)), .unset, .unset, .unset] [])) (fun t_ k_ => XS.ifNo X.here hx rfl (hb hby at_25) rfl ((if0 _ _).trans (feq (by decide : ¬ ((1 : Int32) = (0 : Int32)))).1) k_) ?_
      obtain ⟨b12, gb⟩ : ∃ z, z = h.size := ⟨_, rfl⟩
      obtain ⟨T, h13, X, eT, E, E_b12, Dq, -, st⟩ := newO X hx hZ hown (hw _ (List.mem_of_getElem? (i := 0) rfl)) (hw _ (List.mem_of_getElem? (i := 1) rfl)) (hw _ (List.mem_of_getElem? (i := 2) rfl)) eT (g := (mkF m 28 #[.val (.int p0), .val (.int p1), .val (.int (1 : Int32)), .val (.int (0 : Int32)), .unset, .unset, .unset] [])) rfl (hb hby at_28) (by decide) (by decide)
      rw [← gb] at E_b12 Dq st
      have g_b12 : n0 ≤ b12 := Nat.le_trans (own_le O) (Nat.le_of_eq gb.symm)
      have sz_b12 : h0.size ≤ b12 := Nat.le_trans K0.1 (Nat.le_of_eq gb.symm)
      replace O := O.ext E
      replace K0 := K0.ext E
      have F_url_b12 : Fld Z h13 b12 "com/example/wise_crawler/wisecrawler/fetch/Exchange" "url" "Lcom/example/wise_crawler/wisecrawler/url/CanonicalUrl;" .null := Dq (Or.inr (hw _ (List.mem_of_getElem? (i := 15) rfl))) (ty := (.object "com/example/wise_crawler/wisecrawler/url/CanonicalUrl")) (by decide)
      have F_date_b12 : Fld Z h13 b12 "com/example/wise_crawler/wisecrawler/fetch/Exchange" "date" "Ljava/time/Instant;" .null := Dq (Or.inr (hw _ (List.mem_of_getElem? (i := 17) rfl))) (ty := (.object "java/time/Instant")) (by decide)
      have F_protocol_b12 : Fld Z h13 b12 "com/example/wise_crawler/wisecrawler/fetch/Exchange" "protocol" "Ljava/lang/String;" .null := Dq (Or.inr (hw _ (List.mem_of_getElem? (i := 19) rfl))) (ty := (.object "java/lang/String")) (by decide)
      have F_requestHeaders_b12 : Fld Z h13 b12 "com/example/wise_crawler/wisecrawler/fetch/Exchange" "requestHeaders" "Lcom/example/wise_crawler/wisecrawler/fetch/HeaderFields;" .null := Dq (Or.inr (hw _ (List.mem_of_getElem? (i := 21) rfl))) (ty := (.object "com/example/wise_crawler/wisecrawler/fetch/HeaderFields")) (by decide)
      have F_status_b12 : Fld Z h13 b12 "com/example/wise_crawler/wisecrawler/fetch/Exchange" "status" "I" (.int (0 : Int32)) := Dq (Or.inr (hw _ (List.mem_of_getElem? (i := 23) rfl))) (ty := .int) (by decide)
      have F_responseHeaders_b12 : Fld Z h13 b12 "com/example/wise_crawler/wisecrawler/fetch/Exchange" "responseHeaders" "Lcom/example/wise_crawler/wisecrawler/fetch/HeaderFields;" .null := Dq (Or.inr (hw _ (List.mem_of_getElem? (i := 25) rfl))) (ty := (.object "com/example/wise_crawler/wisecrawler/fetch/HeaderFields")) (by decide)
      have F_body_b12 : Fld Z h13 b12 "com/example/wise_crawler/wisecrawler/fetch/Exchange" "body" "Lcom/example/wise_crawler/wisecrawler/fetch/SpooledBytes;" .null := Dq (Or.inr (hw _ (List.mem_of_getElem? (i := 27) rfl))) (ty := (.object "com/example/wise_crawler/wisecrawler/fetch/SpooledBytes")) (by decide)
      have F_truncation_b12 : Fld Z h13 b12 "com/example/wise_crawler/wisecrawler/fetch/Exchange" "truncation" "Ljava/util/Optional;" .null := Dq (Or.inr (hw _ (List.mem_of_getElem? (i := 29) rfl))) (ty := (.object "java/util/Optional")) (by decide)
      refine own_via (g' := (mkF m 31 #[.val (.int p0), .val (.int p1), .val (.int (1 : Int32)), .val (.int (0 : Int32)), .unset, .unset, .unset] [(.ref b12)])) st ?_
      refine own_via (T' := T) (g' := (mkF m 32 #[.val (.int p0), .val (.int p1), .val (.int (1 : Int32)), .val (.int (0 : Int32)), .unset, .unset, .unset] [(.ref b12), (.ref b12)])) (fun t_ k_ => XS.dup X.here hx rfl (hb hby at_31) rfl rfl k_) ?_
      refine own_via (T' := T) (g' := (mkF m 33 #[.val (.int p0), .val (.int p1), .val (.int (1 : Int32)), .val (.int (0 : Int32)), .unset, .unset, .unset] [.null, (.ref b12), (.ref b12)])) (fun t_ k_ => XS.aconstNull X.here hx rfl (hb hby at_32) k_) ?_
      refine own_via (T' := T) (g' := (mkF m 34 #[.val (.int p0), .val (.int p1), .val (.int (1 : Int32)), .val (.int (0 : Int32)), .unset, .unset, .unset] [.null, .null, (.ref b12), (.ref b12)])) (fun t_ k_ => XS.aconstNull X.here hx rfl (hb hby at_33) k_) ?_
      refine own_via (T' := T) (g' := (mkF m 35 #[.val (.int p0), .val (.int p1), .val (.int (1 : Int32)), .val (.int (0 : Int32)), .unset, .unset, .unset] [.null, .null, .null, (.ref b12), (.ref b12)])) (fun t_ k_ => XS.aconstNull X.here hx rfl (hb hby at_34) k_) ?_
      refine own_via (T' := T) (g' := (mkF m 36 #[.val (.int p0), .val (.int p1), .val (.int (1 : Int32)), .val (.int (0 : Int32)), .unset, .unset, .unset] [.null, .null, .null, .null, (.ref b12), (.ref b12)])) (fun t_ k_ => XS.aconstNull X.here hx rfl (hb hby at_35) k_) ?_
      refine own_via (T' := T) (g' := (mkF m 37 #[.val (.int p0), .val (.int p1), .val (.int (1 : Int32)), .val (.int (0 : Int32)), .unset, .unset, .unset] [(.int p0), .null, .null, .null, .null, (.ref b12), (.ref b12)])) (fun t_ k_ => XS.iloadN X.here hx rfl (hb hby at_36) rfl k_) ?_
      refine own_via (T' := T) (g' := (mkF m 38 #[.val (.int p0), .val (.int p1), .val (.int (1 : Int32)), .val (.int (0 : Int32)), .unset, .unset, .unset] [.null, (.int p0), .null, .null, .null, .null, (.ref b12), (.ref b12)])) (fun t_ k_ => XS.aconstNull X.here hx rfl (hb hby at_37) k_) ?_
      refine own_via (T' := T) (g' := (mkF m 39 #[.val (.int p0), .val (.int p1), .val (.int (1 : Int32)), .val (.int (0 : Int32)), .unset, .unset, .unset] [.null, .null, (.int p0), .null, .null, .null, .null, (.ref b12), (.ref b12)])) (fun t_ k_ => XS.aconstNull X.here hx rfl (hb hby at_38) k_) ?_
      refine own_via (T' := T) (g' := (mkF m 40 #[.val (.int p0), .val (.int p1), .val (.int (1 : Int32)), .val (.int (0 : Int32)), .unset, .unset, .unset] [.null, .null, .null, (.int p0), .null, .null, .null, .null, (.ref b12), (.ref b12)])) (fun t_ k_ => XS.aconstNull X.here hx rfl (hb hby at_39) k_) ?_
      obtain ⟨_, _, ⟨T, Lq, kq, nq⟩, -, X, ⟨Lc, hQ, lq, yq, zq⟩, st⟩ := X.specialBack hx (y := (⟨"com/example/wise_crawler/wisecrawler/fetch/Exchange", "<init>", "(Lcom/example/wise_crawler/wisecrawler/url/CanonicalUrl;Ljava/time/Instant;Ljava/lang/String;Lcom/example/wise_crawler/wisecrawler/fetch/HeaderFields;ILcom/example/wise_crawler/wisecrawler/fetch/HeaderFields;Lcom/example/wise_crawler/wisecrawler/fetch/SpooledBytes;Ljava/util/Optional;)V"⟩ : MethodName)) rfl hown (mvT hZ (hw _ (List.mem_of_getElem? (i := 3) rfl))) (mvT hZ (hw _ (List.mem_of_getElem? (i := 4) rfl))) (mvT hZ (hw _ (List.mem_of_getElem? (i := 5) rfl))) (by decide) (backOf (W := 1) (own_exch l Z a0 hw [] b12 p0 h13 n0 O E_b12 F_url_b12 F_date_b12 F_protocol_b12 F_requestHeaders_b12 F_status_b12 F_responseHeaders_b12 F_body_b12 F_truncation_b12 g_b12) hZ (hw _ (List.mem_of_getElem? (i := 5) rfl)) (hw _ (List.mem_of_getElem? (i := 2) rfl)) (by decide) (by decide)) (g := (mkF m 40 #[.val (.int p0), .val (.int p1), .val (.int (1 : Int32)), .val (.int (0 : Int32)), .unset, .unset, .unset] [.null, .null, .null, (.int p0), .null, .null, .null, .null, (.ref b12), (.ref b12)])) rfl (by rw [hml]; rfl) (Steps.refl _) (a := b12) (argsL := [.null, .null, .null, .null, (.int p0), .null, .null, .null]) (rest := [(.ref b12)]) (lenOf own_pd11 rfl) rfl (by show 2 * 0 + _ ≤ _; exact Nat.le_of_eq rfl) (hb hby at_40) (fun _ _ => ⟨rfl, eT, (by decide : 1 + 0 ≤ _), (by decide : 8 + 0 ≤ _)⟩)
      dsimp only [Pt.U, Pt.locs, Pt.cells, Pt.slots] at X lq yq zq st hQ
      subst lq yq zq
      obtain ⟨rfl, Nq, Kq, E_b12, F_status_b12⟩ := hQ
      replace N := Fr.app N Nq
      obtain ⟨h14, eT⟩ : ∃ z, T.heap = z := ⟨_, rfl⟩
      rw [eT] at Kq E_b12 F_status_b12
      replace O := O.keep Kq (allS g_b12 all0)
      replace K0 := K0.trans Kq (allS (Or.inr sz_b12) all0)
      refine own_viaT (g' := (mkF m 43 #[.val (.int p0), .val (.int p1), .val (.int (1 : Int32)), .val (.int (0 : Int32)), .unset, .unset, .unset] [(.ref b12)])) st ?_
      refine own_via (T' := T) (g' := (mkF m 45 #[.val (.int p0), .val (.int p1), .val (.int (1 : Int32)), .val (.int (0 : Int32)), .unset, .unset, .val (.ref b12)] [])) (fun t_ k_ => XS.astore X.here hx rfl (hb hby at_43) rfl rfl (l' := #[.val (.int p0), .val (.int p1), .val (.int (1 : Int32)), .val (.int (0 : Int32)), .unset, .unset, .val (.ref b12)]) rfl k_) ?_
      obtain ⟨b15, gb⟩ : ∃ z, z = h14.size := ⟨_, rfl⟩
      obtain ⟨T, h16, X, eT, E, E_b15, Dq, -, st⟩ := newO X hx hZ hown (hw _ (List.mem_of_getElem? (i := 30) rfl)) (hw _ (List.mem_of_getElem? (i := 31) rfl)) (hw _ (List.mem_of_getElem? (i := 32) rfl)) eT (g := (mkF m 45 #[.val (.int p0), .val (.int p1), .val (.int (1 : Int32)), .val (.int (0 : Int32)), .unset, .unset, .val (.ref b12)] [])) rfl (hb hby at_45) (by decide) (by decide)
      rw [← gb] at E_b15 Dq st
      have ne_b12_b15 : b12 ≠ b15 := Nat.ne_of_lt (Nat.lt_of_lt_of_le E_b12.lt (Nat.le_of_eq gb.symm))
      have g_b15 : n0 ≤ b15 := Nat.le_trans (own_le O) (Nat.le_of_eq gb.symm)
      have sz_b15 : h0.size ≤ b15 := Nat.le_trans K0.1 (Nat.le_of_eq gb.symm)
      replace E_b12 := E_b12.ext E
      replace F_status_b12 := F_status_b12.ext E
      replace O := O.ext E
      replace K0 := K0.ext E
      have F_response_b15 : Fld Z h16 b15 "com/example/wise_crawler/wisecrawler/crawl/Answer" "response" "Ljava/util/Optional;" .null := Dq (Or.inr (hw _ (List.mem_of_getElem? (i := 55) rfl))) (ty := (.object "java/util/Optional")) (by decide)
      have F_timedOut_b15 : Fld Z h16 b15 "com/example/wise_crawler/wisecrawler/crawl/Answer" "timedOut" "Z" (.int (0 : Int32)) := Dq (Or.inr (hw _ (List.mem_of_getElem? (i := 57) rfl))) (ty := .boolean) (by decide)
      refine own_via (g' := (mkF m 48 #[.val (.int p0), .val (.int p1), .val (.int (1 : Int32)), .val (.int (0 : Int32)), .unset, .unset, .val (.ref b12)] [(.ref b15)])) st ?_
      refine own_via (T' := T) (g' := (mkF m 49 #[.val (.int p0), .val (.int p1), .val (.int (1 : Int32)), .val (.int (0 : Int32)), .unset, .unset, .val (.ref b12)] [(.ref b15), (.ref b15)])) (fun t_ k_ => XS.dup X.here hx rfl (hb hby at_48) rfl rfl k_) ?_
      refine own_via (T' := T) (g' := (mkF m 51 #[.val (.int p0), .val (.int p1), .val (.int (1 : Int32)), .val (.int (0 : Int32)), .unset, .unset, .val (.ref b12)] [(.ref b12), (.ref b15), (.ref b15)])) (fun t_ k_ => XS.aload X.here hx rfl (hb hby at_49) rfl rfl k_) ?_
      obtain ⟨_, _, ⟨T, Lq, kq, nq⟩, -, X, ⟨Lc, hQ, lq, yq, zq⟩, st⟩ := Jvm.LawKit.callS X hx (y := (⟨"java/util/Optional", "of", "(Ljava/lang/Object;)Ljava/util/Optional;"⟩ : MethodName)) hown (mvT hZ (hw _ (List.mem_of_getElem? (i := 33) rfl))) (mvT hZ (hw _ (List.mem_of_getElem? (i := 34) rfl))) (mvT hZ (hw _ (List.mem_of_getElem? (i := 35) rfl))) (mvT hZ (hw _ (List.mem_of_getElem? (i := 36) rfl))) (by decide) (backOf (W := 2) (own_optof l Z a0 hw [] b12 h16 n0 O ) hZ (hw _ (List.mem_of_getElem? (i := 36) rfl)) (hw _ (List.mem_of_getElem? (i := 35) rfl)) (by decide) (by decide)) (g := (mkF m 51 #[.val (.int p0), .val (.int p1), .val (.int (1 : Int32)), .val (.int (0 : Int32)), .unset, .unset, .val (.ref b12)] [(.ref b12), (.ref b15), (.ref b15)])) rfl (by rw [hml]; rfl) (argsL := [(.ref b12)]) (rest := [(.ref b15), (.ref b15)]) (lenOf own_pd8 rfl) rfl (by show 2 * 0 + _ ≤ _; exact Nat.le_of_eq rfl) (hb hby at_51) (fun _ _ => ⟨rfl, eT, (by decide : 2 + 1 ≤ _), (by decide : 10 + 1 ≤ _)⟩)
      dsimp only [Pt.U, Pt.locs, Pt.cells, Pt.slots] at X lq yq zq st hQ
      subst lq yq zq
      obtain ⟨r17, rfl, Nq, Kq, szq, E_r17, F_value_r17⟩ := hQ
      replace N := Fr.app N Nq
      obtain ⟨h18, eT⟩ : ∃ z, T.heap = z := ⟨_, rfl⟩
      rw [eT] at Kq E_r17 F_value_r17
      have ne_b12_r17 : b12 ≠ r17 := Nat.ne_of_lt (Nat.lt_of_lt_of_le E_b12.lt szq)
      have ne_b15_r17 : b15 ≠ r17 := Nat.ne_of_lt (Nat.lt_of_lt_of_le E_b15.lt szq)
      have g_r17 : n0 ≤ r17 := Nat.le_trans (own_le O) szq
      have sz_r17 : h0.size ≤ r17 := Nat.le_trans K0.1 szq
      replace E_b12 := E_b12.keep Kq
      replace F_status_b12 := F_status_b12.keep Kq nin0
      replace E_b15 := E_b15.keep Kq
      replace F_response_b15 := F_response_b15.keep Kq nin0
      replace F_timedOut_b15 := F_timedOut_b15.keep Kq nin0
      replace O := O.keep Kq all0
      replace K0 := K0.trans Kq all0
      refine own_via (g' := (mkF m 54 #[.val (.int p0), .val (.int p1), .val (.int (1 : Int32)), .val (.int (0 : Int32)), .unset, .unset, .val (.ref b12)] [(.ref r17), (.ref b15), (.ref b15)])) st ?_
      refine own_via (T' := T) (g' := (mkF m 55 #[.val (.int p0), .val (.int p1), .val (.int (1 : Int32)), .val (.int (0 : Int32)), .unset, .unset, .val (.ref b12)] [(.int (0 : Int32)), (.ref r17), (.ref b15), (.ref b15)])) (fun t_ k_ => XS.iloadN X.here hx rfl (hb hby at_54) rfl k_) ?_
      obtain ⟨_, _, ⟨T, Lq, kq, nq⟩, -, X, ⟨Lc, hQ, lq, yq, zq⟩, st⟩ := X.specialBack hx (y := (⟨"com/example/wise_crawler/wisecrawler/crawl/Answer", "<init>", "(Ljava/util/Optional;Z)V"⟩ : MethodName)) rfl hown (mvT hZ (hw _ (List.mem_of_getElem? (i := 50) rfl))) (mvT hZ (hw _ (List.mem_of_getElem? (i := 51) rfl))) (mvT hZ (hw _ (List.mem_of_getElem? (i := 52) rfl))) (by decide) (backOf (W := 1) (own_ansinit l Z a0 hw [] b15 r17 (0 : Int32) h18 n0 O E_b15 F_response_b15 F_timedOut_b15 g_b15) hZ (hw _ (List.mem_of_getElem? (i := 52) rfl)) (hw _ (List.mem_of_getElem? (i := 32) rfl)) (by decide) (by decide)) (g := (mkF m 55 #[.val (.int p0), .val (.int p1), .val (.int (1 : Int32)), .val (.int (0 : Int32)), .unset, .unset, .val (.ref b12)] [(.int (0 : Int32)), (.ref r17), (.ref b15), (.ref b15)])) rfl (by rw [hml]; rfl) (Steps.refl _) (a := b15) (argsL := [(.ref r17), (.int (0 : Int32))]) (rest := [(.ref b15)]) (lenOf own_pd10 rfl) rfl (by show 2 * 0 + _ ≤ _; exact Nat.le_of_eq rfl) (hb hby at_55) (fun _ _ => ⟨rfl, eT, (by decide : 3 + 0 ≤ _), (by decide : 11 + 0 ≤ _)⟩)
      dsimp only [Pt.U, Pt.locs, Pt.cells, Pt.slots] at X lq yq zq st hQ
      subst lq yq zq
      obtain ⟨rfl, Nq, Kq, E_b15, F_response_b15⟩ := hQ
      replace N := Fr.app N Nq
      obtain ⟨h19, eT⟩ : ∃ z, T.heap = z := ⟨_, rfl⟩
      rw [eT] at Kq E_b15 F_response_b15
      replace E_b12 := E_b12.keep Kq
      replace F_status_b12 := F_status_b12.keep Kq (ninS ne_b12_b15 nin0)
      replace E_r17 := E_r17.keep Kq
      replace F_value_r17 := F_value_r17.keep Kq (ninS (Ne.symm ne_b15_r17) nin0)
      replace O := O.keep Kq (allS g_b15 all0)
      replace K0 := K0.trans Kq (allS (Or.inr sz_b15) all0)
      refine own_viaT (g' := (mkF m 58 #[.val (.int p0), .val (.int p1), .val (.int (1 : Int32)), .val (.int (0 : Int32)), .unset, .unset, .val (.ref b12)] [(.ref b15)])) st ?_
      refine own_via (T' := T) (g' := (mkF m 60 #[.val (.int p0), .val (.int p1), .val (.int (1 : Int32)), .val (.int (0 : Int32)), .val (.ref b15), .unset, .val (.ref b12)] [])) (fun t_ k_ => XS.astore X.here hx rfl (hb hby at_58) rfl rfl (l' := #[.val (.int p0), .val (.int p1), .val (.int (1 : Int32)), .val (.int (0 : Int32)), .val (.ref b15), .unset, .val (.ref b12)]) rfl k_) ?_
      refine own_via (T' := T) (g' := (mkF m 61 #[.val (.int p0), .val (.int p1), .val (.int (1 : Int32)), .val (.int (0 : Int32)), .val (.ref b15), .unset, .val (.ref b12)] [(.int p0)])) (fun t_ k_ => XS.iloadN X.here hx rfl (hb hby at_60) rfl k_) ?_
      refine own_via (T' := T) (g' := (mkF m 63 #[.val (.int p0), .val (.int p1), .val (.int (1 : Int32)), .val (.int (0 : Int32)), .val (.ref b15), .val (.int p0), .val (.ref b12)] [])) (fun t_ k_ => XS.istore X.here hx rfl (hb hby at_61) rfl (l' := #[.val (.int p0), .val (.int p1), .val (.int (1 : Int32)), .val (.int (0 : Int32)), .val (.ref b15), .val (.int p0), .val (.ref b12)]) rfl k_) ?_
      refine own_via (T' := T) (g' := (mkF m 86 #[.val (.int p0), .val (.int p1), .val (.int (1 : Int32)), .val (.int (0 : Int32)), .val (.ref b15), .val (.int p0), .val (.ref b12)] [])) (fun t_ k_ => XS.goto X.here hx rfl (pc0 := 63) (pc' := 86) rfl (hb hby at_63) (by decide) (by decide) k_) ?_
      refine own_via (T' := T) (g' := (mkF m 88 #[.val (.int p0), .val (.int p1), .val (.int (1 : Int32)), .val (.int (0 : Int32)), .val (.ref b15), .val (.int p0), .val (.ref b12)] [(.ref b15)])) (fun t_ k_ => XS.aload X.here hx rfl (hb hby at_86) rfl rfl k_) ?_
      obtain ⟨cq, kq, qa, qb, qc⟩ := isOf hZ eT E_b15
      obtain ⟨_, _, ⟨T, Lq, kq, nq⟩, -, X, ⟨Lc, hQ, lq, yq, zq⟩, st⟩ := X.virtualBack hx (y := (⟨"com/example/wise_crawler/wisecrawler/crawl/Answer", "status", "()I"⟩ : MethodName)) (z := (⟨"com/example/wise_crawler/wisecrawler/crawl/Answer", "status", "()I"⟩ : MethodName)) hown (mvT hZ (hw _ (List.mem_of_getElem? (i := 58) rfl))) (mvT hZ (hw _ (List.mem_of_getElem? (i := 59) rfl))) (notFace_of_selects (args := #[]) (mvT hZ (hw _ (List.mem_of_getElem? (i := 61) rfl)))) (mvT hZ (hw _ (List.mem_of_getElem? (i := 61) rfl))) (mvT hZ (hw _ (List.mem_of_getElem? (i := 60) rfl))) (by decide) (backOf (W := 0) (own_sB l Z a0 hw [] b15 r17 aF cK wCA clCA b12 p0 h19 n0 O LM S_high S_cache BX F_response_b15 E_r17 F_value_r17 E_b12 F_status_b12) hZ (hw _ (List.mem_of_getElem? (i := 62) rfl)) (hw _ (List.mem_of_getElem? (i := 32) rfl)) (by decide) (by decide)) qa qc (g := (mkF m 88 #[.val (.int p0), .val (.int p1), .val (.int (1 : Int32)), .val (.int (0 : Int32)), .val (.ref b15), .val (.int p0), .val (.ref b12)] [(.ref b15)])) rfl (by rw [hml]; rfl) (Steps.refl _) (argsL := []) (rest := []) (lenOf own_pd4 rfl) rfl (by show 2 * 0 + _ ≤ _; exact Nat.le_of_eq rfl) (hb hby at_88) (fun _ _ => ⟨rfl, eT, (by decide : 3 + 3 ≤ _), (by decide : 11 + 3 ≤ _)⟩)
      dsimp only [Pt.U, Pt.locs, Pt.cells, Pt.slots] at X lq yq zq st hQ
      subst lq yq zq
      obtain ⟨rfl, Nq, Kq⟩ := hQ
      replace N := Fr.app N Nq
      obtain ⟨h20, eT⟩ : ∃ z, T.heap = z := ⟨_, rfl⟩
      rw [eT] at Kq
      replace E_b12 := E_b12.keep Kq
      replace F_status_b12 := F_status_b12.keep Kq nin0
      replace E_b15 := E_b15.keep Kq
      replace F_response_b15 := F_response_b15.keep Kq nin0
      replace E_r17 := E_r17.keep Kq
      replace F_value_r17 := F_value_r17.keep Kq nin0
      replace O := O.keep Kq all0
      replace K0 := K0.trans Kq all0
      refine own_viaT (g' := (mkF m 91 #[.val (.int p0), .val (.int p1), .val (.int (1 : Int32)), .val (.int (0 : Int32)), .val (.ref b15), .val (.int p0), .val (.ref b12)] [(.int p0)])) st ?_
      refine own_via (T' := T) (g' := (mkF m 93 #[.val (.int p0), .val (.int p1), .val (.int (1 : Int32)), .val (.int (0 : Int32)), .val (.ref b15), .val (.int p0), .val (.ref b12)] [(.int p0), (.int p0)])) (fun t_ k_ => XS.iload X.here hx rfl (hb hby at_91) rfl k_) ?_
      refine own_via (T' := T) (g' := (mkF m 96 #[.val (.int p0), .val (.int p1), .val (.int (1 : Int32)), .val (.int (0 : Int32)), .val (.ref b15), .val (.int p0), .val (.ref b12)] [])) (fun t_ k_ => XS.icmpNo X.here hx rfl (hb hby at_93) rfl (teq (rfl : p0 = p0)).2 k_) ?_
      refine own_via (T' := T) (g' := (mkF m 97 #[.val (.int p0), .val (.int p1), .val (.int (1 : Int32)), .val (.int (0 : Int32)), .val (.ref b15), .val (.int p0), .val (.ref b12)] [(.int (1 : Int32))])) (fun t_ k_ => XS.iconst X.here hx rfl (hb hby at_96) k_) ?_
      refine own_via (T' := T) (g' := (mkF m 101 #[.val (.int p0), .val (.int p1), .val (.int (1 : Int32)), .val (.int (0 : Int32)), .val (.ref b15), .val (.int p0), .val (.ref b12)] [(.int (1 : Int32))])) (fun t_ k_ => XS.goto X.here hx rfl (pc0 := 97) (pc' := 101) rfl (hb hby at_97) (by decide) (by decide) k_) ?_
      refine own_retN X hx hlk (t := .boolean) Bd.returns (by simp) (hb hby at_101) (by decide) (by decide) ?_
      rw [eT]
      exact ⟨rfl, N, trivial⟩
    · refine own_via (T' := T) (g' := (mkF m 18 #[.val (.int p0), .val (.int p1), .val (.int (1 : Int32)), .unset, .unset, .unset, .unset] [])) (fun t_ k_ => XS.ifNo X.here hx rfl (hb hby at_15) rfl ((if0 _ _).trans (feq hc11).1) k_) ?_
      refine own_via (T' := T) (g' := (mkF m 19 #[.val (.int p0), .val (.int p1), .val (.int (1 : Int32)), .unset, .unset, .unset, .unset] [(.int (1 : Int32))])) (fun t_ k_ => XS.iconst X.here hx rfl (hb hby at_18) k_) ?_
      refine own_via (T' := T) (g' := (mkF m 23 #[.val (.int p0), .val (.int p1), .val (.int (1 : Int32)), .unset, .unset, .unset, .unset] [(.int (1 : Int32))])) (fun t_ k_ => XS.goto X.here hx rfl (pc0 := 19) (pc' := 23) rfl (hb hby at_19) (by decide) (by decide) k_) ?_
      refine own_via (T' := T) (g' := (mkF m 24 #[.val (.int p0), .val (.int p1), .val (.int (1 : Int32)), .val (.int (1 : Int32)), .unset, .unset, .unset] [])) (fun t_ k_ => XS.istoreN X.here hx rfl (hb hby at_23) rfl (l' := #[.val (.int p0), .val (.int p1), .val (.int (1 : Int32)), .val (.int (1 : Int32)), .unset, .unset, .unset]) rfl k_) ?_
      refine own_via (T' := T) (g' := (mkF m 25 #[.val (.int p0), .val (.int p1), .val (.int (1 : Int32)), .val (.int (1 : Int32)), .unset, .unset, .unset] [(.int (1 : Int32))])) (fun t_ k_ => XS.iloadN X.here hx rfl (hb hby at_24) rfl k_) ?_
      refine own_via (T' := T) (g' := (mkF m 28 #[.val (.int p0), .val (.int p1), .val (.int (1 : Int32)), .val (.int (1 : Int32)), .unset, .unset, .unset] [])) (fun t_ k_ => XS.ifNo X.here hx rfl (hb hby at_25) rfl ((if0 _ _).trans (feq (by decide : ¬ ((1 : Int32) = (0 : Int32)))).1) k_) ?_
      obtain ⟨b21, gb⟩ : ∃ z, z = h.size := ⟨_, rfl⟩
      obtain ⟨T, h22, X, eT, E, E_b21, Dq, -, st⟩ := newO X hx hZ hown (hw _ (List.mem_of_getElem? (i := 0) rfl)) (hw _ (List.mem_of_getElem? (i := 1) rfl)) (hw _ (List.mem_of_getElem? (i := 2) rfl)) eT (g := (mkF m 28 #[.val (.int p0), .val (.int p1), .val (.int (1 : Int32)), .val (.int (1 : Int32)), .unset, .unset, .unset] [])) rfl (hb hby at_28) (by decide) (by decide)
      rw [← gb] at E_b21 Dq st
      have g_b21 : n0 ≤ b21 := Nat.le_trans (own_le O) (Nat.le_of_eq gb.symm)
      have sz_b21 : h0.size ≤ b21 := Nat.le_trans K0.1 (Nat.le_of_eq gb.symm)
      replace O := O.ext E
      replace K0 := K0.ext E
      have F_url_b21 : Fld Z h22 b21 "com/example/wise_crawler/wisecrawler/fetch/Exchange" "url" "Lcom/example/wise_crawler/wisecrawler/url/CanonicalUrl;" .null := Dq (Or.inr (hw _ (List.mem_of_getElem? (i := 15) rfl))) (ty := (.object "com/example/wise_crawler/wisecrawler/url/CanonicalUrl")) (by decide)
      have F_date_b21 : Fld Z h22 b21 "com/example/wise_crawler/wisecrawler/fetch/Exchange" "date" "Ljava/time/Instant;" .null := Dq (Or.inr (hw _ (List.mem_of_getElem? (i := 17) rfl))) (ty := (.object "java/time/Instant")) (by decide)
      have F_protocol_b21 : Fld Z h22 b21 "com/example/wise_crawler/wisecrawler/fetch/Exchange" "protocol" "Ljava/lang/String;" .null := Dq (Or.inr (hw _ (List.mem_of_getElem? (i := 19) rfl))) (ty := (.object "java/lang/String")) (by decide)
      have F_requestHeaders_b21 : Fld Z h22 b21 "com/example/wise_crawler/wisecrawler/fetch/Exchange" "requestHeaders" "Lcom/example/wise_crawler/wisecrawler/fetch/HeaderFields;" .null := Dq (Or.inr (hw _ (List.mem_of_getElem? (i := 21) rfl))) (ty := (.object "com/example/wise_crawler/wisecrawler/fetch/HeaderFields")) (by decide)
      have F_status_b21 : Fld Z h22 b21 "com/example/wise_crawler/wisecrawler/fetch/Exchange" "status" "I" (.int (0 : Int32)) := Dq (Or.inr (hw _ (List.mem_of_getElem? (i := 23) rfl))) (ty := .int) (by decide)
      have F_responseHeaders_b21 : Fld Z h22 b21 "com/example/wise_crawler/wisecrawler/fetch/Exchange" "responseHeaders" "Lcom/example/wise_crawler/wisecrawler/fetch/HeaderFields;" .null := Dq (Or.inr (hw _ (List.mem_of_getElem? (i := 25) rfl))) (ty := (.object "com/example/wise_crawler/wisecrawler/fetch/HeaderFields")) (by decide)
      have F_body_b21 : Fld Z h22 b21 "com/example/wise_crawler/wisecrawler/fetch/Exchange" "body" "Lcom/example/wise_crawler/wisecrawler/fetch/SpooledBytes;" .null := Dq (Or.inr (hw _ (List.mem_of_getElem? (i := 27) rfl))) (ty := (.object "com/example/wise_crawler/wisecrawler/fetch/SpooledBytes")) (by decide)
      have F_truncation_b21 : Fld Z h22 b21 "com/example/wise_crawler/wisecrawler/fetch/Exchange" "truncation" "Ljava/util/Optional;" .null := Dq (Or.inr (hw _ (List.mem_of_getElem? (i := 29) rfl))) (ty := (.object "java/util/Optional")) (by decide)
      refine own_via (g' := (mkF m 31 #[.val (.int p0), .val (.int p1), .val (.int (1 : Int32)), .val (.int (1 : Int32)), .unset, .unset, .unset] [(.ref b21)])) st ?_
      refine own_via (T' := T) (g' := (mkF m 32 #[.val (.int p0), .val (.int p1), .val (.int (1 : Int32)), .val (.int (1 : Int32)), .unset, .unset, .unset] [(.ref b21), (.ref b21)])) (fun t_ k_ => XS.dup X.here hx rfl (hb hby at_31) rfl rfl k_) ?_
      refine own_via (T' := T) (g' := (mkF m 33 #[.val (.int p0), .val (.int p1), .val (.int (1 : Int32)), .val (.int (1 : Int32)), .unset, .unset, .unset] [.null, (.ref b21), (.ref b21)])) (fun t_ k_ => XS.aconstNull X.here hx rfl (hb hby at_32) k_) ?_
      refine own_via (T' := T) (g' := (mkF m 34 #[.val (.int p0), .val (.int p1), .val (.int (1 : Int32)), .val (.int (1 : Int32)), .unset, .unset, .unset] [.null, .null, (.ref b21), (.ref b21)])) (fun t_ k_ => XS.aconstNull X.here hx rfl (hb hby at_33) k_) ?_
      refine own_via (T' := T) (g' := (mkF m 35 #[.val (.int p0), .val (.int p1), .val (.int (1 : Int32)), .val (.int (1 : Int32)), .unset, .unset, .unset] [.null, .null, .null, (.ref b21), (.ref b21)])) (fun t_ k_ => XS.aconstNull X.here hx rfl (hb hby at_34) k_) ?_
      refine own_via (T' := T) (g' := (mkF m 36 #[.val (.int p0), .val (.int p1), .val (.int (1 : Int32)), .val (.int (1 : Int32)), .unset, .unset, .unset] [.null, .null, .null, .null, (.ref b21), (.ref b21)])) (fun t_ k_ => XS.aconstNull X.here hx rfl (hb hby at_35) k_) ?_
      refine own_via (T' := T) (g' := (mkF m 37 #[.val (.int p0), .val (.int p1), .val (.int (1 : Int32)), .val (.int (1 : Int32)), .unset, .unset, .unset] [(.int p0), .null, .null, .null, .null, (.ref b21), (.ref b21)])) (fun t_ k_ => XS.iloadN X.here hx rfl (hb hby at_36) rfl k_) ?_
      refine own_via (T' := T) (g' := (mkF m 38 #[.val (.int p0), .val (.int p1), .val (.int (1 : Int32)), .val (.int (1 : Int32)), .unset, .unset, .unset] [.null, (.int p0), .null, .null, .null, .null, (.ref b21), (.ref b21)])) (fun t_ k_ => XS.aconstNull X.here hx rfl (hb hby at_37) k_) ?_
      refine own_via (T' := T) (g' := (mkF m 39 #[.val (.int p0), .val (.int p1), .val (.int (1 : Int32)), .val (.int (1 : Int32)), .unset, .unset, .unset] [.null, .null, (.int p0), .null, .null, .null, .null, (.ref b21), (.ref b21)])) (fun t_ k_ => XS.aconstNull X.here hx rfl (hb hby at_38) k_) ?_
      refine own_via (T' := T) (g' := (mkF m 40 #[.val (.int p0), .val (.int p1), .val (.int (1 : Int32)), .val (.int (1 : Int32)), .unset, .unset, .unset] [.null, .null, .null, (.int p0), .null, .null, .null, .null, (.ref b21), (.ref b21)])) (fun t_ k_ => XS.aconstNull X.here hx rfl (hb hby at_39) k_) ?_
      obtain ⟨_, _, ⟨T, Lq, kq, nq⟩, -, X, ⟨Lc, hQ, lq, yq, zq⟩, st⟩ := X.specialBack hx (y := (⟨"com/example/wise_crawler/wisecrawler/fetch/Exchange", "<init>", "(Lcom/example/wise_crawler/wisecrawler/url/CanonicalUrl;Ljava/time/Instant;Ljava/lang/String;Lcom/example/wise_crawler/wisecrawler/fetch/HeaderFields;ILcom/example/wise_crawler/wisecrawler/fetch/HeaderFields;Lcom/example/wise_crawler/wisecrawler/fetch/SpooledBytes;Ljava/util/Optional;)V"⟩ : MethodName)) rfl hown (mvT hZ (hw _ (List.mem_of_getElem? (i := 3) rfl))) (mvT hZ (hw _ (List.mem_of_getElem? (i := 4) rfl))) (mvT hZ (hw _ (List.mem_of_getElem? (i := 5) rfl))) (by decide) (backOf (W := 1) (own_exch l Z a0 hw [] b21 p0 h22 n0 O E_b21 F_url_b21 F_date_b21 F_protocol_b21 F_requestHeaders_b21 F_status_b21 F_responseHeaders_b21 F_body_b21 F_truncation_b21 g_b21) hZ (hw _ (List.mem_of_getElem? (i := 5) rfl)) (hw _ (List.mem_of_getElem? (i := 2) rfl)) (by decide) (by decide)) (g := (mkF m 40 #[.val (.int p0), .val (.int p1), .val (.int (1 : Int32)), .val (.int (1 : Int32)), .unset, .unset, .unset] [.null, .null, .null, (.int p0), .null, .null, .null, .null, (.ref b21), (.ref b21)])) rfl (by rw [hml]; rfl) (Steps.refl _) (a := b21) (argsL := [.null, .null, .null, .null, (.int p0), .null, .null, .null]) (rest := [(.ref b21)]) (lenOf own_pd11 rfl) rfl (by show 2 * 0 + _ ≤ _; exact Nat.le_of_eq rfl) (hb hby at_40) (fun _ _ => ⟨rfl, eT, (by decide : 1 + 0 ≤ _), (by decide : 8 + 0 ≤ _)⟩)
      dsimp only [Pt.U, Pt.locs, Pt.cells, Pt.slots] at X lq yq zq st hQ
      subst lq yq zq
      obtain ⟨rfl, Nq, Kq, E_b21, F_status_b21⟩ := hQ
      replace N := Fr.app N Nq
      obtain ⟨h23, eT⟩ : ∃ z, T.heap = z := ⟨_, rfl⟩
      rw [eT] at Kq E_b21 F_status_b21
      replace O := O.keep Kq (allS g_b21 all0)
      replace K0 := K0.trans Kq (allS (Or.inr sz_b21) all0)
      refine own_viaT (g' := (mkF m 43 #[.val (.int p0), .val (.int p1), .val (.int (1 : Int32)), .val (.int (1 : Int32)), .unset, .unset, .unset] [(.ref b21)])) st ?_
      refine own_via (T' := T) (g' := (mkF m 45 #[.val (.int p0), .val (.int p1), .val (.int (1 : Int32)), .val (.int (1 : Int32)), .unset, .unset, .val (.ref b21)] [])) (fun t_ k_ => XS.astore X.here hx rfl (hb hby at_43) rfl rfl (l' := #[.val (.int p0), .val (.int p1), .val (.int (1 : Int32)), .val (.int (1 : Int32)), .unset, .unset, .val (.ref b21)]) rfl k_) ?_
      obtain ⟨b24, gb⟩ : ∃ z, z = h23.size := ⟨_, rfl⟩
      obtain ⟨T, h25, X, eT, E, E_b24, Dq, -, st⟩ := newO X hx hZ hown (hw _ (List.mem_of_getElem? (i := 30) rfl)) (hw _ (List.mem_of_getElem? (i := 31) rfl)) (hw _ (List.mem_of_getElem? (i := 32) rfl)) eT (g := (mkF m 45 #[.val (.int p0), .val (.int p1), .val (.int (1 : Int32)), .val (.int (1 : Int32)), .unset, .unset, .val (.ref b21)] [])) rfl (hb hby at_45) (by decide) (by decide)
      rw [← gb] at E_b24 Dq st
      have ne_b21_b24 : b21 ≠ b24 := Nat.ne_of_lt (Nat.lt_of_lt_of_le E_b21.lt (Nat.le_of_eq gb.symm))
      have g_b24 : n0 ≤ b24 := Nat.le_trans (own_le O) (Nat.le_of_eq gb.symm)
      have sz_b24 : h0.size ≤ b24 := Nat.le_trans K0.1 (Nat.le_of_eq gb.symm)
      replace E_b21 := E_b21.ext E
      replace F_status_b21 := F_status_b21.ext E
      replace O := O.ext E
      replace K0 := K0.ext E
      have F_response_b24 : Fld Z h25 b24 "com/example/wise_crawler/wisecrawler/crawl/Answer" "response" "Ljava/util/Optional;" .null := Dq (Or.inr (hw _ (List.mem_of_getElem? (i := 55) rfl))) (ty := (.object "java/util/Optional")) (by decide)
      have F_timedOut_b24 : Fld Z h25 b24 "com/example/wise_crawler/wisecrawler/crawl/Answer" "timedOut" "Z" (.int (0 : Int32)) := Dq (Or.inr (hw _ (List.mem_of_getElem? (i := 57) rfl))) (ty := .boolean) (by decide)
      refine own_via (g' := (mkF m 48 #[.val (.int p0), .val (.int p1), .val (.int (1 : Int32)), .val (.int (1 : Int32)), .unset, .unset, .val (.ref b21)] [(.ref b24)])) st ?_
      refine own_via (T' := T) (g' := (mkF m 49 #[.val (.int p0), .val (.int p1), .val (.int (1 : Int32)), .val (.int (1 : Int32)), .unset, .unset, .val (.ref b21)] [(.ref b24), (.ref b24)])) (fun t_ k_ => XS.dup X.here hx rfl (hb hby at_48) rfl rfl k_) ?_
      refine own_via (T' := T) (g' := (mkF m 51 #[.val (.int p0), .val (.int p1), .val (.int (1 : Int32)), .val (.int (1 : Int32)), .unset, .unset, .val (.ref b21)] [(.ref b21), (.ref b24), (.ref b24)])) (fun t_ k_ => XS.aload X.here hx rfl (hb hby at_49) rfl rfl k_) ?_
      obtain ⟨_, _, ⟨T, Lq, kq, nq⟩, -, X, ⟨Lc, hQ, lq, yq, zq⟩, st⟩ := Jvm.LawKit.callS X hx (y := (⟨"java/util/Optional", "of", "(Ljava/lang/Object;)Ljava/util/Optional;"⟩ : MethodName)) hown (mvT hZ (hw _ (List.mem_of_getElem? (i := 33) rfl))) (mvT hZ (hw _ (List.mem_of_getElem? (i := 34) rfl))) (mvT hZ (hw _ (List.mem_of_getElem? (i := 35) rfl))) (mvT hZ (hw _ (List.mem_of_getElem? (i := 36) rfl))) (by decide) (backOf (W := 2) (own_optof l Z a0 hw [] b21 h25 n0 O ) hZ (hw _ (List.mem_of_getElem? (i := 36) rfl)) (hw _ (List.mem_of_getElem? (i := 35) rfl)) (by decide) (by decide)) (g := (mkF m 51 #[.val (.int p0), .val (.int p1), .val (.int (1 : Int32)), .val (.int (1 : Int32)), .unset, .unset, .val (.ref b21)] [(.ref b21), (.ref b24), (.ref b24)])) rfl (by rw [hml]; rfl) (argsL := [(.ref b21)]) (rest := [(.ref b24), (.ref b24)]) (lenOf own_pd8 rfl) rfl (by show 2 * 0 + _ ≤ _; exact Nat.le_of_eq rfl) (hb hby at_51) (fun _ _ => ⟨rfl, eT, (by decide : 2 + 1 ≤ _), (by decide : 10 + 1 ≤ _)⟩)
      dsimp only [Pt.U, Pt.locs, Pt.cells, Pt.slots] at X lq yq zq st hQ
      subst lq yq zq
      obtain ⟨r26, rfl, Nq, Kq, szq, E_r26, F_value_r26⟩ := hQ
      replace N := Fr.app N Nq
      obtain ⟨h27, eT⟩ : ∃ z, T.heap = z := ⟨_, rfl⟩
      rw [eT] at Kq E_r26 F_value_r26
      have ne_b21_r26 : b21 ≠ r26 := Nat.ne_of_lt (Nat.lt_of_lt_of_le E_b21.lt szq)
      have ne_b24_r26 : b24 ≠ r26 := Nat.ne_of_lt (Nat.lt_of_lt_of_le E_b24.lt szq)
      have g_r26 : n0 ≤ r26 := Nat.le_trans (own_le O) szq
      have sz_r26 : h0.size ≤ r26 := Nat.le_trans K0.1 szq
      replace E_b21 := E_b21.keep Kq
      replace F_status_b21 := F_status_b21.keep Kq nin0
      replace E_b24 := E_b24.keep Kq
      replace F_response_b24 := F_response_b24.keep Kq nin0
      replace F_timedOut_b24 := F_timedOut_b24.keep Kq nin0
      replace O := O.keep Kq all0
      replace K0 := K0.trans Kq all0
      refine own_via (g' := (mkF m 54 #[.val (.int p0), .val (.int p1), .val (.int (1 : Int32)), .val (.int (1 : Int32)), .unset, .unset, .val (.ref b21)] [(.ref r26), (.ref b24), (.ref b24)])) st ?_
      refine own_via (T' := T) (g' := (mkF m 55 #[.val (.int p0), .val (.int p1), .val (.int (1 : Int32)), .val (.int (1 : Int32)), .unset, .unset, .val (.ref b21)] [(.int (1 : Int32)), (.ref r26), (.ref b24), (.ref b24)])) (fun t_ k_ => XS.iloadN X.here hx rfl (hb hby at_54) rfl k_) ?_
      obtain ⟨_, _, ⟨T, Lq, kq, nq⟩, -, X, ⟨Lc, hQ, lq, yq, zq⟩, st⟩ := X.specialBack hx (y := (⟨"com/example/wise_crawler/wisecrawler/crawl/Answer", "<init>", "(Ljava/util/Optional;Z)V"⟩ : MethodName)) rfl hown (mvT hZ (hw _ (List.mem_of_getElem? (i := 50) rfl))) (mvT hZ (hw _ (List.mem_of_getElem? (i := 51) rfl))) (mvT hZ (hw _ (List.mem_of_getElem? (i := 52) rfl))) (by decide) (backOf (W := 1) (own_ansinit l Z a0 hw [] b24 r26 (1 : Int32) h27 n0 O E_b24 F_response_b24 F_timedOut_b24 g_b24) hZ (hw _ (List.mem_of_getElem? (i := 52) rfl)) (hw _ (List.mem_of_getElem? (i := 32) rfl)) (by decide) (by decide)) (g := (mkF m 55 #[.val (.int p0), .val (.int p1), .val (.int (1 : Int32)), .val (.int (1 : Int32)), .unset, .unset, .val (.ref b21)] [(.int (1 : Int32)), (.ref r26), (.ref b24), (.ref b24)])) rfl (by rw [hml]; rfl) (Steps.refl _) (a := b24) (argsL := [(.ref r26), (.int (1 : Int32))]) (rest := [(.ref b24)]) (lenOf own_pd10 rfl) rfl (by show 2 * 0 + _ ≤ _; exact Nat.le_of_eq rfl) (hb hby at_55) (fun _ _ => ⟨rfl, eT, (by decide : 3 + 0 ≤ _), (by decide : 11 + 0 ≤ _)⟩)
      dsimp only [Pt.U, Pt.locs, Pt.cells, Pt.slots] at X lq yq zq st hQ
      subst lq yq zq
      obtain ⟨rfl, Nq, Kq, E_b24, F_response_b24⟩ := hQ
      replace N := Fr.app N Nq
      obtain ⟨h28, eT⟩ : ∃ z, T.heap = z := ⟨_, rfl⟩
      rw [eT] at Kq E_b24 F_response_b24
      replace E_b21 := E_b21.keep Kq
      replace F_status_b21 := F_status_b21.keep Kq (ninS ne_b21_b24 nin0)
      replace E_r26 := E_r26.keep Kq
      replace F_value_r26 := F_value_r26.keep Kq (ninS (Ne.symm ne_b24_r26) nin0)
      replace O := O.keep Kq (allS g_b24 all0)
      replace K0 := K0.trans Kq (allS (Or.inr sz_b24) all0)
      refine own_viaT (g' := (mkF m 58 #[.val (.int p0), .val (.int p1), .val (.int (1 : Int32)), .val (.int (1 : Int32)), .unset, .unset, .val (.ref b21)] [(.ref b24)])) st ?_
      refine own_via (T' := T) (g' := (mkF m 60 #[.val (.int p0), .val (.int p1), .val (.int (1 : Int32)), .val (.int (1 : Int32)), .val (.ref b24), .unset, .val (.ref b21)] [])) (fun t_ k_ => XS.astore X.here hx rfl (hb hby at_58) rfl rfl (l' := #[.val (.int p0), .val (.int p1), .val (.int (1 : Int32)), .val (.int (1 : Int32)), .val (.ref b24), .unset, .val (.ref b21)]) rfl k_) ?_
      refine own_via (T' := T) (g' := (mkF m 61 #[.val (.int p0), .val (.int p1), .val (.int (1 : Int32)), .val (.int (1 : Int32)), .val (.ref b24), .unset, .val (.ref b21)] [(.int p0)])) (fun t_ k_ => XS.iloadN X.here hx rfl (hb hby at_60) rfl k_) ?_
      refine own_via (T' := T) (g' := (mkF m 63 #[.val (.int p0), .val (.int p1), .val (.int (1 : Int32)), .val (.int (1 : Int32)), .val (.ref b24), .val (.int p0), .val (.ref b21)] [])) (fun t_ k_ => XS.istore X.here hx rfl (hb hby at_61) rfl (l' := #[.val (.int p0), .val (.int p1), .val (.int (1 : Int32)), .val (.int (1 : Int32)), .val (.ref b24), .val (.int p0), .val (.ref b21)]) rfl k_) ?_
      refine own_via (T' := T) (g' := (mkF m 86 #[.val (.int p0), .val (.int p1), .val (.int (1 : Int32)), .val (.int (1 : Int32)), .val (.ref b24), .val (.int p0), .val (.ref b21)] [])) (fun t_ k_ => XS.goto X.here hx rfl (pc0 := 63) (pc' := 86) rfl (hb hby at_63) (by decide) (by decide) k_) ?_
      refine own_via (T' := T) (g' := (mkF m 88 #[.val (.int p0), .val (.int p1), .val (.int (1 : Int32)), .val (.int (1 : Int32)), .val (.ref b24), .val (.int p0), .val (.ref b21)] [(.ref b24)])) (fun t_ k_ => XS.aload X.here hx rfl (hb hby at_86) rfl rfl k_) ?_
      obtain ⟨cq, kq, qa, qb, qc⟩ := isOf hZ eT E_b24
      obtain ⟨_, _, ⟨T, Lq, kq, nq⟩, -, X, ⟨Lc, hQ, lq, yq, zq⟩, st⟩ := X.virtualBack hx (y := (⟨"com/example/wise_crawler/wisecrawler/crawl/Answer", "status", "()I"⟩ : MethodName)) (z := (⟨"com/example/wise_crawler/wisecrawler/crawl/Answer", "status", "()I"⟩ : MethodName)) hown (mvT hZ (hw _ (List.mem_of_getElem? (i := 58) rfl))) (mvT hZ (hw _ (List.mem_of_getElem? (i := 59) rfl))) (notFace_of_selects (args := #[]) (mvT hZ (hw _ (List.mem_of_getElem? (i := 61) rfl)))) (mvT hZ (hw _ (List.mem_of_getElem? (i := 61) rfl))) (mvT hZ (hw _ (List.mem_of_getElem? (i := 60) rfl))) (by decide) (backOf (W := 0) (own_sB l Z a0 hw [] b24 r26 aF cK wCA clCA b21 p0 h28 n0 O LM S_high S_cache BX F_response_b24 E_r26 F_value_r26 E_b21 F_status_b21) hZ (hw _ (List.mem_of_getElem? (i := 62) rfl)) (hw _ (List.mem_of_getElem? (i := 32) rfl)) (by decide) (by decide)) qa qc (g := (mkF m 88 #[.val (.int p0), .val (.int p1), .val (.int (1 : Int32)), .val (.int (1 : Int32)), .val (.ref b24), .val (.int p0), .val (.ref b21)] [(.ref b24)])) rfl (by rw [hml]; rfl) (Steps.refl _) (argsL := []) (rest := []) (lenOf own_pd4 rfl) rfl (by show 2 * 0 + _ ≤ _; exact Nat.le_of_eq rfl) (hb hby at_88) (fun _ _ => ⟨rfl, eT, (by decide : 3 + 3 ≤ _), (by decide : 11 + 3 ≤ _)⟩)
      dsimp only [Pt.U, Pt.locs, Pt.cells, Pt.slots] at X lq yq zq st hQ
      subst lq yq zq
      obtain ⟨rfl, Nq, Kq⟩ := hQ
      replace N := Fr.app N Nq
      obtain ⟨h29, eT⟩ : ∃ z, T.heap = z := ⟨_, rfl⟩
      rw [eT] at Kq
      replace E_b21 := E_b21.keep Kq
      replace F_status_b21 := F_status_b21.keep Kq nin0
      replace E_b24 := E_b24.keep Kq
      replace F_response_b24 := F_response_b24.keep Kq nin0
      replace E_r26 := E_r26.keep Kq
      replace F_value_r26 := F_value_r26.keep Kq nin0
      replace O := O.keep Kq all0
      replace K0 := K0.trans Kq all0
      refine own_viaT (g' := (mkF m 91 #[.val (.int p0), .val (.int p1), .val (.int (1 : Int32)), .val (.int (1 : Int32)), .val (.ref b24), .val (.int p0), .val (.ref b21)] [(.int p0)])) st ?_
      refine own_via (T' := T) (g' := (mkF m 93 #[.val (.int p0), .val (.int p1), .val (.int (1 : Int32)), .val (.int (1 : Int32)), .val (.ref b24), .val (.int p0), .val (.ref b21)] [(.int p0), (.int p0)])) (fun t_ k_ => XS.iload X.here hx rfl (hb hby at_91) rfl k_) ?_
      refine own_via (T' := T) (g' := (mkF m 96 #[.val (.int p0), .val (.int p1), .val (.int (1 : Int32)), .val (.int (1 : Int32)), .val (.ref b24), .val (.int p0), .val (.ref b21)] [])) (fun t_ k_ => XS.icmpNo X.here hx rfl (hb hby at_93) rfl (teq (rfl : p0 = p0)).2 k_) ?_
      refine own_via (T' := T) (g' := (mkF m 97 #[.val (.int p0), .val (.int p1), .val (.int (1 : Int32)), .val (.int (1 : Int32)), .val (.ref b24), .val (.int p0), .val (.ref b21)] [(.int (1 : Int32))])) (fun t_ k_ => XS.iconst X.here hx rfl (hb hby at_96) k_) ?_
      refine own_via (T' := T) (g' := (mkF m 101 #[.val (.int p0), .val (.int p1), .val (.int (1 : Int32)), .val (.int (1 : Int32)), .val (.ref b24), .val (.int p0), .val (.ref b21)] [(.int (1 : Int32))])) (fun t_ k_ => XS.goto X.here hx rfl (pc0 := 97) (pc' := 101) rfl (hb hby at_97) (by decide) (by decide) k_) ?_
      refine own_retN X hx hlk (t := .boolean) Bd.returns (by simp) (hb hby at_101) (by decide) (by decide) ?_
      rw [eT]
      exact ⟨rfl, N, trivial⟩
theorem own_lenC {args : Array Value} {s : State} {t : Term} {a : Addr} {c : Cell} {ty : FieldType} {z : Int32} (ev : t.eval args s none [] s = some (.ref a)) (A : Arr s s.heap a c ty) (h : (Term.length t).eval args s none [] s = some (.int z)) : c.slots.size < 2 ^ 31 ∧ c.slots.size.toInt32 = z := by
  have ha := A.fin (Vm.Alike.refl _)
  by_cases hl : c.slots.size < 2 ^ 31
  · rw [len_f ev ha hl] at h
    exact ⟨hl, by cases h; rfl⟩
  · simp [Term.eval, ev, ha, hl] at h
theorem own_subAt {args : Array Value} {Z : State} {j : Int32} (nn : ¬ j < 0) : (Term.sub (Term.index 0) (Term.int 128)).eval args Z none [j.toNatClampNeg] Z = some (.int (j - 128)) := by
  have q := idx_at (args := args) (s := Z) (first := Z) (o := none) nn
  simp only [Term.eval] at q ⊢
  rw [q]
  rfl
set_option maxRecDepth 65536 in
set_option maxHeartbeats 40000000 in
theorem comes_1 {Post : Tables → Env → Array Value → State → Outcome → State → Prop} (hpost : ∀ tb e args s v u, (limb_1_1.after args s (.returned v) u = true ∧ limb_1_2.after args s (.returned v) u = true ∧ True) → FrameEnd s (.returned v) u (Jvm.fieldLocs frame_1_writes args s ++ Jvm.arrayLocs frame_1_arrays args s ++ Jvm.staticLocs frame_1_statics s) 24 128 → Post tb e args s (.returned v) u) :
    ArmFor flags0 classFile x code maxLocals ret World_1 tables_1 room_1 Calls_1 rest_1 Pre_1 Post := by
  intro l hfl _ _ p e ha hc hk s m args below hf hA hF happ hP
  obtain ⟨hcalls, hrest, hpre⟩ := hP
  obtain ⟨-, -, -, hnamed, -, -, -, hat⟩ := (Spec.applies_iff hf).mp happ
  obtain ⟨hg, hn⟩ := and_e (Cond.before_iff.mp (show (Jvm.Cond.and given_1 narrow_1).before args s = true from hpre))
  obtain ⟨hcount, hg1⟩ := and_e hg
  obtain ⟨hv0, hg2⟩ := and_e hg1
  obtain ⟨w0, w1, rfl⟩ : ∃ w0 w1 : Value, args = #[w0, w1] := by
    have hs : args.size = 2 := by simpa [Cond.value, given_1] using hcount
    obtain ⟨L⟩ := args
    match L, hs with
    | [w0, w1], _ => exact ⟨w0, w1, rfl⟩
  have hw := fun d (hd : d ∈ tables_1) => atoms_spec (ws := Jvm.Cond.code x code maxLocals ret :: tables_1) hat d (List.mem_cons_of_mem _ hd)
  have hfit : Fit s := fun {y c} hc i hi => by
    obtain ⟨ha, rfl⟩ := Array.getElem?_eq_some_iff.mp hc
    have q := List.all_eq_true.mp ((Array.all_eq_true_iff_forall_mem.mp hF) _ (Array.getElem_mem ha)) i (List.mem_range.mpr hi)
    simpa [Array.getElem?_eq_getElem hi] using q
  obtain ⟨hsets, hown0⟩ := atoms_of _ (rest_1_c_eq ▸ (show rest_1_c.before _ s = true from hrest))
  have hr0 := Cond.before_iff.mp hown0
  obtain ⟨i0, ei0⟩ := is_v hv0
  obtain rfl : w0 = (.int i0) := Option.some.inj ei0
  obtain ⟨i1, ei1⟩ := is_v hg2
  obtain rfl : w1 = (.int i1) := Option.some.inj ei1
  obtain ⟨wEMPTY, evE⟩ := exa_v (Cond.before_iff.mp (hsets _ (List.mem_of_getElem? (i := 10) rfl)))
  have E_w := Exa.start evE (Cond.before_iff.mp (hsets _ (List.mem_of_getElem? (i := 10) rfl)))
  have S_EMPTY := Sta.start evE (Or.inl (hsets _ (List.mem_of_getElem? (i := 9) rfl)))
  have F_w := Fld.start ((fld_at evE).symm.trans (null_v (Cond.before_iff.mp (hsets _ (List.mem_of_getElem? (i := 11) rfl)))))
  obtain ⟨aF, cK, LM⟩ := own_lamStart (y := (⟨"com/example/wise_crawler/wisecrawler/crawl/Answer", "status", "()I"⟩ : MethodName)) (σ := own_shape) (hw _ (List.mem_of_getElem? (i := 63) rfl)) rfl
  have S_high := Sta.start (own_eqI (Cond.before_iff.mp (hsets _ (List.mem_of_getElem? (i := 3) rfl)))) (Or.inl (hsets _ (List.mem_of_getElem? (i := 1) rfl)))
  obtain ⟨wCA, evC⟩ := arr_v (Cond.before_iff.mp (hsets _ (List.mem_of_getElem? (i := 4) rfl)))
  have S_cache := Sta.start evC (Or.inr ⟨(hw _ (List.mem_of_getElem? (i := 87) rfl)), (hsets _ (List.mem_of_getElem? (i := 2) rfl))⟩)
  obtain ⟨clCA, ArC⟩ := Arr.start evC (Cond.before_iff.mp (hsets _ (List.mem_of_getElem? (i := 4) rfl)))
  have hlen := own_eqI (Cond.before_iff.mp (hsets _ (List.mem_of_getElem? (i := 6) rfl)))
  obtain ⟨hq1, hq2⟩ := own_lenC evC ArC hlen
  have BX : Bxs s wCA clCA "java/lang/Integer" "I" 256 (fun j => .int (j - 128)) := Bxs.start (fun idx => evC) ArC hq1 hq2 (by decide) (Cond.before_iff.mp (hsets _ (List.mem_of_getElem? (i := 7) rfl))) (fun X j nn hE => eqv_i (own_subAt nn) hE)
  obtain ⟨n, o, h1, h2, h3, _, L, rfl, ⟨rfl, N, -⟩, hq⟩ := own_law l s _ hw tables_1 i0 i1 aF cK wCA clCA wEMPTY s.heap s.heap.size (Old.start s) LM S_high S_cache BX S_EMPTY E_w F_w p e ha hc hk s m _ below hf ((Spec.applies_iff_loose hf).mp happ).1 ⟨rfl, State.Warmed39.refl s, rfl⟩ trivial
  refine ⟨n, _, h1, h2, h3, hpost _ _ _ _ _ _ ⟨Cond.after_iff.mpr rfl, Cond.after_iff.mpr (eq_i res_at (Term.int_eval (1)) rfl), trivial⟩ ⟨hq.1, hq.2.1, (hq.2.2.sift fun y hy => Or.inr (N y hy)).mono (by decide) (by decide)⟩⟩
theorem main_1_1 : Claimed_1_1 := comes_1 fun _ _ _ _ _ _ h hF => ⟨h.1, Jvm.RoadKit.wide hF⟩
theorem main_1_2 : Claimed_1_2 := comes_1 fun _ _ _ _ _ _ h hF => ⟨h.2.1, Jvm.RoadKit.wide hF⟩
end Jvm.Pilot.@@N@@
namespace Jvm.Pilot.@@N@@
open Jvm Jvm.ClassFile Sem Op Lib Jvm.Free Jvm.Stand Jvm.Pilot.@@N@@.Jvm.D
/-! MADE BY PROGRAM (witnessworld.py) out of the Statement's table words and the real class files: 24 classes; the members and pool entries that the words name. The judged class is class 1, her method 1. -/
namespace start1
open Jvm.ClassFile
def u (s : String) : CpInfo := .utf8 (stringToUtf16 s)
/-- a pool by its gaps: so many unusable entries, then the entry; so many at the end -/
def gap : Nat → List CpInfo → List CpInfo
  | 0, r => r
  | n + 1, r => .unusable :: gap n r
def poolList (es : List (Nat × CpInfo)) (last : Nat) : List CpInfo := es.foldr (fun e r => gap e.1 (e.2 :: r)) (gap last [])
def pool (es : List (Nat × CpInfo)) (last : Nat) : Array CpInfo := ⟨poolList es last⟩
def fileOf (pool : Array CpInfo) (this : Nat) (attrs : Array Attribute := #[]) (ms : Array MethodInfo := #[]) (fl : Nat := 33) (sup : Nat := 0) (ifs : Array Nat := #[]) (fds : Array FieldInfo := #[]) : ClassFile where
  minorVersion := 0
  majorVersion := 65
  constantPool := pool
  accessFlags := fl
  thisClass := this
  superClass := sup
  interfaces := ifs
  fields := fds
  methods := ms
  attributes := attrs
def plain (name : String) (sup : Option ClassId) : Class where
  name := name
  kind := .ordinary
  loader := none
  accessFlags := 33
  super := sup
  interfaces := #[]
  cf := none
  fields := #[]
  methods := #[]
  instanceTypes := #[]
  staticTypes := #[]
  resolved := #[]
  callSites := []
  init := .initialized
  statics := none
  mirror := none

def pool0 : Array CpInfo := pool [(5, u "<init>"), (0, u "()V"), (1, .class_ 10), (1, u "java/lang/Object")] 113

def k0c0 : Code := { maxStack := 0, maxLocals := 1, code := object_method_1_code, exceptionTable := #[], attributes := #[] }
def k0m0 : Method := { name := "<init>", desc := "()V", sig := { parameters := [], returnType := none }, accessFlags := 1, code := some k0c0 }
/-- java/lang/Object -/
def k0 : Class := { plain "java/lang/Object" none with
  accessFlags := 33
  interfaces := #[]
  cf := some (fileOf pool0 8 #[] #[{ accessFlags := 1, nameIndex := 5, descriptorIndex := 6, attributes := #[] }] 33 0 #[] #[])
  fields := #[]
  methods := #[k0m0]
  instanceTypes := #[]
  staticTypes := #[]
  resolved := Array.replicate 124 none
  statics := none }

def pool1 : Array CpInfo := pool [(2, .class_ 4), (1, u "java/lang/Object"), (0, u "<init>"), (0, u "()V"), (0, .class_ 8), (0, u "com/example/wise_crawler/wisecrawler/fetch/Exchange"), (0, .methodref 7 10), (0, .nameAndType 5 11), (0, u "(Lcom/example/wise_crawler/wisecrawler/url/CanonicalUrl;Ljava/time/Instant;Ljava/lang/String;Lcom/example/wise_crawler/wisecrawler/fetch/HeaderFields;ILcom/example/wise_crawler/wisecrawler/fetch/HeaderFields;Lcom/example/wise_crawler/wisecrawler/fetch/SpooledBytes;Ljava/util/Optional;)V"), (0, .class_ 13), (0, u "com/example/wise_crawler/wisecrawler/crawl/Answer"), (0, .methodref 15 16), (0, .class_ 17), (0, .nameAndType 18 19), (0, u "java/util/Optional"), (0, u "of"), (0, u "(Ljava/lang/Object;)Ljava/util/Optional;"), (0, .methodref 12 21), (0, .nameAndType 5 22), (0, u "(Ljava/util/Optional;Z)V"), (0, .methodref 15 24), (0, .nameAndType 25 26), (0, u "empty"), (0, u "()Ljava/util/Optional;"), (0, .methodref 12 28), (0, .nameAndType 29 30), (0, u "status"), (0, u "()I"), (0, .class_ 32), (0, u "com/example/wise_crawler/wisecrawler/crawl/AnswerStatusPinLaw"), (2, u "law"), (0, u "(II)Z")] 3

def k1m0 : Method := { name := "<init>", desc := "()V", sig := { parameters := [], returnType := none }, accessFlags := 2, code := none }
def k1c1 : Code := { maxStack := 10, maxLocals := 7, code := code, exceptionTable := #[], attributes := #[] }
def k1m1 : Method := { name := "law", desc := "(II)Z", sig := { parameters := [.int, .int], returnType := some .boolean }, accessFlags := 9, code := some k1c1 }
/-- com/example/wise_crawler/wisecrawler/crawl/AnswerStatusPinLaw -/
def k1 : Class := { plain "com/example/wise_crawler/wisecrawler/crawl/AnswerStatusPinLaw" (some 0) with
  accessFlags := 49
  interfaces := #[]
  cf := some (fileOf pool1 31 #[] #[{ accessFlags := 2, nameIndex := 5, descriptorIndex := 6, attributes := #[] }, { accessFlags := 9, nameIndex := 35, descriptorIndex := 36, attributes := #[] }] 49 2 #[] #[])
  fields := #[]
  methods := #[k1m0, k1m1]
  instanceTypes := #[]
  staticTypes := #[]
  resolved := Array.replicate 40 none
  statics := none }

def pool2 : Array CpInfo := pool [(1, .methodref 2 3), (0, .class_ 4), (0, .nameAndType 5 6), (0, u "java/lang/Object"), (0, u "<init>"), (0, u "()V"), (0, .class_ 8), (0, u "java/lang/Record")] 13

def k2c0 : Code := { maxStack := 1, maxLocals := 1, code := jdk_30_method_1_code, exceptionTable := #[], attributes := #[] }
def k2m0 : Method := { name := "<init>", desc := "()V", sig := { parameters := [], returnType := none }, accessFlags := 4, code := some k2c0 }
/-- java/lang/Record -/
def k2 : Class := { plain "java/lang/Record" (some 0) with
  accessFlags := 1057
  interfaces := #[]
  cf := some (fileOf pool2 7 #[] #[{ accessFlags := 4, nameIndex := 5, descriptorIndex := 6, attributes := #[] }] 1057 2 #[] #[])
  fields := #[]
  methods := #[k2m0]
  instanceTypes := #[]
  staticTypes := #[]
  resolved := Array.replicate 22 none
  statics := none }

def pool3 : Array CpInfo := pool [(1, .class_ 2), (0, u "java/lang/AutoCloseable"), (0, .class_ 4), (0, u "java/lang/Object")] 7

/-- java/lang/AutoCloseable -/
def k3 : Class := { plain "java/lang/AutoCloseable" (some 0) with
  accessFlags := 1537
  interfaces := #[]
  cf := some (fileOf pool3 1 #[] #[] 1537 3 #[] #[])
  fields := #[]
  methods := #[]
  instanceTypes := #[]
  staticTypes := #[]
  resolved := Array.replicate 12 none
  statics := none }

def pool4 : Array CpInfo := pool [(1, .class_ 2), (0, u "java/io/Closeable"), (0, .class_ 4), (0, u "java/lang/Object"), (0, .class_ 6), (0, u "java/lang/AutoCloseable")] 7

/-- java/io/Closeable -/
def k4 : Class := { plain "java/io/Closeable" (some 0) with
  accessFlags := 1537
  interfaces := #[3]
  cf := some (fileOf pool4 1 #[] #[] 1537 3 #[5] #[])
  fields := #[]
  methods := #[]
  instanceTypes := #[]
  staticTypes := #[]
  resolved := Array.replicate 14 none
  statics := none }

def pool5 : Array CpInfo := pool [(1, .methodref 2 3), (0, .class_ 4), (0, .nameAndType 5 6), (0, u "java/lang/Record"), (0, u "<init>"), (0, u "()V"), (0, .fieldref 8 9), (0, .class_ 10), (0, .nameAndType 11 12), (0, u "com/example/wise_crawler/wisecrawler/fetch/Exchange"), (0, u "url"), (0, u "Lcom/example/wise_crawler/wisecrawler/url/CanonicalUrl;"), (0, .fieldref 8 14), (0, .nameAndType 15 16), (0, u "date"), (0, u "Ljava/time/Instant;"), (0, .fieldref 8 18), (0, .nameAndType 19 20), (0, u "protocol"), (0, u "Ljava/lang/String;"), (0, .fieldref 8 22), (0, .nameAndType 23 24), (0, u "requestHeaders"), (0, u "Lcom/example/wise_crawler/wisecrawler/fetch/HeaderFields;"), (0, .fieldref 8 26), (0, .nameAndType 27 28), (0, u "status"), (0, u "I"), (0, .fieldref 8 30), (0, .nameAndType 31 24), (0, u "responseHeaders"), (0, .fieldref 8 33), (0, .nameAndType 34 35), (0, u "body"), (0, u "Lcom/example/wise_crawler/wisecrawler/fetch/SpooledBytes;"), (0, .fieldref 8 37), (0, .nameAndType 38 39), (0, u "truncation"), (0, u "Ljava/util/Optional;"), (37, u "HTML_TYPES"), (0, u "Ljava/util/Set;"), (92, .class_ 172), (0, u "java/io/Closeable"), (3, u "(Lcom/example/wise_crawler/wisecrawler/url/CanonicalUrl;Ljava/time/Instant;Ljava/lang/String;Lcom/example/wise_crawler/wisecrawler/fetch/HeaderFields;ILcom/example/wise_crawler/wisecrawler/fetch/HeaderFields;Lcom/example/wise_crawler/wisecrawler/fetch/SpooledBytes;Ljava/util/Optional;)V"), (12, u "()I")] 60

def k5c0 : Code := { maxStack := 2, maxLocals := 9, code := prog_28_method_1_code, exceptionTable := #[], attributes := #[] }
def k5m0 : Method := { name := "<init>", desc := "(Lcom/example/wise_crawler/wisecrawler/url/CanonicalUrl;Ljava/time/Instant;Ljava/lang/String;Lcom/example/wise_crawler/wisecrawler/fetch/HeaderFields;ILcom/example/wise_crawler/wisecrawler/fetch/HeaderFields;Lcom/example/wise_crawler/wisecrawler/fetch/SpooledBytes;Ljava/util/Optional;)V", sig := { parameters := [(.object "com/example/wise_crawler/wisecrawler/url/CanonicalUrl"), (.object "java/time/Instant"), (.object "java/lang/String"), (.object "com/example/wise_crawler/wisecrawler/fetch/HeaderFields"), .int, (.object "com/example/wise_crawler/wisecrawler/fetch/HeaderFields"), (.object "com/example/wise_crawler/wisecrawler/fetch/SpooledBytes"), (.object "java/util/Optional")], returnType := none }, accessFlags := 1, code := some k5c0 }
def k5c1 : Code := { maxStack := 1, maxLocals := 1, code := prog_28_method_16_code, exceptionTable := #[], attributes := #[] }
def k5m1 : Method := { name := "status", desc := "()I", sig := { parameters := [], returnType := some .int }, accessFlags := 1, code := some k5c1 }
/-- com/example/wise_crawler/wisecrawler/fetch/Exchange -/
def k5 : Class := { plain "com/example/wise_crawler/wisecrawler/fetch/Exchange" (some 2) with
  accessFlags := 49
  interfaces := #[4]
  cf := some (fileOf pool5 8 #[] #[{ accessFlags := 1, nameIndex := 5, descriptorIndex := 176, attributes := #[] }, { accessFlags := 1, nameIndex := 27, descriptorIndex := 189, attributes := #[] }] 49 2 #[171] #[{ accessFlags := 18, nameIndex := 11, descriptorIndex := 12, attributes := #[] }, { accessFlags := 18, nameIndex := 15, descriptorIndex := 16, attributes := #[] }, { accessFlags := 18, nameIndex := 19, descriptorIndex := 20, attributes := #[] }, { accessFlags := 18, nameIndex := 23, descriptorIndex := 24, attributes := #[] }, { accessFlags := 18, nameIndex := 27, descriptorIndex := 28, attributes := #[] }, { accessFlags := 18, nameIndex := 31, descriptorIndex := 24, attributes := #[] }, { accessFlags := 18, nameIndex := 34, descriptorIndex := 35, attributes := #[] }, { accessFlags := 18, nameIndex := 38, descriptorIndex := 39, attributes := #[] }, { accessFlags := 26, nameIndex := 77, descriptorIndex := 78, attributes := #[] }])
  fields := #[{ name := "url", type := (.object "com/example/wise_crawler/wisecrawler/url/CanonicalUrl"), accessFlags := 18, slot := 0, constantValue := 0 }, { name := "date", type := (.object "java/time/Instant"), accessFlags := 18, slot := 1, constantValue := 0 }, { name := "protocol", type := (.object "java/lang/String"), accessFlags := 18, slot := 2, constantValue := 0 }, { name := "requestHeaders", type := (.object "com/example/wise_crawler/wisecrawler/fetch/HeaderFields"), accessFlags := 18, slot := 3, constantValue := 0 }, { name := "status", type := .int, accessFlags := 18, slot := 4, constantValue := 0 }, { name := "responseHeaders", type := (.object "com/example/wise_crawler/wisecrawler/fetch/HeaderFields"), accessFlags := 18, slot := 5, constantValue := 0 }, { name := "body", type := (.object "com/example/wise_crawler/wisecrawler/fetch/SpooledBytes"), accessFlags := 18, slot := 6, constantValue := 0 }, { name := "truncation", type := (.object "java/util/Optional"), accessFlags := 18, slot := 7, constantValue := 0 }, { name := "HTML_TYPES", type := (.object "java/util/Set"), accessFlags := 26, slot := 0, constantValue := 0 }]
  methods := #[k5m0, k5m1]
  instanceTypes := #[(.object "com/example/wise_crawler/wisecrawler/url/CanonicalUrl"), (.object "java/time/Instant"), (.object "java/lang/String"), (.object "com/example/wise_crawler/wisecrawler/fetch/HeaderFields"), .int, (.object "com/example/wise_crawler/wisecrawler/fetch/HeaderFields"), (.object "com/example/wise_crawler/wisecrawler/fetch/SpooledBytes"), (.object "java/util/Optional")]
  staticTypes := #[(.object "java/util/Set")]
  resolved := Array.replicate 250 none
  statics := none }

def pool6 : Array CpInfo := pool [(1, .methodref 2 3), (0, .class_ 4), (0, .nameAndType 5 6), (0, u "java/lang/Record"), (0, u "<init>"), (0, u "()V"), (0, .fieldref 8 9), (0, .class_ 10), (0, .nameAndType 11 12), (0, u "com/example/wise_crawler/wisecrawler/crawl/Answer"), (0, u "response"), (0, u "Ljava/util/Optional;"), (0, .fieldref 8 14), (0, .nameAndType 15 16), (0, u "timedOut"), (0, u "Z"), (1, .class_ 20), (1, u "com/example/wise_crawler/wisecrawler/fetch/Exchange"), (9, .class_ 32), (1, u "java/util/Optional"), (8, u "(Ljava/util/Optional;Z)V"), (0, .invokeDynamic 0 43), (0, .nameAndType 44 45), (0, u "apply"), (0, u "()Ljava/util/function/Function;"), (0, .methodref 30 47), (0, .nameAndType 48 49), (0, u "map"), (0, u "(Ljava/util/function/Function;)Ljava/util/Optional;"), (0, .methodref 51 52), (0, .class_ 53), (0, .nameAndType 54 55), (0, u "java/lang/Integer"), (0, u "valueOf"), (0, u "(I)Ljava/lang/Integer;"), (0, .methodref 30 57), (0, .nameAndType 58 59), (0, u "orElse"), (0, u "(Ljava/lang/Object;)Ljava/lang/Object;"), (0, .methodref 51 61), (0, .nameAndType 62 63), (0, u "intValue"), (0, u "()I"), (26, .class_ 91), (0, u "java/io/Closeable"), (7, u "status"), (8, .methodType 59), (0, .methodHandle 5 110), (0, .methodref 18 111), (0, .nameAndType 99 63), (0, .methodType 113), (0, u "(Lcom/example/wise_crawler/wisecrawler/fetch/Exchange;)Ljava/lang/Integer;"), (7, .methodHandle 6 122), (0, .methodref 123 124), (0, .class_ 125), (0, .nameAndType 126 127), (0, u "java/lang/invoke/LambdaMetafactory"), (0, u "metafactory"), (0, u "(Ljava/lang/invoke/MethodHandles$Lookup;Ljava/lang/String;Ljava/lang/invoke/MethodType;Ljava/lang/invoke/MethodType;Ljava/lang/invoke/MethodHandle;Ljava/lang/invoke/MethodType;)Ljava/lang/invoke/CallSite;")] 13

def k6c0 : Code := { maxStack := 2, maxLocals := 3, code := prog_3_method_1_code, exceptionTable := #[], attributes := #[] }
def k6m0 : Method := { name := "<init>", desc := "(Ljava/util/Optional;Z)V", sig := { parameters := [(.object "java/util/Optional"), .boolean], returnType := none }, accessFlags := 1, code := some k6c0 }
def k6c1 : Code := { maxStack := 2, maxLocals := 1, code := prog_3_method_3_code, exceptionTable := #[], attributes := #[] }
def k6m1 : Method := { name := "status", desc := "()I", sig := { parameters := [], returnType := some .int }, accessFlags := 1, code := some k6c1 }
/-- com/example/wise_crawler/wisecrawler/crawl/Answer -/
def k6 : Class := { plain "com/example/wise_crawler/wisecrawler/crawl/Answer" (some 2) with
  accessFlags := 49
  interfaces := #[4]
  cf := some (fileOf pool6 8 #[.bootstrapMethods #[⟨121, #[108, 109, 112]⟩, ⟨0, #[]⟩, ⟨0, #[]⟩]] #[{ accessFlags := 1, nameIndex := 5, descriptorIndex := 41, attributes := #[] }, { accessFlags := 1, nameIndex := 99, descriptorIndex := 63, attributes := #[] }] 49 2 #[90] #[{ accessFlags := 18, nameIndex := 11, descriptorIndex := 12, attributes := #[] }, { accessFlags := 18, nameIndex := 15, descriptorIndex := 16, attributes := #[] }])
  fields := #[{ name := "response", type := (.object "java/util/Optional"), accessFlags := 18, slot := 0, constantValue := 0 }, { name := "timedOut", type := .boolean, accessFlags := 18, slot := 1, constantValue := 0 }]
  methods := #[k6m0, k6m1]
  instanceTypes := #[(.object "java/util/Optional"), .boolean]
  staticTypes := #[]
  resolved := Array.replicate 141 none
  callSites := [(1, 4, .constant 2)]
  statics := none }

def pool7 : Array CpInfo := pool [(1, .fieldref 2 3), (0, .class_ 4), (0, .nameAndType 5 6), (0, u "java/util/Optional"), (0, u "EMPTY"), (0, u "Ljava/util/Optional;"), (0, .methodref 8 9), (0, .class_ 10), (0, .nameAndType 11 12), (0, u "java/lang/Object"), (0, u "<init>"), (0, u "()V"), (0, .fieldref 2 14), (0, .nameAndType 15 16), (0, u "value"), (0, u "Ljava/lang/Object;"), (0, .methodref 18 19), (0, .class_ 20), (0, .nameAndType 21 22), (0, u "java/util/Objects"), (0, u "requireNonNull"), (0, u "(Ljava/lang/Object;)Ljava/lang/Object;"), (0, .methodref 2 24), (0, .nameAndType 11 25), (0, u "(Ljava/lang/Object;)V"), (17, .methodref 2 44), (0, .nameAndType 45 46), (0, u "isEmpty"), (0, u "()Z"), (6, .methodref 2 54), (0, .nameAndType 55 56), (0, u "empty"), (0, u "()Ljava/util/Optional;"), (0, .interfaceMethodref 58 59), (0, .class_ 60), (0, .nameAndType 61 22), (0, u "java/util/function/Function"), (0, u "apply"), (0, .methodref 2 63), (0, .nameAndType 64 65), (0, u "ofNullable"), (0, u "(Ljava/lang/Object;)Ljava/util/Optional;"), (16, u "of"), (63, u "map"), (0, u "(Ljava/util/function/Function;)Ljava/util/Optional;"), (17, u "orElse")] 21

def k7c0 : Code := { maxStack := 1, maxLocals := 1, code := jdk_32_method_1_code, exceptionTable := #[], attributes := #[] }
def k7m0 : Method := { name := "empty", desc := "()Ljava/util/Optional;", sig := { parameters := [], returnType := some (.object "java/util/Optional") }, accessFlags := 9, code := some k7c0 }
def k7c1 : Code := { maxStack := 2, maxLocals := 2, code := jdk_32_method_2_code, exceptionTable := #[], attributes := #[] }
def k7m1 : Method := { name := "<init>", desc := "(Ljava/lang/Object;)V", sig := { parameters := [(.object "java/lang/Object")], returnType := none }, accessFlags := 2, code := some k7c1 }
def k7c2 : Code := { maxStack := 3, maxLocals := 1, code := jdk_32_method_3_code, exceptionTable := #[], attributes := #[] }
def k7m2 : Method := { name := "of", desc := "(Ljava/lang/Object;)Ljava/util/Optional;", sig := { parameters := [(.object "java/lang/Object")], returnType := some (.object "java/util/Optional") }, accessFlags := 9, code := some k7c2 }
def k7c3 : Code := { maxStack := 3, maxLocals := 1, code := jdk_32_method_4_code, exceptionTable := #[], attributes := #[] }
def k7m3 : Method := { name := "ofNullable", desc := "(Ljava/lang/Object;)Ljava/util/Optional;", sig := { parameters := [(.object "java/lang/Object")], returnType := some (.object "java/util/Optional") }, accessFlags := 9, code := some k7c3 }
def k7c4 : Code := { maxStack := 1, maxLocals := 1, code := jdk_32_method_7_code, exceptionTable := #[], attributes := #[] }
def k7m4 : Method := { name := "isEmpty", desc := "()Z", sig := { parameters := [], returnType := some .boolean }, accessFlags := 1, code := some k7c4 }
def k7c5 : Code := { maxStack := 2, maxLocals := 2, code := jdk_32_method_11_code, exceptionTable := #[], attributes := #[] }
def k7m5 : Method := { name := "map", desc := "(Ljava/util/function/Function;)Ljava/util/Optional;", sig := { parameters := [(.object "java/util/function/Function")], returnType := some (.object "java/util/Optional") }, accessFlags := 1, code := some k7c5 }
def k7c6 : Code := { maxStack := 1, maxLocals := 2, code := jdk_32_method_15_code, exceptionTable := #[], attributes := #[] }
def k7m6 : Method := { name := "orElse", desc := "(Ljava/lang/Object;)Ljava/lang/Object;", sig := { parameters := [(.object "java/lang/Object")], returnType := some (.object "java/lang/Object") }, accessFlags := 1, code := some k7c6 }
/-- java/util/Optional -/
def k7 : Class := { plain "java/util/Optional" (some 0) with
  accessFlags := 49
  interfaces := #[]
  cf := some (fileOf pool7 2 #[] #[{ accessFlags := 9, nameIndex := 55, descriptorIndex := 56, attributes := #[] }, { accessFlags := 2, nameIndex := 11, descriptorIndex := 25, attributes := #[] }, { accessFlags := 9, nameIndex := 82, descriptorIndex := 65, attributes := #[] }, { accessFlags := 9, nameIndex := 64, descriptorIndex := 65, attributes := #[] }, { accessFlags := 1, nameIndex := 45, descriptorIndex := 46, attributes := #[] }, { accessFlags := 1, nameIndex := 146, descriptorIndex := 147, attributes := #[] }, { accessFlags := 1, nameIndex := 165, descriptorIndex := 22, attributes := #[] }] 49 8 #[] #[{ accessFlags := 26, nameIndex := 5, descriptorIndex := 6, attributes := #[] }, { accessFlags := 18, nameIndex := 15, descriptorIndex := 16, attributes := #[] }])
  fields := #[{ name := "EMPTY", type := (.object "java/util/Optional"), accessFlags := 26, slot := 0, constantValue := 0 }, { name := "value", type := (.object "java/lang/Object"), accessFlags := 18, slot := 0, constantValue := 0 }]
  methods := #[k7m0, k7m1, k7m2, k7m3, k7m4, k7m5, k7m6]
  instanceTypes := #[(.object "java/lang/Object")]
  staticTypes := #[(.object "java/util/Optional")]
  resolved := Array.replicate 187 none
  statics := some 0 }

def pool8 : Array CpInfo := pool [(2, .class_ 4), (1, u "java/lang/Object"), (0, u "<init>"), (0, u "()V"), (35, .class_ 44), (1, u "java/util/Objects"), (0, u "requireNonNull"), (0, u "(Ljava/lang/Object;)Ljava/lang/Object;")] 137

def k8m0 : Method := { name := "<init>", desc := "()V", sig := { parameters := [], returnType := none }, accessFlags := 2, code := none }
def k8c1 : Code := { maxStack := 2, maxLocals := 1, code := jdk_31_method_10_code, exceptionTable := #[], attributes := #[] }
def k8m1 : Method := { name := "requireNonNull", desc := "(Ljava/lang/Object;)Ljava/lang/Object;", sig := { parameters := [(.object "java/lang/Object")], returnType := some (.object "java/lang/Object") }, accessFlags := 9, code := some k8c1 }
/-- java/util/Objects -/
def k8 : Class := { plain "java/util/Objects" (some 0) with
  accessFlags := 49
  interfaces := #[]
  cf := some (fileOf pool8 42 #[] #[{ accessFlags := 2, nameIndex := 5, descriptorIndex := 6, attributes := #[] }, { accessFlags := 9, nameIndex := 45, descriptorIndex := 46, attributes := #[] }] 49 2 #[] #[])
  fields := #[]
  methods := #[k8m0, k8m1]
  instanceTypes := #[]
  staticTypes := #[]
  resolved := Array.replicate 184 none
  statics := none }

def pool9 : Array CpInfo := pool [(6, u "(Ljava/lang/Object;)Ljava/lang/Object;"), (2, u "apply"), (6, .class_ 18), (1, u "java/util/function/Function"), (0, .class_ 20), (0, u "java/lang/Object")] 56

def k9m0 : Method := { name := "apply", desc := "(Ljava/lang/Object;)Ljava/lang/Object;", sig := { parameters := [(.object "java/lang/Object")], returnType := some (.object "java/lang/Object") }, accessFlags := 1025, code := none }
/-- java/util/function/Function -/
def k9 : Class := { plain "java/util/function/Function" (some 0) with
  accessFlags := 1537
  interfaces := #[]
  cf := some (fileOf pool9 16 #[] #[{ accessFlags := 1025, nameIndex := 9, descriptorIndex := 6, attributes := #[] }] 1537 19 #[] #[])
  fields := #[]
  methods := #[k9m0]
  instanceTypes := #[]
  staticTypes := #[]
  resolved := Array.replicate 77 none
  statics := none }

def pool10 : Array CpInfo := pool [(1, .class_ 2), (0, u "java/io/Serializable"), (0, .class_ 4), (0, u "java/lang/Object")] 2

/-- java/io/Serializable -/
def k10 : Class := { plain "java/io/Serializable" (some 0) with
  accessFlags := 1537
  interfaces := #[]
  cf := some (fileOf pool10 1 #[] #[] 1537 3 #[] #[])
  fields := #[]
  methods := #[]
  instanceTypes := #[]
  staticTypes := #[]
  resolved := Array.replicate 7 none
  statics := none }

def pool11 : Array CpInfo := pool [(1, .methodref 2 3), (0, .class_ 4), (0, .nameAndType 5 6), (0, u "java/lang/Object"), (0, u "<init>"), (0, u "()V"), (1, .class_ 10), (1, u "java/lang/Number"), (2, .class_ 14), (0, u "java/io/Serializable"), (0, u "serialVersionUID"), (0, u "J")] 20

def k11c0 : Code := { maxStack := 1, maxLocals := 1, code := jdk_18_method_1_code, exceptionTable := #[], attributes := #[] }
def k11m0 : Method := { name := "<init>", desc := "()V", sig := { parameters := [], returnType := none }, accessFlags := 1, code := some k11c0 }
/-- java/lang/Number -/
def k11 : Class := { plain "java/lang/Number" (some 0) with
  accessFlags := 1057
  interfaces := #[10]
  cf := some (fileOf pool11 8 #[] #[{ accessFlags := 1, nameIndex := 5, descriptorIndex := 6, attributes := #[] }] 1057 2 #[13] #[{ accessFlags := 26, nameIndex := 15, descriptorIndex := 16, attributes := #[] }])
  fields := #[{ name := "serialVersionUID", type := .long, accessFlags := 26, slot := 0, constantValue := 0 }]
  methods := #[k11m0]
  instanceTypes := #[]
  staticTypes := #[.long]
  resolved := Array.replicate 37 none
  statics := none }

def pool12 : Array CpInfo := pool [(1, .class_ 2), (0, u "java/lang/Comparable"), (0, .class_ 4), (0, u "java/lang/Object")] 7

/-- java/lang/Comparable -/
def k12 : Class := { plain "java/lang/Comparable" (some 0) with
  accessFlags := 1537
  interfaces := #[]
  cf := some (fileOf pool12 1 #[] #[] 1537 3 #[] #[])
  fields := #[]
  methods := #[]
  instanceTypes := #[]
  staticTypes := #[]
  resolved := Array.replicate 12 none
  statics := none }

def pool13 : Array CpInfo := pool [(1, .class_ 2), (0, u "java/lang/constant/Constable"), (0, .class_ 4), (0, u "java/lang/Object")] 6

/-- java/lang/constant/Constable -/
def k13 : Class := { plain "java/lang/constant/Constable" (some 0) with
  accessFlags := 1537
  interfaces := #[]
  cf := some (fileOf pool13 1 #[] #[] 1537 3 #[] #[])
  fields := #[]
  methods := #[]
  instanceTypes := #[]
  staticTypes := #[]
  resolved := Array.replicate 11 none
  statics := none }

def pool14 : Array CpInfo := pool [(1, .class_ 2), (0, u "java/lang/constant/ConstantDesc"), (0, .class_ 4), (0, u "java/lang/Object")] 32

/-- java/lang/constant/ConstantDesc -/
def k14 : Class := { plain "java/lang/constant/ConstantDesc" (some 0) with
  accessFlags := 1537
  interfaces := #[]
  cf := some (fileOf pool14 1 #[] #[] 1537 3 #[] #[])
  fields := #[]
  methods := #[]
  instanceTypes := #[]
  staticTypes := #[]
  resolved := Array.replicate 37 none
  statics := none }

def pool15 : Array CpInfo := pool [(1, .class_ 2), (0, u "java/lang/Integer"), (16, u "digits"), (0, u "[C"), (46, u "<init>"), (17, u "DigitOnes"), (0, u "[B"), (2, u "DigitTens"), (10, .nameAndType 67 101), (0, u "()V"), (19, u "()I"), (65, u "valueOf"), (0, u "(I)Ljava/lang/Integer;"), (0, .class_ 190), (0, u "java/lang/Integer$IntegerCache"), (0, .fieldref 189 192), (0, .nameAndType 193 194), (0, u "high"), (0, u "I"), (0, .fieldref 189 196), (0, .nameAndType 197 198), (0, u "cache"), (0, u "[Ljava/lang/Integer;"), (0, .methodref 1 200), (0, .nameAndType 67 201), (0, u "(I)V"), (0, .methodref 203 100), (0, .class_ 204), (0, u "java/lang/Number"), (0, .fieldref 1 206), (0, .nameAndType 207 194), (0, u "value"), (5, u "intValue"), (88, u "TYPE"), (0, u "Ljava/lang/Class;"), (0, .class_ 305), (0, u "java/lang/Comparable"), (0, .class_ 307), (0, u "java/lang/constant/Constable"), (0, .class_ 309), (0, u "java/lang/constant/ConstantDesc"), (0, u "MIN_VALUE"), (1, u "MAX_VALUE"), (3, u "SIZE"), (1, u "BYTES"), (1, u "serialVersionUID"), (0, u "J")] 131

def k15c0 : Code := { maxStack := 3, maxLocals := 1, code := jdk_33_method_22_code, exceptionTable := #[], attributes := #[] }
def k15m0 : Method := { name := "valueOf", desc := "(I)Ljava/lang/Integer;", sig := { parameters := [.int], returnType := some (.object "java/lang/Integer") }, accessFlags := 9, code := some k15c0 }
def k15c1 : Code := { maxStack := 2, maxLocals := 2, code := jdk_33_method_23_code, exceptionTable := #[], attributes := #[] }
def k15m1 : Method := { name := "<init>", desc := "(I)V", sig := { parameters := [.int], returnType := none }, accessFlags := 1, code := some k15c1 }
def k15c2 : Code := { maxStack := 1, maxLocals := 1, code := jdk_33_method_27_code, exceptionTable := #[], attributes := #[] }
def k15m2 : Method := { name := "intValue", desc := "()I", sig := { parameters := [], returnType := some .int }, accessFlags := 1, code := some k15c2 }
/-- java/lang/Integer -/
def k15 : Class := { plain "java/lang/Integer" (some 11) with
  accessFlags := 49
  interfaces := #[12, 13, 14]
  cf := some (fileOf pool15 1 #[.nestMembers #[189]] #[{ accessFlags := 9, nameIndex := 187, descriptorIndex := 188, attributes := #[] }, { accessFlags := 1, nameIndex := 67, descriptorIndex := 201, attributes := #[] }, { accessFlags := 1, nameIndex := 213, descriptorIndex := 121, attributes := #[] }] 49 203 #[304, 306, 308] #[{ accessFlags := 25, nameIndex := 310, descriptorIndex := 194, attributes := #[] }, { accessFlags := 25, nameIndex := 312, descriptorIndex := 194, attributes := #[] }, { accessFlags := 25, nameIndex := 302, descriptorIndex := 303, attributes := #[] }, { accessFlags := 24, nameIndex := 19, descriptorIndex := 20, attributes := #[] }, { accessFlags := 24, nameIndex := 89, descriptorIndex := 86, attributes := #[] }, { accessFlags := 24, nameIndex := 85, descriptorIndex := 86, attributes := #[] }, { accessFlags := 18, nameIndex := 207, descriptorIndex := 194, attributes := #[] }, { accessFlags := 25, nameIndex := 316, descriptorIndex := 194, attributes := #[] }, { accessFlags := 25, nameIndex := 318, descriptorIndex := 194, attributes := #[] }, { accessFlags := 26, nameIndex := 320, descriptorIndex := 321, attributes := #[] }])
  fields := #[{ name := "MIN_VALUE", type := .int, accessFlags := 25, slot := 0, constantValue := 0 }, { name := "MAX_VALUE", type := .int, accessFlags := 25, slot := 1, constantValue := 0 }, { name := "TYPE", type := (.object "java/lang/Class"), accessFlags := 25, slot := 2, constantValue := 0 }, { name := "digits", type := (.array .char), accessFlags := 24, slot := 3, constantValue := 0 }, { name := "DigitTens", type := (.array .byte), accessFlags := 24, slot := 4, constantValue := 0 }, { name := "DigitOnes", type := (.array .byte), accessFlags := 24, slot := 5, constantValue := 0 }, { name := "value", type := .int, accessFlags := 18, slot := 0, constantValue := 0 }, { name := "SIZE", type := .int, accessFlags := 25, slot := 6, constantValue := 0 }, { name := "BYTES", type := .int, accessFlags := 25, slot := 7, constantValue := 0 }, { name := "serialVersionUID", type := .long, accessFlags := 26, slot := 8, constantValue := 0 }]
  methods := #[k15m0, k15m1, k15m2]
  instanceTypes := #[.int]
  staticTypes := #[.int, .int, (.object "java/lang/Class"), (.array .char), (.array .byte), (.array .byte), .int, .int, .long]
  resolved := Array.replicate 453 none
  statics := none }

def pool16 : Array CpInfo := pool [(2, .class_ 4), (1, u "java/lang/Object"), (0, u "<init>"), (0, u "()V"), (0, .class_ 8), (0, u "java/lang/Integer"), (7, .class_ 18), (1, u "java/lang/Integer$IntegerCache"), (0, u "$assertionsDisabled"), (0, u "Z"), (26, u "high"), (0, u "I"), (8, u "archivedCache"), (0, u "[Ljava/lang/Integer;"), (12, u "cache"), (0, u "low")] 27

def k16m0 : Method := { name := "<init>", desc := "()V", sig := { parameters := [], returnType := none }, accessFlags := 2, code := none }
/-- java/lang/Integer$IntegerCache -/
def k16 : Class := { plain "java/lang/Integer$IntegerCache" (some 0) with
  accessFlags := 48
  interfaces := #[]
  cf := some (fileOf pool16 16 #[.nestHost 7] #[{ accessFlags := 2, nameIndex := 5, descriptorIndex := 6, attributes := #[] }] 48 2 #[] #[{ accessFlags := 24, nameIndex := 72, descriptorIndex := 48, attributes := #[] }, { accessFlags := 24, nameIndex := 47, descriptorIndex := 48, attributes := #[] }, { accessFlags := 24, nameIndex := 71, descriptorIndex := 58, attributes := #[] }, { accessFlags := 8, nameIndex := 57, descriptorIndex := 58, attributes := #[] }, { accessFlags := 4120, nameIndex := 19, descriptorIndex := 20, attributes := #[] }])
  fields := #[{ name := "low", type := .int, accessFlags := 24, slot := 0, constantValue := 0 }, { name := "high", type := .int, accessFlags := 24, slot := 1, constantValue := 0 }, { name := "cache", type := (.array (.object "java/lang/Integer")), accessFlags := 24, slot := 2, constantValue := 0 }, { name := "archivedCache", type := (.array (.object "java/lang/Integer")), accessFlags := 8, slot := 3, constantValue := 0 }, { name := "$assertionsDisabled", type := .boolean, accessFlags := 4120, slot := 4, constantValue := 0 }]
  methods := #[k16m0]
  instanceTypes := #[]
  staticTypes := #[.int, .int, (.array (.object "java/lang/Integer")), (.array (.object "java/lang/Integer")), .boolean]
  resolved := Array.replicate 100 none
  statics := some 1 }

def pool17 : Array CpInfo := pool [(1, u "java/lang/Cloneable"), (0, .class_ 1), (0, u "java/lang/Object"), (0, .class_ 3)] 3

/-- java/lang/Cloneable -/
def k17 : Class := { plain "java/lang/Cloneable" (some 0) with
  accessFlags := 1537
  interfaces := #[]
  cf := some (fileOf pool17 2 #[] #[] 1537 4 #[] #[])
  fields := #[]
  methods := #[]
  instanceTypes := #[]
  staticTypes := #[]
  resolved := Array.replicate 8 none
  statics := none }

/-- the primitive byte -/
def k18 : Class := { plain "byte" none with kind := .primitive 'B', accessFlags := 0x411 }
/-- [B -/
def k19 : Class := { plain "[B" (some 0) with kind := .array 18 .byte, interfaces := #[17, 10], accessFlags := 1041 }

/-- the primitive int -/
def k20 : Class := { plain "int" none with kind := .primitive 'I', accessFlags := 0x411 }
/-- [I -/
def k21 : Class := { plain "[I" (some 0) with kind := .array 20 .int, interfaces := #[17, 10], accessFlags := 1041 }

/-- [Ljava/lang/Integer; -/
def k22 : Class := { plain "[Ljava/lang/Integer;" (some 0) with kind := .array 15 (.object "java/lang/Integer"), interfaces := #[17, 10], accessFlags := 1041 }

def classes0 : Array Class := #[k0, k1, k2, k3, k4, k5, k6, k7, k8, k9, k10, k11, k12, k13, k14, k15, k16, k17, k18, k19, k20, k21, k22]
/-- the class that the rule has made for the site at 4 of com/example/wise_crawler/wisecrawler/crawl/Answer.status -/
def k23 : Class := Jvm.LamKit.madeRec { classes := classes0 } "com/example/wise_crawler/wisecrawler/crawl/Answer" (Jvm.Lambda.Shape.mk "java/util/function/Function" "apply" (Jvm.ClassFile.MethodDescriptor.mk ([(Jvm.ClassFile.FieldType.object "java/lang/Object")] : List Jvm.ClassFile.FieldType) (Option.some (Jvm.ClassFile.FieldType.object "java/lang/Object"))) ([] : List Jvm.ClassFile.FieldType) (5 : Nat) "com/example/wise_crawler/wisecrawler/fetch/Exchange" "status" (Jvm.ClassFile.MethodDescriptor.mk ([] : List Jvm.ClassFile.FieldType) (Option.some Jvm.ClassFile.FieldType.int)) false (Jvm.ClassFile.MethodDescriptor.mk ([(Jvm.ClassFile.FieldType.object "com/example/wise_crawler/wisecrawler/fetch/Exchange")] : List Jvm.ClassFile.FieldType) (Option.some (Jvm.ClassFile.FieldType.object "java/lang/Integer")))) 23

def heap : Heap := #[{ cls := 7, slots := #[.ref 4], vm := .statics 7 },
  { cls := 16, slots := #[.int 0, .int 127, .ref 3, .null, .int 0], vm := .statics 16 },
  { cls := 23, slots := #[], vm := .none },
  { cls := 22, slots := #[.ref 5, .ref 6, .ref 7, .ref 8, .ref 9, .ref 10, .ref 11, .ref 12, .ref 13, .ref 14, .ref 15, .ref 16, .ref 17, .ref 18, .ref 19, .ref 20, .ref 21, .ref 22, .ref 23, .ref 24, .ref 25, .ref 26, .ref 27, .ref 28, .ref 29, .ref 30, .ref 31, .ref 32, .ref 33, .ref 34, .ref 35, .ref 36, .ref 37, .ref 38, .ref 39, .ref 40, .ref 41, .ref 42, .ref 43, .ref 44, .ref 45, .ref 46, .ref 47, .ref 48, .ref 49, .ref 50, .ref 51, .ref 52, .ref 53, .ref 54, .ref 55, .ref 56, .ref 57, .ref 58, .ref 59, .ref 60, .ref 61, .ref 62, .ref 63, .ref 64, .ref 65, .ref 66, .ref 67, .ref 68, .ref 69, .ref 70, .ref 71, .ref 72, .ref 73, .ref 74, .ref 75, .ref 76, .ref 77, .ref 78, .ref 79, .ref 80, .ref 81, .ref 82, .ref 83, .ref 84, .ref 85, .ref 86, .ref 87, .ref 88, .ref 89, .ref 90, .ref 91, .ref 92, .ref 93, .ref 94, .ref 95, .ref 96, .ref 97, .ref 98, .ref 99, .ref 100, .ref 101, .ref 102, .ref 103, .ref 104, .ref 105, .ref 106, .ref 107, .ref 108, .ref 109, .ref 110, .ref 111, .ref 112, .ref 113, .ref 114, .ref 115, .ref 116, .ref 117, .ref 118, .ref 119, .ref 120, .ref 121, .ref 122, .ref 123, .ref 124, .ref 125, .ref 126, .ref 127, .ref 128, .ref 129, .ref 130, .ref 131, .ref 132, .ref 133, .ref 134, .ref 135, .ref 136, .ref 137, .ref 138, .ref 139, .ref 140, .ref 141, .ref 142, .ref 143, .ref 144, .ref 145, .ref 146, .ref 147, .ref 148, .ref 149, .ref 150, .ref 151, .ref 152, .ref 153, .ref 154, .ref 155, .ref 156, .ref 157, .ref 158, .ref 159, .ref 160, .ref 161, .ref 162, .ref 163, .ref 164, .ref 165, .ref 166, .ref 167, .ref 168, .ref 169, .ref 170, .ref 171, .ref 172, .ref 173, .ref 174, .ref 175, .ref 176, .ref 177, .ref 178, .ref 179, .ref 180, .ref 181, .ref 182, .ref 183, .ref 184, .ref 185, .ref 186, .ref 187, .ref 188, .ref 189, .ref 190, .ref 191, .ref 192, .ref 193, .ref 194, .ref 195, .ref 196, .ref 197, .ref 198, .ref 199, .ref 200, .ref 201, .ref 202, .ref 203, .ref 204, .ref 205, .ref 206, .ref 207, .ref 208, .ref 209, .ref 210, .ref 211, .ref 212, .ref 213, .ref 214, .ref 215, .ref 216, .ref 217, .ref 218, .ref 219, .ref 220, .ref 221, .ref 222, .ref 223, .ref 224, .ref 225, .ref 226, .ref 227, .ref 228, .ref 229, .ref 230, .ref 231, .ref 232, .ref 233, .ref 234, .ref 235, .ref 236, .ref 237, .ref 238, .ref 239, .ref 240, .ref 241, .ref 242, .ref 243, .ref 244, .ref 245, .ref 246, .ref 247, .ref 248, .ref 249, .ref 250, .ref 251, .ref 252, .ref 253, .ref 254, .ref 255, .ref 256, .ref 257, .ref 258, .ref 259, .ref 260], vm := .none },
  { cls := 7, slots := #[.null], vm := .none },
  { cls := 15, slots := #[.int (-128)], vm := .none },
  { cls := 15, slots := #[.int (-127)], vm := .none },
  { cls := 15, slots := #[.int (-126)], vm := .none },
  { cls := 15, slots := #[.int (-125)], vm := .none },
  { cls := 15, slots := #[.int (-124)], vm := .none },
  { cls := 15, slots := #[.int (-123)], vm := .none },
  { cls := 15, slots := #[.int (-122)], vm := .none },
  { cls := 15, slots := #[.int (-121)], vm := .none },
  { cls := 15, slots := #[.int (-120)], vm := .none },
  { cls := 15, slots := #[.int (-119)], vm := .none },
  { cls := 15, slots := #[.int (-118)], vm := .none },
  { cls := 15, slots := #[.int (-117)], vm := .none },
  { cls := 15, slots := #[.int (-116)], vm := .none },
  { cls := 15, slots := #[.int (-115)], vm := .none },
  { cls := 15, slots := #[.int (-114)], vm := .none },
  { cls := 15, slots := #[.int (-113)], vm := .none },
  { cls := 15, slots := #[.int (-112)], vm := .none },
  { cls := 15, slots := #[.int (-111)], vm := .none },
  { cls := 15, slots := #[.int (-110)], vm := .none },
  { cls := 15, slots := #[.int (-109)], vm := .none },
  { cls := 15, slots := #[.int (-108)], vm := .none },
  { cls := 15, slots := #[.int (-107)], vm := .none },
  { cls := 15, slots := #[.int (-106)], vm := .none },
  { cls := 15, slots := #[.int (-105)], vm := .none },
  { cls := 15, slots := #[.int (-104)], vm := .none },
  { cls := 15, slots := #[.int (-103)], vm := .none },
  { cls := 15, slots := #[.int (-102)], vm := .none },
  { cls := 15, slots := #[.int (-101)], vm := .none },
  { cls := 15, slots := #[.int (-100)], vm := .none },
  { cls := 15, slots := #[.int (-99)], vm := .none },
  { cls := 15, slots := #[.int (-98)], vm := .none },
  { cls := 15, slots := #[.int (-97)], vm := .none },
  { cls := 15, slots := #[.int (-96)], vm := .none },
  { cls := 15, slots := #[.int (-95)], vm := .none },
  { cls := 15, slots := #[.int (-94)], vm := .none },
  { cls := 15, slots := #[.int (-93)], vm := .none },
  { cls := 15, slots := #[.int (-92)], vm := .none },
  { cls := 15, slots := #[.int (-91)], vm := .none },
  { cls := 15, slots := #[.int (-90)], vm := .none },
  { cls := 15, slots := #[.int (-89)], vm := .none },
  { cls := 15, slots := #[.int (-88)], vm := .none },
  { cls := 15, slots := #[.int (-87)], vm := .none },
  { cls := 15, slots := #[.int (-86)], vm := .none },
  { cls := 15, slots := #[.int (-85)], vm := .none },
  { cls := 15, slots := #[.int (-84)], vm := .none },
  { cls := 15, slots := #[.int (-83)], vm := .none },
  { cls := 15, slots := #[.int (-82)], vm := .none },
  { cls := 15, slots := #[.int (-81)], vm := .none },
  { cls := 15, slots := #[.int (-80)], vm := .none },
  { cls := 15, slots := #[.int (-79)], vm := .none },
  { cls := 15, slots := #[.int (-78)], vm := .none },
  { cls := 15, slots := #[.int (-77)], vm := .none },
  { cls := 15, slots := #[.int (-76)], vm := .none },
  { cls := 15, slots := #[.int (-75)], vm := .none },
  { cls := 15, slots := #[.int (-74)], vm := .none },
  { cls := 15, slots := #[.int (-73)], vm := .none },
  { cls := 15, slots := #[.int (-72)], vm := .none },
  { cls := 15, slots := #[.int (-71)], vm := .none },
  { cls := 15, slots := #[.int (-70)], vm := .none },
  { cls := 15, slots := #[.int (-69)], vm := .none },
  { cls := 15, slots := #[.int (-68)], vm := .none },
  { cls := 15, slots := #[.int (-67)], vm := .none },
  { cls := 15, slots := #[.int (-66)], vm := .none },
  { cls := 15, slots := #[.int (-65)], vm := .none },
  { cls := 15, slots := #[.int (-64)], vm := .none },
  { cls := 15, slots := #[.int (-63)], vm := .none },
  { cls := 15, slots := #[.int (-62)], vm := .none },
  { cls := 15, slots := #[.int (-61)], vm := .none },
  { cls := 15, slots := #[.int (-60)], vm := .none },
  { cls := 15, slots := #[.int (-59)], vm := .none },
  { cls := 15, slots := #[.int (-58)], vm := .none },
  { cls := 15, slots := #[.int (-57)], vm := .none },
  { cls := 15, slots := #[.int (-56)], vm := .none },
  { cls := 15, slots := #[.int (-55)], vm := .none },
  { cls := 15, slots := #[.int (-54)], vm := .none },
  { cls := 15, slots := #[.int (-53)], vm := .none },
  { cls := 15, slots := #[.int (-52)], vm := .none },
  { cls := 15, slots := #[.int (-51)], vm := .none },
  { cls := 15, slots := #[.int (-50)], vm := .none },
  { cls := 15, slots := #[.int (-49)], vm := .none },
  { cls := 15, slots := #[.int (-48)], vm := .none },
  { cls := 15, slots := #[.int (-47)], vm := .none },
  { cls := 15, slots := #[.int (-46)], vm := .none },
  { cls := 15, slots := #[.int (-45)], vm := .none },
  { cls := 15, slots := #[.int (-44)], vm := .none },
  { cls := 15, slots := #[.int (-43)], vm := .none },
  { cls := 15, slots := #[.int (-42)], vm := .none },
  { cls := 15, slots := #[.int (-41)], vm := .none },
  { cls := 15, slots := #[.int (-40)], vm := .none },
  { cls := 15, slots := #[.int (-39)], vm := .none },
  { cls := 15, slots := #[.int (-38)], vm := .none },
  { cls := 15, slots := #[.int (-37)], vm := .none },
  { cls := 15, slots := #[.int (-36)], vm := .none },
  { cls := 15, slots := #[.int (-35)], vm := .none },
  { cls := 15, slots := #[.int (-34)], vm := .none },
  { cls := 15, slots := #[.int (-33)], vm := .none },
  { cls := 15, slots := #[.int (-32)], vm := .none },
  { cls := 15, slots := #[.int (-31)], vm := .none },
  { cls := 15, slots := #[.int (-30)], vm := .none },
  { cls := 15, slots := #[.int (-29)], vm := .none },
  { cls := 15, slots := #[.int (-28)], vm := .none },
  { cls := 15, slots := #[.int (-27)], vm := .none },
  { cls := 15, slots := #[.int (-26)], vm := .none },
  { cls := 15, slots := #[.int (-25)], vm := .none },
  { cls := 15, slots := #[.int (-24)], vm := .none },
  { cls := 15, slots := #[.int (-23)], vm := .none },
  { cls := 15, slots := #[.int (-22)], vm := .none },
  { cls := 15, slots := #[.int (-21)], vm := .none },
  { cls := 15, slots := #[.int (-20)], vm := .none },
  { cls := 15, slots := #[.int (-19)], vm := .none },
  { cls := 15, slots := #[.int (-18)], vm := .none },
  { cls := 15, slots := #[.int (-17)], vm := .none },
  { cls := 15, slots := #[.int (-16)], vm := .none },
  { cls := 15, slots := #[.int (-15)], vm := .none },
  { cls := 15, slots := #[.int (-14)], vm := .none },
  { cls := 15, slots := #[.int (-13)], vm := .none },
  { cls := 15, slots := #[.int (-12)], vm := .none },
  { cls := 15, slots := #[.int (-11)], vm := .none },
  { cls := 15, slots := #[.int (-10)], vm := .none },
  { cls := 15, slots := #[.int (-9)], vm := .none },
  { cls := 15, slots := #[.int (-8)], vm := .none },
  { cls := 15, slots := #[.int (-7)], vm := .none },
  { cls := 15, slots := #[.int (-6)], vm := .none },
  { cls := 15, slots := #[.int (-5)], vm := .none },
  { cls := 15, slots := #[.int (-4)], vm := .none },
  { cls := 15, slots := #[.int (-3)], vm := .none },
  { cls := 15, slots := #[.int (-2)], vm := .none },
  { cls := 15, slots := #[.int (-1)], vm := .none },
  { cls := 15, slots := #[.int (0)], vm := .none },
  { cls := 15, slots := #[.int (1)], vm := .none },
  { cls := 15, slots := #[.int (2)], vm := .none },
  { cls := 15, slots := #[.int (3)], vm := .none },
  { cls := 15, slots := #[.int (4)], vm := .none },
  { cls := 15, slots := #[.int (5)], vm := .none },
  { cls := 15, slots := #[.int (6)], vm := .none },
  { cls := 15, slots := #[.int (7)], vm := .none },
  { cls := 15, slots := #[.int (8)], vm := .none },
  { cls := 15, slots := #[.int (9)], vm := .none },
  { cls := 15, slots := #[.int (10)], vm := .none },
  { cls := 15, slots := #[.int (11)], vm := .none },
  { cls := 15, slots := #[.int (12)], vm := .none },
  { cls := 15, slots := #[.int (13)], vm := .none },
  { cls := 15, slots := #[.int (14)], vm := .none },
  { cls := 15, slots := #[.int (15)], vm := .none },
  { cls := 15, slots := #[.int (16)], vm := .none },
  { cls := 15, slots := #[.int (17)], vm := .none },
  { cls := 15, slots := #[.int (18)], vm := .none },
  { cls := 15, slots := #[.int (19)], vm := .none },
  { cls := 15, slots := #[.int (20)], vm := .none },
  { cls := 15, slots := #[.int (21)], vm := .none },
  { cls := 15, slots := #[.int (22)], vm := .none },
  { cls := 15, slots := #[.int (23)], vm := .none },
  { cls := 15, slots := #[.int (24)], vm := .none },
  { cls := 15, slots := #[.int (25)], vm := .none },
  { cls := 15, slots := #[.int (26)], vm := .none },
  { cls := 15, slots := #[.int (27)], vm := .none },
  { cls := 15, slots := #[.int (28)], vm := .none },
  { cls := 15, slots := #[.int (29)], vm := .none },
  { cls := 15, slots := #[.int (30)], vm := .none },
  { cls := 15, slots := #[.int (31)], vm := .none },
  { cls := 15, slots := #[.int (32)], vm := .none },
  { cls := 15, slots := #[.int (33)], vm := .none },
  { cls := 15, slots := #[.int (34)], vm := .none },
  { cls := 15, slots := #[.int (35)], vm := .none },
  { cls := 15, slots := #[.int (36)], vm := .none },
  { cls := 15, slots := #[.int (37)], vm := .none },
  { cls := 15, slots := #[.int (38)], vm := .none },
  { cls := 15, slots := #[.int (39)], vm := .none },
  { cls := 15, slots := #[.int (40)], vm := .none },
  { cls := 15, slots := #[.int (41)], vm := .none },
  { cls := 15, slots := #[.int (42)], vm := .none },
  { cls := 15, slots := #[.int (43)], vm := .none },
  { cls := 15, slots := #[.int (44)], vm := .none },
  { cls := 15, slots := #[.int (45)], vm := .none },
  { cls := 15, slots := #[.int (46)], vm := .none },
  { cls := 15, slots := #[.int (47)], vm := .none },
  { cls := 15, slots := #[.int (48)], vm := .none },
  { cls := 15, slots := #[.int (49)], vm := .none },
  { cls := 15, slots := #[.int (50)], vm := .none },
  { cls := 15, slots := #[.int (51)], vm := .none },
  { cls := 15, slots := #[.int (52)], vm := .none },
  { cls := 15, slots := #[.int (53)], vm := .none },
  { cls := 15, slots := #[.int (54)], vm := .none },
  { cls := 15, slots := #[.int (55)], vm := .none },
  { cls := 15, slots := #[.int (56)], vm := .none },
  { cls := 15, slots := #[.int (57)], vm := .none },
  { cls := 15, slots := #[.int (58)], vm := .none },
  { cls := 15, slots := #[.int (59)], vm := .none },
  { cls := 15, slots := #[.int (60)], vm := .none },
  { cls := 15, slots := #[.int (61)], vm := .none },
  { cls := 15, slots := #[.int (62)], vm := .none },
  { cls := 15, slots := #[.int (63)], vm := .none },
  { cls := 15, slots := #[.int (64)], vm := .none },
  { cls := 15, slots := #[.int (65)], vm := .none },
  { cls := 15, slots := #[.int (66)], vm := .none },
  { cls := 15, slots := #[.int (67)], vm := .none },
  { cls := 15, slots := #[.int (68)], vm := .none },
  { cls := 15, slots := #[.int (69)], vm := .none },
  { cls := 15, slots := #[.int (70)], vm := .none },
  { cls := 15, slots := #[.int (71)], vm := .none },
  { cls := 15, slots := #[.int (72)], vm := .none },
  { cls := 15, slots := #[.int (73)], vm := .none },
  { cls := 15, slots := #[.int (74)], vm := .none },
  { cls := 15, slots := #[.int (75)], vm := .none },
  { cls := 15, slots := #[.int (76)], vm := .none },
  { cls := 15, slots := #[.int (77)], vm := .none },
  { cls := 15, slots := #[.int (78)], vm := .none },
  { cls := 15, slots := #[.int (79)], vm := .none },
  { cls := 15, slots := #[.int (80)], vm := .none },
  { cls := 15, slots := #[.int (81)], vm := .none },
  { cls := 15, slots := #[.int (82)], vm := .none },
  { cls := 15, slots := #[.int (83)], vm := .none },
  { cls := 15, slots := #[.int (84)], vm := .none },
  { cls := 15, slots := #[.int (85)], vm := .none },
  { cls := 15, slots := #[.int (86)], vm := .none },
  { cls := 15, slots := #[.int (87)], vm := .none },
  { cls := 15, slots := #[.int (88)], vm := .none },
  { cls := 15, slots := #[.int (89)], vm := .none },
  { cls := 15, slots := #[.int (90)], vm := .none },
  { cls := 15, slots := #[.int (91)], vm := .none },
  { cls := 15, slots := #[.int (92)], vm := .none },
  { cls := 15, slots := #[.int (93)], vm := .none },
  { cls := 15, slots := #[.int (94)], vm := .none },
  { cls := 15, slots := #[.int (95)], vm := .none },
  { cls := 15, slots := #[.int (96)], vm := .none },
  { cls := 15, slots := #[.int (97)], vm := .none },
  { cls := 15, slots := #[.int (98)], vm := .none },
  { cls := 15, slots := #[.int (99)], vm := .none },
  { cls := 15, slots := #[.int (100)], vm := .none },
  { cls := 15, slots := #[.int (101)], vm := .none },
  { cls := 15, slots := #[.int (102)], vm := .none },
  { cls := 15, slots := #[.int (103)], vm := .none },
  { cls := 15, slots := #[.int (104)], vm := .none },
  { cls := 15, slots := #[.int (105)], vm := .none },
  { cls := 15, slots := #[.int (106)], vm := .none },
  { cls := 15, slots := #[.int (107)], vm := .none },
  { cls := 15, slots := #[.int (108)], vm := .none },
  { cls := 15, slots := #[.int (109)], vm := .none },
  { cls := 15, slots := #[.int (110)], vm := .none },
  { cls := 15, slots := #[.int (111)], vm := .none },
  { cls := 15, slots := #[.int (112)], vm := .none },
  { cls := 15, slots := #[.int (113)], vm := .none },
  { cls := 15, slots := #[.int (114)], vm := .none },
  { cls := 15, slots := #[.int (115)], vm := .none },
  { cls := 15, slots := #[.int (116)], vm := .none },
  { cls := 15, slots := #[.int (117)], vm := .none },
  { cls := 15, slots := #[.int (118)], vm := .none },
  { cls := 15, slots := #[.int (119)], vm := .none },
  { cls := 15, slots := #[.int (120)], vm := .none },
  { cls := 15, slots := #[.int (121)], vm := .none },
  { cls := 15, slots := #[.int (122)], vm := .none },
  { cls := 15, slots := #[.int (123)], vm := .none },
  { cls := 15, slots := #[.int (124)], vm := .none },
  { cls := 15, slots := #[.int (125)], vm := .none },
  { cls := 15, slots := #[.int (126)], vm := .none },
  { cls := 15, slots := #[.int (127)], vm := .none }]
def classes : Array Class := #[k0, k1, k2, k3, k4, k5, k6, k7, k8, k9, k10, k11, k12, k13, k14, k15, k16, k17, k18, k19, k20, k21, k22, k23]
def interned : List (Array UInt16 × Addr) := []
def slotsUsed : Nat := 519
def theMethod : MethodId := ⟨1, 1⟩
def args0 : Array Value := #[.int 500, .int 3]
def aboutOver (below : List Frame) : State where
  vm := { classes := classes, interned := interned.toArray }
  heap := heap
  slotsUsed := slotsUsed
  threads := #[{ frames := .invoking theMethod args0 :: below }]
def below0 : List Frame := [.native { method := ⟨0, 0⟩, args := #[] }]
def about1 : State := aboutOver below0
def p0 : Program := .bare "" "" ""
def e0 : Env := launch0.env 0 0 0
theorem w_frames : about1.frames = Frame.invoking theMethod args0 :: below0 := rfl
set_option maxRecDepth 65536 in
theorem w_args : argsFit about1.vm theMethod args0 = true := by decide +kernel
set_option maxRecDepth 65536 in
theorem w_heap : heapFits about1 = true := by decide +kernel
set_option maxRecDepth 65536 in
theorem w_runnable : about1.curStatus? = some .runnable := by decide +kernel
set_option maxRecDepth 65536 in
theorem w_alone : about1.alone = true := by decide +kernel
set_option maxRecDepth 65536 in
theorem w_named : about1.methodNamed? x = some theMethod := by decide +kernel
set_option maxRecDepth 65536 in
theorem w_hears : about1.hears theMethod below0 = true := by decide +kernel
set_option maxRecDepth 65536 in
theorem w_ripe : about1.ripe theMethod args0 below0 = true := by decide +kernel
theorem w_running : about1.status = .running := rfl
set_option maxRecDepth 65536 in
theorem w_room : about1.hasRoom e0.platform room_1 = true :=
  launch0.hasRoom_least _ room_1 (by decide +kernel) (by decide +kernel) (by decide +kernel) (by decide +kernel) (by decide +kernel) (by decide +kernel)
theorem allAtoms_all (ts : List Jvm.Cond) (a : Array Jvm.Value) (st : Jvm.State) : (allAtoms ts).before a st = ts.all (fun c => c.before a st) := by
  induction ts with
  | nil => rfl
  | cons c t ih =>
    show (Jvm.Cond.and c (allAtoms t)).before a st = _
    rw [Jvm.Cond.before_and, ih, List.all_cons]
def words1 : List Jvm.Cond := Jvm.Cond.code x code maxLocals ret :: tables_1
/-- a 'code' word, met by the world's own term for the bytes: nothing is compared byte by byte -/
theorem code_word {y : MethodName} {bytes : ByteArray} {mx : Nat} {rt : Option FieldType} {a : Array Value} {s : State} {m : MethodId} {meth : Method} {c : Code} (h1 : s.methodNamed? y = some m) (h2 : s.vm.method? m = some meth) (h3 : meth.code = some c) (h4 : c.code = bytes)
    (h5 : (c.maxLocals == mx && c.exceptionTable.isEmpty && decide (c.maxStack ≤ mostOperands) && decide (meth.sig.returnType = rt) && !meth.locks && decide (parseMethodDescriptor y.desc = some meth.sig)) = true) : (Jvm.Cond.code y bytes mx rt).before a s = true := by
  simp only [Bool.and_eq_true, beq_iff_eq, Bool.not_eq_true', decide_eq_true_eq] at h5
  obtain ⟨⟨⟨⟨⟨g1, g2⟩, g3⟩, g4⟩, g5⟩, g6⟩ := h5
  simp [Cond.before, Cond.holds, Cond.value, h1, h2, h3, h4, g1, g2, g3, g4, g5, g6]
def isCode : Jvm.Cond → Bool
  | .code _ _ _ _ => true
  | _ => false
theorem all_split {L : List Jvm.Cond} {P : Jvm.Cond → Bool} (h1 : L.all (fun c => isCode c || P c) = true) (h2 : ∀ c ∈ L.filter isCode, P c = true) : L.all P = true := by
  refine List.all_eq_true.mpr fun c hc => ?_
  have h := List.all_eq_true.mp h1 c hc
  rcases Bool.eq_false_or_eq_true (isCode c) with hi | hi
  · exact h2 c (List.mem_filter.mpr ⟨hc, hi⟩)
  · simpa [hi] using h
set_option maxRecDepth 65536 in
theorem w_c0 : (Jvm.Cond.code x code maxLocals ret).before args0 about1 = true := code_word (m := ⟨1, 1⟩) (meth := k1m1) (c := k1c1) (by decide +kernel) rfl rfl rfl (by decide +kernel)
set_option maxRecDepth 65536 in
theorem w_c1 : (Jvm.Cond.code ({ cls := "com/example/wise_crawler/wisecrawler/fetch/Exchange", name := "<init>", desc := "(Lcom/example/wise_crawler/wisecrawler/url/CanonicalUrl;Ljava/time/Instant;Ljava/lang/String;Lcom/example/wise_crawler/wisecrawler/fetch/HeaderFields;ILcom/example/wise_crawler/wisecrawler/fetch/HeaderFields;Lcom/example/wise_crawler/wisecrawler/fetch/SpooledBytes;Ljava/util/Optional;)V" } : Jvm.MethodName) prog_28_method_1_code (9 : Nat) (Option.none : Option Jvm.ClassFile.FieldType)).before args0 about1 = true := code_word (m := ⟨5, 0⟩) (meth := k5m0) (c := k5c0) (by decide +kernel) rfl rfl rfl (by decide +kernel)
set_option maxRecDepth 65536 in
theorem w_c2 : (Jvm.Cond.code ({ cls := "java/lang/Record", name := "<init>", desc := "()V" } : Jvm.MethodName) jdk_30_method_1_code (1 : Nat) (Option.none : Option Jvm.ClassFile.FieldType)).before args0 about1 = true := code_word (m := ⟨2, 0⟩) (meth := k2m0) (c := k2c0) (by decide +kernel) rfl rfl rfl (by decide +kernel)
set_option maxRecDepth 65536 in
theorem w_c3 : (Jvm.Cond.code ({ cls := "java/lang/Object", name := "<init>", desc := "()V" } : Jvm.MethodName) object_method_1_code (1 : Nat) (Option.none : Option Jvm.ClassFile.FieldType)).before args0 about1 = true := code_word (m := ⟨0, 0⟩) (meth := k0m0) (c := k0c0) (by decide +kernel) rfl rfl rfl (by decide +kernel)
set_option maxRecDepth 65536 in
theorem w_c4 : (Jvm.Cond.code ({ cls := "java/util/Optional", name := "of", desc := "(Ljava/lang/Object;)Ljava/util/Optional;" } : Jvm.MethodName) jdk_32_method_3_code (1 : Nat) (Option.some (Jvm.ClassFile.FieldType.object "java/util/Optional"))).before args0 about1 = true := code_word (m := ⟨7, 2⟩) (meth := k7m2) (c := k7c2) (by decide +kernel) rfl rfl rfl (by decide +kernel)
set_option maxRecDepth 65536 in
theorem w_c5 : (Jvm.Cond.code ({ cls := "java/util/Objects", name := "requireNonNull", desc := "(Ljava/lang/Object;)Ljava/lang/Object;" } : Jvm.MethodName) jdk_31_method_10_code (1 : Nat) (Option.some (Jvm.ClassFile.FieldType.object "java/lang/Object"))).before args0 about1 = true := code_word (m := ⟨8, 1⟩) (meth := k8m1) (c := k8c1) (by decide +kernel) rfl rfl rfl (by decide +kernel)
set_option maxRecDepth 65536 in
theorem w_c6 : (Jvm.Cond.code ({ cls := "java/util/Optional", name := "<init>", desc := "(Ljava/lang/Object;)V" } : Jvm.MethodName) jdk_32_method_2_code (2 : Nat) (Option.none : Option Jvm.ClassFile.FieldType)).before args0 about1 = true := code_word (m := ⟨7, 1⟩) (meth := k7m1) (c := k7c1) (by decide +kernel) rfl rfl rfl (by decide +kernel)
set_option maxRecDepth 65536 in
theorem w_c7 : (Jvm.Cond.code ({ cls := "com/example/wise_crawler/wisecrawler/crawl/Answer", name := "<init>", desc := "(Ljava/util/Optional;Z)V" } : Jvm.MethodName) prog_3_method_1_code (3 : Nat) (Option.none : Option Jvm.ClassFile.FieldType)).before args0 about1 = true := code_word (m := ⟨6, 0⟩) (meth := k6m0) (c := k6c0) (by decide +kernel) rfl rfl rfl (by decide +kernel)
set_option maxRecDepth 65536 in
theorem w_c8 : (Jvm.Cond.code ({ cls := "com/example/wise_crawler/wisecrawler/crawl/Answer", name := "status", desc := "()I" } : Jvm.MethodName) prog_3_method_3_code (1 : Nat) (Option.some Jvm.ClassFile.FieldType.int)).before args0 about1 = true := code_word (m := ⟨6, 1⟩) (meth := k6m1) (c := k6c1) (by decide +kernel) rfl rfl rfl (by decide +kernel)
set_option maxRecDepth 65536 in
theorem w_c9 : (Jvm.Cond.code ({ cls := "java/util/Optional", name := "map", desc := "(Ljava/util/function/Function;)Ljava/util/Optional;" } : Jvm.MethodName) jdk_32_method_11_code (2 : Nat) (Option.some (Jvm.ClassFile.FieldType.object "java/util/Optional"))).before args0 about1 = true := code_word (m := ⟨7, 5⟩) (meth := k7m5) (c := k7c5) (by decide +kernel) rfl rfl rfl (by decide +kernel)
set_option maxRecDepth 65536 in
theorem w_c10 : (Jvm.Cond.code ({ cls := "java/util/Optional", name := "isEmpty", desc := "()Z" } : Jvm.MethodName) jdk_32_method_7_code (1 : Nat) (Option.some Jvm.ClassFile.FieldType.boolean)).before args0 about1 = true := code_word (m := ⟨7, 4⟩) (meth := k7m4) (c := k7c4) (by decide +kernel) rfl rfl rfl (by decide +kernel)
set_option maxRecDepth 65536 in
theorem w_c11 : (Jvm.Cond.code ({ cls := "com/example/wise_crawler/wisecrawler/fetch/Exchange", name := "status", desc := "()I" } : Jvm.MethodName) prog_28_method_16_code (1 : Nat) (Option.some Jvm.ClassFile.FieldType.int)).before args0 about1 = true := code_word (m := ⟨5, 1⟩) (meth := k5m1) (c := k5c1) (by decide +kernel) rfl rfl rfl (by decide +kernel)
set_option maxRecDepth 65536 in
theorem w_c12 : (Jvm.Cond.code ({ cls := "java/lang/Integer", name := "valueOf", desc := "(I)Ljava/lang/Integer;" } : Jvm.MethodName) jdk_33_method_22_code (1 : Nat) (Option.some (Jvm.ClassFile.FieldType.object "java/lang/Integer"))).before args0 about1 = true := code_word (m := ⟨15, 0⟩) (meth := k15m0) (c := k15c0) (by decide +kernel) rfl rfl rfl (by decide +kernel)
set_option maxRecDepth 65536 in
theorem w_c13 : (Jvm.Cond.code ({ cls := "java/util/Optional", name := "ofNullable", desc := "(Ljava/lang/Object;)Ljava/util/Optional;" } : Jvm.MethodName) jdk_32_method_4_code (1 : Nat) (Option.some (Jvm.ClassFile.FieldType.object "java/util/Optional"))).before args0 about1 = true := code_word (m := ⟨7, 3⟩) (meth := k7m3) (c := k7c3) (by decide +kernel) rfl rfl rfl (by decide +kernel)
set_option maxRecDepth 65536 in
theorem w_c14 : (Jvm.Cond.code ({ cls := "java/util/Optional", name := "orElse", desc := "(Ljava/lang/Object;)Ljava/lang/Object;" } : Jvm.MethodName) jdk_32_method_15_code (2 : Nat) (Option.some (Jvm.ClassFile.FieldType.object "java/lang/Object"))).before args0 about1 = true := code_word (m := ⟨7, 6⟩) (meth := k7m6) (c := k7c6) (by decide +kernel) rfl rfl rfl (by decide +kernel)
set_option maxRecDepth 65536 in
theorem w_c15 : (Jvm.Cond.code ({ cls := "java/lang/Integer", name := "intValue", desc := "()I" } : Jvm.MethodName) jdk_33_method_27_code (1 : Nat) (Option.some Jvm.ClassFile.FieldType.int)).before args0 about1 = true := code_word (m := ⟨15, 2⟩) (meth := k15m2) (c := k15c2) (by decide +kernel) rfl rfl rfl (by decide +kernel)
set_option maxRecDepth 65536 in
theorem w_c16 : (Jvm.Cond.code ({ cls := "java/util/Optional", name := "empty", desc := "()Ljava/util/Optional;" } : Jvm.MethodName) jdk_32_method_1_code (1 : Nat) (Option.some (Jvm.ClassFile.FieldType.object "java/util/Optional"))).before args0 about1 = true := code_word (m := ⟨7, 0⟩) (meth := k7m0) (c := k7c0) (by decide +kernel) rfl rfl rfl (by decide +kernel)
set_option maxRecDepth 65536 in
theorem w_c17 : (Jvm.Cond.code ({ cls := "java/lang/Integer", name := "<init>", desc := "(I)V" } : Jvm.MethodName) jdk_33_method_23_code (2 : Nat) (Option.none : Option Jvm.ClassFile.FieldType)).before args0 about1 = true := code_word (m := ⟨15, 1⟩) (meth := k15m1) (c := k15c1) (by decide +kernel) rfl rfl rfl (by decide +kernel)
set_option maxRecDepth 65536 in
theorem w_c18 : (Jvm.Cond.code ({ cls := "java/lang/Number", name := "<init>", desc := "()V" } : Jvm.MethodName) jdk_18_method_1_code (1 : Nat) (Option.none : Option Jvm.ClassFile.FieldType)).before args0 about1 = true := code_word (m := ⟨11, 0⟩) (meth := k11m0) (c := k11c0) (by decide +kernel) rfl rfl rfl (by decide +kernel)
def codes1 : List Jvm.Cond := [Jvm.Cond.code x code maxLocals ret, Jvm.Cond.code ({ cls := "com/example/wise_crawler/wisecrawler/fetch/Exchange", name := "<init>", desc := "(Lcom/example/wise_crawler/wisecrawler/url/CanonicalUrl;Ljava/time/Instant;Ljava/lang/String;Lcom/example/wise_crawler/wisecrawler/fetch/HeaderFields;ILcom/example/wise_crawler/wisecrawler/fetch/HeaderFields;Lcom/example/wise_crawler/wisecrawler/fetch/SpooledBytes;Ljava/util/Optional;)V" } : Jvm.MethodName) prog_28_method_1_code (9 : Nat) (Option.none : Option Jvm.ClassFile.FieldType), Jvm.Cond.code ({ cls := "java/lang/Record", name := "<init>", desc := "()V" } : Jvm.MethodName) jdk_30_method_1_code (1 : Nat) (Option.none : Option Jvm.ClassFile.FieldType), Jvm.Cond.code ({ cls := "java/lang/Object", name := "<init>", desc := "()V" } : Jvm.MethodName) object_method_1_code (1 : Nat) (Option.none : Option Jvm.ClassFile.FieldType), Jvm.Cond.code ({ cls := "java/util/Optional", name := "of", desc := "(Ljava/lang/Object;)Ljava/util/Optional;" } : Jvm.MethodName) jdk_32_method_3_code (1 : Nat) (Option.some (Jvm.ClassFile.FieldType.object "java/util/Optional")), Jvm.Cond.code ({ cls := "java/util/Objects", name := "requireNonNull", desc := "(Ljava/lang/Object;)Ljava/lang/Object;" } : Jvm.MethodName) jdk_31_method_10_code (1 : Nat) (Option.some (Jvm.ClassFile.FieldType.object "java/lang/Object")), Jvm.Cond.code ({ cls := "java/util/Optional", name := "<init>", desc := "(Ljava/lang/Object;)V" } : Jvm.MethodName) jdk_32_method_2_code (2 : Nat) (Option.none : Option Jvm.ClassFile.FieldType), Jvm.Cond.code ({ cls := "com/example/wise_crawler/wisecrawler/crawl/Answer", name := "<init>", desc := "(Ljava/util/Optional;Z)V" } : Jvm.MethodName) prog_3_method_1_code (3 : Nat) (Option.none : Option Jvm.ClassFile.FieldType), Jvm.Cond.code ({ cls := "com/example/wise_crawler/wisecrawler/crawl/Answer", name := "status", desc := "()I" } : Jvm.MethodName) prog_3_method_3_code (1 : Nat) (Option.some Jvm.ClassFile.FieldType.int), Jvm.Cond.code ({ cls := "java/util/Optional", name := "map", desc := "(Ljava/util/function/Function;)Ljava/util/Optional;" } : Jvm.MethodName) jdk_32_method_11_code (2 : Nat) (Option.some (Jvm.ClassFile.FieldType.object "java/util/Optional")), Jvm.Cond.code ({ cls := "java/util/Optional", name := "isEmpty", desc := "()Z" } : Jvm.MethodName) jdk_32_method_7_code (1 : Nat) (Option.some Jvm.ClassFile.FieldType.boolean), Jvm.Cond.code ({ cls := "com/example/wise_crawler/wisecrawler/fetch/Exchange", name := "status", desc := "()I" } : Jvm.MethodName) prog_28_method_16_code (1 : Nat) (Option.some Jvm.ClassFile.FieldType.int), Jvm.Cond.code ({ cls := "java/lang/Integer", name := "valueOf", desc := "(I)Ljava/lang/Integer;" } : Jvm.MethodName) jdk_33_method_22_code (1 : Nat) (Option.some (Jvm.ClassFile.FieldType.object "java/lang/Integer")), Jvm.Cond.code ({ cls := "java/util/Optional", name := "ofNullable", desc := "(Ljava/lang/Object;)Ljava/util/Optional;" } : Jvm.MethodName) jdk_32_method_4_code (1 : Nat) (Option.some (Jvm.ClassFile.FieldType.object "java/util/Optional")), Jvm.Cond.code ({ cls := "java/util/Optional", name := "orElse", desc := "(Ljava/lang/Object;)Ljava/lang/Object;" } : Jvm.MethodName) jdk_32_method_15_code (2 : Nat) (Option.some (Jvm.ClassFile.FieldType.object "java/lang/Object")), Jvm.Cond.code ({ cls := "java/lang/Integer", name := "intValue", desc := "()I" } : Jvm.MethodName) jdk_33_method_27_code (1 : Nat) (Option.some Jvm.ClassFile.FieldType.int), Jvm.Cond.code ({ cls := "java/util/Optional", name := "empty", desc := "()Ljava/util/Optional;" } : Jvm.MethodName) jdk_32_method_1_code (1 : Nat) (Option.some (Jvm.ClassFile.FieldType.object "java/util/Optional")), Jvm.Cond.code ({ cls := "java/lang/Integer", name := "<init>", desc := "(I)V" } : Jvm.MethodName) jdk_33_method_23_code (2 : Nat) (Option.none : Option Jvm.ClassFile.FieldType), Jvm.Cond.code ({ cls := "java/lang/Number", name := "<init>", desc := "()V" } : Jvm.MethodName) jdk_18_method_1_code (1 : Nat) (Option.none : Option Jvm.ClassFile.FieldType)]
set_option maxRecDepth 65536 in
theorem codes_eq : words1.filter isCode = codes1 := rfl
theorem w_codes : ∀ c ∈ words1.filter isCode, c.before args0 about1 = true := by
  rw [codes_eq]
  intro c hc
  simp only [codes1, List.mem_cons, List.not_mem_nil, or_false] at hc
  rcases hc with rfl | rfl | rfl | rfl | rfl | rfl | rfl | rfl | rfl | rfl | rfl | rfl | rfl | rfl | rfl | rfl | rfl | rfl | rfl
  · exact w_c0
  · exact w_c1
  · exact w_c2
  · exact w_c3
  · exact w_c4
  · exact w_c5
  · exact w_c6
  · exact w_c7
  · exact w_c8
  · exact w_c9
  · exact w_c10
  · exact w_c11
  · exact w_c12
  · exact w_c13
  · exact w_c14
  · exact w_c15
  · exact w_c16
  · exact w_c17
  · exact w_c18
set_option maxRecDepth 65536 in
theorem w_t1 : (words1.take 24).all (fun c => isCode c || c.before args0 about1) = true := by decide +kernel
set_option maxRecDepth 65536 in
theorem w_t2 : ((words1.drop 24).take 24).all (fun c => isCode c || c.before args0 about1) = true := by decide +kernel
set_option maxRecDepth 65536 in
theorem w_t3 : (((words1.drop 24).drop 24).take 24).all (fun c => isCode c || c.before args0 about1) = true := by decide +kernel
set_option maxRecDepth 65536 in
theorem w_t4 : ((((words1.drop 24).drop 24).drop 24).take 24).all (fun c => isCode c || c.before args0 about1) = true := by decide +kernel
set_option maxRecDepth 65536 in
theorem w_t5 : (((((words1.drop 24).drop 24).drop 24).drop 24).take 24).all (fun c => isCode c || c.before args0 about1) = true := by decide +kernel
set_option maxRecDepth 65536 in
theorem w_t6 : (((((words1.drop 24).drop 24).drop 24).drop 24).drop 24).all (fun c => isCode c || c.before args0 about1) = true := by decide +kernel
theorem w_tables : (allAtoms (Jvm.Cond.code x code maxLocals ret :: tables_1)).before args0 about1 = true := by
  rw [allAtoms_all]
  show words1.all (fun c => c.before args0 about1) = true
  refine all_split ?_ w_codes
  rw [← List.take_append_drop 24 words1, List.all_append, w_t1, ← List.take_append_drop 24 (words1.drop 24), List.all_append, w_t2, ← List.take_append_drop 24 ((words1.drop 24).drop 24), List.all_append, w_t3, ← List.take_append_drop 24 (((words1.drop 24).drop 24).drop 24), List.all_append, w_t4, ← List.take_append_drop 24 ((((words1.drop 24).drop 24).drop 24).drop 24), List.all_append, w_t5, w_t6]
  rfl
set_option maxRecDepth 65536 in
theorem w_rest : rest_1_c.before args0 about1 = true := by decide +kernel
set_option maxRecDepth 65536 in
theorem w_case : (Jvm.Cond.and given_1 narrow_1).before args0 about1 = true := by decide +kernel
theorem w_applies : (headSpec (Jvm.Cond.code x code maxLocals ret :: tables_1) room_1).applies x e0.platform about1 = true :=
  (Spec.applies_iff w_frames).mpr ⟨w_running, w_runnable, w_alone, w_named, w_hears, w_ripe, w_room, w_tables⟩
theorem atStart : AtStart classFile x code maxLocals ret World_1 tables_1 room_1 Calls_1 rest_1 Pre_1 launch0 p0 e0 about1 theMethod args0 below0 :=
  ⟨lists_1, trivial, launch0.admits_env _ _ _, launch0.least_env, fairChoices_fair.cas, fairChoices_fair.clock, w_frames, w_args, w_heap, w_applies, trivial, w_rest, w_case⟩
end start1
theorem witness_1 : WitnessClaimed_1 := ⟨start1.p0, start1.e0, start1.about1, start1.theMethod, start1.args0, start1.below0, start1.atStart⟩
end Jvm.Pilot.@@N@@
