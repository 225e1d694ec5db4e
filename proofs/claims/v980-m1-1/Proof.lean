import JvmDerived
import JvmDerived.Pilot.@@N@@Statement
import JvmDerived.Pilot.@@N@@Code
set_option linter.unusedVariables false
set_option linter.unusedSimpArgs false
@@BLOCK:LamKit.lean.txt@@
namespace Jvm.Pilot.@@N@@
open Jvm Jvm.ClassFile Sem Op Lib Jvm.Free Jvm.Stand Jvm.LawKit Jvm.RoadKit Bundle Jvm.Pilot.@@N@@.Jvm.D
section Own
variable {p : Program} {l : Launch} {e : Env} {R : Room} {s : State} {m : MethodId} {args : Array Value} {below : List Frame} {meth : Method} {c : Code} {T T' : State} {locs : List Loc} {cells slots : Nat} {g g' : JFrame} {P : State → Outcome → Prop}
/-- the run that stands at the frame g over T comes to an end of which P holds -/
def own_Ends (p : Program) (e : Env) (below : List Frame) (P : State → Outcome → Prop) (T : State) (g : JFrame) : Prop := ∃ u o, Steps p.tables e below (T.setTop g) u ∧ P u o
theorem own_via (st : ∀ t, Steps p.tables e below (T'.setTop g') t → Steps p.tables e below (T.setTop g) t) (k : own_Ends p e below P T' g') : own_Ends p e below P T g := by
  obtain ⟨a, b, c, d⟩ := k
  exact ⟨a, b, st _ c, d⟩
theorem own_viaT (st : Steps p.tables e below (T.setTop g) (T'.setTop g')) (k : own_Ends p e below P T' g') : own_Ends p e below P T g := own_via (fun _ k => st.trans k) k
def own_Post (s : State) (below : List Frame) (Q : Option Value → Heap → List Loc → Prop) (C S : Nat) : State → Outcome → Prop := fun u o => u.status = .running ∧ Ended u below o ∧ ∃ v L, o = .returned v ∧ Q v u.heap L ∧ FrameEnd s o u L C S
theorem own_leave (X : Stand p l e R s m args below meth c T locs cells slots) {v : Option Value} {Q : Option Value → Heap → List Loc → Prop} {C S : Nat} (hv : meth.sig.returnType = none → v = none) (hlk : meth.locks = false)
    (hst : ∀ fs, (∀ (f : JFrame) (acts : List Action), f.method = m → f.locked = none → f.entered = [] → (doReturn e (T.setTop f) acts v).1 = T.setFrames fs) → Steps p.tables e below (T.setTop g) (T.setFrames fs))
    (hC : cells ≤ C) (hS : slots ≤ S) (hQ : Q v T.heap locs) : own_Ends p e below (own_Post s below Q C S) T g := by
  obtain ⟨fs, hr, hrun, hended, hW, hsame⟩ := X.leave (v := v) hv hlk
  exact ⟨_, _, hst fs hr, hrun, hended, v, locs, rfl, hQ, ⟨_, rfl⟩, hW, hsame.mono hC hS⟩
theorem own_retV (X : Stand p l e R s m args below meth c T locs cells slots) (hx : p.tables.exec = Jvm.exec) (hlk : meth.locks = false) {Q : Option Value → Heap → List Loc → Prop} {C S : Nat} {pc : Nat} {Ls : Array Slot} (hret : meth.sig.returnType = none) (hd : decode c.code pc = .ok (.return_, 1))
    (hC : cells ≤ C) (hS : slots ≤ S) (hQ : Q none T.heap locs) : own_Ends p e below (own_Post s below Q C S) T (mkF m pc Ls []) :=
  own_leave X (fun _ => rfl) hlk (fun fs hr => X.returnOut hx hret hd hr) hC hS hQ
theorem own_retW (X : Stand p l e R s m args below meth c T locs cells slots) (hx : p.tables.exec = Jvm.exec) (hlk : meth.locks = false) {Q : Option Value → Heap → List Loc → Prop} {C S : Nat} {pc : Nat} {Ls : Array Slot} {w : Value} {t : FieldType} {i : Instr} {rest : List Value} (hret : meth.sig.returnType = some t) (hn : narrow t w = w)
    (hi : (i = .ireturn ∧ (t = .int ∨ t = .boolean ∨ t = .byte ∨ t = .char ∨ t = .short) ∧ ∃ z, w = .int z) ∨ (i = .lreturn ∧ t = .long ∧ ∃ z, w = .long z) ∨ (i = .dreturn ∧ t = .double ∧ ∃ z, w = .double z) ∨ (i = .freturn ∧ t = .float ∧ ∃ z, w = .float z) ∨ (i = .areturn ∧ t.isReference = true ∧ w.isRef = true))
    (hd : decode c.code pc = .ok (i, 1)) (hC : cells ≤ C) (hS : slots ≤ S) (hQ : Q (some w) T.heap locs) : own_Ends p e below (own_Post s below Q C S) T (mkF m pc Ls (w :: rest)) :=
  own_leave X (fun h => by rw [hret] at h; cases h) hlk (fun fs hr => retOut X hx hret hn hi hd hr) hC hS hQ
theorem own_retN (X : Stand p l e R s m args below meth c T locs cells slots) (hx : p.tables.exec = Jvm.exec) (hlk : meth.locks = false) {Q : Option Value → Heap → List Loc → Prop} {C S : Nat} {pc : Nat} {Ls : Array Slot} {z : Int32} {t : FieldType} {rest : List Value} (hret : meth.sig.returnType = some t) (ht : t = .boolean ∨ t = .byte ∨ t = .char ∨ t = .short)
    (hd : decode c.code pc = .ok (.ireturn, 1)) (hC : cells ≤ C) (hS : slots ≤ S) (hQ : Q (some (.int (nar t z))) T.heap locs) : own_Ends p e below (own_Post s below Q C S) T (mkF m pc Ls (.int z :: rest)) :=
  own_leave X (fun h => by rw [hret] at h; cases h) hlk (fun fs hr => retN X hx hret ht hd hr) hC hS hQ
theorem own_le {Z : State} {n0 : Nat} {h : Heap} (O : Old Z n0 h) : n0 ≤ h.size := O.1 ▸ O.2.1
theorem own_nb0 : nar .boolean 0 = 0 := rfl
theorem own_nb1 : nar .boolean 1 = 1 := rfl
theorem own_nb {b : Int32} (h : b = 0 ∨ b = 1) : nar .boolean b = b := by rcases h with rfl | rfl <;> rfl
end Own
theorem own_pd0 : parseMethodDescriptor "()V" = some ⟨[], none⟩ := by decide +kernel
theorem own_pd1 : parseMethodDescriptor "(Ljava/lang/Object;)Ljava/lang/Object;" = some ⟨[(.object "java/lang/Object")], some (.object "java/lang/Object")⟩ := by decide +kernel
theorem own_pd2 : parseMethodDescriptor "(Ljava/lang/Object;)V" = some ⟨[(.object "java/lang/Object")], none⟩ := by decide +kernel
theorem own_pd3 : parseMethodDescriptor "()Ljava/util/Optional;" = some ⟨[], some (.object "java/util/Optional")⟩ := by decide +kernel
theorem own_pd4 : parseMethodDescriptor "()Z" = some ⟨[], some .boolean⟩ := by decide +kernel
theorem own_pd5 : parseMethodDescriptor "(Ljava/util/function/Function;)Ljava/util/Optional;" = some ⟨[(.object "java/util/function/Function")], some (.object "java/util/Optional")⟩ := by decide +kernel
theorem own_pd6 : parseMethodDescriptor "(Ljava/util/Optional;Z)V" = some ⟨[(.object "java/util/Optional"), .boolean], none⟩ := by decide +kernel
theorem own_pd7 : parseMethodDescriptor "(Lcom/example/wise_crawler/wisecrawler/url/CanonicalUrl;Ljava/time/Instant;Ljava/lang/String;Lcom/example/wise_crawler/wisecrawler/fetch/HeaderFields;ILcom/example/wise_crawler/wisecrawler/fetch/HeaderFields;Lcom/example/wise_crawler/wisecrawler/fetch/SpooledBytes;Ljava/util/Optional;)V" = some ⟨[(.object "com/example/wise_crawler/wisecrawler/url/CanonicalUrl"), (.object "java/time/Instant"), (.object "java/lang/String"), (.object "com/example/wise_crawler/wisecrawler/fetch/HeaderFields"), .int, (.object "com/example/wise_crawler/wisecrawler/fetch/HeaderFields"), (.object "com/example/wise_crawler/wisecrawler/fetch/SpooledBytes"), (.object "java/util/Optional")], none⟩ := by decide +kernel
theorem own_pd8 : parseMethodDescriptor "(Ljava/lang/Object;)Ljava/util/Optional;" = some ⟨[(.object "java/lang/Object")], some (.object "java/util/Optional")⟩ := by decide +kernel
section OwnWords
variable {args : Array Value} {first s : State} {o : Option Outcome} {idx : List Nat}
theorem own_eqI {a : Term} {k : Int32} (h : (Cond.eq a (.int k)).value args first o s idx = some true) : a.eval args first o idx s = some (.int k) := by
  simp only [Cond.value, Term.eval] at h
  cases ha : a.eval args first o idx s with
  | none => simp [ha] at h
  | some x => cases x <;> simp [ha] at h ⊢ <;> exact h
theorem own_eqR {a b : Term} {y : Addr} (h : (Cond.eq a b).value args first o s idx = some true) (hb : b.eval args first o idx s = some (.ref y)) : a.eval args first o idx s = some (.ref y) := by
  simp only [Cond.value, hb] at h
  cases ha : a.eval args first o idx s with
  | none => simp [ha] at h
  | some x => cases x <;> simp [ha] at h ⊢ <;> exact h
end OwnWords

section OwnLam
variable {p : Program} {l : Launch} {e : Env} {R : Room} {s : State} {m : MethodId} {args : Array Value} {below : List Frame} {meth : Method} {c : Code} {T : State} {locs : List Loc} {cells slots : Nat} {Z : State} {a0 : Array Value} {h : Heap}
theorem own_enter (X : Stand p l e R s m args below meth c T locs cells slots) {g : JFrame} (hg : g.method = m) (hsize : g.locals.size = c.maxLocals) {ig : Instr} {len : Nat} (hdg : decode c.code g.pc = .ok (ig, len)) {mk : MethodId} {methk : Method} {ck : Code} (av : Array Value) {R' : Room} (hmk : T.vm.method? mk = some methk) (hck : methk.code = some ck) (hlk : methk.locks = false) (hpk : T.plainMethod mk)
    (hfr : R'.frames + 1 ≤ R.frames) (hlo : 2 * g.monitorRoom + (g.stack.map fun v => v.category).sum + (ck.maxLocals + 11) + R'.locals ≤ R.locals) (hce : cells + R'.cells ≤ R.cells) (hsl : slots + R'.slots ≤ R.slots) {Q : Option Value → Heap → List Loc → Prop}
    (hE : ∀ (s' U : State), s'.vm = T.vm → U.heap = T.heap → Stand p l e R' s' mk av (.java g :: below) methk ck U [] 0 0 → own_Ends p e (.java g :: below) (own_Post s' (.java g :: below) Q R'.cells R'.slots) U (entryFrame mk av ck.maxLocals)) :
    ∃ (v : Option Value) (T' : State) (L : List Loc), Stand p l e R s m args below meth c T' (locs ++ L) (cells + R'.cells) (slots + R'.slots) ∧ Q v T'.heap L ∧
      ∀ acts, Steps p.tables e below (doInvoke e (T.setTop g) acts mk av).1 (T'.setTop { g with pc := g.pc + len, stack := v.toList ++ g.stack }) := by
  obtain ⟨Y, hin⟩ := X.into hg hsize hdg av hmk hck hlk hpk hfr hlo hce hsl
  obtain ⟨u, o, hst, hrun, hend, v, L, rfl, hQ, hfe⟩ := hE (T.calling g mk av) ((T.setTop g).pushFrame (.java (entryFrame mk av ck.maxLocals))) rfl rfl Y
  obtain ⟨T', X', -, -, ht⟩ := X.outOf hg hdg hend hfe.2.1 hfe.2.2
  refine ⟨v, T', L, X', ?_, fun acts => ?_⟩
  · have q : u.heap = (T'.setTop { g with pc := g.pc + len, stack := v.toList ++ g.stack }).heap := congrArg State.heap ht
    have q2 : u.heap = T'.heap := q
    rw [← q2]; exact hQ
  · rw [hin acts, ← ht]
    exact Steps.weaken (mid := [.java g]) hst
theorem own_mready {vm' : Vm} (hW : Z.Warmed39 vm') {d i : Nat} {t : MethodId} (hr : Z.vm.methodReady d i t) : vm'.methodReady d i t := by
  obtain ⟨k, h1, h2⟩ := hr
  obtain ⟨k', g1, -, -, g4, -⟩ := hW.2.2.2 _ _ h1
  refine ⟨k', g1, ?_⟩
  rcases g4 i with q | ⟨q, -⟩
  · rw [q]; exact h2
  · rw [q] at h2; cases h2
theorem own_cready {vm' : Vm} (hW : Z.Warmed39 vm') {d i : Nat} {t : ClassId} (hr : Z.vm.classReady d i t) : vm'.classReady d i t := by
  obtain ⟨k, h1, h2⟩ := hr
  obtain ⟨k', g1, -, -, g4, -⟩ := hW.2.2.2 _ _ h1
  refine ⟨k', g1, ?_⟩
  rcases g4 i with q | ⟨q, -⟩
  · rw [q]; exact h2
  · rw [q] at h2; cases h2
theorem own_castReady (X : Stand p l e R s m args below meth c T locs cells slots) (hx : p.tables.exec = Jvm.exec) (hZ : Z.Warmed39 s.vm) {index : Nat} {cT : ClassId} {K : String} (hr : Z.vm.classReady m.cls index cT) (hf : Z.vm.findClass K = some cT) (eT : T.heap = h) {a : Addr} (F : Exa Z h a K)
    {g : JFrame} (hg : g.method = m) {rest : List Value} (hs : g.stack = .ref a :: rest) (hd : decode c.code g.pc = .ok (.checkcast index, 3)) : ∀ target, Steps p.tables e below (T.setTop { g with pc := g.pc + 3 }) target → Steps p.tables e below (T.setTop g) target := by
  intro t hk
  have hT : Z.Warmed39 T.vm := wtrans hZ X.warmed
  obtain ⟨cell, k, h1, h2, h3, h4, -⟩ := F
  have ec : cell.cls = cT := Option.some.inj (h2.symm.trans hf)
  obtain ⟨k', q, -⟩ := hT.alike.2.2 _ _ h3
  subst hg
  jvm_step X.here [hx, hd, checkcast.wp_ready (e := e) (s := T) (f := g) X.here.top (own_cready hT hr) hs]
  refine ⟨cell, (by rw [eT]; exact h1), (fun z hz => by rw [hz] at h4; cases h4), k', q, k', (by rw [← ec]; exact q), ?_⟩
  rw [ec, Vm.assignable_self]
  exact hk
theorem own_poly {s : State} {y : MethodName} {r : MethodId} (hn : s.methodNamed? y = some r) (hy : y.cls ≠ "java/lang/invoke/MethodHandle" ∧ y.cls ≠ "java/lang/invoke/VarHandle") : ∃ k, s.vm.classes[r.cls]? = some k ∧ ∀ z : Method, signaturePolymorphic k z = false := by
  obtain ⟨k, hk, hn'⟩ := className_of_methodNamed hn
  exact ⟨k, hk, fun z => by simp [signaturePolymorphic, hn', hy.1, hy.2]⟩
theorem own_named39 {U : State} (hT : Z.Warmed39 U.vm) {y : MethodName} {t : MethodId} (hn : Z.methodNamed? y = some t) : U.methodNamed? y = some t := by
  have q : (Z.setVm U.vm).methodNamed? y = some t := by rw [State.methodNamed?_setVm hT.alike]; exact hn
  exact q
theorem own_virtReady (X : Stand p l e R s m args below meth c T locs cells slots) (hx : p.tables.exec = Jvm.exec) (hZ : Z.Warmed39 s.vm) {index ci nt : Nat} {y : MethodName} {C : String} {kK : Class} {file : ClassFile} {toy : ClassId} {t0 : MethodId}
    (hkK : Z.vm.classes[m.cls]? = some kK) (hfile : kK.cf = some file) (hidx : file.constantPool[index]? = some (.methodref ci nt)) (hmr : Z.vm.methodReady m.cls index t0) (hcr : Z.vm.classReady m.cls ci toy) (ht0 : Z.methodNamed? y = some t0) (htoy : Z.vm.findClass y.cls = some toy)
    (wdecl : (Cond.declares y).before a0 Z = true) (wsel : (Cond.selects C y y).before a0 Z = true) (winst : (Cond.instanceMethod y).before a0 Z = true) (hy : y.cls ≠ "java/lang/invoke/MethodHandle" ∧ y.cls ≠ "java/lang/invoke/VarHandle")
    {W : Nat} {Pre : Pt → Array Value → Prop} {Post : Pt → Array Value → Option Value → Pt → Prop} (hK : Back l R p e below s args y 3 W Pre Post) (eT : T.heap = h) {b : Addr} (E : Exa Z h b C)
    {g : JFrame} (hg : g.method = m) (hsize : g.locals.size = c.maxLocals) {argsL rest : List Value} (hlen : ∀ sig, parseMethodDescriptor y.desc = some sig → argsL.length = sig.parameters.length) (hstack : g.stack = argsL.reverse ++ .ref b :: rest) (hW : 2 * g.monitorRoom + (rest.map fun v => v.category).sum ≤ W)
    (hdg : decode c.code g.pc = .ok (.invokevirtual index, 3)) (hpre : Pre ⟨T, locs, cells, slots⟩ (.ref b :: argsL).toArray) :
    ∃ (v : Option Value) (B : Pt), Stand p l e R s m args below meth c B.U B.locs B.cells B.slots ∧ Post ⟨T, locs, cells, slots⟩ (.ref b :: argsL).toArray v B ∧
      Steps p.tables e below (T.setTop g) (B.U.setTop { g with pc := g.pc + 3, stack := v.toList ++ rest }) := by
  have hT : Z.Warmed39 T.vm := wtrans hZ X.warmed
  have hn0 : T.methodNamed? y = some t0 := own_named39 hT ht0
  obtain ⟨r0, r, hn, hrm, hstR, hsigR⟩ := Cond.declares_spec (mv (s := T) (args := args) hT wdecl)
  obtain ⟨mk, methM, hnamed, hmethM, -, habM⟩ := Cond.instanceMethod_spec (mv (s := T) (args := args) hT winst)
  obtain ⟨c2, r2, m2, q1, q2, q3, q4, kP, hkP, hkPi⟩ := Cond.selects_spec (mv (s := T) (args := args) hT wsel)
  cases hn.symm.trans hn0
  cases hn.symm.trans hnamed
  cases (State.methodFound?_of_named hn hy).symm.trans q2
  cases hnamed.symm.trans q3
  obtain ⟨cB, kB, hcB, hkB, cellB, hcellT, hclsB, hstatB⟩ := isOf (s := T) (T := T) hT eT E
  cases hcB.symm.trans q1
  have hselP : selectMethod e.platform T.vm cellB.cls t0 = .method t0 := by rw [Launch.admits_selectMethod X.admits, hclsB]; exact q4
  obtain ⟨kr, hkr, hpo⟩ := own_poly hn hy
  have ec : toy = t0.cls := Option.some.inj (htoy.symm.trans (findClass_of_methodNamed ht0))
  obtain rfl : kr = kP := Option.some.inj (hkr.symm.trans hkP)
  obtain ⟨kK', hkK', eK'⟩ := hT.alike.2.2 _ _ hkK
  obtain ⟨v, B, X', hpost, hsteps⟩ := hK m meth c ⟨T, locs, cells, slots⟩ { g with stack := rest } (.invokevirtual index) t0 (.ref b :: argsL).toArray X hg hsize hdg hW hn hpre
  refine ⟨v, B, X', hpost, ?_⟩
  subst hg
  jvm_step X.here [hx, hdg, invokevirtual.wp_ready (e := e) (s := T) (f := g) (r := t0) (m := t0) (args := argsL) (rest := rest) X.here.top ⟨kK', file, ci, nt, toy, kr, hkK', by rw [eK']; exact hfile, hidx, own_cready hT hcr, by rw [ec]; exact hkr, hkPi⟩ (own_mready hT hmr) hkr hrm (hpo _) hstR (hlen _ hsigR) hstack hcellT (fun z hz => by rw [hz] at hstatB; cases hstatB) hselP hmethM habM hkP hkPi]
  intro acts
  rw [doInvoke_state]
  exact hsteps
end OwnLam
section OwnLam2
open Jvm.Free.HMW Jvm.Free.Fn
variable {p : Program} {l : Launch} {e : Env} {R : Room} {s : State} {m : MethodId} {args : Array Value} {below : List Frame} {meth : Method} {c : Code} {T : State} {locs : List Loc} {cells slots : Nat} {Z : State} {a0 : Array Value} {h : Heap}
theorem own_FnX39 (hZ : Z.Warmed39 s.vm) {xi : MethodName} {cF : ClassId} {mk : MethodId} (hF : FnX xi cF mk Z) : FnX xi cF mk s := by
  obtain ⟨kF, methK, h1, h2, h3, h4, h5⟩ := hF
  obtain ⟨k', q, -⟩ := hZ.alike.2.2 _ _ h1
  refine ⟨k', methK, q, by rw [hZ.alike.method?]; exact h2, h3, h4, fun r0 r hn hr => ?_⟩
  have hn' : Z.methodNamed? xi = some r0 := by
    rw [← State.methodNamed?_setVm (s := Z) hZ.alike]; exact hn
  rw [hZ.alike.method?] at hr
  obtain ⟨g1, g2, g3⟩ := h5 r0 r hn' hr
  refine ⟨by rw [hZ.alike.assignable]; exact g1, by rw [hZ.alike.selectMethod]; exact g2, ?_⟩
  rw [Vm.Alike.superclasses41 hZ.alike]
  have e1 : (fun k => (declaredIn s.vm r.name r.desc k).any fun (x : MethodId × Method) => x.2.isPrivate || x.2.isStatic) = (fun k => (declaredIn Z.vm r.name r.desc k).any fun (x : MethodId × Method) => x.2.isPrivate || x.2.isStatic) := by
    funext k
    rw [hZ.alike.declaredIn]
  exact (congrArg (fun f => (cF :: Z.vm.superclasses cF).any f) e1).trans g3
/-- the site's one object, its class, the class's record: at the start Z -/
def own_Lam (Z : State) (y : MethodName) (pc : Nat) (σ : Lambda.Shape) (aF : Addr) (cK : ClassId) : Prop :=
  (∃ (mD : MethodId) (kD : Class) (i0 p0 : Nat), Z.methodNamed? y = some mD ∧ Z.vm.classes[mD.cls]? = some kD ∧ (kD.callSites.find? fun z => z.1 == mD.idx && z.2.1 == pc) = some (i0, p0, .constant aF)) ∧
    Jvm.LamKit.Made Z y.cls σ cK ∧ ∃ cell : Cell, Z.heap[aF]? = some cell ∧ cell.cls = cK ∧ cell.vm = .none
theorem own_lamStart {y : MethodName} {pc index : Nat} {σ : Lambda.Shape} (w : (Cond.lambdaSite y pc index σ).before a0 Z = true) (hcap : σ.captured = []) : ∃ aF cK, own_Lam Z y pc σ aF cK := by
  obtain ⟨cK, one, hat⟩ := Cond.lambdaSite_spec w
  obtain ⟨mD, kD, cfD, i0, p0, lk, hmD, hkD, -, -, -, hfind, hmade, hcan, hl⟩ := State.lambdaAt?_spec hat
  obtain ⟨kD', hkD', hnameD⟩ := className_of_methodNamed hmD
  cases hkD.symm.trans hkD'
  rcases hl with ⟨a, cell, rfl, -, -, hcell, hcls, hvm, -⟩ | ⟨-, -, hne⟩
  · exact ⟨a, cK, ⟨mD, kD, i0, p0, hmD, hkD, hfind⟩, ⟨mD.cls, kD, hkD, hnameD, hmade, hcan⟩, cell, hcell, hcls, hvm⟩
  · exact absurd hcap hne
theorem own_site (X : Stand p l e R s m args below meth c T locs cells slots) (hx : p.tables.exec = Jvm.exec) (hZ : Z.Warmed39 s.vm) {y : MethodName} {pc index : Nat} {σ : Lambda.Shape} {aF : Addr} {cK : ClassId} (hnm : s.methodNamed? y = some m) (LM : own_Lam Z y pc σ aF cK)
    {g : JFrame} (hg : g.method = m) (hpc : g.pc = pc) (hsize : g.locals.size = c.maxLocals) (hdg : decode c.code g.pc = .ok (.invokedynamic index, 5)) (hwords : 2 * g.monitorRoom + (g.stack.map fun v => v.category).sum + 3072 ≤ R.locals) :
    ∀ target, Steps p.tables e below (T.setTop { g with pc := g.pc + 5, stack := .ref aF :: g.stack }) target → Steps p.tables e below (T.setTop g) target := by
  obtain ⟨⟨mD, kD, i0, p0, h1, h2, h3⟩, -, -⟩ := LM
  cases hnm.symm.trans (own_named39 hZ h1)
  obtain ⟨k', q, ek⟩ := hZ.alike.2.2 _ _ h2
  have hw : e.platform.lambdaLinkWords = 3072 := by rw [X.admits.platform]
  exact fun target k_ => X.lambdaConstant hx hg hsize hdg q (by rw [hpc, ek]; exact h3) (by rw [hw]; exact hwords) k_
theorem own_lamFn {y xi : MethodName} {pc : Nat} {σ : Lambda.Shape} {aF : Addr} {cK : ClassId} (LM : own_Lam Z y pc σ aF cK) {fcode : ByteArray} {fml idx ci : Nat} {fret : Option FieldType} (hok : Jvm.LamKit.fwdOK σ y.cls fcode fml fret idx ci = true)
    (hcls : σ.iface = xi.cls) (hname : σ.name = xi.name) (hdesc : σ.sam.toString = xi.desc) (hword : (Cond.interfaceMethod xi.cls xi.cls xi.name xi.desc).before a0 Z = true) : FnX xi cK ⟨cK, 1⟩ Z := by
  obtain ⟨-, ⟨d, dk, hd, hdn, hmade, hcan⟩, -⟩ := LM
  obtain ⟨k, tk, file, methk, ck, toy, t, nt, hk, hpn, hfile, hidx, hnt, hmk, hck, hby, hmlk, hlk, hfl, -⟩ := Jvm.LamKit.made_static hok hd hdn hmade
  exact FnX.of_site hmade hcan hcls hname hdesc hword hk hmk hfl
theorem own_lamIs {y : MethodName} {pc : Nat} {σ : Lambda.Shape} {aF : Addr} {cK : ClassId} {n0 : Nat} (LM : own_Lam Z y pc σ aF cK) (O : Old Z n0 h) (eT : T.heap = h) : IsOf cK T aF := by
  obtain ⟨-, -, cell, h1, h2, h3⟩ := LM
  exact ⟨cell, by rw [eT]; exact O.2.2 _ _ h1, h2, by rw [h3]; rfl⟩
end OwnLam2
theorem own_fnW {s : State} {args : Array Value} {own : String} {index : Nat} {xi : MethodName} (w1 : (Cond.methodLink own index xi).before args s = true) (w2 : (Cond.declares xi).before args s = true) (w3 : (Cond.interfaceMethod xi.cls xi.cls xi.name xi.desc).before args s = true) : ∀ w ∈ Jvm.Free.Fn.fnW own index xi, w.before args s = true := fun w q => by
  simp only [Jvm.Free.Fn.fnW, List.mem_cons, List.not_mem_nil, or_false] at q
  rcases q with rfl | rfl | rfl
  · exact w1
  · exact w2
  · exact w3
theorem own_targetIs {Z : State} {y : MethodName} {σ : Lambda.Shape} {toy : ClassId} {tk : Class} {t t0 : MethodId} (ht0 : Z.methodNamed? y = some t0) (hpoly : y.cls ≠ "java/lang/invoke/MethodHandle" ∧ y.cls ≠ "java/lang/invoke/VarHandle") (hy : y.cls = σ.implClass ∧ y.name = σ.implName ∧ y.desc = σ.implDesc.toString)
    (htoy : Z.vm.findClass σ.implClass = some toy) (htk : Z.vm.classes[toy]? = some tk) (hlook : ((methodIn toy σ.implName σ.implDesc.toString tk.isInterface none).ask { classPath := fun _ => none } Z.vm).1 = .ok t) : t = t0 := by
  obtain ⟨y1, y2, y3⟩ := hy
  have h1 : Z.methodFound? y.cls y.name y.desc = some t0 := State.methodFound?_of_named ht0 hpoly
  rw [y1, y2, y3] at h1
  simp only [State.methodFound?, htoy, htk, Option.bind_eq_bind, Option.bind_some] at h1
  rw [hlook] at h1
  exact Option.some.inj h1

def own_shape : Jvm.Lambda.Shape := (Jvm.Lambda.Shape.mk "java/util/function/Function" "apply" (Jvm.ClassFile.MethodDescriptor.mk ([(Jvm.ClassFile.FieldType.object "java/lang/Object")] : List Jvm.ClassFile.FieldType) (Option.some (Jvm.ClassFile.FieldType.object "java/lang/Object"))) ([] : List Jvm.ClassFile.FieldType) (5 : Nat) "com/example/wise_crawler/wisecrawler/fetch/Exchange" "truncation" (Jvm.ClassFile.MethodDescriptor.mk ([] : List Jvm.ClassFile.FieldType) (Option.some (Jvm.ClassFile.FieldType.object "java/util/Optional"))) false (Jvm.ClassFile.MethodDescriptor.mk ([(Jvm.ClassFile.FieldType.object "com/example/wise_crawler/wisecrawler/fetch/Exchange")] : List Jvm.ClassFile.FieldType) (Option.some (Jvm.ClassFile.FieldType.object "java/util/Optional"))))
def own_fcode : ByteArray := ⟨#[0x2b, 0xc0, 0x00, 0x0e, 0xb6, 0x00, 0x12, 0xb0]⟩
theorem own_fok : Jvm.LamKit.fwdOK own_shape "com/example/wise_crawler/wisecrawler/crawl/Answer" own_fcode 2 (some (.object "java/lang/Object")) 18 14 = true := by decide +kernel
theorem own_f0 : decode own_fcode 0 = .ok (.aload_n 1, 1) := by decide +kernel
theorem own_f1 : decode own_fcode 1 = .ok (.checkcast 14, 3) := by decide +kernel
theorem own_f4 : decode own_fcode 4 = .ok (.invokevirtual 18, 3) := by decide +kernel
theorem own_f7 : decode own_fcode 7 = .ok (.areturn, 1) := by decide +kernel
theorem own_fef (m : MethodId) (x0 x1 : Addr) : entryFrame m #[(.ref x0), (.ref x1)] 2 = mkF m 0 #[.val (.ref x0), .val (.ref x1)] [] := by first | (simp [entryFrame, mkF, argsToLocals, Value.category]; done) | rfl
theorem own_rec_d0 : decode jdk_30_method_1_code 0 = .ok (.aload_n 0, 1) := by decide +kernel
theorem own_rec_d1 : decode jdk_30_method_1_code 1 = .ok (.invokespecial 1, 3) := by decide +kernel
theorem own_rec_d4 : decode jdk_30_method_1_code 4 = .ok (.return_, 1) := by decide +kernel
theorem own_rec_pn : plainFor (⟨"java/lang/Record", "<init>", "()V"⟩ : MethodName) = true := by first | exact plainFor_of_name (by first | (simp [plainName, overriddenIn]; done) | decide +kernel) | decide +kernel
theorem own_rec_ef (m : MethodId) (x0 : Addr) : entryFrame m #[(.ref x0)] 1 = mkF m 0 #[.val (.ref x0)] [] := by first | (simp [entryFrame, mkF, argsToLocals, Value.category]; done) | rfl
def own_rec_Q (Z : State) (a1 : Addr) (h0 : Heap) (n0 : Nat) (v : Option Value) (h : Heap) (L : List Loc) : Prop := v = none ∧ Fr n0 L ∧ h = h0
set_option maxRecDepth 65536 in
set_option maxHeartbeats 40000000 in
theorem own_rec (l : Launch) (Z : State) (a0 : Array Value) (hw : ∀ d ∈ tables_1, d.before a0 Z = true) (ws : List Jvm.Cond) (a1 : Addr) (h0 : Heap) (n0 : Nat) (O : Old Z n0 h0)  :
    MetFree l (⟨"java/lang/Record", "<init>", "()V"⟩ : MethodName) (head1 (Jvm.Cond.code (⟨"java/lang/Record", "<init>", "()V"⟩ : MethodName) jdk_30_method_1_code 1 none :: ws) ({ frames := 1, cells := 0, slots := 0, locals := 12 } : Room)) (fun a U => a = #[(.ref a1)] ∧ Z.Warmed39 U.vm ∧ U.heap = h0) (fun _ _ _ _ _ => True) (fun _ U o U' => ∃ v L, o = .returned v ∧ own_rec_Q Z a1 h0 n0 v U'.heap L ∧ FrameEnd U o U' L ({ frames := 1, cells := 0, slots := 0, locals := 12 } : Room).cells ({ frames := 1, cells := 0, slots := 0, locals := 12 } : Room).slots) := by
  refine MetFree.of_bodySF own_rec_pn hisR ?_
  intro p e s m args below meth c s₁ Bd hml0 hP hK
  obtain ⟨rfl, hZ, hh⟩ := hP
  have hx := Bd.exec
  have hby := Bd.bytes
  have hlk := Bd.notSynchronized
  have hml : c.maxLocals = 1 := hml0
  have hown : s.vm.findClass "java/lang/Record" = some m.cls := findClass_of_methodNamed Bd.named
  have hnm := (name_of_methodNamed Bd.named Bd.method).1
  have X : Stand p l e ({ frames := 1, cells := 0, slots := 0, locals := 12 } : Room) s m #[(.ref a1)] below meth c s₁ [] 0 0 := Stand.of_body Bd
  have eT : s₁.heap = h0 := by rw [← hh, Bd.state]; rfl
  have N := Fr.nil n0
  have K0 := Keep.refl h0 []
  show own_Ends p e below (own_Post s below (own_rec_Q Z a1 h0 n0) ({ frames := 1, cells := 0, slots := 0, locals := 12 } : Room).cells ({ frames := 1, cells := 0, slots := 0, locals := 12 } : Room).slots) s₁ (entryFrame m #[(.ref a1)] 1)
  rw [own_rec_ef m a1]
  obtain ⟨T, hT⟩ : ∃ z, z = s₁ := ⟨_, rfl⟩
  rw [← hT] at X eT ⊢
  obtain ⟨h, hh0⟩ : ∃ z, z = h0 := ⟨_, rfl⟩
  rw [← hh0] at eT
  replace O : Old Z n0 h := by rw [hh0]; exact O
  replace K0 : Keep h0 h [] := by rw [hh0]; exact K0
  refine own_via (T' := T) (g' := (mkF m 1 #[.val (.ref a1)] [(.ref a1)])) (fun t_ k_ => XS.aloadN X.here hx rfl (hb hby own_rec_d0) rfl rfl k_) ?_
  obtain ⟨T, X, eT, st⟩ := initO X hx hZ hown (hw _ (List.mem_of_getElem? (i := 17) rfl)) (hw _ (List.mem_of_getElem? (i := 18) rfl)) (hw _ (List.mem_of_getElem? (i := 19) rfl)) eT (g := (mkF m 1 #[.val (.ref a1)] [(.ref a1)])) rfl (by rw [hml]; rfl) rfl (hb hby own_rec_d1) (by decide) (W := 0) (by show 2 * 0 + _ ≤ _; exact Nat.le_of_eq rfl) (by decide)
  refine own_via (g' := (mkF m 4 #[.val (.ref a1)] [])) st ?_
  refine own_retV X hx hlk Bd.returns (hb hby own_rec_d4) (by decide) (by decide) ?_
  rw [eT]
  exact ⟨rfl, N, hh0⟩
theorem own_exch_d0 : decode prog_28_method_1_code 0 = .ok (.aload_n 0, 1) := by decide +kernel
theorem own_exch_d1 : decode prog_28_method_1_code 1 = .ok (.invokespecial 1, 3) := by decide +kernel
theorem own_exch_d4 : decode prog_28_method_1_code 4 = .ok (.aload_n 0, 1) := by decide +kernel
theorem own_exch_d5 : decode prog_28_method_1_code 5 = .ok (.aload_n 1, 1) := by decide +kernel
theorem own_exch_d6 : decode prog_28_method_1_code 6 = .ok (.putfield 7, 3) := by decide +kernel
theorem own_exch_d9 : decode prog_28_method_1_code 9 = .ok (.aload_n 0, 1) := by decide +kernel
theorem own_exch_d10 : decode prog_28_method_1_code 10 = .ok (.aload_n 2, 1) := by decide +kernel
theorem own_exch_d11 : decode prog_28_method_1_code 11 = .ok (.putfield 13, 3) := by decide +kernel
theorem own_exch_d14 : decode prog_28_method_1_code 14 = .ok (.aload_n 0, 1) := by decide +kernel
theorem own_exch_d15 : decode prog_28_method_1_code 15 = .ok (.aload_n 3, 1) := by decide +kernel
theorem own_exch_d16 : decode prog_28_method_1_code 16 = .ok (.putfield 17, 3) := by decide +kernel
theorem own_exch_d19 : decode prog_28_method_1_code 19 = .ok (.aload_n 0, 1) := by decide +kernel
theorem own_exch_d20 : decode prog_28_method_1_code 20 = .ok (.aload 4, 2) := by decide +kernel
theorem own_exch_d22 : decode prog_28_method_1_code 22 = .ok (.putfield 21, 3) := by decide +kernel
theorem own_exch_d25 : decode prog_28_method_1_code 25 = .ok (.aload_n 0, 1) := by decide +kernel
theorem own_exch_d26 : decode prog_28_method_1_code 26 = .ok (.iload 5, 2) := by decide +kernel
theorem own_exch_d28 : decode prog_28_method_1_code 28 = .ok (.putfield 25, 3) := by decide +kernel
theorem own_exch_d31 : decode prog_28_method_1_code 31 = .ok (.aload_n 0, 1) := by decide +kernel
theorem own_exch_d32 : decode prog_28_method_1_code 32 = .ok (.aload 6, 2) := by decide +kernel
theorem own_exch_d34 : decode prog_28_method_1_code 34 = .ok (.putfield 29, 3) := by decide +kernel
theorem own_exch_d37 : decode prog_28_method_1_code 37 = .ok (.aload_n 0, 1) := by decide +kernel
theorem own_exch_d38 : decode prog_28_method_1_code 38 = .ok (.aload 7, 2) := by decide +kernel
theorem own_exch_d40 : decode prog_28_method_1_code 40 = .ok (.putfield 32, 3) := by decide +kernel
theorem own_exch_d43 : decode prog_28_method_1_code 43 = .ok (.aload_n 0, 1) := by decide +kernel
theorem own_exch_d44 : decode prog_28_method_1_code 44 = .ok (.aload 8, 2) := by decide +kernel
theorem own_exch_d46 : decode prog_28_method_1_code 46 = .ok (.putfield 36, 3) := by decide +kernel
theorem own_exch_d49 : decode prog_28_method_1_code 49 = .ok (.return_, 1) := by decide +kernel
theorem own_exch_pn : plainFor (⟨"com/example/wise_crawler/wisecrawler/fetch/Exchange", "<init>", "(Lcom/example/wise_crawler/wisecrawler/url/CanonicalUrl;Ljava/time/Instant;Ljava/lang/String;Lcom/example/wise_crawler/wisecrawler/fetch/HeaderFields;ILcom/example/wise_crawler/wisecrawler/fetch/HeaderFields;Lcom/example/wise_crawler/wisecrawler/fetch/SpooledBytes;Ljava/util/Optional;)V"⟩ : MethodName) = true := by first | exact plainFor_of_name (by first | (simp [plainName, overriddenIn]; done) | decide +kernel) | decide +kernel
theorem own_exch_ef (m : MethodId) (x0 : Addr) (x5 : Int32) (x8 : Addr) : entryFrame m #[(.ref x0), .null, .null, .null, .null, (.int x5), .null, .null, (.ref x8)] 9 = mkF m 0 #[.val (.ref x0), .val .null, .val .null, .val .null, .val .null, .val (.int x5), .val .null, .val .null, .val (.ref x8)] [] := by first | (simp [entryFrame, mkF, argsToLocals, Value.category]; done) | rfl
def own_exch_Q (Z : State) (a1 : Addr) (p5 : Int32) (t8 : Addr) (h0 : Heap) (n0 : Nat) (v : Option Value) (h : Heap) (L : List Loc) : Prop := v = none ∧ Fr n0 L ∧ Keep h0 h [a1] ∧ Exa Z h a1 "com/example/wise_crawler/wisecrawler/fetch/Exchange" ∧ Fld Z h a1 "com/example/wise_crawler/wisecrawler/fetch/Exchange" "truncation" "Ljava/util/Optional;" (.ref t8)
set_option maxRecDepth 65536 in
set_option maxHeartbeats 40000000 in
theorem own_exch (l : Launch) (Z : State) (a0 : Array Value) (hw : ∀ d ∈ tables_1, d.before a0 Z = true) (ws : List Jvm.Cond) (a1 : Addr) (p5 : Int32) (t8 : Addr) (h0 : Heap) (n0 : Nat) (O : Old Z n0 h0) (E_a1 : Exa Z h0 a1 "com/example/wise_crawler/wisecrawler/fetch/Exchange") (F_url_a1 : Fld Z h0 a1 "com/example/wise_crawler/wisecrawler/fetch/Exchange" "url" "Lcom/example/wise_crawler/wisecrawler/url/CanonicalUrl;" .null) (F_date_a1 : Fld Z h0 a1 "com/example/wise_crawler/wisecrawler/fetch/Exchange" "date" "Ljava/time/Instant;" .null) (F_protocol_a1 : Fld Z h0 a1 "com/example/wise_crawler/wisecrawler/fetch/Exchange" "protocol" "Ljava/lang/String;" .null) (F_requestHeaders_a1 : Fld Z h0 a1 "com/example/wise_crawler/wisecrawler/fetch/Exchange" "requestHeaders" "Lcom/example/wise_crawler/wisecrawler/fetch/HeaderFields;" .null) (F_status_a1 : Fld Z h0 a1 "com/example/wise_crawler/wisecrawler/fetch/Exchange" "status" "I" (.int (0 : Int32))) (F_responseHeaders_a1 : Fld Z h0 a1 "com/example/wise_crawler/wisecrawler/fetch/Exchange" "responseHeaders" "Lcom/example/wise_crawler/wisecrawler/fetch/HeaderFields;" .null) (F_body_a1 : Fld Z h0 a1 "com/example/wise_crawler/wisecrawler/fetch/Exchange" "body" "Lcom/example/wise_crawler/wisecrawler/fetch/SpooledBytes;" .null) (F_truncation_a1 : Fld Z h0 a1 "com/example/wise_crawler/wisecrawler/fetch/Exchange" "truncation" "Ljava/util/Optional;" .null) (g_a1 : n0 ≤ a1) :
    MetFree l (⟨"com/example/wise_crawler/wisecrawler/fetch/Exchange", "<init>", "(Lcom/example/wise_crawler/wisecrawler/url/CanonicalUrl;Ljava/time/Instant;Ljava/lang/String;Lcom/example/wise_crawler/wisecrawler/fetch/HeaderFields;ILcom/example/wise_crawler/wisecrawler/fetch/HeaderFields;Lcom/example/wise_crawler/wisecrawler/fetch/SpooledBytes;Ljava/util/Optional;)V"⟩ : MethodName) (head1 (Jvm.Cond.code (⟨"com/example/wise_crawler/wisecrawler/fetch/Exchange", "<init>", "(Lcom/example/wise_crawler/wisecrawler/url/CanonicalUrl;Ljava/time/Instant;Ljava/lang/String;Lcom/example/wise_crawler/wisecrawler/fetch/HeaderFields;ILcom/example/wise_crawler/wisecrawler/fetch/HeaderFields;Lcom/example/wise_crawler/wisecrawler/fetch/SpooledBytes;Ljava/util/Optional;)V"⟩ : MethodName) prog_28_method_1_code 9 none :: ws) ({ frames := 2, cells := 0, slots := 0, locals := 24 } : Room)) (fun a U => a = #[(.ref a1), .null, .null, .null, .null, (.int p5), .null, .null, (.ref t8)] ∧ Z.Warmed39 U.vm ∧ U.heap = h0) (fun _ _ _ _ _ => True) (fun _ U o U' => ∃ v L, o = .returned v ∧ own_exch_Q Z a1 p5 t8 h0 n0 v U'.heap L ∧ FrameEnd U o U' L ({ frames := 2, cells := 0, slots := 0, locals := 24 } : Room).cells ({ frames := 2, cells := 0, slots := 0, locals := 24 } : Room).slots) := by
  refine MetFree.of_bodySF own_exch_pn hisR ?_
  intro p e s m args below meth c s₁ Bd hml0 hP hK
  obtain ⟨rfl, hZ, hh⟩ := hP
  have hx := Bd.exec
  have hby := Bd.bytes
  have hlk := Bd.notSynchronized
  have hml : c.maxLocals = 9 := hml0
  have hown : s.vm.findClass "com/example/wise_crawler/wisecrawler/fetch/Exchange" = some m.cls := findClass_of_methodNamed Bd.named
  have hnm := (name_of_methodNamed Bd.named Bd.method).1
  have X : Stand p l e ({ frames := 2, cells := 0, slots := 0, locals := 24 } : Room) s m #[(.ref a1), .null, .null, .null, .null, (.int p5), .null, .null, (.ref t8)] below meth c s₁ [] 0 0 := Stand.of_body Bd
  have eT : s₁.heap = h0 := by rw [← hh, Bd.state]; rfl
  have N := Fr.nil n0
  have K0 := Keep.refl h0 [a1]
  show own_Ends p e below (own_Post s below (own_exch_Q Z a1 p5 t8 h0 n0) ({ frames := 2, cells := 0, slots := 0, locals := 24 } : Room).cells ({ frames := 2, cells := 0, slots := 0, locals := 24 } : Room).slots) s₁ (entryFrame m #[(.ref a1), .null, .null, .null, .null, (.int p5), .null, .null, (.ref t8)] 9)
  rw [own_exch_ef m a1 p5 t8]
  obtain ⟨T, hT⟩ : ∃ z, z = s₁ := ⟨_, rfl⟩
  rw [← hT] at X eT ⊢
  obtain ⟨h, hh0⟩ : ∃ z, z = h0 := ⟨_, rfl⟩
  rw [← hh0] at eT
  replace O : Old Z n0 h := by rw [hh0]; exact O
  replace K0 : Keep h0 h [a1] := by rw [hh0]; exact K0
  rw [← hh0] at E_a1
  rw [← hh0] at F_url_a1
  rw [← hh0] at F_date_a1
  rw [← hh0] at F_protocol_a1
  rw [← hh0] at F_requestHeaders_a1
  rw [← hh0] at F_status_a1
  rw [← hh0] at F_responseHeaders_a1
  rw [← hh0] at F_body_a1
  rw [← hh0] at F_truncation_a1
  refine own_via (T' := T) (g' := (mkF m 1 #[.val (.ref a1), .val .null, .val .null, .val .null, .val .null, .val (.int p5), .val .null, .val .null, .val (.ref t8)] [(.ref a1)])) (fun t_ k_ => XS.aloadN X.here hx rfl (hb hby own_exch_d0) rfl rfl k_) ?_
  obtain ⟨_, _, ⟨T, Lq, kq, nq⟩, -, X, ⟨Lc, hQ, lq, yq, zq⟩, st⟩ := X.specialBack hx (y := (⟨"java/lang/Record", "<init>", "()V"⟩ : MethodName)) rfl hown (mvT hZ (hw _ (List.mem_of_getElem? (i := 60) rfl))) (mvT hZ (hw _ (List.mem_of_getElem? (i := 13) rfl))) (mvT hZ (hw _ (List.mem_of_getElem? (i := 16) rfl))) (by decide) (backOf (W := 0) (own_rec l Z a0 hw [] a1 h n0 O ) hZ (hw _ (List.mem_of_getElem? (i := 16) rfl)) (hw _ (List.mem_of_getElem? (i := 15) rfl)) (by decide) (by decide)) (g := (mkF m 1 #[.val (.ref a1), .val .null, .val .null, .val .null, .val .null, .val (.int p5), .val .null, .val .null, .val (.ref t8)] [(.ref a1)])) rfl (by rw [hml]; rfl) (Steps.refl _) (a := a1) (argsL := []) (rest := []) (lenOf own_pd0 rfl) rfl (by show 2 * 0 + _ ≤ _; exact Nat.le_of_eq rfl) (hb hby own_exch_d1) (fun _ _ => ⟨rfl, eT, (by decide : 0 + 0 ≤ _), (by decide : 0 + 0 ≤ _)⟩)
  dsimp only [Pt.U, Pt.locs, Pt.cells, Pt.slots] at X lq yq zq st hQ
  subst lq yq zq
  obtain ⟨rfl, Nq, eT⟩ := hQ
  replace N := Fr.app N Nq
  refine own_viaT (g' := (mkF m 4 #[.val (.ref a1), .val .null, .val .null, .val .null, .val .null, .val (.int p5), .val .null, .val .null, .val (.ref t8)] [])) st ?_
  refine own_via (T' := T) (g' := (mkF m 5 #[.val (.ref a1), .val .null, .val .null, .val .null, .val .null, .val (.int p5), .val .null, .val .null, .val (.ref t8)] [(.ref a1)])) (fun t_ k_ => XS.aloadN X.here hx rfl (hb hby own_exch_d4) rfl rfl k_) ?_
  refine own_via (T' := T) (g' := (mkF m 6 #[.val (.ref a1), .val .null, .val .null, .val .null, .val .null, .val (.int p5), .val .null, .val .null, .val (.ref t8)] [.null, (.ref a1)])) (fun t_ k_ => XS.aloadN X.here hx rfl (hb hby own_exch_d5) rfl rfl k_) ?_
  obtain ⟨T, h1, X, eT, W, st⟩ := putF X hx hZ hown (host := "") (Or.inl (hw _ (List.mem_of_getElem? (i := 61) rfl))) Via.refl eT F_url_a1 E_a1 (Or.inr ⟨(hw _ (List.mem_of_getElem? (i := 62) rfl)), rfl, hnm⟩) (hw _ (List.mem_of_getElem? (i := 55) rfl)) (ty := (.object "com/example/wise_crawler/wisecrawler/url/CanonicalUrl")) (by decide) rfl rfl (g := (mkF m 6 #[.val (.ref a1), .val .null, .val .null, .val .null, .val .null, .val (.int p5), .val .null, .val .null, .val (.ref t8)] [.null, (.ref a1)])) rfl rfl (hb hby own_exch_d6)
  replace F_url_a1 := F_url_a1.same W
  replace E_a1 := E_a1.wr W
  replace F_date_a1 := F_date_a1.other W (Or.inr (slot_ne (Or.inr (hw _ (List.mem_of_getElem? (i := 64) rfl))) (Or.inr (hw _ (List.mem_of_getElem? (i := 62) rfl))) (by decide) (t := (.object "java/time/Instant")) (t' := (.object "com/example/wise_crawler/wisecrawler/url/CanonicalUrl")) (by decide) (by decide)))
  replace F_protocol_a1 := F_protocol_a1.other W (Or.inr (slot_ne (Or.inr (hw _ (List.mem_of_getElem? (i := 66) rfl))) (Or.inr (hw _ (List.mem_of_getElem? (i := 62) rfl))) (by decide) (t := (.object "java/lang/String")) (t' := (.object "com/example/wise_crawler/wisecrawler/url/CanonicalUrl")) (by decide) (by decide)))
  replace F_requestHeaders_a1 := F_requestHeaders_a1.other W (Or.inr (slot_ne (Or.inr (hw _ (List.mem_of_getElem? (i := 68) rfl))) (Or.inr (hw _ (List.mem_of_getElem? (i := 62) rfl))) (by decide) (t := (.object "com/example/wise_crawler/wisecrawler/fetch/HeaderFields")) (t' := (.object "com/example/wise_crawler/wisecrawler/url/CanonicalUrl")) (by decide) (by decide)))
  replace F_status_a1 := F_status_a1.other W (Or.inr (slot_ne (Or.inr (hw _ (List.mem_of_getElem? (i := 70) rfl))) (Or.inr (hw _ (List.mem_of_getElem? (i := 62) rfl))) (by decide) (t := .int) (t' := (.object "com/example/wise_crawler/wisecrawler/url/CanonicalUrl")) (by decide) (by decide)))
  replace F_responseHeaders_a1 := F_responseHeaders_a1.other W (Or.inr (slot_ne (Or.inr (hw _ (List.mem_of_getElem? (i := 72) rfl))) (Or.inr (hw _ (List.mem_of_getElem? (i := 62) rfl))) (by decide) (t := (.object "com/example/wise_crawler/wisecrawler/fetch/HeaderFields")) (t' := (.object "com/example/wise_crawler/wisecrawler/url/CanonicalUrl")) (by decide) (by decide)))
  replace F_body_a1 := F_body_a1.other W (Or.inr (slot_ne (Or.inr (hw _ (List.mem_of_getElem? (i := 74) rfl))) (Or.inr (hw _ (List.mem_of_getElem? (i := 62) rfl))) (by decide) (t := (.object "com/example/wise_crawler/wisecrawler/fetch/SpooledBytes")) (t' := (.object "com/example/wise_crawler/wisecrawler/url/CanonicalUrl")) (by decide) (by decide)))
  replace F_truncation_a1 := F_truncation_a1.other W (Or.inr (slot_ne (Or.inr (hw _ (List.mem_of_getElem? (i := 76) rfl))) (Or.inr (hw _ (List.mem_of_getElem? (i := 62) rfl))) (by decide) (t := (.object "java/util/Optional")) (t' := (.object "com/example/wise_crawler/wisecrawler/url/CanonicalUrl")) (by decide) (by decide)))
  replace O := O.wr W g_a1
  replace K0 := K0.wr W (Or.inl (List.mem_of_getElem? (i := 0) rfl))
  replace N := Fr.snoc X N g_a1
  refine own_via (g' := (mkF m 9 #[.val (.ref a1), .val .null, .val .null, .val .null, .val .null, .val (.int p5), .val .null, .val .null, .val (.ref t8)] [])) st ?_
  refine own_via (T' := T) (g' := (mkF m 10 #[.val (.ref a1), .val .null, .val .null, .val .null, .val .null, .val (.int p5), .val .null, .val .null, .val (.ref t8)] [(.ref a1)])) (fun t_ k_ => XS.aloadN X.here hx rfl (hb hby own_exch_d9) rfl rfl k_) ?_
  refine own_via (T' := T) (g' := (mkF m 11 #[.val (.ref a1), .val .null, .val .null, .val .null, .val .null, .val (.int p5), .val .null, .val .null, .val (.ref t8)] [.null, (.ref a1)])) (fun t_ k_ => XS.aloadN X.here hx rfl (hb hby own_exch_d10) rfl rfl k_) ?_
  obtain ⟨T, h2, X, eT, W, st⟩ := putF X hx hZ hown (host := "") (Or.inl (hw _ (List.mem_of_getElem? (i := 63) rfl))) Via.refl eT F_date_a1 E_a1 (Or.inr ⟨(hw _ (List.mem_of_getElem? (i := 64) rfl)), rfl, hnm⟩) (hw _ (List.mem_of_getElem? (i := 55) rfl)) (ty := (.object "java/time/Instant")) (by decide) rfl rfl (g := (mkF m 11 #[.val (.ref a1), .val .null, .val .null, .val .null, .val .null, .val (.int p5), .val .null, .val .null, .val (.ref t8)] [.null, (.ref a1)])) rfl rfl (hb hby own_exch_d11)
  replace F_date_a1 := F_date_a1.same W
  replace E_a1 := E_a1.wr W
  replace F_url_a1 := F_url_a1.other W (Or.inr (slot_ne (Or.inr (hw _ (List.mem_of_getElem? (i := 62) rfl))) (Or.inr (hw _ (List.mem_of_getElem? (i := 64) rfl))) (by decide) (t := (.object "com/example/wise_crawler/wisecrawler/url/CanonicalUrl")) (t' := (.object "java/time/Instant")) (by decide) (by decide)))
  replace F_protocol_a1 := F_protocol_a1.other W (Or.inr (slot_ne (Or.inr (hw _ (List.mem_of_getElem? (i := 66) rfl))) (Or.inr (hw _ (List.mem_of_getElem? (i := 64) rfl))) (by decide) (t := (.object "java/lang/String")) (t' := (.object "java/time/Instant")) (by decide) (by decide)))
  replace F_requestHeaders_a1 := F_requestHeaders_a1.other W (Or.inr (slot_ne (Or.inr (hw _ (List.mem_of_getElem? (i := 68) rfl))) (Or.inr (hw _ (List.mem_of_getElem? (i := 64) rfl))) (by decide) (t := (.object "com/example/wise_crawler/wisecrawler/fetch/HeaderFields")) (t' := (.object "java/time/Instant")) (by decide) (by decide)))
  replace F_status_a1 := F_status_a1.other W (Or.inr (slot_ne (Or.inr (hw _ (List.mem_of_getElem? (i := 70) rfl))) (Or.inr (hw _ (List.mem_of_getElem? (i := 64) rfl))) (by decide) (t := .int) (t' := (.object "java/time/Instant")) (by decide) (by decide)))
  replace F_responseHeaders_a1 := F_responseHeaders_a1.other W (Or.inr (slot_ne (Or.inr (hw _ (List.mem_of_getElem? (i := 72) rfl))) (Or.inr (hw _ (List.mem_of_getElem? (i := 64) rfl))) (by decide) (t := (.object "com/example/wise_crawler/wisecrawler/fetch/HeaderFields")) (t' := (.object "java/time/Instant")) (by decide) (by decide)))
  replace F_body_a1 := F_body_a1.other W (Or.inr (slot_ne (Or.inr (hw _ (List.mem_of_getElem? (i := 74) rfl))) (Or.inr (hw _ (List.mem_of_getElem? (i := 64) rfl))) (by decide) (t := (.object "com/example/wise_crawler/wisecrawler/fetch/SpooledBytes")) (t' := (.object "java/time/Instant")) (by decide) (by decide)))
  replace F_truncation_a1 := F_truncation_a1.other W (Or.inr (slot_ne (Or.inr (hw _ (List.mem_of_getElem? (i := 76) rfl))) (Or.inr (hw _ (List.mem_of_getElem? (i := 64) rfl))) (by decide) (t := (.object "java/util/Optional")) (t' := (.object "java/time/Instant")) (by decide) (by decide)))
  replace O := O.wr W g_a1
  replace K0 := K0.wr W (Or.inl (List.mem_of_getElem? (i := 0) rfl))
  replace N := Fr.snoc X N g_a1
  refine own_via (g' := (mkF m 14 #[.val (.ref a1), .val .null, .val .null, .val .null, .val .null, .val (.int p5), .val .null, .val .null, .val (.ref t8)] [])) st ?_
  refine own_via (T' := T) (g' := (mkF m 15 #[.val (.ref a1), .val .null, .val .null, .val .null, .val .null, .val (.int p5), .val .null, .val .null, .val (.ref t8)] [(.ref a1)])) (fun t_ k_ => XS.aloadN X.here hx rfl (hb hby own_exch_d14) rfl rfl k_) ?_
  refine own_via (T' := T) (g' := (mkF m 16 #[.val (.ref a1), .val .null, .val .null, .val .null, .val .null, .val (.int p5), .val .null, .val .null, .val (.ref t8)] [.null, (.ref a1)])) (fun t_ k_ => XS.aloadN X.here hx rfl (hb hby own_exch_d15) rfl rfl k_) ?_
  obtain ⟨T, h3, X, eT, W, st⟩ := putF X hx hZ hown (host := "") (Or.inl (hw _ (List.mem_of_getElem? (i := 65) rfl))) Via.refl eT F_protocol_a1 E_a1 (Or.inr ⟨(hw _ (List.mem_of_getElem? (i := 66) rfl)), rfl, hnm⟩) (hw _ (List.mem_of_getElem? (i := 55) rfl)) (ty := (.object "java/lang/String")) (by decide) rfl rfl (g := (mkF m 16 #[.val (.ref a1), .val .null, .val .null, .val .null, .val .null, .val (.int p5), .val .null, .val .null, .val (.ref t8)] [.null, (.ref a1)])) rfl rfl (hb hby own_exch_d16)
  replace F_protocol_a1 := F_protocol_a1.same W
  replace E_a1 := E_a1.wr W
  replace F_url_a1 := F_url_a1.other W (Or.inr (slot_ne (Or.inr (hw _ (List.mem_of_getElem? (i := 62) rfl))) (Or.inr (hw _ (List.mem_of_getElem? (i := 66) rfl))) (by decide) (t := (.object "com/example/wise_crawler/wisecrawler/url/CanonicalUrl")) (t' := (.object "java/lang/String")) (by decide) (by decide)))
  replace F_date_a1 := F_date_a1.other W (Or.inr (slot_ne (Or.inr (hw _ (List.mem_of_getElem? (i := 64) rfl))) (Or.inr (hw _ (List.mem_of_getElem? (i := 66) rfl))) (by decide) (t := (.object "java/time/Instant")) (t' := (.object "java/lang/String")) (by decide) (by decide)))
  replace F_requestHeaders_a1 := F_requestHeaders_a1.other W (Or.inr (slot_ne (Or.inr (hw _ (List.mem_of_getElem? (i := 68) rfl))) (Or.inr (hw _ (List.mem_of_getElem? (i := 66) rfl))) (by decide) (t := (.object "com/example/wise_crawler/wisecrawler/fetch/HeaderFields")) (t' := (.object "java/lang/String")) (by decide) (by decide)))
  replace F_status_a1 := F_status_a1.other W (Or.inr (slot_ne (Or.inr (hw _ (List.mem_of_getElem? (i := 70) rfl))) (Or.inr (hw _ (List.mem_of_getElem? (i := 66) rfl))) (by decide) (t := .int) (t' := (.object "java/lang/String")) (by decide) (by decide)))
  replace F_responseHeaders_a1 := F_responseHeaders_a1.other W (Or.inr (slot_ne (Or.inr (hw _ (List.mem_of_getElem? (i := 72) rfl))) (Or.inr (hw _ (List.mem_of_getElem? (i := 66) rfl))) (by decide) (t := (.object "com/example/wise_crawler/wisecrawler/fetch/HeaderFields")) (t' := (.object "java/lang/String")) (by decide) (by decide)))
  replace F_body_a1 := F_body_a1.other W (Or.inr (slot_ne (Or.inr (hw _ (List.mem_of_getElem? (i := 74) rfl))) (Or.inr (hw _ (List.mem_of_getElem? (i := 66) rfl))) (by decide) (t := (.object "com/example/wise_crawler/wisecrawler/fetch/SpooledBytes")) (t' := (.object "java/lang/String")) (by decide) (by decide)))
  replace F_truncation_a1 := F_truncation_a1.other W (Or.inr (slot_ne (Or.inr (hw _ (List.mem_of_getElem? (i := 76) rfl))) (Or.inr (hw _ (List.mem_of_getElem? (i := 66) rfl))) (by decide) (t := (.object "java/util/Optional")) (t' := (.object "java/lang/String")) (by decide) (by decide)))
  replace O := O.wr W g_a1
  replace K0 := K0.wr W (Or.inl (List.mem_of_getElem? (i := 0) rfl))
  replace N := Fr.snoc X N g_a1
  refine own_via (g' := (mkF m 19 #[.val (.ref a1), .val .null, .val .null, .val .null, .val .null, .val (.int p5), .val .null, .val .null, .val (.ref t8)] [])) st ?_
  refine own_via (T' := T) (g' := (mkF m 20 #[.val (.ref a1), .val .null, .val .null, .val .null, .val .null, .val (.int p5), .val .null, .val .null, .val (.ref t8)] [(.ref a1)])) (fun t_ k_ => XS.aloadN X.here hx rfl (hb hby own_exch_d19) rfl rfl k_) ?_
  refine own_via (T' := T) (g' := (mkF m 22 #[.val (.ref a1), .val .null, .val .null, .val .null, .val .null, .val (.int p5), .val .null, .val .null, .val (.ref t8)] [.null, (.ref a1)])) (fun t_ k_ => XS.aload X.here hx rfl (hb hby own_exch_d20) rfl rfl k_) ?_
  obtain ⟨T, h4, X, eT, W, st⟩ := putF X hx hZ hown (host := "") (Or.inl (hw _ (List.mem_of_getElem? (i := 67) rfl))) Via.refl eT F_requestHeaders_a1 E_a1 (Or.inr ⟨(hw _ (List.mem_of_getElem? (i := 68) rfl)), rfl, hnm⟩) (hw _ (List.mem_of_getElem? (i := 55) rfl)) (ty := (.object "com/example/wise_crawler/wisecrawler/fetch/HeaderFields")) (by decide) rfl rfl (g := (mkF m 22 #[.val (.ref a1), .val .null, .val .null, .val .null, .val .null, .val (.int p5), .val .null, .val .null, .val (.ref t8)] [.null, (.ref a1)])) rfl rfl (hb hby own_exch_d22)
  replace F_requestHeaders_a1 := F_requestHeaders_a1.same W
  replace E_a1 := E_a1.wr W
  replace F_url_a1 := F_url_a1.other W (Or.inr (slot_ne (Or.inr (hw _ (List.mem_of_getElem? (i := 62) rfl))) (Or.inr (hw _ (List.mem_of_getElem? (i := 68) rfl))) (by decide) (t := (.object "com/example/wise_crawler/wisecrawler/url/CanonicalUrl")) (t' := (.object "com/example/wise_crawler/wisecrawler/fetch/HeaderFields")) (by decide) (by decide)))
  replace F_date_a1 := F_date_a1.other W (Or.inr (slot_ne (Or.inr (hw _ (List.mem_of_getElem? (i := 64) rfl))) (Or.inr (hw _ (List.mem_of_getElem? (i := 68) rfl))) (by decide) (t := (.object "java/time/Instant")) (t' := (.object "com/example/wise_crawler/wisecrawler/fetch/HeaderFields")) (by decide) (by decide)))
  replace F_protocol_a1 := F_protocol_a1.other W (Or.inr (slot_ne (Or.inr (hw _ (List.mem_of_getElem? (i := 66) rfl))) (Or.inr (hw _ (List.mem_of_getElem? (i := 68) rfl))) (by decide) (t := (.object "java/lang/String")) (t' := (.object "com/example/wise_crawler/wisecrawler/fetch/HeaderFields")) (by decide) (by decide)))
  replace F_status_a1 := F_status_a1.other W (Or.inr (slot_ne (Or.inr (hw _ (List.mem_of_getElem? (i := 70) rfl))) (Or.inr (hw _ (List.mem_of_getElem? (i := 68) rfl))) (by decide) (t := .int) (t' := (.object "com/example/wise_crawler/wisecrawler/fetch/HeaderFields")) (by decide) (by decide)))
  replace F_responseHeaders_a1 := F_responseHeaders_a1.other W (Or.inr (slot_ne (Or.inr (hw _ (List.mem_of_getElem? (i := 72) rfl))) (Or.inr (hw _ (List.mem_of_getElem? (i := 68) rfl))) (by decide) (t := (.object "com/example/wise_crawler/wisecrawler/fetch/HeaderFields")) (t' := (.object "com/example/wise_crawler/wisecrawler/fetch/HeaderFields")) (by decide) (by decide)))
  replace F_body_a1 := F_body_a1.other W (Or.inr (slot_ne (Or.inr (hw _ (List.mem_of_getElem? (i := 74) rfl))) (Or.inr (hw _ (List.mem_of_getElem? (i := 68) rfl))) (by decide) (t := (.object "com/example/wise_crawler/wisecrawler/fetch/SpooledBytes")) (t' := (.object "com/example/wise_crawler/wisecrawler/fetch/HeaderFields")) (by decide) (by decide)))
  replace F_truncation_a1 := F_truncation_a1.other W (Or.inr (slot_ne (Or.inr (hw _ (List.mem_of_getElem? (i := 76) rfl))) (Or.inr (hw _ (List.mem_of_getElem? (i := 68) rfl))) (by decide) (t := (.object "java/util/Optional")) (t' := (.object "com/example/wise_crawler/wisecrawler/fetch/HeaderFields")) (by decide) (by decide)))
  replace O := O.wr W g_a1
  replace K0 := K0.wr W (Or.inl (List.mem_of_getElem? (i := 0) rfl))
  replace N := Fr.snoc X N g_a1
  refine own_via (g' := (mkF m 25 #[.val (.ref a1), .val .null, .val .null, .val .null, .val .null, .val (.int p5), .val .null, .val .null, .val (.ref t8)] [])) st ?_
  refine own_via (T' := T) (g' := (mkF m 26 #[.val (.ref a1), .val .null, .val .null, .val .null, .val .null, .val (.int p5), .val .null, .val .null, .val (.ref t8)] [(.ref a1)])) (fun t_ k_ => XS.aloadN X.here hx rfl (hb hby own_exch_d25) rfl rfl k_) ?_
  refine own_via (T' := T) (g' := (mkF m 28 #[.val (.ref a1), .val .null, .val .null, .val .null, .val .null, .val (.int p5), .val .null, .val .null, .val (.ref t8)] [(.int p5), (.ref a1)])) (fun t_ k_ => XS.iload X.here hx rfl (hb hby own_exch_d26) rfl k_) ?_
  obtain ⟨T, h5, X, eT, W, st⟩ := putF X hx hZ hown (host := "") (Or.inl (hw _ (List.mem_of_getElem? (i := 69) rfl))) Via.refl eT F_status_a1 E_a1 (Or.inr ⟨(hw _ (List.mem_of_getElem? (i := 70) rfl)), rfl, hnm⟩) (hw _ (List.mem_of_getElem? (i := 55) rfl)) (ty := .int) (by decide) rfl rfl (g := (mkF m 28 #[.val (.ref a1), .val .null, .val .null, .val .null, .val .null, .val (.int p5), .val .null, .val .null, .val (.ref t8)] [(.int p5), (.ref a1)])) rfl rfl (hb hby own_exch_d28)
  replace F_status_a1 := F_status_a1.same W
  replace E_a1 := E_a1.wr W
  replace F_url_a1 := F_url_a1.other W (Or.inr (slot_ne (Or.inr (hw _ (List.mem_of_getElem? (i := 62) rfl))) (Or.inr (hw _ (List.mem_of_getElem? (i := 70) rfl))) (by decide) (t := (.object "com/example/wise_crawler/wisecrawler/url/CanonicalUrl")) (t' := .int) (by decide) (by decide)))
  replace F_date_a1 := F_date_a1.other W (Or.inr (slot_ne (Or.inr (hw _ (List.mem_of_getElem? (i := 64) rfl))) (Or.inr (hw _ (List.mem_of_getElem? (i := 70) rfl))) (by decide) (t := (.object "java/time/Instant")) (t' := .int) (by decide) (by decide)))
  replace F_protocol_a1 := F_protocol_a1.other W (Or.inr (slot_ne (Or.inr (hw _ (List.mem_of_getElem? (i := 66) rfl))) (Or.inr (hw _ (List.mem_of_getElem? (i := 70) rfl))) (by decide) (t := (.object "java/lang/String")) (t' := .int) (by decide) (by decide)))
  replace F_requestHeaders_a1 := F_requestHeaders_a1.other W (Or.inr (slot_ne (Or.inr (hw _ (List.mem_of_getElem? (i := 68) rfl))) (Or.inr (hw _ (List.mem_of_getElem? (i := 70) rfl))) (by decide) (t := (.object "com/example/wise_crawler/wisecrawler/fetch/HeaderFields")) (t' := .int) (by decide) (by decide)))
  replace F_responseHeaders_a1 := F_responseHeaders_a1.other W (Or.inr (slot_ne (Or.inr (hw _ (List.mem_of_getElem? (i := 72) rfl))) (Or.inr (hw _ (List.mem_of_getElem? (i := 70) rfl))) (by decide) (t := (.object "com/example/wise_crawler/wisecrawler/fetch/HeaderFields")) (t' := .int) (by decide) (by decide)))
  replace F_body_a1 := F_body_a1.other W (Or.inr (slot_ne (Or.inr (hw _ (List.mem_of_getElem? (i := 74) rfl))) (Or.inr (hw _ (List.mem_of_getElem? (i := 70) rfl))) (by decide) (t := (.object "com/example/wise_crawler/wisecrawler/fetch/SpooledBytes")) (t' := .int) (by decide) (by decide)))
  replace F_truncation_a1 := F_truncation_a1.other W (Or.inr (slot_ne (Or.inr (hw _ (List.mem_of_getElem? (i := 76) rfl))) (Or.inr (hw _ (List.mem_of_getElem? (i := 70) rfl))) (by decide) (t := (.object "java/util/Optional")) (t' := .int) (by decide) (by decide)))
  replace O := O.wr W g_a1
  replace K0 := K0.wr W (Or.inl (List.mem_of_getElem? (i := 0) rfl))
  replace N := Fr.snoc X N g_a1
  refine own_via (g' := (mkF m 31 #[.val (.ref a1), .val .null, .val .null, .val .null, .val .null, .val (.int p5), .val .null, .val .null, .val (.ref t8)] [])) st ?_
  refine own_via (T' := T) (g' := (mkF m 32 #[.val (.ref a1), .val .null, .val .null, .val .null, .val .null, .val (.int p5), .val .null, .val .null, .val (.ref t8)] [(.ref a1)])) (fun t_ k_ => XS.aloadN X.here hx rfl (hb hby own_exch_d31) rfl rfl k_) ?_
  refine own_via (T' := T) (g' := (mkF m 34 #[.val (.ref a1), .val .null, .val .null, .val .null, .val .null, .val (.int p5), .val .null, .val .null, .val (.ref t8)] [.null, (.ref a1)])) (fun t_ k_ => XS.aload X.here hx rfl (hb hby own_exch_d32) rfl rfl k_) ?_
  obtain ⟨T, h6, X, eT, W, st⟩ := putF X hx hZ hown (host := "") (Or.inl (hw _ (List.mem_of_getElem? (i := 71) rfl))) Via.refl eT F_responseHeaders_a1 E_a1 (Or.inr ⟨(hw _ (List.mem_of_getElem? (i := 72) rfl)), rfl, hnm⟩) (hw _ (List.mem_of_getElem? (i := 55) rfl)) (ty := (.object "com/example/wise_crawler/wisecrawler/fetch/HeaderFields")) (by decide) rfl rfl (g := (mkF m 34 #[.val (.ref a1), .val .null, .val .null, .val .null, .val .null, .val (.int p5), .val .null, .val .null, .val (.ref t8)] [.null, (.ref a1)])) rfl rfl (hb hby own_exch_d34)
  replace F_responseHeaders_a1 := F_responseHeaders_a1.same W
  replace E_a1 := E_a1.wr W
  replace F_url_a1 := F_url_a1.other W (Or.inr (slot_ne (Or.inr (hw _ (List.mem_of_getElem? (i := 62) rfl))) (Or.inr (hw _ (List.mem_of_getElem? (i := 72) rfl))) (by decide) (t := (.object "com/example/wise_crawler/wisecrawler/url/CanonicalUrl")) (t' := (.object "com/example/wise_crawler/wisecrawler/fetch/HeaderFields")) (by decide) (by decide)))
  replace F_date_a1 := F_date_a1.other W (Or.inr (slot_ne (Or.inr (hw _ (List.mem_of_getElem? (i := 64) rfl))) (Or.inr (hw _ (List.mem_of_getElem? (i := 72) rfl))) (by decide) (t := (.object "java/time/Instant")) (t' := (.object "com/example/wise_crawler/wisecrawler/fetch/HeaderFields")) (by decide) (by decide)))
  replace F_protocol_a1 := F_protocol_a1.other W (Or.inr (slot_ne (Or.inr (hw _ (List.mem_of_getElem? (i := 66) rfl))) (Or.inr (hw _ (List.mem_of_getElem? (i := 72) rfl))) (by decide) (t := (.object "java/lang/String")) (t' := (.object "com/example/wise_crawler/wisecrawler/fetch/HeaderFields")) (by decide) (by decide)))
  replace F_requestHeaders_a1 := F_requestHeaders_a1.other W (Or.inr (slot_ne (Or.inr (hw _ (List.mem_of_getElem? (i := 68) rfl))) (Or.inr (hw _ (List.mem_of_getElem? (i := 72) rfl))) (by decide) (t := (.object "com/example/wise_crawler/wisecrawler/fetch/HeaderFields")) (t' := (.object "com/example/wise_crawler/wisecrawler/fetch/HeaderFields")) (by decide) (by decide)))
  replace F_status_a1 := F_status_a1.other W (Or.inr (slot_ne (Or.inr (hw _ (List.mem_of_getElem? (i := 70) rfl))) (Or.inr (hw _ (List.mem_of_getElem? (i := 72) rfl))) (by decide) (t := .int) (t' := (.object "com/example/wise_crawler/wisecrawler/fetch/HeaderFields")) (by decide) (by decide)))
  replace F_body_a1 := F_body_a1.other W (Or.inr (slot_ne (Or.inr (hw _ (List.mem_of_getElem? (i := 74) rfl))) (Or.inr (hw _ (List.mem_of_getElem? (i := 72) rfl))) (by decide) (t := (.object "com/example/wise_crawler/wisecrawler/fetch/SpooledBytes")) (t' := (.object "com/example/wise_crawler/wisecrawler/fetch/HeaderFields")) (by decide) (by decide)))
  replace F_truncation_a1 := F_truncation_a1.other W (Or.inr (slot_ne (Or.inr (hw _ (List.mem_of_getElem? (i := 76) rfl))) (Or.inr (hw _ (List.mem_of_getElem? (i := 72) rfl))) (by decide) (t := (.object "java/util/Optional")) (t' := (.object "com/example/wise_crawler/wisecrawler/fetch/HeaderFields")) (by decide) (by decide)))
  replace O := O.wr W g_a1
  replace K0 := K0.wr W (Or.inl (List.mem_of_getElem? (i := 0) rfl))
  replace N := Fr.snoc X N g_a1
  refine own_via (g' := (mkF m 37 #[.val (.ref a1), .val .null, .val .null, .val .null, .val .null, .val (.int p5), .val .null, .val .null, .val (.ref t8)] [])) st ?_
  refine own_via (T' := T) (g' := (mkF m 38 #[.val (.ref a1), .val .null, .val .null, .val .null, .val .null, .val (.int p5), .val .null, .val .null, .val (.ref t8)] [(.ref a1)])) (fun t_ k_ => XS.aloadN X.here hx rfl (hb hby own_exch_d37) rfl rfl k_) ?_
  refine own_via (T' := T) (g' := (mkF m 40 #[.val (.ref a1), .val .null, .val .null, .val .null, .val .null, .val (.int p5), .val .null, .val .null, .val (.ref t8)] [.null, (.ref a1)])) (fun t_ k_ => XS.aload X.here hx rfl (hb hby own_exch_d38) rfl rfl k_) ?_
  obtain ⟨T, h7, X, eT, W, st⟩ := putF X hx hZ hown (host := "") (Or.inl (hw _ (List.mem_of_getElem? (i := 73) rfl))) Via.refl eT F_body_a1 E_a1 (Or.inr ⟨(hw _ (List.mem_of_getElem? (i := 74) rfl)), rfl, hnm⟩) (hw _ (List.mem_of_getElem? (i := 55) rfl)) (ty := (.object "com/example/wise_crawler/wisecrawler/fetch/SpooledBytes")) (by decide) rfl rfl (g := (mkF m 40 #[.val (.ref a1), .val .null, .val .null, .val .null, .val .null, .val (.int p5), .val .null, .val .null, .val (.ref t8)] [.null, (.ref a1)])) rfl rfl (hb hby own_exch_d40)
  replace F_body_a1 := F_body_a1.same W
  replace E_a1 := E_a1.wr W
  replace F_url_a1 := F_url_a1.other W (Or.inr (slot_ne (Or.inr (hw _ (List.mem_of_getElem? (i := 62) rfl))) (Or.inr (hw _ (List.mem_of_getElem? (i := 74) rfl))) (by decide) (t := (.object "com/example/wise_crawler/wisecrawler/url/CanonicalUrl")) (t' := (.object "com/example/wise_crawler/wisecrawler/fetch/SpooledBytes")) (by decide) (by decide)))
  replace F_date_a1 := F_date_a1.other W (Or.inr (slot_ne (Or.inr (hw _ (List.mem_of_getElem? (i := 64) rfl))) (Or.inr (hw _ (List.mem_of_getElem? (i := 74) rfl))) (by decide) (t := (.object "java/time/Instant")) (t' := (.object "com/example/wise_crawler/wisecrawler/fetch/SpooledBytes")) (by decide) (by decide)))
  replace F_protocol_a1 := F_protocol_a1.other W (Or.inr (slot_ne (Or.inr (hw _ (List.mem_of_getElem? (i := 66) rfl))) (Or.inr (hw _ (List.mem_of_getElem? (i := 74) rfl))) (by decide) (t := (.object "java/lang/String")) (t' := (.object "com/example/wise_crawler/wisecrawler/fetch/SpooledBytes")) (by decide) (by decide)))
  replace F_requestHeaders_a1 := F_requestHeaders_a1.other W (Or.inr (slot_ne (Or.inr (hw _ (List.mem_of_getElem? (i := 68) rfl))) (Or.inr (hw _ (List.mem_of_getElem? (i := 74) rfl))) (by decide) (t := (.object "com/example/wise_crawler/wisecrawler/fetch/HeaderFields")) (t' := (.object "com/example/wise_crawler/wisecrawler/fetch/SpooledBytes")) (by decide) (by decide)))
  replace F_status_a1 := F_status_a1.other W (Or.inr (slot_ne (Or.inr (hw _ (List.mem_of_getElem? (i := 70) rfl))) (Or.inr (hw _ (List.mem_of_getElem? (i := 74) rfl))) (by decide) (t := .int) (t' := (.object "com/example/wise_crawler/wisecrawler/fetch/SpooledBytes")) (by decide) (by decide)))
  replace F_responseHeaders_a1 := F_responseHeaders_a1.other W (Or.inr (slot_ne (Or.inr (hw _ (List.mem_of_getElem? (i := 72) rfl))) (Or.inr (hw _ (List.mem_of_getElem? (i := 74) rfl))) (by decide) (t := (.object "com/example/wise_crawler/wisecrawler/fetch/HeaderFields")) (t' := (.object "com/example/wise_crawler/wisecrawler/fetch/SpooledBytes")) (by decide) (by decide)))
  replace F_truncation_a1 := F_truncation_a1.other W (Or.inr (slot_ne (Or.inr (hw _ (List.mem_of_getElem? (i := 76) rfl))) (Or.inr (hw _ (List.mem_of_getElem? (i := 74) rfl))) (by decide) (t := (.object "java/util/Optional")) (t' := (.object "com/example/wise_crawler/wisecrawler/fetch/SpooledBytes")) (by decide) (by decide)))
  replace O := O.wr W g_a1
  replace K0 := K0.wr W (Or.inl (List.mem_of_getElem? (i := 0) rfl))
  replace N := Fr.snoc X N g_a1
  refine own_via (g' := (mkF m 43 #[.val (.ref a1), .val .null, .val .null, .val .null, .val .null, .val (.int p5), .val .null, .val .null, .val (.ref t8)] [])) st ?_
  refine own_via (T' := T) (g' := (mkF m 44 #[.val (.ref a1), .val .null, .val .null, .val .null, .val .null, .val (.int p5), .val .null, .val .null, .val (.ref t8)] [(.ref a1)])) (fun t_ k_ => XS.aloadN X.here hx rfl (hb hby own_exch_d43) rfl rfl k_) ?_
  refine own_via (T' := T) (g' := (mkF m 46 #[.val (.ref a1), .val .null, .val .null, .val .null, .val .null, .val (.int p5), .val .null, .val .null, .val (.ref t8)] [(.ref t8), (.ref a1)])) (fun t_ k_ => XS.aload X.here hx rfl (hb hby own_exch_d44) rfl rfl k_) ?_
  obtain ⟨T, h8, X, eT, W, st⟩ := putF X hx hZ hown (host := "") (Or.inl (hw _ (List.mem_of_getElem? (i := 75) rfl))) Via.refl eT F_truncation_a1 E_a1 (Or.inr ⟨(hw _ (List.mem_of_getElem? (i := 76) rfl)), rfl, hnm⟩) (hw _ (List.mem_of_getElem? (i := 55) rfl)) (ty := (.object "java/util/Optional")) (by decide) rfl rfl (g := (mkF m 46 #[.val (.ref a1), .val .null, .val .null, .val .null, .val .null, .val (.int p5), .val .null, .val .null, .val (.ref t8)] [(.ref t8), (.ref a1)])) rfl rfl (hb hby own_exch_d46)
  replace F_truncation_a1 := F_truncation_a1.same W
  replace E_a1 := E_a1.wr W
  replace F_url_a1 := F_url_a1.other W (Or.inr (slot_ne (Or.inr (hw _ (List.mem_of_getElem? (i := 62) rfl))) (Or.inr (hw _ (List.mem_of_getElem? (i := 76) rfl))) (by decide) (t := (.object "com/example/wise_crawler/wisecrawler/url/CanonicalUrl")) (t' := (.object "java/util/Optional")) (by decide) (by decide)))
  replace F_date_a1 := F_date_a1.other W (Or.inr (slot_ne (Or.inr (hw _ (List.mem_of_getElem? (i := 64) rfl))) (Or.inr (hw _ (List.mem_of_getElem? (i := 76) rfl))) (by decide) (t := (.object "java/time/Instant")) (t' := (.object "java/util/Optional")) (by decide) (by decide)))
  replace F_protocol_a1 := F_protocol_a1.other W (Or.inr (slot_ne (Or.inr (hw _ (List.mem_of_getElem? (i := 66) rfl))) (Or.inr (hw _ (List.mem_of_getElem? (i := 76) rfl))) (by decide) (t := (.object "java/lang/String")) (t' := (.object "java/util/Optional")) (by decide) (by decide)))
  replace F_requestHeaders_a1 := F_requestHeaders_a1.other W (Or.inr (slot_ne (Or.inr (hw _ (List.mem_of_getElem? (i := 68) rfl))) (Or.inr (hw _ (List.mem_of_getElem? (i := 76) rfl))) (by decide) (t := (.object "com/example/wise_crawler/wisecrawler/fetch/HeaderFields")) (t' := (.object "java/util/Optional")) (by decide) (by decide)))
  replace F_status_a1 := F_status_a1.other W (Or.inr (slot_ne (Or.inr (hw _ (List.mem_of_getElem? (i := 70) rfl))) (Or.inr (hw _ (List.mem_of_getElem? (i := 76) rfl))) (by decide) (t := .int) (t' := (.object "java/util/Optional")) (by decide) (by decide)))
  replace F_responseHeaders_a1 := F_responseHeaders_a1.other W (Or.inr (slot_ne (Or.inr (hw _ (List.mem_of_getElem? (i := 72) rfl))) (Or.inr (hw _ (List.mem_of_getElem? (i := 76) rfl))) (by decide) (t := (.object "com/example/wise_crawler/wisecrawler/fetch/HeaderFields")) (t' := (.object "java/util/Optional")) (by decide) (by decide)))
  replace F_body_a1 := F_body_a1.other W (Or.inr (slot_ne (Or.inr (hw _ (List.mem_of_getElem? (i := 74) rfl))) (Or.inr (hw _ (List.mem_of_getElem? (i := 76) rfl))) (by decide) (t := (.object "com/example/wise_crawler/wisecrawler/fetch/SpooledBytes")) (t' := (.object "java/util/Optional")) (by decide) (by decide)))
  replace O := O.wr W g_a1
  replace K0 := K0.wr W (Or.inl (List.mem_of_getElem? (i := 0) rfl))
  replace N := Fr.snoc X N g_a1
  refine own_via (g' := (mkF m 49 #[.val (.ref a1), .val .null, .val .null, .val .null, .val .null, .val (.int p5), .val .null, .val .null, .val (.ref t8)] [])) st ?_
  refine own_retV X hx hlk Bd.returns (hb hby own_exch_d49) (by decide) (by decide) ?_
  rw [eT]
  exact ⟨rfl, N, K0, E_a1, F_truncation_a1⟩
theorem own_rnn_d0 : decode jdk_31_method_10_code 0 = .ok (.aload_n 0, 1) := by decide +kernel
theorem own_rnn_d1 : decode jdk_31_method_10_code 1 = .ok (.ifnonnull 11, 3) := by decide +kernel
theorem own_rnn_d12 : decode jdk_31_method_10_code 12 = .ok (.aload_n 0, 1) := by decide +kernel
theorem own_rnn_d13 : decode jdk_31_method_10_code 13 = .ok (.areturn, 1) := by decide +kernel
theorem own_rnn_pn : plainFor (⟨"java/util/Objects", "requireNonNull", "(Ljava/lang/Object;)Ljava/lang/Object;"⟩ : MethodName) = true := by first | exact plainFor_of_name (by first | (simp [plainName, overriddenIn]; done) | decide +kernel) | decide +kernel
theorem own_rnn_ef (m : MethodId) (x0 : Addr) : entryFrame m #[(.ref x0)] 1 = mkF m 0 #[.val (.ref x0)] [] := by first | (simp [entryFrame, mkF, argsToLocals, Value.category]; done) | rfl
def own_rnn_Q (Z : State) (a1 : Addr) (h0 : Heap) (n0 : Nat) (v : Option Value) (h : Heap) (L : List Loc) : Prop := v = some (.ref a1) ∧ Fr n0 L ∧ h = h0
set_option maxRecDepth 65536 in
set_option maxHeartbeats 40000000 in
theorem own_rnn (l : Launch) (Z : State) (a0 : Array Value) (hw : ∀ d ∈ tables_1, d.before a0 Z = true) (ws : List Jvm.Cond) (a1 : Addr) (h0 : Heap) (n0 : Nat) (O : Old Z n0 h0)  :
    MetFree l (⟨"java/util/Objects", "requireNonNull", "(Ljava/lang/Object;)Ljava/lang/Object;"⟩ : MethodName) (head1 (Jvm.Cond.code (⟨"java/util/Objects", "requireNonNull", "(Ljava/lang/Object;)Ljava/lang/Object;"⟩ : MethodName) jdk_31_method_10_code 1 (some (.object "java/lang/Object")) :: ws) ({ frames := 0, cells := 0, slots := 0, locals := 0 } : Room)) (fun a U => a = #[(.ref a1)] ∧ Z.Warmed39 U.vm ∧ U.heap = h0) (fun _ _ _ _ _ => True) (fun _ U o U' => ∃ v L, o = .returned v ∧ own_rnn_Q Z a1 h0 n0 v U'.heap L ∧ FrameEnd U o U' L ({ frames := 0, cells := 0, slots := 0, locals := 0 } : Room).cells ({ frames := 0, cells := 0, slots := 0, locals := 0 } : Room).slots) := by
  refine MetFree.of_bodySF own_rnn_pn hisR ?_
  intro p e s m args below meth c s₁ Bd hml0 hP hK
  obtain ⟨rfl, hZ, hh⟩ := hP
  have hx := Bd.exec
  have hby := Bd.bytes
  have hlk := Bd.notSynchronized
  have hml : c.maxLocals = 1 := hml0
  have hown : s.vm.findClass "java/util/Objects" = some m.cls := findClass_of_methodNamed Bd.named
  have hnm := (name_of_methodNamed Bd.named Bd.method).1
  have X : Stand p l e ({ frames := 0, cells := 0, slots := 0, locals := 0 } : Room) s m #[(.ref a1)] below meth c s₁ [] 0 0 := Stand.of_body Bd
  have eT : s₁.heap = h0 := by rw [← hh, Bd.state]; rfl
  have N := Fr.nil n0
  have K0 := Keep.refl h0 []
  show own_Ends p e below (own_Post s below (own_rnn_Q Z a1 h0 n0) ({ frames := 0, cells := 0, slots := 0, locals := 0 } : Room).cells ({ frames := 0, cells := 0, slots := 0, locals := 0 } : Room).slots) s₁ (entryFrame m #[(.ref a1)] 1)
  rw [own_rnn_ef m a1]
  obtain ⟨T, hT⟩ : ∃ z, z = s₁ := ⟨_, rfl⟩
  rw [← hT] at X eT ⊢
  obtain ⟨h, hh0⟩ : ∃ z, z = h0 := ⟨_, rfl⟩
  rw [← hh0] at eT
  replace O : Old Z n0 h := by rw [hh0]; exact O
  replace K0 : Keep h0 h [] := by rw [hh0]; exact K0
  refine own_via (T' := T) (g' := (mkF m 1 #[.val (.ref a1)] [(.ref a1)])) (fun t_ k_ => XS.aloadN X.here hx rfl (hb hby own_rnn_d0) rfl rfl k_) ?_
  refine own_via (T' := T) (g' := (mkF m 12 #[.val (.ref a1)] [])) (fun t_ k_ => XS.ifnonnullYes X.here hx rfl (pc0 := 1) (pc' := 12) rfl (hb hby own_rnn_d1) rfl (by decide) (by decide) k_) ?_
  refine own_via (T' := T) (g' := (mkF m 13 #[.val (.ref a1)] [(.ref a1)])) (fun t_ k_ => XS.aloadN X.here hx rfl (hb hby own_rnn_d12) rfl rfl k_) ?_
  refine own_retW X hx hlk Bd.returns rfl (Or.inr (Or.inr (Or.inr (Or.inr ⟨rfl, rfl, rfl⟩)))) (hb hby own_rnn_d13) (by decide) (by decide) ?_
  rw [eT]
  exact ⟨rfl, N, hh0⟩
theorem own_optinit_d0 : decode jdk_32_method_2_code 0 = .ok (.aload_n 0, 1) := by decide +kernel
theorem own_optinit_d1 : decode jdk_32_method_2_code 1 = .ok (.invokespecial 7, 3) := by decide +kernel
theorem own_optinit_d4 : decode jdk_32_method_2_code 4 = .ok (.aload_n 0, 1) := by decide +kernel
theorem own_optinit_d5 : decode jdk_32_method_2_code 5 = .ok (.aload_n 1, 1) := by decide +kernel
theorem own_optinit_d6 : decode jdk_32_method_2_code 6 = .ok (.putfield 13, 3) := by decide +kernel
theorem own_optinit_d9 : decode jdk_32_method_2_code 9 = .ok (.return_, 1) := by decide +kernel
theorem own_optinit_pn : plainFor (⟨"java/util/Optional", "<init>", "(Ljava/lang/Object;)V"⟩ : MethodName) = true := by first | exact plainFor_of_name (by first | (simp [plainName, overriddenIn]; done) | decide +kernel) | decide +kernel
theorem own_optinit_ef (m : MethodId) (x0 : Addr) (x1 : Addr) : entryFrame m #[(.ref x0), (.ref x1)] 2 = mkF m 0 #[.val (.ref x0), .val (.ref x1)] [] := by first | (simp [entryFrame, mkF, argsToLocals, Value.category]; done) | rfl
def own_optinit_Q (Z : State) (a1 : Addr) (v1 : Addr) (h0 : Heap) (n0 : Nat) (v : Option Value) (h : Heap) (L : List Loc) : Prop := v = none ∧ Fr n0 L ∧ Keep h0 h [a1] ∧ Exa Z h a1 "java/util/Optional" ∧ Fld Z h a1 "java/util/Optional" "value" "Ljava/lang/Object;" (.ref v1)
set_option maxRecDepth 65536 in
set_option maxHeartbeats 40000000 in
theorem own_optinit (l : Launch) (Z : State) (a0 : Array Value) (hw : ∀ d ∈ tables_1, d.before a0 Z = true) (ws : List Jvm.Cond) (a1 : Addr) (v1 : Addr) (h0 : Heap) (n0 : Nat) (O : Old Z n0 h0) (E_a1 : Exa Z h0 a1 "java/util/Optional") (F_value_a1 : Fld Z h0 a1 "java/util/Optional" "value" "Ljava/lang/Object;" .null) (g_a1 : n0 ≤ a1) :
    MetFree l (⟨"java/util/Optional", "<init>", "(Ljava/lang/Object;)V"⟩ : MethodName) (head1 (Jvm.Cond.code (⟨"java/util/Optional", "<init>", "(Ljava/lang/Object;)V"⟩ : MethodName) jdk_32_method_2_code 2 none :: ws) ({ frames := 1, cells := 0, slots := 0, locals := 12 } : Room)) (fun a U => a = #[(.ref a1), (.ref v1)] ∧ Z.Warmed39 U.vm ∧ U.heap = h0) (fun _ _ _ _ _ => True) (fun _ U o U' => ∃ v L, o = .returned v ∧ own_optinit_Q Z a1 v1 h0 n0 v U'.heap L ∧ FrameEnd U o U' L ({ frames := 1, cells := 0, slots := 0, locals := 12 } : Room).cells ({ frames := 1, cells := 0, slots := 0, locals := 12 } : Room).slots) := by
  refine MetFree.of_bodySF own_optinit_pn hisR ?_
  intro p e s m args below meth c s₁ Bd hml0 hP hK
  obtain ⟨rfl, hZ, hh⟩ := hP
  have hx := Bd.exec
  have hby := Bd.bytes
  have hlk := Bd.notSynchronized
  have hml : c.maxLocals = 2 := hml0
  have hown : s.vm.findClass "java/util/Optional" = some m.cls := findClass_of_methodNamed Bd.named
  have hnm := (name_of_methodNamed Bd.named Bd.method).1
  have X : Stand p l e ({ frames := 1, cells := 0, slots := 0, locals := 12 } : Room) s m #[(.ref a1), (.ref v1)] below meth c s₁ [] 0 0 := Stand.of_body Bd
  have eT : s₁.heap = h0 := by rw [← hh, Bd.state]; rfl
  have N := Fr.nil n0
  have K0 := Keep.refl h0 [a1]
  show own_Ends p e below (own_Post s below (own_optinit_Q Z a1 v1 h0 n0) ({ frames := 1, cells := 0, slots := 0, locals := 12 } : Room).cells ({ frames := 1, cells := 0, slots := 0, locals := 12 } : Room).slots) s₁ (entryFrame m #[(.ref a1), (.ref v1)] 2)
  rw [own_optinit_ef m a1 v1]
  obtain ⟨T, hT⟩ : ∃ z, z = s₁ := ⟨_, rfl⟩
  rw [← hT] at X eT ⊢
  obtain ⟨h, hh0⟩ : ∃ z, z = h0 := ⟨_, rfl⟩
  rw [← hh0] at eT
  replace O : Old Z n0 h := by rw [hh0]; exact O
  replace K0 : Keep h0 h [a1] := by rw [hh0]; exact K0
  rw [← hh0] at E_a1
  rw [← hh0] at F_value_a1
  refine own_via (T' := T) (g' := (mkF m 1 #[.val (.ref a1), .val (.ref v1)] [(.ref a1)])) (fun t_ k_ => XS.aloadN X.here hx rfl (hb hby own_optinit_d0) rfl rfl k_) ?_
  obtain ⟨T, X, eT, st⟩ := initO X hx hZ hown (hw _ (List.mem_of_getElem? (i := 86) rfl)) (hw _ (List.mem_of_getElem? (i := 18) rfl)) (hw _ (List.mem_of_getElem? (i := 19) rfl)) eT (g := (mkF m 1 #[.val (.ref a1), .val (.ref v1)] [(.ref a1)])) rfl (by rw [hml]; rfl) rfl (hb hby own_optinit_d1) (by decide) (W := 0) (by show 2 * 0 + _ ≤ _; exact Nat.le_of_eq rfl) (by decide)
  refine own_via (g' := (mkF m 4 #[.val (.ref a1), .val (.ref v1)] [])) st ?_
  refine own_via (T' := T) (g' := (mkF m 5 #[.val (.ref a1), .val (.ref v1)] [(.ref a1)])) (fun t_ k_ => XS.aloadN X.here hx rfl (hb hby own_optinit_d4) rfl rfl k_) ?_
  refine own_via (T' := T) (g' := (mkF m 6 #[.val (.ref a1), .val (.ref v1)] [(.ref v1), (.ref a1)])) (fun t_ k_ => XS.aloadN X.here hx rfl (hb hby own_optinit_d5) rfl rfl k_) ?_
  obtain ⟨T, h1, X, eT, W, st⟩ := putF X hx hZ hown (host := "") (Or.inl (hw _ (List.mem_of_getElem? (i := 46) rfl))) Via.refl eT F_value_a1 E_a1 (Or.inr ⟨(hw _ (List.mem_of_getElem? (i := 47) rfl)), rfl, hnm⟩) (hw _ (List.mem_of_getElem? (i := 81) rfl)) (ty := (.object "java/lang/Object")) (by decide) rfl rfl (g := (mkF m 6 #[.val (.ref a1), .val (.ref v1)] [(.ref v1), (.ref a1)])) rfl rfl (hb hby own_optinit_d6)
  replace F_value_a1 := F_value_a1.same W
  replace E_a1 := E_a1.wr W
  replace O := O.wr W g_a1
  replace K0 := K0.wr W (Or.inl (List.mem_of_getElem? (i := 0) rfl))
  replace N := Fr.snoc X N g_a1
  refine own_via (g' := (mkF m 9 #[.val (.ref a1), .val (.ref v1)] [])) st ?_
  refine own_retV X hx hlk Bd.returns (hb hby own_optinit_d9) (by decide) (by decide) ?_
  rw [eT]
  exact ⟨rfl, N, K0, E_a1, F_value_a1⟩
theorem own_optof_d0 : decode jdk_32_method_3_code 0 = .ok (.new 2, 3) := by decide +kernel
theorem own_optof_d3 : decode jdk_32_method_3_code 3 = .ok (.dup, 1) := by decide +kernel
theorem own_optof_d4 : decode jdk_32_method_3_code 4 = .ok (.aload_n 0, 1) := by decide +kernel
theorem own_optof_d5 : decode jdk_32_method_3_code 5 = .ok (.invokestatic 17, 3) := by decide +kernel
theorem own_optof_d8 : decode jdk_32_method_3_code 8 = .ok (.invokespecial 23, 3) := by decide +kernel
theorem own_optof_d11 : decode jdk_32_method_3_code 11 = .ok (.areturn, 1) := by decide +kernel
theorem own_optof_pn : plainFor (⟨"java/util/Optional", "of", "(Ljava/lang/Object;)Ljava/util/Optional;"⟩ : MethodName) = true := by first | exact plainFor_of_name (by first | (simp [plainName, overriddenIn]; done) | decide +kernel) | decide +kernel
theorem own_optof_ef (m : MethodId) (x0 : Addr) : entryFrame m #[(.ref x0)] 1 = mkF m 0 #[.val (.ref x0)] [] := by first | (simp [entryFrame, mkF, argsToLocals, Value.category]; done) | rfl
def own_optof_Q (Z : State) (v1 : Addr) (h0 : Heap) (n0 : Nat) (v : Option Value) (h : Heap) (L : List Loc) : Prop := ∃ r, v = some (.ref r) ∧ Fr n0 L ∧ Keep h0 h [] ∧ h0.size ≤ r ∧ Exa Z h r "java/util/Optional" ∧ Fld Z h r "java/util/Optional" "value" "Ljava/lang/Object;" (.ref v1)
set_option maxRecDepth 65536 in
set_option maxHeartbeats 40000000 in
theorem own_optof (l : Launch) (Z : State) (a0 : Array Value) (hw : ∀ d ∈ tables_1, d.before a0 Z = true) (ws : List Jvm.Cond) (v1 : Addr) (h0 : Heap) (n0 : Nat) (O : Old Z n0 h0)  :
    MetFree l (⟨"java/util/Optional", "of", "(Ljava/lang/Object;)Ljava/util/Optional;"⟩ : MethodName) (head1 (Jvm.Cond.code (⟨"java/util/Optional", "of", "(Ljava/lang/Object;)Ljava/util/Optional;"⟩ : MethodName) jdk_32_method_3_code 1 (some (.object "java/util/Optional")) :: ws) ({ frames := 2, cells := 1, slots := 1, locals := 26 } : Room)) (fun a U => a = #[(.ref v1)] ∧ Z.Warmed39 U.vm ∧ U.heap = h0) (fun _ _ _ _ _ => True) (fun _ U o U' => ∃ v L, o = .returned v ∧ own_optof_Q Z v1 h0 n0 v U'.heap L ∧ FrameEnd U o U' L ({ frames := 2, cells := 1, slots := 1, locals := 26 } : Room).cells ({ frames := 2, cells := 1, slots := 1, locals := 26 } : Room).slots) := by
  refine MetFree.of_bodySF own_optof_pn hisR ?_
  intro p e s m args below meth c s₁ Bd hml0 hP hK
  obtain ⟨rfl, hZ, hh⟩ := hP
  have hx := Bd.exec
  have hby := Bd.bytes
  have hlk := Bd.notSynchronized
  have hml : c.maxLocals = 1 := hml0
  have hown : s.vm.findClass "java/util/Optional" = some m.cls := findClass_of_methodNamed Bd.named
  have hnm := (name_of_methodNamed Bd.named Bd.method).1
  have X : Stand p l e ({ frames := 2, cells := 1, slots := 1, locals := 26 } : Room) s m #[(.ref v1)] below meth c s₁ [] 0 0 := Stand.of_body Bd
  have eT : s₁.heap = h0 := by rw [← hh, Bd.state]; rfl
  have N := Fr.nil n0
  have K0 := Keep.refl h0 []
  show own_Ends p e below (own_Post s below (own_optof_Q Z v1 h0 n0) ({ frames := 2, cells := 1, slots := 1, locals := 26 } : Room).cells ({ frames := 2, cells := 1, slots := 1, locals := 26 } : Room).slots) s₁ (entryFrame m #[(.ref v1)] 1)
  rw [own_optof_ef m v1]
  obtain ⟨T, hT⟩ : ∃ z, z = s₁ := ⟨_, rfl⟩
  rw [← hT] at X eT ⊢
  obtain ⟨h, hh0⟩ : ∃ z, z = h0 := ⟨_, rfl⟩
  rw [← hh0] at eT
  replace O : Old Z n0 h := by rw [hh0]; exact O
  replace K0 : Keep h0 h [] := by rw [hh0]; exact K0
  obtain ⟨b1, gb⟩ : ∃ z, z = h.size := ⟨_, rfl⟩
  obtain ⟨T, h2, X, eT, E, E_b1, Dq, -, st⟩ := newO X hx hZ hown (hw _ (List.mem_of_getElem? (i := 80) rfl)) (hw _ (List.mem_of_getElem? (i := 81) rfl)) (hw _ (List.mem_of_getElem? (i := 3) rfl)) eT (g := (mkF m 0 #[.val (.ref v1)] [])) rfl (hb hby own_optof_d0) (by decide) (by decide)
  rw [← gb] at E_b1 Dq st
  have g_b1 : n0 ≤ b1 := Nat.le_trans (own_le O) (Nat.le_of_eq gb.symm)
  have sz_b1 : h0.size ≤ b1 := Nat.le_trans K0.1 (Nat.le_of_eq gb.symm)
  replace O := O.ext E
  replace K0 := K0.ext E
  have F_value_b1 : Fld Z h2 b1 "java/util/Optional" "value" "Ljava/lang/Object;" .null := Dq (Or.inr (hw _ (List.mem_of_getElem? (i := 47) rfl))) (ty := (.object "java/lang/Object")) (by decide)
  refine own_via (g' := (mkF m 3 #[.val (.ref v1)] [(.ref b1)])) st ?_
  refine own_via (T' := T) (g' := (mkF m 4 #[.val (.ref v1)] [(.ref b1), (.ref b1)])) (fun t_ k_ => XS.dup X.here hx rfl (hb hby own_optof_d3) rfl rfl k_) ?_
  refine own_via (T' := T) (g' := (mkF m 5 #[.val (.ref v1)] [(.ref v1), (.ref b1), (.ref b1)])) (fun t_ k_ => XS.aloadN X.here hx rfl (hb hby own_optof_d4) rfl rfl k_) ?_
  obtain ⟨_, _, ⟨T, Lq, kq, nq⟩, -, X, ⟨Lc, hQ, lq, yq, zq⟩, st⟩ := Jvm.LawKit.callS X hx (y := (⟨"java/util/Objects", "requireNonNull", "(Ljava/lang/Object;)Ljava/lang/Object;"⟩ : MethodName)) hown (mvT hZ (hw _ (List.mem_of_getElem? (i := 37) rfl))) (mvT hZ (hw _ (List.mem_of_getElem? (i := 38) rfl))) (mvT hZ (hw _ (List.mem_of_getElem? (i := 39) rfl))) (mvT hZ (hw _ (List.mem_of_getElem? (i := 40) rfl))) (by decide) (backOf (W := 2) (own_rnn l Z a0 hw [] v1 h2 n0 O ) hZ (hw _ (List.mem_of_getElem? (i := 40) rfl)) (hw _ (List.mem_of_getElem? (i := 39) rfl)) (by decide) (by decide)) (g := (mkF m 5 #[.val (.ref v1)] [(.ref v1), (.ref b1), (.ref b1)])) rfl (by rw [hml]; rfl) (argsL := [(.ref v1)]) (rest := [(.ref b1), (.ref b1)]) (lenOf own_pd1 rfl) rfl (by show 2 * 0 + _ ≤ _; exact Nat.le_of_eq rfl) (hb hby own_optof_d5) (fun _ _ => ⟨rfl, eT, (by decide : 1 + 0 ≤ _), (by decide : 1 + 0 ≤ _)⟩)
  dsimp only [Pt.U, Pt.locs, Pt.cells, Pt.slots] at X lq yq zq st hQ
  subst lq yq zq
  obtain ⟨rfl, Nq, eT⟩ := hQ
  replace N := Fr.app N Nq
  refine own_via (g' := (mkF m 8 #[.val (.ref v1)] [(.ref v1), (.ref b1), (.ref b1)])) st ?_
  obtain ⟨_, _, ⟨T, Lq, kq, nq⟩, -, X, ⟨Lc, hQ, lq, yq, zq⟩, st⟩ := X.specialBack hx (y := (⟨"java/util/Optional", "<init>", "(Ljava/lang/Object;)V"⟩ : MethodName)) rfl hown (mvT hZ (hw _ (List.mem_of_getElem? (i := 82) rfl))) (mvT hZ (hw _ (List.mem_of_getElem? (i := 83) rfl))) (mvT hZ (hw _ (List.mem_of_getElem? (i := 85) rfl))) (by decide) (backOf (W := 1) (own_optinit l Z a0 hw [] b1 v1 h2 n0 O E_b1 F_value_b1 g_b1) hZ (hw _ (List.mem_of_getElem? (i := 85) rfl)) (hw _ (List.mem_of_getElem? (i := 3) rfl)) (by decide) (by decide)) (g := (mkF m 8 #[.val (.ref v1)] [(.ref v1), (.ref b1), (.ref b1)])) rfl (by rw [hml]; rfl) (Steps.refl _) (a := b1) (argsL := [(.ref v1)]) (rest := [(.ref b1)]) (lenOf own_pd2 rfl) rfl (by show 2 * 0 + _ ≤ _; exact Nat.le_of_eq rfl) (hb hby own_optof_d8) (fun _ _ => ⟨rfl, eT, (by decide : 1 + 0 ≤ _), (by decide : 1 + 0 ≤ _)⟩)
  dsimp only [Pt.U, Pt.locs, Pt.cells, Pt.slots] at X lq yq zq st hQ
  subst lq yq zq
  obtain ⟨rfl, Nq, Kq, E_b1, F_value_b1⟩ := hQ
  replace N := Fr.app N Nq
  obtain ⟨h3, eT⟩ : ∃ z, T.heap = z := ⟨_, rfl⟩
  rw [eT] at Kq E_b1 F_value_b1
  replace O := O.keep Kq (allS g_b1 all0)
  replace K0 := K0.trans Kq (allS (Or.inr sz_b1) all0)
  refine own_viaT (g' := (mkF m 11 #[.val (.ref v1)] [(.ref b1)])) st ?_
  refine own_retW X hx hlk Bd.returns rfl (Or.inr (Or.inr (Or.inr (Or.inr ⟨rfl, rfl, rfl⟩)))) (hb hby own_optof_d11) (by decide) (by decide) ?_
  rw [eT]
  exact ⟨b1, rfl, N, K0, sz_b1, E_b1, F_value_b1⟩
theorem own_ansinit_d0 : decode prog_3_method_1_code 0 = .ok (.aload_n 0, 1) := by decide +kernel
theorem own_ansinit_d1 : decode prog_3_method_1_code 1 = .ok (.invokespecial 1, 3) := by decide +kernel
theorem own_ansinit_d4 : decode prog_3_method_1_code 4 = .ok (.aload_n 0, 1) := by decide +kernel
theorem own_ansinit_d5 : decode prog_3_method_1_code 5 = .ok (.aload_n 1, 1) := by decide +kernel
theorem own_ansinit_d6 : decode prog_3_method_1_code 6 = .ok (.putfield 7, 3) := by decide +kernel
theorem own_ansinit_d9 : decode prog_3_method_1_code 9 = .ok (.aload_n 0, 1) := by decide +kernel
theorem own_ansinit_d10 : decode prog_3_method_1_code 10 = .ok (.iload_n 2, 1) := by decide +kernel
theorem own_ansinit_d11 : decode prog_3_method_1_code 11 = .ok (.putfield 13, 3) := by decide +kernel
theorem own_ansinit_d14 : decode prog_3_method_1_code 14 = .ok (.return_, 1) := by decide +kernel
theorem own_ansinit_pn : plainFor (⟨"com/example/wise_crawler/wisecrawler/crawl/Answer", "<init>", "(Ljava/util/Optional;Z)V"⟩ : MethodName) = true := by first | exact plainFor_of_name (by first | (simp [plainName, overriddenIn]; done) | decide +kernel) | decide +kernel
theorem own_ansinit_ef (m : MethodId) (x0 : Addr) (x1 : Addr) (x2 : Int32) : entryFrame m #[(.ref x0), (.ref x1), (.int x2)] 3 = mkF m 0 #[.val (.ref x0), .val (.ref x1), .val (.int x2)] [] := by first | (simp [entryFrame, mkF, argsToLocals, Value.category]; done) | rfl
def own_ansinit_Q (Z : State) (a1 : Addr) (o1 : Addr) (t1 : Int32) (h0 : Heap) (n0 : Nat) (v : Option Value) (h : Heap) (L : List Loc) : Prop := v = none ∧ Fr n0 L ∧ Keep h0 h [a1] ∧ Exa Z h a1 "com/example/wise_crawler/wisecrawler/crawl/Answer" ∧ Fld Z h a1 "com/example/wise_crawler/wisecrawler/crawl/Answer" "response" "Ljava/util/Optional;" (.ref o1)
set_option maxRecDepth 65536 in
set_option maxHeartbeats 40000000 in
theorem own_ansinit (l : Launch) (Z : State) (a0 : Array Value) (hw : ∀ d ∈ tables_1, d.before a0 Z = true) (ws : List Jvm.Cond) (a1 : Addr) (o1 : Addr) (t1 : Int32) (h0 : Heap) (n0 : Nat) (O : Old Z n0 h0) (E_a1 : Exa Z h0 a1 "com/example/wise_crawler/wisecrawler/crawl/Answer") (F_response_a1 : Fld Z h0 a1 "com/example/wise_crawler/wisecrawler/crawl/Answer" "response" "Ljava/util/Optional;" .null) (F_timedOut_a1 : Fld Z h0 a1 "com/example/wise_crawler/wisecrawler/crawl/Answer" "timedOut" "Z" (.int (0 : Int32))) (g_a1 : n0 ≤ a1) :
    MetFree l (⟨"com/example/wise_crawler/wisecrawler/crawl/Answer", "<init>", "(Ljava/util/Optional;Z)V"⟩ : MethodName) (head1 (Jvm.Cond.code (⟨"com/example/wise_crawler/wisecrawler/crawl/Answer", "<init>", "(Ljava/util/Optional;Z)V"⟩ : MethodName) prog_3_method_1_code 3 none :: ws) ({ frames := 2, cells := 0, slots := 0, locals := 24 } : Room)) (fun a U => a = #[(.ref a1), (.ref o1), (.int t1)] ∧ Z.Warmed39 U.vm ∧ U.heap = h0) (fun _ _ _ _ _ => True) (fun _ U o U' => ∃ v L, o = .returned v ∧ own_ansinit_Q Z a1 o1 t1 h0 n0 v U'.heap L ∧ FrameEnd U o U' L ({ frames := 2, cells := 0, slots := 0, locals := 24 } : Room).cells ({ frames := 2, cells := 0, slots := 0, locals := 24 } : Room).slots) := by
  refine MetFree.of_bodySF own_ansinit_pn hisR ?_
  intro p e s m args below meth c s₁ Bd hml0 hP hK
  obtain ⟨rfl, hZ, hh⟩ := hP
  have hx := Bd.exec
  have hby := Bd.bytes
  have hlk := Bd.notSynchronized
  have hml : c.maxLocals = 3 := hml0
  have hown : s.vm.findClass "com/example/wise_crawler/wisecrawler/crawl/Answer" = some m.cls := findClass_of_methodNamed Bd.named
  have hnm := (name_of_methodNamed Bd.named Bd.method).1
  have X : Stand p l e ({ frames := 2, cells := 0, slots := 0, locals := 24 } : Room) s m #[(.ref a1), (.ref o1), (.int t1)] below meth c s₁ [] 0 0 := Stand.of_body Bd
  have eT : s₁.heap = h0 := by rw [← hh, Bd.state]; rfl
  have N := Fr.nil n0
  have K0 := Keep.refl h0 [a1]
  show own_Ends p e below (own_Post s below (own_ansinit_Q Z a1 o1 t1 h0 n0) ({ frames := 2, cells := 0, slots := 0, locals := 24 } : Room).cells ({ frames := 2, cells := 0, slots := 0, locals := 24 } : Room).slots) s₁ (entryFrame m #[(.ref a1), (.ref o1), (.int t1)] 3)
  rw [own_ansinit_ef m a1 o1 t1]
  obtain ⟨T, hT⟩ : ∃ z, z = s₁ := ⟨_, rfl⟩
  rw [← hT] at X eT ⊢
  obtain ⟨h, hh0⟩ : ∃ z, z = h0 := ⟨_, rfl⟩
  rw [← hh0] at eT
  replace O : Old Z n0 h := by rw [hh0]; exact O
  replace K0 : Keep h0 h [a1] := by rw [hh0]; exact K0
  rw [← hh0] at E_a1
  rw [← hh0] at F_response_a1
  rw [← hh0] at F_timedOut_a1
  refine own_via (T' := T) (g' := (mkF m 1 #[.val (.ref a1), .val (.ref o1), .val (.int t1)] [(.ref a1)])) (fun t_ k_ => XS.aloadN X.here hx rfl (hb hby own_ansinit_d0) rfl rfl k_) ?_
  obtain ⟨_, _, ⟨T, Lq, kq, nq⟩, -, X, ⟨Lc, hQ, lq, yq, zq⟩, st⟩ := X.specialBack hx (y := (⟨"java/lang/Record", "<init>", "()V"⟩ : MethodName)) rfl hown (mvT hZ (hw _ (List.mem_of_getElem? (i := 12) rfl))) (mvT hZ (hw _ (List.mem_of_getElem? (i := 13) rfl))) (mvT hZ (hw _ (List.mem_of_getElem? (i := 16) rfl))) (by decide) (backOf (W := 0) (own_rec l Z a0 hw [] a1 h n0 O ) hZ (hw _ (List.mem_of_getElem? (i := 16) rfl)) (hw _ (List.mem_of_getElem? (i := 15) rfl)) (by decide) (by decide)) (g := (mkF m 1 #[.val (.ref a1), .val (.ref o1), .val (.int t1)] [(.ref a1)])) rfl (by rw [hml]; rfl) (Steps.refl _) (a := a1) (argsL := []) (rest := []) (lenOf own_pd0 rfl) rfl (by show 2 * 0 + _ ≤ _; exact Nat.le_of_eq rfl) (hb hby own_ansinit_d1) (fun _ _ => ⟨rfl, eT, (by decide : 0 + 0 ≤ _), (by decide : 0 + 0 ≤ _)⟩)
  dsimp only [Pt.U, Pt.locs, Pt.cells, Pt.slots] at X lq yq zq st hQ
  subst lq yq zq
  obtain ⟨rfl, Nq, eT⟩ := hQ
  replace N := Fr.app N Nq
  refine own_viaT (g' := (mkF m 4 #[.val (.ref a1), .val (.ref o1), .val (.int t1)] [])) st ?_
  refine own_via (T' := T) (g' := (mkF m 5 #[.val (.ref a1), .val (.ref o1), .val (.int t1)] [(.ref a1)])) (fun t_ k_ => XS.aloadN X.here hx rfl (hb hby own_ansinit_d4) rfl rfl k_) ?_
  refine own_via (T' := T) (g' := (mkF m 6 #[.val (.ref a1), .val (.ref o1), .val (.int t1)] [(.ref o1), (.ref a1)])) (fun t_ k_ => XS.aloadN X.here hx rfl (hb hby own_ansinit_d5) rfl rfl k_) ?_
  obtain ⟨T, h1, X, eT, W, st⟩ := putF X hx hZ hown (host := "") (Or.inl (hw _ (List.mem_of_getElem? (i := 20) rfl))) Via.refl eT F_response_a1 E_a1 (Or.inr ⟨(hw _ (List.mem_of_getElem? (i := 21) rfl)), rfl, hnm⟩) (hw _ (List.mem_of_getElem? (i := 7) rfl)) (ty := (.object "java/util/Optional")) (by decide) rfl rfl (g := (mkF m 6 #[.val (.ref a1), .val (.ref o1), .val (.int t1)] [(.ref o1), (.ref a1)])) rfl rfl (hb hby own_ansinit_d6)
  replace F_response_a1 := F_response_a1.same W
  replace E_a1 := E_a1.wr W
  replace F_timedOut_a1 := F_timedOut_a1.other W (Or.inr (slot_ne (Or.inr (hw _ (List.mem_of_getElem? (i := 23) rfl))) (Or.inr (hw _ (List.mem_of_getElem? (i := 21) rfl))) (by decide) (t := .boolean) (t' := (.object "java/util/Optional")) (by decide) (by decide)))
  replace O := O.wr W g_a1
  replace K0 := K0.wr W (Or.inl (List.mem_of_getElem? (i := 0) rfl))
  replace N := Fr.snoc X N g_a1
  refine own_via (g' := (mkF m 9 #[.val (.ref a1), .val (.ref o1), .val (.int t1)] [])) st ?_
  refine own_via (T' := T) (g' := (mkF m 10 #[.val (.ref a1), .val (.ref o1), .val (.int t1)] [(.ref a1)])) (fun t_ k_ => XS.aloadN X.here hx rfl (hb hby own_ansinit_d9) rfl rfl k_) ?_
  refine own_via (T' := T) (g' := (mkF m 11 #[.val (.ref a1), .val (.ref o1), .val (.int t1)] [(.int t1), (.ref a1)])) (fun t_ k_ => XS.iloadN X.here hx rfl (hb hby own_ansinit_d10) rfl k_) ?_
  obtain ⟨T, h2, X, eT, W, st⟩ := putFN X hx hZ hown (hw _ (List.mem_of_getElem? (i := 22) rfl)) Via.refl eT F_timedOut_a1 E_a1 (Or.inr ⟨(hw _ (List.mem_of_getElem? (i := 23) rfl)), rfl, hnm⟩) (hw _ (List.mem_of_getElem? (i := 7) rfl)) (ty := .boolean) (v' := (.int (nar .boolean t1))) (by decide) rfl (by exact fits_nar_bool _) (g := (mkF m 11 #[.val (.ref a1), .val (.ref o1), .val (.int t1)] [(.int t1), (.ref a1)])) rfl rfl (hb hby own_ansinit_d11)
  replace F_timedOut_a1 := F_timedOut_a1.same W
  replace E_a1 := E_a1.wr W
  replace F_response_a1 := F_response_a1.other W (Or.inr (slot_ne (Or.inr (hw _ (List.mem_of_getElem? (i := 21) rfl))) (Or.inr (hw _ (List.mem_of_getElem? (i := 23) rfl))) (by decide) (t := (.object "java/util/Optional")) (t' := .boolean) (by decide) (by decide)))
  replace O := O.wr W g_a1
  replace K0 := K0.wr W (Or.inl (List.mem_of_getElem? (i := 0) rfl))
  replace N := Fr.snoc X N g_a1
  refine own_via (g' := (mkF m 14 #[.val (.ref a1), .val (.ref o1), .val (.int t1)] [])) st ?_
  refine own_retV X hx hlk Bd.returns (hb hby own_ansinit_d14) (by decide) (by decide) ?_
  rw [eT]
  exact ⟨rfl, N, K0, E_a1, F_response_a1⟩
theorem own_optempty_d0 : decode jdk_32_method_1_code 0 = .ok (.getstatic 1, 3) := by decide +kernel
theorem own_optempty_d3 : decode jdk_32_method_1_code 3 = .ok (.astore_n 0, 1) := by decide +kernel
theorem own_optempty_d4 : decode jdk_32_method_1_code 4 = .ok (.aload_n 0, 1) := by decide +kernel
theorem own_optempty_d5 : decode jdk_32_method_1_code 5 = .ok (.areturn, 1) := by decide +kernel
theorem own_optempty_pn : plainFor (⟨"java/util/Optional", "empty", "()Ljava/util/Optional;"⟩ : MethodName) = true := by first | exact plainFor_of_name (by first | (simp [plainName, overriddenIn]; done) | decide +kernel) | decide +kernel
theorem own_optempty_ef (m : MethodId)  : entryFrame m #[] 1 = mkF m 0 #[.unset] [] := by first | (simp [entryFrame, mkF, argsToLocals, Value.category]; done) | rfl
def own_optempty_Q (Z : State) (wEMPTY : Addr) (h0 : Heap) (n0 : Nat) (v : Option Value) (h : Heap) (L : List Loc) : Prop := v = some (.ref wEMPTY) ∧ Fr n0 L ∧ h = h0
set_option maxRecDepth 65536 in
set_option maxHeartbeats 40000000 in
theorem own_optempty (l : Launch) (Z : State) (a0 : Array Value) (hw : ∀ d ∈ tables_1, d.before a0 Z = true) (ws : List Jvm.Cond) (wEMPTY : Addr) (h0 : Heap) (n0 : Nat) (O : Old Z n0 h0) (S_EMPTY : Sta Z Z.heap "java/util/Optional" "EMPTY" "Ljava/util/Optional;" (.ref wEMPTY)) :
    MetFree l (⟨"java/util/Optional", "empty", "()Ljava/util/Optional;"⟩ : MethodName) (head1 (Jvm.Cond.code (⟨"java/util/Optional", "empty", "()Ljava/util/Optional;"⟩ : MethodName) jdk_32_method_1_code 1 (some (.object "java/util/Optional")) :: ws) ({ frames := 0, cells := 0, slots := 0, locals := 0 } : Room)) (fun a U => a = #[] ∧ Z.Warmed39 U.vm ∧ U.heap = h0) (fun _ _ _ _ _ => True) (fun _ U o U' => ∃ v L, o = .returned v ∧ own_optempty_Q Z wEMPTY h0 n0 v U'.heap L ∧ FrameEnd U o U' L ({ frames := 0, cells := 0, slots := 0, locals := 0 } : Room).cells ({ frames := 0, cells := 0, slots := 0, locals := 0 } : Room).slots) := by
  refine MetFree.of_bodySF own_optempty_pn hisR ?_
  intro p e s m args below meth c s₁ Bd hml0 hP hK
  obtain ⟨rfl, hZ, hh⟩ := hP
  have hx := Bd.exec
  have hby := Bd.bytes
  have hlk := Bd.notSynchronized
  have hml : c.maxLocals = 1 := hml0
  have hown : s.vm.findClass "java/util/Optional" = some m.cls := findClass_of_methodNamed Bd.named
  have hnm := (name_of_methodNamed Bd.named Bd.method).1
  have X : Stand p l e ({ frames := 0, cells := 0, slots := 0, locals := 0 } : Room) s m #[] below meth c s₁ [] 0 0 := Stand.of_body Bd
  have eT : s₁.heap = h0 := by rw [← hh, Bd.state]; rfl
  have N := Fr.nil n0
  have K0 := Keep.refl h0 []
  show own_Ends p e below (own_Post s below (own_optempty_Q Z wEMPTY h0 n0) ({ frames := 0, cells := 0, slots := 0, locals := 0 } : Room).cells ({ frames := 0, cells := 0, slots := 0, locals := 0 } : Room).slots) s₁ (entryFrame m #[] 1)
  rw [own_optempty_ef m ]
  obtain ⟨T, hT⟩ : ∃ z, z = s₁ := ⟨_, rfl⟩
  rw [← hT] at X eT ⊢
  obtain ⟨h, hh0⟩ : ∃ z, z = h0 := ⟨_, rfl⟩
  rw [← hh0] at eT
  replace O : Old Z n0 h := by rw [hh0]; exact O
  replace K0 : Keep h0 h [] := by rw [hh0]; exact K0
  obtain ⟨T, X, eT, st⟩ := getS2 X hx hZ hown (host := "") (Or.inl (hw _ (List.mem_of_getElem? (i := 5) rfl))) Via.refl eT (S_EMPTY.ext O.2) (g := (mkF m 0 #[.unset] [])) rfl (hb hby own_optempty_d0)
  refine own_via (g' := (mkF m 3 #[.unset] [(.ref wEMPTY)])) st ?_
  refine own_via (T' := T) (g' := (mkF m 4 #[.val (.ref wEMPTY)] [])) (fun t_ k_ => XS.astoreN X.here hx rfl (hb hby own_optempty_d3) rfl rfl (l' := #[.val (.ref wEMPTY)]) rfl k_) ?_
  refine own_via (T' := T) (g' := (mkF m 5 #[.val (.ref wEMPTY)] [(.ref wEMPTY)])) (fun t_ k_ => XS.aloadN X.here hx rfl (hb hby own_optempty_d4) rfl rfl k_) ?_
  refine own_retW X hx hlk Bd.returns rfl (Or.inr (Or.inr (Or.inr (Or.inr ⟨rfl, rfl, rfl⟩)))) (hb hby own_optempty_d5) (by decide) (by decide) ?_
  rw [eT]
  exact ⟨rfl, N, hh0⟩
theorem own_isemptyN_d0 : decode jdk_32_method_7_code 0 = .ok (.aload_n 0, 1) := by decide +kernel
theorem own_isemptyN_d1 : decode jdk_32_method_7_code 1 = .ok (.getfield 13, 3) := by decide +kernel
theorem own_isemptyN_d4 : decode jdk_32_method_7_code 4 = .ok (.ifnonnull 7, 3) := by decide +kernel
theorem own_isemptyN_d7 : decode jdk_32_method_7_code 7 = .ok (.iconst 1, 1) := by decide +kernel
theorem own_isemptyN_d8 : decode jdk_32_method_7_code 8 = .ok (.goto 4, 3) := by decide +kernel
theorem own_isemptyN_d12 : decode jdk_32_method_7_code 12 = .ok (.ireturn, 1) := by decide +kernel
theorem own_isemptyN_pn : plainFor (⟨"java/util/Optional", "isEmpty", "()Z"⟩ : MethodName) = true := by first | exact plainFor_of_name (by first | (simp [plainName, overriddenIn]; done) | decide +kernel) | decide +kernel
theorem own_isemptyN_ef (m : MethodId) (x0 : Addr) : entryFrame m #[(.ref x0)] 1 = mkF m 0 #[.val (.ref x0)] [] := by first | (simp [entryFrame, mkF, argsToLocals, Value.category]; done) | rfl
def own_isemptyN_Q (Z : State) (a1 : Addr) (h0 : Heap) (n0 : Nat) (v : Option Value) (h : Heap) (L : List Loc) : Prop := v = some (.int (1 : Int32)) ∧ Fr n0 L ∧ h = h0
set_option maxRecDepth 65536 in
set_option maxHeartbeats 40000000 in
theorem own_isemptyN (l : Launch) (Z : State) (a0 : Array Value) (hw : ∀ d ∈ tables_1, d.before a0 Z = true) (ws : List Jvm.Cond) (a1 : Addr) (h0 : Heap) (n0 : Nat) (O : Old Z n0 h0) (F_value_a1 : Fld Z h0 a1 "java/util/Optional" "value" "Ljava/lang/Object;" .null) :
    MetFree l (⟨"java/util/Optional", "isEmpty", "()Z"⟩ : MethodName) (head1 (Jvm.Cond.code (⟨"java/util/Optional", "isEmpty", "()Z"⟩ : MethodName) jdk_32_method_7_code 1 (some .boolean) :: ws) ({ frames := 0, cells := 0, slots := 0, locals := 0 } : Room)) (fun a U => a = #[(.ref a1)] ∧ Z.Warmed39 U.vm ∧ U.heap = h0) (fun _ _ _ _ _ => True) (fun _ U o U' => ∃ v L, o = .returned v ∧ own_isemptyN_Q Z a1 h0 n0 v U'.heap L ∧ FrameEnd U o U' L ({ frames := 0, cells := 0, slots := 0, locals := 0 } : Room).cells ({ frames := 0, cells := 0, slots := 0, locals := 0 } : Room).slots) := by
  refine MetFree.of_bodySF own_isemptyN_pn hisR ?_
  intro p e s m args below meth c s₁ Bd hml0 hP hK
  obtain ⟨rfl, hZ, hh⟩ := hP
  have hx := Bd.exec
  have hby := Bd.bytes
  have hlk := Bd.notSynchronized
  have hml : c.maxLocals = 1 := hml0
  have hown : s.vm.findClass "java/util/Optional" = some m.cls := findClass_of_methodNamed Bd.named
  have hnm := (name_of_methodNamed Bd.named Bd.method).1
  have X : Stand p l e ({ frames := 0, cells := 0, slots := 0, locals := 0 } : Room) s m #[(.ref a1)] below meth c s₁ [] 0 0 := Stand.of_body Bd
  have eT : s₁.heap = h0 := by rw [← hh, Bd.state]; rfl
  have N := Fr.nil n0
  have K0 := Keep.refl h0 []
  show own_Ends p e below (own_Post s below (own_isemptyN_Q Z a1 h0 n0) ({ frames := 0, cells := 0, slots := 0, locals := 0 } : Room).cells ({ frames := 0, cells := 0, slots := 0, locals := 0 } : Room).slots) s₁ (entryFrame m #[(.ref a1)] 1)
  rw [own_isemptyN_ef m a1]
  obtain ⟨T, hT⟩ : ∃ z, z = s₁ := ⟨_, rfl⟩
  rw [← hT] at X eT ⊢
  obtain ⟨h, hh0⟩ : ∃ z, z = h0 := ⟨_, rfl⟩
  rw [← hh0] at eT
  replace O : Old Z n0 h := by rw [hh0]; exact O
  replace K0 : Keep h0 h [] := by rw [hh0]; exact K0
  rw [← hh0] at F_value_a1
  refine own_via (T' := T) (g' := (mkF m 1 #[.val (.ref a1)] [(.ref a1)])) (fun t_ k_ => XS.aloadN X.here hx rfl (hb hby own_isemptyN_d0) rfl rfl k_) ?_
  obtain ⟨T, X, eT, st⟩ := getF X hx hZ hown (host := "") (Or.inl (hw _ (List.mem_of_getElem? (i := 46) rfl))) Via.refl eT F_value_a1 (g := (mkF m 1 #[.val (.ref a1)] [(.ref a1)])) rfl rfl (hb hby own_isemptyN_d1)
  refine own_via (g' := (mkF m 4 #[.val (.ref a1)] [.null])) st ?_
  refine own_via (T' := T) (g' := (mkF m 7 #[.val (.ref a1)] [])) (fun t_ k_ => XS.ifnonnullNo X.here hx rfl (hb hby own_isemptyN_d4) rfl k_) ?_
  refine own_via (T' := T) (g' := (mkF m 8 #[.val (.ref a1)] [(.int (1 : Int32))])) (fun t_ k_ => XS.iconst X.here hx rfl (hb hby own_isemptyN_d7) k_) ?_
  refine own_via (T' := T) (g' := (mkF m 12 #[.val (.ref a1)] [(.int (1 : Int32))])) (fun t_ k_ => XS.goto X.here hx rfl (pc0 := 8) (pc' := 12) rfl (hb hby own_isemptyN_d8) (by decide) (by decide) k_) ?_
  refine own_retN X hx hlk (t := .boolean) Bd.returns (by simp) (hb hby own_isemptyN_d12) (by decide) (by decide) ?_
  rw [eT]
  exact ⟨rfl, N, hh0⟩
theorem own_isemptyV_d0 : decode jdk_32_method_7_code 0 = .ok (.aload_n 0, 1) := by decide +kernel
theorem own_isemptyV_d1 : decode jdk_32_method_7_code 1 = .ok (.getfield 13, 3) := by decide +kernel
theorem own_isemptyV_d4 : decode jdk_32_method_7_code 4 = .ok (.ifnonnull 7, 3) := by decide +kernel
theorem own_isemptyV_d11 : decode jdk_32_method_7_code 11 = .ok (.iconst 0, 1) := by decide +kernel
theorem own_isemptyV_d12 : decode jdk_32_method_7_code 12 = .ok (.ireturn, 1) := by decide +kernel
theorem own_isemptyV_pn : plainFor (⟨"java/util/Optional", "isEmpty", "()Z"⟩ : MethodName) = true := by first | exact plainFor_of_name (by first | (simp [plainName, overriddenIn]; done) | decide +kernel) | decide +kernel
theorem own_isemptyV_ef (m : MethodId) (x0 : Addr) : entryFrame m #[(.ref x0)] 1 = mkF m 0 #[.val (.ref x0)] [] := by first | (simp [entryFrame, mkF, argsToLocals, Value.category]; done) | rfl
def own_isemptyV_Q (Z : State) (a1 : Addr) (v1 : Addr) (h0 : Heap) (n0 : Nat) (v : Option Value) (h : Heap) (L : List Loc) : Prop := v = some (.int (0 : Int32)) ∧ Fr n0 L ∧ h = h0
set_option maxRecDepth 65536 in
set_option maxHeartbeats 40000000 in
theorem own_isemptyV (l : Launch) (Z : State) (a0 : Array Value) (hw : ∀ d ∈ tables_1, d.before a0 Z = true) (ws : List Jvm.Cond) (a1 : Addr) (v1 : Addr) (h0 : Heap) (n0 : Nat) (O : Old Z n0 h0) (F_value_a1 : Fld Z h0 a1 "java/util/Optional" "value" "Ljava/lang/Object;" (.ref v1)) :
    MetFree l (⟨"java/util/Optional", "isEmpty", "()Z"⟩ : MethodName) (head1 (Jvm.Cond.code (⟨"java/util/Optional", "isEmpty", "()Z"⟩ : MethodName) jdk_32_method_7_code 1 (some .boolean) :: ws) ({ frames := 0, cells := 0, slots := 0, locals := 0 } : Room)) (fun a U => a = #[(.ref a1)] ∧ Z.Warmed39 U.vm ∧ U.heap = h0) (fun _ _ _ _ _ => True) (fun _ U o U' => ∃ v L, o = .returned v ∧ own_isemptyV_Q Z a1 v1 h0 n0 v U'.heap L ∧ FrameEnd U o U' L ({ frames := 0, cells := 0, slots := 0, locals := 0 } : Room).cells ({ frames := 0, cells := 0, slots := 0, locals := 0 } : Room).slots) := by
  refine MetFree.of_bodySF own_isemptyV_pn hisR ?_
  intro p e s m args below meth c s₁ Bd hml0 hP hK
  obtain ⟨rfl, hZ, hh⟩ := hP
  have hx := Bd.exec
  have hby := Bd.bytes
  have hlk := Bd.notSynchronized
  have hml : c.maxLocals = 1 := hml0
  have hown : s.vm.findClass "java/util/Optional" = some m.cls := findClass_of_methodNamed Bd.named
  have hnm := (name_of_methodNamed Bd.named Bd.method).1
  have X : Stand p l e ({ frames := 0, cells := 0, slots := 0, locals := 0 } : Room) s m #[(.ref a1)] below meth c s₁ [] 0 0 := Stand.of_body Bd
  have eT : s₁.heap = h0 := by rw [← hh, Bd.state]; rfl
  have N := Fr.nil n0
  have K0 := Keep.refl h0 []
  show own_Ends p e below (own_Post s below (own_isemptyV_Q Z a1 v1 h0 n0) ({ frames := 0, cells := 0, slots := 0, locals := 0 } : Room).cells ({ frames := 0, cells := 0, slots := 0, locals := 0 } : Room).slots) s₁ (entryFrame m #[(.ref a1)] 1)
  rw [own_isemptyV_ef m a1]
  obtain ⟨T, hT⟩ : ∃ z, z = s₁ := ⟨_, rfl⟩
  rw [← hT] at X eT ⊢
  obtain ⟨h, hh0⟩ : ∃ z, z = h0 := ⟨_, rfl⟩
  rw [← hh0] at eT
  replace O : Old Z n0 h := by rw [hh0]; exact O
  replace K0 : Keep h0 h [] := by rw [hh0]; exact K0
  rw [← hh0] at F_value_a1
  refine own_via (T' := T) (g' := (mkF m 1 #[.val (.ref a1)] [(.ref a1)])) (fun t_ k_ => XS.aloadN X.here hx rfl (hb hby own_isemptyV_d0) rfl rfl k_) ?_
  obtain ⟨T, X, eT, st⟩ := getF X hx hZ hown (host := "") (Or.inl (hw _ (List.mem_of_getElem? (i := 46) rfl))) Via.refl eT F_value_a1 (g := (mkF m 1 #[.val (.ref a1)] [(.ref a1)])) rfl rfl (hb hby own_isemptyV_d1)
  refine own_via (g' := (mkF m 4 #[.val (.ref a1)] [(.ref v1)])) st ?_
  refine own_via (T' := T) (g' := (mkF m 11 #[.val (.ref a1)] [])) (fun t_ k_ => XS.ifnonnullYes X.here hx rfl (pc0 := 4) (pc' := 11) rfl (hb hby own_isemptyV_d4) rfl (by decide) (by decide) k_) ?_
  refine own_via (T' := T) (g' := (mkF m 12 #[.val (.ref a1)] [(.int (0 : Int32))])) (fun t_ k_ => XS.iconst X.here hx rfl (hb hby own_isemptyV_d11) k_) ?_
  refine own_retN X hx hlk (t := .boolean) Bd.returns (by simp) (hb hby own_isemptyV_d12) (by decide) (by decide) ?_
  rw [eT]
  exact ⟨rfl, N, hh0⟩
theorem own_ispresentN_d0 : decode jdk_32_method_6_code 0 = .ok (.aload_n 0, 1) := by decide +kernel
theorem own_ispresentN_d1 : decode jdk_32_method_6_code 1 = .ok (.getfield 13, 3) := by decide +kernel
theorem own_ispresentN_d4 : decode jdk_32_method_6_code 4 = .ok (.ifnull 7, 3) := by decide +kernel
theorem own_ispresentN_d11 : decode jdk_32_method_6_code 11 = .ok (.iconst 0, 1) := by decide +kernel
theorem own_ispresentN_d12 : decode jdk_32_method_6_code 12 = .ok (.ireturn, 1) := by decide +kernel
theorem own_ispresentN_pn : plainFor (⟨"java/util/Optional", "isPresent", "()Z"⟩ : MethodName) = true := by first | exact plainFor_of_name (by first | (simp [plainName, overriddenIn]; done) | decide +kernel) | decide +kernel
theorem own_ispresentN_ef (m : MethodId) (x0 : Addr) : entryFrame m #[(.ref x0)] 1 = mkF m 0 #[.val (.ref x0)] [] := by first | (simp [entryFrame, mkF, argsToLocals, Value.category]; done) | rfl
def own_ispresentN_Q (Z : State) (a1 : Addr) (h0 : Heap) (n0 : Nat) (v : Option Value) (h : Heap) (L : List Loc) : Prop := v = some (.int (0 : Int32)) ∧ Fr n0 L ∧ h = h0
set_option maxRecDepth 65536 in
set_option maxHeartbeats 40000000 in
theorem own_ispresentN (l : Launch) (Z : State) (a0 : Array Value) (hw : ∀ d ∈ tables_1, d.before a0 Z = true) (ws : List Jvm.Cond) (a1 : Addr) (h0 : Heap) (n0 : Nat) (O : Old Z n0 h0) (F_value_a1 : Fld Z h0 a1 "java/util/Optional" "value" "Ljava/lang/Object;" .null) :
    MetFree l (⟨"java/util/Optional", "isPresent", "()Z"⟩ : MethodName) (head1 (Jvm.Cond.code (⟨"java/util/Optional", "isPresent", "()Z"⟩ : MethodName) jdk_32_method_6_code 1 (some .boolean) :: ws) ({ frames := 0, cells := 0, slots := 0, locals := 0 } : Room)) (fun a U => a = #[(.ref a1)] ∧ Z.Warmed39 U.vm ∧ U.heap = h0) (fun _ _ _ _ _ => True) (fun _ U o U' => ∃ v L, o = .returned v ∧ own_ispresentN_Q Z a1 h0 n0 v U'.heap L ∧ FrameEnd U o U' L ({ frames := 0, cells := 0, slots := 0, locals := 0 } : Room).cells ({ frames := 0, cells := 0, slots := 0, locals := 0 } : Room).slots) := by
  refine MetFree.of_bodySF own_ispresentN_pn hisR ?_
  intro p e s m args below meth c s₁ Bd hml0 hP hK
  obtain ⟨rfl, hZ, hh⟩ := hP
  have hx := Bd.exec
  have hby := Bd.bytes
  have hlk := Bd.notSynchronized
  have hml : c.maxLocals = 1 := hml0
  have hown : s.vm.findClass "java/util/Optional" = some m.cls := findClass_of_methodNamed Bd.named
  have hnm := (name_of_methodNamed Bd.named Bd.method).1
  have X : Stand p l e ({ frames := 0, cells := 0, slots := 0, locals := 0 } : Room) s m #[(.ref a1)] below meth c s₁ [] 0 0 := Stand.of_body Bd
  have eT : s₁.heap = h0 := by rw [← hh, Bd.state]; rfl
  have N := Fr.nil n0
  have K0 := Keep.refl h0 []
  show own_Ends p e below (own_Post s below (own_ispresentN_Q Z a1 h0 n0) ({ frames := 0, cells := 0, slots := 0, locals := 0 } : Room).cells ({ frames := 0, cells := 0, slots := 0, locals := 0 } : Room).slots) s₁ (entryFrame m #[(.ref a1)] 1)
  rw [own_ispresentN_ef m a1]
  obtain ⟨T, hT⟩ : ∃ z, z = s₁ := ⟨_, rfl⟩
  rw [← hT] at X eT ⊢
  obtain ⟨h, hh0⟩ : ∃ z, z = h0 := ⟨_, rfl⟩
  rw [← hh0] at eT
  replace O : Old Z n0 h := by rw [hh0]; exact O
  replace K0 : Keep h0 h [] := by rw [hh0]; exact K0
  rw [← hh0] at F_value_a1
  refine own_via (T' := T) (g' := (mkF m 1 #[.val (.ref a1)] [(.ref a1)])) (fun t_ k_ => XS.aloadN X.here hx rfl (hb hby own_ispresentN_d0) rfl rfl k_) ?_
  obtain ⟨T, X, eT, st⟩ := getF X hx hZ hown (host := "") (Or.inl (hw _ (List.mem_of_getElem? (i := 46) rfl))) Via.refl eT F_value_a1 (g := (mkF m 1 #[.val (.ref a1)] [(.ref a1)])) rfl rfl (hb hby own_ispresentN_d1)
  refine own_via (g' := (mkF m 4 #[.val (.ref a1)] [.null])) st ?_
  refine own_via (T' := T) (g' := (mkF m 11 #[.val (.ref a1)] [])) (fun t_ k_ => XS.ifnullYes X.here hx rfl (pc0 := 4) (pc' := 11) rfl (hb hby own_ispresentN_d4) rfl (by decide) (by decide) k_) ?_
  refine own_via (T' := T) (g' := (mkF m 12 #[.val (.ref a1)] [(.int (0 : Int32))])) (fun t_ k_ => XS.iconst X.here hx rfl (hb hby own_ispresentN_d11) k_) ?_
  refine own_retN X hx hlk (t := .boolean) Bd.returns (by simp) (hb hby own_ispresentN_d12) (by decide) (by decide) ?_
  rw [eT]
  exact ⟨rfl, N, hh0⟩
theorem own_ispresentV_d0 : decode jdk_32_method_6_code 0 = .ok (.aload_n 0, 1) := by decide +kernel
theorem own_ispresentV_d1 : decode jdk_32_method_6_code 1 = .ok (.getfield 13, 3) := by decide +kernel
theorem own_ispresentV_d4 : decode jdk_32_method_6_code 4 = .ok (.ifnull 7, 3) := by decide +kernel
theorem own_ispresentV_d7 : decode jdk_32_method_6_code 7 = .ok (.iconst 1, 1) := by decide +kernel
theorem own_ispresentV_d8 : decode jdk_32_method_6_code 8 = .ok (.goto 4, 3) := by decide +kernel
theorem own_ispresentV_d12 : decode jdk_32_method_6_code 12 = .ok (.ireturn, 1) := by decide +kernel
theorem own_ispresentV_pn : plainFor (⟨"java/util/Optional", "isPresent", "()Z"⟩ : MethodName) = true := by first | exact plainFor_of_name (by first | (simp [plainName, overriddenIn]; done) | decide +kernel) | decide +kernel
theorem own_ispresentV_ef (m : MethodId) (x0 : Addr) : entryFrame m #[(.ref x0)] 1 = mkF m 0 #[.val (.ref x0)] [] := by first | (simp [entryFrame, mkF, argsToLocals, Value.category]; done) | rfl
def own_ispresentV_Q (Z : State) (a1 : Addr) (v1 : Addr) (h0 : Heap) (n0 : Nat) (v : Option Value) (h : Heap) (L : List Loc) : Prop := v = some (.int (1 : Int32)) ∧ Fr n0 L ∧ h = h0
set_option maxRecDepth 65536 in
set_option maxHeartbeats 40000000 in
theorem own_ispresentV (l : Launch) (Z : State) (a0 : Array Value) (hw : ∀ d ∈ tables_1, d.before a0 Z = true) (ws : List Jvm.Cond) (a1 : Addr) (v1 : Addr) (h0 : Heap) (n0 : Nat) (O : Old Z n0 h0) (F_value_a1 : Fld Z h0 a1 "java/util/Optional" "value" "Ljava/lang/Object;" (.ref v1)) :
    MetFree l (⟨"java/util/Optional", "isPresent", "()Z"⟩ : MethodName) (head1 (Jvm.Cond.code (⟨"java/util/Optional", "isPresent", "()Z"⟩ : MethodName) jdk_32_method_6_code 1 (some .boolean) :: ws) ({ frames := 0, cells := 0, slots := 0, locals := 0 } : Room)) (fun a U => a = #[(.ref a1)] ∧ Z.Warmed39 U.vm ∧ U.heap = h0) (fun _ _ _ _ _ => True) (fun _ U o U' => ∃ v L, o = .returned v ∧ own_ispresentV_Q Z a1 v1 h0 n0 v U'.heap L ∧ FrameEnd U o U' L ({ frames := 0, cells := 0, slots := 0, locals := 0 } : Room).cells ({ frames := 0, cells := 0, slots := 0, locals := 0 } : Room).slots) := by
  refine MetFree.of_bodySF own_ispresentV_pn hisR ?_
  intro p e s m args below meth c s₁ Bd hml0 hP hK
  obtain ⟨rfl, hZ, hh⟩ := hP
  have hx := Bd.exec
  have hby := Bd.bytes
  have hlk := Bd.notSynchronized
  have hml : c.maxLocals = 1 := hml0
  have hown : s.vm.findClass "java/util/Optional" = some m.cls := findClass_of_methodNamed Bd.named
  have hnm := (name_of_methodNamed Bd.named Bd.method).1
  have X : Stand p l e ({ frames := 0, cells := 0, slots := 0, locals := 0 } : Room) s m #[(.ref a1)] below meth c s₁ [] 0 0 := Stand.of_body Bd
  have eT : s₁.heap = h0 := by rw [← hh, Bd.state]; rfl
  have N := Fr.nil n0
  have K0 := Keep.refl h0 []
  show own_Ends p e below (own_Post s below (own_ispresentV_Q Z a1 v1 h0 n0) ({ frames := 0, cells := 0, slots := 0, locals := 0 } : Room).cells ({ frames := 0, cells := 0, slots := 0, locals := 0 } : Room).slots) s₁ (entryFrame m #[(.ref a1)] 1)
  rw [own_ispresentV_ef m a1]
  obtain ⟨T, hT⟩ : ∃ z, z = s₁ := ⟨_, rfl⟩
  rw [← hT] at X eT ⊢
  obtain ⟨h, hh0⟩ : ∃ z, z = h0 := ⟨_, rfl⟩
  rw [← hh0] at eT
  replace O : Old Z n0 h := by rw [hh0]; exact O
  replace K0 : Keep h0 h [] := by rw [hh0]; exact K0
  rw [← hh0] at F_value_a1
  refine own_via (T' := T) (g' := (mkF m 1 #[.val (.ref a1)] [(.ref a1)])) (fun t_ k_ => XS.aloadN X.here hx rfl (hb hby own_ispresentV_d0) rfl rfl k_) ?_
  obtain ⟨T, X, eT, st⟩ := getF X hx hZ hown (host := "") (Or.inl (hw _ (List.mem_of_getElem? (i := 46) rfl))) Via.refl eT F_value_a1 (g := (mkF m 1 #[.val (.ref a1)] [(.ref a1)])) rfl rfl (hb hby own_ispresentV_d1)
  refine own_via (g' := (mkF m 4 #[.val (.ref a1)] [(.ref v1)])) st ?_
  refine own_via (T' := T) (g' := (mkF m 7 #[.val (.ref a1)] [])) (fun t_ k_ => XS.ifnullNo X.here hx rfl (hb hby own_ispresentV_d4) rfl k_) ?_
  refine own_via (T' := T) (g' := (mkF m 8 #[.val (.ref a1)] [(.int (1 : Int32))])) (fun t_ k_ => XS.iconst X.here hx rfl (hb hby own_ispresentV_d7) k_) ?_
  refine own_via (T' := T) (g' := (mkF m 12 #[.val (.ref a1)] [(.int (1 : Int32))])) (fun t_ k_ => XS.goto X.here hx rfl (pc0 := 8) (pc' := 12) rfl (hb hby own_ispresentV_d8) (by decide) (by decide) k_) ?_
  refine own_retN X hx hlk (t := .boolean) Bd.returns (by simp) (hb hby own_ispresentV_d12) (by decide) (by decide) ?_
  rw [eT]
  exact ⟨rfl, N, hh0⟩
theorem own_trunc_d0 : decode prog_28_method_19_code 0 = .ok (.aload_n 0, 1) := by decide +kernel
theorem own_trunc_d1 : decode prog_28_method_19_code 1 = .ok (.getfield 36, 3) := by decide +kernel
theorem own_trunc_d4 : decode prog_28_method_19_code 4 = .ok (.areturn, 1) := by decide +kernel
theorem own_trunc_pn : plainFor (⟨"com/example/wise_crawler/wisecrawler/fetch/Exchange", "truncation", "()Ljava/util/Optional;"⟩ : MethodName) = true := by first | exact plainFor_of_name (by first | (simp [plainName, overriddenIn]; done) | decide +kernel) | decide +kernel
theorem own_trunc_ef (m : MethodId) (x0 : Addr) : entryFrame m #[(.ref x0)] 1 = mkF m 0 #[.val (.ref x0)] [] := by first | (simp [entryFrame, mkF, argsToLocals, Value.category]; done) | rfl
def own_trunc_Q (Z : State) (x1 : Addr) (o1 : Addr) (h0 : Heap) (n0 : Nat) (v : Option Value) (h : Heap) (L : List Loc) : Prop := v = some (.ref o1) ∧ Fr n0 L ∧ h = h0
set_option maxRecDepth 65536 in
set_option maxHeartbeats 40000000 in
theorem own_trunc (l : Launch) (Z : State) (a0 : Array Value) (hw : ∀ d ∈ tables_1, d.before a0 Z = true) (ws : List Jvm.Cond) (x1 : Addr) (o1 : Addr) (h0 : Heap) (n0 : Nat) (O : Old Z n0 h0) (F_truncation_x1 : Fld Z h0 x1 "com/example/wise_crawler/wisecrawler/fetch/Exchange" "truncation" "Ljava/util/Optional;" (.ref o1)) :
    MetFree l (⟨"com/example/wise_crawler/wisecrawler/fetch/Exchange", "truncation", "()Ljava/util/Optional;"⟩ : MethodName) (head1 (Jvm.Cond.code (⟨"com/example/wise_crawler/wisecrawler/fetch/Exchange", "truncation", "()Ljava/util/Optional;"⟩ : MethodName) prog_28_method_19_code 1 (some (.object "java/util/Optional")) :: ws) ({ frames := 0, cells := 0, slots := 0, locals := 0 } : Room)) (fun a U => a = #[(.ref x1)] ∧ Z.Warmed39 U.vm ∧ U.heap = h0) (fun _ _ _ _ _ => True) (fun _ U o U' => ∃ v L, o = .returned v ∧ own_trunc_Q Z x1 o1 h0 n0 v U'.heap L ∧ FrameEnd U o U' L ({ frames := 0, cells := 0, slots := 0, locals := 0 } : Room).cells ({ frames := 0, cells := 0, slots := 0, locals := 0 } : Room).slots) := by
  refine MetFree.of_bodySF own_trunc_pn hisR ?_
  intro p e s m args below meth c s₁ Bd hml0 hP hK
  obtain ⟨rfl, hZ, hh⟩ := hP
  have hx := Bd.exec
  have hby := Bd.bytes
  have hlk := Bd.notSynchronized
  have hml : c.maxLocals = 1 := hml0
  have hown : s.vm.findClass "com/example/wise_crawler/wisecrawler/fetch/Exchange" = some m.cls := findClass_of_methodNamed Bd.named
  have hnm := (name_of_methodNamed Bd.named Bd.method).1
  have X : Stand p l e ({ frames := 0, cells := 0, slots := 0, locals := 0 } : Room) s m #[(.ref x1)] below meth c s₁ [] 0 0 := Stand.of_body Bd
  have eT : s₁.heap = h0 := by rw [← hh, Bd.state]; rfl
  have N := Fr.nil n0
  have K0 := Keep.refl h0 []
  show own_Ends p e below (own_Post s below (own_trunc_Q Z x1 o1 h0 n0) ({ frames := 0, cells := 0, slots := 0, locals := 0 } : Room).cells ({ frames := 0, cells := 0, slots := 0, locals := 0 } : Room).slots) s₁ (entryFrame m #[(.ref x1)] 1)
  rw [own_trunc_ef m x1]
  obtain ⟨T, hT⟩ : ∃ z, z = s₁ := ⟨_, rfl⟩
  rw [← hT] at X eT ⊢
  obtain ⟨h, hh0⟩ : ∃ z, z = h0 := ⟨_, rfl⟩
  rw [← hh0] at eT
  replace O : Old Z n0 h := by rw [hh0]; exact O
  replace K0 : Keep h0 h [] := by rw [hh0]; exact K0
  rw [← hh0] at F_truncation_x1
  refine own_via (T' := T) (g' := (mkF m 1 #[.val (.ref x1)] [(.ref x1)])) (fun t_ k_ => XS.aloadN X.here hx rfl (hb hby own_trunc_d0) rfl rfl k_) ?_
  obtain ⟨T, X, eT, st⟩ := getF X hx hZ hown (host := "") (Or.inl (hw _ (List.mem_of_getElem? (i := 75) rfl))) Via.refl eT F_truncation_x1 (g := (mkF m 1 #[.val (.ref x1)] [(.ref x1)])) rfl rfl (hb hby own_trunc_d1)
  refine own_via (g' := (mkF m 4 #[.val (.ref x1)] [(.ref o1)])) st ?_
  refine own_retW X hx hlk Bd.returns rfl (Or.inr (Or.inr (Or.inr (Or.inr ⟨rfl, rfl, rfl⟩)))) (hb hby own_trunc_d4) (by decide) (by decide) ?_
  rw [eT]
  exact ⟨rfl, N, hh0⟩
def own_applyQ (n0 : Nat) (h : Heap) (o1 : Addr) (v : Option Value) (h' : Heap) (L : List Loc) : Prop := v = some (.ref o1) ∧ Fr n0 L ∧ h' = h
set_option maxRecDepth 65536 in
set_option maxHeartbeats 40000000 in
theorem own_apply (l : Launch) (Z : State) (a0 : Array Value) (hw : ∀ d ∈ tables_1, d.before a0 Z = true) (aF x1 o1 : Addr) (cK : ClassId) (h : Heap) (n0 : Nat) (O : Old Z n0 h) (LM : own_Lam Z (⟨"com/example/wise_crawler/wisecrawler/crawl/Answer", "truncated", "()Z"⟩ : MethodName) 4 own_shape aF cK) (E_x1 : Exa Z h x1 "com/example/wise_crawler/wisecrawler/fetch/Exchange") (F_tr : Fld Z h x1 "com/example/wise_crawler/wisecrawler/fetch/Exchange" "truncation" "Ljava/util/Optional;" (.ref o1))
    {p : Program} {R : Room} {e : Env} {below : List Frame} {s : State} {args : Array Value} {W : Nat} (hx : p.tables.exec = Jvm.exec) (hZ : Z.Warmed39 s.vm) (hf : ({ frames := 1, cells := 0, slots := 0, locals := 12 } : Room).frames + 1 ≤ R.frames) (hl : W + (2 + 11) + ({ frames := 1, cells := 0, slots := 0, locals := 12 } : Room).locals ≤ R.locals) :
    BackW l R p e below s args (fun _ mk => mk = ⟨cK, 1⟩) 5 W (fun A a => a = #[.ref aF, .ref x1] ∧ A.U.heap = h ∧ A.cells + ({ frames := 1, cells := 0, slots := 0, locals := 12 } : Room).cells ≤ R.cells ∧ A.slots + ({ frames := 1, cells := 0, slots := 0, locals := 12 } : Room).slots ≤ R.slots)
      (fun A _ v B => ∃ L, own_applyQ n0 h o1 v B.U.heap L ∧ B.locs = A.locs ++ L ∧ B.cells = A.cells + ({ frames := 1, cells := 0, slots := 0, locals := 12 } : Room).cells ∧ B.slots = A.slots + ({ frames := 1, cells := 0, slots := 0, locals := 12 } : Room).slots) := by
  intro m meth c A g ig mk a X hg hsize hdg hW hwho ⟨ha, hh, hc, hs⟩
  subst hwho ha
  obtain ⟨-, ⟨d, dk, hd, hdn, hmade, -⟩, -⟩ := LM
  obtain ⟨k, tk, file, methk, ck, toy, t, nt, hk, hpn, hfile, hidx, hnt, hmk, hck, hby, hmlk, hlk, -, hret, htoy, htk, hlook, hmr, hcr⟩ := Jvm.LamKit.made_static own_fok hd hdn hmade
  have hU : Z.Warmed39 A.U.vm := wtrans hZ X.warmed
  obtain ⟨t0, ht0⟩ := Cond.code_named (hw _ (List.mem_of_getElem? (i := 93) rfl))
  have htt : t = t0 := own_targetIs ht0 (by decide) ⟨rfl, rfl, (by decide +kernel)⟩ htoy htk hlook
  subst htt
  obtain ⟨k', hk', ek'⟩ := hU.alike.2.2 _ _ hk
  obtain ⟨v, T', L, X', hQ, hst⟩ := own_enter X hg hsize hdg #[.ref aF, .ref x1] (R' := ({ frames := 1, cells := 0, slots := 0, locals := 12 } : Room)) (by rw [hU.alike.method?]; exact hmk) hck hlk (State.plainMethod.of_name fun kk hkk => by cases hk'.symm.trans hkk; rw [ek']; exact hpn) hf (by rw [hmlk]; omega) hc hs (Q := own_applyQ n0 h o1) (fun s' U e1 e2 Y => by
    have hZ' : Z.Warmed39 s'.vm := by rw [e1]; exact hU
    have eT : U.heap = h := e2.trans hh
    rw [hmlk, own_fef]
    refine own_via (T' := U) (g' := (mkF ⟨cK, 1⟩ 1 #[.val (.ref aF), .val (.ref x1)] [(.ref x1)])) (fun t_ k_ => XS.aloadN Y.here hx rfl (hb hby own_f0) rfl rfl k_) ?_
    refine own_via (T' := U) (g' := (mkF ⟨cK, 1⟩ 4 #[.val (.ref aF), .val (.ref x1)] [(.ref x1)])) (own_castReady Y hx hZ' hcr htoy eT E_x1 (g := (mkF ⟨cK, 1⟩ 1 #[.val (.ref aF), .val (.ref x1)] [(.ref x1)])) rfl rfl (hb hby own_f1)) ?_
    obtain ⟨_, ⟨T, Lq, kq, nq⟩, X, ⟨Lc, hQ, lq, yq, zq⟩, st⟩ := own_virtReady Y hx hZ' (y := (⟨"com/example/wise_crawler/wisecrawler/fetch/Exchange", "truncation", "()Ljava/util/Optional;"⟩ : MethodName)) (C := "com/example/wise_crawler/wisecrawler/fetch/Exchange") hk hfile hidx hmr hcr ht0 htoy (hw _ (List.mem_of_getElem? (i := 90) rfl)) (hw _ (List.mem_of_getElem? (i := 91) rfl)) (hw _ (List.mem_of_getElem? (i := 92) rfl)) (by decide) (backOf (W := 0) (own_trunc l Z a0 hw [] x1 o1 h n0 O F_tr) hZ' (hw _ (List.mem_of_getElem? (i := 93) rfl)) (hw _ (List.mem_of_getElem? (i := 56) rfl)) (by decide) (by decide)) eT E_x1 (g := (mkF ⟨cK, 1⟩ 4 #[.val (.ref aF), .val (.ref x1)] [(.ref x1)])) rfl (by rw [hmlk]; rfl) (argsL := []) (rest := []) (lenOf own_pd3 rfl) rfl (by show 2 * 0 + _ ≤ _; exact Nat.le_of_eq rfl) (hb hby own_f4) ⟨rfl, eT, (by decide : 0 + 0 ≤ _), (by decide : 0 + 0 ≤ _)⟩
    dsimp only [Pt.U, Pt.locs, Pt.cells, Pt.slots] at X lq yq zq st hQ
    subst lq yq zq
    obtain ⟨rfl, Nq, eT2⟩ := hQ
    refine own_viaT (g' := (mkF ⟨cK, 1⟩ 7 #[.val (.ref aF), .val (.ref x1)] [(.ref o1)])) st ?_
    refine own_retW X hx hlk hret rfl (Or.inr (Or.inr (Or.inr (Or.inr ⟨rfl, rfl, rfl⟩)))) (hb hby own_f7) (by decide) (by decide) ?_
    rw [eT2]
    exact ⟨rfl, (Fr.nil n0).app Nq, rfl⟩)
  exact ⟨v, ⟨T', A.locs ++ L, _, _⟩, X', ⟨L, hQ, rfl, rfl, rfl⟩, hst []⟩
theorem own_flatN_d0 : decode jdk_32_method_12_code 0 = .ok (.aload_n 1, 1) := by decide +kernel
theorem own_flatN_d1 : decode jdk_32_method_12_code 1 = .ok (.invokestatic 17, 3) := by decide +kernel
theorem own_flatN_d4 : decode jdk_32_method_12_code 4 = .ok (.pop, 1) := by decide +kernel
theorem own_flatN_d5 : decode jdk_32_method_12_code 5 = .ok (.aload_n 0, 1) := by decide +kernel
theorem own_flatN_d6 : decode jdk_32_method_12_code 6 = .ok (.invokevirtual 43, 3) := by decide +kernel
theorem own_flatN_d9 : decode jdk_32_method_12_code 9 = .ok (.ifCond .eq 7, 3) := by decide +kernel
theorem own_flatN_d12 : decode jdk_32_method_12_code 12 = .ok (.invokestatic 53, 3) := by decide +kernel
theorem own_flatN_d15 : decode jdk_32_method_12_code 15 = .ok (.areturn, 1) := by decide +kernel
theorem own_flatN_pn : plainFor (⟨"java/util/Optional", "flatMap", "(Ljava/util/function/Function;)Ljava/util/Optional;"⟩ : MethodName) = true := by first | exact plainFor_of_name (by first | (simp [plainName, overriddenIn]; done) | decide +kernel) | decide +kernel
theorem own_flatN_ef (m : MethodId) (x0 : Addr) (x1 : Addr) : entryFrame m #[(.ref x0), (.ref x1)] 3 = mkF m 0 #[.val (.ref x0), .val (.ref x1), .unset] [] := by first | (simp [entryFrame, mkF, argsToLocals, Value.category]; done) | rfl
def own_flatN_Q (Z : State) (a1 : Addr) (aF : Addr) (cK : ClassId) (wEMPTY : Addr) (h0 : Heap) (n0 : Nat) (v : Option Value) (h : Heap) (L : List Loc) : Prop := v = some (.ref wEMPTY) ∧ Fr n0 L ∧ h = h0
set_option maxRecDepth 65536 in
set_option maxHeartbeats 40000000 in
theorem own_flatN (l : Launch) (Z : State) (a0 : Array Value) (hw : ∀ d ∈ tables_1, d.before a0 Z = true) (ws : List Jvm.Cond) (a1 : Addr) (aF : Addr) (cK : ClassId) (wEMPTY : Addr) (h0 : Heap) (n0 : Nat) (O : Old Z n0 h0) (LM : own_Lam Z (⟨"com/example/wise_crawler/wisecrawler/crawl/Answer", "truncated", "()Z"⟩ : MethodName) 4 own_shape aF cK) (S_EMPTY : Sta Z Z.heap "java/util/Optional" "EMPTY" "Ljava/util/Optional;" (.ref wEMPTY)) (E_a1 : Exa Z h0 a1 "java/util/Optional") (F_value_a1 : Fld Z h0 a1 "java/util/Optional" "value" "Ljava/lang/Object;" .null) :
    MetFree l (⟨"java/util/Optional", "flatMap", "(Ljava/util/function/Function;)Ljava/util/Optional;"⟩ : MethodName) (head1 (Jvm.Cond.code (⟨"java/util/Optional", "flatMap", "(Ljava/util/function/Function;)Ljava/util/Optional;"⟩ : MethodName) jdk_32_method_12_code 3 (some (.object "java/util/Optional")) :: ws) ({ frames := 1, cells := 0, slots := 0, locals := 12 } : Room)) (fun a U => a = #[(.ref a1), (.ref aF)] ∧ Z.Warmed39 U.vm ∧ U.heap = h0) (fun _ _ _ _ _ => True) (fun _ U o U' => ∃ v L, o = .returned v ∧ own_flatN_Q Z a1 aF cK wEMPTY h0 n0 v U'.heap L ∧ FrameEnd U o U' L ({ frames := 1, cells := 0, slots := 0, locals := 12 } : Room).cells ({ frames := 1, cells := 0, slots := 0, locals := 12 } : Room).slots) := by
  refine MetFree.of_bodySF own_flatN_pn hisR ?_
  intro p e s m args below meth c s₁ Bd hml0 hP hK
  obtain ⟨rfl, hZ, hh⟩ := hP
  have hx := Bd.exec
  have hby := Bd.bytes
  have hlk := Bd.notSynchronized
  have hml : c.maxLocals = 3 := hml0
  have hown : s.vm.findClass "java/util/Optional" = some m.cls := findClass_of_methodNamed Bd.named
  have hnm := (name_of_methodNamed Bd.named Bd.method).1
  have X : Stand p l e ({ frames := 1, cells := 0, slots := 0, locals := 12 } : Room) s m #[(.ref a1), (.ref aF)] below meth c s₁ [] 0 0 := Stand.of_body Bd
  have eT : s₁.heap = h0 := by rw [← hh, Bd.state]; rfl
  have N := Fr.nil n0
  have K0 := Keep.refl h0 []
  show own_Ends p e below (own_Post s below (own_flatN_Q Z a1 aF cK wEMPTY h0 n0) ({ frames := 1, cells := 0, slots := 0, locals := 12 } : Room).cells ({ frames := 1, cells := 0, slots := 0, locals := 12 } : Room).slots) s₁ (entryFrame m #[(.ref a1), (.ref aF)] 3)
  rw [own_flatN_ef m a1 aF]
  obtain ⟨T, hT⟩ : ∃ z, z = s₁ := ⟨_, rfl⟩
  rw [← hT] at X eT ⊢
  obtain ⟨h, hh0⟩ : ∃ z, z = h0 := ⟨_, rfl⟩
  rw [← hh0] at eT
  replace O : Old Z n0 h := by rw [hh0]; exact O
  replace K0 : Keep h0 h [] := by rw [hh0]; exact K0
  rw [← hh0] at E_a1
  rw [← hh0] at F_value_a1
  refine own_via (T' := T) (g' := (mkF m 1 #[.val (.ref a1), .val (.ref aF), .unset] [(.ref aF)])) (fun t_ k_ => XS.aloadN X.here hx rfl (hb hby own_flatN_d0) rfl rfl k_) ?_
  obtain ⟨_, _, ⟨T, Lq, kq, nq⟩, -, X, ⟨Lc, hQ, lq, yq, zq⟩, st⟩ := Jvm.LawKit.callS X hx (y := (⟨"java/util/Objects", "requireNonNull", "(Ljava/lang/Object;)Ljava/lang/Object;"⟩ : MethodName)) hown (mvT hZ (hw _ (List.mem_of_getElem? (i := 37) rfl))) (mvT hZ (hw _ (List.mem_of_getElem? (i := 38) rfl))) (mvT hZ (hw _ (List.mem_of_getElem? (i := 39) rfl))) (mvT hZ (hw _ (List.mem_of_getElem? (i := 40) rfl))) (by decide) (backOf (W := 0) (own_rnn l Z a0 hw [] aF h n0 O ) hZ (hw _ (List.mem_of_getElem? (i := 40) rfl)) (hw _ (List.mem_of_getElem? (i := 39) rfl)) (by decide) (by decide)) (g := (mkF m 1 #[.val (.ref a1), .val (.ref aF), .unset] [(.ref aF)])) rfl (by rw [hml]; rfl) (argsL := [(.ref aF)]) (rest := []) (lenOf own_pd1 rfl) rfl (by show 2 * 0 + _ ≤ _; exact Nat.le_of_eq rfl) (hb hby own_flatN_d1) (fun _ _ => ⟨rfl, eT, (by decide : 0 + 0 ≤ _), (by decide : 0 + 0 ≤ _)⟩)
  dsimp only [Pt.U, Pt.locs, Pt.cells, Pt.slots] at X lq yq zq st hQ
  subst lq yq zq
  obtain ⟨rfl, Nq, eT⟩ := hQ
  replace N := Fr.app N Nq
  refine own_via (g' := (mkF m 4 #[.val (.ref a1), .val (.ref aF), .unset] [(.ref aF)])) st ?_
  refine own_via (T' := T) (g' := (mkF m 5 #[.val (.ref a1), .val (.ref aF), .unset] [])) (fun t_ k_ => XS.pop X.here hx rfl (hb hby own_flatN_d4) rfl rfl k_) ?_
  refine own_via (T' := T) (g' := (mkF m 6 #[.val (.ref a1), .val (.ref aF), .unset] [(.ref a1)])) (fun t_ k_ => XS.aloadN X.here hx rfl (hb hby own_flatN_d5) rfl rfl k_) ?_
  obtain ⟨cq, kq, qa, qb, qc⟩ := isOf hZ eT E_a1
  obtain ⟨_, _, ⟨T, Lq, kq, nq⟩, -, X, ⟨Lc, hQ, lq, yq, zq⟩, st⟩ := X.virtualBack hx (y := (⟨"java/util/Optional", "isEmpty", "()Z"⟩ : MethodName)) (z := (⟨"java/util/Optional", "isEmpty", "()Z"⟩ : MethodName)) hown (mvT hZ (hw _ (List.mem_of_getElem? (i := 41) rfl))) (mvT hZ (hw _ (List.mem_of_getElem? (i := 42) rfl))) (notFace_of_selects (args := #[]) (mvT hZ (hw _ (List.mem_of_getElem? (i := 44) rfl)))) (mvT hZ (hw _ (List.mem_of_getElem? (i := 44) rfl))) (mvT hZ (hw _ (List.mem_of_getElem? (i := 43) rfl))) (by decide) (backOf (W := 0) (own_isemptyN l Z a0 hw [] a1 h n0 O F_value_a1) hZ (hw _ (List.mem_of_getElem? (i := 45) rfl)) (hw _ (List.mem_of_getElem? (i := 3) rfl)) (by decide) (by decide)) qa qc (g := (mkF m 6 #[.val (.ref a1), .val (.ref aF), .unset] [(.ref a1)])) rfl (by rw [hml]; rfl) (Steps.refl _) (argsL := []) (rest := []) (lenOf own_pd4 rfl) rfl (by show 2 * 0 + _ ≤ _; exact Nat.le_of_eq rfl) (hb hby own_flatN_d6) (fun _ _ => ⟨rfl, eT, (by decide : 0 + 0 ≤ _), (by decide : 0 + 0 ≤ _)⟩)
  dsimp only [Pt.U, Pt.locs, Pt.cells, Pt.slots] at X lq yq zq st hQ
  subst lq yq zq
  obtain ⟨rfl, Nq, eT⟩ := hQ
  replace N := Fr.app N Nq
  refine own_viaT (g' := (mkF m 9 #[.val (.ref a1), .val (.ref aF), .unset] [(.int (1 : Int32))])) st ?_
  refine own_via (T' := T) (g' := (mkF m 12 #[.val (.ref a1), .val (.ref aF), .unset] [])) (fun t_ k_ => XS.ifNo X.here hx rfl (hb hby own_flatN_d9) rfl ((if0 _ _).trans (feq (by decide : ¬ ((1 : Int32) = (0 : Int32)))).1) k_) ?_
  obtain ⟨_, _, ⟨T, Lq, kq, nq⟩, -, X, ⟨Lc, hQ, lq, yq, zq⟩, st⟩ := Jvm.LawKit.callS X hx (y := (⟨"java/util/Optional", "empty", "()Ljava/util/Optional;"⟩ : MethodName)) hown (mvT hZ (hw _ (List.mem_of_getElem? (i := 48) rfl))) (mvT hZ (hw _ (List.mem_of_getElem? (i := 2) rfl))) (mvT hZ (hw _ (List.mem_of_getElem? (i := 3) rfl))) (mvT hZ (hw _ (List.mem_of_getElem? (i := 4) rfl))) (by decide) (backOf (W := 0) (own_optempty l Z a0 hw [] wEMPTY h n0 O S_EMPTY) hZ (hw _ (List.mem_of_getElem? (i := 4) rfl)) (hw _ (List.mem_of_getElem? (i := 3) rfl)) (by decide) (by decide)) (g := (mkF m 12 #[.val (.ref a1), .val (.ref aF), .unset] [])) rfl (by rw [hml]; rfl) (argsL := []) (rest := []) (lenOf own_pd3 rfl) rfl (by show 2 * 0 + _ ≤ _; exact Nat.le_of_eq rfl) (hb hby own_flatN_d12) (fun _ _ => ⟨rfl, eT, (by decide : 0 + 0 ≤ _), (by decide : 0 + 0 ≤ _)⟩)
  dsimp only [Pt.U, Pt.locs, Pt.cells, Pt.slots] at X lq yq zq st hQ
  subst lq yq zq
  obtain ⟨rfl, Nq, eT⟩ := hQ
  replace N := Fr.app N Nq
  refine own_via (g' := (mkF m 15 #[.val (.ref a1), .val (.ref aF), .unset] [(.ref wEMPTY)])) st ?_
  refine own_retW X hx hlk Bd.returns rfl (Or.inr (Or.inr (Or.inr (Or.inr ⟨rfl, rfl, rfl⟩)))) (hb hby own_flatN_d15) (by decide) (by decide) ?_
  rw [eT]
  exact ⟨rfl, N, hh0⟩
theorem own_flatV_d0 : decode jdk_32_method_12_code 0 = .ok (.aload_n 1, 1) := by decide +kernel
theorem own_flatV_d1 : decode jdk_32_method_12_code 1 = .ok (.invokestatic 17, 3) := by decide +kernel
theorem own_flatV_d4 : decode jdk_32_method_12_code 4 = .ok (.pop, 1) := by decide +kernel
theorem own_flatV_d5 : decode jdk_32_method_12_code 5 = .ok (.aload_n 0, 1) := by decide +kernel
theorem own_flatV_d6 : decode jdk_32_method_12_code 6 = .ok (.invokevirtual 43, 3) := by decide +kernel
theorem own_flatV_d9 : decode jdk_32_method_12_code 9 = .ok (.ifCond .eq 7, 3) := by decide +kernel
theorem own_flatV_d16 : decode jdk_32_method_12_code 16 = .ok (.aload_n 1, 1) := by decide +kernel
theorem own_flatV_d17 : decode jdk_32_method_12_code 17 = .ok (.aload_n 0, 1) := by decide +kernel
theorem own_flatV_d18 : decode jdk_32_method_12_code 18 = .ok (.getfield 13, 3) := by decide +kernel
theorem own_flatV_d21 : decode jdk_32_method_12_code 21 = .ok (.invokeinterface 57 2, 5) := by decide +kernel
theorem own_flatV_d26 : decode jdk_32_method_12_code 26 = .ok (.checkcast 2, 3) := by decide +kernel
theorem own_flatV_d29 : decode jdk_32_method_12_code 29 = .ok (.astore_n 2, 1) := by decide +kernel
theorem own_flatV_d30 : decode jdk_32_method_12_code 30 = .ok (.aload_n 2, 1) := by decide +kernel
theorem own_flatV_d31 : decode jdk_32_method_12_code 31 = .ok (.invokestatic 17, 3) := by decide +kernel
theorem own_flatV_d34 : decode jdk_32_method_12_code 34 = .ok (.checkcast 2, 3) := by decide +kernel
theorem own_flatV_d37 : decode jdk_32_method_12_code 37 = .ok (.areturn, 1) := by decide +kernel
theorem own_flatV_pn : plainFor (⟨"java/util/Optional", "flatMap", "(Ljava/util/function/Function;)Ljava/util/Optional;"⟩ : MethodName) = true := by first | exact plainFor_of_name (by first | (simp [plainName, overriddenIn]; done) | decide +kernel) | decide +kernel
theorem own_flatV_ef (m : MethodId) (x0 : Addr) (x1 : Addr) : entryFrame m #[(.ref x0), (.ref x1)] 3 = mkF m 0 #[.val (.ref x0), .val (.ref x1), .unset] [] := by first | (simp [entryFrame, mkF, argsToLocals, Value.category]; done) | rfl
def own_flatV_Q (Z : State) (a1 : Addr) (aF : Addr) (cK : ClassId) (x1 : Addr) (o1 : Addr) (h0 : Heap) (n0 : Nat) (v : Option Value) (h : Heap) (L : List Loc) : Prop := v = some (.ref o1) ∧ Fr n0 L ∧ h = h0
set_option maxRecDepth 65536 in
set_option maxHeartbeats 40000000 in
theorem own_flatV (l : Launch) (Z : State) (a0 : Array Value) (hw : ∀ d ∈ tables_1, d.before a0 Z = true) (ws : List Jvm.Cond) (a1 : Addr) (aF : Addr) (cK : ClassId) (x1 : Addr) (o1 : Addr) (h0 : Heap) (n0 : Nat) (O : Old Z n0 h0) (LM : own_Lam Z (⟨"com/example/wise_crawler/wisecrawler/crawl/Answer", "truncated", "()Z"⟩ : MethodName) 4 own_shape aF cK) (E_a1 : Exa Z h0 a1 "java/util/Optional") (F_value_a1 : Fld Z h0 a1 "java/util/Optional" "value" "Ljava/lang/Object;" (.ref x1)) (E_x1 : Exa Z h0 x1 "com/example/wise_crawler/wisecrawler/fetch/Exchange") (F_truncation_x1 : Fld Z h0 x1 "com/example/wise_crawler/wisecrawler/fetch/Exchange" "truncation" "Ljava/util/Optional;" (.ref o1)) (E_o1 : Exa Z h0 o1 "java/util/Optional") :
    MetFree l (⟨"java/util/Optional", "flatMap", "(Ljava/util/function/Function;)Ljava/util/Optional;"⟩ : MethodName) (head1 (Jvm.Cond.code (⟨"java/util/Optional", "flatMap", "(Ljava/util/function/Function;)Ljava/util/Optional;"⟩ : MethodName) jdk_32_method_12_code 3 (some (.object "java/util/Optional")) :: ws) ({ frames := 2, cells := 0, slots := 0, locals := 25 } : Room)) (fun a U => a = #[(.ref a1), (.ref aF)] ∧ Z.Warmed39 U.vm ∧ U.heap = h0) (fun _ _ _ _ _ => True) (fun _ U o U' => ∃ v L, o = .returned v ∧ own_flatV_Q Z a1 aF cK x1 o1 h0 n0 v U'.heap L ∧ FrameEnd U o U' L ({ frames := 2, cells := 0, slots := 0, locals := 25 } : Room).cells ({ frames := 2, cells := 0, slots := 0, locals := 25 } : Room).slots) := by
  refine MetFree.of_bodySF own_flatV_pn hisR ?_
  intro p e s m args below meth c s₁ Bd hml0 hP hK
  obtain ⟨rfl, hZ, hh⟩ := hP
  have hx := Bd.exec
  have hby := Bd.bytes
  have hlk := Bd.notSynchronized
  have hml : c.maxLocals = 3 := hml0
  have hown : s.vm.findClass "java/util/Optional" = some m.cls := findClass_of_methodNamed Bd.named
  have hnm := (name_of_methodNamed Bd.named Bd.method).1
  have X : Stand p l e ({ frames := 2, cells := 0, slots := 0, locals := 25 } : Room) s m #[(.ref a1), (.ref aF)] below meth c s₁ [] 0 0 := Stand.of_body Bd
  have eT : s₁.heap = h0 := by rw [← hh, Bd.state]; rfl
  have N := Fr.nil n0
  have K0 := Keep.refl h0 []
  show own_Ends p e below (own_Post s below (own_flatV_Q Z a1 aF cK x1 o1 h0 n0) ({ frames := 2, cells := 0, slots := 0, locals := 25 } : Room).cells ({ frames := 2, cells := 0, slots := 0, locals := 25 } : Room).slots) s₁ (entryFrame m #[(.ref a1), (.ref aF)] 3)
  rw [own_flatV_ef m a1 aF]
  obtain ⟨T, hT⟩ : ∃ z, z = s₁ := ⟨_, rfl⟩
  rw [← hT] at X eT ⊢
  obtain ⟨h, hh0⟩ : ∃ z, z = h0 := ⟨_, rfl⟩
  rw [← hh0] at eT
  replace O : Old Z n0 h := by rw [hh0]; exact O
  replace K0 : Keep h0 h [] := by rw [hh0]; exact K0
  rw [← hh0] at E_a1
  rw [← hh0] at F_value_a1
  rw [← hh0] at E_x1
  rw [← hh0] at F_truncation_x1
  rw [← hh0] at E_o1
  refine own_via (T' := T) (g' := (mkF m 1 #[.val (.ref a1), .val (.ref aF), .unset] [(.ref aF)])) (fun t_ k_ => XS.aloadN X.here hx rfl (hb hby own_flatV_d0) rfl rfl k_) ?_
  obtain ⟨_, _, ⟨T, Lq, kq, nq⟩, -, X, ⟨Lc, hQ, lq, yq, zq⟩, st⟩ := Jvm.LawKit.callS X hx (y := (⟨"java/util/Objects", "requireNonNull", "(Ljava/lang/Object;)Ljava/lang/Object;"⟩ : MethodName)) hown (mvT hZ (hw _ (List.mem_of_getElem? (i := 37) rfl))) (mvT hZ (hw _ (List.mem_of_getElem? (i := 38) rfl))) (mvT hZ (hw _ (List.mem_of_getElem? (i := 39) rfl))) (mvT hZ (hw _ (List.mem_of_getElem? (i := 40) rfl))) (by decide) (backOf (W := 0) (own_rnn l Z a0 hw [] aF h n0 O ) hZ (hw _ (List.mem_of_getElem? (i := 40) rfl)) (hw _ (List.mem_of_getElem? (i := 39) rfl)) (by decide) (by decide)) (g := (mkF m 1 #[.val (.ref a1), .val (.ref aF), .unset] [(.ref aF)])) rfl (by rw [hml]; rfl) (argsL := [(.ref aF)]) (rest := []) (lenOf own_pd1 rfl) rfl (by show 2 * 0 + _ ≤ _; exact Nat.le_of_eq rfl) (hb hby own_flatV_d1) (fun _ _ => ⟨rfl, eT, (by decide : 0 + 0 ≤ _), (by decide : 0 + 0 ≤ _)⟩)
  dsimp only [Pt.U, Pt.locs, Pt.cells, Pt.slots] at X lq yq zq st hQ
  subst lq yq zq
  obtain ⟨rfl, Nq, eT⟩ := hQ
  replace N := Fr.app N Nq
  refine own_via (g' := (mkF m 4 #[.val (.ref a1), .val (.ref aF), .unset] [(.ref aF)])) st ?_
  refine own_via (T' := T) (g' := (mkF m 5 #[.val (.ref a1), .val (.ref aF), .unset] [])) (fun t_ k_ => XS.pop X.here hx rfl (hb hby own_flatV_d4) rfl rfl k_) ?_
  refine own_via (T' := T) (g' := (mkF m 6 #[.val (.ref a1), .val (.ref aF), .unset] [(.ref a1)])) (fun t_ k_ => XS.aloadN X.here hx rfl (hb hby own_flatV_d5) rfl rfl k_) ?_
  obtain ⟨cq, kq, qa, qb, qc⟩ := isOf hZ eT E_a1
  obtain ⟨_, _, ⟨T, Lq, kq, nq⟩, -, X, ⟨Lc, hQ, lq, yq, zq⟩, st⟩ := X.virtualBack hx (y := (⟨"java/util/Optional", "isEmpty", "()Z"⟩ : MethodName)) (z := (⟨"java/util/Optional", "isEmpty", "()Z"⟩ : MethodName)) hown (mvT hZ (hw _ (List.mem_of_getElem? (i := 41) rfl))) (mvT hZ (hw _ (List.mem_of_getElem? (i := 42) rfl))) (notFace_of_selects (args := #[]) (mvT hZ (hw _ (List.mem_of_getElem? (i := 44) rfl)))) (mvT hZ (hw _ (List.mem_of_getElem? (i := 44) rfl))) (mvT hZ (hw _ (List.mem_of_getElem? (i := 43) rfl))) (by decide) (backOf (W := 0) (own_isemptyV l Z a0 hw [] a1 x1 h n0 O F_value_a1) hZ (hw _ (List.mem_of_getElem? (i := 45) rfl)) (hw _ (List.mem_of_getElem? (i := 3) rfl)) (by decide) (by decide)) qa qc (g := (mkF m 6 #[.val (.ref a1), .val (.ref aF), .unset] [(.ref a1)])) rfl (by rw [hml]; rfl) (Steps.refl _) (argsL := []) (rest := []) (lenOf own_pd4 rfl) rfl (by show 2 * 0 + _ ≤ _; exact Nat.le_of_eq rfl) (hb hby own_flatV_d6) (fun _ _ => ⟨rfl, eT, (by decide : 0 + 0 ≤ _), (by decide : 0 + 0 ≤ _)⟩)
  dsimp only [Pt.U, Pt.locs, Pt.cells, Pt.slots] at X lq yq zq st hQ
  subst lq yq zq
  obtain ⟨rfl, Nq, eT⟩ := hQ
  replace N := Fr.app N Nq
  refine own_viaT (g' := (mkF m 9 #[.val (.ref a1), .val (.ref aF), .unset] [(.int (0 : Int32))])) st ?_
  refine own_via (T' := T) (g' := (mkF m 16 #[.val (.ref a1), .val (.ref aF), .unset] [])) (fun t_ k_ => XS.ifYes X.here hx rfl (pc0 := 9) (pc' := 16) rfl (hb hby own_flatV_d9) rfl ((if0 _ _).trans (teq (by decide : (0 : Int32) = (0 : Int32))).1) (by decide) (by decide) k_) ?_
  refine own_via (T' := T) (g' := (mkF m 17 #[.val (.ref a1), .val (.ref aF), .unset] [(.ref aF)])) (fun t_ k_ => XS.aloadN X.here hx rfl (hb hby own_flatV_d16) rfl rfl k_) ?_
  refine own_via (T' := T) (g' := (mkF m 18 #[.val (.ref a1), .val (.ref aF), .unset] [(.ref a1), (.ref aF)])) (fun t_ k_ => XS.aloadN X.here hx rfl (hb hby own_flatV_d17) rfl rfl k_) ?_
  obtain ⟨T, X, eT, st⟩ := getF X hx hZ hown (host := "") (Or.inl (hw _ (List.mem_of_getElem? (i := 46) rfl))) Via.refl eT F_value_a1 (g := (mkF m 18 #[.val (.ref a1), .val (.ref aF), .unset] [(.ref a1), (.ref aF)])) rfl rfl (hb hby own_flatV_d18)
  refine own_via (g' := (mkF m 21 #[.val (.ref a1), .val (.ref aF), .unset] [(.ref x1), (.ref aF)])) st ?_
  obtain ⟨_, _, ⟨T, Lq, kq, nq⟩, -, X, ⟨Lc, hQ, lq, yq, zq⟩, st⟩ := X.fnAt hx (xi := (⟨"java/util/function/Function", "apply", "(Ljava/lang/Object;)Ljava/lang/Object;"⟩ : MethodName)) hown (own_fnW (mvT hZ (hw _ (List.mem_of_getElem? (i := 87) rfl))) (mvT hZ (hw _ (List.mem_of_getElem? (i := 88) rfl))) (mvT hZ (hw _ (List.mem_of_getElem? (i := 89) rfl)))) (by decide) (own_FnX39 hZ (own_lamFn LM own_fok rfl rfl (by decide +kernel) (hw _ (List.mem_of_getElem? (i := 89) rfl)))) (own_apply l Z a0 hw aF x1 o1 cK h n0 O LM E_x1 F_truncation_x1 hx hZ (W := 0) (by decide) (by decide)) (fun _ _ => rfl) (own_lamIs LM O eT) (g := (mkF m 21 #[.val (.ref a1), .val (.ref aF), .unset] [(.ref x1), (.ref aF)])) rfl (by rw [hml]; rfl) (Steps.refl _) (argsL := [(.ref x1)]) (rest := []) (lenOf own_pd1 rfl) rfl (by show 2 * 0 + _ ≤ _; exact Nat.le_of_eq rfl) (hb hby own_flatV_d21) (fun _ _ => ⟨rfl, eT, (by decide : 0 + 0 ≤ _), (by decide : 0 + 0 ≤ _)⟩)
  dsimp only [Pt.U, Pt.locs, Pt.cells, Pt.slots] at X lq yq zq st hQ
  subst lq yq zq
  obtain ⟨rfl, Nq, eT⟩ := hQ
  replace N := Fr.app N Nq
  refine own_viaT (g' := (mkF m 26 #[.val (.ref a1), .val (.ref aF), .unset] [(.ref o1)])) st ?_
  obtain ⟨T, X, eT, st⟩ := castY X hx hZ hown (hw _ (List.mem_of_getElem? (i := 80) rfl)) eT (Ins.self E_o1) (g := (mkF m 26 #[.val (.ref a1), .val (.ref aF), .unset] [(.ref o1)])) rfl rfl (hb hby own_flatV_d26)
  refine own_via (g' := (mkF m 29 #[.val (.ref a1), .val (.ref aF), .unset] [(.ref o1)])) st ?_
  refine own_via (T' := T) (g' := (mkF m 30 #[.val (.ref a1), .val (.ref aF), .val (.ref o1)] [])) (fun t_ k_ => XS.astoreN X.here hx rfl (hb hby own_flatV_d29) rfl rfl (l' := #[.val (.ref a1), .val (.ref aF), .val (.ref o1)]) rfl k_) ?_
  refine own_via (T' := T) (g' := (mkF m 31 #[.val (.ref a1), .val (.ref aF), .val (.ref o1)] [(.ref o1)])) (fun t_ k_ => XS.aloadN X.here hx rfl (hb hby own_flatV_d30) rfl rfl k_) ?_
  obtain ⟨_, _, ⟨T, Lq, kq, nq⟩, -, X, ⟨Lc, hQ, lq, yq, zq⟩, st⟩ := Jvm.LawKit.callS X hx (y := (⟨"java/util/Objects", "requireNonNull", "(Ljava/lang/Object;)Ljava/lang/Object;"⟩ : MethodName)) hown (mvT hZ (hw _ (List.mem_of_getElem? (i := 37) rfl))) (mvT hZ (hw _ (List.mem_of_getElem? (i := 38) rfl))) (mvT hZ (hw _ (List.mem_of_getElem? (i := 39) rfl))) (mvT hZ (hw _ (List.mem_of_getElem? (i := 40) rfl))) (by decide) (backOf (W := 0) (own_rnn l Z a0 hw [] o1 h n0 O ) hZ (hw _ (List.mem_of_getElem? (i := 40) rfl)) (hw _ (List.mem_of_getElem? (i := 39) rfl)) (by decide) (by decide)) (g := (mkF m 31 #[.val (.ref a1), .val (.ref aF), .val (.ref o1)] [(.ref o1)])) rfl (by rw [hml]; rfl) (argsL := [(.ref o1)]) (rest := []) (lenOf own_pd1 rfl) rfl (by show 2 * 0 + _ ≤ _; exact Nat.le_of_eq rfl) (hb hby own_flatV_d31) (fun _ _ => ⟨rfl, eT, (by decide : 0 + 0 ≤ _), (by decide : 0 + 0 ≤ _)⟩)
  dsimp only [Pt.U, Pt.locs, Pt.cells, Pt.slots] at X lq yq zq st hQ
  subst lq yq zq
  obtain ⟨rfl, Nq, eT⟩ := hQ
  replace N := Fr.app N Nq
  refine own_via (g' := (mkF m 34 #[.val (.ref a1), .val (.ref aF), .val (.ref o1)] [(.ref o1)])) st ?_
  obtain ⟨T, X, eT, st⟩ := castY X hx hZ hown (hw _ (List.mem_of_getElem? (i := 80) rfl)) eT (Ins.self E_o1) (g := (mkF m 34 #[.val (.ref a1), .val (.ref aF), .val (.ref o1)] [(.ref o1)])) rfl rfl (hb hby own_flatV_d34)
  refine own_via (g' := (mkF m 37 #[.val (.ref a1), .val (.ref aF), .val (.ref o1)] [(.ref o1)])) st ?_
  refine own_retW X hx hlk Bd.returns rfl (Or.inr (Or.inr (Or.inr (Or.inr ⟨rfl, rfl, rfl⟩)))) (hb hby own_flatV_d37) (by decide) (by decide) ?_
  rw [eT]
  exact ⟨rfl, N, hh0⟩
theorem own_tA_d0 : decode prog_3_method_4_code 0 = .ok (.aload_n 0, 1) := by decide +kernel
theorem own_tA_d1 : decode prog_3_method_4_code 1 = .ok (.getfield 7, 3) := by decide +kernel
theorem own_tA_d4 : decode prog_3_method_4_code 4 = .ok (.invokedynamic 64, 5) := by decide +kernel
theorem own_tA_d9 : decode prog_3_method_4_code 9 = .ok (.invokevirtual 65, 3) := by decide +kernel
theorem own_tA_d12 : decode prog_3_method_4_code 12 = .ok (.invokevirtual 68, 3) := by decide +kernel
theorem own_tA_d15 : decode prog_3_method_4_code 15 = .ok (.ireturn, 1) := by decide +kernel
theorem own_tA_pn : plainFor (⟨"com/example/wise_crawler/wisecrawler/crawl/Answer", "truncated", "()Z"⟩ : MethodName) = true := by first | exact plainFor_of_name (by first | (simp [plainName, overriddenIn]; done) | decide +kernel) | decide +kernel
theorem own_tA_ef (m : MethodId) (x0 : Addr) : entryFrame m #[(.ref x0)] 1 = mkF m 0 #[.val (.ref x0)] [] := by first | (simp [entryFrame, mkF, argsToLocals, Value.category]; done) | rfl
def own_tA_Q (Z : State) (a1 : Addr) (r1 : Addr) (aF : Addr) (cK : ClassId) (wEMPTY : Addr) (h0 : Heap) (n0 : Nat) (v : Option Value) (h : Heap) (L : List Loc) : Prop := v = some (.int (0 : Int32)) ∧ Fr n0 L ∧ h = h0
set_option maxRecDepth 65536 in
set_option maxHeartbeats 40000000 in
theorem own_tA (l : Launch) (Z : State) (a0 : Array Value) (hw : ∀ d ∈ tables_1, d.before a0 Z = true) (ws : List Jvm.Cond) (a1 : Addr) (r1 : Addr) (aF : Addr) (cK : ClassId) (wEMPTY : Addr) (h0 : Heap) (n0 : Nat) (O : Old Z n0 h0) (LM : own_Lam Z (⟨"com/example/wise_crawler/wisecrawler/crawl/Answer", "truncated", "()Z"⟩ : MethodName) 4 own_shape aF cK) (S_EMPTY : Sta Z Z.heap "java/util/Optional" "EMPTY" "Ljava/util/Optional;" (.ref wEMPTY)) (E_w : Exa Z Z.heap wEMPTY "java/util/Optional") (F_w : Fld Z Z.heap wEMPTY "java/util/Optional" "value" "Ljava/lang/Object;" .null) (F_response_a1 : Fld Z h0 a1 "com/example/wise_crawler/wisecrawler/crawl/Answer" "response" "Ljava/util/Optional;" (.ref r1)) (E_r1 : Exa Z h0 r1 "java/util/Optional") (F_value_r1 : Fld Z h0 r1 "java/util/Optional" "value" "Ljava/lang/Object;" .null) :
    MetFree l (⟨"com/example/wise_crawler/wisecrawler/crawl/Answer", "truncated", "()Z"⟩ : MethodName) (head1 (Jvm.Cond.code (⟨"com/example/wise_crawler/wisecrawler/crawl/Answer", "truncated", "()Z"⟩ : MethodName) prog_3_method_4_code 1 (some .boolean) :: ws) ({ frames := 2, cells := 0, slots := 0, locals := 3073 } : Room)) (fun a U => a = #[(.ref a1)] ∧ Z.Warmed39 U.vm ∧ U.heap = h0) (fun _ _ _ _ _ => True) (fun _ U o U' => ∃ v L, o = .returned v ∧ own_tA_Q Z a1 r1 aF cK wEMPTY h0 n0 v U'.heap L ∧ FrameEnd U o U' L ({ frames := 2, cells := 0, slots := 0, locals := 3073 } : Room).cells ({ frames := 2, cells := 0, slots := 0, locals := 3073 } : Room).slots) := by
  refine MetFree.of_bodySF own_tA_pn hisR ?_
  intro p e s m args below meth c s₁ Bd hml0 hP hK
  obtain ⟨rfl, hZ, hh⟩ := hP
  have hx := Bd.exec
  have hby := Bd.bytes
  have hlk := Bd.notSynchronized
  have hml : c.maxLocals = 1 := hml0
  have hown : s.vm.findClass "com/example/wise_crawler/wisecrawler/crawl/Answer" = some m.cls := findClass_of_methodNamed Bd.named
  have hnm := (name_of_methodNamed Bd.named Bd.method).1
  have X : Stand p l e ({ frames := 2, cells := 0, slots := 0, locals := 3073 } : Room) s m #[(.ref a1)] below meth c s₁ [] 0 0 := Stand.of_body Bd
  have eT : s₁.heap = h0 := by rw [← hh, Bd.state]; rfl
  have N := Fr.nil n0
  have K0 := Keep.refl h0 []
  show own_Ends p e below (own_Post s below (own_tA_Q Z a1 r1 aF cK wEMPTY h0 n0) ({ frames := 2, cells := 0, slots := 0, locals := 3073 } : Room).cells ({ frames := 2, cells := 0, slots := 0, locals := 3073 } : Room).slots) s₁ (entryFrame m #[(.ref a1)] 1)
  rw [own_tA_ef m a1]
  obtain ⟨T, hT⟩ : ∃ z, z = s₁ := ⟨_, rfl⟩
  rw [← hT] at X eT ⊢
  obtain ⟨h, hh0⟩ : ∃ z, z = h0 := ⟨_, rfl⟩
  rw [← hh0] at eT
  replace O : Old Z n0 h := by rw [hh0]; exact O
  replace K0 : Keep h0 h [] := by rw [hh0]; exact K0
  rw [← hh0] at F_response_a1
  rw [← hh0] at E_r1
  rw [← hh0] at F_value_r1
  refine own_via (T' := T) (g' := (mkF m 1 #[.val (.ref a1)] [(.ref a1)])) (fun t_ k_ => XS.aloadN X.here hx rfl (hb hby own_tA_d0) rfl rfl k_) ?_
  obtain ⟨T, X, eT, st⟩ := getF X hx hZ hown (host := "") (Or.inl (hw _ (List.mem_of_getElem? (i := 20) rfl))) Via.refl eT F_response_a1 (g := (mkF m 1 #[.val (.ref a1)] [(.ref a1)])) rfl rfl (hb hby own_tA_d1)
  refine own_via (g' := (mkF m 4 #[.val (.ref a1)] [(.ref r1)])) st ?_
  refine own_via (T' := T) (g' := (mkF m 9 #[.val (.ref a1)] [(.ref aF), (.ref r1)])) (fun t_ k_ => own_site X hx hZ (y := (⟨"com/example/wise_crawler/wisecrawler/crawl/Answer", "truncated", "()Z"⟩ : MethodName)) Bd.named LM (g := (mkF m 4 #[.val (.ref a1)] [(.ref r1)])) rfl rfl (by rw [hml]; rfl) (hb hby own_tA_d4) (Nat.le_of_ble_eq_true rfl) _ k_) ?_
  obtain ⟨cq, kq, qa, qb, qc⟩ := isOf hZ eT E_r1
  obtain ⟨_, _, ⟨T, Lq, kq, nq⟩, -, X, ⟨Lc, hQ, lq, yq, zq⟩, st⟩ := X.virtualBack hx (y := (⟨"java/util/Optional", "flatMap", "(Ljava/util/function/Function;)Ljava/util/Optional;"⟩ : MethodName)) (z := (⟨"java/util/Optional", "flatMap", "(Ljava/util/function/Function;)Ljava/util/Optional;"⟩ : MethodName)) hown (mvT hZ (hw _ (List.mem_of_getElem? (i := 32) rfl))) (mvT hZ (hw _ (List.mem_of_getElem? (i := 33) rfl))) (notFace_of_selects (args := #[]) (mvT hZ (hw _ (List.mem_of_getElem? (i := 35) rfl)))) (mvT hZ (hw _ (List.mem_of_getElem? (i := 35) rfl))) (mvT hZ (hw _ (List.mem_of_getElem? (i := 34) rfl))) (by decide) (backOf (W := 0) (own_flatN l Z a0 hw [] r1 aF cK wEMPTY h n0 O LM S_EMPTY E_r1 F_value_r1) hZ (hw _ (List.mem_of_getElem? (i := 36) rfl)) (hw _ (List.mem_of_getElem? (i := 3) rfl)) (by decide) (by decide)) qa qc (g := (mkF m 9 #[.val (.ref a1)] [(.ref aF), (.ref r1)])) rfl (by rw [hml]; rfl) (Steps.refl _) (argsL := [(.ref aF)]) (rest := []) (lenOf own_pd5 rfl) rfl (by show 2 * 0 + _ ≤ _; exact Nat.le_of_eq rfl) (hb hby own_tA_d9) (fun _ _ => ⟨rfl, eT, (by decide : 0 + 0 ≤ _), (by decide : 0 + 0 ≤ _)⟩)
  dsimp only [Pt.U, Pt.locs, Pt.cells, Pt.slots] at X lq yq zq st hQ
  subst lq yq zq
  obtain ⟨rfl, Nq, eT⟩ := hQ
  replace N := Fr.app N Nq
  refine own_viaT (g' := (mkF m 12 #[.val (.ref a1)] [(.ref wEMPTY)])) st ?_
  obtain ⟨cq, kq, qa, qb, qc⟩ := isOf hZ eT (E_w.ext O.2)
  obtain ⟨_, _, ⟨T, Lq, kq, nq⟩, -, X, ⟨Lc, hQ, lq, yq, zq⟩, st⟩ := X.virtualBack hx (y := (⟨"java/util/Optional", "isPresent", "()Z"⟩ : MethodName)) (z := (⟨"java/util/Optional", "isPresent", "()Z"⟩ : MethodName)) hown (mvT hZ (hw _ (List.mem_of_getElem? (i := 49) rfl))) (mvT hZ (hw _ (List.mem_of_getElem? (i := 50) rfl))) (notFace_of_selects (args := #[]) (mvT hZ (hw _ (List.mem_of_getElem? (i := 52) rfl)))) (mvT hZ (hw _ (List.mem_of_getElem? (i := 52) rfl))) (mvT hZ (hw _ (List.mem_of_getElem? (i := 51) rfl))) (by decide) (backOf (W := 0) (own_ispresentN l Z a0 hw [] wEMPTY h n0 O (F_w.ext O.2)) hZ (hw _ (List.mem_of_getElem? (i := 53) rfl)) (hw _ (List.mem_of_getElem? (i := 3) rfl)) (by decide) (by decide)) qa qc (g := (mkF m 12 #[.val (.ref a1)] [(.ref wEMPTY)])) rfl (by rw [hml]; rfl) (Steps.refl _) (argsL := []) (rest := []) (lenOf own_pd4 rfl) rfl (by show 2 * 0 + _ ≤ _; exact Nat.le_of_eq rfl) (hb hby own_tA_d12) (fun _ _ => ⟨rfl, eT, (by decide : 0 + 0 ≤ _), (by decide : 0 + 0 ≤ _)⟩)
  dsimp only [Pt.U, Pt.locs, Pt.cells, Pt.slots] at X lq yq zq st hQ
  subst lq yq zq
  obtain ⟨rfl, Nq, eT⟩ := hQ
  replace N := Fr.app N Nq
  refine own_viaT (g' := (mkF m 15 #[.val (.ref a1)] [(.int (0 : Int32))])) st ?_
  refine own_retN X hx hlk (t := .boolean) Bd.returns (by simp) (hb hby own_tA_d15) (by decide) (by decide) ?_
  rw [eT]
  exact ⟨rfl, N, hh0⟩
theorem own_tB_d0 : decode prog_3_method_4_code 0 = .ok (.aload_n 0, 1) := by decide +kernel
theorem own_tB_d1 : decode prog_3_method_4_code 1 = .ok (.getfield 7, 3) := by decide +kernel
theorem own_tB_d4 : decode prog_3_method_4_code 4 = .ok (.invokedynamic 64, 5) := by decide +kernel
theorem own_tB_d9 : decode prog_3_method_4_code 9 = .ok (.invokevirtual 65, 3) := by decide +kernel
theorem own_tB_d12 : decode prog_3_method_4_code 12 = .ok (.invokevirtual 68, 3) := by decide +kernel
theorem own_tB_d15 : decode prog_3_method_4_code 15 = .ok (.ireturn, 1) := by decide +kernel
theorem own_tB_pn : plainFor (⟨"com/example/wise_crawler/wisecrawler/crawl/Answer", "truncated", "()Z"⟩ : MethodName) = true := by first | exact plainFor_of_name (by first | (simp [plainName, overriddenIn]; done) | decide +kernel) | decide +kernel
theorem own_tB_ef (m : MethodId) (x0 : Addr) : entryFrame m #[(.ref x0)] 1 = mkF m 0 #[.val (.ref x0)] [] := by first | (simp [entryFrame, mkF, argsToLocals, Value.category]; done) | rfl
def own_tB_Q (Z : State) (a1 : Addr) (r1 : Addr) (aF : Addr) (cK : ClassId) (x1 : Addr) (o1 : Addr) (h0 : Heap) (n0 : Nat) (v : Option Value) (h : Heap) (L : List Loc) : Prop := v = some (.int (0 : Int32)) ∧ Fr n0 L ∧ h = h0
set_option maxRecDepth 65536 in
set_option maxHeartbeats 40000000 in
theorem own_tB (l : Launch) (Z : State) (a0 : Array Value) (hw : ∀ d ∈ tables_1, d.before a0 Z = true) (ws : List Jvm.Cond) (a1 : Addr) (r1 : Addr) (aF : Addr) (cK : ClassId) (x1 : Addr) (o1 : Addr) (h0 : Heap) (n0 : Nat) (O : Old Z n0 h0) (LM : own_Lam Z (⟨"com/example/wise_crawler/wisecrawler/crawl/Answer", "truncated", "()Z"⟩ : MethodName) 4 own_shape aF cK) (F_response_a1 : Fld Z h0 a1 "com/example/wise_crawler/wisecrawler/crawl/Answer" "response" "Ljava/util/Optional;" (.ref r1)) (E_r1 : Exa Z h0 r1 "java/util/Optional") (F_value_r1 : Fld Z h0 r1 "java/util/Optional" "value" "Ljava/lang/Object;" (.ref x1)) (E_x1 : Exa Z h0 x1 "com/example/wise_crawler/wisecrawler/fetch/Exchange") (F_truncation_x1 : Fld Z h0 x1 "com/example/wise_crawler/wisecrawler/fetch/Exchange" "truncation" "Ljava/util/Optional;" (.ref o1)) (E_o1 : Exa Z h0 o1 "java/util/Optional") (F_value_o1 : Fld Z h0 o1 "java/util/Optional" "value" "Ljava/lang/Object;" .null) :
    MetFree l (⟨"com/example/wise_crawler/wisecrawler/crawl/Answer", "truncated", "()Z"⟩ : MethodName) (head1 (Jvm.Cond.code (⟨"com/example/wise_crawler/wisecrawler/crawl/Answer", "truncated", "()Z"⟩ : MethodName) prog_3_method_4_code 1 (some .boolean) :: ws) ({ frames := 3, cells := 0, slots := 0, locals := 3073 } : Room)) (fun a U => a = #[(.ref a1)] ∧ Z.Warmed39 U.vm ∧ U.heap = h0) (fun _ _ _ _ _ => True) (fun _ U o U' => ∃ v L, o = .returned v ∧ own_tB_Q Z a1 r1 aF cK x1 o1 h0 n0 v U'.heap L ∧ FrameEnd U o U' L ({ frames := 3, cells := 0, slots := 0, locals := 3073 } : Room).cells ({ frames := 3, cells := 0, slots := 0, locals := 3073 } : Room).slots) := by
  refine MetFree.of_bodySF own_tB_pn hisR ?_
  intro p e s m args below meth c s₁ Bd hml0 hP hK
  obtain ⟨rfl, hZ, hh⟩ := hP
  have hx := Bd.exec
  have hby := Bd.bytes
  have hlk := Bd.notSynchronized
  have hml : c.maxLocals = 1 := hml0
  have hown : s.vm.findClass "com/example/wise_crawler/wisecrawler/crawl/Answer" = some m.cls := findClass_of_methodNamed Bd.named
  have hnm := (name_of_methodNamed Bd.named Bd.method).1
  have X : Stand p l e ({ frames := 3, cells := 0, slots := 0, locals := 3073 } : Room) s m #[(.ref a1)] below meth c s₁ [] 0 0 := Stand.of_body Bd
  have eT : s₁.heap = h0 := by rw [← hh, Bd.state]; rfl
  have N := Fr.nil n0
  have K0 := Keep.refl h0 []
  show own_Ends p e below (own_Post s below (own_tB_Q Z a1 r1 aF cK x1 o1 h0 n0) ({ frames := 3, cells := 0, slots := 0, locals := 3073 } : Room).cells ({ frames := 3, cells := 0, slots := 0, locals := 3073 } : Room).slots) s₁ (entryFrame m #[(.ref a1)] 1)
  rw [own_tB_ef m a1]
  obtain ⟨T, hT⟩ : ∃ z, z = s₁ := ⟨_, rfl⟩
  rw [← hT] at X eT ⊢
  obtain ⟨h, hh0⟩ : ∃ z, z = h0 := ⟨_, rfl⟩
  rw [← hh0] at eT
  replace O : Old Z n0 h := by rw [hh0]; exact O
  replace K0 : Keep h0 h [] := by rw [hh0]; exact K0
  rw [← hh0] at F_response_a1
  rw [← hh0] at E_r1
  rw [← hh0] at F_value_r1
  rw [← hh0] at E_x1
  rw [← hh0] at F_truncation_x1
  rw [← hh0] at E_o1
  rw [← hh0] at F_value_o1
  refine own_via (T' := T) (g' := (mkF m 1 #[.val (.ref a1)] [(.ref a1)])) (fun t_ k_ => XS.aloadN X.here hx rfl (hb hby own_tB_d0) rfl rfl k_) ?_
  obtain ⟨T, X, eT, st⟩ := getF X hx hZ hown (host := "") (Or.inl (hw _ (List.mem_of_getElem? (i := 20) rfl))) Via.refl eT F_response_a1 (g := (mkF m 1 #[.val (.ref a1)] [(.ref a1)])) rfl rfl (hb hby own_tB_d1)
  refine own_via (g' := (mkF m 4 #[.val (.ref a1)] [(.ref r1)])) st ?_
  refine own_via (T' := T) (g' := (mkF m 9 #[.val (.ref a1)] [(.ref aF), (.ref r1)])) (fun t_ k_ => own_site X hx hZ (y := (⟨"com/example/wise_crawler/wisecrawler/crawl/Answer", "truncated", "()Z"⟩ : MethodName)) Bd.named LM (g := (mkF m 4 #[.val (.ref a1)] [(.ref r1)])) rfl rfl (by rw [hml]; rfl) (hb hby own_tB_d4) (Nat.le_of_ble_eq_true rfl) _ k_) ?_
  obtain ⟨cq, kq, qa, qb, qc⟩ := isOf hZ eT E_r1
  obtain ⟨_, _, ⟨T, Lq, kq, nq⟩, -, X, ⟨Lc, hQ, lq, yq, zq⟩, st⟩ := X.virtualBack hx (y := (⟨"java/util/Optional", "flatMap", "(Ljava/util/function/Function;)Ljava/util/Optional;"⟩ : MethodName)) (z := (⟨"java/util/Optional", "flatMap", "(Ljava/util/function/Function;)Ljava/util/Optional;"⟩ : MethodName)) hown (mvT hZ (hw _ (List.mem_of_getElem? (i := 32) rfl))) (mvT hZ (hw _ (List.mem_of_getElem? (i := 33) rfl))) (notFace_of_selects (args := #[]) (mvT hZ (hw _ (List.mem_of_getElem? (i := 35) rfl)))) (mvT hZ (hw _ (List.mem_of_getElem? (i := 35) rfl))) (mvT hZ (hw _ (List.mem_of_getElem? (i := 34) rfl))) (by decide) (backOf (W := 0) (own_flatV l Z a0 hw [] r1 aF cK x1 o1 h n0 O LM E_r1 F_value_r1 E_x1 F_truncation_x1 E_o1) hZ (hw _ (List.mem_of_getElem? (i := 36) rfl)) (hw _ (List.mem_of_getElem? (i := 3) rfl)) (by decide) (by decide)) qa qc (g := (mkF m 9 #[.val (.ref a1)] [(.ref aF), (.ref r1)])) rfl (by rw [hml]; rfl) (Steps.refl _) (argsL := [(.ref aF)]) (rest := []) (lenOf own_pd5 rfl) rfl (by show 2 * 0 + _ ≤ _; exact Nat.le_of_eq rfl) (hb hby own_tB_d9) (fun _ _ => ⟨rfl, eT, (by decide : 0 + 0 ≤ _), (by decide : 0 + 0 ≤ _)⟩)
  dsimp only [Pt.U, Pt.locs, Pt.cells, Pt.slots] at X lq yq zq st hQ
  subst lq yq zq
  obtain ⟨rfl, Nq, eT⟩ := hQ
  replace N := Fr.app N Nq
  refine own_viaT (g' := (mkF m 12 #[.val (.ref a1)] [(.ref o1)])) st ?_
  obtain ⟨cq, kq, qa, qb, qc⟩ := isOf hZ eT E_o1
  obtain ⟨_, _, ⟨T, Lq, kq, nq⟩, -, X, ⟨Lc, hQ, lq, yq, zq⟩, st⟩ := X.virtualBack hx (y := (⟨"java/util/Optional", "isPresent", "()Z"⟩ : MethodName)) (z := (⟨"java/util/Optional", "isPresent", "()Z"⟩ : MethodName)) hown (mvT hZ (hw _ (List.mem_of_getElem? (i := 49) rfl))) (mvT hZ (hw _ (List.mem_of_getElem? (i := 50) rfl))) (notFace_of_selects (args := #[]) (mvT hZ (hw _ (List.mem_of_getElem? (i := 52) rfl)))) (mvT hZ (hw _ (List.mem_of_getElem? (i := 52) rfl))) (mvT hZ (hw _ (List.mem_of_getElem? (i := 51) rfl))) (by decide) (backOf (W := 0) (own_ispresentN l Z a0 hw [] o1 h n0 O F_value_o1) hZ (hw _ (List.mem_of_getElem? (i := 53) rfl)) (hw _ (List.mem_of_getElem? (i := 3) rfl)) (by decide) (by decide)) qa qc (g := (mkF m 12 #[.val (.ref a1)] [(.ref o1)])) rfl (by rw [hml]; rfl) (Steps.refl _) (argsL := []) (rest := []) (lenOf own_pd4 rfl) rfl (by show 2 * 0 + _ ≤ _; exact Nat.le_of_eq rfl) (hb hby own_tB_d12) (fun _ _ => ⟨rfl, eT, (by decide : 0 + 0 ≤ _), (by decide : 0 + 0 ≤ _)⟩)
  dsimp only [Pt.U, Pt.locs, Pt.cells, Pt.slots] at X lq yq zq st hQ
  subst lq yq zq
  obtain ⟨rfl, Nq, eT⟩ := hQ
  replace N := Fr.app N Nq
  refine own_viaT (g' := (mkF m 15 #[.val (.ref a1)] [(.int (0 : Int32))])) st ?_
  refine own_retN X hx hlk (t := .boolean) Bd.returns (by simp) (hb hby own_tB_d15) (by decide) (by decide) ?_
  rw [eT]
  exact ⟨rfl, N, hh0⟩
theorem own_tC_d0 : decode prog_3_method_4_code 0 = .ok (.aload_n 0, 1) := by decide +kernel
theorem own_tC_d1 : decode prog_3_method_4_code 1 = .ok (.getfield 7, 3) := by decide +kernel
theorem own_tC_d4 : decode prog_3_method_4_code 4 = .ok (.invokedynamic 64, 5) := by decide +kernel
theorem own_tC_d9 : decode prog_3_method_4_code 9 = .ok (.invokevirtual 65, 3) := by decide +kernel
theorem own_tC_d12 : decode prog_3_method_4_code 12 = .ok (.invokevirtual 68, 3) := by decide +kernel
theorem own_tC_d15 : decode prog_3_method_4_code 15 = .ok (.ireturn, 1) := by decide +kernel
theorem own_tC_pn : plainFor (⟨"com/example/wise_crawler/wisecrawler/crawl/Answer", "truncated", "()Z"⟩ : MethodName) = true := by first | exact plainFor_of_name (by first | (simp [plainName, overriddenIn]; done) | decide +kernel) | decide +kernel
theorem own_tC_ef (m : MethodId) (x0 : Addr) : entryFrame m #[(.ref x0)] 1 = mkF m 0 #[.val (.ref x0)] [] := by first | (simp [entryFrame, mkF, argsToLocals, Value.category]; done) | rfl
def own_tC_Q (Z : State) (a1 : Addr) (r1 : Addr) (aF : Addr) (cK : ClassId) (x1 : Addr) (o1 : Addr) (v2 : Addr) (h0 : Heap) (n0 : Nat) (v : Option Value) (h : Heap) (L : List Loc) : Prop := v = some (.int (1 : Int32)) ∧ Fr n0 L ∧ h = h0
set_option maxRecDepth 65536 in
set_option maxHeartbeats 40000000 in
theorem own_tC (l : Launch) (Z : State) (a0 : Array Value) (hw : ∀ d ∈ tables_1, d.before a0 Z = true) (ws : List Jvm.Cond) (a1 : Addr) (r1 : Addr) (aF : Addr) (cK : ClassId) (x1 : Addr) (o1 : Addr) (v2 : Addr) (h0 : Heap) (n0 : Nat) (O : Old Z n0 h0) (LM : own_Lam Z (⟨"com/example/wise_crawler/wisecrawler/crawl/Answer", "truncated", "()Z"⟩ : MethodName) 4 own_shape aF cK) (F_response_a1 : Fld Z h0 a1 "com/example/wise_crawler/wisecrawler/crawl/Answer" "response" "Ljava/util/Optional;" (.ref r1)) (E_r1 : Exa Z h0 r1 "java/util/Optional") (F_value_r1 : Fld Z h0 r1 "java/util/Optional" "value" "Ljava/lang/Object;" (.ref x1)) (E_x1 : Exa Z h0 x1 "com/example/wise_crawler/wisecrawler/fetch/Exchange") (F_truncation_x1 : Fld Z h0 x1 "com/example/wise_crawler/wisecrawler/fetch/Exchange" "truncation" "Ljava/util/Optional;" (.ref o1)) (E_o1 : Exa Z h0 o1 "java/util/Optional") (F_value_o1 : Fld Z h0 o1 "java/util/Optional" "value" "Ljava/lang/Object;" (.ref v2)) :
    MetFree l (⟨"com/example/wise_crawler/wisecrawler/crawl/Answer", "truncated", "()Z"⟩ : MethodName) (head1 (Jvm.Cond.code (⟨"com/example/wise_crawler/wisecrawler/crawl/Answer", "truncated", "()Z"⟩ : MethodName) prog_3_method_4_code 1 (some .boolean) :: ws) ({ frames := 3, cells := 0, slots := 0, locals := 3073 } : Room)) (fun a U => a = #[(.ref a1)] ∧ Z.Warmed39 U.vm ∧ U.heap = h0) (fun _ _ _ _ _ => True) (fun _ U o U' => ∃ v L, o = .returned v ∧ own_tC_Q Z a1 r1 aF cK x1 o1 v2 h0 n0 v U'.heap L ∧ FrameEnd U o U' L ({ frames := 3, cells := 0, slots := 0, locals := 3073 } : Room).cells ({ frames := 3, cells := 0, slots := 0, locals := 3073 } : Room).slots) := by
  refine MetFree.of_bodySF own_tC_pn hisR ?_
  intro p e s m args below meth c s₁ Bd hml0 hP hK
  obtain ⟨rfl, hZ, hh⟩ := hP
  have hx := Bd.exec
  have hby := Bd.bytes
  have hlk := Bd.notSynchronized
  have hml : c.maxLocals = 1 := hml0
  have hown : s.vm.findClass "com/example/wise_crawler/wisecrawler/crawl/Answer" = some m.cls := findClass_of_methodNamed Bd.named
  have hnm := (name_of_methodNamed Bd.named Bd.method).1
  have X : Stand p l e ({ frames := 3, cells := 0, slots := 0, locals := 3073 } : Room) s m #[(.ref a1)] below meth c s₁ [] 0 0 := Stand.of_body Bd
  have eT : s₁.heap = h0 := by rw [← hh, Bd.state]; rfl
  have N := Fr.nil n0
  have K0 := Keep.refl h0 []
  show own_Ends p e below (own_Post s below (own_tC_Q Z a1 r1 aF cK x1 o1 v2 h0 n0) ({ frames := 3, cells := 0, slots := 0, locals := 3073 } : Room).cells ({ frames := 3, cells := 0, slots := 0, locals := 3073 } : Room).slots) s₁ (entryFrame m #[(.ref a1)] 1)
  rw [own_tC_ef m a1]
  obtain ⟨T, hT⟩ : ∃ z, z = s₁ := ⟨_, rfl⟩
  rw [← hT] at X eT ⊢
  obtain ⟨h, hh0⟩ : ∃ z, z = h0 := ⟨_, rfl⟩
  rw [← hh0] at eT
  replace O : Old Z n0 h := by rw [hh0]; exact O
  replace K0 : Keep h0 h [] := by rw [hh0]; exact K0
  rw [← hh0] at F_response_a1
  rw [← hh0] at E_r1
  rw [← hh0] at F_value_r1
  rw [← hh0] at E_x1
  rw [← hh0] at F_truncation_x1
  rw [← hh0] at E_o1
  rw [← hh0] at F_value_o1
  refine own_via (T' := T) (g' := (mkF m 1 #[.val (.ref a1)] [(.ref a1)])) (fun t_ k_ => XS.aloadN X.here hx rfl (hb hby own_tC_d0) rfl rfl k_) ?_
  obtain ⟨T, X, eT, st⟩ := getF X hx hZ hown (host := "") (Or.inl (hw _ (List.mem_of_getElem? (i := 20) rfl))) Via.refl eT F_response_a1 (g := (mkF m 1 #[.val (.ref a1)] [(.ref a1)])) rfl rfl (hb hby own_tC_d1)
  refine own_via (g' := (mkF m 4 #[.val (.ref a1)] [(.ref r1)])) st ?_
  refine own_via (T' := T) (g' := (mkF m 9 #[.val (.ref a1)] [(.ref aF), (.ref r1)])) (fun t_ k_ => own_site X hx hZ (y := (⟨"com/example/wise_crawler/wisecrawler/crawl/Answer", "truncated", "()Z"⟩ : MethodName)) Bd.named LM (g := (mkF m 4 #[.val (.ref a1)] [(.ref r1)])) rfl rfl (by rw [hml]; rfl) (hb hby own_tC_d4) (Nat.le_of_ble_eq_true rfl) _ k_) ?_
  obtain ⟨cq, kq, qa, qb, qc⟩ := isOf hZ eT E_r1
  obtain ⟨_, _, ⟨T, Lq, kq, nq⟩, -, X, ⟨Lc, hQ, lq, yq, zq⟩, st⟩ := X.virtualBack hx (y := (⟨"java/util/Optional", "flatMap", "(Ljava/util/function/Function;)Ljava/util/Optional;"⟩ : MethodName)) (z := (⟨"java/util/Optional", "flatMap", "(Ljava/util/function/Function;)Ljava/util/Optional;"⟩ : MethodName)) hown (mvT hZ (hw _ (List.mem_of_getElem? (i := 32) rfl))) (mvT hZ (hw _ (List.mem_of_getElem? (i := 33) rfl))) (notFace_of_selects (args := #[]) (mvT hZ (hw _ (List.mem_of_getElem? (i := 35) rfl)))) (mvT hZ (hw _ (List.mem_of_getElem? (i := 35) rfl))) (mvT hZ (hw _ (List.mem_of_getElem? (i := 34) rfl))) (by decide) (backOf (W := 0) (own_flatV l Z a0 hw [] r1 aF cK x1 o1 h n0 O LM E_r1 F_value_r1 E_x1 F_truncation_x1 E_o1) hZ (hw _ (List.mem_of_getElem? (i := 36) rfl)) (hw _ (List.mem_of_getElem? (i := 3) rfl)) (by decide) (by decide)) qa qc (g := (mkF m 9 #[.val (.ref a1)] [(.ref aF), (.ref r1)])) rfl (by rw [hml]; rfl) (Steps.refl _) (argsL := [(.ref aF)]) (rest := []) (lenOf own_pd5 rfl) rfl (by show 2 * 0 + _ ≤ _; exact Nat.le_of_eq rfl) (hb hby own_tC_d9) (fun _ _ => ⟨rfl, eT, (by decide : 0 + 0 ≤ _), (by decide : 0 + 0 ≤ _)⟩)
  dsimp only [Pt.U, Pt.locs, Pt.cells, Pt.slots] at X lq yq zq st hQ
  subst lq yq zq
  obtain ⟨rfl, Nq, eT⟩ := hQ
  replace N := Fr.app N Nq
  refine own_viaT (g' := (mkF m 12 #[.val (.ref a1)] [(.ref o1)])) st ?_
  obtain ⟨cq, kq, qa, qb, qc⟩ := isOf hZ eT E_o1
  obtain ⟨_, _, ⟨T, Lq, kq, nq⟩, -, X, ⟨Lc, hQ, lq, yq, zq⟩, st⟩ := X.virtualBack hx (y := (⟨"java/util/Optional", "isPresent", "()Z"⟩ : MethodName)) (z := (⟨"java/util/Optional", "isPresent", "()Z"⟩ : MethodName)) hown (mvT hZ (hw _ (List.mem_of_getElem? (i := 49) rfl))) (mvT hZ (hw _ (List.mem_of_getElem? (i := 50) rfl))) (notFace_of_selects (args := #[]) (mvT hZ (hw _ (List.mem_of_getElem? (i := 52) rfl)))) (mvT hZ (hw _ (List.mem_of_getElem? (i := 52) rfl))) (mvT hZ (hw _ (List.mem_of_getElem? (i := 51) rfl))) (by decide) (backOf (W := 0) (own_ispresentV l Z a0 hw [] o1 v2 h n0 O F_value_o1) hZ (hw _ (List.mem_of_getElem? (i := 53) rfl)) (hw _ (List.mem_of_getElem? (i := 3) rfl)) (by decide) (by decide)) qa qc (g := (mkF m 12 #[.val (.ref a1)] [(.ref o1)])) rfl (by rw [hml]; rfl) (Steps.refl _) (argsL := []) (rest := []) (lenOf own_pd4 rfl) rfl (by show 2 * 0 + _ ≤ _; exact Nat.le_of_eq rfl) (hb hby own_tC_d12) (fun _ _ => ⟨rfl, eT, (by decide : 0 + 0 ≤ _), (by decide : 0 + 0 ≤ _)⟩)
  dsimp only [Pt.U, Pt.locs, Pt.cells, Pt.slots] at X lq yq zq st hQ
  subst lq yq zq
  obtain ⟨rfl, Nq, eT⟩ := hQ
  replace N := Fr.app N Nq
  refine own_viaT (g' := (mkF m 15 #[.val (.ref a1)] [(.int (1 : Int32))])) st ?_
  refine own_retN X hx hlk (t := .boolean) Bd.returns (by simp) (hb hby own_tC_d15) (by decide) (by decide) ?_
  rw [eT]
  exact ⟨rfl, N, hh0⟩
theorem own_law_pn : plainFor x = true := by first | exact plainFor_of_name (by first | (simp [plainName, overriddenIn]; done) | decide +kernel) | decide +kernel
theorem own_law_ef (m : MethodId) (x0 : Int32) (x1 : Int32) (x2 : Int32) : entryFrame m #[(.int x0), (.int x1), (.int x2)] maxLocals = mkF m 0 #[.val (.int x0), .val (.int x1), .val (.int x2), .unset, .unset, .unset, .unset, .unset, .unset] [] := by first | (simp [entryFrame, mkF, argsToLocals, Value.category, maxLocals]; done) | rfl
def own_law_Q (Z : State) (p0 : Int32) (p1 : Int32) (p2 : Int32) (aF : Addr) (cK : ClassId) (wEMPTY : Addr) (wLENGTH : Addr) (wTIME : Addr) (wDISCONNECT : Addr) (wUNSPECIFIED : Addr) (h0 : Heap) (n0 : Nat) (v : Option Value) (h : Heap) (L : List Loc) : Prop := v = some (.int (1 : Int32)) ∧ Fr n0 L ∧ True
set_option maxRecDepth 65536 in
set_option maxHeartbeats 40000000 in
theorem own_law (l : Launch) (Z : State) (a0 : Array Value) (hw : ∀ d ∈ tables_1, d.before a0 Z = true) (ws : List Jvm.Cond) (p0 : Int32) (p1 : Int32) (p2 : Int32) (aF : Addr) (cK : ClassId) (wEMPTY : Addr) (wLENGTH : Addr) (wTIME : Addr) (wDISCONNECT : Addr) (wUNSPECIFIED : Addr) (h0 : Heap) (n0 : Nat) (O : Old Z n0 h0) (LM : own_Lam Z (⟨"com/example/wise_crawler/wisecrawler/crawl/Answer", "truncated", "()Z"⟩ : MethodName) 4 own_shape aF cK) (S_EMPTY : Sta Z Z.heap "java/util/Optional" "EMPTY" "Ljava/util/Optional;" (.ref wEMPTY)) (E_w : Exa Z Z.heap wEMPTY "java/util/Optional") (F_w : Fld Z Z.heap wEMPTY "java/util/Optional" "value" "Ljava/lang/Object;" .null) (S_LENGTH : Sta Z Z.heap "com/example/wise_crawler/wisecrawler/fetch/Truncation" "LENGTH" "Lcom/example/wise_crawler/wisecrawler/fetch/Truncation;" (.ref wLENGTH)) (S_TIME : Sta Z Z.heap "com/example/wise_crawler/wisecrawler/fetch/Truncation" "TIME" "Lcom/example/wise_crawler/wisecrawler/fetch/Truncation;" (.ref wTIME)) (S_DISCONNECT : Sta Z Z.heap "com/example/wise_crawler/wisecrawler/fetch/Truncation" "DISCONNECT" "Lcom/example/wise_crawler/wisecrawler/fetch/Truncation;" (.ref wDISCONNECT)) (S_UNSPECIFIED : Sta Z Z.heap "com/example/wise_crawler/wisecrawler/fetch/Truncation" "UNSPECIFIED" "Lcom/example/wise_crawler/wisecrawler/fetch/Truncation;" (.ref wUNSPECIFIED)) :
    MetFree l x (head1 (Jvm.Cond.code x code maxLocals ret :: ws) room_1) (fun a U => a = #[(.int p0), (.int p1), (.int p2)] ∧ Z.Warmed39 U.vm ∧ U.heap = h0) (fun _ _ _ _ _ => True) (fun _ U o U' => ∃ v L, o = .returned v ∧ own_law_Q Z p0 p1 p2 aF cK wEMPTY wLENGTH wTIME wDISCONNECT wUNSPECIFIED h0 n0 v U'.heap L ∧ FrameEnd U o U' L room_1.cells room_1.slots) := by
  refine MetFree.of_bodySF own_law_pn hisR ?_
  intro p e s m args below meth c s₁ Bd hml0 hP hK
  obtain ⟨rfl, hZ, hh⟩ := hP
  have hx := Bd.exec
  have hby := Bd.bytes
  have hlk := Bd.notSynchronized
  have hml : c.maxLocals = 9 := hml0
  have hown : s.vm.findClass "com/example/wise_crawler/wisecrawler/crawl/AnswerTruncatedPinLaw" = some m.cls := findClass_of_methodNamed Bd.named
  have hnm := (name_of_methodNamed Bd.named Bd.method).1
  have X : Stand p l e room_1 s m #[(.int p0), (.int p1), (.int p2)] below meth c s₁ [] 0 0 := Stand.of_body Bd
  have eT : s₁.heap = h0 := by rw [← hh, Bd.state]; rfl
  have N := Fr.nil n0
  have K0 := Keep.refl h0 []
  show own_Ends p e below (own_Post s below (own_law_Q Z p0 p1 p2 aF cK wEMPTY wLENGTH wTIME wDISCONNECT wUNSPECIFIED h0 n0) room_1.cells room_1.slots) s₁ (entryFrame m #[(.int p0), (.int p1), (.int p2)] maxLocals)
  rw [own_law_ef m p0 p1 p2]
  obtain ⟨T, hT⟩ : ∃ z, z = s₁ := ⟨_, rfl⟩
  rw [← hT] at X eT ⊢
  obtain ⟨h, hh0⟩ : ∃ z, z = h0 := ⟨_, rfl⟩
  rw [← hh0] at eT
  replace O : Old Z n0 h := by rw [hh0]; exact O
  replace K0 : Keep h0 h [] := by rw [hh0]; exact K0
  refine own_via (T' := T) (g' := (mkF m 1 #[.val (.int p0), .val (.int p1), .val (.int p2), .unset, .unset, .unset, .unset, .unset, .unset] [(.int p0)])) (fun t_ k_ => XS.iloadN X.here hx rfl (hb hby at_0) rfl k_) ?_
  refine own_via (T' := T) (g' := (mkF m 3 #[.val (.int p0), .val (.int p1), .val (.int p2), .unset, .unset, .unset, .unset, .unset, .unset] [(.int (2147483647 : Int32)), (.int p0)])) (fun t_ k_ => X.ldcInt hx hown (mvT hZ (hw _ (List.mem_of_getElem? (i := 0) rfl))) (g := (mkF m 1 #[.val (.int p0), .val (.int p1), .val (.int p2), .unset, .unset, .unset, .unset, .unset, .unset] [(.int p0)])) rfl (hb hby at_1) _ k_) ?_
  refine own_via (T' := T) (g' := (mkF m 4 #[.val (.int p0), .val (.int p1), .val (.int p2), .unset, .unset, .unset, .unset, .unset, .unset] [(.int (p0 &&& (2147483647 : Int32)))])) (fun t_ k_ => XS.iand X.here hx rfl (hb hby at_3) rfl k_) ?_
  refine own_via (T' := T) (g' := (mkF m 6 #[.val (.int p0), .val (.int p1), .val (.int p2), .unset, .unset, .unset, .unset, .unset, .unset] [(.int (6 : Int32)), (.int (p0 &&& (2147483647 : Int32)))])) (fun t_ k_ => XS.bipush X.here hx rfl (hb hby at_4) k_) ?_
  refine own_via (T' := T) (g' := (mkF m 7 #[.val (.int p0), .val (.int p1), .val (.int p2), .unset, .unset, .unset, .unset, .unset, .unset] [(.int ((p0 &&& (2147483647 : Int32)) % (6 : Int32)))])) (fun t_ k_ => iremM (g := (mkF m 6 #[.val (.int p0), .val (.int p1), .val (.int p2), .unset, .unset, .unset, .unset, .unset, .unset] [(.int (6 : Int32)), (.int (p0 &&& (2147483647 : Int32)))])) X hx rfl (hb hby at_6) rfl (by decide) k_) ?_
  obtain ⟨k, hd_k⟩ : ∃ z, z = ((p0 &&& (2147483647 : Int32)) % (6 : Int32)) := ⟨_, rfl⟩
  rw [← hd_k]
  refine own_via (T' := T) (g' := (mkF m 8 #[.val (.int p0), .val (.int p1), .val (.int p2), .val (.int k), .unset, .unset, .unset, .unset, .unset] [])) (fun t_ k_ => XS.istoreN X.here hx rfl (hb hby at_7) rfl (l' := #[.val (.int p0), .val (.int p1), .val (.int p2), .val (.int k), .unset, .unset, .unset, .unset, .unset]) rfl k_) ?_
  refine own_via (T' := T) (g' := (mkF m 9 #[.val (.int p0), .val (.int p1), .val (.int p2), .val (.int k), .unset, .unset, .unset, .unset, .unset] [(.int p1)])) (fun t_ k_ => XS.iloadN X.here hx rfl (hb hby at_8) rfl k_) ?_
  refine own_via (T' := T) (g' := (mkF m 10 #[.val (.int p0), .val (.int p1), .val (.int p2), .val (.int k), .unset, .unset, .unset, .unset, .unset] [(.int (1 : Int32)), (.int p1)])) (fun t_ k_ => XS.iconst X.here hx rfl (hb hby at_9) k_) ?_
  refine own_via (T' := T) (g' := (mkF m 11 #[.val (.int p0), .val (.int p1), .val (.int p2), .val (.int k), .unset, .unset, .unset, .unset, .unset] [(.int (p1 &&& (1 : Int32)))])) (fun t_ k_ => XS.iand X.here hx rfl (hb hby at_10) rfl k_) ?_
  by_cases hc1 : (p1 &&& (1 : Int32)) = (0 : Int32)
  · refine own_via (T' := T) (g' := (mkF m 18 #[.val (.int p0), .val (.int p1), .val (.int p2), .val (.int k), .unset, .unset, .unset, .unset, .unset] [])) (fun t_ k_ => XS.ifYes X.here hx rfl (pc0 := 11) (pc' := 18) rfl (hb hby at_11) rfl ((if0 _ _).trans (teq hc1).1) (by decide) (by decide) k_) ?_
    refine own_via (T' := T) (g' := (mkF m 19 #[.val (.int p0), .val (.int p1), .val (.int p2), .val (.int k), .unset, .unset, .unset, .unset, .unset] [(.int (0 : Int32))])) (fun t_ k_ => XS.iconst X.here hx rfl (hb hby at_18) k_) ?_
    refine own_via (T' := T) (g' := (mkF m 21 #[.val (.int p0), .val (.int p1), .val (.int p2), .val (.int k), .val (.int (0 : Int32)), .unset, .unset, .unset, .unset] [])) (fun t_ k_ => XS.istore X.here hx rfl (hb hby at_19) rfl (l' := #[.val (.int p0), .val (.int p1), .val (.int p2), .val (.int k), .val (.int (0 : Int32)), .unset, .unset, .unset, .unset]) rfl k_) ?_
    refine own_via (T' := T) (g' := (mkF m 22 #[.val (.int p0), .val (.int p1), .val (.int p2), .val (.int k), .val (.int (0 : Int32)), .unset, .unset, .unset, .unset] [(.int k)])) (fun t_ k_ => XS.iloadN X.here hx rfl (hb hby at_21) rfl k_) ?_
    by_cases hc2 : k = (0 : Int32)
    · refine own_via (T' := T) (g' := (mkF m 25 #[.val (.int p0), .val (.int p1), .val (.int p2), .val (.int k), .val (.int (0 : Int32)), .unset, .unset, .unset, .unset] [])) (fun t_ k_ => XS.ifNo X.here hx rfl (hb hby at_22) rfl ((if0 _ _).trans (teq hc2).2) k_) ?_
      obtain ⟨_, _, ⟨T, Lq, kq, nq⟩, -, X, ⟨Lc, hQ, lq, yq, zq⟩, st⟩ := Jvm.LawKit.callS X hx (y := (⟨"java/util/Optional", "empty", "()Ljava/util/Optional;"⟩ : MethodName)) hown (mvT hZ (hw _ (List.mem_of_getElem? (i := 1) rfl))) (mvT hZ (hw _ (List.mem_of_getElem? (i := 2) rfl))) (mvT hZ (hw _ (List.mem_of_getElem? (i := 3) rfl))) (mvT hZ (hw _ (List.mem_of_getElem? (i := 4) rfl))) (by decide) (backOf (W := 0) (own_optempty l Z a0 hw [] wEMPTY h n0 O S_EMPTY) hZ (hw _ (List.mem_of_getElem? (i := 4) rfl)) (hw _ (List.mem_of_getElem? (i := 3) rfl)) (by decide) (by decide)) (g := (mkF m 25 #[.val (.int p0), .val (.int p1), .val (.int p2), .val (.int k), .val (.int (0 : Int32)), .unset, .unset, .unset, .unset] [])) rfl (by rw [hml]; rfl) (argsL := []) (rest := []) (lenOf own_pd3 rfl) rfl (by show 2 * 0 + _ ≤ _; exact Nat.le_of_eq rfl) (hb hby at_25) (fun _ _ => ⟨rfl, eT, (by decide : 0 + 0 ≤ _), (by decide : 0 + 0 ≤ _)⟩)
      dsimp only [Pt.U, Pt.locs, Pt.cells, Pt.slots] at X lq yq zq st hQ
      subst lq yq zq
      obtain ⟨rfl, Nq, eT⟩ := hQ
      replace N := Fr.app N Nq
      refine own_via (g' := (mkF m 28 #[.val (.int p0), .val (.int p1), .val (.int p2), .val (.int k), .val (.int (0 : Int32)), .unset, .unset, .unset, .unset] [(.ref wEMPTY)])) st ?_
      refine own_via (T' := T) (g' := (mkF m 30 #[.val (.int p0), .val (.int p1), .val (.int p2), .val (.int k), .val (.int (0 : Int32)), .val (.ref wEMPTY), .unset, .unset, .unset] [])) (fun t_ k_ => XS.astore X.here hx rfl (hb hby at_28) rfl rfl (l' := #[.val (.int p0), .val (.int p1), .val (.int p2), .val (.int k), .val (.int (0 : Int32)), .val (.ref wEMPTY), .unset, .unset, .unset]) rfl k_) ?_
      refine own_via (T' := T) (g' := (mkF m 31 #[.val (.int p0), .val (.int p1), .val (.int p2), .val (.int k), .val (.int (0 : Int32)), .val (.ref wEMPTY), .unset, .unset, .unset] [(.int (0 : Int32))])) (fun t_ k_ => XS.iconst X.here hx rfl (hb hby at_30) k_) ?_
      refine own_via (T' := T) (g' := (mkF m 33 #[.val (.int p0), .val (.int p1), .val (.int p2), .val (.int k), .val (.int (0 : Int32)), .val (.ref wEMPTY), .val (.int (0 : Int32)), .unset, .unset] [])) (fun t_ k_ => XS.istore X.here hx rfl (hb hby at_31) rfl (l' := #[.val (.int p0), .val (.int p1), .val (.int p2), .val (.int k), .val (.int (0 : Int32)), .val (.ref wEMPTY), .val (.int (0 : Int32)), .unset, .unset]) rfl k_) ?_
      refine own_via (T' := T) (g' := (mkF m 142 #[.val (.int p0), .val (.int p1), .val (.int p2), .val (.int k), .val (.int (0 : Int32)), .val (.ref wEMPTY), .val (.int (0 : Int32)), .unset, .unset] [])) (fun t_ k_ => XS.goto X.here hx rfl (pc0 := 33) (pc' := 142) rfl (hb hby at_33) (by decide) (by decide) k_) ?_
      obtain ⟨b3, gb⟩ : ∃ z, z = h.size := ⟨_, rfl⟩
      obtain ⟨T, h4, X, eT, E, E_b3, Dq, -, st⟩ := newO X hx hZ hown (hw _ (List.mem_of_getElem? (i := 6) rfl)) (hw _ (List.mem_of_getElem? (i := 7) rfl)) (hw _ (List.mem_of_getElem? (i := 8) rfl)) eT (g := (mkF m 142 #[.val (.int p0), .val (.int p1), .val (.int p2), .val (.int k), .val (.int (0 : Int32)), .val (.ref wEMPTY), .val (.int (0 : Int32)), .unset, .unset] [])) rfl (hb hby at_142) (by decide) (by decide)
      rw [← gb] at E_b3 Dq st
      have g_b3 : n0 ≤ b3 := Nat.le_trans (own_le O) (Nat.le_of_eq gb.symm)
      have sz_b3 : h0.size ≤ b3 := Nat.le_trans K0.1 (Nat.le_of_eq gb.symm)
      replace O := O.ext E
      replace K0 := K0.ext E
      have F_response_b3 : Fld Z h4 b3 "com/example/wise_crawler/wisecrawler/crawl/Answer" "response" "Ljava/util/Optional;" .null := Dq (Or.inr (hw _ (List.mem_of_getElem? (i := 21) rfl))) (ty := (.object "java/util/Optional")) (by decide)
      have F_timedOut_b3 : Fld Z h4 b3 "com/example/wise_crawler/wisecrawler/crawl/Answer" "timedOut" "Z" (.int (0 : Int32)) := Dq (Or.inr (hw _ (List.mem_of_getElem? (i := 23) rfl))) (ty := .boolean) (by decide)
      refine own_via (g' := (mkF m 145 #[.val (.int p0), .val (.int p1), .val (.int p2), .val (.int k), .val (.int (0 : Int32)), .val (.ref wEMPTY), .val (.int (0 : Int32)), .unset, .unset] [(.ref b3)])) st ?_
      refine own_via (T' := T) (g' := (mkF m 146 #[.val (.int p0), .val (.int p1), .val (.int p2), .val (.int k), .val (.int (0 : Int32)), .val (.ref wEMPTY), .val (.int (0 : Int32)), .unset, .unset] [(.ref b3), (.ref b3)])) (fun t_ k_ => XS.dup X.here hx rfl (hb hby at_145) rfl rfl k_) ?_
      refine own_via (T' := T) (g' := (mkF m 148 #[.val (.int p0), .val (.int p1), .val (.int p2), .val (.int k), .val (.int (0 : Int32)), .val (.ref wEMPTY), .val (.int (0 : Int32)), .unset, .unset] [(.ref wEMPTY), (.ref b3), (.ref b3)])) (fun t_ k_ => XS.aload X.here hx rfl (hb hby at_146) rfl rfl k_) ?_
      refine own_via (T' := T) (g' := (mkF m 150 #[.val (.int p0), .val (.int p1), .val (.int p2), .val (.int k), .val (.int (0 : Int32)), .val (.ref wEMPTY), .val (.int (0 : Int32)), .unset, .unset] [(.int (0 : Int32)), (.ref wEMPTY), (.ref b3), (.ref b3)])) (fun t_ k_ => XS.iload X.here hx rfl (hb hby at_148) rfl k_) ?_
      obtain ⟨_, _, ⟨T, Lq, kq, nq⟩, -, X, ⟨Lc, hQ, lq, yq, zq⟩, st⟩ := X.specialBack hx (y := (⟨"com/example/wise_crawler/wisecrawler/crawl/Answer", "<init>", "(Ljava/util/Optional;Z)V"⟩ : MethodName)) rfl hown (mvT hZ (hw _ (List.mem_of_getElem? (i := 9) rfl))) (mvT hZ (hw _ (List.mem_of_getElem? (i := 10) rfl))) (mvT hZ (hw _ (List.mem_of_getElem? (i := 11) rfl))) (by decide) (backOf (W := 1) (own_ansinit l Z a0 hw [] b3 wEMPTY (0 : Int32) h4 n0 O E_b3 F_response_b3 F_timedOut_b3 g_b3) hZ (hw _ (List.mem_of_getElem? (i := 11) rfl)) (hw _ (List.mem_of_getElem? (i := 8) rfl)) (by decide) (by decide)) (g := (mkF m 150 #[.val (.int p0), .val (.int p1), .val (.int p2), .val (.int k), .val (.int (0 : Int32)), .val (.ref wEMPTY), .val (.int (0 : Int32)), .unset, .unset] [(.int (0 : Int32)), (.ref wEMPTY), (.ref b3), (.ref b3)])) rfl (by rw [hml]; rfl) (Steps.refl _) (a := b3) (argsL := [(.ref wEMPTY), (.int (0 : Int32))]) (rest := [(.ref b3)]) (lenOf own_pd6 rfl) rfl (by show 2 * 0 + _ ≤ _; exact Nat.le_of_eq rfl) (hb hby at_150) (fun _ _ => ⟨rfl, eT, (by decide : 1 + 0 ≤ _), (by decide : 2 + 0 ≤ _)⟩)
      dsimp only [Pt.U, Pt.locs, Pt.cells, Pt.slots] at X lq yq zq st hQ
      subst lq yq zq
      obtain ⟨rfl, Nq, Kq, E_b3, F_response_b3⟩ := hQ
      replace N := Fr.app N Nq
      obtain ⟨h5, eT⟩ : ∃ z, T.heap = z := ⟨_, rfl⟩
      rw [eT] at Kq E_b3 F_response_b3
      replace O := O.keep Kq (allS g_b3 all0)
      replace K0 := K0.trans Kq (allS (Or.inr sz_b3) all0)
      refine own_viaT (g' := (mkF m 153 #[.val (.int p0), .val (.int p1), .val (.int p2), .val (.int k), .val (.int (0 : Int32)), .val (.ref wEMPTY), .val (.int (0 : Int32)), .unset, .unset] [(.ref b3)])) st ?_
      refine own_via (T' := T) (g' := (mkF m 155 #[.val (.int p0), .val (.int p1), .val (.int p2), .val (.int k), .val (.int (0 : Int32)), .val (.ref wEMPTY), .val (.int (0 : Int32)), .val (.ref b3), .unset] [])) (fun t_ k_ => XS.astore X.here hx rfl (hb hby at_153) rfl rfl (l' := #[.val (.int p0), .val (.int p1), .val (.int p2), .val (.int k), .val (.int (0 : Int32)), .val (.ref wEMPTY), .val (.int (0 : Int32)), .val (.ref b3), .unset]) rfl k_) ?_
      refine own_via (T' := T) (g' := (mkF m 157 #[.val (.int p0), .val (.int p1), .val (.int p2), .val (.int k), .val (.int (0 : Int32)), .val (.ref wEMPTY), .val (.int (0 : Int32)), .val (.ref b3), .unset] [(.ref b3)])) (fun t_ k_ => XS.aload X.here hx rfl (hb hby at_155) rfl rfl k_) ?_
      obtain ⟨cq, kq, qa, qb, qc⟩ := isOf hZ eT E_b3
      obtain ⟨_, _, ⟨T, Lq, kq, nq⟩, -, X, ⟨Lc, hQ, lq, yq, zq⟩, st⟩ := X.virtualBack hx (y := (⟨"com/example/wise_crawler/wisecrawler/crawl/Answer", "truncated", "()Z"⟩ : MethodName)) (z := (⟨"com/example/wise_crawler/wisecrawler/crawl/Answer", "truncated", "()Z"⟩ : MethodName)) hown (mvT hZ (hw _ (List.mem_of_getElem? (i := 24) rfl))) (mvT hZ (hw _ (List.mem_of_getElem? (i := 25) rfl))) (notFace_of_selects (args := #[]) (mvT hZ (hw _ (List.mem_of_getElem? (i := 27) rfl)))) (mvT hZ (hw _ (List.mem_of_getElem? (i := 27) rfl))) (mvT hZ (hw _ (List.mem_of_getElem? (i := 26) rfl))) (by decide) (backOf (W := 0) (own_tA l Z a0 hw [] b3 wEMPTY aF cK wEMPTY h5 n0 O LM S_EMPTY E_w F_w F_response_b3 (E_w.ext O.2) (F_w.ext O.2)) hZ (hw _ (List.mem_of_getElem? (i := 28) rfl)) (hw _ (List.mem_of_getElem? (i := 8) rfl)) (by decide) (by decide)) qa qc (g := (mkF m 157 #[.val (.int p0), .val (.int p1), .val (.int p2), .val (.int k), .val (.int (0 : Int32)), .val (.ref wEMPTY), .val (.int (0 : Int32)), .val (.ref b3), .unset] [(.ref b3)])) rfl (by rw [hml]; rfl) (Steps.refl _) (argsL := []) (rest := []) (lenOf own_pd4 rfl) rfl (by show 2 * 0 + _ ≤ _; exact Nat.le_of_eq rfl) (hb hby at_157) (fun _ _ => ⟨rfl, eT, (by decide : 1 + 0 ≤ _), (by decide : 2 + 0 ≤ _)⟩)
      dsimp only [Pt.U, Pt.locs, Pt.cells, Pt.slots] at X lq yq zq st hQ
      subst lq yq zq
      obtain ⟨rfl, Nq, eT⟩ := hQ
      replace N := Fr.app N Nq
      refine own_viaT (g' := (mkF m 160 #[.val (.int p0), .val (.int p1), .val (.int p2), .val (.int k), .val (.int (0 : Int32)), .val (.ref wEMPTY), .val (.int (0 : Int32)), .val (.ref b3), .unset] [(.int (0 : Int32))])) st ?_
      refine own_via (T' := T) (g' := (mkF m 162 #[.val (.int p0), .val (.int p1), .val (.int p2), .val (.int k), .val (.int (0 : Int32)), .val (.ref wEMPTY), .val (.int (0 : Int32)), .val (.ref b3), .unset] [(.int (0 : Int32)), (.int (0 : Int32))])) (fun t_ k_ => XS.iload X.here hx rfl (hb hby at_160) rfl k_) ?_
      refine own_via (T' := T) (g' := (mkF m 165 #[.val (.int p0), .val (.int p1), .val (.int p2), .val (.int k), .val (.int (0 : Int32)), .val (.ref wEMPTY), .val (.int (0 : Int32)), .val (.ref b3), .unset] [])) (fun t_ k_ => XS.icmpNo X.here hx rfl (hb hby at_162) rfl (teq (by decide : (0 : Int32) = (0 : Int32))).2 k_) ?_
      refine own_via (T' := T) (g' := (mkF m 166 #[.val (.int p0), .val (.int p1), .val (.int p2), .val (.int k), .val (.int (0 : Int32)), .val (.ref wEMPTY), .val (.int (0 : Int32)), .val (.ref b3), .unset] [(.int (1 : Int32))])) (fun t_ k_ => XS.iconst X.here hx rfl (hb hby at_165) k_) ?_
      refine own_via (T' := T) (g' := (mkF m 170 #[.val (.int p0), .val (.int p1), .val (.int p2), .val (.int k), .val (.int (0 : Int32)), .val (.ref wEMPTY), .val (.int (0 : Int32)), .val (.ref b3), .unset] [(.int (1 : Int32))])) (fun t_ k_ => XS.goto X.here hx rfl (pc0 := 166) (pc' := 170) rfl (hb hby at_166) (by decide) (by decide) k_) ?_
      refine own_retN X hx hlk (t := .boolean) Bd.returns (by simp) (hb hby at_170) (by decide) (by decide) ?_
      rw [eT]
      exact ⟨rfl, N, trivial⟩
    · refine own_via (T' := T) (g' := (mkF m 36 #[.val (.int p0), .val (.int p1), .val (.int p2), .val (.int k), .val (.int (0 : Int32)), .unset, .unset, .unset, .unset] [])) (fun t_ k_ => XS.ifYes X.here hx rfl (pc0 := 22) (pc' := 36) rfl (hb hby at_22) rfl ((if0 _ _).trans (feq hc2).2) (by decide) (by decide) k_) ?_
      refine own_via (T' := T) (g' := (mkF m 37 #[.val (.int p0), .val (.int p1), .val (.int p2), .val (.int k), .val (.int (0 : Int32)), .unset, .unset, .unset, .unset] [(.int k)])) (fun t_ k_ => XS.iloadN X.here hx rfl (hb hby at_36) rfl k_) ?_
      refine own_via (T' := T) (g' := (mkF m 38 #[.val (.int p0), .val (.int p1), .val (.int p2), .val (.int k), .val (.int (0 : Int32)), .unset, .unset, .unset, .unset] [(.int (1 : Int32)), (.int k)])) (fun t_ k_ => XS.iconst X.here hx rfl (hb hby at_37) k_) ?_
      by_cases hc6 : k = (1 : Int32)
      · refine own_via (T' := T) (g' := (mkF m 41 #[.val (.int p0), .val (.int p1), .val (.int p2), .val (.int k), .val (.int (0 : Int32)), .unset, .unset, .unset, .unset] [])) (fun t_ k_ => XS.icmpNo X.here hx rfl (hb hby at_38) rfl (teq hc6).2 k_) ?_
        obtain ⟨_, _, ⟨T, Lq, kq, nq⟩, -, X, ⟨Lc, hQ, lq, yq, zq⟩, st⟩ := Jvm.LawKit.callS X hx (y := (⟨"java/util/Optional", "empty", "()Ljava/util/Optional;"⟩ : MethodName)) hown (mvT hZ (hw _ (List.mem_of_getElem? (i := 1) rfl))) (mvT hZ (hw _ (List.mem_of_getElem? (i := 2) rfl))) (mvT hZ (hw _ (List.mem_of_getElem? (i := 3) rfl))) (mvT hZ (hw _ (List.mem_of_getElem? (i := 4) rfl))) (by decide) (backOf (W := 0) (own_optempty l Z a0 hw [] wEMPTY h n0 O S_EMPTY) hZ (hw _ (List.mem_of_getElem? (i := 4) rfl)) (hw _ (List.mem_of_getElem? (i := 3) rfl)) (by decide) (by decide)) (g := (mkF m 41 #[.val (.int p0), .val (.int p1), .val (.int p2), .val (.int k), .val (.int (0 : Int32)), .unset, .unset, .unset, .unset] [])) rfl (by rw [hml]; rfl) (argsL := []) (rest := []) (lenOf own_pd3 rfl) rfl (by show 2 * 0 + _ ≤ _; exact Nat.le_of_eq rfl) (hb hby at_41) (fun _ _ => ⟨rfl, eT, (by decide : 0 + 0 ≤ _), (by decide : 0 + 0 ≤ _)⟩)
        dsimp only [Pt.U, Pt.locs, Pt.cells, Pt.slots] at X lq yq zq st hQ
        subst lq yq zq
        obtain ⟨rfl, Nq, eT⟩ := hQ
        replace N := Fr.app N Nq
        refine own_via (g' := (mkF m 44 #[.val (.int p0), .val (.int p1), .val (.int p2), .val (.int k), .val (.int (0 : Int32)), .unset, .unset, .unset, .unset] [(.ref wEMPTY)])) st ?_
        refine own_via (T' := T) (g' := (mkF m 46 #[.val (.int p0), .val (.int p1), .val (.int p2), .val (.int k), .val (.int (0 : Int32)), .unset, .unset, .val (.ref wEMPTY), .unset] [])) (fun t_ k_ => XS.astore X.here hx rfl (hb hby at_44) rfl rfl (l' := #[.val (.int p0), .val (.int p1), .val (.int p2), .val (.int k), .val (.int (0 : Int32)), .unset, .unset, .val (.ref wEMPTY), .unset]) rfl k_) ?_
        refine own_via (T' := T) (g' := (mkF m 105 #[.val (.int p0), .val (.int p1), .val (.int p2), .val (.int k), .val (.int (0 : Int32)), .unset, .unset, .val (.ref wEMPTY), .unset] [])) (fun t_ k_ => XS.goto X.here hx rfl (pc0 := 46) (pc' := 105) rfl (hb hby at_46) (by decide) (by decide) k_) ?_
        obtain ⟨b7, gb⟩ : ∃ z, z = h.size := ⟨_, rfl⟩
        obtain ⟨T, h8, X, eT, E, E_b7, Dq, -, st⟩ := newO X hx hZ hown (hw _ (List.mem_of_getElem? (i := 54) rfl)) (hw _ (List.mem_of_getElem? (i := 55) rfl)) (hw _ (List.mem_of_getElem? (i := 56) rfl)) eT (g := (mkF m 105 #[.val (.int p0), .val (.int p1), .val (.int p2), .val (.int k), .val (.int (0 : Int32)), .unset, .unset, .val (.ref wEMPTY), .unset] [])) rfl (hb hby at_105) (by decide) (by decide)
        rw [← gb] at E_b7 Dq st
        have g_b7 : n0 ≤ b7 := Nat.le_trans (own_le O) (Nat.le_of_eq gb.symm)
        have sz_b7 : h0.size ≤ b7 := Nat.le_trans K0.1 (Nat.le_of_eq gb.symm)
        replace O := O.ext E
        replace K0 := K0.ext E
        have F_url_b7 : Fld Z h8 b7 "com/example/wise_crawler/wisecrawler/fetch/Exchange" "url" "Lcom/example/wise_crawler/wisecrawler/url/CanonicalUrl;" .null := Dq (Or.inr (hw _ (List.mem_of_getElem? (i := 62) rfl))) (ty := (.object "com/example/wise_crawler/wisecrawler/url/CanonicalUrl")) (by decide)
        have F_date_b7 : Fld Z h8 b7 "com/example/wise_crawler/wisecrawler/fetch/Exchange" "date" "Ljava/time/Instant;" .null := Dq (Or.inr (hw _ (List.mem_of_getElem? (i := 64) rfl))) (ty := (.object "java/time/Instant")) (by decide)
        have F_protocol_b7 : Fld Z h8 b7 "com/example/wise_crawler/wisecrawler/fetch/Exchange" "protocol" "Ljava/lang/String;" .null := Dq (Or.inr (hw _ (List.mem_of_getElem? (i := 66) rfl))) (ty := (.object "java/lang/String")) (by decide)
        have F_requestHeaders_b7 : Fld Z h8 b7 "com/example/wise_crawler/wisecrawler/fetch/Exchange" "requestHeaders" "Lcom/example/wise_crawler/wisecrawler/fetch/HeaderFields;" .null := Dq (Or.inr (hw _ (List.mem_of_getElem? (i := 68) rfl))) (ty := (.object "com/example/wise_crawler/wisecrawler/fetch/HeaderFields")) (by decide)
        have F_status_b7 : Fld Z h8 b7 "com/example/wise_crawler/wisecrawler/fetch/Exchange" "status" "I" (.int (0 : Int32)) := Dq (Or.inr (hw _ (List.mem_of_getElem? (i := 70) rfl))) (ty := .int) (by decide)
        have F_responseHeaders_b7 : Fld Z h8 b7 "com/example/wise_crawler/wisecrawler/fetch/Exchange" "responseHeaders" "Lcom/example/wise_crawler/wisecrawler/fetch/HeaderFields;" .null := Dq (Or.inr (hw _ (List.mem_of_getElem? (i := 72) rfl))) (ty := (.object "com/example/wise_crawler/wisecrawler/fetch/HeaderFields")) (by decide)
        have F_body_b7 : Fld Z h8 b7 "com/example/wise_crawler/wisecrawler/fetch/Exchange" "body" "Lcom/example/wise_crawler/wisecrawler/fetch/SpooledBytes;" .null := Dq (Or.inr (hw _ (List.mem_of_getElem? (i := 74) rfl))) (ty := (.object "com/example/wise_crawler/wisecrawler/fetch/SpooledBytes")) (by decide)
        have F_truncation_b7 : Fld Z h8 b7 "com/example/wise_crawler/wisecrawler/fetch/Exchange" "truncation" "Ljava/util/Optional;" .null := Dq (Or.inr (hw _ (List.mem_of_getElem? (i := 76) rfl))) (ty := (.object "java/util/Optional")) (by decide)
        refine own_via (g' := (mkF m 108 #[.val (.int p0), .val (.int p1), .val (.int p2), .val (.int k), .val (.int (0 : Int32)), .unset, .unset, .val (.ref wEMPTY), .unset] [(.ref b7)])) st ?_
        refine own_via (T' := T) (g' := (mkF m 109 #[.val (.int p0), .val (.int p1), .val (.int p2), .val (.int k), .val (.int (0 : Int32)), .unset, .unset, .val (.ref wEMPTY), .unset] [(.ref b7), (.ref b7)])) (fun t_ k_ => XS.dup X.here hx rfl (hb hby at_108) rfl rfl k_) ?_
        refine own_via (T' := T) (g' := (mkF m 110 #[.val (.int p0), .val (.int p1), .val (.int p2), .val (.int k), .val (.int (0 : Int32)), .unset, .unset, .val (.ref wEMPTY), .unset] [.null, (.ref b7), (.ref b7)])) (fun t_ k_ => XS.aconstNull X.here hx rfl (hb hby at_109) k_) ?_
        refine own_via (T' := T) (g' := (mkF m 111 #[.val (.int p0), .val (.int p1), .val (.int p2), .val (.int k), .val (.int (0 : Int32)), .unset, .unset, .val (.ref wEMPTY), .unset] [.null, .null, (.ref b7), (.ref b7)])) (fun t_ k_ => XS.aconstNull X.here hx rfl (hb hby at_110) k_) ?_
        refine own_via (T' := T) (g' := (mkF m 112 #[.val (.int p0), .val (.int p1), .val (.int p2), .val (.int k), .val (.int (0 : Int32)), .unset, .unset, .val (.ref wEMPTY), .unset] [.null, .null, .null, (.ref b7), (.ref b7)])) (fun t_ k_ => XS.aconstNull X.here hx rfl (hb hby at_111) k_) ?_
        refine own_via (T' := T) (g' := (mkF m 113 #[.val (.int p0), .val (.int p1), .val (.int p2), .val (.int k), .val (.int (0 : Int32)), .unset, .unset, .val (.ref wEMPTY), .unset] [.null, .null, .null, .null, (.ref b7), (.ref b7)])) (fun t_ k_ => XS.aconstNull X.here hx rfl (hb hby at_112) k_) ?_
        refine own_via (T' := T) (g' := (mkF m 114 #[.val (.int p0), .val (.int p1), .val (.int p2), .val (.int k), .val (.int (0 : Int32)), .unset, .unset, .val (.ref wEMPTY), .unset] [(.int p2), .null, .null, .null, .null, (.ref b7), (.ref b7)])) (fun t_ k_ => XS.iloadN X.here hx rfl (hb hby at_113) rfl k_) ?_
        refine own_via (T' := T) (g' := (mkF m 115 #[.val (.int p0), .val (.int p1), .val (.int p2), .val (.int k), .val (.int (0 : Int32)), .unset, .unset, .val (.ref wEMPTY), .unset] [.null, (.int p2), .null, .null, .null, .null, (.ref b7), (.ref b7)])) (fun t_ k_ => XS.aconstNull X.here hx rfl (hb hby at_114) k_) ?_
        refine own_via (T' := T) (g' := (mkF m 116 #[.val (.int p0), .val (.int p1), .val (.int p2), .val (.int k), .val (.int (0 : Int32)), .unset, .unset, .val (.ref wEMPTY), .unset] [.null, .null, (.int p2), .null, .null, .null, .null, (.ref b7), (.ref b7)])) (fun t_ k_ => XS.aconstNull X.here hx rfl (hb hby at_115) k_) ?_
        refine own_via (T' := T) (g' := (mkF m 118 #[.val (.int p0), .val (.int p1), .val (.int p2), .val (.int k), .val (.int (0 : Int32)), .unset, .unset, .val (.ref wEMPTY), .unset] [(.ref wEMPTY), .null, .null, (.int p2), .null, .null, .null, .null, (.ref b7), (.ref b7)])) (fun t_ k_ => XS.aload X.here hx rfl (hb hby at_116) rfl rfl k_) ?_
        obtain ⟨_, _, ⟨T, Lq, kq, nq⟩, -, X, ⟨Lc, hQ, lq, yq, zq⟩, st⟩ := X.specialBack hx (y := (⟨"com/example/wise_crawler/wisecrawler/fetch/Exchange", "<init>", "(Lcom/example/wise_crawler/wisecrawler/url/CanonicalUrl;Ljava/time/Instant;Ljava/lang/String;Lcom/example/wise_crawler/wisecrawler/fetch/HeaderFields;ILcom/example/wise_crawler/wisecrawler/fetch/HeaderFields;Lcom/example/wise_crawler/wisecrawler/fetch/SpooledBytes;Ljava/util/Optional;)V"⟩ : MethodName)) rfl hown (mvT hZ (hw _ (List.mem_of_getElem? (i := 57) rfl))) (mvT hZ (hw _ (List.mem_of_getElem? (i := 58) rfl))) (mvT hZ (hw _ (List.mem_of_getElem? (i := 59) rfl))) (by decide) (backOf (W := 1) (own_exch l Z a0 hw [] b7 p2 wEMPTY h8 n0 O E_b7 F_url_b7 F_date_b7 F_protocol_b7 F_requestHeaders_b7 F_status_b7 F_responseHeaders_b7 F_body_b7 F_truncation_b7 g_b7) hZ (hw _ (List.mem_of_getElem? (i := 59) rfl)) (hw _ (List.mem_of_getElem? (i := 56) rfl)) (by decide) (by decide)) (g := (mkF m 118 #[.val (.int p0), .val (.int p1), .val (.int p2), .val (.int k), .val (.int (0 : Int32)), .unset, .unset, .val (.ref wEMPTY), .unset] [(.ref wEMPTY), .null, .null, (.int p2), .null, .null, .null, .null, (.ref b7), (.ref b7)])) rfl (by rw [hml]; rfl) (Steps.refl _) (a := b7) (argsL := [.null, .null, .null, .null, (.int p2), .null, .null, (.ref wEMPTY)]) (rest := [(.ref b7)]) (lenOf own_pd7 rfl) rfl (by show 2 * 0 + _ ≤ _; exact Nat.le_of_eq rfl) (hb hby at_118) (fun _ _ => ⟨rfl, eT, (by decide : 1 + 0 ≤ _), (by decide : 8 + 0 ≤ _)⟩)
        dsimp only [Pt.U, Pt.locs, Pt.cells, Pt.slots] at X lq yq zq st hQ
        subst lq yq zq
        obtain ⟨rfl, Nq, Kq, E_b7, F_truncation_b7⟩ := hQ
        replace N := Fr.app N Nq
        obtain ⟨h9, eT⟩ : ∃ z, T.heap = z := ⟨_, rfl⟩
        rw [eT] at Kq E_b7 F_truncation_b7
        replace O := O.keep Kq (allS g_b7 all0)
        replace K0 := K0.trans Kq (allS (Or.inr sz_b7) all0)
        refine own_viaT (g' := (mkF m 121 #[.val (.int p0), .val (.int p1), .val (.int p2), .val (.int k), .val (.int (0 : Int32)), .unset, .unset, .val (.ref wEMPTY), .unset] [(.ref b7)])) st ?_
        refine own_via (T' := T) (g' := (mkF m 123 #[.val (.int p0), .val (.int p1), .val (.int p2), .val (.int k), .val (.int (0 : Int32)), .unset, .unset, .val (.ref wEMPTY), .val (.ref b7)] [])) (fun t_ k_ => XS.astore X.here hx rfl (hb hby at_121) rfl rfl (l' := #[.val (.int p0), .val (.int p1), .val (.int p2), .val (.int k), .val (.int (0 : Int32)), .unset, .unset, .val (.ref wEMPTY), .val (.ref b7)]) rfl k_) ?_
        refine own_via (T' := T) (g' := (mkF m 125 #[.val (.int p0), .val (.int p1), .val (.int p2), .val (.int k), .val (.int (0 : Int32)), .unset, .unset, .val (.ref wEMPTY), .val (.ref b7)] [(.ref b7)])) (fun t_ k_ => XS.aload X.here hx rfl (hb hby at_123) rfl rfl k_) ?_
        obtain ⟨_, _, ⟨T, Lq, kq, nq⟩, -, X, ⟨Lc, hQ, lq, yq, zq⟩, st⟩ := Jvm.LawKit.callS X hx (y := (⟨"java/util/Optional", "of", "(Ljava/lang/Object;)Ljava/util/Optional;"⟩ : MethodName)) hown (mvT hZ (hw _ (List.mem_of_getElem? (i := 77) rfl))) (mvT hZ (hw _ (List.mem_of_getElem? (i := 78) rfl))) (mvT hZ (hw _ (List.mem_of_getElem? (i := 3) rfl))) (mvT hZ (hw _ (List.mem_of_getElem? (i := 79) rfl))) (by decide) (backOf (W := 0) (own_optof l Z a0 hw [] b7 h9 n0 O ) hZ (hw _ (List.mem_of_getElem? (i := 79) rfl)) (hw _ (List.mem_of_getElem? (i := 3) rfl)) (by decide) (by decide)) (g := (mkF m 125 #[.val (.int p0), .val (.int p1), .val (.int p2), .val (.int k), .val (.int (0 : Int32)), .unset, .unset, .val (.ref wEMPTY), .val (.ref b7)] [(.ref b7)])) rfl (by rw [hml]; rfl) (argsL := [(.ref b7)]) (rest := []) (lenOf own_pd8 rfl) rfl (by show 2 * 0 + _ ≤ _; exact Nat.le_of_eq rfl) (hb hby at_125) (fun _ _ => ⟨rfl, eT, (by decide : 1 + 1 ≤ _), (by decide : 8 + 1 ≤ _)⟩)
        dsimp only [Pt.U, Pt.locs, Pt.cells, Pt.slots] at X lq yq zq st hQ
        subst lq yq zq
        obtain ⟨r10, rfl, Nq, Kq, szq, E_r10, F_value_r10⟩ := hQ
        replace N := Fr.app N Nq
        obtain ⟨h11, eT⟩ : ∃ z, T.heap = z := ⟨_, rfl⟩
        rw [eT] at Kq E_r10 F_value_r10
        have ne_b7_r10 : b7 ≠ r10 := Nat.ne_of_lt (Nat.lt_of_lt_of_le E_b7.lt szq)
        have g_r10 : n0 ≤ r10 := Nat.le_trans (own_le O) szq
        have sz_r10 : h0.size ≤ r10 := Nat.le_trans K0.1 szq
        replace E_b7 := E_b7.keep Kq
        replace F_truncation_b7 := F_truncation_b7.keep Kq nin0
        replace O := O.keep Kq all0
        replace K0 := K0.trans Kq all0
        refine own_via (g' := (mkF m 128 #[.val (.int p0), .val (.int p1), .val (.int p2), .val (.int k), .val (.int (0 : Int32)), .unset, .unset, .val (.ref wEMPTY), .val (.ref b7)] [(.ref r10)])) st ?_
        refine own_via (T' := T) (g' := (mkF m 130 #[.val (.int p0), .val (.int p1), .val (.int p2), .val (.int k), .val (.int (0 : Int32)), .val (.ref r10), .unset, .val (.ref wEMPTY), .val (.ref b7)] [])) (fun t_ k_ => XS.astore X.here hx rfl (hb hby at_128) rfl rfl (l' := #[.val (.int p0), .val (.int p1), .val (.int p2), .val (.int k), .val (.int (0 : Int32)), .val (.ref r10), .unset, .val (.ref wEMPTY), .val (.ref b7)]) rfl k_) ?_
        refine own_via (T' := T) (g' := (mkF m 131 #[.val (.int p0), .val (.int p1), .val (.int p2), .val (.int k), .val (.int (0 : Int32)), .val (.ref r10), .unset, .val (.ref wEMPTY), .val (.ref b7)] [(.int k)])) (fun t_ k_ => XS.iloadN X.here hx rfl (hb hby at_130) rfl k_) ?_
        refine own_via (T' := T) (g' := (mkF m 132 #[.val (.int p0), .val (.int p1), .val (.int p2), .val (.int k), .val (.int (0 : Int32)), .val (.ref r10), .unset, .val (.ref wEMPTY), .val (.ref b7)] [(.int (1 : Int32)), (.int k)])) (fun t_ k_ => XS.iconst X.here hx rfl (hb hby at_131) k_) ?_
        refine own_via (T' := T) (g' := (mkF m 139 #[.val (.int p0), .val (.int p1), .val (.int p2), .val (.int k), .val (.int (0 : Int32)), .val (.ref r10), .unset, .val (.ref wEMPTY), .val (.ref b7)] [])) (fun t_ k_ => XS.icmpYes X.here hx rfl (pc0 := 132) (pc' := 139) rfl (hb hby at_132) rfl (teq hc6).1 (by decide) (by decide) k_) ?_
        refine own_via (T' := T) (g' := (mkF m 140 #[.val (.int p0), .val (.int p1), .val (.int p2), .val (.int k), .val (.int (0 : Int32)), .val (.ref r10), .unset, .val (.ref wEMPTY), .val (.ref b7)] [(.int (0 : Int32))])) (fun t_ k_ => XS.iconst X.here hx rfl (hb hby at_139) k_) ?_
        refine own_via (T' := T) (g' := (mkF m 142 #[.val (.int p0), .val (.int p1), .val (.int p2), .val (.int k), .val (.int (0 : Int32)), .val (.ref r10), .val (.int (0 : Int32)), .val (.ref wEMPTY), .val (.ref b7)] [])) (fun t_ k_ => XS.istore X.here hx rfl (hb hby at_140) rfl (l' := #[.val (.int p0), .val (.int p1), .val (.int p2), .val (.int k), .val (.int (0 : Int32)), .val (.ref r10), .val (.int (0 : Int32)), .val (.ref wEMPTY), .val (.ref b7)]) rfl k_) ?_
        obtain ⟨b12, gb⟩ : ∃ z, z = h11.size := ⟨_, rfl⟩
        obtain ⟨T, h13, X, eT, E, E_b12, Dq, -, st⟩ := newO X hx hZ hown (hw _ (List.mem_of_getElem? (i := 6) rfl)) (hw _ (List.mem_of_getElem? (i := 7) rfl)) (hw _ (List.mem_of_getElem? (i := 8) rfl)) eT (g := (mkF m 142 #[.val (.int p0), .val (.int p1), .val (.int p2), .val (.int k), .val (.int (0 : Int32)), .val (.ref r10), .val (.int (0 : Int32)), .val (.ref wEMPTY), .val (.ref b7)] [])) rfl (hb hby at_142) (by decide) (by decide)
        rw [← gb] at E_b12 Dq st
        have ne_b7_b12 : b7 ≠ b12 := Nat.ne_of_lt (Nat.lt_of_lt_of_le E_b7.lt (Nat.le_of_eq gb.symm))
        have ne_r10_b12 : r10 ≠ b12 := Nat.ne_of_lt (Nat.lt_of_lt_of_le E_r10.lt (Nat.le_of_eq gb.symm))
        have g_b12 : n0 ≤ b12 := Nat.le_trans (own_le O) (Nat.le_of_eq gb.symm)
        have sz_b12 : h0.size ≤ b12 := Nat.le_trans K0.1 (Nat.le_of_eq gb.symm)
        replace E_b7 := E_b7.ext E
        replace F_truncation_b7 := F_truncation_b7.ext E
        replace E_r10 := E_r10.ext E
        replace F_value_r10 := F_value_r10.ext E
        replace O := O.ext E
        replace K0 := K0.ext E
        have F_response_b12 : Fld Z h13 b12 "com/example/wise_crawler/wisecrawler/crawl/Answer" "response" "Ljava/util/Optional;" .null := Dq (Or.inr (hw _ (List.mem_of_getElem? (i := 21) rfl))) (ty := (.object "java/util/Optional")) (by decide)
        have F_timedOut_b12 : Fld Z h13 b12 "com/example/wise_crawler/wisecrawler/crawl/Answer" "timedOut" "Z" (.int (0 : Int32)) := Dq (Or.inr (hw _ (List.mem_of_getElem? (i := 23) rfl))) (ty := .boolean) (by decide)
        refine own_via (g' := (mkF m 145 #[.val (.int p0), .val (.int p1), .val (.int p2), .val (.int k), .val (.int (0 : Int32)), .val (.ref r10), .val (.int (0 : Int32)), .val (.ref wEMPTY), .val (.ref b7)] [(.ref b12)])) st ?_
        refine own_via (T' := T) (g' := (mkF m 146 #[.val (.int p0), .val (.int p1), .val (.int p2), .val (.int k), .val (.int (0 : Int32)), .val (.ref r10), .val (.int (0 : Int32)), .val (.ref wEMPTY), .val (.ref b7)] [(.ref b12), (.ref b12)])) (fun t_ k_ => XS.dup X.here hx rfl (hb hby at_145) rfl rfl k_) ?_
        refine own_via (T' := T) (g' := (mkF m 148 #[.val (.int p0), .val (.int p1), .val (.int p2), .val (.int k), .val (.int (0 : Int32)), .val (.ref r10), .val (.int (0 : Int32)), .val (.ref wEMPTY), .val (.ref b7)] [(.ref r10), (.ref b12), (.ref b12)])) (fun t_ k_ => XS.aload X.here hx rfl (hb hby at_146) rfl rfl k_) ?_
        refine own_via (T' := T) (g' := (mkF m 150 #[.val (.int p0), .val (.int p1), .val (.int p2), .val (.int k), .val (.int (0 : Int32)), .val (.ref r10), .val (.int (0 : Int32)), .val (.ref wEMPTY), .val (.ref b7)] [(.int (0 : Int32)), (.ref r10), (.ref b12), (.ref b12)])) (fun t_ k_ => XS.iload X.here hx rfl (hb hby at_148) rfl k_) ?_
        obtain ⟨_, _, ⟨T, Lq, kq, nq⟩, -, X, ⟨Lc, hQ, lq, yq, zq⟩, st⟩ := X.specialBack hx (y := (⟨"com/example/wise_crawler/wisecrawler/crawl/Answer", "<init>", "(Ljava/util/Optional;Z)V"⟩ : MethodName)) rfl hown (mvT hZ (hw _ (List.mem_of_getElem? (i := 9) rfl))) (mvT hZ (hw _ (List.mem_of_getElem? (i := 10) rfl))) (mvT hZ (hw _ (List.mem_of_getElem? (i := 11) rfl))) (by decide) (backOf (W := 1) (own_ansinit l Z a0 hw [] b12 r10 (0 : Int32) h13 n0 O E_b12 F_response_b12 F_timedOut_b12 g_b12) hZ (hw _ (List.mem_of_getElem? (i := 11) rfl)) (hw _ (List.mem_of_getElem? (i := 8) rfl)) (by decide) (by decide)) (g := (mkF m 150 #[.val (.int p0), .val (.int p1), .val (.int p2), .val (.int k), .val (.int (0 : Int32)), .val (.ref r10), .val (.int (0 : Int32)), .val (.ref wEMPTY), .val (.ref b7)] [(.int (0 : Int32)), (.ref r10), (.ref b12), (.ref b12)])) rfl (by rw [hml]; rfl) (Steps.refl _) (a := b12) (argsL := [(.ref r10), (.int (0 : Int32))]) (rest := [(.ref b12)]) (lenOf own_pd6 rfl) rfl (by show 2 * 0 + _ ≤ _; exact Nat.le_of_eq rfl) (hb hby at_150) (fun _ _ => ⟨rfl, eT, (by decide : 3 + 0 ≤ _), (by decide : 11 + 0 ≤ _)⟩)
        dsimp only [Pt.U, Pt.locs, Pt.cells, Pt.slots] at X lq yq zq st hQ
        subst lq yq zq
        obtain ⟨rfl, Nq, Kq, E_b12, F_response_b12⟩ := hQ
        replace N := Fr.app N Nq
        obtain ⟨h14, eT⟩ : ∃ z, T.heap = z := ⟨_, rfl⟩
        rw [eT] at Kq E_b12 F_response_b12
        replace E_b7 := E_b7.keep Kq
        replace F_truncation_b7 := F_truncation_b7.keep Kq (ninS ne_b7_b12 nin0)
        replace E_r10 := E_r10.keep Kq
        replace F_value_r10 := F_value_r10.keep Kq (ninS ne_r10_b12 nin0)
        replace O := O.keep Kq (allS g_b12 all0)
        replace K0 := K0.trans Kq (allS (Or.inr sz_b12) all0)
        refine own_viaT (g' := (mkF m 153 #[.val (.int p0), .val (.int p1), .val (.int p2), .val (.int k), .val (.int (0 : Int32)), .val (.ref r10), .val (.int (0 : Int32)), .val (.ref wEMPTY), .val (.ref b7)] [(.ref b12)])) st ?_
        refine own_via (T' := T) (g' := (mkF m 155 #[.val (.int p0), .val (.int p1), .val (.int p2), .val (.int k), .val (.int (0 : Int32)), .val (.ref r10), .val (.int (0 : Int32)), .val (.ref b12), .val (.ref b7)] [])) (fun t_ k_ => XS.astore X.here hx rfl (hb hby at_153) rfl rfl (l' := #[.val (.int p0), .val (.int p1), .val (.int p2), .val (.int k), .val (.int (0 : Int32)), .val (.ref r10), .val (.int (0 : Int32)), .val (.ref b12), .val (.ref b7)]) rfl k_) ?_
        refine own_via (T' := T) (g' := (mkF m 157 #[.val (.int p0), .val (.int p1), .val (.int p2), .val (.int k), .val (.int (0 : Int32)), .val (.ref r10), .val (.int (0 : Int32)), .val (.ref b12), .val (.ref b7)] [(.ref b12)])) (fun t_ k_ => XS.aload X.here hx rfl (hb hby at_155) rfl rfl k_) ?_
        obtain ⟨cq, kq, qa, qb, qc⟩ := isOf hZ eT E_b12
        obtain ⟨_, _, ⟨T, Lq, kq, nq⟩, -, X, ⟨Lc, hQ, lq, yq, zq⟩, st⟩ := X.virtualBack hx (y := (⟨"com/example/wise_crawler/wisecrawler/crawl/Answer", "truncated", "()Z"⟩ : MethodName)) (z := (⟨"com/example/wise_crawler/wisecrawler/crawl/Answer", "truncated", "()Z"⟩ : MethodName)) hown (mvT hZ (hw _ (List.mem_of_getElem? (i := 24) rfl))) (mvT hZ (hw _ (List.mem_of_getElem? (i := 25) rfl))) (notFace_of_selects (args := #[]) (mvT hZ (hw _ (List.mem_of_getElem? (i := 27) rfl)))) (mvT hZ (hw _ (List.mem_of_getElem? (i := 27) rfl))) (mvT hZ (hw _ (List.mem_of_getElem? (i := 26) rfl))) (by decide) (backOf (W := 0) (own_tB l Z a0 hw [] b12 r10 aF cK b7 wEMPTY h14 n0 O LM F_response_b12 E_r10 F_value_r10 E_b7 F_truncation_b7 (E_w.ext O.2) (F_w.ext O.2)) hZ (hw _ (List.mem_of_getElem? (i := 28) rfl)) (hw _ (List.mem_of_getElem? (i := 8) rfl)) (by decide) (by decide)) qa qc (g := (mkF m 157 #[.val (.int p0), .val (.int p1), .val (.int p2), .val (.int k), .val (.int (0 : Int32)), .val (.ref r10), .val (.int (0 : Int32)), .val (.ref b12), .val (.ref b7)] [(.ref b12)])) rfl (by rw [hml]; rfl) (Steps.refl _) (argsL := []) (rest := []) (lenOf own_pd4 rfl) rfl (by show 2 * 0 + _ ≤ _; exact Nat.le_of_eq rfl) (hb hby at_157) (fun _ _ => ⟨rfl, eT, (by decide : 3 + 0 ≤ _), (by decide : 11 + 0 ≤ _)⟩)
        dsimp only [Pt.U, Pt.locs, Pt.cells, Pt.slots] at X lq yq zq st hQ
        subst lq yq zq
        obtain ⟨rfl, Nq, eT⟩ := hQ
        replace N := Fr.app N Nq
        refine own_viaT (g' := (mkF m 160 #[.val (.int p0), .val (.int p1), .val (.int p2), .val (.int k), .val (.int (0 : Int32)), .val (.ref r10), .val (.int (0 : Int32)), .val (.ref b12), .val (.ref b7)] [(.int (0 : Int32))])) st ?_
        refine own_via (T' := T) (g' := (mkF m 162 #[.val (.int p0), .val (.int p1), .val (.int p2), .val (.int k), .val (.int (0 : Int32)), .val (.ref r10), .val (.int (0 : Int32)), .val (.ref b12), .val (.ref b7)] [(.int (0 : Int32)), (.int (0 : Int32))])) (fun t_ k_ => XS.iload X.here hx rfl (hb hby at_160) rfl k_) ?_
        refine own_via (T' := T) (g' := (mkF m 165 #[.val (.int p0), .val (.int p1), .val (.int p2), .val (.int k), .val (.int (0 : Int32)), .val (.ref r10), .val (.int (0 : Int32)), .val (.ref b12), .val (.ref b7)] [])) (fun t_ k_ => XS.icmpNo X.here hx rfl (hb hby at_162) rfl (teq (by decide : (0 : Int32) = (0 : Int32))).2 k_) ?_
        refine own_via (T' := T) (g' := (mkF m 166 #[.val (.int p0), .val (.int p1), .val (.int p2), .val (.int k), .val (.int (0 : Int32)), .val (.ref r10), .val (.int (0 : Int32)), .val (.ref b12), .val (.ref b7)] [(.int (1 : Int32))])) (fun t_ k_ => XS.iconst X.here hx rfl (hb hby at_165) k_) ?_
        refine own_via (T' := T) (g' := (mkF m 170 #[.val (.int p0), .val (.int p1), .val (.int p2), .val (.int k), .val (.int (0 : Int32)), .val (.ref r10), .val (.int (0 : Int32)), .val (.ref b12), .val (.ref b7)] [(.int (1 : Int32))])) (fun t_ k_ => XS.goto X.here hx rfl (pc0 := 166) (pc' := 170) rfl (hb hby at_166) (by decide) (by decide) k_) ?_
        refine own_retN X hx hlk (t := .boolean) Bd.returns (by simp) (hb hby at_170) (by decide) (by decide) ?_
        rw [eT]
        exact ⟨rfl, N, trivial⟩
      · refine own_via (T' := T) (g' := (mkF m 49 #[.val (.int p0), .val (.int p1), .val (.int p2), .val (.int k), .val (.int (0 : Int32)), .unset, .unset, .unset, .unset] [])) (fun t_ k_ => XS.icmpYes X.here hx rfl (pc0 := 38) (pc' := 49) rfl (hb hby at_38) rfl (feq hc6).2 (by decide) (by decide) k_) ?_
        refine own_via (T' := T) (g' := (mkF m 50 #[.val (.int p0), .val (.int p1), .val (.int p2), .val (.int k), .val (.int (0 : Int32)), .unset, .unset, .unset, .unset] [(.int k)])) (fun t_ k_ => XS.iloadN X.here hx rfl (hb hby at_49) rfl k_) ?_
        refine own_via (T' := T) (g' := (mkF m 51 #[.val (.int p0), .val (.int p1), .val (.int p2), .val (.int k), .val (.int (0 : Int32)), .unset, .unset, .unset, .unset] [(.int (2 : Int32)), (.int k)])) (fun t_ k_ => XS.iconst X.here hx rfl (hb hby at_50) k_) ?_
        by_cases hc15 : k = (2 : Int32)
        · refine own_via (T' := T) (g' := (mkF m 54 #[.val (.int p0), .val (.int p1), .val (.int p2), .val (.int k), .val (.int (0 : Int32)), .unset, .unset, .unset, .unset] [])) (fun t_ k_ => XS.icmpNo X.here hx rfl (hb hby at_51) rfl (teq hc15).2 k_) ?_
          obtain ⟨T, X, eT, st⟩ := getS2 X hx hZ hown (host := "") (Or.inl (hw _ (List.mem_of_getElem? (i := 94) rfl))) Via.refl eT (S_LENGTH.ext O.2) (g := (mkF m 54 #[.val (.int p0), .val (.int p1), .val (.int p2), .val (.int k), .val (.int (0 : Int32)), .unset, .unset, .unset, .unset] [])) rfl (hb hby at_54)
          refine own_via (g' := (mkF m 57 #[.val (.int p0), .val (.int p1), .val (.int p2), .val (.int k), .val (.int (0 : Int32)), .unset, .unset, .unset, .unset] [(.ref wLENGTH)])) st ?_
          obtain ⟨_, _, ⟨T, Lq, kq, nq⟩, -, X, ⟨Lc, hQ, lq, yq, zq⟩, st⟩ := Jvm.LawKit.callS X hx (y := (⟨"java/util/Optional", "of", "(Ljava/lang/Object;)Ljava/util/Optional;"⟩ : MethodName)) hown (mvT hZ (hw _ (List.mem_of_getElem? (i := 77) rfl))) (mvT hZ (hw _ (List.mem_of_getElem? (i := 78) rfl))) (mvT hZ (hw _ (List.mem_of_getElem? (i := 3) rfl))) (mvT hZ (hw _ (List.mem_of_getElem? (i := 79) rfl))) (by decide) (backOf (W := 0) (own_optof l Z a0 hw [] wLENGTH h n0 O ) hZ (hw _ (List.mem_of_getElem? (i := 79) rfl)) (hw _ (List.mem_of_getElem? (i := 3) rfl)) (by decide) (by decide)) (g := (mkF m 57 #[.val (.int p0), .val (.int p1), .val (.int p2), .val (.int k), .val (.int (0 : Int32)), .unset, .unset, .unset, .unset] [(.ref wLENGTH)])) rfl (by rw [hml]; rfl) (argsL := [(.ref wLENGTH)]) (rest := []) (lenOf own_pd8 rfl) rfl (by show 2 * 0 + _ ≤ _; exact Nat.le_of_eq rfl) (hb hby at_57) (fun _ _ => ⟨rfl, eT, (by decide : 0 + 1 ≤ _), (by decide : 0 + 1 ≤ _)⟩)
          dsimp only [Pt.U, Pt.locs, Pt.cells, Pt.slots] at X lq yq zq st hQ
          subst lq yq zq
          obtain ⟨r16, rfl, Nq, Kq, szq, E_r16, F_value_r16⟩ := hQ
          replace N := Fr.app N Nq
          obtain ⟨h17, eT⟩ : ∃ z, T.heap = z := ⟨_, rfl⟩
          rw [eT] at Kq E_r16 F_value_r16
          have g_r16 : n0 ≤ r16 := Nat.le_trans (own_le O) szq
          have sz_r16 : h0.size ≤ r16 := Nat.le_trans K0.1 szq
          replace O := O.keep Kq all0
          replace K0 := K0.trans Kq all0
          refine own_via (g' := (mkF m 60 #[.val (.int p0), .val (.int p1), .val (.int p2), .val (.int k), .val (.int (0 : Int32)), .unset, .unset, .unset, .unset] [(.ref r16)])) st ?_
          refine own_via (T' := T) (g' := (mkF m 62 #[.val (.int p0), .val (.int p1), .val (.int p2), .val (.int k), .val (.int (0 : Int32)), .unset, .unset, .val (.ref r16), .unset] [])) (fun t_ k_ => XS.astore X.here hx rfl (hb hby at_60) rfl rfl (l' := #[.val (.int p0), .val (.int p1), .val (.int p2), .val (.int k), .val (.int (0 : Int32)), .unset, .unset, .val (.ref r16), .unset]) rfl k_) ?_
          refine own_via (T' := T) (g' := (mkF m 105 #[.val (.int p0), .val (.int p1), .val (.int p2), .val (.int k), .val (.int (0 : Int32)), .unset, .unset, .val (.ref r16), .unset] [])) (fun t_ k_ => XS.goto X.here hx rfl (pc0 := 62) (pc' := 105) rfl (hb hby at_62) (by decide) (by decide) k_) ?_
          obtain ⟨b18, gb⟩ : ∃ z, z = h17.size := ⟨_, rfl⟩
          obtain ⟨T, h19, X, eT, E, E_b18, Dq, -, st⟩ := newO X hx hZ hown (hw _ (List.mem_of_getElem? (i := 54) rfl)) (hw _ (List.mem_of_getElem? (i := 55) rfl)) (hw _ (List.mem_of_getElem? (i := 56) rfl)) eT (g := (mkF m 105 #[.val (.int p0), .val (.int p1), .val (.int p2), .val (.int k), .val (.int (0 : Int32)), .unset, .unset, .val (.ref r16), .unset] [])) rfl (hb hby at_105) (by decide) (by decide)
          rw [← gb] at E_b18 Dq st
          have ne_r16_b18 : r16 ≠ b18 := Nat.ne_of_lt (Nat.lt_of_lt_of_le E_r16.lt (Nat.le_of_eq gb.symm))
          have g_b18 : n0 ≤ b18 := Nat.le_trans (own_le O) (Nat.le_of_eq gb.symm)
          have sz_b18 : h0.size ≤ b18 := Nat.le_trans K0.1 (Nat.le_of_eq gb.symm)
          replace E_r16 := E_r16.ext E
          replace F_value_r16 := F_value_r16.ext E
          replace O := O.ext E
          replace K0 := K0.ext E
          have F_url_b18 : Fld Z h19 b18 "com/example/wise_crawler/wisecrawler/fetch/Exchange" "url" "Lcom/example/wise_crawler/wisecrawler/url/CanonicalUrl;" .null := Dq (Or.inr (hw _ (List.mem_of_getElem? (i := 62) rfl))) (ty := (.object "com/example/wise_crawler/wisecrawler/url/CanonicalUrl")) (by decide)
          have F_date_b18 : Fld Z h19 b18 "com/example/wise_crawler/wisecrawler/fetch/Exchange" "date" "Ljava/time/Instant;" .null := Dq (Or.inr (hw _ (List.mem_of_getElem? (i := 64) rfl))) (ty := (.object "java/time/Instant")) (by decide)
          have F_protocol_b18 : Fld Z h19 b18 "com/example/wise_crawler/wisecrawler/fetch/Exchange" "protocol" "Ljava/lang/String;" .null := Dq (Or.inr (hw _ (List.mem_of_getElem? (i := 66) rfl))) (ty := (.object "java/lang/String")) (by decide)
          have F_requestHeaders_b18 : Fld Z h19 b18 "com/example/wise_crawler/wisecrawler/fetch/Exchange" "requestHeaders" "Lcom/example/wise_crawler/wisecrawler/fetch/HeaderFields;" .null := Dq (Or.inr (hw _ (List.mem_of_getElem? (i := 68) rfl))) (ty := (.object "com/example/wise_crawler/wisecrawler/fetch/HeaderFields")) (by decide)
          have F_status_b18 : Fld Z h19 b18 "com/example/wise_crawler/wisecrawler/fetch/Exchange" "status" "I" (.int (0 : Int32)) := Dq (Or.inr (hw _ (List.mem_of_getElem? (i := 70) rfl))) (ty := .int) (by decide)
          have F_responseHeaders_b18 : Fld Z h19 b18 "com/example/wise_crawler/wisecrawler/fetch/Exchange" "responseHeaders" "Lcom/example/wise_crawler/wisecrawler/fetch/HeaderFields;" .null := Dq (Or.inr (hw _ (List.mem_of_getElem? (i := 72) rfl))) (ty := (.object "com/example/wise_crawler/wisecrawler/fetch/HeaderFields")) (by decide)
          have F_body_b18 : Fld Z h19 b18 "com/example/wise_crawler/wisecrawler/fetch/Exchange" "body" "Lcom/example/wise_crawler/wisecrawler/fetch/SpooledBytes;" .null := Dq (Or.inr (hw _ (List.mem_of_getElem? (i := 74) rfl))) (ty := (.object "com/example/wise_crawler/wisecrawler/fetch/SpooledBytes")) (by decide)
          have F_truncation_b18 : Fld Z h19 b18 "com/example/wise_crawler/wisecrawler/fetch/Exchange" "truncation" "Ljava/util/Optional;" .null := Dq (Or.inr (hw _ (List.mem_of_getElem? (i := 76) rfl))) (ty := (.object "java/util/Optional")) (by decide)
          refine own_via (g' := (mkF m 108 #[.val (.int p0), .val (.int p1), .val (.int p2), .val (.int k), .val (.int (0 : Int32)), .unset, .unset, .val (.ref r16), .unset] [(.ref b18)])) st ?_
          refine own_via (T' := T) (g' := (mkF m 109 #[.val (.int p0), .val (.int p1), .val (.int p2), .val (.int k), .val (.int (0 : Int32)), .unset, .unset, .val (.ref r16), .unset] [(.ref b18), (.ref b18)])) (fun t_ k_ => XS.dup X.here hx rfl (hb hby at_108) rfl rfl k_) ?_
          refine own_via (T' := T) (g' := (mkF m 110 #[.val (.int p0), .val (.int p1), .val (.int p2), .val (.int k), .val (.int (0 : Int32)), .unset, .unset, .val (.ref r16), .unset] [.null, (.ref b18), (.ref b18)])) (fun t_ k_ => XS.aconstNull X.here hx rfl (hb hby at_109) k_) ?_
          refine own_via (T' := T) (g' := (mkF m 111 #[.val (.int p0), .val (.int p1), .val (.int p2), .val (.int k), .val (.int (0 : Int32)), .unset, .unset, .val (.ref r16), .unset] [.null, .null, (.ref b18), (.ref b18)])) (fun t_ k_ => XS.aconstNull X.here hx rfl (hb hby at_110) k_) ?_
          refine own_via (T' := T) (g' := (mkF m 112 #[.val (.int p0), .val (.int p1), .val (.int p2), .val (.int k), .val (.int (0 : Int32)), .unset, .unset, .val (.ref r16), .unset] [.null, .null, .null, (.ref b18), (.ref b18)])) (fun t_ k_ => XS.aconstNull X.here hx rfl (hb hby at_111) k_) ?_
          refine own_via (T' := T) (g' := (mkF m 113 #[.val (.int p0), .val (.int p1), .val (.int p2), .val (.int k), .val (.int (0 : Int32)), .unset, .unset, .val (.ref r16), .unset] [.null, .null, .null, .null, (.ref b18), (.ref b18)])) (fun t_ k_ => XS.aconstNull X.here hx rfl (hb hby at_112) k_) ?_
          refine own_via (T' := T) (g' := (mkF m 114 #[.val (.int p0), .val (.int p1), .val (.int p2), .val (.int k), .val (.int (0 : Int32)), .unset, .unset, .val (.ref r16), .unset] [(.int p2), .null, .null, .null, .null, (.ref b18), (.ref b18)])) (fun t_ k_ => XS.iloadN X.here hx rfl (hb hby at_113) rfl k_) ?_
          refine own_via (T' := T) (g' := (mkF m 115 #[.val (.int p0), .val (.int p1), .val (.int p2), .val (.int k), .val (.int (0 : Int32)), .unset, .unset, .val (.ref r16), .unset] [.null, (.int p2), .null, .null, .null, .null, (.ref b18), (.ref b18)])) (fun t_ k_ => XS.aconstNull X.here hx rfl (hb hby at_114) k_) ?_
          refine own_via (T' := T) (g' := (mkF m 116 #[.val (.int p0), .val (.int p1), .val (.int p2), .val (.int k), .val (.int (0 : Int32)), .unset, .unset, .val (.ref r16), .unset] [.null, .null, (.int p2), .null, .null, .null, .null, (.ref b18), (.ref b18)])) (fun t_ k_ => XS.aconstNull X.here hx rfl (hb hby at_115) k_) ?_
          refine own_via (T' := T) (g' := (mkF m 118 #[.val (.int p0), .val (.int p1), .val (.int p2), .val (.int k), .val (.int (0 : Int32)), .unset, .unset, .val (.ref r16), .unset] [(.ref r16), .null, .null, (.int p2), .null, .null, .null, .null, (.ref b18), (.ref b18)])) (fun t_ k_ => XS.aload X.here hx rfl (hb hby at_116) rfl rfl k_) ?_
          obtain ⟨_, _, ⟨T, Lq, kq, nq⟩, -, X, ⟨Lc, hQ, lq, yq, zq⟩, st⟩ := X.specialBack hx (y := (⟨"com/example/wise_crawler/wisecrawler/fetch/Exchange", "<init>", "(Lcom/example/wise_crawler/wisecrawler/url/CanonicalUrl;Ljava/time/Instant;Ljava/lang/String;Lcom/example/wise_crawler/wisecrawler/fetch/HeaderFields;ILcom/example/wise_crawler/wisecrawler/fetch/HeaderFields;Lcom/example/wise_crawler/wisecrawler/fetch/SpooledBytes;Ljava/util/Optional;)V"⟩ : MethodName)) rfl hown (mvT hZ (hw _ (List.mem_of_getElem? (i := 57) rfl))) (mvT hZ (hw _ (List.mem_of_getElem? (i := 58) rfl))) (mvT hZ (hw _ (List.mem_of_getElem? (i := 59) rfl))) (by decide) (backOf (W := 1) (own_exch l Z a0 hw [] b18 p2 r16 h19 n0 O E_b18 F_url_b18 F_date_b18 F_protocol_b18 F_requestHeaders_b18 F_status_b18 F_responseHeaders_b18 F_body_b18 F_truncation_b18 g_b18) hZ (hw _ (List.mem_of_getElem? (i := 59) rfl)) (hw _ (List.mem_of_getElem? (i := 56) rfl)) (by decide) (by decide)) (g := (mkF m 118 #[.val (.int p0), .val (.int p1), .val (.int p2), .val (.int k), .val (.int (0 : Int32)), .unset, .unset, .val (.ref r16), .unset] [(.ref r16), .null, .null, (.int p2), .null, .null, .null, .null, (.ref b18), (.ref b18)])) rfl (by rw [hml]; rfl) (Steps.refl _) (a := b18) (argsL := [.null, .null, .null, .null, (.int p2), .null, .null, (.ref r16)]) (rest := [(.ref b18)]) (lenOf own_pd7 rfl) rfl (by show 2 * 0 + _ ≤ _; exact Nat.le_of_eq rfl) (hb hby at_118) (fun _ _ => ⟨rfl, eT, (by decide : 2 + 0 ≤ _), (by decide : 9 + 0 ≤ _)⟩)
          dsimp only [Pt.U, Pt.locs, Pt.cells, Pt.slots] at X lq yq zq st hQ
          subst lq yq zq
          obtain ⟨rfl, Nq, Kq, E_b18, F_truncation_b18⟩ := hQ
          replace N := Fr.app N Nq
          obtain ⟨h20, eT⟩ : ∃ z, T.heap = z := ⟨_, rfl⟩
          rw [eT] at Kq E_b18 F_truncation_b18
          replace E_r16 := E_r16.keep Kq
          replace F_value_r16 := F_value_r16.keep Kq (ninS ne_r16_b18 nin0)
          replace O := O.keep Kq (allS g_b18 all0)
          replace K0 := K0.trans Kq (allS (Or.inr sz_b18) all0)
          refine own_viaT (g' := (mkF m 121 #[.val (.int p0), .val (.int p1), .val (.int p2), .val (.int k), .val (.int (0 : Int32)), .unset, .unset, .val (.ref r16), .unset] [(.ref b18)])) st ?_
          refine own_via (T' := T) (g' := (mkF m 123 #[.val (.int p0), .val (.int p1), .val (.int p2), .val (.int k), .val (.int (0 : Int32)), .unset, .unset, .val (.ref r16), .val (.ref b18)] [])) (fun t_ k_ => XS.astore X.here hx rfl (hb hby at_121) rfl rfl (l' := #[.val (.int p0), .val (.int p1), .val (.int p2), .val (.int k), .val (.int (0 : Int32)), .unset, .unset, .val (.ref r16), .val (.ref b18)]) rfl k_) ?_
          refine own_via (T' := T) (g' := (mkF m 125 #[.val (.int p0), .val (.int p1), .val (.int p2), .val (.int k), .val (.int (0 : Int32)), .unset, .unset, .val (.ref r16), .val (.ref b18)] [(.ref b18)])) (fun t_ k_ => XS.aload X.here hx rfl (hb hby at_123) rfl rfl k_) ?_
          obtain ⟨_, _, ⟨T, Lq, kq, nq⟩, -, X, ⟨Lc, hQ, lq, yq, zq⟩, st⟩ := Jvm.LawKit.callS X hx (y := (⟨"java/util/Optional", "of", "(Ljava/lang/Object;)Ljava/util/Optional;"⟩ : MethodName)) hown (mvT hZ (hw _ (List.mem_of_getElem? (i := 77) rfl))) (mvT hZ (hw _ (List.mem_of_getElem? (i := 78) rfl))) (mvT hZ (hw _ (List.mem_of_getElem? (i := 3) rfl))) (mvT hZ (hw _ (List.mem_of_getElem? (i := 79) rfl))) (by decide) (backOf (W := 0) (own_optof l Z a0 hw [] b18 h20 n0 O ) hZ (hw _ (List.mem_of_getElem? (i := 79) rfl)) (hw _ (List.mem_of_getElem? (i := 3) rfl)) (by decide) (by decide)) (g := (mkF m 125 #[.val (.int p0), .val (.int p1), .val (.int p2), .val (.int k), .val (.int (0 : Int32)), .unset, .unset, .val (.ref r16), .val (.ref b18)] [(.ref b18)])) rfl (by rw [hml]; rfl) (argsL := [(.ref b18)]) (rest := []) (lenOf own_pd8 rfl) rfl (by show 2 * 0 + _ ≤ _; exact Nat.le_of_eq rfl) (hb hby at_125) (fun _ _ => ⟨rfl, eT, (by decide : 2 + 1 ≤ _), (by decide : 9 + 1 ≤ _)⟩)
          dsimp only [Pt.U, Pt.locs, Pt.cells, Pt.slots] at X lq yq zq st hQ
          subst lq yq zq
          obtain ⟨r21, rfl, Nq, Kq, szq, E_r21, F_value_r21⟩ := hQ
          replace N := Fr.app N Nq
          obtain ⟨h22, eT⟩ : ∃ z, T.heap = z := ⟨_, rfl⟩
          rw [eT] at Kq E_r21 F_value_r21
          have ne_b18_r21 : b18 ≠ r21 := Nat.ne_of_lt (Nat.lt_of_lt_of_le E_b18.lt szq)
          have ne_r16_r21 : r16 ≠ r21 := Nat.ne_of_lt (Nat.lt_of_lt_of_le E_r16.lt szq)
          have g_r21 : n0 ≤ r21 := Nat.le_trans (own_le O) szq
          have sz_r21 : h0.size ≤ r21 := Nat.le_trans K0.1 szq
          replace E_r16 := E_r16.keep Kq
          replace F_value_r16 := F_value_r16.keep Kq nin0
          replace E_b18 := E_b18.keep Kq
          replace F_truncation_b18 := F_truncation_b18.keep Kq nin0
          replace O := O.keep Kq all0
          replace K0 := K0.trans Kq all0
          refine own_via (g' := (mkF m 128 #[.val (.int p0), .val (.int p1), .val (.int p2), .val (.int k), .val (.int (0 : Int32)), .unset, .unset, .val (.ref r16), .val (.ref b18)] [(.ref r21)])) st ?_
          refine own_via (T' := T) (g' := (mkF m 130 #[.val (.int p0), .val (.int p1), .val (.int p2), .val (.int k), .val (.int (0 : Int32)), .val (.ref r21), .unset, .val (.ref r16), .val (.ref b18)] [])) (fun t_ k_ => XS.astore X.here hx rfl (hb hby at_128) rfl rfl (l' := #[.val (.int p0), .val (.int p1), .val (.int p2), .val (.int k), .val (.int (0 : Int32)), .val (.ref r21), .unset, .val (.ref r16), .val (.ref b18)]) rfl k_) ?_
          refine own_via (T' := T) (g' := (mkF m 131 #[.val (.int p0), .val (.int p1), .val (.int p2), .val (.int k), .val (.int (0 : Int32)), .val (.ref r21), .unset, .val (.ref r16), .val (.ref b18)] [(.int k)])) (fun t_ k_ => XS.iloadN X.here hx rfl (hb hby at_130) rfl k_) ?_
          refine own_via (T' := T) (g' := (mkF m 132 #[.val (.int p0), .val (.int p1), .val (.int p2), .val (.int k), .val (.int (0 : Int32)), .val (.ref r21), .unset, .val (.ref r16), .val (.ref b18)] [(.int (1 : Int32)), (.int k)])) (fun t_ k_ => XS.iconst X.here hx rfl (hb hby at_131) k_) ?_
          refine own_via (T' := T) (g' := (mkF m 135 #[.val (.int p0), .val (.int p1), .val (.int p2), .val (.int k), .val (.int (0 : Int32)), .val (.ref r21), .unset, .val (.ref r16), .val (.ref b18)] [])) (fun t_ k_ => XS.icmpNo X.here hx rfl (hb hby at_132) rfl (feq hc6).1 k_) ?_
          refine own_via (T' := T) (g' := (mkF m 136 #[.val (.int p0), .val (.int p1), .val (.int p2), .val (.int k), .val (.int (0 : Int32)), .val (.ref r21), .unset, .val (.ref r16), .val (.ref b18)] [(.int (1 : Int32))])) (fun t_ k_ => XS.iconst X.here hx rfl (hb hby at_135) k_) ?_
          refine own_via (T' := T) (g' := (mkF m 140 #[.val (.int p0), .val (.int p1), .val (.int p2), .val (.int k), .val (.int (0 : Int32)), .val (.ref r21), .unset, .val (.ref r16), .val (.ref b18)] [(.int (1 : Int32))])) (fun t_ k_ => XS.goto X.here hx rfl (pc0 := 136) (pc' := 140) rfl (hb hby at_136) (by decide) (by decide) k_) ?_
          refine own_via (T' := T) (g' := (mkF m 142 #[.val (.int p0), .val (.int p1), .val (.int p2), .val (.int k), .val (.int (0 : Int32)), .val (.ref r21), .val (.int (1 : Int32)), .val (.ref r16), .val (.ref b18)] [])) (fun t_ k_ => XS.istore X.here hx rfl (hb hby at_140) rfl (l' := #[.val (.int p0), .val (.int p1), .val (.int p2), .val (.int k), .val (.int (0 : Int32)), .val (.ref r21), .val (.int (1 : Int32)), .val (.ref r16), .val (.ref b18)]) rfl k_) ?_
          obtain ⟨b23, gb⟩ : ∃ z, z = h22.size := ⟨_, rfl⟩
          obtain ⟨T, h24, X, eT, E, E_b23, Dq, -, st⟩ := newO X hx hZ hown (hw _ (List.mem_of_getElem? (i := 6) rfl)) (hw _ (List.mem_of_getElem? (i := 7) rfl)) (hw _ (List.mem_of_getElem? (i := 8) rfl)) eT (g := (mkF m 142 #[.val (.int p0), .val (.int p1), .val (.int p2), .val (.int k), .val (.int (0 : Int32)), .val (.ref r21), .val (.int (1 : Int32)), .val (.ref r16), .val (.ref b18)] [])) rfl (hb hby at_142) (by decide) (by decide)
          rw [← gb] at E_b23 Dq st
          have ne_b18_b23 : b18 ≠ b23 := Nat.ne_of_lt (Nat.lt_of_lt_of_le E_b18.lt (Nat.le_of_eq gb.symm))
          have ne_r16_b23 : r16 ≠ b23 := Nat.ne_of_lt (Nat.lt_of_lt_of_le E_r16.lt (Nat.le_of_eq gb.symm))
          have ne_r21_b23 : r21 ≠ b23 := Nat.ne_of_lt (Nat.lt_of_lt_of_le E_r21.lt (Nat.le_of_eq gb.symm))
          have g_b23 : n0 ≤ b23 := Nat.le_trans (own_le O) (Nat.le_of_eq gb.symm)
          have sz_b23 : h0.size ≤ b23 := Nat.le_trans K0.1 (Nat.le_of_eq gb.symm)
          replace E_r16 := E_r16.ext E
          replace F_value_r16 := F_value_r16.ext E
          replace E_b18 := E_b18.ext E
          replace F_truncation_b18 := F_truncation_b18.ext E
          replace E_r21 := E_r21.ext E
          replace F_value_r21 := F_value_r21.ext E
          replace O := O.ext E
          replace K0 := K0.ext E
          have F_response_b23 : Fld Z h24 b23 "com/example/wise_crawler/wisecrawler/crawl/Answer" "response" "Ljava/util/Optional;" .null := Dq (Or.inr (hw _ (List.mem_of_getElem? (i := 21) rfl))) (ty := (.object "java/util/Optional")) (by decide)
          have F_timedOut_b23 : Fld Z h24 b23 "com/example/wise_crawler/wisecrawler/crawl/Answer" "timedOut" "Z" (.int (0 : Int32)) := Dq (Or.inr (hw _ (List.mem_of_getElem? (i := 23) rfl))) (ty := .boolean) (by decide)
          refine own_via (g' := (mkF m 145 #[.val (.int p0), .val (.int p1), .val (.int p2), .val (.int k), .val (.int (0 : Int32)), .val (.ref r21), .val (.int (1 : Int32)), .val (.ref r16), .val (.ref b18)] [(.ref b23)])) st ?_
          refine own_via (T' := T) (g' := (mkF m 146 #[.val (.int p0), .val (.int p1), .val (.int p2), .val (.int k), .val (.int (0 : Int32)), .val (.ref r21), .val (.int (1 : Int32)), .val (.ref r16), .val (.ref b18)] [(.ref b23), (.ref b23)])) (fun t_ k_ => XS.dup X.here hx rfl (hb hby at_145) rfl rfl k_) ?_
          refine own_via (T' := T) (g' := (mkF m 148 #[.val (.int p0), .val (.int p1), .val (.int p2), .val (.int k), .val (.int (0 : Int32)), .val (.ref r21), .val (.int (1 : Int32)), .val (.ref r16), .val (.ref b18)] [(.ref r21), (.ref b23), (.ref b23)])) (fun t_ k_ => XS.aload X.here hx rfl (hb hby at_146) rfl rfl k_) ?_
          refine own_via (T' := T) (g' := (mkF m 150 #[.val (.int p0), .val (.int p1), .val (.int p2), .val (.int k), .val (.int (0 : Int32)), .val (.ref r21), .val (.int (1 : Int32)), .val (.ref r16), .val (.ref b18)] [(.int (0 : Int32)), (.ref r21), (.ref b23), (.ref b23)])) (fun t_ k_ => XS.iload X.here hx rfl (hb hby at_148) rfl k_) ?_
          obtain ⟨_, _, ⟨T, Lq, kq, nq⟩, -, X, ⟨Lc, hQ, lq, yq, zq⟩, st⟩ := X.specialBack hx (y := (⟨"com/example/wise_crawler/wisecrawler/crawl/Answer", "<init>", "(Ljava/util/Optional;Z)V"⟩ : MethodName)) rfl hown (mvT hZ (hw _ (List.mem_of_getElem? (i := 9) rfl))) (mvT hZ (hw _ (List.mem_of_getElem? (i := 10) rfl))) (mvT hZ (hw _ (List.mem_of_getElem? (i := 11) rfl))) (by decide) (backOf (W := 1) (own_ansinit l Z a0 hw [] b23 r21 (0 : Int32) h24 n0 O E_b23 F_response_b23 F_timedOut_b23 g_b23) hZ (hw _ (List.mem_of_getElem? (i := 11) rfl)) (hw _ (List.mem_of_getElem? (i := 8) rfl)) (by decide) (by decide)) (g := (mkF m 150 #[.val (.int p0), .val (.int p1), .val (.int p2), .val (.int k), .val (.int (0 : Int32)), .val (.ref r21), .val (.int (1 : Int32)), .val (.ref r16), .val (.ref b18)] [(.int (0 : Int32)), (.ref r21), (.ref b23), (.ref b23)])) rfl (by rw [hml]; rfl) (Steps.refl _) (a := b23) (argsL := [(.ref r21), (.int (0 : Int32))]) (rest := [(.ref b23)]) (lenOf own_pd6 rfl) rfl (by show 2 * 0 + _ ≤ _; exact Nat.le_of_eq rfl) (hb hby at_150) (fun _ _ => ⟨rfl, eT, (by decide : 4 + 0 ≤ _), (by decide : 12 + 0 ≤ _)⟩)
          dsimp only [Pt.U, Pt.locs, Pt.cells, Pt.slots] at X lq yq zq st hQ
          subst lq yq zq
          obtain ⟨rfl, Nq, Kq, E_b23, F_response_b23⟩ := hQ
          replace N := Fr.app N Nq
          obtain ⟨h25, eT⟩ : ∃ z, T.heap = z := ⟨_, rfl⟩
          rw [eT] at Kq E_b23 F_response_b23
          replace E_r16 := E_r16.keep Kq
          replace F_value_r16 := F_value_r16.keep Kq (ninS ne_r16_b23 nin0)
          replace E_b18 := E_b18.keep Kq
          replace F_truncation_b18 := F_truncation_b18.keep Kq (ninS ne_b18_b23 nin0)
          replace E_r21 := E_r21.keep Kq
          replace F_value_r21 := F_value_r21.keep Kq (ninS ne_r21_b23 nin0)
          replace O := O.keep Kq (allS g_b23 all0)
          replace K0 := K0.trans Kq (allS (Or.inr sz_b23) all0)
          refine own_viaT (g' := (mkF m 153 #[.val (.int p0), .val (.int p1), .val (.int p2), .val (.int k), .val (.int (0 : Int32)), .val (.ref r21), .val (.int (1 : Int32)), .val (.ref r16), .val (.ref b18)] [(.ref b23)])) st ?_
          refine own_via (T' := T) (g' := (mkF m 155 #[.val (.int p0), .val (.int p1), .val (.int p2), .val (.int k), .val (.int (0 : Int32)), .val (.ref r21), .val (.int (1 : Int32)), .val (.ref b23), .val (.ref b18)] [])) (fun t_ k_ => XS.astore X.here hx rfl (hb hby at_153) rfl rfl (l' := #[.val (.int p0), .val (.int p1), .val (.int p2), .val (.int k), .val (.int (0 : Int32)), .val (.ref r21), .val (.int (1 : Int32)), .val (.ref b23), .val (.ref b18)]) rfl k_) ?_
          refine own_via (T' := T) (g' := (mkF m 157 #[.val (.int p0), .val (.int p1), .val (.int p2), .val (.int k), .val (.int (0 : Int32)), .val (.ref r21), .val (.int (1 : Int32)), .val (.ref b23), .val (.ref b18)] [(.ref b23)])) (fun t_ k_ => XS.aload X.here hx rfl (hb hby at_155) rfl rfl k_) ?_
          obtain ⟨cq, kq, qa, qb, qc⟩ := isOf hZ eT E_b23
          obtain ⟨_, _, ⟨T, Lq, kq, nq⟩, -, X, ⟨Lc, hQ, lq, yq, zq⟩, st⟩ := X.virtualBack hx (y := (⟨"com/example/wise_crawler/wisecrawler/crawl/Answer", "truncated", "()Z"⟩ : MethodName)) (z := (⟨"com/example/wise_crawler/wisecrawler/crawl/Answer", "truncated", "()Z"⟩ : MethodName)) hown (mvT hZ (hw _ (List.mem_of_getElem? (i := 24) rfl))) (mvT hZ (hw _ (List.mem_of_getElem? (i := 25) rfl))) (notFace_of_selects (args := #[]) (mvT hZ (hw _ (List.mem_of_getElem? (i := 27) rfl)))) (mvT hZ (hw _ (List.mem_of_getElem? (i := 27) rfl))) (mvT hZ (hw _ (List.mem_of_getElem? (i := 26) rfl))) (by decide) (backOf (W := 0) (own_tC l Z a0 hw [] b23 r21 aF cK b18 r16 wLENGTH h25 n0 O LM F_response_b23 E_r21 F_value_r21 E_b18 F_truncation_b18 E_r16 F_value_r16) hZ (hw _ (List.mem_of_getElem? (i := 28) rfl)) (hw _ (List.mem_of_getElem? (i := 8) rfl)) (by decide) (by decide)) qa qc (g := (mkF m 157 #[.val (.int p0), .val (.int p1), .val (.int p2), .val (.int k), .val (.int (0 : Int32)), .val (.ref r21), .val (.int (1 : Int32)), .val (.ref b23), .val (.ref b18)] [(.ref b23)])) rfl (by rw [hml]; rfl) (Steps.refl _) (argsL := []) (rest := []) (lenOf own_pd4 rfl) rfl (by show 2 * 0 + _ ≤ _; exact Nat.le_of_eq rfl) (hb hby at_157) (fun _ _ => ⟨rfl, eT, (by decide : 4 + 0 ≤ _), (by decide : 12 + 0 ≤ _)⟩)
          dsimp only [Pt.U, Pt.locs, Pt.cells, Pt.slots] at X lq yq zq st hQ
          subst lq yq zq
          obtain ⟨rfl, Nq, eT⟩ := hQ
          replace N := Fr.app N Nq
          refine own_viaT (g' := (mkF m 160 #[.val (.int p0), .val (.int p1), .val (.int p2), .val (.int k), .val (.int (0 : Int32)), .val (.ref r21), .val (.int (1 : Int32)), .val (.ref b23), .val (.ref b18)] [(.int (1 : Int32))])) st ?_
          refine own_via (T' := T) (g' := (mkF m 162 #[.val (.int p0), .val (.int p1), .val (.int p2), .val (.int k), .val (.int (0 : Int32)), .val (.ref r21), .val (.int (1 : Int32)), .val (.ref b23), .val (.ref b18)] [(.int (1 : Int32)), (.int (1 : Int32))])) (fun t_ k_ => XS.iload X.here hx rfl (hb hby at_160) rfl k_) ?_
          refine own_via (T' := T) (g' := (mkF m 165 #[.val (.int p0), .val (.int p1), .val (.int p2), .val (.int k), .val (.int (0 : Int32)), .val (.ref r21), .val (.int (1 : Int32)), .val (.ref b23), .val (.ref b18)] [])) (fun t_ k_ => XS.icmpNo X.here hx rfl (hb hby at_162) rfl (teq (by decide : (1 : Int32) = (1 : Int32))).2 k_) ?_
          refine own_via (T' := T) (g' := (mkF m 166 #[.val (.int p0), .val (.int p1), .val (.int p2), .val (.int k), .val (.int (0 : Int32)), .val (.ref r21), .val (.int (1 : Int32)), .val (.ref b23), .val (.ref b18)] [(.int (1 : Int32))])) (fun t_ k_ => XS.iconst X.here hx rfl (hb hby at_165) k_) ?_
          refine own_via (T' := T) (g' := (mkF m 170 #[.val (.int p0), .val (.int p1), .val (.int p2), .val (.int k), .val (.int (0 : Int32)), .val (.ref r21), .val (.int (1 : Int32)), .val (.ref b23), .val (.ref b18)] [(.int (1 : Int32))])) (fun t_ k_ => XS.goto X.here hx rfl (pc0 := 166) (pc' := 170) rfl (hb hby at_166) (by decide) (by decide) k_) ?_
          refine own_retN X hx hlk (t := .boolean) Bd.returns (by simp) (hb hby at_170) (by decide) (by decide) ?_
          rw [eT]
          exact ⟨rfl, N, trivial⟩
        · refine own_via (T' := T) (g' := (mkF m 65 #[.val (.int p0), .val (.int p1), .val (.int p2), .val (.int k), .val (.int (0 : Int32)), .unset, .unset, .unset, .unset] [])) (fun t_ k_ => XS.icmpYes X.here hx rfl (pc0 := 51) (pc' := 65) rfl (hb hby at_51) rfl (feq hc15).2 (by decide) (by decide) k_) ?_
          refine own_via (T' := T) (g' := (mkF m 66 #[.val (.int p0), .val (.int p1), .val (.int p2), .val (.int k), .val (.int (0 : Int32)), .unset, .unset, .unset, .unset] [(.int k)])) (fun t_ k_ => XS.iloadN X.here hx rfl (hb hby at_65) rfl k_) ?_
          refine own_via (T' := T) (g' := (mkF m 67 #[.val (.int p0), .val (.int p1), .val (.int p2), .val (.int k), .val (.int (0 : Int32)), .unset, .unset, .unset, .unset] [(.int (3 : Int32)), (.int k)])) (fun t_ k_ => XS.iconst X.here hx rfl (hb hby at_66) k_) ?_
          by_cases hc26 : k = (3 : Int32)
          · refine own_via (T' := T) (g' := (mkF m 70 #[.val (.int p0), .val (.int p1), .val (.int p2), .val (.int k), .val (.int (0 : Int32)), .unset, .unset, .unset, .unset] [])) (fun t_ k_ => XS.icmpNo X.here hx rfl (hb hby at_67) rfl (teq hc26).2 k_) ?_
            obtain ⟨T, X, eT, st⟩ := getS2 X hx hZ hown (host := "") (Or.inl (hw _ (List.mem_of_getElem? (i := 99) rfl))) Via.refl eT (S_TIME.ext O.2) (g := (mkF m 70 #[.val (.int p0), .val (.int p1), .val (.int p2), .val (.int k), .val (.int (0 : Int32)), .unset, .unset, .unset, .unset] [])) rfl (hb hby at_70)
            refine own_via (g' := (mkF m 73 #[.val (.int p0), .val (.int p1), .val (.int p2), .val (.int k), .val (.int (0 : Int32)), .unset, .unset, .unset, .unset] [(.ref wTIME)])) st ?_
            obtain ⟨_, _, ⟨T, Lq, kq, nq⟩, -, X, ⟨Lc, hQ, lq, yq, zq⟩, st⟩ := Jvm.LawKit.callS X hx (y := (⟨"java/util/Optional", "of", "(Ljava/lang/Object;)Ljava/util/Optional;"⟩ : MethodName)) hown (mvT hZ (hw _ (List.mem_of_getElem? (i := 77) rfl))) (mvT hZ (hw _ (List.mem_of_getElem? (i := 78) rfl))) (mvT hZ (hw _ (List.mem_of_getElem? (i := 3) rfl))) (mvT hZ (hw _ (List.mem_of_getElem? (i := 79) rfl))) (by decide) (backOf (W := 0) (own_optof l Z a0 hw [] wTIME h n0 O ) hZ (hw _ (List.mem_of_getElem? (i := 79) rfl)) (hw _ (List.mem_of_getElem? (i := 3) rfl)) (by decide) (by decide)) (g := (mkF m 73 #[.val (.int p0), .val (.int p1), .val (.int p2), .val (.int k), .val (.int (0 : Int32)), .unset, .unset, .unset, .unset] [(.ref wTIME)])) rfl (by rw [hml]; rfl) (argsL := [(.ref wTIME)]) (rest := []) (lenOf own_pd8 rfl) rfl (by show 2 * 0 + _ ≤ _; exact Nat.le_of_eq rfl) (hb hby at_73) (fun _ _ => ⟨rfl, eT, (by decide : 0 + 1 ≤ _), (by decide : 0 + 1 ≤ _)⟩)
            dsimp only [Pt.U, Pt.locs, Pt.cells, Pt.slots] at X lq yq zq st hQ
            subst lq yq zq
            obtain ⟨r27, rfl, Nq, Kq, szq, E_r27, F_value_r27⟩ := hQ
            replace N := Fr.app N Nq
            obtain ⟨h28, eT⟩ : ∃ z, T.heap = z := ⟨_, rfl⟩
            rw [eT] at Kq E_r27 F_value_r27
            have g_r27 : n0 ≤ r27 := Nat.le_trans (own_le O) szq
            have sz_r27 : h0.size ≤ r27 := Nat.le_trans K0.1 szq
            replace O := O.keep Kq all0
            replace K0 := K0.trans Kq all0
            refine own_via (g' := (mkF m 76 #[.val (.int p0), .val (.int p1), .val (.int p2), .val (.int k), .val (.int (0 : Int32)), .unset, .unset, .unset, .unset] [(.ref r27)])) st ?_
            refine own_via (T' := T) (g' := (mkF m 78 #[.val (.int p0), .val (.int p1), .val (.int p2), .val (.int k), .val (.int (0 : Int32)), .unset, .unset, .val (.ref r27), .unset] [])) (fun t_ k_ => XS.astore X.here hx rfl (hb hby at_76) rfl rfl (l' := #[.val (.int p0), .val (.int p1), .val (.int p2), .val (.int k), .val (.int (0 : Int32)), .unset, .unset, .val (.ref r27), .unset]) rfl k_) ?_
            refine own_via (T' := T) (g' := (mkF m 105 #[.val (.int p0), .val (.int p1), .val (.int p2), .val (.int k), .val (.int (0 : Int32)), .unset, .unset, .val (.ref r27), .unset] [])) (fun t_ k_ => XS.goto X.here hx rfl (pc0 := 78) (pc' := 105) rfl (hb hby at_78) (by decide) (by decide) k_) ?_
            obtain ⟨b29, gb⟩ : ∃ z, z = h28.size := ⟨_, rfl⟩
            obtain ⟨T, h30, X, eT, E, E_b29, Dq, -, st⟩ := newO X hx hZ hown (hw _ (List.mem_of_getElem? (i := 54) rfl)) (hw _ (List.mem_of_getElem? (i := 55) rfl)) (hw _ (List.mem_of_getElem? (i := 56) rfl)) eT (g := (mkF m 105 #[.val (.int p0), .val (.int p1), .val (.int p2), .val (.int k), .val (.int (0 : Int32)), .unset, .unset, .val (.ref r27), .unset] [])) rfl (hb hby at_105) (by decide) (by decide)
            rw [← gb] at E_b29 Dq st
            have ne_r27_b29 : r27 ≠ b29 := Nat.ne_of_lt (Nat.lt_of_lt_of_le E_r27.lt (Nat.le_of_eq gb.symm))
            have g_b29 : n0 ≤ b29 := Nat.le_trans (own_le O) (Nat.le_of_eq gb.symm)
            have sz_b29 : h0.size ≤ b29 := Nat.le_trans K0.1 (Nat.le_of_eq gb.symm)
            replace E_r27 := E_r27.ext E
            replace F_value_r27 := F_value_r27.ext E
            replace O := O.ext E
            replace K0 := K0.ext E
            have F_url_b29 : Fld Z h30 b29 "com/example/wise_crawler/wisecrawler/fetch/Exchange" "url" "Lcom/example/wise_crawler/wisecrawler/url/CanonicalUrl;" .null := Dq (Or.inr (hw _ (List.mem_of_getElem? (i := 62) rfl))) (ty := (.object "com/example/wise_crawler/wisecrawler/url/CanonicalUrl")) (by decide)
            have F_date_b29 : Fld Z h30 b29 "com/example/wise_crawler/wisecrawler/fetch/Exchange" "date" "Ljava/time/Instant;" .null := Dq (Or.inr (hw _ (List.mem_of_getElem? (i := 64) rfl))) (ty := (.object "java/time/Instant")) (by decide)
            have F_protocol_b29 : Fld Z h30 b29 "com/example/wise_crawler/wisecrawler/fetch/Exchange" "protocol" "Ljava/lang/String;" .null := Dq (Or.inr (hw _ (List.mem_of_getElem? (i := 66) rfl))) (ty := (.object "java/lang/String")) (by decide)
            have F_requestHeaders_b29 : Fld Z h30 b29 "com/example/wise_crawler/wisecrawler/fetch/Exchange" "requestHeaders" "Lcom/example/wise_crawler/wisecrawler/fetch/HeaderFields;" .null := Dq (Or.inr (hw _ (List.mem_of_getElem? (i := 68) rfl))) (ty := (.object "com/example/wise_crawler/wisecrawler/fetch/HeaderFields")) (by decide)
            have F_status_b29 : Fld Z h30 b29 "com/example/wise_crawler/wisecrawler/fetch/Exchange" "status" "I" (.int (0 : Int32)) := Dq (Or.inr (hw _ (List.mem_of_getElem? (i := 70) rfl))) (ty := .int) (by decide)
            have F_responseHeaders_b29 : Fld Z h30 b29 "com/example/wise_crawler/wisecrawler/fetch/Exchange" "responseHeaders" "Lcom/example/wise_crawler/wisecrawler/fetch/HeaderFields;" .null := Dq (Or.inr (hw _ (List.mem_of_getElem? (i := 72) rfl))) (ty := (.object "com/example/wise_crawler/wisecrawler/fetch/HeaderFields")) (by decide)
            have F_body_b29 : Fld Z h30 b29 "com/example/wise_crawler/wisecrawler/fetch/Exchange" "body" "Lcom/example/wise_crawler/wisecrawler/fetch/SpooledBytes;" .null := Dq (Or.inr (hw _ (List.mem_of_getElem? (i := 74) rfl))) (ty := (.object "com/example/wise_crawler/wisecrawler/fetch/SpooledBytes")) (by decide)
            have F_truncation_b29 : Fld Z h30 b29 "com/example/wise_crawler/wisecrawler/fetch/Exchange" "truncation" "Ljava/util/Optional;" .null := Dq (Or.inr (hw _ (List.mem_of_getElem? (i := 76) rfl))) (ty := (.object "java/util/Optional")) (by decide)
            refine own_via (g' := (mkF m 108 #[.val (.int p0), .val (.int p1), .val (.int p2), .val (.int k), .val (.int (0 : Int32)), .unset, .unset, .val (.ref r27), .unset] [(.ref b29)])) st ?_
            refine own_via (T' := T) (g' := (mkF m 109 #[.val (.int p0), .val (.int p1), .val (.int p2), .val (.int k), .val (.int (0 : Int32)), .unset, .unset, .val (.ref r27), .unset] [(.ref b29), (.ref b29)])) (fun t_ k_ => XS.dup X.here hx rfl (hb hby at_108) rfl rfl k_) ?_
            refine own_via (T' := T) (g' := (mkF m 110 #[.val (.int p0), .val (.int p1), .val (.int p2), .val (.int k), .val (.int (0 : Int32)), .unset, .unset, .val (.ref r27), .unset] [.null, (.ref b29), (.ref b29)])) (fun t_ k_ => XS.aconstNull X.here hx rfl (hb hby at_109) k_) ?_
            refine own_via (T' := T) (g' := (mkF m 111 #[.val (.int p0), .val (.int p1), .val (.int p2), .val (.int k), .val (.int (0 : Int32)), .unset, .unset, .val (.ref r27), .unset] [.null, .null, (.ref b29), (.ref b29)])) (fun t_ k_ => XS.aconstNull X.here hx rfl (hb hby at_110) k_) ?_
            refine own_via (T' := T) (g' := (mkF m 112 #[.val (.int p0), .val (.int p1), .val (.int p2), .val (.int k), .val (.int (0 : Int32)), .unset, .unset, .val (.ref r27), .unset] [.null, .null, .null, (.ref b29), (.ref b29)])) (fun t_ k_ => XS.aconstNull X.here hx rfl (hb hby at_111) k_) ?_
            refine own_via (T' := T) (g' := (mkF m 113 #[.val (.int p0), .val (.int p1), .val (.int p2), .val (.int k), .val (.int (0 : Int32)), .unset, .unset, .val (.ref r27), .unset] [.null, .null, .null, .null, (.ref b29), (.ref b29)])) (fun t_ k_ => XS.aconstNull X.here hx rfl (hb hby at_112) k_) ?_
            refine own_via (T' := T) (g' := (mkF m 114 #[.val (.int p0), .val (.int p1), .val (.int p2), .val (.int k), .val (.int (0 : Int32)), .unset, .unset, .val (.ref r27), .unset] [(.int p2), .null, .null, .null, .null, (.ref b29), (.ref b29)])) (fun t_ k_ => XS.iloadN X.here hx rfl (hb hby at_113) rfl k_) ?_
            refine own_via (T' := T) (g' := (mkF m 115 #[.val (.int p0), .val (.int p1), .val (.int p2), .val (.int k), .val (.int (0 : Int32)), .unset, .unset, .val (.ref r27), .unset] [.null, (.int p2), .null, .null, .null, .null, (.ref b29), (.ref b29)])) (fun t_ k_ => XS.aconstNull X.here hx rfl (hb hby at_114) k_) ?_
            refine own_via (T' := T) (g' := (mkF m 116 #[.val (.int p0), .val (.int p1), .val (.int p2), .val (.int k), .val (.int (0 : Int32)), .unset, .unset, .val (.ref r27), .unset] [.null, .null, (.int p2), .null, .null, .null, .null, (.ref b29), (.ref b29)])) (fun t_ k_ => XS.aconstNull X.here hx rfl (hb hby at_115) k_) ?_
            refine own_via (T' := T) (g' := (mkF m 118 #[.val (.int p0), .val (.int p1), .val (.int p2), .val (.int k), .val (.int (0 : Int32)), .unset, .unset, .val (.ref r27), .unset] [(.ref r27), .null, .null, (.int p2), .null, .null, .null, .null, (.ref b29), (.ref b29)])) (fun t_ k_ => XS.aload X.here hx rfl (hb hby at_116) rfl rfl k_) ?_
            obtain ⟨_, _, ⟨T, Lq, kq, nq⟩, -, X, ⟨Lc, hQ, lq, yq, zq⟩, st⟩ := X.specialBack hx (y := (⟨"com/example/wise_crawler/wisecrawler/fetch/Exchange", "<init>", "(Lcom/example/wise_crawler/wisecrawler/url/CanonicalUrl;Ljava/time/Instant;Ljava/lang/String;Lcom/example/wise_crawler/wisecrawler/fetch/HeaderFields;ILcom/example/wise_crawler/wisecrawler/fetch/HeaderFields;Lcom/example/wise_crawler/wisecrawler/fetch/SpooledBytes;Ljava/util/Optional;)V"⟩ : MethodName)) rfl hown (mvT hZ (hw _ (List.mem_of_getElem? (i := 57) rfl))) (mvT hZ (hw _ (List.mem_of_getElem? (i := 58) rfl))) (mvT hZ (hw _ (List.mem_of_getElem? (i := 59) rfl))) (by decide) (backOf (W := 1) (own_exch l Z a0 hw [] b29 p2 r27 h30 n0 O E_b29 F_url_b29 F_date_b29 F_protocol_b29 F_requestHeaders_b29 F_status_b29 F_responseHeaders_b29 F_body_b29 F_truncation_b29 g_b29) hZ (hw _ (List.mem_of_getElem? (i := 59) rfl)) (hw _ (List.mem_of_getElem? (i := 56) rfl)) (by decide) (by decide)) (g := (mkF m 118 #[.val (.int p0), .val (.int p1), .val (.int p2), .val (.int k), .val (.int (0 : Int32)), .unset, .unset, .val (.ref r27), .unset] [(.ref r27), .null, .null, (.int p2), .null, .null, .null, .null, (.ref b29), (.ref b29)])) rfl (by rw [hml]; rfl) (Steps.refl _) (a := b29) (argsL := [.null, .null, .null, .null, (.int p2), .null, .null, (.ref r27)]) (rest := [(.ref b29)]) (lenOf own_pd7 rfl) rfl (by show 2 * 0 + _ ≤ _; exact Nat.le_of_eq rfl) (hb hby at_118) (fun _ _ => ⟨rfl, eT, (by decide : 2 + 0 ≤ _), (by decide : 9 + 0 ≤ _)⟩)
            dsimp only [Pt.U, Pt.locs, Pt.cells, Pt.slots] at X lq yq zq st hQ
            subst lq yq zq
            obtain ⟨rfl, Nq, Kq, E_b29, F_truncation_b29⟩ := hQ
            replace N := Fr.app N Nq
            obtain ⟨h31, eT⟩ : ∃ z, T.heap = z := ⟨_, rfl⟩
            rw [eT] at Kq E_b29 F_truncation_b29
            replace E_r27 := E_r27.keep Kq
            replace F_value_r27 := F_value_r27.keep Kq (ninS ne_r27_b29 nin0)
            replace O := O.keep Kq (allS g_b29 all0)
            replace K0 := K0.trans Kq (allS (Or.inr sz_b29) all0)
            refine own_viaT (g' := (mkF m 121 #[.val (.int p0), .val (.int p1), .val (.int p2), .val (.int k), .val (.int (0 : Int32)), .unset, .unset, .val (.ref r27), .unset] [(.ref b29)])) st ?_
            refine own_via (T' := T) (g' := (mkF m 123 #[.val (.int p0), .val (.int p1), .val (.int p2), .val (.int k), .val (.int (0 : Int32)), .unset, .unset, .val (.ref r27), .val (.ref b29)] [])) (fun t_ k_ => XS.astore X.here hx rfl (hb hby at_121) rfl rfl (l' := #[.val (.int p0), .val (.int p1), .val (.int p2), .val (.int k), .val (.int (0 : Int32)), .unset, .unset, .val (.ref r27), .val (.ref b29)]) rfl k_) ?_
            refine own_via (T' := T) (g' := (mkF m 125 #[.val (.int p0), .val (.int p1), .val (.int p2), .val (.int k), .val (.int (0 : Int32)), .unset, .unset, .val (.ref r27), .val (.ref b29)] [(.ref b29)])) (fun t_ k_ => XS.aload X.here hx rfl (hb hby at_123) rfl rfl k_) ?_
            obtain ⟨_, _, ⟨T, Lq, kq, nq⟩, -, X, ⟨Lc, hQ, lq, yq, zq⟩, st⟩ := Jvm.LawKit.callS X hx (y := (⟨"java/util/Optional", "of", "(Ljava/lang/Object;)Ljava/util/Optional;"⟩ : MethodName)) hown (mvT hZ (hw _ (List.mem_of_getElem? (i := 77) rfl))) (mvT hZ (hw _ (List.mem_of_getElem? (i := 78) rfl))) (mvT hZ (hw _ (List.mem_of_getElem? (i := 3) rfl))) (mvT hZ (hw _ (List.mem_of_getElem? (i := 79) rfl))) (by decide) (backOf (W := 0) (own_optof l Z a0 hw [] b29 h31 n0 O ) hZ (hw _ (List.mem_of_getElem? (i := 79) rfl)) (hw _ (List.mem_of_getElem? (i := 3) rfl)) (by decide) (by decide)) (g := (mkF m 125 #[.val (.int p0), .val (.int p1), .val (.int p2), .val (.int k), .val (.int (0 : Int32)), .unset, .unset, .val (.ref r27), .val (.ref b29)] [(.ref b29)])) rfl (by rw [hml]; rfl) (argsL := [(.ref b29)]) (rest := []) (lenOf own_pd8 rfl) rfl (by show 2 * 0 + _ ≤ _; exact Nat.le_of_eq rfl) (hb hby at_125) (fun _ _ => ⟨rfl, eT, (by decide : 2 + 1 ≤ _), (by decide : 9 + 1 ≤ _)⟩)
            dsimp only [Pt.U, Pt.locs, Pt.cells, Pt.slots] at X lq yq zq st hQ
            subst lq yq zq
            obtain ⟨r32, rfl, Nq, Kq, szq, E_r32, F_value_r32⟩ := hQ
            replace N := Fr.app N Nq
            obtain ⟨h33, eT⟩ : ∃ z, T.heap = z := ⟨_, rfl⟩
            rw [eT] at Kq E_r32 F_value_r32
            have ne_b29_r32 : b29 ≠ r32 := Nat.ne_of_lt (Nat.lt_of_lt_of_le E_b29.lt szq)
            have ne_r27_r32 : r27 ≠ r32 := Nat.ne_of_lt (Nat.lt_of_lt_of_le E_r27.lt szq)
            have g_r32 : n0 ≤ r32 := Nat.le_trans (own_le O) szq
            have sz_r32 : h0.size ≤ r32 := Nat.le_trans K0.1 szq
            replace E_r27 := E_r27.keep Kq
            replace F_value_r27 := F_value_r27.keep Kq nin0
            replace E_b29 := E_b29.keep Kq
            replace F_truncation_b29 := F_truncation_b29.keep Kq nin0
            replace O := O.keep Kq all0
            replace K0 := K0.trans Kq all0
            refine own_via (g' := (mkF m 128 #[.val (.int p0), .val (.int p1), .val (.int p2), .val (.int k), .val (.int (0 : Int32)), .unset, .unset, .val (.ref r27), .val (.ref b29)] [(.ref r32)])) st ?_
            refine own_via (T' := T) (g' := (mkF m 130 #[.val (.int p0), .val (.int p1), .val (.int p2), .val (.int k), .val (.int (0 : Int32)), .val (.ref r32), .unset, .val (.ref r27), .val (.ref b29)] [])) (fun t_ k_ => XS.astore X.here hx rfl (hb hby at_128) rfl rfl (l' := #[.val (.int p0), .val (.int p1), .val (.int p2), .val (.int k), .val (.int (0 : Int32)), .val (.ref r32), .unset, .val (.ref r27), .val (.ref b29)]) rfl k_) ?_
            refine own_via (T' := T) (g' := (mkF m 131 #[.val (.int p0), .val (.int p1), .val (.int p2), .val (.int k), .val (.int (0 : Int32)), .val (.ref r32), .unset, .val (.ref r27), .val (.ref b29)] [(.int k)])) (fun t_ k_ => XS.iloadN X.here hx rfl (hb hby at_130) rfl k_) ?_
            refine own_via (T' := T) (g' := (mkF m 132 #[.val (.int p0), .val (.int p1), .val (.int p2), .val (.int k), .val (.int (0 : Int32)), .val (.ref r32), .unset, .val (.ref r27), .val (.ref b29)] [(.int (1 : Int32)), (.int k)])) (fun t_ k_ => XS.iconst X.here hx rfl (hb hby at_131) k_) ?_
            refine own_via (T' := T) (g' := (mkF m 135 #[.val (.int p0), .val (.int p1), .val (.int p2), .val (.int k), .val (.int (0 : Int32)), .val (.ref r32), .unset, .val (.ref r27), .val (.ref b29)] [])) (fun t_ k_ => XS.icmpNo X.here hx rfl (hb hby at_132) rfl (feq hc6).1 k_) ?_
            refine own_via (T' := T) (g' := (mkF m 136 #[.val (.int p0), .val (.int p1), .val (.int p2), .val (.int k), .val (.int (0 : Int32)), .val (.ref r32), .unset, .val (.ref r27), .val (.ref b29)] [(.int (1 : Int32))])) (fun t_ k_ => XS.iconst X.here hx rfl (hb hby at_135) k_) ?_
            refine own_via (T' := T) (g' := (mkF m 140 #[.val (.int p0), .val (.int p1), .val (.int p2), .val (.int k), .val (.int (0 : Int32)), .val (.ref r32), .unset, .val (.ref r27), .val (.ref b29)] [(.int (1 : Int32))])) (fun t_ k_ => XS.goto X.here hx rfl (pc0 := 136) (pc' := 140) rfl (hb hby at_136) (by decide) (by decide) k_) ?_
            refine own_via (T' := T) (g' := (mkF m 142 #[.val (.int p0), .val (.int p1), .val (.int p2), .val (.int k), .val (.int (0 : Int32)), .val (.ref r32), .val (.int (1 : Int32)), .val (.ref r27), .val (.ref b29)] [])) (fun t_ k_ => XS.istore X.here hx rfl (hb hby at_140) rfl (l' := #[.val (.int p0), .val (.int p1), .val (.int p2), .val (.int k), .val (.int (0 : Int32)), .val (.ref r32), .val (.int (1 : Int32)), .val (.ref r27), .val (.ref b29)]) rfl k_) ?_
            obtain ⟨b34, gb⟩ : ∃ z, z = h33.size := ⟨_, rfl⟩
            obtain ⟨T, h35, X, eT, E, E_b34, Dq, -, st⟩ := newO X hx hZ hown (hw _ (List.mem_of_getElem? (i := 6) rfl)) (hw _ (List.mem_of_getElem? (i := 7) rfl)) (hw _ (List.mem_of_getElem? (i := 8) rfl)) eT (g := (mkF m 142 #[.val (.int p0), .val (.int p1), .val (.int p2), .val (.int k), .val (.int (0 : Int32)), .val (.ref r32), .val (.int (1 : Int32)), .val (.ref r27), .val (.ref b29)] [])) rfl (hb hby at_142) (by decide) (by decide)
            rw [← gb] at E_b34 Dq st
            have ne_b29_b34 : b29 ≠ b34 := Nat.ne_of_lt (Nat.lt_of_lt_of_le E_b29.lt (Nat.le_of_eq gb.symm))
            have ne_r27_b34 : r27 ≠ b34 := Nat.ne_of_lt (Nat.lt_of_lt_of_le E_r27.lt (Nat.le_of_eq gb.symm))
            have ne_r32_b34 : r32 ≠ b34 := Nat.ne_of_lt (Nat.lt_of_lt_of_le E_r32.lt (Nat.le_of_eq gb.symm))
            have g_b34 : n0 ≤ b34 := Nat.le_trans (own_le O) (Nat.le_of_eq gb.symm)
            have sz_b34 : h0.size ≤ b34 := Nat.le_trans K0.1 (Nat.le_of_eq gb.symm)
            replace E_r27 := E_r27.ext E
            replace F_value_r27 := F_value_r27.ext E
            replace E_b29 := E_b29.ext E
            replace F_truncation_b29 := F_truncation_b29.ext E
            replace E_r32 := E_r32.ext E
            replace F_value_r32 := F_value_r32.ext E
            replace O := O.ext E
            replace K0 := K0.ext E
            have F_response_b34 : Fld Z h35 b34 "com/example/wise_crawler/wisecrawler/crawl/Answer" "response" "Ljava/util/Optional;" .null := Dq (Or.inr (hw _ (List.mem_of_getElem? (i := 21) rfl))) (ty := (.object "java/util/Optional")) (by decide)
            have F_timedOut_b34 : Fld Z h35 b34 "com/example/wise_crawler/wisecrawler/crawl/Answer" "timedOut" "Z" (.int (0 : Int32)) := Dq (Or.inr (hw _ (List.mem_of_getElem? (i := 23) rfl))) (ty := .boolean) (by decide)
            refine own_via (g' := (mkF m 145 #[.val (.int p0), .val (.int p1), .val (.int p2), .val (.int k), .val (.int (0 : Int32)), .val (.ref r32), .val (.int (1 : Int32)), .val (.ref r27), .val (.ref b29)] [(.ref b34)])) st ?_
            refine own_via (T' := T) (g' := (mkF m 146 #[.val (.int p0), .val (.int p1), .val (.int p2), .val (.int k), .val (.int (0 : Int32)), .val (.ref r32), .val (.int (1 : Int32)), .val (.ref r27), .val (.ref b29)] [(.ref b34), (.ref b34)])) (fun t_ k_ => XS.dup X.here hx rfl (hb hby at_145) rfl rfl k_) ?_
            refine own_via (T' := T) (g' := (mkF m 148 #[.val (.int p0), .val (.int p1), .val (.int p2), .val (.int k), .val (.int (0 : Int32)), .val (.ref r32), .val (.int (1 : Int32)), .val (.ref r27), .val (.ref b29)] [(.ref r32), (.ref b34), (.ref b34)])) (fun t_ k_ => XS.aload X.here hx rfl (hb hby at_146) rfl rfl k_) ?_
            refine own_via (T' := T) (g' := (mkF m 150 #[.val (.int p0), .val (.int p1), .val (.int p2), .val (.int k), .val (.int (0 : Int32)), .val (.ref r32), .val (.int (1 : Int32)), .val (.ref r27), .val (.ref b29)] [(.int (0 : Int32)), (.ref r32), (.ref b34), (.ref b34)])) (fun t_ k_ => XS.iload X.here hx rfl (hb hby at_148) rfl k_) ?_
            obtain ⟨_, _, ⟨T, Lq, kq, nq⟩, -, X, ⟨Lc, hQ, lq, yq, zq⟩, st⟩ := X.specialBack hx (y := (⟨"com/example/wise_crawler/wisecrawler/crawl/Answer", "<init>", "(Ljava/util/Optional;Z)V"⟩ : MethodName)) rfl hown (mvT hZ (hw _ (List.mem_of_getElem? (i := 9) rfl))) (mvT hZ (hw _ (List.mem_of_getElem? (i := 10) rfl))) (mvT hZ (hw _ (List.mem_of_getElem? (i := 11) rfl))) (by decide) (backOf (W := 1) (own_ansinit l Z a0 hw [] b34 r32 (0 : Int32) h35 n0 O E_b34 F_response_b34 F_timedOut_b34 g_b34) hZ (hw _ (List.mem_of_getElem? (i := 11) rfl)) (hw _ (List.mem_of_getElem? (i := 8) rfl)) (by decide) (by decide)) (g := (mkF m 150 #[.val (.int p0), .val (.int p1), .val (.int p2), .val (.int k), .val (.int (0 : Int32)), .val (.ref r32), .val (.int (1 : Int32)), .val (.ref r27), .val (.ref b29)] [(.int (0 : Int32)), (.ref r32), (.ref b34), (.ref b34)])) rfl (by rw [hml]; rfl) (Steps.refl _) (a := b34) (argsL := [(.ref r32), (.int (0 : Int32))]) (rest := [(.ref b34)]) (lenOf own_pd6 rfl) rfl (by show 2 * 0 + _ ≤ _; exact Nat.le_of_eq rfl) (hb hby at_150) (fun _ _ => ⟨rfl, eT, (by decide : 4 + 0 ≤ _), (by decide : 12 + 0 ≤ _)⟩)
            dsimp only [Pt.U, Pt.locs, Pt.cells, Pt.slots] at X lq yq zq st hQ
            subst lq yq zq
            obtain ⟨rfl, Nq, Kq, E_b34, F_response_b34⟩ := hQ
            replace N := Fr.app N Nq
            obtain ⟨h36, eT⟩ : ∃ z, T.heap = z := ⟨_, rfl⟩
            rw [eT] at Kq E_b34 F_response_b34
            replace E_r27 := E_r27.keep Kq
            replace F_value_r27 := F_value_r27.keep Kq (ninS ne_r27_b34 nin0)
            replace E_b29 := E_b29.keep Kq
            replace F_truncation_b29 := F_truncation_b29.keep Kq (ninS ne_b29_b34 nin0)
            replace E_r32 := E_r32.keep Kq
            replace F_value_r32 := F_value_r32.keep Kq (ninS ne_r32_b34 nin0)
            replace O := O.keep Kq (allS g_b34 all0)
            replace K0 := K0.trans Kq (allS (Or.inr sz_b34) all0)
            refine own_viaT (g' := (mkF m 153 #[.val (.int p0), .val (.int p1), .val (.int p2), .val (.int k), .val (.int (0 : Int32)), .val (.ref r32), .val (.int (1 : Int32)), .val (.ref r27), .val (.ref b29)] [(.ref b34)])) st ?_
            refine own_via (T' := T) (g' := (mkF m 155 #[.val (.int p0), .val (.int p1), .val (.int p2), .val (.int k), .val (.int (0 : Int32)), .val (.ref r32), .val (.int (1 : Int32)), .val (.ref b34), .val (.ref b29)] [])) (fun t_ k_ => XS.astore X.here hx rfl (hb hby at_153) rfl rfl (l' := #[.val (.int p0), .val (.int p1), .val (.int p2), .val (.int k), .val (.int (0 : Int32)), .val (.ref r32), .val (.int (1 : Int32)), .val (.ref b34), .val (.ref b29)]) rfl k_) ?_
            refine own_via (T' := T) (g' := (mkF m 157 #[.val (.int p0), .val (.int p1), .val (.int p2), .val (.int k), .val (.int (0 : Int32)), .val (.ref r32), .val (.int (1 : Int32)), .val (.ref b34), .val (.ref b29)] [(.ref b34)])) (fun t_ k_ => XS.aload X.here hx rfl (hb hby at_155) rfl rfl k_) ?_
            obtain ⟨cq, kq, qa, qb, qc⟩ := isOf hZ eT E_b34
            obtain ⟨_, _, ⟨T, Lq, kq, nq⟩, -, X, ⟨Lc, hQ, lq, yq, zq⟩, st⟩ := X.virtualBack hx (y := (⟨"com/example/wise_crawler/wisecrawler/crawl/Answer", "truncated", "()Z"⟩ : MethodName)) (z := (⟨"com/example/wise_crawler/wisecrawler/crawl/Answer", "truncated", "()Z"⟩ : MethodName)) hown (mvT hZ (hw _ (List.mem_of_getElem? (i := 24) rfl))) (mvT hZ (hw _ (List.mem_of_getElem? (i := 25) rfl))) (notFace_of_selects (args := #[]) (mvT hZ (hw _ (List.mem_of_getElem? (i := 27) rfl)))) (mvT hZ (hw _ (List.mem_of_getElem? (i := 27) rfl))) (mvT hZ (hw _ (List.mem_of_getElem? (i := 26) rfl))) (by decide) (backOf (W := 0) (own_tC l Z a0 hw [] b34 r32 aF cK b29 r27 wTIME h36 n0 O LM F_response_b34 E_r32 F_value_r32 E_b29 F_truncation_b29 E_r27 F_value_r27) hZ (hw _ (List.mem_of_getElem? (i := 28) rfl)) (hw _ (List.mem_of_getElem? (i := 8) rfl)) (by decide) (by decide)) qa qc (g := (mkF m 157 #[.val (.int p0), .val (.int p1), .val (.int p2), .val (.int k), .val (.int (0 : Int32)), .val (.ref r32), .val (.int (1 : Int32)), .val (.ref b34), .val (.ref b29)] [(.ref b34)])) rfl (by rw [hml]; rfl) (Steps.refl _) (argsL := []) (rest := []) (lenOf own_pd4 rfl) rfl (by show 2 * 0 + _ ≤ _; exact Nat.le_of_eq rfl) (hb hby at_157) (fun _ _ => ⟨rfl, eT, (by decide : 4 + 0 ≤ _), (by decide : 12 + 0 ≤ _)⟩)
            dsimp only [Pt.U, Pt.locs, Pt.cells, Pt.slots] at X lq yq zq st hQ
            subst lq yq zq
            obtain ⟨rfl, Nq, eT⟩ := hQ
            replace N := Fr.app N Nq
            refine own_viaT (g' := (mkF m 160 #[.val (.int p0), .val (.int p1), .val (.int p2), .val (.int k), .val (.int (0 : Int32)), .val (.ref r32), .val (.int (1 : Int32)), .val (.ref b34), .val (.ref b29)] [(.int (1 : Int32))])) st ?_
            refine own_via (T' := T) (g' := (mkF m 162 #[.val (.int p0), .val (.int p1), .val (.int p2), .val (.int k), .val (.int (0 : Int32)), .val (.ref r32), .val (.int (1 : Int32)), .val (.ref b34), .val (.ref b29)] [(.int (1 : Int32)), (.int (1 : Int32))])) (fun t_ k_ => XS.iload X.here hx rfl (hb hby at_160) rfl k_) ?_
            refine own_via (T' := T) (g' := (mkF m 165 #[.val (.int p0), .val (.int p1), .val (.int p2), .val (.int k), .val (.int (0 : Int32)), .val (.ref r32), .val (.int (1 : Int32)), .val (.ref b34), .val (.ref b29)] [])) (fun t_ k_ => XS.icmpNo X.here hx rfl (hb hby at_162) rfl (teq (by decide : (1 : Int32) = (1 : Int32))).2 k_) ?_
            refine own_via (T' := T) (g' := (mkF m 166 #[.val (.int p0), .val (.int p1), .val (.int p2), .val (.int k), .val (.int (0 : Int32)), .val (.ref r32), .val (.int (1 : Int32)), .val (.ref b34), .val (.ref b29)] [(.int (1 : Int32))])) (fun t_ k_ => XS.iconst X.here hx rfl (hb hby at_165) k_) ?_
            refine own_via (T' := T) (g' := (mkF m 170 #[.val (.int p0), .val (.int p1), .val (.int p2), .val (.int k), .val (.int (0 : Int32)), .val (.ref r32), .val (.int (1 : Int32)), .val (.ref b34), .val (.ref b29)] [(.int (1 : Int32))])) (fun t_ k_ => XS.goto X.here hx rfl (pc0 := 166) (pc' := 170) rfl (hb hby at_166) (by decide) (by decide) k_) ?_
            refine own_retN X hx hlk (t := .boolean) Bd.returns (by simp) (hb hby at_170) (by decide) (by decide) ?_
            rw [eT]
            exact ⟨rfl, N, trivial⟩
          · refine own_via (T' := T) (g' := (mkF m 81 #[.val (.int p0), .val (.int p1), .val (.int p2), .val (.int k), .val (.int (0 : Int32)), .unset, .unset, .unset, .unset] [])) (fun t_ k_ => XS.icmpYes X.here hx rfl (pc0 := 67) (pc' := 81) rfl (hb hby at_67) rfl (feq hc26).2 (by decide) (by decide) k_) ?_
            refine own_via (T' := T) (g' := (mkF m 82 #[.val (.int p0), .val (.int p1), .val (.int p2), .val (.int k), .val (.int (0 : Int32)), .unset, .unset, .unset, .unset] [(.int k)])) (fun t_ k_ => XS.iloadN X.here hx rfl (hb hby at_81) rfl k_) ?_
            refine own_via (T' := T) (g' := (mkF m 83 #[.val (.int p0), .val (.int p1), .val (.int p2), .val (.int k), .val (.int (0 : Int32)), .unset, .unset, .unset, .unset] [(.int (4 : Int32)), (.int k)])) (fun t_ k_ => XS.iconst X.here hx rfl (hb hby at_82) k_) ?_
            by_cases hc37 : k = (4 : Int32)
            · refine own_via (T' := T) (g' := (mkF m 86 #[.val (.int p0), .val (.int p1), .val (.int p2), .val (.int k), .val (.int (0 : Int32)), .unset, .unset, .unset, .unset] [])) (fun t_ k_ => XS.icmpNo X.here hx rfl (hb hby at_83) rfl (teq hc37).2 k_) ?_
              obtain ⟨T, X, eT, st⟩ := getS2 X hx hZ hown (host := "") (Or.inl (hw _ (List.mem_of_getElem? (i := 101) rfl))) Via.refl eT (S_DISCONNECT.ext O.2) (g := (mkF m 86 #[.val (.int p0), .val (.int p1), .val (.int p2), .val (.int k), .val (.int (0 : Int32)), .unset, .unset, .unset, .unset] [])) rfl (hb hby at_86)
              refine own_via (g' := (mkF m 89 #[.val (.int p0), .val (.int p1), .val (.int p2), .val (.int k), .val (.int (0 : Int32)), .unset, .unset, .unset, .unset] [(.ref wDISCONNECT)])) st ?_
              obtain ⟨_, _, ⟨T, Lq, kq, nq⟩, -, X, ⟨Lc, hQ, lq, yq, zq⟩, st⟩ := Jvm.LawKit.callS X hx (y := (⟨"java/util/Optional", "of", "(Ljava/lang/Object;)Ljava/util/Optional;"⟩ : MethodName)) hown (mvT hZ (hw _ (List.mem_of_getElem? (i := 77) rfl))) (mvT hZ (hw _ (List.mem_of_getElem? (i := 78) rfl))) (mvT hZ (hw _ (List.mem_of_getElem? (i := 3) rfl))) (mvT hZ (hw _ (List.mem_of_getElem? (i := 79) rfl))) (by decide) (backOf (W := 0) (own_optof l Z a0 hw [] wDISCONNECT h n0 O ) hZ (hw _ (List.mem_of_getElem? (i := 79) rfl)) (hw _ (List.mem_of_getElem? (i := 3) rfl)) (by decide) (by decide)) (g := (mkF m 89 #[.val (.int p0), .val (.int p1), .val (.int p2), .val (.int k), .val (.int (0 : Int32)), .unset, .unset, .unset, .unset] [(.ref wDISCONNECT)])) rfl (by rw [hml]; rfl) (argsL := [(.ref wDISCONNECT)]) (rest := []) (lenOf own_pd8 rfl) rfl (by show 2 * 0 + _ ≤ _; exact Nat.le_of_eq rfl) (hb hby at_89) (fun _ _ => ⟨rfl, eT, (by decide : 0 + 1 ≤ _), (by decide : 0 + 1 ≤ _)⟩)
              dsimp only [Pt.U, Pt.locs, Pt.cells, Pt.slots] at X lq yq zq st hQ
              subst lq yq zq
              obtain ⟨r38, rfl, Nq, Kq, szq, E_r38, F_value_r38⟩ := hQ
              replace N := Fr.app N Nq
              obtain ⟨h39, eT⟩ : ∃ z, T.heap = z := ⟨_, rfl⟩
              rw [eT] at Kq E_r38 F_value_r38
              have g_r38 : n0 ≤ r38 := Nat.le_trans (own_le O) szq
              have sz_r38 : h0.size ≤ r38 := Nat.le_trans K0.1 szq
              replace O := O.keep Kq all0
              replace K0 := K0.trans Kq all0
              refine own_via (g' := (mkF m 92 #[.val (.int p0), .val (.int p1), .val (.int p2), .val (.int k), .val (.int (0 : Int32)), .unset, .unset, .unset, .unset] [(.ref r38)])) st ?_
              refine own_via (T' := T) (g' := (mkF m 94 #[.val (.int p0), .val (.int p1), .val (.int p2), .val (.int k), .val (.int (0 : Int32)), .unset, .unset, .val (.ref r38), .unset] [])) (fun t_ k_ => XS.astore X.here hx rfl (hb hby at_92) rfl rfl (l' := #[.val (.int p0), .val (.int p1), .val (.int p2), .val (.int k), .val (.int (0 : Int32)), .unset, .unset, .val (.ref r38), .unset]) rfl k_) ?_
              refine own_via (T' := T) (g' := (mkF m 105 #[.val (.int p0), .val (.int p1), .val (.int p2), .val (.int k), .val (.int (0 : Int32)), .unset, .unset, .val (.ref r38), .unset] [])) (fun t_ k_ => XS.goto X.here hx rfl (pc0 := 94) (pc' := 105) rfl (hb hby at_94) (by decide) (by decide) k_) ?_
              obtain ⟨b40, gb⟩ : ∃ z, z = h39.size := ⟨_, rfl⟩
              obtain ⟨T, h41, X, eT, E, E_b40, Dq, -, st⟩ := newO X hx hZ hown (hw _ (List.mem_of_getElem? (i := 54) rfl)) (hw _ (List.mem_of_getElem? (i := 55) rfl)) (hw _ (List.mem_of_getElem? (i := 56) rfl)) eT (g := (mkF m 105 #[.val (.int p0), .val (.int p1), .val (.int p2), .val (.int k), .val (.int (0 : Int32)), .unset, .unset, .val (.ref r38), .unset] [])) rfl (hb hby at_105) (by decide) (by decide)
              rw [← gb] at E_b40 Dq st
              have ne_r38_b40 : r38 ≠ b40 := Nat.ne_of_lt (Nat.lt_of_lt_of_le E_r38.lt (Nat.le_of_eq gb.symm))
              have g_b40 : n0 ≤ b40 := Nat.le_trans (own_le O) (Nat.le_of_eq gb.symm)
              have sz_b40 : h0.size ≤ b40 := Nat.le_trans K0.1 (Nat.le_of_eq gb.symm)
              replace E_r38 := E_r38.ext E
              replace F_value_r38 := F_value_r38.ext E
              replace O := O.ext E
              replace K0 := K0.ext E
              have F_url_b40 : Fld Z h41 b40 "com/example/wise_crawler/wisecrawler/fetch/Exchange" "url" "Lcom/example/wise_crawler/wisecrawler/url/CanonicalUrl;" .null := Dq (Or.inr (hw _ (List.mem_of_getElem? (i := 62) rfl))) (ty := (.object "com/example/wise_crawler/wisecrawler/url/CanonicalUrl")) (by decide)
              have F_date_b40 : Fld Z h41 b40 "com/example/wise_crawler/wisecrawler/fetch/Exchange" "date" "Ljava/time/Instant;" .null := Dq (Or.inr (hw _ (List.mem_of_getElem? (i := 64) rfl))) (ty := (.object "java/time/Instant")) (by decide)
              have F_protocol_b40 : Fld Z h41 b40 "com/example/wise_crawler/wisecrawler/fetch/Exchange" "protocol" "Ljava/lang/String;" .null := Dq (Or.inr (hw _ (List.mem_of_getElem? (i := 66) rfl))) (ty := (.object "java/lang/String")) (by decide)
              have F_requestHeaders_b40 : Fld Z h41 b40 "com/example/wise_crawler/wisecrawler/fetch/Exchange" "requestHeaders" "Lcom/example/wise_crawler/wisecrawler/fetch/HeaderFields;" .null := Dq (Or.inr (hw _ (List.mem_of_getElem? (i := 68) rfl))) (ty := (.object "com/example/wise_crawler/wisecrawler/fetch/HeaderFields")) (by decide)
              have F_status_b40 : Fld Z h41 b40 "com/example/wise_crawler/wisecrawler/fetch/Exchange" "status" "I" (.int (0 : Int32)) := Dq (Or.inr (hw _ (List.mem_of_getElem? (i := 70) rfl))) (ty := .int) (by decide)
              have F_responseHeaders_b40 : Fld Z h41 b40 "com/example/wise_crawler/wisecrawler/fetch/Exchange" "responseHeaders" "Lcom/example/wise_crawler/wisecrawler/fetch/HeaderFields;" .null := Dq (Or.inr (hw _ (List.mem_of_getElem? (i := 72) rfl))) (ty := (.object "com/example/wise_crawler/wisecrawler/fetch/HeaderFields")) (by decide)
              have F_body_b40 : Fld Z h41 b40 "com/example/wise_crawler/wisecrawler/fetch/Exchange" "body" "Lcom/example/wise_crawler/wisecrawler/fetch/SpooledBytes;" .null := Dq (Or.inr (hw _ (List.mem_of_getElem? (i := 74) rfl))) (ty := (.object "com/example/wise_crawler/wisecrawler/fetch/SpooledBytes")) (by decide)
              have F_truncation_b40 : Fld Z h41 b40 "com/example/wise_crawler/wisecrawler/fetch/Exchange" "truncation" "Ljava/util/Optional;" .null := Dq (Or.inr (hw _ (List.mem_of_getElem? (i := 76) rfl))) (ty := (.object "java/util/Optional")) (by decide)
              refine own_via (g' := (mkF m 108 #[.val (.int p0), .val (.int p1), .val (.int p2), .val (.int k), .val (.int (0 : Int32)), .unset, .unset, .val (.ref r38), .unset] [(.ref b40)])) st ?_
              refine own_via (T' := T) (g' := (mkF m 109 #[.val (.int p0), .val (.int p1), .val (.int p2), .val (.int k), .val (.int (0 : Int32)), .unset, .unset, .val (.ref r38), .unset] [(.ref b40), (.ref b40)])) (fun t_ k_ => XS.dup X.here hx rfl (hb hby at_108) rfl rfl k_) ?_
              refine own_via (T' := T) (g' := (mkF m 110 #[.val (.int p0), .val (.int p1), .val (.int p2), .val (.int k), .val (.int (0 : Int32)), .unset, .unset, .val (.ref r38), .unset] [.null, (.ref b40), (.ref b40)])) (fun t_ k_ => XS.aconstNull X.here hx rfl (hb hby at_109) k_) ?_
              refine own_via (T' := T) (g' := (mkF m 111 #[.val (.int p0), .val (.int p1), .val (.int p2), .val (.int k), .val (.int (0 : Int32)), .unset, .unset, .val (.ref r38), .unset] [.null, .null, (.ref b40), (.ref b40)])) (fun t_ k_ => XS.aconstNull X.here hx rfl (hb hby at_110) k_) ?_
              refine own_via (T' := T) (g' := (mkF m 112 #[.val (.int p0), .val (.int p1), .val (.int p2), .val (.int k), .val (.int (0 : Int32)), .unset, .unset, .val (.ref r38), .unset] [.null, .null, .null, (.ref b40), (.ref b40)])) (fun t_ k_ => XS.aconstNull X.here hx rfl (hb hby at_111) k_) ?_
              refine own_via (T' := T) (g' := (mkF m 113 #[.val (.int p0), .val (.int p1), .val (.int p2), .val (.int k), .val (.int (0 : Int32)), .unset, .unset, .val (.ref r38), .unset] [.null, .null, .null, .null, (.ref b40), (.ref b40)])) (fun t_ k_ => XS.aconstNull X.here hx rfl (hb hby at_112) k_) ?_
              refine own_via (T' := T) (g' := (mkF m 114 #[.val (.int p0), .val (.int p1), .val (.int p2), .val (.int k), .val (.int (0 : Int32)), .unset, .unset, .val (.ref r38), .unset] [(.int p2), .null, .null, .null, .null, (.ref b40), (.ref b40)])) (fun t_ k_ => XS.iloadN X.here hx rfl (hb hby at_113) rfl k_) ?_
              refine own_via (T' := T) (g' := (mkF m 115 #[.val (.int p0), .val (.int p1), .val (.int p2), .val (.int k), .val (.int (0 : Int32)), .unset, .unset, .val (.ref r38), .unset] [.null, (.int p2), .null, .null, .null, .null, (.ref b40), (.ref b40)])) (fun t_ k_ => XS.aconstNull X.here hx rfl (hb hby at_114) k_) ?_
              refine own_via (T' := T) (g' := (mkF m 116 #[.val (.int p0), .val (.int p1), .val (.int p2), .val (.int k), .val (.int (0 : Int32)), .unset, .unset, .val (.ref r38), .unset] [.null, .null, (.int p2), .null, .null, .null, .null, (.ref b40), (.ref b40)])) (fun t_ k_ => XS.aconstNull X.here hx rfl (hb hby at_115) k_) ?_
              refine own_via (T' := T) (g' := (mkF m 118 #[.val (.int p0), .val (.int p1), .val (.int p2), .val (.int k), .val (.int (0 : Int32)), .unset, .unset, .val (.ref r38), .unset] [(.ref r38), .null, .null, (.int p2), .null, .null, .null, .null, (.ref b40), (.ref b40)])) (fun t_ k_ => XS.aload X.here hx rfl (hb hby at_116) rfl rfl k_) ?_
              obtain ⟨_, _, ⟨T, Lq, kq, nq⟩, -, X, ⟨Lc, hQ, lq, yq, zq⟩, st⟩ := X.specialBack hx (y := (⟨"com/example/wise_crawler/wisecrawler/fetch/Exchange", "<init>", "(Lcom/example/wise_crawler/wisecrawler/url/CanonicalUrl;Ljava/time/Instant;Ljava/lang/String;Lcom/example/wise_crawler/wisecrawler/fetch/HeaderFields;ILcom/example/wise_crawler/wisecrawler/fetch/HeaderFields;Lcom/example/wise_crawler/wisecrawler/fetch/SpooledBytes;Ljava/util/Optional;)V"⟩ : MethodName)) rfl hown (mvT hZ (hw _ (List.mem_of_getElem? (i := 57) rfl))) (mvT hZ (hw _ (List.mem_of_getElem? (i := 58) rfl))) (mvT hZ (hw _ (List.mem_of_getElem? (i := 59) rfl))) (by decide) (backOf (W := 1) (own_exch l Z a0 hw [] b40 p2 r38 h41 n0 O E_b40 F_url_b40 F_date_b40 F_protocol_b40 F_requestHeaders_b40 F_status_b40 F_responseHeaders_b40 F_body_b40 F_truncation_b40 g_b40) hZ (hw _ (List.mem_of_getElem? (i := 59) rfl)) (hw _ (List.mem_of_getElem? (i := 56) rfl)) (by decide) (by decide)) (g := (mkF m 118 #[.val (.int p0), .val (.int p1), .val (.int p2), .val (.int k), .val (.int (0 : Int32)), .unset, .unset, .val (.ref r38), .unset] [(.ref r38), .null, .null, (.int p2), .null, .null, .null, .null, (.ref b40), (.ref b40)])) rfl (by rw [hml]; rfl) (Steps.refl _) (a := b40) (argsL := [.null, .null, .null, .null, (.int p2), .null, .null, (.ref r38)]) (rest := [(.ref b40)]) (lenOf own_pd7 rfl) rfl (by show 2 * 0 + _ ≤ _; exact Nat.le_of_eq rfl) (hb hby at_118) (fun _ _ => ⟨rfl, eT, (by decide : 2 + 0 ≤ _), (by decide : 9 + 0 ≤ _)⟩)
              dsimp only [Pt.U, Pt.locs, Pt.cells, Pt.slots] at X lq yq zq st hQ
              subst lq yq zq
              obtain ⟨rfl, Nq, Kq, E_b40, F_truncation_b40⟩ := hQ
              replace N := Fr.app N Nq
              obtain ⟨h42, eT⟩ : ∃ z, T.heap = z := ⟨_, rfl⟩
              rw [eT] at Kq E_b40 F_truncation_b40
              replace E_r38 := E_r38.keep Kq
              replace F_value_r38 := F_value_r38.keep Kq (ninS ne_r38_b40 nin0)
              replace O := O.keep Kq (allS g_b40 all0)
              replace K0 := K0.trans Kq (allS (Or.inr sz_b40) all0)
              refine own_viaT (g' := (mkF m 121 #[.val (.int p0), .val (.int p1), .val (.int p2), .val (.int k), .val (.int (0 : Int32)), .unset, .unset, .val (.ref r38), .unset] [(.ref b40)])) st ?_
              refine own_via (T' := T) (g' := (mkF m 123 #[.val (.int p0), .val (.int p1), .val (.int p2), .val (.int k), .val (.int (0 : Int32)), .unset, .unset, .val (.ref r38), .val (.ref b40)] [])) (fun t_ k_ => XS.astore X.here hx rfl (hb hby at_121) rfl rfl (l' := #[.val (.int p0), .val (.int p1), .val (.int p2), .val (.int k), .val (.int (0 : Int32)), .unset, .unset, .val (.ref r38), .val (.ref b40)]) rfl k_) ?_
              refine own_via (T' := T) (g' := (mkF m 125 #[.val (.int p0), .val (.int p1), .val (.int p2), .val (.int k), .val (.int (0 : Int32)), .unset, .unset, .val (.ref r38), .val (.ref b40)] [(.ref b40)])) (fun t_ k_ => XS.aload X.here hx rfl (hb hby at_123) rfl rfl k_) ?_
              obtain ⟨_, _, ⟨T, Lq, kq, nq⟩, -, X, ⟨Lc, hQ, lq, yq, zq⟩, st⟩ := Jvm.LawKit.callS X hx (y := (⟨"java/util/Optional", "of", "(Ljava/lang/Object;)Ljava/util/Optional;"⟩ : MethodName)) hown (mvT hZ (hw _ (List.mem_of_getElem? (i := 77) rfl))) (mvT hZ (hw _ (List.mem_of_getElem? (i := 78) rfl))) (mvT hZ (hw _ (List.mem_of_getElem? (i := 3) rfl))) (mvT hZ (hw _ (List.mem_of_getElem? (i := 79) rfl))) (by decide) (backOf (W := 0) (own_optof l Z a0 hw [] b40 h42 n0 O ) hZ (hw _ (List.mem_of_getElem? (i := 79) rfl)) (hw _ (List.mem_of_getElem? (i := 3) rfl)) (by decide) (by decide)) (g := (mkF m 125 #[.val (.int p0), .val (.int p1), .val (.int p2), .val (.int k), .val (.int (0 : Int32)), .unset, .unset, .val (.ref r38), .val (.ref b40)] [(.ref b40)])) rfl (by rw [hml]; rfl) (argsL := [(.ref b40)]) (rest := []) (lenOf own_pd8 rfl) rfl (by show 2 * 0 + _ ≤ _; exact Nat.le_of_eq rfl) (hb hby at_125) (fun _ _ => ⟨rfl, eT, (by decide : 2 + 1 ≤ _), (by decide : 9 + 1 ≤ _)⟩)
              dsimp only [Pt.U, Pt.locs, Pt.cells, Pt.slots] at X lq yq zq st hQ
              subst lq yq zq
              obtain ⟨r43, rfl, Nq, Kq, szq, E_r43, F_value_r43⟩ := hQ
              replace N := Fr.app N Nq
              obtain ⟨h44, eT⟩ : ∃ z, T.heap = z := ⟨_, rfl⟩
              rw [eT] at Kq E_r43 F_value_r43
              have ne_b40_r43 : b40 ≠ r43 := Nat.ne_of_lt (Nat.lt_of_lt_of_le E_b40.lt szq)
              have ne_r38_r43 : r38 ≠ r43 := Nat.ne_of_lt (Nat.lt_of_lt_of_le E_r38.lt szq)
              have g_r43 : n0 ≤ r43 := Nat.le_trans (own_le O) szq
              have sz_r43 : h0.size ≤ r43 := Nat.le_trans K0.1 szq
              replace E_r38 := E_r38.keep Kq
              replace F_value_r38 := F_value_r38.keep Kq nin0
              replace E_b40 := E_b40.keep Kq
              replace F_truncation_b40 := F_truncation_b40.keep Kq nin0
              replace O := O.keep Kq all0
              replace K0 := K0.trans Kq all0
              refine own_via (g' := (mkF m 128 #[.val (.int p0), .val (.int p1), .val (.int p2), .val (.int k), .val (.int (0 : Int32)), .unset, .unset, .val (.ref r38), .val (.ref b40)] [(.ref r43)])) st ?_
              refine own_via (T' := T) (g' := (mkF m 130 #[.val (.int p0), .val (.int p1), .val (.int p2), .val (.int k), .val (.int (0 : Int32)), .val (.ref r43), .unset, .val (.ref r38), .val (.ref b40)] [])) (fun t_ k_ => XS.astore X.here hx rfl (hb hby at_128) rfl rfl (l' := #[.val (.int p0), .val (.int p1), .val (.int p2), .val (.int k), .val (.int (0 : Int32)), .val (.ref r43), .unset, .val (.ref r38), .val (.ref b40)]) rfl k_) ?_
              refine own_via (T' := T) (g' := (mkF m 131 #[.val (.int p0), .val (.int p1), .val (.int p2), .val (.int k), .val (.int (0 : Int32)), .val (.ref r43), .unset, .val (.ref r38), .val (.ref b40)] [(.int k)])) (fun t_ k_ => XS.iloadN X.here hx rfl (hb hby at_130) rfl k_) ?_
              refine own_via (T' := T) (g' := (mkF m 132 #[.val (.int p0), .val (.int p1), .val (.int p2), .val (.int k), .val (.int (0 : Int32)), .val (.ref r43), .unset, .val (.ref r38), .val (.ref b40)] [(.int (1 : Int32)), (.int k)])) (fun t_ k_ => XS.iconst X.here hx rfl (hb hby at_131) k_) ?_
              refine own_via (T' := T) (g' := (mkF m 135 #[.val (.int p0), .val (.int p1), .val (.int p2), .val (.int k), .val (.int (0 : Int32)), .val (.ref r43), .unset, .val (.ref r38), .val (.ref b40)] [])) (fun t_ k_ => XS.icmpNo X.here hx rfl (hb hby at_132) rfl (feq hc6).1 k_) ?_
              refine own_via (T' := T) (g' := (mkF m 136 #[.val (.int p0), .val (.int p1), .val (.int p2), .val (.int k), .val (.int (0 : Int32)), .val (.ref r43), .unset, .val (.ref r38), .val (.ref b40)] [(.int (1 : Int32))])) (fun t_ k_ => XS.iconst X.here hx rfl (hb hby at_135) k_) ?_
              refine own_via (T' := T) (g' := (mkF m 140 #[.val (.int p0), .val (.int p1), .val (.int p2), .val (.int k), .val (.int (0 : Int32)), .val (.ref r43), .unset, .val (.ref r38), .val (.ref b40)] [(.int (1 : Int32))])) (fun t_ k_ => XS.goto X.here hx rfl (pc0 := 136) (pc' := 140) rfl (hb hby at_136) (by decide) (by decide) k_) ?_
              refine own_via (T' := T) (g' := (mkF m 142 #[.val (.int p0), .val (.int p1), .val (.int p2), .val (.int k), .val (.int (0 : Int32)), .val (.ref r43), .val (.int (1 : Int32)), .val (.ref r38), .val (.ref b40)] [])) (fun t_ k_ => XS.istore X.here hx rfl (hb hby at_140) rfl (l' := #[.val (.int p0), .val (.int p1), .val (.int p2), .val (.int k), .val (.int (0 : Int32)), .val (.ref r43), .val (.int (1 : Int32)), .val (.ref r38), .val (.ref b40)]) rfl k_) ?_
              obtain ⟨b45, gb⟩ : ∃ z, z = h44.size := ⟨_, rfl⟩
              obtain ⟨T, h46, X, eT, E, E_b45, Dq, -, st⟩ := newO X hx hZ hown (hw _ (List.mem_of_getElem? (i := 6) rfl)) (hw _ (List.mem_of_getElem? (i := 7) rfl)) (hw _ (List.mem_of_getElem? (i := 8) rfl)) eT (g := (mkF m 142 #[.val (.int p0), .val (.int p1), .val (.int p2), .val (.int k), .val (.int (0 : Int32)), .val (.ref r43), .val (.int (1 : Int32)), .val (.ref r38), .val (.ref b40)] [])) rfl (hb hby at_142) (by decide) (by decide)
              rw [← gb] at E_b45 Dq st
              have ne_b40_b45 : b40 ≠ b45 := Nat.ne_of_lt (Nat.lt_of_lt_of_le E_b40.lt (Nat.le_of_eq gb.symm))
              have ne_r38_b45 : r38 ≠ b45 := Nat.ne_of_lt (Nat.lt_of_lt_of_le E_r38.lt (Nat.le_of_eq gb.symm))
              have ne_r43_b45 : r43 ≠ b45 := Nat.ne_of_lt (Nat.lt_of_lt_of_le E_r43.lt (Nat.le_of_eq gb.symm))
              have g_b45 : n0 ≤ b45 := Nat.le_trans (own_le O) (Nat.le_of_eq gb.symm)
              have sz_b45 : h0.size ≤ b45 := Nat.le_trans K0.1 (Nat.le_of_eq gb.symm)
              replace E_r38 := E_r38.ext E
              replace F_value_r38 := F_value_r38.ext E
              replace E_b40 := E_b40.ext E
              replace F_truncation_b40 := F_truncation_b40.ext E
              replace E_r43 := E_r43.ext E
              replace F_value_r43 := F_value_r43.ext E
              replace O := O.ext E
              replace K0 := K0.ext E
              have F_response_b45 : Fld Z h46 b45 "com/example/wise_crawler/wisecrawler/crawl/Answer" "response" "Ljava/util/Optional;" .null := Dq (Or.inr (hw _ (List.mem_of_getElem? (i := 21) rfl))) (ty := (.object "java/util/Optional")) (by decide)
              have F_timedOut_b45 : Fld Z h46 b45 "com/example/wise_crawler/wisecrawler/crawl/Answer" "timedOut" "Z" (.int (0 : Int32)) := Dq (Or.inr (hw _ (List.mem_of_getElem? (i := 23) rfl))) (ty := .boolean) (by decide)
              refine own_via (g' := (mkF m 145 #[.val (.int p0), .val (.int p1), .val (.int p2), .val (.int k), .val (.int (0 : Int32)), .val (.ref r43), .val (.int (1 : Int32)), .val (.ref r38), .val (.ref b40)] [(.ref b45)])) st ?_
              refine own_via (T' := T) (g' := (mkF m 146 #[.val (.int p0), .val (.int p1), .val (.int p2), .val (.int k), .val (.int (0 : Int32)), .val (.ref r43), .val (.int (1 : Int32)), .val (.ref r38), .val (.ref b40)] [(.ref b45), (.ref b45)])) (fun t_ k_ => XS.dup X.here hx rfl (hb hby at_145) rfl rfl k_) ?_
              refine own_via (T' := T) (g' := (mkF m 148 #[.val (.int p0), .val (.int p1), .val (.int p2), .val (.int k), .val (.int (0 : Int32)), .val (.ref r43), .val (.int (1 : Int32)), .val (.ref r38), .val (.ref b40)] [(.ref r43), (.ref b45), (.ref b45)])) (fun t_ k_ => XS.aload X.here hx rfl (hb hby at_146) rfl rfl k_) ?_
              refine own_via (T' := T) (g' := (mkF m 150 #[.val (.int p0), .val (.int p1), .val (.int p2), .val (.int k), .val (.int (0 : Int32)), .val (.ref r43), .val (.int (1 : Int32)), .val (.ref r38), .val (.ref b40)] [(.int (0 : Int32)), (.ref r43), (.ref b45), (.ref b45)])) (fun t_ k_ => XS.iload X.here hx rfl (hb hby at_148) rfl k_) ?_
              obtain ⟨_, _, ⟨T, Lq, kq, nq⟩, -, X, ⟨Lc, hQ, lq, yq, zq⟩, st⟩ := X.specialBack hx (y := (⟨"com/example/wise_crawler/wisecrawler/crawl/Answer", "<init>", "(Ljava/util/Optional;Z)V"⟩ : MethodName)) rfl hown (mvT hZ (hw _ (List.mem_of_getElem? (i := 9) rfl))) (mvT hZ (hw _ (List.mem_of_getElem? (i := 10) rfl))) (mvT hZ (hw _ (List.mem_of_getElem? (i := 11) rfl))) (by decide) (backOf (W := 1) (own_ansinit l Z a0 hw [] b45 r43 (0 : Int32) h46 n0 O E_b45 F_response_b45 F_timedOut_b45 g_b45) hZ (hw _ (List.mem_of_getElem? (i := 11) rfl)) (hw _ (List.mem_of_getElem? (i := 8) rfl)) (by decide) (by decide)) (g := (mkF m 150 #[.val (.int p0), .val (.int p1), .val (.int p2), .val (.int k), .val (.int (0 : Int32)), .val (.ref r43), .val (.int (1 : Int32)), .val (.ref r38), .val (.ref b40)] [(.int (0 : Int32)), (.ref r43), (.ref b45), (.ref b45)])) rfl (by rw [hml]; rfl) (Steps.refl _) (a := b45) (argsL := [(.ref r43), (.int (0 : Int32))]) (rest := [(.ref b45)]) (lenOf own_pd6 rfl) rfl (by show 2 * 0 + _ ≤ _; exact Nat.le_of_eq rfl) (hb hby at_150) (fun _ _ => ⟨rfl, eT, (by decide : 4 + 0 ≤ _), (by decide : 12 + 0 ≤ _)⟩)
              dsimp only [Pt.U, Pt.locs, Pt.cells, Pt.slots] at X lq yq zq st hQ
              subst lq yq zq
              obtain ⟨rfl, Nq, Kq, E_b45, F_response_b45⟩ := hQ
              replace N := Fr.app N Nq
              obtain ⟨h47, eT⟩ : ∃ z, T.heap = z := ⟨_, rfl⟩
              rw [eT] at Kq E_b45 F_response_b45
              replace E_r38 := E_r38.keep Kq
              replace F_value_r38 := F_value_r38.keep Kq (ninS ne_r38_b45 nin0)
              replace E_b40 := E_b40.keep Kq
              replace F_truncation_b40 := F_truncation_b40.keep Kq (ninS ne_b40_b45 nin0)
              replace E_r43 := E_r43.keep Kq
              replace F_value_r43 := F_value_r43.keep Kq (ninS ne_r43_b45 nin0)
              replace O := O.keep Kq (allS g_b45 all0)
              replace K0 := K0.trans Kq (allS (Or.inr sz_b45) all0)
              refine own_viaT (g' := (mkF m 153 #[.val (.int p0), .val (.int p1), .val (.int p2), .val (.int k), .val (.int (0 : Int32)), .val (.ref r43), .val (.int (1 : Int32)), .val (.ref r38), .val (.ref b40)] [(.ref b45)])) st ?_
              refine own_via (T' := T) (g' := (mkF m 155 #[.val (.int p0), .val (.int p1), .val (.int p2), .val (.int k), .val (.int (0 : Int32)), .val (.ref r43), .val (.int (1 : Int32)), .val (.ref b45), .val (.ref b40)] [])) (fun t_ k_ => XS.astore X.here hx rfl (hb hby at_153) rfl rfl (l' := #[.val (.int p0), .val (.int p1), .val (.int p2), .val (.int k), .val (.int (0 : Int32)), .val (.ref r43), .val (.int (1 : Int32)), .val (.ref b45), .val (.ref b40)]) rfl k_) ?_
              refine own_via (T' := T) (g' := (mkF m 157 #[.val (.int p0), .val (.int p1), .val (.int p2), .val (.int k), .val (.int (0 : Int32)), .val (.ref r43), .val (.int (1 : Int32)), .val (.ref b45), .val (.ref b40)] [(.ref b45)])) (fun t_ k_ => XS.aload X.here hx rfl (hb hby at_155) rfl rfl k_) ?_
              obtain ⟨cq, kq, qa, qb, qc⟩ := isOf hZ eT E_b45
              obtain ⟨_, _, ⟨T, Lq, kq, nq⟩, -, X, ⟨Lc, hQ, lq, yq, zq⟩, st⟩ := X.virtualBack hx (y := (⟨"com/example/wise_crawler/wisecrawler/crawl/Answer", "truncated", "()Z"⟩ : MethodName)) (z := (⟨"com/example/wise_crawler/wisecrawler/crawl/Answer", "truncated", "()Z"⟩ : MethodName)) hown (mvT hZ (hw _ (List.mem_of_getElem? (i := 24) rfl))) (mvT hZ (hw _ (List.mem_of_getElem? (i := 25) rfl))) (notFace_of_selects (args := #[]) (mvT hZ (hw _ (List.mem_of_getElem? (i := 27) rfl)))) (mvT hZ (hw _ (List.mem_of_getElem? (i := 27) rfl))) (mvT hZ (hw _ (List.mem_of_getElem? (i := 26) rfl))) (by decide) (backOf (W := 0) (own_tC l Z a0 hw [] b45 r43 aF cK b40 r38 wDISCONNECT h47 n0 O LM F_response_b45 E_r43 F_value_r43 E_b40 F_truncation_b40 E_r38 F_value_r38) hZ (hw _ (List.mem_of_getElem? (i := 28) rfl)) (hw _ (List.mem_of_getElem? (i := 8) rfl)) (by decide) (by decide)) qa qc (g := (mkF m 157 #[.val (.int p0), .val (.int p1), .val (.int p2), .val (.int k), .val (.int (0 : Int32)), .val (.ref r43), .val (.int (1 : Int32)), .val (.ref b45), .val (.ref b40)] [(.ref b45)])) rfl (by rw [hml]; rfl) (Steps.refl _) (argsL := []) (rest := []) (lenOf own_pd4 rfl) rfl (by show 2 * 0 + _ ≤ _; exact Nat.le_of_eq rfl) (hb hby at_157) (fun _ _ => ⟨rfl, eT, (by decide : 4 + 0 ≤ _), (by decide : 12 + 0 ≤ _)⟩)
              dsimp only [Pt.U, Pt.locs, Pt.cells, Pt.slots] at X lq yq zq st hQ
              subst lq yq zq
              obtain ⟨rfl, Nq, eT⟩ := hQ
              replace N := Fr.app N Nq
              refine own_viaT (g' := (mkF m 160 #[.val (.int p0), .val (.int p1), .val (.int p2), .val (.int k), .val (.int (0 : Int32)), .val (.ref r43), .val (.int (1 : Int32)), .val (.ref b45), .val (.ref b40)] [(.int (1 : Int32))])) st ?_
              refine own_via (T' := T) (g' := (mkF m 162 #[.val (.int p0), .val (.int p1), .val (.int p2), .val (.int k), .val (.int (0 : Int32)), .val (.ref r43), .val (.int (1 : Int32)), .val (.ref b45), .val (.ref b40)] [(.int (1 : Int32)), (.int (1 : Int32))])) (fun t_ k_ => XS.iload X.here hx rfl (hb hby at_160) rfl k_) ?_
              refine own_via (T' := T) (g' := (mkF m 165 #[.val (.int p0), .val (.int p1), .val (.int p2), .val (.int k), .val (.int (0 : Int32)), .val (.ref r43), .val (.int (1 : Int32)), .val (.ref b45), .val (.ref b40)] [])) (fun t_ k_ => XS.icmpNo X.here hx rfl (hb hby at_162) rfl (teq (by decide : (1 : Int32) = (1 : Int32))).2 k_) ?_
              refine own_via (T' := T) (g' := (mkF m 166 #[.val (.int p0), .val (.int p1), .val (.int p2), .val (.int k), .val (.int (0 : Int32)), .val (.ref r43), .val (.int (1 : Int32)), .val (.ref b45), .val (.ref b40)] [(.int (1 : Int32))])) (fun t_ k_ => XS.iconst X.here hx rfl (hb hby at_165) k_) ?_
              refine own_via (T' := T) (g' := (mkF m 170 #[.val (.int p0), .val (.int p1), .val (.int p2), .val (.int k), .val (.int (0 : Int32)), .val (.ref r43), .val (.int (1 : Int32)), .val (.ref b45), .val (.ref b40)] [(.int (1 : Int32))])) (fun t_ k_ => XS.goto X.here hx rfl (pc0 := 166) (pc' := 170) rfl (hb hby at_166) (by decide) (by decide) k_) ?_
              refine own_retN X hx hlk (t := .boolean) Bd.returns (by simp) (hb hby at_170) (by decide) (by decide) ?_
              rw [eT]
              exact ⟨rfl, N, trivial⟩
            · refine own_via (T' := T) (g' := (mkF m 97 #[.val (.int p0), .val (.int p1), .val (.int p2), .val (.int k), .val (.int (0 : Int32)), .unset, .unset, .unset, .unset] [])) (fun t_ k_ => XS.icmpYes X.here hx rfl (pc0 := 83) (pc' := 97) rfl (hb hby at_83) rfl (feq hc37).2 (by decide) (by decide) k_) ?_
              obtain ⟨T, X, eT, st⟩ := getS2 X hx hZ hown (host := "") (Or.inl (hw _ (List.mem_of_getElem? (i := 97) rfl))) Via.refl eT (S_UNSPECIFIED.ext O.2) (g := (mkF m 97 #[.val (.int p0), .val (.int p1), .val (.int p2), .val (.int k), .val (.int (0 : Int32)), .unset, .unset, .unset, .unset] [])) rfl (hb hby at_97)
              refine own_via (g' := (mkF m 100 #[.val (.int p0), .val (.int p1), .val (.int p2), .val (.int k), .val (.int (0 : Int32)), .unset, .unset, .unset, .unset] [(.ref wUNSPECIFIED)])) st ?_
              obtain ⟨_, _, ⟨T, Lq, kq, nq⟩, -, X, ⟨Lc, hQ, lq, yq, zq⟩, st⟩ := Jvm.LawKit.callS X hx (y := (⟨"java/util/Optional", "of", "(Ljava/lang/Object;)Ljava/util/Optional;"⟩ : MethodName)) hown (mvT hZ (hw _ (List.mem_of_getElem? (i := 77) rfl))) (mvT hZ (hw _ (List.mem_of_getElem? (i := 78) rfl))) (mvT hZ (hw _ (List.mem_of_getElem? (i := 3) rfl))) (mvT hZ (hw _ (List.mem_of_getElem? (i := 79) rfl))) (by decide) (backOf (W := 0) (own_optof l Z a0 hw [] wUNSPECIFIED h n0 O ) hZ (hw _ (List.mem_of_getElem? (i := 79) rfl)) (hw _ (List.mem_of_getElem? (i := 3) rfl)) (by decide) (by decide)) (g := (mkF m 100 #[.val (.int p0), .val (.int p1), .val (.int p2), .val (.int k), .val (.int (0 : Int32)), .unset, .unset, .unset, .unset] [(.ref wUNSPECIFIED)])) rfl (by rw [hml]; rfl) (argsL := [(.ref wUNSPECIFIED)]) (rest := []) (lenOf own_pd8 rfl) rfl (by show 2 * 0 + _ ≤ _; exact Nat.le_of_eq rfl) (hb hby at_100) (fun _ _ => ⟨rfl, eT, (by decide : 0 + 1 ≤ _), (by decide : 0 + 1 ≤ _)⟩)
              dsimp only [Pt.U, Pt.locs, Pt.cells, Pt.slots] at X lq yq zq st hQ
              subst lq yq zq
              obtain ⟨r48, rfl, Nq, Kq, szq, E_r48, F_value_r48⟩ := hQ
              replace N := Fr.app N Nq
              obtain ⟨h49, eT⟩ : ∃ z, T.heap = z := ⟨_, rfl⟩
              rw [eT] at Kq E_r48 F_value_r48
              have g_r48 : n0 ≤ r48 := Nat.le_trans (own_le O) szq
              have sz_r48 : h0.size ≤ r48 := Nat.le_trans K0.1 szq
              replace O := O.keep Kq all0
              replace K0 := K0.trans Kq all0
              refine own_via (g' := (mkF m 103 #[.val (.int p0), .val (.int p1), .val (.int p2), .val (.int k), .val (.int (0 : Int32)), .unset, .unset, .unset, .unset] [(.ref r48)])) st ?_
              refine own_via (T' := T) (g' := (mkF m 105 #[.val (.int p0), .val (.int p1), .val (.int p2), .val (.int k), .val (.int (0 : Int32)), .unset, .unset, .val (.ref r48), .unset] [])) (fun t_ k_ => XS.astore X.here hx rfl (hb hby at_103) rfl rfl (l' := #[.val (.int p0), .val (.int p1), .val (.int p2), .val (.int k), .val (.int (0 : Int32)), .unset, .unset, .val (.ref r48), .unset]) rfl k_) ?_
              obtain ⟨b50, gb⟩ : ∃ z, z = h49.size := ⟨_, rfl⟩
              obtain ⟨T, h51, X, eT, E, E_b50, Dq, -, st⟩ := newO X hx hZ hown (hw _ (List.mem_of_getElem? (i := 54) rfl)) (hw _ (List.mem_of_getElem? (i := 55) rfl)) (hw _ (List.mem_of_getElem? (i := 56) rfl)) eT (g := (mkF m 105 #[.val (.int p0), .val (.int p1), .val (.int p2), .val (.int k), .val (.int (0 : Int32)), .unset, .unset, .val (.ref r48), .unset] [])) rfl (hb hby at_105) (by decide) (by decide)
              rw [← gb] at E_b50 Dq st
              have ne_r48_b50 : r48 ≠ b50 := Nat.ne_of_lt (Nat.lt_of_lt_of_le E_r48.lt (Nat.le_of_eq gb.symm))
              have g_b50 : n0 ≤ b50 := Nat.le_trans (own_le O) (Nat.le_of_eq gb.symm)
              have sz_b50 : h0.size ≤ b50 := Nat.le_trans K0.1 (Nat.le_of_eq gb.symm)
              replace E_r48 := E_r48.ext E
              replace F_value_r48 := F_value_r48.ext E
              replace O := O.ext E
              replace K0 := K0.ext E
              have F_url_b50 : Fld Z h51 b50 "com/example/wise_crawler/wisecrawler/fetch/Exchange" "url" "Lcom/example/wise_crawler/wisecrawler/url/CanonicalUrl;" .null := Dq (Or.inr (hw _ (List.mem_of_getElem? (i := 62) rfl))) (ty := (.object "com/example/wise_crawler/wisecrawler/url/CanonicalUrl")) (by decide)
              have F_date_b50 : Fld Z h51 b50 "com/example/wise_crawler/wisecrawler/fetch/Exchange" "date" "Ljava/time/Instant;" .null := Dq (Or.inr (hw _ (List.mem_of_getElem? (i := 64) rfl))) (ty := (.object "java/time/Instant")) (by decide)
              have F_protocol_b50 : Fld Z h51 b50 "com/example/wise_crawler/wisecrawler/fetch/Exchange" "protocol" "Ljava/lang/String;" .null := Dq (Or.inr (hw _ (List.mem_of_getElem? (i := 66) rfl))) (ty := (.object "java/lang/String")) (by decide)
              have F_requestHeaders_b50 : Fld Z h51 b50 "com/example/wise_crawler/wisecrawler/fetch/Exchange" "requestHeaders" "Lcom/example/wise_crawler/wisecrawler/fetch/HeaderFields;" .null := Dq (Or.inr (hw _ (List.mem_of_getElem? (i := 68) rfl))) (ty := (.object "com/example/wise_crawler/wisecrawler/fetch/HeaderFields")) (by decide)
              have F_status_b50 : Fld Z h51 b50 "com/example/wise_crawler/wisecrawler/fetch/Exchange" "status" "I" (.int (0 : Int32)) := Dq (Or.inr (hw _ (List.mem_of_getElem? (i := 70) rfl))) (ty := .int) (by decide)
              have F_responseHeaders_b50 : Fld Z h51 b50 "com/example/wise_crawler/wisecrawler/fetch/Exchange" "responseHeaders" "Lcom/example/wise_crawler/wisecrawler/fetch/HeaderFields;" .null := Dq (Or.inr (hw _ (List.mem_of_getElem? (i := 72) rfl))) (ty := (.object "com/example/wise_crawler/wisecrawler/fetch/HeaderFields")) (by decide)
              have F_body_b50 : Fld Z h51 b50 "com/example/wise_crawler/wisecrawler/fetch/Exchange" "body" "Lcom/example/wise_crawler/wisecrawler/fetch/SpooledBytes;" .null := Dq (Or.inr (hw _ (List.mem_of_getElem? (i := 74) rfl))) (ty := (.object "com/example/wise_crawler/wisecrawler/fetch/SpooledBytes")) (by decide)
              have F_truncation_b50 : Fld Z h51 b50 "com/example/wise_crawler/wisecrawler/fetch/Exchange" "truncation" "Ljava/util/Optional;" .null := Dq (Or.inr (hw _ (List.mem_of_getElem? (i := 76) rfl))) (ty := (.object "java/util/Optional")) (by decide)
              refine own_via (g' := (mkF m 108 #[.val (.int p0), .val (.int p1), .val (.int p2), .val (.int k), .val (.int (0 : Int32)), .unset, .unset, .val (.ref r48), .unset] [(.ref b50)])) st ?_
              refine own_via (T' := T) (g' := (mkF m 109 #[.val (.int p0), .val (.int p1), .val (.int p2), .val (.int k), .val (.int (0 : Int32)), .unset, .unset, .val (.ref r48), .unset] [(.ref b50), (.ref b50)])) (fun t_ k_ => XS.dup X.here hx rfl (hb hby at_108) rfl rfl k_) ?_
              refine own_via (T' := T) (g' := (mkF m 110 #[.val (.int p0), .val (.int p1), .val (.int p2), .val (.int k), .val (.int (0 : Int32)), .unset, .unset, .val (.ref r48), .unset] [.null, (.ref b50), (.ref b50)])) (fun t_ k_ => XS.aconstNull X.here hx rfl (hb hby at_109) k_) ?_
              refine own_via (T' := T) (g' := (mkF m 111 #[.val (.int p0), .val (.int p1), .val (.int p2), .val (.int k), .val (.int (0 : Int32)), .unset, .unset, .val (.ref r48), .unset] [.null, .null, (.ref b50), (.ref b50)])) (fun t_ k_ => XS.aconstNull X.here hx rfl (hb hby at_110) k_) ?_
              refine own_via (T' := T) (g' := (mkF m 112 #[.val (.int p0), .val (.int p1), .val (.int p2), .val (.int k), .val (.int (0 : Int32)), .unset, .unset, .val (.ref r48), .unset] [.null, .null, .null, (.ref b50), (.ref b50)])) (fun t_ k_ => XS.aconstNull X.here hx rfl (hb hby at_111) k_) ?_
              refine own_via (T' := T) (g' := (mkF m 113 #[.val (.int p0), .val (.int p1), .val (.int p2), .val (.int k), .val (.int (0 : Int32)), .unset, .unset, .val (.ref r48), .unset] [.null, .null, .null, .null, (.ref b50), (.ref b50)])) (fun t_ k_ => XS.aconstNull X.here hx rfl (hb hby at_112) k_) ?_
              refine own_via (T' := T) (g' := (mkF m 114 #[.val (.int p0), .val (.int p1), .val (.int p2), .val (.int k), .val (.int (0 : Int32)), .unset, .unset, .val (.ref r48), .unset] [(.int p2), .null, .null, .null, .null, (.ref b50), (.ref b50)])) (fun t_ k_ => XS.iloadN X.here hx rfl (hb hby at_113) rfl k_) ?_
              refine own_via (T' := T) (g' := (mkF m 115 #[.val (.int p0), .val (.int p1), .val (.int p2), .val (.int k), .val (.int (0 : Int32)), .unset, .unset, .val (.ref r48), .unset] [.null, (.int p2), .null, .null, .null, .null, (.ref b50), (.ref b50)])) (fun t_ k_ => XS.aconstNull X.here hx rfl (hb hby at_114) k_) ?_
              refine own_via (T' := T) (g' := (mkF m 116 #[.val (.int p0), .val (.int p1), .val (.int p2), .val (.int k), .val (.int (0 : Int32)), .unset, .unset, .val (.ref r48), .unset] [.null, .null, (.int p2), .null, .null, .null, .null, (.ref b50), (.ref b50)])) (fun t_ k_ => XS.aconstNull X.here hx rfl (hb hby at_115) k_) ?_
              refine own_via (T' := T) (g' := (mkF m 118 #[.val (.int p0), .val (.int p1), .val (.int p2), .val (.int k), .val (.int (0 : Int32)), .unset, .unset, .val (.ref r48), .unset] [(.ref r48), .null, .null, (.int p2), .null, .null, .null, .null, (.ref b50), (.ref b50)])) (fun t_ k_ => XS.aload X.here hx rfl (hb hby at_116) rfl rfl k_) ?_
              obtain ⟨_, _, ⟨T, Lq, kq, nq⟩, -, X, ⟨Lc, hQ, lq, yq, zq⟩, st⟩ := X.specialBack hx (y := (⟨"com/example/wise_crawler/wisecrawler/fetch/Exchange", "<init>", "(Lcom/example/wise_crawler/wisecrawler/url/CanonicalUrl;Ljava/time/Instant;Ljava/lang/String;Lcom/example/wise_crawler/wisecrawler/fetch/HeaderFields;ILcom/example/wise_crawler/wisecrawler/fetch/HeaderFields;Lcom/example/wise_crawler/wisecrawler/fetch/SpooledBytes;Ljava/util/Optional;)V"⟩ : MethodName)) rfl hown (mvT hZ (hw _ (List.mem_of_getElem? (i := 57) rfl))) (mvT hZ (hw _ (List.mem_of_getElem? (i := 58) rfl))) (mvT hZ (hw _ (List.mem_of_getElem? (i := 59) rfl))) (by decide) (backOf (W := 1) (own_exch l Z a0 hw [] b50 p2 r48 h51 n0 O E_b50 F_url_b50 F_date_b50 F_protocol_b50 F_requestHeaders_b50 F_status_b50 F_responseHeaders_b50 F_body_b50 F_truncation_b50 g_b50) hZ (hw _ (List.mem_of_getElem? (i := 59) rfl)) (hw _ (List.mem_of_getElem? (i := 56) rfl)) (by decide) (by decide)) (g := (mkF m 118 #[.val (.int p0), .val (.int p1), .val (.int p2), .val (.int k), .val (.int (0 : Int32)), .unset, .unset, .val (.ref r48), .unset] [(.ref r48), .null, .null, (.int p2), .null, .null, .null, .null, (.ref b50), (.ref b50)])) rfl (by rw [hml]; rfl) (Steps.refl _) (a := b50) (argsL := [.null, .null, .null, .null, (.int p2), .null, .null, (.ref r48)]) (rest := [(.ref b50)]) (lenOf own_pd7 rfl) rfl (by show 2 * 0 + _ ≤ _; exact Nat.le_of_eq rfl) (hb hby at_118) (fun _ _ => ⟨rfl, eT, (by decide : 2 + 0 ≤ _), (by decide : 9 + 0 ≤ _)⟩)
              dsimp only [Pt.U, Pt.locs, Pt.cells, Pt.slots] at X lq yq zq st hQ
              subst lq yq zq
              obtain ⟨rfl, Nq, Kq, E_b50, F_truncation_b50⟩ := hQ
              replace N := Fr.app N Nq
              obtain ⟨h52, eT⟩ : ∃ z, T.heap = z := ⟨_, rfl⟩
              rw [eT] at Kq E_b50 F_truncation_b50
              replace E_r48 := E_r48.keep Kq
              replace F_value_r48 := F_value_r48.keep Kq (ninS ne_r48_b50 nin0)
              replace O := O.keep Kq (allS g_b50 all0)
              replace K0 := K0.trans Kq (allS (Or.inr sz_b50) all0)
              refine own_viaT (g' := (mkF m 121 #[.val (.int p0), .val (.int p1), .val (.int p2), .val (.int k), .val (.int (0 : Int32)), .unset, .unset, .val (.ref r48), .unset] [(.ref b50)])) st ?_
              refine own_via (T' := T) (g' := (mkF m 123 #[.val (.int p0), .val (.int p1), .val (.int p2), .val (.int k), .val (.int (0 : Int32)), .unset, .unset, .val (.ref r48), .val (.ref b50)] [])) (fun t_ k_ => XS.astore X.here hx rfl (hb hby at_121) rfl rfl (l' := #[.val (.int p0), .val (.int p1), .val (.int p2), .val (.int k), .val (.int (0 : Int32)), .unset, .unset, .val (.ref r48), .val (.ref b50)]) rfl k_) ?_
              refine own_via (T' := T) (g' := (mkF m 125 #[.val (.int p0), .val (.int p1), .val (.int p2), .val (.int k), .val (.int (0 : Int32)), .unset, .unset, .val (.ref r48), .val (.ref b50)] [(.ref b50)])) (fun t_ k_ => XS.aload X.here hx rfl (hb hby at_123) rfl rfl k_) ?_
              obtain ⟨_, _, ⟨T, Lq, kq, nq⟩, -, X, ⟨Lc, hQ, lq, yq, zq⟩, st⟩ := Jvm.LawKit.callS X hx (y := (⟨"java/util/Optional", "of", "(Ljava/lang/Object;)Ljava/util/Optional;"⟩ : MethodName)) hown (mvT hZ (hw _ (List.mem_of_getElem? (i := 77) rfl))) (mvT hZ (hw _ (List.mem_of_getElem? (i := 78) rfl))) (mvT hZ (hw _ (List.mem_of_getElem? (i := 3) rfl))) (mvT hZ (hw _ (List.mem_of_getElem? (i := 79) rfl))) (by decide) (backOf (W := 0) (own_optof l Z a0 hw [] b50 h52 n0 O ) hZ (hw _ (List.mem_of_getElem? (i := 79) rfl)) (hw _ (List.mem_of_getElem? (i := 3) rfl)) (by decide) (by decide)) (g := (mkF m 125 #[.val (.int p0), .val (.int p1), .val (.int p2), .val (.int k), .val (.int (0 : Int32)), .unset, .unset, .val (.ref r48), .val (.ref b50)] [(.ref b50)])) rfl (by rw [hml]; rfl) (argsL := [(.ref b50)]) (rest := []) (lenOf own_pd8 rfl) rfl (by show 2 * 0 + _ ≤ _; exact Nat.le_of_eq rfl) (hb hby at_125) (fun _ _ => ⟨rfl, eT, (by decide : 2 + 1 ≤ _), (by decide : 9 + 1 ≤ _)⟩)
              dsimp only [Pt.U, Pt.locs, Pt.cells, Pt.slots] at X lq yq zq st hQ
              subst lq yq zq
              obtain ⟨r53, rfl, Nq, Kq, szq, E_r53, F_value_r53⟩ := hQ
              replace N := Fr.app N Nq
              obtain ⟨h54, eT⟩ : ∃ z, T.heap = z := ⟨_, rfl⟩
              rw [eT] at Kq E_r53 F_value_r53
              have ne_b50_r53 : b50 ≠ r53 := Nat.ne_of_lt (Nat.lt_of_lt_of_le E_b50.lt szq)
              have ne_r48_r53 : r48 ≠ r53 := Nat.ne_of_lt (Nat.lt_of_lt_of_le E_r48.lt szq)
              have g_r53 : n0 ≤ r53 := Nat.le_trans (own_le O) szq
              have sz_r53 : h0.size ≤ r53 := Nat.le_trans K0.1 szq
              replace E_r48 := E_r48.keep Kq
              replace F_value_r48 := F_value_r48.keep Kq nin0
              replace E_b50 := E_b50.keep Kq
              replace F_truncation_b50 := F_truncation_b50.keep Kq nin0
              replace O := O.keep Kq all0
              replace K0 := K0.trans Kq all0
              refine own_via (g' := (mkF m 128 #[.val (.int p0), .val (.int p1), .val (.int p2), .val (.int k), .val (.int (0 : Int32)), .unset, .unset, .val (.ref r48), .val (.ref b50)] [(.ref r53)])) st ?_
              refine own_via (T' := T) (g' := (mkF m 130 #[.val (.int p0), .val (.int p1), .val (.int p2), .val (.int k), .val (.int (0 : Int32)), .val (.ref r53), .unset, .val (.ref r48), .val (.ref b50)] [])) (fun t_ k_ => XS.astore X.here hx rfl (hb hby at_128) rfl rfl (l' := #[.val (.int p0), .val (.int p1), .val (.int p2), .val (.int k), .val (.int (0 : Int32)), .val (.ref r53), .unset, .val (.ref r48), .val (.ref b50)]) rfl k_) ?_
              refine own_via (T' := T) (g' := (mkF m 131 #[.val (.int p0), .val (.int p1), .val (.int p2), .val (.int k), .val (.int (0 : Int32)), .val (.ref r53), .unset, .val (.ref r48), .val (.ref b50)] [(.int k)])) (fun t_ k_ => XS.iloadN X.here hx rfl (hb hby at_130) rfl k_) ?_
              refine own_via (T' := T) (g' := (mkF m 132 #[.val (.int p0), .val (.int p1), .val (.int p2), .val (.int k), .val (.int (0 : Int32)), .val (.ref r53), .unset, .val (.ref r48), .val (.ref b50)] [(.int (1 : Int32)), (.int k)])) (fun t_ k_ => XS.iconst X.here hx rfl (hb hby at_131) k_) ?_
              refine own_via (T' := T) (g' := (mkF m 135 #[.val (.int p0), .val (.int p1), .val (.int p2), .val (.int k), .val (.int (0 : Int32)), .val (.ref r53), .unset, .val (.ref r48), .val (.ref b50)] [])) (fun t_ k_ => XS.icmpNo X.here hx rfl (hb hby at_132) rfl (feq hc6).1 k_) ?_
              refine own_via (T' := T) (g' := (mkF m 136 #[.val (.int p0), .val (.int p1), .val (.int p2), .val (.int k), .val (.int (0 : Int32)), .val (.ref r53), .unset, .val (.ref r48), .val (.ref b50)] [(.int (1 : Int32))])) (fun t_ k_ => XS.iconst X.here hx rfl (hb hby at_135) k_) ?_
              refine own_via (T' := T) (g' := (mkF m 140 #[.val (.int p0), .val (.int p1), .val (.int p2), .val (.int k), .val (.int (0 : Int32)), .val (.ref r53), .unset, .val (.ref r48), .val (.ref b50)] [(.int (1 : Int32))])) (fun t_ k_ => XS.goto X.here hx rfl (pc0 := 136) (pc' := 140) rfl (hb hby at_136) (by decide) (by decide) k_) ?_
              refine own_via (T' := T) (g' := (mkF m 142 #[.val (.int p0), .val (.int p1), .val (.int p2), .val (.int k), .val (.int (0 : Int32)), .val (.ref r53), .val (.int (1 : Int32)), .val (.ref r48), .val (.ref b50)] [])) (fun t_ k_ => XS.istore X.here hx rfl (hb hby at_140) rfl (l' := #[.val (.int p0), .val (.int p1), .val (.int p2), .val (.int k), .val (.int (0 : Int32)), .val (.ref r53), .val (.int (1 : Int32)), .val (.ref r48), .val (.ref b50)]) rfl k_) ?_
              obtain ⟨b55, gb⟩ : ∃ z, z = h54.size := ⟨_, rfl⟩
              obtain ⟨T, h56, X, eT, E, E_b55, Dq, -, st⟩ := newO X hx hZ hown (hw _ (List.mem_of_getElem? (i := 6) rfl)) (hw _ (List.mem_of_getElem? (i := 7) rfl)) (hw _ (List.mem_of_getElem? (i := 8) rfl)) eT (g := (mkF m 142 #[.val (.int p0), .val (.int p1), .val (.int p2), .val (.int k), .val (.int (0 : Int32)), .val (.ref r53), .val (.int (1 : Int32)), .val (.ref r48), .val (.ref b50)] [])) rfl (hb hby at_142) (by decide) (by decide)
              rw [← gb] at E_b55 Dq st
              have ne_b50_b55 : b50 ≠ b55 := Nat.ne_of_lt (Nat.lt_of_lt_of_le E_b50.lt (Nat.le_of_eq gb.symm))
              have ne_r48_b55 : r48 ≠ b55 := Nat.ne_of_lt (Nat.lt_of_lt_of_le E_r48.lt (Nat.le_of_eq gb.symm))
              have ne_r53_b55 : r53 ≠ b55 := Nat.ne_of_lt (Nat.lt_of_lt_of_le E_r53.lt (Nat.le_of_eq gb.symm))
              have g_b55 : n0 ≤ b55 := Nat.le_trans (own_le O) (Nat.le_of_eq gb.symm)
              have sz_b55 : h0.size ≤ b55 := Nat.le_trans K0.1 (Nat.le_of_eq gb.symm)
              replace E_r48 := E_r48.ext E
              replace F_value_r48 := F_value_r48.ext E
              replace E_b50 := E_b50.ext E
              replace F_truncation_b50 := F_truncation_b50.ext E
              replace E_r53 := E_r53.ext E
              replace F_value_r53 := F_value_r53.ext E
              replace O := O.ext E
              replace K0 := K0.ext E
              have F_response_b55 : Fld Z h56 b55 "com/example/wise_crawler/wisecrawler/crawl/Answer" "response" "Ljava/util/Optional;" .null := Dq (Or.inr (hw _ (List.mem_of_getElem? (i := 21) rfl))) (ty := (.object "java/util/Optional")) (by decide)
              have F_timedOut_b55 : Fld Z h56 b55 "com/example/wise_crawler/wisecrawler/crawl/Answer" "timedOut" "Z" (.int (0 : Int32)) := Dq (Or.inr (hw _ (List.mem_of_getElem? (i := 23) rfl))) (ty := .boolean) (by decide)
              refine own_via (g' := (mkF m 145 #[.val (.int p0), .val (.int p1), .val (.int p2), .val (.int k), .val (.int (0 : Int32)), .val (.ref r53), .val (.int (1 : Int32)), .val (.ref r48), .val (.ref b50)] [(.ref b55)])) st ?_
              refine own_via (T' := T) (g' := (mkF m 146 #[.val (.int p0), .val (.int p1), .val (.int p2), .val (.int k), .val (.int (0 : Int32)), .val (.ref r53), .val (.int (1 : Int32)), .val (.ref r48), .val (.ref b50)] [(.ref b55), (.ref b55)])) (fun t_ k_ => XS.dup X.here hx rfl (hb hby at_145) rfl rfl k_) ?_
              refine own_via (T' := T) (g' := (mkF m 148 #[.val (.int p0), .val (.int p1), .val (.int p2), .val (.int k), .val (.int (0 : Int32)), .val (.ref r53), .val (.int (1 : Int32)), .val (.ref r48), .val (.ref b50)] [(.ref r53), (.ref b55), (.ref b55)])) (fun t_ k_ => XS.aload X.here hx rfl (hb hby at_146) rfl rfl k_) ?_
              refine own_via (T' := T) (g' := (mkF m 150 #[.val (.int p0), .val (.int p1), .val (.int p2), .val (.int k), .val (.int (0 : Int32)), .val (.ref r53), .val (.int (1 : Int32)), .val (.ref r48), .val (.ref b50)] [(.int (0 : Int32)), (.ref r53), (.ref b55), (.ref b55)])) (fun t_ k_ => XS.iload X.here hx rfl (hb hby at_148) rfl k_) ?_
              obtain ⟨_, _, ⟨T, Lq, kq, nq⟩, -, X, ⟨Lc, hQ, lq, yq, zq⟩, st⟩ := X.specialBack hx (y := (⟨"com/example/wise_crawler/wisecrawler/crawl/Answer", "<init>", "(Ljava/util/Optional;Z)V"⟩ : MethodName)) rfl hown (mvT hZ (hw _ (List.mem_of_getElem? (i := 9) rfl))) (mvT hZ (hw _ (List.mem_of_getElem? (i := 10) rfl))) (mvT hZ (hw _ (List.mem_of_getElem? (i := 11) rfl))) (by decide) (backOf (W := 1) (own_ansinit l Z a0 hw [] b55 r53 (0 : Int32) h56 n0 O E_b55 F_response_b55 F_timedOut_b55 g_b55) hZ (hw _ (List.mem_of_getElem? (i := 11) rfl)) (hw _ (List.mem_of_getElem? (i := 8) rfl)) (by decide) (by decide)) (g := (mkF m 150 #[.val (.int p0), .val (.int p1), .val (.int p2), .val (.int k), .val (.int (0 : Int32)), .val (.ref r53), .val (.int (1 : Int32)), .val (.ref r48), .val (.ref b50)] [(.int (0 : Int32)), (.ref r53), (.ref b55), (.ref b55)])) rfl (by rw [hml]; rfl) (Steps.refl _) (a := b55) (argsL := [(.ref r53), (.int (0 : Int32))]) (rest := [(.ref b55)]) (lenOf own_pd6 rfl) rfl (by show 2 * 0 + _ ≤ _; exact Nat.le_of_eq rfl) (hb hby at_150) (fun _ _ => ⟨rfl, eT, (by decide : 4 + 0 ≤ _), (by decide : 12 + 0 ≤ _)⟩)
              dsimp only [Pt.U, Pt.locs, Pt.cells, Pt.slots] at X lq yq zq st hQ
              subst lq yq zq
              obtain ⟨rfl, Nq, Kq, E_b55, F_response_b55⟩ := hQ
              replace N := Fr.app N Nq
              obtain ⟨h57, eT⟩ : ∃ z, T.heap = z := ⟨_, rfl⟩
              rw [eT] at Kq E_b55 F_response_b55
              replace E_r48 := E_r48.keep Kq
              replace F_value_r48 := F_value_r48.keep Kq (ninS ne_r48_b55 nin0)
              replace E_b50 := E_b50.keep Kq
              replace F_truncation_b50 := F_truncation_b50.keep Kq (ninS ne_b50_b55 nin0)
              replace E_r53 := E_r53.keep Kq
              replace F_value_r53 := F_value_r53.keep Kq (ninS ne_r53_b55 nin0)
              replace O := O.keep Kq (allS g_b55 all0)
              replace K0 := K0.trans Kq (allS (Or.inr sz_b55) all0)
              refine own_viaT (g' := (mkF m 153 #[.val (.int p0), .val (.int p1), .val (.int p2), .val (.int k), .val (.int (0 : Int32)), .val (.ref r53), .val (.int (1 : Int32)), .val (.ref r48), .val (.ref b50)] [(.ref b55)])) st ?_
              refine own_via (T' := T) (g' := (mkF m 155 #[.val (.int p0), .val (.int p1), .val (.int p2), .val (.int k), .val (.int (0 : Int32)), .val (.ref r53), .val (.int (1 : Int32)), .val (.ref b55), .val (.ref b50)] [])) (fun t_ k_ => XS.astore X.here hx rfl (hb hby at_153) rfl rfl (l' := #[.val (.int p0), .val (.int p1), .val (.int p2), .val (.int k), .val (.int (0 : Int32)), .val (.ref r53), .val (.int (1 : Int32)), .val (.ref b55), .val (.ref b50)]) rfl k_) ?_
              refine own_via (T' := T) (g' := (mkF m 157 #[.val (.int p0), .val (.int p1), .val (.int p2), .val (.int k), .val (.int (0 : Int32)), .val (.ref r53), .val (.int (1 : Int32)), .val (.ref b55), .val (.ref b50)] [(.ref b55)])) (fun t_ k_ => XS.aload X.here hx rfl (hb hby at_155) rfl rfl k_) ?_
              obtain ⟨cq, kq, qa, qb, qc⟩ := isOf hZ eT E_b55
              obtain ⟨_, _, ⟨T, Lq, kq, nq⟩, -, X, ⟨Lc, hQ, lq, yq, zq⟩, st⟩ := X.virtualBack hx (y := (⟨"com/example/wise_crawler/wisecrawler/crawl/Answer", "truncated", "()Z"⟩ : MethodName)) (z := (⟨"com/example/wise_crawler/wisecrawler/crawl/Answer", "truncated", "()Z"⟩ : MethodName)) hown (mvT hZ (hw _ (List.mem_of_getElem? (i := 24) rfl))) (mvT hZ (hw _ (List.mem_of_getElem? (i := 25) rfl))) (notFace_of_selects (args := #[]) (mvT hZ (hw _ (List.mem_of_getElem? (i := 27) rfl)))) (mvT hZ (hw _ (List.mem_of_getElem? (i := 27) rfl))) (mvT hZ (hw _ (List.mem_of_getElem? (i := 26) rfl))) (by decide) (backOf (W := 0) (own_tC l Z a0 hw [] b55 r53 aF cK b50 r48 wUNSPECIFIED h57 n0 O LM F_response_b55 E_r53 F_value_r53 E_b50 F_truncation_b50 E_r48 F_value_r48) hZ (hw _ (List.mem_of_getElem? (i := 28) rfl)) (hw _ (List.mem_of_getElem? (i := 8) rfl)) (by decide) (by decide)) qa qc (g := (mkF m 157 #[.val (.int p0), .val (.int p1), .val (.int p2), .val (.int k), .val (.int (0 : Int32)), .val (.ref r53), .val (.int (1 : Int32)), .val (.ref b55), .val (.ref b50)] [(.ref b55)])) rfl (by rw [hml]; rfl) (Steps.refl _) (argsL := []) (rest := []) (lenOf own_pd4 rfl) rfl (by show 2 * 0 + _ ≤ _; exact Nat.le_of_eq rfl) (hb hby at_157) (fun _ _ => ⟨rfl, eT, (by decide : 4 + 0 ≤ _), (by decide : 12 + 0 ≤ _)⟩)
              dsimp only [Pt.U, Pt.locs, Pt.cells, Pt.slots] at X lq yq zq st hQ
              subst lq yq zq
              obtain ⟨rfl, Nq, eT⟩ := hQ
              replace N := Fr.app N Nq
              refine own_viaT (g' := (mkF m 160 #[.val (.int p0), .val (.int p1), .val (.int p2), .val (.int k), .val (.int (0 : Int32)), .val (.ref r53), .val (.int (1 : Int32)), .val (.ref b55), .val (.ref b50)] [(.int (1 : Int32))])) st ?_
              refine own_via (T' := T) (g' := (mkF m 162 #[.val (.int p0), .val (.int p1), .val (.int p2), .val (.int k), .val (.int (0 : Int32)), .val (.ref r53), .val (.int (1 : Int32)), .val (.ref b55), .val (.ref b50)] [(.int (1 : Int32)), (.int (1 : Int32))])) (fun t_ k_ => XS.iload X.here hx rfl (hb hby at_160) rfl k_) ?_
              refine own_via (T' := T) (g' := (mkF m 165 #[.val (.int p0), .val (.int p1), .val (.int p2), .val (.int k), .val (.int (0 : Int32)), .val (.ref r53), .val (.int (1 : Int32)), .val (.ref b55), .val (.ref b50)] [])) (fun t_ k_ => XS.icmpNo X.here hx rfl (hb hby at_162) rfl (teq (by decide : (1 : Int32) = (1 : Int32))).2 k_) ?_
              refine own_via (T' := T) (g' := (mkF m 166 #[.val (.int p0), .val (.int p1), .val (.int p2), .val (.int k), .val (.int (0 : Int32)), .val (.ref r53), .val (.int (1 : Int32)), .val (.ref b55), .val (.ref b50)] [(.int (1 : Int32))])) (fun t_ k_ => XS.iconst X.here hx rfl (hb hby at_165) k_) ?_
              refine own_via (T' := T) (g' := (mkF m 170 #[.val (.int p0), .val (.int p1), .val (.int p2), .val (.int k), .val (.int (0 : Int32)), .val (.ref r53), .val (.int (1 : Int32)), .val (.ref b55), .val (.ref b50)] [(.int (1 : Int32))])) (fun t_ k_ => XS.goto X.here hx rfl (pc0 := 166) (pc' := 170) rfl (hb hby at_166) (by decide) (by decide) k_) ?_
              refine own_retN X hx hlk (t := .boolean) Bd.returns (by simp) (hb hby at_170) (by decide) (by decide) ?_
              rw [eT]
              exact ⟨rfl, N, trivial⟩
  · refine own_via (T' := T) (g' := (mkF m 14 #[.val (.int p0), .val (.int p1), .val (.int p2), .val (.int k), .unset, .unset, .unset, .unset, .unset] [])) (fun t_ k_ => XS.ifNo X.here hx rfl (hb hby at_11) rfl ((if0 _ _).trans (feq hc1).1) k_) ?_
    refine own_via (T' := T) (g' := (mkF m 15 #[.val (.int p0), .val (.int p1), .val (.int p2), .val (.int k), .unset, .unset, .unset, .unset, .unset] [(.int (1 : Int32))])) (fun t_ k_ => XS.iconst X.here hx rfl (hb hby at_14) k_) ?_
    refine own_via (T' := T) (g' := (mkF m 19 #[.val (.int p0), .val (.int p1), .val (.int p2), .val (.int k), .unset, .unset, .unset, .unset, .unset] [(.int (1 : Int32))])) (fun t_ k_ => XS.goto X.here hx rfl (pc0 := 15) (pc' := 19) rfl (hb hby at_15) (by decide) (by decide) k_) ?_
    refine own_via (T' := T) (g' := (mkF m 21 #[.val (.int p0), .val (.int p1), .val (.int p2), .val (.int k), .val (.int (1 : Int32)), .unset, .unset, .unset, .unset] [])) (fun t_ k_ => XS.istore X.here hx rfl (hb hby at_19) rfl (l' := #[.val (.int p0), .val (.int p1), .val (.int p2), .val (.int k), .val (.int (1 : Int32)), .unset, .unset, .unset, .unset]) rfl k_) ?_
    refine own_via (T' := T) (g' := (mkF m 22 #[.val (.int p0), .val (.int p1), .val (.int p2), .val (.int k), .val (.int (1 : Int32)), .unset, .unset, .unset, .unset] [(.int k)])) (fun t_ k_ => XS.iloadN X.here hx rfl (hb hby at_21) rfl k_) ?_
    by_cases hc58 : k = (0 : Int32)
    · refine own_via (T' := T) (g' := (mkF m 25 #[.val (.int p0), .val (.int p1), .val (.int p2), .val (.int k), .val (.int (1 : Int32)), .unset, .unset, .unset, .unset] [])) (fun t_ k_ => XS.ifNo X.here hx rfl (hb hby at_22) rfl ((if0 _ _).trans (teq hc58).2) k_) ?_
      obtain ⟨_, _, ⟨T, Lq, kq, nq⟩, -, X, ⟨Lc, hQ, lq, yq, zq⟩, st⟩ := Jvm.LawKit.callS X hx (y := (⟨"java/util/Optional", "empty", "()Ljava/util/Optional;"⟩ : MethodName)) hown (mvT hZ (hw _ (List.mem_of_getElem? (i := 1) rfl))) (mvT hZ (hw _ (List.mem_of_getElem? (i := 2) rfl))) (mvT hZ (hw _ (List.mem_of_getElem? (i := 3) rfl))) (mvT hZ (hw _ (List.mem_of_getElem? (i := 4) rfl))) (by decide) (backOf (W := 0) (own_optempty l Z a0 hw [] wEMPTY h n0 O S_EMPTY) hZ (hw _ (List.mem_of_getElem? (i := 4) rfl)) (hw _ (List.mem_of_getElem? (i := 3) rfl)) (by decide) (by decide)) (g := (mkF m 25 #[.val (.int p0), .val (.int p1), .val (.int p2), .val (.int k), .val (.int (1 : Int32)), .unset, .unset, .unset, .unset] [])) rfl (by rw [hml]; rfl) (argsL := []) (rest := []) (lenOf own_pd3 rfl) rfl (by show 2 * 0 + _ ≤ _; exact Nat.le_of_eq rfl) (hb hby at_25) (fun _ _ => ⟨rfl, eT, (by decide : 0 + 0 ≤ _), (by decide : 0 + 0 ≤ _)⟩)
      dsimp only [Pt.U, Pt.locs, Pt.cells, Pt.slots] at X lq yq zq st hQ
      subst lq yq zq
      obtain ⟨rfl, Nq, eT⟩ := hQ
      replace N := Fr.app N Nq
      refine own_via (g' := (mkF m 28 #[.val (.int p0), .val (.int p1), .val (.int p2), .val (.int k), .val (.int (1 : Int32)), .unset, .unset, .unset, .unset] [(.ref wEMPTY)])) st ?_
      refine own_via (T' := T) (g' := (mkF m 30 #[.val (.int p0), .val (.int p1), .val (.int p2), .val (.int k), .val (.int (1 : Int32)), .val (.ref wEMPTY), .unset, .unset, .unset] [])) (fun t_ k_ => XS.astore X.here hx rfl (hb hby at_28) rfl rfl (l' := #[.val (.int p0), .val (.int p1), .val (.int p2), .val (.int k), .val (.int (1 : Int32)), .val (.ref wEMPTY), .unset, .unset, .unset]) rfl k_) ?_
      refine own_via (T' := T) (g' := (mkF m 31 #[.val (.int p0), .val (.int p1), .val (.int p2), .val (.int k), .val (.int (1 : Int32)), .val (.ref wEMPTY), .unset, .unset, .unset] [(.int (0 : Int32))])) (fun t_ k_ => XS.iconst X.here hx rfl (hb hby at_30) k_) ?_
      refine own_via (T' := T) (g' := (mkF m 33 #[.val (.int p0), .val (.int p1), .val (.int p2), .val (.int k), .val (.int (1 : Int32)), .val (.ref wEMPTY), .val (.int (0 : Int32)), .unset, .unset] [])) (fun t_ k_ => XS.istore X.here hx rfl (hb hby at_31) rfl (l' := #[.val (.int p0), .val (.int p1), .val (.int p2), .val (.int k), .val (.int (1 : Int32)), .val (.ref wEMPTY), .val (.int (0 : Int32)), .unset, .unset]) rfl k_) ?_
      refine own_via (T' := T) (g' := (mkF m 142 #[.val (.int p0), .val (.int p1), .val (.int p2), .val (.int k), .val (.int (1 : Int32)), .val (.ref wEMPTY), .val (.int (0 : Int32)), .unset, .unset] [])) (fun t_ k_ => XS.goto X.here hx rfl (pc0 := 33) (pc' := 142) rfl (hb hby at_33) (by decide) (by decide) k_) ?_
      obtain ⟨b59, gb⟩ : ∃ z, z = h.size := ⟨_, rfl⟩
      obtain ⟨T, h60, X, eT, E, E_b59, Dq, -, st⟩ := newO X hx hZ hown (hw _ (List.mem_of_getElem? (i := 6) rfl)) (hw _ (List.mem_of_getElem? (i := 7) rfl)) (hw _ (List.mem_of_getElem? (i := 8) rfl)) eT (g := (mkF m 142 #[.val (.int p0), .val (.int p1), .val (.int p2), .val (.int k), .val (.int (1 : Int32)), .val (.ref wEMPTY), .val (.int (0 : Int32)), .unset, .unset] [])) rfl (hb hby at_142) (by decide) (by decide)
      rw [← gb] at E_b59 Dq st
      have g_b59 : n0 ≤ b59 := Nat.le_trans (own_le O) (Nat.le_of_eq gb.symm)
      have sz_b59 : h0.size ≤ b59 := Nat.le_trans K0.1 (Nat.le_of_eq gb.symm)
      replace O := O.ext E
      replace K0 := K0.ext E
      have F_response_b59 : Fld Z h60 b59 "com/example/wise_crawler/wisecrawler/crawl/Answer" "response" "Ljava/util/Optional;" .null := Dq (Or.inr (hw _ (List.mem_of_getElem? (i := 21) rfl))) (ty := (.object "java/util/Optional")) (by decide)
      have F_timedOut_b59 : Fld Z h60 b59 "com/example/wise_crawler/wisecrawler/crawl/Answer" "timedOut" "Z" (.int (0 : Int32)) := Dq (Or.inr (hw _ (List.mem_of_getElem? (i := 23) rfl))) (ty := .boolean) (by decide)
      refine own_via (g' := (mkF m 145 #[.val (.int p0), .val (.int p1), .val (.int p2), .val (.int k), .val (.int (1 : Int32)), .val (.ref wEMPTY), .val (.int (0 : Int32)), .unset, .unset] [(.ref b59)])) st ?_
      refine own_via (T' := T) (g' := (mkF m 146 #[.val (.int p0), .val (.int p1), .val (.int p2), .val (.int k), .val (.int (1 : Int32)), .val (.ref wEMPTY), .val (.int (0 : Int32)), .unset, .unset] [(.ref b59), (.ref b59)])) (fun t_ k_ => XS.dup X.here hx rfl (hb hby at_145) rfl rfl k_) ?_
      refine own_via (T' := T) (g' := (mkF m 148 #[.val (.int p0), .val (.int p1), .val (.int p2), .val (.int k), .val (.int (1 : Int32)), .val (.ref wEMPTY), .val (.int (0 : Int32)), .unset, .unset] [(.ref wEMPTY), (.ref b59), (.ref b59)])) (fun t_ k_ => XS.aload X.here hx rfl (hb hby at_146) rfl rfl k_) ?_
      refine own_via (T' := T) (g' := (mkF m 150 #[.val (.int p0), .val (.int p1), .val (.int p2), .val (.int k), .val (.int (1 : Int32)), .val (.ref wEMPTY), .val (.int (0 : Int32)), .unset, .unset] [(.int (1 : Int32)), (.ref wEMPTY), (.ref b59), (.ref b59)])) (fun t_ k_ => XS.iload X.here hx rfl (hb hby at_148) rfl k_) ?_
      obtain ⟨_, _, ⟨T, Lq, kq, nq⟩, -, X, ⟨Lc, hQ, lq, yq, zq⟩, st⟩ := X.specialBack hx (y := (⟨"com/example/wise_crawler/wisecrawler/crawl/Answer", "<init>", "(Ljava/util/Optional;Z)V"⟩ : MethodName)) rfl hown (mvT hZ (hw _ (List.mem_of_getElem? (i := 9) rfl))) (mvT hZ (hw _ (List.mem_of_getElem? (i := 10) rfl))) (mvT hZ (hw _ (List.mem_of_getElem? (i := 11) rfl))) (by decide) (backOf (W := 1) (own_ansinit l Z a0 hw [] b59 wEMPTY (1 : Int32) h60 n0 O E_b59 F_response_b59 F_timedOut_b59 g_b59) hZ (hw _ (List.mem_of_getElem? (i := 11) rfl)) (hw _ (List.mem_of_getElem? (i := 8) rfl)) (by decide) (by decide)) (g := (mkF m 150 #[.val (.int p0), .val (.int p1), .val (.int p2), .val (.int k), .val (.int (1 : Int32)), .val (.ref wEMPTY), .val (.int (0 : Int32)), .unset, .unset] [(.int (1 : Int32)), (.ref wEMPTY), (.ref b59), (.ref b59)])) rfl (by rw [hml]; rfl) (Steps.refl _) (a := b59) (argsL := [(.ref wEMPTY), (.int (1 : Int32))]) (rest := [(.ref b59)]) (lenOf own_pd6 rfl) rfl (by show 2 * 0 + _ ≤ _; exact Nat.le_of_eq rfl) (hb hby at_150) (fun _ _ => ⟨rfl, eT, (by decide : 1 + 0 ≤ _), (by decide : 2 + 0 ≤ _)⟩)
      dsimp only [Pt.U, Pt.locs, Pt.cells, Pt.slots] at X lq yq zq st hQ
      subst lq yq zq
      obtain ⟨rfl, Nq, Kq, E_b59, F_response_b59⟩ := hQ
      replace N := Fr.app N Nq
      obtain ⟨h61, eT⟩ : ∃ z, T.heap = z := ⟨_, rfl⟩
      rw [eT] at Kq E_b59 F_response_b59
      replace O := O.keep Kq (allS g_b59 all0)
      replace K0 := K0.trans Kq (allS (Or.inr sz_b59) all0)
      refine own_viaT (g' := (mkF m 153 #[.val (.int p0), .val (.int p1), .val (.int p2), .val (.int k), .val (.int (1 : Int32)), .val (.ref wEMPTY), .val (.int (0 : Int32)), .unset, .unset] [(.ref b59)])) st ?_
      refine own_via (T' := T) (g' := (mkF m 155 #[.val (.int p0), .val (.int p1), .val (.int p2), .val (.int k), .val (.int (1 : Int32)), .val (.ref wEMPTY), .val (.int (0 : Int32)), .val (.ref b59), .unset] [])) (fun t_ k_ => XS.astore X.here hx rfl (hb hby at_153) rfl rfl (l' := #[.val (.int p0), .val (.int p1), .val (.int p2), .val (.int k), .val (.int (1 : Int32)), .val (.ref wEMPTY), .val (.int (0 : Int32)), .val (.ref b59), .unset]) rfl k_) ?_
      refine own_via (T' := T) (g' := (mkF m 157 #[.val (.int p0), .val (.int p1), .val (.int p2), .val (.int k), .val (.int (1 : Int32)), .val (.ref wEMPTY), .val (.int (0 : Int32)), .val (.ref b59), .unset] [(.ref b59)])) (fun t_ k_ => XS.aload X.here hx rfl (hb hby at_155) rfl rfl k_) ?_
      obtain ⟨cq, kq, qa, qb, qc⟩ := isOf hZ eT E_b59
      obtain ⟨_, _, ⟨T, Lq, kq, nq⟩, -, X, ⟨Lc, hQ, lq, yq, zq⟩, st⟩ := X.virtualBack hx (y := (⟨"com/example/wise_crawler/wisecrawler/crawl/Answer", "truncated", "()Z"⟩ : MethodName)) (z := (⟨"com/example/wise_crawler/wisecrawler/crawl/Answer", "truncated", "()Z"⟩ : MethodName)) hown (mvT hZ (hw _ (List.mem_of_getElem? (i := 24) rfl))) (mvT hZ (hw _ (List.mem_of_getElem? (i := 25) rfl))) (notFace_of_selects (args := #[]) (mvT hZ (hw _ (List.mem_of_getElem? (i := 27) rfl)))) (mvT hZ (hw _ (List.mem_of_getElem? (i := 27) rfl))) (mvT hZ (hw _ (List.mem_of_getElem? (i := 26) rfl))) (by decide) (backOf (W := 0) (own_tA l Z a0 hw [] b59 wEMPTY aF cK wEMPTY h61 n0 O LM S_EMPTY E_w F_w F_response_b59 (E_w.ext O.2) (F_w.ext O.2)) hZ (hw _ (List.mem_of_getElem? (i := 28) rfl)) (hw _ (List.mem_of_getElem? (i := 8) rfl)) (by decide) (by decide)) qa qc (g := (mkF m 157 #[.val (.int p0), .val (.int p1), .val (.int p2), .val (.int k), .val (.int (1 : Int32)), .val (.ref wEMPTY), .val (.int (0 : Int32)), .val (.ref b59), .unset] [(.ref b59)])) rfl (by rw [hml]; rfl) (Steps.refl _) (argsL := []) (rest := []) (lenOf own_pd4 rfl) rfl (by show 2 * 0 + _ ≤ _; exact Nat.le_of_eq rfl) (hb hby at_157) (fun _ _ => ⟨rfl, eT, (by decide : 1 + 0 ≤ _), (by decide : 2 + 0 ≤ _)⟩)
      dsimp only [Pt.U, Pt.locs, Pt.cells, Pt.slots] at X lq yq zq st hQ
      subst lq yq zq
      obtain ⟨rfl, Nq, eT⟩ := hQ
      replace N := Fr.app N Nq
      refine own_viaT (g' := (mkF m 160 #[.val (.int p0), .val (.int p1), .val (.int p2), .val (.int k), .val (.int (1 : Int32)), .val (.ref wEMPTY), .val (.int (0 : Int32)), .val (.ref b59), .unset] [(.int (0 : Int32))])) st ?_
      refine own_via (T' := T) (g' := (mkF m 162 #[.val (.int p0), .val (.int p1), .val (.int p2), .val (.int k), .val (.int (1 : Int32)), .val (.ref wEMPTY), .val (.int (0 : Int32)), .val (.ref b59), .unset] [(.int (0 : Int32)), (.int (0 : Int32))])) (fun t_ k_ => XS.iload X.here hx rfl (hb hby at_160) rfl k_) ?_
      refine own_via (T' := T) (g' := (mkF m 165 #[.val (.int p0), .val (.int p1), .val (.int p2), .val (.int k), .val (.int (1 : Int32)), .val (.ref wEMPTY), .val (.int (0 : Int32)), .val (.ref b59), .unset] [])) (fun t_ k_ => XS.icmpNo X.here hx rfl (hb hby at_162) rfl (teq (by decide : (0 : Int32) = (0 : Int32))).2 k_) ?_
      refine own_via (T' := T) (g' := (mkF m 166 #[.val (.int p0), .val (.int p1), .val (.int p2), .val (.int k), .val (.int (1 : Int32)), .val (.ref wEMPTY), .val (.int (0 : Int32)), .val (.ref b59), .unset] [(.int (1 : Int32))])) (fun t_ k_ => XS.iconst X.here hx rfl (hb hby at_165) k_) ?_
      refine own_via (T' := T) (g' := (mkF m 170 #[.val (.int p0), .val (.int p1), .val (.int p2), .val (.int k), .val (.int (1 : Int32)), .val (.ref wEMPTY), .val (.int (0 : Int32)), .val (.ref b59), .unset] [(.int (1 : Int32))])) (fun t_ k_ => XS.goto X.here hx rfl (pc0 := 166) (pc' := 170) rfl (hb hby at_166) (by decide) (by decide) k_) ?_
      refine own_retN X hx hlk (t := .boolean) Bd.returns (by simp) (hb hby at_170) (by decide) (by decide) ?_
      rw [eT]
      exact ⟨rfl, N, trivial⟩
    · refine own_via (T' := T) (g' := (mkF m 36 #[.val (.int p0), .val (.int p1), .val (.int p2), .val (.int k), .val (.int (1 : Int32)), .unset, .unset, .unset, .unset] [])) (fun t_ k_ => XS.ifYes X.here hx rfl (pc0 := 22) (pc' := 36) rfl (hb hby at_22) rfl ((if0 _ _).trans (feq hc58).2) (by decide) (by decide) k_) ?_
      refine own_via (T' := T) (g' := (mkF m 37 #[.val (.int p0), .val (.int p1), .val (.int p2), .val (.int k), .val (.int (1 : Int32)), .unset, .unset, .unset, .unset] [(.int k)])) (fun t_ k_ => XS.iloadN X.here hx rfl (hb hby at_36) rfl k_) ?_
      refine own_via (T' := T) (g' := (mkF m 38 #[.val (.int p0), .val (.int p1), .val (.int p2), .val (.int k), .val (.int (1 : Int32)), .unset, .unset, .unset, .unset] [(.int (1 : Int32)), (.int k)])) (fun t_ k_ => XS.iconst X.here hx rfl (hb hby at_37) k_) ?_
      by_cases hc62 : k = (1 : Int32)
      · refine own_via (T' := T) (g' := (mkF m 41 #[.val (.int p0), .val (.int p1), .val (.int p2), .val (.int k), .val (.int (1 : Int32)), .unset, .unset, .unset, .unset] [])) (fun t_ k_ => XS.icmpNo X.here hx rfl (hb hby at_38) rfl (teq hc62).2 k_) ?_
        obtain ⟨_, _, ⟨T, Lq, kq, nq⟩, -, X, ⟨Lc, hQ, lq, yq, zq⟩, st⟩ := Jvm.LawKit.callS X hx (y := (⟨"java/util/Optional", "empty", "()Ljava/util/Optional;"⟩ : MethodName)) hown (mvT hZ (hw _ (List.mem_of_getElem? (i := 1) rfl))) (mvT hZ (hw _ (List.mem_of_getElem? (i := 2) rfl))) (mvT hZ (hw _ (List.mem_of_getElem? (i := 3) rfl))) (mvT hZ (hw _ (List.mem_of_getElem? (i := 4) rfl))) (by decide) (backOf (W := 0) (own_optempty l Z a0 hw [] wEMPTY h n0 O S_EMPTY) hZ (hw _ (List.mem_of_getElem? (i := 4) rfl)) (hw _ (List.mem_of_getElem? (i := 3) rfl)) (by decide) (by decide)) (g := (mkF m 41 #[.val (.int p0), .val (.int p1), .val (.int p2), .val (.int k), .val (.int (1 : Int32)), .unset, .unset, .unset, .unset] [])) rfl (by rw [hml]; rfl) (argsL := []) (rest := []) (lenOf own_pd3 rfl) rfl (by show 2 * 0 + _ ≤ _; exact Nat.le_of_eq rfl) (hb hby at_41) (fun _ _ => ⟨rfl, eT, (by decide : 0 + 0 ≤ _), (by decide : 0 + 0 ≤ _)⟩)
        dsimp only [Pt.U, Pt.locs, Pt.cells, Pt.slots] at X lq yq zq st hQ
        subst lq yq zq
        obtain ⟨rfl, Nq, eT⟩ := hQ
        replace N := Fr.app N Nq
        refine own_via (g' := (mkF m 44 #[.val (.int p0), .val (.int p1), .val (.int p2), .val (.int k), .val (.int (1 : Int32)), .unset, .unset, .unset, .unset] [(.ref wEMPTY)])) st ?_
        refine own_via (T' := T) (g' := (mkF m 46 #[.val (.int p0), .val (.int p1), .val (.int p2), .val (.int k), .val (.int (1 : Int32)), .unset, .unset, .val (.ref wEMPTY), .unset] [])) (fun t_ k_ => XS.astore X.here hx rfl (hb hby at_44) rfl rfl (l' := #[.val (.int p0), .val (.int p1), .val (.int p2), .val (.int k), .val (.int (1 : Int32)), .unset, .unset, .val (.ref wEMPTY), .unset]) rfl k_) ?_
        refine own_via (T' := T) (g' := (mkF m 105 #[.val (.int p0), .val (.int p1), .val (.int p2), .val (.int k), .val (.int (1 : Int32)), .unset, .unset, .val (.ref wEMPTY), .unset] [])) (fun t_ k_ => XS.goto X.here hx rfl (pc0 := 46) (pc' := 105) rfl (hb hby at_46) (by decide) (by decide) k_) ?_
        obtain ⟨b63, gb⟩ : ∃ z, z = h.size := ⟨_, rfl⟩
        obtain ⟨T, h64, X, eT, E, E_b63, Dq, -, st⟩ := newO X hx hZ hown (hw _ (List.mem_of_getElem? (i := 54) rfl)) (hw _ (List.mem_of_getElem? (i := 55) rfl)) (hw _ (List.mem_of_getElem? (i := 56) rfl)) eT (g := (mkF m 105 #[.val (.int p0), .val (.int p1), .val (.int p2), .val (.int k), .val (.int (1 : Int32)), .unset, .unset, .val (.ref wEMPTY), .unset] [])) rfl (hb hby at_105) (by decide) (by decide)
        rw [← gb] at E_b63 Dq st
        have g_b63 : n0 ≤ b63 := Nat.le_trans (own_le O) (Nat.le_of_eq gb.symm)
        have sz_b63 : h0.size ≤ b63 := Nat.le_trans K0.1 (Nat.le_of_eq gb.symm)
        replace O := O.ext E
        replace K0 := K0.ext E
        have F_url_b63 : Fld Z h64 b63 "com/example/wise_crawler/wisecrawler/fetch/Exchange" "url" "Lcom/example/wise_crawler/wisecrawler/url/CanonicalUrl;" .null := Dq (Or.inr (hw _ (List.mem_of_getElem? (i := 62) rfl))) (ty := (.object "com/example/wise_crawler/wisecrawler/url/CanonicalUrl")) (by decide)
        have F_date_b63 : Fld Z h64 b63 "com/example/wise_crawler/wisecrawler/fetch/Exchange" "date" "Ljava/time/Instant;" .null := Dq (Or.inr (hw _ (List.mem_of_getElem? (i := 64) rfl))) (ty := (.object "java/time/Instant")) (by decide)
        have F_protocol_b63 : Fld Z h64 b63 "com/example/wise_crawler/wisecrawler/fetch/Exchange" "protocol" "Ljava/lang/String;" .null := Dq (Or.inr (hw _ (List.mem_of_getElem? (i := 66) rfl))) (ty := (.object "java/lang/String")) (by decide)
        have F_requestHeaders_b63 : Fld Z h64 b63 "com/example/wise_crawler/wisecrawler/fetch/Exchange" "requestHeaders" "Lcom/example/wise_crawler/wisecrawler/fetch/HeaderFields;" .null := Dq (Or.inr (hw _ (List.mem_of_getElem? (i := 68) rfl))) (ty := (.object "com/example/wise_crawler/wisecrawler/fetch/HeaderFields")) (by decide)
        have F_status_b63 : Fld Z h64 b63 "com/example/wise_crawler/wisecrawler/fetch/Exchange" "status" "I" (.int (0 : Int32)) := Dq (Or.inr (hw _ (List.mem_of_getElem? (i := 70) rfl))) (ty := .int) (by decide)
        have F_responseHeaders_b63 : Fld Z h64 b63 "com/example/wise_crawler/wisecrawler/fetch/Exchange" "responseHeaders" "Lcom/example/wise_crawler/wisecrawler/fetch/HeaderFields;" .null := Dq (Or.inr (hw _ (List.mem_of_getElem? (i := 72) rfl))) (ty := (.object "com/example/wise_crawler/wisecrawler/fetch/HeaderFields")) (by decide)
        have F_body_b63 : Fld Z h64 b63 "com/example/wise_crawler/wisecrawler/fetch/Exchange" "body" "Lcom/example/wise_crawler/wisecrawler/fetch/SpooledBytes;" .null := Dq (Or.inr (hw _ (List.mem_of_getElem? (i := 74) rfl))) (ty := (.object "com/example/wise_crawler/wisecrawler/fetch/SpooledBytes")) (by decide)
        have F_truncation_b63 : Fld Z h64 b63 "com/example/wise_crawler/wisecrawler/fetch/Exchange" "truncation" "Ljava/util/Optional;" .null := Dq (Or.inr (hw _ (List.mem_of_getElem? (i := 76) rfl))) (ty := (.object "java/util/Optional")) (by decide)
        refine own_via (g' := (mkF m 108 #[.val (.int p0), .val (.int p1), .val (.int p2), .val (.int k), .val (.int (1 : Int32)), .unset, .unset, .val (.ref wEMPTY), .unset] [(.ref b63)])) st ?_
        refine own_via (T' := T) (g' := (mkF m 109 #[.val (.int p0), .val (.int p1), .val (.int p2), .val (.int k), .val (.int (1 : Int32)), .unset, .unset, .val (.ref wEMPTY), .unset] [(.ref b63), (.ref b63)])) (fun t_ k_ => XS.dup X.here hx rfl (hb hby at_108) rfl rfl k_) ?_
        refine own_via (T' := T) (g' := (mkF m 110 #[.val (.int p0), .val (.int p1), .val (.int p2), .val (.int k), .val (.int (1 : Int32)), .unset, .unset, .val (.ref wEMPTY), .unset] [.null, (.ref b63), (.ref b63)])) (fun t_ k_ => XS.aconstNull X.here hx rfl (hb hby at_109) k_) ?_
        refine own_via (T' := T) (g' := (mkF m 111 #[.val (.int p0), .val (.int p1), .val (.int p2), .val (.int k), .val (.int (1 : Int32)), .unset, .unset, .val (.ref wEMPTY), .unset] [.null, .null, (.ref b63), (.ref b63)])) (fun t_ k_ => XS.aconstNull X.here hx rfl (hb hby at_110) k_) ?_
        refine own_via (T' := T) (g' := (mkF m 112 #[.val (.int p0), .val (.int p1), .val (.int p2), .val (.int k), .val (.int (1 : Int32)), .unset, .unset, .val (.ref wEMPTY), .unset] [.null, .null, .null, (.ref b63), (.ref b63)])) (fun t_ k_ => XS.aconstNull X.here hx rfl (hb hby at_111) k_) ?_
        refine own_via (T' := T) (g' := (mkF m 113 #[.val (.int p0), .val (.int p1), .val (.int p2), .val (.int k), .val (.int (1 : Int32)), .unset, .unset, .val (.ref wEMPTY), .unset] [.null, .null, .null, .null, (.ref b63), (.ref b63)])) (fun t_ k_ => XS.aconstNull X.here hx rfl (hb hby at_112) k_) ?_
        refine own_via (T' := T) (g' := (mkF m 114 #[.val (.int p0), .val (.int p1), .val (.int p2), .val (.int k), .val (.int (1 : Int32)), .unset, .unset, .val (.ref wEMPTY), .unset] [(.int p2), .null, .null, .null, .null, (.ref b63), (.ref b63)])) (fun t_ k_ => XS.iloadN X.here hx rfl (hb hby at_113) rfl k_) ?_
        refine own_via (T' := T) (g' := (mkF m 115 #[.val (.int p0), .val (.int p1), .val (.int p2), .val (.int k), .val (.int (1 : Int32)), .unset, .unset, .val (.ref wEMPTY), .unset] [.null, (.int p2), .null, .null, .null, .null, (.ref b63), (.ref b63)])) (fun t_ k_ => XS.aconstNull X.here hx rfl (hb hby at_114) k_) ?_
        refine own_via (T' := T) (g' := (mkF m 116 #[.val (.int p0), .val (.int p1), .val (.int p2), .val (.int k), .val (.int (1 : Int32)), .unset, .unset, .val (.ref wEMPTY), .unset] [.null, .null, (.int p2), .null, .null, .null, .null, (.ref b63), (.ref b63)])) (fun t_ k_ => XS.aconstNull X.here hx rfl (hb hby at_115) k_) ?_
        refine own_via (T' := T) (g' := (mkF m 118 #[.val (.int p0), .val (.int p1), .val (.int p2), .val (.int k), .val (.int (1 : Int32)), .unset, .unset, .val (.ref wEMPTY), .unset] [(.ref wEMPTY), .null, .null, (.int p2), .null, .null, .null, .null, (.ref b63), (.ref b63)])) (fun t_ k_ => XS.aload X.here hx rfl (hb hby at_116) rfl rfl k_) ?_
        obtain ⟨_, _, ⟨T, Lq, kq, nq⟩, -, X, ⟨Lc, hQ, lq, yq, zq⟩, st⟩ := X.specialBack hx (y := (⟨"com/example/wise_crawler/wisecrawler/fetch/Exchange", "<init>", "(Lcom/example/wise_crawler/wisecrawler/url/CanonicalUrl;Ljava/time/Instant;Ljava/lang/String;Lcom/example/wise_crawler/wisecrawler/fetch/HeaderFields;ILcom/example/wise_crawler/wisecrawler/fetch/HeaderFields;Lcom/example/wise_crawler/wisecrawler/fetch/SpooledBytes;Ljava/util/Optional;)V"⟩ : MethodName)) rfl hown (mvT hZ (hw _ (List.mem_of_getElem? (i := 57) rfl))) (mvT hZ (hw _ (List.mem_of_getElem? (i := 58) rfl))) (mvT hZ (hw _ (List.mem_of_getElem? (i := 59) rfl))) (by decide) (backOf (W := 1) (own_exch l Z a0 hw [] b63 p2 wEMPTY h64 n0 O E_b63 F_url_b63 F_date_b63 F_protocol_b63 F_requestHeaders_b63 F_status_b63 F_responseHeaders_b63 F_body_b63 F_truncation_b63 g_b63) hZ (hw _ (List.mem_of_getElem? (i := 59) rfl)) (hw _ (List.mem_of_getElem? (i := 56) rfl)) (by decide) (by decide)) (g := (mkF m 118 #[.val (.int p0), .val (.int p1), .val (.int p2), .val (.int k), .val (.int (1 : Int32)), .unset, .unset, .val (.ref wEMPTY), .unset] [(.ref wEMPTY), .null, .null, (.int p2), .null, .null, .null, .null, (.ref b63), (.ref b63)])) rfl (by rw [hml]; rfl) (Steps.refl _) (a := b63) (argsL := [.null, .null, .null, .null, (.int p2), .null, .null, (.ref wEMPTY)]) (rest := [(.ref b63)]) (lenOf own_pd7 rfl) rfl (by show 2 * 0 + _ ≤ _; exact Nat.le_of_eq rfl) (hb hby at_118) (fun _ _ => ⟨rfl, eT, (by decide : 1 + 0 ≤ _), (by decide : 8 + 0 ≤ _)⟩)
        dsimp only [Pt.U, Pt.locs, Pt.cells, Pt.slots] at X lq yq zq st hQ
        subst lq yq zq
        obtain ⟨rfl, Nq, Kq, E_b63, F_truncation_b63⟩ := hQ
        replace N := Fr.app N Nq
        obtain ⟨h65, eT⟩ : ∃ z, T.heap = z := ⟨_, rfl⟩
        rw [eT] at Kq E_b63 F_truncation_b63
        replace O := O.keep Kq (allS g_b63 all0)
        replace K0 := K0.trans Kq (allS (Or.inr sz_b63) all0)
        refine own_viaT (g' := (mkF m 121 #[.val (.int p0), .val (.int p1), .val (.int p2), .val (.int k), .val (.int (1 : Int32)), .unset, .unset, .val (.ref wEMPTY), .unset] [(.ref b63)])) st ?_
        refine own_via (T' := T) (g' := (mkF m 123 #[.val (.int p0), .val (.int p1), .val (.int p2), .val (.int k), .val (.int (1 : Int32)), .unset, .unset, .val (.ref wEMPTY), .val (.ref b63)] [])) (fun t_ k_ => XS.astore X.here hx rfl (hb hby at_121) rfl rfl (l' := #[.val (.int p0), .val (.int p1), .val (.int p2), .val (.int k), .val (.int (1 : Int32)), .unset, .unset, .val (.ref wEMPTY), .val (.ref b63)]) rfl k_) ?_
        refine own_via (T' := T) (g' := (mkF m 125 #[.val (.int p0), .val (.int p1), .val (.int p2), .val (.int k), .val (.int (1 : Int32)), .unset, .unset, .val (.ref wEMPTY), .val (.ref b63)] [(.ref b63)])) (fun t_ k_ => XS.aload X.here hx rfl (hb hby at_123) rfl rfl k_) ?_
        obtain ⟨_, _, ⟨T, Lq, kq, nq⟩, -, X, ⟨Lc, hQ, lq, yq, zq⟩, st⟩ := Jvm.LawKit.callS X hx (y := (⟨"java/util/Optional", "of", "(Ljava/lang/Object;)Ljava/util/Optional;"⟩ : MethodName)) hown (mvT hZ (hw _ (List.mem_of_getElem? (i := 77) rfl))) (mvT hZ (hw _ (List.mem_of_getElem? (i := 78) rfl))) (mvT hZ (hw _ (List.mem_of_getElem? (i := 3) rfl))) (mvT hZ (hw _ (List.mem_of_getElem? (i := 79) rfl))) (by decide) (backOf (W := 0) (own_optof l Z a0 hw [] b63 h65 n0 O ) hZ (hw _ (List.mem_of_getElem? (i := 79) rfl)) (hw _ (List.mem_of_getElem? (i := 3) rfl)) (by decide) (by decide)) (g := (mkF m 125 #[.val (.int p0), .val (.int p1), .val (.int p2), .val (.int k), .val (.int (1 : Int32)), .unset, .unset, .val (.ref wEMPTY), .val (.ref b63)] [(.ref b63)])) rfl (by rw [hml]; rfl) (argsL := [(.ref b63)]) (rest := []) (lenOf own_pd8 rfl) rfl (by show 2 * 0 + _ ≤ _; exact Nat.le_of_eq rfl) (hb hby at_125) (fun _ _ => ⟨rfl, eT, (by decide : 1 + 1 ≤ _), (by decide : 8 + 1 ≤ _)⟩)
        dsimp only [Pt.U, Pt.locs, Pt.cells, Pt.slots] at X lq yq zq st hQ
        subst lq yq zq
        obtain ⟨r66, rfl, Nq, Kq, szq, E_r66, F_value_r66⟩ := hQ
        replace N := Fr.app N Nq
        obtain ⟨h67, eT⟩ : ∃ z, T.heap = z := ⟨_, rfl⟩
        rw [eT] at Kq E_r66 F_value_r66
        have ne_b63_r66 : b63 ≠ r66 := Nat.ne_of_lt (Nat.lt_of_lt_of_le E_b63.lt szq)
        have g_r66 : n0 ≤ r66 := Nat.le_trans (own_le O) szq
        have sz_r66 : h0.size ≤ r66 := Nat.le_trans K0.1 szq
        replace E_b63 := E_b63.keep Kq
        replace F_truncation_b63 := F_truncation_b63.keep Kq nin0
        replace O := O.keep Kq all0
        replace K0 := K0.trans Kq all0
        refine own_via (g' := (mkF m 128 #[.val (.int p0), .val (.int p1), .val (.int p2), .val (.int k), .val (.int (1 : Int32)), .unset, .unset, .val (.ref wEMPTY), .val (.ref b63)] [(.ref r66)])) st ?_
        refine own_via (T' := T) (g' := (mkF m 130 #[.val (.int p0), .val (.int p1), .val (.int p2), .val (.int k), .val (.int (1 : Int32)), .val (.ref r66), .unset, .val (.ref wEMPTY), .val (.ref b63)] [])) (fun t_ k_ => XS.astore X.here hx rfl (hb hby at_128) rfl rfl (l' := #[.val (.int p0), .val (.int p1), .val (.int p2), .val (.int k), .val (.int (1 : Int32)), .val (.ref r66), .unset, .val (.ref wEMPTY), .val (.ref b63)]) rfl k_) ?_
        refine own_via (T' := T) (g' := (mkF m 131 #[.val (.int p0), .val (.int p1), .val (.int p2), .val (.int k), .val (.int (1 : Int32)), .val (.ref r66), .unset, .val (.ref wEMPTY), .val (.ref b63)] [(.int k)])) (fun t_ k_ => XS.iloadN X.here hx rfl (hb hby at_130) rfl k_) ?_
        refine own_via (T' := T) (g' := (mkF m 132 #[.val (.int p0), .val (.int p1), .val (.int p2), .val (.int k), .val (.int (1 : Int32)), .val (.ref r66), .unset, .val (.ref wEMPTY), .val (.ref b63)] [(.int (1 : Int32)), (.int k)])) (fun t_ k_ => XS.iconst X.here hx rfl (hb hby at_131) k_) ?_
        refine own_via (T' := T) (g' := (mkF m 139 #[.val (.int p0), .val (.int p1), .val (.int p2), .val (.int k), .val (.int (1 : Int32)), .val (.ref r66), .unset, .val (.ref wEMPTY), .val (.ref b63)] [])) (fun t_ k_ => XS.icmpYes X.here hx rfl (pc0 := 132) (pc' := 139) rfl (hb hby at_132) rfl (teq hc62).1 (by decide) (by decide) k_) ?_
        refine own_via (T' := T) (g' := (mkF m 140 #[.val (.int p0), .val (.int p1), .val (.int p2), .val (.int k), .val (.int (1 : Int32)), .val (.ref r66), .unset, .val (.ref wEMPTY), .val (.ref b63)] [(.int (0 : Int32))])) (fun t_ k_ => XS.iconst X.here hx rfl (hb hby at_139) k_) ?_
        refine own_via (T' := T) (g' := (mkF m 142 #[.val (.int p0), .val (.int p1), .val (.int p2), .val (.int k), .val (.int (1 : Int32)), .val (.ref r66), .val (.int (0 : Int32)), .val (.ref wEMPTY), .val (.ref b63)] [])) (fun t_ k_ => XS.istore X.here hx rfl (hb hby at_140) rfl (l' := #[.val (.int p0), .val (.int p1), .val (.int p2), .val (.int k), .val (.int (1 : Int32)), .val (.ref r66), .val (.int (0 : Int32)), .val (.ref wEMPTY), .val (.ref b63)]) rfl k_) ?_
        obtain ⟨b68, gb⟩ : ∃ z, z = h67.size := ⟨_, rfl⟩
        obtain ⟨T, h69, X, eT, E, E_b68, Dq, -, st⟩ := newO X hx hZ hown (hw _ (List.mem_of_getElem? (i := 6) rfl)) (hw _ (List.mem_of_getElem? (i := 7) rfl)) (hw _ (List.mem_of_getElem? (i := 8) rfl)) eT (g := (mkF m 142 #[.val (.int p0), .val (.int p1), .val (.int p2), .val (.int k), .val (.int (1 : Int32)), .val (.ref r66), .val (.int (0 : Int32)), .val (.ref wEMPTY), .val (.ref b63)] [])) rfl (hb hby at_142) (by decide) (by decide)
        rw [← gb] at E_b68 Dq st
        have ne_b63_b68 : b63 ≠ b68 := Nat.ne_of_lt (Nat.lt_of_lt_of_le E_b63.lt (Nat.le_of_eq gb.symm))
        have ne_r66_b68 : r66 ≠ b68 := Nat.ne_of_lt (Nat.lt_of_lt_of_le E_r66.lt (Nat.le_of_eq gb.symm))
        have g_b68 : n0 ≤ b68 := Nat.le_trans (own_le O) (Nat.le_of_eq gb.symm)
        have sz_b68 : h0.size ≤ b68 := Nat.le_trans K0.1 (Nat.le_of_eq gb.symm)
        replace E_b63 := E_b63.ext E
        replace F_truncation_b63 := F_truncation_b63.ext E
        replace E_r66 := E_r66.ext E
        replace F_value_r66 := F_value_r66.ext E
        replace O := O.ext E
        replace K0 := K0.ext E
        have F_response_b68 : Fld Z h69 b68 "com/example/wise_crawler/wisecrawler/crawl/Answer" "response" "Ljava/util/Optional;" .null := Dq (Or.inr (hw _ (List.mem_of_getElem? (i := 21) rfl))) (ty := (.object "java/util/Optional")) (by decide)
        have F_timedOut_b68 : Fld Z h69 b68 "com/example/wise_crawler/wisecrawler/crawl/Answer" "timedOut" "Z" (.int (0 : Int32)) := Dq (Or.inr (hw _ (List.mem_of_getElem? (i := 23) rfl))) (ty := .boolean) (by decide)
        refine own_via (g' := (mkF m 145 #[.val (.int p0), .val (.int p1), .val (.int p2), .val (.int k), .val (.int (1 : Int32)), .val (.ref r66), .val (.int (0 : Int32)), .val (.ref wEMPTY), .val (.ref b63)] [(.ref b68)])) st ?_
        refine own_via (T' := T) (g' := (mkF m 146 #[.val (.int p0), .val (.int p1), .val (.int p2), .val (.int k), .val (.int (1 : Int32)), .val (.ref r66), .val (.int (0 : Int32)), .val (.ref wEMPTY), .val (.ref b63)] [(.ref b68), (.ref b68)])) (fun t_ k_ => XS.dup X.here hx rfl (hb hby at_145) rfl rfl k_) ?_
        refine own_via (T' := T) (g' := (mkF m 148 #[.val (.int p0), .val (.int p1), .val (.int p2), .val (.int k), .val (.int (1 : Int32)), .val (.ref r66), .val (.int (0 : Int32)), .val (.ref wEMPTY), .val (.ref b63)] [(.ref r66), (.ref b68), (.ref b68)])) (fun t_ k_ => XS.aload X.here hx rfl (hb hby at_146) rfl rfl k_) ?_
        refine own_via (T' := T) (g' := (mkF m 150 #[.val (.int p0), .val (.int p1), .val (.int p2), .val (.int k), .val (.int (1 : Int32)), .val (.ref r66), .val (.int (0 : Int32)), .val (.ref wEMPTY), .val (.ref b63)] [(.int (1 : Int32)), (.ref r66), (.ref b68), (.ref b68)])) (fun t_ k_ => XS.iload X.here hx rfl (hb hby at_148) rfl k_) ?_
        obtain ⟨_, _, ⟨T, Lq, kq, nq⟩, -, X, ⟨Lc, hQ, lq, yq, zq⟩, st⟩ := X.specialBack hx (y := (⟨"com/example/wise_crawler/wisecrawler/crawl/Answer", "<init>", "(Ljava/util/Optional;Z)V"⟩ : MethodName)) rfl hown (mvT hZ (hw _ (List.mem_of_getElem? (i := 9) rfl))) (mvT hZ (hw _ (List.mem_of_getElem? (i := 10) rfl))) (mvT hZ (hw _ (List.mem_of_getElem? (i := 11) rfl))) (by decide) (backOf (W := 1) (own_ansinit l Z a0 hw [] b68 r66 (1 : Int32) h69 n0 O E_b68 F_response_b68 F_timedOut_b68 g_b68) hZ (hw _ (List.mem_of_getElem? (i := 11) rfl)) (hw _ (List.mem_of_getElem? (i := 8) rfl)) (by decide) (by decide)) (g := (mkF m 150 #[.val (.int p0), .val (.int p1), .val (.int p2), .val (.int k), .val (.int (1 : Int32)), .val (.ref r66), .val (.int (0 : Int32)), .val (.ref wEMPTY), .val (.ref b63)] [(.int (1 : Int32)), (.ref r66), (.ref b68), (.ref b68)])) rfl (by rw [hml]; rfl) (Steps.refl _) (a := b68) (argsL := [(.ref r66), (.int (1 : Int32))]) (rest := [(.ref b68)]) (lenOf own_pd6 rfl) rfl (by show 2 * 0 + _ ≤ _; exact Nat.le_of_eq rfl) (hb hby at_150) (fun _ _ => ⟨rfl, eT, (by decide : 3 + 0 ≤ _), (by decide : 11 + 0 ≤ _)⟩)
        dsimp only [Pt.U, Pt.locs, Pt.cells, Pt.slots] at X lq yq zq st hQ
        subst lq yq zq
        obtain ⟨rfl, Nq, Kq, E_b68, F_response_b68⟩ := hQ
        replace N := Fr.app N Nq
        obtain ⟨h70, eT⟩ : ∃ z, T.heap = z := ⟨_, rfl⟩
        rw [eT] at Kq E_b68 F_response_b68
        replace E_b63 := E_b63.keep Kq
        replace F_truncation_b63 := F_truncation_b63.keep Kq (ninS ne_b63_b68 nin0)
        replace E_r66 := E_r66.keep Kq
        replace F_value_r66 := F_value_r66.keep Kq (ninS ne_r66_b68 nin0)
        replace O := O.keep Kq (allS g_b68 all0)
        replace K0 := K0.trans Kq (allS (Or.inr sz_b68) all0)
        refine own_viaT (g' := (mkF m 153 #[.val (.int p0), .val (.int p1), .val (.int p2), .val (.int k), .val (.int (1 : Int32)), .val (.ref r66), .val (.int (0 : Int32)), .val (.ref wEMPTY), .val (.ref b63)] [(.ref b68)])) st ?_
        refine own_via (T' := T) (g' := (mkF m 155 #[.val (.int p0), .val (.int p1), .val (.int p2), .val (.int k), .val (.int (1 : Int32)), .val (.ref r66), .val (.int (0 : Int32)), .val (.ref b68), .val (.ref b63)] [])) (fun t_ k_ => XS.astore X.here hx rfl (hb hby at_153) rfl rfl (l' := #[.val (.int p0), .val (.int p1), .val (.int p2), .val (.int k), .val (.int (1 : Int32)), .val (.ref r66), .val (.int (0 : Int32)), .val (.ref b68), .val (.ref b63)]) rfl k_) ?_
        refine own_via (T' := T) (g' := (mkF m 157 #[.val (.int p0), .val (.int p1), .val (.int p2), .val (.int k), .val (.int (1 : Int32)), .val (.ref r66), .val (.int (0 : Int32)), .val (.ref b68), .val (.ref b63)] [(.ref b68)])) (fun t_ k_ => XS.aload X.here hx rfl (hb hby at_155) rfl rfl k_) ?_
        obtain ⟨cq, kq, qa, qb, qc⟩ := isOf hZ eT E_b68
        obtain ⟨_, _, ⟨T, Lq, kq, nq⟩, -, X, ⟨Lc, hQ, lq, yq, zq⟩, st⟩ := X.virtualBack hx (y := (⟨"com/example/wise_crawler/wisecrawler/crawl/Answer", "truncated", "()Z"⟩ : MethodName)) (z := (⟨"com/example/wise_crawler/wisecrawler/crawl/Answer", "truncated", "()Z"⟩ : MethodName)) hown (mvT hZ (hw _ (List.mem_of_getElem? (i := 24) rfl))) (mvT hZ (hw _ (List.mem_of_getElem? (i := 25) rfl))) (notFace_of_selects (args := #[]) (mvT hZ (hw _ (List.mem_of_getElem? (i := 27) rfl)))) (mvT hZ (hw _ (List.mem_of_getElem? (i := 27) rfl))) (mvT hZ (hw _ (List.mem_of_getElem? (i := 26) rfl))) (by decide) (backOf (W := 0) (own_tB l Z a0 hw [] b68 r66 aF cK b63 wEMPTY h70 n0 O LM F_response_b68 E_r66 F_value_r66 E_b63 F_truncation_b63 (E_w.ext O.2) (F_w.ext O.2)) hZ (hw _ (List.mem_of_getElem? (i := 28) rfl)) (hw _ (List.mem_of_getElem? (i := 8) rfl)) (by decide) (by decide)) qa qc (g := (mkF m 157 #[.val (.int p0), .val (.int p1), .val (.int p2), .val (.int k), .val (.int (1 : Int32)), .val (.ref r66), .val (.int (0 : Int32)), .val (.ref b68), .val (.ref b63)] [(.ref b68)])) rfl (by rw [hml]; rfl) (Steps.refl _) (argsL := []) (rest := []) (lenOf own_pd4 rfl) rfl (by show 2 * 0 + _ ≤ _; exact Nat.le_of_eq rfl) (hb hby at_157) (fun _ _ => ⟨rfl, eT, (by decide : 3 + 0 ≤ _), (by decide : 11 + 0 ≤ _)⟩)
        dsimp only [Pt.U, Pt.locs, Pt.cells, Pt.slots] at X lq yq zq st hQ
        subst lq yq zq
        obtain ⟨rfl, Nq, eT⟩ := hQ
        replace N := Fr.app N Nq
        refine own_viaT (g' := (mkF m 160 #[.val (.int p0), .val (.int p1), .val (.int p2), .val (.int k), .val (.int (1 : Int32)), .val (.ref r66), .val (.int (0 : Int32)), .val (.ref b68), .val (.ref b63)] [(.int (0 : Int32))])) st ?_
        refine own_via (T' := T) (g' := (mkF m 162 #[.val (.int p0), .val (.int p1), .val (.int p2), .val (.int k), .val (.int (1 : Int32)), .val (.ref r66), .val (.int (0 : Int32)), .val (.ref b68), .val (.ref b63)] [(.int (0 : Int32)), (.int (0 : Int32))])) (fun t_ k_ => XS.iload X.here hx rfl (hb hby at_160) rfl k_) ?_
        refine own_via (T' := T) (g' := (mkF m 165 #[.val (.int p0), .val (.int p1), .val (.int p2), .val (.int k), .val (.int (1 : Int32)), .val (.ref r66), .val (.int (0 : Int32)), .val (.ref b68), .val (.ref b63)] [])) (fun t_ k_ => XS.icmpNo X.here hx rfl (hb hby at_162) rfl (teq (by decide : (0 : Int32) = (0 : Int32))).2 k_) ?_
        refine own_via (T' := T) (g' := (mkF m 166 #[.val (.int p0), .val (.int p1), .val (.int p2), .val (.int k), .val (.int (1 : Int32)), .val (.ref r66), .val (.int (0 : Int32)), .val (.ref b68), .val (.ref b63)] [(.int (1 : Int32))])) (fun t_ k_ => XS.iconst X.here hx rfl (hb hby at_165) k_) ?_
        refine own_via (T' := T) (g' := (mkF m 170 #[.val (.int p0), .val (.int p1), .val (.int p2), .val (.int k), .val (.int (1 : Int32)), .val (.ref r66), .val (.int (0 : Int32)), .val (.ref b68), .val (.ref b63)] [(.int (1 : Int32))])) (fun t_ k_ => XS.goto X.here hx rfl (pc0 := 166) (pc' := 170) rfl (hb hby at_166) (by decide) (by decide) k_) ?_
        refine own_retN X hx hlk (t := .boolean) Bd.returns (by simp) (hb hby at_170) (by decide) (by decide) ?_
        rw [eT]
        exact ⟨rfl, N, trivial⟩
      · refine own_via (T' := T) (g' := (mkF m 49 #[.val (.int p0), .val (.int p1), .val (.int p2), .val (.int k), .val (.int (1 : Int32)), .unset, .unset, .unset, .unset] [])) (fun t_ k_ => XS.icmpYes X.here hx rfl (pc0 := 38) (pc' := 49) rfl (hb hby at_38) rfl (feq hc62).2 (by decide) (by decide) k_) ?_
        refine own_via (T' := T) (g' := (mkF m 50 #[.val (.int p0), .val (.int p1), .val (.int p2), .val (.int k), .val (.int (1 : Int32)), .unset, .unset, .unset, .unset] [(.int k)])) (fun t_ k_ => XS.iloadN X.here hx rfl (hb hby at_49) rfl k_) ?_
        refine own_via (T' := T) (g' := (mkF m 51 #[.val (.int p0), .val (.int p1), .val (.int p2), .val (.int k), .val (.int (1 : Int32)), .unset, .unset, .unset, .unset] [(.int (2 : Int32)), (.int k)])) (fun t_ k_ => XS.iconst X.here hx rfl (hb hby at_50) k_) ?_
        by_cases hc71 : k = (2 : Int32)
        · refine own_via (T' := T) (g' := (mkF m 54 #[.val (.int p0), .val (.int p1), .val (.int p2), .val (.int k), .val (.int (1 : Int32)), .unset, .unset, .unset, .unset] [])) (fun t_ k_ => XS.icmpNo X.here hx rfl (hb hby at_51) rfl (teq hc71).2 k_) ?_
          obtain ⟨T, X, eT, st⟩ := getS2 X hx hZ hown (host := "") (Or.inl (hw _ (List.mem_of_getElem? (i := 94) rfl))) Via.refl eT (S_LENGTH.ext O.2) (g := (mkF m 54 #[.val (.int p0), .val (.int p1), .val (.int p2), .val (.int k), .val (.int (1 : Int32)), .unset, .unset, .unset, .unset] [])) rfl (hb hby at_54)
          refine own_via (g' := (mkF m 57 #[.val (.int p0), .val (.int p1), .val (.int p2), .val (.int k), .val (.int (1 : Int32)), .unset, .unset, .unset, .unset] [(.ref wLENGTH)])) st ?_
          obtain ⟨_, _, ⟨T, Lq, kq, nq⟩, -, X, ⟨Lc, hQ, lq, yq, zq⟩, st⟩ := Jvm.LawKit.callS X hx (y := (⟨"java/util/Optional", "of", "(Ljava/lang/Object;)Ljava/util/Optional;"⟩ : MethodName)) hown (mvT hZ (hw _ (List.mem_of_getElem? (i := 77) rfl))) (mvT hZ (hw _ (List.mem_of_getElem? (i := 78) rfl))) (mvT hZ (hw _ (List.mem_of_getElem? (i := 3) rfl))) (mvT hZ (hw _ (List.mem_of_getElem? (i := 79) rfl))) (by decide) (backOf (W := 0) (own_optof l Z a0 hw [] wLENGTH h n0 O ) hZ (hw _ (List.mem_of_getElem? (i := 79) rfl)) (hw _ (List.mem_of_getElem? (i := 3) rfl)) (by decide) (by decide)) (g := (mkF m 57 #[.val (.int p0), .val (.int p1), .val (.int p2), .val (.int k), .val (.int (1 : Int32)), .unset, .unset, .unset, .unset] [(.ref wLENGTH)])) rfl (by rw [hml]; rfl) (argsL := [(.ref wLENGTH)]) (rest := []) (lenOf own_pd8 rfl) rfl (by show 2 * 0 + _ ≤ _; exact Nat.le_of_eq rfl) (hb hby at_57) (fun _ _ => ⟨rfl, eT, (by decide : 0 + 1 ≤ _), (by decide : 0 + 1 ≤ _)⟩)
          dsimp only [Pt.U, Pt.locs, Pt.cells, Pt.slots] at X lq yq zq st hQ
          subst lq yq zq
          obtain ⟨r72, rfl, Nq, Kq, szq, E_r72, F_value_r72⟩ := hQ
          replace N := Fr.app N Nq
          obtain ⟨h73, eT⟩ : ∃ z, T.heap = z := ⟨_, rfl⟩
          rw [eT] at Kq E_r72 F_value_r72
          have g_r72 : n0 ≤ r72 := Nat.le_trans (own_le O) szq
          have sz_r72 : h0.size ≤ r72 := Nat.le_trans K0.1 szq
          replace O := O.keep Kq all0
          replace K0 := K0.trans Kq all0
          refine own_via (g' := (mkF m 60 #[.val (.int p0), .val (.int p1), .val (.int p2), .val (.int k), .val (.int (1 : Int32)), .unset, .unset, .unset, .unset] [(.ref r72)])) st ?_
          refine own_via (T' := T) (g' := (mkF m 62 #[.val (.int p0), .val (.int p1), .val (.int p2), .val (.int k), .val (.int (1 : Int32)), .unset, .unset, .val (.ref r72), .unset] [])) (fun t_ k_ => XS.astore X.here hx rfl (hb hby at_60) rfl rfl (l' := #[.val (.int p0), .val (.int p1), .val (.int p2), .val (.int k), .val (.int (1 : Int32)), .unset, .unset, .val (.ref r72), .unset]) rfl k_) ?_
          refine own_via (T' := T) (g' := (mkF m 105 #[.val (.int p0), .val (.int p1), .val (.int p2), .val (.int k), .val (.int (1 : Int32)), .unset, .unset, .val (.ref r72), .unset] [])) (fun t_ k_ => XS.goto X.here hx rfl (pc0 := 62) (pc' := 105) rfl (hb hby at_62) (by decide) (by decide) k_) ?_
          obtain ⟨b74, gb⟩ : ∃ z, z = h73.size := ⟨_, rfl⟩
          obtain ⟨T, h75, X, eT, E, E_b74, Dq, -, st⟩ := newO X hx hZ hown (hw _ (List.mem_of_getElem? (i := 54) rfl)) (hw _ (List.mem_of_getElem? (i := 55) rfl)) (hw _ (List.mem_of_getElem? (i := 56) rfl)) eT (g := (mkF m 105 #[.val (.int p0), .val (.int p1), .val (.int p2), .val (.int k), .val (.int (1 : Int32)), .unset, .unset, .val (.ref r72), .unset] [])) rfl (hb hby at_105) (by decide) (by decide)
          rw [← gb] at E_b74 Dq st
          have ne_r72_b74 : r72 ≠ b74 := Nat.ne_of_lt (Nat.lt_of_lt_of_le E_r72.lt (Nat.le_of_eq gb.symm))
          have g_b74 : n0 ≤ b74 := Nat.le_trans (own_le O) (Nat.le_of_eq gb.symm)
          have sz_b74 : h0.size ≤ b74 := Nat.le_trans K0.1 (Nat.le_of_eq gb.symm)
          replace E_r72 := E_r72.ext E
          replace F_value_r72 := F_value_r72.ext E
          replace O := O.ext E
          replace K0 := K0.ext E
          have F_url_b74 : Fld Z h75 b74 "com/example/wise_crawler/wisecrawler/fetch/Exchange" "url" "Lcom/example/wise_crawler/wisecrawler/url/CanonicalUrl;" .null := Dq (Or.inr (hw _ (List.mem_of_getElem? (i := 62) rfl))) (ty := (.object "com/example/wise_crawler/wisecrawler/url/CanonicalUrl")) (by decide)
          have F_date_b74 : Fld Z h75 b74 "com/example/wise_crawler/wisecrawler/fetch/Exchange" "date" "Ljava/time/Instant;" .null := Dq (Or.inr (hw _ (List.mem_of_getElem? (i := 64) rfl))) (ty := (.object "java/time/Instant")) (by decide)
          have F_protocol_b74 : Fld Z h75 b74 "com/example/wise_crawler/wisecrawler/fetch/Exchange" "protocol" "Ljava/lang/String;" .null := Dq (Or.inr (hw _ (List.mem_of_getElem? (i := 66) rfl))) (ty := (.object "java/lang/String")) (by decide)
          have F_requestHeaders_b74 : Fld Z h75 b74 "com/example/wise_crawler/wisecrawler/fetch/Exchange" "requestHeaders" "Lcom/example/wise_crawler/wisecrawler/fetch/HeaderFields;" .null := Dq (Or.inr (hw _ (List.mem_of_getElem? (i := 68) rfl))) (ty := (.object "com/example/wise_crawler/wisecrawler/fetch/HeaderFields")) (by decide)
          have F_status_b74 : Fld Z h75 b74 "com/example/wise_crawler/wisecrawler/fetch/Exchange" "status" "I" (.int (0 : Int32)) := Dq (Or.inr (hw _ (List.mem_of_getElem? (i := 70) rfl))) (ty := .int) (by decide)
          have F_responseHeaders_b74 : Fld Z h75 b74 "com/example/wise_crawler/wisecrawler/fetch/Exchange" "responseHeaders" "Lcom/example/wise_crawler/wisecrawler/fetch/HeaderFields;" .null := Dq (Or.inr (hw _ (List.mem_of_getElem? (i := 72) rfl))) (ty := (.object "com/example/wise_crawler/wisecrawler/fetch/HeaderFields")) (by decide)
          have F_body_b74 : Fld Z h75 b74 "com/example/wise_crawler/wisecrawler/fetch/Exchange" "body" "Lcom/example/wise_crawler/wisecrawler/fetch/SpooledBytes;" .null := Dq (Or.inr (hw _ (List.mem_of_getElem? (i := 74) rfl))) (ty := (.object "com/example/wise_crawler/wisecrawler/fetch/SpooledBytes")) (by decide)
          have F_truncation_b74 : Fld Z h75 b74 "com/example/wise_crawler/wisecrawler/fetch/Exchange" "truncation" "Ljava/util/Optional;" .null := Dq (Or.inr (hw _ (List.mem_of_getElem? (i := 76) rfl))) (ty := (.object "java/util/Optional")) (by decide)
          refine own_via (g' := (mkF m 108 #[.val (.int p0), .val (.int p1), .val (.int p2), .val (.int k), .val (.int (1 : Int32)), .unset, .unset, .val (.ref r72), .unset] [(.ref b74)])) st ?_
          refine own_via (T' := T) (g' := (mkF m 109 #[.val (.int p0), .val (.int p1), .val (.int p2), .val (.int k), .val (.int (1 : Int32)), .unset, .unset, .val (.ref r72), .unset] [(.ref b74), (.ref b74)])) (fun t_ k_ => XS.dup X.here hx rfl (hb hby at_108) rfl rfl k_) ?_
          refine own_via (T' := T) (g' := (mkF m 110 #[.val (.int p0), .val (.int p1), .val (.int p2), .val (.int k), .val (.int (1 : Int32)), .unset, .unset, .val (.ref r72), .unset] [.null, (.ref b74), (.ref b74)])) (fun t_ k_ => XS.aconstNull X.here hx rfl (hb hby at_109) k_) ?_
          refine own_via (T' := T) (g' := (mkF m 111 #[.val (.int p0), .val (.int p1), .val (.int p2), .val (.int k), .val (.int (1 : Int32)), .unset, .unset, .val (.ref r72), .unset] [.null, .null, (.ref b74), (.ref b74)])) (fun t_ k_ => XS.aconstNull X.here hx rfl (hb hby at_110) k_) ?_
          refine own_via (T' := T) (g' := (mkF m 112 #[.val (.int p0), .val (.int p1), .val (.int p2), .val (.int k), .val (.int (1 : Int32)), .unset, .unset, .val (.ref r72), .unset] [.null, .null, .null, (.ref b74), (.ref b74)])) (fun t_ k_ => XS.aconstNull X.here hx rfl (hb hby at_111) k_) ?_
          refine own_via (T' := T) (g' := (mkF m 113 #[.val (.int p0), .val (.int p1), .val (.int p2), .val (.int k), .val (.int (1 : Int32)), .unset, .unset, .val (.ref r72), .unset] [.null, .null, .null, .null, (.ref b74), (.ref b74)])) (fun t_ k_ => XS.aconstNull X.here hx rfl (hb hby at_112) k_) ?_
          refine own_via (T' := T) (g' := (mkF m 114 #[.val (.int p0), .val (.int p1), .val (.int p2), .val (.int k), .val (.int (1 : Int32)), .unset, .unset, .val (.ref r72), .unset] [(.int p2), .null, .null, .null, .null, (.ref b74), (.ref b74)])) (fun t_ k_ => XS.iloadN X.here hx rfl (hb hby at_113) rfl k_) ?_
          refine own_via (T' := T) (g' := (mkF m 115 #[.val (.int p0), .val (.int p1), .val (.int p2), .val (.int k), .val (.int (1 : Int32)), .unset, .unset, .val (.ref r72), .unset] [.null, (.int p2), .null, .null, .null, .null, (.ref b74), (.ref b74)])) (fun t_ k_ => XS.aconstNull X.here hx rfl (hb hby at_114) k_) ?_
          refine own_via (T' := T) (g' := (mkF m 116 #[.val (.int p0), .val (.int p1), .val (.int p2), .val (.int k), .val (.int (1 : Int32)), .unset, .unset, .val (.ref r72), .unset] [.null, .null, (.int p2), .null, .null, .null, .null, (.ref b74), (.ref b74)])) (fun t_ k_ => XS.aconstNull X.here hx rfl (hb hby at_115) k_) ?_
          refine own_via (T' := T) (g' := (mkF m 118 #[.val (.int p0), .val (.int p1), .val (.int p2), .val (.int k), .val (.int (1 : Int32)), .unset, .unset, .val (.ref r72), .unset] [(.ref r72), .null, .null, (.int p2), .null, .null, .null, .null, (.ref b74), (.ref b74)])) (fun t_ k_ => XS.aload X.here hx rfl (hb hby at_116) rfl rfl k_) ?_
          obtain ⟨_, _, ⟨T, Lq, kq, nq⟩, -, X, ⟨Lc, hQ, lq, yq, zq⟩, st⟩ := X.specialBack hx (y := (⟨"com/example/wise_crawler/wisecrawler/fetch/Exchange", "<init>", "(Lcom/example/wise_crawler/wisecrawler/url/CanonicalUrl;Ljava/time/Instant;Ljava/lang/String;Lcom/example/wise_crawler/wisecrawler/fetch/HeaderFields;ILcom/example/wise_crawler/wisecrawler/fetch/HeaderFields;Lcom/example/wise_crawler/wisecrawler/fetch/SpooledBytes;Ljava/util/Optional;)V"⟩ : MethodName)) rfl hown (mvT hZ (hw _ (List.mem_of_getElem? (i := 57) rfl))) (mvT hZ (hw _ (List.mem_of_getElem? (i := 58) rfl))) (mvT hZ (hw _ (List.mem_of_getElem? (i := 59) rfl))) (by decide) (backOf (W := 1) (own_exch l Z a0 hw [] b74 p2 r72 h75 n0 O E_b74 F_url_b74 F_date_b74 F_protocol_b74 F_requestHeaders_b74 F_status_b74 F_responseHeaders_b74 F_body_b74 F_truncation_b74 g_b74) hZ (hw _ (List.mem_of_getElem? (i := 59) rfl)) (hw _ (List.mem_of_getElem? (i := 56) rfl)) (by decide) (by decide)) (g := (mkF m 118 #[.val (.int p0), .val (.int p1), .val (.int p2), .val (.int k), .val (.int (1 : Int32)), .unset, .unset, .val (.ref r72), .unset] [(.ref r72), .null, .null, (.int p2), .null, .null, .null, .null, (.ref b74), (.ref b74)])) rfl (by rw [hml]; rfl) (Steps.refl _) (a := b74) (argsL := [.null, .null, .null, .null, (.int p2), .null, .null, (.ref r72)]) (rest := [(.ref b74)]) (lenOf own_pd7 rfl) rfl (by show 2 * 0 + _ ≤ _; exact Nat.le_of_eq rfl) (hb hby at_118) (fun _ _ => ⟨rfl, eT, (by decide : 2 + 0 ≤ _), (by decide : 9 + 0 ≤ _)⟩)
          dsimp only [Pt.U, Pt.locs, Pt.cells, Pt.slots] at X lq yq zq st hQ
          subst lq yq zq
          obtain ⟨rfl, Nq, Kq, E_b74, F_truncation_b74⟩ := hQ
          replace N := Fr.app N Nq
          obtain ⟨h76, eT⟩ : ∃ z, T.heap = z := ⟨_, rfl⟩
          rw [eT] at Kq E_b74 F_truncation_b74
          replace E_r72 := E_r72.keep Kq
          replace F_value_r72 := F_value_r72.keep Kq (ninS ne_r72_b74 nin0)
          replace O := O.keep Kq (allS g_b74 all0)
          replace K0 := K0.trans Kq (allS (Or.inr sz_b74) all0)
          refine own_viaT (g' := (mkF m 121 #[.val (.int p0), .val (.int p1), .val (.int p2), .val (.int k), .val (.int (1 : Int32)), .unset, .unset, .val (.ref r72), .unset] [(.ref b74)])) st ?_
          refine own_via (T' := T) (g' := (mkF m 123 #[.val (.int p0), .val (.int p1), .val (.int p2), .val (.int k), .val (.int (1 : Int32)), .unset, .unset, .val (.ref r72), .val (.ref b74)] [])) (fun t_ k_ => XS.astore X.here hx rfl (hb hby at_121) rfl rfl (l' := #[.val (.int p0), .val (.int p1), .val (.int p2), .val (.int k), .val (.int (1 : Int32)), .unset, .unset, .val (.ref r72), .val (.ref b74)]) rfl k_) ?_
          refine own_via (T' := T) (g' := (mkF m 125 #[.val (.int p0), .val (.int p1), .val (.int p2), .val (.int k), .val (.int (1 : Int32)), .unset, .unset, .val (.ref r72), .val (.ref b74)] [(.ref b74)])) (fun t_ k_ => XS.aload X.here hx rfl (hb hby at_123) rfl rfl k_) ?_
          obtain ⟨_, _, ⟨T, Lq, kq, nq⟩, -, X, ⟨Lc, hQ, lq, yq, zq⟩, st⟩ := Jvm.LawKit.callS X hx (y := (⟨"java/util/Optional", "of", "(Ljava/lang/Object;)Ljava/util/Optional;"⟩ : MethodName)) hown (mvT hZ (hw _ (List.mem_of_getElem? (i := 77) rfl))) (mvT hZ (hw _ (List.mem_of_getElem? (i := 78) rfl))) (mvT hZ (hw _ (List.mem_of_getElem? (i := 3) rfl))) (mvT hZ (hw _ (List.mem_of_getElem? (i := 79) rfl))) (by decide) (backOf (W := 0) (own_optof l Z a0 hw [] b74 h76 n0 O ) hZ (hw _ (List.mem_of_getElem? (i := 79) rfl)) (hw _ (List.mem_of_getElem? (i := 3) rfl)) (by decide) (by decide)) (g := (mkF m 125 #[.val (.int p0), .val (.int p1), .val (.int p2), .val (.int k), .val (.int (1 : Int32)), .unset, .unset, .val (.ref r72), .val (.ref b74)] [(.ref b74)])) rfl (by rw [hml]; rfl) (argsL := [(.ref b74)]) (rest := []) (lenOf own_pd8 rfl) rfl (by show 2 * 0 + _ ≤ _; exact Nat.le_of_eq rfl) (hb hby at_125) (fun _ _ => ⟨rfl, eT, (by decide : 2 + 1 ≤ _), (by decide : 9 + 1 ≤ _)⟩)
          dsimp only [Pt.U, Pt.locs, Pt.cells, Pt.slots] at X lq yq zq st hQ
          subst lq yq zq
          obtain ⟨r77, rfl, Nq, Kq, szq, E_r77, F_value_r77⟩ := hQ
          replace N := Fr.app N Nq
          obtain ⟨h78, eT⟩ : ∃ z, T.heap = z := ⟨_, rfl⟩
          rw [eT] at Kq E_r77 F_value_r77
          have ne_b74_r77 : b74 ≠ r77 := Nat.ne_of_lt (Nat.lt_of_lt_of_le E_b74.lt szq)
          have ne_r72_r77 : r72 ≠ r77 := Nat.ne_of_lt (Nat.lt_of_lt_of_le E_r72.lt szq)
          have g_r77 : n0 ≤ r77 := Nat.le_trans (own_le O) szq
          have sz_r77 : h0.size ≤ r77 := Nat.le_trans K0.1 szq
          replace E_r72 := E_r72.keep Kq
          replace F_value_r72 := F_value_r72.keep Kq nin0
          replace E_b74 := E_b74.keep Kq
          replace F_truncation_b74 := F_truncation_b74.keep Kq nin0
          replace O := O.keep Kq all0
          replace K0 := K0.trans Kq all0
          refine own_via (g' := (mkF m 128 #[.val (.int p0), .val (.int p1), .val (.int p2), .val (.int k), .val (.int (1 : Int32)), .unset, .unset, .val (.ref r72), .val (.ref b74)] [(.ref r77)])) st ?_
          refine own_via (T' := T) (g' := (mkF m 130 #[.val (.int p0), .val (.int p1), .val (.int p2), .val (.int k), .val (.int (1 : Int32)), .val (.ref r77), .unset, .val (.ref r72), .val (.ref b74)] [])) (fun t_ k_ => XS.astore X.here hx rfl (hb hby at_128) rfl rfl (l' := #[.val (.int p0), .val (.int p1), .val (.int p2), .val (.int k), .val (.int (1 : Int32)), .val (.ref r77), .unset, .val (.ref r72), .val (.ref b74)]) rfl k_) ?_
          refine own_via (T' := T) (g' := (mkF m 131 #[.val (.int p0), .val (.int p1), .val (.int p2), .val (.int k), .val (.int (1 : Int32)), .val (.ref r77), .unset, .val (.ref r72), .val (.ref b74)] [(.int k)])) (fun t_ k_ => XS.iloadN X.here hx rfl (hb hby at_130) rfl k_) ?_
          refine own_via (T' := T) (g' := (mkF m 132 #[.val (.int p0), .val (.int p1), .val (.int p2), .val (.int k), .val (.int (1 : Int32)), .val (.ref r77), .unset, .val (.ref r72), .val (.ref b74)] [(.int (1 : Int32)), (.int k)])) (fun t_ k_ => XS.iconst X.here hx rfl (hb hby at_131) k_) ?_
          refine own_via (T' := T) (g' := (mkF m 135 #[.val (.int p0), .val (.int p1), .val (.int p2), .val (.int k), .val (.int (1 : Int32)), .val (.ref r77), .unset, .val (.ref r72), .val (.ref b74)] [])) (fun t_ k_ => XS.icmpNo X.here hx rfl (hb hby at_132) rfl (feq hc62).1 k_) ?_
          refine own_via (T' := T) (g' := (mkF m 136 #[.val (.int p0), .val (.int p1), .val (.int p2), .val (.int k), .val (.int (1 : Int32)), .val (.ref r77), .unset, .val (.ref r72), .val (.ref b74)] [(.int (1 : Int32))])) (fun t_ k_ => XS.iconst X.here hx rfl (hb hby at_135) k_) ?_
          refine own_via (T' := T) (g' := (mkF m 140 #[.val (.int p0), .val (.int p1), .val (.int p2), .val (.int k), .val (.int (1 : Int32)), .val (.ref r77), .unset, .val (.ref r72), .val (.ref b74)] [(.int (1 : Int32))])) (fun t_ k_ => XS.goto X.here hx rfl (pc0 := 136) (pc' := 140) rfl (hb hby at_136) (by decide) (by decide) k_) ?_
          refine own_via (T' := T) (g' := (mkF m 142 #[.val (.int p0), .val (.int p1), .val (.int p2), .val (.int k), .val (.int (1 : Int32)), .val (.ref r77), .val (.int (1 : Int32)), .val (.ref r72), .val (.ref b74)] [])) (fun t_ k_ => XS.istore X.here hx rfl (hb hby at_140) rfl (l' := #[.val (.int p0), .val (.int p1), .val (.int p2), .val (.int k), .val (.int (1 : Int32)), .val (.ref r77), .val (.int (1 : Int32)), .val (.ref r72), .val (.ref b74)]) rfl k_) ?_
          obtain ⟨b79, gb⟩ : ∃ z, z = h78.size := ⟨_, rfl⟩
          obtain ⟨T, h80, X, eT, E, E_b79, Dq, -, st⟩ := newO X hx hZ hown (hw _ (List.mem_of_getElem? (i := 6) rfl)) (hw _ (List.mem_of_getElem? (i := 7) rfl)) (hw _ (List.mem_of_getElem? (i := 8) rfl)) eT (g := (mkF m 142 #[.val (.int p0), .val (.int p1), .val (.int p2), .val (.int k), .val (.int (1 : Int32)), .val (.ref r77), .val (.int (1 : Int32)), .val (.ref r72), .val (.ref b74)] [])) rfl (hb hby at_142) (by decide) (by decide)
          rw [← gb] at E_b79 Dq st
          have ne_b74_b79 : b74 ≠ b79 := Nat.ne_of_lt (Nat.lt_of_lt_of_le E_b74.lt (Nat.le_of_eq gb.symm))
          have ne_r72_b79 : r72 ≠ b79 := Nat.ne_of_lt (Nat.lt_of_lt_of_le E_r72.lt (Nat.le_of_eq gb.symm))
          have ne_r77_b79 : r77 ≠ b79 := Nat.ne_of_lt (Nat.lt_of_lt_of_le E_r77.lt (Nat.le_of_eq gb.symm))
          have g_b79 : n0 ≤ b79 := Nat.le_trans (own_le O) (Nat.le_of_eq gb.symm)
          have sz_b79 : h0.size ≤ b79 := Nat.le_trans K0.1 (Nat.le_of_eq gb.symm)
          replace E_r72 := E_r72.ext E
          replace F_value_r72 := F_value_r72.ext E
          replace E_b74 := E_b74.ext E
          replace F_truncation_b74 := F_truncation_b74.ext E
          replace E_r77 := E_r77.ext E
          replace F_value_r77 := F_value_r77.ext E
          replace O := O.ext E
          replace K0 := K0.ext E
          have F_response_b79 : Fld Z h80 b79 "com/example/wise_crawler/wisecrawler/crawl/Answer" "response" "Ljava/util/Optional;" .null := Dq (Or.inr (hw _ (List.mem_of_getElem? (i := 21) rfl))) (ty := (.object "java/util/Optional")) (by decide)
          have F_timedOut_b79 : Fld Z h80 b79 "com/example/wise_crawler/wisecrawler/crawl/Answer" "timedOut" "Z" (.int (0 : Int32)) := Dq (Or.inr (hw _ (List.mem_of_getElem? (i := 23) rfl))) (ty := .boolean) (by decide)
          refine own_via (g' := (mkF m 145 #[.val (.int p0), .val (.int p1), .val (.int p2), .val (.int k), .val (.int (1 : Int32)), .val (.ref r77), .val (.int (1 : Int32)), .val (.ref r72), .val (.ref b74)] [(.ref b79)])) st ?_
          refine own_via (T' := T) (g' := (mkF m 146 #[.val (.int p0), .val (.int p1), .val (.int p2), .val (.int k), .val (.int (1 : Int32)), .val (.ref r77), .val (.int (1 : Int32)), .val (.ref r72), .val (.ref b74)] [(.ref b79), (.ref b79)])) (fun t_ k_ => XS.dup X.here hx rfl (hb hby at_145) rfl rfl k_) ?_
          refine own_via (T' := T) (g' := (mkF m 148 #[.val (.int p0), .val (.int p1), .val (.int p2), .val (.int k), .val (.int (1 : Int32)), .val (.ref r77), .val (.int (1 : Int32)), .val (.ref r72), .val (.ref b74)] [(.ref r77), (.ref b79), (.ref b79)])) (fun t_ k_ => XS.aload X.here hx rfl (hb hby at_146) rfl rfl k_) ?_
          refine own_via (T' := T) (g' := (mkF m 150 #[.val (.int p0), .val (.int p1), .val (.int p2), .val (.int k), .val (.int (1 : Int32)), .val (.ref r77), .val (.int (1 : Int32)), .val (.ref r72), .val (.ref b74)] [(.int (1 : Int32)), (.ref r77), (.ref b79), (.ref b79)])) (fun t_ k_ => XS.iload X.here hx rfl (hb hby at_148) rfl k_) ?_
          obtain ⟨_, _, ⟨T, Lq, kq, nq⟩, -, X, ⟨Lc, hQ, lq, yq, zq⟩, st⟩ := X.specialBack hx (y := (⟨"com/example/wise_crawler/wisecrawler/crawl/Answer", "<init>", "(Ljava/util/Optional;Z)V"⟩ : MethodName)) rfl hown (mvT hZ (hw _ (List.mem_of_getElem? (i := 9) rfl))) (mvT hZ (hw _ (List.mem_of_getElem? (i := 10) rfl))) (mvT hZ (hw _ (List.mem_of_getElem? (i := 11) rfl))) (by decide) (backOf (W := 1) (own_ansinit l Z a0 hw [] b79 r77 (1 : Int32) h80 n0 O E_b79 F_response_b79 F_timedOut_b79 g_b79) hZ (hw _ (List.mem_of_getElem? (i := 11) rfl)) (hw _ (List.mem_of_getElem? (i := 8) rfl)) (by decide) (by decide)) (g := (mkF m 150 #[.val (.int p0), .val (.int p1), .val (.int p2), .val (.int k), .val (.int (1 : Int32)), .val (.ref r77), .val (.int (1 : Int32)), .val (.ref r72), .val (.ref b74)] [(.int (1 : Int32)), (.ref r77), (.ref b79), (.ref b79)])) rfl (by rw [hml]; rfl) (Steps.refl _) (a := b79) (argsL := [(.ref r77), (.int (1 : Int32))]) (rest := [(.ref b79)]) (lenOf own_pd6 rfl) rfl (by show 2 * 0 + _ ≤ _; exact Nat.le_of_eq rfl) (hb hby at_150) (fun _ _ => ⟨rfl, eT, (by decide : 4 + 0 ≤ _), (by decide : 12 + 0 ≤ _)⟩)
          dsimp only [Pt.U, Pt.locs, Pt.cells, Pt.slots] at X lq yq zq st hQ
          subst lq yq zq
          obtain ⟨rfl, Nq, Kq, E_b79, F_response_b79⟩ := hQ
          replace N := Fr.app N Nq
          obtain ⟨h81, eT⟩ : ∃ z, T.heap = z := ⟨_, rfl⟩
          rw [eT] at Kq E_b79 F_response_b79
          replace E_r72 := E_r72.keep Kq
          replace F_value_r72 := F_value_r72.keep Kq (ninS ne_r72_b79 nin0)
          replace E_b74 := E_b74.keep Kq
          replace F_truncation_b74 := F_truncation_b74.keep Kq (ninS ne_b74_b79 nin0)
          replace E_r77 := E_r77.keep Kq
          replace F_value_r77 := F_value_r77.keep Kq (ninS ne_r77_b79 nin0)
          replace O := O.keep Kq (allS g_b79 all0)
          replace K0 := K0.trans Kq (allS (Or.inr sz_b79) all0)
          refine own_viaT (g' := (mkF m 153 #[.val (.int p0), .val (.int p1), .val (.int p2), .val (.int k), .val (.int (1 : Int32)), .val (.ref r77), .val (.int (1 : Int32)), .val (.ref r72), .val (.ref b74)] [(.ref b79)])) st ?_
          refine own_via (T' := T) (g' := (mkF m 155 #[.val (.int p0), .val (.int p1), .val (.int p2), .val (.int k), .val (.int (1 : Int32)), .val (.ref r77), .val (.int (1 : Int32)), .val (.ref b79), .val (.ref b74)] [])) (fun t_ k_ => XS.astore X.here hx rfl (hb hby at_153) rfl rfl (l' := #[.val (.int p0), .val (.int p1), .val (.int p2), .val (.int k), .val (.int (1 : Int32)), .val (.ref r77), .val (.int (1 : Int32)), .val (.ref b79), .val (.ref b74)]) rfl k_) ?_
          refine own_via (T' := T) (g' := (mkF m 157 #[.val (.int p0), .val (.int p1), .val (.int p2), .val (.int k), .val (.int (1 : Int32)), .val (.ref r77), .val (.int (1 : Int32)), .val (.ref b79), .val (.ref b74)] [(.ref b79)])) (fun t_ k_ => XS.aload X.here hx rfl (hb hby at_155) rfl rfl k_) ?_
          obtain ⟨cq, kq, qa, qb, qc⟩ := isOf hZ eT E_b79
          obtain ⟨_, _, ⟨T, Lq, kq, nq⟩, -, X, ⟨Lc, hQ, lq, yq, zq⟩, st⟩ := X.virtualBack hx (y := (⟨"com/example/wise_crawler/wisecrawler/crawl/Answer", "truncated", "()Z"⟩ : MethodName)) (z := (⟨"com/example/wise_crawler/wisecrawler/crawl/Answer", "truncated", "()Z"⟩ : MethodName)) hown (mvT hZ (hw _ (List.mem_of_getElem? (i := 24) rfl))) (mvT hZ (hw _ (List.mem_of_getElem? (i := 25) rfl))) (notFace_of_selects (args := #[]) (mvT hZ (hw _ (List.mem_of_getElem? (i := 27) rfl)))) (mvT hZ (hw _ (List.mem_of_getElem? (i := 27) rfl))) (mvT hZ (hw _ (List.mem_of_getElem? (i := 26) rfl))) (by decide) (backOf (W := 0) (own_tC l Z a0 hw [] b79 r77 aF cK b74 r72 wLENGTH h81 n0 O LM F_response_b79 E_r77 F_value_r77 E_b74 F_truncation_b74 E_r72 F_value_r72) hZ (hw _ (List.mem_of_getElem? (i := 28) rfl)) (hw _ (List.mem_of_getElem? (i := 8) rfl)) (by decide) (by decide)) qa qc (g := (mkF m 157 #[.val (.int p0), .val (.int p1), .val (.int p2), .val (.int k), .val (.int (1 : Int32)), .val (.ref r77), .val (.int (1 : Int32)), .val (.ref b79), .val (.ref b74)] [(.ref b79)])) rfl (by rw [hml]; rfl) (Steps.refl _) (argsL := []) (rest := []) (lenOf own_pd4 rfl) rfl (by show 2 * 0 + _ ≤ _; exact Nat.le_of_eq rfl) (hb hby at_157) (fun _ _ => ⟨rfl, eT, (by decide : 4 + 0 ≤ _), (by decide : 12 + 0 ≤ _)⟩)
          dsimp only [Pt.U, Pt.locs, Pt.cells, Pt.slots] at X lq yq zq st hQ
          subst lq yq zq
          obtain ⟨rfl, Nq, eT⟩ := hQ
          replace N := Fr.app N Nq
          refine own_viaT (g' := (mkF m 160 #[.val (.int p0), .val (.int p1), .val (.int p2), .val (.int k), .val (.int (1 : Int32)), .val (.ref r77), .val (.int (1 : Int32)), .val (.ref b79), .val (.ref b74)] [(.int (1 : Int32))])) st ?_
          refine own_via (T' := T) (g' := (mkF m 162 #[.val (.int p0), .val (.int p1), .val (.int p2), .val (.int k), .val (.int (1 : Int32)), .val (.ref r77), .val (.int (1 : Int32)), .val (.ref b79), .val (.ref b74)] [(.int (1 : Int32)), (.int (1 : Int32))])) (fun t_ k_ => XS.iload X.here hx rfl (hb hby at_160) rfl k_) ?_
          refine own_via (T' := T) (g' := (mkF m 165 #[.val (.int p0), .val (.int p1), .val (.int p2), .val (.int k), .val (.int (1 : Int32)), .val (.ref r77), .val (.int (1 : Int32)), .val (.ref b79), .val (.ref b74)] [])) (fun t_ k_ => XS.icmpNo X.here hx rfl (hb hby at_162) rfl (teq (by decide : (1 : Int32) = (1 : Int32))).2 k_) ?_
          refine own_via (T' := T) (g' := (mkF m 166 #[.val (.int p0), .val (.int p1), .val (.int p2), .val (.int k), .val (.int (1 : Int32)), .val (.ref r77), .val (.int (1 : Int32)), .val (.ref b79), .val (.ref b74)] [(.int (1 : Int32))])) (fun t_ k_ => XS.iconst X.here hx rfl (hb hby at_165) k_) ?_
          refine own_via (T' := T) (g' := (mkF m 170 #[.val (.int p0), .val (.int p1), .val (.int p2), .val (.int k), .val (.int (1 : Int32)), .val (.ref r77), .val (.int (1 : Int32)), .val (.ref b79), .val (.ref b74)] [(.int (1 : Int32))])) (fun t_ k_ => XS.goto X.here hx rfl (pc0 := 166) (pc' := 170) rfl (hb hby at_166) (by decide) (by decide) k_) ?_
          refine own_retN X hx hlk (t := .boolean) Bd.returns (by simp) (hb hby at_170) (by decide) (by decide) ?_
          rw [eT]
          exact ⟨rfl, N, trivial⟩
        · refine own_via (T' := T) (g' := (mkF m 65 #[.val (.int p0), .val (.int p1), .val (.int p2), .val (.int k), .val (.int (1 : Int32)), .unset, .unset, .unset, .unset] [])) (fun t_ k_ => XS.icmpYes X.here hx rfl (pc0 := 51) (pc' := 65) rfl (hb hby at_51) rfl (feq hc71).2 (by decide) (by decide) k_) ?_
          refine own_via (T' := T) (g' := (mkF m 66 #[.val (.int p0), .val (.int p1), .val (.int p2), .val (.int k), .val (.int (1 : Int32)), .unset, .unset, .unset, .unset] [(.int k)])) (fun t_ k_ => XS.iloadN X.here hx rfl (hb hby at_65) rfl k_) ?_
          refine own_via (T' := T) (g' := (mkF m 67 #[.val (.int p0), .val (.int p1), .val (.int p2), .val (.int k), .val (.int (1 : Int32)), .unset, .unset, .unset, .unset] [(.int (3 : Int32)), (.int k)])) (fun t_ k_ => XS.iconst X.here hx rfl (hb hby at_66) k_) ?_
          by_cases hc82 : k = (3 : Int32)
          · refine own_via (T' := T) (g' := (mkF m 70 #[.val (.int p0), .val (.int p1), .val (.int p2), .val (.int k), .val (.int (1 : Int32)), .unset, .unset, .unset, .unset] [])) (fun t_ k_ => XS.icmpNo X.here hx rfl (hb hby at_67) rfl (teq hc82).2 k_) ?_
            obtain ⟨T, X, eT, st⟩ := getS2 X hx hZ hown (host := "") (Or.inl (hw _ (List.mem_of_getElem? (i := 99) rfl))) Via.refl eT (S_TIME.ext O.2) (g := (mkF m 70 #[.val (.int p0), .val (.int p1), .val (.int p2), .val (.int k), .val (.int (1 : Int32)), .unset, .unset, .unset, .unset] [])) rfl (hb hby at_70)
            refine own_via (g' := (mkF m 73 #[.val (.int p0), .val (.int p1), .val (.int p2), .val (.int k), .val (.int (1 : Int32)), .unset, .unset, .unset, .unset] [(.ref wTIME)])) st ?_
            obtain ⟨_, _, ⟨T, Lq, kq, nq⟩, -, X, ⟨Lc, hQ, lq, yq, zq⟩, st⟩ := Jvm.LawKit.callS X hx (y := (⟨"java/util/Optional", "of", "(Ljava/lang/Object;)Ljava/util/Optional;"⟩ : MethodName)) hown (mvT hZ (hw _ (List.mem_of_getElem? (i := 77) rfl))) (mvT hZ (hw _ (List.mem_of_getElem? (i := 78) rfl))) (mvT hZ (hw _ (List.mem_of_getElem? (i := 3) rfl))) (mvT hZ (hw _ (List.mem_of_getElem? (i := 79) rfl))) (by decide) (backOf (W := 0) (own_optof l Z a0 hw [] wTIME h n0 O ) hZ (hw _ (List.mem_of_getElem? (i := 79) rfl)) (hw _ (List.mem_of_getElem? (i := 3) rfl)) (by decide) (by decide)) (g := (mkF m 73 #[.val (.int p0), .val (.int p1), .val (.int p2), .val (.int k), .val (.int (1 : Int32)), .unset, .unset, .unset, .unset] [(.ref wTIME)])) rfl (by rw [hml]; rfl) (argsL := [(.ref wTIME)]) (rest := []) (lenOf own_pd8 rfl) rfl (by show 2 * 0 + _ ≤ _; exact Nat.le_of_eq rfl) (hb hby at_73) (fun _ _ => ⟨rfl, eT, (by decide : 0 + 1 ≤ _), (by decide : 0 + 1 ≤ _)⟩)
            dsimp only [Pt.U, Pt.locs, Pt.cells, Pt.slots] at X lq yq zq st hQ
            subst lq yq zq
            obtain ⟨r83, rfl, Nq, Kq, szq, E_r83, F_value_r83⟩ := hQ
            replace N := Fr.app N Nq
            obtain ⟨h84, eT⟩ : ∃ z, T.heap = z := ⟨_, rfl⟩
            rw [eT] at Kq E_r83 F_value_r83
            have g_r83 : n0 ≤ r83 := Nat.le_trans (own_le O) szq
            have sz_r83 : h0.size ≤ r83 := Nat.le_trans K0.1 szq
            replace O := O.keep Kq all0
            replace K0 := K0.trans Kq all0
            refine own_via (g' := (mkF m 76 #[.val (.int p0), .val (.int p1), .val (.int p2), .val (.int k), .val (.int (1 : Int32)), .unset, .unset, .unset, .unset] [(.ref r83)])) st ?_
            refine own_via (T' := T) (g' := (mkF m 78 #[.val (.int p0), .val (.int p1), .val (.int p2), .val (.int k), .val (.int (1 : Int32)), .unset, .unset, .val (.ref r83), .unset] [])) (fun t_ k_ => XS.astore X.here hx rfl (hb hby at_76) rfl rfl (l' := #[.val (.int p0), .val (.int p1), .val (.int p2), .val (.int k), .val (.int (1 : Int32)), .unset, .unset, .val (.ref r83), .unset]) rfl k_) ?_
            refine own_via (T' := T) (g' := (mkF m 105 #[.val (.int p0), .val (.int p1), .val (.int p2), .val (.int k), .val (.int (1 : Int32)), .unset, .unset, .val (.ref r83), .unset] [])) (fun t_ k_ => XS.goto X.here hx rfl (pc0 := 78) (pc' := 105) rfl (hb hby at_78) (by decide) (by decide) k_) ?_
            obtain ⟨b85, gb⟩ : ∃ z, z = h84.size := ⟨_, rfl⟩
            obtain ⟨T, h86, X, eT, E, E_b85, Dq, -, st⟩ := newO X hx hZ hown (hw _ (List.mem_of_getElem? (i := 54) rfl)) (hw _ (List.mem_of_getElem? (i := 55) rfl)) (hw _ (List.mem_of_getElem? (i := 56) rfl)) eT (g := (mkF m 105 #[.val (.int p0), .val (.int p1), .val (.int p2), .val (.int k), .val (.int (1 : Int32)), .unset, .unset, .val (.ref r83), .unset] [])) rfl (hb hby at_105) (by decide) (by decide)
            rw [← gb] at E_b85 Dq st
            have ne_r83_b85 : r83 ≠ b85 := Nat.ne_of_lt (Nat.lt_of_lt_of_le E_r83.lt (Nat.le_of_eq gb.symm))
            have g_b85 : n0 ≤ b85 := Nat.le_trans (own_le O) (Nat.le_of_eq gb.symm)
            have sz_b85 : h0.size ≤ b85 := Nat.le_trans K0.1 (Nat.le_of_eq gb.symm)
            replace E_r83 := E_r83.ext E
            replace F_value_r83 := F_value_r83.ext E
            replace O := O.ext E
            replace K0 := K0.ext E
            have F_url_b85 : Fld Z h86 b85 "com/example/wise_crawler/wisecrawler/fetch/Exchange" "url" "Lcom/example/wise_crawler/wisecrawler/url/CanonicalUrl;" .null := Dq (Or.inr (hw _ (List.mem_of_getElem? (i := 62) rfl))) (ty := (.object "com/example/wise_crawler/wisecrawler/url/CanonicalUrl")) (by decide)
            have F_date_b85 : Fld Z h86 b85 "com/example/wise_crawler/wisecrawler/fetch/Exchange" "date" "Ljava/time/Instant;" .null := Dq (Or.inr (hw _ (List.mem_of_getElem? (i := 64) rfl))) (ty := (.object "java/time/Instant")) (by decide)
            have F_protocol_b85 : Fld Z h86 b85 "com/example/wise_crawler/wisecrawler/fetch/Exchange" "protocol" "Ljava/lang/String;" .null := Dq (Or.inr (hw _ (List.mem_of_getElem? (i := 66) rfl))) (ty := (.object "java/lang/String")) (by decide)
            have F_requestHeaders_b85 : Fld Z h86 b85 "com/example/wise_crawler/wisecrawler/fetch/Exchange" "requestHeaders" "Lcom/example/wise_crawler/wisecrawler/fetch/HeaderFields;" .null := Dq (Or.inr (hw _ (List.mem_of_getElem? (i := 68) rfl))) (ty := (.object "com/example/wise_crawler/wisecrawler/fetch/HeaderFields")) (by decide)
            have F_status_b85 : Fld Z h86 b85 "com/example/wise_crawler/wisecrawler/fetch/Exchange" "status" "I" (.int (0 : Int32)) := Dq (Or.inr (hw _ (List.mem_of_getElem? (i := 70) rfl))) (ty := .int) (by decide)
            have F_responseHeaders_b85 : Fld Z h86 b85 "com/example/wise_crawler/wisecrawler/fetch/Exchange" "responseHeaders" "Lcom/example/wise_crawler/wisecrawler/fetch/HeaderFields;" .null := Dq (Or.inr (hw _ (List.mem_of_getElem? (i := 72) rfl))) (ty := (.object "com/example/wise_crawler/wisecrawler/fetch/HeaderFields")) (by decide)
            have F_body_b85 : Fld Z h86 b85 "com/example/wise_crawler/wisecrawler/fetch/Exchange" "body" "Lcom/example/wise_crawler/wisecrawler/fetch/SpooledBytes;" .null := Dq (Or.inr (hw _ (List.mem_of_getElem? (i := 74) rfl))) (ty := (.object "com/example/wise_crawler/wisecrawler/fetch/SpooledBytes")) (by decide)
            have F_truncation_b85 : Fld Z h86 b85 "com/example/wise_crawler/wisecrawler/fetch/Exchange" "truncation" "Ljava/util/Optional;" .null := Dq (Or.inr (hw _ (List.mem_of_getElem? (i := 76) rfl))) (ty := (.object "java/util/Optional")) (by decide)
            refine own_via (g' := (mkF m 108 #[.val (.int p0), .val (.int p1), .val (.int p2), .val (.int k), .val (.int (1 : Int32)), .unset, .unset, .val (.ref r83), .unset] [(.ref b85)])) st ?_
            refine own_via (T' := T) (g' := (mkF m 109 #[.val (.int p0), .val (.int p1), .val (.int p2), .val (.int k), .val (.int (1 : Int32)), .unset, .unset, .val (.ref r83), .unset] [(.ref b85), (.ref b85)])) (fun t_ k_ => XS.dup X.here hx rfl (hb hby at_108) rfl rfl k_) ?_
            refine own_via (T' := T) (g' := (mkF m 110 #[.val (.int p0), .val (.int p1), .val (.int p2), .val (.int k), .val (.int (1 : Int32)), .unset, .unset, .val (.ref r83), .unset] [.null, (.ref b85), (.ref b85)])) (fun t_ k_ => XS.aconstNull X.here hx rfl (hb hby at_109) k_) ?_
            refine own_via (T' := T) (g' := (mkF m 111 #[.val (.int p0), .val (.int p1), .val (.int p2), .val (.int k), .val (.int (1 : Int32)), .unset, .unset, .val (.ref r83), .unset] [.null, .null, (.ref b85), (.ref b85)])) (fun t_ k_ => XS.aconstNull X.here hx rfl (hb hby at_110) k_) ?_
            refine own_via (T' := T) (g' := (mkF m 112 #[.val (.int p0), .val (.int p1), .val (.int p2), .val (.int k), .val (.int (1 : Int32)), .unset, .unset, .val (.ref r83), .unset] [.null, .null, .null, (.ref b85), (.ref b85)])) (fun t_ k_ => XS.aconstNull X.here hx rfl (hb hby at_111) k_) ?_
            refine own_via (T' := T) (g' := (mkF m 113 #[.val (.int p0), .val (.int p1), .val (.int p2), .val (.int k), .val (.int (1 : Int32)), .unset, .unset, .val (.ref r83), .unset] [.null, .null, .null, .null, (.ref b85), (.ref b85)])) (fun t_ k_ => XS.aconstNull X.here hx rfl (hb hby at_112) k_) ?_
            refine own_via (T' := T) (g' := (mkF m 114 #[.val (.int p0), .val (.int p1), .val (.int p2), .val (.int k), .val (.int (1 : Int32)), .unset, .unset, .val (.ref r83), .unset] [(.int p2), .null, .null, .null, .null, (.ref b85), (.ref b85)])) (fun t_ k_ => XS.iloadN X.here hx rfl (hb hby at_113) rfl k_) ?_
            refine own_via (T' := T) (g' := (mkF m 115 #[.val (.int p0), .val (.int p1), .val (.int p2), .val (.int k), .val (.int (1 : Int32)), .unset, .unset, .val (.ref r83), .unset] [.null, (.int p2), .null, .null, .null, .null, (.ref b85), (.ref b85)])) (fun t_ k_ => XS.aconstNull X.here hx rfl (hb hby at_114) k_) ?_
            refine own_via (T' := T) (g' := (mkF m 116 #[.val (.int p0), .val (.int p1), .val (.int p2), .val (.int k), .val (.int (1 : Int32)), .unset, .unset, .val (.ref r83), .unset] [.null, .null, (.int p2), .null, .null, .null, .null, (.ref b85), (.ref b85)])) (fun t_ k_ => XS.aconstNull X.here hx rfl (hb hby at_115) k_) ?_
            refine own_via (T' := T) (g' := (mkF m 118 #[.val (.int p0), .val (.int p1), .val (.int p2), .val (.int k), .val (.int (1 : Int32)), .unset, .unset, .val (.ref r83), .unset] [(.ref r83), .null, .null, (.int p2), .null, .null, .null, .null, (.ref b85), (.ref b85)])) (fun t_ k_ => XS.aload X.here hx rfl (hb hby at_116) rfl rfl k_) ?_
            obtain ⟨_, _, ⟨T, Lq, kq, nq⟩, -, X, ⟨Lc, hQ, lq, yq, zq⟩, st⟩ := X.specialBack hx (y := (⟨"com/example/wise_crawler/wisecrawler/fetch/Exchange", "<init>", "(Lcom/example/wise_crawler/wisecrawler/url/CanonicalUrl;Ljava/time/Instant;Ljava/lang/String;Lcom/example/wise_crawler/wisecrawler/fetch/HeaderFields;ILcom/example/wise_crawler/wisecrawler/fetch/HeaderFields;Lcom/example/wise_crawler/wisecrawler/fetch/SpooledBytes;Ljava/util/Optional;)V"⟩ : MethodName)) rfl hown (mvT hZ (hw _ (List.mem_of_getElem? (i := 57) rfl))) (mvT hZ (hw _ (List.mem_of_getElem? (i := 58) rfl))) (mvT hZ (hw _ (List.mem_of_getElem? (i := 59) rfl))) (by decide) (backOf (W := 1) (own_exch l Z a0 hw [] b85 p2 r83 h86 n0 O E_b85 F_url_b85 F_date_b85 F_protocol_b85 F_requestHeaders_b85 F_status_b85 F_responseHeaders_b85 F_body_b85 F_truncation_b85 g_b85) hZ (hw _ (List.mem_of_getElem? (i := 59) rfl)) (hw _ (List.mem_of_getElem? (i := 56) rfl)) (by decide) (by decide)) (g := (mkF m 118 #[.val (.int p0), .val (.int p1), .val (.int p2), .val (.int k), .val (.int (1 : Int32)), .unset, .unset, .val (.ref r83), .unset] [(.ref r83), .null, .null, (.int p2), .null, .null, .null, .null, (.ref b85), (.ref b85)])) rfl (by rw [hml]; rfl) (Steps.refl _) (a := b85) (argsL := [.null, .null, .null, .null, (.int p2), .null, .null, (.ref r83)]) (rest := [(.ref b85)]) (lenOf own_pd7 rfl) rfl (by show 2 * 0 + _ ≤ _; exact Nat.le_of_eq rfl) (hb hby at_118) (fun _ _ => ⟨rfl, eT, (by decide : 2 + 0 ≤ _), (by decide : 9 + 0 ≤ _)⟩)
            dsimp only [Pt.U, Pt.locs, Pt.cells, Pt.slots] at X lq yq zq st hQ
            subst lq yq zq
            obtain ⟨rfl, Nq, Kq, E_b85, F_truncation_b85⟩ := hQ
            replace N := Fr.app N Nq
            obtain ⟨h87, eT⟩ : ∃ z, T.heap = z := ⟨_, rfl⟩
            rw [eT] at Kq E_b85 F_truncation_b85
            replace E_r83 := E_r83.keep Kq
            replace F_value_r83 := F_value_r83.keep Kq (ninS ne_r83_b85 nin0)
            replace O := O.keep Kq (allS g_b85 all0)
            replace K0 := K0.trans Kq (allS (Or.inr sz_b85) all0)
            refine own_viaT (g' := (mkF m 121 #[.val (.int p0), .val (.int p1), .val (.int p2), .val (.int k), .val (.int (1 : Int32)), .unset, .unset, .val (.ref r83), .unset] [(.ref b85)])) st ?_
            refine own_via (T' := T) (g' := (mkF m 123 #[.val (.int p0), .val (.int p1), .val (.int p2), .val (.int k), .val (.int (1 : Int32)), .unset, .unset, .val (.ref r83), .val (.ref b85)] [])) (fun t_ k_ => XS.astore X.here hx rfl (hb hby at_121) rfl rfl (l' := #[.val (.int p0), .val (.int p1), .val (.int p2), .val (.int k), .val (.int (1 : Int32)), .unset, .unset, .val (.ref r83), .val (.ref b85)]) rfl k_) ?_
            refine own_via (T' := T) (g' := (mkF m 125 #[.val (.int p0), .val (.int p1), .val (.int p2), .val (.int k), .val (.int (1 : Int32)), .unset, .unset, .val (.ref r83), .val (.ref b85)] [(.ref b85)])) (fun t_ k_ => XS.aload X.here hx rfl (hb hby at_123) rfl rfl k_) ?_
            obtain ⟨_, _, ⟨T, Lq, kq, nq⟩, -, X, ⟨Lc, hQ, lq, yq, zq⟩, st⟩ := Jvm.LawKit.callS X hx (y := (⟨"java/util/Optional", "of", "(Ljava/lang/Object;)Ljava/util/Optional;"⟩ : MethodName)) hown (mvT hZ (hw _ (List.mem_of_getElem? (i := 77) rfl))) (mvT hZ (hw _ (List.mem_of_getElem? (i := 78) rfl))) (mvT hZ (hw _ (List.mem_of_getElem? (i := 3) rfl))) (mvT hZ (hw _ (List.mem_of_getElem? (i := 79) rfl))) (by decide) (backOf (W := 0) (own_optof l Z a0 hw [] b85 h87 n0 O ) hZ (hw _ (List.mem_of_getElem? (i := 79) rfl)) (hw _ (List.mem_of_getElem? (i := 3) rfl)) (by decide) (by decide)) (g := (mkF m 125 #[.val (.int p0), .val (.int p1), .val (.int p2), .val (.int k), .val (.int (1 : Int32)), .unset, .unset, .val (.ref r83), .val (.ref b85)] [(.ref b85)])) rfl (by rw [hml]; rfl) (argsL := [(.ref b85)]) (rest := []) (lenOf own_pd8 rfl) rfl (by show 2 * 0 + _ ≤ _; exact Nat.le_of_eq rfl) (hb hby at_125) (fun _ _ => ⟨rfl, eT, (by decide : 2 + 1 ≤ _), (by decide : 9 + 1 ≤ _)⟩)
            dsimp only [Pt.U, Pt.locs, Pt.cells, Pt.slots] at X lq yq zq st hQ
            subst lq yq zq
            obtain ⟨r88, rfl, Nq, Kq, szq, E_r88, F_value_r88⟩ := hQ
            replace N := Fr.app N Nq
            obtain ⟨h89, eT⟩ : ∃ z, T.heap = z := ⟨_, rfl⟩
            rw [eT] at Kq E_r88 F_value_r88
            have ne_b85_r88 : b85 ≠ r88 := Nat.ne_of_lt (Nat.lt_of_lt_of_le E_b85.lt szq)
            have ne_r83_r88 : r83 ≠ r88 := Nat.ne_of_lt (Nat.lt_of_lt_of_le E_r83.lt szq)
            have g_r88 : n0 ≤ r88 := Nat.le_trans (own_le O) szq
            have sz_r88 : h0.size ≤ r88 := Nat.le_trans K0.1 szq
            replace E_r83 := E_r83.keep Kq
            replace F_value_r83 := F_value_r83.keep Kq nin0
            replace E_b85 := E_b85.keep Kq
            replace F_truncation_b85 := F_truncation_b85.keep Kq nin0
            replace O := O.keep Kq all0
            replace K0 := K0.trans Kq all0
            refine own_via (g' := (mkF m 128 #[.val (.int p0), .val (.int p1), .val (.int p2), .val (.int k), .val (.int (1 : Int32)), .unset, .unset, .val (.ref r83), .val (.ref b85)] [(.ref r88)])) st ?_
            refine own_via (T' := T) (g' := (mkF m 130 #[.val (.int p0), .val (.int p1), .val (.int p2), .val (.int k), .val (.int (1 : Int32)), .val (.ref r88), .unset, .val (.ref r83), .val (.ref b85)] [])) (fun t_ k_ => XS.astore X.here hx rfl (hb hby at_128) rfl rfl (l' := #[.val (.int p0), .val (.int p1), .val (.int p2), .val (.int k), .val (.int (1 : Int32)), .val (.ref r88), .unset, .val (.ref r83), .val (.ref b85)]) rfl k_) ?_
            refine own_via (T' := T) (g' := (mkF m 131 #[.val (.int p0), .val (.int p1), .val (.int p2), .val (.int k), .val (.int (1 : Int32)), .val (.ref r88), .unset, .val (.ref r83), .val (.ref b85)] [(.int k)])) (fun t_ k_ => XS.iloadN X.here hx rfl (hb hby at_130) rfl k_) ?_
            refine own_via (T' := T) (g' := (mkF m 132 #[.val (.int p0), .val (.int p1), .val (.int p2), .val (.int k), .val (.int (1 : Int32)), .val (.ref r88), .unset, .val (.ref r83), .val (.ref b85)] [(.int (1 : Int32)), (.int k)])) (fun t_ k_ => XS.iconst X.here hx rfl (hb hby at_131) k_) ?_
            refine own_via (T' := T) (g' := (mkF m 135 #[.val (.int p0), .val (.int p1), .val (.int p2), .val (.int k), .val (.int (1 : Int32)), .val (.ref r88), .unset, .val (.ref r83), .val (.ref b85)] [])) (fun t_ k_ => XS.icmpNo X.here hx rfl (hb hby at_132) rfl (feq hc62).1 k_) ?_
            refine own_via (T' := T) (g' := (mkF m 136 #[.val (.int p0), .val (.int p1), .val (.int p2), .val (.int k), .val (.int (1 : Int32)), .val (.ref r88), .unset, .val (.ref r83), .val (.ref b85)] [(.int (1 : Int32))])) (fun t_ k_ => XS.iconst X.here hx rfl (hb hby at_135) k_) ?_
            refine own_via (T' := T) (g' := (mkF m 140 #[.val (.int p0), .val (.int p1), .val (.int p2), .val (.int k), .val (.int (1 : Int32)), .val (.ref r88), .unset, .val (.ref r83), .val (.ref b85)] [(.int (1 : Int32))])) (fun t_ k_ => XS.goto X.here hx rfl (pc0 := 136) (pc' := 140) rfl (hb hby at_136) (by decide) (by decide) k_) ?_
            refine own_via (T' := T) (g' := (mkF m 142 #[.val (.int p0), .val (.int p1), .val (.int p2), .val (.int k), .val (.int (1 : Int32)), .val (.ref r88), .val (.int (1 : Int32)), .val (.ref r83), .val (.ref b85)] [])) (fun t_ k_ => XS.istore X.here hx rfl (hb hby at_140) rfl (l' := #[.val (.int p0), .val (.int p1), .val (.int p2), .val (.int k), .val (.int (1 : Int32)), .val (.ref r88), .val (.int (1 : Int32)), .val (.ref r83), .val (.ref b85)]) rfl k_) ?_
            obtain ⟨b90, gb⟩ : ∃ z, z = h89.size := ⟨_, rfl⟩
            obtain ⟨T, h91, X, eT, E, E_b90, Dq, -, st⟩ := newO X hx hZ hown (hw _ (List.mem_of_getElem? (i := 6) rfl)) (hw _ (List.mem_of_getElem? (i := 7) rfl)) (hw _ (List.mem_of_getElem? (i := 8) rfl)) eT (g := (mkF m 142 #[.val (.int p0), .val (.int p1), .val (.int p2), .val (.int k), .val (.int (1 : Int32)), .val (.ref r88), .val (.int (1 : Int32)), .val (.ref r83), .val (.ref b85)] [])) rfl (hb hby at_142) (by decide) (by decide)
            rw [← gb] at E_b90 Dq st
            have ne_b85_b90 : b85 ≠ b90 := Nat.ne_of_lt (Nat.lt_of_lt_of_le E_b85.lt (Nat.le_of_eq gb.symm))
            have ne_r83_b90 : r83 ≠ b90 := Nat.ne_of_lt (Nat.lt_of_lt_of_le E_r83.lt (Nat.le_of_eq gb.symm))
            have ne_r88_b90 : r88 ≠ b90 := Nat.ne_of_lt (Nat.lt_of_lt_of_le E_r88.lt (Nat.le_of_eq gb.symm))
            have g_b90 : n0 ≤ b90 := Nat.le_trans (own_le O) (Nat.le_of_eq gb.symm)
            have sz_b90 : h0.size ≤ b90 := Nat.le_trans K0.1 (Nat.le_of_eq gb.symm)
            replace E_r83 := E_r83.ext E
            replace F_value_r83 := F_value_r83.ext E
            replace E_b85 := E_b85.ext E
            replace F_truncation_b85 := F_truncation_b85.ext E
            replace E_r88 := E_r88.ext E
            replace F_value_r88 := F_value_r88.ext E
            replace O := O.ext E
            replace K0 := K0.ext E
            have F_response_b90 : Fld Z h91 b90 "com/example/wise_crawler/wisecrawler/crawl/Answer" "response" "Ljava/util/Optional;" .null := Dq (Or.inr (hw _ (List.mem_of_getElem? (i := 21) rfl))) (ty := (.object "java/util/Optional")) (by decide)
            have F_timedOut_b90 : Fld Z h91 b90 "com/example/wise_crawler/wisecrawler/crawl/Answer" "timedOut" "Z" (.int (0 : Int32)) := Dq (Or.inr (hw _ (List.mem_of_getElem? (i := 23) rfl))) (ty := .boolean) (by decide)
            refine own_via (g' := (mkF m 145 #[.val (.int p0), .val (.int p1), .val (.int p2), .val (.int k), .val (.int (1 : Int32)), .val (.ref r88), .val (.int (1 : Int32)), .val (.ref r83), .val (.ref b85)] [(.ref b90)])) st ?_
            refine own_via (T' := T) (g' := (mkF m 146 #[.val (.int p0), .val (.int p1), .val (.int p2), .val (.int k), .val (.int (1 : Int32)), .val (.ref r88), .val (.int (1 : Int32)), .val (.ref r83), .val (.ref b85)] [(.ref b90), (.ref b90)])) (fun t_ k_ => XS.dup X.here hx rfl (hb hby at_145) rfl rfl k_) ?_
            refine own_via (T' := T) (g' := (mkF m 148 #[.val (.int p0), .val (.int p1), .val (.int p2), .val (.int k), .val (.int (1 : Int32)), .val (.ref r88), .val (.int (1 : Int32)), .val (.ref r83), .val (.ref b85)] [(.ref r88), (.ref b90), (.ref b90)])) (fun t_ k_ => XS.aload X.here hx rfl (hb hby at_146) rfl rfl k_) ?_
            refine own_via (T' := T) (g' := (mkF m 150 #[.val (.int p0), .val (.int p1), .val (.int p2), .val (.int k), .val (.int (1 : Int32)), .val (.ref r88), .val (.int (1 : Int32)), .val (.ref r83), .val (.ref b85)] [(.int (1 : Int32)), (.ref r88), (.ref b90), (.ref b90)])) (fun t_ k_ => XS.iload X.here hx rfl (hb hby at_148) rfl k_) ?_
            obtain ⟨_, _, ⟨T, Lq, kq, nq⟩, -, X, ⟨Lc, hQ, lq, yq, zq⟩, st⟩ := X.specialBack hx (y := (⟨"com/example/wise_crawler/wisecrawler/crawl/Answer", "<init>", "(Ljava/util/Optional;Z)V"⟩ : MethodName)) rfl hown (mvT hZ (hw _ (List.mem_of_getElem? (i := 9) rfl))) (mvT hZ (hw _ (List.mem_of_getElem? (i := 10) rfl))) (mvT hZ (hw _ (List.mem_of_getElem? (i := 11) rfl))) (by decide) (backOf (W := 1) (own_ansinit l Z a0 hw [] b90 r88 (1 : Int32) h91 n0 O E_b90 F_response_b90 F_timedOut_b90 g_b90) hZ (hw _ (List.mem_of_getElem? (i := 11) rfl)) (hw _ (List.mem_of_getElem? (i := 8) rfl)) (by decide) (by decide)) (g := (mkF m 150 #[.val (.int p0), .val (.int p1), .val (.int p2), .val (.int k), .val (.int (1 : Int32)), .val (.ref r88), .val (.int (1 : Int32)), .val (.ref r83), .val (.ref b85)] [(.int (1 : Int32)), (.ref r88), (.ref b90), (.ref b90)])) rfl (by rw [hml]; rfl) (Steps.refl _) (a := b90) (argsL := [(.ref r88), (.int (1 : Int32))]) (rest := [(.ref b90)]) (lenOf own_pd6 rfl) rfl (by show 2 * 0 + _ ≤ _; exact Nat.le_of_eq rfl) (hb hby at_150) (fun _ _ => ⟨rfl, eT, (by decide : 4 + 0 ≤ _), (by decide : 12 + 0 ≤ _)⟩)
            dsimp only [Pt.U, Pt.locs, Pt.cells, Pt.slots] at X lq yq zq st hQ
            subst lq yq zq
            obtain ⟨rfl, Nq, Kq, E_b90, F_response_b90⟩ := hQ
            replace N := Fr.app N Nq
            obtain ⟨h92, eT⟩ : ∃ z, T.heap = z := ⟨_, rfl⟩
            rw [eT] at Kq E_b90 F_response_b90
            replace E_r83 := E_r83.keep Kq
            replace F_value_r83 := F_value_r83.keep Kq (ninS ne_r83_b90 nin0)
            replace E_b85 := E_b85.keep Kq
            replace F_truncation_b85 := F_truncation_b85.keep Kq (ninS ne_b85_b90 nin0)
            replace E_r88 := E_r88.keep Kq
            replace F_value_r88 := F_value_r88.keep Kq (ninS ne_r88_b90 nin0)
            replace O := O.keep Kq (allS g_b90 all0)
            replace K0 := K0.trans Kq (allS (Or.inr sz_b90) all0)
            refine own_viaT (g' := (mkF m 153 #[.val (.int p0), .val (.int p1), .val (.int p2), .val (.int k), .val (.int (1 : Int32)), .val (.ref r88), .val (.int (1 : Int32)), .val (.ref r83), .val (.ref b85)] [(.ref b90)])) st ?_
            refine own_via (T' := T) (g' := (mkF m 155 #[.val (.int p0), .val (.int p1), .val (.int p2), .val (.int k), .val (.int (1 : Int32)), .val (.ref r88), .val (.int (1 : Int32)), .val (.ref b90), .val (.ref b85)] [])) (fun t_ k_ => XS.astore X.here hx rfl (hb hby at_153) rfl rfl (l' := #[.val (.int p0), .val (.int p1), .val (.int p2), .val (.int k), .val (.int (1 : Int32)), .val (.ref r88), .val (.int (1 : Int32)), .val (.ref b90), .val (.ref b85)]) rfl k_) ?_
            refine own_via (T' := T) (g' := (mkF m 157 #[.val (.int p0), .val (.int p1), .val (.int p2), .val (.int k), .val (.int (1 : Int32)), .val (.ref r88), .val (.int (1 : Int32)), .val (.ref b90), .val (.ref b85)] [(.ref b90)])) (fun t_ k_ => XS.aload X.here hx rfl (hb hby at_155) rfl rfl k_) ?_
            obtain ⟨cq, kq, qa, qb, qc⟩ := isOf hZ eT E_b90
            obtain ⟨_, _, ⟨T, Lq, kq, nq⟩, -, X, ⟨Lc, hQ, lq, yq, zq⟩, st⟩ := X.virtualBack hx (y := (⟨"com/example/wise_crawler/wisecrawler/crawl/Answer", "truncated", "()Z"⟩ : MethodName)) (z := (⟨"com/example/wise_crawler/wisecrawler/crawl/Answer", "truncated", "()Z"⟩ : MethodName)) hown (mvT hZ (hw _ (List.mem_of_getElem? (i := 24) rfl))) (mvT hZ (hw _ (List.mem_of_getElem? (i := 25) rfl))) (notFace_of_selects (args := #[]) (mvT hZ (hw _ (List.mem_of_getElem? (i := 27) rfl)))) (mvT hZ (hw _ (List.mem_of_getElem? (i := 27) rfl))) (mvT hZ (hw _ (List.mem_of_getElem? (i := 26) rfl))) (by decide) (backOf (W := 0) (own_tC l Z a0 hw [] b90 r88 aF cK b85 r83 wTIME h92 n0 O LM F_response_b90 E_r88 F_value_r88 E_b85 F_truncation_b85 E_r83 F_value_r83) hZ (hw _ (List.mem_of_getElem? (i := 28) rfl)) (hw _ (List.mem_of_getElem? (i := 8) rfl)) (by decide) (by decide)) qa qc (g := (mkF m 157 #[.val (.int p0), .val (.int p1), .val (.int p2), .val (.int k), .val (.int (1 : Int32)), .val (.ref r88), .val (.int (1 : Int32)), .val (.ref b90), .val (.ref b85)] [(.ref b90)])) rfl (by rw [hml]; rfl) (Steps.refl _) (argsL := []) (rest := []) (lenOf own_pd4 rfl) rfl (by show 2 * 0 + _ ≤ _; exact Nat.le_of_eq rfl) (hb hby at_157) (fun _ _ => ⟨rfl, eT, (by decide : 4 + 0 ≤ _), (by decide : 12 + 0 ≤ _)⟩)
            dsimp only [Pt.U, Pt.locs, Pt.cells, Pt.slots] at X lq yq zq st hQ
            subst lq yq zq
            obtain ⟨rfl, Nq, eT⟩ := hQ
            replace N := Fr.app N Nq
            refine own_viaT (g' := (mkF m 160 #[.val (.int p0), .val (.int p1), .val (.int p2), .val (.int k), .val (.int (1 : Int32)), .val (.ref r88), .val (.int (1 : Int32)), .val (.ref b90), .val (.ref b85)] [(.int (1 : Int32))])) st ?_
            refine own_via (T' := T) (g' := (mkF m 162 #[.val (.int p0), .val (.int p1), .val (.int p2), .val (.int k), .val (.int (1 : Int32)), .val (.ref r88), .val (.int (1 : Int32)), .val (.ref b90), .val (.ref b85)] [(.int (1 : Int32)), (.int (1 : Int32))])) (fun t_ k_ => XS.iload X.here hx rfl (hb hby at_160) rfl k_) ?_
            refine own_via (T' := T) (g' := (mkF m 165 #[.val (.int p0), .val (.int p1), .val (.int p2), .val (.int k), .val (.int (1 : Int32)), .val (.ref r88), .val (.int (1 : Int32)), .val (.ref b90), .val (.ref b85)] [])) (fun t_ k_ => XS.icmpNo X.here hx rfl (hb hby at_162) rfl (teq (by decide : (1 : Int32) = (1 : Int32))).2 k_) ?_
            refine own_via (T' := T) (g' := (mkF m 166 #[.val (.int p0), .val (.int p1), .val (.int p2), .val (.int k), .val (.int (1 : Int32)), .val (.ref r88), .val (.int (1 : Int32)), .val (.ref b90), .val (.ref b85)] [(.int (1 : Int32))])) (fun t_ k_ => XS.iconst X.here hx rfl (hb hby at_165) k_) ?_
            refine own_via (T' := T) (g' := (mkF m 170 #[.val (.int p0), .val (.int p1), .val (.int p2), .val (.int k), .val (.int (1 : Int32)), .val (.ref r88), .val (.int (1 : Int32)), .val (.ref b90), .val (.ref b85)] [(.int (1 : Int32))])) (fun t_ k_ => XS.goto X.here hx rfl (pc0 := 166) (pc' := 170) rfl (hb hby at_166) (by decide) (by decide) k_) ?_
            refine own_retN X hx hlk (t := .boolean) Bd.returns (by simp) (hb hby at_170) (by decide) (by decide) ?_
            rw [eT]
            exact ⟨rfl, N, trivial⟩
          · refine own_via (T' := T) (g' := (mkF m 81 #[.val (.int p0), .val (.int p1), .val (.int p2), .val (.int k), .val (.int (1 : Int32)), .unset, .unset, .unset, .unset] [])) (fun t_ k_ => XS.icmpYes X.here hx rfl (pc0 := 67) (pc' := 81) rfl (hb hby at_67) rfl (feq hc82).2 (by decide) (by decide) k_) ?_
            refine own_via (T' := T) (g' := (mkF m 82 #[.val (.int p0), .val (.int p1), .val (.int p2), .val (.int k), .val (.int (1 : Int32)), .unset, .unset, .unset, .unset] [(.int k)])) (fun t_ k_ => XS.iloadN X.here hx rfl (hb hby at_81) rfl k_) ?_
            refine own_via (T' := T) (g' := (mkF m 83 #[.val (.int p0), .val (.int p1), .val (.int p2), .val (.int k), .val (.int (1 : Int32)), .unset, .unset, .unset, .unset] [(.int (4 : Int32)), (.int k)])) (fun t_ k_ => XS.iconst X.here hx rfl (hb hby at_82) k_) ?_
            by_cases hc93 : k = (4 : Int32)
            · refine own_via (T' := T) (g' := (mkF m 86 #[.val (.int p0), .val (.int p1), .val (.int p2), .val (.int k), .val (.int (1 : Int32)), .unset, .unset, .unset, .unset] [])) (fun t_ k_ => XS.icmpNo X.here hx rfl (hb hby at_83) rfl (teq hc93).2 k_) ?_
              obtain ⟨T, X, eT, st⟩ := getS2 X hx hZ hown (host := "") (Or.inl (hw _ (List.mem_of_getElem? (i := 101) rfl))) Via.refl eT (S_DISCONNECT.ext O.2) (g := (mkF m 86 #[.val (.int p0), .val (.int p1), .val (.int p2), .val (.int k), .val (.int (1 : Int32)), .unset, .unset, .unset, .unset] [])) rfl (hb hby at_86)
              refine own_via (g' := (mkF m 89 #[.val (.int p0), .val (.int p1), .val (.int p2), .val (.int k), .val (.int (1 : Int32)), .unset, .unset, .unset, .unset] [(.ref wDISCONNECT)])) st ?_
              obtain ⟨_, _, ⟨T, Lq, kq, nq⟩, -, X, ⟨Lc, hQ, lq, yq, zq⟩, st⟩ := Jvm.LawKit.callS X hx (y := (⟨"java/util/Optional", "of", "(Ljava/lang/Object;)Ljava/util/Optional;"⟩ : MethodName)) hown (mvT hZ (hw _ (List.mem_of_getElem? (i := 77) rfl))) (mvT hZ (hw _ (List.mem_of_getElem? (i := 78) rfl))) (mvT hZ (hw _ (List.mem_of_getElem? (i := 3) rfl))) (mvT hZ (hw _ (List.mem_of_getElem? (i := 79) rfl))) (by decide) (backOf (W := 0) (own_optof l Z a0 hw [] wDISCONNECT h n0 O ) hZ (hw _ (List.mem_of_getElem? (i := 79) rfl)) (hw _ (List.mem_of_getElem? (i := 3) rfl)) (by decide) (by decide)) (g := (mkF m 89 #[.val (.int p0), .val (.int p1), .val (.int p2), .val (.int k), .val (.int (1 : Int32)), .unset, .unset, .unset, .unset] [(.ref wDISCONNECT)])) rfl (by rw [hml]; rfl) (argsL := [(.ref wDISCONNECT)]) (rest := []) (lenOf own_pd8 rfl) rfl (by show 2 * 0 + _ ≤ _; exact Nat.le_of_eq rfl) (hb hby at_89) (fun _ _ => ⟨rfl, eT, (by decide : 0 + 1 ≤ _), (by decide : 0 + 1 ≤ _)⟩)
              dsimp only [Pt.U, Pt.locs, Pt.cells, Pt.slots] at X lq yq zq st hQ
              subst lq yq zq
              obtain ⟨r94, rfl, Nq, Kq, szq, E_r94, F_value_r94⟩ := hQ
              replace N := Fr.app N Nq
              obtain ⟨h95, eT⟩ : ∃ z, T.heap = z := ⟨_, rfl⟩
              rw [eT] at Kq E_r94 F_value_r94
              have g_r94 : n0 ≤ r94 := Nat.le_trans (own_le O) szq
              have sz_r94 : h0.size ≤ r94 := Nat.le_trans K0.1 szq
              replace O := O.keep Kq all0
              replace K0 := K0.trans Kq all0
              refine own_via (g' := (mkF m 92 #[.val (.int p0), .val (.int p1), .val (.int p2), .val (.int k), .val (.int (1 : Int32)), .unset, .unset, .unset, .unset] [(.ref r94)])) st ?_
              refine own_via (T' := T) (g' := (mkF m 94 #[.val (.int p0), .val (.int p1), .val (.int p2), .val (.int k), .val (.int (1 : Int32)), .unset, .unset, .val (.ref r94), .unset] [])) (fun t_ k_ => XS.astore X.here hx rfl (hb hby at_92) rfl rfl (l' := #[.val (.int p0), .val (.int p1), .val (.int p2), .val (.int k), .val (.int (1 : Int32)), .unset, .unset, .val (.ref r94), .unset]) rfl k_) ?_
              refine own_via (T' := T) (g' := (mkF m 105 #[.val (.int p0), .val (.int p1), .val (.int p2), .val (.int k), .val (.int (1 : Int32)), .unset, .unset, .val (.ref r94), .unset] [])) (fun t_ k_ => XS.goto X.here hx rfl (pc0 := 94) (pc' := 105) rfl (hb hby at_94) (by decide) (by decide) k_) ?_
              obtain ⟨b96, gb⟩ : ∃ z, z = h95.size := ⟨_, rfl⟩
              obtain ⟨T, h97, X, eT, E, E_b96, Dq, -, st⟩ := newO X hx hZ hown (hw _ (List.mem_of_getElem? (i := 54) rfl)) (hw _ (List.mem_of_getElem? (i := 55) rfl)) (hw _ (List.mem_of_getElem? (i := 56) rfl)) eT (g := (mkF m 105 #[.val (.int p0), .val (.int p1), .val (.int p2), .val (.int k), .val (.int (1 : Int32)), .unset, .unset, .val (.ref r94), .unset] [])) rfl (hb hby at_105) (by decide) (by decide)
              rw [← gb] at E_b96 Dq st
              have ne_r94_b96 : r94 ≠ b96 := Nat.ne_of_lt (Nat.lt_of_lt_of_le E_r94.lt (Nat.le_of_eq gb.symm))
              have g_b96 : n0 ≤ b96 := Nat.le_trans (own_le O) (Nat.le_of_eq gb.symm)
              have sz_b96 : h0.size ≤ b96 := Nat.le_trans K0.1 (Nat.le_of_eq gb.symm)
              replace E_r94 := E_r94.ext E
              replace F_value_r94 := F_value_r94.ext E
              replace O := O.ext E
              replace K0 := K0.ext E
              have F_url_b96 : Fld Z h97 b96 "com/example/wise_crawler/wisecrawler/fetch/Exchange" "url" "Lcom/example/wise_crawler/wisecrawler/url/CanonicalUrl;" .null := Dq (Or.inr (hw _ (List.mem_of_getElem? (i := 62) rfl))) (ty := (.object "com/example/wise_crawler/wisecrawler/url/CanonicalUrl")) (by decide)
              have F_date_b96 : Fld Z h97 b96 "com/example/wise_crawler/wisecrawler/fetch/Exchange" "date" "Ljava/time/Instant;" .null := Dq (Or.inr (hw _ (List.mem_of_getElem? (i := 64) rfl))) (ty := (.object "java/time/Instant")) (by decide)
              have F_protocol_b96 : Fld Z h97 b96 "com/example/wise_crawler/wisecrawler/fetch/Exchange" "protocol" "Ljava/lang/String;" .null := Dq (Or.inr (hw _ (List.mem_of_getElem? (i := 66) rfl))) (ty := (.object "java/lang/String")) (by decide)
              have F_requestHeaders_b96 : Fld Z h97 b96 "com/example/wise_crawler/wisecrawler/fetch/Exchange" "requestHeaders" "Lcom/example/wise_crawler/wisecrawler/fetch/HeaderFields;" .null := Dq (Or.inr (hw _ (List.mem_of_getElem? (i := 68) rfl))) (ty := (.object "com/example/wise_crawler/wisecrawler/fetch/HeaderFields")) (by decide)
              have F_status_b96 : Fld Z h97 b96 "com/example/wise_crawler/wisecrawler/fetch/Exchange" "status" "I" (.int (0 : Int32)) := Dq (Or.inr (hw _ (List.mem_of_getElem? (i := 70) rfl))) (ty := .int) (by decide)
              have F_responseHeaders_b96 : Fld Z h97 b96 "com/example/wise_crawler/wisecrawler/fetch/Exchange" "responseHeaders" "Lcom/example/wise_crawler/wisecrawler/fetch/HeaderFields;" .null := Dq (Or.inr (hw _ (List.mem_of_getElem? (i := 72) rfl))) (ty := (.object "com/example/wise_crawler/wisecrawler/fetch/HeaderFields")) (by decide)
              have F_body_b96 : Fld Z h97 b96 "com/example/wise_crawler/wisecrawler/fetch/Exchange" "body" "Lcom/example/wise_crawler/wisecrawler/fetch/SpooledBytes;" .null := Dq (Or.inr (hw _ (List.mem_of_getElem? (i := 74) rfl))) (ty := (.object "com/example/wise_crawler/wisecrawler/fetch/SpooledBytes")) (by decide)
              have F_truncation_b96 : Fld Z h97 b96 "com/example/wise_crawler/wisecrawler/fetch/Exchange" "truncation" "Ljava/util/Optional;" .null := Dq (Or.inr (hw _ (List.mem_of_getElem? (i := 76) rfl))) (ty := (.object "java/util/Optional")) (by decide)
              refine own_via (g' := (mkF m 108 #[.val (.int p0), .val (.int p1), .val (.int p2), .val (.int k), .val (.int (1 : Int32)), .unset, .unset, .val (.ref r94), .unset] [(.ref b96)])) st ?_
              refine own_via (T' := T) (g' := (mkF m 109 #[.val (.int p0), .val (.int p1), .val (.int p2), .val (.int k), .val (.int (1 : Int32)), .unset, .unset, .val (.ref r94), .unset] [(.ref b96), (.ref b96)])) (fun t_ k_ => XS.dup X.here hx rfl (hb hby at_108) rfl rfl k_) ?_
              refine own_via (T' := T) (g' := (mkF m 110 #[.val (.int p0), .val (.int p1), .val (.int p2), .val (.int k), .val (.int (1 : Int32)), .unset, .unset, .val (.ref r94), .unset] [.null, (.ref b96), (.ref b96)])) (fun t_ k_ => XS.aconstNull X.here hx rfl (hb hby at_109) k_) ?_
              refine own_via (T' := T) (g' := (mkF m 111 #[.val (.int p0), .val (.int p1), .val (.int p2), .val (.int k), .val (.int (1 : Int32)), .unset, .unset, .val (.ref r94), .unset] [.null, .null, (.ref b96), (.ref b96)])) (fun t_ k_ => XS.aconstNull X.here hx rfl (hb hby at_110) k_) ?_
              refine own_via (T' := T) (g' := (mkF m 112 #[.val (.int p0), .val (.int p1), .val (.int p2), .val (.int k), .val (.int (1 : Int32)), .unset, .unset, .val (.ref r94), .unset] [.null, .null, .null, (.ref b96), (.ref b96)])) (fun t_ k_ => XS.aconstNull X.here hx rfl (hb hby at_111) k_) ?_
              refine own_via (T' := T) (g' := (mkF m 113 #[.val (.int p0), .val (.int p1), .val (.int p2), .val (.int k), .val (.int (1 : Int32)), .unset, .unset, .val (.ref r94), .unset] [.null, .null, .null, .null, (.ref b96), (.ref b96)])) (fun t_ k_ => XS.aconstNull X.here hx rfl (hb hby at_112) k_) ?_
              refine own_via (T' := T) (g' := (mkF m 114 #[.val (.int p0), .val (.int p1), .val (.int p2), .val (.int k), .val (.int (1 : Int32)), .unset, .unset, .val (.ref r94), .unset] [(.int p2), .null, .null, .null, .null, (.ref b96), (.ref b96)])) (fun t_ k_ => XS.iloadN X.here hx rfl (hb hby at_113) rfl k_) ?_
              refine own_via (T' := T) (g' := (mkF m 115 #[.val (.int p0), .val (.int p1), .val (.int p2), .val (.int k), .val (.int (1 : Int32)), .unset, .unset, .val (.ref r94), .unset] [.null, (.int p2), .null, .null, .null, .null, (.ref b96), (.ref b96)])) (fun t_ k_ => XS.aconstNull X.here hx rfl (hb hby at_114) k_) ?_
              refine own_via (T' := T) (g' := (mkF m 116 #[.val (.int p0), .val (.int p1), .val (.int p2), .val (.int k), .val (.int (1 : Int32)), .unset, .unset, .val (.ref r94), .unset] [.null, .null, (.int p2), .null, .null, .null, .null, (.ref b96), (.ref b96)])) (fun t_ k_ => XS.aconstNull X.here hx rfl (hb hby at_115) k_) ?_
              refine own_via (T' := T) (g' := (mkF m 118 #[.val (.int p0), .val (.int p1), .val (.int p2), .val (.int k), .val (.int (1 : Int32)), .unset, .unset, .val (.ref r94), .unset] [(.ref r94), .null, .null, (.int p2), .null, .null, .null, .null, (.ref b96), (.ref b96)])) (fun t_ k_ => XS.aload X.here hx rfl (hb hby at_116) rfl rfl k_) ?_
              obtain ⟨_, _, ⟨T, Lq, kq, nq⟩, -, X, ⟨Lc, hQ, lq, yq, zq⟩, st⟩ := X.specialBack hx (y := (⟨"com/example/wise_crawler/wisecrawler/fetch/Exchange", "<init>", "(Lcom/example/wise_crawler/wisecrawler/url/CanonicalUrl;Ljava/time/Instant;Ljava/lang/String;Lcom/example/wise_crawler/wisecrawler/fetch/HeaderFields;ILcom/example/wise_crawler/wisecrawler/fetch/HeaderFields;Lcom/example/wise_crawler/wisecrawler/fetch/SpooledBytes;Ljava/util/Optional;)V"⟩ : MethodName)) rfl hown (mvT hZ (hw _ (List.mem_of_getElem? (i := 57) rfl))) (mvT hZ (hw _ (List.mem_of_getElem? (i := 58) rfl))) (mvT hZ (hw _ (List.mem_of_getElem? (i := 59) rfl))) (by decide) (backOf (W := 1) (own_exch l Z a0 hw [] b96 p2 r94 h97 n0 O E_b96 F_url_b96 F_date_b96 F_protocol_b96 F_requestHeaders_b96 F_status_b96 F_responseHeaders_b96 F_body_b96 F_truncation_b96 g_b96) hZ (hw _ (List.mem_of_getElem? (i := 59) rfl)) (hw _ (List.mem_of_getElem? (i := 56) rfl)) (by decide) (by decide)) (g := (mkF m 118 #[.val (.int p0), .val (.int p1), .val (.int p2), .val (.int k), .val (.int (1 : Int32)), .unset, .unset, .val (.ref r94), .unset] [(.ref r94), .null, .null, (.int p2), .null, .null, .null, .null, (.ref b96), (.ref b96)])) rfl (by rw [hml]; rfl) (Steps.refl _) (a := b96) (argsL := [.null, .null, .null, .null, (.int p2), .null, .null, (.ref r94)]) (rest := [(.ref b96)]) (lenOf own_pd7 rfl) rfl (by show 2 * 0 + _ ≤ _; exact Nat.le_of_eq rfl) (hb hby at_118) (fun _ _ => ⟨rfl, eT, (by decide : 2 + 0 ≤ _), (by decide : 9 + 0 ≤ _)⟩)
              dsimp only [Pt.U, Pt.locs, Pt.cells, Pt.slots] at X lq yq zq st hQ
              subst lq yq zq
              obtain ⟨rfl, Nq, Kq, E_b96, F_truncation_b96⟩ := hQ
              replace N := Fr.app N Nq
              obtain ⟨h98, eT⟩ : ∃ z, T.heap = z := ⟨_, rfl⟩
              rw [eT] at Kq E_b96 F_truncation_b96
              replace E_r94 := E_r94.keep Kq
              replace F_value_r94 := F_value_r94.keep Kq (ninS ne_r94_b96 nin0)
              replace O := O.keep Kq (allS g_b96 all0)
              replace K0 := K0.trans Kq (allS (Or.inr sz_b96) all0)
              refine own_viaT (g' := (mkF m 121 #[.val (.int p0), .val (.int p1), .val (.int p2), .val (.int k), .val (.int (1 : Int32)), .unset, .unset, .val (.ref r94), .unset] [(.ref b96)])) st ?_
              refine own_via (T' := T) (g' := (mkF m 123 #[.val (.int p0), .val (.int p1), .val (.int p2), .val (.int k), .val (.int (1 : Int32)), .unset, .unset, .val (.ref r94), .val (.ref b96)] [])) (fun t_ k_ => XS.astore X.here hx rfl (hb hby at_121) rfl rfl (l' := #[.val (.int p0), .val (.int p1), .val (.int p2), .val (.int k), .val (.int (1 : Int32)), .unset, .unset, .val (.ref r94), .val (.ref b96)]) rfl k_) ?_
              refine own_via (T' := T) (g' := (mkF m 125 #[.val (.int p0), .val (.int p1), .val (.int p2), .val (.int k), .val (.int (1 : Int32)), .unset, .unset, .val (.ref r94), .val (.ref b96)] [(.ref b96)])) (fun t_ k_ => XS.aload X.here hx rfl (hb hby at_123) rfl rfl k_) ?_
              obtain ⟨_, _, ⟨T, Lq, kq, nq⟩, -, X, ⟨Lc, hQ, lq, yq, zq⟩, st⟩ := Jvm.LawKit.callS X hx (y := (⟨"java/util/Optional", "of", "(Ljava/lang/Object;)Ljava/util/Optional;"⟩ : MethodName)) hown (mvT hZ (hw _ (List.mem_of_getElem? (i := 77) rfl))) (mvT hZ (hw _ (List.mem_of_getElem? (i := 78) rfl))) (mvT hZ (hw _ (List.mem_of_getElem? (i := 3) rfl))) (mvT hZ (hw _ (List.mem_of_getElem? (i := 79) rfl))) (by decide) (backOf (W := 0) (own_optof l Z a0 hw [] b96 h98 n0 O ) hZ (hw _ (List.mem_of_getElem? (i := 79) rfl)) (hw _ (List.mem_of_getElem? (i := 3) rfl)) (by decide) (by decide)) (g := (mkF m 125 #[.val (.int p0), .val (.int p1), .val (.int p2), .val (.int k), .val (.int (1 : Int32)), .unset, .unset, .val (.ref r94), .val (.ref b96)] [(.ref b96)])) rfl (by rw [hml]; rfl) (argsL := [(.ref b96)]) (rest := []) (lenOf own_pd8 rfl) rfl (by show 2 * 0 + _ ≤ _; exact Nat.le_of_eq rfl) (hb hby at_125) (fun _ _ => ⟨rfl, eT, (by decide : 2 + 1 ≤ _), (by decide : 9 + 1 ≤ _)⟩)
              dsimp only [Pt.U, Pt.locs, Pt.cells, Pt.slots] at X lq yq zq st hQ
              subst lq yq zq
              obtain ⟨r99, rfl, Nq, Kq, szq, E_r99, F_value_r99⟩ := hQ
              replace N := Fr.app N Nq
              obtain ⟨h100, eT⟩ : ∃ z, T.heap = z := ⟨_, rfl⟩
              rw [eT] at Kq E_r99 F_value_r99
              have ne_b96_r99 : b96 ≠ r99 := Nat.ne_of_lt (Nat.lt_of_lt_of_le E_b96.lt szq)
              have ne_r94_r99 : r94 ≠ r99 := Nat.ne_of_lt (Nat.lt_of_lt_of_le E_r94.lt szq)
              have g_r99 : n0 ≤ r99 := Nat.le_trans (own_le O) szq
              have sz_r99 : h0.size ≤ r99 := Nat.le_trans K0.1 szq
              replace E_r94 := E_r94.keep Kq
              replace F_value_r94 := F_value_r94.keep Kq nin0
              replace E_b96 := E_b96.keep Kq
              replace F_truncation_b96 := F_truncation_b96.keep Kq nin0
              replace O := O.keep Kq all0
              replace K0 := K0.trans Kq all0
              refine own_via (g' := (mkF m 128 #[.val (.int p0), .val (.int p1), .val (.int p2), .val (.int k), .val (.int (1 : Int32)), .unset, .unset, .val (.ref r94), .val (.ref b96)] [(.ref r99)])) st ?_
              refine own_via (T' := T) (g' := (mkF m 130 #[.val (.int p0), .val (.int p1), .val (.int p2), .val (.int k), .val (.int (1 : Int32)), .val (.ref r99), .unset, .val (.ref r94), .val (.ref b96)] [])) (fun t_ k_ => XS.astore X.here hx rfl (hb hby at_128) rfl rfl (l' := #[.val (.int p0), .val (.int p1), .val (.int p2), .val (.int k), .val (.int (1 : Int32)), .val (.ref r99), .unset, .val (.ref r94), .val (.ref b96)]) rfl k_) ?_
              refine own_via (T' := T) (g' := (mkF m 131 #[.val (.int p0), .val (.int p1), .val (.int p2), .val (.int k), .val (.int (1 : Int32)), .val (.ref r99), .unset, .val (.ref r94), .val (.ref b96)] [(.int k)])) (fun t_ k_ => XS.iloadN X.here hx rfl (hb hby at_130) rfl k_) ?_
              refine own_via (T' := T) (g' := (mkF m 132 #[.val (.int p0), .val (.int p1), .val (.int p2), .val (.int k), .val (.int (1 : Int32)), .val (.ref r99), .unset, .val (.ref r94), .val (.ref b96)] [(.int (1 : Int32)), (.int k)])) (fun t_ k_ => XS.iconst X.here hx rfl (hb hby at_131) k_) ?_
              refine own_via (T' := T) (g' := (mkF m 135 #[.val (.int p0), .val (.int p1), .val (.int p2), .val (.int k), .val (.int (1 : Int32)), .val (.ref r99), .unset, .val (.ref r94), .val (.ref b96)] [])) (fun t_ k_ => XS.icmpNo X.here hx rfl (hb hby at_132) rfl (feq hc62).1 k_) ?_
              refine own_via (T' := T) (g' := (mkF m 136 #[.val (.int p0), .val (.int p1), .val (.int p2), .val (.int k), .val (.int (1 : Int32)), .val (.ref r99), .unset, .val (.ref r94), .val (.ref b96)] [(.int (1 : Int32))])) (fun t_ k_ => XS.iconst X.here hx rfl (hb hby at_135) k_) ?_
              refine own_via (T' := T) (g' := (mkF m 140 #[.val (.int p0), .val (.int p1), .val (.int p2), .val (.int k), .val (.int (1 : Int32)), .val (.ref r99), .unset, .val (.ref r94), .val (.ref b96)] [(.int (1 : Int32))])) (fun t_ k_ => XS.goto X.here hx rfl (pc0 := 136) (pc' := 140) rfl (hb hby at_136) (by decide) (by decide) k_) ?_
              refine own_via (T' := T) (g' := (mkF m 142 #[.val (.int p0), .val (.int p1), .val (.int p2), .val (.int k), .val (.int (1 : Int32)), .val (.ref r99), .val (.int (1 : Int32)), .val (.ref r94), .val (.ref b96)] [])) (fun t_ k_ => XS.istore X.here hx rfl (hb hby at_140) rfl (l' := #[.val (.int p0), .val (.int p1), .val (.int p2), .val (.int k), .val (.int (1 : Int32)), .val (.ref r99), .val (.int (1 : Int32)), .val (.ref r94), .val (.ref b96)]) rfl k_) ?_
              obtain ⟨b101, gb⟩ : ∃ z, z = h100.size := ⟨_, rfl⟩
              obtain ⟨T, h102, X, eT, E, E_b101, Dq, -, st⟩ := newO X hx hZ hown (hw _ (List.mem_of_getElem? (i := 6) rfl)) (hw _ (List.mem_of_getElem? (i := 7) rfl)) (hw _ (List.mem_of_getElem? (i := 8) rfl)) eT (g := (mkF m 142 #[.val (.int p0), .val (.int p1), .val (.int p2), .val (.int k), .val (.int (1 : Int32)), .val (.ref r99), .val (.int (1 : Int32)), .val (.ref r94), .val (.ref b96)] [])) rfl (hb hby at_142) (by decide) (by decide)
              rw [← gb] at E_b101 Dq st
              have ne_b96_b101 : b96 ≠ b101 := Nat.ne_of_lt (Nat.lt_of_lt_of_le E_b96.lt (Nat.le_of_eq gb.symm))
              have ne_r94_b101 : r94 ≠ b101 := Nat.ne_of_lt (Nat.lt_of_lt_of_le E_r94.lt (Nat.le_of_eq gb.symm))
              have ne_r99_b101 : r99 ≠ b101 := Nat.ne_of_lt (Nat.lt_of_lt_of_le E_r99.lt (Nat.le_of_eq gb.symm))
              have g_b101 : n0 ≤ b101 := Nat.le_trans (own_le O) (Nat.le_of_eq gb.symm)
              have sz_b101 : h0.size ≤ b101 := Nat.le_trans K0.1 (Nat.le_of_eq gb.symm)
              replace E_r94 := E_r94.ext E
              replace F_value_r94 := F_value_r94.ext E
              replace E_b96 := E_b96.ext E
              replace F_truncation_b96 := F_truncation_b96.ext E
              replace E_r99 := E_r99.ext E
              replace F_value_r99 := F_value_r99.ext E
              replace O := O.ext E
              replace K0 := K0.ext E
              have F_response_b101 : Fld Z h102 b101 "com/example/wise_crawler/wisecrawler/crawl/Answer" "response" "Ljava/util/Optional;" .null := Dq (Or.inr (hw _ (List.mem_of_getElem? (i := 21) rfl))) (ty := (.object "java/util/Optional")) (by decide)
              have F_timedOut_b101 : Fld Z h102 b101 "com/example/wise_crawler/wisecrawler/crawl/Answer" "timedOut" "Z" (.int (0 : Int32)) := Dq (Or.inr (hw _ (List.mem_of_getElem? (i := 23) rfl))) (ty := .boolean) (by decide)
              refine own_via (g' := (mkF m 145 #[.val (.int p0), .val (.int p1), .val (.int p2), .val (.int k), .val (.int (1 : Int32)), .val (.ref r99), .val (.int (1 : Int32)), .val (.ref r94), .val (.ref b96)] [(.ref b101)])) st ?_
              refine own_via (T' := T) (g' := (mkF m 146 #[.val (.int p0), .val (.int p1), .val (.int p2), .val (.int k), .val (.int (1 : Int32)), .val (.ref r99), .val (.int (1 : Int32)), .val (.ref r94), .val (.ref b96)] [(.ref b101), (.ref b101)])) (fun t_ k_ => XS.dup X.here hx rfl (hb hby at_145) rfl rfl k_) ?_
              refine own_via (T' := T) (g' := (mkF m 148 #[.val (.int p0), .val (.int p1), .val (.int p2), .val (.int k), .val (.int (1 : Int32)), .val (.ref r99), .val (.int (1 : Int32)), .val (.ref r94), .val (.ref b96)] [(.ref r99), (.ref b101), (.ref b101)])) (fun t_ k_ => XS.aload X.here hx rfl (hb hby at_146) rfl rfl k_) ?_
              refine own_via (T' := T) (g' := (mkF m 150 #[.val (.int p0), .val (.int p1), .val (.int p2), .val (.int k), .val (.int (1 : Int32)), .val (.ref r99), .val (.int (1 : Int32)), .val (.ref r94), .val (.ref b96)] [(.int (1 : Int32)), (.ref r99), (.ref b101), (.ref b101)])) (fun t_ k_ => XS.iload X.here hx rfl (hb hby at_148) rfl k_) ?_
              obtain ⟨_, _, ⟨T, Lq, kq, nq⟩, -, X, ⟨Lc, hQ, lq, yq, zq⟩, st⟩ := X.specialBack hx (y := (⟨"com/example/wise_crawler/wisecrawler/crawl/Answer", "<init>", "(Ljava/util/Optional;Z)V"⟩ : MethodName)) rfl hown (mvT hZ (hw _ (List.mem_of_getElem? (i := 9) rfl))) (mvT hZ (hw _ (List.mem_of_getElem? (i := 10) rfl))) (mvT hZ (hw _ (List.mem_of_getElem? (i := 11) rfl))) (by decide) (backOf (W := 1) (own_ansinit l Z a0 hw [] b101 r99 (1 : Int32) h102 n0 O E_b101 F_response_b101 F_timedOut_b101 g_b101) hZ (hw _ (List.mem_of_getElem? (i := 11) rfl)) (hw _ (List.mem_of_getElem? (i := 8) rfl)) (by decide) (by decide)) (g := (mkF m 150 #[.val (.int p0), .val (.int p1), .val (.int p2), .val (.int k), .val (.int (1 : Int32)), .val (.ref r99), .val (.int (1 : Int32)), .val (.ref r94), .val (.ref b96)] [(.int (1 : Int32)), (.ref r99), (.ref b101), (.ref b101)])) rfl (by rw [hml]; rfl) (Steps.refl _) (a := b101) (argsL := [(.ref r99), (.int (1 : Int32))]) (rest := [(.ref b101)]) (lenOf own_pd6 rfl) rfl (by show 2 * 0 + _ ≤ _; exact Nat.le_of_eq rfl) (hb hby at_150) (fun _ _ => ⟨rfl, eT, (by decide : 4 + 0 ≤ _), (by decide : 12 + 0 ≤ _)⟩)
              dsimp only [Pt.U, Pt.locs, Pt.cells, Pt.slots] at X lq yq zq st hQ
              subst lq yq zq
              obtain ⟨rfl, Nq, Kq, E_b101, F_response_b101⟩ := hQ
              replace N := Fr.app N Nq
              obtain ⟨h103, eT⟩ : ∃ z, T.heap = z := ⟨_, rfl⟩
              rw [eT] at Kq E_b101 F_response_b101
              replace E_r94 := E_r94.keep Kq
              replace F_value_r94 := F_value_r94.keep Kq (ninS ne_r94_b101 nin0)
              replace E_b96 := E_b96.keep Kq
              replace F_truncation_b96 := F_truncation_b96.keep Kq (ninS ne_b96_b101 nin0)
              replace E_r99 := E_r99.keep Kq
              replace F_value_r99 := F_value_r99.keep Kq (ninS ne_r99_b101 nin0)
              replace O := O.keep Kq (allS g_b101 all0)
              replace K0 := K0.trans Kq (allS (Or.inr sz_b101) all0)
              refine own_viaT (g' := (mkF m 153 #[.val (.int p0), .val (.int p1), .val (.int p2), .val (.int k), .val (.int (1 : Int32)), .val (.ref r99), .val (.int (1 : Int32)), .val (.ref r94), .val (.ref b96)] [(.ref b101)])) st ?_
              refine own_via (T' := T) (g' := (mkF m 155 #[.val (.int p0), .val (.int p1), .val (.int p2), .val (.int k), .val (.int (1 : Int32)), .val (.ref r99), .val (.int (1 : Int32)), .val (.ref b101), .val (.ref b96)] [])) (fun t_ k_ => XS.astore X.here hx rfl (hb hby at_153) rfl rfl (l' := #[.val (.int p0), .val (.int p1), .val (.int p2), .val (.int k), .val (.int (1 : Int32)), .val (.ref r99), .val (.int (1 : Int32)), .val (.ref b101), .val (.ref b96)]) rfl k_) ?_
              refine own_via (T' := T) (g' := (mkF m 157 #[.val (.int p0), .val (.int p1), .val (.int p2), .val (.int k), .val (.int (1 : Int32)), .val (.ref r99), .val (.int (1 : Int32)), .val (.ref b101), .val (.ref b96)] [(.ref b101)])) (fun t_ k_ => XS.aload X.here hx rfl (hb hby at_155) rfl rfl k_) ?_
              obtain ⟨cq, kq, qa, qb, qc⟩ := isOf hZ eT E_b101
              obtain ⟨_, _, ⟨T, Lq, kq, nq⟩, -, X, ⟨Lc, hQ, lq, yq, zq⟩, st⟩ := X.virtualBack hx (y := (⟨"com/example/wise_crawler/wisecrawler/crawl/Answer", "truncated", "()Z"⟩ : MethodName)) (z := (⟨"com/example/wise_crawler/wisecrawler/crawl/Answer", "truncated", "()Z"⟩ : MethodName)) hown (mvT hZ (hw _ (List.mem_of_getElem? (i := 24) rfl))) (mvT hZ (hw _ (List.mem_of_getElem? (i := 25) rfl))) (notFace_of_selects (args := #[]) (mvT hZ (hw _ (List.mem_of_getElem? (i := 27) rfl)))) (mvT hZ (hw _ (List.mem_of_getElem? (i := 27) rfl))) (mvT hZ (hw _ (List.mem_of_getElem? (i := 26) rfl))) (by decide) (backOf (W := 0) (own_tC l Z a0 hw [] b101 r99 aF cK b96 r94 wDISCONNECT h103 n0 O LM F_response_b101 E_r99 F_value_r99 E_b96 F_truncation_b96 E_r94 F_value_r94) hZ (hw _ (List.mem_of_getElem? (i := 28) rfl)) (hw _ (List.mem_of_getElem? (i := 8) rfl)) (by decide) (by decide)) qa qc (g := (mkF m 157 #[.val (.int p0), .val (.int p1), .val (.int p2), .val (.int k), .val (.int (1 : Int32)), .val (.ref r99), .val (.int (1 : Int32)), .val (.ref b101), .val (.ref b96)] [(.ref b101)])) rfl (by rw [hml]; rfl) (Steps.refl _) (argsL := []) (rest := []) (lenOf own_pd4 rfl) rfl (by show 2 * 0 + _ ≤ _; exact Nat.le_of_eq rfl) (hb hby at_157) (fun _ _ => ⟨rfl, eT, (by decide : 4 + 0 ≤ _), (by decide : 12 + 0 ≤ _)⟩)
              dsimp only [Pt.U, Pt.locs, Pt.cells, Pt.slots] at X lq yq zq st hQ
              subst lq yq zq
              obtain ⟨rfl, Nq, eT⟩ := hQ
              replace N := Fr.app N Nq
              refine own_viaT (g' := (mkF m 160 #[.val (.int p0), .val (.int p1), .val (.int p2), .val (.int k), .val (.int (1 : Int32)), .val (.ref r99), .val (.int (1 : Int32)), .val (.ref b101), .val (.ref b96)] [(.int (1 : Int32))])) st ?_
              refine own_via (T' := T) (g' := (mkF m 162 #[.val (.int p0), .val (.int p1), .val (.int p2), .val (.int k), .val (.int (1 : Int32)), .val (.ref r99), .val (.int (1 : Int32)), .val (.ref b101), .val (.ref b96)] [(.int (1 : Int32)), (.int (1 : Int32))])) (fun t_ k_ => XS.iload X.here hx rfl (hb hby at_160) rfl k_) ?_
              refine own_via (T' := T) (g' := (mkF m 165 #[.val (.int p0), .val (.int p1), .val (.int p2), .val (.int k), .val (.int (1 : Int32)), .val (.ref r99), .val (.int (1 : Int32)), .val (.ref b101), .val (.ref b96)] [])) (fun t_ k_ => XS.icmpNo X.here hx rfl (hb hby at_162) rfl (teq (by decide : (1 : Int32) = (1 : Int32))).2 k_) ?_
              refine own_via (T' := T) (g' := (mkF m 166 #[.val (.int p0), .val (.int p1), .val (.int p2), .val (.int k), .val (.int (1 : Int32)), .val (.ref r99), .val (.int (1 : Int32)), .val (.ref b101), .val (.ref b96)] [(.int (1 : Int32))])) (fun t_ k_ => XS.iconst X.here hx rfl (hb hby at_165) k_) ?_
              refine own_via (T' := T) (g' := (mkF m 170 #[.val (.int p0), .val (.int p1), .val (.int p2), .val (.int k), .val (.int (1 : Int32)), .val (.ref r99), .val (.int (1 : Int32)), .val (.ref b101), .val (.ref b96)] [(.int (1 : Int32))])) (fun t_ k_ => XS.goto X.here hx rfl (pc0 := 166) (pc' := 170) rfl (hb hby at_166) (by decide) (by decide) k_) ?_
              refine own_retN X hx hlk (t := .boolean) Bd.returns (by simp) (hb hby at_170) (by decide) (by decide) ?_
              rw [eT]
              exact ⟨rfl, N, trivial⟩
            · refine own_via (T' := T) (g' := (mkF m 97 #[.val (.int p0), .val (.int p1), .val (.int p2), .val (.int k), .val (.int (1 : Int32)), .unset, .unset, .unset, .unset] [])) (fun t_ k_ => XS.icmpYes X.here hx rfl (pc0 := 83) (pc' := 97) rfl (hb hby at_83) rfl (feq hc93).2 (by decide) (by decide) k_) ?_
              obtain ⟨T, X, eT, st⟩ := getS2 X hx hZ hown (host := "") (Or.inl (hw _ (List.mem_of_getElem? (i := 97) rfl))) Via.refl eT (S_UNSPECIFIED.ext O.2) (g := (mkF m 97 #[.val (.int p0), .val (.int p1), .val (.int p2), .val (.int k), .val (.int (1 : Int32)), .unset, .unset, .unset, .unset] [])) rfl (hb hby at_97)
              refine own_via (g' := (mkF m 100 #[.val (.int p0), .val (.int p1), .val (.int p2), .val (.int k), .val (.int (1 : Int32)), .unset, .unset, .unset, .unset] [(.ref wUNSPECIFIED)])) st ?_
              obtain ⟨_, _, ⟨T, Lq, kq, nq⟩, -, X, ⟨Lc, hQ, lq, yq, zq⟩, st⟩ := Jvm.LawKit.callS X hx (y := (⟨"java/util/Optional", "of", "(Ljava/lang/Object;)Ljava/util/Optional;"⟩ : MethodName)) hown (mvT hZ (hw _ (List.mem_of_getElem? (i := 77) rfl))) (mvT hZ (hw _ (List.mem_of_getElem? (i := 78) rfl))) (mvT hZ (hw _ (List.mem_of_getElem? (i := 3) rfl))) (mvT hZ (hw _ (List.mem_of_getElem? (i := 79) rfl))) (by decide) (backOf (W := 0) (own_optof l Z a0 hw [] wUNSPECIFIED h n0 O ) hZ (hw _ (List.mem_of_getElem? (i := 79) rfl)) (hw _ (List.mem_of_getElem? (i := 3) rfl)) (by decide) (by decide)) (g := (mkF m 100 #[.val (.int p0), .val (.int p1), .val (.int p2), .val (.int k), .val (.int (1 : Int32)), .unset, .unset, .unset, .unset] [(.ref wUNSPECIFIED)])) rfl (by rw [hml]; rfl) (argsL := [(.ref wUNSPECIFIED)]) (rest := []) (lenOf own_pd8 rfl) rfl (by show 2 * 0 + _ ≤ _; exact Nat.le_of_eq rfl) (hb hby at_100) (fun _ _ => ⟨rfl, eT, (by decide : 0 + 1 ≤ _), (by decide : 0 + 1 ≤ _)⟩)
              dsimp only [Pt.U, Pt.locs, Pt.cells, Pt.slots] at X lq yq zq st hQ
              subst lq yq zq
              obtain ⟨r104, rfl, Nq, Kq, szq, E_r104, F_value_r104⟩ := hQ
              replace N := Fr.app N Nq
              obtain ⟨h105, eT⟩ : ∃ z, T.heap = z := ⟨_, rfl⟩
              rw [eT] at Kq E_r104 F_value_r104
              have g_r104 : n0 ≤ r104 := Nat.le_trans (own_le O) szq
              have sz_r104 : h0.size ≤ r104 := Nat.le_trans K0.1 szq
              replace O := O.keep Kq all0
              replace K0 := K0.trans Kq all0
              refine own_via (g' := (mkF m 103 #[.val (.int p0), .val (.int p1), .val (.int p2), .val (.int k), .val (.int (1 : Int32)), .unset, .unset, .unset, .unset] [(.ref r104)])) st ?_
              refine own_via (T' := T) (g' := (mkF m 105 #[.val (.int p0), .val (.int p1), .val (.int p2), .val (.int k), .val (.int (1 : Int32)), .unset, .unset, .val (.ref r104), .unset] [])) (fun t_ k_ => XS.astore X.here hx rfl (hb hby at_103) rfl rfl (l' := #[.val (.int p0), .val (.int p1), .val (.int p2), .val (.int k), .val (.int (1 : Int32)), .unset, .unset, .val (.ref r104), .unset]) rfl k_) ?_
              obtain ⟨b106, gb⟩ : ∃ z, z = h105.size := ⟨_, rfl⟩
              obtain ⟨T, h107, X, eT, E, E_b106, Dq, -, st⟩ := newO X hx hZ hown (hw _ (List.mem_of_getElem? (i := 54) rfl)) (hw _ (List.mem_of_getElem? (i := 55) rfl)) (hw _ (List.mem_of_getElem? (i := 56) rfl)) eT (g := (mkF m 105 #[.val (.int p0), .val (.int p1), .val (.int p2), .val (.int k), .val (.int (1 : Int32)), .unset, .unset, .val (.ref r104), .unset] [])) rfl (hb hby at_105) (by decide) (by decide)
              rw [← gb] at E_b106 Dq st
              have ne_r104_b106 : r104 ≠ b106 := Nat.ne_of_lt (Nat.lt_of_lt_of_le E_r104.lt (Nat.le_of_eq gb.symm))
              have g_b106 : n0 ≤ b106 := Nat.le_trans (own_le O) (Nat.le_of_eq gb.symm)
              have sz_b106 : h0.size ≤ b106 := Nat.le_trans K0.1 (Nat.le_of_eq gb.symm)
              replace E_r104 := E_r104.ext E
              replace F_value_r104 := F_value_r104.ext E
              replace O := O.ext E
              replace K0 := K0.ext E
              have F_url_b106 : Fld Z h107 b106 "com/example/wise_crawler/wisecrawler/fetch/Exchange" "url" "Lcom/example/wise_crawler/wisecrawler/url/CanonicalUrl;" .null := Dq (Or.inr (hw _ (List.mem_of_getElem? (i := 62) rfl))) (ty := (.object "com/example/wise_crawler/wisecrawler/url/CanonicalUrl")) (by decide)
              have F_date_b106 : Fld Z h107 b106 "com/example/wise_crawler/wisecrawler/fetch/Exchange" "date" "Ljava/time/Instant;" .null := Dq (Or.inr (hw _ (List.mem_of_getElem? (i := 64) rfl))) (ty := (.object "java/time/Instant")) (by decide)
              have F_protocol_b106 : Fld Z h107 b106 "com/example/wise_crawler/wisecrawler/fetch/Exchange" "protocol" "Ljava/lang/String;" .null := Dq (Or.inr (hw _ (List.mem_of_getElem? (i := 66) rfl))) (ty := (.object "java/lang/String")) (by decide)
              have F_requestHeaders_b106 : Fld Z h107 b106 "com/example/wise_crawler/wisecrawler/fetch/Exchange" "requestHeaders" "Lcom/example/wise_crawler/wisecrawler/fetch/HeaderFields;" .null := Dq (Or.inr (hw _ (List.mem_of_getElem? (i := 68) rfl))) (ty := (.object "com/example/wise_crawler/wisecrawler/fetch/HeaderFields")) (by decide)
              have F_status_b106 : Fld Z h107 b106 "com/example/wise_crawler/wisecrawler/fetch/Exchange" "status" "I" (.int (0 : Int32)) := Dq (Or.inr (hw _ (List.mem_of_getElem? (i := 70) rfl))) (ty := .int) (by decide)
              have F_responseHeaders_b106 : Fld Z h107 b106 "com/example/wise_crawler/wisecrawler/fetch/Exchange" "responseHeaders" "Lcom/example/wise_crawler/wisecrawler/fetch/HeaderFields;" .null := Dq (Or.inr (hw _ (List.mem_of_getElem? (i := 72) rfl))) (ty := (.object "com/example/wise_crawler/wisecrawler/fetch/HeaderFields")) (by decide)
              have F_body_b106 : Fld Z h107 b106 "com/example/wise_crawler/wisecrawler/fetch/Exchange" "body" "Lcom/example/wise_crawler/wisecrawler/fetch/SpooledBytes;" .null := Dq (Or.inr (hw _ (List.mem_of_getElem? (i := 74) rfl))) (ty := (.object "com/example/wise_crawler/wisecrawler/fetch/SpooledBytes")) (by decide)
              have F_truncation_b106 : Fld Z h107 b106 "com/example/wise_crawler/wisecrawler/fetch/Exchange" "truncation" "Ljava/util/Optional;" .null := Dq (Or.inr (hw _ (List.mem_of_getElem? (i := 76) rfl))) (ty := (.object "java/util/Optional")) (by decide)
              refine own_via (g' := (mkF m 108 #[.val (.int p0), .val (.int p1), .val (.int p2), .val (.int k), .val (.int (1 : Int32)), .unset, .unset, .val (.ref r104), .unset] [(.ref b106)])) st ?_
              refine own_via (T' := T) (g' := (mkF m 109 #[.val (.int p0), .val (.int p1), .val (.int p2), .val (.int k), .val (.int (1 : Int32)), .unset, .unset, .val (.ref r104), .unset] [(.ref b106), (.ref b106)])) (fun t_ k_ => XS.dup X.here hx rfl (hb hby at_108) rfl rfl k_) ?_
              refine own_via (T' := T) (g' := (mkF m 110 #[.val (.int p0), .val (.int p1), .val (.int p2), .val (.int k), .val (.int (1 : Int32)), .unset, .unset, .val (.ref r104), .unset] [.null, (.ref b106), (.ref b106)])) (fun t_ k_ => XS.aconstNull X.here hx rfl (hb hby at_109) k_) ?_
              refine own_via (T' := T) (g' := (mkF m 111 #[.val (.int p0), .val (.int p1), .val (.int p2), .val (.int k), .val (.int (1 : Int32)), .unset, .unset, .val (.ref r104), .unset] [.null, .null, (.ref b106), (.ref b106)])) (fun t_ k_ => XS.aconstNull X.here hx rfl (hb hby at_110) k_) ?_
              refine own_via (T' := T) (g' := (mkF m 112 #[.val (.int p0), .val (.int p1), .val (.int p2), .val (.int k), .val (.int (1 : Int32)), .unset, .unset, .val (.ref r104), .unset] [.null, .null, .null, (.ref b106), (.ref b106)])) (fun t_ k_ => XS.aconstNull X.here hx rfl (hb hby at_111) k_) ?_
              refine own_via (T' := T) (g' := (mkF m 113 #[.val (.int p0), .val (.int p1), .val (.int p2), .val (.int k), .val (.int (1 : Int32)), .unset, .unset, .val (.ref r104), .unset] [.null, .null, .null, .null, (.ref b106), (.ref b106)])) (fun t_ k_ => XS.aconstNull X.here hx rfl (hb hby at_112) k_) ?_
              refine own_via (T' := T) (g' := (mkF m 114 #[.val (.int p0), .val (.int p1), .val (.int p2), .val (.int k), .val (.int (1 : Int32)), .unset, .unset, .val (.ref r104), .unset] [(.int p2), .null, .null, .null, .null, (.ref b106), (.ref b106)])) (fun t_ k_ => XS.iloadN X.here hx rfl (hb hby at_113) rfl k_) ?_
              refine own_via (T' := T) (g' := (mkF m 115 #[.val (.int p0), .val (.int p1), .val (.int p2), .val (.int k), .val (.int (1 : Int32)), .unset, .unset, .val (.ref r104), .unset] [.null, (.int p2), .null, .null, .null, .null, (.ref b106), (.ref b106)])) (fun t_ k_ => XS.aconstNull X.here hx rfl (hb hby at_114) k_) ?_
              refine own_via (T' := T) (g' := (mkF m 116 #[.val (.int p0), .val (.int p1), .val (.int p2), .val (.int k), .val (.int (1 : Int32)), .unset, .unset, .val (.ref r104), .unset] [.null, .null, (.int p2), .null, .null, .null, .null, (.ref b106), (.ref b106)])) (fun t_ k_ => XS.aconstNull X.here hx rfl (hb hby at_115) k_) ?_
              refine own_via (T' := T) (g' := (mkF m 118 #[.val (.int p0), .val (.int p1), .val (.int p2), .val (.int k), .val (.int (1 : Int32)), .unset, .unset, .val (.ref r104), .unset] [(.ref r104), .null, .null, (.int p2), .null, .null, .null, .null, (.ref b106), (.ref b106)])) (fun t_ k_ => XS.aload X.here hx rfl (hb hby at_116) rfl rfl k_) ?_
              obtain ⟨_, _, ⟨T, Lq, kq, nq⟩, -, X, ⟨Lc, hQ, lq, yq, zq⟩, st⟩ := X.specialBack hx (y := (⟨"com/example/wise_crawler/wisecrawler/fetch/Exchange", "<init>", "(Lcom/example/wise_crawler/wisecrawler/url/CanonicalUrl;Ljava/time/Instant;Ljava/lang/String;Lcom/example/wise_crawler/wisecrawler/fetch/HeaderFields;ILcom/example/wise_crawler/wisecrawler/fetch/HeaderFields;Lcom/example/wise_crawler/wisecrawler/fetch/SpooledBytes;Ljava/util/Optional;)V"⟩ : MethodName)) rfl hown (mvT hZ (hw _ (List.mem_of_getElem? (i := 57) rfl))) (mvT hZ (hw _ (List.mem_of_getElem? (i := 58) rfl))) (mvT hZ (hw _ (List.mem_of_getElem? (i := 59) rfl))) (by decide) (backOf (W := 1) (own_exch l Z a0 hw [] b106 p2 r104 h107 n0 O E_b106 F_url_b106 F_date_b106 F_protocol_b106 F_requestHeaders_b106 F_status_b106 F_responseHeaders_b106 F_body_b106 F_truncation_b106 g_b106) hZ (hw _ (List.mem_of_getElem? (i := 59) rfl)) (hw _ (List.mem_of_getElem? (i := 56) rfl)) (by decide) (by decide)) (g := (mkF m 118 #[.val (.int p0), .val (.int p1), .val (.int p2), .val (.int k), .val (.int (1 : Int32)), .unset, .unset, .val (.ref r104), .unset] [(.ref r104), .null, .null, (.int p2), .null, .null, .null, .null, (.ref b106), (.ref b106)])) rfl (by rw [hml]; rfl) (Steps.refl _) (a := b106) (argsL := [.null, .null, .null, .null, (.int p2), .null, .null, (.ref r104)]) (rest := [(.ref b106)]) (lenOf own_pd7 rfl) rfl (by show 2 * 0 + _ ≤ _; exact Nat.le_of_eq rfl) (hb hby at_118) (fun _ _ => ⟨rfl, eT, (by decide : 2 + 0 ≤ _), (by decide : 9 + 0 ≤ _)⟩)
              dsimp only [Pt.U, Pt.locs, Pt.cells, Pt.slots] at X lq yq zq st hQ
              subst lq yq zq
              obtain ⟨rfl, Nq, Kq, E_b106, F_truncation_b106⟩ := hQ
              replace N := Fr.app N Nq
              obtain ⟨h108, eT⟩ : ∃ z, T.heap = z := ⟨_, rfl⟩
              rw [eT] at Kq E_b106 F_truncation_b106
              replace E_r104 := E_r104.keep Kq
              replace F_value_r104 := F_value_r104.keep Kq (ninS ne_r104_b106 nin0)
              replace O := O.keep Kq (allS g_b106 all0)
              replace K0 := K0.trans Kq (allS (Or.inr sz_b106) all0)
              refine own_viaT (g' := (mkF m 121 #[.val (.int p0), .val (.int p1), .val (.int p2), .val (.int k), .val (.int (1 : Int32)), .unset, .unset, .val (.ref r104), .unset] [(.ref b106)])) st ?_
              refine own_via (T' := T) (g' := (mkF m 123 #[.val (.int p0), .val (.int p1), .val (.int p2), .val (.int k), .val (.int (1 : Int32)), .unset, .unset, .val (.ref r104), .val (.ref b106)] [])) (fun t_ k_ => XS.astore X.here hx rfl (hb hby at_121) rfl rfl (l' := #[.val (.int p0), .val (.int p1), .val (.int p2), .val (.int k), .val (.int (1 : Int32)), .unset, .unset, .val (.ref r104), .val (.ref b106)]) rfl k_) ?_
              refine own_via (T' := T) (g' := (mkF m 125 #[.val (.int p0), .val (.int p1), .val (.int p2), .val (.int k), .val (.int (1 : Int32)), .unset, .unset, .val (.ref r104), .val (.ref b106)] [(.ref b106)])) (fun t_ k_ => XS.aload X.here hx rfl (hb hby at_123) rfl rfl k_) ?_
              obtain ⟨_, _, ⟨T, Lq, kq, nq⟩, -, X, ⟨Lc, hQ, lq, yq, zq⟩, st⟩ := Jvm.LawKit.callS X hx (y := (⟨"java/util/Optional", "of", "(Ljava/lang/Object;)Ljava/util/Optional;"⟩ : MethodName)) hown (mvT hZ (hw _ (List.mem_of_getElem? (i := 77) rfl))) (mvT hZ (hw _ (List.mem_of_getElem? (i := 78) rfl))) (mvT hZ (hw _ (List.mem_of_getElem? (i := 3) rfl))) (mvT hZ (hw _ (List.mem_of_getElem? (i := 79) rfl))) (by decide) (backOf (W := 0) (own_optof l Z a0 hw [] b106 h108 n0 O ) hZ (hw _ (List.mem_of_getElem? (i := 79) rfl)) (hw _ (List.mem_of_getElem? (i := 3) rfl)) (by decide) (by decide)) (g := (mkF m 125 #[.val (.int p0), .val (.int p1), .val (.int p2), .val (.int k), .val (.int (1 : Int32)), .unset, .unset, .val (.ref r104), .val (.ref b106)] [(.ref b106)])) rfl (by rw [hml]; rfl) (argsL := [(.ref b106)]) (rest := []) (lenOf own_pd8 rfl) rfl (by show 2 * 0 + _ ≤ _; exact Nat.le_of_eq rfl) (hb hby at_125) (fun _ _ => ⟨rfl, eT, (by decide : 2 + 1 ≤ _), (by decide : 9 + 1 ≤ _)⟩)
              dsimp only [Pt.U, Pt.locs, Pt.cells, Pt.slots] at X lq yq zq st hQ
              subst lq yq zq
              obtain ⟨r109, rfl, Nq, Kq, szq, E_r109, F_value_r109⟩ := hQ
              replace N := Fr.app N Nq
              obtain ⟨h110, eT⟩ : ∃ z, T.heap = z := ⟨_, rfl⟩
              rw [eT] at Kq E_r109 F_value_r109
              have ne_b106_r109 : b106 ≠ r109 := Nat.ne_of_lt (Nat.lt_of_lt_of_le E_b106.lt szq)
              have ne_r104_r109 : r104 ≠ r109 := Nat.ne_of_lt (Nat.lt_of_lt_of_le E_r104.lt szq)
              have g_r109 : n0 ≤ r109 := Nat.le_trans (own_le O) szq
              have sz_r109 : h0.size ≤ r109 := Nat.le_trans K0.1 szq
              replace E_r104 := E_r104.keep Kq
              replace F_value_r104 := F_value_r104.keep Kq nin0
              replace E_b106 := E_b106.keep Kq
              replace F_truncation_b106 := F_truncation_b106.keep Kq nin0
              replace O := O.keep Kq all0
              replace K0 := K0.trans Kq all0
              refine own_via (g' := (mkF m 128 #[.val (.int p0), .val (.int p1), .val (.int p2), .val (.int k), .val (.int (1 : Int32)), .unset, .unset, .val (.ref r104), .val (.ref b106)] [(.ref r109)])) st ?_
              refine own_via (T' := T) (g' := (mkF m 130 #[.val (.int p0), .val (.int p1), .val (.int p2), .val (.int k), .val (.int (1 : Int32)), .val (.ref r109), .unset, .val (.ref r104), .val (.ref b106)] [])) (fun t_ k_ => XS.astore X.here hx rfl (hb hby at_128) rfl rfl (l' := #[.val (.int p0), .val (.int p1), .val (.int p2), .val (.int k), .val (.int (1 : Int32)), .val (.ref r109), .unset, .val (.ref r104), .val (.ref b106)]) rfl k_) ?_
              refine own_via (T' := T) (g' := (mkF m 131 #[.val (.int p0), .val (.int p1), .val (.int p2), .val (.int k), .val (.int (1 : Int32)), .val (.ref r109), .unset, .val (.ref r104), .val (.ref b106)] [(.int k)])) (fun t_ k_ => XS.iloadN X.here hx rfl (hb hby at_130) rfl k_) ?_
              refine own_via (T' := T) (g' := (mkF m 132 #[.val (.int p0), .val (.int p1), .val (.int p2), .val (.int k), .val (.int (1 : Int32)), .val (.ref r109), .unset, .val (.ref r104), .val (.ref b106)] [(.int (1 : Int32)), (.int k)])) (fun t_ k_ => XS.iconst X.here hx rfl (hb hby at_131) k_) ?_
              refine own_via (T' := T) (g' := (mkF m 135 #[.val (.int p0), .val (.int p1), .val (.int p2), .val (.int k), .val (.int (1 : Int32)), .val (.ref r109), .unset, .val (.ref r104), .val (.ref b106)] [])) (fun t_ k_ => XS.icmpNo X.here hx rfl (hb hby at_132) rfl (feq hc62).1 k_) ?_
              refine own_via (T' := T) (g' := (mkF m 136 #[.val (.int p0), .val (.int p1), .val (.int p2), .val (.int k), .val (.int (1 : Int32)), .val (.ref r109), .unset, .val (.ref r104), .val (.ref b106)] [(.int (1 : Int32))])) (fun t_ k_ => XS.iconst X.here hx rfl (hb hby at_135) k_) ?_
              refine own_via (T' := T) (g' := (mkF m 140 #[.val (.int p0), .val (.int p1), .val (.int p2), .val (.int k), .val (.int (1 : Int32)), .val (.ref r109), .unset, .val (.ref r104), .val (.ref b106)] [(.int (1 : Int32))])) (fun t_ k_ => XS.goto X.here hx rfl (pc0 := 136) (pc' := 140) rfl (hb hby at_136) (by decide) (by decide) k_) ?_
              refine own_via (T' := T) (g' := (mkF m 142 #[.val (.int p0), .val (.int p1), .val (.int p2), .val (.int k), .val (.int (1 : Int32)), .val (.ref r109), .val (.int (1 : Int32)), .val (.ref r104), .val (.ref b106)] [])) (fun t_ k_ => XS.istore X.here hx rfl (hb hby at_140) rfl (l' := #[.val (.int p0), .val (.int p1), .val (.int p2), .val (.int k), .val (.int (1 : Int32)), .val (.ref r109), .val (.int (1 : Int32)), .val (.ref r104), .val (.ref b106)]) rfl k_) ?_
              obtain ⟨b111, gb⟩ : ∃ z, z = h110.size := ⟨_, rfl⟩
              obtain ⟨T, h112, X, eT, E, E_b111, Dq, -, st⟩ := newO X hx hZ hown (hw _ (List.mem_of_getElem? (i := 6) rfl)) (hw _ (List.mem_of_getElem? (i := 7) rfl)) (hw _ (List.mem_of_getElem? (i := 8) rfl)) eT (g := (mkF m 142 #[.val (.int p0), .val (.int p1), .val (.int p2), .val (.int k), .val (.int (1 : Int32)), .val (.ref r109), .val (.int (1 : Int32)), .val (.ref r104), .val (.ref b106)] [])) rfl (hb hby at_142) (by decide) (by decide)
              rw [← gb] at E_b111 Dq st
              have ne_b106_b111 : b106 ≠ b111 := Nat.ne_of_lt (Nat.lt_of_lt_of_le E_b106.lt (Nat.le_of_eq gb.symm))
              have ne_r104_b111 : r104 ≠ b111 := Nat.ne_of_lt (Nat.lt_of_lt_of_le E_r104.lt (Nat.le_of_eq gb.symm))
              have ne_r109_b111 : r109 ≠ b111 := Nat.ne_of_lt (Nat.lt_of_lt_of_le E_r109.lt (Nat.le_of_eq gb.symm))
              have g_b111 : n0 ≤ b111 := Nat.le_trans (own_le O) (Nat.le_of_eq gb.symm)
              have sz_b111 : h0.size ≤ b111 := Nat.le_trans K0.1 (Nat.le_of_eq gb.symm)
              replace E_r104 := E_r104.ext E
              replace F_value_r104 := F_value_r104.ext E
              replace E_b106 := E_b106.ext E
              replace F_truncation_b106 := F_truncation_b106.ext E
              replace E_r109 := E_r109.ext E
              replace F_value_r109 := F_value_r109.ext E
              replace O := O.ext E
              replace K0 := K0.ext E
              have F_response_b111 : Fld Z h112 b111 "com/example/wise_crawler/wisecrawler/crawl/Answer" "response" "Ljava/util/Optional;" .null := Dq (Or.inr (hw _ (List.mem_of_getElem? (i := 21) rfl))) (ty := (.object "java/util/Optional")) (by decide)
              have F_timedOut_b111 : Fld Z h112 b111 "com/example/wise_crawler/wisecrawler/crawl/Answer" "timedOut" "Z" (.int (0 : Int32)) := Dq (Or.inr (hw _ (List.mem_of_getElem? (i := 23) rfl))) (ty := .boolean) (by decide)
              refine own_via (g' := (mkF m 145 #[.val (.int p0), .val (.int p1), .val (.int p2), .val (.int k), .val (.int (1 : Int32)), .val (.ref r109), .val (.int (1 : Int32)), .val (.ref r104), .val (.ref b106)] [(.ref b111)])) st ?_
              refine own_via (T' := T) (g' := (mkF m 146 #[.val (.int p0), .val (.int p1), .val (.int p2), .val (.int k), .val (.int (1 : Int32)), .val (.ref r109), .val (.int (1 : Int32)), .val (.ref r104), .val (.ref b106)] [(.ref b111), (.ref b111)])) (fun t_ k_ => XS.dup X.here hx rfl (hb hby at_145) rfl rfl k_) ?_
              refine own_via (T' := T) (g' := (mkF m 148 #[.val (.int p0), .val (.int p1), .val (.int p2), .val (.int k), .val (.int (1 : Int32)), .val (.ref r109), .val (.int (1 : Int32)), .val (.ref r104), .val (.ref b106)] [(.ref r109), (.ref b111), (.ref b111)])) (fun t_ k_ => XS.aload X.here hx rfl (hb hby at_146) rfl rfl k_) ?_
              refine own_via (T' := T) (g' := (mkF m 150 #[.val (.int p0), .val (.int p1), .val (.int p2), .val (.int k), .val (.int (1 : Int32)), .val (.ref r109), .val (.int (1 : Int32)), .val (.ref r104), .val (.ref b106)] [(.int (1 : Int32)), (.ref r109), (.ref b111), (.ref b111)])) (fun t_ k_ => XS.iload X.here hx rfl (hb hby at_148) rfl k_) ?_
              obtain ⟨_, _, ⟨T, Lq, kq, nq⟩, -, X, ⟨Lc, hQ, lq, yq, zq⟩, st⟩ := X.specialBack hx (y := (⟨"com/example/wise_crawler/wisecrawler/crawl/Answer", "<init>", "(Ljava/util/Optional;Z)V"⟩ : MethodName)) rfl hown (mvT hZ (hw _ (List.mem_of_getElem? (i := 9) rfl))) (mvT hZ (hw _ (List.mem_of_getElem? (i := 10) rfl))) (mvT hZ (hw _ (List.mem_of_getElem? (i := 11) rfl))) (by decide) (backOf (W := 1) (own_ansinit l Z a0 hw [] b111 r109 (1 : Int32) h112 n0 O E_b111 F_response_b111 F_timedOut_b111 g_b111) hZ (hw _ (List.mem_of_getElem? (i := 11) rfl)) (hw _ (List.mem_of_getElem? (i := 8) rfl)) (by decide) (by decide)) (g := (mkF m 150 #[.val (.int p0), .val (.int p1), .val (.int p2), .val (.int k), .val (.int (1 : Int32)), .val (.ref r109), .val (.int (1 : Int32)), .val (.ref r104), .val (.ref b106)] [(.int (1 : Int32)), (.ref r109), (.ref b111), (.ref b111)])) rfl (by rw [hml]; rfl) (Steps.refl _) (a := b111) (argsL := [(.ref r109), (.int (1 : Int32))]) (rest := [(.ref b111)]) (lenOf own_pd6 rfl) rfl (by show 2 * 0 + _ ≤ _; exact Nat.le_of_eq rfl) (hb hby at_150) (fun _ _ => ⟨rfl, eT, (by decide : 4 + 0 ≤ _), (by decide : 12 + 0 ≤ _)⟩)
              dsimp only [Pt.U, Pt.locs, Pt.cells, Pt.slots] at X lq yq zq st hQ
              subst lq yq zq
              obtain ⟨rfl, Nq, Kq, E_b111, F_response_b111⟩ := hQ
              replace N := Fr.app N Nq
              obtain ⟨h113, eT⟩ : ∃ z, T.heap = z := ⟨_, rfl⟩
              rw [eT] at Kq E_b111 F_response_b111
              replace E_r104 := E_r104.keep Kq
              replace F_value_r104 := F_value_r104.keep Kq (ninS ne_r104_b111 nin0)
              replace E_b106 := E_b106.keep Kq
              replace F_truncation_b106 := F_truncation_b106.keep Kq (ninS ne_b106_b111 nin0)
              replace E_r109 := E_r109.keep Kq
              replace F_value_r109 := F_value_r109.keep Kq (ninS ne_r109_b111 nin0)
              replace O := O.keep Kq (allS g_b111 all0)
              replace K0 := K0.trans Kq (allS (Or.inr sz_b111) all0)
              refine own_viaT (g' := (mkF m 153 #[.val (.int p0), .val (.int p1), .val (.int p2), .val (.int k), .val (.int (1 : Int32)), .val (.ref r109), .val (.int (1 : Int32)), .val (.ref r104), .val (.ref b106)] [(.ref b111)])) st ?_
              refine own_via (T' := T) (g' := (mkF m 155 #[.val (.int p0), .val (.int p1), .val (.int p2), .val (.int k), .val (.int (1 : Int32)), .val (.ref r109), .val (.int (1 : Int32)), .val (.ref b111), .val (.ref b106)] [])) (fun t_ k_ => XS.astore X.here hx rfl (hb hby at_153) rfl rfl (l' := #[.val (.int p0), .val (.int p1), .val (.int p2), .val (.int k), .val (.int (1 : Int32)), .val (.ref r109), .val (.int (1 : Int32)), .val (.ref b111), .val (.ref b106)]) rfl k_) ?_
              refine own_via (T' := T) (g' := (mkF m 157 #[.val (.int p0), .val (.int p1), .val (.int p2), .val (.int k), .val (.int (1 : Int32)), .val (.ref r109), .val (.int (1 : Int32)), .val (.ref b111), .val (.ref b106)] [(.ref b111)])) (fun t_ k_ => XS.aload X.here hx rfl (hb hby at_155) rfl rfl k_) ?_
              obtain ⟨cq, kq, qa, qb, qc⟩ := isOf hZ eT E_b111
              obtain ⟨_, _, ⟨T, Lq, kq, nq⟩, -, X, ⟨Lc, hQ, lq, yq, zq⟩, st⟩ := X.virtualBack hx (y := (⟨"com/example/wise_crawler/wisecrawler/crawl/Answer", "truncated", "()Z"⟩ : MethodName)) (z := (⟨"com/example/wise_crawler/wisecrawler/crawl/Answer", "truncated", "()Z"⟩ : MethodName)) hown (mvT hZ (hw _ (List.mem_of_getElem? (i := 24) rfl))) (mvT hZ (hw _ (List.mem_of_getElem? (i := 25) rfl))) (notFace_of_selects (args := #[]) (mvT hZ (hw _ (List.mem_of_getElem? (i := 27) rfl)))) (mvT hZ (hw _ (List.mem_of_getElem? (i := 27) rfl))) (mvT hZ (hw _ (List.mem_of_getElem? (i := 26) rfl))) (by decide) (backOf (W := 0) (own_tC l Z a0 hw [] b111 r109 aF cK b106 r104 wUNSPECIFIED h113 n0 O LM F_response_b111 E_r109 F_value_r109 E_b106 F_truncation_b106 E_r104 F_value_r104) hZ (hw _ (List.mem_of_getElem? (i := 28) rfl)) (hw _ (List.mem_of_getElem? (i := 8) rfl)) (by decide) (by decide)) qa qc (g := (mkF m 157 #[.val (.int p0), .val (.int p1), .val (.int p2), .val (.int k), .val (.int (1 : Int32)), .val (.ref r109), .val (.int (1 : Int32)), .val (.ref b111), .val (.ref b106)] [(.ref b111)])) rfl (by rw [hml]; rfl) (Steps.refl _) (argsL := []) (rest := []) (lenOf own_pd4 rfl) rfl (by show 2 * 0 + _ ≤ _; exact Nat.le_of_eq rfl) (hb hby at_157) (fun _ _ => ⟨rfl, eT, (by decide : 4 + 0 ≤ _), (by decide : 12 + 0 ≤ _)⟩)
              dsimp only [Pt.U, Pt.locs, Pt.cells, Pt.slots] at X lq yq zq st hQ
              subst lq yq zq
              obtain ⟨rfl, Nq, eT⟩ := hQ
              replace N := Fr.app N Nq
              refine own_viaT (g' := (mkF m 160 #[.val (.int p0), .val (.int p1), .val (.int p2), .val (.int k), .val (.int (1 : Int32)), .val (.ref r109), .val (.int (1 : Int32)), .val (.ref b111), .val (.ref b106)] [(.int (1 : Int32))])) st ?_
              refine own_via (T' := T) (g' := (mkF m 162 #[.val (.int p0), .val (.int p1), .val (.int p2), .val (.int k), .val (.int (1 : Int32)), .val (.ref r109), .val (.int (1 : Int32)), .val (.ref b111), .val (.ref b106)] [(.int (1 : Int32)), (.int (1 : Int32))])) (fun t_ k_ => XS.iload X.here hx rfl (hb hby at_160) rfl k_) ?_
              refine own_via (T' := T) (g' := (mkF m 165 #[.val (.int p0), .val (.int p1), .val (.int p2), .val (.int k), .val (.int (1 : Int32)), .val (.ref r109), .val (.int (1 : Int32)), .val (.ref b111), .val (.ref b106)] [])) (fun t_ k_ => XS.icmpNo X.here hx rfl (hb hby at_162) rfl (teq (by decide : (1 : Int32) = (1 : Int32))).2 k_) ?_
              refine own_via (T' := T) (g' := (mkF m 166 #[.val (.int p0), .val (.int p1), .val (.int p2), .val (.int k), .val (.int (1 : Int32)), .val (.ref r109), .val (.int (1 : Int32)), .val (.ref b111), .val (.ref b106)] [(.int (1 : Int32))])) (fun t_ k_ => XS.iconst X.here hx rfl (hb hby at_165) k_) ?_
              refine own_via (T' := T) (g' := (mkF m 170 #[.val (.int p0), .val (.int p1), .val (.int p2), .val (.int k), .val (.int (1 : Int32)), .val (.ref r109), .val (.int (1 : Int32)), .val (.ref b111), .val (.ref b106)] [(.int (1 : Int32))])) (fun t_ k_ => XS.goto X.here hx rfl (pc0 := 166) (pc' := 170) rfl (hb hby at_166) (by decide) (by decide) k_) ?_
              refine own_retN X hx hlk (t := .boolean) Bd.returns (by simp) (hb hby at_170) (by decide) (by decide) ?_
              rw [eT]
              exact ⟨rfl, N, trivial⟩
set_option maxRecDepth 65536 in
set_option maxHeartbeats 40000000 in
theorem comes_1 {Post : Tables → Env → Array Value → State → Outcome → State → Prop} (hpost : ∀ tb e args s v u, (limb_1_1.after args s (.returned v) u = true ∧ limb_1_2.after args s (.returned v) u = true ∧ True) → FrameEnd s (.returned v) u (Jvm.fieldLocs frame_1_writes args s ++ Jvm.arrayLocs frame_1_arrays args s ++ Jvm.staticLocs frame_1_statics s) 16 128 → Post tb e args s (.returned v) u) :
    ArmFor flags0 classFile x code maxLocals ret World_1 tables_1 room_1 Calls_1 rest_1 Pre_1 Post := by
  intro l hfl _ _ p e ha hc hk s m args below hf hA hF happ hP
  obtain ⟨hcalls, hrest, hpre⟩ := hP
  obtain ⟨-, -, -, hnamed, -, -, -, hat⟩ := (Spec.applies_iff hf).mp happ
  obtain ⟨hg, hn⟩ := and_e (Cond.before_iff.mp (show (Jvm.Cond.and given_1 narrow_1).before args s = true from hpre))
  obtain ⟨hcount, hg1⟩ := and_e hg
  obtain ⟨hv0, hg2⟩ := and_e hg1
  obtain ⟨hv1, hg3⟩ := and_e hg2
  obtain ⟨w0, w1, w2, rfl⟩ : ∃ w0 w1 w2 : Value, args = #[w0, w1, w2] := by
    have hs : args.size = 3 := by simpa [Cond.value, given_1] using hcount
    obtain ⟨L⟩ := args
    match L, hs with
    | [w0, w1, w2], _ => exact ⟨w0, w1, w2, rfl⟩
  have hw := fun d (hd : d ∈ tables_1) => atoms_spec (ws := Jvm.Cond.code x code maxLocals ret :: tables_1) hat d (List.mem_cons_of_mem _ hd)
  have hfit : Fit s := fun {y c} hc i hi => by
    obtain ⟨ha, rfl⟩ := Array.getElem?_eq_some_iff.mp hc
    have q := List.all_eq_true.mp ((Array.all_eq_true_iff_forall_mem.mp hF) _ (Array.getElem_mem ha)) i (List.mem_range.mpr hi)
    simpa [Array.getElem?_eq_getElem hi] using q
  obtain ⟨hsets, hown0⟩ := atoms_of _ (rest_1_c_eq ▸ (show rest_1_c.before _ s = true from hrest))
  have hr0 := Cond.before_iff.mp hown0
  obtain ⟨i0, ei0⟩ := is_v hv0
  obtain rfl : w0 = (.int i0) := Option.some.inj ei0
  obtain ⟨i1, ei1⟩ := is_v hv1
  obtain rfl : w1 = (.int i1) := Option.some.inj ei1
  obtain ⟨i2, ei2⟩ := is_v hg3
  obtain rfl : w2 = (.int i2) := Option.some.inj ei2
  obtain ⟨nn1, nn2⟩ := and_e hn
  obtain ⟨nn3, nn4⟩ := and_e nn2
  obtain ⟨nn5, nn6⟩ := and_e nn4
  obtain ⟨wLENGTH, evLENGTH⟩ := exa_v nn1
  have S_LENGTH := Sta.start evLENGTH (Or.inr ⟨(hw _ (List.mem_of_getElem? (i := 95) rfl)), (hw _ (List.mem_of_getElem? (i := 96) rfl))⟩)
  obtain ⟨wUNSPECIFIED, evUNSPECIFIED⟩ := exa_v nn3
  have S_UNSPECIFIED := Sta.start evUNSPECIFIED (Or.inr ⟨(hw _ (List.mem_of_getElem? (i := 95) rfl)), (hw _ (List.mem_of_getElem? (i := 98) rfl))⟩)
  obtain ⟨wTIME, evTIME⟩ := exa_v nn5
  have S_TIME := Sta.start evTIME (Or.inr ⟨(hw _ (List.mem_of_getElem? (i := 95) rfl)), (hw _ (List.mem_of_getElem? (i := 100) rfl))⟩)
  obtain ⟨wDISCONNECT, evDISCONNECT⟩ := exa_v nn6
  have S_DISCONNECT := Sta.start evDISCONNECT (Or.inr ⟨(hw _ (List.mem_of_getElem? (i := 95) rfl)), (hw _ (List.mem_of_getElem? (i := 102) rfl))⟩)
  obtain ⟨wEMPTY, evE⟩ := exa_v (Cond.before_iff.mp (hsets _ (List.mem_of_getElem? (i := 2) rfl)))
  have E_w := Exa.start evE (Cond.before_iff.mp (hsets _ (List.mem_of_getElem? (i := 2) rfl)))
  have S_EMPTY := Sta.start evE (Or.inl (hsets _ (List.mem_of_getElem? (i := 1) rfl)))
  have F_w := Fld.start ((fld_at evE).symm.trans (null_v (Cond.before_iff.mp (hsets _ (List.mem_of_getElem? (i := 3) rfl)))))
  obtain ⟨aF, cK, LM⟩ := own_lamStart (y := (⟨"com/example/wise_crawler/wisecrawler/crawl/Answer", "truncated", "()Z"⟩ : MethodName)) (σ := own_shape) (hw _ (List.mem_of_getElem? (i := 29) rfl)) rfl
  obtain ⟨n, o, h1, h2, h3, _, L, rfl, ⟨rfl, N, -⟩, hq⟩ := own_law l s _ hw tables_1 i0 i1 i2 aF cK wEMPTY wLENGTH wTIME wDISCONNECT wUNSPECIFIED s.heap s.heap.size (Old.start s) LM S_EMPTY E_w F_w S_LENGTH S_TIME S_DISCONNECT S_UNSPECIFIED p e ha hc hk s m _ below hf ((Spec.applies_iff_loose hf).mp happ).1 ⟨rfl, State.Warmed39.refl s, rfl⟩ trivial
  refine ⟨n, _, h1, h2, h3, hpost _ _ _ _ _ _ ⟨Cond.after_iff.mpr rfl, Cond.after_iff.mpr (eq_i res_at (Term.int_eval (1)) rfl), trivial⟩ ⟨hq.1, hq.2.1, (hq.2.2.sift fun y hy => Or.inr (N y hy)).mono (by decide) (by decide)⟩⟩
theorem main_1_1 : Claimed_1_1 := comes_1 fun _ _ _ _ _ _ h hF => ⟨h.1, Jvm.RoadKit.wide hF⟩
theorem main_1_2 : Claimed_1_2 := comes_1 fun _ _ _ _ _ _ h hF => ⟨h.2.1, Jvm.RoadKit.wide hF⟩
end Jvm.Pilot.@@N@@
namespace Jvm.Pilot.@@N@@
open Jvm Jvm.ClassFile Sem Op Lib Jvm.Free Jvm.Stand Jvm.Pilot.@@N@@.Jvm.D
/-! MADE BY PROGRAM (witnessworld.py) out of the Statement's table words and the real class files: 21 classes; the members and pool entries that the words name. The judged class is class 1, her method 1. -/
namespace start1
open Jvm.ClassFile
def u (s : String) : CpInfo := .utf8 (stringToUtf16 s)
/-- a pool by its gaps: so many unusable entries, then the entry; so many at the end -/
def gap : Nat → List CpInfo → List CpInfo
  | 0, r => r
  | n + 1, r => .unusable :: gap n r
def poolList (es : List (Nat × CpInfo)) (last : Nat) : List CpInfo := es.foldr (fun e r => gap e.1 (e.2 :: r)) (gap last [])
def pool (es : List (Nat × CpInfo)) (last : Nat) : Array CpInfo := ⟨poolList es last⟩
def fileOf (pool : Array CpInfo) (this : Nat) (attrs : Array Attribute := #[]) (ms : Array MethodInfo := #[]) (fl : Nat := 33) (sup : Nat := 0) (ifs : Array Nat := #[]) (fds : Array FieldInfo := #[]) : ClassFile where
  minorVersion := 0
  majorVersion := 65
  constantPool := pool
  accessFlags := fl
  thisClass := this
  superClass := sup
  interfaces := ifs
  fields := fds
  methods := ms
  attributes := attrs
def plain (name : String) (sup : Option ClassId) : Class where
  name := name
  kind := .ordinary
  loader := none
  accessFlags := 33
  super := sup
  interfaces := #[]
  cf := none
  fields := #[]
  methods := #[]
  instanceTypes := #[]
  staticTypes := #[]
  resolved := #[]
  callSites := []
  init := .initialized
  statics := none
  mirror := none

def pool0 : Array CpInfo := pool [(5, u "<init>"), (0, u "()V"), (1, .class_ 10), (1, u "java/lang/Object")] 113

def k0c0 : Code := { maxStack := 0, maxLocals := 1, code := object_method_1_code, exceptionTable := #[], attributes := #[] }
def k0m0 : Method := { name := "<init>", desc := "()V", sig := { parameters := [], returnType := none }, accessFlags := 1, code := some k0c0 }
/-- java/lang/Object -/
def k0 : Class := { plain "java/lang/Object" none with
  accessFlags := 33
  interfaces := #[]
  cf := some (fileOf pool0 8 #[] #[{ accessFlags := 1, nameIndex := 5, descriptorIndex := 6, attributes := #[] }] 33 0 #[] #[])
  fields := #[]
  methods := #[k0m0]
  instanceTypes := #[]
  staticTypes := #[]
  resolved := Array.replicate 124 none
  statics := none }

def pool1 : Array CpInfo := pool [(2, .class_ 4), (1, u "java/lang/Object"), (0, u "<init>"), (0, u "()V"), (0, .integer 2147483647), (0, .methodref 9 10), (0, .class_ 11), (0, .nameAndType 12 13), (0, u "java/util/Optional"), (0, u "empty"), (0, u "()Ljava/util/Optional;"), (0, .fieldref 15 16), (0, .class_ 17), (0, .nameAndType 18 19), (0, u "com/example/wise_crawler/wisecrawler/fetch/Truncation"), (0, u "LENGTH"), (0, u "Lcom/example/wise_crawler/wisecrawler/fetch/Truncation;"), (0, .methodref 9 21), (0, .nameAndType 22 23), (0, u "of"), (0, u "(Ljava/lang/Object;)Ljava/util/Optional;"), (0, .fieldref 15 25), (0, .nameAndType 26 19), (0, u "TIME"), (0, .fieldref 15 28), (0, .nameAndType 29 19), (0, u "DISCONNECT"), (0, .fieldref 15 31), (0, .nameAndType 32 19), (0, u "UNSPECIFIED"), (0, .class_ 34), (0, u "com/example/wise_crawler/wisecrawler/fetch/Exchange"), (0, .methodref 33 36), (0, .nameAndType 5 37), (0, u "(Lcom/example/wise_crawler/wisecrawler/url/CanonicalUrl;Ljava/time/Instant;Ljava/lang/String;Lcom/example/wise_crawler/wisecrawler/fetch/HeaderFields;ILcom/example/wise_crawler/wisecrawler/fetch/HeaderFields;Lcom/example/wise_crawler/wisecrawler/fetch/SpooledBytes;Ljava/util/Optional;)V"), (0, .class_ 39), (0, u "com/example/wise_crawler/wisecrawler/crawl/Answer"), (0, .methodref 38 41), (0, .nameAndType 5 42), (0, u "(Ljava/util/Optional;Z)V"), (0, .methodref 38 44), (0, .nameAndType 45 46), (0, u "truncated"), (0, u "()Z"), (0, .class_ 48), (0, u "com/example/wise_crawler/wisecrawler/crawl/AnswerTruncatedPinLaw"), (2, u "law"), (0, u "(III)Z")] 3

def k1m0 : Method := { name := "<init>", desc := "()V", sig := { parameters := [], returnType := none }, accessFlags := 1, code := none }
def k1c1 : Code := { maxStack := 10, maxLocals := 9, code := code, exceptionTable := #[], attributes := #[] }
def k1m1 : Method := { name := "law", desc := "(III)Z", sig := { parameters := [.int, .int, .int], returnType := some .boolean }, accessFlags := 9, code := some k1c1 }
/-- com/example/wise_crawler/wisecrawler/crawl/AnswerTruncatedPinLaw -/
def k1 : Class := { plain "com/example/wise_crawler/wisecrawler/crawl/AnswerTruncatedPinLaw" (some 0) with
  accessFlags := 49
  interfaces := #[]
  cf := some (fileOf pool1 47 #[] #[{ accessFlags := 1, nameIndex := 5, descriptorIndex := 6, attributes := #[] }, { accessFlags := 9, nameIndex := 51, descriptorIndex := 52, attributes := #[] }] 49 2 #[] #[])
  fields := #[]
  methods := #[k1m0, k1m1]
  instanceTypes := #[]
  staticTypes := #[]
  resolved := Array.replicate 56 none
  statics := none }

def pool2 : Array CpInfo := pool [(1, .fieldref 2 3), (0, .class_ 4), (0, .nameAndType 5 6), (0, u "java/util/Optional"), (0, u "EMPTY"), (0, u "Ljava/util/Optional;"), (0, .methodref 8 9), (0, .class_ 10), (0, .nameAndType 11 12), (0, u "java/lang/Object"), (0, u "<init>"), (0, u "()V"), (0, .fieldref 2 14), (0, .nameAndType 15 16), (0, u "value"), (0, u "Ljava/lang/Object;"), (0, .methodref 18 19), (0, .class_ 20), (0, .nameAndType 21 22), (0, u "java/util/Objects"), (0, u "requireNonNull"), (0, u "(Ljava/lang/Object;)Ljava/lang/Object;"), (0, .methodref 2 24), (0, .nameAndType 11 25), (0, u "(Ljava/lang/Object;)V"), (17, .methodref 2 44), (0, .nameAndType 45 46), (0, u "isEmpty"), (0, u "()Z"), (6, .methodref 2 54), (0, .nameAndType 55 56), (0, u "empty"), (0, u "()Ljava/util/Optional;"), (0, .interfaceMethodref 58 59), (0, .class_ 60), (0, .nameAndType 61 22), (0, u "java/util/function/Function"), (0, u "apply"), (3, u "(Ljava/lang/Object;)Ljava/util/Optional;"), (2, u "isPresent"), (13, u "of"), (64, u "(Ljava/util/function/Function;)Ljava/util/Optional;"), (4, u "flatMap")] 34

def k2c0 : Code := { maxStack := 1, maxLocals := 1, code := jdk_32_method_1_code, exceptionTable := #[], attributes := #[] }
def k2m0 : Method := { name := "empty", desc := "()Ljava/util/Optional;", sig := { parameters := [], returnType := some (.object "java/util/Optional") }, accessFlags := 9, code := some k2c0 }
def k2c1 : Code := { maxStack := 2, maxLocals := 2, code := jdk_32_method_2_code, exceptionTable := #[], attributes := #[] }
def k2m1 : Method := { name := "<init>", desc := "(Ljava/lang/Object;)V", sig := { parameters := [(.object "java/lang/Object")], returnType := none }, accessFlags := 2, code := some k2c1 }
def k2c2 : Code := { maxStack := 3, maxLocals := 1, code := jdk_32_method_3_code, exceptionTable := #[], attributes := #[] }
def k2m2 : Method := { name := "of", desc := "(Ljava/lang/Object;)Ljava/util/Optional;", sig := { parameters := [(.object "java/lang/Object")], returnType := some (.object "java/util/Optional") }, accessFlags := 9, code := some k2c2 }
def k2c3 : Code := { maxStack := 1, maxLocals := 1, code := jdk_32_method_6_code, exceptionTable := #[], attributes := #[] }
def k2m3 : Method := { name := "isPresent", desc := "()Z", sig := { parameters := [], returnType := some .boolean }, accessFlags := 1, code := some k2c3 }
def k2c4 : Code := { maxStack := 1, maxLocals := 1, code := jdk_32_method_7_code, exceptionTable := #[], attributes := #[] }
def k2m4 : Method := { name := "isEmpty", desc := "()Z", sig := { parameters := [], returnType := some .boolean }, accessFlags := 1, code := some k2c4 }
def k2c5 : Code := { maxStack := 2, maxLocals := 3, code := jdk_32_method_12_code, exceptionTable := #[], attributes := #[] }
def k2m5 : Method := { name := "flatMap", desc := "(Ljava/util/function/Function;)Ljava/util/Optional;", sig := { parameters := [(.object "java/util/function/Function")], returnType := some (.object "java/util/Optional") }, accessFlags := 1, code := some k2c5 }
/-- java/util/Optional -/
def k2 : Class := { plain "java/util/Optional" (some 0) with
  accessFlags := 49
  interfaces := #[]
  cf := some (fileOf pool2 2 #[] #[{ accessFlags := 9, nameIndex := 55, descriptorIndex := 56, attributes := #[] }, { accessFlags := 2, nameIndex := 11, descriptorIndex := 25, attributes := #[] }, { accessFlags := 9, nameIndex := 82, descriptorIndex := 65, attributes := #[] }, { accessFlags := 1, nameIndex := 68, descriptorIndex := 46, attributes := #[] }, { accessFlags := 1, nameIndex := 45, descriptorIndex := 46, attributes := #[] }, { accessFlags := 1, nameIndex := 152, descriptorIndex := 147, attributes := #[] }] 49 8 #[] #[{ accessFlags := 26, nameIndex := 5, descriptorIndex := 6, attributes := #[] }, { accessFlags := 18, nameIndex := 15, descriptorIndex := 16, attributes := #[] }])
  fields := #[{ name := "EMPTY", type := (.object "java/util/Optional"), accessFlags := 26, slot := 0, constantValue := 0 }, { name := "value", type := (.object "java/lang/Object"), accessFlags := 18, slot := 0, constantValue := 0 }]
  methods := #[k2m0, k2m1, k2m2, k2m3, k2m4, k2m5]
  instanceTypes := #[(.object "java/lang/Object")]
  staticTypes := #[(.object "java/util/Optional")]
  resolved := Array.replicate 187 none
  statics := some 0 }

def pool3 : Array CpInfo := pool [(1, .methodref 2 3), (0, .class_ 4), (0, .nameAndType 5 6), (0, u "java/lang/Object"), (0, u "<init>"), (0, u "()V"), (0, .class_ 8), (0, u "java/lang/Record")] 13

def k3c0 : Code := { maxStack := 1, maxLocals := 1, code := jdk_30_method_1_code, exceptionTable := #[], attributes := #[] }
def k3m0 : Method := { name := "<init>", desc := "()V", sig := { parameters := [], returnType := none }, accessFlags := 4, code := some k3c0 }
/-- java/lang/Record -/
def k3 : Class := { plain "java/lang/Record" (some 0) with
  accessFlags := 1057
  interfaces := #[]
  cf := some (fileOf pool3 7 #[] #[{ accessFlags := 4, nameIndex := 5, descriptorIndex := 6, attributes := #[] }] 1057 2 #[] #[])
  fields := #[]
  methods := #[k3m0]
  instanceTypes := #[]
  staticTypes := #[]
  resolved := Array.replicate 22 none
  statics := none }

def pool4 : Array CpInfo := pool [(1, .class_ 2), (0, u "java/lang/AutoCloseable"), (0, .class_ 4), (0, u "java/lang/Object")] 7

/-- java/lang/AutoCloseable -/
def k4 : Class := { plain "java/lang/AutoCloseable" (some 0) with
  accessFlags := 1537
  interfaces := #[]
  cf := some (fileOf pool4 1 #[] #[] 1537 3 #[] #[])
  fields := #[]
  methods := #[]
  instanceTypes := #[]
  staticTypes := #[]
  resolved := Array.replicate 12 none
  statics := none }

def pool5 : Array CpInfo := pool [(1, .class_ 2), (0, u "java/io/Closeable"), (0, .class_ 4), (0, u "java/lang/Object"), (0, .class_ 6), (0, u "java/lang/AutoCloseable")] 7

/-- java/io/Closeable -/
def k5 : Class := { plain "java/io/Closeable" (some 0) with
  accessFlags := 1537
  interfaces := #[4]
  cf := some (fileOf pool5 1 #[] #[] 1537 3 #[5] #[])
  fields := #[]
  methods := #[]
  instanceTypes := #[]
  staticTypes := #[]
  resolved := Array.replicate 14 none
  statics := none }

def pool6 : Array CpInfo := pool [(1, .methodref 2 3), (0, .class_ 4), (0, .nameAndType 5 6), (0, u "java/lang/Record"), (0, u "<init>"), (0, u "()V"), (0, .fieldref 8 9), (0, .class_ 10), (0, .nameAndType 11 12), (0, u "com/example/wise_crawler/wisecrawler/crawl/Answer"), (0, u "response"), (0, u "Ljava/util/Optional;"), (0, .fieldref 8 14), (0, .nameAndType 15 16), (0, u "timedOut"), (0, u "Z"), (0, .methodref 18 19), (0, .class_ 20), (0, .nameAndType 21 22), (0, u "com/example/wise_crawler/wisecrawler/fetch/Exchange"), (0, u "truncation"), (0, u "()Ljava/util/Optional;"), (7, .class_ 32), (1, u "java/util/Optional"), (8, u "(Ljava/util/Optional;Z)V"), (1, .nameAndType 44 45), (0, u "apply"), (0, u "()Ljava/util/function/Function;"), (3, u "(Ljava/util/function/Function;)Ljava/util/Optional;"), (9, u "(Ljava/lang/Object;)Ljava/lang/Object;"), (4, .invokeDynamic 1 43), (0, .methodref 30 66), (0, .nameAndType 67 49), (0, u "flatMap"), (0, .methodref 30 69), (0, .nameAndType 70 71), (0, u "isPresent"), (0, u "()Z"), (18, .class_ 91), (0, u "java/io/Closeable"), (8, u "truncated"), (7, .methodType 59), (5, .methodHandle 5 17), (0, .methodType 116), (0, u "(Lcom/example/wise_crawler/wisecrawler/fetch/Exchange;)Ljava/util/Optional;"), (4, .methodHandle 6 122), (0, .methodref 123 124), (0, .class_ 125), (0, .nameAndType 126 127), (0, u "java/lang/invoke/LambdaMetafactory"), (0, u "metafactory"), (0, u "(Ljava/lang/invoke/MethodHandles$Lookup;Ljava/lang/String;Ljava/lang/invoke/MethodType;Ljava/lang/invoke/MethodType;Ljava/lang/invoke/MethodHandle;Ljava/lang/invoke/MethodType;)Ljava/lang/invoke/CallSite;")] 13

def k6c0 : Code := { maxStack := 2, maxLocals := 3, code := prog_3_method_1_code, exceptionTable := #[], attributes := #[] }
def k6m0 : Method := { name := "<init>", desc := "(Ljava/util/Optional;Z)V", sig := { parameters := [(.object "java/util/Optional"), .boolean], returnType := none }, accessFlags := 1, code := some k6c0 }
def k6c1 : Code := { maxStack := 2, maxLocals := 1, code := prog_3_method_4_code, exceptionTable := #[], attributes := #[] }
def k6m1 : Method := { name := "truncated", desc := "()Z", sig := { parameters := [], returnType := some .boolean }, accessFlags := 1, code := some k6c1 }
/-- com/example/wise_crawler/wisecrawler/crawl/Answer -/
def k6 : Class := { plain "com/example/wise_crawler/wisecrawler/crawl/Answer" (some 3) with
  accessFlags := 49
  interfaces := #[5]
  cf := some (fileOf pool6 8 #[.bootstrapMethods #[⟨0, #[]⟩, ⟨121, #[108, 114, 115]⟩, ⟨0, #[]⟩]] #[{ accessFlags := 1, nameIndex := 5, descriptorIndex := 41, attributes := #[] }, { accessFlags := 1, nameIndex := 100, descriptorIndex := 71, attributes := #[] }] 49 2 #[90] #[{ accessFlags := 18, nameIndex := 11, descriptorIndex := 12, attributes := #[] }, { accessFlags := 18, nameIndex := 15, descriptorIndex := 16, attributes := #[] }])
  fields := #[{ name := "response", type := (.object "java/util/Optional"), accessFlags := 18, slot := 0, constantValue := 0 }, { name := "timedOut", type := .boolean, accessFlags := 18, slot := 1, constantValue := 0 }]
  methods := #[k6m0, k6m1]
  instanceTypes := #[(.object "java/util/Optional"), .boolean]
  staticTypes := #[]
  resolved := Array.replicate 141 none
  callSites := [(1, 4, .constant 2)]
  statics := none }

def pool7 : Array CpInfo := pool [(6, u "(Ljava/lang/Object;)Ljava/lang/Object;"), (2, u "apply"), (6, .class_ 18), (1, u "java/util/function/Function"), (0, .class_ 20), (0, u "java/lang/Object")] 56

def k7m0 : Method := { name := "apply", desc := "(Ljava/lang/Object;)Ljava/lang/Object;", sig := { parameters := [(.object "java/lang/Object")], returnType := some (.object "java/lang/Object") }, accessFlags := 1025, code := none }
/-- java/util/function/Function -/
def k7 : Class := { plain "java/util/function/Function" (some 0) with
  accessFlags := 1537
  interfaces := #[]
  cf := some (fileOf pool7 16 #[] #[{ accessFlags := 1025, nameIndex := 9, descriptorIndex := 6, attributes := #[] }] 1537 19 #[] #[])
  fields := #[]
  methods := #[k7m0]
  instanceTypes := #[]
  staticTypes := #[]
  resolved := Array.replicate 77 none
  statics := none }

def pool8 : Array CpInfo := pool [(1, .methodref 2 3), (0, .class_ 4), (0, .nameAndType 5 6), (0, u "java/lang/Record"), (0, u "<init>"), (0, u "()V"), (0, .fieldref 8 9), (0, .class_ 10), (0, .nameAndType 11 12), (0, u "com/example/wise_crawler/wisecrawler/fetch/Exchange"), (0, u "url"), (0, u "Lcom/example/wise_crawler/wisecrawler/url/CanonicalUrl;"), (0, .fieldref 8 14), (0, .nameAndType 15 16), (0, u "date"), (0, u "Ljava/time/Instant;"), (0, .fieldref 8 18), (0, .nameAndType 19 20), (0, u "protocol"), (0, u "Ljava/lang/String;"), (0, .fieldref 8 22), (0, .nameAndType 23 24), (0, u "requestHeaders"), (0, u "Lcom/example/wise_crawler/wisecrawler/fetch/HeaderFields;"), (0, .fieldref 8 26), (0, .nameAndType 27 28), (0, u "status"), (0, u "I"), (0, .fieldref 8 30), (0, .nameAndType 31 24), (0, u "responseHeaders"), (0, .fieldref 8 33), (0, .nameAndType 34 35), (0, u "body"), (0, u "Lcom/example/wise_crawler/wisecrawler/fetch/SpooledBytes;"), (0, .fieldref 8 37), (0, .nameAndType 38 39), (0, u "truncation"), (0, u "Ljava/util/Optional;"), (29, u "()Ljava/util/Optional;"), (7, u "HTML_TYPES"), (0, u "Ljava/util/Set;"), (92, .class_ 172), (0, u "java/io/Closeable"), (3, u "(Lcom/example/wise_crawler/wisecrawler/url/CanonicalUrl;Ljava/time/Instant;Ljava/lang/String;Lcom/example/wise_crawler/wisecrawler/fetch/HeaderFields;ILcom/example/wise_crawler/wisecrawler/fetch/HeaderFields;Lcom/example/wise_crawler/wisecrawler/fetch/SpooledBytes;Ljava/util/Optional;)V")] 73

def k8c0 : Code := { maxStack := 2, maxLocals := 9, code := prog_28_method_1_code, exceptionTable := #[], attributes := #[] }
def k8m0 : Method := { name := "<init>", desc := "(Lcom/example/wise_crawler/wisecrawler/url/CanonicalUrl;Ljava/time/Instant;Ljava/lang/String;Lcom/example/wise_crawler/wisecrawler/fetch/HeaderFields;ILcom/example/wise_crawler/wisecrawler/fetch/HeaderFields;Lcom/example/wise_crawler/wisecrawler/fetch/SpooledBytes;Ljava/util/Optional;)V", sig := { parameters := [(.object "com/example/wise_crawler/wisecrawler/url/CanonicalUrl"), (.object "java/time/Instant"), (.object "java/lang/String"), (.object "com/example/wise_crawler/wisecrawler/fetch/HeaderFields"), .int, (.object "com/example/wise_crawler/wisecrawler/fetch/HeaderFields"), (.object "com/example/wise_crawler/wisecrawler/fetch/SpooledBytes"), (.object "java/util/Optional")], returnType := none }, accessFlags := 1, code := some k8c0 }
def k8c1 : Code := { maxStack := 1, maxLocals := 1, code := prog_28_method_19_code, exceptionTable := #[], attributes := #[] }
def k8m1 : Method := { name := "truncation", desc := "()Ljava/util/Optional;", sig := { parameters := [], returnType := some (.object "java/util/Optional") }, accessFlags := 1, code := some k8c1 }
/-- com/example/wise_crawler/wisecrawler/fetch/Exchange -/
def k8 : Class := { plain "com/example/wise_crawler/wisecrawler/fetch/Exchange" (some 3) with
  accessFlags := 49
  interfaces := #[5]
  cf := some (fileOf pool8 8 #[] #[{ accessFlags := 1, nameIndex := 5, descriptorIndex := 176, attributes := #[] }, { accessFlags := 1, nameIndex := 38, descriptorIndex := 69, attributes := #[] }] 49 2 #[171] #[{ accessFlags := 18, nameIndex := 11, descriptorIndex := 12, attributes := #[] }, { accessFlags := 18, nameIndex := 15, descriptorIndex := 16, attributes := #[] }, { accessFlags := 18, nameIndex := 19, descriptorIndex := 20, attributes := #[] }, { accessFlags := 18, nameIndex := 23, descriptorIndex := 24, attributes := #[] }, { accessFlags := 18, nameIndex := 27, descriptorIndex := 28, attributes := #[] }, { accessFlags := 18, nameIndex := 31, descriptorIndex := 24, attributes := #[] }, { accessFlags := 18, nameIndex := 34, descriptorIndex := 35, attributes := #[] }, { accessFlags := 18, nameIndex := 38, descriptorIndex := 39, attributes := #[] }, { accessFlags := 26, nameIndex := 77, descriptorIndex := 78, attributes := #[] }])
  fields := #[{ name := "url", type := (.object "com/example/wise_crawler/wisecrawler/url/CanonicalUrl"), accessFlags := 18, slot := 0, constantValue := 0 }, { name := "date", type := (.object "java/time/Instant"), accessFlags := 18, slot := 1, constantValue := 0 }, { name := "protocol", type := (.object "java/lang/String"), accessFlags := 18, slot := 2, constantValue := 0 }, { name := "requestHeaders", type := (.object "com/example/wise_crawler/wisecrawler/fetch/HeaderFields"), accessFlags := 18, slot := 3, constantValue := 0 }, { name := "status", type := .int, accessFlags := 18, slot := 4, constantValue := 0 }, { name := "responseHeaders", type := (.object "com/example/wise_crawler/wisecrawler/fetch/HeaderFields"), accessFlags := 18, slot := 5, constantValue := 0 }, { name := "body", type := (.object "com/example/wise_crawler/wisecrawler/fetch/SpooledBytes"), accessFlags := 18, slot := 6, constantValue := 0 }, { name := "truncation", type := (.object "java/util/Optional"), accessFlags := 18, slot := 7, constantValue := 0 }, { name := "HTML_TYPES", type := (.object "java/util/Set"), accessFlags := 26, slot := 0, constantValue := 0 }]
  methods := #[k8m0, k8m1]
  instanceTypes := #[(.object "com/example/wise_crawler/wisecrawler/url/CanonicalUrl"), (.object "java/time/Instant"), (.object "java/lang/String"), (.object "com/example/wise_crawler/wisecrawler/fetch/HeaderFields"), .int, (.object "com/example/wise_crawler/wisecrawler/fetch/HeaderFields"), (.object "com/example/wise_crawler/wisecrawler/fetch/SpooledBytes"), (.object "java/util/Optional")]
  staticTypes := #[(.object "java/util/Set")]
  resolved := Array.replicate 250 none
  statics := none }

def pool9 : Array CpInfo := pool [(2, .class_ 4), (1, u "java/lang/Object"), (0, u "<init>"), (0, u "()V"), (35, .class_ 44), (1, u "java/util/Objects"), (0, u "requireNonNull"), (0, u "(Ljava/lang/Object;)Ljava/lang/Object;")] 137

def k9m0 : Method := { name := "<init>", desc := "()V", sig := { parameters := [], returnType := none }, accessFlags := 2, code := none }
def k9c1 : Code := { maxStack := 2, maxLocals := 1, code := jdk_31_method_10_code, exceptionTable := #[], attributes := #[] }
def k9m1 : Method := { name := "requireNonNull", desc := "(Ljava/lang/Object;)Ljava/lang/Object;", sig := { parameters := [(.object "java/lang/Object")], returnType := some (.object "java/lang/Object") }, accessFlags := 9, code := some k9c1 }
/-- java/util/Objects -/
def k9 : Class := { plain "java/util/Objects" (some 0) with
  accessFlags := 49
  interfaces := #[]
  cf := some (fileOf pool9 42 #[] #[{ accessFlags := 2, nameIndex := 5, descriptorIndex := 6, attributes := #[] }, { accessFlags := 9, nameIndex := 45, descriptorIndex := 46, attributes := #[] }] 49 2 #[] #[])
  fields := #[]
  methods := #[k9m0, k9m1]
  instanceTypes := #[]
  staticTypes := #[]
  resolved := Array.replicate 184 none
  statics := none }

def pool10 : Array CpInfo := pool [(1, .class_ 2), (0, u "java/lang/constant/Constable"), (0, .class_ 4), (0, u "java/lang/Object")] 6

/-- java/lang/constant/Constable -/
def k10 : Class := { plain "java/lang/constant/Constable" (some 0) with
  accessFlags := 1537
  interfaces := #[]
  cf := some (fileOf pool10 1 #[] #[] 1537 3 #[] #[])
  fields := #[]
  methods := #[]
  instanceTypes := #[]
  staticTypes := #[]
  resolved := Array.replicate 11 none
  statics := none }

def pool11 : Array CpInfo := pool [(1, .class_ 2), (0, u "java/lang/Comparable"), (0, .class_ 4), (0, u "java/lang/Object")] 7

/-- java/lang/Comparable -/
def k11 : Class := { plain "java/lang/Comparable" (some 0) with
  accessFlags := 1537
  interfaces := #[]
  cf := some (fileOf pool11 1 #[] #[] 1537 3 #[] #[])
  fields := #[]
  methods := #[]
  instanceTypes := #[]
  staticTypes := #[]
  resolved := Array.replicate 12 none
  statics := none }

def pool12 : Array CpInfo := pool [(1, .class_ 2), (0, u "java/io/Serializable"), (0, .class_ 4), (0, u "java/lang/Object")] 2

/-- java/io/Serializable -/
def k12 : Class := { plain "java/io/Serializable" (some 0) with
  accessFlags := 1537
  interfaces := #[]
  cf := some (fileOf pool12 1 #[] #[] 1537 3 #[] #[])
  fields := #[]
  methods := #[]
  instanceTypes := #[]
  staticTypes := #[]
  resolved := Array.replicate 7 none
  statics := none }

def pool13 : Array CpInfo := pool [(2, .class_ 4), (1, u "java/lang/Enum"), (0, u "name"), (0, u "Ljava/lang/String;"), (2, u "ordinal"), (0, u "I"), (1, .class_ 14), (1, u "java/lang/Object"), (4, u "hash"), (86, .class_ 108), (1, u "java/lang/Enum$EnumDesc"), (2, .class_ 112), (0, u "java/lang/constant/Constable"), (0, .class_ 114), (0, u "java/lang/Comparable"), (0, .class_ 116), (0, u "java/io/Serializable")] 87

/-- java/lang/Enum -/
def k13 : Class := { plain "java/lang/Enum" (some 0) with
  accessFlags := 1057
  interfaces := #[10, 11, 12]
  cf := some (fileOf pool13 2 #[.nestMembers #[106]] #[] 1057 12 #[111, 113, 115] #[{ accessFlags := 18, nameIndex := 5, descriptorIndex := 6, attributes := #[] }, { accessFlags := 18, nameIndex := 9, descriptorIndex := 10, attributes := #[] }, { accessFlags := 2, nameIndex := 19, descriptorIndex := 10, attributes := #[] }])
  fields := #[{ name := "name", type := (.object "java/lang/String"), accessFlags := 18, slot := 0, constantValue := 0 }, { name := "ordinal", type := .int, accessFlags := 18, slot := 1, constantValue := 0 }, { name := "hash", type := .int, accessFlags := 2, slot := 2, constantValue := 0 }]
  methods := #[]
  instanceTypes := #[(.object "java/lang/String"), .int, .int]
  staticTypes := #[]
  resolved := Array.replicate 204 none
  statics := none }

def pool14 : Array CpInfo := pool [(1, .class_ 2), (0, u "com/example/wise_crawler/wisecrawler/fetch/Truncation"), (2, u "LENGTH"), (0, u "Lcom/example/wise_crawler/wisecrawler/fetch/Truncation;"), (2, u "TIME"), (2, u "DISCONNECT"), (2, u "UNSPECIFIED"), (2, u "$VALUES"), (0, u "[Lcom/example/wise_crawler/wisecrawler/fetch/Truncation;"), (6, .class_ 28), (1, u "java/lang/Enum")] 26

/-- com/example/wise_crawler/wisecrawler/fetch/Truncation -/
def k14 : Class := { plain "com/example/wise_crawler/wisecrawler/fetch/Truncation" (some 13) with
  accessFlags := 16433
  interfaces := #[]
  cf := some (fileOf pool14 1 #[] #[] 16433 26 #[] #[{ accessFlags := 16409, nameIndex := 5, descriptorIndex := 6, attributes := #[] }, { accessFlags := 16409, nameIndex := 9, descriptorIndex := 6, attributes := #[] }, { accessFlags := 16409, nameIndex := 12, descriptorIndex := 6, attributes := #[] }, { accessFlags := 16409, nameIndex := 15, descriptorIndex := 6, attributes := #[] }, { accessFlags := 4122, nameIndex := 18, descriptorIndex := 19, attributes := #[] }])
  fields := #[{ name := "LENGTH", type := (.object "com/example/wise_crawler/wisecrawler/fetch/Truncation"), accessFlags := 16409, slot := 0, constantValue := 0 }, { name := "TIME", type := (.object "com/example/wise_crawler/wisecrawler/fetch/Truncation"), accessFlags := 16409, slot := 1, constantValue := 0 }, { name := "DISCONNECT", type := (.object "com/example/wise_crawler/wisecrawler/fetch/Truncation"), accessFlags := 16409, slot := 2, constantValue := 0 }, { name := "UNSPECIFIED", type := (.object "com/example/wise_crawler/wisecrawler/fetch/Truncation"), accessFlags := 16409, slot := 3, constantValue := 0 }, { name := "$VALUES", type := (.array (.object "com/example/wise_crawler/wisecrawler/fetch/Truncation")), accessFlags := 4122, slot := 4, constantValue := 0 }]
  methods := #[]
  instanceTypes := #[(.object "java/lang/String"), .int, .int]
  staticTypes := #[(.object "com/example/wise_crawler/wisecrawler/fetch/Truncation"), (.object "com/example/wise_crawler/wisecrawler/fetch/Truncation"), (.object "com/example/wise_crawler/wisecrawler/fetch/Truncation"), (.object "com/example/wise_crawler/wisecrawler/fetch/Truncation"), (.array (.object "com/example/wise_crawler/wisecrawler/fetch/Truncation"))]
  resolved := Array.replicate 55 none
  statics := some 1 }

def pool15 : Array CpInfo := pool [(1, u "java/lang/Cloneable"), (0, .class_ 1), (0, u "java/lang/Object"), (0, .class_ 3)] 3

/-- java/lang/Cloneable -/
def k15 : Class := { plain "java/lang/Cloneable" (some 0) with
  accessFlags := 1537
  interfaces := #[]
  cf := some (fileOf pool15 2 #[] #[] 1537 4 #[] #[])
  fields := #[]
  methods := #[]
  instanceTypes := #[]
  staticTypes := #[]
  resolved := Array.replicate 8 none
  statics := none }

/-- the primitive byte -/
def k16 : Class := { plain "byte" none with kind := .primitive 'B', accessFlags := 0x411 }
/-- [B -/
def k17 : Class := { plain "[B" (some 0) with kind := .array 16 .byte, interfaces := #[15, 12], accessFlags := 1041 }

/-- the primitive int -/
def k18 : Class := { plain "int" none with kind := .primitive 'I', accessFlags := 0x411 }
/-- [I -/
def k19 : Class := { plain "[I" (some 0) with kind := .array 18 .int, interfaces := #[15, 12], accessFlags := 1041 }

def classes0 : Array Class := #[k0, k1, k2, k3, k4, k5, k6, k7, k8, k9, k10, k11, k12, k13, k14, k15, k16, k17, k18, k19]
/-- the class that the rule has made for the site at 4 of com/example/wise_crawler/wisecrawler/crawl/Answer.truncated -/
def k20 : Class := Jvm.LamKit.madeRec { classes := classes0 } "com/example/wise_crawler/wisecrawler/crawl/Answer" (Jvm.Lambda.Shape.mk "java/util/function/Function" "apply" (Jvm.ClassFile.MethodDescriptor.mk ([(Jvm.ClassFile.FieldType.object "java/lang/Object")] : List Jvm.ClassFile.FieldType) (Option.some (Jvm.ClassFile.FieldType.object "java/lang/Object"))) ([] : List Jvm.ClassFile.FieldType) (5 : Nat) "com/example/wise_crawler/wisecrawler/fetch/Exchange" "truncation" (Jvm.ClassFile.MethodDescriptor.mk ([] : List Jvm.ClassFile.FieldType) (Option.some (Jvm.ClassFile.FieldType.object "java/util/Optional"))) false (Jvm.ClassFile.MethodDescriptor.mk ([(Jvm.ClassFile.FieldType.object "com/example/wise_crawler/wisecrawler/fetch/Exchange")] : List Jvm.ClassFile.FieldType) (Option.some (Jvm.ClassFile.FieldType.object "java/util/Optional")))) 20

def heap : Heap := #[{ cls := 2, slots := #[.ref 3], vm := .statics 2 },
  { cls := 14, slots := #[.ref 4, .ref 5, .ref 6, .ref 7, .null], vm := .statics 14 },
  { cls := 20, slots := #[], vm := .none },
  { cls := 2, slots := #[.null], vm := .none },
  { cls := 14, slots := #[.null, .int 0, .int 0], vm := .none },
  { cls := 14, slots := #[.null, .int 1, .int 0], vm := .none },
  { cls := 14, slots := #[.null, .int 2, .int 0], vm := .none },
  { cls := 14, slots := #[.null, .int 3, .int 0], vm := .none }]
def classes : Array Class := #[k0, k1, k2, k3, k4, k5, k6, k7, k8, k9, k10, k11, k12, k13, k14, k15, k16, k17, k18, k19, k20]
def interned : List (Array UInt16 × Addr) := []
def slotsUsed : Nat := 19
def theMethod : MethodId := ⟨1, 1⟩
def args0 : Array Value := #[.int 5, .int 3, .int 4]
def aboutOver (below : List Frame) : State where
  vm := { classes := classes, interned := interned.toArray }
  heap := heap
  slotsUsed := slotsUsed
  threads := #[{ frames := .invoking theMethod args0 :: below }]
def below0 : List Frame := [.native { method := ⟨0, 0⟩, args := #[] }]
def about1 : State := aboutOver below0
def p0 : Program := .bare "" "" ""
def e0 : Env := launch0.env 0 0 0
theorem w_frames : about1.frames = Frame.invoking theMethod args0 :: below0 := rfl
set_option maxRecDepth 65536 in
theorem w_args : argsFit about1.vm theMethod args0 = true := by decide +kernel
set_option maxRecDepth 65536 in
theorem w_heap : heapFits about1 = true := by decide +kernel
set_option maxRecDepth 65536 in
theorem w_runnable : about1.curStatus? = some .runnable := by decide +kernel
set_option maxRecDepth 65536 in
theorem w_alone : about1.alone = true := by decide +kernel
set_option maxRecDepth 65536 in
theorem w_named : about1.methodNamed? x = some theMethod := by decide +kernel
set_option maxRecDepth 65536 in
theorem w_hears : about1.hears theMethod below0 = true := by decide +kernel
set_option maxRecDepth 65536 in
theorem w_ripe : about1.ripe theMethod args0 below0 = true := by decide +kernel
theorem w_running : about1.status = .running := rfl
set_option maxRecDepth 65536 in
theorem w_room : about1.hasRoom e0.platform room_1 = true :=
  launch0.hasRoom_least _ room_1 (by decide +kernel) (by decide +kernel) (by decide +kernel) (by decide +kernel) (by decide +kernel) (by decide +kernel)
theorem allAtoms_all (ts : List Jvm.Cond) (a : Array Jvm.Value) (st : Jvm.State) : (allAtoms ts).before a st = ts.all (fun c => c.before a st) := by
  induction ts with
  | nil => rfl
  | cons c t ih =>
    show (Jvm.Cond.and c (allAtoms t)).before a st = _
    rw [Jvm.Cond.before_and, ih, List.all_cons]
def words1 : List Jvm.Cond := Jvm.Cond.code x code maxLocals ret :: tables_1
/-- a 'code' word, met by the world's own term for the bytes: nothing is compared byte by byte -/
theorem code_word {y : MethodName} {bytes : ByteArray} {mx : Nat} {rt : Option FieldType} {a : Array Value} {s : State} {m : MethodId} {meth : Method} {c : Code} (h1 : s.methodNamed? y = some m) (h2 : s.vm.method? m = some meth) (h3 : meth.code = some c) (h4 : c.code = bytes)
    (h5 : (c.maxLocals == mx && c.exceptionTable.isEmpty && decide (c.maxStack ≤ mostOperands) && decide (meth.sig.returnType = rt) && !meth.locks && decide (parseMethodDescriptor y.desc = some meth.sig)) = true) : (Jvm.Cond.code y bytes mx rt).before a s = true := by
  simp only [Bool.and_eq_true, beq_iff_eq, Bool.not_eq_true', decide_eq_true_eq] at h5
  obtain ⟨⟨⟨⟨⟨g1, g2⟩, g3⟩, g4⟩, g5⟩, g6⟩ := h5
  simp [Cond.before, Cond.holds, Cond.value, h1, h2, h3, h4, g1, g2, g3, g4, g5, g6]
def isCode : Jvm.Cond → Bool
  | .code _ _ _ _ => true
  | _ => false
theorem all_split {L : List Jvm.Cond} {P : Jvm.Cond → Bool} (h1 : L.all (fun c => isCode c || P c) = true) (h2 : ∀ c ∈ L.filter isCode, P c = true) : L.all P = true := by
  refine List.all_eq_true.mpr fun c hc => ?_
  have h := List.all_eq_true.mp h1 c hc
  rcases Bool.eq_false_or_eq_true (isCode c) with hi | hi
  · exact h2 c (List.mem_filter.mpr ⟨hc, hi⟩)
  · simpa [hi] using h
set_option maxRecDepth 65536 in
theorem w_c0 : (Jvm.Cond.code x code maxLocals ret).before args0 about1 = true := code_word (m := ⟨1, 1⟩) (meth := k1m1) (c := k1c1) (by decide +kernel) rfl rfl rfl (by decide +kernel)
set_option maxRecDepth 65536 in
theorem w_c1 : (Jvm.Cond.code ({ cls := "java/util/Optional", name := "empty", desc := "()Ljava/util/Optional;" } : Jvm.MethodName) jdk_32_method_1_code (1 : Nat) (Option.some (Jvm.ClassFile.FieldType.object "java/util/Optional"))).before args0 about1 = true := code_word (m := ⟨2, 0⟩) (meth := k2m0) (c := k2c0) (by decide +kernel) rfl rfl rfl (by decide +kernel)
set_option maxRecDepth 65536 in
theorem w_c2 : (Jvm.Cond.code ({ cls := "com/example/wise_crawler/wisecrawler/crawl/Answer", name := "<init>", desc := "(Ljava/util/Optional;Z)V" } : Jvm.MethodName) prog_3_method_1_code (3 : Nat) (Option.none : Option Jvm.ClassFile.FieldType)).before args0 about1 = true := code_word (m := ⟨6, 0⟩) (meth := k6m0) (c := k6c0) (by decide +kernel) rfl rfl rfl (by decide +kernel)
set_option maxRecDepth 65536 in
theorem w_c3 : (Jvm.Cond.code ({ cls := "java/lang/Record", name := "<init>", desc := "()V" } : Jvm.MethodName) jdk_30_method_1_code (1 : Nat) (Option.none : Option Jvm.ClassFile.FieldType)).before args0 about1 = true := code_word (m := ⟨3, 0⟩) (meth := k3m0) (c := k3c0) (by decide +kernel) rfl rfl rfl (by decide +kernel)
set_option maxRecDepth 65536 in
theorem w_c4 : (Jvm.Cond.code ({ cls := "java/lang/Object", name := "<init>", desc := "()V" } : Jvm.MethodName) object_method_1_code (1 : Nat) (Option.none : Option Jvm.ClassFile.FieldType)).before args0 about1 = true := code_word (m := ⟨0, 0⟩) (meth := k0m0) (c := k0c0) (by decide +kernel) rfl rfl rfl (by decide +kernel)
set_option maxRecDepth 65536 in
theorem w_c5 : (Jvm.Cond.code ({ cls := "com/example/wise_crawler/wisecrawler/crawl/Answer", name := "truncated", desc := "()Z" } : Jvm.MethodName) prog_3_method_4_code (1 : Nat) (Option.some Jvm.ClassFile.FieldType.boolean)).before args0 about1 = true := code_word (m := ⟨6, 1⟩) (meth := k6m1) (c := k6c1) (by decide +kernel) rfl rfl rfl (by decide +kernel)
set_option maxRecDepth 65536 in
theorem w_c6 : (Jvm.Cond.code ({ cls := "java/util/Optional", name := "flatMap", desc := "(Ljava/util/function/Function;)Ljava/util/Optional;" } : Jvm.MethodName) jdk_32_method_12_code (3 : Nat) (Option.some (Jvm.ClassFile.FieldType.object "java/util/Optional"))).before args0 about1 = true := code_word (m := ⟨2, 5⟩) (meth := k2m5) (c := k2c5) (by decide +kernel) rfl rfl rfl (by decide +kernel)
set_option maxRecDepth 65536 in
theorem w_c7 : (Jvm.Cond.code ({ cls := "java/util/Objects", name := "requireNonNull", desc := "(Ljava/lang/Object;)Ljava/lang/Object;" } : Jvm.MethodName) jdk_31_method_10_code (1 : Nat) (Option.some (Jvm.ClassFile.FieldType.object "java/lang/Object"))).before args0 about1 = true := code_word (m := ⟨9, 1⟩) (meth := k9m1) (c := k9c1) (by decide +kernel) rfl rfl rfl (by decide +kernel)
set_option maxRecDepth 65536 in
theorem w_c8 : (Jvm.Cond.code ({ cls := "java/util/Optional", name := "isEmpty", desc := "()Z" } : Jvm.MethodName) jdk_32_method_7_code (1 : Nat) (Option.some Jvm.ClassFile.FieldType.boolean)).before args0 about1 = true := code_word (m := ⟨2, 4⟩) (meth := k2m4) (c := k2c4) (by decide +kernel) rfl rfl rfl (by decide +kernel)
set_option maxRecDepth 65536 in
theorem w_c9 : (Jvm.Cond.code ({ cls := "java/util/Optional", name := "isPresent", desc := "()Z" } : Jvm.MethodName) jdk_32_method_6_code (1 : Nat) (Option.some Jvm.ClassFile.FieldType.boolean)).before args0 about1 = true := code_word (m := ⟨2, 3⟩) (meth := k2m3) (c := k2c3) (by decide +kernel) rfl rfl rfl (by decide +kernel)
set_option maxRecDepth 65536 in
theorem w_c10 : (Jvm.Cond.code ({ cls := "com/example/wise_crawler/wisecrawler/fetch/Exchange", name := "<init>", desc := "(Lcom/example/wise_crawler/wisecrawler/url/CanonicalUrl;Ljava/time/Instant;Ljava/lang/String;Lcom/example/wise_crawler/wisecrawler/fetch/HeaderFields;ILcom/example/wise_crawler/wisecrawler/fetch/HeaderFields;Lcom/example/wise_crawler/wisecrawler/fetch/SpooledBytes;Ljava/util/Optional;)V" } : Jvm.MethodName) prog_28_method_1_code (9 : Nat) (Option.none : Option Jvm.ClassFile.FieldType)).before args0 about1 = true := code_word (m := ⟨8, 0⟩) (meth := k8m0) (c := k8c0) (by decide +kernel) rfl rfl rfl (by decide +kernel)
set_option maxRecDepth 65536 in
theorem w_c11 : (Jvm.Cond.code ({ cls := "java/util/Optional", name := "of", desc := "(Ljava/lang/Object;)Ljava/util/Optional;" } : Jvm.MethodName) jdk_32_method_3_code (1 : Nat) (Option.some (Jvm.ClassFile.FieldType.object "java/util/Optional"))).before args0 about1 = true := code_word (m := ⟨2, 2⟩) (meth := k2m2) (c := k2c2) (by decide +kernel) rfl rfl rfl (by decide +kernel)
set_option maxRecDepth 65536 in
theorem w_c12 : (Jvm.Cond.code ({ cls := "java/util/Optional", name := "<init>", desc := "(Ljava/lang/Object;)V" } : Jvm.MethodName) jdk_32_method_2_code (2 : Nat) (Option.none : Option Jvm.ClassFile.FieldType)).before args0 about1 = true := code_word (m := ⟨2, 1⟩) (meth := k2m1) (c := k2c1) (by decide +kernel) rfl rfl rfl (by decide +kernel)
set_option maxRecDepth 65536 in
theorem w_c13 : (Jvm.Cond.code ({ cls := "com/example/wise_crawler/wisecrawler/fetch/Exchange", name := "truncation", desc := "()Ljava/util/Optional;" } : Jvm.MethodName) prog_28_method_19_code (1 : Nat) (Option.some (Jvm.ClassFile.FieldType.object "java/util/Optional"))).before args0 about1 = true := code_word (m := ⟨8, 1⟩) (meth := k8m1) (c := k8c1) (by decide +kernel) rfl rfl rfl (by decide +kernel)
def codes1 : List Jvm.Cond := [Jvm.Cond.code x code maxLocals ret, Jvm.Cond.code ({ cls := "java/util/Optional", name := "empty", desc := "()Ljava/util/Optional;" } : Jvm.MethodName) jdk_32_method_1_code (1 : Nat) (Option.some (Jvm.ClassFile.FieldType.object "java/util/Optional")), Jvm.Cond.code ({ cls := "com/example/wise_crawler/wisecrawler/crawl/Answer", name := "<init>", desc := "(Ljava/util/Optional;Z)V" } : Jvm.MethodName) prog_3_method_1_code (3 : Nat) (Option.none : Option Jvm.ClassFile.FieldType), Jvm.Cond.code ({ cls := "java/lang/Record", name := "<init>", desc := "()V" } : Jvm.MethodName) jdk_30_method_1_code (1 : Nat) (Option.none : Option Jvm.ClassFile.FieldType), Jvm.Cond.code ({ cls := "java/lang/Object", name := "<init>", desc := "()V" } : Jvm.MethodName) object_method_1_code (1 : Nat) (Option.none : Option Jvm.ClassFile.FieldType), Jvm.Cond.code ({ cls := "com/example/wise_crawler/wisecrawler/crawl/Answer", name := "truncated", desc := "()Z" } : Jvm.MethodName) prog_3_method_4_code (1 : Nat) (Option.some Jvm.ClassFile.FieldType.boolean), Jvm.Cond.code ({ cls := "java/util/Optional", name := "flatMap", desc := "(Ljava/util/function/Function;)Ljava/util/Optional;" } : Jvm.MethodName) jdk_32_method_12_code (3 : Nat) (Option.some (Jvm.ClassFile.FieldType.object "java/util/Optional")), Jvm.Cond.code ({ cls := "java/util/Objects", name := "requireNonNull", desc := "(Ljava/lang/Object;)Ljava/lang/Object;" } : Jvm.MethodName) jdk_31_method_10_code (1 : Nat) (Option.some (Jvm.ClassFile.FieldType.object "java/lang/Object")), Jvm.Cond.code ({ cls := "java/util/Optional", name := "isEmpty", desc := "()Z" } : Jvm.MethodName) jdk_32_method_7_code (1 : Nat) (Option.some Jvm.ClassFile.FieldType.boolean), Jvm.Cond.code ({ cls := "java/util/Optional", name := "isPresent", desc := "()Z" } : Jvm.MethodName) jdk_32_method_6_code (1 : Nat) (Option.some Jvm.ClassFile.FieldType.boolean), Jvm.Cond.code ({ cls := "com/example/wise_crawler/wisecrawler/fetch/Exchange", name := "<init>", desc := "(Lcom/example/wise_crawler/wisecrawler/url/CanonicalUrl;Ljava/time/Instant;Ljava/lang/String;Lcom/example/wise_crawler/wisecrawler/fetch/HeaderFields;ILcom/example/wise_crawler/wisecrawler/fetch/HeaderFields;Lcom/example/wise_crawler/wisecrawler/fetch/SpooledBytes;Ljava/util/Optional;)V" } : Jvm.MethodName) prog_28_method_1_code (9 : Nat) (Option.none : Option Jvm.ClassFile.FieldType), Jvm.Cond.code ({ cls := "java/util/Optional", name := "of", desc := "(Ljava/lang/Object;)Ljava/util/Optional;" } : Jvm.MethodName) jdk_32_method_3_code (1 : Nat) (Option.some (Jvm.ClassFile.FieldType.object "java/util/Optional")), Jvm.Cond.code ({ cls := "java/util/Optional", name := "<init>", desc := "(Ljava/lang/Object;)V" } : Jvm.MethodName) jdk_32_method_2_code (2 : Nat) (Option.none : Option Jvm.ClassFile.FieldType), Jvm.Cond.code ({ cls := "com/example/wise_crawler/wisecrawler/fetch/Exchange", name := "truncation", desc := "()Ljava/util/Optional;" } : Jvm.MethodName) prog_28_method_19_code (1 : Nat) (Option.some (Jvm.ClassFile.FieldType.object "java/util/Optional"))]
set_option maxRecDepth 65536 in
theorem codes_eq : words1.filter isCode = codes1 := rfl
theorem w_codes : ∀ c ∈ words1.filter isCode, c.before args0 about1 = true := by
  rw [codes_eq]
  intro c hc
  simp only [codes1, List.mem_cons, List.not_mem_nil, or_false] at hc
  rcases hc with rfl | rfl | rfl | rfl | rfl | rfl | rfl | rfl | rfl | rfl | rfl | rfl | rfl | rfl
  · exact w_c0
  · exact w_c1
  · exact w_c2
  · exact w_c3
  · exact w_c4
  · exact w_c5
  · exact w_c6
  · exact w_c7
  · exact w_c8
  · exact w_c9
  · exact w_c10
  · exact w_c11
  · exact w_c12
  · exact w_c13
set_option maxRecDepth 65536 in
theorem w_t1 : (words1.take 24).all (fun c => isCode c || c.before args0 about1) = true := by decide +kernel
set_option maxRecDepth 65536 in
theorem w_t2 : ((words1.drop 24).take 24).all (fun c => isCode c || c.before args0 about1) = true := by decide +kernel
set_option maxRecDepth 65536 in
theorem w_t3 : (((words1.drop 24).drop 24).take 24).all (fun c => isCode c || c.before args0 about1) = true := by decide +kernel
set_option maxRecDepth 65536 in
theorem w_t4 : ((((words1.drop 24).drop 24).drop 24).take 24).all (fun c => isCode c || c.before args0 about1) = true := by decide +kernel
set_option maxRecDepth 65536 in
theorem w_t5 : ((((words1.drop 24).drop 24).drop 24).drop 24).all (fun c => isCode c || c.before args0 about1) = true := by decide +kernel
theorem w_tables : (allAtoms (Jvm.Cond.code x code maxLocals ret :: tables_1)).before args0 about1 = true := by
  rw [allAtoms_all]
  show words1.all (fun c => c.before args0 about1) = true
  refine all_split ?_ w_codes
  rw [← List.take_append_drop 24 words1, List.all_append, w_t1, ← List.take_append_drop 24 (words1.drop 24), List.all_append, w_t2, ← List.take_append_drop 24 ((words1.drop 24).drop 24), List.all_append, w_t3, ← List.take_append_drop 24 (((words1.drop 24).drop 24).drop 24), List.all_append, w_t4, w_t5]
  rfl
set_option maxRecDepth 65536 in
theorem w_rest : rest_1_c.before args0 about1 = true := by decide +kernel
set_option maxRecDepth 65536 in
theorem w_case : (Jvm.Cond.and given_1 narrow_1).before args0 about1 = true := by decide +kernel
theorem w_applies : (headSpec (Jvm.Cond.code x code maxLocals ret :: tables_1) room_1).applies x e0.platform about1 = true :=
  (Spec.applies_iff w_frames).mpr ⟨w_running, w_runnable, w_alone, w_named, w_hears, w_ripe, w_room, w_tables⟩
theorem atStart : AtStart classFile x code maxLocals ret World_1 tables_1 room_1 Calls_1 rest_1 Pre_1 launch0 p0 e0 about1 theMethod args0 below0 :=
  ⟨lists_1, trivial, launch0.admits_env _ _ _, launch0.least_env, fairChoices_fair.cas, fairChoices_fair.clock, w_frames, w_args, w_heap, w_applies, trivial, w_rest, w_case⟩
end start1
theorem witness_1 : WitnessClaimed_1 := ⟨start1.p0, start1.e0, start1.about1, start1.theMethod, start1.args0, start1.below0, start1.atStart⟩
end Jvm.Pilot.@@N@@
