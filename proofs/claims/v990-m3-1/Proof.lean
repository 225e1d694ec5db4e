import JvmDerived
import JvmDerived.Pilot.@@N@@Statement
import JvmDerived.Pilot.@@N@@Code
set_option linter.unusedVariables false
set_option linter.unusedSimpArgs false
/- laws to paste: Road.backV (cut by pick.py; bodies as the Statement names them) -/
namespace Jvm.Pilot.@@N@@
namespace StrChars
open Jvm Sem ClassFile Op Lib Jvm.Stand Jvm.Free.XT Jvm.Free.ALB Jvm.Free.JM Jvm.Free
open Jvm.Lib.Cold (StaticIs)
/-- a char array whose places are chars -/
def Ch (a : Addr) (A : Cell) (U : State) : Prop := Arr .char a A U ∧ Typed .char A
theorem Ch.mv {a : Addr} {A : Cell} {U U' : State} (h : Ch a A U) (hal : U.vm.Alike U'.vm) (hh : U'.heap = U.heap) : Ch a A U' := ⟨h.1.mv hal hh, h.2⟩
theorem Ch.keep {a : Addr} {A : Cell} {U U' : State} (h : Ch a A U) (hal : U.vm.Alike U'.vm) (hk : U'.heap[a]? = some A) : Ch a A U' := ⟨h.1.keep hal hk, h.2⟩
/-- what place i of a char[]'s cell holds -/
def cv (A : Cell) (i : Nat) : Int32 := match A.slots[i]? with | some (.int x) => x | _ => 0
theorem Ch.get {a : Addr} {A : Cell} {U : State} (h : Ch a A U) {i : Nat} (hi : i < A.slots.size) : A.slots[i]? = some (.int (cv A i)) := by
  have e := Array.getElem?_eq_getElem hi
  have f := h.2 i _ e
  unfold cv; rw [e]
  generalize A.slots[i] = v at f
  cases v <;> simp [fits] at f ⊢
/-- the byte that i2b leaves of a char -/
def lo8 (x : Int32) : Int32 := x.toInt8.toInt32
theorem fits_lo8 (y : Int32) : fits .byte (.int (lo8 y)) = true := by
  have h1 := y.toInt8.le_toInt
  have h2 := y.toInt8.toInt_lt
  simp only [lo8, fits, Bool.and_eq_true, decide_eq_true_eq, Int32.le_iff_toInt_le, Int8.toInt_toInt32, show (-128 : Int32).toInt = -128 from by decide, show (127 : Int32).toInt = 127 from by decide]
  omega
/-- A' is A but that each place j of lo .. hi - 1 holds f j -/
def Laid (A A' : Cell) (lo hi : Nat) (f : Nat → Value) : Prop := A'.cls = A.cls ∧ A'.vm = A.vm ∧ A'.slots.size = A.slots.size ∧ ∀ i, A'.slots[i]? = if lo ≤ i ∧ i < hi then some (f i) else A.slots[i]?
theorem Laid.zero (A : Cell) (lo : Nat) (f : Nat → Value) : Laid A A lo (lo + 0) f := ⟨rfl, rfl, rfl, fun i => by rw [if_neg (by omega)]⟩
theorem Laid.step {A Ak : Cell} {lo k : Nat} {f : Nat → Value} {v : Value} (h : Laid A Ak lo k f) (hlo : lo ≤ k) (hk : k < Ak.slots.size) (hv : v = f k) : Laid A (Ak.setSlot k v) lo (k + 1) f := by
  refine ⟨h.1, h.2.1, by simpa [Cell.setSlot] using h.2.2.1, fun i => ?_⟩
  by_cases e : k = i
  · subst e; rw [Cell.slots_setSlot_self v hk, if_pos (by omega), hv]
  · rw [Cell.slots_setSlot_ne v e, h.2.2.2 i]
    by_cases q : lo ≤ i ∧ i < k
    · rw [if_pos q, if_pos (by omega)]
    · rw [if_neg q, if_neg (by omega)]
def U16 : String := "java/lang/StringUTF16"
namespace Cmp5
def yN : MethodName := ⟨"java/lang/StringUTF16", "compress", "([CI[BII)I"⟩
abbrev yB : ByteArray := jdk_52_method_21_code
theorem d0 : decode yB 0 = .ok (.iconst 0, 1) := by decide +kernel
theorem d1 : decode yB 1 = .ok (.istore 5, 2) := by decide +kernel
theorem d3 : decode yB 3 = .ok (.iload 5, 2) := by decide +kernel
theorem d5 : decode yB 5 = .ok (.iload 4, 2) := by decide +kernel
theorem d7 : decode yB 7 = .ok (.if_icmp (.ge) 37, 3) := by decide +kernel
theorem d10 : decode yB 10 = .ok (.aload_n 0, 1) := by decide +kernel
theorem d11 : decode yB 11 = .ok (.iload_n 1, 1) := by decide +kernel
theorem d12 : decode yB 12 = .ok (.caload, 1) := by decide +kernel
theorem d13 : decode yB 13 = .ok (.istore 6, 2) := by decide +kernel
theorem d15 : decode yB 15 = .ok (.iload 6, 2) := by decide +kernel
theorem d17 : decode yB 17 = .ok (.sipush 255, 3) := by decide +kernel
theorem d20 : decode yB 20 = .ok (.if_icmp (.le) 6, 3) := by decide +kernel
theorem d26 : decode yB 26 = .ok (.aload_n 2, 1) := by decide +kernel
theorem d27 : decode yB 27 = .ok (.iload_n 3, 1) := by decide +kernel
theorem d28 : decode yB 28 = .ok (.iload 6, 2) := by decide +kernel
theorem d30 : decode yB 30 = .ok (.i2b, 1) := by decide +kernel
theorem d31 : decode yB 31 = .ok (.bastore, 1) := by decide +kernel
theorem d32 : decode yB 32 = .ok (.iinc 1 1, 3) := by decide +kernel
theorem d35 : decode yB 35 = .ok (.iinc 3 1, 3) := by decide +kernel
theorem d38 : decode yB 38 = .ok (.iinc 5 1, 3) := by decide +kernel
theorem d41 : decode yB 41 = .ok (.goto (-38), 3) := by decide +kernel
theorem d44 : decode yB 44 = .ok (.iload 4, 2) := by decide +kernel
theorem d46 : decode yB 46 = .ok (.ireturn, 1) := by decide +kernel
def site : List Cond := []
def tab : Cond := tabOf yN yB 7 (some .int) site
def P (b : Addr) (A : Cell) (d : Addr) (B : Cell) (o q len : Nat) (args : Array Value) (s : State) : Prop := args = #[.ref b, .int (Int32.ofNat o), .ref d, .int (Int32.ofNat q), .int (Int32.ofNat len)] ∧ Ch b A s ∧ Arr .byte d B s ∧ b ≠ d ∧ o + len ≤ A.slots.size ∧ q + len ≤ B.slots.size ∧ ∀ i, i < len → ¬ 255 < cv A (o + i)
def E (b : Addr) (A : Cell) (d : Addr) (B : Cell) (o q len : Nat) (r : Option Value) (s u : State) : Prop := r = some (.int (Int32.ofNat len)) ∧ ∃ B', Put d B' s u ∧ Laid B B' q (q + len) (fun j => Value.int (lo8 (cv A (o + (j - q)))))
/-- no char of the range above 255: len; the places written hold each char's low byte -/
theorem law (l : Launch) (b : Addr) (A : Cell) (d : Addr) (B : Cell) (o q len : Nat) : Law l yN 5 5 0 0 yB 7 (some .int) site (P b A d B o q len) (E b A d B o q len) (copyLocs d q len) 0 0 := by
  refine Law.of_walk (plainFor_of_name (by decide +kernel)) (by decide +kernel) (by decide +kernel) (by decide) (fun _ _ h => by rw [h.1]; rfl) (fun _ U U' hal hh h => ⟨h.1, h.2.1.mv hal hh, h.2.2.1.mv hal hh, h.2.2.2⟩) (fun r U U' V V' h1 hal h2 h => ⟨h.1, h.2.elim fun B' q => ⟨B', q.1.mv h1 h2, q.2⟩⟩) ?_
  intro p e s m args below meth c s₁ X0 hexec hbytes hml hret hlk hnm hown hh0 W hP
  obtain ⟨rfl, hA, hB, hne, l1, l2, hp⟩ := hP
  have c1 : Steps p.tables e below (s₁.setTop (entryFrame m #[.ref b, .int (Int32.ofNat o), .ref d, .int (Int32.ofNat q), .int (Int32.ofNat len)] 7)) (s₁.setTop (mkF m 0 #[.val (.ref b), .val (.int (Int32.ofNat o)), .val (.ref d), .val (.int (Int32.ofNat q)), .val (.int (Int32.ofNat len)), .unset, .unset] [])) := entry rfl
  have hA0 := hA.1.mv X0.warmed.alike hh0
  have hB0 := hB.mv X0.warmed.alike hh0
  have a31 := hA.1.2.2.2
  have c2 : Steps p.tables e below (s₁.setTop (entryFrame m #[.ref b, .int (Int32.ofNat o), .ref d, .int (Int32.ofNat q), .int (Int32.ofNat len)] 7)) (s₁.setTop (mkF m 3 #[.val (.ref b), .val (.int (Int32.ofNat o)), .val (.ref d), .val (.int (Int32.ofNat q)), .val (.int (Int32.ofNat len)), .val (.int 0), .unset] [])) := c1.trans (by
    refine iconstV X0.here hexec rfl 0 (hb hbytes d0) (by decide) ?_
    refine XS.istore X0.here hexec rfl (hb hbytes d1) rfl rfl ?_
    exact Steps.refl _)
  have loop : ∀ (r i : Nat), i + r = len → ∀ (z : Slot), (z = .unset ∨ ∃ w, z = .val w ∧ w.category = 1) → ∀ (Tl : State) (Bk : Cell), Stand p l e { frames := 0, locals := 0, cells := 0, slots := 0 } s m #[.ref b, .int (Int32.ofNat o), .ref d, .int (Int32.ofNat q), .int (Int32.ofNat len)] below meth c Tl ([] ++ copyLocs d q i) 0 0 → Put d Bk s₁ Tl → Laid B Bk q (q + i) (fun j => Value.int (lo8 (cv A (o + (j - q))))) →
      Steps p.tables e below (s₁.setTop (entryFrame m #[.ref b, .int (Int32.ofNat o), .ref d, .int (Int32.ofNat q), .int (Int32.ofNat len)] 7)) (Tl.setTop (mkF m 3 #[.val (.ref b), .val (.int (Int32.ofNat (o + i))), .val (.ref d), .val (.int (Int32.ofNat (q + i))), .val (.int (Int32.ofNat len)), .val (.int (Int32.ofNat i)), z] [])) → ∃ (T' : State) (B' : Cell) (z' : Slot), Stand p l e { frames := 0, locals := 0, cells := 0, slots := 0 } s m #[.ref b, .int (Int32.ofNat o), .ref d, .int (Int32.ofNat q), .int (Int32.ofNat len)] below meth c T' ([] ++ copyLocs d q len) 0 0 ∧ Put d B' s₁ T' ∧ Laid B B' q (q + len) (fun j => Value.int (lo8 (cv A (o + (j - q))))) ∧
      Steps p.tables e below (s₁.setTop (entryFrame m #[.ref b, .int (Int32.ofNat o), .ref d, .int (Int32.ofNat q), .int (Int32.ofNat len)] 7)) (T'.setTop (mkF m 3 #[.val (.ref b), .val (.int (Int32.ofNat (o + len))), .val (.ref d), .val (.int (Int32.ofNat (q + len))), .val (.int (Int32.ofNat len)), .val (.int (Int32.ofNat len)), z'] [])) := by
    intro r
    induction r with
    | zero =>
      intro i hi z hz Tl Bk Xl pl fl cl
      have hil : i = len := by omega
      rw [hil] at Xl fl cl
      exact ⟨Tl, Bk, z, Xl, pl, fl, cl⟩
    | succ r ih =>
      intro i hi z hz Tl Bk Xl pl fl cl
      have all := X0.warmed.alike.symm.trans Xl.warmed.alike
      have hAl := hA0.keep all (pl.other hne hA0.1)
      have hBk := hB0.like all pl.1 fl.1 fl.2.1 fl.2.2.1
      have hlt : q + i < Bk.slots.size := by rw [fl.2.2.1]; omega
      have c3 : Steps p.tables e below (s₁.setTop (entryFrame m #[.ref b, .int (Int32.ofNat o), .ref d, .int (Int32.ofNat q), .int (Int32.ofNat len)] 7)) (Tl.setTop (mkF m 12 #[.val (.ref b), .val (.int (Int32.ofNat (o + i))), .val (.ref d), .val (.int (Int32.ofNat (q + i))), .val (.int (Int32.ofNat len)), .val (.int (Int32.ofNat i)), z] [.int (Int32.ofNat (o + i)), .ref b])) := cl.trans (by
        refine XS.iload Xl.here hexec rfl (hb hbytes d3) rfl ?_
        refine XS.iload Xl.here hexec rfl (hb hbytes d5) rfl ?_
        refine XS.icmpNo Xl.here hexec rfl (hb hbytes d7) rfl (ii_ge_f (lt32 (by omega) (by omega))) ?_
        refine XS.aloadN Xl.here hexec rfl (hb hbytes d10) rfl rfl ?_
        refine XS.iloadN Xl.here hexec rfl (hb hbytes d11) rfl ?_
        exact Steps.refl _)
      have c4 : Steps p.tables e below (s₁.setTop (entryFrame m #[.ref b, .int (Int32.ofNat o), .ref d, .int (Int32.ofNat q), .int (Int32.ofNat len)] 7)) (Tl.setTop (mkF m 13 #[.val (.ref b), .val (.int (Int32.ofNat (o + i))), .val (.ref d), .val (.int (Int32.ofNat (q + i))), .val (.int (Int32.ofNat len)), .val (.int (Int32.ofNat i)), z] [.int (cv A (o + i))])) := c3.trans (by
        refine Xl.aget hexec hAl rfl (hA.get (i := o + i) (by omega)) rfl rfl (hb hbytes d12) ?_
        exact Steps.refl _)
      have c5 : Steps p.tables e below (s₁.setTop (entryFrame m #[.ref b, .int (Int32.ofNat o), .ref d, .int (Int32.ofNat q), .int (Int32.ofNat len)] 7)) (Tl.setTop (mkF m 15 #[.val (.ref b), .val (.int (Int32.ofNat (o + i))), .val (.ref d), .val (.int (Int32.ofNat (q + i))), .val (.int (Int32.ofNat len)), .val (.int (Int32.ofNat i)), .val (.int (cv A (o + i)))] [])) := c4.trans (by
        refine XS.istoreS Xl.here hexec rfl (hb hbytes d13) rfl rfl hz ?_
        exact Steps.refl _)
      have c6 : Steps p.tables e below (s₁.setTop (entryFrame m #[.ref b, .int (Int32.ofNat o), .ref d, .int (Int32.ofNat q), .int (Int32.ofNat len)] 7)) (Tl.setTop (mkF m 31 #[.val (.ref b), .val (.int (Int32.ofNat (o + i))), .val (.ref d), .val (.int (Int32.ofNat (q + i))), .val (.int (Int32.ofNat len)), .val (.int (Int32.ofNat i)), .val (.int (cv A (o + i)))] [.int (lo8 (cv A (o + i))), .int (Int32.ofNat (q + i)), .ref d])) := c5.trans (by
        refine XS.iload Xl.here hexec rfl (hb hbytes d15) rfl ?_
        refine sipushV Xl.here hexec rfl 255 (hb hbytes d17) (by decide) ?_
        refine XS.icmpYes Xl.here hexec rfl (pc0 := 20) rfl (hb hbytes d20) rfl (ii_le_t (hp i (by omega))) (by decide) rfl ?_
        refine XS.aloadN Xl.here hexec rfl (hb hbytes d26) rfl rfl ?_
        refine XS.iloadN Xl.here hexec rfl (hb hbytes d27) rfl ?_
        refine XS.iload Xl.here hexec rfl (hb hbytes d28) rfl ?_
        refine i2b Xl.here hexec rfl (hb hbytes d30) rfl ?_
        exact Steps.refl _)
      obtain ⟨T7, X7, p7, st7⟩ := Xl.aput hexec hBk rfl hlt rfl (fits_lo8 (cv A (o + i))) (g := (mkF m 31 #[.val (.ref b), .val (.int (Int32.ofNat (o + i))), .val (.ref d), .val (.int (Int32.ofNat (q + i))), .val (.int (Int32.ofNat len)), .val (.int (Int32.ofNat i)), .val (.int (cv A (o + i)))] [.int (lo8 (cv A (o + i))), .int (Int32.ofNat (q + i)), .ref d])) rfl (rest := []) rfl (hb hbytes d31)
      have c8 : Steps p.tables e below (s₁.setTop (entryFrame m #[.ref b, .int (Int32.ofNat o), .ref d, .int (Int32.ofNat q), .int (Int32.ofNat len)] 7)) (T7.setTop (mkF m 32 #[.val (.ref b), .val (.int (Int32.ofNat (o + i))), .val (.ref d), .val (.int (Int32.ofNat (q + i))), .val (.int (Int32.ofNat len)), .val (.int (Int32.ofNat i)), .val (.int (cv A (o + i)))] [])) := c6.trans (st7 _ (Steps.refl _))
      have c9 : Steps p.tables e below (s₁.setTop (entryFrame m #[.ref b, .int (Int32.ofNat o), .ref d, .int (Int32.ofNat q), .int (Int32.ofNat len)] 7)) (T7.setTop (mkF m 3 #[.val (.ref b), .val (.int (Int32.ofNat (o + i) + 1)), .val (.ref d), .val (.int (Int32.ofNat (q + i) + 1)), .val (.int (Int32.ofNat len)), .val (.int (Int32.ofNat i + 1)), .val (.int (cv A (o + i)))] [])) := c8.trans (by
        refine iincV X7.here hexec rfl 1 (hb hbytes d32) (by decide) rfl rfl ?_
        refine iincV X7.here hexec rfl 1 (hb hbytes d35) (by decide) rfl rfl ?_
        refine iincV X7.here hexec rfl 1 (hb hbytes d38) (by decide) rfl rfl ?_
        refine XS.goto X7.here hexec rfl (pc0 := 41) rfl (hb hbytes d41) (by decide) rfl ?_
        exact Steps.refl _)
      have c10 : Steps p.tables e below (s₁.setTop (entryFrame m #[.ref b, .int (Int32.ofNat o), .ref d, .int (Int32.ofNat q), .int (Int32.ofNat len)] 7)) (T7.setTop (mkF m 3 #[.val (.ref b), .val (.int (Int32.ofNat (o + (i + 1)))), .val (.ref d), .val (.int (Int32.ofNat (q + (i + 1)))), .val (.int (Int32.ofNat len)), .val (.int (Int32.ofNat (i + 1))), .val (.int (cv A (o + i)))] [])) := by
        have := c9
        rw [succ32, succ32, succ32] at this
        exact this
      exact ih (i + 1) (by omega) _ (Or.inr ⟨_, rfl, rfl⟩) T7 _ (by rw [copyLocs_step, ← List.append_assoc]; exact X7) (pl.trans p7) (fl.step (by omega) hlt (by simp)) c10
  obtain ⟨T9, B9, z9, X9, p9, f9, g9⟩ := loop len 0 (by omega) .unset (Or.inl rfl) s₁ B (by simpa [copyLocs] using X0) ⟨hB0.1, fun _ _ => rfl, rfl⟩ (Laid.zero _ _ _) c2
  have c11 : Steps p.tables e below (s₁.setTop (entryFrame m #[.ref b, .int (Int32.ofNat o), .ref d, .int (Int32.ofNat q), .int (Int32.ofNat len)] 7)) (T9.setTop (mkF m 46 #[.val (.ref b), .val (.int (Int32.ofNat (o + len))), .val (.ref d), .val (.int (Int32.ofNat (q + len))), .val (.int (Int32.ofNat len)), .val (.int (Int32.ofNat len)), z9] [.int (Int32.ofNat len)])) := g9.trans (by
    refine XS.iload X9.here hexec rfl (hb hbytes d3) rfl ?_
    refine XS.iload X9.here hexec rfl (hb hbytes d5) rfl ?_
    refine XS.icmpYes X9.here hexec rfl (pc0 := 7) rfl (hb hbytes d7) rfl (ii_ge_t (nlt32 (by omega) (Nat.le_refl _))) (by decide) rfl ?_
    refine XS.iload X9.here hexec rfl (hb hbytes d44) rfl ?_
    exact Steps.refl _)
  exact ⟨T9, some (.int (Int32.ofNat len)), _, _, _, X9, by simp, rfl, rfl, (fun h => by cases h), ⟨rfl, B9, p9.from hh0, f9⟩, fun fs hl => c11.trans (X9.ireturnOut hexec hret rfl (Or.inl rfl) (hb hbytes d46) hl)⟩
end Cmp5
namespace Cmp3
def yN : MethodName := ⟨"java/lang/StringUTF16", "compress", "([CII)[B"⟩
abbrev yB : ByteArray := jdk_52_method_16_code
theorem d0 : decode yB 0 = .ok (.iload_n 2, 1) := by decide +kernel
theorem d1 : decode yB 1 = .ok (.newarray .byte, 2) := by decide +kernel
theorem d3 : decode yB 3 = .ok (.astore_n 3, 1) := by decide +kernel
theorem d4 : decode yB 4 = .ok (.aload_n 0, 1) := by decide +kernel
theorem d5 : decode yB 5 = .ok (.iload_n 1, 1) := by decide +kernel
theorem d6 : decode yB 6 = .ok (.aload_n 3, 1) := by decide +kernel
theorem d7 : decode yB 7 = .ok (.iconst 0, 1) := by decide +kernel
theorem d8 : decode yB 8 = .ok (.iload_n 2, 1) := by decide +kernel
theorem d9 : decode yB 9 = .ok (.invokestatic 115, 3) := by decide +kernel
theorem d12 : decode yB 12 = .ok (.istore 4, 2) := by decide +kernel
theorem d14 : decode yB 14 = .ok (.iload 4, 2) := by decide +kernel
theorem d16 : decode yB 16 = .ok (.iload_n 2, 1) := by decide +kernel
theorem d17 : decode yB 17 = .ok (.if_icmp (.eq) 40, 3) := by decide +kernel
theorem d57 : decode yB 57 = .ok (.aload_n 3, 1) := by decide +kernel
theorem d58 : decode yB 58 = .ok (.areturn, 1) := by decide +kernel
def site : List Cond := [.arrayClass .byte, Cmp5.tab] ++ staticW U16 115 Cmp5.yN
def tab : Cond := tabOf yN yB 6 (some (.array .byte)) site
def P (b : Addr) (A : Cell) (o len : Nat) (args : Array Value) (s : State) : Prop := args = #[.ref b, .int (Int32.ofNat o), .int (Int32.ofNat len)] ∧ Ch b A s ∧ o + len ≤ A.slots.size ∧ len ≤ 536870912 ∧ ∀ i, i < len → ¬ 255 < cv A (o + i)
def E (b : Addr) (A : Cell) (o len : Nat) (r : Option Value) (s u : State) : Prop := NewArr .byte "[B" len (fun j => .int (lo8 (cv A (o + j)))) r s u ∧ u.heap.size = s.heap.size + 1
/-- no char of the range above 255: a new byte[] of their low bytes -/
theorem law (l : Launch) (b : Addr) (A : Cell) (o len : Nat) : Law l yN 3 3 1 18 yB 6 (some (.array .byte)) site (P b A o len) (E b A o len) [] 1 len := by
  refine Law.of_walk (plainFor_of_name (by decide +kernel)) (by decide +kernel) (by decide +kernel) (by decide) (fun _ _ h => by rw [h.1]; rfl) (fun _ U U' hal hh h => ⟨h.1, h.2.1.mv hal hh, h.2.2⟩) (fun r U U' V V' h1 hal h2 h => ⟨NewArr.mv r U U' V V' h1 hal h2 h.1, by rw [h1, h2]; exact h.2⟩) ?_
  intro p e s m args below meth c s₁ X0 hexec hbytes hml hret hlk hnm hown hh0 W hP
  obtain ⟨rfl, hA, l1, l2, hp⟩ := hP
  have a31 := hA.1.2.2.2
  have c1 : Steps p.tables e below (s₁.setTop (entryFrame m #[.ref b, .int (Int32.ofNat o), .int (Int32.ofNat len)] 6)) (s₁.setTop (mkF m 0 #[.val (.ref b), .val (.int (Int32.ofNat o)), .val (.int (Int32.ofNat len)), .unset, .unset, .unset] [])) := entry rfl
  have c2 : Steps p.tables e below (s₁.setTop (entryFrame m #[.ref b, .int (Int32.ofNat o), .int (Int32.ofNat len)] 6)) (s₁.setTop (mkF m 1 #[.val (.ref b), .val (.int (Int32.ofNat o)), .val (.int (Int32.ofNat len)), .unset, .unset, .unset] [.int (Int32.ofNat len)])) := c1.trans (by
    refine XS.iloadN X0.here hexec rfl (hb hbytes d0) rfl ?_
    exact Steps.refl _)
  obtain ⟨T3, B3, X3, ba3, bs3, bv3, bh3, bf3, st3⟩ := X0.anew hexec (atype := .byte) (wk W (.arrayClass .byte)) rfl (by show len * 1 ≤ _; omega) (by omega) (g := (mkF m 1 #[.val (.ref b), .val (.int (Int32.ofNat o)), .val (.int (Int32.ofNat len)), .unset, .unset, .unset] [.int (Int32.ofNat len)])) rfl (hb hbytes d1) (rest := []) rfl (Nat.le_refl _) (by show 0 + len ≤ len; omega)
  rw [hh0] at ba3 st3
  have kp3 : XT.Kept s T3 := (XT.Kept.of_eq hh0).push bh3
  have hA3 := hA.keep X3.warmed.alike (kp3 _ _ hA.1.1)
  have hne : b ≠ s.heap.size := hA.1.ne
  have c4 : Steps p.tables e below (s₁.setTop (entryFrame m #[.ref b, .int (Int32.ofNat o), .int (Int32.ofNat len)] 6)) (T3.setTop (mkF m 3 #[.val (.ref b), .val (.int (Int32.ofNat o)), .val (.int (Int32.ofNat len)), .unset, .unset, .unset] [.ref s.heap.size])) := c2.trans (st3 _ (Steps.refl _))
  have c5 : Steps p.tables e below (s₁.setTop (entryFrame m #[.ref b, .int (Int32.ofNat o), .int (Int32.ofNat len)] 6)) (T3.setTop (mkF m 9 #[.val (.ref b), .val (.int (Int32.ofNat o)), .val (.int (Int32.ofNat len)), .val (.ref s.heap.size), .unset, .unset] [.int (Int32.ofNat len), .int 0, .ref s.heap.size, .int (Int32.ofNat o), .ref b])) := c4.trans (by
    refine XS.astoreN X3.here hexec rfl (hb hbytes d3) rfl rfl rfl ?_
    refine XS.aloadN X3.here hexec rfl (hb hbytes d4) rfl rfl ?_
    refine XS.iloadN X3.here hexec rfl (hb hbytes d5) rfl ?_
    refine XS.aloadN X3.here hexec rfl (hb hbytes d6) rfl rfl ?_
    refine iconstV X3.here hexec rfl 0 (hb hbytes d7) (by decide) ?_
    refine XS.iloadN X3.here hexec rfl (hb hbytes d8) rfl ?_
    exact Steps.refl _)
  obtain ⟨v6, T6, X6, E6, g6⟩ := X3.callS hexec (Cmp5.law l b A s.heap.size B3 o 0 len) hown (wks W (staticW U16 115 Cmp5.yN)) (wk W Cmp5.tab) (W := 0) (Nat.le_of_ble_eq_true rfl) (Nat.le_of_ble_eq_true rfl) (Nat.le_refl _) (by show 0 + len + 0 ≤ len; omega) (g := (mkF m 9 #[.val (.ref b), .val (.int (Int32.ofNat o)), .val (.int (Int32.ofNat len)), .val (.ref s.heap.size), .unset, .unset] [.int (Int32.ofNat len), .int (Int32.ofNat 0), .ref s.heap.size, .int (Int32.ofNat o), .ref b])) rfl (by rw [hml]; rfl) c5 (argsL := [.ref b, .int (Int32.ofNat o), .ref s.heap.size, .int (Int32.ofNat 0), .int (Int32.ofNat len)]) (rest := []) rfl rfl (by show 2 * 0 + 0 ≤ _; decide) (hb hbytes d9) (⟨rfl, hA3, ba3, hne, l1, by rw [bs3]; simp, hp⟩)
  obtain ⟨rfl, B6, p6, f6⟩ := E6
  have c7 : Steps p.tables e below (s₁.setTop (entryFrame m #[.ref b, .int (Int32.ofNat o), .int (Int32.ofNat len)] 6)) (T6.setTop (mkF m 12 #[.val (.ref b), .val (.int (Int32.ofNat o)), .val (.int (Int32.ofNat len)), .val (.ref s.heap.size), .unset, .unset] [.int (Int32.ofNat len)])) := g6
  have c8 : Steps p.tables e below (s₁.setTop (entryFrame m #[.ref b, .int (Int32.ofNat o), .int (Int32.ofNat len)] 6)) (T6.setTop (mkF m 58 #[.val (.ref b), .val (.int (Int32.ofNat o)), .val (.int (Int32.ofNat len)), .val (.ref s.heap.size), .val (.int (Int32.ofNat len)), .unset] [.ref s.heap.size])) := c7.trans (by
    refine XS.istore X6.here hexec rfl (hb hbytes d12) rfl rfl ?_
    refine XS.iload X6.here hexec rfl (hb hbytes d14) rfl ?_
    refine XS.iloadN X6.here hexec rfl (hb hbytes d16) rfl ?_
    refine XS.icmpYes X6.here hexec rfl (pc0 := 17) rfl (hb hbytes d17) rfl (ii_eq_t rfl) (by decide) rfl ?_
    refine XS.aloadN X6.here hexec rfl (hb hbytes d57) rfl rfl ?_
    exact Steps.refl _)
  have X8 := X6.wide (L' := []) (cells' := 1) (slots' := len) (fun x hx hlt => by
    simp only [List.nil_append, copyLocs, List.mem_map, List.mem_range] at hx
    obtain ⟨i, -, rfl⟩ := hx
    exact absurd hlt (Nat.lt_irrefl _)) (Nat.le_refl _) (by omega)
  exact ⟨T6, some (.ref s.heap.size), _, _, _, X8, rfl, rfl, rfl, (fun h => by cases h), ⟨⟨rfl, B6, ba3.like (X3.warmed.alike.symm.trans X6.warmed.alike) p6.1 f6.1 f6.2.1 f6.2.2.1, f6.2.1.trans bv3, by rw [X6.warmed.alike.findClass, f6.1]; exact bf3, by rw [f6.2.2.1, bs3]; simp, fun j hj => by rw [f6.2.2.2 j, if_pos (by omega)]; rfl, kp3.put p6 (Nat.le_refl _)⟩, by rw [p6.2.2, bh3, hh0]; simp⟩, fun fs hl => c8.trans (X8.areturnOut hexec rfl hret rfl (hb hbytes d58) hl)⟩
end Cmp3
namespace CodL
def yN : MethodName := ⟨"java/lang/StringUTF16", "coderFromArrayLen", "([BI)B"⟩
abbrev yB : ByteArray := jdk_52_method_15_code
theorem d0 : decode yB 0 = .ok (.iload_n 1, 1) := by decide +kernel
theorem d1 : decode yB 1 = .ok (.aload_n 0, 1) := by decide +kernel
theorem d2 : decode yB 2 = .ok (.arraylength, 1) := by decide +kernel
theorem d3 : decode yB 3 = .ok (.isub, 1) := by decide +kernel
theorem d4 : decode yB 4 = .ok (.bipush 31, 2) := by decide +kernel
theorem d6 : decode yB 6 = .ok (.iushr, 1) := by decide +kernel
theorem d7 : decode yB 7 = .ok (.i2b, 1) := by decide +kernel
theorem d8 : decode yB 8 = .ok (.ireturn, 1) := by decide +kernel
def site : List Cond := []
def tab : Cond := tabOf yN yB 2 (some .byte) site
def P (d : Addr) (B : Cell) (args : Array Value) (s : State) : Prop := args = #[.ref d, .int (Int32.ofNat B.slots.size)] ∧ Arr .byte d B s
def E (r : Option Value) (s u : State) : Prop := XT.PureE (some (.int 0)) r s u
/-- an array as long as the number of chars: LATIN1 -/
theorem law (l : Launch) (d : Addr) (B : Cell) : Law l yN 2 2 0 0 yB 2 (some .byte) site (P d B) E [] 0 0 := by
  refine Law.of_walk (plainFor_of_name (by decide +kernel)) (by decide +kernel) (by decide +kernel) (by decide) (fun _ _ h => by rw [h.1]; rfl) (fun _ U U' hal hh h => ⟨h.1, h.2.mv hal hh⟩) (fun r U U' V V' h1 hal h2 h => XT.PureE.mv r U U' V V' h1 hal h2 h) ?_
  intro p e s m args below meth c s₁ X0 hexec hbytes hml hret hlk hnm hown hh0 W hP
  obtain ⟨rfl, hB⟩ := hP
  have hB0 := hB.mv X0.warmed.alike hh0
  have c1 : Steps p.tables e below (s₁.setTop (entryFrame m #[.ref d, .int (Int32.ofNat B.slots.size)] 2)) (s₁.setTop (mkF m 0 #[.val (.ref d), .val (.int (Int32.ofNat B.slots.size))] [])) := entry rfl
  have c2 : Steps p.tables e below (s₁.setTop (entryFrame m #[.ref d, .int (Int32.ofNat B.slots.size)] 2)) (s₁.setTop (mkF m 2 #[.val (.ref d), .val (.int (Int32.ofNat B.slots.size))] [.ref d, .int (Int32.ofNat B.slots.size)])) := c1.trans (by
    refine XS.iloadN X0.here hexec rfl (hb hbytes d0) rfl ?_
    refine XS.aloadN X0.here hexec rfl (hb hbytes d1) rfl rfl ?_
    exact Steps.refl _)
  have c3 : Steps p.tables e below (s₁.setTop (entryFrame m #[.ref d, .int (Int32.ofNat B.slots.size)] 2)) (s₁.setTop (mkF m 8 #[.val (.ref d), .val (.int (Int32.ofNat B.slots.size))] [.int (lo8 (ushr (Int32.ofNat B.slots.size - Int32.ofNat B.slots.size) 31))])) := c2.trans (by
    refine X0.alen hexec hB0 rfl rfl (hb hbytes d2) ?_
    refine XS.isub X0.here hexec rfl (hb hbytes d3) rfl ?_
    refine bipushV X0.here hexec rfl 31 (hb hbytes d4) (by decide) ?_
    refine iushr X0.here hexec rfl (hb hbytes d6) rfl ?_
    refine i2b X0.here hexec rfl (hb hbytes d7) rfl ?_
    exact Steps.refl _)
  have e0 : lo8 (ushr (Int32.ofNat B.slots.size - Int32.ofNat B.slots.size) 31) = 0 := by rw [Int32.sub_self]; decide
  rw [e0] at c3
  exact ⟨s₁, some (.int 0), _, _, _, X0, rfl, rfl, rfl, (fun h => by cases h), ⟨rfl, hh0⟩, fun fs hl => c3.trans (X0.ireturnOut hexec hret rfl (Or.inr (Or.inr (Or.inl rfl))) (hb hbytes d8) hl)⟩
end CodL
/-- the String at a is Latin-1 over a new byte[] (the heap's one new cell): the low bytes of the len chars of A from o on; every cell but a is kept -/
def Got (a : Addr) (D : Cell) (fV fC : Field) (A : Cell) (o len : Nat) (r : Option Value) (s u : State) : Prop := r = none ∧ ∃ D' V : Cell, Blank "java/lang/String" a D' u ∧ Same D D' [fV.slot, fC.slot] ∧ D'.slots[fV.slot]? = some (.ref s.heap.size) ∧ D'.slots[fC.slot]? = some (.int 0) ∧ Arr .byte s.heap.size V u ∧ V.vm = .none ∧ u.vm.findClass "[B" = some V.cls ∧ V.slots.size = len ∧ (∀ j, j < len → V.slots[j]? = some (.int (lo8 (cv A (o + j))))) ∧ (∀ (y : Addr) (c : Cell), y ≠ a → s.heap[y]? = some c → u.heap[y]? = some c) ∧ u.heap.size = s.heap.size + 1
theorem Got.mv {a : Addr} {D A : Cell} {fV fC : Field} {o len : Nat} : ∀ r (U U' V V' : State), U'.heap = U.heap → V.vm.Alike V'.vm → V'.heap = V.heap → Got a D fV fC A o len r U V → Got a D fV fC A o len r U' V' :=
  fun r U U' V V' h1 hal h2 ⟨e0, D', X, a1, a2, a3, a4, a5, a6, a7, a8, a9, a10, a11⟩ => ⟨e0, D', X, a1.mv hal h2, a2, by rw [h1]; exact a3, a4, by rw [h1]; exact a5.mv hal h2, a6, by rw [hal.findClass]; exact a7, a8, a9, by rw [h1, h2]; exact a10, by rw [h1, h2]; exact a11⟩
namespace New4
def yN : MethodName := ⟨"java/lang/String", "<init>", "([CIILjava/lang/Void;)V"⟩
abbrev yB : ByteArray := jdk_42_method_149_code
theorem d0 : decode yB 0 = .ok (.aload_n 0, 1) := by decide +kernel
theorem d1 : decode yB 1 = .ok (.invokespecial 1, 3) := by decide +kernel
theorem d4 : decode yB 4 = .ok (.iload_n 3, 1) := by decide +kernel
theorem d5 : decode yB 5 = .ok (.ifCond (.ne) 22, 3) := by decide +kernel
theorem d27 : decode yB 27 = .ok (.getstatic 38, 3) := by decide +kernel
theorem d30 : decode yB 30 = .ok (.ifCond (.eq) 28, 3) := by decide +kernel
theorem d33 : decode yB 33 = .ok (.aload_n 1, 1) := by decide +kernel
theorem d34 : decode yB 34 = .ok (.iload_n 2, 1) := by decide +kernel
theorem d35 : decode yB 35 = .ok (.iload_n 3, 1) := by decide +kernel
theorem d36 : decode yB 36 = .ok (.invokestatic 177, 3) := by decide +kernel
theorem d39 : decode yB 39 = .ok (.astore 5, 2) := by decide +kernel
theorem d41 : decode yB 41 = .ok (.aload_n 0, 1) := by decide +kernel
theorem d42 : decode yB 42 = .ok (.aload 5, 2) := by decide +kernel
theorem d44 : decode yB 44 = .ok (.iload_n 3, 1) := by decide +kernel
theorem d45 : decode yB 45 = .ok (.invokestatic 47, 3) := by decide +kernel
theorem d48 : decode yB 48 = .ok (.putfield 15, 3) := by decide +kernel
theorem d51 : decode yB 51 = .ok (.aload_n 0, 1) := by decide +kernel
theorem d52 : decode yB 52 = .ok (.aload 5, 2) := by decide +kernel
theorem d54 : decode yB 54 = .ok (.putfield 9, 3) := by decide +kernel
theorem d57 : decode yB 57 = .ok (.return_, 1) := by decide +kernel
def site : List Cond := [.fieldLink "java/lang/String" 38 "java/lang/String" "COMPACT_STRINGS" "Z", Cmp3.tab, CodL.tab, .laysFinal "java/lang/String" "java/lang/String" "value" "[B", .fieldLink "java/lang/String" 9 "java/lang/String" "value" "[B", .laysFinal "java/lang/String" "java/lang/String" "coder" "B", .fieldLink "java/lang/String" 15 "java/lang/String" "coder" "B"] ++ objW "java/lang/String" 1 ++ staticW "java/lang/String" 177 Cmp3.yN ++ staticW "java/lang/String" 47 CodL.yN
def tab : Cond := tabOf yN yB 6 none site
def P (a : Addr) (D : Cell) (fV fC : Field) (b : Addr) (A : Cell) (z : Int32) (o len : Nat) (args : Array Value) (s : State) : Prop := args = #[.ref a, .ref b, .int (Int32.ofNat o), .int (Int32.ofNat len), .null] ∧ Blank "java/lang/String" a D s ∧ Found "java/lang/String" "value" "[B" fV s ∧ Found "java/lang/String" "coder" "B" fC s ∧ Ch b A s ∧ StaticIs s "java/lang/String" "COMPACT_STRINGS" "Z" (.int z) ∧ ¬ z = 0 ∧ 0 < len ∧ o + len ≤ A.slots.size ∧ len ≤ 536870912 ∧ ∀ i, i < len → ¬ 255 < cv A (o + i)
def E (a : Addr) (D : Cell) (fV fC : Field) (A : Cell) (o len : Nat) (r : Option Value) (s u : State) : Prop := Got a D fV fC A o len r s u
/-- len > 0, no char of the range above 255: a Latin-1 String of their low bytes -/
theorem law (l : Launch) (a : Addr) (D : Cell) (fV fC : Field) (b : Addr) (A : Cell) (z : Int32) (o len : Nat) : Law l yN 5 4 2 35 yB 6 none site (P a D fV fC b A z o len) (E a D fV fC A o len) [⟨a, fC.slot⟩, ⟨a, fV.slot⟩] 1 len := by
  refine Law.of_walk (plainFor_of_name (by decide +kernel)) (by decide +kernel) (by decide +kernel) (by decide) (fun _ _ h => by rw [h.1]; rfl) (fun _ U U' hal hh h => ⟨h.1, h.2.1.mv hal hh, h.2.2.1.al hal, h.2.2.2.1.al hal, h.2.2.2.2.1.mv hal hh, h.2.2.2.2.2.1.there hal hh, h.2.2.2.2.2.2⟩) (fun r U U' V V' h1 hal h2 h => Got.mv r U U' V V' h1 hal h2 h) ?_
  intro p e s m args below meth c s₁ X0 hexec hbytes hml hret hlk hnm hown hh0 W hP
  obtain ⟨rfl, hB, f1, f2, hA, s1, hz, l0, l1, l2, hp⟩ := hP
  have a31 := hA.1.2.2.2
  have c1 : Steps p.tables e below (s₁.setTop (entryFrame m #[.ref a, .ref b, .int (Int32.ofNat o), .int (Int32.ofNat len), .null] 6)) (s₁.setTop (mkF m 0 #[.val (.ref a), .val (.ref b), .val (.int (Int32.ofNat o)), .val (.int (Int32.ofNat len)), .val .null, .unset] [])) := entry rfl
  have c2 : Steps p.tables e below (s₁.setTop (entryFrame m #[.ref a, .ref b, .int (Int32.ofNat o), .int (Int32.ofNat len), .null] 6)) (s₁.setTop (mkF m 1 #[.val (.ref a), .val (.ref b), .val (.int (Int32.ofNat o)), .val (.int (Int32.ofNat len)), .val .null, .unset] [.ref a])) := c1.trans (by
    refine XS.aloadN X0.here hexec rfl (hb hbytes d0) rfl rfl ?_
    exact Steps.refl _)
  obtain ⟨T3, X3, q3, st3⟩ := X0.oinit hexec hown (wks W (objW "java/lang/String" 1)) (g := (mkF m 1 #[.val (.ref a), .val (.ref b), .val (.int (Int32.ofNat o)), .val (.int (Int32.ofNat len)), .val .null, .unset] [.ref a])) rfl (by rw [hml]; rfl) (rest := []) rfl (hb hbytes d1) (W := 0) (by show 2 * 0 + 0 ≤ _; decide) (Nat.le_of_ble_eq_true rfl) (Nat.le_of_ble_eq_true rfl)
  have hh3 := q3.trans hh0
  have c4 : Steps p.tables e below (s₁.setTop (entryFrame m #[.ref a, .ref b, .int (Int32.ofNat o), .int (Int32.ofNat len), .null] 6)) (T3.setTop (mkF m 27 #[.val (.ref a), .val (.ref b), .val (.int (Int32.ofNat o)), .val (.int (Int32.ofNat len)), .val .null, .unset] [])) := (c2.trans (st3 _ (Steps.refl _))).trans (by
    refine XS.iloadN X3.here hexec rfl (hb hbytes d4) rfl ?_
    refine XS.ifYes X3.here hexec rfl (pc0 := 5) rfl (hb hbytes d5) rfl (i0_ne_t (nz32 (by omega) l0)) (by decide) rfl ?_
    exact Steps.refl _)
  obtain ⟨T5, X5, q5, st5⟩ := X3.sget hexec hown (wk W (.fieldLink "java/lang/String" 38 "java/lang/String" "COMPACT_STRINGS" "Z")) s1 (fun _ _ h => by rw [hh3]; exact h) (g := (mkF m 27 #[.val (.ref a), .val (.ref b), .val (.int (Int32.ofNat o)), .val (.int (Int32.ofNat len)), .val .null, .unset] [])) rfl (hb hbytes d27)
  have hh5 := q5.trans hh3
  have c6 : Steps p.tables e below (s₁.setTop (entryFrame m #[.ref a, .ref b, .int (Int32.ofNat o), .int (Int32.ofNat len), .null] 6)) (T5.setTop (mkF m 30 #[.val (.ref a), .val (.ref b), .val (.int (Int32.ofNat o)), .val (.int (Int32.ofNat len)), .val .null, .unset] [.int z])) := c4.trans (st5 _ (Steps.refl _))
  have c7 : Steps p.tables e below (s₁.setTop (entryFrame m #[.ref a, .ref b, .int (Int32.ofNat o), .int (Int32.ofNat len), .null] 6)) (T5.setTop (mkF m 36 #[.val (.ref a), .val (.ref b), .val (.int (Int32.ofNat o)), .val (.int (Int32.ofNat len)), .val .null, .unset] [.int (Int32.ofNat len), .int (Int32.ofNat o), .ref b])) := c6.trans (by
    refine XS.ifNo X5.here hexec rfl (hb hbytes d30) rfl (i0_eq_f hz) ?_
    refine XS.aloadN X5.here hexec rfl (hb hbytes d33) rfl rfl ?_
    refine XS.iloadN X5.here hexec rfl (hb hbytes d34) rfl ?_
    refine XS.iloadN X5.here hexec rfl (hb hbytes d35) rfl ?_
    exact Steps.refl _)
  obtain ⟨v8, T8, X8, E8, g8⟩ := X5.callS hexec (Cmp3.law l b A o len) hown (wks W (staticW "java/lang/String" 177 Cmp3.yN)) (wk W Cmp3.tab) (W := 0) (Nat.le_of_ble_eq_true rfl) (Nat.le_of_ble_eq_true rfl) (Nat.le_refl _) (by show 0 + len ≤ len; omega) (g := (mkF m 36 #[.val (.ref a), .val (.ref b), .val (.int (Int32.ofNat o)), .val (.int (Int32.ofNat len)), .val .null, .unset] [.int (Int32.ofNat len), .int (Int32.ofNat o), .ref b])) rfl (by rw [hml]; rfl) c7 (argsL := [.ref b, .int (Int32.ofNat o), .int (Int32.ofNat len)]) (rest := []) rfl rfl (by show 2 * 0 + 0 ≤ _; decide) (hb hbytes d36) (⟨rfl, hA.mv X5.warmed.alike hh5, l1, l2, hp⟩)
  obtain ⟨e8, z8⟩ := E8
  obtain ⟨rfl, N, n1, n2, n3, n4, n5, n6⟩ := NewArr.mv _ T5 s _ _ hh5.symm (Vm.Alike.refl _) rfl e8
  rw [hh5] at z8
  have hB1 := hB.keep X8.warmed.alike (n6 _ _ hB.1)
  have hne : s.heap.size ≠ a := (Nat.ne_of_lt (Array.getElem?_eq_some_iff.mp hB.1).1).symm
  have c9 : Steps p.tables e below (s₁.setTop (entryFrame m #[.ref a, .ref b, .int (Int32.ofNat o), .int (Int32.ofNat len), .null] 6)) (T8.setTop (mkF m 39 #[.val (.ref a), .val (.ref b), .val (.int (Int32.ofNat o)), .val (.int (Int32.ofNat len)), .val .null, .unset] [.ref s.heap.size])) := g8
  have c10 : Steps p.tables e below (s₁.setTop (entryFrame m #[.ref a, .ref b, .int (Int32.ofNat o), .int (Int32.ofNat len), .null] 6)) (T8.setTop (mkF m 45 #[.val (.ref a), .val (.ref b), .val (.int (Int32.ofNat o)), .val (.int (Int32.ofNat len)), .val .null, .val (.ref s.heap.size)] [.int (Int32.ofNat N.slots.size), .ref s.heap.size, .ref a])) := by
    have hc : Steps p.tables e below (s₁.setTop (entryFrame m #[.ref a, .ref b, .int (Int32.ofNat o), .int (Int32.ofNat len), .null] 6)) (T8.setTop (mkF m 45 #[.val (.ref a), .val (.ref b), .val (.int (Int32.ofNat o)), .val (.int (Int32.ofNat len)), .val .null, .val (.ref s.heap.size)] [.int (Int32.ofNat len), .ref s.heap.size, .ref a])) := c9.trans (by
      refine XS.astore X8.here hexec rfl (hb hbytes d39) rfl rfl rfl ?_
      refine XS.aloadN X8.here hexec rfl (hb hbytes d41) rfl rfl ?_
      refine XS.aload X8.here hexec rfl (hb hbytes d42) rfl rfl ?_
      refine XS.iloadN X8.here hexec rfl (hb hbytes d44) rfl ?_
      exact Steps.refl _)
    rw [n4]; exact hc
  obtain ⟨v11, T11, X11, E11, g11⟩ := X8.callS hexec (CodL.law l s.heap.size N) hown (wks W (staticW "java/lang/String" 47 CodL.yN)) (wk W CodL.tab) (W := 1) (Nat.le_of_ble_eq_true rfl) (Nat.le_of_ble_eq_true rfl) (Nat.le_refl _) (by show 0 + len + 0 ≤ len; omega) (g := (mkF m 45 #[.val (.ref a), .val (.ref b), .val (.int (Int32.ofNat o)), .val (.int (Int32.ofNat len)), .val .null, .val (.ref s.heap.size)] [.int (Int32.ofNat N.slots.size), .ref s.heap.size, .ref a])) rfl (by rw [hml]; rfl) c10 (argsL := [.ref s.heap.size, .int (Int32.ofNat N.slots.size)]) (rest := [.ref a]) rfl rfl (by show 2 * 0 + (1 + 0) ≤ _; decide) (hb hbytes d45) (⟨rfl, n1⟩)
  obtain ⟨rfl, q11⟩ := E11
  have hB11 := hB1.mv (X8.warmed.alike.symm.trans X11.warmed.alike) q11
  have c12 : Steps p.tables e below (s₁.setTop (entryFrame m #[.ref a, .ref b, .int (Int32.ofNat o), .int (Int32.ofNat len), .null] 6)) (T11.setTop (mkF m 48 #[.val (.ref a), .val (.ref b), .val (.int (Int32.ofNat o)), .val (.int (Int32.ofNat len)), .val .null, .val (.ref s.heap.size)] [.int 0, .ref a])) := g11
  obtain ⟨T13, X13, p13, bl13, sl13, st13⟩ := X11.finit hexec hown (wk W (.fieldLink "java/lang/String" 15 "java/lang/String" "coder" "B")) (Or.inr ⟨_, (wk W (.laysFinal "java/lang/String" "java/lang/String" "coder" "B"))⟩) (Or.inl ⟨rfl, hnm⟩) f2 (Or.inl rfl) hB11 (t := .byte) (by decide +kernel) rfl (g := (mkF m 48 #[.val (.ref a), .val (.ref b), .val (.int (Int32.ofNat o)), .val (.int (Int32.ofNat len)), .val .null, .val (.ref s.heap.size)] [.int 0, .ref a])) rfl (rest := []) rfl (hb hbytes d48)
  have c14 : Steps p.tables e below (s₁.setTop (entryFrame m #[.ref a, .ref b, .int (Int32.ofNat o), .int (Int32.ofNat len), .null] 6)) (T13.setTop (mkF m 54 #[.val (.ref a), .val (.ref b), .val (.int (Int32.ofNat o)), .val (.int (Int32.ofNat len)), .val .null, .val (.ref s.heap.size)] [.ref s.heap.size, .ref a])) := (c12.trans (st13 _ (Steps.refl _))).trans (by
    refine XS.aloadN X13.here hexec rfl (hb hbytes d51) rfl rfl ?_
    refine XS.aload X13.here hexec rfl (hb hbytes d52) rfl rfl ?_
    exact Steps.refl _)
  obtain ⟨T15, X15, p15, bl15, sl15, st15⟩ := X13.finit hexec hown (wk W (.fieldLink "java/lang/String" 9 "java/lang/String" "value" "[B")) (Or.inr ⟨_, (wk W (.laysFinal "java/lang/String" "java/lang/String" "value" "[B"))⟩) (Or.inl ⟨rfl, hnm⟩) f1 (Or.inl rfl) bl13 (t := (.array .byte)) (by decide +kernel) rfl (g := (mkF m 54 #[.val (.ref a), .val (.ref b), .val (.int (Int32.ofNat o)), .val (.int (Int32.ofNat len)), .val .null, .val (.ref s.heap.size)] [.ref s.heap.size, .ref a])) rfl (rest := []) rfl (hb hbytes d54)
  have c16 : Steps p.tables e below (s₁.setTop (entryFrame m #[.ref a, .ref b, .int (Int32.ofNat o), .int (Int32.ofNat len), .null] 6)) (T15.setTop (mkF m 57 #[.val (.ref a), .val (.ref b), .val (.int (Int32.ofNat o)), .val (.int (Int32.ofNat len)), .val .null, .val (.ref s.heap.size)] [])) := c14.trans (st15 _ (Steps.refl _))
  have ap := apart (Or.inr ⟨_, (wk W (.laysFinal "java/lang/String" "java/lang/String" "value" "[B"))⟩) (Or.inr ⟨_, (wk W (.laysFinal "java/lang/String" "java/lang/String" "coder" "B"))⟩) f1 f2 (t₁ := .array .byte) (t₂ := .byte) (by decide +kernel) (by decide +kernel) (by decide)
  have al := X8.warmed.alike.symm.trans X15.warmed.alike
  have n7 : T11.heap[s.heap.size]? = some N := by rw [q11]; exact n1.1
  exact ⟨T15, none, _, _, _, X15, by simp, rfl, by omega, (fun _ => rfl), ⟨rfl, _, N, bl15, ((Same.refl D _).set _ (by simp)).set _ (by simp), sl15, (Cell.slots_setSlot_ne _ ap).trans sl13, n1.keep al (p15.other hne (p13.other hne n7)), n2, by rw [al.findClass]; exact n3, n4, n5, fun y c h1 h2 => p15.other h1 (p13.other h1 (by rw [q11]; exact n6 y c h2)), by rw [p15.2.2, p13.2.2, q11]; exact z8⟩, fun fs hl => c16.trans (X15.returnOut hexec hret (hb hbytes d57) hl)⟩
end New4
namespace New1
def yN : MethodName := ⟨"java/lang/String", "<init>", "([C)V"⟩
abbrev yB : ByteArray := jdk_42_method_3_code
theorem d0 : decode yB 0 = .ok (.aload_n 0, 1) := by decide +kernel
theorem d1 : decode yB 1 = .ok (.aload_n 1, 1) := by decide +kernel
theorem d2 : decode yB 2 = .ok (.iconst 0, 1) := by decide +kernel
theorem d3 : decode yB 3 = .ok (.aload_n 1, 1) := by decide +kernel
theorem d4 : decode yB 4 = .ok (.arraylength, 1) := by decide +kernel
theorem d5 : decode yB 5 = .ok (.aconst_null, 1) := by decide +kernel
theorem d6 : decode yB 6 = .ok (.invokespecial 27, 3) := by decide +kernel
theorem d9 : decode yB 9 = .ok (.return_, 1) := by decide +kernel
def site : List Cond := [New4.tab] ++ initW "java/lang/String" 27 New4.yN
def tab : Cond := tabOf yN yB 2 none site
def P (a : Addr) (D : Cell) (fV fC : Field) (b : Addr) (A : Cell) (z : Int32) (args : Array Value) (s : State) : Prop := args = #[.ref a, .ref b] ∧ Blank "java/lang/String" a D s ∧ Found "java/lang/String" "value" "[B" fV s ∧ Found "java/lang/String" "coder" "B" fC s ∧ Ch b A s ∧ StaticIs s "java/lang/String" "COMPACT_STRINGS" "Z" (.int z) ∧ ¬ z = 0 ∧ 0 < A.slots.size ∧ A.slots.size ≤ 536870912 ∧ ∀ i, i < A.slots.size → ¬ 255 < cv A i
def E (a : Addr) (D : Cell) (fV fC : Field) (A : Cell) (r : Option Value) (s u : State) : Prop := Got a D fV fC A 0 A.slots.size r s u
/-- new String(chars), not empty, no char above 255: a Latin-1 String of their low bytes -/
theorem law (l : Launch) (a : Addr) (D : Cell) (fV fC : Field) (b : Addr) (A : Cell) (z : Int32) : Law l yN 2 1 3 52 yB 2 none site (P a D fV fC b A z) (E a D fV fC A) [⟨a, fC.slot⟩, ⟨a, fV.slot⟩] 1 A.slots.size := by
  refine Law.of_walk (plainFor_of_name (by decide +kernel)) (by decide +kernel) (by decide +kernel) (by decide) (fun _ _ h => by rw [h.1]; rfl) (fun _ U U' hal hh h => ⟨h.1, h.2.1.mv hal hh, h.2.2.1.al hal, h.2.2.2.1.al hal, h.2.2.2.2.1.mv hal hh, h.2.2.2.2.2.1.there hal hh, h.2.2.2.2.2.2⟩) (fun r U U' V V' h1 hal h2 h => Got.mv r U U' V V' h1 hal h2 h) ?_
  intro p e s m args below meth c s₁ X0 hexec hbytes hml hret hlk hnm hown hh0 W hP
  obtain ⟨rfl, hB, f1, f2, hA, s1, hz, l0, l2, hp⟩ := hP
  have c1 : Steps p.tables e below (s₁.setTop (entryFrame m #[.ref a, .ref b] 2)) (s₁.setTop (mkF m 0 #[.val (.ref a), .val (.ref b)] [])) := entry rfl
  have c2 : Steps p.tables e below (s₁.setTop (entryFrame m #[.ref a, .ref b] 2)) (s₁.setTop (mkF m 6 #[.val (.ref a), .val (.ref b)] [.null, .int (Int32.ofNat A.slots.size), .int 0, .ref b, .ref a])) := c1.trans (by
    refine XS.aloadN X0.here hexec rfl (hb hbytes d0) rfl rfl ?_
    refine XS.aloadN X0.here hexec rfl (hb hbytes d1) rfl rfl ?_
    refine iconstV X0.here hexec rfl 0 (hb hbytes d2) (by decide) ?_
    refine XS.aloadN X0.here hexec rfl (hb hbytes d3) rfl rfl ?_
    refine X0.alen hexec (hA.1.mv X0.warmed.alike hh0) rfl rfl (hb hbytes d4) ?_
    refine XS.aconstNull X0.here hexec rfl (hb hbytes d5) ?_
    exact Steps.refl _)
  obtain ⟨v3, T3, X3, E3, g3⟩ := X0.callN hexec (New4.law l a D fV fC b A z 0 A.slots.size) rfl hown (wks W (initW "java/lang/String" 27 New4.yN)) (W New4.tab (by simp only [site, List.mem_cons, List.mem_append, true_or, or_true])) (W := 0) (Nat.le_of_ble_eq_true rfl) (Nat.le_of_ble_eq_true rfl) (Nat.le_refl _) (by show 0 + A.slots.size ≤ A.slots.size; omega) (g := (mkF m 6 #[.val (.ref a), .val (.ref b)] [.null, .int (Int32.ofNat A.slots.size), .int (Int32.ofNat 0), .ref b, .ref a])) rfl (by rw [hml]; rfl) c2 (argsL := [.ref b, .int (Int32.ofNat 0), .int (Int32.ofNat A.slots.size), .null]) (rest := []) rfl rfl (by show 2 * 0 + 0 ≤ _; decide) (hb hbytes d6) (⟨rfl, hB.mv X0.warmed.alike hh0, f1.al X0.warmed.alike, f2.al X0.warmed.alike, hA.mv X0.warmed.alike hh0, s1.there X0.warmed.alike hh0, hz, l0, by omega, l2, fun i hi => by rw [Nat.zero_add]; exact hp i hi⟩)
  have e0 := Got.mv _ s₁ s _ _ hh0.symm (Vm.Alike.refl _) rfl E3
  obtain rfl := e0.1
  have c4 : Steps p.tables e below (s₁.setTop (entryFrame m #[.ref a, .ref b] 2)) (T3.setTop (mkF m 9 #[.val (.ref a), .val (.ref b)] [])) := g3
  exact ⟨T3, none, _, _, _, X3, by simp, rfl, by omega, (fun _ => rfl), e0, fun fs hl => c4.trans (X3.returnOut hexec hret (hb hbytes d9) hl)⟩
theorem pays {l : Launch} {R : Room} {p : Program} {e : Env} {below : List Frame} {s : State} {sargs : Array Value} {len W : Nat} (a : Addr) (D : Cell) (fV fC : Field) (b : Addr) (A : Cell) (z : Int32) (htab : tab.before sargs s = true) (hfr : 4 ≤ R.frames) (hlo : W + 65 ≤ R.locals) :
    Back l R p e below s sargs yN len W (fun A₁ a₁ => A₁.cells + 1 ≤ R.cells ∧ A₁.slots + A.slots.size ≤ R.slots ∧ P a D fV fC b A z a₁ A₁.U) (fun A₁ _ v₁ B₁ => E a D fV fC A v₁ A₁.U B₁.U ∧ B₁.locs = A₁.locs ++ [⟨a, fC.slot⟩, ⟨a, fV.slot⟩] ∧ B₁.cells = A₁.cells + 1 ∧ B₁.slots = A₁.slots + A.slots.size) :=
  (law l a D fV fC b A z).pays htab hfr (by omega)
end New1
end StrChars
namespace StrChars.Road
open Jvm Sem ClassFile Op Lib Jvm.Stand Jvm.Free Jvm.Free.XT
open Jvm.Lib.Cold (StaticIs)
abbrev ST : String := "java/lang/String"
/-- every table word that New1's law asks, flat -/
abbrev words : List Jvm.Cond := [.code New1.yN New1.yB 2 none, .initialized ST, .methodLink ST 27 New4.yN, .instanceMethod New4.yN,
  .code New4.yN New4.yB 6 none, .fieldLink ST 38 ST "COMPACT_STRINGS" "Z", .laysFinal ST ST "value" "[B", .fieldLink ST 9 ST "value" "[B", .laysFinal ST ST "coder" "B", .fieldLink ST 15 ST "coder" "B",
  .methodLink ST 1 Lib.objectInit, .instanceMethod Lib.objectInit, .code Lib.objectInit ⟨#[0xb1]⟩ 1 none, .methodLink ST 177 Cmp3.yN, .static Cmp3.yN, .methodLink ST 47 CodL.yN, .static CodL.yN,
  .code Cmp3.yN Cmp3.yB 6 (some (.array .byte)), .initialized U16, .arrayClass .byte, .methodLink U16 115 Cmp5.yN, .static Cmp5.yN, .code Cmp5.yN Cmp5.yB 7 (some .int), .code CodL.yN CodL.yB 2 (some .byte)]
theorem tab_of {a : Array Value} {s : State} (h : ∀ w ∈ words, w.before a s = true) : New1.tab.before a s = true := by
  have h5 : Cmp5.tab.before a s = true := unparts (wk h (.code Cmp5.yN Cmp5.yB 7 (some .int))) (wks h (.initialized Cmp5.yN.cls :: Cmp5.site))
  have hc : CodL.tab.before a s = true := unparts (wk h (.code CodL.yN CodL.yB 2 (some .byte))) (wks h (.initialized CodL.yN.cls :: CodL.site))
  have q5 : ∀ w ∈ Cmp5.tab :: words, w.before a s = true := fun w hw => (List.mem_cons.mp hw).elim (fun e => e ▸ h5) (h w)
  have h3 : Cmp3.tab.before a s = true := unparts (wk q5 (.code Cmp3.yN Cmp3.yB 6 (some (.array .byte)))) (wks q5 (.initialized Cmp3.yN.cls :: Cmp3.site))
  have q3 : ∀ w ∈ Cmp3.tab :: CodL.tab :: words, w.before a s = true := fun w hw => (List.mem_cons.mp hw).elim (fun e => e ▸ h3) fun hw => (List.mem_cons.mp hw).elim (fun e => e ▸ hc) (h w)
  have h4 : New4.tab.before a s = true := unparts (wk q3 (.code New4.yN New4.yB 6 none)) (wks q3 (.initialized New4.yN.cls :: New4.site))
  have q4 : ∀ w ∈ New4.tab :: words, w.before a s = true := fun w hw => (List.mem_cons.mp hw).elim (fun e => e ▸ h4) (h w)
  exact unparts (wk q4 (.code New1.yN New1.yB 2 none)) (wks q4 (.initialized New1.yN.cls :: New1.site))
/-- the words ride from the start Z to the walk's own state -/
theorem moved {Z s : State} {a0 args : Array Value} (hZ : Z.Warmed39 s.vm) (hw : ∀ d ∈ words, d.before a0 Z = true) : ∀ d ∈ words, d.before args s = true := fun d hd => by
  have q := hw d hd
  have t : ∀ d ∈ words, d = .arrayClass .byte ∨ (d.onTables && d.keepsFace) = true := by decide +kernel
  rcases t d hd with rfl | t
  · exact RoadKit.mvA hZ q
  · exact RoadKit.mv hZ q t
/-- WHAT COMES BACK, over the tables of the start Z: h the heap at the call, h' behind it -/
def Q (Z : State) (x : Addr) (A : Cell) (h : Heap) (v : Option Value) (h' : Heap) (L : List Loc) : Prop := v = none ∧ (∀ y ∈ L, y.base = x) ∧ RoadKit.Keep h h' [x] ∧ h'.size = h.size + 1 ∧ RoadKit.Exa Z h' x ST ∧ RoadKit.Fld Z h' x ST "value" "[B" (.ref h.size) ∧ RoadKit.Fld Z h' x ST "coder" "B" (.int 0) ∧
  (∃ V : Cell, RoadKit.Arr Z h' h.size V .byte ∧ V.vm = .none ∧ Z.vm.findClass "[B" = some V.cls ∧ V.slots.size = A.slots.size ∧ ∀ j, j < A.slots.size → V.slots[j]? = some (.int (lo8 (cv A j)))) ∧
  ∀ (O n d : String) (w : Value), RoadKit.Fld Z h x O n d w → RoadKit.slotOf Z O n d ≠ RoadKit.slotOf Z ST "value" "[B" → RoadKit.slotOf Z O n d ≠ RoadKit.slotOf Z ST "coder" "B" → RoadKit.Fld Z h' x O n d w
/-- **new String(chars) AT A CALL, IN THE ROAD'S FORM**: for specialBack behind newO: x the fresh String, b the char[] with the cell A -/
theorem back {p : Program} {l : Launch} {e : Env} {R : Room} {s : State} {args : Array Value} {below : List Frame} {len W : Nat} {Z : State} {a0 : Array Value} {h : Heap} (hZ : Z.Warmed39 s.vm) (hw : ∀ d ∈ words, d.before a0 Z = true) {kI : Nat} (wi : (Jvm.Cond.instantiable ST kI).before a0 Z = true)
    {x b : Addr} {A : Cell} {z : Int32} {v0 c0 : Value} (E : RoadKit.Exa Z h x ST) (V : RoadKit.Fld Z h x ST "value" "[B" v0) (C : RoadKit.Fld Z h x ST "coder" "B" c0) (K : RoadKit.Arr Z h b A .char) (hty : Typed .char A) (S : RoadKit.Sta Z h ST "COMPACT_STRINGS" "Z" (.int z)) (hz : ¬ z = 0)
    (l0 : 0 < A.slots.size) (l2 : A.slots.size ≤ 536870912) (hp : ∀ i, i < A.slots.size → ¬ 255 < cv A i) (hfr : 4 ≤ R.frames) (hlo : W + 65 ≤ R.locals) :
    Back l R p e below s args New1.yN len W (fun P a => a = #[.ref x, .ref b] ∧ P.U.heap = h ∧ P.cells + 1 ≤ R.cells ∧ P.slots + A.slots.size ≤ R.slots)
      (fun P _ v B => ∃ L, Q Z x A h v B.U.heap L ∧ B.locs = P.locs ++ L ∧ B.cells = P.cells + 1 ∧ B.slots = P.slots + A.slots.size) := by
  intro m meth c P g ig mk a X hg hsize hdg hW hn hp'
  obtain ⟨rfl, rfl, r1, r2⟩ := hp'
  have al : Z.vm.Alike P.U.vm := hZ.alike.trans X.warmed.alike
  obtain ⟨D, cfV, kV, iV, fV, hD, gV, stV, knV, obV, asV, slV⟩ := id V
  obtain ⟨D', cfC, kC, iC, fC, hD', gC, stC, -, -, asC, slC⟩ := id C
  cases hD.symm.trans hD'
  obtain ⟨D2, kD, e1, e2, e3, e4, e5⟩ := id E
  cases hD.symm.trans e1
  obtain ⟨c2, k2, i1, i2, i3, -⟩ := Cond.instantiable_spec wi
  cases e2.symm.trans i1
  cases e3.symm.trans i2
  obtain ⟨kU, u1, u2⟩ := al.2.2 _ _ e3
  have hB : Blank ST x D P.U := ⟨hD, ⟨knV, fun q hq => by rw [hq] at obV; cases obV⟩, by rw [al.findClass]; exact e2, kU, u1, by rw [u2]; exact i3, by rw [u2]; exact e5 i3⟩
  have F1 : Found ST "value" "[B" fV P.U := ⟨SBG.found_only al ⟨cfV, kV, iV, gV⟩, stV⟩
  have F2 : Found ST "coder" "B" fC P.U := ⟨SBG.found_only al ⟨cfC, kC, iC, gC⟩, stC⟩
  have hA : Ch b A P.U := ⟨⟨K.1, State.isArrayOf_alike al K.2.1, K.2.2, by omega⟩, hty⟩
  have hS : StaticIs P.U ST "COMPACT_STRINGS" "Z" (.int z) := by
    obtain ⟨cfS, iS, kS, fS, st, cS, t1, t2, t3, t4, t5, t6, t7⟩ := S
    exact StaticIs.there (s := { Z with heap := P.U.heap }) ⟨cfS, iS, kS, fS, st, cS, t1, t2, t3, t4, t5, (fun q => by rw [q] at t6; cases t6), t7⟩ al rfl
  obtain ⟨v, B, X', ⟨⟨hv, E', V', q1, q2, q3, q4, q5, q6, q7, q8, q9, q10, q11⟩, hl, hc, hs⟩, st⟩ := New1.pays x D fV fC b A z (tab_of (moved hZ hw)) hfr hlo m meth c P g ig mk _ X hg hsize hdg hW hn ⟨r1, r2, rfl, hB, F1, F2, hA, hS, hz, l0, l2, hp⟩
  have al' : Z.vm.Alike B.U.vm := hZ.alike.trans X'.warmed.alike
  have hsz : E'.slots.size = D.slots.size := by
    obtain ⟨-, -, -, kB, w1, w2, w3⟩ := q1
    obtain ⟨kB', y1, y2⟩ := al'.2.2 _ _ e3
    rw [q2.2.1] at w1
    cases w1.symm.trans y1
    rw [w3, e5 i3, y2]
  refine ⟨v, B, X', ⟨_, ⟨hv, ?_, ⟨by omega, fun y cy hy hn' => q10 y cy (by simpa using hn') hy, fun y cy hy => ?_⟩, q11, ⟨E', _, q1.1, by rw [q2.2.1]; exact e2, by rw [q2.2.1]; exact e3, by rw [q2.1]; exact obV, fun _ => by rw [hsz]; exact e5 i3⟩,
    ⟨E', cfV, kV, iV, fV, q1.1, gV, stV, by rw [q2.1]; exact knV, by rw [q2.1]; exact obV, by rw [q2.2.1]; exact asV, q3⟩, ⟨E', cfC, kC, iC, fC, q1.1, gC, stC, by rw [q2.1]; exact knV, by rw [q2.1]; exact obV, by rw [q2.2.1]; exact asC, q4⟩,
    ⟨V', ⟨q5.1, State.isArrayOf_alike al'.symm q5.2.1, q5.2.2.1⟩, q6, by rw [← al'.findClass]; exact q7, q8, fun j hj => by have := q9 j hj; rwa [Nat.zero_add] at this⟩, fun O n d w F n1 n2 => ?_⟩, hl, hc, hs⟩, st⟩
  · intro y hy
    simp only [List.mem_cons, List.not_mem_nil, or_false] at hy
    rcases hy with rfl | rfl <;> rfl
  · by_cases q : y = x
    · subst q
      cases hD.symm.trans hy
      exact ⟨E', q1.1, q2.2.1, q2.1, hsz⟩
    · exact ⟨cy, q10 y cy q hy, rfl, rfl, rfl⟩
  · obtain ⟨D3, cf, k, i, f, g1, g2, g3, g4, g5, g6, g7⟩ := F
    cases hD.symm.trans g1
    simp only [RoadKit.slotOf, g2, gV, gC, Option.map_some, Option.getD_some] at n1 n2
    exact ⟨E', cf, k, i, f, q1.1, g2, g3, by rw [q2.1]; exact g4, by rw [q2.1]; exact g5, by rw [q2.2.1]; exact g6, by rw [q2.2.2 f.slot (by simp [n1, n2])]; exact g7⟩
end StrChars.Road
namespace StrChars.Road
open Jvm Sem ClassFile Op Lib Jvm.Stand Jvm.Free Jvm.Free.XT
/-- WHAT COMES BACK, the byte[] as a list of values -/
def QA (Z : State) (x : Addr) (zn : Int32) (cs : List Int32) (h : Heap) (v : Option Value) (h' : Heap) (L : List Loc) : Prop := v = none ∧ (∀ y ∈ L, y.base = x) ∧ RoadKit.Keep h h' [x] ∧ h'.size = h.size + 1 ∧ RoadKit.Exa Z h' x ST ∧ RoadKit.Fld Z h' x ST "value" "[B" (.ref h.size) ∧ RoadKit.Fld Z h' x ST "coder" "B" (.int 0) ∧
  (∃ kb, Z.vm.findClass "[B" = some kb ∧ RoadKit.Arv Z h' h.size kb .byte zn (cs.map fun c => .int (lo8 c)) (.int 0)) ∧
  ∀ (O n d : String) (w : Value), RoadKit.Fld Z h x O n d w → RoadKit.slotOf Z O n d ≠ RoadKit.slotOf Z ST "value" "[B" → RoadKit.slotOf Z O n d ≠ RoadKit.slotOf Z ST "coder" "B" → RoadKit.Fld Z h' x O n d w
/-- **new String(chars) AT A CALL, THE ARRAYS AS LISTS**: the char[] at b holds cs, not empty, no char above 255 -/
theorem backArv {p : Program} {l : Launch} {e : Env} {R : Room} {s : State} {args : Array Value} {below : List Frame} {len W : Nat} {Z : State} {a0 : Array Value} {h : Heap} (hZ : Z.Warmed39 s.vm) (hw : ∀ d ∈ words, d.before a0 Z = true) {kI : Nat} (wi : (Jvm.Cond.instantiable ST kI).before a0 Z = true)
    {x b : Addr} {k : ClassId} {zn z : Int32} {cs : List Int32} {dv v0 c0 : Value} (E : RoadKit.Exa Z h x ST) (V : RoadKit.Fld Z h x ST "value" "[B" v0) (C : RoadKit.Fld Z h x ST "coder" "B" c0) (K : RoadKit.Arv Z h b k .char zn (cs.map Value.int) dv) (S : RoadKit.Sta Z h ST "COMPACT_STRINGS" "Z" (.int z)) (hz : ¬ z = 0)
    (hlen : zn.toNatClampNeg = cs.length) (h0 : 0 < cs.length) (hbig : cs.length ≤ 536870912) (hall : ∀ c ∈ cs, ¬ 255 < c) (hfr : 4 ≤ R.frames) (hlo : W + 65 ≤ R.locals) :
    Back l R p e below s args New1.yN len W (fun P a => a = #[.ref x, .ref b] ∧ P.U.heap = h ∧ P.cells + 1 ≤ R.cells ∧ P.slots + cs.length ≤ R.slots)
      (fun P _ v B => ∃ L, QA Z x zn cs h v B.U.heap L ∧ B.locs = P.locs ++ L ∧ B.cells = P.cells + 1 ∧ B.slots = P.slots + cs.length) := by
  obtain ⟨A, K1, K2, K3, K4, K5, K6⟩ := K
  have e : A.slots.size = cs.length := K3.trans hlen
  have hat : ∀ (i : Nat) (hi : i < cs.length), A.slots[i]? = some (.int cs[i]) := fun i hi => by rw [K5 i (by omega)]; simp [List.getD_eq_getElem?_getD, hi]
  have hcv : ∀ (i : Nat) (hi : i < cs.length), cv A i = cs[i] := fun i hi => by unfold cv; rw [hat i hi]
  have hty : Typed .char A := fun i v hv => by
    have hi : i < A.slots.size := (Array.getElem?_eq_some_iff.mp hv).1
    have q := K5 i hi
    rw [hv] at q
    rw [Option.some.inj q]
    exact K6 i hi
  refine Back.mono (back hZ hw wi E V C K1 hty S hz (by omega) (by omega) (fun i hi => by rw [hcv i (by omega)]; exact hall _ (List.getElem_mem _)) hfr hlo) (fun P a hp => ⟨hp.1, hp.2.1, hp.2.2.1, by rw [e]; exact hp.2.2.2⟩) (fun P a v B hp hq => ?_)
  obtain ⟨L, ⟨q1, q2, q3, q4, q5, q6, q7, ⟨V', v1, v2, v3, v4, v5⟩, q9⟩, hl, hc, hs⟩ := hq
  refine ⟨L, ⟨q1, q2, q3, q4, q5, q6, q7, ⟨V'.cls, v3, V', v1, rfl, by rw [v4, e, hlen], K4, fun i hi => ?_, fun i hi => ?_⟩, q9⟩, hl, hc, by rw [hs, e]⟩
  · have hi' : i < cs.length := by omega
    rw [v5 i (by omega), hcv i hi']; simp [List.getD_eq_getElem?_getD, hi']
  · have hi' : i < cs.length := by omega
    simp only [List.getD_eq_getElem?_getD, List.getElem?_map, List.getElem?_eq_getElem hi', Option.map_some, Option.getD_some]
    exact fits_lo8 _
end StrChars.Road
namespace StrChars.Road
open Jvm Sem ClassFile Op Lib Jvm.Stand Jvm.Free Jvm.Free.XT
/-- WHAT COMES BACK, in the writer's own shape -/
def QV (Z : State) (x : Addr) (N : Int32) (bs : List Int32) (h : Heap) (n0 : Nat) (v : Option Value) (h' : Heap) (L : List Loc) : Prop := v = none ∧ RoadKit.Fr n0 L ∧ RoadKit.Keep h h' [x] ∧ RoadKit.Exa Z h' x ST ∧ RoadKit.Fld Z h' x ST "coder" "B" (.int 0) ∧
  ∃ (t : Addr) (kb : ClassId), n0 ≤ t ∧ h.size ≤ t ∧ ¬ t = x ∧ RoadKit.Fld Z h' x ST "value" "[B" (.ref t) ∧ RoadKit.Arv Z h' t kb .byte N (bs.map Value.int) (.int 0)
/-- **new String(chars) AT A CALL, FOR THE WRITER**: a char[] of n known ints, each 0 to 255 -/
theorem backV {p : Program} {l : Launch} {e : Env} {R : Room} {s : State} {args : Array Value} {below : List Frame} {len W : Nat} {Z : State} {a0 : Array Value} {h : Heap} (hZ : Z.Warmed39 s.vm) (hw : ∀ d ∈ words, d.before a0 Z = true) {kI : Nat} (wi : (Jvm.Cond.instantiable ST kI).before a0 Z = true)
    {x b : Addr} {kC : ClassId} {cs bs : List Int32} {d v0 c0 : Value} {z N : Int32} {n n0 : Nat} (hx0 : n0 ≤ x) (hh0 : n0 ≤ h.size) (E : RoadKit.Exa Z h x ST) (V : RoadKit.Fld Z h x ST "value" "[B" v0) (C : RoadKit.Fld Z h x ST "coder" "B" c0) (K : RoadKit.Arv Z h b kC .char N (cs.map Value.int) d) (S : RoadKit.Sta Z h ST "COMPACT_STRINGS" "Z" (.int z)) (hz : ¬ z = 0)
    (hn : cs.length = n) (hN : N = Int32.ofNat n) (l0 : 0 < n) (l2 : n ≤ 4000) (hp : ∀ c ∈ cs, ¬ c < 0 ∧ ¬ (255 : Int32) < c) (hb : bs = cs.map (fun c => c.toInt8.toInt32)) (hfr : 4 ≤ R.frames) (hlo : W + 65 ≤ R.locals) :
    Back l R p e below s args (⟨"java/lang/String", "<init>", "([C)V"⟩ : MethodName) len W (fun P a => a = #[.ref x, .ref b] ∧ P.U.heap = h ∧ P.cells + 1 ≤ R.cells ∧ P.slots + n ≤ R.slots)
      (fun P _ v B => ∃ L, QV Z x N bs h n0 v B.U.heap L ∧ B.locs = P.locs ++ L ∧ B.cells = P.cells + 1 ∧ B.slots = P.slots + n) := by
  subst hn hN hb
  refine Back.mono (backArv hZ hw wi E V C K S hz (n32 (by omega)) l0 (by omega) (fun c hc => (hp c hc).2) hfr hlo) (fun P a hp => hp) (fun P a v B hp hq => ?_)
  obtain ⟨L, ⟨q1, q2, q3, q4, q5, q6, q7, ⟨kb, v1, v2⟩, q9⟩, hl, hc, hs⟩ := hq
  exact ⟨L, ⟨q1, fun y hy => by rw [q2 y hy]; exact hx0, q3, q5, q7, h.size, kb, hh0, Nat.le_refl _, Nat.ne_of_gt E.lt, q6, by rw [List.map_map]; exact v2⟩, hl, hc, hs⟩
end StrChars.Road
end Jvm.Pilot.@@N@@

namespace Jvm.Pilot.@@N@@
open Jvm Jvm.ClassFile Sem Op Lib Jvm.Free Jvm.Stand Jvm.LawKit Jvm.RoadKit Bundle Jvm.Pilot.@@N@@.Jvm.D
theorem own_w (i : Nat) {d : Jvm.Cond} (h : tables_1[i]? = some d) : d ∈ tables_1 := List.mem_of_getElem? h
section Own
variable {p : Program} {l : Launch} {e : Env} {R : Room} {s : State} {m : MethodId} {args : Array Value} {below : List Frame} {meth : Method} {c : Code} {T T' : State} {locs : List Loc} {cells slots : Nat} {g g' : JFrame} {P : State → Outcome → Prop}
/-- the run that stands at the frame g over T comes to an end of which P holds -/
def own_Ends (p : Program) (e : Env) (below : List Frame) (P : State → Outcome → Prop) (T : State) (g : JFrame) : Prop := ∃ u o, Steps p.tables e below (T.setTop g) u ∧ P u o
theorem own_via (st : ∀ t, Steps p.tables e below (T'.setTop g') t → Steps p.tables e below (T.setTop g) t) (k : own_Ends p e below P T' g') : own_Ends p e below P T g := by
  obtain ⟨a, b, c, d⟩ := k
  exact ⟨a, b, st _ c, d⟩
theorem own_viaT (st : Steps p.tables e below (T.setTop g) (T'.setTop g')) (k : own_Ends p e below P T' g') : own_Ends p e below P T g := own_via (fun _ k => st.trans k) k
def own_Post (s : State) (below : List Frame) (Q : Option Value → Heap → List Loc → Prop) (C S : Nat) : State → Outcome → Prop := fun u o => u.status = .running ∧ Ended u below o ∧ ∃ v L, o = .returned v ∧ Q v u.heap L ∧ FrameEnd s o u L C S
theorem own_leave (X : Stand p l e R s m args below meth c T locs cells slots) {v : Option Value} {Q : Option Value → Heap → List Loc → Prop} {C S : Nat} (hv : meth.sig.returnType = none → v = none) (hlk : meth.locks = false)
    (hst : ∀ fs, (∀ (f : JFrame) (acts : List Action), f.method = m → f.locked = none → f.entered = [] → (doReturn e (T.setTop f) acts v).1 = T.setFrames fs) → Steps p.tables e below (T.setTop g) (T.setFrames fs))
    (hC : cells ≤ C) (hS : slots ≤ S) (hQ : Q v T.heap locs) : own_Ends p e below (own_Post s below Q C S) T g := by
  obtain ⟨fs, hr, hrun, hended, hW, hsame⟩ := X.leave (v := v) hv hlk
  exact ⟨_, _, hst fs hr, hrun, hended, v, locs, rfl, hQ, ⟨_, rfl⟩, hW, hsame.mono hC hS⟩
theorem own_retV (X : Stand p l e R s m args below meth c T locs cells slots) (hx : p.tables.exec = Jvm.exec) (hlk : meth.locks = false) {Q : Option Value → Heap → List Loc → Prop} {C S : Nat} {pc : Nat} {Ls : Array Slot} (hret : meth.sig.returnType = none) (hd : decode c.code pc = .ok (.return_, 1))
    (hC : cells ≤ C) (hS : slots ≤ S) (hQ : Q none T.heap locs) : own_Ends p e below (own_Post s below Q C S) T (mkF m pc Ls []) :=
  own_leave X (fun _ => rfl) hlk (fun fs hr => X.returnOut hx hret hd hr) hC hS hQ
theorem own_retW (X : Stand p l e R s m args below meth c T locs cells slots) (hx : p.tables.exec = Jvm.exec) (hlk : meth.locks = false) {Q : Option Value → Heap → List Loc → Prop} {C S : Nat} {pc : Nat} {Ls : Array Slot} {w : Value} {t : FieldType} {i : Instr} {rest : List Value} (hret : meth.sig.returnType = some t) (hn : narrow t w = w)
    (hi : (i = .ireturn ∧ (t = .int ∨ t = .boolean ∨ t = .byte ∨ t = .char ∨ t = .short) ∧ ∃ z, w = .int z) ∨ (i = .lreturn ∧ t = .long ∧ ∃ z, w = .long z) ∨ (i = .dreturn ∧ t = .double ∧ ∃ z, w = .double z) ∨ (i = .freturn ∧ t = .float ∧ ∃ z, w = .float z) ∨ (i = .areturn ∧ t.isReference = true ∧ w.isRef = true))
    (hd : decode c.code pc = .ok (i, 1)) (hC : cells ≤ C) (hS : slots ≤ S) (hQ : Q (some w) T.heap locs) : own_Ends p e below (own_Post s below Q C S) T (mkF m pc Ls (w :: rest)) :=
  own_leave X (fun h => by rw [hret] at h; cases h) hlk (fun fs hr => retOut X hx hret hn hi hd hr) hC hS hQ
theorem own_retN (X : Stand p l e R s m args below meth c T locs cells slots) (hx : p.tables.exec = Jvm.exec) (hlk : meth.locks = false) {Q : Option Value → Heap → List Loc → Prop} {C S : Nat} {pc : Nat} {Ls : Array Slot} {z : Int32} {t : FieldType} {rest : List Value} (hret : meth.sig.returnType = some t) (ht : t = .boolean ∨ t = .byte ∨ t = .char ∨ t = .short)
    (hd : decode c.code pc = .ok (.ireturn, 1)) (hC : cells ≤ C) (hS : slots ≤ S) (hQ : Q (some (.int (nar t z))) T.heap locs) : own_Ends p e below (own_Post s below Q C S) T (mkF m pc Ls (.int z :: rest)) :=
  own_leave X (fun h => by rw [hret] at h; cases h) hlk (fun fs hr => retN X hx hret ht hd hr) hC hS hQ
theorem own_le {Z : State} {n0 : Nat} {h : Heap} (O : Old Z n0 h) : n0 ≤ h.size := O.1 ▸ O.2.1
theorem own_same {Z : State} {a0 : Array Value} {y : MethodName} (w : (Cond.declares y).before a0 Z = true) (hnf : NotFace Z y) (hy : y.cls ≠ "java/lang/invoke/MethodHandle" ∧ y.cls ≠ "java/lang/invoke/VarHandle") : (Cond.sameMethod y.cls y.cls y.name y.desc).before a0 Z = true := by
  obtain ⟨r0, r, hn, hrm, hstR, hsigR⟩ := Cond.declares_spec w
  have h := State.methodFound?_of_named hn hy
  obtain ⟨k, hk, hi⟩ := hnf r0 hn
  have hc := findClass_of_methodNamed hn
  have hn' : Z.methodNamed? { cls := y.cls, name := y.name, desc := y.desc } = some r0 := hn
  simp [Cond.before, Cond.holds, Cond.value, h, hc, hn', hk, hi]
theorem own_decl {s : State} {args : Array Value} {y : MethodName} {bytes : ByteArray} {maxL : Nat} {ret : Option FieldType} (wi : (Cond.instanceMethod y).before args s = true) (wc : (Cond.code y bytes maxL ret).before args s = true) : (Cond.declares y).before args s = true := by
  obtain ⟨mk, methM, hnamed, hmethM, hst, habM⟩ := Cond.instanceMethod_spec wi
  obtain ⟨m2, cM, q1, -, -, -, -, -, -, hsig⟩ := Cond.code_spec hnamed wc
  cases hmethM.symm.trans q1
  simp [Cond.before, Cond.holds, Cond.value, hnamed, hmethM, hst, hsig]
theorem own_nf {s : State} {args : Array Value} {C : String} {y z : MethodName} (w : (Cond.selects C z z).before args s = true) (e : z.cls = y.cls) : NotFace s y := fun r0 h0 => by
  obtain ⟨c2, r2, m2, q1, q2, q3, q4, kP, hkP, hkPi⟩ := Cond.selects_spec w
  have h1 := findClass_of_methodNamed h0
  have h2 := findClass_of_methodNamed q3
  rw [e] at h2
  have e2 : r0.cls = m2.cls := Option.some.inj (h1.symm.trans h2)
  exact ⟨kP, by rw [e2]; exact hkP, hkPi⟩
theorem own_shr0 (x : Int32) : x >>> ((0 : Int32) &&& 31) = x := by
  have h := c_ishr x 0 0 (by decide)
  apply Int32.toInt_inj.mp
  rw [h]; simp
theorem own_shl0 (x : Int32) : x <<< ((0 : Int32) &&& 31) = x := by
  have h := c_ishl x 0 0 (by decide)
  have r1 := rng32 x
  have r2 := rng32 (x <<< ((0 : Int32) &&& 31))
  apply Int32.toInt_inj.mp
  rw [show ((2 ^ 0 : Nat) : Int) = 1 from rfl, Int.mul_one] at h
  omega
theorem own_and3 (x : Int32) : x &&& 3 = 0 ∨ x &&& 3 = 1 ∨ x &&& 3 = 2 ∨ x &&& 3 = 3 := by
  have h := c_mask x 3 2 (by decide) (by decide)
  have e0 : (0 : Int32).toInt = 0 := by decide
  have e1 : (1 : Int32).toInt = 1 := by decide
  have e2 : (2 : Int32).toInt = 2 := by decide
  have e3 : (3 : Int32).toInt = 3 := by decide
  simp only [← Int32.toInt_inj]
  simp at h
  omega
theorem own_rb (x : Int32) : ((((x &&& 255).toInt8.toInt32) &&& 255).toUInt32.toUInt16.toUInt32.toInt32) = x &&& 255 := by
  rw [i2c_mask]
  have h1 := c_mask x 255 8 (by decide) (by decide)
  have h2 := c_mask ((x &&& 255).toInt8.toInt32) 255 8 (by decide) (by decide)
  have h3 := c_i2b (x &&& 255)
  apply Int32.toInt_inj.mp
  rw [show ((2 ^ 8 : Nat) : Int) = 256 from rfl] at h1 h2
  omega
theorem own_suff {T' : State} {g' : JFrame} (k : own_Ends p e below P T' g' → own_Ends p e below P T g) (h : own_Ends p e below P T' g') : own_Ends p e below P T g := k h
theorem own_nb0 : nar .boolean 0 = 0 := rfl
theorem own_nb1 : nar .boolean 1 = 1 := rfl
theorem own_nb {b : Int32} (h : b = 0 ∨ b = 1) : nar .boolean b = b := by rcases h with rfl | rfl <;> rfl
end Own
abbrev own_y0 : MethodName := ⟨"java/lang/String", "coder", "()B"⟩
abbrev own_y1 : MethodName := ⟨"jdk/internal/util/Preconditions", "checkIndex", "(IILjava/util/function/BiFunction;)I"⟩
abbrev own_y2 : MethodName := ⟨"java/lang/String", "checkIndex", "(II)V"⟩
abbrev own_y3 : MethodName := ⟨"java/lang/String", "isLatin1", "()Z"⟩
abbrev own_y4 : MethodName := ⟨"java/lang/StringLatin1", "charAt", "([BI)C"⟩
abbrev own_y5 : MethodName := ⟨"java/lang/Record", "<init>", "()V"⟩
abbrev own_y6 : MethodName := ⟨"com/example/nuthatch/nuthatch/EventId", "divide", "([JI)I"⟩
abbrev own_y7 : MethodName := ⟨"java/lang/String", "charAt", "(I)C"⟩
abbrev own_y8 : MethodName := ⟨"com/example/nuthatch/nuthatch/EventIdWritePinLaw", "isBase62", "(B)Z"⟩
abbrev own_y9 : MethodName := ⟨"java/util/Objects", "requireNonNull", "(Ljava/lang/Object;Ljava/lang/String;)Ljava/lang/Object;"⟩
abbrev own_y10 : MethodName := ⟨"java/lang/String", "length", "()I"⟩
abbrev own_y11 : MethodName := ⟨"com/example/nuthatch/nuthatch/EventId", "multiplyAdd", "([JII)J"⟩
abbrev own_y12 : MethodName := ⟨"com/example/nuthatch/nuthatch/EventId", "<init>", "(JJI)V"⟩
abbrev own_y13 : MethodName := ⟨"com/example/nuthatch/nuthatch/EventId", "write", "([BI)V"⟩
abbrev own_y14 : MethodName := ⟨"com/example/nuthatch/nuthatch/EventIdWritePinLaw", "untouched", "([BI)Z"⟩
abbrev own_y15 : MethodName := ⟨"com/example/nuthatch/nuthatch/EventIdWritePinLaw", "take", "([BII[C)Z"⟩
abbrev own_y16 : MethodName := ⟨"com/example/nuthatch/nuthatch/EventIdWritePinLaw", "digitChar", "(I)C"⟩
abbrev own_y17 : MethodName := ⟨"java/lang/String", "<init>", "([C)V"⟩
abbrev own_y18 : MethodName := ⟨"com/example/nuthatch/nuthatch/EventId", "parse", "(Ljava/lang/String;)Lcom/example/nuthatch/nuthatch/EventId;"⟩
abbrev own_y19 : MethodName := ⟨"com/example/nuthatch/nuthatch/EventId", "timeMillis", "()J"⟩
abbrev own_y20 : MethodName := ⟨"com/example/nuthatch/nuthatch/EventId", "worker", "()J"⟩
abbrev own_y21 : MethodName := ⟨"com/example/nuthatch/nuthatch/EventId", "sequence", "()I"⟩
abbrev own_A0 (x0 : Int64) (x2 : Int64) (x4 : Int32) (x5 : Int32) (x6 : Int64) (x8 : Int64) (x10 : Int32) (x11 : Int32) (x12 : Addr) (x13 : Addr) (x14 : Addr) (x15 : Int32) (x16 : Int64) (x18 : Addr) : Array Slot := #[.val (.long x0), .second, .val (.long x2), .second, .val (.int x4), .val (.int x5), .val (.long x6), .second, .val (.long x8), .second, .val (.int x10), .val (.int x11), .val (.ref x12), .val (.ref x13), .val (.ref x14), .val (.int x15), .val (.long x16), .second, .val (.ref x18)]
abbrev own_A1 (x0 : Int64) (x2 : Int64) (x4 : Int32) (x5 : Int32) (x6 : Int64) (x8 : Int64) (x10 : Int32) (x11 : Int32) (x12 : Addr) (x13 : Addr) (x14 : Addr) (x15 : Int32) (x16 : Int64) : Array Slot := #[.val (.long x0), .second, .val (.long x2), .second, .val (.int x4), .val (.int x5), .val (.long x6), .second, .val (.long x8), .second, .val (.int x10), .val (.int x11), .val (.ref x12), .val (.ref x13), .val (.ref x14), .val (.int x15), .val (.long x16), .second, .unset]
abbrev own_A2 (x0 : Int64) (x2 : Int64) (x4 : Int32) (x5 : Int32) (x6 : Int64) (x8 : Int64) (x10 : Int32) (x11 : Int32) (x12 : Addr) (x13 : Addr) (x14 : Addr) (x15 : Int32) : Array Slot := #[.val (.long x0), .second, .val (.long x2), .second, .val (.int x4), .val (.int x5), .val (.long x6), .second, .val (.long x8), .second, .val (.int x10), .val (.int x11), .val (.ref x12), .val (.ref x13), .val (.ref x14), .val (.int x15), .unset, .unset, .unset]
abbrev own_A3 (x0 : Int64) (x2 : Int64) (x4 : Int32) (x5 : Int32) (x6 : Int64) (x8 : Int64) (x10 : Int32) (x11 : Int32) (x12 : Addr) (x13 : Addr) (x14 : Addr) : Array Slot := #[.val (.long x0), .second, .val (.long x2), .second, .val (.int x4), .val (.int x5), .val (.long x6), .second, .val (.long x8), .second, .val (.int x10), .val (.int x11), .val (.ref x12), .val (.ref x13), .val (.ref x14), .unset, .unset, .unset, .unset]
abbrev own_A4 (x0 : Int64) (x2 : Int64) (x4 : Int32) (x5 : Int32) (x6 : Int64) (x8 : Int64) (x10 : Int32) (x11 : Int32) : Array Slot := #[.val (.long x0), .second, .val (.long x2), .second, .val (.int x4), .val (.int x5), .val (.long x6), .second, .val (.long x8), .second, .val (.int x10), .val (.int x11), .unset, .unset, .unset, .unset, .unset, .unset, .unset]
abbrev own_A5 (x0 : Int64) (x2 : Int64) (x4 : Int32) (x5 : Int32) (x6 : Int64) (x8 : Int64) : Array Slot := #[.val (.long x0), .second, .val (.long x2), .second, .val (.int x4), .val (.int x5), .val (.long x6), .second, .val (.long x8), .second, .unset, .unset, .unset, .unset, .unset, .unset, .unset, .unset, .unset]
abbrev own_A6 (x0 : Int64) (x2 : Int64) (x4 : Int32) (x5 : Int32) (x6 : Int64) (x8 : Int64) (x10 : Int32) (x11 : Int32) (x12 : Addr) (x13 : Addr) : Array Slot := #[.val (.long x0), .second, .val (.long x2), .second, .val (.int x4), .val (.int x5), .val (.long x6), .second, .val (.long x8), .second, .val (.int x10), .val (.int x11), .val (.ref x12), .val (.ref x13), .unset, .unset, .unset, .unset, .unset]
abbrev own_A7 (x0 : Int64) (x2 : Int64) (x4 : Int32) (x5 : Int32) (x6 : Int64) (x8 : Int64) (x10 : Int32) : Array Slot := #[.val (.long x0), .second, .val (.long x2), .second, .val (.int x4), .val (.int x5), .val (.long x6), .second, .val (.long x8), .second, .val (.int x10), .unset, .unset, .unset, .unset, .unset, .unset, .unset, .unset]
abbrev own_A8 (x0 : Int64) (x2 : Int64) (x4 : Int32) (x5 : Int32) (x6 : Int64) : Array Slot := #[.val (.long x0), .second, .val (.long x2), .second, .val (.int x4), .val (.int x5), .val (.long x6), .second, .unset, .unset, .unset, .unset, .unset, .unset, .unset, .unset, .unset, .unset, .unset]
abbrev own_A9 (x0 : Int64) (x2 : Int64) (x4 : Int32) (x5 : Int32) (x6 : Int64) (x8 : Int64) (x10 : Int32) (x11 : Int32) (x12 : Addr) : Array Slot := #[.val (.long x0), .second, .val (.long x2), .second, .val (.int x4), .val (.int x5), .val (.long x6), .second, .val (.long x8), .second, .val (.int x10), .val (.int x11), .val (.ref x12), .unset, .unset, .unset, .unset, .unset, .unset]
abbrev own_A10 (x0 : Addr) (x1 : Int32) (x2 : Int32) (x3 : Int64) (x5 : Int32) (x6 : Int64) : Array Slot := #[.val (.ref x0), .val (.int x1), .val (.int x2), .val (.long x3), .second, .val (.int x5), .val (.long x6), .second]
abbrev own_A11 (x0 : Addr) (x1 : Addr) (x2 : Int32) (x3 : Int64) (x5 : Addr) (x6 : Int32) (x7 : Int32) (x8 : Int32) (x9 : Int32) : Array Slot := #[.val (.ref x0), .val (.ref x1), .val (.int x2), .val (.long x3), .second, .val (.ref x5), .val (.int x6), .val (.int x7), .val (.int x8), .val (.int x9)]
abbrev own_A12 (x0 : Addr) (x1 : Int32) (x2 : Int64) (x4 : Int32) (x5 : Int64) : Array Slot := #[.val (.ref x0), .val (.int x1), .val (.long x2), .second, .val (.int x4), .val (.long x5), .second]
abbrev own_A13 (x0 : Addr) (x1 : Addr) (x2 : Int32) (x3 : Int64) : Array Slot := #[.val (.ref x0), .val (.ref x1), .val (.int x2), .val (.long x3), .second, .unset, .unset, .unset, .unset, .unset]
abbrev own_A14 (x0 : Addr) (x1 : Addr) (x2 : Int64) (x4 : Int32) : Array Slot := #[.val (.ref x0), .val (.ref x1), .val (.long x2), .second, .val (.int x4), .unset]
abbrev own_A15 (x0 : Addr) (x1 : Addr) (x2 : Int32) (x3 : Int32) (x4 : Int32) : Array Slot := #[.val (.ref x0), .val (.ref x1), .val (.int x2), .val (.int x3), .val (.int x4), .unset]
abbrev own_A16 (x0 : Addr) (x1 : Addr) (x2 : Int32) (x3 : Int64) (x5 : Addr) (x6 : Int32) : Array Slot := #[.val (.ref x0), .val (.ref x1), .val (.int x2), .val (.long x3), .second, .val (.ref x5), .val (.int x6), .unset, .unset, .unset]
abbrev own_A17 (x0 : Addr) (x1 : Addr) (x2 : Int32) (x3 : Int64) (x5 : Addr) (x6 : Int32) (x7 : Int32) : Array Slot := #[.val (.ref x0), .val (.ref x1), .val (.int x2), .val (.long x3), .second, .val (.ref x5), .val (.int x6), .val (.int x7), .unset, .unset]
abbrev own_A18 (x0 : Addr) (x1 : Addr) (x2 : Int64) (x4 : Int64) : Array Slot := #[.val (.ref x0), .val (.ref x1), .val (.long x2), .second, .val (.long x4), .second]
abbrev own_A19 (x0 : Addr) (x1 : Int32) (x2 : Int32) (x3 : Int64) (x5 : Int32) : Array Slot := #[.val (.ref x0), .val (.int x1), .val (.int x2), .val (.long x3), .second, .val (.int x5), .unset, .unset]
abbrev own_A20 (x0 : Addr) (x1 : Addr) (x2 : Int32) : Array Slot := #[.val (.ref x0), .val (.ref x1), .val (.int x2), .unset, .unset, .unset, .unset, .unset, .unset, .unset]
abbrev own_A21 (x0 : Addr) (x1 : Addr) (x2 : Int32) (x3 : Int32) : Array Slot := #[.val (.ref x0), .val (.ref x1), .val (.int x2), .val (.int x3), .unset, .unset]
abbrev own_A22 (x0 : Addr) (x1 : Int32) (x2 : Int64) (x4 : Int32) : Array Slot := #[.val (.ref x0), .val (.int x1), .val (.long x2), .second, .val (.int x4), .unset, .unset]
abbrev own_A23 (x0 : Addr) (x1 : Int64) (x3 : Int64) (x5 : Int32) : Array Slot := #[.val (.ref x0), .val (.long x1), .second, .val (.long x3), .second, .val (.int x5)]
abbrev own_A24 (x0 : Addr) (x1 : Int32) (x2 : Int32) (x3 : Addr) (x4 : Int32) : Array Slot := #[.val (.ref x0), .val (.int x1), .val (.int x2), .val (.ref x3), .val (.int x4)]
abbrev own_A25 (x0 : Addr) (x1 : Int32) (x2 : Int32) (x3 : Addr) : Array Slot := #[.val (.ref x0), .val (.int x1), .val (.int x2), .val (.ref x3), .unset]
abbrev own_A26 (x0 : Addr) (x1 : Addr) (x2 : Int32) : Array Slot := #[.val (.ref x0), .val (.ref x1), .val (.int x2), .unset, .unset, .unset]
abbrev own_A27 (x0 : Addr) : Array Slot := #[.val (.ref x0), .unset, .unset, .unset, .unset, .unset]
theorem own_pd0 : parseMethodDescriptor "()B" = some ⟨[], some .byte⟩ := by decide +kernel
theorem own_pd1 : parseMethodDescriptor "(IILjava/util/function/BiFunction;)I" = some ⟨[.int, .int, (.object "java/util/function/BiFunction")], some .int⟩ := by decide +kernel
theorem own_pd2 : parseMethodDescriptor "(II)V" = some ⟨[.int, .int], none⟩ := by decide +kernel
theorem own_pd3 : parseMethodDescriptor "()Z" = some ⟨[], some .boolean⟩ := by decide +kernel
theorem own_pd4 : parseMethodDescriptor "([BI)C" = some ⟨[(.array .byte), .int], some .char⟩ := by decide +kernel
theorem own_pd5 : parseMethodDescriptor "()V" = some ⟨[], none⟩ := by decide +kernel
theorem own_pd6 : parseMethodDescriptor "([JI)I" = some ⟨[(.array .long), .int], some .int⟩ := by decide +kernel
theorem own_pd7 : parseMethodDescriptor "(I)C" = some ⟨[.int], some .char⟩ := by decide +kernel
theorem own_pd8 : parseMethodDescriptor "(B)Z" = some ⟨[.byte], some .boolean⟩ := by decide +kernel
theorem own_pd9 : parseMethodDescriptor "(Ljava/lang/Object;Ljava/lang/String;)Ljava/lang/Object;" = some ⟨[(.object "java/lang/Object"), (.object "java/lang/String")], some (.object "java/lang/Object")⟩ := by decide +kernel
theorem own_pd10 : parseMethodDescriptor "()I" = some ⟨[], some .int⟩ := by decide +kernel
theorem own_pd11 : parseMethodDescriptor "([JII)J" = some ⟨[(.array .long), .int, .int], some .long⟩ := by decide +kernel
theorem own_pd12 : parseMethodDescriptor "(JJI)V" = some ⟨[.long, .long, .int], none⟩ := by decide +kernel
theorem own_pd13 : parseMethodDescriptor "([BI)V" = some ⟨[(.array .byte), .int], none⟩ := by decide +kernel
theorem own_pd14 : parseMethodDescriptor "([BI)Z" = some ⟨[(.array .byte), .int], some .boolean⟩ := by decide +kernel
theorem own_pd15 : parseMethodDescriptor "([BII[C)Z" = some ⟨[(.array .byte), .int, .int, (.array .char)], some .boolean⟩ := by decide +kernel
theorem own_pd16 : parseMethodDescriptor "([C)V" = some ⟨[(.array .char)], none⟩ := by decide +kernel
theorem own_pd17 : parseMethodDescriptor "(Ljava/lang/String;)Lcom/example/nuthatch/nuthatch/EventId;" = some ⟨[(.object "java/lang/String")], some (.object "com/example/nuthatch/nuthatch/EventId")⟩ := by decide +kernel
theorem own_pd18 : parseMethodDescriptor "()J" = some ⟨[], some .long⟩ := by decide +kernel
section OwnWords
variable {args : Array Value} {first s : State} {o : Option Outcome} {idx : List Nat}
theorem own_eqI {a : Term} {k : Int32} (h : (Cond.eq a (.int k)).value args first o s idx = some true) : a.eval args first o idx s = some (.int k) := by
  simp only [Cond.value, Term.eval] at h
  cases ha : a.eval args first o idx s with
  | none => simp [ha] at h
  | some x => cases x <;> simp [ha] at h ⊢ <;> exact h
theorem own_eqR {a b : Term} {y : Addr} (h : (Cond.eq a b).value args first o s idx = some true) (hb : b.eval args first o idx s = some (.ref y)) : a.eval args first o idx s = some (.ref y) := by
  simp only [Cond.value, hb] at h
  cases ha : a.eval args first o idx s with
  | none => simp [ha] at h
  | some x => cases x <;> simp [ha] at h ⊢ <;> exact h
end OwnWords

theorem own_dom1 {D : List Int32} {P : Int32 → Prop} (h : ∀ q ∈ D, P q) {z : Int32} (hz : z ∈ D) : P z := h _ hz
theorem own_dom2 {D : List (Int32 × Int32)} {P : Int32 → Int32 → Prop} (h : ∀ q ∈ D, P q.1 q.2) {n z : Int32} (hz : (n, z) ∈ D) : P n z := h _ hz

section OwnWide
variable {p : Program} {l : Launch} {e : Env} {R : Room} {s : State} {vm0 vm1 : Vm} {m : MethodId} {args : Array Value} {below : List Frame} {meth : Method} {c : Code} {T : State} {locs : List Loc} {cells slots : Nat} {g : JFrame} {Z : State} {EL : List (String × Nat)} {h h0 : Heap} {vm : Vm}
def own_PostW (s : State) (below : List Frame) (Q : Option Value → Heap → List Loc → Prop) (R' : State → Prop) (C S : Nat) : State → Outcome → Prop := fun u o => u.status = .running ∧ Ended u below o ∧ ∃ v L, o = .returned v ∧ Q v u.heap L ∧ R' u ∧ ReturnedEndW s o u L C S
theorem own_leaveW (X : Stand p l e R (s.setVm vm0) m args below meth c T locs cells slots) {n : Nat} (hS : s.Since vm0 n) (hn : n ≤ T.heap.size) {v : Option Value} {Q : Option Value → Heap → List Loc → Prop} {R' : State → Prop} {C S : Nat} (hv : meth.sig.returnType = none → v = none) (hlk : meth.locks = false)
    (hst : ∀ fs, (∀ (f : JFrame) (acts : List Action), f.method = m → f.locked = none → f.entered = [] → (doReturn e (T.setTop f) acts v).1 = T.setFrames fs) → Steps p.tables e below (T.setTop g) (T.setFrames fs))
    (hC : cells ≤ C) (hSl : slots ≤ S) (hR : ∀ fs, R' (T.setFrames fs)) (hQ : Q v T.heap locs) : own_Ends p e below (own_PostW s below Q R' C S) T g := by
  obtain ⟨fs, hr, hrun, hended, h1, h2, h3, h4⟩ := X.leaveW hS hn (v := v) hv hlk
  exact ⟨_, _, hst fs hr, hrun, hended, v, locs, rfl, hQ, hR fs, ⟨_, rfl⟩, h2, h3, h4.mono hC hSl⟩
theorem own_retVW (X : Stand p l e R (s.setVm vm0) m args below meth c T locs cells slots) {n : Nat} (hS : s.Since vm0 n) (hn : n ≤ T.heap.size) (hx : p.tables.exec = Jvm.exec) (hlk : meth.locks = false) {Q : Option Value → Heap → List Loc → Prop} {R' : State → Prop} {C S : Nat} {pc : Nat} {Ls : Array Slot} (hret : meth.sig.returnType = none) (hd : decode c.code pc = .ok (.return_, 1))
    (hC : cells ≤ C) (hSl : slots ≤ S) (hR : ∀ fs, R' (T.setFrames fs)) (hQ : Q none T.heap locs) : own_Ends p e below (own_PostW s below Q R' C S) T (mkF m pc Ls []) :=
  own_leaveW X hS hn (fun _ => rfl) hlk (fun fs hr => X.returnOut hx hret hd hr) hC hSl hR hQ
theorem own_retWW (X : Stand p l e R (s.setVm vm0) m args below meth c T locs cells slots) {n : Nat} (hS : s.Since vm0 n) (hn : n ≤ T.heap.size) (hx : p.tables.exec = Jvm.exec) (hlk : meth.locks = false) {Q : Option Value → Heap → List Loc → Prop} {R' : State → Prop} {C S : Nat} {pc : Nat} {Ls : Array Slot} {w : Value} {t : FieldType} {i : Instr} {rest : List Value} (hret : meth.sig.returnType = some t) (hn' : narrow t w = w)
    (hi : (i = .ireturn ∧ (t = .int ∨ t = .boolean ∨ t = .byte ∨ t = .char ∨ t = .short) ∧ ∃ z, w = .int z) ∨ (i = .lreturn ∧ t = .long ∧ ∃ z, w = .long z) ∨ (i = .dreturn ∧ t = .double ∧ ∃ z, w = .double z) ∨ (i = .freturn ∧ t = .float ∧ ∃ z, w = .float z) ∨ (i = .areturn ∧ t.isReference = true ∧ w.isRef = true))
    (hd : decode c.code pc = .ok (i, 1)) (hC : cells ≤ C) (hSl : slots ≤ S) (hR : ∀ fs, R' (T.setFrames fs)) (hQ : Q (some w) T.heap locs) : own_Ends p e below (own_PostW s below Q R' C S) T (mkF m pc Ls (w :: rest)) :=
  own_leaveW X hS hn (fun h => by rw [hret] at h; cases h) hlk (fun fs hr => retOut X hx hret hn' hi hd hr) hC hSl hR hQ
theorem own_retNW (X : Stand p l e R (s.setVm vm0) m args below meth c T locs cells slots) {n : Nat} (hS : s.Since vm0 n) (hn : n ≤ T.heap.size) (hx : p.tables.exec = Jvm.exec) (hlk : meth.locks = false) {Q : Option Value → Heap → List Loc → Prop} {R' : State → Prop} {C S : Nat} {pc : Nat} {Ls : Array Slot} {z : Int32} {t : FieldType} {rest : List Value} (hret : meth.sig.returnType = some t) (ht : t = .boolean ∨ t = .byte ∨ t = .char ∨ t = .short)
    (hd : decode c.code pc = .ok (.ireturn, 1)) (hC : cells ≤ C) (hSl : slots ≤ S) (hR : ∀ fs, R' (T.setFrames fs)) (hQ : Q (some (.int (nar t z))) T.heap locs) : own_Ends p e below (own_PostW s below Q R' C S) T (mkF m pc Ls (.int z :: rest)) :=
  own_leaveW X hS hn (fun h => by rw [hret] at h; cases h) hlk (fun fs hr => retN X hx hret ht hd hr) hC hSl hR hQ
/-- the stand over the start's own tables, in the wide form -/
theorem own_base (X : Stand p l e R s m args below meth c T locs cells slots) : Stand p l e R (s.setVm s.vm) m args below meth c T locs cells slots := X
theorem own_reZ {n : Nat} (hZ : Z.Warmed39 (s.setVm vm0).vm) (hS : (s.setVm vm0).Since vm1 n) : Z.Warmed39 (s.setVm vm1).vm := State.Warmed39.trans (t := s.setVm vm0) hZ hS.1
theorem own_reown {n : Nat} {C : String} {k : ClassId} (hown : (s.setVm vm0).vm.findClass C = some k) (hS : (s.setVm vm0).Since vm1 n) : (s.setVm vm1).vm.findClass C = some k := by
  rw [show (s.setVm vm1).vm = vm1 from rfl, hS.1.alike.findClass]; exact hown
theorem own_reS {n0 n1 : Nat} (hS0 : s.Since vm0 n0) (hS : (s.setVm vm0).Since vm1 n1) (h : n0 ≤ n1) : s.Since vm1 n1 := hS0.trans hS h
theorem own_since0 (X : Stand p l e R s m args below meth c T locs cells slots) (n : Nat) : s.Since s.vm n := (State.WarmedH.refl s).since n
theorem own_safeNull {x : Addr} (hal : Z.vm.Alike vm) (E : Exa Z h x "java/lang/String") (F : Fld Z h x "java/lang/String" "value" "[B" .null) : Safe Z EL vm h x := fun B => by
  obtain ⟨p, -, u, a, -, q, -, G, rfl | rfl⟩ := B
  · obtain ⟨cS, ⟨⟨s1, s2, s3, ⟨cv, kv, iv, s4, s4'⟩, -, s6, -, s8, -⟩, -⟩, -⟩ := G
    obtain ⟨kv', z4⟩ := ff_back (U := Wst Z vm h) hal s4
    have FF : Fld Z h q.sa "java/lang/String" "value" "[B" (.ref q.sd) := ⟨q.sC, cv, kv', iv, q.fSV, s1, z4, s6, s2, s3, by rw [← hal.assignable]; exact s4', s8⟩
    exact Fld.ne F FF nofun rfl
  · obtain ⟨cell, k, e1, e2, -⟩ := E
    cases (show h[q.sd]? = some q.SA from G.hd).symm.trans e1
    obtain ⟨cS, -, -, f, -⟩ := G
    have f : vm.findClass "[B" = some q.SA.cls := f
    rw [hal.findClass] at f
    obtain ⟨k1, q1, q2⟩ := Vm.findClass_spec f
    obtain ⟨k2, q3, q4⟩ := Vm.findClass_spec e2
    cases q1.symm.trans q3
    exact absurd (q2.symm.trans q4) (by decide)
end OwnWide
theorem own_flat {p : Program} {l : Launch} {e : Env} {R : Room} {s : State} {vm0 vm1 : Vm} {m : MethodId} {args : Array Value} {below : List Frame} {meth : Method} {c : Code} {T : State} {locs : List Loc} {cells slots : Nat} (X : Stand p l e R ((s.setVm vm0).setVm vm1) m args below meth c T locs cells slots) : Stand p l e R (s.setVm vm1) m args below meth c T locs cells slots := X
theorem own_safeNew {Z : State} {EL : List (String × Nat)} {vm vm1 : Vm} {h h' : Heap} {x : Addr} (H : CHr Z EL vm h vm1 h') (hx : h'.size ≤ x) : Safe Z EL vm1 h' x := Safe.new hx
theorem own_wrSz {h h' : Heap} {a : Addr} {sl : Nat} {v : Value} (W : Wr h h' a sl v) : h.size ≤ h'.size := by obtain ⟨c0, -, -, -, rfl⟩ := W; simp

section OwnSafe
variable {p : Program} {l : Launch} {e : Env} {R : Room} {s : State} {sargs : Array Value} {below : List Frame} {Z : State} {a0 : Array Value} {EL : List (String × Nat)} {h : Heap} {vm0 : Vm}
/-- backOfSH for a callee that writes one array, which is no constant's -/
theorem own_backSH2 {y : MethodName} {bytes : ByteArray} {maxL : Nat} {ret : Option FieldType} {rm : Room} {len W : Nat} {as' : Array Value} {Q : Option Value → Heap → List Loc → Prop} {x : Addr}
    (hM : MetFree l y (head1 [Cond.code y bytes maxL ret] rm) (fun a U => a = as' ∧ Z.Warmed39 U.vm ∧ U.heap = h ∧ CHv Z EL U.vm h ∧ Safe Z EL U.vm h x) (fun _ _ _ _ _ => True) (fun _ U o U' => ∃ v L, o = .returned v ∧ Q v U'.heap L ∧ CHr Z EL U.vm U.heap U'.vm U'.heap ∧ ReturnedEndW U o U' L rm.cells rm.slots))
    (hZ : Z.Warmed39 vm0) (wc : (Cond.code y bytes maxL ret).before a0 Z = true) (wz : (Cond.initialized y.cls).before a0 Z = true) (hf : rm.frames + 1 ≤ R.frames) (hl : W + (maxL + 11) + rm.locals ≤ R.locals) (hEL : EW Z a0 EL) (H : CHv Z EL vm0 h) (lx : x < h.size) (Sx : Safe Z EL vm0 h x) :
    BackS l R p e below (s.setVm vm0) sargs y len W (fun A a => a = as' ∧ A.U.heap = h ∧ A.cells + rm.cells ≤ R.cells ∧ A.slots + rm.slots ≤ R.slots)
      (fun A _ v B => ∃ L, Q v B.U.heap L ∧ B.locs = A.locs ++ L ∧ B.cells = A.cells + rm.cells ∧ B.slots = A.slots + rm.slots ∧ CHr Z EL vm0 h B.U.vm B.U.heap) := by
  intro m meth c A g ig mk a X hg hsize hdg hW hn hp
  obtain ⟨U, Ls, c0, s0⟩ := A
  obtain ⟨rfl, hh, h4, h5⟩ := hp
  dsimp only [Pt.U, Pt.locs, Pt.cells, Pt.slots] at h4 h5 X hn hh ⊢
  have hU : Z.Warmed39 U.vm := wtrans (s := s.setVm vm0) hZ X.warmed
  have wcU : (Cond.code y bytes maxL ret).before a U = true := mv hU wc
  obtain ⟨methY, cY, hmY, hcY, -, hlY, -, -, -, -⟩ := Cond.code_spec hn wcU
  obtain ⟨kY, hkY, -⟩ := className_of_methodNamed hn
  have wzU : (Cond.initialized y.cls).before a U = true := mv hU wz
  have hinitY : kY.init = .initialized := Cond.initialized_spec (findClass_of_methodNamed hn) hkY wzU
  have hA : At U g.method c below := by rw [hg]; exact X.here
  have happ : (head1 [Cond.code y bytes maxL ret] rm).appliesLoose y e.platform (U.calling g mk a) = true :=
    Spec.appliesLoose_calling (g := g) hA hdg hn hkY hinitY (X.room_calling (g := g) (R' := rm) hsize hmY hcY hf (by rw [hlY]; omega) h4 h5) (by show (Cond.and _ .tt).before a U = true; rw [Cond.before_and, wcU]; rfl)
  obtain ⟨mid, hmid⟩ := hA.above
  have hfr : (U.setTop g).frames = (.java g :: mid) ++ below := by rw [State.frames_setTop' g hA.top, hmid]; rfl
  obtain ⟨o, s₂, hsteps, -, hend, hq⟩ := Steps.callFree hM p X.admits X.cas X.clock (acts := []) hfr happ ⟨rfl, hU, hh, (CHv.at X hZ hEL H).1, (CHv.at X hZ hEL H).safe lx Sx⟩ trivial
  have hq' : ∃ v L, o = .returned v ∧ Q v s₂.heap L ∧ CHr Z EL (U.calling g mk a).vm (U.calling g mk a).heap s₂.vm s₂.heap ∧ ReturnedEndW (U.calling g mk a) o s₂ L rm.cells rm.slots := hq
  obtain ⟨v, L, rfl, hQ, hC, hfe⟩ := hq'
  rw [State.frames_setTop' g hA.top] at hend
  obtain ⟨-, hW₂, hB₂, e2, q2, q3, q4, q5, q6⟩ := id hfe
  have e3 : s₂ = ({ (U.calling g mk a).setFrames s₂.frames with heap := s₂.heap, slotsUsed := s₂.slotsUsed } : State).setVm s₂.vm := by
    have : s₂ = ({ s₂ with vm := (U.calling g mk a).vm } : State).setVm s₂.vm := rfl
    rw [e2] at this
    exact this
  obtain ⟨c₂, i₂, len₂, hc₂, hd₂, hf₂⟩ := hend
  have hW' : U.Warmed39 s₂.vm := hW₂
  have hcc : c₂ = c := by
    have h1 : s₂.code? g.method = U.code? g.method := by
      rw [State.code?_eq, State.code?_eq, hW'.alike.method?]
    exact Option.some.inj (hc₂.symm.trans (h1.trans hA.code))
  subst hcc
  have hlen : len₂ = len := by rw [hdg] at hd₂; cases hd₂; rfl
  subst hlen
  obtain ⟨g₀, hg0⟩ := Option.isSome_iff_exists.mp hA.top
  obtain ⟨r, hr⟩ := State.topJava?_eq_some.mp hg0
  have hs₂ : s₂ = (({ U with heap := s₂.heap, slotsUsed := s₂.slotsUsed } : State).setVm s₂.vm).setTop { g with pc := g.pc + len₂, stack := v.toList ++ g.stack } := by
    have hr' : (({ U with heap := s₂.heap, slotsUsed := s₂.slotsUsed } : State).setVm s₂.vm).frames = .java g₀ :: r := hr
    refine e3.trans ?_
    rw [hf₂, State.calling_eq hA.top, State.setFrames_setFrames, State.setTop_of_frames _ hr', hr]
    rfl
  have hsame : U.sameButNew ({ U with heap := s₂.heap, slotsUsed := s₂.slotsUsed } : State) L rm.cells rm.slots := by
    refine ⟨?_, q2, q3, q4, q5, q6⟩
    obtain ⟨t, ht, -⟩ := State.frames_cons hr
    show ({ U with heap := s₂.heap, slotsUsed := s₂.slotsUsed } : State) = { U.setFrames U.frames with heap := s₂.heap, slotsUsed := s₂.slotsUsed }
    rw [State.setFrames_self ht]
  subst hg
  obtain ⟨X', hS⟩ := X.movedW (T₂ := (({ U with heap := s₂.heap, slotsUsed := s₂.slotsUsed } : State).setVm s₂.vm)) ((X.here.setHeapUsed s₂.heap s₂.slotsUsed).setVm hW'.alike) X.tail rfl rfl hW' hB₂ hsame
  refine ⟨v, ⟨(({ U with heap := s₂.heap, slotsUsed := s₂.slotsUsed } : State).setVm s₂.vm), Ls ++ L, c0 + rm.cells, s0 + rm.slots⟩, X', hS, hsame.2.1, ⟨L, hQ, rfl, rfl, rfl, (CHv.at X hZ hEL H).trans ?_⟩, ?_⟩
  · have hC' : CHr Z EL U.vm U.heap s₂.vm s₂.heap := hC
    rw [hh] at hC'
    exact hC'
  · show Steps p.tables e below _ ((({ U with heap := s₂.heap, slotsUsed := s₂.slotsUsed } : State).setVm s₂.vm).setTop { g with pc := g.pc + len₂, stack := v.toList ++ g.stack })
    rw [← hs₂]
    exact hsteps
end OwnSafe

/-- a limb; four limbs of the number N -/
def own_lb (x : Int64) : Prop := 0 ≤ x.toInt ∧ x.toInt < 4294967296
def own_L (N : Int) (x0 x1 x2 x3 : Int64) : Prop := own_lb x0 ∧ own_lb x1 ∧ own_lb x2 ∧ own_lb x3 ∧ N = ((x0.toInt * 4294967296 + x1.toInt) * 4294967296 + x2.toInt) * 4294967296 + x3.toInt
abbrev own_D : Int64 := (916132832 : Int32).toInt64
theorem own_Dv : own_D.toInt = 916132832 := by decide
theorem own_join {m x c : Int64} (hc : c = ((m <<< ((32 : Int32) &&& 0x3f).toInt64) ||| x)) (hx : own_lb x) : (c.toInt - (m.toInt * 4294967296 + x.toInt)) % 18446744073709551616 = 0 := by
  have h1 := c_lshl m 32 32 (by decide)
  rw [show ((2 ^ 32 : Nat) : Int) = 4294967296 from rfl] at h1
  have h2 := c_orL (m <<< ((32 : Int32) &&& 0x3f).toInt64) x 32 (by decide) 4294967296 rfl (by omega) hx.1 hx.2
  rw [hc]; omega
theorem own_dstep {m x c m' : Int64} (hc : c = ((m <<< ((32 : Int32) &&& 0x3f).toInt64) ||| x)) (hm : 0 ≤ m.toInt ∧ m.toInt < 916132832) (hx : own_lb x) (hm' : m' = (c - (c / own_D) * own_D)) :
    (c / own_D).toInt = (m.toInt * 4294967296 + x.toInt) / 916132832 ∧ m'.toInt = (m.toInt * 4294967296 + x.toInt) % 916132832 ∧ own_lb (c / own_D) ∧ 0 ≤ m'.toInt ∧ m'.toInt < 916132832 := by
  have h1 := own_join hc hx
  have r := rng64 c
  obtain ⟨x1, x2⟩ := hx
  have e : c.toInt = m.toInt * 4294967296 + x.toInt := by omega
  have h2 := (c_ldiv c own_D 916132832 own_Dv (by decide)).1 (by omega)
  have h3 := (c_lrem c own_D 916132832 own_Dv).1 (by omega)
  rw [← hm'] at h3
  rw [e] at h2 h3
  refine ⟨h2, h3, ⟨?_, ?_⟩, ?_, ?_⟩ <;> omega
theorem own_div4 {N : Int} {x0 x1 x2 x3 c0 c1 c2 c3 m1 m2 m3 m4 : Int64} (hL : own_L N x0 x1 x2 x3)
    (h0 : c0 = (((0 : Int64) <<< ((32 : Int32) &&& 0x3f).toInt64) ||| x0)) (g1 : m1 = (c0 - (c0 / own_D) * own_D)) (h1 : c1 = ((m1 <<< ((32 : Int32) &&& 0x3f).toInt64) ||| x1)) (g2 : m2 = (c1 - (c1 / own_D) * own_D))
    (h2 : c2 = ((m2 <<< ((32 : Int32) &&& 0x3f).toInt64) ||| x2)) (g3 : m3 = (c2 - (c2 / own_D) * own_D)) (h3 : c3 = ((m3 <<< ((32 : Int32) &&& 0x3f).toInt64) ||| x3)) (g4 : m4 = (c3 - (c3 / own_D) * own_D)) :
    own_L (N / 916132832) (c0 / own_D) (c1 / own_D) (c2 / own_D) (c3 / own_D) ∧ (m4.toInt32).toInt = N % 916132832 := by
  obtain ⟨b0, b1, b2, b3, rfl⟩ := hL
  have z0 : (0 : Int64).toInt = 0 := by decide
  obtain ⟨e0, f0, l0, n0⟩ := own_dstep h0 ⟨by omega, by omega⟩ b0 g1
  obtain ⟨e1, f1, l1, n1⟩ := own_dstep h1 n0 b1 g2
  obtain ⟨e2, f2, l2, n2⟩ := own_dstep h2 n1 b2 g3
  obtain ⟨e3, f3, l3, n3⟩ := own_dstep h3 n2 b3 g4
  have q := c_l2i m4
  have r := rng32 m4.toInt32
  rw [z0] at e0 f0
  have eR : m4.toInt32.toInt = m4.toInt := by omega
  have key : ((x0.toInt * 4294967296 + x1.toInt) * 4294967296 + x2.toInt) * 4294967296 + x3.toInt = ((((c0 / own_D).toInt * 4294967296 + (c1 / own_D).toInt) * 4294967296 + (c2 / own_D).toInt) * 4294967296 + (c3 / own_D).toInt) * 916132832 + m4.toInt := by omega
  refine ⟨⟨l0, l1, l2, l3, ?_⟩, ?_⟩
  · omega
  · omega
theorem own_mstep {x cy p : Int64} (hx : own_lb x) (hc : 0 ≤ cy.toInt ∧ cy.toInt < 62) (hp : p = ((x * ((62 : Int32).toInt64)) + cy)) :
    (p &&& (4294967295 : Int64)).toInt = (x.toInt * 62 + cy.toInt) % 4294967296 ∧ ((p.toUInt64 >>> ((32 : Int32) &&& 0x3f).toInt64.toUInt64).toInt64).toInt = (x.toInt * 62 + cy.toInt) / 4294967296 ∧ own_lb (p &&& (4294967295 : Int64)) ∧ 0 ≤ ((p.toUInt64 >>> ((32 : Int32) &&& 0x3f).toInt64.toUInt64).toInt64).toInt ∧ ((p.toUInt64 >>> ((32 : Int32) &&& 0x3f).toInt64.toUInt64).toInt64).toInt < 62 := by
  have h1 := c_lmul x (62 : Int32).toInt64
  rw [show ((62 : Int32).toInt64).toInt = 62 by decide] at h1
  have h2 := c_ladd (x * (62 : Int32).toInt64) cy
  rw [← hp] at h2
  have r := rng64 p
  obtain ⟨x1, x2⟩ := hx
  have e : p.toInt = x.toInt * 62 + cy.toInt := by omega
  have h3 := c_maskL p 4294967295 32 (by decide) (by decide)
  have h4 := c_lushr p 32 32 (by decide) (by decide)
  rw [show ((2 ^ 32 : Nat) : Int) = 4294967296 from rfl, e] at h3 h4
  have e4 : ((p.toUInt64 >>> ((32 : Int32) &&& 0x3f).toInt64.toUInt64).toInt64).toInt = (x.toInt * 62 + cy.toInt) / 4294967296 := by rw [h4]; omega
  refine ⟨h3, e4, ⟨?_, ?_⟩, ?_, ?_⟩ <;> omega
theorem own_mul4 {N : Int} {x0 x1 x2 x3 p0 p1 p2 p3 y0 y1 y2 y3 : Int64} {d : Int32} (hL : own_L N x0 x1 x2 x3) (hd : 0 ≤ d.toInt ∧ d.toInt < 62) (hN : N * 62 + d.toInt < 340282366920938463463374607431768211456)
    (h3 : p3 = ((x3 * ((62 : Int32).toInt64)) + (d.toInt64))) (g3 : y3 = ((p3.toUInt64 >>> ((32 : Int32) &&& 0x3f).toInt64.toUInt64).toInt64)) (h2 : p2 = ((x2 * ((62 : Int32).toInt64)) + y3)) (g2 : y2 = ((p2.toUInt64 >>> ((32 : Int32) &&& 0x3f).toInt64.toUInt64).toInt64))
    (h1 : p1 = ((x1 * ((62 : Int32).toInt64)) + y2)) (g1 : y1 = ((p1.toUInt64 >>> ((32 : Int32) &&& 0x3f).toInt64.toUInt64).toInt64)) (h0 : p0 = ((x0 * ((62 : Int32).toInt64)) + y1)) (g0 : y0 = ((p0.toUInt64 >>> ((32 : Int32) &&& 0x3f).toInt64.toUInt64).toInt64)) :
    own_L (N * 62 + d.toInt) (p0 &&& (4294967295 : Int64)) (p1 &&& (4294967295 : Int64)) (p2 &&& (4294967295 : Int64)) (p3 &&& (4294967295 : Int64)) ∧ y0 = 0 := by
  obtain ⟨b0, b1, b2, b3, rfl⟩ := hL
  obtain ⟨e3, f3, l3, n3⟩ := own_mstep b3 (by rw [c_i2l]; exact hd) h3
  rw [← g3] at f3 n3
  obtain ⟨e2, f2, l2, n2⟩ := own_mstep b2 n3 h2
  rw [← g2] at f2 n2
  obtain ⟨e1, f1, l1, n1⟩ := own_mstep b1 n2 h1
  rw [← g1] at f1 n1
  obtain ⟨e0, f0, l0, n0⟩ := own_mstep b0 n1 h0
  rw [← g0] at f0 n0
  rw [c_i2l] at e3 f3
  obtain ⟨a0, a0'⟩ := id l0
  obtain ⟨a1, a1'⟩ := id l1
  obtain ⟨a2, a2'⟩ := id l2
  obtain ⟨a3, a3'⟩ := id l3
  have key : (((x0.toInt * 4294967296 + x1.toInt) * 4294967296 + x2.toInt) * 4294967296 + x3.toInt) * 62 + d.toInt = y0.toInt * 340282366920938463463374607431768211456 + ((((p0 &&& (4294967295 : Int64)).toInt * 4294967296 + (p1 &&& (4294967295 : Int64)).toInt) * 4294967296 + (p2 &&& (4294967295 : Int64)).toInt) * 4294967296 + (p3 &&& (4294967295 : Int64)).toInt) := by omega
  have hy : y0.toInt = 0 := by omega
  refine ⟨⟨l0, l1, l2, l3, ?_⟩, ?_⟩
  · omega
  · exact Int64.toInt_inj.mp (by rw [hy]; decide)
/-- the number of an id, its digits in base 62, their signs -/
def own_d (N : Int) (k : Nat) : Int := N / 62 ^ k % 62
theorem own_dB (N : Int) (k : Nat) : 0 ≤ own_d N k ∧ own_d N k < 62 := by unfold own_d; omega
abbrev own_AL : List Int32 := [48, 49, 50, 51, 52, 53, 54, 55, 56, 57, 65, 66, 67, 68, 69, 70, 71, 72, 73, 74, 75, 76, 77, 78, 79, 80, 81, 82, 83, 84, 85, 86, 87, 88, 89, 90, 97, 98, 99, 100, 101, 102, 103, 104, 105, 106, 107, 108, 109, 110, 111, 112, 113, 114, 115, 116, 117, 118, 119, 120, 121, 122]
def own_al (z : Int) : Int32 := own_AL.getD z.toNat 0
theorem own_alP {P : Int → Int32 → Prop} (h : ∀ n ∈ List.range 62, P (n : Int) (own_AL.getD n 0)) {z : Int} (hz : 0 ≤ z ∧ z < 62) : P z (own_al z) := by
  have q := h z.toNat (List.mem_range.mpr (by omega))
  rwa [show ((z.toNat : Nat) : Int) = z by omega] at q
theorem own_al255 {z : Int} (hz : 0 ≤ z ∧ z < 62) : (own_al z &&& (255 : Int32)) = own_al z := own_alP (P := fun _ x => (x &&& (255 : Int32)) = x) (by decide) hz
theorem own_alb {z : Int} (hz : 0 ≤ z ∧ z < 62) : ((own_al z).toInt8.toInt32) = own_al z := own_alP (P := fun _ x => (x.toInt8.toInt32) = x) (by decide) hz
theorem own_alm {z : Int} (hz : 0 ≤ z ∧ z < 62) : own_al z ∈ own_AL := own_alP (P := fun _ x => x ∈ own_AL) (by decide) hz
theorem own_al128 {z : Int} (hz : 0 ≤ z ∧ z < 62) : ¬ own_al z < 0 ∧ own_al z < 128 := own_alP (P := fun _ x => ¬ x < 0 ∧ x < 128) (by decide) hz
theorem own_alr {z : Int} (hz : 0 ≤ z ∧ z < 62) : ¬ own_al z < 0 ∧ ¬ (255 : Int32) < own_al z := own_alP (P := fun _ x => ¬ x < 0 ∧ ¬ (255 : Int32) < x) (by decide) hz
theorem own_al03 {z : Int} (hz : 0 ≤ z ∧ z ≤ 3) : ¬ own_al z < 48 ∧ ¬ (51 : Int32) < own_al z := own_alP (P := fun z x => z ≤ 3 → ¬ x < 48 ∧ ¬ (51 : Int32) < x) (by decide) ⟨hz.1, by omega⟩ hz.2
abbrev own_DP : List (Int32 × Int32) := [(0, 48), (1, 49), (2, 50), (3, 51), (4, 52), (5, 53), (6, 54), (7, 55), (8, 56), (9, 57), (10, 65), (11, 66), (12, 67), (13, 68), (14, 69), (15, 70), (16, 71), (17, 72), (18, 73), (19, 74), (20, 75), (21, 76), (22, 77), (23, 78), (24, 79), (25, 80), (26, 81), (27, 82), (28, 83), (29, 84), (30, 85), (31, 86), (32, 87), (33, 88), (34, 89), (35, 90), (36, 97), (37, 98), (38, 99), (39, 100), (40, 101), (41, 102), (42, 103), (43, 104), (44, 105), (45, 106), (46, 107), (47, 108), (48, 109), (49, 110), (50, 111), (51, 112), (52, 113), (53, 114), (54, 115), (55, 116), (56, 117), (57, 118), (58, 119), (59, 120), (60, 121), (61, 122)]
theorem own_mem2 {d : Int32} {z : Int} (e : d.toInt = z) (hz : 0 ≤ z ∧ z < 62) : (d, own_al z) ∈ own_DP := by
  have h : d = Int32.ofInt z := by rw [← e]; simp
  rw [h]
  exact own_alP (P := fun z x => (Int32.ofInt z, x) ∈ own_DP) (by decide) hz
def own_dI (z : Int) : Int32 := Int32.ofInt z
theorem own_dIv {z : Int} (hz : 0 ≤ z ∧ z < 62) : (own_dI z).toInt = z := own_alP (P := fun z _ => (own_dI z).toInt = z) (by decide) hz
theorem own_dI0 {z : Int} (hz : 0 ≤ z ∧ z < 62) : ¬ own_dI z < 0 := own_alP (P := fun z _ => ¬ own_dI z < 0) (by decide) hz
/-- an id's three parts and its number -/
def own_N (t w : Int64) (q : Int32) : Int := t.toInt * 18446744073709551616 + w.toInt * 65536 + q.toInt
def own_ok (t w : Int64) (q : Int32) : Prop := 0 ≤ t.toInt ∧ 0 ≤ w.toInt ∧ w.toInt < 281474976710656 ∧ 0 ≤ q.toInt ∧ q.toInt < 65536
theorem own_NB {t w : Int64} {q : Int32} (h : own_ok t w q) : 0 ≤ own_N t w q ∧ own_N t w q < 170141183460469231731687303715884105728 := by
  obtain ⟨h1, h2, h3, h4, h5⟩ := h
  have r := rng64 t
  unfold own_N
  omega
theorem own_low {w : Int64} {q : Int32} (h1 : 0 ≤ w.toInt) (h2 : w.toInt < 281474976710656) (h3 : 0 ≤ q.toInt) (h4 : q.toInt < 65536) : (((w <<< ((16 : Int32) &&& 0x3f).toInt64) ||| (q.toInt64)).toInt - (w.toInt * 65536 + q.toInt)) % 18446744073709551616 = 0 := by
  have e1 := c_lshl w 16 16 (by decide)
  rw [show ((2 ^ 16 : Nat) : Int) = 65536 from rfl] at e1
  have e2 := c_orL (w <<< ((16 : Int32) &&& 0x3f).toInt64) q.toInt64 16 (by decide) 65536 rfl (by omega) (by rw [c_i2l]; exact h3) (by rw [c_i2l]; exact h4)
  rw [c_i2l] at e2
  omega
theorem own_start {t w lo : Int64} {q : Int32} (h : own_ok t w q) (hlo : lo = ((w <<< ((16 : Int32) &&& 0x3f).toInt64) ||| (q.toInt64))) : own_L (own_N t w q) ((t.toUInt64 >>> ((32 : Int32) &&& 0x3f).toInt64.toUInt64).toInt64) (t &&& (4294967295 : Int64)) ((lo.toUInt64 >>> ((32 : Int32) &&& 0x3f).toInt64.toUInt64).toInt64) (lo &&& (4294967295 : Int64)) := by
  obtain ⟨h1, h2, h3, h4, h5⟩ := h
  have e0 := own_low h2 h3 h4 h5
  rw [← hlo] at e0
  have r := rng64 t
  have r2 := rng64 lo
  have a1 := c_lushr t 32 32 (by decide) (by decide)
  have a2 := c_maskL t 4294967295 32 (by decide) (by decide)
  have a3 := c_lushr lo 32 32 (by decide) (by decide)
  have a4 := c_maskL lo 4294967295 32 (by decide) (by decide)
  rw [show ((2 ^ 32 : Nat) : Int) = 4294967296 from rfl] at a1 a2 a3 a4
  refine ⟨⟨?_, ?_⟩, ⟨?_, ?_⟩, ⟨?_, ?_⟩, ⟨?_, ?_⟩, ?_⟩
  · omega
  · omega
  · omega
  · omega
  · omega
  · omega
  · omega
  · omega
  · rw [a1, a2, a3, a4]
    unfold own_N
    omega
theorem own_back {t w : Int64} {q : Int32} {x0 x1 x2 x3 lo : Int64} (h : own_ok t w q) (hL : own_L (own_N t w q) x0 x1 x2 x3) (hlo : lo = ((x2 <<< ((32 : Int32) &&& 0x3f).toInt64) ||| x3)) :
    ((x0 <<< ((32 : Int32) &&& 0x3f).toInt64) ||| x1) = t ∧ ((lo.toUInt64 >>> ((16 : Int32) &&& 0x3f).toInt64.toUInt64).toInt64) = w ∧ ((lo &&& (65535 : Int64)).toInt32) = q := by
  obtain ⟨h1, h2, h3, h4, h5⟩ := h
  obtain ⟨b0, b1, b2, b3, hN⟩ := hL
  have e1 := own_join (m := x0) (x := x1) rfl b1
  have e2 := own_join hlo b3
  obtain ⟨b0, b0'⟩ := b0
  obtain ⟨b1, b1'⟩ := b1
  obtain ⟨b2, b2'⟩ := b2
  obtain ⟨b3, b3'⟩ := b3
  have r := rng64 t
  have r1 := rng64 ((x0 <<< ((32 : Int32) &&& 0x3f).toInt64) ||| x1)
  have r2 := rng64 lo
  have r3 := rng32 ((lo &&& (65535 : Int64)).toInt32)
  have a1 := c_lushr lo 16 16 (by decide) (by decide)
  have a2 := c_maskL lo 65535 16 (by decide) (by decide)
  have a3 := c_l2i (lo &&& (65535 : Int64))
  rw [show ((2 ^ 16 : Nat) : Int) = 65536 from rfl] at a1 a2
  unfold own_N at hN
  have k1 : x0.toInt * 4294967296 + x1.toInt = t.toInt := by omega
  have k2 : x2.toInt * 4294967296 + x3.toInt = w.toInt * 65536 + q.toInt := by omega
  refine ⟨Int64.toInt_inj.mp ?_, Int64.toInt_inj.mp ?_, Int32.toInt_inj.mp ?_⟩ <;> omega
theorem own_top {M : Int} {y0 y1 y2 y3 : Int64} (hL : own_L M y0 y1 y2 y3) (hM : M < 2147483648) : (y3.toInt32).toInt = M := by
  obtain ⟨⟨b0, b0'⟩, ⟨b1, b1'⟩, ⟨b2, b2'⟩, ⟨b3, b3'⟩, hN⟩ := hL
  have a := c_l2i y3
  have r := rng32 y3.toInt32
  omega
theorem own_62 {r : Int32} {z : Int} (e : r.toInt = z) (hz : 0 ≤ z) : (r % (62 : Int32)).toInt = z % 62 ∧ (r / (62 : Int32)).toInt = z / 62 := by
  have h1 := (c_irem r 62 62 (by decide)).1 (by omega)
  have h2 := (c_idiv r 62 62 (by decide) (by decide)).1 (by omega)
  rw [e] at h1 h2
  exact ⟨h1, h2⟩
theorem own_hor (N : Int) (k : Nat) : N / 62 ^ (k + 1) * 62 + own_d N k = N / 62 ^ k := by
  unfold own_d
  rw [Int.pow_succ, ← Int.ediv_ediv_of_nonneg (Int.pow_nonneg (by decide))]
  omega
theorem own_quo {N : Int} (h : 0 ≤ N) (k : Nat) : 0 ≤ N / 62 ^ k ∧ N / 62 ^ k ≤ N := by
  have p : (0 : Int) < 62 ^ k := Int.pow_pos (by decide)
  exact ⟨Int.ediv_nonneg h (Int.le_of_lt p), Int.ediv_le_self _ h⟩
theorem own_dec {j : Int32} {n : Nat} (e : j.toInt = n + 1) : (j + (-1 : Int32)).toInt = n := by
  have h := c_iadd j (-1)
  have r := rng32 (j + (-1 : Int32))
  have r2 := rng32 j
  rw [show (-1 : Int32).toInt = -1 by decide] at h
  omega
theorem own_at {j : Int32} {n : Nat} (e : j.toInt = n) (hn : n < 26) : (¬ j < 0 ∧ j < (26 : Int32)) ∧ j.toNatClampNeg = n := by
  refine ⟨⟨?_, ?_⟩, ?_⟩
  · rw [Int32.lt_iff_toInt_lt, show (0 : Int32).toInt = 0 by decide]; omega
  · rw [Int32.lt_iff_toInt_lt, show (26 : Int32).toInt = 26 by decide]; omega
  · show j.toInt.toNat = n
    omega
theorem own_at2 {j : Int32} {no k : Nat} (e : j.toInt = ((no + k : Nat) : Int)) (h : no ≤ 3) (hk : k ≤ 22) : (¬ j < 0 ∧ j < (26 : Int32)) ∧ j.toNatClampNeg = no + k := own_at e (by omega)
theorem own_last {t w : Int64} {q : Int32} (h : own_ok t w q) :
    ((((((((t - (t / (62 : Int64)) * (62 : Int64)) * (16 : Int64)) + ((w - (w / (62 : Int64)) * (62 : Int64)) * (2 : Int64))) + (q.toInt64)) - (((((t - (t / (62 : Int64)) * (62 : Int64)) * (16 : Int64)) + ((w - (w / (62 : Int64)) * (62 : Int64)) * (2 : Int64))) + (q.toInt64)) / (62 : Int64)) * (62 : Int64))).toInt32)).toInt = own_d (own_N t w q) 0 := by
  obtain ⟨h1, h2, h3, h4, h5⟩ := h
  have a1 := (c_lrem t 62 62 (by decide)).1 h1
  have a2 := (c_lrem w 62 62 (by decide)).1 h2
  generalize (t - (t / (62 : Int64)) * (62 : Int64)) = A at *
  generalize (w - (w / (62 : Int64)) * (62 : Int64)) = B at *
  have b1 := c_lmul A 16
  have b2 := c_lmul B 2
  rw [show (16 : Int64).toInt = 16 by decide] at b1
  rw [show (2 : Int64).toInt = 2 by decide] at b2
  have rA := rng64 (A * 16)
  have rB := rng64 (B * 2)
  have b3 := c_ladd (A * 16) (B * 2)
  have rC := rng64 (A * 16 + B * 2)
  have b4 := c_ladd (A * 16 + B * 2) q.toInt64
  rw [c_i2l] at b4
  have rD := rng64 (A * 16 + B * 2 + q.toInt64)
  generalize A * 16 + B * 2 + q.toInt64 = E at *
  have e : E.toInt = A.toInt * 16 + B.toInt * 2 + q.toInt := by omega
  have b5 := (c_lrem E 62 62 (by decide)).1 (by omega)
  generalize (E - (E / (62 : Int64)) * (62 : Int64)) = F at *
  have b6 := c_l2i F
  have rF := rng32 F.toInt32
  unfold own_d own_N
  rw [show (62 : Int) ^ 0 = 1 from rfl, Int.ediv_one]
  omega
theorem own_w0 {N : Int} (h : 0 ≤ N) : N % 916132832 % 62 = own_d N 0 := by unfold own_d; simp only [Int.reducePow]; omega
theorem own_w1 {N : Int} (h : 0 ≤ N) : N % 916132832 / 62 % 62 = own_d N 1 := by unfold own_d; simp only [Int.reducePow]; omega
theorem own_w2 {N : Int} (h : 0 ≤ N) : N % 916132832 / 62 / 62 % 62 = own_d N 2 := by unfold own_d; simp only [Int.reducePow]; omega
theorem own_w3 {N : Int} (h : 0 ≤ N) : N % 916132832 / 62 / 62 / 62 % 62 = own_d N 3 := by unfold own_d; simp only [Int.reducePow]; omega
theorem own_w4 {N : Int} (h : 0 ≤ N) : N % 916132832 / 62 / 62 / 62 / 62 % 62 = own_d N 4 := by unfold own_d; simp only [Int.reducePow]; omega
theorem own_w5 {N : Int} (h : 0 ≤ N) : N / 916132832 % 916132832 % 62 = own_d N 5 := by unfold own_d; simp only [Int.reducePow]; omega
theorem own_w6 {N : Int} (h : 0 ≤ N) : N / 916132832 % 916132832 / 62 % 62 = own_d N 6 := by unfold own_d; simp only [Int.reducePow]; omega
theorem own_w7 {N : Int} (h : 0 ≤ N) : N / 916132832 % 916132832 / 62 / 62 % 62 = own_d N 7 := by unfold own_d; simp only [Int.reducePow]; omega
theorem own_w8 {N : Int} (h : 0 ≤ N) : N / 916132832 % 916132832 / 62 / 62 / 62 % 62 = own_d N 8 := by unfold own_d; simp only [Int.reducePow]; omega
theorem own_w9 {N : Int} (h : 0 ≤ N) : N / 916132832 % 916132832 / 62 / 62 / 62 / 62 % 62 = own_d N 9 := by unfold own_d; simp only [Int.reducePow]; omega
theorem own_w10 {N : Int} (h : 0 ≤ N) : N / 916132832 / 916132832 % 916132832 % 62 = own_d N 10 := by unfold own_d; simp only [Int.reducePow]; omega
theorem own_w11 {N : Int} (h : 0 ≤ N) : N / 916132832 / 916132832 % 916132832 / 62 % 62 = own_d N 11 := by unfold own_d; simp only [Int.reducePow]; omega
theorem own_w12 {N : Int} (h : 0 ≤ N) : N / 916132832 / 916132832 % 916132832 / 62 / 62 % 62 = own_d N 12 := by unfold own_d; simp only [Int.reducePow]; omega
theorem own_w13 {N : Int} (h : 0 ≤ N) : N / 916132832 / 916132832 % 916132832 / 62 / 62 / 62 % 62 = own_d N 13 := by unfold own_d; simp only [Int.reducePow]; omega
theorem own_w14 {N : Int} (h : 0 ≤ N) : N / 916132832 / 916132832 % 916132832 / 62 / 62 / 62 / 62 % 62 = own_d N 14 := by unfold own_d; simp only [Int.reducePow]; omega
theorem own_w15 {N : Int} (h : 0 ≤ N) : N / 916132832 / 916132832 / 916132832 % 916132832 % 62 = own_d N 15 := by unfold own_d; simp only [Int.reducePow]; omega
theorem own_w16 {N : Int} (h : 0 ≤ N) : N / 916132832 / 916132832 / 916132832 % 916132832 / 62 % 62 = own_d N 16 := by unfold own_d; simp only [Int.reducePow]; omega
theorem own_w17 {N : Int} (h : 0 ≤ N) : N / 916132832 / 916132832 / 916132832 % 916132832 / 62 / 62 % 62 = own_d N 17 := by unfold own_d; simp only [Int.reducePow]; omega
theorem own_w18 {N : Int} (h : 0 ≤ N) : N / 916132832 / 916132832 / 916132832 % 916132832 / 62 / 62 / 62 % 62 = own_d N 18 := by unfold own_d; simp only [Int.reducePow]; omega
theorem own_w19 {N : Int} (h : 0 ≤ N) : N / 916132832 / 916132832 / 916132832 % 916132832 / 62 / 62 / 62 / 62 % 62 = own_d N 19 := by unfold own_d; simp only [Int.reducePow]; omega
theorem own_w20 {N : Int} (h : 0 ≤ N) (h2 : N < 170141183460469231731687303715884105728) : N / 916132832 / 916132832 / 916132832 / 916132832 < 2147483648 ∧ 0 ≤ N / 916132832 / 916132832 / 916132832 / 916132832 ∧ N / 916132832 / 916132832 / 916132832 / 916132832 % 62 = own_d N 20 ∧ N / 916132832 / 916132832 / 916132832 / 916132832 / 62 = own_d N 21 ∧ own_d N 21 ≤ 3 := by unfold own_d; simp only [Int.reducePow]; omega
theorem own_z22 {N : Int} (h : 0 ≤ N) (h2 : N < 170141183460469231731687303715884105728) : N / 62 ^ 22 = 0 := by simp only [Int.reducePow]; omega
theorem own_L0 {N : Int} (h : 0 ≤ N) (h2 : N < 170141183460469231731687303715884105728) : own_L (N / 62 ^ 22) (0 : Int64) (0 : Int64) (0 : Int64) (0 : Int64) := ⟨⟨by decide, by decide⟩, ⟨by decide, by decide⟩, ⟨by decide, by decide⟩, ⟨by decide, by decide⟩, by rw [own_z22 h h2]; decide⟩
theorem own_mulB {N : Int} (h : 0 ≤ N) (h2 : N < 170141183460469231731687303715884105728) (k : Nat) : N / 62 ^ (k + 1) * 62 + (own_dI (own_d N k)).toInt < 340282366920938463463374607431768211456 := by
  rw [own_dIv (own_dB N k), own_hor]
  have := own_quo h k
  omega
theorem own_dec2 {j : Int32} {no k : Nat} (e : j.toInt = ((no + (k + 1) : Nat) : Int)) : (j + (-1 : Int32)).toInt = ((no + k : Nat) : Int) := own_dec (by omega)
theorem own_off {o : Int32} {no : Nat} (e : o.toInt = (no : Int)) (h : no ≤ 3) (i : Int32) (k : Nat) (hi : i.toInt = (k : Int)) (hk : k ≤ 22) : (o + i).toInt = ((no + k : Nat) : Int) := by
  have a := c_iadd o i
  have r := rng32 (o + i)
  omega
theorem own_o4 {o : Int32} {no : Nat} (e : o.toInt = (no : Int)) (h : no ≤ 3) : (o = 0 ∧ no = 0) ∨ (o = 1 ∧ no = 1) ∨ (o = 2 ∧ no = 2) ∨ (o = 3 ∧ no = 3) := by
  have k : ∀ z : Int, o.toInt = z → o = Int32.ofInt z := fun z e => by rw [← e]; simp
  rcases (by omega : no = 0 ∨ no = 1 ∨ no = 2 ∨ no = 3) with rfl | rfl | rfl | rfl
  · exact Or.inl ⟨(k _ e).trans (by decide), rfl⟩
  · exact Or.inr (Or.inl ⟨(k _ e).trans (by decide), rfl⟩)
  · exact Or.inr (Or.inr (Or.inl ⟨(k _ e).trans (by decide), rfl⟩))
  · exact Or.inr (Or.inr (Or.inr ⟨(k _ e).trans (by decide), rfl⟩))
theorem own_offs (x : Int32) : ∃ no : Nat, (x &&& (3 : Int32)).toInt = (no : Int) ∧ no ≤ 3 := by
  have h := c_mask x 3 2 (by decide) (by decide)
  rw [show ((2 ^ 2 : Nat) : Int) = 4 from rfl] at h
  exact ⟨(x &&& (3 : Int32)).toInt.toNat, by omega, by omega⟩
theorem own_parts (a b : Int64) (c : Int32) : own_ok (a &&& (9223372036854775807 : Int64)) (b &&& (281474976710655 : Int64)) (c &&& (65535 : Int32)) := by
  have h1 := c_maskL a 9223372036854775807 63 (by decide) (by decide)
  have h2 := c_maskL b 281474976710655 48 (by decide) (by decide)
  have h3 := c_mask c 65535 16 (by decide) (by decide)
  rw [show ((2 ^ 63 : Nat) : Int) = 9223372036854775808 from rfl] at h1
  rw [show ((2 ^ 48 : Nat) : Int) = 281474976710656 from rfl] at h2
  rw [show ((2 ^ 16 : Nat) : Int) = 65536 from rfl] at h3
  refine ⟨?_, ?_, ?_, ?_, ?_⟩ <;> omega
theorem own_cmpGe {x y : Int64} (h : y.toInt ≤ x.toInt) : ¬ (lcmpW x y) < (0 : Int32) := by
  rw [Int32.lt_iff_toInt_lt, show (0 : Int32).toInt = 0 by decide]
  have a := c_lcmp x y
  rcases Int.lt_trichotomy x.toInt y.toInt with q | q | q
  · omega
  · have := a.2.1 q; omega
  · have := a.2.2 q; omega
theorem own_cmpLe {x y : Int64} (h : x.toInt ≤ y.toInt) : ¬ (0 : Int32) < (lcmpW x y) := by
  rw [Int32.lt_iff_toInt_lt, show (0 : Int32).toInt = 0 by decide]
  have a := c_lcmp x y
  rcases Int.lt_trichotomy x.toInt y.toInt with q | q | q
  · have := a.1 q; omega
  · have := a.2.1 q; omega
  · omega
theorem own_cmpEq (x : Int64) : (lcmpW x x) = (0 : Int32) := Int32.toInt_inj.mp ((c_lcmp x x).2.1 rfl)
theorem own_seqB {q : Int32} (h1 : 0 ≤ q.toInt) (h2 : q.toInt < 65536) : ¬ q < (0 : Int32) ∧ ¬ (65535 : Int32) < q := by
  rw [Int32.lt_iff_toInt_lt, Int32.lt_iff_toInt_lt, show (0 : Int32).toInt = 0 by decide, show (65535 : Int32).toInt = 65535 by decide]
  omega

abbrev own_AV : List Value := own_AL.map Value.int
theorem own_chr {d : Int32} {z : Int} (e : d.toInt = z) (hz : 0 ≤ z ∧ z < 62) : (¬ d < 0 ∧ d < (62 : Int32)) ∧ own_AV.getD d.toNatClampNeg (.int 0) = .int (own_al z) := by
  refine ⟨⟨?_, ?_⟩, ?_⟩
  · rw [Int32.lt_iff_toInt_lt, show (0 : Int32).toInt = 0 by decide]; omega
  · rw [Int32.lt_iff_toInt_lt, show (62 : Int32).toInt = 62 by decide]; omega
  · have h : d.toNatClampNeg = z.toNat := by show d.toInt.toNat = _; rw [e]
    rw [h]
    simp only [own_AV, own_al, List.getD_eq_getElem?_getD, List.getElem?_map]
    have hl : z.toNat < own_AL.length := by show z.toNat < 62; omega
    rw [List.getElem?_eq_getElem hl]
    rfl
def own_CS (N : Int) : List Int32 := [own_al (own_d N 21), own_al (own_d N 20), own_al (own_d N 19), own_al (own_d N 18), own_al (own_d N 17), own_al (own_d N 16), own_al (own_d N 15), own_al (own_d N 14), own_al (own_d N 13), own_al (own_d N 12), own_al (own_d N 11), own_al (own_d N 10), own_al (own_d N 9), own_al (own_d N 8), own_al (own_d N 7), own_al (own_d N 6), own_al (own_d N 5), own_al (own_d N 4), own_al (own_d N 3), own_al (own_d N 2), own_al (own_d N 1), own_al (own_d N 0)]
def own_BV (N : Int) : List Value := (own_CS N).map Value.int
theorem own_CSb (N : Int) : ((own_CS N).map fun c => c.toInt8.toInt32).map Value.int = own_BV N := by
  simp only [own_CS, own_BV, List.map_cons, List.map_nil, own_alb (own_dB N _)]
theorem own_CSr (N : Int) : ∀ c ∈ own_CS N, ¬ c < 0 ∧ ¬ (255 : Int32) < c := fun c hc => by
  simp only [own_CS, List.mem_cons, List.not_mem_nil, or_false] at hc
  rcases hc with rfl | rfl | rfl | rfl | rfl | rfl | rfl | rfl | rfl | rfl | rfl | rfl | rfl | rfl | rfl | rfl | rfl | rfl | rfl | rfl | rfl | rfl <;> exact own_alr (own_dB N _)
def own_into (no : Nat) (N : Int) : List Value := List.replicate no (.int 0) ++ own_BV N ++ List.replicate (4 - no) (.int 0)
theorem own_intoL {no : Nat} (N : Int) (h : no ≤ 3) : (own_into no N).length = 26 := by
  rcases (by omega : no = 0 ∨ no = 1 ∨ no = 2 ∨ no = 3) with rfl | rfl | rfl | rfl <;> rfl
def own_T (no : Nat) (N : Int) : Nat → List Value
  | 0 => List.replicate (4 - no) (.int 0)
  | k + 1 => .int (own_al (own_d N k)) :: own_T no N k
def own_pre (no : Nat) (N : Int) (k : Nat) : List Value := List.replicate (no + (22 - k)) (.int 0) ++ own_T no N k
theorem own_TL (no : Nat) (N : Int) : ∀ k, (own_T no N k).length = 4 - no + k
  | 0 => by simp [own_T]
  | k + 1 => by simp only [own_T, List.length_cons, own_TL no N k]; omega
theorem own_preL {no : Nat} (N : Int) (h : no ≤ 3) {k : Nat} (hk : k ≤ 22) : (own_pre no N k).length = 26 := by
  simp only [own_pre, List.length_append, List.length_replicate, own_TL]; omega
theorem own_preI {no : Nat} (N : Int) (h : no ≤ 3) {k j : Nat} (hk : k ≤ 22) (hj : j ≤ 22) : no + j < (own_pre no N k).length := by rw [own_preL N h hk]; omega
theorem own_setL (z v : Value) (T : List Value) : ∀ n, (List.replicate (n + 1) z ++ T).set n v = List.replicate n z ++ v :: T
  | 0 => rfl
  | n + 1 => by
    rw [List.replicate_succ, List.cons_append, List.set_cons_succ, own_setL z v T n, List.replicate_succ, List.cons_append]
theorem own_preS {no : Nat} {N : Int} {k : Nat} (hk : k < 22) : (own_pre no N k).set (no + (21 - k)) (Value.int (own_al (own_d N k))) = own_pre no N (k + 1) := by
  unfold own_pre
  rw [show no + (22 - k) = (no + (21 - k)) + 1 by omega, own_setL, show no + (22 - (k + 1)) = no + (21 - k) by omega]
  rfl
theorem own_pre0 {no : Nat} {N : Int} (h : no ≤ 3) : List.replicate 26 (Value.int (0 : Int32)) = own_pre no N 0 := by
  unfold own_pre own_T
  rw [List.replicate_append_replicate]
  congr 1
  omega
theorem own_pre22 {no : Nat} {N : Int} : own_pre no N 22 = own_into no N := by
  unfold own_pre own_into
  rw [List.append_assoc]
  rfl
theorem own_g0 {no : Nat} {N : Int} (h : no ≤ 3) : (own_into no N).getD (no + 0) (.int 0) = .int (own_al (own_d N 21)) := by
  rcases (by omega : no = 0 ∨ no = 1 ∨ no = 2 ∨ no = 3) with rfl | rfl | rfl | rfl <;> rfl
theorem own_g1 {no : Nat} {N : Int} (h : no ≤ 3) : (own_into no N).getD (no + 1) (.int 0) = .int (own_al (own_d N 20)) := by
  rcases (by omega : no = 0 ∨ no = 1 ∨ no = 2 ∨ no = 3) with rfl | rfl | rfl | rfl <;> rfl
theorem own_g2 {no : Nat} {N : Int} (h : no ≤ 3) : (own_into no N).getD (no + 2) (.int 0) = .int (own_al (own_d N 19)) := by
  rcases (by omega : no = 0 ∨ no = 1 ∨ no = 2 ∨ no = 3) with rfl | rfl | rfl | rfl <;> rfl
theorem own_g3 {no : Nat} {N : Int} (h : no ≤ 3) : (own_into no N).getD (no + 3) (.int 0) = .int (own_al (own_d N 18)) := by
  rcases (by omega : no = 0 ∨ no = 1 ∨ no = 2 ∨ no = 3) with rfl | rfl | rfl | rfl <;> rfl
theorem own_g4 {no : Nat} {N : Int} (h : no ≤ 3) : (own_into no N).getD (no + 4) (.int 0) = .int (own_al (own_d N 17)) := by
  rcases (by omega : no = 0 ∨ no = 1 ∨ no = 2 ∨ no = 3) with rfl | rfl | rfl | rfl <;> rfl
theorem own_g5 {no : Nat} {N : Int} (h : no ≤ 3) : (own_into no N).getD (no + 5) (.int 0) = .int (own_al (own_d N 16)) := by
  rcases (by omega : no = 0 ∨ no = 1 ∨ no = 2 ∨ no = 3) with rfl | rfl | rfl | rfl <;> rfl
theorem own_g6 {no : Nat} {N : Int} (h : no ≤ 3) : (own_into no N).getD (no + 6) (.int 0) = .int (own_al (own_d N 15)) := by
  rcases (by omega : no = 0 ∨ no = 1 ∨ no = 2 ∨ no = 3) with rfl | rfl | rfl | rfl <;> rfl
theorem own_g7 {no : Nat} {N : Int} (h : no ≤ 3) : (own_into no N).getD (no + 7) (.int 0) = .int (own_al (own_d N 14)) := by
  rcases (by omega : no = 0 ∨ no = 1 ∨ no = 2 ∨ no = 3) with rfl | rfl | rfl | rfl <;> rfl
theorem own_g8 {no : Nat} {N : Int} (h : no ≤ 3) : (own_into no N).getD (no + 8) (.int 0) = .int (own_al (own_d N 13)) := by
  rcases (by omega : no = 0 ∨ no = 1 ∨ no = 2 ∨ no = 3) with rfl | rfl | rfl | rfl <;> rfl
theorem own_g9 {no : Nat} {N : Int} (h : no ≤ 3) : (own_into no N).getD (no + 9) (.int 0) = .int (own_al (own_d N 12)) := by
  rcases (by omega : no = 0 ∨ no = 1 ∨ no = 2 ∨ no = 3) with rfl | rfl | rfl | rfl <;> rfl
theorem own_g10 {no : Nat} {N : Int} (h : no ≤ 3) : (own_into no N).getD (no + 10) (.int 0) = .int (own_al (own_d N 11)) := by
  rcases (by omega : no = 0 ∨ no = 1 ∨ no = 2 ∨ no = 3) with rfl | rfl | rfl | rfl <;> rfl
theorem own_g11 {no : Nat} {N : Int} (h : no ≤ 3) : (own_into no N).getD (no + 11) (.int 0) = .int (own_al (own_d N 10)) := by
  rcases (by omega : no = 0 ∨ no = 1 ∨ no = 2 ∨ no = 3) with rfl | rfl | rfl | rfl <;> rfl
theorem own_g12 {no : Nat} {N : Int} (h : no ≤ 3) : (own_into no N).getD (no + 12) (.int 0) = .int (own_al (own_d N 9)) := by
  rcases (by omega : no = 0 ∨ no = 1 ∨ no = 2 ∨ no = 3) with rfl | rfl | rfl | rfl <;> rfl
theorem own_g13 {no : Nat} {N : Int} (h : no ≤ 3) : (own_into no N).getD (no + 13) (.int 0) = .int (own_al (own_d N 8)) := by
  rcases (by omega : no = 0 ∨ no = 1 ∨ no = 2 ∨ no = 3) with rfl | rfl | rfl | rfl <;> rfl
theorem own_g14 {no : Nat} {N : Int} (h : no ≤ 3) : (own_into no N).getD (no + 14) (.int 0) = .int (own_al (own_d N 7)) := by
  rcases (by omega : no = 0 ∨ no = 1 ∨ no = 2 ∨ no = 3) with rfl | rfl | rfl | rfl <;> rfl
theorem own_g15 {no : Nat} {N : Int} (h : no ≤ 3) : (own_into no N).getD (no + 15) (.int 0) = .int (own_al (own_d N 6)) := by
  rcases (by omega : no = 0 ∨ no = 1 ∨ no = 2 ∨ no = 3) with rfl | rfl | rfl | rfl <;> rfl
theorem own_g16 {no : Nat} {N : Int} (h : no ≤ 3) : (own_into no N).getD (no + 16) (.int 0) = .int (own_al (own_d N 5)) := by
  rcases (by omega : no = 0 ∨ no = 1 ∨ no = 2 ∨ no = 3) with rfl | rfl | rfl | rfl <;> rfl
theorem own_g17 {no : Nat} {N : Int} (h : no ≤ 3) : (own_into no N).getD (no + 17) (.int 0) = .int (own_al (own_d N 4)) := by
  rcases (by omega : no = 0 ∨ no = 1 ∨ no = 2 ∨ no = 3) with rfl | rfl | rfl | rfl <;> rfl
theorem own_g18 {no : Nat} {N : Int} (h : no ≤ 3) : (own_into no N).getD (no + 18) (.int 0) = .int (own_al (own_d N 3)) := by
  rcases (by omega : no = 0 ∨ no = 1 ∨ no = 2 ∨ no = 3) with rfl | rfl | rfl | rfl <;> rfl
theorem own_g19 {no : Nat} {N : Int} (h : no ≤ 3) : (own_into no N).getD (no + 19) (.int 0) = .int (own_al (own_d N 2)) := by
  rcases (by omega : no = 0 ∨ no = 1 ∨ no = 2 ∨ no = 3) with rfl | rfl | rfl | rfl <;> rfl
theorem own_g20 {no : Nat} {N : Int} (h : no ≤ 3) : (own_into no N).getD (no + 20) (.int 0) = .int (own_al (own_d N 1)) := by
  rcases (by omega : no = 0 ∨ no = 1 ∨ no = 2 ∨ no = 3) with rfl | rfl | rfl | rfl <;> rfl
theorem own_g21 {no : Nat} {N : Int} (h : no ≤ 3) : (own_into no N).getD (no + 21) (.int 0) = .int (own_al (own_d N 0)) := by
  rcases (by omega : no = 0 ∨ no = 1 ∨ no = 2 ∨ no = 3) with rfl | rfl | rfl | rfl <;> rfl

theorem own_lenC {args : Array Value} {s : State} {t : Term} {a : Addr} {c : Cell} {ty : FieldType} {z : Int32} (ev : t.eval args s none [] s = some (.ref a)) (A : Arr s s.heap a c ty) (h : (Term.length t).eval args s none [] s = some (.int z)) : c.slots.size < 2 ^ 31 ∧ c.slots.size.toInt32 = z := by
  have ha := A.fin (Vm.Alike.refl _)
  by_cases hl : c.slots.size < 2 ^ 31
  · rw [len_f ev ha hl] at h
    exact ⟨hl, by cases h; rfl⟩
  · simp [Term.eval, ev, ha, hl] at h
theorem own_or {args : Array Value} {s : State} {a b : Cond} {idx : List Nat} (q : a.value args s none s idx = some false) (h : (Cond.or a b).value args s none s idx = some true) : b.value args s none s idx = some true := by
  simpa only [Cond.value, q] using h
theorem own_orLe {args : Array Value} {s : State} {c : Cond} {j K : Int32} (hj : ¬ j < 0) (hl : ¬ K ≤ j) (h : (Cond.or (.le (.int K) (.index 0)) c).value args s none s [j.toNatClampNeg] = some true) : c.value args s none s [j.toNatClampNeg] = some true := by
  have ia : (Term.index 0).eval args s none [j.toNatClampNeg] s = some (.int j) := idx_at hj
  have q : (Cond.le (.int K) (.index 0)).value args s none s [j.toNatClampNeg] = some false := by
    simp only [Cond.value, ia, Term.int_eval]
    simp [hl]
  exact own_or q h
theorem own_orLt {args : Array Value} {s : State} {c : Cond} {j K : Int32} (hj : ¬ j < 0) (hl : ¬ j < K) (h : (Cond.or (.lt (.index 0) (.int K)) c).value args s none s [j.toNatClampNeg] = some true) : c.value args s none s [j.toNatClampNeg] = some true := by
  have ia : (Term.index 0).eval args s none [j.toNatClampNeg] s = some (.int j) := idx_at hj
  have q : (Cond.lt (.index 0) (.int K)).value args s none s [j.toNatClampNeg] = some false := by
    simp only [Cond.value, ia, Term.int_eval]
    simp [hl]
  exact own_or q h
theorem own_elS {args : Array Value} {s : State} {t : Term} {a : Addr} {cl : Cell} {ty : FieldType} {K : Int32} (ev : ∀ idx, t.eval args s none idx s = some (.ref a)) (A : Arr s s.heap a cl ty) (j : Int32) (hj : ¬ j < 0)
    (h : (Cond.eq (.elem t (.index 0)) (.sub (.index 0) (.int K))).value args s none s [j.toNatClampNeg] = some true) : cl.slots[j.toNatClampNeg]? = some (.int (j - K)) := by
  have ia : (Term.index 0).eval args s none [j.toNatClampNeg] s = some (.int j) := idx_at hj
  have e1 : (Term.elem t (.index 0)).eval args s none [j.toNatClampNeg] s = cl.slots[j.toNatClampNeg]? := elem_f (ev _) ia (A.fin (Vm.Alike.refl _)) hj
  have q2 : (Term.sub (.index 0) (.int K)).eval args s none [j.toNatClampNeg] s = some (.int (j - K)) := by
    have q := ia
    simp only [Term.eval] at q ⊢
    rw [q]
    rfl
  simp only [Cond.value, e1, q2] at h
  cases hv : cl.slots[j.toNatClampNeg]? with
  | none => simp [hv] at h
  | some v =>
    cases v with
    | int y => simp [hv] at h; rw [h]
    | _ => simp [hv] at h
theorem own_dgStart {args : Array Value} {s : State} {t : Term} {a : Addr} {cl : Cell} (hf : Fit s) (ev : ∀ idx, t.eval args s none idx s = some (.ref a)) (A : Arr s s.heap a cl .int) (hq1 : cl.slots.size < 2 ^ 31) (hq2 : cl.slots.size.toInt32 = 128)
    (h1 : (Cond.all t (.or (.lt (.index 0) (.int 48)) (.or (.le (.int 58) (.index 0)) (.eq (.elem t (.index 0)) (.sub (.index 0) (.int 48)))))).value args s none s [] = some true)
    (h2 : (Cond.all t (.or (.lt (.index 0) (.int 65)) (.or (.le (.int 91) (.index 0)) (.eq (.elem t (.index 0)) (.sub (.index 0) (.int 55)))))).value args s none s [] = some true)
    (h3 : (Cond.all t (.or (.lt (.index 0) (.int 97)) (.or (.le (.int 123) (.index 0)) (.eq (.elem t (.index 0)) (.sub (.index 0) (.int 61)))))).value args s none s [] = some true) :
    Arv s s.heap a cl.cls .int (128 : Int32) cl.slots.toList (.int 0) ∧ ∀ z : Int, 0 ≤ z ∧ z < 62 → cl.slots.toList.getD (own_al z).toNatClampNeg (.int 0) = .int (own_dI z) := by
  have S : cl.slots.size = 128 := by
    have e := congrArg Int32.toInt hq2
    rw [len_toInt hq1] at e
    have : (128 : Int32).toInt = 128 := by decide
    omega
  have hA := A.fin (Vm.Alike.refl _)
  have a1 := Cond.all_elim (ev []) hA h1
  have a2 := Cond.all_elim (ev []) hA h2
  have a3 := Cond.all_elim (ev []) hA h3
  have hlt : ∀ z : Int, 0 ≤ z ∧ z < 62 → (own_al z).toNatClampNeg < cl.slots.size := fun z hz => by
    rw [S]; exact own_alP (P := fun _ x => x.toNatClampNeg < 128) (by decide) hz
  have key : ∀ z : Int, 0 ≤ z ∧ z < 62 → cl.slots[(own_al z).toNatClampNeg]? = some (.int (own_dI z)) := fun z hz => by
    have hj := (own_al128 hz).1
    by_cases g1 : z < 10
    · obtain ⟨q1, q2, q3⟩ := own_alP (P := fun z x => z < 10 → ¬ x < 48 ∧ ¬ (58 : Int32) ≤ x ∧ x - 48 = own_dI z) (by decide) hz g1
      rw [← q3]; exact own_elS ev A _ hj (own_orLe hj q2 (own_orLt hj q1 (a1 _ (hlt z hz))))
    · by_cases g2 : z < 36
      · obtain ⟨q1, q2, q3⟩ := own_alP (P := fun z x => ¬ z < 10 → z < 36 → ¬ x < 65 ∧ ¬ (91 : Int32) ≤ x ∧ x - 55 = own_dI z) (by decide) hz g1 g2
        rw [← q3]; exact own_elS ev A _ hj (own_orLe hj q2 (own_orLt hj q1 (a2 _ (hlt z hz))))
      · obtain ⟨q1, q2, q3⟩ := own_alP (P := fun z x => ¬ z < 36 → ¬ x < 97 ∧ ¬ (123 : Int32) ≤ x ∧ x - 61 = own_dI z) (by decide) hz g2
        rw [← q3]; exact own_elS ev A _ hj (own_orLe hj q2 (own_orLt hj q1 (a3 _ (hlt z hz))))
  have hs : ∀ i, i < cl.slots.size → cl.slots[i]? = some (cl.slots.toList.getD i (.int 0)) := fun i hi => by
    simp [hi]
  refine ⟨⟨cl, A, rfl, by rw [S]; rfl, by decide, hs, fun i hi => ?_⟩, fun z hz => ?_⟩
  · have e1 : (Nat.toInt32 i).toNatClampNeg = i := by simp only [Int32.toNatClampNeg, len_toInt (Nat.lt_trans hi hq1)]; rfl
    have e2 : ¬ (Nat.toInt32 i) < 0 := by
      rw [Int32.lt_iff_toInt_lt, len_toInt (Nat.lt_trans hi hq1)]
      have : (0 : Int32).toInt = 0 := by decide
      omega
    exact elem_fits (j := Nat.toInt32 i) hf A (by rw [e1]; intro q; rcases q with q | q; exact e2 q; omega) (by rw [e1]; exact hs i hi)
  · have k := key z hz
    rw [hs _ (hlt z hz)] at k
    exact Option.some.inj k

abbrev own_EL : List (String × Nat) := [("com/example/nuthatch/nuthatch/EventId", 36), ("com/example/nuthatch/nuthatch/EventId", 107)]
theorem own_hEL {Z : State} {a0 : Array Value} (hw : ∀ d ∈ tables_1, d.before a0 Z = true) : EW Z a0 own_EL := EW.cons (hw _ (own_w 110 rfl)) (by decide +kernel) (EW.cons (hw _ (own_w 37 rfl)) (by decide +kernel) (EW.nil))
theorem ej42m152_d0 : decode jdk_42_method_152_code 0 = .ok (.getstatic 38, 3) := by decide +kernel
theorem ej42m152_d3 : decode jdk_42_method_152_code 3 = .ok (.ifCond .eq 10, 3) := by decide +kernel
theorem ej42m152_d6 : decode jdk_42_method_152_code 6 = .ok (.aload_n 0, 1) := by decide +kernel
theorem ej42m152_d7 : decode jdk_42_method_152_code 7 = .ok (.getfield 15, 3) := by decide +kernel
theorem ej42m152_d10 : decode jdk_42_method_152_code 10 = .ok (.goto 4, 3) := by decide +kernel
theorem ej42m152_d14 : decode jdk_42_method_152_code 14 = .ok (.ireturn, 1) := by decide +kernel
theorem own_coder_pn : plainFor (⟨"java/lang/String", "coder", "()B"⟩ : MethodName) = true := by first | exact plainFor_of_name (by first | (simp [plainName, overriddenIn]; done) | decide +kernel) | decide +kernel | exact Jvm.Free.JP.mathPlain rfl (by decide +kernel)
theorem own_coder_ef (m : MethodId) (x0 : Addr) : entryFrame m #[(.ref x0)] 1 = mkF m 0 #[.val (.ref x0)] [] := by first | (simp [entryFrame, mkF, argsToLocals, Value.category]; done) | rfl
def own_coder_Q (Z : State) (a1 : Addr) (va : Addr) (kv : ClassId) (z : Int32) (vs : List Value) (zc : Int32) (h0 : Heap) (n0 : Nat) (v : Option Value) (h : Heap) (L : List Loc) : Prop := v = some (.int 0) ∧ Fr n0 L ∧ h = h0
set_option maxRecDepth 65536 in
set_option maxHeartbeats 40000000 in
theorem own_coder (l : Launch) (Z : State) (a0 : Array Value) (hw : ∀ d ∈ tables_1, d.before a0 Z = true) (ws : List Jvm.Cond) (a1 : Addr) (va : Addr) (kv : ClassId) (z : Int32) (vs : List Value) (zc : Int32) (h0 : Heap) (n0 : Nat) (O : Old Z n0 h0) (E_a1 : Exa Z h0 a1 "java/lang/String") (F_value_a1 : Fld Z h0 a1 "java/lang/String" "value" "[B" (.ref va)) (F_coder_a1 : Fld Z h0 a1 "java/lang/String" "coder" "B" (.int 0)) (V_va : Arv Z h0 va kv .byte z vs (.int 0)) (S_C : Sta Z Z.heap "java/lang/String" "COMPACT_STRINGS" "Z" (.int zc)) (hzc : ¬ zc = 0) :
    MetFree l (⟨"java/lang/String", "coder", "()B"⟩ : MethodName) (head1 (Jvm.Cond.code (⟨"java/lang/String", "coder", "()B"⟩ : MethodName) jdk_42_method_152_code 1 (some .byte) :: ws) ({ frames := 0, cells := 0, slots := 0, locals := 0 } : Room)) (fun a U => a = #[(.ref a1)] ∧ Z.Warmed39 U.vm ∧ U.heap = h0) (fun _ _ _ _ _ => True) (fun _ U o U' => ∃ v L, o = .returned v ∧ own_coder_Q Z a1 va kv z vs zc h0 n0 v U'.heap L ∧ FrameEnd U o U' L ({ frames := 0, cells := 0, slots := 0, locals := 0 } : Room).cells ({ frames := 0, cells := 0, slots := 0, locals := 0 } : Room).slots) := by
  refine MetFree.of_bodySF own_coder_pn hisR ?_
  intro p e s m args below meth c s₁ Bd hml0 hP hK
  obtain ⟨rfl, hZ, hh⟩ := hP
  have hx := Bd.exec
  have hby := Bd.bytes
  have hlk := Bd.notSynchronized
  have hml : c.maxLocals = 1 := hml0
  have hown : s.vm.findClass "java/lang/String" = some m.cls := findClass_of_methodNamed Bd.named
  have hnm := (name_of_methodNamed Bd.named Bd.method).1
  have X : Stand p l e ({ frames := 0, cells := 0, slots := 0, locals := 0 } : Room) s m #[(.ref a1)] below meth c s₁ [] 0 0 := Stand.of_body Bd
  have eT : s₁.heap = h0 := by rw [← hh, Bd.state]; rfl
  have N := Fr.nil n0
  have K0 := Keep.refl h0 []
  show own_Ends p e below (own_Post s below (own_coder_Q Z a1 va kv z vs zc h0 n0) ({ frames := 0, cells := 0, slots := 0, locals := 0 } : Room).cells ({ frames := 0, cells := 0, slots := 0, locals := 0 } : Room).slots) s₁ (entryFrame m #[(.ref a1)] 1)
  rw [own_coder_ef m a1]
  obtain ⟨T, hT⟩ : ∃ z, z = s₁ := ⟨_, rfl⟩
  rw [← hT] at X eT ⊢
  obtain ⟨h, hh0⟩ : ∃ z, z = h0 := ⟨_, rfl⟩
  rw [← hh0] at eT
  replace O : Old Z n0 h := by rw [hh0]; exact O
  replace K0 : Keep h0 h [] := by rw [hh0]; exact K0
  rw [← hh0] at E_a1
  rw [← hh0] at F_value_a1
  rw [← hh0] at F_coder_a1
  rw [← hh0] at V_va
  obtain ⟨T, X, eT, st⟩ := getS2 X hx hZ hown (host := "") (Or.inl (hw _ (own_w 56 rfl))) Via.refl eT (S_C.ext O.2) (g := (mkF m 0 #[.val (.ref a1)] [])) rfl (hb hby ej42m152_d0)
  refine own_via (g' := (mkF m 3 #[.val (.ref a1)] [(.int zc)])) st ?_
  refine own_via (g' := (mkF m 7 #[.val (.ref a1)] [(.ref a1)])) (fun t_ k_ => XS.ifNo X.here hx rfl (hb hby ej42m152_d3) rfl ((if0 _ _).trans (feq hzc).1) (XS.aloadN X.here hx rfl (hb hby ej42m152_d6) rfl rfl k_)) ?_
  obtain ⟨T, X, eT, st⟩ := getF X hx hZ hown (host := "") (Or.inl (hw _ (own_w 57 rfl))) Via.refl eT F_coder_a1 (g := (mkF m 7 #[.val (.ref a1)] [(.ref a1)])) rfl rfl (hb hby ej42m152_d7)
  refine own_via (g' := (mkF m 10 #[.val (.ref a1)] [(.int 0)])) st ?_
  refine own_via (g' := (mkF m 14 #[.val (.ref a1)] [(.int 0)])) (fun t_ k_ => XS.goto X.here hx rfl (pc0 := 10) (pc' := 14) rfl (hb hby ej42m152_d10) (by decide) (by decide) k_) ?_
  refine own_retN X hx hlk (t := .byte) Bd.returns (by simp) (hb hby ej42m152_d14) (by decide) (by decide) ?_
  rw [eT]
  exact ⟨rfl, N, hh0⟩
theorem ej42m54_d0 : decode jdk_42_method_54_code 0 = .ok (.aload_n 0, 1) := by decide +kernel
theorem ej42m54_d1 : decode jdk_42_method_54_code 1 = .ok (.getfield 9, 3) := by decide +kernel
theorem ej42m54_d4 : decode jdk_42_method_54_code 4 = .ok (.arraylength, 1) := by decide +kernel
theorem ej42m54_d5 : decode jdk_42_method_54_code 5 = .ok (.aload_n 0, 1) := by decide +kernel
theorem ej42m54_d6 : decode jdk_42_method_54_code 6 = .ok (.invokevirtual 335, 3) := by decide +kernel
theorem ej42m54_d9 : decode jdk_42_method_54_code 9 = .ok (.ishr, 1) := by decide +kernel
theorem ej42m54_d10 : decode jdk_42_method_54_code 10 = .ok (.ireturn, 1) := by decide +kernel
theorem own_strlen_pn : plainFor (⟨"java/lang/String", "length", "()I"⟩ : MethodName) = true := by first | exact plainFor_of_name (by first | (simp [plainName, overriddenIn]; done) | decide +kernel) | decide +kernel | exact Jvm.Free.JP.mathPlain rfl (by decide +kernel)
theorem own_strlen_ef (m : MethodId) (x0 : Addr) : entryFrame m #[(.ref x0)] 1 = mkF m 0 #[.val (.ref x0)] [] := by first | (simp [entryFrame, mkF, argsToLocals, Value.category]; done) | rfl
def own_strlen_Q (Z : State) (a1 : Addr) (va : Addr) (kv : ClassId) (z : Int32) (vs : List Value) (zc : Int32) (h0 : Heap) (n0 : Nat) (v : Option Value) (h : Heap) (L : List Loc) : Prop := v = some (.int z) ∧ Fr n0 L ∧ h = h0
set_option maxRecDepth 65536 in
set_option maxHeartbeats 40000000 in
theorem own_strlen (l : Launch) (Z : State) (a0 : Array Value) (hw : ∀ d ∈ tables_1, d.before a0 Z = true) (ws : List Jvm.Cond) (a1 : Addr) (va : Addr) (kv : ClassId) (z : Int32) (vs : List Value) (zc : Int32) (h0 : Heap) (n0 : Nat) (O : Old Z n0 h0) (E_a1 : Exa Z h0 a1 "java/lang/String") (F_value_a1 : Fld Z h0 a1 "java/lang/String" "value" "[B" (.ref va)) (F_coder_a1 : Fld Z h0 a1 "java/lang/String" "coder" "B" (.int 0)) (V_va : Arv Z h0 va kv .byte z vs (.int 0)) (S_C : Sta Z Z.heap "java/lang/String" "COMPACT_STRINGS" "Z" (.int zc)) (hzc : ¬ zc = 0) :
    MetFree l (⟨"java/lang/String", "length", "()I"⟩ : MethodName) (head1 (Jvm.Cond.code (⟨"java/lang/String", "length", "()I"⟩ : MethodName) jdk_42_method_54_code 1 (some .int) :: ws) ({ frames := 1, cells := 0, slots := 0, locals := 13 } : Room)) (fun a U => a = #[(.ref a1)] ∧ Z.Warmed39 U.vm ∧ U.heap = h0) (fun _ _ _ _ _ => True) (fun _ U o U' => ∃ v L, o = .returned v ∧ own_strlen_Q Z a1 va kv z vs zc h0 n0 v U'.heap L ∧ FrameEnd U o U' L ({ frames := 1, cells := 0, slots := 0, locals := 13 } : Room).cells ({ frames := 1, cells := 0, slots := 0, locals := 13 } : Room).slots) := by
  refine MetFree.of_bodySF own_strlen_pn hisR ?_
  intro p e s m args below meth c s₁ Bd hml0 hP hK
  obtain ⟨rfl, hZ, hh⟩ := hP
  have hx := Bd.exec
  have hby := Bd.bytes
  have hlk := Bd.notSynchronized
  have hml : c.maxLocals = 1 := hml0
  have hown : s.vm.findClass "java/lang/String" = some m.cls := findClass_of_methodNamed Bd.named
  have hnm := (name_of_methodNamed Bd.named Bd.method).1
  have X : Stand p l e ({ frames := 1, cells := 0, slots := 0, locals := 13 } : Room) s m #[(.ref a1)] below meth c s₁ [] 0 0 := Stand.of_body Bd
  have eT : s₁.heap = h0 := by rw [← hh, Bd.state]; rfl
  have N := Fr.nil n0
  have K0 := Keep.refl h0 []
  show own_Ends p e below (own_Post s below (own_strlen_Q Z a1 va kv z vs zc h0 n0) ({ frames := 1, cells := 0, slots := 0, locals := 13 } : Room).cells ({ frames := 1, cells := 0, slots := 0, locals := 13 } : Room).slots) s₁ (entryFrame m #[(.ref a1)] 1)
  rw [own_strlen_ef m a1]
  obtain ⟨T, hT⟩ : ∃ z, z = s₁ := ⟨_, rfl⟩
  rw [← hT] at X eT ⊢
  obtain ⟨h, hh0⟩ : ∃ z, z = h0 := ⟨_, rfl⟩
  rw [← hh0] at eT
  replace O : Old Z n0 h := by rw [hh0]; exact O
  replace K0 : Keep h0 h [] := by rw [hh0]; exact K0
  rw [← hh0] at E_a1
  rw [← hh0] at F_value_a1
  rw [← hh0] at F_coder_a1
  rw [← hh0] at V_va
  refine own_via (g' := (mkF m 1 #[.val (.ref a1)] [(.ref a1)])) (fun t_ k_ => XS.aloadN X.here hx rfl (hb hby ej42m54_d0) rfl rfl k_) ?_
  obtain ⟨T, X, eT, st⟩ := getF X hx hZ hown (host := "") (Or.inl (hw _ (own_w 58 rfl))) Via.refl eT F_value_a1 (g := (mkF m 1 #[.val (.ref a1)] [(.ref a1)])) rfl rfl (hb hby ej42m54_d1)
  refine own_via (g' := (mkF m 4 #[.val (.ref a1)] [(.ref va)])) st ?_
  obtain ⟨cl_, Ar_, -, Sz_, Nn_, -, -⟩ := id V_va
  refine own_via (g' := (mkF m 5 #[.val (.ref a1)] [(.int z)])) (fun t_ k_ => X.arraylength hx (by rw [eT]; exact Ar_.1) (State.isArrayOf_alike hZ.alike Ar_.2.1) (g := (mkF m 4 #[.val (.ref a1)] [(.ref va)])) rfl rfl (hb hby ej42m54_d4) _ (by rw [len_of Sz_ Nn_]; exact k_)) ?_
  refine own_via (g' := (mkF m 6 #[.val (.ref a1)] [(.ref a1), (.int z)])) (fun t_ k_ => XS.aloadN X.here hx rfl (hb hby ej42m54_d5) rfl rfl k_) ?_
  obtain ⟨cq, kq, qa, qb, qc⟩ := isOf hZ eT E_a1
  obtain ⟨_, _, ⟨T, Lq, kq, nq⟩, -, X, ⟨Lc, hQ, lq, yq, zq⟩, st⟩ := X.virtualBack hx (y := own_y0) (z := own_y0) hown (mvT hZ (hw _ (own_w 120 rfl))) (mvT hZ (hw _ (own_w 121 rfl))) (notFace_of_selects (args := #[]) (mvT hZ (hw _ (own_w 123 rfl)))) (mvT hZ (hw _ (own_w 123 rfl))) (mvT hZ (hw _ (own_w 122 rfl))) (by decide) (backOf (W := 1) (own_coder l Z a0 hw [] a1 va kv z vs zc h n0 O E_a1 F_value_a1 F_coder_a1 V_va S_C hzc) hZ (hw _ (own_w 124 rfl)) (hw _ (own_w 38 rfl)) (by decide) (by decide)) qa qc (g := (mkF m 6 #[.val (.ref a1)] [(.ref a1), (.int z)])) rfl (by rw [hml]; rfl) (Steps.refl _) (argsL := []) (rest := [(.int z)]) (lenOf own_pd0 rfl) rfl (by show 2 * 0 + _ ≤ _; exact Nat.le_of_eq rfl) (hb hby ej42m54_d6) (fun _ _ => ⟨rfl, eT, (by decide : 0 + 0 ≤ _), (by decide : 0 + 0 ≤ _)⟩)
  dsimp only [Pt.U, Pt.locs, Pt.cells, Pt.slots] at X lq yq zq st hQ
  rw [lq, yq, zq] at X
  obtain ⟨rfl, Nq, eT⟩ := hQ
  replace N := Fr.app N Nq
  refine own_viaT (g' := (mkF m 9 #[.val (.ref a1)] [(.int 0), (.int z)])) st ?_
  refine own_via (g' := (mkF m 10 #[.val (.ref a1)] [(.int (z >>> ((0 : Int32) &&& 31)))])) (fun t_ k_ => XS.ishr X.here hx rfl (hb hby ej42m54_d9) rfl k_) ?_
  rw [own_shr0]
  refine own_retW X hx hlk Bd.returns rfl (Or.inl ⟨rfl, Or.inl rfl, _, rfl⟩) (hb hby ej42m54_d10) (by decide) (by decide) ?_
  rw [eT]
  exact ⟨rfl, N, hh0⟩
theorem ej42m154_d0 : decode jdk_42_method_154_code 0 = .ok (.getstatic 38, 3) := by decide +kernel
theorem ej42m154_d3 : decode jdk_42_method_154_code 3 = .ok (.ifCond .eq 14, 3) := by decide +kernel
theorem ej42m154_d6 : decode jdk_42_method_154_code 6 = .ok (.aload_n 0, 1) := by decide +kernel
theorem ej42m154_d7 : decode jdk_42_method_154_code 7 = .ok (.getfield 15, 3) := by decide +kernel
theorem ej42m154_d10 : decode jdk_42_method_154_code 10 = .ok (.ifCond .ne 7, 3) := by decide +kernel
theorem ej42m154_d13 : decode jdk_42_method_154_code 13 = .ok (.iconst 1, 1) := by decide +kernel
theorem ej42m154_d14 : decode jdk_42_method_154_code 14 = .ok (.goto 4, 3) := by decide +kernel
theorem ej42m154_d18 : decode jdk_42_method_154_code 18 = .ok (.ireturn, 1) := by decide +kernel
theorem own_sil_pn : plainFor (⟨"java/lang/String", "isLatin1", "()Z"⟩ : MethodName) = true := by first | exact plainFor_of_name (by first | (simp [plainName, overriddenIn]; done) | decide +kernel) | decide +kernel | exact Jvm.Free.JP.mathPlain rfl (by decide +kernel)
theorem own_sil_ef (m : MethodId) (x0 : Addr) : entryFrame m #[(.ref x0)] 1 = mkF m 0 #[.val (.ref x0)] [] := by first | (simp [entryFrame, mkF, argsToLocals, Value.category]; done) | rfl
def own_sil_Q (Z : State) (a1 : Addr) (va : Addr) (kv : ClassId) (z : Int32) (vs : List Value) (zc : Int32) (h0 : Heap) (n0 : Nat) (v : Option Value) (h : Heap) (L : List Loc) : Prop := v = some (.int 1) ∧ Fr n0 L ∧ h = h0
set_option maxRecDepth 65536 in
set_option maxHeartbeats 40000000 in
theorem own_sil (l : Launch) (Z : State) (a0 : Array Value) (hw : ∀ d ∈ tables_1, d.before a0 Z = true) (ws : List Jvm.Cond) (a1 : Addr) (va : Addr) (kv : ClassId) (z : Int32) (vs : List Value) (zc : Int32) (h0 : Heap) (n0 : Nat) (O : Old Z n0 h0) (E_a1 : Exa Z h0 a1 "java/lang/String") (F_value_a1 : Fld Z h0 a1 "java/lang/String" "value" "[B" (.ref va)) (F_coder_a1 : Fld Z h0 a1 "java/lang/String" "coder" "B" (.int 0)) (V_va : Arv Z h0 va kv .byte z vs (.int 0)) (S_C : Sta Z Z.heap "java/lang/String" "COMPACT_STRINGS" "Z" (.int zc)) (hzc : ¬ zc = 0) :
    MetFree l (⟨"java/lang/String", "isLatin1", "()Z"⟩ : MethodName) (head1 (Jvm.Cond.code (⟨"java/lang/String", "isLatin1", "()Z"⟩ : MethodName) jdk_42_method_154_code 1 (some .boolean) :: ws) ({ frames := 0, cells := 0, slots := 0, locals := 0 } : Room)) (fun a U => a = #[(.ref a1)] ∧ Z.Warmed39 U.vm ∧ U.heap = h0) (fun _ _ _ _ _ => True) (fun _ U o U' => ∃ v L, o = .returned v ∧ own_sil_Q Z a1 va kv z vs zc h0 n0 v U'.heap L ∧ FrameEnd U o U' L ({ frames := 0, cells := 0, slots := 0, locals := 0 } : Room).cells ({ frames := 0, cells := 0, slots := 0, locals := 0 } : Room).slots) := by
  refine MetFree.of_bodySF own_sil_pn hisR ?_
  intro p e s m args below meth c s₁ Bd hml0 hP hK
  obtain ⟨rfl, hZ, hh⟩ := hP
  have hx := Bd.exec
  have hby := Bd.bytes
  have hlk := Bd.notSynchronized
  have hml : c.maxLocals = 1 := hml0
  have hown : s.vm.findClass "java/lang/String" = some m.cls := findClass_of_methodNamed Bd.named
  have hnm := (name_of_methodNamed Bd.named Bd.method).1
  have X : Stand p l e ({ frames := 0, cells := 0, slots := 0, locals := 0 } : Room) s m #[(.ref a1)] below meth c s₁ [] 0 0 := Stand.of_body Bd
  have eT : s₁.heap = h0 := by rw [← hh, Bd.state]; rfl
  have N := Fr.nil n0
  have K0 := Keep.refl h0 []
  show own_Ends p e below (own_Post s below (own_sil_Q Z a1 va kv z vs zc h0 n0) ({ frames := 0, cells := 0, slots := 0, locals := 0 } : Room).cells ({ frames := 0, cells := 0, slots := 0, locals := 0 } : Room).slots) s₁ (entryFrame m #[(.ref a1)] 1)
  rw [own_sil_ef m a1]
  obtain ⟨T, hT⟩ : ∃ z, z = s₁ := ⟨_, rfl⟩
  rw [← hT] at X eT ⊢
  obtain ⟨h, hh0⟩ : ∃ z, z = h0 := ⟨_, rfl⟩
  rw [← hh0] at eT
  replace O : Old Z n0 h := by rw [hh0]; exact O
  replace K0 : Keep h0 h [] := by rw [hh0]; exact K0
  rw [← hh0] at E_a1
  rw [← hh0] at F_value_a1
  rw [← hh0] at F_coder_a1
  rw [← hh0] at V_va
  obtain ⟨T, X, eT, st⟩ := getS2 X hx hZ hown (host := "") (Or.inl (hw _ (own_w 56 rfl))) Via.refl eT (S_C.ext O.2) (g := (mkF m 0 #[.val (.ref a1)] [])) rfl (hb hby ej42m154_d0)
  refine own_via (g' := (mkF m 3 #[.val (.ref a1)] [(.int zc)])) st ?_
  refine own_via (g' := (mkF m 7 #[.val (.ref a1)] [(.ref a1)])) (fun t_ k_ => XS.ifNo X.here hx rfl (hb hby ej42m154_d3) rfl ((if0 _ _).trans (feq hzc).1) (XS.aloadN X.here hx rfl (hb hby ej42m154_d6) rfl rfl k_)) ?_
  obtain ⟨T, X, eT, st⟩ := getF X hx hZ hown (host := "") (Or.inl (hw _ (own_w 57 rfl))) Via.refl eT F_coder_a1 (g := (mkF m 7 #[.val (.ref a1)] [(.ref a1)])) rfl rfl (hb hby ej42m154_d7)
  refine own_via (g' := (mkF m 10 #[.val (.ref a1)] [(.int 0)])) st ?_
  refine own_via (g' := (mkF m 18 #[.val (.ref a1)] [(.int 1)])) (fun t_ k_ => XS.ifNo X.here hx rfl (hb hby ej42m154_d10) rfl ((if0 _ _).trans (teq (by decide : (0 : Int32) = (0 : Int32))).2) (XS.iconst X.here hx rfl (hb hby ej42m154_d13) (XS.goto X.here hx rfl (pc0 := 14) (pc' := 18) rfl (hb hby ej42m154_d14) (by decide) (by decide) k_))) ?_
  refine own_retN X hx hlk (t := .boolean) Bd.returns (by simp) (hb hby ej42m154_d18) (by decide) (by decide) ?_
  rw [eT]
  exact ⟨rfl, N, hh0⟩
theorem ej41m11_d0 : decode jdk_41_method_11_code 0 = .ok (.iload_n 0, 1) := by decide +kernel
theorem ej41m11_d1 : decode jdk_41_method_11_code 1 = .ok (.ifCond .lt 8, 3) := by decide +kernel
theorem ej41m11_d4 : decode jdk_41_method_11_code 4 = .ok (.iload_n 0, 1) := by decide +kernel
theorem ej41m11_d5 : decode jdk_41_method_11_code 5 = .ok (.iload_n 1, 1) := by decide +kernel
theorem ej41m11_d6 : decode jdk_41_method_11_code 6 = .ok (.if_icmp .lt 10, 3) := by decide +kernel
theorem ej41m11_d16 : decode jdk_41_method_11_code 16 = .ok (.iload_n 0, 1) := by decide +kernel
theorem ej41m11_d17 : decode jdk_41_method_11_code 17 = .ok (.ireturn, 1) := by decide +kernel
theorem own_pci_pn : plainFor (⟨"jdk/internal/util/Preconditions", "checkIndex", "(IILjava/util/function/BiFunction;)I"⟩ : MethodName) = true := by first | exact plainFor_of_name (by first | (simp [plainName, overriddenIn]; done) | decide +kernel) | decide +kernel | exact Jvm.Free.JP.mathPlain rfl (by decide +kernel)
theorem own_pci_ef (m : MethodId) (x0 : Int32) (x1 : Int32) (x2 : Value) (hx2 : x2.isRef = true) : entryFrame m #[(.int x0), (.int x1), x2] 3 = mkF m 0 #[.val (.int x0), .val (.int x1), .val x2] [] := by rcases ref_cases hx2 with rfl | ⟨_, rfl⟩ <;> first | (simp [entryFrame, mkF, argsToLocals, Value.category]; done) | rfl
def own_pci_Q (Z : State) (j : Int32) (z : Int32) (vS : Value) (h0 : Heap) (n0 : Nat) (v : Option Value) (h : Heap) (L : List Loc) : Prop := v = some (.int j) ∧ Fr n0 L ∧ h = h0
set_option maxRecDepth 65536 in
set_option maxHeartbeats 40000000 in
theorem own_pci (l : Launch) (Z : State) (a0 : Array Value) (hw : ∀ d ∈ tables_1, d.before a0 Z = true) (ws : List Jvm.Cond) (j : Int32) (z : Int32) (vS : Value) (h0 : Heap) (n0 : Nat) (O : Old Z n0 h0) (hj : ¬ j < 0 ∧ j < z) (hvS : vS.isRef = true) :
    MetFree l (⟨"jdk/internal/util/Preconditions", "checkIndex", "(IILjava/util/function/BiFunction;)I"⟩ : MethodName) (head1 (Jvm.Cond.code (⟨"jdk/internal/util/Preconditions", "checkIndex", "(IILjava/util/function/BiFunction;)I"⟩ : MethodName) jdk_41_method_11_code 3 (some .int) :: ws) ({ frames := 0, cells := 0, slots := 0, locals := 0 } : Room)) (fun a U => a = #[(.int j), (.int z), vS] ∧ Z.Warmed39 U.vm ∧ U.heap = h0) (fun _ _ _ _ _ => True) (fun _ U o U' => ∃ v L, o = .returned v ∧ own_pci_Q Z j z vS h0 n0 v U'.heap L ∧ FrameEnd U o U' L ({ frames := 0, cells := 0, slots := 0, locals := 0 } : Room).cells ({ frames := 0, cells := 0, slots := 0, locals := 0 } : Room).slots) := by
  refine MetFree.of_bodySF own_pci_pn hisR ?_
  intro p e s m args below meth c s₁ Bd hml0 hP hK
  obtain ⟨rfl, hZ, hh⟩ := hP
  have hx := Bd.exec
  have hby := Bd.bytes
  have hlk := Bd.notSynchronized
  have hml : c.maxLocals = 3 := hml0
  have hown : s.vm.findClass "jdk/internal/util/Preconditions" = some m.cls := findClass_of_methodNamed Bd.named
  have hnm := (name_of_methodNamed Bd.named Bd.method).1
  have X : Stand p l e ({ frames := 0, cells := 0, slots := 0, locals := 0 } : Room) s m #[(.int j), (.int z), vS] below meth c s₁ [] 0 0 := Stand.of_body Bd
  have eT : s₁.heap = h0 := by rw [← hh, Bd.state]; rfl
  have N := Fr.nil n0
  have K0 := Keep.refl h0 []
  show own_Ends p e below (own_Post s below (own_pci_Q Z j z vS h0 n0) ({ frames := 0, cells := 0, slots := 0, locals := 0 } : Room).cells ({ frames := 0, cells := 0, slots := 0, locals := 0 } : Room).slots) s₁ (entryFrame m #[(.int j), (.int z), vS] 3)
  rw [own_pci_ef m j z vS hvS]
  obtain ⟨T, hT⟩ : ∃ z, z = s₁ := ⟨_, rfl⟩
  rw [← hT] at X eT ⊢
  obtain ⟨h, hh0⟩ : ∃ z, z = h0 := ⟨_, rfl⟩
  rw [← hh0] at eT
  replace O : Old Z n0 h := by rw [hh0]; exact O
  replace K0 : Keep h0 h [] := by rw [hh0]; exact K0
  refine own_via (g' := (mkF m 17 #[.val (.int j), .val (.int z), .val vS] [(.int j)])) (fun t_ k_ => XS.iloadN X.here hx rfl (hb hby ej41m11_d0) rfl (XS.ifNo X.here hx rfl (hb hby ej41m11_d1) rfl ((if0 _ _).trans (flt hj.1).1) (XS.iloadN X.here hx rfl (hb hby ej41m11_d4) rfl (XS.iloadN X.here hx rfl (hb hby ej41m11_d5) rfl (XS.icmpYes X.here hx rfl (pc0 := 6) (pc' := 16) rfl (hb hby ej41m11_d6) rfl (tlt hj.2).1 (by decide) (by decide) (XS.iloadN X.here hx rfl (hb hby ej41m11_d16) rfl k_)))))) ?_
  refine own_retW X hx hlk Bd.returns rfl (Or.inl ⟨rfl, Or.inl rfl, _, rfl⟩) (hb hby ej41m11_d17) (by decide) (by decide) ?_
  rw [eT]
  exact ⟨rfl, N, hh0⟩
theorem ej42m155_d0 : decode jdk_42_method_155_code 0 = .ok (.iload_n 0, 1) := by decide +kernel
theorem ej42m155_d1 : decode jdk_42_method_155_code 1 = .ok (.iload_n 1, 1) := by decide +kernel
theorem ej42m155_d2 : decode jdk_42_method_155_code 2 = .ok (.getstatic 1053, 3) := by decide +kernel
theorem ej42m155_d5 : decode jdk_42_method_155_code 5 = .ok (.invokestatic 1059, 3) := by decide +kernel
theorem ej42m155_d8 : decode jdk_42_method_155_code 8 = .ok (.pop, 1) := by decide +kernel
theorem ej42m155_d9 : decode jdk_42_method_155_code 9 = .ok (.return_, 1) := by decide +kernel
theorem own_sci_pn : plainFor (⟨"java/lang/String", "checkIndex", "(II)V"⟩ : MethodName) = true := by first | exact plainFor_of_name (by first | (simp [plainName, overriddenIn]; done) | decide +kernel) | decide +kernel | exact Jvm.Free.JP.mathPlain rfl (by decide +kernel)
theorem own_sci_ef (m : MethodId) (x0 : Int32) (x1 : Int32) : entryFrame m #[(.int x0), (.int x1)] 2 = mkF m 0 #[.val (.int x0), .val (.int x1)] [] := by first | (simp [entryFrame, mkF, argsToLocals, Value.category]; done) | rfl
def own_sci_Q (Z : State) (j : Int32) (z : Int32) (vS : Value) (h0 : Heap) (n0 : Nat) (v : Option Value) (h : Heap) (L : List Loc) : Prop := v = none ∧ Fr n0 L ∧ h = h0
set_option maxRecDepth 65536 in
set_option maxHeartbeats 40000000 in
theorem own_sci (l : Launch) (Z : State) (a0 : Array Value) (hw : ∀ d ∈ tables_1, d.before a0 Z = true) (ws : List Jvm.Cond) (j : Int32) (z : Int32) (vS : Value) (h0 : Heap) (n0 : Nat) (O : Old Z n0 h0) (hj : ¬ j < 0 ∧ j < z) (S_S : Sta Z Z.heap "jdk/internal/util/Preconditions" "SIOOBE_FORMATTER" "Ljava/util/function/BiFunction;" vS) (hvS : vS.isRef = true) :
    MetFree l (⟨"java/lang/String", "checkIndex", "(II)V"⟩ : MethodName) (head1 (Jvm.Cond.code (⟨"java/lang/String", "checkIndex", "(II)V"⟩ : MethodName) jdk_42_method_155_code 2 none :: ws) ({ frames := 1, cells := 0, slots := 0, locals := 14 } : Room)) (fun a U => a = #[(.int j), (.int z)] ∧ Z.Warmed39 U.vm ∧ U.heap = h0) (fun _ _ _ _ _ => True) (fun _ U o U' => ∃ v L, o = .returned v ∧ own_sci_Q Z j z vS h0 n0 v U'.heap L ∧ FrameEnd U o U' L ({ frames := 1, cells := 0, slots := 0, locals := 14 } : Room).cells ({ frames := 1, cells := 0, slots := 0, locals := 14 } : Room).slots) := by
  refine MetFree.of_bodySF own_sci_pn hisR ?_
  intro p e s m args below meth c s₁ Bd hml0 hP hK
  obtain ⟨rfl, hZ, hh⟩ := hP
  have hx := Bd.exec
  have hby := Bd.bytes
  have hlk := Bd.notSynchronized
  have hml : c.maxLocals = 2 := hml0
  have hown : s.vm.findClass "java/lang/String" = some m.cls := findClass_of_methodNamed Bd.named
  have hnm := (name_of_methodNamed Bd.named Bd.method).1
  have X : Stand p l e ({ frames := 1, cells := 0, slots := 0, locals := 14 } : Room) s m #[(.int j), (.int z)] below meth c s₁ [] 0 0 := Stand.of_body Bd
  have eT : s₁.heap = h0 := by rw [← hh, Bd.state]; rfl
  have N := Fr.nil n0
  have K0 := Keep.refl h0 []
  show own_Ends p e below (own_Post s below (own_sci_Q Z j z vS h0 n0) ({ frames := 1, cells := 0, slots := 0, locals := 14 } : Room).cells ({ frames := 1, cells := 0, slots := 0, locals := 14 } : Room).slots) s₁ (entryFrame m #[(.int j), (.int z)] 2)
  rw [own_sci_ef m j z]
  obtain ⟨T, hT⟩ : ∃ z, z = s₁ := ⟨_, rfl⟩
  rw [← hT] at X eT ⊢
  obtain ⟨h, hh0⟩ : ∃ z, z = h0 := ⟨_, rfl⟩
  rw [← hh0] at eT
  replace O : Old Z n0 h := by rw [hh0]; exact O
  replace K0 : Keep h0 h [] := by rw [hh0]; exact K0
  refine own_via (g' := (mkF m 2 #[.val (.int j), .val (.int z)] [(.int z), (.int j)])) (fun t_ k_ => XS.iloadN X.here hx rfl (hb hby ej42m155_d0) rfl (XS.iloadN X.here hx rfl (hb hby ej42m155_d1) rfl k_)) ?_
  obtain ⟨T, X, eT, st⟩ := getS2 X hx hZ hown (host := "") (Or.inl (hw _ (own_w 66 rfl))) Via.refl eT (S_S.ext O.2) (g := (mkF m 2 #[.val (.int j), .val (.int z)] [(.int z), (.int j)])) rfl (hb hby ej42m155_d2)
  refine own_via (g' := (mkF m 5 #[.val (.int j), .val (.int z)] [vS, (.int z), (.int j)])) st ?_
  obtain ⟨_, _, ⟨T, Lq, kq, nq⟩, -, X, ⟨Lc, hQ, lq, yq, zq⟩, st⟩ := Jvm.LawKit.callS X hx (y := own_y1) hown (mvT hZ (hw _ (own_w 68 rfl))) (mvT hZ (hw _ (own_w 69 rfl))) (mvT hZ (hw _ (own_w 67 rfl))) (mvT hZ (hw _ (own_w 70 rfl))) (by decide) (backOf (W := 0) (own_pci l Z a0 hw [] j z vS h n0 O hj hvS) hZ (hw _ (own_w 70 rfl)) (hw _ (own_w 67 rfl)) (by decide) (by decide)) (g := (mkF m 5 #[.val (.int j), .val (.int z)] [vS, (.int z), (.int j)])) rfl (by rw [hml]; rfl) (argsL := [(.int j), (.int z), vS]) (rest := []) (lenOf own_pd1 rfl) rfl (by show 2 * 0 + _ ≤ _; exact Nat.le_of_eq rfl) (hb hby ej42m155_d5) (fun _ _ => ⟨rfl, eT, (by decide : 0 + 0 ≤ _), (by decide : 0 + 0 ≤ _)⟩)
  dsimp only [Pt.U, Pt.locs, Pt.cells, Pt.slots] at X lq yq zq st hQ
  rw [lq, yq, zq] at X
  obtain ⟨rfl, Nq, eT⟩ := hQ
  replace N := Fr.app N Nq
  refine own_via (g' := (mkF m 8 #[.val (.int j), .val (.int z)] [(.int j)])) st ?_
  refine own_via (g' := (mkF m 9 #[.val (.int j), .val (.int z)] [])) (fun t_ k_ => XS.pop X.here hx rfl (hb hby ej42m155_d8) rfl rfl k_) ?_
  refine own_retV X hx hlk Bd.returns (hb hby ej42m155_d9) (by decide) (by decide) ?_
  rw [eT]
  exact ⟨rfl, N, hh0⟩
theorem ej43m2_d0 : decode jdk_43_method_2_code 0 = .ok (.iload_n 1, 1) := by decide +kernel
theorem ej43m2_d1 : decode jdk_43_method_2_code 1 = .ok (.aload_n 0, 1) := by decide +kernel
theorem ej43m2_d2 : decode jdk_43_method_2_code 2 = .ok (.arraylength, 1) := by decide +kernel
theorem ej43m2_d3 : decode jdk_43_method_2_code 3 = .ok (.invokestatic 9, 3) := by decide +kernel
theorem ej43m2_d6 : decode jdk_43_method_2_code 6 = .ok (.aload_n 0, 1) := by decide +kernel
theorem ej43m2_d7 : decode jdk_43_method_2_code 7 = .ok (.iload_n 1, 1) := by decide +kernel
theorem ej43m2_d8 : decode jdk_43_method_2_code 8 = .ok (.baload, 1) := by decide +kernel
theorem ej43m2_d9 : decode jdk_43_method_2_code 9 = .ok (.sipush 255, 3) := by decide +kernel
theorem ej43m2_d12 : decode jdk_43_method_2_code 12 = .ok (.iand, 1) := by decide +kernel
theorem ej43m2_d13 : decode jdk_43_method_2_code 13 = .ok (.i2c, 1) := by decide +kernel
theorem ej43m2_d14 : decode jdk_43_method_2_code 14 = .ok (.ireturn, 1) := by decide +kernel
theorem own_lca_pn : plainFor (⟨"java/lang/StringLatin1", "charAt", "([BI)C"⟩ : MethodName) = true := by first | exact plainFor_of_name (by first | (simp [plainName, overriddenIn]; done) | decide +kernel) | decide +kernel | exact Jvm.Free.JP.mathPlain rfl (by decide +kernel)
theorem own_lca_ef (m : MethodId) (x0 : Addr) (x1 : Int32) : entryFrame m #[(.ref x0), (.int x1)] 2 = mkF m 0 #[.val (.ref x0), .val (.int x1)] [] := by first | (simp [entryFrame, mkF, argsToLocals, Value.category]; done) | rfl
def own_lca_Q (Z : State) (va : Addr) (j : Int32) (kv : ClassId) (z : Int32) (vs : List Value) (x : Int32) (vS : Value) (h0 : Heap) (n0 : Nat) (v : Option Value) (h : Heap) (L : List Loc) : Prop := v = some (.int (x &&& (255 : Int32))) ∧ Fr n0 L ∧ h = h0
set_option maxRecDepth 65536 in
set_option maxHeartbeats 40000000 in
theorem own_lca (l : Launch) (Z : State) (a0 : Array Value) (hw : ∀ d ∈ tables_1, d.before a0 Z = true) (ws : List Jvm.Cond) (va : Addr) (j : Int32) (kv : ClassId) (z : Int32) (vs : List Value) (x : Int32) (vS : Value) (h0 : Heap) (n0 : Nat) (O : Old Z n0 h0) (V_va : Arv Z h0 va kv .byte z vs (.int 0)) (hj : ¬ j < 0 ∧ j < z) (hg : vs.getD j.toNatClampNeg (.int 0) = .int x) (S_S : Sta Z Z.heap "jdk/internal/util/Preconditions" "SIOOBE_FORMATTER" "Ljava/util/function/BiFunction;" vS) (hvS : vS.isRef = true) :
    MetFree l (⟨"java/lang/StringLatin1", "charAt", "([BI)C"⟩ : MethodName) (head1 (Jvm.Cond.code (⟨"java/lang/StringLatin1", "charAt", "([BI)C"⟩ : MethodName) jdk_43_method_2_code 2 (some .char) :: ws) ({ frames := 2, cells := 0, slots := 0, locals := 27 } : Room)) (fun a U => a = #[(.ref va), (.int j)] ∧ Z.Warmed39 U.vm ∧ U.heap = h0) (fun _ _ _ _ _ => True) (fun _ U o U' => ∃ v L, o = .returned v ∧ own_lca_Q Z va j kv z vs x vS h0 n0 v U'.heap L ∧ FrameEnd U o U' L ({ frames := 2, cells := 0, slots := 0, locals := 27 } : Room).cells ({ frames := 2, cells := 0, slots := 0, locals := 27 } : Room).slots) := by
  refine MetFree.of_bodySF own_lca_pn hisR ?_
  intro p e s m args below meth c s₁ Bd hml0 hP hK
  obtain ⟨rfl, hZ, hh⟩ := hP
  have hx := Bd.exec
  have hby := Bd.bytes
  have hlk := Bd.notSynchronized
  have hml : c.maxLocals = 2 := hml0
  have hown : s.vm.findClass "java/lang/StringLatin1" = some m.cls := findClass_of_methodNamed Bd.named
  have hnm := (name_of_methodNamed Bd.named Bd.method).1
  have X : Stand p l e ({ frames := 2, cells := 0, slots := 0, locals := 27 } : Room) s m #[(.ref va), (.int j)] below meth c s₁ [] 0 0 := Stand.of_body Bd
  have eT : s₁.heap = h0 := by rw [← hh, Bd.state]; rfl
  have N := Fr.nil n0
  have K0 := Keep.refl h0 []
  show own_Ends p e below (own_Post s below (own_lca_Q Z va j kv z vs x vS h0 n0) ({ frames := 2, cells := 0, slots := 0, locals := 27 } : Room).cells ({ frames := 2, cells := 0, slots := 0, locals := 27 } : Room).slots) s₁ (entryFrame m #[(.ref va), (.int j)] 2)
  rw [own_lca_ef m va j]
  obtain ⟨T, hT⟩ : ∃ z, z = s₁ := ⟨_, rfl⟩
  rw [← hT] at X eT ⊢
  obtain ⟨h, hh0⟩ : ∃ z, z = h0 := ⟨_, rfl⟩
  rw [← hh0] at eT
  replace O : Old Z n0 h := by rw [hh0]; exact O
  replace K0 : Keep h0 h [] := by rw [hh0]; exact K0
  rw [← hh0] at V_va
  refine own_via (g' := (mkF m 2 #[.val (.ref va), .val (.int j)] [(.ref va), (.int j)])) (fun t_ k_ => XS.iloadN X.here hx rfl (hb hby ej43m2_d0) rfl (XS.aloadN X.here hx rfl (hb hby ej43m2_d1) rfl rfl k_)) ?_
  obtain ⟨cl_, Ar_, -, Sz_, Nn_, -, -⟩ := id V_va
  refine own_via (g' := (mkF m 3 #[.val (.ref va), .val (.int j)] [(.int z), (.int j)])) (fun t_ k_ => X.arraylength hx (by rw [eT]; exact Ar_.1) (State.isArrayOf_alike hZ.alike Ar_.2.1) (g := (mkF m 2 #[.val (.ref va), .val (.int j)] [(.ref va), (.int j)])) rfl rfl (hb hby ej43m2_d2) _ (by rw [len_of Sz_ Nn_]; exact k_)) ?_
  obtain ⟨_, _, ⟨T, Lq, kq, nq⟩, -, X, ⟨Lc, hQ, lq, yq, zq⟩, st⟩ := Jvm.LawKit.callS X hx (y := own_y2) hown (mvT hZ (hw _ (own_w 63 rfl))) (mvT hZ (hw _ (own_w 64 rfl))) (mvT hZ (hw _ (own_w 38 rfl))) (mvT hZ (hw _ (own_w 65 rfl))) (by decide) (backOf (W := 0) (own_sci l Z a0 hw [] j z vS h n0 O hj S_S hvS) hZ (hw _ (own_w 65 rfl)) (hw _ (own_w 38 rfl)) (by decide) (by decide)) (g := (mkF m 3 #[.val (.ref va), .val (.int j)] [(.int z), (.int j)])) rfl (by rw [hml]; rfl) (argsL := [(.int j), (.int z)]) (rest := []) (lenOf own_pd2 rfl) rfl (by show 2 * 0 + _ ≤ _; exact Nat.le_of_eq rfl) (hb hby ej43m2_d3) (fun _ _ => ⟨rfl, eT, (by decide : 0 + 0 ≤ _), (by decide : 0 + 0 ≤ _)⟩)
  dsimp only [Pt.U, Pt.locs, Pt.cells, Pt.slots] at X lq yq zq st hQ
  rw [lq, yq, zq] at X
  obtain ⟨rfl, Nq, eT⟩ := hQ
  replace N := Fr.app N Nq
  refine own_via (g' := (mkF m 6 #[.val (.ref va), .val (.int j)] [])) st ?_
  refine own_via (g' := (mkF m 8 #[.val (.ref va), .val (.int j)] [(.int j), (.ref va)])) (fun t_ k_ => XS.aloadN X.here hx rfl (hb hby ej43m2_d6) rfl rfl (XS.iloadN X.here hx rfl (hb hby ej43m2_d7) rfl k_)) ?_
  obtain ⟨cl_, Ar_, -, Sz_, Nn_, Hs_, -⟩ := id V_va
  have hin_ : ¬ (j < 0 ∨ cl_.slots.size ≤ (j).toNatClampNeg) := inb_of Sz_ hj
  have hat_ : cl_.slots[(j).toNatClampNeg]? = some (.int x) := Hs_.at hin_ hg
  refine own_via (g' := (mkF m 14 #[.val (.ref va), .val (.int j)] [(.int ((x &&& (255 : Int32)).toUInt32.toUInt16.toUInt32.toInt32))])) (fun t_ k_ => X.baloadBytes hx (j := j) (v := (.int x)) (by rw [eT]; exact Ar_.1) (State.isArrayOf_alike hZ.alike Ar_.2.1) Ar_.2.2 hin_ hat_ (g := (mkF m 8 #[.val (.ref va), .val (.int j)] [(.int j), (.ref va)])) rfl rfl (hb hby ej43m2_d8) _ (XS.sipush X.here hx rfl (hb hby ej43m2_d9) (XS.iand X.here hx rfl (hb hby ej43m2_d12) rfl (XS.i2c X.here hx rfl (hb hby ej43m2_d13) rfl k_)))) ?_
  rw [i2c_mask]
  refine own_retN X hx hlk (t := .char) Bd.returns (by simp) (hb hby ej43m2_d14) (by decide) (by decide) ?_
  rw [eT]
  exact ⟨by show some (Value.int ((x &&& 255).toUInt32.toUInt16.toUInt32.toInt32)) = _; rw [i2c_mask], N, hh0⟩
theorem ej42m56_d0 : decode jdk_42_method_56_code 0 = .ok (.aload_n 0, 1) := by decide +kernel
theorem ej42m56_d1 : decode jdk_42_method_56_code 1 = .ok (.invokevirtual 492, 3) := by decide +kernel
theorem ej42m56_d4 : decode jdk_42_method_56_code 4 = .ok (.ifCond .eq 12, 3) := by decide +kernel
theorem ej42m56_d7 : decode jdk_42_method_56_code 7 = .ok (.aload_n 0, 1) := by decide +kernel
theorem ej42m56_d8 : decode jdk_42_method_56_code 8 = .ok (.getfield 9, 3) := by decide +kernel
theorem ej42m56_d11 : decode jdk_42_method_56_code 11 = .ok (.iload_n 1, 1) := by decide +kernel
theorem ej42m56_d12 : decode jdk_42_method_56_code 12 = .ok (.invokestatic 495, 3) := by decide +kernel
theorem ej42m56_d15 : decode jdk_42_method_56_code 15 = .ok (.ireturn, 1) := by decide +kernel
theorem own_charAt_pn : plainFor (⟨"java/lang/String", "charAt", "(I)C"⟩ : MethodName) = true := by first | exact plainFor_of_name (by first | (simp [plainName, overriddenIn]; done) | decide +kernel) | decide +kernel | exact Jvm.Free.JP.mathPlain rfl (by decide +kernel)
theorem own_charAt_ef (m : MethodId) (x0 : Addr) (x1 : Int32) : entryFrame m #[(.ref x0), (.int x1)] 2 = mkF m 0 #[.val (.ref x0), .val (.int x1)] [] := by first | (simp [entryFrame, mkF, argsToLocals, Value.category]; done) | rfl
def own_charAt_Q (Z : State) (a1 : Addr) (j : Int32) (va : Addr) (kv : ClassId) (z : Int32) (vs : List Value) (x : Int32) (zc : Int32) (vS : Value) (h0 : Heap) (n0 : Nat) (v : Option Value) (h : Heap) (L : List Loc) : Prop := v = some (.int (x &&& (255 : Int32))) ∧ Fr n0 L ∧ h = h0
set_option maxRecDepth 65536 in
set_option maxHeartbeats 40000000 in
theorem own_charAt (l : Launch) (Z : State) (a0 : Array Value) (hw : ∀ d ∈ tables_1, d.before a0 Z = true) (ws : List Jvm.Cond) (a1 : Addr) (j : Int32) (va : Addr) (kv : ClassId) (z : Int32) (vs : List Value) (x : Int32) (zc : Int32) (vS : Value) (h0 : Heap) (n0 : Nat) (O : Old Z n0 h0) (E_a1 : Exa Z h0 a1 "java/lang/String") (F_value_a1 : Fld Z h0 a1 "java/lang/String" "value" "[B" (.ref va)) (F_coder_a1 : Fld Z h0 a1 "java/lang/String" "coder" "B" (.int 0)) (V_va : Arv Z h0 va kv .byte z vs (.int 0)) (S_C : Sta Z Z.heap "java/lang/String" "COMPACT_STRINGS" "Z" (.int zc)) (hzc : ¬ zc = 0) (hj : ¬ j < 0 ∧ j < z) (hg : vs.getD j.toNatClampNeg (.int 0) = .int x) (S_S : Sta Z Z.heap "jdk/internal/util/Preconditions" "SIOOBE_FORMATTER" "Ljava/util/function/BiFunction;" vS) (hvS : vS.isRef = true) :
    MetFree l (⟨"java/lang/String", "charAt", "(I)C"⟩ : MethodName) (head1 (Jvm.Cond.code (⟨"java/lang/String", "charAt", "(I)C"⟩ : MethodName) jdk_42_method_56_code 2 (some .char) :: ws) ({ frames := 3, cells := 0, slots := 0, locals := 40 } : Room)) (fun a U => a = #[(.ref a1), (.int j)] ∧ Z.Warmed39 U.vm ∧ U.heap = h0) (fun _ _ _ _ _ => True) (fun _ U o U' => ∃ v L, o = .returned v ∧ own_charAt_Q Z a1 j va kv z vs x zc vS h0 n0 v U'.heap L ∧ FrameEnd U o U' L ({ frames := 3, cells := 0, slots := 0, locals := 40 } : Room).cells ({ frames := 3, cells := 0, slots := 0, locals := 40 } : Room).slots) := by
  refine MetFree.of_bodySF own_charAt_pn hisR ?_
  intro p e s m args below meth c s₁ Bd hml0 hP hK
  obtain ⟨rfl, hZ, hh⟩ := hP
  have hx := Bd.exec
  have hby := Bd.bytes
  have hlk := Bd.notSynchronized
  have hml : c.maxLocals = 2 := hml0
  have hown : s.vm.findClass "java/lang/String" = some m.cls := findClass_of_methodNamed Bd.named
  have hnm := (name_of_methodNamed Bd.named Bd.method).1
  have X : Stand p l e ({ frames := 3, cells := 0, slots := 0, locals := 40 } : Room) s m #[(.ref a1), (.int j)] below meth c s₁ [] 0 0 := Stand.of_body Bd
  have eT : s₁.heap = h0 := by rw [← hh, Bd.state]; rfl
  have N := Fr.nil n0
  have K0 := Keep.refl h0 []
  show own_Ends p e below (own_Post s below (own_charAt_Q Z a1 j va kv z vs x zc vS h0 n0) ({ frames := 3, cells := 0, slots := 0, locals := 40 } : Room).cells ({ frames := 3, cells := 0, slots := 0, locals := 40 } : Room).slots) s₁ (entryFrame m #[(.ref a1), (.int j)] 2)
  rw [own_charAt_ef m a1 j]
  obtain ⟨T, hT⟩ : ∃ z, z = s₁ := ⟨_, rfl⟩
  rw [← hT] at X eT ⊢
  obtain ⟨h, hh0⟩ : ∃ z, z = h0 := ⟨_, rfl⟩
  rw [← hh0] at eT
  replace O : Old Z n0 h := by rw [hh0]; exact O
  replace K0 : Keep h0 h [] := by rw [hh0]; exact K0
  rw [← hh0] at E_a1
  rw [← hh0] at F_value_a1
  rw [← hh0] at F_coder_a1
  rw [← hh0] at V_va
  refine own_via (g' := (mkF m 1 #[.val (.ref a1), .val (.int j)] [(.ref a1)])) (fun t_ k_ => XS.aloadN X.here hx rfl (hb hby ej42m56_d0) rfl rfl k_) ?_
  obtain ⟨cq, kq, qa, qb, qc⟩ := isOf hZ eT E_a1
  obtain ⟨_, _, ⟨T, Lq, kq, nq⟩, -, X, ⟨Lc, hQ, lq, yq, zq⟩, st⟩ := X.virtualBack hx (y := own_y3) (z := own_y3) hown (mvT hZ (hw _ (own_w 51 rfl))) (mvT hZ (hw _ (own_w 52 rfl))) (notFace_of_selects (args := #[]) (mvT hZ (hw _ (own_w 54 rfl)))) (mvT hZ (hw _ (own_w 54 rfl))) (mvT hZ (hw _ (own_w 53 rfl))) (by decide) (backOf (W := 0) (own_sil l Z a0 hw [] a1 va kv z vs zc h n0 O E_a1 F_value_a1 F_coder_a1 V_va S_C hzc) hZ (hw _ (own_w 55 rfl)) (hw _ (own_w 38 rfl)) (by decide) (by decide)) qa qc (g := (mkF m 1 #[.val (.ref a1), .val (.int j)] [(.ref a1)])) rfl (by rw [hml]; rfl) (Steps.refl _) (argsL := []) (rest := []) (lenOf own_pd3 rfl) rfl (by show 2 * 0 + _ ≤ _; exact Nat.le_of_eq rfl) (hb hby ej42m56_d1) (fun _ _ => ⟨rfl, eT, (by decide : 0 + 0 ≤ _), (by decide : 0 + 0 ≤ _)⟩)
  dsimp only [Pt.U, Pt.locs, Pt.cells, Pt.slots] at X lq yq zq st hQ
  rw [lq, yq, zq] at X
  obtain ⟨rfl, Nq, eT⟩ := hQ
  replace N := Fr.app N Nq
  refine own_viaT (g' := (mkF m 4 #[.val (.ref a1), .val (.int j)] [(.int 1)])) st ?_
  refine own_via (g' := (mkF m 8 #[.val (.ref a1), .val (.int j)] [(.ref a1)])) (fun t_ k_ => XS.ifNo X.here hx rfl (hb hby ej42m56_d4) rfl ((if0 _ _).trans (feq (by decide : ¬ ((1 : Int32) = (0 : Int32)))).1) (XS.aloadN X.here hx rfl (hb hby ej42m56_d7) rfl rfl k_)) ?_
  obtain ⟨T, X, eT, st⟩ := getF X hx hZ hown (host := "") (Or.inl (hw _ (own_w 58 rfl))) Via.refl eT F_value_a1 (g := (mkF m 8 #[.val (.ref a1), .val (.int j)] [(.ref a1)])) rfl rfl (hb hby ej42m56_d8)
  refine own_via (g' := (mkF m 11 #[.val (.ref a1), .val (.int j)] [(.ref va)])) st ?_
  refine own_via (g' := (mkF m 12 #[.val (.ref a1), .val (.int j)] [(.int j), (.ref va)])) (fun t_ k_ => XS.iloadN X.here hx rfl (hb hby ej42m56_d11) rfl k_) ?_
  obtain ⟨_, _, ⟨T, Lq, kq, nq⟩, -, X, ⟨Lc, hQ, lq, yq, zq⟩, st⟩ := Jvm.LawKit.callS X hx (y := own_y4) hown (mvT hZ (hw _ (own_w 59 rfl))) (mvT hZ (hw _ (own_w 60 rfl))) (mvT hZ (hw _ (own_w 61 rfl))) (mvT hZ (hw _ (own_w 62 rfl))) (by decide) (backOf (W := 0) (own_lca l Z a0 hw [] va j kv z vs x vS h n0 O V_va hj hg S_S hvS) hZ (hw _ (own_w 62 rfl)) (hw _ (own_w 61 rfl)) (by decide) (by decide)) (g := (mkF m 12 #[.val (.ref a1), .val (.int j)] [(.int j), (.ref va)])) rfl (by rw [hml]; rfl) (argsL := [(.ref va), (.int j)]) (rest := []) (lenOf own_pd4 rfl) rfl (by show 2 * 0 + _ ≤ _; exact Nat.le_of_eq rfl) (hb hby ej42m56_d12) (fun _ _ => ⟨rfl, eT, (by decide : 0 + 0 ≤ _), (by decide : 0 + 0 ≤ _)⟩)
  dsimp only [Pt.U, Pt.locs, Pt.cells, Pt.slots] at X lq yq zq st hQ
  rw [lq, yq, zq] at X
  obtain ⟨rfl, Nq, eT⟩ := hQ
  replace N := Fr.app N Nq
  refine own_via (g' := (mkF m 15 #[.val (.ref a1), .val (.int j)] [(.int (x &&& (255 : Int32)))])) st ?_
  refine own_retN X hx hlk (t := .char) Bd.returns (by simp) (hb hby ej42m56_d15) (by decide) (by decide) ?_
  rw [eT]
  exact ⟨by show some (Value.int ((x &&& 255).toUInt32.toUInt16.toUInt32.toInt32)) = _; rw [i2c_mask], N, hh0⟩
theorem ej30m1_d0 : decode jdk_30_method_1_code 0 = .ok (.aload_n 0, 1) := by decide +kernel
theorem ej30m1_d1 : decode jdk_30_method_1_code 1 = .ok (.invokespecial 1, 3) := by decide +kernel
theorem ej30m1_d4 : decode jdk_30_method_1_code 4 = .ok (.return_, 1) := by decide +kernel
theorem own_rec_pn : plainFor (⟨"java/lang/Record", "<init>", "()V"⟩ : MethodName) = true := by first | exact plainFor_of_name (by first | (simp [plainName, overriddenIn]; done) | decide +kernel) | decide +kernel | exact Jvm.Free.JP.mathPlain rfl (by decide +kernel)
theorem own_rec_ef (m : MethodId) (x0 : Addr) : entryFrame m #[(.ref x0)] 1 = mkF m 0 #[.val (.ref x0)] [] := by first | (simp [entryFrame, mkF, argsToLocals, Value.category]; done) | rfl
def own_rec_Q (Z : State) (a1 : Addr) (h0 : Heap) (n0 : Nat) (v : Option Value) (h : Heap) (L : List Loc) : Prop := v = none ∧ Fr n0 L ∧ h = h0
set_option maxRecDepth 65536 in
set_option maxHeartbeats 40000000 in
theorem own_rec (l : Launch) (Z : State) (a0 : Array Value) (hw : ∀ d ∈ tables_1, d.before a0 Z = true) (ws : List Jvm.Cond) (a1 : Addr) (h0 : Heap) (n0 : Nat) (O : Old Z n0 h0)  :
    MetFree l (⟨"java/lang/Record", "<init>", "()V"⟩ : MethodName) (head1 (Jvm.Cond.code (⟨"java/lang/Record", "<init>", "()V"⟩ : MethodName) jdk_30_method_1_code 1 none :: ws) ({ frames := 1, cells := 0, slots := 0, locals := 12 } : Room)) (fun a U => a = #[(.ref a1)] ∧ Z.Warmed39 U.vm ∧ U.heap = h0) (fun _ _ _ _ _ => True) (fun _ U o U' => ∃ v L, o = .returned v ∧ own_rec_Q Z a1 h0 n0 v U'.heap L ∧ FrameEnd U o U' L ({ frames := 1, cells := 0, slots := 0, locals := 12 } : Room).cells ({ frames := 1, cells := 0, slots := 0, locals := 12 } : Room).slots) := by
  refine MetFree.of_bodySF own_rec_pn hisR ?_
  intro p e s m args below meth c s₁ Bd hml0 hP hK
  obtain ⟨rfl, hZ, hh⟩ := hP
  have hx := Bd.exec
  have hby := Bd.bytes
  have hlk := Bd.notSynchronized
  have hml : c.maxLocals = 1 := hml0
  have hown : s.vm.findClass "java/lang/Record" = some m.cls := findClass_of_methodNamed Bd.named
  have hnm := (name_of_methodNamed Bd.named Bd.method).1
  have X : Stand p l e ({ frames := 1, cells := 0, slots := 0, locals := 12 } : Room) s m #[(.ref a1)] below meth c s₁ [] 0 0 := Stand.of_body Bd
  have eT : s₁.heap = h0 := by rw [← hh, Bd.state]; rfl
  have N := Fr.nil n0
  have K0 := Keep.refl h0 []
  show own_Ends p e below (own_Post s below (own_rec_Q Z a1 h0 n0) ({ frames := 1, cells := 0, slots := 0, locals := 12 } : Room).cells ({ frames := 1, cells := 0, slots := 0, locals := 12 } : Room).slots) s₁ (entryFrame m #[(.ref a1)] 1)
  rw [own_rec_ef m a1]
  obtain ⟨T, hT⟩ : ∃ z, z = s₁ := ⟨_, rfl⟩
  rw [← hT] at X eT ⊢
  obtain ⟨h, hh0⟩ : ∃ z, z = h0 := ⟨_, rfl⟩
  rw [← hh0] at eT
  replace O : Old Z n0 h := by rw [hh0]; exact O
  replace K0 : Keep h0 h [] := by rw [hh0]; exact K0
  refine own_via (g' := (mkF m 1 #[.val (.ref a1)] [(.ref a1)])) (fun t_ k_ => XS.aloadN X.here hx rfl (hb hby ej30m1_d0) rfl rfl k_) ?_
  obtain ⟨T, X, eT, st⟩ := initO X hx hZ hown (hw _ (own_w 14 rfl)) (hw _ (own_w 15 rfl)) (hw _ (own_w 16 rfl)) eT (g := (mkF m 1 #[.val (.ref a1)] [(.ref a1)])) rfl (by rw [hml]; rfl) rfl (hb hby ej30m1_d1) (by decide) (W := 0) (by show 2 * 0 + _ ≤ _; exact Nat.le_of_eq rfl) (by decide)
  refine own_via (g' := (mkF m 4 #[.val (.ref a1)] [])) st ?_
  refine own_retV X hx hlk Bd.returns (hb hby ej30m1_d4) (by decide) (by decide) ?_
  rw [eT]
  exact ⟨rfl, N, hh0⟩
theorem ep7m1_d0 : decode prog_7_method_1_code 0 = .ok (.aload_n 0, 1) := by decide +kernel
theorem ep7m1_d1 : decode prog_7_method_1_code 1 = .ok (.invokespecial 1, 3) := by decide +kernel
theorem ep7m1_d4 : decode prog_7_method_1_code 4 = .ok (.lload_n 1, 1) := by decide +kernel
theorem ep7m1_d5 : decode prog_7_method_1_code 5 = .ok (.lconst 0, 1) := by decide +kernel
theorem ep7m1_d6 : decode prog_7_method_1_code 6 = .ok (.lcmp, 1) := by decide +kernel
theorem ep7m1_d7 : decode prog_7_method_1_code 7 = .ok (.ifCond .ge 17, 3) := by decide +kernel
theorem ep7m1_d24 : decode prog_7_method_1_code 24 = .ok (.lload_n 3, 1) := by decide +kernel
theorem ep7m1_d25 : decode prog_7_method_1_code 25 = .ok (.lconst 0, 1) := by decide +kernel
theorem ep7m1_d26 : decode prog_7_method_1_code 26 = .ok (.lcmp, 1) := by decide +kernel
theorem ep7m1_d27 : decode prog_7_method_1_code 27 = .ok (.ifCond .lt 11, 3) := by decide +kernel
theorem ep7m1_d30 : decode prog_7_method_1_code 30 = .ok (.lload_n 3, 1) := by decide +kernel
theorem ep7m1_d31 : decode prog_7_method_1_code 31 = .ok (.ldc2_w 18, 3) := by decide +kernel
theorem ep7m1_d34 : decode prog_7_method_1_code 34 = .ok (.lcmp, 1) := by decide +kernel
theorem ep7m1_d35 : decode prog_7_method_1_code 35 = .ok (.ifCond .le 17, 3) := by decide +kernel
theorem ep7m1_d52 : decode prog_7_method_1_code 52 = .ok (.iload 5, 2) := by decide +kernel
theorem ep7m1_d54 : decode prog_7_method_1_code 54 = .ok (.ifCond .lt 10, 3) := by decide +kernel
theorem ep7m1_d57 : decode prog_7_method_1_code 57 = .ok (.iload 5, 2) := by decide +kernel
theorem ep7m1_d59 : decode prog_7_method_1_code 59 = .ok (.ldc 21, 2) := by decide +kernel
theorem ep7m1_d61 : decode prog_7_method_1_code 61 = .ok (.if_icmp .le 18, 3) := by decide +kernel
theorem ep7m1_d79 : decode prog_7_method_1_code 79 = .ok (.aload_n 0, 1) := by decide +kernel
theorem ep7m1_d80 : decode prog_7_method_1_code 80 = .ok (.lload_n 1, 1) := by decide +kernel
theorem ep7m1_d81 : decode prog_7_method_1_code 81 = .ok (.putfield 25, 3) := by decide +kernel
theorem ep7m1_d84 : decode prog_7_method_1_code 84 = .ok (.aload_n 0, 1) := by decide +kernel
theorem ep7m1_d85 : decode prog_7_method_1_code 85 = .ok (.lload_n 3, 1) := by decide +kernel
theorem ep7m1_d86 : decode prog_7_method_1_code 86 = .ok (.putfield 29, 3) := by decide +kernel
theorem ep7m1_d89 : decode prog_7_method_1_code 89 = .ok (.aload_n 0, 1) := by decide +kernel
theorem ep7m1_d90 : decode prog_7_method_1_code 90 = .ok (.iload 5, 2) := by decide +kernel
theorem ep7m1_d92 : decode prog_7_method_1_code 92 = .ok (.putfield 32, 3) := by decide +kernel
theorem ep7m1_d95 : decode prog_7_method_1_code 95 = .ok (.return_, 1) := by decide +kernel
theorem own_init_pn : plainFor (⟨"com/example/nuthatch/nuthatch/EventId", "<init>", "(JJI)V"⟩ : MethodName) = true := by first | exact plainFor_of_name (by first | (simp [plainName, overriddenIn]; done) | decide +kernel) | decide +kernel | exact Jvm.Free.JP.mathPlain rfl (by decide +kernel)
theorem own_init_ef (m : MethodId) (x0 : Addr) (x1 : Int64) (x2 : Int64) (x3 : Int32) : entryFrame m #[(.ref x0), (.long x1), (.long x2), (.int x3)] 6 = mkF m 0 #[.val (.ref x0), .val (.long x1), .second, .val (.long x2), .second, .val (.int x3)] [] := by first | (simp [entryFrame, mkF, argsToLocals, Value.category]; done) | rfl
def own_init_Q (Z : State) (a1 : Addr) (tt : Int64) (ww : Int64) (qq : Int32) (h0 : Heap) (n0 : Nat) (v : Option Value) (h : Heap) (L : List Loc) : Prop := v = none ∧ Fr n0 L ∧ Keep h0 h [a1] ∧ Fld Z h a1 "com/example/nuthatch/nuthatch/EventId" "timeMillis" "J" (.long tt) ∧ Fld Z h a1 "com/example/nuthatch/nuthatch/EventId" "worker" "J" (.long ww) ∧ Fld Z h a1 "com/example/nuthatch/nuthatch/EventId" "sequence" "I" (.int qq)
set_option maxRecDepth 65536 in
set_option maxHeartbeats 40000000 in
theorem own_init (l : Launch) (Z : State) (a0 : Array Value) (hw : ∀ d ∈ tables_1, d.before a0 Z = true) (ws : List Jvm.Cond) (a1 : Addr) (tt : Int64) (ww : Int64) (qq : Int32) (h0 : Heap) (n0 : Nat) (O : Old Z n0 h0) (E_a1 : Exa Z h0 a1 "com/example/nuthatch/nuthatch/EventId") (F_timeMillis_a1 : Fld Z h0 a1 "com/example/nuthatch/nuthatch/EventId" "timeMillis" "J" (.long 0)) (F_worker_a1 : Fld Z h0 a1 "com/example/nuthatch/nuthatch/EventId" "worker" "J" (.long 0)) (F_sequence_a1 : Fld Z h0 a1 "com/example/nuthatch/nuthatch/EventId" "sequence" "I" (.int 0)) (g_a1 : n0 ≤ a1) (hok : own_ok tt ww qq) :
    MetFree l (⟨"com/example/nuthatch/nuthatch/EventId", "<init>", "(JJI)V"⟩ : MethodName) (head1 (Jvm.Cond.code (⟨"com/example/nuthatch/nuthatch/EventId", "<init>", "(JJI)V"⟩ : MethodName) prog_7_method_1_code 6 none :: ws) ({ frames := 2, cells := 0, slots := 0, locals := 24 } : Room)) (fun a U => a = #[(.ref a1), (.long tt), (.long ww), (.int qq)] ∧ Z.Warmed39 U.vm ∧ U.heap = h0) (fun _ _ _ _ _ => True) (fun _ U o U' => ∃ v L, o = .returned v ∧ own_init_Q Z a1 tt ww qq h0 n0 v U'.heap L ∧ FrameEnd U o U' L ({ frames := 2, cells := 0, slots := 0, locals := 24 } : Room).cells ({ frames := 2, cells := 0, slots := 0, locals := 24 } : Room).slots) := by
  refine MetFree.of_bodySF own_init_pn hisR ?_
  intro p e s m args below meth c s₁ Bd hml0 hP hK
  obtain ⟨rfl, hZ, hh⟩ := hP
  have hx := Bd.exec
  have hby := Bd.bytes
  have hlk := Bd.notSynchronized
  have hml : c.maxLocals = 6 := hml0
  have hown : s.vm.findClass "com/example/nuthatch/nuthatch/EventId" = some m.cls := findClass_of_methodNamed Bd.named
  have hnm := (name_of_methodNamed Bd.named Bd.method).1
  have X : Stand p l e ({ frames := 2, cells := 0, slots := 0, locals := 24 } : Room) s m #[(.ref a1), (.long tt), (.long ww), (.int qq)] below meth c s₁ [] 0 0 := Stand.of_body Bd
  have eT : s₁.heap = h0 := by rw [← hh, Bd.state]; rfl
  have N := Fr.nil n0
  have K0 := Keep.refl h0 [a1]
  show own_Ends p e below (own_Post s below (own_init_Q Z a1 tt ww qq h0 n0) ({ frames := 2, cells := 0, slots := 0, locals := 24 } : Room).cells ({ frames := 2, cells := 0, slots := 0, locals := 24 } : Room).slots) s₁ (entryFrame m #[(.ref a1), (.long tt), (.long ww), (.int qq)] 6)
  rw [own_init_ef m a1 tt ww qq]
  obtain ⟨T, hT⟩ : ∃ z, z = s₁ := ⟨_, rfl⟩
  rw [← hT] at X eT ⊢
  obtain ⟨h, hh0⟩ : ∃ z, z = h0 := ⟨_, rfl⟩
  rw [← hh0] at eT
  replace O : Old Z n0 h := by rw [hh0]; exact O
  replace K0 : Keep h0 h [a1] := by rw [hh0]; exact K0
  rw [← hh0] at E_a1
  rw [← hh0] at F_timeMillis_a1
  rw [← hh0] at F_worker_a1
  rw [← hh0] at F_sequence_a1
  have hc1 : ¬ (lcmpW tt (0 : Int64)) < (0 : Int32) := own_cmpGe hok.1
  have hc2 : ¬ (lcmpW ww (0 : Int64)) < (0 : Int32) := own_cmpGe hok.2.1
  have hc3 : ¬ (0 : Int32) < (lcmpW ww (281474976710655 : Int64)) := own_cmpLe (Int.le_of_lt_add_one hok.2.2.1)
  have hc4 := own_seqB hok.2.2.2.1 hok.2.2.2.2
  refine own_via (g' := (mkF m 1 (own_A23 a1 tt ww qq) [(.ref a1)])) (fun t_ k_ => XS.aloadN X.here hx rfl (hb hby ep7m1_d0) rfl rfl k_) ?_
  obtain ⟨_, _, ⟨T, Lq, kq, nq⟩, -, X, ⟨Lc, hQ, lq, yq, zq⟩, st⟩ := X.specialBack hx (y := own_y5) rfl hown (mvT hZ (hw _ (own_w 9 rfl))) (mvT hZ (hw _ (own_w 10 rfl))) (mvT hZ (hw _ (own_w 13 rfl))) (by decide) (backOf (W := 0) (own_rec l Z a0 hw [] a1 h n0 O ) hZ (hw _ (own_w 13 rfl)) (hw _ (own_w 12 rfl)) (by decide) (by decide)) (g := (mkF m 1 (own_A23 a1 tt ww qq) [(.ref a1)])) rfl (by rw [hml]; rfl) (Steps.refl _) (a := a1) (argsL := []) (rest := []) (lenOf own_pd5 rfl) rfl (by show 2 * 0 + _ ≤ _; exact Nat.le_of_eq rfl) (hb hby ep7m1_d1) (fun _ _ => ⟨rfl, eT, (by decide : 0 + 0 ≤ _), (by decide : 0 + 0 ≤ _)⟩)
  dsimp only [Pt.U, Pt.locs, Pt.cells, Pt.slots] at X lq yq zq st hQ
  rw [lq, yq, zq] at X
  obtain ⟨rfl, Nq, eT⟩ := hQ
  replace N := Fr.app N Nq
  refine own_viaT (g' := (mkF m 4 (own_A23 a1 tt ww qq) [])) st ?_
  refine own_via (g' := (mkF m 34 (own_A23 a1 tt ww qq) [(.long 281474976710655), (.long ww)])) (fun t_ k_ => XS.lloadN X.here hx rfl (hb hby ep7m1_d4) rfl (XS.lconst X.here hx rfl (hb hby ep7m1_d5) (XS.lcmp X.here hx rfl (hb hby ep7m1_d6) rfl (XS.ifYes X.here hx rfl (pc0 := 7) (pc' := 24) rfl (hb hby ep7m1_d7) rfl ((if0 _ _).trans (flt hc1).2.1) (by decide) (by decide) (XS.lloadN X.here hx rfl (hb hby ep7m1_d24) rfl (XS.lconst X.here hx rfl (hb hby ep7m1_d25) (XS.lcmp X.here hx rfl (hb hby ep7m1_d26) rfl (XS.ifNo X.here hx rfl (hb hby ep7m1_d27) rfl ((if0 _ _).trans (flt hc2).1) (XS.lloadN X.here hx rfl (hb hby ep7m1_d30) rfl (X.ldc2Long hx hown (mvT hZ (hw _ (own_w 17 rfl))) (g := (mkF m 31 (own_A23 a1 tt ww qq) [(.long ww)])) rfl (hb hby ep7m1_d31) _ k_)))))))))) ?_
  refine own_via (g' := (mkF m 81 (own_A23 a1 tt ww qq) [(.long tt), (.ref a1)])) (fun t_ k_ => XS.lcmp X.here hx rfl (hb hby ep7m1_d34) rfl (XS.ifYes X.here hx rfl (pc0 := 35) (pc' := 52) rfl (hb hby ep7m1_d35) rfl ((if0 _ _).trans (flt hc3).2.2.2) (by decide) (by decide) (XS.iload X.here hx rfl (hb hby ep7m1_d52) rfl (XS.ifNo X.here hx rfl (hb hby ep7m1_d54) rfl ((if0 _ _).trans (flt hc4.1).1) (XS.iload X.here hx rfl (hb hby ep7m1_d57) rfl (X.ldcInt hx hown (mvT hZ (hw _ (own_w 18 rfl))) (g := (mkF m 59 (own_A23 a1 tt ww qq) [(.int qq)])) rfl (hb hby ep7m1_d59) _ (XS.icmpYes X.here hx rfl (pc0 := 61) (pc' := 79) rfl (hb hby ep7m1_d61) rfl (flt hc4.2).2.2.2 (by decide) (by decide) (XS.aloadN X.here hx rfl (hb hby ep7m1_d79) rfl rfl (XS.lloadN X.here hx rfl (hb hby ep7m1_d80) rfl k_))))))))) ?_
  obtain ⟨T, h1, X, eT, W, st⟩ := putF X hx hZ hown (host := "") (Or.inl (hw _ (own_w 19 rfl))) Via.refl eT F_timeMillis_a1 E_a1 (Or.inr ⟨(hw _ (own_w 20 rfl)), rfl, hnm⟩) (hw _ (own_w 4 rfl)) (ty := .long) (by decide) rfl rfl (g := (mkF m 81 (own_A23 a1 tt ww qq) [(.long tt), (.ref a1)])) rfl rfl (hb hby ep7m1_d81)
  replace F_timeMillis_a1 := F_timeMillis_a1.same W
  replace E_a1 := E_a1.wr W
  replace F_worker_a1 := F_worker_a1.other W (Or.inr (slot_ne (Or.inr (hw _ (own_w 22 rfl))) (Or.inr (hw _ (own_w 20 rfl))) (by decide) (t := .long) (t' := .long) (by decide) (by decide)))
  replace F_sequence_a1 := F_sequence_a1.other W (Or.inr (slot_ne (Or.inr (hw _ (own_w 24 rfl))) (Or.inr (hw _ (own_w 20 rfl))) (by decide) (t := .int) (t' := .long) (by decide) (by decide)))
  replace O := O.wr W g_a1
  replace K0 := K0.wr W (Or.inl (List.mem_of_getElem? (i := 0) rfl))
  replace N := Fr.snoc X N g_a1
  refine own_via (g' := (mkF m 84 (own_A23 a1 tt ww qq) [])) st ?_
  refine own_via (g' := (mkF m 86 (own_A23 a1 tt ww qq) [(.long ww), (.ref a1)])) (fun t_ k_ => XS.aloadN X.here hx rfl (hb hby ep7m1_d84) rfl rfl (XS.lloadN X.here hx rfl (hb hby ep7m1_d85) rfl k_)) ?_
  obtain ⟨T, h2, X, eT, W, st⟩ := putF X hx hZ hown (host := "") (Or.inl (hw _ (own_w 21 rfl))) Via.refl eT F_worker_a1 E_a1 (Or.inr ⟨(hw _ (own_w 22 rfl)), rfl, hnm⟩) (hw _ (own_w 4 rfl)) (ty := .long) (by decide) rfl rfl (g := (mkF m 86 (own_A23 a1 tt ww qq) [(.long ww), (.ref a1)])) rfl rfl (hb hby ep7m1_d86)
  replace F_worker_a1 := F_worker_a1.same W
  replace E_a1 := E_a1.wr W
  replace F_timeMillis_a1 := F_timeMillis_a1.other W (Or.inr (slot_ne (Or.inr (hw _ (own_w 20 rfl))) (Or.inr (hw _ (own_w 22 rfl))) (by decide) (t := .long) (t' := .long) (by decide) (by decide)))
  replace F_sequence_a1 := F_sequence_a1.other W (Or.inr (slot_ne (Or.inr (hw _ (own_w 24 rfl))) (Or.inr (hw _ (own_w 22 rfl))) (by decide) (t := .int) (t' := .long) (by decide) (by decide)))
  replace O := O.wr W g_a1
  replace K0 := K0.wr W (Or.inl (List.mem_of_getElem? (i := 0) rfl))
  replace N := Fr.snoc X N g_a1
  refine own_via (g' := (mkF m 89 (own_A23 a1 tt ww qq) [])) st ?_
  refine own_via (g' := (mkF m 92 (own_A23 a1 tt ww qq) [(.int qq), (.ref a1)])) (fun t_ k_ => XS.aloadN X.here hx rfl (hb hby ep7m1_d89) rfl rfl (XS.iload X.here hx rfl (hb hby ep7m1_d90) rfl k_)) ?_
  obtain ⟨T, h3, X, eT, W, st⟩ := putF X hx hZ hown (host := "") (Or.inl (hw _ (own_w 23 rfl))) Via.refl eT F_sequence_a1 E_a1 (Or.inr ⟨(hw _ (own_w 24 rfl)), rfl, hnm⟩) (hw _ (own_w 4 rfl)) (ty := .int) (by decide) rfl rfl (g := (mkF m 92 (own_A23 a1 tt ww qq) [(.int qq), (.ref a1)])) rfl rfl (hb hby ep7m1_d92)
  replace F_sequence_a1 := F_sequence_a1.same W
  replace E_a1 := E_a1.wr W
  replace F_timeMillis_a1 := F_timeMillis_a1.other W (Or.inr (slot_ne (Or.inr (hw _ (own_w 20 rfl))) (Or.inr (hw _ (own_w 24 rfl))) (by decide) (t := .long) (t' := .int) (by decide) (by decide)))
  replace F_worker_a1 := F_worker_a1.other W (Or.inr (slot_ne (Or.inr (hw _ (own_w 22 rfl))) (Or.inr (hw _ (own_w 24 rfl))) (by decide) (t := .long) (t' := .int) (by decide) (by decide)))
  replace O := O.wr W g_a1
  replace K0 := K0.wr W (Or.inl (List.mem_of_getElem? (i := 0) rfl))
  replace N := Fr.snoc X N g_a1
  refine own_via (g' := (mkF m 95 (own_A23 a1 tt ww qq) [])) st ?_
  refine own_retV X hx hlk Bd.returns (hb hby ep7m1_d95) (by decide) (by decide) ?_
  rw [eT]
  exact ⟨rfl, N, K0, F_timeMillis_a1, F_worker_a1, F_sequence_a1⟩
theorem ep7m11_d0 : decode prog_7_method_11_code 0 = .ok (.aload_n 0, 1) := by decide +kernel
theorem ep7m11_d1 : decode prog_7_method_11_code 1 = .ok (.getfield 25, 3) := by decide +kernel
theorem ep7m11_d4 : decode prog_7_method_11_code 4 = .ok (.lreturn, 1) := by decide +kernel
theorem own_get_timeMillis_pn : plainFor (⟨"com/example/nuthatch/nuthatch/EventId", "timeMillis", "()J"⟩ : MethodName) = true := by first | exact plainFor_of_name (by first | (simp [plainName, overriddenIn]; done) | decide +kernel) | decide +kernel | exact Jvm.Free.JP.mathPlain rfl (by decide +kernel)
theorem own_get_timeMillis_ef (m : MethodId) (x0 : Addr) : entryFrame m #[(.ref x0)] 1 = mkF m 0 #[.val (.ref x0)] [] := by first | (simp [entryFrame, mkF, argsToLocals, Value.category]; done) | rfl
def own_get_timeMillis_Q (Z : State) (a1 : Addr) (tt : Int64) (ww : Int64) (qq : Int32) (h0 : Heap) (n0 : Nat) (v : Option Value) (h : Heap) (L : List Loc) : Prop := v = some (.long tt) ∧ Fr n0 L ∧ h = h0
set_option maxRecDepth 65536 in
set_option maxHeartbeats 40000000 in
theorem own_get_timeMillis (l : Launch) (Z : State) (a0 : Array Value) (hw : ∀ d ∈ tables_1, d.before a0 Z = true) (ws : List Jvm.Cond) (a1 : Addr) (tt : Int64) (ww : Int64) (qq : Int32) (h0 : Heap) (n0 : Nat) (O : Old Z n0 h0) (F_timeMillis_a1 : Fld Z h0 a1 "com/example/nuthatch/nuthatch/EventId" "timeMillis" "J" (.long tt)) :
    MetFree l (⟨"com/example/nuthatch/nuthatch/EventId", "timeMillis", "()J"⟩ : MethodName) (head1 (Jvm.Cond.code (⟨"com/example/nuthatch/nuthatch/EventId", "timeMillis", "()J"⟩ : MethodName) prog_7_method_11_code 1 (some .long) :: ws) ({ frames := 0, cells := 0, slots := 0, locals := 0 } : Room)) (fun a U => a = #[(.ref a1)] ∧ Z.Warmed39 U.vm ∧ U.heap = h0) (fun _ _ _ _ _ => True) (fun _ U o U' => ∃ v L, o = .returned v ∧ own_get_timeMillis_Q Z a1 tt ww qq h0 n0 v U'.heap L ∧ FrameEnd U o U' L ({ frames := 0, cells := 0, slots := 0, locals := 0 } : Room).cells ({ frames := 0, cells := 0, slots := 0, locals := 0 } : Room).slots) := by
  refine MetFree.of_bodySF own_get_timeMillis_pn hisR ?_
  intro p e s m args below meth c s₁ Bd hml0 hP hK
  obtain ⟨rfl, hZ, hh⟩ := hP
  have hx := Bd.exec
  have hby := Bd.bytes
  have hlk := Bd.notSynchronized
  have hml : c.maxLocals = 1 := hml0
  have hown : s.vm.findClass "com/example/nuthatch/nuthatch/EventId" = some m.cls := findClass_of_methodNamed Bd.named
  have hnm := (name_of_methodNamed Bd.named Bd.method).1
  have X : Stand p l e ({ frames := 0, cells := 0, slots := 0, locals := 0 } : Room) s m #[(.ref a1)] below meth c s₁ [] 0 0 := Stand.of_body Bd
  have eT : s₁.heap = h0 := by rw [← hh, Bd.state]; rfl
  have N := Fr.nil n0
  have K0 := Keep.refl h0 []
  show own_Ends p e below (own_Post s below (own_get_timeMillis_Q Z a1 tt ww qq h0 n0) ({ frames := 0, cells := 0, slots := 0, locals := 0 } : Room).cells ({ frames := 0, cells := 0, slots := 0, locals := 0 } : Room).slots) s₁ (entryFrame m #[(.ref a1)] 1)
  rw [own_get_timeMillis_ef m a1]
  obtain ⟨T, hT⟩ : ∃ z, z = s₁ := ⟨_, rfl⟩
  rw [← hT] at X eT ⊢
  obtain ⟨h, hh0⟩ : ∃ z, z = h0 := ⟨_, rfl⟩
  rw [← hh0] at eT
  replace O : Old Z n0 h := by rw [hh0]; exact O
  replace K0 : Keep h0 h [] := by rw [hh0]; exact K0
  rw [← hh0] at F_timeMillis_a1
  refine own_via (g' := (mkF m 1 #[.val (.ref a1)] [(.ref a1)])) (fun t_ k_ => XS.aloadN X.here hx rfl (hb hby ep7m11_d0) rfl rfl k_) ?_
  obtain ⟨T, X, eT, st⟩ := getF X hx hZ hown (host := "") (Or.inl (hw _ (own_w 19 rfl))) Via.refl eT F_timeMillis_a1 (g := (mkF m 1 #[.val (.ref a1)] [(.ref a1)])) rfl rfl (hb hby ep7m11_d1)
  refine own_via (g' := (mkF m 4 #[.val (.ref a1)] [(.long tt)])) st ?_
  refine own_retW X hx hlk Bd.returns rfl (Or.inr (Or.inl ⟨rfl, rfl, _, rfl⟩)) (hb hby ep7m11_d4) (by decide) (by decide) ?_
  rw [eT]
  exact ⟨rfl, N, hh0⟩
theorem ep7m12_d0 : decode prog_7_method_12_code 0 = .ok (.aload_n 0, 1) := by decide +kernel
theorem ep7m12_d1 : decode prog_7_method_12_code 1 = .ok (.getfield 29, 3) := by decide +kernel
theorem ep7m12_d4 : decode prog_7_method_12_code 4 = .ok (.lreturn, 1) := by decide +kernel
theorem own_get_worker_pn : plainFor (⟨"com/example/nuthatch/nuthatch/EventId", "worker", "()J"⟩ : MethodName) = true := by first | exact plainFor_of_name (by first | (simp [plainName, overriddenIn]; done) | decide +kernel) | decide +kernel | exact Jvm.Free.JP.mathPlain rfl (by decide +kernel)
theorem own_get_worker_ef (m : MethodId) (x0 : Addr) : entryFrame m #[(.ref x0)] 1 = mkF m 0 #[.val (.ref x0)] [] := by first | (simp [entryFrame, mkF, argsToLocals, Value.category]; done) | rfl
def own_get_worker_Q (Z : State) (a1 : Addr) (tt : Int64) (ww : Int64) (qq : Int32) (h0 : Heap) (n0 : Nat) (v : Option Value) (h : Heap) (L : List Loc) : Prop := v = some (.long ww) ∧ Fr n0 L ∧ h = h0
set_option maxRecDepth 65536 in
set_option maxHeartbeats 40000000 in
theorem own_get_worker (l : Launch) (Z : State) (a0 : Array Value) (hw : ∀ d ∈ tables_1, d.before a0 Z = true) (ws : List Jvm.Cond) (a1 : Addr) (tt : Int64) (ww : Int64) (qq : Int32) (h0 : Heap) (n0 : Nat) (O : Old Z n0 h0) (F_worker_a1 : Fld Z h0 a1 "com/example/nuthatch/nuthatch/EventId" "worker" "J" (.long ww)) :
    MetFree l (⟨"com/example/nuthatch/nuthatch/EventId", "worker", "()J"⟩ : MethodName) (head1 (Jvm.Cond.code (⟨"com/example/nuthatch/nuthatch/EventId", "worker", "()J"⟩ : MethodName) prog_7_method_12_code 1 (some .long) :: ws) ({ frames := 0, cells := 0, slots := 0, locals := 0 } : Room)) (fun a U => a = #[(.ref a1)] ∧ Z.Warmed39 U.vm ∧ U.heap = h0) (fun _ _ _ _ _ => True) (fun _ U o U' => ∃ v L, o = .returned v ∧ own_get_worker_Q Z a1 tt ww qq h0 n0 v U'.heap L ∧ FrameEnd U o U' L ({ frames := 0, cells := 0, slots := 0, locals := 0 } : Room).cells ({ frames := 0, cells := 0, slots := 0, locals := 0 } : Room).slots) := by
  refine MetFree.of_bodySF own_get_worker_pn hisR ?_
  intro p e s m args below meth c s₁ Bd hml0 hP hK
  obtain ⟨rfl, hZ, hh⟩ := hP
  have hx := Bd.exec
  have hby := Bd.bytes
  have hlk := Bd.notSynchronized
  have hml : c.maxLocals = 1 := hml0
  have hown : s.vm.findClass "com/example/nuthatch/nuthatch/EventId" = some m.cls := findClass_of_methodNamed Bd.named
  have hnm := (name_of_methodNamed Bd.named Bd.method).1
  have X : Stand p l e ({ frames := 0, cells := 0, slots := 0, locals := 0 } : Room) s m #[(.ref a1)] below meth c s₁ [] 0 0 := Stand.of_body Bd
  have eT : s₁.heap = h0 := by rw [← hh, Bd.state]; rfl
  have N := Fr.nil n0
  have K0 := Keep.refl h0 []
  show own_Ends p e below (own_Post s below (own_get_worker_Q Z a1 tt ww qq h0 n0) ({ frames := 0, cells := 0, slots := 0, locals := 0 } : Room).cells ({ frames := 0, cells := 0, slots := 0, locals := 0 } : Room).slots) s₁ (entryFrame m #[(.ref a1)] 1)
  rw [own_get_worker_ef m a1]
  obtain ⟨T, hT⟩ : ∃ z, z = s₁ := ⟨_, rfl⟩
  rw [← hT] at X eT ⊢
  obtain ⟨h, hh0⟩ : ∃ z, z = h0 := ⟨_, rfl⟩
  rw [← hh0] at eT
  replace O : Old Z n0 h := by rw [hh0]; exact O
  replace K0 : Keep h0 h [] := by rw [hh0]; exact K0
  rw [← hh0] at F_worker_a1
  refine own_via (g' := (mkF m 1 #[.val (.ref a1)] [(.ref a1)])) (fun t_ k_ => XS.aloadN X.here hx rfl (hb hby ep7m12_d0) rfl rfl k_) ?_
  obtain ⟨T, X, eT, st⟩ := getF X hx hZ hown (host := "") (Or.inl (hw _ (own_w 21 rfl))) Via.refl eT F_worker_a1 (g := (mkF m 1 #[.val (.ref a1)] [(.ref a1)])) rfl rfl (hb hby ep7m12_d1)
  refine own_via (g' := (mkF m 4 #[.val (.ref a1)] [(.long ww)])) st ?_
  refine own_retW X hx hlk Bd.returns rfl (Or.inr (Or.inl ⟨rfl, rfl, _, rfl⟩)) (hb hby ep7m12_d4) (by decide) (by decide) ?_
  rw [eT]
  exact ⟨rfl, N, hh0⟩
theorem ep7m13_d0 : decode prog_7_method_13_code 0 = .ok (.aload_n 0, 1) := by decide +kernel
theorem ep7m13_d1 : decode prog_7_method_13_code 1 = .ok (.getfield 32, 3) := by decide +kernel
theorem ep7m13_d4 : decode prog_7_method_13_code 4 = .ok (.ireturn, 1) := by decide +kernel
theorem own_get_sequence_pn : plainFor (⟨"com/example/nuthatch/nuthatch/EventId", "sequence", "()I"⟩ : MethodName) = true := by first | exact plainFor_of_name (by first | (simp [plainName, overriddenIn]; done) | decide +kernel) | decide +kernel | exact Jvm.Free.JP.mathPlain rfl (by decide +kernel)
theorem own_get_sequence_ef (m : MethodId) (x0 : Addr) : entryFrame m #[(.ref x0)] 1 = mkF m 0 #[.val (.ref x0)] [] := by first | (simp [entryFrame, mkF, argsToLocals, Value.category]; done) | rfl
def own_get_sequence_Q (Z : State) (a1 : Addr) (tt : Int64) (ww : Int64) (qq : Int32) (h0 : Heap) (n0 : Nat) (v : Option Value) (h : Heap) (L : List Loc) : Prop := v = some (.int qq) ∧ Fr n0 L ∧ h = h0
set_option maxRecDepth 65536 in
set_option maxHeartbeats 40000000 in
theorem own_get_sequence (l : Launch) (Z : State) (a0 : Array Value) (hw : ∀ d ∈ tables_1, d.before a0 Z = true) (ws : List Jvm.Cond) (a1 : Addr) (tt : Int64) (ww : Int64) (qq : Int32) (h0 : Heap) (n0 : Nat) (O : Old Z n0 h0) (F_sequence_a1 : Fld Z h0 a1 "com/example/nuthatch/nuthatch/EventId" "sequence" "I" (.int qq)) :
    MetFree l (⟨"com/example/nuthatch/nuthatch/EventId", "sequence", "()I"⟩ : MethodName) (head1 (Jvm.Cond.code (⟨"com/example/nuthatch/nuthatch/EventId", "sequence", "()I"⟩ : MethodName) prog_7_method_13_code 1 (some .int) :: ws) ({ frames := 0, cells := 0, slots := 0, locals := 0 } : Room)) (fun a U => a = #[(.ref a1)] ∧ Z.Warmed39 U.vm ∧ U.heap = h0) (fun _ _ _ _ _ => True) (fun _ U o U' => ∃ v L, o = .returned v ∧ own_get_sequence_Q Z a1 tt ww qq h0 n0 v U'.heap L ∧ FrameEnd U o U' L ({ frames := 0, cells := 0, slots := 0, locals := 0 } : Room).cells ({ frames := 0, cells := 0, slots := 0, locals := 0 } : Room).slots) := by
  refine MetFree.of_bodySF own_get_sequence_pn hisR ?_
  intro p e s m args below meth c s₁ Bd hml0 hP hK
  obtain ⟨rfl, hZ, hh⟩ := hP
  have hx := Bd.exec
  have hby := Bd.bytes
  have hlk := Bd.notSynchronized
  have hml : c.maxLocals = 1 := hml0
  have hown : s.vm.findClass "com/example/nuthatch/nuthatch/EventId" = some m.cls := findClass_of_methodNamed Bd.named
  have hnm := (name_of_methodNamed Bd.named Bd.method).1
  have X : Stand p l e ({ frames := 0, cells := 0, slots := 0, locals := 0 } : Room) s m #[(.ref a1)] below meth c s₁ [] 0 0 := Stand.of_body Bd
  have eT : s₁.heap = h0 := by rw [← hh, Bd.state]; rfl
  have N := Fr.nil n0
  have K0 := Keep.refl h0 []
  show own_Ends p e below (own_Post s below (own_get_sequence_Q Z a1 tt ww qq h0 n0) ({ frames := 0, cells := 0, slots := 0, locals := 0 } : Room).cells ({ frames := 0, cells := 0, slots := 0, locals := 0 } : Room).slots) s₁ (entryFrame m #[(.ref a1)] 1)
  rw [own_get_sequence_ef m a1]
  obtain ⟨T, hT⟩ : ∃ z, z = s₁ := ⟨_, rfl⟩
  rw [← hT] at X eT ⊢
  obtain ⟨h, hh0⟩ : ∃ z, z = h0 := ⟨_, rfl⟩
  rw [← hh0] at eT
  replace O : Old Z n0 h := by rw [hh0]; exact O
  replace K0 : Keep h0 h [] := by rw [hh0]; exact K0
  rw [← hh0] at F_sequence_a1
  refine own_via (g' := (mkF m 1 #[.val (.ref a1)] [(.ref a1)])) (fun t_ k_ => XS.aloadN X.here hx rfl (hb hby ep7m13_d0) rfl rfl k_) ?_
  obtain ⟨T, X, eT, st⟩ := getF X hx hZ hown (host := "") (Or.inl (hw _ (own_w 23 rfl))) Via.refl eT F_sequence_a1 (g := (mkF m 1 #[.val (.ref a1)] [(.ref a1)])) rfl rfl (hb hby ep7m13_d1)
  refine own_via (g' := (mkF m 4 #[.val (.ref a1)] [(.int qq)])) st ?_
  refine own_retW X hx hlk Bd.returns rfl (Or.inl ⟨rfl, Or.inl rfl, _, rfl⟩) (hb hby ep7m13_d4) (by decide) (by decide) ?_
  rw [eT]
  exact ⟨rfl, N, hh0⟩
theorem ep7m6_d0 : decode prog_7_method_6_code 0 = .ok (.lconst 0, 1) := by decide +kernel
theorem ep7m6_d1 : decode prog_7_method_6_code 1 = .ok (.lstore_n 2, 1) := by decide +kernel
theorem ep7m6_d2 : decode prog_7_method_6_code 2 = .ok (.iconst 0, 1) := by decide +kernel
theorem ep7m6_d3 : decode prog_7_method_6_code 3 = .ok (.istore 4, 2) := by decide +kernel
theorem ep7m6_d5 : decode prog_7_method_6_code 5 = .ok (.iload 4, 2) := by decide +kernel
theorem ep7m6_d7 : decode prog_7_method_6_code 7 = .ok (.iconst 4, 1) := by decide +kernel
theorem ep7m6_d8 : decode prog_7_method_6_code 8 = .ok (.if_icmp .ge 35, 3) := by decide +kernel
theorem ep7m6_d11 : decode prog_7_method_6_code 11 = .ok (.lload_n 2, 1) := by decide +kernel
theorem ep7m6_d12 : decode prog_7_method_6_code 12 = .ok (.bipush 32, 2) := by decide +kernel
theorem ep7m6_d14 : decode prog_7_method_6_code 14 = .ok (.lshl, 1) := by decide +kernel
theorem ep7m6_d15 : decode prog_7_method_6_code 15 = .ok (.aload_n 0, 1) := by decide +kernel
theorem ep7m6_d16 : decode prog_7_method_6_code 16 = .ok (.iload 4, 2) := by decide +kernel
theorem ep7m6_d18 : decode prog_7_method_6_code 18 = .ok (.laload, 1) := by decide +kernel
theorem ep7m6_d19 : decode prog_7_method_6_code 19 = .ok (.lor, 1) := by decide +kernel
theorem ep7m6_d20 : decode prog_7_method_6_code 20 = .ok (.lstore 5, 2) := by decide +kernel
theorem ep7m6_d22 : decode prog_7_method_6_code 22 = .ok (.aload_n 0, 1) := by decide +kernel
theorem ep7m6_d23 : decode prog_7_method_6_code 23 = .ok (.iload 4, 2) := by decide +kernel
theorem ep7m6_d25 : decode prog_7_method_6_code 25 = .ok (.lload 5, 2) := by decide +kernel
theorem ep7m6_d27 : decode prog_7_method_6_code 27 = .ok (.iload_n 1, 1) := by decide +kernel
theorem ep7m6_d28 : decode prog_7_method_6_code 28 = .ok (.i2l, 1) := by decide +kernel
theorem ep7m6_d29 : decode prog_7_method_6_code 29 = .ok (.ldiv, 1) := by decide +kernel
theorem ep7m6_d30 : decode prog_7_method_6_code 30 = .ok (.lastore, 1) := by decide +kernel
theorem ep7m6_d31 : decode prog_7_method_6_code 31 = .ok (.lload 5, 2) := by decide +kernel
theorem ep7m6_d33 : decode prog_7_method_6_code 33 = .ok (.iload_n 1, 1) := by decide +kernel
theorem ep7m6_d34 : decode prog_7_method_6_code 34 = .ok (.i2l, 1) := by decide +kernel
theorem ep7m6_d35 : decode prog_7_method_6_code 35 = .ok (.lrem, 1) := by decide +kernel
theorem ep7m6_d36 : decode prog_7_method_6_code 36 = .ok (.lstore_n 2, 1) := by decide +kernel
theorem ep7m6_d37 : decode prog_7_method_6_code 37 = .ok (.iinc 4 1, 3) := by decide +kernel
theorem ep7m6_d40 : decode prog_7_method_6_code 40 = .ok (.goto (-35), 3) := by decide +kernel
theorem ep7m6_d43 : decode prog_7_method_6_code 43 = .ok (.lload_n 2, 1) := by decide +kernel
theorem ep7m6_d44 : decode prog_7_method_6_code 44 = .ok (.l2i, 1) := by decide +kernel
theorem ep7m6_d45 : decode prog_7_method_6_code 45 = .ok (.ireturn, 1) := by decide +kernel
theorem own_divide_pn : plainFor (⟨"com/example/nuthatch/nuthatch/EventId", "divide", "([JI)I"⟩ : MethodName) = true := by first | exact plainFor_of_name (by first | (simp [plainName, overriddenIn]; done) | decide +kernel) | decide +kernel | exact Jvm.Free.JP.mathPlain rfl (by decide +kernel)
theorem own_divide_ef (m : MethodId) (x0 : Addr) (x1 : Int32) : entryFrame m #[(.ref x0), (.int x1)] 7 = mkF m 0 #[.val (.ref x0), .val (.int x1), .unset, .unset, .unset, .unset, .unset] [] := by first | (simp [entryFrame, mkF, argsToLocals, Value.category]; done) | rfl
def own_divide_Q (Z : State) (a1 : Addr) (ka : ClassId) (x0 : Int64) (x1 : Int64) (x2 : Int64) (x3 : Int64) (M : Int) (h0 : Heap) (n0 : Nat) (v : Option Value) (h : Heap) (L : List Loc) : Prop := ∃ y0 y1 y2 y3 r, v = some (.int r) ∧ Fr n0 L ∧ Keep h0 h [a1] ∧ Arv Z h a1 ka .long (4 : Int32) [(.long y0), (.long y1), (.long y2), (.long y3)] (.long 0) ∧ own_L (M / 916132832) y0 y1 y2 y3 ∧ r.toInt = M % 916132832
set_option maxRecDepth 65536 in
set_option maxHeartbeats 40000000 in
theorem own_divide (l : Launch) (Z : State) (a0 : Array Value) (hw : ∀ d ∈ tables_1, d.before a0 Z = true) (ws : List Jvm.Cond) (a1 : Addr) (ka : ClassId) (x0 : Int64) (x1 : Int64) (x2 : Int64) (x3 : Int64) (M : Int) (h0 : Heap) (n0 : Nat) (O : Old Z n0 h0) (E_a1 : Exa Z h0 a1 "[J") (V_a1 : Arv Z h0 a1 ka .long (4 : Int32) [(.long x0), (.long x1), (.long x2), (.long x3)] (.long 0)) (g_a1 : n0 ≤ a1) (hL : own_L M x0 x1 x2 x3) :
    MetFree l (⟨"com/example/nuthatch/nuthatch/EventId", "divide", "([JI)I"⟩ : MethodName) (head1 (Jvm.Cond.code (⟨"com/example/nuthatch/nuthatch/EventId", "divide", "([JI)I"⟩ : MethodName) prog_7_method_6_code 7 (some .int) :: ws) ({ frames := 0, cells := 0, slots := 0, locals := 0 } : Room)) (fun a U => a = #[(.ref a1), (.int 916132832)] ∧ Z.Warmed39 U.vm ∧ U.heap = h0) (fun _ _ _ _ _ => True) (fun _ U o U' => ∃ v L, o = .returned v ∧ own_divide_Q Z a1 ka x0 x1 x2 x3 M h0 n0 v U'.heap L ∧ FrameEnd U o U' L ({ frames := 0, cells := 0, slots := 0, locals := 0 } : Room).cells ({ frames := 0, cells := 0, slots := 0, locals := 0 } : Room).slots) := by
  refine MetFree.of_bodySF own_divide_pn hisR ?_
  intro p e s m args below meth c s₁ Bd hml0 hP hK
  obtain ⟨rfl, hZ, hh⟩ := hP
  have hx := Bd.exec
  have hby := Bd.bytes
  have hlk := Bd.notSynchronized
  have hml : c.maxLocals = 7 := hml0
  have hown : s.vm.findClass "com/example/nuthatch/nuthatch/EventId" = some m.cls := findClass_of_methodNamed Bd.named
  have hnm := (name_of_methodNamed Bd.named Bd.method).1
  have X : Stand p l e ({ frames := 0, cells := 0, slots := 0, locals := 0 } : Room) s m #[(.ref a1), (.int 916132832)] below meth c s₁ [] 0 0 := Stand.of_body Bd
  have eT : s₁.heap = h0 := by rw [← hh, Bd.state]; rfl
  have N := Fr.nil n0
  have K0 := Keep.refl h0 [a1]
  show own_Ends p e below (own_Post s below (own_divide_Q Z a1 ka x0 x1 x2 x3 M h0 n0) ({ frames := 0, cells := 0, slots := 0, locals := 0 } : Room).cells ({ frames := 0, cells := 0, slots := 0, locals := 0 } : Room).slots) s₁ (entryFrame m #[(.ref a1), (.int 916132832)] 7)
  rw [own_divide_ef m a1 (916132832 : Int32)]
  obtain ⟨T, hT⟩ : ∃ z, z = s₁ := ⟨_, rfl⟩
  rw [← hT] at X eT ⊢
  obtain ⟨h, hh0⟩ : ∃ z, z = h0 := ⟨_, rfl⟩
  rw [← hh0] at eT
  replace O : Old Z n0 h := by rw [hh0]; exact O
  replace K0 : Keep h0 h [a1] := by rw [hh0]; exact K0
  rw [← hh0] at E_a1
  rw [← hh0] at V_a1
  refine own_via (g' := (mkF m 15 (own_A22 a1 916132832 0 0) [(.long ((0 : Int64) <<< ((32 : Int32) &&& 0x3f).toInt64))])) (fun t_ k_ => XS.lconst X.here hx rfl (hb hby ep7m6_d0) (XS.lstoreN X.here hx rfl (hb hby ep7m6_d1) rfl (l' := #[.val (.ref a1), .val (.int 916132832), .val (.long 0), .second, .unset, .unset, .unset]) rfl (XS.iconst X.here hx rfl (hb hby ep7m6_d2) (XS.istore X.here hx rfl (hb hby ep7m6_d3) rfl (l' := (own_A22 a1 916132832 0 0)) rfl (XS.iload X.here hx rfl (hb hby ep7m6_d5) rfl (XS.iconst X.here hx rfl (hb hby ep7m6_d7) (XS.icmpNo X.here hx rfl (hb hby ep7m6_d8) rfl (tlt (by decide : (0 : Int32) < (4 : Int32))).2.1 (XS.lloadN X.here hx rfl (hb hby ep7m6_d11) rfl (XS.bipush X.here hx rfl (hb hby ep7m6_d12) (XS.lshl X.here hx rfl (hb hby ep7m6_d14) rfl k_)))))))))) ?_
  refine own_via (g' := (mkF m 18 (own_A22 a1 916132832 0 0) [(.int 0), (.ref a1), (.long ((0 : Int64) <<< ((32 : Int32) &&& 0x3f).toInt64))])) (fun t_ k_ => XS.aloadN X.here hx rfl (hb hby ep7m6_d15) rfl rfl (XS.iload X.here hx rfl (hb hby ep7m6_d16) rfl k_)) ?_
  obtain ⟨cl_, Ar_, -, Sz_, Nn_, Hs_, -⟩ := id V_a1
  have hin_ : ¬ ((0 : Int32) < 0 ∨ cl_.slots.size ≤ ((0 : Int32)).toNatClampNeg) := inb_of Sz_ ⟨by decide, by decide⟩
  have hat_ : cl_.slots[((0 : Int32)).toNatClampNeg]? = some (.long x0) := Hs_.at hin_ rfl
  refine own_via (g' := (mkF m 22 (own_A12 a1 916132832 0 0 (((0 : Int64) <<< ((32 : Int32) &&& 0x3f).toInt64) ||| x0)) [])) (fun t_ k_ => X.laload hx (j := (0 : Int32)) (v := (.long x0)) (by rw [eT]; exact Ar_.1) (State.isArrayOf_alike hZ.alike Ar_.2.1) Ar_.2.2 hin_ hat_ (g := (mkF m 18 (own_A22 a1 916132832 0 0) [(.int 0), (.ref a1), (.long ((0 : Int64) <<< ((32 : Int32) &&& 0x3f).toInt64))])) rfl rfl (hb hby ep7m6_d18) _ (XS.lor X.here hx rfl (hb hby ep7m6_d19) rfl (XS.lstore X.here hx rfl (hb hby ep7m6_d20) rfl (l' := (own_A12 a1 916132832 0 0 (((0 : Int64) <<< ((32 : Int32) &&& 0x3f).toInt64) ||| x0))) rfl k_))) ?_
  obtain ⟨c0, hd_c0⟩ : ∃ z, z = (((0 : Int64) <<< ((32 : Int32) &&& 0x3f).toInt64) ||| x0) := ⟨_, rfl⟩
  rw [← hd_c0]
  refine own_via (g' := (mkF m 30 (own_A12 a1 916132832 0 0 c0) [(.long (c0 / ((916132832 : Int32).toInt64))), (.int 0), (.ref a1)])) (fun t_ k_ => XS.aloadN X.here hx rfl (hb hby ep7m6_d22) rfl rfl (XS.iload X.here hx rfl (hb hby ep7m6_d23) rfl (XS.lload X.here hx rfl (hb hby ep7m6_d25) rfl (XS.iloadN X.here hx rfl (hb hby ep7m6_d27) rfl (XS.i2l X.here hx rfl (hb hby ep7m6_d28) rfl (XS.ldiv X.here hx rfl (hb hby ep7m6_d29) rfl (by decide) k_)))))) ?_
  obtain ⟨cl_, Ar_, qk_, Sz_, Nn_, Hs_, Gs_⟩ := id V_a1
  have hin_ : ¬ ((0 : Int32) < 0 ∨ cl_.slots.size ≤ ((0 : Int32)).toNatClampNeg) := inb_of Sz_ ⟨by decide, by decide⟩
  obtain ⟨T, h1, X, eT, W, st⟩ := stJ X hx hZ eT Ar_ (j := (0 : Int32)) hin_ (g := (mkF m 30 (own_A12 a1 916132832 0 0 c0) [(.long (c0 / ((916132832 : Int32).toInt64))), (.int 0), (.ref a1)])) rfl rfl (hb hby ep7m6_d30)
  replace V_a1 : Arv Z h1 a1 ka .long (4 : Int32) [(.long (c0 / ((916132832 : Int32).toInt64))), (.long x1), (.long x2), (.long x3)] (.long 0) := Arv.set Ar_ qk_ Sz_ Nn_ Hs_ Gs_ rfl W 0 (by decide) (Nat.le_of_ble_eq_true rfl)
  replace E_a1 := E_a1.wr W
  replace O := O.wr W g_a1
  replace K0 := K0.wr W (Or.inl (List.mem_of_getElem? (i := 0) rfl))
  replace N := Fr.snoc X N g_a1
  refine own_via (g' := (mkF m 31 (own_A12 a1 916132832 0 0 c0) [])) st ?_
  refine own_via (g' := (mkF m 37 (own_A12 a1 916132832 (c0 - (c0 / ((916132832 : Int32).toInt64)) * ((916132832 : Int32).toInt64)) 0 c0) [])) (fun t_ k_ => XS.lload X.here hx rfl (hb hby ep7m6_d31) rfl (XS.iloadN X.here hx rfl (hb hby ep7m6_d33) rfl (XS.i2l X.here hx rfl (hb hby ep7m6_d34) rfl (XS.lrem X.here hx rfl (hb hby ep7m6_d35) rfl (by decide) (XS.lstoreN X.here hx rfl (hb hby ep7m6_d36) rfl (l' := (own_A12 a1 916132832 (c0 - (c0 / ((916132832 : Int32).toInt64)) * ((916132832 : Int32).toInt64)) 0 c0)) rfl k_))))) ?_
  obtain ⟨m1, hd_m1⟩ : ∃ z, z = (c0 - (c0 / ((916132832 : Int32).toInt64)) * ((916132832 : Int32).toInt64)) := ⟨_, rfl⟩
  rw [← hd_m1]
  refine own_via (g' := (mkF m 40 (own_A12 a1 916132832 m1 ((0 : Int32) + (1 : Int32)) c0) [])) (fun t_ k_ => XS.iinc X.here hx rfl (hb hby ep7m6_d37) rfl (l' := (own_A12 a1 916132832 m1 ((0 : Int32) + (1 : Int32)) c0)) rfl k_) ?_
  rw [(by decide : ((0 : Int32) + (1 : Int32)) = (1 : Int32))]
  refine own_via (g' := (mkF m 18 (own_A12 a1 916132832 m1 1 c0) [(.int 1), (.ref a1), (.long (m1 <<< ((32 : Int32) &&& 0x3f).toInt64))])) (fun t_ k_ => XS.goto X.here hx rfl (pc0 := 40) (pc' := 5) rfl (hb hby ep7m6_d40) (by decide) (by decide) (XS.iload X.here hx rfl (hb hby ep7m6_d5) rfl (XS.iconst X.here hx rfl (hb hby ep7m6_d7) (XS.icmpNo X.here hx rfl (hb hby ep7m6_d8) rfl (tlt (by decide : (1 : Int32) < (4 : Int32))).2.1 (XS.lloadN X.here hx rfl (hb hby ep7m6_d11) rfl (XS.bipush X.here hx rfl (hb hby ep7m6_d12) (XS.lshl X.here hx rfl (hb hby ep7m6_d14) rfl (XS.aloadN X.here hx rfl (hb hby ep7m6_d15) rfl rfl (XS.iload X.here hx rfl (hb hby ep7m6_d16) rfl k_))))))))) ?_
  obtain ⟨cl_, Ar_, -, Sz_, Nn_, Hs_, -⟩ := id V_a1
  have hin_ : ¬ ((1 : Int32) < 0 ∨ cl_.slots.size ≤ ((1 : Int32)).toNatClampNeg) := inb_of Sz_ ⟨by decide, by decide⟩
  have hat_ : cl_.slots[((1 : Int32)).toNatClampNeg]? = some (.long x1) := Hs_.at hin_ rfl
  refine own_via (g' := (mkF m 22 (own_A12 a1 916132832 m1 1 ((m1 <<< ((32 : Int32) &&& 0x3f).toInt64) ||| x1)) [])) (fun t_ k_ => X.laload hx (j := (1 : Int32)) (v := (.long x1)) (by rw [eT]; exact Ar_.1) (State.isArrayOf_alike hZ.alike Ar_.2.1) Ar_.2.2 hin_ hat_ (g := (mkF m 18 (own_A12 a1 916132832 m1 1 c0) [(.int 1), (.ref a1), (.long (m1 <<< ((32 : Int32) &&& 0x3f).toInt64))])) rfl rfl (hb hby ep7m6_d18) _ (XS.lor X.here hx rfl (hb hby ep7m6_d19) rfl (XS.lstore X.here hx rfl (hb hby ep7m6_d20) rfl (l' := (own_A12 a1 916132832 m1 1 ((m1 <<< ((32 : Int32) &&& 0x3f).toInt64) ||| x1))) rfl k_))) ?_
  obtain ⟨c1, hd_c1⟩ : ∃ z, z = ((m1 <<< ((32 : Int32) &&& 0x3f).toInt64) ||| x1) := ⟨_, rfl⟩
  rw [← hd_c1]
  refine own_via (g' := (mkF m 30 (own_A12 a1 916132832 m1 1 c1) [(.long (c1 / ((916132832 : Int32).toInt64))), (.int 1), (.ref a1)])) (fun t_ k_ => XS.aloadN X.here hx rfl (hb hby ep7m6_d22) rfl rfl (XS.iload X.here hx rfl (hb hby ep7m6_d23) rfl (XS.lload X.here hx rfl (hb hby ep7m6_d25) rfl (XS.iloadN X.here hx rfl (hb hby ep7m6_d27) rfl (XS.i2l X.here hx rfl (hb hby ep7m6_d28) rfl (XS.ldiv X.here hx rfl (hb hby ep7m6_d29) rfl (by decide) k_)))))) ?_
  obtain ⟨cl_, Ar_, qk_, Sz_, Nn_, Hs_, Gs_⟩ := id V_a1
  have hin_ : ¬ ((1 : Int32) < 0 ∨ cl_.slots.size ≤ ((1 : Int32)).toNatClampNeg) := inb_of Sz_ ⟨by decide, by decide⟩
  obtain ⟨T, h2, X, eT, W, st⟩ := stJ X hx hZ eT Ar_ (j := (1 : Int32)) hin_ (g := (mkF m 30 (own_A12 a1 916132832 m1 1 c1) [(.long (c1 / ((916132832 : Int32).toInt64))), (.int 1), (.ref a1)])) rfl rfl (hb hby ep7m6_d30)
  replace V_a1 : Arv Z h2 a1 ka .long (4 : Int32) [(.long (c0 / ((916132832 : Int32).toInt64))), (.long (c1 / ((916132832 : Int32).toInt64))), (.long x2), (.long x3)] (.long 0) := Arv.set Ar_ qk_ Sz_ Nn_ Hs_ Gs_ rfl W 1 (by decide) (Nat.le_of_ble_eq_true rfl)
  replace E_a1 := E_a1.wr W
  replace O := O.wr W g_a1
  replace K0 := K0.wr W (Or.inl (List.mem_of_getElem? (i := 0) rfl))
  replace N := Fr.snoc X N g_a1
  refine own_via (g' := (mkF m 31 (own_A12 a1 916132832 m1 1 c1) [])) st ?_
  refine own_via (g' := (mkF m 37 (own_A12 a1 916132832 (c1 - (c1 / ((916132832 : Int32).toInt64)) * ((916132832 : Int32).toInt64)) 1 c1) [])) (fun t_ k_ => XS.lload X.here hx rfl (hb hby ep7m6_d31) rfl (XS.iloadN X.here hx rfl (hb hby ep7m6_d33) rfl (XS.i2l X.here hx rfl (hb hby ep7m6_d34) rfl (XS.lrem X.here hx rfl (hb hby ep7m6_d35) rfl (by decide) (XS.lstoreN X.here hx rfl (hb hby ep7m6_d36) rfl (l' := (own_A12 a1 916132832 (c1 - (c1 / ((916132832 : Int32).toInt64)) * ((916132832 : Int32).toInt64)) 1 c1)) rfl k_))))) ?_
  obtain ⟨m2, hd_m2⟩ : ∃ z, z = (c1 - (c1 / ((916132832 : Int32).toInt64)) * ((916132832 : Int32).toInt64)) := ⟨_, rfl⟩
  rw [← hd_m2]
  refine own_via (g' := (mkF m 40 (own_A12 a1 916132832 m2 ((1 : Int32) + (1 : Int32)) c1) [])) (fun t_ k_ => XS.iinc X.here hx rfl (hb hby ep7m6_d37) rfl (l' := (own_A12 a1 916132832 m2 ((1 : Int32) + (1 : Int32)) c1)) rfl k_) ?_
  rw [(by decide : ((1 : Int32) + (1 : Int32)) = (2 : Int32))]
  refine own_via (g' := (mkF m 18 (own_A12 a1 916132832 m2 2 c1) [(.int 2), (.ref a1), (.long (m2 <<< ((32 : Int32) &&& 0x3f).toInt64))])) (fun t_ k_ => XS.goto X.here hx rfl (pc0 := 40) (pc' := 5) rfl (hb hby ep7m6_d40) (by decide) (by decide) (XS.iload X.here hx rfl (hb hby ep7m6_d5) rfl (XS.iconst X.here hx rfl (hb hby ep7m6_d7) (XS.icmpNo X.here hx rfl (hb hby ep7m6_d8) rfl (tlt (by decide : (2 : Int32) < (4 : Int32))).2.1 (XS.lloadN X.here hx rfl (hb hby ep7m6_d11) rfl (XS.bipush X.here hx rfl (hb hby ep7m6_d12) (XS.lshl X.here hx rfl (hb hby ep7m6_d14) rfl (XS.aloadN X.here hx rfl (hb hby ep7m6_d15) rfl rfl (XS.iload X.here hx rfl (hb hby ep7m6_d16) rfl k_))))))))) ?_
  obtain ⟨cl_, Ar_, -, Sz_, Nn_, Hs_, -⟩ := id V_a1
  have hin_ : ¬ ((2 : Int32) < 0 ∨ cl_.slots.size ≤ ((2 : Int32)).toNatClampNeg) := inb_of Sz_ ⟨by decide, by decide⟩
  have hat_ : cl_.slots[((2 : Int32)).toNatClampNeg]? = some (.long x2) := Hs_.at hin_ rfl
  refine own_via (g' := (mkF m 22 (own_A12 a1 916132832 m2 2 ((m2 <<< ((32 : Int32) &&& 0x3f).toInt64) ||| x2)) [])) (fun t_ k_ => X.laload hx (j := (2 : Int32)) (v := (.long x2)) (by rw [eT]; exact Ar_.1) (State.isArrayOf_alike hZ.alike Ar_.2.1) Ar_.2.2 hin_ hat_ (g := (mkF m 18 (own_A12 a1 916132832 m2 2 c1) [(.int 2), (.ref a1), (.long (m2 <<< ((32 : Int32) &&& 0x3f).toInt64))])) rfl rfl (hb hby ep7m6_d18) _ (XS.lor X.here hx rfl (hb hby ep7m6_d19) rfl (XS.lstore X.here hx rfl (hb hby ep7m6_d20) rfl (l' := (own_A12 a1 916132832 m2 2 ((m2 <<< ((32 : Int32) &&& 0x3f).toInt64) ||| x2))) rfl k_))) ?_
  obtain ⟨c2, hd_c2⟩ : ∃ z, z = ((m2 <<< ((32 : Int32) &&& 0x3f).toInt64) ||| x2) := ⟨_, rfl⟩
  rw [← hd_c2]
  refine own_via (g' := (mkF m 30 (own_A12 a1 916132832 m2 2 c2) [(.long (c2 / ((916132832 : Int32).toInt64))), (.int 2), (.ref a1)])) (fun t_ k_ => XS.aloadN X.here hx rfl (hb hby ep7m6_d22) rfl rfl (XS.iload X.here hx rfl (hb hby ep7m6_d23) rfl (XS.lload X.here hx rfl (hb hby ep7m6_d25) rfl (XS.iloadN X.here hx rfl (hb hby ep7m6_d27) rfl (XS.i2l X.here hx rfl (hb hby ep7m6_d28) rfl (XS.ldiv X.here hx rfl (hb hby ep7m6_d29) rfl (by decide) k_)))))) ?_
  obtain ⟨cl_, Ar_, qk_, Sz_, Nn_, Hs_, Gs_⟩ := id V_a1
  have hin_ : ¬ ((2 : Int32) < 0 ∨ cl_.slots.size ≤ ((2 : Int32)).toNatClampNeg) := inb_of Sz_ ⟨by decide, by decide⟩
  obtain ⟨T, h3, X, eT, W, st⟩ := stJ X hx hZ eT Ar_ (j := (2 : Int32)) hin_ (g := (mkF m 30 (own_A12 a1 916132832 m2 2 c2) [(.long (c2 / ((916132832 : Int32).toInt64))), (.int 2), (.ref a1)])) rfl rfl (hb hby ep7m6_d30)
  replace V_a1 : Arv Z h3 a1 ka .long (4 : Int32) [(.long (c0 / ((916132832 : Int32).toInt64))), (.long (c1 / ((916132832 : Int32).toInt64))), (.long (c2 / ((916132832 : Int32).toInt64))), (.long x3)] (.long 0) := Arv.set Ar_ qk_ Sz_ Nn_ Hs_ Gs_ rfl W 2 (by decide) (Nat.le_of_ble_eq_true rfl)
  replace E_a1 := E_a1.wr W
  replace O := O.wr W g_a1
  replace K0 := K0.wr W (Or.inl (List.mem_of_getElem? (i := 0) rfl))
  replace N := Fr.snoc X N g_a1
  refine own_via (g' := (mkF m 31 (own_A12 a1 916132832 m2 2 c2) [])) st ?_
  refine own_via (g' := (mkF m 37 (own_A12 a1 916132832 (c2 - (c2 / ((916132832 : Int32).toInt64)) * ((916132832 : Int32).toInt64)) 2 c2) [])) (fun t_ k_ => XS.lload X.here hx rfl (hb hby ep7m6_d31) rfl (XS.iloadN X.here hx rfl (hb hby ep7m6_d33) rfl (XS.i2l X.here hx rfl (hb hby ep7m6_d34) rfl (XS.lrem X.here hx rfl (hb hby ep7m6_d35) rfl (by decide) (XS.lstoreN X.here hx rfl (hb hby ep7m6_d36) rfl (l' := (own_A12 a1 916132832 (c2 - (c2 / ((916132832 : Int32).toInt64)) * ((916132832 : Int32).toInt64)) 2 c2)) rfl k_))))) ?_
  obtain ⟨m3, hd_m3⟩ : ∃ z, z = (c2 - (c2 / ((916132832 : Int32).toInt64)) * ((916132832 : Int32).toInt64)) := ⟨_, rfl⟩
  rw [← hd_m3]
  refine own_via (g' := (mkF m 40 (own_A12 a1 916132832 m3 ((2 : Int32) + (1 : Int32)) c2) [])) (fun t_ k_ => XS.iinc X.here hx rfl (hb hby ep7m6_d37) rfl (l' := (own_A12 a1 916132832 m3 ((2 : Int32) + (1 : Int32)) c2)) rfl k_) ?_
  rw [(by decide : ((2 : Int32) + (1 : Int32)) = (3 : Int32))]
  refine own_via (g' := (mkF m 18 (own_A12 a1 916132832 m3 3 c2) [(.int 3), (.ref a1), (.long (m3 <<< ((32 : Int32) &&& 0x3f).toInt64))])) (fun t_ k_ => XS.goto X.here hx rfl (pc0 := 40) (pc' := 5) rfl (hb hby ep7m6_d40) (by decide) (by decide) (XS.iload X.here hx rfl (hb hby ep7m6_d5) rfl (XS.iconst X.here hx rfl (hb hby ep7m6_d7) (XS.icmpNo X.here hx rfl (hb hby ep7m6_d8) rfl (tlt (by decide : (3 : Int32) < (4 : Int32))).2.1 (XS.lloadN X.here hx rfl (hb hby ep7m6_d11) rfl (XS.bipush X.here hx rfl (hb hby ep7m6_d12) (XS.lshl X.here hx rfl (hb hby ep7m6_d14) rfl (XS.aloadN X.here hx rfl (hb hby ep7m6_d15) rfl rfl (XS.iload X.here hx rfl (hb hby ep7m6_d16) rfl k_))))))))) ?_
  obtain ⟨cl_, Ar_, -, Sz_, Nn_, Hs_, -⟩ := id V_a1
  have hin_ : ¬ ((3 : Int32) < 0 ∨ cl_.slots.size ≤ ((3 : Int32)).toNatClampNeg) := inb_of Sz_ ⟨by decide, by decide⟩
  have hat_ : cl_.slots[((3 : Int32)).toNatClampNeg]? = some (.long x3) := Hs_.at hin_ rfl
  refine own_via (g' := (mkF m 22 (own_A12 a1 916132832 m3 3 ((m3 <<< ((32 : Int32) &&& 0x3f).toInt64) ||| x3)) [])) (fun t_ k_ => X.laload hx (j := (3 : Int32)) (v := (.long x3)) (by rw [eT]; exact Ar_.1) (State.isArrayOf_alike hZ.alike Ar_.2.1) Ar_.2.2 hin_ hat_ (g := (mkF m 18 (own_A12 a1 916132832 m3 3 c2) [(.int 3), (.ref a1), (.long (m3 <<< ((32 : Int32) &&& 0x3f).toInt64))])) rfl rfl (hb hby ep7m6_d18) _ (XS.lor X.here hx rfl (hb hby ep7m6_d19) rfl (XS.lstore X.here hx rfl (hb hby ep7m6_d20) rfl (l' := (own_A12 a1 916132832 m3 3 ((m3 <<< ((32 : Int32) &&& 0x3f).toInt64) ||| x3))) rfl k_))) ?_
  obtain ⟨c3, hd_c3⟩ : ∃ z, z = ((m3 <<< ((32 : Int32) &&& 0x3f).toInt64) ||| x3) := ⟨_, rfl⟩
  rw [← hd_c3]
  refine own_via (g' := (mkF m 30 (own_A12 a1 916132832 m3 3 c3) [(.long (c3 / ((916132832 : Int32).toInt64))), (.int 3), (.ref a1)])) (fun t_ k_ => XS.aloadN X.here hx rfl (hb hby ep7m6_d22) rfl rfl (XS.iload X.here hx rfl (hb hby ep7m6_d23) rfl (XS.lload X.here hx rfl (hb hby ep7m6_d25) rfl (XS.iloadN X.here hx rfl (hb hby ep7m6_d27) rfl (XS.i2l X.here hx rfl (hb hby ep7m6_d28) rfl (XS.ldiv X.here hx rfl (hb hby ep7m6_d29) rfl (by decide) k_)))))) ?_
  obtain ⟨cl_, Ar_, qk_, Sz_, Nn_, Hs_, Gs_⟩ := id V_a1
  have hin_ : ¬ ((3 : Int32) < 0 ∨ cl_.slots.size ≤ ((3 : Int32)).toNatClampNeg) := inb_of Sz_ ⟨by decide, by decide⟩
  obtain ⟨T, h4, X, eT, W, st⟩ := stJ X hx hZ eT Ar_ (j := (3 : Int32)) hin_ (g := (mkF m 30 (own_A12 a1 916132832 m3 3 c3) [(.long (c3 / ((916132832 : Int32).toInt64))), (.int 3), (.ref a1)])) rfl rfl (hb hby ep7m6_d30)
  replace V_a1 : Arv Z h4 a1 ka .long (4 : Int32) [(.long (c0 / ((916132832 : Int32).toInt64))), (.long (c1 / ((916132832 : Int32).toInt64))), (.long (c2 / ((916132832 : Int32).toInt64))), (.long (c3 / ((916132832 : Int32).toInt64)))] (.long 0) := Arv.set Ar_ qk_ Sz_ Nn_ Hs_ Gs_ rfl W 3 (by decide) (Nat.le_of_ble_eq_true rfl)
  replace E_a1 := E_a1.wr W
  replace O := O.wr W g_a1
  replace K0 := K0.wr W (Or.inl (List.mem_of_getElem? (i := 0) rfl))
  replace N := Fr.snoc X N g_a1
  refine own_via (g' := (mkF m 31 (own_A12 a1 916132832 m3 3 c3) [])) st ?_
  refine own_via (g' := (mkF m 37 (own_A12 a1 916132832 (c3 - (c3 / ((916132832 : Int32).toInt64)) * ((916132832 : Int32).toInt64)) 3 c3) [])) (fun t_ k_ => XS.lload X.here hx rfl (hb hby ep7m6_d31) rfl (XS.iloadN X.here hx rfl (hb hby ep7m6_d33) rfl (XS.i2l X.here hx rfl (hb hby ep7m6_d34) rfl (XS.lrem X.here hx rfl (hb hby ep7m6_d35) rfl (by decide) (XS.lstoreN X.here hx rfl (hb hby ep7m6_d36) rfl (l' := (own_A12 a1 916132832 (c3 - (c3 / ((916132832 : Int32).toInt64)) * ((916132832 : Int32).toInt64)) 3 c3)) rfl k_))))) ?_
  obtain ⟨m4, hd_m4⟩ : ∃ z, z = (c3 - (c3 / ((916132832 : Int32).toInt64)) * ((916132832 : Int32).toInt64)) := ⟨_, rfl⟩
  rw [← hd_m4]
  refine own_via (g' := (mkF m 40 (own_A12 a1 916132832 m4 ((3 : Int32) + (1 : Int32)) c3) [])) (fun t_ k_ => XS.iinc X.here hx rfl (hb hby ep7m6_d37) rfl (l' := (own_A12 a1 916132832 m4 ((3 : Int32) + (1 : Int32)) c3)) rfl k_) ?_
  rw [(by decide : ((3 : Int32) + (1 : Int32)) = (4 : Int32))]
  refine own_via (g' := (mkF m 45 #[.val (.ref a1), .val (.int 916132832), .val (.long m4), .second, .val (.int 4), .val (.long c3), .second] [(.int (m4.toInt32))])) (fun t_ k_ => XS.goto X.here hx rfl (pc0 := 40) (pc' := 5) rfl (hb hby ep7m6_d40) (by decide) (by decide) (XS.iload X.here hx rfl (hb hby ep7m6_d5) rfl (XS.iconst X.here hx rfl (hb hby ep7m6_d7) (XS.icmpYes X.here hx rfl (pc0 := 8) (pc' := 43) rfl (hb hby ep7m6_d8) rfl (flt (by decide : ¬ ((4 : Int32) < (4 : Int32)))).2.1 (by decide) (by decide) (XS.lloadN X.here hx rfl (hb hby ep7m6_d43) rfl (XS.l2i X.here hx rfl (hb hby ep7m6_d44) rfl k_)))))) ?_
  refine own_retW X hx hlk Bd.returns rfl (Or.inl ⟨rfl, Or.inl rfl, _, rfl⟩) (hb hby ep7m6_d45) (by decide) (by decide) ?_
  rw [eT]
  obtain ⟨e1, e2⟩ := own_div4 hL hd_c0 hd_m1 hd_c1 hd_m2 hd_c2 hd_m3 hd_c3 hd_m4
  exact ⟨_, _, _, _, _, rfl, N, K0, V_a1, e1, e2⟩
theorem ep7m7_d0 : decode prog_7_method_7_code 0 = .ok (.iload_n 2, 1) := by decide +kernel
theorem ep7m7_d1 : decode prog_7_method_7_code 1 = .ok (.i2l, 1) := by decide +kernel
theorem ep7m7_d2 : decode prog_7_method_7_code 2 = .ok (.lstore_n 3, 1) := by decide +kernel
theorem ep7m7_d3 : decode prog_7_method_7_code 3 = .ok (.iconst 3, 1) := by decide +kernel
theorem ep7m7_d4 : decode prog_7_method_7_code 4 = .ok (.istore 5, 2) := by decide +kernel
theorem ep7m7_d6 : decode prog_7_method_7_code 6 = .ok (.iload 5, 2) := by decide +kernel
theorem ep7m7_d8 : decode prog_7_method_7_code 8 = .ok (.ifCond .lt 36, 3) := by decide +kernel
theorem ep7m7_d11 : decode prog_7_method_7_code 11 = .ok (.aload_n 0, 1) := by decide +kernel
theorem ep7m7_d12 : decode prog_7_method_7_code 12 = .ok (.iload 5, 2) := by decide +kernel
theorem ep7m7_d14 : decode prog_7_method_7_code 14 = .ok (.laload, 1) := by decide +kernel
theorem ep7m7_d15 : decode prog_7_method_7_code 15 = .ok (.iload_n 1, 1) := by decide +kernel
theorem ep7m7_d16 : decode prog_7_method_7_code 16 = .ok (.i2l, 1) := by decide +kernel
theorem ep7m7_d17 : decode prog_7_method_7_code 17 = .ok (.lmul, 1) := by decide +kernel
theorem ep7m7_d18 : decode prog_7_method_7_code 18 = .ok (.lload_n 3, 1) := by decide +kernel
theorem ep7m7_d19 : decode prog_7_method_7_code 19 = .ok (.ladd, 1) := by decide +kernel
theorem ep7m7_d20 : decode prog_7_method_7_code 20 = .ok (.lstore 6, 2) := by decide +kernel
theorem ep7m7_d22 : decode prog_7_method_7_code 22 = .ok (.aload_n 0, 1) := by decide +kernel
theorem ep7m7_d23 : decode prog_7_method_7_code 23 = .ok (.iload 5, 2) := by decide +kernel
theorem ep7m7_d25 : decode prog_7_method_7_code 25 = .ok (.lload 6, 2) := by decide +kernel
theorem ep7m7_d27 : decode prog_7_method_7_code 27 = .ok (.ldc2_w 100, 3) := by decide +kernel
theorem ep7m7_d30 : decode prog_7_method_7_code 30 = .ok (.land, 1) := by decide +kernel
theorem ep7m7_d31 : decode prog_7_method_7_code 31 = .ok (.lastore, 1) := by decide +kernel
theorem ep7m7_d32 : decode prog_7_method_7_code 32 = .ok (.lload 6, 2) := by decide +kernel
theorem ep7m7_d34 : decode prog_7_method_7_code 34 = .ok (.bipush 32, 2) := by decide +kernel
theorem ep7m7_d36 : decode prog_7_method_7_code 36 = .ok (.lushr, 1) := by decide +kernel
theorem ep7m7_d37 : decode prog_7_method_7_code 37 = .ok (.lstore_n 3, 1) := by decide +kernel
theorem ep7m7_d38 : decode prog_7_method_7_code 38 = .ok (.iinc 5 (-1), 3) := by decide +kernel
theorem ep7m7_d41 : decode prog_7_method_7_code 41 = .ok (.goto (-35), 3) := by decide +kernel
theorem ep7m7_d44 : decode prog_7_method_7_code 44 = .ok (.lload_n 3, 1) := by decide +kernel
theorem ep7m7_d45 : decode prog_7_method_7_code 45 = .ok (.lreturn, 1) := by decide +kernel
theorem own_mulAdd_pn : plainFor (⟨"com/example/nuthatch/nuthatch/EventId", "multiplyAdd", "([JII)J"⟩ : MethodName) = true := by first | exact plainFor_of_name (by first | (simp [plainName, overriddenIn]; done) | decide +kernel) | decide +kernel | exact Jvm.Free.JP.mathPlain rfl (by decide +kernel)
theorem own_mulAdd_ef (m : MethodId) (x0 : Addr) (x1 : Int32) (x2 : Int32) : entryFrame m #[(.ref x0), (.int x1), (.int x2)] 8 = mkF m 0 #[.val (.ref x0), .val (.int x1), .val (.int x2), .unset, .unset, .unset, .unset, .unset] [] := by first | (simp [entryFrame, mkF, argsToLocals, Value.category]; done) | rfl
def own_mulAdd_Q (Z : State) (a1 : Addr) (ka : ClassId) (x0 : Int64) (x1 : Int64) (x2 : Int64) (x3 : Int64) (d1 : Int32) (M : Int) (h0 : Heap) (n0 : Nat) (v : Option Value) (h : Heap) (L : List Loc) : Prop := ∃ y0 y1 y2 y3, v = some (.long 0) ∧ Fr n0 L ∧ Keep h0 h [a1] ∧ Arv Z h a1 ka .long (4 : Int32) [(.long y0), (.long y1), (.long y2), (.long y3)] (.long 0) ∧ own_L (M * 62 + d1.toInt) y0 y1 y2 y3
set_option maxRecDepth 65536 in
set_option maxHeartbeats 40000000 in
theorem own_mulAdd (l : Launch) (Z : State) (a0 : Array Value) (hw : ∀ d ∈ tables_1, d.before a0 Z = true) (ws : List Jvm.Cond) (a1 : Addr) (ka : ClassId) (x0 : Int64) (x1 : Int64) (x2 : Int64) (x3 : Int64) (d1 : Int32) (M : Int) (h0 : Heap) (n0 : Nat) (O : Old Z n0 h0) (E_a1 : Exa Z h0 a1 "[J") (V_a1 : Arv Z h0 a1 ka .long (4 : Int32) [(.long x0), (.long x1), (.long x2), (.long x3)] (.long 0)) (g_a1 : n0 ≤ a1) (hL : own_L M x0 x1 x2 x3) (hdd : 0 ≤ d1.toInt ∧ d1.toInt < 62) (hMd : M * 62 + d1.toInt < 340282366920938463463374607431768211456) :
    MetFree l (⟨"com/example/nuthatch/nuthatch/EventId", "multiplyAdd", "([JII)J"⟩ : MethodName) (head1 (Jvm.Cond.code (⟨"com/example/nuthatch/nuthatch/EventId", "multiplyAdd", "([JII)J"⟩ : MethodName) prog_7_method_7_code 8 (some .long) :: ws) ({ frames := 0, cells := 0, slots := 0, locals := 0 } : Room)) (fun a U => a = #[(.ref a1), (.int 62), (.int d1)] ∧ Z.Warmed39 U.vm ∧ U.heap = h0) (fun _ _ _ _ _ => True) (fun _ U o U' => ∃ v L, o = .returned v ∧ own_mulAdd_Q Z a1 ka x0 x1 x2 x3 d1 M h0 n0 v U'.heap L ∧ FrameEnd U o U' L ({ frames := 0, cells := 0, slots := 0, locals := 0 } : Room).cells ({ frames := 0, cells := 0, slots := 0, locals := 0 } : Room).slots) := by
  refine MetFree.of_bodySF own_mulAdd_pn hisR ?_
  intro p e s m args below meth c s₁ Bd hml0 hP hK
  obtain ⟨rfl, hZ, hh⟩ := hP
  have hx := Bd.exec
  have hby := Bd.bytes
  have hlk := Bd.notSynchronized
  have hml : c.maxLocals = 8 := hml0
  have hown : s.vm.findClass "com/example/nuthatch/nuthatch/EventId" = some m.cls := findClass_of_methodNamed Bd.named
  have hnm := (name_of_methodNamed Bd.named Bd.method).1
  have X : Stand p l e ({ frames := 0, cells := 0, slots := 0, locals := 0 } : Room) s m #[(.ref a1), (.int 62), (.int d1)] below meth c s₁ [] 0 0 := Stand.of_body Bd
  have eT : s₁.heap = h0 := by rw [← hh, Bd.state]; rfl
  have N := Fr.nil n0
  have K0 := Keep.refl h0 [a1]
  show own_Ends p e below (own_Post s below (own_mulAdd_Q Z a1 ka x0 x1 x2 x3 d1 M h0 n0) ({ frames := 0, cells := 0, slots := 0, locals := 0 } : Room).cells ({ frames := 0, cells := 0, slots := 0, locals := 0 } : Room).slots) s₁ (entryFrame m #[(.ref a1), (.int 62), (.int d1)] 8)
  rw [own_mulAdd_ef m a1 (62 : Int32) d1]
  obtain ⟨T, hT⟩ : ∃ z, z = s₁ := ⟨_, rfl⟩
  rw [← hT] at X eT ⊢
  obtain ⟨h, hh0⟩ : ∃ z, z = h0 := ⟨_, rfl⟩
  rw [← hh0] at eT
  replace O : Old Z n0 h := by rw [hh0]; exact O
  replace K0 : Keep h0 h [a1] := by rw [hh0]; exact K0
  rw [← hh0] at E_a1
  rw [← hh0] at V_a1
  refine own_via (g' := (mkF m 14 (own_A19 a1 62 d1 (d1.toInt64) 3) [(.int 3), (.ref a1)])) (fun t_ k_ => XS.iloadN X.here hx rfl (hb hby ep7m7_d0) rfl (XS.i2l X.here hx rfl (hb hby ep7m7_d1) rfl (XS.lstoreN X.here hx rfl (hb hby ep7m7_d2) rfl (l' := #[.val (.ref a1), .val (.int 62), .val (.int d1), .val (.long (d1.toInt64)), .second, .unset, .unset, .unset]) rfl (XS.iconst X.here hx rfl (hb hby ep7m7_d3) (XS.istore X.here hx rfl (hb hby ep7m7_d4) rfl (l' := (own_A19 a1 62 d1 (d1.toInt64) 3)) rfl (XS.iload X.here hx rfl (hb hby ep7m7_d6) rfl (XS.ifNo X.here hx rfl (hb hby ep7m7_d8) rfl ((if0 _ _).trans (flt (by decide : ¬ ((3 : Int32) < (0 : Int32)))).1) (XS.aloadN X.here hx rfl (hb hby ep7m7_d11) rfl rfl (XS.iload X.here hx rfl (hb hby ep7m7_d12) rfl k_))))))))) ?_
  obtain ⟨cl_, Ar_, -, Sz_, Nn_, Hs_, -⟩ := id V_a1
  have hin_ : ¬ ((3 : Int32) < 0 ∨ cl_.slots.size ≤ ((3 : Int32)).toNatClampNeg) := inb_of Sz_ ⟨by decide, by decide⟩
  have hat_ : cl_.slots[((3 : Int32)).toNatClampNeg]? = some (.long x3) := Hs_.at hin_ rfl
  refine own_via (g' := (mkF m 22 (own_A10 a1 62 d1 (d1.toInt64) 3 ((x3 * ((62 : Int32).toInt64)) + (d1.toInt64))) [])) (fun t_ k_ => X.laload hx (j := (3 : Int32)) (v := (.long x3)) (by rw [eT]; exact Ar_.1) (State.isArrayOf_alike hZ.alike Ar_.2.1) Ar_.2.2 hin_ hat_ (g := (mkF m 14 (own_A19 a1 62 d1 (d1.toInt64) 3) [(.int 3), (.ref a1)])) rfl rfl (hb hby ep7m7_d14) _ (XS.iloadN X.here hx rfl (hb hby ep7m7_d15) rfl (XS.i2l X.here hx rfl (hb hby ep7m7_d16) rfl (XS.lmul X.here hx rfl (hb hby ep7m7_d17) rfl (XS.lloadN X.here hx rfl (hb hby ep7m7_d18) rfl (XS.ladd X.here hx rfl (hb hby ep7m7_d19) rfl (XS.lstore X.here hx rfl (hb hby ep7m7_d20) rfl (l' := (own_A10 a1 62 d1 (d1.toInt64) 3 ((x3 * ((62 : Int32).toInt64)) + (d1.toInt64)))) rfl k_))))))) ?_
  obtain ⟨p3, hd_p3⟩ : ∃ z, z = ((x3 * ((62 : Int32).toInt64)) + (d1.toInt64)) := ⟨_, rfl⟩
  rw [← hd_p3]
  refine own_via (g' := (mkF m 31 (own_A10 a1 62 d1 (d1.toInt64) 3 p3) [(.long (p3 &&& (4294967295 : Int64))), (.int 3), (.ref a1)])) (fun t_ k_ => XS.aloadN X.here hx rfl (hb hby ep7m7_d22) rfl rfl (XS.iload X.here hx rfl (hb hby ep7m7_d23) rfl (XS.lload X.here hx rfl (hb hby ep7m7_d25) rfl (X.ldc2Long hx hown (mvT hZ (hw _ (own_w 32 rfl))) (g := (mkF m 27 (own_A10 a1 62 d1 (d1.toInt64) 3 p3) [(.long p3), (.int 3), (.ref a1)])) rfl (hb hby ep7m7_d27) _ (XS.land X.here hx rfl (hb hby ep7m7_d30) rfl k_))))) ?_
  obtain ⟨cl_, Ar_, qk_, Sz_, Nn_, Hs_, Gs_⟩ := id V_a1
  have hin_ : ¬ ((3 : Int32) < 0 ∨ cl_.slots.size ≤ ((3 : Int32)).toNatClampNeg) := inb_of Sz_ ⟨by decide, by decide⟩
  obtain ⟨T, h1, X, eT, W, st⟩ := stJ X hx hZ eT Ar_ (j := (3 : Int32)) hin_ (g := (mkF m 31 (own_A10 a1 62 d1 (d1.toInt64) 3 p3) [(.long (p3 &&& (4294967295 : Int64))), (.int 3), (.ref a1)])) rfl rfl (hb hby ep7m7_d31)
  replace V_a1 : Arv Z h1 a1 ka .long (4 : Int32) [(.long x0), (.long x1), (.long x2), (.long (p3 &&& (4294967295 : Int64)))] (.long 0) := Arv.set Ar_ qk_ Sz_ Nn_ Hs_ Gs_ rfl W 3 (by decide) (Nat.le_of_ble_eq_true rfl)
  replace E_a1 := E_a1.wr W
  replace O := O.wr W g_a1
  replace K0 := K0.wr W (Or.inl (List.mem_of_getElem? (i := 0) rfl))
  replace N := Fr.snoc X N g_a1
  refine own_via (g' := (mkF m 32 (own_A10 a1 62 d1 (d1.toInt64) 3 p3) [])) st ?_
  refine own_via (g' := (mkF m 38 (own_A10 a1 62 d1 ((p3.toUInt64 >>> ((32 : Int32) &&& 0x3f).toInt64.toUInt64).toInt64) 3 p3) [])) (fun t_ k_ => XS.lload X.here hx rfl (hb hby ep7m7_d32) rfl (XS.bipush X.here hx rfl (hb hby ep7m7_d34) (XS.lushr X.here hx rfl (hb hby ep7m7_d36) rfl (XS.lstoreN X.here hx rfl (hb hby ep7m7_d37) rfl (l' := (own_A10 a1 62 d1 ((p3.toUInt64 >>> ((32 : Int32) &&& 0x3f).toInt64.toUInt64).toInt64) 3 p3)) rfl k_)))) ?_
  obtain ⟨y3, hd_y3⟩ : ∃ z, z = ((p3.toUInt64 >>> ((32 : Int32) &&& 0x3f).toInt64.toUInt64).toInt64) := ⟨_, rfl⟩
  rw [← hd_y3]
  refine own_via (g' := (mkF m 41 (own_A10 a1 62 d1 y3 ((3 : Int32) + (-1 : Int32)) p3) [])) (fun t_ k_ => XS.iinc X.here hx rfl (hb hby ep7m7_d38) rfl (l' := (own_A10 a1 62 d1 y3 ((3 : Int32) + (-1 : Int32)) p3)) rfl k_) ?_
  rw [(by decide : ((3 : Int32) + (-1 : Int32)) = (2 : Int32))]
  refine own_via (g' := (mkF m 14 (own_A10 a1 62 d1 y3 2 p3) [(.int 2), (.ref a1)])) (fun t_ k_ => XS.goto X.here hx rfl (pc0 := 41) (pc' := 6) rfl (hb hby ep7m7_d41) (by decide) (by decide) (XS.iload X.here hx rfl (hb hby ep7m7_d6) rfl (XS.ifNo X.here hx rfl (hb hby ep7m7_d8) rfl ((if0 _ _).trans (flt (by decide : ¬ ((2 : Int32) < (0 : Int32)))).1) (XS.aloadN X.here hx rfl (hb hby ep7m7_d11) rfl rfl (XS.iload X.here hx rfl (hb hby ep7m7_d12) rfl k_))))) ?_
  obtain ⟨cl_, Ar_, -, Sz_, Nn_, Hs_, -⟩ := id V_a1
  have hin_ : ¬ ((2 : Int32) < 0 ∨ cl_.slots.size ≤ ((2 : Int32)).toNatClampNeg) := inb_of Sz_ ⟨by decide, by decide⟩
  have hat_ : cl_.slots[((2 : Int32)).toNatClampNeg]? = some (.long x2) := Hs_.at hin_ rfl
  refine own_via (g' := (mkF m 22 (own_A10 a1 62 d1 y3 2 ((x2 * ((62 : Int32).toInt64)) + y3)) [])) (fun t_ k_ => X.laload hx (j := (2 : Int32)) (v := (.long x2)) (by rw [eT]; exact Ar_.1) (State.isArrayOf_alike hZ.alike Ar_.2.1) Ar_.2.2 hin_ hat_ (g := (mkF m 14 (own_A10 a1 62 d1 y3 2 p3) [(.int 2), (.ref a1)])) rfl rfl (hb hby ep7m7_d14) _ (XS.iloadN X.here hx rfl (hb hby ep7m7_d15) rfl (XS.i2l X.here hx rfl (hb hby ep7m7_d16) rfl (XS.lmul X.here hx rfl (hb hby ep7m7_d17) rfl (XS.lloadN X.here hx rfl (hb hby ep7m7_d18) rfl (XS.ladd X.here hx rfl (hb hby ep7m7_d19) rfl (XS.lstore X.here hx rfl (hb hby ep7m7_d20) rfl (l' := (own_A10 a1 62 d1 y3 2 ((x2 * ((62 : Int32).toInt64)) + y3))) rfl k_))))))) ?_
  obtain ⟨p2, hd_p2⟩ : ∃ z, z = ((x2 * ((62 : Int32).toInt64)) + y3) := ⟨_, rfl⟩
  rw [← hd_p2]
  refine own_via (g' := (mkF m 31 (own_A10 a1 62 d1 y3 2 p2) [(.long (p2 &&& (4294967295 : Int64))), (.int 2), (.ref a1)])) (fun t_ k_ => XS.aloadN X.here hx rfl (hb hby ep7m7_d22) rfl rfl (XS.iload X.here hx rfl (hb hby ep7m7_d23) rfl (XS.lload X.here hx rfl (hb hby ep7m7_d25) rfl (X.ldc2Long hx hown (mvT hZ (hw _ (own_w 32 rfl))) (g := (mkF m 27 (own_A10 a1 62 d1 y3 2 p2) [(.long p2), (.int 2), (.ref a1)])) rfl (hb hby ep7m7_d27) _ (XS.land X.here hx rfl (hb hby ep7m7_d30) rfl k_))))) ?_
  obtain ⟨cl_, Ar_, qk_, Sz_, Nn_, Hs_, Gs_⟩ := id V_a1
  have hin_ : ¬ ((2 : Int32) < 0 ∨ cl_.slots.size ≤ ((2 : Int32)).toNatClampNeg) := inb_of Sz_ ⟨by decide, by decide⟩
  obtain ⟨T, h2, X, eT, W, st⟩ := stJ X hx hZ eT Ar_ (j := (2 : Int32)) hin_ (g := (mkF m 31 (own_A10 a1 62 d1 y3 2 p2) [(.long (p2 &&& (4294967295 : Int64))), (.int 2), (.ref a1)])) rfl rfl (hb hby ep7m7_d31)
  replace V_a1 : Arv Z h2 a1 ka .long (4 : Int32) [(.long x0), (.long x1), (.long (p2 &&& (4294967295 : Int64))), (.long (p3 &&& (4294967295 : Int64)))] (.long 0) := Arv.set Ar_ qk_ Sz_ Nn_ Hs_ Gs_ rfl W 2 (by decide) (Nat.le_of_ble_eq_true rfl)
  replace E_a1 := E_a1.wr W
  replace O := O.wr W g_a1
  replace K0 := K0.wr W (Or.inl (List.mem_of_getElem? (i := 0) rfl))
  replace N := Fr.snoc X N g_a1
  refine own_via (g' := (mkF m 32 (own_A10 a1 62 d1 y3 2 p2) [])) st ?_
  refine own_via (g' := (mkF m 38 (own_A10 a1 62 d1 ((p2.toUInt64 >>> ((32 : Int32) &&& 0x3f).toInt64.toUInt64).toInt64) 2 p2) [])) (fun t_ k_ => XS.lload X.here hx rfl (hb hby ep7m7_d32) rfl (XS.bipush X.here hx rfl (hb hby ep7m7_d34) (XS.lushr X.here hx rfl (hb hby ep7m7_d36) rfl (XS.lstoreN X.here hx rfl (hb hby ep7m7_d37) rfl (l' := (own_A10 a1 62 d1 ((p2.toUInt64 >>> ((32 : Int32) &&& 0x3f).toInt64.toUInt64).toInt64) 2 p2)) rfl k_)))) ?_
  obtain ⟨y2, hd_y2⟩ : ∃ z, z = ((p2.toUInt64 >>> ((32 : Int32) &&& 0x3f).toInt64.toUInt64).toInt64) := ⟨_, rfl⟩
  rw [← hd_y2]
  refine own_via (g' := (mkF m 41 (own_A10 a1 62 d1 y2 ((2 : Int32) + (-1 : Int32)) p2) [])) (fun t_ k_ => XS.iinc X.here hx rfl (hb hby ep7m7_d38) rfl (l' := (own_A10 a1 62 d1 y2 ((2 : Int32) + (-1 : Int32)) p2)) rfl k_) ?_
  rw [(by decide : ((2 : Int32) + (-1 : Int32)) = (1 : Int32))]
  refine own_via (g' := (mkF m 14 (own_A10 a1 62 d1 y2 1 p2) [(.int 1), (.ref a1)])) (fun t_ k_ => XS.goto X.here hx rfl (pc0 := 41) (pc' := 6) rfl (hb hby ep7m7_d41) (by decide) (by decide) (XS.iload X.here hx rfl (hb hby ep7m7_d6) rfl (XS.ifNo X.here hx rfl (hb hby ep7m7_d8) rfl ((if0 _ _).trans (flt (by decide : ¬ ((1 : Int32) < (0 : Int32)))).1) (XS.aloadN X.here hx rfl (hb hby ep7m7_d11) rfl rfl (XS.iload X.here hx rfl (hb hby ep7m7_d12) rfl k_))))) ?_
  obtain ⟨cl_, Ar_, -, Sz_, Nn_, Hs_, -⟩ := id V_a1
  have hin_ : ¬ ((1 : Int32) < 0 ∨ cl_.slots.size ≤ ((1 : Int32)).toNatClampNeg) := inb_of Sz_ ⟨by decide, by decide⟩
  have hat_ : cl_.slots[((1 : Int32)).toNatClampNeg]? = some (.long x1) := Hs_.at hin_ rfl
  refine own_via (g' := (mkF m 22 (own_A10 a1 62 d1 y2 1 ((x1 * ((62 : Int32).toInt64)) + y2)) [])) (fun t_ k_ => X.laload hx (j := (1 : Int32)) (v := (.long x1)) (by rw [eT]; exact Ar_.1) (State.isArrayOf_alike hZ.alike Ar_.2.1) Ar_.2.2 hin_ hat_ (g := (mkF m 14 (own_A10 a1 62 d1 y2 1 p2) [(.int 1), (.ref a1)])) rfl rfl (hb hby ep7m7_d14) _ (XS.iloadN X.here hx rfl (hb hby ep7m7_d15) rfl (XS.i2l X.here hx rfl (hb hby ep7m7_d16) rfl (XS.lmul X.here hx rfl (hb hby ep7m7_d17) rfl (XS.lloadN X.here hx rfl (hb hby ep7m7_d18) rfl (XS.ladd X.here hx rfl (hb hby ep7m7_d19) rfl (XS.lstore X.here hx rfl (hb hby ep7m7_d20) rfl (l' := (own_A10 a1 62 d1 y2 1 ((x1 * ((62 : Int32).toInt64)) + y2))) rfl k_))))))) ?_
  obtain ⟨p1, hd_p1⟩ : ∃ z, z = ((x1 * ((62 : Int32).toInt64)) + y2) := ⟨_, rfl⟩
  rw [← hd_p1]
  refine own_via (g' := (mkF m 31 (own_A10 a1 62 d1 y2 1 p1) [(.long (p1 &&& (4294967295 : Int64))), (.int 1), (.ref a1)])) (fun t_ k_ => XS.aloadN X.here hx rfl (hb hby ep7m7_d22) rfl rfl (XS.iload X.here hx rfl (hb hby ep7m7_d23) rfl (XS.lload X.here hx rfl (hb hby ep7m7_d25) rfl (X.ldc2Long hx hown (mvT hZ (hw _ (own_w 32 rfl))) (g := (mkF m 27 (own_A10 a1 62 d1 y2 1 p1) [(.long p1), (.int 1), (.ref a1)])) rfl (hb hby ep7m7_d27) _ (XS.land X.here hx rfl (hb hby ep7m7_d30) rfl k_))))) ?_
  obtain ⟨cl_, Ar_, qk_, Sz_, Nn_, Hs_, Gs_⟩ := id V_a1
  have hin_ : ¬ ((1 : Int32) < 0 ∨ cl_.slots.size ≤ ((1 : Int32)).toNatClampNeg) := inb_of Sz_ ⟨by decide, by decide⟩
  obtain ⟨T, h3, X, eT, W, st⟩ := stJ X hx hZ eT Ar_ (j := (1 : Int32)) hin_ (g := (mkF m 31 (own_A10 a1 62 d1 y2 1 p1) [(.long (p1 &&& (4294967295 : Int64))), (.int 1), (.ref a1)])) rfl rfl (hb hby ep7m7_d31)
  replace V_a1 : Arv Z h3 a1 ka .long (4 : Int32) [(.long x0), (.long (p1 &&& (4294967295 : Int64))), (.long (p2 &&& (4294967295 : Int64))), (.long (p3 &&& (4294967295 : Int64)))] (.long 0) := Arv.set Ar_ qk_ Sz_ Nn_ Hs_ Gs_ rfl W 1 (by decide) (Nat.le_of_ble_eq_true rfl)
  replace E_a1 := E_a1.wr W
  replace O := O.wr W g_a1
  replace K0 := K0.wr W (Or.inl (List.mem_of_getElem? (i := 0) rfl))
  replace N := Fr.snoc X N g_a1
  refine own_via (g' := (mkF m 32 (own_A10 a1 62 d1 y2 1 p1) [])) st ?_
  refine own_via (g' := (mkF m 38 (own_A10 a1 62 d1 ((p1.toUInt64 >>> ((32 : Int32) &&& 0x3f).toInt64.toUInt64).toInt64) 1 p1) [])) (fun t_ k_ => XS.lload X.here hx rfl (hb hby ep7m7_d32) rfl (XS.bipush X.here hx rfl (hb hby ep7m7_d34) (XS.lushr X.here hx rfl (hb hby ep7m7_d36) rfl (XS.lstoreN X.here hx rfl (hb hby ep7m7_d37) rfl (l' := (own_A10 a1 62 d1 ((p1.toUInt64 >>> ((32 : Int32) &&& 0x3f).toInt64.toUInt64).toInt64) 1 p1)) rfl k_)))) ?_
  obtain ⟨y1, hd_y1⟩ : ∃ z, z = ((p1.toUInt64 >>> ((32 : Int32) &&& 0x3f).toInt64.toUInt64).toInt64) := ⟨_, rfl⟩
  rw [← hd_y1]
  refine own_via (g' := (mkF m 41 (own_A10 a1 62 d1 y1 ((1 : Int32) + (-1 : Int32)) p1) [])) (fun t_ k_ => XS.iinc X.here hx rfl (hb hby ep7m7_d38) rfl (l' := (own_A10 a1 62 d1 y1 ((1 : Int32) + (-1 : Int32)) p1)) rfl k_) ?_
  rw [(by decide : ((1 : Int32) + (-1 : Int32)) = (0 : Int32))]
  refine own_via (g' := (mkF m 14 (own_A10 a1 62 d1 y1 0 p1) [(.int 0), (.ref a1)])) (fun t_ k_ => XS.goto X.here hx rfl (pc0 := 41) (pc' := 6) rfl (hb hby ep7m7_d41) (by decide) (by decide) (XS.iload X.here hx rfl (hb hby ep7m7_d6) rfl (XS.ifNo X.here hx rfl (hb hby ep7m7_d8) rfl ((if0 _ _).trans (flt (by decide : ¬ ((0 : Int32) < (0 : Int32)))).1) (XS.aloadN X.here hx rfl (hb hby ep7m7_d11) rfl rfl (XS.iload X.here hx rfl (hb hby ep7m7_d12) rfl k_))))) ?_
  obtain ⟨cl_, Ar_, -, Sz_, Nn_, Hs_, -⟩ := id V_a1
  have hin_ : ¬ ((0 : Int32) < 0 ∨ cl_.slots.size ≤ ((0 : Int32)).toNatClampNeg) := inb_of Sz_ ⟨by decide, by decide⟩
  have hat_ : cl_.slots[((0 : Int32)).toNatClampNeg]? = some (.long x0) := Hs_.at hin_ rfl
  refine own_via (g' := (mkF m 22 (own_A10 a1 62 d1 y1 0 ((x0 * ((62 : Int32).toInt64)) + y1)) [])) (fun t_ k_ => X.laload hx (j := (0 : Int32)) (v := (.long x0)) (by rw [eT]; exact Ar_.1) (State.isArrayOf_alike hZ.alike Ar_.2.1) Ar_.2.2 hin_ hat_ (g := (mkF m 14 (own_A10 a1 62 d1 y1 0 p1) [(.int 0), (.ref a1)])) rfl rfl (hb hby ep7m7_d14) _ (XS.iloadN X.here hx rfl (hb hby ep7m7_d15) rfl (XS.i2l X.here hx rfl (hb hby ep7m7_d16) rfl (XS.lmul X.here hx rfl (hb hby ep7m7_d17) rfl (XS.lloadN X.here hx rfl (hb hby ep7m7_d18) rfl (XS.ladd X.here hx rfl (hb hby ep7m7_d19) rfl (XS.lstore X.here hx rfl (hb hby ep7m7_d20) rfl (l' := (own_A10 a1 62 d1 y1 0 ((x0 * ((62 : Int32).toInt64)) + y1))) rfl k_))))))) ?_
  obtain ⟨p0, hd_p0⟩ : ∃ z, z = ((x0 * ((62 : Int32).toInt64)) + y1) := ⟨_, rfl⟩
  rw [← hd_p0]
  refine own_via (g' := (mkF m 31 (own_A10 a1 62 d1 y1 0 p0) [(.long (p0 &&& (4294967295 : Int64))), (.int 0), (.ref a1)])) (fun t_ k_ => XS.aloadN X.here hx rfl (hb hby ep7m7_d22) rfl rfl (XS.iload X.here hx rfl (hb hby ep7m7_d23) rfl (XS.lload X.here hx rfl (hb hby ep7m7_d25) rfl (X.ldc2Long hx hown (mvT hZ (hw _ (own_w 32 rfl))) (g := (mkF m 27 (own_A10 a1 62 d1 y1 0 p0) [(.long p0), (.int 0), (.ref a1)])) rfl (hb hby ep7m7_d27) _ (XS.land X.here hx rfl (hb hby ep7m7_d30) rfl k_))))) ?_
  obtain ⟨cl_, Ar_, qk_, Sz_, Nn_, Hs_, Gs_⟩ := id V_a1
  have hin_ : ¬ ((0 : Int32) < 0 ∨ cl_.slots.size ≤ ((0 : Int32)).toNatClampNeg) := inb_of Sz_ ⟨by decide, by decide⟩
  obtain ⟨T, h4, X, eT, W, st⟩ := stJ X hx hZ eT Ar_ (j := (0 : Int32)) hin_ (g := (mkF m 31 (own_A10 a1 62 d1 y1 0 p0) [(.long (p0 &&& (4294967295 : Int64))), (.int 0), (.ref a1)])) rfl rfl (hb hby ep7m7_d31)
  replace V_a1 : Arv Z h4 a1 ka .long (4 : Int32) [(.long (p0 &&& (4294967295 : Int64))), (.long (p1 &&& (4294967295 : Int64))), (.long (p2 &&& (4294967295 : Int64))), (.long (p3 &&& (4294967295 : Int64)))] (.long 0) := Arv.set Ar_ qk_ Sz_ Nn_ Hs_ Gs_ rfl W 0 (by decide) (Nat.le_of_ble_eq_true rfl)
  replace E_a1 := E_a1.wr W
  replace O := O.wr W g_a1
  replace K0 := K0.wr W (Or.inl (List.mem_of_getElem? (i := 0) rfl))
  replace N := Fr.snoc X N g_a1
  refine own_via (g' := (mkF m 32 (own_A10 a1 62 d1 y1 0 p0) [])) st ?_
  refine own_via (g' := (mkF m 38 (own_A10 a1 62 d1 ((p0.toUInt64 >>> ((32 : Int32) &&& 0x3f).toInt64.toUInt64).toInt64) 0 p0) [])) (fun t_ k_ => XS.lload X.here hx rfl (hb hby ep7m7_d32) rfl (XS.bipush X.here hx rfl (hb hby ep7m7_d34) (XS.lushr X.here hx rfl (hb hby ep7m7_d36) rfl (XS.lstoreN X.here hx rfl (hb hby ep7m7_d37) rfl (l' := (own_A10 a1 62 d1 ((p0.toUInt64 >>> ((32 : Int32) &&& 0x3f).toInt64.toUInt64).toInt64) 0 p0)) rfl k_)))) ?_
  obtain ⟨y0, hd_y0⟩ : ∃ z, z = ((p0.toUInt64 >>> ((32 : Int32) &&& 0x3f).toInt64.toUInt64).toInt64) := ⟨_, rfl⟩
  rw [← hd_y0]
  refine own_via (g' := (mkF m 41 (own_A10 a1 62 d1 y0 ((0 : Int32) + (-1 : Int32)) p0) [])) (fun t_ k_ => XS.iinc X.here hx rfl (hb hby ep7m7_d38) rfl (l' := (own_A10 a1 62 d1 y0 ((0 : Int32) + (-1 : Int32)) p0)) rfl k_) ?_
  rw [(by decide : ((0 : Int32) + (-1 : Int32)) = (-1 : Int32))]
  refine own_via (g' := (mkF m 45 #[.val (.ref a1), .val (.int 62), .val (.int d1), .val (.long y0), .second, .val (.int (-1 : Int32)), .val (.long p0), .second] [(.long y0)])) (fun t_ k_ => XS.goto X.here hx rfl (pc0 := 41) (pc' := 6) rfl (hb hby ep7m7_d41) (by decide) (by decide) (XS.iload X.here hx rfl (hb hby ep7m7_d6) rfl (XS.ifYes X.here hx rfl (pc0 := 8) (pc' := 44) rfl (hb hby ep7m7_d8) rfl ((if0 _ _).trans (tlt (by decide : (-1 : Int32) < (0 : Int32))).1) (by decide) (by decide) (XS.lloadN X.here hx rfl (hb hby ep7m7_d44) rfl k_)))) ?_
  refine own_retW X hx hlk Bd.returns rfl (Or.inr (Or.inl ⟨rfl, rfl, _, rfl⟩)) (hb hby ep7m7_d45) (by decide) (by decide) ?_
  rw [eT]
  obtain ⟨e1, e2⟩ := own_mul4 hL hdd hMd hd_p3 hd_y3 hd_p2 hd_y2 hd_p1 hd_y1 hd_p0 hd_y0
  exact ⟨_, _, _, _, by rw [e2], N, K0, V_a1, e1⟩
theorem ep7m5_d0 : decode prog_7_method_5_code 0 = .ok (.aload_n 0, 1) := by decide +kernel
theorem ep7m5_d1 : decode prog_7_method_5_code 1 = .ok (.getfield 29, 3) := by decide +kernel
theorem ep7m5_d4 : decode prog_7_method_5_code 4 = .ok (.bipush 16, 2) := by decide +kernel
theorem ep7m5_d6 : decode prog_7_method_5_code 6 = .ok (.lshl, 1) := by decide +kernel
theorem ep7m5_d7 : decode prog_7_method_5_code 7 = .ok (.aload_n 0, 1) := by decide +kernel
theorem ep7m5_d8 : decode prog_7_method_5_code 8 = .ok (.getfield 32, 3) := by decide +kernel
theorem ep7m5_d11 : decode prog_7_method_5_code 11 = .ok (.i2l, 1) := by decide +kernel
theorem ep7m5_d12 : decode prog_7_method_5_code 12 = .ok (.lor, 1) := by decide +kernel
theorem ep7m5_d13 : decode prog_7_method_5_code 13 = .ok (.lstore_n 3, 1) := by decide +kernel
theorem ep7m5_d14 : decode prog_7_method_5_code 14 = .ok (.iconst 4, 1) := by decide +kernel
theorem ep7m5_d15 : decode prog_7_method_5_code 15 = .ok (.newarray .long, 2) := by decide +kernel
theorem ep7m5_d17 : decode prog_7_method_5_code 17 = .ok (.dup, 1) := by decide +kernel
theorem ep7m5_d18 : decode prog_7_method_5_code 18 = .ok (.iconst 0, 1) := by decide +kernel
theorem ep7m5_d19 : decode prog_7_method_5_code 19 = .ok (.aload_n 0, 1) := by decide +kernel
theorem ep7m5_d20 : decode prog_7_method_5_code 20 = .ok (.getfield 25, 3) := by decide +kernel
theorem ep7m5_d23 : decode prog_7_method_5_code 23 = .ok (.bipush 32, 2) := by decide +kernel
theorem ep7m5_d25 : decode prog_7_method_5_code 25 = .ok (.lushr, 1) := by decide +kernel
theorem ep7m5_d26 : decode prog_7_method_5_code 26 = .ok (.lastore, 1) := by decide +kernel
theorem ep7m5_d27 : decode prog_7_method_5_code 27 = .ok (.dup, 1) := by decide +kernel
theorem ep7m5_d28 : decode prog_7_method_5_code 28 = .ok (.iconst 1, 1) := by decide +kernel
theorem ep7m5_d29 : decode prog_7_method_5_code 29 = .ok (.aload_n 0, 1) := by decide +kernel
theorem ep7m5_d30 : decode prog_7_method_5_code 30 = .ok (.getfield 25, 3) := by decide +kernel
theorem ep7m5_d33 : decode prog_7_method_5_code 33 = .ok (.ldc2_w 100, 3) := by decide +kernel
theorem ep7m5_d36 : decode prog_7_method_5_code 36 = .ok (.land, 1) := by decide +kernel
theorem ep7m5_d37 : decode prog_7_method_5_code 37 = .ok (.lastore, 1) := by decide +kernel
theorem ep7m5_d38 : decode prog_7_method_5_code 38 = .ok (.dup, 1) := by decide +kernel
theorem ep7m5_d39 : decode prog_7_method_5_code 39 = .ok (.iconst 2, 1) := by decide +kernel
theorem ep7m5_d40 : decode prog_7_method_5_code 40 = .ok (.lload_n 3, 1) := by decide +kernel
theorem ep7m5_d41 : decode prog_7_method_5_code 41 = .ok (.bipush 32, 2) := by decide +kernel
theorem ep7m5_d43 : decode prog_7_method_5_code 43 = .ok (.lushr, 1) := by decide +kernel
theorem ep7m5_d44 : decode prog_7_method_5_code 44 = .ok (.lastore, 1) := by decide +kernel
theorem ep7m5_d45 : decode prog_7_method_5_code 45 = .ok (.dup, 1) := by decide +kernel
theorem ep7m5_d46 : decode prog_7_method_5_code 46 = .ok (.iconst 3, 1) := by decide +kernel
theorem ep7m5_d47 : decode prog_7_method_5_code 47 = .ok (.lload_n 3, 1) := by decide +kernel
theorem ep7m5_d48 : decode prog_7_method_5_code 48 = .ok (.ldc2_w 100, 3) := by decide +kernel
theorem ep7m5_d51 : decode prog_7_method_5_code 51 = .ok (.land, 1) := by decide +kernel
theorem ep7m5_d52 : decode prog_7_method_5_code 52 = .ok (.lastore, 1) := by decide +kernel
theorem ep7m5_d53 : decode prog_7_method_5_code 53 = .ok (.astore 5, 2) := by decide +kernel
theorem ep7m5_d55 : decode prog_7_method_5_code 55 = .ok (.iload_n 2, 1) := by decide +kernel
theorem ep7m5_d56 : decode prog_7_method_5_code 56 = .ok (.bipush 22, 2) := by decide +kernel
theorem ep7m5_d58 : decode prog_7_method_5_code 58 = .ok (.iadd, 1) := by decide +kernel
theorem ep7m5_d59 : decode prog_7_method_5_code 59 = .ok (.istore 6, 2) := by decide +kernel
theorem ep7m5_d61 : decode prog_7_method_5_code 61 = .ok (.iconst 0, 1) := by decide +kernel
theorem ep7m5_d62 : decode prog_7_method_5_code 62 = .ok (.istore 7, 2) := by decide +kernel
theorem ep7m5_d64 : decode prog_7_method_5_code 64 = .ok (.iload 7, 2) := by decide +kernel
theorem ep7m5_d66 : decode prog_7_method_5_code 66 = .ok (.iconst 4, 1) := by decide +kernel
theorem ep7m5_d67 : decode prog_7_method_5_code 67 = .ok (.if_icmp .ge 60, 3) := by decide +kernel
theorem ep7m5_d70 : decode prog_7_method_5_code 70 = .ok (.aload 5, 2) := by decide +kernel
theorem ep7m5_d72 : decode prog_7_method_5_code 72 = .ok (.ldc 102, 2) := by decide +kernel
theorem ep7m5_d74 : decode prog_7_method_5_code 74 = .ok (.invokestatic 103, 3) := by decide +kernel
theorem ep7m5_d77 : decode prog_7_method_5_code 77 = .ok (.istore 8, 2) := by decide +kernel
theorem ep7m5_d79 : decode prog_7_method_5_code 79 = .ok (.iconst 0, 1) := by decide +kernel
theorem ep7m5_d80 : decode prog_7_method_5_code 80 = .ok (.istore 9, 2) := by decide +kernel
theorem ep7m5_d82 : decode prog_7_method_5_code 82 = .ok (.iload 9, 2) := by decide +kernel
theorem ep7m5_d84 : decode prog_7_method_5_code 84 = .ok (.iconst 5, 1) := by decide +kernel
theorem ep7m5_d85 : decode prog_7_method_5_code 85 = .ok (.if_icmp .ge 36, 3) := by decide +kernel
theorem ep7m5_d88 : decode prog_7_method_5_code 88 = .ok (.aload_n 1, 1) := by decide +kernel
theorem ep7m5_d89 : decode prog_7_method_5_code 89 = .ok (.iinc 6 (-1), 3) := by decide +kernel
theorem ep7m5_d92 : decode prog_7_method_5_code 92 = .ok (.iload 6, 2) := by decide +kernel
theorem ep7m5_d94 : decode prog_7_method_5_code 94 = .ok (.ldc 107, 2) := by decide +kernel
theorem ep7m5_d96 : decode prog_7_method_5_code 96 = .ok (.iload 8, 2) := by decide +kernel
theorem ep7m5_d98 : decode prog_7_method_5_code 98 = .ok (.getstatic 62, 3) := by decide +kernel
theorem ep7m5_d101 : decode prog_7_method_5_code 101 = .ok (.irem, 1) := by decide +kernel
theorem ep7m5_d102 : decode prog_7_method_5_code 102 = .ok (.invokevirtual 51, 3) := by decide +kernel
theorem ep7m5_d105 : decode prog_7_method_5_code 105 = .ok (.i2b, 1) := by decide +kernel
theorem ep7m5_d106 : decode prog_7_method_5_code 106 = .ok (.bastore, 1) := by decide +kernel
theorem ep7m5_d107 : decode prog_7_method_5_code 107 = .ok (.iload 8, 2) := by decide +kernel
theorem ep7m5_d109 : decode prog_7_method_5_code 109 = .ok (.getstatic 62, 3) := by decide +kernel
theorem ep7m5_d112 : decode prog_7_method_5_code 112 = .ok (.idiv, 1) := by decide +kernel
theorem ep7m5_d113 : decode prog_7_method_5_code 113 = .ok (.istore 8, 2) := by decide +kernel
theorem ep7m5_d115 : decode prog_7_method_5_code 115 = .ok (.iinc 9 1, 3) := by decide +kernel
theorem ep7m5_d118 : decode prog_7_method_5_code 118 = .ok (.goto (-36), 3) := by decide +kernel
theorem ep7m5_d121 : decode prog_7_method_5_code 121 = .ok (.iinc 7 1, 3) := by decide +kernel
theorem ep7m5_d124 : decode prog_7_method_5_code 124 = .ok (.goto (-60), 3) := by decide +kernel
theorem ep7m5_d127 : decode prog_7_method_5_code 127 = .ok (.aload 5, 2) := by decide +kernel
theorem ep7m5_d129 : decode prog_7_method_5_code 129 = .ok (.iconst 3, 1) := by decide +kernel
theorem ep7m5_d130 : decode prog_7_method_5_code 130 = .ok (.laload, 1) := by decide +kernel
theorem ep7m5_d131 : decode prog_7_method_5_code 131 = .ok (.l2i, 1) := by decide +kernel
theorem ep7m5_d132 : decode prog_7_method_5_code 132 = .ok (.istore 7, 2) := by decide +kernel
theorem ep7m5_d134 : decode prog_7_method_5_code 134 = .ok (.aload_n 1, 1) := by decide +kernel
theorem ep7m5_d135 : decode prog_7_method_5_code 135 = .ok (.iinc 6 (-1), 3) := by decide +kernel
theorem ep7m5_d138 : decode prog_7_method_5_code 138 = .ok (.iload 6, 2) := by decide +kernel
theorem ep7m5_d140 : decode prog_7_method_5_code 140 = .ok (.ldc 107, 2) := by decide +kernel
theorem ep7m5_d142 : decode prog_7_method_5_code 142 = .ok (.iload 7, 2) := by decide +kernel
theorem ep7m5_d144 : decode prog_7_method_5_code 144 = .ok (.getstatic 62, 3) := by decide +kernel
theorem ep7m5_d147 : decode prog_7_method_5_code 147 = .ok (.irem, 1) := by decide +kernel
theorem ep7m5_d148 : decode prog_7_method_5_code 148 = .ok (.invokevirtual 51, 3) := by decide +kernel
theorem ep7m5_d151 : decode prog_7_method_5_code 151 = .ok (.i2b, 1) := by decide +kernel
theorem ep7m5_d152 : decode prog_7_method_5_code 152 = .ok (.bastore, 1) := by decide +kernel
theorem ep7m5_d153 : decode prog_7_method_5_code 153 = .ok (.aload_n 1, 1) := by decide +kernel
theorem ep7m5_d154 : decode prog_7_method_5_code 154 = .ok (.iinc 6 (-1), 3) := by decide +kernel
theorem ep7m5_d157 : decode prog_7_method_5_code 157 = .ok (.iload 6, 2) := by decide +kernel
theorem ep7m5_d159 : decode prog_7_method_5_code 159 = .ok (.ldc 107, 2) := by decide +kernel
theorem ep7m5_d161 : decode prog_7_method_5_code 161 = .ok (.iload 7, 2) := by decide +kernel
theorem ep7m5_d163 : decode prog_7_method_5_code 163 = .ok (.getstatic 62, 3) := by decide +kernel
theorem ep7m5_d166 : decode prog_7_method_5_code 166 = .ok (.idiv, 1) := by decide +kernel
theorem ep7m5_d167 : decode prog_7_method_5_code 167 = .ok (.invokevirtual 51, 3) := by decide +kernel
theorem ep7m5_d170 : decode prog_7_method_5_code 170 = .ok (.i2b, 1) := by decide +kernel
theorem ep7m5_d171 : decode prog_7_method_5_code 171 = .ok (.bastore, 1) := by decide +kernel
theorem ep7m5_d172 : decode prog_7_method_5_code 172 = .ok (.return_, 1) := by decide +kernel
theorem own_write_pn : plainFor (⟨"com/example/nuthatch/nuthatch/EventId", "write", "([BI)V"⟩ : MethodName) = true := by first | exact plainFor_of_name (by first | (simp [plainName, overriddenIn]; done) | decide +kernel) | decide +kernel | exact Jvm.Free.JP.mathPlain rfl (by decide +kernel)
theorem own_write_ef (m : MethodId) (x0 : Addr) (x1 : Addr) (x2 : Int32) : entryFrame m #[(.ref x0), (.ref x1), (.int x2)] 10 = mkF m 0 #[.val (.ref x0), .val (.ref x1), .val (.int x2), .unset, .unset, .unset, .unset, .unset, .unset, .unset] [] := by first | (simp [entryFrame, mkF, argsToLocals, Value.category]; done) | rfl
def own_write_Q (Z : State) (a1 : Addr) (ba : Addr) (kb_ : ClassId) (oo : Int32) (no : Nat) (tt : Int64) (ww : Int64) (qq : Int32) (M : Int) (zc : Int32) (vS : Value) (h0 : Heap) (n0 : Nat) (v : Option Value) (h : Heap) (L : List Loc) : Prop := v = none ∧ Fr n0 L ∧ Keep h0 h [ba] ∧ Arv Z h ba kb_ .byte (26 : Int32) (own_into no M) (.int 0)
set_option maxRecDepth 65536 in
set_option maxHeartbeats 40000000 in
theorem own_write (l : Launch) (Z : State) (a0 : Array Value) (hw : ∀ d ∈ tables_1, d.before a0 Z = true) (ws : List Jvm.Cond) (a1 : Addr) (ba : Addr) (kb_ : ClassId) (oo : Int32) (no : Nat) (tt : Int64) (ww : Int64) (qq : Int32) (M : Int) (zc : Int32) (vS : Value) (h0 : Heap) (n0 : Nat) (O : Old Z n0 h0) (E_a1 : Exa Z h0 a1 "com/example/nuthatch/nuthatch/EventId") (F_timeMillis_a1 : Fld Z h0 a1 "com/example/nuthatch/nuthatch/EventId" "timeMillis" "J" (.long tt)) (F_worker_a1 : Fld Z h0 a1 "com/example/nuthatch/nuthatch/EventId" "worker" "J" (.long ww)) (F_sequence_a1 : Fld Z h0 a1 "com/example/nuthatch/nuthatch/EventId" "sequence" "I" (.int qq)) (E_ba : Exa Z h0 ba "[B") (V_ba : Arv Z h0 ba kb_ .byte (26 : Int32) (List.replicate 26 (Value.int (0 : Int32))) (.int 0)) (g_ba : n0 ≤ ba) (ho : oo.toInt = (no : Int)) (hno : no ≤ 3) (hok : own_ok tt ww qq) (hM : M = own_N tt ww qq) (S_B : Sta Z Z.heap "com/example/nuthatch/nuthatch/EventId" "BASE" "I" (.int 62)) (S_C : Sta Z Z.heap "java/lang/String" "COMPACT_STRINGS" "Z" (.int zc)) (hzc : ¬ zc = 0) (S_S : Sta Z Z.heap "jdk/internal/util/Preconditions" "SIOOBE_FORMATTER" "Ljava/util/function/BiFunction;" vS) (hvS : vS.isRef = true) :
    MetFree l (⟨"com/example/nuthatch/nuthatch/EventId", "write", "([BI)V"⟩ : MethodName) (head1 (Jvm.Cond.code (⟨"com/example/nuthatch/nuthatch/EventId", "write", "([BI)V"⟩ : MethodName) prog_7_method_5_code 10 none :: ws) ({ frames := 4, cells := 3, slots := 256, locals := 55 } : Room)) (fun a U => a = #[(.ref a1), (.ref ba), (.int oo)] ∧ Z.Warmed39 U.vm ∧ U.heap = h0 ∧ CHv Z own_EL U.vm h0 ∧ Safe Z own_EL U.vm h0 ba) (fun _ _ _ _ _ => True) (fun _ U o U' => ∃ v L, o = .returned v ∧ own_write_Q Z a1 ba kb_ oo no tt ww qq M zc vS h0 n0 v U'.heap L ∧ CHr Z own_EL U.vm U.heap U'.vm U'.heap ∧ ReturnedEndW U o U' L ({ frames := 4, cells := 3, slots := 256, locals := 55 } : Room).cells ({ frames := 4, cells := 3, slots := 256, locals := 55 } : Room).slots) := by
  refine MetFree.of_bodySF own_write_pn hisR ?_
  intro p e s m args below meth c s₁ Bd hml0 hP hK
  obtain ⟨rfl, hZ, hh, H0, Sf⟩ := hP
  have hx := Bd.exec
  have hby := Bd.bytes
  have hlk := Bd.notSynchronized
  have hml : c.maxLocals = 10 := hml0
  have hown : s.vm.findClass "com/example/nuthatch/nuthatch/EventId" = some m.cls := findClass_of_methodNamed Bd.named
  have hnm := (name_of_methodNamed Bd.named Bd.method).1
  have X : Stand p l e ({ frames := 4, cells := 3, slots := 256, locals := 55 } : Room) s m #[(.ref a1), (.ref ba), (.int oo)] below meth c s₁ [] 0 0 := Stand.of_body Bd
  have eT : s₁.heap = h0 := by rw [← hh, Bd.state]; rfl
  have N := Fr.nil n0
  have K0 := Keep.refl h0 [ba]
  show own_Ends p e below (own_PostW s below (own_write_Q Z a1 ba kb_ oo no tt ww qq M zc vS h0 n0) (fun u => CHr Z own_EL s.vm s.heap u.vm u.heap) ({ frames := 4, cells := 3, slots := 256, locals := 55 } : Room).cells ({ frames := 4, cells := 3, slots := 256, locals := 55 } : Room).slots) s₁ (entryFrame m #[(.ref a1), (.ref ba), (.int oo)] 10)
  rw [own_write_ef m a1 ba oo]
  obtain ⟨T, hT⟩ : ∃ z, z = s₁ := ⟨_, rfl⟩
  rw [← hT] at X eT ⊢
  obtain ⟨h, hh0⟩ : ∃ z, z = h0 := ⟨_, rfl⟩
  rw [← hh0] at eT
  replace O : Old Z n0 h := by rw [hh0]; exact O
  replace K0 : Keep h0 h [ba] := by rw [hh0]; exact K0
  rw [← hh0] at E_a1
  rw [← hh0] at F_timeMillis_a1
  rw [← hh0] at F_worker_a1
  rw [← hh0] at F_sequence_a1
  rw [← hh0] at E_ba
  rw [← hh0] at V_ba
  have wS : ∀ a ∈ Bundle.stringAtoms, a.before a0 Z = true := fun a ha => hw a ((by decide +kernel : ∀ d ∈ Bundle.stringAtoms, d ∈ tables_1) a ha)
  have hEL := own_hEL hw
  have ne_a1_ba := Exa.ne E_a1 E_ba (by decide)
  have H : CHr Z own_EL s.vm h0 s.vm h := by rw [hh0]; exact CHr.refl H0
  replace X := own_base X
  have hS := (State.WarmedH.refl s).since h0.size
  have hk : h0.size ≤ h.size := K0.1
  replace hZ : Z.Warmed39 (s.setVm s.vm).vm := hZ
  replace hown : (s.setVm s.vm).vm.findClass "com/example/nuthatch/nuthatch/EventId" = some m.cls := hown
  have S_ba : Safe Z own_EL s.vm h ba := by rw [hh0]; exact Sf
  obtain ⟨hM1, hM2⟩ := own_NB hok
  rw [← hM] at hM1 hM2
  replace V_ba : Arv Z h ba kb_ .byte (26 : Int32) (own_pre no M 0) (.int 0) := by rw [← own_pre0 hno]; exact V_ba
  refine own_via (g' := (mkF m 1 (own_A20 a1 ba oo) [(.ref a1)])) (fun t_ k_ => XS.aloadN X.here hx rfl (hb hby ep7m5_d0) rfl rfl k_) ?_
  obtain ⟨T, X, eT, st⟩ := getF X hx hZ hown (host := "") (Or.inl (hw _ (own_w 21 rfl))) Via.refl eT F_worker_a1 (g := (mkF m 1 (own_A20 a1 ba oo) [(.ref a1)])) rfl rfl (hb hby ep7m5_d1)
  refine own_via (g' := (mkF m 4 (own_A20 a1 ba oo) [(.long ww)])) st ?_
  refine own_via (g' := (mkF m 8 (own_A20 a1 ba oo) [(.ref a1), (.long (ww <<< ((16 : Int32) &&& 0x3f).toInt64))])) (fun t_ k_ => XS.bipush X.here hx rfl (hb hby ep7m5_d4) (XS.lshl X.here hx rfl (hb hby ep7m5_d6) rfl (XS.aloadN X.here hx rfl (hb hby ep7m5_d7) rfl rfl k_))) ?_
  obtain ⟨T, X, eT, st⟩ := getF X hx hZ hown (host := "") (Or.inl (hw _ (own_w 23 rfl))) Via.refl eT F_sequence_a1 (g := (mkF m 8 (own_A20 a1 ba oo) [(.ref a1), (.long (ww <<< ((16 : Int32) &&& 0x3f).toInt64))])) rfl rfl (hb hby ep7m5_d8)
  refine own_via (g' := (mkF m 11 (own_A20 a1 ba oo) [(.int qq), (.long (ww <<< ((16 : Int32) &&& 0x3f).toInt64))])) st ?_
  refine own_via (g' := (mkF m 14 (own_A13 a1 ba oo ((ww <<< ((16 : Int32) &&& 0x3f).toInt64) ||| (qq.toInt64))) [])) (fun t_ k_ => XS.i2l X.here hx rfl (hb hby ep7m5_d11) rfl (XS.lor X.here hx rfl (hb hby ep7m5_d12) rfl (XS.lstoreN X.here hx rfl (hb hby ep7m5_d13) rfl (l' := (own_A13 a1 ba oo ((ww <<< ((16 : Int32) &&& 0x3f).toInt64) ||| (qq.toInt64)))) rfl k_))) ?_
  obtain ⟨lo, hd_lo⟩ : ∃ z, z = ((ww <<< ((16 : Int32) &&& 0x3f).toInt64) ||| (qq.toInt64)) := ⟨_, rfl⟩
  rw [← hd_lo]
  refine own_via (g' := (mkF m 15 (own_A13 a1 ba oo lo) [(.int 4)])) (fun t_ k_ => XS.iconst X.here hx rfl (hb hby ep7m5_d14) k_) ?_
  obtain ⟨b1, gb⟩ : ∃ z, z = h.size := ⟨_, rfl⟩
  obtain ⟨T, h2, kb1, X, eT, E, A_, E_b1, st⟩ := newPE X hx hZ (hw _ (own_w 31 rfl)) eT (g := (mkF m 15 (own_A13 a1 ba oo lo) [(.int 4)])) rfl (hb hby ep7m5_d15) rfl (by decide) (cap := 4) (by decide) (by decide) (by decide) (by decide) (ad := "[J") (by decide)
  rw [← gb] at A_ E_b1 st
  have ne_a1_b1 : a1 ≠ b1 := Nat.ne_of_lt (Nat.lt_of_lt_of_le E_a1.lt (Nat.le_of_eq gb.symm))
  have ne_ba_b1 : ba ≠ b1 := Nat.ne_of_lt (Nat.lt_of_lt_of_le E_ba.lt (Nat.le_of_eq gb.symm))
  have S_b1 := own_safeNew H (Nat.le_of_eq gb.symm)
  have g_b1 : n0 ≤ b1 := Nat.le_trans (own_le O) (Nat.le_of_eq gb.symm)
  have sz_b1 : h0.size ≤ b1 := Nat.le_trans K0.1 (Nat.le_of_eq gb.symm)
  replace E_a1 := E_a1.ext E
  replace F_timeMillis_a1 := F_timeMillis_a1.ext E
  replace F_worker_a1 := F_worker_a1.ext E
  replace F_sequence_a1 := F_sequence_a1.ext E
  replace E_ba := E_ba.ext E
  replace V_ba := V_ba.ext E
  replace O := O.ext E
  replace K0 := K0.ext E
  replace hk := Nat.le_trans hk E.1
  replace S_ba := Safe.ext E H.1 S_ba
  replace S_b1 := Safe.ext E H.1 S_b1
  replace H := H.trans (CHr.ext E H.1)
  have V_b1 : Arv Z h2 b1 kb1 .long (4 : Int32) [(.long 0), (.long 0), (.long 0), (.long 0)] (.long 0) := (Arv.new A_ (by decide)).pad (pad_rep [] (.long 0) 4)
  refine own_via (g' := (mkF m 17 (own_A13 a1 ba oo lo) [(.ref b1)])) st ?_
  refine own_via (g' := (mkF m 20 (own_A13 a1 ba oo lo) [(.ref a1), (.int 0), (.ref b1), (.ref b1)])) (fun t_ k_ => XS.dup X.here hx rfl (hb hby ep7m5_d17) rfl rfl (XS.iconst X.here hx rfl (hb hby ep7m5_d18) (XS.aloadN X.here hx rfl (hb hby ep7m5_d19) rfl rfl k_))) ?_
  obtain ⟨T, X, eT, st⟩ := getF X hx hZ hown (host := "") (Or.inl (hw _ (own_w 19 rfl))) Via.refl eT F_timeMillis_a1 (g := (mkF m 20 (own_A13 a1 ba oo lo) [(.ref a1), (.int 0), (.ref b1), (.ref b1)])) rfl rfl (hb hby ep7m5_d20)
  refine own_via (g' := (mkF m 23 (own_A13 a1 ba oo lo) [(.long tt), (.int 0), (.ref b1), (.ref b1)])) st ?_
  refine own_via (g' := (mkF m 26 (own_A13 a1 ba oo lo) [(.long ((tt.toUInt64 >>> ((32 : Int32) &&& 0x3f).toInt64.toUInt64).toInt64)), (.int 0), (.ref b1), (.ref b1)])) (fun t_ k_ => XS.bipush X.here hx rfl (hb hby ep7m5_d23) (XS.lushr X.here hx rfl (hb hby ep7m5_d25) rfl k_)) ?_
  obtain ⟨cl_, Ar_, qk_, Sz_, Nn_, Hs_, Gs_⟩ := id V_b1
  have hin_ : ¬ ((0 : Int32) < 0 ∨ cl_.slots.size ≤ ((0 : Int32)).toNatClampNeg) := inb_of Sz_ ⟨by decide, by decide⟩
  obtain ⟨T, h3, X, eT, W, st⟩ := stJ X hx hZ eT Ar_ (j := (0 : Int32)) hin_ (g := (mkF m 26 (own_A13 a1 ba oo lo) [(.long ((tt.toUInt64 >>> ((32 : Int32) &&& 0x3f).toInt64.toUInt64).toInt64)), (.int 0), (.ref b1), (.ref b1)])) rfl rfl (hb hby ep7m5_d26)
  replace V_b1 : Arv Z h3 b1 kb1 .long (4 : Int32) [(.long ((tt.toUInt64 >>> ((32 : Int32) &&& 0x3f).toInt64.toUInt64).toInt64)), (.long 0), (.long 0), (.long 0)] (.long 0) := Arv.set Ar_ qk_ Sz_ Nn_ Hs_ Gs_ rfl W 0 (by decide) (Nat.le_of_ble_eq_true rfl)
  have So := S_b1
  replace E_a1 := E_a1.wr W
  replace F_timeMillis_a1 := F_timeMillis_a1.other W (Or.inl ne_a1_b1)
  replace F_worker_a1 := F_worker_a1.other W (Or.inl ne_a1_b1)
  replace F_sequence_a1 := F_sequence_a1.other W (Or.inl ne_a1_b1)
  replace E_ba := E_ba.wr W
  replace V_ba := V_ba.other W ne_ba_b1
  replace E_b1 := E_b1.wr W
  replace O := O.wr W g_b1
  replace K0 := K0.wr W (Or.inr sz_b1)
  replace N := Fr.snoc X N g_b1
  replace hk := Nat.le_trans hk (own_wrSz W)
  replace S_ba := Safe.wr W So H.1 S_ba
  replace S_b1 := Safe.wr W So H.1 S_b1
  replace H := H.trans (CHr.wr W So H.1)
  refine own_via (g' := (mkF m 27 (own_A13 a1 ba oo lo) [(.ref b1)])) st ?_
  refine own_via (g' := (mkF m 30 (own_A13 a1 ba oo lo) [(.ref a1), (.int 1), (.ref b1), (.ref b1)])) (fun t_ k_ => XS.dup X.here hx rfl (hb hby ep7m5_d27) rfl rfl (XS.iconst X.here hx rfl (hb hby ep7m5_d28) (XS.aloadN X.here hx rfl (hb hby ep7m5_d29) rfl rfl k_))) ?_
  obtain ⟨T, X, eT, st⟩ := getF X hx hZ hown (host := "") (Or.inl (hw _ (own_w 19 rfl))) Via.refl eT F_timeMillis_a1 (g := (mkF m 30 (own_A13 a1 ba oo lo) [(.ref a1), (.int 1), (.ref b1), (.ref b1)])) rfl rfl (hb hby ep7m5_d30)
  refine own_via (g' := (mkF m 33 (own_A13 a1 ba oo lo) [(.long tt), (.int 1), (.ref b1), (.ref b1)])) st ?_
  refine own_via (g' := (mkF m 37 (own_A13 a1 ba oo lo) [(.long (tt &&& (4294967295 : Int64))), (.int 1), (.ref b1), (.ref b1)])) (fun t_ k_ => X.ldc2Long hx hown (mvT hZ (hw _ (own_w 32 rfl))) (g := (mkF m 33 (own_A13 a1 ba oo lo) [(.long tt), (.int 1), (.ref b1), (.ref b1)])) rfl (hb hby ep7m5_d33) _ (XS.land X.here hx rfl (hb hby ep7m5_d36) rfl k_)) ?_
  obtain ⟨cl_, Ar_, qk_, Sz_, Nn_, Hs_, Gs_⟩ := id V_b1
  have hin_ : ¬ ((1 : Int32) < 0 ∨ cl_.slots.size ≤ ((1 : Int32)).toNatClampNeg) := inb_of Sz_ ⟨by decide, by decide⟩
  obtain ⟨T, h4, X, eT, W, st⟩ := stJ X hx hZ eT Ar_ (j := (1 : Int32)) hin_ (g := (mkF m 37 (own_A13 a1 ba oo lo) [(.long (tt &&& (4294967295 : Int64))), (.int 1), (.ref b1), (.ref b1)])) rfl rfl (hb hby ep7m5_d37)
  replace V_b1 : Arv Z h4 b1 kb1 .long (4 : Int32) [(.long ((tt.toUInt64 >>> ((32 : Int32) &&& 0x3f).toInt64.toUInt64).toInt64)), (.long (tt &&& (4294967295 : Int64))), (.long 0), (.long 0)] (.long 0) := Arv.set Ar_ qk_ Sz_ Nn_ Hs_ Gs_ rfl W 1 (by decide) (Nat.le_of_ble_eq_true rfl)
  have So := S_b1
  replace E_a1 := E_a1.wr W
  replace F_timeMillis_a1 := F_timeMillis_a1.other W (Or.inl ne_a1_b1)
  replace F_worker_a1 := F_worker_a1.other W (Or.inl ne_a1_b1)
  replace F_sequence_a1 := F_sequence_a1.other W (Or.inl ne_a1_b1)
  replace E_ba := E_ba.wr W
  replace V_ba := V_ba.other W ne_ba_b1
  replace E_b1 := E_b1.wr W
  replace O := O.wr W g_b1
  replace K0 := K0.wr W (Or.inr sz_b1)
  replace N := Fr.snoc X N g_b1
  replace hk := Nat.le_trans hk (own_wrSz W)
  replace S_ba := Safe.wr W So H.1 S_ba
  replace S_b1 := Safe.wr W So H.1 S_b1
  replace H := H.trans (CHr.wr W So H.1)
  refine own_via (g' := (mkF m 38 (own_A13 a1 ba oo lo) [(.ref b1)])) st ?_
  refine own_via (g' := (mkF m 44 (own_A13 a1 ba oo lo) [(.long ((lo.toUInt64 >>> ((32 : Int32) &&& 0x3f).toInt64.toUInt64).toInt64)), (.int 2), (.ref b1), (.ref b1)])) (fun t_ k_ => XS.dup X.here hx rfl (hb hby ep7m5_d38) rfl rfl (XS.iconst X.here hx rfl (hb hby ep7m5_d39) (XS.lloadN X.here hx rfl (hb hby ep7m5_d40) rfl (XS.bipush X.here hx rfl (hb hby ep7m5_d41) (XS.lushr X.here hx rfl (hb hby ep7m5_d43) rfl k_))))) ?_
  obtain ⟨cl_, Ar_, qk_, Sz_, Nn_, Hs_, Gs_⟩ := id V_b1
  have hin_ : ¬ ((2 : Int32) < 0 ∨ cl_.slots.size ≤ ((2 : Int32)).toNatClampNeg) := inb_of Sz_ ⟨by decide, by decide⟩
  obtain ⟨T, h5, X, eT, W, st⟩ := stJ X hx hZ eT Ar_ (j := (2 : Int32)) hin_ (g := (mkF m 44 (own_A13 a1 ba oo lo) [(.long ((lo.toUInt64 >>> ((32 : Int32) &&& 0x3f).toInt64.toUInt64).toInt64)), (.int 2), (.ref b1), (.ref b1)])) rfl rfl (hb hby ep7m5_d44)
  replace V_b1 : Arv Z h5 b1 kb1 .long (4 : Int32) [(.long ((tt.toUInt64 >>> ((32 : Int32) &&& 0x3f).toInt64.toUInt64).toInt64)), (.long (tt &&& (4294967295 : Int64))), (.long ((lo.toUInt64 >>> ((32 : Int32) &&& 0x3f).toInt64.toUInt64).toInt64)), (.long 0)] (.long 0) := Arv.set Ar_ qk_ Sz_ Nn_ Hs_ Gs_ rfl W 2 (by decide) (Nat.le_of_ble_eq_true rfl)
  have So := S_b1
  replace E_a1 := E_a1.wr W
  replace F_timeMillis_a1 := F_timeMillis_a1.other W (Or.inl ne_a1_b1)
  replace F_worker_a1 := F_worker_a1.other W (Or.inl ne_a1_b1)
  replace F_sequence_a1 := F_sequence_a1.other W (Or.inl ne_a1_b1)
  replace E_ba := E_ba.wr W
  replace V_ba := V_ba.other W ne_ba_b1
  replace E_b1 := E_b1.wr W
  replace O := O.wr W g_b1
  replace K0 := K0.wr W (Or.inr sz_b1)
  replace N := Fr.snoc X N g_b1
  replace hk := Nat.le_trans hk (own_wrSz W)
  replace S_ba := Safe.wr W So H.1 S_ba
  replace S_b1 := Safe.wr W So H.1 S_b1
  replace H := H.trans (CHr.wr W So H.1)
  refine own_via (g' := (mkF m 45 (own_A13 a1 ba oo lo) [(.ref b1)])) st ?_
  refine own_via (g' := (mkF m 52 (own_A13 a1 ba oo lo) [(.long (lo &&& (4294967295 : Int64))), (.int 3), (.ref b1), (.ref b1)])) (fun t_ k_ => XS.dup X.here hx rfl (hb hby ep7m5_d45) rfl rfl (XS.iconst X.here hx rfl (hb hby ep7m5_d46) (XS.lloadN X.here hx rfl (hb hby ep7m5_d47) rfl (X.ldc2Long hx hown (mvT hZ (hw _ (own_w 32 rfl))) (g := (mkF m 48 (own_A13 a1 ba oo lo) [(.long lo), (.int 3), (.ref b1), (.ref b1)])) rfl (hb hby ep7m5_d48) _ (XS.land X.here hx rfl (hb hby ep7m5_d51) rfl k_))))) ?_
  obtain ⟨cl_, Ar_, qk_, Sz_, Nn_, Hs_, Gs_⟩ := id V_b1
  have hin_ : ¬ ((3 : Int32) < 0 ∨ cl_.slots.size ≤ ((3 : Int32)).toNatClampNeg) := inb_of Sz_ ⟨by decide, by decide⟩
  obtain ⟨T, h6, X, eT, W, st⟩ := stJ X hx hZ eT Ar_ (j := (3 : Int32)) hin_ (g := (mkF m 52 (own_A13 a1 ba oo lo) [(.long (lo &&& (4294967295 : Int64))), (.int 3), (.ref b1), (.ref b1)])) rfl rfl (hb hby ep7m5_d52)
  replace V_b1 : Arv Z h6 b1 kb1 .long (4 : Int32) [(.long ((tt.toUInt64 >>> ((32 : Int32) &&& 0x3f).toInt64.toUInt64).toInt64)), (.long (tt &&& (4294967295 : Int64))), (.long ((lo.toUInt64 >>> ((32 : Int32) &&& 0x3f).toInt64.toUInt64).toInt64)), (.long (lo &&& (4294967295 : Int64)))] (.long 0) := Arv.set Ar_ qk_ Sz_ Nn_ Hs_ Gs_ rfl W 3 (by decide) (Nat.le_of_ble_eq_true rfl)
  have So := S_b1
  replace E_a1 := E_a1.wr W
  replace F_timeMillis_a1 := F_timeMillis_a1.other W (Or.inl ne_a1_b1)
  replace F_worker_a1 := F_worker_a1.other W (Or.inl ne_a1_b1)
  replace F_sequence_a1 := F_sequence_a1.other W (Or.inl ne_a1_b1)
  replace E_ba := E_ba.wr W
  replace V_ba := V_ba.other W ne_ba_b1
  replace E_b1 := E_b1.wr W
  replace O := O.wr W g_b1
  replace K0 := K0.wr W (Or.inr sz_b1)
  replace N := Fr.snoc X N g_b1
  replace hk := Nat.le_trans hk (own_wrSz W)
  replace S_ba := Safe.wr W So H.1 S_ba
  replace S_b1 := Safe.wr W So H.1 S_b1
  replace H := H.trans (CHr.wr W So H.1)
  refine own_via (g' := (mkF m 53 (own_A13 a1 ba oo lo) [(.ref b1)])) st ?_
  have hL0 := own_start hok hd_lo
  rw [← hM] at hL0
  refine own_via (g' := (mkF m 61 (own_A16 a1 ba oo lo b1 (oo + (22 : Int32))) [])) (fun t_ k_ => XS.astore X.here hx rfl (hb hby ep7m5_d53) rfl rfl (l' := #[.val (.ref a1), .val (.ref ba), .val (.int oo), .val (.long lo), .second, .val (.ref b1), .unset, .unset, .unset, .unset]) rfl (XS.iloadN X.here hx rfl (hb hby ep7m5_d55) rfl (XS.bipush X.here hx rfl (hb hby ep7m5_d56) (XS.iadd X.here hx rfl (hb hby ep7m5_d58) rfl (XS.istore X.here hx rfl (hb hby ep7m5_d59) rfl (l' := (own_A16 a1 ba oo lo b1 (oo + (22 : Int32)))) rfl k_))))) ?_
  obtain ⟨j22, hd_j22⟩ : ∃ z, z = (oo + (22 : Int32)) := ⟨_, rfl⟩
  rw [← hd_j22]
  have hj22 : j22.toInt = ((no + 22 : Nat) : Int) := by rw [hd_j22]; exact own_off ho hno 22 22 (by decide) (by decide)
  refine own_via (g' := (mkF m 74 (own_A17 a1 ba oo lo b1 j22 0) [(.int 916132832), (.ref b1)])) (fun t_ k_ => XS.iconst X.here hx rfl (hb hby ep7m5_d61) (XS.istore X.here hx rfl (hb hby ep7m5_d62) rfl (l' := (own_A17 a1 ba oo lo b1 j22 0)) rfl (XS.iload X.here hx rfl (hb hby ep7m5_d64) rfl (XS.iconst X.here hx rfl (hb hby ep7m5_d66) (XS.icmpNo X.here hx rfl (hb hby ep7m5_d67) rfl (tlt (by decide : (0 : Int32) < (4 : Int32))).2.1 (XS.aload X.here hx rfl (hb hby ep7m5_d70) rfl rfl (X.ldcInt hx hown (mvT hZ (hw _ (own_w 33 rfl))) (g := (mkF m 72 (own_A17 a1 ba oo lo b1 j22 0) [(.ref b1)])) rfl (hb hby ep7m5_d72) _ k_))))))) ?_
  obtain ⟨_, _, ⟨T, Lq, kq, nq⟩, -, X, ⟨Lc, hQ, lq, yq, zq⟩, st⟩ := Jvm.LawKit.callS X hx (y := own_y6) hown (mvT hZ (hw _ (own_w 34 rfl))) (mvT hZ (hw _ (own_w 35 rfl))) (mvT hZ (hw _ (own_w 5 rfl))) (mvT hZ (hw _ (own_w 36 rfl))) (by decide) (backOf (W := 0) (own_divide l Z a0 hw [] b1 kb1 ((tt.toUInt64 >>> ((32 : Int32) &&& 0x3f).toInt64.toUInt64).toInt64) (tt &&& (4294967295 : Int64)) ((lo.toUInt64 >>> ((32 : Int32) &&& 0x3f).toInt64.toUInt64).toInt64) (lo &&& (4294967295 : Int64)) (M) h6 n0 O E_b1 V_b1 g_b1 hL0) hZ (hw _ (own_w 36 rfl)) (hw _ (own_w 5 rfl)) (by decide) (by decide)) (g := (mkF m 74 (own_A17 a1 ba oo lo b1 j22 0) [(.int 916132832), (.ref b1)])) rfl (by rw [hml]; rfl) (argsL := [(.ref b1), (.int 916132832)]) (rest := []) (lenOf own_pd6 rfl) rfl (by show 2 * 0 + _ ≤ _; exact Nat.le_of_eq rfl) (hb hby ep7m5_d74) (fun _ _ => ⟨rfl, eT, (by decide : 1 + 0 ≤ _), (by decide : 4 + 0 ≤ _)⟩)
  dsimp only [Pt.U, Pt.locs, Pt.cells, Pt.slots] at X lq yq zq st hQ
  rw [lq, yq, zq] at X
  obtain ⟨y1_0, y1_1, y1_2, y1_3, r0, rfl, Nq, Kq, V_b1, hL1, hr0⟩ := hQ
  replace N := Fr.app N Nq
  obtain ⟨h7, eT⟩ : ∃ z, T.heap = z := ⟨_, rfl⟩
  rw [eT] at Kq V_b1
  have So : ∀ x ∈ [b1], Safe Z own_EL _ h6 x := (allS S_b1 all0)
  replace E_ba := E_ba.keep Kq
  replace V_ba := V_ba.keep Kq (ninS ne_ba_b1 nin0)
  replace E_b1 := E_b1.keep Kq
  replace O := O.keep Kq (allS g_b1 all0)
  replace K0 := K0.trans Kq (allS (Or.inr sz_b1) all0)
  replace hk := Nat.le_trans hk Kq.1
  replace S_ba := Safe.keep Kq So H.1 S_ba
  replace S_b1 := Safe.keep Kq So H.1 S_b1
  replace H := H.trans (CHr.keep Kq So H.1)
  refine own_via (g' := (mkF m 77 (own_A17 a1 ba oo lo b1 j22 0) [(.int r0)])) st ?_
  have hz0 : 0 ≤ (M) % 916132832 := Int.emod_nonneg _ (by decide)
  refine own_via (g' := (mkF m 92 (own_A11 a1 ba oo lo b1 (j22 + (-1 : Int32)) 0 r0 0) [(.ref ba)])) (fun t_ k_ => XS.istore X.here hx rfl (hb hby ep7m5_d77) rfl (l' := #[.val (.ref a1), .val (.ref ba), .val (.int oo), .val (.long lo), .second, .val (.ref b1), .val (.int j22), .val (.int 0), .val (.int r0), .unset]) rfl (XS.iconst X.here hx rfl (hb hby ep7m5_d79) (XS.istore X.here hx rfl (hb hby ep7m5_d80) rfl (l' := #[.val (.ref a1), .val (.ref ba), .val (.int oo), .val (.long lo), .second, .val (.ref b1), .val (.int j22), .val (.int 0), .val (.int r0), .val (.int 0)]) rfl (XS.iload X.here hx rfl (hb hby ep7m5_d82) rfl (XS.iconst X.here hx rfl (hb hby ep7m5_d84) (XS.icmpNo X.here hx rfl (hb hby ep7m5_d85) rfl (tlt (by decide : (0 : Int32) < (5 : Int32))).2.1 (XS.aloadN X.here hx rfl (hb hby ep7m5_d88) rfl rfl (XS.iinc X.here hx rfl (hb hby ep7m5_d89) rfl (l' := (own_A11 a1 ba oo lo b1 (j22 + (-1 : Int32)) 0 r0 0)) rfl k_)))))))) ?_
  obtain ⟨j21, hd_j21⟩ : ∃ z, z = (j22 + (-1 : Int32)) := ⟨_, rfl⟩
  rw [← hd_j21]
  have hj21 : j21.toInt = ((no + 21 : Nat) : Int) := by rw [hd_j21]; exact own_dec2 hj22
  refine own_via (g' := (mkF m 94 (own_A11 a1 ba oo lo b1 j21 0 r0 0) [(.int j21), (.ref ba)])) (fun t_ k_ => XS.iload X.here hx rfl (hb hby ep7m5_d92) rfl k_) ?_
  have LT_ba := E_ba.lt
  have LT_b1 := E_b1.lt
  obtain ⟨s9, T, h8, k1, sa, ksa, X, eT, E, hS, hk, hZ, hown, E_s9, F_coder_s9, F_value_s9, V_sa, lt_s9, lt_sa, hCH, hLit, hne, st⟩ := ldcCH (s := s) X hx hZ hown (hw _ (own_w 37 rfl)) wS eT hS hk hEL (by decide) H.1 (vs := [(.int 48), (.int 49), (.int 50), (.int 51), (.int 52), (.int 53), (.int 54), (.int 55), (.int 56), (.int 57), (.int 65), (.int 66), (.int 67), (.int 68), (.int 69), (.int 70), (.int 71), (.int 72), (.int 73), (.int 74), (.int 75), (.int 76), (.int 77), (.int 78), (.int 79), (.int 80), (.int 81), (.int 82), (.int 83), (.int 84), (.int 85), (.int 86), (.int 87), (.int 88), (.int 89), (.int 90), (.int 97), (.int 98), (.int 99), (.int 100), (.int 101), (.int 102), (.int 103), (.int 104), (.int 105), (.int 106), (.int 107), (.int 108), (.int 109), (.int 110), (.int 111), (.int 112), (.int 113), (.int 114), (.int 115), (.int 116), (.int 117), (.int 118), (.int 119), (.int 120), (.int 121), (.int 122)]) (z := (62 : Int32)) ⟨by decide +kernel, by decide +kernel⟩ (by decide) rfl (g := (mkF m 94 (own_A11 a1 ba oo lo b1 j21 0 r0 0) [(.int j21), (.ref ba)])) rfl (hb hby ep7m5_d94) (n := 248) (by decide +kernel) (by decide) (by decide) (by decide)
  replace E_ba := E_ba.ext E
  replace V_ba := V_ba.ext E
  replace E_b1 := E_b1.ext E
  replace V_b1 := V_b1.ext E
  replace O := O.ext E
  replace K0 := K0.ext E
  replace S_ba := hCH.safe LT_ba S_ba
  have ne_ba_s9 := (hne ba S_ba).1
  have ne_ba_sa := (hne ba S_ba).2
  replace S_b1 := hCH.safe LT_b1 S_b1
  have ne_b1_s9 := (hne b1 S_b1).1
  have ne_b1_sa := (hne b1 S_b1).2
  replace H := H.trans hCH
  refine own_via (g' := (mkF m 96 (own_A11 a1 ba oo lo b1 j21 0 r0 0) [(.ref s9), (.int j21), (.ref ba)])) st ?_
  replace V_sa : Arv Z h8 sa ksa .byte (62 : Int32) own_AV (.int 0) := V_sa
  refine own_via (g' := (mkF m 98 (own_A11 a1 ba oo lo b1 j21 0 r0 0) [(.int r0), (.ref s9), (.int j21), (.ref ba)])) (fun t_ k_ => XS.iload X.here hx rfl (hb hby ep7m5_d96) rfl k_) ?_
  obtain ⟨T, X, eT, st⟩ := getS2 X hx hZ hown (host := "") (Or.inl (hw _ (own_w 44 rfl))) Via.refl eT (S_B.ext O.2) (g := (mkF m 98 (own_A11 a1 ba oo lo b1 j21 0 r0 0) [(.int r0), (.ref s9), (.int j21), (.ref ba)])) rfl (hb hby ep7m5_d98)
  refine own_via (g' := (mkF m 101 (own_A11 a1 ba oo lo b1 j21 0 r0 0) [(.int 62), (.int r0), (.ref s9), (.int j21), (.ref ba)])) st ?_
  refine own_via (g' := (mkF m 102 (own_A11 a1 ba oo lo b1 j21 0 r0 0) [(.int (r0 % (62 : Int32))), (.ref s9), (.int j21), (.ref ba)])) (fun t_ k_ => iremM (g := (mkF m 101 (own_A11 a1 ba oo lo b1 j21 0 r0 0) [(.int 62), (.int r0), (.ref s9), (.int j21), (.ref ba)])) X hx rfl (hb hby ep7m5_d101) rfl (by decide) k_) ?_
  have hdg := (own_62 hr0 hz0).1.trans (own_w0 hM1)
  have hcg := own_chr hdg (own_dB M 0)
  obtain ⟨cq, kq, qa, qb, qc⟩ := isOf hZ eT E_s9
  obtain ⟨_, _, ⟨T, Lq, kq, nq⟩, -, X, ⟨Lc, hQ, lq, yq, zq⟩, st⟩ := X.virtualBack hx (y := own_y7) (z := own_y7) hown (mvT hZ (hw _ (own_w 46 rfl))) (mvT hZ (hw _ (own_w 47 rfl))) (notFace_of_selects (args := #[]) (mvT hZ (hw _ (own_w 49 rfl)))) (mvT hZ (hw _ (own_w 49 rfl))) (mvT hZ (hw _ (own_w 48 rfl))) (by decide) (backOf (W := 2) (own_charAt l Z a0 hw [] s9 (r0 % (62 : Int32)) sa ksa (62 : Int32) own_AV (own_al (own_d M 0)) zc vS h8 n0 O E_s9 F_value_s9 F_coder_s9 V_sa S_C hzc hcg.1 hcg.2 S_S hvS) hZ (hw _ (own_w 50 rfl)) (hw _ (own_w 38 rfl)) (by decide) (by decide)) qa qc (g := (mkF m 102 (own_A11 a1 ba oo lo b1 j21 0 r0 0) [(.int (r0 % (62 : Int32))), (.ref s9), (.int j21), (.ref ba)])) rfl (by rw [hml]; rfl) (Steps.refl _) (argsL := [(.int (r0 % (62 : Int32)))]) (rest := [(.int j21), (.ref ba)]) (lenOf own_pd7 rfl) rfl (by show 2 * 0 + _ ≤ _; exact Nat.le_of_eq rfl) (hb hby ep7m5_d102) (fun _ _ => ⟨rfl, eT, (by decide : 3 + 0 ≤ _), (by decide : 256 + 0 ≤ _)⟩)
  dsimp only [Pt.U, Pt.locs, Pt.cells, Pt.slots] at X lq yq zq st hQ
  rw [lq, yq, zq] at X
  obtain ⟨rfl, Nq, eT⟩ := hQ
  replace N := Fr.app N Nq
  refine own_viaT (g' := (mkF m 105 (own_A11 a1 ba oo lo b1 j21 0 r0 0) [(.int ((own_al (own_d M 0)) &&& (255 : Int32))), (.int j21), (.ref ba)])) st ?_
  rw [own_al255 (own_dB M 0)]
  refine own_via (g' := (mkF m 106 (own_A11 a1 ba oo lo b1 j21 0 r0 0) [(.int ((own_al (own_d M 0)).toInt8.toInt32)), (.int j21), (.ref ba)])) (fun t_ k_ => XS.i2b X.here hx rfl (hb hby ep7m5_d105) rfl k_) ?_
  rw [own_alb (own_dB M 0)]
  have hat := own_at2 hj21 hno (by decide)
  obtain ⟨cl_, Ar_, qk_, Sz_, Nn_, Hs_, Gs_⟩ := id V_ba
  have hin_ : ¬ (j21 < 0 ∨ cl_.slots.size ≤ (j21).toNatClampNeg) := inb_of Sz_ hat.1
  obtain ⟨T, h9, X, eT, W, st⟩ := stB X hx hZ eT Ar_ (j := j21) hin_ (g := (mkF m 106 (own_A11 a1 ba oo lo b1 j21 0 r0 0) [(.int (own_al (own_d M 0))), (.int j21), (.ref ba)])) rfl rfl (hb hby ep7m5_d106)
  replace V_ba : Arv Z h9 ba kb_ .byte (26 : Int32) ((own_pre no M 0).set (no + 21) (Value.int (((own_al (own_d M 0))).toInt8.toInt32))) (.int 0) := Arv.set Ar_ qk_ Sz_ Nn_ Hs_ Gs_ (fits_nar_byte _) W (no + 21) hat.2 (own_preI M hno (by decide) (by decide))
  have So := S_ba
  replace E_ba := E_ba.wr W
  replace E_b1 := E_b1.wr W
  replace V_b1 := V_b1.other W (Ne.symm ne_ba_b1)
  replace E_s9 := E_s9.wr W
  replace F_coder_s9 := F_coder_s9.other W (Or.inl (Ne.symm ne_ba_s9))
  replace F_value_s9 := F_value_s9.other W (Or.inl (Ne.symm ne_ba_s9))
  replace V_sa := V_sa.other W (Ne.symm ne_ba_sa)
  replace O := O.wr W g_ba
  replace K0 := K0.wr W (Or.inl (List.mem_of_getElem? (i := 0) rfl))
  replace N := Fr.snoc X N g_ba
  replace hk := Nat.le_trans hk (own_wrSz W)
  replace S_ba := Safe.wr W So H.1 S_ba
  replace S_b1 := Safe.wr W So H.1 S_b1
  replace H := H.trans (CHr.wr W So H.1)
  refine own_via (g' := (mkF m 107 (own_A11 a1 ba oo lo b1 j21 0 r0 0) [])) st ?_
  rw [own_alb (own_dB M 0)] at V_ba
  replace V_ba : Arv Z h9 ba kb_ .byte (26 : Int32) (own_pre no M 1) (.int 0) := by rw [show own_pre no M 1 = (own_pre no M 0).set (no + 21) (Value.int (own_al (own_d M 0))) from (own_preS (by decide)).symm]; exact V_ba
  refine own_via (g' := (mkF m 109 (own_A11 a1 ba oo lo b1 j21 0 r0 0) [(.int r0)])) (fun t_ k_ => XS.iload X.here hx rfl (hb hby ep7m5_d107) rfl k_) ?_
  obtain ⟨T, X, eT, st⟩ := getS2 X hx hZ hown (host := "") (Or.inl (hw _ (own_w 44 rfl))) Via.refl eT (S_B.ext O.2) (g := (mkF m 109 (own_A11 a1 ba oo lo b1 j21 0 r0 0) [(.int r0)])) rfl (hb hby ep7m5_d109)
  refine own_via (g' := (mkF m 112 (own_A11 a1 ba oo lo b1 j21 0 r0 0) [(.int 62), (.int r0)])) st ?_
  refine own_via (g' := (mkF m 115 (own_A11 a1 ba oo lo b1 j21 0 (r0 / (62 : Int32)) 0) [])) (fun t_ k_ => XS.idiv X.here hx rfl (hb hby ep7m5_d112) rfl (by decide) (XS.istore X.here hx rfl (hb hby ep7m5_d113) rfl (l' := (own_A11 a1 ba oo lo b1 j21 0 (r0 / (62 : Int32)) 0)) rfl k_)) ?_
  obtain ⟨r1, hd_r1⟩ : ∃ z, z = (r0 / (62 : Int32)) := ⟨_, rfl⟩
  rw [← hd_r1]
  have hr1 : r1.toInt = (M) % 916132832 / 62 := by rw [hd_r1]; exact (own_62 hr0 hz0).2
  have hz1 : 0 ≤ (M) % 916132832 / 62 := Int.ediv_nonneg hz0 (by decide)
  refine own_via (g' := (mkF m 118 (own_A11 a1 ba oo lo b1 j21 0 r1 ((0 : Int32) + (1 : Int32))) [])) (fun t_ k_ => XS.iinc X.here hx rfl (hb hby ep7m5_d115) rfl (l' := (own_A11 a1 ba oo lo b1 j21 0 r1 ((0 : Int32) + (1 : Int32)))) rfl k_) ?_
  rw [(by decide : ((0 : Int32) + (1 : Int32)) = (1 : Int32))]
  refine own_via (g' := (mkF m 92 (own_A11 a1 ba oo lo b1 (j21 + (-1 : Int32)) 0 r1 1) [(.ref ba)])) (fun t_ k_ => XS.goto X.here hx rfl (pc0 := 118) (pc' := 82) rfl (hb hby ep7m5_d118) (by decide) (by decide) (XS.iload X.here hx rfl (hb hby ep7m5_d82) rfl (XS.iconst X.here hx rfl (hb hby ep7m5_d84) (XS.icmpNo X.here hx rfl (hb hby ep7m5_d85) rfl (tlt (by decide : (1 : Int32) < (5 : Int32))).2.1 (XS.aloadN X.here hx rfl (hb hby ep7m5_d88) rfl rfl (XS.iinc X.here hx rfl (hb hby ep7m5_d89) rfl (l' := (own_A11 a1 ba oo lo b1 (j21 + (-1 : Int32)) 0 r1 1)) rfl k_)))))) ?_
  obtain ⟨j20, hd_j20⟩ : ∃ z, z = (j21 + (-1 : Int32)) := ⟨_, rfl⟩
  rw [← hd_j20]
  have hj20 : j20.toInt = ((no + 20 : Nat) : Int) := by rw [hd_j20]; exact own_dec2 hj21
  refine own_via (g' := (mkF m 98 (own_A11 a1 ba oo lo b1 j20 0 r1 1) [(.int r1), (.ref s9), (.int j20), (.ref ba)])) (fun t_ k_ => XS.iload X.here hx rfl (hb hby ep7m5_d92) rfl (ldcAgain X hx hZ hown (hw _ (own_w 37 rfl)) hLit (g := (mkF m 94 (own_A11 a1 ba oo lo b1 j20 0 r1 1) [(.int j20), (.ref ba)])) rfl (hb hby ep7m5_d94) _ (XS.iload X.here hx rfl (hb hby ep7m5_d96) rfl k_))) ?_
  obtain ⟨T, X, eT, st⟩ := getS2 X hx hZ hown (host := "") (Or.inl (hw _ (own_w 44 rfl))) Via.refl eT (S_B.ext O.2) (g := (mkF m 98 (own_A11 a1 ba oo lo b1 j20 0 r1 1) [(.int r1), (.ref s9), (.int j20), (.ref ba)])) rfl (hb hby ep7m5_d98)
  refine own_via (g' := (mkF m 101 (own_A11 a1 ba oo lo b1 j20 0 r1 1) [(.int 62), (.int r1), (.ref s9), (.int j20), (.ref ba)])) st ?_
  refine own_via (g' := (mkF m 102 (own_A11 a1 ba oo lo b1 j20 0 r1 1) [(.int (r1 % (62 : Int32))), (.ref s9), (.int j20), (.ref ba)])) (fun t_ k_ => iremM (g := (mkF m 101 (own_A11 a1 ba oo lo b1 j20 0 r1 1) [(.int 62), (.int r1), (.ref s9), (.int j20), (.ref ba)])) X hx rfl (hb hby ep7m5_d101) rfl (by decide) k_) ?_
  have hdg := (own_62 hr1 hz1).1.trans (own_w1 hM1)
  have hcg := own_chr hdg (own_dB M 1)
  obtain ⟨cq, kq, qa, qb, qc⟩ := isOf hZ eT E_s9
  obtain ⟨_, _, ⟨T, Lq, kq, nq⟩, -, X, ⟨Lc, hQ, lq, yq, zq⟩, st⟩ := X.virtualBack hx (y := own_y7) (z := own_y7) hown (mvT hZ (hw _ (own_w 46 rfl))) (mvT hZ (hw _ (own_w 47 rfl))) (notFace_of_selects (args := #[]) (mvT hZ (hw _ (own_w 49 rfl)))) (mvT hZ (hw _ (own_w 49 rfl))) (mvT hZ (hw _ (own_w 48 rfl))) (by decide) (backOf (W := 2) (own_charAt l Z a0 hw [] s9 (r1 % (62 : Int32)) sa ksa (62 : Int32) own_AV (own_al (own_d M 1)) zc vS h9 n0 O E_s9 F_value_s9 F_coder_s9 V_sa S_C hzc hcg.1 hcg.2 S_S hvS) hZ (hw _ (own_w 50 rfl)) (hw _ (own_w 38 rfl)) (by decide) (by decide)) qa qc (g := (mkF m 102 (own_A11 a1 ba oo lo b1 j20 0 r1 1) [(.int (r1 % (62 : Int32))), (.ref s9), (.int j20), (.ref ba)])) rfl (by rw [hml]; rfl) (Steps.refl _) (argsL := [(.int (r1 % (62 : Int32)))]) (rest := [(.int j20), (.ref ba)]) (lenOf own_pd7 rfl) rfl (by show 2 * 0 + _ ≤ _; exact Nat.le_of_eq rfl) (hb hby ep7m5_d102) (fun _ _ => ⟨rfl, eT, (by decide : 3 + 0 ≤ _), (by decide : 256 + 0 ≤ _)⟩)
  dsimp only [Pt.U, Pt.locs, Pt.cells, Pt.slots] at X lq yq zq st hQ
  rw [lq, yq, zq] at X
  obtain ⟨rfl, Nq, eT⟩ := hQ
  replace N := Fr.app N Nq
  refine own_viaT (g' := (mkF m 105 (own_A11 a1 ba oo lo b1 j20 0 r1 1) [(.int ((own_al (own_d M 1)) &&& (255 : Int32))), (.int j20), (.ref ba)])) st ?_
  rw [own_al255 (own_dB M 1)]
  refine own_via (g' := (mkF m 106 (own_A11 a1 ba oo lo b1 j20 0 r1 1) [(.int ((own_al (own_d M 1)).toInt8.toInt32)), (.int j20), (.ref ba)])) (fun t_ k_ => XS.i2b X.here hx rfl (hb hby ep7m5_d105) rfl k_) ?_
  rw [own_alb (own_dB M 1)]
  have hat := own_at2 hj20 hno (by decide)
  obtain ⟨cl_, Ar_, qk_, Sz_, Nn_, Hs_, Gs_⟩ := id V_ba
  have hin_ : ¬ (j20 < 0 ∨ cl_.slots.size ≤ (j20).toNatClampNeg) := inb_of Sz_ hat.1
  obtain ⟨T, h10, X, eT, W, st⟩ := stB X hx hZ eT Ar_ (j := j20) hin_ (g := (mkF m 106 (own_A11 a1 ba oo lo b1 j20 0 r1 1) [(.int (own_al (own_d M 1))), (.int j20), (.ref ba)])) rfl rfl (hb hby ep7m5_d106)
  replace V_ba : Arv Z h10 ba kb_ .byte (26 : Int32) ((own_pre no M 1).set (no + 20) (Value.int (((own_al (own_d M 1))).toInt8.toInt32))) (.int 0) := Arv.set Ar_ qk_ Sz_ Nn_ Hs_ Gs_ (fits_nar_byte _) W (no + 20) hat.2 (own_preI M hno (by decide) (by decide))
  have So := S_ba
  replace E_ba := E_ba.wr W
  replace E_b1 := E_b1.wr W
  replace V_b1 := V_b1.other W (Ne.symm ne_ba_b1)
  replace E_s9 := E_s9.wr W
  replace F_coder_s9 := F_coder_s9.other W (Or.inl (Ne.symm ne_ba_s9))
  replace F_value_s9 := F_value_s9.other W (Or.inl (Ne.symm ne_ba_s9))
  replace V_sa := V_sa.other W (Ne.symm ne_ba_sa)
  replace O := O.wr W g_ba
  replace K0 := K0.wr W (Or.inl (List.mem_of_getElem? (i := 0) rfl))
  replace N := Fr.snoc X N g_ba
  replace hk := Nat.le_trans hk (own_wrSz W)
  replace S_ba := Safe.wr W So H.1 S_ba
  replace S_b1 := Safe.wr W So H.1 S_b1
  replace H := H.trans (CHr.wr W So H.1)
  refine own_via (g' := (mkF m 107 (own_A11 a1 ba oo lo b1 j20 0 r1 1) [])) st ?_
  rw [own_alb (own_dB M 1)] at V_ba
  replace V_ba : Arv Z h10 ba kb_ .byte (26 : Int32) (own_pre no M 2) (.int 0) := by rw [show own_pre no M 2 = (own_pre no M 1).set (no + 20) (Value.int (own_al (own_d M 1))) from (own_preS (by decide)).symm]; exact V_ba
  refine own_via (g' := (mkF m 109 (own_A11 a1 ba oo lo b1 j20 0 r1 1) [(.int r1)])) (fun t_ k_ => XS.iload X.here hx rfl (hb hby ep7m5_d107) rfl k_) ?_
  obtain ⟨T, X, eT, st⟩ := getS2 X hx hZ hown (host := "") (Or.inl (hw _ (own_w 44 rfl))) Via.refl eT (S_B.ext O.2) (g := (mkF m 109 (own_A11 a1 ba oo lo b1 j20 0 r1 1) [(.int r1)])) rfl (hb hby ep7m5_d109)
  refine own_via (g' := (mkF m 112 (own_A11 a1 ba oo lo b1 j20 0 r1 1) [(.int 62), (.int r1)])) st ?_
  refine own_via (g' := (mkF m 115 (own_A11 a1 ba oo lo b1 j20 0 (r1 / (62 : Int32)) 1) [])) (fun t_ k_ => XS.idiv X.here hx rfl (hb hby ep7m5_d112) rfl (by decide) (XS.istore X.here hx rfl (hb hby ep7m5_d113) rfl (l' := (own_A11 a1 ba oo lo b1 j20 0 (r1 / (62 : Int32)) 1)) rfl k_)) ?_
  obtain ⟨r2, hd_r2⟩ : ∃ z, z = (r1 / (62 : Int32)) := ⟨_, rfl⟩
  rw [← hd_r2]
  have hr2 : r2.toInt = (M) % 916132832 / 62 / 62 := by rw [hd_r2]; exact (own_62 hr1 hz1).2
  have hz2 : 0 ≤ (M) % 916132832 / 62 / 62 := Int.ediv_nonneg hz1 (by decide)
  refine own_via (g' := (mkF m 118 (own_A11 a1 ba oo lo b1 j20 0 r2 ((1 : Int32) + (1 : Int32))) [])) (fun t_ k_ => XS.iinc X.here hx rfl (hb hby ep7m5_d115) rfl (l' := (own_A11 a1 ba oo lo b1 j20 0 r2 ((1 : Int32) + (1 : Int32)))) rfl k_) ?_
  rw [(by decide : ((1 : Int32) + (1 : Int32)) = (2 : Int32))]
  refine own_via (g' := (mkF m 92 (own_A11 a1 ba oo lo b1 (j20 + (-1 : Int32)) 0 r2 2) [(.ref ba)])) (fun t_ k_ => XS.goto X.here hx rfl (pc0 := 118) (pc' := 82) rfl (hb hby ep7m5_d118) (by decide) (by decide) (XS.iload X.here hx rfl (hb hby ep7m5_d82) rfl (XS.iconst X.here hx rfl (hb hby ep7m5_d84) (XS.icmpNo X.here hx rfl (hb hby ep7m5_d85) rfl (tlt (by decide : (2 : Int32) < (5 : Int32))).2.1 (XS.aloadN X.here hx rfl (hb hby ep7m5_d88) rfl rfl (XS.iinc X.here hx rfl (hb hby ep7m5_d89) rfl (l' := (own_A11 a1 ba oo lo b1 (j20 + (-1 : Int32)) 0 r2 2)) rfl k_)))))) ?_
  obtain ⟨j19, hd_j19⟩ : ∃ z, z = (j20 + (-1 : Int32)) := ⟨_, rfl⟩
  rw [← hd_j19]
  have hj19 : j19.toInt = ((no + 19 : Nat) : Int) := by rw [hd_j19]; exact own_dec2 hj20
  refine own_via (g' := (mkF m 98 (own_A11 a1 ba oo lo b1 j19 0 r2 2) [(.int r2), (.ref s9), (.int j19), (.ref ba)])) (fun t_ k_ => XS.iload X.here hx rfl (hb hby ep7m5_d92) rfl (ldcAgain X hx hZ hown (hw _ (own_w 37 rfl)) hLit (g := (mkF m 94 (own_A11 a1 ba oo lo b1 j19 0 r2 2) [(.int j19), (.ref ba)])) rfl (hb hby ep7m5_d94) _ (XS.iload X.here hx rfl (hb hby ep7m5_d96) rfl k_))) ?_
  obtain ⟨T, X, eT, st⟩ := getS2 X hx hZ hown (host := "") (Or.inl (hw _ (own_w 44 rfl))) Via.refl eT (S_B.ext O.2) (g := (mkF m 98 (own_A11 a1 ba oo lo b1 j19 0 r2 2) [(.int r2), (.ref s9), (.int j19), (.ref ba)])) rfl (hb hby ep7m5_d98)
  refine own_via (g' := (mkF m 101 (own_A11 a1 ba oo lo b1 j19 0 r2 2) [(.int 62), (.int r2), (.ref s9), (.int j19), (.ref ba)])) st ?_
  refine own_via (g' := (mkF m 102 (own_A11 a1 ba oo lo b1 j19 0 r2 2) [(.int (r2 % (62 : Int32))), (.ref s9), (.int j19), (.ref ba)])) (fun t_ k_ => iremM (g := (mkF m 101 (own_A11 a1 ba oo lo b1 j19 0 r2 2) [(.int 62), (.int r2), (.ref s9), (.int j19), (.ref ba)])) X hx rfl (hb hby ep7m5_d101) rfl (by decide) k_) ?_
  have hdg := (own_62 hr2 hz2).1.trans (own_w2 hM1)
  have hcg := own_chr hdg (own_dB M 2)
  obtain ⟨cq, kq, qa, qb, qc⟩ := isOf hZ eT E_s9
  obtain ⟨_, _, ⟨T, Lq, kq, nq⟩, -, X, ⟨Lc, hQ, lq, yq, zq⟩, st⟩ := X.virtualBack hx (y := own_y7) (z := own_y7) hown (mvT hZ (hw _ (own_w 46 rfl))) (mvT hZ (hw _ (own_w 47 rfl))) (notFace_of_selects (args := #[]) (mvT hZ (hw _ (own_w 49 rfl)))) (mvT hZ (hw _ (own_w 49 rfl))) (mvT hZ (hw _ (own_w 48 rfl))) (by decide) (backOf (W := 2) (own_charAt l Z a0 hw [] s9 (r2 % (62 : Int32)) sa ksa (62 : Int32) own_AV (own_al (own_d M 2)) zc vS h10 n0 O E_s9 F_value_s9 F_coder_s9 V_sa S_C hzc hcg.1 hcg.2 S_S hvS) hZ (hw _ (own_w 50 rfl)) (hw _ (own_w 38 rfl)) (by decide) (by decide)) qa qc (g := (mkF m 102 (own_A11 a1 ba oo lo b1 j19 0 r2 2) [(.int (r2 % (62 : Int32))), (.ref s9), (.int j19), (.ref ba)])) rfl (by rw [hml]; rfl) (Steps.refl _) (argsL := [(.int (r2 % (62 : Int32)))]) (rest := [(.int j19), (.ref ba)]) (lenOf own_pd7 rfl) rfl (by show 2 * 0 + _ ≤ _; exact Nat.le_of_eq rfl) (hb hby ep7m5_d102) (fun _ _ => ⟨rfl, eT, (by decide : 3 + 0 ≤ _), (by decide : 256 + 0 ≤ _)⟩)
  dsimp only [Pt.U, Pt.locs, Pt.cells, Pt.slots] at X lq yq zq st hQ
  rw [lq, yq, zq] at X
  obtain ⟨rfl, Nq, eT⟩ := hQ
  replace N := Fr.app N Nq
  refine own_viaT (g' := (mkF m 105 (own_A11 a1 ba oo lo b1 j19 0 r2 2) [(.int ((own_al (own_d M 2)) &&& (255 : Int32))), (.int j19), (.ref ba)])) st ?_
  rw [own_al255 (own_dB M 2)]
  refine own_via (g' := (mkF m 106 (own_A11 a1 ba oo lo b1 j19 0 r2 2) [(.int ((own_al (own_d M 2)).toInt8.toInt32)), (.int j19), (.ref ba)])) (fun t_ k_ => XS.i2b X.here hx rfl (hb hby ep7m5_d105) rfl k_) ?_
  rw [own_alb (own_dB M 2)]
  have hat := own_at2 hj19 hno (by decide)
  obtain ⟨cl_, Ar_, qk_, Sz_, Nn_, Hs_, Gs_⟩ := id V_ba
  have hin_ : ¬ (j19 < 0 ∨ cl_.slots.size ≤ (j19).toNatClampNeg) := inb_of Sz_ hat.1
  obtain ⟨T, h11, X, eT, W, st⟩ := stB X hx hZ eT Ar_ (j := j19) hin_ (g := (mkF m 106 (own_A11 a1 ba oo lo b1 j19 0 r2 2) [(.int (own_al (own_d M 2))), (.int j19), (.ref ba)])) rfl rfl (hb hby ep7m5_d106)
  replace V_ba : Arv Z h11 ba kb_ .byte (26 : Int32) ((own_pre no M 2).set (no + 19) (Value.int (((own_al (own_d M 2))).toInt8.toInt32))) (.int 0) := Arv.set Ar_ qk_ Sz_ Nn_ Hs_ Gs_ (fits_nar_byte _) W (no + 19) hat.2 (own_preI M hno (by decide) (by decide))
  have So := S_ba
  replace E_ba := E_ba.wr W
  replace E_b1 := E_b1.wr W
  replace V_b1 := V_b1.other W (Ne.symm ne_ba_b1)
  replace E_s9 := E_s9.wr W
  replace F_coder_s9 := F_coder_s9.other W (Or.inl (Ne.symm ne_ba_s9))
  replace F_value_s9 := F_value_s9.other W (Or.inl (Ne.symm ne_ba_s9))
  replace V_sa := V_sa.other W (Ne.symm ne_ba_sa)
  replace O := O.wr W g_ba
  replace K0 := K0.wr W (Or.inl (List.mem_of_getElem? (i := 0) rfl))
  replace N := Fr.snoc X N g_ba
  replace hk := Nat.le_trans hk (own_wrSz W)
  replace S_ba := Safe.wr W So H.1 S_ba
  replace S_b1 := Safe.wr W So H.1 S_b1
  replace H := H.trans (CHr.wr W So H.1)
  refine own_via (g' := (mkF m 107 (own_A11 a1 ba oo lo b1 j19 0 r2 2) [])) st ?_
  rw [own_alb (own_dB M 2)] at V_ba
  replace V_ba : Arv Z h11 ba kb_ .byte (26 : Int32) (own_pre no M 3) (.int 0) := by rw [show own_pre no M 3 = (own_pre no M 2).set (no + 19) (Value.int (own_al (own_d M 2))) from (own_preS (by decide)).symm]; exact V_ba
  refine own_via (g' := (mkF m 109 (own_A11 a1 ba oo lo b1 j19 0 r2 2) [(.int r2)])) (fun t_ k_ => XS.iload X.here hx rfl (hb hby ep7m5_d107) rfl k_) ?_
  obtain ⟨T, X, eT, st⟩ := getS2 X hx hZ hown (host := "") (Or.inl (hw _ (own_w 44 rfl))) Via.refl eT (S_B.ext O.2) (g := (mkF m 109 (own_A11 a1 ba oo lo b1 j19 0 r2 2) [(.int r2)])) rfl (hb hby ep7m5_d109)
  refine own_via (g' := (mkF m 112 (own_A11 a1 ba oo lo b1 j19 0 r2 2) [(.int 62), (.int r2)])) st ?_
  refine own_via (g' := (mkF m 115 (own_A11 a1 ba oo lo b1 j19 0 (r2 / (62 : Int32)) 2) [])) (fun t_ k_ => XS.idiv X.here hx rfl (hb hby ep7m5_d112) rfl (by decide) (XS.istore X.here hx rfl (hb hby ep7m5_d113) rfl (l' := (own_A11 a1 ba oo lo b1 j19 0 (r2 / (62 : Int32)) 2)) rfl k_)) ?_
  obtain ⟨r3, hd_r3⟩ : ∃ z, z = (r2 / (62 : Int32)) := ⟨_, rfl⟩
  rw [← hd_r3]
  have hr3 : r3.toInt = (M) % 916132832 / 62 / 62 / 62 := by rw [hd_r3]; exact (own_62 hr2 hz2).2
  have hz3 : 0 ≤ (M) % 916132832 / 62 / 62 / 62 := Int.ediv_nonneg hz2 (by decide)
  refine own_via (g' := (mkF m 118 (own_A11 a1 ba oo lo b1 j19 0 r3 ((2 : Int32) + (1 : Int32))) [])) (fun t_ k_ => XS.iinc X.here hx rfl (hb hby ep7m5_d115) rfl (l' := (own_A11 a1 ba oo lo b1 j19 0 r3 ((2 : Int32) + (1 : Int32)))) rfl k_) ?_
  rw [(by decide : ((2 : Int32) + (1 : Int32)) = (3 : Int32))]
  refine own_via (g' := (mkF m 92 (own_A11 a1 ba oo lo b1 (j19 + (-1 : Int32)) 0 r3 3) [(.ref ba)])) (fun t_ k_ => XS.goto X.here hx rfl (pc0 := 118) (pc' := 82) rfl (hb hby ep7m5_d118) (by decide) (by decide) (XS.iload X.here hx rfl (hb hby ep7m5_d82) rfl (XS.iconst X.here hx rfl (hb hby ep7m5_d84) (XS.icmpNo X.here hx rfl (hb hby ep7m5_d85) rfl (tlt (by decide : (3 : Int32) < (5 : Int32))).2.1 (XS.aloadN X.here hx rfl (hb hby ep7m5_d88) rfl rfl (XS.iinc X.here hx rfl (hb hby ep7m5_d89) rfl (l' := (own_A11 a1 ba oo lo b1 (j19 + (-1 : Int32)) 0 r3 3)) rfl k_)))))) ?_
  obtain ⟨j18, hd_j18⟩ : ∃ z, z = (j19 + (-1 : Int32)) := ⟨_, rfl⟩
  rw [← hd_j18]
  have hj18 : j18.toInt = ((no + 18 : Nat) : Int) := by rw [hd_j18]; exact own_dec2 hj19
  refine own_via (g' := (mkF m 98 (own_A11 a1 ba oo lo b1 j18 0 r3 3) [(.int r3), (.ref s9), (.int j18), (.ref ba)])) (fun t_ k_ => XS.iload X.here hx rfl (hb hby ep7m5_d92) rfl (ldcAgain X hx hZ hown (hw _ (own_w 37 rfl)) hLit (g := (mkF m 94 (own_A11 a1 ba oo lo b1 j18 0 r3 3) [(.int j18), (.ref ba)])) rfl (hb hby ep7m5_d94) _ (XS.iload X.here hx rfl (hb hby ep7m5_d96) rfl k_))) ?_
  obtain ⟨T, X, eT, st⟩ := getS2 X hx hZ hown (host := "") (Or.inl (hw _ (own_w 44 rfl))) Via.refl eT (S_B.ext O.2) (g := (mkF m 98 (own_A11 a1 ba oo lo b1 j18 0 r3 3) [(.int r3), (.ref s9), (.int j18), (.ref ba)])) rfl (hb hby ep7m5_d98)
  refine own_via (g' := (mkF m 101 (own_A11 a1 ba oo lo b1 j18 0 r3 3) [(.int 62), (.int r3), (.ref s9), (.int j18), (.ref ba)])) st ?_
  refine own_via (g' := (mkF m 102 (own_A11 a1 ba oo lo b1 j18 0 r3 3) [(.int (r3 % (62 : Int32))), (.ref s9), (.int j18), (.ref ba)])) (fun t_ k_ => iremM (g := (mkF m 101 (own_A11 a1 ba oo lo b1 j18 0 r3 3) [(.int 62), (.int r3), (.ref s9), (.int j18), (.ref ba)])) X hx rfl (hb hby ep7m5_d101) rfl (by decide) k_) ?_
  have hdg := (own_62 hr3 hz3).1.trans (own_w3 hM1)
  have hcg := own_chr hdg (own_dB M 3)
  obtain ⟨cq, kq, qa, qb, qc⟩ := isOf hZ eT E_s9
  obtain ⟨_, _, ⟨T, Lq, kq, nq⟩, -, X, ⟨Lc, hQ, lq, yq, zq⟩, st⟩ := X.virtualBack hx (y := own_y7) (z := own_y7) hown (mvT hZ (hw _ (own_w 46 rfl))) (mvT hZ (hw _ (own_w 47 rfl))) (notFace_of_selects (args := #[]) (mvT hZ (hw _ (own_w 49 rfl)))) (mvT hZ (hw _ (own_w 49 rfl))) (mvT hZ (hw _ (own_w 48 rfl))) (by decide) (backOf (W := 2) (own_charAt l Z a0 hw [] s9 (r3 % (62 : Int32)) sa ksa (62 : Int32) own_AV (own_al (own_d M 3)) zc vS h11 n0 O E_s9 F_value_s9 F_coder_s9 V_sa S_C hzc hcg.1 hcg.2 S_S hvS) hZ (hw _ (own_w 50 rfl)) (hw _ (own_w 38 rfl)) (by decide) (by decide)) qa qc (g := (mkF m 102 (own_A11 a1 ba oo lo b1 j18 0 r3 3) [(.int (r3 % (62 : Int32))), (.ref s9), (.int j18), (.ref ba)])) rfl (by rw [hml]; rfl) (Steps.refl _) (argsL := [(.int (r3 % (62 : Int32)))]) (rest := [(.int j18), (.ref ba)]) (lenOf own_pd7 rfl) rfl (by show 2 * 0 + _ ≤ _; exact Nat.le_of_eq rfl) (hb hby ep7m5_d102) (fun _ _ => ⟨rfl, eT, (by decide : 3 + 0 ≤ _), (by decide : 256 + 0 ≤ _)⟩)
  dsimp only [Pt.U, Pt.locs, Pt.cells, Pt.slots] at X lq yq zq st hQ
  rw [lq, yq, zq] at X
  obtain ⟨rfl, Nq, eT⟩ := hQ
  replace N := Fr.app N Nq
  refine own_viaT (g' := (mkF m 105 (own_A11 a1 ba oo lo b1 j18 0 r3 3) [(.int ((own_al (own_d M 3)) &&& (255 : Int32))), (.int j18), (.ref ba)])) st ?_
  rw [own_al255 (own_dB M 3)]
  refine own_via (g' := (mkF m 106 (own_A11 a1 ba oo lo b1 j18 0 r3 3) [(.int ((own_al (own_d M 3)).toInt8.toInt32)), (.int j18), (.ref ba)])) (fun t_ k_ => XS.i2b X.here hx rfl (hb hby ep7m5_d105) rfl k_) ?_
  rw [own_alb (own_dB M 3)]
  have hat := own_at2 hj18 hno (by decide)
  obtain ⟨cl_, Ar_, qk_, Sz_, Nn_, Hs_, Gs_⟩ := id V_ba
  have hin_ : ¬ (j18 < 0 ∨ cl_.slots.size ≤ (j18).toNatClampNeg) := inb_of Sz_ hat.1
  obtain ⟨T, h12, X, eT, W, st⟩ := stB X hx hZ eT Ar_ (j := j18) hin_ (g := (mkF m 106 (own_A11 a1 ba oo lo b1 j18 0 r3 3) [(.int (own_al (own_d M 3))), (.int j18), (.ref ba)])) rfl rfl (hb hby ep7m5_d106)
  replace V_ba : Arv Z h12 ba kb_ .byte (26 : Int32) ((own_pre no M 3).set (no + 18) (Value.int (((own_al (own_d M 3))).toInt8.toInt32))) (.int 0) := Arv.set Ar_ qk_ Sz_ Nn_ Hs_ Gs_ (fits_nar_byte _) W (no + 18) hat.2 (own_preI M hno (by decide) (by decide))
  have So := S_ba
  replace E_ba := E_ba.wr W
  replace E_b1 := E_b1.wr W
  replace V_b1 := V_b1.other W (Ne.symm ne_ba_b1)
  replace E_s9 := E_s9.wr W
  replace F_coder_s9 := F_coder_s9.other W (Or.inl (Ne.symm ne_ba_s9))
  replace F_value_s9 := F_value_s9.other W (Or.inl (Ne.symm ne_ba_s9))
  replace V_sa := V_sa.other W (Ne.symm ne_ba_sa)
  replace O := O.wr W g_ba
  replace K0 := K0.wr W (Or.inl (List.mem_of_getElem? (i := 0) rfl))
  replace N := Fr.snoc X N g_ba
  replace hk := Nat.le_trans hk (own_wrSz W)
  replace S_ba := Safe.wr W So H.1 S_ba
  replace S_b1 := Safe.wr W So H.1 S_b1
  replace H := H.trans (CHr.wr W So H.1)
  refine own_via (g' := (mkF m 107 (own_A11 a1 ba oo lo b1 j18 0 r3 3) [])) st ?_
  rw [own_alb (own_dB M 3)] at V_ba
  replace V_ba : Arv Z h12 ba kb_ .byte (26 : Int32) (own_pre no M 4) (.int 0) := by rw [show own_pre no M 4 = (own_pre no M 3).set (no + 18) (Value.int (own_al (own_d M 3))) from (own_preS (by decide)).symm]; exact V_ba
  refine own_via (g' := (mkF m 109 (own_A11 a1 ba oo lo b1 j18 0 r3 3) [(.int r3)])) (fun t_ k_ => XS.iload X.here hx rfl (hb hby ep7m5_d107) rfl k_) ?_
  obtain ⟨T, X, eT, st⟩ := getS2 X hx hZ hown (host := "") (Or.inl (hw _ (own_w 44 rfl))) Via.refl eT (S_B.ext O.2) (g := (mkF m 109 (own_A11 a1 ba oo lo b1 j18 0 r3 3) [(.int r3)])) rfl (hb hby ep7m5_d109)
  refine own_via (g' := (mkF m 112 (own_A11 a1 ba oo lo b1 j18 0 r3 3) [(.int 62), (.int r3)])) st ?_
  refine own_via (g' := (mkF m 115 (own_A11 a1 ba oo lo b1 j18 0 (r3 / (62 : Int32)) 3) [])) (fun t_ k_ => XS.idiv X.here hx rfl (hb hby ep7m5_d112) rfl (by decide) (XS.istore X.here hx rfl (hb hby ep7m5_d113) rfl (l' := (own_A11 a1 ba oo lo b1 j18 0 (r3 / (62 : Int32)) 3)) rfl k_)) ?_
  obtain ⟨r4, hd_r4⟩ : ∃ z, z = (r3 / (62 : Int32)) := ⟨_, rfl⟩
  rw [← hd_r4]
  have hr4 : r4.toInt = (M) % 916132832 / 62 / 62 / 62 / 62 := by rw [hd_r4]; exact (own_62 hr3 hz3).2
  have hz4 : 0 ≤ (M) % 916132832 / 62 / 62 / 62 / 62 := Int.ediv_nonneg hz3 (by decide)
  refine own_via (g' := (mkF m 118 (own_A11 a1 ba oo lo b1 j18 0 r4 ((3 : Int32) + (1 : Int32))) [])) (fun t_ k_ => XS.iinc X.here hx rfl (hb hby ep7m5_d115) rfl (l' := (own_A11 a1 ba oo lo b1 j18 0 r4 ((3 : Int32) + (1 : Int32)))) rfl k_) ?_
  rw [(by decide : ((3 : Int32) + (1 : Int32)) = (4 : Int32))]
  refine own_via (g' := (mkF m 92 (own_A11 a1 ba oo lo b1 (j18 + (-1 : Int32)) 0 r4 4) [(.ref ba)])) (fun t_ k_ => XS.goto X.here hx rfl (pc0 := 118) (pc' := 82) rfl (hb hby ep7m5_d118) (by decide) (by decide) (XS.iload X.here hx rfl (hb hby ep7m5_d82) rfl (XS.iconst X.here hx rfl (hb hby ep7m5_d84) (XS.icmpNo X.here hx rfl (hb hby ep7m5_d85) rfl (tlt (by decide : (4 : Int32) < (5 : Int32))).2.1 (XS.aloadN X.here hx rfl (hb hby ep7m5_d88) rfl rfl (XS.iinc X.here hx rfl (hb hby ep7m5_d89) rfl (l' := (own_A11 a1 ba oo lo b1 (j18 + (-1 : Int32)) 0 r4 4)) rfl k_)))))) ?_
  obtain ⟨j17, hd_j17⟩ : ∃ z, z = (j18 + (-1 : Int32)) := ⟨_, rfl⟩
  rw [← hd_j17]
  have hj17 : j17.toInt = ((no + 17 : Nat) : Int) := by rw [hd_j17]; exact own_dec2 hj18
  refine own_via (g' := (mkF m 98 (own_A11 a1 ba oo lo b1 j17 0 r4 4) [(.int r4), (.ref s9), (.int j17), (.ref ba)])) (fun t_ k_ => XS.iload X.here hx rfl (hb hby ep7m5_d92) rfl (ldcAgain X hx hZ hown (hw _ (own_w 37 rfl)) hLit (g := (mkF m 94 (own_A11 a1 ba oo lo b1 j17 0 r4 4) [(.int j17), (.ref ba)])) rfl (hb hby ep7m5_d94) _ (XS.iload X.here hx rfl (hb hby ep7m5_d96) rfl k_))) ?_
  obtain ⟨T, X, eT, st⟩ := getS2 X hx hZ hown (host := "") (Or.inl (hw _ (own_w 44 rfl))) Via.refl eT (S_B.ext O.2) (g := (mkF m 98 (own_A11 a1 ba oo lo b1 j17 0 r4 4) [(.int r4), (.ref s9), (.int j17), (.ref ba)])) rfl (hb hby ep7m5_d98)
  refine own_via (g' := (mkF m 101 (own_A11 a1 ba oo lo b1 j17 0 r4 4) [(.int 62), (.int r4), (.ref s9), (.int j17), (.ref ba)])) st ?_
  refine own_via (g' := (mkF m 102 (own_A11 a1 ba oo lo b1 j17 0 r4 4) [(.int (r4 % (62 : Int32))), (.ref s9), (.int j17), (.ref ba)])) (fun t_ k_ => iremM (g := (mkF m 101 (own_A11 a1 ba oo lo b1 j17 0 r4 4) [(.int 62), (.int r4), (.ref s9), (.int j17), (.ref ba)])) X hx rfl (hb hby ep7m5_d101) rfl (by decide) k_) ?_
  have hdg := (own_62 hr4 hz4).1.trans (own_w4 hM1)
  have hcg := own_chr hdg (own_dB M 4)
  obtain ⟨cq, kq, qa, qb, qc⟩ := isOf hZ eT E_s9
  obtain ⟨_, _, ⟨T, Lq, kq, nq⟩, -, X, ⟨Lc, hQ, lq, yq, zq⟩, st⟩ := X.virtualBack hx (y := own_y7) (z := own_y7) hown (mvT hZ (hw _ (own_w 46 rfl))) (mvT hZ (hw _ (own_w 47 rfl))) (notFace_of_selects (args := #[]) (mvT hZ (hw _ (own_w 49 rfl)))) (mvT hZ (hw _ (own_w 49 rfl))) (mvT hZ (hw _ (own_w 48 rfl))) (by decide) (backOf (W := 2) (own_charAt l Z a0 hw [] s9 (r4 % (62 : Int32)) sa ksa (62 : Int32) own_AV (own_al (own_d M 4)) zc vS h12 n0 O E_s9 F_value_s9 F_coder_s9 V_sa S_C hzc hcg.1 hcg.2 S_S hvS) hZ (hw _ (own_w 50 rfl)) (hw _ (own_w 38 rfl)) (by decide) (by decide)) qa qc (g := (mkF m 102 (own_A11 a1 ba oo lo b1 j17 0 r4 4) [(.int (r4 % (62 : Int32))), (.ref s9), (.int j17), (.ref ba)])) rfl (by rw [hml]; rfl) (Steps.refl _) (argsL := [(.int (r4 % (62 : Int32)))]) (rest := [(.int j17), (.ref ba)]) (lenOf own_pd7 rfl) rfl (by show 2 * 0 + _ ≤ _; exact Nat.le_of_eq rfl) (hb hby ep7m5_d102) (fun _ _ => ⟨rfl, eT, (by decide : 3 + 0 ≤ _), (by decide : 256 + 0 ≤ _)⟩)
  dsimp only [Pt.U, Pt.locs, Pt.cells, Pt.slots] at X lq yq zq st hQ
  rw [lq, yq, zq] at X
  obtain ⟨rfl, Nq, eT⟩ := hQ
  replace N := Fr.app N Nq
  refine own_viaT (g' := (mkF m 105 (own_A11 a1 ba oo lo b1 j17 0 r4 4) [(.int ((own_al (own_d M 4)) &&& (255 : Int32))), (.int j17), (.ref ba)])) st ?_
  rw [own_al255 (own_dB M 4)]
  refine own_via (g' := (mkF m 106 (own_A11 a1 ba oo lo b1 j17 0 r4 4) [(.int ((own_al (own_d M 4)).toInt8.toInt32)), (.int j17), (.ref ba)])) (fun t_ k_ => XS.i2b X.here hx rfl (hb hby ep7m5_d105) rfl k_) ?_
  rw [own_alb (own_dB M 4)]
  have hat := own_at2 hj17 hno (by decide)
  obtain ⟨cl_, Ar_, qk_, Sz_, Nn_, Hs_, Gs_⟩ := id V_ba
  have hin_ : ¬ (j17 < 0 ∨ cl_.slots.size ≤ (j17).toNatClampNeg) := inb_of Sz_ hat.1
  obtain ⟨T, h13, X, eT, W, st⟩ := stB X hx hZ eT Ar_ (j := j17) hin_ (g := (mkF m 106 (own_A11 a1 ba oo lo b1 j17 0 r4 4) [(.int (own_al (own_d M 4))), (.int j17), (.ref ba)])) rfl rfl (hb hby ep7m5_d106)
  replace V_ba : Arv Z h13 ba kb_ .byte (26 : Int32) ((own_pre no M 4).set (no + 17) (Value.int (((own_al (own_d M 4))).toInt8.toInt32))) (.int 0) := Arv.set Ar_ qk_ Sz_ Nn_ Hs_ Gs_ (fits_nar_byte _) W (no + 17) hat.2 (own_preI M hno (by decide) (by decide))
  have So := S_ba
  replace E_ba := E_ba.wr W
  replace E_b1 := E_b1.wr W
  replace V_b1 := V_b1.other W (Ne.symm ne_ba_b1)
  replace E_s9 := E_s9.wr W
  replace F_coder_s9 := F_coder_s9.other W (Or.inl (Ne.symm ne_ba_s9))
  replace F_value_s9 := F_value_s9.other W (Or.inl (Ne.symm ne_ba_s9))
  replace V_sa := V_sa.other W (Ne.symm ne_ba_sa)
  replace O := O.wr W g_ba
  replace K0 := K0.wr W (Or.inl (List.mem_of_getElem? (i := 0) rfl))
  replace N := Fr.snoc X N g_ba
  replace hk := Nat.le_trans hk (own_wrSz W)
  replace S_ba := Safe.wr W So H.1 S_ba
  replace S_b1 := Safe.wr W So H.1 S_b1
  replace H := H.trans (CHr.wr W So H.1)
  refine own_via (g' := (mkF m 107 (own_A11 a1 ba oo lo b1 j17 0 r4 4) [])) st ?_
  rw [own_alb (own_dB M 4)] at V_ba
  replace V_ba : Arv Z h13 ba kb_ .byte (26 : Int32) (own_pre no M 5) (.int 0) := by rw [show own_pre no M 5 = (own_pre no M 4).set (no + 17) (Value.int (own_al (own_d M 4))) from (own_preS (by decide)).symm]; exact V_ba
  refine own_via (g' := (mkF m 109 (own_A11 a1 ba oo lo b1 j17 0 r4 4) [(.int r4)])) (fun t_ k_ => XS.iload X.here hx rfl (hb hby ep7m5_d107) rfl k_) ?_
  obtain ⟨T, X, eT, st⟩ := getS2 X hx hZ hown (host := "") (Or.inl (hw _ (own_w 44 rfl))) Via.refl eT (S_B.ext O.2) (g := (mkF m 109 (own_A11 a1 ba oo lo b1 j17 0 r4 4) [(.int r4)])) rfl (hb hby ep7m5_d109)
  refine own_via (g' := (mkF m 112 (own_A11 a1 ba oo lo b1 j17 0 r4 4) [(.int 62), (.int r4)])) st ?_
  refine own_via (g' := (mkF m 115 (own_A11 a1 ba oo lo b1 j17 0 (r4 / (62 : Int32)) 4) [])) (fun t_ k_ => XS.idiv X.here hx rfl (hb hby ep7m5_d112) rfl (by decide) (XS.istore X.here hx rfl (hb hby ep7m5_d113) rfl (l' := (own_A11 a1 ba oo lo b1 j17 0 (r4 / (62 : Int32)) 4)) rfl k_)) ?_
  obtain ⟨u5, hd_u5⟩ : ∃ z, z = (r4 / (62 : Int32)) := ⟨_, rfl⟩
  rw [← hd_u5]
  refine own_via (g' := (mkF m 118 (own_A11 a1 ba oo lo b1 j17 0 u5 ((4 : Int32) + (1 : Int32))) [])) (fun t_ k_ => XS.iinc X.here hx rfl (hb hby ep7m5_d115) rfl (l' := (own_A11 a1 ba oo lo b1 j17 0 u5 ((4 : Int32) + (1 : Int32)))) rfl k_) ?_
  rw [(by decide : ((4 : Int32) + (1 : Int32)) = (5 : Int32))]
  refine own_via (g' := (mkF m 124 (own_A11 a1 ba oo lo b1 j17 ((0 : Int32) + (1 : Int32)) u5 5) [])) (fun t_ k_ => XS.goto X.here hx rfl (pc0 := 118) (pc' := 82) rfl (hb hby ep7m5_d118) (by decide) (by decide) (XS.iload X.here hx rfl (hb hby ep7m5_d82) rfl (XS.iconst X.here hx rfl (hb hby ep7m5_d84) (XS.icmpYes X.here hx rfl (pc0 := 85) (pc' := 121) rfl (hb hby ep7m5_d85) rfl (flt (by decide : ¬ ((5 : Int32) < (5 : Int32)))).2.1 (by decide) (by decide) (XS.iinc X.here hx rfl (hb hby ep7m5_d121) rfl (l' := (own_A11 a1 ba oo lo b1 j17 ((0 : Int32) + (1 : Int32)) u5 5)) rfl k_))))) ?_
  rw [(by decide : ((0 : Int32) + (1 : Int32)) = (1 : Int32))]
  refine own_via (g' := (mkF m 74 (own_A11 a1 ba oo lo b1 j17 1 u5 5) [(.int 916132832), (.ref b1)])) (fun t_ k_ => XS.goto X.here hx rfl (pc0 := 124) (pc' := 64) rfl (hb hby ep7m5_d124) (by decide) (by decide) (XS.iload X.here hx rfl (hb hby ep7m5_d64) rfl (XS.iconst X.here hx rfl (hb hby ep7m5_d66) (XS.icmpNo X.here hx rfl (hb hby ep7m5_d67) rfl (tlt (by decide : (1 : Int32) < (4 : Int32))).2.1 (XS.aload X.here hx rfl (hb hby ep7m5_d70) rfl rfl (X.ldcInt hx hown (mvT hZ (hw _ (own_w 33 rfl))) (g := (mkF m 72 (own_A11 a1 ba oo lo b1 j17 1 u5 5) [(.ref b1)])) rfl (hb hby ep7m5_d72) _ k_)))))) ?_
  obtain ⟨_, _, ⟨T, Lq, kq, nq⟩, -, X, ⟨Lc, hQ, lq, yq, zq⟩, st⟩ := Jvm.LawKit.callS X hx (y := own_y6) hown (mvT hZ (hw _ (own_w 34 rfl))) (mvT hZ (hw _ (own_w 35 rfl))) (mvT hZ (hw _ (own_w 5 rfl))) (mvT hZ (hw _ (own_w 36 rfl))) (by decide) (backOf (W := 0) (own_divide l Z a0 hw [] b1 kb1 y1_0 y1_1 y1_2 y1_3 (M / 916132832) h13 n0 O E_b1 V_b1 g_b1 hL1) hZ (hw _ (own_w 36 rfl)) (hw _ (own_w 5 rfl)) (by decide) (by decide)) (g := (mkF m 74 (own_A11 a1 ba oo lo b1 j17 1 u5 5) [(.int 916132832), (.ref b1)])) rfl (by rw [hml]; rfl) (argsL := [(.ref b1), (.int 916132832)]) (rest := []) (lenOf own_pd6 rfl) rfl (by show 2 * 0 + _ ≤ _; exact Nat.le_of_eq rfl) (hb hby ep7m5_d74) (fun _ _ => ⟨rfl, eT, (by decide : 3 + 0 ≤ _), (by decide : 256 + 0 ≤ _)⟩)
  dsimp only [Pt.U, Pt.locs, Pt.cells, Pt.slots] at X lq yq zq st hQ
  rw [lq, yq, zq] at X
  obtain ⟨y2_0, y2_1, y2_2, y2_3, r5, rfl, Nq, Kq, V_b1, hL2, hr5⟩ := hQ
  replace N := Fr.app N Nq
  obtain ⟨h14, eT⟩ : ∃ z, T.heap = z := ⟨_, rfl⟩
  rw [eT] at Kq V_b1
  have So : ∀ x ∈ [b1], Safe Z own_EL _ h13 x := (allS S_b1 all0)
  replace E_ba := E_ba.keep Kq
  replace V_ba := V_ba.keep Kq (ninS ne_ba_b1 nin0)
  replace E_b1 := E_b1.keep Kq
  replace E_s9 := E_s9.keep Kq
  replace F_coder_s9 := F_coder_s9.keep Kq (ninS (Ne.symm ne_b1_s9) nin0)
  replace F_value_s9 := F_value_s9.keep Kq (ninS (Ne.symm ne_b1_s9) nin0)
  replace V_sa := V_sa.keep Kq (ninS (Ne.symm ne_b1_sa) nin0)
  replace O := O.keep Kq (allS g_b1 all0)
  replace K0 := K0.trans Kq (allS (Or.inr sz_b1) all0)
  replace hk := Nat.le_trans hk Kq.1
  replace S_ba := Safe.keep Kq So H.1 S_ba
  replace S_b1 := Safe.keep Kq So H.1 S_b1
  replace H := H.trans (CHr.keep Kq So H.1)
  refine own_via (g' := (mkF m 77 (own_A11 a1 ba oo lo b1 j17 1 u5 5) [(.int r5)])) st ?_
  have hz5 : 0 ≤ (M / 916132832) % 916132832 := Int.emod_nonneg _ (by decide)
  refine own_via (g' := (mkF m 92 (own_A11 a1 ba oo lo b1 (j17 + (-1 : Int32)) 1 r5 0) [(.ref ba)])) (fun t_ k_ => XS.istore X.here hx rfl (hb hby ep7m5_d77) rfl (l' := #[.val (.ref a1), .val (.ref ba), .val (.int oo), .val (.long lo), .second, .val (.ref b1), .val (.int j17), .val (.int 1), .val (.int r5), .val (.int 5)]) rfl (XS.iconst X.here hx rfl (hb hby ep7m5_d79) (XS.istore X.here hx rfl (hb hby ep7m5_d80) rfl (l' := #[.val (.ref a1), .val (.ref ba), .val (.int oo), .val (.long lo), .second, .val (.ref b1), .val (.int j17), .val (.int 1), .val (.int r5), .val (.int 0)]) rfl (XS.iload X.here hx rfl (hb hby ep7m5_d82) rfl (XS.iconst X.here hx rfl (hb hby ep7m5_d84) (XS.icmpNo X.here hx rfl (hb hby ep7m5_d85) rfl (tlt (by decide : (0 : Int32) < (5 : Int32))).2.1 (XS.aloadN X.here hx rfl (hb hby ep7m5_d88) rfl rfl (XS.iinc X.here hx rfl (hb hby ep7m5_d89) rfl (l' := (own_A11 a1 ba oo lo b1 (j17 + (-1 : Int32)) 1 r5 0)) rfl k_)))))))) ?_
  obtain ⟨j16, hd_j16⟩ : ∃ z, z = (j17 + (-1 : Int32)) := ⟨_, rfl⟩
  rw [← hd_j16]
  have hj16 : j16.toInt = ((no + 16 : Nat) : Int) := by rw [hd_j16]; exact own_dec2 hj17
  refine own_via (g' := (mkF m 98 (own_A11 a1 ba oo lo b1 j16 1 r5 0) [(.int r5), (.ref s9), (.int j16), (.ref ba)])) (fun t_ k_ => XS.iload X.here hx rfl (hb hby ep7m5_d92) rfl (ldcAgain X hx hZ hown (hw _ (own_w 37 rfl)) hLit (g := (mkF m 94 (own_A11 a1 ba oo lo b1 j16 1 r5 0) [(.int j16), (.ref ba)])) rfl (hb hby ep7m5_d94) _ (XS.iload X.here hx rfl (hb hby ep7m5_d96) rfl k_))) ?_
  obtain ⟨T, X, eT, st⟩ := getS2 X hx hZ hown (host := "") (Or.inl (hw _ (own_w 44 rfl))) Via.refl eT (S_B.ext O.2) (g := (mkF m 98 (own_A11 a1 ba oo lo b1 j16 1 r5 0) [(.int r5), (.ref s9), (.int j16), (.ref ba)])) rfl (hb hby ep7m5_d98)
  refine own_via (g' := (mkF m 101 (own_A11 a1 ba oo lo b1 j16 1 r5 0) [(.int 62), (.int r5), (.ref s9), (.int j16), (.ref ba)])) st ?_
  refine own_via (g' := (mkF m 102 (own_A11 a1 ba oo lo b1 j16 1 r5 0) [(.int (r5 % (62 : Int32))), (.ref s9), (.int j16), (.ref ba)])) (fun t_ k_ => iremM (g := (mkF m 101 (own_A11 a1 ba oo lo b1 j16 1 r5 0) [(.int 62), (.int r5), (.ref s9), (.int j16), (.ref ba)])) X hx rfl (hb hby ep7m5_d101) rfl (by decide) k_) ?_
  have hdg := (own_62 hr5 hz5).1.trans (own_w5 hM1)
  have hcg := own_chr hdg (own_dB M 5)
  obtain ⟨cq, kq, qa, qb, qc⟩ := isOf hZ eT E_s9
  obtain ⟨_, _, ⟨T, Lq, kq, nq⟩, -, X, ⟨Lc, hQ, lq, yq, zq⟩, st⟩ := X.virtualBack hx (y := own_y7) (z := own_y7) hown (mvT hZ (hw _ (own_w 46 rfl))) (mvT hZ (hw _ (own_w 47 rfl))) (notFace_of_selects (args := #[]) (mvT hZ (hw _ (own_w 49 rfl)))) (mvT hZ (hw _ (own_w 49 rfl))) (mvT hZ (hw _ (own_w 48 rfl))) (by decide) (backOf (W := 2) (own_charAt l Z a0 hw [] s9 (r5 % (62 : Int32)) sa ksa (62 : Int32) own_AV (own_al (own_d M 5)) zc vS h14 n0 O E_s9 F_value_s9 F_coder_s9 V_sa S_C hzc hcg.1 hcg.2 S_S hvS) hZ (hw _ (own_w 50 rfl)) (hw _ (own_w 38 rfl)) (by decide) (by decide)) qa qc (g := (mkF m 102 (own_A11 a1 ba oo lo b1 j16 1 r5 0) [(.int (r5 % (62 : Int32))), (.ref s9), (.int j16), (.ref ba)])) rfl (by rw [hml]; rfl) (Steps.refl _) (argsL := [(.int (r5 % (62 : Int32)))]) (rest := [(.int j16), (.ref ba)]) (lenOf own_pd7 rfl) rfl (by show 2 * 0 + _ ≤ _; exact Nat.le_of_eq rfl) (hb hby ep7m5_d102) (fun _ _ => ⟨rfl, eT, (by decide : 3 + 0 ≤ _), (by decide : 256 + 0 ≤ _)⟩)
  dsimp only [Pt.U, Pt.locs, Pt.cells, Pt.slots] at X lq yq zq st hQ
  rw [lq, yq, zq] at X
  obtain ⟨rfl, Nq, eT⟩ := hQ
  replace N := Fr.app N Nq
  refine own_viaT (g' := (mkF m 105 (own_A11 a1 ba oo lo b1 j16 1 r5 0) [(.int ((own_al (own_d M 5)) &&& (255 : Int32))), (.int j16), (.ref ba)])) st ?_
  rw [own_al255 (own_dB M 5)]
  refine own_via (g' := (mkF m 106 (own_A11 a1 ba oo lo b1 j16 1 r5 0) [(.int ((own_al (own_d M 5)).toInt8.toInt32)), (.int j16), (.ref ba)])) (fun t_ k_ => XS.i2b X.here hx rfl (hb hby ep7m5_d105) rfl k_) ?_
  rw [own_alb (own_dB M 5)]
  have hat := own_at2 hj16 hno (by decide)
  obtain ⟨cl_, Ar_, qk_, Sz_, Nn_, Hs_, Gs_⟩ := id V_ba
  have hin_ : ¬ (j16 < 0 ∨ cl_.slots.size ≤ (j16).toNatClampNeg) := inb_of Sz_ hat.1
  obtain ⟨T, h15, X, eT, W, st⟩ := stB X hx hZ eT Ar_ (j := j16) hin_ (g := (mkF m 106 (own_A11 a1 ba oo lo b1 j16 1 r5 0) [(.int (own_al (own_d M 5))), (.int j16), (.ref ba)])) rfl rfl (hb hby ep7m5_d106)
  replace V_ba : Arv Z h15 ba kb_ .byte (26 : Int32) ((own_pre no M 5).set (no + 16) (Value.int (((own_al (own_d M 5))).toInt8.toInt32))) (.int 0) := Arv.set Ar_ qk_ Sz_ Nn_ Hs_ Gs_ (fits_nar_byte _) W (no + 16) hat.2 (own_preI M hno (by decide) (by decide))
  have So := S_ba
  replace E_ba := E_ba.wr W
  replace E_b1 := E_b1.wr W
  replace V_b1 := V_b1.other W (Ne.symm ne_ba_b1)
  replace E_s9 := E_s9.wr W
  replace F_coder_s9 := F_coder_s9.other W (Or.inl (Ne.symm ne_ba_s9))
  replace F_value_s9 := F_value_s9.other W (Or.inl (Ne.symm ne_ba_s9))
  replace V_sa := V_sa.other W (Ne.symm ne_ba_sa)
  replace O := O.wr W g_ba
  replace K0 := K0.wr W (Or.inl (List.mem_of_getElem? (i := 0) rfl))
  replace N := Fr.snoc X N g_ba
  replace hk := Nat.le_trans hk (own_wrSz W)
  replace S_ba := Safe.wr W So H.1 S_ba
  replace S_b1 := Safe.wr W So H.1 S_b1
  replace H := H.trans (CHr.wr W So H.1)
  refine own_via (g' := (mkF m 107 (own_A11 a1 ba oo lo b1 j16 1 r5 0) [])) st ?_
  rw [own_alb (own_dB M 5)] at V_ba
  replace V_ba : Arv Z h15 ba kb_ .byte (26 : Int32) (own_pre no M 6) (.int 0) := by rw [show own_pre no M 6 = (own_pre no M 5).set (no + 16) (Value.int (own_al (own_d M 5))) from (own_preS (by decide)).symm]; exact V_ba
  refine own_via (g' := (mkF m 109 (own_A11 a1 ba oo lo b1 j16 1 r5 0) [(.int r5)])) (fun t_ k_ => XS.iload X.here hx rfl (hb hby ep7m5_d107) rfl k_) ?_
  obtain ⟨T, X, eT, st⟩ := getS2 X hx hZ hown (host := "") (Or.inl (hw _ (own_w 44 rfl))) Via.refl eT (S_B.ext O.2) (g := (mkF m 109 (own_A11 a1 ba oo lo b1 j16 1 r5 0) [(.int r5)])) rfl (hb hby ep7m5_d109)
  refine own_via (g' := (mkF m 112 (own_A11 a1 ba oo lo b1 j16 1 r5 0) [(.int 62), (.int r5)])) st ?_
  refine own_via (g' := (mkF m 115 (own_A11 a1 ba oo lo b1 j16 1 (r5 / (62 : Int32)) 0) [])) (fun t_ k_ => XS.idiv X.here hx rfl (hb hby ep7m5_d112) rfl (by decide) (XS.istore X.here hx rfl (hb hby ep7m5_d113) rfl (l' := (own_A11 a1 ba oo lo b1 j16 1 (r5 / (62 : Int32)) 0)) rfl k_)) ?_
  obtain ⟨r6, hd_r6⟩ : ∃ z, z = (r5 / (62 : Int32)) := ⟨_, rfl⟩
  rw [← hd_r6]
  have hr6 : r6.toInt = (M / 916132832) % 916132832 / 62 := by rw [hd_r6]; exact (own_62 hr5 hz5).2
  have hz6 : 0 ≤ (M / 916132832) % 916132832 / 62 := Int.ediv_nonneg hz5 (by decide)
  refine own_via (g' := (mkF m 118 (own_A11 a1 ba oo lo b1 j16 1 r6 ((0 : Int32) + (1 : Int32))) [])) (fun t_ k_ => XS.iinc X.here hx rfl (hb hby ep7m5_d115) rfl (l' := (own_A11 a1 ba oo lo b1 j16 1 r6 ((0 : Int32) + (1 : Int32)))) rfl k_) ?_
  rw [(by decide : ((0 : Int32) + (1 : Int32)) = (1 : Int32))]
  refine own_via (g' := (mkF m 92 (own_A11 a1 ba oo lo b1 (j16 + (-1 : Int32)) 1 r6 1) [(.ref ba)])) (fun t_ k_ => XS.goto X.here hx rfl (pc0 := 118) (pc' := 82) rfl (hb hby ep7m5_d118) (by decide) (by decide) (XS.iload X.here hx rfl (hb hby ep7m5_d82) rfl (XS.iconst X.here hx rfl (hb hby ep7m5_d84) (XS.icmpNo X.here hx rfl (hb hby ep7m5_d85) rfl (tlt (by decide : (1 : Int32) < (5 : Int32))).2.1 (XS.aloadN X.here hx rfl (hb hby ep7m5_d88) rfl rfl (XS.iinc X.here hx rfl (hb hby ep7m5_d89) rfl (l' := (own_A11 a1 ba oo lo b1 (j16 + (-1 : Int32)) 1 r6 1)) rfl k_)))))) ?_
  obtain ⟨j15, hd_j15⟩ : ∃ z, z = (j16 + (-1 : Int32)) := ⟨_, rfl⟩
  rw [← hd_j15]
  have hj15 : j15.toInt = ((no + 15 : Nat) : Int) := by rw [hd_j15]; exact own_dec2 hj16
  refine own_via (g' := (mkF m 98 (own_A11 a1 ba oo lo b1 j15 1 r6 1) [(.int r6), (.ref s9), (.int j15), (.ref ba)])) (fun t_ k_ => XS.iload X.here hx rfl (hb hby ep7m5_d92) rfl (ldcAgain X hx hZ hown (hw _ (own_w 37 rfl)) hLit (g := (mkF m 94 (own_A11 a1 ba oo lo b1 j15 1 r6 1) [(.int j15), (.ref ba)])) rfl (hb hby ep7m5_d94) _ (XS.iload X.here hx rfl (hb hby ep7m5_d96) rfl k_))) ?_
  obtain ⟨T, X, eT, st⟩ := getS2 X hx hZ hown (host := "") (Or.inl (hw _ (own_w 44 rfl))) Via.refl eT (S_B.ext O.2) (g := (mkF m 98 (own_A11 a1 ba oo lo b1 j15 1 r6 1) [(.int r6), (.ref s9), (.int j15), (.ref ba)])) rfl (hb hby ep7m5_d98)
  refine own_via (g' := (mkF m 101 (own_A11 a1 ba oo lo b1 j15 1 r6 1) [(.int 62), (.int r6), (.ref s9), (.int j15), (.ref ba)])) st ?_
  refine own_via (g' := (mkF m 102 (own_A11 a1 ba oo lo b1 j15 1 r6 1) [(.int (r6 % (62 : Int32))), (.ref s9), (.int j15), (.ref ba)])) (fun t_ k_ => iremM (g := (mkF m 101 (own_A11 a1 ba oo lo b1 j15 1 r6 1) [(.int 62), (.int r6), (.ref s9), (.int j15), (.ref ba)])) X hx rfl (hb hby ep7m5_d101) rfl (by decide) k_) ?_
  have hdg := (own_62 hr6 hz6).1.trans (own_w6 hM1)
  have hcg := own_chr hdg (own_dB M 6)
  obtain ⟨cq, kq, qa, qb, qc⟩ := isOf hZ eT E_s9
  obtain ⟨_, _, ⟨T, Lq, kq, nq⟩, -, X, ⟨Lc, hQ, lq, yq, zq⟩, st⟩ := X.virtualBack hx (y := own_y7) (z := own_y7) hown (mvT hZ (hw _ (own_w 46 rfl))) (mvT hZ (hw _ (own_w 47 rfl))) (notFace_of_selects (args := #[]) (mvT hZ (hw _ (own_w 49 rfl)))) (mvT hZ (hw _ (own_w 49 rfl))) (mvT hZ (hw _ (own_w 48 rfl))) (by decide) (backOf (W := 2) (own_charAt l Z a0 hw [] s9 (r6 % (62 : Int32)) sa ksa (62 : Int32) own_AV (own_al (own_d M 6)) zc vS h15 n0 O E_s9 F_value_s9 F_coder_s9 V_sa S_C hzc hcg.1 hcg.2 S_S hvS) hZ (hw _ (own_w 50 rfl)) (hw _ (own_w 38 rfl)) (by decide) (by decide)) qa qc (g := (mkF m 102 (own_A11 a1 ba oo lo b1 j15 1 r6 1) [(.int (r6 % (62 : Int32))), (.ref s9), (.int j15), (.ref ba)])) rfl (by rw [hml]; rfl) (Steps.refl _) (argsL := [(.int (r6 % (62 : Int32)))]) (rest := [(.int j15), (.ref ba)]) (lenOf own_pd7 rfl) rfl (by show 2 * 0 + _ ≤ _; exact Nat.le_of_eq rfl) (hb hby ep7m5_d102) (fun _ _ => ⟨rfl, eT, (by decide : 3 + 0 ≤ _), (by decide : 256 + 0 ≤ _)⟩)
  dsimp only [Pt.U, Pt.locs, Pt.cells, Pt.slots] at X lq yq zq st hQ
  rw [lq, yq, zq] at X
  obtain ⟨rfl, Nq, eT⟩ := hQ
  replace N := Fr.app N Nq
  refine own_viaT (g' := (mkF m 105 (own_A11 a1 ba oo lo b1 j15 1 r6 1) [(.int ((own_al (own_d M 6)) &&& (255 : Int32))), (.int j15), (.ref ba)])) st ?_
  rw [own_al255 (own_dB M 6)]
  refine own_via (g' := (mkF m 106 (own_A11 a1 ba oo lo b1 j15 1 r6 1) [(.int ((own_al (own_d M 6)).toInt8.toInt32)), (.int j15), (.ref ba)])) (fun t_ k_ => XS.i2b X.here hx rfl (hb hby ep7m5_d105) rfl k_) ?_
  rw [own_alb (own_dB M 6)]
  have hat := own_at2 hj15 hno (by decide)
  obtain ⟨cl_, Ar_, qk_, Sz_, Nn_, Hs_, Gs_⟩ := id V_ba
  have hin_ : ¬ (j15 < 0 ∨ cl_.slots.size ≤ (j15).toNatClampNeg) := inb_of Sz_ hat.1
  obtain ⟨T, h16, X, eT, W, st⟩ := stB X hx hZ eT Ar_ (j := j15) hin_ (g := (mkF m 106 (own_A11 a1 ba oo lo b1 j15 1 r6 1) [(.int (own_al (own_d M 6))), (.int j15), (.ref ba)])) rfl rfl (hb hby ep7m5_d106)
  replace V_ba : Arv Z h16 ba kb_ .byte (26 : Int32) ((own_pre no M 6).set (no + 15) (Value.int (((own_al (own_d M 6))).toInt8.toInt32))) (.int 0) := Arv.set Ar_ qk_ Sz_ Nn_ Hs_ Gs_ (fits_nar_byte _) W (no + 15) hat.2 (own_preI M hno (by decide) (by decide))
  have So := S_ba
  replace E_ba := E_ba.wr W
  replace E_b1 := E_b1.wr W
  replace V_b1 := V_b1.other W (Ne.symm ne_ba_b1)
  replace E_s9 := E_s9.wr W
  replace F_coder_s9 := F_coder_s9.other W (Or.inl (Ne.symm ne_ba_s9))
  replace F_value_s9 := F_value_s9.other W (Or.inl (Ne.symm ne_ba_s9))
  replace V_sa := V_sa.other W (Ne.symm ne_ba_sa)
  replace O := O.wr W g_ba
  replace K0 := K0.wr W (Or.inl (List.mem_of_getElem? (i := 0) rfl))
  replace N := Fr.snoc X N g_ba
  replace hk := Nat.le_trans hk (own_wrSz W)
  replace S_ba := Safe.wr W So H.1 S_ba
  replace S_b1 := Safe.wr W So H.1 S_b1
  replace H := H.trans (CHr.wr W So H.1)
  refine own_via (g' := (mkF m 107 (own_A11 a1 ba oo lo b1 j15 1 r6 1) [])) st ?_
  rw [own_alb (own_dB M 6)] at V_ba
  replace V_ba : Arv Z h16 ba kb_ .byte (26 : Int32) (own_pre no M 7) (.int 0) := by rw [show own_pre no M 7 = (own_pre no M 6).set (no + 15) (Value.int (own_al (own_d M 6))) from (own_preS (by decide)).symm]; exact V_ba
  refine own_via (g' := (mkF m 109 (own_A11 a1 ba oo lo b1 j15 1 r6 1) [(.int r6)])) (fun t_ k_ => XS.iload X.here hx rfl (hb hby ep7m5_d107) rfl k_) ?_
  obtain ⟨T, X, eT, st⟩ := getS2 X hx hZ hown (host := "") (Or.inl (hw _ (own_w 44 rfl))) Via.refl eT (S_B.ext O.2) (g := (mkF m 109 (own_A11 a1 ba oo lo b1 j15 1 r6 1) [(.int r6)])) rfl (hb hby ep7m5_d109)
  refine own_via (g' := (mkF m 112 (own_A11 a1 ba oo lo b1 j15 1 r6 1) [(.int 62), (.int r6)])) st ?_
  refine own_via (g' := (mkF m 115 (own_A11 a1 ba oo lo b1 j15 1 (r6 / (62 : Int32)) 1) [])) (fun t_ k_ => XS.idiv X.here hx rfl (hb hby ep7m5_d112) rfl (by decide) (XS.istore X.here hx rfl (hb hby ep7m5_d113) rfl (l' := (own_A11 a1 ba oo lo b1 j15 1 (r6 / (62 : Int32)) 1)) rfl k_)) ?_
  obtain ⟨r7, hd_r7⟩ : ∃ z, z = (r6 / (62 : Int32)) := ⟨_, rfl⟩
  rw [← hd_r7]
  have hr7 : r7.toInt = (M / 916132832) % 916132832 / 62 / 62 := by rw [hd_r7]; exact (own_62 hr6 hz6).2
  have hz7 : 0 ≤ (M / 916132832) % 916132832 / 62 / 62 := Int.ediv_nonneg hz6 (by decide)
  refine own_via (g' := (mkF m 118 (own_A11 a1 ba oo lo b1 j15 1 r7 ((1 : Int32) + (1 : Int32))) [])) (fun t_ k_ => XS.iinc X.here hx rfl (hb hby ep7m5_d115) rfl (l' := (own_A11 a1 ba oo lo b1 j15 1 r7 ((1 : Int32) + (1 : Int32)))) rfl k_) ?_
  rw [(by decide : ((1 : Int32) + (1 : Int32)) = (2 : Int32))]
  refine own_via (g' := (mkF m 92 (own_A11 a1 ba oo lo b1 (j15 + (-1 : Int32)) 1 r7 2) [(.ref ba)])) (fun t_ k_ => XS.goto X.here hx rfl (pc0 := 118) (pc' := 82) rfl (hb hby ep7m5_d118) (by decide) (by decide) (XS.iload X.here hx rfl (hb hby ep7m5_d82) rfl (XS.iconst X.here hx rfl (hb hby ep7m5_d84) (XS.icmpNo X.here hx rfl (hb hby ep7m5_d85) rfl (tlt (by decide : (2 : Int32) < (5 : Int32))).2.1 (XS.aloadN X.here hx rfl (hb hby ep7m5_d88) rfl rfl (XS.iinc X.here hx rfl (hb hby ep7m5_d89) rfl (l' := (own_A11 a1 ba oo lo b1 (j15 + (-1 : Int32)) 1 r7 2)) rfl k_)))))) ?_
  obtain ⟨j14, hd_j14⟩ : ∃ z, z = (j15 + (-1 : Int32)) := ⟨_, rfl⟩
  rw [← hd_j14]
  have hj14 : j14.toInt = ((no + 14 : Nat) : Int) := by rw [hd_j14]; exact own_dec2 hj15
  refine own_via (g' := (mkF m 98 (own_A11 a1 ba oo lo b1 j14 1 r7 2) [(.int r7), (.ref s9), (.int j14), (.ref ba)])) (fun t_ k_ => XS.iload X.here hx rfl (hb hby ep7m5_d92) rfl (ldcAgain X hx hZ hown (hw _ (own_w 37 rfl)) hLit (g := (mkF m 94 (own_A11 a1 ba oo lo b1 j14 1 r7 2) [(.int j14), (.ref ba)])) rfl (hb hby ep7m5_d94) _ (XS.iload X.here hx rfl (hb hby ep7m5_d96) rfl k_))) ?_
  obtain ⟨T, X, eT, st⟩ := getS2 X hx hZ hown (host := "") (Or.inl (hw _ (own_w 44 rfl))) Via.refl eT (S_B.ext O.2) (g := (mkF m 98 (own_A11 a1 ba oo lo b1 j14 1 r7 2) [(.int r7), (.ref s9), (.int j14), (.ref ba)])) rfl (hb hby ep7m5_d98)
  refine own_via (g' := (mkF m 101 (own_A11 a1 ba oo lo b1 j14 1 r7 2) [(.int 62), (.int r7), (.ref s9), (.int j14), (.ref ba)])) st ?_
  refine own_via (g' := (mkF m 102 (own_A11 a1 ba oo lo b1 j14 1 r7 2) [(.int (r7 % (62 : Int32))), (.ref s9), (.int j14), (.ref ba)])) (fun t_ k_ => iremM (g := (mkF m 101 (own_A11 a1 ba oo lo b1 j14 1 r7 2) [(.int 62), (.int r7), (.ref s9), (.int j14), (.ref ba)])) X hx rfl (hb hby ep7m5_d101) rfl (by decide) k_) ?_
  have hdg := (own_62 hr7 hz7).1.trans (own_w7 hM1)
  have hcg := own_chr hdg (own_dB M 7)
  obtain ⟨cq, kq, qa, qb, qc⟩ := isOf hZ eT E_s9
  obtain ⟨_, _, ⟨T, Lq, kq, nq⟩, -, X, ⟨Lc, hQ, lq, yq, zq⟩, st⟩ := X.virtualBack hx (y := own_y7) (z := own_y7) hown (mvT hZ (hw _ (own_w 46 rfl))) (mvT hZ (hw _ (own_w 47 rfl))) (notFace_of_selects (args := #[]) (mvT hZ (hw _ (own_w 49 rfl)))) (mvT hZ (hw _ (own_w 49 rfl))) (mvT hZ (hw _ (own_w 48 rfl))) (by decide) (backOf (W := 2) (own_charAt l Z a0 hw [] s9 (r7 % (62 : Int32)) sa ksa (62 : Int32) own_AV (own_al (own_d M 7)) zc vS h16 n0 O E_s9 F_value_s9 F_coder_s9 V_sa S_C hzc hcg.1 hcg.2 S_S hvS) hZ (hw _ (own_w 50 rfl)) (hw _ (own_w 38 rfl)) (by decide) (by decide)) qa qc (g := (mkF m 102 (own_A11 a1 ba oo lo b1 j14 1 r7 2) [(.int (r7 % (62 : Int32))), (.ref s9), (.int j14), (.ref ba)])) rfl (by rw [hml]; rfl) (Steps.refl _) (argsL := [(.int (r7 % (62 : Int32)))]) (rest := [(.int j14), (.ref ba)]) (lenOf own_pd7 rfl) rfl (by show 2 * 0 + _ ≤ _; exact Nat.le_of_eq rfl) (hb hby ep7m5_d102) (fun _ _ => ⟨rfl, eT, (by decide : 3 + 0 ≤ _), (by decide : 256 + 0 ≤ _)⟩)
  dsimp only [Pt.U, Pt.locs, Pt.cells, Pt.slots] at X lq yq zq st hQ
  rw [lq, yq, zq] at X
  obtain ⟨rfl, Nq, eT⟩ := hQ
  replace N := Fr.app N Nq
  refine own_viaT (g' := (mkF m 105 (own_A11 a1 ba oo lo b1 j14 1 r7 2) [(.int ((own_al (own_d M 7)) &&& (255 : Int32))), (.int j14), (.ref ba)])) st ?_
  rw [own_al255 (own_dB M 7)]
  refine own_via (g' := (mkF m 106 (own_A11 a1 ba oo lo b1 j14 1 r7 2) [(.int ((own_al (own_d M 7)).toInt8.toInt32)), (.int j14), (.ref ba)])) (fun t_ k_ => XS.i2b X.here hx rfl (hb hby ep7m5_d105) rfl k_) ?_
  rw [own_alb (own_dB M 7)]
  have hat := own_at2 hj14 hno (by decide)
  obtain ⟨cl_, Ar_, qk_, Sz_, Nn_, Hs_, Gs_⟩ := id V_ba
  have hin_ : ¬ (j14 < 0 ∨ cl_.slots.size ≤ (j14).toNatClampNeg) := inb_of Sz_ hat.1
  obtain ⟨T, h17, X, eT, W, st⟩ := stB X hx hZ eT Ar_ (j := j14) hin_ (g := (mkF m 106 (own_A11 a1 ba oo lo b1 j14 1 r7 2) [(.int (own_al (own_d M 7))), (.int j14), (.ref ba)])) rfl rfl (hb hby ep7m5_d106)
  replace V_ba : Arv Z h17 ba kb_ .byte (26 : Int32) ((own_pre no M 7).set (no + 14) (Value.int (((own_al (own_d M 7))).toInt8.toInt32))) (.int 0) := Arv.set Ar_ qk_ Sz_ Nn_ Hs_ Gs_ (fits_nar_byte _) W (no + 14) hat.2 (own_preI M hno (by decide) (by decide))
  have So := S_ba
  replace E_ba := E_ba.wr W
  replace E_b1 := E_b1.wr W
  replace V_b1 := V_b1.other W (Ne.symm ne_ba_b1)
  replace E_s9 := E_s9.wr W
  replace F_coder_s9 := F_coder_s9.other W (Or.inl (Ne.symm ne_ba_s9))
  replace F_value_s9 := F_value_s9.other W (Or.inl (Ne.symm ne_ba_s9))
  replace V_sa := V_sa.other W (Ne.symm ne_ba_sa)
  replace O := O.wr W g_ba
  replace K0 := K0.wr W (Or.inl (List.mem_of_getElem? (i := 0) rfl))
  replace N := Fr.snoc X N g_ba
  replace hk := Nat.le_trans hk (own_wrSz W)
  replace S_ba := Safe.wr W So H.1 S_ba
  replace S_b1 := Safe.wr W So H.1 S_b1
  replace H := H.trans (CHr.wr W So H.1)
  refine own_via (g' := (mkF m 107 (own_A11 a1 ba oo lo b1 j14 1 r7 2) [])) st ?_
  rw [own_alb (own_dB M 7)] at V_ba
  replace V_ba : Arv Z h17 ba kb_ .byte (26 : Int32) (own_pre no M 8) (.int 0) := by rw [show own_pre no M 8 = (own_pre no M 7).set (no + 14) (Value.int (own_al (own_d M 7))) from (own_preS (by decide)).symm]; exact V_ba
  refine own_via (g' := (mkF m 109 (own_A11 a1 ba oo lo b1 j14 1 r7 2) [(.int r7)])) (fun t_ k_ => XS.iload X.here hx rfl (hb hby ep7m5_d107) rfl k_) ?_
  obtain ⟨T, X, eT, st⟩ := getS2 X hx hZ hown (host := "") (Or.inl (hw _ (own_w 44 rfl))) Via.refl eT (S_B.ext O.2) (g := (mkF m 109 (own_A11 a1 ba oo lo b1 j14 1 r7 2) [(.int r7)])) rfl (hb hby ep7m5_d109)
  refine own_via (g' := (mkF m 112 (own_A11 a1 ba oo lo b1 j14 1 r7 2) [(.int 62), (.int r7)])) st ?_
  refine own_via (g' := (mkF m 115 (own_A11 a1 ba oo lo b1 j14 1 (r7 / (62 : Int32)) 2) [])) (fun t_ k_ => XS.idiv X.here hx rfl (hb hby ep7m5_d112) rfl (by decide) (XS.istore X.here hx rfl (hb hby ep7m5_d113) rfl (l' := (own_A11 a1 ba oo lo b1 j14 1 (r7 / (62 : Int32)) 2)) rfl k_)) ?_
  obtain ⟨r8, hd_r8⟩ : ∃ z, z = (r7 / (62 : Int32)) := ⟨_, rfl⟩
  rw [← hd_r8]
  have hr8 : r8.toInt = (M / 916132832) % 916132832 / 62 / 62 / 62 := by rw [hd_r8]; exact (own_62 hr7 hz7).2
  have hz8 : 0 ≤ (M / 916132832) % 916132832 / 62 / 62 / 62 := Int.ediv_nonneg hz7 (by decide)
  refine own_via (g' := (mkF m 118 (own_A11 a1 ba oo lo b1 j14 1 r8 ((2 : Int32) + (1 : Int32))) [])) (fun t_ k_ => XS.iinc X.here hx rfl (hb hby ep7m5_d115) rfl (l' := (own_A11 a1 ba oo lo b1 j14 1 r8 ((2 : Int32) + (1 : Int32)))) rfl k_) ?_
  rw [(by decide : ((2 : Int32) + (1 : Int32)) = (3 : Int32))]
  refine own_via (g' := (mkF m 92 (own_A11 a1 ba oo lo b1 (j14 + (-1 : Int32)) 1 r8 3) [(.ref ba)])) (fun t_ k_ => XS.goto X.here hx rfl (pc0 := 118) (pc' := 82) rfl (hb hby ep7m5_d118) (by decide) (by decide) (XS.iload X.here hx rfl (hb hby ep7m5_d82) rfl (XS.iconst X.here hx rfl (hb hby ep7m5_d84) (XS.icmpNo X.here hx rfl (hb hby ep7m5_d85) rfl (tlt (by decide : (3 : Int32) < (5 : Int32))).2.1 (XS.aloadN X.here hx rfl (hb hby ep7m5_d88) rfl rfl (XS.iinc X.here hx rfl (hb hby ep7m5_d89) rfl (l' := (own_A11 a1 ba oo lo b1 (j14 + (-1 : Int32)) 1 r8 3)) rfl k_)))))) ?_
  obtain ⟨j13, hd_j13⟩ : ∃ z, z = (j14 + (-1 : Int32)) := ⟨_, rfl⟩
  rw [← hd_j13]
  have hj13 : j13.toInt = ((no + 13 : Nat) : Int) := by rw [hd_j13]; exact own_dec2 hj14
  refine own_via (g' := (mkF m 98 (own_A11 a1 ba oo lo b1 j13 1 r8 3) [(.int r8), (.ref s9), (.int j13), (.ref ba)])) (fun t_ k_ => XS.iload X.here hx rfl (hb hby ep7m5_d92) rfl (ldcAgain X hx hZ hown (hw _ (own_w 37 rfl)) hLit (g := (mkF m 94 (own_A11 a1 ba oo lo b1 j13 1 r8 3) [(.int j13), (.ref ba)])) rfl (hb hby ep7m5_d94) _ (XS.iload X.here hx rfl (hb hby ep7m5_d96) rfl k_))) ?_
  obtain ⟨T, X, eT, st⟩ := getS2 X hx hZ hown (host := "") (Or.inl (hw _ (own_w 44 rfl))) Via.refl eT (S_B.ext O.2) (g := (mkF m 98 (own_A11 a1 ba oo lo b1 j13 1 r8 3) [(.int r8), (.ref s9), (.int j13), (.ref ba)])) rfl (hb hby ep7m5_d98)
  refine own_via (g' := (mkF m 101 (own_A11 a1 ba oo lo b1 j13 1 r8 3) [(.int 62), (.int r8), (.ref s9), (.int j13), (.ref ba)])) st ?_
  refine own_via (g' := (mkF m 102 (own_A11 a1 ba oo lo b1 j13 1 r8 3) [(.int (r8 % (62 : Int32))), (.ref s9), (.int j13), (.ref ba)])) (fun t_ k_ => iremM (g := (mkF m 101 (own_A11 a1 ba oo lo b1 j13 1 r8 3) [(.int 62), (.int r8), (.ref s9), (.int j13), (.ref ba)])) X hx rfl (hb hby ep7m5_d101) rfl (by decide) k_) ?_
  have hdg := (own_62 hr8 hz8).1.trans (own_w8 hM1)
  have hcg := own_chr hdg (own_dB M 8)
  obtain ⟨cq, kq, qa, qb, qc⟩ := isOf hZ eT E_s9
  obtain ⟨_, _, ⟨T, Lq, kq, nq⟩, -, X, ⟨Lc, hQ, lq, yq, zq⟩, st⟩ := X.virtualBack hx (y := own_y7) (z := own_y7) hown (mvT hZ (hw _ (own_w 46 rfl))) (mvT hZ (hw _ (own_w 47 rfl))) (notFace_of_selects (args := #[]) (mvT hZ (hw _ (own_w 49 rfl)))) (mvT hZ (hw _ (own_w 49 rfl))) (mvT hZ (hw _ (own_w 48 rfl))) (by decide) (backOf (W := 2) (own_charAt l Z a0 hw [] s9 (r8 % (62 : Int32)) sa ksa (62 : Int32) own_AV (own_al (own_d M 8)) zc vS h17 n0 O E_s9 F_value_s9 F_coder_s9 V_sa S_C hzc hcg.1 hcg.2 S_S hvS) hZ (hw _ (own_w 50 rfl)) (hw _ (own_w 38 rfl)) (by decide) (by decide)) qa qc (g := (mkF m 102 (own_A11 a1 ba oo lo b1 j13 1 r8 3) [(.int (r8 % (62 : Int32))), (.ref s9), (.int j13), (.ref ba)])) rfl (by rw [hml]; rfl) (Steps.refl _) (argsL := [(.int (r8 % (62 : Int32)))]) (rest := [(.int j13), (.ref ba)]) (lenOf own_pd7 rfl) rfl (by show 2 * 0 + _ ≤ _; exact Nat.le_of_eq rfl) (hb hby ep7m5_d102) (fun _ _ => ⟨rfl, eT, (by decide : 3 + 0 ≤ _), (by decide : 256 + 0 ≤ _)⟩)
  dsimp only [Pt.U, Pt.locs, Pt.cells, Pt.slots] at X lq yq zq st hQ
  rw [lq, yq, zq] at X
  obtain ⟨rfl, Nq, eT⟩ := hQ
  replace N := Fr.app N Nq
  refine own_viaT (g' := (mkF m 105 (own_A11 a1 ba oo lo b1 j13 1 r8 3) [(.int ((own_al (own_d M 8)) &&& (255 : Int32))), (.int j13), (.ref ba)])) st ?_
  rw [own_al255 (own_dB M 8)]
  refine own_via (g' := (mkF m 106 (own_A11 a1 ba oo lo b1 j13 1 r8 3) [(.int ((own_al (own_d M 8)).toInt8.toInt32)), (.int j13), (.ref ba)])) (fun t_ k_ => XS.i2b X.here hx rfl (hb hby ep7m5_d105) rfl k_) ?_
  rw [own_alb (own_dB M 8)]
  have hat := own_at2 hj13 hno (by decide)
  obtain ⟨cl_, Ar_, qk_, Sz_, Nn_, Hs_, Gs_⟩ := id V_ba
  have hin_ : ¬ (j13 < 0 ∨ cl_.slots.size ≤ (j13).toNatClampNeg) := inb_of Sz_ hat.1
  obtain ⟨T, h18, X, eT, W, st⟩ := stB X hx hZ eT Ar_ (j := j13) hin_ (g := (mkF m 106 (own_A11 a1 ba oo lo b1 j13 1 r8 3) [(.int (own_al (own_d M 8))), (.int j13), (.ref ba)])) rfl rfl (hb hby ep7m5_d106)
  replace V_ba : Arv Z h18 ba kb_ .byte (26 : Int32) ((own_pre no M 8).set (no + 13) (Value.int (((own_al (own_d M 8))).toInt8.toInt32))) (.int 0) := Arv.set Ar_ qk_ Sz_ Nn_ Hs_ Gs_ (fits_nar_byte _) W (no + 13) hat.2 (own_preI M hno (by decide) (by decide))
  have So := S_ba
  replace E_ba := E_ba.wr W
  replace E_b1 := E_b1.wr W
  replace V_b1 := V_b1.other W (Ne.symm ne_ba_b1)
  replace E_s9 := E_s9.wr W
  replace F_coder_s9 := F_coder_s9.other W (Or.inl (Ne.symm ne_ba_s9))
  replace F_value_s9 := F_value_s9.other W (Or.inl (Ne.symm ne_ba_s9))
  replace V_sa := V_sa.other W (Ne.symm ne_ba_sa)
  replace O := O.wr W g_ba
  replace K0 := K0.wr W (Or.inl (List.mem_of_getElem? (i := 0) rfl))
  replace N := Fr.snoc X N g_ba
  replace hk := Nat.le_trans hk (own_wrSz W)
  replace S_ba := Safe.wr W So H.1 S_ba
  replace S_b1 := Safe.wr W So H.1 S_b1
  replace H := H.trans (CHr.wr W So H.1)
  refine own_via (g' := (mkF m 107 (own_A11 a1 ba oo lo b1 j13 1 r8 3) [])) st ?_
  rw [own_alb (own_dB M 8)] at V_ba
  replace V_ba : Arv Z h18 ba kb_ .byte (26 : Int32) (own_pre no M 9) (.int 0) := by rw [show own_pre no M 9 = (own_pre no M 8).set (no + 13) (Value.int (own_al (own_d M 8))) from (own_preS (by decide)).symm]; exact V_ba
  refine own_via (g' := (mkF m 109 (own_A11 a1 ba oo lo b1 j13 1 r8 3) [(.int r8)])) (fun t_ k_ => XS.iload X.here hx rfl (hb hby ep7m5_d107) rfl k_) ?_
  obtain ⟨T, X, eT, st⟩ := getS2 X hx hZ hown (host := "") (Or.inl (hw _ (own_w 44 rfl))) Via.refl eT (S_B.ext O.2) (g := (mkF m 109 (own_A11 a1 ba oo lo b1 j13 1 r8 3) [(.int r8)])) rfl (hb hby ep7m5_d109)
  refine own_via (g' := (mkF m 112 (own_A11 a1 ba oo lo b1 j13 1 r8 3) [(.int 62), (.int r8)])) st ?_
  refine own_via (g' := (mkF m 115 (own_A11 a1 ba oo lo b1 j13 1 (r8 / (62 : Int32)) 3) [])) (fun t_ k_ => XS.idiv X.here hx rfl (hb hby ep7m5_d112) rfl (by decide) (XS.istore X.here hx rfl (hb hby ep7m5_d113) rfl (l' := (own_A11 a1 ba oo lo b1 j13 1 (r8 / (62 : Int32)) 3)) rfl k_)) ?_
  obtain ⟨r9, hd_r9⟩ : ∃ z, z = (r8 / (62 : Int32)) := ⟨_, rfl⟩
  rw [← hd_r9]
  have hr9 : r9.toInt = (M / 916132832) % 916132832 / 62 / 62 / 62 / 62 := by rw [hd_r9]; exact (own_62 hr8 hz8).2
  have hz9 : 0 ≤ (M / 916132832) % 916132832 / 62 / 62 / 62 / 62 := Int.ediv_nonneg hz8 (by decide)
  refine own_via (g' := (mkF m 118 (own_A11 a1 ba oo lo b1 j13 1 r9 ((3 : Int32) + (1 : Int32))) [])) (fun t_ k_ => XS.iinc X.here hx rfl (hb hby ep7m5_d115) rfl (l' := (own_A11 a1 ba oo lo b1 j13 1 r9 ((3 : Int32) + (1 : Int32)))) rfl k_) ?_
  rw [(by decide : ((3 : Int32) + (1 : Int32)) = (4 : Int32))]
  refine own_via (g' := (mkF m 92 (own_A11 a1 ba oo lo b1 (j13 + (-1 : Int32)) 1 r9 4) [(.ref ba)])) (fun t_ k_ => XS.goto X.here hx rfl (pc0 := 118) (pc' := 82) rfl (hb hby ep7m5_d118) (by decide) (by decide) (XS.iload X.here hx rfl (hb hby ep7m5_d82) rfl (XS.iconst X.here hx rfl (hb hby ep7m5_d84) (XS.icmpNo X.here hx rfl (hb hby ep7m5_d85) rfl (tlt (by decide : (4 : Int32) < (5 : Int32))).2.1 (XS.aloadN X.here hx rfl (hb hby ep7m5_d88) rfl rfl (XS.iinc X.here hx rfl (hb hby ep7m5_d89) rfl (l' := (own_A11 a1 ba oo lo b1 (j13 + (-1 : Int32)) 1 r9 4)) rfl k_)))))) ?_
  obtain ⟨j12, hd_j12⟩ : ∃ z, z = (j13 + (-1 : Int32)) := ⟨_, rfl⟩
  rw [← hd_j12]
  have hj12 : j12.toInt = ((no + 12 : Nat) : Int) := by rw [hd_j12]; exact own_dec2 hj13
  refine own_via (g' := (mkF m 98 (own_A11 a1 ba oo lo b1 j12 1 r9 4) [(.int r9), (.ref s9), (.int j12), (.ref ba)])) (fun t_ k_ => XS.iload X.here hx rfl (hb hby ep7m5_d92) rfl (ldcAgain X hx hZ hown (hw _ (own_w 37 rfl)) hLit (g := (mkF m 94 (own_A11 a1 ba oo lo b1 j12 1 r9 4) [(.int j12), (.ref ba)])) rfl (hb hby ep7m5_d94) _ (XS.iload X.here hx rfl (hb hby ep7m5_d96) rfl k_))) ?_
  obtain ⟨T, X, eT, st⟩ := getS2 X hx hZ hown (host := "") (Or.inl (hw _ (own_w 44 rfl))) Via.refl eT (S_B.ext O.2) (g := (mkF m 98 (own_A11 a1 ba oo lo b1 j12 1 r9 4) [(.int r9), (.ref s9), (.int j12), (.ref ba)])) rfl (hb hby ep7m5_d98)
  refine own_via (g' := (mkF m 101 (own_A11 a1 ba oo lo b1 j12 1 r9 4) [(.int 62), (.int r9), (.ref s9), (.int j12), (.ref ba)])) st ?_
  refine own_via (g' := (mkF m 102 (own_A11 a1 ba oo lo b1 j12 1 r9 4) [(.int (r9 % (62 : Int32))), (.ref s9), (.int j12), (.ref ba)])) (fun t_ k_ => iremM (g := (mkF m 101 (own_A11 a1 ba oo lo b1 j12 1 r9 4) [(.int 62), (.int r9), (.ref s9), (.int j12), (.ref ba)])) X hx rfl (hb hby ep7m5_d101) rfl (by decide) k_) ?_
  have hdg := (own_62 hr9 hz9).1.trans (own_w9 hM1)
  have hcg := own_chr hdg (own_dB M 9)
  obtain ⟨cq, kq, qa, qb, qc⟩ := isOf hZ eT E_s9
  obtain ⟨_, _, ⟨T, Lq, kq, nq⟩, -, X, ⟨Lc, hQ, lq, yq, zq⟩, st⟩ := X.virtualBack hx (y := own_y7) (z := own_y7) hown (mvT hZ (hw _ (own_w 46 rfl))) (mvT hZ (hw _ (own_w 47 rfl))) (notFace_of_selects (args := #[]) (mvT hZ (hw _ (own_w 49 rfl)))) (mvT hZ (hw _ (own_w 49 rfl))) (mvT hZ (hw _ (own_w 48 rfl))) (by decide) (backOf (W := 2) (own_charAt l Z a0 hw [] s9 (r9 % (62 : Int32)) sa ksa (62 : Int32) own_AV (own_al (own_d M 9)) zc vS h18 n0 O E_s9 F_value_s9 F_coder_s9 V_sa S_C hzc hcg.1 hcg.2 S_S hvS) hZ (hw _ (own_w 50 rfl)) (hw _ (own_w 38 rfl)) (by decide) (by decide)) qa qc (g := (mkF m 102 (own_A11 a1 ba oo lo b1 j12 1 r9 4) [(.int (r9 % (62 : Int32))), (.ref s9), (.int j12), (.ref ba)])) rfl (by rw [hml]; rfl) (Steps.refl _) (argsL := [(.int (r9 % (62 : Int32)))]) (rest := [(.int j12), (.ref ba)]) (lenOf own_pd7 rfl) rfl (by show 2 * 0 + _ ≤ _; exact Nat.le_of_eq rfl) (hb hby ep7m5_d102) (fun _ _ => ⟨rfl, eT, (by decide : 3 + 0 ≤ _), (by decide : 256 + 0 ≤ _)⟩)
  dsimp only [Pt.U, Pt.locs, Pt.cells, Pt.slots] at X lq yq zq st hQ
  rw [lq, yq, zq] at X
  obtain ⟨rfl, Nq, eT⟩ := hQ
  replace N := Fr.app N Nq
  refine own_viaT (g' := (mkF m 105 (own_A11 a1 ba oo lo b1 j12 1 r9 4) [(.int ((own_al (own_d M 9)) &&& (255 : Int32))), (.int j12), (.ref ba)])) st ?_
  rw [own_al255 (own_dB M 9)]
  refine own_via (g' := (mkF m 106 (own_A11 a1 ba oo lo b1 j12 1 r9 4) [(.int ((own_al (own_d M 9)).toInt8.toInt32)), (.int j12), (.ref ba)])) (fun t_ k_ => XS.i2b X.here hx rfl (hb hby ep7m5_d105) rfl k_) ?_
  rw [own_alb (own_dB M 9)]
  have hat := own_at2 hj12 hno (by decide)
  obtain ⟨cl_, Ar_, qk_, Sz_, Nn_, Hs_, Gs_⟩ := id V_ba
  have hin_ : ¬ (j12 < 0 ∨ cl_.slots.size ≤ (j12).toNatClampNeg) := inb_of Sz_ hat.1
  obtain ⟨T, h19, X, eT, W, st⟩ := stB X hx hZ eT Ar_ (j := j12) hin_ (g := (mkF m 106 (own_A11 a1 ba oo lo b1 j12 1 r9 4) [(.int (own_al (own_d M 9))), (.int j12), (.ref ba)])) rfl rfl (hb hby ep7m5_d106)
  replace V_ba : Arv Z h19 ba kb_ .byte (26 : Int32) ((own_pre no M 9).set (no + 12) (Value.int (((own_al (own_d M 9))).toInt8.toInt32))) (.int 0) := Arv.set Ar_ qk_ Sz_ Nn_ Hs_ Gs_ (fits_nar_byte _) W (no + 12) hat.2 (own_preI M hno (by decide) (by decide))
  have So := S_ba
  replace E_ba := E_ba.wr W
  replace E_b1 := E_b1.wr W
  replace V_b1 := V_b1.other W (Ne.symm ne_ba_b1)
  replace E_s9 := E_s9.wr W
  replace F_coder_s9 := F_coder_s9.other W (Or.inl (Ne.symm ne_ba_s9))
  replace F_value_s9 := F_value_s9.other W (Or.inl (Ne.symm ne_ba_s9))
  replace V_sa := V_sa.other W (Ne.symm ne_ba_sa)
  replace O := O.wr W g_ba
  replace K0 := K0.wr W (Or.inl (List.mem_of_getElem? (i := 0) rfl))
  replace N := Fr.snoc X N g_ba
  replace hk := Nat.le_trans hk (own_wrSz W)
  replace S_ba := Safe.wr W So H.1 S_ba
  replace S_b1 := Safe.wr W So H.1 S_b1
  replace H := H.trans (CHr.wr W So H.1)
  refine own_via (g' := (mkF m 107 (own_A11 a1 ba oo lo b1 j12 1 r9 4) [])) st ?_
  rw [own_alb (own_dB M 9)] at V_ba
  replace V_ba : Arv Z h19 ba kb_ .byte (26 : Int32) (own_pre no M 10) (.int 0) := by rw [show own_pre no M 10 = (own_pre no M 9).set (no + 12) (Value.int (own_al (own_d M 9))) from (own_preS (by decide)).symm]; exact V_ba
  refine own_via (g' := (mkF m 109 (own_A11 a1 ba oo lo b1 j12 1 r9 4) [(.int r9)])) (fun t_ k_ => XS.iload X.here hx rfl (hb hby ep7m5_d107) rfl k_) ?_
  obtain ⟨T, X, eT, st⟩ := getS2 X hx hZ hown (host := "") (Or.inl (hw _ (own_w 44 rfl))) Via.refl eT (S_B.ext O.2) (g := (mkF m 109 (own_A11 a1 ba oo lo b1 j12 1 r9 4) [(.int r9)])) rfl (hb hby ep7m5_d109)
  refine own_via (g' := (mkF m 112 (own_A11 a1 ba oo lo b1 j12 1 r9 4) [(.int 62), (.int r9)])) st ?_
  refine own_via (g' := (mkF m 115 (own_A11 a1 ba oo lo b1 j12 1 (r9 / (62 : Int32)) 4) [])) (fun t_ k_ => XS.idiv X.here hx rfl (hb hby ep7m5_d112) rfl (by decide) (XS.istore X.here hx rfl (hb hby ep7m5_d113) rfl (l' := (own_A11 a1 ba oo lo b1 j12 1 (r9 / (62 : Int32)) 4)) rfl k_)) ?_
  obtain ⟨u10, hd_u10⟩ : ∃ z, z = (r9 / (62 : Int32)) := ⟨_, rfl⟩
  rw [← hd_u10]
  refine own_via (g' := (mkF m 118 (own_A11 a1 ba oo lo b1 j12 1 u10 ((4 : Int32) + (1 : Int32))) [])) (fun t_ k_ => XS.iinc X.here hx rfl (hb hby ep7m5_d115) rfl (l' := (own_A11 a1 ba oo lo b1 j12 1 u10 ((4 : Int32) + (1 : Int32)))) rfl k_) ?_
  rw [(by decide : ((4 : Int32) + (1 : Int32)) = (5 : Int32))]
  refine own_via (g' := (mkF m 124 (own_A11 a1 ba oo lo b1 j12 ((1 : Int32) + (1 : Int32)) u10 5) [])) (fun t_ k_ => XS.goto X.here hx rfl (pc0 := 118) (pc' := 82) rfl (hb hby ep7m5_d118) (by decide) (by decide) (XS.iload X.here hx rfl (hb hby ep7m5_d82) rfl (XS.iconst X.here hx rfl (hb hby ep7m5_d84) (XS.icmpYes X.here hx rfl (pc0 := 85) (pc' := 121) rfl (hb hby ep7m5_d85) rfl (flt (by decide : ¬ ((5 : Int32) < (5 : Int32)))).2.1 (by decide) (by decide) (XS.iinc X.here hx rfl (hb hby ep7m5_d121) rfl (l' := (own_A11 a1 ba oo lo b1 j12 ((1 : Int32) + (1 : Int32)) u10 5)) rfl k_))))) ?_
  rw [(by decide : ((1 : Int32) + (1 : Int32)) = (2 : Int32))]
  refine own_via (g' := (mkF m 74 (own_A11 a1 ba oo lo b1 j12 2 u10 5) [(.int 916132832), (.ref b1)])) (fun t_ k_ => XS.goto X.here hx rfl (pc0 := 124) (pc' := 64) rfl (hb hby ep7m5_d124) (by decide) (by decide) (XS.iload X.here hx rfl (hb hby ep7m5_d64) rfl (XS.iconst X.here hx rfl (hb hby ep7m5_d66) (XS.icmpNo X.here hx rfl (hb hby ep7m5_d67) rfl (tlt (by decide : (2 : Int32) < (4 : Int32))).2.1 (XS.aload X.here hx rfl (hb hby ep7m5_d70) rfl rfl (X.ldcInt hx hown (mvT hZ (hw _ (own_w 33 rfl))) (g := (mkF m 72 (own_A11 a1 ba oo lo b1 j12 2 u10 5) [(.ref b1)])) rfl (hb hby ep7m5_d72) _ k_)))))) ?_
  obtain ⟨_, _, ⟨T, Lq, kq, nq⟩, -, X, ⟨Lc, hQ, lq, yq, zq⟩, st⟩ := Jvm.LawKit.callS X hx (y := own_y6) hown (mvT hZ (hw _ (own_w 34 rfl))) (mvT hZ (hw _ (own_w 35 rfl))) (mvT hZ (hw _ (own_w 5 rfl))) (mvT hZ (hw _ (own_w 36 rfl))) (by decide) (backOf (W := 0) (own_divide l Z a0 hw [] b1 kb1 y2_0 y2_1 y2_2 y2_3 (M / 916132832 / 916132832) h19 n0 O E_b1 V_b1 g_b1 hL2) hZ (hw _ (own_w 36 rfl)) (hw _ (own_w 5 rfl)) (by decide) (by decide)) (g := (mkF m 74 (own_A11 a1 ba oo lo b1 j12 2 u10 5) [(.int 916132832), (.ref b1)])) rfl (by rw [hml]; rfl) (argsL := [(.ref b1), (.int 916132832)]) (rest := []) (lenOf own_pd6 rfl) rfl (by show 2 * 0 + _ ≤ _; exact Nat.le_of_eq rfl) (hb hby ep7m5_d74) (fun _ _ => ⟨rfl, eT, (by decide : 3 + 0 ≤ _), (by decide : 256 + 0 ≤ _)⟩)
  dsimp only [Pt.U, Pt.locs, Pt.cells, Pt.slots] at X lq yq zq st hQ
  rw [lq, yq, zq] at X
  obtain ⟨y3_0, y3_1, y3_2, y3_3, r10, rfl, Nq, Kq, V_b1, hL3, hr10⟩ := hQ
  replace N := Fr.app N Nq
  obtain ⟨h20, eT⟩ : ∃ z, T.heap = z := ⟨_, rfl⟩
  rw [eT] at Kq V_b1
  have So : ∀ x ∈ [b1], Safe Z own_EL _ h19 x := (allS S_b1 all0)
  replace E_ba := E_ba.keep Kq
  replace V_ba := V_ba.keep Kq (ninS ne_ba_b1 nin0)
  replace E_b1 := E_b1.keep Kq
  replace E_s9 := E_s9.keep Kq
  replace F_coder_s9 := F_coder_s9.keep Kq (ninS (Ne.symm ne_b1_s9) nin0)
  replace F_value_s9 := F_value_s9.keep Kq (ninS (Ne.symm ne_b1_s9) nin0)
  replace V_sa := V_sa.keep Kq (ninS (Ne.symm ne_b1_sa) nin0)
  replace O := O.keep Kq (allS g_b1 all0)
  replace K0 := K0.trans Kq (allS (Or.inr sz_b1) all0)
  replace hk := Nat.le_trans hk Kq.1
  replace S_ba := Safe.keep Kq So H.1 S_ba
  replace S_b1 := Safe.keep Kq So H.1 S_b1
  replace H := H.trans (CHr.keep Kq So H.1)
  refine own_via (g' := (mkF m 77 (own_A11 a1 ba oo lo b1 j12 2 u10 5) [(.int r10)])) st ?_
  have hz10 : 0 ≤ (M / 916132832 / 916132832) % 916132832 := Int.emod_nonneg _ (by decide)
  refine own_via (g' := (mkF m 92 (own_A11 a1 ba oo lo b1 (j12 + (-1 : Int32)) 2 r10 0) [(.ref ba)])) (fun t_ k_ => XS.istore X.here hx rfl (hb hby ep7m5_d77) rfl (l' := #[.val (.ref a1), .val (.ref ba), .val (.int oo), .val (.long lo), .second, .val (.ref b1), .val (.int j12), .val (.int 2), .val (.int r10), .val (.int 5)]) rfl (XS.iconst X.here hx rfl (hb hby ep7m5_d79) (XS.istore X.here hx rfl (hb hby ep7m5_d80) rfl (l' := #[.val (.ref a1), .val (.ref ba), .val (.int oo), .val (.long lo), .second, .val (.ref b1), .val (.int j12), .val (.int 2), .val (.int r10), .val (.int 0)]) rfl (XS.iload X.here hx rfl (hb hby ep7m5_d82) rfl (XS.iconst X.here hx rfl (hb hby ep7m5_d84) (XS.icmpNo X.here hx rfl (hb hby ep7m5_d85) rfl (tlt (by decide : (0 : Int32) < (5 : Int32))).2.1 (XS.aloadN X.here hx rfl (hb hby ep7m5_d88) rfl rfl (XS.iinc X.here hx rfl (hb hby ep7m5_d89) rfl (l' := (own_A11 a1 ba oo lo b1 (j12 + (-1 : Int32)) 2 r10 0)) rfl k_)))))))) ?_
  obtain ⟨j11, hd_j11⟩ : ∃ z, z = (j12 + (-1 : Int32)) := ⟨_, rfl⟩
  rw [← hd_j11]
  have hj11 : j11.toInt = ((no + 11 : Nat) : Int) := by rw [hd_j11]; exact own_dec2 hj12
  refine own_via (g' := (mkF m 98 (own_A11 a1 ba oo lo b1 j11 2 r10 0) [(.int r10), (.ref s9), (.int j11), (.ref ba)])) (fun t_ k_ => XS.iload X.here hx rfl (hb hby ep7m5_d92) rfl (ldcAgain X hx hZ hown (hw _ (own_w 37 rfl)) hLit (g := (mkF m 94 (own_A11 a1 ba oo lo b1 j11 2 r10 0) [(.int j11), (.ref ba)])) rfl (hb hby ep7m5_d94) _ (XS.iload X.here hx rfl (hb hby ep7m5_d96) rfl k_))) ?_
  obtain ⟨T, X, eT, st⟩ := getS2 X hx hZ hown (host := "") (Or.inl (hw _ (own_w 44 rfl))) Via.refl eT (S_B.ext O.2) (g := (mkF m 98 (own_A11 a1 ba oo lo b1 j11 2 r10 0) [(.int r10), (.ref s9), (.int j11), (.ref ba)])) rfl (hb hby ep7m5_d98)
  refine own_via (g' := (mkF m 101 (own_A11 a1 ba oo lo b1 j11 2 r10 0) [(.int 62), (.int r10), (.ref s9), (.int j11), (.ref ba)])) st ?_
  refine own_via (g' := (mkF m 102 (own_A11 a1 ba oo lo b1 j11 2 r10 0) [(.int (r10 % (62 : Int32))), (.ref s9), (.int j11), (.ref ba)])) (fun t_ k_ => iremM (g := (mkF m 101 (own_A11 a1 ba oo lo b1 j11 2 r10 0) [(.int 62), (.int r10), (.ref s9), (.int j11), (.ref ba)])) X hx rfl (hb hby ep7m5_d101) rfl (by decide) k_) ?_
  have hdg := (own_62 hr10 hz10).1.trans (own_w10 hM1)
  have hcg := own_chr hdg (own_dB M 10)
  obtain ⟨cq, kq, qa, qb, qc⟩ := isOf hZ eT E_s9
  obtain ⟨_, _, ⟨T, Lq, kq, nq⟩, -, X, ⟨Lc, hQ, lq, yq, zq⟩, st⟩ := X.virtualBack hx (y := own_y7) (z := own_y7) hown (mvT hZ (hw _ (own_w 46 rfl))) (mvT hZ (hw _ (own_w 47 rfl))) (notFace_of_selects (args := #[]) (mvT hZ (hw _ (own_w 49 rfl)))) (mvT hZ (hw _ (own_w 49 rfl))) (mvT hZ (hw _ (own_w 48 rfl))) (by decide) (backOf (W := 2) (own_charAt l Z a0 hw [] s9 (r10 % (62 : Int32)) sa ksa (62 : Int32) own_AV (own_al (own_d M 10)) zc vS h20 n0 O E_s9 F_value_s9 F_coder_s9 V_sa S_C hzc hcg.1 hcg.2 S_S hvS) hZ (hw _ (own_w 50 rfl)) (hw _ (own_w 38 rfl)) (by decide) (by decide)) qa qc (g := (mkF m 102 (own_A11 a1 ba oo lo b1 j11 2 r10 0) [(.int (r10 % (62 : Int32))), (.ref s9), (.int j11), (.ref ba)])) rfl (by rw [hml]; rfl) (Steps.refl _) (argsL := [(.int (r10 % (62 : Int32)))]) (rest := [(.int j11), (.ref ba)]) (lenOf own_pd7 rfl) rfl (by show 2 * 0 + _ ≤ _; exact Nat.le_of_eq rfl) (hb hby ep7m5_d102) (fun _ _ => ⟨rfl, eT, (by decide : 3 + 0 ≤ _), (by decide : 256 + 0 ≤ _)⟩)
  dsimp only [Pt.U, Pt.locs, Pt.cells, Pt.slots] at X lq yq zq st hQ
  rw [lq, yq, zq] at X
  obtain ⟨rfl, Nq, eT⟩ := hQ
  replace N := Fr.app N Nq
  refine own_viaT (g' := (mkF m 105 (own_A11 a1 ba oo lo b1 j11 2 r10 0) [(.int ((own_al (own_d M 10)) &&& (255 : Int32))), (.int j11), (.ref ba)])) st ?_
  rw [own_al255 (own_dB M 10)]
  refine own_via (g' := (mkF m 106 (own_A11 a1 ba oo lo b1 j11 2 r10 0) [(.int ((own_al (own_d M 10)).toInt8.toInt32)), (.int j11), (.ref ba)])) (fun t_ k_ => XS.i2b X.here hx rfl (hb hby ep7m5_d105) rfl k_) ?_
  rw [own_alb (own_dB M 10)]
  have hat := own_at2 hj11 hno (by decide)
  obtain ⟨cl_, Ar_, qk_, Sz_, Nn_, Hs_, Gs_⟩ := id V_ba
  have hin_ : ¬ (j11 < 0 ∨ cl_.slots.size ≤ (j11).toNatClampNeg) := inb_of Sz_ hat.1
  obtain ⟨T, h21, X, eT, W, st⟩ := stB X hx hZ eT Ar_ (j := j11) hin_ (g := (mkF m 106 (own_A11 a1 ba oo lo b1 j11 2 r10 0) [(.int (own_al (own_d M 10))), (.int j11), (.ref ba)])) rfl rfl (hb hby ep7m5_d106)
  replace V_ba : Arv Z h21 ba kb_ .byte (26 : Int32) ((own_pre no M 10).set (no + 11) (Value.int (((own_al (own_d M 10))).toInt8.toInt32))) (.int 0) := Arv.set Ar_ qk_ Sz_ Nn_ Hs_ Gs_ (fits_nar_byte _) W (no + 11) hat.2 (own_preI M hno (by decide) (by decide))
  have So := S_ba
  replace E_ba := E_ba.wr W
  replace E_b1 := E_b1.wr W
  replace V_b1 := V_b1.other W (Ne.symm ne_ba_b1)
  replace E_s9 := E_s9.wr W
  replace F_coder_s9 := F_coder_s9.other W (Or.inl (Ne.symm ne_ba_s9))
  replace F_value_s9 := F_value_s9.other W (Or.inl (Ne.symm ne_ba_s9))
  replace V_sa := V_sa.other W (Ne.symm ne_ba_sa)
  replace O := O.wr W g_ba
  replace K0 := K0.wr W (Or.inl (List.mem_of_getElem? (i := 0) rfl))
  replace N := Fr.snoc X N g_ba
  replace hk := Nat.le_trans hk (own_wrSz W)
  replace S_ba := Safe.wr W So H.1 S_ba
  replace S_b1 := Safe.wr W So H.1 S_b1
  replace H := H.trans (CHr.wr W So H.1)
  refine own_via (g' := (mkF m 107 (own_A11 a1 ba oo lo b1 j11 2 r10 0) [])) st ?_
  rw [own_alb (own_dB M 10)] at V_ba
  replace V_ba : Arv Z h21 ba kb_ .byte (26 : Int32) (own_pre no M 11) (.int 0) := by rw [show own_pre no M 11 = (own_pre no M 10).set (no + 11) (Value.int (own_al (own_d M 10))) from (own_preS (by decide)).symm]; exact V_ba
  refine own_via (g' := (mkF m 109 (own_A11 a1 ba oo lo b1 j11 2 r10 0) [(.int r10)])) (fun t_ k_ => XS.iload X.here hx rfl (hb hby ep7m5_d107) rfl k_) ?_
  obtain ⟨T, X, eT, st⟩ := getS2 X hx hZ hown (host := "") (Or.inl (hw _ (own_w 44 rfl))) Via.refl eT (S_B.ext O.2) (g := (mkF m 109 (own_A11 a1 ba oo lo b1 j11 2 r10 0) [(.int r10)])) rfl (hb hby ep7m5_d109)
  refine own_via (g' := (mkF m 112 (own_A11 a1 ba oo lo b1 j11 2 r10 0) [(.int 62), (.int r10)])) st ?_
  refine own_via (g' := (mkF m 115 (own_A11 a1 ba oo lo b1 j11 2 (r10 / (62 : Int32)) 0) [])) (fun t_ k_ => XS.idiv X.here hx rfl (hb hby ep7m5_d112) rfl (by decide) (XS.istore X.here hx rfl (hb hby ep7m5_d113) rfl (l' := (own_A11 a1 ba oo lo b1 j11 2 (r10 / (62 : Int32)) 0)) rfl k_)) ?_
  obtain ⟨r11, hd_r11⟩ : ∃ z, z = (r10 / (62 : Int32)) := ⟨_, rfl⟩
  rw [← hd_r11]
  have hr11 : r11.toInt = (M / 916132832 / 916132832) % 916132832 / 62 := by rw [hd_r11]; exact (own_62 hr10 hz10).2
  have hz11 : 0 ≤ (M / 916132832 / 916132832) % 916132832 / 62 := Int.ediv_nonneg hz10 (by decide)
  refine own_via (g' := (mkF m 118 (own_A11 a1 ba oo lo b1 j11 2 r11 ((0 : Int32) + (1 : Int32))) [])) (fun t_ k_ => XS.iinc X.here hx rfl (hb hby ep7m5_d115) rfl (l' := (own_A11 a1 ba oo lo b1 j11 2 r11 ((0 : Int32) + (1 : Int32)))) rfl k_) ?_
  rw [(by decide : ((0 : Int32) + (1 : Int32)) = (1 : Int32))]
  refine own_via (g' := (mkF m 92 (own_A11 a1 ba oo lo b1 (j11 + (-1 : Int32)) 2 r11 1) [(.ref ba)])) (fun t_ k_ => XS.goto X.here hx rfl (pc0 := 118) (pc' := 82) rfl (hb hby ep7m5_d118) (by decide) (by decide) (XS.iload X.here hx rfl (hb hby ep7m5_d82) rfl (XS.iconst X.here hx rfl (hb hby ep7m5_d84) (XS.icmpNo X.here hx rfl (hb hby ep7m5_d85) rfl (tlt (by decide : (1 : Int32) < (5 : Int32))).2.1 (XS.aloadN X.here hx rfl (hb hby ep7m5_d88) rfl rfl (XS.iinc X.here hx rfl (hb hby ep7m5_d89) rfl (l' := (own_A11 a1 ba oo lo b1 (j11 + (-1 : Int32)) 2 r11 1)) rfl k_)))))) ?_
  obtain ⟨j10, hd_j10⟩ : ∃ z, z = (j11 + (-1 : Int32)) := ⟨_, rfl⟩
  rw [← hd_j10]
  have hj10 : j10.toInt = ((no + 10 : Nat) : Int) := by rw [hd_j10]; exact own_dec2 hj11
  refine own_via (g' := (mkF m 98 (own_A11 a1 ba oo lo b1 j10 2 r11 1) [(.int r11), (.ref s9), (.int j10), (.ref ba)])) (fun t_ k_ => XS.iload X.here hx rfl (hb hby ep7m5_d92) rfl (ldcAgain X hx hZ hown (hw _ (own_w 37 rfl)) hLit (g := (mkF m 94 (own_A11 a1 ba oo lo b1 j10 2 r11 1) [(.int j10), (.ref ba)])) rfl (hb hby ep7m5_d94) _ (XS.iload X.here hx rfl (hb hby ep7m5_d96) rfl k_))) ?_
  obtain ⟨T, X, eT, st⟩ := getS2 X hx hZ hown (host := "") (Or.inl (hw _ (own_w 44 rfl))) Via.refl eT (S_B.ext O.2) (g := (mkF m 98 (own_A11 a1 ba oo lo b1 j10 2 r11 1) [(.int r11), (.ref s9), (.int j10), (.ref ba)])) rfl (hb hby ep7m5_d98)
  refine own_via (g' := (mkF m 101 (own_A11 a1 ba oo lo b1 j10 2 r11 1) [(.int 62), (.int r11), (.ref s9), (.int j10), (.ref ba)])) st ?_
  refine own_via (g' := (mkF m 102 (own_A11 a1 ba oo lo b1 j10 2 r11 1) [(.int (r11 % (62 : Int32))), (.ref s9), (.int j10), (.ref ba)])) (fun t_ k_ => iremM (g := (mkF m 101 (own_A11 a1 ba oo lo b1 j10 2 r11 1) [(.int 62), (.int r11), (.ref s9), (.int j10), (.ref ba)])) X hx rfl (hb hby ep7m5_d101) rfl (by decide) k_) ?_
  have hdg := (own_62 hr11 hz11).1.trans (own_w11 hM1)
  have hcg := own_chr hdg (own_dB M 11)
  obtain ⟨cq, kq, qa, qb, qc⟩ := isOf hZ eT E_s9
  obtain ⟨_, _, ⟨T, Lq, kq, nq⟩, -, X, ⟨Lc, hQ, lq, yq, zq⟩, st⟩ := X.virtualBack hx (y := own_y7) (z := own_y7) hown (mvT hZ (hw _ (own_w 46 rfl))) (mvT hZ (hw _ (own_w 47 rfl))) (notFace_of_selects (args := #[]) (mvT hZ (hw _ (own_w 49 rfl)))) (mvT hZ (hw _ (own_w 49 rfl))) (mvT hZ (hw _ (own_w 48 rfl))) (by decide) (backOf (W := 2) (own_charAt l Z a0 hw [] s9 (r11 % (62 : Int32)) sa ksa (62 : Int32) own_AV (own_al (own_d M 11)) zc vS h21 n0 O E_s9 F_value_s9 F_coder_s9 V_sa S_C hzc hcg.1 hcg.2 S_S hvS) hZ (hw _ (own_w 50 rfl)) (hw _ (own_w 38 rfl)) (by decide) (by decide)) qa qc (g := (mkF m 102 (own_A11 a1 ba oo lo b1 j10 2 r11 1) [(.int (r11 % (62 : Int32))), (.ref s9), (.int j10), (.ref ba)])) rfl (by rw [hml]; rfl) (Steps.refl _) (argsL := [(.int (r11 % (62 : Int32)))]) (rest := [(.int j10), (.ref ba)]) (lenOf own_pd7 rfl) rfl (by show 2 * 0 + _ ≤ _; exact Nat.le_of_eq rfl) (hb hby ep7m5_d102) (fun _ _ => ⟨rfl, eT, (by decide : 3 + 0 ≤ _), (by decide : 256 + 0 ≤ _)⟩)
  dsimp only [Pt.U, Pt.locs, Pt.cells, Pt.slots] at X lq yq zq st hQ
  rw [lq, yq, zq] at X
  obtain ⟨rfl, Nq, eT⟩ := hQ
  replace N := Fr.app N Nq
  refine own_viaT (g' := (mkF m 105 (own_A11 a1 ba oo lo b1 j10 2 r11 1) [(.int ((own_al (own_d M 11)) &&& (255 : Int32))), (.int j10), (.ref ba)])) st ?_
  rw [own_al255 (own_dB M 11)]
  refine own_via (g' := (mkF m 106 (own_A11 a1 ba oo lo b1 j10 2 r11 1) [(.int ((own_al (own_d M 11)).toInt8.toInt32)), (.int j10), (.ref ba)])) (fun t_ k_ => XS.i2b X.here hx rfl (hb hby ep7m5_d105) rfl k_) ?_
  rw [own_alb (own_dB M 11)]
  have hat := own_at2 hj10 hno (by decide)
  obtain ⟨cl_, Ar_, qk_, Sz_, Nn_, Hs_, Gs_⟩ := id V_ba
  have hin_ : ¬ (j10 < 0 ∨ cl_.slots.size ≤ (j10).toNatClampNeg) := inb_of Sz_ hat.1
  obtain ⟨T, h22, X, eT, W, st⟩ := stB X hx hZ eT Ar_ (j := j10) hin_ (g := (mkF m 106 (own_A11 a1 ba oo lo b1 j10 2 r11 1) [(.int (own_al (own_d M 11))), (.int j10), (.ref ba)])) rfl rfl (hb hby ep7m5_d106)
  replace V_ba : Arv Z h22 ba kb_ .byte (26 : Int32) ((own_pre no M 11).set (no + 10) (Value.int (((own_al (own_d M 11))).toInt8.toInt32))) (.int 0) := Arv.set Ar_ qk_ Sz_ Nn_ Hs_ Gs_ (fits_nar_byte _) W (no + 10) hat.2 (own_preI M hno (by decide) (by decide))
  have So := S_ba
  replace E_ba := E_ba.wr W
  replace E_b1 := E_b1.wr W
  replace V_b1 := V_b1.other W (Ne.symm ne_ba_b1)
  replace E_s9 := E_s9.wr W
  replace F_coder_s9 := F_coder_s9.other W (Or.inl (Ne.symm ne_ba_s9))
  replace F_value_s9 := F_value_s9.other W (Or.inl (Ne.symm ne_ba_s9))
  replace V_sa := V_sa.other W (Ne.symm ne_ba_sa)
  replace O := O.wr W g_ba
  replace K0 := K0.wr W (Or.inl (List.mem_of_getElem? (i := 0) rfl))
  replace N := Fr.snoc X N g_ba
  replace hk := Nat.le_trans hk (own_wrSz W)
  replace S_ba := Safe.wr W So H.1 S_ba
  replace S_b1 := Safe.wr W So H.1 S_b1
  replace H := H.trans (CHr.wr W So H.1)
  refine own_via (g' := (mkF m 107 (own_A11 a1 ba oo lo b1 j10 2 r11 1) [])) st ?_
  rw [own_alb (own_dB M 11)] at V_ba
  replace V_ba : Arv Z h22 ba kb_ .byte (26 : Int32) (own_pre no M 12) (.int 0) := by rw [show own_pre no M 12 = (own_pre no M 11).set (no + 10) (Value.int (own_al (own_d M 11))) from (own_preS (by decide)).symm]; exact V_ba
  refine own_via (g' := (mkF m 109 (own_A11 a1 ba oo lo b1 j10 2 r11 1) [(.int r11)])) (fun t_ k_ => XS.iload X.here hx rfl (hb hby ep7m5_d107) rfl k_) ?_
  obtain ⟨T, X, eT, st⟩ := getS2 X hx hZ hown (host := "") (Or.inl (hw _ (own_w 44 rfl))) Via.refl eT (S_B.ext O.2) (g := (mkF m 109 (own_A11 a1 ba oo lo b1 j10 2 r11 1) [(.int r11)])) rfl (hb hby ep7m5_d109)
  refine own_via (g' := (mkF m 112 (own_A11 a1 ba oo lo b1 j10 2 r11 1) [(.int 62), (.int r11)])) st ?_
  refine own_via (g' := (mkF m 115 (own_A11 a1 ba oo lo b1 j10 2 (r11 / (62 : Int32)) 1) [])) (fun t_ k_ => XS.idiv X.here hx rfl (hb hby ep7m5_d112) rfl (by decide) (XS.istore X.here hx rfl (hb hby ep7m5_d113) rfl (l' := (own_A11 a1 ba oo lo b1 j10 2 (r11 / (62 : Int32)) 1)) rfl k_)) ?_
  obtain ⟨r12, hd_r12⟩ : ∃ z, z = (r11 / (62 : Int32)) := ⟨_, rfl⟩
  rw [← hd_r12]
  have hr12 : r12.toInt = (M / 916132832 / 916132832) % 916132832 / 62 / 62 := by rw [hd_r12]; exact (own_62 hr11 hz11).2
  have hz12 : 0 ≤ (M / 916132832 / 916132832) % 916132832 / 62 / 62 := Int.ediv_nonneg hz11 (by decide)
  refine own_via (g' := (mkF m 118 (own_A11 a1 ba oo lo b1 j10 2 r12 ((1 : Int32) + (1 : Int32))) [])) (fun t_ k_ => XS.iinc X.here hx rfl (hb hby ep7m5_d115) rfl (l' := (own_A11 a1 ba oo lo b1 j10 2 r12 ((1 : Int32) + (1 : Int32)))) rfl k_) ?_
  rw [(by decide : ((1 : Int32) + (1 : Int32)) = (2 : Int32))]
  refine own_via (g' := (mkF m 92 (own_A11 a1 ba oo lo b1 (j10 + (-1 : Int32)) 2 r12 2) [(.ref ba)])) (fun t_ k_ => XS.goto X.here hx rfl (pc0 := 118) (pc' := 82) rfl (hb hby ep7m5_d118) (by decide) (by decide) (XS.iload X.here hx rfl (hb hby ep7m5_d82) rfl (XS.iconst X.here hx rfl (hb hby ep7m5_d84) (XS.icmpNo X.here hx rfl (hb hby ep7m5_d85) rfl (tlt (by decide : (2 : Int32) < (5 : Int32))).2.1 (XS.aloadN X.here hx rfl (hb hby ep7m5_d88) rfl rfl (XS.iinc X.here hx rfl (hb hby ep7m5_d89) rfl (l' := (own_A11 a1 ba oo lo b1 (j10 + (-1 : Int32)) 2 r12 2)) rfl k_)))))) ?_
  obtain ⟨j9, hd_j9⟩ : ∃ z, z = (j10 + (-1 : Int32)) := ⟨_, rfl⟩
  rw [← hd_j9]
  have hj9 : j9.toInt = ((no + 9 : Nat) : Int) := by rw [hd_j9]; exact own_dec2 hj10
  refine own_via (g' := (mkF m 98 (own_A11 a1 ba oo lo b1 j9 2 r12 2) [(.int r12), (.ref s9), (.int j9), (.ref ba)])) (fun t_ k_ => XS.iload X.here hx rfl (hb hby ep7m5_d92) rfl (ldcAgain X hx hZ hown (hw _ (own_w 37 rfl)) hLit (g := (mkF m 94 (own_A11 a1 ba oo lo b1 j9 2 r12 2) [(.int j9), (.ref ba)])) rfl (hb hby ep7m5_d94) _ (XS.iload X.here hx rfl (hb hby ep7m5_d96) rfl k_))) ?_
  obtain ⟨T, X, eT, st⟩ := getS2 X hx hZ hown (host := "") (Or.inl (hw _ (own_w 44 rfl))) Via.refl eT (S_B.ext O.2) (g := (mkF m 98 (own_A11 a1 ba oo lo b1 j9 2 r12 2) [(.int r12), (.ref s9), (.int j9), (.ref ba)])) rfl (hb hby ep7m5_d98)
  refine own_via (g' := (mkF m 101 (own_A11 a1 ba oo lo b1 j9 2 r12 2) [(.int 62), (.int r12), (.ref s9), (.int j9), (.ref ba)])) st ?_
  refine own_via (g' := (mkF m 102 (own_A11 a1 ba oo lo b1 j9 2 r12 2) [(.int (r12 % (62 : Int32))), (.ref s9), (.int j9), (.ref ba)])) (fun t_ k_ => iremM (g := (mkF m 101 (own_A11 a1 ba oo lo b1 j9 2 r12 2) [(.int 62), (.int r12), (.ref s9), (.int j9), (.ref ba)])) X hx rfl (hb hby ep7m5_d101) rfl (by decide) k_) ?_
  have hdg := (own_62 hr12 hz12).1.trans (own_w12 hM1)
  have hcg := own_chr hdg (own_dB M 12)
  obtain ⟨cq, kq, qa, qb, qc⟩ := isOf hZ eT E_s9
  obtain ⟨_, _, ⟨T, Lq, kq, nq⟩, -, X, ⟨Lc, hQ, lq, yq, zq⟩, st⟩ := X.virtualBack hx (y := own_y7) (z := own_y7) hown (mvT hZ (hw _ (own_w 46 rfl))) (mvT hZ (hw _ (own_w 47 rfl))) (notFace_of_selects (args := #[]) (mvT hZ (hw _ (own_w 49 rfl)))) (mvT hZ (hw _ (own_w 49 rfl))) (mvT hZ (hw _ (own_w 48 rfl))) (by decide) (backOf (W := 2) (own_charAt l Z a0 hw [] s9 (r12 % (62 : Int32)) sa ksa (62 : Int32) own_AV (own_al (own_d M 12)) zc vS h22 n0 O E_s9 F_value_s9 F_coder_s9 V_sa S_C hzc hcg.1 hcg.2 S_S hvS) hZ (hw _ (own_w 50 rfl)) (hw _ (own_w 38 rfl)) (by decide) (by decide)) qa qc (g := (mkF m 102 (own_A11 a1 ba oo lo b1 j9 2 r12 2) [(.int (r12 % (62 : Int32))), (.ref s9), (.int j9), (.ref ba)])) rfl (by rw [hml]; rfl) (Steps.refl _) (argsL := [(.int (r12 % (62 : Int32)))]) (rest := [(.int j9), (.ref ba)]) (lenOf own_pd7 rfl) rfl (by show 2 * 0 + _ ≤ _; exact Nat.le_of_eq rfl) (hb hby ep7m5_d102) (fun _ _ => ⟨rfl, eT, (by decide : 3 + 0 ≤ _), (by decide : 256 + 0 ≤ _)⟩)
  dsimp only [Pt.U, Pt.locs, Pt.cells, Pt.slots] at X lq yq zq st hQ
  rw [lq, yq, zq] at X
  obtain ⟨rfl, Nq, eT⟩ := hQ
  replace N := Fr.app N Nq
  refine own_viaT (g' := (mkF m 105 (own_A11 a1 ba oo lo b1 j9 2 r12 2) [(.int ((own_al (own_d M 12)) &&& (255 : Int32))), (.int j9), (.ref ba)])) st ?_
  rw [own_al255 (own_dB M 12)]
  refine own_via (g' := (mkF m 106 (own_A11 a1 ba oo lo b1 j9 2 r12 2) [(.int ((own_al (own_d M 12)).toInt8.toInt32)), (.int j9), (.ref ba)])) (fun t_ k_ => XS.i2b X.here hx rfl (hb hby ep7m5_d105) rfl k_) ?_
  rw [own_alb (own_dB M 12)]
  have hat := own_at2 hj9 hno (by decide)
  obtain ⟨cl_, Ar_, qk_, Sz_, Nn_, Hs_, Gs_⟩ := id V_ba
  have hin_ : ¬ (j9 < 0 ∨ cl_.slots.size ≤ (j9).toNatClampNeg) := inb_of Sz_ hat.1
  obtain ⟨T, h23, X, eT, W, st⟩ := stB X hx hZ eT Ar_ (j := j9) hin_ (g := (mkF m 106 (own_A11 a1 ba oo lo b1 j9 2 r12 2) [(.int (own_al (own_d M 12))), (.int j9), (.ref ba)])) rfl rfl (hb hby ep7m5_d106)
  replace V_ba : Arv Z h23 ba kb_ .byte (26 : Int32) ((own_pre no M 12).set (no + 9) (Value.int (((own_al (own_d M 12))).toInt8.toInt32))) (.int 0) := Arv.set Ar_ qk_ Sz_ Nn_ Hs_ Gs_ (fits_nar_byte _) W (no + 9) hat.2 (own_preI M hno (by decide) (by decide))
  have So := S_ba
  replace E_ba := E_ba.wr W
  replace E_b1 := E_b1.wr W
  replace V_b1 := V_b1.other W (Ne.symm ne_ba_b1)
  replace E_s9 := E_s9.wr W
  replace F_coder_s9 := F_coder_s9.other W (Or.inl (Ne.symm ne_ba_s9))
  replace F_value_s9 := F_value_s9.other W (Or.inl (Ne.symm ne_ba_s9))
  replace V_sa := V_sa.other W (Ne.symm ne_ba_sa)
  replace O := O.wr W g_ba
  replace K0 := K0.wr W (Or.inl (List.mem_of_getElem? (i := 0) rfl))
  replace N := Fr.snoc X N g_ba
  replace hk := Nat.le_trans hk (own_wrSz W)
  replace S_ba := Safe.wr W So H.1 S_ba
  replace S_b1 := Safe.wr W So H.1 S_b1
  replace H := H.trans (CHr.wr W So H.1)
  refine own_via (g' := (mkF m 107 (own_A11 a1 ba oo lo b1 j9 2 r12 2) [])) st ?_
  rw [own_alb (own_dB M 12)] at V_ba
  replace V_ba : Arv Z h23 ba kb_ .byte (26 : Int32) (own_pre no M 13) (.int 0) := by rw [show own_pre no M 13 = (own_pre no M 12).set (no + 9) (Value.int (own_al (own_d M 12))) from (own_preS (by decide)).symm]; exact V_ba
  refine own_via (g' := (mkF m 109 (own_A11 a1 ba oo lo b1 j9 2 r12 2) [(.int r12)])) (fun t_ k_ => XS.iload X.here hx rfl (hb hby ep7m5_d107) rfl k_) ?_
  obtain ⟨T, X, eT, st⟩ := getS2 X hx hZ hown (host := "") (Or.inl (hw _ (own_w 44 rfl))) Via.refl eT (S_B.ext O.2) (g := (mkF m 109 (own_A11 a1 ba oo lo b1 j9 2 r12 2) [(.int r12)])) rfl (hb hby ep7m5_d109)
  refine own_via (g' := (mkF m 112 (own_A11 a1 ba oo lo b1 j9 2 r12 2) [(.int 62), (.int r12)])) st ?_
  refine own_via (g' := (mkF m 115 (own_A11 a1 ba oo lo b1 j9 2 (r12 / (62 : Int32)) 2) [])) (fun t_ k_ => XS.idiv X.here hx rfl (hb hby ep7m5_d112) rfl (by decide) (XS.istore X.here hx rfl (hb hby ep7m5_d113) rfl (l' := (own_A11 a1 ba oo lo b1 j9 2 (r12 / (62 : Int32)) 2)) rfl k_)) ?_
  obtain ⟨r13, hd_r13⟩ : ∃ z, z = (r12 / (62 : Int32)) := ⟨_, rfl⟩
  rw [← hd_r13]
  have hr13 : r13.toInt = (M / 916132832 / 916132832) % 916132832 / 62 / 62 / 62 := by rw [hd_r13]; exact (own_62 hr12 hz12).2
  have hz13 : 0 ≤ (M / 916132832 / 916132832) % 916132832 / 62 / 62 / 62 := Int.ediv_nonneg hz12 (by decide)
  refine own_via (g' := (mkF m 118 (own_A11 a1 ba oo lo b1 j9 2 r13 ((2 : Int32) + (1 : Int32))) [])) (fun t_ k_ => XS.iinc X.here hx rfl (hb hby ep7m5_d115) rfl (l' := (own_A11 a1 ba oo lo b1 j9 2 r13 ((2 : Int32) + (1 : Int32)))) rfl k_) ?_
  rw [(by decide : ((2 : Int32) + (1 : Int32)) = (3 : Int32))]
  refine own_via (g' := (mkF m 92 (own_A11 a1 ba oo lo b1 (j9 + (-1 : Int32)) 2 r13 3) [(.ref ba)])) (fun t_ k_ => XS.goto X.here hx rfl (pc0 := 118) (pc' := 82) rfl (hb hby ep7m5_d118) (by decide) (by decide) (XS.iload X.here hx rfl (hb hby ep7m5_d82) rfl (XS.iconst X.here hx rfl (hb hby ep7m5_d84) (XS.icmpNo X.here hx rfl (hb hby ep7m5_d85) rfl (tlt (by decide : (3 : Int32) < (5 : Int32))).2.1 (XS.aloadN X.here hx rfl (hb hby ep7m5_d88) rfl rfl (XS.iinc X.here hx rfl (hb hby ep7m5_d89) rfl (l' := (own_A11 a1 ba oo lo b1 (j9 + (-1 : Int32)) 2 r13 3)) rfl k_)))))) ?_
  obtain ⟨j8, hd_j8⟩ : ∃ z, z = (j9 + (-1 : Int32)) := ⟨_, rfl⟩
  rw [← hd_j8]
  have hj8 : j8.toInt = ((no + 8 : Nat) : Int) := by rw [hd_j8]; exact own_dec2 hj9
  refine own_via (g' := (mkF m 98 (own_A11 a1 ba oo lo b1 j8 2 r13 3) [(.int r13), (.ref s9), (.int j8), (.ref ba)])) (fun t_ k_ => XS.iload X.here hx rfl (hb hby ep7m5_d92) rfl (ldcAgain X hx hZ hown (hw _ (own_w 37 rfl)) hLit (g := (mkF m 94 (own_A11 a1 ba oo lo b1 j8 2 r13 3) [(.int j8), (.ref ba)])) rfl (hb hby ep7m5_d94) _ (XS.iload X.here hx rfl (hb hby ep7m5_d96) rfl k_))) ?_
  obtain ⟨T, X, eT, st⟩ := getS2 X hx hZ hown (host := "") (Or.inl (hw _ (own_w 44 rfl))) Via.refl eT (S_B.ext O.2) (g := (mkF m 98 (own_A11 a1 ba oo lo b1 j8 2 r13 3) [(.int r13), (.ref s9), (.int j8), (.ref ba)])) rfl (hb hby ep7m5_d98)
  refine own_via (g' := (mkF m 101 (own_A11 a1 ba oo lo b1 j8 2 r13 3) [(.int 62), (.int r13), (.ref s9), (.int j8), (.ref ba)])) st ?_
  refine own_via (g' := (mkF m 102 (own_A11 a1 ba oo lo b1 j8 2 r13 3) [(.int (r13 % (62 : Int32))), (.ref s9), (.int j8), (.ref ba)])) (fun t_ k_ => iremM (g := (mkF m 101 (own_A11 a1 ba oo lo b1 j8 2 r13 3) [(.int 62), (.int r13), (.ref s9), (.int j8), (.ref ba)])) X hx rfl (hb hby ep7m5_d101) rfl (by decide) k_) ?_
  have hdg := (own_62 hr13 hz13).1.trans (own_w13 hM1)
  have hcg := own_chr hdg (own_dB M 13)
  obtain ⟨cq, kq, qa, qb, qc⟩ := isOf hZ eT E_s9
  obtain ⟨_, _, ⟨T, Lq, kq, nq⟩, -, X, ⟨Lc, hQ, lq, yq, zq⟩, st⟩ := X.virtualBack hx (y := own_y7) (z := own_y7) hown (mvT hZ (hw _ (own_w 46 rfl))) (mvT hZ (hw _ (own_w 47 rfl))) (notFace_of_selects (args := #[]) (mvT hZ (hw _ (own_w 49 rfl)))) (mvT hZ (hw _ (own_w 49 rfl))) (mvT hZ (hw _ (own_w 48 rfl))) (by decide) (backOf (W := 2) (own_charAt l Z a0 hw [] s9 (r13 % (62 : Int32)) sa ksa (62 : Int32) own_AV (own_al (own_d M 13)) zc vS h23 n0 O E_s9 F_value_s9 F_coder_s9 V_sa S_C hzc hcg.1 hcg.2 S_S hvS) hZ (hw _ (own_w 50 rfl)) (hw _ (own_w 38 rfl)) (by decide) (by decide)) qa qc (g := (mkF m 102 (own_A11 a1 ba oo lo b1 j8 2 r13 3) [(.int (r13 % (62 : Int32))), (.ref s9), (.int j8), (.ref ba)])) rfl (by rw [hml]; rfl) (Steps.refl _) (argsL := [(.int (r13 % (62 : Int32)))]) (rest := [(.int j8), (.ref ba)]) (lenOf own_pd7 rfl) rfl (by show 2 * 0 + _ ≤ _; exact Nat.le_of_eq rfl) (hb hby ep7m5_d102) (fun _ _ => ⟨rfl, eT, (by decide : 3 + 0 ≤ _), (by decide : 256 + 0 ≤ _)⟩)
  dsimp only [Pt.U, Pt.locs, Pt.cells, Pt.slots] at X lq yq zq st hQ
  rw [lq, yq, zq] at X
  obtain ⟨rfl, Nq, eT⟩ := hQ
  replace N := Fr.app N Nq
  refine own_viaT (g' := (mkF m 105 (own_A11 a1 ba oo lo b1 j8 2 r13 3) [(.int ((own_al (own_d M 13)) &&& (255 : Int32))), (.int j8), (.ref ba)])) st ?_
  rw [own_al255 (own_dB M 13)]
  refine own_via (g' := (mkF m 106 (own_A11 a1 ba oo lo b1 j8 2 r13 3) [(.int ((own_al (own_d M 13)).toInt8.toInt32)), (.int j8), (.ref ba)])) (fun t_ k_ => XS.i2b X.here hx rfl (hb hby ep7m5_d105) rfl k_) ?_
  rw [own_alb (own_dB M 13)]
  have hat := own_at2 hj8 hno (by decide)
  obtain ⟨cl_, Ar_, qk_, Sz_, Nn_, Hs_, Gs_⟩ := id V_ba
  have hin_ : ¬ (j8 < 0 ∨ cl_.slots.size ≤ (j8).toNatClampNeg) := inb_of Sz_ hat.1
  obtain ⟨T, h24, X, eT, W, st⟩ := stB X hx hZ eT Ar_ (j := j8) hin_ (g := (mkF m 106 (own_A11 a1 ba oo lo b1 j8 2 r13 3) [(.int (own_al (own_d M 13))), (.int j8), (.ref ba)])) rfl rfl (hb hby ep7m5_d106)
  replace V_ba : Arv Z h24 ba kb_ .byte (26 : Int32) ((own_pre no M 13).set (no + 8) (Value.int (((own_al (own_d M 13))).toInt8.toInt32))) (.int 0) := Arv.set Ar_ qk_ Sz_ Nn_ Hs_ Gs_ (fits_nar_byte _) W (no + 8) hat.2 (own_preI M hno (by decide) (by decide))
  have So := S_ba
  replace E_ba := E_ba.wr W
  replace E_b1 := E_b1.wr W
  replace V_b1 := V_b1.other W (Ne.symm ne_ba_b1)
  replace E_s9 := E_s9.wr W
  replace F_coder_s9 := F_coder_s9.other W (Or.inl (Ne.symm ne_ba_s9))
  replace F_value_s9 := F_value_s9.other W (Or.inl (Ne.symm ne_ba_s9))
  replace V_sa := V_sa.other W (Ne.symm ne_ba_sa)
  replace O := O.wr W g_ba
  replace K0 := K0.wr W (Or.inl (List.mem_of_getElem? (i := 0) rfl))
  replace N := Fr.snoc X N g_ba
  replace hk := Nat.le_trans hk (own_wrSz W)
  replace S_ba := Safe.wr W So H.1 S_ba
  replace S_b1 := Safe.wr W So H.1 S_b1
  replace H := H.trans (CHr.wr W So H.1)
  refine own_via (g' := (mkF m 107 (own_A11 a1 ba oo lo b1 j8 2 r13 3) [])) st ?_
  rw [own_alb (own_dB M 13)] at V_ba
  replace V_ba : Arv Z h24 ba kb_ .byte (26 : Int32) (own_pre no M 14) (.int 0) := by rw [show own_pre no M 14 = (own_pre no M 13).set (no + 8) (Value.int (own_al (own_d M 13))) from (own_preS (by decide)).symm]; exact V_ba
  refine own_via (g' := (mkF m 109 (own_A11 a1 ba oo lo b1 j8 2 r13 3) [(.int r13)])) (fun t_ k_ => XS.iload X.here hx rfl (hb hby ep7m5_d107) rfl k_) ?_
  obtain ⟨T, X, eT, st⟩ := getS2 X hx hZ hown (host := "") (Or.inl (hw _ (own_w 44 rfl))) Via.refl eT (S_B.ext O.2) (g := (mkF m 109 (own_A11 a1 ba oo lo b1 j8 2 r13 3) [(.int r13)])) rfl (hb hby ep7m5_d109)
  refine own_via (g' := (mkF m 112 (own_A11 a1 ba oo lo b1 j8 2 r13 3) [(.int 62), (.int r13)])) st ?_
  refine own_via (g' := (mkF m 115 (own_A11 a1 ba oo lo b1 j8 2 (r13 / (62 : Int32)) 3) [])) (fun t_ k_ => XS.idiv X.here hx rfl (hb hby ep7m5_d112) rfl (by decide) (XS.istore X.here hx rfl (hb hby ep7m5_d113) rfl (l' := (own_A11 a1 ba oo lo b1 j8 2 (r13 / (62 : Int32)) 3)) rfl k_)) ?_
  obtain ⟨r14, hd_r14⟩ : ∃ z, z = (r13 / (62 : Int32)) := ⟨_, rfl⟩
  rw [← hd_r14]
  have hr14 : r14.toInt = (M / 916132832 / 916132832) % 916132832 / 62 / 62 / 62 / 62 := by rw [hd_r14]; exact (own_62 hr13 hz13).2
  have hz14 : 0 ≤ (M / 916132832 / 916132832) % 916132832 / 62 / 62 / 62 / 62 := Int.ediv_nonneg hz13 (by decide)
  refine own_via (g' := (mkF m 118 (own_A11 a1 ba oo lo b1 j8 2 r14 ((3 : Int32) + (1 : Int32))) [])) (fun t_ k_ => XS.iinc X.here hx rfl (hb hby ep7m5_d115) rfl (l' := (own_A11 a1 ba oo lo b1 j8 2 r14 ((3 : Int32) + (1 : Int32)))) rfl k_) ?_
  rw [(by decide : ((3 : Int32) + (1 : Int32)) = (4 : Int32))]
  refine own_via (g' := (mkF m 92 (own_A11 a1 ba oo lo b1 (j8 + (-1 : Int32)) 2 r14 4) [(.ref ba)])) (fun t_ k_ => XS.goto X.here hx rfl (pc0 := 118) (pc' := 82) rfl (hb hby ep7m5_d118) (by decide) (by decide) (XS.iload X.here hx rfl (hb hby ep7m5_d82) rfl (XS.iconst X.here hx rfl (hb hby ep7m5_d84) (XS.icmpNo X.here hx rfl (hb hby ep7m5_d85) rfl (tlt (by decide : (4 : Int32) < (5 : Int32))).2.1 (XS.aloadN X.here hx rfl (hb hby ep7m5_d88) rfl rfl (XS.iinc X.here hx rfl (hb hby ep7m5_d89) rfl (l' := (own_A11 a1 ba oo lo b1 (j8 + (-1 : Int32)) 2 r14 4)) rfl k_)))))) ?_
  obtain ⟨j7, hd_j7⟩ : ∃ z, z = (j8 + (-1 : Int32)) := ⟨_, rfl⟩
  rw [← hd_j7]
  have hj7 : j7.toInt = ((no + 7 : Nat) : Int) := by rw [hd_j7]; exact own_dec2 hj8
  refine own_via (g' := (mkF m 98 (own_A11 a1 ba oo lo b1 j7 2 r14 4) [(.int r14), (.ref s9), (.int j7), (.ref ba)])) (fun t_ k_ => XS.iload X.here hx rfl (hb hby ep7m5_d92) rfl (ldcAgain X hx hZ hown (hw _ (own_w 37 rfl)) hLit (g := (mkF m 94 (own_A11 a1 ba oo lo b1 j7 2 r14 4) [(.int j7), (.ref ba)])) rfl (hb hby ep7m5_d94) _ (XS.iload X.here hx rfl (hb hby ep7m5_d96) rfl k_))) ?_
  obtain ⟨T, X, eT, st⟩ := getS2 X hx hZ hown (host := "") (Or.inl (hw _ (own_w 44 rfl))) Via.refl eT (S_B.ext O.2) (g := (mkF m 98 (own_A11 a1 ba oo lo b1 j7 2 r14 4) [(.int r14), (.ref s9), (.int j7), (.ref ba)])) rfl (hb hby ep7m5_d98)
  refine own_via (g' := (mkF m 101 (own_A11 a1 ba oo lo b1 j7 2 r14 4) [(.int 62), (.int r14), (.ref s9), (.int j7), (.ref ba)])) st ?_
  refine own_via (g' := (mkF m 102 (own_A11 a1 ba oo lo b1 j7 2 r14 4) [(.int (r14 % (62 : Int32))), (.ref s9), (.int j7), (.ref ba)])) (fun t_ k_ => iremM (g := (mkF m 101 (own_A11 a1 ba oo lo b1 j7 2 r14 4) [(.int 62), (.int r14), (.ref s9), (.int j7), (.ref ba)])) X hx rfl (hb hby ep7m5_d101) rfl (by decide) k_) ?_
  have hdg := (own_62 hr14 hz14).1.trans (own_w14 hM1)
  have hcg := own_chr hdg (own_dB M 14)
  obtain ⟨cq, kq, qa, qb, qc⟩ := isOf hZ eT E_s9
  obtain ⟨_, _, ⟨T, Lq, kq, nq⟩, -, X, ⟨Lc, hQ, lq, yq, zq⟩, st⟩ := X.virtualBack hx (y := own_y7) (z := own_y7) hown (mvT hZ (hw _ (own_w 46 rfl))) (mvT hZ (hw _ (own_w 47 rfl))) (notFace_of_selects (args := #[]) (mvT hZ (hw _ (own_w 49 rfl)))) (mvT hZ (hw _ (own_w 49 rfl))) (mvT hZ (hw _ (own_w 48 rfl))) (by decide) (backOf (W := 2) (own_charAt l Z a0 hw [] s9 (r14 % (62 : Int32)) sa ksa (62 : Int32) own_AV (own_al (own_d M 14)) zc vS h24 n0 O E_s9 F_value_s9 F_coder_s9 V_sa S_C hzc hcg.1 hcg.2 S_S hvS) hZ (hw _ (own_w 50 rfl)) (hw _ (own_w 38 rfl)) (by decide) (by decide)) qa qc (g := (mkF m 102 (own_A11 a1 ba oo lo b1 j7 2 r14 4) [(.int (r14 % (62 : Int32))), (.ref s9), (.int j7), (.ref ba)])) rfl (by rw [hml]; rfl) (Steps.refl _) (argsL := [(.int (r14 % (62 : Int32)))]) (rest := [(.int j7), (.ref ba)]) (lenOf own_pd7 rfl) rfl (by show 2 * 0 + _ ≤ _; exact Nat.le_of_eq rfl) (hb hby ep7m5_d102) (fun _ _ => ⟨rfl, eT, (by decide : 3 + 0 ≤ _), (by decide : 256 + 0 ≤ _)⟩)
  dsimp only [Pt.U, Pt.locs, Pt.cells, Pt.slots] at X lq yq zq st hQ
  rw [lq, yq, zq] at X
  obtain ⟨rfl, Nq, eT⟩ := hQ
  replace N := Fr.app N Nq
  refine own_viaT (g' := (mkF m 105 (own_A11 a1 ba oo lo b1 j7 2 r14 4) [(.int ((own_al (own_d M 14)) &&& (255 : Int32))), (.int j7), (.ref ba)])) st ?_
  rw [own_al255 (own_dB M 14)]
  refine own_via (g' := (mkF m 106 (own_A11 a1 ba oo lo b1 j7 2 r14 4) [(.int ((own_al (own_d M 14)).toInt8.toInt32)), (.int j7), (.ref ba)])) (fun t_ k_ => XS.i2b X.here hx rfl (hb hby ep7m5_d105) rfl k_) ?_
  rw [own_alb (own_dB M 14)]
  have hat := own_at2 hj7 hno (by decide)
  obtain ⟨cl_, Ar_, qk_, Sz_, Nn_, Hs_, Gs_⟩ := id V_ba
  have hin_ : ¬ (j7 < 0 ∨ cl_.slots.size ≤ (j7).toNatClampNeg) := inb_of Sz_ hat.1
  obtain ⟨T, h25, X, eT, W, st⟩ := stB X hx hZ eT Ar_ (j := j7) hin_ (g := (mkF m 106 (own_A11 a1 ba oo lo b1 j7 2 r14 4) [(.int (own_al (own_d M 14))), (.int j7), (.ref ba)])) rfl rfl (hb hby ep7m5_d106)
  replace V_ba : Arv Z h25 ba kb_ .byte (26 : Int32) ((own_pre no M 14).set (no + 7) (Value.int (((own_al (own_d M 14))).toInt8.toInt32))) (.int 0) := Arv.set Ar_ qk_ Sz_ Nn_ Hs_ Gs_ (fits_nar_byte _) W (no + 7) hat.2 (own_preI M hno (by decide) (by decide))
  have So := S_ba
  replace E_ba := E_ba.wr W
  replace E_b1 := E_b1.wr W
  replace V_b1 := V_b1.other W (Ne.symm ne_ba_b1)
  replace E_s9 := E_s9.wr W
  replace F_coder_s9 := F_coder_s9.other W (Or.inl (Ne.symm ne_ba_s9))
  replace F_value_s9 := F_value_s9.other W (Or.inl (Ne.symm ne_ba_s9))
  replace V_sa := V_sa.other W (Ne.symm ne_ba_sa)
  replace O := O.wr W g_ba
  replace K0 := K0.wr W (Or.inl (List.mem_of_getElem? (i := 0) rfl))
  replace N := Fr.snoc X N g_ba
  replace hk := Nat.le_trans hk (own_wrSz W)
  replace S_ba := Safe.wr W So H.1 S_ba
  replace S_b1 := Safe.wr W So H.1 S_b1
  replace H := H.trans (CHr.wr W So H.1)
  refine own_via (g' := (mkF m 107 (own_A11 a1 ba oo lo b1 j7 2 r14 4) [])) st ?_
  rw [own_alb (own_dB M 14)] at V_ba
  replace V_ba : Arv Z h25 ba kb_ .byte (26 : Int32) (own_pre no M 15) (.int 0) := by rw [show own_pre no M 15 = (own_pre no M 14).set (no + 7) (Value.int (own_al (own_d M 14))) from (own_preS (by decide)).symm]; exact V_ba
  refine own_via (g' := (mkF m 109 (own_A11 a1 ba oo lo b1 j7 2 r14 4) [(.int r14)])) (fun t_ k_ => XS.iload X.here hx rfl (hb hby ep7m5_d107) rfl k_) ?_
  obtain ⟨T, X, eT, st⟩ := getS2 X hx hZ hown (host := "") (Or.inl (hw _ (own_w 44 rfl))) Via.refl eT (S_B.ext O.2) (g := (mkF m 109 (own_A11 a1 ba oo lo b1 j7 2 r14 4) [(.int r14)])) rfl (hb hby ep7m5_d109)
  refine own_via (g' := (mkF m 112 (own_A11 a1 ba oo lo b1 j7 2 r14 4) [(.int 62), (.int r14)])) st ?_
  refine own_via (g' := (mkF m 115 (own_A11 a1 ba oo lo b1 j7 2 (r14 / (62 : Int32)) 4) [])) (fun t_ k_ => XS.idiv X.here hx rfl (hb hby ep7m5_d112) rfl (by decide) (XS.istore X.here hx rfl (hb hby ep7m5_d113) rfl (l' := (own_A11 a1 ba oo lo b1 j7 2 (r14 / (62 : Int32)) 4)) rfl k_)) ?_
  obtain ⟨u15, hd_u15⟩ : ∃ z, z = (r14 / (62 : Int32)) := ⟨_, rfl⟩
  rw [← hd_u15]
  refine own_via (g' := (mkF m 118 (own_A11 a1 ba oo lo b1 j7 2 u15 ((4 : Int32) + (1 : Int32))) [])) (fun t_ k_ => XS.iinc X.here hx rfl (hb hby ep7m5_d115) rfl (l' := (own_A11 a1 ba oo lo b1 j7 2 u15 ((4 : Int32) + (1 : Int32)))) rfl k_) ?_
  rw [(by decide : ((4 : Int32) + (1 : Int32)) = (5 : Int32))]
  refine own_via (g' := (mkF m 124 (own_A11 a1 ba oo lo b1 j7 ((2 : Int32) + (1 : Int32)) u15 5) [])) (fun t_ k_ => XS.goto X.here hx rfl (pc0 := 118) (pc' := 82) rfl (hb hby ep7m5_d118) (by decide) (by decide) (XS.iload X.here hx rfl (hb hby ep7m5_d82) rfl (XS.iconst X.here hx rfl (hb hby ep7m5_d84) (XS.icmpYes X.here hx rfl (pc0 := 85) (pc' := 121) rfl (hb hby ep7m5_d85) rfl (flt (by decide : ¬ ((5 : Int32) < (5 : Int32)))).2.1 (by decide) (by decide) (XS.iinc X.here hx rfl (hb hby ep7m5_d121) rfl (l' := (own_A11 a1 ba oo lo b1 j7 ((2 : Int32) + (1 : Int32)) u15 5)) rfl k_))))) ?_
  rw [(by decide : ((2 : Int32) + (1 : Int32)) = (3 : Int32))]
  refine own_via (g' := (mkF m 74 (own_A11 a1 ba oo lo b1 j7 3 u15 5) [(.int 916132832), (.ref b1)])) (fun t_ k_ => XS.goto X.here hx rfl (pc0 := 124) (pc' := 64) rfl (hb hby ep7m5_d124) (by decide) (by decide) (XS.iload X.here hx rfl (hb hby ep7m5_d64) rfl (XS.iconst X.here hx rfl (hb hby ep7m5_d66) (XS.icmpNo X.here hx rfl (hb hby ep7m5_d67) rfl (tlt (by decide : (3 : Int32) < (4 : Int32))).2.1 (XS.aload X.here hx rfl (hb hby ep7m5_d70) rfl rfl (X.ldcInt hx hown (mvT hZ (hw _ (own_w 33 rfl))) (g := (mkF m 72 (own_A11 a1 ba oo lo b1 j7 3 u15 5) [(.ref b1)])) rfl (hb hby ep7m5_d72) _ k_)))))) ?_
  obtain ⟨_, _, ⟨T, Lq, kq, nq⟩, -, X, ⟨Lc, hQ, lq, yq, zq⟩, st⟩ := Jvm.LawKit.callS X hx (y := own_y6) hown (mvT hZ (hw _ (own_w 34 rfl))) (mvT hZ (hw _ (own_w 35 rfl))) (mvT hZ (hw _ (own_w 5 rfl))) (mvT hZ (hw _ (own_w 36 rfl))) (by decide) (backOf (W := 0) (own_divide l Z a0 hw [] b1 kb1 y3_0 y3_1 y3_2 y3_3 (M / 916132832 / 916132832 / 916132832) h25 n0 O E_b1 V_b1 g_b1 hL3) hZ (hw _ (own_w 36 rfl)) (hw _ (own_w 5 rfl)) (by decide) (by decide)) (g := (mkF m 74 (own_A11 a1 ba oo lo b1 j7 3 u15 5) [(.int 916132832), (.ref b1)])) rfl (by rw [hml]; rfl) (argsL := [(.ref b1), (.int 916132832)]) (rest := []) (lenOf own_pd6 rfl) rfl (by show 2 * 0 + _ ≤ _; exact Nat.le_of_eq rfl) (hb hby ep7m5_d74) (fun _ _ => ⟨rfl, eT, (by decide : 3 + 0 ≤ _), (by decide : 256 + 0 ≤ _)⟩)
  dsimp only [Pt.U, Pt.locs, Pt.cells, Pt.slots] at X lq yq zq st hQ
  rw [lq, yq, zq] at X
  obtain ⟨y4_0, y4_1, y4_2, y4_3, r15, rfl, Nq, Kq, V_b1, hL4, hr15⟩ := hQ
  replace N := Fr.app N Nq
  obtain ⟨h26, eT⟩ : ∃ z, T.heap = z := ⟨_, rfl⟩
  rw [eT] at Kq V_b1
  have So : ∀ x ∈ [b1], Safe Z own_EL _ h25 x := (allS S_b1 all0)
  replace E_ba := E_ba.keep Kq
  replace V_ba := V_ba.keep Kq (ninS ne_ba_b1 nin0)
  replace E_b1 := E_b1.keep Kq
  replace E_s9 := E_s9.keep Kq
  replace F_coder_s9 := F_coder_s9.keep Kq (ninS (Ne.symm ne_b1_s9) nin0)
  replace F_value_s9 := F_value_s9.keep Kq (ninS (Ne.symm ne_b1_s9) nin0)
  replace V_sa := V_sa.keep Kq (ninS (Ne.symm ne_b1_sa) nin0)
  replace O := O.keep Kq (allS g_b1 all0)
  replace K0 := K0.trans Kq (allS (Or.inr sz_b1) all0)
  replace hk := Nat.le_trans hk Kq.1
  replace S_ba := Safe.keep Kq So H.1 S_ba
  replace S_b1 := Safe.keep Kq So H.1 S_b1
  replace H := H.trans (CHr.keep Kq So H.1)
  refine own_via (g' := (mkF m 77 (own_A11 a1 ba oo lo b1 j7 3 u15 5) [(.int r15)])) st ?_
  have hz15 : 0 ≤ (M / 916132832 / 916132832 / 916132832) % 916132832 := Int.emod_nonneg _ (by decide)
  refine own_via (g' := (mkF m 92 (own_A11 a1 ba oo lo b1 (j7 + (-1 : Int32)) 3 r15 0) [(.ref ba)])) (fun t_ k_ => XS.istore X.here hx rfl (hb hby ep7m5_d77) rfl (l' := #[.val (.ref a1), .val (.ref ba), .val (.int oo), .val (.long lo), .second, .val (.ref b1), .val (.int j7), .val (.int 3), .val (.int r15), .val (.int 5)]) rfl (XS.iconst X.here hx rfl (hb hby ep7m5_d79) (XS.istore X.here hx rfl (hb hby ep7m5_d80) rfl (l' := #[.val (.ref a1), .val (.ref ba), .val (.int oo), .val (.long lo), .second, .val (.ref b1), .val (.int j7), .val (.int 3), .val (.int r15), .val (.int 0)]) rfl (XS.iload X.here hx rfl (hb hby ep7m5_d82) rfl (XS.iconst X.here hx rfl (hb hby ep7m5_d84) (XS.icmpNo X.here hx rfl (hb hby ep7m5_d85) rfl (tlt (by decide : (0 : Int32) < (5 : Int32))).2.1 (XS.aloadN X.here hx rfl (hb hby ep7m5_d88) rfl rfl (XS.iinc X.here hx rfl (hb hby ep7m5_d89) rfl (l' := (own_A11 a1 ba oo lo b1 (j7 + (-1 : Int32)) 3 r15 0)) rfl k_)))))))) ?_
  obtain ⟨j6, hd_j6⟩ : ∃ z, z = (j7 + (-1 : Int32)) := ⟨_, rfl⟩
  rw [← hd_j6]
  have hj6 : j6.toInt = ((no + 6 : Nat) : Int) := by rw [hd_j6]; exact own_dec2 hj7
  refine own_via (g' := (mkF m 98 (own_A11 a1 ba oo lo b1 j6 3 r15 0) [(.int r15), (.ref s9), (.int j6), (.ref ba)])) (fun t_ k_ => XS.iload X.here hx rfl (hb hby ep7m5_d92) rfl (ldcAgain X hx hZ hown (hw _ (own_w 37 rfl)) hLit (g := (mkF m 94 (own_A11 a1 ba oo lo b1 j6 3 r15 0) [(.int j6), (.ref ba)])) rfl (hb hby ep7m5_d94) _ (XS.iload X.here hx rfl (hb hby ep7m5_d96) rfl k_))) ?_
  obtain ⟨T, X, eT, st⟩ := getS2 X hx hZ hown (host := "") (Or.inl (hw _ (own_w 44 rfl))) Via.refl eT (S_B.ext O.2) (g := (mkF m 98 (own_A11 a1 ba oo lo b1 j6 3 r15 0) [(.int r15), (.ref s9), (.int j6), (.ref ba)])) rfl (hb hby ep7m5_d98)
  refine own_via (g' := (mkF m 101 (own_A11 a1 ba oo lo b1 j6 3 r15 0) [(.int 62), (.int r15), (.ref s9), (.int j6), (.ref ba)])) st ?_
  refine own_via (g' := (mkF m 102 (own_A11 a1 ba oo lo b1 j6 3 r15 0) [(.int (r15 % (62 : Int32))), (.ref s9), (.int j6), (.ref ba)])) (fun t_ k_ => iremM (g := (mkF m 101 (own_A11 a1 ba oo lo b1 j6 3 r15 0) [(.int 62), (.int r15), (.ref s9), (.int j6), (.ref ba)])) X hx rfl (hb hby ep7m5_d101) rfl (by decide) k_) ?_
  have hdg := (own_62 hr15 hz15).1.trans (own_w15 hM1)
  have hcg := own_chr hdg (own_dB M 15)
  obtain ⟨cq, kq, qa, qb, qc⟩ := isOf hZ eT E_s9
  obtain ⟨_, _, ⟨T, Lq, kq, nq⟩, -, X, ⟨Lc, hQ, lq, yq, zq⟩, st⟩ := X.virtualBack hx (y := own_y7) (z := own_y7) hown (mvT hZ (hw _ (own_w 46 rfl))) (mvT hZ (hw _ (own_w 47 rfl))) (notFace_of_selects (args := #[]) (mvT hZ (hw _ (own_w 49 rfl)))) (mvT hZ (hw _ (own_w 49 rfl))) (mvT hZ (hw _ (own_w 48 rfl))) (by decide) (backOf (W := 2) (own_charAt l Z a0 hw [] s9 (r15 % (62 : Int32)) sa ksa (62 : Int32) own_AV (own_al (own_d M 15)) zc vS h26 n0 O E_s9 F_value_s9 F_coder_s9 V_sa S_C hzc hcg.1 hcg.2 S_S hvS) hZ (hw _ (own_w 50 rfl)) (hw _ (own_w 38 rfl)) (by decide) (by decide)) qa qc (g := (mkF m 102 (own_A11 a1 ba oo lo b1 j6 3 r15 0) [(.int (r15 % (62 : Int32))), (.ref s9), (.int j6), (.ref ba)])) rfl (by rw [hml]; rfl) (Steps.refl _) (argsL := [(.int (r15 % (62 : Int32)))]) (rest := [(.int j6), (.ref ba)]) (lenOf own_pd7 rfl) rfl (by show 2 * 0 + _ ≤ _; exact Nat.le_of_eq rfl) (hb hby ep7m5_d102) (fun _ _ => ⟨rfl, eT, (by decide : 3 + 0 ≤ _), (by decide : 256 + 0 ≤ _)⟩)
  dsimp only [Pt.U, Pt.locs, Pt.cells, Pt.slots] at X lq yq zq st hQ
  rw [lq, yq, zq] at X
  obtain ⟨rfl, Nq, eT⟩ := hQ
  replace N := Fr.app N Nq
  refine own_viaT (g' := (mkF m 105 (own_A11 a1 ba oo lo b1 j6 3 r15 0) [(.int ((own_al (own_d M 15)) &&& (255 : Int32))), (.int j6), (.ref ba)])) st ?_
  rw [own_al255 (own_dB M 15)]
  refine own_via (g' := (mkF m 106 (own_A11 a1 ba oo lo b1 j6 3 r15 0) [(.int ((own_al (own_d M 15)).toInt8.toInt32)), (.int j6), (.ref ba)])) (fun t_ k_ => XS.i2b X.here hx rfl (hb hby ep7m5_d105) rfl k_) ?_
  rw [own_alb (own_dB M 15)]
  have hat := own_at2 hj6 hno (by decide)
  obtain ⟨cl_, Ar_, qk_, Sz_, Nn_, Hs_, Gs_⟩ := id V_ba
  have hin_ : ¬ (j6 < 0 ∨ cl_.slots.size ≤ (j6).toNatClampNeg) := inb_of Sz_ hat.1
  obtain ⟨T, h27, X, eT, W, st⟩ := stB X hx hZ eT Ar_ (j := j6) hin_ (g := (mkF m 106 (own_A11 a1 ba oo lo b1 j6 3 r15 0) [(.int (own_al (own_d M 15))), (.int j6), (.ref ba)])) rfl rfl (hb hby ep7m5_d106)
  replace V_ba : Arv Z h27 ba kb_ .byte (26 : Int32) ((own_pre no M 15).set (no + 6) (Value.int (((own_al (own_d M 15))).toInt8.toInt32))) (.int 0) := Arv.set Ar_ qk_ Sz_ Nn_ Hs_ Gs_ (fits_nar_byte _) W (no + 6) hat.2 (own_preI M hno (by decide) (by decide))
  have So := S_ba
  replace E_ba := E_ba.wr W
  replace E_b1 := E_b1.wr W
  replace V_b1 := V_b1.other W (Ne.symm ne_ba_b1)
  replace E_s9 := E_s9.wr W
  replace F_coder_s9 := F_coder_s9.other W (Or.inl (Ne.symm ne_ba_s9))
  replace F_value_s9 := F_value_s9.other W (Or.inl (Ne.symm ne_ba_s9))
  replace V_sa := V_sa.other W (Ne.symm ne_ba_sa)
  replace O := O.wr W g_ba
  replace K0 := K0.wr W (Or.inl (List.mem_of_getElem? (i := 0) rfl))
  replace N := Fr.snoc X N g_ba
  replace hk := Nat.le_trans hk (own_wrSz W)
  replace S_ba := Safe.wr W So H.1 S_ba
  replace S_b1 := Safe.wr W So H.1 S_b1
  replace H := H.trans (CHr.wr W So H.1)
  refine own_via (g' := (mkF m 107 (own_A11 a1 ba oo lo b1 j6 3 r15 0) [])) st ?_
  rw [own_alb (own_dB M 15)] at V_ba
  replace V_ba : Arv Z h27 ba kb_ .byte (26 : Int32) (own_pre no M 16) (.int 0) := by rw [show own_pre no M 16 = (own_pre no M 15).set (no + 6) (Value.int (own_al (own_d M 15))) from (own_preS (by decide)).symm]; exact V_ba
  refine own_via (g' := (mkF m 109 (own_A11 a1 ba oo lo b1 j6 3 r15 0) [(.int r15)])) (fun t_ k_ => XS.iload X.here hx rfl (hb hby ep7m5_d107) rfl k_) ?_
  obtain ⟨T, X, eT, st⟩ := getS2 X hx hZ hown (host := "") (Or.inl (hw _ (own_w 44 rfl))) Via.refl eT (S_B.ext O.2) (g := (mkF m 109 (own_A11 a1 ba oo lo b1 j6 3 r15 0) [(.int r15)])) rfl (hb hby ep7m5_d109)
  refine own_via (g' := (mkF m 112 (own_A11 a1 ba oo lo b1 j6 3 r15 0) [(.int 62), (.int r15)])) st ?_
  refine own_via (g' := (mkF m 115 (own_A11 a1 ba oo lo b1 j6 3 (r15 / (62 : Int32)) 0) [])) (fun t_ k_ => XS.idiv X.here hx rfl (hb hby ep7m5_d112) rfl (by decide) (XS.istore X.here hx rfl (hb hby ep7m5_d113) rfl (l' := (own_A11 a1 ba oo lo b1 j6 3 (r15 / (62 : Int32)) 0)) rfl k_)) ?_
  obtain ⟨r16, hd_r16⟩ : ∃ z, z = (r15 / (62 : Int32)) := ⟨_, rfl⟩
  rw [← hd_r16]
  have hr16 : r16.toInt = (M / 916132832 / 916132832 / 916132832) % 916132832 / 62 := by rw [hd_r16]; exact (own_62 hr15 hz15).2
  have hz16 : 0 ≤ (M / 916132832 / 916132832 / 916132832) % 916132832 / 62 := Int.ediv_nonneg hz15 (by decide)
  refine own_via (g' := (mkF m 118 (own_A11 a1 ba oo lo b1 j6 3 r16 ((0 : Int32) + (1 : Int32))) [])) (fun t_ k_ => XS.iinc X.here hx rfl (hb hby ep7m5_d115) rfl (l' := (own_A11 a1 ba oo lo b1 j6 3 r16 ((0 : Int32) + (1 : Int32)))) rfl k_) ?_
  rw [(by decide : ((0 : Int32) + (1 : Int32)) = (1 : Int32))]
  refine own_via (g' := (mkF m 92 (own_A11 a1 ba oo lo b1 (j6 + (-1 : Int32)) 3 r16 1) [(.ref ba)])) (fun t_ k_ => XS.goto X.here hx rfl (pc0 := 118) (pc' := 82) rfl (hb hby ep7m5_d118) (by decide) (by decide) (XS.iload X.here hx rfl (hb hby ep7m5_d82) rfl (XS.iconst X.here hx rfl (hb hby ep7m5_d84) (XS.icmpNo X.here hx rfl (hb hby ep7m5_d85) rfl (tlt (by decide : (1 : Int32) < (5 : Int32))).2.1 (XS.aloadN X.here hx rfl (hb hby ep7m5_d88) rfl rfl (XS.iinc X.here hx rfl (hb hby ep7m5_d89) rfl (l' := (own_A11 a1 ba oo lo b1 (j6 + (-1 : Int32)) 3 r16 1)) rfl k_)))))) ?_
  obtain ⟨j5, hd_j5⟩ : ∃ z, z = (j6 + (-1 : Int32)) := ⟨_, rfl⟩
  rw [← hd_j5]
  have hj5 : j5.toInt = ((no + 5 : Nat) : Int) := by rw [hd_j5]; exact own_dec2 hj6
  refine own_via (g' := (mkF m 98 (own_A11 a1 ba oo lo b1 j5 3 r16 1) [(.int r16), (.ref s9), (.int j5), (.ref ba)])) (fun t_ k_ => XS.iload X.here hx rfl (hb hby ep7m5_d92) rfl (ldcAgain X hx hZ hown (hw _ (own_w 37 rfl)) hLit (g := (mkF m 94 (own_A11 a1 ba oo lo b1 j5 3 r16 1) [(.int j5), (.ref ba)])) rfl (hb hby ep7m5_d94) _ (XS.iload X.here hx rfl (hb hby ep7m5_d96) rfl k_))) ?_
  obtain ⟨T, X, eT, st⟩ := getS2 X hx hZ hown (host := "") (Or.inl (hw _ (own_w 44 rfl))) Via.refl eT (S_B.ext O.2) (g := (mkF m 98 (own_A11 a1 ba oo lo b1 j5 3 r16 1) [(.int r16), (.ref s9), (.int j5), (.ref ba)])) rfl (hb hby ep7m5_d98)
  refine own_via (g' := (mkF m 101 (own_A11 a1 ba oo lo b1 j5 3 r16 1) [(.int 62), (.int r16), (.ref s9), (.int j5), (.ref ba)])) st ?_
  refine own_via (g' := (mkF m 102 (own_A11 a1 ba oo lo b1 j5 3 r16 1) [(.int (r16 % (62 : Int32))), (.ref s9), (.int j5), (.ref ba)])) (fun t_ k_ => iremM (g := (mkF m 101 (own_A11 a1 ba oo lo b1 j5 3 r16 1) [(.int 62), (.int r16), (.ref s9), (.int j5), (.ref ba)])) X hx rfl (hb hby ep7m5_d101) rfl (by decide) k_) ?_
  have hdg := (own_62 hr16 hz16).1.trans (own_w16 hM1)
  have hcg := own_chr hdg (own_dB M 16)
  obtain ⟨cq, kq, qa, qb, qc⟩ := isOf hZ eT E_s9
  obtain ⟨_, _, ⟨T, Lq, kq, nq⟩, -, X, ⟨Lc, hQ, lq, yq, zq⟩, st⟩ := X.virtualBack hx (y := own_y7) (z := own_y7) hown (mvT hZ (hw _ (own_w 46 rfl))) (mvT hZ (hw _ (own_w 47 rfl))) (notFace_of_selects (args := #[]) (mvT hZ (hw _ (own_w 49 rfl)))) (mvT hZ (hw _ (own_w 49 rfl))) (mvT hZ (hw _ (own_w 48 rfl))) (by decide) (backOf (W := 2) (own_charAt l Z a0 hw [] s9 (r16 % (62 : Int32)) sa ksa (62 : Int32) own_AV (own_al (own_d M 16)) zc vS h27 n0 O E_s9 F_value_s9 F_coder_s9 V_sa S_C hzc hcg.1 hcg.2 S_S hvS) hZ (hw _ (own_w 50 rfl)) (hw _ (own_w 38 rfl)) (by decide) (by decide)) qa qc (g := (mkF m 102 (own_A11 a1 ba oo lo b1 j5 3 r16 1) [(.int (r16 % (62 : Int32))), (.ref s9), (.int j5), (.ref ba)])) rfl (by rw [hml]; rfl) (Steps.refl _) (argsL := [(.int (r16 % (62 : Int32)))]) (rest := [(.int j5), (.ref ba)]) (lenOf own_pd7 rfl) rfl (by show 2 * 0 + _ ≤ _; exact Nat.le_of_eq rfl) (hb hby ep7m5_d102) (fun _ _ => ⟨rfl, eT, (by decide : 3 + 0 ≤ _), (by decide : 256 + 0 ≤ _)⟩)
  dsimp only [Pt.U, Pt.locs, Pt.cells, Pt.slots] at X lq yq zq st hQ
  rw [lq, yq, zq] at X
  obtain ⟨rfl, Nq, eT⟩ := hQ
  replace N := Fr.app N Nq
  refine own_viaT (g' := (mkF m 105 (own_A11 a1 ba oo lo b1 j5 3 r16 1) [(.int ((own_al (own_d M 16)) &&& (255 : Int32))), (.int j5), (.ref ba)])) st ?_
  rw [own_al255 (own_dB M 16)]
  refine own_via (g' := (mkF m 106 (own_A11 a1 ba oo lo b1 j5 3 r16 1) [(.int ((own_al (own_d M 16)).toInt8.toInt32)), (.int j5), (.ref ba)])) (fun t_ k_ => XS.i2b X.here hx rfl (hb hby ep7m5_d105) rfl k_) ?_
  rw [own_alb (own_dB M 16)]
  have hat := own_at2 hj5 hno (by decide)
  obtain ⟨cl_, Ar_, qk_, Sz_, Nn_, Hs_, Gs_⟩ := id V_ba
  have hin_ : ¬ (j5 < 0 ∨ cl_.slots.size ≤ (j5).toNatClampNeg) := inb_of Sz_ hat.1
  obtain ⟨T, h28, X, eT, W, st⟩ := stB X hx hZ eT Ar_ (j := j5) hin_ (g := (mkF m 106 (own_A11 a1 ba oo lo b1 j5 3 r16 1) [(.int (own_al (own_d M 16))), (.int j5), (.ref ba)])) rfl rfl (hb hby ep7m5_d106)
  replace V_ba : Arv Z h28 ba kb_ .byte (26 : Int32) ((own_pre no M 16).set (no + 5) (Value.int (((own_al (own_d M 16))).toInt8.toInt32))) (.int 0) := Arv.set Ar_ qk_ Sz_ Nn_ Hs_ Gs_ (fits_nar_byte _) W (no + 5) hat.2 (own_preI M hno (by decide) (by decide))
  have So := S_ba
  replace E_ba := E_ba.wr W
  replace E_b1 := E_b1.wr W
  replace V_b1 := V_b1.other W (Ne.symm ne_ba_b1)
  replace E_s9 := E_s9.wr W
  replace F_coder_s9 := F_coder_s9.other W (Or.inl (Ne.symm ne_ba_s9))
  replace F_value_s9 := F_value_s9.other W (Or.inl (Ne.symm ne_ba_s9))
  replace V_sa := V_sa.other W (Ne.symm ne_ba_sa)
  replace O := O.wr W g_ba
  replace K0 := K0.wr W (Or.inl (List.mem_of_getElem? (i := 0) rfl))
  replace N := Fr.snoc X N g_ba
  replace hk := Nat.le_trans hk (own_wrSz W)
  replace S_ba := Safe.wr W So H.1 S_ba
  replace S_b1 := Safe.wr W So H.1 S_b1
  replace H := H.trans (CHr.wr W So H.1)
  refine own_via (g' := (mkF m 107 (own_A11 a1 ba oo lo b1 j5 3 r16 1) [])) st ?_
  rw [own_alb (own_dB M 16)] at V_ba
  replace V_ba : Arv Z h28 ba kb_ .byte (26 : Int32) (own_pre no M 17) (.int 0) := by rw [show own_pre no M 17 = (own_pre no M 16).set (no + 5) (Value.int (own_al (own_d M 16))) from (own_preS (by decide)).symm]; exact V_ba
  refine own_via (g' := (mkF m 109 (own_A11 a1 ba oo lo b1 j5 3 r16 1) [(.int r16)])) (fun t_ k_ => XS.iload X.here hx rfl (hb hby ep7m5_d107) rfl k_) ?_
  obtain ⟨T, X, eT, st⟩ := getS2 X hx hZ hown (host := "") (Or.inl (hw _ (own_w 44 rfl))) Via.refl eT (S_B.ext O.2) (g := (mkF m 109 (own_A11 a1 ba oo lo b1 j5 3 r16 1) [(.int r16)])) rfl (hb hby ep7m5_d109)
  refine own_via (g' := (mkF m 112 (own_A11 a1 ba oo lo b1 j5 3 r16 1) [(.int 62), (.int r16)])) st ?_
  refine own_via (g' := (mkF m 115 (own_A11 a1 ba oo lo b1 j5 3 (r16 / (62 : Int32)) 1) [])) (fun t_ k_ => XS.idiv X.here hx rfl (hb hby ep7m5_d112) rfl (by decide) (XS.istore X.here hx rfl (hb hby ep7m5_d113) rfl (l' := (own_A11 a1 ba oo lo b1 j5 3 (r16 / (62 : Int32)) 1)) rfl k_)) ?_
  obtain ⟨r17, hd_r17⟩ : ∃ z, z = (r16 / (62 : Int32)) := ⟨_, rfl⟩
  rw [← hd_r17]
  have hr17 : r17.toInt = (M / 916132832 / 916132832 / 916132832) % 916132832 / 62 / 62 := by rw [hd_r17]; exact (own_62 hr16 hz16).2
  have hz17 : 0 ≤ (M / 916132832 / 916132832 / 916132832) % 916132832 / 62 / 62 := Int.ediv_nonneg hz16 (by decide)
  refine own_via (g' := (mkF m 118 (own_A11 a1 ba oo lo b1 j5 3 r17 ((1 : Int32) + (1 : Int32))) [])) (fun t_ k_ => XS.iinc X.here hx rfl (hb hby ep7m5_d115) rfl (l' := (own_A11 a1 ba oo lo b1 j5 3 r17 ((1 : Int32) + (1 : Int32)))) rfl k_) ?_
  rw [(by decide : ((1 : Int32) + (1 : Int32)) = (2 : Int32))]
  refine own_via (g' := (mkF m 92 (own_A11 a1 ba oo lo b1 (j5 + (-1 : Int32)) 3 r17 2) [(.ref ba)])) (fun t_ k_ => XS.goto X.here hx rfl (pc0 := 118) (pc' := 82) rfl (hb hby ep7m5_d118) (by decide) (by decide) (XS.iload X.here hx rfl (hb hby ep7m5_d82) rfl (XS.iconst X.here hx rfl (hb hby ep7m5_d84) (XS.icmpNo X.here hx rfl (hb hby ep7m5_d85) rfl (tlt (by decide : (2 : Int32) < (5 : Int32))).2.1 (XS.aloadN X.here hx rfl (hb hby ep7m5_d88) rfl rfl (XS.iinc X.here hx rfl (hb hby ep7m5_d89) rfl (l' := (own_A11 a1 ba oo lo b1 (j5 + (-1 : Int32)) 3 r17 2)) rfl k_)))))) ?_
  obtain ⟨j4, hd_j4⟩ : ∃ z, z = (j5 + (-1 : Int32)) := ⟨_, rfl⟩
  rw [← hd_j4]
  have hj4 : j4.toInt = ((no + 4 : Nat) : Int) := by rw [hd_j4]; exact own_dec2 hj5
  refine own_via (g' := (mkF m 98 (own_A11 a1 ba oo lo b1 j4 3 r17 2) [(.int r17), (.ref s9), (.int j4), (.ref ba)])) (fun t_ k_ => XS.iload X.here hx rfl (hb hby ep7m5_d92) rfl (ldcAgain X hx hZ hown (hw _ (own_w 37 rfl)) hLit (g := (mkF m 94 (own_A11 a1 ba oo lo b1 j4 3 r17 2) [(.int j4), (.ref ba)])) rfl (hb hby ep7m5_d94) _ (XS.iload X.here hx rfl (hb hby ep7m5_d96) rfl k_))) ?_
  obtain ⟨T, X, eT, st⟩ := getS2 X hx hZ hown (host := "") (Or.inl (hw _ (own_w 44 rfl))) Via.refl eT (S_B.ext O.2) (g := (mkF m 98 (own_A11 a1 ba oo lo b1 j4 3 r17 2) [(.int r17), (.ref s9), (.int j4), (.ref ba)])) rfl (hb hby ep7m5_d98)
  refine own_via (g' := (mkF m 101 (own_A11 a1 ba oo lo b1 j4 3 r17 2) [(.int 62), (.int r17), (.ref s9), (.int j4), (.ref ba)])) st ?_
  refine own_via (g' := (mkF m 102 (own_A11 a1 ba oo lo b1 j4 3 r17 2) [(.int (r17 % (62 : Int32))), (.ref s9), (.int j4), (.ref ba)])) (fun t_ k_ => iremM (g := (mkF m 101 (own_A11 a1 ba oo lo b1 j4 3 r17 2) [(.int 62), (.int r17), (.ref s9), (.int j4), (.ref ba)])) X hx rfl (hb hby ep7m5_d101) rfl (by decide) k_) ?_
  have hdg := (own_62 hr17 hz17).1.trans (own_w17 hM1)
  have hcg := own_chr hdg (own_dB M 17)
  obtain ⟨cq, kq, qa, qb, qc⟩ := isOf hZ eT E_s9
  obtain ⟨_, _, ⟨T, Lq, kq, nq⟩, -, X, ⟨Lc, hQ, lq, yq, zq⟩, st⟩ := X.virtualBack hx (y := own_y7) (z := own_y7) hown (mvT hZ (hw _ (own_w 46 rfl))) (mvT hZ (hw _ (own_w 47 rfl))) (notFace_of_selects (args := #[]) (mvT hZ (hw _ (own_w 49 rfl)))) (mvT hZ (hw _ (own_w 49 rfl))) (mvT hZ (hw _ (own_w 48 rfl))) (by decide) (backOf (W := 2) (own_charAt l Z a0 hw [] s9 (r17 % (62 : Int32)) sa ksa (62 : Int32) own_AV (own_al (own_d M 17)) zc vS h28 n0 O E_s9 F_value_s9 F_coder_s9 V_sa S_C hzc hcg.1 hcg.2 S_S hvS) hZ (hw _ (own_w 50 rfl)) (hw _ (own_w 38 rfl)) (by decide) (by decide)) qa qc (g := (mkF m 102 (own_A11 a1 ba oo lo b1 j4 3 r17 2) [(.int (r17 % (62 : Int32))), (.ref s9), (.int j4), (.ref ba)])) rfl (by rw [hml]; rfl) (Steps.refl _) (argsL := [(.int (r17 % (62 : Int32)))]) (rest := [(.int j4), (.ref ba)]) (lenOf own_pd7 rfl) rfl (by show 2 * 0 + _ ≤ _; exact Nat.le_of_eq rfl) (hb hby ep7m5_d102) (fun _ _ => ⟨rfl, eT, (by decide : 3 + 0 ≤ _), (by decide : 256 + 0 ≤ _)⟩)
  dsimp only [Pt.U, Pt.locs, Pt.cells, Pt.slots] at X lq yq zq st hQ
  rw [lq, yq, zq] at X
  obtain ⟨rfl, Nq, eT⟩ := hQ
  replace N := Fr.app N Nq
  refine own_viaT (g' := (mkF m 105 (own_A11 a1 ba oo lo b1 j4 3 r17 2) [(.int ((own_al (own_d M 17)) &&& (255 : Int32))), (.int j4), (.ref ba)])) st ?_
  rw [own_al255 (own_dB M 17)]
  refine own_via (g' := (mkF m 106 (own_A11 a1 ba oo lo b1 j4 3 r17 2) [(.int ((own_al (own_d M 17)).toInt8.toInt32)), (.int j4), (.ref ba)])) (fun t_ k_ => XS.i2b X.here hx rfl (hb hby ep7m5_d105) rfl k_) ?_
  rw [own_alb (own_dB M 17)]
  have hat := own_at2 hj4 hno (by decide)
  obtain ⟨cl_, Ar_, qk_, Sz_, Nn_, Hs_, Gs_⟩ := id V_ba
  have hin_ : ¬ (j4 < 0 ∨ cl_.slots.size ≤ (j4).toNatClampNeg) := inb_of Sz_ hat.1
  obtain ⟨T, h29, X, eT, W, st⟩ := stB X hx hZ eT Ar_ (j := j4) hin_ (g := (mkF m 106 (own_A11 a1 ba oo lo b1 j4 3 r17 2) [(.int (own_al (own_d M 17))), (.int j4), (.ref ba)])) rfl rfl (hb hby ep7m5_d106)
  replace V_ba : Arv Z h29 ba kb_ .byte (26 : Int32) ((own_pre no M 17).set (no + 4) (Value.int (((own_al (own_d M 17))).toInt8.toInt32))) (.int 0) := Arv.set Ar_ qk_ Sz_ Nn_ Hs_ Gs_ (fits_nar_byte _) W (no + 4) hat.2 (own_preI M hno (by decide) (by decide))
  have So := S_ba
  replace E_ba := E_ba.wr W
  replace E_b1 := E_b1.wr W
  replace V_b1 := V_b1.other W (Ne.symm ne_ba_b1)
  replace E_s9 := E_s9.wr W
  replace F_coder_s9 := F_coder_s9.other W (Or.inl (Ne.symm ne_ba_s9))
  replace F_value_s9 := F_value_s9.other W (Or.inl (Ne.symm ne_ba_s9))
  replace V_sa := V_sa.other W (Ne.symm ne_ba_sa)
  replace O := O.wr W g_ba
  replace K0 := K0.wr W (Or.inl (List.mem_of_getElem? (i := 0) rfl))
  replace N := Fr.snoc X N g_ba
  replace hk := Nat.le_trans hk (own_wrSz W)
  replace S_ba := Safe.wr W So H.1 S_ba
  replace S_b1 := Safe.wr W So H.1 S_b1
  replace H := H.trans (CHr.wr W So H.1)
  refine own_via (g' := (mkF m 107 (own_A11 a1 ba oo lo b1 j4 3 r17 2) [])) st ?_
  rw [own_alb (own_dB M 17)] at V_ba
  replace V_ba : Arv Z h29 ba kb_ .byte (26 : Int32) (own_pre no M 18) (.int 0) := by rw [show own_pre no M 18 = (own_pre no M 17).set (no + 4) (Value.int (own_al (own_d M 17))) from (own_preS (by decide)).symm]; exact V_ba
  refine own_via (g' := (mkF m 109 (own_A11 a1 ba oo lo b1 j4 3 r17 2) [(.int r17)])) (fun t_ k_ => XS.iload X.here hx rfl (hb hby ep7m5_d107) rfl k_) ?_
  obtain ⟨T, X, eT, st⟩ := getS2 X hx hZ hown (host := "") (Or.inl (hw _ (own_w 44 rfl))) Via.refl eT (S_B.ext O.2) (g := (mkF m 109 (own_A11 a1 ba oo lo b1 j4 3 r17 2) [(.int r17)])) rfl (hb hby ep7m5_d109)
  refine own_via (g' := (mkF m 112 (own_A11 a1 ba oo lo b1 j4 3 r17 2) [(.int 62), (.int r17)])) st ?_
  refine own_via (g' := (mkF m 115 (own_A11 a1 ba oo lo b1 j4 3 (r17 / (62 : Int32)) 2) [])) (fun t_ k_ => XS.idiv X.here hx rfl (hb hby ep7m5_d112) rfl (by decide) (XS.istore X.here hx rfl (hb hby ep7m5_d113) rfl (l' := (own_A11 a1 ba oo lo b1 j4 3 (r17 / (62 : Int32)) 2)) rfl k_)) ?_
  obtain ⟨r18, hd_r18⟩ : ∃ z, z = (r17 / (62 : Int32)) := ⟨_, rfl⟩
  rw [← hd_r18]
  have hr18 : r18.toInt = (M / 916132832 / 916132832 / 916132832) % 916132832 / 62 / 62 / 62 := by rw [hd_r18]; exact (own_62 hr17 hz17).2
  have hz18 : 0 ≤ (M / 916132832 / 916132832 / 916132832) % 916132832 / 62 / 62 / 62 := Int.ediv_nonneg hz17 (by decide)
  refine own_via (g' := (mkF m 118 (own_A11 a1 ba oo lo b1 j4 3 r18 ((2 : Int32) + (1 : Int32))) [])) (fun t_ k_ => XS.iinc X.here hx rfl (hb hby ep7m5_d115) rfl (l' := (own_A11 a1 ba oo lo b1 j4 3 r18 ((2 : Int32) + (1 : Int32)))) rfl k_) ?_
  rw [(by decide : ((2 : Int32) + (1 : Int32)) = (3 : Int32))]
  refine own_via (g' := (mkF m 92 (own_A11 a1 ba oo lo b1 (j4 + (-1 : Int32)) 3 r18 3) [(.ref ba)])) (fun t_ k_ => XS.goto X.here hx rfl (pc0 := 118) (pc' := 82) rfl (hb hby ep7m5_d118) (by decide) (by decide) (XS.iload X.here hx rfl (hb hby ep7m5_d82) rfl (XS.iconst X.here hx rfl (hb hby ep7m5_d84) (XS.icmpNo X.here hx rfl (hb hby ep7m5_d85) rfl (tlt (by decide : (3 : Int32) < (5 : Int32))).2.1 (XS.aloadN X.here hx rfl (hb hby ep7m5_d88) rfl rfl (XS.iinc X.here hx rfl (hb hby ep7m5_d89) rfl (l' := (own_A11 a1 ba oo lo b1 (j4 + (-1 : Int32)) 3 r18 3)) rfl k_)))))) ?_
  obtain ⟨j3, hd_j3⟩ : ∃ z, z = (j4 + (-1 : Int32)) := ⟨_, rfl⟩
  rw [← hd_j3]
  have hj3 : j3.toInt = ((no + 3 : Nat) : Int) := by rw [hd_j3]; exact own_dec2 hj4
  refine own_via (g' := (mkF m 98 (own_A11 a1 ba oo lo b1 j3 3 r18 3) [(.int r18), (.ref s9), (.int j3), (.ref ba)])) (fun t_ k_ => XS.iload X.here hx rfl (hb hby ep7m5_d92) rfl (ldcAgain X hx hZ hown (hw _ (own_w 37 rfl)) hLit (g := (mkF m 94 (own_A11 a1 ba oo lo b1 j3 3 r18 3) [(.int j3), (.ref ba)])) rfl (hb hby ep7m5_d94) _ (XS.iload X.here hx rfl (hb hby ep7m5_d96) rfl k_))) ?_
  obtain ⟨T, X, eT, st⟩ := getS2 X hx hZ hown (host := "") (Or.inl (hw _ (own_w 44 rfl))) Via.refl eT (S_B.ext O.2) (g := (mkF m 98 (own_A11 a1 ba oo lo b1 j3 3 r18 3) [(.int r18), (.ref s9), (.int j3), (.ref ba)])) rfl (hb hby ep7m5_d98)
  refine own_via (g' := (mkF m 101 (own_A11 a1 ba oo lo b1 j3 3 r18 3) [(.int 62), (.int r18), (.ref s9), (.int j3), (.ref ba)])) st ?_
  refine own_via (g' := (mkF m 102 (own_A11 a1 ba oo lo b1 j3 3 r18 3) [(.int (r18 % (62 : Int32))), (.ref s9), (.int j3), (.ref ba)])) (fun t_ k_ => iremM (g := (mkF m 101 (own_A11 a1 ba oo lo b1 j3 3 r18 3) [(.int 62), (.int r18), (.ref s9), (.int j3), (.ref ba)])) X hx rfl (hb hby ep7m5_d101) rfl (by decide) k_) ?_
  have hdg := (own_62 hr18 hz18).1.trans (own_w18 hM1)
  have hcg := own_chr hdg (own_dB M 18)
  obtain ⟨cq, kq, qa, qb, qc⟩ := isOf hZ eT E_s9
  obtain ⟨_, _, ⟨T, Lq, kq, nq⟩, -, X, ⟨Lc, hQ, lq, yq, zq⟩, st⟩ := X.virtualBack hx (y := own_y7) (z := own_y7) hown (mvT hZ (hw _ (own_w 46 rfl))) (mvT hZ (hw _ (own_w 47 rfl))) (notFace_of_selects (args := #[]) (mvT hZ (hw _ (own_w 49 rfl)))) (mvT hZ (hw _ (own_w 49 rfl))) (mvT hZ (hw _ (own_w 48 rfl))) (by decide) (backOf (W := 2) (own_charAt l Z a0 hw [] s9 (r18 % (62 : Int32)) sa ksa (62 : Int32) own_AV (own_al (own_d M 18)) zc vS h29 n0 O E_s9 F_value_s9 F_coder_s9 V_sa S_C hzc hcg.1 hcg.2 S_S hvS) hZ (hw _ (own_w 50 rfl)) (hw _ (own_w 38 rfl)) (by decide) (by decide)) qa qc (g := (mkF m 102 (own_A11 a1 ba oo lo b1 j3 3 r18 3) [(.int (r18 % (62 : Int32))), (.ref s9), (.int j3), (.ref ba)])) rfl (by rw [hml]; rfl) (Steps.refl _) (argsL := [(.int (r18 % (62 : Int32)))]) (rest := [(.int j3), (.ref ba)]) (lenOf own_pd7 rfl) rfl (by show 2 * 0 + _ ≤ _; exact Nat.le_of_eq rfl) (hb hby ep7m5_d102) (fun _ _ => ⟨rfl, eT, (by decide : 3 + 0 ≤ _), (by decide : 256 + 0 ≤ _)⟩)
  dsimp only [Pt.U, Pt.locs, Pt.cells, Pt.slots] at X lq yq zq st hQ
  rw [lq, yq, zq] at X
  obtain ⟨rfl, Nq, eT⟩ := hQ
  replace N := Fr.app N Nq
  refine own_viaT (g' := (mkF m 105 (own_A11 a1 ba oo lo b1 j3 3 r18 3) [(.int ((own_al (own_d M 18)) &&& (255 : Int32))), (.int j3), (.ref ba)])) st ?_
  rw [own_al255 (own_dB M 18)]
  refine own_via (g' := (mkF m 106 (own_A11 a1 ba oo lo b1 j3 3 r18 3) [(.int ((own_al (own_d M 18)).toInt8.toInt32)), (.int j3), (.ref ba)])) (fun t_ k_ => XS.i2b X.here hx rfl (hb hby ep7m5_d105) rfl k_) ?_
  rw [own_alb (own_dB M 18)]
  have hat := own_at2 hj3 hno (by decide)
  obtain ⟨cl_, Ar_, qk_, Sz_, Nn_, Hs_, Gs_⟩ := id V_ba
  have hin_ : ¬ (j3 < 0 ∨ cl_.slots.size ≤ (j3).toNatClampNeg) := inb_of Sz_ hat.1
  obtain ⟨T, h30, X, eT, W, st⟩ := stB X hx hZ eT Ar_ (j := j3) hin_ (g := (mkF m 106 (own_A11 a1 ba oo lo b1 j3 3 r18 3) [(.int (own_al (own_d M 18))), (.int j3), (.ref ba)])) rfl rfl (hb hby ep7m5_d106)
  replace V_ba : Arv Z h30 ba kb_ .byte (26 : Int32) ((own_pre no M 18).set (no + 3) (Value.int (((own_al (own_d M 18))).toInt8.toInt32))) (.int 0) := Arv.set Ar_ qk_ Sz_ Nn_ Hs_ Gs_ (fits_nar_byte _) W (no + 3) hat.2 (own_preI M hno (by decide) (by decide))
  have So := S_ba
  replace E_ba := E_ba.wr W
  replace E_b1 := E_b1.wr W
  replace V_b1 := V_b1.other W (Ne.symm ne_ba_b1)
  replace E_s9 := E_s9.wr W
  replace F_coder_s9 := F_coder_s9.other W (Or.inl (Ne.symm ne_ba_s9))
  replace F_value_s9 := F_value_s9.other W (Or.inl (Ne.symm ne_ba_s9))
  replace V_sa := V_sa.other W (Ne.symm ne_ba_sa)
  replace O := O.wr W g_ba
  replace K0 := K0.wr W (Or.inl (List.mem_of_getElem? (i := 0) rfl))
  replace N := Fr.snoc X N g_ba
  replace hk := Nat.le_trans hk (own_wrSz W)
  replace S_ba := Safe.wr W So H.1 S_ba
  replace S_b1 := Safe.wr W So H.1 S_b1
  replace H := H.trans (CHr.wr W So H.1)
  refine own_via (g' := (mkF m 107 (own_A11 a1 ba oo lo b1 j3 3 r18 3) [])) st ?_
  rw [own_alb (own_dB M 18)] at V_ba
  replace V_ba : Arv Z h30 ba kb_ .byte (26 : Int32) (own_pre no M 19) (.int 0) := by rw [show own_pre no M 19 = (own_pre no M 18).set (no + 3) (Value.int (own_al (own_d M 18))) from (own_preS (by decide)).symm]; exact V_ba
  refine own_via (g' := (mkF m 109 (own_A11 a1 ba oo lo b1 j3 3 r18 3) [(.int r18)])) (fun t_ k_ => XS.iload X.here hx rfl (hb hby ep7m5_d107) rfl k_) ?_
  obtain ⟨T, X, eT, st⟩ := getS2 X hx hZ hown (host := "") (Or.inl (hw _ (own_w 44 rfl))) Via.refl eT (S_B.ext O.2) (g := (mkF m 109 (own_A11 a1 ba oo lo b1 j3 3 r18 3) [(.int r18)])) rfl (hb hby ep7m5_d109)
  refine own_via (g' := (mkF m 112 (own_A11 a1 ba oo lo b1 j3 3 r18 3) [(.int 62), (.int r18)])) st ?_
  refine own_via (g' := (mkF m 115 (own_A11 a1 ba oo lo b1 j3 3 (r18 / (62 : Int32)) 3) [])) (fun t_ k_ => XS.idiv X.here hx rfl (hb hby ep7m5_d112) rfl (by decide) (XS.istore X.here hx rfl (hb hby ep7m5_d113) rfl (l' := (own_A11 a1 ba oo lo b1 j3 3 (r18 / (62 : Int32)) 3)) rfl k_)) ?_
  obtain ⟨r19, hd_r19⟩ : ∃ z, z = (r18 / (62 : Int32)) := ⟨_, rfl⟩
  rw [← hd_r19]
  have hr19 : r19.toInt = (M / 916132832 / 916132832 / 916132832) % 916132832 / 62 / 62 / 62 / 62 := by rw [hd_r19]; exact (own_62 hr18 hz18).2
  have hz19 : 0 ≤ (M / 916132832 / 916132832 / 916132832) % 916132832 / 62 / 62 / 62 / 62 := Int.ediv_nonneg hz18 (by decide)
  refine own_via (g' := (mkF m 118 (own_A11 a1 ba oo lo b1 j3 3 r19 ((3 : Int32) + (1 : Int32))) [])) (fun t_ k_ => XS.iinc X.here hx rfl (hb hby ep7m5_d115) rfl (l' := (own_A11 a1 ba oo lo b1 j3 3 r19 ((3 : Int32) + (1 : Int32)))) rfl k_) ?_
  rw [(by decide : ((3 : Int32) + (1 : Int32)) = (4 : Int32))]
  refine own_via (g' := (mkF m 92 (own_A11 a1 ba oo lo b1 (j3 + (-1 : Int32)) 3 r19 4) [(.ref ba)])) (fun t_ k_ => XS.goto X.here hx rfl (pc0 := 118) (pc' := 82) rfl (hb hby ep7m5_d118) (by decide) (by decide) (XS.iload X.here hx rfl (hb hby ep7m5_d82) rfl (XS.iconst X.here hx rfl (hb hby ep7m5_d84) (XS.icmpNo X.here hx rfl (hb hby ep7m5_d85) rfl (tlt (by decide : (4 : Int32) < (5 : Int32))).2.1 (XS.aloadN X.here hx rfl (hb hby ep7m5_d88) rfl rfl (XS.iinc X.here hx rfl (hb hby ep7m5_d89) rfl (l' := (own_A11 a1 ba oo lo b1 (j3 + (-1 : Int32)) 3 r19 4)) rfl k_)))))) ?_
  obtain ⟨j2, hd_j2⟩ : ∃ z, z = (j3 + (-1 : Int32)) := ⟨_, rfl⟩
  rw [← hd_j2]
  have hj2 : j2.toInt = ((no + 2 : Nat) : Int) := by rw [hd_j2]; exact own_dec2 hj3
  refine own_via (g' := (mkF m 98 (own_A11 a1 ba oo lo b1 j2 3 r19 4) [(.int r19), (.ref s9), (.int j2), (.ref ba)])) (fun t_ k_ => XS.iload X.here hx rfl (hb hby ep7m5_d92) rfl (ldcAgain X hx hZ hown (hw _ (own_w 37 rfl)) hLit (g := (mkF m 94 (own_A11 a1 ba oo lo b1 j2 3 r19 4) [(.int j2), (.ref ba)])) rfl (hb hby ep7m5_d94) _ (XS.iload X.here hx rfl (hb hby ep7m5_d96) rfl k_))) ?_
  obtain ⟨T, X, eT, st⟩ := getS2 X hx hZ hown (host := "") (Or.inl (hw _ (own_w 44 rfl))) Via.refl eT (S_B.ext O.2) (g := (mkF m 98 (own_A11 a1 ba oo lo b1 j2 3 r19 4) [(.int r19), (.ref s9), (.int j2), (.ref ba)])) rfl (hb hby ep7m5_d98)
  refine own_via (g' := (mkF m 101 (own_A11 a1 ba oo lo b1 j2 3 r19 4) [(.int 62), (.int r19), (.ref s9), (.int j2), (.ref ba)])) st ?_
  refine own_via (g' := (mkF m 102 (own_A11 a1 ba oo lo b1 j2 3 r19 4) [(.int (r19 % (62 : Int32))), (.ref s9), (.int j2), (.ref ba)])) (fun t_ k_ => iremM (g := (mkF m 101 (own_A11 a1 ba oo lo b1 j2 3 r19 4) [(.int 62), (.int r19), (.ref s9), (.int j2), (.ref ba)])) X hx rfl (hb hby ep7m5_d101) rfl (by decide) k_) ?_
  have hdg := (own_62 hr19 hz19).1.trans (own_w19 hM1)
  have hcg := own_chr hdg (own_dB M 19)
  obtain ⟨cq, kq, qa, qb, qc⟩ := isOf hZ eT E_s9
  obtain ⟨_, _, ⟨T, Lq, kq, nq⟩, -, X, ⟨Lc, hQ, lq, yq, zq⟩, st⟩ := X.virtualBack hx (y := own_y7) (z := own_y7) hown (mvT hZ (hw _ (own_w 46 rfl))) (mvT hZ (hw _ (own_w 47 rfl))) (notFace_of_selects (args := #[]) (mvT hZ (hw _ (own_w 49 rfl)))) (mvT hZ (hw _ (own_w 49 rfl))) (mvT hZ (hw _ (own_w 48 rfl))) (by decide) (backOf (W := 2) (own_charAt l Z a0 hw [] s9 (r19 % (62 : Int32)) sa ksa (62 : Int32) own_AV (own_al (own_d M 19)) zc vS h30 n0 O E_s9 F_value_s9 F_coder_s9 V_sa S_C hzc hcg.1 hcg.2 S_S hvS) hZ (hw _ (own_w 50 rfl)) (hw _ (own_w 38 rfl)) (by decide) (by decide)) qa qc (g := (mkF m 102 (own_A11 a1 ba oo lo b1 j2 3 r19 4) [(.int (r19 % (62 : Int32))), (.ref s9), (.int j2), (.ref ba)])) rfl (by rw [hml]; rfl) (Steps.refl _) (argsL := [(.int (r19 % (62 : Int32)))]) (rest := [(.int j2), (.ref ba)]) (lenOf own_pd7 rfl) rfl (by show 2 * 0 + _ ≤ _; exact Nat.le_of_eq rfl) (hb hby ep7m5_d102) (fun _ _ => ⟨rfl, eT, (by decide : 3 + 0 ≤ _), (by decide : 256 + 0 ≤ _)⟩)
  dsimp only [Pt.U, Pt.locs, Pt.cells, Pt.slots] at X lq yq zq st hQ
  rw [lq, yq, zq] at X
  obtain ⟨rfl, Nq, eT⟩ := hQ
  replace N := Fr.app N Nq
  refine own_viaT (g' := (mkF m 105 (own_A11 a1 ba oo lo b1 j2 3 r19 4) [(.int ((own_al (own_d M 19)) &&& (255 : Int32))), (.int j2), (.ref ba)])) st ?_
  rw [own_al255 (own_dB M 19)]
  refine own_via (g' := (mkF m 106 (own_A11 a1 ba oo lo b1 j2 3 r19 4) [(.int ((own_al (own_d M 19)).toInt8.toInt32)), (.int j2), (.ref ba)])) (fun t_ k_ => XS.i2b X.here hx rfl (hb hby ep7m5_d105) rfl k_) ?_
  rw [own_alb (own_dB M 19)]
  have hat := own_at2 hj2 hno (by decide)
  obtain ⟨cl_, Ar_, qk_, Sz_, Nn_, Hs_, Gs_⟩ := id V_ba
  have hin_ : ¬ (j2 < 0 ∨ cl_.slots.size ≤ (j2).toNatClampNeg) := inb_of Sz_ hat.1
  obtain ⟨T, h31, X, eT, W, st⟩ := stB X hx hZ eT Ar_ (j := j2) hin_ (g := (mkF m 106 (own_A11 a1 ba oo lo b1 j2 3 r19 4) [(.int (own_al (own_d M 19))), (.int j2), (.ref ba)])) rfl rfl (hb hby ep7m5_d106)
  replace V_ba : Arv Z h31 ba kb_ .byte (26 : Int32) ((own_pre no M 19).set (no + 2) (Value.int (((own_al (own_d M 19))).toInt8.toInt32))) (.int 0) := Arv.set Ar_ qk_ Sz_ Nn_ Hs_ Gs_ (fits_nar_byte _) W (no + 2) hat.2 (own_preI M hno (by decide) (by decide))
  have So := S_ba
  replace E_ba := E_ba.wr W
  replace E_b1 := E_b1.wr W
  replace V_b1 := V_b1.other W (Ne.symm ne_ba_b1)
  replace E_s9 := E_s9.wr W
  replace F_coder_s9 := F_coder_s9.other W (Or.inl (Ne.symm ne_ba_s9))
  replace F_value_s9 := F_value_s9.other W (Or.inl (Ne.symm ne_ba_s9))
  replace V_sa := V_sa.other W (Ne.symm ne_ba_sa)
  replace O := O.wr W g_ba
  replace K0 := K0.wr W (Or.inl (List.mem_of_getElem? (i := 0) rfl))
  replace N := Fr.snoc X N g_ba
  replace hk := Nat.le_trans hk (own_wrSz W)
  replace S_ba := Safe.wr W So H.1 S_ba
  replace S_b1 := Safe.wr W So H.1 S_b1
  replace H := H.trans (CHr.wr W So H.1)
  refine own_via (g' := (mkF m 107 (own_A11 a1 ba oo lo b1 j2 3 r19 4) [])) st ?_
  rw [own_alb (own_dB M 19)] at V_ba
  replace V_ba : Arv Z h31 ba kb_ .byte (26 : Int32) (own_pre no M 20) (.int 0) := by rw [show own_pre no M 20 = (own_pre no M 19).set (no + 2) (Value.int (own_al (own_d M 19))) from (own_preS (by decide)).symm]; exact V_ba
  refine own_via (g' := (mkF m 109 (own_A11 a1 ba oo lo b1 j2 3 r19 4) [(.int r19)])) (fun t_ k_ => XS.iload X.here hx rfl (hb hby ep7m5_d107) rfl k_) ?_
  obtain ⟨T, X, eT, st⟩ := getS2 X hx hZ hown (host := "") (Or.inl (hw _ (own_w 44 rfl))) Via.refl eT (S_B.ext O.2) (g := (mkF m 109 (own_A11 a1 ba oo lo b1 j2 3 r19 4) [(.int r19)])) rfl (hb hby ep7m5_d109)
  refine own_via (g' := (mkF m 112 (own_A11 a1 ba oo lo b1 j2 3 r19 4) [(.int 62), (.int r19)])) st ?_
  refine own_via (g' := (mkF m 115 (own_A11 a1 ba oo lo b1 j2 3 (r19 / (62 : Int32)) 4) [])) (fun t_ k_ => XS.idiv X.here hx rfl (hb hby ep7m5_d112) rfl (by decide) (XS.istore X.here hx rfl (hb hby ep7m5_d113) rfl (l' := (own_A11 a1 ba oo lo b1 j2 3 (r19 / (62 : Int32)) 4)) rfl k_)) ?_
  obtain ⟨u20, hd_u20⟩ : ∃ z, z = (r19 / (62 : Int32)) := ⟨_, rfl⟩
  rw [← hd_u20]
  refine own_via (g' := (mkF m 118 (own_A11 a1 ba oo lo b1 j2 3 u20 ((4 : Int32) + (1 : Int32))) [])) (fun t_ k_ => XS.iinc X.here hx rfl (hb hby ep7m5_d115) rfl (l' := (own_A11 a1 ba oo lo b1 j2 3 u20 ((4 : Int32) + (1 : Int32)))) rfl k_) ?_
  rw [(by decide : ((4 : Int32) + (1 : Int32)) = (5 : Int32))]
  refine own_via (g' := (mkF m 124 (own_A11 a1 ba oo lo b1 j2 ((3 : Int32) + (1 : Int32)) u20 5) [])) (fun t_ k_ => XS.goto X.here hx rfl (pc0 := 118) (pc' := 82) rfl (hb hby ep7m5_d118) (by decide) (by decide) (XS.iload X.here hx rfl (hb hby ep7m5_d82) rfl (XS.iconst X.here hx rfl (hb hby ep7m5_d84) (XS.icmpYes X.here hx rfl (pc0 := 85) (pc' := 121) rfl (hb hby ep7m5_d85) rfl (flt (by decide : ¬ ((5 : Int32) < (5 : Int32)))).2.1 (by decide) (by decide) (XS.iinc X.here hx rfl (hb hby ep7m5_d121) rfl (l' := (own_A11 a1 ba oo lo b1 j2 ((3 : Int32) + (1 : Int32)) u20 5)) rfl k_))))) ?_
  rw [(by decide : ((3 : Int32) + (1 : Int32)) = (4 : Int32))]
  refine own_via (g' := (mkF m 130 (own_A11 a1 ba oo lo b1 j2 4 u20 5) [(.int 3), (.ref b1)])) (fun t_ k_ => XS.goto X.here hx rfl (pc0 := 124) (pc' := 64) rfl (hb hby ep7m5_d124) (by decide) (by decide) (XS.iload X.here hx rfl (hb hby ep7m5_d64) rfl (XS.iconst X.here hx rfl (hb hby ep7m5_d66) (XS.icmpYes X.here hx rfl (pc0 := 67) (pc' := 127) rfl (hb hby ep7m5_d67) rfl (flt (by decide : ¬ ((4 : Int32) < (4 : Int32)))).2.1 (by decide) (by decide) (XS.aload X.here hx rfl (hb hby ep7m5_d127) rfl rfl (XS.iconst X.here hx rfl (hb hby ep7m5_d129) k_)))))) ?_
  obtain ⟨cl_, Ar_, -, Sz_, Nn_, Hs_, -⟩ := id V_b1
  have hin_ : ¬ ((3 : Int32) < 0 ∨ cl_.slots.size ≤ ((3 : Int32)).toNatClampNeg) := inb_of Sz_ ⟨by decide, by decide⟩
  have hat_ : cl_.slots[((3 : Int32)).toNatClampNeg]? = some (.long y4_3) := Hs_.at hin_ rfl
  refine own_via (g' := (mkF m 134 (own_A11 a1 ba oo lo b1 j2 (y4_3.toInt32) u20 5) [])) (fun t_ k_ => X.laload hx (j := (3 : Int32)) (v := (.long y4_3)) (by rw [eT]; exact Ar_.1) (State.isArrayOf_alike hZ.alike Ar_.2.1) Ar_.2.2 hin_ hat_ (g := (mkF m 130 (own_A11 a1 ba oo lo b1 j2 4 u20 5) [(.int 3), (.ref b1)])) rfl rfl (hb hby ep7m5_d130) _ (XS.l2i X.here hx rfl (hb hby ep7m5_d131) rfl (XS.istore X.here hx rfl (hb hby ep7m5_d132) rfl (l' := (own_A11 a1 ba oo lo b1 j2 (y4_3.toInt32) u20 5)) rfl k_))) ?_
  obtain ⟨rt, hd_rt⟩ : ∃ z, z = (y4_3.toInt32) := ⟨_, rfl⟩
  rw [← hd_rt]
  have hrt : rt.toInt = (M / 916132832 / 916132832 / 916132832 / 916132832) := by rw [hd_rt]; exact own_top hL4 (own_w20 hM1 hM2).1
  refine own_via (g' := (mkF m 138 (own_A11 a1 ba oo lo b1 (j2 + (-1 : Int32)) rt u20 5) [(.ref ba)])) (fun t_ k_ => XS.aloadN X.here hx rfl (hb hby ep7m5_d134) rfl rfl (XS.iinc X.here hx rfl (hb hby ep7m5_d135) rfl (l' := (own_A11 a1 ba oo lo b1 (j2 + (-1 : Int32)) rt u20 5)) rfl k_)) ?_
  obtain ⟨j1, hd_j1⟩ : ∃ z, z = (j2 + (-1 : Int32)) := ⟨_, rfl⟩
  rw [← hd_j1]
  have hj1 : j1.toInt = ((no + 1 : Nat) : Int) := by rw [hd_j1]; exact own_dec2 hj2
  refine own_via (g' := (mkF m 144 (own_A11 a1 ba oo lo b1 j1 rt u20 5) [(.int rt), (.ref s9), (.int j1), (.ref ba)])) (fun t_ k_ => XS.iload X.here hx rfl (hb hby ep7m5_d138) rfl (ldcAgain X hx hZ hown (hw _ (own_w 37 rfl)) hLit (g := (mkF m 140 (own_A11 a1 ba oo lo b1 j1 rt u20 5) [(.int j1), (.ref ba)])) rfl (hb hby ep7m5_d140) _ (XS.iload X.here hx rfl (hb hby ep7m5_d142) rfl k_))) ?_
  obtain ⟨T, X, eT, st⟩ := getS2 X hx hZ hown (host := "") (Or.inl (hw _ (own_w 44 rfl))) Via.refl eT (S_B.ext O.2) (g := (mkF m 144 (own_A11 a1 ba oo lo b1 j1 rt u20 5) [(.int rt), (.ref s9), (.int j1), (.ref ba)])) rfl (hb hby ep7m5_d144)
  refine own_via (g' := (mkF m 147 (own_A11 a1 ba oo lo b1 j1 rt u20 5) [(.int 62), (.int rt), (.ref s9), (.int j1), (.ref ba)])) st ?_
  refine own_via (g' := (mkF m 148 (own_A11 a1 ba oo lo b1 j1 rt u20 5) [(.int (rt % (62 : Int32))), (.ref s9), (.int j1), (.ref ba)])) (fun t_ k_ => iremM (g := (mkF m 147 (own_A11 a1 ba oo lo b1 j1 rt u20 5) [(.int 62), (.int rt), (.ref s9), (.int j1), (.ref ba)])) X hx rfl (hb hby ep7m5_d147) rfl (by decide) k_) ?_
  have hdg := (own_62 hrt (own_w20 hM1 hM2).2.1).1.trans (own_w20 hM1 hM2).2.2.1
  have hcg := own_chr hdg (own_dB M 20)
  obtain ⟨cq, kq, qa, qb, qc⟩ := isOf hZ eT E_s9
  obtain ⟨_, _, ⟨T, Lq, kq, nq⟩, -, X, ⟨Lc, hQ, lq, yq, zq⟩, st⟩ := X.virtualBack hx (y := own_y7) (z := own_y7) hown (mvT hZ (hw _ (own_w 46 rfl))) (mvT hZ (hw _ (own_w 47 rfl))) (notFace_of_selects (args := #[]) (mvT hZ (hw _ (own_w 49 rfl)))) (mvT hZ (hw _ (own_w 49 rfl))) (mvT hZ (hw _ (own_w 48 rfl))) (by decide) (backOf (W := 2) (own_charAt l Z a0 hw [] s9 (rt % (62 : Int32)) sa ksa (62 : Int32) own_AV (own_al (own_d M 20)) zc vS h31 n0 O E_s9 F_value_s9 F_coder_s9 V_sa S_C hzc hcg.1 hcg.2 S_S hvS) hZ (hw _ (own_w 50 rfl)) (hw _ (own_w 38 rfl)) (by decide) (by decide)) qa qc (g := (mkF m 148 (own_A11 a1 ba oo lo b1 j1 rt u20 5) [(.int (rt % (62 : Int32))), (.ref s9), (.int j1), (.ref ba)])) rfl (by rw [hml]; rfl) (Steps.refl _) (argsL := [(.int (rt % (62 : Int32)))]) (rest := [(.int j1), (.ref ba)]) (lenOf own_pd7 rfl) rfl (by show 2 * 0 + _ ≤ _; exact Nat.le_of_eq rfl) (hb hby ep7m5_d148) (fun _ _ => ⟨rfl, eT, (by decide : 3 + 0 ≤ _), (by decide : 256 + 0 ≤ _)⟩)
  dsimp only [Pt.U, Pt.locs, Pt.cells, Pt.slots] at X lq yq zq st hQ
  rw [lq, yq, zq] at X
  obtain ⟨rfl, Nq, eT⟩ := hQ
  replace N := Fr.app N Nq
  refine own_viaT (g' := (mkF m 151 (own_A11 a1 ba oo lo b1 j1 rt u20 5) [(.int ((own_al (own_d M 20)) &&& (255 : Int32))), (.int j1), (.ref ba)])) st ?_
  rw [own_al255 (own_dB M 20)]
  refine own_via (g' := (mkF m 152 (own_A11 a1 ba oo lo b1 j1 rt u20 5) [(.int ((own_al (own_d M 20)).toInt8.toInt32)), (.int j1), (.ref ba)])) (fun t_ k_ => XS.i2b X.here hx rfl (hb hby ep7m5_d151) rfl k_) ?_
  rw [own_alb (own_dB M 20)]
  have hat := own_at2 hj1 hno (by decide)
  obtain ⟨cl_, Ar_, qk_, Sz_, Nn_, Hs_, Gs_⟩ := id V_ba
  have hin_ : ¬ (j1 < 0 ∨ cl_.slots.size ≤ (j1).toNatClampNeg) := inb_of Sz_ hat.1
  obtain ⟨T, h32, X, eT, W, st⟩ := stB X hx hZ eT Ar_ (j := j1) hin_ (g := (mkF m 152 (own_A11 a1 ba oo lo b1 j1 rt u20 5) [(.int (own_al (own_d M 20))), (.int j1), (.ref ba)])) rfl rfl (hb hby ep7m5_d152)
  replace V_ba : Arv Z h32 ba kb_ .byte (26 : Int32) ((own_pre no M 20).set (no + 1) (Value.int (((own_al (own_d M 20))).toInt8.toInt32))) (.int 0) := Arv.set Ar_ qk_ Sz_ Nn_ Hs_ Gs_ (fits_nar_byte _) W (no + 1) hat.2 (own_preI M hno (by decide) (by decide))
  have So := S_ba
  replace E_ba := E_ba.wr W
  replace E_b1 := E_b1.wr W
  replace V_b1 := V_b1.other W (Ne.symm ne_ba_b1)
  replace E_s9 := E_s9.wr W
  replace F_coder_s9 := F_coder_s9.other W (Or.inl (Ne.symm ne_ba_s9))
  replace F_value_s9 := F_value_s9.other W (Or.inl (Ne.symm ne_ba_s9))
  replace V_sa := V_sa.other W (Ne.symm ne_ba_sa)
  replace O := O.wr W g_ba
  replace K0 := K0.wr W (Or.inl (List.mem_of_getElem? (i := 0) rfl))
  replace N := Fr.snoc X N g_ba
  replace hk := Nat.le_trans hk (own_wrSz W)
  replace S_ba := Safe.wr W So H.1 S_ba
  replace S_b1 := Safe.wr W So H.1 S_b1
  replace H := H.trans (CHr.wr W So H.1)
  refine own_via (g' := (mkF m 153 (own_A11 a1 ba oo lo b1 j1 rt u20 5) [])) st ?_
  rw [own_alb (own_dB M 20)] at V_ba
  replace V_ba : Arv Z h32 ba kb_ .byte (26 : Int32) (own_pre no M 21) (.int 0) := by rw [show own_pre no M 21 = (own_pre no M 20).set (no + 1) (Value.int (own_al (own_d M 20))) from (own_preS (by decide)).symm]; exact V_ba
  refine own_via (g' := (mkF m 157 (own_A11 a1 ba oo lo b1 (j1 + (-1 : Int32)) rt u20 5) [(.ref ba)])) (fun t_ k_ => XS.aloadN X.here hx rfl (hb hby ep7m5_d153) rfl rfl (XS.iinc X.here hx rfl (hb hby ep7m5_d154) rfl (l' := (own_A11 a1 ba oo lo b1 (j1 + (-1 : Int32)) rt u20 5)) rfl k_)) ?_
  obtain ⟨j0, hd_j0⟩ : ∃ z, z = (j1 + (-1 : Int32)) := ⟨_, rfl⟩
  rw [← hd_j0]
  have hj0 : j0.toInt = ((no + 0 : Nat) : Int) := by rw [hd_j0]; exact own_dec2 hj1
  refine own_via (g' := (mkF m 163 (own_A11 a1 ba oo lo b1 j0 rt u20 5) [(.int rt), (.ref s9), (.int j0), (.ref ba)])) (fun t_ k_ => XS.iload X.here hx rfl (hb hby ep7m5_d157) rfl (ldcAgain X hx hZ hown (hw _ (own_w 37 rfl)) hLit (g := (mkF m 159 (own_A11 a1 ba oo lo b1 j0 rt u20 5) [(.int j0), (.ref ba)])) rfl (hb hby ep7m5_d159) _ (XS.iload X.here hx rfl (hb hby ep7m5_d161) rfl k_))) ?_
  obtain ⟨T, X, eT, st⟩ := getS2 X hx hZ hown (host := "") (Or.inl (hw _ (own_w 44 rfl))) Via.refl eT (S_B.ext O.2) (g := (mkF m 163 (own_A11 a1 ba oo lo b1 j0 rt u20 5) [(.int rt), (.ref s9), (.int j0), (.ref ba)])) rfl (hb hby ep7m5_d163)
  refine own_via (g' := (mkF m 166 (own_A11 a1 ba oo lo b1 j0 rt u20 5) [(.int 62), (.int rt), (.ref s9), (.int j0), (.ref ba)])) st ?_
  refine own_via (g' := (mkF m 167 (own_A11 a1 ba oo lo b1 j0 rt u20 5) [(.int (rt / (62 : Int32))), (.ref s9), (.int j0), (.ref ba)])) (fun t_ k_ => XS.idiv X.here hx rfl (hb hby ep7m5_d166) rfl (by decide) k_) ?_
  have hdg := (own_62 hrt (own_w20 hM1 hM2).2.1).2.trans (own_w20 hM1 hM2).2.2.2.1
  have hcg := own_chr hdg (own_dB M 21)
  obtain ⟨cq, kq, qa, qb, qc⟩ := isOf hZ eT E_s9
  obtain ⟨_, _, ⟨T, Lq, kq, nq⟩, -, X, ⟨Lc, hQ, lq, yq, zq⟩, st⟩ := X.virtualBack hx (y := own_y7) (z := own_y7) hown (mvT hZ (hw _ (own_w 46 rfl))) (mvT hZ (hw _ (own_w 47 rfl))) (notFace_of_selects (args := #[]) (mvT hZ (hw _ (own_w 49 rfl)))) (mvT hZ (hw _ (own_w 49 rfl))) (mvT hZ (hw _ (own_w 48 rfl))) (by decide) (backOf (W := 2) (own_charAt l Z a0 hw [] s9 (rt / (62 : Int32)) sa ksa (62 : Int32) own_AV (own_al (own_d M 21)) zc vS h32 n0 O E_s9 F_value_s9 F_coder_s9 V_sa S_C hzc hcg.1 hcg.2 S_S hvS) hZ (hw _ (own_w 50 rfl)) (hw _ (own_w 38 rfl)) (by decide) (by decide)) qa qc (g := (mkF m 167 (own_A11 a1 ba oo lo b1 j0 rt u20 5) [(.int (rt / (62 : Int32))), (.ref s9), (.int j0), (.ref ba)])) rfl (by rw [hml]; rfl) (Steps.refl _) (argsL := [(.int (rt / (62 : Int32)))]) (rest := [(.int j0), (.ref ba)]) (lenOf own_pd7 rfl) rfl (by show 2 * 0 + _ ≤ _; exact Nat.le_of_eq rfl) (hb hby ep7m5_d167) (fun _ _ => ⟨rfl, eT, (by decide : 3 + 0 ≤ _), (by decide : 256 + 0 ≤ _)⟩)
  dsimp only [Pt.U, Pt.locs, Pt.cells, Pt.slots] at X lq yq zq st hQ
  rw [lq, yq, zq] at X
  obtain ⟨rfl, Nq, eT⟩ := hQ
  replace N := Fr.app N Nq
  refine own_viaT (g' := (mkF m 170 (own_A11 a1 ba oo lo b1 j0 rt u20 5) [(.int ((own_al (own_d M 21)) &&& (255 : Int32))), (.int j0), (.ref ba)])) st ?_
  rw [own_al255 (own_dB M 21)]
  refine own_via (g' := (mkF m 171 (own_A11 a1 ba oo lo b1 j0 rt u20 5) [(.int ((own_al (own_d M 21)).toInt8.toInt32)), (.int j0), (.ref ba)])) (fun t_ k_ => XS.i2b X.here hx rfl (hb hby ep7m5_d170) rfl k_) ?_
  rw [own_alb (own_dB M 21)]
  have hat := own_at2 hj0 hno (by decide)
  obtain ⟨cl_, Ar_, qk_, Sz_, Nn_, Hs_, Gs_⟩ := id V_ba
  have hin_ : ¬ (j0 < 0 ∨ cl_.slots.size ≤ (j0).toNatClampNeg) := inb_of Sz_ hat.1
  obtain ⟨T, h33, X, eT, W, st⟩ := stB X hx hZ eT Ar_ (j := j0) hin_ (g := (mkF m 171 (own_A11 a1 ba oo lo b1 j0 rt u20 5) [(.int (own_al (own_d M 21))), (.int j0), (.ref ba)])) rfl rfl (hb hby ep7m5_d171)
  replace V_ba : Arv Z h33 ba kb_ .byte (26 : Int32) ((own_pre no M 21).set (no + 0) (Value.int (((own_al (own_d M 21))).toInt8.toInt32))) (.int 0) := Arv.set Ar_ qk_ Sz_ Nn_ Hs_ Gs_ (fits_nar_byte _) W (no + 0) hat.2 (own_preI M hno (by decide) (by decide))
  have So := S_ba
  replace E_ba := E_ba.wr W
  replace E_b1 := E_b1.wr W
  replace V_b1 := V_b1.other W (Ne.symm ne_ba_b1)
  replace E_s9 := E_s9.wr W
  replace F_coder_s9 := F_coder_s9.other W (Or.inl (Ne.symm ne_ba_s9))
  replace F_value_s9 := F_value_s9.other W (Or.inl (Ne.symm ne_ba_s9))
  replace V_sa := V_sa.other W (Ne.symm ne_ba_sa)
  replace O := O.wr W g_ba
  replace K0 := K0.wr W (Or.inl (List.mem_of_getElem? (i := 0) rfl))
  replace N := Fr.snoc X N g_ba
  replace hk := Nat.le_trans hk (own_wrSz W)
  replace S_ba := Safe.wr W So H.1 S_ba
  replace S_b1 := Safe.wr W So H.1 S_b1
  replace H := H.trans (CHr.wr W So H.1)
  refine own_via (g' := (mkF m 172 (own_A11 a1 ba oo lo b1 j0 rt u20 5) [])) st ?_
  rw [own_alb (own_dB M 21)] at V_ba
  replace V_ba : Arv Z h33 ba kb_ .byte (26 : Int32) (own_pre no M 22) (.int 0) := by rw [show own_pre no M 22 = (own_pre no M 21).set (no + 0) (Value.int (own_al (own_d M 21))) from (own_preS (by decide)).symm]; exact V_ba
  refine own_retVW X hS (by rw [eT]; exact hk) hx hlk Bd.returns (hb hby ep7m5_d172) (by decide) (by decide) (fun fs => by show CHr Z own_EL s.vm s.heap T.vm T.heap; rw [eT, hh]; exact H.trans (CHv.at X hZ hEL H.1)) ?_
  rw [eT]
  exact ⟨rfl, N, K0, by rw [← own_pre22]; exact V_ba⟩
theorem emethod_4_d0 : decode method_4_code 0 = .ok (.iload_n 0, 1) := by decide +kernel
theorem emethod_4_d1 : decode method_4_code 1 = .ok (.bipush 48, 2) := by decide +kernel
theorem emethod_4_d3 : decode method_4_code 3 = .ok (.if_icmp .lt 9, 3) := by decide +kernel
theorem emethod_4_d6 : decode method_4_code 6 = .ok (.iload_n 0, 1) := by decide +kernel
theorem emethod_4_d7 : decode method_4_code 7 = .ok (.bipush 57, 2) := by decide +kernel
theorem emethod_4_d9 : decode method_4_code 9 = .ok (.if_icmp .le 27, 3) := by decide +kernel
theorem emethod_4_d12 : decode method_4_code 12 = .ok (.iload_n 0, 1) := by decide +kernel
theorem emethod_4_d13 : decode method_4_code 13 = .ok (.bipush 65, 2) := by decide +kernel
theorem emethod_4_d15 : decode method_4_code 15 = .ok (.if_icmp .lt 9, 3) := by decide +kernel
theorem emethod_4_d18 : decode method_4_code 18 = .ok (.iload_n 0, 1) := by decide +kernel
theorem emethod_4_d19 : decode method_4_code 19 = .ok (.bipush 90, 2) := by decide +kernel
theorem emethod_4_d21 : decode method_4_code 21 = .ok (.if_icmp .le 15, 3) := by decide +kernel
theorem emethod_4_d24 : decode method_4_code 24 = .ok (.iload_n 0, 1) := by decide +kernel
theorem emethod_4_d25 : decode method_4_code 25 = .ok (.bipush 97, 2) := by decide +kernel
theorem emethod_4_d27 : decode method_4_code 27 = .ok (.if_icmp .lt 13, 3) := by decide +kernel
theorem emethod_4_d30 : decode method_4_code 30 = .ok (.iload_n 0, 1) := by decide +kernel
theorem emethod_4_d31 : decode method_4_code 31 = .ok (.bipush 122, 2) := by decide +kernel
theorem emethod_4_d33 : decode method_4_code 33 = .ok (.if_icmp .gt 7, 3) := by decide +kernel
theorem emethod_4_d36 : decode method_4_code 36 = .ok (.iconst 1, 1) := by decide +kernel
theorem emethod_4_d37 : decode method_4_code 37 = .ok (.goto 4, 3) := by decide +kernel
theorem emethod_4_d40 : decode method_4_code 40 = .ok (.iconst 0, 1) := by decide +kernel
theorem emethod_4_d41 : decode method_4_code 41 = .ok (.ireturn, 1) := by decide +kernel
theorem own_b62_pn : plainFor (⟨"com/example/nuthatch/nuthatch/EventIdWritePinLaw", "isBase62", "(B)Z"⟩ : MethodName) = true := by first | exact plainFor_of_name (by first | (simp [plainName, overriddenIn]; done) | decide +kernel) | decide +kernel | exact Jvm.Free.JP.mathPlain rfl (by decide +kernel)
theorem own_b62_ef (m : MethodId) (x0 : Int32) : entryFrame m #[(.int x0)] 1 = mkF m 0 #[.val (.int x0)] [] := by first | (simp [entryFrame, mkF, argsToLocals, Value.category]; done) | rfl
def own_b62_Q (Z : State) (x1 : Int32) (h0 : Heap) (n0 : Nat) (v : Option Value) (h : Heap) (L : List Loc) : Prop := v = some (.int 1) ∧ Fr n0 L ∧ h = h0
set_option maxRecDepth 65536 in
set_option maxHeartbeats 40000000 in
theorem own_b62 (l : Launch) (Z : State) (a0 : Array Value) (hw : ∀ d ∈ tables_1, d.before a0 Z = true) (ws : List Jvm.Cond) (x1 : Int32) (h0 : Heap) (n0 : Nat) (O : Old Z n0 h0) (hp : x1 ∈ own_AL) :
    MetFree l (⟨"com/example/nuthatch/nuthatch/EventIdWritePinLaw", "isBase62", "(B)Z"⟩ : MethodName) (head1 (Jvm.Cond.code (⟨"com/example/nuthatch/nuthatch/EventIdWritePinLaw", "isBase62", "(B)Z"⟩ : MethodName) method_4_code 1 (some .boolean) :: ws) ({ frames := 0, cells := 0, slots := 0, locals := 0 } : Room)) (fun a U => a = #[(.int x1)] ∧ Z.Warmed39 U.vm ∧ U.heap = h0) (fun _ _ _ _ _ => True) (fun _ U o U' => ∃ v L, o = .returned v ∧ own_b62_Q Z x1 h0 n0 v U'.heap L ∧ FrameEnd U o U' L ({ frames := 0, cells := 0, slots := 0, locals := 0 } : Room).cells ({ frames := 0, cells := 0, slots := 0, locals := 0 } : Room).slots) := by
  refine MetFree.of_bodySF own_b62_pn hisR ?_
  intro p e s m args below meth c s₁ Bd hml0 hP hK
  obtain ⟨rfl, hZ, hh⟩ := hP
  have hx := Bd.exec
  have hby := Bd.bytes
  have hlk := Bd.notSynchronized
  have hml : c.maxLocals = 1 := hml0
  have hown : s.vm.findClass "com/example/nuthatch/nuthatch/EventIdWritePinLaw" = some m.cls := findClass_of_methodNamed Bd.named
  have hnm := (name_of_methodNamed Bd.named Bd.method).1
  have X : Stand p l e ({ frames := 0, cells := 0, slots := 0, locals := 0 } : Room) s m #[(.int x1)] below meth c s₁ [] 0 0 := Stand.of_body Bd
  have eT : s₁.heap = h0 := by rw [← hh, Bd.state]; rfl
  have N := Fr.nil n0
  have K0 := Keep.refl h0 []
  show own_Ends p e below (own_Post s below (own_b62_Q Z x1 h0 n0) ({ frames := 0, cells := 0, slots := 0, locals := 0 } : Room).cells ({ frames := 0, cells := 0, slots := 0, locals := 0 } : Room).slots) s₁ (entryFrame m #[(.int x1)] 1)
  rw [own_b62_ef m x1]
  obtain ⟨T, hT⟩ : ∃ z, z = s₁ := ⟨_, rfl⟩
  rw [← hT] at X eT ⊢
  obtain ⟨h, hh0⟩ : ∃ z, z = h0 := ⟨_, rfl⟩
  rw [← hh0] at eT
  replace O : Old Z n0 h := by rw [hh0]; exact O
  replace K0 : Keep h0 h [] := by rw [hh0]; exact K0
  refine own_via (g' := (mkF m 9 #[.val (.int x1)] [(.int 57), (.int x1)])) (fun t_ k_ => XS.iloadN X.here hx rfl (hb hby emethod_4_d0) rfl (XS.bipush X.here hx rfl (hb hby emethod_4_d1) (XS.icmpNo X.here hx rfl (hb hby emethod_4_d3) rfl (flt (own_dom1 (P := fun x1 => ¬ (x1 < (48 : Int32))) (by decide) hp)).1 (XS.iloadN X.here hx rfl (hb hby emethod_4_d6) rfl (XS.bipush X.here hx rfl (hb hby emethod_4_d7) k_))))) ?_
  by_cases hc1 : (57 : Int32) < x1
  · refine own_via (g' := (mkF m 15 #[.val (.int x1)] [(.int 65), (.int x1)])) (fun t_ k_ => XS.icmpNo X.here hx rfl (hb hby emethod_4_d9) rfl (tlt hc1).2.2.2 (XS.iloadN X.here hx rfl (hb hby emethod_4_d12) rfl (XS.bipush X.here hx rfl (hb hby emethod_4_d13) k_))) ?_
    by_cases hc2 : x1 < (65 : Int32)
    · refine own_via (g' := (mkF m 27 #[.val (.int x1)] [(.int 97), (.int x1)])) (fun t_ k_ => XS.icmpYes X.here hx rfl (pc0 := 15) (pc' := 24) rfl (hb hby emethod_4_d15) rfl (tlt hc2).1 (by decide) (by decide) (XS.iloadN X.here hx rfl (hb hby emethod_4_d24) rfl (XS.bipush X.here hx rfl (hb hby emethod_4_d25) k_))) ?_
      by_cases hc3 : x1 < (97 : Int32)
      · refine own_via (g' := (mkF m 41 #[.val (.int x1)] [(.int 0)])) (fun t_ k_ => XS.icmpYes X.here hx rfl (pc0 := 27) (pc' := 40) rfl (hb hby emethod_4_d27) rfl (tlt hc3).1 (by decide) (by decide) (XS.iconst X.here hx rfl (hb hby emethod_4_d40) k_)) ?_
        refine own_retN X hx hlk (t := .boolean) Bd.returns (by simp) (hb hby emethod_4_d41) (by decide) (by decide) ?_
        rw [eT]
        exact absurd True.intro ((own_dom1 (P := fun x1 => (57 : Int32) < x1 → x1 < (65 : Int32) → x1 < (97 : Int32) → ¬ True) (by decide) hp) hc1 hc2 hc3)
      · refine own_via (g' := (mkF m 41 #[.val (.int x1)] [(.int 1)])) (fun t_ k_ => XS.icmpNo X.here hx rfl (hb hby emethod_4_d27) rfl (flt hc3).1 (XS.iloadN X.here hx rfl (hb hby emethod_4_d30) rfl (XS.bipush X.here hx rfl (hb hby emethod_4_d31) (XS.icmpNo X.here hx rfl (hb hby emethod_4_d33) rfl (flt (own_dom1 (P := fun x1 => ¬ ((122 : Int32) < x1)) (by decide) hp)).2.2.1 (XS.iconst X.here hx rfl (hb hby emethod_4_d36) (XS.goto X.here hx rfl (pc0 := 37) (pc' := 41) rfl (hb hby emethod_4_d37) (by decide) (by decide) k_)))))) ?_
        refine own_retN X hx hlk (t := .boolean) Bd.returns (by simp) (hb hby emethod_4_d41) (by decide) (by decide) ?_
        rw [eT]
        exact ⟨rfl, N, hh0⟩
    · refine own_via (g' := (mkF m 21 #[.val (.int x1)] [(.int 90), (.int x1)])) (fun t_ k_ => XS.icmpNo X.here hx rfl (hb hby emethod_4_d15) rfl (flt hc2).1 (XS.iloadN X.here hx rfl (hb hby emethod_4_d18) rfl (XS.bipush X.here hx rfl (hb hby emethod_4_d19) k_))) ?_
      by_cases hc4 : (90 : Int32) < x1
      · refine own_via (g' := (mkF m 27 #[.val (.int x1)] [(.int 97), (.int x1)])) (fun t_ k_ => XS.icmpNo X.here hx rfl (hb hby emethod_4_d21) rfl (tlt hc4).2.2.2 (XS.iloadN X.here hx rfl (hb hby emethod_4_d24) rfl (XS.bipush X.here hx rfl (hb hby emethod_4_d25) k_))) ?_
        by_cases hc5 : x1 < (97 : Int32)
        · refine own_via (g' := (mkF m 41 #[.val (.int x1)] [(.int 0)])) (fun t_ k_ => XS.icmpYes X.here hx rfl (pc0 := 27) (pc' := 40) rfl (hb hby emethod_4_d27) rfl (tlt hc5).1 (by decide) (by decide) (XS.iconst X.here hx rfl (hb hby emethod_4_d40) k_)) ?_
          refine own_retN X hx hlk (t := .boolean) Bd.returns (by simp) (hb hby emethod_4_d41) (by decide) (by decide) ?_
          rw [eT]
          exact absurd True.intro ((own_dom1 (P := fun x1 => (57 : Int32) < x1 → ¬ (x1 < (65 : Int32)) → (90 : Int32) < x1 → x1 < (97 : Int32) → ¬ True) (by decide) hp) hc1 hc2 hc4 hc5)
        · refine own_via (g' := (mkF m 41 #[.val (.int x1)] [(.int 1)])) (fun t_ k_ => XS.icmpNo X.here hx rfl (hb hby emethod_4_d27) rfl (flt hc5).1 (XS.iloadN X.here hx rfl (hb hby emethod_4_d30) rfl (XS.bipush X.here hx rfl (hb hby emethod_4_d31) (XS.icmpNo X.here hx rfl (hb hby emethod_4_d33) rfl (flt (own_dom1 (P := fun x1 => ¬ ((122 : Int32) < x1)) (by decide) hp)).2.2.1 (XS.iconst X.here hx rfl (hb hby emethod_4_d36) (XS.goto X.here hx rfl (pc0 := 37) (pc' := 41) rfl (hb hby emethod_4_d37) (by decide) (by decide) k_)))))) ?_
          refine own_retN X hx hlk (t := .boolean) Bd.returns (by simp) (hb hby emethod_4_d41) (by decide) (by decide) ?_
          rw [eT]
          exact ⟨rfl, N, hh0⟩
      · refine own_via (g' := (mkF m 41 #[.val (.int x1)] [(.int 1)])) (fun t_ k_ => XS.icmpYes X.here hx rfl (pc0 := 21) (pc' := 36) rfl (hb hby emethod_4_d21) rfl (flt hc4).2.2.2 (by decide) (by decide) (XS.iconst X.here hx rfl (hb hby emethod_4_d36) (XS.goto X.here hx rfl (pc0 := 37) (pc' := 41) rfl (hb hby emethod_4_d37) (by decide) (by decide) k_))) ?_
        refine own_retN X hx hlk (t := .boolean) Bd.returns (by simp) (hb hby emethod_4_d41) (by decide) (by decide) ?_
        rw [eT]
        exact ⟨rfl, N, hh0⟩
  · refine own_via (g' := (mkF m 41 #[.val (.int x1)] [(.int 1)])) (fun t_ k_ => XS.icmpYes X.here hx rfl (pc0 := 9) (pc' := 36) rfl (hb hby emethod_4_d9) rfl (flt hc1).2.2.2 (by decide) (by decide) (XS.iconst X.here hx rfl (hb hby emethod_4_d36) (XS.goto X.here hx rfl (pc0 := 37) (pc' := 41) rfl (hb hby emethod_4_d37) (by decide) (by decide) k_))) ?_
    refine own_retN X hx hlk (t := .boolean) Bd.returns (by simp) (hb hby emethod_4_d41) (by decide) (by decide) ?_
    rw [eT]
    exact ⟨rfl, N, hh0⟩
theorem emethod_3_d0 : decode method_3_code 0 = .ok (.iload_n 0, 1) := by decide +kernel
theorem emethod_3_d1 : decode method_3_code 1 = .ok (.bipush 10, 2) := by decide +kernel
theorem emethod_3_d3 : decode method_3_code 3 = .ok (.if_icmp .ge 9, 3) := by decide +kernel
theorem emethod_3_d6 : decode method_3_code 6 = .ok (.bipush 48, 2) := by decide +kernel
theorem emethod_3_d8 : decode method_3_code 8 = .ok (.iload_n 0, 1) := by decide +kernel
theorem emethod_3_d9 : decode method_3_code 9 = .ok (.iadd, 1) := by decide +kernel
theorem emethod_3_d10 : decode method_3_code 10 = .ok (.i2c, 1) := by decide +kernel
theorem emethod_3_d11 : decode method_3_code 11 = .ok (.ireturn, 1) := by decide +kernel
theorem emethod_3_d12 : decode method_3_code 12 = .ok (.iload_n 0, 1) := by decide +kernel
theorem emethod_3_d13 : decode method_3_code 13 = .ok (.bipush 36, 2) := by decide +kernel
theorem emethod_3_d15 : decode method_3_code 15 = .ok (.if_icmp .ge 12, 3) := by decide +kernel
theorem emethod_3_d18 : decode method_3_code 18 = .ok (.bipush 65, 2) := by decide +kernel
theorem emethod_3_d20 : decode method_3_code 20 = .ok (.iload_n 0, 1) := by decide +kernel
theorem emethod_3_d21 : decode method_3_code 21 = .ok (.iadd, 1) := by decide +kernel
theorem emethod_3_d22 : decode method_3_code 22 = .ok (.bipush 10, 2) := by decide +kernel
theorem emethod_3_d24 : decode method_3_code 24 = .ok (.isub, 1) := by decide +kernel
theorem emethod_3_d25 : decode method_3_code 25 = .ok (.i2c, 1) := by decide +kernel
theorem emethod_3_d26 : decode method_3_code 26 = .ok (.ireturn, 1) := by decide +kernel
theorem emethod_3_d27 : decode method_3_code 27 = .ok (.bipush 97, 2) := by decide +kernel
theorem emethod_3_d29 : decode method_3_code 29 = .ok (.iload_n 0, 1) := by decide +kernel
theorem emethod_3_d30 : decode method_3_code 30 = .ok (.iadd, 1) := by decide +kernel
theorem emethod_3_d31 : decode method_3_code 31 = .ok (.bipush 36, 2) := by decide +kernel
theorem emethod_3_d33 : decode method_3_code 33 = .ok (.isub, 1) := by decide +kernel
theorem emethod_3_d34 : decode method_3_code 34 = .ok (.i2c, 1) := by decide +kernel
theorem emethod_3_d35 : decode method_3_code 35 = .ok (.ireturn, 1) := by decide +kernel
theorem own_dch_pn : plainFor (⟨"com/example/nuthatch/nuthatch/EventIdWritePinLaw", "digitChar", "(I)C"⟩ : MethodName) = true := by first | exact plainFor_of_name (by first | (simp [plainName, overriddenIn]; done) | decide +kernel) | decide +kernel | exact Jvm.Free.JP.mathPlain rfl (by decide +kernel)
theorem own_dch_ef (m : MethodId) (x0 : Int32) : entryFrame m #[(.int x0)] 1 = mkF m 0 #[.val (.int x0)] [] := by first | (simp [entryFrame, mkF, argsToLocals, Value.category]; done) | rfl
def own_dch_Q (Z : State) (d1 : Int32) (x1 : Int32) (h0 : Heap) (n0 : Nat) (v : Option Value) (h : Heap) (L : List Loc) : Prop := v = some (.int x1) ∧ Fr n0 L ∧ h = h0
set_option maxRecDepth 65536 in
set_option maxHeartbeats 40000000 in
theorem own_dch (l : Launch) (Z : State) (a0 : Array Value) (hw : ∀ d ∈ tables_1, d.before a0 Z = true) (ws : List Jvm.Cond) (d1 : Int32) (x1 : Int32) (h0 : Heap) (n0 : Nat) (O : Old Z n0 h0) (hp : (d1, x1) ∈ own_DP) :
    MetFree l (⟨"com/example/nuthatch/nuthatch/EventIdWritePinLaw", "digitChar", "(I)C"⟩ : MethodName) (head1 (Jvm.Cond.code (⟨"com/example/nuthatch/nuthatch/EventIdWritePinLaw", "digitChar", "(I)C"⟩ : MethodName) method_3_code 1 (some .char) :: ws) ({ frames := 0, cells := 0, slots := 0, locals := 0 } : Room)) (fun a U => a = #[(.int d1)] ∧ Z.Warmed39 U.vm ∧ U.heap = h0) (fun _ _ _ _ _ => True) (fun _ U o U' => ∃ v L, o = .returned v ∧ own_dch_Q Z d1 x1 h0 n0 v U'.heap L ∧ FrameEnd U o U' L ({ frames := 0, cells := 0, slots := 0, locals := 0 } : Room).cells ({ frames := 0, cells := 0, slots := 0, locals := 0 } : Room).slots) := by
  refine MetFree.of_bodySF own_dch_pn hisR ?_
  intro p e s m args below meth c s₁ Bd hml0 hP hK
  obtain ⟨rfl, hZ, hh⟩ := hP
  have hx := Bd.exec
  have hby := Bd.bytes
  have hlk := Bd.notSynchronized
  have hml : c.maxLocals = 1 := hml0
  have hown : s.vm.findClass "com/example/nuthatch/nuthatch/EventIdWritePinLaw" = some m.cls := findClass_of_methodNamed Bd.named
  have hnm := (name_of_methodNamed Bd.named Bd.method).1
  have X : Stand p l e ({ frames := 0, cells := 0, slots := 0, locals := 0 } : Room) s m #[(.int d1)] below meth c s₁ [] 0 0 := Stand.of_body Bd
  have eT : s₁.heap = h0 := by rw [← hh, Bd.state]; rfl
  have N := Fr.nil n0
  have K0 := Keep.refl h0 []
  show own_Ends p e below (own_Post s below (own_dch_Q Z d1 x1 h0 n0) ({ frames := 0, cells := 0, slots := 0, locals := 0 } : Room).cells ({ frames := 0, cells := 0, slots := 0, locals := 0 } : Room).slots) s₁ (entryFrame m #[(.int d1)] 1)
  rw [own_dch_ef m d1]
  obtain ⟨T, hT⟩ : ∃ z, z = s₁ := ⟨_, rfl⟩
  rw [← hT] at X eT ⊢
  obtain ⟨h, hh0⟩ : ∃ z, z = h0 := ⟨_, rfl⟩
  rw [← hh0] at eT
  replace O : Old Z n0 h := by rw [hh0]; exact O
  replace K0 : Keep h0 h [] := by rw [hh0]; exact K0
  refine own_via (g' := (mkF m 3 #[.val (.int d1)] [(.int 10), (.int d1)])) (fun t_ k_ => XS.iloadN X.here hx rfl (hb hby emethod_3_d0) rfl (XS.bipush X.here hx rfl (hb hby emethod_3_d1) k_)) ?_
  by_cases hc1 : d1 < (10 : Int32)
  · refine own_via (g' := (mkF m 11 #[.val (.int d1)] [(.int (((48 : Int32) + d1).toUInt32.toUInt16.toUInt32.toInt32))])) (fun t_ k_ => XS.icmpNo X.here hx rfl (hb hby emethod_3_d3) rfl (tlt hc1).2.1 (XS.bipush X.here hx rfl (hb hby emethod_3_d6) (XS.iloadN X.here hx rfl (hb hby emethod_3_d8) rfl (XS.iadd X.here hx rfl (hb hby emethod_3_d9) rfl (XS.i2c X.here hx rfl (hb hby emethod_3_d10) rfl k_))))) ?_
    refine own_retN X hx hlk (t := .char) Bd.returns (by simp) (hb hby emethod_3_d11) (by decide) (by decide) ?_
    rw [eT]
    exact ⟨congrArg (fun z => some (Value.int z)) ((own_dom2 (P := fun d1 x1 => d1 < (10 : Int32) → nar .char (((48 : Int32) + d1).toUInt32.toUInt16.toUInt32.toInt32) = x1) (by decide) hp) hc1), N, hh0⟩
  · refine own_via (g' := (mkF m 15 #[.val (.int d1)] [(.int 36), (.int d1)])) (fun t_ k_ => XS.icmpYes X.here hx rfl (pc0 := 3) (pc' := 12) rfl (hb hby emethod_3_d3) rfl (flt hc1).2.1 (by decide) (by decide) (XS.iloadN X.here hx rfl (hb hby emethod_3_d12) rfl (XS.bipush X.here hx rfl (hb hby emethod_3_d13) k_))) ?_
    by_cases hc2 : d1 < (36 : Int32)
    · refine own_via (g' := (mkF m 26 #[.val (.int d1)] [(.int ((((65 : Int32) + d1) - (10 : Int32)).toUInt32.toUInt16.toUInt32.toInt32))])) (fun t_ k_ => XS.icmpNo X.here hx rfl (hb hby emethod_3_d15) rfl (tlt hc2).2.1 (XS.bipush X.here hx rfl (hb hby emethod_3_d18) (XS.iloadN X.here hx rfl (hb hby emethod_3_d20) rfl (XS.iadd X.here hx rfl (hb hby emethod_3_d21) rfl (XS.bipush X.here hx rfl (hb hby emethod_3_d22) (XS.isub X.here hx rfl (hb hby emethod_3_d24) rfl (XS.i2c X.here hx rfl (hb hby emethod_3_d25) rfl k_))))))) ?_
      refine own_retN X hx hlk (t := .char) Bd.returns (by simp) (hb hby emethod_3_d26) (by decide) (by decide) ?_
      rw [eT]
      exact ⟨congrArg (fun z => some (Value.int z)) ((own_dom2 (P := fun d1 x1 => ¬ (d1 < (10 : Int32)) → d1 < (36 : Int32) → nar .char ((((65 : Int32) + d1) - (10 : Int32)).toUInt32.toUInt16.toUInt32.toInt32) = x1) (by decide) hp) hc1 hc2), N, hh0⟩
    · refine own_via (g' := (mkF m 35 #[.val (.int d1)] [(.int ((((97 : Int32) + d1) - (36 : Int32)).toUInt32.toUInt16.toUInt32.toInt32))])) (fun t_ k_ => XS.icmpYes X.here hx rfl (pc0 := 15) (pc' := 27) rfl (hb hby emethod_3_d15) rfl (flt hc2).2.1 (by decide) (by decide) (XS.bipush X.here hx rfl (hb hby emethod_3_d27) (XS.iloadN X.here hx rfl (hb hby emethod_3_d29) rfl (XS.iadd X.here hx rfl (hb hby emethod_3_d30) rfl (XS.bipush X.here hx rfl (hb hby emethod_3_d31) (XS.isub X.here hx rfl (hb hby emethod_3_d33) rfl (XS.i2c X.here hx rfl (hb hby emethod_3_d34) rfl k_))))))) ?_
      refine own_retN X hx hlk (t := .char) Bd.returns (by simp) (hb hby emethod_3_d35) (by decide) (by decide) ?_
      rw [eT]
      exact ⟨congrArg (fun z => some (Value.int z)) ((own_dom2 (P := fun d1 x1 => ¬ (d1 < (10 : Int32)) → ¬ (d1 < (36 : Int32)) → nar .char ((((97 : Int32) + d1) - (36 : Int32)).toUInt32.toUInt16.toUInt32.toInt32) = x1) (by decide) hp) hc1 hc2), N, hh0⟩
theorem emethod_6_d0 : decode method_6_code 0 = .ok (.iconst 0, 1) := by decide +kernel
theorem emethod_6_d1 : decode method_6_code 1 = .ok (.iload_n 1, 1) := by decide +kernel
theorem emethod_6_d2 : decode method_6_code 2 = .ok (.if_icmp .ge 9, 3) := by decide +kernel
theorem emethod_6_d5 : decode method_6_code 5 = .ok (.aload_n 0, 1) := by decide +kernel
theorem emethod_6_d6 : decode method_6_code 6 = .ok (.iconst 0, 1) := by decide +kernel
theorem emethod_6_d7 : decode method_6_code 7 = .ok (.baload, 1) := by decide +kernel
theorem emethod_6_d8 : decode method_6_code 8 = .ok (.ifCond .ne 93, 3) := by decide +kernel
theorem emethod_6_d11 : decode method_6_code 11 = .ok (.iconst 1, 1) := by decide +kernel
theorem emethod_6_d12 : decode method_6_code 12 = .ok (.iload_n 1, 1) := by decide +kernel
theorem emethod_6_d13 : decode method_6_code 13 = .ok (.if_icmp .ge 9, 3) := by decide +kernel
theorem emethod_6_d16 : decode method_6_code 16 = .ok (.aload_n 0, 1) := by decide +kernel
theorem emethod_6_d17 : decode method_6_code 17 = .ok (.iconst 1, 1) := by decide +kernel
theorem emethod_6_d18 : decode method_6_code 18 = .ok (.baload, 1) := by decide +kernel
theorem emethod_6_d19 : decode method_6_code 19 = .ok (.ifCond .ne 82, 3) := by decide +kernel
theorem emethod_6_d22 : decode method_6_code 22 = .ok (.iconst 2, 1) := by decide +kernel
theorem emethod_6_d23 : decode method_6_code 23 = .ok (.iload_n 1, 1) := by decide +kernel
theorem emethod_6_d24 : decode method_6_code 24 = .ok (.if_icmp .ge 9, 3) := by decide +kernel
theorem emethod_6_d27 : decode method_6_code 27 = .ok (.aload_n 0, 1) := by decide +kernel
theorem emethod_6_d28 : decode method_6_code 28 = .ok (.iconst 2, 1) := by decide +kernel
theorem emethod_6_d29 : decode method_6_code 29 = .ok (.baload, 1) := by decide +kernel
theorem emethod_6_d30 : decode method_6_code 30 = .ok (.ifCond .ne 71, 3) := by decide +kernel
theorem emethod_6_d33 : decode method_6_code 33 = .ok (.bipush 22, 2) := by decide +kernel
theorem emethod_6_d35 : decode method_6_code 35 = .ok (.iload_n 1, 1) := by decide +kernel
theorem emethod_6_d36 : decode method_6_code 36 = .ok (.bipush 22, 2) := by decide +kernel
theorem emethod_6_d38 : decode method_6_code 38 = .ok (.iadd, 1) := by decide +kernel
theorem emethod_6_d39 : decode method_6_code 39 = .ok (.if_icmp .lt 10, 3) := by decide +kernel
theorem emethod_6_d42 : decode method_6_code 42 = .ok (.aload_n 0, 1) := by decide +kernel
theorem emethod_6_d43 : decode method_6_code 43 = .ok (.bipush 22, 2) := by decide +kernel
theorem emethod_6_d45 : decode method_6_code 45 = .ok (.baload, 1) := by decide +kernel
theorem emethod_6_d46 : decode method_6_code 46 = .ok (.ifCond .ne 55, 3) := by decide +kernel
theorem emethod_6_d49 : decode method_6_code 49 = .ok (.bipush 23, 2) := by decide +kernel
theorem emethod_6_d51 : decode method_6_code 51 = .ok (.iload_n 1, 1) := by decide +kernel
theorem emethod_6_d52 : decode method_6_code 52 = .ok (.bipush 22, 2) := by decide +kernel
theorem emethod_6_d54 : decode method_6_code 54 = .ok (.iadd, 1) := by decide +kernel
theorem emethod_6_d55 : decode method_6_code 55 = .ok (.if_icmp .lt 10, 3) := by decide +kernel
theorem emethod_6_d58 : decode method_6_code 58 = .ok (.aload_n 0, 1) := by decide +kernel
theorem emethod_6_d59 : decode method_6_code 59 = .ok (.bipush 23, 2) := by decide +kernel
theorem emethod_6_d61 : decode method_6_code 61 = .ok (.baload, 1) := by decide +kernel
theorem emethod_6_d62 : decode method_6_code 62 = .ok (.ifCond .ne 39, 3) := by decide +kernel
theorem emethod_6_d65 : decode method_6_code 65 = .ok (.bipush 24, 2) := by decide +kernel
theorem emethod_6_d67 : decode method_6_code 67 = .ok (.iload_n 1, 1) := by decide +kernel
theorem emethod_6_d68 : decode method_6_code 68 = .ok (.bipush 22, 2) := by decide +kernel
theorem emethod_6_d70 : decode method_6_code 70 = .ok (.iadd, 1) := by decide +kernel
theorem emethod_6_d71 : decode method_6_code 71 = .ok (.if_icmp .lt 10, 3) := by decide +kernel
theorem emethod_6_d74 : decode method_6_code 74 = .ok (.aload_n 0, 1) := by decide +kernel
theorem emethod_6_d75 : decode method_6_code 75 = .ok (.bipush 24, 2) := by decide +kernel
theorem emethod_6_d77 : decode method_6_code 77 = .ok (.baload, 1) := by decide +kernel
theorem emethod_6_d78 : decode method_6_code 78 = .ok (.ifCond .ne 23, 3) := by decide +kernel
theorem emethod_6_d81 : decode method_6_code 81 = .ok (.bipush 25, 2) := by decide +kernel
theorem emethod_6_d83 : decode method_6_code 83 = .ok (.iload_n 1, 1) := by decide +kernel
theorem emethod_6_d84 : decode method_6_code 84 = .ok (.bipush 22, 2) := by decide +kernel
theorem emethod_6_d86 : decode method_6_code 86 = .ok (.iadd, 1) := by decide +kernel
theorem emethod_6_d87 : decode method_6_code 87 = .ok (.if_icmp .lt 10, 3) := by decide +kernel
theorem emethod_6_d90 : decode method_6_code 90 = .ok (.aload_n 0, 1) := by decide +kernel
theorem emethod_6_d91 : decode method_6_code 91 = .ok (.bipush 25, 2) := by decide +kernel
theorem emethod_6_d93 : decode method_6_code 93 = .ok (.baload, 1) := by decide +kernel
theorem emethod_6_d94 : decode method_6_code 94 = .ok (.ifCond .ne 7, 3) := by decide +kernel
theorem emethod_6_d97 : decode method_6_code 97 = .ok (.iconst 1, 1) := by decide +kernel
theorem emethod_6_d98 : decode method_6_code 98 = .ok (.goto 4, 3) := by decide +kernel
theorem emethod_6_d102 : decode method_6_code 102 = .ok (.ireturn, 1) := by decide +kernel
theorem own_untouched_pn : plainFor (⟨"com/example/nuthatch/nuthatch/EventIdWritePinLaw", "untouched", "([BI)Z"⟩ : MethodName) = true := by first | exact plainFor_of_name (by first | (simp [plainName, overriddenIn]; done) | decide +kernel) | decide +kernel | exact Jvm.Free.JP.mathPlain rfl (by decide +kernel)
theorem own_untouched_ef (m : MethodId) (x0 : Addr) (x1 : Int32) : entryFrame m #[(.ref x0), (.int x1)] 2 = mkF m 0 #[.val (.ref x0), .val (.int x1)] [] := by first | (simp [entryFrame, mkF, argsToLocals, Value.category]; done) | rfl
def own_untouched_Q (Z : State) (ba : Addr) (kb_ : ClassId) (oo : Int32) (no : Nat) (M : Int) (h0 : Heap) (n0 : Nat) (v : Option Value) (h : Heap) (L : List Loc) : Prop := v = some (.int 1) ∧ Fr n0 L ∧ h = h0
set_option maxRecDepth 65536 in
set_option maxHeartbeats 40000000 in
theorem own_untouched (l : Launch) (Z : State) (a0 : Array Value) (hw : ∀ d ∈ tables_1, d.before a0 Z = true) (ws : List Jvm.Cond) (ba : Addr) (kb_ : ClassId) (oo : Int32) (no : Nat) (M : Int) (h0 : Heap) (n0 : Nat) (O : Old Z n0 h0) (V_ba : Arv Z h0 ba kb_ .byte (26 : Int32) (own_into no M) (.int 0)) (ho : oo.toInt = (no : Int)) (hno : no ≤ 3) :
    MetFree l (⟨"com/example/nuthatch/nuthatch/EventIdWritePinLaw", "untouched", "([BI)Z"⟩ : MethodName) (head1 (Jvm.Cond.code (⟨"com/example/nuthatch/nuthatch/EventIdWritePinLaw", "untouched", "([BI)Z"⟩ : MethodName) method_6_code 2 (some .boolean) :: ws) ({ frames := 0, cells := 0, slots := 0, locals := 0 } : Room)) (fun a U => a = #[(.ref ba), (.int oo)] ∧ Z.Warmed39 U.vm ∧ U.heap = h0) (fun _ _ _ _ _ => True) (fun _ U o U' => ∃ v L, o = .returned v ∧ own_untouched_Q Z ba kb_ oo no M h0 n0 v U'.heap L ∧ FrameEnd U o U' L ({ frames := 0, cells := 0, slots := 0, locals := 0 } : Room).cells ({ frames := 0, cells := 0, slots := 0, locals := 0 } : Room).slots) := by
  refine MetFree.of_bodySF own_untouched_pn hisR ?_
  intro p e s m args below meth c s₁ Bd hml0 hP hK
  obtain ⟨rfl, hZ, hh⟩ := hP
  have hx := Bd.exec
  have hby := Bd.bytes
  have hlk := Bd.notSynchronized
  have hml : c.maxLocals = 2 := hml0
  have hown : s.vm.findClass "com/example/nuthatch/nuthatch/EventIdWritePinLaw" = some m.cls := findClass_of_methodNamed Bd.named
  have hnm := (name_of_methodNamed Bd.named Bd.method).1
  have X : Stand p l e ({ frames := 0, cells := 0, slots := 0, locals := 0 } : Room) s m #[(.ref ba), (.int oo)] below meth c s₁ [] 0 0 := Stand.of_body Bd
  have eT : s₁.heap = h0 := by rw [← hh, Bd.state]; rfl
  have N := Fr.nil n0
  have K0 := Keep.refl h0 []
  show own_Ends p e below (own_Post s below (own_untouched_Q Z ba kb_ oo no M h0 n0) ({ frames := 0, cells := 0, slots := 0, locals := 0 } : Room).cells ({ frames := 0, cells := 0, slots := 0, locals := 0 } : Room).slots) s₁ (entryFrame m #[(.ref ba), (.int oo)] 2)
  rw [own_untouched_ef m ba oo]
  obtain ⟨T, hT⟩ : ∃ z, z = s₁ := ⟨_, rfl⟩
  rw [← hT] at X eT ⊢
  obtain ⟨h, hh0⟩ : ∃ z, z = h0 := ⟨_, rfl⟩
  rw [← hh0] at eT
  replace O : Old Z n0 h := by rw [hh0]; exact O
  replace K0 : Keep h0 h [] := by rw [hh0]; exact K0
  rw [← hh0] at V_ba
  rcases own_o4 ho hno with ⟨rfl, rfl⟩ | ⟨rfl, rfl⟩ | ⟨rfl, rfl⟩ | ⟨rfl, rfl⟩
  · replace V_ba : Arv Z h ba kb_ .byte (26 : Int32) [(.int (own_al (own_d M 21))), (.int (own_al (own_d M 20))), (.int (own_al (own_d M 19))), (.int (own_al (own_d M 18))), (.int (own_al (own_d M 17))), (.int (own_al (own_d M 16))), (.int (own_al (own_d M 15))), (.int (own_al (own_d M 14))), (.int (own_al (own_d M 13))), (.int (own_al (own_d M 12))), (.int (own_al (own_d M 11))), (.int (own_al (own_d M 10))), (.int (own_al (own_d M 9))), (.int (own_al (own_d M 8))), (.int (own_al (own_d M 7))), (.int (own_al (own_d M 6))), (.int (own_al (own_d M 5))), (.int (own_al (own_d M 4))), (.int (own_al (own_d M 3))), (.int (own_al (own_d M 2))), (.int (own_al (own_d M 1))), (.int (own_al (own_d M 0))), (.int 0), (.int 0), (.int 0), (.int 0)] (.int 0) := V_ba
    refine own_via (g' := (mkF m 35 #[.val (.ref ba), .val (.int 0)] [(.int 22)])) (fun t_ k_ => XS.iconst X.here hx rfl (hb hby emethod_6_d0) (XS.iloadN X.here hx rfl (hb hby emethod_6_d1) rfl (XS.icmpYes X.here hx rfl (pc0 := 2) (pc' := 11) rfl (hb hby emethod_6_d2) rfl (flt (by decide : ¬ ((0 : Int32) < (0 : Int32)))).2.1 (by decide) (by decide) (XS.iconst X.here hx rfl (hb hby emethod_6_d11) (XS.iloadN X.here hx rfl (hb hby emethod_6_d12) rfl (XS.icmpYes X.here hx rfl (pc0 := 13) (pc' := 22) rfl (hb hby emethod_6_d13) rfl (flt (by decide : ¬ ((1 : Int32) < (0 : Int32)))).2.1 (by decide) (by decide) (XS.iconst X.here hx rfl (hb hby emethod_6_d22) (XS.iloadN X.here hx rfl (hb hby emethod_6_d23) rfl (XS.icmpYes X.here hx rfl (pc0 := 24) (pc' := 33) rfl (hb hby emethod_6_d24) rfl (flt (by decide : ¬ ((2 : Int32) < (0 : Int32)))).2.1 (by decide) (by decide) (XS.bipush X.here hx rfl (hb hby emethod_6_d33) k_)))))))))) ?_
    refine own_via (g' := (mkF m 39 #[.val (.ref ba), .val (.int 0)] [(.int ((0 : Int32) + (22 : Int32))), (.int 22)])) (fun t_ k_ => XS.iloadN X.here hx rfl (hb hby emethod_6_d35) rfl (XS.bipush X.here hx rfl (hb hby emethod_6_d36) (XS.iadd X.here hx rfl (hb hby emethod_6_d38) rfl k_))) ?_
    rw [(by decide : ((0 : Int32) + (22 : Int32)) = (22 : Int32))]
    refine own_via (g' := (mkF m 45 #[.val (.ref ba), .val (.int 0)] [(.int 22), (.ref ba)])) (fun t_ k_ => XS.icmpNo X.here hx rfl (hb hby emethod_6_d39) rfl (flt (by decide : ¬ ((22 : Int32) < (22 : Int32)))).1 (XS.aloadN X.here hx rfl (hb hby emethod_6_d42) rfl rfl (XS.bipush X.here hx rfl (hb hby emethod_6_d43) k_))) ?_
    obtain ⟨cl_, Ar_, -, Sz_, Nn_, Hs_, -⟩ := id V_ba
    have hin_ : ¬ ((22 : Int32) < 0 ∨ cl_.slots.size ≤ ((22 : Int32)).toNatClampNeg) := inb_of Sz_ ⟨by decide, by decide⟩
    have hat_ : cl_.slots[((22 : Int32)).toNatClampNeg]? = some (.int 0) := Hs_.at hin_ rfl
    refine own_via (g' := (mkF m 55 #[.val (.ref ba), .val (.int 0)] [(.int ((0 : Int32) + (22 : Int32))), (.int 23)])) (fun t_ k_ => X.baloadBytes hx (j := (22 : Int32)) (v := (.int 0)) (by rw [eT]; exact Ar_.1) (State.isArrayOf_alike hZ.alike Ar_.2.1) Ar_.2.2 hin_ hat_ (g := (mkF m 45 #[.val (.ref ba), .val (.int 0)] [(.int 22), (.ref ba)])) rfl rfl (hb hby emethod_6_d45) _ (XS.ifNo X.here hx rfl (hb hby emethod_6_d46) rfl ((if0 _ _).trans (teq (by decide : (0 : Int32) = (0 : Int32))).2) (XS.bipush X.here hx rfl (hb hby emethod_6_d49) (XS.iloadN X.here hx rfl (hb hby emethod_6_d51) rfl (XS.bipush X.here hx rfl (hb hby emethod_6_d52) (XS.iadd X.here hx rfl (hb hby emethod_6_d54) rfl k_)))))) ?_
    rw [(by decide : ((0 : Int32) + (22 : Int32)) = (22 : Int32))]
    refine own_via (g' := (mkF m 61 #[.val (.ref ba), .val (.int 0)] [(.int 23), (.ref ba)])) (fun t_ k_ => XS.icmpNo X.here hx rfl (hb hby emethod_6_d55) rfl (flt (by decide : ¬ ((23 : Int32) < (22 : Int32)))).1 (XS.aloadN X.here hx rfl (hb hby emethod_6_d58) rfl rfl (XS.bipush X.here hx rfl (hb hby emethod_6_d59) k_))) ?_
    obtain ⟨cl_, Ar_, -, Sz_, Nn_, Hs_, -⟩ := id V_ba
    have hin_ : ¬ ((23 : Int32) < 0 ∨ cl_.slots.size ≤ ((23 : Int32)).toNatClampNeg) := inb_of Sz_ ⟨by decide, by decide⟩
    have hat_ : cl_.slots[((23 : Int32)).toNatClampNeg]? = some (.int 0) := Hs_.at hin_ rfl
    refine own_via (g' := (mkF m 71 #[.val (.ref ba), .val (.int 0)] [(.int ((0 : Int32) + (22 : Int32))), (.int 24)])) (fun t_ k_ => X.baloadBytes hx (j := (23 : Int32)) (v := (.int 0)) (by rw [eT]; exact Ar_.1) (State.isArrayOf_alike hZ.alike Ar_.2.1) Ar_.2.2 hin_ hat_ (g := (mkF m 61 #[.val (.ref ba), .val (.int 0)] [(.int 23), (.ref ba)])) rfl rfl (hb hby emethod_6_d61) _ (XS.ifNo X.here hx rfl (hb hby emethod_6_d62) rfl ((if0 _ _).trans (teq (by decide : (0 : Int32) = (0 : Int32))).2) (XS.bipush X.here hx rfl (hb hby emethod_6_d65) (XS.iloadN X.here hx rfl (hb hby emethod_6_d67) rfl (XS.bipush X.here hx rfl (hb hby emethod_6_d68) (XS.iadd X.here hx rfl (hb hby emethod_6_d70) rfl k_)))))) ?_
    rw [(by decide : ((0 : Int32) + (22 : Int32)) = (22 : Int32))]
    refine own_via (g' := (mkF m 77 #[.val (.ref ba), .val (.int 0)] [(.int 24), (.ref ba)])) (fun t_ k_ => XS.icmpNo X.here hx rfl (hb hby emethod_6_d71) rfl (flt (by decide : ¬ ((24 : Int32) < (22 : Int32)))).1 (XS.aloadN X.here hx rfl (hb hby emethod_6_d74) rfl rfl (XS.bipush X.here hx rfl (hb hby emethod_6_d75) k_))) ?_
    obtain ⟨cl_, Ar_, -, Sz_, Nn_, Hs_, -⟩ := id V_ba
    have hin_ : ¬ ((24 : Int32) < 0 ∨ cl_.slots.size ≤ ((24 : Int32)).toNatClampNeg) := inb_of Sz_ ⟨by decide, by decide⟩
    have hat_ : cl_.slots[((24 : Int32)).toNatClampNeg]? = some (.int 0) := Hs_.at hin_ rfl
    refine own_via (g' := (mkF m 87 #[.val (.ref ba), .val (.int 0)] [(.int ((0 : Int32) + (22 : Int32))), (.int 25)])) (fun t_ k_ => X.baloadBytes hx (j := (24 : Int32)) (v := (.int 0)) (by rw [eT]; exact Ar_.1) (State.isArrayOf_alike hZ.alike Ar_.2.1) Ar_.2.2 hin_ hat_ (g := (mkF m 77 #[.val (.ref ba), .val (.int 0)] [(.int 24), (.ref ba)])) rfl rfl (hb hby emethod_6_d77) _ (XS.ifNo X.here hx rfl (hb hby emethod_6_d78) rfl ((if0 _ _).trans (teq (by decide : (0 : Int32) = (0 : Int32))).2) (XS.bipush X.here hx rfl (hb hby emethod_6_d81) (XS.iloadN X.here hx rfl (hb hby emethod_6_d83) rfl (XS.bipush X.here hx rfl (hb hby emethod_6_d84) (XS.iadd X.here hx rfl (hb hby emethod_6_d86) rfl k_)))))) ?_
    rw [(by decide : ((0 : Int32) + (22 : Int32)) = (22 : Int32))]
    refine own_via (g' := (mkF m 93 #[.val (.ref ba), .val (.int 0)] [(.int 25), (.ref ba)])) (fun t_ k_ => XS.icmpNo X.here hx rfl (hb hby emethod_6_d87) rfl (flt (by decide : ¬ ((25 : Int32) < (22 : Int32)))).1 (XS.aloadN X.here hx rfl (hb hby emethod_6_d90) rfl rfl (XS.bipush X.here hx rfl (hb hby emethod_6_d91) k_))) ?_
    obtain ⟨cl_, Ar_, -, Sz_, Nn_, Hs_, -⟩ := id V_ba
    have hin_ : ¬ ((25 : Int32) < 0 ∨ cl_.slots.size ≤ ((25 : Int32)).toNatClampNeg) := inb_of Sz_ ⟨by decide, by decide⟩
    have hat_ : cl_.slots[((25 : Int32)).toNatClampNeg]? = some (.int 0) := Hs_.at hin_ rfl
    refine own_via (g' := (mkF m 102 #[.val (.ref ba), .val (.int 0)] [(.int 1)])) (fun t_ k_ => X.baloadBytes hx (j := (25 : Int32)) (v := (.int 0)) (by rw [eT]; exact Ar_.1) (State.isArrayOf_alike hZ.alike Ar_.2.1) Ar_.2.2 hin_ hat_ (g := (mkF m 93 #[.val (.ref ba), .val (.int 0)] [(.int 25), (.ref ba)])) rfl rfl (hb hby emethod_6_d93) _ (XS.ifNo X.here hx rfl (hb hby emethod_6_d94) rfl ((if0 _ _).trans (teq (by decide : (0 : Int32) = (0 : Int32))).2) (XS.iconst X.here hx rfl (hb hby emethod_6_d97) (XS.goto X.here hx rfl (pc0 := 98) (pc' := 102) rfl (hb hby emethod_6_d98) (by decide) (by decide) k_)))) ?_
    refine own_retN X hx hlk (t := .boolean) Bd.returns (by simp) (hb hby emethod_6_d102) (by decide) (by decide) ?_
    rw [eT]
    exact ⟨rfl, N, hh0⟩
  · replace V_ba : Arv Z h ba kb_ .byte (26 : Int32) [(.int 0), (.int (own_al (own_d M 21))), (.int (own_al (own_d M 20))), (.int (own_al (own_d M 19))), (.int (own_al (own_d M 18))), (.int (own_al (own_d M 17))), (.int (own_al (own_d M 16))), (.int (own_al (own_d M 15))), (.int (own_al (own_d M 14))), (.int (own_al (own_d M 13))), (.int (own_al (own_d M 12))), (.int (own_al (own_d M 11))), (.int (own_al (own_d M 10))), (.int (own_al (own_d M 9))), (.int (own_al (own_d M 8))), (.int (own_al (own_d M 7))), (.int (own_al (own_d M 6))), (.int (own_al (own_d M 5))), (.int (own_al (own_d M 4))), (.int (own_al (own_d M 3))), (.int (own_al (own_d M 2))), (.int (own_al (own_d M 1))), (.int (own_al (own_d M 0))), (.int 0), (.int 0), (.int 0)] (.int 0) := V_ba
    refine own_via (g' := (mkF m 7 #[.val (.ref ba), .val (.int 1)] [(.int 0), (.ref ba)])) (fun t_ k_ => XS.iconst X.here hx rfl (hb hby emethod_6_d0) (XS.iloadN X.here hx rfl (hb hby emethod_6_d1) rfl (XS.icmpNo X.here hx rfl (hb hby emethod_6_d2) rfl (tlt (by decide : (0 : Int32) < (1 : Int32))).2.1 (XS.aloadN X.here hx rfl (hb hby emethod_6_d5) rfl rfl (XS.iconst X.here hx rfl (hb hby emethod_6_d6) k_))))) ?_
    obtain ⟨cl_, Ar_, -, Sz_, Nn_, Hs_, -⟩ := id V_ba
    have hin_ : ¬ ((0 : Int32) < 0 ∨ cl_.slots.size ≤ ((0 : Int32)).toNatClampNeg) := inb_of Sz_ ⟨by decide, by decide⟩
    have hat_ : cl_.slots[((0 : Int32)).toNatClampNeg]? = some (.int 0) := Hs_.at hin_ rfl
    refine own_via (g' := (mkF m 36 #[.val (.ref ba), .val (.int 1)] [(.int 1), (.int 22)])) (fun t_ k_ => X.baloadBytes hx (j := (0 : Int32)) (v := (.int 0)) (by rw [eT]; exact Ar_.1) (State.isArrayOf_alike hZ.alike Ar_.2.1) Ar_.2.2 hin_ hat_ (g := (mkF m 7 #[.val (.ref ba), .val (.int 1)] [(.int 0), (.ref ba)])) rfl rfl (hb hby emethod_6_d7) _ (XS.ifNo X.here hx rfl (hb hby emethod_6_d8) rfl ((if0 _ _).trans (teq (by decide : (0 : Int32) = (0 : Int32))).2) (XS.iconst X.here hx rfl (hb hby emethod_6_d11) (XS.iloadN X.here hx rfl (hb hby emethod_6_d12) rfl (XS.icmpYes X.here hx rfl (pc0 := 13) (pc' := 22) rfl (hb hby emethod_6_d13) rfl (flt (by decide : ¬ ((1 : Int32) < (1 : Int32)))).2.1 (by decide) (by decide) (XS.iconst X.here hx rfl (hb hby emethod_6_d22) (XS.iloadN X.here hx rfl (hb hby emethod_6_d23) rfl (XS.icmpYes X.here hx rfl (pc0 := 24) (pc' := 33) rfl (hb hby emethod_6_d24) rfl (flt (by decide : ¬ ((2 : Int32) < (1 : Int32)))).2.1 (by decide) (by decide) (XS.bipush X.here hx rfl (hb hby emethod_6_d33) (XS.iloadN X.here hx rfl (hb hby emethod_6_d35) rfl k_)))))))))) ?_
    refine own_via (g' := (mkF m 39 #[.val (.ref ba), .val (.int 1)] [(.int ((1 : Int32) + (22 : Int32))), (.int 22)])) (fun t_ k_ => XS.bipush X.here hx rfl (hb hby emethod_6_d36) (XS.iadd X.here hx rfl (hb hby emethod_6_d38) rfl k_)) ?_
    rw [(by decide : ((1 : Int32) + (22 : Int32)) = (23 : Int32))]
    refine own_via (g' := (mkF m 55 #[.val (.ref ba), .val (.int 1)] [(.int ((1 : Int32) + (22 : Int32))), (.int 23)])) (fun t_ k_ => XS.icmpYes X.here hx rfl (pc0 := 39) (pc' := 49) rfl (hb hby emethod_6_d39) rfl (tlt (by decide : (22 : Int32) < (23 : Int32))).1 (by decide) (by decide) (XS.bipush X.here hx rfl (hb hby emethod_6_d49) (XS.iloadN X.here hx rfl (hb hby emethod_6_d51) rfl (XS.bipush X.here hx rfl (hb hby emethod_6_d52) (XS.iadd X.here hx rfl (hb hby emethod_6_d54) rfl k_))))) ?_
    rw [(by decide : ((1 : Int32) + (22 : Int32)) = (23 : Int32))]
    refine own_via (g' := (mkF m 61 #[.val (.ref ba), .val (.int 1)] [(.int 23), (.ref ba)])) (fun t_ k_ => XS.icmpNo X.here hx rfl (hb hby emethod_6_d55) rfl (flt (by decide : ¬ ((23 : Int32) < (23 : Int32)))).1 (XS.aloadN X.here hx rfl (hb hby emethod_6_d58) rfl rfl (XS.bipush X.here hx rfl (hb hby emethod_6_d59) k_))) ?_
    obtain ⟨cl_, Ar_, -, Sz_, Nn_, Hs_, -⟩ := id V_ba
    have hin_ : ¬ ((23 : Int32) < 0 ∨ cl_.slots.size ≤ ((23 : Int32)).toNatClampNeg) := inb_of Sz_ ⟨by decide, by decide⟩
    have hat_ : cl_.slots[((23 : Int32)).toNatClampNeg]? = some (.int 0) := Hs_.at hin_ rfl
    refine own_via (g' := (mkF m 71 #[.val (.ref ba), .val (.int 1)] [(.int ((1 : Int32) + (22 : Int32))), (.int 24)])) (fun t_ k_ => X.baloadBytes hx (j := (23 : Int32)) (v := (.int 0)) (by rw [eT]; exact Ar_.1) (State.isArrayOf_alike hZ.alike Ar_.2.1) Ar_.2.2 hin_ hat_ (g := (mkF m 61 #[.val (.ref ba), .val (.int 1)] [(.int 23), (.ref ba)])) rfl rfl (hb hby emethod_6_d61) _ (XS.ifNo X.here hx rfl (hb hby emethod_6_d62) rfl ((if0 _ _).trans (teq (by decide : (0 : Int32) = (0 : Int32))).2) (XS.bipush X.here hx rfl (hb hby emethod_6_d65) (XS.iloadN X.here hx rfl (hb hby emethod_6_d67) rfl (XS.bipush X.here hx rfl (hb hby emethod_6_d68) (XS.iadd X.here hx rfl (hb hby emethod_6_d70) rfl k_)))))) ?_
    rw [(by decide : ((1 : Int32) + (22 : Int32)) = (23 : Int32))]
    refine own_via (g' := (mkF m 77 #[.val (.ref ba), .val (.int 1)] [(.int 24), (.ref ba)])) (fun t_ k_ => XS.icmpNo X.here hx rfl (hb hby emethod_6_d71) rfl (flt (by decide : ¬ ((24 : Int32) < (23 : Int32)))).1 (XS.aloadN X.here hx rfl (hb hby emethod_6_d74) rfl rfl (XS.bipush X.here hx rfl (hb hby emethod_6_d75) k_))) ?_
    obtain ⟨cl_, Ar_, -, Sz_, Nn_, Hs_, -⟩ := id V_ba
    have hin_ : ¬ ((24 : Int32) < 0 ∨ cl_.slots.size ≤ ((24 : Int32)).toNatClampNeg) := inb_of Sz_ ⟨by decide, by decide⟩
    have hat_ : cl_.slots[((24 : Int32)).toNatClampNeg]? = some (.int 0) := Hs_.at hin_ rfl
    refine own_via (g' := (mkF m 87 #[.val (.ref ba), .val (.int 1)] [(.int ((1 : Int32) + (22 : Int32))), (.int 25)])) (fun t_ k_ => X.baloadBytes hx (j := (24 : Int32)) (v := (.int 0)) (by rw [eT]; exact Ar_.1) (State.isArrayOf_alike hZ.alike Ar_.2.1) Ar_.2.2 hin_ hat_ (g := (mkF m 77 #[.val (.ref ba), .val (.int 1)] [(.int 24), (.ref ba)])) rfl rfl (hb hby emethod_6_d77) _ (XS.ifNo X.here hx rfl (hb hby emethod_6_d78) rfl ((if0 _ _).trans (teq (by decide : (0 : Int32) = (0 : Int32))).2) (XS.bipush X.here hx rfl (hb hby emethod_6_d81) (XS.iloadN X.here hx rfl (hb hby emethod_6_d83) rfl (XS.bipush X.here hx rfl (hb hby emethod_6_d84) (XS.iadd X.here hx rfl (hb hby emethod_6_d86) rfl k_)))))) ?_
    rw [(by decide : ((1 : Int32) + (22 : Int32)) = (23 : Int32))]
    refine own_via (g' := (mkF m 93 #[.val (.ref ba), .val (.int 1)] [(.int 25), (.ref ba)])) (fun t_ k_ => XS.icmpNo X.here hx rfl (hb hby emethod_6_d87) rfl (flt (by decide : ¬ ((25 : Int32) < (23 : Int32)))).1 (XS.aloadN X.here hx rfl (hb hby emethod_6_d90) rfl rfl (XS.bipush X.here hx rfl (hb hby emethod_6_d91) k_))) ?_
    obtain ⟨cl_, Ar_, -, Sz_, Nn_, Hs_, -⟩ := id V_ba
    have hin_ : ¬ ((25 : Int32) < 0 ∨ cl_.slots.size ≤ ((25 : Int32)).toNatClampNeg) := inb_of Sz_ ⟨by decide, by decide⟩
    have hat_ : cl_.slots[((25 : Int32)).toNatClampNeg]? = some (.int 0) := Hs_.at hin_ rfl
    refine own_via (g' := (mkF m 102 #[.val (.ref ba), .val (.int 1)] [(.int 1)])) (fun t_ k_ => X.baloadBytes hx (j := (25 : Int32)) (v := (.int 0)) (by rw [eT]; exact Ar_.1) (State.isArrayOf_alike hZ.alike Ar_.2.1) Ar_.2.2 hin_ hat_ (g := (mkF m 93 #[.val (.ref ba), .val (.int 1)] [(.int 25), (.ref ba)])) rfl rfl (hb hby emethod_6_d93) _ (XS.ifNo X.here hx rfl (hb hby emethod_6_d94) rfl ((if0 _ _).trans (teq (by decide : (0 : Int32) = (0 : Int32))).2) (XS.iconst X.here hx rfl (hb hby emethod_6_d97) (XS.goto X.here hx rfl (pc0 := 98) (pc' := 102) rfl (hb hby emethod_6_d98) (by decide) (by decide) k_)))) ?_
    refine own_retN X hx hlk (t := .boolean) Bd.returns (by simp) (hb hby emethod_6_d102) (by decide) (by decide) ?_
    rw [eT]
    exact ⟨rfl, N, hh0⟩
  · replace V_ba : Arv Z h ba kb_ .byte (26 : Int32) [(.int 0), (.int 0), (.int (own_al (own_d M 21))), (.int (own_al (own_d M 20))), (.int (own_al (own_d M 19))), (.int (own_al (own_d M 18))), (.int (own_al (own_d M 17))), (.int (own_al (own_d M 16))), (.int (own_al (own_d M 15))), (.int (own_al (own_d M 14))), (.int (own_al (own_d M 13))), (.int (own_al (own_d M 12))), (.int (own_al (own_d M 11))), (.int (own_al (own_d M 10))), (.int (own_al (own_d M 9))), (.int (own_al (own_d M 8))), (.int (own_al (own_d M 7))), (.int (own_al (own_d M 6))), (.int (own_al (own_d M 5))), (.int (own_al (own_d M 4))), (.int (own_al (own_d M 3))), (.int (own_al (own_d M 2))), (.int (own_al (own_d M 1))), (.int (own_al (own_d M 0))), (.int 0), (.int 0)] (.int 0) := V_ba
    refine own_via (g' := (mkF m 7 #[.val (.ref ba), .val (.int 2)] [(.int 0), (.ref ba)])) (fun t_ k_ => XS.iconst X.here hx rfl (hb hby emethod_6_d0) (XS.iloadN X.here hx rfl (hb hby emethod_6_d1) rfl (XS.icmpNo X.here hx rfl (hb hby emethod_6_d2) rfl (tlt (by decide : (0 : Int32) < (2 : Int32))).2.1 (XS.aloadN X.here hx rfl (hb hby emethod_6_d5) rfl rfl (XS.iconst X.here hx rfl (hb hby emethod_6_d6) k_))))) ?_
    obtain ⟨cl_, Ar_, -, Sz_, Nn_, Hs_, -⟩ := id V_ba
    have hin_ : ¬ ((0 : Int32) < 0 ∨ cl_.slots.size ≤ ((0 : Int32)).toNatClampNeg) := inb_of Sz_ ⟨by decide, by decide⟩
    have hat_ : cl_.slots[((0 : Int32)).toNatClampNeg]? = some (.int 0) := Hs_.at hin_ rfl
    refine own_via (g' := (mkF m 18 #[.val (.ref ba), .val (.int 2)] [(.int 1), (.ref ba)])) (fun t_ k_ => X.baloadBytes hx (j := (0 : Int32)) (v := (.int 0)) (by rw [eT]; exact Ar_.1) (State.isArrayOf_alike hZ.alike Ar_.2.1) Ar_.2.2 hin_ hat_ (g := (mkF m 7 #[.val (.ref ba), .val (.int 2)] [(.int 0), (.ref ba)])) rfl rfl (hb hby emethod_6_d7) _ (XS.ifNo X.here hx rfl (hb hby emethod_6_d8) rfl ((if0 _ _).trans (teq (by decide : (0 : Int32) = (0 : Int32))).2) (XS.iconst X.here hx rfl (hb hby emethod_6_d11) (XS.iloadN X.here hx rfl (hb hby emethod_6_d12) rfl (XS.icmpNo X.here hx rfl (hb hby emethod_6_d13) rfl (tlt (by decide : (1 : Int32) < (2 : Int32))).2.1 (XS.aloadN X.here hx rfl (hb hby emethod_6_d16) rfl rfl (XS.iconst X.here hx rfl (hb hby emethod_6_d17) k_))))))) ?_
    obtain ⟨cl_, Ar_, -, Sz_, Nn_, Hs_, -⟩ := id V_ba
    have hin_ : ¬ ((1 : Int32) < 0 ∨ cl_.slots.size ≤ ((1 : Int32)).toNatClampNeg) := inb_of Sz_ ⟨by decide, by decide⟩
    have hat_ : cl_.slots[((1 : Int32)).toNatClampNeg]? = some (.int 0) := Hs_.at hin_ rfl
    refine own_via (g' := (mkF m 39 #[.val (.ref ba), .val (.int 2)] [(.int ((2 : Int32) + (22 : Int32))), (.int 22)])) (fun t_ k_ => X.baloadBytes hx (j := (1 : Int32)) (v := (.int 0)) (by rw [eT]; exact Ar_.1) (State.isArrayOf_alike hZ.alike Ar_.2.1) Ar_.2.2 hin_ hat_ (g := (mkF m 18 #[.val (.ref ba), .val (.int 2)] [(.int 1), (.ref ba)])) rfl rfl (hb hby emethod_6_d18) _ (XS.ifNo X.here hx rfl (hb hby emethod_6_d19) rfl ((if0 _ _).trans (teq (by decide : (0 : Int32) = (0 : Int32))).2) (XS.iconst X.here hx rfl (hb hby emethod_6_d22) (XS.iloadN X.here hx rfl (hb hby emethod_6_d23) rfl (XS.icmpYes X.here hx rfl (pc0 := 24) (pc' := 33) rfl (hb hby emethod_6_d24) rfl (flt (by decide : ¬ ((2 : Int32) < (2 : Int32)))).2.1 (by decide) (by decide) (XS.bipush X.here hx rfl (hb hby emethod_6_d33) (XS.iloadN X.here hx rfl (hb hby emethod_6_d35) rfl (XS.bipush X.here hx rfl (hb hby emethod_6_d36) (XS.iadd X.here hx rfl (hb hby emethod_6_d38) rfl k_))))))))) ?_
    rw [(by decide : ((2 : Int32) + (22 : Int32)) = (24 : Int32))]
    refine own_via (g' := (mkF m 55 #[.val (.ref ba), .val (.int 2)] [(.int ((2 : Int32) + (22 : Int32))), (.int 23)])) (fun t_ k_ => XS.icmpYes X.here hx rfl (pc0 := 39) (pc' := 49) rfl (hb hby emethod_6_d39) rfl (tlt (by decide : (22 : Int32) < (24 : Int32))).1 (by decide) (by decide) (XS.bipush X.here hx rfl (hb hby emethod_6_d49) (XS.iloadN X.here hx rfl (hb hby emethod_6_d51) rfl (XS.bipush X.here hx rfl (hb hby emethod_6_d52) (XS.iadd X.here hx rfl (hb hby emethod_6_d54) rfl k_))))) ?_
    rw [(by decide : ((2 : Int32) + (22 : Int32)) = (24 : Int32))]
    refine own_via (g' := (mkF m 71 #[.val (.ref ba), .val (.int 2)] [(.int ((2 : Int32) + (22 : Int32))), (.int 24)])) (fun t_ k_ => XS.icmpYes X.here hx rfl (pc0 := 55) (pc' := 65) rfl (hb hby emethod_6_d55) rfl (tlt (by decide : (23 : Int32) < (24 : Int32))).1 (by decide) (by decide) (XS.bipush X.here hx rfl (hb hby emethod_6_d65) (XS.iloadN X.here hx rfl (hb hby emethod_6_d67) rfl (XS.bipush X.here hx rfl (hb hby emethod_6_d68) (XS.iadd X.here hx rfl (hb hby emethod_6_d70) rfl k_))))) ?_
    rw [(by decide : ((2 : Int32) + (22 : Int32)) = (24 : Int32))]
    refine own_via (g' := (mkF m 77 #[.val (.ref ba), .val (.int 2)] [(.int 24), (.ref ba)])) (fun t_ k_ => XS.icmpNo X.here hx rfl (hb hby emethod_6_d71) rfl (flt (by decide : ¬ ((24 : Int32) < (24 : Int32)))).1 (XS.aloadN X.here hx rfl (hb hby emethod_6_d74) rfl rfl (XS.bipush X.here hx rfl (hb hby emethod_6_d75) k_))) ?_
    obtain ⟨cl_, Ar_, -, Sz_, Nn_, Hs_, -⟩ := id V_ba
    have hin_ : ¬ ((24 : Int32) < 0 ∨ cl_.slots.size ≤ ((24 : Int32)).toNatClampNeg) := inb_of Sz_ ⟨by decide, by decide⟩
    have hat_ : cl_.slots[((24 : Int32)).toNatClampNeg]? = some (.int 0) := Hs_.at hin_ rfl
    refine own_via (g' := (mkF m 87 #[.val (.ref ba), .val (.int 2)] [(.int ((2 : Int32) + (22 : Int32))), (.int 25)])) (fun t_ k_ => X.baloadBytes hx (j := (24 : Int32)) (v := (.int 0)) (by rw [eT]; exact Ar_.1) (State.isArrayOf_alike hZ.alike Ar_.2.1) Ar_.2.2 hin_ hat_ (g := (mkF m 77 #[.val (.ref ba), .val (.int 2)] [(.int 24), (.ref ba)])) rfl rfl (hb hby emethod_6_d77) _ (XS.ifNo X.here hx rfl (hb hby emethod_6_d78) rfl ((if0 _ _).trans (teq (by decide : (0 : Int32) = (0 : Int32))).2) (XS.bipush X.here hx rfl (hb hby emethod_6_d81) (XS.iloadN X.here hx rfl (hb hby emethod_6_d83) rfl (XS.bipush X.here hx rfl (hb hby emethod_6_d84) (XS.iadd X.here hx rfl (hb hby emethod_6_d86) rfl k_)))))) ?_
    rw [(by decide : ((2 : Int32) + (22 : Int32)) = (24 : Int32))]
    refine own_via (g' := (mkF m 93 #[.val (.ref ba), .val (.int 2)] [(.int 25), (.ref ba)])) (fun t_ k_ => XS.icmpNo X.here hx rfl (hb hby emethod_6_d87) rfl (flt (by decide : ¬ ((25 : Int32) < (24 : Int32)))).1 (XS.aloadN X.here hx rfl (hb hby emethod_6_d90) rfl rfl (XS.bipush X.here hx rfl (hb hby emethod_6_d91) k_))) ?_
    obtain ⟨cl_, Ar_, -, Sz_, Nn_, Hs_, -⟩ := id V_ba
    have hin_ : ¬ ((25 : Int32) < 0 ∨ cl_.slots.size ≤ ((25 : Int32)).toNatClampNeg) := inb_of Sz_ ⟨by decide, by decide⟩
    have hat_ : cl_.slots[((25 : Int32)).toNatClampNeg]? = some (.int 0) := Hs_.at hin_ rfl
    refine own_via (g' := (mkF m 102 #[.val (.ref ba), .val (.int 2)] [(.int 1)])) (fun t_ k_ => X.baloadBytes hx (j := (25 : Int32)) (v := (.int 0)) (by rw [eT]; exact Ar_.1) (State.isArrayOf_alike hZ.alike Ar_.2.1) Ar_.2.2 hin_ hat_ (g := (mkF m 93 #[.val (.ref ba), .val (.int 2)] [(.int 25), (.ref ba)])) rfl rfl (hb hby emethod_6_d93) _ (XS.ifNo X.here hx rfl (hb hby emethod_6_d94) rfl ((if0 _ _).trans (teq (by decide : (0 : Int32) = (0 : Int32))).2) (XS.iconst X.here hx rfl (hb hby emethod_6_d97) (XS.goto X.here hx rfl (pc0 := 98) (pc' := 102) rfl (hb hby emethod_6_d98) (by decide) (by decide) k_)))) ?_
    refine own_retN X hx hlk (t := .boolean) Bd.returns (by simp) (hb hby emethod_6_d102) (by decide) (by decide) ?_
    rw [eT]
    exact ⟨rfl, N, hh0⟩
  · replace V_ba : Arv Z h ba kb_ .byte (26 : Int32) [(.int 0), (.int 0), (.int 0), (.int (own_al (own_d M 21))), (.int (own_al (own_d M 20))), (.int (own_al (own_d M 19))), (.int (own_al (own_d M 18))), (.int (own_al (own_d M 17))), (.int (own_al (own_d M 16))), (.int (own_al (own_d M 15))), (.int (own_al (own_d M 14))), (.int (own_al (own_d M 13))), (.int (own_al (own_d M 12))), (.int (own_al (own_d M 11))), (.int (own_al (own_d M 10))), (.int (own_al (own_d M 9))), (.int (own_al (own_d M 8))), (.int (own_al (own_d M 7))), (.int (own_al (own_d M 6))), (.int (own_al (own_d M 5))), (.int (own_al (own_d M 4))), (.int (own_al (own_d M 3))), (.int (own_al (own_d M 2))), (.int (own_al (own_d M 1))), (.int (own_al (own_d M 0))), (.int 0)] (.int 0) := V_ba
    refine own_via (g' := (mkF m 7 #[.val (.ref ba), .val (.int 3)] [(.int 0), (.ref ba)])) (fun t_ k_ => XS.iconst X.here hx rfl (hb hby emethod_6_d0) (XS.iloadN X.here hx rfl (hb hby emethod_6_d1) rfl (XS.icmpNo X.here hx rfl (hb hby emethod_6_d2) rfl (tlt (by decide : (0 : Int32) < (3 : Int32))).2.1 (XS.aloadN X.here hx rfl (hb hby emethod_6_d5) rfl rfl (XS.iconst X.here hx rfl (hb hby emethod_6_d6) k_))))) ?_
    obtain ⟨cl_, Ar_, -, Sz_, Nn_, Hs_, -⟩ := id V_ba
    have hin_ : ¬ ((0 : Int32) < 0 ∨ cl_.slots.size ≤ ((0 : Int32)).toNatClampNeg) := inb_of Sz_ ⟨by decide, by decide⟩
    have hat_ : cl_.slots[((0 : Int32)).toNatClampNeg]? = some (.int 0) := Hs_.at hin_ rfl
    refine own_via (g' := (mkF m 18 #[.val (.ref ba), .val (.int 3)] [(.int 1), (.ref ba)])) (fun t_ k_ => X.baloadBytes hx (j := (0 : Int32)) (v := (.int 0)) (by rw [eT]; exact Ar_.1) (State.isArrayOf_alike hZ.alike Ar_.2.1) Ar_.2.2 hin_ hat_ (g := (mkF m 7 #[.val (.ref ba), .val (.int 3)] [(.int 0), (.ref ba)])) rfl rfl (hb hby emethod_6_d7) _ (XS.ifNo X.here hx rfl (hb hby emethod_6_d8) rfl ((if0 _ _).trans (teq (by decide : (0 : Int32) = (0 : Int32))).2) (XS.iconst X.here hx rfl (hb hby emethod_6_d11) (XS.iloadN X.here hx rfl (hb hby emethod_6_d12) rfl (XS.icmpNo X.here hx rfl (hb hby emethod_6_d13) rfl (tlt (by decide : (1 : Int32) < (3 : Int32))).2.1 (XS.aloadN X.here hx rfl (hb hby emethod_6_d16) rfl rfl (XS.iconst X.here hx rfl (hb hby emethod_6_d17) k_))))))) ?_
    obtain ⟨cl_, Ar_, -, Sz_, Nn_, Hs_, -⟩ := id V_ba
    have hin_ : ¬ ((1 : Int32) < 0 ∨ cl_.slots.size ≤ ((1 : Int32)).toNatClampNeg) := inb_of Sz_ ⟨by decide, by decide⟩
    have hat_ : cl_.slots[((1 : Int32)).toNatClampNeg]? = some (.int 0) := Hs_.at hin_ rfl
    refine own_via (g' := (mkF m 29 #[.val (.ref ba), .val (.int 3)] [(.int 2), (.ref ba)])) (fun t_ k_ => X.baloadBytes hx (j := (1 : Int32)) (v := (.int 0)) (by rw [eT]; exact Ar_.1) (State.isArrayOf_alike hZ.alike Ar_.2.1) Ar_.2.2 hin_ hat_ (g := (mkF m 18 #[.val (.ref ba), .val (.int 3)] [(.int 1), (.ref ba)])) rfl rfl (hb hby emethod_6_d18) _ (XS.ifNo X.here hx rfl (hb hby emethod_6_d19) rfl ((if0 _ _).trans (teq (by decide : (0 : Int32) = (0 : Int32))).2) (XS.iconst X.here hx rfl (hb hby emethod_6_d22) (XS.iloadN X.here hx rfl (hb hby emethod_6_d23) rfl (XS.icmpNo X.here hx rfl (hb hby emethod_6_d24) rfl (tlt (by decide : (2 : Int32) < (3 : Int32))).2.1 (XS.aloadN X.here hx rfl (hb hby emethod_6_d27) rfl rfl (XS.iconst X.here hx rfl (hb hby emethod_6_d28) k_))))))) ?_
    obtain ⟨cl_, Ar_, -, Sz_, Nn_, Hs_, -⟩ := id V_ba
    have hin_ : ¬ ((2 : Int32) < 0 ∨ cl_.slots.size ≤ ((2 : Int32)).toNatClampNeg) := inb_of Sz_ ⟨by decide, by decide⟩
    have hat_ : cl_.slots[((2 : Int32)).toNatClampNeg]? = some (.int 0) := Hs_.at hin_ rfl
    refine own_via (g' := (mkF m 39 #[.val (.ref ba), .val (.int 3)] [(.int ((3 : Int32) + (22 : Int32))), (.int 22)])) (fun t_ k_ => X.baloadBytes hx (j := (2 : Int32)) (v := (.int 0)) (by rw [eT]; exact Ar_.1) (State.isArrayOf_alike hZ.alike Ar_.2.1) Ar_.2.2 hin_ hat_ (g := (mkF m 29 #[.val (.ref ba), .val (.int 3)] [(.int 2), (.ref ba)])) rfl rfl (hb hby emethod_6_d29) _ (XS.ifNo X.here hx rfl (hb hby emethod_6_d30) rfl ((if0 _ _).trans (teq (by decide : (0 : Int32) = (0 : Int32))).2) (XS.bipush X.here hx rfl (hb hby emethod_6_d33) (XS.iloadN X.here hx rfl (hb hby emethod_6_d35) rfl (XS.bipush X.here hx rfl (hb hby emethod_6_d36) (XS.iadd X.here hx rfl (hb hby emethod_6_d38) rfl k_)))))) ?_
    rw [(by decide : ((3 : Int32) + (22 : Int32)) = (25 : Int32))]
    refine own_via (g' := (mkF m 55 #[.val (.ref ba), .val (.int 3)] [(.int ((3 : Int32) + (22 : Int32))), (.int 23)])) (fun t_ k_ => XS.icmpYes X.here hx rfl (pc0 := 39) (pc' := 49) rfl (hb hby emethod_6_d39) rfl (tlt (by decide : (22 : Int32) < (25 : Int32))).1 (by decide) (by decide) (XS.bipush X.here hx rfl (hb hby emethod_6_d49) (XS.iloadN X.here hx rfl (hb hby emethod_6_d51) rfl (XS.bipush X.here hx rfl (hb hby emethod_6_d52) (XS.iadd X.here hx rfl (hb hby emethod_6_d54) rfl k_))))) ?_
    rw [(by decide : ((3 : Int32) + (22 : Int32)) = (25 : Int32))]
    refine own_via (g' := (mkF m 71 #[.val (.ref ba), .val (.int 3)] [(.int ((3 : Int32) + (22 : Int32))), (.int 24)])) (fun t_ k_ => XS.icmpYes X.here hx rfl (pc0 := 55) (pc' := 65) rfl (hb hby emethod_6_d55) rfl (tlt (by decide : (23 : Int32) < (25 : Int32))).1 (by decide) (by decide) (XS.bipush X.here hx rfl (hb hby emethod_6_d65) (XS.iloadN X.here hx rfl (hb hby emethod_6_d67) rfl (XS.bipush X.here hx rfl (hb hby emethod_6_d68) (XS.iadd X.here hx rfl (hb hby emethod_6_d70) rfl k_))))) ?_
    rw [(by decide : ((3 : Int32) + (22 : Int32)) = (25 : Int32))]
    refine own_via (g' := (mkF m 87 #[.val (.ref ba), .val (.int 3)] [(.int ((3 : Int32) + (22 : Int32))), (.int 25)])) (fun t_ k_ => XS.icmpYes X.here hx rfl (pc0 := 71) (pc' := 81) rfl (hb hby emethod_6_d71) rfl (tlt (by decide : (24 : Int32) < (25 : Int32))).1 (by decide) (by decide) (XS.bipush X.here hx rfl (hb hby emethod_6_d81) (XS.iloadN X.here hx rfl (hb hby emethod_6_d83) rfl (XS.bipush X.here hx rfl (hb hby emethod_6_d84) (XS.iadd X.here hx rfl (hb hby emethod_6_d86) rfl k_))))) ?_
    rw [(by decide : ((3 : Int32) + (22 : Int32)) = (25 : Int32))]
    refine own_via (g' := (mkF m 93 #[.val (.ref ba), .val (.int 3)] [(.int 25), (.ref ba)])) (fun t_ k_ => XS.icmpNo X.here hx rfl (hb hby emethod_6_d87) rfl (flt (by decide : ¬ ((25 : Int32) < (25 : Int32)))).1 (XS.aloadN X.here hx rfl (hb hby emethod_6_d90) rfl rfl (XS.bipush X.here hx rfl (hb hby emethod_6_d91) k_))) ?_
    obtain ⟨cl_, Ar_, -, Sz_, Nn_, Hs_, -⟩ := id V_ba
    have hin_ : ¬ ((25 : Int32) < 0 ∨ cl_.slots.size ≤ ((25 : Int32)).toNatClampNeg) := inb_of Sz_ ⟨by decide, by decide⟩
    have hat_ : cl_.slots[((25 : Int32)).toNatClampNeg]? = some (.int 0) := Hs_.at hin_ rfl
    refine own_via (g' := (mkF m 102 #[.val (.ref ba), .val (.int 3)] [(.int 1)])) (fun t_ k_ => X.baloadBytes hx (j := (25 : Int32)) (v := (.int 0)) (by rw [eT]; exact Ar_.1) (State.isArrayOf_alike hZ.alike Ar_.2.1) Ar_.2.2 hin_ hat_ (g := (mkF m 93 #[.val (.ref ba), .val (.int 3)] [(.int 25), (.ref ba)])) rfl rfl (hb hby emethod_6_d93) _ (XS.ifNo X.here hx rfl (hb hby emethod_6_d94) rfl ((if0 _ _).trans (teq (by decide : (0 : Int32) = (0 : Int32))).2) (XS.iconst X.here hx rfl (hb hby emethod_6_d97) (XS.goto X.here hx rfl (pc0 := 98) (pc' := 102) rfl (hb hby emethod_6_d98) (by decide) (by decide) k_)))) ?_
    refine own_retN X hx hlk (t := .boolean) Bd.returns (by simp) (hb hby emethod_6_d102) (by decide) (by decide) ?_
    rw [eT]
    exact ⟨rfl, N, hh0⟩
theorem emethod_5_d0 : decode method_5_code 0 = .ok (.aload_n 0, 1) := by decide +kernel
theorem emethod_5_d1 : decode method_5_code 1 = .ok (.iload_n 1, 1) := by decide +kernel
theorem emethod_5_d2 : decode method_5_code 2 = .ok (.iload_n 2, 1) := by decide +kernel
theorem emethod_5_d3 : decode method_5_code 3 = .ok (.iadd, 1) := by decide +kernel
theorem emethod_5_d4 : decode method_5_code 4 = .ok (.baload, 1) := by decide +kernel
theorem emethod_5_d5 : decode method_5_code 5 = .ok (.istore 4, 2) := by decide +kernel
theorem emethod_5_d7 : decode method_5_code 7 = .ok (.aload_n 3, 1) := by decide +kernel
theorem emethod_5_d8 : decode method_5_code 8 = .ok (.iload_n 2, 1) := by decide +kernel
theorem emethod_5_d9 : decode method_5_code 9 = .ok (.iload 4, 2) := by decide +kernel
theorem emethod_5_d11 : decode method_5_code 11 = .ok (.i2c, 1) := by decide +kernel
theorem emethod_5_d12 : decode method_5_code 12 = .ok (.castore, 1) := by decide +kernel
theorem emethod_5_d13 : decode method_5_code 13 = .ok (.iload 4, 2) := by decide +kernel
theorem emethod_5_d15 : decode method_5_code 15 = .ok (.invokestatic 63, 3) := by decide +kernel
theorem emethod_5_d18 : decode method_5_code 18 = .ok (.ireturn, 1) := by decide +kernel
theorem own_take_pn : plainFor (⟨"com/example/nuthatch/nuthatch/EventIdWritePinLaw", "take", "([BII[C)Z"⟩ : MethodName) = true := by first | exact plainFor_of_name (by first | (simp [plainName, overriddenIn]; done) | decide +kernel) | decide +kernel | exact Jvm.Free.JP.mathPlain rfl (by decide +kernel)
theorem own_take_ef (m : MethodId) (x0 : Addr) (x1 : Int32) (x2 : Int32) (x3 : Addr) : entryFrame m #[(.ref x0), (.int x1), (.int x2), (.ref x3)] 5 = mkF m 0 #[.val (.ref x0), .val (.int x1), .val (.int x2), .val (.ref x3), .unset] [] := by first | (simp [entryFrame, mkF, argsToLocals, Value.category]; done) | rfl
def own_take_Q (Z : State) (ba : Addr) (ca : Addr) (kb_ : ClassId) (kc_ : ClassId) (oo : Int32) (i1 : Int32) (bs : List Value) (cs : List Value) (x1 : Int32) (nc : Nat) (h0 : Heap) (n0 : Nat) (v : Option Value) (h : Heap) (L : List Loc) : Prop := v = some (.int 1) ∧ Fr n0 L ∧ Keep h0 h [ca] ∧ Arv Z h ca kc_ .char (22 : Int32) (cs.set nc (Value.int x1)) (.int 0)
set_option maxRecDepth 65536 in
set_option maxHeartbeats 40000000 in
theorem own_take (l : Launch) (Z : State) (a0 : Array Value) (hw : ∀ d ∈ tables_1, d.before a0 Z = true) (ws : List Jvm.Cond) (ba : Addr) (ca : Addr) (kb_ : ClassId) (kc_ : ClassId) (oo : Int32) (i1 : Int32) (bs : List Value) (cs : List Value) (x1 : Int32) (nc : Nat) (h0 : Heap) (n0 : Nat) (O : Old Z n0 h0) (V_ba : Arv Z h0 ba kb_ .byte (26 : Int32) bs (.int 0)) (V_ca : Arv Z h0 ca kc_ .char (22 : Int32) cs (.int 0)) (E_ca : Exa Z h0 ca "[C") (E_ba : Exa Z h0 ba "[B") (g_ca : n0 ≤ ca) (hp : x1 ∈ own_AL) (hb1 : ¬ (oo + i1) < 0 ∧ (oo + i1) < (26 : Int32)) (hb2 : bs.getD (oo + i1).toNatClampNeg (.int 0) = .int x1) (hi1 : ¬ i1 < 0 ∧ i1 < (22 : Int32)) (hi2 : i1.toNatClampNeg = nc) (hi3 : nc < cs.length) :
    MetFree l (⟨"com/example/nuthatch/nuthatch/EventIdWritePinLaw", "take", "([BII[C)Z"⟩ : MethodName) (head1 (Jvm.Cond.code (⟨"com/example/nuthatch/nuthatch/EventIdWritePinLaw", "take", "([BII[C)Z"⟩ : MethodName) method_5_code 5 (some .boolean) :: ws) ({ frames := 1, cells := 0, slots := 0, locals := 12 } : Room)) (fun a U => a = #[(.ref ba), (.int oo), (.int i1), (.ref ca)] ∧ Z.Warmed39 U.vm ∧ U.heap = h0) (fun _ _ _ _ _ => True) (fun _ U o U' => ∃ v L, o = .returned v ∧ own_take_Q Z ba ca kb_ kc_ oo i1 bs cs x1 nc h0 n0 v U'.heap L ∧ FrameEnd U o U' L ({ frames := 1, cells := 0, slots := 0, locals := 12 } : Room).cells ({ frames := 1, cells := 0, slots := 0, locals := 12 } : Room).slots) := by
  refine MetFree.of_bodySF own_take_pn hisR ?_
  intro p e s m args below meth c s₁ Bd hml0 hP hK
  obtain ⟨rfl, hZ, hh⟩ := hP
  have hx := Bd.exec
  have hby := Bd.bytes
  have hlk := Bd.notSynchronized
  have hml : c.maxLocals = 5 := hml0
  have hown : s.vm.findClass "com/example/nuthatch/nuthatch/EventIdWritePinLaw" = some m.cls := findClass_of_methodNamed Bd.named
  have hnm := (name_of_methodNamed Bd.named Bd.method).1
  have X : Stand p l e ({ frames := 1, cells := 0, slots := 0, locals := 12 } : Room) s m #[(.ref ba), (.int oo), (.int i1), (.ref ca)] below meth c s₁ [] 0 0 := Stand.of_body Bd
  have eT : s₁.heap = h0 := by rw [← hh, Bd.state]; rfl
  have N := Fr.nil n0
  have K0 := Keep.refl h0 [ca]
  show own_Ends p e below (own_Post s below (own_take_Q Z ba ca kb_ kc_ oo i1 bs cs x1 nc h0 n0) ({ frames := 1, cells := 0, slots := 0, locals := 12 } : Room).cells ({ frames := 1, cells := 0, slots := 0, locals := 12 } : Room).slots) s₁ (entryFrame m #[(.ref ba), (.int oo), (.int i1), (.ref ca)] 5)
  rw [own_take_ef m ba oo i1 ca]
  obtain ⟨T, hT⟩ : ∃ z, z = s₁ := ⟨_, rfl⟩
  rw [← hT] at X eT ⊢
  obtain ⟨h, hh0⟩ : ∃ z, z = h0 := ⟨_, rfl⟩
  rw [← hh0] at eT
  replace O : Old Z n0 h := by rw [hh0]; exact O
  replace K0 : Keep h0 h [ca] := by rw [hh0]; exact K0
  rw [← hh0] at V_ba
  rw [← hh0] at V_ca
  rw [← hh0] at E_ca
  rw [← hh0] at E_ba
  have ne_ca_ba := Exa.ne E_ca E_ba (by decide)
  refine own_via (g' := (mkF m 4 (own_A25 ba oo i1 ca) [(.int (oo + i1)), (.ref ba)])) (fun t_ k_ => XS.aloadN X.here hx rfl (hb hby emethod_5_d0) rfl rfl (XS.iloadN X.here hx rfl (hb hby emethod_5_d1) rfl (XS.iloadN X.here hx rfl (hb hby emethod_5_d2) rfl (XS.iadd X.here hx rfl (hb hby emethod_5_d3) rfl k_)))) ?_
  obtain ⟨cl_, Ar_, -, Sz_, Nn_, Hs_, -⟩ := id V_ba
  have hin_ : ¬ ((oo + i1) < 0 ∨ cl_.slots.size ≤ ((oo + i1)).toNatClampNeg) := inb_of Sz_ hb1
  have hat_ : cl_.slots[((oo + i1)).toNatClampNeg]? = some (.int x1) := Hs_.at hin_ hb2
  refine own_via (g' := (mkF m 12 (own_A24 ba oo i1 ca x1) [(.int (x1.toUInt32.toUInt16.toUInt32.toInt32)), (.int i1), (.ref ca)])) (fun t_ k_ => X.baloadBytes hx (j := (oo + i1)) (v := (.int x1)) (by rw [eT]; exact Ar_.1) (State.isArrayOf_alike hZ.alike Ar_.2.1) Ar_.2.2 hin_ hat_ (g := (mkF m 4 (own_A25 ba oo i1 ca) [(.int (oo + i1)), (.ref ba)])) rfl rfl (hb hby emethod_5_d4) _ (XS.istore X.here hx rfl (hb hby emethod_5_d5) rfl (l' := (own_A24 ba oo i1 ca x1)) rfl (XS.aloadN X.here hx rfl (hb hby emethod_5_d7) rfl rfl (XS.iloadN X.here hx rfl (hb hby emethod_5_d8) rfl (XS.iload X.here hx rfl (hb hby emethod_5_d9) rfl (XS.i2c X.here hx rfl (hb hby emethod_5_d11) rfl k_)))))) ?_
  obtain ⟨cl_, Ar_, qk_, Sz_, Nn_, Hs_, Gs_⟩ := id V_ca
  have hin_ : ¬ (i1 < 0 ∨ cl_.slots.size ≤ (i1).toNatClampNeg) := inb_of Sz_ hi1
  obtain ⟨T, h1, X, eT, W, st⟩ := stC X hx hZ eT Ar_ (j := i1) hin_ (g := (mkF m 12 (own_A24 ba oo i1 ca x1) [(.int (x1.toUInt32.toUInt16.toUInt32.toInt32)), (.int i1), (.ref ca)])) rfl rfl (hb hby emethod_5_d12)
  replace V_ca : Arv Z h1 ca kc_ .char (22 : Int32) (cs.set nc (Value.int (nar .char (x1.toUInt32.toUInt16.toUInt32.toInt32)))) (.int 0) := Arv.set Ar_ qk_ Sz_ Nn_ Hs_ Gs_ (fits_nar_char _) W nc hi2 hi3
  replace V_ba := V_ba.other W (Ne.symm ne_ca_ba)
  replace E_ca := E_ca.wr W
  replace E_ba := E_ba.wr W
  replace O := O.wr W g_ca
  replace K0 := K0.wr W (Or.inl (List.mem_of_getElem? (i := 0) rfl))
  replace N := Fr.snoc X N g_ca
  refine own_via (g' := (mkF m 13 (own_A24 ba oo i1 ca x1) [])) st ?_
  rw [show nar .char (x1.toUInt32.toUInt16.toUInt32.toInt32) = x1 from (own_dom1 (P := fun x1 => nar .char (x1.toUInt32.toUInt16.toUInt32.toInt32) = x1) (by decide) hp)] at V_ca
  replace V_ca : Arv Z h1 ca kc_ .char (22 : Int32) (cs.set nc (Value.int x1)) (.int 0) := V_ca
  refine own_via (g' := (mkF m 15 (own_A24 ba oo i1 ca x1) [(.int x1)])) (fun t_ k_ => XS.iload X.here hx rfl (hb hby emethod_5_d13) rfl k_) ?_
  obtain ⟨_, _, ⟨T, Lq, kq, nq⟩, -, X, ⟨Lc, hQ, lq, yq, zq⟩, st⟩ := Jvm.LawKit.callS X hx (y := own_y8) hown (mvT hZ (hw _ (own_w 79 rfl))) (mvT hZ (hw _ (own_w 80 rfl))) (mvT hZ (hw _ (own_w 73 rfl))) (mvT hZ (hw _ (own_w 81 rfl))) (by decide) (backOf (W := 0) (own_b62 l Z a0 hw [] x1 h1 n0 O hp) hZ (hw _ (own_w 81 rfl)) (hw _ (own_w 73 rfl)) (by decide) (by decide)) (g := (mkF m 15 (own_A24 ba oo i1 ca x1) [(.int x1)])) rfl (by rw [hml]; rfl) (argsL := [(.int x1)]) (rest := []) (lenOf own_pd8 rfl) rfl (by show 2 * 0 + _ ≤ _; exact Nat.le_of_eq rfl) (hb hby emethod_5_d15) (fun _ _ => ⟨rfl, eT, (by decide : 0 + 0 ≤ _), (by decide : 0 + 0 ≤ _)⟩)
  dsimp only [Pt.U, Pt.locs, Pt.cells, Pt.slots] at X lq yq zq st hQ
  rw [lq, yq, zq] at X
  obtain ⟨rfl, Nq, eT⟩ := hQ
  replace N := Fr.app N Nq
  refine own_via (g' := (mkF m 18 (own_A24 ba oo i1 ca x1) [(.int 1)])) st ?_
  refine own_retN X hx hlk (t := .boolean) Bd.returns (by simp) (hb hby emethod_5_d18) (by decide) (by decide) ?_
  rw [eT]
  exact ⟨rfl, N, K0, V_ca⟩
theorem ej31m11_d0 : decode jdk_31_method_11_code 0 = .ok (.aload_n 0, 1) := by decide +kernel
theorem ej31m11_d1 : decode jdk_31_method_11_code 1 = .ok (.ifnonnull 12, 3) := by decide +kernel
theorem ej31m11_d13 : decode jdk_31_method_11_code 13 = .ok (.aload_n 0, 1) := by decide +kernel
theorem ej31m11_d14 : decode jdk_31_method_11_code 14 = .ok (.areturn, 1) := by decide +kernel
theorem own_rnn_pn : plainFor (⟨"java/util/Objects", "requireNonNull", "(Ljava/lang/Object;Ljava/lang/String;)Ljava/lang/Object;"⟩ : MethodName) = true := by first | exact plainFor_of_name (by first | (simp [plainName, overriddenIn]; done) | decide +kernel) | decide +kernel | exact Jvm.Free.JP.mathPlain rfl (by decide +kernel)
theorem own_rnn_ef (m : MethodId) (x0 : Addr) (x1 : Addr) : entryFrame m #[(.ref x0), (.ref x1)] 2 = mkF m 0 #[.val (.ref x0), .val (.ref x1)] [] := by first | (simp [entryFrame, mkF, argsToLocals, Value.category]; done) | rfl
def own_rnn_Q (Z : State) (a1 : Addr) (a2 : Addr) (h0 : Heap) (n0 : Nat) (v : Option Value) (h : Heap) (L : List Loc) : Prop := v = some (.ref a1) ∧ Fr n0 L ∧ h = h0
set_option maxRecDepth 65536 in
set_option maxHeartbeats 40000000 in
theorem own_rnn (l : Launch) (Z : State) (a0 : Array Value) (hw : ∀ d ∈ tables_1, d.before a0 Z = true) (ws : List Jvm.Cond) (a1 : Addr) (a2 : Addr) (h0 : Heap) (n0 : Nat) (O : Old Z n0 h0)  :
    MetFree l (⟨"java/util/Objects", "requireNonNull", "(Ljava/lang/Object;Ljava/lang/String;)Ljava/lang/Object;"⟩ : MethodName) (head1 (Jvm.Cond.code (⟨"java/util/Objects", "requireNonNull", "(Ljava/lang/Object;Ljava/lang/String;)Ljava/lang/Object;"⟩ : MethodName) jdk_31_method_11_code 2 (some (.object "java/lang/Object")) :: ws) ({ frames := 0, cells := 0, slots := 0, locals := 0 } : Room)) (fun a U => a = #[(.ref a1), (.ref a2)] ∧ Z.Warmed39 U.vm ∧ U.heap = h0) (fun _ _ _ _ _ => True) (fun _ U o U' => ∃ v L, o = .returned v ∧ own_rnn_Q Z a1 a2 h0 n0 v U'.heap L ∧ FrameEnd U o U' L ({ frames := 0, cells := 0, slots := 0, locals := 0 } : Room).cells ({ frames := 0, cells := 0, slots := 0, locals := 0 } : Room).slots) := by
  refine MetFree.of_bodySF own_rnn_pn hisR ?_
  intro p e s m args below meth c s₁ Bd hml0 hP hK
  obtain ⟨rfl, hZ, hh⟩ := hP
  have hx := Bd.exec
  have hby := Bd.bytes
  have hlk := Bd.notSynchronized
  have hml : c.maxLocals = 2 := hml0
  have hown : s.vm.findClass "java/util/Objects" = some m.cls := findClass_of_methodNamed Bd.named
  have hnm := (name_of_methodNamed Bd.named Bd.method).1
  have X : Stand p l e ({ frames := 0, cells := 0, slots := 0, locals := 0 } : Room) s m #[(.ref a1), (.ref a2)] below meth c s₁ [] 0 0 := Stand.of_body Bd
  have eT : s₁.heap = h0 := by rw [← hh, Bd.state]; rfl
  have N := Fr.nil n0
  have K0 := Keep.refl h0 []
  show own_Ends p e below (own_Post s below (own_rnn_Q Z a1 a2 h0 n0) ({ frames := 0, cells := 0, slots := 0, locals := 0 } : Room).cells ({ frames := 0, cells := 0, slots := 0, locals := 0 } : Room).slots) s₁ (entryFrame m #[(.ref a1), (.ref a2)] 2)
  rw [own_rnn_ef m a1 a2]
  obtain ⟨T, hT⟩ : ∃ z, z = s₁ := ⟨_, rfl⟩
  rw [← hT] at X eT ⊢
  obtain ⟨h, hh0⟩ : ∃ z, z = h0 := ⟨_, rfl⟩
  rw [← hh0] at eT
  replace O : Old Z n0 h := by rw [hh0]; exact O
  replace K0 : Keep h0 h [] := by rw [hh0]; exact K0
  refine own_via (g' := (mkF m 14 #[.val (.ref a1), .val (.ref a2)] [(.ref a1)])) (fun t_ k_ => XS.aloadN X.here hx rfl (hb hby ej31m11_d0) rfl rfl (XS.ifnonnullYes X.here hx rfl (pc0 := 1) (pc' := 13) rfl (hb hby ej31m11_d1) rfl (by decide) (by decide) (XS.aloadN X.here hx rfl (hb hby ej31m11_d13) rfl rfl k_))) ?_
  refine own_retW X hx hlk Bd.returns rfl (Or.inr (Or.inr (Or.inr (Or.inr ⟨rfl, rfl, rfl⟩)))) (hb hby ej31m11_d14) (by decide) (by decide) ?_
  rw [eT]
  exact ⟨rfl, N, hh0⟩
theorem ep7m2_d0 : decode prog_7_method_2_code 0 = .ok (.aload_n 0, 1) := by decide +kernel
theorem ep7m2_d1 : decode prog_7_method_2_code 1 = .ok (.ldc 36, 2) := by decide +kernel
theorem ep7m2_d3 : decode prog_7_method_2_code 3 = .ok (.invokestatic 38, 3) := by decide +kernel
theorem ep7m2_d6 : decode prog_7_method_2_code 6 = .ok (.pop, 1) := by decide +kernel
theorem ep7m2_d7 : decode prog_7_method_2_code 7 = .ok (.aload_n 0, 1) := by decide +kernel
theorem ep7m2_d8 : decode prog_7_method_2_code 8 = .ok (.invokevirtual 44, 3) := by decide +kernel
theorem ep7m2_d11 : decode prog_7_method_2_code 11 = .ok (.bipush 22, 2) := by decide +kernel
theorem ep7m2_d13 : decode prog_7_method_2_code 13 = .ok (.if_icmp .eq 20, 3) := by decide +kernel
theorem ep7m2_d33 : decode prog_7_method_2_code 33 = .ok (.iconst 4, 1) := by decide +kernel
theorem ep7m2_d34 : decode prog_7_method_2_code 34 = .ok (.newarray .long, 2) := by decide +kernel
theorem ep7m2_d36 : decode prog_7_method_2_code 36 = .ok (.astore_n 1, 1) := by decide +kernel
theorem ep7m2_d37 : decode prog_7_method_2_code 37 = .ok (.iconst 0, 1) := by decide +kernel
theorem ep7m2_d38 : decode prog_7_method_2_code 38 = .ok (.istore_n 2, 1) := by decide +kernel
theorem ep7m2_d39 : decode prog_7_method_2_code 39 = .ok (.iload_n 2, 1) := by decide +kernel
theorem ep7m2_d40 : decode prog_7_method_2_code 40 = .ok (.bipush 22, 2) := by decide +kernel
theorem ep7m2_d42 : decode prog_7_method_2_code 42 = .ok (.if_icmp .ge 84, 3) := by decide +kernel
theorem ep7m2_d45 : decode prog_7_method_2_code 45 = .ok (.aload_n 0, 1) := by decide +kernel
theorem ep7m2_d46 : decode prog_7_method_2_code 46 = .ok (.iload_n 2, 1) := by decide +kernel
theorem ep7m2_d47 : decode prog_7_method_2_code 47 = .ok (.invokevirtual 51, 3) := by decide +kernel
theorem ep7m2_d50 : decode prog_7_method_2_code 50 = .ok (.istore_n 3, 1) := by decide +kernel
theorem ep7m2_d51 : decode prog_7_method_2_code 51 = .ok (.iload_n 3, 1) := by decide +kernel
theorem ep7m2_d52 : decode prog_7_method_2_code 52 = .ok (.getstatic 55, 3) := by decide +kernel
theorem ep7m2_d55 : decode prog_7_method_2_code 55 = .ok (.arraylength, 1) := by decide +kernel
theorem ep7m2_d56 : decode prog_7_method_2_code 56 = .ok (.if_icmp .ge 11, 3) := by decide +kernel
theorem ep7m2_d59 : decode prog_7_method_2_code 59 = .ok (.getstatic 55, 3) := by decide +kernel
theorem ep7m2_d62 : decode prog_7_method_2_code 62 = .ok (.iload_n 3, 1) := by decide +kernel
theorem ep7m2_d63 : decode prog_7_method_2_code 63 = .ok (.iaload, 1) := by decide +kernel
theorem ep7m2_d64 : decode prog_7_method_2_code 64 = .ok (.goto 4, 3) := by decide +kernel
theorem ep7m2_d68 : decode prog_7_method_2_code 68 = .ok (.istore 4, 2) := by decide +kernel
theorem ep7m2_d70 : decode prog_7_method_2_code 70 = .ok (.iload 4, 2) := by decide +kernel
theorem ep7m2_d72 : decode prog_7_method_2_code 72 = .ok (.ifCond .ge 20, 3) := by decide +kernel
theorem ep7m2_d92 : decode prog_7_method_2_code 92 = .ok (.aload_n 1, 1) := by decide +kernel
theorem ep7m2_d93 : decode prog_7_method_2_code 93 = .ok (.getstatic 62, 3) := by decide +kernel
theorem ep7m2_d96 : decode prog_7_method_2_code 96 = .ok (.iload 4, 2) := by decide +kernel
theorem ep7m2_d98 : decode prog_7_method_2_code 98 = .ok (.invokestatic 65, 3) := by decide +kernel
theorem ep7m2_d101 : decode prog_7_method_2_code 101 = .ok (.lconst 0, 1) := by decide +kernel
theorem ep7m2_d102 : decode prog_7_method_2_code 102 = .ok (.lcmp, 1) := by decide +kernel
theorem ep7m2_d103 : decode prog_7_method_2_code 103 = .ok (.ifCond .eq 17, 3) := by decide +kernel
theorem ep7m2_d120 : decode prog_7_method_2_code 120 = .ok (.iinc 2 1, 3) := by decide +kernel
theorem ep7m2_d123 : decode prog_7_method_2_code 123 = .ok (.goto (-84), 3) := by decide +kernel
theorem ep7m2_d126 : decode prog_7_method_2_code 126 = .ok (.aload_n 1, 1) := by decide +kernel
theorem ep7m2_d127 : decode prog_7_method_2_code 127 = .ok (.iconst 0, 1) := by decide +kernel
theorem ep7m2_d128 : decode prog_7_method_2_code 128 = .ok (.laload, 1) := by decide +kernel
theorem ep7m2_d129 : decode prog_7_method_2_code 129 = .ok (.bipush 32, 2) := by decide +kernel
theorem ep7m2_d131 : decode prog_7_method_2_code 131 = .ok (.lshl, 1) := by decide +kernel
theorem ep7m2_d132 : decode prog_7_method_2_code 132 = .ok (.aload_n 1, 1) := by decide +kernel
theorem ep7m2_d133 : decode prog_7_method_2_code 133 = .ok (.iconst 1, 1) := by decide +kernel
theorem ep7m2_d134 : decode prog_7_method_2_code 134 = .ok (.laload, 1) := by decide +kernel
theorem ep7m2_d135 : decode prog_7_method_2_code 135 = .ok (.lor, 1) := by decide +kernel
theorem ep7m2_d136 : decode prog_7_method_2_code 136 = .ok (.lstore_n 2, 1) := by decide +kernel
theorem ep7m2_d137 : decode prog_7_method_2_code 137 = .ok (.aload_n 1, 1) := by decide +kernel
theorem ep7m2_d138 : decode prog_7_method_2_code 138 = .ok (.iconst 2, 1) := by decide +kernel
theorem ep7m2_d139 : decode prog_7_method_2_code 139 = .ok (.laload, 1) := by decide +kernel
theorem ep7m2_d140 : decode prog_7_method_2_code 140 = .ok (.bipush 32, 2) := by decide +kernel
theorem ep7m2_d142 : decode prog_7_method_2_code 142 = .ok (.lshl, 1) := by decide +kernel
theorem ep7m2_d143 : decode prog_7_method_2_code 143 = .ok (.aload_n 1, 1) := by decide +kernel
theorem ep7m2_d144 : decode prog_7_method_2_code 144 = .ok (.iconst 3, 1) := by decide +kernel
theorem ep7m2_d145 : decode prog_7_method_2_code 145 = .ok (.laload, 1) := by decide +kernel
theorem ep7m2_d146 : decode prog_7_method_2_code 146 = .ok (.lor, 1) := by decide +kernel
theorem ep7m2_d147 : decode prog_7_method_2_code 147 = .ok (.lstore 4, 2) := by decide +kernel
theorem ep7m2_d149 : decode prog_7_method_2_code 149 = .ok (.new 16, 3) := by decide +kernel
theorem ep7m2_d152 : decode prog_7_method_2_code 152 = .ok (.dup, 1) := by decide +kernel
theorem ep7m2_d153 : decode prog_7_method_2_code 153 = .ok (.lload_n 2, 1) := by decide +kernel
theorem ep7m2_d154 : decode prog_7_method_2_code 154 = .ok (.lload 4, 2) := by decide +kernel
theorem ep7m2_d156 : decode prog_7_method_2_code 156 = .ok (.bipush 16, 2) := by decide +kernel
theorem ep7m2_d158 : decode prog_7_method_2_code 158 = .ok (.lushr, 1) := by decide +kernel
theorem ep7m2_d159 : decode prog_7_method_2_code 159 = .ok (.lload 4, 2) := by decide +kernel
theorem ep7m2_d161 : decode prog_7_method_2_code 161 = .ok (.ldc2_w 72, 3) := by decide +kernel
theorem ep7m2_d164 : decode prog_7_method_2_code 164 = .ok (.land, 1) := by decide +kernel
theorem ep7m2_d165 : decode prog_7_method_2_code 165 = .ok (.l2i, 1) := by decide +kernel
theorem ep7m2_d166 : decode prog_7_method_2_code 166 = .ok (.invokespecial 74, 3) := by decide +kernel
theorem ep7m2_d169 : decode prog_7_method_2_code 169 = .ok (.areturn, 1) := by decide +kernel
theorem own_parse_pn : plainFor (⟨"com/example/nuthatch/nuthatch/EventId", "parse", "(Ljava/lang/String;)Lcom/example/nuthatch/nuthatch/EventId;"⟩ : MethodName) = true := by first | exact plainFor_of_name (by first | (simp [plainName, overriddenIn]; done) | decide +kernel) | decide +kernel | exact Jvm.Free.JP.mathPlain rfl (by decide +kernel)
theorem own_parse_ef (m : MethodId) (x0 : Addr) : entryFrame m #[(.ref x0)] 6 = mkF m 0 #[.val (.ref x0), .unset, .unset, .unset, .unset, .unset] [] := by first | (simp [entryFrame, mkF, argsToLocals, Value.category]; done) | rfl
def own_parse_Q (Z : State) (s1 : Addr) (va : Addr) (kv : ClassId) (tt : Int64) (ww : Int64) (qq : Int32) (M : Int) (wDG : Addr) (kDG : ClassId) (dgs : List Value) (zc : Int32) (vS : Value) (h0 : Heap) (n0 : Nat) (v : Option Value) (h : Heap) (L : List Loc) : Prop := ∃ r, v = some (.ref r) ∧ Fr n0 L ∧ Keep h0 h [] ∧ Exa Z h r "com/example/nuthatch/nuthatch/EventId" ∧ Fld Z h r "com/example/nuthatch/nuthatch/EventId" "timeMillis" "J" (.long tt) ∧ Fld Z h r "com/example/nuthatch/nuthatch/EventId" "worker" "J" (.long ww) ∧ Fld Z h r "com/example/nuthatch/nuthatch/EventId" "sequence" "I" (.int qq)
set_option maxRecDepth 65536 in
set_option maxHeartbeats 40000000 in
theorem own_parse (l : Launch) (Z : State) (a0 : Array Value) (hw : ∀ d ∈ tables_1, d.before a0 Z = true) (ws : List Jvm.Cond) (s1 : Addr) (va : Addr) (kv : ClassId) (tt : Int64) (ww : Int64) (qq : Int32) (M : Int) (wDG : Addr) (kDG : ClassId) (dgs : List Value) (zc : Int32) (vS : Value) (h0 : Heap) (n0 : Nat) (O : Old Z n0 h0) (E_s1 : Exa Z h0 s1 "java/lang/String") (F_value_s1 : Fld Z h0 s1 "java/lang/String" "value" "[B" (.ref va)) (F_coder_s1 : Fld Z h0 s1 "java/lang/String" "coder" "B" (.int 0)) (V_va : Arv Z h0 va kv .byte (22 : Int32) (own_BV M) (.int 0)) (hok : own_ok tt ww qq) (hM : M = own_N tt ww qq) (S_D : Sta Z Z.heap "com/example/nuthatch/nuthatch/EventId" "DIGITS" "[I" (.ref wDG)) (A_dg : Arv Z Z.heap wDG kDG .int (128 : Int32) dgs (.int 0)) (hdgs : ∀ z : Int, 0 ≤ z ∧ z < 62 → dgs.getD (own_al z).toNatClampNeg (.int 0) = .int (own_dI z)) (S_B : Sta Z Z.heap "com/example/nuthatch/nuthatch/EventId" "BASE" "I" (.int 62)) (S_C : Sta Z Z.heap "java/lang/String" "COMPACT_STRINGS" "Z" (.int zc)) (hzc : ¬ zc = 0) (S_S : Sta Z Z.heap "jdk/internal/util/Preconditions" "SIOOBE_FORMATTER" "Ljava/util/function/BiFunction;" vS) (hvS : vS.isRef = true) :
    MetFree l (⟨"com/example/nuthatch/nuthatch/EventId", "parse", "(Ljava/lang/String;)Lcom/example/nuthatch/nuthatch/EventId;"⟩ : MethodName) (head1 (Jvm.Cond.code (⟨"com/example/nuthatch/nuthatch/EventId", "parse", "(Ljava/lang/String;)Lcom/example/nuthatch/nuthatch/EventId;"⟩ : MethodName) prog_7_method_2_code 6 (some (.object "com/example/nuthatch/nuthatch/EventId")) :: ws) ({ frames := 4, cells := 4, slots := 27, locals := 53 } : Room)) (fun a U => a = #[(.ref s1)] ∧ Z.Warmed39 U.vm ∧ U.heap = h0 ∧ CHv Z own_EL U.vm h0) (fun _ _ _ _ _ => True) (fun _ U o U' => ∃ v L, o = .returned v ∧ own_parse_Q Z s1 va kv tt ww qq M wDG kDG dgs zc vS h0 n0 v U'.heap L ∧ CHr Z own_EL U.vm U.heap U'.vm U'.heap ∧ ReturnedEndW U o U' L ({ frames := 4, cells := 4, slots := 27, locals := 53 } : Room).cells ({ frames := 4, cells := 4, slots := 27, locals := 53 } : Room).slots) := by
  refine MetFree.of_bodySF own_parse_pn hisR ?_
  intro p e s m args below meth c s₁ Bd hml0 hP hK
  obtain ⟨rfl, hZ, hh, H0⟩ := hP
  have hx := Bd.exec
  have hby := Bd.bytes
  have hlk := Bd.notSynchronized
  have hml : c.maxLocals = 6 := hml0
  have hown : s.vm.findClass "com/example/nuthatch/nuthatch/EventId" = some m.cls := findClass_of_methodNamed Bd.named
  have hnm := (name_of_methodNamed Bd.named Bd.method).1
  have X : Stand p l e ({ frames := 4, cells := 4, slots := 27, locals := 53 } : Room) s m #[(.ref s1)] below meth c s₁ [] 0 0 := Stand.of_body Bd
  have eT : s₁.heap = h0 := by rw [← hh, Bd.state]; rfl
  have N := Fr.nil n0
  have K0 := Keep.refl h0 []
  show own_Ends p e below (own_PostW s below (own_parse_Q Z s1 va kv tt ww qq M wDG kDG dgs zc vS h0 n0) (fun u => CHr Z own_EL s.vm s.heap u.vm u.heap) ({ frames := 4, cells := 4, slots := 27, locals := 53 } : Room).cells ({ frames := 4, cells := 4, slots := 27, locals := 53 } : Room).slots) s₁ (entryFrame m #[(.ref s1)] 6)
  rw [own_parse_ef m s1]
  obtain ⟨T, hT⟩ : ∃ z, z = s₁ := ⟨_, rfl⟩
  rw [← hT] at X eT ⊢
  obtain ⟨h, hh0⟩ : ∃ z, z = h0 := ⟨_, rfl⟩
  rw [← hh0] at eT
  replace O : Old Z n0 h := by rw [hh0]; exact O
  replace K0 : Keep h0 h [] := by rw [hh0]; exact K0
  rw [← hh0] at E_s1
  rw [← hh0] at F_value_s1
  rw [← hh0] at F_coder_s1
  rw [← hh0] at V_va
  have wS : ∀ a ∈ Bundle.stringAtoms, a.before a0 Z = true := fun a ha => hw a ((by decide +kernel : ∀ d ∈ Bundle.stringAtoms, d ∈ tables_1) a ha)
  have hEL := own_hEL hw
  refine own_via (g' := (mkF m 1 (own_A27 s1) [(.ref s1)])) (fun t_ k_ => XS.aloadN X.here hx rfl (hb hby ep7m2_d0) rfl rfl k_) ?_
  have H : CHr Z own_EL s.vm h0 s.vm h := by rw [hh0]; exact CHr.refl H0
  replace X := own_base X
  have hS := (State.WarmedH.refl s).since h0.size
  have hk : h0.size ≤ h.size := K0.1
  replace hZ : Z.Warmed39 (s.setVm s.vm).vm := hZ
  replace hown : (s.setVm s.vm).vm.findClass "com/example/nuthatch/nuthatch/EventId" = some m.cls := hown
  obtain ⟨tx, T, h1, k1, ta, kta, X, eT, E, hS, hk, hZ, hown, E_tx, F_coder_tx, F_value_tx, V_ta, lt_tx, lt_ta, hCH, hLit, hne, st⟩ := ldcCH (s := s) X hx hZ hown (hw _ (own_w 110 rfl)) wS eT hS hk hEL (by decide) H.1 (vs := [(.int 116), (.int 101), (.int 120), (.int 116)]) (z := (4 : Int32)) ⟨by decide +kernel, by decide +kernel⟩ (by decide) rfl (g := (mkF m 1 (own_A27 s1) [(.ref s1)])) rfl (hb hby ep7m2_d1) (n := 16) (by decide +kernel) (by decide) (by decide) (by decide)
  replace E_s1 := E_s1.ext E
  replace F_value_s1 := F_value_s1.ext E
  replace F_coder_s1 := F_coder_s1.ext E
  replace V_va := V_va.ext E
  replace O := O.ext E
  replace K0 := K0.ext E
  replace H := H.trans hCH
  refine own_via (g' := (mkF m 3 (own_A27 s1) [(.ref tx), (.ref s1)])) st ?_
  obtain ⟨hM1, hM2⟩ := own_NB hok
  rw [← hM] at hM1 hM2
  obtain ⟨_, _, ⟨T, Lq, kq, nq⟩, -, X, ⟨Lc, hQ, lq, yq, zq⟩, st⟩ := Jvm.LawKit.callS X hx (y := own_y9) hown (mvT hZ (hw _ (own_w 111 rfl))) (mvT hZ (hw _ (own_w 112 rfl))) (mvT hZ (hw _ (own_w 113 rfl))) (mvT hZ (hw _ (own_w 114 rfl))) (by decide) (backOf (W := 0) (own_rnn l Z a0 hw [] s1 tx h1 n0 O ) hZ (hw _ (own_w 114 rfl)) (hw _ (own_w 113 rfl)) (by decide) (by decide)) (g := (mkF m 3 (own_A27 s1) [(.ref tx), (.ref s1)])) rfl (by rw [hml]; rfl) (argsL := [(.ref s1), (.ref tx)]) (rest := []) (lenOf own_pd9 rfl) rfl (by show 2 * 0 + _ ≤ _; exact Nat.le_of_eq rfl) (hb hby ep7m2_d3) (fun _ _ => ⟨rfl, eT, (by decide : 2 + 0 ≤ _), (by decide : 20 + 0 ≤ _)⟩)
  dsimp only [Pt.U, Pt.locs, Pt.cells, Pt.slots] at X lq yq zq st hQ
  rw [lq, yq, zq] at X
  obtain ⟨rfl, Nq, eT⟩ := hQ
  replace N := Fr.app N Nq
  refine own_via (g' := (mkF m 6 (own_A27 s1) [(.ref s1)])) st ?_
  refine own_via (g' := (mkF m 8 (own_A27 s1) [(.ref s1)])) (fun t_ k_ => XS.pop X.here hx rfl (hb hby ep7m2_d6) rfl rfl (XS.aloadN X.here hx rfl (hb hby ep7m2_d7) rfl rfl k_)) ?_
  obtain ⟨cq, kq, qa, qb, qc⟩ := isOf hZ eT E_s1
  obtain ⟨_, _, ⟨T, Lq, kq, nq⟩, -, X, ⟨Lc, hQ, lq, yq, zq⟩, st⟩ := X.virtualBack hx (y := own_y10) (z := own_y10) hown (mvT hZ (hw _ (own_w 115 rfl))) (mvT hZ (hw _ (own_w 116 rfl))) (notFace_of_selects (args := #[]) (mvT hZ (hw _ (own_w 118 rfl)))) (mvT hZ (hw _ (own_w 118 rfl))) (mvT hZ (hw _ (own_w 117 rfl))) (by decide) (backOf (W := 0) (own_strlen l Z a0 hw [] s1 va kv (22 : Int32) (own_BV M) zc h1 n0 O E_s1 F_value_s1 F_coder_s1 V_va S_C hzc) hZ (hw _ (own_w 119 rfl)) (hw _ (own_w 38 rfl)) (by decide) (by decide)) qa qc (g := (mkF m 8 (own_A27 s1) [(.ref s1)])) rfl (by rw [hml]; rfl) (Steps.refl _) (argsL := []) (rest := []) (lenOf own_pd10 rfl) rfl (by show 2 * 0 + _ ≤ _; exact Nat.le_of_eq rfl) (hb hby ep7m2_d8) (fun _ _ => ⟨rfl, eT, (by decide : 2 + 0 ≤ _), (by decide : 20 + 0 ≤ _)⟩)
  dsimp only [Pt.U, Pt.locs, Pt.cells, Pt.slots] at X lq yq zq st hQ
  rw [lq, yq, zq] at X
  obtain ⟨rfl, Nq, eT⟩ := hQ
  replace N := Fr.app N Nq
  refine own_viaT (g' := (mkF m 11 (own_A27 s1) [(.int 22)])) st ?_
  refine own_via (g' := (mkF m 34 (own_A27 s1) [(.int 4)])) (fun t_ k_ => XS.bipush X.here hx rfl (hb hby ep7m2_d11) (XS.icmpYes X.here hx rfl (pc0 := 13) (pc' := 33) rfl (hb hby ep7m2_d13) rfl (teq (by decide : (22 : Int32) = (22 : Int32))).1 (by decide) (by decide) (XS.iconst X.here hx rfl (hb hby ep7m2_d33) k_))) ?_
  obtain ⟨b2, gb⟩ : ∃ z, z = h1.size := ⟨_, rfl⟩
  obtain ⟨T, h3, kb2, X, eT, E, A_, E_b2, st⟩ := newPE X hx hZ (hw _ (own_w 31 rfl)) eT (g := (mkF m 34 (own_A27 s1) [(.int 4)])) rfl (hb hby ep7m2_d34) rfl (by decide) (cap := 4) (by decide) (by decide) (by decide) (by decide) (ad := "[J") (by decide)
  rw [← gb] at A_ E_b2 st
  have ne_s1_b2 : s1 ≠ b2 := Nat.ne_of_lt (Nat.lt_of_lt_of_le E_s1.lt (Nat.le_of_eq gb.symm))
  have ne_va_b2 : va ≠ b2 := Nat.ne_of_lt (Nat.lt_of_lt_of_le V_va.lt (Nat.le_of_eq gb.symm))
  have S_b2 := own_safeNew H (Nat.le_of_eq gb.symm)
  have g_b2 : n0 ≤ b2 := Nat.le_trans (own_le O) (Nat.le_of_eq gb.symm)
  have sz_b2 : h0.size ≤ b2 := Nat.le_trans K0.1 (Nat.le_of_eq gb.symm)
  replace E_s1 := E_s1.ext E
  replace F_value_s1 := F_value_s1.ext E
  replace F_coder_s1 := F_coder_s1.ext E
  replace V_va := V_va.ext E
  replace O := O.ext E
  replace K0 := K0.ext E
  replace hk := Nat.le_trans hk E.1
  replace S_b2 := Safe.ext E H.1 S_b2
  replace H := H.trans (CHr.ext E H.1)
  have V_b2 : Arv Z h3 b2 kb2 .long (4 : Int32) [(.long 0), (.long 0), (.long 0), (.long 0)] (.long 0) := (Arv.new A_ (by decide)).pad (pad_rep [] (.long 0) 4)
  refine own_via (g' := (mkF m 36 (own_A27 s1) [(.ref b2)])) st ?_
  have hL0 := own_L0 hM1 hM2
  refine own_via (g' := (mkF m 47 (own_A26 s1 b2 0) [(.int 0), (.ref s1)])) (fun t_ k_ => XS.astoreN X.here hx rfl (hb hby ep7m2_d36) rfl rfl (l' := #[.val (.ref s1), .val (.ref b2), .unset, .unset, .unset, .unset]) rfl (XS.iconst X.here hx rfl (hb hby ep7m2_d37) (XS.istoreN X.here hx rfl (hb hby ep7m2_d38) rfl (l' := (own_A26 s1 b2 0)) rfl (XS.iloadN X.here hx rfl (hb hby ep7m2_d39) rfl (XS.bipush X.here hx rfl (hb hby ep7m2_d40) (XS.icmpNo X.here hx rfl (hb hby ep7m2_d42) rfl (tlt (by decide : (0 : Int32) < (22 : Int32))).2.1 (XS.aloadN X.here hx rfl (hb hby ep7m2_d45) rfl rfl (XS.iloadN X.here hx rfl (hb hby ep7m2_d46) rfl k_)))))))) ?_
  obtain ⟨cq, kq, qa, qb, qc⟩ := isOf hZ eT E_s1
  obtain ⟨_, _, ⟨T, Lq, kq, nq⟩, -, X, ⟨Lc, hQ, lq, yq, zq⟩, st⟩ := X.virtualBack hx (y := own_y7) (z := own_y7) hown (mvT hZ (hw _ (own_w 46 rfl))) (mvT hZ (hw _ (own_w 47 rfl))) (notFace_of_selects (args := #[]) (mvT hZ (hw _ (own_w 49 rfl)))) (mvT hZ (hw _ (own_w 49 rfl))) (mvT hZ (hw _ (own_w 48 rfl))) (by decide) (backOf (W := 0) (own_charAt l Z a0 hw [] s1 (0 : Int32) va kv (22 : Int32) (own_BV M) (own_al (own_d M 21)) zc vS h3 n0 O E_s1 F_value_s1 F_coder_s1 V_va S_C hzc ⟨by decide, by decide⟩ rfl S_S hvS) hZ (hw _ (own_w 50 rfl)) (hw _ (own_w 38 rfl)) (by decide) (by decide)) qa qc (g := (mkF m 47 (own_A26 s1 b2 0) [(.int 0), (.ref s1)])) rfl (by rw [hml]; rfl) (Steps.refl _) (argsL := [(.int 0)]) (rest := []) (lenOf own_pd7 rfl) rfl (by show 2 * 0 + _ ≤ _; exact Nat.le_of_eq rfl) (hb hby ep7m2_d47) (fun _ _ => ⟨rfl, eT, (by decide : 3 + 0 ≤ _), (by decide : 24 + 0 ≤ _)⟩)
  dsimp only [Pt.U, Pt.locs, Pt.cells, Pt.slots] at X lq yq zq st hQ
  rw [lq, yq, zq] at X
  obtain ⟨rfl, Nq, eT⟩ := hQ
  replace N := Fr.app N Nq
  refine own_viaT (g' := (mkF m 50 (own_A26 s1 b2 0) [(.int ((own_al (own_d M 21)) &&& (255 : Int32)))])) st ?_
  rw [own_al255 (own_dB M 21)]
  have ha1 := own_al128 (own_dB M 21)
  have ha2 := own_dI0 (own_dB M 21)
  refine own_via (g' := (mkF m 52 (own_A21 s1 b2 0 (own_al (own_d M 21))) [(.int (own_al (own_d M 21)))])) (fun t_ k_ => XS.istoreN X.here hx rfl (hb hby ep7m2_d50) rfl (l' := (own_A21 s1 b2 0 (own_al (own_d M 21)))) rfl (XS.iloadN X.here hx rfl (hb hby ep7m2_d51) rfl k_)) ?_
  obtain ⟨T, X, eT, st⟩ := getS2 X hx hZ hown (host := "") (Or.inl (hw _ (own_w 125 rfl))) Via.refl eT (S_D.ext O.2) (g := (mkF m 52 (own_A21 s1 b2 0 (own_al (own_d M 21))) [(.int (own_al (own_d M 21)))])) rfl (hb hby ep7m2_d52)
  refine own_via (g' := (mkF m 55 (own_A21 s1 b2 0 (own_al (own_d M 21))) [(.ref wDG), (.int (own_al (own_d M 21)))])) st ?_
  have V_wDG := A_dg.ext O.2
  obtain ⟨cl_, Ar_, -, Sz_, Nn_, -, -⟩ := id V_wDG
  refine own_via (g' := (mkF m 56 (own_A21 s1 b2 0 (own_al (own_d M 21))) [(.int 128), (.int (own_al (own_d M 21)))])) (fun t_ k_ => X.arraylength hx (by rw [eT]; exact Ar_.1) (State.isArrayOf_alike hZ.alike Ar_.2.1) (g := (mkF m 55 (own_A21 s1 b2 0 (own_al (own_d M 21))) [(.ref wDG), (.int (own_al (own_d M 21)))])) rfl rfl (hb hby ep7m2_d55) _ (by rw [len_of Sz_ Nn_]; exact k_)) ?_
  refine own_via (g' := (mkF m 59 (own_A21 s1 b2 0 (own_al (own_d M 21))) [])) (fun t_ k_ => XS.icmpNo X.here hx rfl (hb hby ep7m2_d56) rfl (tlt ha1.2).2.1 k_) ?_
  obtain ⟨T, X, eT, st⟩ := getS2 X hx hZ hown (host := "") (Or.inl (hw _ (own_w 125 rfl))) Via.refl eT (S_D.ext O.2) (g := (mkF m 59 (own_A21 s1 b2 0 (own_al (own_d M 21))) [])) rfl (hb hby ep7m2_d59)
  refine own_via (g' := (mkF m 62 (own_A21 s1 b2 0 (own_al (own_d M 21))) [(.ref wDG)])) st ?_
  refine own_via (g' := (mkF m 63 (own_A21 s1 b2 0 (own_al (own_d M 21))) [(.int (own_al (own_d M 21))), (.ref wDG)])) (fun t_ k_ => XS.iloadN X.here hx rfl (hb hby ep7m2_d62) rfl k_) ?_
  have V_wDG := A_dg.ext O.2
  obtain ⟨cl_, Ar_, -, Sz_, Nn_, Hs_, -⟩ := id V_wDG
  have hin_ : ¬ ((own_al (own_d M 21)) < 0 ∨ cl_.slots.size ≤ ((own_al (own_d M 21))).toNatClampNeg) := inb_of Sz_ ha1
  have hat_ : cl_.slots[((own_al (own_d M 21))).toNatClampNeg]? = some (.int (own_dI (own_d M 21))) := Hs_.at hin_ (hdgs _ (own_dB M 21))
  refine own_via (g' := (mkF m 64 (own_A21 s1 b2 0 (own_al (own_d M 21))) [(.int (own_dI (own_d M 21)))])) (fun t_ k_ => X.iaload hx (j := (own_al (own_d M 21))) (v := (.int (own_dI (own_d M 21)))) (by rw [eT]; exact Ar_.1) (State.isArrayOf_alike hZ.alike Ar_.2.1) Ar_.2.2 hin_ hat_ (g := (mkF m 63 (own_A21 s1 b2 0 (own_al (own_d M 21))) [(.int (own_al (own_d M 21))), (.ref wDG)])) rfl rfl (hb hby ep7m2_d63) _ k_) ?_
  refine own_via (g' := (mkF m 93 (own_A15 s1 b2 0 (own_al (own_d M 21)) (own_dI (own_d M 21))) [(.ref b2)])) (fun t_ k_ => XS.goto X.here hx rfl (pc0 := 64) (pc' := 68) rfl (hb hby ep7m2_d64) (by decide) (by decide) (XS.istore X.here hx rfl (hb hby ep7m2_d68) rfl (l' := (own_A15 s1 b2 0 (own_al (own_d M 21)) (own_dI (own_d M 21)))) rfl (XS.iload X.here hx rfl (hb hby ep7m2_d70) rfl (XS.ifYes X.here hx rfl (pc0 := 72) (pc' := 92) rfl (hb hby ep7m2_d72) rfl ((if0 _ _).trans (flt ha2).2.1) (by decide) (by decide) (XS.aloadN X.here hx rfl (hb hby ep7m2_d92) rfl rfl k_))))) ?_
  obtain ⟨T, X, eT, st⟩ := getS2 X hx hZ hown (host := "") (Or.inl (hw _ (own_w 44 rfl))) Via.refl eT (S_B.ext O.2) (g := (mkF m 93 (own_A15 s1 b2 0 (own_al (own_d M 21)) (own_dI (own_d M 21))) [(.ref b2)])) rfl (hb hby ep7m2_d93)
  refine own_via (g' := (mkF m 96 (own_A15 s1 b2 0 (own_al (own_d M 21)) (own_dI (own_d M 21))) [(.int 62), (.ref b2)])) st ?_
  refine own_via (g' := (mkF m 98 (own_A15 s1 b2 0 (own_al (own_d M 21)) (own_dI (own_d M 21))) [(.int (own_dI (own_d M 21))), (.int 62), (.ref b2)])) (fun t_ k_ => XS.iload X.here hx rfl (hb hby ep7m2_d96) rfl k_) ?_
  obtain ⟨_, _, ⟨T, Lq, kq, nq⟩, -, X, ⟨Lc, hQ, lq, yq, zq⟩, st⟩ := Jvm.LawKit.callS X hx (y := own_y11) hown (mvT hZ (hw _ (own_w 127 rfl))) (mvT hZ (hw _ (own_w 128 rfl))) (mvT hZ (hw _ (own_w 5 rfl))) (mvT hZ (hw _ (own_w 129 rfl))) (by decide) (backOf (W := 0) (own_mulAdd l Z a0 hw [] b2 kb2 (0 : Int64) (0 : Int64) (0 : Int64) (0 : Int64) (own_dI (own_d M 21)) (M / 62 ^ 22) h3 n0 O E_b2 V_b2 g_b2 hL0 (by rw [own_dIv (own_dB M 21)]; exact (own_dB M 21)) (own_mulB hM1 hM2 21)) hZ (hw _ (own_w 129 rfl)) (hw _ (own_w 5 rfl)) (by decide) (by decide)) (g := (mkF m 98 (own_A15 s1 b2 0 (own_al (own_d M 21)) (own_dI (own_d M 21))) [(.int (own_dI (own_d M 21))), (.int 62), (.ref b2)])) rfl (by rw [hml]; rfl) (argsL := [(.ref b2), (.int 62), (.int (own_dI (own_d M 21)))]) (rest := []) (lenOf own_pd11 rfl) rfl (by show 2 * 0 + _ ≤ _; exact Nat.le_of_eq rfl) (hb hby ep7m2_d98) (fun _ _ => ⟨rfl, eT, (by decide : 3 + 0 ≤ _), (by decide : 24 + 0 ≤ _)⟩)
  dsimp only [Pt.U, Pt.locs, Pt.cells, Pt.slots] at X lq yq zq st hQ
  rw [lq, yq, zq] at X
  obtain ⟨y1_0, y1_1, y1_2, y1_3, rfl, Nq, Kq, V_b2, hL1⟩ := hQ
  replace N := Fr.app N Nq
  obtain ⟨h4, eT⟩ : ∃ z, T.heap = z := ⟨_, rfl⟩
  rw [eT] at Kq V_b2
  have So : ∀ x ∈ [b2], Safe Z own_EL _ h3 x := (allS S_b2 all0)
  replace E_s1 := E_s1.keep Kq
  replace F_value_s1 := F_value_s1.keep Kq (ninS ne_s1_b2 nin0)
  replace F_coder_s1 := F_coder_s1.keep Kq (ninS ne_s1_b2 nin0)
  replace V_va := V_va.keep Kq (ninS ne_va_b2 nin0)
  replace E_b2 := E_b2.keep Kq
  replace O := O.keep Kq (allS g_b2 all0)
  replace K0 := K0.trans Kq (allS (Or.inr sz_b2) all0)
  replace hk := Nat.le_trans hk Kq.1
  replace S_b2 := Safe.keep Kq So H.1 S_b2
  replace H := H.trans (CHr.keep Kq So H.1)
  refine own_via (g' := (mkF m 101 (own_A15 s1 b2 0 (own_al (own_d M 21)) (own_dI (own_d M 21))) [(.long 0)])) st ?_
  rw [own_dIv (own_dB M 21), show M / 62 ^ 22 * 62 + own_d M 21 = M / 62 ^ 21 from own_hor M 21] at hL1
  refine own_via (g' := (mkF m 123 (own_A15 s1 b2 ((0 : Int32) + (1 : Int32)) (own_al (own_d M 21)) (own_dI (own_d M 21))) [])) (fun t_ k_ => XS.lconst X.here hx rfl (hb hby ep7m2_d101) (XS.lcmp X.here hx rfl (hb hby ep7m2_d102) rfl (XS.ifYes X.here hx rfl (pc0 := 103) (pc' := 120) rfl (hb hby ep7m2_d103) rfl ((if0 _ _).trans (teq (own_cmpEq _)).1) (by decide) (by decide) (XS.iinc X.here hx rfl (hb hby ep7m2_d120) rfl (l' := (own_A15 s1 b2 ((0 : Int32) + (1 : Int32)) (own_al (own_d M 21)) (own_dI (own_d M 21)))) rfl k_)))) ?_
  rw [(by decide : ((0 : Int32) + (1 : Int32)) = (1 : Int32))]
  refine own_via (g' := (mkF m 47 (own_A15 s1 b2 1 (own_al (own_d M 21)) (own_dI (own_d M 21))) [(.int 1), (.ref s1)])) (fun t_ k_ => XS.goto X.here hx rfl (pc0 := 123) (pc' := 39) rfl (hb hby ep7m2_d123) (by decide) (by decide) (XS.iloadN X.here hx rfl (hb hby ep7m2_d39) rfl (XS.bipush X.here hx rfl (hb hby ep7m2_d40) (XS.icmpNo X.here hx rfl (hb hby ep7m2_d42) rfl (tlt (by decide : (1 : Int32) < (22 : Int32))).2.1 (XS.aloadN X.here hx rfl (hb hby ep7m2_d45) rfl rfl (XS.iloadN X.here hx rfl (hb hby ep7m2_d46) rfl k_)))))) ?_
  obtain ⟨cq, kq, qa, qb, qc⟩ := isOf hZ eT E_s1
  obtain ⟨_, _, ⟨T, Lq, kq, nq⟩, -, X, ⟨Lc, hQ, lq, yq, zq⟩, st⟩ := X.virtualBack hx (y := own_y7) (z := own_y7) hown (mvT hZ (hw _ (own_w 46 rfl))) (mvT hZ (hw _ (own_w 47 rfl))) (notFace_of_selects (args := #[]) (mvT hZ (hw _ (own_w 49 rfl)))) (mvT hZ (hw _ (own_w 49 rfl))) (mvT hZ (hw _ (own_w 48 rfl))) (by decide) (backOf (W := 0) (own_charAt l Z a0 hw [] s1 (1 : Int32) va kv (22 : Int32) (own_BV M) (own_al (own_d M 20)) zc vS h4 n0 O E_s1 F_value_s1 F_coder_s1 V_va S_C hzc ⟨by decide, by decide⟩ rfl S_S hvS) hZ (hw _ (own_w 50 rfl)) (hw _ (own_w 38 rfl)) (by decide) (by decide)) qa qc (g := (mkF m 47 (own_A15 s1 b2 1 (own_al (own_d M 21)) (own_dI (own_d M 21))) [(.int 1), (.ref s1)])) rfl (by rw [hml]; rfl) (Steps.refl _) (argsL := [(.int 1)]) (rest := []) (lenOf own_pd7 rfl) rfl (by show 2 * 0 + _ ≤ _; exact Nat.le_of_eq rfl) (hb hby ep7m2_d47) (fun _ _ => ⟨rfl, eT, (by decide : 3 + 0 ≤ _), (by decide : 24 + 0 ≤ _)⟩)
  dsimp only [Pt.U, Pt.locs, Pt.cells, Pt.slots] at X lq yq zq st hQ
  rw [lq, yq, zq] at X
  obtain ⟨rfl, Nq, eT⟩ := hQ
  replace N := Fr.app N Nq
  refine own_viaT (g' := (mkF m 50 (own_A15 s1 b2 1 (own_al (own_d M 21)) (own_dI (own_d M 21))) [(.int ((own_al (own_d M 20)) &&& (255 : Int32)))])) st ?_
  rw [own_al255 (own_dB M 20)]
  have ha1 := own_al128 (own_dB M 20)
  have ha2 := own_dI0 (own_dB M 20)
  refine own_via (g' := (mkF m 52 (own_A15 s1 b2 1 (own_al (own_d M 20)) (own_dI (own_d M 21))) [(.int (own_al (own_d M 20)))])) (fun t_ k_ => XS.istoreN X.here hx rfl (hb hby ep7m2_d50) rfl (l' := (own_A15 s1 b2 1 (own_al (own_d M 20)) (own_dI (own_d M 21)))) rfl (XS.iloadN X.here hx rfl (hb hby ep7m2_d51) rfl k_)) ?_
  obtain ⟨T, X, eT, st⟩ := getS2 X hx hZ hown (host := "") (Or.inl (hw _ (own_w 125 rfl))) Via.refl eT (S_D.ext O.2) (g := (mkF m 52 (own_A15 s1 b2 1 (own_al (own_d M 20)) (own_dI (own_d M 21))) [(.int (own_al (own_d M 20)))])) rfl (hb hby ep7m2_d52)
  refine own_via (g' := (mkF m 55 (own_A15 s1 b2 1 (own_al (own_d M 20)) (own_dI (own_d M 21))) [(.ref wDG), (.int (own_al (own_d M 20)))])) st ?_
  have V_wDG := A_dg.ext O.2
  obtain ⟨cl_, Ar_, -, Sz_, Nn_, -, -⟩ := id V_wDG
  refine own_via (g' := (mkF m 56 (own_A15 s1 b2 1 (own_al (own_d M 20)) (own_dI (own_d M 21))) [(.int 128), (.int (own_al (own_d M 20)))])) (fun t_ k_ => X.arraylength hx (by rw [eT]; exact Ar_.1) (State.isArrayOf_alike hZ.alike Ar_.2.1) (g := (mkF m 55 (own_A15 s1 b2 1 (own_al (own_d M 20)) (own_dI (own_d M 21))) [(.ref wDG), (.int (own_al (own_d M 20)))])) rfl rfl (hb hby ep7m2_d55) _ (by rw [len_of Sz_ Nn_]; exact k_)) ?_
  refine own_via (g' := (mkF m 59 (own_A15 s1 b2 1 (own_al (own_d M 20)) (own_dI (own_d M 21))) [])) (fun t_ k_ => XS.icmpNo X.here hx rfl (hb hby ep7m2_d56) rfl (tlt ha1.2).2.1 k_) ?_
  obtain ⟨T, X, eT, st⟩ := getS2 X hx hZ hown (host := "") (Or.inl (hw _ (own_w 125 rfl))) Via.refl eT (S_D.ext O.2) (g := (mkF m 59 (own_A15 s1 b2 1 (own_al (own_d M 20)) (own_dI (own_d M 21))) [])) rfl (hb hby ep7m2_d59)
  refine own_via (g' := (mkF m 62 (own_A15 s1 b2 1 (own_al (own_d M 20)) (own_dI (own_d M 21))) [(.ref wDG)])) st ?_
  refine own_via (g' := (mkF m 63 (own_A15 s1 b2 1 (own_al (own_d M 20)) (own_dI (own_d M 21))) [(.int (own_al (own_d M 20))), (.ref wDG)])) (fun t_ k_ => XS.iloadN X.here hx rfl (hb hby ep7m2_d62) rfl k_) ?_
  have V_wDG := A_dg.ext O.2
  obtain ⟨cl_, Ar_, -, Sz_, Nn_, Hs_, -⟩ := id V_wDG
  have hin_ : ¬ ((own_al (own_d M 20)) < 0 ∨ cl_.slots.size ≤ ((own_al (own_d M 20))).toNatClampNeg) := inb_of Sz_ ha1
  have hat_ : cl_.slots[((own_al (own_d M 20))).toNatClampNeg]? = some (.int (own_dI (own_d M 20))) := Hs_.at hin_ (hdgs _ (own_dB M 20))
  refine own_via (g' := (mkF m 64 (own_A15 s1 b2 1 (own_al (own_d M 20)) (own_dI (own_d M 21))) [(.int (own_dI (own_d M 20)))])) (fun t_ k_ => X.iaload hx (j := (own_al (own_d M 20))) (v := (.int (own_dI (own_d M 20)))) (by rw [eT]; exact Ar_.1) (State.isArrayOf_alike hZ.alike Ar_.2.1) Ar_.2.2 hin_ hat_ (g := (mkF m 63 (own_A15 s1 b2 1 (own_al (own_d M 20)) (own_dI (own_d M 21))) [(.int (own_al (own_d M 20))), (.ref wDG)])) rfl rfl (hb hby ep7m2_d63) _ k_) ?_
  refine own_via (g' := (mkF m 93 (own_A15 s1 b2 1 (own_al (own_d M 20)) (own_dI (own_d M 20))) [(.ref b2)])) (fun t_ k_ => XS.goto X.here hx rfl (pc0 := 64) (pc' := 68) rfl (hb hby ep7m2_d64) (by decide) (by decide) (XS.istore X.here hx rfl (hb hby ep7m2_d68) rfl (l' := (own_A15 s1 b2 1 (own_al (own_d M 20)) (own_dI (own_d M 20)))) rfl (XS.iload X.here hx rfl (hb hby ep7m2_d70) rfl (XS.ifYes X.here hx rfl (pc0 := 72) (pc' := 92) rfl (hb hby ep7m2_d72) rfl ((if0 _ _).trans (flt ha2).2.1) (by decide) (by decide) (XS.aloadN X.here hx rfl (hb hby ep7m2_d92) rfl rfl k_))))) ?_
  obtain ⟨T, X, eT, st⟩ := getS2 X hx hZ hown (host := "") (Or.inl (hw _ (own_w 44 rfl))) Via.refl eT (S_B.ext O.2) (g := (mkF m 93 (own_A15 s1 b2 1 (own_al (own_d M 20)) (own_dI (own_d M 20))) [(.ref b2)])) rfl (hb hby ep7m2_d93)
  refine own_via (g' := (mkF m 96 (own_A15 s1 b2 1 (own_al (own_d M 20)) (own_dI (own_d M 20))) [(.int 62), (.ref b2)])) st ?_
  refine own_via (g' := (mkF m 98 (own_A15 s1 b2 1 (own_al (own_d M 20)) (own_dI (own_d M 20))) [(.int (own_dI (own_d M 20))), (.int 62), (.ref b2)])) (fun t_ k_ => XS.iload X.here hx rfl (hb hby ep7m2_d96) rfl k_) ?_
  obtain ⟨_, _, ⟨T, Lq, kq, nq⟩, -, X, ⟨Lc, hQ, lq, yq, zq⟩, st⟩ := Jvm.LawKit.callS X hx (y := own_y11) hown (mvT hZ (hw _ (own_w 127 rfl))) (mvT hZ (hw _ (own_w 128 rfl))) (mvT hZ (hw _ (own_w 5 rfl))) (mvT hZ (hw _ (own_w 129 rfl))) (by decide) (backOf (W := 0) (own_mulAdd l Z a0 hw [] b2 kb2 y1_0 y1_1 y1_2 y1_3 (own_dI (own_d M 20)) (M / 62 ^ 21) h4 n0 O E_b2 V_b2 g_b2 hL1 (by rw [own_dIv (own_dB M 20)]; exact (own_dB M 20)) (own_mulB hM1 hM2 20)) hZ (hw _ (own_w 129 rfl)) (hw _ (own_w 5 rfl)) (by decide) (by decide)) (g := (mkF m 98 (own_A15 s1 b2 1 (own_al (own_d M 20)) (own_dI (own_d M 20))) [(.int (own_dI (own_d M 20))), (.int 62), (.ref b2)])) rfl (by rw [hml]; rfl) (argsL := [(.ref b2), (.int 62), (.int (own_dI (own_d M 20)))]) (rest := []) (lenOf own_pd11 rfl) rfl (by show 2 * 0 + _ ≤ _; exact Nat.le_of_eq rfl) (hb hby ep7m2_d98) (fun _ _ => ⟨rfl, eT, (by decide : 3 + 0 ≤ _), (by decide : 24 + 0 ≤ _)⟩)
  dsimp only [Pt.U, Pt.locs, Pt.cells, Pt.slots] at X lq yq zq st hQ
  rw [lq, yq, zq] at X
  obtain ⟨y2_0, y2_1, y2_2, y2_3, rfl, Nq, Kq, V_b2, hL2⟩ := hQ
  replace N := Fr.app N Nq
  obtain ⟨h5, eT⟩ : ∃ z, T.heap = z := ⟨_, rfl⟩
  rw [eT] at Kq V_b2
  have So : ∀ x ∈ [b2], Safe Z own_EL _ h4 x := (allS S_b2 all0)
  replace E_s1 := E_s1.keep Kq
  replace F_value_s1 := F_value_s1.keep Kq (ninS ne_s1_b2 nin0)
  replace F_coder_s1 := F_coder_s1.keep Kq (ninS ne_s1_b2 nin0)
  replace V_va := V_va.keep Kq (ninS ne_va_b2 nin0)
  replace E_b2 := E_b2.keep Kq
  replace O := O.keep Kq (allS g_b2 all0)
  replace K0 := K0.trans Kq (allS (Or.inr sz_b2) all0)
  replace hk := Nat.le_trans hk Kq.1
  replace S_b2 := Safe.keep Kq So H.1 S_b2
  replace H := H.trans (CHr.keep Kq So H.1)
  refine own_via (g' := (mkF m 101 (own_A15 s1 b2 1 (own_al (own_d M 20)) (own_dI (own_d M 20))) [(.long 0)])) st ?_
  rw [own_dIv (own_dB M 20), show M / 62 ^ 21 * 62 + own_d M 20 = M / 62 ^ 20 from own_hor M 20] at hL2
  refine own_via (g' := (mkF m 123 (own_A15 s1 b2 ((1 : Int32) + (1 : Int32)) (own_al (own_d M 20)) (own_dI (own_d M 20))) [])) (fun t_ k_ => XS.lconst X.here hx rfl (hb hby ep7m2_d101) (XS.lcmp X.here hx rfl (hb hby ep7m2_d102) rfl (XS.ifYes X.here hx rfl (pc0 := 103) (pc' := 120) rfl (hb hby ep7m2_d103) rfl ((if0 _ _).trans (teq (own_cmpEq _)).1) (by decide) (by decide) (XS.iinc X.here hx rfl (hb hby ep7m2_d120) rfl (l' := (own_A15 s1 b2 ((1 : Int32) + (1 : Int32)) (own_al (own_d M 20)) (own_dI (own_d M 20)))) rfl k_)))) ?_
  rw [(by decide : ((1 : Int32) + (1 : Int32)) = (2 : Int32))]
  refine own_via (g' := (mkF m 47 (own_A15 s1 b2 2 (own_al (own_d M 20)) (own_dI (own_d M 20))) [(.int 2), (.ref s1)])) (fun t_ k_ => XS.goto X.here hx rfl (pc0 := 123) (pc' := 39) rfl (hb hby ep7m2_d123) (by decide) (by decide) (XS.iloadN X.here hx rfl (hb hby ep7m2_d39) rfl (XS.bipush X.here hx rfl (hb hby ep7m2_d40) (XS.icmpNo X.here hx rfl (hb hby ep7m2_d42) rfl (tlt (by decide : (2 : Int32) < (22 : Int32))).2.1 (XS.aloadN X.here hx rfl (hb hby ep7m2_d45) rfl rfl (XS.iloadN X.here hx rfl (hb hby ep7m2_d46) rfl k_)))))) ?_
  obtain ⟨cq, kq, qa, qb, qc⟩ := isOf hZ eT E_s1
  obtain ⟨_, _, ⟨T, Lq, kq, nq⟩, -, X, ⟨Lc, hQ, lq, yq, zq⟩, st⟩ := X.virtualBack hx (y := own_y7) (z := own_y7) hown (mvT hZ (hw _ (own_w 46 rfl))) (mvT hZ (hw _ (own_w 47 rfl))) (notFace_of_selects (args := #[]) (mvT hZ (hw _ (own_w 49 rfl)))) (mvT hZ (hw _ (own_w 49 rfl))) (mvT hZ (hw _ (own_w 48 rfl))) (by decide) (backOf (W := 0) (own_charAt l Z a0 hw [] s1 (2 : Int32) va kv (22 : Int32) (own_BV M) (own_al (own_d M 19)) zc vS h5 n0 O E_s1 F_value_s1 F_coder_s1 V_va S_C hzc ⟨by decide, by decide⟩ rfl S_S hvS) hZ (hw _ (own_w 50 rfl)) (hw _ (own_w 38 rfl)) (by decide) (by decide)) qa qc (g := (mkF m 47 (own_A15 s1 b2 2 (own_al (own_d M 20)) (own_dI (own_d M 20))) [(.int 2), (.ref s1)])) rfl (by rw [hml]; rfl) (Steps.refl _) (argsL := [(.int 2)]) (rest := []) (lenOf own_pd7 rfl) rfl (by show 2 * 0 + _ ≤ _; exact Nat.le_of_eq rfl) (hb hby ep7m2_d47) (fun _ _ => ⟨rfl, eT, (by decide : 3 + 0 ≤ _), (by decide : 24 + 0 ≤ _)⟩)
  dsimp only [Pt.U, Pt.locs, Pt.cells, Pt.slots] at X lq yq zq st hQ
  rw [lq, yq, zq] at X
  obtain ⟨rfl, Nq, eT⟩ := hQ
  replace N := Fr.app N Nq
  refine own_viaT (g' := (mkF m 50 (own_A15 s1 b2 2 (own_al (own_d M 20)) (own_dI (own_d M 20))) [(.int ((own_al (own_d M 19)) &&& (255 : Int32)))])) st ?_
  rw [own_al255 (own_dB M 19)]
  have ha1 := own_al128 (own_dB M 19)
  have ha2 := own_dI0 (own_dB M 19)
  refine own_via (g' := (mkF m 52 (own_A15 s1 b2 2 (own_al (own_d M 19)) (own_dI (own_d M 20))) [(.int (own_al (own_d M 19)))])) (fun t_ k_ => XS.istoreN X.here hx rfl (hb hby ep7m2_d50) rfl (l' := (own_A15 s1 b2 2 (own_al (own_d M 19)) (own_dI (own_d M 20)))) rfl (XS.iloadN X.here hx rfl (hb hby ep7m2_d51) rfl k_)) ?_
  obtain ⟨T, X, eT, st⟩ := getS2 X hx hZ hown (host := "") (Or.inl (hw _ (own_w 125 rfl))) Via.refl eT (S_D.ext O.2) (g := (mkF m 52 (own_A15 s1 b2 2 (own_al (own_d M 19)) (own_dI (own_d M 20))) [(.int (own_al (own_d M 19)))])) rfl (hb hby ep7m2_d52)
  refine own_via (g' := (mkF m 55 (own_A15 s1 b2 2 (own_al (own_d M 19)) (own_dI (own_d M 20))) [(.ref wDG), (.int (own_al (own_d M 19)))])) st ?_
  have V_wDG := A_dg.ext O.2
  obtain ⟨cl_, Ar_, -, Sz_, Nn_, -, -⟩ := id V_wDG
  refine own_via (g' := (mkF m 56 (own_A15 s1 b2 2 (own_al (own_d M 19)) (own_dI (own_d M 20))) [(.int 128), (.int (own_al (own_d M 19)))])) (fun t_ k_ => X.arraylength hx (by rw [eT]; exact Ar_.1) (State.isArrayOf_alike hZ.alike Ar_.2.1) (g := (mkF m 55 (own_A15 s1 b2 2 (own_al (own_d M 19)) (own_dI (own_d M 20))) [(.ref wDG), (.int (own_al (own_d M 19)))])) rfl rfl (hb hby ep7m2_d55) _ (by rw [len_of Sz_ Nn_]; exact k_)) ?_
  refine own_via (g' := (mkF m 59 (own_A15 s1 b2 2 (own_al (own_d M 19)) (own_dI (own_d M 20))) [])) (fun t_ k_ => XS.icmpNo X.here hx rfl (hb hby ep7m2_d56) rfl (tlt ha1.2).2.1 k_) ?_
  obtain ⟨T, X, eT, st⟩ := getS2 X hx hZ hown (host := "") (Or.inl (hw _ (own_w 125 rfl))) Via.refl eT (S_D.ext O.2) (g := (mkF m 59 (own_A15 s1 b2 2 (own_al (own_d M 19)) (own_dI (own_d M 20))) [])) rfl (hb hby ep7m2_d59)
  refine own_via (g' := (mkF m 62 (own_A15 s1 b2 2 (own_al (own_d M 19)) (own_dI (own_d M 20))) [(.ref wDG)])) st ?_
  refine own_via (g' := (mkF m 63 (own_A15 s1 b2 2 (own_al (own_d M 19)) (own_dI (own_d M 20))) [(.int (own_al (own_d M 19))), (.ref wDG)])) (fun t_ k_ => XS.iloadN X.here hx rfl (hb hby ep7m2_d62) rfl k_) ?_
  have V_wDG := A_dg.ext O.2
  obtain ⟨cl_, Ar_, -, Sz_, Nn_, Hs_, -⟩ := id V_wDG
  have hin_ : ¬ ((own_al (own_d M 19)) < 0 ∨ cl_.slots.size ≤ ((own_al (own_d M 19))).toNatClampNeg) := inb_of Sz_ ha1
  have hat_ : cl_.slots[((own_al (own_d M 19))).toNatClampNeg]? = some (.int (own_dI (own_d M 19))) := Hs_.at hin_ (hdgs _ (own_dB M 19))
  refine own_via (g' := (mkF m 64 (own_A15 s1 b2 2 (own_al (own_d M 19)) (own_dI (own_d M 20))) [(.int (own_dI (own_d M 19)))])) (fun t_ k_ => X.iaload hx (j := (own_al (own_d M 19))) (v := (.int (own_dI (own_d M 19)))) (by rw [eT]; exact Ar_.1) (State.isArrayOf_alike hZ.alike Ar_.2.1) Ar_.2.2 hin_ hat_ (g := (mkF m 63 (own_A15 s1 b2 2 (own_al (own_d M 19)) (own_dI (own_d M 20))) [(.int (own_al (own_d M 19))), (.ref wDG)])) rfl rfl (hb hby ep7m2_d63) _ k_) ?_
  refine own_via (g' := (mkF m 93 (own_A15 s1 b2 2 (own_al (own_d M 19)) (own_dI (own_d M 19))) [(.ref b2)])) (fun t_ k_ => XS.goto X.here hx rfl (pc0 := 64) (pc' := 68) rfl (hb hby ep7m2_d64) (by decide) (by decide) (XS.istore X.here hx rfl (hb hby ep7m2_d68) rfl (l' := (own_A15 s1 b2 2 (own_al (own_d M 19)) (own_dI (own_d M 19)))) rfl (XS.iload X.here hx rfl (hb hby ep7m2_d70) rfl (XS.ifYes X.here hx rfl (pc0 := 72) (pc' := 92) rfl (hb hby ep7m2_d72) rfl ((if0 _ _).trans (flt ha2).2.1) (by decide) (by decide) (XS.aloadN X.here hx rfl (hb hby ep7m2_d92) rfl rfl k_))))) ?_
  obtain ⟨T, X, eT, st⟩ := getS2 X hx hZ hown (host := "") (Or.inl (hw _ (own_w 44 rfl))) Via.refl eT (S_B.ext O.2) (g := (mkF m 93 (own_A15 s1 b2 2 (own_al (own_d M 19)) (own_dI (own_d M 19))) [(.ref b2)])) rfl (hb hby ep7m2_d93)
  refine own_via (g' := (mkF m 96 (own_A15 s1 b2 2 (own_al (own_d M 19)) (own_dI (own_d M 19))) [(.int 62), (.ref b2)])) st ?_
  refine own_via (g' := (mkF m 98 (own_A15 s1 b2 2 (own_al (own_d M 19)) (own_dI (own_d M 19))) [(.int (own_dI (own_d M 19))), (.int 62), (.ref b2)])) (fun t_ k_ => XS.iload X.here hx rfl (hb hby ep7m2_d96) rfl k_) ?_
  obtain ⟨_, _, ⟨T, Lq, kq, nq⟩, -, X, ⟨Lc, hQ, lq, yq, zq⟩, st⟩ := Jvm.LawKit.callS X hx (y := own_y11) hown (mvT hZ (hw _ (own_w 127 rfl))) (mvT hZ (hw _ (own_w 128 rfl))) (mvT hZ (hw _ (own_w 5 rfl))) (mvT hZ (hw _ (own_w 129 rfl))) (by decide) (backOf (W := 0) (own_mulAdd l Z a0 hw [] b2 kb2 y2_0 y2_1 y2_2 y2_3 (own_dI (own_d M 19)) (M / 62 ^ 20) h5 n0 O E_b2 V_b2 g_b2 hL2 (by rw [own_dIv (own_dB M 19)]; exact (own_dB M 19)) (own_mulB hM1 hM2 19)) hZ (hw _ (own_w 129 rfl)) (hw _ (own_w 5 rfl)) (by decide) (by decide)) (g := (mkF m 98 (own_A15 s1 b2 2 (own_al (own_d M 19)) (own_dI (own_d M 19))) [(.int (own_dI (own_d M 19))), (.int 62), (.ref b2)])) rfl (by rw [hml]; rfl) (argsL := [(.ref b2), (.int 62), (.int (own_dI (own_d M 19)))]) (rest := []) (lenOf own_pd11 rfl) rfl (by show 2 * 0 + _ ≤ _; exact Nat.le_of_eq rfl) (hb hby ep7m2_d98) (fun _ _ => ⟨rfl, eT, (by decide : 3 + 0 ≤ _), (by decide : 24 + 0 ≤ _)⟩)
  dsimp only [Pt.U, Pt.locs, Pt.cells, Pt.slots] at X lq yq zq st hQ
  rw [lq, yq, zq] at X
  obtain ⟨y3_0, y3_1, y3_2, y3_3, rfl, Nq, Kq, V_b2, hL3⟩ := hQ
  replace N := Fr.app N Nq
  obtain ⟨h6, eT⟩ : ∃ z, T.heap = z := ⟨_, rfl⟩
  rw [eT] at Kq V_b2
  have So : ∀ x ∈ [b2], Safe Z own_EL _ h5 x := (allS S_b2 all0)
  replace E_s1 := E_s1.keep Kq
  replace F_value_s1 := F_value_s1.keep Kq (ninS ne_s1_b2 nin0)
  replace F_coder_s1 := F_coder_s1.keep Kq (ninS ne_s1_b2 nin0)
  replace V_va := V_va.keep Kq (ninS ne_va_b2 nin0)
  replace E_b2 := E_b2.keep Kq
  replace O := O.keep Kq (allS g_b2 all0)
  replace K0 := K0.trans Kq (allS (Or.inr sz_b2) all0)
  replace hk := Nat.le_trans hk Kq.1
  replace S_b2 := Safe.keep Kq So H.1 S_b2
  replace H := H.trans (CHr.keep Kq So H.1)
  refine own_via (g' := (mkF m 101 (own_A15 s1 b2 2 (own_al (own_d M 19)) (own_dI (own_d M 19))) [(.long 0)])) st ?_
  rw [own_dIv (own_dB M 19), show M / 62 ^ 20 * 62 + own_d M 19 = M / 62 ^ 19 from own_hor M 19] at hL3
  refine own_via (g' := (mkF m 123 (own_A15 s1 b2 ((2 : Int32) + (1 : Int32)) (own_al (own_d M 19)) (own_dI (own_d M 19))) [])) (fun t_ k_ => XS.lconst X.here hx rfl (hb hby ep7m2_d101) (XS.lcmp X.here hx rfl (hb hby ep7m2_d102) rfl (XS.ifYes X.here hx rfl (pc0 := 103) (pc' := 120) rfl (hb hby ep7m2_d103) rfl ((if0 _ _).trans (teq (own_cmpEq _)).1) (by decide) (by decide) (XS.iinc X.here hx rfl (hb hby ep7m2_d120) rfl (l' := (own_A15 s1 b2 ((2 : Int32) + (1 : Int32)) (own_al (own_d M 19)) (own_dI (own_d M 19)))) rfl k_)))) ?_
  rw [(by decide : ((2 : Int32) + (1 : Int32)) = (3 : Int32))]
  refine own_via (g' := (mkF m 47 (own_A15 s1 b2 3 (own_al (own_d M 19)) (own_dI (own_d M 19))) [(.int 3), (.ref s1)])) (fun t_ k_ => XS.goto X.here hx rfl (pc0 := 123) (pc' := 39) rfl (hb hby ep7m2_d123) (by decide) (by decide) (XS.iloadN X.here hx rfl (hb hby ep7m2_d39) rfl (XS.bipush X.here hx rfl (hb hby ep7m2_d40) (XS.icmpNo X.here hx rfl (hb hby ep7m2_d42) rfl (tlt (by decide : (3 : Int32) < (22 : Int32))).2.1 (XS.aloadN X.here hx rfl (hb hby ep7m2_d45) rfl rfl (XS.iloadN X.here hx rfl (hb hby ep7m2_d46) rfl k_)))))) ?_
  obtain ⟨cq, kq, qa, qb, qc⟩ := isOf hZ eT E_s1
  obtain ⟨_, _, ⟨T, Lq, kq, nq⟩, -, X, ⟨Lc, hQ, lq, yq, zq⟩, st⟩ := X.virtualBack hx (y := own_y7) (z := own_y7) hown (mvT hZ (hw _ (own_w 46 rfl))) (mvT hZ (hw _ (own_w 47 rfl))) (notFace_of_selects (args := #[]) (mvT hZ (hw _ (own_w 49 rfl)))) (mvT hZ (hw _ (own_w 49 rfl))) (mvT hZ (hw _ (own_w 48 rfl))) (by decide) (backOf (W := 0) (own_charAt l Z a0 hw [] s1 (3 : Int32) va kv (22 : Int32) (own_BV M) (own_al (own_d M 18)) zc vS h6 n0 O E_s1 F_value_s1 F_coder_s1 V_va S_C hzc ⟨by decide, by decide⟩ rfl S_S hvS) hZ (hw _ (own_w 50 rfl)) (hw _ (own_w 38 rfl)) (by decide) (by decide)) qa qc (g := (mkF m 47 (own_A15 s1 b2 3 (own_al (own_d M 19)) (own_dI (own_d M 19))) [(.int 3), (.ref s1)])) rfl (by rw [hml]; rfl) (Steps.refl _) (argsL := [(.int 3)]) (rest := []) (lenOf own_pd7 rfl) rfl (by show 2 * 0 + _ ≤ _; exact Nat.le_of_eq rfl) (hb hby ep7m2_d47) (fun _ _ => ⟨rfl, eT, (by decide : 3 + 0 ≤ _), (by decide : 24 + 0 ≤ _)⟩)
  dsimp only [Pt.U, Pt.locs, Pt.cells, Pt.slots] at X lq yq zq st hQ
  rw [lq, yq, zq] at X
  obtain ⟨rfl, Nq, eT⟩ := hQ
  replace N := Fr.app N Nq
  refine own_viaT (g' := (mkF m 50 (own_A15 s1 b2 3 (own_al (own_d M 19)) (own_dI (own_d M 19))) [(.int ((own_al (own_d M 18)) &&& (255 : Int32)))])) st ?_
  rw [own_al255 (own_dB M 18)]
  have ha1 := own_al128 (own_dB M 18)
  have ha2 := own_dI0 (own_dB M 18)
  refine own_via (g' := (mkF m 52 (own_A15 s1 b2 3 (own_al (own_d M 18)) (own_dI (own_d M 19))) [(.int (own_al (own_d M 18)))])) (fun t_ k_ => XS.istoreN X.here hx rfl (hb hby ep7m2_d50) rfl (l' := (own_A15 s1 b2 3 (own_al (own_d M 18)) (own_dI (own_d M 19)))) rfl (XS.iloadN X.here hx rfl (hb hby ep7m2_d51) rfl k_)) ?_
  obtain ⟨T, X, eT, st⟩ := getS2 X hx hZ hown (host := "") (Or.inl (hw _ (own_w 125 rfl))) Via.refl eT (S_D.ext O.2) (g := (mkF m 52 (own_A15 s1 b2 3 (own_al (own_d M 18)) (own_dI (own_d M 19))) [(.int (own_al (own_d M 18)))])) rfl (hb hby ep7m2_d52)
  refine own_via (g' := (mkF m 55 (own_A15 s1 b2 3 (own_al (own_d M 18)) (own_dI (own_d M 19))) [(.ref wDG), (.int (own_al (own_d M 18)))])) st ?_
  have V_wDG := A_dg.ext O.2
  obtain ⟨cl_, Ar_, -, Sz_, Nn_, -, -⟩ := id V_wDG
  refine own_via (g' := (mkF m 56 (own_A15 s1 b2 3 (own_al (own_d M 18)) (own_dI (own_d M 19))) [(.int 128), (.int (own_al (own_d M 18)))])) (fun t_ k_ => X.arraylength hx (by rw [eT]; exact Ar_.1) (State.isArrayOf_alike hZ.alike Ar_.2.1) (g := (mkF m 55 (own_A15 s1 b2 3 (own_al (own_d M 18)) (own_dI (own_d M 19))) [(.ref wDG), (.int (own_al (own_d M 18)))])) rfl rfl (hb hby ep7m2_d55) _ (by rw [len_of Sz_ Nn_]; exact k_)) ?_
  refine own_via (g' := (mkF m 59 (own_A15 s1 b2 3 (own_al (own_d M 18)) (own_dI (own_d M 19))) [])) (fun t_ k_ => XS.icmpNo X.here hx rfl (hb hby ep7m2_d56) rfl (tlt ha1.2).2.1 k_) ?_
  obtain ⟨T, X, eT, st⟩ := getS2 X hx hZ hown (host := "") (Or.inl (hw _ (own_w 125 rfl))) Via.refl eT (S_D.ext O.2) (g := (mkF m 59 (own_A15 s1 b2 3 (own_al (own_d M 18)) (own_dI (own_d M 19))) [])) rfl (hb hby ep7m2_d59)
  refine own_via (g' := (mkF m 62 (own_A15 s1 b2 3 (own_al (own_d M 18)) (own_dI (own_d M 19))) [(.ref wDG)])) st ?_
  refine own_via (g' := (mkF m 63 (own_A15 s1 b2 3 (own_al (own_d M 18)) (own_dI (own_d M 19))) [(.int (own_al (own_d M 18))), (.ref wDG)])) (fun t_ k_ => XS.iloadN X.here hx rfl (hb hby ep7m2_d62) rfl k_) ?_
  have V_wDG := A_dg.ext O.2
  obtain ⟨cl_, Ar_, -, Sz_, Nn_, Hs_, -⟩ := id V_wDG
  have hin_ : ¬ ((own_al (own_d M 18)) < 0 ∨ cl_.slots.size ≤ ((own_al (own_d M 18))).toNatClampNeg) := inb_of Sz_ ha1
  have hat_ : cl_.slots[((own_al (own_d M 18))).toNatClampNeg]? = some (.int (own_dI (own_d M 18))) := Hs_.at hin_ (hdgs _ (own_dB M 18))
  refine own_via (g' := (mkF m 64 (own_A15 s1 b2 3 (own_al (own_d M 18)) (own_dI (own_d M 19))) [(.int (own_dI (own_d M 18)))])) (fun t_ k_ => X.iaload hx (j := (own_al (own_d M 18))) (v := (.int (own_dI (own_d M 18)))) (by rw [eT]; exact Ar_.1) (State.isArrayOf_alike hZ.alike Ar_.2.1) Ar_.2.2 hin_ hat_ (g := (mkF m 63 (own_A15 s1 b2 3 (own_al (own_d M 18)) (own_dI (own_d M 19))) [(.int (own_al (own_d M 18))), (.ref wDG)])) rfl rfl (hb hby ep7m2_d63) _ k_) ?_
  refine own_via (g' := (mkF m 93 (own_A15 s1 b2 3 (own_al (own_d M 18)) (own_dI (own_d M 18))) [(.ref b2)])) (fun t_ k_ => XS.goto X.here hx rfl (pc0 := 64) (pc' := 68) rfl (hb hby ep7m2_d64) (by decide) (by decide) (XS.istore X.here hx rfl (hb hby ep7m2_d68) rfl (l' := (own_A15 s1 b2 3 (own_al (own_d M 18)) (own_dI (own_d M 18)))) rfl (XS.iload X.here hx rfl (hb hby ep7m2_d70) rfl (XS.ifYes X.here hx rfl (pc0 := 72) (pc' := 92) rfl (hb hby ep7m2_d72) rfl ((if0 _ _).trans (flt ha2).2.1) (by decide) (by decide) (XS.aloadN X.here hx rfl (hb hby ep7m2_d92) rfl rfl k_))))) ?_
  obtain ⟨T, X, eT, st⟩ := getS2 X hx hZ hown (host := "") (Or.inl (hw _ (own_w 44 rfl))) Via.refl eT (S_B.ext O.2) (g := (mkF m 93 (own_A15 s1 b2 3 (own_al (own_d M 18)) (own_dI (own_d M 18))) [(.ref b2)])) rfl (hb hby ep7m2_d93)
  refine own_via (g' := (mkF m 96 (own_A15 s1 b2 3 (own_al (own_d M 18)) (own_dI (own_d M 18))) [(.int 62), (.ref b2)])) st ?_
  refine own_via (g' := (mkF m 98 (own_A15 s1 b2 3 (own_al (own_d M 18)) (own_dI (own_d M 18))) [(.int (own_dI (own_d M 18))), (.int 62), (.ref b2)])) (fun t_ k_ => XS.iload X.here hx rfl (hb hby ep7m2_d96) rfl k_) ?_
  obtain ⟨_, _, ⟨T, Lq, kq, nq⟩, -, X, ⟨Lc, hQ, lq, yq, zq⟩, st⟩ := Jvm.LawKit.callS X hx (y := own_y11) hown (mvT hZ (hw _ (own_w 127 rfl))) (mvT hZ (hw _ (own_w 128 rfl))) (mvT hZ (hw _ (own_w 5 rfl))) (mvT hZ (hw _ (own_w 129 rfl))) (by decide) (backOf (W := 0) (own_mulAdd l Z a0 hw [] b2 kb2 y3_0 y3_1 y3_2 y3_3 (own_dI (own_d M 18)) (M / 62 ^ 19) h6 n0 O E_b2 V_b2 g_b2 hL3 (by rw [own_dIv (own_dB M 18)]; exact (own_dB M 18)) (own_mulB hM1 hM2 18)) hZ (hw _ (own_w 129 rfl)) (hw _ (own_w 5 rfl)) (by decide) (by decide)) (g := (mkF m 98 (own_A15 s1 b2 3 (own_al (own_d M 18)) (own_dI (own_d M 18))) [(.int (own_dI (own_d M 18))), (.int 62), (.ref b2)])) rfl (by rw [hml]; rfl) (argsL := [(.ref b2), (.int 62), (.int (own_dI (own_d M 18)))]) (rest := []) (lenOf own_pd11 rfl) rfl (by show 2 * 0 + _ ≤ _; exact Nat.le_of_eq rfl) (hb hby ep7m2_d98) (fun _ _ => ⟨rfl, eT, (by decide : 3 + 0 ≤ _), (by decide : 24 + 0 ≤ _)⟩)
  dsimp only [Pt.U, Pt.locs, Pt.cells, Pt.slots] at X lq yq zq st hQ
  rw [lq, yq, zq] at X
  obtain ⟨y4_0, y4_1, y4_2, y4_3, rfl, Nq, Kq, V_b2, hL4⟩ := hQ
  replace N := Fr.app N Nq
  obtain ⟨h7, eT⟩ : ∃ z, T.heap = z := ⟨_, rfl⟩
  rw [eT] at Kq V_b2
  have So : ∀ x ∈ [b2], Safe Z own_EL _ h6 x := (allS S_b2 all0)
  replace E_s1 := E_s1.keep Kq
  replace F_value_s1 := F_value_s1.keep Kq (ninS ne_s1_b2 nin0)
  replace F_coder_s1 := F_coder_s1.keep Kq (ninS ne_s1_b2 nin0)
  replace V_va := V_va.keep Kq (ninS ne_va_b2 nin0)
  replace E_b2 := E_b2.keep Kq
  replace O := O.keep Kq (allS g_b2 all0)
  replace K0 := K0.trans Kq (allS (Or.inr sz_b2) all0)
  replace hk := Nat.le_trans hk Kq.1
  replace S_b2 := Safe.keep Kq So H.1 S_b2
  replace H := H.trans (CHr.keep Kq So H.1)
  refine own_via (g' := (mkF m 101 (own_A15 s1 b2 3 (own_al (own_d M 18)) (own_dI (own_d M 18))) [(.long 0)])) st ?_
  rw [own_dIv (own_dB M 18), show M / 62 ^ 19 * 62 + own_d M 18 = M / 62 ^ 18 from own_hor M 18] at hL4
  refine own_via (g' := (mkF m 123 (own_A15 s1 b2 ((3 : Int32) + (1 : Int32)) (own_al (own_d M 18)) (own_dI (own_d M 18))) [])) (fun t_ k_ => XS.lconst X.here hx rfl (hb hby ep7m2_d101) (XS.lcmp X.here hx rfl (hb hby ep7m2_d102) rfl (XS.ifYes X.here hx rfl (pc0 := 103) (pc' := 120) rfl (hb hby ep7m2_d103) rfl ((if0 _ _).trans (teq (own_cmpEq _)).1) (by decide) (by decide) (XS.iinc X.here hx rfl (hb hby ep7m2_d120) rfl (l' := (own_A15 s1 b2 ((3 : Int32) + (1 : Int32)) (own_al (own_d M 18)) (own_dI (own_d M 18)))) rfl k_)))) ?_
  rw [(by decide : ((3 : Int32) + (1 : Int32)) = (4 : Int32))]
  refine own_via (g' := (mkF m 47 (own_A15 s1 b2 4 (own_al (own_d M 18)) (own_dI (own_d M 18))) [(.int 4), (.ref s1)])) (fun t_ k_ => XS.goto X.here hx rfl (pc0 := 123) (pc' := 39) rfl (hb hby ep7m2_d123) (by decide) (by decide) (XS.iloadN X.here hx rfl (hb hby ep7m2_d39) rfl (XS.bipush X.here hx rfl (hb hby ep7m2_d40) (XS.icmpNo X.here hx rfl (hb hby ep7m2_d42) rfl (tlt (by decide : (4 : Int32) < (22 : Int32))).2.1 (XS.aloadN X.here hx rfl (hb hby ep7m2_d45) rfl rfl (XS.iloadN X.here hx rfl (hb hby ep7m2_d46) rfl k_)))))) ?_
  obtain ⟨cq, kq, qa, qb, qc⟩ := isOf hZ eT E_s1
  obtain ⟨_, _, ⟨T, Lq, kq, nq⟩, -, X, ⟨Lc, hQ, lq, yq, zq⟩, st⟩ := X.virtualBack hx (y := own_y7) (z := own_y7) hown (mvT hZ (hw _ (own_w 46 rfl))) (mvT hZ (hw _ (own_w 47 rfl))) (notFace_of_selects (args := #[]) (mvT hZ (hw _ (own_w 49 rfl)))) (mvT hZ (hw _ (own_w 49 rfl))) (mvT hZ (hw _ (own_w 48 rfl))) (by decide) (backOf (W := 0) (own_charAt l Z a0 hw [] s1 (4 : Int32) va kv (22 : Int32) (own_BV M) (own_al (own_d M 17)) zc vS h7 n0 O E_s1 F_value_s1 F_coder_s1 V_va S_C hzc ⟨by decide, by decide⟩ rfl S_S hvS) hZ (hw _ (own_w 50 rfl)) (hw _ (own_w 38 rfl)) (by decide) (by decide)) qa qc (g := (mkF m 47 (own_A15 s1 b2 4 (own_al (own_d M 18)) (own_dI (own_d M 18))) [(.int 4), (.ref s1)])) rfl (by rw [hml]; rfl) (Steps.refl _) (argsL := [(.int 4)]) (rest := []) (lenOf own_pd7 rfl) rfl (by show 2 * 0 + _ ≤ _; exact Nat.le_of_eq rfl) (hb hby ep7m2_d47) (fun _ _ => ⟨rfl, eT, (by decide : 3 + 0 ≤ _), (by decide : 24 + 0 ≤ _)⟩)
  dsimp only [Pt.U, Pt.locs, Pt.cells, Pt.slots] at X lq yq zq st hQ
  rw [lq, yq, zq] at X
  obtain ⟨rfl, Nq, eT⟩ := hQ
  replace N := Fr.app N Nq
  refine own_viaT (g' := (mkF m 50 (own_A15 s1 b2 4 (own_al (own_d M 18)) (own_dI (own_d M 18))) [(.int ((own_al (own_d M 17)) &&& (255 : Int32)))])) st ?_
  rw [own_al255 (own_dB M 17)]
  have ha1 := own_al128 (own_dB M 17)
  have ha2 := own_dI0 (own_dB M 17)
  refine own_via (g' := (mkF m 52 (own_A15 s1 b2 4 (own_al (own_d M 17)) (own_dI (own_d M 18))) [(.int (own_al (own_d M 17)))])) (fun t_ k_ => XS.istoreN X.here hx rfl (hb hby ep7m2_d50) rfl (l' := (own_A15 s1 b2 4 (own_al (own_d M 17)) (own_dI (own_d M 18)))) rfl (XS.iloadN X.here hx rfl (hb hby ep7m2_d51) rfl k_)) ?_
  obtain ⟨T, X, eT, st⟩ := getS2 X hx hZ hown (host := "") (Or.inl (hw _ (own_w 125 rfl))) Via.refl eT (S_D.ext O.2) (g := (mkF m 52 (own_A15 s1 b2 4 (own_al (own_d M 17)) (own_dI (own_d M 18))) [(.int (own_al (own_d M 17)))])) rfl (hb hby ep7m2_d52)
  refine own_via (g' := (mkF m 55 (own_A15 s1 b2 4 (own_al (own_d M 17)) (own_dI (own_d M 18))) [(.ref wDG), (.int (own_al (own_d M 17)))])) st ?_
  have V_wDG := A_dg.ext O.2
  obtain ⟨cl_, Ar_, -, Sz_, Nn_, -, -⟩ := id V_wDG
  refine own_via (g' := (mkF m 56 (own_A15 s1 b2 4 (own_al (own_d M 17)) (own_dI (own_d M 18))) [(.int 128), (.int (own_al (own_d M 17)))])) (fun t_ k_ => X.arraylength hx (by rw [eT]; exact Ar_.1) (State.isArrayOf_alike hZ.alike Ar_.2.1) (g := (mkF m 55 (own_A15 s1 b2 4 (own_al (own_d M 17)) (own_dI (own_d M 18))) [(.ref wDG), (.int (own_al (own_d M 17)))])) rfl rfl (hb hby ep7m2_d55) _ (by rw [len_of Sz_ Nn_]; exact k_)) ?_
  refine own_via (g' := (mkF m 59 (own_A15 s1 b2 4 (own_al (own_d M 17)) (own_dI (own_d M 18))) [])) (fun t_ k_ => XS.icmpNo X.here hx rfl (hb hby ep7m2_d56) rfl (tlt ha1.2).2.1 k_) ?_
  obtain ⟨T, X, eT, st⟩ := getS2 X hx hZ hown (host := "") (Or.inl (hw _ (own_w 125 rfl))) Via.refl eT (S_D.ext O.2) (g := (mkF m 59 (own_A15 s1 b2 4 (own_al (own_d M 17)) (own_dI (own_d M 18))) [])) rfl (hb hby ep7m2_d59)
  refine own_via (g' := (mkF m 62 (own_A15 s1 b2 4 (own_al (own_d M 17)) (own_dI (own_d M 18))) [(.ref wDG)])) st ?_
  refine own_via (g' := (mkF m 63 (own_A15 s1 b2 4 (own_al (own_d M 17)) (own_dI (own_d M 18))) [(.int (own_al (own_d M 17))), (.ref wDG)])) (fun t_ k_ => XS.iloadN X.here hx rfl (hb hby ep7m2_d62) rfl k_) ?_
  have V_wDG := A_dg.ext O.2
  obtain ⟨cl_, Ar_, -, Sz_, Nn_, Hs_, -⟩ := id V_wDG
  have hin_ : ¬ ((own_al (own_d M 17)) < 0 ∨ cl_.slots.size ≤ ((own_al (own_d M 17))).toNatClampNeg) := inb_of Sz_ ha1
  have hat_ : cl_.slots[((own_al (own_d M 17))).toNatClampNeg]? = some (.int (own_dI (own_d M 17))) := Hs_.at hin_ (hdgs _ (own_dB M 17))
  refine own_via (g' := (mkF m 64 (own_A15 s1 b2 4 (own_al (own_d M 17)) (own_dI (own_d M 18))) [(.int (own_dI (own_d M 17)))])) (fun t_ k_ => X.iaload hx (j := (own_al (own_d M 17))) (v := (.int (own_dI (own_d M 17)))) (by rw [eT]; exact Ar_.1) (State.isArrayOf_alike hZ.alike Ar_.2.1) Ar_.2.2 hin_ hat_ (g := (mkF m 63 (own_A15 s1 b2 4 (own_al (own_d M 17)) (own_dI (own_d M 18))) [(.int (own_al (own_d M 17))), (.ref wDG)])) rfl rfl (hb hby ep7m2_d63) _ k_) ?_
  refine own_via (g' := (mkF m 93 (own_A15 s1 b2 4 (own_al (own_d M 17)) (own_dI (own_d M 17))) [(.ref b2)])) (fun t_ k_ => XS.goto X.here hx rfl (pc0 := 64) (pc' := 68) rfl (hb hby ep7m2_d64) (by decide) (by decide) (XS.istore X.here hx rfl (hb hby ep7m2_d68) rfl (l' := (own_A15 s1 b2 4 (own_al (own_d M 17)) (own_dI (own_d M 17)))) rfl (XS.iload X.here hx rfl (hb hby ep7m2_d70) rfl (XS.ifYes X.here hx rfl (pc0 := 72) (pc' := 92) rfl (hb hby ep7m2_d72) rfl ((if0 _ _).trans (flt ha2).2.1) (by decide) (by decide) (XS.aloadN X.here hx rfl (hb hby ep7m2_d92) rfl rfl k_))))) ?_
  obtain ⟨T, X, eT, st⟩ := getS2 X hx hZ hown (host := "") (Or.inl (hw _ (own_w 44 rfl))) Via.refl eT (S_B.ext O.2) (g := (mkF m 93 (own_A15 s1 b2 4 (own_al (own_d M 17)) (own_dI (own_d M 17))) [(.ref b2)])) rfl (hb hby ep7m2_d93)
  refine own_via (g' := (mkF m 96 (own_A15 s1 b2 4 (own_al (own_d M 17)) (own_dI (own_d M 17))) [(.int 62), (.ref b2)])) st ?_
  refine own_via (g' := (mkF m 98 (own_A15 s1 b2 4 (own_al (own_d M 17)) (own_dI (own_d M 17))) [(.int (own_dI (own_d M 17))), (.int 62), (.ref b2)])) (fun t_ k_ => XS.iload X.here hx rfl (hb hby ep7m2_d96) rfl k_) ?_
  obtain ⟨_, _, ⟨T, Lq, kq, nq⟩, -, X, ⟨Lc, hQ, lq, yq, zq⟩, st⟩ := Jvm.LawKit.callS X hx (y := own_y11) hown (mvT hZ (hw _ (own_w 127 rfl))) (mvT hZ (hw _ (own_w 128 rfl))) (mvT hZ (hw _ (own_w 5 rfl))) (mvT hZ (hw _ (own_w 129 rfl))) (by decide) (backOf (W := 0) (own_mulAdd l Z a0 hw [] b2 kb2 y4_0 y4_1 y4_2 y4_3 (own_dI (own_d M 17)) (M / 62 ^ 18) h7 n0 O E_b2 V_b2 g_b2 hL4 (by rw [own_dIv (own_dB M 17)]; exact (own_dB M 17)) (own_mulB hM1 hM2 17)) hZ (hw _ (own_w 129 rfl)) (hw _ (own_w 5 rfl)) (by decide) (by decide)) (g := (mkF m 98 (own_A15 s1 b2 4 (own_al (own_d M 17)) (own_dI (own_d M 17))) [(.int (own_dI (own_d M 17))), (.int 62), (.ref b2)])) rfl (by rw [hml]; rfl) (argsL := [(.ref b2), (.int 62), (.int (own_dI (own_d M 17)))]) (rest := []) (lenOf own_pd11 rfl) rfl (by show 2 * 0 + _ ≤ _; exact Nat.le_of_eq rfl) (hb hby ep7m2_d98) (fun _ _ => ⟨rfl, eT, (by decide : 3 + 0 ≤ _), (by decide : 24 + 0 ≤ _)⟩)
  dsimp only [Pt.U, Pt.locs, Pt.cells, Pt.slots] at X lq yq zq st hQ
  rw [lq, yq, zq] at X
  obtain ⟨y5_0, y5_1, y5_2, y5_3, rfl, Nq, Kq, V_b2, hL5⟩ := hQ
  replace N := Fr.app N Nq
  obtain ⟨h8, eT⟩ : ∃ z, T.heap = z := ⟨_, rfl⟩
  rw [eT] at Kq V_b2
  have So : ∀ x ∈ [b2], Safe Z own_EL _ h7 x := (allS S_b2 all0)
  replace E_s1 := E_s1.keep Kq
  replace F_value_s1 := F_value_s1.keep Kq (ninS ne_s1_b2 nin0)
  replace F_coder_s1 := F_coder_s1.keep Kq (ninS ne_s1_b2 nin0)
  replace V_va := V_va.keep Kq (ninS ne_va_b2 nin0)
  replace E_b2 := E_b2.keep Kq
  replace O := O.keep Kq (allS g_b2 all0)
  replace K0 := K0.trans Kq (allS (Or.inr sz_b2) all0)
  replace hk := Nat.le_trans hk Kq.1
  replace S_b2 := Safe.keep Kq So H.1 S_b2
  replace H := H.trans (CHr.keep Kq So H.1)
  refine own_via (g' := (mkF m 101 (own_A15 s1 b2 4 (own_al (own_d M 17)) (own_dI (own_d M 17))) [(.long 0)])) st ?_
  rw [own_dIv (own_dB M 17), show M / 62 ^ 18 * 62 + own_d M 17 = M / 62 ^ 17 from own_hor M 17] at hL5
  refine own_via (g' := (mkF m 123 (own_A15 s1 b2 ((4 : Int32) + (1 : Int32)) (own_al (own_d M 17)) (own_dI (own_d M 17))) [])) (fun t_ k_ => XS.lconst X.here hx rfl (hb hby ep7m2_d101) (XS.lcmp X.here hx rfl (hb hby ep7m2_d102) rfl (XS.ifYes X.here hx rfl (pc0 := 103) (pc' := 120) rfl (hb hby ep7m2_d103) rfl ((if0 _ _).trans (teq (own_cmpEq _)).1) (by decide) (by decide) (XS.iinc X.here hx rfl (hb hby ep7m2_d120) rfl (l' := (own_A15 s1 b2 ((4 : Int32) + (1 : Int32)) (own_al (own_d M 17)) (own_dI (own_d M 17)))) rfl k_)))) ?_
  rw [(by decide : ((4 : Int32) + (1 : Int32)) = (5 : Int32))]
  refine own_via (g' := (mkF m 47 (own_A15 s1 b2 5 (own_al (own_d M 17)) (own_dI (own_d M 17))) [(.int 5), (.ref s1)])) (fun t_ k_ => XS.goto X.here hx rfl (pc0 := 123) (pc' := 39) rfl (hb hby ep7m2_d123) (by decide) (by decide) (XS.iloadN X.here hx rfl (hb hby ep7m2_d39) rfl (XS.bipush X.here hx rfl (hb hby ep7m2_d40) (XS.icmpNo X.here hx rfl (hb hby ep7m2_d42) rfl (tlt (by decide : (5 : Int32) < (22 : Int32))).2.1 (XS.aloadN X.here hx rfl (hb hby ep7m2_d45) rfl rfl (XS.iloadN X.here hx rfl (hb hby ep7m2_d46) rfl k_)))))) ?_
  obtain ⟨cq, kq, qa, qb, qc⟩ := isOf hZ eT E_s1
  obtain ⟨_, _, ⟨T, Lq, kq, nq⟩, -, X, ⟨Lc, hQ, lq, yq, zq⟩, st⟩ := X.virtualBack hx (y := own_y7) (z := own_y7) hown (mvT hZ (hw _ (own_w 46 rfl))) (mvT hZ (hw _ (own_w 47 rfl))) (notFace_of_selects (args := #[]) (mvT hZ (hw _ (own_w 49 rfl)))) (mvT hZ (hw _ (own_w 49 rfl))) (mvT hZ (hw _ (own_w 48 rfl))) (by decide) (backOf (W := 0) (own_charAt l Z a0 hw [] s1 (5 : Int32) va kv (22 : Int32) (own_BV M) (own_al (own_d M 16)) zc vS h8 n0 O E_s1 F_value_s1 F_coder_s1 V_va S_C hzc ⟨by decide, by decide⟩ rfl S_S hvS) hZ (hw _ (own_w 50 rfl)) (hw _ (own_w 38 rfl)) (by decide) (by decide)) qa qc (g := (mkF m 47 (own_A15 s1 b2 5 (own_al (own_d M 17)) (own_dI (own_d M 17))) [(.int 5), (.ref s1)])) rfl (by rw [hml]; rfl) (Steps.refl _) (argsL := [(.int 5)]) (rest := []) (lenOf own_pd7 rfl) rfl (by show 2 * 0 + _ ≤ _; exact Nat.le_of_eq rfl) (hb hby ep7m2_d47) (fun _ _ => ⟨rfl, eT, (by decide : 3 + 0 ≤ _), (by decide : 24 + 0 ≤ _)⟩)
  dsimp only [Pt.U, Pt.locs, Pt.cells, Pt.slots] at X lq yq zq st hQ
  rw [lq, yq, zq] at X
  obtain ⟨rfl, Nq, eT⟩ := hQ
  replace N := Fr.app N Nq
  refine own_viaT (g' := (mkF m 50 (own_A15 s1 b2 5 (own_al (own_d M 17)) (own_dI (own_d M 17))) [(.int ((own_al (own_d M 16)) &&& (255 : Int32)))])) st ?_
  rw [own_al255 (own_dB M 16)]
  have ha1 := own_al128 (own_dB M 16)
  have ha2 := own_dI0 (own_dB M 16)
  refine own_via (g' := (mkF m 52 (own_A15 s1 b2 5 (own_al (own_d M 16)) (own_dI (own_d M 17))) [(.int (own_al (own_d M 16)))])) (fun t_ k_ => XS.istoreN X.here hx rfl (hb hby ep7m2_d50) rfl (l' := (own_A15 s1 b2 5 (own_al (own_d M 16)) (own_dI (own_d M 17)))) rfl (XS.iloadN X.here hx rfl (hb hby ep7m2_d51) rfl k_)) ?_
  obtain ⟨T, X, eT, st⟩ := getS2 X hx hZ hown (host := "") (Or.inl (hw _ (own_w 125 rfl))) Via.refl eT (S_D.ext O.2) (g := (mkF m 52 (own_A15 s1 b2 5 (own_al (own_d M 16)) (own_dI (own_d M 17))) [(.int (own_al (own_d M 16)))])) rfl (hb hby ep7m2_d52)
  refine own_via (g' := (mkF m 55 (own_A15 s1 b2 5 (own_al (own_d M 16)) (own_dI (own_d M 17))) [(.ref wDG), (.int (own_al (own_d M 16)))])) st ?_
  have V_wDG := A_dg.ext O.2
  obtain ⟨cl_, Ar_, -, Sz_, Nn_, -, -⟩ := id V_wDG
  refine own_via (g' := (mkF m 56 (own_A15 s1 b2 5 (own_al (own_d M 16)) (own_dI (own_d M 17))) [(.int 128), (.int (own_al (own_d M 16)))])) (fun t_ k_ => X.arraylength hx (by rw [eT]; exact Ar_.1) (State.isArrayOf_alike hZ.alike Ar_.2.1) (g := (mkF m 55 (own_A15 s1 b2 5 (own_al (own_d M 16)) (own_dI (own_d M 17))) [(.ref wDG), (.int (own_al (own_d M 16)))])) rfl rfl (hb hby ep7m2_d55) _ (by rw [len_of Sz_ Nn_]; exact k_)) ?_
  refine own_via (g' := (mkF m 59 (own_A15 s1 b2 5 (own_al (own_d M 16)) (own_dI (own_d M 17))) [])) (fun t_ k_ => XS.icmpNo X.here hx rfl (hb hby ep7m2_d56) rfl (tlt ha1.2).2.1 k_) ?_
  obtain ⟨T, X, eT, st⟩ := getS2 X hx hZ hown (host := "") (Or.inl (hw _ (own_w 125 rfl))) Via.refl eT (S_D.ext O.2) (g := (mkF m 59 (own_A15 s1 b2 5 (own_al (own_d M 16)) (own_dI (own_d M 17))) [])) rfl (hb hby ep7m2_d59)
  refine own_via (g' := (mkF m 62 (own_A15 s1 b2 5 (own_al (own_d M 16)) (own_dI (own_d M 17))) [(.ref wDG)])) st ?_
  refine own_via (g' := (mkF m 63 (own_A15 s1 b2 5 (own_al (own_d M 16)) (own_dI (own_d M 17))) [(.int (own_al (own_d M 16))), (.ref wDG)])) (fun t_ k_ => XS.iloadN X.here hx rfl (hb hby ep7m2_d62) rfl k_) ?_
  have V_wDG := A_dg.ext O.2
  obtain ⟨cl_, Ar_, -, Sz_, Nn_, Hs_, -⟩ := id V_wDG
  have hin_ : ¬ ((own_al (own_d M 16)) < 0 ∨ cl_.slots.size ≤ ((own_al (own_d M 16))).toNatClampNeg) := inb_of Sz_ ha1
  have hat_ : cl_.slots[((own_al (own_d M 16))).toNatClampNeg]? = some (.int (own_dI (own_d M 16))) := Hs_.at hin_ (hdgs _ (own_dB M 16))
  refine own_via (g' := (mkF m 64 (own_A15 s1 b2 5 (own_al (own_d M 16)) (own_dI (own_d M 17))) [(.int (own_dI (own_d M 16)))])) (fun t_ k_ => X.iaload hx (j := (own_al (own_d M 16))) (v := (.int (own_dI (own_d M 16)))) (by rw [eT]; exact Ar_.1) (State.isArrayOf_alike hZ.alike Ar_.2.1) Ar_.2.2 hin_ hat_ (g := (mkF m 63 (own_A15 s1 b2 5 (own_al (own_d M 16)) (own_dI (own_d M 17))) [(.int (own_al (own_d M 16))), (.ref wDG)])) rfl rfl (hb hby ep7m2_d63) _ k_) ?_
  refine own_via (g' := (mkF m 93 (own_A15 s1 b2 5 (own_al (own_d M 16)) (own_dI (own_d M 16))) [(.ref b2)])) (fun t_ k_ => XS.goto X.here hx rfl (pc0 := 64) (pc' := 68) rfl (hb hby ep7m2_d64) (by decide) (by decide) (XS.istore X.here hx rfl (hb hby ep7m2_d68) rfl (l' := (own_A15 s1 b2 5 (own_al (own_d M 16)) (own_dI (own_d M 16)))) rfl (XS.iload X.here hx rfl (hb hby ep7m2_d70) rfl (XS.ifYes X.here hx rfl (pc0 := 72) (pc' := 92) rfl (hb hby ep7m2_d72) rfl ((if0 _ _).trans (flt ha2).2.1) (by decide) (by decide) (XS.aloadN X.here hx rfl (hb hby ep7m2_d92) rfl rfl k_))))) ?_
  obtain ⟨T, X, eT, st⟩ := getS2 X hx hZ hown (host := "") (Or.inl (hw _ (own_w 44 rfl))) Via.refl eT (S_B.ext O.2) (g := (mkF m 93 (own_A15 s1 b2 5 (own_al (own_d M 16)) (own_dI (own_d M 16))) [(.ref b2)])) rfl (hb hby ep7m2_d93)
  refine own_via (g' := (mkF m 96 (own_A15 s1 b2 5 (own_al (own_d M 16)) (own_dI (own_d M 16))) [(.int 62), (.ref b2)])) st ?_
  refine own_via (g' := (mkF m 98 (own_A15 s1 b2 5 (own_al (own_d M 16)) (own_dI (own_d M 16))) [(.int (own_dI (own_d M 16))), (.int 62), (.ref b2)])) (fun t_ k_ => XS.iload X.here hx rfl (hb hby ep7m2_d96) rfl k_) ?_
  obtain ⟨_, _, ⟨T, Lq, kq, nq⟩, -, X, ⟨Lc, hQ, lq, yq, zq⟩, st⟩ := Jvm.LawKit.callS X hx (y := own_y11) hown (mvT hZ (hw _ (own_w 127 rfl))) (mvT hZ (hw _ (own_w 128 rfl))) (mvT hZ (hw _ (own_w 5 rfl))) (mvT hZ (hw _ (own_w 129 rfl))) (by decide) (backOf (W := 0) (own_mulAdd l Z a0 hw [] b2 kb2 y5_0 y5_1 y5_2 y5_3 (own_dI (own_d M 16)) (M / 62 ^ 17) h8 n0 O E_b2 V_b2 g_b2 hL5 (by rw [own_dIv (own_dB M 16)]; exact (own_dB M 16)) (own_mulB hM1 hM2 16)) hZ (hw _ (own_w 129 rfl)) (hw _ (own_w 5 rfl)) (by decide) (by decide)) (g := (mkF m 98 (own_A15 s1 b2 5 (own_al (own_d M 16)) (own_dI (own_d M 16))) [(.int (own_dI (own_d M 16))), (.int 62), (.ref b2)])) rfl (by rw [hml]; rfl) (argsL := [(.ref b2), (.int 62), (.int (own_dI (own_d M 16)))]) (rest := []) (lenOf own_pd11 rfl) rfl (by show 2 * 0 + _ ≤ _; exact Nat.le_of_eq rfl) (hb hby ep7m2_d98) (fun _ _ => ⟨rfl, eT, (by decide : 3 + 0 ≤ _), (by decide : 24 + 0 ≤ _)⟩)
  dsimp only [Pt.U, Pt.locs, Pt.cells, Pt.slots] at X lq yq zq st hQ
  rw [lq, yq, zq] at X
  obtain ⟨y6_0, y6_1, y6_2, y6_3, rfl, Nq, Kq, V_b2, hL6⟩ := hQ
  replace N := Fr.app N Nq
  obtain ⟨h9, eT⟩ : ∃ z, T.heap = z := ⟨_, rfl⟩
  rw [eT] at Kq V_b2
  have So : ∀ x ∈ [b2], Safe Z own_EL _ h8 x := (allS S_b2 all0)
  replace E_s1 := E_s1.keep Kq
  replace F_value_s1 := F_value_s1.keep Kq (ninS ne_s1_b2 nin0)
  replace F_coder_s1 := F_coder_s1.keep Kq (ninS ne_s1_b2 nin0)
  replace V_va := V_va.keep Kq (ninS ne_va_b2 nin0)
  replace E_b2 := E_b2.keep Kq
  replace O := O.keep Kq (allS g_b2 all0)
  replace K0 := K0.trans Kq (allS (Or.inr sz_b2) all0)
  replace hk := Nat.le_trans hk Kq.1
  replace S_b2 := Safe.keep Kq So H.1 S_b2
  replace H := H.trans (CHr.keep Kq So H.1)
  refine own_via (g' := (mkF m 101 (own_A15 s1 b2 5 (own_al (own_d M 16)) (own_dI (own_d M 16))) [(.long 0)])) st ?_
  rw [own_dIv (own_dB M 16), show M / 62 ^ 17 * 62 + own_d M 16 = M / 62 ^ 16 from own_hor M 16] at hL6
  refine own_via (g' := (mkF m 123 (own_A15 s1 b2 ((5 : Int32) + (1 : Int32)) (own_al (own_d M 16)) (own_dI (own_d M 16))) [])) (fun t_ k_ => XS.lconst X.here hx rfl (hb hby ep7m2_d101) (XS.lcmp X.here hx rfl (hb hby ep7m2_d102) rfl (XS.ifYes X.here hx rfl (pc0 := 103) (pc' := 120) rfl (hb hby ep7m2_d103) rfl ((if0 _ _).trans (teq (own_cmpEq _)).1) (by decide) (by decide) (XS.iinc X.here hx rfl (hb hby ep7m2_d120) rfl (l' := (own_A15 s1 b2 ((5 : Int32) + (1 : Int32)) (own_al (own_d M 16)) (own_dI (own_d M 16)))) rfl k_)))) ?_
  rw [(by decide : ((5 : Int32) + (1 : Int32)) = (6 : Int32))]
  refine own_via (g' := (mkF m 47 (own_A15 s1 b2 6 (own_al (own_d M 16)) (own_dI (own_d M 16))) [(.int 6), (.ref s1)])) (fun t_ k_ => XS.goto X.here hx rfl (pc0 := 123) (pc' := 39) rfl (hb hby ep7m2_d123) (by decide) (by decide) (XS.iloadN X.here hx rfl (hb hby ep7m2_d39) rfl (XS.bipush X.here hx rfl (hb hby ep7m2_d40) (XS.icmpNo X.here hx rfl (hb hby ep7m2_d42) rfl (tlt (by decide : (6 : Int32) < (22 : Int32))).2.1 (XS.aloadN X.here hx rfl (hb hby ep7m2_d45) rfl rfl (XS.iloadN X.here hx rfl (hb hby ep7m2_d46) rfl k_)))))) ?_
  obtain ⟨cq, kq, qa, qb, qc⟩ := isOf hZ eT E_s1
  obtain ⟨_, _, ⟨T, Lq, kq, nq⟩, -, X, ⟨Lc, hQ, lq, yq, zq⟩, st⟩ := X.virtualBack hx (y := own_y7) (z := own_y7) hown (mvT hZ (hw _ (own_w 46 rfl))) (mvT hZ (hw _ (own_w 47 rfl))) (notFace_of_selects (args := #[]) (mvT hZ (hw _ (own_w 49 rfl)))) (mvT hZ (hw _ (own_w 49 rfl))) (mvT hZ (hw _ (own_w 48 rfl))) (by decide) (backOf (W := 0) (own_charAt l Z a0 hw [] s1 (6 : Int32) va kv (22 : Int32) (own_BV M) (own_al (own_d M 15)) zc vS h9 n0 O E_s1 F_value_s1 F_coder_s1 V_va S_C hzc ⟨by decide, by decide⟩ rfl S_S hvS) hZ (hw _ (own_w 50 rfl)) (hw _ (own_w 38 rfl)) (by decide) (by decide)) qa qc (g := (mkF m 47 (own_A15 s1 b2 6 (own_al (own_d M 16)) (own_dI (own_d M 16))) [(.int 6), (.ref s1)])) rfl (by rw [hml]; rfl) (Steps.refl _) (argsL := [(.int 6)]) (rest := []) (lenOf own_pd7 rfl) rfl (by show 2 * 0 + _ ≤ _; exact Nat.le_of_eq rfl) (hb hby ep7m2_d47) (fun _ _ => ⟨rfl, eT, (by decide : 3 + 0 ≤ _), (by decide : 24 + 0 ≤ _)⟩)
  dsimp only [Pt.U, Pt.locs, Pt.cells, Pt.slots] at X lq yq zq st hQ
  rw [lq, yq, zq] at X
  obtain ⟨rfl, Nq, eT⟩ := hQ
  replace N := Fr.app N Nq
  refine own_viaT (g' := (mkF m 50 (own_A15 s1 b2 6 (own_al (own_d M 16)) (own_dI (own_d M 16))) [(.int ((own_al (own_d M 15)) &&& (255 : Int32)))])) st ?_
  rw [own_al255 (own_dB M 15)]
  have ha1 := own_al128 (own_dB M 15)
  have ha2 := own_dI0 (own_dB M 15)
  refine own_via (g' := (mkF m 52 (own_A15 s1 b2 6 (own_al (own_d M 15)) (own_dI (own_d M 16))) [(.int (own_al (own_d M 15)))])) (fun t_ k_ => XS.istoreN X.here hx rfl (hb hby ep7m2_d50) rfl (l' := (own_A15 s1 b2 6 (own_al (own_d M 15)) (own_dI (own_d M 16)))) rfl (XS.iloadN X.here hx rfl (hb hby ep7m2_d51) rfl k_)) ?_
  obtain ⟨T, X, eT, st⟩ := getS2 X hx hZ hown (host := "") (Or.inl (hw _ (own_w 125 rfl))) Via.refl eT (S_D.ext O.2) (g := (mkF m 52 (own_A15 s1 b2 6 (own_al (own_d M 15)) (own_dI (own_d M 16))) [(.int (own_al (own_d M 15)))])) rfl (hb hby ep7m2_d52)
  refine own_via (g' := (mkF m 55 (own_A15 s1 b2 6 (own_al (own_d M 15)) (own_dI (own_d M 16))) [(.ref wDG), (.int (own_al (own_d M 15)))])) st ?_
  have V_wDG := A_dg.ext O.2
  obtain ⟨cl_, Ar_, -, Sz_, Nn_, -, -⟩ := id V_wDG
  refine own_via (g' := (mkF m 56 (own_A15 s1 b2 6 (own_al (own_d M 15)) (own_dI (own_d M 16))) [(.int 128), (.int (own_al (own_d M 15)))])) (fun t_ k_ => X.arraylength hx (by rw [eT]; exact Ar_.1) (State.isArrayOf_alike hZ.alike Ar_.2.1) (g := (mkF m 55 (own_A15 s1 b2 6 (own_al (own_d M 15)) (own_dI (own_d M 16))) [(.ref wDG), (.int (own_al (own_d M 15)))])) rfl rfl (hb hby ep7m2_d55) _ (by rw [len_of Sz_ Nn_]; exact k_)) ?_
  refine own_via (g' := (mkF m 59 (own_A15 s1 b2 6 (own_al (own_d M 15)) (own_dI (own_d M 16))) [])) (fun t_ k_ => XS.icmpNo X.here hx rfl (hb hby ep7m2_d56) rfl (tlt ha1.2).2.1 k_) ?_
  obtain ⟨T, X, eT, st⟩ := getS2 X hx hZ hown (host := "") (Or.inl (hw _ (own_w 125 rfl))) Via.refl eT (S_D.ext O.2) (g := (mkF m 59 (own_A15 s1 b2 6 (own_al (own_d M 15)) (own_dI (own_d M 16))) [])) rfl (hb hby ep7m2_d59)
  refine own_via (g' := (mkF m 62 (own_A15 s1 b2 6 (own_al (own_d M 15)) (own_dI (own_d M 16))) [(.ref wDG)])) st ?_
  refine own_via (g' := (mkF m 63 (own_A15 s1 b2 6 (own_al (own_d M 15)) (own_dI (own_d M 16))) [(.int (own_al (own_d M 15))), (.ref wDG)])) (fun t_ k_ => XS.iloadN X.here hx rfl (hb hby ep7m2_d62) rfl k_) ?_
  have V_wDG := A_dg.ext O.2
  obtain ⟨cl_, Ar_, -, Sz_, Nn_, Hs_, -⟩ := id V_wDG
  have hin_ : ¬ ((own_al (own_d M 15)) < 0 ∨ cl_.slots.size ≤ ((own_al (own_d M 15))).toNatClampNeg) := inb_of Sz_ ha1
  have hat_ : cl_.slots[((own_al (own_d M 15))).toNatClampNeg]? = some (.int (own_dI (own_d M 15))) := Hs_.at hin_ (hdgs _ (own_dB M 15))
  refine own_via (g' := (mkF m 64 (own_A15 s1 b2 6 (own_al (own_d M 15)) (own_dI (own_d M 16))) [(.int (own_dI (own_d M 15)))])) (fun t_ k_ => X.iaload hx (j := (own_al (own_d M 15))) (v := (.int (own_dI (own_d M 15)))) (by rw [eT]; exact Ar_.1) (State.isArrayOf_alike hZ.alike Ar_.2.1) Ar_.2.2 hin_ hat_ (g := (mkF m 63 (own_A15 s1 b2 6 (own_al (own_d M 15)) (own_dI (own_d M 16))) [(.int (own_al (own_d M 15))), (.ref wDG)])) rfl rfl (hb hby ep7m2_d63) _ k_) ?_
  refine own_via (g' := (mkF m 93 (own_A15 s1 b2 6 (own_al (own_d M 15)) (own_dI (own_d M 15))) [(.ref b2)])) (fun t_ k_ => XS.goto X.here hx rfl (pc0 := 64) (pc' := 68) rfl (hb hby ep7m2_d64) (by decide) (by decide) (XS.istore X.here hx rfl (hb hby ep7m2_d68) rfl (l' := (own_A15 s1 b2 6 (own_al (own_d M 15)) (own_dI (own_d M 15)))) rfl (XS.iload X.here hx rfl (hb hby ep7m2_d70) rfl (XS.ifYes X.here hx rfl (pc0 := 72) (pc' := 92) rfl (hb hby ep7m2_d72) rfl ((if0 _ _).trans (flt ha2).2.1) (by decide) (by decide) (XS.aloadN X.here hx rfl (hb hby ep7m2_d92) rfl rfl k_))))) ?_
  obtain ⟨T, X, eT, st⟩ := getS2 X hx hZ hown (host := "") (Or.inl (hw _ (own_w 44 rfl))) Via.refl eT (S_B.ext O.2) (g := (mkF m 93 (own_A15 s1 b2 6 (own_al (own_d M 15)) (own_dI (own_d M 15))) [(.ref b2)])) rfl (hb hby ep7m2_d93)
  refine own_via (g' := (mkF m 96 (own_A15 s1 b2 6 (own_al (own_d M 15)) (own_dI (own_d M 15))) [(.int 62), (.ref b2)])) st ?_
  refine own_via (g' := (mkF m 98 (own_A15 s1 b2 6 (own_al (own_d M 15)) (own_dI (own_d M 15))) [(.int (own_dI (own_d M 15))), (.int 62), (.ref b2)])) (fun t_ k_ => XS.iload X.here hx rfl (hb hby ep7m2_d96) rfl k_) ?_
  obtain ⟨_, _, ⟨T, Lq, kq, nq⟩, -, X, ⟨Lc, hQ, lq, yq, zq⟩, st⟩ := Jvm.LawKit.callS X hx (y := own_y11) hown (mvT hZ (hw _ (own_w 127 rfl))) (mvT hZ (hw _ (own_w 128 rfl))) (mvT hZ (hw _ (own_w 5 rfl))) (mvT hZ (hw _ (own_w 129 rfl))) (by decide) (backOf (W := 0) (own_mulAdd l Z a0 hw [] b2 kb2 y6_0 y6_1 y6_2 y6_3 (own_dI (own_d M 15)) (M / 62 ^ 16) h9 n0 O E_b2 V_b2 g_b2 hL6 (by rw [own_dIv (own_dB M 15)]; exact (own_dB M 15)) (own_mulB hM1 hM2 15)) hZ (hw _ (own_w 129 rfl)) (hw _ (own_w 5 rfl)) (by decide) (by decide)) (g := (mkF m 98 (own_A15 s1 b2 6 (own_al (own_d M 15)) (own_dI (own_d M 15))) [(.int (own_dI (own_d M 15))), (.int 62), (.ref b2)])) rfl (by rw [hml]; rfl) (argsL := [(.ref b2), (.int 62), (.int (own_dI (own_d M 15)))]) (rest := []) (lenOf own_pd11 rfl) rfl (by show 2 * 0 + _ ≤ _; exact Nat.le_of_eq rfl) (hb hby ep7m2_d98) (fun _ _ => ⟨rfl, eT, (by decide : 3 + 0 ≤ _), (by decide : 24 + 0 ≤ _)⟩)
  dsimp only [Pt.U, Pt.locs, Pt.cells, Pt.slots] at X lq yq zq st hQ
  rw [lq, yq, zq] at X
  obtain ⟨y7_0, y7_1, y7_2, y7_3, rfl, Nq, Kq, V_b2, hL7⟩ := hQ
  replace N := Fr.app N Nq
  obtain ⟨h10, eT⟩ : ∃ z, T.heap = z := ⟨_, rfl⟩
  rw [eT] at Kq V_b2
  have So : ∀ x ∈ [b2], Safe Z own_EL _ h9 x := (allS S_b2 all0)
  replace E_s1 := E_s1.keep Kq
  replace F_value_s1 := F_value_s1.keep Kq (ninS ne_s1_b2 nin0)
  replace F_coder_s1 := F_coder_s1.keep Kq (ninS ne_s1_b2 nin0)
  replace V_va := V_va.keep Kq (ninS ne_va_b2 nin0)
  replace E_b2 := E_b2.keep Kq
  replace O := O.keep Kq (allS g_b2 all0)
  replace K0 := K0.trans Kq (allS (Or.inr sz_b2) all0)
  replace hk := Nat.le_trans hk Kq.1
  replace S_b2 := Safe.keep Kq So H.1 S_b2
  replace H := H.trans (CHr.keep Kq So H.1)
  refine own_via (g' := (mkF m 101 (own_A15 s1 b2 6 (own_al (own_d M 15)) (own_dI (own_d M 15))) [(.long 0)])) st ?_
  rw [own_dIv (own_dB M 15), show M / 62 ^ 16 * 62 + own_d M 15 = M / 62 ^ 15 from own_hor M 15] at hL7
  refine own_via (g' := (mkF m 123 (own_A15 s1 b2 ((6 : Int32) + (1 : Int32)) (own_al (own_d M 15)) (own_dI (own_d M 15))) [])) (fun t_ k_ => XS.lconst X.here hx rfl (hb hby ep7m2_d101) (XS.lcmp X.here hx rfl (hb hby ep7m2_d102) rfl (XS.ifYes X.here hx rfl (pc0 := 103) (pc' := 120) rfl (hb hby ep7m2_d103) rfl ((if0 _ _).trans (teq (own_cmpEq _)).1) (by decide) (by decide) (XS.iinc X.here hx rfl (hb hby ep7m2_d120) rfl (l' := (own_A15 s1 b2 ((6 : Int32) + (1 : Int32)) (own_al (own_d M 15)) (own_dI (own_d M 15)))) rfl k_)))) ?_
  rw [(by decide : ((6 : Int32) + (1 : Int32)) = (7 : Int32))]
  refine own_via (g' := (mkF m 47 (own_A15 s1 b2 7 (own_al (own_d M 15)) (own_dI (own_d M 15))) [(.int 7), (.ref s1)])) (fun t_ k_ => XS.goto X.here hx rfl (pc0 := 123) (pc' := 39) rfl (hb hby ep7m2_d123) (by decide) (by decide) (XS.iloadN X.here hx rfl (hb hby ep7m2_d39) rfl (XS.bipush X.here hx rfl (hb hby ep7m2_d40) (XS.icmpNo X.here hx rfl (hb hby ep7m2_d42) rfl (tlt (by decide : (7 : Int32) < (22 : Int32))).2.1 (XS.aloadN X.here hx rfl (hb hby ep7m2_d45) rfl rfl (XS.iloadN X.here hx rfl (hb hby ep7m2_d46) rfl k_)))))) ?_
  obtain ⟨cq, kq, qa, qb, qc⟩ := isOf hZ eT E_s1
  obtain ⟨_, _, ⟨T, Lq, kq, nq⟩, -, X, ⟨Lc, hQ, lq, yq, zq⟩, st⟩ := X.virtualBack hx (y := own_y7) (z := own_y7) hown (mvT hZ (hw _ (own_w 46 rfl))) (mvT hZ (hw _ (own_w 47 rfl))) (notFace_of_selects (args := #[]) (mvT hZ (hw _ (own_w 49 rfl)))) (mvT hZ (hw _ (own_w 49 rfl))) (mvT hZ (hw _ (own_w 48 rfl))) (by decide) (backOf (W := 0) (own_charAt l Z a0 hw [] s1 (7 : Int32) va kv (22 : Int32) (own_BV M) (own_al (own_d M 14)) zc vS h10 n0 O E_s1 F_value_s1 F_coder_s1 V_va S_C hzc ⟨by decide, by decide⟩ rfl S_S hvS) hZ (hw _ (own_w 50 rfl)) (hw _ (own_w 38 rfl)) (by decide) (by decide)) qa qc (g := (mkF m 47 (own_A15 s1 b2 7 (own_al (own_d M 15)) (own_dI (own_d M 15))) [(.int 7), (.ref s1)])) rfl (by rw [hml]; rfl) (Steps.refl _) (argsL := [(.int 7)]) (rest := []) (lenOf own_pd7 rfl) rfl (by show 2 * 0 + _ ≤ _; exact Nat.le_of_eq rfl) (hb hby ep7m2_d47) (fun _ _ => ⟨rfl, eT, (by decide : 3 + 0 ≤ _), (by decide : 24 + 0 ≤ _)⟩)
  dsimp only [Pt.U, Pt.locs, Pt.cells, Pt.slots] at X lq yq zq st hQ
  rw [lq, yq, zq] at X
  obtain ⟨rfl, Nq, eT⟩ := hQ
  replace N := Fr.app N Nq
  refine own_viaT (g' := (mkF m 50 (own_A15 s1 b2 7 (own_al (own_d M 15)) (own_dI (own_d M 15))) [(.int ((own_al (own_d M 14)) &&& (255 : Int32)))])) st ?_
  rw [own_al255 (own_dB M 14)]
  have ha1 := own_al128 (own_dB M 14)
  have ha2 := own_dI0 (own_dB M 14)
  refine own_via (g' := (mkF m 52 (own_A15 s1 b2 7 (own_al (own_d M 14)) (own_dI (own_d M 15))) [(.int (own_al (own_d M 14)))])) (fun t_ k_ => XS.istoreN X.here hx rfl (hb hby ep7m2_d50) rfl (l' := (own_A15 s1 b2 7 (own_al (own_d M 14)) (own_dI (own_d M 15)))) rfl (XS.iloadN X.here hx rfl (hb hby ep7m2_d51) rfl k_)) ?_
  obtain ⟨T, X, eT, st⟩ := getS2 X hx hZ hown (host := "") (Or.inl (hw _ (own_w 125 rfl))) Via.refl eT (S_D.ext O.2) (g := (mkF m 52 (own_A15 s1 b2 7 (own_al (own_d M 14)) (own_dI (own_d M 15))) [(.int (own_al (own_d M 14)))])) rfl (hb hby ep7m2_d52)
  refine own_via (g' := (mkF m 55 (own_A15 s1 b2 7 (own_al (own_d M 14)) (own_dI (own_d M 15))) [(.ref wDG), (.int (own_al (own_d M 14)))])) st ?_
  have V_wDG := A_dg.ext O.2
  obtain ⟨cl_, Ar_, -, Sz_, Nn_, -, -⟩ := id V_wDG
  refine own_via (g' := (mkF m 56 (own_A15 s1 b2 7 (own_al (own_d M 14)) (own_dI (own_d M 15))) [(.int 128), (.int (own_al (own_d M 14)))])) (fun t_ k_ => X.arraylength hx (by rw [eT]; exact Ar_.1) (State.isArrayOf_alike hZ.alike Ar_.2.1) (g := (mkF m 55 (own_A15 s1 b2 7 (own_al (own_d M 14)) (own_dI (own_d M 15))) [(.ref wDG), (.int (own_al (own_d M 14)))])) rfl rfl (hb hby ep7m2_d55) _ (by rw [len_of Sz_ Nn_]; exact k_)) ?_
  refine own_via (g' := (mkF m 59 (own_A15 s1 b2 7 (own_al (own_d M 14)) (own_dI (own_d M 15))) [])) (fun t_ k_ => XS.icmpNo X.here hx rfl (hb hby ep7m2_d56) rfl (tlt ha1.2).2.1 k_) ?_
  obtain ⟨T, X, eT, st⟩ := getS2 X hx hZ hown (host := "") (Or.inl (hw _ (own_w 125 rfl))) Via.refl eT (S_D.ext O.2) (g := (mkF m 59 (own_A15 s1 b2 7 (own_al (own_d M 14)) (own_dI (own_d M 15))) [])) rfl (hb hby ep7m2_d59)
  refine own_via (g' := (mkF m 62 (own_A15 s1 b2 7 (own_al (own_d M 14)) (own_dI (own_d M 15))) [(.ref wDG)])) st ?_
  refine own_via (g' := (mkF m 63 (own_A15 s1 b2 7 (own_al (own_d M 14)) (own_dI (own_d M 15))) [(.int (own_al (own_d M 14))), (.ref wDG)])) (fun t_ k_ => XS.iloadN X.here hx rfl (hb hby ep7m2_d62) rfl k_) ?_
  have V_wDG := A_dg.ext O.2
  obtain ⟨cl_, Ar_, -, Sz_, Nn_, Hs_, -⟩ := id V_wDG
  have hin_ : ¬ ((own_al (own_d M 14)) < 0 ∨ cl_.slots.size ≤ ((own_al (own_d M 14))).toNatClampNeg) := inb_of Sz_ ha1
  have hat_ : cl_.slots[((own_al (own_d M 14))).toNatClampNeg]? = some (.int (own_dI (own_d M 14))) := Hs_.at hin_ (hdgs _ (own_dB M 14))
  refine own_via (g' := (mkF m 64 (own_A15 s1 b2 7 (own_al (own_d M 14)) (own_dI (own_d M 15))) [(.int (own_dI (own_d M 14)))])) (fun t_ k_ => X.iaload hx (j := (own_al (own_d M 14))) (v := (.int (own_dI (own_d M 14)))) (by rw [eT]; exact Ar_.1) (State.isArrayOf_alike hZ.alike Ar_.2.1) Ar_.2.2 hin_ hat_ (g := (mkF m 63 (own_A15 s1 b2 7 (own_al (own_d M 14)) (own_dI (own_d M 15))) [(.int (own_al (own_d M 14))), (.ref wDG)])) rfl rfl (hb hby ep7m2_d63) _ k_) ?_
  refine own_via (g' := (mkF m 93 (own_A15 s1 b2 7 (own_al (own_d M 14)) (own_dI (own_d M 14))) [(.ref b2)])) (fun t_ k_ => XS.goto X.here hx rfl (pc0 := 64) (pc' := 68) rfl (hb hby ep7m2_d64) (by decide) (by decide) (XS.istore X.here hx rfl (hb hby ep7m2_d68) rfl (l' := (own_A15 s1 b2 7 (own_al (own_d M 14)) (own_dI (own_d M 14)))) rfl (XS.iload X.here hx rfl (hb hby ep7m2_d70) rfl (XS.ifYes X.here hx rfl (pc0 := 72) (pc' := 92) rfl (hb hby ep7m2_d72) rfl ((if0 _ _).trans (flt ha2).2.1) (by decide) (by decide) (XS.aloadN X.here hx rfl (hb hby ep7m2_d92) rfl rfl k_))))) ?_
  obtain ⟨T, X, eT, st⟩ := getS2 X hx hZ hown (host := "") (Or.inl (hw _ (own_w 44 rfl))) Via.refl eT (S_B.ext O.2) (g := (mkF m 93 (own_A15 s1 b2 7 (own_al (own_d M 14)) (own_dI (own_d M 14))) [(.ref b2)])) rfl (hb hby ep7m2_d93)
  refine own_via (g' := (mkF m 96 (own_A15 s1 b2 7 (own_al (own_d M 14)) (own_dI (own_d M 14))) [(.int 62), (.ref b2)])) st ?_
  refine own_via (g' := (mkF m 98 (own_A15 s1 b2 7 (own_al (own_d M 14)) (own_dI (own_d M 14))) [(.int (own_dI (own_d M 14))), (.int 62), (.ref b2)])) (fun t_ k_ => XS.iload X.here hx rfl (hb hby ep7m2_d96) rfl k_) ?_
  obtain ⟨_, _, ⟨T, Lq, kq, nq⟩, -, X, ⟨Lc, hQ, lq, yq, zq⟩, st⟩ := Jvm.LawKit.callS X hx (y := own_y11) hown (mvT hZ (hw _ (own_w 127 rfl))) (mvT hZ (hw _ (own_w 128 rfl))) (mvT hZ (hw _ (own_w 5 rfl))) (mvT hZ (hw _ (own_w 129 rfl))) (by decide) (backOf (W := 0) (own_mulAdd l Z a0 hw [] b2 kb2 y7_0 y7_1 y7_2 y7_3 (own_dI (own_d M 14)) (M / 62 ^ 15) h10 n0 O E_b2 V_b2 g_b2 hL7 (by rw [own_dIv (own_dB M 14)]; exact (own_dB M 14)) (own_mulB hM1 hM2 14)) hZ (hw _ (own_w 129 rfl)) (hw _ (own_w 5 rfl)) (by decide) (by decide)) (g := (mkF m 98 (own_A15 s1 b2 7 (own_al (own_d M 14)) (own_dI (own_d M 14))) [(.int (own_dI (own_d M 14))), (.int 62), (.ref b2)])) rfl (by rw [hml]; rfl) (argsL := [(.ref b2), (.int 62), (.int (own_dI (own_d M 14)))]) (rest := []) (lenOf own_pd11 rfl) rfl (by show 2 * 0 + _ ≤ _; exact Nat.le_of_eq rfl) (hb hby ep7m2_d98) (fun _ _ => ⟨rfl, eT, (by decide : 3 + 0 ≤ _), (by decide : 24 + 0 ≤ _)⟩)
  dsimp only [Pt.U, Pt.locs, Pt.cells, Pt.slots] at X lq yq zq st hQ
  rw [lq, yq, zq] at X
  obtain ⟨y8_0, y8_1, y8_2, y8_3, rfl, Nq, Kq, V_b2, hL8⟩ := hQ
  replace N := Fr.app N Nq
  obtain ⟨h11, eT⟩ : ∃ z, T.heap = z := ⟨_, rfl⟩
  rw [eT] at Kq V_b2
  have So : ∀ x ∈ [b2], Safe Z own_EL _ h10 x := (allS S_b2 all0)
  replace E_s1 := E_s1.keep Kq
  replace F_value_s1 := F_value_s1.keep Kq (ninS ne_s1_b2 nin0)
  replace F_coder_s1 := F_coder_s1.keep Kq (ninS ne_s1_b2 nin0)
  replace V_va := V_va.keep Kq (ninS ne_va_b2 nin0)
  replace E_b2 := E_b2.keep Kq
  replace O := O.keep Kq (allS g_b2 all0)
  replace K0 := K0.trans Kq (allS (Or.inr sz_b2) all0)
  replace hk := Nat.le_trans hk Kq.1
  replace S_b2 := Safe.keep Kq So H.1 S_b2
  replace H := H.trans (CHr.keep Kq So H.1)
  refine own_via (g' := (mkF m 101 (own_A15 s1 b2 7 (own_al (own_d M 14)) (own_dI (own_d M 14))) [(.long 0)])) st ?_
  rw [own_dIv (own_dB M 14), show M / 62 ^ 15 * 62 + own_d M 14 = M / 62 ^ 14 from own_hor M 14] at hL8
  refine own_via (g' := (mkF m 123 (own_A15 s1 b2 ((7 : Int32) + (1 : Int32)) (own_al (own_d M 14)) (own_dI (own_d M 14))) [])) (fun t_ k_ => XS.lconst X.here hx rfl (hb hby ep7m2_d101) (XS.lcmp X.here hx rfl (hb hby ep7m2_d102) rfl (XS.ifYes X.here hx rfl (pc0 := 103) (pc' := 120) rfl (hb hby ep7m2_d103) rfl ((if0 _ _).trans (teq (own_cmpEq _)).1) (by decide) (by decide) (XS.iinc X.here hx rfl (hb hby ep7m2_d120) rfl (l' := (own_A15 s1 b2 ((7 : Int32) + (1 : Int32)) (own_al (own_d M 14)) (own_dI (own_d M 14)))) rfl k_)))) ?_
  rw [(by decide : ((7 : Int32) + (1 : Int32)) = (8 : Int32))]
  refine own_via (g' := (mkF m 47 (own_A15 s1 b2 8 (own_al (own_d M 14)) (own_dI (own_d M 14))) [(.int 8), (.ref s1)])) (fun t_ k_ => XS.goto X.here hx rfl (pc0 := 123) (pc' := 39) rfl (hb hby ep7m2_d123) (by decide) (by decide) (XS.iloadN X.here hx rfl (hb hby ep7m2_d39) rfl (XS.bipush X.here hx rfl (hb hby ep7m2_d40) (XS.icmpNo X.here hx rfl (hb hby ep7m2_d42) rfl (tlt (by decide : (8 : Int32) < (22 : Int32))).2.1 (XS.aloadN X.here hx rfl (hb hby ep7m2_d45) rfl rfl (XS.iloadN X.here hx rfl (hb hby ep7m2_d46) rfl k_)))))) ?_
  obtain ⟨cq, kq, qa, qb, qc⟩ := isOf hZ eT E_s1
  obtain ⟨_, _, ⟨T, Lq, kq, nq⟩, -, X, ⟨Lc, hQ, lq, yq, zq⟩, st⟩ := X.virtualBack hx (y := own_y7) (z := own_y7) hown (mvT hZ (hw _ (own_w 46 rfl))) (mvT hZ (hw _ (own_w 47 rfl))) (notFace_of_selects (args := #[]) (mvT hZ (hw _ (own_w 49 rfl)))) (mvT hZ (hw _ (own_w 49 rfl))) (mvT hZ (hw _ (own_w 48 rfl))) (by decide) (backOf (W := 0) (own_charAt l Z a0 hw [] s1 (8 : Int32) va kv (22 : Int32) (own_BV M) (own_al (own_d M 13)) zc vS h11 n0 O E_s1 F_value_s1 F_coder_s1 V_va S_C hzc ⟨by decide, by decide⟩ rfl S_S hvS) hZ (hw _ (own_w 50 rfl)) (hw _ (own_w 38 rfl)) (by decide) (by decide)) qa qc (g := (mkF m 47 (own_A15 s1 b2 8 (own_al (own_d M 14)) (own_dI (own_d M 14))) [(.int 8), (.ref s1)])) rfl (by rw [hml]; rfl) (Steps.refl _) (argsL := [(.int 8)]) (rest := []) (lenOf own_pd7 rfl) rfl (by show 2 * 0 + _ ≤ _; exact Nat.le_of_eq rfl) (hb hby ep7m2_d47) (fun _ _ => ⟨rfl, eT, (by decide : 3 + 0 ≤ _), (by decide : 24 + 0 ≤ _)⟩)
  dsimp only [Pt.U, Pt.locs, Pt.cells, Pt.slots] at X lq yq zq st hQ
  rw [lq, yq, zq] at X
  obtain ⟨rfl, Nq, eT⟩ := hQ
  replace N := Fr.app N Nq
  refine own_viaT (g' := (mkF m 50 (own_A15 s1 b2 8 (own_al (own_d M 14)) (own_dI (own_d M 14))) [(.int ((own_al (own_d M 13)) &&& (255 : Int32)))])) st ?_
  rw [own_al255 (own_dB M 13)]
  have ha1 := own_al128 (own_dB M 13)
  have ha2 := own_dI0 (own_dB M 13)
  refine own_via (g' := (mkF m 52 (own_A15 s1 b2 8 (own_al (own_d M 13)) (own_dI (own_d M 14))) [(.int (own_al (own_d M 13)))])) (fun t_ k_ => XS.istoreN X.here hx rfl (hb hby ep7m2_d50) rfl (l' := (own_A15 s1 b2 8 (own_al (own_d M 13)) (own_dI (own_d M 14)))) rfl (XS.iloadN X.here hx rfl (hb hby ep7m2_d51) rfl k_)) ?_
  obtain ⟨T, X, eT, st⟩ := getS2 X hx hZ hown (host := "") (Or.inl (hw _ (own_w 125 rfl))) Via.refl eT (S_D.ext O.2) (g := (mkF m 52 (own_A15 s1 b2 8 (own_al (own_d M 13)) (own_dI (own_d M 14))) [(.int (own_al (own_d M 13)))])) rfl (hb hby ep7m2_d52)
  refine own_via (g' := (mkF m 55 (own_A15 s1 b2 8 (own_al (own_d M 13)) (own_dI (own_d M 14))) [(.ref wDG), (.int (own_al (own_d M 13)))])) st ?_
  have V_wDG := A_dg.ext O.2
  obtain ⟨cl_, Ar_, -, Sz_, Nn_, -, -⟩ := id V_wDG
  refine own_via (g' := (mkF m 56 (own_A15 s1 b2 8 (own_al (own_d M 13)) (own_dI (own_d M 14))) [(.int 128), (.int (own_al (own_d M 13)))])) (fun t_ k_ => X.arraylength hx (by rw [eT]; exact Ar_.1) (State.isArrayOf_alike hZ.alike Ar_.2.1) (g := (mkF m 55 (own_A15 s1 b2 8 (own_al (own_d M 13)) (own_dI (own_d M 14))) [(.ref wDG), (.int (own_al (own_d M 13)))])) rfl rfl (hb hby ep7m2_d55) _ (by rw [len_of Sz_ Nn_]; exact k_)) ?_
  refine own_via (g' := (mkF m 59 (own_A15 s1 b2 8 (own_al (own_d M 13)) (own_dI (own_d M 14))) [])) (fun t_ k_ => XS.icmpNo X.here hx rfl (hb hby ep7m2_d56) rfl (tlt ha1.2).2.1 k_) ?_
  obtain ⟨T, X, eT, st⟩ := getS2 X hx hZ hown (host := "") (Or.inl (hw _ (own_w 125 rfl))) Via.refl eT (S_D.ext O.2) (g := (mkF m 59 (own_A15 s1 b2 8 (own_al (own_d M 13)) (own_dI (own_d M 14))) [])) rfl (hb hby ep7m2_d59)
  refine own_via (g' := (mkF m 62 (own_A15 s1 b2 8 (own_al (own_d M 13)) (own_dI (own_d M 14))) [(.ref wDG)])) st ?_
  refine own_via (g' := (mkF m 63 (own_A15 s1 b2 8 (own_al (own_d M 13)) (own_dI (own_d M 14))) [(.int (own_al (own_d M 13))), (.ref wDG)])) (fun t_ k_ => XS.iloadN X.here hx rfl (hb hby ep7m2_d62) rfl k_) ?_
  have V_wDG := A_dg.ext O.2
  obtain ⟨cl_, Ar_, -, Sz_, Nn_, Hs_, -⟩ := id V_wDG
  have hin_ : ¬ ((own_al (own_d M 13)) < 0 ∨ cl_.slots.size ≤ ((own_al (own_d M 13))).toNatClampNeg) := inb_of Sz_ ha1
  have hat_ : cl_.slots[((own_al (own_d M 13))).toNatClampNeg]? = some (.int (own_dI (own_d M 13))) := Hs_.at hin_ (hdgs _ (own_dB M 13))
  refine own_via (g' := (mkF m 64 (own_A15 s1 b2 8 (own_al (own_d M 13)) (own_dI (own_d M 14))) [(.int (own_dI (own_d M 13)))])) (fun t_ k_ => X.iaload hx (j := (own_al (own_d M 13))) (v := (.int (own_dI (own_d M 13)))) (by rw [eT]; exact Ar_.1) (State.isArrayOf_alike hZ.alike Ar_.2.1) Ar_.2.2 hin_ hat_ (g := (mkF m 63 (own_A15 s1 b2 8 (own_al (own_d M 13)) (own_dI (own_d M 14))) [(.int (own_al (own_d M 13))), (.ref wDG)])) rfl rfl (hb hby ep7m2_d63) _ k_) ?_
  refine own_via (g' := (mkF m 93 (own_A15 s1 b2 8 (own_al (own_d M 13)) (own_dI (own_d M 13))) [(.ref b2)])) (fun t_ k_ => XS.goto X.here hx rfl (pc0 := 64) (pc' := 68) rfl (hb hby ep7m2_d64) (by decide) (by decide) (XS.istore X.here hx rfl (hb hby ep7m2_d68) rfl (l' := (own_A15 s1 b2 8 (own_al (own_d M 13)) (own_dI (own_d M 13)))) rfl (XS.iload X.here hx rfl (hb hby ep7m2_d70) rfl (XS.ifYes X.here hx rfl (pc0 := 72) (pc' := 92) rfl (hb hby ep7m2_d72) rfl ((if0 _ _).trans (flt ha2).2.1) (by decide) (by decide) (XS.aloadN X.here hx rfl (hb hby ep7m2_d92) rfl rfl k_))))) ?_
  obtain ⟨T, X, eT, st⟩ := getS2 X hx hZ hown (host := "") (Or.inl (hw _ (own_w 44 rfl))) Via.refl eT (S_B.ext O.2) (g := (mkF m 93 (own_A15 s1 b2 8 (own_al (own_d M 13)) (own_dI (own_d M 13))) [(.ref b2)])) rfl (hb hby ep7m2_d93)
  refine own_via (g' := (mkF m 96 (own_A15 s1 b2 8 (own_al (own_d M 13)) (own_dI (own_d M 13))) [(.int 62), (.ref b2)])) st ?_
  refine own_via (g' := (mkF m 98 (own_A15 s1 b2 8 (own_al (own_d M 13)) (own_dI (own_d M 13))) [(.int (own_dI (own_d M 13))), (.int 62), (.ref b2)])) (fun t_ k_ => XS.iload X.here hx rfl (hb hby ep7m2_d96) rfl k_) ?_
  obtain ⟨_, _, ⟨T, Lq, kq, nq⟩, -, X, ⟨Lc, hQ, lq, yq, zq⟩, st⟩ := Jvm.LawKit.callS X hx (y := own_y11) hown (mvT hZ (hw _ (own_w 127 rfl))) (mvT hZ (hw _ (own_w 128 rfl))) (mvT hZ (hw _ (own_w 5 rfl))) (mvT hZ (hw _ (own_w 129 rfl))) (by decide) (backOf (W := 0) (own_mulAdd l Z a0 hw [] b2 kb2 y8_0 y8_1 y8_2 y8_3 (own_dI (own_d M 13)) (M / 62 ^ 14) h11 n0 O E_b2 V_b2 g_b2 hL8 (by rw [own_dIv (own_dB M 13)]; exact (own_dB M 13)) (own_mulB hM1 hM2 13)) hZ (hw _ (own_w 129 rfl)) (hw _ (own_w 5 rfl)) (by decide) (by decide)) (g := (mkF m 98 (own_A15 s1 b2 8 (own_al (own_d M 13)) (own_dI (own_d M 13))) [(.int (own_dI (own_d M 13))), (.int 62), (.ref b2)])) rfl (by rw [hml]; rfl) (argsL := [(.ref b2), (.int 62), (.int (own_dI (own_d M 13)))]) (rest := []) (lenOf own_pd11 rfl) rfl (by show 2 * 0 + _ ≤ _; exact Nat.le_of_eq rfl) (hb hby ep7m2_d98) (fun _ _ => ⟨rfl, eT, (by decide : 3 + 0 ≤ _), (by decide : 24 + 0 ≤ _)⟩)
  dsimp only [Pt.U, Pt.locs, Pt.cells, Pt.slots] at X lq yq zq st hQ
  rw [lq, yq, zq] at X
  obtain ⟨y9_0, y9_1, y9_2, y9_3, rfl, Nq, Kq, V_b2, hL9⟩ := hQ
  replace N := Fr.app N Nq
  obtain ⟨h12, eT⟩ : ∃ z, T.heap = z := ⟨_, rfl⟩
  rw [eT] at Kq V_b2
  have So : ∀ x ∈ [b2], Safe Z own_EL _ h11 x := (allS S_b2 all0)
  replace E_s1 := E_s1.keep Kq
  replace F_value_s1 := F_value_s1.keep Kq (ninS ne_s1_b2 nin0)
  replace F_coder_s1 := F_coder_s1.keep Kq (ninS ne_s1_b2 nin0)
  replace V_va := V_va.keep Kq (ninS ne_va_b2 nin0)
  replace E_b2 := E_b2.keep Kq
  replace O := O.keep Kq (allS g_b2 all0)
  replace K0 := K0.trans Kq (allS (Or.inr sz_b2) all0)
  replace hk := Nat.le_trans hk Kq.1
  replace S_b2 := Safe.keep Kq So H.1 S_b2
  replace H := H.trans (CHr.keep Kq So H.1)
  refine own_via (g' := (mkF m 101 (own_A15 s1 b2 8 (own_al (own_d M 13)) (own_dI (own_d M 13))) [(.long 0)])) st ?_
  rw [own_dIv (own_dB M 13), show M / 62 ^ 14 * 62 + own_d M 13 = M / 62 ^ 13 from own_hor M 13] at hL9
  refine own_via (g' := (mkF m 123 (own_A15 s1 b2 ((8 : Int32) + (1 : Int32)) (own_al (own_d M 13)) (own_dI (own_d M 13))) [])) (fun t_ k_ => XS.lconst X.here hx rfl (hb hby ep7m2_d101) (XS.lcmp X.here hx rfl (hb hby ep7m2_d102) rfl (XS.ifYes X.here hx rfl (pc0 := 103) (pc' := 120) rfl (hb hby ep7m2_d103) rfl ((if0 _ _).trans (teq (own_cmpEq _)).1) (by decide) (by decide) (XS.iinc X.here hx rfl (hb hby ep7m2_d120) rfl (l' := (own_A15 s1 b2 ((8 : Int32) + (1 : Int32)) (own_al (own_d M 13)) (own_dI (own_d M 13)))) rfl k_)))) ?_
  rw [(by decide : ((8 : Int32) + (1 : Int32)) = (9 : Int32))]
  refine own_via (g' := (mkF m 47 (own_A15 s1 b2 9 (own_al (own_d M 13)) (own_dI (own_d M 13))) [(.int 9), (.ref s1)])) (fun t_ k_ => XS.goto X.here hx rfl (pc0 := 123) (pc' := 39) rfl (hb hby ep7m2_d123) (by decide) (by decide) (XS.iloadN X.here hx rfl (hb hby ep7m2_d39) rfl (XS.bipush X.here hx rfl (hb hby ep7m2_d40) (XS.icmpNo X.here hx rfl (hb hby ep7m2_d42) rfl (tlt (by decide : (9 : Int32) < (22 : Int32))).2.1 (XS.aloadN X.here hx rfl (hb hby ep7m2_d45) rfl rfl (XS.iloadN X.here hx rfl (hb hby ep7m2_d46) rfl k_)))))) ?_
  obtain ⟨cq, kq, qa, qb, qc⟩ := isOf hZ eT E_s1
  obtain ⟨_, _, ⟨T, Lq, kq, nq⟩, -, X, ⟨Lc, hQ, lq, yq, zq⟩, st⟩ := X.virtualBack hx (y := own_y7) (z := own_y7) hown (mvT hZ (hw _ (own_w 46 rfl))) (mvT hZ (hw _ (own_w 47 rfl))) (notFace_of_selects (args := #[]) (mvT hZ (hw _ (own_w 49 rfl)))) (mvT hZ (hw _ (own_w 49 rfl))) (mvT hZ (hw _ (own_w 48 rfl))) (by decide) (backOf (W := 0) (own_charAt l Z a0 hw [] s1 (9 : Int32) va kv (22 : Int32) (own_BV M) (own_al (own_d M 12)) zc vS h12 n0 O E_s1 F_value_s1 F_coder_s1 V_va S_C hzc ⟨by decide, by decide⟩ rfl S_S hvS) hZ (hw _ (own_w 50 rfl)) (hw _ (own_w 38 rfl)) (by decide) (by decide)) qa qc (g := (mkF m 47 (own_A15 s1 b2 9 (own_al (own_d M 13)) (own_dI (own_d M 13))) [(.int 9), (.ref s1)])) rfl (by rw [hml]; rfl) (Steps.refl _) (argsL := [(.int 9)]) (rest := []) (lenOf own_pd7 rfl) rfl (by show 2 * 0 + _ ≤ _; exact Nat.le_of_eq rfl) (hb hby ep7m2_d47) (fun _ _ => ⟨rfl, eT, (by decide : 3 + 0 ≤ _), (by decide : 24 + 0 ≤ _)⟩)
  dsimp only [Pt.U, Pt.locs, Pt.cells, Pt.slots] at X lq yq zq st hQ
  rw [lq, yq, zq] at X
  obtain ⟨rfl, Nq, eT⟩ := hQ
  replace N := Fr.app N Nq
  refine own_viaT (g' := (mkF m 50 (own_A15 s1 b2 9 (own_al (own_d M 13)) (own_dI (own_d M 13))) [(.int ((own_al (own_d M 12)) &&& (255 : Int32)))])) st ?_
  rw [own_al255 (own_dB M 12)]
  have ha1 := own_al128 (own_dB M 12)
  have ha2 := own_dI0 (own_dB M 12)
  refine own_via (g' := (mkF m 52 (own_A15 s1 b2 9 (own_al (own_d M 12)) (own_dI (own_d M 13))) [(.int (own_al (own_d M 12)))])) (fun t_ k_ => XS.istoreN X.here hx rfl (hb hby ep7m2_d50) rfl (l' := (own_A15 s1 b2 9 (own_al (own_d M 12)) (own_dI (own_d M 13)))) rfl (XS.iloadN X.here hx rfl (hb hby ep7m2_d51) rfl k_)) ?_
  obtain ⟨T, X, eT, st⟩ := getS2 X hx hZ hown (host := "") (Or.inl (hw _ (own_w 125 rfl))) Via.refl eT (S_D.ext O.2) (g := (mkF m 52 (own_A15 s1 b2 9 (own_al (own_d M 12)) (own_dI (own_d M 13))) [(.int (own_al (own_d M 12)))])) rfl (hb hby ep7m2_d52)
  refine own_via (g' := (mkF m 55 (own_A15 s1 b2 9 (own_al (own_d M 12)) (own_dI (own_d M 13))) [(.ref wDG), (.int (own_al (own_d M 12)))])) st ?_
  have V_wDG := A_dg.ext O.2
  obtain ⟨cl_, Ar_, -, Sz_, Nn_, -, -⟩ := id V_wDG
  refine own_via (g' := (mkF m 56 (own_A15 s1 b2 9 (own_al (own_d M 12)) (own_dI (own_d M 13))) [(.int 128), (.int (own_al (own_d M 12)))])) (fun t_ k_ => X.arraylength hx (by rw [eT]; exact Ar_.1) (State.isArrayOf_alike hZ.alike Ar_.2.1) (g := (mkF m 55 (own_A15 s1 b2 9 (own_al (own_d M 12)) (own_dI (own_d M 13))) [(.ref wDG), (.int (own_al (own_d M 12)))])) rfl rfl (hb hby ep7m2_d55) _ (by rw [len_of Sz_ Nn_]; exact k_)) ?_
  refine own_via (g' := (mkF m 59 (own_A15 s1 b2 9 (own_al (own_d M 12)) (own_dI (own_d M 13))) [])) (fun t_ k_ => XS.icmpNo X.here hx rfl (hb hby ep7m2_d56) rfl (tlt ha1.2).2.1 k_) ?_
  obtain ⟨T, X, eT, st⟩ := getS2 X hx hZ hown (host := "") (Or.inl (hw _ (own_w 125 rfl))) Via.refl eT (S_D.ext O.2) (g := (mkF m 59 (own_A15 s1 b2 9 (own_al (own_d M 12)) (own_dI (own_d M 13))) [])) rfl (hb hby ep7m2_d59)
  refine own_via (g' := (mkF m 62 (own_A15 s1 b2 9 (own_al (own_d M 12)) (own_dI (own_d M 13))) [(.ref wDG)])) st ?_
  refine own_via (g' := (mkF m 63 (own_A15 s1 b2 9 (own_al (own_d M 12)) (own_dI (own_d M 13))) [(.int (own_al (own_d M 12))), (.ref wDG)])) (fun t_ k_ => XS.iloadN X.here hx rfl (hb hby ep7m2_d62) rfl k_) ?_
  have V_wDG := A_dg.ext O.2
  obtain ⟨cl_, Ar_, -, Sz_, Nn_, Hs_, -⟩ := id V_wDG
  have hin_ : ¬ ((own_al (own_d M 12)) < 0 ∨ cl_.slots.size ≤ ((own_al (own_d M 12))).toNatClampNeg) := inb_of Sz_ ha1
  have hat_ : cl_.slots[((own_al (own_d M 12))).toNatClampNeg]? = some (.int (own_dI (own_d M 12))) := Hs_.at hin_ (hdgs _ (own_dB M 12))
  refine own_via (g' := (mkF m 64 (own_A15 s1 b2 9 (own_al (own_d M 12)) (own_dI (own_d M 13))) [(.int (own_dI (own_d M 12)))])) (fun t_ k_ => X.iaload hx (j := (own_al (own_d M 12))) (v := (.int (own_dI (own_d M 12)))) (by rw [eT]; exact Ar_.1) (State.isArrayOf_alike hZ.alike Ar_.2.1) Ar_.2.2 hin_ hat_ (g := (mkF m 63 (own_A15 s1 b2 9 (own_al (own_d M 12)) (own_dI (own_d M 13))) [(.int (own_al (own_d M 12))), (.ref wDG)])) rfl rfl (hb hby ep7m2_d63) _ k_) ?_
  refine own_via (g' := (mkF m 93 (own_A15 s1 b2 9 (own_al (own_d M 12)) (own_dI (own_d M 12))) [(.ref b2)])) (fun t_ k_ => XS.goto X.here hx rfl (pc0 := 64) (pc' := 68) rfl (hb hby ep7m2_d64) (by decide) (by decide) (XS.istore X.here hx rfl (hb hby ep7m2_d68) rfl (l' := (own_A15 s1 b2 9 (own_al (own_d M 12)) (own_dI (own_d M 12)))) rfl (XS.iload X.here hx rfl (hb hby ep7m2_d70) rfl (XS.ifYes X.here hx rfl (pc0 := 72) (pc' := 92) rfl (hb hby ep7m2_d72) rfl ((if0 _ _).trans (flt ha2).2.1) (by decide) (by decide) (XS.aloadN X.here hx rfl (hb hby ep7m2_d92) rfl rfl k_))))) ?_
  obtain ⟨T, X, eT, st⟩ := getS2 X hx hZ hown (host := "") (Or.inl (hw _ (own_w 44 rfl))) Via.refl eT (S_B.ext O.2) (g := (mkF m 93 (own_A15 s1 b2 9 (own_al (own_d M 12)) (own_dI (own_d M 12))) [(.ref b2)])) rfl (hb hby ep7m2_d93)
  refine own_via (g' := (mkF m 96 (own_A15 s1 b2 9 (own_al (own_d M 12)) (own_dI (own_d M 12))) [(.int 62), (.ref b2)])) st ?_
  refine own_via (g' := (mkF m 98 (own_A15 s1 b2 9 (own_al (own_d M 12)) (own_dI (own_d M 12))) [(.int (own_dI (own_d M 12))), (.int 62), (.ref b2)])) (fun t_ k_ => XS.iload X.here hx rfl (hb hby ep7m2_d96) rfl k_) ?_
  obtain ⟨_, _, ⟨T, Lq, kq, nq⟩, -, X, ⟨Lc, hQ, lq, yq, zq⟩, st⟩ := Jvm.LawKit.callS X hx (y := own_y11) hown (mvT hZ (hw _ (own_w 127 rfl))) (mvT hZ (hw _ (own_w 128 rfl))) (mvT hZ (hw _ (own_w 5 rfl))) (mvT hZ (hw _ (own_w 129 rfl))) (by decide) (backOf (W := 0) (own_mulAdd l Z a0 hw [] b2 kb2 y9_0 y9_1 y9_2 y9_3 (own_dI (own_d M 12)) (M / 62 ^ 13) h12 n0 O E_b2 V_b2 g_b2 hL9 (by rw [own_dIv (own_dB M 12)]; exact (own_dB M 12)) (own_mulB hM1 hM2 12)) hZ (hw _ (own_w 129 rfl)) (hw _ (own_w 5 rfl)) (by decide) (by decide)) (g := (mkF m 98 (own_A15 s1 b2 9 (own_al (own_d M 12)) (own_dI (own_d M 12))) [(.int (own_dI (own_d M 12))), (.int 62), (.ref b2)])) rfl (by rw [hml]; rfl) (argsL := [(.ref b2), (.int 62), (.int (own_dI (own_d M 12)))]) (rest := []) (lenOf own_pd11 rfl) rfl (by show 2 * 0 + _ ≤ _; exact Nat.le_of_eq rfl) (hb hby ep7m2_d98) (fun _ _ => ⟨rfl, eT, (by decide : 3 + 0 ≤ _), (by decide : 24 + 0 ≤ _)⟩)
  dsimp only [Pt.U, Pt.locs, Pt.cells, Pt.slots] at X lq yq zq st hQ
  rw [lq, yq, zq] at X
  obtain ⟨y10_0, y10_1, y10_2, y10_3, rfl, Nq, Kq, V_b2, hL10⟩ := hQ
  replace N := Fr.app N Nq
  obtain ⟨h13, eT⟩ : ∃ z, T.heap = z := ⟨_, rfl⟩
  rw [eT] at Kq V_b2
  have So : ∀ x ∈ [b2], Safe Z own_EL _ h12 x := (allS S_b2 all0)
  replace E_s1 := E_s1.keep Kq
  replace F_value_s1 := F_value_s1.keep Kq (ninS ne_s1_b2 nin0)
  replace F_coder_s1 := F_coder_s1.keep Kq (ninS ne_s1_b2 nin0)
  replace V_va := V_va.keep Kq (ninS ne_va_b2 nin0)
  replace E_b2 := E_b2.keep Kq
  replace O := O.keep Kq (allS g_b2 all0)
  replace K0 := K0.trans Kq (allS (Or.inr sz_b2) all0)
  replace hk := Nat.le_trans hk Kq.1
  replace S_b2 := Safe.keep Kq So H.1 S_b2
  replace H := H.trans (CHr.keep Kq So H.1)
  refine own_via (g' := (mkF m 101 (own_A15 s1 b2 9 (own_al (own_d M 12)) (own_dI (own_d M 12))) [(.long 0)])) st ?_
  rw [own_dIv (own_dB M 12), show M / 62 ^ 13 * 62 + own_d M 12 = M / 62 ^ 12 from own_hor M 12] at hL10
  refine own_via (g' := (mkF m 123 (own_A15 s1 b2 ((9 : Int32) + (1 : Int32)) (own_al (own_d M 12)) (own_dI (own_d M 12))) [])) (fun t_ k_ => XS.lconst X.here hx rfl (hb hby ep7m2_d101) (XS.lcmp X.here hx rfl (hb hby ep7m2_d102) rfl (XS.ifYes X.here hx rfl (pc0 := 103) (pc' := 120) rfl (hb hby ep7m2_d103) rfl ((if0 _ _).trans (teq (own_cmpEq _)).1) (by decide) (by decide) (XS.iinc X.here hx rfl (hb hby ep7m2_d120) rfl (l' := (own_A15 s1 b2 ((9 : Int32) + (1 : Int32)) (own_al (own_d M 12)) (own_dI (own_d M 12)))) rfl k_)))) ?_
  rw [(by decide : ((9 : Int32) + (1 : Int32)) = (10 : Int32))]
  refine own_via (g' := (mkF m 47 (own_A15 s1 b2 10 (own_al (own_d M 12)) (own_dI (own_d M 12))) [(.int 10), (.ref s1)])) (fun t_ k_ => XS.goto X.here hx rfl (pc0 := 123) (pc' := 39) rfl (hb hby ep7m2_d123) (by decide) (by decide) (XS.iloadN X.here hx rfl (hb hby ep7m2_d39) rfl (XS.bipush X.here hx rfl (hb hby ep7m2_d40) (XS.icmpNo X.here hx rfl (hb hby ep7m2_d42) rfl (tlt (by decide : (10 : Int32) < (22 : Int32))).2.1 (XS.aloadN X.here hx rfl (hb hby ep7m2_d45) rfl rfl (XS.iloadN X.here hx rfl (hb hby ep7m2_d46) rfl k_)))))) ?_
  obtain ⟨cq, kq, qa, qb, qc⟩ := isOf hZ eT E_s1
  obtain ⟨_, _, ⟨T, Lq, kq, nq⟩, -, X, ⟨Lc, hQ, lq, yq, zq⟩, st⟩ := X.virtualBack hx (y := own_y7) (z := own_y7) hown (mvT hZ (hw _ (own_w 46 rfl))) (mvT hZ (hw _ (own_w 47 rfl))) (notFace_of_selects (args := #[]) (mvT hZ (hw _ (own_w 49 rfl)))) (mvT hZ (hw _ (own_w 49 rfl))) (mvT hZ (hw _ (own_w 48 rfl))) (by decide) (backOf (W := 0) (own_charAt l Z a0 hw [] s1 (10 : Int32) va kv (22 : Int32) (own_BV M) (own_al (own_d M 11)) zc vS h13 n0 O E_s1 F_value_s1 F_coder_s1 V_va S_C hzc ⟨by decide, by decide⟩ rfl S_S hvS) hZ (hw _ (own_w 50 rfl)) (hw _ (own_w 38 rfl)) (by decide) (by decide)) qa qc (g := (mkF m 47 (own_A15 s1 b2 10 (own_al (own_d M 12)) (own_dI (own_d M 12))) [(.int 10), (.ref s1)])) rfl (by rw [hml]; rfl) (Steps.refl _) (argsL := [(.int 10)]) (rest := []) (lenOf own_pd7 rfl) rfl (by show 2 * 0 + _ ≤ _; exact Nat.le_of_eq rfl) (hb hby ep7m2_d47) (fun _ _ => ⟨rfl, eT, (by decide : 3 + 0 ≤ _), (by decide : 24 + 0 ≤ _)⟩)
  dsimp only [Pt.U, Pt.locs, Pt.cells, Pt.slots] at X lq yq zq st hQ
  rw [lq, yq, zq] at X
  obtain ⟨rfl, Nq, eT⟩ := hQ
  replace N := Fr.app N Nq
  refine own_viaT (g' := (mkF m 50 (own_A15 s1 b2 10 (own_al (own_d M 12)) (own_dI (own_d M 12))) [(.int ((own_al (own_d M 11)) &&& (255 : Int32)))])) st ?_
  rw [own_al255 (own_dB M 11)]
  have ha1 := own_al128 (own_dB M 11)
  have ha2 := own_dI0 (own_dB M 11)
  refine own_via (g' := (mkF m 52 (own_A15 s1 b2 10 (own_al (own_d M 11)) (own_dI (own_d M 12))) [(.int (own_al (own_d M 11)))])) (fun t_ k_ => XS.istoreN X.here hx rfl (hb hby ep7m2_d50) rfl (l' := (own_A15 s1 b2 10 (own_al (own_d M 11)) (own_dI (own_d M 12)))) rfl (XS.iloadN X.here hx rfl (hb hby ep7m2_d51) rfl k_)) ?_
  obtain ⟨T, X, eT, st⟩ := getS2 X hx hZ hown (host := "") (Or.inl (hw _ (own_w 125 rfl))) Via.refl eT (S_D.ext O.2) (g := (mkF m 52 (own_A15 s1 b2 10 (own_al (own_d M 11)) (own_dI (own_d M 12))) [(.int (own_al (own_d M 11)))])) rfl (hb hby ep7m2_d52)
  refine own_via (g' := (mkF m 55 (own_A15 s1 b2 10 (own_al (own_d M 11)) (own_dI (own_d M 12))) [(.ref wDG), (.int (own_al (own_d M 11)))])) st ?_
  have V_wDG := A_dg.ext O.2
  obtain ⟨cl_, Ar_, -, Sz_, Nn_, -, -⟩ := id V_wDG
  refine own_via (g' := (mkF m 56 (own_A15 s1 b2 10 (own_al (own_d M 11)) (own_dI (own_d M 12))) [(.int 128), (.int (own_al (own_d M 11)))])) (fun t_ k_ => X.arraylength hx (by rw [eT]; exact Ar_.1) (State.isArrayOf_alike hZ.alike Ar_.2.1) (g := (mkF m 55 (own_A15 s1 b2 10 (own_al (own_d M 11)) (own_dI (own_d M 12))) [(.ref wDG), (.int (own_al (own_d M 11)))])) rfl rfl (hb hby ep7m2_d55) _ (by rw [len_of Sz_ Nn_]; exact k_)) ?_
  refine own_via (g' := (mkF m 59 (own_A15 s1 b2 10 (own_al (own_d M 11)) (own_dI (own_d M 12))) [])) (fun t_ k_ => XS.icmpNo X.here hx rfl (hb hby ep7m2_d56) rfl (tlt ha1.2).2.1 k_) ?_
  obtain ⟨T, X, eT, st⟩ := getS2 X hx hZ hown (host := "") (Or.inl (hw _ (own_w 125 rfl))) Via.refl eT (S_D.ext O.2) (g := (mkF m 59 (own_A15 s1 b2 10 (own_al (own_d M 11)) (own_dI (own_d M 12))) [])) rfl (hb hby ep7m2_d59)
  refine own_via (g' := (mkF m 62 (own_A15 s1 b2 10 (own_al (own_d M 11)) (own_dI (own_d M 12))) [(.ref wDG)])) st ?_
  refine own_via (g' := (mkF m 63 (own_A15 s1 b2 10 (own_al (own_d M 11)) (own_dI (own_d M 12))) [(.int (own_al (own_d M 11))), (.ref wDG)])) (fun t_ k_ => XS.iloadN X.here hx rfl (hb hby ep7m2_d62) rfl k_) ?_
  have V_wDG := A_dg.ext O.2
  obtain ⟨cl_, Ar_, -, Sz_, Nn_, Hs_, -⟩ := id V_wDG
  have hin_ : ¬ ((own_al (own_d M 11)) < 0 ∨ cl_.slots.size ≤ ((own_al (own_d M 11))).toNatClampNeg) := inb_of Sz_ ha1
  have hat_ : cl_.slots[((own_al (own_d M 11))).toNatClampNeg]? = some (.int (own_dI (own_d M 11))) := Hs_.at hin_ (hdgs _ (own_dB M 11))
  refine own_via (g' := (mkF m 64 (own_A15 s1 b2 10 (own_al (own_d M 11)) (own_dI (own_d M 12))) [(.int (own_dI (own_d M 11)))])) (fun t_ k_ => X.iaload hx (j := (own_al (own_d M 11))) (v := (.int (own_dI (own_d M 11)))) (by rw [eT]; exact Ar_.1) (State.isArrayOf_alike hZ.alike Ar_.2.1) Ar_.2.2 hin_ hat_ (g := (mkF m 63 (own_A15 s1 b2 10 (own_al (own_d M 11)) (own_dI (own_d M 12))) [(.int (own_al (own_d M 11))), (.ref wDG)])) rfl rfl (hb hby ep7m2_d63) _ k_) ?_
  refine own_via (g' := (mkF m 93 (own_A15 s1 b2 10 (own_al (own_d M 11)) (own_dI (own_d M 11))) [(.ref b2)])) (fun t_ k_ => XS.goto X.here hx rfl (pc0 := 64) (pc' := 68) rfl (hb hby ep7m2_d64) (by decide) (by decide) (XS.istore X.here hx rfl (hb hby ep7m2_d68) rfl (l' := (own_A15 s1 b2 10 (own_al (own_d M 11)) (own_dI (own_d M 11)))) rfl (XS.iload X.here hx rfl (hb hby ep7m2_d70) rfl (XS.ifYes X.here hx rfl (pc0 := 72) (pc' := 92) rfl (hb hby ep7m2_d72) rfl ((if0 _ _).trans (flt ha2).2.1) (by decide) (by decide) (XS.aloadN X.here hx rfl (hb hby ep7m2_d92) rfl rfl k_))))) ?_
  obtain ⟨T, X, eT, st⟩ := getS2 X hx hZ hown (host := "") (Or.inl (hw _ (own_w 44 rfl))) Via.refl eT (S_B.ext O.2) (g := (mkF m 93 (own_A15 s1 b2 10 (own_al (own_d M 11)) (own_dI (own_d M 11))) [(.ref b2)])) rfl (hb hby ep7m2_d93)
  refine own_via (g' := (mkF m 96 (own_A15 s1 b2 10 (own_al (own_d M 11)) (own_dI (own_d M 11))) [(.int 62), (.ref b2)])) st ?_
  refine own_via (g' := (mkF m 98 (own_A15 s1 b2 10 (own_al (own_d M 11)) (own_dI (own_d M 11))) [(.int (own_dI (own_d M 11))), (.int 62), (.ref b2)])) (fun t_ k_ => XS.iload X.here hx rfl (hb hby ep7m2_d96) rfl k_) ?_
  obtain ⟨_, _, ⟨T, Lq, kq, nq⟩, -, X, ⟨Lc, hQ, lq, yq, zq⟩, st⟩ := Jvm.LawKit.callS X hx (y := own_y11) hown (mvT hZ (hw _ (own_w 127 rfl))) (mvT hZ (hw _ (own_w 128 rfl))) (mvT hZ (hw _ (own_w 5 rfl))) (mvT hZ (hw _ (own_w 129 rfl))) (by decide) (backOf (W := 0) (own_mulAdd l Z a0 hw [] b2 kb2 y10_0 y10_1 y10_2 y10_3 (own_dI (own_d M 11)) (M / 62 ^ 12) h13 n0 O E_b2 V_b2 g_b2 hL10 (by rw [own_dIv (own_dB M 11)]; exact (own_dB M 11)) (own_mulB hM1 hM2 11)) hZ (hw _ (own_w 129 rfl)) (hw _ (own_w 5 rfl)) (by decide) (by decide)) (g := (mkF m 98 (own_A15 s1 b2 10 (own_al (own_d M 11)) (own_dI (own_d M 11))) [(.int (own_dI (own_d M 11))), (.int 62), (.ref b2)])) rfl (by rw [hml]; rfl) (argsL := [(.ref b2), (.int 62), (.int (own_dI (own_d M 11)))]) (rest := []) (lenOf own_pd11 rfl) rfl (by show 2 * 0 + _ ≤ _; exact Nat.le_of_eq rfl) (hb hby ep7m2_d98) (fun _ _ => ⟨rfl, eT, (by decide : 3 + 0 ≤ _), (by decide : 24 + 0 ≤ _)⟩)
  dsimp only [Pt.U, Pt.locs, Pt.cells, Pt.slots] at X lq yq zq st hQ
  rw [lq, yq, zq] at X
  obtain ⟨y11_0, y11_1, y11_2, y11_3, rfl, Nq, Kq, V_b2, hL11⟩ := hQ
  replace N := Fr.app N Nq
  obtain ⟨h14, eT⟩ : ∃ z, T.heap = z := ⟨_, rfl⟩
  rw [eT] at Kq V_b2
  have So : ∀ x ∈ [b2], Safe Z own_EL _ h13 x := (allS S_b2 all0)
  replace E_s1 := E_s1.keep Kq
  replace F_value_s1 := F_value_s1.keep Kq (ninS ne_s1_b2 nin0)
  replace F_coder_s1 := F_coder_s1.keep Kq (ninS ne_s1_b2 nin0)
  replace V_va := V_va.keep Kq (ninS ne_va_b2 nin0)
  replace E_b2 := E_b2.keep Kq
  replace O := O.keep Kq (allS g_b2 all0)
  replace K0 := K0.trans Kq (allS (Or.inr sz_b2) all0)
  replace hk := Nat.le_trans hk Kq.1
  replace S_b2 := Safe.keep Kq So H.1 S_b2
  replace H := H.trans (CHr.keep Kq So H.1)
  refine own_via (g' := (mkF m 101 (own_A15 s1 b2 10 (own_al (own_d M 11)) (own_dI (own_d M 11))) [(.long 0)])) st ?_
  rw [own_dIv (own_dB M 11), show M / 62 ^ 12 * 62 + own_d M 11 = M / 62 ^ 11 from own_hor M 11] at hL11
  refine own_via (g' := (mkF m 123 (own_A15 s1 b2 ((10 : Int32) + (1 : Int32)) (own_al (own_d M 11)) (own_dI (own_d M 11))) [])) (fun t_ k_ => XS.lconst X.here hx rfl (hb hby ep7m2_d101) (XS.lcmp X.here hx rfl (hb hby ep7m2_d102) rfl (XS.ifYes X.here hx rfl (pc0 := 103) (pc' := 120) rfl (hb hby ep7m2_d103) rfl ((if0 _ _).trans (teq (own_cmpEq _)).1) (by decide) (by decide) (XS.iinc X.here hx rfl (hb hby ep7m2_d120) rfl (l' := (own_A15 s1 b2 ((10 : Int32) + (1 : Int32)) (own_al (own_d M 11)) (own_dI (own_d M 11)))) rfl k_)))) ?_
  rw [(by decide : ((10 : Int32) + (1 : Int32)) = (11 : Int32))]
  refine own_via (g' := (mkF m 47 (own_A15 s1 b2 11 (own_al (own_d M 11)) (own_dI (own_d M 11))) [(.int 11), (.ref s1)])) (fun t_ k_ => XS.goto X.here hx rfl (pc0 := 123) (pc' := 39) rfl (hb hby ep7m2_d123) (by decide) (by decide) (XS.iloadN X.here hx rfl (hb hby ep7m2_d39) rfl (XS.bipush X.here hx rfl (hb hby ep7m2_d40) (XS.icmpNo X.here hx rfl (hb hby ep7m2_d42) rfl (tlt (by decide : (11 : Int32) < (22 : Int32))).2.1 (XS.aloadN X.here hx rfl (hb hby ep7m2_d45) rfl rfl (XS.iloadN X.here hx rfl (hb hby ep7m2_d46) rfl k_)))))) ?_
  obtain ⟨cq, kq, qa, qb, qc⟩ := isOf hZ eT E_s1
  obtain ⟨_, _, ⟨T, Lq, kq, nq⟩, -, X, ⟨Lc, hQ, lq, yq, zq⟩, st⟩ := X.virtualBack hx (y := own_y7) (z := own_y7) hown (mvT hZ (hw _ (own_w 46 rfl))) (mvT hZ (hw _ (own_w 47 rfl))) (notFace_of_selects (args := #[]) (mvT hZ (hw _ (own_w 49 rfl)))) (mvT hZ (hw _ (own_w 49 rfl))) (mvT hZ (hw _ (own_w 48 rfl))) (by decide) (backOf (W := 0) (own_charAt l Z a0 hw [] s1 (11 : Int32) va kv (22 : Int32) (own_BV M) (own_al (own_d M 10)) zc vS h14 n0 O E_s1 F_value_s1 F_coder_s1 V_va S_C hzc ⟨by decide, by decide⟩ rfl S_S hvS) hZ (hw _ (own_w 50 rfl)) (hw _ (own_w 38 rfl)) (by decide) (by decide)) qa qc (g := (mkF m 47 (own_A15 s1 b2 11 (own_al (own_d M 11)) (own_dI (own_d M 11))) [(.int 11), (.ref s1)])) rfl (by rw [hml]; rfl) (Steps.refl _) (argsL := [(.int 11)]) (rest := []) (lenOf own_pd7 rfl) rfl (by show 2 * 0 + _ ≤ _; exact Nat.le_of_eq rfl) (hb hby ep7m2_d47) (fun _ _ => ⟨rfl, eT, (by decide : 3 + 0 ≤ _), (by decide : 24 + 0 ≤ _)⟩)
  dsimp only [Pt.U, Pt.locs, Pt.cells, Pt.slots] at X lq yq zq st hQ
  rw [lq, yq, zq] at X
  obtain ⟨rfl, Nq, eT⟩ := hQ
  replace N := Fr.app N Nq
  refine own_viaT (g' := (mkF m 50 (own_A15 s1 b2 11 (own_al (own_d M 11)) (own_dI (own_d M 11))) [(.int ((own_al (own_d M 10)) &&& (255 : Int32)))])) st ?_
  rw [own_al255 (own_dB M 10)]
  have ha1 := own_al128 (own_dB M 10)
  have ha2 := own_dI0 (own_dB M 10)
  refine own_via (g' := (mkF m 52 (own_A15 s1 b2 11 (own_al (own_d M 10)) (own_dI (own_d M 11))) [(.int (own_al (own_d M 10)))])) (fun t_ k_ => XS.istoreN X.here hx rfl (hb hby ep7m2_d50) rfl (l' := (own_A15 s1 b2 11 (own_al (own_d M 10)) (own_dI (own_d M 11)))) rfl (XS.iloadN X.here hx rfl (hb hby ep7m2_d51) rfl k_)) ?_
  obtain ⟨T, X, eT, st⟩ := getS2 X hx hZ hown (host := "") (Or.inl (hw _ (own_w 125 rfl))) Via.refl eT (S_D.ext O.2) (g := (mkF m 52 (own_A15 s1 b2 11 (own_al (own_d M 10)) (own_dI (own_d M 11))) [(.int (own_al (own_d M 10)))])) rfl (hb hby ep7m2_d52)
  refine own_via (g' := (mkF m 55 (own_A15 s1 b2 11 (own_al (own_d M 10)) (own_dI (own_d M 11))) [(.ref wDG), (.int (own_al (own_d M 10)))])) st ?_
  have V_wDG := A_dg.ext O.2
  obtain ⟨cl_, Ar_, -, Sz_, Nn_, -, -⟩ := id V_wDG
  refine own_via (g' := (mkF m 56 (own_A15 s1 b2 11 (own_al (own_d M 10)) (own_dI (own_d M 11))) [(.int 128), (.int (own_al (own_d M 10)))])) (fun t_ k_ => X.arraylength hx (by rw [eT]; exact Ar_.1) (State.isArrayOf_alike hZ.alike Ar_.2.1) (g := (mkF m 55 (own_A15 s1 b2 11 (own_al (own_d M 10)) (own_dI (own_d M 11))) [(.ref wDG), (.int (own_al (own_d M 10)))])) rfl rfl (hb hby ep7m2_d55) _ (by rw [len_of Sz_ Nn_]; exact k_)) ?_
  refine own_via (g' := (mkF m 59 (own_A15 s1 b2 11 (own_al (own_d M 10)) (own_dI (own_d M 11))) [])) (fun t_ k_ => XS.icmpNo X.here hx rfl (hb hby ep7m2_d56) rfl (tlt ha1.2).2.1 k_) ?_
  obtain ⟨T, X, eT, st⟩ := getS2 X hx hZ hown (host := "") (Or.inl (hw _ (own_w 125 rfl))) Via.refl eT (S_D.ext O.2) (g := (mkF m 59 (own_A15 s1 b2 11 (own_al (own_d M 10)) (own_dI (own_d M 11))) [])) rfl (hb hby ep7m2_d59)
  refine own_via (g' := (mkF m 62 (own_A15 s1 b2 11 (own_al (own_d M 10)) (own_dI (own_d M 11))) [(.ref wDG)])) st ?_
  refine own_via (g' := (mkF m 63 (own_A15 s1 b2 11 (own_al (own_d M 10)) (own_dI (own_d M 11))) [(.int (own_al (own_d M 10))), (.ref wDG)])) (fun t_ k_ => XS.iloadN X.here hx rfl (hb hby ep7m2_d62) rfl k_) ?_
  have V_wDG := A_dg.ext O.2
  obtain ⟨cl_, Ar_, -, Sz_, Nn_, Hs_, -⟩ := id V_wDG
  have hin_ : ¬ ((own_al (own_d M 10)) < 0 ∨ cl_.slots.size ≤ ((own_al (own_d M 10))).toNatClampNeg) := inb_of Sz_ ha1
  have hat_ : cl_.slots[((own_al (own_d M 10))).toNatClampNeg]? = some (.int (own_dI (own_d M 10))) := Hs_.at hin_ (hdgs _ (own_dB M 10))
  refine own_via (g' := (mkF m 64 (own_A15 s1 b2 11 (own_al (own_d M 10)) (own_dI (own_d M 11))) [(.int (own_dI (own_d M 10)))])) (fun t_ k_ => X.iaload hx (j := (own_al (own_d M 10))) (v := (.int (own_dI (own_d M 10)))) (by rw [eT]; exact Ar_.1) (State.isArrayOf_alike hZ.alike Ar_.2.1) Ar_.2.2 hin_ hat_ (g := (mkF m 63 (own_A15 s1 b2 11 (own_al (own_d M 10)) (own_dI (own_d M 11))) [(.int (own_al (own_d M 10))), (.ref wDG)])) rfl rfl (hb hby ep7m2_d63) _ k_) ?_
  refine own_via (g' := (mkF m 93 (own_A15 s1 b2 11 (own_al (own_d M 10)) (own_dI (own_d M 10))) [(.ref b2)])) (fun t_ k_ => XS.goto X.here hx rfl (pc0 := 64) (pc' := 68) rfl (hb hby ep7m2_d64) (by decide) (by decide) (XS.istore X.here hx rfl (hb hby ep7m2_d68) rfl (l' := (own_A15 s1 b2 11 (own_al (own_d M 10)) (own_dI (own_d M 10)))) rfl (XS.iload X.here hx rfl (hb hby ep7m2_d70) rfl (XS.ifYes X.here hx rfl (pc0 := 72) (pc' := 92) rfl (hb hby ep7m2_d72) rfl ((if0 _ _).trans (flt ha2).2.1) (by decide) (by decide) (XS.aloadN X.here hx rfl (hb hby ep7m2_d92) rfl rfl k_))))) ?_
  obtain ⟨T, X, eT, st⟩ := getS2 X hx hZ hown (host := "") (Or.inl (hw _ (own_w 44 rfl))) Via.refl eT (S_B.ext O.2) (g := (mkF m 93 (own_A15 s1 b2 11 (own_al (own_d M 10)) (own_dI (own_d M 10))) [(.ref b2)])) rfl (hb hby ep7m2_d93)
  refine own_via (g' := (mkF m 96 (own_A15 s1 b2 11 (own_al (own_d M 10)) (own_dI (own_d M 10))) [(.int 62), (.ref b2)])) st ?_
  refine own_via (g' := (mkF m 98 (own_A15 s1 b2 11 (own_al (own_d M 10)) (own_dI (own_d M 10))) [(.int (own_dI (own_d M 10))), (.int 62), (.ref b2)])) (fun t_ k_ => XS.iload X.here hx rfl (hb hby ep7m2_d96) rfl k_) ?_
  obtain ⟨_, _, ⟨T, Lq, kq, nq⟩, -, X, ⟨Lc, hQ, lq, yq, zq⟩, st⟩ := Jvm.LawKit.callS X hx (y := own_y11) hown (mvT hZ (hw _ (own_w 127 rfl))) (mvT hZ (hw _ (own_w 128 rfl))) (mvT hZ (hw _ (own_w 5 rfl))) (mvT hZ (hw _ (own_w 129 rfl))) (by decide) (backOf (W := 0) (own_mulAdd l Z a0 hw [] b2 kb2 y11_0 y11_1 y11_2 y11_3 (own_dI (own_d M 10)) (M / 62 ^ 11) h14 n0 O E_b2 V_b2 g_b2 hL11 (by rw [own_dIv (own_dB M 10)]; exact (own_dB M 10)) (own_mulB hM1 hM2 10)) hZ (hw _ (own_w 129 rfl)) (hw _ (own_w 5 rfl)) (by decide) (by decide)) (g := (mkF m 98 (own_A15 s1 b2 11 (own_al (own_d M 10)) (own_dI (own_d M 10))) [(.int (own_dI (own_d M 10))), (.int 62), (.ref b2)])) rfl (by rw [hml]; rfl) (argsL := [(.ref b2), (.int 62), (.int (own_dI (own_d M 10)))]) (rest := []) (lenOf own_pd11 rfl) rfl (by show 2 * 0 + _ ≤ _; exact Nat.le_of_eq rfl) (hb hby ep7m2_d98) (fun _ _ => ⟨rfl, eT, (by decide : 3 + 0 ≤ _), (by decide : 24 + 0 ≤ _)⟩)
  dsimp only [Pt.U, Pt.locs, Pt.cells, Pt.slots] at X lq yq zq st hQ
  rw [lq, yq, zq] at X
  obtain ⟨y12_0, y12_1, y12_2, y12_3, rfl, Nq, Kq, V_b2, hL12⟩ := hQ
  replace N := Fr.app N Nq
  obtain ⟨h15, eT⟩ : ∃ z, T.heap = z := ⟨_, rfl⟩
  rw [eT] at Kq V_b2
  have So : ∀ x ∈ [b2], Safe Z own_EL _ h14 x := (allS S_b2 all0)
  replace E_s1 := E_s1.keep Kq
  replace F_value_s1 := F_value_s1.keep Kq (ninS ne_s1_b2 nin0)
  replace F_coder_s1 := F_coder_s1.keep Kq (ninS ne_s1_b2 nin0)
  replace V_va := V_va.keep Kq (ninS ne_va_b2 nin0)
  replace E_b2 := E_b2.keep Kq
  replace O := O.keep Kq (allS g_b2 all0)
  replace K0 := K0.trans Kq (allS (Or.inr sz_b2) all0)
  replace hk := Nat.le_trans hk Kq.1
  replace S_b2 := Safe.keep Kq So H.1 S_b2
  replace H := H.trans (CHr.keep Kq So H.1)
  refine own_via (g' := (mkF m 101 (own_A15 s1 b2 11 (own_al (own_d M 10)) (own_dI (own_d M 10))) [(.long 0)])) st ?_
  rw [own_dIv (own_dB M 10), show M / 62 ^ 11 * 62 + own_d M 10 = M / 62 ^ 10 from own_hor M 10] at hL12
  refine own_via (g' := (mkF m 123 (own_A15 s1 b2 ((11 : Int32) + (1 : Int32)) (own_al (own_d M 10)) (own_dI (own_d M 10))) [])) (fun t_ k_ => XS.lconst X.here hx rfl (hb hby ep7m2_d101) (XS.lcmp X.here hx rfl (hb hby ep7m2_d102) rfl (XS.ifYes X.here hx rfl (pc0 := 103) (pc' := 120) rfl (hb hby ep7m2_d103) rfl ((if0 _ _).trans (teq (own_cmpEq _)).1) (by decide) (by decide) (XS.iinc X.here hx rfl (hb hby ep7m2_d120) rfl (l' := (own_A15 s1 b2 ((11 : Int32) + (1 : Int32)) (own_al (own_d M 10)) (own_dI (own_d M 10)))) rfl k_)))) ?_
  rw [(by decide : ((11 : Int32) + (1 : Int32)) = (12 : Int32))]
  refine own_via (g' := (mkF m 47 (own_A15 s1 b2 12 (own_al (own_d M 10)) (own_dI (own_d M 10))) [(.int 12), (.ref s1)])) (fun t_ k_ => XS.goto X.here hx rfl (pc0 := 123) (pc' := 39) rfl (hb hby ep7m2_d123) (by decide) (by decide) (XS.iloadN X.here hx rfl (hb hby ep7m2_d39) rfl (XS.bipush X.here hx rfl (hb hby ep7m2_d40) (XS.icmpNo X.here hx rfl (hb hby ep7m2_d42) rfl (tlt (by decide : (12 : Int32) < (22 : Int32))).2.1 (XS.aloadN X.here hx rfl (hb hby ep7m2_d45) rfl rfl (XS.iloadN X.here hx rfl (hb hby ep7m2_d46) rfl k_)))))) ?_
  obtain ⟨cq, kq, qa, qb, qc⟩ := isOf hZ eT E_s1
  obtain ⟨_, _, ⟨T, Lq, kq, nq⟩, -, X, ⟨Lc, hQ, lq, yq, zq⟩, st⟩ := X.virtualBack hx (y := own_y7) (z := own_y7) hown (mvT hZ (hw _ (own_w 46 rfl))) (mvT hZ (hw _ (own_w 47 rfl))) (notFace_of_selects (args := #[]) (mvT hZ (hw _ (own_w 49 rfl)))) (mvT hZ (hw _ (own_w 49 rfl))) (mvT hZ (hw _ (own_w 48 rfl))) (by decide) (backOf (W := 0) (own_charAt l Z a0 hw [] s1 (12 : Int32) va kv (22 : Int32) (own_BV M) (own_al (own_d M 9)) zc vS h15 n0 O E_s1 F_value_s1 F_coder_s1 V_va S_C hzc ⟨by decide, by decide⟩ rfl S_S hvS) hZ (hw _ (own_w 50 rfl)) (hw _ (own_w 38 rfl)) (by decide) (by decide)) qa qc (g := (mkF m 47 (own_A15 s1 b2 12 (own_al (own_d M 10)) (own_dI (own_d M 10))) [(.int 12), (.ref s1)])) rfl (by rw [hml]; rfl) (Steps.refl _) (argsL := [(.int 12)]) (rest := []) (lenOf own_pd7 rfl) rfl (by show 2 * 0 + _ ≤ _; exact Nat.le_of_eq rfl) (hb hby ep7m2_d47) (fun _ _ => ⟨rfl, eT, (by decide : 3 + 0 ≤ _), (by decide : 24 + 0 ≤ _)⟩)
  dsimp only [Pt.U, Pt.locs, Pt.cells, Pt.slots] at X lq yq zq st hQ
  rw [lq, yq, zq] at X
  obtain ⟨rfl, Nq, eT⟩ := hQ
  replace N := Fr.app N Nq
  refine own_viaT (g' := (mkF m 50 (own_A15 s1 b2 12 (own_al (own_d M 10)) (own_dI (own_d M 10))) [(.int ((own_al (own_d M 9)) &&& (255 : Int32)))])) st ?_
  rw [own_al255 (own_dB M 9)]
  have ha1 := own_al128 (own_dB M 9)
  have ha2 := own_dI0 (own_dB M 9)
  refine own_via (g' := (mkF m 52 (own_A15 s1 b2 12 (own_al (own_d M 9)) (own_dI (own_d M 10))) [(.int (own_al (own_d M 9)))])) (fun t_ k_ => XS.istoreN X.here hx rfl (hb hby ep7m2_d50) rfl (l' := (own_A15 s1 b2 12 (own_al (own_d M 9)) (own_dI (own_d M 10)))) rfl (XS.iloadN X.here hx rfl (hb hby ep7m2_d51) rfl k_)) ?_
  obtain ⟨T, X, eT, st⟩ := getS2 X hx hZ hown (host := "") (Or.inl (hw _ (own_w 125 rfl))) Via.refl eT (S_D.ext O.2) (g := (mkF m 52 (own_A15 s1 b2 12 (own_al (own_d M 9)) (own_dI (own_d M 10))) [(.int (own_al (own_d M 9)))])) rfl (hb hby ep7m2_d52)
  refine own_via (g' := (mkF m 55 (own_A15 s1 b2 12 (own_al (own_d M 9)) (own_dI (own_d M 10))) [(.ref wDG), (.int (own_al (own_d M 9)))])) st ?_
  have V_wDG := A_dg.ext O.2
  obtain ⟨cl_, Ar_, -, Sz_, Nn_, -, -⟩ := id V_wDG
  refine own_via (g' := (mkF m 56 (own_A15 s1 b2 12 (own_al (own_d M 9)) (own_dI (own_d M 10))) [(.int 128), (.int (own_al (own_d M 9)))])) (fun t_ k_ => X.arraylength hx (by rw [eT]; exact Ar_.1) (State.isArrayOf_alike hZ.alike Ar_.2.1) (g := (mkF m 55 (own_A15 s1 b2 12 (own_al (own_d M 9)) (own_dI (own_d M 10))) [(.ref wDG), (.int (own_al (own_d M 9)))])) rfl rfl (hb hby ep7m2_d55) _ (by rw [len_of Sz_ Nn_]; exact k_)) ?_
  refine own_via (g' := (mkF m 59 (own_A15 s1 b2 12 (own_al (own_d M 9)) (own_dI (own_d M 10))) [])) (fun t_ k_ => XS.icmpNo X.here hx rfl (hb hby ep7m2_d56) rfl (tlt ha1.2).2.1 k_) ?_
  obtain ⟨T, X, eT, st⟩ := getS2 X hx hZ hown (host := "") (Or.inl (hw _ (own_w 125 rfl))) Via.refl eT (S_D.ext O.2) (g := (mkF m 59 (own_A15 s1 b2 12 (own_al (own_d M 9)) (own_dI (own_d M 10))) [])) rfl (hb hby ep7m2_d59)
  refine own_via (g' := (mkF m 62 (own_A15 s1 b2 12 (own_al (own_d M 9)) (own_dI (own_d M 10))) [(.ref wDG)])) st ?_
  refine own_via (g' := (mkF m 63 (own_A15 s1 b2 12 (own_al (own_d M 9)) (own_dI (own_d M 10))) [(.int (own_al (own_d M 9))), (.ref wDG)])) (fun t_ k_ => XS.iloadN X.here hx rfl (hb hby ep7m2_d62) rfl k_) ?_
  have V_wDG := A_dg.ext O.2
  obtain ⟨cl_, Ar_, -, Sz_, Nn_, Hs_, -⟩ := id V_wDG
  have hin_ : ¬ ((own_al (own_d M 9)) < 0 ∨ cl_.slots.size ≤ ((own_al (own_d M 9))).toNatClampNeg) := inb_of Sz_ ha1
  have hat_ : cl_.slots[((own_al (own_d M 9))).toNatClampNeg]? = some (.int (own_dI (own_d M 9))) := Hs_.at hin_ (hdgs _ (own_dB M 9))
  refine own_via (g' := (mkF m 64 (own_A15 s1 b2 12 (own_al (own_d M 9)) (own_dI (own_d M 10))) [(.int (own_dI (own_d M 9)))])) (fun t_ k_ => X.iaload hx (j := (own_al (own_d M 9))) (v := (.int (own_dI (own_d M 9)))) (by rw [eT]; exact Ar_.1) (State.isArrayOf_alike hZ.alike Ar_.2.1) Ar_.2.2 hin_ hat_ (g := (mkF m 63 (own_A15 s1 b2 12 (own_al (own_d M 9)) (own_dI (own_d M 10))) [(.int (own_al (own_d M 9))), (.ref wDG)])) rfl rfl (hb hby ep7m2_d63) _ k_) ?_
  refine own_via (g' := (mkF m 93 (own_A15 s1 b2 12 (own_al (own_d M 9)) (own_dI (own_d M 9))) [(.ref b2)])) (fun t_ k_ => XS.goto X.here hx rfl (pc0 := 64) (pc' := 68) rfl (hb hby ep7m2_d64) (by decide) (by decide) (XS.istore X.here hx rfl (hb hby ep7m2_d68) rfl (l' := (own_A15 s1 b2 12 (own_al (own_d M 9)) (own_dI (own_d M 9)))) rfl (XS.iload X.here hx rfl (hb hby ep7m2_d70) rfl (XS.ifYes X.here hx rfl (pc0 := 72) (pc' := 92) rfl (hb hby ep7m2_d72) rfl ((if0 _ _).trans (flt ha2).2.1) (by decide) (by decide) (XS.aloadN X.here hx rfl (hb hby ep7m2_d92) rfl rfl k_))))) ?_
  obtain ⟨T, X, eT, st⟩ := getS2 X hx hZ hown (host := "") (Or.inl (hw _ (own_w 44 rfl))) Via.refl eT (S_B.ext O.2) (g := (mkF m 93 (own_A15 s1 b2 12 (own_al (own_d M 9)) (own_dI (own_d M 9))) [(.ref b2)])) rfl (hb hby ep7m2_d93)
  refine own_via (g' := (mkF m 96 (own_A15 s1 b2 12 (own_al (own_d M 9)) (own_dI (own_d M 9))) [(.int 62), (.ref b2)])) st ?_
  refine own_via (g' := (mkF m 98 (own_A15 s1 b2 12 (own_al (own_d M 9)) (own_dI (own_d M 9))) [(.int (own_dI (own_d M 9))), (.int 62), (.ref b2)])) (fun t_ k_ => XS.iload X.here hx rfl (hb hby ep7m2_d96) rfl k_) ?_
  obtain ⟨_, _, ⟨T, Lq, kq, nq⟩, -, X, ⟨Lc, hQ, lq, yq, zq⟩, st⟩ := Jvm.LawKit.callS X hx (y := own_y11) hown (mvT hZ (hw _ (own_w 127 rfl))) (mvT hZ (hw _ (own_w 128 rfl))) (mvT hZ (hw _ (own_w 5 rfl))) (mvT hZ (hw _ (own_w 129 rfl))) (by decide) (backOf (W := 0) (own_mulAdd l Z a0 hw [] b2 kb2 y12_0 y12_1 y12_2 y12_3 (own_dI (own_d M 9)) (M / 62 ^ 10) h15 n0 O E_b2 V_b2 g_b2 hL12 (by rw [own_dIv (own_dB M 9)]; exact (own_dB M 9)) (own_mulB hM1 hM2 9)) hZ (hw _ (own_w 129 rfl)) (hw _ (own_w 5 rfl)) (by decide) (by decide)) (g := (mkF m 98 (own_A15 s1 b2 12 (own_al (own_d M 9)) (own_dI (own_d M 9))) [(.int (own_dI (own_d M 9))), (.int 62), (.ref b2)])) rfl (by rw [hml]; rfl) (argsL := [(.ref b2), (.int 62), (.int (own_dI (own_d M 9)))]) (rest := []) (lenOf own_pd11 rfl) rfl (by show 2 * 0 + _ ≤ _; exact Nat.le_of_eq rfl) (hb hby ep7m2_d98) (fun _ _ => ⟨rfl, eT, (by decide : 3 + 0 ≤ _), (by decide : 24 + 0 ≤ _)⟩)
  dsimp only [Pt.U, Pt.locs, Pt.cells, Pt.slots] at X lq yq zq st hQ
  rw [lq, yq, zq] at X
  obtain ⟨y13_0, y13_1, y13_2, y13_3, rfl, Nq, Kq, V_b2, hL13⟩ := hQ
  replace N := Fr.app N Nq
  obtain ⟨h16, eT⟩ : ∃ z, T.heap = z := ⟨_, rfl⟩
  rw [eT] at Kq V_b2
  have So : ∀ x ∈ [b2], Safe Z own_EL _ h15 x := (allS S_b2 all0)
  replace E_s1 := E_s1.keep Kq
  replace F_value_s1 := F_value_s1.keep Kq (ninS ne_s1_b2 nin0)
  replace F_coder_s1 := F_coder_s1.keep Kq (ninS ne_s1_b2 nin0)
  replace V_va := V_va.keep Kq (ninS ne_va_b2 nin0)
  replace E_b2 := E_b2.keep Kq
  replace O := O.keep Kq (allS g_b2 all0)
  replace K0 := K0.trans Kq (allS (Or.inr sz_b2) all0)
  replace hk := Nat.le_trans hk Kq.1
  replace S_b2 := Safe.keep Kq So H.1 S_b2
  replace H := H.trans (CHr.keep Kq So H.1)
  refine own_via (g' := (mkF m 101 (own_A15 s1 b2 12 (own_al (own_d M 9)) (own_dI (own_d M 9))) [(.long 0)])) st ?_
  rw [own_dIv (own_dB M 9), show M / 62 ^ 10 * 62 + own_d M 9 = M / 62 ^ 9 from own_hor M 9] at hL13
  refine own_via (g' := (mkF m 123 (own_A15 s1 b2 ((12 : Int32) + (1 : Int32)) (own_al (own_d M 9)) (own_dI (own_d M 9))) [])) (fun t_ k_ => XS.lconst X.here hx rfl (hb hby ep7m2_d101) (XS.lcmp X.here hx rfl (hb hby ep7m2_d102) rfl (XS.ifYes X.here hx rfl (pc0 := 103) (pc' := 120) rfl (hb hby ep7m2_d103) rfl ((if0 _ _).trans (teq (own_cmpEq _)).1) (by decide) (by decide) (XS.iinc X.here hx rfl (hb hby ep7m2_d120) rfl (l' := (own_A15 s1 b2 ((12 : Int32) + (1 : Int32)) (own_al (own_d M 9)) (own_dI (own_d M 9)))) rfl k_)))) ?_
  rw [(by decide : ((12 : Int32) + (1 : Int32)) = (13 : Int32))]
  refine own_via (g' := (mkF m 47 (own_A15 s1 b2 13 (own_al (own_d M 9)) (own_dI (own_d M 9))) [(.int 13), (.ref s1)])) (fun t_ k_ => XS.goto X.here hx rfl (pc0 := 123) (pc' := 39) rfl (hb hby ep7m2_d123) (by decide) (by decide) (XS.iloadN X.here hx rfl (hb hby ep7m2_d39) rfl (XS.bipush X.here hx rfl (hb hby ep7m2_d40) (XS.icmpNo X.here hx rfl (hb hby ep7m2_d42) rfl (tlt (by decide : (13 : Int32) < (22 : Int32))).2.1 (XS.aloadN X.here hx rfl (hb hby ep7m2_d45) rfl rfl (XS.iloadN X.here hx rfl (hb hby ep7m2_d46) rfl k_)))))) ?_
  obtain ⟨cq, kq, qa, qb, qc⟩ := isOf hZ eT E_s1
  obtain ⟨_, _, ⟨T, Lq, kq, nq⟩, -, X, ⟨Lc, hQ, lq, yq, zq⟩, st⟩ := X.virtualBack hx (y := own_y7) (z := own_y7) hown (mvT hZ (hw _ (own_w 46 rfl))) (mvT hZ (hw _ (own_w 47 rfl))) (notFace_of_selects (args := #[]) (mvT hZ (hw _ (own_w 49 rfl)))) (mvT hZ (hw _ (own_w 49 rfl))) (mvT hZ (hw _ (own_w 48 rfl))) (by decide) (backOf (W := 0) (own_charAt l Z a0 hw [] s1 (13 : Int32) va kv (22 : Int32) (own_BV M) (own_al (own_d M 8)) zc vS h16 n0 O E_s1 F_value_s1 F_coder_s1 V_va S_C hzc ⟨by decide, by decide⟩ rfl S_S hvS) hZ (hw _ (own_w 50 rfl)) (hw _ (own_w 38 rfl)) (by decide) (by decide)) qa qc (g := (mkF m 47 (own_A15 s1 b2 13 (own_al (own_d M 9)) (own_dI (own_d M 9))) [(.int 13), (.ref s1)])) rfl (by rw [hml]; rfl) (Steps.refl _) (argsL := [(.int 13)]) (rest := []) (lenOf own_pd7 rfl) rfl (by show 2 * 0 + _ ≤ _; exact Nat.le_of_eq rfl) (hb hby ep7m2_d47) (fun _ _ => ⟨rfl, eT, (by decide : 3 + 0 ≤ _), (by decide : 24 + 0 ≤ _)⟩)
  dsimp only [Pt.U, Pt.locs, Pt.cells, Pt.slots] at X lq yq zq st hQ
  rw [lq, yq, zq] at X
  obtain ⟨rfl, Nq, eT⟩ := hQ
  replace N := Fr.app N Nq
  refine own_viaT (g' := (mkF m 50 (own_A15 s1 b2 13 (own_al (own_d M 9)) (own_dI (own_d M 9))) [(.int ((own_al (own_d M 8)) &&& (255 : Int32)))])) st ?_
  rw [own_al255 (own_dB M 8)]
  have ha1 := own_al128 (own_dB M 8)
  have ha2 := own_dI0 (own_dB M 8)
  refine own_via (g' := (mkF m 52 (own_A15 s1 b2 13 (own_al (own_d M 8)) (own_dI (own_d M 9))) [(.int (own_al (own_d M 8)))])) (fun t_ k_ => XS.istoreN X.here hx rfl (hb hby ep7m2_d50) rfl (l' := (own_A15 s1 b2 13 (own_al (own_d M 8)) (own_dI (own_d M 9)))) rfl (XS.iloadN X.here hx rfl (hb hby ep7m2_d51) rfl k_)) ?_
  obtain ⟨T, X, eT, st⟩ := getS2 X hx hZ hown (host := "") (Or.inl (hw _ (own_w 125 rfl))) Via.refl eT (S_D.ext O.2) (g := (mkF m 52 (own_A15 s1 b2 13 (own_al (own_d M 8)) (own_dI (own_d M 9))) [(.int (own_al (own_d M 8)))])) rfl (hb hby ep7m2_d52)
  refine own_via (g' := (mkF m 55 (own_A15 s1 b2 13 (own_al (own_d M 8)) (own_dI (own_d M 9))) [(.ref wDG), (.int (own_al (own_d M 8)))])) st ?_
  have V_wDG := A_dg.ext O.2
  obtain ⟨cl_, Ar_, -, Sz_, Nn_, -, -⟩ := id V_wDG
  refine own_via (g' := (mkF m 56 (own_A15 s1 b2 13 (own_al (own_d M 8)) (own_dI (own_d M 9))) [(.int 128), (.int (own_al (own_d M 8)))])) (fun t_ k_ => X.arraylength hx (by rw [eT]; exact Ar_.1) (State.isArrayOf_alike hZ.alike Ar_.2.1) (g := (mkF m 55 (own_A15 s1 b2 13 (own_al (own_d M 8)) (own_dI (own_d M 9))) [(.ref wDG), (.int (own_al (own_d M 8)))])) rfl rfl (hb hby ep7m2_d55) _ (by rw [len_of Sz_ Nn_]; exact k_)) ?_
  refine own_via (g' := (mkF m 59 (own_A15 s1 b2 13 (own_al (own_d M 8)) (own_dI (own_d M 9))) [])) (fun t_ k_ => XS.icmpNo X.here hx rfl (hb hby ep7m2_d56) rfl (tlt ha1.2).2.1 k_) ?_
  obtain ⟨T, X, eT, st⟩ := getS2 X hx hZ hown (host := "") (Or.inl (hw _ (own_w 125 rfl))) Via.refl eT (S_D.ext O.2) (g := (mkF m 59 (own_A15 s1 b2 13 (own_al (own_d M 8)) (own_dI (own_d M 9))) [])) rfl (hb hby ep7m2_d59)
  refine own_via (g' := (mkF m 62 (own_A15 s1 b2 13 (own_al (own_d M 8)) (own_dI (own_d M 9))) [(.ref wDG)])) st ?_
  refine own_via (g' := (mkF m 63 (own_A15 s1 b2 13 (own_al (own_d M 8)) (own_dI (own_d M 9))) [(.int (own_al (own_d M 8))), (.ref wDG)])) (fun t_ k_ => XS.iloadN X.here hx rfl (hb hby ep7m2_d62) rfl k_) ?_
  have V_wDG := A_dg.ext O.2
  obtain ⟨cl_, Ar_, -, Sz_, Nn_, Hs_, -⟩ := id V_wDG
  have hin_ : ¬ ((own_al (own_d M 8)) < 0 ∨ cl_.slots.size ≤ ((own_al (own_d M 8))).toNatClampNeg) := inb_of Sz_ ha1
  have hat_ : cl_.slots[((own_al (own_d M 8))).toNatClampNeg]? = some (.int (own_dI (own_d M 8))) := Hs_.at hin_ (hdgs _ (own_dB M 8))
  refine own_via (g' := (mkF m 64 (own_A15 s1 b2 13 (own_al (own_d M 8)) (own_dI (own_d M 9))) [(.int (own_dI (own_d M 8)))])) (fun t_ k_ => X.iaload hx (j := (own_al (own_d M 8))) (v := (.int (own_dI (own_d M 8)))) (by rw [eT]; exact Ar_.1) (State.isArrayOf_alike hZ.alike Ar_.2.1) Ar_.2.2 hin_ hat_ (g := (mkF m 63 (own_A15 s1 b2 13 (own_al (own_d M 8)) (own_dI (own_d M 9))) [(.int (own_al (own_d M 8))), (.ref wDG)])) rfl rfl (hb hby ep7m2_d63) _ k_) ?_
  refine own_via (g' := (mkF m 93 (own_A15 s1 b2 13 (own_al (own_d M 8)) (own_dI (own_d M 8))) [(.ref b2)])) (fun t_ k_ => XS.goto X.here hx rfl (pc0 := 64) (pc' := 68) rfl (hb hby ep7m2_d64) (by decide) (by decide) (XS.istore X.here hx rfl (hb hby ep7m2_d68) rfl (l' := (own_A15 s1 b2 13 (own_al (own_d M 8)) (own_dI (own_d M 8)))) rfl (XS.iload X.here hx rfl (hb hby ep7m2_d70) rfl (XS.ifYes X.here hx rfl (pc0 := 72) (pc' := 92) rfl (hb hby ep7m2_d72) rfl ((if0 _ _).trans (flt ha2).2.1) (by decide) (by decide) (XS.aloadN X.here hx rfl (hb hby ep7m2_d92) rfl rfl k_))))) ?_
  obtain ⟨T, X, eT, st⟩ := getS2 X hx hZ hown (host := "") (Or.inl (hw _ (own_w 44 rfl))) Via.refl eT (S_B.ext O.2) (g := (mkF m 93 (own_A15 s1 b2 13 (own_al (own_d M 8)) (own_dI (own_d M 8))) [(.ref b2)])) rfl (hb hby ep7m2_d93)
  refine own_via (g' := (mkF m 96 (own_A15 s1 b2 13 (own_al (own_d M 8)) (own_dI (own_d M 8))) [(.int 62), (.ref b2)])) st ?_
  refine own_via (g' := (mkF m 98 (own_A15 s1 b2 13 (own_al (own_d M 8)) (own_dI (own_d M 8))) [(.int (own_dI (own_d M 8))), (.int 62), (.ref b2)])) (fun t_ k_ => XS.iload X.here hx rfl (hb hby ep7m2_d96) rfl k_) ?_
  obtain ⟨_, _, ⟨T, Lq, kq, nq⟩, -, X, ⟨Lc, hQ, lq, yq, zq⟩, st⟩ := Jvm.LawKit.callS X hx (y := own_y11) hown (mvT hZ (hw _ (own_w 127 rfl))) (mvT hZ (hw _ (own_w 128 rfl))) (mvT hZ (hw _ (own_w 5 rfl))) (mvT hZ (hw _ (own_w 129 rfl))) (by decide) (backOf (W := 0) (own_mulAdd l Z a0 hw [] b2 kb2 y13_0 y13_1 y13_2 y13_3 (own_dI (own_d M 8)) (M / 62 ^ 9) h16 n0 O E_b2 V_b2 g_b2 hL13 (by rw [own_dIv (own_dB M 8)]; exact (own_dB M 8)) (own_mulB hM1 hM2 8)) hZ (hw _ (own_w 129 rfl)) (hw _ (own_w 5 rfl)) (by decide) (by decide)) (g := (mkF m 98 (own_A15 s1 b2 13 (own_al (own_d M 8)) (own_dI (own_d M 8))) [(.int (own_dI (own_d M 8))), (.int 62), (.ref b2)])) rfl (by rw [hml]; rfl) (argsL := [(.ref b2), (.int 62), (.int (own_dI (own_d M 8)))]) (rest := []) (lenOf own_pd11 rfl) rfl (by show 2 * 0 + _ ≤ _; exact Nat.le_of_eq rfl) (hb hby ep7m2_d98) (fun _ _ => ⟨rfl, eT, (by decide : 3 + 0 ≤ _), (by decide : 24 + 0 ≤ _)⟩)
  dsimp only [Pt.U, Pt.locs, Pt.cells, Pt.slots] at X lq yq zq st hQ
  rw [lq, yq, zq] at X
  obtain ⟨y14_0, y14_1, y14_2, y14_3, rfl, Nq, Kq, V_b2, hL14⟩ := hQ
  replace N := Fr.app N Nq
  obtain ⟨h17, eT⟩ : ∃ z, T.heap = z := ⟨_, rfl⟩
  rw [eT] at Kq V_b2
  have So : ∀ x ∈ [b2], Safe Z own_EL _ h16 x := (allS S_b2 all0)
  replace E_s1 := E_s1.keep Kq
  replace F_value_s1 := F_value_s1.keep Kq (ninS ne_s1_b2 nin0)
  replace F_coder_s1 := F_coder_s1.keep Kq (ninS ne_s1_b2 nin0)
  replace V_va := V_va.keep Kq (ninS ne_va_b2 nin0)
  replace E_b2 := E_b2.keep Kq
  replace O := O.keep Kq (allS g_b2 all0)
  replace K0 := K0.trans Kq (allS (Or.inr sz_b2) all0)
  replace hk := Nat.le_trans hk Kq.1
  replace S_b2 := Safe.keep Kq So H.1 S_b2
  replace H := H.trans (CHr.keep Kq So H.1)
  refine own_via (g' := (mkF m 101 (own_A15 s1 b2 13 (own_al (own_d M 8)) (own_dI (own_d M 8))) [(.long 0)])) st ?_
  rw [own_dIv (own_dB M 8), show M / 62 ^ 9 * 62 + own_d M 8 = M / 62 ^ 8 from own_hor M 8] at hL14
  refine own_via (g' := (mkF m 123 (own_A15 s1 b2 ((13 : Int32) + (1 : Int32)) (own_al (own_d M 8)) (own_dI (own_d M 8))) [])) (fun t_ k_ => XS.lconst X.here hx rfl (hb hby ep7m2_d101) (XS.lcmp X.here hx rfl (hb hby ep7m2_d102) rfl (XS.ifYes X.here hx rfl (pc0 := 103) (pc' := 120) rfl (hb hby ep7m2_d103) rfl ((if0 _ _).trans (teq (own_cmpEq _)).1) (by decide) (by decide) (XS.iinc X.here hx rfl (hb hby ep7m2_d120) rfl (l' := (own_A15 s1 b2 ((13 : Int32) + (1 : Int32)) (own_al (own_d M 8)) (own_dI (own_d M 8)))) rfl k_)))) ?_
  rw [(by decide : ((13 : Int32) + (1 : Int32)) = (14 : Int32))]
  refine own_via (g' := (mkF m 47 (own_A15 s1 b2 14 (own_al (own_d M 8)) (own_dI (own_d M 8))) [(.int 14), (.ref s1)])) (fun t_ k_ => XS.goto X.here hx rfl (pc0 := 123) (pc' := 39) rfl (hb hby ep7m2_d123) (by decide) (by decide) (XS.iloadN X.here hx rfl (hb hby ep7m2_d39) rfl (XS.bipush X.here hx rfl (hb hby ep7m2_d40) (XS.icmpNo X.here hx rfl (hb hby ep7m2_d42) rfl (tlt (by decide : (14 : Int32) < (22 : Int32))).2.1 (XS.aloadN X.here hx rfl (hb hby ep7m2_d45) rfl rfl (XS.iloadN X.here hx rfl (hb hby ep7m2_d46) rfl k_)))))) ?_
  obtain ⟨cq, kq, qa, qb, qc⟩ := isOf hZ eT E_s1
  obtain ⟨_, _, ⟨T, Lq, kq, nq⟩, -, X, ⟨Lc, hQ, lq, yq, zq⟩, st⟩ := X.virtualBack hx (y := own_y7) (z := own_y7) hown (mvT hZ (hw _ (own_w 46 rfl))) (mvT hZ (hw _ (own_w 47 rfl))) (notFace_of_selects (args := #[]) (mvT hZ (hw _ (own_w 49 rfl)))) (mvT hZ (hw _ (own_w 49 rfl))) (mvT hZ (hw _ (own_w 48 rfl))) (by decide) (backOf (W := 0) (own_charAt l Z a0 hw [] s1 (14 : Int32) va kv (22 : Int32) (own_BV M) (own_al (own_d M 7)) zc vS h17 n0 O E_s1 F_value_s1 F_coder_s1 V_va S_C hzc ⟨by decide, by decide⟩ rfl S_S hvS) hZ (hw _ (own_w 50 rfl)) (hw _ (own_w 38 rfl)) (by decide) (by decide)) qa qc (g := (mkF m 47 (own_A15 s1 b2 14 (own_al (own_d M 8)) (own_dI (own_d M 8))) [(.int 14), (.ref s1)])) rfl (by rw [hml]; rfl) (Steps.refl _) (argsL := [(.int 14)]) (rest := []) (lenOf own_pd7 rfl) rfl (by show 2 * 0 + _ ≤ _; exact Nat.le_of_eq rfl) (hb hby ep7m2_d47) (fun _ _ => ⟨rfl, eT, (by decide : 3 + 0 ≤ _), (by decide : 24 + 0 ≤ _)⟩)
  dsimp only [Pt.U, Pt.locs, Pt.cells, Pt.slots] at X lq yq zq st hQ
  rw [lq, yq, zq] at X
  obtain ⟨rfl, Nq, eT⟩ := hQ
  replace N := Fr.app N Nq
  refine own_viaT (g' := (mkF m 50 (own_A15 s1 b2 14 (own_al (own_d M 8)) (own_dI (own_d M 8))) [(.int ((own_al (own_d M 7)) &&& (255 : Int32)))])) st ?_
  rw [own_al255 (own_dB M 7)]
  have ha1 := own_al128 (own_dB M 7)
  have ha2 := own_dI0 (own_dB M 7)
  refine own_via (g' := (mkF m 52 (own_A15 s1 b2 14 (own_al (own_d M 7)) (own_dI (own_d M 8))) [(.int (own_al (own_d M 7)))])) (fun t_ k_ => XS.istoreN X.here hx rfl (hb hby ep7m2_d50) rfl (l' := (own_A15 s1 b2 14 (own_al (own_d M 7)) (own_dI (own_d M 8)))) rfl (XS.iloadN X.here hx rfl (hb hby ep7m2_d51) rfl k_)) ?_
  obtain ⟨T, X, eT, st⟩ := getS2 X hx hZ hown (host := "") (Or.inl (hw _ (own_w 125 rfl))) Via.refl eT (S_D.ext O.2) (g := (mkF m 52 (own_A15 s1 b2 14 (own_al (own_d M 7)) (own_dI (own_d M 8))) [(.int (own_al (own_d M 7)))])) rfl (hb hby ep7m2_d52)
  refine own_via (g' := (mkF m 55 (own_A15 s1 b2 14 (own_al (own_d M 7)) (own_dI (own_d M 8))) [(.ref wDG), (.int (own_al (own_d M 7)))])) st ?_
  have V_wDG := A_dg.ext O.2
  obtain ⟨cl_, Ar_, -, Sz_, Nn_, -, -⟩ := id V_wDG
  refine own_via (g' := (mkF m 56 (own_A15 s1 b2 14 (own_al (own_d M 7)) (own_dI (own_d M 8))) [(.int 128), (.int (own_al (own_d M 7)))])) (fun t_ k_ => X.arraylength hx (by rw [eT]; exact Ar_.1) (State.isArrayOf_alike hZ.alike Ar_.2.1) (g := (mkF m 55 (own_A15 s1 b2 14 (own_al (own_d M 7)) (own_dI (own_d M 8))) [(.ref wDG), (.int (own_al (own_d M 7)))])) rfl rfl (hb hby ep7m2_d55) _ (by rw [len_of Sz_ Nn_]; exact k_)) ?_
  refine own_via (g' := (mkF m 59 (own_A15 s1 b2 14 (own_al (own_d M 7)) (own_dI (own_d M 8))) [])) (fun t_ k_ => XS.icmpNo X.here hx rfl (hb hby ep7m2_d56) rfl (tlt ha1.2).2.1 k_) ?_
  obtain ⟨T, X, eT, st⟩ := getS2 X hx hZ hown (host := "") (Or.inl (hw _ (own_w 125 rfl))) Via.refl eT (S_D.ext O.2) (g := (mkF m 59 (own_A15 s1 b2 14 (own_al (own_d M 7)) (own_dI (own_d M 8))) [])) rfl (hb hby ep7m2_d59)
  refine own_via (g' := (mkF m 62 (own_A15 s1 b2 14 (own_al (own_d M 7)) (own_dI (own_d M 8))) [(.ref wDG)])) st ?_
  refine own_via (g' := (mkF m 63 (own_A15 s1 b2 14 (own_al (own_d M 7)) (own_dI (own_d M 8))) [(.int (own_al (own_d M 7))), (.ref wDG)])) (fun t_ k_ => XS.iloadN X.here hx rfl (hb hby ep7m2_d62) rfl k_) ?_
  have V_wDG := A_dg.ext O.2
  obtain ⟨cl_, Ar_, -, Sz_, Nn_, Hs_, -⟩ := id V_wDG
  have hin_ : ¬ ((own_al (own_d M 7)) < 0 ∨ cl_.slots.size ≤ ((own_al (own_d M 7))).toNatClampNeg) := inb_of Sz_ ha1
  have hat_ : cl_.slots[((own_al (own_d M 7))).toNatClampNeg]? = some (.int (own_dI (own_d M 7))) := Hs_.at hin_ (hdgs _ (own_dB M 7))
  refine own_via (g' := (mkF m 64 (own_A15 s1 b2 14 (own_al (own_d M 7)) (own_dI (own_d M 8))) [(.int (own_dI (own_d M 7)))])) (fun t_ k_ => X.iaload hx (j := (own_al (own_d M 7))) (v := (.int (own_dI (own_d M 7)))) (by rw [eT]; exact Ar_.1) (State.isArrayOf_alike hZ.alike Ar_.2.1) Ar_.2.2 hin_ hat_ (g := (mkF m 63 (own_A15 s1 b2 14 (own_al (own_d M 7)) (own_dI (own_d M 8))) [(.int (own_al (own_d M 7))), (.ref wDG)])) rfl rfl (hb hby ep7m2_d63) _ k_) ?_
  refine own_via (g' := (mkF m 93 (own_A15 s1 b2 14 (own_al (own_d M 7)) (own_dI (own_d M 7))) [(.ref b2)])) (fun t_ k_ => XS.goto X.here hx rfl (pc0 := 64) (pc' := 68) rfl (hb hby ep7m2_d64) (by decide) (by decide) (XS.istore X.here hx rfl (hb hby ep7m2_d68) rfl (l' := (own_A15 s1 b2 14 (own_al (own_d M 7)) (own_dI (own_d M 7)))) rfl (XS.iload X.here hx rfl (hb hby ep7m2_d70) rfl (XS.ifYes X.here hx rfl (pc0 := 72) (pc' := 92) rfl (hb hby ep7m2_d72) rfl ((if0 _ _).trans (flt ha2).2.1) (by decide) (by decide) (XS.aloadN X.here hx rfl (hb hby ep7m2_d92) rfl rfl k_))))) ?_
  obtain ⟨T, X, eT, st⟩ := getS2 X hx hZ hown (host := "") (Or.inl (hw _ (own_w 44 rfl))) Via.refl eT (S_B.ext O.2) (g := (mkF m 93 (own_A15 s1 b2 14 (own_al (own_d M 7)) (own_dI (own_d M 7))) [(.ref b2)])) rfl (hb hby ep7m2_d93)
  refine own_via (g' := (mkF m 96 (own_A15 s1 b2 14 (own_al (own_d M 7)) (own_dI (own_d M 7))) [(.int 62), (.ref b2)])) st ?_
  refine own_via (g' := (mkF m 98 (own_A15 s1 b2 14 (own_al (own_d M 7)) (own_dI (own_d M 7))) [(.int (own_dI (own_d M 7))), (.int 62), (.ref b2)])) (fun t_ k_ => XS.iload X.here hx rfl (hb hby ep7m2_d96) rfl k_) ?_
  obtain ⟨_, _, ⟨T, Lq, kq, nq⟩, -, X, ⟨Lc, hQ, lq, yq, zq⟩, st⟩ := Jvm.LawKit.callS X hx (y := own_y11) hown (mvT hZ (hw _ (own_w 127 rfl))) (mvT hZ (hw _ (own_w 128 rfl))) (mvT hZ (hw _ (own_w 5 rfl))) (mvT hZ (hw _ (own_w 129 rfl))) (by decide) (backOf (W := 0) (own_mulAdd l Z a0 hw [] b2 kb2 y14_0 y14_1 y14_2 y14_3 (own_dI (own_d M 7)) (M / 62 ^ 8) h17 n0 O E_b2 V_b2 g_b2 hL14 (by rw [own_dIv (own_dB M 7)]; exact (own_dB M 7)) (own_mulB hM1 hM2 7)) hZ (hw _ (own_w 129 rfl)) (hw _ (own_w 5 rfl)) (by decide) (by decide)) (g := (mkF m 98 (own_A15 s1 b2 14 (own_al (own_d M 7)) (own_dI (own_d M 7))) [(.int (own_dI (own_d M 7))), (.int 62), (.ref b2)])) rfl (by rw [hml]; rfl) (argsL := [(.ref b2), (.int 62), (.int (own_dI (own_d M 7)))]) (rest := []) (lenOf own_pd11 rfl) rfl (by show 2 * 0 + _ ≤ _; exact Nat.le_of_eq rfl) (hb hby ep7m2_d98) (fun _ _ => ⟨rfl, eT, (by decide : 3 + 0 ≤ _), (by decide : 24 + 0 ≤ _)⟩)
  dsimp only [Pt.U, Pt.locs, Pt.cells, Pt.slots] at X lq yq zq st hQ
  rw [lq, yq, zq] at X
  obtain ⟨y15_0, y15_1, y15_2, y15_3, rfl, Nq, Kq, V_b2, hL15⟩ := hQ
  replace N := Fr.app N Nq
  obtain ⟨h18, eT⟩ : ∃ z, T.heap = z := ⟨_, rfl⟩
  rw [eT] at Kq V_b2
  have So : ∀ x ∈ [b2], Safe Z own_EL _ h17 x := (allS S_b2 all0)
  replace E_s1 := E_s1.keep Kq
  replace F_value_s1 := F_value_s1.keep Kq (ninS ne_s1_b2 nin0)
  replace F_coder_s1 := F_coder_s1.keep Kq (ninS ne_s1_b2 nin0)
  replace V_va := V_va.keep Kq (ninS ne_va_b2 nin0)
  replace E_b2 := E_b2.keep Kq
  replace O := O.keep Kq (allS g_b2 all0)
  replace K0 := K0.trans Kq (allS (Or.inr sz_b2) all0)
  replace hk := Nat.le_trans hk Kq.1
  replace S_b2 := Safe.keep Kq So H.1 S_b2
  replace H := H.trans (CHr.keep Kq So H.1)
  refine own_via (g' := (mkF m 101 (own_A15 s1 b2 14 (own_al (own_d M 7)) (own_dI (own_d M 7))) [(.long 0)])) st ?_
  rw [own_dIv (own_dB M 7), show M / 62 ^ 8 * 62 + own_d M 7 = M / 62 ^ 7 from own_hor M 7] at hL15
  refine own_via (g' := (mkF m 123 (own_A15 s1 b2 ((14 : Int32) + (1 : Int32)) (own_al (own_d M 7)) (own_dI (own_d M 7))) [])) (fun t_ k_ => XS.lconst X.here hx rfl (hb hby ep7m2_d101) (XS.lcmp X.here hx rfl (hb hby ep7m2_d102) rfl (XS.ifYes X.here hx rfl (pc0 := 103) (pc' := 120) rfl (hb hby ep7m2_d103) rfl ((if0 _ _).trans (teq (own_cmpEq _)).1) (by decide) (by decide) (XS.iinc X.here hx rfl (hb hby ep7m2_d120) rfl (l' := (own_A15 s1 b2 ((14 : Int32) + (1 : Int32)) (own_al (own_d M 7)) (own_dI (own_d M 7)))) rfl k_)))) ?_
  rw [(by decide : ((14 : Int32) + (1 : Int32)) = (15 : Int32))]
  refine own_via (g' := (mkF m 47 (own_A15 s1 b2 15 (own_al (own_d M 7)) (own_dI (own_d M 7))) [(.int 15), (.ref s1)])) (fun t_ k_ => XS.goto X.here hx rfl (pc0 := 123) (pc' := 39) rfl (hb hby ep7m2_d123) (by decide) (by decide) (XS.iloadN X.here hx rfl (hb hby ep7m2_d39) rfl (XS.bipush X.here hx rfl (hb hby ep7m2_d40) (XS.icmpNo X.here hx rfl (hb hby ep7m2_d42) rfl (tlt (by decide : (15 : Int32) < (22 : Int32))).2.1 (XS.aloadN X.here hx rfl (hb hby ep7m2_d45) rfl rfl (XS.iloadN X.here hx rfl (hb hby ep7m2_d46) rfl k_)))))) ?_
  obtain ⟨cq, kq, qa, qb, qc⟩ := isOf hZ eT E_s1
  obtain ⟨_, _, ⟨T, Lq, kq, nq⟩, -, X, ⟨Lc, hQ, lq, yq, zq⟩, st⟩ := X.virtualBack hx (y := own_y7) (z := own_y7) hown (mvT hZ (hw _ (own_w 46 rfl))) (mvT hZ (hw _ (own_w 47 rfl))) (notFace_of_selects (args := #[]) (mvT hZ (hw _ (own_w 49 rfl)))) (mvT hZ (hw _ (own_w 49 rfl))) (mvT hZ (hw _ (own_w 48 rfl))) (by decide) (backOf (W := 0) (own_charAt l Z a0 hw [] s1 (15 : Int32) va kv (22 : Int32) (own_BV M) (own_al (own_d M 6)) zc vS h18 n0 O E_s1 F_value_s1 F_coder_s1 V_va S_C hzc ⟨by decide, by decide⟩ rfl S_S hvS) hZ (hw _ (own_w 50 rfl)) (hw _ (own_w 38 rfl)) (by decide) (by decide)) qa qc (g := (mkF m 47 (own_A15 s1 b2 15 (own_al (own_d M 7)) (own_dI (own_d M 7))) [(.int 15), (.ref s1)])) rfl (by rw [hml]; rfl) (Steps.refl _) (argsL := [(.int 15)]) (rest := []) (lenOf own_pd7 rfl) rfl (by show 2 * 0 + _ ≤ _; exact Nat.le_of_eq rfl) (hb hby ep7m2_d47) (fun _ _ => ⟨rfl, eT, (by decide : 3 + 0 ≤ _), (by decide : 24 + 0 ≤ _)⟩)
  dsimp only [Pt.U, Pt.locs, Pt.cells, Pt.slots] at X lq yq zq st hQ
  rw [lq, yq, zq] at X
  obtain ⟨rfl, Nq, eT⟩ := hQ
  replace N := Fr.app N Nq
  refine own_viaT (g' := (mkF m 50 (own_A15 s1 b2 15 (own_al (own_d M 7)) (own_dI (own_d M 7))) [(.int ((own_al (own_d M 6)) &&& (255 : Int32)))])) st ?_
  rw [own_al255 (own_dB M 6)]
  have ha1 := own_al128 (own_dB M 6)
  have ha2 := own_dI0 (own_dB M 6)
  refine own_via (g' := (mkF m 52 (own_A15 s1 b2 15 (own_al (own_d M 6)) (own_dI (own_d M 7))) [(.int (own_al (own_d M 6)))])) (fun t_ k_ => XS.istoreN X.here hx rfl (hb hby ep7m2_d50) rfl (l' := (own_A15 s1 b2 15 (own_al (own_d M 6)) (own_dI (own_d M 7)))) rfl (XS.iloadN X.here hx rfl (hb hby ep7m2_d51) rfl k_)) ?_
  obtain ⟨T, X, eT, st⟩ := getS2 X hx hZ hown (host := "") (Or.inl (hw _ (own_w 125 rfl))) Via.refl eT (S_D.ext O.2) (g := (mkF m 52 (own_A15 s1 b2 15 (own_al (own_d M 6)) (own_dI (own_d M 7))) [(.int (own_al (own_d M 6)))])) rfl (hb hby ep7m2_d52)
  refine own_via (g' := (mkF m 55 (own_A15 s1 b2 15 (own_al (own_d M 6)) (own_dI (own_d M 7))) [(.ref wDG), (.int (own_al (own_d M 6)))])) st ?_
  have V_wDG := A_dg.ext O.2
  obtain ⟨cl_, Ar_, -, Sz_, Nn_, -, -⟩ := id V_wDG
  refine own_via (g' := (mkF m 56 (own_A15 s1 b2 15 (own_al (own_d M 6)) (own_dI (own_d M 7))) [(.int 128), (.int (own_al (own_d M 6)))])) (fun t_ k_ => X.arraylength hx (by rw [eT]; exact Ar_.1) (State.isArrayOf_alike hZ.alike Ar_.2.1) (g := (mkF m 55 (own_A15 s1 b2 15 (own_al (own_d M 6)) (own_dI (own_d M 7))) [(.ref wDG), (.int (own_al (own_d M 6)))])) rfl rfl (hb hby ep7m2_d55) _ (by rw [len_of Sz_ Nn_]; exact k_)) ?_
  refine own_via (g' := (mkF m 59 (own_A15 s1 b2 15 (own_al (own_d M 6)) (own_dI (own_d M 7))) [])) (fun t_ k_ => XS.icmpNo X.here hx rfl (hb hby ep7m2_d56) rfl (tlt ha1.2).2.1 k_) ?_
  obtain ⟨T, X, eT, st⟩ := getS2 X hx hZ hown (host := "") (Or.inl (hw _ (own_w 125 rfl))) Via.refl eT (S_D.ext O.2) (g := (mkF m 59 (own_A15 s1 b2 15 (own_al (own_d M 6)) (own_dI (own_d M 7))) [])) rfl (hb hby ep7m2_d59)
  refine own_via (g' := (mkF m 62 (own_A15 s1 b2 15 (own_al (own_d M 6)) (own_dI (own_d M 7))) [(.ref wDG)])) st ?_
  refine own_via (g' := (mkF m 63 (own_A15 s1 b2 15 (own_al (own_d M 6)) (own_dI (own_d M 7))) [(.int (own_al (own_d M 6))), (.ref wDG)])) (fun t_ k_ => XS.iloadN X.here hx rfl (hb hby ep7m2_d62) rfl k_) ?_
  have V_wDG := A_dg.ext O.2
  obtain ⟨cl_, Ar_, -, Sz_, Nn_, Hs_, -⟩ := id V_wDG
  have hin_ : ¬ ((own_al (own_d M 6)) < 0 ∨ cl_.slots.size ≤ ((own_al (own_d M 6))).toNatClampNeg) := inb_of Sz_ ha1
  have hat_ : cl_.slots[((own_al (own_d M 6))).toNatClampNeg]? = some (.int (own_dI (own_d M 6))) := Hs_.at hin_ (hdgs _ (own_dB M 6))
  refine own_via (g' := (mkF m 64 (own_A15 s1 b2 15 (own_al (own_d M 6)) (own_dI (own_d M 7))) [(.int (own_dI (own_d M 6)))])) (fun t_ k_ => X.iaload hx (j := (own_al (own_d M 6))) (v := (.int (own_dI (own_d M 6)))) (by rw [eT]; exact Ar_.1) (State.isArrayOf_alike hZ.alike Ar_.2.1) Ar_.2.2 hin_ hat_ (g := (mkF m 63 (own_A15 s1 b2 15 (own_al (own_d M 6)) (own_dI (own_d M 7))) [(.int (own_al (own_d M 6))), (.ref wDG)])) rfl rfl (hb hby ep7m2_d63) _ k_) ?_
  refine own_via (g' := (mkF m 93 (own_A15 s1 b2 15 (own_al (own_d M 6)) (own_dI (own_d M 6))) [(.ref b2)])) (fun t_ k_ => XS.goto X.here hx rfl (pc0 := 64) (pc' := 68) rfl (hb hby ep7m2_d64) (by decide) (by decide) (XS.istore X.here hx rfl (hb hby ep7m2_d68) rfl (l' := (own_A15 s1 b2 15 (own_al (own_d M 6)) (own_dI (own_d M 6)))) rfl (XS.iload X.here hx rfl (hb hby ep7m2_d70) rfl (XS.ifYes X.here hx rfl (pc0 := 72) (pc' := 92) rfl (hb hby ep7m2_d72) rfl ((if0 _ _).trans (flt ha2).2.1) (by decide) (by decide) (XS.aloadN X.here hx rfl (hb hby ep7m2_d92) rfl rfl k_))))) ?_
  obtain ⟨T, X, eT, st⟩ := getS2 X hx hZ hown (host := "") (Or.inl (hw _ (own_w 44 rfl))) Via.refl eT (S_B.ext O.2) (g := (mkF m 93 (own_A15 s1 b2 15 (own_al (own_d M 6)) (own_dI (own_d M 6))) [(.ref b2)])) rfl (hb hby ep7m2_d93)
  refine own_via (g' := (mkF m 96 (own_A15 s1 b2 15 (own_al (own_d M 6)) (own_dI (own_d M 6))) [(.int 62), (.ref b2)])) st ?_
  refine own_via (g' := (mkF m 98 (own_A15 s1 b2 15 (own_al (own_d M 6)) (own_dI (own_d M 6))) [(.int (own_dI (own_d M 6))), (.int 62), (.ref b2)])) (fun t_ k_ => XS.iload X.here hx rfl (hb hby ep7m2_d96) rfl k_) ?_
  obtain ⟨_, _, ⟨T, Lq, kq, nq⟩, -, X, ⟨Lc, hQ, lq, yq, zq⟩, st⟩ := Jvm.LawKit.callS X hx (y := own_y11) hown (mvT hZ (hw _ (own_w 127 rfl))) (mvT hZ (hw _ (own_w 128 rfl))) (mvT hZ (hw _ (own_w 5 rfl))) (mvT hZ (hw _ (own_w 129 rfl))) (by decide) (backOf (W := 0) (own_mulAdd l Z a0 hw [] b2 kb2 y15_0 y15_1 y15_2 y15_3 (own_dI (own_d M 6)) (M / 62 ^ 7) h18 n0 O E_b2 V_b2 g_b2 hL15 (by rw [own_dIv (own_dB M 6)]; exact (own_dB M 6)) (own_mulB hM1 hM2 6)) hZ (hw _ (own_w 129 rfl)) (hw _ (own_w 5 rfl)) (by decide) (by decide)) (g := (mkF m 98 (own_A15 s1 b2 15 (own_al (own_d M 6)) (own_dI (own_d M 6))) [(.int (own_dI (own_d M 6))), (.int 62), (.ref b2)])) rfl (by rw [hml]; rfl) (argsL := [(.ref b2), (.int 62), (.int (own_dI (own_d M 6)))]) (rest := []) (lenOf own_pd11 rfl) rfl (by show 2 * 0 + _ ≤ _; exact Nat.le_of_eq rfl) (hb hby ep7m2_d98) (fun _ _ => ⟨rfl, eT, (by decide : 3 + 0 ≤ _), (by decide : 24 + 0 ≤ _)⟩)
  dsimp only [Pt.U, Pt.locs, Pt.cells, Pt.slots] at X lq yq zq st hQ
  rw [lq, yq, zq] at X
  obtain ⟨y16_0, y16_1, y16_2, y16_3, rfl, Nq, Kq, V_b2, hL16⟩ := hQ
  replace N := Fr.app N Nq
  obtain ⟨h19, eT⟩ : ∃ z, T.heap = z := ⟨_, rfl⟩
  rw [eT] at Kq V_b2
  have So : ∀ x ∈ [b2], Safe Z own_EL _ h18 x := (allS S_b2 all0)
  replace E_s1 := E_s1.keep Kq
  replace F_value_s1 := F_value_s1.keep Kq (ninS ne_s1_b2 nin0)
  replace F_coder_s1 := F_coder_s1.keep Kq (ninS ne_s1_b2 nin0)
  replace V_va := V_va.keep Kq (ninS ne_va_b2 nin0)
  replace E_b2 := E_b2.keep Kq
  replace O := O.keep Kq (allS g_b2 all0)
  replace K0 := K0.trans Kq (allS (Or.inr sz_b2) all0)
  replace hk := Nat.le_trans hk Kq.1
  replace S_b2 := Safe.keep Kq So H.1 S_b2
  replace H := H.trans (CHr.keep Kq So H.1)
  refine own_via (g' := (mkF m 101 (own_A15 s1 b2 15 (own_al (own_d M 6)) (own_dI (own_d M 6))) [(.long 0)])) st ?_
  rw [own_dIv (own_dB M 6), show M / 62 ^ 7 * 62 + own_d M 6 = M / 62 ^ 6 from own_hor M 6] at hL16
  refine own_via (g' := (mkF m 123 (own_A15 s1 b2 ((15 : Int32) + (1 : Int32)) (own_al (own_d M 6)) (own_dI (own_d M 6))) [])) (fun t_ k_ => XS.lconst X.here hx rfl (hb hby ep7m2_d101) (XS.lcmp X.here hx rfl (hb hby ep7m2_d102) rfl (XS.ifYes X.here hx rfl (pc0 := 103) (pc' := 120) rfl (hb hby ep7m2_d103) rfl ((if0 _ _).trans (teq (own_cmpEq _)).1) (by decide) (by decide) (XS.iinc X.here hx rfl (hb hby ep7m2_d120) rfl (l' := (own_A15 s1 b2 ((15 : Int32) + (1 : Int32)) (own_al (own_d M 6)) (own_dI (own_d M 6)))) rfl k_)))) ?_
  rw [(by decide : ((15 : Int32) + (1 : Int32)) = (16 : Int32))]
  refine own_via (g' := (mkF m 47 (own_A15 s1 b2 16 (own_al (own_d M 6)) (own_dI (own_d M 6))) [(.int 16), (.ref s1)])) (fun t_ k_ => XS.goto X.here hx rfl (pc0 := 123) (pc' := 39) rfl (hb hby ep7m2_d123) (by decide) (by decide) (XS.iloadN X.here hx rfl (hb hby ep7m2_d39) rfl (XS.bipush X.here hx rfl (hb hby ep7m2_d40) (XS.icmpNo X.here hx rfl (hb hby ep7m2_d42) rfl (tlt (by decide : (16 : Int32) < (22 : Int32))).2.1 (XS.aloadN X.here hx rfl (hb hby ep7m2_d45) rfl rfl (XS.iloadN X.here hx rfl (hb hby ep7m2_d46) rfl k_)))))) ?_
  obtain ⟨cq, kq, qa, qb, qc⟩ := isOf hZ eT E_s1
  obtain ⟨_, _, ⟨T, Lq, kq, nq⟩, -, X, ⟨Lc, hQ, lq, yq, zq⟩, st⟩ := X.virtualBack hx (y := own_y7) (z := own_y7) hown (mvT hZ (hw _ (own_w 46 rfl))) (mvT hZ (hw _ (own_w 47 rfl))) (notFace_of_selects (args := #[]) (mvT hZ (hw _ (own_w 49 rfl)))) (mvT hZ (hw _ (own_w 49 rfl))) (mvT hZ (hw _ (own_w 48 rfl))) (by decide) (backOf (W := 0) (own_charAt l Z a0 hw [] s1 (16 : Int32) va kv (22 : Int32) (own_BV M) (own_al (own_d M 5)) zc vS h19 n0 O E_s1 F_value_s1 F_coder_s1 V_va S_C hzc ⟨by decide, by decide⟩ rfl S_S hvS) hZ (hw _ (own_w 50 rfl)) (hw _ (own_w 38 rfl)) (by decide) (by decide)) qa qc (g := (mkF m 47 (own_A15 s1 b2 16 (own_al (own_d M 6)) (own_dI (own_d M 6))) [(.int 16), (.ref s1)])) rfl (by rw [hml]; rfl) (Steps.refl _) (argsL := [(.int 16)]) (rest := []) (lenOf own_pd7 rfl) rfl (by show 2 * 0 + _ ≤ _; exact Nat.le_of_eq rfl) (hb hby ep7m2_d47) (fun _ _ => ⟨rfl, eT, (by decide : 3 + 0 ≤ _), (by decide : 24 + 0 ≤ _)⟩)
  dsimp only [Pt.U, Pt.locs, Pt.cells, Pt.slots] at X lq yq zq st hQ
  rw [lq, yq, zq] at X
  obtain ⟨rfl, Nq, eT⟩ := hQ
  replace N := Fr.app N Nq
  refine own_viaT (g' := (mkF m 50 (own_A15 s1 b2 16 (own_al (own_d M 6)) (own_dI (own_d M 6))) [(.int ((own_al (own_d M 5)) &&& (255 : Int32)))])) st ?_
  rw [own_al255 (own_dB M 5)]
  have ha1 := own_al128 (own_dB M 5)
  have ha2 := own_dI0 (own_dB M 5)
  refine own_via (g' := (mkF m 52 (own_A15 s1 b2 16 (own_al (own_d M 5)) (own_dI (own_d M 6))) [(.int (own_al (own_d M 5)))])) (fun t_ k_ => XS.istoreN X.here hx rfl (hb hby ep7m2_d50) rfl (l' := (own_A15 s1 b2 16 (own_al (own_d M 5)) (own_dI (own_d M 6)))) rfl (XS.iloadN X.here hx rfl (hb hby ep7m2_d51) rfl k_)) ?_
  obtain ⟨T, X, eT, st⟩ := getS2 X hx hZ hown (host := "") (Or.inl (hw _ (own_w 125 rfl))) Via.refl eT (S_D.ext O.2) (g := (mkF m 52 (own_A15 s1 b2 16 (own_al (own_d M 5)) (own_dI (own_d M 6))) [(.int (own_al (own_d M 5)))])) rfl (hb hby ep7m2_d52)
  refine own_via (g' := (mkF m 55 (own_A15 s1 b2 16 (own_al (own_d M 5)) (own_dI (own_d M 6))) [(.ref wDG), (.int (own_al (own_d M 5)))])) st ?_
  have V_wDG := A_dg.ext O.2
  obtain ⟨cl_, Ar_, -, Sz_, Nn_, -, -⟩ := id V_wDG
  refine own_via (g' := (mkF m 56 (own_A15 s1 b2 16 (own_al (own_d M 5)) (own_dI (own_d M 6))) [(.int 128), (.int (own_al (own_d M 5)))])) (fun t_ k_ => X.arraylength hx (by rw [eT]; exact Ar_.1) (State.isArrayOf_alike hZ.alike Ar_.2.1) (g := (mkF m 55 (own_A15 s1 b2 16 (own_al (own_d M 5)) (own_dI (own_d M 6))) [(.ref wDG), (.int (own_al (own_d M 5)))])) rfl rfl (hb hby ep7m2_d55) _ (by rw [len_of Sz_ Nn_]; exact k_)) ?_
  refine own_via (g' := (mkF m 59 (own_A15 s1 b2 16 (own_al (own_d M 5)) (own_dI (own_d M 6))) [])) (fun t_ k_ => XS.icmpNo X.here hx rfl (hb hby ep7m2_d56) rfl (tlt ha1.2).2.1 k_) ?_
  obtain ⟨T, X, eT, st⟩ := getS2 X hx hZ hown (host := "") (Or.inl (hw _ (own_w 125 rfl))) Via.refl eT (S_D.ext O.2) (g := (mkF m 59 (own_A15 s1 b2 16 (own_al (own_d M 5)) (own_dI (own_d M 6))) [])) rfl (hb hby ep7m2_d59)
  refine own_via (g' := (mkF m 62 (own_A15 s1 b2 16 (own_al (own_d M 5)) (own_dI (own_d M 6))) [(.ref wDG)])) st ?_
  refine own_via (g' := (mkF m 63 (own_A15 s1 b2 16 (own_al (own_d M 5)) (own_dI (own_d M 6))) [(.int (own_al (own_d M 5))), (.ref wDG)])) (fun t_ k_ => XS.iloadN X.here hx rfl (hb hby ep7m2_d62) rfl k_) ?_
  have V_wDG := A_dg.ext O.2
  obtain ⟨cl_, Ar_, -, Sz_, Nn_, Hs_, -⟩ := id V_wDG
  have hin_ : ¬ ((own_al (own_d M 5)) < 0 ∨ cl_.slots.size ≤ ((own_al (own_d M 5))).toNatClampNeg) := inb_of Sz_ ha1
  have hat_ : cl_.slots[((own_al (own_d M 5))).toNatClampNeg]? = some (.int (own_dI (own_d M 5))) := Hs_.at hin_ (hdgs _ (own_dB M 5))
  refine own_via (g' := (mkF m 64 (own_A15 s1 b2 16 (own_al (own_d M 5)) (own_dI (own_d M 6))) [(.int (own_dI (own_d M 5)))])) (fun t_ k_ => X.iaload hx (j := (own_al (own_d M 5))) (v := (.int (own_dI (own_d M 5)))) (by rw [eT]; exact Ar_.1) (State.isArrayOf_alike hZ.alike Ar_.2.1) Ar_.2.2 hin_ hat_ (g := (mkF m 63 (own_A15 s1 b2 16 (own_al (own_d M 5)) (own_dI (own_d M 6))) [(.int (own_al (own_d M 5))), (.ref wDG)])) rfl rfl (hb hby ep7m2_d63) _ k_) ?_
  refine own_via (g' := (mkF m 93 (own_A15 s1 b2 16 (own_al (own_d M 5)) (own_dI (own_d M 5))) [(.ref b2)])) (fun t_ k_ => XS.goto X.here hx rfl (pc0 := 64) (pc' := 68) rfl (hb hby ep7m2_d64) (by decide) (by decide) (XS.istore X.here hx rfl (hb hby ep7m2_d68) rfl (l' := (own_A15 s1 b2 16 (own_al (own_d M 5)) (own_dI (own_d M 5)))) rfl (XS.iload X.here hx rfl (hb hby ep7m2_d70) rfl (XS.ifYes X.here hx rfl (pc0 := 72) (pc' := 92) rfl (hb hby ep7m2_d72) rfl ((if0 _ _).trans (flt ha2).2.1) (by decide) (by decide) (XS.aloadN X.here hx rfl (hb hby ep7m2_d92) rfl rfl k_))))) ?_
  obtain ⟨T, X, eT, st⟩ := getS2 X hx hZ hown (host := "") (Or.inl (hw _ (own_w 44 rfl))) Via.refl eT (S_B.ext O.2) (g := (mkF m 93 (own_A15 s1 b2 16 (own_al (own_d M 5)) (own_dI (own_d M 5))) [(.ref b2)])) rfl (hb hby ep7m2_d93)
  refine own_via (g' := (mkF m 96 (own_A15 s1 b2 16 (own_al (own_d M 5)) (own_dI (own_d M 5))) [(.int 62), (.ref b2)])) st ?_
  refine own_via (g' := (mkF m 98 (own_A15 s1 b2 16 (own_al (own_d M 5)) (own_dI (own_d M 5))) [(.int (own_dI (own_d M 5))), (.int 62), (.ref b2)])) (fun t_ k_ => XS.iload X.here hx rfl (hb hby ep7m2_d96) rfl k_) ?_
  obtain ⟨_, _, ⟨T, Lq, kq, nq⟩, -, X, ⟨Lc, hQ, lq, yq, zq⟩, st⟩ := Jvm.LawKit.callS X hx (y := own_y11) hown (mvT hZ (hw _ (own_w 127 rfl))) (mvT hZ (hw _ (own_w 128 rfl))) (mvT hZ (hw _ (own_w 5 rfl))) (mvT hZ (hw _ (own_w 129 rfl))) (by decide) (backOf (W := 0) (own_mulAdd l Z a0 hw [] b2 kb2 y16_0 y16_1 y16_2 y16_3 (own_dI (own_d M 5)) (M / 62 ^ 6) h19 n0 O E_b2 V_b2 g_b2 hL16 (by rw [own_dIv (own_dB M 5)]; exact (own_dB M 5)) (own_mulB hM1 hM2 5)) hZ (hw _ (own_w 129 rfl)) (hw _ (own_w 5 rfl)) (by decide) (by decide)) (g := (mkF m 98 (own_A15 s1 b2 16 (own_al (own_d M 5)) (own_dI (own_d M 5))) [(.int (own_dI (own_d M 5))), (.int 62), (.ref b2)])) rfl (by rw [hml]; rfl) (argsL := [(.ref b2), (.int 62), (.int (own_dI (own_d M 5)))]) (rest := []) (lenOf own_pd11 rfl) rfl (by show 2 * 0 + _ ≤ _; exact Nat.le_of_eq rfl) (hb hby ep7m2_d98) (fun _ _ => ⟨rfl, eT, (by decide : 3 + 0 ≤ _), (by decide : 24 + 0 ≤ _)⟩)
  dsimp only [Pt.U, Pt.locs, Pt.cells, Pt.slots] at X lq yq zq st hQ
  rw [lq, yq, zq] at X
  obtain ⟨y17_0, y17_1, y17_2, y17_3, rfl, Nq, Kq, V_b2, hL17⟩ := hQ
  replace N := Fr.app N Nq
  obtain ⟨h20, eT⟩ : ∃ z, T.heap = z := ⟨_, rfl⟩
  rw [eT] at Kq V_b2
  have So : ∀ x ∈ [b2], Safe Z own_EL _ h19 x := (allS S_b2 all0)
  replace E_s1 := E_s1.keep Kq
  replace F_value_s1 := F_value_s1.keep Kq (ninS ne_s1_b2 nin0)
  replace F_coder_s1 := F_coder_s1.keep Kq (ninS ne_s1_b2 nin0)
  replace V_va := V_va.keep Kq (ninS ne_va_b2 nin0)
  replace E_b2 := E_b2.keep Kq
  replace O := O.keep Kq (allS g_b2 all0)
  replace K0 := K0.trans Kq (allS (Or.inr sz_b2) all0)
  replace hk := Nat.le_trans hk Kq.1
  replace S_b2 := Safe.keep Kq So H.1 S_b2
  replace H := H.trans (CHr.keep Kq So H.1)
  refine own_via (g' := (mkF m 101 (own_A15 s1 b2 16 (own_al (own_d M 5)) (own_dI (own_d M 5))) [(.long 0)])) st ?_
  rw [own_dIv (own_dB M 5), show M / 62 ^ 6 * 62 + own_d M 5 = M / 62 ^ 5 from own_hor M 5] at hL17
  refine own_via (g' := (mkF m 123 (own_A15 s1 b2 ((16 : Int32) + (1 : Int32)) (own_al (own_d M 5)) (own_dI (own_d M 5))) [])) (fun t_ k_ => XS.lconst X.here hx rfl (hb hby ep7m2_d101) (XS.lcmp X.here hx rfl (hb hby ep7m2_d102) rfl (XS.ifYes X.here hx rfl (pc0 := 103) (pc' := 120) rfl (hb hby ep7m2_d103) rfl ((if0 _ _).trans (teq (own_cmpEq _)).1) (by decide) (by decide) (XS.iinc X.here hx rfl (hb hby ep7m2_d120) rfl (l' := (own_A15 s1 b2 ((16 : Int32) + (1 : Int32)) (own_al (own_d M 5)) (own_dI (own_d M 5)))) rfl k_)))) ?_
  rw [(by decide : ((16 : Int32) + (1 : Int32)) = (17 : Int32))]
  refine own_via (g' := (mkF m 47 (own_A15 s1 b2 17 (own_al (own_d M 5)) (own_dI (own_d M 5))) [(.int 17), (.ref s1)])) (fun t_ k_ => XS.goto X.here hx rfl (pc0 := 123) (pc' := 39) rfl (hb hby ep7m2_d123) (by decide) (by decide) (XS.iloadN X.here hx rfl (hb hby ep7m2_d39) rfl (XS.bipush X.here hx rfl (hb hby ep7m2_d40) (XS.icmpNo X.here hx rfl (hb hby ep7m2_d42) rfl (tlt (by decide : (17 : Int32) < (22 : Int32))).2.1 (XS.aloadN X.here hx rfl (hb hby ep7m2_d45) rfl rfl (XS.iloadN X.here hx rfl (hb hby ep7m2_d46) rfl k_)))))) ?_
  obtain ⟨cq, kq, qa, qb, qc⟩ := isOf hZ eT E_s1
  obtain ⟨_, _, ⟨T, Lq, kq, nq⟩, -, X, ⟨Lc, hQ, lq, yq, zq⟩, st⟩ := X.virtualBack hx (y := own_y7) (z := own_y7) hown (mvT hZ (hw _ (own_w 46 rfl))) (mvT hZ (hw _ (own_w 47 rfl))) (notFace_of_selects (args := #[]) (mvT hZ (hw _ (own_w 49 rfl)))) (mvT hZ (hw _ (own_w 49 rfl))) (mvT hZ (hw _ (own_w 48 rfl))) (by decide) (backOf (W := 0) (own_charAt l Z a0 hw [] s1 (17 : Int32) va kv (22 : Int32) (own_BV M) (own_al (own_d M 4)) zc vS h20 n0 O E_s1 F_value_s1 F_coder_s1 V_va S_C hzc ⟨by decide, by decide⟩ rfl S_S hvS) hZ (hw _ (own_w 50 rfl)) (hw _ (own_w 38 rfl)) (by decide) (by decide)) qa qc (g := (mkF m 47 (own_A15 s1 b2 17 (own_al (own_d M 5)) (own_dI (own_d M 5))) [(.int 17), (.ref s1)])) rfl (by rw [hml]; rfl) (Steps.refl _) (argsL := [(.int 17)]) (rest := []) (lenOf own_pd7 rfl) rfl (by show 2 * 0 + _ ≤ _; exact Nat.le_of_eq rfl) (hb hby ep7m2_d47) (fun _ _ => ⟨rfl, eT, (by decide : 3 + 0 ≤ _), (by decide : 24 + 0 ≤ _)⟩)
  dsimp only [Pt.U, Pt.locs, Pt.cells, Pt.slots] at X lq yq zq st hQ
  rw [lq, yq, zq] at X
  obtain ⟨rfl, Nq, eT⟩ := hQ
  replace N := Fr.app N Nq
  refine own_viaT (g' := (mkF m 50 (own_A15 s1 b2 17 (own_al (own_d M 5)) (own_dI (own_d M 5))) [(.int ((own_al (own_d M 4)) &&& (255 : Int32)))])) st ?_
  rw [own_al255 (own_dB M 4)]
  have ha1 := own_al128 (own_dB M 4)
  have ha2 := own_dI0 (own_dB M 4)
  refine own_via (g' := (mkF m 52 (own_A15 s1 b2 17 (own_al (own_d M 4)) (own_dI (own_d M 5))) [(.int (own_al (own_d M 4)))])) (fun t_ k_ => XS.istoreN X.here hx rfl (hb hby ep7m2_d50) rfl (l' := (own_A15 s1 b2 17 (own_al (own_d M 4)) (own_dI (own_d M 5)))) rfl (XS.iloadN X.here hx rfl (hb hby ep7m2_d51) rfl k_)) ?_
  obtain ⟨T, X, eT, st⟩ := getS2 X hx hZ hown (host := "") (Or.inl (hw _ (own_w 125 rfl))) Via.refl eT (S_D.ext O.2) (g := (mkF m 52 (own_A15 s1 b2 17 (own_al (own_d M 4)) (own_dI (own_d M 5))) [(.int (own_al (own_d M 4)))])) rfl (hb hby ep7m2_d52)
  refine own_via (g' := (mkF m 55 (own_A15 s1 b2 17 (own_al (own_d M 4)) (own_dI (own_d M 5))) [(.ref wDG), (.int (own_al (own_d M 4)))])) st ?_
  have V_wDG := A_dg.ext O.2
  obtain ⟨cl_, Ar_, -, Sz_, Nn_, -, -⟩ := id V_wDG
  refine own_via (g' := (mkF m 56 (own_A15 s1 b2 17 (own_al (own_d M 4)) (own_dI (own_d M 5))) [(.int 128), (.int (own_al (own_d M 4)))])) (fun t_ k_ => X.arraylength hx (by rw [eT]; exact Ar_.1) (State.isArrayOf_alike hZ.alike Ar_.2.1) (g := (mkF m 55 (own_A15 s1 b2 17 (own_al (own_d M 4)) (own_dI (own_d M 5))) [(.ref wDG), (.int (own_al (own_d M 4)))])) rfl rfl (hb hby ep7m2_d55) _ (by rw [len_of Sz_ Nn_]; exact k_)) ?_
  refine own_via (g' := (mkF m 59 (own_A15 s1 b2 17 (own_al (own_d M 4)) (own_dI (own_d M 5))) [])) (fun t_ k_ => XS.icmpNo X.here hx rfl (hb hby ep7m2_d56) rfl (tlt ha1.2).2.1 k_) ?_
  obtain ⟨T, X, eT, st⟩ := getS2 X hx hZ hown (host := "") (Or.inl (hw _ (own_w 125 rfl))) Via.refl eT (S_D.ext O.2) (g := (mkF m 59 (own_A15 s1 b2 17 (own_al (own_d M 4)) (own_dI (own_d M 5))) [])) rfl (hb hby ep7m2_d59)
  refine own_via (g' := (mkF m 62 (own_A15 s1 b2 17 (own_al (own_d M 4)) (own_dI (own_d M 5))) [(.ref wDG)])) st ?_
  refine own_via (g' := (mkF m 63 (own_A15 s1 b2 17 (own_al (own_d M 4)) (own_dI (own_d M 5))) [(.int (own_al (own_d M 4))), (.ref wDG)])) (fun t_ k_ => XS.iloadN X.here hx rfl (hb hby ep7m2_d62) rfl k_) ?_
  have V_wDG := A_dg.ext O.2
  obtain ⟨cl_, Ar_, -, Sz_, Nn_, Hs_, -⟩ := id V_wDG
  have hin_ : ¬ ((own_al (own_d M 4)) < 0 ∨ cl_.slots.size ≤ ((own_al (own_d M 4))).toNatClampNeg) := inb_of Sz_ ha1
  have hat_ : cl_.slots[((own_al (own_d M 4))).toNatClampNeg]? = some (.int (own_dI (own_d M 4))) := Hs_.at hin_ (hdgs _ (own_dB M 4))
  refine own_via (g' := (mkF m 64 (own_A15 s1 b2 17 (own_al (own_d M 4)) (own_dI (own_d M 5))) [(.int (own_dI (own_d M 4)))])) (fun t_ k_ => X.iaload hx (j := (own_al (own_d M 4))) (v := (.int (own_dI (own_d M 4)))) (by rw [eT]; exact Ar_.1) (State.isArrayOf_alike hZ.alike Ar_.2.1) Ar_.2.2 hin_ hat_ (g := (mkF m 63 (own_A15 s1 b2 17 (own_al (own_d M 4)) (own_dI (own_d M 5))) [(.int (own_al (own_d M 4))), (.ref wDG)])) rfl rfl (hb hby ep7m2_d63) _ k_) ?_
  refine own_via (g' := (mkF m 93 (own_A15 s1 b2 17 (own_al (own_d M 4)) (own_dI (own_d M 4))) [(.ref b2)])) (fun t_ k_ => XS.goto X.here hx rfl (pc0 := 64) (pc' := 68) rfl (hb hby ep7m2_d64) (by decide) (by decide) (XS.istore X.here hx rfl (hb hby ep7m2_d68) rfl (l' := (own_A15 s1 b2 17 (own_al (own_d M 4)) (own_dI (own_d M 4)))) rfl (XS.iload X.here hx rfl (hb hby ep7m2_d70) rfl (XS.ifYes X.here hx rfl (pc0 := 72) (pc' := 92) rfl (hb hby ep7m2_d72) rfl ((if0 _ _).trans (flt ha2).2.1) (by decide) (by decide) (XS.aloadN X.here hx rfl (hb hby ep7m2_d92) rfl rfl k_))))) ?_
  obtain ⟨T, X, eT, st⟩ := getS2 X hx hZ hown (host := "") (Or.inl (hw _ (own_w 44 rfl))) Via.refl eT (S_B.ext O.2) (g := (mkF m 93 (own_A15 s1 b2 17 (own_al (own_d M 4)) (own_dI (own_d M 4))) [(.ref b2)])) rfl (hb hby ep7m2_d93)
  refine own_via (g' := (mkF m 96 (own_A15 s1 b2 17 (own_al (own_d M 4)) (own_dI (own_d M 4))) [(.int 62), (.ref b2)])) st ?_
  refine own_via (g' := (mkF m 98 (own_A15 s1 b2 17 (own_al (own_d M 4)) (own_dI (own_d M 4))) [(.int (own_dI (own_d M 4))), (.int 62), (.ref b2)])) (fun t_ k_ => XS.iload X.here hx rfl (hb hby ep7m2_d96) rfl k_) ?_
  obtain ⟨_, _, ⟨T, Lq, kq, nq⟩, -, X, ⟨Lc, hQ, lq, yq, zq⟩, st⟩ := Jvm.LawKit.callS X hx (y := own_y11) hown (mvT hZ (hw _ (own_w 127 rfl))) (mvT hZ (hw _ (own_w 128 rfl))) (mvT hZ (hw _ (own_w 5 rfl))) (mvT hZ (hw _ (own_w 129 rfl))) (by decide) (backOf (W := 0) (own_mulAdd l Z a0 hw [] b2 kb2 y17_0 y17_1 y17_2 y17_3 (own_dI (own_d M 4)) (M / 62 ^ 5) h20 n0 O E_b2 V_b2 g_b2 hL17 (by rw [own_dIv (own_dB M 4)]; exact (own_dB M 4)) (own_mulB hM1 hM2 4)) hZ (hw _ (own_w 129 rfl)) (hw _ (own_w 5 rfl)) (by decide) (by decide)) (g := (mkF m 98 (own_A15 s1 b2 17 (own_al (own_d M 4)) (own_dI (own_d M 4))) [(.int (own_dI (own_d M 4))), (.int 62), (.ref b2)])) rfl (by rw [hml]; rfl) (argsL := [(.ref b2), (.int 62), (.int (own_dI (own_d M 4)))]) (rest := []) (lenOf own_pd11 rfl) rfl (by show 2 * 0 + _ ≤ _; exact Nat.le_of_eq rfl) (hb hby ep7m2_d98) (fun _ _ => ⟨rfl, eT, (by decide : 3 + 0 ≤ _), (by decide : 24 + 0 ≤ _)⟩)
  dsimp only [Pt.U, Pt.locs, Pt.cells, Pt.slots] at X lq yq zq st hQ
  rw [lq, yq, zq] at X
  obtain ⟨y18_0, y18_1, y18_2, y18_3, rfl, Nq, Kq, V_b2, hL18⟩ := hQ
  replace N := Fr.app N Nq
  obtain ⟨h21, eT⟩ : ∃ z, T.heap = z := ⟨_, rfl⟩
  rw [eT] at Kq V_b2
  have So : ∀ x ∈ [b2], Safe Z own_EL _ h20 x := (allS S_b2 all0)
  replace E_s1 := E_s1.keep Kq
  replace F_value_s1 := F_value_s1.keep Kq (ninS ne_s1_b2 nin0)
  replace F_coder_s1 := F_coder_s1.keep Kq (ninS ne_s1_b2 nin0)
  replace V_va := V_va.keep Kq (ninS ne_va_b2 nin0)
  replace E_b2 := E_b2.keep Kq
  replace O := O.keep Kq (allS g_b2 all0)
  replace K0 := K0.trans Kq (allS (Or.inr sz_b2) all0)
  replace hk := Nat.le_trans hk Kq.1
  replace S_b2 := Safe.keep Kq So H.1 S_b2
  replace H := H.trans (CHr.keep Kq So H.1)
  refine own_via (g' := (mkF m 101 (own_A15 s1 b2 17 (own_al (own_d M 4)) (own_dI (own_d M 4))) [(.long 0)])) st ?_
  rw [own_dIv (own_dB M 4), show M / 62 ^ 5 * 62 + own_d M 4 = M / 62 ^ 4 from own_hor M 4] at hL18
  refine own_via (g' := (mkF m 123 (own_A15 s1 b2 ((17 : Int32) + (1 : Int32)) (own_al (own_d M 4)) (own_dI (own_d M 4))) [])) (fun t_ k_ => XS.lconst X.here hx rfl (hb hby ep7m2_d101) (XS.lcmp X.here hx rfl (hb hby ep7m2_d102) rfl (XS.ifYes X.here hx rfl (pc0 := 103) (pc' := 120) rfl (hb hby ep7m2_d103) rfl ((if0 _ _).trans (teq (own_cmpEq _)).1) (by decide) (by decide) (XS.iinc X.here hx rfl (hb hby ep7m2_d120) rfl (l' := (own_A15 s1 b2 ((17 : Int32) + (1 : Int32)) (own_al (own_d M 4)) (own_dI (own_d M 4)))) rfl k_)))) ?_
  rw [(by decide : ((17 : Int32) + (1 : Int32)) = (18 : Int32))]
  refine own_via (g' := (mkF m 47 (own_A15 s1 b2 18 (own_al (own_d M 4)) (own_dI (own_d M 4))) [(.int 18), (.ref s1)])) (fun t_ k_ => XS.goto X.here hx rfl (pc0 := 123) (pc' := 39) rfl (hb hby ep7m2_d123) (by decide) (by decide) (XS.iloadN X.here hx rfl (hb hby ep7m2_d39) rfl (XS.bipush X.here hx rfl (hb hby ep7m2_d40) (XS.icmpNo X.here hx rfl (hb hby ep7m2_d42) rfl (tlt (by decide : (18 : Int32) < (22 : Int32))).2.1 (XS.aloadN X.here hx rfl (hb hby ep7m2_d45) rfl rfl (XS.iloadN X.here hx rfl (hb hby ep7m2_d46) rfl k_)))))) ?_
  obtain ⟨cq, kq, qa, qb, qc⟩ := isOf hZ eT E_s1
  obtain ⟨_, _, ⟨T, Lq, kq, nq⟩, -, X, ⟨Lc, hQ, lq, yq, zq⟩, st⟩ := X.virtualBack hx (y := own_y7) (z := own_y7) hown (mvT hZ (hw _ (own_w 46 rfl))) (mvT hZ (hw _ (own_w 47 rfl))) (notFace_of_selects (args := #[]) (mvT hZ (hw _ (own_w 49 rfl)))) (mvT hZ (hw _ (own_w 49 rfl))) (mvT hZ (hw _ (own_w 48 rfl))) (by decide) (backOf (W := 0) (own_charAt l Z a0 hw [] s1 (18 : Int32) va kv (22 : Int32) (own_BV M) (own_al (own_d M 3)) zc vS h21 n0 O E_s1 F_value_s1 F_coder_s1 V_va S_C hzc ⟨by decide, by decide⟩ rfl S_S hvS) hZ (hw _ (own_w 50 rfl)) (hw _ (own_w 38 rfl)) (by decide) (by decide)) qa qc (g := (mkF m 47 (own_A15 s1 b2 18 (own_al (own_d M 4)) (own_dI (own_d M 4))) [(.int 18), (.ref s1)])) rfl (by rw [hml]; rfl) (Steps.refl _) (argsL := [(.int 18)]) (rest := []) (lenOf own_pd7 rfl) rfl (by show 2 * 0 + _ ≤ _; exact Nat.le_of_eq rfl) (hb hby ep7m2_d47) (fun _ _ => ⟨rfl, eT, (by decide : 3 + 0 ≤ _), (by decide : 24 + 0 ≤ _)⟩)
  dsimp only [Pt.U, Pt.locs, Pt.cells, Pt.slots] at X lq yq zq st hQ
  rw [lq, yq, zq] at X
  obtain ⟨rfl, Nq, eT⟩ := hQ
  replace N := Fr.app N Nq
  refine own_viaT (g' := (mkF m 50 (own_A15 s1 b2 18 (own_al (own_d M 4)) (own_dI (own_d M 4))) [(.int ((own_al (own_d M 3)) &&& (255 : Int32)))])) st ?_
  rw [own_al255 (own_dB M 3)]
  have ha1 := own_al128 (own_dB M 3)
  have ha2 := own_dI0 (own_dB M 3)
  refine own_via (g' := (mkF m 52 (own_A15 s1 b2 18 (own_al (own_d M 3)) (own_dI (own_d M 4))) [(.int (own_al (own_d M 3)))])) (fun t_ k_ => XS.istoreN X.here hx rfl (hb hby ep7m2_d50) rfl (l' := (own_A15 s1 b2 18 (own_al (own_d M 3)) (own_dI (own_d M 4)))) rfl (XS.iloadN X.here hx rfl (hb hby ep7m2_d51) rfl k_)) ?_
  obtain ⟨T, X, eT, st⟩ := getS2 X hx hZ hown (host := "") (Or.inl (hw _ (own_w 125 rfl))) Via.refl eT (S_D.ext O.2) (g := (mkF m 52 (own_A15 s1 b2 18 (own_al (own_d M 3)) (own_dI (own_d M 4))) [(.int (own_al (own_d M 3)))])) rfl (hb hby ep7m2_d52)
  refine own_via (g' := (mkF m 55 (own_A15 s1 b2 18 (own_al (own_d M 3)) (own_dI (own_d M 4))) [(.ref wDG), (.int (own_al (own_d M 3)))])) st ?_
  have V_wDG := A_dg.ext O.2
  obtain ⟨cl_, Ar_, -, Sz_, Nn_, -, -⟩ := id V_wDG
  refine own_via (g' := (mkF m 56 (own_A15 s1 b2 18 (own_al (own_d M 3)) (own_dI (own_d M 4))) [(.int 128), (.int (own_al (own_d M 3)))])) (fun t_ k_ => X.arraylength hx (by rw [eT]; exact Ar_.1) (State.isArrayOf_alike hZ.alike Ar_.2.1) (g := (mkF m 55 (own_A15 s1 b2 18 (own_al (own_d M 3)) (own_dI (own_d M 4))) [(.ref wDG), (.int (own_al (own_d M 3)))])) rfl rfl (hb hby ep7m2_d55) _ (by rw [len_of Sz_ Nn_]; exact k_)) ?_
  refine own_via (g' := (mkF m 59 (own_A15 s1 b2 18 (own_al (own_d M 3)) (own_dI (own_d M 4))) [])) (fun t_ k_ => XS.icmpNo X.here hx rfl (hb hby ep7m2_d56) rfl (tlt ha1.2).2.1 k_) ?_
  obtain ⟨T, X, eT, st⟩ := getS2 X hx hZ hown (host := "") (Or.inl (hw _ (own_w 125 rfl))) Via.refl eT (S_D.ext O.2) (g := (mkF m 59 (own_A15 s1 b2 18 (own_al (own_d M 3)) (own_dI (own_d M 4))) [])) rfl (hb hby ep7m2_d59)
  refine own_via (g' := (mkF m 62 (own_A15 s1 b2 18 (own_al (own_d M 3)) (own_dI (own_d M 4))) [(.ref wDG)])) st ?_
  refine own_via (g' := (mkF m 63 (own_A15 s1 b2 18 (own_al (own_d M 3)) (own_dI (own_d M 4))) [(.int (own_al (own_d M 3))), (.ref wDG)])) (fun t_ k_ => XS.iloadN X.here hx rfl (hb hby ep7m2_d62) rfl k_) ?_
  have V_wDG := A_dg.ext O.2
  obtain ⟨cl_, Ar_, -, Sz_, Nn_, Hs_, -⟩ := id V_wDG
  have hin_ : ¬ ((own_al (own_d M 3)) < 0 ∨ cl_.slots.size ≤ ((own_al (own_d M 3))).toNatClampNeg) := inb_of Sz_ ha1
  have hat_ : cl_.slots[((own_al (own_d M 3))).toNatClampNeg]? = some (.int (own_dI (own_d M 3))) := Hs_.at hin_ (hdgs _ (own_dB M 3))
  refine own_via (g' := (mkF m 64 (own_A15 s1 b2 18 (own_al (own_d M 3)) (own_dI (own_d M 4))) [(.int (own_dI (own_d M 3)))])) (fun t_ k_ => X.iaload hx (j := (own_al (own_d M 3))) (v := (.int (own_dI (own_d M 3)))) (by rw [eT]; exact Ar_.1) (State.isArrayOf_alike hZ.alike Ar_.2.1) Ar_.2.2 hin_ hat_ (g := (mkF m 63 (own_A15 s1 b2 18 (own_al (own_d M 3)) (own_dI (own_d M 4))) [(.int (own_al (own_d M 3))), (.ref wDG)])) rfl rfl (hb hby ep7m2_d63) _ k_) ?_
  refine own_via (g' := (mkF m 93 (own_A15 s1 b2 18 (own_al (own_d M 3)) (own_dI (own_d M 3))) [(.ref b2)])) (fun t_ k_ => XS.goto X.here hx rfl (pc0 := 64) (pc' := 68) rfl (hb hby ep7m2_d64) (by decide) (by decide) (XS.istore X.here hx rfl (hb hby ep7m2_d68) rfl (l' := (own_A15 s1 b2 18 (own_al (own_d M 3)) (own_dI (own_d M 3)))) rfl (XS.iload X.here hx rfl (hb hby ep7m2_d70) rfl (XS.ifYes X.here hx rfl (pc0 := 72) (pc' := 92) rfl (hb hby ep7m2_d72) rfl ((if0 _ _).trans (flt ha2).2.1) (by decide) (by decide) (XS.aloadN X.here hx rfl (hb hby ep7m2_d92) rfl rfl k_))))) ?_
  obtain ⟨T, X, eT, st⟩ := getS2 X hx hZ hown (host := "") (Or.inl (hw _ (own_w 44 rfl))) Via.refl eT (S_B.ext O.2) (g := (mkF m 93 (own_A15 s1 b2 18 (own_al (own_d M 3)) (own_dI (own_d M 3))) [(.ref b2)])) rfl (hb hby ep7m2_d93)
  refine own_via (g' := (mkF m 96 (own_A15 s1 b2 18 (own_al (own_d M 3)) (own_dI (own_d M 3))) [(.int 62), (.ref b2)])) st ?_
  refine own_via (g' := (mkF m 98 (own_A15 s1 b2 18 (own_al (own_d M 3)) (own_dI (own_d M 3))) [(.int (own_dI (own_d M 3))), (.int 62), (.ref b2)])) (fun t_ k_ => XS.iload X.here hx rfl (hb hby ep7m2_d96) rfl k_) ?_
  obtain ⟨_, _, ⟨T, Lq, kq, nq⟩, -, X, ⟨Lc, hQ, lq, yq, zq⟩, st⟩ := Jvm.LawKit.callS X hx (y := own_y11) hown (mvT hZ (hw _ (own_w 127 rfl))) (mvT hZ (hw _ (own_w 128 rfl))) (mvT hZ (hw _ (own_w 5 rfl))) (mvT hZ (hw _ (own_w 129 rfl))) (by decide) (backOf (W := 0) (own_mulAdd l Z a0 hw [] b2 kb2 y18_0 y18_1 y18_2 y18_3 (own_dI (own_d M 3)) (M / 62 ^ 4) h21 n0 O E_b2 V_b2 g_b2 hL18 (by rw [own_dIv (own_dB M 3)]; exact (own_dB M 3)) (own_mulB hM1 hM2 3)) hZ (hw _ (own_w 129 rfl)) (hw _ (own_w 5 rfl)) (by decide) (by decide)) (g := (mkF m 98 (own_A15 s1 b2 18 (own_al (own_d M 3)) (own_dI (own_d M 3))) [(.int (own_dI (own_d M 3))), (.int 62), (.ref b2)])) rfl (by rw [hml]; rfl) (argsL := [(.ref b2), (.int 62), (.int (own_dI (own_d M 3)))]) (rest := []) (lenOf own_pd11 rfl) rfl (by show 2 * 0 + _ ≤ _; exact Nat.le_of_eq rfl) (hb hby ep7m2_d98) (fun _ _ => ⟨rfl, eT, (by decide : 3 + 0 ≤ _), (by decide : 24 + 0 ≤ _)⟩)
  dsimp only [Pt.U, Pt.locs, Pt.cells, Pt.slots] at X lq yq zq st hQ
  rw [lq, yq, zq] at X
  obtain ⟨y19_0, y19_1, y19_2, y19_3, rfl, Nq, Kq, V_b2, hL19⟩ := hQ
  replace N := Fr.app N Nq
  obtain ⟨h22, eT⟩ : ∃ z, T.heap = z := ⟨_, rfl⟩
  rw [eT] at Kq V_b2
  have So : ∀ x ∈ [b2], Safe Z own_EL _ h21 x := (allS S_b2 all0)
  replace E_s1 := E_s1.keep Kq
  replace F_value_s1 := F_value_s1.keep Kq (ninS ne_s1_b2 nin0)
  replace F_coder_s1 := F_coder_s1.keep Kq (ninS ne_s1_b2 nin0)
  replace V_va := V_va.keep Kq (ninS ne_va_b2 nin0)
  replace E_b2 := E_b2.keep Kq
  replace O := O.keep Kq (allS g_b2 all0)
  replace K0 := K0.trans Kq (allS (Or.inr sz_b2) all0)
  replace hk := Nat.le_trans hk Kq.1
  replace S_b2 := Safe.keep Kq So H.1 S_b2
  replace H := H.trans (CHr.keep Kq So H.1)
  refine own_via (g' := (mkF m 101 (own_A15 s1 b2 18 (own_al (own_d M 3)) (own_dI (own_d M 3))) [(.long 0)])) st ?_
  rw [own_dIv (own_dB M 3), show M / 62 ^ 4 * 62 + own_d M 3 = M / 62 ^ 3 from own_hor M 3] at hL19
  refine own_via (g' := (mkF m 123 (own_A15 s1 b2 ((18 : Int32) + (1 : Int32)) (own_al (own_d M 3)) (own_dI (own_d M 3))) [])) (fun t_ k_ => XS.lconst X.here hx rfl (hb hby ep7m2_d101) (XS.lcmp X.here hx rfl (hb hby ep7m2_d102) rfl (XS.ifYes X.here hx rfl (pc0 := 103) (pc' := 120) rfl (hb hby ep7m2_d103) rfl ((if0 _ _).trans (teq (own_cmpEq _)).1) (by decide) (by decide) (XS.iinc X.here hx rfl (hb hby ep7m2_d120) rfl (l' := (own_A15 s1 b2 ((18 : Int32) + (1 : Int32)) (own_al (own_d M 3)) (own_dI (own_d M 3)))) rfl k_)))) ?_
  rw [(by decide : ((18 : Int32) + (1 : Int32)) = (19 : Int32))]
  refine own_via (g' := (mkF m 47 (own_A15 s1 b2 19 (own_al (own_d M 3)) (own_dI (own_d M 3))) [(.int 19), (.ref s1)])) (fun t_ k_ => XS.goto X.here hx rfl (pc0 := 123) (pc' := 39) rfl (hb hby ep7m2_d123) (by decide) (by decide) (XS.iloadN X.here hx rfl (hb hby ep7m2_d39) rfl (XS.bipush X.here hx rfl (hb hby ep7m2_d40) (XS.icmpNo X.here hx rfl (hb hby ep7m2_d42) rfl (tlt (by decide : (19 : Int32) < (22 : Int32))).2.1 (XS.aloadN X.here hx rfl (hb hby ep7m2_d45) rfl rfl (XS.iloadN X.here hx rfl (hb hby ep7m2_d46) rfl k_)))))) ?_
  obtain ⟨cq, kq, qa, qb, qc⟩ := isOf hZ eT E_s1
  obtain ⟨_, _, ⟨T, Lq, kq, nq⟩, -, X, ⟨Lc, hQ, lq, yq, zq⟩, st⟩ := X.virtualBack hx (y := own_y7) (z := own_y7) hown (mvT hZ (hw _ (own_w 46 rfl))) (mvT hZ (hw _ (own_w 47 rfl))) (notFace_of_selects (args := #[]) (mvT hZ (hw _ (own_w 49 rfl)))) (mvT hZ (hw _ (own_w 49 rfl))) (mvT hZ (hw _ (own_w 48 rfl))) (by decide) (backOf (W := 0) (own_charAt l Z a0 hw [] s1 (19 : Int32) va kv (22 : Int32) (own_BV M) (own_al (own_d M 2)) zc vS h22 n0 O E_s1 F_value_s1 F_coder_s1 V_va S_C hzc ⟨by decide, by decide⟩ rfl S_S hvS) hZ (hw _ (own_w 50 rfl)) (hw _ (own_w 38 rfl)) (by decide) (by decide)) qa qc (g := (mkF m 47 (own_A15 s1 b2 19 (own_al (own_d M 3)) (own_dI (own_d M 3))) [(.int 19), (.ref s1)])) rfl (by rw [hml]; rfl) (Steps.refl _) (argsL := [(.int 19)]) (rest := []) (lenOf own_pd7 rfl) rfl (by show 2 * 0 + _ ≤ _; exact Nat.le_of_eq rfl) (hb hby ep7m2_d47) (fun _ _ => ⟨rfl, eT, (by decide : 3 + 0 ≤ _), (by decide : 24 + 0 ≤ _)⟩)
  dsimp only [Pt.U, Pt.locs, Pt.cells, Pt.slots] at X lq yq zq st hQ
  rw [lq, yq, zq] at X
  obtain ⟨rfl, Nq, eT⟩ := hQ
  replace N := Fr.app N Nq
  refine own_viaT (g' := (mkF m 50 (own_A15 s1 b2 19 (own_al (own_d M 3)) (own_dI (own_d M 3))) [(.int ((own_al (own_d M 2)) &&& (255 : Int32)))])) st ?_
  rw [own_al255 (own_dB M 2)]
  have ha1 := own_al128 (own_dB M 2)
  have ha2 := own_dI0 (own_dB M 2)
  refine own_via (g' := (mkF m 52 (own_A15 s1 b2 19 (own_al (own_d M 2)) (own_dI (own_d M 3))) [(.int (own_al (own_d M 2)))])) (fun t_ k_ => XS.istoreN X.here hx rfl (hb hby ep7m2_d50) rfl (l' := (own_A15 s1 b2 19 (own_al (own_d M 2)) (own_dI (own_d M 3)))) rfl (XS.iloadN X.here hx rfl (hb hby ep7m2_d51) rfl k_)) ?_
  obtain ⟨T, X, eT, st⟩ := getS2 X hx hZ hown (host := "") (Or.inl (hw _ (own_w 125 rfl))) Via.refl eT (S_D.ext O.2) (g := (mkF m 52 (own_A15 s1 b2 19 (own_al (own_d M 2)) (own_dI (own_d M 3))) [(.int (own_al (own_d M 2)))])) rfl (hb hby ep7m2_d52)
  refine own_via (g' := (mkF m 55 (own_A15 s1 b2 19 (own_al (own_d M 2)) (own_dI (own_d M 3))) [(.ref wDG), (.int (own_al (own_d M 2)))])) st ?_
  have V_wDG := A_dg.ext O.2
  obtain ⟨cl_, Ar_, -, Sz_, Nn_, -, -⟩ := id V_wDG
  refine own_via (g' := (mkF m 56 (own_A15 s1 b2 19 (own_al (own_d M 2)) (own_dI (own_d M 3))) [(.int 128), (.int (own_al (own_d M 2)))])) (fun t_ k_ => X.arraylength hx (by rw [eT]; exact Ar_.1) (State.isArrayOf_alike hZ.alike Ar_.2.1) (g := (mkF m 55 (own_A15 s1 b2 19 (own_al (own_d M 2)) (own_dI (own_d M 3))) [(.ref wDG), (.int (own_al (own_d M 2)))])) rfl rfl (hb hby ep7m2_d55) _ (by rw [len_of Sz_ Nn_]; exact k_)) ?_
  refine own_via (g' := (mkF m 59 (own_A15 s1 b2 19 (own_al (own_d M 2)) (own_dI (own_d M 3))) [])) (fun t_ k_ => XS.icmpNo X.here hx rfl (hb hby ep7m2_d56) rfl (tlt ha1.2).2.1 k_) ?_
  obtain ⟨T, X, eT, st⟩ := getS2 X hx hZ hown (host := "") (Or.inl (hw _ (own_w 125 rfl))) Via.refl eT (S_D.ext O.2) (g := (mkF m 59 (own_A15 s1 b2 19 (own_al (own_d M 2)) (own_dI (own_d M 3))) [])) rfl (hb hby ep7m2_d59)
  refine own_via (g' := (mkF m 62 (own_A15 s1 b2 19 (own_al (own_d M 2)) (own_dI (own_d M 3))) [(.ref wDG)])) st ?_
  refine own_via (g' := (mkF m 63 (own_A15 s1 b2 19 (own_al (own_d M 2)) (own_dI (own_d M 3))) [(.int (own_al (own_d M 2))), (.ref wDG)])) (fun t_ k_ => XS.iloadN X.here hx rfl (hb hby ep7m2_d62) rfl k_) ?_
  have V_wDG := A_dg.ext O.2
  obtain ⟨cl_, Ar_, -, Sz_, Nn_, Hs_, -⟩ := id V_wDG
  have hin_ : ¬ ((own_al (own_d M 2)) < 0 ∨ cl_.slots.size ≤ ((own_al (own_d M 2))).toNatClampNeg) := inb_of Sz_ ha1
  have hat_ : cl_.slots[((own_al (own_d M 2))).toNatClampNeg]? = some (.int (own_dI (own_d M 2))) := Hs_.at hin_ (hdgs _ (own_dB M 2))
  refine own_via (g' := (mkF m 64 (own_A15 s1 b2 19 (own_al (own_d M 2)) (own_dI (own_d M 3))) [(.int (own_dI (own_d M 2)))])) (fun t_ k_ => X.iaload hx (j := (own_al (own_d M 2))) (v := (.int (own_dI (own_d M 2)))) (by rw [eT]; exact Ar_.1) (State.isArrayOf_alike hZ.alike Ar_.2.1) Ar_.2.2 hin_ hat_ (g := (mkF m 63 (own_A15 s1 b2 19 (own_al (own_d M 2)) (own_dI (own_d M 3))) [(.int (own_al (own_d M 2))), (.ref wDG)])) rfl rfl (hb hby ep7m2_d63) _ k_) ?_
  refine own_via (g' := (mkF m 93 (own_A15 s1 b2 19 (own_al (own_d M 2)) (own_dI (own_d M 2))) [(.ref b2)])) (fun t_ k_ => XS.goto X.here hx rfl (pc0 := 64) (pc' := 68) rfl (hb hby ep7m2_d64) (by decide) (by decide) (XS.istore X.here hx rfl (hb hby ep7m2_d68) rfl (l' := (own_A15 s1 b2 19 (own_al (own_d M 2)) (own_dI (own_d M 2)))) rfl (XS.iload X.here hx rfl (hb hby ep7m2_d70) rfl (XS.ifYes X.here hx rfl (pc0 := 72) (pc' := 92) rfl (hb hby ep7m2_d72) rfl ((if0 _ _).trans (flt ha2).2.1) (by decide) (by decide) (XS.aloadN X.here hx rfl (hb hby ep7m2_d92) rfl rfl k_))))) ?_
  obtain ⟨T, X, eT, st⟩ := getS2 X hx hZ hown (host := "") (Or.inl (hw _ (own_w 44 rfl))) Via.refl eT (S_B.ext O.2) (g := (mkF m 93 (own_A15 s1 b2 19 (own_al (own_d M 2)) (own_dI (own_d M 2))) [(.ref b2)])) rfl (hb hby ep7m2_d93)
  refine own_via (g' := (mkF m 96 (own_A15 s1 b2 19 (own_al (own_d M 2)) (own_dI (own_d M 2))) [(.int 62), (.ref b2)])) st ?_
  refine own_via (g' := (mkF m 98 (own_A15 s1 b2 19 (own_al (own_d M 2)) (own_dI (own_d M 2))) [(.int (own_dI (own_d M 2))), (.int 62), (.ref b2)])) (fun t_ k_ => XS.iload X.here hx rfl (hb hby ep7m2_d96) rfl k_) ?_
  obtain ⟨_, _, ⟨T, Lq, kq, nq⟩, -, X, ⟨Lc, hQ, lq, yq, zq⟩, st⟩ := Jvm.LawKit.callS X hx (y := own_y11) hown (mvT hZ (hw _ (own_w 127 rfl))) (mvT hZ (hw _ (own_w 128 rfl))) (mvT hZ (hw _ (own_w 5 rfl))) (mvT hZ (hw _ (own_w 129 rfl))) (by decide) (backOf (W := 0) (own_mulAdd l Z a0 hw [] b2 kb2 y19_0 y19_1 y19_2 y19_3 (own_dI (own_d M 2)) (M / 62 ^ 3) h22 n0 O E_b2 V_b2 g_b2 hL19 (by rw [own_dIv (own_dB M 2)]; exact (own_dB M 2)) (own_mulB hM1 hM2 2)) hZ (hw _ (own_w 129 rfl)) (hw _ (own_w 5 rfl)) (by decide) (by decide)) (g := (mkF m 98 (own_A15 s1 b2 19 (own_al (own_d M 2)) (own_dI (own_d M 2))) [(.int (own_dI (own_d M 2))), (.int 62), (.ref b2)])) rfl (by rw [hml]; rfl) (argsL := [(.ref b2), (.int 62), (.int (own_dI (own_d M 2)))]) (rest := []) (lenOf own_pd11 rfl) rfl (by show 2 * 0 + _ ≤ _; exact Nat.le_of_eq rfl) (hb hby ep7m2_d98) (fun _ _ => ⟨rfl, eT, (by decide : 3 + 0 ≤ _), (by decide : 24 + 0 ≤ _)⟩)
  dsimp only [Pt.U, Pt.locs, Pt.cells, Pt.slots] at X lq yq zq st hQ
  rw [lq, yq, zq] at X
  obtain ⟨y20_0, y20_1, y20_2, y20_3, rfl, Nq, Kq, V_b2, hL20⟩ := hQ
  replace N := Fr.app N Nq
  obtain ⟨h23, eT⟩ : ∃ z, T.heap = z := ⟨_, rfl⟩
  rw [eT] at Kq V_b2
  have So : ∀ x ∈ [b2], Safe Z own_EL _ h22 x := (allS S_b2 all0)
  replace E_s1 := E_s1.keep Kq
  replace F_value_s1 := F_value_s1.keep Kq (ninS ne_s1_b2 nin0)
  replace F_coder_s1 := F_coder_s1.keep Kq (ninS ne_s1_b2 nin0)
  replace V_va := V_va.keep Kq (ninS ne_va_b2 nin0)
  replace E_b2 := E_b2.keep Kq
  replace O := O.keep Kq (allS g_b2 all0)
  replace K0 := K0.trans Kq (allS (Or.inr sz_b2) all0)
  replace hk := Nat.le_trans hk Kq.1
  replace S_b2 := Safe.keep Kq So H.1 S_b2
  replace H := H.trans (CHr.keep Kq So H.1)
  refine own_via (g' := (mkF m 101 (own_A15 s1 b2 19 (own_al (own_d M 2)) (own_dI (own_d M 2))) [(.long 0)])) st ?_
  rw [own_dIv (own_dB M 2), show M / 62 ^ 3 * 62 + own_d M 2 = M / 62 ^ 2 from own_hor M 2] at hL20
  refine own_via (g' := (mkF m 123 (own_A15 s1 b2 ((19 : Int32) + (1 : Int32)) (own_al (own_d M 2)) (own_dI (own_d M 2))) [])) (fun t_ k_ => XS.lconst X.here hx rfl (hb hby ep7m2_d101) (XS.lcmp X.here hx rfl (hb hby ep7m2_d102) rfl (XS.ifYes X.here hx rfl (pc0 := 103) (pc' := 120) rfl (hb hby ep7m2_d103) rfl ((if0 _ _).trans (teq (own_cmpEq _)).1) (by decide) (by decide) (XS.iinc X.here hx rfl (hb hby ep7m2_d120) rfl (l' := (own_A15 s1 b2 ((19 : Int32) + (1 : Int32)) (own_al (own_d M 2)) (own_dI (own_d M 2)))) rfl k_)))) ?_
  rw [(by decide : ((19 : Int32) + (1 : Int32)) = (20 : Int32))]
  refine own_via (g' := (mkF m 47 (own_A15 s1 b2 20 (own_al (own_d M 2)) (own_dI (own_d M 2))) [(.int 20), (.ref s1)])) (fun t_ k_ => XS.goto X.here hx rfl (pc0 := 123) (pc' := 39) rfl (hb hby ep7m2_d123) (by decide) (by decide) (XS.iloadN X.here hx rfl (hb hby ep7m2_d39) rfl (XS.bipush X.here hx rfl (hb hby ep7m2_d40) (XS.icmpNo X.here hx rfl (hb hby ep7m2_d42) rfl (tlt (by decide : (20 : Int32) < (22 : Int32))).2.1 (XS.aloadN X.here hx rfl (hb hby ep7m2_d45) rfl rfl (XS.iloadN X.here hx rfl (hb hby ep7m2_d46) rfl k_)))))) ?_
  obtain ⟨cq, kq, qa, qb, qc⟩ := isOf hZ eT E_s1
  obtain ⟨_, _, ⟨T, Lq, kq, nq⟩, -, X, ⟨Lc, hQ, lq, yq, zq⟩, st⟩ := X.virtualBack hx (y := own_y7) (z := own_y7) hown (mvT hZ (hw _ (own_w 46 rfl))) (mvT hZ (hw _ (own_w 47 rfl))) (notFace_of_selects (args := #[]) (mvT hZ (hw _ (own_w 49 rfl)))) (mvT hZ (hw _ (own_w 49 rfl))) (mvT hZ (hw _ (own_w 48 rfl))) (by decide) (backOf (W := 0) (own_charAt l Z a0 hw [] s1 (20 : Int32) va kv (22 : Int32) (own_BV M) (own_al (own_d M 1)) zc vS h23 n0 O E_s1 F_value_s1 F_coder_s1 V_va S_C hzc ⟨by decide, by decide⟩ rfl S_S hvS) hZ (hw _ (own_w 50 rfl)) (hw _ (own_w 38 rfl)) (by decide) (by decide)) qa qc (g := (mkF m 47 (own_A15 s1 b2 20 (own_al (own_d M 2)) (own_dI (own_d M 2))) [(.int 20), (.ref s1)])) rfl (by rw [hml]; rfl) (Steps.refl _) (argsL := [(.int 20)]) (rest := []) (lenOf own_pd7 rfl) rfl (by show 2 * 0 + _ ≤ _; exact Nat.le_of_eq rfl) (hb hby ep7m2_d47) (fun _ _ => ⟨rfl, eT, (by decide : 3 + 0 ≤ _), (by decide : 24 + 0 ≤ _)⟩)
  dsimp only [Pt.U, Pt.locs, Pt.cells, Pt.slots] at X lq yq zq st hQ
  rw [lq, yq, zq] at X
  obtain ⟨rfl, Nq, eT⟩ := hQ
  replace N := Fr.app N Nq
  refine own_viaT (g' := (mkF m 50 (own_A15 s1 b2 20 (own_al (own_d M 2)) (own_dI (own_d M 2))) [(.int ((own_al (own_d M 1)) &&& (255 : Int32)))])) st ?_
  rw [own_al255 (own_dB M 1)]
  have ha1 := own_al128 (own_dB M 1)
  have ha2 := own_dI0 (own_dB M 1)
  refine own_via (g' := (mkF m 52 (own_A15 s1 b2 20 (own_al (own_d M 1)) (own_dI (own_d M 2))) [(.int (own_al (own_d M 1)))])) (fun t_ k_ => XS.istoreN X.here hx rfl (hb hby ep7m2_d50) rfl (l' := (own_A15 s1 b2 20 (own_al (own_d M 1)) (own_dI (own_d M 2)))) rfl (XS.iloadN X.here hx rfl (hb hby ep7m2_d51) rfl k_)) ?_
  obtain ⟨T, X, eT, st⟩ := getS2 X hx hZ hown (host := "") (Or.inl (hw _ (own_w 125 rfl))) Via.refl eT (S_D.ext O.2) (g := (mkF m 52 (own_A15 s1 b2 20 (own_al (own_d M 1)) (own_dI (own_d M 2))) [(.int (own_al (own_d M 1)))])) rfl (hb hby ep7m2_d52)
  refine own_via (g' := (mkF m 55 (own_A15 s1 b2 20 (own_al (own_d M 1)) (own_dI (own_d M 2))) [(.ref wDG), (.int (own_al (own_d M 1)))])) st ?_
  have V_wDG := A_dg.ext O.2
  obtain ⟨cl_, Ar_, -, Sz_, Nn_, -, -⟩ := id V_wDG
  refine own_via (g' := (mkF m 56 (own_A15 s1 b2 20 (own_al (own_d M 1)) (own_dI (own_d M 2))) [(.int 128), (.int (own_al (own_d M 1)))])) (fun t_ k_ => X.arraylength hx (by rw [eT]; exact Ar_.1) (State.isArrayOf_alike hZ.alike Ar_.2.1) (g := (mkF m 55 (own_A15 s1 b2 20 (own_al (own_d M 1)) (own_dI (own_d M 2))) [(.ref wDG), (.int (own_al (own_d M 1)))])) rfl rfl (hb hby ep7m2_d55) _ (by rw [len_of Sz_ Nn_]; exact k_)) ?_
  refine own_via (g' := (mkF m 59 (own_A15 s1 b2 20 (own_al (own_d M 1)) (own_dI (own_d M 2))) [])) (fun t_ k_ => XS.icmpNo X.here hx rfl (hb hby ep7m2_d56) rfl (tlt ha1.2).2.1 k_) ?_
  obtain ⟨T, X, eT, st⟩ := getS2 X hx hZ hown (host := "") (Or.inl (hw _ (own_w 125 rfl))) Via.refl eT (S_D.ext O.2) (g := (mkF m 59 (own_A15 s1 b2 20 (own_al (own_d M 1)) (own_dI (own_d M 2))) [])) rfl (hb hby ep7m2_d59)
  refine own_via (g' := (mkF m 62 (own_A15 s1 b2 20 (own_al (own_d M 1)) (own_dI (own_d M 2))) [(.ref wDG)])) st ?_
  refine own_via (g' := (mkF m 63 (own_A15 s1 b2 20 (own_al (own_d M 1)) (own_dI (own_d M 2))) [(.int (own_al (own_d M 1))), (.ref wDG)])) (fun t_ k_ => XS.iloadN X.here hx rfl (hb hby ep7m2_d62) rfl k_) ?_
  have V_wDG := A_dg.ext O.2
  obtain ⟨cl_, Ar_, -, Sz_, Nn_, Hs_, -⟩ := id V_wDG
  have hin_ : ¬ ((own_al (own_d M 1)) < 0 ∨ cl_.slots.size ≤ ((own_al (own_d M 1))).toNatClampNeg) := inb_of Sz_ ha1
  have hat_ : cl_.slots[((own_al (own_d M 1))).toNatClampNeg]? = some (.int (own_dI (own_d M 1))) := Hs_.at hin_ (hdgs _ (own_dB M 1))
  refine own_via (g' := (mkF m 64 (own_A15 s1 b2 20 (own_al (own_d M 1)) (own_dI (own_d M 2))) [(.int (own_dI (own_d M 1)))])) (fun t_ k_ => X.iaload hx (j := (own_al (own_d M 1))) (v := (.int (own_dI (own_d M 1)))) (by rw [eT]; exact Ar_.1) (State.isArrayOf_alike hZ.alike Ar_.2.1) Ar_.2.2 hin_ hat_ (g := (mkF m 63 (own_A15 s1 b2 20 (own_al (own_d M 1)) (own_dI (own_d M 2))) [(.int (own_al (own_d M 1))), (.ref wDG)])) rfl rfl (hb hby ep7m2_d63) _ k_) ?_
  refine own_via (g' := (mkF m 93 (own_A15 s1 b2 20 (own_al (own_d M 1)) (own_dI (own_d M 1))) [(.ref b2)])) (fun t_ k_ => XS.goto X.here hx rfl (pc0 := 64) (pc' := 68) rfl (hb hby ep7m2_d64) (by decide) (by decide) (XS.istore X.here hx rfl (hb hby ep7m2_d68) rfl (l' := (own_A15 s1 b2 20 (own_al (own_d M 1)) (own_dI (own_d M 1)))) rfl (XS.iload X.here hx rfl (hb hby ep7m2_d70) rfl (XS.ifYes X.here hx rfl (pc0 := 72) (pc' := 92) rfl (hb hby ep7m2_d72) rfl ((if0 _ _).trans (flt ha2).2.1) (by decide) (by decide) (XS.aloadN X.here hx rfl (hb hby ep7m2_d92) rfl rfl k_))))) ?_
  obtain ⟨T, X, eT, st⟩ := getS2 X hx hZ hown (host := "") (Or.inl (hw _ (own_w 44 rfl))) Via.refl eT (S_B.ext O.2) (g := (mkF m 93 (own_A15 s1 b2 20 (own_al (own_d M 1)) (own_dI (own_d M 1))) [(.ref b2)])) rfl (hb hby ep7m2_d93)
  refine own_via (g' := (mkF m 96 (own_A15 s1 b2 20 (own_al (own_d M 1)) (own_dI (own_d M 1))) [(.int 62), (.ref b2)])) st ?_
  refine own_via (g' := (mkF m 98 (own_A15 s1 b2 20 (own_al (own_d M 1)) (own_dI (own_d M 1))) [(.int (own_dI (own_d M 1))), (.int 62), (.ref b2)])) (fun t_ k_ => XS.iload X.here hx rfl (hb hby ep7m2_d96) rfl k_) ?_
  obtain ⟨_, _, ⟨T, Lq, kq, nq⟩, -, X, ⟨Lc, hQ, lq, yq, zq⟩, st⟩ := Jvm.LawKit.callS X hx (y := own_y11) hown (mvT hZ (hw _ (own_w 127 rfl))) (mvT hZ (hw _ (own_w 128 rfl))) (mvT hZ (hw _ (own_w 5 rfl))) (mvT hZ (hw _ (own_w 129 rfl))) (by decide) (backOf (W := 0) (own_mulAdd l Z a0 hw [] b2 kb2 y20_0 y20_1 y20_2 y20_3 (own_dI (own_d M 1)) (M / 62 ^ 2) h23 n0 O E_b2 V_b2 g_b2 hL20 (by rw [own_dIv (own_dB M 1)]; exact (own_dB M 1)) (own_mulB hM1 hM2 1)) hZ (hw _ (own_w 129 rfl)) (hw _ (own_w 5 rfl)) (by decide) (by decide)) (g := (mkF m 98 (own_A15 s1 b2 20 (own_al (own_d M 1)) (own_dI (own_d M 1))) [(.int (own_dI (own_d M 1))), (.int 62), (.ref b2)])) rfl (by rw [hml]; rfl) (argsL := [(.ref b2), (.int 62), (.int (own_dI (own_d M 1)))]) (rest := []) (lenOf own_pd11 rfl) rfl (by show 2 * 0 + _ ≤ _; exact Nat.le_of_eq rfl) (hb hby ep7m2_d98) (fun _ _ => ⟨rfl, eT, (by decide : 3 + 0 ≤ _), (by decide : 24 + 0 ≤ _)⟩)
  dsimp only [Pt.U, Pt.locs, Pt.cells, Pt.slots] at X lq yq zq st hQ
  rw [lq, yq, zq] at X
  obtain ⟨y21_0, y21_1, y21_2, y21_3, rfl, Nq, Kq, V_b2, hL21⟩ := hQ
  replace N := Fr.app N Nq
  obtain ⟨h24, eT⟩ : ∃ z, T.heap = z := ⟨_, rfl⟩
  rw [eT] at Kq V_b2
  have So : ∀ x ∈ [b2], Safe Z own_EL _ h23 x := (allS S_b2 all0)
  replace E_s1 := E_s1.keep Kq
  replace F_value_s1 := F_value_s1.keep Kq (ninS ne_s1_b2 nin0)
  replace F_coder_s1 := F_coder_s1.keep Kq (ninS ne_s1_b2 nin0)
  replace V_va := V_va.keep Kq (ninS ne_va_b2 nin0)
  replace E_b2 := E_b2.keep Kq
  replace O := O.keep Kq (allS g_b2 all0)
  replace K0 := K0.trans Kq (allS (Or.inr sz_b2) all0)
  replace hk := Nat.le_trans hk Kq.1
  replace S_b2 := Safe.keep Kq So H.1 S_b2
  replace H := H.trans (CHr.keep Kq So H.1)
  refine own_via (g' := (mkF m 101 (own_A15 s1 b2 20 (own_al (own_d M 1)) (own_dI (own_d M 1))) [(.long 0)])) st ?_
  rw [own_dIv (own_dB M 1), show M / 62 ^ 2 * 62 + own_d M 1 = M / 62 ^ 1 from own_hor M 1] at hL21
  refine own_via (g' := (mkF m 123 (own_A15 s1 b2 ((20 : Int32) + (1 : Int32)) (own_al (own_d M 1)) (own_dI (own_d M 1))) [])) (fun t_ k_ => XS.lconst X.here hx rfl (hb hby ep7m2_d101) (XS.lcmp X.here hx rfl (hb hby ep7m2_d102) rfl (XS.ifYes X.here hx rfl (pc0 := 103) (pc' := 120) rfl (hb hby ep7m2_d103) rfl ((if0 _ _).trans (teq (own_cmpEq _)).1) (by decide) (by decide) (XS.iinc X.here hx rfl (hb hby ep7m2_d120) rfl (l' := (own_A15 s1 b2 ((20 : Int32) + (1 : Int32)) (own_al (own_d M 1)) (own_dI (own_d M 1)))) rfl k_)))) ?_
  rw [(by decide : ((20 : Int32) + (1 : Int32)) = (21 : Int32))]
  refine own_via (g' := (mkF m 47 (own_A15 s1 b2 21 (own_al (own_d M 1)) (own_dI (own_d M 1))) [(.int 21), (.ref s1)])) (fun t_ k_ => XS.goto X.here hx rfl (pc0 := 123) (pc' := 39) rfl (hb hby ep7m2_d123) (by decide) (by decide) (XS.iloadN X.here hx rfl (hb hby ep7m2_d39) rfl (XS.bipush X.here hx rfl (hb hby ep7m2_d40) (XS.icmpNo X.here hx rfl (hb hby ep7m2_d42) rfl (tlt (by decide : (21 : Int32) < (22 : Int32))).2.1 (XS.aloadN X.here hx rfl (hb hby ep7m2_d45) rfl rfl (XS.iloadN X.here hx rfl (hb hby ep7m2_d46) rfl k_)))))) ?_
  obtain ⟨cq, kq, qa, qb, qc⟩ := isOf hZ eT E_s1
  obtain ⟨_, _, ⟨T, Lq, kq, nq⟩, -, X, ⟨Lc, hQ, lq, yq, zq⟩, st⟩ := X.virtualBack hx (y := own_y7) (z := own_y7) hown (mvT hZ (hw _ (own_w 46 rfl))) (mvT hZ (hw _ (own_w 47 rfl))) (notFace_of_selects (args := #[]) (mvT hZ (hw _ (own_w 49 rfl)))) (mvT hZ (hw _ (own_w 49 rfl))) (mvT hZ (hw _ (own_w 48 rfl))) (by decide) (backOf (W := 0) (own_charAt l Z a0 hw [] s1 (21 : Int32) va kv (22 : Int32) (own_BV M) (own_al (own_d M 0)) zc vS h24 n0 O E_s1 F_value_s1 F_coder_s1 V_va S_C hzc ⟨by decide, by decide⟩ rfl S_S hvS) hZ (hw _ (own_w 50 rfl)) (hw _ (own_w 38 rfl)) (by decide) (by decide)) qa qc (g := (mkF m 47 (own_A15 s1 b2 21 (own_al (own_d M 1)) (own_dI (own_d M 1))) [(.int 21), (.ref s1)])) rfl (by rw [hml]; rfl) (Steps.refl _) (argsL := [(.int 21)]) (rest := []) (lenOf own_pd7 rfl) rfl (by show 2 * 0 + _ ≤ _; exact Nat.le_of_eq rfl) (hb hby ep7m2_d47) (fun _ _ => ⟨rfl, eT, (by decide : 3 + 0 ≤ _), (by decide : 24 + 0 ≤ _)⟩)
  dsimp only [Pt.U, Pt.locs, Pt.cells, Pt.slots] at X lq yq zq st hQ
  rw [lq, yq, zq] at X
  obtain ⟨rfl, Nq, eT⟩ := hQ
  replace N := Fr.app N Nq
  refine own_viaT (g' := (mkF m 50 (own_A15 s1 b2 21 (own_al (own_d M 1)) (own_dI (own_d M 1))) [(.int ((own_al (own_d M 0)) &&& (255 : Int32)))])) st ?_
  rw [own_al255 (own_dB M 0)]
  have ha1 := own_al128 (own_dB M 0)
  have ha2 := own_dI0 (own_dB M 0)
  refine own_via (g' := (mkF m 52 (own_A15 s1 b2 21 (own_al (own_d M 0)) (own_dI (own_d M 1))) [(.int (own_al (own_d M 0)))])) (fun t_ k_ => XS.istoreN X.here hx rfl (hb hby ep7m2_d50) rfl (l' := (own_A15 s1 b2 21 (own_al (own_d M 0)) (own_dI (own_d M 1)))) rfl (XS.iloadN X.here hx rfl (hb hby ep7m2_d51) rfl k_)) ?_
  obtain ⟨T, X, eT, st⟩ := getS2 X hx hZ hown (host := "") (Or.inl (hw _ (own_w 125 rfl))) Via.refl eT (S_D.ext O.2) (g := (mkF m 52 (own_A15 s1 b2 21 (own_al (own_d M 0)) (own_dI (own_d M 1))) [(.int (own_al (own_d M 0)))])) rfl (hb hby ep7m2_d52)
  refine own_via (g' := (mkF m 55 (own_A15 s1 b2 21 (own_al (own_d M 0)) (own_dI (own_d M 1))) [(.ref wDG), (.int (own_al (own_d M 0)))])) st ?_
  have V_wDG := A_dg.ext O.2
  obtain ⟨cl_, Ar_, -, Sz_, Nn_, -, -⟩ := id V_wDG
  refine own_via (g' := (mkF m 56 (own_A15 s1 b2 21 (own_al (own_d M 0)) (own_dI (own_d M 1))) [(.int 128), (.int (own_al (own_d M 0)))])) (fun t_ k_ => X.arraylength hx (by rw [eT]; exact Ar_.1) (State.isArrayOf_alike hZ.alike Ar_.2.1) (g := (mkF m 55 (own_A15 s1 b2 21 (own_al (own_d M 0)) (own_dI (own_d M 1))) [(.ref wDG), (.int (own_al (own_d M 0)))])) rfl rfl (hb hby ep7m2_d55) _ (by rw [len_of Sz_ Nn_]; exact k_)) ?_
  refine own_via (g' := (mkF m 59 (own_A15 s1 b2 21 (own_al (own_d M 0)) (own_dI (own_d M 1))) [])) (fun t_ k_ => XS.icmpNo X.here hx rfl (hb hby ep7m2_d56) rfl (tlt ha1.2).2.1 k_) ?_
  obtain ⟨T, X, eT, st⟩ := getS2 X hx hZ hown (host := "") (Or.inl (hw _ (own_w 125 rfl))) Via.refl eT (S_D.ext O.2) (g := (mkF m 59 (own_A15 s1 b2 21 (own_al (own_d M 0)) (own_dI (own_d M 1))) [])) rfl (hb hby ep7m2_d59)
  refine own_via (g' := (mkF m 62 (own_A15 s1 b2 21 (own_al (own_d M 0)) (own_dI (own_d M 1))) [(.ref wDG)])) st ?_
  refine own_via (g' := (mkF m 63 (own_A15 s1 b2 21 (own_al (own_d M 0)) (own_dI (own_d M 1))) [(.int (own_al (own_d M 0))), (.ref wDG)])) (fun t_ k_ => XS.iloadN X.here hx rfl (hb hby ep7m2_d62) rfl k_) ?_
  have V_wDG := A_dg.ext O.2
  obtain ⟨cl_, Ar_, -, Sz_, Nn_, Hs_, -⟩ := id V_wDG
  have hin_ : ¬ ((own_al (own_d M 0)) < 0 ∨ cl_.slots.size ≤ ((own_al (own_d M 0))).toNatClampNeg) := inb_of Sz_ ha1
  have hat_ : cl_.slots[((own_al (own_d M 0))).toNatClampNeg]? = some (.int (own_dI (own_d M 0))) := Hs_.at hin_ (hdgs _ (own_dB M 0))
  refine own_via (g' := (mkF m 64 (own_A15 s1 b2 21 (own_al (own_d M 0)) (own_dI (own_d M 1))) [(.int (own_dI (own_d M 0)))])) (fun t_ k_ => X.iaload hx (j := (own_al (own_d M 0))) (v := (.int (own_dI (own_d M 0)))) (by rw [eT]; exact Ar_.1) (State.isArrayOf_alike hZ.alike Ar_.2.1) Ar_.2.2 hin_ hat_ (g := (mkF m 63 (own_A15 s1 b2 21 (own_al (own_d M 0)) (own_dI (own_d M 1))) [(.int (own_al (own_d M 0))), (.ref wDG)])) rfl rfl (hb hby ep7m2_d63) _ k_) ?_
  refine own_via (g' := (mkF m 93 (own_A15 s1 b2 21 (own_al (own_d M 0)) (own_dI (own_d M 0))) [(.ref b2)])) (fun t_ k_ => XS.goto X.here hx rfl (pc0 := 64) (pc' := 68) rfl (hb hby ep7m2_d64) (by decide) (by decide) (XS.istore X.here hx rfl (hb hby ep7m2_d68) rfl (l' := (own_A15 s1 b2 21 (own_al (own_d M 0)) (own_dI (own_d M 0)))) rfl (XS.iload X.here hx rfl (hb hby ep7m2_d70) rfl (XS.ifYes X.here hx rfl (pc0 := 72) (pc' := 92) rfl (hb hby ep7m2_d72) rfl ((if0 _ _).trans (flt ha2).2.1) (by decide) (by decide) (XS.aloadN X.here hx rfl (hb hby ep7m2_d92) rfl rfl k_))))) ?_
  obtain ⟨T, X, eT, st⟩ := getS2 X hx hZ hown (host := "") (Or.inl (hw _ (own_w 44 rfl))) Via.refl eT (S_B.ext O.2) (g := (mkF m 93 (own_A15 s1 b2 21 (own_al (own_d M 0)) (own_dI (own_d M 0))) [(.ref b2)])) rfl (hb hby ep7m2_d93)
  refine own_via (g' := (mkF m 96 (own_A15 s1 b2 21 (own_al (own_d M 0)) (own_dI (own_d M 0))) [(.int 62), (.ref b2)])) st ?_
  refine own_via (g' := (mkF m 98 (own_A15 s1 b2 21 (own_al (own_d M 0)) (own_dI (own_d M 0))) [(.int (own_dI (own_d M 0))), (.int 62), (.ref b2)])) (fun t_ k_ => XS.iload X.here hx rfl (hb hby ep7m2_d96) rfl k_) ?_
  obtain ⟨_, _, ⟨T, Lq, kq, nq⟩, -, X, ⟨Lc, hQ, lq, yq, zq⟩, st⟩ := Jvm.LawKit.callS X hx (y := own_y11) hown (mvT hZ (hw _ (own_w 127 rfl))) (mvT hZ (hw _ (own_w 128 rfl))) (mvT hZ (hw _ (own_w 5 rfl))) (mvT hZ (hw _ (own_w 129 rfl))) (by decide) (backOf (W := 0) (own_mulAdd l Z a0 hw [] b2 kb2 y21_0 y21_1 y21_2 y21_3 (own_dI (own_d M 0)) (M / 62 ^ 1) h24 n0 O E_b2 V_b2 g_b2 hL21 (by rw [own_dIv (own_dB M 0)]; exact (own_dB M 0)) (own_mulB hM1 hM2 0)) hZ (hw _ (own_w 129 rfl)) (hw _ (own_w 5 rfl)) (by decide) (by decide)) (g := (mkF m 98 (own_A15 s1 b2 21 (own_al (own_d M 0)) (own_dI (own_d M 0))) [(.int (own_dI (own_d M 0))), (.int 62), (.ref b2)])) rfl (by rw [hml]; rfl) (argsL := [(.ref b2), (.int 62), (.int (own_dI (own_d M 0)))]) (rest := []) (lenOf own_pd11 rfl) rfl (by show 2 * 0 + _ ≤ _; exact Nat.le_of_eq rfl) (hb hby ep7m2_d98) (fun _ _ => ⟨rfl, eT, (by decide : 3 + 0 ≤ _), (by decide : 24 + 0 ≤ _)⟩)
  dsimp only [Pt.U, Pt.locs, Pt.cells, Pt.slots] at X lq yq zq st hQ
  rw [lq, yq, zq] at X
  obtain ⟨y22_0, y22_1, y22_2, y22_3, rfl, Nq, Kq, V_b2, hL22⟩ := hQ
  replace N := Fr.app N Nq
  obtain ⟨h25, eT⟩ : ∃ z, T.heap = z := ⟨_, rfl⟩
  rw [eT] at Kq V_b2
  have So : ∀ x ∈ [b2], Safe Z own_EL _ h24 x := (allS S_b2 all0)
  replace E_s1 := E_s1.keep Kq
  replace F_value_s1 := F_value_s1.keep Kq (ninS ne_s1_b2 nin0)
  replace F_coder_s1 := F_coder_s1.keep Kq (ninS ne_s1_b2 nin0)
  replace V_va := V_va.keep Kq (ninS ne_va_b2 nin0)
  replace E_b2 := E_b2.keep Kq
  replace O := O.keep Kq (allS g_b2 all0)
  replace K0 := K0.trans Kq (allS (Or.inr sz_b2) all0)
  replace hk := Nat.le_trans hk Kq.1
  replace S_b2 := Safe.keep Kq So H.1 S_b2
  replace H := H.trans (CHr.keep Kq So H.1)
  refine own_via (g' := (mkF m 101 (own_A15 s1 b2 21 (own_al (own_d M 0)) (own_dI (own_d M 0))) [(.long 0)])) st ?_
  rw [own_dIv (own_dB M 0), show M / 62 ^ 1 * 62 + own_d M 0 = M / 62 ^ 0 from own_hor M 0] at hL22
  refine own_via (g' := (mkF m 123 (own_A15 s1 b2 ((21 : Int32) + (1 : Int32)) (own_al (own_d M 0)) (own_dI (own_d M 0))) [])) (fun t_ k_ => XS.lconst X.here hx rfl (hb hby ep7m2_d101) (XS.lcmp X.here hx rfl (hb hby ep7m2_d102) rfl (XS.ifYes X.here hx rfl (pc0 := 103) (pc' := 120) rfl (hb hby ep7m2_d103) rfl ((if0 _ _).trans (teq (own_cmpEq _)).1) (by decide) (by decide) (XS.iinc X.here hx rfl (hb hby ep7m2_d120) rfl (l' := (own_A15 s1 b2 ((21 : Int32) + (1 : Int32)) (own_al (own_d M 0)) (own_dI (own_d M 0)))) rfl k_)))) ?_
  rw [(by decide : ((21 : Int32) + (1 : Int32)) = (22 : Int32))]
  refine own_via (g' := (mkF m 126 (own_A15 s1 b2 22 (own_al (own_d M 0)) (own_dI (own_d M 0))) [])) (fun t_ k_ => XS.goto X.here hx rfl (pc0 := 123) (pc' := 39) rfl (hb hby ep7m2_d123) (by decide) (by decide) (XS.iloadN X.here hx rfl (hb hby ep7m2_d39) rfl (XS.bipush X.here hx rfl (hb hby ep7m2_d40) (XS.icmpYes X.here hx rfl (pc0 := 42) (pc' := 126) rfl (hb hby ep7m2_d42) rfl (flt (by decide : ¬ ((22 : Int32) < (22 : Int32)))).2.1 (by decide) (by decide) k_)))) ?_
  rw [Int.pow_zero, Int.ediv_one, hM] at hL22
  refine own_via (g' := (mkF m 128 (own_A15 s1 b2 22 (own_al (own_d M 0)) (own_dI (own_d M 0))) [(.int 0), (.ref b2)])) (fun t_ k_ => XS.aloadN X.here hx rfl (hb hby ep7m2_d126) rfl rfl (XS.iconst X.here hx rfl (hb hby ep7m2_d127) k_)) ?_
  obtain ⟨cl_, Ar_, -, Sz_, Nn_, Hs_, -⟩ := id V_b2
  have hin_ : ¬ ((0 : Int32) < 0 ∨ cl_.slots.size ≤ ((0 : Int32)).toNatClampNeg) := inb_of Sz_ ⟨by decide, by decide⟩
  have hat_ : cl_.slots[((0 : Int32)).toNatClampNeg]? = some (.long y22_0) := Hs_.at hin_ rfl
  refine own_via (g' := (mkF m 134 (own_A15 s1 b2 22 (own_al (own_d M 0)) (own_dI (own_d M 0))) [(.int 1), (.ref b2), (.long (y22_0 <<< ((32 : Int32) &&& 0x3f).toInt64))])) (fun t_ k_ => X.laload hx (j := (0 : Int32)) (v := (.long y22_0)) (by rw [eT]; exact Ar_.1) (State.isArrayOf_alike hZ.alike Ar_.2.1) Ar_.2.2 hin_ hat_ (g := (mkF m 128 (own_A15 s1 b2 22 (own_al (own_d M 0)) (own_dI (own_d M 0))) [(.int 0), (.ref b2)])) rfl rfl (hb hby ep7m2_d128) _ (XS.bipush X.here hx rfl (hb hby ep7m2_d129) (XS.lshl X.here hx rfl (hb hby ep7m2_d131) rfl (XS.aloadN X.here hx rfl (hb hby ep7m2_d132) rfl rfl (XS.iconst X.here hx rfl (hb hby ep7m2_d133) k_))))) ?_
  obtain ⟨cl_, Ar_, -, Sz_, Nn_, Hs_, -⟩ := id V_b2
  have hin_ : ¬ ((1 : Int32) < 0 ∨ cl_.slots.size ≤ ((1 : Int32)).toNatClampNeg) := inb_of Sz_ ⟨by decide, by decide⟩
  have hat_ : cl_.slots[((1 : Int32)).toNatClampNeg]? = some (.long y22_1) := Hs_.at hin_ rfl
  refine own_via (g' := (mkF m 137 (own_A14 s1 b2 ((y22_0 <<< ((32 : Int32) &&& 0x3f).toInt64) ||| y22_1) (own_dI (own_d M 0))) [])) (fun t_ k_ => X.laload hx (j := (1 : Int32)) (v := (.long y22_1)) (by rw [eT]; exact Ar_.1) (State.isArrayOf_alike hZ.alike Ar_.2.1) Ar_.2.2 hin_ hat_ (g := (mkF m 134 (own_A15 s1 b2 22 (own_al (own_d M 0)) (own_dI (own_d M 0))) [(.int 1), (.ref b2), (.long (y22_0 <<< ((32 : Int32) &&& 0x3f).toInt64))])) rfl rfl (hb hby ep7m2_d134) _ (XS.lor X.here hx rfl (hb hby ep7m2_d135) rfl (XS.lstoreN X.here hx rfl (hb hby ep7m2_d136) rfl (l' := (own_A14 s1 b2 ((y22_0 <<< ((32 : Int32) &&& 0x3f).toInt64) ||| y22_1) (own_dI (own_d M 0)))) rfl k_))) ?_
  have eb1 := (own_back hok hL22 rfl).1
  rw [eb1]
  refine own_via (g' := (mkF m 139 (own_A14 s1 b2 tt (own_dI (own_d M 0))) [(.int 2), (.ref b2)])) (fun t_ k_ => XS.aloadN X.here hx rfl (hb hby ep7m2_d137) rfl rfl (XS.iconst X.here hx rfl (hb hby ep7m2_d138) k_)) ?_
  obtain ⟨cl_, Ar_, -, Sz_, Nn_, Hs_, -⟩ := id V_b2
  have hin_ : ¬ ((2 : Int32) < 0 ∨ cl_.slots.size ≤ ((2 : Int32)).toNatClampNeg) := inb_of Sz_ ⟨by decide, by decide⟩
  have hat_ : cl_.slots[((2 : Int32)).toNatClampNeg]? = some (.long y22_2) := Hs_.at hin_ rfl
  refine own_via (g' := (mkF m 145 (own_A14 s1 b2 tt (own_dI (own_d M 0))) [(.int 3), (.ref b2), (.long (y22_2 <<< ((32 : Int32) &&& 0x3f).toInt64))])) (fun t_ k_ => X.laload hx (j := (2 : Int32)) (v := (.long y22_2)) (by rw [eT]; exact Ar_.1) (State.isArrayOf_alike hZ.alike Ar_.2.1) Ar_.2.2 hin_ hat_ (g := (mkF m 139 (own_A14 s1 b2 tt (own_dI (own_d M 0))) [(.int 2), (.ref b2)])) rfl rfl (hb hby ep7m2_d139) _ (XS.bipush X.here hx rfl (hb hby ep7m2_d140) (XS.lshl X.here hx rfl (hb hby ep7m2_d142) rfl (XS.aloadN X.here hx rfl (hb hby ep7m2_d143) rfl rfl (XS.iconst X.here hx rfl (hb hby ep7m2_d144) k_))))) ?_
  obtain ⟨cl_, Ar_, -, Sz_, Nn_, Hs_, -⟩ := id V_b2
  have hin_ : ¬ ((3 : Int32) < 0 ∨ cl_.slots.size ≤ ((3 : Int32)).toNatClampNeg) := inb_of Sz_ ⟨by decide, by decide⟩
  have hat_ : cl_.slots[((3 : Int32)).toNatClampNeg]? = some (.long y22_3) := Hs_.at hin_ rfl
  refine own_via (g' := (mkF m 149 (own_A18 s1 b2 tt ((y22_2 <<< ((32 : Int32) &&& 0x3f).toInt64) ||| y22_3)) [])) (fun t_ k_ => X.laload hx (j := (3 : Int32)) (v := (.long y22_3)) (by rw [eT]; exact Ar_.1) (State.isArrayOf_alike hZ.alike Ar_.2.1) Ar_.2.2 hin_ hat_ (g := (mkF m 145 (own_A14 s1 b2 tt (own_dI (own_d M 0))) [(.int 3), (.ref b2), (.long (y22_2 <<< ((32 : Int32) &&& 0x3f).toInt64))])) rfl rfl (hb hby ep7m2_d145) _ (XS.lor X.here hx rfl (hb hby ep7m2_d146) rfl (XS.lstore X.here hx rfl (hb hby ep7m2_d147) rfl (l' := (own_A18 s1 b2 tt ((y22_2 <<< ((32 : Int32) &&& 0x3f).toInt64) ||| y22_3))) rfl k_))) ?_
  obtain ⟨lo, hd_lo⟩ : ∃ z, z = ((y22_2 <<< ((32 : Int32) &&& 0x3f).toInt64) ||| y22_3) := ⟨_, rfl⟩
  rw [← hd_lo]
  obtain ⟨-, eb2, eb3⟩ := own_back hok hL22 hd_lo
  obtain ⟨b26, gb⟩ : ∃ z, z = h25.size := ⟨_, rfl⟩
  obtain ⟨T, h27, X, eT, E, E_b26, Dq, -, st⟩ := newO X hx hZ hown (hw _ (own_w 130 rfl)) (hw _ (own_w 4 rfl)) (hw _ (own_w 5 rfl)) eT (g := (mkF m 149 (own_A18 s1 b2 tt lo) [])) rfl (hb hby ep7m2_d149) (by decide) (by decide)
  rw [← gb] at E_b26 Dq st
  have ne_b2_b26 : b2 ≠ b26 := Nat.ne_of_lt (Nat.lt_of_lt_of_le E_b2.lt (Nat.le_of_eq gb.symm))
  have ne_s1_b26 : s1 ≠ b26 := Nat.ne_of_lt (Nat.lt_of_lt_of_le E_s1.lt (Nat.le_of_eq gb.symm))
  have ne_va_b26 : va ≠ b26 := Nat.ne_of_lt (Nat.lt_of_lt_of_le V_va.lt (Nat.le_of_eq gb.symm))
  have S_b26 := own_safeNew H (Nat.le_of_eq gb.symm)
  have g_b26 : n0 ≤ b26 := Nat.le_trans (own_le O) (Nat.le_of_eq gb.symm)
  have sz_b26 : h0.size ≤ b26 := Nat.le_trans K0.1 (Nat.le_of_eq gb.symm)
  replace E_s1 := E_s1.ext E
  replace F_value_s1 := F_value_s1.ext E
  replace F_coder_s1 := F_coder_s1.ext E
  replace V_va := V_va.ext E
  replace E_b2 := E_b2.ext E
  replace V_b2 := V_b2.ext E
  replace O := O.ext E
  replace K0 := K0.ext E
  replace hk := Nat.le_trans hk E.1
  replace S_b2 := Safe.ext E H.1 S_b2
  replace S_b26 := Safe.ext E H.1 S_b26
  replace H := H.trans (CHr.ext E H.1)
  have F_timeMillis_b26 : Fld Z h27 b26 "com/example/nuthatch/nuthatch/EventId" "timeMillis" "J" (.long 0) := Dq (Or.inr (hw _ (own_w 20 rfl))) (ty := .long) (by decide)
  have F_worker_b26 : Fld Z h27 b26 "com/example/nuthatch/nuthatch/EventId" "worker" "J" (.long 0) := Dq (Or.inr (hw _ (own_w 22 rfl))) (ty := .long) (by decide)
  have F_sequence_b26 : Fld Z h27 b26 "com/example/nuthatch/nuthatch/EventId" "sequence" "I" (.int 0) := Dq (Or.inr (hw _ (own_w 24 rfl))) (ty := .int) (by decide)
  refine own_via (g' := (mkF m 152 (own_A18 s1 b2 tt lo) [(.ref b26)])) st ?_
  refine own_via (g' := (mkF m 159 (own_A18 s1 b2 tt lo) [(.long ((lo.toUInt64 >>> ((16 : Int32) &&& 0x3f).toInt64.toUInt64).toInt64)), (.long tt), (.ref b26), (.ref b26)])) (fun t_ k_ => XS.dup X.here hx rfl (hb hby ep7m2_d152) rfl rfl (XS.lloadN X.here hx rfl (hb hby ep7m2_d153) rfl (XS.lload X.here hx rfl (hb hby ep7m2_d154) rfl (XS.bipush X.here hx rfl (hb hby ep7m2_d156) (XS.lushr X.here hx rfl (hb hby ep7m2_d158) rfl k_))))) ?_
  rw [eb2]
  refine own_via (g' := (mkF m 166 (own_A18 s1 b2 tt lo) [(.int ((lo &&& (65535 : Int64)).toInt32)), (.long ww), (.long tt), (.ref b26), (.ref b26)])) (fun t_ k_ => XS.lload X.here hx rfl (hb hby ep7m2_d159) rfl (X.ldc2Long hx hown (mvT hZ (hw _ (own_w 131 rfl))) (g := (mkF m 161 (own_A18 s1 b2 tt lo) [(.long lo), (.long ww), (.long tt), (.ref b26), (.ref b26)])) rfl (hb hby ep7m2_d161) _ (XS.land X.here hx rfl (hb hby ep7m2_d164) rfl (XS.l2i X.here hx rfl (hb hby ep7m2_d165) rfl k_)))) ?_
  rw [eb3]
  obtain ⟨_, _, ⟨T, Lq, kq, nq⟩, -, X, ⟨Lc, hQ, lq, yq, zq⟩, st⟩ := X.specialBack hx (y := own_y12) rfl hown (mvT hZ (hw _ (own_w 132 rfl))) (mvT hZ (hw _ (own_w 7 rfl))) (mvT hZ (hw _ (own_w 8 rfl))) (by decide) (backOf (W := 1) (own_init l Z a0 hw [] b26 tt ww qq h27 n0 O E_b26 F_timeMillis_b26 F_worker_b26 F_sequence_b26 g_b26 hok) hZ (hw _ (own_w 8 rfl)) (hw _ (own_w 5 rfl)) (by decide) (by decide)) (g := (mkF m 166 (own_A18 s1 b2 tt lo) [(.int qq), (.long ww), (.long tt), (.ref b26), (.ref b26)])) rfl (by rw [hml]; rfl) (Steps.refl _) (a := b26) (argsL := [(.long tt), (.long ww), (.int qq)]) (rest := [(.ref b26)]) (lenOf own_pd12 rfl) rfl (by show 2 * 0 + _ ≤ _; exact Nat.le_of_eq rfl) (hb hby ep7m2_d166) (fun _ _ => ⟨rfl, eT, (by decide : 4 + 0 ≤ _), (by decide : 27 + 0 ≤ _)⟩)
  dsimp only [Pt.U, Pt.locs, Pt.cells, Pt.slots] at X lq yq zq st hQ
  rw [lq, yq, zq] at X
  obtain ⟨rfl, Nq, Kq, F_timeMillis_b26, F_worker_b26, F_sequence_b26⟩ := hQ
  replace N := Fr.app N Nq
  obtain ⟨h28, eT⟩ : ∃ z, T.heap = z := ⟨_, rfl⟩
  rw [eT] at Kq F_timeMillis_b26 F_worker_b26 F_sequence_b26
  have So : ∀ x ∈ [b26], Safe Z own_EL _ h27 x := (allS S_b26 all0)
  replace E_s1 := E_s1.keep Kq
  replace F_value_s1 := F_value_s1.keep Kq (ninS ne_s1_b26 nin0)
  replace F_coder_s1 := F_coder_s1.keep Kq (ninS ne_s1_b26 nin0)
  replace V_va := V_va.keep Kq (ninS ne_va_b26 nin0)
  replace E_b2 := E_b2.keep Kq
  replace V_b2 := V_b2.keep Kq (ninS ne_b2_b26 nin0)
  replace E_b26 := E_b26.keep Kq
  replace O := O.keep Kq (allS g_b26 all0)
  replace K0 := K0.trans Kq (allS (Or.inr sz_b26) all0)
  replace hk := Nat.le_trans hk Kq.1
  replace S_b2 := Safe.keep Kq So H.1 S_b2
  replace S_b26 := Safe.keep Kq So H.1 S_b26
  replace H := H.trans (CHr.keep Kq So H.1)
  refine own_viaT (g' := (mkF m 169 (own_A18 s1 b2 tt lo) [(.ref b26)])) st ?_
  refine own_retWW X hS (by rw [eT]; exact hk) hx hlk Bd.returns rfl (Or.inr (Or.inr (Or.inr (Or.inr ⟨rfl, rfl, rfl⟩)))) (hb hby ep7m2_d169) (by decide) (by decide) (fun fs => by show CHr Z own_EL s.vm s.heap T.vm T.heap; rw [eT, hh]; exact H.trans (CHv.at X hZ hEL H.1)) ?_
  rw [eT]
  exact ⟨b26, rfl, N, K0, E_b26, F_timeMillis_b26, F_worker_b26, F_sequence_b26⟩
theorem own_law_pn : plainFor x = true := by first | exact plainFor_of_name (by first | (simp [plainName, overriddenIn]; done) | decide +kernel) | decide +kernel | exact Jvm.Free.JP.mathPlain rfl (by decide +kernel)
theorem own_law_ef (m : MethodId) (x0 : Int64) (x1 : Int64) (x2 : Int32) (x3 : Int32) : entryFrame m #[(.long x0), (.long x1), (.int x2), (.int x3)] maxLocals = mkF m 0 #[.val (.long x0), .second, .val (.long x1), .second, .val (.int x2), .val (.int x3), .unset, .unset, .unset, .unset, .unset, .unset, .unset, .unset, .unset, .unset, .unset, .unset, .unset] [] := by first | (simp [entryFrame, mkF, argsToLocals, Value.category, maxLocals]; done) | rfl
def own_law_Q (Z : State) (p0 : Int64) (p1 : Int64) (p2 : Int32) (p3 : Int32) (wDG : Addr) (kDG : ClassId) (dgs : List Value) (zc : Int32) (vS : Value) (h0 : Heap) (n0 : Nat) (v : Option Value) (h : Heap) (L : List Loc) : Prop := v = some (.int 1) ∧ Fr n0 L ∧ True
set_option maxRecDepth 65536 in
set_option maxHeartbeats 40000000 in
theorem own_law (l : Launch) (Z : State) (a0 : Array Value) (hw : ∀ d ∈ tables_1, d.before a0 Z = true) (ws : List Jvm.Cond) (p0 : Int64) (p1 : Int64) (p2 : Int32) (p3 : Int32) (wDG : Addr) (kDG : ClassId) (dgs : List Value) (zc : Int32) (vS : Value) (h0 : Heap) (n0 : Nat) (O : Old Z n0 h0) (S_D : Sta Z Z.heap "com/example/nuthatch/nuthatch/EventId" "DIGITS" "[I" (.ref wDG)) (A_dg : Arv Z Z.heap wDG kDG .int (128 : Int32) dgs (.int 0)) (hdgs : ∀ z : Int, 0 ≤ z ∧ z < 62 → dgs.getD (own_al z).toNatClampNeg (.int 0) = .int (own_dI z)) (S_B : Sta Z Z.heap "com/example/nuthatch/nuthatch/EventId" "BASE" "I" (.int 62)) (S_C : Sta Z Z.heap "java/lang/String" "COMPACT_STRINGS" "Z" (.int zc)) (hzc : ¬ zc = 0) (S_S : Sta Z Z.heap "jdk/internal/util/Preconditions" "SIOOBE_FORMATTER" "Ljava/util/function/BiFunction;" vS) (hvS : vS.isRef = true) :
    MetFree l x (head1 (Jvm.Cond.code x code maxLocals ret :: ws) room_1) (fun a U => a = #[(.long p0), (.long p1), (.int p2), (.int p3)] ∧ Z.Warmed39 U.vm ∧ U.heap = h0 ∧ CHv Z own_EL U.vm h0) (fun _ _ _ _ _ => True) (fun _ U o U' => ∃ v L, o = .returned v ∧ own_law_Q Z p0 p1 p2 p3 wDG kDG dgs zc vS h0 n0 v U'.heap L ∧ True ∧ ReturnedEndW U o U' L room_1.cells room_1.slots) := by
  refine MetFree.of_bodySF own_law_pn hisR ?_
  intro p e s m args below meth c s₁ Bd hml0 hP hK
  obtain ⟨rfl, hZ, hh, H0⟩ := hP
  have hx := Bd.exec
  have hby := Bd.bytes
  have hlk := Bd.notSynchronized
  have hml : c.maxLocals = 19 := hml0
  have hown : s.vm.findClass "com/example/nuthatch/nuthatch/EventIdWritePinLaw" = some m.cls := findClass_of_methodNamed Bd.named
  have hnm := (name_of_methodNamed Bd.named Bd.method).1
  have X : Stand p l e room_1 s m #[(.long p0), (.long p1), (.int p2), (.int p3)] below meth c s₁ [] 0 0 := Stand.of_body Bd
  have eT : s₁.heap = h0 := by rw [← hh, Bd.state]; rfl
  have N := Fr.nil n0
  have K0 := Keep.refl h0 []
  show own_Ends p e below (own_PostW s below (own_law_Q Z p0 p1 p2 p3 wDG kDG dgs zc vS h0 n0) (fun _ => True) room_1.cells room_1.slots) s₁ (entryFrame m #[(.long p0), (.long p1), (.int p2), (.int p3)] maxLocals)
  rw [own_law_ef m p0 p1 p2 p3]
  obtain ⟨T, hT⟩ : ∃ z, z = s₁ := ⟨_, rfl⟩
  rw [← hT] at X eT ⊢
  obtain ⟨h, hh0⟩ : ∃ z, z = h0 := ⟨_, rfl⟩
  rw [← hh0] at eT
  replace O : Old Z n0 h := by rw [hh0]; exact O
  replace K0 : Keep h0 h [] := by rw [hh0]; exact K0
  have wS : ∀ a ∈ Bundle.stringAtoms, a.before a0 Z = true := fun a ha => hw a ((by decide +kernel : ∀ d ∈ Bundle.stringAtoms, d ∈ tables_1) a ha)
  have hEL := own_hEL hw
  have hws : ∀ d ∈ StrChars.Road.words, d.before a0 Z = true := fun d hd => hw d ((by decide +kernel : ∀ d ∈ StrChars.Road.words, d ∈ tables_1) d hd)
  have H : CHr Z own_EL s.vm h0 s.vm h := by rw [hh0]; exact CHr.refl H0
  replace X := own_base X
  have hS := (State.WarmedH.refl s).since h0.size
  have hk : h0.size ≤ h.size := K0.1
  replace hZ : Z.Warmed39 (s.setVm s.vm).vm := hZ
  replace hown : (s.setVm s.vm).vm.findClass "com/example/nuthatch/nuthatch/EventIdWritePinLaw" = some m.cls := hown
  refine own_via (g' := (mkF m 7 (own_A8 p0 p1 p2 p3 (p0 &&& (9223372036854775807 : Int64))) [])) (fun t_ k_ => XS.lloadN X.here hx rfl (hb hby at_0) rfl (X.ldc2Long hx hown (mvT hZ (hw _ (own_w 0 rfl))) (g := (mkF m 1 #[.val (.long p0), .second, .val (.long p1), .second, .val (.int p2), .val (.int p3), .unset, .unset, .unset, .unset, .unset, .unset, .unset, .unset, .unset, .unset, .unset, .unset, .unset] [(.long p0)])) rfl (hb hby at_1) _ (XS.land X.here hx rfl (hb hby at_4) rfl (XS.lstore X.here hx rfl (hb hby at_5) rfl (l' := (own_A8 p0 p1 p2 p3 (p0 &&& (9223372036854775807 : Int64)))) rfl k_)))) ?_
  obtain ⟨tt, hd_tt⟩ : ∃ z, z = (p0 &&& (9223372036854775807 : Int64)) := ⟨_, rfl⟩
  rw [← hd_tt]
  refine own_via (g' := (mkF m 14 (own_A5 p0 p1 p2 p3 tt (p1 &&& (281474976710655 : Int64))) [])) (fun t_ k_ => XS.lloadN X.here hx rfl (hb hby at_7) rfl (X.ldc2Long hx hown (mvT hZ (hw _ (own_w 1 rfl))) (g := (mkF m 8 #[.val (.long p0), .second, .val (.long p1), .second, .val (.int p2), .val (.int p3), .val (.long tt), .second, .unset, .unset, .unset, .unset, .unset, .unset, .unset, .unset, .unset, .unset, .unset] [(.long p1)])) rfl (hb hby at_8) _ (XS.land X.here hx rfl (hb hby at_11) rfl (XS.lstore X.here hx rfl (hb hby at_12) rfl (l' := (own_A5 p0 p1 p2 p3 tt (p1 &&& (281474976710655 : Int64)))) rfl k_)))) ?_
  obtain ⟨ww, hd_ww⟩ : ∃ z, z = (p1 &&& (281474976710655 : Int64)) := ⟨_, rfl⟩
  rw [← hd_ww]
  refine own_via (g' := (mkF m 21 (own_A7 p0 p1 p2 p3 tt ww (p2 &&& (65535 : Int32))) [])) (fun t_ k_ => XS.iload X.here hx rfl (hb hby at_14) rfl (X.ldcInt hx hown (mvT hZ (hw _ (own_w 2 rfl))) (g := (mkF m 16 (own_A5 p0 p1 p2 p3 tt ww) [(.int p2)])) rfl (hb hby at_16) _ (XS.iand X.here hx rfl (hb hby at_18) rfl (XS.istore X.here hx rfl (hb hby at_19) rfl (l' := (own_A7 p0 p1 p2 p3 tt ww (p2 &&& (65535 : Int32)))) rfl k_)))) ?_
  obtain ⟨qq, hd_qq⟩ : ∃ z, z = (p2 &&& (65535 : Int32)) := ⟨_, rfl⟩
  rw [← hd_qq]
  refine own_via (g' := (mkF m 27 (own_A4 p0 p1 p2 p3 tt ww qq (p3 &&& (3 : Int32))) [])) (fun t_ k_ => XS.iload X.here hx rfl (hb hby at_21) rfl (XS.iconst X.here hx rfl (hb hby at_23) (XS.iand X.here hx rfl (hb hby at_24) rfl (XS.istore X.here hx rfl (hb hby at_25) rfl (l' := (own_A4 p0 p1 p2 p3 tt ww qq (p3 &&& (3 : Int32)))) rfl k_)))) ?_
  obtain ⟨oo, hd_oo⟩ : ∃ z, z = (p3 &&& (3 : Int32)) := ⟨_, rfl⟩
  rw [← hd_oo]
  have hok : own_ok tt ww qq := by rw [hd_tt, hd_ww, hd_qq]; exact own_parts p0 p1 p2
  obtain ⟨no, ho, hno⟩ := own_offs p3
  rw [← hd_oo] at ho
  obtain ⟨M, hM⟩ : ∃ z, z = own_N tt ww qq := ⟨_, rfl⟩
  obtain ⟨hM1, hM2⟩ := own_NB hok
  rw [← hM] at hM1 hM2
  obtain ⟨b1, gb⟩ : ∃ z, z = h.size := ⟨_, rfl⟩
  obtain ⟨T, h2, X, eT, E, E_b1, Dq, -, st⟩ := newO X hx hZ hown (hw _ (own_w 3 rfl)) (hw _ (own_w 4 rfl)) (hw _ (own_w 5 rfl)) eT (g := (mkF m 27 (own_A4 p0 p1 p2 p3 tt ww qq oo) [])) rfl (hb hby at_27) (by decide) (by decide)
  rw [← gb] at E_b1 Dq st
  have S_b1 := own_safeNew H (Nat.le_of_eq gb.symm)
  have g_b1 : n0 ≤ b1 := Nat.le_trans (own_le O) (Nat.le_of_eq gb.symm)
  have sz_b1 : h0.size ≤ b1 := Nat.le_trans K0.1 (Nat.le_of_eq gb.symm)
  replace O := O.ext E
  replace K0 := K0.ext E
  replace hk := Nat.le_trans hk E.1
  replace S_b1 := Safe.ext E H.1 S_b1
  replace H := H.trans (CHr.ext E H.1)
  have F_timeMillis_b1 : Fld Z h2 b1 "com/example/nuthatch/nuthatch/EventId" "timeMillis" "J" (.long 0) := Dq (Or.inr (hw _ (own_w 20 rfl))) (ty := .long) (by decide)
  have F_worker_b1 : Fld Z h2 b1 "com/example/nuthatch/nuthatch/EventId" "worker" "J" (.long 0) := Dq (Or.inr (hw _ (own_w 22 rfl))) (ty := .long) (by decide)
  have F_sequence_b1 : Fld Z h2 b1 "com/example/nuthatch/nuthatch/EventId" "sequence" "I" (.int 0) := Dq (Or.inr (hw _ (own_w 24 rfl))) (ty := .int) (by decide)
  refine own_via (g' := (mkF m 30 (own_A4 p0 p1 p2 p3 tt ww qq oo) [(.ref b1)])) st ?_
  refine own_via (g' := (mkF m 37 (own_A4 p0 p1 p2 p3 tt ww qq oo) [(.int qq), (.long ww), (.long tt), (.ref b1), (.ref b1)])) (fun t_ k_ => XS.dup X.here hx rfl (hb hby at_30) rfl rfl (XS.lload X.here hx rfl (hb hby at_31) rfl (XS.lload X.here hx rfl (hb hby at_33) rfl (XS.iload X.here hx rfl (hb hby at_35) rfl k_)))) ?_
  obtain ⟨_, _, ⟨T, Lq, kq, nq⟩, -, X, ⟨Lc, hQ, lq, yq, zq⟩, st⟩ := X.specialBack hx (y := own_y12) rfl hown (mvT hZ (hw _ (own_w 6 rfl))) (mvT hZ (hw _ (own_w 7 rfl))) (mvT hZ (hw _ (own_w 8 rfl))) (by decide) (backOf (W := 1) (own_init l Z a0 hw [] b1 tt ww qq h2 n0 O E_b1 F_timeMillis_b1 F_worker_b1 F_sequence_b1 g_b1 hok) hZ (hw _ (own_w 8 rfl)) (hw _ (own_w 5 rfl)) (by decide) (by decide)) (g := (mkF m 37 (own_A4 p0 p1 p2 p3 tt ww qq oo) [(.int qq), (.long ww), (.long tt), (.ref b1), (.ref b1)])) rfl (by rw [hml]; rfl) (Steps.refl _) (a := b1) (argsL := [(.long tt), (.long ww), (.int qq)]) (rest := [(.ref b1)]) (lenOf own_pd12 rfl) rfl (by show 2 * 0 + _ ≤ _; exact Nat.le_of_eq rfl) (hb hby at_37) (fun _ _ => ⟨rfl, eT, (by decide : 1 + 0 ≤ _), (by decide : 3 + 0 ≤ _)⟩)
  dsimp only [Pt.U, Pt.locs, Pt.cells, Pt.slots] at X lq yq zq st hQ
  rw [lq, yq, zq] at X
  obtain ⟨rfl, Nq, Kq, F_timeMillis_b1, F_worker_b1, F_sequence_b1⟩ := hQ
  replace N := Fr.app N Nq
  obtain ⟨h3, eT⟩ : ∃ z, T.heap = z := ⟨_, rfl⟩
  rw [eT] at Kq F_timeMillis_b1 F_worker_b1 F_sequence_b1
  have So : ∀ x ∈ [b1], Safe Z own_EL _ h2 x := (allS S_b1 all0)
  replace E_b1 := E_b1.keep Kq
  replace O := O.keep Kq (allS g_b1 all0)
  replace K0 := K0.trans Kq (allS (Or.inr sz_b1) all0)
  replace hk := Nat.le_trans hk Kq.1
  replace S_b1 := Safe.keep Kq So H.1 S_b1
  replace H := H.trans (CHr.keep Kq So H.1)
  refine own_viaT (g' := (mkF m 40 (own_A4 p0 p1 p2 p3 tt ww qq oo) [(.ref b1)])) st ?_
  refine own_via (g' := (mkF m 44 (own_A9 p0 p1 p2 p3 tt ww qq oo b1) [(.int 26)])) (fun t_ k_ => XS.astore X.here hx rfl (hb hby at_40) rfl rfl (l' := (own_A9 p0 p1 p2 p3 tt ww qq oo b1)) rfl (XS.bipush X.here hx rfl (hb hby at_42) k_)) ?_
  obtain ⟨b4, gb⟩ : ∃ z, z = h3.size := ⟨_, rfl⟩
  obtain ⟨T, h5, kb4, X, eT, E, A_, E_b4, st⟩ := newPE X hx hZ (hw _ (own_w 25 rfl)) eT (g := (mkF m 44 (own_A9 p0 p1 p2 p3 tt ww qq oo b1) [(.int 26)])) rfl (hb hby at_44) rfl (by decide) (cap := 26) (by decide) (by decide) (by decide) (by decide) (ad := "[B") (by decide)
  rw [← gb] at A_ E_b4 st
  have ne_b1_b4 : b1 ≠ b4 := Nat.ne_of_lt (Nat.lt_of_lt_of_le E_b1.lt (Nat.le_of_eq gb.symm))
  have S_b4 := own_safeNew H (Nat.le_of_eq gb.symm)
  have g_b4 : n0 ≤ b4 := Nat.le_trans (own_le O) (Nat.le_of_eq gb.symm)
  have sz_b4 : h0.size ≤ b4 := Nat.le_trans K0.1 (Nat.le_of_eq gb.symm)
  replace E_b1 := E_b1.ext E
  replace F_timeMillis_b1 := F_timeMillis_b1.ext E
  replace F_worker_b1 := F_worker_b1.ext E
  replace F_sequence_b1 := F_sequence_b1.ext E
  replace O := O.ext E
  replace K0 := K0.ext E
  replace hk := Nat.le_trans hk E.1
  replace S_b1 := Safe.ext E H.1 S_b1
  replace S_b4 := Safe.ext E H.1 S_b4
  replace H := H.trans (CHr.ext E H.1)
  have V_b4 : Arv Z h5 b4 kb4 .byte (26 : Int32) [(.int 0), (.int 0), (.int 0), (.int 0), (.int 0), (.int 0), (.int 0), (.int 0), (.int 0), (.int 0), (.int 0), (.int 0), (.int 0), (.int 0), (.int 0), (.int 0), (.int 0), (.int 0), (.int 0), (.int 0), (.int 0), (.int 0), (.int 0), (.int 0), (.int 0), (.int 0)] (.int 0) := (Arv.new A_ (by decide)).pad (pad_rep [] (.int 0) 26)
  refine own_via (g' := (mkF m 46 (own_A9 p0 p1 p2 p3 tt ww qq oo b1) [(.ref b4)])) st ?_
  refine own_via (g' := (mkF m 54 (own_A6 p0 p1 p2 p3 tt ww qq oo b1 b4) [(.int oo), (.ref b4), (.ref b1)])) (fun t_ k_ => XS.astore X.here hx rfl (hb hby at_46) rfl rfl (l' := (own_A6 p0 p1 p2 p3 tt ww qq oo b1 b4)) rfl (XS.aload X.here hx rfl (hb hby at_48) rfl rfl (XS.aload X.here hx rfl (hb hby at_50) rfl rfl (XS.iload X.here hx rfl (hb hby at_52) rfl k_)))) ?_
  have LT_b1 := E_b1.lt
  have LT_b4 := E_b4.lt
  obtain ⟨cq, kq, qa, qb, qc⟩ := isOf hZ eT E_b1
  obtain ⟨_, _, ⟨T, Lq, kq, nq⟩, -, X, hSq, hgr, ⟨Lc, hQ, lq, yq, zq, hCH⟩, st⟩ := X.virtualBackS hx (y := own_y13) (z := own_y13) hown (mvT hZ (hw _ (own_w 26 rfl))) (mvT hZ (hw _ (own_w 27 rfl))) (notFace_of_selects (args := #[]) (mvT hZ (hw _ (own_w 29 rfl)))) (mvT hZ (hw _ (own_w 29 rfl))) (mvT hZ (hw _ (own_w 28 rfl))) (by decide) (own_backSH2 (W := 0) (s := s) (own_write l Z a0 hw [] b1 b4 kb4 oo no tt ww qq M zc vS h5 n0 O E_b1 F_timeMillis_b1 F_worker_b1 F_sequence_b1 E_b4 V_b4 g_b4 ho hno hok hM S_B S_C hzc S_S hvS) hZ (hw _ (own_w 30 rfl)) (hw _ (own_w 5 rfl)) (by decide) (by decide) hEL H.1 E_b4.lt S_b4) qa qc (g := (mkF m 54 (own_A6 p0 p1 p2 p3 tt ww qq oo b1 b4) [(.int oo), (.ref b4), (.ref b1)])) rfl (by rw [hml]; rfl) (Steps.refl _) (argsL := [(.ref b4), (.int oo)]) (rest := []) (lenOf own_pd13 rfl) rfl (by show 2 * 0 + _ ≤ _; exact Nat.le_of_eq rfl) (hb hby at_54) (fun _ _ => ⟨rfl, eT, (by decide : 2 + 3 ≤ _), (by decide : 29 + 256 ≤ _)⟩)
  dsimp only [Pt.U, Pt.locs, Pt.cells, Pt.slots] at X hSq hgr lq yq zq st hQ hCH
  rw [lq, yq, zq] at X
  obtain ⟨rfl, Nq, Kq, V_b4⟩ := hQ
  replace N := Fr.app N Nq
  replace hS := own_reS hS hSq (Nat.le_trans hk (by rw [← eT]; exact hgr))
  replace hZ := own_reZ hZ hSq
  replace hown := own_reown hown hSq
  replace hk := Nat.le_refl T.heap.size
  obtain ⟨vmW, eW⟩ : ∃ z, T.vm = z := ⟨_, rfl⟩
  rw [eW] at X hS hZ hown hCH
  replace X := own_flat X
  obtain ⟨h6, eT⟩ : ∃ z, T.heap = z := ⟨_, rfl⟩
  rw [eT] at Kq V_b4
  replace E_b1 := E_b1.keep Kq
  replace F_timeMillis_b1 := F_timeMillis_b1.keep Kq (ninS ne_b1_b4 nin0)
  replace F_worker_b1 := F_worker_b1.keep Kq (ninS ne_b1_b4 nin0)
  replace F_sequence_b1 := F_sequence_b1.keep Kq (ninS ne_b1_b4 nin0)
  replace E_b4 := E_b4.keep Kq
  replace O := O.keep Kq (allS g_b4 all0)
  replace K0 := K0.trans Kq (allS (Or.inr sz_b4) all0)
  rw [eT] at hk hS
  rw [eT] at hCH
  replace S_b1 := hCH.safe LT_b1 S_b1
  replace S_b4 := hCH.safe LT_b4 S_b4
  replace H := H.trans hCH
  refine own_viaT (g' := (mkF m 57 (own_A6 p0 p1 p2 p3 tt ww qq oo b1 b4) [])) st ?_
  refine own_via (g' := (mkF m 61 (own_A6 p0 p1 p2 p3 tt ww qq oo b1 b4) [(.int oo), (.ref b4)])) (fun t_ k_ => XS.aload X.here hx rfl (hb hby at_57) rfl rfl (XS.iload X.here hx rfl (hb hby at_59) rfl k_)) ?_
  obtain ⟨_, _, ⟨T, Lq, kq, nq⟩, -, X, ⟨Lc, hQ, lq, yq, zq⟩, st⟩ := Jvm.LawKit.callS X hx (y := own_y14) hown (mvT hZ (hw _ (own_w 71 rfl))) (mvT hZ (hw _ (own_w 72 rfl))) (mvT hZ (hw _ (own_w 73 rfl))) (mvT hZ (hw _ (own_w 74 rfl))) (by decide) (backOf (W := 0) (own_untouched l Z a0 hw [] b4 kb4 oo no M h6 n0 O V_b4 ho hno) hZ (hw _ (own_w 74 rfl)) (hw _ (own_w 73 rfl)) (by decide) (by decide)) (g := (mkF m 61 (own_A6 p0 p1 p2 p3 tt ww qq oo b1 b4) [(.int oo), (.ref b4)])) rfl (by rw [hml]; rfl) (argsL := [(.ref b4), (.int oo)]) (rest := []) (lenOf own_pd14 rfl) rfl (by show 2 * 0 + _ ≤ _; exact Nat.le_of_eq rfl) (hb hby at_61) (fun _ _ => ⟨rfl, eT, (by decide : 5 + 0 ≤ _), (by decide : 285 + 0 ≤ _)⟩)
  dsimp only [Pt.U, Pt.locs, Pt.cells, Pt.slots] at X lq yq zq st hQ
  rw [lq, yq, zq] at X
  obtain ⟨rfl, Nq, eT⟩ := hQ
  replace N := Fr.app N Nq
  refine own_via (g' := (mkF m 64 (own_A6 p0 p1 p2 p3 tt ww qq oo b1 b4) [(.int 1)])) st ?_
  refine own_via (g' := (mkF m 71 (own_A6 p0 p1 p2 p3 tt ww qq oo b1 b4) [(.int 22)])) (fun t_ k_ => XS.ifYes X.here hx rfl (pc0 := 64) (pc' := 69) rfl (hb hby at_64) rfl ((if0 _ _).trans (feq (by decide : ¬ ((1 : Int32) = (0 : Int32)))).2) (by decide) (by decide) (XS.bipush X.here hx rfl (hb hby at_69) k_)) ?_
  obtain ⟨b7, gb⟩ : ∃ z, z = h6.size := ⟨_, rfl⟩
  obtain ⟨T, h8, kb7, X, eT, E, A_, E_b7, st⟩ := newPE X hx hZ (hw _ (own_w 75 rfl)) eT (g := (mkF m 71 (own_A6 p0 p1 p2 p3 tt ww qq oo b1 b4) [(.int 22)])) rfl (hb hby at_71) rfl (by decide) (cap := 22) (by decide) (by decide) (by decide) (by decide) (ad := "[C") (by decide)
  rw [← gb] at A_ E_b7 st
  have ne_b1_b7 : b1 ≠ b7 := Nat.ne_of_lt (Nat.lt_of_lt_of_le E_b1.lt (Nat.le_of_eq gb.symm))
  have ne_b4_b7 : b4 ≠ b7 := Nat.ne_of_lt (Nat.lt_of_lt_of_le E_b4.lt (Nat.le_of_eq gb.symm))
  have S_b7 := own_safeNew H (Nat.le_of_eq gb.symm)
  have g_b7 : n0 ≤ b7 := Nat.le_trans (own_le O) (Nat.le_of_eq gb.symm)
  have sz_b7 : h0.size ≤ b7 := Nat.le_trans K0.1 (Nat.le_of_eq gb.symm)
  replace E_b1 := E_b1.ext E
  replace F_timeMillis_b1 := F_timeMillis_b1.ext E
  replace F_worker_b1 := F_worker_b1.ext E
  replace F_sequence_b1 := F_sequence_b1.ext E
  replace E_b4 := E_b4.ext E
  replace V_b4 := V_b4.ext E
  replace O := O.ext E
  replace K0 := K0.ext E
  replace hk := Nat.le_trans hk E.1
  replace S_b1 := Safe.ext E H.1 S_b1
  replace S_b4 := Safe.ext E H.1 S_b4
  replace S_b7 := Safe.ext E H.1 S_b7
  replace H := H.trans (CHr.ext E H.1)
  have V_b7 : Arv Z h8 b7 kb7 .char (22 : Int32) [(.int 0), (.int 0), (.int 0), (.int 0), (.int 0), (.int 0), (.int 0), (.int 0), (.int 0), (.int 0), (.int 0), (.int 0), (.int 0), (.int 0), (.int 0), (.int 0), (.int 0), (.int 0), (.int 0), (.int 0), (.int 0), (.int 0)] (.int 0) := (Arv.new A_ (by decide)).pad (pad_rep [] (.int 0) 22)
  refine own_via (g' := (mkF m 73 (own_A6 p0 p1 p2 p3 tt ww qq oo b1 b4) [(.ref b7)])) st ?_
  refine own_via (g' := (mkF m 82 (own_A3 p0 p1 p2 p3 tt ww qq oo b1 b4 b7) [(.ref b7), (.int 0), (.int oo), (.ref b4)])) (fun t_ k_ => XS.astore X.here hx rfl (hb hby at_73) rfl rfl (l' := (own_A3 p0 p1 p2 p3 tt ww qq oo b1 b4 b7)) rfl (XS.aload X.here hx rfl (hb hby at_75) rfl rfl (XS.iload X.here hx rfl (hb hby at_77) rfl (XS.iconst X.here hx rfl (hb hby at_79) (XS.aload X.here hx rfl (hb hby at_80) rfl rfl k_))))) ?_
  have hof := own_at2 (own_off ho hno (0 : Int32) 0 (by decide) (by decide)) hno (by decide)
  obtain ⟨_, _, ⟨T, Lq, kq, nq⟩, -, X, ⟨Lc, hQ, lq, yq, zq⟩, st⟩ := Jvm.LawKit.callS X hx (y := own_y15) hown (mvT hZ (hw _ (own_w 76 rfl))) (mvT hZ (hw _ (own_w 77 rfl))) (mvT hZ (hw _ (own_w 73 rfl))) (mvT hZ (hw _ (own_w 78 rfl))) (by decide) (backOf (W := 0) (own_take l Z a0 hw [] b4 b7 kb4 kb7 oo (0 : Int32) (own_into no M) [(.int 0), (.int 0), (.int 0), (.int 0), (.int 0), (.int 0), (.int 0), (.int 0), (.int 0), (.int 0), (.int 0), (.int 0), (.int 0), (.int 0), (.int 0), (.int 0), (.int 0), (.int 0), (.int 0), (.int 0), (.int 0), (.int 0)] (own_al (own_d M 21)) 0 h8 n0 O V_b4 V_b7 E_b7 E_b4 g_b7 (own_alm (own_dB M 21)) hof.1 (by rw [hof.2]; exact own_g0 hno) ⟨by decide, by decide⟩ (by decide) (Nat.le_of_ble_eq_true rfl)) hZ (hw _ (own_w 78 rfl)) (hw _ (own_w 73 rfl)) (by decide) (by decide)) (g := (mkF m 82 (own_A3 p0 p1 p2 p3 tt ww qq oo b1 b4 b7) [(.ref b7), (.int 0), (.int oo), (.ref b4)])) rfl (by rw [hml]; rfl) (argsL := [(.ref b4), (.int oo), (.int 0), (.ref b7)]) (rest := []) (lenOf own_pd15 rfl) rfl (by show 2 * 0 + _ ≤ _; exact Nat.le_of_eq rfl) (hb hby at_82) (fun _ _ => ⟨rfl, eT, (by decide : 6 + 0 ≤ _), (by decide : 307 + 0 ≤ _)⟩)
  dsimp only [Pt.U, Pt.locs, Pt.cells, Pt.slots] at X lq yq zq st hQ
  rw [lq, yq, zq] at X
  obtain ⟨rfl, Nq, Kq, V_b7⟩ := hQ
  replace N := Fr.app N Nq
  obtain ⟨h9, eT⟩ : ∃ z, T.heap = z := ⟨_, rfl⟩
  rw [eT] at Kq V_b7
  have So : ∀ x ∈ [b7], Safe Z own_EL _ h8 x := (allS S_b7 all0)
  replace E_b1 := E_b1.keep Kq
  replace F_timeMillis_b1 := F_timeMillis_b1.keep Kq (ninS ne_b1_b7 nin0)
  replace F_worker_b1 := F_worker_b1.keep Kq (ninS ne_b1_b7 nin0)
  replace F_sequence_b1 := F_sequence_b1.keep Kq (ninS ne_b1_b7 nin0)
  replace E_b4 := E_b4.keep Kq
  replace V_b4 := V_b4.keep Kq (ninS ne_b4_b7 nin0)
  replace E_b7 := E_b7.keep Kq
  replace O := O.keep Kq (allS g_b7 all0)
  replace K0 := K0.trans Kq (allS (Or.inr sz_b7) all0)
  replace hk := Nat.le_trans hk Kq.1
  replace S_b1 := Safe.keep Kq So H.1 S_b1
  replace S_b4 := Safe.keep Kq So H.1 S_b4
  replace S_b7 := Safe.keep Kq So H.1 S_b7
  replace H := H.trans (CHr.keep Kq So H.1)
  refine own_via (g' := (mkF m 85 (own_A3 p0 p1 p2 p3 tt ww qq oo b1 b4 b7) [(.int 1)])) st ?_
  refine own_via (g' := (mkF m 92 (own_A3 p0 p1 p2 p3 tt ww qq oo b1 b4 b7) [(.ref b7), (.int 1), (.int oo), (.ref b4), (.int 1)])) (fun t_ k_ => XS.aload X.here hx rfl (hb hby at_85) rfl rfl (XS.iload X.here hx rfl (hb hby at_87) rfl (XS.iconst X.here hx rfl (hb hby at_89) (XS.aload X.here hx rfl (hb hby at_90) rfl rfl k_)))) ?_
  have hof := own_at2 (own_off ho hno (1 : Int32) 1 (by decide) (by decide)) hno (by decide)
  obtain ⟨_, _, ⟨T, Lq, kq, nq⟩, -, X, ⟨Lc, hQ, lq, yq, zq⟩, st⟩ := Jvm.LawKit.callS X hx (y := own_y15) hown (mvT hZ (hw _ (own_w 76 rfl))) (mvT hZ (hw _ (own_w 77 rfl))) (mvT hZ (hw _ (own_w 73 rfl))) (mvT hZ (hw _ (own_w 78 rfl))) (by decide) (backOf (W := 1) (own_take l Z a0 hw [] b4 b7 kb4 kb7 oo (1 : Int32) (own_into no M) [(.int (own_al (own_d M 21))), (.int 0), (.int 0), (.int 0), (.int 0), (.int 0), (.int 0), (.int 0), (.int 0), (.int 0), (.int 0), (.int 0), (.int 0), (.int 0), (.int 0), (.int 0), (.int 0), (.int 0), (.int 0), (.int 0), (.int 0), (.int 0)] (own_al (own_d M 20)) 1 h9 n0 O V_b4 V_b7 E_b7 E_b4 g_b7 (own_alm (own_dB M 20)) hof.1 (by rw [hof.2]; exact own_g1 hno) ⟨by decide, by decide⟩ (by decide) (Nat.le_of_ble_eq_true rfl)) hZ (hw _ (own_w 78 rfl)) (hw _ (own_w 73 rfl)) (by decide) (by decide)) (g := (mkF m 92 (own_A3 p0 p1 p2 p3 tt ww qq oo b1 b4 b7) [(.ref b7), (.int 1), (.int oo), (.ref b4), (.int 1)])) rfl (by rw [hml]; rfl) (argsL := [(.ref b4), (.int oo), (.int 1), (.ref b7)]) (rest := [(.int 1)]) (lenOf own_pd15 rfl) rfl (by show 2 * 0 + _ ≤ _; exact Nat.le_of_eq rfl) (hb hby at_92) (fun _ _ => ⟨rfl, eT, (by decide : 6 + 0 ≤ _), (by decide : 307 + 0 ≤ _)⟩)
  dsimp only [Pt.U, Pt.locs, Pt.cells, Pt.slots] at X lq yq zq st hQ
  rw [lq, yq, zq] at X
  obtain ⟨rfl, Nq, Kq, V_b7⟩ := hQ
  replace N := Fr.app N Nq
  obtain ⟨h10, eT⟩ : ∃ z, T.heap = z := ⟨_, rfl⟩
  rw [eT] at Kq V_b7
  have So : ∀ x ∈ [b7], Safe Z own_EL _ h9 x := (allS S_b7 all0)
  replace E_b1 := E_b1.keep Kq
  replace F_timeMillis_b1 := F_timeMillis_b1.keep Kq (ninS ne_b1_b7 nin0)
  replace F_worker_b1 := F_worker_b1.keep Kq (ninS ne_b1_b7 nin0)
  replace F_sequence_b1 := F_sequence_b1.keep Kq (ninS ne_b1_b7 nin0)
  replace E_b4 := E_b4.keep Kq
  replace V_b4 := V_b4.keep Kq (ninS ne_b4_b7 nin0)
  replace E_b7 := E_b7.keep Kq
  replace O := O.keep Kq (allS g_b7 all0)
  replace K0 := K0.trans Kq (allS (Or.inr sz_b7) all0)
  replace hk := Nat.le_trans hk Kq.1
  replace S_b1 := Safe.keep Kq So H.1 S_b1
  replace S_b4 := Safe.keep Kq So H.1 S_b4
  replace S_b7 := Safe.keep Kq So H.1 S_b7
  replace H := H.trans (CHr.keep Kq So H.1)
  refine own_via (g' := (mkF m 95 (own_A3 p0 p1 p2 p3 tt ww qq oo b1 b4 b7) [(.int 1), (.int 1)])) st ?_
  refine own_via (g' := (mkF m 96 (own_A3 p0 p1 p2 p3 tt ww qq oo b1 b4 b7) [(.int ((1 : Int32) &&& (1 : Int32)))])) (fun t_ k_ => XS.iand X.here hx rfl (hb hby at_95) rfl k_) ?_
  rw [(by decide : ((1 : Int32) &&& (1 : Int32)) = (1 : Int32))]
  refine own_via (g' := (mkF m 103 (own_A3 p0 p1 p2 p3 tt ww qq oo b1 b4 b7) [(.ref b7), (.int 2), (.int oo), (.ref b4), (.int 1)])) (fun t_ k_ => XS.aload X.here hx rfl (hb hby at_96) rfl rfl (XS.iload X.here hx rfl (hb hby at_98) rfl (XS.iconst X.here hx rfl (hb hby at_100) (XS.aload X.here hx rfl (hb hby at_101) rfl rfl k_)))) ?_
  have hof := own_at2 (own_off ho hno (2 : Int32) 2 (by decide) (by decide)) hno (by decide)
  obtain ⟨_, _, ⟨T, Lq, kq, nq⟩, -, X, ⟨Lc, hQ, lq, yq, zq⟩, st⟩ := Jvm.LawKit.callS X hx (y := own_y15) hown (mvT hZ (hw _ (own_w 76 rfl))) (mvT hZ (hw _ (own_w 77 rfl))) (mvT hZ (hw _ (own_w 73 rfl))) (mvT hZ (hw _ (own_w 78 rfl))) (by decide) (backOf (W := 1) (own_take l Z a0 hw [] b4 b7 kb4 kb7 oo (2 : Int32) (own_into no M) [(.int (own_al (own_d M 21))), (.int (own_al (own_d M 20))), (.int 0), (.int 0), (.int 0), (.int 0), (.int 0), (.int 0), (.int 0), (.int 0), (.int 0), (.int 0), (.int 0), (.int 0), (.int 0), (.int 0), (.int 0), (.int 0), (.int 0), (.int 0), (.int 0), (.int 0)] (own_al (own_d M 19)) 2 h10 n0 O V_b4 V_b7 E_b7 E_b4 g_b7 (own_alm (own_dB M 19)) hof.1 (by rw [hof.2]; exact own_g2 hno) ⟨by decide, by decide⟩ (by decide) (Nat.le_of_ble_eq_true rfl)) hZ (hw _ (own_w 78 rfl)) (hw _ (own_w 73 rfl)) (by decide) (by decide)) (g := (mkF m 103 (own_A3 p0 p1 p2 p3 tt ww qq oo b1 b4 b7) [(.ref b7), (.int 2), (.int oo), (.ref b4), (.int 1)])) rfl (by rw [hml]; rfl) (argsL := [(.ref b4), (.int oo), (.int 2), (.ref b7)]) (rest := [(.int 1)]) (lenOf own_pd15 rfl) rfl (by show 2 * 0 + _ ≤ _; exact Nat.le_of_eq rfl) (hb hby at_103) (fun _ _ => ⟨rfl, eT, (by decide : 6 + 0 ≤ _), (by decide : 307 + 0 ≤ _)⟩)
  dsimp only [Pt.U, Pt.locs, Pt.cells, Pt.slots] at X lq yq zq st hQ
  rw [lq, yq, zq] at X
  obtain ⟨rfl, Nq, Kq, V_b7⟩ := hQ
  replace N := Fr.app N Nq
  obtain ⟨h11, eT⟩ : ∃ z, T.heap = z := ⟨_, rfl⟩
  rw [eT] at Kq V_b7
  have So : ∀ x ∈ [b7], Safe Z own_EL _ h10 x := (allS S_b7 all0)
  replace E_b1 := E_b1.keep Kq
  replace F_timeMillis_b1 := F_timeMillis_b1.keep Kq (ninS ne_b1_b7 nin0)
  replace F_worker_b1 := F_worker_b1.keep Kq (ninS ne_b1_b7 nin0)
  replace F_sequence_b1 := F_sequence_b1.keep Kq (ninS ne_b1_b7 nin0)
  replace E_b4 := E_b4.keep Kq
  replace V_b4 := V_b4.keep Kq (ninS ne_b4_b7 nin0)
  replace E_b7 := E_b7.keep Kq
  replace O := O.keep Kq (allS g_b7 all0)
  replace K0 := K0.trans Kq (allS (Or.inr sz_b7) all0)
  replace hk := Nat.le_trans hk Kq.1
  replace S_b1 := Safe.keep Kq So H.1 S_b1
  replace S_b4 := Safe.keep Kq So H.1 S_b4
  replace S_b7 := Safe.keep Kq So H.1 S_b7
  replace H := H.trans (CHr.keep Kq So H.1)
  refine own_via (g' := (mkF m 106 (own_A3 p0 p1 p2 p3 tt ww qq oo b1 b4 b7) [(.int 1), (.int 1)])) st ?_
  refine own_via (g' := (mkF m 107 (own_A3 p0 p1 p2 p3 tt ww qq oo b1 b4 b7) [(.int ((1 : Int32) &&& (1 : Int32)))])) (fun t_ k_ => XS.iand X.here hx rfl (hb hby at_106) rfl k_) ?_
  rw [(by decide : ((1 : Int32) &&& (1 : Int32)) = (1 : Int32))]
  refine own_via (g' := (mkF m 114 (own_A3 p0 p1 p2 p3 tt ww qq oo b1 b4 b7) [(.ref b7), (.int 3), (.int oo), (.ref b4), (.int 1)])) (fun t_ k_ => XS.aload X.here hx rfl (hb hby at_107) rfl rfl (XS.iload X.here hx rfl (hb hby at_109) rfl (XS.iconst X.here hx rfl (hb hby at_111) (XS.aload X.here hx rfl (hb hby at_112) rfl rfl k_)))) ?_
  have hof := own_at2 (own_off ho hno (3 : Int32) 3 (by decide) (by decide)) hno (by decide)
  obtain ⟨_, _, ⟨T, Lq, kq, nq⟩, -, X, ⟨Lc, hQ, lq, yq, zq⟩, st⟩ := Jvm.LawKit.callS X hx (y := own_y15) hown (mvT hZ (hw _ (own_w 76 rfl))) (mvT hZ (hw _ (own_w 77 rfl))) (mvT hZ (hw _ (own_w 73 rfl))) (mvT hZ (hw _ (own_w 78 rfl))) (by decide) (backOf (W := 1) (own_take l Z a0 hw [] b4 b7 kb4 kb7 oo (3 : Int32) (own_into no M) [(.int (own_al (own_d M 21))), (.int (own_al (own_d M 20))), (.int (own_al (own_d M 19))), (.int 0), (.int 0), (.int 0), (.int 0), (.int 0), (.int 0), (.int 0), (.int 0), (.int 0), (.int 0), (.int 0), (.int 0), (.int 0), (.int 0), (.int 0), (.int 0), (.int 0), (.int 0), (.int 0)] (own_al (own_d M 18)) 3 h11 n0 O V_b4 V_b7 E_b7 E_b4 g_b7 (own_alm (own_dB M 18)) hof.1 (by rw [hof.2]; exact own_g3 hno) ⟨by decide, by decide⟩ (by decide) (Nat.le_of_ble_eq_true rfl)) hZ (hw _ (own_w 78 rfl)) (hw _ (own_w 73 rfl)) (by decide) (by decide)) (g := (mkF m 114 (own_A3 p0 p1 p2 p3 tt ww qq oo b1 b4 b7) [(.ref b7), (.int 3), (.int oo), (.ref b4), (.int 1)])) rfl (by rw [hml]; rfl) (argsL := [(.ref b4), (.int oo), (.int 3), (.ref b7)]) (rest := [(.int 1)]) (lenOf own_pd15 rfl) rfl (by show 2 * 0 + _ ≤ _; exact Nat.le_of_eq rfl) (hb hby at_114) (fun _ _ => ⟨rfl, eT, (by decide : 6 + 0 ≤ _), (by decide : 307 + 0 ≤ _)⟩)
  dsimp only [Pt.U, Pt.locs, Pt.cells, Pt.slots] at X lq yq zq st hQ
  rw [lq, yq, zq] at X
  obtain ⟨rfl, Nq, Kq, V_b7⟩ := hQ
  replace N := Fr.app N Nq
  obtain ⟨h12, eT⟩ : ∃ z, T.heap = z := ⟨_, rfl⟩
  rw [eT] at Kq V_b7
  have So : ∀ x ∈ [b7], Safe Z own_EL _ h11 x := (allS S_b7 all0)
  replace E_b1 := E_b1.keep Kq
  replace F_timeMillis_b1 := F_timeMillis_b1.keep Kq (ninS ne_b1_b7 nin0)
  replace F_worker_b1 := F_worker_b1.keep Kq (ninS ne_b1_b7 nin0)
  replace F_sequence_b1 := F_sequence_b1.keep Kq (ninS ne_b1_b7 nin0)
  replace E_b4 := E_b4.keep Kq
  replace V_b4 := V_b4.keep Kq (ninS ne_b4_b7 nin0)
  replace E_b7 := E_b7.keep Kq
  replace O := O.keep Kq (allS g_b7 all0)
  replace K0 := K0.trans Kq (allS (Or.inr sz_b7) all0)
  replace hk := Nat.le_trans hk Kq.1
  replace S_b1 := Safe.keep Kq So H.1 S_b1
  replace S_b4 := Safe.keep Kq So H.1 S_b4
  replace S_b7 := Safe.keep Kq So H.1 S_b7
  replace H := H.trans (CHr.keep Kq So H.1)
  refine own_via (g' := (mkF m 117 (own_A3 p0 p1 p2 p3 tt ww qq oo b1 b4 b7) [(.int 1), (.int 1)])) st ?_
  refine own_via (g' := (mkF m 118 (own_A3 p0 p1 p2 p3 tt ww qq oo b1 b4 b7) [(.int ((1 : Int32) &&& (1 : Int32)))])) (fun t_ k_ => XS.iand X.here hx rfl (hb hby at_117) rfl k_) ?_
  rw [(by decide : ((1 : Int32) &&& (1 : Int32)) = (1 : Int32))]
  refine own_via (g' := (mkF m 125 (own_A3 p0 p1 p2 p3 tt ww qq oo b1 b4 b7) [(.ref b7), (.int 4), (.int oo), (.ref b4), (.int 1)])) (fun t_ k_ => XS.aload X.here hx rfl (hb hby at_118) rfl rfl (XS.iload X.here hx rfl (hb hby at_120) rfl (XS.iconst X.here hx rfl (hb hby at_122) (XS.aload X.here hx rfl (hb hby at_123) rfl rfl k_)))) ?_
  have hof := own_at2 (own_off ho hno (4 : Int32) 4 (by decide) (by decide)) hno (by decide)
  obtain ⟨_, _, ⟨T, Lq, kq, nq⟩, -, X, ⟨Lc, hQ, lq, yq, zq⟩, st⟩ := Jvm.LawKit.callS X hx (y := own_y15) hown (mvT hZ (hw _ (own_w 76 rfl))) (mvT hZ (hw _ (own_w 77 rfl))) (mvT hZ (hw _ (own_w 73 rfl))) (mvT hZ (hw _ (own_w 78 rfl))) (by decide) (backOf (W := 1) (own_take l Z a0 hw [] b4 b7 kb4 kb7 oo (4 : Int32) (own_into no M) [(.int (own_al (own_d M 21))), (.int (own_al (own_d M 20))), (.int (own_al (own_d M 19))), (.int (own_al (own_d M 18))), (.int 0), (.int 0), (.int 0), (.int 0), (.int 0), (.int 0), (.int 0), (.int 0), (.int 0), (.int 0), (.int 0), (.int 0), (.int 0), (.int 0), (.int 0), (.int 0), (.int 0), (.int 0)] (own_al (own_d M 17)) 4 h12 n0 O V_b4 V_b7 E_b7 E_b4 g_b7 (own_alm (own_dB M 17)) hof.1 (by rw [hof.2]; exact own_g4 hno) ⟨by decide, by decide⟩ (by decide) (Nat.le_of_ble_eq_true rfl)) hZ (hw _ (own_w 78 rfl)) (hw _ (own_w 73 rfl)) (by decide) (by decide)) (g := (mkF m 125 (own_A3 p0 p1 p2 p3 tt ww qq oo b1 b4 b7) [(.ref b7), (.int 4), (.int oo), (.ref b4), (.int 1)])) rfl (by rw [hml]; rfl) (argsL := [(.ref b4), (.int oo), (.int 4), (.ref b7)]) (rest := [(.int 1)]) (lenOf own_pd15 rfl) rfl (by show 2 * 0 + _ ≤ _; exact Nat.le_of_eq rfl) (hb hby at_125) (fun _ _ => ⟨rfl, eT, (by decide : 6 + 0 ≤ _), (by decide : 307 + 0 ≤ _)⟩)
  dsimp only [Pt.U, Pt.locs, Pt.cells, Pt.slots] at X lq yq zq st hQ
  rw [lq, yq, zq] at X
  obtain ⟨rfl, Nq, Kq, V_b7⟩ := hQ
  replace N := Fr.app N Nq
  obtain ⟨h13, eT⟩ : ∃ z, T.heap = z := ⟨_, rfl⟩
  rw [eT] at Kq V_b7
  have So : ∀ x ∈ [b7], Safe Z own_EL _ h12 x := (allS S_b7 all0)
  replace E_b1 := E_b1.keep Kq
  replace F_timeMillis_b1 := F_timeMillis_b1.keep Kq (ninS ne_b1_b7 nin0)
  replace F_worker_b1 := F_worker_b1.keep Kq (ninS ne_b1_b7 nin0)
  replace F_sequence_b1 := F_sequence_b1.keep Kq (ninS ne_b1_b7 nin0)
  replace E_b4 := E_b4.keep Kq
  replace V_b4 := V_b4.keep Kq (ninS ne_b4_b7 nin0)
  replace E_b7 := E_b7.keep Kq
  replace O := O.keep Kq (allS g_b7 all0)
  replace K0 := K0.trans Kq (allS (Or.inr sz_b7) all0)
  replace hk := Nat.le_trans hk Kq.1
  replace S_b1 := Safe.keep Kq So H.1 S_b1
  replace S_b4 := Safe.keep Kq So H.1 S_b4
  replace S_b7 := Safe.keep Kq So H.1 S_b7
  replace H := H.trans (CHr.keep Kq So H.1)
  refine own_via (g' := (mkF m 128 (own_A3 p0 p1 p2 p3 tt ww qq oo b1 b4 b7) [(.int 1), (.int 1)])) st ?_
  refine own_via (g' := (mkF m 129 (own_A3 p0 p1 p2 p3 tt ww qq oo b1 b4 b7) [(.int ((1 : Int32) &&& (1 : Int32)))])) (fun t_ k_ => XS.iand X.here hx rfl (hb hby at_128) rfl k_) ?_
  rw [(by decide : ((1 : Int32) &&& (1 : Int32)) = (1 : Int32))]
  refine own_via (g' := (mkF m 136 (own_A3 p0 p1 p2 p3 tt ww qq oo b1 b4 b7) [(.ref b7), (.int 5), (.int oo), (.ref b4), (.int 1)])) (fun t_ k_ => XS.aload X.here hx rfl (hb hby at_129) rfl rfl (XS.iload X.here hx rfl (hb hby at_131) rfl (XS.iconst X.here hx rfl (hb hby at_133) (XS.aload X.here hx rfl (hb hby at_134) rfl rfl k_)))) ?_
  have hof := own_at2 (own_off ho hno (5 : Int32) 5 (by decide) (by decide)) hno (by decide)
  obtain ⟨_, _, ⟨T, Lq, kq, nq⟩, -, X, ⟨Lc, hQ, lq, yq, zq⟩, st⟩ := Jvm.LawKit.callS X hx (y := own_y15) hown (mvT hZ (hw _ (own_w 76 rfl))) (mvT hZ (hw _ (own_w 77 rfl))) (mvT hZ (hw _ (own_w 73 rfl))) (mvT hZ (hw _ (own_w 78 rfl))) (by decide) (backOf (W := 1) (own_take l Z a0 hw [] b4 b7 kb4 kb7 oo (5 : Int32) (own_into no M) [(.int (own_al (own_d M 21))), (.int (own_al (own_d M 20))), (.int (own_al (own_d M 19))), (.int (own_al (own_d M 18))), (.int (own_al (own_d M 17))), (.int 0), (.int 0), (.int 0), (.int 0), (.int 0), (.int 0), (.int 0), (.int 0), (.int 0), (.int 0), (.int 0), (.int 0), (.int 0), (.int 0), (.int 0), (.int 0), (.int 0)] (own_al (own_d M 16)) 5 h13 n0 O V_b4 V_b7 E_b7 E_b4 g_b7 (own_alm (own_dB M 16)) hof.1 (by rw [hof.2]; exact own_g5 hno) ⟨by decide, by decide⟩ (by decide) (Nat.le_of_ble_eq_true rfl)) hZ (hw _ (own_w 78 rfl)) (hw _ (own_w 73 rfl)) (by decide) (by decide)) (g := (mkF m 136 (own_A3 p0 p1 p2 p3 tt ww qq oo b1 b4 b7) [(.ref b7), (.int 5), (.int oo), (.ref b4), (.int 1)])) rfl (by rw [hml]; rfl) (argsL := [(.ref b4), (.int oo), (.int 5), (.ref b7)]) (rest := [(.int 1)]) (lenOf own_pd15 rfl) rfl (by show 2 * 0 + _ ≤ _; exact Nat.le_of_eq rfl) (hb hby at_136) (fun _ _ => ⟨rfl, eT, (by decide : 6 + 0 ≤ _), (by decide : 307 + 0 ≤ _)⟩)
  dsimp only [Pt.U, Pt.locs, Pt.cells, Pt.slots] at X lq yq zq st hQ
  rw [lq, yq, zq] at X
  obtain ⟨rfl, Nq, Kq, V_b7⟩ := hQ
  replace N := Fr.app N Nq
  obtain ⟨h14, eT⟩ : ∃ z, T.heap = z := ⟨_, rfl⟩
  rw [eT] at Kq V_b7
  have So : ∀ x ∈ [b7], Safe Z own_EL _ h13 x := (allS S_b7 all0)
  replace E_b1 := E_b1.keep Kq
  replace F_timeMillis_b1 := F_timeMillis_b1.keep Kq (ninS ne_b1_b7 nin0)
  replace F_worker_b1 := F_worker_b1.keep Kq (ninS ne_b1_b7 nin0)
  replace F_sequence_b1 := F_sequence_b1.keep Kq (ninS ne_b1_b7 nin0)
  replace E_b4 := E_b4.keep Kq
  replace V_b4 := V_b4.keep Kq (ninS ne_b4_b7 nin0)
  replace E_b7 := E_b7.keep Kq
  replace O := O.keep Kq (allS g_b7 all0)
  replace K0 := K0.trans Kq (allS (Or.inr sz_b7) all0)
  replace hk := Nat.le_trans hk Kq.1
  replace S_b1 := Safe.keep Kq So H.1 S_b1
  replace S_b4 := Safe.keep Kq So H.1 S_b4
  replace S_b7 := Safe.keep Kq So H.1 S_b7
  replace H := H.trans (CHr.keep Kq So H.1)
  refine own_via (g' := (mkF m 139 (own_A3 p0 p1 p2 p3 tt ww qq oo b1 b4 b7) [(.int 1), (.int 1)])) st ?_
  refine own_via (g' := (mkF m 140 (own_A3 p0 p1 p2 p3 tt ww qq oo b1 b4 b7) [(.int ((1 : Int32) &&& (1 : Int32)))])) (fun t_ k_ => XS.iand X.here hx rfl (hb hby at_139) rfl k_) ?_
  rw [(by decide : ((1 : Int32) &&& (1 : Int32)) = (1 : Int32))]
  refine own_via (g' := (mkF m 148 (own_A3 p0 p1 p2 p3 tt ww qq oo b1 b4 b7) [(.ref b7), (.int 6), (.int oo), (.ref b4), (.int 1)])) (fun t_ k_ => XS.aload X.here hx rfl (hb hby at_140) rfl rfl (XS.iload X.here hx rfl (hb hby at_142) rfl (XS.bipush X.here hx rfl (hb hby at_144) (XS.aload X.here hx rfl (hb hby at_146) rfl rfl k_)))) ?_
  have hof := own_at2 (own_off ho hno (6 : Int32) 6 (by decide) (by decide)) hno (by decide)
  obtain ⟨_, _, ⟨T, Lq, kq, nq⟩, -, X, ⟨Lc, hQ, lq, yq, zq⟩, st⟩ := Jvm.LawKit.callS X hx (y := own_y15) hown (mvT hZ (hw _ (own_w 76 rfl))) (mvT hZ (hw _ (own_w 77 rfl))) (mvT hZ (hw _ (own_w 73 rfl))) (mvT hZ (hw _ (own_w 78 rfl))) (by decide) (backOf (W := 1) (own_take l Z a0 hw [] b4 b7 kb4 kb7 oo (6 : Int32) (own_into no M) [(.int (own_al (own_d M 21))), (.int (own_al (own_d M 20))), (.int (own_al (own_d M 19))), (.int (own_al (own_d M 18))), (.int (own_al (own_d M 17))), (.int (own_al (own_d M 16))), (.int 0), (.int 0), (.int 0), (.int 0), (.int 0), (.int 0), (.int 0), (.int 0), (.int 0), (.int 0), (.int 0), (.int 0), (.int 0), (.int 0), (.int 0), (.int 0)] (own_al (own_d M 15)) 6 h14 n0 O V_b4 V_b7 E_b7 E_b4 g_b7 (own_alm (own_dB M 15)) hof.1 (by rw [hof.2]; exact own_g6 hno) ⟨by decide, by decide⟩ (by decide) (Nat.le_of_ble_eq_true rfl)) hZ (hw _ (own_w 78 rfl)) (hw _ (own_w 73 rfl)) (by decide) (by decide)) (g := (mkF m 148 (own_A3 p0 p1 p2 p3 tt ww qq oo b1 b4 b7) [(.ref b7), (.int 6), (.int oo), (.ref b4), (.int 1)])) rfl (by rw [hml]; rfl) (argsL := [(.ref b4), (.int oo), (.int 6), (.ref b7)]) (rest := [(.int 1)]) (lenOf own_pd15 rfl) rfl (by show 2 * 0 + _ ≤ _; exact Nat.le_of_eq rfl) (hb hby at_148) (fun _ _ => ⟨rfl, eT, (by decide : 6 + 0 ≤ _), (by decide : 307 + 0 ≤ _)⟩)
  dsimp only [Pt.U, Pt.locs, Pt.cells, Pt.slots] at X lq yq zq st hQ
  rw [lq, yq, zq] at X
  obtain ⟨rfl, Nq, Kq, V_b7⟩ := hQ
  replace N := Fr.app N Nq
  obtain ⟨h15, eT⟩ : ∃ z, T.heap = z := ⟨_, rfl⟩
  rw [eT] at Kq V_b7
  have So : ∀ x ∈ [b7], Safe Z own_EL _ h14 x := (allS S_b7 all0)
  replace E_b1 := E_b1.keep Kq
  replace F_timeMillis_b1 := F_timeMillis_b1.keep Kq (ninS ne_b1_b7 nin0)
  replace F_worker_b1 := F_worker_b1.keep Kq (ninS ne_b1_b7 nin0)
  replace F_sequence_b1 := F_sequence_b1.keep Kq (ninS ne_b1_b7 nin0)
  replace E_b4 := E_b4.keep Kq
  replace V_b4 := V_b4.keep Kq (ninS ne_b4_b7 nin0)
  replace E_b7 := E_b7.keep Kq
  replace O := O.keep Kq (allS g_b7 all0)
  replace K0 := K0.trans Kq (allS (Or.inr sz_b7) all0)
  replace hk := Nat.le_trans hk Kq.1
  replace S_b1 := Safe.keep Kq So H.1 S_b1
  replace S_b4 := Safe.keep Kq So H.1 S_b4
  replace S_b7 := Safe.keep Kq So H.1 S_b7
  replace H := H.trans (CHr.keep Kq So H.1)
  refine own_via (g' := (mkF m 151 (own_A3 p0 p1 p2 p3 tt ww qq oo b1 b4 b7) [(.int 1), (.int 1)])) st ?_
  refine own_via (g' := (mkF m 152 (own_A3 p0 p1 p2 p3 tt ww qq oo b1 b4 b7) [(.int ((1 : Int32) &&& (1 : Int32)))])) (fun t_ k_ => XS.iand X.here hx rfl (hb hby at_151) rfl k_) ?_
  rw [(by decide : ((1 : Int32) &&& (1 : Int32)) = (1 : Int32))]
  refine own_via (g' := (mkF m 160 (own_A3 p0 p1 p2 p3 tt ww qq oo b1 b4 b7) [(.ref b7), (.int 7), (.int oo), (.ref b4), (.int 1)])) (fun t_ k_ => XS.aload X.here hx rfl (hb hby at_152) rfl rfl (XS.iload X.here hx rfl (hb hby at_154) rfl (XS.bipush X.here hx rfl (hb hby at_156) (XS.aload X.here hx rfl (hb hby at_158) rfl rfl k_)))) ?_
  have hof := own_at2 (own_off ho hno (7 : Int32) 7 (by decide) (by decide)) hno (by decide)
  obtain ⟨_, _, ⟨T, Lq, kq, nq⟩, -, X, ⟨Lc, hQ, lq, yq, zq⟩, st⟩ := Jvm.LawKit.callS X hx (y := own_y15) hown (mvT hZ (hw _ (own_w 76 rfl))) (mvT hZ (hw _ (own_w 77 rfl))) (mvT hZ (hw _ (own_w 73 rfl))) (mvT hZ (hw _ (own_w 78 rfl))) (by decide) (backOf (W := 1) (own_take l Z a0 hw [] b4 b7 kb4 kb7 oo (7 : Int32) (own_into no M) [(.int (own_al (own_d M 21))), (.int (own_al (own_d M 20))), (.int (own_al (own_d M 19))), (.int (own_al (own_d M 18))), (.int (own_al (own_d M 17))), (.int (own_al (own_d M 16))), (.int (own_al (own_d M 15))), (.int 0), (.int 0), (.int 0), (.int 0), (.int 0), (.int 0), (.int 0), (.int 0), (.int 0), (.int 0), (.int 0), (.int 0), (.int 0), (.int 0), (.int 0)] (own_al (own_d M 14)) 7 h15 n0 O V_b4 V_b7 E_b7 E_b4 g_b7 (own_alm (own_dB M 14)) hof.1 (by rw [hof.2]; exact own_g7 hno) ⟨by decide, by decide⟩ (by decide) (Nat.le_of_ble_eq_true rfl)) hZ (hw _ (own_w 78 rfl)) (hw _ (own_w 73 rfl)) (by decide) (by decide)) (g := (mkF m 160 (own_A3 p0 p1 p2 p3 tt ww qq oo b1 b4 b7) [(.ref b7), (.int 7), (.int oo), (.ref b4), (.int 1)])) rfl (by rw [hml]; rfl) (argsL := [(.ref b4), (.int oo), (.int 7), (.ref b7)]) (rest := [(.int 1)]) (lenOf own_pd15 rfl) rfl (by show 2 * 0 + _ ≤ _; exact Nat.le_of_eq rfl) (hb hby at_160) (fun _ _ => ⟨rfl, eT, (by decide : 6 + 0 ≤ _), (by decide : 307 + 0 ≤ _)⟩)
  dsimp only [Pt.U, Pt.locs, Pt.cells, Pt.slots] at X lq yq zq st hQ
  rw [lq, yq, zq] at X
  obtain ⟨rfl, Nq, Kq, V_b7⟩ := hQ
  replace N := Fr.app N Nq
  obtain ⟨h16, eT⟩ : ∃ z, T.heap = z := ⟨_, rfl⟩
  rw [eT] at Kq V_b7
  have So : ∀ x ∈ [b7], Safe Z own_EL _ h15 x := (allS S_b7 all0)
  replace E_b1 := E_b1.keep Kq
  replace F_timeMillis_b1 := F_timeMillis_b1.keep Kq (ninS ne_b1_b7 nin0)
  replace F_worker_b1 := F_worker_b1.keep Kq (ninS ne_b1_b7 nin0)
  replace F_sequence_b1 := F_sequence_b1.keep Kq (ninS ne_b1_b7 nin0)
  replace E_b4 := E_b4.keep Kq
  replace V_b4 := V_b4.keep Kq (ninS ne_b4_b7 nin0)
  replace E_b7 := E_b7.keep Kq
  replace O := O.keep Kq (allS g_b7 all0)
  replace K0 := K0.trans Kq (allS (Or.inr sz_b7) all0)
  replace hk := Nat.le_trans hk Kq.1
  replace S_b1 := Safe.keep Kq So H.1 S_b1
  replace S_b4 := Safe.keep Kq So H.1 S_b4
  replace S_b7 := Safe.keep Kq So H.1 S_b7
  replace H := H.trans (CHr.keep Kq So H.1)
  refine own_via (g' := (mkF m 163 (own_A3 p0 p1 p2 p3 tt ww qq oo b1 b4 b7) [(.int 1), (.int 1)])) st ?_
  refine own_via (g' := (mkF m 164 (own_A3 p0 p1 p2 p3 tt ww qq oo b1 b4 b7) [(.int ((1 : Int32) &&& (1 : Int32)))])) (fun t_ k_ => XS.iand X.here hx rfl (hb hby at_163) rfl k_) ?_
  rw [(by decide : ((1 : Int32) &&& (1 : Int32)) = (1 : Int32))]
  refine own_via (g' := (mkF m 172 (own_A3 p0 p1 p2 p3 tt ww qq oo b1 b4 b7) [(.ref b7), (.int 8), (.int oo), (.ref b4), (.int 1)])) (fun t_ k_ => XS.aload X.here hx rfl (hb hby at_164) rfl rfl (XS.iload X.here hx rfl (hb hby at_166) rfl (XS.bipush X.here hx rfl (hb hby at_168) (XS.aload X.here hx rfl (hb hby at_170) rfl rfl k_)))) ?_
  have hof := own_at2 (own_off ho hno (8 : Int32) 8 (by decide) (by decide)) hno (by decide)
  obtain ⟨_, _, ⟨T, Lq, kq, nq⟩, -, X, ⟨Lc, hQ, lq, yq, zq⟩, st⟩ := Jvm.LawKit.callS X hx (y := own_y15) hown (mvT hZ (hw _ (own_w 76 rfl))) (mvT hZ (hw _ (own_w 77 rfl))) (mvT hZ (hw _ (own_w 73 rfl))) (mvT hZ (hw _ (own_w 78 rfl))) (by decide) (backOf (W := 1) (own_take l Z a0 hw [] b4 b7 kb4 kb7 oo (8 : Int32) (own_into no M) [(.int (own_al (own_d M 21))), (.int (own_al (own_d M 20))), (.int (own_al (own_d M 19))), (.int (own_al (own_d M 18))), (.int (own_al (own_d M 17))), (.int (own_al (own_d M 16))), (.int (own_al (own_d M 15))), (.int (own_al (own_d M 14))), (.int 0), (.int 0), (.int 0), (.int 0), (.int 0), (.int 0), (.int 0), (.int 0), (.int 0), (.int 0), (.int 0), (.int 0), (.int 0), (.int 0)] (own_al (own_d M 13)) 8 h16 n0 O V_b4 V_b7 E_b7 E_b4 g_b7 (own_alm (own_dB M 13)) hof.1 (by rw [hof.2]; exact own_g8 hno) ⟨by decide, by decide⟩ (by decide) (Nat.le_of_ble_eq_true rfl)) hZ (hw _ (own_w 78 rfl)) (hw _ (own_w 73 rfl)) (by decide) (by decide)) (g := (mkF m 172 (own_A3 p0 p1 p2 p3 tt ww qq oo b1 b4 b7) [(.ref b7), (.int 8), (.int oo), (.ref b4), (.int 1)])) rfl (by rw [hml]; rfl) (argsL := [(.ref b4), (.int oo), (.int 8), (.ref b7)]) (rest := [(.int 1)]) (lenOf own_pd15 rfl) rfl (by show 2 * 0 + _ ≤ _; exact Nat.le_of_eq rfl) (hb hby at_172) (fun _ _ => ⟨rfl, eT, (by decide : 6 + 0 ≤ _), (by decide : 307 + 0 ≤ _)⟩)
  dsimp only [Pt.U, Pt.locs, Pt.cells, Pt.slots] at X lq yq zq st hQ
  rw [lq, yq, zq] at X
  obtain ⟨rfl, Nq, Kq, V_b7⟩ := hQ
  replace N := Fr.app N Nq
  obtain ⟨h17, eT⟩ : ∃ z, T.heap = z := ⟨_, rfl⟩
  rw [eT] at Kq V_b7
  have So : ∀ x ∈ [b7], Safe Z own_EL _ h16 x := (allS S_b7 all0)
  replace E_b1 := E_b1.keep Kq
  replace F_timeMillis_b1 := F_timeMillis_b1.keep Kq (ninS ne_b1_b7 nin0)
  replace F_worker_b1 := F_worker_b1.keep Kq (ninS ne_b1_b7 nin0)
  replace F_sequence_b1 := F_sequence_b1.keep Kq (ninS ne_b1_b7 nin0)
  replace E_b4 := E_b4.keep Kq
  replace V_b4 := V_b4.keep Kq (ninS ne_b4_b7 nin0)
  replace E_b7 := E_b7.keep Kq
  replace O := O.keep Kq (allS g_b7 all0)
  replace K0 := K0.trans Kq (allS (Or.inr sz_b7) all0)
  replace hk := Nat.le_trans hk Kq.1
  replace S_b1 := Safe.keep Kq So H.1 S_b1
  replace S_b4 := Safe.keep Kq So H.1 S_b4
  replace S_b7 := Safe.keep Kq So H.1 S_b7
  replace H := H.trans (CHr.keep Kq So H.1)
  refine own_via (g' := (mkF m 175 (own_A3 p0 p1 p2 p3 tt ww qq oo b1 b4 b7) [(.int 1), (.int 1)])) st ?_
  refine own_via (g' := (mkF m 176 (own_A3 p0 p1 p2 p3 tt ww qq oo b1 b4 b7) [(.int ((1 : Int32) &&& (1 : Int32)))])) (fun t_ k_ => XS.iand X.here hx rfl (hb hby at_175) rfl k_) ?_
  rw [(by decide : ((1 : Int32) &&& (1 : Int32)) = (1 : Int32))]
  refine own_via (g' := (mkF m 184 (own_A3 p0 p1 p2 p3 tt ww qq oo b1 b4 b7) [(.ref b7), (.int 9), (.int oo), (.ref b4), (.int 1)])) (fun t_ k_ => XS.aload X.here hx rfl (hb hby at_176) rfl rfl (XS.iload X.here hx rfl (hb hby at_178) rfl (XS.bipush X.here hx rfl (hb hby at_180) (XS.aload X.here hx rfl (hb hby at_182) rfl rfl k_)))) ?_
  have hof := own_at2 (own_off ho hno (9 : Int32) 9 (by decide) (by decide)) hno (by decide)
  obtain ⟨_, _, ⟨T, Lq, kq, nq⟩, -, X, ⟨Lc, hQ, lq, yq, zq⟩, st⟩ := Jvm.LawKit.callS X hx (y := own_y15) hown (mvT hZ (hw _ (own_w 76 rfl))) (mvT hZ (hw _ (own_w 77 rfl))) (mvT hZ (hw _ (own_w 73 rfl))) (mvT hZ (hw _ (own_w 78 rfl))) (by decide) (backOf (W := 1) (own_take l Z a0 hw [] b4 b7 kb4 kb7 oo (9 : Int32) (own_into no M) [(.int (own_al (own_d M 21))), (.int (own_al (own_d M 20))), (.int (own_al (own_d M 19))), (.int (own_al (own_d M 18))), (.int (own_al (own_d M 17))), (.int (own_al (own_d M 16))), (.int (own_al (own_d M 15))), (.int (own_al (own_d M 14))), (.int (own_al (own_d M 13))), (.int 0), (.int 0), (.int 0), (.int 0), (.int 0), (.int 0), (.int 0), (.int 0), (.int 0), (.int 0), (.int 0), (.int 0), (.int 0)] (own_al (own_d M 12)) 9 h17 n0 O V_b4 V_b7 E_b7 E_b4 g_b7 (own_alm (own_dB M 12)) hof.1 (by rw [hof.2]; exact own_g9 hno) ⟨by decide, by decide⟩ (by decide) (Nat.le_of_ble_eq_true rfl)) hZ (hw _ (own_w 78 rfl)) (hw _ (own_w 73 rfl)) (by decide) (by decide)) (g := (mkF m 184 (own_A3 p0 p1 p2 p3 tt ww qq oo b1 b4 b7) [(.ref b7), (.int 9), (.int oo), (.ref b4), (.int 1)])) rfl (by rw [hml]; rfl) (argsL := [(.ref b4), (.int oo), (.int 9), (.ref b7)]) (rest := [(.int 1)]) (lenOf own_pd15 rfl) rfl (by show 2 * 0 + _ ≤ _; exact Nat.le_of_eq rfl) (hb hby at_184) (fun _ _ => ⟨rfl, eT, (by decide : 6 + 0 ≤ _), (by decide : 307 + 0 ≤ _)⟩)
  dsimp only [Pt.U, Pt.locs, Pt.cells, Pt.slots] at X lq yq zq st hQ
  rw [lq, yq, zq] at X
  obtain ⟨rfl, Nq, Kq, V_b7⟩ := hQ
  replace N := Fr.app N Nq
  obtain ⟨h18, eT⟩ : ∃ z, T.heap = z := ⟨_, rfl⟩
  rw [eT] at Kq V_b7
  have So : ∀ x ∈ [b7], Safe Z own_EL _ h17 x := (allS S_b7 all0)
  replace E_b1 := E_b1.keep Kq
  replace F_timeMillis_b1 := F_timeMillis_b1.keep Kq (ninS ne_b1_b7 nin0)
  replace F_worker_b1 := F_worker_b1.keep Kq (ninS ne_b1_b7 nin0)
  replace F_sequence_b1 := F_sequence_b1.keep Kq (ninS ne_b1_b7 nin0)
  replace E_b4 := E_b4.keep Kq
  replace V_b4 := V_b4.keep Kq (ninS ne_b4_b7 nin0)
  replace E_b7 := E_b7.keep Kq
  replace O := O.keep Kq (allS g_b7 all0)
  replace K0 := K0.trans Kq (allS (Or.inr sz_b7) all0)
  replace hk := Nat.le_trans hk Kq.1
  replace S_b1 := Safe.keep Kq So H.1 S_b1
  replace S_b4 := Safe.keep Kq So H.1 S_b4
  replace S_b7 := Safe.keep Kq So H.1 S_b7
  replace H := H.trans (CHr.keep Kq So H.1)
  refine own_via (g' := (mkF m 187 (own_A3 p0 p1 p2 p3 tt ww qq oo b1 b4 b7) [(.int 1), (.int 1)])) st ?_
  refine own_via (g' := (mkF m 188 (own_A3 p0 p1 p2 p3 tt ww qq oo b1 b4 b7) [(.int ((1 : Int32) &&& (1 : Int32)))])) (fun t_ k_ => XS.iand X.here hx rfl (hb hby at_187) rfl k_) ?_
  rw [(by decide : ((1 : Int32) &&& (1 : Int32)) = (1 : Int32))]
  refine own_via (g' := (mkF m 196 (own_A3 p0 p1 p2 p3 tt ww qq oo b1 b4 b7) [(.ref b7), (.int 10), (.int oo), (.ref b4), (.int 1)])) (fun t_ k_ => XS.aload X.here hx rfl (hb hby at_188) rfl rfl (XS.iload X.here hx rfl (hb hby at_190) rfl (XS.bipush X.here hx rfl (hb hby at_192) (XS.aload X.here hx rfl (hb hby at_194) rfl rfl k_)))) ?_
  have hof := own_at2 (own_off ho hno (10 : Int32) 10 (by decide) (by decide)) hno (by decide)
  obtain ⟨_, _, ⟨T, Lq, kq, nq⟩, -, X, ⟨Lc, hQ, lq, yq, zq⟩, st⟩ := Jvm.LawKit.callS X hx (y := own_y15) hown (mvT hZ (hw _ (own_w 76 rfl))) (mvT hZ (hw _ (own_w 77 rfl))) (mvT hZ (hw _ (own_w 73 rfl))) (mvT hZ (hw _ (own_w 78 rfl))) (by decide) (backOf (W := 1) (own_take l Z a0 hw [] b4 b7 kb4 kb7 oo (10 : Int32) (own_into no M) [(.int (own_al (own_d M 21))), (.int (own_al (own_d M 20))), (.int (own_al (own_d M 19))), (.int (own_al (own_d M 18))), (.int (own_al (own_d M 17))), (.int (own_al (own_d M 16))), (.int (own_al (own_d M 15))), (.int (own_al (own_d M 14))), (.int (own_al (own_d M 13))), (.int (own_al (own_d M 12))), (.int 0), (.int 0), (.int 0), (.int 0), (.int 0), (.int 0), (.int 0), (.int 0), (.int 0), (.int 0), (.int 0), (.int 0)] (own_al (own_d M 11)) 10 h18 n0 O V_b4 V_b7 E_b7 E_b4 g_b7 (own_alm (own_dB M 11)) hof.1 (by rw [hof.2]; exact own_g10 hno) ⟨by decide, by decide⟩ (by decide) (Nat.le_of_ble_eq_true rfl)) hZ (hw _ (own_w 78 rfl)) (hw _ (own_w 73 rfl)) (by decide) (by decide)) (g := (mkF m 196 (own_A3 p0 p1 p2 p3 tt ww qq oo b1 b4 b7) [(.ref b7), (.int 10), (.int oo), (.ref b4), (.int 1)])) rfl (by rw [hml]; rfl) (argsL := [(.ref b4), (.int oo), (.int 10), (.ref b7)]) (rest := [(.int 1)]) (lenOf own_pd15 rfl) rfl (by show 2 * 0 + _ ≤ _; exact Nat.le_of_eq rfl) (hb hby at_196) (fun _ _ => ⟨rfl, eT, (by decide : 6 + 0 ≤ _), (by decide : 307 + 0 ≤ _)⟩)
  dsimp only [Pt.U, Pt.locs, Pt.cells, Pt.slots] at X lq yq zq st hQ
  rw [lq, yq, zq] at X
  obtain ⟨rfl, Nq, Kq, V_b7⟩ := hQ
  replace N := Fr.app N Nq
  obtain ⟨h19, eT⟩ : ∃ z, T.heap = z := ⟨_, rfl⟩
  rw [eT] at Kq V_b7
  have So : ∀ x ∈ [b7], Safe Z own_EL _ h18 x := (allS S_b7 all0)
  replace E_b1 := E_b1.keep Kq
  replace F_timeMillis_b1 := F_timeMillis_b1.keep Kq (ninS ne_b1_b7 nin0)
  replace F_worker_b1 := F_worker_b1.keep Kq (ninS ne_b1_b7 nin0)
  replace F_sequence_b1 := F_sequence_b1.keep Kq (ninS ne_b1_b7 nin0)
  replace E_b4 := E_b4.keep Kq
  replace V_b4 := V_b4.keep Kq (ninS ne_b4_b7 nin0)
  replace E_b7 := E_b7.keep Kq
  replace O := O.keep Kq (allS g_b7 all0)
  replace K0 := K0.trans Kq (allS (Or.inr sz_b7) all0)
  replace hk := Nat.le_trans hk Kq.1
  replace S_b1 := Safe.keep Kq So H.1 S_b1
  replace S_b4 := Safe.keep Kq So H.1 S_b4
  replace S_b7 := Safe.keep Kq So H.1 S_b7
  replace H := H.trans (CHr.keep Kq So H.1)
  refine own_via (g' := (mkF m 199 (own_A3 p0 p1 p2 p3 tt ww qq oo b1 b4 b7) [(.int 1), (.int 1)])) st ?_
  refine own_via (g' := (mkF m 200 (own_A3 p0 p1 p2 p3 tt ww qq oo b1 b4 b7) [(.int ((1 : Int32) &&& (1 : Int32)))])) (fun t_ k_ => XS.iand X.here hx rfl (hb hby at_199) rfl k_) ?_
  rw [(by decide : ((1 : Int32) &&& (1 : Int32)) = (1 : Int32))]
  refine own_via (g' := (mkF m 208 (own_A3 p0 p1 p2 p3 tt ww qq oo b1 b4 b7) [(.ref b7), (.int 11), (.int oo), (.ref b4), (.int 1)])) (fun t_ k_ => XS.aload X.here hx rfl (hb hby at_200) rfl rfl (XS.iload X.here hx rfl (hb hby at_202) rfl (XS.bipush X.here hx rfl (hb hby at_204) (XS.aload X.here hx rfl (hb hby at_206) rfl rfl k_)))) ?_
  have hof := own_at2 (own_off ho hno (11 : Int32) 11 (by decide) (by decide)) hno (by decide)
  obtain ⟨_, _, ⟨T, Lq, kq, nq⟩, -, X, ⟨Lc, hQ, lq, yq, zq⟩, st⟩ := Jvm.LawKit.callS X hx (y := own_y15) hown (mvT hZ (hw _ (own_w 76 rfl))) (mvT hZ (hw _ (own_w 77 rfl))) (mvT hZ (hw _ (own_w 73 rfl))) (mvT hZ (hw _ (own_w 78 rfl))) (by decide) (backOf (W := 1) (own_take l Z a0 hw [] b4 b7 kb4 kb7 oo (11 : Int32) (own_into no M) [(.int (own_al (own_d M 21))), (.int (own_al (own_d M 20))), (.int (own_al (own_d M 19))), (.int (own_al (own_d M 18))), (.int (own_al (own_d M 17))), (.int (own_al (own_d M 16))), (.int (own_al (own_d M 15))), (.int (own_al (own_d M 14))), (.int (own_al (own_d M 13))), (.int (own_al (own_d M 12))), (.int (own_al (own_d M 11))), (.int 0), (.int 0), (.int 0), (.int 0), (.int 0), (.int 0), (.int 0), (.int 0), (.int 0), (.int 0), (.int 0)] (own_al (own_d M 10)) 11 h19 n0 O V_b4 V_b7 E_b7 E_b4 g_b7 (own_alm (own_dB M 10)) hof.1 (by rw [hof.2]; exact own_g11 hno) ⟨by decide, by decide⟩ (by decide) (Nat.le_of_ble_eq_true rfl)) hZ (hw _ (own_w 78 rfl)) (hw _ (own_w 73 rfl)) (by decide) (by decide)) (g := (mkF m 208 (own_A3 p0 p1 p2 p3 tt ww qq oo b1 b4 b7) [(.ref b7), (.int 11), (.int oo), (.ref b4), (.int 1)])) rfl (by rw [hml]; rfl) (argsL := [(.ref b4), (.int oo), (.int 11), (.ref b7)]) (rest := [(.int 1)]) (lenOf own_pd15 rfl) rfl (by show 2 * 0 + _ ≤ _; exact Nat.le_of_eq rfl) (hb hby at_208) (fun _ _ => ⟨rfl, eT, (by decide : 6 + 0 ≤ _), (by decide : 307 + 0 ≤ _)⟩)
  dsimp only [Pt.U, Pt.locs, Pt.cells, Pt.slots] at X lq yq zq st hQ
  rw [lq, yq, zq] at X
  obtain ⟨rfl, Nq, Kq, V_b7⟩ := hQ
  replace N := Fr.app N Nq
  obtain ⟨h20, eT⟩ : ∃ z, T.heap = z := ⟨_, rfl⟩
  rw [eT] at Kq V_b7
  have So : ∀ x ∈ [b7], Safe Z own_EL _ h19 x := (allS S_b7 all0)
  replace E_b1 := E_b1.keep Kq
  replace F_timeMillis_b1 := F_timeMillis_b1.keep Kq (ninS ne_b1_b7 nin0)
  replace F_worker_b1 := F_worker_b1.keep Kq (ninS ne_b1_b7 nin0)
  replace F_sequence_b1 := F_sequence_b1.keep Kq (ninS ne_b1_b7 nin0)
  replace E_b4 := E_b4.keep Kq
  replace V_b4 := V_b4.keep Kq (ninS ne_b4_b7 nin0)
  replace E_b7 := E_b7.keep Kq
  replace O := O.keep Kq (allS g_b7 all0)
  replace K0 := K0.trans Kq (allS (Or.inr sz_b7) all0)
  replace hk := Nat.le_trans hk Kq.1
  replace S_b1 := Safe.keep Kq So H.1 S_b1
  replace S_b4 := Safe.keep Kq So H.1 S_b4
  replace S_b7 := Safe.keep Kq So H.1 S_b7
  replace H := H.trans (CHr.keep Kq So H.1)
  refine own_via (g' := (mkF m 211 (own_A3 p0 p1 p2 p3 tt ww qq oo b1 b4 b7) [(.int 1), (.int 1)])) st ?_
  refine own_via (g' := (mkF m 212 (own_A3 p0 p1 p2 p3 tt ww qq oo b1 b4 b7) [(.int ((1 : Int32) &&& (1 : Int32)))])) (fun t_ k_ => XS.iand X.here hx rfl (hb hby at_211) rfl k_) ?_
  rw [(by decide : ((1 : Int32) &&& (1 : Int32)) = (1 : Int32))]
  refine own_via (g' := (mkF m 220 (own_A3 p0 p1 p2 p3 tt ww qq oo b1 b4 b7) [(.ref b7), (.int 12), (.int oo), (.ref b4), (.int 1)])) (fun t_ k_ => XS.aload X.here hx rfl (hb hby at_212) rfl rfl (XS.iload X.here hx rfl (hb hby at_214) rfl (XS.bipush X.here hx rfl (hb hby at_216) (XS.aload X.here hx rfl (hb hby at_218) rfl rfl k_)))) ?_
  have hof := own_at2 (own_off ho hno (12 : Int32) 12 (by decide) (by decide)) hno (by decide)
  obtain ⟨_, _, ⟨T, Lq, kq, nq⟩, -, X, ⟨Lc, hQ, lq, yq, zq⟩, st⟩ := Jvm.LawKit.callS X hx (y := own_y15) hown (mvT hZ (hw _ (own_w 76 rfl))) (mvT hZ (hw _ (own_w 77 rfl))) (mvT hZ (hw _ (own_w 73 rfl))) (mvT hZ (hw _ (own_w 78 rfl))) (by decide) (backOf (W := 1) (own_take l Z a0 hw [] b4 b7 kb4 kb7 oo (12 : Int32) (own_into no M) [(.int (own_al (own_d M 21))), (.int (own_al (own_d M 20))), (.int (own_al (own_d M 19))), (.int (own_al (own_d M 18))), (.int (own_al (own_d M 17))), (.int (own_al (own_d M 16))), (.int (own_al (own_d M 15))), (.int (own_al (own_d M 14))), (.int (own_al (own_d M 13))), (.int (own_al (own_d M 12))), (.int (own_al (own_d M 11))), (.int (own_al (own_d M 10))), (.int 0), (.int 0), (.int 0), (.int 0), (.int 0), (.int 0), (.int 0), (.int 0), (.int 0), (.int 0)] (own_al (own_d M 9)) 12 h20 n0 O V_b4 V_b7 E_b7 E_b4 g_b7 (own_alm (own_dB M 9)) hof.1 (by rw [hof.2]; exact own_g12 hno) ⟨by decide, by decide⟩ (by decide) (Nat.le_of_ble_eq_true rfl)) hZ (hw _ (own_w 78 rfl)) (hw _ (own_w 73 rfl)) (by decide) (by decide)) (g := (mkF m 220 (own_A3 p0 p1 p2 p3 tt ww qq oo b1 b4 b7) [(.ref b7), (.int 12), (.int oo), (.ref b4), (.int 1)])) rfl (by rw [hml]; rfl) (argsL := [(.ref b4), (.int oo), (.int 12), (.ref b7)]) (rest := [(.int 1)]) (lenOf own_pd15 rfl) rfl (by show 2 * 0 + _ ≤ _; exact Nat.le_of_eq rfl) (hb hby at_220) (fun _ _ => ⟨rfl, eT, (by decide : 6 + 0 ≤ _), (by decide : 307 + 0 ≤ _)⟩)
  dsimp only [Pt.U, Pt.locs, Pt.cells, Pt.slots] at X lq yq zq st hQ
  rw [lq, yq, zq] at X
  obtain ⟨rfl, Nq, Kq, V_b7⟩ := hQ
  replace N := Fr.app N Nq
  obtain ⟨h21, eT⟩ : ∃ z, T.heap = z := ⟨_, rfl⟩
  rw [eT] at Kq V_b7
  have So : ∀ x ∈ [b7], Safe Z own_EL _ h20 x := (allS S_b7 all0)
  replace E_b1 := E_b1.keep Kq
  replace F_timeMillis_b1 := F_timeMillis_b1.keep Kq (ninS ne_b1_b7 nin0)
  replace F_worker_b1 := F_worker_b1.keep Kq (ninS ne_b1_b7 nin0)
  replace F_sequence_b1 := F_sequence_b1.keep Kq (ninS ne_b1_b7 nin0)
  replace E_b4 := E_b4.keep Kq
  replace V_b4 := V_b4.keep Kq (ninS ne_b4_b7 nin0)
  replace E_b7 := E_b7.keep Kq
  replace O := O.keep Kq (allS g_b7 all0)
  replace K0 := K0.trans Kq (allS (Or.inr sz_b7) all0)
  replace hk := Nat.le_trans hk Kq.1
  replace S_b1 := Safe.keep Kq So H.1 S_b1
  replace S_b4 := Safe.keep Kq So H.1 S_b4
  replace S_b7 := Safe.keep Kq So H.1 S_b7
  replace H := H.trans (CHr.keep Kq So H.1)
  refine own_via (g' := (mkF m 223 (own_A3 p0 p1 p2 p3 tt ww qq oo b1 b4 b7) [(.int 1), (.int 1)])) st ?_
  refine own_via (g' := (mkF m 224 (own_A3 p0 p1 p2 p3 tt ww qq oo b1 b4 b7) [(.int ((1 : Int32) &&& (1 : Int32)))])) (fun t_ k_ => XS.iand X.here hx rfl (hb hby at_223) rfl k_) ?_
  rw [(by decide : ((1 : Int32) &&& (1 : Int32)) = (1 : Int32))]
  refine own_via (g' := (mkF m 232 (own_A3 p0 p1 p2 p3 tt ww qq oo b1 b4 b7) [(.ref b7), (.int 13), (.int oo), (.ref b4), (.int 1)])) (fun t_ k_ => XS.aload X.here hx rfl (hb hby at_224) rfl rfl (XS.iload X.here hx rfl (hb hby at_226) rfl (XS.bipush X.here hx rfl (hb hby at_228) (XS.aload X.here hx rfl (hb hby at_230) rfl rfl k_)))) ?_
  have hof := own_at2 (own_off ho hno (13 : Int32) 13 (by decide) (by decide)) hno (by decide)
  obtain ⟨_, _, ⟨T, Lq, kq, nq⟩, -, X, ⟨Lc, hQ, lq, yq, zq⟩, st⟩ := Jvm.LawKit.callS X hx (y := own_y15) hown (mvT hZ (hw _ (own_w 76 rfl))) (mvT hZ (hw _ (own_w 77 rfl))) (mvT hZ (hw _ (own_w 73 rfl))) (mvT hZ (hw _ (own_w 78 rfl))) (by decide) (backOf (W := 1) (own_take l Z a0 hw [] b4 b7 kb4 kb7 oo (13 : Int32) (own_into no M) [(.int (own_al (own_d M 21))), (.int (own_al (own_d M 20))), (.int (own_al (own_d M 19))), (.int (own_al (own_d M 18))), (.int (own_al (own_d M 17))), (.int (own_al (own_d M 16))), (.int (own_al (own_d M 15))), (.int (own_al (own_d M 14))), (.int (own_al (own_d M 13))), (.int (own_al (own_d M 12))), (.int (own_al (own_d M 11))), (.int (own_al (own_d M 10))), (.int (own_al (own_d M 9))), (.int 0), (.int 0), (.int 0), (.int 0), (.int 0), (.int 0), (.int 0), (.int 0), (.int 0)] (own_al (own_d M 8)) 13 h21 n0 O V_b4 V_b7 E_b7 E_b4 g_b7 (own_alm (own_dB M 8)) hof.1 (by rw [hof.2]; exact own_g13 hno) ⟨by decide, by decide⟩ (by decide) (Nat.le_of_ble_eq_true rfl)) hZ (hw _ (own_w 78 rfl)) (hw _ (own_w 73 rfl)) (by decide) (by decide)) (g := (mkF m 232 (own_A3 p0 p1 p2 p3 tt ww qq oo b1 b4 b7) [(.ref b7), (.int 13), (.int oo), (.ref b4), (.int 1)])) rfl (by rw [hml]; rfl) (argsL := [(.ref b4), (.int oo), (.int 13), (.ref b7)]) (rest := [(.int 1)]) (lenOf own_pd15 rfl) rfl (by show 2 * 0 + _ ≤ _; exact Nat.le_of_eq rfl) (hb hby at_232) (fun _ _ => ⟨rfl, eT, (by decide : 6 + 0 ≤ _), (by decide : 307 + 0 ≤ _)⟩)
  dsimp only [Pt.U, Pt.locs, Pt.cells, Pt.slots] at X lq yq zq st hQ
  rw [lq, yq, zq] at X
  obtain ⟨rfl, Nq, Kq, V_b7⟩ := hQ
  replace N := Fr.app N Nq
  obtain ⟨h22, eT⟩ : ∃ z, T.heap = z := ⟨_, rfl⟩
  rw [eT] at Kq V_b7
  have So : ∀ x ∈ [b7], Safe Z own_EL _ h21 x := (allS S_b7 all0)
  replace E_b1 := E_b1.keep Kq
  replace F_timeMillis_b1 := F_timeMillis_b1.keep Kq (ninS ne_b1_b7 nin0)
  replace F_worker_b1 := F_worker_b1.keep Kq (ninS ne_b1_b7 nin0)
  replace F_sequence_b1 := F_sequence_b1.keep Kq (ninS ne_b1_b7 nin0)
  replace E_b4 := E_b4.keep Kq
  replace V_b4 := V_b4.keep Kq (ninS ne_b4_b7 nin0)
  replace E_b7 := E_b7.keep Kq
  replace O := O.keep Kq (allS g_b7 all0)
  replace K0 := K0.trans Kq (allS (Or.inr sz_b7) all0)
  replace hk := Nat.le_trans hk Kq.1
  replace S_b1 := Safe.keep Kq So H.1 S_b1
  replace S_b4 := Safe.keep Kq So H.1 S_b4
  replace S_b7 := Safe.keep Kq So H.1 S_b7
  replace H := H.trans (CHr.keep Kq So H.1)
  refine own_via (g' := (mkF m 235 (own_A3 p0 p1 p2 p3 tt ww qq oo b1 b4 b7) [(.int 1), (.int 1)])) st ?_
  refine own_via (g' := (mkF m 236 (own_A3 p0 p1 p2 p3 tt ww qq oo b1 b4 b7) [(.int ((1 : Int32) &&& (1 : Int32)))])) (fun t_ k_ => XS.iand X.here hx rfl (hb hby at_235) rfl k_) ?_
  rw [(by decide : ((1 : Int32) &&& (1 : Int32)) = (1 : Int32))]
  refine own_via (g' := (mkF m 244 (own_A3 p0 p1 p2 p3 tt ww qq oo b1 b4 b7) [(.ref b7), (.int 14), (.int oo), (.ref b4), (.int 1)])) (fun t_ k_ => XS.aload X.here hx rfl (hb hby at_236) rfl rfl (XS.iload X.here hx rfl (hb hby at_238) rfl (XS.bipush X.here hx rfl (hb hby at_240) (XS.aload X.here hx rfl (hb hby at_242) rfl rfl k_)))) ?_
  have hof := own_at2 (own_off ho hno (14 : Int32) 14 (by decide) (by decide)) hno (by decide)
  obtain ⟨_, _, ⟨T, Lq, kq, nq⟩, -, X, ⟨Lc, hQ, lq, yq, zq⟩, st⟩ := Jvm.LawKit.callS X hx (y := own_y15) hown (mvT hZ (hw _ (own_w 76 rfl))) (mvT hZ (hw _ (own_w 77 rfl))) (mvT hZ (hw _ (own_w 73 rfl))) (mvT hZ (hw _ (own_w 78 rfl))) (by decide) (backOf (W := 1) (own_take l Z a0 hw [] b4 b7 kb4 kb7 oo (14 : Int32) (own_into no M) [(.int (own_al (own_d M 21))), (.int (own_al (own_d M 20))), (.int (own_al (own_d M 19))), (.int (own_al (own_d M 18))), (.int (own_al (own_d M 17))), (.int (own_al (own_d M 16))), (.int (own_al (own_d M 15))), (.int (own_al (own_d M 14))), (.int (own_al (own_d M 13))), (.int (own_al (own_d M 12))), (.int (own_al (own_d M 11))), (.int (own_al (own_d M 10))), (.int (own_al (own_d M 9))), (.int (own_al (own_d M 8))), (.int 0), (.int 0), (.int 0), (.int 0), (.int 0), (.int 0), (.int 0), (.int 0)] (own_al (own_d M 7)) 14 h22 n0 O V_b4 V_b7 E_b7 E_b4 g_b7 (own_alm (own_dB M 7)) hof.1 (by rw [hof.2]; exact own_g14 hno) ⟨by decide, by decide⟩ (by decide) (Nat.le_of_ble_eq_true rfl)) hZ (hw _ (own_w 78 rfl)) (hw _ (own_w 73 rfl)) (by decide) (by decide)) (g := (mkF m 244 (own_A3 p0 p1 p2 p3 tt ww qq oo b1 b4 b7) [(.ref b7), (.int 14), (.int oo), (.ref b4), (.int 1)])) rfl (by rw [hml]; rfl) (argsL := [(.ref b4), (.int oo), (.int 14), (.ref b7)]) (rest := [(.int 1)]) (lenOf own_pd15 rfl) rfl (by show 2 * 0 + _ ≤ _; exact Nat.le_of_eq rfl) (hb hby at_244) (fun _ _ => ⟨rfl, eT, (by decide : 6 + 0 ≤ _), (by decide : 307 + 0 ≤ _)⟩)
  dsimp only [Pt.U, Pt.locs, Pt.cells, Pt.slots] at X lq yq zq st hQ
  rw [lq, yq, zq] at X
  obtain ⟨rfl, Nq, Kq, V_b7⟩ := hQ
  replace N := Fr.app N Nq
  obtain ⟨h23, eT⟩ : ∃ z, T.heap = z := ⟨_, rfl⟩
  rw [eT] at Kq V_b7
  have So : ∀ x ∈ [b7], Safe Z own_EL _ h22 x := (allS S_b7 all0)
  replace E_b1 := E_b1.keep Kq
  replace F_timeMillis_b1 := F_timeMillis_b1.keep Kq (ninS ne_b1_b7 nin0)
  replace F_worker_b1 := F_worker_b1.keep Kq (ninS ne_b1_b7 nin0)
  replace F_sequence_b1 := F_sequence_b1.keep Kq (ninS ne_b1_b7 nin0)
  replace E_b4 := E_b4.keep Kq
  replace V_b4 := V_b4.keep Kq (ninS ne_b4_b7 nin0)
  replace E_b7 := E_b7.keep Kq
  replace O := O.keep Kq (allS g_b7 all0)
  replace K0 := K0.trans Kq (allS (Or.inr sz_b7) all0)
  replace hk := Nat.le_trans hk Kq.1
  replace S_b1 := Safe.keep Kq So H.1 S_b1
  replace S_b4 := Safe.keep Kq So H.1 S_b4
  replace S_b7 := Safe.keep Kq So H.1 S_b7
  replace H := H.trans (CHr.keep Kq So H.1)
  refine own_via (g' := (mkF m 247 (own_A3 p0 p1 p2 p3 tt ww qq oo b1 b4 b7) [(.int 1), (.int 1)])) st ?_
  refine own_via (g' := (mkF m 248 (own_A3 p0 p1 p2 p3 tt ww qq oo b1 b4 b7) [(.int ((1 : Int32) &&& (1 : Int32)))])) (fun t_ k_ => XS.iand X.here hx rfl (hb hby at_247) rfl k_) ?_
  rw [(by decide : ((1 : Int32) &&& (1 : Int32)) = (1 : Int32))]
  refine own_via (g' := (mkF m 256 (own_A3 p0 p1 p2 p3 tt ww qq oo b1 b4 b7) [(.ref b7), (.int 15), (.int oo), (.ref b4), (.int 1)])) (fun t_ k_ => XS.aload X.here hx rfl (hb hby at_248) rfl rfl (XS.iload X.here hx rfl (hb hby at_250) rfl (XS.bipush X.here hx rfl (hb hby at_252) (XS.aload X.here hx rfl (hb hby at_254) rfl rfl k_)))) ?_
  have hof := own_at2 (own_off ho hno (15 : Int32) 15 (by decide) (by decide)) hno (by decide)
  obtain ⟨_, _, ⟨T, Lq, kq, nq⟩, -, X, ⟨Lc, hQ, lq, yq, zq⟩, st⟩ := Jvm.LawKit.callS X hx (y := own_y15) hown (mvT hZ (hw _ (own_w 76 rfl))) (mvT hZ (hw _ (own_w 77 rfl))) (mvT hZ (hw _ (own_w 73 rfl))) (mvT hZ (hw _ (own_w 78 rfl))) (by decide) (backOf (W := 1) (own_take l Z a0 hw [] b4 b7 kb4 kb7 oo (15 : Int32) (own_into no M) [(.int (own_al (own_d M 21))), (.int (own_al (own_d M 20))), (.int (own_al (own_d M 19))), (.int (own_al (own_d M 18))), (.int (own_al (own_d M 17))), (.int (own_al (own_d M 16))), (.int (own_al (own_d M 15))), (.int (own_al (own_d M 14))), (.int (own_al (own_d M 13))), (.int (own_al (own_d M 12))), (.int (own_al (own_d M 11))), (.int (own_al (own_d M 10))), (.int (own_al (own_d M 9))), (.int (own_al (own_d M 8))), (.int (own_al (own_d M 7))), (.int 0), (.int 0), (.int 0), (.int 0), (.int 0), (.int 0), (.int 0)] (own_al (own_d M 6)) 15 h23 n0 O V_b4 V_b7 E_b7 E_b4 g_b7 (own_alm (own_dB M 6)) hof.1 (by rw [hof.2]; exact own_g15 hno) ⟨by decide, by decide⟩ (by decide) (Nat.le_of_ble_eq_true rfl)) hZ (hw _ (own_w 78 rfl)) (hw _ (own_w 73 rfl)) (by decide) (by decide)) (g := (mkF m 256 (own_A3 p0 p1 p2 p3 tt ww qq oo b1 b4 b7) [(.ref b7), (.int 15), (.int oo), (.ref b4), (.int 1)])) rfl (by rw [hml]; rfl) (argsL := [(.ref b4), (.int oo), (.int 15), (.ref b7)]) (rest := [(.int 1)]) (lenOf own_pd15 rfl) rfl (by show 2 * 0 + _ ≤ _; exact Nat.le_of_eq rfl) (hb hby at_256) (fun _ _ => ⟨rfl, eT, (by decide : 6 + 0 ≤ _), (by decide : 307 + 0 ≤ _)⟩)
  dsimp only [Pt.U, Pt.locs, Pt.cells, Pt.slots] at X lq yq zq st hQ
  rw [lq, yq, zq] at X
  obtain ⟨rfl, Nq, Kq, V_b7⟩ := hQ
  replace N := Fr.app N Nq
  obtain ⟨h24, eT⟩ : ∃ z, T.heap = z := ⟨_, rfl⟩
  rw [eT] at Kq V_b7
  have So : ∀ x ∈ [b7], Safe Z own_EL _ h23 x := (allS S_b7 all0)
  replace E_b1 := E_b1.keep Kq
  replace F_timeMillis_b1 := F_timeMillis_b1.keep Kq (ninS ne_b1_b7 nin0)
  replace F_worker_b1 := F_worker_b1.keep Kq (ninS ne_b1_b7 nin0)
  replace F_sequence_b1 := F_sequence_b1.keep Kq (ninS ne_b1_b7 nin0)
  replace E_b4 := E_b4.keep Kq
  replace V_b4 := V_b4.keep Kq (ninS ne_b4_b7 nin0)
  replace E_b7 := E_b7.keep Kq
  replace O := O.keep Kq (allS g_b7 all0)
  replace K0 := K0.trans Kq (allS (Or.inr sz_b7) all0)
  replace hk := Nat.le_trans hk Kq.1
  replace S_b1 := Safe.keep Kq So H.1 S_b1
  replace S_b4 := Safe.keep Kq So H.1 S_b4
  replace S_b7 := Safe.keep Kq So H.1 S_b7
  replace H := H.trans (CHr.keep Kq So H.1)
  refine own_via (g' := (mkF m 259 (own_A3 p0 p1 p2 p3 tt ww qq oo b1 b4 b7) [(.int 1), (.int 1)])) st ?_
  refine own_via (g' := (mkF m 260 (own_A3 p0 p1 p2 p3 tt ww qq oo b1 b4 b7) [(.int ((1 : Int32) &&& (1 : Int32)))])) (fun t_ k_ => XS.iand X.here hx rfl (hb hby at_259) rfl k_) ?_
  rw [(by decide : ((1 : Int32) &&& (1 : Int32)) = (1 : Int32))]
  refine own_via (g' := (mkF m 268 (own_A3 p0 p1 p2 p3 tt ww qq oo b1 b4 b7) [(.ref b7), (.int 16), (.int oo), (.ref b4), (.int 1)])) (fun t_ k_ => XS.aload X.here hx rfl (hb hby at_260) rfl rfl (XS.iload X.here hx rfl (hb hby at_262) rfl (XS.bipush X.here hx rfl (hb hby at_264) (XS.aload X.here hx rfl (hb hby at_266) rfl rfl k_)))) ?_
  have hof := own_at2 (own_off ho hno (16 : Int32) 16 (by decide) (by decide)) hno (by decide)
  obtain ⟨_, _, ⟨T, Lq, kq, nq⟩, -, X, ⟨Lc, hQ, lq, yq, zq⟩, st⟩ := Jvm.LawKit.callS X hx (y := own_y15) hown (mvT hZ (hw _ (own_w 76 rfl))) (mvT hZ (hw _ (own_w 77 rfl))) (mvT hZ (hw _ (own_w 73 rfl))) (mvT hZ (hw _ (own_w 78 rfl))) (by decide) (backOf (W := 1) (own_take l Z a0 hw [] b4 b7 kb4 kb7 oo (16 : Int32) (own_into no M) [(.int (own_al (own_d M 21))), (.int (own_al (own_d M 20))), (.int (own_al (own_d M 19))), (.int (own_al (own_d M 18))), (.int (own_al (own_d M 17))), (.int (own_al (own_d M 16))), (.int (own_al (own_d M 15))), (.int (own_al (own_d M 14))), (.int (own_al (own_d M 13))), (.int (own_al (own_d M 12))), (.int (own_al (own_d M 11))), (.int (own_al (own_d M 10))), (.int (own_al (own_d M 9))), (.int (own_al (own_d M 8))), (.int (own_al (own_d M 7))), (.int (own_al (own_d M 6))), (.int 0), (.int 0), (.int 0), (.int 0), (.int 0), (.int 0)] (own_al (own_d M 5)) 16 h24 n0 O V_b4 V_b7 E_b7 E_b4 g_b7 (own_alm (own_dB M 5)) hof.1 (by rw [hof.2]; exact own_g16 hno) ⟨by decide, by decide⟩ (by decide) (Nat.le_of_ble_eq_true rfl)) hZ (hw _ (own_w 78 rfl)) (hw _ (own_w 73 rfl)) (by decide) (by decide)) (g := (mkF m 268 (own_A3 p0 p1 p2 p3 tt ww qq oo b1 b4 b7) [(.ref b7), (.int 16), (.int oo), (.ref b4), (.int 1)])) rfl (by rw [hml]; rfl) (argsL := [(.ref b4), (.int oo), (.int 16), (.ref b7)]) (rest := [(.int 1)]) (lenOf own_pd15 rfl) rfl (by show 2 * 0 + _ ≤ _; exact Nat.le_of_eq rfl) (hb hby at_268) (fun _ _ => ⟨rfl, eT, (by decide : 6 + 0 ≤ _), (by decide : 307 + 0 ≤ _)⟩)
  dsimp only [Pt.U, Pt.locs, Pt.cells, Pt.slots] at X lq yq zq st hQ
  rw [lq, yq, zq] at X
  obtain ⟨rfl, Nq, Kq, V_b7⟩ := hQ
  replace N := Fr.app N Nq
  obtain ⟨h25, eT⟩ : ∃ z, T.heap = z := ⟨_, rfl⟩
  rw [eT] at Kq V_b7
  have So : ∀ x ∈ [b7], Safe Z own_EL _ h24 x := (allS S_b7 all0)
  replace E_b1 := E_b1.keep Kq
  replace F_timeMillis_b1 := F_timeMillis_b1.keep Kq (ninS ne_b1_b7 nin0)
  replace F_worker_b1 := F_worker_b1.keep Kq (ninS ne_b1_b7 nin0)
  replace F_sequence_b1 := F_sequence_b1.keep Kq (ninS ne_b1_b7 nin0)
  replace E_b4 := E_b4.keep Kq
  replace V_b4 := V_b4.keep Kq (ninS ne_b4_b7 nin0)
  replace E_b7 := E_b7.keep Kq
  replace O := O.keep Kq (allS g_b7 all0)
  replace K0 := K0.trans Kq (allS (Or.inr sz_b7) all0)
  replace hk := Nat.le_trans hk Kq.1
  replace S_b1 := Safe.keep Kq So H.1 S_b1
  replace S_b4 := Safe.keep Kq So H.1 S_b4
  replace S_b7 := Safe.keep Kq So H.1 S_b7
  replace H := H.trans (CHr.keep Kq So H.1)
  refine own_via (g' := (mkF m 271 (own_A3 p0 p1 p2 p3 tt ww qq oo b1 b4 b7) [(.int 1), (.int 1)])) st ?_
  refine own_via (g' := (mkF m 272 (own_A3 p0 p1 p2 p3 tt ww qq oo b1 b4 b7) [(.int ((1 : Int32) &&& (1 : Int32)))])) (fun t_ k_ => XS.iand X.here hx rfl (hb hby at_271) rfl k_) ?_
  rw [(by decide : ((1 : Int32) &&& (1 : Int32)) = (1 : Int32))]
  refine own_via (g' := (mkF m 280 (own_A3 p0 p1 p2 p3 tt ww qq oo b1 b4 b7) [(.ref b7), (.int 17), (.int oo), (.ref b4), (.int 1)])) (fun t_ k_ => XS.aload X.here hx rfl (hb hby at_272) rfl rfl (XS.iload X.here hx rfl (hb hby at_274) rfl (XS.bipush X.here hx rfl (hb hby at_276) (XS.aload X.here hx rfl (hb hby at_278) rfl rfl k_)))) ?_
  have hof := own_at2 (own_off ho hno (17 : Int32) 17 (by decide) (by decide)) hno (by decide)
  obtain ⟨_, _, ⟨T, Lq, kq, nq⟩, -, X, ⟨Lc, hQ, lq, yq, zq⟩, st⟩ := Jvm.LawKit.callS X hx (y := own_y15) hown (mvT hZ (hw _ (own_w 76 rfl))) (mvT hZ (hw _ (own_w 77 rfl))) (mvT hZ (hw _ (own_w 73 rfl))) (mvT hZ (hw _ (own_w 78 rfl))) (by decide) (backOf (W := 1) (own_take l Z a0 hw [] b4 b7 kb4 kb7 oo (17 : Int32) (own_into no M) [(.int (own_al (own_d M 21))), (.int (own_al (own_d M 20))), (.int (own_al (own_d M 19))), (.int (own_al (own_d M 18))), (.int (own_al (own_d M 17))), (.int (own_al (own_d M 16))), (.int (own_al (own_d M 15))), (.int (own_al (own_d M 14))), (.int (own_al (own_d M 13))), (.int (own_al (own_d M 12))), (.int (own_al (own_d M 11))), (.int (own_al (own_d M 10))), (.int (own_al (own_d M 9))), (.int (own_al (own_d M 8))), (.int (own_al (own_d M 7))), (.int (own_al (own_d M 6))), (.int (own_al (own_d M 5))), (.int 0), (.int 0), (.int 0), (.int 0), (.int 0)] (own_al (own_d M 4)) 17 h25 n0 O V_b4 V_b7 E_b7 E_b4 g_b7 (own_alm (own_dB M 4)) hof.1 (by rw [hof.2]; exact own_g17 hno) ⟨by decide, by decide⟩ (by decide) (Nat.le_of_ble_eq_true rfl)) hZ (hw _ (own_w 78 rfl)) (hw _ (own_w 73 rfl)) (by decide) (by decide)) (g := (mkF m 280 (own_A3 p0 p1 p2 p3 tt ww qq oo b1 b4 b7) [(.ref b7), (.int 17), (.int oo), (.ref b4), (.int 1)])) rfl (by rw [hml]; rfl) (argsL := [(.ref b4), (.int oo), (.int 17), (.ref b7)]) (rest := [(.int 1)]) (lenOf own_pd15 rfl) rfl (by show 2 * 0 + _ ≤ _; exact Nat.le_of_eq rfl) (hb hby at_280) (fun _ _ => ⟨rfl, eT, (by decide : 6 + 0 ≤ _), (by decide : 307 + 0 ≤ _)⟩)
  dsimp only [Pt.U, Pt.locs, Pt.cells, Pt.slots] at X lq yq zq st hQ
  rw [lq, yq, zq] at X
  obtain ⟨rfl, Nq, Kq, V_b7⟩ := hQ
  replace N := Fr.app N Nq
  obtain ⟨h26, eT⟩ : ∃ z, T.heap = z := ⟨_, rfl⟩
  rw [eT] at Kq V_b7
  have So : ∀ x ∈ [b7], Safe Z own_EL _ h25 x := (allS S_b7 all0)
  replace E_b1 := E_b1.keep Kq
  replace F_timeMillis_b1 := F_timeMillis_b1.keep Kq (ninS ne_b1_b7 nin0)
  replace F_worker_b1 := F_worker_b1.keep Kq (ninS ne_b1_b7 nin0)
  replace F_sequence_b1 := F_sequence_b1.keep Kq (ninS ne_b1_b7 nin0)
  replace E_b4 := E_b4.keep Kq
  replace V_b4 := V_b4.keep Kq (ninS ne_b4_b7 nin0)
  replace E_b7 := E_b7.keep Kq
  replace O := O.keep Kq (allS g_b7 all0)
  replace K0 := K0.trans Kq (allS (Or.inr sz_b7) all0)
  replace hk := Nat.le_trans hk Kq.1
  replace S_b1 := Safe.keep Kq So H.1 S_b1
  replace S_b4 := Safe.keep Kq So H.1 S_b4
  replace S_b7 := Safe.keep Kq So H.1 S_b7
  replace H := H.trans (CHr.keep Kq So H.1)
  refine own_via (g' := (mkF m 283 (own_A3 p0 p1 p2 p3 tt ww qq oo b1 b4 b7) [(.int 1), (.int 1)])) st ?_
  refine own_via (g' := (mkF m 284 (own_A3 p0 p1 p2 p3 tt ww qq oo b1 b4 b7) [(.int ((1 : Int32) &&& (1 : Int32)))])) (fun t_ k_ => XS.iand X.here hx rfl (hb hby at_283) rfl k_) ?_
  rw [(by decide : ((1 : Int32) &&& (1 : Int32)) = (1 : Int32))]
  refine own_via (g' := (mkF m 292 (own_A3 p0 p1 p2 p3 tt ww qq oo b1 b4 b7) [(.ref b7), (.int 18), (.int oo), (.ref b4), (.int 1)])) (fun t_ k_ => XS.aload X.here hx rfl (hb hby at_284) rfl rfl (XS.iload X.here hx rfl (hb hby at_286) rfl (XS.bipush X.here hx rfl (hb hby at_288) (XS.aload X.here hx rfl (hb hby at_290) rfl rfl k_)))) ?_
  have hof := own_at2 (own_off ho hno (18 : Int32) 18 (by decide) (by decide)) hno (by decide)
  obtain ⟨_, _, ⟨T, Lq, kq, nq⟩, -, X, ⟨Lc, hQ, lq, yq, zq⟩, st⟩ := Jvm.LawKit.callS X hx (y := own_y15) hown (mvT hZ (hw _ (own_w 76 rfl))) (mvT hZ (hw _ (own_w 77 rfl))) (mvT hZ (hw _ (own_w 73 rfl))) (mvT hZ (hw _ (own_w 78 rfl))) (by decide) (backOf (W := 1) (own_take l Z a0 hw [] b4 b7 kb4 kb7 oo (18 : Int32) (own_into no M) [(.int (own_al (own_d M 21))), (.int (own_al (own_d M 20))), (.int (own_al (own_d M 19))), (.int (own_al (own_d M 18))), (.int (own_al (own_d M 17))), (.int (own_al (own_d M 16))), (.int (own_al (own_d M 15))), (.int (own_al (own_d M 14))), (.int (own_al (own_d M 13))), (.int (own_al (own_d M 12))), (.int (own_al (own_d M 11))), (.int (own_al (own_d M 10))), (.int (own_al (own_d M 9))), (.int (own_al (own_d M 8))), (.int (own_al (own_d M 7))), (.int (own_al (own_d M 6))), (.int (own_al (own_d M 5))), (.int (own_al (own_d M 4))), (.int 0), (.int 0), (.int 0), (.int 0)] (own_al (own_d M 3)) 18 h26 n0 O V_b4 V_b7 E_b7 E_b4 g_b7 (own_alm (own_dB M 3)) hof.1 (by rw [hof.2]; exact own_g18 hno) ⟨by decide, by decide⟩ (by decide) (Nat.le_of_ble_eq_true rfl)) hZ (hw _ (own_w 78 rfl)) (hw _ (own_w 73 rfl)) (by decide) (by decide)) (g := (mkF m 292 (own_A3 p0 p1 p2 p3 tt ww qq oo b1 b4 b7) [(.ref b7), (.int 18), (.int oo), (.ref b4), (.int 1)])) rfl (by rw [hml]; rfl) (argsL := [(.ref b4), (.int oo), (.int 18), (.ref b7)]) (rest := [(.int 1)]) (lenOf own_pd15 rfl) rfl (by show 2 * 0 + _ ≤ _; exact Nat.le_of_eq rfl) (hb hby at_292) (fun _ _ => ⟨rfl, eT, (by decide : 6 + 0 ≤ _), (by decide : 307 + 0 ≤ _)⟩)
  dsimp only [Pt.U, Pt.locs, Pt.cells, Pt.slots] at X lq yq zq st hQ
  rw [lq, yq, zq] at X
  obtain ⟨rfl, Nq, Kq, V_b7⟩ := hQ
  replace N := Fr.app N Nq
  obtain ⟨h27, eT⟩ : ∃ z, T.heap = z := ⟨_, rfl⟩
  rw [eT] at Kq V_b7
  have So : ∀ x ∈ [b7], Safe Z own_EL _ h26 x := (allS S_b7 all0)
  replace E_b1 := E_b1.keep Kq
  replace F_timeMillis_b1 := F_timeMillis_b1.keep Kq (ninS ne_b1_b7 nin0)
  replace F_worker_b1 := F_worker_b1.keep Kq (ninS ne_b1_b7 nin0)
  replace F_sequence_b1 := F_sequence_b1.keep Kq (ninS ne_b1_b7 nin0)
  replace E_b4 := E_b4.keep Kq
  replace V_b4 := V_b4.keep Kq (ninS ne_b4_b7 nin0)
  replace E_b7 := E_b7.keep Kq
  replace O := O.keep Kq (allS g_b7 all0)
  replace K0 := K0.trans Kq (allS (Or.inr sz_b7) all0)
  replace hk := Nat.le_trans hk Kq.1
  replace S_b1 := Safe.keep Kq So H.1 S_b1
  replace S_b4 := Safe.keep Kq So H.1 S_b4
  replace S_b7 := Safe.keep Kq So H.1 S_b7
  replace H := H.trans (CHr.keep Kq So H.1)
  refine own_via (g' := (mkF m 295 (own_A3 p0 p1 p2 p3 tt ww qq oo b1 b4 b7) [(.int 1), (.int 1)])) st ?_
  refine own_via (g' := (mkF m 296 (own_A3 p0 p1 p2 p3 tt ww qq oo b1 b4 b7) [(.int ((1 : Int32) &&& (1 : Int32)))])) (fun t_ k_ => XS.iand X.here hx rfl (hb hby at_295) rfl k_) ?_
  rw [(by decide : ((1 : Int32) &&& (1 : Int32)) = (1 : Int32))]
  refine own_via (g' := (mkF m 304 (own_A3 p0 p1 p2 p3 tt ww qq oo b1 b4 b7) [(.ref b7), (.int 19), (.int oo), (.ref b4), (.int 1)])) (fun t_ k_ => XS.aload X.here hx rfl (hb hby at_296) rfl rfl (XS.iload X.here hx rfl (hb hby at_298) rfl (XS.bipush X.here hx rfl (hb hby at_300) (XS.aload X.here hx rfl (hb hby at_302) rfl rfl k_)))) ?_
  have hof := own_at2 (own_off ho hno (19 : Int32) 19 (by decide) (by decide)) hno (by decide)
  obtain ⟨_, _, ⟨T, Lq, kq, nq⟩, -, X, ⟨Lc, hQ, lq, yq, zq⟩, st⟩ := Jvm.LawKit.callS X hx (y := own_y15) hown (mvT hZ (hw _ (own_w 76 rfl))) (mvT hZ (hw _ (own_w 77 rfl))) (mvT hZ (hw _ (own_w 73 rfl))) (mvT hZ (hw _ (own_w 78 rfl))) (by decide) (backOf (W := 1) (own_take l Z a0 hw [] b4 b7 kb4 kb7 oo (19 : Int32) (own_into no M) [(.int (own_al (own_d M 21))), (.int (own_al (own_d M 20))), (.int (own_al (own_d M 19))), (.int (own_al (own_d M 18))), (.int (own_al (own_d M 17))), (.int (own_al (own_d M 16))), (.int (own_al (own_d M 15))), (.int (own_al (own_d M 14))), (.int (own_al (own_d M 13))), (.int (own_al (own_d M 12))), (.int (own_al (own_d M 11))), (.int (own_al (own_d M 10))), (.int (own_al (own_d M 9))), (.int (own_al (own_d M 8))), (.int (own_al (own_d M 7))), (.int (own_al (own_d M 6))), (.int (own_al (own_d M 5))), (.int (own_al (own_d M 4))), (.int (own_al (own_d M 3))), (.int 0), (.int 0), (.int 0)] (own_al (own_d M 2)) 19 h27 n0 O V_b4 V_b7 E_b7 E_b4 g_b7 (own_alm (own_dB M 2)) hof.1 (by rw [hof.2]; exact own_g19 hno) ⟨by decide, by decide⟩ (by decide) (Nat.le_of_ble_eq_true rfl)) hZ (hw _ (own_w 78 rfl)) (hw _ (own_w 73 rfl)) (by decide) (by decide)) (g := (mkF m 304 (own_A3 p0 p1 p2 p3 tt ww qq oo b1 b4 b7) [(.ref b7), (.int 19), (.int oo), (.ref b4), (.int 1)])) rfl (by rw [hml]; rfl) (argsL := [(.ref b4), (.int oo), (.int 19), (.ref b7)]) (rest := [(.int 1)]) (lenOf own_pd15 rfl) rfl (by show 2 * 0 + _ ≤ _; exact Nat.le_of_eq rfl) (hb hby at_304) (fun _ _ => ⟨rfl, eT, (by decide : 6 + 0 ≤ _), (by decide : 307 + 0 ≤ _)⟩)
  dsimp only [Pt.U, Pt.locs, Pt.cells, Pt.slots] at X lq yq zq st hQ
  rw [lq, yq, zq] at X
  obtain ⟨rfl, Nq, Kq, V_b7⟩ := hQ
  replace N := Fr.app N Nq
  obtain ⟨h28, eT⟩ : ∃ z, T.heap = z := ⟨_, rfl⟩
  rw [eT] at Kq V_b7
  have So : ∀ x ∈ [b7], Safe Z own_EL _ h27 x := (allS S_b7 all0)
  replace E_b1 := E_b1.keep Kq
  replace F_timeMillis_b1 := F_timeMillis_b1.keep Kq (ninS ne_b1_b7 nin0)
  replace F_worker_b1 := F_worker_b1.keep Kq (ninS ne_b1_b7 nin0)
  replace F_sequence_b1 := F_sequence_b1.keep Kq (ninS ne_b1_b7 nin0)
  replace E_b4 := E_b4.keep Kq
  replace V_b4 := V_b4.keep Kq (ninS ne_b4_b7 nin0)
  replace E_b7 := E_b7.keep Kq
  replace O := O.keep Kq (allS g_b7 all0)
  replace K0 := K0.trans Kq (allS (Or.inr sz_b7) all0)
  replace hk := Nat.le_trans hk Kq.1
  replace S_b1 := Safe.keep Kq So H.1 S_b1
  replace S_b4 := Safe.keep Kq So H.1 S_b4
  replace S_b7 := Safe.keep Kq So H.1 S_b7
  replace H := H.trans (CHr.keep Kq So H.1)
  refine own_via (g' := (mkF m 307 (own_A3 p0 p1 p2 p3 tt ww qq oo b1 b4 b7) [(.int 1), (.int 1)])) st ?_
  refine own_via (g' := (mkF m 308 (own_A3 p0 p1 p2 p3 tt ww qq oo b1 b4 b7) [(.int ((1 : Int32) &&& (1 : Int32)))])) (fun t_ k_ => XS.iand X.here hx rfl (hb hby at_307) rfl k_) ?_
  rw [(by decide : ((1 : Int32) &&& (1 : Int32)) = (1 : Int32))]
  refine own_via (g' := (mkF m 316 (own_A3 p0 p1 p2 p3 tt ww qq oo b1 b4 b7) [(.ref b7), (.int 20), (.int oo), (.ref b4), (.int 1)])) (fun t_ k_ => XS.aload X.here hx rfl (hb hby at_308) rfl rfl (XS.iload X.here hx rfl (hb hby at_310) rfl (XS.bipush X.here hx rfl (hb hby at_312) (XS.aload X.here hx rfl (hb hby at_314) rfl rfl k_)))) ?_
  have hof := own_at2 (own_off ho hno (20 : Int32) 20 (by decide) (by decide)) hno (by decide)
  obtain ⟨_, _, ⟨T, Lq, kq, nq⟩, -, X, ⟨Lc, hQ, lq, yq, zq⟩, st⟩ := Jvm.LawKit.callS X hx (y := own_y15) hown (mvT hZ (hw _ (own_w 76 rfl))) (mvT hZ (hw _ (own_w 77 rfl))) (mvT hZ (hw _ (own_w 73 rfl))) (mvT hZ (hw _ (own_w 78 rfl))) (by decide) (backOf (W := 1) (own_take l Z a0 hw [] b4 b7 kb4 kb7 oo (20 : Int32) (own_into no M) [(.int (own_al (own_d M 21))), (.int (own_al (own_d M 20))), (.int (own_al (own_d M 19))), (.int (own_al (own_d M 18))), (.int (own_al (own_d M 17))), (.int (own_al (own_d M 16))), (.int (own_al (own_d M 15))), (.int (own_al (own_d M 14))), (.int (own_al (own_d M 13))), (.int (own_al (own_d M 12))), (.int (own_al (own_d M 11))), (.int (own_al (own_d M 10))), (.int (own_al (own_d M 9))), (.int (own_al (own_d M 8))), (.int (own_al (own_d M 7))), (.int (own_al (own_d M 6))), (.int (own_al (own_d M 5))), (.int (own_al (own_d M 4))), (.int (own_al (own_d M 3))), (.int (own_al (own_d M 2))), (.int 0), (.int 0)] (own_al (own_d M 1)) 20 h28 n0 O V_b4 V_b7 E_b7 E_b4 g_b7 (own_alm (own_dB M 1)) hof.1 (by rw [hof.2]; exact own_g20 hno) ⟨by decide, by decide⟩ (by decide) (Nat.le_of_ble_eq_true rfl)) hZ (hw _ (own_w 78 rfl)) (hw _ (own_w 73 rfl)) (by decide) (by decide)) (g := (mkF m 316 (own_A3 p0 p1 p2 p3 tt ww qq oo b1 b4 b7) [(.ref b7), (.int 20), (.int oo), (.ref b4), (.int 1)])) rfl (by rw [hml]; rfl) (argsL := [(.ref b4), (.int oo), (.int 20), (.ref b7)]) (rest := [(.int 1)]) (lenOf own_pd15 rfl) rfl (by show 2 * 0 + _ ≤ _; exact Nat.le_of_eq rfl) (hb hby at_316) (fun _ _ => ⟨rfl, eT, (by decide : 6 + 0 ≤ _), (by decide : 307 + 0 ≤ _)⟩)
  dsimp only [Pt.U, Pt.locs, Pt.cells, Pt.slots] at X lq yq zq st hQ
  rw [lq, yq, zq] at X
  obtain ⟨rfl, Nq, Kq, V_b7⟩ := hQ
  replace N := Fr.app N Nq
  obtain ⟨h29, eT⟩ : ∃ z, T.heap = z := ⟨_, rfl⟩
  rw [eT] at Kq V_b7
  have So : ∀ x ∈ [b7], Safe Z own_EL _ h28 x := (allS S_b7 all0)
  replace E_b1 := E_b1.keep Kq
  replace F_timeMillis_b1 := F_timeMillis_b1.keep Kq (ninS ne_b1_b7 nin0)
  replace F_worker_b1 := F_worker_b1.keep Kq (ninS ne_b1_b7 nin0)
  replace F_sequence_b1 := F_sequence_b1.keep Kq (ninS ne_b1_b7 nin0)
  replace E_b4 := E_b4.keep Kq
  replace V_b4 := V_b4.keep Kq (ninS ne_b4_b7 nin0)
  replace E_b7 := E_b7.keep Kq
  replace O := O.keep Kq (allS g_b7 all0)
  replace K0 := K0.trans Kq (allS (Or.inr sz_b7) all0)
  replace hk := Nat.le_trans hk Kq.1
  replace S_b1 := Safe.keep Kq So H.1 S_b1
  replace S_b4 := Safe.keep Kq So H.1 S_b4
  replace S_b7 := Safe.keep Kq So H.1 S_b7
  replace H := H.trans (CHr.keep Kq So H.1)
  refine own_via (g' := (mkF m 319 (own_A3 p0 p1 p2 p3 tt ww qq oo b1 b4 b7) [(.int 1), (.int 1)])) st ?_
  refine own_via (g' := (mkF m 320 (own_A3 p0 p1 p2 p3 tt ww qq oo b1 b4 b7) [(.int ((1 : Int32) &&& (1 : Int32)))])) (fun t_ k_ => XS.iand X.here hx rfl (hb hby at_319) rfl k_) ?_
  rw [(by decide : ((1 : Int32) &&& (1 : Int32)) = (1 : Int32))]
  refine own_via (g' := (mkF m 328 (own_A3 p0 p1 p2 p3 tt ww qq oo b1 b4 b7) [(.ref b7), (.int 21), (.int oo), (.ref b4), (.int 1)])) (fun t_ k_ => XS.aload X.here hx rfl (hb hby at_320) rfl rfl (XS.iload X.here hx rfl (hb hby at_322) rfl (XS.bipush X.here hx rfl (hb hby at_324) (XS.aload X.here hx rfl (hb hby at_326) rfl rfl k_)))) ?_
  have hof := own_at2 (own_off ho hno (21 : Int32) 21 (by decide) (by decide)) hno (by decide)
  obtain ⟨_, _, ⟨T, Lq, kq, nq⟩, -, X, ⟨Lc, hQ, lq, yq, zq⟩, st⟩ := Jvm.LawKit.callS X hx (y := own_y15) hown (mvT hZ (hw _ (own_w 76 rfl))) (mvT hZ (hw _ (own_w 77 rfl))) (mvT hZ (hw _ (own_w 73 rfl))) (mvT hZ (hw _ (own_w 78 rfl))) (by decide) (backOf (W := 1) (own_take l Z a0 hw [] b4 b7 kb4 kb7 oo (21 : Int32) (own_into no M) [(.int (own_al (own_d M 21))), (.int (own_al (own_d M 20))), (.int (own_al (own_d M 19))), (.int (own_al (own_d M 18))), (.int (own_al (own_d M 17))), (.int (own_al (own_d M 16))), (.int (own_al (own_d M 15))), (.int (own_al (own_d M 14))), (.int (own_al (own_d M 13))), (.int (own_al (own_d M 12))), (.int (own_al (own_d M 11))), (.int (own_al (own_d M 10))), (.int (own_al (own_d M 9))), (.int (own_al (own_d M 8))), (.int (own_al (own_d M 7))), (.int (own_al (own_d M 6))), (.int (own_al (own_d M 5))), (.int (own_al (own_d M 4))), (.int (own_al (own_d M 3))), (.int (own_al (own_d M 2))), (.int (own_al (own_d M 1))), (.int 0)] (own_al (own_d M 0)) 21 h29 n0 O V_b4 V_b7 E_b7 E_b4 g_b7 (own_alm (own_dB M 0)) hof.1 (by rw [hof.2]; exact own_g21 hno) ⟨by decide, by decide⟩ (by decide) (Nat.le_of_ble_eq_true rfl)) hZ (hw _ (own_w 78 rfl)) (hw _ (own_w 73 rfl)) (by decide) (by decide)) (g := (mkF m 328 (own_A3 p0 p1 p2 p3 tt ww qq oo b1 b4 b7) [(.ref b7), (.int 21), (.int oo), (.ref b4), (.int 1)])) rfl (by rw [hml]; rfl) (argsL := [(.ref b4), (.int oo), (.int 21), (.ref b7)]) (rest := [(.int 1)]) (lenOf own_pd15 rfl) rfl (by show 2 * 0 + _ ≤ _; exact Nat.le_of_eq rfl) (hb hby at_328) (fun _ _ => ⟨rfl, eT, (by decide : 6 + 0 ≤ _), (by decide : 307 + 0 ≤ _)⟩)
  dsimp only [Pt.U, Pt.locs, Pt.cells, Pt.slots] at X lq yq zq st hQ
  rw [lq, yq, zq] at X
  obtain ⟨rfl, Nq, Kq, V_b7⟩ := hQ
  replace N := Fr.app N Nq
  obtain ⟨h30, eT⟩ : ∃ z, T.heap = z := ⟨_, rfl⟩
  rw [eT] at Kq V_b7
  have So : ∀ x ∈ [b7], Safe Z own_EL _ h29 x := (allS S_b7 all0)
  replace E_b1 := E_b1.keep Kq
  replace F_timeMillis_b1 := F_timeMillis_b1.keep Kq (ninS ne_b1_b7 nin0)
  replace F_worker_b1 := F_worker_b1.keep Kq (ninS ne_b1_b7 nin0)
  replace F_sequence_b1 := F_sequence_b1.keep Kq (ninS ne_b1_b7 nin0)
  replace E_b4 := E_b4.keep Kq
  replace V_b4 := V_b4.keep Kq (ninS ne_b4_b7 nin0)
  replace E_b7 := E_b7.keep Kq
  replace O := O.keep Kq (allS g_b7 all0)
  replace K0 := K0.trans Kq (allS (Or.inr sz_b7) all0)
  replace hk := Nat.le_trans hk Kq.1
  replace S_b1 := Safe.keep Kq So H.1 S_b1
  replace S_b4 := Safe.keep Kq So H.1 S_b4
  replace S_b7 := Safe.keep Kq So H.1 S_b7
  replace H := H.trans (CHr.keep Kq So H.1)
  refine own_via (g' := (mkF m 331 (own_A3 p0 p1 p2 p3 tt ww qq oo b1 b4 b7) [(.int 1), (.int 1)])) st ?_
  refine own_via (g' := (mkF m 332 (own_A3 p0 p1 p2 p3 tt ww qq oo b1 b4 b7) [(.int ((1 : Int32) &&& (1 : Int32)))])) (fun t_ k_ => XS.iand X.here hx rfl (hb hby at_331) rfl k_) ?_
  rw [(by decide : ((1 : Int32) &&& (1 : Int32)) = (1 : Int32))]
  refine own_via (g' := (mkF m 345 (own_A2 p0 p1 p2 p3 tt ww qq oo b1 b4 b7 1) [(.int oo), (.ref b4)])) (fun t_ k_ => XS.istore X.here hx rfl (hb hby at_332) rfl (l' := (own_A2 p0 p1 p2 p3 tt ww qq oo b1 b4 b7 1)) rfl (XS.iload X.here hx rfl (hb hby at_334) rfl (XS.ifYes X.here hx rfl (pc0 := 336) (pc' := 341) rfl (hb hby at_336) rfl ((if0 _ _).trans (feq (by decide : ¬ ((1 : Int32) = (0 : Int32)))).2) (by decide) (by decide) (XS.aload X.here hx rfl (hb hby at_341) rfl rfl (XS.iload X.here hx rfl (hb hby at_343) rfl k_))))) ?_
  have hof := own_at2 (k := 0) ho hno (by decide)
  obtain ⟨cl_, Ar_, -, Sz_, Nn_, Hs_, -⟩ := id V_b4
  have hin_ : ¬ (oo < 0 ∨ cl_.slots.size ≤ (oo).toNatClampNeg) := inb_of Sz_ hof.1
  have hat_ : cl_.slots[(oo).toNatClampNeg]? = some (.int (own_al (own_d M 21))) := Hs_.at hin_ (by rw [hof.2]; exact own_g0 hno)
  refine own_via (g' := (mkF m 346 (own_A2 p0 p1 p2 p3 tt ww qq oo b1 b4 b7 1) [(.int (own_al (own_d M 21)))])) (fun t_ k_ => X.baloadBytes hx (j := oo) (v := (.int (own_al (own_d M 21)))) (by rw [eT]; exact Ar_.1) (State.isArrayOf_alike hZ.alike Ar_.2.1) Ar_.2.2 hin_ hat_ (g := (mkF m 345 (own_A2 p0 p1 p2 p3 tt ww qq oo b1 b4 b7 1) [(.int oo), (.ref b4)])) rfl rfl (hb hby at_345) _ k_) ?_
  have h03 := own_al03 ⟨(own_dB M 21).1, (own_w20 hM1 hM2).2.2.2.2⟩
  refine own_via (g' := (mkF m 355 (own_A2 p0 p1 p2 p3 tt ww qq oo b1 b4 b7 1) [(.int oo), (.ref b4)])) (fun t_ k_ => XS.bipush X.here hx rfl (hb hby at_346) (XS.icmpNo X.here hx rfl (hb hby at_348) rfl (flt h03.1).1 (XS.aload X.here hx rfl (hb hby at_351) rfl rfl (XS.iload X.here hx rfl (hb hby at_353) rfl k_)))) ?_
  have hof := own_at2 (k := 0) ho hno (by decide)
  obtain ⟨cl_, Ar_, -, Sz_, Nn_, Hs_, -⟩ := id V_b4
  have hin_ : ¬ (oo < 0 ∨ cl_.slots.size ≤ (oo).toNatClampNeg) := inb_of Sz_ hof.1
  have hat_ : cl_.slots[(oo).toNatClampNeg]? = some (.int (own_al (own_d M 21))) := Hs_.at hin_ (by rw [hof.2]; exact own_g0 hno)
  refine own_via (g' := (mkF m 378 (own_A2 p0 p1 p2 p3 tt ww qq oo b1 b4 b7 1) [(.long 62), (.long ww), (.long ((tt - (tt / (62 : Int64)) * (62 : Int64)) * (16 : Int64)))])) (fun t_ k_ => X.baloadBytes hx (j := oo) (v := (.int (own_al (own_d M 21)))) (by rw [eT]; exact Ar_.1) (State.isArrayOf_alike hZ.alike Ar_.2.1) Ar_.2.2 hin_ hat_ (g := (mkF m 355 (own_A2 p0 p1 p2 p3 tt ww qq oo b1 b4 b7 1) [(.int oo), (.ref b4)])) rfl rfl (hb hby at_355) _ (XS.bipush X.here hx rfl (hb hby at_356) (XS.icmpYes X.here hx rfl (pc0 := 358) (pc' := 363) rfl (hb hby at_358) rfl (flt h03.2).2.2.2 (by decide) (by decide) (XS.lload X.here hx rfl (hb hby at_363) rfl (X.ldc2Long hx hown (mvT hZ (hw _ (own_w 82 rfl))) (g := (mkF m 365 (own_A2 p0 p1 p2 p3 tt ww qq oo b1 b4 b7 1) [(.long tt)])) rfl (hb hby at_365) _ (XS.lrem X.here hx rfl (hb hby at_368) rfl (by decide) (X.ldc2Long hx hown (mvT hZ (hw _ (own_w 83 rfl))) (g := (mkF m 369 (own_A2 p0 p1 p2 p3 tt ww qq oo b1 b4 b7 1) [(.long (tt - (tt / (62 : Int64)) * (62 : Int64)))])) rfl (hb hby at_369) _ (XS.lmul X.here hx rfl (hb hby at_372) rfl (XS.lload X.here hx rfl (hb hby at_373) rfl (X.ldc2Long hx hown (mvT hZ (hw _ (own_w 82 rfl))) (g := (mkF m 375 (own_A2 p0 p1 p2 p3 tt ww qq oo b1 b4 b7 1) [(.long ww), (.long ((tt - (tt / (62 : Int64)) * (62 : Int64)) * (16 : Int64)))])) rfl (hb hby at_375) _ k_)))))))))) ?_
  refine own_via (g' := (mkF m 392 (own_A2 p0 p1 p2 p3 tt ww qq oo b1 b4 b7 1) [(.long (((((tt - (tt / (62 : Int64)) * (62 : Int64)) * (16 : Int64)) + ((ww - (ww / (62 : Int64)) * (62 : Int64)) * (2 : Int64))) + (qq.toInt64)) - (((((tt - (tt / (62 : Int64)) * (62 : Int64)) * (16 : Int64)) + ((ww - (ww / (62 : Int64)) * (62 : Int64)) * (2 : Int64))) + (qq.toInt64)) / (62 : Int64)) * (62 : Int64)))])) (fun t_ k_ => XS.lrem X.here hx rfl (hb hby at_378) rfl (by decide) (X.ldc2Long hx hown (mvT hZ (hw _ (own_w 84 rfl))) (g := (mkF m 379 (own_A2 p0 p1 p2 p3 tt ww qq oo b1 b4 b7 1) [(.long (ww - (ww / (62 : Int64)) * (62 : Int64))), (.long ((tt - (tt / (62 : Int64)) * (62 : Int64)) * (16 : Int64)))])) rfl (hb hby at_379) _ (XS.lmul X.here hx rfl (hb hby at_382) rfl (XS.ladd X.here hx rfl (hb hby at_383) rfl (XS.iload X.here hx rfl (hb hby at_384) rfl (XS.i2l X.here hx rfl (hb hby at_386) rfl (XS.ladd X.here hx rfl (hb hby at_387) rfl (X.ldc2Long hx hown (mvT hZ (hw _ (own_w 82 rfl))) (g := (mkF m 388 (own_A2 p0 p1 p2 p3 tt ww qq oo b1 b4 b7 1) [(.long ((((tt - (tt / (62 : Int64)) * (62 : Int64)) * (16 : Int64)) + ((ww - (ww / (62 : Int64)) * (62 : Int64)) * (2 : Int64))) + (qq.toInt64)))])) rfl (hb hby at_388) _ (XS.lrem X.here hx rfl (hb hby at_391) rfl (by decide) k_))))))))) ?_
  obtain ⟨dd, hd_dd⟩ : ∃ z, z = (((((tt - (tt / (62 : Int64)) * (62 : Int64)) * (16 : Int64)) + ((ww - (ww / (62 : Int64)) * (62 : Int64)) * (2 : Int64))) + (qq.toInt64)) - (((((tt - (tt / (62 : Int64)) * (62 : Int64)) * (16 : Int64)) + ((ww - (ww / (62 : Int64)) * (62 : Int64)) * (2 : Int64))) + (qq.toInt64)) / (62 : Int64)) * (62 : Int64)) := ⟨_, rfl⟩
  rw [← hd_dd]
  have hdd : (dd.toInt32).toInt = own_d M 0 := by rw [hd_dd, hM]; exact own_last hok
  refine own_via (g' := (mkF m 401 (own_A1 p0 p1 p2 p3 tt ww qq oo b1 b4 b7 1 dd) [(.int (oo + (21 : Int32))), (.ref b4)])) (fun t_ k_ => XS.lstore X.here hx rfl (hb hby at_392) rfl (l' := (own_A1 p0 p1 p2 p3 tt ww qq oo b1 b4 b7 1 dd)) rfl (XS.aload X.here hx rfl (hb hby at_394) rfl rfl (XS.iload X.here hx rfl (hb hby at_396) rfl (XS.bipush X.here hx rfl (hb hby at_398) (XS.iadd X.here hx rfl (hb hby at_400) rfl k_))))) ?_
  have hof := own_at2 (own_off ho hno (21 : Int32) 21 (by decide) (by decide)) hno (by decide)
  obtain ⟨cl_, Ar_, -, Sz_, Nn_, Hs_, -⟩ := id V_b4
  have hin_ : ¬ ((oo + (21 : Int32)) < 0 ∨ cl_.slots.size ≤ ((oo + (21 : Int32))).toNatClampNeg) := inb_of Sz_ hof.1
  have hat_ : cl_.slots[((oo + (21 : Int32))).toNatClampNeg]? = some (.int (own_al (own_d M 0))) := Hs_.at hin_ (by rw [hof.2]; exact own_g21 hno)
  refine own_via (g' := (mkF m 405 (own_A1 p0 p1 p2 p3 tt ww qq oo b1 b4 b7 1 dd) [(.int (dd.toInt32)), (.int (own_al (own_d M 0)))])) (fun t_ k_ => X.baloadBytes hx (j := (oo + (21 : Int32))) (v := (.int (own_al (own_d M 0)))) (by rw [eT]; exact Ar_.1) (State.isArrayOf_alike hZ.alike Ar_.2.1) Ar_.2.2 hin_ hat_ (g := (mkF m 401 (own_A1 p0 p1 p2 p3 tt ww qq oo b1 b4 b7 1 dd) [(.int (oo + (21 : Int32))), (.ref b4)])) rfl rfl (hb hby at_401) _ (XS.lload X.here hx rfl (hb hby at_402) rfl (XS.l2i X.here hx rfl (hb hby at_404) rfl k_))) ?_
  obtain ⟨_, _, ⟨T, Lq, kq, nq⟩, -, X, ⟨Lc, hQ, lq, yq, zq⟩, st⟩ := Jvm.LawKit.callS X hx (y := own_y16) hown (mvT hZ (hw _ (own_w 85 rfl))) (mvT hZ (hw _ (own_w 86 rfl))) (mvT hZ (hw _ (own_w 73 rfl))) (mvT hZ (hw _ (own_w 87 rfl))) (by decide) (backOf (W := 1) (own_dch l Z a0 hw [] (dd.toInt32) (own_al (own_d M 0)) h30 n0 O (own_mem2 hdd (own_dB M 0))) hZ (hw _ (own_w 87 rfl)) (hw _ (own_w 73 rfl)) (by decide) (by decide)) (g := (mkF m 405 (own_A1 p0 p1 p2 p3 tt ww qq oo b1 b4 b7 1 dd) [(.int (dd.toInt32)), (.int (own_al (own_d M 0)))])) rfl (by rw [hml]; rfl) (argsL := [(.int (dd.toInt32))]) (rest := [(.int (own_al (own_d M 0)))]) (lenOf own_pd7 rfl) rfl (by show 2 * 0 + _ ≤ _; exact Nat.le_of_eq rfl) (hb hby at_405) (fun _ _ => ⟨rfl, eT, (by decide : 6 + 0 ≤ _), (by decide : 307 + 0 ≤ _)⟩)
  dsimp only [Pt.U, Pt.locs, Pt.cells, Pt.slots] at X lq yq zq st hQ
  rw [lq, yq, zq] at X
  obtain ⟨rfl, Nq, eT⟩ := hQ
  replace N := Fr.app N Nq
  refine own_via (g' := (mkF m 408 (own_A1 p0 p1 p2 p3 tt ww qq oo b1 b4 b7 1 dd) [(.int (own_al (own_d M 0))), (.int (own_al (own_d M 0)))])) st ?_
  refine own_via (g' := (mkF m 413 (own_A1 p0 p1 p2 p3 tt ww qq oo b1 b4 b7 1 dd) [])) (fun t_ k_ => XS.icmpYes X.here hx rfl (pc0 := 408) (pc' := 413) rfl (hb hby at_408) rfl (teq (rfl : (own_al (own_d M 0)) = (own_al (own_d M 0)))).1 (by decide) (by decide) k_) ?_
  obtain ⟨b31, gb⟩ : ∃ z, z = h30.size := ⟨_, rfl⟩
  obtain ⟨T, h32, X, eT, E, E_b31, Dq, -, st⟩ := newO X hx hZ hown (hw _ (own_w 88 rfl)) (hw _ (own_w 39 rfl)) (hw _ (own_w 38 rfl)) eT (g := (mkF m 413 (own_A1 p0 p1 p2 p3 tt ww qq oo b1 b4 b7 1 dd) [])) rfl (hb hby at_413) (by decide) (by decide)
  rw [← gb] at E_b31 Dq st
  have ne_b1_b31 : b1 ≠ b31 := Nat.ne_of_lt (Nat.lt_of_lt_of_le E_b1.lt (Nat.le_of_eq gb.symm))
  have ne_b4_b31 : b4 ≠ b31 := Nat.ne_of_lt (Nat.lt_of_lt_of_le E_b4.lt (Nat.le_of_eq gb.symm))
  have ne_b7_b31 : b7 ≠ b31 := Nat.ne_of_lt (Nat.lt_of_lt_of_le E_b7.lt (Nat.le_of_eq gb.symm))
  have S_b31 := own_safeNew H (Nat.le_of_eq gb.symm)
  have g_b31 : n0 ≤ b31 := Nat.le_trans (own_le O) (Nat.le_of_eq gb.symm)
  have sz_b31 : h0.size ≤ b31 := Nat.le_trans K0.1 (Nat.le_of_eq gb.symm)
  replace E_b1 := E_b1.ext E
  replace F_timeMillis_b1 := F_timeMillis_b1.ext E
  replace F_worker_b1 := F_worker_b1.ext E
  replace F_sequence_b1 := F_sequence_b1.ext E
  replace E_b4 := E_b4.ext E
  replace V_b4 := V_b4.ext E
  replace E_b7 := E_b7.ext E
  replace V_b7 := V_b7.ext E
  replace O := O.ext E
  replace K0 := K0.ext E
  replace hk := Nat.le_trans hk E.1
  replace S_b1 := Safe.ext E H.1 S_b1
  replace S_b4 := Safe.ext E H.1 S_b4
  replace S_b7 := Safe.ext E H.1 S_b7
  replace S_b31 := Safe.ext E H.1 S_b31
  replace H := H.trans (CHr.ext E H.1)
  have F_value_b31 : Fld Z h32 b31 "java/lang/String" "value" "[B" .null := Dq (Or.inr (hw _ (own_w 40 rfl))) (ty := (.array .byte)) (by decide)
  have F_coder_b31 : Fld Z h32 b31 "java/lang/String" "coder" "B" (.int 0) := Dq (Or.inr (hw _ (own_w 41 rfl))) (ty := .byte) (by decide)
  refine own_via (g' := (mkF m 416 (own_A1 p0 p1 p2 p3 tt ww qq oo b1 b4 b7 1 dd) [(.ref b31)])) st ?_
  refine own_via (g' := (mkF m 419 (own_A1 p0 p1 p2 p3 tt ww qq oo b1 b4 b7 1 dd) [(.ref b7), (.ref b31), (.ref b31)])) (fun t_ k_ => XS.dup X.here hx rfl (hb hby at_416) rfl rfl (XS.aload X.here hx rfl (hb hby at_417) rfl rfl k_)) ?_
  replace V_b7 : Arv Z h32 b7 kb7 .char (22 : Int32) ((own_CS M).map Value.int) (.int 0) := V_b7
  obtain ⟨_, _, ⟨T, Lq, kq, nq⟩, -, X, ⟨Lc, hQ, lq, yq, zq⟩, st⟩ := X.specialBack hx (y := own_y17) rfl hown (mvT hZ (hw _ (own_w 89 rfl))) (mvT hZ (hw _ (own_w 90 rfl))) (mvT hZ (hw _ (own_w 91 rfl))) (by decide) (StrChars.Road.backV (W := 1) hZ hws (kI := 4) (hw _ (own_w 39 rfl)) (cs := own_CS M) (n := 22) g_b31 (own_le O) E_b31 F_value_b31 F_coder_b31 V_b7 (S_C.ext O.2) hzc rfl rfl (by decide) (by decide) (own_CSr M) rfl (by decide) (by decide)) (g := (mkF m 419 (own_A1 p0 p1 p2 p3 tt ww qq oo b1 b4 b7 1 dd) [(.ref b7), (.ref b31), (.ref b31)])) rfl (by rw [hml]; rfl) (Steps.refl _) (a := b31) (argsL := [(.ref b7)]) (rest := [(.ref b31)]) (lenOf own_pd16 rfl) rfl (by show 2 * 0 + _ ≤ _; exact Nat.le_of_eq rfl) (hb hby at_419) (fun _ _ => ⟨rfl, eT, (by decide : 7 + 1 ≤ _), (by decide : 311 + 22 ≤ _)⟩)
  dsimp only [Pt.U, Pt.locs, Pt.cells, Pt.slots] at X lq yq zq st hQ
  rw [lq, yq, zq] at X
  obtain ⟨rfl, Nq, Kq, -, F_coder_b31, rb, kr, gq, szq, nq_, F_value_b31, V_rb⟩ := hQ
  replace N := Fr.app N Nq
  rw [own_CSb] at V_rb
  obtain ⟨h33, eT⟩ : ∃ z, T.heap = z := ⟨_, rfl⟩
  rw [eT] at Kq F_value_b31 F_coder_b31 V_rb
  have So : ∀ x ∈ [b31], Safe Z own_EL _ h32 x := (allS S_b31 all0)
  have ne_b1_rb : b1 ≠ rb := Nat.ne_of_lt (Nat.lt_of_lt_of_le E_b1.lt szq)
  have ne_b31_rb : b31 ≠ rb := Nat.ne_of_lt (Nat.lt_of_lt_of_le E_b31.lt szq)
  have ne_b4_rb : b4 ≠ rb := Nat.ne_of_lt (Nat.lt_of_lt_of_le E_b4.lt szq)
  have ne_b7_rb : b7 ≠ rb := Nat.ne_of_lt (Nat.lt_of_lt_of_le E_b7.lt szq)
  have g_rb : n0 ≤ rb := Nat.le_trans (own_le O) szq
  have sz_rb : h0.size ≤ rb := Nat.le_trans K0.1 szq
  replace E_b1 := E_b1.keep Kq
  replace F_timeMillis_b1 := F_timeMillis_b1.keep Kq (ninS ne_b1_b31 nin0)
  replace F_worker_b1 := F_worker_b1.keep Kq (ninS ne_b1_b31 nin0)
  replace F_sequence_b1 := F_sequence_b1.keep Kq (ninS ne_b1_b31 nin0)
  replace E_b4 := E_b4.keep Kq
  replace V_b4 := V_b4.keep Kq (ninS ne_b4_b31 nin0)
  replace E_b7 := E_b7.keep Kq
  replace V_b7 := V_b7.keep Kq (ninS ne_b7_b31 nin0)
  replace E_b31 := E_b31.keep Kq
  replace O := O.keep Kq (allS g_b31 all0)
  replace K0 := K0.trans Kq (allS (Or.inr sz_b31) all0)
  replace hk := Nat.le_trans hk Kq.1
  replace S_b1 := Safe.keep Kq So H.1 S_b1
  replace S_b4 := Safe.keep Kq So H.1 S_b4
  replace S_b7 := Safe.keep Kq So H.1 S_b7
  replace S_b31 := Safe.keep Kq So H.1 S_b31
  replace H := H.trans (CHr.keep Kq So H.1)
  refine own_viaT (g' := (mkF m 422 (own_A1 p0 p1 p2 p3 tt ww qq oo b1 b4 b7 1 dd) [(.ref b31)])) st ?_
  have LT_b1 := E_b1.lt
  have LT_b4 := E_b4.lt
  have LT_b7 := E_b7.lt
  have LT_b31 := E_b31.lt
  obtain ⟨_, _, ⟨T, Lq, kq, nq⟩, -, X, hSq, hgr, ⟨Lc, hQ, lq, yq, zq, hCH⟩, st⟩ := callSS X hx (y := own_y18) hown (mvT hZ (hw _ (own_w 107 rfl))) (mvT hZ (hw _ (own_w 108 rfl))) (mvT hZ (hw _ (own_w 5 rfl))) (mvT hZ (hw _ (own_w 109 rfl))) (by decide) (backOfSH (W := 0) (s := s) (own_parse l Z a0 hw [] b31 rb kr tt ww qq M wDG kDG dgs zc vS h33 n0 O E_b31 F_value_b31 F_coder_b31 V_rb hok hM S_D A_dg hdgs S_B S_C hzc S_S hvS) hZ (hw _ (own_w 109 rfl)) (hw _ (own_w 5 rfl)) (by decide) (by decide) hEL H.1) (g := (mkF m 422 (own_A1 p0 p1 p2 p3 tt ww qq oo b1 b4 b7 1 dd) [(.ref b31)])) rfl (by rw [hml]; rfl) (argsL := [(.ref b31)]) (rest := []) (lenOf own_pd17 rfl) rfl (by show 2 * 0 + _ ≤ _; exact Nat.le_of_eq rfl) (hb hby at_422) (fun _ _ => ⟨rfl, eT, (by decide : 8 + 4 ≤ _), (by decide : 333 + 27 ≤ _)⟩)
  dsimp only [Pt.U, Pt.locs, Pt.cells, Pt.slots] at X hSq hgr lq yq zq st hQ hCH
  rw [lq, yq, zq] at X
  obtain ⟨ri, rfl, Nq, Kq, E_ri, F_timeMillis_ri, F_worker_ri, F_sequence_ri⟩ := hQ
  replace N := Fr.app N Nq
  replace hS := own_reS hS hSq (Nat.le_trans hk (by rw [← eT]; exact hgr))
  replace hZ := own_reZ hZ hSq
  replace hown := own_reown hown hSq
  replace hk := Nat.le_refl T.heap.size
  obtain ⟨vmW, eW⟩ : ∃ z, T.vm = z := ⟨_, rfl⟩
  rw [eW] at X hS hZ hown hCH
  replace X := own_flat X
  obtain ⟨h34, eT⟩ : ∃ z, T.heap = z := ⟨_, rfl⟩
  rw [eT] at Kq E_ri F_timeMillis_ri F_worker_ri F_sequence_ri
  replace E_b1 := E_b1.keep Kq
  replace F_timeMillis_b1 := F_timeMillis_b1.keep Kq nin0
  replace F_worker_b1 := F_worker_b1.keep Kq nin0
  replace F_sequence_b1 := F_sequence_b1.keep Kq nin0
  replace E_b4 := E_b4.keep Kq
  replace V_b4 := V_b4.keep Kq nin0
  replace E_b7 := E_b7.keep Kq
  replace V_b7 := V_b7.keep Kq nin0
  replace E_b31 := E_b31.keep Kq
  replace F_value_b31 := F_value_b31.keep Kq nin0
  replace F_coder_b31 := F_coder_b31.keep Kq nin0
  replace V_rb := V_rb.keep Kq nin0
  replace O := O.keep Kq all0
  replace K0 := K0.trans Kq all0
  rw [eT] at hk hS
  rw [eT] at hCH
  replace S_b1 := hCH.safe LT_b1 S_b1
  replace S_b4 := hCH.safe LT_b4 S_b4
  replace S_b7 := hCH.safe LT_b7 S_b7
  replace S_b31 := hCH.safe LT_b31 S_b31
  replace H := H.trans hCH
  refine own_viaT (g' := (mkF m 425 (own_A1 p0 p1 p2 p3 tt ww qq oo b1 b4 b7 1 dd) [(.ref ri)])) st ?_
  refine own_via (g' := (mkF m 429 (own_A0 p0 p1 p2 p3 tt ww qq oo b1 b4 b7 1 dd ri) [(.ref ri)])) (fun t_ k_ => XS.astore X.here hx rfl (hb hby at_425) rfl rfl (l' := (own_A0 p0 p1 p2 p3 tt ww qq oo b1 b4 b7 1 dd ri)) rfl (XS.aload X.here hx rfl (hb hby at_427) rfl rfl k_)) ?_
  obtain ⟨cq, kq, qa, qb, qc⟩ := isOf hZ eT E_ri
  obtain ⟨_, _, ⟨T, Lq, kq, nq⟩, -, X, ⟨Lc, hQ, lq, yq, zq⟩, st⟩ := X.virtualBack hx (y := own_y19) (z := own_y19) hown (mvT hZ (hw _ (own_w 133 rfl))) (mvT hZ (hw _ (own_w 134 rfl))) (notFace_of_selects (args := #[]) (mvT hZ (hw _ (own_w 136 rfl)))) (mvT hZ (hw _ (own_w 136 rfl))) (mvT hZ (hw _ (own_w 135 rfl))) (by decide) (backOf (W := 0) (own_get_timeMillis l Z a0 hw [] ri tt ww qq h34 n0 O F_timeMillis_ri) hZ (hw _ (own_w 137 rfl)) (hw _ (own_w 5 rfl)) (by decide) (by decide)) qa qc (g := (mkF m 429 (own_A0 p0 p1 p2 p3 tt ww qq oo b1 b4 b7 1 dd ri) [(.ref ri)])) rfl (by rw [hml]; rfl) (Steps.refl _) (argsL := []) (rest := []) (lenOf own_pd18 rfl) rfl (by show 2 * 0 + _ ≤ _; exact Nat.le_of_eq rfl) (hb hby at_429) (fun _ _ => ⟨rfl, eT, (by decide : 12 + 0 ≤ _), (by decide : 360 + 0 ≤ _)⟩)
  dsimp only [Pt.U, Pt.locs, Pt.cells, Pt.slots] at X lq yq zq st hQ
  rw [lq, yq, zq] at X
  obtain ⟨rfl, Nq, eT⟩ := hQ
  replace N := Fr.app N Nq
  refine own_viaT (g' := (mkF m 432 (own_A0 p0 p1 p2 p3 tt ww qq oo b1 b4 b7 1 dd ri) [(.long tt)])) st ?_
  refine own_via (g' := (mkF m 440 (own_A0 p0 p1 p2 p3 tt ww qq oo b1 b4 b7 1 dd ri) [(.ref ri)])) (fun t_ k_ => XS.lload X.here hx rfl (hb hby at_432) rfl (XS.lcmp X.here hx rfl (hb hby at_434) rfl (XS.ifNo X.here hx rfl (hb hby at_435) rfl ((if0 _ _).trans (teq (own_cmpEq _)).2) (XS.aload X.here hx rfl (hb hby at_438) rfl rfl k_)))) ?_
  obtain ⟨cq, kq, qa, qb, qc⟩ := isOf hZ eT E_ri
  obtain ⟨_, _, ⟨T, Lq, kq, nq⟩, -, X, ⟨Lc, hQ, lq, yq, zq⟩, st⟩ := X.virtualBack hx (y := own_y20) (z := own_y20) hown (mvT hZ (hw _ (own_w 138 rfl))) (mvT hZ (hw _ (own_w 139 rfl))) (notFace_of_selects (args := #[]) (mvT hZ (hw _ (own_w 141 rfl)))) (mvT hZ (hw _ (own_w 141 rfl))) (mvT hZ (hw _ (own_w 140 rfl))) (by decide) (backOf (W := 0) (own_get_worker l Z a0 hw [] ri tt ww qq h34 n0 O F_worker_ri) hZ (hw _ (own_w 142 rfl)) (hw _ (own_w 5 rfl)) (by decide) (by decide)) qa qc (g := (mkF m 440 (own_A0 p0 p1 p2 p3 tt ww qq oo b1 b4 b7 1 dd ri) [(.ref ri)])) rfl (by rw [hml]; rfl) (Steps.refl _) (argsL := []) (rest := []) (lenOf own_pd18 rfl) rfl (by show 2 * 0 + _ ≤ _; exact Nat.le_of_eq rfl) (hb hby at_440) (fun _ _ => ⟨rfl, eT, (by decide : 12 + 0 ≤ _), (by decide : 360 + 0 ≤ _)⟩)
  dsimp only [Pt.U, Pt.locs, Pt.cells, Pt.slots] at X lq yq zq st hQ
  rw [lq, yq, zq] at X
  obtain ⟨rfl, Nq, eT⟩ := hQ
  replace N := Fr.app N Nq
  refine own_viaT (g' := (mkF m 443 (own_A0 p0 p1 p2 p3 tt ww qq oo b1 b4 b7 1 dd ri) [(.long ww)])) st ?_
  refine own_via (g' := (mkF m 451 (own_A0 p0 p1 p2 p3 tt ww qq oo b1 b4 b7 1 dd ri) [(.ref ri)])) (fun t_ k_ => XS.lload X.here hx rfl (hb hby at_443) rfl (XS.lcmp X.here hx rfl (hb hby at_445) rfl (XS.ifNo X.here hx rfl (hb hby at_446) rfl ((if0 _ _).trans (teq (own_cmpEq _)).2) (XS.aload X.here hx rfl (hb hby at_449) rfl rfl k_)))) ?_
  obtain ⟨cq, kq, qa, qb, qc⟩ := isOf hZ eT E_ri
  obtain ⟨_, _, ⟨T, Lq, kq, nq⟩, -, X, ⟨Lc, hQ, lq, yq, zq⟩, st⟩ := X.virtualBack hx (y := own_y21) (z := own_y21) hown (mvT hZ (hw _ (own_w 143 rfl))) (mvT hZ (hw _ (own_w 144 rfl))) (notFace_of_selects (args := #[]) (mvT hZ (hw _ (own_w 146 rfl)))) (mvT hZ (hw _ (own_w 146 rfl))) (mvT hZ (hw _ (own_w 145 rfl))) (by decide) (backOf (W := 0) (own_get_sequence l Z a0 hw [] ri tt ww qq h34 n0 O F_sequence_ri) hZ (hw _ (own_w 147 rfl)) (hw _ (own_w 5 rfl)) (by decide) (by decide)) qa qc (g := (mkF m 451 (own_A0 p0 p1 p2 p3 tt ww qq oo b1 b4 b7 1 dd ri) [(.ref ri)])) rfl (by rw [hml]; rfl) (Steps.refl _) (argsL := []) (rest := []) (lenOf own_pd10 rfl) rfl (by show 2 * 0 + _ ≤ _; exact Nat.le_of_eq rfl) (hb hby at_451) (fun _ _ => ⟨rfl, eT, (by decide : 12 + 0 ≤ _), (by decide : 360 + 0 ≤ _)⟩)
  dsimp only [Pt.U, Pt.locs, Pt.cells, Pt.slots] at X lq yq zq st hQ
  rw [lq, yq, zq] at X
  obtain ⟨rfl, Nq, eT⟩ := hQ
  replace N := Fr.app N Nq
  refine own_viaT (g' := (mkF m 454 (own_A0 p0 p1 p2 p3 tt ww qq oo b1 b4 b7 1 dd ri) [(.int qq)])) st ?_
  refine own_via (g' := (mkF m 464 (own_A0 p0 p1 p2 p3 tt ww qq oo b1 b4 b7 1 dd ri) [(.int 1)])) (fun t_ k_ => XS.iload X.here hx rfl (hb hby at_454) rfl (XS.icmpNo X.here hx rfl (hb hby at_456) rfl (teq (rfl : qq = qq)).2 (XS.iconst X.here hx rfl (hb hby at_459) (XS.goto X.here hx rfl (pc0 := 460) (pc' := 464) rfl (hb hby at_460) (by decide) (by decide) k_)))) ?_
  refine own_retNW X hS (by rw [eT]; exact hk) hx hlk (t := .boolean) Bd.returns (by simp) (hb hby at_464) (by decide) (by decide) (fun _ => trivial) ?_
  rw [eT]
  exact ⟨rfl, N, trivial⟩
theorem own_notEq {args : Array Value} {first s : State} {o : Option Outcome} {t : Term} {k z : Int32} (h : (Cond.not (.eq t (.int k))).value args first o s [] = some true) (ev : t.eval args first o [] s = some (.int z)) : ¬ z = k := fun q => by
  subst q
  simp [Cond.value, ev, Term.int_eval] at h
theorem own_isRef {args : Array Value} {first s : State} {o : Option Outcome} {t : Term} (h : (Cond.isRef t).value args first o s [] = some true) : ∃ v, t.eval args first o [] s = some v ∧ v.isRef = true := by
  simp only [Cond.value] at h
  cases hv : t.eval args first o [] s with
  | none => simp [hv] at h
  | some v => cases v <;> simp [hv] at h <;> exact ⟨_, rfl, rfl⟩
set_option maxRecDepth 65536 in
set_option maxHeartbeats 40000000 in
theorem comes_1 {Post : Tables → Env → Array Value → State → Outcome → State → Prop} (hpost : ∀ tb e args s v u, (limb_1_1.after args s (.returned v) u = true ∧ limb_1_2.after args s (.returned v) u = true ∧ True) → ReturnedEndW s (.returned v) u (Jvm.fieldLocs frame_1_writes args s ++ Jvm.arrayLocs frame_1_arrays args s ++ Jvm.staticLocs frame_1_statics s) 32 2304 → Post tb e args s (.returned v) u) :
    ArmFor flags0 classFile x code maxLocals ret World_1 tables_1 room_1 Calls_1 rest_1 Pre_1 Post := by
  intro l hfl _ _ p e ha hc hk s m args below hf hA hF happ hP
  obtain ⟨hcalls, hrest, hpre⟩ := hP
  obtain ⟨-, -, -, hnamed, -, -, -, hat⟩ := (Spec.applies_iff hf).mp happ
  obtain ⟨hg, hn⟩ := and_e (Cond.before_iff.mp (show (Jvm.Cond.and given_1 narrow_1).before args s = true from hpre))
  obtain ⟨hcount, hg1⟩ := and_e hg
  obtain ⟨hv0, hg2⟩ := and_e hg1
  obtain ⟨hv1, hg3⟩ := and_e hg2
  obtain ⟨hv2, hg4⟩ := and_e hg3
  obtain ⟨w0, w1, w2, w3, rfl⟩ : ∃ w0 w1 w2 w3 : Value, args = #[w0, w1, w2, w3] := by
    have hs : args.size = 4 := by simpa [Cond.value, given_1] using hcount
    obtain ⟨L⟩ := args
    match L, hs with
    | [w0, w1, w2, w3], _ => exact ⟨w0, w1, w2, w3, rfl⟩
  have hw := fun d (hd : d ∈ tables_1) => atoms_spec (ws := Jvm.Cond.code x code maxLocals ret :: tables_1) hat d (List.mem_cons_of_mem _ hd)
  have hfit : Fit s := fun {y c} hc i hi => by
    obtain ⟨ha, rfl⟩ := Array.getElem?_eq_some_iff.mp hc
    have q := List.all_eq_true.mp ((Array.all_eq_true_iff_forall_mem.mp hF) _ (Array.getElem_mem ha)) i (List.mem_range.mpr hi)
    simpa [Array.getElem?_eq_getElem hi] using q
  obtain ⟨hsets, hown0⟩ := atoms_of _ (rest_1_c_eq ▸ (show rest_1_c.before _ s = true from hrest))
  have hr0 := Cond.before_iff.mp hown0
  obtain ⟨i0, ei0⟩ := isL_v hv0
  obtain rfl : w0 = (.long i0) := Option.some.inj ei0
  obtain ⟨i1, ei1⟩ := isL_v hv1
  obtain rfl : w1 = (.long i1) := Option.some.inj ei1
  obtain ⟨i2, ei2⟩ := is_v hv2
  obtain rfl : w2 = (.int i2) := Option.some.inj ei2
  obtain ⟨i3, ei3⟩ := is_v hg4
  obtain rfl : w3 = (.int i3) := Option.some.inj ei3
  obtain ⟨nn1, nn2⟩ := and_e hn
  obtain ⟨nn3, nn4⟩ := and_e nn2
  obtain ⟨nn5, nn6⟩ := and_e nn4
  obtain ⟨nn7, nn8⟩ := and_e nn6
  obtain ⟨nn9, nn10⟩ := and_e nn8
  obtain ⟨nn11, nn12⟩ := and_e nn10
  obtain ⟨nn13, nn14⟩ := and_e nn12
  obtain ⟨nn15, nn16⟩ := and_e nn14
  obtain ⟨nn17, nn18⟩ := and_e nn16
  have S_B := Sta.start (own_eqI nn1) (Or.inr ⟨(hw _ (own_w 5 rfl)), (hw _ (own_w 45 rfl))⟩)
  obtain ⟨wDG, evD⟩ := arr_v nn3
  have S_D := Sta.start evD (Or.inr ⟨(hw _ (own_w 5 rfl)), (hw _ (own_w 126 rfl))⟩)
  obtain ⟨clD, ArD⟩ := Arr.start evD nn3
  obtain ⟨hq1, hq2⟩ := own_lenC evD ArD (own_eqI nn5)
  obtain ⟨A_dg, hdgs⟩ := own_dgStart hfit (fun idx => evD) ArD hq1 hq2 nn9 nn13 nn17
  obtain ⟨zc, evC⟩ := is_v (Cond.before_iff.mp (hsets _ (List.mem_of_getElem? (i := 1) rfl)))
  have S_C := Sta.start evC (Or.inl (hsets _ (List.mem_of_getElem? (i := 0) rfl)))
  have hzc : ¬ zc = 0 := own_notEq (Cond.before_iff.mp (hsets _ (List.mem_of_getElem? (i := 2) rfl))) evC
  obtain ⟨vS, evS, hvS⟩ := own_isRef (Cond.before_iff.mp (hsets _ (List.mem_of_getElem? (i := 8) rfl)))
  have S_S := Sta.start evS (Or.inl (hsets _ (List.mem_of_getElem? (i := 7) rfl)))
  have hCH : CHv s own_EL s.vm s.heap := CHv.start (own_hEL hw) hcalls.1 (hsets _ (List.mem_of_getElem? (i := 2) rfl)) (hw _ (own_w 25 rfl)) (hw _ (own_w 39 rfl))
  obtain ⟨n, o, h1, h2, h3, _, L, rfl, ⟨rfl, N, -⟩, -, hq⟩ := own_law l s _ hw tables_1 i0 i1 i2 i3 wDG _ _ zc vS s.heap s.heap.size (Old.start s) S_D A_dg hdgs S_B S_C hzc S_S hvS p e ha hc hk s m _ below hf ((Spec.applies_iff_loose hf).mp happ).1 ⟨rfl, State.Warmed39.refl s, rfl, hCH⟩ trivial
  refine ⟨n, _, h1, h2, h3, hpost _ _ _ _ _ _ ⟨Cond.after_iff.mpr rfl, Cond.after_iff.mpr (eq_i res_at (Term.int_eval (1)) rfl), trivial⟩ ⟨hq.1, hq.2.1, hq.2.2.1, (hq.2.2.2.sift fun y hy => Or.inr (N y hy)).mono (by decide) (by decide)⟩⟩
theorem main_1_1 : Claimed_1_1 := comes_1 fun _ _ _ _ _ _ h hF => ⟨h.1, hF⟩
theorem main_1_2 : Claimed_1_2 := comes_1 fun _ _ _ _ _ _ h hF => ⟨h.2.1, hF⟩
end Jvm.Pilot.@@N@@
namespace Jvm.Pilot.@@N@@
open Jvm Jvm.ClassFile Sem Op Lib Jvm.Free Jvm.Stand Jvm.Pilot.@@N@@.Jvm.D
/-! MADE BY PROGRAM (witnessworld.py) out of the Statement's table words and the real class files: 24 classes; the members and pool entries that the words name. The judged class is class 1, her method 1. -/
namespace start1
open Jvm.ClassFile
def u (s : String) : CpInfo := .utf8 (stringToUtf16 s)
/-- a pool by its gaps: so many unusable entries, then the entry; so many at the end -/
def gap : Nat → List CpInfo → List CpInfo
  | 0, r => r
  | n + 1, r => .unusable :: gap n r
def poolList (es : List (Nat × CpInfo)) (last : Nat) : List CpInfo := es.foldr (fun e r => gap e.1 (e.2 :: r)) (gap last [])
def pool (es : List (Nat × CpInfo)) (last : Nat) : Array CpInfo := ⟨poolList es last⟩
def fileOf (pool : Array CpInfo) (this : Nat) (attrs : Array Attribute := #[]) (ms : Array MethodInfo := #[]) (fl : Nat := 33) (sup : Nat := 0) (ifs : Array Nat := #[]) (fds : Array FieldInfo := #[]) : ClassFile where
  minorVersion := 0
  majorVersion := 65
  constantPool := pool
  accessFlags := fl
  thisClass := this
  superClass := sup
  interfaces := ifs
  fields := fds
  methods := ms
  attributes := attrs
def plain (name : String) (sup : Option ClassId) : Class where
  name := name
  kind := .ordinary
  loader := none
  accessFlags := 33
  super := sup
  interfaces := #[]
  cf := none
  fields := #[]
  methods := #[]
  instanceTypes := #[]
  staticTypes := #[]
  resolved := #[]
  callSites := []
  init := .initialized
  statics := none
  mirror := none

def pool0 : Array CpInfo := pool [(5, u "<init>"), (0, u "()V"), (1, .class_ 10), (1, u "java/lang/Object")] 113

def k0c0 : Code := { maxStack := 0, maxLocals := 1, code := object_method_1_code, exceptionTable := #[], attributes := #[] }
def k0m0 : Method := { name := "<init>", desc := "()V", sig := { parameters := [], returnType := none }, accessFlags := 1, code := some k0c0 }
/-- java/lang/Object -/
def k0 : Class := { plain "java/lang/Object" none with
  accessFlags := 33
  interfaces := #[]
  cf := some (fileOf pool0 8 #[] #[{ accessFlags := 1, nameIndex := 5, descriptorIndex := 6, attributes := #[] }] 33 0 #[] #[])
  fields := #[]
  methods := #[k0m0]
  instanceTypes := #[]
  staticTypes := #[]
  resolved := Array.replicate 124 none
  statics := none }

def pool1 : Array CpInfo := pool [(2, .class_ 4), (1, u "java/lang/Object"), (0, u "<init>"), (0, u "()V"), (2, .long 9223372036854775807), (1, .class_ 12), (0, u "com/example/nuthatch/nuthatch/EventId"), (0, .long 281474976710655), (1, .integer 65535), (0, .methodref 11 17), (0, .nameAndType 5 18), (0, u "(JJI)V"), (0, .methodref 11 20), (0, .nameAndType 21 22), (0, u "write"), (0, u "([BI)V"), (0, .methodref 24 25), (0, .class_ 26), (0, .nameAndType 27 28), (0, u "com/example/nuthatch/nuthatch/EventIdWritePinLaw"), (0, u "untouched"), (0, u "([BI)Z"), (0, .methodref 24 30), (0, .nameAndType 31 32), (0, u "take"), (0, u "([BII[C)Z"), (0, .long 62), (1, .long 16), (1, .long 2), (1, .methodref 24 40), (0, .nameAndType 41 42), (0, u "digitChar"), (0, u "(I)C"), (0, .class_ 44), (0, u "java/lang/String"), (0, .methodref 43 46), (0, .nameAndType 5 47), (0, u "([C)V"), (0, .methodref 11 49), (0, .nameAndType 50 51), (0, u "parse"), (0, u "(Ljava/lang/String;)Lcom/example/nuthatch/nuthatch/EventId;"), (0, .methodref 11 53), (0, .nameAndType 54 55), (0, u "timeMillis"), (0, u "()J"), (0, .methodref 11 57), (0, .nameAndType 58 55), (0, u "worker"), (0, .methodref 11 60), (0, .nameAndType 61 62), (0, u "sequence"), (0, u "()I"), (0, .methodref 24 64), (0, .nameAndType 65 66), (0, u "isBase62"), (0, u "(B)Z"), (2, u "law"), (0, u "(JJII)Z")] 7

def k1m0 : Method := { name := "<init>", desc := "()V", sig := { parameters := [], returnType := none }, accessFlags := 1, code := none }
def k1c1 : Code := { maxStack := 7, maxLocals := 19, code := code, exceptionTable := #[], attributes := #[] }
def k1m1 : Method := { name := "law", desc := "(JJII)Z", sig := { parameters := [.long, .long, .int, .int], returnType := some .boolean }, accessFlags := 9, code := some k1c1 }
def k1c2 : Code := { maxStack := 2, maxLocals := 1, code := method_3_code, exceptionTable := #[], attributes := #[] }
def k1m2 : Method := { name := "digitChar", desc := "(I)C", sig := { parameters := [.int], returnType := some .char }, accessFlags := 10, code := some k1c2 }
def k1c3 : Code := { maxStack := 2, maxLocals := 1, code := method_4_code, exceptionTable := #[], attributes := #[] }
def k1m3 : Method := { name := "isBase62", desc := "(B)Z", sig := { parameters := [.byte], returnType := some .boolean }, accessFlags := 10, code := some k1c3 }
def k1c4 : Code := { maxStack := 3, maxLocals := 5, code := method_5_code, exceptionTable := #[], attributes := #[] }
def k1m4 : Method := { name := "take", desc := "([BII[C)Z", sig := { parameters := [(.array .byte), .int, .int, (.array .char)], returnType := some .boolean }, accessFlags := 10, code := some k1c4 }
def k1c5 : Code := { maxStack := 3, maxLocals := 2, code := method_6_code, exceptionTable := #[], attributes := #[] }
def k1m5 : Method := { name := "untouched", desc := "([BI)Z", sig := { parameters := [(.array .byte), .int], returnType := some .boolean }, accessFlags := 10, code := some k1c5 }
/-- com/example/nuthatch/nuthatch/EventIdWritePinLaw -/
def k1 : Class := { plain "com/example/nuthatch/nuthatch/EventIdWritePinLaw" (some 0) with
  accessFlags := 49
  interfaces := #[]
  cf := some (fileOf pool1 24 #[] #[{ accessFlags := 1, nameIndex := 5, descriptorIndex := 6, attributes := #[] }, { accessFlags := 9, nameIndex := 69, descriptorIndex := 70, attributes := #[] }, { accessFlags := 10, nameIndex := 41, descriptorIndex := 42, attributes := #[] }, { accessFlags := 10, nameIndex := 65, descriptorIndex := 66, attributes := #[] }, { accessFlags := 10, nameIndex := 31, descriptorIndex := 32, attributes := #[] }, { accessFlags := 10, nameIndex := 27, descriptorIndex := 28, attributes := #[] }] 49 2 #[] #[])
  fields := #[]
  methods := #[k1m0, k1m1, k1m2, k1m3, k1m4, k1m5]
  instanceTypes := #[]
  staticTypes := #[]
  resolved := Array.replicate 78 none
  statics := none }

def pool2 : Array CpInfo := pool [(1, .methodref 2 3), (0, .class_ 4), (0, .nameAndType 5 6), (0, u "java/lang/Object"), (0, u "<init>"), (0, u "()V"), (0, .class_ 8), (0, u "java/lang/Record")] 13

def k2c0 : Code := { maxStack := 1, maxLocals := 1, code := jdk_30_method_1_code, exceptionTable := #[], attributes := #[] }
def k2m0 : Method := { name := "<init>", desc := "()V", sig := { parameters := [], returnType := none }, accessFlags := 4, code := some k2c0 }
/-- java/lang/Record -/
def k2 : Class := { plain "java/lang/Record" (some 0) with
  accessFlags := 1057
  interfaces := #[]
  cf := some (fileOf pool2 7 #[] #[{ accessFlags := 4, nameIndex := 5, descriptorIndex := 6, attributes := #[] }] 1057 2 #[] #[])
  fields := #[]
  methods := #[k2m0]
  instanceTypes := #[]
  staticTypes := #[]
  resolved := Array.replicate 22 none
  statics := none }

def pool3 : Array CpInfo := pool [(1, .class_ 2), (0, u "java/lang/Comparable"), (0, .class_ 4), (0, u "java/lang/Object")] 7

/-- java/lang/Comparable -/
def k3 : Class := { plain "java/lang/Comparable" (some 0) with
  accessFlags := 1537
  interfaces := #[]
  cf := some (fileOf pool3 1 #[] #[] 1537 3 #[] #[])
  fields := #[]
  methods := #[]
  instanceTypes := #[]
  staticTypes := #[]
  resolved := Array.replicate 12 none
  statics := none }

def pool4 : Array CpInfo := pool [(1, .methodref 2 3), (0, .class_ 4), (0, .nameAndType 5 6), (0, u "java/lang/Record"), (0, u "<init>"), (0, u "()V"), (9, .class_ 17), (0, u "com/example/nuthatch/nuthatch/EventId"), (0, .long 281474976710655), (2, .integer 65535), (3, .fieldref 16 26), (0, .nameAndType 27 28), (0, u "timeMillis"), (0, u "J"), (0, .fieldref 16 30), (0, .nameAndType 31 28), (0, u "worker"), (0, .fieldref 16 33), (0, .nameAndType 34 35), (0, u "sequence"), (0, u "I"), (0, .string 37), (0, u "text"), (0, .methodref 39 40), (0, .class_ 41), (0, .nameAndType 42 43), (0, u "java/util/Objects"), (0, u "requireNonNull"), (0, u "(Ljava/lang/Object;Ljava/lang/String;)Ljava/lang/Object;"), (0, .methodref 45 46), (0, .class_ 47), (0, .nameAndType 48 49), (0, u "java/lang/String"), (0, u "length"), (0, u "()I"), (1, .methodref 45 52), (0, .nameAndType 53 54), (0, u "charAt"), (0, u "(I)C"), (0, .fieldref 16 56), (0, .nameAndType 57 58), (0, u "DIGITS"), (0, u "[I"), (3, .fieldref 16 63), (0, .nameAndType 64 35), (0, u "BASE"), (0, .methodref 16 66), (0, .nameAndType 67 68), (0, u "multiplyAdd"), (0, u "([JII)J"), (3, .long 65535), (1, .methodref 16 75), (0, .nameAndType 5 76), (0, u "(JJI)V"), (2, u "ORDER"), (0, u "Ljava/util/Comparator;"), (8, u "write"), (0, u "([BI)V"), (9, .long 4294967295), (1, .integer 916132832), (0, .methodref 16 104), (0, .nameAndType 105 106), (0, u "divide"), (0, u "([JI)I"), (0, .string 108), (0, u "0123456789ABCDEFGHIJKLMNOPQRSTUVWXYZabcdefghijklmnopqrstuvwxyz"), (41, .class_ 151), (0, u "java/lang/Comparable"), (0, u "TEXT_LENGTH"), (2, u "MAX_WORKER"), (0, u "MAX_SEQUENCE"), (0, u "ALPHABET"), (0, u "Ljava/lang/String;"), (0, u "LIMBS"), (1, u "LIMB_MASK"), (0, u "CHUNK_DIGITS"), (1, u "CHUNK_BASE"), (0, u "CHUNKS"), (6, u "parse"), (0, u "(Ljava/lang/String;)Lcom/example/nuthatch/nuthatch/EventId;"), (8, u "()J")] 65

def k4c0 : Code := { maxStack := 4, maxLocals := 6, code := prog_7_method_1_code, exceptionTable := #[], attributes := #[] }
def k4m0 : Method := { name := "<init>", desc := "(JJI)V", sig := { parameters := [.long, .long, .int], returnType := none }, accessFlags := 1, code := some k4c0 }
def k4c1 : Code := { maxStack := 10, maxLocals := 6, code := prog_7_method_2_code, exceptionTable := #[], attributes := #[] }
def k4m1 : Method := { name := "parse", desc := "(Ljava/lang/String;)Lcom/example/nuthatch/nuthatch/EventId;", sig := { parameters := [(.object "java/lang/String")], returnType := some (.object "com/example/nuthatch/nuthatch/EventId") }, accessFlags := 9, code := some k4c1 }
def k4c2 : Code := { maxStack := 7, maxLocals := 10, code := prog_7_method_5_code, exceptionTable := #[], attributes := #[] }
def k4m2 : Method := { name := "write", desc := "([BI)V", sig := { parameters := [(.array .byte), .int], returnType := none }, accessFlags := 0, code := some k4c2 }
def k4c3 : Code := { maxStack := 6, maxLocals := 7, code := prog_7_method_6_code, exceptionTable := #[], attributes := #[] }
def k4m3 : Method := { name := "divide", desc := "([JI)I", sig := { parameters := [(.array .long), .int], returnType := some .int }, accessFlags := 10, code := some k4c3 }
def k4c4 : Code := { maxStack := 6, maxLocals := 8, code := prog_7_method_7_code, exceptionTable := #[], attributes := #[] }
def k4m4 : Method := { name := "multiplyAdd", desc := "([JII)J", sig := { parameters := [(.array .long), .int, .int], returnType := some .long }, accessFlags := 10, code := some k4c4 }
def k4c5 : Code := { maxStack := 2, maxLocals := 1, code := prog_7_method_11_code, exceptionTable := #[], attributes := #[] }
def k4m5 : Method := { name := "timeMillis", desc := "()J", sig := { parameters := [], returnType := some .long }, accessFlags := 1, code := some k4c5 }
def k4c6 : Code := { maxStack := 2, maxLocals := 1, code := prog_7_method_12_code, exceptionTable := #[], attributes := #[] }
def k4m6 : Method := { name := "worker", desc := "()J", sig := { parameters := [], returnType := some .long }, accessFlags := 1, code := some k4c6 }
def k4c7 : Code := { maxStack := 1, maxLocals := 1, code := prog_7_method_13_code, exceptionTable := #[], attributes := #[] }
def k4m7 : Method := { name := "sequence", desc := "()I", sig := { parameters := [], returnType := some .int }, accessFlags := 1, code := some k4c7 }
/-- com/example/nuthatch/nuthatch/EventId -/
def k4 : Class := { plain "com/example/nuthatch/nuthatch/EventId" (some 2) with
  accessFlags := 49
  interfaces := #[3]
  cf := some (fileOf pool4 16 #[] #[{ accessFlags := 1, nameIndex := 5, descriptorIndex := 76, attributes := #[] }, { accessFlags := 9, nameIndex := 172, descriptorIndex := 173, attributes := #[] }, { accessFlags := 0, nameIndex := 89, descriptorIndex := 90, attributes := #[] }, { accessFlags := 10, nameIndex := 105, descriptorIndex := 106, attributes := #[] }, { accessFlags := 10, nameIndex := 67, descriptorIndex := 68, attributes := #[] }, { accessFlags := 1, nameIndex := 27, descriptorIndex := 182, attributes := #[] }, { accessFlags := 1, nameIndex := 31, descriptorIndex := 182, attributes := #[] }, { accessFlags := 1, nameIndex := 34, descriptorIndex := 49, attributes := #[] }] 49 2 #[150] #[{ accessFlags := 18, nameIndex := 27, descriptorIndex := 28, attributes := #[] }, { accessFlags := 18, nameIndex := 31, descriptorIndex := 28, attributes := #[] }, { accessFlags := 18, nameIndex := 34, descriptorIndex := 35, attributes := #[] }, { accessFlags := 25, nameIndex := 152, descriptorIndex := 35, attributes := #[] }, { accessFlags := 25, nameIndex := 155, descriptorIndex := 28, attributes := #[] }, { accessFlags := 25, nameIndex := 156, descriptorIndex := 35, attributes := #[] }, { accessFlags := 26, nameIndex := 157, descriptorIndex := 158, attributes := #[] }, { accessFlags := 26, nameIndex := 64, descriptorIndex := 35, attributes := #[] }, { accessFlags := 26, nameIndex := 159, descriptorIndex := 35, attributes := #[] }, { accessFlags := 26, nameIndex := 161, descriptorIndex := 28, attributes := #[] }, { accessFlags := 26, nameIndex := 162, descriptorIndex := 35, attributes := #[] }, { accessFlags := 26, nameIndex := 164, descriptorIndex := 35, attributes := #[] }, { accessFlags := 26, nameIndex := 165, descriptorIndex := 35, attributes := #[] }, { accessFlags := 26, nameIndex := 57, descriptorIndex := 58, attributes := #[] }, { accessFlags := 26, nameIndex := 79, descriptorIndex := 80, attributes := #[] }])
  fields := #[{ name := "timeMillis", type := .long, accessFlags := 18, slot := 0, constantValue := 0 }, { name := "worker", type := .long, accessFlags := 18, slot := 1, constantValue := 0 }, { name := "sequence", type := .int, accessFlags := 18, slot := 2, constantValue := 0 }, { name := "TEXT_LENGTH", type := .int, accessFlags := 25, slot := 0, constantValue := 0 }, { name := "MAX_WORKER", type := .long, accessFlags := 25, slot := 1, constantValue := 0 }, { name := "MAX_SEQUENCE", type := .int, accessFlags := 25, slot := 2, constantValue := 0 }, { name := "ALPHABET", type := (.object "java/lang/String"), accessFlags := 26, slot := 3, constantValue := 0 }, { name := "BASE", type := .int, accessFlags := 26, slot := 4, constantValue := 0 }, { name := "LIMBS", type := .int, accessFlags := 26, slot := 5, constantValue := 0 }, { name := "LIMB_MASK", type := .long, accessFlags := 26, slot := 6, constantValue := 0 }, { name := "CHUNK_DIGITS", type := .int, accessFlags := 26, slot := 7, constantValue := 0 }, { name := "CHUNK_BASE", type := .int, accessFlags := 26, slot := 8, constantValue := 0 }, { name := "CHUNKS", type := .int, accessFlags := 26, slot := 9, constantValue := 0 }, { name := "DIGITS", type := (.array .int), accessFlags := 26, slot := 10, constantValue := 0 }, { name := "ORDER", type := (.object "java/util/Comparator"), accessFlags := 26, slot := 11, constantValue := 0 }]
  methods := #[k4m0, k4m1, k4m2, k4m3, k4m4, k4m5, k4m6, k4m7]
  instanceTypes := #[.long, .long, .int]
  staticTypes := #[.int, .long, .int, (.object "java/lang/String"), .int, .int, .long, .int, .int, .int, (.array .int), (.object "java/util/Comparator")]
  resolved := Array.replicate 248 none
  statics := some 0 }

def pool5 : Array CpInfo := pool [(1, .class_ 2), (0, u "java/io/Serializable"), (0, .class_ 4), (0, u "java/lang/Object")] 2

/-- java/io/Serializable -/
def k5 : Class := { plain "java/io/Serializable" (some 0) with
  accessFlags := 1537
  interfaces := #[]
  cf := some (fileOf pool5 1 #[] #[] 1537 3 #[] #[])
  fields := #[]
  methods := #[]
  instanceTypes := #[]
  staticTypes := #[]
  resolved := Array.replicate 7 none
  statics := none }

def pool6 : Array CpInfo := pool [(2, .class_ 4), (1, u "java/lang/CharSequence"), (42, .class_ 48), (0, u "java/lang/CharSequence$1CodePointIterator"), (10, .class_ 60), (0, u "java/lang/CharSequence$1CharIterator"), (5, .class_ 67), (0, u "java/lang/Object")] 63

/-- java/lang/CharSequence -/
def k6 : Class := { plain "java/lang/CharSequence" (some 0) with
  accessFlags := 1537
  interfaces := #[]
  cf := some (fileOf pool6 2 #[.nestMembers #[47, 59]] #[] 1537 66 #[] #[])
  fields := #[]
  methods := #[]
  instanceTypes := #[]
  staticTypes := #[]
  resolved := Array.replicate 131 none
  statics := none }

def pool7 : Array CpInfo := pool [(1, .class_ 2), (0, u "java/lang/constant/Constable"), (0, .class_ 4), (0, u "java/lang/Object")] 6

/-- java/lang/constant/Constable -/
def k7 : Class := { plain "java/lang/constant/Constable" (some 0) with
  accessFlags := 1537
  interfaces := #[]
  cf := some (fileOf pool7 1 #[] #[] 1537 3 #[] #[])
  fields := #[]
  methods := #[]
  instanceTypes := #[]
  staticTypes := #[]
  resolved := Array.replicate 11 none
  statics := none }

def pool8 : Array CpInfo := pool [(1, .class_ 2), (0, u "java/lang/constant/ConstantDesc"), (0, .class_ 4), (0, u "java/lang/Object")] 32

/-- java/lang/constant/ConstantDesc -/
def k8 : Class := { plain "java/lang/constant/ConstantDesc" (some 0) with
  accessFlags := 1537
  interfaces := #[]
  cf := some (fileOf pool8 1 #[] #[] 1537 3 #[] #[])
  fields := #[]
  methods := #[]
  instanceTypes := #[]
  staticTypes := #[]
  resolved := Array.replicate 37 none
  statics := none }

def pool9 : Array CpInfo := pool [(1, .methodref 2 3), (0, .class_ 4), (0, .nameAndType 5 6), (0, u "java/lang/Object"), (0, u "<init>"), (0, u "()V"), (2, .fieldref 10 11), (0, .class_ 12), (0, .nameAndType 13 14), (0, u "java/lang/String"), (0, u "value"), (0, u "[B"), (0, .fieldref 10 16), (0, .nameAndType 17 18), (0, u "coder"), (0, u "B"), (2, u "hash"), (0, u "I"), (2, u "hashIsZero"), (0, u "Z"), (0, .methodref 10 28), (0, .nameAndType 5 29), (0, u "([CIILjava/lang/Void;)V"), (8, .fieldref 10 39), (0, .nameAndType 40 26), (0, u "COMPACT_STRINGS"), (1, .class_ 44), (1, u "java/lang/StringUTF16"), (0, u "compress"), (1, .methodref 42 48), (0, .nameAndType 49 50), (0, u "coderFromArrayLen"), (0, u "([BI)B"), (56, .class_ 109), (1, u "java/lang/StringLatin1"), (32, u "()Z"), (34, .methodref 42 178), (0, .nameAndType 45 179), (0, u "([CII)[B"), (154, u "()I"), (0, .methodref 10 336), (0, .nameAndType 17 337), (0, u "()B"), (25, u "([BI)C"), (27, u "(II)V"), (35, u "(I)C"), (64, .methodref 10 493), (0, .nameAndType 494 142), (0, u "isLatin1"), (0, .methodref 107 496), (0, .nameAndType 497 363), (0, u "charAt"), (3, u "checkIndex"), (5, u "length"), (67, .class_ 576), (0, u "java/lang/CharSequence"), (22, u "CASE_INSENSITIVE_ORDER"), (0, u "Ljava/util/Comparator;"), (409, u "([C)V"), (42, .fieldref 1054 1055), (0, .class_ 1056), (0, .nameAndType 1057 1058), (0, u "jdk/internal/util/Preconditions"), (0, u "SIOOBE_FORMATTER"), (0, u "Ljava/util/function/BiFunction;"), (0, .methodref 1054 1060), (0, .nameAndType 501 1061), (0, u "(IILjava/util/function/BiFunction;)I"), (39, u "serialPersistentFields"), (0, u "[Ljava/io/ObjectStreamField;"), (0, .class_ 1104), (0, u "java/lang/String$CaseInsensitiveComparator"), (1, .class_ 1107), (0, u "java/io/Serializable"), (0, .class_ 1109), (0, u "java/lang/Comparable"), (0, .class_ 1111), (0, u "java/lang/constant/Constable"), (0, .class_ 1113), (0, u "java/lang/constant/ConstantDesc"), (2, u "serialVersionUID"), (0, u "J"), (3, u "REPL"), (0, u "C"), (2, u "LATIN1"), (1, u "UTF16")] 323

def k9m0 : Method := { name := "<init>", desc := "()V", sig := { parameters := [], returnType := none }, accessFlags := 1, code := none }
def k9c1 : Code := { maxStack := 5, maxLocals := 2, code := jdk_42_method_3_code, exceptionTable := #[], attributes := #[] }
def k9m1 : Method := { name := "<init>", desc := "([C)V", sig := { parameters := [(.array .char)], returnType := none }, accessFlags := 1, code := some k9c1 }
def k9c2 : Code := { maxStack := 2, maxLocals := 1, code := jdk_42_method_54_code, exceptionTable := #[], attributes := #[] }
def k9m2 : Method := { name := "length", desc := "()I", sig := { parameters := [], returnType := some .int }, accessFlags := 1, code := some k9c2 }
def k9c3 : Code := { maxStack := 2, maxLocals := 2, code := jdk_42_method_56_code, exceptionTable := #[], attributes := #[] }
def k9m3 : Method := { name := "charAt", desc := "(I)C", sig := { parameters := [.int], returnType := some .char }, accessFlags := 1, code := some k9c3 }
def k9c4 : Code := { maxStack := 4, maxLocals := 6, code := jdk_42_method_149_code, exceptionTable := #[], attributes := #[] }
def k9m4 : Method := { name := "<init>", desc := "([CIILjava/lang/Void;)V", sig := { parameters := [(.array .char), .int, .int, (.object "java/lang/Void")], returnType := none }, accessFlags := 2, code := some k9c4 }
def k9c5 : Code := { maxStack := 1, maxLocals := 1, code := jdk_42_method_152_code, exceptionTable := #[], attributes := #[] }
def k9m5 : Method := { name := "coder", desc := "()B", sig := { parameters := [], returnType := some .byte }, accessFlags := 0, code := some k9c5 }
def k9c6 : Code := { maxStack := 1, maxLocals := 1, code := jdk_42_method_154_code, exceptionTable := #[], attributes := #[] }
def k9m6 : Method := { name := "isLatin1", desc := "()Z", sig := { parameters := [], returnType := some .boolean }, accessFlags := 0, code := some k9c6 }
def k9c7 : Code := { maxStack := 3, maxLocals := 2, code := jdk_42_method_155_code, exceptionTable := #[], attributes := #[] }
def k9m7 : Method := { name := "checkIndex", desc := "(II)V", sig := { parameters := [.int, .int], returnType := none }, accessFlags := 8, code := some k9c7 }
/-- java/lang/String -/
def k9 : Class := { plain "java/lang/String" (some 0) with
  accessFlags := 49
  interfaces := #[5, 3, 6, 7, 8]
  cf := some (fileOf pool9 10 #[.nestMembers #[1103]] #[{ accessFlags := 1, nameIndex := 5, descriptorIndex := 6, attributes := #[] }, { accessFlags := 1, nameIndex := 5, descriptorIndex := 1010, attributes := #[] }, { accessFlags := 1, nameIndex := 507, descriptorIndex := 334, attributes := #[] }, { accessFlags := 1, nameIndex := 497, descriptorIndex := 427, attributes := #[] }, { accessFlags := 2, nameIndex := 5, descriptorIndex := 29, attributes := #[] }, { accessFlags := 0, nameIndex := 17, descriptorIndex := 337, attributes := #[] }, { accessFlags := 0, nameIndex := 494, descriptorIndex := 142, attributes := #[] }, { accessFlags := 8, nameIndex := 501, descriptorIndex := 391, attributes := #[] }] 49 2 #[1106, 1108, 575, 1110, 1112] #[{ accessFlags := 18, nameIndex := 13, descriptorIndex := 14, attributes := #[] }, { accessFlags := 18, nameIndex := 17, descriptorIndex := 18, attributes := #[] }, { accessFlags := 2, nameIndex := 21, descriptorIndex := 22, attributes := #[] }, { accessFlags := 2, nameIndex := 25, descriptorIndex := 26, attributes := #[] }, { accessFlags := 26, nameIndex := 1116, descriptorIndex := 1117, attributes := #[] }, { accessFlags := 24, nameIndex := 40, descriptorIndex := 26, attributes := #[] }, { accessFlags := 26, nameIndex := 1101, descriptorIndex := 1102, attributes := #[] }, { accessFlags := 26, nameIndex := 1121, descriptorIndex := 1122, attributes := #[] }, { accessFlags := 25, nameIndex := 599, descriptorIndex := 600, attributes := #[] }, { accessFlags := 24, nameIndex := 1125, descriptorIndex := 18, attributes := #[] }, { accessFlags := 24, nameIndex := 1127, descriptorIndex := 18, attributes := #[] }])
  fields := #[{ name := "value", type := (.array .byte), accessFlags := 18, slot := 0, constantValue := 0 }, { name := "coder", type := .byte, accessFlags := 18, slot := 1, constantValue := 0 }, { name := "hash", type := .int, accessFlags := 2, slot := 2, constantValue := 0 }, { name := "hashIsZero", type := .boolean, accessFlags := 2, slot := 3, constantValue := 0 }, { name := "serialVersionUID", type := .long, accessFlags := 26, slot := 0, constantValue := 0 }, { name := "COMPACT_STRINGS", type := .boolean, accessFlags := 24, slot := 1, constantValue := 0 }, { name := "serialPersistentFields", type := (.array (.object "java/io/ObjectStreamField")), accessFlags := 26, slot := 2, constantValue := 0 }, { name := "REPL", type := .char, accessFlags := 26, slot := 3, constantValue := 0 }, { name := "CASE_INSENSITIVE_ORDER", type := (.object "java/util/Comparator"), accessFlags := 25, slot := 4, constantValue := 0 }, { name := "LATIN1", type := .byte, accessFlags := 24, slot := 5, constantValue := 0 }, { name := "UTF16", type := .byte, accessFlags := 24, slot := 6, constantValue := 0 }]
  methods := #[k9m0, k9m1, k9m2, k9m3, k9m4, k9m5, k9m6, k9m7]
  instanceTypes := #[(.array .byte), .byte, .int, .boolean]
  staticTypes := #[.long, .boolean, (.array (.object "java/io/ObjectStreamField")), .char, (.object "java/util/Comparator"), .byte, .byte]
  resolved := Array.replicate 1451 none
  statics := some 1 }

def pool10 : Array CpInfo := pool [(1, .class_ 2), (0, u "java/lang/String"), (1, .class_ 6), (1, u "java/lang/Object"), (0, u "<init>"), (0, u "()V"), (0, .methodref 1 10), (0, .nameAndType 11 12), (0, u "checkIndex"), (0, u "(II)V"), (1, .class_ 16), (1, u "java/lang/StringLatin1"), (36, u "([BI)C"), (67, u "$assertionsDisabled"), (0, u "Z"), (98, .class_ 223), (1, u "java/lang/StringLatin1$LinesSpliterator"), (28, u "charAt"), (137, .class_ 391), (0, u "java/lang/StringLatin1$CharsSpliterator")] 3

def k10m0 : Method := { name := "<init>", desc := "()V", sig := { parameters := [], returnType := none }, accessFlags := 0, code := none }
def k10c1 : Code := { maxStack := 2, maxLocals := 2, code := jdk_43_method_2_code, exceptionTable := #[], attributes := #[] }
def k10m1 : Method := { name := "charAt", desc := "([BI)C", sig := { parameters := [(.array .byte), .int], returnType := some .char }, accessFlags := 9, code := some k10c1 }
/-- java/lang/StringLatin1 -/
def k10 : Class := { plain "java/lang/StringLatin1" (some 0) with
  accessFlags := 48
  interfaces := #[]
  cf := some (fileOf pool10 14 #[.nestMembers #[390, 221]] #[{ accessFlags := 0, nameIndex := 7, descriptorIndex := 8, attributes := #[] }, { accessFlags := 9, nameIndex := 252, descriptorIndex := 53, attributes := #[] }] 48 4 #[] #[{ accessFlags := 4120, nameIndex := 121, descriptorIndex := 122, attributes := #[] }])
  fields := #[{ name := "$assertionsDisabled", type := .boolean, accessFlags := 4120, slot := 0, constantValue := 0 }]
  methods := #[k10m0, k10m1]
  instanceTypes := #[]
  staticTypes := #[.boolean]
  resolved := Array.replicate 395 none
  statics := none }

def pool11 : Array CpInfo := pool [(2, .class_ 4), (1, u "java/lang/Object"), (0, u "<init>"), (0, u "()V"), (17, .class_ 26), (1, u "jdk/internal/util/Preconditions"), (6, u "checkIndex"), (21, .class_ 56), (0, u "jdk/internal/util/Preconditions$4"), (57, .class_ 115), (0, u "jdk/internal/util/Preconditions$1"), (7, u "SIOOBE_FORMATTER"), (0, u "Ljava/util/function/BiFunction;"), (0, .class_ 126), (0, u "jdk/internal/util/Preconditions$2"), (3, u "AIOOBE_FORMATTER"), (0, .class_ 132), (0, u "jdk/internal/util/Preconditions$3"), (3, u "IOOBE_FORMATTER"), (41, u "(IILjava/util/function/BiFunction;)I")] 15

def k11m0 : Method := { name := "<init>", desc := "()V", sig := { parameters := [], returnType := none }, accessFlags := 1, code := none }
def k11c1 : Code := { maxStack := 3, maxLocals := 3, code := jdk_41_method_11_code, exceptionTable := #[], attributes := #[] }
def k11m1 : Method := { name := "checkIndex", desc := "(IILjava/util/function/BiFunction;)I", sig := { parameters := [.int, .int, (.object "java/util/function/BiFunction")], returnType := some .int }, accessFlags := 9, code := some k11c1 }
/-- jdk/internal/util/Preconditions -/
def k11 : Class := { plain "jdk/internal/util/Preconditions" (some 0) with
  accessFlags := 33
  interfaces := #[]
  cf := some (fileOf pool11 24 #[.nestMembers #[55, 131, 125, 114]] #[{ accessFlags := 1, nameIndex := 5, descriptorIndex := 6, attributes := #[] }, { accessFlags := 9, nameIndex := 33, descriptorIndex := 178, attributes := #[] }] 33 2 #[] #[{ accessFlags := 25, nameIndex := 123, descriptorIndex := 124, attributes := #[] }, { accessFlags := 25, nameIndex := 130, descriptorIndex := 124, attributes := #[] }, { accessFlags := 25, nameIndex := 136, descriptorIndex := 124, attributes := #[] }])
  fields := #[{ name := "SIOOBE_FORMATTER", type := (.object "java/util/function/BiFunction"), accessFlags := 25, slot := 0, constantValue := 0 }, { name := "AIOOBE_FORMATTER", type := (.object "java/util/function/BiFunction"), accessFlags := 25, slot := 1, constantValue := 0 }, { name := "IOOBE_FORMATTER", type := (.object "java/util/function/BiFunction"), accessFlags := 25, slot := 2, constantValue := 0 }]
  methods := #[k11m0, k11m1]
  instanceTypes := #[]
  staticTypes := #[(.object "java/util/function/BiFunction"), (.object "java/util/function/BiFunction"), (.object "java/util/function/BiFunction")]
  resolved := Array.replicate 194 none
  statics := some 2 }

def pool12 : Array CpInfo := pool [(6, .class_ 8), (1, u "java/lang/Object"), (0, u "<init>"), (0, u "()V"), (1, .class_ 14), (1, u "java/lang/StringUTF16"), (31, u "$assertionsDisabled"), (0, u "Z"), (13, u "HI_BYTE_SHIFT"), (0, u "I"), (2, u "LO_BYTE_SHIFT"), (49, .methodref 12 116), (0, .nameAndType 117 118), (0, u "compress"), (0, u "([CI[BII)I"), (3, u "([CII)[B"), (138, u "coderFromArrayLen"), (0, u "([BI)B"), (106, .class_ 371), (1, u "java/lang/StringUTF16$LinesSpliterator"), (58, u "MAX_LENGTH"), (196, .class_ 628), (0, u "java/lang/StringUTF16$CodePointsSpliterator"), (0, .class_ 630), (0, u "java/lang/StringUTF16$CharsSpliterator")] 4

def k12m0 : Method := { name := "<init>", desc := "()V", sig := { parameters := [], returnType := none }, accessFlags := 0, code := none }
def k12c1 : Code := { maxStack := 2, maxLocals := 2, code := jdk_52_method_15_code, exceptionTable := #[], attributes := #[] }
def k12m1 : Method := { name := "coderFromArrayLen", desc := "([BI)B", sig := { parameters := [(.array .byte), .int], returnType := some .byte }, accessFlags := 8, code := some k12c1 }
def k12c2 : Code := { maxStack := 5, maxLocals := 6, code := jdk_52_method_16_code, exceptionTable := #[], attributes := #[] }
def k12m2 : Method := { name := "compress", desc := "([CII)[B", sig := { parameters := [(.array .char), .int, .int], returnType := some (.array .byte) }, accessFlags := 9, code := some k12c2 }
def k12c3 : Code := { maxStack := 3, maxLocals := 7, code := jdk_52_method_21_code, exceptionTable := #[], attributes := #[] }
def k12m3 : Method := { name := "compress", desc := "([CI[BII)I", sig := { parameters := [(.array .char), .int, (.array .byte), .int, .int], returnType := some .int }, accessFlags := 9, code := some k12c3 }
/-- java/lang/StringUTF16 -/
def k12 : Class := { plain "java/lang/StringUTF16" (some 0) with
  accessFlags := 48
  interfaces := #[]
  cf := some (fileOf pool12 12 #[.nestMembers #[627, 629, 369]] #[{ accessFlags := 0, nameIndex := 9, descriptorIndex := 10, attributes := #[] }, { accessFlags := 8, nameIndex := 261, descriptorIndex := 262, attributes := #[] }, { accessFlags := 9, nameIndex := 117, descriptorIndex := 122, attributes := #[] }, { accessFlags := 9, nameIndex := 117, descriptorIndex := 118, attributes := #[] }] 48 6 #[] #[{ accessFlags := 26, nameIndex := 61, descriptorIndex := 62, attributes := #[] }, { accessFlags := 26, nameIndex := 65, descriptorIndex := 62, attributes := #[] }, { accessFlags := 24, nameIndex := 430, descriptorIndex := 62, attributes := #[] }, { accessFlags := 4120, nameIndex := 46, descriptorIndex := 47, attributes := #[] }])
  fields := #[{ name := "HI_BYTE_SHIFT", type := .int, accessFlags := 26, slot := 0, constantValue := 0 }, { name := "LO_BYTE_SHIFT", type := .int, accessFlags := 26, slot := 1, constantValue := 0 }, { name := "MAX_LENGTH", type := .int, accessFlags := 24, slot := 2, constantValue := 0 }, { name := "$assertionsDisabled", type := .boolean, accessFlags := 4120, slot := 3, constantValue := 0 }]
  methods := #[k12m0, k12m1, k12m2, k12m3]
  instanceTypes := #[]
  staticTypes := #[.int, .int, .int, .boolean]
  resolved := Array.replicate 635 none
  statics := none }

def pool13 : Array CpInfo := pool [(2, .class_ 4), (1, u "java/lang/Object"), (0, u "<init>"), (0, u "()V"), (35, .class_ 44), (1, u "java/util/Objects"), (0, u "requireNonNull"), (48, u "(Ljava/lang/Object;Ljava/lang/String;)Ljava/lang/Object;")] 89

def k13m0 : Method := { name := "<init>", desc := "()V", sig := { parameters := [], returnType := none }, accessFlags := 2, code := none }
def k13c1 : Code := { maxStack := 3, maxLocals := 2, code := jdk_31_method_11_code, exceptionTable := #[], attributes := #[] }
def k13m1 : Method := { name := "requireNonNull", desc := "(Ljava/lang/Object;Ljava/lang/String;)Ljava/lang/Object;", sig := { parameters := [(.object "java/lang/Object"), (.object "java/lang/String")], returnType := some (.object "java/lang/Object") }, accessFlags := 9, code := some k13c1 }
/-- java/util/Objects -/
def k13 : Class := { plain "java/util/Objects" (some 0) with
  accessFlags := 49
  interfaces := #[]
  cf := some (fileOf pool13 42 #[] #[{ accessFlags := 2, nameIndex := 5, descriptorIndex := 6, attributes := #[] }, { accessFlags := 9, nameIndex := 45, descriptorIndex := 94, attributes := #[] }] 49 2 #[] #[])
  fields := #[]
  methods := #[k13m0, k13m1]
  instanceTypes := #[]
  staticTypes := #[]
  resolved := Array.replicate 184 none
  statics := none }

def pool14 : Array CpInfo := pool [(9, u "<init>"), (6, .class_ 18), (1, u "java/lang/Object"), (0, u "()V"), (1, .class_ 23), (1, u "jdk/internal/util/ArraysSupport"), (0, u "LOG2_ARRAY_LONG_INDEX_SCALE"), (0, u "I"), (2, u "U"), (0, u "Ljdk/internal/misc/Unsafe;"), (8, u "BIG_ENDIAN"), (0, u "Z"), (8, u "LOG2_BYTE_BIT_SIZE"), (4, u "LOG2_ARRAY_INT_INDEX_SCALE"), (54, u "JLA"), (0, u "Ljdk/internal/access/JavaLangAccess;"), (11, u "LOG2_ARRAY_BOOLEAN_INDEX_SCALE"), (9, u "LOG2_ARRAY_BYTE_INDEX_SCALE"), (5, u "LOG2_ARRAY_CHAR_INDEX_SCALE"), (5, u "LOG2_ARRAY_SHORT_INDEX_SCALE"), (18, u "LOG2_ARRAY_FLOAT_INDEX_SCALE"), (24, u "LOG2_ARRAY_DOUBLE_INDEX_SCALE"), (89, u "T_BOOLEAN"), (2, u "T_CHAR"), (1, u "T_FLOAT"), (1, u "T_DOUBLE"), (1, u "T_BYTE"), (1, u "T_SHORT"), (1, u "T_INT"), (1, u "T_LONG"), (1, u "SOFT_MAX_ARRAY_LENGTH")] 83

def k14m0 : Method := { name := "<init>", desc := "()V", sig := { parameters := [], returnType := none }, accessFlags := 2, code := none }
/-- jdk/internal/util/ArraysSupport -/
def k14 : Class := { plain "jdk/internal/util/ArraysSupport" (some 0) with
  accessFlags := 33
  interfaces := #[]
  cf := some (fileOf pool14 21 #[] #[{ accessFlags := 2, nameIndex := 9, descriptorIndex := 19, attributes := #[] }] 33 16 #[] #[{ accessFlags := 24, nameIndex := 28, descriptorIndex := 29, attributes := #[] }, { accessFlags := 26, nameIndex := 38, descriptorIndex := 39, attributes := #[] }, { accessFlags := 25, nameIndex := 121, descriptorIndex := 25, attributes := #[] }, { accessFlags := 25, nameIndex := 131, descriptorIndex := 25, attributes := #[] }, { accessFlags := 25, nameIndex := 137, descriptorIndex := 25, attributes := #[] }, { accessFlags := 25, nameIndex := 143, descriptorIndex := 25, attributes := #[] }, { accessFlags := 25, nameIndex := 53, descriptorIndex := 25, attributes := #[] }, { accessFlags := 25, nameIndex := 24, descriptorIndex := 25, attributes := #[] }, { accessFlags := 25, nameIndex := 162, descriptorIndex := 25, attributes := #[] }, { accessFlags := 25, nameIndex := 187, descriptorIndex := 25, attributes := #[] }, { accessFlags := 26, nameIndex := 48, descriptorIndex := 25, attributes := #[] }, { accessFlags := 25, nameIndex := 277, descriptorIndex := 25, attributes := #[] }, { accessFlags := 25, nameIndex := 280, descriptorIndex := 25, attributes := #[] }, { accessFlags := 25, nameIndex := 282, descriptorIndex := 25, attributes := #[] }, { accessFlags := 25, nameIndex := 284, descriptorIndex := 25, attributes := #[] }, { accessFlags := 25, nameIndex := 286, descriptorIndex := 25, attributes := #[] }, { accessFlags := 25, nameIndex := 288, descriptorIndex := 25, attributes := #[] }, { accessFlags := 25, nameIndex := 290, descriptorIndex := 25, attributes := #[] }, { accessFlags := 25, nameIndex := 292, descriptorIndex := 25, attributes := #[] }, { accessFlags := 26, nameIndex := 108, descriptorIndex := 109, attributes := #[] }, { accessFlags := 25, nameIndex := 294, descriptorIndex := 25, attributes := #[] }])
  fields := #[{ name := "U", type := (.object "jdk/internal/misc/Unsafe"), accessFlags := 24, slot := 0, constantValue := 0 }, { name := "BIG_ENDIAN", type := .boolean, accessFlags := 26, slot := 1, constantValue := 0 }, { name := "LOG2_ARRAY_BOOLEAN_INDEX_SCALE", type := .int, accessFlags := 25, slot := 2, constantValue := 0 }, { name := "LOG2_ARRAY_BYTE_INDEX_SCALE", type := .int, accessFlags := 25, slot := 3, constantValue := 0 }, { name := "LOG2_ARRAY_CHAR_INDEX_SCALE", type := .int, accessFlags := 25, slot := 4, constantValue := 0 }, { name := "LOG2_ARRAY_SHORT_INDEX_SCALE", type := .int, accessFlags := 25, slot := 5, constantValue := 0 }, { name := "LOG2_ARRAY_INT_INDEX_SCALE", type := .int, accessFlags := 25, slot := 6, constantValue := 0 }, { name := "LOG2_ARRAY_LONG_INDEX_SCALE", type := .int, accessFlags := 25, slot := 7, constantValue := 0 }, { name := "LOG2_ARRAY_FLOAT_INDEX_SCALE", type := .int, accessFlags := 25, slot := 8, constantValue := 0 }, { name := "LOG2_ARRAY_DOUBLE_INDEX_SCALE", type := .int, accessFlags := 25, slot := 9, constantValue := 0 }, { name := "LOG2_BYTE_BIT_SIZE", type := .int, accessFlags := 26, slot := 10, constantValue := 0 }, { name := "T_BOOLEAN", type := .int, accessFlags := 25, slot := 11, constantValue := 0 }, { name := "T_CHAR", type := .int, accessFlags := 25, slot := 12, constantValue := 0 }, { name := "T_FLOAT", type := .int, accessFlags := 25, slot := 13, constantValue := 0 }, { name := "T_DOUBLE", type := .int, accessFlags := 25, slot := 14, constantValue := 0 }, { name := "T_BYTE", type := .int, accessFlags := 25, slot := 15, constantValue := 0 }, { name := "T_SHORT", type := .int, accessFlags := 25, slot := 16, constantValue := 0 }, { name := "T_INT", type := .int, accessFlags := 25, slot := 17, constantValue := 0 }, { name := "T_LONG", type := .int, accessFlags := 25, slot := 18, constantValue := 0 }, { name := "JLA", type := (.object "jdk/internal/access/JavaLangAccess"), accessFlags := 26, slot := 19, constantValue := 0 }, { name := "SOFT_MAX_ARRAY_LENGTH", type := .int, accessFlags := 25, slot := 20, constantValue := 0 }]
  methods := #[k14m0]
  instanceTypes := #[]
  staticTypes := #[(.object "jdk/internal/misc/Unsafe"), .boolean, .int, .int, .int, .int, .int, .int, .int, .int, .int, .int, .int, .int, .int, .int, .int, .int, .int, (.object "jdk/internal/access/JavaLangAccess"), .int]
  resolved := Array.replicate 378 none
  statics := none }

def pool15 : Array CpInfo := pool [(1, u "java/lang/Cloneable"), (0, .class_ 1), (0, u "java/lang/Object"), (0, .class_ 3)] 3

/-- java/lang/Cloneable -/
def k15 : Class := { plain "java/lang/Cloneable" (some 0) with
  accessFlags := 1537
  interfaces := #[]
  cf := some (fileOf pool15 2 #[] #[] 1537 4 #[] #[])
  fields := #[]
  methods := #[]
  instanceTypes := #[]
  staticTypes := #[]
  resolved := Array.replicate 8 none
  statics := none }

/-- the primitive byte -/
def k16 : Class := { plain "byte" none with kind := .primitive 'B', accessFlags := 0x411 }
/-- [B -/
def k17 : Class := { plain "[B" (some 0) with kind := .array 16 .byte, interfaces := #[15, 5], accessFlags := 1041 }

/-- the primitive char -/
def k18 : Class := { plain "char" none with kind := .primitive 'C', accessFlags := 0x411 }
/-- [C -/
def k19 : Class := { plain "[C" (some 0) with kind := .array 18 .char, interfaces := #[15, 5], accessFlags := 1041 }

/-- the primitive int -/
def k20 : Class := { plain "int" none with kind := .primitive 'I', accessFlags := 0x411 }
/-- [I -/
def k21 : Class := { plain "[I" (some 0) with kind := .array 20 .int, interfaces := #[15, 5], accessFlags := 1041 }

/-- the primitive long -/
def k22 : Class := { plain "long" none with kind := .primitive 'J', accessFlags := 0x411 }
/-- [J -/
def k23 : Class := { plain "[J" (some 0) with kind := .array 22 .long, interfaces := #[15, 5], accessFlags := 1041 }

def heap : Heap := #[{ cls := 4, slots := #[.int 0, .long 0, .int 0, .null, .int 62, .int 0, .long 0, .int 0, .int 0, .int 0, .ref 3, .null], vm := .statics 4 },
  { cls := 9, slots := #[.long 0, .int 1, .null, .int 0, .null, .int 0, .int 0], vm := .statics 9 },
  { cls := 11, slots := #[.null, .null, .null], vm := .statics 11 },
  { cls := 21, slots := #[.int (-1), .int (-1), .int (-1), .int (-1), .int (-1), .int (-1), .int (-1), .int (-1), .int (-1), .int (-1), .int (-1), .int (-1), .int (-1), .int (-1), .int (-1), .int (-1), .int (-1), .int (-1), .int (-1), .int (-1), .int (-1), .int (-1), .int (-1), .int (-1), .int (-1), .int (-1), .int (-1), .int (-1), .int (-1), .int (-1), .int (-1), .int (-1), .int (-1), .int (-1), .int (-1), .int (-1), .int (-1), .int (-1), .int (-1), .int (-1), .int (-1), .int (-1), .int (-1), .int (-1), .int (-1), .int (-1), .int (-1), .int (-1), .int (0), .int (1), .int (2), .int (3), .int (4), .int (5), .int (6), .int (7), .int (8), .int (9), .int (-1), .int (-1), .int (-1), .int (-1), .int (-1), .int (-1), .int (-1), .int (10), .int (11), .int (12), .int (13), .int (14), .int (15), .int (16), .int (17), .int (18), .int (19), .int (20), .int (21), .int (22), .int (23), .int (24), .int (25), .int (26), .int (27), .int (28), .int (29), .int (30), .int (31), .int (32), .int (33), .int (34), .int (35), .int (-1), .int (-1), .int (-1), .int (-1), .int (-1), .int (-1), .int (36), .int (37), .int (38), .int (39), .int (40), .int (41), .int (42), .int (43), .int (44), .int (45), .int (46), .int (47), .int (48), .int (49), .int (50), .int (51), .int (52), .int (53), .int (54), .int (55), .int (56), .int (57), .int (58), .int (59), .int (60), .int (61), .int (-1), .int (-1), .int (-1), .int (-1), .int (-1)], vm := .none }]
def classes : Array Class := #[k0, k1, k2, k3, k4, k5, k6, k7, k8, k9, k10, k11, k12, k13, k14, k15, k16, k17, k18, k19, k20, k21, k22, k23]
def interned : List (Array UInt16 × Addr) := []
def slotsUsed : Nat := 150
def theMethod : MethodId := ⟨1, 1⟩
def args0 : Array Value := #[.long 5, .long 7, .int 9, .int 2]
def aboutOver (below : List Frame) : State where
  vm := { classes := classes, interned := interned.toArray }
  heap := heap
  slotsUsed := slotsUsed
  threads := #[{ frames := .invoking theMethod args0 :: below }]
def below0 : List Frame := [.native { method := ⟨0, 0⟩, args := #[] }]
def about1 : State := aboutOver below0
def p0 : Program := .bare "" "" ""
def e0 : Env := launch0.env 0 0 0
theorem w_frames : about1.frames = Frame.invoking theMethod args0 :: below0 := rfl
set_option maxRecDepth 65536 in
theorem w_args : argsFit about1.vm theMethod args0 = true := by decide +kernel
set_option maxRecDepth 65536 in
theorem w_heap : heapFits about1 = true := by decide +kernel
set_option maxRecDepth 65536 in
theorem w_runnable : about1.curStatus? = some .runnable := by decide +kernel
set_option maxRecDepth 65536 in
theorem w_alone : about1.alone = true := by decide +kernel
set_option maxRecDepth 65536 in
theorem w_named : about1.methodNamed? x = some theMethod := by decide +kernel
set_option maxRecDepth 65536 in
theorem w_hears : about1.hears theMethod below0 = true := by decide +kernel
set_option maxRecDepth 65536 in
theorem w_ripe : about1.ripe theMethod args0 below0 = true := by decide +kernel
theorem w_running : about1.status = .running := rfl
set_option maxRecDepth 65536 in
theorem w_room : about1.hasRoom e0.platform room_1 = true :=
  launch0.hasRoom_least _ room_1 (by decide +kernel) (by decide +kernel) (by decide +kernel) (by decide +kernel) (by decide +kernel) (by decide +kernel)
theorem allAtoms_all (ts : List Jvm.Cond) (a : Array Jvm.Value) (st : Jvm.State) : (allAtoms ts).before a st = ts.all (fun c => c.before a st) := by
  induction ts with
  | nil => rfl
  | cons c t ih =>
    show (Jvm.Cond.and c (allAtoms t)).before a st = _
    rw [Jvm.Cond.before_and, ih, List.all_cons]
def words1 : List Jvm.Cond := Jvm.Cond.code x code maxLocals ret :: tables_1
/-- a 'code' word, met by the world's own term for the bytes: nothing is compared byte by byte -/
theorem code_word {y : MethodName} {bytes : ByteArray} {mx : Nat} {rt : Option FieldType} {a : Array Value} {s : State} {m : MethodId} {meth : Method} {c : Code} (h1 : s.methodNamed? y = some m) (h2 : s.vm.method? m = some meth) (h3 : meth.code = some c) (h4 : c.code = bytes)
    (h5 : (c.maxLocals == mx && c.exceptionTable.isEmpty && decide (c.maxStack ≤ mostOperands) && decide (meth.sig.returnType = rt) && !meth.locks && decide (parseMethodDescriptor y.desc = some meth.sig)) = true) : (Jvm.Cond.code y bytes mx rt).before a s = true := by
  simp only [Bool.and_eq_true, beq_iff_eq, Bool.not_eq_true', decide_eq_true_eq] at h5
  obtain ⟨⟨⟨⟨⟨g1, g2⟩, g3⟩, g4⟩, g5⟩, g6⟩ := h5
  simp [Cond.before, Cond.holds, Cond.value, h1, h2, h3, h4, g1, g2, g3, g4, g5, g6]
def isCode : Jvm.Cond → Bool
  | .code _ _ _ _ => true
  | _ => false
theorem all_split {L : List Jvm.Cond} {P : Jvm.Cond → Bool} (h1 : L.all (fun c => isCode c || P c) = true) (h2 : ∀ c ∈ L.filter isCode, P c = true) : L.all P = true := by
  refine List.all_eq_true.mpr fun c hc => ?_
  have h := List.all_eq_true.mp h1 c hc
  rcases Bool.eq_false_or_eq_true (isCode c) with hi | hi
  · exact h2 c (List.mem_filter.mpr ⟨hc, hi⟩)
  · simpa [hi] using h
set_option maxRecDepth 65536 in
theorem w_c0 : (Jvm.Cond.code x code maxLocals ret).before args0 about1 = true := code_word (m := ⟨1, 1⟩) (meth := k1m1) (c := k1c1) (by decide +kernel) rfl rfl rfl (by decide +kernel)
set_option maxRecDepth 65536 in
theorem w_c1 : (Jvm.Cond.code ({ cls := "com/example/nuthatch/nuthatch/EventId", name := "<init>", desc := "(JJI)V" } : Jvm.MethodName) prog_7_method_1_code (6 : Nat) (Option.none : Option Jvm.ClassFile.FieldType)).before args0 about1 = true := code_word (m := ⟨4, 0⟩) (meth := k4m0) (c := k4c0) (by decide +kernel) rfl rfl rfl (by decide +kernel)
set_option maxRecDepth 65536 in
theorem w_c2 : (Jvm.Cond.code ({ cls := "java/lang/Record", name := "<init>", desc := "()V" } : Jvm.MethodName) jdk_30_method_1_code (1 : Nat) (Option.none : Option Jvm.ClassFile.FieldType)).before args0 about1 = true := code_word (m := ⟨2, 0⟩) (meth := k2m0) (c := k2c0) (by decide +kernel) rfl rfl rfl (by decide +kernel)
set_option maxRecDepth 65536 in
theorem w_c3 : (Jvm.Cond.code ({ cls := "java/lang/Object", name := "<init>", desc := "()V" } : Jvm.MethodName) object_method_1_code (1 : Nat) (Option.none : Option Jvm.ClassFile.FieldType)).before args0 about1 = true := code_word (m := ⟨0, 0⟩) (meth := k0m0) (c := k0c0) (by decide +kernel) rfl rfl rfl (by decide +kernel)
set_option maxRecDepth 65536 in
theorem w_c4 : (Jvm.Cond.code ({ cls := "com/example/nuthatch/nuthatch/EventId", name := "write", desc := "([BI)V" } : Jvm.MethodName) prog_7_method_5_code (10 : Nat) (Option.none : Option Jvm.ClassFile.FieldType)).before args0 about1 = true := code_word (m := ⟨4, 2⟩) (meth := k4m2) (c := k4c2) (by decide +kernel) rfl rfl rfl (by decide +kernel)
set_option maxRecDepth 65536 in
theorem w_c5 : (Jvm.Cond.code ({ cls := "com/example/nuthatch/nuthatch/EventId", name := "divide", desc := "([JI)I" } : Jvm.MethodName) prog_7_method_6_code (7 : Nat) (Option.some Jvm.ClassFile.FieldType.int)).before args0 about1 = true := code_word (m := ⟨4, 3⟩) (meth := k4m3) (c := k4c3) (by decide +kernel) rfl rfl rfl (by decide +kernel)
set_option maxRecDepth 65536 in
theorem w_c6 : (Jvm.Cond.code ({ cls := "java/lang/String", name := "charAt", desc := "(I)C" } : Jvm.MethodName) jdk_42_method_56_code (2 : Nat) (Option.some Jvm.ClassFile.FieldType.char)).before args0 about1 = true := code_word (m := ⟨9, 3⟩) (meth := k9m3) (c := k9c3) (by decide +kernel) rfl rfl rfl (by decide +kernel)
set_option maxRecDepth 65536 in
theorem w_c7 : (Jvm.Cond.code ({ cls := "java/lang/String", name := "isLatin1", desc := "()Z" } : Jvm.MethodName) jdk_42_method_154_code (1 : Nat) (Option.some Jvm.ClassFile.FieldType.boolean)).before args0 about1 = true := code_word (m := ⟨9, 6⟩) (meth := k9m6) (c := k9c6) (by decide +kernel) rfl rfl rfl (by decide +kernel)
set_option maxRecDepth 65536 in
theorem w_c8 : (Jvm.Cond.code ({ cls := "java/lang/StringLatin1", name := "charAt", desc := "([BI)C" } : Jvm.MethodName) jdk_43_method_2_code (2 : Nat) (Option.some Jvm.ClassFile.FieldType.char)).before args0 about1 = true := code_word (m := ⟨10, 1⟩) (meth := k10m1) (c := k10c1) (by decide +kernel) rfl rfl rfl (by decide +kernel)
set_option maxRecDepth 65536 in
theorem w_c9 : (Jvm.Cond.code ({ cls := "java/lang/String", name := "checkIndex", desc := "(II)V" } : Jvm.MethodName) jdk_42_method_155_code (2 : Nat) (Option.none : Option Jvm.ClassFile.FieldType)).before args0 about1 = true := code_word (m := ⟨9, 7⟩) (meth := k9m7) (c := k9c7) (by decide +kernel) rfl rfl rfl (by decide +kernel)
set_option maxRecDepth 65536 in
theorem w_c10 : (Jvm.Cond.code ({ cls := "jdk/internal/util/Preconditions", name := "checkIndex", desc := "(IILjava/util/function/BiFunction;)I" } : Jvm.MethodName) jdk_41_method_11_code (3 : Nat) (Option.some Jvm.ClassFile.FieldType.int)).before args0 about1 = true := code_word (m := ⟨11, 1⟩) (meth := k11m1) (c := k11c1) (by decide +kernel) rfl rfl rfl (by decide +kernel)
set_option maxRecDepth 65536 in
theorem w_c11 : (Jvm.Cond.code ({ cls := "com/example/nuthatch/nuthatch/EventIdWritePinLaw", name := "untouched", desc := "([BI)Z" } : Jvm.MethodName) method_6_code (2 : Nat) (Option.some Jvm.ClassFile.FieldType.boolean)).before args0 about1 = true := code_word (m := ⟨1, 5⟩) (meth := k1m5) (c := k1c5) (by decide +kernel) rfl rfl rfl (by decide +kernel)
set_option maxRecDepth 65536 in
theorem w_c12 : (Jvm.Cond.code ({ cls := "com/example/nuthatch/nuthatch/EventIdWritePinLaw", name := "take", desc := "([BII[C)Z" } : Jvm.MethodName) method_5_code (5 : Nat) (Option.some Jvm.ClassFile.FieldType.boolean)).before args0 about1 = true := code_word (m := ⟨1, 4⟩) (meth := k1m4) (c := k1c4) (by decide +kernel) rfl rfl rfl (by decide +kernel)
set_option maxRecDepth 65536 in
theorem w_c13 : (Jvm.Cond.code ({ cls := "com/example/nuthatch/nuthatch/EventIdWritePinLaw", name := "isBase62", desc := "(B)Z" } : Jvm.MethodName) method_4_code (1 : Nat) (Option.some Jvm.ClassFile.FieldType.boolean)).before args0 about1 = true := code_word (m := ⟨1, 3⟩) (meth := k1m3) (c := k1c3) (by decide +kernel) rfl rfl rfl (by decide +kernel)
set_option maxRecDepth 65536 in
theorem w_c14 : (Jvm.Cond.code ({ cls := "com/example/nuthatch/nuthatch/EventIdWritePinLaw", name := "digitChar", desc := "(I)C" } : Jvm.MethodName) method_3_code (1 : Nat) (Option.some Jvm.ClassFile.FieldType.char)).before args0 about1 = true := code_word (m := ⟨1, 2⟩) (meth := k1m2) (c := k1c2) (by decide +kernel) rfl rfl rfl (by decide +kernel)
set_option maxRecDepth 65536 in
theorem w_c15 : (Jvm.Cond.code ({ cls := "java/lang/String", name := "<init>", desc := "([C)V" } : Jvm.MethodName) jdk_42_method_3_code (2 : Nat) (Option.none : Option Jvm.ClassFile.FieldType)).before args0 about1 = true := code_word (m := ⟨9, 1⟩) (meth := k9m1) (c := k9c1) (by decide +kernel) rfl rfl rfl (by decide +kernel)
set_option maxRecDepth 65536 in
theorem w_c16 : (Jvm.Cond.code ({ cls := "java/lang/String", name := "<init>", desc := "([CIILjava/lang/Void;)V" } : Jvm.MethodName) jdk_42_method_149_code (6 : Nat) (Option.none : Option Jvm.ClassFile.FieldType)).before args0 about1 = true := code_word (m := ⟨9, 4⟩) (meth := k9m4) (c := k9c4) (by decide +kernel) rfl rfl rfl (by decide +kernel)
set_option maxRecDepth 65536 in
theorem w_c17 : (Jvm.Cond.code ({ cls := "java/lang/StringUTF16", name := "compress", desc := "([CII)[B" } : Jvm.MethodName) jdk_52_method_16_code (6 : Nat) (Option.some (Jvm.ClassFile.FieldType.array Jvm.ClassFile.FieldType.byte))).before args0 about1 = true := code_word (m := ⟨12, 2⟩) (meth := k12m2) (c := k12c2) (by decide +kernel) rfl rfl rfl (by decide +kernel)
set_option maxRecDepth 65536 in
theorem w_c18 : (Jvm.Cond.code ({ cls := "java/lang/StringUTF16", name := "compress", desc := "([CI[BII)I" } : Jvm.MethodName) jdk_52_method_21_code (7 : Nat) (Option.some Jvm.ClassFile.FieldType.int)).before args0 about1 = true := code_word (m := ⟨12, 3⟩) (meth := k12m3) (c := k12c3) (by decide +kernel) rfl rfl rfl (by decide +kernel)
set_option maxRecDepth 65536 in
theorem w_c19 : (Jvm.Cond.code ({ cls := "java/lang/StringUTF16", name := "coderFromArrayLen", desc := "([BI)B" } : Jvm.MethodName) jdk_52_method_15_code (2 : Nat) (Option.some Jvm.ClassFile.FieldType.byte)).before args0 about1 = true := code_word (m := ⟨12, 1⟩) (meth := k12m1) (c := k12c1) (by decide +kernel) rfl rfl rfl (by decide +kernel)
set_option maxRecDepth 65536 in
theorem w_c20 : (Jvm.Cond.code ({ cls := "com/example/nuthatch/nuthatch/EventId", name := "parse", desc := "(Ljava/lang/String;)Lcom/example/nuthatch/nuthatch/EventId;" } : Jvm.MethodName) prog_7_method_2_code (6 : Nat) (Option.some (Jvm.ClassFile.FieldType.object "com/example/nuthatch/nuthatch/EventId"))).before args0 about1 = true := code_word (m := ⟨4, 1⟩) (meth := k4m1) (c := k4c1) (by decide +kernel) rfl rfl rfl (by decide +kernel)
set_option maxRecDepth 65536 in
theorem w_c21 : (Jvm.Cond.code ({ cls := "java/util/Objects", name := "requireNonNull", desc := "(Ljava/lang/Object;Ljava/lang/String;)Ljava/lang/Object;" } : Jvm.MethodName) jdk_31_method_11_code (2 : Nat) (Option.some (Jvm.ClassFile.FieldType.object "java/lang/Object"))).before args0 about1 = true := code_word (m := ⟨13, 1⟩) (meth := k13m1) (c := k13c1) (by decide +kernel) rfl rfl rfl (by decide +kernel)
set_option maxRecDepth 65536 in
theorem w_c22 : (Jvm.Cond.code ({ cls := "java/lang/String", name := "length", desc := "()I" } : Jvm.MethodName) jdk_42_method_54_code (1 : Nat) (Option.some Jvm.ClassFile.FieldType.int)).before args0 about1 = true := code_word (m := ⟨9, 2⟩) (meth := k9m2) (c := k9c2) (by decide +kernel) rfl rfl rfl (by decide +kernel)
set_option maxRecDepth 65536 in
theorem w_c23 : (Jvm.Cond.code ({ cls := "java/lang/String", name := "coder", desc := "()B" } : Jvm.MethodName) jdk_42_method_152_code (1 : Nat) (Option.some Jvm.ClassFile.FieldType.byte)).before args0 about1 = true := code_word (m := ⟨9, 5⟩) (meth := k9m5) (c := k9c5) (by decide +kernel) rfl rfl rfl (by decide +kernel)
set_option maxRecDepth 65536 in
theorem w_c24 : (Jvm.Cond.code ({ cls := "com/example/nuthatch/nuthatch/EventId", name := "multiplyAdd", desc := "([JII)J" } : Jvm.MethodName) prog_7_method_7_code (8 : Nat) (Option.some Jvm.ClassFile.FieldType.long)).before args0 about1 = true := code_word (m := ⟨4, 4⟩) (meth := k4m4) (c := k4c4) (by decide +kernel) rfl rfl rfl (by decide +kernel)
set_option maxRecDepth 65536 in
theorem w_c25 : (Jvm.Cond.code ({ cls := "com/example/nuthatch/nuthatch/EventId", name := "timeMillis", desc := "()J" } : Jvm.MethodName) prog_7_method_11_code (1 : Nat) (Option.some Jvm.ClassFile.FieldType.long)).before args0 about1 = true := code_word (m := ⟨4, 5⟩) (meth := k4m5) (c := k4c5) (by decide +kernel) rfl rfl rfl (by decide +kernel)
set_option maxRecDepth 65536 in
theorem w_c26 : (Jvm.Cond.code ({ cls := "com/example/nuthatch/nuthatch/EventId", name := "worker", desc := "()J" } : Jvm.MethodName) prog_7_method_12_code (1 : Nat) (Option.some Jvm.ClassFile.FieldType.long)).before args0 about1 = true := code_word (m := ⟨4, 6⟩) (meth := k4m6) (c := k4c6) (by decide +kernel) rfl rfl rfl (by decide +kernel)
set_option maxRecDepth 65536 in
theorem w_c27 : (Jvm.Cond.code ({ cls := "com/example/nuthatch/nuthatch/EventId", name := "sequence", desc := "()I" } : Jvm.MethodName) prog_7_method_13_code (1 : Nat) (Option.some Jvm.ClassFile.FieldType.int)).before args0 about1 = true := code_word (m := ⟨4, 7⟩) (meth := k4m7) (c := k4c7) (by decide +kernel) rfl rfl rfl (by decide +kernel)
def codes1 : List Jvm.Cond := [Jvm.Cond.code x code maxLocals ret, Jvm.Cond.code ({ cls := "com/example/nuthatch/nuthatch/EventId", name := "<init>", desc := "(JJI)V" } : Jvm.MethodName) prog_7_method_1_code (6 : Nat) (Option.none : Option Jvm.ClassFile.FieldType), Jvm.Cond.code ({ cls := "java/lang/Record", name := "<init>", desc := "()V" } : Jvm.MethodName) jdk_30_method_1_code (1 : Nat) (Option.none : Option Jvm.ClassFile.FieldType), Jvm.Cond.code ({ cls := "java/lang/Object", name := "<init>", desc := "()V" } : Jvm.MethodName) object_method_1_code (1 : Nat) (Option.none : Option Jvm.ClassFile.FieldType), Jvm.Cond.code ({ cls := "com/example/nuthatch/nuthatch/EventId", name := "write", desc := "([BI)V" } : Jvm.MethodName) prog_7_method_5_code (10 : Nat) (Option.none : Option Jvm.ClassFile.FieldType), Jvm.Cond.code ({ cls := "com/example/nuthatch/nuthatch/EventId", name := "divide", desc := "([JI)I" } : Jvm.MethodName) prog_7_method_6_code (7 : Nat) (Option.some Jvm.ClassFile.FieldType.int), Jvm.Cond.code ({ cls := "java/lang/String", name := "charAt", desc := "(I)C" } : Jvm.MethodName) jdk_42_method_56_code (2 : Nat) (Option.some Jvm.ClassFile.FieldType.char), Jvm.Cond.code ({ cls := "java/lang/String", name := "isLatin1", desc := "()Z" } : Jvm.MethodName) jdk_42_method_154_code (1 : Nat) (Option.some Jvm.ClassFile.FieldType.boolean), Jvm.Cond.code ({ cls := "java/lang/StringLatin1", name := "charAt", desc := "([BI)C" } : Jvm.MethodName) jdk_43_method_2_code (2 : Nat) (Option.some Jvm.ClassFile.FieldType.char), Jvm.Cond.code ({ cls := "java/lang/String", name := "checkIndex", desc := "(II)V" } : Jvm.MethodName) jdk_42_method_155_code (2 : Nat) (Option.none : Option Jvm.ClassFile.FieldType), Jvm.Cond.code ({ cls := "jdk/internal/util/Preconditions", name := "checkIndex", desc := "(IILjava/util/function/BiFunction;)I" } : Jvm.MethodName) jdk_41_method_11_code (3 : Nat) (Option.some Jvm.ClassFile.FieldType.int), Jvm.Cond.code ({ cls := "com/example/nuthatch/nuthatch/EventIdWritePinLaw", name := "untouched", desc := "([BI)Z" } : Jvm.MethodName) method_6_code (2 : Nat) (Option.some Jvm.ClassFile.FieldType.boolean), Jvm.Cond.code ({ cls := "com/example/nuthatch/nuthatch/EventIdWritePinLaw", name := "take", desc := "([BII[C)Z" } : Jvm.MethodName) method_5_code (5 : Nat) (Option.some Jvm.ClassFile.FieldType.boolean), Jvm.Cond.code ({ cls := "com/example/nuthatch/nuthatch/EventIdWritePinLaw", name := "isBase62", desc := "(B)Z" } : Jvm.MethodName) method_4_code (1 : Nat) (Option.some Jvm.ClassFile.FieldType.boolean), Jvm.Cond.code ({ cls := "com/example/nuthatch/nuthatch/EventIdWritePinLaw", name := "digitChar", desc := "(I)C" } : Jvm.MethodName) method_3_code (1 : Nat) (Option.some Jvm.ClassFile.FieldType.char), Jvm.Cond.code ({ cls := "java/lang/String", name := "<init>", desc := "([C)V" } : Jvm.MethodName) jdk_42_method_3_code (2 : Nat) (Option.none : Option Jvm.ClassFile.FieldType), Jvm.Cond.code ({ cls := "java/lang/String", name := "<init>", desc := "([CIILjava/lang/Void;)V" } : Jvm.MethodName) jdk_42_method_149_code (6 : Nat) (Option.none : Option Jvm.ClassFile.FieldType), Jvm.Cond.code ({ cls := "java/lang/StringUTF16", name := "compress", desc := "([CII)[B" } : Jvm.MethodName) jdk_52_method_16_code (6 : Nat) (Option.some (Jvm.ClassFile.FieldType.array Jvm.ClassFile.FieldType.byte)), Jvm.Cond.code ({ cls := "java/lang/StringUTF16", name := "compress", desc := "([CI[BII)I" } : Jvm.MethodName) jdk_52_method_21_code (7 : Nat) (Option.some Jvm.ClassFile.FieldType.int), Jvm.Cond.code ({ cls := "java/lang/StringUTF16", name := "coderFromArrayLen", desc := "([BI)B" } : Jvm.MethodName) jdk_52_method_15_code (2 : Nat) (Option.some Jvm.ClassFile.FieldType.byte), Jvm.Cond.code ({ cls := "com/example/nuthatch/nuthatch/EventId", name := "parse", desc := "(Ljava/lang/String;)Lcom/example/nuthatch/nuthatch/EventId;" } : Jvm.MethodName) prog_7_method_2_code (6 : Nat) (Option.some (Jvm.ClassFile.FieldType.object "com/example/nuthatch/nuthatch/EventId")), Jvm.Cond.code ({ cls := "java/util/Objects", name := "requireNonNull", desc := "(Ljava/lang/Object;Ljava/lang/String;)Ljava/lang/Object;" } : Jvm.MethodName) jdk_31_method_11_code (2 : Nat) (Option.some (Jvm.ClassFile.FieldType.object "java/lang/Object")), Jvm.Cond.code ({ cls := "java/lang/String", name := "length", desc := "()I" } : Jvm.MethodName) jdk_42_method_54_code (1 : Nat) (Option.some Jvm.ClassFile.FieldType.int), Jvm.Cond.code ({ cls := "java/lang/String", name := "coder", desc := "()B" } : Jvm.MethodName) jdk_42_method_152_code (1 : Nat) (Option.some Jvm.ClassFile.FieldType.byte), Jvm.Cond.code ({ cls := "com/example/nuthatch/nuthatch/EventId", name := "multiplyAdd", desc := "([JII)J" } : Jvm.MethodName) prog_7_method_7_code (8 : Nat) (Option.some Jvm.ClassFile.FieldType.long), Jvm.Cond.code ({ cls := "com/example/nuthatch/nuthatch/EventId", name := "timeMillis", desc := "()J" } : Jvm.MethodName) prog_7_method_11_code (1 : Nat) (Option.some Jvm.ClassFile.FieldType.long), Jvm.Cond.code ({ cls := "com/example/nuthatch/nuthatch/EventId", name := "worker", desc := "()J" } : Jvm.MethodName) prog_7_method_12_code (1 : Nat) (Option.some Jvm.ClassFile.FieldType.long), Jvm.Cond.code ({ cls := "com/example/nuthatch/nuthatch/EventId", name := "sequence", desc := "()I" } : Jvm.MethodName) prog_7_method_13_code (1 : Nat) (Option.some Jvm.ClassFile.FieldType.int)]
set_option maxRecDepth 65536 in
theorem codes_eq : words1.filter isCode = codes1 := rfl
theorem w_codes : ∀ c ∈ words1.filter isCode, c.before args0 about1 = true := by
  rw [codes_eq]
  intro c hc
  simp only [codes1, List.mem_cons, List.not_mem_nil, or_false] at hc
  rcases hc with rfl | rfl | rfl | rfl | rfl | rfl | rfl | rfl | rfl | rfl | rfl | rfl | rfl | rfl | rfl | rfl | rfl | rfl | rfl | rfl | rfl | rfl | rfl | rfl | rfl | rfl | rfl | rfl
  · exact w_c0
  · exact w_c1
  · exact w_c2
  · exact w_c3
  · exact w_c4
  · exact w_c5
  · exact w_c6
  · exact w_c7
  · exact w_c8
  · exact w_c9
  · exact w_c10
  · exact w_c11
  · exact w_c12
  · exact w_c13
  · exact w_c14
  · exact w_c15
  · exact w_c16
  · exact w_c17
  · exact w_c18
  · exact w_c19
  · exact w_c20
  · exact w_c21
  · exact w_c22
  · exact w_c23
  · exact w_c24
  · exact w_c25
  · exact w_c26
  · exact w_c27
set_option maxRecDepth 65536 in
theorem w_t1 : (words1.take 24).all (fun c => isCode c || c.before args0 about1) = true := by decide +kernel
set_option maxRecDepth 65536 in
theorem w_t2 : ((words1.drop 24).take 24).all (fun c => isCode c || c.before args0 about1) = true := by decide +kernel
set_option maxRecDepth 65536 in
theorem w_t3 : (((words1.drop 24).drop 24).take 24).all (fun c => isCode c || c.before args0 about1) = true := by decide +kernel
set_option maxRecDepth 65536 in
theorem w_t4 : ((((words1.drop 24).drop 24).drop 24).take 24).all (fun c => isCode c || c.before args0 about1) = true := by decide +kernel
set_option maxRecDepth 65536 in
theorem w_t5 : (((((words1.drop 24).drop 24).drop 24).drop 24).take 24).all (fun c => isCode c || c.before args0 about1) = true := by decide +kernel
set_option maxRecDepth 65536 in
theorem w_t6 : ((((((words1.drop 24).drop 24).drop 24).drop 24).drop 24).take 24).all (fun c => isCode c || c.before args0 about1) = true := by decide +kernel
set_option maxRecDepth 65536 in
theorem w_t7 : ((((((words1.drop 24).drop 24).drop 24).drop 24).drop 24).drop 24).all (fun c => isCode c || c.before args0 about1) = true := by decide +kernel
theorem w_tables : (allAtoms (Jvm.Cond.code x code maxLocals ret :: tables_1)).before args0 about1 = true := by
  rw [allAtoms_all]
  show words1.all (fun c => c.before args0 about1) = true
  refine all_split ?_ w_codes
  rw [← List.take_append_drop 24 words1, List.all_append, w_t1, ← List.take_append_drop 24 (words1.drop 24), List.all_append, w_t2, ← List.take_append_drop 24 ((words1.drop 24).drop 24), List.all_append, w_t3, ← List.take_append_drop 24 (((words1.drop 24).drop 24).drop 24), List.all_append, w_t4, ← List.take_append_drop 24 ((((words1.drop 24).drop 24).drop 24).drop 24), List.all_append, w_t5, ← List.take_append_drop 24 (((((words1.drop 24).drop 24).drop 24).drop 24).drop 24), List.all_append, w_t6, w_t7]
  rfl
set_option maxRecDepth 65536 in
theorem w_rest : rest_1_c.before args0 about1 = true := by decide +kernel
set_option maxRecDepth 65536 in
theorem w_case : (Jvm.Cond.and given_1 narrow_1).before args0 about1 = true := by decide +kernel
set_option maxRecDepth 65536 in
theorem w_consts : constsHeld consts_1 about1 := Jvm.Lit.constsHeldB_iff.mp (by decide +kernel)
theorem w_applies : (headSpec (Jvm.Cond.code x code maxLocals ret :: tables_1) room_1).applies x e0.platform about1 = true :=
  (Spec.applies_iff w_frames).mpr ⟨w_running, w_runnable, w_alone, w_named, w_hears, w_ripe, w_room, w_tables⟩
theorem atStart : AtStart classFile x code maxLocals ret World_1 tables_1 room_1 Calls_1 rest_1 Pre_1 launch0 p0 e0 about1 theMethod args0 below0 :=
  ⟨lists_1, trivial, launch0.admits_env _ _ _, launch0.least_env, fairChoices_fair.cas, fairChoices_fair.clock, w_frames, w_args, w_heap, w_applies, ⟨w_consts, trivial⟩, w_rest, w_case⟩
end start1
theorem witness_1 : WitnessClaimed_1 := ⟨start1.p0, start1.e0, start1.about1, start1.theMethod, start1.args0, start1.below0, start1.atStart⟩
end Jvm.Pilot.@@N@@
