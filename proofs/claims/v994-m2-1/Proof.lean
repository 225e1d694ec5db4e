import JvmDerived
import JvmDerived.Pilot.@@N@@Statement
import JvmDerived.Pilot.@@N@@Code
set_option linter.unusedVariables false
set_option linter.unusedSimpArgs false
/- laws to paste: Road.backV (cut by pick.py; bodies as the Statement names them) -/
namespace Jvm.Pilot.@@N@@
namespace StrChars
open Jvm Sem ClassFile Op Lib Jvm.Stand Jvm.Free.XT Jvm.Free.ALB Jvm.Free.JM Jvm.Free
open Jvm.Lib.Cold (StaticIs)
/-- a char array whose places are chars -/
def Ch (a : Addr) (A : Cell) (U : State) : Prop := Arr .char a A U ∧ Typed .char A
theorem Ch.mv {a : Addr} {A : Cell} {U U' : State} (h : Ch a A U) (hal : U.vm.Alike U'.vm) (hh : U'.heap = U.heap) : Ch a A U' := ⟨h.1.mv hal hh, h.2⟩
theorem Ch.keep {a : Addr} {A : Cell} {U U' : State} (h : Ch a A U) (hal : U.vm.Alike U'.vm) (hk : U'.heap[a]? = some A) : Ch a A U' := ⟨h.1.keep hal hk, h.2⟩
/-- what place i of a char[]'s cell holds -/
def cv (A : Cell) (i : Nat) : Int32 := match A.slots[i]? with | some (.int x) => x | _ => 0
theorem Ch.get {a : Addr} {A : Cell} {U : State} (h : Ch a A U) {i : Nat} (hi : i < A.slots.size) : A.slots[i]? = some (.int (cv A i)) := by
  have e := Array.getElem?_eq_getElem hi
  have f := h.2 i _ e
  unfold cv; rw [e]
  generalize A.slots[i] = v at f
  cases v <;> simp [fits] at f ⊢
/-- the byte that i2b leaves of a char -/
def lo8 (x : Int32) : Int32 := x.toInt8.toInt32
theorem fits_lo8 (y : Int32) : fits .byte (.int (lo8 y)) = true := by
  have h1 := y.toInt8.le_toInt
  have h2 := y.toInt8.toInt_lt
  simp only [lo8, fits, Bool.and_eq_true, decide_eq_true_eq, Int32.le_iff_toInt_le, Int8.toInt_toInt32, show (-128 : Int32).toInt = -128 from by decide, show (127 : Int32).toInt = 127 from by decide]
  omega
/-- A' is A but that each place j of lo .. hi - 1 holds f j -/
def Laid (A A' : Cell) (lo hi : Nat) (f : Nat → Value) : Prop := A'.cls = A.cls ∧ A'.vm = A.vm ∧ A'.slots.size = A.slots.size ∧ ∀ i, A'.slots[i]? = if lo ≤ i ∧ i < hi then some (f i) else A.slots[i]?
theorem Laid.zero (A : Cell) (lo : Nat) (f : Nat → Value) : Laid A A lo (lo + 0) f := ⟨rfl, rfl, rfl, fun i => by rw [if_neg (by omega)]⟩
theorem Laid.step {A Ak : Cell} {lo k : Nat} {f : Nat → Value} {v : Value} (h : Laid A Ak lo k f) (hlo : lo ≤ k) (hk : k < Ak.slots.size) (hv : v = f k) : Laid A (Ak.setSlot k v) lo (k + 1) f := by
  refine ⟨h.1, h.2.1, by simpa [Cell.setSlot] using h.2.2.1, fun i => ?_⟩
  by_cases e : k = i
  · subst e; rw [Cell.slots_setSlot_self v hk, if_pos (by omega), hv]
  · rw [Cell.slots_setSlot_ne v e, h.2.2.2 i]
    by_cases q : lo ≤ i ∧ i < k
    · rw [if_pos q, if_pos (by omega)]
    · rw [if_neg q, if_neg (by omega)]
def U16 : String := "java/lang/StringUTF16"
namespace Cmp5
def yN : MethodName := ⟨"java/lang/StringUTF16", "compress", "([CI[BII)I"⟩
abbrev yB : ByteArray := jdk_52_method_21_code
theorem d0 : decode yB 0 = .ok (.iconst 0, 1) := by decide +kernel
theorem d1 : decode yB 1 = .ok (.istore 5, 2) := by decide +kernel
theorem d3 : decode yB 3 = .ok (.iload 5, 2) := by decide +kernel
theorem d5 : decode yB 5 = .ok (.iload 4, 2) := by decide +kernel
theorem d7 : decode yB 7 = .ok (.if_icmp (.ge) 37, 3) := by decide +kernel
theorem d10 : decode yB 10 = .ok (.aload_n 0, 1) := by decide +kernel
theorem d11 : decode yB 11 = .ok (.iload_n 1, 1) := by decide +kernel
theorem d12 : decode yB 12 = .ok (.caload, 1) := by decide +kernel
theorem d13 : decode yB 13 = .ok (.istore 6, 2) := by decide +kernel
theorem d15 : decode yB 15 = .ok (.iload 6, 2) := by decide +kernel
theorem d17 : decode yB 17 = .ok (.sipush 255, 3) := by decide +kernel
theorem d20 : decode yB 20 = .ok (.if_icmp (.le) 6, 3) := by decide +kernel
theorem d26 : decode yB 26 = .ok (.aload_n 2, 1) := by decide +kernel
theorem d27 : decode yB 27 = .ok (.iload_n 3, 1) := by decide +kernel
theorem d28 : decode yB 28 = .ok (.iload 6, 2) := by decide +kernel
theorem d30 : decode yB 30 = .ok (.i2b, 1) := by decide +kernel
theorem d31 : decode yB 31 = .ok (.bastore, 1) := by decide +kernel
theorem d32 : decode yB 32 = .ok (.iinc 1 1, 3) := by decide +kernel
theorem d35 : decode yB 35 = .ok (.iinc 3 1, 3) := by decide +kernel
theorem d38 : decode yB 38 = .ok (.iinc 5 1, 3) := by decide +kernel
theorem d41 : decode yB 41 = .ok (.goto (-38), 3) := by decide +kernel
theorem d44 : decode yB 44 = .ok (.iload 4, 2) := by decide +kernel
theorem d46 : decode yB 46 = .ok (.ireturn, 1) := by decide +kernel
def site : List Cond := []
def tab : Cond := tabOf yN yB 7 (some .int) site
def P (b : Addr) (A : Cell) (d : Addr) (B : Cell) (o q len : Nat) (args : Array Value) (s : State) : Prop := args = #[.ref b, .int (Int32.ofNat o), .ref d, .int (Int32.ofNat q), .int (Int32.ofNat len)] ∧ Ch b A s ∧ Arr .byte d B s ∧ b ≠ d ∧ o + len ≤ A.slots.size ∧ q + len ≤ B.slots.size ∧ ∀ i, i < len → ¬ 255 < cv A (o + i)
def E (b : Addr) (A : Cell) (d : Addr) (B : Cell) (o q len : Nat) (r : Option Value) (s u : State) : Prop := r = some (.int (Int32.ofNat len)) ∧ ∃ B', Put d B' s u ∧ Laid B B' q (q + len) (fun j => Value.int (lo8 (cv A (o + (j - q)))))
/-- no char of the range above 255: len; the places written hold each char's low byte -/
theorem law (l : Launch) (b : Addr) (A : Cell) (d : Addr) (B : Cell) (o q len : Nat) : Law l yN 5 5 0 0 yB 7 (some .int) site (P b A d B o q len) (E b A d B o q len) (copyLocs d q len) 0 0 := by
  refine Law.of_walk (plainFor_of_name (by decide +kernel)) (by decide +kernel) (by decide +kernel) (by decide) (fun _ _ h => by rw [h.1]; rfl) (fun _ U U' hal hh h => ⟨h.1, h.2.1.mv hal hh, h.2.2.1.mv hal hh, h.2.2.2⟩) (fun r U U' V V' h1 hal h2 h => ⟨h.1, h.2.elim fun B' q => ⟨B', q.1.mv h1 h2, q.2⟩⟩) ?_
  intro p e s m args below meth c s₁ X0 hexec hbytes hml hret hlk hnm hown hh0 W hP
  obtain ⟨rfl, hA, hB, hne, l1, l2, hp⟩ := hP
  have c1 : Steps p.tables e below (s₁.setTop (entryFrame m #[.ref b, .int (Int32.ofNat o), .ref d, .int (Int32.ofNat q), .int (Int32.ofNat len)] 7)) (s₁.setTop (mkF m 0 #[.val (.ref b), .val (.int (Int32.ofNat o)), .val (.ref d), .val (.int (Int32.ofNat q)), .val (.int (Int32.ofNat len)), .unset, .unset] [])) := entry rfl
  have hA0 := hA.1.mv X0.warmed.alike hh0
  have hB0 := hB.mv X0.warmed.alike hh0
  have a31 := hA.1.2.2.2
  have c2 : Steps p.tables e below (s₁.setTop (entryFrame m #[.ref b, .int (Int32.ofNat o), .ref d, .int (Int32.ofNat q), .int (Int32.ofNat len)] 7)) (s₁.setTop (mkF m 3 #[.val (.ref b), .val (.int (Int32.ofNat o)), .val (.ref d), .val (.int (Int32.ofNat q)), .val (.int (Int32.ofNat len)), .val (.int 0), .unset] [])) := c1.trans (by
    refine iconstV X0.here hexec rfl 0 (hb hbytes d0) (by decide) ?_
    refine XS.istore X0.here hexec rfl (hb hbytes d1) rfl rfl ?_
    exact Steps.refl _)
  have loop : ∀ (r i : Nat), i + r = len → ∀ (z : Slot), (z = .unset ∨ ∃ w, z = .val w ∧ w.category = 1) → ∀ (Tl : State) (Bk : Cell), Stand p l e { frames := 0, locals := 0, cells := 0, slots := 0 } s m #[.ref b, .int (Int32.ofNat o), .ref d, .int (Int32.ofNat q), .int (Int32.ofNat len)] below meth c Tl ([] ++ copyLocs d q i) 0 0 → Put d Bk s₁ Tl → Laid B Bk q (q + i) (fun j => Value.int (lo8 (cv A (o + (j - q))))) →
      Steps p.tables e below (s₁.setTop (entryFrame m #[.ref b, .int (Int32.ofNat o), .ref d, .int (Int32.ofNat q), .int (Int32.ofNat len)] 7)) (Tl.setTop (mkF m 3 #[.val (.ref b), .val (.int (Int32.ofNat (o + i))), .val (.ref d), .val (.int (Int32.ofNat (q + i))), .val (.int (Int32.ofNat len)), .val (.int (Int32.ofNat i)), z] [])) → ∃ (T' : State) (B' : Cell) (z' : Slot), Stand p l e { frames := 0, locals := 0, cells := 0, slots := 0 } s m #[.ref b, .int (Int32.ofNat o), .ref d, .int (Int32.ofNat q), .int (Int32.ofNat len)] below meth c T' ([] ++ copyLocs d q len) 0 0 ∧ Put d B' s₁ T' ∧ Laid B B' q (q + len) (fun j => Value.int (lo8 (cv A (o + (j - q))))) ∧
      Steps p.tables e below (s₁.setTop (entryFrame m #[.ref b, .int (Int32.ofNat o), .ref d, .int (Int32.ofNat q), .int (Int32.ofNat len)] 7)) (T'.setTop (mkF m 3 #[.val (.ref b), .val (.int (Int32.ofNat (o + len))), .val (.ref d), .val (.int (Int32.ofNat (q + len))), .val (.int (Int32.ofNat len)), .val (.int (Int32.ofNat len)), z'] [])) := by
    intro r
    induction r with
    | zero =>
      intro i hi z hz Tl Bk Xl pl fl cl
      have hil : i = len := by omega
      rw [hil] at Xl fl cl
      exact ⟨Tl, Bk, z, Xl, pl, fl, cl⟩
    | succ r ih =>
      intro i hi z hz Tl Bk Xl pl fl cl
      have all := X0.warmed.alike.symm.trans Xl.warmed.alike
      have hAl := hA0.keep all (pl.other hne hA0.1)
      have hBk := hB0.like all pl.1 fl.1 fl.2.1 fl.2.2.1
      have hlt : q + i < Bk.slots.size := by rw [fl.2.2.1]; omega
      have c3 : Steps p.tables e below (s₁.setTop (entryFrame m #[.ref b, .int (Int32.ofNat o), .ref d, .int (Int32.ofNat q), .int (Int32.ofNat len)] 7)) (Tl.setTop (mkF m 12 #[.val (.ref b), .val (.int (Int32.ofNat (o + i))), .val (.ref d), .val (.int (Int32.ofNat (q + i))), .val (.int (Int32.ofNat len)), .val (.int (Int32.ofNat i)), z] [.int (Int32.ofNat (o + i)), .ref b])) := cl.trans (by
        refine XS.iload Xl.here hexec rfl (hb hbytes d3) rfl ?_
        refine XS.iload Xl.here hexec rfl (hb hbytes d5) rfl ?_
        refine XS.icmpNo Xl.here hexec rfl (hb hbytes d7) rfl (ii_ge_f (lt32 (by omega) (by omega))) ?_
        refine XS.aloadN Xl.here hexec rfl (hb hbytes d10) rfl rfl ?_
        refine XS.iloadN Xl.here hexec rfl (hb hbytes d11) rfl ?_
        exact Steps.refl _)
      have c4 : Steps p.tables e below (s₁.setTop (entryFrame m #[.ref b, .int (Int32.ofNat o), .ref d, .int (Int32.ofNat q), .int (Int32.ofNat len)] 7)) (Tl.setTop (mkF m 13 #[.val (.ref b), .val (.int (Int32.ofNat (o + i))), .val (.ref d), .val (.int (Int32.ofNat (q + i))), .val (.int (Int32.ofNat len)), .val (.int (Int32.ofNat i)), z] [.int (cv A (o + i))])) := c3.trans (by
        refine Xl.aget hexec hAl rfl (hA.get (i := o + i) (by omega)) rfl rfl (hb hbytes d12) ?_
        exact Steps.refl _)
      have c5 : Steps p.tables e below (s₁.setTop (entryFrame m #[.ref b, .int (Int32.ofNat o), .ref d, .int (Int32.ofNat q), .int (Int32.ofNat len)] 7)) (Tl.setTop (mkF m 15 #[.val (.ref b), .val (.int (Int32.ofNat (o + i))), .val (.ref d), .val (.int (Int32.ofNat (q + i))), .val (.int (Int32.ofNat len)), .val (.int (Int32.ofNat i)), .val (.int (cv A (o + i)))] [])) := c4.trans (by
        refine XS.istoreS Xl.here hexec rfl (hb hbytes d13) rfl rfl hz ?_
        exact Steps.refl _)
      have c6 : Steps p.tables e below (s₁.setTop (entryFrame m #[.ref b, .int (Int32.ofNat o), .ref d, .int (Int32.ofNat q), .int (Int32.ofNat len)] 7)) (Tl.setTop (mkF m 31 #[.val (.ref b), .val (.int (Int32.ofNat (o + i))), .val (.ref d), .val (.int (Int32.ofNat (q + i))), .val (.int (Int32.ofNat len)), .val (.int (Int32.ofNat i)), .val (.int (cv A (o + i)))] [.int (lo8 (cv A (o + i))), .int (Int32.ofNat (q + i)), .ref d])) := c5.trans (by
        refine XS.iload Xl.here hexec rfl (hb hbytes d15) rfl ?_
        refine sipushV Xl.here hexec rfl 255 (hb hbytes d17) (by decide) ?_
        refine XS.icmpYes Xl.here hexec rfl (pc0 := 20) rfl (hb hbytes d20) rfl (ii_le_t (hp i (by omega))) (by decide) rfl ?_
        refine XS.aloadN Xl.here hexec rfl (hb hbytes d26) rfl rfl ?_
        refine XS.iloadN Xl.here hexec rfl (hb hbytes d27) rfl ?_
        refine XS.iload Xl.here hexec rfl (hb hbytes d28) rfl ?_
        refine i2b Xl.here hexec rfl (hb hbytes d30) rfl ?_
        exact Steps.refl _)
      obtain ⟨T7, X7, p7, st7⟩ := Xl.aput hexec hBk rfl hlt rfl (fits_lo8 (cv A (o + i))) (g := (mkF m 31 #[.val (.ref b), .val (.int (Int32.ofNat (o + i))), .val (.ref d), .val (.int (Int32.ofNat (q + i))), .val (.int (Int32.ofNat len)), .val (.int (Int32.ofNat i)), .val (.int (cv A (o + i)))] [.int (lo8 (cv A (o + i))), .int (Int32.ofNat (q + i)), .ref d])) rfl (rest := []) rfl (hb hbytes d31)
      have c8 : Steps p.tables e below (s₁.setTop (entryFrame m #[.ref b, .int (Int32.ofNat o), .ref d, .int (Int32.ofNat q), .int (Int32.ofNat len)] 7)) (T7.setTop (mkF m 32 #[.val (.ref b), .val (.int (Int32.ofNat (o + i))), .val (.ref d), .val (.int (Int32.ofNat (q + i))), .val (.int (Int32.ofNat len)), .val (.int (Int32.ofNat i)), .val (.int (cv A (o + i)))] [])) := c6.trans (st7 _ (Steps.refl _))
      have c9 : Steps p.tables e below (s₁.setTop (entryFrame m #[.ref b, .int (Int32.ofNat o), .ref d, .int (Int32.ofNat q), .int (Int32.ofNat len)] 7)) (T7.setTop (mkF m 3 #[.val (.ref b), .val (.int (Int32.ofNat (o + i) + 1)), .val (.ref d), .val (.int (Int32.ofNat (q + i) + 1)), .val (.int (Int32.ofNat len)), .val (.int (Int32.ofNat i + 1)), .val (.int (cv A (o + i)))] [])) := c8.trans (by
        refine iincV X7.here hexec rfl 1 (hb hbytes d32) (by decide) rfl rfl ?_
        refine iincV X7.here hexec rfl 1 (hb hbytes d35) (by decide) rfl rfl ?_
        refine iincV X7.here hexec rfl 1 (hb hbytes d38) (by decide) rfl rfl ?_
        refine XS.goto X7.here hexec rfl (pc0 := 41) rfl (hb hbytes d41) (by decide) rfl ?_
        exact Steps.refl _)
      have c10 : Steps p.tables e below (s₁.setTop (entryFrame m #[.ref b, .int (Int32.ofNat o), .ref d, .int (Int32.ofNat q), .int (Int32.ofNat len)] 7)) (T7.setTop (mkF m 3 #[.val (.ref b), .val (.int (Int32.ofNat (o + (i + 1)))), .val (.ref d), .val (.int (Int32.ofNat (q + (i + 1)))), .val (.int (Int32.ofNat len)), .val (.int (Int32.ofNat (i + 1))), .val (.int (cv A (o + i)))] [])) := by
        have := c9
        rw [succ32, succ32, succ32] at this
        exact this
      exact ih (i + 1) (by omega) _ (Or.inr ⟨_, rfl, rfl⟩) T7 _ (by rw [copyLocs_step, ← List.append_assoc]; exact X7) (pl.trans p7) (fl.step (by omega) hlt (by simp)) c10
  obtain ⟨T9, B9, z9, X9, p9, f9, g9⟩ := loop len 0 (by omega) .unset (Or.inl rfl) s₁ B (by simpa [copyLocs] using X0) ⟨hB0.1, fun _ _ => rfl, rfl⟩ (Laid.zero _ _ _) c2
  have c11 : Steps p.tables e below (s₁.setTop (entryFrame m #[.ref b, .int (Int32.ofNat o), .ref d, .int (Int32.ofNat q), .int (Int32.ofNat len)] 7)) (T9.setTop (mkF m 46 #[.val (.ref b), .val (.int (Int32.ofNat (o + len))), .val (.ref d), .val (.int (Int32.ofNat (q + len))), .val (.int (Int32.ofNat len)), .val (.int (Int32.ofNat len)), z9] [.int (Int32.ofNat len)])) := g9.trans (by
    refine XS.iload X9.here hexec rfl (hb hbytes d3) rfl ?_
    refine XS.iload X9.here hexec rfl (hb hbytes d5) rfl ?_
    refine XS.icmpYes X9.here hexec rfl (pc0 := 7) rfl (hb hbytes d7) rfl (ii_ge_t (nlt32 (by omega) (Nat.le_refl _))) (by decide) rfl ?_
    refine XS.iload X9.here hexec rfl (hb hbytes d44) rfl ?_
    exact Steps.refl _)
  exact ⟨T9, some (.int (Int32.ofNat len)), _, _, _, X9, by simp, rfl, rfl, (fun h => by cases h), ⟨rfl, B9, p9.from hh0, f9⟩, fun fs hl => c11.trans (X9.ireturnOut hexec hret rfl (Or.inl rfl) (hb hbytes d46) hl)⟩
end Cmp5
namespace Cmp3
def yN : MethodName := ⟨"java/lang/StringUTF16", "compress", "([CII)[B"⟩
abbrev yB : ByteArray := jdk_52_method_16_code
theorem d0 : decode yB 0 = .ok (.iload_n 2, 1) := by decide +kernel
theorem d1 : decode yB 1 = .ok (.newarray .byte, 2) := by decide +kernel
theorem d3 : decode yB 3 = .ok (.astore_n 3, 1) := by decide +kernel
theorem d4 : decode yB 4 = .ok (.aload_n 0, 1) := by decide +kernel
theorem d5 : decode yB 5 = .ok (.iload_n 1, 1) := by decide +kernel
theorem d6 : decode yB 6 = .ok (.aload_n 3, 1) := by decide +kernel
theorem d7 : decode yB 7 = .ok (.iconst 0, 1) := by decide +kernel
theorem d8 : decode yB 8 = .ok (.iload_n 2, 1) := by decide +kernel
theorem d9 : decode yB 9 = .ok (.invokestatic 115, 3) := by decide +kernel
theorem d12 : decode yB 12 = .ok (.istore 4, 2) := by decide +kernel
theorem d14 : decode yB 14 = .ok (.iload 4, 2) := by decide +kernel
theorem d16 : decode yB 16 = .ok (.iload_n 2, 1) := by decide +kernel
theorem d17 : decode yB 17 = .ok (.if_icmp (.eq) 40, 3) := by decide +kernel
theorem d57 : decode yB 57 = .ok (.aload_n 3, 1) := by decide +kernel
theorem d58 : decode yB 58 = .ok (.areturn, 1) := by decide +kernel
def site : List Cond := [.arrayClass .byte, Cmp5.tab] ++ staticW U16 115 Cmp5.yN
def tab : Cond := tabOf yN yB 6 (some (.array .byte)) site
def P (b : Addr) (A : Cell) (o len : Nat) (args : Array Value) (s : State) : Prop := args = #[.ref b, .int (Int32.ofNat o), .int (Int32.ofNat len)] ∧ Ch b A s ∧ o + len ≤ A.slots.size ∧ len ≤ 536870912 ∧ ∀ i, i < len → ¬ 255 < cv A (o + i)
def E (b : Addr) (A : Cell) (o len : Nat) (r : Option Value) (s u : State) : Prop := NewArr .byte "[B" len (fun j => .int (lo8 (cv A (o + j)))) r s u ∧ u.heap.size = s.heap.size + 1
/-- no char of the range above 255: a new byte[] of their low bytes -/
theorem law (l : Launch) (b : Addr) (A : Cell) (o len : Nat) : Law l yN 3 3 1 18 yB 6 (some (.array .byte)) site (P b A o len) (E b A o len) [] 1 len := by
  refine Law.of_walk (plainFor_of_name (by decide +kernel)) (by decide +kernel) (by decide +kernel) (by decide) (fun _ _ h => by rw [h.1]; rfl) (fun _ U U' hal hh h => ⟨h.1, h.2.1.mv hal hh, h.2.2⟩) (fun r U U' V V' h1 hal h2 h => ⟨NewArr.mv r U U' V V' h1 hal h2 h.1, by rw [h1, h2]; exact h.2⟩) ?_
  intro p e s m args below meth c s₁ X0 hexec hbytes hml hret hlk hnm hown hh0 W hP
  obtain ⟨rfl, hA, l1, l2, hp⟩ := hP
  have a31 := hA.1.2.2.2
  have c1 : Steps p.tables e below (s₁.setTop (entryFrame m #[.ref b, .int (Int32.ofNat o), .int (Int32.ofNat len)] 6)) (s₁.setTop (mkF m 0 #[.val (.ref b), .val (.int (Int32.ofNat o)), .val (.int (Int32.ofNat len)), .unset, .unset, .unset] [])) := entry rfl
  have c2 : Steps p.tables e below (s₁.setTop (entryFrame m #[.ref b, .int (Int32.ofNat o), .int (Int32.ofNat len)] 6)) (s₁.setTop (mkF m 1 #[.val (.ref b), .val (.int (Int32.ofNat o)), .val (.int (Int32.ofNat len)), .unset, .unset, .unset] [.int (Int32.ofNat len)])) := c1.trans (by
    refine XS.iloadN X0.here hexec rfl (hb hbytes d0) rfl ?_
    exact Steps.refl _)
  obtain ⟨T3, B3, X3, ba3, bs3, bv3, bh3, bf3, st3⟩ := X0.anew hexec (atype := .byte) (wk W (.arrayClass .byte)) rfl (by show len * 1 ≤ _; omega) (by omega) (g := (mkF m 1 #[.val (.ref b), .val (.int (Int32.ofNat o)), .val (.int (Int32.ofNat len)), .unset, .unset, .unset] [.int (Int32.ofNat len)])) rfl (hb hbytes d1) (rest := []) rfl (Nat.le_refl _) (by show 0 + len ≤ len; omega)
  rw [hh0] at ba3 st3
  have kp3 : XT.Kept s T3 := (XT.Kept.of_eq hh0).push bh3
  have hA3 := hA.keep X3.warmed.alike (kp3 _ _ hA.1.1)
  have hne : b ≠ s.heap.size := hA.1.ne
  have c4 : Steps p.tables e below (s₁.setTop (entryFrame m #[.ref b, .int (Int32.ofNat o), .int (Int32.ofNat len)] 6)) (T3.setTop (mkF m 3 #[.val (.ref b), .val (.int (Int32.ofNat o)), .val (.int (Int32.ofNat len)), .unset, .unset, .unset] [.ref s.heap.size])) := c2.trans (st3 _ (Steps.refl _))
  have c5 : Steps p.tables e below (s₁.setTop (entryFrame m #[.ref b, .int (Int32.ofNat o), .int (Int32.ofNat len)] 6)) (T3.setTop (mkF m 9 #[.val (.ref b), .val (.int (Int32.ofNat o)), .val (.int (Int32.ofNat len)), .val (.ref s.heap.size), .unset, .unset] [.int (Int32.ofNat len), .int 0, .ref s.heap.size, .int (Int32.ofNat o), .ref b])) := c4.trans (by
    refine XS.astoreN X3.here hexec rfl (hb hbytes d3) rfl rfl rfl ?_
    refine XS.aloadN X3.here hexec rfl (hb hbytes d4) rfl rfl ?_
    refine XS.iloadN X3.here hexec rfl (hb hbytes d5) rfl ?_
    refine XS.aloadN X3.here hexec rfl (hb hbytes d6) rfl rfl ?_
    refine iconstV X3.here hexec rfl 0 (hb hbytes d7) (by decide) ?_
    refine XS.iloadN X3.here hexec rfl (hb hbytes d8) rfl ?_
    exact Steps.refl _)
  obtain ⟨v6, T6, X6, E6, g6⟩ := X3.callS hexec (Cmp5.law l b A s.heap.size B3 o 0 len) hown (wks W (staticW U16 115 Cmp5.yN)) (wk W Cmp5.tab) (W := 0) (Nat.le_of_ble_eq_true rfl) (Nat.le_of_ble_eq_true rfl) (Nat.le_refl _) (by show 0 + len + 0 ≤ len; omega) (g := (mkF m 9 #[.val (.ref b), .val (.int (Int32.ofNat o)), .val (.int (Int32.ofNat len)), .val (.ref s.heap.size), .unset, .unset] [.int (Int32.ofNat len), .int (Int32.ofNat 0), .ref s.heap.size, .int (Int32.ofNat o), .ref b])) rfl (by rw [hml]; rfl) c5 (argsL := [.ref b, .int (Int32.ofNat o), .ref s.heap.size, .int (Int32.ofNat 0), .int (Int32.ofNat len)]) (rest := []) rfl rfl (by show 2 * 0 + 0 ≤ _; decide) (hb hbytes d9) (⟨rfl, hA3, ba3, hne, l1, by rw [bs3]; simp, hp⟩)
  obtain ⟨rfl, B6, p6, f6⟩ := E6
  have c7 : Steps p.tables e below (s₁.setTop (entryFrame m #[.ref b, .int (Int32.ofNat o), .int (Int32.ofNat len)] 6)) (T6.setTop (mkF m 12 #[.val (.ref b), .val (.int (Int32.ofNat o)), .val (.int (Int32.ofNat len)), .val (.ref s.heap.size), .unset, .unset] [.int (Int32.ofNat len)])) := g6
  have c8 : Steps p.tables e below (s₁.setTop (entryFrame m #[.ref b, .int (Int32.ofNat o), .int (Int32.ofNat len)] 6)) (T6.setTop (mkF m 58 #[.val (.ref b), .val (.int (Int32.ofNat o)), .val (.int (Int32.ofNat len)), .val (.ref s.heap.size), .val (.int (Int32.ofNat len)), .unset] [.ref s.heap.size])) := c7.trans (by
    refine XS.istore X6.here hexec rfl (hb hbytes d12) rfl rfl ?_
    refine XS.iload X6.here hexec rfl (hb hbytes d14) rfl ?_
    refine XS.iloadN X6.here hexec rfl (hb hbytes d16) rfl ?_
    refine XS.icmpYes X6.here hexec rfl (pc0 := 17) rfl (hb hbytes d17) rfl (ii_eq_t rfl) (by decide) rfl ?_
    refine XS.aloadN X6.here hexec rfl (hb hbytes d57) rfl rfl ?_
    exact Steps.refl _)
  have X8 := X6.wide (L' := []) (cells' := 1) (slots' := len) (fun x hx hlt => by
    simp only [List.nil_append, copyLocs, List.mem_map, List.mem_range] at hx
    obtain ⟨i, -, rfl⟩ := hx
    exact absurd hlt (Nat.lt_irrefl _)) (Nat.le_refl _) (by omega)
  exact ⟨T6, some (.ref s.heap.size), _, _, _, X8, rfl, rfl, rfl, (fun h => by cases h), ⟨⟨rfl, B6, ba3.like (X3.warmed.alike.symm.trans X6.warmed.alike) p6.1 f6.1 f6.2.1 f6.2.2.1, f6.2.1.trans bv3, by rw [X6.warmed.alike.findClass, f6.1]; exact bf3, by rw [f6.2.2.1, bs3]; simp, fun j hj => by rw [f6.2.2.2 j, if_pos (by omega)]; rfl, kp3.put p6 (Nat.le_refl _)⟩, by rw [p6.2.2, bh3, hh0]; simp⟩, fun fs hl => c8.trans (X8.areturnOut hexec rfl hret rfl (hb hbytes d58) hl)⟩
end Cmp3
namespace CodL
def yN : MethodName := ⟨"java/lang/StringUTF16", "coderFromArrayLen", "([BI)B"⟩
abbrev yB : ByteArray := jdk_52_method_15_code
theorem d0 : decode yB 0 = .ok (.iload_n 1, 1) := by decide +kernel
theorem d1 : decode yB 1 = .ok (.aload_n 0, 1) := by decide +kernel
theorem d2 : decode yB 2 = .ok (.arraylength, 1) := by decide +kernel
theorem d3 : decode yB 3 = .ok (.isub, 1) := by decide +kernel
theorem d4 : decode yB 4 = .ok (.bipush 31, 2) := by decide +kernel
theorem d6 : decode yB 6 = .ok (.iushr, 1) := by decide +kernel
theorem d7 : decode yB 7 = .ok (.i2b, 1) := by decide +kernel
theorem d8 : decode yB 8 = .ok (.ireturn, 1) := by decide +kernel
def site : List Cond := []
def tab : Cond := tabOf yN yB 2 (some .byte) site
def P (d : Addr) (B : Cell) (args : Array Value) (s : State) : Prop := args = #[.ref d, .int (Int32.ofNat B.slots.size)] ∧ Arr .byte d B s
def E (r : Option Value) (s u : State) : Prop := XT.PureE (some (.int 0)) r s u
/-- an array as long as the number of chars: LATIN1 -/
theorem law (l : Launch) (d : Addr) (B : Cell) : Law l yN 2 2 0 0 yB 2 (some .byte) site (P d B) E [] 0 0 := by
  refine Law.of_walk (plainFor_of_name (by decide +kernel)) (by decide +kernel) (by decide +kernel) (by decide) (fun _ _ h => by rw [h.1]; rfl) (fun _ U U' hal hh h => ⟨h.1, h.2.mv hal hh⟩) (fun r U U' V V' h1 hal h2 h => XT.PureE.mv r U U' V V' h1 hal h2 h) ?_
  intro p e s m args below meth c s₁ X0 hexec hbytes hml hret hlk hnm hown hh0 W hP
  obtain ⟨rfl, hB⟩ := hP
  have hB0 := hB.mv X0.warmed.alike hh0
  have c1 : Steps p.tables e below (s₁.setTop (entryFrame m #[.ref d, .int (Int32.ofNat B.slots.size)] 2)) (s₁.setTop (mkF m 0 #[.val (.ref d), .val (.int (Int32.ofNat B.slots.size))] [])) := entry rfl
  have c2 : Steps p.tables e below (s₁.setTop (entryFrame m #[.ref d, .int (Int32.ofNat B.slots.size)] 2)) (s₁.setTop (mkF m 2 #[.val (.ref d), .val (.int (Int32.ofNat B.slots.size))] [.ref d, .int (Int32.ofNat B.slots.size)])) := c1.trans (by
    refine XS.iloadN X0.here hexec rfl (hb hbytes d0) rfl ?_
    refine XS.aloadN X0.here hexec rfl (hb hbytes d1) rfl rfl ?_
    exact Steps.refl _)
  have c3 : Steps p.tables e below (s₁.setTop (entryFrame m #[.ref d, .int (Int32.ofNat B.slots.size)] 2)) (s₁.setTop (mkF m 8 #[.val (.ref d), .val (.int (Int32.ofNat B.slots.size))] [.int (lo8 (ushr (Int32.ofNat B.slots.size - Int32.ofNat B.slots.size) 31))])) := c2.trans (by
    refine X0.alen hexec hB0 rfl rfl (hb hbytes d2) ?_
    refine XS.isub X0.here hexec rfl (hb hbytes d3) rfl ?_
    refine bipushV X0.here hexec rfl 31 (hb hbytes d4) (by decide) ?_
    refine iushr X0.here hexec rfl (hb hbytes d6) rfl ?_
    refine i2b X0.here hexec rfl (hb hbytes d7) rfl ?_
    exact Steps.refl _)
  have e0 : lo8 (ushr (Int32.ofNat B.slots.size - Int32.ofNat B.slots.size) 31) = 0 := by rw [Int32.sub_self]; decide
  rw [e0] at c3
  exact ⟨s₁, some (.int 0), _, _, _, X0, rfl, rfl, rfl, (fun h => by cases h), ⟨rfl, hh0⟩, fun fs hl => c3.trans (X0.ireturnOut hexec hret rfl (Or.inr (Or.inr (Or.inl rfl))) (hb hbytes d8) hl)⟩
end CodL
/-- the String at a is Latin-1 over a new byte[] (the heap's one new cell): the low bytes of the len chars of A from o on; every cell but a is kept -/
def Got (a : Addr) (D : Cell) (fV fC : Field) (A : Cell) (o len : Nat) (r : Option Value) (s u : State) : Prop := r = none ∧ ∃ D' V : Cell, Blank "java/lang/String" a D' u ∧ Same D D' [fV.slot, fC.slot] ∧ D'.slots[fV.slot]? = some (.ref s.heap.size) ∧ D'.slots[fC.slot]? = some (.int 0) ∧ Arr .byte s.heap.size V u ∧ V.vm = .none ∧ u.vm.findClass "[B" = some V.cls ∧ V.slots.size = len ∧ (∀ j, j < len → V.slots[j]? = some (.int (lo8 (cv A (o + j))))) ∧ (∀ (y : Addr) (c : Cell), y ≠ a → s.heap[y]? = some c → u.heap[y]? = some c) ∧ u.heap.size = s.heap.size + 1
theorem Got.mv {a : Addr} {D A : Cell} {fV fC : Field} {o len : Nat} : ∀ r (U U' V V' : State), U'.heap = U.heap → V.vm.Alike V'.vm → V'.heap = V.heap → Got a D fV fC A o len r U V → Got a D fV fC A o len r U' V' :=
  fun r U U' V V' h1 hal h2 ⟨e0, D', X, a1, a2, a3, a4, a5, a6, a7, a8, a9, a10, a11⟩ => ⟨e0, D', X, a1.mv hal h2, a2, by rw [h1]; exact a3, a4, by rw [h1]; exact a5.mv hal h2, a6, by rw [hal.findClass]; exact a7, a8, a9, by rw [h1, h2]; exact a10, by rw [h1, h2]; exact a11⟩
namespace New4
def yN : MethodName := ⟨"java/lang/String", "<init>", "([CIILjava/lang/Void;)V"⟩
abbrev yB : ByteArray := jdk_42_method_149_code
theorem d0 : decode yB 0 = .ok (.aload_n 0, 1) := by decide +kernel
theorem d1 : decode yB 1 = .ok (.invokespecial 1, 3) := by decide +kernel
theorem d4 : decode yB 4 = .ok (.iload_n 3, 1) := by decide +kernel
theorem d5 : decode yB 5 = .ok (.ifCond (.ne) 22, 3) := by decide +kernel
theorem d27 : decode yB 27 = .ok (.getstatic 38, 3) := by decide +kernel
theorem d30 : decode yB 30 = .ok (.ifCond (.eq) 28, 3) := by decide +kernel
theorem d33 : decode yB 33 = .ok (.aload_n 1, 1) := by decide +kernel
theorem d34 : decode yB 34 = .ok (.iload_n 2, 1) := by decide +kernel
theorem d35 : decode yB 35 = .ok (.iload_n 3, 1) := by decide +kernel
theorem d36 : decode yB 36 = .ok (.invokestatic 177, 3) := by decide +kernel
theorem d39 : decode yB 39 = .ok (.astore 5, 2) := by decide +kernel
theorem d41 : decode yB 41 = .ok (.aload_n 0, 1) := by decide +kernel
theorem d42 : decode yB 42 = .ok (.aload 5, 2) := by decide +kernel
theorem d44 : decode yB 44 = .ok (.iload_n 3, 1) := by decide +kernel
theorem d45 : decode yB 45 = .ok (.invokestatic 47, 3) := by decide +kernel
theorem d48 : decode yB 48 = .ok (.putfield 15, 3) := by decide +kernel
theorem d51 : decode yB 51 = .ok (.aload_n 0, 1) := by decide +kernel
theorem d52 : decode yB 52 = .ok (.aload 5, 2) := by decide +kernel
theorem d54 : decode yB 54 = .ok (.putfield 9, 3) := by decide +kernel
theorem d57 : decode yB 57 = .ok (.return_, 1) := by decide +kernel
def site : List Cond := [.fieldLink "java/lang/String" 38 "java/lang/String" "COMPACT_STRINGS" "Z", Cmp3.tab, CodL.tab, .laysFinal "java/lang/String" "java/lang/String" "value" "[B", .fieldLink "java/lang/String" 9 "java/lang/String" "value" "[B", .laysFinal "java/lang/String" "java/lang/String" "coder" "B", .fieldLink "java/lang/String" 15 "java/lang/String" "coder" "B"] ++ objW "java/lang/String" 1 ++ staticW "java/lang/String" 177 Cmp3.yN ++ staticW "java/lang/String" 47 CodL.yN
def tab : Cond := tabOf yN yB 6 none site
def P (a : Addr) (D : Cell) (fV fC : Field) (b : Addr) (A : Cell) (z : Int32) (o len : Nat) (args : Array Value) (s : State) : Prop := args = #[.ref a, .ref b, .int (Int32.ofNat o), .int (Int32.ofNat len), .null] ∧ Blank "java/lang/String" a D s ∧ Found "java/lang/String" "value" "[B" fV s ∧ Found "java/lang/String" "coder" "B" fC s ∧ Ch b A s ∧ StaticIs s "java/lang/String" "COMPACT_STRINGS" "Z" (.int z) ∧ ¬ z = 0 ∧ 0 < len ∧ o + len ≤ A.slots.size ∧ len ≤ 536870912 ∧ ∀ i, i < len → ¬ 255 < cv A (o + i)
def E (a : Addr) (D : Cell) (fV fC : Field) (A : Cell) (o len : Nat) (r : Option Value) (s u : State) : Prop := Got a D fV fC A o len r s u
/-- len > 0, no char of the range above 255: a Latin-1 String of their low bytes -/
theorem law (l : Launch) (a : Addr) (D : Cell) (fV fC : Field) (b : Addr) (A : Cell) (z : Int32) (o len : Nat) : Law l yN 5 4 2 35 yB 6 none site (P a D fV fC b A z o len) (E a D fV fC A o len) [⟨a, fC.slot⟩, ⟨a, fV.slot⟩] 1 len := by
  refine Law.of_walk (plainFor_of_name (by decide +kernel)) (by decide +kernel) (by decide +kernel) (by decide) (fun _ _ h => by rw [h.1]; rfl) (fun _ U U' hal hh h => ⟨h.1, h.2.1.mv hal hh, h.2.2.1.al hal, h.2.2.2.1.al hal, h.2.2.2.2.1.mv hal hh, h.2.2.2.2.2.1.there hal hh, h.2.2.2.2.2.2⟩) (fun r U U' V V' h1 hal h2 h => Got.mv r U U' V V' h1 hal h2 h) ?_
  intro p e s m args below meth c s₁ X0 hexec hbytes hml hret hlk hnm hown hh0 W hP
  obtain ⟨rfl, hB, f1, f2, hA, s1, hz, l0, l1, l2, hp⟩ := hP
  have a31 := hA.1.2.2.2
  have c1 : Steps p.tables e below (s₁.setTop (entryFrame m #[.ref a, .ref b, .int (Int32.ofNat o), .int (Int32.ofNat len), .null] 6)) (s₁.setTop (mkF m 0 #[.val (.ref a), .val (.ref b), .val (.int (Int32.ofNat o)), .val (.int (Int32.ofNat len)), .val .null, .unset] [])) := entry rfl
  have c2 : Steps p.tables e below (s₁.setTop (entryFrame m #[.ref a, .ref b, .int (Int32.ofNat o), .int (Int32.ofNat len), .null] 6)) (s₁.setTop (mkF m 1 #[.val (.ref a), .val (.ref b), .val (.int (Int32.ofNat o)), .val (.int (Int32.ofNat len)), .val .null, .unset] [.ref a])) := c1.trans (by
    refine XS.aloadN X0.here hexec rfl (hb hbytes d0) rfl rfl ?_
    exact Steps.refl _)
  obtain ⟨T3, X3, q3, st3⟩ := X0.oinit hexec hown (wks W (objW "java/lang/String" 1)) (g := (mkF m 1 #[.val (.ref a), .val (.ref b), .val (.int (Int32.ofNat o)), .val (.int (Int32.ofNat len)), .val .null, .unset] [.ref a])) rfl (by rw [hml]; rfl) (rest := []) rfl (hb hbytes d1) (W := 0) (by show 2 * 0 + 0 ≤ _; decide) (Nat.le_of_ble_eq_true rfl) (Nat.le_of_ble_eq_true rfl)
  have hh3 := q3.trans hh0
  have c4 : Steps p.tables e below (s₁.setTop (entryFrame m #[.ref a, .ref b, .int (Int32.ofNat o), .int (Int32.ofNat len), .null] 6)) (T3.setTop (mkF m 27 #[.val (.ref a), .val (.ref b), .val (.int (Int32.ofNat o)), .val (.int (Int32.ofNat len)), .val .null, .unset] [])) := (c2.trans (st3 _ (Steps.refl _))).trans (by
    refine XS.iloadN X3.here hexec rfl (hb hbytes d4) rfl ?_
    refine XS.ifYes X3.here hexec rfl (pc0 := 5) rfl (hb hbytes d5) rfl (i0_ne_t (nz32 (by omega) l0)) (by decide) rfl ?_
    exact Steps.refl _)
  obtain ⟨T5, X5, q5, st5⟩ := X3.sget hexec hown (wk W (.fieldLink "java/lang/String" 38 "java/lang/String" "COMPACT_STRINGS" "Z")) s1 (fun _ _ h => by rw [hh3]; exact h) (g := (mkF m 27 #[.val (.ref a), .val (.ref b), .val (.int (Int32.ofNat o)), .val (.int (Int32.ofNat len)), .val .null, .unset] [])) rfl (hb hbytes d27)
  have hh5 := q5.trans hh3
  have c6 : Steps p.tables e below (s₁.setTop (entryFrame m #[.ref a, .ref b, .int (Int32.ofNat o), .int (Int32.ofNat len), .null] 6)) (T5.setTop (mkF m 30 #[.val (.ref a), .val (.ref b), .val (.int (Int32.ofNat o)), .val (.int (Int32.ofNat len)), .val .null, .unset] [.int z])) := c4.trans (st5 _ (Steps.refl _))
  have c7 : Steps p.tables e below (s₁.setTop (entryFrame m #[.ref a, .ref b, .int (Int32.ofNat o), .int (Int32.ofNat len), .null] 6)) (T5.setTop (mkF m 36 #[.val (.ref a), .val (.ref b), .val (.int (Int32.ofNat o)), .val (.int (Int32.ofNat len)), .val .null, .unset] [.int (Int32.ofNat len), .int (Int32.ofNat o), .ref b])) := c6.trans (by
    refine XS.ifNo X5.here hexec rfl (hb hbytes d30) rfl (i0_eq_f hz) ?_
    refine XS.aloadN X5.here hexec rfl (hb hbytes d33) rfl rfl ?_
    refine XS.iloadN X5.here hexec rfl (hb hbytes d34) rfl ?_
    refine XS.iloadN X5.here hexec rfl (hb hbytes d35) rfl ?_
    exact Steps.refl _)
  obtain ⟨v8, T8, X8, E8, g8⟩ := X5.callS hexec (Cmp3.law l b A o len) hown (wks W (staticW "java/lang/String" 177 Cmp3.yN)) (wk W Cmp3.tab) (W := 0) (Nat.le_of_ble_eq_true rfl) (Nat.le_of_ble_eq_true rfl) (Nat.le_refl _) (by show 0 + len ≤ len; omega) (g := (mkF m 36 #[.val (.ref a), .val (.ref b), .val (.int (Int32.ofNat o)), .val (.int (Int32.ofNat len)), .val .null, .unset] [.int (Int32.ofNat len), .int (Int32.ofNat o), .ref b])) rfl (by rw [hml]; rfl) c7 (argsL := [.ref b, .int (Int32.ofNat o), .int (Int32.ofNat len)]) (rest := []) rfl rfl (by show 2 * 0 + 0 ≤ _; decide) (hb hbytes d36) (⟨rfl, hA.mv X5.warmed.alike hh5, l1, l2, hp⟩)
  obtain ⟨e8, z8⟩ := E8
  obtain ⟨rfl, N, n1, n2, n3, n4, n5, n6⟩ := NewArr.mv _ T5 s _ _ hh5.symm (Vm.Alike.refl _) rfl e8
  rw [hh5] at z8
  have hB1 := hB.keep X8.warmed.alike (n6 _ _ hB.1)
  have hne : s.heap.size ≠ a := (Nat.ne_of_lt (Array.getElem?_eq_some_iff.mp hB.1).1).symm
  have c9 : Steps p.tables e below (s₁.setTop (entryFrame m #[.ref a, .ref b, .int (Int32.ofNat o), .int (Int32.ofNat len), .null] 6)) (T8.setTop (mkF m 39 #[.val (.ref a), .val (.ref b), .val (.int (Int32.ofNat o)), .val (.int (Int32.ofNat len)), .val .null, .unset] [.ref s.heap.size])) := g8
  have c10 : Steps p.tables e below (s₁.setTop (entryFrame m #[.ref a, .ref b, .int (Int32.ofNat o), .int (Int32.ofNat len), .null] 6)) (T8.setTop (mkF m 45 #[.val (.ref a), .val (.ref b), .val (.int (Int32.ofNat o)), .val (.int (Int32.ofNat len)), .val .null, .val (.ref s.heap.size)] [.int (Int32.ofNat N.slots.size), .ref s.heap.size, .ref a])) := by
    have hc : Steps p.tables e below (s₁.setTop (entryFrame m #[.ref a, .ref b, .int (Int32.ofNat o), .int (Int32.ofNat len), .null] 6)) (T8.setTop (mkF m 45 #[.val (.ref a), .val (.ref b), .val (.int (Int32.ofNat o)), .val (.int (Int32.ofNat len)), .val .null, .val (.ref s.heap.size)] [.int (Int32.ofNat len), .ref s.heap.size, .ref a])) := c9.trans (by
      refine XS.astore X8.here hexec rfl (hb hbytes d39) rfl rfl rfl ?_
      refine XS.aloadN X8.here hexec rfl (hb hbytes d41) rfl rfl ?_
      refine XS.aload X8.here hexec rfl (hb hbytes d42) rfl rfl ?_
      refine XS.iloadN X8.here hexec rfl (hb hbytes d44) rfl ?_
      exact Steps.refl _)
    rw [n4]; exact hc
  obtain ⟨v11, T11, X11, E11, g11⟩ := X8.callS hexec (CodL.law l s.heap.size N) hown (wks W (staticW "java/lang/String" 47 CodL.yN)) (wk W CodL.tab) (W := 1) (Nat.le_of_ble_eq_true rfl) (Nat.le_of_ble_eq_true rfl) (Nat.le_refl _) (by show 0 + len + 0 ≤ len; omega) (g := (mkF m 45 #[.val (.ref a), .val (.ref b), .val (.int (Int32.ofNat o)), .val (.int (Int32.ofNat len)), .val .null, .val (.ref s.heap.size)] [.int (Int32.ofNat N.slots.size), .ref s.heap.size, .ref a])) rfl (by rw [hml]; rfl) c10 (argsL := [.ref s.heap.size, .int (Int32.ofNat N.slots.size)]) (rest := [.ref a]) rfl rfl (by show 2 * 0 + (1 + 0) ≤ _; decide) (hb hbytes d45) (⟨rfl, n1⟩)
  obtain ⟨rfl, q11⟩ := E11
  have hB11 := hB1.mv (X8.warmed.alike.symm.trans X11.warmed.alike) q11
  have c12 : Steps p.tables e below (s₁.setTop (entryFrame m #[.ref a, .ref b, .int (Int32.ofNat o), .int (Int32.ofNat len), .null] 6)) (T11.setTop (mkF m 48 #[.val (.ref a), .val (.ref b), .val (.int (Int32.ofNat o)), .val (.int (Int32.ofNat len)), .val .null, .val (.ref s.heap.size)] [.int 0, .ref a])) := g11
  obtain ⟨T13, X13, p13, bl13, sl13, st13⟩ := X11.finit hexec hown (wk W (.fieldLink "java/lang/String" 15 "java/lang/String" "coder" "B")) (Or.inr ⟨_, (wk W (.laysFinal "java/lang/String" "java/lang/String" "coder" "B"))⟩) (Or.inl ⟨rfl, hnm⟩) f2 (Or.inl rfl) hB11 (t := .byte) (by decide +kernel) rfl (g := (mkF m 48 #[.val (.ref a), .val (.ref b), .val (.int (Int32.ofNat o)), .val (.int (Int32.ofNat len)), .val .null, .val (.ref s.heap.size)] [.int 0, .ref a])) rfl (rest := []) rfl (hb hbytes d48)
  have c14 : Steps p.tables e below (s₁.setTop (entryFrame m #[.ref a, .ref b, .int (Int32.ofNat o), .int (Int32.ofNat len), .null] 6)) (T13.setTop (mkF m 54 #[.val (.ref a), .val (.ref b), .val (.int (Int32.ofNat o)), .val (.int (Int32.ofNat len)), .val .null, .val (.ref s.heap.size)] [.ref s.heap.size, .ref a])) := (c12.trans (st13 _ (Steps.refl _))).trans (by
    refine XS.aloadN X13.here hexec rfl (hb hbytes d51) rfl rfl ?_
    refine XS.aload X13.here hexec rfl (hb hbytes d52) rfl rfl ?_
    exact Steps.refl _)
  obtain ⟨T15, X15, p15, bl15, sl15, st15⟩ := X13.finit hexec hown (wk W (.fieldLink "java/lang/String" 9 "java/lang/String" "value" "[B")) (Or.inr ⟨_, (wk W (.laysFinal "java/lang/String" "java/lang/String" "value" "[B"))⟩) (Or.inl ⟨rfl, hnm⟩) f1 (Or.inl rfl) bl13 (t := (.array .byte)) (by decide +kernel) rfl (g := (mkF m 54 #[.val (.ref a), .val (.ref b), .val (.int (Int32.ofNat o)), .val (.int (Int32.ofNat len)), .val .null, .val (.ref s.heap.size)] [.ref s.heap.size, .ref a])) rfl (rest := []) rfl (hb hbytes d54)
  have c16 : Steps p.tables e below (s₁.setTop (entryFrame m #[.ref a, .ref b, .int (Int32.ofNat o), .int (Int32.ofNat len), .null] 6)) (T15.setTop (mkF m 57 #[.val (.ref a), .val (.ref b), .val (.int (Int32.ofNat o)), .val (.int (Int32.ofNat len)), .val .null, .val (.ref s.heap.size)] [])) := c14.trans (st15 _ (Steps.refl _))
  have ap := apart (Or.inr ⟨_, (wk W (.laysFinal "java/lang/String" "java/lang/String" "value" "[B"))⟩) (Or.inr ⟨_, (wk W (.laysFinal "java/lang/String" "java/lang/String" "coder" "B"))⟩) f1 f2 (t₁ := .array .byte) (t₂ := .byte) (by decide +kernel) (by decide +kernel) (by decide)
  have al := X8.warmed.alike.symm.trans X15.warmed.alike
  have n7 : T11.heap[s.heap.size]? = some N := by rw [q11]; exact n1.1
  exact ⟨T15, none, _, _, _, X15, by simp, rfl, by omega, (fun _ => rfl), ⟨rfl, _, N, bl15, ((Same.refl D _).set _ (by simp)).set _ (by simp), sl15, (Cell.slots_setSlot_ne _ ap).trans sl13, n1.keep al (p15.other hne (p13.other hne n7)), n2, by rw [al.findClass]; exact n3, n4, n5, fun y c h1 h2 => p15.other h1 (p13.other h1 (by rw [q11]; exact n6 y c h2)), by rw [p15.2.2, p13.2.2, q11]; exact z8⟩, fun fs hl => c16.trans (X15.returnOut hexec hret (hb hbytes d57) hl)⟩
end New4
namespace New1
def yN : MethodName := ⟨"java/lang/String", "<init>", "([C)V"⟩
abbrev yB : ByteArray := jdk_42_method_3_code
theorem d0 : decode yB 0 = .ok (.aload_n 0, 1) := by decide +kernel
theorem d1 : decode yB 1 = .ok (.aload_n 1, 1) := by decide +kernel
theorem d2 : decode yB 2 = .ok (.iconst 0, 1) := by decide +kernel
theorem d3 : decode yB 3 = .ok (.aload_n 1, 1) := by decide +kernel
theorem d4 : decode yB 4 = .ok (.arraylength, 1) := by decide +kernel
theorem d5 : decode yB 5 = .ok (.aconst_null, 1) := by decide +kernel
theorem d6 : decode yB 6 = .ok (.invokespecial 27, 3) := by decide +kernel
theorem d9 : decode yB 9 = .ok (.return_, 1) := by decide +kernel
def site : List Cond := [New4.tab] ++ initW "java/lang/String" 27 New4.yN
def tab : Cond := tabOf yN yB 2 none site
def P (a : Addr) (D : Cell) (fV fC : Field) (b : Addr) (A : Cell) (z : Int32) (args : Array Value) (s : State) : Prop := args = #[.ref a, .ref b] ∧ Blank "java/lang/String" a D s ∧ Found "java/lang/String" "value" "[B" fV s ∧ Found "java/lang/String" "coder" "B" fC s ∧ Ch b A s ∧ StaticIs s "java/lang/String" "COMPACT_STRINGS" "Z" (.int z) ∧ ¬ z = 0 ∧ 0 < A.slots.size ∧ A.slots.size ≤ 536870912 ∧ ∀ i, i < A.slots.size → ¬ 255 < cv A i
def E (a : Addr) (D : Cell) (fV fC : Field) (A : Cell) (r : Option Value) (s u : State) : Prop := Got a D fV fC A 0 A.slots.size r s u
/-- new String(chars), not empty, no char above 255: a Latin-1 String of their low bytes -/
theorem law (l : Launch) (a : Addr) (D : Cell) (fV fC : Field) (b : Addr) (A : Cell) (z : Int32) : Law l yN 2 1 3 52 yB 2 none site (P a D fV fC b A z) (E a D fV fC A) [⟨a, fC.slot⟩, ⟨a, fV.slot⟩] 1 A.slots.size := by
  refine Law.of_walk (plainFor_of_name (by decide +kernel)) (by decide +kernel) (by decide +kernel) (by decide) (fun _ _ h => by rw [h.1]; rfl) (fun _ U U' hal hh h => ⟨h.1, h.2.1.mv hal hh, h.2.2.1.al hal, h.2.2.2.1.al hal, h.2.2.2.2.1.mv hal hh, h.2.2.2.2.2.1.there hal hh, h.2.2.2.2.2.2⟩) (fun r U U' V V' h1 hal h2 h => Got.mv r U U' V V' h1 hal h2 h) ?_
  intro p e s m args below meth c s₁ X0 hexec hbytes hml hret hlk hnm hown hh0 W hP
  obtain ⟨rfl, hB, f1, f2, hA, s1, hz, l0, l2, hp⟩ := hP
  have c1 : Steps p.tables e below (s₁.setTop (entryFrame m #[.ref a, .ref b] 2)) (s₁.setTop (mkF m 0 #[.val (.ref a), .val (.ref b)] [])) := entry rfl
  have c2 : Steps p.tables e below (s₁.setTop (entryFrame m #[.ref a, .ref b] 2)) (s₁.setTop (mkF m 6 #[.val (.ref a), .val (.ref b)] [.null, .int (Int32.ofNat A.slots.size), .int 0, .ref b, .ref a])) := c1.trans (by
    refine XS.aloadN X0.here hexec rfl (hb hbytes d0) rfl rfl ?_
    refine XS.aloadN X0.here hexec rfl (hb hbytes d1) rfl rfl ?_
    refine iconstV X0.here hexec rfl 0 (hb hbytes d2) (by decide) ?_
    refine XS.aloadN X0.here hexec rfl (hb hbytes d3) rfl rfl ?_
    refine X0.alen hexec (hA.1.mv X0.warmed.alike hh0) rfl rfl (hb hbytes d4) ?_
    refine XS.aconstNull X0.here hexec rfl (hb hbytes d5) ?_
    exact Steps.refl _)
  obtain ⟨v3, T3, X3, E3, g3⟩ := X0.callN hexec (New4.law l a D fV fC b A z 0 A.slots.size) rfl hown (wks W (initW "java/lang/String" 27 New4.yN)) (W New4.tab (by simp only [site, List.mem_cons, List.mem_append, true_or, or_true])) (W := 0) (Nat.le_of_ble_eq_true rfl) (Nat.le_of_ble_eq_true rfl) (Nat.le_refl _) (by show 0 + A.slots.size ≤ A.slots.size; omega) (g := (mkF m 6 #[.val (.ref a), .val (.ref b)] [.null, .int (Int32.ofNat A.slots.size), .int (Int32.ofNat 0), .ref b, .ref a])) rfl (by rw [hml]; rfl) c2 (argsL := [.ref b, .int (Int32.ofNat 0), .int (Int32.ofNat A.slots.size), .null]) (rest := []) rfl rfl (by show 2 * 0 + 0 ≤ _; decide) (hb hbytes d6) (⟨rfl, hB.mv X0.warmed.alike hh0, f1.al X0.warmed.alike, f2.al X0.warmed.alike, hA.mv X0.warmed.alike hh0, s1.there X0.warmed.alike hh0, hz, l0, by omega, l2, fun i hi => by rw [Nat.zero_add]; exact hp i hi⟩)
  have e0 := Got.mv _ s₁ s _ _ hh0.symm (Vm.Alike.refl _) rfl E3
  obtain rfl := e0.1
  have c4 : Steps p.tables e below (s₁.setTop (entryFrame m #[.ref a, .ref b] 2)) (T3.setTop (mkF m 9 #[.val (.ref a), .val (.ref b)] [])) := g3
  exact ⟨T3, none, _, _, _, X3, by simp, rfl, by omega, (fun _ => rfl), e0, fun fs hl => c4.trans (X3.returnOut hexec hret (hb hbytes d9) hl)⟩
theorem pays {l : Launch} {R : Room} {p : Program} {e : Env} {below : List Frame} {s : State} {sargs : Array Value} {len W : Nat} (a : Addr) (D : Cell) (fV fC : Field) (b : Addr) (A : Cell) (z : Int32) (htab : tab.before sargs s = true) (hfr : 4 ≤ R.frames) (hlo : W + 65 ≤ R.locals) :
    Back l R p e below s sargs yN len W (fun A₁ a₁ => A₁.cells + 1 ≤ R.cells ∧ A₁.slots + A.slots.size ≤ R.slots ∧ P a D fV fC b A z a₁ A₁.U) (fun A₁ _ v₁ B₁ => E a D fV fC A v₁ A₁.U B₁.U ∧ B₁.locs = A₁.locs ++ [⟨a, fC.slot⟩, ⟨a, fV.slot⟩] ∧ B₁.cells = A₁.cells + 1 ∧ B₁.slots = A₁.slots + A.slots.size) :=
  (law l a D fV fC b A z).pays htab hfr (by omega)
end New1
end StrChars
namespace StrChars.Road
open Jvm Sem ClassFile Op Lib Jvm.Stand Jvm.Free Jvm.Free.XT
open Jvm.Lib.Cold (StaticIs)
abbrev ST : String := "java/lang/String"
/-- every table word that New1's law asks, flat -/
abbrev words : List Jvm.Cond := [.code New1.yN New1.yB 2 none, .initialized ST, .methodLink ST 27 New4.yN, .instanceMethod New4.yN,
  .code New4.yN New4.yB 6 none, .fieldLink ST 38 ST "COMPACT_STRINGS" "Z", .laysFinal ST ST "value" "[B", .fieldLink ST 9 ST "value" "[B", .laysFinal ST ST "coder" "B", .fieldLink ST 15 ST "coder" "B",
  .methodLink ST 1 Lib.objectInit, .instanceMethod Lib.objectInit, .code Lib.objectInit ⟨#[0xb1]⟩ 1 none, .methodLink ST 177 Cmp3.yN, .static Cmp3.yN, .methodLink ST 47 CodL.yN, .static CodL.yN,
  .code Cmp3.yN Cmp3.yB 6 (some (.array .byte)), .initialized U16, .arrayClass .byte, .methodLink U16 115 Cmp5.yN, .static Cmp5.yN, .code Cmp5.yN Cmp5.yB 7 (some .int), .code CodL.yN CodL.yB 2 (some .byte)]
theorem tab_of {a : Array Value} {s : State} (h : ∀ w ∈ words, w.before a s = true) : New1.tab.before a s = true := by
  have h5 : Cmp5.tab.before a s = true := unparts (wk h (.code Cmp5.yN Cmp5.yB 7 (some .int))) (wks h (.initialized Cmp5.yN.cls :: Cmp5.site))
  have hc : CodL.tab.before a s = true := unparts (wk h (.code CodL.yN CodL.yB 2 (some .byte))) (wks h (.initialized CodL.yN.cls :: CodL.site))
  have q5 : ∀ w ∈ Cmp5.tab :: words, w.before a s = true := fun w hw => (List.mem_cons.mp hw).elim (fun e => e ▸ h5) (h w)
  have h3 : Cmp3.tab.before a s = true := unparts (wk q5 (.code Cmp3.yN Cmp3.yB 6 (some (.array .byte)))) (wks q5 (.initialized Cmp3.yN.cls :: Cmp3.site))
  have q3 : ∀ w ∈ Cmp3.tab :: CodL.tab :: words, w.before a s = true := fun w hw => (List.mem_cons.mp hw).elim (fun e => e ▸ h3) fun hw => (List.mem_cons.mp hw).elim (fun e => e ▸ hc) (h w)
  have h4 : New4.tab.before a s = true := unparts (wk q3 (.code New4.yN New4.yB 6 none)) (wks q3 (.initialized New4.yN.cls :: New4.site))
  have q4 : ∀ w ∈ New4.tab :: words, w.before a s = true := fun w hw => (List.mem_cons.mp hw).elim (fun e => e ▸ h4) (h w)
  exact unparts (wk q4 (.code New1.yN New1.yB 2 none)) (wks q4 (.initialized New1.yN.cls :: New1.site))
/-- the words ride from the start Z to the walk's own state -/
theorem moved {Z s : State} {a0 args : Array Value} (hZ : Z.Warmed39 s.vm) (hw : ∀ d ∈ words, d.before a0 Z = true) : ∀ d ∈ words, d.before args s = true := fun d hd => by
  have q := hw d hd
  have t : ∀ d ∈ words, d = .arrayClass .byte ∨ (d.onTables && d.keepsFace) = true := by decide +kernel
  rcases t d hd with rfl | t
  · exact RoadKit.mvA hZ q
  · exact RoadKit.mv hZ q t
/-- WHAT COMES BACK, over the tables of the start Z: h the heap at the call, h' behind it -/
def Q (Z : State) (x : Addr) (A : Cell) (h : Heap) (v : Option Value) (h' : Heap) (L : List Loc) : Prop := v = none ∧ (∀ y ∈ L, y.base = x) ∧ RoadKit.Keep h h' [x] ∧ h'.size = h.size + 1 ∧ RoadKit.Exa Z h' x ST ∧ RoadKit.Fld Z h' x ST "value" "[B" (.ref h.size) ∧ RoadKit.Fld Z h' x ST "coder" "B" (.int 0) ∧
  (∃ V : Cell, RoadKit.Arr Z h' h.size V .byte ∧ V.vm = .none ∧ Z.vm.findClass "[B" = some V.cls ∧ V.slots.size = A.slots.size ∧ ∀ j, j < A.slots.size → V.slots[j]? = some (.int (lo8 (cv A j)))) ∧
  ∀ (O n d : String) (w : Value), RoadKit.Fld Z h x O n d w → RoadKit.slotOf Z O n d ≠ RoadKit.slotOf Z ST "value" "[B" → RoadKit.slotOf Z O n d ≠ RoadKit.slotOf Z ST "coder" "B" → RoadKit.Fld Z h' x O n d w
/-- **new String(chars) AT A CALL, IN THE ROAD'S FORM**: for specialBack behind newO: x the fresh String, b the char[] with the cell A -/
theorem back {p : Program} {l : Launch} {e : Env} {R : Room} {s : State} {args : Array Value} {below : List Frame} {len W : Nat} {Z : State} {a0 : Array Value} {h : Heap} (hZ : Z.Warmed39 s.vm) (hw : ∀ d ∈ words, d.before a0 Z = true) {kI : Nat} (wi : (Jvm.Cond.instantiable ST kI).before a0 Z = true)
    {x b : Addr} {A : Cell} {z : Int32} {v0 c0 : Value} (E : RoadKit.Exa Z h x ST) (V : RoadKit.Fld Z h x ST "value" "[B" v0) (C : RoadKit.Fld Z h x ST "coder" "B" c0) (K : RoadKit.Arr Z h b A .char) (hty : Typed .char A) (S : RoadKit.Sta Z h ST "COMPACT_STRINGS" "Z" (.int z)) (hz : ¬ z = 0)
    (l0 : 0 < A.slots.size) (l2 : A.slots.size ≤ 536870912) (hp : ∀ i, i < A.slots.size → ¬ 255 < cv A i) (hfr : 4 ≤ R.frames) (hlo : W + 65 ≤ R.locals) :
    Back l R p e below s args New1.yN len W (fun P a => a = #[.ref x, .ref b] ∧ P.U.heap = h ∧ P.cells + 1 ≤ R.cells ∧ P.slots + A.slots.size ≤ R.slots)
      (fun P _ v B => ∃ L, Q Z x A h v B.U.heap L ∧ B.locs = P.locs ++ L ∧ B.cells = P.cells + 1 ∧ B.slots = P.slots + A.slots.size) := by
  intro m meth c P g ig mk a X hg hsize hdg hW hn hp'
  obtain ⟨rfl, rfl, r1, r2⟩ := hp'
  have al : Z.vm.Alike P.U.vm := hZ.alike.trans X.warmed.alike
  obtain ⟨D, cfV, kV, iV, fV, hD, gV, stV, knV, obV, asV, slV⟩ := id V
  obtain ⟨D', cfC, kC, iC, fC, hD', gC, stC, -, -, asC, slC⟩ := id C
  cases hD.symm.trans hD'
  obtain ⟨D2, kD, e1, e2, e3, e4, e5⟩ := id E
  cases hD.symm.trans e1
  obtain ⟨c2, k2, i1, i2, i3, -⟩ := Cond.instantiable_spec wi
  cases e2.symm.trans i1
  cases e3.symm.trans i2
  obtain ⟨kU, u1, u2⟩ := al.2.2 _ _ e3
  have hB : Blank ST x D P.U := ⟨hD, ⟨knV, fun q hq => by rw [hq] at obV; cases obV⟩, by rw [al.findClass]; exact e2, kU, u1, by rw [u2]; exact i3, by rw [u2]; exact e5 i3⟩
  have F1 : Found ST "value" "[B" fV P.U := ⟨SBG.found_only al ⟨cfV, kV, iV, gV⟩, stV⟩
  have F2 : Found ST "coder" "B" fC P.U := ⟨SBG.found_only al ⟨cfC, kC, iC, gC⟩, stC⟩
  have hA : Ch b A P.U := ⟨⟨K.1, State.isArrayOf_alike al K.2.1, K.2.2, by omega⟩, hty⟩
  have hS : StaticIs P.U ST "COMPACT_STRINGS" "Z" (.int z) := by
    obtain ⟨cfS, iS, kS, fS, st, cS, t1, t2, t3, t4, t5, t6, t7⟩ := S
    exact StaticIs.there (s := { Z with heap := P.U.heap }) ⟨cfS, iS, kS, fS, st, cS, t1, t2, t3, t4, t5, (fun q => by rw [q] at t6; cases t6), t7⟩ al rfl
  obtain ⟨v, B, X', ⟨⟨hv, E', V', q1, q2, q3, q4, q5, q6, q7, q8, q9, q10, q11⟩, hl, hc, hs⟩, st⟩ := New1.pays x D fV fC b A z (tab_of (moved hZ hw)) hfr hlo m meth c P g ig mk _ X hg hsize hdg hW hn ⟨r1, r2, rfl, hB, F1, F2, hA, hS, hz, l0, l2, hp⟩
  have al' : Z.vm.Alike B.U.vm := hZ.alike.trans X'.warmed.alike
  have hsz : E'.slots.size = D.slots.size := by
    obtain ⟨-, -, -, kB, w1, w2, w3⟩ := q1
    obtain ⟨kB', y1, y2⟩ := al'.2.2 _ _ e3
    rw [q2.2.1] at w1
    cases w1.symm.trans y1
    rw [w3, e5 i3, y2]
  refine ⟨v, B, X', ⟨_, ⟨hv, ?_, ⟨by omega, fun y cy hy hn' => q10 y cy (by simpa using hn') hy, fun y cy hy => ?_⟩, q11, ⟨E', _, q1.1, by rw [q2.2.1]; exact e2, by rw [q2.2.1]; exact e3, by rw [q2.1]; exact obV, fun _ => by rw [hsz]; exact e5 i3⟩,
    ⟨E', cfV, kV, iV, fV, q1.1, gV, stV, by rw [q2.1]; exact knV, by rw [q2.1]; exact obV, by rw [q2.2.1]; exact asV, q3⟩, ⟨E', cfC, kC, iC, fC, q1.1, gC, stC, by rw [q2.1]; exact knV, by rw [q2.1]; exact obV, by rw [q2.2.1]; exact asC, q4⟩,
    ⟨V', ⟨q5.1, State.isArrayOf_alike al'.symm q5.2.1, q5.2.2.1⟩, q6, by rw [← al'.findClass]; exact q7, q8, fun j hj => by have := q9 j hj; rwa [Nat.zero_add] at this⟩, fun O n d w F n1 n2 => ?_⟩, hl, hc, hs⟩, st⟩
  · intro y hy
    simp only [List.mem_cons, List.not_mem_nil, or_false] at hy
    rcases hy with rfl | rfl <;> rfl
  · by_cases q : y = x
    · subst q
      cases hD.symm.trans hy
      exact ⟨E', q1.1, q2.2.1, q2.1, hsz⟩
    · exact ⟨cy, q10 y cy q hy, rfl, rfl, rfl⟩
  · obtain ⟨D3, cf, k, i, f, g1, g2, g3, g4, g5, g6, g7⟩ := F
    cases hD.symm.trans g1
    simp only [RoadKit.slotOf, g2, gV, gC, Option.map_some, Option.getD_some] at n1 n2
    exact ⟨E', cf, k, i, f, q1.1, g2, g3, by rw [q2.1]; exact g4, by rw [q2.1]; exact g5, by rw [q2.2.1]; exact g6, by rw [q2.2.2 f.slot (by simp [n1, n2])]; exact g7⟩
end StrChars.Road
namespace StrChars.Road
open Jvm Sem ClassFile Op Lib Jvm.Stand Jvm.Free Jvm.Free.XT
/-- WHAT COMES BACK, the byte[] as a list of values -/
def QA (Z : State) (x : Addr) (zn : Int32) (cs : List Int32) (h : Heap) (v : Option Value) (h' : Heap) (L : List Loc) : Prop := v = none ∧ (∀ y ∈ L, y.base = x) ∧ RoadKit.Keep h h' [x] ∧ h'.size = h.size + 1 ∧ RoadKit.Exa Z h' x ST ∧ RoadKit.Fld Z h' x ST "value" "[B" (.ref h.size) ∧ RoadKit.Fld Z h' x ST "coder" "B" (.int 0) ∧
  (∃ kb, Z.vm.findClass "[B" = some kb ∧ RoadKit.Arv Z h' h.size kb .byte zn (cs.map fun c => .int (lo8 c)) (.int 0)) ∧
  ∀ (O n d : String) (w : Value), RoadKit.Fld Z h x O n d w → RoadKit.slotOf Z O n d ≠ RoadKit.slotOf Z ST "value" "[B" → RoadKit.slotOf Z O n d ≠ RoadKit.slotOf Z ST "coder" "B" → RoadKit.Fld Z h' x O n d w
/-- **new String(chars) AT A CALL, THE ARRAYS AS LISTS**: the char[] at b holds cs, not empty, no char above 255 -/
theorem backArv {p : Program} {l : Launch} {e : Env} {R : Room} {s : State} {args : Array Value} {below : List Frame} {len W : Nat} {Z : State} {a0 : Array Value} {h : Heap} (hZ : Z.Warmed39 s.vm) (hw : ∀ d ∈ words, d.before a0 Z = true) {kI : Nat} (wi : (Jvm.Cond.instantiable ST kI).before a0 Z = true)
    {x b : Addr} {k : ClassId} {zn z : Int32} {cs : List Int32} {dv v0 c0 : Value} (E : RoadKit.Exa Z h x ST) (V : RoadKit.Fld Z h x ST "value" "[B" v0) (C : RoadKit.Fld Z h x ST "coder" "B" c0) (K : RoadKit.Arv Z h b k .char zn (cs.map Value.int) dv) (S : RoadKit.Sta Z h ST "COMPACT_STRINGS" "Z" (.int z)) (hz : ¬ z = 0)
    (hlen : zn.toNatClampNeg = cs.length) (h0 : 0 < cs.length) (hbig : cs.length ≤ 536870912) (hall : ∀ c ∈ cs, ¬ 255 < c) (hfr : 4 ≤ R.frames) (hlo : W + 65 ≤ R.locals) :
    Back l R p e below s args New1.yN len W (fun P a => a = #[.ref x, .ref b] ∧ P.U.heap = h ∧ P.cells + 1 ≤ R.cells ∧ P.slots + cs.length ≤ R.slots)
      (fun P _ v B => ∃ L, QA Z x zn cs h v B.U.heap L ∧ B.locs = P.locs ++ L ∧ B.cells = P.cells + 1 ∧ B.slots = P.slots + cs.length) := by
  obtain ⟨A, K1, K2, K3, K4, K5, K6⟩ := K
  have e : A.slots.size = cs.length := K3.trans hlen
  have hat : ∀ (i : Nat) (hi : i < cs.length), A.slots[i]? = some (.int cs[i]) := fun i hi => by rw [K5 i (by omega)]; simp [List.getD_eq_getElem?_getD, hi]
  have hcv : ∀ (i : Nat) (hi : i < cs.length), cv A i = cs[i] := fun i hi => by unfold cv; rw [hat i hi]
  have hty : Typed .char A := fun i v hv => by
    have hi : i < A.slots.size := (Array.getElem?_eq_some_iff.mp hv).1
    have q := K5 i hi
    rw [hv] at q
    rw [Option.some.inj q]
    exact K6 i hi
  refine Back.mono (back hZ hw wi E V C K1 hty S hz (by omega) (by omega) (fun i hi => by rw [hcv i (by omega)]; exact hall _ (List.getElem_mem _)) hfr hlo) (fun P a hp => ⟨hp.1, hp.2.1, hp.2.2.1, by rw [e]; exact hp.2.2.2⟩) (fun P a v B hp hq => ?_)
  obtain ⟨L, ⟨q1, q2, q3, q4, q5, q6, q7, ⟨V', v1, v2, v3, v4, v5⟩, q9⟩, hl, hc, hs⟩ := hq
  refine ⟨L, ⟨q1, q2, q3, q4, q5, q6, q7, ⟨V'.cls, v3, V', v1, rfl, by rw [v4, e, hlen], K4, fun i hi => ?_, fun i hi => ?_⟩, q9⟩, hl, hc, by rw [hs, e]⟩
  · have hi' : i < cs.length := by omega
    rw [v5 i (by omega), hcv i hi']; simp [List.getD_eq_getElem?_getD, hi']
  · have hi' : i < cs.length := by omega
    simp only [List.getD_eq_getElem?_getD, List.getElem?_map, List.getElem?_eq_getElem hi', Option.map_some, Option.getD_some]
    exact fits_lo8 _
end StrChars.Road
namespace StrChars.Road
open Jvm Sem ClassFile Op Lib Jvm.Stand Jvm.Free Jvm.Free.XT
/-- WHAT COMES BACK, in the writer's own shape -/
def QV (Z : State) (x : Addr) (N : Int32) (bs : List Int32) (h : Heap) (n0 : Nat) (v : Option Value) (h' : Heap) (L : List Loc) : Prop := v = none ∧ RoadKit.Fr n0 L ∧ RoadKit.Keep h h' [x] ∧ RoadKit.Exa Z h' x ST ∧ RoadKit.Fld Z h' x ST "coder" "B" (.int 0) ∧
  ∃ (t : Addr) (kb : ClassId), n0 ≤ t ∧ h.size ≤ t ∧ ¬ t = x ∧ RoadKit.Fld Z h' x ST "value" "[B" (.ref t) ∧ RoadKit.Arv Z h' t kb .byte N (bs.map Value.int) (.int 0)
/-- **new String(chars) AT A CALL, FOR THE WRITER**: a char[] of n known ints, each 0 to 255 -/
theorem backV {p : Program} {l : Launch} {e : Env} {R : Room} {s : State} {args : Array Value} {below : List Frame} {len W : Nat} {Z : State} {a0 : Array Value} {h : Heap} (hZ : Z.Warmed39 s.vm) (hw : ∀ d ∈ words, d.before a0 Z = true) {kI : Nat} (wi : (Jvm.Cond.instantiable ST kI).before a0 Z = true)
    {x b : Addr} {kC : ClassId} {cs bs : List Int32} {d v0 c0 : Value} {z N : Int32} {n n0 : Nat} (hx0 : n0 ≤ x) (hh0 : n0 ≤ h.size) (E : RoadKit.Exa Z h x ST) (V : RoadKit.Fld Z h x ST "value" "[B" v0) (C : RoadKit.Fld Z h x ST "coder" "B" c0) (K : RoadKit.Arv Z h b kC .char N (cs.map Value.int) d) (S : RoadKit.Sta Z h ST "COMPACT_STRINGS" "Z" (.int z)) (hz : ¬ z = 0)
    (hn : cs.length = n) (hN : N = Int32.ofNat n) (l0 : 0 < n) (l2 : n ≤ 4000) (hp : ∀ c ∈ cs, ¬ c < 0 ∧ ¬ (255 : Int32) < c) (hb : bs = cs.map (fun c => c.toInt8.toInt32)) (hfr : 4 ≤ R.frames) (hlo : W + 65 ≤ R.locals) :
    Back l R p e below s args (⟨"java/lang/String", "<init>", "([C)V"⟩ : MethodName) len W (fun P a => a = #[.ref x, .ref b] ∧ P.U.heap = h ∧ P.cells + 1 ≤ R.cells ∧ P.slots + n ≤ R.slots)
      (fun P _ v B => ∃ L, QV Z x N bs h n0 v B.U.heap L ∧ B.locs = P.locs ++ L ∧ B.cells = P.cells + 1 ∧ B.slots = P.slots + n) := by
  subst hn hN hb
  refine Back.mono (backArv hZ hw wi E V C K S hz (n32 (by omega)) l0 (by omega) (fun c hc => (hp c hc).2) hfr hlo) (fun P a hp => hp) (fun P a v B hp hq => ?_)
  obtain ⟨L, ⟨q1, q2, q3, q4, q5, q6, q7, ⟨kb, v1, v2⟩, q9⟩, hl, hc, hs⟩ := hq
  exact ⟨L, ⟨q1, fun y hy => by rw [q2 y hy]; exact hx0, q3, q5, q7, h.size, kb, hh0, Nat.le_refl _, Nat.ne_of_gt E.lt, q6, by rw [List.map_map]; exact v2⟩, hl, hc, hs⟩
end StrChars.Road
end Jvm.Pilot.@@N@@

namespace Jvm.Pilot.@@N@@
open Jvm Jvm.ClassFile Sem Op Lib Jvm.Free Jvm.Stand Jvm.LawKit Jvm.RoadKit Bundle Jvm.Pilot.@@N@@.Jvm.D
theorem own_w (i : Nat) {d : Jvm.Cond} (h : tables_1[i]? = some d) : d ∈ tables_1 := List.mem_of_getElem? h
section Own
variable {p : Program} {l : Launch} {e : Env} {R : Room} {s : State} {m : MethodId} {args : Array Value} {below : List Frame} {meth : Method} {c : Code} {T T' : State} {locs : List Loc} {cells slots : Nat} {g g' : JFrame} {P : State → Outcome → Prop}
/-- the run that stands at the frame g over T comes to an end of which P holds -/
def own_Ends (p : Program) (e : Env) (below : List Frame) (P : State → Outcome → Prop) (T : State) (g : JFrame) : Prop := ∃ u o, Steps p.tables e below (T.setTop g) u ∧ P u o
theorem own_via (st : ∀ t, Steps p.tables e below (T'.setTop g') t → Steps p.tables e below (T.setTop g) t) (k : own_Ends p e below P T' g') : own_Ends p e below P T g := by
  obtain ⟨a, b, c, d⟩ := k
  exact ⟨a, b, st _ c, d⟩
theorem own_viaT (st : Steps p.tables e below (T.setTop g) (T'.setTop g')) (k : own_Ends p e below P T' g') : own_Ends p e below P T g := own_via (fun _ k => st.trans k) k
def own_Post (s : State) (below : List Frame) (Q : Option Value → Heap → List Loc → Prop) (C S : Nat) : State → Outcome → Prop := fun u o => u.status = .running ∧ Ended u below o ∧ ∃ v L, o = .returned v ∧ Q v u.heap L ∧ FrameEnd s o u L C S
theorem own_leave (X : Stand p l e R s m args below meth c T locs cells slots) {v : Option Value} {Q : Option Value → Heap → List Loc → Prop} {C S : Nat} (hv : meth.sig.returnType = none → v = none) (hlk : meth.locks = false)
    (hst : ∀ fs, (∀ (f : JFrame) (acts : List Action), f.method = m → f.locked = none → f.entered = [] → (doReturn e (T.setTop f) acts v).1 = T.setFrames fs) → Steps p.tables e below (T.setTop g) (T.setFrames fs))
    (hC : cells ≤ C) (hS : slots ≤ S) (hQ : Q v T.heap locs) : own_Ends p e below (own_Post s below Q C S) T g := by
  obtain ⟨fs, hr, hrun, hended, hW, hsame⟩ := X.leave (v := v) hv hlk
  exact ⟨_, _, hst fs hr, hrun, hended, v, locs, rfl, hQ, ⟨_, rfl⟩, hW, hsame.mono hC hS⟩
theorem own_retV (X : Stand p l e R s m args below meth c T locs cells slots) (hx : p.tables.exec = Jvm.exec) (hlk : meth.locks = false) {Q : Option Value → Heap → List Loc → Prop} {C S : Nat} {pc : Nat} {Ls : Array Slot} (hret : meth.sig.returnType = none) (hd : decode c.code pc = .ok (.return_, 1))
    (hC : cells ≤ C) (hS : slots ≤ S) (hQ : Q none T.heap locs) : own_Ends p e below (own_Post s below Q C S) T (mkF m pc Ls []) :=
  own_leave X (fun _ => rfl) hlk (fun fs hr => X.returnOut hx hret hd hr) hC hS hQ
theorem own_retW (X : Stand p l e R s m args below meth c T locs cells slots) (hx : p.tables.exec = Jvm.exec) (hlk : meth.locks = false) {Q : Option Value → Heap → List Loc → Prop} {C S : Nat} {pc : Nat} {Ls : Array Slot} {w : Value} {t : FieldType} {i : Instr} {rest : List Value} (hret : meth.sig.returnType = some t) (hn : narrow t w = w)
    (hi : (i = .ireturn ∧ (t = .int ∨ t = .boolean ∨ t = .byte ∨ t = .char ∨ t = .short) ∧ ∃ z, w = .int z) ∨ (i = .lreturn ∧ t = .long ∧ ∃ z, w = .long z) ∨ (i = .dreturn ∧ t = .double ∧ ∃ z, w = .double z) ∨ (i = .freturn ∧ t = .float ∧ ∃ z, w = .float z) ∨ (i = .areturn ∧ t.isReference = true ∧ w.isRef = true))
    (hd : decode c.code pc = .ok (i, 1)) (hC : cells ≤ C) (hS : slots ≤ S) (hQ : Q (some w) T.heap locs) : own_Ends p e below (own_Post s below Q C S) T (mkF m pc Ls (w :: rest)) :=
  own_leave X (fun h => by rw [hret] at h; cases h) hlk (fun fs hr => retOut X hx hret hn hi hd hr) hC hS hQ
theorem own_retN (X : Stand p l e R s m args below meth c T locs cells slots) (hx : p.tables.exec = Jvm.exec) (hlk : meth.locks = false) {Q : Option Value → Heap → List Loc → Prop} {C S : Nat} {pc : Nat} {Ls : Array Slot} {z : Int32} {t : FieldType} {rest : List Value} (hret : meth.sig.returnType = some t) (ht : t = .boolean ∨ t = .byte ∨ t = .char ∨ t = .short)
    (hd : decode c.code pc = .ok (.ireturn, 1)) (hC : cells ≤ C) (hS : slots ≤ S) (hQ : Q (some (.int (nar t z))) T.heap locs) : own_Ends p e below (own_Post s below Q C S) T (mkF m pc Ls (.int z :: rest)) :=
  own_leave X (fun h => by rw [hret] at h; cases h) hlk (fun fs hr => retN X hx hret ht hd hr) hC hS hQ
theorem own_le {Z : State} {n0 : Nat} {h : Heap} (O : Old Z n0 h) : n0 ≤ h.size := O.1 ▸ O.2.1
theorem own_same {Z : State} {a0 : Array Value} {y : MethodName} (w : (Cond.declares y).before a0 Z = true) (hnf : NotFace Z y) (hy : y.cls ≠ "java/lang/invoke/MethodHandle" ∧ y.cls ≠ "java/lang/invoke/VarHandle") : (Cond.sameMethod y.cls y.cls y.name y.desc).before a0 Z = true := by
  obtain ⟨r0, r, hn, hrm, hstR, hsigR⟩ := Cond.declares_spec w
  have h := State.methodFound?_of_named hn hy
  obtain ⟨k, hk, hi⟩ := hnf r0 hn
  have hc := findClass_of_methodNamed hn
  have hn' : Z.methodNamed? { cls := y.cls, name := y.name, desc := y.desc } = some r0 := hn
  simp [Cond.before, Cond.holds, Cond.value, h, hc, hn', hk, hi]
theorem own_decl {s : State} {args : Array Value} {y : MethodName} {bytes : ByteArray} {maxL : Nat} {ret : Option FieldType} (wi : (Cond.instanceMethod y).before args s = true) (wc : (Cond.code y bytes maxL ret).before args s = true) : (Cond.declares y).before args s = true := by
  obtain ⟨mk, methM, hnamed, hmethM, hst, habM⟩ := Cond.instanceMethod_spec wi
  obtain ⟨m2, cM, q1, -, -, -, -, -, -, hsig⟩ := Cond.code_spec hnamed wc
  cases hmethM.symm.trans q1
  simp [Cond.before, Cond.holds, Cond.value, hnamed, hmethM, hst, hsig]
theorem own_nf {s : State} {args : Array Value} {C : String} {y z : MethodName} (w : (Cond.selects C z z).before args s = true) (e : z.cls = y.cls) : NotFace s y := fun r0 h0 => by
  obtain ⟨c2, r2, m2, q1, q2, q3, q4, kP, hkP, hkPi⟩ := Cond.selects_spec w
  have h1 := findClass_of_methodNamed h0
  have h2 := findClass_of_methodNamed q3
  rw [e] at h2
  have e2 : r0.cls = m2.cls := Option.some.inj (h1.symm.trans h2)
  exact ⟨kP, by rw [e2]; exact hkP, hkPi⟩
theorem own_shr0 (x : Int32) : x >>> ((0 : Int32) &&& 31) = x := by
  have h := c_ishr x 0 0 (by decide)
  apply Int32.toInt_inj.mp
  rw [h]; simp
theorem own_shl0 (x : Int32) : x <<< ((0 : Int32) &&& 31) = x := by
  have h := c_ishl x 0 0 (by decide)
  have r1 := rng32 x
  have r2 := rng32 (x <<< ((0 : Int32) &&& 31))
  apply Int32.toInt_inj.mp
  rw [show ((2 ^ 0 : Nat) : Int) = 1 from rfl, Int.mul_one] at h
  omega
theorem own_and3 (x : Int32) : x &&& 3 = 0 ∨ x &&& 3 = 1 ∨ x &&& 3 = 2 ∨ x &&& 3 = 3 := by
  have h := c_mask x 3 2 (by decide) (by decide)
  have e0 : (0 : Int32).toInt = 0 := by decide
  have e1 : (1 : Int32).toInt = 1 := by decide
  have e2 : (2 : Int32).toInt = 2 := by decide
  have e3 : (3 : Int32).toInt = 3 := by decide
  simp only [← Int32.toInt_inj]
  simp at h
  omega
theorem own_rb (x : Int32) : ((((x &&& 255).toInt8.toInt32) &&& 255).toUInt32.toUInt16.toUInt32.toInt32) = x &&& 255 := by
  rw [i2c_mask]
  have h1 := c_mask x 255 8 (by decide) (by decide)
  have h2 := c_mask ((x &&& 255).toInt8.toInt32) 255 8 (by decide) (by decide)
  have h3 := c_i2b (x &&& 255)
  apply Int32.toInt_inj.mp
  rw [show ((2 ^ 8 : Nat) : Int) = 256 from rfl] at h1 h2
  omega
theorem own_suff {T' : State} {g' : JFrame} (k : own_Ends p e below P T' g' → own_Ends p e below P T g) (h : own_Ends p e below P T' g') : own_Ends p e below P T g := k h
theorem own_nb0 : nar .boolean 0 = 0 := rfl
theorem own_nb1 : nar .boolean 1 = 1 := rfl
theorem own_nb {b : Int32} (h : b = 0 ∨ b = 1) : nar .boolean b = b := by rcases h with rfl | rfl <;> rfl
end Own
abbrev own_y0 : MethodName := ⟨"java/lang/String", "coder", "()B"⟩
abbrev own_y1 : MethodName := ⟨"jdk/internal/util/Preconditions", "checkIndex", "(IILjava/util/function/BiFunction;)I"⟩
abbrev own_y2 : MethodName := ⟨"java/lang/String", "checkIndex", "(II)V"⟩
abbrev own_y3 : MethodName := ⟨"java/lang/String", "isLatin1", "()Z"⟩
abbrev own_y4 : MethodName := ⟨"java/lang/StringLatin1", "charAt", "([BI)C"⟩
abbrev own_y5 : MethodName := ⟨"java/lang/Math", "min", "(II)I"⟩
abbrev own_y6 : MethodName := ⟨"java/lang/String", "length", "()I"⟩
abbrev own_y7 : MethodName := ⟨"java/lang/String", "charAt", "(I)C"⟩
abbrev own_y8 : MethodName := ⟨"com/example/rows_to_regions/rowstoregions/KeyText", "hexDigit", "(C)I"⟩
abbrev own_y9 : MethodName := ⟨"java/util/Arrays", "copyOf", "([BI)[B"⟩
abbrev own_y10 : MethodName := ⟨"com/example/rows_to_regions/rowstoregions/KeyText", "escapedByte", "(Ljava/lang/String;I)I"⟩
abbrev own_y11 : MethodName := ⟨"com/example/rows_to_regions/rowstoregions/KeyTextUnescapePinLaw", "printable", "(I)C"⟩
abbrev own_y12 : MethodName := ⟨"com/example/rows_to_regions/rowstoregions/KeyTextUnescapePinLaw", "hex", "(I)C"⟩
abbrev own_y13 : MethodName := ⟨"java/lang/String", "<init>", "([CIILjava/lang/Void;)V"⟩
abbrev own_y14 : MethodName := ⟨"com/example/rows_to_regions/rowstoregions/KeyTextUnescapePinLaw", "width", "(ZZ)I"⟩
abbrev own_y15 : MethodName := ⟨"com/example/rows_to_regions/rowstoregions/KeyTextUnescapePinLaw", "put", "([CIZZI)I"⟩
abbrev own_y16 : MethodName := ⟨"java/lang/String", "<init>", "([C)V"⟩
abbrev own_y17 : MethodName := ⟨"com/example/rows_to_regions/rowstoregions/KeyText", "unescape", "(Ljava/lang/String;)[B"⟩
abbrev own_y18 : MethodName := ⟨"com/example/rows_to_regions/rowstoregions/KeyTextUnescapePinLaw", "expected", "(ZI)B"⟩
abbrev own_A0 (x0 : Int32) (x1 : Int32) (x2 : Int32) (x3 : Int32) (x4 : Int32) (x5 : Int32) (x6 : Int32) (x7 : Int32) (x8 : Int32) (x9 : Int32) (x10 : Int32) (x11 : Int32) (x12 : Addr) (x13 : Int32) (x14 : Addr) : Array Slot := #[.val (.int x0), .val (.int x1), .val (.int x2), .val (.int x3), .val (.int x4), .val (.int x5), .val (.int x6), .val (.int x7), .val (.int x8), .val (.int x9), .val (.int x10), .val (.int x11), .val (.ref x12), .val (.int x13), .val (.ref x14)]
abbrev own_A1 (x0 : Int32) (x1 : Int32) (x2 : Int32) (x3 : Int32) (x4 : Int32) (x5 : Int32) (x6 : Int32) (x7 : Int32) (x8 : Int32) (x9 : Int32) (x10 : Int32) (x11 : Int32) (x12 : Addr) (x13 : Int32) : Array Slot := #[.val (.int x0), .val (.int x1), .val (.int x2), .val (.int x3), .val (.int x4), .val (.int x5), .val (.int x6), .val (.int x7), .val (.int x8), .val (.int x9), .val (.int x10), .val (.int x11), .val (.ref x12), .val (.int x13), .unset]
abbrev own_A2 (x0 : Int32) (x1 : Int32) (x2 : Int32) (x3 : Int32) (x4 : Int32) (x5 : Int32) (x6 : Int32) (x7 : Int32) (x8 : Int32) (x9 : Int32) (x10 : Int32) (x11 : Int32) (x12 : Addr) : Array Slot := #[.val (.int x0), .val (.int x1), .val (.int x2), .val (.int x3), .val (.int x4), .val (.int x5), .val (.int x6), .val (.int x7), .val (.int x8), .val (.int x9), .val (.int x10), .val (.int x11), .val (.ref x12), .unset, .unset]
abbrev own_A3 (x0 : Int32) (x1 : Int32) (x2 : Int32) (x3 : Int32) (x4 : Int32) (x5 : Int32) (x6 : Int32) (x7 : Int32) (x8 : Int32) (x9 : Int32) (x10 : Int32) (x11 : Int32) : Array Slot := #[.val (.int x0), .val (.int x1), .val (.int x2), .val (.int x3), .val (.int x4), .val (.int x5), .val (.int x6), .val (.int x7), .val (.int x8), .val (.int x9), .val (.int x10), .val (.int x11), .unset, .unset, .unset]
abbrev own_A4 (x0 : Int32) (x1 : Int32) (x2 : Int32) (x3 : Int32) (x4 : Int32) (x5 : Int32) (x6 : Int32) (x7 : Int32) (x8 : Int32) (x9 : Int32) (x10 : Int32) : Array Slot := #[.val (.int x0), .val (.int x1), .val (.int x2), .val (.int x3), .val (.int x4), .val (.int x5), .val (.int x6), .val (.int x7), .val (.int x8), .val (.int x9), .val (.int x10), .unset, .unset, .unset, .unset]
abbrev own_A5 (x0 : Int32) (x1 : Int32) (x2 : Int32) (x3 : Int32) (x4 : Int32) (x5 : Int32) (x6 : Int32) (x7 : Int32) (x8 : Int32) : Array Slot := #[.val (.int x0), .val (.int x1), .val (.int x2), .val (.int x3), .val (.int x4), .val (.int x5), .val (.int x6), .val (.int x7), .val (.int x8), .unset, .unset, .unset, .unset, .unset, .unset]
abbrev own_A6 (x0 : Int32) (x1 : Int32) (x2 : Int32) (x3 : Int32) (x4 : Int32) (x5 : Int32) (x6 : Int32) : Array Slot := #[.val (.int x0), .val (.int x1), .val (.int x2), .val (.int x3), .val (.int x4), .val (.int x5), .val (.int x6), .unset, .unset, .unset, .unset, .unset, .unset, .unset, .unset]
abbrev own_A7 (x0 : Int32) (x1 : Int32) (x2 : Int32) (x3 : Int32) (x4 : Int32) (x5 : Int32) : Array Slot := #[.val (.int x0), .val (.int x1), .val (.int x2), .val (.int x3), .val (.int x4), .val (.int x5), .unset, .unset, .unset, .unset, .unset, .unset, .unset, .unset, .unset]
abbrev own_A8 (x0 : Addr) (x1 : Addr) (x2 : Int32) (x3 : Int32) (x4 : Int32) (x5 : Int32) : Array Slot := #[.val (.ref x0), .val (.ref x1), .val (.int x2), .val (.int x3), .val (.int x4), .val (.int x5)]
abbrev own_A9 (x0 : Int32) (x1 : Int32) (x2 : Int32) (x3 : Int32) (x4 : Int32) : Array Slot := #[.val (.int x0), .val (.int x1), .val (.int x2), .val (.int x3), .val (.int x4), .unset, .unset, .unset, .unset, .unset, .unset, .unset, .unset, .unset, .unset]
abbrev own_A10 (x0 : Addr) (x1 : Addr) (x2 : Int32) (x3 : Int32) (x4 : Int32) : Array Slot := #[.val (.ref x0), .val (.ref x1), .val (.int x2), .val (.int x3), .val (.int x4), .unset]
abbrev own_A11 (x0 : Addr) (x1 : Int32) (x2 : Int32) (x3 : Int32) (x4 : Int32) (x5 : Int32) : Array Slot := #[.val (.ref x0), .val (.int x1), .val (.int x2), .val (.int x3), .val (.int x4), .val (.int x5)]
abbrev own_A12 (x0 : Addr) (x1 : Int32) (x2 : Int32) (x3 : Int32) : Array Slot := #[.val (.ref x0), .val (.int x1), .val (.int x2), .val (.int x3)]
abbrev own_A13 (x0 : Addr) (x1 : Int32) (x2 : Int32) (x3 : Int32) (x4 : Int32) : Array Slot := #[.val (.ref x0), .val (.int x1), .val (.int x2), .val (.int x3), .val (.int x4), .unset]
abbrev own_A14 (x0 : Addr) (x1 : Addr) (x2 : Int32) (x3 : Int32) : Array Slot := #[.val (.ref x0), .val (.ref x1), .val (.int x2), .val (.int x3), .val .null, .unset]
abbrev own_A15 (x0 : Addr) (x1 : Addr) (x2 : Int32) (x3 : Int32) : Array Slot := #[.val (.ref x0), .val (.ref x1), .val (.int x2), .val (.int x3), .unset, .unset]
abbrev own_A16 (x0 : Addr) (x1 : Int32) (x2 : Int32) : Array Slot := #[.val (.ref x0), .val (.int x1), .val (.int x2), .unset]
abbrev own_A17 (x0 : Addr) (x1 : Addr) (x2 : Int32) : Array Slot := #[.val (.ref x0), .val (.ref x1), .val (.int x2), .unset, .unset, .unset]
abbrev own_A18 (x0 : Addr) (x1 : Addr) : Array Slot := #[.val (.ref x0), .val (.ref x1), .unset, .unset, .unset, .unset]
abbrev own_A19 (x0 : Addr) : Array Slot := #[.val (.ref x0), .unset, .unset, .unset, .unset, .unset]
abbrev own_A20 (x0 : Addr) (x1 : Int32) (x2 : Addr) : Array Slot := #[.val (.ref x0), .val (.int x1), .val (.ref x2)]
abbrev own_A21 (x0 : Addr) (x1 : Int32) : Array Slot := #[.val (.ref x0), .val (.int x1), .unset, .unset]
abbrev own_A22 (x0 : Addr) (x1 : Int32) : Array Slot := #[.val (.ref x0), .val (.int x1), .unset]
theorem own_pd0 : parseMethodDescriptor "()B" = some ⟨[], some .byte⟩ := by decide +kernel
theorem own_pd1 : parseMethodDescriptor "(IILjava/util/function/BiFunction;)I" = some ⟨[.int, .int, (.object "java/util/function/BiFunction")], some .int⟩ := by decide +kernel
theorem own_pd2 : parseMethodDescriptor "(II)V" = some ⟨[.int, .int], none⟩ := by decide +kernel
theorem own_pd3 : parseMethodDescriptor "()Z" = some ⟨[], some .boolean⟩ := by decide +kernel
theorem own_pd4 : parseMethodDescriptor "([BI)C" = some ⟨[(.array .byte), .int], some .char⟩ := by decide +kernel
theorem own_pd5 : parseMethodDescriptor "(II)I" = some ⟨[.int, .int], some .int⟩ := by decide +kernel
theorem own_pd6 : parseMethodDescriptor "()I" = some ⟨[], some .int⟩ := by decide +kernel
theorem own_pd7 : parseMethodDescriptor "(I)C" = some ⟨[.int], some .char⟩ := by decide +kernel
theorem own_pd8 : parseMethodDescriptor "(C)I" = some ⟨[.char], some .int⟩ := by decide +kernel
theorem own_pd9 : parseMethodDescriptor "([BI)[B" = some ⟨[(.array .byte), .int], some (.array .byte)⟩ := by decide +kernel
theorem own_pd10 : parseMethodDescriptor "(Ljava/lang/String;I)I" = some ⟨[(.object "java/lang/String"), .int], some .int⟩ := by decide +kernel
theorem own_pd11 : parseMethodDescriptor "([CIILjava/lang/Void;)V" = some ⟨[(.array .char), .int, .int, (.object "java/lang/Void")], none⟩ := by decide +kernel
theorem own_pd12 : parseMethodDescriptor "(ZZ)I" = some ⟨[.boolean, .boolean], some .int⟩ := by decide +kernel
theorem own_pd13 : parseMethodDescriptor "([CIZZI)I" = some ⟨[(.array .char), .int, .boolean, .boolean, .int], some .int⟩ := by decide +kernel
theorem own_pd14 : parseMethodDescriptor "([C)V" = some ⟨[(.array .char)], none⟩ := by decide +kernel
theorem own_pd15 : parseMethodDescriptor "(Ljava/lang/String;)[B" = some ⟨[(.object "java/lang/String")], some (.array .byte)⟩ := by decide +kernel
theorem own_pd16 : parseMethodDescriptor "(ZI)B" = some ⟨[.boolean, .int], some .byte⟩ := by decide +kernel
section OwnWords
variable {args : Array Value} {first s : State} {o : Option Outcome} {idx : List Nat}
theorem own_eqI {a : Term} {k : Int32} (h : (Cond.eq a (.int k)).value args first o s idx = some true) : a.eval args first o idx s = some (.int k) := by
  simp only [Cond.value, Term.eval] at h
  cases ha : a.eval args first o idx s with
  | none => simp [ha] at h
  | some x => cases x <;> simp [ha] at h ⊢ <;> exact h
theorem own_eqR {a b : Term} {y : Addr} (h : (Cond.eq a b).value args first o s idx = some true) (hb : b.eval args first o idx s = some (.ref y)) : a.eval args first o idx s = some (.ref y) := by
  simp only [Cond.value, hb] at h
  cases ha : a.eval args first o idx s with
  | none => simp [ha] at h
  | some x => cases x <;> simp [ha] at h ⊢ <;> exact h
end OwnWords

theorem own_st255 {c : Int32} (h0 : 0 ≤ c.toInt) (h1 : c.toInt < 256) : (((c.toInt8.toInt32).toInt8.toInt32) &&& (255 : Int32)) = c := by
  have q1 := c_i2b c
  have q2 := c_i2b (c.toInt8.toInt32)
  have q3 := c_mask ((c.toInt8.toInt32).toInt8.toInt32) 255 8 (by decide) (by decide)
  rw [show ((2 ^ 8 : Nat) : Int) = 256 from rfl] at q3
  apply Int32.toInt_inj.mp
  omega
theorem own_v255 (x : Int32) : 0 ≤ (x &&& (255 : Int32)).toInt ∧ (x &&& (255 : Int32)).toInt < 256 := by
  have q3 := c_mask x 255 8 (by decide) (by decide)
  rw [show ((2 ^ 8 : Nat) : Int) = 256 from rfl] at q3
  omega
theorem own_le255 {c : Int32} (h1 : c.toInt < 256) : ¬ (255 : Int32) < c := by
  rw [Int32.lt_iff_toInt_lt]
  have : (255 : Int32).toInt = 255 := by decide
  omega
def own_hx (d : Int32) : Int32 := if d < 10 then 48 + d else 65 + (d - 10)
theorem own_hxI {d : Int32} (h0 : 0 ≤ d.toInt) (h1 : d.toInt < 16) : (own_hx d).toInt = if d.toInt < 10 then 48 + d.toInt else 55 + d.toInt := by
  have e10 : (10 : Int32).toInt = 10 := by decide
  have e48 : (48 : Int32).toInt = 48 := by decide
  have e65 : (65 : Int32).toInt = 65 := by decide
  unfold own_hx
  by_cases h : d < 10
  · rw [if_pos h]
    rw [Int32.lt_iff_toInt_lt, e10] at h
    rw [if_pos h]
    have q := c_iadd 48 d
    have r := rng32 (48 + d)
    omega
  · rw [if_neg h]
    rw [Int32.lt_iff_toInt_lt, e10] at h
    rw [if_neg h]
    have q := c_isub d 10
    have r := rng32 (d - 10)
    have q2 := c_iadd 65 (d - 10)
    have r2 := rng32 (65 + (d - 10))
    omega
theorem own_hxB {d : Int32} (h0 : 0 ≤ d.toInt) (h1 : d.toInt < 16) : 0 ≤ (own_hx d).toInt ∧ (own_hx d).toInt < 256 := by
  rw [own_hxI h0 h1]
  split <;> omega
theorem own_i2cS {c : Int32} (h0 : 0 ≤ c.toInt) (h1 : c.toInt < 65536) : c.toUInt32.toUInt16.toUInt32.toInt32 = c := by
  have q := c_i2c c
  apply Int32.toInt_inj.mp
  omega
theorem own_hi {v : Int32} (h0 : 0 ≤ v.toInt) (h1 : v.toInt < 256) : ((v.toUInt32 >>> ((4 : Int32) &&& 31).toUInt32).toInt32) = v / (16 : Int32) ∧ 0 ≤ (v / (16 : Int32)).toInt ∧ (v / (16 : Int32)).toInt < 16 := by
  have q := c_iushr v 4 4 (by decide) (by decide)
  rw [show ((2 ^ 4 : Nat) : Int) = 16 from rfl] at q
  have q2 := (c_idiv v 16 16 (by decide) (by decide)).1 h0
  refine ⟨?_, by omega, by omega⟩
  apply Int32.toInt_inj.mp
  omega
theorem own_lo {v : Int32} (h0 : 0 ≤ v.toInt) (h1 : v.toInt < 256) : (v &&& (15 : Int32)) = v % (16 : Int32) ∧ 0 ≤ (v % (16 : Int32)).toInt ∧ (v % (16 : Int32)).toInt < 16 := by
  have q := c_mask v 15 4 (by decide) (by decide)
  rw [show ((2 ^ 4 : Nat) : Int) = 16 from rfl] at q
  have q2 := (c_irem v 16 16 (by decide)).1 h0
  refine ⟨?_, by omega, by omega⟩
  apply Int32.toInt_inj.mp
  omega
theorem own_in16 {d : Int32} (h0 : 0 ≤ d.toInt) (h1 : d.toInt < 16) : ¬ d < 0 ∧ d < 16 := by
  have e0 : (0 : Int32).toInt = 0 := by decide
  have e16 : (16 : Int32).toInt = 16 := by decide
  rw [Int32.lt_iff_toInt_lt, Int32.lt_iff_toInt_lt]
  omega
theorem own_rangeMap (vs : List Value) (d : Value) : (List.range vs.length).map (fun i => vs.getD (0 + i) d) = vs := by
  apply List.ext_getElem
  · simp
  · intro i h1 h2
    simp at h1 h2 ⊢
    simp [h2]
theorem own_rangeTake (vs : List Value) (d : Value) (n : Nat) (h : n ≤ vs.length) : (List.range n).map (fun i => vs.getD (0 + i) d) = vs.take n := by
  apply List.ext_getElem
  · simp [h]
  · intro i h1 h2
    simp at h1 h2 ⊢
    have : i < vs.length := by omega
    simp [this]

theorem own_dom1 {D : List Int32} {P : Int32 → Prop} (h : ∀ q ∈ D, P q) {z : Int32} (hz : z ∈ D) : P z := h _ hz
theorem own_dom2 {D : List (Int32 × Int32)} {P : Int32 → Int32 → Prop} (h : ∀ q ∈ D, P q.1 q.2) {n z : Int32} (hz : (n, z) ∈ D) : P n z := h _ hz
theorem own_setEnd {cs : List Value} {n : Nat} {v d : Value} (hl : cs.length = n) : (cs ++ List.replicate 1 d).set n v = cs ++ [v] := by
  subst hl
  simp [List.set_append]
theorem own_cpy (cs : List Value) (k : Nat) (hl : cs.length = k) (d : Value) : ((List.replicate k d).take 0 ++ (List.range k).map (fun i => cs.getD (0 + i) d) ++ (List.replicate k d).drop (0 + k)) = cs := by
  subst hl
  rw [own_rangeMap]
  simp

section OwnWide
variable {p : Program} {l : Launch} {e : Env} {R : Room} {s : State} {vm0 vm1 : Vm} {m : MethodId} {args : Array Value} {below : List Frame} {meth : Method} {c : Code} {T : State} {locs : List Loc} {cells slots : Nat} {g : JFrame} {Z : State} {EL : List (String × Nat)} {h h0 : Heap} {vm : Vm}
def own_PostW (s : State) (below : List Frame) (Q : Option Value → Heap → List Loc → Prop) (R' : State → Prop) (C S : Nat) : State → Outcome → Prop := fun u o => u.status = .running ∧ Ended u below o ∧ ∃ v L, o = .returned v ∧ Q v u.heap L ∧ R' u ∧ ReturnedEndW s o u L C S
theorem own_leaveW (X : Stand p l e R (s.setVm vm0) m args below meth c T locs cells slots) {n : Nat} (hS : s.Since vm0 n) (hn : n ≤ T.heap.size) {v : Option Value} {Q : Option Value → Heap → List Loc → Prop} {R' : State → Prop} {C S : Nat} (hv : meth.sig.returnType = none → v = none) (hlk : meth.locks = false)
    (hst : ∀ fs, (∀ (f : JFrame) (acts : List Action), f.method = m → f.locked = none → f.entered = [] → (doReturn e (T.setTop f) acts v).1 = T.setFrames fs) → Steps p.tables e below (T.setTop g) (T.setFrames fs))
    (hC : cells ≤ C) (hSl : slots ≤ S) (hR : ∀ fs, R' (T.setFrames fs)) (hQ : Q v T.heap locs) : own_Ends p e below (own_PostW s below Q R' C S) T g := by
  obtain ⟨fs, hr, hrun, hended, h1, h2, h3, h4⟩ := X.leaveW hS hn (v := v) hv hlk
  exact ⟨_, _, hst fs hr, hrun, hended, v, locs, rfl, hQ, hR fs, ⟨_, rfl⟩, h2, h3, h4.mono hC hSl⟩
theorem own_retVW (X : Stand p l e R (s.setVm vm0) m args below meth c T locs cells slots) {n : Nat} (hS : s.Since vm0 n) (hn : n ≤ T.heap.size) (hx : p.tables.exec = Jvm.exec) (hlk : meth.locks = false) {Q : Option Value → Heap → List Loc → Prop} {R' : State → Prop} {C S : Nat} {pc : Nat} {Ls : Array Slot} (hret : meth.sig.returnType = none) (hd : decode c.code pc = .ok (.return_, 1))
    (hC : cells ≤ C) (hSl : slots ≤ S) (hR : ∀ fs, R' (T.setFrames fs)) (hQ : Q none T.heap locs) : own_Ends p e below (own_PostW s below Q R' C S) T (mkF m pc Ls []) :=
  own_leaveW X hS hn (fun _ => rfl) hlk (fun fs hr => X.returnOut hx hret hd hr) hC hSl hR hQ
theorem own_retWW (X : Stand p l e R (s.setVm vm0) m args below meth c T locs cells slots) {n : Nat} (hS : s.Since vm0 n) (hn : n ≤ T.heap.size) (hx : p.tables.exec = Jvm.exec) (hlk : meth.locks = false) {Q : Option Value → Heap → List Loc → Prop} {R' : State → Prop} {C S : Nat} {pc : Nat} {Ls : Array Slot} {w : Value} {t : FieldType} {i : Instr} {rest : List Value} (hret : meth.sig.returnType = some t) (hn' : narrow t w = w)
    (hi : (i = .ireturn ∧ (t = .int ∨ t = .boolean ∨ t = .byte ∨ t = .char ∨ t = .short) ∧ ∃ z, w = .int z) ∨ (i = .lreturn ∧ t = .long ∧ ∃ z, w = .long z) ∨ (i = .dreturn ∧ t = .double ∧ ∃ z, w = .double z) ∨ (i = .freturn ∧ t = .float ∧ ∃ z, w = .float z) ∨ (i = .areturn ∧ t.isReference = true ∧ w.isRef = true))
    (hd : decode c.code pc = .ok (i, 1)) (hC : cells ≤ C) (hSl : slots ≤ S) (hR : ∀ fs, R' (T.setFrames fs)) (hQ : Q (some w) T.heap locs) : own_Ends p e below (own_PostW s below Q R' C S) T (mkF m pc Ls (w :: rest)) :=
  own_leaveW X hS hn (fun h => by rw [hret] at h; cases h) hlk (fun fs hr => retOut X hx hret hn' hi hd hr) hC hSl hR hQ
theorem own_retNW (X : Stand p l e R (s.setVm vm0) m args below meth c T locs cells slots) {n : Nat} (hS : s.Since vm0 n) (hn : n ≤ T.heap.size) (hx : p.tables.exec = Jvm.exec) (hlk : meth.locks = false) {Q : Option Value → Heap → List Loc → Prop} {R' : State → Prop} {C S : Nat} {pc : Nat} {Ls : Array Slot} {z : Int32} {t : FieldType} {rest : List Value} (hret : meth.sig.returnType = some t) (ht : t = .boolean ∨ t = .byte ∨ t = .char ∨ t = .short)
    (hd : decode c.code pc = .ok (.ireturn, 1)) (hC : cells ≤ C) (hSl : slots ≤ S) (hR : ∀ fs, R' (T.setFrames fs)) (hQ : Q (some (.int (nar t z))) T.heap locs) : own_Ends p e below (own_PostW s below Q R' C S) T (mkF m pc Ls (.int z :: rest)) :=
  own_leaveW X hS hn (fun h => by rw [hret] at h; cases h) hlk (fun fs hr => retN X hx hret ht hd hr) hC hSl hR hQ
/-- the stand over the start's own tables, in the wide form -/
theorem own_base (X : Stand p l e R s m args below meth c T locs cells slots) : Stand p l e R (s.setVm s.vm) m args below meth c T locs cells slots := X
theorem own_reZ {n : Nat} (hZ : Z.Warmed39 (s.setVm vm0).vm) (hS : (s.setVm vm0).Since vm1 n) : Z.Warmed39 (s.setVm vm1).vm := State.Warmed39.trans (t := s.setVm vm0) hZ hS.1
theorem own_reown {n : Nat} {C : String} {k : ClassId} (hown : (s.setVm vm0).vm.findClass C = some k) (hS : (s.setVm vm0).Since vm1 n) : (s.setVm vm1).vm.findClass C = some k := by
  rw [show (s.setVm vm1).vm = vm1 from rfl, hS.1.alike.findClass]; exact hown
theorem own_reS {n0 n1 : Nat} (hS0 : s.Since vm0 n0) (hS : (s.setVm vm0).Since vm1 n1) (h : n0 ≤ n1) : s.Since vm1 n1 := hS0.trans hS h
theorem own_since0 (X : Stand p l e R s m args below meth c T locs cells slots) (n : Nat) : s.Since s.vm n := (State.WarmedH.refl s).since n
theorem own_safeNull {x : Addr} (hal : Z.vm.Alike vm) (E : Exa Z h x "java/lang/String") (F : Fld Z h x "java/lang/String" "value" "[B" .null) : Safe Z EL vm h x := fun B => by
  obtain ⟨p, -, u, a, -, q, -, G, rfl | rfl⟩ := B
  · obtain ⟨cS, ⟨⟨s1, s2, s3, ⟨cv, kv, iv, s4, s4'⟩, -, s6, -, s8, -⟩, -⟩, -⟩ := G
    obtain ⟨kv', z4⟩ := ff_back (U := Wst Z vm h) hal s4
    have FF : Fld Z h q.sa "java/lang/String" "value" "[B" (.ref q.sd) := ⟨q.sC, cv, kv', iv, q.fSV, s1, z4, s6, s2, s3, by rw [← hal.assignable]; exact s4', s8⟩
    exact Fld.ne F FF nofun rfl
  · obtain ⟨cell, k, e1, e2, -⟩ := E
    cases (show h[q.sd]? = some q.SA from G.hd).symm.trans e1
    obtain ⟨cS, -, -, f, -⟩ := G
    have f : vm.findClass "[B" = some q.SA.cls := f
    rw [hal.findClass] at f
    obtain ⟨k1, q1, q2⟩ := Vm.findClass_spec f
    obtain ⟨k2, q3, q4⟩ := Vm.findClass_spec e2
    cases q1.symm.trans q3
    exact absurd (q2.symm.trans q4) (by decide)
end OwnWide
theorem own_wrSz {h h' : Heap} {a : Addr} {sl : Nat} {v : Value} (W : Wr h h' a sl v) : h.size ≤ h'.size := by obtain ⟨c0, -, -, -, rfl⟩ := W; simp

abbrev own_b8 (c : Int32) : Int32 := c.toInt8.toInt32
theorem own_b255 {c : Int32} (h0 : 0 ≤ c.toInt) (h1 : c.toInt < 256) : ((own_b8 c) &&& (255 : Int32)) = c := by
  have q1 := c_i2b c
  have q3 := c_mask (c.toInt8.toInt32) 255 8 (by decide) (by decide)
  rw [show ((2 ^ 8 : Nat) : Int) = 256 from rfl] at q3
  apply Int32.toInt_inj.mp
  show ((c.toInt8.toInt32) &&& (255 : Int32)).toInt = _
  omega
def own_pr0 (p : Int32) : Int32 := (32 : Int32) + ((p &&& (2147483647 : Int32)) % (94 : Int32))
def own_pr (p : Int32) : Int32 := if own_pr0 p < (92 : Int32) then own_pr0 p else own_pr0 p + (1 : Int32)
theorem own_pr0B (p : Int32) : 32 ≤ (own_pr0 p).toInt ∧ (own_pr0 p).toInt ≤ 125 := by
  have q := c_mask p 2147483647 31 (by decide) (by decide)
  rw [show ((2 ^ 31 : Nat) : Int) = 2147483648 from rfl] at q
  have q2 := (c_irem (p &&& (2147483647 : Int32)) 94 94 (by decide)).1 (by omega)
  have q3 := c_iadd 32 ((p &&& (2147483647 : Int32)) % (94 : Int32))
  have r := rng32 ((32 : Int32) + ((p &&& (2147483647 : Int32)) % (94 : Int32)))
  have e : (32 : Int32).toInt = 32 := by decide
  unfold own_pr0
  omega
theorem own_prB (p : Int32) : 32 ≤ (own_pr p).toInt ∧ (own_pr p).toInt ≤ 126 ∧ ¬ (own_pr p).toInt = 92 := by
  have b := own_pr0B p
  have e : (92 : Int32).toInt = 92 := by decide
  unfold own_pr
  by_cases h : own_pr0 p < (92 : Int32)
  · rw [if_pos h]
    rw [Int32.lt_iff_toInt_lt] at h
    omega
  · rw [if_neg h]
    rw [Int32.lt_iff_toInt_lt] at h
    have q3 := c_iadd (own_pr0 p) 1
    have r := rng32 (own_pr0 p + (1 : Int32))
    have e1 : (1 : Int32).toInt = 1 := by decide
    omega
theorem own_prP (p : Int32) : ¬ own_pr p = (92 : Int32) ∧ ¬ own_pr p < (32 : Int32) ∧ ¬ (126 : Int32) < own_pr p := by
  have b := own_prB p
  have e : (92 : Int32).toInt = 92 := by decide
  have e1 : (32 : Int32).toInt = 32 := by decide
  have e2 : (126 : Int32).toInt = 126 := by decide
  refine ⟨fun q => by rw [q] at b; omega, ?_, ?_⟩ <;> rw [Int32.lt_iff_toInt_lt] <;> omega
theorem own_narc {c : Int32} (h0 : 0 ≤ c.toInt) (h1 : c.toInt < 65536) : nar .char c = c := own_i2cS h0 h1
theorem own_hx2 (d : Int32) : ((65 : Int32) + d) - (10 : Int32) = (65 : Int32) + (d - (10 : Int32)) := by
  rw [Int32.sub_eq_add_neg, Int32.sub_eq_add_neg, Int32.add_assoc]
abbrev own_L16 : List Int32 := [0, 1, 2, 3, 4, 5, 6, 7, 8, 9, 10, 11, 12, 13, 14, 15]
theorem own_16 {d : Int32} (h0 : 0 ≤ d.toInt) (h1 : d.toInt < 16) : d ∈ own_L16 := by
  have h : ∀ k : Int, d.toInt = k → d = Int32.ofInt k := fun k e => by rw [← e]; simp
  have hk : d.toInt = 0 ∨ d.toInt = 1 ∨ d.toInt = 2 ∨ d.toInt = 3 ∨ d.toInt = 4 ∨ d.toInt = 5 ∨ d.toInt = 6 ∨ d.toInt = 7 ∨ d.toInt = 8 ∨ d.toInt = 9 ∨ d.toInt = 10 ∨ d.toInt = 11 ∨ d.toInt = 12 ∨ d.toInt = 13 ∨ d.toInt = 14 ∨ d.toInt = 15 := by omega
  rcases hk with e | e | e | e | e | e | e | e | e | e | e | e | e | e | e | e <;> (rw [h _ e]; decide)
theorem own_hd1 {d : Int32} (hm : d ∈ own_L16) (h : d < (10 : Int32)) : ¬ own_hx d < (48 : Int32) ∧ ¬ (57 : Int32) < own_hx d ∧ (own_hx d - (48 : Int32)) = d := (by decide : ∀ q ∈ own_L16, q < (10 : Int32) → ¬ own_hx q < (48 : Int32) ∧ ¬ (57 : Int32) < own_hx q ∧ (own_hx q - (48 : Int32)) = q) d hm h
theorem own_hd2 {d : Int32} (hm : d ∈ own_L16) (h : ¬ d < (10 : Int32)) : ¬ own_hx d < (48 : Int32) ∧ (57 : Int32) < own_hx d ∧ ¬ own_hx d < (65 : Int32) ∧ ¬ (70 : Int32) < own_hx d ∧ ((own_hx d - (65 : Int32)) + (10 : Int32)) = d := (by decide : ∀ q ∈ own_L16, ¬ q < (10 : Int32) → ¬ own_hx q < (48 : Int32) ∧ (57 : Int32) < own_hx q ∧ ¬ own_hx q < (65 : Int32) ∧ ¬ (70 : Int32) < own_hx q ∧ ((own_hx q - (65 : Int32)) + (10 : Int32)) = q) d hm h
theorem own_join {v : Int32} (b : 0 ≤ v.toInt ∧ v.toInt < 256) : (((v / (16 : Int32)) <<< ((4 : Int32) &&& 31)) ||| (v % (16 : Int32))) = v := by
  have h : ∀ n < 256, (((Int32.ofNat n / (16 : Int32)) <<< ((4 : Int32) &&& 31)) ||| (Int32.ofNat n % (16 : Int32))) = Int32.ofNat n := by decide +kernel
  have e : v = Int32.ofNat v.toInt.toNat := by
    have h1 : (v.toInt.toNat : Int) = v.toInt := by omega
    apply Int32.toInt_inj.mp
    rw [Int32.toInt_ofNat_of_lt (by omega)]
    omega
  have q := h v.toInt.toNat (by omega)
  rw [← e] at q
  exact q
theorem own_nn {v : Int32} (h : 0 ≤ v.toInt) : ¬ v < (0 : Int32) := by
  have e : (0 : Int32).toInt = 0 := by decide
  rw [Int32.lt_iff_toInt_lt]
  omega
theorem own_le255' {c : Int32} (h0 : 0 ≤ c.toInt) (h1 : c.toInt < 256) : ¬ c < 0 ∧ ¬ (255 : Int32) < c := ⟨own_nn h0, own_le255 h1⟩
theorem own_flag (e : Int32) : ∃ f : Int32, (e = 0 → f = 0) ∧ (¬ e = 0 → f = 1) ∧ (f = 0 ∨ f = 1) := by
  by_cases h : e = 0
  · exact ⟨0, fun _ => rfl, fun q => absurd h q, Or.inl rfl⟩
  · exact ⟨1, fun q => absurd q h, fun _ => rfl, Or.inr rfl⟩

abbrev own_sb (c : Int32) : Int32 := ((c.toInt8.toInt32).toInt8.toInt32)
abbrev own_DN : List Int32 := [1, 4, 2, 5, 8, 3, 6, 9, 12]
abbrev own_D2 : List (Int32 × Int32) := [(1, 1), (1, 4), (2, 2), (2, 5), (2, 8), (3, 3), (3, 6), (3, 9), (3, 12), (0, 0)]
theorem ej29m69_d0 : decode jdk_29_method_69_code 0 = .ok (.iload_n 0, 1) := by decide +kernel
theorem ej29m69_d1 : decode jdk_29_method_69_code 1 = .ok (.iload_n 1, 1) := by decide +kernel
theorem ej29m69_d2 : decode jdk_29_method_69_code 2 = .ok (.if_icmp .gt 7, 3) := by decide +kernel
theorem ej29m69_d5 : decode jdk_29_method_69_code 5 = .ok (.iload_n 0, 1) := by decide +kernel
theorem ej29m69_d6 : decode jdk_29_method_69_code 6 = .ok (.goto 4, 3) := by decide +kernel
theorem ej29m69_d9 : decode jdk_29_method_69_code 9 = .ok (.iload_n 1, 1) := by decide +kernel
theorem ej29m69_d10 : decode jdk_29_method_69_code 10 = .ok (.ireturn, 1) := by decide +kernel
theorem own_min_pn : plainFor (⟨"java/lang/Math", "min", "(II)I"⟩ : MethodName) = true := by first | exact plainFor_of_name (by first | (simp [plainName, overriddenIn]; done) | decide +kernel) | decide +kernel | exact Jvm.Free.JP.mathPlain rfl (by decide +kernel)
theorem own_min_ef (m : MethodId) (x0 : Int32) (x1 : Int32) : entryFrame m #[(.int x0), (.int x1)] 2 = mkF m 0 #[.val (.int x0), .val (.int x1)] [] := by first | (simp [entryFrame, mkF, argsToLocals, Value.category]; done) | rfl
def own_min_Q (Z : State) (x : Int32) (y : Int32) (r : Int32) (h0 : Heap) (n0 : Nat) (v : Option Value) (h : Heap) (L : List Loc) : Prop := v = some (.int r) ∧ Fr n0 L ∧ h = h0
set_option maxRecDepth 65536 in
set_option maxHeartbeats 40000000 in
theorem own_min (l : Launch) (Z : State) (a0 : Array Value) (hw : ∀ d ∈ tables_1, d.before a0 Z = true) (ws : List Jvm.Cond) (x : Int32) (y : Int32) (r : Int32) (h0 : Heap) (n0 : Nat) (O : Old Z n0 h0) (hr : (y < x → r = y) ∧ (¬ y < x → r = x)) :
    MetFree l (⟨"java/lang/Math", "min", "(II)I"⟩ : MethodName) (head1 (Jvm.Cond.code (⟨"java/lang/Math", "min", "(II)I"⟩ : MethodName) jdk_29_method_69_code 2 (some .int) :: ws) ({ frames := 0, cells := 0, slots := 0, locals := 0 } : Room)) (fun a U => a = #[(.int x), (.int y)] ∧ Z.Warmed39 U.vm ∧ U.heap = h0) (fun _ _ _ _ _ => True) (fun _ U o U' => ∃ v L, o = .returned v ∧ own_min_Q Z x y r h0 n0 v U'.heap L ∧ FrameEnd U o U' L ({ frames := 0, cells := 0, slots := 0, locals := 0 } : Room).cells ({ frames := 0, cells := 0, slots := 0, locals := 0 } : Room).slots) := by
  refine MetFree.of_bodySF own_min_pn hisR ?_
  intro p e s m args below meth c s₁ Bd hml0 hP hK
  obtain ⟨rfl, hZ, hh⟩ := hP
  have hx := Bd.exec
  have hby := Bd.bytes
  have hlk := Bd.notSynchronized
  have hml : c.maxLocals = 2 := hml0
  have hown : s.vm.findClass "java/lang/Math" = some m.cls := findClass_of_methodNamed Bd.named
  have hnm := (name_of_methodNamed Bd.named Bd.method).1
  have X : Stand p l e ({ frames := 0, cells := 0, slots := 0, locals := 0 } : Room) s m #[(.int x), (.int y)] below meth c s₁ [] 0 0 := Stand.of_body Bd
  have eT : s₁.heap = h0 := by rw [← hh, Bd.state]; rfl
  have N := Fr.nil n0
  have K0 := Keep.refl h0 []
  show own_Ends p e below (own_Post s below (own_min_Q Z x y r h0 n0) ({ frames := 0, cells := 0, slots := 0, locals := 0 } : Room).cells ({ frames := 0, cells := 0, slots := 0, locals := 0 } : Room).slots) s₁ (entryFrame m #[(.int x), (.int y)] 2)
  rw [own_min_ef m x y]
  obtain ⟨T, hT⟩ : ∃ z, z = s₁ := ⟨_, rfl⟩
  rw [← hT] at X eT ⊢
  obtain ⟨h, hh0⟩ : ∃ z, z = h0 := ⟨_, rfl⟩
  rw [← hh0] at eT
  replace O : Old Z n0 h := by rw [hh0]; exact O
  replace K0 : Keep h0 h [] := by rw [hh0]; exact K0
  refine own_via (g' := (mkF m 2 #[.val (.int x), .val (.int y)] [(.int y), (.int x)])) (fun t_ k_ => XS.iloadN X.here hx rfl (hb hby ej29m69_d0) rfl (XS.iloadN X.here hx rfl (hb hby ej29m69_d1) rfl k_)) ?_
  by_cases hc1 : y < x
  · refine own_via (g' := (mkF m 10 #[.val (.int x), .val (.int y)] [(.int y)])) (fun t_ k_ => XS.icmpYes X.here hx rfl (pc0 := 2) (pc' := 9) rfl (hb hby ej29m69_d2) rfl (tlt hc1).2.2.1 (by decide) (by decide) (XS.iloadN X.here hx rfl (hb hby ej29m69_d9) rfl k_)) ?_
    refine own_retW X hx hlk Bd.returns rfl (Or.inl ⟨rfl, Or.inl rfl, _, rfl⟩) (hb hby ej29m69_d10) (by decide) (by decide) ?_
    rw [eT]
    exact ⟨by rw [hr.1 hc1], N, hh0⟩
  · refine own_via (g' := (mkF m 10 #[.val (.int x), .val (.int y)] [(.int x)])) (fun t_ k_ => XS.icmpNo X.here hx rfl (hb hby ej29m69_d2) rfl (flt hc1).2.2.1 (XS.iloadN X.here hx rfl (hb hby ej29m69_d5) rfl (XS.goto X.here hx rfl (pc0 := 6) (pc' := 10) rfl (hb hby ej29m69_d6) (by decide) (by decide) k_))) ?_
    refine own_retW X hx hlk Bd.returns rfl (Or.inl ⟨rfl, Or.inl rfl, _, rfl⟩) (hb hby ej29m69_d10) (by decide) (by decide) ?_
    rw [eT]
    exact ⟨by rw [hr.2 hc1], N, hh0⟩
theorem ej42m152_d0 : decode jdk_42_method_152_code 0 = .ok (.getstatic 38, 3) := by decide +kernel
theorem ej42m152_d3 : decode jdk_42_method_152_code 3 = .ok (.ifCond .eq 10, 3) := by decide +kernel
theorem ej42m152_d6 : decode jdk_42_method_152_code 6 = .ok (.aload_n 0, 1) := by decide +kernel
theorem ej42m152_d7 : decode jdk_42_method_152_code 7 = .ok (.getfield 15, 3) := by decide +kernel
theorem ej42m152_d10 : decode jdk_42_method_152_code 10 = .ok (.goto 4, 3) := by decide +kernel
theorem ej42m152_d14 : decode jdk_42_method_152_code 14 = .ok (.ireturn, 1) := by decide +kernel
theorem own_coder_pn : plainFor (⟨"java/lang/String", "coder", "()B"⟩ : MethodName) = true := by first | exact plainFor_of_name (by first | (simp [plainName, overriddenIn]; done) | decide +kernel) | decide +kernel | exact Jvm.Free.JP.mathPlain rfl (by decide +kernel)
theorem own_coder_ef (m : MethodId) (x0 : Addr) : entryFrame m #[(.ref x0)] 1 = mkF m 0 #[.val (.ref x0)] [] := by first | (simp [entryFrame, mkF, argsToLocals, Value.category]; done) | rfl
def own_coder_Q (Z : State) (a1 : Addr) (va : Addr) (kv : ClassId) (z : Int32) (vs : List Value) (zc : Int32) (h0 : Heap) (n0 : Nat) (v : Option Value) (h : Heap) (L : List Loc) : Prop := v = some (.int 0) ∧ Fr n0 L ∧ h = h0
set_option maxRecDepth 65536 in
set_option maxHeartbeats 40000000 in
theorem own_coder (l : Launch) (Z : State) (a0 : Array Value) (hw : ∀ d ∈ tables_1, d.before a0 Z = true) (ws : List Jvm.Cond) (a1 : Addr) (va : Addr) (kv : ClassId) (z : Int32) (vs : List Value) (zc : Int32) (h0 : Heap) (n0 : Nat) (O : Old Z n0 h0) (E_a1 : Exa Z h0 a1 "java/lang/String") (F_value_a1 : Fld Z h0 a1 "java/lang/String" "value" "[B" (.ref va)) (F_coder_a1 : Fld Z h0 a1 "java/lang/String" "coder" "B" (.int 0)) (V_va : Arv Z h0 va kv .byte z vs (.int 0)) (S_C : Sta Z Z.heap "java/lang/String" "COMPACT_STRINGS" "Z" (.int zc)) (hzc : ¬ zc = 0) :
    MetFree l (⟨"java/lang/String", "coder", "()B"⟩ : MethodName) (head1 (Jvm.Cond.code (⟨"java/lang/String", "coder", "()B"⟩ : MethodName) jdk_42_method_152_code 1 (some .byte) :: ws) ({ frames := 0, cells := 0, slots := 0, locals := 0 } : Room)) (fun a U => a = #[(.ref a1)] ∧ Z.Warmed39 U.vm ∧ U.heap = h0) (fun _ _ _ _ _ => True) (fun _ U o U' => ∃ v L, o = .returned v ∧ own_coder_Q Z a1 va kv z vs zc h0 n0 v U'.heap L ∧ FrameEnd U o U' L ({ frames := 0, cells := 0, slots := 0, locals := 0 } : Room).cells ({ frames := 0, cells := 0, slots := 0, locals := 0 } : Room).slots) := by
  refine MetFree.of_bodySF own_coder_pn hisR ?_
  intro p e s m args below meth c s₁ Bd hml0 hP hK
  obtain ⟨rfl, hZ, hh⟩ := hP
  have hx := Bd.exec
  have hby := Bd.bytes
  have hlk := Bd.notSynchronized
  have hml : c.maxLocals = 1 := hml0
  have hown : s.vm.findClass "java/lang/String" = some m.cls := findClass_of_methodNamed Bd.named
  have hnm := (name_of_methodNamed Bd.named Bd.method).1
  have X : Stand p l e ({ frames := 0, cells := 0, slots := 0, locals := 0 } : Room) s m #[(.ref a1)] below meth c s₁ [] 0 0 := Stand.of_body Bd
  have eT : s₁.heap = h0 := by rw [← hh, Bd.state]; rfl
  have N := Fr.nil n0
  have K0 := Keep.refl h0 []
  show own_Ends p e below (own_Post s below (own_coder_Q Z a1 va kv z vs zc h0 n0) ({ frames := 0, cells := 0, slots := 0, locals := 0 } : Room).cells ({ frames := 0, cells := 0, slots := 0, locals := 0 } : Room).slots) s₁ (entryFrame m #[(.ref a1)] 1)
  rw [own_coder_ef m a1]
  obtain ⟨T, hT⟩ : ∃ z, z = s₁ := ⟨_, rfl⟩
  rw [← hT] at X eT ⊢
  obtain ⟨h, hh0⟩ : ∃ z, z = h0 := ⟨_, rfl⟩
  rw [← hh0] at eT
  replace O : Old Z n0 h := by rw [hh0]; exact O
  replace K0 : Keep h0 h [] := by rw [hh0]; exact K0
  rw [← hh0] at E_a1
  rw [← hh0] at F_value_a1
  rw [← hh0] at F_coder_a1
  rw [← hh0] at V_va
  obtain ⟨T, X, eT, st⟩ := getS2 X hx hZ hown (host := "") (Or.inl (hw _ (own_w 43 rfl))) Via.refl eT (S_C.ext O.2) (g := (mkF m 0 #[.val (.ref a1)] [])) rfl (hb hby ej42m152_d0)
  refine own_via (g' := (mkF m 3 #[.val (.ref a1)] [(.int zc)])) st ?_
  refine own_via (g' := (mkF m 7 #[.val (.ref a1)] [(.ref a1)])) (fun t_ k_ => XS.ifNo X.here hx rfl (hb hby ej42m152_d3) rfl ((if0 _ _).trans (feq hzc).1) (XS.aloadN X.here hx rfl (hb hby ej42m152_d6) rfl rfl k_)) ?_
  obtain ⟨T, X, eT, st⟩ := getF X hx hZ hown (host := "") (Or.inl (hw _ (own_w 28 rfl))) Via.refl eT F_coder_a1 (g := (mkF m 7 #[.val (.ref a1)] [(.ref a1)])) rfl rfl (hb hby ej42m152_d7)
  refine own_via (g' := (mkF m 10 #[.val (.ref a1)] [(.int 0)])) st ?_
  refine own_via (g' := (mkF m 14 #[.val (.ref a1)] [(.int 0)])) (fun t_ k_ => XS.goto X.here hx rfl (pc0 := 10) (pc' := 14) rfl (hb hby ej42m152_d10) (by decide) (by decide) k_) ?_
  refine own_retN X hx hlk (t := .byte) Bd.returns (by simp) (hb hby ej42m152_d14) (by decide) (by decide) ?_
  rw [eT]
  exact ⟨rfl, N, hh0⟩
theorem ej42m54_d0 : decode jdk_42_method_54_code 0 = .ok (.aload_n 0, 1) := by decide +kernel
theorem ej42m54_d1 : decode jdk_42_method_54_code 1 = .ok (.getfield 9, 3) := by decide +kernel
theorem ej42m54_d4 : decode jdk_42_method_54_code 4 = .ok (.arraylength, 1) := by decide +kernel
theorem ej42m54_d5 : decode jdk_42_method_54_code 5 = .ok (.aload_n 0, 1) := by decide +kernel
theorem ej42m54_d6 : decode jdk_42_method_54_code 6 = .ok (.invokevirtual 335, 3) := by decide +kernel
theorem ej42m54_d9 : decode jdk_42_method_54_code 9 = .ok (.ishr, 1) := by decide +kernel
theorem ej42m54_d10 : decode jdk_42_method_54_code 10 = .ok (.ireturn, 1) := by decide +kernel
theorem own_strlen_pn : plainFor (⟨"java/lang/String", "length", "()I"⟩ : MethodName) = true := by first | exact plainFor_of_name (by first | (simp [plainName, overriddenIn]; done) | decide +kernel) | decide +kernel | exact Jvm.Free.JP.mathPlain rfl (by decide +kernel)
theorem own_strlen_ef (m : MethodId) (x0 : Addr) : entryFrame m #[(.ref x0)] 1 = mkF m 0 #[.val (.ref x0)] [] := by first | (simp [entryFrame, mkF, argsToLocals, Value.category]; done) | rfl
def own_strlen_Q (Z : State) (a1 : Addr) (va : Addr) (kv : ClassId) (z : Int32) (vs : List Value) (zc : Int32) (h0 : Heap) (n0 : Nat) (v : Option Value) (h : Heap) (L : List Loc) : Prop := v = some (.int z) ∧ Fr n0 L ∧ h = h0
set_option maxRecDepth 65536 in
set_option maxHeartbeats 40000000 in
theorem own_strlen (l : Launch) (Z : State) (a0 : Array Value) (hw : ∀ d ∈ tables_1, d.before a0 Z = true) (ws : List Jvm.Cond) (a1 : Addr) (va : Addr) (kv : ClassId) (z : Int32) (vs : List Value) (zc : Int32) (h0 : Heap) (n0 : Nat) (O : Old Z n0 h0) (E_a1 : Exa Z h0 a1 "java/lang/String") (F_value_a1 : Fld Z h0 a1 "java/lang/String" "value" "[B" (.ref va)) (F_coder_a1 : Fld Z h0 a1 "java/lang/String" "coder" "B" (.int 0)) (V_va : Arv Z h0 va kv .byte z vs (.int 0)) (S_C : Sta Z Z.heap "java/lang/String" "COMPACT_STRINGS" "Z" (.int zc)) (hzc : ¬ zc = 0) :
    MetFree l (⟨"java/lang/String", "length", "()I"⟩ : MethodName) (head1 (Jvm.Cond.code (⟨"java/lang/String", "length", "()I"⟩ : MethodName) jdk_42_method_54_code 1 (some .int) :: ws) ({ frames := 1, cells := 0, slots := 0, locals := 13 } : Room)) (fun a U => a = #[(.ref a1)] ∧ Z.Warmed39 U.vm ∧ U.heap = h0) (fun _ _ _ _ _ => True) (fun _ U o U' => ∃ v L, o = .returned v ∧ own_strlen_Q Z a1 va kv z vs zc h0 n0 v U'.heap L ∧ FrameEnd U o U' L ({ frames := 1, cells := 0, slots := 0, locals := 13 } : Room).cells ({ frames := 1, cells := 0, slots := 0, locals := 13 } : Room).slots) := by
  refine MetFree.of_bodySF own_strlen_pn hisR ?_
  intro p e s m args below meth c s₁ Bd hml0 hP hK
  obtain ⟨rfl, hZ, hh⟩ := hP
  have hx := Bd.exec
  have hby := Bd.bytes
  have hlk := Bd.notSynchronized
  have hml : c.maxLocals = 1 := hml0
  have hown : s.vm.findClass "java/lang/String" = some m.cls := findClass_of_methodNamed Bd.named
  have hnm := (name_of_methodNamed Bd.named Bd.method).1
  have X : Stand p l e ({ frames := 1, cells := 0, slots := 0, locals := 13 } : Room) s m #[(.ref a1)] below meth c s₁ [] 0 0 := Stand.of_body Bd
  have eT : s₁.heap = h0 := by rw [← hh, Bd.state]; rfl
  have N := Fr.nil n0
  have K0 := Keep.refl h0 []
  show own_Ends p e below (own_Post s below (own_strlen_Q Z a1 va kv z vs zc h0 n0) ({ frames := 1, cells := 0, slots := 0, locals := 13 } : Room).cells ({ frames := 1, cells := 0, slots := 0, locals := 13 } : Room).slots) s₁ (entryFrame m #[(.ref a1)] 1)
  rw [own_strlen_ef m a1]
  obtain ⟨T, hT⟩ : ∃ z, z = s₁ := ⟨_, rfl⟩
  rw [← hT] at X eT ⊢
  obtain ⟨h, hh0⟩ : ∃ z, z = h0 := ⟨_, rfl⟩
  rw [← hh0] at eT
  replace O : Old Z n0 h := by rw [hh0]; exact O
  replace K0 : Keep h0 h [] := by rw [hh0]; exact K0
  rw [← hh0] at E_a1
  rw [← hh0] at F_value_a1
  rw [← hh0] at F_coder_a1
  rw [← hh0] at V_va
  refine own_via (g' := (mkF m 1 #[.val (.ref a1)] [(.ref a1)])) (fun t_ k_ => XS.aloadN X.here hx rfl (hb hby ej42m54_d0) rfl rfl k_) ?_
  obtain ⟨T, X, eT, st⟩ := getF X hx hZ hown (host := "") (Or.inl (hw _ (own_w 27 rfl))) Via.refl eT F_value_a1 (g := (mkF m 1 #[.val (.ref a1)] [(.ref a1)])) rfl rfl (hb hby ej42m54_d1)
  refine own_via (g' := (mkF m 4 #[.val (.ref a1)] [(.ref va)])) st ?_
  obtain ⟨cl_, Ar_, -, Sz_, Nn_, -, -⟩ := id V_va
  refine own_via (g' := (mkF m 5 #[.val (.ref a1)] [(.int z)])) (fun t_ k_ => X.arraylength hx (by rw [eT]; exact Ar_.1) (State.isArrayOf_alike hZ.alike Ar_.2.1) (g := (mkF m 4 #[.val (.ref a1)] [(.ref va)])) rfl rfl (hb hby ej42m54_d4) _ (by rw [len_of Sz_ Nn_]; exact k_)) ?_
  refine own_via (g' := (mkF m 6 #[.val (.ref a1)] [(.ref a1), (.int z)])) (fun t_ k_ => XS.aloadN X.here hx rfl (hb hby ej42m54_d5) rfl rfl k_) ?_
  obtain ⟨cq, kq, qa, qb, qc⟩ := isOf hZ eT E_a1
  obtain ⟨_, _, ⟨T, Lq, kq, nq⟩, -, X, ⟨Lc, hQ, lq, yq, zq⟩, st⟩ := X.virtualBack hx (y := own_y0) (z := own_y0) hown (mvT hZ (hw _ (own_w 38 rfl))) (mvT hZ (hw _ (own_w 39 rfl))) (notFace_of_selects (args := #[]) (mvT hZ (hw _ (own_w 41 rfl)))) (mvT hZ (hw _ (own_w 41 rfl))) (mvT hZ (hw _ (own_w 40 rfl))) (by decide) (backOf (W := 1) (own_coder l Z a0 hw [] a1 va kv z vs zc h n0 O E_a1 F_value_a1 F_coder_a1 V_va S_C hzc) hZ (hw _ (own_w 42 rfl)) (hw _ (own_w 10 rfl)) (by decide) (by decide)) qa qc (g := (mkF m 6 #[.val (.ref a1)] [(.ref a1), (.int z)])) rfl (by rw [hml]; rfl) (Steps.refl _) (argsL := []) (rest := [(.int z)]) (lenOf own_pd0 rfl) rfl (by show 2 * 0 + _ ≤ _; exact Nat.le_of_eq rfl) (hb hby ej42m54_d6) (fun _ _ => ⟨rfl, eT, (by decide : 0 + 0 ≤ _), (by decide : 0 + 0 ≤ _)⟩)
  dsimp only [Pt.U, Pt.locs, Pt.cells, Pt.slots] at X lq yq zq st hQ
  subst lq yq zq
  obtain ⟨rfl, Nq, eT⟩ := hQ
  replace N := Fr.app N Nq
  refine own_viaT (g' := (mkF m 9 #[.val (.ref a1)] [(.int 0), (.int z)])) st ?_
  refine own_via (g' := (mkF m 10 #[.val (.ref a1)] [(.int (z >>> ((0 : Int32) &&& 31)))])) (fun t_ k_ => XS.ishr X.here hx rfl (hb hby ej42m54_d9) rfl k_) ?_
  rw [own_shr0]
  refine own_retW X hx hlk Bd.returns rfl (Or.inl ⟨rfl, Or.inl rfl, _, rfl⟩) (hb hby ej42m54_d10) (by decide) (by decide) ?_
  rw [eT]
  exact ⟨rfl, N, hh0⟩
theorem ej42m154_d0 : decode jdk_42_method_154_code 0 = .ok (.getstatic 38, 3) := by decide +kernel
theorem ej42m154_d3 : decode jdk_42_method_154_code 3 = .ok (.ifCond .eq 14, 3) := by decide +kernel
theorem ej42m154_d6 : decode jdk_42_method_154_code 6 = .ok (.aload_n 0, 1) := by decide +kernel
theorem ej42m154_d7 : decode jdk_42_method_154_code 7 = .ok (.getfield 15, 3) := by decide +kernel
theorem ej42m154_d10 : decode jdk_42_method_154_code 10 = .ok (.ifCond .ne 7, 3) := by decide +kernel
theorem ej42m154_d13 : decode jdk_42_method_154_code 13 = .ok (.iconst 1, 1) := by decide +kernel
theorem ej42m154_d14 : decode jdk_42_method_154_code 14 = .ok (.goto 4, 3) := by decide +kernel
theorem ej42m154_d18 : decode jdk_42_method_154_code 18 = .ok (.ireturn, 1) := by decide +kernel
theorem own_sil_pn : plainFor (⟨"java/lang/String", "isLatin1", "()Z"⟩ : MethodName) = true := by first | exact plainFor_of_name (by first | (simp [plainName, overriddenIn]; done) | decide +kernel) | decide +kernel | exact Jvm.Free.JP.mathPlain rfl (by decide +kernel)
theorem own_sil_ef (m : MethodId) (x0 : Addr) : entryFrame m #[(.ref x0)] 1 = mkF m 0 #[.val (.ref x0)] [] := by first | (simp [entryFrame, mkF, argsToLocals, Value.category]; done) | rfl
def own_sil_Q (Z : State) (a1 : Addr) (va : Addr) (kv : ClassId) (z : Int32) (vs : List Value) (zc : Int32) (h0 : Heap) (n0 : Nat) (v : Option Value) (h : Heap) (L : List Loc) : Prop := v = some (.int 1) ∧ Fr n0 L ∧ h = h0
set_option maxRecDepth 65536 in
set_option maxHeartbeats 40000000 in
theorem own_sil (l : Launch) (Z : State) (a0 : Array Value) (hw : ∀ d ∈ tables_1, d.before a0 Z = true) (ws : List Jvm.Cond) (a1 : Addr) (va : Addr) (kv : ClassId) (z : Int32) (vs : List Value) (zc : Int32) (h0 : Heap) (n0 : Nat) (O : Old Z n0 h0) (E_a1 : Exa Z h0 a1 "java/lang/String") (F_value_a1 : Fld Z h0 a1 "java/lang/String" "value" "[B" (.ref va)) (F_coder_a1 : Fld Z h0 a1 "java/lang/String" "coder" "B" (.int 0)) (V_va : Arv Z h0 va kv .byte z vs (.int 0)) (S_C : Sta Z Z.heap "java/lang/String" "COMPACT_STRINGS" "Z" (.int zc)) (hzc : ¬ zc = 0) :
    MetFree l (⟨"java/lang/String", "isLatin1", "()Z"⟩ : MethodName) (head1 (Jvm.Cond.code (⟨"java/lang/String", "isLatin1", "()Z"⟩ : MethodName) jdk_42_method_154_code 1 (some .boolean) :: ws) ({ frames := 0, cells := 0, slots := 0, locals := 0 } : Room)) (fun a U => a = #[(.ref a1)] ∧ Z.Warmed39 U.vm ∧ U.heap = h0) (fun _ _ _ _ _ => True) (fun _ U o U' => ∃ v L, o = .returned v ∧ own_sil_Q Z a1 va kv z vs zc h0 n0 v U'.heap L ∧ FrameEnd U o U' L ({ frames := 0, cells := 0, slots := 0, locals := 0 } : Room).cells ({ frames := 0, cells := 0, slots := 0, locals := 0 } : Room).slots) := by
  refine MetFree.of_bodySF own_sil_pn hisR ?_
  intro p e s m args below meth c s₁ Bd hml0 hP hK
  obtain ⟨rfl, hZ, hh⟩ := hP
  have hx := Bd.exec
  have hby := Bd.bytes
  have hlk := Bd.notSynchronized
  have hml : c.maxLocals = 1 := hml0
  have hown : s.vm.findClass "java/lang/String" = some m.cls := findClass_of_methodNamed Bd.named
  have hnm := (name_of_methodNamed Bd.named Bd.method).1
  have X : Stand p l e ({ frames := 0, cells := 0, slots := 0, locals := 0 } : Room) s m #[(.ref a1)] below meth c s₁ [] 0 0 := Stand.of_body Bd
  have eT : s₁.heap = h0 := by rw [← hh, Bd.state]; rfl
  have N := Fr.nil n0
  have K0 := Keep.refl h0 []
  show own_Ends p e below (own_Post s below (own_sil_Q Z a1 va kv z vs zc h0 n0) ({ frames := 0, cells := 0, slots := 0, locals := 0 } : Room).cells ({ frames := 0, cells := 0, slots := 0, locals := 0 } : Room).slots) s₁ (entryFrame m #[(.ref a1)] 1)
  rw [own_sil_ef m a1]
  obtain ⟨T, hT⟩ : ∃ z, z = s₁ := ⟨_, rfl⟩
  rw [← hT] at X eT ⊢
  obtain ⟨h, hh0⟩ : ∃ z, z = h0 := ⟨_, rfl⟩
  rw [← hh0] at eT
  replace O : Old Z n0 h := by rw [hh0]; exact O
  replace K0 : Keep h0 h [] := by rw [hh0]; exact K0
  rw [← hh0] at E_a1
  rw [← hh0] at F_value_a1
  rw [← hh0] at F_coder_a1
  rw [← hh0] at V_va
  obtain ⟨T, X, eT, st⟩ := getS2 X hx hZ hown (host := "") (Or.inl (hw _ (own_w 43 rfl))) Via.refl eT (S_C.ext O.2) (g := (mkF m 0 #[.val (.ref a1)] [])) rfl (hb hby ej42m154_d0)
  refine own_via (g' := (mkF m 3 #[.val (.ref a1)] [(.int zc)])) st ?_
  refine own_via (g' := (mkF m 7 #[.val (.ref a1)] [(.ref a1)])) (fun t_ k_ => XS.ifNo X.here hx rfl (hb hby ej42m154_d3) rfl ((if0 _ _).trans (feq hzc).1) (XS.aloadN X.here hx rfl (hb hby ej42m154_d6) rfl rfl k_)) ?_
  obtain ⟨T, X, eT, st⟩ := getF X hx hZ hown (host := "") (Or.inl (hw _ (own_w 28 rfl))) Via.refl eT F_coder_a1 (g := (mkF m 7 #[.val (.ref a1)] [(.ref a1)])) rfl rfl (hb hby ej42m154_d7)
  refine own_via (g' := (mkF m 10 #[.val (.ref a1)] [(.int 0)])) st ?_
  refine own_via (g' := (mkF m 18 #[.val (.ref a1)] [(.int 1)])) (fun t_ k_ => XS.ifNo X.here hx rfl (hb hby ej42m154_d10) rfl ((if0 _ _).trans (teq (by decide : (0 : Int32) = (0 : Int32))).2) (XS.iconst X.here hx rfl (hb hby ej42m154_d13) (XS.goto X.here hx rfl (pc0 := 14) (pc' := 18) rfl (hb hby ej42m154_d14) (by decide) (by decide) k_))) ?_
  refine own_retN X hx hlk (t := .boolean) Bd.returns (by simp) (hb hby ej42m154_d18) (by decide) (by decide) ?_
  rw [eT]
  exact ⟨rfl, N, hh0⟩
theorem ej41m11_d0 : decode jdk_41_method_11_code 0 = .ok (.iload_n 0, 1) := by decide +kernel
theorem ej41m11_d1 : decode jdk_41_method_11_code 1 = .ok (.ifCond .lt 8, 3) := by decide +kernel
theorem ej41m11_d4 : decode jdk_41_method_11_code 4 = .ok (.iload_n 0, 1) := by decide +kernel
theorem ej41m11_d5 : decode jdk_41_method_11_code 5 = .ok (.iload_n 1, 1) := by decide +kernel
theorem ej41m11_d6 : decode jdk_41_method_11_code 6 = .ok (.if_icmp .lt 10, 3) := by decide +kernel
theorem ej41m11_d16 : decode jdk_41_method_11_code 16 = .ok (.iload_n 0, 1) := by decide +kernel
theorem ej41m11_d17 : decode jdk_41_method_11_code 17 = .ok (.ireturn, 1) := by decide +kernel
theorem own_pci_pn : plainFor (⟨"jdk/internal/util/Preconditions", "checkIndex", "(IILjava/util/function/BiFunction;)I"⟩ : MethodName) = true := by first | exact plainFor_of_name (by first | (simp [plainName, overriddenIn]; done) | decide +kernel) | decide +kernel | exact Jvm.Free.JP.mathPlain rfl (by decide +kernel)
theorem own_pci_ef (m : MethodId) (x0 : Int32) (x1 : Int32) (x2 : Value) (hx2 : x2.isRef = true) : entryFrame m #[(.int x0), (.int x1), x2] 3 = mkF m 0 #[.val (.int x0), .val (.int x1), .val x2] [] := by rcases ref_cases hx2 with rfl | ⟨_, rfl⟩ <;> first | (simp [entryFrame, mkF, argsToLocals, Value.category]; done) | rfl
def own_pci_Q (Z : State) (j : Int32) (z : Int32) (vS : Value) (h0 : Heap) (n0 : Nat) (v : Option Value) (h : Heap) (L : List Loc) : Prop := v = some (.int j) ∧ Fr n0 L ∧ h = h0
set_option maxRecDepth 65536 in
set_option maxHeartbeats 40000000 in
theorem own_pci (l : Launch) (Z : State) (a0 : Array Value) (hw : ∀ d ∈ tables_1, d.before a0 Z = true) (ws : List Jvm.Cond) (j : Int32) (z : Int32) (vS : Value) (h0 : Heap) (n0 : Nat) (O : Old Z n0 h0) (hj : ¬ j < 0 ∧ j < z) (hvS : vS.isRef = true) :
    MetFree l (⟨"jdk/internal/util/Preconditions", "checkIndex", "(IILjava/util/function/BiFunction;)I"⟩ : MethodName) (head1 (Jvm.Cond.code (⟨"jdk/internal/util/Preconditions", "checkIndex", "(IILjava/util/function/BiFunction;)I"⟩ : MethodName) jdk_41_method_11_code 3 (some .int) :: ws) ({ frames := 0, cells := 0, slots := 0, locals := 0 } : Room)) (fun a U => a = #[(.int j), (.int z), vS] ∧ Z.Warmed39 U.vm ∧ U.heap = h0) (fun _ _ _ _ _ => True) (fun _ U o U' => ∃ v L, o = .returned v ∧ own_pci_Q Z j z vS h0 n0 v U'.heap L ∧ FrameEnd U o U' L ({ frames := 0, cells := 0, slots := 0, locals := 0 } : Room).cells ({ frames := 0, cells := 0, slots := 0, locals := 0 } : Room).slots) := by
  refine MetFree.of_bodySF own_pci_pn hisR ?_
  intro p e s m args below meth c s₁ Bd hml0 hP hK
  obtain ⟨rfl, hZ, hh⟩ := hP
  have hx := Bd.exec
  have hby := Bd.bytes
  have hlk := Bd.notSynchronized
  have hml : c.maxLocals = 3 := hml0
  have hown : s.vm.findClass "jdk/internal/util/Preconditions" = some m.cls := findClass_of_methodNamed Bd.named
  have hnm := (name_of_methodNamed Bd.named Bd.method).1
  have X : Stand p l e ({ frames := 0, cells := 0, slots := 0, locals := 0 } : Room) s m #[(.int j), (.int z), vS] below meth c s₁ [] 0 0 := Stand.of_body Bd
  have eT : s₁.heap = h0 := by rw [← hh, Bd.state]; rfl
  have N := Fr.nil n0
  have K0 := Keep.refl h0 []
  show own_Ends p e below (own_Post s below (own_pci_Q Z j z vS h0 n0) ({ frames := 0, cells := 0, slots := 0, locals := 0 } : Room).cells ({ frames := 0, cells := 0, slots := 0, locals := 0 } : Room).slots) s₁ (entryFrame m #[(.int j), (.int z), vS] 3)
  rw [own_pci_ef m j z vS hvS]
  obtain ⟨T, hT⟩ : ∃ z, z = s₁ := ⟨_, rfl⟩
  rw [← hT] at X eT ⊢
  obtain ⟨h, hh0⟩ : ∃ z, z = h0 := ⟨_, rfl⟩
  rw [← hh0] at eT
  replace O : Old Z n0 h := by rw [hh0]; exact O
  replace K0 : Keep h0 h [] := by rw [hh0]; exact K0
  refine own_via (g' := (mkF m 17 #[.val (.int j), .val (.int z), .val vS] [(.int j)])) (fun t_ k_ => XS.iloadN X.here hx rfl (hb hby ej41m11_d0) rfl (XS.ifNo X.here hx rfl (hb hby ej41m11_d1) rfl ((if0 _ _).trans (flt hj.1).1) (XS.iloadN X.here hx rfl (hb hby ej41m11_d4) rfl (XS.iloadN X.here hx rfl (hb hby ej41m11_d5) rfl (XS.icmpYes X.here hx rfl (pc0 := 6) (pc' := 16) rfl (hb hby ej41m11_d6) rfl (tlt hj.2).1 (by decide) (by decide) (XS.iloadN X.here hx rfl (hb hby ej41m11_d16) rfl k_)))))) ?_
  refine own_retW X hx hlk Bd.returns rfl (Or.inl ⟨rfl, Or.inl rfl, _, rfl⟩) (hb hby ej41m11_d17) (by decide) (by decide) ?_
  rw [eT]
  exact ⟨rfl, N, hh0⟩
theorem ej42m155_d0 : decode jdk_42_method_155_code 0 = .ok (.iload_n 0, 1) := by decide +kernel
theorem ej42m155_d1 : decode jdk_42_method_155_code 1 = .ok (.iload_n 1, 1) := by decide +kernel
theorem ej42m155_d2 : decode jdk_42_method_155_code 2 = .ok (.getstatic 1053, 3) := by decide +kernel
theorem ej42m155_d5 : decode jdk_42_method_155_code 5 = .ok (.invokestatic 1059, 3) := by decide +kernel
theorem ej42m155_d8 : decode jdk_42_method_155_code 8 = .ok (.pop, 1) := by decide +kernel
theorem ej42m155_d9 : decode jdk_42_method_155_code 9 = .ok (.return_, 1) := by decide +kernel
theorem own_sci_pn : plainFor (⟨"java/lang/String", "checkIndex", "(II)V"⟩ : MethodName) = true := by first | exact plainFor_of_name (by first | (simp [plainName, overriddenIn]; done) | decide +kernel) | decide +kernel | exact Jvm.Free.JP.mathPlain rfl (by decide +kernel)
theorem own_sci_ef (m : MethodId) (x0 : Int32) (x1 : Int32) : entryFrame m #[(.int x0), (.int x1)] 2 = mkF m 0 #[.val (.int x0), .val (.int x1)] [] := by first | (simp [entryFrame, mkF, argsToLocals, Value.category]; done) | rfl
def own_sci_Q (Z : State) (j : Int32) (z : Int32) (vS : Value) (h0 : Heap) (n0 : Nat) (v : Option Value) (h : Heap) (L : List Loc) : Prop := v = none ∧ Fr n0 L ∧ h = h0
set_option maxRecDepth 65536 in
set_option maxHeartbeats 40000000 in
theorem own_sci (l : Launch) (Z : State) (a0 : Array Value) (hw : ∀ d ∈ tables_1, d.before a0 Z = true) (ws : List Jvm.Cond) (j : Int32) (z : Int32) (vS : Value) (h0 : Heap) (n0 : Nat) (O : Old Z n0 h0) (hj : ¬ j < 0 ∧ j < z) (S_S : Sta Z Z.heap "jdk/internal/util/Preconditions" "SIOOBE_FORMATTER" "Ljava/util/function/BiFunction;" vS) (hvS : vS.isRef = true) :
    MetFree l (⟨"java/lang/String", "checkIndex", "(II)V"⟩ : MethodName) (head1 (Jvm.Cond.code (⟨"java/lang/String", "checkIndex", "(II)V"⟩ : MethodName) jdk_42_method_155_code 2 none :: ws) ({ frames := 1, cells := 0, slots := 0, locals := 14 } : Room)) (fun a U => a = #[(.int j), (.int z)] ∧ Z.Warmed39 U.vm ∧ U.heap = h0) (fun _ _ _ _ _ => True) (fun _ U o U' => ∃ v L, o = .returned v ∧ own_sci_Q Z j z vS h0 n0 v U'.heap L ∧ FrameEnd U o U' L ({ frames := 1, cells := 0, slots := 0, locals := 14 } : Room).cells ({ frames := 1, cells := 0, slots := 0, locals := 14 } : Room).slots) := by
  refine MetFree.of_bodySF own_sci_pn hisR ?_
  intro p e s m args below meth c s₁ Bd hml0 hP hK
  obtain ⟨rfl, hZ, hh⟩ := hP
  have hx := Bd.exec
  have hby := Bd.bytes
  have hlk := Bd.notSynchronized
  have hml : c.maxLocals = 2 := hml0
  have hown : s.vm.findClass "java/lang/String" = some m.cls := findClass_of_methodNamed Bd.named
  have hnm := (name_of_methodNamed Bd.named Bd.method).1
  have X : Stand p l e ({ frames := 1, cells := 0, slots := 0, locals := 14 } : Room) s m #[(.int j), (.int z)] below meth c s₁ [] 0 0 := Stand.of_body Bd
  have eT : s₁.heap = h0 := by rw [← hh, Bd.state]; rfl
  have N := Fr.nil n0
  have K0 := Keep.refl h0 []
  show own_Ends p e below (own_Post s below (own_sci_Q Z j z vS h0 n0) ({ frames := 1, cells := 0, slots := 0, locals := 14 } : Room).cells ({ frames := 1, cells := 0, slots := 0, locals := 14 } : Room).slots) s₁ (entryFrame m #[(.int j), (.int z)] 2)
  rw [own_sci_ef m j z]
  obtain ⟨T, hT⟩ : ∃ z, z = s₁ := ⟨_, rfl⟩
  rw [← hT] at X eT ⊢
  obtain ⟨h, hh0⟩ : ∃ z, z = h0 := ⟨_, rfl⟩
  rw [← hh0] at eT
  replace O : Old Z n0 h := by rw [hh0]; exact O
  replace K0 : Keep h0 h [] := by rw [hh0]; exact K0
  refine own_via (g' := (mkF m 2 #[.val (.int j), .val (.int z)] [(.int z), (.int j)])) (fun t_ k_ => XS.iloadN X.here hx rfl (hb hby ej42m155_d0) rfl (XS.iloadN X.here hx rfl (hb hby ej42m155_d1) rfl k_)) ?_
  obtain ⟨T, X, eT, st⟩ := getS2 X hx hZ hown (host := "") (Or.inl (hw _ (own_w 91 rfl))) Via.refl eT (S_S.ext O.2) (g := (mkF m 2 #[.val (.int j), .val (.int z)] [(.int z), (.int j)])) rfl (hb hby ej42m155_d2)
  refine own_via (g' := (mkF m 5 #[.val (.int j), .val (.int z)] [vS, (.int z), (.int j)])) st ?_
  obtain ⟨_, _, ⟨T, Lq, kq, nq⟩, -, X, ⟨Lc, hQ, lq, yq, zq⟩, st⟩ := Jvm.LawKit.callS X hx (y := own_y1) hown (mvT hZ (hw _ (own_w 93 rfl))) (mvT hZ (hw _ (own_w 94 rfl))) (mvT hZ (hw _ (own_w 92 rfl))) (mvT hZ (hw _ (own_w 95 rfl))) (by decide) (backOf (W := 0) (own_pci l Z a0 hw [] j z vS h n0 O hj hvS) hZ (hw _ (own_w 95 rfl)) (hw _ (own_w 92 rfl)) (by decide) (by decide)) (g := (mkF m 5 #[.val (.int j), .val (.int z)] [vS, (.int z), (.int j)])) rfl (by rw [hml]; rfl) (argsL := [(.int j), (.int z), vS]) (rest := []) (lenOf own_pd1 rfl) rfl (by show 2 * 0 + _ ≤ _; exact Nat.le_of_eq rfl) (hb hby ej42m155_d5) (fun _ _ => ⟨rfl, eT, (by decide : 0 + 0 ≤ _), (by decide : 0 + 0 ≤ _)⟩)
  dsimp only [Pt.U, Pt.locs, Pt.cells, Pt.slots] at X lq yq zq st hQ
  subst lq yq zq
  obtain ⟨rfl, Nq, eT⟩ := hQ
  replace N := Fr.app N Nq
  refine own_via (g' := (mkF m 8 #[.val (.int j), .val (.int z)] [(.int j)])) st ?_
  refine own_via (g' := (mkF m 9 #[.val (.int j), .val (.int z)] [])) (fun t_ k_ => XS.pop X.here hx rfl (hb hby ej42m155_d8) rfl rfl k_) ?_
  refine own_retV X hx hlk Bd.returns (hb hby ej42m155_d9) (by decide) (by decide) ?_
  rw [eT]
  exact ⟨rfl, N, hh0⟩
theorem ej43m2_d0 : decode jdk_43_method_2_code 0 = .ok (.iload_n 1, 1) := by decide +kernel
theorem ej43m2_d1 : decode jdk_43_method_2_code 1 = .ok (.aload_n 0, 1) := by decide +kernel
theorem ej43m2_d2 : decode jdk_43_method_2_code 2 = .ok (.arraylength, 1) := by decide +kernel
theorem ej43m2_d3 : decode jdk_43_method_2_code 3 = .ok (.invokestatic 9, 3) := by decide +kernel
theorem ej43m2_d6 : decode jdk_43_method_2_code 6 = .ok (.aload_n 0, 1) := by decide +kernel
theorem ej43m2_d7 : decode jdk_43_method_2_code 7 = .ok (.iload_n 1, 1) := by decide +kernel
theorem ej43m2_d8 : decode jdk_43_method_2_code 8 = .ok (.baload, 1) := by decide +kernel
theorem ej43m2_d9 : decode jdk_43_method_2_code 9 = .ok (.sipush 255, 3) := by decide +kernel
theorem ej43m2_d12 : decode jdk_43_method_2_code 12 = .ok (.iand, 1) := by decide +kernel
theorem ej43m2_d13 : decode jdk_43_method_2_code 13 = .ok (.i2c, 1) := by decide +kernel
theorem ej43m2_d14 : decode jdk_43_method_2_code 14 = .ok (.ireturn, 1) := by decide +kernel
theorem own_lca_pn : plainFor (⟨"java/lang/StringLatin1", "charAt", "([BI)C"⟩ : MethodName) = true := by first | exact plainFor_of_name (by first | (simp [plainName, overriddenIn]; done) | decide +kernel) | decide +kernel | exact Jvm.Free.JP.mathPlain rfl (by decide +kernel)
theorem own_lca_ef (m : MethodId) (x0 : Addr) (x1 : Int32) : entryFrame m #[(.ref x0), (.int x1)] 2 = mkF m 0 #[.val (.ref x0), .val (.int x1)] [] := by first | (simp [entryFrame, mkF, argsToLocals, Value.category]; done) | rfl
def own_lca_Q (Z : State) (va : Addr) (j : Int32) (kv : ClassId) (z : Int32) (vs : List Value) (x : Int32) (vS : Value) (h0 : Heap) (n0 : Nat) (v : Option Value) (h : Heap) (L : List Loc) : Prop := v = some (.int (x &&& (255 : Int32))) ∧ Fr n0 L ∧ h = h0
set_option maxRecDepth 65536 in
set_option maxHeartbeats 40000000 in
theorem own_lca (l : Launch) (Z : State) (a0 : Array Value) (hw : ∀ d ∈ tables_1, d.before a0 Z = true) (ws : List Jvm.Cond) (va : Addr) (j : Int32) (kv : ClassId) (z : Int32) (vs : List Value) (x : Int32) (vS : Value) (h0 : Heap) (n0 : Nat) (O : Old Z n0 h0) (V_va : Arv Z h0 va kv .byte z vs (.int 0)) (hj : ¬ j < 0 ∧ j < z) (hg : vs.getD j.toNatClampNeg (.int 0) = .int x) (S_S : Sta Z Z.heap "jdk/internal/util/Preconditions" "SIOOBE_FORMATTER" "Ljava/util/function/BiFunction;" vS) (hvS : vS.isRef = true) :
    MetFree l (⟨"java/lang/StringLatin1", "charAt", "([BI)C"⟩ : MethodName) (head1 (Jvm.Cond.code (⟨"java/lang/StringLatin1", "charAt", "([BI)C"⟩ : MethodName) jdk_43_method_2_code 2 (some .char) :: ws) ({ frames := 2, cells := 0, slots := 0, locals := 27 } : Room)) (fun a U => a = #[(.ref va), (.int j)] ∧ Z.Warmed39 U.vm ∧ U.heap = h0) (fun _ _ _ _ _ => True) (fun _ U o U' => ∃ v L, o = .returned v ∧ own_lca_Q Z va j kv z vs x vS h0 n0 v U'.heap L ∧ FrameEnd U o U' L ({ frames := 2, cells := 0, slots := 0, locals := 27 } : Room).cells ({ frames := 2, cells := 0, slots := 0, locals := 27 } : Room).slots) := by
  refine MetFree.of_bodySF own_lca_pn hisR ?_
  intro p e s m args below meth c s₁ Bd hml0 hP hK
  obtain ⟨rfl, hZ, hh⟩ := hP
  have hx := Bd.exec
  have hby := Bd.bytes
  have hlk := Bd.notSynchronized
  have hml : c.maxLocals = 2 := hml0
  have hown : s.vm.findClass "java/lang/StringLatin1" = some m.cls := findClass_of_methodNamed Bd.named
  have hnm := (name_of_methodNamed Bd.named Bd.method).1
  have X : Stand p l e ({ frames := 2, cells := 0, slots := 0, locals := 27 } : Room) s m #[(.ref va), (.int j)] below meth c s₁ [] 0 0 := Stand.of_body Bd
  have eT : s₁.heap = h0 := by rw [← hh, Bd.state]; rfl
  have N := Fr.nil n0
  have K0 := Keep.refl h0 []
  show own_Ends p e below (own_Post s below (own_lca_Q Z va j kv z vs x vS h0 n0) ({ frames := 2, cells := 0, slots := 0, locals := 27 } : Room).cells ({ frames := 2, cells := 0, slots := 0, locals := 27 } : Room).slots) s₁ (entryFrame m #[(.ref va), (.int j)] 2)
  rw [own_lca_ef m va j]
  obtain ⟨T, hT⟩ : ∃ z, z = s₁ := ⟨_, rfl⟩
  rw [← hT] at X eT ⊢
  obtain ⟨h, hh0⟩ : ∃ z, z = h0 := ⟨_, rfl⟩
  rw [← hh0] at eT
  replace O : Old Z n0 h := by rw [hh0]; exact O
  replace K0 : Keep h0 h [] := by rw [hh0]; exact K0
  rw [← hh0] at V_va
  refine own_via (g' := (mkF m 2 #[.val (.ref va), .val (.int j)] [(.ref va), (.int j)])) (fun t_ k_ => XS.iloadN X.here hx rfl (hb hby ej43m2_d0) rfl (XS.aloadN X.here hx rfl (hb hby ej43m2_d1) rfl rfl k_)) ?_
  obtain ⟨cl_, Ar_, -, Sz_, Nn_, -, -⟩ := id V_va
  refine own_via (g' := (mkF m 3 #[.val (.ref va), .val (.int j)] [(.int z), (.int j)])) (fun t_ k_ => X.arraylength hx (by rw [eT]; exact Ar_.1) (State.isArrayOf_alike hZ.alike Ar_.2.1) (g := (mkF m 2 #[.val (.ref va), .val (.int j)] [(.ref va), (.int j)])) rfl rfl (hb hby ej43m2_d2) _ (by rw [len_of Sz_ Nn_]; exact k_)) ?_
  obtain ⟨_, _, ⟨T, Lq, kq, nq⟩, -, X, ⟨Lc, hQ, lq, yq, zq⟩, st⟩ := Jvm.LawKit.callS X hx (y := own_y2) hown (mvT hZ (hw _ (own_w 88 rfl))) (mvT hZ (hw _ (own_w 89 rfl))) (mvT hZ (hw _ (own_w 10 rfl))) (mvT hZ (hw _ (own_w 90 rfl))) (by decide) (backOf (W := 0) (own_sci l Z a0 hw [] j z vS h n0 O hj S_S hvS) hZ (hw _ (own_w 90 rfl)) (hw _ (own_w 10 rfl)) (by decide) (by decide)) (g := (mkF m 3 #[.val (.ref va), .val (.int j)] [(.int z), (.int j)])) rfl (by rw [hml]; rfl) (argsL := [(.int j), (.int z)]) (rest := []) (lenOf own_pd2 rfl) rfl (by show 2 * 0 + _ ≤ _; exact Nat.le_of_eq rfl) (hb hby ej43m2_d3) (fun _ _ => ⟨rfl, eT, (by decide : 0 + 0 ≤ _), (by decide : 0 + 0 ≤ _)⟩)
  dsimp only [Pt.U, Pt.locs, Pt.cells, Pt.slots] at X lq yq zq st hQ
  subst lq yq zq
  obtain ⟨rfl, Nq, eT⟩ := hQ
  replace N := Fr.app N Nq
  refine own_via (g' := (mkF m 6 #[.val (.ref va), .val (.int j)] [])) st ?_
  refine own_via (g' := (mkF m 8 #[.val (.ref va), .val (.int j)] [(.int j), (.ref va)])) (fun t_ k_ => XS.aloadN X.here hx rfl (hb hby ej43m2_d6) rfl rfl (XS.iloadN X.here hx rfl (hb hby ej43m2_d7) rfl k_)) ?_
  obtain ⟨cl_, Ar_, -, Sz_, Nn_, Hs_, -⟩ := id V_va
  have hin_ : ¬ (j < 0 ∨ cl_.slots.size ≤ (j).toNatClampNeg) := inb_of Sz_ hj
  have hat_ : cl_.slots[(j).toNatClampNeg]? = some (.int x) := Hs_.at hin_ hg
  refine own_via (g' := (mkF m 14 #[.val (.ref va), .val (.int j)] [(.int ((x &&& (255 : Int32)).toUInt32.toUInt16.toUInt32.toInt32))])) (fun t_ k_ => X.baloadBytes hx (j := j) (v := (.int x)) (by rw [eT]; exact Ar_.1) (State.isArrayOf_alike hZ.alike Ar_.2.1) Ar_.2.2 hin_ hat_ (g := (mkF m 8 #[.val (.ref va), .val (.int j)] [(.int j), (.ref va)])) rfl rfl (hb hby ej43m2_d8) _ (XS.sipush X.here hx rfl (hb hby ej43m2_d9) (XS.iand X.here hx rfl (hb hby ej43m2_d12) rfl (XS.i2c X.here hx rfl (hb hby ej43m2_d13) rfl k_)))) ?_
  rw [i2c_mask]
  refine own_retN X hx hlk (t := .char) Bd.returns (by simp) (hb hby ej43m2_d14) (by decide) (by decide) ?_
  rw [eT]
  exact ⟨by show some (Value.int ((x &&& 255).toUInt32.toUInt16.toUInt32.toInt32)) = _; rw [i2c_mask], N, hh0⟩
theorem ej42m56_d0 : decode jdk_42_method_56_code 0 = .ok (.aload_n 0, 1) := by decide +kernel
theorem ej42m56_d1 : decode jdk_42_method_56_code 1 = .ok (.invokevirtual 492, 3) := by decide +kernel
theorem ej42m56_d4 : decode jdk_42_method_56_code 4 = .ok (.ifCond .eq 12, 3) := by decide +kernel
theorem ej42m56_d7 : decode jdk_42_method_56_code 7 = .ok (.aload_n 0, 1) := by decide +kernel
theorem ej42m56_d8 : decode jdk_42_method_56_code 8 = .ok (.getfield 9, 3) := by decide +kernel
theorem ej42m56_d11 : decode jdk_42_method_56_code 11 = .ok (.iload_n 1, 1) := by decide +kernel
theorem ej42m56_d12 : decode jdk_42_method_56_code 12 = .ok (.invokestatic 495, 3) := by decide +kernel
theorem ej42m56_d15 : decode jdk_42_method_56_code 15 = .ok (.ireturn, 1) := by decide +kernel
theorem own_charAt_pn : plainFor (⟨"java/lang/String", "charAt", "(I)C"⟩ : MethodName) = true := by first | exact plainFor_of_name (by first | (simp [plainName, overriddenIn]; done) | decide +kernel) | decide +kernel | exact Jvm.Free.JP.mathPlain rfl (by decide +kernel)
theorem own_charAt_ef (m : MethodId) (x0 : Addr) (x1 : Int32) : entryFrame m #[(.ref x0), (.int x1)] 2 = mkF m 0 #[.val (.ref x0), .val (.int x1)] [] := by first | (simp [entryFrame, mkF, argsToLocals, Value.category]; done) | rfl
def own_charAt_Q (Z : State) (a1 : Addr) (j : Int32) (va : Addr) (kv : ClassId) (z : Int32) (vs : List Value) (x : Int32) (zc : Int32) (vS : Value) (h0 : Heap) (n0 : Nat) (v : Option Value) (h : Heap) (L : List Loc) : Prop := v = some (.int (x &&& (255 : Int32))) ∧ Fr n0 L ∧ h = h0
set_option maxRecDepth 65536 in
set_option maxHeartbeats 40000000 in
theorem own_charAt (l : Launch) (Z : State) (a0 : Array Value) (hw : ∀ d ∈ tables_1, d.before a0 Z = true) (ws : List Jvm.Cond) (a1 : Addr) (j : Int32) (va : Addr) (kv : ClassId) (z : Int32) (vs : List Value) (x : Int32) (zc : Int32) (vS : Value) (h0 : Heap) (n0 : Nat) (O : Old Z n0 h0) (E_a1 : Exa Z h0 a1 "java/lang/String") (F_value_a1 : Fld Z h0 a1 "java/lang/String" "value" "[B" (.ref va)) (F_coder_a1 : Fld Z h0 a1 "java/lang/String" "coder" "B" (.int 0)) (V_va : Arv Z h0 va kv .byte z vs (.int 0)) (S_C : Sta Z Z.heap "java/lang/String" "COMPACT_STRINGS" "Z" (.int zc)) (hzc : ¬ zc = 0) (hj : ¬ j < 0 ∧ j < z) (hg : vs.getD j.toNatClampNeg (.int 0) = .int x) (S_S : Sta Z Z.heap "jdk/internal/util/Preconditions" "SIOOBE_FORMATTER" "Ljava/util/function/BiFunction;" vS) (hvS : vS.isRef = true) :
    MetFree l (⟨"java/lang/String", "charAt", "(I)C"⟩ : MethodName) (head1 (Jvm.Cond.code (⟨"java/lang/String", "charAt", "(I)C"⟩ : MethodName) jdk_42_method_56_code 2 (some .char) :: ws) ({ frames := 3, cells := 0, slots := 0, locals := 40 } : Room)) (fun a U => a = #[(.ref a1), (.int j)] ∧ Z.Warmed39 U.vm ∧ U.heap = h0) (fun _ _ _ _ _ => True) (fun _ U o U' => ∃ v L, o = .returned v ∧ own_charAt_Q Z a1 j va kv z vs x zc vS h0 n0 v U'.heap L ∧ FrameEnd U o U' L ({ frames := 3, cells := 0, slots := 0, locals := 40 } : Room).cells ({ frames := 3, cells := 0, slots := 0, locals := 40 } : Room).slots) := by
  refine MetFree.of_bodySF own_charAt_pn hisR ?_
  intro p e s m args below meth c s₁ Bd hml0 hP hK
  obtain ⟨rfl, hZ, hh⟩ := hP
  have hx := Bd.exec
  have hby := Bd.bytes
  have hlk := Bd.notSynchronized
  have hml : c.maxLocals = 2 := hml0
  have hown : s.vm.findClass "java/lang/String" = some m.cls := findClass_of_methodNamed Bd.named
  have hnm := (name_of_methodNamed Bd.named Bd.method).1
  have X : Stand p l e ({ frames := 3, cells := 0, slots := 0, locals := 40 } : Room) s m #[(.ref a1), (.int j)] below meth c s₁ [] 0 0 := Stand.of_body Bd
  have eT : s₁.heap = h0 := by rw [← hh, Bd.state]; rfl
  have N := Fr.nil n0
  have K0 := Keep.refl h0 []
  show own_Ends p e below (own_Post s below (own_charAt_Q Z a1 j va kv z vs x zc vS h0 n0) ({ frames := 3, cells := 0, slots := 0, locals := 40 } : Room).cells ({ frames := 3, cells := 0, slots := 0, locals := 40 } : Room).slots) s₁ (entryFrame m #[(.ref a1), (.int j)] 2)
  rw [own_charAt_ef m a1 j]
  obtain ⟨T, hT⟩ : ∃ z, z = s₁ := ⟨_, rfl⟩
  rw [← hT] at X eT ⊢
  obtain ⟨h, hh0⟩ : ∃ z, z = h0 := ⟨_, rfl⟩
  rw [← hh0] at eT
  replace O : Old Z n0 h := by rw [hh0]; exact O
  replace K0 : Keep h0 h [] := by rw [hh0]; exact K0
  rw [← hh0] at E_a1
  rw [← hh0] at F_value_a1
  rw [← hh0] at F_coder_a1
  rw [← hh0] at V_va
  refine own_via (g' := (mkF m 1 #[.val (.ref a1), .val (.int j)] [(.ref a1)])) (fun t_ k_ => XS.aloadN X.here hx rfl (hb hby ej42m56_d0) rfl rfl k_) ?_
  obtain ⟨cq, kq, qa, qb, qc⟩ := isOf hZ eT E_a1
  obtain ⟨_, _, ⟨T, Lq, kq, nq⟩, -, X, ⟨Lc, hQ, lq, yq, zq⟩, st⟩ := X.virtualBack hx (y := own_y3) (z := own_y3) hown (mvT hZ (hw _ (own_w 79 rfl))) (mvT hZ (hw _ (own_w 80 rfl))) (notFace_of_selects (args := #[]) (mvT hZ (hw _ (own_w 82 rfl)))) (mvT hZ (hw _ (own_w 82 rfl))) (mvT hZ (hw _ (own_w 81 rfl))) (by decide) (backOf (W := 0) (own_sil l Z a0 hw [] a1 va kv z vs zc h n0 O E_a1 F_value_a1 F_coder_a1 V_va S_C hzc) hZ (hw _ (own_w 83 rfl)) (hw _ (own_w 10 rfl)) (by decide) (by decide)) qa qc (g := (mkF m 1 #[.val (.ref a1), .val (.int j)] [(.ref a1)])) rfl (by rw [hml]; rfl) (Steps.refl _) (argsL := []) (rest := []) (lenOf own_pd3 rfl) rfl (by show 2 * 0 + _ ≤ _; exact Nat.le_of_eq rfl) (hb hby ej42m56_d1) (fun _ _ => ⟨rfl, eT, (by decide : 0 + 0 ≤ _), (by decide : 0 + 0 ≤ _)⟩)
  dsimp only [Pt.U, Pt.locs, Pt.cells, Pt.slots] at X lq yq zq st hQ
  subst lq yq zq
  obtain ⟨rfl, Nq, eT⟩ := hQ
  replace N := Fr.app N Nq
  refine own_viaT (g' := (mkF m 4 #[.val (.ref a1), .val (.int j)] [(.int 1)])) st ?_
  refine own_via (g' := (mkF m 8 #[.val (.ref a1), .val (.int j)] [(.ref a1)])) (fun t_ k_ => XS.ifNo X.here hx rfl (hb hby ej42m56_d4) rfl ((if0 _ _).trans (feq (by decide : ¬ ((1 : Int32) = (0 : Int32)))).1) (XS.aloadN X.here hx rfl (hb hby ej42m56_d7) rfl rfl k_)) ?_
  obtain ⟨T, X, eT, st⟩ := getF X hx hZ hown (host := "") (Or.inl (hw _ (own_w 27 rfl))) Via.refl eT F_value_a1 (g := (mkF m 8 #[.val (.ref a1), .val (.int j)] [(.ref a1)])) rfl rfl (hb hby ej42m56_d8)
  refine own_via (g' := (mkF m 11 #[.val (.ref a1), .val (.int j)] [(.ref va)])) st ?_
  refine own_via (g' := (mkF m 12 #[.val (.ref a1), .val (.int j)] [(.int j), (.ref va)])) (fun t_ k_ => XS.iloadN X.here hx rfl (hb hby ej42m56_d11) rfl k_) ?_
  obtain ⟨_, _, ⟨T, Lq, kq, nq⟩, -, X, ⟨Lc, hQ, lq, yq, zq⟩, st⟩ := Jvm.LawKit.callS X hx (y := own_y4) hown (mvT hZ (hw _ (own_w 84 rfl))) (mvT hZ (hw _ (own_w 85 rfl))) (mvT hZ (hw _ (own_w 86 rfl))) (mvT hZ (hw _ (own_w 87 rfl))) (by decide) (backOf (W := 0) (own_lca l Z a0 hw [] va j kv z vs x vS h n0 O V_va hj hg S_S hvS) hZ (hw _ (own_w 87 rfl)) (hw _ (own_w 86 rfl)) (by decide) (by decide)) (g := (mkF m 12 #[.val (.ref a1), .val (.int j)] [(.int j), (.ref va)])) rfl (by rw [hml]; rfl) (argsL := [(.ref va), (.int j)]) (rest := []) (lenOf own_pd4 rfl) rfl (by show 2 * 0 + _ ≤ _; exact Nat.le_of_eq rfl) (hb hby ej42m56_d12) (fun _ _ => ⟨rfl, eT, (by decide : 0 + 0 ≤ _), (by decide : 0 + 0 ≤ _)⟩)
  dsimp only [Pt.U, Pt.locs, Pt.cells, Pt.slots] at X lq yq zq st hQ
  subst lq yq zq
  obtain ⟨rfl, Nq, eT⟩ := hQ
  replace N := Fr.app N Nq
  refine own_via (g' := (mkF m 15 #[.val (.ref a1), .val (.int j)] [(.int (x &&& (255 : Int32)))])) st ?_
  refine own_retN X hx hlk (t := .char) Bd.returns (by simp) (hb hby ej42m56_d15) (by decide) (by decide) ?_
  rw [eT]
  exact ⟨by show some (Value.int ((x &&& 255).toUInt32.toUInt16.toUInt32.toInt32)) = _; rw [i2c_mask], N, hh0⟩
theorem ej65m121_d0 : decode jdk_65_method_121_code 0 = .ok (.iload_n 1, 1) := by decide +kernel
theorem ej65m121_d1 : decode jdk_65_method_121_code 1 = .ok (.aload_n 0, 1) := by decide +kernel
theorem ej65m121_d2 : decode jdk_65_method_121_code 2 = .ok (.arraylength, 1) := by decide +kernel
theorem ej65m121_d3 : decode jdk_65_method_121_code 3 = .ok (.if_icmp .ne 11, 3) := by decide +kernel
theorem ej65m121_d6 : decode jdk_65_method_121_code 6 = .ok (.aload_n 0, 1) := by decide +kernel
theorem ej65m121_d7 : decode jdk_65_method_121_code 7 = .ok (.invokevirtual 310, 3) := by decide +kernel
theorem ej65m121_d10 : decode jdk_65_method_121_code 10 = .ok (.checkcast 311, 3) := by decide +kernel
theorem ej65m121_d13 : decode jdk_65_method_121_code 13 = .ok (.areturn, 1) := by decide +kernel
theorem ej65m121_d14 : decode jdk_65_method_121_code 14 = .ok (.iload_n 1, 1) := by decide +kernel
theorem ej65m121_d15 : decode jdk_65_method_121_code 15 = .ok (.newarray .byte, 2) := by decide +kernel
theorem ej65m121_d17 : decode jdk_65_method_121_code 17 = .ok (.astore_n 2, 1) := by decide +kernel
theorem ej65m121_d18 : decode jdk_65_method_121_code 18 = .ok (.aload_n 0, 1) := by decide +kernel
theorem ej65m121_d19 : decode jdk_65_method_121_code 19 = .ok (.iconst 0, 1) := by decide +kernel
theorem ej65m121_d20 : decode jdk_65_method_121_code 20 = .ok (.aload_n 2, 1) := by decide +kernel
theorem ej65m121_d21 : decode jdk_65_method_121_code 21 = .ok (.iconst 0, 1) := by decide +kernel
theorem ej65m121_d22 : decode jdk_65_method_121_code 22 = .ok (.aload_n 0, 1) := by decide +kernel
theorem ej65m121_d23 : decode jdk_65_method_121_code 23 = .ok (.arraylength, 1) := by decide +kernel
theorem ej65m121_d24 : decode jdk_65_method_121_code 24 = .ok (.iload_n 1, 1) := by decide +kernel
theorem ej65m121_d25 : decode jdk_65_method_121_code 25 = .ok (.invokestatic 304, 3) := by decide +kernel
theorem ej65m121_d28 : decode jdk_65_method_121_code 28 = .ok (.invokestatic 150, 3) := by decide +kernel
theorem ej65m121_d31 : decode jdk_65_method_121_code 31 = .ok (.aload_n 2, 1) := by decide +kernel
theorem ej65m121_d32 : decode jdk_65_method_121_code 32 = .ok (.areturn, 1) := by decide +kernel
theorem own_copyOf_pn : plainFor (⟨"java/util/Arrays", "copyOf", "([BI)[B"⟩ : MethodName) = true := by first | exact plainFor_of_name (by first | (simp [plainName, overriddenIn]; done) | decide +kernel) | decide +kernel | exact Jvm.Free.JP.mathPlain rfl (by decide +kernel)
theorem own_copyOf_ef (m : MethodId) (x0 : Addr) (x1 : Int32) : entryFrame m #[(.ref x0), (.int x1)] 3 = mkF m 0 #[.val (.ref x0), .val (.int x1), .unset] [] := by first | (simp [entryFrame, mkF, argsToLocals, Value.category]; done) | rfl
def own_copyOf_Q (Z : State) (va : Addr) (kv : ClassId) (n : Int32) (z : Int32) (cs : List Value) (h0 : Heap) (n0 : Nat) (v : Option Value) (h : Heap) (L : List Loc) : Prop := ∃ b kb, v = some (.ref b) ∧ Fr n0 L ∧ Keep h0 h [] ∧ h0.size ≤ b ∧ Arv Z h b kb .byte n cs (.int 0) ∧ Exa Z h b "[B"
set_option maxRecDepth 65536 in
set_option maxHeartbeats 40000000 in
theorem own_copyOf (l : Launch) (Z : State) (a0 : Array Value) (hw : ∀ d ∈ tables_1, d.before a0 Z = true) (ws : List Jvm.Cond) (va : Addr) (kv : ClassId) (n : Int32) (z : Int32) (cs : List Value) (h0 : Heap) (n0 : Nat) (O : Old Z n0 h0) (E_va : Exa Z h0 va "[B") (V_va : Arv Z h0 va kv .byte z cs (.int 0)) (hp : (n, z) ∈ own_D2) (hl : cs.length = n.toNatClampNeg) :
    MetFree l (⟨"java/util/Arrays", "copyOf", "([BI)[B"⟩ : MethodName) (head1 (Jvm.Cond.code (⟨"java/util/Arrays", "copyOf", "([BI)[B"⟩ : MethodName) jdk_65_method_121_code 3 (some (.array .byte)) :: ws) ({ frames := 1, cells := 1, slots := 12, locals := 18 } : Room)) (fun a U => a = #[(.ref va), (.int n)] ∧ Z.Warmed39 U.vm ∧ U.heap = h0) (fun _ _ _ _ _ => True) (fun _ U o U' => ∃ v L, o = .returned v ∧ own_copyOf_Q Z va kv n z cs h0 n0 v U'.heap L ∧ FrameEnd U o U' L ({ frames := 1, cells := 1, slots := 12, locals := 18 } : Room).cells ({ frames := 1, cells := 1, slots := 12, locals := 18 } : Room).slots) := by
  refine MetFree.of_bodySF own_copyOf_pn hisR ?_
  intro p e s m args below meth c s₁ Bd hml0 hP hK
  obtain ⟨rfl, hZ, hh⟩ := hP
  have hx := Bd.exec
  have hby := Bd.bytes
  have hlk := Bd.notSynchronized
  have hml : c.maxLocals = 3 := hml0
  have hown : s.vm.findClass "java/util/Arrays" = some m.cls := findClass_of_methodNamed Bd.named
  have hnm := (name_of_methodNamed Bd.named Bd.method).1
  have X : Stand p l e ({ frames := 1, cells := 1, slots := 12, locals := 18 } : Room) s m #[(.ref va), (.int n)] below meth c s₁ [] 0 0 := Stand.of_body Bd
  have eT : s₁.heap = h0 := by rw [← hh, Bd.state]; rfl
  have N := Fr.nil n0
  have K0 := Keep.refl h0 []
  show own_Ends p e below (own_Post s below (own_copyOf_Q Z va kv n z cs h0 n0) ({ frames := 1, cells := 1, slots := 12, locals := 18 } : Room).cells ({ frames := 1, cells := 1, slots := 12, locals := 18 } : Room).slots) s₁ (entryFrame m #[(.ref va), (.int n)] 3)
  rw [own_copyOf_ef m va n]
  obtain ⟨T, hT⟩ : ∃ z, z = s₁ := ⟨_, rfl⟩
  rw [← hT] at X eT ⊢
  obtain ⟨h, hh0⟩ : ∃ z, z = h0 := ⟨_, rfl⟩
  rw [← hh0] at eT
  replace O : Old Z n0 h := by rw [hh0]; exact O
  replace K0 : Keep h0 h [] := by rw [hh0]; exact K0
  rw [← hh0] at E_va
  rw [← hh0] at V_va
  refine own_via (g' := (mkF m 2 (own_A22 va n) [(.ref va), (.int n)])) (fun t_ k_ => XS.iloadN X.here hx rfl (hb hby ej65m121_d0) rfl (XS.aloadN X.here hx rfl (hb hby ej65m121_d1) rfl rfl k_)) ?_
  obtain ⟨cl_, Ar_, -, Sz_, Nn_, -, -⟩ := id V_va
  refine own_via (g' := (mkF m 3 (own_A22 va n) [(.int z), (.int n)])) (fun t_ k_ => X.arraylength hx (by rw [eT]; exact Ar_.1) (State.isArrayOf_alike hZ.alike Ar_.2.1) (g := (mkF m 2 (own_A22 va n) [(.ref va), (.int n)])) rfl rfl (hb hby ej65m121_d2) _ (by rw [len_of Sz_ Nn_]; exact k_)) ?_
  by_cases hc1 : n = z
  · refine own_via (g' := (mkF m 7 (own_A22 va n) [(.ref va)])) (fun t_ k_ => XS.icmpNo X.here hx rfl (hb hby ej65m121_d3) rfl (teq hc1).2 (XS.aloadN X.here hx rfl (hb hby ej65m121_d6) rfl rfl k_)) ?_
    obtain ⟨b2, gb⟩ : ∃ z, z = h.size := ⟨_, rfl⟩
    obtain ⟨T, h3, X, eT, E, V_b2, E_b2, st⟩ := cloneH X hx hZ hown (hw _ (own_w 48 rfl)) (hw _ (own_w 49 rfl)) (hw _ (own_w 53 rfl)) (hw _ (own_w 51 rfl)) (hw _ (own_w 52 rfl)) (hw _ (own_w 54 rfl)) eT V_va.arh E_va (g := (mkF m 7 (own_A22 va n) [(.ref va)])) rfl (by rw [hml]; rfl) rfl (hb hby ej65m121_d7) (by decide) (W := 0) (cap := 12) (by show 2 * 0 + _ ≤ _; exact Nat.le_of_eq rfl) (by decide) (own_dom2 (P := fun n z => z.toNatClampNeg ≤ 12) (by decide) hp) (by decide) (by decide)
    rw [← gb] at V_b2 E_b2 st
    have ne_va_b2 : va ≠ b2 := Nat.ne_of_lt (Nat.lt_of_lt_of_le E_va.lt (Nat.le_of_eq gb.symm))
    have g_b2 : n0 ≤ b2 := Nat.le_trans (own_le O) (Nat.le_of_eq gb.symm)
    have sz_b2 : h0.size ≤ b2 := Nat.le_trans K0.1 (Nat.le_of_eq gb.symm)
    replace E_va := E_va.ext E
    replace V_va := V_va.ext E
    replace O := O.ext E
    replace K0 := K0.ext E
    replace V_b2 : Arv Z h3 b2 kv .byte z cs (.int 0) := V_b2
    refine own_via (g' := (mkF m 10 (own_A22 va n) [(.ref b2)])) st ?_
    obtain ⟨T, X, eT, st⟩ := castY X hx hZ hown (hw _ (own_w 55 rfl)) eT (Ins.self E_b2) (g := (mkF m 10 (own_A22 va n) [(.ref b2)])) rfl rfl (hb hby ej65m121_d10)
    refine own_via (g' := (mkF m 13 (own_A22 va n) [(.ref b2)])) st ?_
    refine own_retW X hx hlk Bd.returns rfl (Or.inr (Or.inr (Or.inr (Or.inr ⟨rfl, rfl, rfl⟩)))) (hb hby ej65m121_d13) (by decide) (by decide) ?_
    rw [eT]
    exact ⟨b2, _, rfl, N, K0, sz_b2, hc1.symm ▸ V_b2, E_b2⟩
  · refine own_via (g' := (mkF m 15 (own_A22 va n) [(.int n)])) (fun t_ k_ => XS.icmpYes X.here hx rfl (pc0 := 3) (pc' := 14) rfl (hb hby ej65m121_d3) rfl (feq hc1).2 (by decide) (by decide) (XS.iloadN X.here hx rfl (hb hby ej65m121_d14) rfl k_)) ?_
    obtain ⟨b4, gb⟩ : ∃ z, z = h.size := ⟨_, rfl⟩
    obtain ⟨T, h5, kb4, X, eT, E, A_, E_b4, st⟩ := newPE X hx hZ (hw _ (own_w 22 rfl)) eT (g := (mkF m 15 (own_A22 va n) [(.int n)])) rfl (hb hby ej65m121_d15) rfl (own_dom2 (P := fun n z => ¬ (n) < 0) (by decide) hp) (cap := 3) (own_dom2 (P := fun n z => (n).toNatClampNeg ≤ 3) (by decide) hp) (by decide) (by decide) (by decide) (ad := "[B") (by decide)
    rw [← gb] at A_ E_b4 st
    have ne_va_b4 : va ≠ b4 := Nat.ne_of_lt (Nat.lt_of_lt_of_le E_va.lt (Nat.le_of_eq gb.symm))
    have g_b4 : n0 ≤ b4 := Nat.le_trans (own_le O) (Nat.le_of_eq gb.symm)
    have sz_b4 : h0.size ≤ b4 := Nat.le_trans K0.1 (Nat.le_of_eq gb.symm)
    replace E_va := E_va.ext E
    replace V_va := V_va.ext E
    replace O := O.ext E
    replace K0 := K0.ext E
    have V_b4 : Arv Z h5 b4 kb4 .byte n (List.replicate n.toNatClampNeg (Value.int (0 : Int32))) (.int 0) := (Arv.new A_ (own_dom2 (P := fun n z => ¬ (n) < 0) (by decide) hp)).pad (pad_rep [] (.int 0) n.toNatClampNeg)
    refine own_via (g' := (mkF m 17 (own_A22 va n) [(.ref b4)])) st ?_
    refine own_via (g' := (mkF m 23 (own_A20 va n b4) [(.ref va), (.int 0), (.ref b4), (.int 0), (.ref va)])) (fun t_ k_ => XS.astoreN X.here hx rfl (hb hby ej65m121_d17) rfl rfl (l' := (own_A20 va n b4)) rfl (XS.aloadN X.here hx rfl (hb hby ej65m121_d18) rfl rfl (XS.iconst X.here hx rfl (hb hby ej65m121_d19) (XS.aloadN X.here hx rfl (hb hby ej65m121_d20) rfl rfl (XS.iconst X.here hx rfl (hb hby ej65m121_d21) (XS.aloadN X.here hx rfl (hb hby ej65m121_d22) rfl rfl k_)))))) ?_
    obtain ⟨cl_, Ar_, -, Sz_, Nn_, -, -⟩ := id V_va
    refine own_via (g' := (mkF m 24 (own_A20 va n b4) [(.int z), (.int 0), (.ref b4), (.int 0), (.ref va)])) (fun t_ k_ => X.arraylength hx (by rw [eT]; exact Ar_.1) (State.isArrayOf_alike hZ.alike Ar_.2.1) (g := (mkF m 23 (own_A20 va n b4) [(.ref va), (.int 0), (.ref b4), (.int 0), (.ref va)])) rfl rfl (hb hby ej65m121_d23) _ (by rw [len_of Sz_ Nn_]; exact k_)) ?_
    refine own_via (g' := (mkF m 25 (own_A20 va n b4) [(.int n), (.int z), (.int 0), (.ref b4), (.int 0), (.ref va)])) (fun t_ k_ => XS.iloadN X.here hx rfl (hb hby ej65m121_d24) rfl k_) ?_
    obtain ⟨_, _, ⟨T, Lq, kq, nq⟩, -, X, ⟨Lc, hQ, lq, yq, zq⟩, st⟩ := Jvm.LawKit.callS X hx (y := own_y5) hown (mvT hZ (hw _ (own_w 102 rfl))) (mvT hZ (hw _ (own_w 103 rfl))) (mvT hZ (hw _ (own_w 104 rfl))) (mvT hZ (hw _ (own_w 105 rfl))) (by decide) (backOf (W := 4) (own_min l Z a0 hw [] z n n h5 n0 O (own_dom2 (P := fun n z => (n < z → n = n) ∧ (¬ n < z → n = z)) (by decide) hp)) hZ (hw _ (own_w 105 rfl)) (hw _ (own_w 104 rfl)) (by decide) (by decide)) (g := (mkF m 25 (own_A20 va n b4) [(.int n), (.int z), (.int 0), (.ref b4), (.int 0), (.ref va)])) rfl (by rw [hml]; rfl) (argsL := [(.int z), (.int n)]) (rest := [(.int 0), (.ref b4), (.int 0), (.ref va)]) (lenOf own_pd5 rfl) rfl (by show 2 * 0 + _ ≤ _; exact Nat.le_of_eq rfl) (hb hby ej65m121_d25) (fun _ _ => ⟨rfl, eT, (by decide : 1 + 0 ≤ _), (by decide : 3 + 0 ≤ _)⟩)
    dsimp only [Pt.U, Pt.locs, Pt.cells, Pt.slots] at X lq yq zq st hQ
    subst lq yq zq
    obtain ⟨rfl, Nq, eT⟩ := hQ
    replace N := Fr.app N Nq
    refine own_via (g' := (mkF m 28 (own_A20 va n b4) [(.int n), (.int 0), (.ref b4), (.int 0), (.ref va)])) st ?_
    obtain ⟨T, h6, Lq, X, eT, N, Kq, Vq, st⟩ := cpA X hx hZ hown (hw _ (own_w 106 rfl)) (hw _ (own_w 109 rfl)) (hw _ (own_w 107 rfl)) (hw _ (own_w 108 rfl)) eT V_va V_b4 (Or.inl ⟨rfl, rfl⟩) (sp := (0 : Int32)) (dp := (0 : Int32)) (nn := n) (by decide) (by decide) (own_dom2 (P := fun n z => ¬ n < 0) (by decide) hp) (own_dom2 (P := fun n z => (0 : Int32).toNatClampNeg + (n).toNatClampNeg ≤ (z).toNatClampNeg) (by decide) hp) (own_dom2 (P := fun n z => (0 : Int32).toNatClampNeg + (n).toNatClampNeg ≤ (n).toNatClampNeg) (by decide) hp) rfl (by rw [List.length_replicate]; exact Nat.le_of_eq (Nat.zero_add _)) N g_b4 (g := (mkF m 28 (own_A20 va n b4) [(.int n), (.int 0), (.ref b4), (.int 0), (.ref va)])) rfl (by rw [hml]; rfl) rfl (hb hby ej65m121_d28) (by decide) (W := 0) (by show 2 * 0 + _ ≤ _; exact Nat.le_of_eq rfl) (by decide)
    replace V_b4 : Arv Z h6 b4 kb4 .byte n cs (.int 0) := by
      have e_ := own_cpy cs _ hl (.int 0)
      rw [← e_]; exact Vq
    replace E_va := E_va.keep Kq
    replace V_va := V_va.keep Kq (ninS ne_va_b4 nin0)
    replace E_b4 := E_b4.keep Kq
    replace O := O.keep Kq (allS g_b4 all0)
    replace K0 := K0.trans Kq (allS (Or.inr sz_b4) all0)
    refine own_via (g' := (mkF m 31 (own_A20 va n b4) [])) st ?_
    refine own_via (g' := (mkF m 32 (own_A20 va n b4) [(.ref b4)])) (fun t_ k_ => XS.aloadN X.here hx rfl (hb hby ej65m121_d31) rfl rfl k_) ?_
    refine own_retW X hx hlk Bd.returns rfl (Or.inr (Or.inr (Or.inr (Or.inr ⟨rfl, rfl, rfl⟩)))) (hb hby ej65m121_d32) (by decide) (by decide) ?_
    rw [eT]
    exact ⟨b4, _, rfl, N, K0, sz_b4, V_b4, E_b4⟩
theorem ep10m5_d0 : decode prog_10_method_5_code 0 = .ok (.iload_n 0, 1) := by decide +kernel
theorem ep10m5_d1 : decode prog_10_method_5_code 1 = .ok (.bipush 48, 2) := by decide +kernel
theorem ep10m5_d3 : decode prog_10_method_5_code 3 = .ok (.if_icmp .lt 14, 3) := by decide +kernel
theorem ep10m5_d6 : decode prog_10_method_5_code 6 = .ok (.iload_n 0, 1) := by decide +kernel
theorem ep10m5_d7 : decode prog_10_method_5_code 7 = .ok (.bipush 57, 2) := by decide +kernel
theorem ep10m5_d9 : decode prog_10_method_5_code 9 = .ok (.if_icmp .gt 8, 3) := by decide +kernel
theorem ep10m5_d12 : decode prog_10_method_5_code 12 = .ok (.iload_n 0, 1) := by decide +kernel
theorem ep10m5_d13 : decode prog_10_method_5_code 13 = .ok (.bipush 48, 2) := by decide +kernel
theorem ep10m5_d15 : decode prog_10_method_5_code 15 = .ok (.isub, 1) := by decide +kernel
theorem ep10m5_d16 : decode prog_10_method_5_code 16 = .ok (.ireturn, 1) := by decide +kernel
theorem ep10m5_d17 : decode prog_10_method_5_code 17 = .ok (.iload_n 0, 1) := by decide +kernel
theorem ep10m5_d18 : decode prog_10_method_5_code 18 = .ok (.bipush 65, 2) := by decide +kernel
theorem ep10m5_d20 : decode prog_10_method_5_code 20 = .ok (.if_icmp .lt 17, 3) := by decide +kernel
theorem ep10m5_d23 : decode prog_10_method_5_code 23 = .ok (.iload_n 0, 1) := by decide +kernel
theorem ep10m5_d24 : decode prog_10_method_5_code 24 = .ok (.bipush 70, 2) := by decide +kernel
theorem ep10m5_d26 : decode prog_10_method_5_code 26 = .ok (.if_icmp .gt 11, 3) := by decide +kernel
theorem ep10m5_d29 : decode prog_10_method_5_code 29 = .ok (.iload_n 0, 1) := by decide +kernel
theorem ep10m5_d30 : decode prog_10_method_5_code 30 = .ok (.bipush 65, 2) := by decide +kernel
theorem ep10m5_d32 : decode prog_10_method_5_code 32 = .ok (.isub, 1) := by decide +kernel
theorem ep10m5_d33 : decode prog_10_method_5_code 33 = .ok (.bipush 10, 2) := by decide +kernel
theorem ep10m5_d35 : decode prog_10_method_5_code 35 = .ok (.iadd, 1) := by decide +kernel
theorem ep10m5_d36 : decode prog_10_method_5_code 36 = .ok (.ireturn, 1) := by decide +kernel
theorem own_hexDigit_pn : plainFor (⟨"com/example/rows_to_regions/rowstoregions/KeyText", "hexDigit", "(C)I"⟩ : MethodName) = true := by first | exact plainFor_of_name (by first | (simp [plainName, overriddenIn]; done) | decide +kernel) | decide +kernel | exact Jvm.Free.JP.mathPlain rfl (by decide +kernel)
theorem own_hexDigit_ef (m : MethodId) (x0 : Int32) : entryFrame m #[(.int x0)] 1 = mkF m 0 #[.val (.int x0)] [] := by first | (simp [entryFrame, mkF, argsToLocals, Value.category]; done) | rfl
def own_hexDigit_Q (Z : State) (d : Int32) (h0 : Heap) (n0 : Nat) (v : Option Value) (h : Heap) (L : List Loc) : Prop := v = some (.int d) ∧ Fr n0 L ∧ h = h0
set_option maxRecDepth 65536 in
set_option maxHeartbeats 40000000 in
theorem own_hexDigit (l : Launch) (Z : State) (a0 : Array Value) (hw : ∀ d ∈ tables_1, d.before a0 Z = true) (ws : List Jvm.Cond) (d : Int32) (h0 : Heap) (n0 : Nat) (O : Old Z n0 h0) (dd : d ∈ own_L16) :
    MetFree l (⟨"com/example/rows_to_regions/rowstoregions/KeyText", "hexDigit", "(C)I"⟩ : MethodName) (head1 (Jvm.Cond.code (⟨"com/example/rows_to_regions/rowstoregions/KeyText", "hexDigit", "(C)I"⟩ : MethodName) prog_10_method_5_code 1 (some .int) :: ws) ({ frames := 0, cells := 0, slots := 0, locals := 0 } : Room)) (fun a U => a = #[(.int (own_hx d))] ∧ Z.Warmed39 U.vm ∧ U.heap = h0) (fun _ _ _ _ _ => True) (fun _ U o U' => ∃ v L, o = .returned v ∧ own_hexDigit_Q Z d h0 n0 v U'.heap L ∧ FrameEnd U o U' L ({ frames := 0, cells := 0, slots := 0, locals := 0 } : Room).cells ({ frames := 0, cells := 0, slots := 0, locals := 0 } : Room).slots) := by
  refine MetFree.of_bodySF own_hexDigit_pn hisR ?_
  intro p e s m args below meth c s₁ Bd hml0 hP hK
  obtain ⟨rfl, hZ, hh⟩ := hP
  have hx := Bd.exec
  have hby := Bd.bytes
  have hlk := Bd.notSynchronized
  have hml : c.maxLocals = 1 := hml0
  have hown : s.vm.findClass "com/example/rows_to_regions/rowstoregions/KeyText" = some m.cls := findClass_of_methodNamed Bd.named
  have hnm := (name_of_methodNamed Bd.named Bd.method).1
  have X : Stand p l e ({ frames := 0, cells := 0, slots := 0, locals := 0 } : Room) s m #[(.int (own_hx d))] below meth c s₁ [] 0 0 := Stand.of_body Bd
  have eT : s₁.heap = h0 := by rw [← hh, Bd.state]; rfl
  have N := Fr.nil n0
  have K0 := Keep.refl h0 []
  show own_Ends p e below (own_Post s below (own_hexDigit_Q Z d h0 n0) ({ frames := 0, cells := 0, slots := 0, locals := 0 } : Room).cells ({ frames := 0, cells := 0, slots := 0, locals := 0 } : Room).slots) s₁ (entryFrame m #[(.int (own_hx d))] 1)
  rw [own_hexDigit_ef m (own_hx d)]
  obtain ⟨T, hT⟩ : ∃ z, z = s₁ := ⟨_, rfl⟩
  rw [← hT] at X eT ⊢
  obtain ⟨h, hh0⟩ : ∃ z, z = h0 := ⟨_, rfl⟩
  rw [← hh0] at eT
  replace O : Old Z n0 h := by rw [hh0]; exact O
  replace K0 : Keep h0 h [] := by rw [hh0]; exact K0
  by_cases h10 : d < (10 : Int32)
  · have hq := own_hd1 dd h10
    refine own_via (g' := (mkF m 16 #[.val (.int (own_hx d))] [(.int ((own_hx d) - (48 : Int32)))])) (fun t_ k_ => XS.iloadN X.here hx rfl (hb hby ep10m5_d0) rfl (XS.bipush X.here hx rfl (hb hby ep10m5_d1) (XS.icmpNo X.here hx rfl (hb hby ep10m5_d3) rfl (flt hq.1).1 (XS.iloadN X.here hx rfl (hb hby ep10m5_d6) rfl (XS.bipush X.here hx rfl (hb hby ep10m5_d7) (XS.icmpNo X.here hx rfl (hb hby ep10m5_d9) rfl (flt hq.2.1).2.2.1 (XS.iloadN X.here hx rfl (hb hby ep10m5_d12) rfl (XS.bipush X.here hx rfl (hb hby ep10m5_d13) (XS.isub X.here hx rfl (hb hby ep10m5_d15) rfl k_))))))))) ?_
    refine own_retW X hx hlk Bd.returns rfl (Or.inl ⟨rfl, Or.inl rfl, _, rfl⟩) (hb hby ep10m5_d16) (by decide) (by decide) ?_
    rw [eT]
    exact ⟨by rw [hq.2.2], N, hh0⟩
  · have hq := own_hd2 dd h10
    refine own_via (g' := (mkF m 24 #[.val (.int (own_hx d))] [(.int (own_hx d))])) (fun t_ k_ => XS.iloadN X.here hx rfl (hb hby ep10m5_d0) rfl (XS.bipush X.here hx rfl (hb hby ep10m5_d1) (XS.icmpNo X.here hx rfl (hb hby ep10m5_d3) rfl (flt hq.1).1 (XS.iloadN X.here hx rfl (hb hby ep10m5_d6) rfl (XS.bipush X.here hx rfl (hb hby ep10m5_d7) (XS.icmpYes X.here hx rfl (pc0 := 9) (pc' := 17) rfl (hb hby ep10m5_d9) rfl (tlt hq.2.1).2.2.1 (by decide) (by decide) (XS.iloadN X.here hx rfl (hb hby ep10m5_d17) rfl (XS.bipush X.here hx rfl (hb hby ep10m5_d18) (XS.icmpNo X.here hx rfl (hb hby ep10m5_d20) rfl (flt hq.2.2.1).1 (XS.iloadN X.here hx rfl (hb hby ep10m5_d23) rfl k_)))))))))) ?_
    refine own_via (g' := (mkF m 36 #[.val (.int (own_hx d))] [(.int (((own_hx d) - (65 : Int32)) + (10 : Int32)))])) (fun t_ k_ => XS.bipush X.here hx rfl (hb hby ep10m5_d24) (XS.icmpNo X.here hx rfl (hb hby ep10m5_d26) rfl (flt hq.2.2.2.1).2.2.1 (XS.iloadN X.here hx rfl (hb hby ep10m5_d29) rfl (XS.bipush X.here hx rfl (hb hby ep10m5_d30) (XS.isub X.here hx rfl (hb hby ep10m5_d32) rfl (XS.bipush X.here hx rfl (hb hby ep10m5_d33) (XS.iadd X.here hx rfl (hb hby ep10m5_d35) rfl k_))))))) ?_
    refine own_retW X hx hlk Bd.returns rfl (Or.inl ⟨rfl, Or.inl rfl, _, rfl⟩) (hb hby ep10m5_d36) (by decide) (by decide) ?_
    rw [eT]
    exact ⟨by rw [hq.2.2.2.2], N, hh0⟩
theorem ep10m4_d0 : decode prog_10_method_4_code 0 = .ok (.iload_n 1, 1) := by decide +kernel
theorem ep10m4_d1 : decode prog_10_method_4_code 1 = .ok (.iconst 3, 1) := by decide +kernel
theorem ep10m4_d2 : decode prog_10_method_4_code 2 = .ok (.iadd, 1) := by decide +kernel
theorem ep10m4_d3 : decode prog_10_method_4_code 3 = .ok (.aload_n 0, 1) := by decide +kernel
theorem ep10m4_d4 : decode prog_10_method_4_code 4 = .ok (.invokevirtual 26, 3) := by decide +kernel
theorem ep10m4_d7 : decode prog_10_method_4_code 7 = .ok (.if_icmp .ge 15, 3) := by decide +kernel
theorem ep10m4_d10 : decode prog_10_method_4_code 10 = .ok (.aload_n 0, 1) := by decide +kernel
theorem ep10m4_d11 : decode prog_10_method_4_code 11 = .ok (.iload_n 1, 1) := by decide +kernel
theorem ep10m4_d12 : decode prog_10_method_4_code 12 = .ok (.iconst 1, 1) := by decide +kernel
theorem ep10m4_d13 : decode prog_10_method_4_code 13 = .ok (.iadd, 1) := by decide +kernel
theorem ep10m4_d14 : decode prog_10_method_4_code 14 = .ok (.invokevirtual 32, 3) := by decide +kernel
theorem ep10m4_d17 : decode prog_10_method_4_code 17 = .ok (.bipush 120, 2) := by decide +kernel
theorem ep10m4_d19 : decode prog_10_method_4_code 19 = .ok (.if_icmp .eq 5, 3) := by decide +kernel
theorem ep10m4_d24 : decode prog_10_method_4_code 24 = .ok (.aload_n 0, 1) := by decide +kernel
theorem ep10m4_d25 : decode prog_10_method_4_code 25 = .ok (.iload_n 1, 1) := by decide +kernel
theorem ep10m4_d26 : decode prog_10_method_4_code 26 = .ok (.iconst 2, 1) := by decide +kernel
theorem ep10m4_d27 : decode prog_10_method_4_code 27 = .ok (.iadd, 1) := by decide +kernel
theorem ep10m4_d28 : decode prog_10_method_4_code 28 = .ok (.invokevirtual 32, 3) := by decide +kernel
theorem ep10m4_d31 : decode prog_10_method_4_code 31 = .ok (.invokestatic 67, 3) := by decide +kernel
theorem ep10m4_d34 : decode prog_10_method_4_code 34 = .ok (.istore_n 2, 1) := by decide +kernel
theorem ep10m4_d35 : decode prog_10_method_4_code 35 = .ok (.aload_n 0, 1) := by decide +kernel
theorem ep10m4_d36 : decode prog_10_method_4_code 36 = .ok (.iload_n 1, 1) := by decide +kernel
theorem ep10m4_d37 : decode prog_10_method_4_code 37 = .ok (.iconst 3, 1) := by decide +kernel
theorem ep10m4_d38 : decode prog_10_method_4_code 38 = .ok (.iadd, 1) := by decide +kernel
theorem ep10m4_d39 : decode prog_10_method_4_code 39 = .ok (.invokevirtual 32, 3) := by decide +kernel
theorem ep10m4_d42 : decode prog_10_method_4_code 42 = .ok (.invokestatic 67, 3) := by decide +kernel
theorem ep10m4_d45 : decode prog_10_method_4_code 45 = .ok (.istore_n 3, 1) := by decide +kernel
theorem ep10m4_d46 : decode prog_10_method_4_code 46 = .ok (.iload_n 2, 1) := by decide +kernel
theorem ep10m4_d47 : decode prog_10_method_4_code 47 = .ok (.ifCond .lt 7, 3) := by decide +kernel
theorem ep10m4_d50 : decode prog_10_method_4_code 50 = .ok (.iload_n 3, 1) := by decide +kernel
theorem ep10m4_d51 : decode prog_10_method_4_code 51 = .ok (.ifCond .ge 7, 3) := by decide +kernel
theorem ep10m4_d58 : decode prog_10_method_4_code 58 = .ok (.iload_n 2, 1) := by decide +kernel
theorem ep10m4_d59 : decode prog_10_method_4_code 59 = .ok (.iconst 4, 1) := by decide +kernel
theorem ep10m4_d60 : decode prog_10_method_4_code 60 = .ok (.ishl, 1) := by decide +kernel
theorem ep10m4_d61 : decode prog_10_method_4_code 61 = .ok (.iload_n 3, 1) := by decide +kernel
theorem ep10m4_d62 : decode prog_10_method_4_code 62 = .ok (.ior, 1) := by decide +kernel
theorem ep10m4_d63 : decode prog_10_method_4_code 63 = .ok (.ireturn, 1) := by decide +kernel
theorem own_escByte_pn : plainFor (⟨"com/example/rows_to_regions/rowstoregions/KeyText", "escapedByte", "(Ljava/lang/String;I)I"⟩ : MethodName) = true := by first | exact plainFor_of_name (by first | (simp [plainName, overriddenIn]; done) | decide +kernel) | decide +kernel | exact Jvm.Free.JP.mathPlain rfl (by decide +kernel)
theorem own_escByte_ef (m : MethodId) (x0 : Addr) (x1 : Int32) : entryFrame m #[(.ref x0), (.int x1)] 4 = mkF m 0 #[.val (.ref x0), .val (.int x1), .unset, .unset] [] := by first | (simp [entryFrame, mkF, argsToLocals, Value.category]; done) | rfl
def own_escByte_Q (Z : State) (a1 : Addr) (va : Addr) (kv : ClassId) (z : Int32) (vs : List Value) (j : Int32) (w : Int32) (x1 : Int32) (x2 : Int32) (x3 : Int32) (zc : Int32) (vS : Value) (h0 : Heap) (n0 : Nat) (v : Option Value) (h : Heap) (L : List Loc) : Prop := v = some (.int w) ∧ Fr n0 L ∧ h = h0
set_option maxRecDepth 65536 in
set_option maxHeartbeats 40000000 in
theorem own_escByte (l : Launch) (Z : State) (a0 : Array Value) (hw : ∀ d ∈ tables_1, d.before a0 Z = true) (ws : List Jvm.Cond) (a1 : Addr) (va : Addr) (kv : ClassId) (z : Int32) (vs : List Value) (j : Int32) (w : Int32) (x1 : Int32) (x2 : Int32) (x3 : Int32) (zc : Int32) (vS : Value) (h0 : Heap) (n0 : Nat) (O : Old Z n0 h0) (E_a1 : Exa Z h0 a1 "java/lang/String") (F_value_a1 : Fld Z h0 a1 "java/lang/String" "value" "[B" (.ref va)) (F_coder_a1 : Fld Z h0 a1 "java/lang/String" "coder" "B" (.int 0)) (V_va : Arv Z h0 va kv .byte z vs (.int 0)) (hj1 : ¬ (j + (1 : Int32)) < 0 ∧ (j + (1 : Int32)) < z) (hg1 : vs.getD (j + (1 : Int32)).toNatClampNeg (.int 0) = .int x1) (ex1 : (x1 &&& (255 : Int32)) = (120 : Int32)) (hj2 : ¬ (j + (2 : Int32)) < 0 ∧ (j + (2 : Int32)) < z) (hg2 : vs.getD (j + (2 : Int32)).toNatClampNeg (.int 0) = .int x2) (ex2 : (x2 &&& (255 : Int32)) = (own_hx (w / (16 : Int32)))) (hj3 : ¬ (j + (3 : Int32)) < 0 ∧ (j + (3 : Int32)) < z) (hg3 : vs.getD (j + (3 : Int32)).toNatClampNeg (.int 0) = .int x3) (ex3 : (x3 &&& (255 : Int32)) = (own_hx (w % (16 : Int32)))) (bw : 0 ≤ w.toInt ∧ w.toInt < 256) (S_C : Sta Z Z.heap "java/lang/String" "COMPACT_STRINGS" "Z" (.int zc)) (hzc : ¬ zc = 0) (S_S : Sta Z Z.heap "jdk/internal/util/Preconditions" "SIOOBE_FORMATTER" "Ljava/util/function/BiFunction;" vS) (hvS : vS.isRef = true) :
    MetFree l (⟨"com/example/rows_to_regions/rowstoregions/KeyText", "escapedByte", "(Ljava/lang/String;I)I"⟩ : MethodName) (head1 (Jvm.Cond.code (⟨"com/example/rows_to_regions/rowstoregions/KeyText", "escapedByte", "(Ljava/lang/String;I)I"⟩ : MethodName) prog_10_method_4_code 4 (some .int) :: ws) ({ frames := 4, cells := 0, slots := 0, locals := 53 } : Room)) (fun a U => a = #[(.ref a1), (.int j)] ∧ Z.Warmed39 U.vm ∧ U.heap = h0) (fun _ _ _ _ _ => True) (fun _ U o U' => ∃ v L, o = .returned v ∧ own_escByte_Q Z a1 va kv z vs j w x1 x2 x3 zc vS h0 n0 v U'.heap L ∧ FrameEnd U o U' L ({ frames := 4, cells := 0, slots := 0, locals := 53 } : Room).cells ({ frames := 4, cells := 0, slots := 0, locals := 53 } : Room).slots) := by
  refine MetFree.of_bodySF own_escByte_pn hisR ?_
  intro p e s m args below meth c s₁ Bd hml0 hP hK
  obtain ⟨rfl, hZ, hh⟩ := hP
  have hx := Bd.exec
  have hby := Bd.bytes
  have hlk := Bd.notSynchronized
  have hml : c.maxLocals = 4 := hml0
  have hown : s.vm.findClass "com/example/rows_to_regions/rowstoregions/KeyText" = some m.cls := findClass_of_methodNamed Bd.named
  have hnm := (name_of_methodNamed Bd.named Bd.method).1
  have X : Stand p l e ({ frames := 4, cells := 0, slots := 0, locals := 53 } : Room) s m #[(.ref a1), (.int j)] below meth c s₁ [] 0 0 := Stand.of_body Bd
  have eT : s₁.heap = h0 := by rw [← hh, Bd.state]; rfl
  have N := Fr.nil n0
  have K0 := Keep.refl h0 []
  show own_Ends p e below (own_Post s below (own_escByte_Q Z a1 va kv z vs j w x1 x2 x3 zc vS h0 n0) ({ frames := 4, cells := 0, slots := 0, locals := 53 } : Room).cells ({ frames := 4, cells := 0, slots := 0, locals := 53 } : Room).slots) s₁ (entryFrame m #[(.ref a1), (.int j)] 4)
  rw [own_escByte_ef m a1 j]
  obtain ⟨T, hT⟩ : ∃ z, z = s₁ := ⟨_, rfl⟩
  rw [← hT] at X eT ⊢
  obtain ⟨h, hh0⟩ : ∃ z, z = h0 := ⟨_, rfl⟩
  rw [← hh0] at eT
  replace O : Old Z n0 h := by rw [hh0]; exact O
  replace K0 : Keep h0 h [] := by rw [hh0]; exact K0
  rw [← hh0] at E_a1
  rw [← hh0] at F_value_a1
  rw [← hh0] at F_coder_a1
  rw [← hh0] at V_va
  refine own_via (g' := (mkF m 4 (own_A21 a1 j) [(.ref a1), (.int (j + (3 : Int32)))])) (fun t_ k_ => XS.iloadN X.here hx rfl (hb hby ep10m4_d0) rfl (XS.iconst X.here hx rfl (hb hby ep10m4_d1) (XS.iadd X.here hx rfl (hb hby ep10m4_d2) rfl (XS.aloadN X.here hx rfl (hb hby ep10m4_d3) rfl rfl k_)))) ?_
  obtain ⟨cq, kq, qa, qb, qc⟩ := isOf hZ eT E_a1
  obtain ⟨_, _, ⟨T, Lq, kq, nq⟩, -, X, ⟨Lc, hQ, lq, yq, zq⟩, st⟩ := X.virtualBack hx (y := own_y6) (z := own_y6) hown (mvT hZ (hw _ (own_w 33 rfl))) (mvT hZ (hw _ (own_w 34 rfl))) (notFace_of_selects (args := #[]) (mvT hZ (hw _ (own_w 36 rfl)))) (mvT hZ (hw _ (own_w 36 rfl))) (mvT hZ (hw _ (own_w 35 rfl))) (by decide) (backOf (W := 1) (own_strlen l Z a0 hw [] a1 va kv z vs zc h n0 O E_a1 F_value_a1 F_coder_a1 V_va S_C hzc) hZ (hw _ (own_w 37 rfl)) (hw _ (own_w 10 rfl)) (by decide) (by decide)) qa qc (g := (mkF m 4 (own_A21 a1 j) [(.ref a1), (.int (j + (3 : Int32)))])) rfl (by rw [hml]; rfl) (Steps.refl _) (argsL := []) (rest := [(.int (j + (3 : Int32)))]) (lenOf own_pd6 rfl) rfl (by show 2 * 0 + _ ≤ _; exact Nat.le_of_eq rfl) (hb hby ep10m4_d4) (fun _ _ => ⟨rfl, eT, (by decide : 0 + 0 ≤ _), (by decide : 0 + 0 ≤ _)⟩)
  dsimp only [Pt.U, Pt.locs, Pt.cells, Pt.slots] at X lq yq zq st hQ
  subst lq yq zq
  obtain ⟨rfl, Nq, eT⟩ := hQ
  replace N := Fr.app N Nq
  refine own_viaT (g' := (mkF m 7 (own_A21 a1 j) [(.int z), (.int (j + (3 : Int32)))])) st ?_
  refine own_via (g' := (mkF m 14 (own_A21 a1 j) [(.int (j + (1 : Int32))), (.ref a1)])) (fun t_ k_ => XS.icmpNo X.here hx rfl (hb hby ep10m4_d7) rfl (tlt hj3.2).2.1 (XS.aloadN X.here hx rfl (hb hby ep10m4_d10) rfl rfl (XS.iloadN X.here hx rfl (hb hby ep10m4_d11) rfl (XS.iconst X.here hx rfl (hb hby ep10m4_d12) (XS.iadd X.here hx rfl (hb hby ep10m4_d13) rfl k_))))) ?_
  obtain ⟨cq, kq, qa, qb, qc⟩ := isOf hZ eT E_a1
  obtain ⟨_, _, ⟨T, Lq, kq, nq⟩, -, X, ⟨Lc, hQ, lq, yq, zq⟩, st⟩ := X.virtualBack hx (y := own_y7) (z := own_y7) hown (mvT hZ (hw _ (own_w 74 rfl))) (mvT hZ (hw _ (own_w 75 rfl))) (notFace_of_selects (args := #[]) (mvT hZ (hw _ (own_w 77 rfl)))) (mvT hZ (hw _ (own_w 77 rfl))) (mvT hZ (hw _ (own_w 76 rfl))) (by decide) (backOf (W := 0) (own_charAt l Z a0 hw [] a1 (j + (1 : Int32)) va kv z vs x1 zc vS h n0 O E_a1 F_value_a1 F_coder_a1 V_va S_C hzc hj1 hg1 S_S hvS) hZ (hw _ (own_w 78 rfl)) (hw _ (own_w 10 rfl)) (by decide) (by decide)) qa qc (g := (mkF m 14 (own_A21 a1 j) [(.int (j + (1 : Int32))), (.ref a1)])) rfl (by rw [hml]; rfl) (Steps.refl _) (argsL := [(.int (j + (1 : Int32)))]) (rest := []) (lenOf own_pd7 rfl) rfl (by show 2 * 0 + _ ≤ _; exact Nat.le_of_eq rfl) (hb hby ep10m4_d14) (fun _ _ => ⟨rfl, eT, (by decide : 0 + 0 ≤ _), (by decide : 0 + 0 ≤ _)⟩)
  dsimp only [Pt.U, Pt.locs, Pt.cells, Pt.slots] at X lq yq zq st hQ
  subst lq yq zq
  obtain ⟨rfl, Nq, eT⟩ := hQ
  replace N := Fr.app N Nq
  refine own_viaT (g' := (mkF m 17 (own_A21 a1 j) [(.int (x1 &&& (255 : Int32)))])) st ?_
  rw [ex1]
  refine own_via (g' := (mkF m 28 (own_A21 a1 j) [(.int (j + (2 : Int32))), (.ref a1)])) (fun t_ k_ => XS.bipush X.here hx rfl (hb hby ep10m4_d17) (XS.icmpYes X.here hx rfl (pc0 := 19) (pc' := 24) rfl (hb hby ep10m4_d19) rfl (teq (by decide : (120 : Int32) = (120 : Int32))).1 (by decide) (by decide) (XS.aloadN X.here hx rfl (hb hby ep10m4_d24) rfl rfl (XS.iloadN X.here hx rfl (hb hby ep10m4_d25) rfl (XS.iconst X.here hx rfl (hb hby ep10m4_d26) (XS.iadd X.here hx rfl (hb hby ep10m4_d27) rfl k_)))))) ?_
  obtain ⟨cq, kq, qa, qb, qc⟩ := isOf hZ eT E_a1
  obtain ⟨_, _, ⟨T, Lq, kq, nq⟩, -, X, ⟨Lc, hQ, lq, yq, zq⟩, st⟩ := X.virtualBack hx (y := own_y7) (z := own_y7) hown (mvT hZ (hw _ (own_w 74 rfl))) (mvT hZ (hw _ (own_w 75 rfl))) (notFace_of_selects (args := #[]) (mvT hZ (hw _ (own_w 77 rfl)))) (mvT hZ (hw _ (own_w 77 rfl))) (mvT hZ (hw _ (own_w 76 rfl))) (by decide) (backOf (W := 0) (own_charAt l Z a0 hw [] a1 (j + (2 : Int32)) va kv z vs x2 zc vS h n0 O E_a1 F_value_a1 F_coder_a1 V_va S_C hzc hj2 hg2 S_S hvS) hZ (hw _ (own_w 78 rfl)) (hw _ (own_w 10 rfl)) (by decide) (by decide)) qa qc (g := (mkF m 28 (own_A21 a1 j) [(.int (j + (2 : Int32))), (.ref a1)])) rfl (by rw [hml]; rfl) (Steps.refl _) (argsL := [(.int (j + (2 : Int32)))]) (rest := []) (lenOf own_pd7 rfl) rfl (by show 2 * 0 + _ ≤ _; exact Nat.le_of_eq rfl) (hb hby ep10m4_d28) (fun _ _ => ⟨rfl, eT, (by decide : 0 + 0 ≤ _), (by decide : 0 + 0 ≤ _)⟩)
  dsimp only [Pt.U, Pt.locs, Pt.cells, Pt.slots] at X lq yq zq st hQ
  subst lq yq zq
  obtain ⟨rfl, Nq, eT⟩ := hQ
  replace N := Fr.app N Nq
  refine own_viaT (g' := (mkF m 31 (own_A21 a1 j) [(.int (x2 &&& (255 : Int32)))])) st ?_
  rw [ex2]
  obtain ⟨_, _, ⟨T, Lq, kq, nq⟩, -, X, ⟨Lc, hQ, lq, yq, zq⟩, st⟩ := Jvm.LawKit.callS X hx (y := own_y8) hown (mvT hZ (hw _ (own_w 99 rfl))) (mvT hZ (hw _ (own_w 100 rfl))) (mvT hZ (hw _ (own_w 31 rfl))) (mvT hZ (hw _ (own_w 101 rfl))) (by decide) (backOf (W := 0) (own_hexDigit l Z a0 hw [] (w / (16 : Int32)) h n0 O (own_16 (own_hi bw.1 bw.2).2.1 (own_hi bw.1 bw.2).2.2)) hZ (hw _ (own_w 101 rfl)) (hw _ (own_w 31 rfl)) (by decide) (by decide)) (g := (mkF m 31 (own_A21 a1 j) [(.int (own_hx (w / (16 : Int32))))])) rfl (by rw [hml]; rfl) (argsL := [(.int (own_hx (w / (16 : Int32))))]) (rest := []) (lenOf own_pd8 rfl) rfl (by show 2 * 0 + _ ≤ _; exact Nat.le_of_eq rfl) (hb hby ep10m4_d31) (fun _ _ => ⟨rfl, eT, (by decide : 0 + 0 ≤ _), (by decide : 0 + 0 ≤ _)⟩)
  dsimp only [Pt.U, Pt.locs, Pt.cells, Pt.slots] at X lq yq zq st hQ
  subst lq yq zq
  obtain ⟨rfl, Nq, eT⟩ := hQ
  replace N := Fr.app N Nq
  refine own_via (g' := (mkF m 34 (own_A21 a1 j) [(.int (w / (16 : Int32)))])) st ?_
  refine own_via (g' := (mkF m 39 (own_A16 a1 j (w / (16 : Int32))) [(.int (j + (3 : Int32))), (.ref a1)])) (fun t_ k_ => XS.istoreN X.here hx rfl (hb hby ep10m4_d34) rfl (l' := (own_A16 a1 j (w / (16 : Int32)))) rfl (XS.aloadN X.here hx rfl (hb hby ep10m4_d35) rfl rfl (XS.iloadN X.here hx rfl (hb hby ep10m4_d36) rfl (XS.iconst X.here hx rfl (hb hby ep10m4_d37) (XS.iadd X.here hx rfl (hb hby ep10m4_d38) rfl k_))))) ?_
  obtain ⟨cq, kq, qa, qb, qc⟩ := isOf hZ eT E_a1
  obtain ⟨_, _, ⟨T, Lq, kq, nq⟩, -, X, ⟨Lc, hQ, lq, yq, zq⟩, st⟩ := X.virtualBack hx (y := own_y7) (z := own_y7) hown (mvT hZ (hw _ (own_w 74 rfl))) (mvT hZ (hw _ (own_w 75 rfl))) (notFace_of_selects (args := #[]) (mvT hZ (hw _ (own_w 77 rfl)))) (mvT hZ (hw _ (own_w 77 rfl))) (mvT hZ (hw _ (own_w 76 rfl))) (by decide) (backOf (W := 0) (own_charAt l Z a0 hw [] a1 (j + (3 : Int32)) va kv z vs x3 zc vS h n0 O E_a1 F_value_a1 F_coder_a1 V_va S_C hzc hj3 hg3 S_S hvS) hZ (hw _ (own_w 78 rfl)) (hw _ (own_w 10 rfl)) (by decide) (by decide)) qa qc (g := (mkF m 39 (own_A16 a1 j (w / (16 : Int32))) [(.int (j + (3 : Int32))), (.ref a1)])) rfl (by rw [hml]; rfl) (Steps.refl _) (argsL := [(.int (j + (3 : Int32)))]) (rest := []) (lenOf own_pd7 rfl) rfl (by show 2 * 0 + _ ≤ _; exact Nat.le_of_eq rfl) (hb hby ep10m4_d39) (fun _ _ => ⟨rfl, eT, (by decide : 0 + 0 ≤ _), (by decide : 0 + 0 ≤ _)⟩)
  dsimp only [Pt.U, Pt.locs, Pt.cells, Pt.slots] at X lq yq zq st hQ
  subst lq yq zq
  obtain ⟨rfl, Nq, eT⟩ := hQ
  replace N := Fr.app N Nq
  refine own_viaT (g' := (mkF m 42 (own_A16 a1 j (w / (16 : Int32))) [(.int (x3 &&& (255 : Int32)))])) st ?_
  rw [ex3]
  obtain ⟨_, _, ⟨T, Lq, kq, nq⟩, -, X, ⟨Lc, hQ, lq, yq, zq⟩, st⟩ := Jvm.LawKit.callS X hx (y := own_y8) hown (mvT hZ (hw _ (own_w 99 rfl))) (mvT hZ (hw _ (own_w 100 rfl))) (mvT hZ (hw _ (own_w 31 rfl))) (mvT hZ (hw _ (own_w 101 rfl))) (by decide) (backOf (W := 0) (own_hexDigit l Z a0 hw [] (w % (16 : Int32)) h n0 O (own_16 (own_lo bw.1 bw.2).2.1 (own_lo bw.1 bw.2).2.2)) hZ (hw _ (own_w 101 rfl)) (hw _ (own_w 31 rfl)) (by decide) (by decide)) (g := (mkF m 42 (own_A16 a1 j (w / (16 : Int32))) [(.int (own_hx (w % (16 : Int32))))])) rfl (by rw [hml]; rfl) (argsL := [(.int (own_hx (w % (16 : Int32))))]) (rest := []) (lenOf own_pd8 rfl) rfl (by show 2 * 0 + _ ≤ _; exact Nat.le_of_eq rfl) (hb hby ep10m4_d42) (fun _ _ => ⟨rfl, eT, (by decide : 0 + 0 ≤ _), (by decide : 0 + 0 ≤ _)⟩)
  dsimp only [Pt.U, Pt.locs, Pt.cells, Pt.slots] at X lq yq zq st hQ
  subst lq yq zq
  obtain ⟨rfl, Nq, eT⟩ := hQ
  replace N := Fr.app N Nq
  refine own_via (g' := (mkF m 45 (own_A16 a1 j (w / (16 : Int32))) [(.int (w % (16 : Int32)))])) st ?_
  refine own_via (g' := (mkF m 63 (own_A12 a1 j (w / (16 : Int32)) (w % (16 : Int32))) [(.int (((w / (16 : Int32)) <<< ((4 : Int32) &&& 31)) ||| (w % (16 : Int32))))])) (fun t_ k_ => XS.istoreN X.here hx rfl (hb hby ep10m4_d45) rfl (l' := (own_A12 a1 j (w / (16 : Int32)) (w % (16 : Int32)))) rfl (XS.iloadN X.here hx rfl (hb hby ep10m4_d46) rfl (XS.ifNo X.here hx rfl (hb hby ep10m4_d47) rfl ((if0 _ _).trans (flt (own_nn (own_hi bw.1 bw.2).2.1)).1) (XS.iloadN X.here hx rfl (hb hby ep10m4_d50) rfl (XS.ifYes X.here hx rfl (pc0 := 51) (pc' := 58) rfl (hb hby ep10m4_d51) rfl ((if0 _ _).trans (flt (own_nn (own_lo bw.1 bw.2).2.1)).2.1) (by decide) (by decide) (XS.iloadN X.here hx rfl (hb hby ep10m4_d58) rfl (XS.iconst X.here hx rfl (hb hby ep10m4_d59) (XS.ishl X.here hx rfl (hb hby ep10m4_d60) rfl (XS.iloadN X.here hx rfl (hb hby ep10m4_d61) rfl (XS.ior X.here hx rfl (hb hby ep10m4_d62) rfl k_)))))))))) ?_
  refine own_retW X hx hlk Bd.returns rfl (Or.inl ⟨rfl, Or.inl rfl, _, rfl⟩) (hb hby ep10m4_d63) (by decide) (by decide) ?_
  rw [eT]
  exact ⟨by rw [own_join bw], N, hh0⟩
theorem ep10m3_d0 : decode prog_10_method_3_code 0 = .ok (.aload_n 0, 1) := by decide +kernel
theorem ep10m3_d1 : decode prog_10_method_3_code 1 = .ok (.invokevirtual 26, 3) := by decide +kernel
theorem ep10m3_d4 : decode prog_10_method_3_code 4 = .ok (.newarray .byte, 2) := by decide +kernel
theorem ep10m3_d6 : decode prog_10_method_3_code 6 = .ok (.astore_n 1, 1) := by decide +kernel
theorem ep10m3_d7 : decode prog_10_method_3_code 7 = .ok (.iconst 0, 1) := by decide +kernel
theorem ep10m3_d8 : decode prog_10_method_3_code 8 = .ok (.istore_n 2, 1) := by decide +kernel
theorem ep10m3_d9 : decode prog_10_method_3_code 9 = .ok (.iconst 0, 1) := by decide +kernel
theorem ep10m3_d10 : decode prog_10_method_3_code 10 = .ok (.istore_n 3, 1) := by decide +kernel
theorem ep10m3_d11 : decode prog_10_method_3_code 11 = .ok (.iload_n 3, 1) := by decide +kernel
theorem ep10m3_d12 : decode prog_10_method_3_code 12 = .ok (.aload_n 0, 1) := by decide +kernel
theorem ep10m3_d13 : decode prog_10_method_3_code 13 = .ok (.invokevirtual 26, 3) := by decide +kernel
theorem ep10m3_d16 : decode prog_10_method_3_code 16 = .ok (.if_icmp .ge 126, 3) := by decide +kernel
theorem ep10m3_d142 : decode prog_10_method_3_code 142 = .ok (.aload_n 1, 1) := by decide +kernel
theorem ep10m3_d143 : decode prog_10_method_3_code 143 = .ok (.iload_n 2, 1) := by decide +kernel
theorem ep10m3_d144 : decode prog_10_method_3_code 144 = .ok (.invokestatic 61, 3) := by decide +kernel
theorem ep10m3_d147 : decode prog_10_method_3_code 147 = .ok (.areturn, 1) := by decide +kernel
theorem own_un0_pn : plainFor (⟨"com/example/rows_to_regions/rowstoregions/KeyText", "unescape", "(Ljava/lang/String;)[B"⟩ : MethodName) = true := by first | exact plainFor_of_name (by first | (simp [plainName, overriddenIn]; done) | decide +kernel) | decide +kernel | exact Jvm.Free.JP.mathPlain rfl (by decide +kernel)
theorem own_un0_ef (m : MethodId) (x0 : Addr) : entryFrame m #[(.ref x0)] 6 = mkF m 0 #[.val (.ref x0), .unset, .unset, .unset, .unset, .unset] [] := by first | (simp [entryFrame, mkF, argsToLocals, Value.category]; done) | rfl
def own_un0_Q (Z : State) (a1 : Addr) (va : Addr) (kv : ClassId) (zc : Int32) (vS : Value) (h0 : Heap) (n0 : Nat) (v : Option Value) (h : Heap) (L : List Loc) : Prop := ∃ b kb, v = some (.ref b) ∧ Fr n0 L ∧ Keep h0 h [] ∧ h0.size ≤ b ∧ Arv Z h b kb .byte (0 : Int32) ([] : List Value) (.int 0) ∧ Exa Z h b "[B"
set_option maxRecDepth 65536 in
set_option maxHeartbeats 40000000 in
theorem own_un0 (l : Launch) (Z : State) (a0 : Array Value) (hw : ∀ d ∈ tables_1, d.before a0 Z = true) (ws : List Jvm.Cond) (a1 : Addr) (va : Addr) (kv : ClassId) (zc : Int32) (vS : Value) (h0 : Heap) (n0 : Nat) (O : Old Z n0 h0) (E_a1 : Exa Z h0 a1 "java/lang/String") (F_value_a1 : Fld Z h0 a1 "java/lang/String" "value" "[B" (.ref va)) (F_coder_a1 : Fld Z h0 a1 "java/lang/String" "coder" "B" (.int 0)) (V_va : Arv Z h0 va kv .byte (0 : Int32) ([] : List Value) (.int 0)) (S_C : Sta Z Z.heap "java/lang/String" "COMPACT_STRINGS" "Z" (.int zc)) (hzc : ¬ zc = 0) (S_S : Sta Z Z.heap "jdk/internal/util/Preconditions" "SIOOBE_FORMATTER" "Ljava/util/function/BiFunction;" vS) (hvS : vS.isRef = true) :
    MetFree l (⟨"com/example/rows_to_regions/rowstoregions/KeyText", "unescape", "(Ljava/lang/String;)[B"⟩ : MethodName) (head1 (Jvm.Cond.code (⟨"com/example/rows_to_regions/rowstoregions/KeyText", "unescape", "(Ljava/lang/String;)[B"⟩ : MethodName) prog_10_method_3_code 6 (some (.array .byte)) :: ws) ({ frames := 2, cells := 2, slots := 12, locals := 32 } : Room)) (fun a U => a = #[(.ref a1)] ∧ Z.Warmed39 U.vm ∧ U.heap = h0) (fun _ _ _ _ _ => True) (fun _ U o U' => ∃ v L, o = .returned v ∧ own_un0_Q Z a1 va kv zc vS h0 n0 v U'.heap L ∧ FrameEnd U o U' L ({ frames := 2, cells := 2, slots := 12, locals := 32 } : Room).cells ({ frames := 2, cells := 2, slots := 12, locals := 32 } : Room).slots) := by
  refine MetFree.of_bodySF own_un0_pn hisR ?_
  intro p e s m args below meth c s₁ Bd hml0 hP hK
  obtain ⟨rfl, hZ, hh⟩ := hP
  have hx := Bd.exec
  have hby := Bd.bytes
  have hlk := Bd.notSynchronized
  have hml : c.maxLocals = 6 := hml0
  have hown : s.vm.findClass "com/example/rows_to_regions/rowstoregions/KeyText" = some m.cls := findClass_of_methodNamed Bd.named
  have hnm := (name_of_methodNamed Bd.named Bd.method).1
  have X : Stand p l e ({ frames := 2, cells := 2, slots := 12, locals := 32 } : Room) s m #[(.ref a1)] below meth c s₁ [] 0 0 := Stand.of_body Bd
  have eT : s₁.heap = h0 := by rw [← hh, Bd.state]; rfl
  have N := Fr.nil n0
  have K0 := Keep.refl h0 []
  show own_Ends p e below (own_Post s below (own_un0_Q Z a1 va kv zc vS h0 n0) ({ frames := 2, cells := 2, slots := 12, locals := 32 } : Room).cells ({ frames := 2, cells := 2, slots := 12, locals := 32 } : Room).slots) s₁ (entryFrame m #[(.ref a1)] 6)
  rw [own_un0_ef m a1]
  obtain ⟨T, hT⟩ : ∃ z, z = s₁ := ⟨_, rfl⟩
  rw [← hT] at X eT ⊢
  obtain ⟨h, hh0⟩ : ∃ z, z = h0 := ⟨_, rfl⟩
  rw [← hh0] at eT
  replace O : Old Z n0 h := by rw [hh0]; exact O
  replace K0 : Keep h0 h [] := by rw [hh0]; exact K0
  rw [← hh0] at E_a1
  rw [← hh0] at F_value_a1
  rw [← hh0] at F_coder_a1
  rw [← hh0] at V_va
  refine own_via (g' := (mkF m 1 (own_A19 a1) [(.ref a1)])) (fun t_ k_ => XS.aloadN X.here hx rfl (hb hby ep10m3_d0) rfl rfl k_) ?_
  obtain ⟨cq, kq, qa, qb, qc⟩ := isOf hZ eT E_a1
  obtain ⟨_, _, ⟨T, Lq, kq, nq⟩, -, X, ⟨Lc, hQ, lq, yq, zq⟩, st⟩ := X.virtualBack hx (y := own_y6) (z := own_y6) hown (mvT hZ (hw _ (own_w 33 rfl))) (mvT hZ (hw _ (own_w 34 rfl))) (notFace_of_selects (args := #[]) (mvT hZ (hw _ (own_w 36 rfl)))) (mvT hZ (hw _ (own_w 36 rfl))) (mvT hZ (hw _ (own_w 35 rfl))) (by decide) (backOf (W := 0) (own_strlen l Z a0 hw [] a1 va kv (0 : Int32) ([] : List Value) zc h n0 O E_a1 F_value_a1 F_coder_a1 V_va S_C hzc) hZ (hw _ (own_w 37 rfl)) (hw _ (own_w 10 rfl)) (by decide) (by decide)) qa qc (g := (mkF m 1 (own_A19 a1) [(.ref a1)])) rfl (by rw [hml]; rfl) (Steps.refl _) (argsL := []) (rest := []) (lenOf own_pd6 rfl) rfl (by show 2 * 0 + _ ≤ _; exact Nat.le_of_eq rfl) (hb hby ep10m3_d1) (fun _ _ => ⟨rfl, eT, (by decide : 0 + 0 ≤ _), (by decide : 0 + 0 ≤ _)⟩)
  dsimp only [Pt.U, Pt.locs, Pt.cells, Pt.slots] at X lq yq zq st hQ
  subst lq yq zq
  obtain ⟨rfl, Nq, eT⟩ := hQ
  replace N := Fr.app N Nq
  refine own_viaT (g' := (mkF m 4 (own_A19 a1) [(.int 0)])) st ?_
  obtain ⟨b1, gb⟩ : ∃ z, z = h.size := ⟨_, rfl⟩
  obtain ⟨T, h2, kb1, X, eT, E, A_, E_b1, st⟩ := newPE X hx hZ (hw _ (own_w 22 rfl)) eT (g := (mkF m 4 (own_A19 a1) [(.int 0)])) rfl (hb hby ep10m3_d4) rfl (by decide) (cap := 0) (by decide) (by decide) (by decide) (by decide) (ad := "[B") (by decide)
  rw [← gb] at A_ E_b1 st
  have ne_a1_b1 : a1 ≠ b1 := Nat.ne_of_lt (Nat.lt_of_lt_of_le E_a1.lt (Nat.le_of_eq gb.symm))
  have ne_va_b1 : va ≠ b1 := Nat.ne_of_lt (Nat.lt_of_lt_of_le V_va.lt (Nat.le_of_eq gb.symm))
  have g_b1 : n0 ≤ b1 := Nat.le_trans (own_le O) (Nat.le_of_eq gb.symm)
  have sz_b1 : h0.size ≤ b1 := Nat.le_trans K0.1 (Nat.le_of_eq gb.symm)
  replace E_a1 := E_a1.ext E
  replace F_value_a1 := F_value_a1.ext E
  replace F_coder_a1 := F_coder_a1.ext E
  replace V_va := V_va.ext E
  replace O := O.ext E
  replace K0 := K0.ext E
  have V_b1 : Arv Z h2 b1 kb1 .byte (0 : Int32) [] (.int 0) := (Arv.new A_ (by decide)).pad (pad_rep [] (.int 0) 0)
  refine own_via (g' := (mkF m 6 (own_A19 a1) [(.ref b1)])) st ?_
  refine own_via (g' := (mkF m 13 (own_A15 a1 b1 0 0) [(.ref a1), (.int 0)])) (fun t_ k_ => XS.astoreN X.here hx rfl (hb hby ep10m3_d6) rfl rfl (l' := (own_A18 a1 b1)) rfl (XS.iconst X.here hx rfl (hb hby ep10m3_d7) (XS.istoreN X.here hx rfl (hb hby ep10m3_d8) rfl (l' := (own_A17 a1 b1 0)) rfl (XS.iconst X.here hx rfl (hb hby ep10m3_d9) (XS.istoreN X.here hx rfl (hb hby ep10m3_d10) rfl (l' := (own_A15 a1 b1 0 0)) rfl (XS.iloadN X.here hx rfl (hb hby ep10m3_d11) rfl (XS.aloadN X.here hx rfl (hb hby ep10m3_d12) rfl rfl k_))))))) ?_
  obtain ⟨cq, kq, qa, qb, qc⟩ := isOf hZ eT E_a1
  obtain ⟨_, _, ⟨T, Lq, kq, nq⟩, -, X, ⟨Lc, hQ, lq, yq, zq⟩, st⟩ := X.virtualBack hx (y := own_y6) (z := own_y6) hown (mvT hZ (hw _ (own_w 33 rfl))) (mvT hZ (hw _ (own_w 34 rfl))) (notFace_of_selects (args := #[]) (mvT hZ (hw _ (own_w 36 rfl)))) (mvT hZ (hw _ (own_w 36 rfl))) (mvT hZ (hw _ (own_w 35 rfl))) (by decide) (backOf (W := 1) (own_strlen l Z a0 hw [] a1 va kv (0 : Int32) ([] : List Value) zc h2 n0 O E_a1 F_value_a1 F_coder_a1 V_va S_C hzc) hZ (hw _ (own_w 37 rfl)) (hw _ (own_w 10 rfl)) (by decide) (by decide)) qa qc (g := (mkF m 13 (own_A15 a1 b1 0 0) [(.ref a1), (.int 0)])) rfl (by rw [hml]; rfl) (Steps.refl _) (argsL := []) (rest := [(.int 0)]) (lenOf own_pd6 rfl) rfl (by show 2 * 0 + _ ≤ _; exact Nat.le_of_eq rfl) (hb hby ep10m3_d13) (fun _ _ => ⟨rfl, eT, (by decide : 1 + 0 ≤ _), (by decide : 0 + 0 ≤ _)⟩)
  dsimp only [Pt.U, Pt.locs, Pt.cells, Pt.slots] at X lq yq zq st hQ
  subst lq yq zq
  obtain ⟨rfl, Nq, eT⟩ := hQ
  replace N := Fr.app N Nq
  refine own_viaT (g' := (mkF m 16 (own_A15 a1 b1 0 0) [(.int 0), (.int 0)])) st ?_
  refine own_via (g' := (mkF m 144 (own_A15 a1 b1 0 0) [(.int 0), (.ref b1)])) (fun t_ k_ => XS.icmpYes X.here hx rfl (pc0 := 16) (pc' := 142) rfl (hb hby ep10m3_d16) rfl (flt (by decide : ¬ ((0 : Int32) < (0 : Int32)))).2.1 (by decide) (by decide) (XS.aloadN X.here hx rfl (hb hby ep10m3_d142) rfl rfl (XS.iloadN X.here hx rfl (hb hby ep10m3_d143) rfl k_))) ?_
  obtain ⟨_, _, ⟨T, Lq, kq, nq⟩, -, X, ⟨Lc, hQ, lq, yq, zq⟩, st⟩ := Jvm.LawKit.callS X hx (y := own_y9) hown (mvT hZ (hw _ (own_w 44 rfl))) (mvT hZ (hw _ (own_w 45 rfl))) (mvT hZ (hw _ (own_w 46 rfl))) (mvT hZ (hw _ (own_w 47 rfl))) (by decide) (backOf (W := 0) (own_copyOf l Z a0 hw [] b1 kb1 (0 : Int32) (0 : Int32) ([] : List Value) h2 n0 O E_b1 V_b1 (by decide) rfl) hZ (hw _ (own_w 47 rfl)) (hw _ (own_w 46 rfl)) (by decide) (by decide)) (g := (mkF m 144 (own_A15 a1 b1 0 0) [(.int 0), (.ref b1)])) rfl (by rw [hml]; rfl) (argsL := [(.ref b1), (.int 0)]) (rest := []) (lenOf own_pd9 rfl) rfl (by show 2 * 0 + _ ≤ _; exact Nat.le_of_eq rfl) (hb hby ep10m3_d144) (fun _ _ => ⟨rfl, eT, (by decide : 1 + 1 ≤ _), (by decide : 0 + 12 ≤ _)⟩)
  dsimp only [Pt.U, Pt.locs, Pt.cells, Pt.slots] at X lq yq zq st hQ
  subst lq yq zq
  obtain ⟨bn, kbn, rfl, Nq, Kq, szq, V_bn, E_bn⟩ := hQ
  replace N := Fr.app N Nq
  obtain ⟨h3, eT⟩ : ∃ z, T.heap = z := ⟨_, rfl⟩
  rw [eT] at Kq V_bn E_bn
  have ne_a1_bn : a1 ≠ bn := Nat.ne_of_lt (Nat.lt_of_lt_of_le E_a1.lt szq)
  have ne_b1_bn : b1 ≠ bn := Nat.ne_of_lt (Nat.lt_of_lt_of_le E_b1.lt szq)
  have ne_va_bn : va ≠ bn := Nat.ne_of_lt (Nat.lt_of_lt_of_le V_va.lt szq)
  have g_bn : n0 ≤ bn := Nat.le_trans (own_le O) szq
  have sz_bn : h0.size ≤ bn := Nat.le_trans K0.1 szq
  replace E_a1 := E_a1.keep Kq
  replace F_value_a1 := F_value_a1.keep Kq nin0
  replace F_coder_a1 := F_coder_a1.keep Kq nin0
  replace V_va := V_va.keep Kq nin0
  replace E_b1 := E_b1.keep Kq
  replace V_b1 := V_b1.keep Kq nin0
  replace O := O.keep Kq all0
  replace K0 := K0.trans Kq all0
  refine own_via (g' := (mkF m 147 (own_A15 a1 b1 0 0) [(.ref bn)])) st ?_
  refine own_retW X hx hlk Bd.returns rfl (Or.inr (Or.inr (Or.inr (Or.inr ⟨rfl, rfl, rfl⟩)))) (hb hby ep10m3_d147) (by decide) (by decide) ?_
  rw [eT]
  exact ⟨bn, kbn, rfl, N, K0, sz_bn, V_bn, E_bn⟩
theorem ep10m3_d19 : decode prog_10_method_3_code 19 = .ok (.aload_n 0, 1) := by decide +kernel
theorem ep10m3_d20 : decode prog_10_method_3_code 20 = .ok (.iload_n 3, 1) := by decide +kernel
theorem ep10m3_d21 : decode prog_10_method_3_code 21 = .ok (.invokevirtual 32, 3) := by decide +kernel
theorem ep10m3_d24 : decode prog_10_method_3_code 24 = .ok (.istore 4, 2) := by decide +kernel
theorem ep10m3_d26 : decode prog_10_method_3_code 26 = .ok (.iload 4, 2) := by decide +kernel
theorem ep10m3_d28 : decode prog_10_method_3_code 28 = .ok (.bipush 92, 2) := by decide +kernel
theorem ep10m3_d30 : decode prog_10_method_3_code 30 = .ok (.if_icmp .ne 46, 3) := by decide +kernel
theorem ep10m3_d76 : decode prog_10_method_3_code 76 = .ok (.iload 4, 2) := by decide +kernel
theorem ep10m3_d78 : decode prog_10_method_3_code 78 = .ok (.bipush 32, 2) := by decide +kernel
theorem ep10m3_d80 : decode prog_10_method_3_code 80 = .ok (.if_icmp .lt 22, 3) := by decide +kernel
theorem ep10m3_d83 : decode prog_10_method_3_code 83 = .ok (.iload 4, 2) := by decide +kernel
theorem ep10m3_d85 : decode prog_10_method_3_code 85 = .ok (.bipush 126, 2) := by decide +kernel
theorem ep10m3_d87 : decode prog_10_method_3_code 87 = .ok (.if_icmp .gt 15, 3) := by decide +kernel
theorem ep10m3_d90 : decode prog_10_method_3_code 90 = .ok (.aload_n 1, 1) := by decide +kernel
theorem ep10m3_d91 : decode prog_10_method_3_code 91 = .ok (.iload_n 2, 1) := by decide +kernel
theorem ep10m3_d92 : decode prog_10_method_3_code 92 = .ok (.iinc 2 1, 3) := by decide +kernel
theorem ep10m3_d95 : decode prog_10_method_3_code 95 = .ok (.iload 4, 2) := by decide +kernel
theorem ep10m3_d97 : decode prog_10_method_3_code 97 = .ok (.i2b, 1) := by decide +kernel
theorem ep10m3_d98 : decode prog_10_method_3_code 98 = .ok (.bastore, 1) := by decide +kernel
theorem ep10m3_d99 : decode prog_10_method_3_code 99 = .ok (.goto 37, 3) := by decide +kernel
theorem ep10m3_d136 : decode prog_10_method_3_code 136 = .ok (.iinc 3 1, 3) := by decide +kernel
theorem ep10m3_d139 : decode prog_10_method_3_code 139 = .ok (.goto (-128), 3) := by decide +kernel
theorem own_unP_pn : plainFor (⟨"com/example/rows_to_regions/rowstoregions/KeyText", "unescape", "(Ljava/lang/String;)[B"⟩ : MethodName) = true := by first | exact plainFor_of_name (by first | (simp [plainName, overriddenIn]; done) | decide +kernel) | decide +kernel | exact Jvm.Free.JP.mathPlain rfl (by decide +kernel)
theorem own_unP_ef (m : MethodId) (x0 : Addr) : entryFrame m #[(.ref x0)] 6 = mkF m 0 #[.val (.ref x0), .unset, .unset, .unset, .unset, .unset] [] := by first | (simp [entryFrame, mkF, argsToLocals, Value.category]; done) | rfl
def own_unP_Q (Z : State) (a1 : Addr) (va : Addr) (kv : ClassId) (v0 : Int32) (zc : Int32) (vS : Value) (h0 : Heap) (n0 : Nat) (v : Option Value) (h : Heap) (L : List Loc) : Prop := ∃ b kb, v = some (.ref b) ∧ Fr n0 L ∧ Keep h0 h [] ∧ h0.size ≤ b ∧ Arv Z h b kb .byte (1 : Int32) [(.int (own_sb v0))] (.int 0) ∧ Exa Z h b "[B"
set_option maxRecDepth 65536 in
set_option maxHeartbeats 40000000 in
theorem own_unP (l : Launch) (Z : State) (a0 : Array Value) (hw : ∀ d ∈ tables_1, d.before a0 Z = true) (ws : List Jvm.Cond) (a1 : Addr) (va : Addr) (kv : ClassId) (v0 : Int32) (zc : Int32) (vS : Value) (h0 : Heap) (n0 : Nat) (O : Old Z n0 h0) (E_a1 : Exa Z h0 a1 "java/lang/String") (F_value_a1 : Fld Z h0 a1 "java/lang/String" "value" "[B" (.ref va)) (F_coder_a1 : Fld Z h0 a1 "java/lang/String" "coder" "B" (.int 0)) (V_va : Arv Z h0 va kv .byte (1 : Int32) [(.int (own_b8 v0))] (.int 0)) (bd0 : 0 ≤ v0.toInt ∧ v0.toInt < 256) (pp0 : ¬ v0 = (92 : Int32) ∧ ¬ v0 < (32 : Int32) ∧ ¬ (126 : Int32) < v0) (S_C : Sta Z Z.heap "java/lang/String" "COMPACT_STRINGS" "Z" (.int zc)) (hzc : ¬ zc = 0) (S_S : Sta Z Z.heap "jdk/internal/util/Preconditions" "SIOOBE_FORMATTER" "Ljava/util/function/BiFunction;" vS) (hvS : vS.isRef = true) :
    MetFree l (⟨"com/example/rows_to_regions/rowstoregions/KeyText", "unescape", "(Ljava/lang/String;)[B"⟩ : MethodName) (head1 (Jvm.Cond.code (⟨"com/example/rows_to_regions/rowstoregions/KeyText", "unescape", "(Ljava/lang/String;)[B"⟩ : MethodName) prog_10_method_3_code 6 (some (.array .byte)) :: ws) ({ frames := 5, cells := 2, slots := 16, locals := 68 } : Room)) (fun a U => a = #[(.ref a1)] ∧ Z.Warmed39 U.vm ∧ U.heap = h0) (fun _ _ _ _ _ => True) (fun _ U o U' => ∃ v L, o = .returned v ∧ own_unP_Q Z a1 va kv v0 zc vS h0 n0 v U'.heap L ∧ FrameEnd U o U' L ({ frames := 5, cells := 2, slots := 16, locals := 68 } : Room).cells ({ frames := 5, cells := 2, slots := 16, locals := 68 } : Room).slots) := by
  refine MetFree.of_bodySF own_unP_pn hisR ?_
  intro p e s m args below meth c s₁ Bd hml0 hP hK
  obtain ⟨rfl, hZ, hh⟩ := hP
  have hx := Bd.exec
  have hby := Bd.bytes
  have hlk := Bd.notSynchronized
  have hml : c.maxLocals = 6 := hml0
  have hown : s.vm.findClass "com/example/rows_to_regions/rowstoregions/KeyText" = some m.cls := findClass_of_methodNamed Bd.named
  have hnm := (name_of_methodNamed Bd.named Bd.method).1
  have X : Stand p l e ({ frames := 5, cells := 2, slots := 16, locals := 68 } : Room) s m #[(.ref a1)] below meth c s₁ [] 0 0 := Stand.of_body Bd
  have eT : s₁.heap = h0 := by rw [← hh, Bd.state]; rfl
  have N := Fr.nil n0
  have K0 := Keep.refl h0 []
  show own_Ends p e below (own_Post s below (own_unP_Q Z a1 va kv v0 zc vS h0 n0) ({ frames := 5, cells := 2, slots := 16, locals := 68 } : Room).cells ({ frames := 5, cells := 2, slots := 16, locals := 68 } : Room).slots) s₁ (entryFrame m #[(.ref a1)] 6)
  rw [own_unP_ef m a1]
  obtain ⟨T, hT⟩ : ∃ z, z = s₁ := ⟨_, rfl⟩
  rw [← hT] at X eT ⊢
  obtain ⟨h, hh0⟩ : ∃ z, z = h0 := ⟨_, rfl⟩
  rw [← hh0] at eT
  replace O : Old Z n0 h := by rw [hh0]; exact O
  replace K0 : Keep h0 h [] := by rw [hh0]; exact K0
  rw [← hh0] at E_a1
  rw [← hh0] at F_value_a1
  rw [← hh0] at F_coder_a1
  rw [← hh0] at V_va
  refine own_via (g' := (mkF m 1 (own_A19 a1) [(.ref a1)])) (fun t_ k_ => XS.aloadN X.here hx rfl (hb hby ep10m3_d0) rfl rfl k_) ?_
  obtain ⟨cq, kq, qa, qb, qc⟩ := isOf hZ eT E_a1
  obtain ⟨_, _, ⟨T, Lq, kq, nq⟩, -, X, ⟨Lc, hQ, lq, yq, zq⟩, st⟩ := X.virtualBack hx (y := own_y6) (z := own_y6) hown (mvT hZ (hw _ (own_w 33 rfl))) (mvT hZ (hw _ (own_w 34 rfl))) (notFace_of_selects (args := #[]) (mvT hZ (hw _ (own_w 36 rfl)))) (mvT hZ (hw _ (own_w 36 rfl))) (mvT hZ (hw _ (own_w 35 rfl))) (by decide) (backOf (W := 0) (own_strlen l Z a0 hw [] a1 va kv (1 : Int32) [(.int (own_b8 v0))] zc h n0 O E_a1 F_value_a1 F_coder_a1 V_va S_C hzc) hZ (hw _ (own_w 37 rfl)) (hw _ (own_w 10 rfl)) (by decide) (by decide)) qa qc (g := (mkF m 1 (own_A19 a1) [(.ref a1)])) rfl (by rw [hml]; rfl) (Steps.refl _) (argsL := []) (rest := []) (lenOf own_pd6 rfl) rfl (by show 2 * 0 + _ ≤ _; exact Nat.le_of_eq rfl) (hb hby ep10m3_d1) (fun _ _ => ⟨rfl, eT, (by decide : 0 + 0 ≤ _), (by decide : 0 + 0 ≤ _)⟩)
  dsimp only [Pt.U, Pt.locs, Pt.cells, Pt.slots] at X lq yq zq st hQ
  subst lq yq zq
  obtain ⟨rfl, Nq, eT⟩ := hQ
  replace N := Fr.app N Nq
  refine own_viaT (g' := (mkF m 4 (own_A19 a1) [(.int 1)])) st ?_
  obtain ⟨b1, gb⟩ : ∃ z, z = h.size := ⟨_, rfl⟩
  obtain ⟨T, h2, kb1, X, eT, E, A_, E_b1, st⟩ := newPE X hx hZ (hw _ (own_w 22 rfl)) eT (g := (mkF m 4 (own_A19 a1) [(.int 1)])) rfl (hb hby ep10m3_d4) rfl (by decide) (cap := 1) (by decide) (by decide) (by decide) (by decide) (ad := "[B") (by decide)
  rw [← gb] at A_ E_b1 st
  have ne_a1_b1 : a1 ≠ b1 := Nat.ne_of_lt (Nat.lt_of_lt_of_le E_a1.lt (Nat.le_of_eq gb.symm))
  have ne_va_b1 : va ≠ b1 := Nat.ne_of_lt (Nat.lt_of_lt_of_le V_va.lt (Nat.le_of_eq gb.symm))
  have g_b1 : n0 ≤ b1 := Nat.le_trans (own_le O) (Nat.le_of_eq gb.symm)
  have sz_b1 : h0.size ≤ b1 := Nat.le_trans K0.1 (Nat.le_of_eq gb.symm)
  replace E_a1 := E_a1.ext E
  replace F_value_a1 := F_value_a1.ext E
  replace F_coder_a1 := F_coder_a1.ext E
  replace V_va := V_va.ext E
  replace O := O.ext E
  replace K0 := K0.ext E
  have V_b1 : Arv Z h2 b1 kb1 .byte (1 : Int32) [(.int 0)] (.int 0) := (Arv.new A_ (by decide)).pad (pad_rep [] (.int 0) 1)
  refine own_via (g' := (mkF m 6 (own_A19 a1) [(.ref b1)])) st ?_
  refine own_via (g' := (mkF m 13 (own_A15 a1 b1 0 0) [(.ref a1), (.int 0)])) (fun t_ k_ => XS.astoreN X.here hx rfl (hb hby ep10m3_d6) rfl rfl (l' := (own_A18 a1 b1)) rfl (XS.iconst X.here hx rfl (hb hby ep10m3_d7) (XS.istoreN X.here hx rfl (hb hby ep10m3_d8) rfl (l' := (own_A17 a1 b1 0)) rfl (XS.iconst X.here hx rfl (hb hby ep10m3_d9) (XS.istoreN X.here hx rfl (hb hby ep10m3_d10) rfl (l' := (own_A15 a1 b1 0 0)) rfl (XS.iloadN X.here hx rfl (hb hby ep10m3_d11) rfl (XS.aloadN X.here hx rfl (hb hby ep10m3_d12) rfl rfl k_))))))) ?_
  obtain ⟨cq, kq, qa, qb, qc⟩ := isOf hZ eT E_a1
  obtain ⟨_, _, ⟨T, Lq, kq, nq⟩, -, X, ⟨Lc, hQ, lq, yq, zq⟩, st⟩ := X.virtualBack hx (y := own_y6) (z := own_y6) hown (mvT hZ (hw _ (own_w 33 rfl))) (mvT hZ (hw _ (own_w 34 rfl))) (notFace_of_selects (args := #[]) (mvT hZ (hw _ (own_w 36 rfl)))) (mvT hZ (hw _ (own_w 36 rfl))) (mvT hZ (hw _ (own_w 35 rfl))) (by decide) (backOf (W := 1) (own_strlen l Z a0 hw [] a1 va kv (1 : Int32) [(.int (own_b8 v0))] zc h2 n0 O E_a1 F_value_a1 F_coder_a1 V_va S_C hzc) hZ (hw _ (own_w 37 rfl)) (hw _ (own_w 10 rfl)) (by decide) (by decide)) qa qc (g := (mkF m 13 (own_A15 a1 b1 0 0) [(.ref a1), (.int 0)])) rfl (by rw [hml]; rfl) (Steps.refl _) (argsL := []) (rest := [(.int 0)]) (lenOf own_pd6 rfl) rfl (by show 2 * 0 + _ ≤ _; exact Nat.le_of_eq rfl) (hb hby ep10m3_d13) (fun _ _ => ⟨rfl, eT, (by decide : 1 + 0 ≤ _), (by decide : 1 + 0 ≤ _)⟩)
  dsimp only [Pt.U, Pt.locs, Pt.cells, Pt.slots] at X lq yq zq st hQ
  subst lq yq zq
  obtain ⟨rfl, Nq, eT⟩ := hQ
  replace N := Fr.app N Nq
  refine own_viaT (g' := (mkF m 16 (own_A15 a1 b1 0 0) [(.int 1), (.int 0)])) st ?_
  refine own_via (g' := (mkF m 21 (own_A15 a1 b1 0 0) [(.int 0), (.ref a1)])) (fun t_ k_ => XS.icmpNo X.here hx rfl (hb hby ep10m3_d16) rfl (tlt (by decide : (0 : Int32) < (1 : Int32))).2.1 (XS.aloadN X.here hx rfl (hb hby ep10m3_d19) rfl rfl (XS.iloadN X.here hx rfl (hb hby ep10m3_d20) rfl k_))) ?_
  obtain ⟨cq, kq, qa, qb, qc⟩ := isOf hZ eT E_a1
  obtain ⟨_, _, ⟨T, Lq, kq, nq⟩, -, X, ⟨Lc, hQ, lq, yq, zq⟩, st⟩ := X.virtualBack hx (y := own_y7) (z := own_y7) hown (mvT hZ (hw _ (own_w 74 rfl))) (mvT hZ (hw _ (own_w 75 rfl))) (notFace_of_selects (args := #[]) (mvT hZ (hw _ (own_w 77 rfl)))) (mvT hZ (hw _ (own_w 77 rfl))) (mvT hZ (hw _ (own_w 76 rfl))) (by decide) (backOf (W := 0) (own_charAt l Z a0 hw [] a1 (0 : Int32) va kv (1 : Int32) [(.int (own_b8 v0))] (own_b8 v0) zc vS h2 n0 O E_a1 F_value_a1 F_coder_a1 V_va S_C hzc (by decide) rfl S_S hvS) hZ (hw _ (own_w 78 rfl)) (hw _ (own_w 10 rfl)) (by decide) (by decide)) qa qc (g := (mkF m 21 (own_A15 a1 b1 0 0) [(.int 0), (.ref a1)])) rfl (by rw [hml]; rfl) (Steps.refl _) (argsL := [(.int 0)]) (rest := []) (lenOf own_pd7 rfl) rfl (by show 2 * 0 + _ ≤ _; exact Nat.le_of_eq rfl) (hb hby ep10m3_d21) (fun _ _ => ⟨rfl, eT, (by decide : 1 + 0 ≤ _), (by decide : 1 + 0 ≤ _)⟩)
  dsimp only [Pt.U, Pt.locs, Pt.cells, Pt.slots] at X lq yq zq st hQ
  subst lq yq zq
  obtain ⟨rfl, Nq, eT⟩ := hQ
  replace N := Fr.app N Nq
  refine own_viaT (g' := (mkF m 24 (own_A15 a1 b1 0 0) [(.int ((own_b8 v0) &&& (255 : Int32)))])) st ?_
  rw [own_b255 bd0.1 bd0.2]
  refine own_via (g' := (mkF m 90 (own_A10 a1 b1 0 0 v0) [])) (fun t_ k_ => XS.istore X.here hx rfl (hb hby ep10m3_d24) rfl (l' := (own_A10 a1 b1 0 0 v0)) rfl (XS.iload X.here hx rfl (hb hby ep10m3_d26) rfl (XS.bipush X.here hx rfl (hb hby ep10m3_d28) (XS.icmpYes X.here hx rfl (pc0 := 30) (pc' := 76) rfl (hb hby ep10m3_d30) rfl (feq pp0.1).2 (by decide) (by decide) (XS.iload X.here hx rfl (hb hby ep10m3_d76) rfl (XS.bipush X.here hx rfl (hb hby ep10m3_d78) (XS.icmpNo X.here hx rfl (hb hby ep10m3_d80) rfl (flt pp0.2.1).1 (XS.iload X.here hx rfl (hb hby ep10m3_d83) rfl (XS.bipush X.here hx rfl (hb hby ep10m3_d85) (XS.icmpNo X.here hx rfl (hb hby ep10m3_d87) rfl (flt pp0.2.2).2.2.1 k_)))))))))) ?_
  refine own_via (g' := (mkF m 98 (own_A10 a1 b1 ((0 : Int32) + (1 : Int32)) 0 v0) [(.int (v0.toInt8.toInt32)), (.int 0), (.ref b1)])) (fun t_ k_ => XS.aloadN X.here hx rfl (hb hby ep10m3_d90) rfl rfl (XS.iloadN X.here hx rfl (hb hby ep10m3_d91) rfl (XS.iinc X.here hx rfl (hb hby ep10m3_d92) rfl (l' := (own_A10 a1 b1 ((0 : Int32) + (1 : Int32)) 0 v0)) rfl (XS.iload X.here hx rfl (hb hby ep10m3_d95) rfl (XS.i2b X.here hx rfl (hb hby ep10m3_d97) rfl k_))))) ?_
  obtain ⟨cl_, Ar_, qk_, Sz_, Nn_, Hs_, Gs_⟩ := id V_b1
  have hin_ : ¬ ((0 : Int32) < 0 ∨ cl_.slots.size ≤ ((0 : Int32)).toNatClampNeg) := inb_of Sz_ ⟨by decide, by decide⟩
  obtain ⟨T, h3, X, eT, W, st⟩ := stB X hx hZ eT Ar_ (j := (0 : Int32)) hin_ (g := (mkF m 98 (own_A10 a1 b1 ((0 : Int32) + (1 : Int32)) 0 v0) [(.int (v0.toInt8.toInt32)), (.int 0), (.ref b1)])) rfl rfl (hb hby ep10m3_d98)
  replace V_b1 : Arv Z h3 b1 kb1 .byte (1 : Int32) [(.int (((v0.toInt8.toInt32)).toInt8.toInt32))] (.int 0) := Arv.set Ar_ qk_ Sz_ Nn_ Hs_ Gs_ (fits_nar_byte _) W 0 (by decide) (Nat.le_of_ble_eq_true rfl)
  replace E_a1 := E_a1.wr W
  replace F_value_a1 := F_value_a1.other W (Or.inl ne_a1_b1)
  replace F_coder_a1 := F_coder_a1.other W (Or.inl ne_a1_b1)
  replace V_va := V_va.other W ne_va_b1
  replace E_b1 := E_b1.wr W
  replace O := O.wr W g_b1
  replace K0 := K0.wr W (Or.inr sz_b1)
  replace N := Fr.snoc X N g_b1
  refine own_via (g' := (mkF m 99 (own_A10 a1 b1 ((0 : Int32) + (1 : Int32)) 0 v0) [])) st ?_
  refine own_via (g' := (mkF m 11 (own_A10 a1 b1 ((0 : Int32) + (1 : Int32)) ((0 : Int32) + (1 : Int32)) v0) [])) (fun t_ k_ => XS.goto X.here hx rfl (pc0 := 99) (pc' := 136) rfl (hb hby ep10m3_d99) (by decide) (by decide) (XS.iinc X.here hx rfl (hb hby ep10m3_d136) rfl (l' := (own_A10 a1 b1 ((0 : Int32) + (1 : Int32)) ((0 : Int32) + (1 : Int32)) v0)) rfl (XS.goto X.here hx rfl (pc0 := 139) (pc' := 11) rfl (hb hby ep10m3_d139) (by decide) (by decide) k_))) ?_
  rw [(by decide : ((0 : Int32) + (1 : Int32)) = (1 : Int32))]
  refine own_via (g' := (mkF m 13 (own_A10 a1 b1 1 1 v0) [(.ref a1), (.int 1)])) (fun t_ k_ => XS.iloadN X.here hx rfl (hb hby ep10m3_d11) rfl (XS.aloadN X.here hx rfl (hb hby ep10m3_d12) rfl rfl k_)) ?_
  obtain ⟨cq, kq, qa, qb, qc⟩ := isOf hZ eT E_a1
  obtain ⟨_, _, ⟨T, Lq, kq, nq⟩, -, X, ⟨Lc, hQ, lq, yq, zq⟩, st⟩ := X.virtualBack hx (y := own_y6) (z := own_y6) hown (mvT hZ (hw _ (own_w 33 rfl))) (mvT hZ (hw _ (own_w 34 rfl))) (notFace_of_selects (args := #[]) (mvT hZ (hw _ (own_w 36 rfl)))) (mvT hZ (hw _ (own_w 36 rfl))) (mvT hZ (hw _ (own_w 35 rfl))) (by decide) (backOf (W := 1) (own_strlen l Z a0 hw [] a1 va kv (1 : Int32) [(.int (own_b8 v0))] zc h3 n0 O E_a1 F_value_a1 F_coder_a1 V_va S_C hzc) hZ (hw _ (own_w 37 rfl)) (hw _ (own_w 10 rfl)) (by decide) (by decide)) qa qc (g := (mkF m 13 (own_A10 a1 b1 1 1 v0) [(.ref a1), (.int 1)])) rfl (by rw [hml]; rfl) (Steps.refl _) (argsL := []) (rest := [(.int 1)]) (lenOf own_pd6 rfl) rfl (by show 2 * 0 + _ ≤ _; exact Nat.le_of_eq rfl) (hb hby ep10m3_d13) (fun _ _ => ⟨rfl, eT, (by decide : 1 + 0 ≤ _), (by decide : 1 + 0 ≤ _)⟩)
  dsimp only [Pt.U, Pt.locs, Pt.cells, Pt.slots] at X lq yq zq st hQ
  subst lq yq zq
  obtain ⟨rfl, Nq, eT⟩ := hQ
  replace N := Fr.app N Nq
  refine own_viaT (g' := (mkF m 16 (own_A10 a1 b1 1 1 v0) [(.int 1), (.int 1)])) st ?_
  refine own_via (g' := (mkF m 144 (own_A10 a1 b1 1 1 v0) [(.int 1), (.ref b1)])) (fun t_ k_ => XS.icmpYes X.here hx rfl (pc0 := 16) (pc' := 142) rfl (hb hby ep10m3_d16) rfl (flt (by decide : ¬ ((1 : Int32) < (1 : Int32)))).2.1 (by decide) (by decide) (XS.aloadN X.here hx rfl (hb hby ep10m3_d142) rfl rfl (XS.iloadN X.here hx rfl (hb hby ep10m3_d143) rfl k_))) ?_
  obtain ⟨_, _, ⟨T, Lq, kq, nq⟩, -, X, ⟨Lc, hQ, lq, yq, zq⟩, st⟩ := Jvm.LawKit.callS X hx (y := own_y9) hown (mvT hZ (hw _ (own_w 44 rfl))) (mvT hZ (hw _ (own_w 45 rfl))) (mvT hZ (hw _ (own_w 46 rfl))) (mvT hZ (hw _ (own_w 47 rfl))) (by decide) (backOf (W := 0) (own_copyOf l Z a0 hw [] b1 kb1 (1 : Int32) (1 : Int32) [(.int (own_sb v0))] h3 n0 O E_b1 V_b1 (by decide) rfl) hZ (hw _ (own_w 47 rfl)) (hw _ (own_w 46 rfl)) (by decide) (by decide)) (g := (mkF m 144 (own_A10 a1 b1 1 1 v0) [(.int 1), (.ref b1)])) rfl (by rw [hml]; rfl) (argsL := [(.ref b1), (.int 1)]) (rest := []) (lenOf own_pd9 rfl) rfl (by show 2 * 0 + _ ≤ _; exact Nat.le_of_eq rfl) (hb hby ep10m3_d144) (fun _ _ => ⟨rfl, eT, (by decide : 1 + 1 ≤ _), (by decide : 1 + 12 ≤ _)⟩)
  dsimp only [Pt.U, Pt.locs, Pt.cells, Pt.slots] at X lq yq zq st hQ
  subst lq yq zq
  obtain ⟨bn, kbn, rfl, Nq, Kq, szq, V_bn, E_bn⟩ := hQ
  replace N := Fr.app N Nq
  obtain ⟨h4, eT⟩ : ∃ z, T.heap = z := ⟨_, rfl⟩
  rw [eT] at Kq V_bn E_bn
  have ne_a1_bn : a1 ≠ bn := Nat.ne_of_lt (Nat.lt_of_lt_of_le E_a1.lt szq)
  have ne_b1_bn : b1 ≠ bn := Nat.ne_of_lt (Nat.lt_of_lt_of_le E_b1.lt szq)
  have ne_va_bn : va ≠ bn := Nat.ne_of_lt (Nat.lt_of_lt_of_le V_va.lt szq)
  have g_bn : n0 ≤ bn := Nat.le_trans (own_le O) szq
  have sz_bn : h0.size ≤ bn := Nat.le_trans K0.1 szq
  replace E_a1 := E_a1.keep Kq
  replace F_value_a1 := F_value_a1.keep Kq nin0
  replace F_coder_a1 := F_coder_a1.keep Kq nin0
  replace V_va := V_va.keep Kq nin0
  replace E_b1 := E_b1.keep Kq
  replace V_b1 := V_b1.keep Kq nin0
  replace O := O.keep Kq all0
  replace K0 := K0.trans Kq all0
  refine own_via (g' := (mkF m 147 (own_A10 a1 b1 1 1 v0) [(.ref bn)])) st ?_
  refine own_retW X hx hlk Bd.returns rfl (Or.inr (Or.inr (Or.inr (Or.inr ⟨rfl, rfl, rfl⟩)))) (hb hby ep10m3_d147) (by decide) (by decide) ?_
  rw [eT]
  exact ⟨bn, kbn, rfl, N, K0, sz_bn, V_bn, E_bn⟩
theorem ep10m3_d33 : decode prog_10_method_3_code 33 = .ok (.aload_n 0, 1) := by decide +kernel
theorem ep10m3_d34 : decode prog_10_method_3_code 34 = .ok (.iload_n 3, 1) := by decide +kernel
theorem ep10m3_d35 : decode prog_10_method_3_code 35 = .ok (.invokestatic 36, 3) := by decide +kernel
theorem ep10m3_d38 : decode prog_10_method_3_code 38 = .ok (.istore 5, 2) := by decide +kernel
theorem ep10m3_d40 : decode prog_10_method_3_code 40 = .ok (.iload 5, 2) := by decide +kernel
theorem ep10m3_d42 : decode prog_10_method_3_code 42 = .ok (.ifCond .ge 19, 3) := by decide +kernel
theorem ep10m3_d61 : decode prog_10_method_3_code 61 = .ok (.aload_n 1, 1) := by decide +kernel
theorem ep10m3_d62 : decode prog_10_method_3_code 62 = .ok (.iload_n 2, 1) := by decide +kernel
theorem ep10m3_d63 : decode prog_10_method_3_code 63 = .ok (.iinc 2 1, 3) := by decide +kernel
theorem ep10m3_d66 : decode prog_10_method_3_code 66 = .ok (.iload 5, 2) := by decide +kernel
theorem ep10m3_d68 : decode prog_10_method_3_code 68 = .ok (.i2b, 1) := by decide +kernel
theorem ep10m3_d69 : decode prog_10_method_3_code 69 = .ok (.bastore, 1) := by decide +kernel
theorem ep10m3_d70 : decode prog_10_method_3_code 70 = .ok (.iinc 3 3, 3) := by decide +kernel
theorem ep10m3_d73 : decode prog_10_method_3_code 73 = .ok (.goto 63, 3) := by decide +kernel
theorem own_unE_pn : plainFor (⟨"com/example/rows_to_regions/rowstoregions/KeyText", "unescape", "(Ljava/lang/String;)[B"⟩ : MethodName) = true := by first | exact plainFor_of_name (by first | (simp [plainName, overriddenIn]; done) | decide +kernel) | decide +kernel | exact Jvm.Free.JP.mathPlain rfl (by decide +kernel)
theorem own_unE_ef (m : MethodId) (x0 : Addr) : entryFrame m #[(.ref x0)] 6 = mkF m 0 #[.val (.ref x0), .unset, .unset, .unset, .unset, .unset] [] := by first | (simp [entryFrame, mkF, argsToLocals, Value.category]; done) | rfl
def own_unE_Q (Z : State) (a1 : Addr) (va : Addr) (kv : ClassId) (v0 : Int32) (zc : Int32) (vS : Value) (h0 : Heap) (n0 : Nat) (v : Option Value) (h : Heap) (L : List Loc) : Prop := ∃ b kb, v = some (.ref b) ∧ Fr n0 L ∧ Keep h0 h [] ∧ h0.size ≤ b ∧ Arv Z h b kb .byte (1 : Int32) [(.int (own_sb v0))] (.int 0) ∧ Exa Z h b "[B"
set_option maxRecDepth 65536 in
set_option maxHeartbeats 40000000 in
theorem own_unE (l : Launch) (Z : State) (a0 : Array Value) (hw : ∀ d ∈ tables_1, d.before a0 Z = true) (ws : List Jvm.Cond) (a1 : Addr) (va : Addr) (kv : ClassId) (v0 : Int32) (zc : Int32) (vS : Value) (h0 : Heap) (n0 : Nat) (O : Old Z n0 h0) (E_a1 : Exa Z h0 a1 "java/lang/String") (F_value_a1 : Fld Z h0 a1 "java/lang/String" "value" "[B" (.ref va)) (F_coder_a1 : Fld Z h0 a1 "java/lang/String" "coder" "B" (.int 0)) (V_va : Arv Z h0 va kv .byte (4 : Int32) [(.int (own_b8 (92 : Int32))), (.int (own_b8 (120 : Int32))), (.int (own_b8 (own_hx (v0 / (16 : Int32))))), (.int (own_b8 (own_hx (v0 % (16 : Int32)))))] (.int 0)) (bd0 : 0 ≤ v0.toInt ∧ v0.toInt < 256) (S_C : Sta Z Z.heap "java/lang/String" "COMPACT_STRINGS" "Z" (.int zc)) (hzc : ¬ zc = 0) (S_S : Sta Z Z.heap "jdk/internal/util/Preconditions" "SIOOBE_FORMATTER" "Ljava/util/function/BiFunction;" vS) (hvS : vS.isRef = true) :
    MetFree l (⟨"com/example/rows_to_regions/rowstoregions/KeyText", "unescape", "(Ljava/lang/String;)[B"⟩ : MethodName) (head1 (Jvm.Cond.code (⟨"com/example/rows_to_regions/rowstoregions/KeyText", "unescape", "(Ljava/lang/String;)[B"⟩ : MethodName) prog_10_method_3_code 6 (some (.array .byte)) :: ws) ({ frames := 5, cells := 2, slots := 16, locals := 68 } : Room)) (fun a U => a = #[(.ref a1)] ∧ Z.Warmed39 U.vm ∧ U.heap = h0) (fun _ _ _ _ _ => True) (fun _ U o U' => ∃ v L, o = .returned v ∧ own_unE_Q Z a1 va kv v0 zc vS h0 n0 v U'.heap L ∧ FrameEnd U o U' L ({ frames := 5, cells := 2, slots := 16, locals := 68 } : Room).cells ({ frames := 5, cells := 2, slots := 16, locals := 68 } : Room).slots) := by
  refine MetFree.of_bodySF own_unE_pn hisR ?_
  intro p e s m args below meth c s₁ Bd hml0 hP hK
  obtain ⟨rfl, hZ, hh⟩ := hP
  have hx := Bd.exec
  have hby := Bd.bytes
  have hlk := Bd.notSynchronized
  have hml : c.maxLocals = 6 := hml0
  have hown : s.vm.findClass "com/example/rows_to_regions/rowstoregions/KeyText" = some m.cls := findClass_of_methodNamed Bd.named
  have hnm := (name_of_methodNamed Bd.named Bd.method).1
  have X : Stand p l e ({ frames := 5, cells := 2, slots := 16, locals := 68 } : Room) s m #[(.ref a1)] below meth c s₁ [] 0 0 := Stand.of_body Bd
  have eT : s₁.heap = h0 := by rw [← hh, Bd.state]; rfl
  have N := Fr.nil n0
  have K0 := Keep.refl h0 []
  show own_Ends p e below (own_Post s below (own_unE_Q Z a1 va kv v0 zc vS h0 n0) ({ frames := 5, cells := 2, slots := 16, locals := 68 } : Room).cells ({ frames := 5, cells := 2, slots := 16, locals := 68 } : Room).slots) s₁ (entryFrame m #[(.ref a1)] 6)
  rw [own_unE_ef m a1]
  obtain ⟨T, hT⟩ : ∃ z, z = s₁ := ⟨_, rfl⟩
  rw [← hT] at X eT ⊢
  obtain ⟨h, hh0⟩ : ∃ z, z = h0 := ⟨_, rfl⟩
  rw [← hh0] at eT
  replace O : Old Z n0 h := by rw [hh0]; exact O
  replace K0 : Keep h0 h [] := by rw [hh0]; exact K0
  rw [← hh0] at E_a1
  rw [← hh0] at F_value_a1
  rw [← hh0] at F_coder_a1
  rw [← hh0] at V_va
  refine own_via (g' := (mkF m 1 (own_A19 a1) [(.ref a1)])) (fun t_ k_ => XS.aloadN X.here hx rfl (hb hby ep10m3_d0) rfl rfl k_) ?_
  obtain ⟨cq, kq, qa, qb, qc⟩ := isOf hZ eT E_a1
  obtain ⟨_, _, ⟨T, Lq, kq, nq⟩, -, X, ⟨Lc, hQ, lq, yq, zq⟩, st⟩ := X.virtualBack hx (y := own_y6) (z := own_y6) hown (mvT hZ (hw _ (own_w 33 rfl))) (mvT hZ (hw _ (own_w 34 rfl))) (notFace_of_selects (args := #[]) (mvT hZ (hw _ (own_w 36 rfl)))) (mvT hZ (hw _ (own_w 36 rfl))) (mvT hZ (hw _ (own_w 35 rfl))) (by decide) (backOf (W := 0) (own_strlen l Z a0 hw [] a1 va kv (4 : Int32) [(.int (own_b8 (92 : Int32))), (.int (own_b8 (120 : Int32))), (.int (own_b8 (own_hx (v0 / (16 : Int32))))), (.int (own_b8 (own_hx (v0 % (16 : Int32)))))] zc h n0 O E_a1 F_value_a1 F_coder_a1 V_va S_C hzc) hZ (hw _ (own_w 37 rfl)) (hw _ (own_w 10 rfl)) (by decide) (by decide)) qa qc (g := (mkF m 1 (own_A19 a1) [(.ref a1)])) rfl (by rw [hml]; rfl) (Steps.refl _) (argsL := []) (rest := []) (lenOf own_pd6 rfl) rfl (by show 2 * 0 + _ ≤ _; exact Nat.le_of_eq rfl) (hb hby ep10m3_d1) (fun _ _ => ⟨rfl, eT, (by decide : 0 + 0 ≤ _), (by decide : 0 + 0 ≤ _)⟩)
  dsimp only [Pt.U, Pt.locs, Pt.cells, Pt.slots] at X lq yq zq st hQ
  subst lq yq zq
  obtain ⟨rfl, Nq, eT⟩ := hQ
  replace N := Fr.app N Nq
  refine own_viaT (g' := (mkF m 4 (own_A19 a1) [(.int 4)])) st ?_
  obtain ⟨b1, gb⟩ : ∃ z, z = h.size := ⟨_, rfl⟩
  obtain ⟨T, h2, kb1, X, eT, E, A_, E_b1, st⟩ := newPE X hx hZ (hw _ (own_w 22 rfl)) eT (g := (mkF m 4 (own_A19 a1) [(.int 4)])) rfl (hb hby ep10m3_d4) rfl (by decide) (cap := 4) (by decide) (by decide) (by decide) (by decide) (ad := "[B") (by decide)
  rw [← gb] at A_ E_b1 st
  have ne_a1_b1 : a1 ≠ b1 := Nat.ne_of_lt (Nat.lt_of_lt_of_le E_a1.lt (Nat.le_of_eq gb.symm))
  have ne_va_b1 : va ≠ b1 := Nat.ne_of_lt (Nat.lt_of_lt_of_le V_va.lt (Nat.le_of_eq gb.symm))
  have g_b1 : n0 ≤ b1 := Nat.le_trans (own_le O) (Nat.le_of_eq gb.symm)
  have sz_b1 : h0.size ≤ b1 := Nat.le_trans K0.1 (Nat.le_of_eq gb.symm)
  replace E_a1 := E_a1.ext E
  replace F_value_a1 := F_value_a1.ext E
  replace F_coder_a1 := F_coder_a1.ext E
  replace V_va := V_va.ext E
  replace O := O.ext E
  replace K0 := K0.ext E
  have V_b1 : Arv Z h2 b1 kb1 .byte (4 : Int32) [(.int 0), (.int 0), (.int 0), (.int 0)] (.int 0) := (Arv.new A_ (by decide)).pad (pad_rep [] (.int 0) 4)
  refine own_via (g' := (mkF m 6 (own_A19 a1) [(.ref b1)])) st ?_
  refine own_via (g' := (mkF m 13 (own_A15 a1 b1 0 0) [(.ref a1), (.int 0)])) (fun t_ k_ => XS.astoreN X.here hx rfl (hb hby ep10m3_d6) rfl rfl (l' := (own_A18 a1 b1)) rfl (XS.iconst X.here hx rfl (hb hby ep10m3_d7) (XS.istoreN X.here hx rfl (hb hby ep10m3_d8) rfl (l' := (own_A17 a1 b1 0)) rfl (XS.iconst X.here hx rfl (hb hby ep10m3_d9) (XS.istoreN X.here hx rfl (hb hby ep10m3_d10) rfl (l' := (own_A15 a1 b1 0 0)) rfl (XS.iloadN X.here hx rfl (hb hby ep10m3_d11) rfl (XS.aloadN X.here hx rfl (hb hby ep10m3_d12) rfl rfl k_))))))) ?_
  obtain ⟨cq, kq, qa, qb, qc⟩ := isOf hZ eT E_a1
  obtain ⟨_, _, ⟨T, Lq, kq, nq⟩, -, X, ⟨Lc, hQ, lq, yq, zq⟩, st⟩ := X.virtualBack hx (y := own_y6) (z := own_y6) hown (mvT hZ (hw _ (own_w 33 rfl))) (mvT hZ (hw _ (own_w 34 rfl))) (notFace_of_selects (args := #[]) (mvT hZ (hw _ (own_w 36 rfl)))) (mvT hZ (hw _ (own_w 36 rfl))) (mvT hZ (hw _ (own_w 35 rfl))) (by decide) (backOf (W := 1) (own_strlen l Z a0 hw [] a1 va kv (4 : Int32) [(.int (own_b8 (92 : Int32))), (.int (own_b8 (120 : Int32))), (.int (own_b8 (own_hx (v0 / (16 : Int32))))), (.int (own_b8 (own_hx (v0 % (16 : Int32)))))] zc h2 n0 O E_a1 F_value_a1 F_coder_a1 V_va S_C hzc) hZ (hw _ (own_w 37 rfl)) (hw _ (own_w 10 rfl)) (by decide) (by decide)) qa qc (g := (mkF m 13 (own_A15 a1 b1 0 0) [(.ref a1), (.int 0)])) rfl (by rw [hml]; rfl) (Steps.refl _) (argsL := []) (rest := [(.int 0)]) (lenOf own_pd6 rfl) rfl (by show 2 * 0 + _ ≤ _; exact Nat.le_of_eq rfl) (hb hby ep10m3_d13) (fun _ _ => ⟨rfl, eT, (by decide : 1 + 0 ≤ _), (by decide : 4 + 0 ≤ _)⟩)
  dsimp only [Pt.U, Pt.locs, Pt.cells, Pt.slots] at X lq yq zq st hQ
  subst lq yq zq
  obtain ⟨rfl, Nq, eT⟩ := hQ
  replace N := Fr.app N Nq
  refine own_viaT (g' := (mkF m 16 (own_A15 a1 b1 0 0) [(.int 4), (.int 0)])) st ?_
  refine own_via (g' := (mkF m 21 (own_A15 a1 b1 0 0) [(.int 0), (.ref a1)])) (fun t_ k_ => XS.icmpNo X.here hx rfl (hb hby ep10m3_d16) rfl (tlt (by decide : (0 : Int32) < (4 : Int32))).2.1 (XS.aloadN X.here hx rfl (hb hby ep10m3_d19) rfl rfl (XS.iloadN X.here hx rfl (hb hby ep10m3_d20) rfl k_))) ?_
  obtain ⟨cq, kq, qa, qb, qc⟩ := isOf hZ eT E_a1
  obtain ⟨_, _, ⟨T, Lq, kq, nq⟩, -, X, ⟨Lc, hQ, lq, yq, zq⟩, st⟩ := X.virtualBack hx (y := own_y7) (z := own_y7) hown (mvT hZ (hw _ (own_w 74 rfl))) (mvT hZ (hw _ (own_w 75 rfl))) (notFace_of_selects (args := #[]) (mvT hZ (hw _ (own_w 77 rfl)))) (mvT hZ (hw _ (own_w 77 rfl))) (mvT hZ (hw _ (own_w 76 rfl))) (by decide) (backOf (W := 0) (own_charAt l Z a0 hw [] a1 (0 : Int32) va kv (4 : Int32) [(.int (own_b8 (92 : Int32))), (.int (own_b8 (120 : Int32))), (.int (own_b8 (own_hx (v0 / (16 : Int32))))), (.int (own_b8 (own_hx (v0 % (16 : Int32)))))] (own_b8 (92 : Int32)) zc vS h2 n0 O E_a1 F_value_a1 F_coder_a1 V_va S_C hzc (by decide) rfl S_S hvS) hZ (hw _ (own_w 78 rfl)) (hw _ (own_w 10 rfl)) (by decide) (by decide)) qa qc (g := (mkF m 21 (own_A15 a1 b1 0 0) [(.int 0), (.ref a1)])) rfl (by rw [hml]; rfl) (Steps.refl _) (argsL := [(.int 0)]) (rest := []) (lenOf own_pd7 rfl) rfl (by show 2 * 0 + _ ≤ _; exact Nat.le_of_eq rfl) (hb hby ep10m3_d21) (fun _ _ => ⟨rfl, eT, (by decide : 1 + 0 ≤ _), (by decide : 4 + 0 ≤ _)⟩)
  dsimp only [Pt.U, Pt.locs, Pt.cells, Pt.slots] at X lq yq zq st hQ
  subst lq yq zq
  obtain ⟨rfl, Nq, eT⟩ := hQ
  replace N := Fr.app N Nq
  refine own_viaT (g' := (mkF m 24 (own_A15 a1 b1 0 0) [(.int ((own_b8 (92 : Int32)) &&& (255 : Int32)))])) st ?_
  rw [(by decide : ((own_b8 (92 : Int32)) &&& (255 : Int32)) = (92 : Int32))]
  refine own_via (g' := (mkF m 35 (own_A10 a1 b1 0 0 92) [(.int 0), (.ref a1)])) (fun t_ k_ => XS.istore X.here hx rfl (hb hby ep10m3_d24) rfl (l' := (own_A10 a1 b1 0 0 92)) rfl (XS.iload X.here hx rfl (hb hby ep10m3_d26) rfl (XS.bipush X.here hx rfl (hb hby ep10m3_d28) (XS.icmpNo X.here hx rfl (hb hby ep10m3_d30) rfl (teq (by decide : (92 : Int32) = (92 : Int32))).2 (XS.aloadN X.here hx rfl (hb hby ep10m3_d33) rfl rfl (XS.iloadN X.here hx rfl (hb hby ep10m3_d34) rfl k_)))))) ?_
  obtain ⟨_, _, ⟨T, Lq, kq, nq⟩, -, X, ⟨Lc, hQ, lq, yq, zq⟩, st⟩ := Jvm.LawKit.callS X hx (y := own_y10) hown (mvT hZ (hw _ (own_w 96 rfl))) (mvT hZ (hw _ (own_w 97 rfl))) (mvT hZ (hw _ (own_w 31 rfl))) (mvT hZ (hw _ (own_w 98 rfl))) (by decide) (backOf (W := 0) (own_escByte l Z a0 hw [] a1 va kv (4 : Int32) [(.int (own_b8 (92 : Int32))), (.int (own_b8 (120 : Int32))), (.int (own_b8 (own_hx (v0 / (16 : Int32))))), (.int (own_b8 (own_hx (v0 % (16 : Int32)))))] (0 : Int32) v0 (own_b8 (120 : Int32)) (own_b8 (own_hx (v0 / (16 : Int32)))) (own_b8 (own_hx (v0 % (16 : Int32)))) zc vS h2 n0 O E_a1 F_value_a1 F_coder_a1 V_va (by decide) rfl (by decide) (by decide) rfl (own_b255 (own_hxB (own_hi bd0.1 bd0.2).2.1 (own_hi bd0.1 bd0.2).2.2).1 (own_hxB (own_hi bd0.1 bd0.2).2.1 (own_hi bd0.1 bd0.2).2.2).2) (by decide) rfl (own_b255 (own_hxB (own_lo bd0.1 bd0.2).2.1 (own_lo bd0.1 bd0.2).2.2).1 (own_hxB (own_lo bd0.1 bd0.2).2.1 (own_lo bd0.1 bd0.2).2.2).2) bd0 S_C hzc S_S hvS) hZ (hw _ (own_w 98 rfl)) (hw _ (own_w 31 rfl)) (by decide) (by decide)) (g := (mkF m 35 (own_A10 a1 b1 0 0 92) [(.int 0), (.ref a1)])) rfl (by rw [hml]; rfl) (argsL := [(.ref a1), (.int 0)]) (rest := []) (lenOf own_pd10 rfl) rfl (by show 2 * 0 + _ ≤ _; exact Nat.le_of_eq rfl) (hb hby ep10m3_d35) (fun _ _ => ⟨rfl, eT, (by decide : 1 + 0 ≤ _), (by decide : 4 + 0 ≤ _)⟩)
  dsimp only [Pt.U, Pt.locs, Pt.cells, Pt.slots] at X lq yq zq st hQ
  subst lq yq zq
  obtain ⟨rfl, Nq, eT⟩ := hQ
  replace N := Fr.app N Nq
  refine own_via (g' := (mkF m 38 (own_A10 a1 b1 0 0 92) [(.int v0)])) st ?_
  refine own_via (g' := (mkF m 69 (own_A8 a1 b1 ((0 : Int32) + (1 : Int32)) 0 92 v0) [(.int (v0.toInt8.toInt32)), (.int 0), (.ref b1)])) (fun t_ k_ => XS.istore X.here hx rfl (hb hby ep10m3_d38) rfl (l' := (own_A8 a1 b1 0 0 92 v0)) rfl (XS.iload X.here hx rfl (hb hby ep10m3_d40) rfl (XS.ifYes X.here hx rfl (pc0 := 42) (pc' := 61) rfl (hb hby ep10m3_d42) rfl ((if0 _ _).trans (flt (own_nn bd0.1)).2.1) (by decide) (by decide) (XS.aloadN X.here hx rfl (hb hby ep10m3_d61) rfl rfl (XS.iloadN X.here hx rfl (hb hby ep10m3_d62) rfl (XS.iinc X.here hx rfl (hb hby ep10m3_d63) rfl (l' := (own_A8 a1 b1 ((0 : Int32) + (1 : Int32)) 0 92 v0)) rfl (XS.iload X.here hx rfl (hb hby ep10m3_d66) rfl (XS.i2b X.here hx rfl (hb hby ep10m3_d68) rfl k_)))))))) ?_
  obtain ⟨cl_, Ar_, qk_, Sz_, Nn_, Hs_, Gs_⟩ := id V_b1
  have hin_ : ¬ ((0 : Int32) < 0 ∨ cl_.slots.size ≤ ((0 : Int32)).toNatClampNeg) := inb_of Sz_ ⟨by decide, by decide⟩
  obtain ⟨T, h3, X, eT, W, st⟩ := stB X hx hZ eT Ar_ (j := (0 : Int32)) hin_ (g := (mkF m 69 (own_A8 a1 b1 ((0 : Int32) + (1 : Int32)) 0 92 v0) [(.int (v0.toInt8.toInt32)), (.int 0), (.ref b1)])) rfl rfl (hb hby ep10m3_d69)
  replace V_b1 : Arv Z h3 b1 kb1 .byte (4 : Int32) [(.int (((v0.toInt8.toInt32)).toInt8.toInt32)), (.int 0), (.int 0), (.int 0)] (.int 0) := Arv.set Ar_ qk_ Sz_ Nn_ Hs_ Gs_ (fits_nar_byte _) W 0 (by decide) (Nat.le_of_ble_eq_true rfl)
  replace E_a1 := E_a1.wr W
  replace F_value_a1 := F_value_a1.other W (Or.inl ne_a1_b1)
  replace F_coder_a1 := F_coder_a1.other W (Or.inl ne_a1_b1)
  replace V_va := V_va.other W ne_va_b1
  replace E_b1 := E_b1.wr W
  replace O := O.wr W g_b1
  replace K0 := K0.wr W (Or.inr sz_b1)
  replace N := Fr.snoc X N g_b1
  refine own_via (g' := (mkF m 70 (own_A8 a1 b1 ((0 : Int32) + (1 : Int32)) 0 92 v0) [])) st ?_
  refine own_via (g' := (mkF m 11 (own_A8 a1 b1 ((0 : Int32) + (1 : Int32)) (((0 : Int32) + (3 : Int32)) + (1 : Int32)) 92 v0) [])) (fun t_ k_ => XS.iinc X.here hx rfl (hb hby ep10m3_d70) rfl (l' := (own_A8 a1 b1 ((0 : Int32) + (1 : Int32)) ((0 : Int32) + (3 : Int32)) 92 v0)) rfl (XS.goto X.here hx rfl (pc0 := 73) (pc' := 136) rfl (hb hby ep10m3_d73) (by decide) (by decide) (XS.iinc X.here hx rfl (hb hby ep10m3_d136) rfl (l' := (own_A8 a1 b1 ((0 : Int32) + (1 : Int32)) (((0 : Int32) + (3 : Int32)) + (1 : Int32)) 92 v0)) rfl (XS.goto X.here hx rfl (pc0 := 139) (pc' := 11) rfl (hb hby ep10m3_d139) (by decide) (by decide) k_)))) ?_
  rw [(by decide : ((0 : Int32) + (1 : Int32)) = (1 : Int32))]
  rw [(by decide : (((0 : Int32) + (3 : Int32)) + (1 : Int32)) = (4 : Int32))]
  refine own_via (g' := (mkF m 13 (own_A8 a1 b1 1 4 92 v0) [(.ref a1), (.int 4)])) (fun t_ k_ => XS.iloadN X.here hx rfl (hb hby ep10m3_d11) rfl (XS.aloadN X.here hx rfl (hb hby ep10m3_d12) rfl rfl k_)) ?_
  obtain ⟨cq, kq, qa, qb, qc⟩ := isOf hZ eT E_a1
  obtain ⟨_, _, ⟨T, Lq, kq, nq⟩, -, X, ⟨Lc, hQ, lq, yq, zq⟩, st⟩ := X.virtualBack hx (y := own_y6) (z := own_y6) hown (mvT hZ (hw _ (own_w 33 rfl))) (mvT hZ (hw _ (own_w 34 rfl))) (notFace_of_selects (args := #[]) (mvT hZ (hw _ (own_w 36 rfl)))) (mvT hZ (hw _ (own_w 36 rfl))) (mvT hZ (hw _ (own_w 35 rfl))) (by decide) (backOf (W := 1) (own_strlen l Z a0 hw [] a1 va kv (4 : Int32) [(.int (own_b8 (92 : Int32))), (.int (own_b8 (120 : Int32))), (.int (own_b8 (own_hx (v0 / (16 : Int32))))), (.int (own_b8 (own_hx (v0 % (16 : Int32)))))] zc h3 n0 O E_a1 F_value_a1 F_coder_a1 V_va S_C hzc) hZ (hw _ (own_w 37 rfl)) (hw _ (own_w 10 rfl)) (by decide) (by decide)) qa qc (g := (mkF m 13 (own_A8 a1 b1 1 4 92 v0) [(.ref a1), (.int 4)])) rfl (by rw [hml]; rfl) (Steps.refl _) (argsL := []) (rest := [(.int 4)]) (lenOf own_pd6 rfl) rfl (by show 2 * 0 + _ ≤ _; exact Nat.le_of_eq rfl) (hb hby ep10m3_d13) (fun _ _ => ⟨rfl, eT, (by decide : 1 + 0 ≤ _), (by decide : 4 + 0 ≤ _)⟩)
  dsimp only [Pt.U, Pt.locs, Pt.cells, Pt.slots] at X lq yq zq st hQ
  subst lq yq zq
  obtain ⟨rfl, Nq, eT⟩ := hQ
  replace N := Fr.app N Nq
  refine own_viaT (g' := (mkF m 16 (own_A8 a1 b1 1 4 92 v0) [(.int 4), (.int 4)])) st ?_
  refine own_via (g' := (mkF m 144 (own_A8 a1 b1 1 4 92 v0) [(.int 1), (.ref b1)])) (fun t_ k_ => XS.icmpYes X.here hx rfl (pc0 := 16) (pc' := 142) rfl (hb hby ep10m3_d16) rfl (flt (by decide : ¬ ((4 : Int32) < (4 : Int32)))).2.1 (by decide) (by decide) (XS.aloadN X.here hx rfl (hb hby ep10m3_d142) rfl rfl (XS.iloadN X.here hx rfl (hb hby ep10m3_d143) rfl k_))) ?_
  replace V_b1 : Arv Z h3 b1 kb1 .byte (4 : Int32) [(.int (own_sb v0))] (.int 0) := V_b1.pad (fun i => (pad_rep [(.int (own_sb v0))] (.int 0) 3 i).symm)
  obtain ⟨_, _, ⟨T, Lq, kq, nq⟩, -, X, ⟨Lc, hQ, lq, yq, zq⟩, st⟩ := Jvm.LawKit.callS X hx (y := own_y9) hown (mvT hZ (hw _ (own_w 44 rfl))) (mvT hZ (hw _ (own_w 45 rfl))) (mvT hZ (hw _ (own_w 46 rfl))) (mvT hZ (hw _ (own_w 47 rfl))) (by decide) (backOf (W := 0) (own_copyOf l Z a0 hw [] b1 kb1 (1 : Int32) (4 : Int32) [(.int (own_sb v0))] h3 n0 O E_b1 V_b1 (by decide) rfl) hZ (hw _ (own_w 47 rfl)) (hw _ (own_w 46 rfl)) (by decide) (by decide)) (g := (mkF m 144 (own_A8 a1 b1 1 4 92 v0) [(.int 1), (.ref b1)])) rfl (by rw [hml]; rfl) (argsL := [(.ref b1), (.int 1)]) (rest := []) (lenOf own_pd9 rfl) rfl (by show 2 * 0 + _ ≤ _; exact Nat.le_of_eq rfl) (hb hby ep10m3_d144) (fun _ _ => ⟨rfl, eT, (by decide : 1 + 1 ≤ _), (by decide : 4 + 12 ≤ _)⟩)
  dsimp only [Pt.U, Pt.locs, Pt.cells, Pt.slots] at X lq yq zq st hQ
  subst lq yq zq
  obtain ⟨bn, kbn, rfl, Nq, Kq, szq, V_bn, E_bn⟩ := hQ
  replace N := Fr.app N Nq
  obtain ⟨h4, eT⟩ : ∃ z, T.heap = z := ⟨_, rfl⟩
  rw [eT] at Kq V_bn E_bn
  have ne_a1_bn : a1 ≠ bn := Nat.ne_of_lt (Nat.lt_of_lt_of_le E_a1.lt szq)
  have ne_b1_bn : b1 ≠ bn := Nat.ne_of_lt (Nat.lt_of_lt_of_le E_b1.lt szq)
  have ne_va_bn : va ≠ bn := Nat.ne_of_lt (Nat.lt_of_lt_of_le V_va.lt szq)
  have g_bn : n0 ≤ bn := Nat.le_trans (own_le O) szq
  have sz_bn : h0.size ≤ bn := Nat.le_trans K0.1 szq
  replace E_a1 := E_a1.keep Kq
  replace F_value_a1 := F_value_a1.keep Kq nin0
  replace F_coder_a1 := F_coder_a1.keep Kq nin0
  replace V_va := V_va.keep Kq nin0
  replace E_b1 := E_b1.keep Kq
  replace V_b1 := V_b1.keep Kq nin0
  replace O := O.keep Kq all0
  replace K0 := K0.trans Kq all0
  refine own_via (g' := (mkF m 147 (own_A8 a1 b1 1 4 92 v0) [(.ref bn)])) st ?_
  refine own_retW X hx hlk Bd.returns rfl (Or.inr (Or.inr (Or.inr (Or.inr ⟨rfl, rfl, rfl⟩)))) (hb hby ep10m3_d147) (by decide) (by decide) ?_
  rw [eT]
  exact ⟨bn, kbn, rfl, N, K0, sz_bn, V_bn, E_bn⟩
theorem own_unPP_pn : plainFor (⟨"com/example/rows_to_regions/rowstoregions/KeyText", "unescape", "(Ljava/lang/String;)[B"⟩ : MethodName) = true := by first | exact plainFor_of_name (by first | (simp [plainName, overriddenIn]; done) | decide +kernel) | decide +kernel | exact Jvm.Free.JP.mathPlain rfl (by decide +kernel)
theorem own_unPP_ef (m : MethodId) (x0 : Addr) : entryFrame m #[(.ref x0)] 6 = mkF m 0 #[.val (.ref x0), .unset, .unset, .unset, .unset, .unset] [] := by first | (simp [entryFrame, mkF, argsToLocals, Value.category]; done) | rfl
def own_unPP_Q (Z : State) (a1 : Addr) (va : Addr) (kv : ClassId) (v0 : Int32) (v1 : Int32) (zc : Int32) (vS : Value) (h0 : Heap) (n0 : Nat) (v : Option Value) (h : Heap) (L : List Loc) : Prop := ∃ b kb, v = some (.ref b) ∧ Fr n0 L ∧ Keep h0 h [] ∧ h0.size ≤ b ∧ Arv Z h b kb .byte (2 : Int32) [(.int (own_sb v0)), (.int (own_sb v1))] (.int 0) ∧ Exa Z h b "[B"
set_option maxRecDepth 65536 in
set_option maxHeartbeats 40000000 in
theorem own_unPP (l : Launch) (Z : State) (a0 : Array Value) (hw : ∀ d ∈ tables_1, d.before a0 Z = true) (ws : List Jvm.Cond) (a1 : Addr) (va : Addr) (kv : ClassId) (v0 : Int32) (v1 : Int32) (zc : Int32) (vS : Value) (h0 : Heap) (n0 : Nat) (O : Old Z n0 h0) (E_a1 : Exa Z h0 a1 "java/lang/String") (F_value_a1 : Fld Z h0 a1 "java/lang/String" "value" "[B" (.ref va)) (F_coder_a1 : Fld Z h0 a1 "java/lang/String" "coder" "B" (.int 0)) (V_va : Arv Z h0 va kv .byte (2 : Int32) [(.int (own_b8 v0)), (.int (own_b8 v1))] (.int 0)) (bd0 : 0 ≤ v0.toInt ∧ v0.toInt < 256) (pp0 : ¬ v0 = (92 : Int32) ∧ ¬ v0 < (32 : Int32) ∧ ¬ (126 : Int32) < v0) (bd1 : 0 ≤ v1.toInt ∧ v1.toInt < 256) (pp1 : ¬ v1 = (92 : Int32) ∧ ¬ v1 < (32 : Int32) ∧ ¬ (126 : Int32) < v1) (S_C : Sta Z Z.heap "java/lang/String" "COMPACT_STRINGS" "Z" (.int zc)) (hzc : ¬ zc = 0) (S_S : Sta Z Z.heap "jdk/internal/util/Preconditions" "SIOOBE_FORMATTER" "Ljava/util/function/BiFunction;" vS) (hvS : vS.isRef = true) :
    MetFree l (⟨"com/example/rows_to_regions/rowstoregions/KeyText", "unescape", "(Ljava/lang/String;)[B"⟩ : MethodName) (head1 (Jvm.Cond.code (⟨"com/example/rows_to_regions/rowstoregions/KeyText", "unescape", "(Ljava/lang/String;)[B"⟩ : MethodName) prog_10_method_3_code 6 (some (.array .byte)) :: ws) ({ frames := 5, cells := 2, slots := 20, locals := 68 } : Room)) (fun a U => a = #[(.ref a1)] ∧ Z.Warmed39 U.vm ∧ U.heap = h0) (fun _ _ _ _ _ => True) (fun _ U o U' => ∃ v L, o = .returned v ∧ own_unPP_Q Z a1 va kv v0 v1 zc vS h0 n0 v U'.heap L ∧ FrameEnd U o U' L ({ frames := 5, cells := 2, slots := 20, locals := 68 } : Room).cells ({ frames := 5, cells := 2, slots := 20, locals := 68 } : Room).slots) := by
  refine MetFree.of_bodySF own_unPP_pn hisR ?_
  intro p e s m args below meth c s₁ Bd hml0 hP hK
  obtain ⟨rfl, hZ, hh⟩ := hP
  have hx := Bd.exec
  have hby := Bd.bytes
  have hlk := Bd.notSynchronized
  have hml : c.maxLocals = 6 := hml0
  have hown : s.vm.findClass "com/example/rows_to_regions/rowstoregions/KeyText" = some m.cls := findClass_of_methodNamed Bd.named
  have hnm := (name_of_methodNamed Bd.named Bd.method).1
  have X : Stand p l e ({ frames := 5, cells := 2, slots := 20, locals := 68 } : Room) s m #[(.ref a1)] below meth c s₁ [] 0 0 := Stand.of_body Bd
  have eT : s₁.heap = h0 := by rw [← hh, Bd.state]; rfl
  have N := Fr.nil n0
  have K0 := Keep.refl h0 []
  show own_Ends p e below (own_Post s below (own_unPP_Q Z a1 va kv v0 v1 zc vS h0 n0) ({ frames := 5, cells := 2, slots := 20, locals := 68 } : Room).cells ({ frames := 5, cells := 2, slots := 20, locals := 68 } : Room).slots) s₁ (entryFrame m #[(.ref a1)] 6)
  rw [own_unPP_ef m a1]
  obtain ⟨T, hT⟩ : ∃ z, z = s₁ := ⟨_, rfl⟩
  rw [← hT] at X eT ⊢
  obtain ⟨h, hh0⟩ : ∃ z, z = h0 := ⟨_, rfl⟩
  rw [← hh0] at eT
  replace O : Old Z n0 h := by rw [hh0]; exact O
  replace K0 : Keep h0 h [] := by rw [hh0]; exact K0
  rw [← hh0] at E_a1
  rw [← hh0] at F_value_a1
  rw [← hh0] at F_coder_a1
  rw [← hh0] at V_va
  refine own_via (g' := (mkF m 1 (own_A19 a1) [(.ref a1)])) (fun t_ k_ => XS.aloadN X.here hx rfl (hb hby ep10m3_d0) rfl rfl k_) ?_
  obtain ⟨cq, kq, qa, qb, qc⟩ := isOf hZ eT E_a1
  obtain ⟨_, _, ⟨T, Lq, kq, nq⟩, -, X, ⟨Lc, hQ, lq, yq, zq⟩, st⟩ := X.virtualBack hx (y := own_y6) (z := own_y6) hown (mvT hZ (hw _ (own_w 33 rfl))) (mvT hZ (hw _ (own_w 34 rfl))) (notFace_of_selects (args := #[]) (mvT hZ (hw _ (own_w 36 rfl)))) (mvT hZ (hw _ (own_w 36 rfl))) (mvT hZ (hw _ (own_w 35 rfl))) (by decide) (backOf (W := 0) (own_strlen l Z a0 hw [] a1 va kv (2 : Int32) [(.int (own_b8 v0)), (.int (own_b8 v1))] zc h n0 O E_a1 F_value_a1 F_coder_a1 V_va S_C hzc) hZ (hw _ (own_w 37 rfl)) (hw _ (own_w 10 rfl)) (by decide) (by decide)) qa qc (g := (mkF m 1 (own_A19 a1) [(.ref a1)])) rfl (by rw [hml]; rfl) (Steps.refl _) (argsL := []) (rest := []) (lenOf own_pd6 rfl) rfl (by show 2 * 0 + _ ≤ _; exact Nat.le_of_eq rfl) (hb hby ep10m3_d1) (fun _ _ => ⟨rfl, eT, (by decide : 0 + 0 ≤ _), (by decide : 0 + 0 ≤ _)⟩)
  dsimp only [Pt.U, Pt.locs, Pt.cells, Pt.slots] at X lq yq zq st hQ
  subst lq yq zq
  obtain ⟨rfl, Nq, eT⟩ := hQ
  replace N := Fr.app N Nq
  refine own_viaT (g' := (mkF m 4 (own_A19 a1) [(.int 2)])) st ?_
  obtain ⟨b1, gb⟩ : ∃ z, z = h.size := ⟨_, rfl⟩
  obtain ⟨T, h2, kb1, X, eT, E, A_, E_b1, st⟩ := newPE X hx hZ (hw _ (own_w 22 rfl)) eT (g := (mkF m 4 (own_A19 a1) [(.int 2)])) rfl (hb hby ep10m3_d4) rfl (by decide) (cap := 2) (by decide) (by decide) (by decide) (by decide) (ad := "[B") (by decide)
  rw [← gb] at A_ E_b1 st
  have ne_a1_b1 : a1 ≠ b1 := Nat.ne_of_lt (Nat.lt_of_lt_of_le E_a1.lt (Nat.le_of_eq gb.symm))
  have ne_va_b1 : va ≠ b1 := Nat.ne_of_lt (Nat.lt_of_lt_of_le V_va.lt (Nat.le_of_eq gb.symm))
  have g_b1 : n0 ≤ b1 := Nat.le_trans (own_le O) (Nat.le_of_eq gb.symm)
  have sz_b1 : h0.size ≤ b1 := Nat.le_trans K0.1 (Nat.le_of_eq gb.symm)
  replace E_a1 := E_a1.ext E
  replace F_value_a1 := F_value_a1.ext E
  replace F_coder_a1 := F_coder_a1.ext E
  replace V_va := V_va.ext E
  replace O := O.ext E
  replace K0 := K0.ext E
  have V_b1 : Arv Z h2 b1 kb1 .byte (2 : Int32) [(.int 0), (.int 0)] (.int 0) := (Arv.new A_ (by decide)).pad (pad_rep [] (.int 0) 2)
  refine own_via (g' := (mkF m 6 (own_A19 a1) [(.ref b1)])) st ?_
  refine own_via (g' := (mkF m 13 (own_A15 a1 b1 0 0) [(.ref a1), (.int 0)])) (fun t_ k_ => XS.astoreN X.here hx rfl (hb hby ep10m3_d6) rfl rfl (l' := (own_A18 a1 b1)) rfl (XS.iconst X.here hx rfl (hb hby ep10m3_d7) (XS.istoreN X.here hx rfl (hb hby ep10m3_d8) rfl (l' := (own_A17 a1 b1 0)) rfl (XS.iconst X.here hx rfl (hb hby ep10m3_d9) (XS.istoreN X.here hx rfl (hb hby ep10m3_d10) rfl (l' := (own_A15 a1 b1 0 0)) rfl (XS.iloadN X.here hx rfl (hb hby ep10m3_d11) rfl (XS.aloadN X.here hx rfl (hb hby ep10m3_d12) rfl rfl k_))))))) ?_
  obtain ⟨cq, kq, qa, qb, qc⟩ := isOf hZ eT E_a1
  obtain ⟨_, _, ⟨T, Lq, kq, nq⟩, -, X, ⟨Lc, hQ, lq, yq, zq⟩, st⟩ := X.virtualBack hx (y := own_y6) (z := own_y6) hown (mvT hZ (hw _ (own_w 33 rfl))) (mvT hZ (hw _ (own_w 34 rfl))) (notFace_of_selects (args := #[]) (mvT hZ (hw _ (own_w 36 rfl)))) (mvT hZ (hw _ (own_w 36 rfl))) (mvT hZ (hw _ (own_w 35 rfl))) (by decide) (backOf (W := 1) (own_strlen l Z a0 hw [] a1 va kv (2 : Int32) [(.int (own_b8 v0)), (.int (own_b8 v1))] zc h2 n0 O E_a1 F_value_a1 F_coder_a1 V_va S_C hzc) hZ (hw _ (own_w 37 rfl)) (hw _ (own_w 10 rfl)) (by decide) (by decide)) qa qc (g := (mkF m 13 (own_A15 a1 b1 0 0) [(.ref a1), (.int 0)])) rfl (by rw [hml]; rfl) (Steps.refl _) (argsL := []) (rest := [(.int 0)]) (lenOf own_pd6 rfl) rfl (by show 2 * 0 + _ ≤ _; exact Nat.le_of_eq rfl) (hb hby ep10m3_d13) (fun _ _ => ⟨rfl, eT, (by decide : 1 + 0 ≤ _), (by decide : 2 + 0 ≤ _)⟩)
  dsimp only [Pt.U, Pt.locs, Pt.cells, Pt.slots] at X lq yq zq st hQ
  subst lq yq zq
  obtain ⟨rfl, Nq, eT⟩ := hQ
  replace N := Fr.app N Nq
  refine own_viaT (g' := (mkF m 16 (own_A15 a1 b1 0 0) [(.int 2), (.int 0)])) st ?_
  refine own_via (g' := (mkF m 21 (own_A15 a1 b1 0 0) [(.int 0), (.ref a1)])) (fun t_ k_ => XS.icmpNo X.here hx rfl (hb hby ep10m3_d16) rfl (tlt (by decide : (0 : Int32) < (2 : Int32))).2.1 (XS.aloadN X.here hx rfl (hb hby ep10m3_d19) rfl rfl (XS.iloadN X.here hx rfl (hb hby ep10m3_d20) rfl k_))) ?_
  obtain ⟨cq, kq, qa, qb, qc⟩ := isOf hZ eT E_a1
  obtain ⟨_, _, ⟨T, Lq, kq, nq⟩, -, X, ⟨Lc, hQ, lq, yq, zq⟩, st⟩ := X.virtualBack hx (y := own_y7) (z := own_y7) hown (mvT hZ (hw _ (own_w 74 rfl))) (mvT hZ (hw _ (own_w 75 rfl))) (notFace_of_selects (args := #[]) (mvT hZ (hw _ (own_w 77 rfl)))) (mvT hZ (hw _ (own_w 77 rfl))) (mvT hZ (hw _ (own_w 76 rfl))) (by decide) (backOf (W := 0) (own_charAt l Z a0 hw [] a1 (0 : Int32) va kv (2 : Int32) [(.int (own_b8 v0)), (.int (own_b8 v1))] (own_b8 v0) zc vS h2 n0 O E_a1 F_value_a1 F_coder_a1 V_va S_C hzc (by decide) rfl S_S hvS) hZ (hw _ (own_w 78 rfl)) (hw _ (own_w 10 rfl)) (by decide) (by decide)) qa qc (g := (mkF m 21 (own_A15 a1 b1 0 0) [(.int 0), (.ref a1)])) rfl (by rw [hml]; rfl) (Steps.refl _) (argsL := [(.int 0)]) (rest := []) (lenOf own_pd7 rfl) rfl (by show 2 * 0 + _ ≤ _; exact Nat.le_of_eq rfl) (hb hby ep10m3_d21) (fun _ _ => ⟨rfl, eT, (by decide : 1 + 0 ≤ _), (by decide : 2 + 0 ≤ _)⟩)
  dsimp only [Pt.U, Pt.locs, Pt.cells, Pt.slots] at X lq yq zq st hQ
  subst lq yq zq
  obtain ⟨rfl, Nq, eT⟩ := hQ
  replace N := Fr.app N Nq
  refine own_viaT (g' := (mkF m 24 (own_A15 a1 b1 0 0) [(.int ((own_b8 v0) &&& (255 : Int32)))])) st ?_
  rw [own_b255 bd0.1 bd0.2]
  refine own_via (g' := (mkF m 90 (own_A10 a1 b1 0 0 v0) [])) (fun t_ k_ => XS.istore X.here hx rfl (hb hby ep10m3_d24) rfl (l' := (own_A10 a1 b1 0 0 v0)) rfl (XS.iload X.here hx rfl (hb hby ep10m3_d26) rfl (XS.bipush X.here hx rfl (hb hby ep10m3_d28) (XS.icmpYes X.here hx rfl (pc0 := 30) (pc' := 76) rfl (hb hby ep10m3_d30) rfl (feq pp0.1).2 (by decide) (by decide) (XS.iload X.here hx rfl (hb hby ep10m3_d76) rfl (XS.bipush X.here hx rfl (hb hby ep10m3_d78) (XS.icmpNo X.here hx rfl (hb hby ep10m3_d80) rfl (flt pp0.2.1).1 (XS.iload X.here hx rfl (hb hby ep10m3_d83) rfl (XS.bipush X.here hx rfl (hb hby ep10m3_d85) (XS.icmpNo X.here hx rfl (hb hby ep10m3_d87) rfl (flt pp0.2.2).2.2.1 k_)))))))))) ?_
  refine own_via (g' := (mkF m 98 (own_A10 a1 b1 ((0 : Int32) + (1 : Int32)) 0 v0) [(.int (v0.toInt8.toInt32)), (.int 0), (.ref b1)])) (fun t_ k_ => XS.aloadN X.here hx rfl (hb hby ep10m3_d90) rfl rfl (XS.iloadN X.here hx rfl (hb hby ep10m3_d91) rfl (XS.iinc X.here hx rfl (hb hby ep10m3_d92) rfl (l' := (own_A10 a1 b1 ((0 : Int32) + (1 : Int32)) 0 v0)) rfl (XS.iload X.here hx rfl (hb hby ep10m3_d95) rfl (XS.i2b X.here hx rfl (hb hby ep10m3_d97) rfl k_))))) ?_
  obtain ⟨cl_, Ar_, qk_, Sz_, Nn_, Hs_, Gs_⟩ := id V_b1
  have hin_ : ¬ ((0 : Int32) < 0 ∨ cl_.slots.size ≤ ((0 : Int32)).toNatClampNeg) := inb_of Sz_ ⟨by decide, by decide⟩
  obtain ⟨T, h3, X, eT, W, st⟩ := stB X hx hZ eT Ar_ (j := (0 : Int32)) hin_ (g := (mkF m 98 (own_A10 a1 b1 ((0 : Int32) + (1 : Int32)) 0 v0) [(.int (v0.toInt8.toInt32)), (.int 0), (.ref b1)])) rfl rfl (hb hby ep10m3_d98)
  replace V_b1 : Arv Z h3 b1 kb1 .byte (2 : Int32) [(.int (((v0.toInt8.toInt32)).toInt8.toInt32)), (.int 0)] (.int 0) := Arv.set Ar_ qk_ Sz_ Nn_ Hs_ Gs_ (fits_nar_byte _) W 0 (by decide) (Nat.le_of_ble_eq_true rfl)
  replace E_a1 := E_a1.wr W
  replace F_value_a1 := F_value_a1.other W (Or.inl ne_a1_b1)
  replace F_coder_a1 := F_coder_a1.other W (Or.inl ne_a1_b1)
  replace V_va := V_va.other W ne_va_b1
  replace E_b1 := E_b1.wr W
  replace O := O.wr W g_b1
  replace K0 := K0.wr W (Or.inr sz_b1)
  replace N := Fr.snoc X N g_b1
  refine own_via (g' := (mkF m 99 (own_A10 a1 b1 ((0 : Int32) + (1 : Int32)) 0 v0) [])) st ?_
  refine own_via (g' := (mkF m 11 (own_A10 a1 b1 ((0 : Int32) + (1 : Int32)) ((0 : Int32) + (1 : Int32)) v0) [])) (fun t_ k_ => XS.goto X.here hx rfl (pc0 := 99) (pc' := 136) rfl (hb hby ep10m3_d99) (by decide) (by decide) (XS.iinc X.here hx rfl (hb hby ep10m3_d136) rfl (l' := (own_A10 a1 b1 ((0 : Int32) + (1 : Int32)) ((0 : Int32) + (1 : Int32)) v0)) rfl (XS.goto X.here hx rfl (pc0 := 139) (pc' := 11) rfl (hb hby ep10m3_d139) (by decide) (by decide) k_))) ?_
  rw [(by decide : ((0 : Int32) + (1 : Int32)) = (1 : Int32))]
  refine own_via (g' := (mkF m 13 (own_A10 a1 b1 1 1 v0) [(.ref a1), (.int 1)])) (fun t_ k_ => XS.iloadN X.here hx rfl (hb hby ep10m3_d11) rfl (XS.aloadN X.here hx rfl (hb hby ep10m3_d12) rfl rfl k_)) ?_
  obtain ⟨cq, kq, qa, qb, qc⟩ := isOf hZ eT E_a1
  obtain ⟨_, _, ⟨T, Lq, kq, nq⟩, -, X, ⟨Lc, hQ, lq, yq, zq⟩, st⟩ := X.virtualBack hx (y := own_y6) (z := own_y6) hown (mvT hZ (hw _ (own_w 33 rfl))) (mvT hZ (hw _ (own_w 34 rfl))) (notFace_of_selects (args := #[]) (mvT hZ (hw _ (own_w 36 rfl)))) (mvT hZ (hw _ (own_w 36 rfl))) (mvT hZ (hw _ (own_w 35 rfl))) (by decide) (backOf (W := 1) (own_strlen l Z a0 hw [] a1 va kv (2 : Int32) [(.int (own_b8 v0)), (.int (own_b8 v1))] zc h3 n0 O E_a1 F_value_a1 F_coder_a1 V_va S_C hzc) hZ (hw _ (own_w 37 rfl)) (hw _ (own_w 10 rfl)) (by decide) (by decide)) qa qc (g := (mkF m 13 (own_A10 a1 b1 1 1 v0) [(.ref a1), (.int 1)])) rfl (by rw [hml]; rfl) (Steps.refl _) (argsL := []) (rest := [(.int 1)]) (lenOf own_pd6 rfl) rfl (by show 2 * 0 + _ ≤ _; exact Nat.le_of_eq rfl) (hb hby ep10m3_d13) (fun _ _ => ⟨rfl, eT, (by decide : 1 + 0 ≤ _), (by decide : 2 + 0 ≤ _)⟩)
  dsimp only [Pt.U, Pt.locs, Pt.cells, Pt.slots] at X lq yq zq st hQ
  subst lq yq zq
  obtain ⟨rfl, Nq, eT⟩ := hQ
  replace N := Fr.app N Nq
  refine own_viaT (g' := (mkF m 16 (own_A10 a1 b1 1 1 v0) [(.int 2), (.int 1)])) st ?_
  refine own_via (g' := (mkF m 21 (own_A10 a1 b1 1 1 v0) [(.int 1), (.ref a1)])) (fun t_ k_ => XS.icmpNo X.here hx rfl (hb hby ep10m3_d16) rfl (tlt (by decide : (1 : Int32) < (2 : Int32))).2.1 (XS.aloadN X.here hx rfl (hb hby ep10m3_d19) rfl rfl (XS.iloadN X.here hx rfl (hb hby ep10m3_d20) rfl k_))) ?_
  obtain ⟨cq, kq, qa, qb, qc⟩ := isOf hZ eT E_a1
  obtain ⟨_, _, ⟨T, Lq, kq, nq⟩, -, X, ⟨Lc, hQ, lq, yq, zq⟩, st⟩ := X.virtualBack hx (y := own_y7) (z := own_y7) hown (mvT hZ (hw _ (own_w 74 rfl))) (mvT hZ (hw _ (own_w 75 rfl))) (notFace_of_selects (args := #[]) (mvT hZ (hw _ (own_w 77 rfl)))) (mvT hZ (hw _ (own_w 77 rfl))) (mvT hZ (hw _ (own_w 76 rfl))) (by decide) (backOf (W := 0) (own_charAt l Z a0 hw [] a1 (1 : Int32) va kv (2 : Int32) [(.int (own_b8 v0)), (.int (own_b8 v1))] (own_b8 v1) zc vS h3 n0 O E_a1 F_value_a1 F_coder_a1 V_va S_C hzc (by decide) rfl S_S hvS) hZ (hw _ (own_w 78 rfl)) (hw _ (own_w 10 rfl)) (by decide) (by decide)) qa qc (g := (mkF m 21 (own_A10 a1 b1 1 1 v0) [(.int 1), (.ref a1)])) rfl (by rw [hml]; rfl) (Steps.refl _) (argsL := [(.int 1)]) (rest := []) (lenOf own_pd7 rfl) rfl (by show 2 * 0 + _ ≤ _; exact Nat.le_of_eq rfl) (hb hby ep10m3_d21) (fun _ _ => ⟨rfl, eT, (by decide : 1 + 0 ≤ _), (by decide : 2 + 0 ≤ _)⟩)
  dsimp only [Pt.U, Pt.locs, Pt.cells, Pt.slots] at X lq yq zq st hQ
  subst lq yq zq
  obtain ⟨rfl, Nq, eT⟩ := hQ
  replace N := Fr.app N Nq
  refine own_viaT (g' := (mkF m 24 (own_A10 a1 b1 1 1 v0) [(.int ((own_b8 v1) &&& (255 : Int32)))])) st ?_
  rw [own_b255 bd1.1 bd1.2]
  refine own_via (g' := (mkF m 90 (own_A10 a1 b1 1 1 v1) [])) (fun t_ k_ => XS.istore X.here hx rfl (hb hby ep10m3_d24) rfl (l' := (own_A10 a1 b1 1 1 v1)) rfl (XS.iload X.here hx rfl (hb hby ep10m3_d26) rfl (XS.bipush X.here hx rfl (hb hby ep10m3_d28) (XS.icmpYes X.here hx rfl (pc0 := 30) (pc' := 76) rfl (hb hby ep10m3_d30) rfl (feq pp1.1).2 (by decide) (by decide) (XS.iload X.here hx rfl (hb hby ep10m3_d76) rfl (XS.bipush X.here hx rfl (hb hby ep10m3_d78) (XS.icmpNo X.here hx rfl (hb hby ep10m3_d80) rfl (flt pp1.2.1).1 (XS.iload X.here hx rfl (hb hby ep10m3_d83) rfl (XS.bipush X.here hx rfl (hb hby ep10m3_d85) (XS.icmpNo X.here hx rfl (hb hby ep10m3_d87) rfl (flt pp1.2.2).2.2.1 k_)))))))))) ?_
  refine own_via (g' := (mkF m 98 (own_A10 a1 b1 ((1 : Int32) + (1 : Int32)) 1 v1) [(.int (v1.toInt8.toInt32)), (.int 1), (.ref b1)])) (fun t_ k_ => XS.aloadN X.here hx rfl (hb hby ep10m3_d90) rfl rfl (XS.iloadN X.here hx rfl (hb hby ep10m3_d91) rfl (XS.iinc X.here hx rfl (hb hby ep10m3_d92) rfl (l' := (own_A10 a1 b1 ((1 : Int32) + (1 : Int32)) 1 v1)) rfl (XS.iload X.here hx rfl (hb hby ep10m3_d95) rfl (XS.i2b X.here hx rfl (hb hby ep10m3_d97) rfl k_))))) ?_
  obtain ⟨cl_, Ar_, qk_, Sz_, Nn_, Hs_, Gs_⟩ := id V_b1
  have hin_ : ¬ ((1 : Int32) < 0 ∨ cl_.slots.size ≤ ((1 : Int32)).toNatClampNeg) := inb_of Sz_ ⟨by decide, by decide⟩
  obtain ⟨T, h4, X, eT, W, st⟩ := stB X hx hZ eT Ar_ (j := (1 : Int32)) hin_ (g := (mkF m 98 (own_A10 a1 b1 ((1 : Int32) + (1 : Int32)) 1 v1) [(.int (v1.toInt8.toInt32)), (.int 1), (.ref b1)])) rfl rfl (hb hby ep10m3_d98)
  replace V_b1 : Arv Z h4 b1 kb1 .byte (2 : Int32) [(.int (((v0.toInt8.toInt32)).toInt8.toInt32)), (.int (((v1.toInt8.toInt32)).toInt8.toInt32))] (.int 0) := Arv.set Ar_ qk_ Sz_ Nn_ Hs_ Gs_ (fits_nar_byte _) W 1 (by decide) (Nat.le_of_ble_eq_true rfl)
  replace E_a1 := E_a1.wr W
  replace F_value_a1 := F_value_a1.other W (Or.inl ne_a1_b1)
  replace F_coder_a1 := F_coder_a1.other W (Or.inl ne_a1_b1)
  replace V_va := V_va.other W ne_va_b1
  replace E_b1 := E_b1.wr W
  replace O := O.wr W g_b1
  replace K0 := K0.wr W (Or.inr sz_b1)
  replace N := Fr.snoc X N g_b1
  refine own_via (g' := (mkF m 99 (own_A10 a1 b1 ((1 : Int32) + (1 : Int32)) 1 v1) [])) st ?_
  refine own_via (g' := (mkF m 11 (own_A10 a1 b1 ((1 : Int32) + (1 : Int32)) ((1 : Int32) + (1 : Int32)) v1) [])) (fun t_ k_ => XS.goto X.here hx rfl (pc0 := 99) (pc' := 136) rfl (hb hby ep10m3_d99) (by decide) (by decide) (XS.iinc X.here hx rfl (hb hby ep10m3_d136) rfl (l' := (own_A10 a1 b1 ((1 : Int32) + (1 : Int32)) ((1 : Int32) + (1 : Int32)) v1)) rfl (XS.goto X.here hx rfl (pc0 := 139) (pc' := 11) rfl (hb hby ep10m3_d139) (by decide) (by decide) k_))) ?_
  rw [(by decide : ((1 : Int32) + (1 : Int32)) = (2 : Int32))]
  refine own_via (g' := (mkF m 13 (own_A10 a1 b1 2 2 v1) [(.ref a1), (.int 2)])) (fun t_ k_ => XS.iloadN X.here hx rfl (hb hby ep10m3_d11) rfl (XS.aloadN X.here hx rfl (hb hby ep10m3_d12) rfl rfl k_)) ?_
  obtain ⟨cq, kq, qa, qb, qc⟩ := isOf hZ eT E_a1
  obtain ⟨_, _, ⟨T, Lq, kq, nq⟩, -, X, ⟨Lc, hQ, lq, yq, zq⟩, st⟩ := X.virtualBack hx (y := own_y6) (z := own_y6) hown (mvT hZ (hw _ (own_w 33 rfl))) (mvT hZ (hw _ (own_w 34 rfl))) (notFace_of_selects (args := #[]) (mvT hZ (hw _ (own_w 36 rfl)))) (mvT hZ (hw _ (own_w 36 rfl))) (mvT hZ (hw _ (own_w 35 rfl))) (by decide) (backOf (W := 1) (own_strlen l Z a0 hw [] a1 va kv (2 : Int32) [(.int (own_b8 v0)), (.int (own_b8 v1))] zc h4 n0 O E_a1 F_value_a1 F_coder_a1 V_va S_C hzc) hZ (hw _ (own_w 37 rfl)) (hw _ (own_w 10 rfl)) (by decide) (by decide)) qa qc (g := (mkF m 13 (own_A10 a1 b1 2 2 v1) [(.ref a1), (.int 2)])) rfl (by rw [hml]; rfl) (Steps.refl _) (argsL := []) (rest := [(.int 2)]) (lenOf own_pd6 rfl) rfl (by show 2 * 0 + _ ≤ _; exact Nat.le_of_eq rfl) (hb hby ep10m3_d13) (fun _ _ => ⟨rfl, eT, (by decide : 1 + 0 ≤ _), (by decide : 2 + 0 ≤ _)⟩)
  dsimp only [Pt.U, Pt.locs, Pt.cells, Pt.slots] at X lq yq zq st hQ
  subst lq yq zq
  obtain ⟨rfl, Nq, eT⟩ := hQ
  replace N := Fr.app N Nq
  refine own_viaT (g' := (mkF m 16 (own_A10 a1 b1 2 2 v1) [(.int 2), (.int 2)])) st ?_
  refine own_via (g' := (mkF m 144 (own_A10 a1 b1 2 2 v1) [(.int 2), (.ref b1)])) (fun t_ k_ => XS.icmpYes X.here hx rfl (pc0 := 16) (pc' := 142) rfl (hb hby ep10m3_d16) rfl (flt (by decide : ¬ ((2 : Int32) < (2 : Int32)))).2.1 (by decide) (by decide) (XS.aloadN X.here hx rfl (hb hby ep10m3_d142) rfl rfl (XS.iloadN X.here hx rfl (hb hby ep10m3_d143) rfl k_))) ?_
  obtain ⟨_, _, ⟨T, Lq, kq, nq⟩, -, X, ⟨Lc, hQ, lq, yq, zq⟩, st⟩ := Jvm.LawKit.callS X hx (y := own_y9) hown (mvT hZ (hw _ (own_w 44 rfl))) (mvT hZ (hw _ (own_w 45 rfl))) (mvT hZ (hw _ (own_w 46 rfl))) (mvT hZ (hw _ (own_w 47 rfl))) (by decide) (backOf (W := 0) (own_copyOf l Z a0 hw [] b1 kb1 (2 : Int32) (2 : Int32) [(.int (own_sb v0)), (.int (own_sb v1))] h4 n0 O E_b1 V_b1 (by decide) rfl) hZ (hw _ (own_w 47 rfl)) (hw _ (own_w 46 rfl)) (by decide) (by decide)) (g := (mkF m 144 (own_A10 a1 b1 2 2 v1) [(.int 2), (.ref b1)])) rfl (by rw [hml]; rfl) (argsL := [(.ref b1), (.int 2)]) (rest := []) (lenOf own_pd9 rfl) rfl (by show 2 * 0 + _ ≤ _; exact Nat.le_of_eq rfl) (hb hby ep10m3_d144) (fun _ _ => ⟨rfl, eT, (by decide : 1 + 1 ≤ _), (by decide : 2 + 12 ≤ _)⟩)
  dsimp only [Pt.U, Pt.locs, Pt.cells, Pt.slots] at X lq yq zq st hQ
  subst lq yq zq
  obtain ⟨bn, kbn, rfl, Nq, Kq, szq, V_bn, E_bn⟩ := hQ
  replace N := Fr.app N Nq
  obtain ⟨h5, eT⟩ : ∃ z, T.heap = z := ⟨_, rfl⟩
  rw [eT] at Kq V_bn E_bn
  have ne_a1_bn : a1 ≠ bn := Nat.ne_of_lt (Nat.lt_of_lt_of_le E_a1.lt szq)
  have ne_b1_bn : b1 ≠ bn := Nat.ne_of_lt (Nat.lt_of_lt_of_le E_b1.lt szq)
  have ne_va_bn : va ≠ bn := Nat.ne_of_lt (Nat.lt_of_lt_of_le V_va.lt szq)
  have g_bn : n0 ≤ bn := Nat.le_trans (own_le O) szq
  have sz_bn : h0.size ≤ bn := Nat.le_trans K0.1 szq
  replace E_a1 := E_a1.keep Kq
  replace F_value_a1 := F_value_a1.keep Kq nin0
  replace F_coder_a1 := F_coder_a1.keep Kq nin0
  replace V_va := V_va.keep Kq nin0
  replace E_b1 := E_b1.keep Kq
  replace V_b1 := V_b1.keep Kq nin0
  replace O := O.keep Kq all0
  replace K0 := K0.trans Kq all0
  refine own_via (g' := (mkF m 147 (own_A10 a1 b1 2 2 v1) [(.ref bn)])) st ?_
  refine own_retW X hx hlk Bd.returns rfl (Or.inr (Or.inr (Or.inr (Or.inr ⟨rfl, rfl, rfl⟩)))) (hb hby ep10m3_d147) (by decide) (by decide) ?_
  rw [eT]
  exact ⟨bn, kbn, rfl, N, K0, sz_bn, V_bn, E_bn⟩
theorem own_unPE_pn : plainFor (⟨"com/example/rows_to_regions/rowstoregions/KeyText", "unescape", "(Ljava/lang/String;)[B"⟩ : MethodName) = true := by first | exact plainFor_of_name (by first | (simp [plainName, overriddenIn]; done) | decide +kernel) | decide +kernel | exact Jvm.Free.JP.mathPlain rfl (by decide +kernel)
theorem own_unPE_ef (m : MethodId) (x0 : Addr) : entryFrame m #[(.ref x0)] 6 = mkF m 0 #[.val (.ref x0), .unset, .unset, .unset, .unset, .unset] [] := by first | (simp [entryFrame, mkF, argsToLocals, Value.category]; done) | rfl
def own_unPE_Q (Z : State) (a1 : Addr) (va : Addr) (kv : ClassId) (v0 : Int32) (v1 : Int32) (zc : Int32) (vS : Value) (h0 : Heap) (n0 : Nat) (v : Option Value) (h : Heap) (L : List Loc) : Prop := ∃ b kb, v = some (.ref b) ∧ Fr n0 L ∧ Keep h0 h [] ∧ h0.size ≤ b ∧ Arv Z h b kb .byte (2 : Int32) [(.int (own_sb v0)), (.int (own_sb v1))] (.int 0) ∧ Exa Z h b "[B"
set_option maxRecDepth 65536 in
set_option maxHeartbeats 40000000 in
theorem own_unPE (l : Launch) (Z : State) (a0 : Array Value) (hw : ∀ d ∈ tables_1, d.before a0 Z = true) (ws : List Jvm.Cond) (a1 : Addr) (va : Addr) (kv : ClassId) (v0 : Int32) (v1 : Int32) (zc : Int32) (vS : Value) (h0 : Heap) (n0 : Nat) (O : Old Z n0 h0) (E_a1 : Exa Z h0 a1 "java/lang/String") (F_value_a1 : Fld Z h0 a1 "java/lang/String" "value" "[B" (.ref va)) (F_coder_a1 : Fld Z h0 a1 "java/lang/String" "coder" "B" (.int 0)) (V_va : Arv Z h0 va kv .byte (5 : Int32) [(.int (own_b8 v0)), (.int (own_b8 (92 : Int32))), (.int (own_b8 (120 : Int32))), (.int (own_b8 (own_hx (v1 / (16 : Int32))))), (.int (own_b8 (own_hx (v1 % (16 : Int32)))))] (.int 0)) (bd0 : 0 ≤ v0.toInt ∧ v0.toInt < 256) (pp0 : ¬ v0 = (92 : Int32) ∧ ¬ v0 < (32 : Int32) ∧ ¬ (126 : Int32) < v0) (bd1 : 0 ≤ v1.toInt ∧ v1.toInt < 256) (S_C : Sta Z Z.heap "java/lang/String" "COMPACT_STRINGS" "Z" (.int zc)) (hzc : ¬ zc = 0) (S_S : Sta Z Z.heap "jdk/internal/util/Preconditions" "SIOOBE_FORMATTER" "Ljava/util/function/BiFunction;" vS) (hvS : vS.isRef = true) :
    MetFree l (⟨"com/example/rows_to_regions/rowstoregions/KeyText", "unescape", "(Ljava/lang/String;)[B"⟩ : MethodName) (head1 (Jvm.Cond.code (⟨"com/example/rows_to_regions/rowstoregions/KeyText", "unescape", "(Ljava/lang/String;)[B"⟩ : MethodName) prog_10_method_3_code 6 (some (.array .byte)) :: ws) ({ frames := 5, cells := 2, slots := 20, locals := 68 } : Room)) (fun a U => a = #[(.ref a1)] ∧ Z.Warmed39 U.vm ∧ U.heap = h0) (fun _ _ _ _ _ => True) (fun _ U o U' => ∃ v L, o = .returned v ∧ own_unPE_Q Z a1 va kv v0 v1 zc vS h0 n0 v U'.heap L ∧ FrameEnd U o U' L ({ frames := 5, cells := 2, slots := 20, locals := 68 } : Room).cells ({ frames := 5, cells := 2, slots := 20, locals := 68 } : Room).slots) := by
  refine MetFree.of_bodySF own_unPE_pn hisR ?_
  intro p e s m args below meth c s₁ Bd hml0 hP hK
  obtain ⟨rfl, hZ, hh⟩ := hP
  have hx := Bd.exec
  have hby := Bd.bytes
  have hlk := Bd.notSynchronized
  have hml : c.maxLocals = 6 := hml0
  have hown : s.vm.findClass "com/example/rows_to_regions/rowstoregions/KeyText" = some m.cls := findClass_of_methodNamed Bd.named
  have hnm := (name_of_methodNamed Bd.named Bd.method).1
  have X : Stand p l e ({ frames := 5, cells := 2, slots := 20, locals := 68 } : Room) s m #[(.ref a1)] below meth c s₁ [] 0 0 := Stand.of_body Bd
  have eT : s₁.heap = h0 := by rw [← hh, Bd.state]; rfl
  have N := Fr.nil n0
  have K0 := Keep.refl h0 []
  show own_Ends p e below (own_Post s below (own_unPE_Q Z a1 va kv v0 v1 zc vS h0 n0) ({ frames := 5, cells := 2, slots := 20, locals := 68 } : Room).cells ({ frames := 5, cells := 2, slots := 20, locals := 68 } : Room).slots) s₁ (entryFrame m #[(.ref a1)] 6)
  rw [own_unPE_ef m a1]
  obtain ⟨T, hT⟩ : ∃ z, z = s₁ := ⟨_, rfl⟩
  rw [← hT] at X eT ⊢
  obtain ⟨h, hh0⟩ : ∃ z, z = h0 := ⟨_, rfl⟩
  rw [← hh0] at eT
  replace O : Old Z n0 h := by rw [hh0]; exact O
  replace K0 : Keep h0 h [] := by rw [hh0]; exact K0
  rw [← hh0] at E_a1
  rw [← hh0] at F_value_a1
  rw [← hh0] at F_coder_a1
  rw [← hh0] at V_va
  refine own_via (g' := (mkF m 1 (own_A19 a1) [(.ref a1)])) (fun t_ k_ => XS.aloadN X.here hx rfl (hb hby ep10m3_d0) rfl rfl k_) ?_
  obtain ⟨cq, kq, qa, qb, qc⟩ := isOf hZ eT E_a1
  obtain ⟨_, _, ⟨T, Lq, kq, nq⟩, -, X, ⟨Lc, hQ, lq, yq, zq⟩, st⟩ := X.virtualBack hx (y := own_y6) (z := own_y6) hown (mvT hZ (hw _ (own_w 33 rfl))) (mvT hZ (hw _ (own_w 34 rfl))) (notFace_of_selects (args := #[]) (mvT hZ (hw _ (own_w 36 rfl)))) (mvT hZ (hw _ (own_w 36 rfl))) (mvT hZ (hw _ (own_w 35 rfl))) (by decide) (backOf (W := 0) (own_strlen l Z a0 hw [] a1 va kv (5 : Int32) [(.int (own_b8 v0)), (.int (own_b8 (92 : Int32))), (.int (own_b8 (120 : Int32))), (.int (own_b8 (own_hx (v1 / (16 : Int32))))), (.int (own_b8 (own_hx (v1 % (16 : Int32)))))] zc h n0 O E_a1 F_value_a1 F_coder_a1 V_va S_C hzc) hZ (hw _ (own_w 37 rfl)) (hw _ (own_w 10 rfl)) (by decide) (by decide)) qa qc (g := (mkF m 1 (own_A19 a1) [(.ref a1)])) rfl (by rw [hml]; rfl) (Steps.refl _) (argsL := []) (rest := []) (lenOf own_pd6 rfl) rfl (by show 2 * 0 + _ ≤ _; exact Nat.le_of_eq rfl) (hb hby ep10m3_d1) (fun _ _ => ⟨rfl, eT, (by decide : 0 + 0 ≤ _), (by decide : 0 + 0 ≤ _)⟩)
  dsimp only [Pt.U, Pt.locs, Pt.cells, Pt.slots] at X lq yq zq st hQ
  subst lq yq zq
  obtain ⟨rfl, Nq, eT⟩ := hQ
  replace N := Fr.app N Nq
  refine own_viaT (g' := (mkF m 4 (own_A19 a1) [(.int 5)])) st ?_
  obtain ⟨b1, gb⟩ : ∃ z, z = h.size := ⟨_, rfl⟩
  obtain ⟨T, h2, kb1, X, eT, E, A_, E_b1, st⟩ := newPE X hx hZ (hw _ (own_w 22 rfl)) eT (g := (mkF m 4 (own_A19 a1) [(.int 5)])) rfl (hb hby ep10m3_d4) rfl (by decide) (cap := 5) (by decide) (by decide) (by decide) (by decide) (ad := "[B") (by decide)
  rw [← gb] at A_ E_b1 st
  have ne_a1_b1 : a1 ≠ b1 := Nat.ne_of_lt (Nat.lt_of_lt_of_le E_a1.lt (Nat.le_of_eq gb.symm))
  have ne_va_b1 : va ≠ b1 := Nat.ne_of_lt (Nat.lt_of_lt_of_le V_va.lt (Nat.le_of_eq gb.symm))
  have g_b1 : n0 ≤ b1 := Nat.le_trans (own_le O) (Nat.le_of_eq gb.symm)
  have sz_b1 : h0.size ≤ b1 := Nat.le_trans K0.1 (Nat.le_of_eq gb.symm)
  replace E_a1 := E_a1.ext E
  replace F_value_a1 := F_value_a1.ext E
  replace F_coder_a1 := F_coder_a1.ext E
  replace V_va := V_va.ext E
  replace O := O.ext E
  replace K0 := K0.ext E
  have V_b1 : Arv Z h2 b1 kb1 .byte (5 : Int32) [(.int 0), (.int 0), (.int 0), (.int 0), (.int 0)] (.int 0) := (Arv.new A_ (by decide)).pad (pad_rep [] (.int 0) 5)
  refine own_via (g' := (mkF m 6 (own_A19 a1) [(.ref b1)])) st ?_
  refine own_via (g' := (mkF m 13 (own_A15 a1 b1 0 0) [(.ref a1), (.int 0)])) (fun t_ k_ => XS.astoreN X.here hx rfl (hb hby ep10m3_d6) rfl rfl (l' := (own_A18 a1 b1)) rfl (XS.iconst X.here hx rfl (hb hby ep10m3_d7) (XS.istoreN X.here hx rfl (hb hby ep10m3_d8) rfl (l' := (own_A17 a1 b1 0)) rfl (XS.iconst X.here hx rfl (hb hby ep10m3_d9) (XS.istoreN X.here hx rfl (hb hby ep10m3_d10) rfl (l' := (own_A15 a1 b1 0 0)) rfl (XS.iloadN X.here hx rfl (hb hby ep10m3_d11) rfl (XS.aloadN X.here hx rfl (hb hby ep10m3_d12) rfl rfl k_))))))) ?_
  obtain ⟨cq, kq, qa, qb, qc⟩ := isOf hZ eT E_a1
  obtain ⟨_, _, ⟨T, Lq, kq, nq⟩, -, X, ⟨Lc, hQ, lq, yq, zq⟩, st⟩ := X.virtualBack hx (y := own_y6) (z := own_y6) hown (mvT hZ (hw _ (own_w 33 rfl))) (mvT hZ (hw _ (own_w 34 rfl))) (notFace_of_selects (args := #[]) (mvT hZ (hw _ (own_w 36 rfl)))) (mvT hZ (hw _ (own_w 36 rfl))) (mvT hZ (hw _ (own_w 35 rfl))) (by decide) (backOf (W := 1) (own_strlen l Z a0 hw [] a1 va kv (5 : Int32) [(.int (own_b8 v0)), (.int (own_b8 (92 : Int32))), (.int (own_b8 (120 : Int32))), (.int (own_b8 (own_hx (v1 / (16 : Int32))))), (.int (own_b8 (own_hx (v1 % (16 : Int32)))))] zc h2 n0 O E_a1 F_value_a1 F_coder_a1 V_va S_C hzc) hZ (hw _ (own_w 37 rfl)) (hw _ (own_w 10 rfl)) (by decide) (by decide)) qa qc (g := (mkF m 13 (own_A15 a1 b1 0 0) [(.ref a1), (.int 0)])) rfl (by rw [hml]; rfl) (Steps.refl _) (argsL := []) (rest := [(.int 0)]) (lenOf own_pd6 rfl) rfl (by show 2 * 0 + _ ≤ _; exact Nat.le_of_eq rfl) (hb hby ep10m3_d13) (fun _ _ => ⟨rfl, eT, (by decide : 1 + 0 ≤ _), (by decide : 5 + 0 ≤ _)⟩)
  dsimp only [Pt.U, Pt.locs, Pt.cells, Pt.slots] at X lq yq zq st hQ
  subst lq yq zq
  obtain ⟨rfl, Nq, eT⟩ := hQ
  replace N := Fr.app N Nq
  refine own_viaT (g' := (mkF m 16 (own_A15 a1 b1 0 0) [(.int 5), (.int 0)])) st ?_
  refine own_via (g' := (mkF m 21 (own_A15 a1 b1 0 0) [(.int 0), (.ref a1)])) (fun t_ k_ => XS.icmpNo X.here hx rfl (hb hby ep10m3_d16) rfl (tlt (by decide : (0 : Int32) < (5 : Int32))).2.1 (XS.aloadN X.here hx rfl (hb hby ep10m3_d19) rfl rfl (XS.iloadN X.here hx rfl (hb hby ep10m3_d20) rfl k_))) ?_
  obtain ⟨cq, kq, qa, qb, qc⟩ := isOf hZ eT E_a1
  obtain ⟨_, _, ⟨T, Lq, kq, nq⟩, -, X, ⟨Lc, hQ, lq, yq, zq⟩, st⟩ := X.virtualBack hx (y := own_y7) (z := own_y7) hown (mvT hZ (hw _ (own_w 74 rfl))) (mvT hZ (hw _ (own_w 75 rfl))) (notFace_of_selects (args := #[]) (mvT hZ (hw _ (own_w 77 rfl)))) (mvT hZ (hw _ (own_w 77 rfl))) (mvT hZ (hw _ (own_w 76 rfl))) (by decide) (backOf (W := 0) (own_charAt l Z a0 hw [] a1 (0 : Int32) va kv (5 : Int32) [(.int (own_b8 v0)), (.int (own_b8 (92 : Int32))), (.int (own_b8 (120 : Int32))), (.int (own_b8 (own_hx (v1 / (16 : Int32))))), (.int (own_b8 (own_hx (v1 % (16 : Int32)))))] (own_b8 v0) zc vS h2 n0 O E_a1 F_value_a1 F_coder_a1 V_va S_C hzc (by decide) rfl S_S hvS) hZ (hw _ (own_w 78 rfl)) (hw _ (own_w 10 rfl)) (by decide) (by decide)) qa qc (g := (mkF m 21 (own_A15 a1 b1 0 0) [(.int 0), (.ref a1)])) rfl (by rw [hml]; rfl) (Steps.refl _) (argsL := [(.int 0)]) (rest := []) (lenOf own_pd7 rfl) rfl (by show 2 * 0 + _ ≤ _; exact Nat.le_of_eq rfl) (hb hby ep10m3_d21) (fun _ _ => ⟨rfl, eT, (by decide : 1 + 0 ≤ _), (by decide : 5 + 0 ≤ _)⟩)
  dsimp only [Pt.U, Pt.locs, Pt.cells, Pt.slots] at X lq yq zq st hQ
  subst lq yq zq
  obtain ⟨rfl, Nq, eT⟩ := hQ
  replace N := Fr.app N Nq
  refine own_viaT (g' := (mkF m 24 (own_A15 a1 b1 0 0) [(.int ((own_b8 v0) &&& (255 : Int32)))])) st ?_
  rw [own_b255 bd0.1 bd0.2]
  refine own_via (g' := (mkF m 90 (own_A10 a1 b1 0 0 v0) [])) (fun t_ k_ => XS.istore X.here hx rfl (hb hby ep10m3_d24) rfl (l' := (own_A10 a1 b1 0 0 v0)) rfl (XS.iload X.here hx rfl (hb hby ep10m3_d26) rfl (XS.bipush X.here hx rfl (hb hby ep10m3_d28) (XS.icmpYes X.here hx rfl (pc0 := 30) (pc' := 76) rfl (hb hby ep10m3_d30) rfl (feq pp0.1).2 (by decide) (by decide) (XS.iload X.here hx rfl (hb hby ep10m3_d76) rfl (XS.bipush X.here hx rfl (hb hby ep10m3_d78) (XS.icmpNo X.here hx rfl (hb hby ep10m3_d80) rfl (flt pp0.2.1).1 (XS.iload X.here hx rfl (hb hby ep10m3_d83) rfl (XS.bipush X.here hx rfl (hb hby ep10m3_d85) (XS.icmpNo X.here hx rfl (hb hby ep10m3_d87) rfl (flt pp0.2.2).2.2.1 k_)))))))))) ?_
  refine own_via (g' := (mkF m 98 (own_A10 a1 b1 ((0 : Int32) + (1 : Int32)) 0 v0) [(.int (v0.toInt8.toInt32)), (.int 0), (.ref b1)])) (fun t_ k_ => XS.aloadN X.here hx rfl (hb hby ep10m3_d90) rfl rfl (XS.iloadN X.here hx rfl (hb hby ep10m3_d91) rfl (XS.iinc X.here hx rfl (hb hby ep10m3_d92) rfl (l' := (own_A10 a1 b1 ((0 : Int32) + (1 : Int32)) 0 v0)) rfl (XS.iload X.here hx rfl (hb hby ep10m3_d95) rfl (XS.i2b X.here hx rfl (hb hby ep10m3_d97) rfl k_))))) ?_
  obtain ⟨cl_, Ar_, qk_, Sz_, Nn_, Hs_, Gs_⟩ := id V_b1
  have hin_ : ¬ ((0 : Int32) < 0 ∨ cl_.slots.size ≤ ((0 : Int32)).toNatClampNeg) := inb_of Sz_ ⟨by decide, by decide⟩
  obtain ⟨T, h3, X, eT, W, st⟩ := stB X hx hZ eT Ar_ (j := (0 : Int32)) hin_ (g := (mkF m 98 (own_A10 a1 b1 ((0 : Int32) + (1 : Int32)) 0 v0) [(.int (v0.toInt8.toInt32)), (.int 0), (.ref b1)])) rfl rfl (hb hby ep10m3_d98)
  replace V_b1 : Arv Z h3 b1 kb1 .byte (5 : Int32) [(.int (((v0.toInt8.toInt32)).toInt8.toInt32)), (.int 0), (.int 0), (.int 0), (.int 0)] (.int 0) := Arv.set Ar_ qk_ Sz_ Nn_ Hs_ Gs_ (fits_nar_byte _) W 0 (by decide) (Nat.le_of_ble_eq_true rfl)
  replace E_a1 := E_a1.wr W
  replace F_value_a1 := F_value_a1.other W (Or.inl ne_a1_b1)
  replace F_coder_a1 := F_coder_a1.other W (Or.inl ne_a1_b1)
  replace V_va := V_va.other W ne_va_b1
  replace E_b1 := E_b1.wr W
  replace O := O.wr W g_b1
  replace K0 := K0.wr W (Or.inr sz_b1)
  replace N := Fr.snoc X N g_b1
  refine own_via (g' := (mkF m 99 (own_A10 a1 b1 ((0 : Int32) + (1 : Int32)) 0 v0) [])) st ?_
  refine own_via (g' := (mkF m 11 (own_A10 a1 b1 ((0 : Int32) + (1 : Int32)) ((0 : Int32) + (1 : Int32)) v0) [])) (fun t_ k_ => XS.goto X.here hx rfl (pc0 := 99) (pc' := 136) rfl (hb hby ep10m3_d99) (by decide) (by decide) (XS.iinc X.here hx rfl (hb hby ep10m3_d136) rfl (l' := (own_A10 a1 b1 ((0 : Int32) + (1 : Int32)) ((0 : Int32) + (1 : Int32)) v0)) rfl (XS.goto X.here hx rfl (pc0 := 139) (pc' := 11) rfl (hb hby ep10m3_d139) (by decide) (by decide) k_))) ?_
  rw [(by decide : ((0 : Int32) + (1 : Int32)) = (1 : Int32))]
  refine own_via (g' := (mkF m 13 (own_A10 a1 b1 1 1 v0) [(.ref a1), (.int 1)])) (fun t_ k_ => XS.iloadN X.here hx rfl (hb hby ep10m3_d11) rfl (XS.aloadN X.here hx rfl (hb hby ep10m3_d12) rfl rfl k_)) ?_
  obtain ⟨cq, kq, qa, qb, qc⟩ := isOf hZ eT E_a1
  obtain ⟨_, _, ⟨T, Lq, kq, nq⟩, -, X, ⟨Lc, hQ, lq, yq, zq⟩, st⟩ := X.virtualBack hx (y := own_y6) (z := own_y6) hown (mvT hZ (hw _ (own_w 33 rfl))) (mvT hZ (hw _ (own_w 34 rfl))) (notFace_of_selects (args := #[]) (mvT hZ (hw _ (own_w 36 rfl)))) (mvT hZ (hw _ (own_w 36 rfl))) (mvT hZ (hw _ (own_w 35 rfl))) (by decide) (backOf (W := 1) (own_strlen l Z a0 hw [] a1 va kv (5 : Int32) [(.int (own_b8 v0)), (.int (own_b8 (92 : Int32))), (.int (own_b8 (120 : Int32))), (.int (own_b8 (own_hx (v1 / (16 : Int32))))), (.int (own_b8 (own_hx (v1 % (16 : Int32)))))] zc h3 n0 O E_a1 F_value_a1 F_coder_a1 V_va S_C hzc) hZ (hw _ (own_w 37 rfl)) (hw _ (own_w 10 rfl)) (by decide) (by decide)) qa qc (g := (mkF m 13 (own_A10 a1 b1 1 1 v0) [(.ref a1), (.int 1)])) rfl (by rw [hml]; rfl) (Steps.refl _) (argsL := []) (rest := [(.int 1)]) (lenOf own_pd6 rfl) rfl (by show 2 * 0 + _ ≤ _; exact Nat.le_of_eq rfl) (hb hby ep10m3_d13) (fun _ _ => ⟨rfl, eT, (by decide : 1 + 0 ≤ _), (by decide : 5 + 0 ≤ _)⟩)
  dsimp only [Pt.U, Pt.locs, Pt.cells, Pt.slots] at X lq yq zq st hQ
  subst lq yq zq
  obtain ⟨rfl, Nq, eT⟩ := hQ
  replace N := Fr.app N Nq
  refine own_viaT (g' := (mkF m 16 (own_A10 a1 b1 1 1 v0) [(.int 5), (.int 1)])) st ?_
  refine own_via (g' := (mkF m 21 (own_A10 a1 b1 1 1 v0) [(.int 1), (.ref a1)])) (fun t_ k_ => XS.icmpNo X.here hx rfl (hb hby ep10m3_d16) rfl (tlt (by decide : (1 : Int32) < (5 : Int32))).2.1 (XS.aloadN X.here hx rfl (hb hby ep10m3_d19) rfl rfl (XS.iloadN X.here hx rfl (hb hby ep10m3_d20) rfl k_))) ?_
  obtain ⟨cq, kq, qa, qb, qc⟩ := isOf hZ eT E_a1
  obtain ⟨_, _, ⟨T, Lq, kq, nq⟩, -, X, ⟨Lc, hQ, lq, yq, zq⟩, st⟩ := X.virtualBack hx (y := own_y7) (z := own_y7) hown (mvT hZ (hw _ (own_w 74 rfl))) (mvT hZ (hw _ (own_w 75 rfl))) (notFace_of_selects (args := #[]) (mvT hZ (hw _ (own_w 77 rfl)))) (mvT hZ (hw _ (own_w 77 rfl))) (mvT hZ (hw _ (own_w 76 rfl))) (by decide) (backOf (W := 0) (own_charAt l Z a0 hw [] a1 (1 : Int32) va kv (5 : Int32) [(.int (own_b8 v0)), (.int (own_b8 (92 : Int32))), (.int (own_b8 (120 : Int32))), (.int (own_b8 (own_hx (v1 / (16 : Int32))))), (.int (own_b8 (own_hx (v1 % (16 : Int32)))))] (own_b8 (92 : Int32)) zc vS h3 n0 O E_a1 F_value_a1 F_coder_a1 V_va S_C hzc (by decide) rfl S_S hvS) hZ (hw _ (own_w 78 rfl)) (hw _ (own_w 10 rfl)) (by decide) (by decide)) qa qc (g := (mkF m 21 (own_A10 a1 b1 1 1 v0) [(.int 1), (.ref a1)])) rfl (by rw [hml]; rfl) (Steps.refl _) (argsL := [(.int 1)]) (rest := []) (lenOf own_pd7 rfl) rfl (by show 2 * 0 + _ ≤ _; exact Nat.le_of_eq rfl) (hb hby ep10m3_d21) (fun _ _ => ⟨rfl, eT, (by decide : 1 + 0 ≤ _), (by decide : 5 + 0 ≤ _)⟩)
  dsimp only [Pt.U, Pt.locs, Pt.cells, Pt.slots] at X lq yq zq st hQ
  subst lq yq zq
  obtain ⟨rfl, Nq, eT⟩ := hQ
  replace N := Fr.app N Nq
  refine own_viaT (g' := (mkF m 24 (own_A10 a1 b1 1 1 v0) [(.int ((own_b8 (92 : Int32)) &&& (255 : Int32)))])) st ?_
  rw [(by decide : ((own_b8 (92 : Int32)) &&& (255 : Int32)) = (92 : Int32))]
  refine own_via (g' := (mkF m 35 (own_A10 a1 b1 1 1 92) [(.int 1), (.ref a1)])) (fun t_ k_ => XS.istore X.here hx rfl (hb hby ep10m3_d24) rfl (l' := (own_A10 a1 b1 1 1 92)) rfl (XS.iload X.here hx rfl (hb hby ep10m3_d26) rfl (XS.bipush X.here hx rfl (hb hby ep10m3_d28) (XS.icmpNo X.here hx rfl (hb hby ep10m3_d30) rfl (teq (by decide : (92 : Int32) = (92 : Int32))).2 (XS.aloadN X.here hx rfl (hb hby ep10m3_d33) rfl rfl (XS.iloadN X.here hx rfl (hb hby ep10m3_d34) rfl k_)))))) ?_
  obtain ⟨_, _, ⟨T, Lq, kq, nq⟩, -, X, ⟨Lc, hQ, lq, yq, zq⟩, st⟩ := Jvm.LawKit.callS X hx (y := own_y10) hown (mvT hZ (hw _ (own_w 96 rfl))) (mvT hZ (hw _ (own_w 97 rfl))) (mvT hZ (hw _ (own_w 31 rfl))) (mvT hZ (hw _ (own_w 98 rfl))) (by decide) (backOf (W := 0) (own_escByte l Z a0 hw [] a1 va kv (5 : Int32) [(.int (own_b8 v0)), (.int (own_b8 (92 : Int32))), (.int (own_b8 (120 : Int32))), (.int (own_b8 (own_hx (v1 / (16 : Int32))))), (.int (own_b8 (own_hx (v1 % (16 : Int32)))))] (1 : Int32) v1 (own_b8 (120 : Int32)) (own_b8 (own_hx (v1 / (16 : Int32)))) (own_b8 (own_hx (v1 % (16 : Int32)))) zc vS h3 n0 O E_a1 F_value_a1 F_coder_a1 V_va (by decide) rfl (by decide) (by decide) rfl (own_b255 (own_hxB (own_hi bd1.1 bd1.2).2.1 (own_hi bd1.1 bd1.2).2.2).1 (own_hxB (own_hi bd1.1 bd1.2).2.1 (own_hi bd1.1 bd1.2).2.2).2) (by decide) rfl (own_b255 (own_hxB (own_lo bd1.1 bd1.2).2.1 (own_lo bd1.1 bd1.2).2.2).1 (own_hxB (own_lo bd1.1 bd1.2).2.1 (own_lo bd1.1 bd1.2).2.2).2) bd1 S_C hzc S_S hvS) hZ (hw _ (own_w 98 rfl)) (hw _ (own_w 31 rfl)) (by decide) (by decide)) (g := (mkF m 35 (own_A10 a1 b1 1 1 92) [(.int 1), (.ref a1)])) rfl (by rw [hml]; rfl) (argsL := [(.ref a1), (.int 1)]) (rest := []) (lenOf own_pd10 rfl) rfl (by show 2 * 0 + _ ≤ _; exact Nat.le_of_eq rfl) (hb hby ep10m3_d35) (fun _ _ => ⟨rfl, eT, (by decide : 1 + 0 ≤ _), (by decide : 5 + 0 ≤ _)⟩)
  dsimp only [Pt.U, Pt.locs, Pt.cells, Pt.slots] at X lq yq zq st hQ
  subst lq yq zq
  obtain ⟨rfl, Nq, eT⟩ := hQ
  replace N := Fr.app N Nq
  refine own_via (g' := (mkF m 38 (own_A10 a1 b1 1 1 92) [(.int v1)])) st ?_
  refine own_via (g' := (mkF m 69 (own_A8 a1 b1 ((1 : Int32) + (1 : Int32)) 1 92 v1) [(.int (v1.toInt8.toInt32)), (.int 1), (.ref b1)])) (fun t_ k_ => XS.istore X.here hx rfl (hb hby ep10m3_d38) rfl (l' := (own_A8 a1 b1 1 1 92 v1)) rfl (XS.iload X.here hx rfl (hb hby ep10m3_d40) rfl (XS.ifYes X.here hx rfl (pc0 := 42) (pc' := 61) rfl (hb hby ep10m3_d42) rfl ((if0 _ _).trans (flt (own_nn bd1.1)).2.1) (by decide) (by decide) (XS.aloadN X.here hx rfl (hb hby ep10m3_d61) rfl rfl (XS.iloadN X.here hx rfl (hb hby ep10m3_d62) rfl (XS.iinc X.here hx rfl (hb hby ep10m3_d63) rfl (l' := (own_A8 a1 b1 ((1 : Int32) + (1 : Int32)) 1 92 v1)) rfl (XS.iload X.here hx rfl (hb hby ep10m3_d66) rfl (XS.i2b X.here hx rfl (hb hby ep10m3_d68) rfl k_)))))))) ?_
  obtain ⟨cl_, Ar_, qk_, Sz_, Nn_, Hs_, Gs_⟩ := id V_b1
  have hin_ : ¬ ((1 : Int32) < 0 ∨ cl_.slots.size ≤ ((1 : Int32)).toNatClampNeg) := inb_of Sz_ ⟨by decide, by decide⟩
  obtain ⟨T, h4, X, eT, W, st⟩ := stB X hx hZ eT Ar_ (j := (1 : Int32)) hin_ (g := (mkF m 69 (own_A8 a1 b1 ((1 : Int32) + (1 : Int32)) 1 92 v1) [(.int (v1.toInt8.toInt32)), (.int 1), (.ref b1)])) rfl rfl (hb hby ep10m3_d69)
  replace V_b1 : Arv Z h4 b1 kb1 .byte (5 : Int32) [(.int (((v0.toInt8.toInt32)).toInt8.toInt32)), (.int (((v1.toInt8.toInt32)).toInt8.toInt32)), (.int 0), (.int 0), (.int 0)] (.int 0) := Arv.set Ar_ qk_ Sz_ Nn_ Hs_ Gs_ (fits_nar_byte _) W 1 (by decide) (Nat.le_of_ble_eq_true rfl)
  replace E_a1 := E_a1.wr W
  replace F_value_a1 := F_value_a1.other W (Or.inl ne_a1_b1)
  replace F_coder_a1 := F_coder_a1.other W (Or.inl ne_a1_b1)
  replace V_va := V_va.other W ne_va_b1
  replace E_b1 := E_b1.wr W
  replace O := O.wr W g_b1
  replace K0 := K0.wr W (Or.inr sz_b1)
  replace N := Fr.snoc X N g_b1
  refine own_via (g' := (mkF m 70 (own_A8 a1 b1 ((1 : Int32) + (1 : Int32)) 1 92 v1) [])) st ?_
  refine own_via (g' := (mkF m 11 (own_A8 a1 b1 ((1 : Int32) + (1 : Int32)) (((1 : Int32) + (3 : Int32)) + (1 : Int32)) 92 v1) [])) (fun t_ k_ => XS.iinc X.here hx rfl (hb hby ep10m3_d70) rfl (l' := (own_A8 a1 b1 ((1 : Int32) + (1 : Int32)) ((1 : Int32) + (3 : Int32)) 92 v1)) rfl (XS.goto X.here hx rfl (pc0 := 73) (pc' := 136) rfl (hb hby ep10m3_d73) (by decide) (by decide) (XS.iinc X.here hx rfl (hb hby ep10m3_d136) rfl (l' := (own_A8 a1 b1 ((1 : Int32) + (1 : Int32)) (((1 : Int32) + (3 : Int32)) + (1 : Int32)) 92 v1)) rfl (XS.goto X.here hx rfl (pc0 := 139) (pc' := 11) rfl (hb hby ep10m3_d139) (by decide) (by decide) k_)))) ?_
  rw [(by decide : ((1 : Int32) + (1 : Int32)) = (2 : Int32))]
  rw [(by decide : (((1 : Int32) + (3 : Int32)) + (1 : Int32)) = (5 : Int32))]
  refine own_via (g' := (mkF m 13 (own_A8 a1 b1 2 5 92 v1) [(.ref a1), (.int 5)])) (fun t_ k_ => XS.iloadN X.here hx rfl (hb hby ep10m3_d11) rfl (XS.aloadN X.here hx rfl (hb hby ep10m3_d12) rfl rfl k_)) ?_
  obtain ⟨cq, kq, qa, qb, qc⟩ := isOf hZ eT E_a1
  obtain ⟨_, _, ⟨T, Lq, kq, nq⟩, -, X, ⟨Lc, hQ, lq, yq, zq⟩, st⟩ := X.virtualBack hx (y := own_y6) (z := own_y6) hown (mvT hZ (hw _ (own_w 33 rfl))) (mvT hZ (hw _ (own_w 34 rfl))) (notFace_of_selects (args := #[]) (mvT hZ (hw _ (own_w 36 rfl)))) (mvT hZ (hw _ (own_w 36 rfl))) (mvT hZ (hw _ (own_w 35 rfl))) (by decide) (backOf (W := 1) (own_strlen l Z a0 hw [] a1 va kv (5 : Int32) [(.int (own_b8 v0)), (.int (own_b8 (92 : Int32))), (.int (own_b8 (120 : Int32))), (.int (own_b8 (own_hx (v1 / (16 : Int32))))), (.int (own_b8 (own_hx (v1 % (16 : Int32)))))] zc h4 n0 O E_a1 F_value_a1 F_coder_a1 V_va S_C hzc) hZ (hw _ (own_w 37 rfl)) (hw _ (own_w 10 rfl)) (by decide) (by decide)) qa qc (g := (mkF m 13 (own_A8 a1 b1 2 5 92 v1) [(.ref a1), (.int 5)])) rfl (by rw [hml]; rfl) (Steps.refl _) (argsL := []) (rest := [(.int 5)]) (lenOf own_pd6 rfl) rfl (by show 2 * 0 + _ ≤ _; exact Nat.le_of_eq rfl) (hb hby ep10m3_d13) (fun _ _ => ⟨rfl, eT, (by decide : 1 + 0 ≤ _), (by decide : 5 + 0 ≤ _)⟩)
  dsimp only [Pt.U, Pt.locs, Pt.cells, Pt.slots] at X lq yq zq st hQ
  subst lq yq zq
  obtain ⟨rfl, Nq, eT⟩ := hQ
  replace N := Fr.app N Nq
  refine own_viaT (g' := (mkF m 16 (own_A8 a1 b1 2 5 92 v1) [(.int 5), (.int 5)])) st ?_
  refine own_via (g' := (mkF m 144 (own_A8 a1 b1 2 5 92 v1) [(.int 2), (.ref b1)])) (fun t_ k_ => XS.icmpYes X.here hx rfl (pc0 := 16) (pc' := 142) rfl (hb hby ep10m3_d16) rfl (flt (by decide : ¬ ((5 : Int32) < (5 : Int32)))).2.1 (by decide) (by decide) (XS.aloadN X.here hx rfl (hb hby ep10m3_d142) rfl rfl (XS.iloadN X.here hx rfl (hb hby ep10m3_d143) rfl k_))) ?_
  replace V_b1 : Arv Z h4 b1 kb1 .byte (5 : Int32) [(.int (own_sb v0)), (.int (own_sb v1))] (.int 0) := V_b1.pad (fun i => (pad_rep [(.int (own_sb v0)), (.int (own_sb v1))] (.int 0) 3 i).symm)
  obtain ⟨_, _, ⟨T, Lq, kq, nq⟩, -, X, ⟨Lc, hQ, lq, yq, zq⟩, st⟩ := Jvm.LawKit.callS X hx (y := own_y9) hown (mvT hZ (hw _ (own_w 44 rfl))) (mvT hZ (hw _ (own_w 45 rfl))) (mvT hZ (hw _ (own_w 46 rfl))) (mvT hZ (hw _ (own_w 47 rfl))) (by decide) (backOf (W := 0) (own_copyOf l Z a0 hw [] b1 kb1 (2 : Int32) (5 : Int32) [(.int (own_sb v0)), (.int (own_sb v1))] h4 n0 O E_b1 V_b1 (by decide) rfl) hZ (hw _ (own_w 47 rfl)) (hw _ (own_w 46 rfl)) (by decide) (by decide)) (g := (mkF m 144 (own_A8 a1 b1 2 5 92 v1) [(.int 2), (.ref b1)])) rfl (by rw [hml]; rfl) (argsL := [(.ref b1), (.int 2)]) (rest := []) (lenOf own_pd9 rfl) rfl (by show 2 * 0 + _ ≤ _; exact Nat.le_of_eq rfl) (hb hby ep10m3_d144) (fun _ _ => ⟨rfl, eT, (by decide : 1 + 1 ≤ _), (by decide : 5 + 12 ≤ _)⟩)
  dsimp only [Pt.U, Pt.locs, Pt.cells, Pt.slots] at X lq yq zq st hQ
  subst lq yq zq
  obtain ⟨bn, kbn, rfl, Nq, Kq, szq, V_bn, E_bn⟩ := hQ
  replace N := Fr.app N Nq
  obtain ⟨h5, eT⟩ : ∃ z, T.heap = z := ⟨_, rfl⟩
  rw [eT] at Kq V_bn E_bn
  have ne_a1_bn : a1 ≠ bn := Nat.ne_of_lt (Nat.lt_of_lt_of_le E_a1.lt szq)
  have ne_b1_bn : b1 ≠ bn := Nat.ne_of_lt (Nat.lt_of_lt_of_le E_b1.lt szq)
  have ne_va_bn : va ≠ bn := Nat.ne_of_lt (Nat.lt_of_lt_of_le V_va.lt szq)
  have g_bn : n0 ≤ bn := Nat.le_trans (own_le O) szq
  have sz_bn : h0.size ≤ bn := Nat.le_trans K0.1 szq
  replace E_a1 := E_a1.keep Kq
  replace F_value_a1 := F_value_a1.keep Kq nin0
  replace F_coder_a1 := F_coder_a1.keep Kq nin0
  replace V_va := V_va.keep Kq nin0
  replace E_b1 := E_b1.keep Kq
  replace V_b1 := V_b1.keep Kq nin0
  replace O := O.keep Kq all0
  replace K0 := K0.trans Kq all0
  refine own_via (g' := (mkF m 147 (own_A8 a1 b1 2 5 92 v1) [(.ref bn)])) st ?_
  refine own_retW X hx hlk Bd.returns rfl (Or.inr (Or.inr (Or.inr (Or.inr ⟨rfl, rfl, rfl⟩)))) (hb hby ep10m3_d147) (by decide) (by decide) ?_
  rw [eT]
  exact ⟨bn, kbn, rfl, N, K0, sz_bn, V_bn, E_bn⟩
theorem own_unEP_pn : plainFor (⟨"com/example/rows_to_regions/rowstoregions/KeyText", "unescape", "(Ljava/lang/String;)[B"⟩ : MethodName) = true := by first | exact plainFor_of_name (by first | (simp [plainName, overriddenIn]; done) | decide +kernel) | decide +kernel | exact Jvm.Free.JP.mathPlain rfl (by decide +kernel)
theorem own_unEP_ef (m : MethodId) (x0 : Addr) : entryFrame m #[(.ref x0)] 6 = mkF m 0 #[.val (.ref x0), .unset, .unset, .unset, .unset, .unset] [] := by first | (simp [entryFrame, mkF, argsToLocals, Value.category]; done) | rfl
def own_unEP_Q (Z : State) (a1 : Addr) (va : Addr) (kv : ClassId) (v0 : Int32) (v1 : Int32) (zc : Int32) (vS : Value) (h0 : Heap) (n0 : Nat) (v : Option Value) (h : Heap) (L : List Loc) : Prop := ∃ b kb, v = some (.ref b) ∧ Fr n0 L ∧ Keep h0 h [] ∧ h0.size ≤ b ∧ Arv Z h b kb .byte (2 : Int32) [(.int (own_sb v0)), (.int (own_sb v1))] (.int 0) ∧ Exa Z h b "[B"
set_option maxRecDepth 65536 in
set_option maxHeartbeats 40000000 in
theorem own_unEP (l : Launch) (Z : State) (a0 : Array Value) (hw : ∀ d ∈ tables_1, d.before a0 Z = true) (ws : List Jvm.Cond) (a1 : Addr) (va : Addr) (kv : ClassId) (v0 : Int32) (v1 : Int32) (zc : Int32) (vS : Value) (h0 : Heap) (n0 : Nat) (O : Old Z n0 h0) (E_a1 : Exa Z h0 a1 "java/lang/String") (F_value_a1 : Fld Z h0 a1 "java/lang/String" "value" "[B" (.ref va)) (F_coder_a1 : Fld Z h0 a1 "java/lang/String" "coder" "B" (.int 0)) (V_va : Arv Z h0 va kv .byte (5 : Int32) [(.int (own_b8 (92 : Int32))), (.int (own_b8 (120 : Int32))), (.int (own_b8 (own_hx (v0 / (16 : Int32))))), (.int (own_b8 (own_hx (v0 % (16 : Int32))))), (.int (own_b8 v1))] (.int 0)) (bd0 : 0 ≤ v0.toInt ∧ v0.toInt < 256) (bd1 : 0 ≤ v1.toInt ∧ v1.toInt < 256) (pp1 : ¬ v1 = (92 : Int32) ∧ ¬ v1 < (32 : Int32) ∧ ¬ (126 : Int32) < v1) (S_C : Sta Z Z.heap "java/lang/String" "COMPACT_STRINGS" "Z" (.int zc)) (hzc : ¬ zc = 0) (S_S : Sta Z Z.heap "jdk/internal/util/Preconditions" "SIOOBE_FORMATTER" "Ljava/util/function/BiFunction;" vS) (hvS : vS.isRef = true) :
    MetFree l (⟨"com/example/rows_to_regions/rowstoregions/KeyText", "unescape", "(Ljava/lang/String;)[B"⟩ : MethodName) (head1 (Jvm.Cond.code (⟨"com/example/rows_to_regions/rowstoregions/KeyText", "unescape", "(Ljava/lang/String;)[B"⟩ : MethodName) prog_10_method_3_code 6 (some (.array .byte)) :: ws) ({ frames := 5, cells := 2, slots := 20, locals := 68 } : Room)) (fun a U => a = #[(.ref a1)] ∧ Z.Warmed39 U.vm ∧ U.heap = h0) (fun _ _ _ _ _ => True) (fun _ U o U' => ∃ v L, o = .returned v ∧ own_unEP_Q Z a1 va kv v0 v1 zc vS h0 n0 v U'.heap L ∧ FrameEnd U o U' L ({ frames := 5, cells := 2, slots := 20, locals := 68 } : Room).cells ({ frames := 5, cells := 2, slots := 20, locals := 68 } : Room).slots) := by
  refine MetFree.of_bodySF own_unEP_pn hisR ?_
  intro p e s m args below meth c s₁ Bd hml0 hP hK
  obtain ⟨rfl, hZ, hh⟩ := hP
  have hx := Bd.exec
  have hby := Bd.bytes
  have hlk := Bd.notSynchronized
  have hml : c.maxLocals = 6 := hml0
  have hown : s.vm.findClass "com/example/rows_to_regions/rowstoregions/KeyText" = some m.cls := findClass_of_methodNamed Bd.named
  have hnm := (name_of_methodNamed Bd.named Bd.method).1
  have X : Stand p l e ({ frames := 5, cells := 2, slots := 20, locals := 68 } : Room) s m #[(.ref a1)] below meth c s₁ [] 0 0 := Stand.of_body Bd
  have eT : s₁.heap = h0 := by rw [← hh, Bd.state]; rfl
  have N := Fr.nil n0
  have K0 := Keep.refl h0 []
  show own_Ends p e below (own_Post s below (own_unEP_Q Z a1 va kv v0 v1 zc vS h0 n0) ({ frames := 5, cells := 2, slots := 20, locals := 68 } : Room).cells ({ frames := 5, cells := 2, slots := 20, locals := 68 } : Room).slots) s₁ (entryFrame m #[(.ref a1)] 6)
  rw [own_unEP_ef m a1]
  obtain ⟨T, hT⟩ : ∃ z, z = s₁ := ⟨_, rfl⟩
  rw [← hT] at X eT ⊢
  obtain ⟨h, hh0⟩ : ∃ z, z = h0 := ⟨_, rfl⟩
  rw [← hh0] at eT
  replace O : Old Z n0 h := by rw [hh0]; exact O
  replace K0 : Keep h0 h [] := by rw [hh0]; exact K0
  rw [← hh0] at E_a1
  rw [← hh0] at F_value_a1
  rw [← hh0] at F_coder_a1
  rw [← hh0] at V_va
  refine own_via (g' := (mkF m 1 (own_A19 a1) [(.ref a1)])) (fun t_ k_ => XS.aloadN X.here hx rfl (hb hby ep10m3_d0) rfl rfl k_) ?_
  obtain ⟨cq, kq, qa, qb, qc⟩ := isOf hZ eT E_a1
  obtain ⟨_, _, ⟨T, Lq, kq, nq⟩, -, X, ⟨Lc, hQ, lq, yq, zq⟩, st⟩ := X.virtualBack hx (y := own_y6) (z := own_y6) hown (mvT hZ (hw _ (own_w 33 rfl))) (mvT hZ (hw _ (own_w 34 rfl))) (notFace_of_selects (args := #[]) (mvT hZ (hw _ (own_w 36 rfl)))) (mvT hZ (hw _ (own_w 36 rfl))) (mvT hZ (hw _ (own_w 35 rfl))) (by decide) (backOf (W := 0) (own_strlen l Z a0 hw [] a1 va kv (5 : Int32) [(.int (own_b8 (92 : Int32))), (.int (own_b8 (120 : Int32))), (.int (own_b8 (own_hx (v0 / (16 : Int32))))), (.int (own_b8 (own_hx (v0 % (16 : Int32))))), (.int (own_b8 v1))] zc h n0 O E_a1 F_value_a1 F_coder_a1 V_va S_C hzc) hZ (hw _ (own_w 37 rfl)) (hw _ (own_w 10 rfl)) (by decide) (by decide)) qa qc (g := (mkF m 1 (own_A19 a1) [(.ref a1)])) rfl (by rw [hml]; rfl) (Steps.refl _) (argsL := []) (rest := []) (lenOf own_pd6 rfl) rfl (by show 2 * 0 + _ ≤ _; exact Nat.le_of_eq rfl) (hb hby ep10m3_d1) (fun _ _ => ⟨rfl, eT, (by decide : 0 + 0 ≤ _), (by decide : 0 + 0 ≤ _)⟩)
  dsimp only [Pt.U, Pt.locs, Pt.cells, Pt.slots] at X lq yq zq st hQ
  subst lq yq zq
  obtain ⟨rfl, Nq, eT⟩ := hQ
  replace N := Fr.app N Nq
  refine own_viaT (g' := (mkF m 4 (own_A19 a1) [(.int 5)])) st ?_
  obtain ⟨b1, gb⟩ : ∃ z, z = h.size := ⟨_, rfl⟩
  obtain ⟨T, h2, kb1, X, eT, E, A_, E_b1, st⟩ := newPE X hx hZ (hw _ (own_w 22 rfl)) eT (g := (mkF m 4 (own_A19 a1) [(.int 5)])) rfl (hb hby ep10m3_d4) rfl (by decide) (cap := 5) (by decide) (by decide) (by decide) (by decide) (ad := "[B") (by decide)
  rw [← gb] at A_ E_b1 st
  have ne_a1_b1 : a1 ≠ b1 := Nat.ne_of_lt (Nat.lt_of_lt_of_le E_a1.lt (Nat.le_of_eq gb.symm))
  have ne_va_b1 : va ≠ b1 := Nat.ne_of_lt (Nat.lt_of_lt_of_le V_va.lt (Nat.le_of_eq gb.symm))
  have g_b1 : n0 ≤ b1 := Nat.le_trans (own_le O) (Nat.le_of_eq gb.symm)
  have sz_b1 : h0.size ≤ b1 := Nat.le_trans K0.1 (Nat.le_of_eq gb.symm)
  replace E_a1 := E_a1.ext E
  replace F_value_a1 := F_value_a1.ext E
  replace F_coder_a1 := F_coder_a1.ext E
  replace V_va := V_va.ext E
  replace O := O.ext E
  replace K0 := K0.ext E
  have V_b1 : Arv Z h2 b1 kb1 .byte (5 : Int32) [(.int 0), (.int 0), (.int 0), (.int 0), (.int 0)] (.int 0) := (Arv.new A_ (by decide)).pad (pad_rep [] (.int 0) 5)
  refine own_via (g' := (mkF m 6 (own_A19 a1) [(.ref b1)])) st ?_
  refine own_via (g' := (mkF m 13 (own_A15 a1 b1 0 0) [(.ref a1), (.int 0)])) (fun t_ k_ => XS.astoreN X.here hx rfl (hb hby ep10m3_d6) rfl rfl (l' := (own_A18 a1 b1)) rfl (XS.iconst X.here hx rfl (hb hby ep10m3_d7) (XS.istoreN X.here hx rfl (hb hby ep10m3_d8) rfl (l' := (own_A17 a1 b1 0)) rfl (XS.iconst X.here hx rfl (hb hby ep10m3_d9) (XS.istoreN X.here hx rfl (hb hby ep10m3_d10) rfl (l' := (own_A15 a1 b1 0 0)) rfl (XS.iloadN X.here hx rfl (hb hby ep10m3_d11) rfl (XS.aloadN X.here hx rfl (hb hby ep10m3_d12) rfl rfl k_))))))) ?_
  obtain ⟨cq, kq, qa, qb, qc⟩ := isOf hZ eT E_a1
  obtain ⟨_, _, ⟨T, Lq, kq, nq⟩, -, X, ⟨Lc, hQ, lq, yq, zq⟩, st⟩ := X.virtualBack hx (y := own_y6) (z := own_y6) hown (mvT hZ (hw _ (own_w 33 rfl))) (mvT hZ (hw _ (own_w 34 rfl))) (notFace_of_selects (args := #[]) (mvT hZ (hw _ (own_w 36 rfl)))) (mvT hZ (hw _ (own_w 36 rfl))) (mvT hZ (hw _ (own_w 35 rfl))) (by decide) (backOf (W := 1) (own_strlen l Z a0 hw [] a1 va kv (5 : Int32) [(.int (own_b8 (92 : Int32))), (.int (own_b8 (120 : Int32))), (.int (own_b8 (own_hx (v0 / (16 : Int32))))), (.int (own_b8 (own_hx (v0 % (16 : Int32))))), (.int (own_b8 v1))] zc h2 n0 O E_a1 F_value_a1 F_coder_a1 V_va S_C hzc) hZ (hw _ (own_w 37 rfl)) (hw _ (own_w 10 rfl)) (by decide) (by decide)) qa qc (g := (mkF m 13 (own_A15 a1 b1 0 0) [(.ref a1), (.int 0)])) rfl (by rw [hml]; rfl) (Steps.refl _) (argsL := []) (rest := [(.int 0)]) (lenOf own_pd6 rfl) rfl (by show 2 * 0 + _ ≤ _; exact Nat.le_of_eq rfl) (hb hby ep10m3_d13) (fun _ _ => ⟨rfl, eT, (by decide : 1 + 0 ≤ _), (by decide : 5 + 0 ≤ _)⟩)
  dsimp only [Pt.U, Pt.locs, Pt.cells, Pt.slots] at X lq yq zq st hQ
  subst lq yq zq
  obtain ⟨rfl, Nq, eT⟩ := hQ
  replace N := Fr.app N Nq
  refine own_viaT (g' := (mkF m 16 (own_A15 a1 b1 0 0) [(.int 5), (.int 0)])) st ?_
  refine own_via (g' := (mkF m 21 (own_A15 a1 b1 0 0) [(.int 0), (.ref a1)])) (fun t_ k_ => XS.icmpNo X.here hx rfl (hb hby ep10m3_d16) rfl (tlt (by decide : (0 : Int32) < (5 : Int32))).2.1 (XS.aloadN X.here hx rfl (hb hby ep10m3_d19) rfl rfl (XS.iloadN X.here hx rfl (hb hby ep10m3_d20) rfl k_))) ?_
  obtain ⟨cq, kq, qa, qb, qc⟩ := isOf hZ eT E_a1
  obtain ⟨_, _, ⟨T, Lq, kq, nq⟩, -, X, ⟨Lc, hQ, lq, yq, zq⟩, st⟩ := X.virtualBack hx (y := own_y7) (z := own_y7) hown (mvT hZ (hw _ (own_w 74 rfl))) (mvT hZ (hw _ (own_w 75 rfl))) (notFace_of_selects (args := #[]) (mvT hZ (hw _ (own_w 77 rfl)))) (mvT hZ (hw _ (own_w 77 rfl))) (mvT hZ (hw _ (own_w 76 rfl))) (by decide) (backOf (W := 0) (own_charAt l Z a0 hw [] a1 (0 : Int32) va kv (5 : Int32) [(.int (own_b8 (92 : Int32))), (.int (own_b8 (120 : Int32))), (.int (own_b8 (own_hx (v0 / (16 : Int32))))), (.int (own_b8 (own_hx (v0 % (16 : Int32))))), (.int (own_b8 v1))] (own_b8 (92 : Int32)) zc vS h2 n0 O E_a1 F_value_a1 F_coder_a1 V_va S_C hzc (by decide) rfl S_S hvS) hZ (hw _ (own_w 78 rfl)) (hw _ (own_w 10 rfl)) (by decide) (by decide)) qa qc (g := (mkF m 21 (own_A15 a1 b1 0 0) [(.int 0), (.ref a1)])) rfl (by rw [hml]; rfl) (Steps.refl _) (argsL := [(.int 0)]) (rest := []) (lenOf own_pd7 rfl) rfl (by show 2 * 0 + _ ≤ _; exact Nat.le_of_eq rfl) (hb hby ep10m3_d21) (fun _ _ => ⟨rfl, eT, (by decide : 1 + 0 ≤ _), (by decide : 5 + 0 ≤ _)⟩)
  dsimp only [Pt.U, Pt.locs, Pt.cells, Pt.slots] at X lq yq zq st hQ
  subst lq yq zq
  obtain ⟨rfl, Nq, eT⟩ := hQ
  replace N := Fr.app N Nq
  refine own_viaT (g' := (mkF m 24 (own_A15 a1 b1 0 0) [(.int ((own_b8 (92 : Int32)) &&& (255 : Int32)))])) st ?_
  rw [(by decide : ((own_b8 (92 : Int32)) &&& (255 : Int32)) = (92 : Int32))]
  refine own_via (g' := (mkF m 35 (own_A10 a1 b1 0 0 92) [(.int 0), (.ref a1)])) (fun t_ k_ => XS.istore X.here hx rfl (hb hby ep10m3_d24) rfl (l' := (own_A10 a1 b1 0 0 92)) rfl (XS.iload X.here hx rfl (hb hby ep10m3_d26) rfl (XS.bipush X.here hx rfl (hb hby ep10m3_d28) (XS.icmpNo X.here hx rfl (hb hby ep10m3_d30) rfl (teq (by decide : (92 : Int32) = (92 : Int32))).2 (XS.aloadN X.here hx rfl (hb hby ep10m3_d33) rfl rfl (XS.iloadN X.here hx rfl (hb hby ep10m3_d34) rfl k_)))))) ?_
  obtain ⟨_, _, ⟨T, Lq, kq, nq⟩, -, X, ⟨Lc, hQ, lq, yq, zq⟩, st⟩ := Jvm.LawKit.callS X hx (y := own_y10) hown (mvT hZ (hw _ (own_w 96 rfl))) (mvT hZ (hw _ (own_w 97 rfl))) (mvT hZ (hw _ (own_w 31 rfl))) (mvT hZ (hw _ (own_w 98 rfl))) (by decide) (backOf (W := 0) (own_escByte l Z a0 hw [] a1 va kv (5 : Int32) [(.int (own_b8 (92 : Int32))), (.int (own_b8 (120 : Int32))), (.int (own_b8 (own_hx (v0 / (16 : Int32))))), (.int (own_b8 (own_hx (v0 % (16 : Int32))))), (.int (own_b8 v1))] (0 : Int32) v0 (own_b8 (120 : Int32)) (own_b8 (own_hx (v0 / (16 : Int32)))) (own_b8 (own_hx (v0 % (16 : Int32)))) zc vS h2 n0 O E_a1 F_value_a1 F_coder_a1 V_va (by decide) rfl (by decide) (by decide) rfl (own_b255 (own_hxB (own_hi bd0.1 bd0.2).2.1 (own_hi bd0.1 bd0.2).2.2).1 (own_hxB (own_hi bd0.1 bd0.2).2.1 (own_hi bd0.1 bd0.2).2.2).2) (by decide) rfl (own_b255 (own_hxB (own_lo bd0.1 bd0.2).2.1 (own_lo bd0.1 bd0.2).2.2).1 (own_hxB (own_lo bd0.1 bd0.2).2.1 (own_lo bd0.1 bd0.2).2.2).2) bd0 S_C hzc S_S hvS) hZ (hw _ (own_w 98 rfl)) (hw _ (own_w 31 rfl)) (by decide) (by decide)) (g := (mkF m 35 (own_A10 a1 b1 0 0 92) [(.int 0), (.ref a1)])) rfl (by rw [hml]; rfl) (argsL := [(.ref a1), (.int 0)]) (rest := []) (lenOf own_pd10 rfl) rfl (by show 2 * 0 + _ ≤ _; exact Nat.le_of_eq rfl) (hb hby ep10m3_d35) (fun _ _ => ⟨rfl, eT, (by decide : 1 + 0 ≤ _), (by decide : 5 + 0 ≤ _)⟩)
  dsimp only [Pt.U, Pt.locs, Pt.cells, Pt.slots] at X lq yq zq st hQ
  subst lq yq zq
  obtain ⟨rfl, Nq, eT⟩ := hQ
  replace N := Fr.app N Nq
  refine own_via (g' := (mkF m 38 (own_A10 a1 b1 0 0 92) [(.int v0)])) st ?_
  refine own_via (g' := (mkF m 69 (own_A8 a1 b1 ((0 : Int32) + (1 : Int32)) 0 92 v0) [(.int (v0.toInt8.toInt32)), (.int 0), (.ref b1)])) (fun t_ k_ => XS.istore X.here hx rfl (hb hby ep10m3_d38) rfl (l' := (own_A8 a1 b1 0 0 92 v0)) rfl (XS.iload X.here hx rfl (hb hby ep10m3_d40) rfl (XS.ifYes X.here hx rfl (pc0 := 42) (pc' := 61) rfl (hb hby ep10m3_d42) rfl ((if0 _ _).trans (flt (own_nn bd0.1)).2.1) (by decide) (by decide) (XS.aloadN X.here hx rfl (hb hby ep10m3_d61) rfl rfl (XS.iloadN X.here hx rfl (hb hby ep10m3_d62) rfl (XS.iinc X.here hx rfl (hb hby ep10m3_d63) rfl (l' := (own_A8 a1 b1 ((0 : Int32) + (1 : Int32)) 0 92 v0)) rfl (XS.iload X.here hx rfl (hb hby ep10m3_d66) rfl (XS.i2b X.here hx rfl (hb hby ep10m3_d68) rfl k_)))))))) ?_
  obtain ⟨cl_, Ar_, qk_, Sz_, Nn_, Hs_, Gs_⟩ := id V_b1
  have hin_ : ¬ ((0 : Int32) < 0 ∨ cl_.slots.size ≤ ((0 : Int32)).toNatClampNeg) := inb_of Sz_ ⟨by decide, by decide⟩
  obtain ⟨T, h3, X, eT, W, st⟩ := stB X hx hZ eT Ar_ (j := (0 : Int32)) hin_ (g := (mkF m 69 (own_A8 a1 b1 ((0 : Int32) + (1 : Int32)) 0 92 v0) [(.int (v0.toInt8.toInt32)), (.int 0), (.ref b1)])) rfl rfl (hb hby ep10m3_d69)
  replace V_b1 : Arv Z h3 b1 kb1 .byte (5 : Int32) [(.int (((v0.toInt8.toInt32)).toInt8.toInt32)), (.int 0), (.int 0), (.int 0), (.int 0)] (.int 0) := Arv.set Ar_ qk_ Sz_ Nn_ Hs_ Gs_ (fits_nar_byte _) W 0 (by decide) (Nat.le_of_ble_eq_true rfl)
  replace E_a1 := E_a1.wr W
  replace F_value_a1 := F_value_a1.other W (Or.inl ne_a1_b1)
  replace F_coder_a1 := F_coder_a1.other W (Or.inl ne_a1_b1)
  replace V_va := V_va.other W ne_va_b1
  replace E_b1 := E_b1.wr W
  replace O := O.wr W g_b1
  replace K0 := K0.wr W (Or.inr sz_b1)
  replace N := Fr.snoc X N g_b1
  refine own_via (g' := (mkF m 70 (own_A8 a1 b1 ((0 : Int32) + (1 : Int32)) 0 92 v0) [])) st ?_
  refine own_via (g' := (mkF m 11 (own_A8 a1 b1 ((0 : Int32) + (1 : Int32)) (((0 : Int32) + (3 : Int32)) + (1 : Int32)) 92 v0) [])) (fun t_ k_ => XS.iinc X.here hx rfl (hb hby ep10m3_d70) rfl (l' := (own_A8 a1 b1 ((0 : Int32) + (1 : Int32)) ((0 : Int32) + (3 : Int32)) 92 v0)) rfl (XS.goto X.here hx rfl (pc0 := 73) (pc' := 136) rfl (hb hby ep10m3_d73) (by decide) (by decide) (XS.iinc X.here hx rfl (hb hby ep10m3_d136) rfl (l' := (own_A8 a1 b1 ((0 : Int32) + (1 : Int32)) (((0 : Int32) + (3 : Int32)) + (1 : Int32)) 92 v0)) rfl (XS.goto X.here hx rfl (pc0 := 139) (pc' := 11) rfl (hb hby ep10m3_d139) (by decide) (by decide) k_)))) ?_
  rw [(by decide : ((0 : Int32) + (1 : Int32)) = (1 : Int32))]
  rw [(by decide : (((0 : Int32) + (3 : Int32)) + (1 : Int32)) = (4 : Int32))]
  refine own_via (g' := (mkF m 13 (own_A8 a1 b1 1 4 92 v0) [(.ref a1), (.int 4)])) (fun t_ k_ => XS.iloadN X.here hx rfl (hb hby ep10m3_d11) rfl (XS.aloadN X.here hx rfl (hb hby ep10m3_d12) rfl rfl k_)) ?_
  obtain ⟨cq, kq, qa, qb, qc⟩ := isOf hZ eT E_a1
  obtain ⟨_, _, ⟨T, Lq, kq, nq⟩, -, X, ⟨Lc, hQ, lq, yq, zq⟩, st⟩ := X.virtualBack hx (y := own_y6) (z := own_y6) hown (mvT hZ (hw _ (own_w 33 rfl))) (mvT hZ (hw _ (own_w 34 rfl))) (notFace_of_selects (args := #[]) (mvT hZ (hw _ (own_w 36 rfl)))) (mvT hZ (hw _ (own_w 36 rfl))) (mvT hZ (hw _ (own_w 35 rfl))) (by decide) (backOf (W := 1) (own_strlen l Z a0 hw [] a1 va kv (5 : Int32) [(.int (own_b8 (92 : Int32))), (.int (own_b8 (120 : Int32))), (.int (own_b8 (own_hx (v0 / (16 : Int32))))), (.int (own_b8 (own_hx (v0 % (16 : Int32))))), (.int (own_b8 v1))] zc h3 n0 O E_a1 F_value_a1 F_coder_a1 V_va S_C hzc) hZ (hw _ (own_w 37 rfl)) (hw _ (own_w 10 rfl)) (by decide) (by decide)) qa qc (g := (mkF m 13 (own_A8 a1 b1 1 4 92 v0) [(.ref a1), (.int 4)])) rfl (by rw [hml]; rfl) (Steps.refl _) (argsL := []) (rest := [(.int 4)]) (lenOf own_pd6 rfl) rfl (by show 2 * 0 + _ ≤ _; exact Nat.le_of_eq rfl) (hb hby ep10m3_d13) (fun _ _ => ⟨rfl, eT, (by decide : 1 + 0 ≤ _), (by decide : 5 + 0 ≤ _)⟩)
  dsimp only [Pt.U, Pt.locs, Pt.cells, Pt.slots] at X lq yq zq st hQ
  subst lq yq zq
  obtain ⟨rfl, Nq, eT⟩ := hQ
  replace N := Fr.app N Nq
  refine own_viaT (g' := (mkF m 16 (own_A8 a1 b1 1 4 92 v0) [(.int 5), (.int 4)])) st ?_
  refine own_via (g' := (mkF m 21 (own_A8 a1 b1 1 4 92 v0) [(.int 4), (.ref a1)])) (fun t_ k_ => XS.icmpNo X.here hx rfl (hb hby ep10m3_d16) rfl (tlt (by decide : (4 : Int32) < (5 : Int32))).2.1 (XS.aloadN X.here hx rfl (hb hby ep10m3_d19) rfl rfl (XS.iloadN X.here hx rfl (hb hby ep10m3_d20) rfl k_))) ?_
  obtain ⟨cq, kq, qa, qb, qc⟩ := isOf hZ eT E_a1
  obtain ⟨_, _, ⟨T, Lq, kq, nq⟩, -, X, ⟨Lc, hQ, lq, yq, zq⟩, st⟩ := X.virtualBack hx (y := own_y7) (z := own_y7) hown (mvT hZ (hw _ (own_w 74 rfl))) (mvT hZ (hw _ (own_w 75 rfl))) (notFace_of_selects (args := #[]) (mvT hZ (hw _ (own_w 77 rfl)))) (mvT hZ (hw _ (own_w 77 rfl))) (mvT hZ (hw _ (own_w 76 rfl))) (by decide) (backOf (W := 0) (own_charAt l Z a0 hw [] a1 (4 : Int32) va kv (5 : Int32) [(.int (own_b8 (92 : Int32))), (.int (own_b8 (120 : Int32))), (.int (own_b8 (own_hx (v0 / (16 : Int32))))), (.int (own_b8 (own_hx (v0 % (16 : Int32))))), (.int (own_b8 v1))] (own_b8 v1) zc vS h3 n0 O E_a1 F_value_a1 F_coder_a1 V_va S_C hzc (by decide) rfl S_S hvS) hZ (hw _ (own_w 78 rfl)) (hw _ (own_w 10 rfl)) (by decide) (by decide)) qa qc (g := (mkF m 21 (own_A8 a1 b1 1 4 92 v0) [(.int 4), (.ref a1)])) rfl (by rw [hml]; rfl) (Steps.refl _) (argsL := [(.int 4)]) (rest := []) (lenOf own_pd7 rfl) rfl (by show 2 * 0 + _ ≤ _; exact Nat.le_of_eq rfl) (hb hby ep10m3_d21) (fun _ _ => ⟨rfl, eT, (by decide : 1 + 0 ≤ _), (by decide : 5 + 0 ≤ _)⟩)
  dsimp only [Pt.U, Pt.locs, Pt.cells, Pt.slots] at X lq yq zq st hQ
  subst lq yq zq
  obtain ⟨rfl, Nq, eT⟩ := hQ
  replace N := Fr.app N Nq
  refine own_viaT (g' := (mkF m 24 (own_A8 a1 b1 1 4 92 v0) [(.int ((own_b8 v1) &&& (255 : Int32)))])) st ?_
  rw [own_b255 bd1.1 bd1.2]
  refine own_via (g' := (mkF m 90 (own_A8 a1 b1 1 4 v1 v0) [])) (fun t_ k_ => XS.istore X.here hx rfl (hb hby ep10m3_d24) rfl (l' := (own_A8 a1 b1 1 4 v1 v0)) rfl (XS.iload X.here hx rfl (hb hby ep10m3_d26) rfl (XS.bipush X.here hx rfl (hb hby ep10m3_d28) (XS.icmpYes X.here hx rfl (pc0 := 30) (pc' := 76) rfl (hb hby ep10m3_d30) rfl (feq pp1.1).2 (by decide) (by decide) (XS.iload X.here hx rfl (hb hby ep10m3_d76) rfl (XS.bipush X.here hx rfl (hb hby ep10m3_d78) (XS.icmpNo X.here hx rfl (hb hby ep10m3_d80) rfl (flt pp1.2.1).1 (XS.iload X.here hx rfl (hb hby ep10m3_d83) rfl (XS.bipush X.here hx rfl (hb hby ep10m3_d85) (XS.icmpNo X.here hx rfl (hb hby ep10m3_d87) rfl (flt pp1.2.2).2.2.1 k_)))))))))) ?_
  refine own_via (g' := (mkF m 98 (own_A8 a1 b1 ((1 : Int32) + (1 : Int32)) 4 v1 v0) [(.int (v1.toInt8.toInt32)), (.int 1), (.ref b1)])) (fun t_ k_ => XS.aloadN X.here hx rfl (hb hby ep10m3_d90) rfl rfl (XS.iloadN X.here hx rfl (hb hby ep10m3_d91) rfl (XS.iinc X.here hx rfl (hb hby ep10m3_d92) rfl (l' := (own_A8 a1 b1 ((1 : Int32) + (1 : Int32)) 4 v1 v0)) rfl (XS.iload X.here hx rfl (hb hby ep10m3_d95) rfl (XS.i2b X.here hx rfl (hb hby ep10m3_d97) rfl k_))))) ?_
  obtain ⟨cl_, Ar_, qk_, Sz_, Nn_, Hs_, Gs_⟩ := id V_b1
  have hin_ : ¬ ((1 : Int32) < 0 ∨ cl_.slots.size ≤ ((1 : Int32)).toNatClampNeg) := inb_of Sz_ ⟨by decide, by decide⟩
  obtain ⟨T, h4, X, eT, W, st⟩ := stB X hx hZ eT Ar_ (j := (1 : Int32)) hin_ (g := (mkF m 98 (own_A8 a1 b1 ((1 : Int32) + (1 : Int32)) 4 v1 v0) [(.int (v1.toInt8.toInt32)), (.int 1), (.ref b1)])) rfl rfl (hb hby ep10m3_d98)
  replace V_b1 : Arv Z h4 b1 kb1 .byte (5 : Int32) [(.int (((v0.toInt8.toInt32)).toInt8.toInt32)), (.int (((v1.toInt8.toInt32)).toInt8.toInt32)), (.int 0), (.int 0), (.int 0)] (.int 0) := Arv.set Ar_ qk_ Sz_ Nn_ Hs_ Gs_ (fits_nar_byte _) W 1 (by decide) (Nat.le_of_ble_eq_true rfl)
  replace E_a1 := E_a1.wr W
  replace F_value_a1 := F_value_a1.other W (Or.inl ne_a1_b1)
  replace F_coder_a1 := F_coder_a1.other W (Or.inl ne_a1_b1)
  replace V_va := V_va.other W ne_va_b1
  replace E_b1 := E_b1.wr W
  replace O := O.wr W g_b1
  replace K0 := K0.wr W (Or.inr sz_b1)
  replace N := Fr.snoc X N g_b1
  refine own_via (g' := (mkF m 99 (own_A8 a1 b1 ((1 : Int32) + (1 : Int32)) 4 v1 v0) [])) st ?_
  refine own_via (g' := (mkF m 11 (own_A8 a1 b1 ((1 : Int32) + (1 : Int32)) ((4 : Int32) + (1 : Int32)) v1 v0) [])) (fun t_ k_ => XS.goto X.here hx rfl (pc0 := 99) (pc' := 136) rfl (hb hby ep10m3_d99) (by decide) (by decide) (XS.iinc X.here hx rfl (hb hby ep10m3_d136) rfl (l' := (own_A8 a1 b1 ((1 : Int32) + (1 : Int32)) ((4 : Int32) + (1 : Int32)) v1 v0)) rfl (XS.goto X.here hx rfl (pc0 := 139) (pc' := 11) rfl (hb hby ep10m3_d139) (by decide) (by decide) k_))) ?_
  rw [(by decide : ((1 : Int32) + (1 : Int32)) = (2 : Int32))]
  rw [(by decide : ((4 : Int32) + (1 : Int32)) = (5 : Int32))]
  refine own_via (g' := (mkF m 13 (own_A8 a1 b1 2 5 v1 v0) [(.ref a1), (.int 5)])) (fun t_ k_ => XS.iloadN X.here hx rfl (hb hby ep10m3_d11) rfl (XS.aloadN X.here hx rfl (hb hby ep10m3_d12) rfl rfl k_)) ?_
  obtain ⟨cq, kq, qa, qb, qc⟩ := isOf hZ eT E_a1
  obtain ⟨_, _, ⟨T, Lq, kq, nq⟩, -, X, ⟨Lc, hQ, lq, yq, zq⟩, st⟩ := X.virtualBack hx (y := own_y6) (z := own_y6) hown (mvT hZ (hw _ (own_w 33 rfl))) (mvT hZ (hw _ (own_w 34 rfl))) (notFace_of_selects (args := #[]) (mvT hZ (hw _ (own_w 36 rfl)))) (mvT hZ (hw _ (own_w 36 rfl))) (mvT hZ (hw _ (own_w 35 rfl))) (by decide) (backOf (W := 1) (own_strlen l Z a0 hw [] a1 va kv (5 : Int32) [(.int (own_b8 (92 : Int32))), (.int (own_b8 (120 : Int32))), (.int (own_b8 (own_hx (v0 / (16 : Int32))))), (.int (own_b8 (own_hx (v0 % (16 : Int32))))), (.int (own_b8 v1))] zc h4 n0 O E_a1 F_value_a1 F_coder_a1 V_va S_C hzc) hZ (hw _ (own_w 37 rfl)) (hw _ (own_w 10 rfl)) (by decide) (by decide)) qa qc (g := (mkF m 13 (own_A8 a1 b1 2 5 v1 v0) [(.ref a1), (.int 5)])) rfl (by rw [hml]; rfl) (Steps.refl _) (argsL := []) (rest := [(.int 5)]) (lenOf own_pd6 rfl) rfl (by show 2 * 0 + _ ≤ _; exact Nat.le_of_eq rfl) (hb hby ep10m3_d13) (fun _ _ => ⟨rfl, eT, (by decide : 1 + 0 ≤ _), (by decide : 5 + 0 ≤ _)⟩)
  dsimp only [Pt.U, Pt.locs, Pt.cells, Pt.slots] at X lq yq zq st hQ
  subst lq yq zq
  obtain ⟨rfl, Nq, eT⟩ := hQ
  replace N := Fr.app N Nq
  refine own_viaT (g' := (mkF m 16 (own_A8 a1 b1 2 5 v1 v0) [(.int 5), (.int 5)])) st ?_
  refine own_via (g' := (mkF m 144 (own_A8 a1 b1 2 5 v1 v0) [(.int 2), (.ref b1)])) (fun t_ k_ => XS.icmpYes X.here hx rfl (pc0 := 16) (pc' := 142) rfl (hb hby ep10m3_d16) rfl (flt (by decide : ¬ ((5 : Int32) < (5 : Int32)))).2.1 (by decide) (by decide) (XS.aloadN X.here hx rfl (hb hby ep10m3_d142) rfl rfl (XS.iloadN X.here hx rfl (hb hby ep10m3_d143) rfl k_))) ?_
  replace V_b1 : Arv Z h4 b1 kb1 .byte (5 : Int32) [(.int (own_sb v0)), (.int (own_sb v1))] (.int 0) := V_b1.pad (fun i => (pad_rep [(.int (own_sb v0)), (.int (own_sb v1))] (.int 0) 3 i).symm)
  obtain ⟨_, _, ⟨T, Lq, kq, nq⟩, -, X, ⟨Lc, hQ, lq, yq, zq⟩, st⟩ := Jvm.LawKit.callS X hx (y := own_y9) hown (mvT hZ (hw _ (own_w 44 rfl))) (mvT hZ (hw _ (own_w 45 rfl))) (mvT hZ (hw _ (own_w 46 rfl))) (mvT hZ (hw _ (own_w 47 rfl))) (by decide) (backOf (W := 0) (own_copyOf l Z a0 hw [] b1 kb1 (2 : Int32) (5 : Int32) [(.int (own_sb v0)), (.int (own_sb v1))] h4 n0 O E_b1 V_b1 (by decide) rfl) hZ (hw _ (own_w 47 rfl)) (hw _ (own_w 46 rfl)) (by decide) (by decide)) (g := (mkF m 144 (own_A8 a1 b1 2 5 v1 v0) [(.int 2), (.ref b1)])) rfl (by rw [hml]; rfl) (argsL := [(.ref b1), (.int 2)]) (rest := []) (lenOf own_pd9 rfl) rfl (by show 2 * 0 + _ ≤ _; exact Nat.le_of_eq rfl) (hb hby ep10m3_d144) (fun _ _ => ⟨rfl, eT, (by decide : 1 + 1 ≤ _), (by decide : 5 + 12 ≤ _)⟩)
  dsimp only [Pt.U, Pt.locs, Pt.cells, Pt.slots] at X lq yq zq st hQ
  subst lq yq zq
  obtain ⟨bn, kbn, rfl, Nq, Kq, szq, V_bn, E_bn⟩ := hQ
  replace N := Fr.app N Nq
  obtain ⟨h5, eT⟩ : ∃ z, T.heap = z := ⟨_, rfl⟩
  rw [eT] at Kq V_bn E_bn
  have ne_a1_bn : a1 ≠ bn := Nat.ne_of_lt (Nat.lt_of_lt_of_le E_a1.lt szq)
  have ne_b1_bn : b1 ≠ bn := Nat.ne_of_lt (Nat.lt_of_lt_of_le E_b1.lt szq)
  have ne_va_bn : va ≠ bn := Nat.ne_of_lt (Nat.lt_of_lt_of_le V_va.lt szq)
  have g_bn : n0 ≤ bn := Nat.le_trans (own_le O) szq
  have sz_bn : h0.size ≤ bn := Nat.le_trans K0.1 szq
  replace E_a1 := E_a1.keep Kq
  replace F_value_a1 := F_value_a1.keep Kq nin0
  replace F_coder_a1 := F_coder_a1.keep Kq nin0
  replace V_va := V_va.keep Kq nin0
  replace E_b1 := E_b1.keep Kq
  replace V_b1 := V_b1.keep Kq nin0
  replace O := O.keep Kq all0
  replace K0 := K0.trans Kq all0
  refine own_via (g' := (mkF m 147 (own_A8 a1 b1 2 5 v1 v0) [(.ref bn)])) st ?_
  refine own_retW X hx hlk Bd.returns rfl (Or.inr (Or.inr (Or.inr (Or.inr ⟨rfl, rfl, rfl⟩)))) (hb hby ep10m3_d147) (by decide) (by decide) ?_
  rw [eT]
  exact ⟨bn, kbn, rfl, N, K0, sz_bn, V_bn, E_bn⟩
theorem own_unEE_pn : plainFor (⟨"com/example/rows_to_regions/rowstoregions/KeyText", "unescape", "(Ljava/lang/String;)[B"⟩ : MethodName) = true := by first | exact plainFor_of_name (by first | (simp [plainName, overriddenIn]; done) | decide +kernel) | decide +kernel | exact Jvm.Free.JP.mathPlain rfl (by decide +kernel)
theorem own_unEE_ef (m : MethodId) (x0 : Addr) : entryFrame m #[(.ref x0)] 6 = mkF m 0 #[.val (.ref x0), .unset, .unset, .unset, .unset, .unset] [] := by first | (simp [entryFrame, mkF, argsToLocals, Value.category]; done) | rfl
def own_unEE_Q (Z : State) (a1 : Addr) (va : Addr) (kv : ClassId) (v0 : Int32) (v1 : Int32) (zc : Int32) (vS : Value) (h0 : Heap) (n0 : Nat) (v : Option Value) (h : Heap) (L : List Loc) : Prop := ∃ b kb, v = some (.ref b) ∧ Fr n0 L ∧ Keep h0 h [] ∧ h0.size ≤ b ∧ Arv Z h b kb .byte (2 : Int32) [(.int (own_sb v0)), (.int (own_sb v1))] (.int 0) ∧ Exa Z h b "[B"
set_option maxRecDepth 65536 in
set_option maxHeartbeats 40000000 in
theorem own_unEE (l : Launch) (Z : State) (a0 : Array Value) (hw : ∀ d ∈ tables_1, d.before a0 Z = true) (ws : List Jvm.Cond) (a1 : Addr) (va : Addr) (kv : ClassId) (v0 : Int32) (v1 : Int32) (zc : Int32) (vS : Value) (h0 : Heap) (n0 : Nat) (O : Old Z n0 h0) (E_a1 : Exa Z h0 a1 "java/lang/String") (F_value_a1 : Fld Z h0 a1 "java/lang/String" "value" "[B" (.ref va)) (F_coder_a1 : Fld Z h0 a1 "java/lang/String" "coder" "B" (.int 0)) (V_va : Arv Z h0 va kv .byte (8 : Int32) [(.int (own_b8 (92 : Int32))), (.int (own_b8 (120 : Int32))), (.int (own_b8 (own_hx (v0 / (16 : Int32))))), (.int (own_b8 (own_hx (v0 % (16 : Int32))))), (.int (own_b8 (92 : Int32))), (.int (own_b8 (120 : Int32))), (.int (own_b8 (own_hx (v1 / (16 : Int32))))), (.int (own_b8 (own_hx (v1 % (16 : Int32)))))] (.int 0)) (bd0 : 0 ≤ v0.toInt ∧ v0.toInt < 256) (bd1 : 0 ≤ v1.toInt ∧ v1.toInt < 256) (S_C : Sta Z Z.heap "java/lang/String" "COMPACT_STRINGS" "Z" (.int zc)) (hzc : ¬ zc = 0) (S_S : Sta Z Z.heap "jdk/internal/util/Preconditions" "SIOOBE_FORMATTER" "Ljava/util/function/BiFunction;" vS) (hvS : vS.isRef = true) :
    MetFree l (⟨"com/example/rows_to_regions/rowstoregions/KeyText", "unescape", "(Ljava/lang/String;)[B"⟩ : MethodName) (head1 (Jvm.Cond.code (⟨"com/example/rows_to_regions/rowstoregions/KeyText", "unescape", "(Ljava/lang/String;)[B"⟩ : MethodName) prog_10_method_3_code 6 (some (.array .byte)) :: ws) ({ frames := 5, cells := 2, slots := 20, locals := 68 } : Room)) (fun a U => a = #[(.ref a1)] ∧ Z.Warmed39 U.vm ∧ U.heap = h0) (fun _ _ _ _ _ => True) (fun _ U o U' => ∃ v L, o = .returned v ∧ own_unEE_Q Z a1 va kv v0 v1 zc vS h0 n0 v U'.heap L ∧ FrameEnd U o U' L ({ frames := 5, cells := 2, slots := 20, locals := 68 } : Room).cells ({ frames := 5, cells := 2, slots := 20, locals := 68 } : Room).slots) := by
  refine MetFree.of_bodySF own_unEE_pn hisR ?_
  intro p e s m args below meth c s₁ Bd hml0 hP hK
  obtain ⟨rfl, hZ, hh⟩ := hP
  have hx := Bd.exec
  have hby := Bd.bytes
  have hlk := Bd.notSynchronized
  have hml : c.maxLocals = 6 := hml0
  have hown : s.vm.findClass "com/example/rows_to_regions/rowstoregions/KeyText" = some m.cls := findClass_of_methodNamed Bd.named
  have hnm := (name_of_methodNamed Bd.named Bd.method).1
  have X : Stand p l e ({ frames := 5, cells := 2, slots := 20, locals := 68 } : Room) s m #[(.ref a1)] below meth c s₁ [] 0 0 := Stand.of_body Bd
  have eT : s₁.heap = h0 := by rw [← hh, Bd.state]; rfl
  have N := Fr.nil n0
  have K0 := Keep.refl h0 []
  show own_Ends p e below (own_Post s below (own_unEE_Q Z a1 va kv v0 v1 zc vS h0 n0) ({ frames := 5, cells := 2, slots := 20, locals := 68 } : Room).cells ({ frames := 5, cells := 2, slots := 20, locals := 68 } : Room).slots) s₁ (entryFrame m #[(.ref a1)] 6)
  rw [own_unEE_ef m a1]
  obtain ⟨T, hT⟩ : ∃ z, z = s₁ := ⟨_, rfl⟩
  rw [← hT] at X eT ⊢
  obtain ⟨h, hh0⟩ : ∃ z, z = h0 := ⟨_, rfl⟩
  rw [← hh0] at eT
  replace O : Old Z n0 h := by rw [hh0]; exact O
  replace K0 : Keep h0 h [] := by rw [hh0]; exact K0
  rw [← hh0] at E_a1
  rw [← hh0] at F_value_a1
  rw [← hh0] at F_coder_a1
  rw [← hh0] at V_va
  refine own_via (g' := (mkF m 1 (own_A19 a1) [(.ref a1)])) (fun t_ k_ => XS.aloadN X.here hx rfl (hb hby ep10m3_d0) rfl rfl k_) ?_
  obtain ⟨cq, kq, qa, qb, qc⟩ := isOf hZ eT E_a1
  obtain ⟨_, _, ⟨T, Lq, kq, nq⟩, -, X, ⟨Lc, hQ, lq, yq, zq⟩, st⟩ := X.virtualBack hx (y := own_y6) (z := own_y6) hown (mvT hZ (hw _ (own_w 33 rfl))) (mvT hZ (hw _ (own_w 34 rfl))) (notFace_of_selects (args := #[]) (mvT hZ (hw _ (own_w 36 rfl)))) (mvT hZ (hw _ (own_w 36 rfl))) (mvT hZ (hw _ (own_w 35 rfl))) (by decide) (backOf (W := 0) (own_strlen l Z a0 hw [] a1 va kv (8 : Int32) [(.int (own_b8 (92 : Int32))), (.int (own_b8 (120 : Int32))), (.int (own_b8 (own_hx (v0 / (16 : Int32))))), (.int (own_b8 (own_hx (v0 % (16 : Int32))))), (.int (own_b8 (92 : Int32))), (.int (own_b8 (120 : Int32))), (.int (own_b8 (own_hx (v1 / (16 : Int32))))), (.int (own_b8 (own_hx (v1 % (16 : Int32)))))] zc h n0 O E_a1 F_value_a1 F_coder_a1 V_va S_C hzc) hZ (hw _ (own_w 37 rfl)) (hw _ (own_w 10 rfl)) (by decide) (by decide)) qa qc (g := (mkF m 1 (own_A19 a1) [(.ref a1)])) rfl (by rw [hml]; rfl) (Steps.refl _) (argsL := []) (rest := []) (lenOf own_pd6 rfl) rfl (by show 2 * 0 + _ ≤ _; exact Nat.le_of_eq rfl) (hb hby ep10m3_d1) (fun _ _ => ⟨rfl, eT, (by decide : 0 + 0 ≤ _), (by decide : 0 + 0 ≤ _)⟩)
  dsimp only [Pt.U, Pt.locs, Pt.cells, Pt.slots] at X lq yq zq st hQ
  subst lq yq zq
  obtain ⟨rfl, Nq, eT⟩ := hQ
  replace N := Fr.app N Nq
  refine own_viaT (g' := (mkF m 4 (own_A19 a1) [(.int 8)])) st ?_
  obtain ⟨b1, gb⟩ : ∃ z, z = h.size := ⟨_, rfl⟩
  obtain ⟨T, h2, kb1, X, eT, E, A_, E_b1, st⟩ := newPE X hx hZ (hw _ (own_w 22 rfl)) eT (g := (mkF m 4 (own_A19 a1) [(.int 8)])) rfl (hb hby ep10m3_d4) rfl (by decide) (cap := 8) (by decide) (by decide) (by decide) (by decide) (ad := "[B") (by decide)
  rw [← gb] at A_ E_b1 st
  have ne_a1_b1 : a1 ≠ b1 := Nat.ne_of_lt (Nat.lt_of_lt_of_le E_a1.lt (Nat.le_of_eq gb.symm))
  have ne_va_b1 : va ≠ b1 := Nat.ne_of_lt (Nat.lt_of_lt_of_le V_va.lt (Nat.le_of_eq gb.symm))
  have g_b1 : n0 ≤ b1 := Nat.le_trans (own_le O) (Nat.le_of_eq gb.symm)
  have sz_b1 : h0.size ≤ b1 := Nat.le_trans K0.1 (Nat.le_of_eq gb.symm)
  replace E_a1 := E_a1.ext E
  replace F_value_a1 := F_value_a1.ext E
  replace F_coder_a1 := F_coder_a1.ext E
  replace V_va := V_va.ext E
  replace O := O.ext E
  replace K0 := K0.ext E
  have V_b1 : Arv Z h2 b1 kb1 .byte (8 : Int32) [(.int 0), (.int 0), (.int 0), (.int 0), (.int 0), (.int 0), (.int 0), (.int 0)] (.int 0) := (Arv.new A_ (by decide)).pad (pad_rep [] (.int 0) 8)
  refine own_via (g' := (mkF m 6 (own_A19 a1) [(.ref b1)])) st ?_
  refine own_via (g' := (mkF m 13 (own_A15 a1 b1 0 0) [(.ref a1), (.int 0)])) (fun t_ k_ => XS.astoreN X.here hx rfl (hb hby ep10m3_d6) rfl rfl (l' := (own_A18 a1 b1)) rfl (XS.iconst X.here hx rfl (hb hby ep10m3_d7) (XS.istoreN X.here hx rfl (hb hby ep10m3_d8) rfl (l' := (own_A17 a1 b1 0)) rfl (XS.iconst X.here hx rfl (hb hby ep10m3_d9) (XS.istoreN X.here hx rfl (hb hby ep10m3_d10) rfl (l' := (own_A15 a1 b1 0 0)) rfl (XS.iloadN X.here hx rfl (hb hby ep10m3_d11) rfl (XS.aloadN X.here hx rfl (hb hby ep10m3_d12) rfl rfl k_))))))) ?_
  obtain ⟨cq, kq, qa, qb, qc⟩ := isOf hZ eT E_a1
  obtain ⟨_, _, ⟨T, Lq, kq, nq⟩, -, X, ⟨Lc, hQ, lq, yq, zq⟩, st⟩ := X.virtualBack hx (y := own_y6) (z := own_y6) hown (mvT hZ (hw _ (own_w 33 rfl))) (mvT hZ (hw _ (own_w 34 rfl))) (notFace_of_selects (args := #[]) (mvT hZ (hw _ (own_w 36 rfl)))) (mvT hZ (hw _ (own_w 36 rfl))) (mvT hZ (hw _ (own_w 35 rfl))) (by decide) (backOf (W := 1) (own_strlen l Z a0 hw [] a1 va kv (8 : Int32) [(.int (own_b8 (92 : Int32))), (.int (own_b8 (120 : Int32))), (.int (own_b8 (own_hx (v0 / (16 : Int32))))), (.int (own_b8 (own_hx (v0 % (16 : Int32))))), (.int (own_b8 (92 : Int32))), (.int (own_b8 (120 : Int32))), (.int (own_b8 (own_hx (v1 / (16 : Int32))))), (.int (own_b8 (own_hx (v1 % (16 : Int32)))))] zc h2 n0 O E_a1 F_value_a1 F_coder_a1 V_va S_C hzc) hZ (hw _ (own_w 37 rfl)) (hw _ (own_w 10 rfl)) (by decide) (by decide)) qa qc (g := (mkF m 13 (own_A15 a1 b1 0 0) [(.ref a1), (.int 0)])) rfl (by rw [hml]; rfl) (Steps.refl _) (argsL := []) (rest := [(.int 0)]) (lenOf own_pd6 rfl) rfl (by show 2 * 0 + _ ≤ _; exact Nat.le_of_eq rfl) (hb hby ep10m3_d13) (fun _ _ => ⟨rfl, eT, (by decide : 1 + 0 ≤ _), (by decide : 8 + 0 ≤ _)⟩)
  dsimp only [Pt.U, Pt.locs, Pt.cells, Pt.slots] at X lq yq zq st hQ
  subst lq yq zq
  obtain ⟨rfl, Nq, eT⟩ := hQ
  replace N := Fr.app N Nq
  refine own_viaT (g' := (mkF m 16 (own_A15 a1 b1 0 0) [(.int 8), (.int 0)])) st ?_
  refine own_via (g' := (mkF m 21 (own_A15 a1 b1 0 0) [(.int 0), (.ref a1)])) (fun t_ k_ => XS.icmpNo X.here hx rfl (hb hby ep10m3_d16) rfl (tlt (by decide : (0 : Int32) < (8 : Int32))).2.1 (XS.aloadN X.here hx rfl (hb hby ep10m3_d19) rfl rfl (XS.iloadN X.here hx rfl (hb hby ep10m3_d20) rfl k_))) ?_
  obtain ⟨cq, kq, qa, qb, qc⟩ := isOf hZ eT E_a1
  obtain ⟨_, _, ⟨T, Lq, kq, nq⟩, -, X, ⟨Lc, hQ, lq, yq, zq⟩, st⟩ := X.virtualBack hx (y := own_y7) (z := own_y7) hown (mvT hZ (hw _ (own_w 74 rfl))) (mvT hZ (hw _ (own_w 75 rfl))) (notFace_of_selects (args := #[]) (mvT hZ (hw _ (own_w 77 rfl)))) (mvT hZ (hw _ (own_w 77 rfl))) (mvT hZ (hw _ (own_w 76 rfl))) (by decide) (backOf (W := 0) (own_charAt l Z a0 hw [] a1 (0 : Int32) va kv (8 : Int32) [(.int (own_b8 (92 : Int32))), (.int (own_b8 (120 : Int32))), (.int (own_b8 (own_hx (v0 / (16 : Int32))))), (.int (own_b8 (own_hx (v0 % (16 : Int32))))), (.int (own_b8 (92 : Int32))), (.int (own_b8 (120 : Int32))), (.int (own_b8 (own_hx (v1 / (16 : Int32))))), (.int (own_b8 (own_hx (v1 % (16 : Int32)))))] (own_b8 (92 : Int32)) zc vS h2 n0 O E_a1 F_value_a1 F_coder_a1 V_va S_C hzc (by decide) rfl S_S hvS) hZ (hw _ (own_w 78 rfl)) (hw _ (own_w 10 rfl)) (by decide) (by decide)) qa qc (g := (mkF m 21 (own_A15 a1 b1 0 0) [(.int 0), (.ref a1)])) rfl (by rw [hml]; rfl) (Steps.refl _) (argsL := [(.int 0)]) (rest := []) (lenOf own_pd7 rfl) rfl (by show 2 * 0 + _ ≤ _; exact Nat.le_of_eq rfl) (hb hby ep10m3_d21) (fun _ _ => ⟨rfl, eT, (by decide : 1 + 0 ≤ _), (by decide : 8 + 0 ≤ _)⟩)
  dsimp only [Pt.U, Pt.locs, Pt.cells, Pt.slots] at X lq yq zq st hQ
  subst lq yq zq
  obtain ⟨rfl, Nq, eT⟩ := hQ
  replace N := Fr.app N Nq
  refine own_viaT (g' := (mkF m 24 (own_A15 a1 b1 0 0) [(.int ((own_b8 (92 : Int32)) &&& (255 : Int32)))])) st ?_
  rw [(by decide : ((own_b8 (92 : Int32)) &&& (255 : Int32)) = (92 : Int32))]
  refine own_via (g' := (mkF m 35 (own_A10 a1 b1 0 0 92) [(.int 0), (.ref a1)])) (fun t_ k_ => XS.istore X.here hx rfl (hb hby ep10m3_d24) rfl (l' := (own_A10 a1 b1 0 0 92)) rfl (XS.iload X.here hx rfl (hb hby ep10m3_d26) rfl (XS.bipush X.here hx rfl (hb hby ep10m3_d28) (XS.icmpNo X.here hx rfl (hb hby ep10m3_d30) rfl (teq (by decide : (92 : Int32) = (92 : Int32))).2 (XS.aloadN X.here hx rfl (hb hby ep10m3_d33) rfl rfl (XS.iloadN X.here hx rfl (hb hby ep10m3_d34) rfl k_)))))) ?_
  obtain ⟨_, _, ⟨T, Lq, kq, nq⟩, -, X, ⟨Lc, hQ, lq, yq, zq⟩, st⟩ := Jvm.LawKit.callS X hx (y := own_y10) hown (mvT hZ (hw _ (own_w 96 rfl))) (mvT hZ (hw _ (own_w 97 rfl))) (mvT hZ (hw _ (own_w 31 rfl))) (mvT hZ (hw _ (own_w 98 rfl))) (by decide) (backOf (W := 0) (own_escByte l Z a0 hw [] a1 va kv (8 : Int32) [(.int (own_b8 (92 : Int32))), (.int (own_b8 (120 : Int32))), (.int (own_b8 (own_hx (v0 / (16 : Int32))))), (.int (own_b8 (own_hx (v0 % (16 : Int32))))), (.int (own_b8 (92 : Int32))), (.int (own_b8 (120 : Int32))), (.int (own_b8 (own_hx (v1 / (16 : Int32))))), (.int (own_b8 (own_hx (v1 % (16 : Int32)))))] (0 : Int32) v0 (own_b8 (120 : Int32)) (own_b8 (own_hx (v0 / (16 : Int32)))) (own_b8 (own_hx (v0 % (16 : Int32)))) zc vS h2 n0 O E_a1 F_value_a1 F_coder_a1 V_va (by decide) rfl (by decide) (by decide) rfl (own_b255 (own_hxB (own_hi bd0.1 bd0.2).2.1 (own_hi bd0.1 bd0.2).2.2).1 (own_hxB (own_hi bd0.1 bd0.2).2.1 (own_hi bd0.1 bd0.2).2.2).2) (by decide) rfl (own_b255 (own_hxB (own_lo bd0.1 bd0.2).2.1 (own_lo bd0.1 bd0.2).2.2).1 (own_hxB (own_lo bd0.1 bd0.2).2.1 (own_lo bd0.1 bd0.2).2.2).2) bd0 S_C hzc S_S hvS) hZ (hw _ (own_w 98 rfl)) (hw _ (own_w 31 rfl)) (by decide) (by decide)) (g := (mkF m 35 (own_A10 a1 b1 0 0 92) [(.int 0), (.ref a1)])) rfl (by rw [hml]; rfl) (argsL := [(.ref a1), (.int 0)]) (rest := []) (lenOf own_pd10 rfl) rfl (by show 2 * 0 + _ ≤ _; exact Nat.le_of_eq rfl) (hb hby ep10m3_d35) (fun _ _ => ⟨rfl, eT, (by decide : 1 + 0 ≤ _), (by decide : 8 + 0 ≤ _)⟩)
  dsimp only [Pt.U, Pt.locs, Pt.cells, Pt.slots] at X lq yq zq st hQ
  subst lq yq zq
  obtain ⟨rfl, Nq, eT⟩ := hQ
  replace N := Fr.app N Nq
  refine own_via (g' := (mkF m 38 (own_A10 a1 b1 0 0 92) [(.int v0)])) st ?_
  refine own_via (g' := (mkF m 69 (own_A8 a1 b1 ((0 : Int32) + (1 : Int32)) 0 92 v0) [(.int (v0.toInt8.toInt32)), (.int 0), (.ref b1)])) (fun t_ k_ => XS.istore X.here hx rfl (hb hby ep10m3_d38) rfl (l' := (own_A8 a1 b1 0 0 92 v0)) rfl (XS.iload X.here hx rfl (hb hby ep10m3_d40) rfl (XS.ifYes X.here hx rfl (pc0 := 42) (pc' := 61) rfl (hb hby ep10m3_d42) rfl ((if0 _ _).trans (flt (own_nn bd0.1)).2.1) (by decide) (by decide) (XS.aloadN X.here hx rfl (hb hby ep10m3_d61) rfl rfl (XS.iloadN X.here hx rfl (hb hby ep10m3_d62) rfl (XS.iinc X.here hx rfl (hb hby ep10m3_d63) rfl (l' := (own_A8 a1 b1 ((0 : Int32) + (1 : Int32)) 0 92 v0)) rfl (XS.iload X.here hx rfl (hb hby ep10m3_d66) rfl (XS.i2b X.here hx rfl (hb hby ep10m3_d68) rfl k_)))))))) ?_
  obtain ⟨cl_, Ar_, qk_, Sz_, Nn_, Hs_, Gs_⟩ := id V_b1
  have hin_ : ¬ ((0 : Int32) < 0 ∨ cl_.slots.size ≤ ((0 : Int32)).toNatClampNeg) := inb_of Sz_ ⟨by decide, by decide⟩
  obtain ⟨T, h3, X, eT, W, st⟩ := stB X hx hZ eT Ar_ (j := (0 : Int32)) hin_ (g := (mkF m 69 (own_A8 a1 b1 ((0 : Int32) + (1 : Int32)) 0 92 v0) [(.int (v0.toInt8.toInt32)), (.int 0), (.ref b1)])) rfl rfl (hb hby ep10m3_d69)
  replace V_b1 : Arv Z h3 b1 kb1 .byte (8 : Int32) [(.int (((v0.toInt8.toInt32)).toInt8.toInt32)), (.int 0), (.int 0), (.int 0), (.int 0), (.int 0), (.int 0), (.int 0)] (.int 0) := Arv.set Ar_ qk_ Sz_ Nn_ Hs_ Gs_ (fits_nar_byte _) W 0 (by decide) (Nat.le_of_ble_eq_true rfl)
  replace E_a1 := E_a1.wr W
  replace F_value_a1 := F_value_a1.other W (Or.inl ne_a1_b1)
  replace F_coder_a1 := F_coder_a1.other W (Or.inl ne_a1_b1)
  replace V_va := V_va.other W ne_va_b1
  replace E_b1 := E_b1.wr W
  replace O := O.wr W g_b1
  replace K0 := K0.wr W (Or.inr sz_b1)
  replace N := Fr.snoc X N g_b1
  refine own_via (g' := (mkF m 70 (own_A8 a1 b1 ((0 : Int32) + (1 : Int32)) 0 92 v0) [])) st ?_
  refine own_via (g' := (mkF m 11 (own_A8 a1 b1 ((0 : Int32) + (1 : Int32)) (((0 : Int32) + (3 : Int32)) + (1 : Int32)) 92 v0) [])) (fun t_ k_ => XS.iinc X.here hx rfl (hb hby ep10m3_d70) rfl (l' := (own_A8 a1 b1 ((0 : Int32) + (1 : Int32)) ((0 : Int32) + (3 : Int32)) 92 v0)) rfl (XS.goto X.here hx rfl (pc0 := 73) (pc' := 136) rfl (hb hby ep10m3_d73) (by decide) (by decide) (XS.iinc X.here hx rfl (hb hby ep10m3_d136) rfl (l' := (own_A8 a1 b1 ((0 : Int32) + (1 : Int32)) (((0 : Int32) + (3 : Int32)) + (1 : Int32)) 92 v0)) rfl (XS.goto X.here hx rfl (pc0 := 139) (pc' := 11) rfl (hb hby ep10m3_d139) (by decide) (by decide) k_)))) ?_
  rw [(by decide : ((0 : Int32) + (1 : Int32)) = (1 : Int32))]
  rw [(by decide : (((0 : Int32) + (3 : Int32)) + (1 : Int32)) = (4 : Int32))]
  refine own_via (g' := (mkF m 13 (own_A8 a1 b1 1 4 92 v0) [(.ref a1), (.int 4)])) (fun t_ k_ => XS.iloadN X.here hx rfl (hb hby ep10m3_d11) rfl (XS.aloadN X.here hx rfl (hb hby ep10m3_d12) rfl rfl k_)) ?_
  obtain ⟨cq, kq, qa, qb, qc⟩ := isOf hZ eT E_a1
  obtain ⟨_, _, ⟨T, Lq, kq, nq⟩, -, X, ⟨Lc, hQ, lq, yq, zq⟩, st⟩ := X.virtualBack hx (y := own_y6) (z := own_y6) hown (mvT hZ (hw _ (own_w 33 rfl))) (mvT hZ (hw _ (own_w 34 rfl))) (notFace_of_selects (args := #[]) (mvT hZ (hw _ (own_w 36 rfl)))) (mvT hZ (hw _ (own_w 36 rfl))) (mvT hZ (hw _ (own_w 35 rfl))) (by decide) (backOf (W := 1) (own_strlen l Z a0 hw [] a1 va kv (8 : Int32) [(.int (own_b8 (92 : Int32))), (.int (own_b8 (120 : Int32))), (.int (own_b8 (own_hx (v0 / (16 : Int32))))), (.int (own_b8 (own_hx (v0 % (16 : Int32))))), (.int (own_b8 (92 : Int32))), (.int (own_b8 (120 : Int32))), (.int (own_b8 (own_hx (v1 / (16 : Int32))))), (.int (own_b8 (own_hx (v1 % (16 : Int32)))))] zc h3 n0 O E_a1 F_value_a1 F_coder_a1 V_va S_C hzc) hZ (hw _ (own_w 37 rfl)) (hw _ (own_w 10 rfl)) (by decide) (by decide)) qa qc (g := (mkF m 13 (own_A8 a1 b1 1 4 92 v0) [(.ref a1), (.int 4)])) rfl (by rw [hml]; rfl) (Steps.refl _) (argsL := []) (rest := [(.int 4)]) (lenOf own_pd6 rfl) rfl (by show 2 * 0 + _ ≤ _; exact Nat.le_of_eq rfl) (hb hby ep10m3_d13) (fun _ _ => ⟨rfl, eT, (by decide : 1 + 0 ≤ _), (by decide : 8 + 0 ≤ _)⟩)
  dsimp only [Pt.U, Pt.locs, Pt.cells, Pt.slots] at X lq yq zq st hQ
  subst lq yq zq
  obtain ⟨rfl, Nq, eT⟩ := hQ
  replace N := Fr.app N Nq
  refine own_viaT (g' := (mkF m 16 (own_A8 a1 b1 1 4 92 v0) [(.int 8), (.int 4)])) st ?_
  refine own_via (g' := (mkF m 21 (own_A8 a1 b1 1 4 92 v0) [(.int 4), (.ref a1)])) (fun t_ k_ => XS.icmpNo X.here hx rfl (hb hby ep10m3_d16) rfl (tlt (by decide : (4 : Int32) < (8 : Int32))).2.1 (XS.aloadN X.here hx rfl (hb hby ep10m3_d19) rfl rfl (XS.iloadN X.here hx rfl (hb hby ep10m3_d20) rfl k_))) ?_
  obtain ⟨cq, kq, qa, qb, qc⟩ := isOf hZ eT E_a1
  obtain ⟨_, _, ⟨T, Lq, kq, nq⟩, -, X, ⟨Lc, hQ, lq, yq, zq⟩, st⟩ := X.virtualBack hx (y := own_y7) (z := own_y7) hown (mvT hZ (hw _ (own_w 74 rfl))) (mvT hZ (hw _ (own_w 75 rfl))) (notFace_of_selects (args := #[]) (mvT hZ (hw _ (own_w 77 rfl)))) (mvT hZ (hw _ (own_w 77 rfl))) (mvT hZ (hw _ (own_w 76 rfl))) (by decide) (backOf (W := 0) (own_charAt l Z a0 hw [] a1 (4 : Int32) va kv (8 : Int32) [(.int (own_b8 (92 : Int32))), (.int (own_b8 (120 : Int32))), (.int (own_b8 (own_hx (v0 / (16 : Int32))))), (.int (own_b8 (own_hx (v0 % (16 : Int32))))), (.int (own_b8 (92 : Int32))), (.int (own_b8 (120 : Int32))), (.int (own_b8 (own_hx (v1 / (16 : Int32))))), (.int (own_b8 (own_hx (v1 % (16 : Int32)))))] (own_b8 (92 : Int32)) zc vS h3 n0 O E_a1 F_value_a1 F_coder_a1 V_va S_C hzc (by decide) rfl S_S hvS) hZ (hw _ (own_w 78 rfl)) (hw _ (own_w 10 rfl)) (by decide) (by decide)) qa qc (g := (mkF m 21 (own_A8 a1 b1 1 4 92 v0) [(.int 4), (.ref a1)])) rfl (by rw [hml]; rfl) (Steps.refl _) (argsL := [(.int 4)]) (rest := []) (lenOf own_pd7 rfl) rfl (by show 2 * 0 + _ ≤ _; exact Nat.le_of_eq rfl) (hb hby ep10m3_d21) (fun _ _ => ⟨rfl, eT, (by decide : 1 + 0 ≤ _), (by decide : 8 + 0 ≤ _)⟩)
  dsimp only [Pt.U, Pt.locs, Pt.cells, Pt.slots] at X lq yq zq st hQ
  subst lq yq zq
  obtain ⟨rfl, Nq, eT⟩ := hQ
  replace N := Fr.app N Nq
  refine own_viaT (g' := (mkF m 24 (own_A8 a1 b1 1 4 92 v0) [(.int ((own_b8 (92 : Int32)) &&& (255 : Int32)))])) st ?_
  rw [(by decide : ((own_b8 (92 : Int32)) &&& (255 : Int32)) = (92 : Int32))]
  refine own_via (g' := (mkF m 35 (own_A8 a1 b1 1 4 92 v0) [(.int 4), (.ref a1)])) (fun t_ k_ => XS.istore X.here hx rfl (hb hby ep10m3_d24) rfl (l' := (own_A8 a1 b1 1 4 92 v0)) rfl (XS.iload X.here hx rfl (hb hby ep10m3_d26) rfl (XS.bipush X.here hx rfl (hb hby ep10m3_d28) (XS.icmpNo X.here hx rfl (hb hby ep10m3_d30) rfl (teq (by decide : (92 : Int32) = (92 : Int32))).2 (XS.aloadN X.here hx rfl (hb hby ep10m3_d33) rfl rfl (XS.iloadN X.here hx rfl (hb hby ep10m3_d34) rfl k_)))))) ?_
  obtain ⟨_, _, ⟨T, Lq, kq, nq⟩, -, X, ⟨Lc, hQ, lq, yq, zq⟩, st⟩ := Jvm.LawKit.callS X hx (y := own_y10) hown (mvT hZ (hw _ (own_w 96 rfl))) (mvT hZ (hw _ (own_w 97 rfl))) (mvT hZ (hw _ (own_w 31 rfl))) (mvT hZ (hw _ (own_w 98 rfl))) (by decide) (backOf (W := 0) (own_escByte l Z a0 hw [] a1 va kv (8 : Int32) [(.int (own_b8 (92 : Int32))), (.int (own_b8 (120 : Int32))), (.int (own_b8 (own_hx (v0 / (16 : Int32))))), (.int (own_b8 (own_hx (v0 % (16 : Int32))))), (.int (own_b8 (92 : Int32))), (.int (own_b8 (120 : Int32))), (.int (own_b8 (own_hx (v1 / (16 : Int32))))), (.int (own_b8 (own_hx (v1 % (16 : Int32)))))] (4 : Int32) v1 (own_b8 (120 : Int32)) (own_b8 (own_hx (v1 / (16 : Int32)))) (own_b8 (own_hx (v1 % (16 : Int32)))) zc vS h3 n0 O E_a1 F_value_a1 F_coder_a1 V_va (by decide) rfl (by decide) (by decide) rfl (own_b255 (own_hxB (own_hi bd1.1 bd1.2).2.1 (own_hi bd1.1 bd1.2).2.2).1 (own_hxB (own_hi bd1.1 bd1.2).2.1 (own_hi bd1.1 bd1.2).2.2).2) (by decide) rfl (own_b255 (own_hxB (own_lo bd1.1 bd1.2).2.1 (own_lo bd1.1 bd1.2).2.2).1 (own_hxB (own_lo bd1.1 bd1.2).2.1 (own_lo bd1.1 bd1.2).2.2).2) bd1 S_C hzc S_S hvS) hZ (hw _ (own_w 98 rfl)) (hw _ (own_w 31 rfl)) (by decide) (by decide)) (g := (mkF m 35 (own_A8 a1 b1 1 4 92 v0) [(.int 4), (.ref a1)])) rfl (by rw [hml]; rfl) (argsL := [(.ref a1), (.int 4)]) (rest := []) (lenOf own_pd10 rfl) rfl (by show 2 * 0 + _ ≤ _; exact Nat.le_of_eq rfl) (hb hby ep10m3_d35) (fun _ _ => ⟨rfl, eT, (by decide : 1 + 0 ≤ _), (by decide : 8 + 0 ≤ _)⟩)
  dsimp only [Pt.U, Pt.locs, Pt.cells, Pt.slots] at X lq yq zq st hQ
  subst lq yq zq
  obtain ⟨rfl, Nq, eT⟩ := hQ
  replace N := Fr.app N Nq
  refine own_via (g' := (mkF m 38 (own_A8 a1 b1 1 4 92 v0) [(.int v1)])) st ?_
  refine own_via (g' := (mkF m 69 (own_A8 a1 b1 ((1 : Int32) + (1 : Int32)) 4 92 v1) [(.int (v1.toInt8.toInt32)), (.int 1), (.ref b1)])) (fun t_ k_ => XS.istore X.here hx rfl (hb hby ep10m3_d38) rfl (l' := (own_A8 a1 b1 1 4 92 v1)) rfl (XS.iload X.here hx rfl (hb hby ep10m3_d40) rfl (XS.ifYes X.here hx rfl (pc0 := 42) (pc' := 61) rfl (hb hby ep10m3_d42) rfl ((if0 _ _).trans (flt (own_nn bd1.1)).2.1) (by decide) (by decide) (XS.aloadN X.here hx rfl (hb hby ep10m3_d61) rfl rfl (XS.iloadN X.here hx rfl (hb hby ep10m3_d62) rfl (XS.iinc X.here hx rfl (hb hby ep10m3_d63) rfl (l' := (own_A8 a1 b1 ((1 : Int32) + (1 : Int32)) 4 92 v1)) rfl (XS.iload X.here hx rfl (hb hby ep10m3_d66) rfl (XS.i2b X.here hx rfl (hb hby ep10m3_d68) rfl k_)))))))) ?_
  obtain ⟨cl_, Ar_, qk_, Sz_, Nn_, Hs_, Gs_⟩ := id V_b1
  have hin_ : ¬ ((1 : Int32) < 0 ∨ cl_.slots.size ≤ ((1 : Int32)).toNatClampNeg) := inb_of Sz_ ⟨by decide, by decide⟩
  obtain ⟨T, h4, X, eT, W, st⟩ := stB X hx hZ eT Ar_ (j := (1 : Int32)) hin_ (g := (mkF m 69 (own_A8 a1 b1 ((1 : Int32) + (1 : Int32)) 4 92 v1) [(.int (v1.toInt8.toInt32)), (.int 1), (.ref b1)])) rfl rfl (hb hby ep10m3_d69)
  replace V_b1 : Arv Z h4 b1 kb1 .byte (8 : Int32) [(.int (((v0.toInt8.toInt32)).toInt8.toInt32)), (.int (((v1.toInt8.toInt32)).toInt8.toInt32)), (.int 0), (.int 0), (.int 0), (.int 0), (.int 0), (.int 0)] (.int 0) := Arv.set Ar_ qk_ Sz_ Nn_ Hs_ Gs_ (fits_nar_byte _) W 1 (by decide) (Nat.le_of_ble_eq_true rfl)
  replace E_a1 := E_a1.wr W
  replace F_value_a1 := F_value_a1.other W (Or.inl ne_a1_b1)
  replace F_coder_a1 := F_coder_a1.other W (Or.inl ne_a1_b1)
  replace V_va := V_va.other W ne_va_b1
  replace E_b1 := E_b1.wr W
  replace O := O.wr W g_b1
  replace K0 := K0.wr W (Or.inr sz_b1)
  replace N := Fr.snoc X N g_b1
  refine own_via (g' := (mkF m 70 (own_A8 a1 b1 ((1 : Int32) + (1 : Int32)) 4 92 v1) [])) st ?_
  refine own_via (g' := (mkF m 11 (own_A8 a1 b1 ((1 : Int32) + (1 : Int32)) (((4 : Int32) + (3 : Int32)) + (1 : Int32)) 92 v1) [])) (fun t_ k_ => XS.iinc X.here hx rfl (hb hby ep10m3_d70) rfl (l' := (own_A8 a1 b1 ((1 : Int32) + (1 : Int32)) ((4 : Int32) + (3 : Int32)) 92 v1)) rfl (XS.goto X.here hx rfl (pc0 := 73) (pc' := 136) rfl (hb hby ep10m3_d73) (by decide) (by decide) (XS.iinc X.here hx rfl (hb hby ep10m3_d136) rfl (l' := (own_A8 a1 b1 ((1 : Int32) + (1 : Int32)) (((4 : Int32) + (3 : Int32)) + (1 : Int32)) 92 v1)) rfl (XS.goto X.here hx rfl (pc0 := 139) (pc' := 11) rfl (hb hby ep10m3_d139) (by decide) (by decide) k_)))) ?_
  rw [(by decide : ((1 : Int32) + (1 : Int32)) = (2 : Int32))]
  rw [(by decide : (((4 : Int32) + (3 : Int32)) + (1 : Int32)) = (8 : Int32))]
  refine own_via (g' := (mkF m 13 (own_A8 a1 b1 2 8 92 v1) [(.ref a1), (.int 8)])) (fun t_ k_ => XS.iloadN X.here hx rfl (hb hby ep10m3_d11) rfl (XS.aloadN X.here hx rfl (hb hby ep10m3_d12) rfl rfl k_)) ?_
  obtain ⟨cq, kq, qa, qb, qc⟩ := isOf hZ eT E_a1
  obtain ⟨_, _, ⟨T, Lq, kq, nq⟩, -, X, ⟨Lc, hQ, lq, yq, zq⟩, st⟩ := X.virtualBack hx (y := own_y6) (z := own_y6) hown (mvT hZ (hw _ (own_w 33 rfl))) (mvT hZ (hw _ (own_w 34 rfl))) (notFace_of_selects (args := #[]) (mvT hZ (hw _ (own_w 36 rfl)))) (mvT hZ (hw _ (own_w 36 rfl))) (mvT hZ (hw _ (own_w 35 rfl))) (by decide) (backOf (W := 1) (own_strlen l Z a0 hw [] a1 va kv (8 : Int32) [(.int (own_b8 (92 : Int32))), (.int (own_b8 (120 : Int32))), (.int (own_b8 (own_hx (v0 / (16 : Int32))))), (.int (own_b8 (own_hx (v0 % (16 : Int32))))), (.int (own_b8 (92 : Int32))), (.int (own_b8 (120 : Int32))), (.int (own_b8 (own_hx (v1 / (16 : Int32))))), (.int (own_b8 (own_hx (v1 % (16 : Int32)))))] zc h4 n0 O E_a1 F_value_a1 F_coder_a1 V_va S_C hzc) hZ (hw _ (own_w 37 rfl)) (hw _ (own_w 10 rfl)) (by decide) (by decide)) qa qc (g := (mkF m 13 (own_A8 a1 b1 2 8 92 v1) [(.ref a1), (.int 8)])) rfl (by rw [hml]; rfl) (Steps.refl _) (argsL := []) (rest := [(.int 8)]) (lenOf own_pd6 rfl) rfl (by show 2 * 0 + _ ≤ _; exact Nat.le_of_eq rfl) (hb hby ep10m3_d13) (fun _ _ => ⟨rfl, eT, (by decide : 1 + 0 ≤ _), (by decide : 8 + 0 ≤ _)⟩)
  dsimp only [Pt.U, Pt.locs, Pt.cells, Pt.slots] at X lq yq zq st hQ
  subst lq yq zq
  obtain ⟨rfl, Nq, eT⟩ := hQ
  replace N := Fr.app N Nq
  refine own_viaT (g' := (mkF m 16 (own_A8 a1 b1 2 8 92 v1) [(.int 8), (.int 8)])) st ?_
  refine own_via (g' := (mkF m 144 (own_A8 a1 b1 2 8 92 v1) [(.int 2), (.ref b1)])) (fun t_ k_ => XS.icmpYes X.here hx rfl (pc0 := 16) (pc' := 142) rfl (hb hby ep10m3_d16) rfl (flt (by decide : ¬ ((8 : Int32) < (8 : Int32)))).2.1 (by decide) (by decide) (XS.aloadN X.here hx rfl (hb hby ep10m3_d142) rfl rfl (XS.iloadN X.here hx rfl (hb hby ep10m3_d143) rfl k_))) ?_
  replace V_b1 : Arv Z h4 b1 kb1 .byte (8 : Int32) [(.int (own_sb v0)), (.int (own_sb v1))] (.int 0) := V_b1.pad (fun i => (pad_rep [(.int (own_sb v0)), (.int (own_sb v1))] (.int 0) 6 i).symm)
  obtain ⟨_, _, ⟨T, Lq, kq, nq⟩, -, X, ⟨Lc, hQ, lq, yq, zq⟩, st⟩ := Jvm.LawKit.callS X hx (y := own_y9) hown (mvT hZ (hw _ (own_w 44 rfl))) (mvT hZ (hw _ (own_w 45 rfl))) (mvT hZ (hw _ (own_w 46 rfl))) (mvT hZ (hw _ (own_w 47 rfl))) (by decide) (backOf (W := 0) (own_copyOf l Z a0 hw [] b1 kb1 (2 : Int32) (8 : Int32) [(.int (own_sb v0)), (.int (own_sb v1))] h4 n0 O E_b1 V_b1 (by decide) rfl) hZ (hw _ (own_w 47 rfl)) (hw _ (own_w 46 rfl)) (by decide) (by decide)) (g := (mkF m 144 (own_A8 a1 b1 2 8 92 v1) [(.int 2), (.ref b1)])) rfl (by rw [hml]; rfl) (argsL := [(.ref b1), (.int 2)]) (rest := []) (lenOf own_pd9 rfl) rfl (by show 2 * 0 + _ ≤ _; exact Nat.le_of_eq rfl) (hb hby ep10m3_d144) (fun _ _ => ⟨rfl, eT, (by decide : 1 + 1 ≤ _), (by decide : 8 + 12 ≤ _)⟩)
  dsimp only [Pt.U, Pt.locs, Pt.cells, Pt.slots] at X lq yq zq st hQ
  subst lq yq zq
  obtain ⟨bn, kbn, rfl, Nq, Kq, szq, V_bn, E_bn⟩ := hQ
  replace N := Fr.app N Nq
  obtain ⟨h5, eT⟩ : ∃ z, T.heap = z := ⟨_, rfl⟩
  rw [eT] at Kq V_bn E_bn
  have ne_a1_bn : a1 ≠ bn := Nat.ne_of_lt (Nat.lt_of_lt_of_le E_a1.lt szq)
  have ne_b1_bn : b1 ≠ bn := Nat.ne_of_lt (Nat.lt_of_lt_of_le E_b1.lt szq)
  have ne_va_bn : va ≠ bn := Nat.ne_of_lt (Nat.lt_of_lt_of_le V_va.lt szq)
  have g_bn : n0 ≤ bn := Nat.le_trans (own_le O) szq
  have sz_bn : h0.size ≤ bn := Nat.le_trans K0.1 szq
  replace E_a1 := E_a1.keep Kq
  replace F_value_a1 := F_value_a1.keep Kq nin0
  replace F_coder_a1 := F_coder_a1.keep Kq nin0
  replace V_va := V_va.keep Kq nin0
  replace E_b1 := E_b1.keep Kq
  replace V_b1 := V_b1.keep Kq nin0
  replace O := O.keep Kq all0
  replace K0 := K0.trans Kq all0
  refine own_via (g' := (mkF m 147 (own_A8 a1 b1 2 8 92 v1) [(.ref bn)])) st ?_
  refine own_retW X hx hlk Bd.returns rfl (Or.inr (Or.inr (Or.inr (Or.inr ⟨rfl, rfl, rfl⟩)))) (hb hby ep10m3_d147) (by decide) (by decide) ?_
  rw [eT]
  exact ⟨bn, kbn, rfl, N, K0, sz_bn, V_bn, E_bn⟩
theorem own_unPPP_pn : plainFor (⟨"com/example/rows_to_regions/rowstoregions/KeyText", "unescape", "(Ljava/lang/String;)[B"⟩ : MethodName) = true := by first | exact plainFor_of_name (by first | (simp [plainName, overriddenIn]; done) | decide +kernel) | decide +kernel | exact Jvm.Free.JP.mathPlain rfl (by decide +kernel)
theorem own_unPPP_ef (m : MethodId) (x0 : Addr) : entryFrame m #[(.ref x0)] 6 = mkF m 0 #[.val (.ref x0), .unset, .unset, .unset, .unset, .unset] [] := by first | (simp [entryFrame, mkF, argsToLocals, Value.category]; done) | rfl
def own_unPPP_Q (Z : State) (a1 : Addr) (va : Addr) (kv : ClassId) (v0 : Int32) (v1 : Int32) (v2 : Int32) (zc : Int32) (vS : Value) (h0 : Heap) (n0 : Nat) (v : Option Value) (h : Heap) (L : List Loc) : Prop := ∃ b kb, v = some (.ref b) ∧ Fr n0 L ∧ Keep h0 h [] ∧ h0.size ≤ b ∧ Arv Z h b kb .byte (3 : Int32) [(.int (own_sb v0)), (.int (own_sb v1)), (.int (own_sb v2))] (.int 0) ∧ Exa Z h b "[B"
set_option maxRecDepth 65536 in
set_option maxHeartbeats 40000000 in
theorem own_unPPP (l : Launch) (Z : State) (a0 : Array Value) (hw : ∀ d ∈ tables_1, d.before a0 Z = true) (ws : List Jvm.Cond) (a1 : Addr) (va : Addr) (kv : ClassId) (v0 : Int32) (v1 : Int32) (v2 : Int32) (zc : Int32) (vS : Value) (h0 : Heap) (n0 : Nat) (O : Old Z n0 h0) (E_a1 : Exa Z h0 a1 "java/lang/String") (F_value_a1 : Fld Z h0 a1 "java/lang/String" "value" "[B" (.ref va)) (F_coder_a1 : Fld Z h0 a1 "java/lang/String" "coder" "B" (.int 0)) (V_va : Arv Z h0 va kv .byte (3 : Int32) [(.int (own_b8 v0)), (.int (own_b8 v1)), (.int (own_b8 v2))] (.int 0)) (bd0 : 0 ≤ v0.toInt ∧ v0.toInt < 256) (pp0 : ¬ v0 = (92 : Int32) ∧ ¬ v0 < (32 : Int32) ∧ ¬ (126 : Int32) < v0) (bd1 : 0 ≤ v1.toInt ∧ v1.toInt < 256) (pp1 : ¬ v1 = (92 : Int32) ∧ ¬ v1 < (32 : Int32) ∧ ¬ (126 : Int32) < v1) (bd2 : 0 ≤ v2.toInt ∧ v2.toInt < 256) (pp2 : ¬ v2 = (92 : Int32) ∧ ¬ v2 < (32 : Int32) ∧ ¬ (126 : Int32) < v2) (S_C : Sta Z Z.heap "java/lang/String" "COMPACT_STRINGS" "Z" (.int zc)) (hzc : ¬ zc = 0) (S_S : Sta Z Z.heap "jdk/internal/util/Preconditions" "SIOOBE_FORMATTER" "Ljava/util/function/BiFunction;" vS) (hvS : vS.isRef = true) :
    MetFree l (⟨"com/example/rows_to_regions/rowstoregions/KeyText", "unescape", "(Ljava/lang/String;)[B"⟩ : MethodName) (head1 (Jvm.Cond.code (⟨"com/example/rows_to_regions/rowstoregions/KeyText", "unescape", "(Ljava/lang/String;)[B"⟩ : MethodName) prog_10_method_3_code 6 (some (.array .byte)) :: ws) ({ frames := 5, cells := 2, slots := 24, locals := 68 } : Room)) (fun a U => a = #[(.ref a1)] ∧ Z.Warmed39 U.vm ∧ U.heap = h0) (fun _ _ _ _ _ => True) (fun _ U o U' => ∃ v L, o = .returned v ∧ own_unPPP_Q Z a1 va kv v0 v1 v2 zc vS h0 n0 v U'.heap L ∧ FrameEnd U o U' L ({ frames := 5, cells := 2, slots := 24, locals := 68 } : Room).cells ({ frames := 5, cells := 2, slots := 24, locals := 68 } : Room).slots) := by
  refine MetFree.of_bodySF own_unPPP_pn hisR ?_
  intro p e s m args below meth c s₁ Bd hml0 hP hK
  obtain ⟨rfl, hZ, hh⟩ := hP
  have hx := Bd.exec
  have hby := Bd.bytes
  have hlk := Bd.notSynchronized
  have hml : c.maxLocals = 6 := hml0
  have hown : s.vm.findClass "com/example/rows_to_regions/rowstoregions/KeyText" = some m.cls := findClass_of_methodNamed Bd.named
  have hnm := (name_of_methodNamed Bd.named Bd.method).1
  have X : Stand p l e ({ frames := 5, cells := 2, slots := 24, locals := 68 } : Room) s m #[(.ref a1)] below meth c s₁ [] 0 0 := Stand.of_body Bd
  have eT : s₁.heap = h0 := by rw [← hh, Bd.state]; rfl
  have N := Fr.nil n0
  have K0 := Keep.refl h0 []
  show own_Ends p e below (own_Post s below (own_unPPP_Q Z a1 va kv v0 v1 v2 zc vS h0 n0) ({ frames := 5, cells := 2, slots := 24, locals := 68 } : Room).cells ({ frames := 5, cells := 2, slots := 24, locals := 68 } : Room).slots) s₁ (entryFrame m #[(.ref a1)] 6)
  rw [own_unPPP_ef m a1]
  obtain ⟨T, hT⟩ : ∃ z, z = s₁ := ⟨_, rfl⟩
  rw [← hT] at X eT ⊢
  obtain ⟨h, hh0⟩ : ∃ z, z = h0 := ⟨_, rfl⟩
  rw [← hh0] at eT
  replace O : Old Z n0 h := by rw [hh0]; exact O
  replace K0 : Keep h0 h [] := by rw [hh0]; exact K0
  rw [← hh0] at E_a1
  rw [← hh0] at F_value_a1
  rw [← hh0] at F_coder_a1
  rw [← hh0] at V_va
  refine own_via (g' := (mkF m 1 (own_A19 a1) [(.ref a1)])) (fun t_ k_ => XS.aloadN X.here hx rfl (hb hby ep10m3_d0) rfl rfl k_) ?_
  obtain ⟨cq, kq, qa, qb, qc⟩ := isOf hZ eT E_a1
  obtain ⟨_, _, ⟨T, Lq, kq, nq⟩, -, X, ⟨Lc, hQ, lq, yq, zq⟩, st⟩ := X.virtualBack hx (y := own_y6) (z := own_y6) hown (mvT hZ (hw _ (own_w 33 rfl))) (mvT hZ (hw _ (own_w 34 rfl))) (notFace_of_selects (args := #[]) (mvT hZ (hw _ (own_w 36 rfl)))) (mvT hZ (hw _ (own_w 36 rfl))) (mvT hZ (hw _ (own_w 35 rfl))) (by decide) (backOf (W := 0) (own_strlen l Z a0 hw [] a1 va kv (3 : Int32) [(.int (own_b8 v0)), (.int (own_b8 v1)), (.int (own_b8 v2))] zc h n0 O E_a1 F_value_a1 F_coder_a1 V_va S_C hzc) hZ (hw _ (own_w 37 rfl)) (hw _ (own_w 10 rfl)) (by decide) (by decide)) qa qc (g := (mkF m 1 (own_A19 a1) [(.ref a1)])) rfl (by rw [hml]; rfl) (Steps.refl _) (argsL := []) (rest := []) (lenOf own_pd6 rfl) rfl (by show 2 * 0 + _ ≤ _; exact Nat.le_of_eq rfl) (hb hby ep10m3_d1) (fun _ _ => ⟨rfl, eT, (by decide : 0 + 0 ≤ _), (by decide : 0 + 0 ≤ _)⟩)
  dsimp only [Pt.U, Pt.locs, Pt.cells, Pt.slots] at X lq yq zq st hQ
  subst lq yq zq
  obtain ⟨rfl, Nq, eT⟩ := hQ
  replace N := Fr.app N Nq
  refine own_viaT (g' := (mkF m 4 (own_A19 a1) [(.int 3)])) st ?_
  obtain ⟨b1, gb⟩ : ∃ z, z = h.size := ⟨_, rfl⟩
  obtain ⟨T, h2, kb1, X, eT, E, A_, E_b1, st⟩ := newPE X hx hZ (hw _ (own_w 22 rfl)) eT (g := (mkF m 4 (own_A19 a1) [(.int 3)])) rfl (hb hby ep10m3_d4) rfl (by decide) (cap := 3) (by decide) (by decide) (by decide) (by decide) (ad := "[B") (by decide)
  rw [← gb] at A_ E_b1 st
  have ne_a1_b1 : a1 ≠ b1 := Nat.ne_of_lt (Nat.lt_of_lt_of_le E_a1.lt (Nat.le_of_eq gb.symm))
  have ne_va_b1 : va ≠ b1 := Nat.ne_of_lt (Nat.lt_of_lt_of_le V_va.lt (Nat.le_of_eq gb.symm))
  have g_b1 : n0 ≤ b1 := Nat.le_trans (own_le O) (Nat.le_of_eq gb.symm)
  have sz_b1 : h0.size ≤ b1 := Nat.le_trans K0.1 (Nat.le_of_eq gb.symm)
  replace E_a1 := E_a1.ext E
  replace F_value_a1 := F_value_a1.ext E
  replace F_coder_a1 := F_coder_a1.ext E
  replace V_va := V_va.ext E
  replace O := O.ext E
  replace K0 := K0.ext E
  have V_b1 : Arv Z h2 b1 kb1 .byte (3 : Int32) [(.int 0), (.int 0), (.int 0)] (.int 0) := (Arv.new A_ (by decide)).pad (pad_rep [] (.int 0) 3)
  refine own_via (g' := (mkF m 6 (own_A19 a1) [(.ref b1)])) st ?_
  refine own_via (g' := (mkF m 13 (own_A15 a1 b1 0 0) [(.ref a1), (.int 0)])) (fun t_ k_ => XS.astoreN X.here hx rfl (hb hby ep10m3_d6) rfl rfl (l' := (own_A18 a1 b1)) rfl (XS.iconst X.here hx rfl (hb hby ep10m3_d7) (XS.istoreN X.here hx rfl (hb hby ep10m3_d8) rfl (l' := (own_A17 a1 b1 0)) rfl (XS.iconst X.here hx rfl (hb hby ep10m3_d9) (XS.istoreN X.here hx rfl (hb hby ep10m3_d10) rfl (l' := (own_A15 a1 b1 0 0)) rfl (XS.iloadN X.here hx rfl (hb hby ep10m3_d11) rfl (XS.aloadN X.here hx rfl (hb hby ep10m3_d12) rfl rfl k_))))))) ?_
  obtain ⟨cq, kq, qa, qb, qc⟩ := isOf hZ eT E_a1
  obtain ⟨_, _, ⟨T, Lq, kq, nq⟩, -, X, ⟨Lc, hQ, lq, yq, zq⟩, st⟩ := X.virtualBack hx (y := own_y6) (z := own_y6) hown (mvT hZ (hw _ (own_w 33 rfl))) (mvT hZ (hw _ (own_w 34 rfl))) (notFace_of_selects (args := #[]) (mvT hZ (hw _ (own_w 36 rfl)))) (mvT hZ (hw _ (own_w 36 rfl))) (mvT hZ (hw _ (own_w 35 rfl))) (by decide) (backOf (W := 1) (own_strlen l Z a0 hw [] a1 va kv (3 : Int32) [(.int (own_b8 v0)), (.int (own_b8 v1)), (.int (own_b8 v2))] zc h2 n0 O E_a1 F_value_a1 F_coder_a1 V_va S_C hzc) hZ (hw _ (own_w 37 rfl)) (hw _ (own_w 10 rfl)) (by decide) (by decide)) qa qc (g := (mkF m 13 (own_A15 a1 b1 0 0) [(.ref a1), (.int 0)])) rfl (by rw [hml]; rfl) (Steps.refl _) (argsL := []) (rest := [(.int 0)]) (lenOf own_pd6 rfl) rfl (by show 2 * 0 + _ ≤ _; exact Nat.le_of_eq rfl) (hb hby ep10m3_d13) (fun _ _ => ⟨rfl, eT, (by decide : 1 + 0 ≤ _), (by decide : 3 + 0 ≤ _)⟩)
  dsimp only [Pt.U, Pt.locs, Pt.cells, Pt.slots] at X lq yq zq st hQ
  subst lq yq zq
  obtain ⟨rfl, Nq, eT⟩ := hQ
  replace N := Fr.app N Nq
  refine own_viaT (g' := (mkF m 16 (own_A15 a1 b1 0 0) [(.int 3), (.int 0)])) st ?_
  refine own_via (g' := (mkF m 21 (own_A15 a1 b1 0 0) [(.int 0), (.ref a1)])) (fun t_ k_ => XS.icmpNo X.here hx rfl (hb hby ep10m3_d16) rfl (tlt (by decide : (0 : Int32) < (3 : Int32))).2.1 (XS.aloadN X.here hx rfl (hb hby ep10m3_d19) rfl rfl (XS.iloadN X.here hx rfl (hb hby ep10m3_d20) rfl k_))) ?_
  obtain ⟨cq, kq, qa, qb, qc⟩ := isOf hZ eT E_a1
  obtain ⟨_, _, ⟨T, Lq, kq, nq⟩, -, X, ⟨Lc, hQ, lq, yq, zq⟩, st⟩ := X.virtualBack hx (y := own_y7) (z := own_y7) hown (mvT hZ (hw _ (own_w 74 rfl))) (mvT hZ (hw _ (own_w 75 rfl))) (notFace_of_selects (args := #[]) (mvT hZ (hw _ (own_w 77 rfl)))) (mvT hZ (hw _ (own_w 77 rfl))) (mvT hZ (hw _ (own_w 76 rfl))) (by decide) (backOf (W := 0) (own_charAt l Z a0 hw [] a1 (0 : Int32) va kv (3 : Int32) [(.int (own_b8 v0)), (.int (own_b8 v1)), (.int (own_b8 v2))] (own_b8 v0) zc vS h2 n0 O E_a1 F_value_a1 F_coder_a1 V_va S_C hzc (by decide) rfl S_S hvS) hZ (hw _ (own_w 78 rfl)) (hw _ (own_w 10 rfl)) (by decide) (by decide)) qa qc (g := (mkF m 21 (own_A15 a1 b1 0 0) [(.int 0), (.ref a1)])) rfl (by rw [hml]; rfl) (Steps.refl _) (argsL := [(.int 0)]) (rest := []) (lenOf own_pd7 rfl) rfl (by show 2 * 0 + _ ≤ _; exact Nat.le_of_eq rfl) (hb hby ep10m3_d21) (fun _ _ => ⟨rfl, eT, (by decide : 1 + 0 ≤ _), (by decide : 3 + 0 ≤ _)⟩)
  dsimp only [Pt.U, Pt.locs, Pt.cells, Pt.slots] at X lq yq zq st hQ
  subst lq yq zq
  obtain ⟨rfl, Nq, eT⟩ := hQ
  replace N := Fr.app N Nq
  refine own_viaT (g' := (mkF m 24 (own_A15 a1 b1 0 0) [(.int ((own_b8 v0) &&& (255 : Int32)))])) st ?_
  rw [own_b255 bd0.1 bd0.2]
  refine own_via (g' := (mkF m 90 (own_A10 a1 b1 0 0 v0) [])) (fun t_ k_ => XS.istore X.here hx rfl (hb hby ep10m3_d24) rfl (l' := (own_A10 a1 b1 0 0 v0)) rfl (XS.iload X.here hx rfl (hb hby ep10m3_d26) rfl (XS.bipush X.here hx rfl (hb hby ep10m3_d28) (XS.icmpYes X.here hx rfl (pc0 := 30) (pc' := 76) rfl (hb hby ep10m3_d30) rfl (feq pp0.1).2 (by decide) (by decide) (XS.iload X.here hx rfl (hb hby ep10m3_d76) rfl (XS.bipush X.here hx rfl (hb hby ep10m3_d78) (XS.icmpNo X.here hx rfl (hb hby ep10m3_d80) rfl (flt pp0.2.1).1 (XS.iload X.here hx rfl (hb hby ep10m3_d83) rfl (XS.bipush X.here hx rfl (hb hby ep10m3_d85) (XS.icmpNo X.here hx rfl (hb hby ep10m3_d87) rfl (flt pp0.2.2).2.2.1 k_)))))))))) ?_
  refine own_via (g' := (mkF m 98 (own_A10 a1 b1 ((0 : Int32) + (1 : Int32)) 0 v0) [(.int (v0.toInt8.toInt32)), (.int 0), (.ref b1)])) (fun t_ k_ => XS.aloadN X.here hx rfl (hb hby ep10m3_d90) rfl rfl (XS.iloadN X.here hx rfl (hb hby ep10m3_d91) rfl (XS.iinc X.here hx rfl (hb hby ep10m3_d92) rfl (l' := (own_A10 a1 b1 ((0 : Int32) + (1 : Int32)) 0 v0)) rfl (XS.iload X.here hx rfl (hb hby ep10m3_d95) rfl (XS.i2b X.here hx rfl (hb hby ep10m3_d97) rfl k_))))) ?_
  obtain ⟨cl_, Ar_, qk_, Sz_, Nn_, Hs_, Gs_⟩ := id V_b1
  have hin_ : ¬ ((0 : Int32) < 0 ∨ cl_.slots.size ≤ ((0 : Int32)).toNatClampNeg) := inb_of Sz_ ⟨by decide, by decide⟩
  obtain ⟨T, h3, X, eT, W, st⟩ := stB X hx hZ eT Ar_ (j := (0 : Int32)) hin_ (g := (mkF m 98 (own_A10 a1 b1 ((0 : Int32) + (1 : Int32)) 0 v0) [(.int (v0.toInt8.toInt32)), (.int 0), (.ref b1)])) rfl rfl (hb hby ep10m3_d98)
  replace V_b1 : Arv Z h3 b1 kb1 .byte (3 : Int32) [(.int (((v0.toInt8.toInt32)).toInt8.toInt32)), (.int 0), (.int 0)] (.int 0) := Arv.set Ar_ qk_ Sz_ Nn_ Hs_ Gs_ (fits_nar_byte _) W 0 (by decide) (Nat.le_of_ble_eq_true rfl)
  replace E_a1 := E_a1.wr W
  replace F_value_a1 := F_value_a1.other W (Or.inl ne_a1_b1)
  replace F_coder_a1 := F_coder_a1.other W (Or.inl ne_a1_b1)
  replace V_va := V_va.other W ne_va_b1
  replace E_b1 := E_b1.wr W
  replace O := O.wr W g_b1
  replace K0 := K0.wr W (Or.inr sz_b1)
  replace N := Fr.snoc X N g_b1
  refine own_via (g' := (mkF m 99 (own_A10 a1 b1 ((0 : Int32) + (1 : Int32)) 0 v0) [])) st ?_
  refine own_via (g' := (mkF m 11 (own_A10 a1 b1 ((0 : Int32) + (1 : Int32)) ((0 : Int32) + (1 : Int32)) v0) [])) (fun t_ k_ => XS.goto X.here hx rfl (pc0 := 99) (pc' := 136) rfl (hb hby ep10m3_d99) (by decide) (by decide) (XS.iinc X.here hx rfl (hb hby ep10m3_d136) rfl (l' := (own_A10 a1 b1 ((0 : Int32) + (1 : Int32)) ((0 : Int32) + (1 : Int32)) v0)) rfl (XS.goto X.here hx rfl (pc0 := 139) (pc' := 11) rfl (hb hby ep10m3_d139) (by decide) (by decide) k_))) ?_
  rw [(by decide : ((0 : Int32) + (1 : Int32)) = (1 : Int32))]
  refine own_via (g' := (mkF m 13 (own_A10 a1 b1 1 1 v0) [(.ref a1), (.int 1)])) (fun t_ k_ => XS.iloadN X.here hx rfl (hb hby ep10m3_d11) rfl (XS.aloadN X.here hx rfl (hb hby ep10m3_d12) rfl rfl k_)) ?_
  obtain ⟨cq, kq, qa, qb, qc⟩ := isOf hZ eT E_a1
  obtain ⟨_, _, ⟨T, Lq, kq, nq⟩, -, X, ⟨Lc, hQ, lq, yq, zq⟩, st⟩ := X.virtualBack hx (y := own_y6) (z := own_y6) hown (mvT hZ (hw _ (own_w 33 rfl))) (mvT hZ (hw _ (own_w 34 rfl))) (notFace_of_selects (args := #[]) (mvT hZ (hw _ (own_w 36 rfl)))) (mvT hZ (hw _ (own_w 36 rfl))) (mvT hZ (hw _ (own_w 35 rfl))) (by decide) (backOf (W := 1) (own_strlen l Z a0 hw [] a1 va kv (3 : Int32) [(.int (own_b8 v0)), (.int (own_b8 v1)), (.int (own_b8 v2))] zc h3 n0 O E_a1 F_value_a1 F_coder_a1 V_va S_C hzc) hZ (hw _ (own_w 37 rfl)) (hw _ (own_w 10 rfl)) (by decide) (by decide)) qa qc (g := (mkF m 13 (own_A10 a1 b1 1 1 v0) [(.ref a1), (.int 1)])) rfl (by rw [hml]; rfl) (Steps.refl _) (argsL := []) (rest := [(.int 1)]) (lenOf own_pd6 rfl) rfl (by show 2 * 0 + _ ≤ _; exact Nat.le_of_eq rfl) (hb hby ep10m3_d13) (fun _ _ => ⟨rfl, eT, (by decide : 1 + 0 ≤ _), (by decide : 3 + 0 ≤ _)⟩)
  dsimp only [Pt.U, Pt.locs, Pt.cells, Pt.slots] at X lq yq zq st hQ
  subst lq yq zq
  obtain ⟨rfl, Nq, eT⟩ := hQ
  replace N := Fr.app N Nq
  refine own_viaT (g' := (mkF m 16 (own_A10 a1 b1 1 1 v0) [(.int 3), (.int 1)])) st ?_
  refine own_via (g' := (mkF m 21 (own_A10 a1 b1 1 1 v0) [(.int 1), (.ref a1)])) (fun t_ k_ => XS.icmpNo X.here hx rfl (hb hby ep10m3_d16) rfl (tlt (by decide : (1 : Int32) < (3 : Int32))).2.1 (XS.aloadN X.here hx rfl (hb hby ep10m3_d19) rfl rfl (XS.iloadN X.here hx rfl (hb hby ep10m3_d20) rfl k_))) ?_
  obtain ⟨cq, kq, qa, qb, qc⟩ := isOf hZ eT E_a1
  obtain ⟨_, _, ⟨T, Lq, kq, nq⟩, -, X, ⟨Lc, hQ, lq, yq, zq⟩, st⟩ := X.virtualBack hx (y := own_y7) (z := own_y7) hown (mvT hZ (hw _ (own_w 74 rfl))) (mvT hZ (hw _ (own_w 75 rfl))) (notFace_of_selects (args := #[]) (mvT hZ (hw _ (own_w 77 rfl)))) (mvT hZ (hw _ (own_w 77 rfl))) (mvT hZ (hw _ (own_w 76 rfl))) (by decide) (backOf (W := 0) (own_charAt l Z a0 hw [] a1 (1 : Int32) va kv (3 : Int32) [(.int (own_b8 v0)), (.int (own_b8 v1)), (.int (own_b8 v2))] (own_b8 v1) zc vS h3 n0 O E_a1 F_value_a1 F_coder_a1 V_va S_C hzc (by decide) rfl S_S hvS) hZ (hw _ (own_w 78 rfl)) (hw _ (own_w 10 rfl)) (by decide) (by decide)) qa qc (g := (mkF m 21 (own_A10 a1 b1 1 1 v0) [(.int 1), (.ref a1)])) rfl (by rw [hml]; rfl) (Steps.refl _) (argsL := [(.int 1)]) (rest := []) (lenOf own_pd7 rfl) rfl (by show 2 * 0 + _ ≤ _; exact Nat.le_of_eq rfl) (hb hby ep10m3_d21) (fun _ _ => ⟨rfl, eT, (by decide : 1 + 0 ≤ _), (by decide : 3 + 0 ≤ _)⟩)
  dsimp only [Pt.U, Pt.locs, Pt.cells, Pt.slots] at X lq yq zq st hQ
  subst lq yq zq
  obtain ⟨rfl, Nq, eT⟩ := hQ
  replace N := Fr.app N Nq
  refine own_viaT (g' := (mkF m 24 (own_A10 a1 b1 1 1 v0) [(.int ((own_b8 v1) &&& (255 : Int32)))])) st ?_
  rw [own_b255 bd1.1 bd1.2]
  refine own_via (g' := (mkF m 90 (own_A10 a1 b1 1 1 v1) [])) (fun t_ k_ => XS.istore X.here hx rfl (hb hby ep10m3_d24) rfl (l' := (own_A10 a1 b1 1 1 v1)) rfl (XS.iload X.here hx rfl (hb hby ep10m3_d26) rfl (XS.bipush X.here hx rfl (hb hby ep10m3_d28) (XS.icmpYes X.here hx rfl (pc0 := 30) (pc' := 76) rfl (hb hby ep10m3_d30) rfl (feq pp1.1).2 (by decide) (by decide) (XS.iload X.here hx rfl (hb hby ep10m3_d76) rfl (XS.bipush X.here hx rfl (hb hby ep10m3_d78) (XS.icmpNo X.here hx rfl (hb hby ep10m3_d80) rfl (flt pp1.2.1).1 (XS.iload X.here hx rfl (hb hby ep10m3_d83) rfl (XS.bipush X.here hx rfl (hb hby ep10m3_d85) (XS.icmpNo X.here hx rfl (hb hby ep10m3_d87) rfl (flt pp1.2.2).2.2.1 k_)))))))))) ?_
  refine own_via (g' := (mkF m 98 (own_A10 a1 b1 ((1 : Int32) + (1 : Int32)) 1 v1) [(.int (v1.toInt8.toInt32)), (.int 1), (.ref b1)])) (fun t_ k_ => XS.aloadN X.here hx rfl (hb hby ep10m3_d90) rfl rfl (XS.iloadN X.here hx rfl (hb hby ep10m3_d91) rfl (XS.iinc X.here hx rfl (hb hby ep10m3_d92) rfl (l' := (own_A10 a1 b1 ((1 : Int32) + (1 : Int32)) 1 v1)) rfl (XS.iload X.here hx rfl (hb hby ep10m3_d95) rfl (XS.i2b X.here hx rfl (hb hby ep10m3_d97) rfl k_))))) ?_
  obtain ⟨cl_, Ar_, qk_, Sz_, Nn_, Hs_, Gs_⟩ := id V_b1
  have hin_ : ¬ ((1 : Int32) < 0 ∨ cl_.slots.size ≤ ((1 : Int32)).toNatClampNeg) := inb_of Sz_ ⟨by decide, by decide⟩
  obtain ⟨T, h4, X, eT, W, st⟩ := stB X hx hZ eT Ar_ (j := (1 : Int32)) hin_ (g := (mkF m 98 (own_A10 a1 b1 ((1 : Int32) + (1 : Int32)) 1 v1) [(.int (v1.toInt8.toInt32)), (.int 1), (.ref b1)])) rfl rfl (hb hby ep10m3_d98)
  replace V_b1 : Arv Z h4 b1 kb1 .byte (3 : Int32) [(.int (((v0.toInt8.toInt32)).toInt8.toInt32)), (.int (((v1.toInt8.toInt32)).toInt8.toInt32)), (.int 0)] (.int 0) := Arv.set Ar_ qk_ Sz_ Nn_ Hs_ Gs_ (fits_nar_byte _) W 1 (by decide) (Nat.le_of_ble_eq_true rfl)
  replace E_a1 := E_a1.wr W
  replace F_value_a1 := F_value_a1.other W (Or.inl ne_a1_b1)
  replace F_coder_a1 := F_coder_a1.other W (Or.inl ne_a1_b1)
  replace V_va := V_va.other W ne_va_b1
  replace E_b1 := E_b1.wr W
  replace O := O.wr W g_b1
  replace K0 := K0.wr W (Or.inr sz_b1)
  replace N := Fr.snoc X N g_b1
  refine own_via (g' := (mkF m 99 (own_A10 a1 b1 ((1 : Int32) + (1 : Int32)) 1 v1) [])) st ?_
  refine own_via (g' := (mkF m 11 (own_A10 a1 b1 ((1 : Int32) + (1 : Int32)) ((1 : Int32) + (1 : Int32)) v1) [])) (fun t_ k_ => XS.goto X.here hx rfl (pc0 := 99) (pc' := 136) rfl (hb hby ep10m3_d99) (by decide) (by decide) (XS.iinc X.here hx rfl (hb hby ep10m3_d136) rfl (l' := (own_A10 a1 b1 ((1 : Int32) + (1 : Int32)) ((1 : Int32) + (1 : Int32)) v1)) rfl (XS.goto X.here hx rfl (pc0 := 139) (pc' := 11) rfl (hb hby ep10m3_d139) (by decide) (by decide) k_))) ?_
  rw [(by decide : ((1 : Int32) + (1 : Int32)) = (2 : Int32))]
  refine own_via (g' := (mkF m 13 (own_A10 a1 b1 2 2 v1) [(.ref a1), (.int 2)])) (fun t_ k_ => XS.iloadN X.here hx rfl (hb hby ep10m3_d11) rfl (XS.aloadN X.here hx rfl (hb hby ep10m3_d12) rfl rfl k_)) ?_
  obtain ⟨cq, kq, qa, qb, qc⟩ := isOf hZ eT E_a1
  obtain ⟨_, _, ⟨T, Lq, kq, nq⟩, -, X, ⟨Lc, hQ, lq, yq, zq⟩, st⟩ := X.virtualBack hx (y := own_y6) (z := own_y6) hown (mvT hZ (hw _ (own_w 33 rfl))) (mvT hZ (hw _ (own_w 34 rfl))) (notFace_of_selects (args := #[]) (mvT hZ (hw _ (own_w 36 rfl)))) (mvT hZ (hw _ (own_w 36 rfl))) (mvT hZ (hw _ (own_w 35 rfl))) (by decide) (backOf (W := 1) (own_strlen l Z a0 hw [] a1 va kv (3 : Int32) [(.int (own_b8 v0)), (.int (own_b8 v1)), (.int (own_b8 v2))] zc h4 n0 O E_a1 F_value_a1 F_coder_a1 V_va S_C hzc) hZ (hw _ (own_w 37 rfl)) (hw _ (own_w 10 rfl)) (by decide) (by decide)) qa qc (g := (mkF m 13 (own_A10 a1 b1 2 2 v1) [(.ref a1), (.int 2)])) rfl (by rw [hml]; rfl) (Steps.refl _) (argsL := []) (rest := [(.int 2)]) (lenOf own_pd6 rfl) rfl (by show 2 * 0 + _ ≤ _; exact Nat.le_of_eq rfl) (hb hby ep10m3_d13) (fun _ _ => ⟨rfl, eT, (by decide : 1 + 0 ≤ _), (by decide : 3 + 0 ≤ _)⟩)
  dsimp only [Pt.U, Pt.locs, Pt.cells, Pt.slots] at X lq yq zq st hQ
  subst lq yq zq
  obtain ⟨rfl, Nq, eT⟩ := hQ
  replace N := Fr.app N Nq
  refine own_viaT (g' := (mkF m 16 (own_A10 a1 b1 2 2 v1) [(.int 3), (.int 2)])) st ?_
  refine own_via (g' := (mkF m 21 (own_A10 a1 b1 2 2 v1) [(.int 2), (.ref a1)])) (fun t_ k_ => XS.icmpNo X.here hx rfl (hb hby ep10m3_d16) rfl (tlt (by decide : (2 : Int32) < (3 : Int32))).2.1 (XS.aloadN X.here hx rfl (hb hby ep10m3_d19) rfl rfl (XS.iloadN X.here hx rfl (hb hby ep10m3_d20) rfl k_))) ?_
  obtain ⟨cq, kq, qa, qb, qc⟩ := isOf hZ eT E_a1
  obtain ⟨_, _, ⟨T, Lq, kq, nq⟩, -, X, ⟨Lc, hQ, lq, yq, zq⟩, st⟩ := X.virtualBack hx (y := own_y7) (z := own_y7) hown (mvT hZ (hw _ (own_w 74 rfl))) (mvT hZ (hw _ (own_w 75 rfl))) (notFace_of_selects (args := #[]) (mvT hZ (hw _ (own_w 77 rfl)))) (mvT hZ (hw _ (own_w 77 rfl))) (mvT hZ (hw _ (own_w 76 rfl))) (by decide) (backOf (W := 0) (own_charAt l Z a0 hw [] a1 (2 : Int32) va kv (3 : Int32) [(.int (own_b8 v0)), (.int (own_b8 v1)), (.int (own_b8 v2))] (own_b8 v2) zc vS h4 n0 O E_a1 F_value_a1 F_coder_a1 V_va S_C hzc (by decide) rfl S_S hvS) hZ (hw _ (own_w 78 rfl)) (hw _ (own_w 10 rfl)) (by decide) (by decide)) qa qc (g := (mkF m 21 (own_A10 a1 b1 2 2 v1) [(.int 2), (.ref a1)])) rfl (by rw [hml]; rfl) (Steps.refl _) (argsL := [(.int 2)]) (rest := []) (lenOf own_pd7 rfl) rfl (by show 2 * 0 + _ ≤ _; exact Nat.le_of_eq rfl) (hb hby ep10m3_d21) (fun _ _ => ⟨rfl, eT, (by decide : 1 + 0 ≤ _), (by decide : 3 + 0 ≤ _)⟩)
  dsimp only [Pt.U, Pt.locs, Pt.cells, Pt.slots] at X lq yq zq st hQ
  subst lq yq zq
  obtain ⟨rfl, Nq, eT⟩ := hQ
  replace N := Fr.app N Nq
  refine own_viaT (g' := (mkF m 24 (own_A10 a1 b1 2 2 v1) [(.int ((own_b8 v2) &&& (255 : Int32)))])) st ?_
  rw [own_b255 bd2.1 bd2.2]
  refine own_via (g' := (mkF m 90 (own_A10 a1 b1 2 2 v2) [])) (fun t_ k_ => XS.istore X.here hx rfl (hb hby ep10m3_d24) rfl (l' := (own_A10 a1 b1 2 2 v2)) rfl (XS.iload X.here hx rfl (hb hby ep10m3_d26) rfl (XS.bipush X.here hx rfl (hb hby ep10m3_d28) (XS.icmpYes X.here hx rfl (pc0 := 30) (pc' := 76) rfl (hb hby ep10m3_d30) rfl (feq pp2.1).2 (by decide) (by decide) (XS.iload X.here hx rfl (hb hby ep10m3_d76) rfl (XS.bipush X.here hx rfl (hb hby ep10m3_d78) (XS.icmpNo X.here hx rfl (hb hby ep10m3_d80) rfl (flt pp2.2.1).1 (XS.iload X.here hx rfl (hb hby ep10m3_d83) rfl (XS.bipush X.here hx rfl (hb hby ep10m3_d85) (XS.icmpNo X.here hx rfl (hb hby ep10m3_d87) rfl (flt pp2.2.2).2.2.1 k_)))))))))) ?_
  refine own_via (g' := (mkF m 98 (own_A10 a1 b1 ((2 : Int32) + (1 : Int32)) 2 v2) [(.int (v2.toInt8.toInt32)), (.int 2), (.ref b1)])) (fun t_ k_ => XS.aloadN X.here hx rfl (hb hby ep10m3_d90) rfl rfl (XS.iloadN X.here hx rfl (hb hby ep10m3_d91) rfl (XS.iinc X.here hx rfl (hb hby ep10m3_d92) rfl (l' := (own_A10 a1 b1 ((2 : Int32) + (1 : Int32)) 2 v2)) rfl (XS.iload X.here hx rfl (hb hby ep10m3_d95) rfl (XS.i2b X.here hx rfl (hb hby ep10m3_d97) rfl k_))))) ?_
  obtain ⟨cl_, Ar_, qk_, Sz_, Nn_, Hs_, Gs_⟩ := id V_b1
  have hin_ : ¬ ((2 : Int32) < 0 ∨ cl_.slots.size ≤ ((2 : Int32)).toNatClampNeg) := inb_of Sz_ ⟨by decide, by decide⟩
  obtain ⟨T, h5, X, eT, W, st⟩ := stB X hx hZ eT Ar_ (j := (2 : Int32)) hin_ (g := (mkF m 98 (own_A10 a1 b1 ((2 : Int32) + (1 : Int32)) 2 v2) [(.int (v2.toInt8.toInt32)), (.int 2), (.ref b1)])) rfl rfl (hb hby ep10m3_d98)
  replace V_b1 : Arv Z h5 b1 kb1 .byte (3 : Int32) [(.int (((v0.toInt8.toInt32)).toInt8.toInt32)), (.int (((v1.toInt8.toInt32)).toInt8.toInt32)), (.int (((v2.toInt8.toInt32)).toInt8.toInt32))] (.int 0) := Arv.set Ar_ qk_ Sz_ Nn_ Hs_ Gs_ (fits_nar_byte _) W 2 (by decide) (Nat.le_of_ble_eq_true rfl)
  replace E_a1 := E_a1.wr W
  replace F_value_a1 := F_value_a1.other W (Or.inl ne_a1_b1)
  replace F_coder_a1 := F_coder_a1.other W (Or.inl ne_a1_b1)
  replace V_va := V_va.other W ne_va_b1
  replace E_b1 := E_b1.wr W
  replace O := O.wr W g_b1
  replace K0 := K0.wr W (Or.inr sz_b1)
  replace N := Fr.snoc X N g_b1
  refine own_via (g' := (mkF m 99 (own_A10 a1 b1 ((2 : Int32) + (1 : Int32)) 2 v2) [])) st ?_
  refine own_via (g' := (mkF m 11 (own_A10 a1 b1 ((2 : Int32) + (1 : Int32)) ((2 : Int32) + (1 : Int32)) v2) [])) (fun t_ k_ => XS.goto X.here hx rfl (pc0 := 99) (pc' := 136) rfl (hb hby ep10m3_d99) (by decide) (by decide) (XS.iinc X.here hx rfl (hb hby ep10m3_d136) rfl (l' := (own_A10 a1 b1 ((2 : Int32) + (1 : Int32)) ((2 : Int32) + (1 : Int32)) v2)) rfl (XS.goto X.here hx rfl (pc0 := 139) (pc' := 11) rfl (hb hby ep10m3_d139) (by decide) (by decide) k_))) ?_
  rw [(by decide : ((2 : Int32) + (1 : Int32)) = (3 : Int32))]
  refine own_via (g' := (mkF m 13 (own_A10 a1 b1 3 3 v2) [(.ref a1), (.int 3)])) (fun t_ k_ => XS.iloadN X.here hx rfl (hb hby ep10m3_d11) rfl (XS.aloadN X.here hx rfl (hb hby ep10m3_d12) rfl rfl k_)) ?_
  obtain ⟨cq, kq, qa, qb, qc⟩ := isOf hZ eT E_a1
  obtain ⟨_, _, ⟨T, Lq, kq, nq⟩, -, X, ⟨Lc, hQ, lq, yq, zq⟩, st⟩ := X.virtualBack hx (y := own_y6) (z := own_y6) hown (mvT hZ (hw _ (own_w 33 rfl))) (mvT hZ (hw _ (own_w 34 rfl))) (notFace_of_selects (args := #[]) (mvT hZ (hw _ (own_w 36 rfl)))) (mvT hZ (hw _ (own_w 36 rfl))) (mvT hZ (hw _ (own_w 35 rfl))) (by decide) (backOf (W := 1) (own_strlen l Z a0 hw [] a1 va kv (3 : Int32) [(.int (own_b8 v0)), (.int (own_b8 v1)), (.int (own_b8 v2))] zc h5 n0 O E_a1 F_value_a1 F_coder_a1 V_va S_C hzc) hZ (hw _ (own_w 37 rfl)) (hw _ (own_w 10 rfl)) (by decide) (by decide)) qa qc (g := (mkF m 13 (own_A10 a1 b1 3 3 v2) [(.ref a1), (.int 3)])) rfl (by rw [hml]; rfl) (Steps.refl _) (argsL := []) (rest := [(.int 3)]) (lenOf own_pd6 rfl) rfl (by show 2 * 0 + _ ≤ _; exact Nat.le_of_eq rfl) (hb hby ep10m3_d13) (fun _ _ => ⟨rfl, eT, (by decide : 1 + 0 ≤ _), (by decide : 3 + 0 ≤ _)⟩)
  dsimp only [Pt.U, Pt.locs, Pt.cells, Pt.slots] at X lq yq zq st hQ
  subst lq yq zq
  obtain ⟨rfl, Nq, eT⟩ := hQ
  replace N := Fr.app N Nq
  refine own_viaT (g' := (mkF m 16 (own_A10 a1 b1 3 3 v2) [(.int 3), (.int 3)])) st ?_
  refine own_via (g' := (mkF m 144 (own_A10 a1 b1 3 3 v2) [(.int 3), (.ref b1)])) (fun t_ k_ => XS.icmpYes X.here hx rfl (pc0 := 16) (pc' := 142) rfl (hb hby ep10m3_d16) rfl (flt (by decide : ¬ ((3 : Int32) < (3 : Int32)))).2.1 (by decide) (by decide) (XS.aloadN X.here hx rfl (hb hby ep10m3_d142) rfl rfl (XS.iloadN X.here hx rfl (hb hby ep10m3_d143) rfl k_))) ?_
  obtain ⟨_, _, ⟨T, Lq, kq, nq⟩, -, X, ⟨Lc, hQ, lq, yq, zq⟩, st⟩ := Jvm.LawKit.callS X hx (y := own_y9) hown (mvT hZ (hw _ (own_w 44 rfl))) (mvT hZ (hw _ (own_w 45 rfl))) (mvT hZ (hw _ (own_w 46 rfl))) (mvT hZ (hw _ (own_w 47 rfl))) (by decide) (backOf (W := 0) (own_copyOf l Z a0 hw [] b1 kb1 (3 : Int32) (3 : Int32) [(.int (own_sb v0)), (.int (own_sb v1)), (.int (own_sb v2))] h5 n0 O E_b1 V_b1 (by decide) rfl) hZ (hw _ (own_w 47 rfl)) (hw _ (own_w 46 rfl)) (by decide) (by decide)) (g := (mkF m 144 (own_A10 a1 b1 3 3 v2) [(.int 3), (.ref b1)])) rfl (by rw [hml]; rfl) (argsL := [(.ref b1), (.int 3)]) (rest := []) (lenOf own_pd9 rfl) rfl (by show 2 * 0 + _ ≤ _; exact Nat.le_of_eq rfl) (hb hby ep10m3_d144) (fun _ _ => ⟨rfl, eT, (by decide : 1 + 1 ≤ _), (by decide : 3 + 12 ≤ _)⟩)
  dsimp only [Pt.U, Pt.locs, Pt.cells, Pt.slots] at X lq yq zq st hQ
  subst lq yq zq
  obtain ⟨bn, kbn, rfl, Nq, Kq, szq, V_bn, E_bn⟩ := hQ
  replace N := Fr.app N Nq
  obtain ⟨h6, eT⟩ : ∃ z, T.heap = z := ⟨_, rfl⟩
  rw [eT] at Kq V_bn E_bn
  have ne_a1_bn : a1 ≠ bn := Nat.ne_of_lt (Nat.lt_of_lt_of_le E_a1.lt szq)
  have ne_b1_bn : b1 ≠ bn := Nat.ne_of_lt (Nat.lt_of_lt_of_le E_b1.lt szq)
  have ne_va_bn : va ≠ bn := Nat.ne_of_lt (Nat.lt_of_lt_of_le V_va.lt szq)
  have g_bn : n0 ≤ bn := Nat.le_trans (own_le O) szq
  have sz_bn : h0.size ≤ bn := Nat.le_trans K0.1 szq
  replace E_a1 := E_a1.keep Kq
  replace F_value_a1 := F_value_a1.keep Kq nin0
  replace F_coder_a1 := F_coder_a1.keep Kq nin0
  replace V_va := V_va.keep Kq nin0
  replace E_b1 := E_b1.keep Kq
  replace V_b1 := V_b1.keep Kq nin0
  replace O := O.keep Kq all0
  replace K0 := K0.trans Kq all0
  refine own_via (g' := (mkF m 147 (own_A10 a1 b1 3 3 v2) [(.ref bn)])) st ?_
  refine own_retW X hx hlk Bd.returns rfl (Or.inr (Or.inr (Or.inr (Or.inr ⟨rfl, rfl, rfl⟩)))) (hb hby ep10m3_d147) (by decide) (by decide) ?_
  rw [eT]
  exact ⟨bn, kbn, rfl, N, K0, sz_bn, V_bn, E_bn⟩
theorem own_unPPE_pn : plainFor (⟨"com/example/rows_to_regions/rowstoregions/KeyText", "unescape", "(Ljava/lang/String;)[B"⟩ : MethodName) = true := by first | exact plainFor_of_name (by first | (simp [plainName, overriddenIn]; done) | decide +kernel) | decide +kernel | exact Jvm.Free.JP.mathPlain rfl (by decide +kernel)
theorem own_unPPE_ef (m : MethodId) (x0 : Addr) : entryFrame m #[(.ref x0)] 6 = mkF m 0 #[.val (.ref x0), .unset, .unset, .unset, .unset, .unset] [] := by first | (simp [entryFrame, mkF, argsToLocals, Value.category]; done) | rfl
def own_unPPE_Q (Z : State) (a1 : Addr) (va : Addr) (kv : ClassId) (v0 : Int32) (v1 : Int32) (v2 : Int32) (zc : Int32) (vS : Value) (h0 : Heap) (n0 : Nat) (v : Option Value) (h : Heap) (L : List Loc) : Prop := ∃ b kb, v = some (.ref b) ∧ Fr n0 L ∧ Keep h0 h [] ∧ h0.size ≤ b ∧ Arv Z h b kb .byte (3 : Int32) [(.int (own_sb v0)), (.int (own_sb v1)), (.int (own_sb v2))] (.int 0) ∧ Exa Z h b "[B"
set_option maxRecDepth 65536 in
set_option maxHeartbeats 40000000 in
theorem own_unPPE (l : Launch) (Z : State) (a0 : Array Value) (hw : ∀ d ∈ tables_1, d.before a0 Z = true) (ws : List Jvm.Cond) (a1 : Addr) (va : Addr) (kv : ClassId) (v0 : Int32) (v1 : Int32) (v2 : Int32) (zc : Int32) (vS : Value) (h0 : Heap) (n0 : Nat) (O : Old Z n0 h0) (E_a1 : Exa Z h0 a1 "java/lang/String") (F_value_a1 : Fld Z h0 a1 "java/lang/String" "value" "[B" (.ref va)) (F_coder_a1 : Fld Z h0 a1 "java/lang/String" "coder" "B" (.int 0)) (V_va : Arv Z h0 va kv .byte (6 : Int32) [(.int (own_b8 v0)), (.int (own_b8 v1)), (.int (own_b8 (92 : Int32))), (.int (own_b8 (120 : Int32))), (.int (own_b8 (own_hx (v2 / (16 : Int32))))), (.int (own_b8 (own_hx (v2 % (16 : Int32)))))] (.int 0)) (bd0 : 0 ≤ v0.toInt ∧ v0.toInt < 256) (pp0 : ¬ v0 = (92 : Int32) ∧ ¬ v0 < (32 : Int32) ∧ ¬ (126 : Int32) < v0) (bd1 : 0 ≤ v1.toInt ∧ v1.toInt < 256) (pp1 : ¬ v1 = (92 : Int32) ∧ ¬ v1 < (32 : Int32) ∧ ¬ (126 : Int32) < v1) (bd2 : 0 ≤ v2.toInt ∧ v2.toInt < 256) (S_C : Sta Z Z.heap "java/lang/String" "COMPACT_STRINGS" "Z" (.int zc)) (hzc : ¬ zc = 0) (S_S : Sta Z Z.heap "jdk/internal/util/Preconditions" "SIOOBE_FORMATTER" "Ljava/util/function/BiFunction;" vS) (hvS : vS.isRef = true) :
    MetFree l (⟨"com/example/rows_to_regions/rowstoregions/KeyText", "unescape", "(Ljava/lang/String;)[B"⟩ : MethodName) (head1 (Jvm.Cond.code (⟨"com/example/rows_to_regions/rowstoregions/KeyText", "unescape", "(Ljava/lang/String;)[B"⟩ : MethodName) prog_10_method_3_code 6 (some (.array .byte)) :: ws) ({ frames := 5, cells := 2, slots := 24, locals := 68 } : Room)) (fun a U => a = #[(.ref a1)] ∧ Z.Warmed39 U.vm ∧ U.heap = h0) (fun _ _ _ _ _ => True) (fun _ U o U' => ∃ v L, o = .returned v ∧ own_unPPE_Q Z a1 va kv v0 v1 v2 zc vS h0 n0 v U'.heap L ∧ FrameEnd U o U' L ({ frames := 5, cells := 2, slots := 24, locals := 68 } : Room).cells ({ frames := 5, cells := 2, slots := 24, locals := 68 } : Room).slots) := by
  refine MetFree.of_bodySF own_unPPE_pn hisR ?_
  intro p e s m args below meth c s₁ Bd hml0 hP hK
  obtain ⟨rfl, hZ, hh⟩ := hP
  have hx := Bd.exec
  have hby := Bd.bytes
  have hlk := Bd.notSynchronized
  have hml : c.maxLocals = 6 := hml0
  have hown : s.vm.findClass "com/example/rows_to_regions/rowstoregions/KeyText" = some m.cls := findClass_of_methodNamed Bd.named
  have hnm := (name_of_methodNamed Bd.named Bd.method).1
  have X : Stand p l e ({ frames := 5, cells := 2, slots := 24, locals := 68 } : Room) s m #[(.ref a1)] below meth c s₁ [] 0 0 := Stand.of_body Bd
  have eT : s₁.heap = h0 := by rw [← hh, Bd.state]; rfl
  have N := Fr.nil n0
  have K0 := Keep.refl h0 []
  show own_Ends p e below (own_Post s below (own_unPPE_Q Z a1 va kv v0 v1 v2 zc vS h0 n0) ({ frames := 5, cells := 2, slots := 24, locals := 68 } : Room).cells ({ frames := 5, cells := 2, slots := 24, locals := 68 } : Room).slots) s₁ (entryFrame m #[(.ref a1)] 6)
  rw [own_unPPE_ef m a1]
  obtain ⟨T, hT⟩ : ∃ z, z = s₁ := ⟨_, rfl⟩
  rw [← hT] at X eT ⊢
  obtain ⟨h, hh0⟩ : ∃ z, z = h0 := ⟨_, rfl⟩
  rw [← hh0] at eT
  replace O : Old Z n0 h := by rw [hh0]; exact O
  replace K0 : Keep h0 h [] := by rw [hh0]; exact K0
  rw [← hh0] at E_a1
  rw [← hh0] at F_value_a1
  rw [← hh0] at F_coder_a1
  rw [← hh0] at V_va
  refine own_via (g' := (mkF m 1 (own_A19 a1) [(.ref a1)])) (fun t_ k_ => XS.aloadN X.here hx rfl (hb hby ep10m3_d0) rfl rfl k_) ?_
  obtain ⟨cq, kq, qa, qb, qc⟩ := isOf hZ eT E_a1
  obtain ⟨_, _, ⟨T, Lq, kq, nq⟩, -, X, ⟨Lc, hQ, lq, yq, zq⟩, st⟩ := X.virtualBack hx (y := own_y6) (z := own_y6) hown (mvT hZ (hw _ (own_w 33 rfl))) (mvT hZ (hw _ (own_w 34 rfl))) (notFace_of_selects (args := #[]) (mvT hZ (hw _ (own_w 36 rfl)))) (mvT hZ (hw _ (own_w 36 rfl))) (mvT hZ (hw _ (own_w 35 rfl))) (by decide) (backOf (W := 0) (own_strlen l Z a0 hw [] a1 va kv (6 : Int32) [(.int (own_b8 v0)), (.int (own_b8 v1)), (.int (own_b8 (92 : Int32))), (.int (own_b8 (120 : Int32))), (.int (own_b8 (own_hx (v2 / (16 : Int32))))), (.int (own_b8 (own_hx (v2 % (16 : Int32)))))] zc h n0 O E_a1 F_value_a1 F_coder_a1 V_va S_C hzc) hZ (hw _ (own_w 37 rfl)) (hw _ (own_w 10 rfl)) (by decide) (by decide)) qa qc (g := (mkF m 1 (own_A19 a1) [(.ref a1)])) rfl (by rw [hml]; rfl) (Steps.refl _) (argsL := []) (rest := []) (lenOf own_pd6 rfl) rfl (by show 2 * 0 + _ ≤ _; exact Nat.le_of_eq rfl) (hb hby ep10m3_d1) (fun _ _ => ⟨rfl, eT, (by decide : 0 + 0 ≤ _), (by decide : 0 + 0 ≤ _)⟩)
  dsimp only [Pt.U, Pt.locs, Pt.cells, Pt.slots] at X lq yq zq st hQ
  subst lq yq zq
  obtain ⟨rfl, Nq, eT⟩ := hQ
  replace N := Fr.app N Nq
  refine own_viaT (g' := (mkF m 4 (own_A19 a1) [(.int 6)])) st ?_
  obtain ⟨b1, gb⟩ : ∃ z, z = h.size := ⟨_, rfl⟩
  obtain ⟨T, h2, kb1, X, eT, E, A_, E_b1, st⟩ := newPE X hx hZ (hw _ (own_w 22 rfl)) eT (g := (mkF m 4 (own_A19 a1) [(.int 6)])) rfl (hb hby ep10m3_d4) rfl (by decide) (cap := 6) (by decide) (by decide) (by decide) (by decide) (ad := "[B") (by decide)
  rw [← gb] at A_ E_b1 st
  have ne_a1_b1 : a1 ≠ b1 := Nat.ne_of_lt (Nat.lt_of_lt_of_le E_a1.lt (Nat.le_of_eq gb.symm))
  have ne_va_b1 : va ≠ b1 := Nat.ne_of_lt (Nat.lt_of_lt_of_le V_va.lt (Nat.le_of_eq gb.symm))
  have g_b1 : n0 ≤ b1 := Nat.le_trans (own_le O) (Nat.le_of_eq gb.symm)
  have sz_b1 : h0.size ≤ b1 := Nat.le_trans K0.1 (Nat.le_of_eq gb.symm)
  replace E_a1 := E_a1.ext E
  replace F_value_a1 := F_value_a1.ext E
  replace F_coder_a1 := F_coder_a1.ext E
  replace V_va := V_va.ext E
  replace O := O.ext E
  replace K0 := K0.ext E
  have V_b1 : Arv Z h2 b1 kb1 .byte (6 : Int32) [(.int 0), (.int 0), (.int 0), (.int 0), (.int 0), (.int 0)] (.int 0) := (Arv.new A_ (by decide)).pad (pad_rep [] (.int 0) 6)
  refine own_via (g' := (mkF m 6 (own_A19 a1) [(.ref b1)])) st ?_
  refine own_via (g' := (mkF m 13 (own_A15 a1 b1 0 0) [(.ref a1), (.int 0)])) (fun t_ k_ => XS.astoreN X.here hx rfl (hb hby ep10m3_d6) rfl rfl (l' := (own_A18 a1 b1)) rfl (XS.iconst X.here hx rfl (hb hby ep10m3_d7) (XS.istoreN X.here hx rfl (hb hby ep10m3_d8) rfl (l' := (own_A17 a1 b1 0)) rfl (XS.iconst X.here hx rfl (hb hby ep10m3_d9) (XS.istoreN X.here hx rfl (hb hby ep10m3_d10) rfl (l' := (own_A15 a1 b1 0 0)) rfl (XS.iloadN X.here hx rfl (hb hby ep10m3_d11) rfl (XS.aloadN X.here hx rfl (hb hby ep10m3_d12) rfl rfl k_))))))) ?_
  obtain ⟨cq, kq, qa, qb, qc⟩ := isOf hZ eT E_a1
  obtain ⟨_, _, ⟨T, Lq, kq, nq⟩, -, X, ⟨Lc, hQ, lq, yq, zq⟩, st⟩ := X.virtualBack hx (y := own_y6) (z := own_y6) hown (mvT hZ (hw _ (own_w 33 rfl))) (mvT hZ (hw _ (own_w 34 rfl))) (notFace_of_selects (args := #[]) (mvT hZ (hw _ (own_w 36 rfl)))) (mvT hZ (hw _ (own_w 36 rfl))) (mvT hZ (hw _ (own_w 35 rfl))) (by decide) (backOf (W := 1) (own_strlen l Z a0 hw [] a1 va kv (6 : Int32) [(.int (own_b8 v0)), (.int (own_b8 v1)), (.int (own_b8 (92 : Int32))), (.int (own_b8 (120 : Int32))), (.int (own_b8 (own_hx (v2 / (16 : Int32))))), (.int (own_b8 (own_hx (v2 % (16 : Int32)))))] zc h2 n0 O E_a1 F_value_a1 F_coder_a1 V_va S_C hzc) hZ (hw _ (own_w 37 rfl)) (hw _ (own_w 10 rfl)) (by decide) (by decide)) qa qc (g := (mkF m 13 (own_A15 a1 b1 0 0) [(.ref a1), (.int 0)])) rfl (by rw [hml]; rfl) (Steps.refl _) (argsL := []) (rest := [(.int 0)]) (lenOf own_pd6 rfl) rfl (by show 2 * 0 + _ ≤ _; exact Nat.le_of_eq rfl) (hb hby ep10m3_d13) (fun _ _ => ⟨rfl, eT, (by decide : 1 + 0 ≤ _), (by decide : 6 + 0 ≤ _)⟩)
  dsimp only [Pt.U, Pt.locs, Pt.cells, Pt.slots] at X lq yq zq st hQ
  subst lq yq zq
  obtain ⟨rfl, Nq, eT⟩ := hQ
  replace N := Fr.app N Nq
  refine own_viaT (g' := (mkF m 16 (own_A15 a1 b1 0 0) [(.int 6), (.int 0)])) st ?_
  refine own_via (g' := (mkF m 21 (own_A15 a1 b1 0 0) [(.int 0), (.ref a1)])) (fun t_ k_ => XS.icmpNo X.here hx rfl (hb hby ep10m3_d16) rfl (tlt (by decide : (0 : Int32) < (6 : Int32))).2.1 (XS.aloadN X.here hx rfl (hb hby ep10m3_d19) rfl rfl (XS.iloadN X.here hx rfl (hb hby ep10m3_d20) rfl k_))) ?_
  obtain ⟨cq, kq, qa, qb, qc⟩ := isOf hZ eT E_a1
  obtain ⟨_, _, ⟨T, Lq, kq, nq⟩, -, X, ⟨Lc, hQ, lq, yq, zq⟩, st⟩ := X.virtualBack hx (y := own_y7) (z := own_y7) hown (mvT hZ (hw _ (own_w 74 rfl))) (mvT hZ (hw _ (own_w 75 rfl))) (notFace_of_selects (args := #[]) (mvT hZ (hw _ (own_w 77 rfl)))) (mvT hZ (hw _ (own_w 77 rfl))) (mvT hZ (hw _ (own_w 76 rfl))) (by decide) (backOf (W := 0) (own_charAt l Z a0 hw [] a1 (0 : Int32) va kv (6 : Int32) [(.int (own_b8 v0)), (.int (own_b8 v1)), (.int (own_b8 (92 : Int32))), (.int (own_b8 (120 : Int32))), (.int (own_b8 (own_hx (v2 / (16 : Int32))))), (.int (own_b8 (own_hx (v2 % (16 : Int32)))))] (own_b8 v0) zc vS h2 n0 O E_a1 F_value_a1 F_coder_a1 V_va S_C hzc (by decide) rfl S_S hvS) hZ (hw _ (own_w 78 rfl)) (hw _ (own_w 10 rfl)) (by decide) (by decide)) qa qc (g := (mkF m 21 (own_A15 a1 b1 0 0) [(.int 0), (.ref a1)])) rfl (by rw [hml]; rfl) (Steps.refl _) (argsL := [(.int 0)]) (rest := []) (lenOf own_pd7 rfl) rfl (by show 2 * 0 + _ ≤ _; exact Nat.le_of_eq rfl) (hb hby ep10m3_d21) (fun _ _ => ⟨rfl, eT, (by decide : 1 + 0 ≤ _), (by decide : 6 + 0 ≤ _)⟩)
  dsimp only [Pt.U, Pt.locs, Pt.cells, Pt.slots] at X lq yq zq st hQ
  subst lq yq zq
  obtain ⟨rfl, Nq, eT⟩ := hQ
  replace N := Fr.app N Nq
  refine own_viaT (g' := (mkF m 24 (own_A15 a1 b1 0 0) [(.int ((own_b8 v0) &&& (255 : Int32)))])) st ?_
  rw [own_b255 bd0.1 bd0.2]
  refine own_via (g' := (mkF m 90 (own_A10 a1 b1 0 0 v0) [])) (fun t_ k_ => XS.istore X.here hx rfl (hb hby ep10m3_d24) rfl (l' := (own_A10 a1 b1 0 0 v0)) rfl (XS.iload X.here hx rfl (hb hby ep10m3_d26) rfl (XS.bipush X.here hx rfl (hb hby ep10m3_d28) (XS.icmpYes X.here hx rfl (pc0 := 30) (pc' := 76) rfl (hb hby ep10m3_d30) rfl (feq pp0.1).2 (by decide) (by decide) (XS.iload X.here hx rfl (hb hby ep10m3_d76) rfl (XS.bipush X.here hx rfl (hb hby ep10m3_d78) (XS.icmpNo X.here hx rfl (hb hby ep10m3_d80) rfl (flt pp0.2.1).1 (XS.iload X.here hx rfl (hb hby ep10m3_d83) rfl (XS.bipush X.here hx rfl (hb hby ep10m3_d85) (XS.icmpNo X.here hx rfl (hb hby ep10m3_d87) rfl (flt pp0.2.2).2.2.1 k_)))))))))) ?_
  refine own_via (g' := (mkF m 98 (own_A10 a1 b1 ((0 : Int32) + (1 : Int32)) 0 v0) [(.int (v0.toInt8.toInt32)), (.int 0), (.ref b1)])) (fun t_ k_ => XS.aloadN X.here hx rfl (hb hby ep10m3_d90) rfl rfl (XS.iloadN X.here hx rfl (hb hby ep10m3_d91) rfl (XS.iinc X.here hx rfl (hb hby ep10m3_d92) rfl (l' := (own_A10 a1 b1 ((0 : Int32) + (1 : Int32)) 0 v0)) rfl (XS.iload X.here hx rfl (hb hby ep10m3_d95) rfl (XS.i2b X.here hx rfl (hb hby ep10m3_d97) rfl k_))))) ?_
  obtain ⟨cl_, Ar_, qk_, Sz_, Nn_, Hs_, Gs_⟩ := id V_b1
  have hin_ : ¬ ((0 : Int32) < 0 ∨ cl_.slots.size ≤ ((0 : Int32)).toNatClampNeg) := inb_of Sz_ ⟨by decide, by decide⟩
  obtain ⟨T, h3, X, eT, W, st⟩ := stB X hx hZ eT Ar_ (j := (0 : Int32)) hin_ (g := (mkF m 98 (own_A10 a1 b1 ((0 : Int32) + (1 : Int32)) 0 v0) [(.int (v0.toInt8.toInt32)), (.int 0), (.ref b1)])) rfl rfl (hb hby ep10m3_d98)
  replace V_b1 : Arv Z h3 b1 kb1 .byte (6 : Int32) [(.int (((v0.toInt8.toInt32)).toInt8.toInt32)), (.int 0), (.int 0), (.int 0), (.int 0), (.int 0)] (.int 0) := Arv.set Ar_ qk_ Sz_ Nn_ Hs_ Gs_ (fits_nar_byte _) W 0 (by decide) (Nat.le_of_ble_eq_true rfl)
  replace E_a1 := E_a1.wr W
  replace F_value_a1 := F_value_a1.other W (Or.inl ne_a1_b1)
  replace F_coder_a1 := F_coder_a1.other W (Or.inl ne_a1_b1)
  replace V_va := V_va.other W ne_va_b1
  replace E_b1 := E_b1.wr W
  replace O := O.wr W g_b1
  replace K0 := K0.wr W (Or.inr sz_b1)
  replace N := Fr.snoc X N g_b1
  refine own_via (g' := (mkF m 99 (own_A10 a1 b1 ((0 : Int32) + (1 : Int32)) 0 v0) [])) st ?_
  refine own_via (g' := (mkF m 11 (own_A10 a1 b1 ((0 : Int32) + (1 : Int32)) ((0 : Int32) + (1 : Int32)) v0) [])) (fun t_ k_ => XS.goto X.here hx rfl (pc0 := 99) (pc' := 136) rfl (hb hby ep10m3_d99) (by decide) (by decide) (XS.iinc X.here hx rfl (hb hby ep10m3_d136) rfl (l' := (own_A10 a1 b1 ((0 : Int32) + (1 : Int32)) ((0 : Int32) + (1 : Int32)) v0)) rfl (XS.goto X.here hx rfl (pc0 := 139) (pc' := 11) rfl (hb hby ep10m3_d139) (by decide) (by decide) k_))) ?_
  rw [(by decide : ((0 : Int32) + (1 : Int32)) = (1 : Int32))]
  refine own_via (g' := (mkF m 13 (own_A10 a1 b1 1 1 v0) [(.ref a1), (.int 1)])) (fun t_ k_ => XS.iloadN X.here hx rfl (hb hby ep10m3_d11) rfl (XS.aloadN X.here hx rfl (hb hby ep10m3_d12) rfl rfl k_)) ?_
  obtain ⟨cq, kq, qa, qb, qc⟩ := isOf hZ eT E_a1
  obtain ⟨_, _, ⟨T, Lq, kq, nq⟩, -, X, ⟨Lc, hQ, lq, yq, zq⟩, st⟩ := X.virtualBack hx (y := own_y6) (z := own_y6) hown (mvT hZ (hw _ (own_w 33 rfl))) (mvT hZ (hw _ (own_w 34 rfl))) (notFace_of_selects (args := #[]) (mvT hZ (hw _ (own_w 36 rfl)))) (mvT hZ (hw _ (own_w 36 rfl))) (mvT hZ (hw _ (own_w 35 rfl))) (by decide) (backOf (W := 1) (own_strlen l Z a0 hw [] a1 va kv (6 : Int32) [(.int (own_b8 v0)), (.int (own_b8 v1)), (.int (own_b8 (92 : Int32))), (.int (own_b8 (120 : Int32))), (.int (own_b8 (own_hx (v2 / (16 : Int32))))), (.int (own_b8 (own_hx (v2 % (16 : Int32)))))] zc h3 n0 O E_a1 F_value_a1 F_coder_a1 V_va S_C hzc) hZ (hw _ (own_w 37 rfl)) (hw _ (own_w 10 rfl)) (by decide) (by decide)) qa qc (g := (mkF m 13 (own_A10 a1 b1 1 1 v0) [(.ref a1), (.int 1)])) rfl (by rw [hml]; rfl) (Steps.refl _) (argsL := []) (rest := [(.int 1)]) (lenOf own_pd6 rfl) rfl (by show 2 * 0 + _ ≤ _; exact Nat.le_of_eq rfl) (hb hby ep10m3_d13) (fun _ _ => ⟨rfl, eT, (by decide : 1 + 0 ≤ _), (by decide : 6 + 0 ≤ _)⟩)
  dsimp only [Pt.U, Pt.locs, Pt.cells, Pt.slots] at X lq yq zq st hQ
  subst lq yq zq
  obtain ⟨rfl, Nq, eT⟩ := hQ
  replace N := Fr.app N Nq
  refine own_viaT (g' := (mkF m 16 (own_A10 a1 b1 1 1 v0) [(.int 6), (.int 1)])) st ?_
  refine own_via (g' := (mkF m 21 (own_A10 a1 b1 1 1 v0) [(.int 1), (.ref a1)])) (fun t_ k_ => XS.icmpNo X.here hx rfl (hb hby ep10m3_d16) rfl (tlt (by decide : (1 : Int32) < (6 : Int32))).2.1 (XS.aloadN X.here hx rfl (hb hby ep10m3_d19) rfl rfl (XS.iloadN X.here hx rfl (hb hby ep10m3_d20) rfl k_))) ?_
  obtain ⟨cq, kq, qa, qb, qc⟩ := isOf hZ eT E_a1
  obtain ⟨_, _, ⟨T, Lq, kq, nq⟩, -, X, ⟨Lc, hQ, lq, yq, zq⟩, st⟩ := X.virtualBack hx (y := own_y7) (z := own_y7) hown (mvT hZ (hw _ (own_w 74 rfl))) (mvT hZ (hw _ (own_w 75 rfl))) (notFace_of_selects (args := #[]) (mvT hZ (hw _ (own_w 77 rfl)))) (mvT hZ (hw _ (own_w 77 rfl))) (mvT hZ (hw _ (own_w 76 rfl))) (by decide) (backOf (W := 0) (own_charAt l Z a0 hw [] a1 (1 : Int32) va kv (6 : Int32) [(.int (own_b8 v0)), (.int (own_b8 v1)), (.int (own_b8 (92 : Int32))), (.int (own_b8 (120 : Int32))), (.int (own_b8 (own_hx (v2 / (16 : Int32))))), (.int (own_b8 (own_hx (v2 % (16 : Int32)))))] (own_b8 v1) zc vS h3 n0 O E_a1 F_value_a1 F_coder_a1 V_va S_C hzc (by decide) rfl S_S hvS) hZ (hw _ (own_w 78 rfl)) (hw _ (own_w 10 rfl)) (by decide) (by decide)) qa qc (g := (mkF m 21 (own_A10 a1 b1 1 1 v0) [(.int 1), (.ref a1)])) rfl (by rw [hml]; rfl) (Steps.refl _) (argsL := [(.int 1)]) (rest := []) (lenOf own_pd7 rfl) rfl (by show 2 * 0 + _ ≤ _; exact Nat.le_of_eq rfl) (hb hby ep10m3_d21) (fun _ _ => ⟨rfl, eT, (by decide : 1 + 0 ≤ _), (by decide : 6 + 0 ≤ _)⟩)
  dsimp only [Pt.U, Pt.locs, Pt.cells, Pt.slots] at X lq yq zq st hQ
  subst lq yq zq
  obtain ⟨rfl, Nq, eT⟩ := hQ
  replace N := Fr.app N Nq
  refine own_viaT (g' := (mkF m 24 (own_A10 a1 b1 1 1 v0) [(.int ((own_b8 v1) &&& (255 : Int32)))])) st ?_
  rw [own_b255 bd1.1 bd1.2]
  refine own_via (g' := (mkF m 90 (own_A10 a1 b1 1 1 v1) [])) (fun t_ k_ => XS.istore X.here hx rfl (hb hby ep10m3_d24) rfl (l' := (own_A10 a1 b1 1 1 v1)) rfl (XS.iload X.here hx rfl (hb hby ep10m3_d26) rfl (XS.bipush X.here hx rfl (hb hby ep10m3_d28) (XS.icmpYes X.here hx rfl (pc0 := 30) (pc' := 76) rfl (hb hby ep10m3_d30) rfl (feq pp1.1).2 (by decide) (by decide) (XS.iload X.here hx rfl (hb hby ep10m3_d76) rfl (XS.bipush X.here hx rfl (hb hby ep10m3_d78) (XS.icmpNo X.here hx rfl (hb hby ep10m3_d80) rfl (flt pp1.2.1).1 (XS.iload X.here hx rfl (hb hby ep10m3_d83) rfl (XS.bipush X.here hx rfl (hb hby ep10m3_d85) (XS.icmpNo X.here hx rfl (hb hby ep10m3_d87) rfl (flt pp1.2.2).2.2.1 k_)))))))))) ?_
  refine own_via (g' := (mkF m 98 (own_A10 a1 b1 ((1 : Int32) + (1 : Int32)) 1 v1) [(.int (v1.toInt8.toInt32)), (.int 1), (.ref b1)])) (fun t_ k_ => XS.aloadN X.here hx rfl (hb hby ep10m3_d90) rfl rfl (XS.iloadN X.here hx rfl (hb hby ep10m3_d91) rfl (XS.iinc X.here hx rfl (hb hby ep10m3_d92) rfl (l' := (own_A10 a1 b1 ((1 : Int32) + (1 : Int32)) 1 v1)) rfl (XS.iload X.here hx rfl (hb hby ep10m3_d95) rfl (XS.i2b X.here hx rfl (hb hby ep10m3_d97) rfl k_))))) ?_
  obtain ⟨cl_, Ar_, qk_, Sz_, Nn_, Hs_, Gs_⟩ := id V_b1
  have hin_ : ¬ ((1 : Int32) < 0 ∨ cl_.slots.size ≤ ((1 : Int32)).toNatClampNeg) := inb_of Sz_ ⟨by decide, by decide⟩
  obtain ⟨T, h4, X, eT, W, st⟩ := stB X hx hZ eT Ar_ (j := (1 : Int32)) hin_ (g := (mkF m 98 (own_A10 a1 b1 ((1 : Int32) + (1 : Int32)) 1 v1) [(.int (v1.toInt8.toInt32)), (.int 1), (.ref b1)])) rfl rfl (hb hby ep10m3_d98)
  replace V_b1 : Arv Z h4 b1 kb1 .byte (6 : Int32) [(.int (((v0.toInt8.toInt32)).toInt8.toInt32)), (.int (((v1.toInt8.toInt32)).toInt8.toInt32)), (.int 0), (.int 0), (.int 0), (.int 0)] (.int 0) := Arv.set Ar_ qk_ Sz_ Nn_ Hs_ Gs_ (fits_nar_byte _) W 1 (by decide) (Nat.le_of_ble_eq_true rfl)
  replace E_a1 := E_a1.wr W
  replace F_value_a1 := F_value_a1.other W (Or.inl ne_a1_b1)
  replace F_coder_a1 := F_coder_a1.other W (Or.inl ne_a1_b1)
  replace V_va := V_va.other W ne_va_b1
  replace E_b1 := E_b1.wr W
  replace O := O.wr W g_b1
  replace K0 := K0.wr W (Or.inr sz_b1)
  replace N := Fr.snoc X N g_b1
  refine own_via (g' := (mkF m 99 (own_A10 a1 b1 ((1 : Int32) + (1 : Int32)) 1 v1) [])) st ?_
  refine own_via (g' := (mkF m 11 (own_A10 a1 b1 ((1 : Int32) + (1 : Int32)) ((1 : Int32) + (1 : Int32)) v1) [])) (fun t_ k_ => XS.goto X.here hx rfl (pc0 := 99) (pc' := 136) rfl (hb hby ep10m3_d99) (by decide) (by decide) (XS.iinc X.here hx rfl (hb hby ep10m3_d136) rfl (l' := (own_A10 a1 b1 ((1 : Int32) + (1 : Int32)) ((1 : Int32) + (1 : Int32)) v1)) rfl (XS.goto X.here hx rfl (pc0 := 139) (pc' := 11) rfl (hb hby ep10m3_d139) (by decide) (by decide) k_))) ?_
  rw [(by decide : ((1 : Int32) + (1 : Int32)) = (2 : Int32))]
  refine own_via (g' := (mkF m 13 (own_A10 a1 b1 2 2 v1) [(.ref a1), (.int 2)])) (fun t_ k_ => XS.iloadN X.here hx rfl (hb hby ep10m3_d11) rfl (XS.aloadN X.here hx rfl (hb hby ep10m3_d12) rfl rfl k_)) ?_
  obtain ⟨cq, kq, qa, qb, qc⟩ := isOf hZ eT E_a1
  obtain ⟨_, _, ⟨T, Lq, kq, nq⟩, -, X, ⟨Lc, hQ, lq, yq, zq⟩, st⟩ := X.virtualBack hx (y := own_y6) (z := own_y6) hown (mvT hZ (hw _ (own_w 33 rfl))) (mvT hZ (hw _ (own_w 34 rfl))) (notFace_of_selects (args := #[]) (mvT hZ (hw _ (own_w 36 rfl)))) (mvT hZ (hw _ (own_w 36 rfl))) (mvT hZ (hw _ (own_w 35 rfl))) (by decide) (backOf (W := 1) (own_strlen l Z a0 hw [] a1 va kv (6 : Int32) [(.int (own_b8 v0)), (.int (own_b8 v1)), (.int (own_b8 (92 : Int32))), (.int (own_b8 (120 : Int32))), (.int (own_b8 (own_hx (v2 / (16 : Int32))))), (.int (own_b8 (own_hx (v2 % (16 : Int32)))))] zc h4 n0 O E_a1 F_value_a1 F_coder_a1 V_va S_C hzc) hZ (hw _ (own_w 37 rfl)) (hw _ (own_w 10 rfl)) (by decide) (by decide)) qa qc (g := (mkF m 13 (own_A10 a1 b1 2 2 v1) [(.ref a1), (.int 2)])) rfl (by rw [hml]; rfl) (Steps.refl _) (argsL := []) (rest := [(.int 2)]) (lenOf own_pd6 rfl) rfl (by show 2 * 0 + _ ≤ _; exact Nat.le_of_eq rfl) (hb hby ep10m3_d13) (fun _ _ => ⟨rfl, eT, (by decide : 1 + 0 ≤ _), (by decide : 6 + 0 ≤ _)⟩)
  dsimp only [Pt.U, Pt.locs, Pt.cells, Pt.slots] at X lq yq zq st hQ
  subst lq yq zq
  obtain ⟨rfl, Nq, eT⟩ := hQ
  replace N := Fr.app N Nq
  refine own_viaT (g' := (mkF m 16 (own_A10 a1 b1 2 2 v1) [(.int 6), (.int 2)])) st ?_
  refine own_via (g' := (mkF m 21 (own_A10 a1 b1 2 2 v1) [(.int 2), (.ref a1)])) (fun t_ k_ => XS.icmpNo X.here hx rfl (hb hby ep10m3_d16) rfl (tlt (by decide : (2 : Int32) < (6 : Int32))).2.1 (XS.aloadN X.here hx rfl (hb hby ep10m3_d19) rfl rfl (XS.iloadN X.here hx rfl (hb hby ep10m3_d20) rfl k_))) ?_
  obtain ⟨cq, kq, qa, qb, qc⟩ := isOf hZ eT E_a1
  obtain ⟨_, _, ⟨T, Lq, kq, nq⟩, -, X, ⟨Lc, hQ, lq, yq, zq⟩, st⟩ := X.virtualBack hx (y := own_y7) (z := own_y7) hown (mvT hZ (hw _ (own_w 74 rfl))) (mvT hZ (hw _ (own_w 75 rfl))) (notFace_of_selects (args := #[]) (mvT hZ (hw _ (own_w 77 rfl)))) (mvT hZ (hw _ (own_w 77 rfl))) (mvT hZ (hw _ (own_w 76 rfl))) (by decide) (backOf (W := 0) (own_charAt l Z a0 hw [] a1 (2 : Int32) va kv (6 : Int32) [(.int (own_b8 v0)), (.int (own_b8 v1)), (.int (own_b8 (92 : Int32))), (.int (own_b8 (120 : Int32))), (.int (own_b8 (own_hx (v2 / (16 : Int32))))), (.int (own_b8 (own_hx (v2 % (16 : Int32)))))] (own_b8 (92 : Int32)) zc vS h4 n0 O E_a1 F_value_a1 F_coder_a1 V_va S_C hzc (by decide) rfl S_S hvS) hZ (hw _ (own_w 78 rfl)) (hw _ (own_w 10 rfl)) (by decide) (by decide)) qa qc (g := (mkF m 21 (own_A10 a1 b1 2 2 v1) [(.int 2), (.ref a1)])) rfl (by rw [hml]; rfl) (Steps.refl _) (argsL := [(.int 2)]) (rest := []) (lenOf own_pd7 rfl) rfl (by show 2 * 0 + _ ≤ _; exact Nat.le_of_eq rfl) (hb hby ep10m3_d21) (fun _ _ => ⟨rfl, eT, (by decide : 1 + 0 ≤ _), (by decide : 6 + 0 ≤ _)⟩)
  dsimp only [Pt.U, Pt.locs, Pt.cells, Pt.slots] at X lq yq zq st hQ
  subst lq yq zq
  obtain ⟨rfl, Nq, eT⟩ := hQ
  replace N := Fr.app N Nq
  refine own_viaT (g' := (mkF m 24 (own_A10 a1 b1 2 2 v1) [(.int ((own_b8 (92 : Int32)) &&& (255 : Int32)))])) st ?_
  rw [(by decide : ((own_b8 (92 : Int32)) &&& (255 : Int32)) = (92 : Int32))]
  refine own_via (g' := (mkF m 35 (own_A10 a1 b1 2 2 92) [(.int 2), (.ref a1)])) (fun t_ k_ => XS.istore X.here hx rfl (hb hby ep10m3_d24) rfl (l' := (own_A10 a1 b1 2 2 92)) rfl (XS.iload X.here hx rfl (hb hby ep10m3_d26) rfl (XS.bipush X.here hx rfl (hb hby ep10m3_d28) (XS.icmpNo X.here hx rfl (hb hby ep10m3_d30) rfl (teq (by decide : (92 : Int32) = (92 : Int32))).2 (XS.aloadN X.here hx rfl (hb hby ep10m3_d33) rfl rfl (XS.iloadN X.here hx rfl (hb hby ep10m3_d34) rfl k_)))))) ?_
  obtain ⟨_, _, ⟨T, Lq, kq, nq⟩, -, X, ⟨Lc, hQ, lq, yq, zq⟩, st⟩ := Jvm.LawKit.callS X hx (y := own_y10) hown (mvT hZ (hw _ (own_w 96 rfl))) (mvT hZ (hw _ (own_w 97 rfl))) (mvT hZ (hw _ (own_w 31 rfl))) (mvT hZ (hw _ (own_w 98 rfl))) (by decide) (backOf (W := 0) (own_escByte l Z a0 hw [] a1 va kv (6 : Int32) [(.int (own_b8 v0)), (.int (own_b8 v1)), (.int (own_b8 (92 : Int32))), (.int (own_b8 (120 : Int32))), (.int (own_b8 (own_hx (v2 / (16 : Int32))))), (.int (own_b8 (own_hx (v2 % (16 : Int32)))))] (2 : Int32) v2 (own_b8 (120 : Int32)) (own_b8 (own_hx (v2 / (16 : Int32)))) (own_b8 (own_hx (v2 % (16 : Int32)))) zc vS h4 n0 O E_a1 F_value_a1 F_coder_a1 V_va (by decide) rfl (by decide) (by decide) rfl (own_b255 (own_hxB (own_hi bd2.1 bd2.2).2.1 (own_hi bd2.1 bd2.2).2.2).1 (own_hxB (own_hi bd2.1 bd2.2).2.1 (own_hi bd2.1 bd2.2).2.2).2) (by decide) rfl (own_b255 (own_hxB (own_lo bd2.1 bd2.2).2.1 (own_lo bd2.1 bd2.2).2.2).1 (own_hxB (own_lo bd2.1 bd2.2).2.1 (own_lo bd2.1 bd2.2).2.2).2) bd2 S_C hzc S_S hvS) hZ (hw _ (own_w 98 rfl)) (hw _ (own_w 31 rfl)) (by decide) (by decide)) (g := (mkF m 35 (own_A10 a1 b1 2 2 92) [(.int 2), (.ref a1)])) rfl (by rw [hml]; rfl) (argsL := [(.ref a1), (.int 2)]) (rest := []) (lenOf own_pd10 rfl) rfl (by show 2 * 0 + _ ≤ _; exact Nat.le_of_eq rfl) (hb hby ep10m3_d35) (fun _ _ => ⟨rfl, eT, (by decide : 1 + 0 ≤ _), (by decide : 6 + 0 ≤ _)⟩)
  dsimp only [Pt.U, Pt.locs, Pt.cells, Pt.slots] at X lq yq zq st hQ
  subst lq yq zq
  obtain ⟨rfl, Nq, eT⟩ := hQ
  replace N := Fr.app N Nq
  refine own_via (g' := (mkF m 38 (own_A10 a1 b1 2 2 92) [(.int v2)])) st ?_
  refine own_via (g' := (mkF m 69 (own_A8 a1 b1 ((2 : Int32) + (1 : Int32)) 2 92 v2) [(.int (v2.toInt8.toInt32)), (.int 2), (.ref b1)])) (fun t_ k_ => XS.istore X.here hx rfl (hb hby ep10m3_d38) rfl (l' := #[.val (.ref a1), .val (.ref b1), .val (.int 2), .val (.int 2), .val (.int 92), .val (.int v2)]) rfl (XS.iload X.here hx rfl (hb hby ep10m3_d40) rfl (XS.ifYes X.here hx rfl (pc0 := 42) (pc' := 61) rfl (hb hby ep10m3_d42) rfl ((if0 _ _).trans (flt (own_nn bd2.1)).2.1) (by decide) (by decide) (XS.aloadN X.here hx rfl (hb hby ep10m3_d61) rfl rfl (XS.iloadN X.here hx rfl (hb hby ep10m3_d62) rfl (XS.iinc X.here hx rfl (hb hby ep10m3_d63) rfl (l' := (own_A8 a1 b1 ((2 : Int32) + (1 : Int32)) 2 92 v2)) rfl (XS.iload X.here hx rfl (hb hby ep10m3_d66) rfl (XS.i2b X.here hx rfl (hb hby ep10m3_d68) rfl k_)))))))) ?_
  obtain ⟨cl_, Ar_, qk_, Sz_, Nn_, Hs_, Gs_⟩ := id V_b1
  have hin_ : ¬ ((2 : Int32) < 0 ∨ cl_.slots.size ≤ ((2 : Int32)).toNatClampNeg) := inb_of Sz_ ⟨by decide, by decide⟩
  obtain ⟨T, h5, X, eT, W, st⟩ := stB X hx hZ eT Ar_ (j := (2 : Int32)) hin_ (g := (mkF m 69 (own_A8 a1 b1 ((2 : Int32) + (1 : Int32)) 2 92 v2) [(.int (v2.toInt8.toInt32)), (.int 2), (.ref b1)])) rfl rfl (hb hby ep10m3_d69)
  replace V_b1 : Arv Z h5 b1 kb1 .byte (6 : Int32) [(.int (((v0.toInt8.toInt32)).toInt8.toInt32)), (.int (((v1.toInt8.toInt32)).toInt8.toInt32)), (.int (((v2.toInt8.toInt32)).toInt8.toInt32)), (.int 0), (.int 0), (.int 0)] (.int 0) := Arv.set Ar_ qk_ Sz_ Nn_ Hs_ Gs_ (fits_nar_byte _) W 2 (by decide) (Nat.le_of_ble_eq_true rfl)
  replace E_a1 := E_a1.wr W
  replace F_value_a1 := F_value_a1.other W (Or.inl ne_a1_b1)
  replace F_coder_a1 := F_coder_a1.other W (Or.inl ne_a1_b1)
  replace V_va := V_va.other W ne_va_b1
  replace E_b1 := E_b1.wr W
  replace O := O.wr W g_b1
  replace K0 := K0.wr W (Or.inr sz_b1)
  replace N := Fr.snoc X N g_b1
  refine own_via (g' := (mkF m 70 (own_A8 a1 b1 ((2 : Int32) + (1 : Int32)) 2 92 v2) [])) st ?_
  refine own_via (g' := (mkF m 11 (own_A8 a1 b1 ((2 : Int32) + (1 : Int32)) (((2 : Int32) + (3 : Int32)) + (1 : Int32)) 92 v2) [])) (fun t_ k_ => XS.iinc X.here hx rfl (hb hby ep10m3_d70) rfl (l' := #[.val (.ref a1), .val (.ref b1), .val (.int ((2 : Int32) + (1 : Int32))), .val (.int ((2 : Int32) + (3 : Int32))), .val (.int 92), .val (.int v2)]) rfl (XS.goto X.here hx rfl (pc0 := 73) (pc' := 136) rfl (hb hby ep10m3_d73) (by decide) (by decide) (XS.iinc X.here hx rfl (hb hby ep10m3_d136) rfl (l' := (own_A8 a1 b1 ((2 : Int32) + (1 : Int32)) (((2 : Int32) + (3 : Int32)) + (1 : Int32)) 92 v2)) rfl (XS.goto X.here hx rfl (pc0 := 139) (pc' := 11) rfl (hb hby ep10m3_d139) (by decide) (by decide) k_)))) ?_
  rw [(by decide : ((2 : Int32) + (1 : Int32)) = (3 : Int32))]
  rw [(by decide : (((2 : Int32) + (3 : Int32)) + (1 : Int32)) = (6 : Int32))]
  refine own_via (g' := (mkF m 13 (own_A8 a1 b1 3 6 92 v2) [(.ref a1), (.int 6)])) (fun t_ k_ => XS.iloadN X.here hx rfl (hb hby ep10m3_d11) rfl (XS.aloadN X.here hx rfl (hb hby ep10m3_d12) rfl rfl k_)) ?_
  obtain ⟨cq, kq, qa, qb, qc⟩ := isOf hZ eT E_a1
  obtain ⟨_, _, ⟨T, Lq, kq, nq⟩, -, X, ⟨Lc, hQ, lq, yq, zq⟩, st⟩ := X.virtualBack hx (y := own_y6) (z := own_y6) hown (mvT hZ (hw _ (own_w 33 rfl))) (mvT hZ (hw _ (own_w 34 rfl))) (notFace_of_selects (args := #[]) (mvT hZ (hw _ (own_w 36 rfl)))) (mvT hZ (hw _ (own_w 36 rfl))) (mvT hZ (hw _ (own_w 35 rfl))) (by decide) (backOf (W := 1) (own_strlen l Z a0 hw [] a1 va kv (6 : Int32) [(.int (own_b8 v0)), (.int (own_b8 v1)), (.int (own_b8 (92 : Int32))), (.int (own_b8 (120 : Int32))), (.int (own_b8 (own_hx (v2 / (16 : Int32))))), (.int (own_b8 (own_hx (v2 % (16 : Int32)))))] zc h5 n0 O E_a1 F_value_a1 F_coder_a1 V_va S_C hzc) hZ (hw _ (own_w 37 rfl)) (hw _ (own_w 10 rfl)) (by decide) (by decide)) qa qc (g := (mkF m 13 (own_A8 a1 b1 3 6 92 v2) [(.ref a1), (.int 6)])) rfl (by rw [hml]; rfl) (Steps.refl _) (argsL := []) (rest := [(.int 6)]) (lenOf own_pd6 rfl) rfl (by show 2 * 0 + _ ≤ _; exact Nat.le_of_eq rfl) (hb hby ep10m3_d13) (fun _ _ => ⟨rfl, eT, (by decide : 1 + 0 ≤ _), (by decide : 6 + 0 ≤ _)⟩)
  dsimp only [Pt.U, Pt.locs, Pt.cells, Pt.slots] at X lq yq zq st hQ
  subst lq yq zq
  obtain ⟨rfl, Nq, eT⟩ := hQ
  replace N := Fr.app N Nq
  refine own_viaT (g' := (mkF m 16 (own_A8 a1 b1 3 6 92 v2) [(.int 6), (.int 6)])) st ?_
  refine own_via (g' := (mkF m 144 (own_A8 a1 b1 3 6 92 v2) [(.int 3), (.ref b1)])) (fun t_ k_ => XS.icmpYes X.here hx rfl (pc0 := 16) (pc' := 142) rfl (hb hby ep10m3_d16) rfl (flt (by decide : ¬ ((6 : Int32) < (6 : Int32)))).2.1 (by decide) (by decide) (XS.aloadN X.here hx rfl (hb hby ep10m3_d142) rfl rfl (XS.iloadN X.here hx rfl (hb hby ep10m3_d143) rfl k_))) ?_
  replace V_b1 : Arv Z h5 b1 kb1 .byte (6 : Int32) [(.int (own_sb v0)), (.int (own_sb v1)), (.int (own_sb v2))] (.int 0) := V_b1.pad (fun i => (pad_rep [(.int (own_sb v0)), (.int (own_sb v1)), (.int (own_sb v2))] (.int 0) 3 i).symm)
  obtain ⟨_, _, ⟨T, Lq, kq, nq⟩, -, X, ⟨Lc, hQ, lq, yq, zq⟩, st⟩ := Jvm.LawKit.callS X hx (y := own_y9) hown (mvT hZ (hw _ (own_w 44 rfl))) (mvT hZ (hw _ (own_w 45 rfl))) (mvT hZ (hw _ (own_w 46 rfl))) (mvT hZ (hw _ (own_w 47 rfl))) (by decide) (backOf (W := 0) (own_copyOf l Z a0 hw [] b1 kb1 (3 : Int32) (6 : Int32) [(.int (own_sb v0)), (.int (own_sb v1)), (.int (own_sb v2))] h5 n0 O E_b1 V_b1 (by decide) rfl) hZ (hw _ (own_w 47 rfl)) (hw _ (own_w 46 rfl)) (by decide) (by decide)) (g := (mkF m 144 (own_A8 a1 b1 3 6 92 v2) [(.int 3), (.ref b1)])) rfl (by rw [hml]; rfl) (argsL := [(.ref b1), (.int 3)]) (rest := []) (lenOf own_pd9 rfl) rfl (by show 2 * 0 + _ ≤ _; exact Nat.le_of_eq rfl) (hb hby ep10m3_d144) (fun _ _ => ⟨rfl, eT, (by decide : 1 + 1 ≤ _), (by decide : 6 + 12 ≤ _)⟩)
  dsimp only [Pt.U, Pt.locs, Pt.cells, Pt.slots] at X lq yq zq st hQ
  subst lq yq zq
  obtain ⟨bn, kbn, rfl, Nq, Kq, szq, V_bn, E_bn⟩ := hQ
  replace N := Fr.app N Nq
  obtain ⟨h6, eT⟩ : ∃ z, T.heap = z := ⟨_, rfl⟩
  rw [eT] at Kq V_bn E_bn
  have ne_a1_bn : a1 ≠ bn := Nat.ne_of_lt (Nat.lt_of_lt_of_le E_a1.lt szq)
  have ne_b1_bn : b1 ≠ bn := Nat.ne_of_lt (Nat.lt_of_lt_of_le E_b1.lt szq)
  have ne_va_bn : va ≠ bn := Nat.ne_of_lt (Nat.lt_of_lt_of_le V_va.lt szq)
  have g_bn : n0 ≤ bn := Nat.le_trans (own_le O) szq
  have sz_bn : h0.size ≤ bn := Nat.le_trans K0.1 szq
  replace E_a1 := E_a1.keep Kq
  replace F_value_a1 := F_value_a1.keep Kq nin0
  replace F_coder_a1 := F_coder_a1.keep Kq nin0
  replace V_va := V_va.keep Kq nin0
  replace E_b1 := E_b1.keep Kq
  replace V_b1 := V_b1.keep Kq nin0
  replace O := O.keep Kq all0
  replace K0 := K0.trans Kq all0
  refine own_via (g' := (mkF m 147 (own_A8 a1 b1 3 6 92 v2) [(.ref bn)])) st ?_
  refine own_retW X hx hlk Bd.returns rfl (Or.inr (Or.inr (Or.inr (Or.inr ⟨rfl, rfl, rfl⟩)))) (hb hby ep10m3_d147) (by decide) (by decide) ?_
  rw [eT]
  exact ⟨bn, kbn, rfl, N, K0, sz_bn, V_bn, E_bn⟩
theorem own_unPEP_pn : plainFor (⟨"com/example/rows_to_regions/rowstoregions/KeyText", "unescape", "(Ljava/lang/String;)[B"⟩ : MethodName) = true := by first | exact plainFor_of_name (by first | (simp [plainName, overriddenIn]; done) | decide +kernel) | decide +kernel | exact Jvm.Free.JP.mathPlain rfl (by decide +kernel)
theorem own_unPEP_ef (m : MethodId) (x0 : Addr) : entryFrame m #[(.ref x0)] 6 = mkF m 0 #[.val (.ref x0), .unset, .unset, .unset, .unset, .unset] [] := by first | (simp [entryFrame, mkF, argsToLocals, Value.category]; done) | rfl
def own_unPEP_Q (Z : State) (a1 : Addr) (va : Addr) (kv : ClassId) (v0 : Int32) (v1 : Int32) (v2 : Int32) (zc : Int32) (vS : Value) (h0 : Heap) (n0 : Nat) (v : Option Value) (h : Heap) (L : List Loc) : Prop := ∃ b kb, v = some (.ref b) ∧ Fr n0 L ∧ Keep h0 h [] ∧ h0.size ≤ b ∧ Arv Z h b kb .byte (3 : Int32) [(.int (own_sb v0)), (.int (own_sb v1)), (.int (own_sb v2))] (.int 0) ∧ Exa Z h b "[B"
set_option maxRecDepth 65536 in
set_option maxHeartbeats 40000000 in
theorem own_unPEP (l : Launch) (Z : State) (a0 : Array Value) (hw : ∀ d ∈ tables_1, d.before a0 Z = true) (ws : List Jvm.Cond) (a1 : Addr) (va : Addr) (kv : ClassId) (v0 : Int32) (v1 : Int32) (v2 : Int32) (zc : Int32) (vS : Value) (h0 : Heap) (n0 : Nat) (O : Old Z n0 h0) (E_a1 : Exa Z h0 a1 "java/lang/String") (F_value_a1 : Fld Z h0 a1 "java/lang/String" "value" "[B" (.ref va)) (F_coder_a1 : Fld Z h0 a1 "java/lang/String" "coder" "B" (.int 0)) (V_va : Arv Z h0 va kv .byte (6 : Int32) [(.int (own_b8 v0)), (.int (own_b8 (92 : Int32))), (.int (own_b8 (120 : Int32))), (.int (own_b8 (own_hx (v1 / (16 : Int32))))), (.int (own_b8 (own_hx (v1 % (16 : Int32))))), (.int (own_b8 v2))] (.int 0)) (bd0 : 0 ≤ v0.toInt ∧ v0.toInt < 256) (pp0 : ¬ v0 = (92 : Int32) ∧ ¬ v0 < (32 : Int32) ∧ ¬ (126 : Int32) < v0) (bd1 : 0 ≤ v1.toInt ∧ v1.toInt < 256) (bd2 : 0 ≤ v2.toInt ∧ v2.toInt < 256) (pp2 : ¬ v2 = (92 : Int32) ∧ ¬ v2 < (32 : Int32) ∧ ¬ (126 : Int32) < v2) (S_C : Sta Z Z.heap "java/lang/String" "COMPACT_STRINGS" "Z" (.int zc)) (hzc : ¬ zc = 0) (S_S : Sta Z Z.heap "jdk/internal/util/Preconditions" "SIOOBE_FORMATTER" "Ljava/util/function/BiFunction;" vS) (hvS : vS.isRef = true) :
    MetFree l (⟨"com/example/rows_to_regions/rowstoregions/KeyText", "unescape", "(Ljava/lang/String;)[B"⟩ : MethodName) (head1 (Jvm.Cond.code (⟨"com/example/rows_to_regions/rowstoregions/KeyText", "unescape", "(Ljava/lang/String;)[B"⟩ : MethodName) prog_10_method_3_code 6 (some (.array .byte)) :: ws) ({ frames := 5, cells := 2, slots := 24, locals := 68 } : Room)) (fun a U => a = #[(.ref a1)] ∧ Z.Warmed39 U.vm ∧ U.heap = h0) (fun _ _ _ _ _ => True) (fun _ U o U' => ∃ v L, o = .returned v ∧ own_unPEP_Q Z a1 va kv v0 v1 v2 zc vS h0 n0 v U'.heap L ∧ FrameEnd U o U' L ({ frames := 5, cells := 2, slots := 24, locals := 68 } : Room).cells ({ frames := 5, cells := 2, slots := 24, locals := 68 } : Room).slots) := by
  refine MetFree.of_bodySF own_unPEP_pn hisR ?_
  intro p e s m args below meth c s₁ Bd hml0 hP hK
  obtain ⟨rfl, hZ, hh⟩ := hP
  have hx := Bd.exec
  have hby := Bd.bytes
  have hlk := Bd.notSynchronized
  have hml : c.maxLocals = 6 := hml0
  have hown : s.vm.findClass "com/example/rows_to_regions/rowstoregions/KeyText" = some m.cls := findClass_of_methodNamed Bd.named
  have hnm := (name_of_methodNamed Bd.named Bd.method).1
  have X : Stand p l e ({ frames := 5, cells := 2, slots := 24, locals := 68 } : Room) s m #[(.ref a1)] below meth c s₁ [] 0 0 := Stand.of_body Bd
  have eT : s₁.heap = h0 := by rw [← hh, Bd.state]; rfl
  have N := Fr.nil n0
  have K0 := Keep.refl h0 []
  show own_Ends p e below (own_Post s below (own_unPEP_Q Z a1 va kv v0 v1 v2 zc vS h0 n0) ({ frames := 5, cells := 2, slots := 24, locals := 68 } : Room).cells ({ frames := 5, cells := 2, slots := 24, locals := 68 } : Room).slots) s₁ (entryFrame m #[(.ref a1)] 6)
  rw [own_unPEP_ef m a1]
  obtain ⟨T, hT⟩ : ∃ z, z = s₁ := ⟨_, rfl⟩
  rw [← hT] at X eT ⊢
  obtain ⟨h, hh0⟩ : ∃ z, z = h0 := ⟨_, rfl⟩
  rw [← hh0] at eT
  replace O : Old Z n0 h := by rw [hh0]; exact O
  replace K0 : Keep h0 h [] := by rw [hh0]; exact K0
  rw [← hh0] at E_a1
  rw [← hh0] at F_value_a1
  rw [← hh0] at F_coder_a1
  rw [← hh0] at V_va
  refine own_via (g' := (mkF m 1 (own_A19 a1) [(.ref a1)])) (fun t_ k_ => XS.aloadN X.here hx rfl (hb hby ep10m3_d0) rfl rfl k_) ?_
  obtain ⟨cq, kq, qa, qb, qc⟩ := isOf hZ eT E_a1
  obtain ⟨_, _, ⟨T, Lq, kq, nq⟩, -, X, ⟨Lc, hQ, lq, yq, zq⟩, st⟩ := X.virtualBack hx (y := own_y6) (z := own_y6) hown (mvT hZ (hw _ (own_w 33 rfl))) (mvT hZ (hw _ (own_w 34 rfl))) (notFace_of_selects (args := #[]) (mvT hZ (hw _ (own_w 36 rfl)))) (mvT hZ (hw _ (own_w 36 rfl))) (mvT hZ (hw _ (own_w 35 rfl))) (by decide) (backOf (W := 0) (own_strlen l Z a0 hw [] a1 va kv (6 : Int32) [(.int (own_b8 v0)), (.int (own_b8 (92 : Int32))), (.int (own_b8 (120 : Int32))), (.int (own_b8 (own_hx (v1 / (16 : Int32))))), (.int (own_b8 (own_hx (v1 % (16 : Int32))))), (.int (own_b8 v2))] zc h n0 O E_a1 F_value_a1 F_coder_a1 V_va S_C hzc) hZ (hw _ (own_w 37 rfl)) (hw _ (own_w 10 rfl)) (by decide) (by decide)) qa qc (g := (mkF m 1 (own_A19 a1) [(.ref a1)])) rfl (by rw [hml]; rfl) (Steps.refl _) (argsL := []) (rest := []) (lenOf own_pd6 rfl) rfl (by show 2 * 0 + _ ≤ _; exact Nat.le_of_eq rfl) (hb hby ep10m3_d1) (fun _ _ => ⟨rfl, eT, (by decide : 0 + 0 ≤ _), (by decide : 0 + 0 ≤ _)⟩)
  dsimp only [Pt.U, Pt.locs, Pt.cells, Pt.slots] at X lq yq zq st hQ
  subst lq yq zq
  obtain ⟨rfl, Nq, eT⟩ := hQ
  replace N := Fr.app N Nq
  refine own_viaT (g' := (mkF m 4 (own_A19 a1) [(.int 6)])) st ?_
  obtain ⟨b1, gb⟩ : ∃ z, z = h.size := ⟨_, rfl⟩
  obtain ⟨T, h2, kb1, X, eT, E, A_, E_b1, st⟩ := newPE X hx hZ (hw _ (own_w 22 rfl)) eT (g := (mkF m 4 (own_A19 a1) [(.int 6)])) rfl (hb hby ep10m3_d4) rfl (by decide) (cap := 6) (by decide) (by decide) (by decide) (by decide) (ad := "[B") (by decide)
  rw [← gb] at A_ E_b1 st
  have ne_a1_b1 : a1 ≠ b1 := Nat.ne_of_lt (Nat.lt_of_lt_of_le E_a1.lt (Nat.le_of_eq gb.symm))
  have ne_va_b1 : va ≠ b1 := Nat.ne_of_lt (Nat.lt_of_lt_of_le V_va.lt (Nat.le_of_eq gb.symm))
  have g_b1 : n0 ≤ b1 := Nat.le_trans (own_le O) (Nat.le_of_eq gb.symm)
  have sz_b1 : h0.size ≤ b1 := Nat.le_trans K0.1 (Nat.le_of_eq gb.symm)
  replace E_a1 := E_a1.ext E
  replace F_value_a1 := F_value_a1.ext E
  replace F_coder_a1 := F_coder_a1.ext E
  replace V_va := V_va.ext E
  replace O := O.ext E
  replace K0 := K0.ext E
  have V_b1 : Arv Z h2 b1 kb1 .byte (6 : Int32) [(.int 0), (.int 0), (.int 0), (.int 0), (.int 0), (.int 0)] (.int 0) := (Arv.new A_ (by decide)).pad (pad_rep [] (.int 0) 6)
  refine own_via (g' := (mkF m 6 (own_A19 a1) [(.ref b1)])) st ?_
  refine own_via (g' := (mkF m 13 (own_A15 a1 b1 0 0) [(.ref a1), (.int 0)])) (fun t_ k_ => XS.astoreN X.here hx rfl (hb hby ep10m3_d6) rfl rfl (l' := (own_A18 a1 b1)) rfl (XS.iconst X.here hx rfl (hb hby ep10m3_d7) (XS.istoreN X.here hx rfl (hb hby ep10m3_d8) rfl (l' := (own_A17 a1 b1 0)) rfl (XS.iconst X.here hx rfl (hb hby ep10m3_d9) (XS.istoreN X.here hx rfl (hb hby ep10m3_d10) rfl (l' := (own_A15 a1 b1 0 0)) rfl (XS.iloadN X.here hx rfl (hb hby ep10m3_d11) rfl (XS.aloadN X.here hx rfl (hb hby ep10m3_d12) rfl rfl k_))))))) ?_
  obtain ⟨cq, kq, qa, qb, qc⟩ := isOf hZ eT E_a1
  obtain ⟨_, _, ⟨T, Lq, kq, nq⟩, -, X, ⟨Lc, hQ, lq, yq, zq⟩, st⟩ := X.virtualBack hx (y := own_y6) (z := own_y6) hown (mvT hZ (hw _ (own_w 33 rfl))) (mvT hZ (hw _ (own_w 34 rfl))) (notFace_of_selects (args := #[]) (mvT hZ (hw _ (own_w 36 rfl)))) (mvT hZ (hw _ (own_w 36 rfl))) (mvT hZ (hw _ (own_w 35 rfl))) (by decide) (backOf (W := 1) (own_strlen l Z a0 hw [] a1 va kv (6 : Int32) [(.int (own_b8 v0)), (.int (own_b8 (92 : Int32))), (.int (own_b8 (120 : Int32))), (.int (own_b8 (own_hx (v1 / (16 : Int32))))), (.int (own_b8 (own_hx (v1 % (16 : Int32))))), (.int (own_b8 v2))] zc h2 n0 O E_a1 F_value_a1 F_coder_a1 V_va S_C hzc) hZ (hw _ (own_w 37 rfl)) (hw _ (own_w 10 rfl)) (by decide) (by decide)) qa qc (g := (mkF m 13 (own_A15 a1 b1 0 0) [(.ref a1), (.int 0)])) rfl (by rw [hml]; rfl) (Steps.refl _) (argsL := []) (rest := [(.int 0)]) (lenOf own_pd6 rfl) rfl (by show 2 * 0 + _ ≤ _; exact Nat.le_of_eq rfl) (hb hby ep10m3_d13) (fun _ _ => ⟨rfl, eT, (by decide : 1 + 0 ≤ _), (by decide : 6 + 0 ≤ _)⟩)
  dsimp only [Pt.U, Pt.locs, Pt.cells, Pt.slots] at X lq yq zq st hQ
  subst lq yq zq
  obtain ⟨rfl, Nq, eT⟩ := hQ
  replace N := Fr.app N Nq
  refine own_viaT (g' := (mkF m 16 (own_A15 a1 b1 0 0) [(.int 6), (.int 0)])) st ?_
  refine own_via (g' := (mkF m 21 (own_A15 a1 b1 0 0) [(.int 0), (.ref a1)])) (fun t_ k_ => XS.icmpNo X.here hx rfl (hb hby ep10m3_d16) rfl (tlt (by decide : (0 : Int32) < (6 : Int32))).2.1 (XS.aloadN X.here hx rfl (hb hby ep10m3_d19) rfl rfl (XS.iloadN X.here hx rfl (hb hby ep10m3_d20) rfl k_))) ?_
  obtain ⟨cq, kq, qa, qb, qc⟩ := isOf hZ eT E_a1
  obtain ⟨_, _, ⟨T, Lq, kq, nq⟩, -, X, ⟨Lc, hQ, lq, yq, zq⟩, st⟩ := X.virtualBack hx (y := own_y7) (z := own_y7) hown (mvT hZ (hw _ (own_w 74 rfl))) (mvT hZ (hw _ (own_w 75 rfl))) (notFace_of_selects (args := #[]) (mvT hZ (hw _ (own_w 77 rfl)))) (mvT hZ (hw _ (own_w 77 rfl))) (mvT hZ (hw _ (own_w 76 rfl))) (by decide) (backOf (W := 0) (own_charAt l Z a0 hw [] a1 (0 : Int32) va kv (6 : Int32) [(.int (own_b8 v0)), (.int (own_b8 (92 : Int32))), (.int (own_b8 (120 : Int32))), (.int (own_b8 (own_hx (v1 / (16 : Int32))))), (.int (own_b8 (own_hx (v1 % (16 : Int32))))), (.int (own_b8 v2))] (own_b8 v0) zc vS h2 n0 O E_a1 F_value_a1 F_coder_a1 V_va S_C hzc (by decide) rfl S_S hvS) hZ (hw _ (own_w 78 rfl)) (hw _ (own_w 10 rfl)) (by decide) (by decide)) qa qc (g := (mkF m 21 (own_A15 a1 b1 0 0) [(.int 0), (.ref a1)])) rfl (by rw [hml]; rfl) (Steps.refl _) (argsL := [(.int 0)]) (rest := []) (lenOf own_pd7 rfl) rfl (by show 2 * 0 + _ ≤ _; exact Nat.le_of_eq rfl) (hb hby ep10m3_d21) (fun _ _ => ⟨rfl, eT, (by decide : 1 + 0 ≤ _), (by decide : 6 + 0 ≤ _)⟩)
  dsimp only [Pt.U, Pt.locs, Pt.cells, Pt.slots] at X lq yq zq st hQ
  subst lq yq zq
  obtain ⟨rfl, Nq, eT⟩ := hQ
  replace N := Fr.app N Nq
  refine own_viaT (g' := (mkF m 24 (own_A15 a1 b1 0 0) [(.int ((own_b8 v0) &&& (255 : Int32)))])) st ?_
  rw [own_b255 bd0.1 bd0.2]
  refine own_via (g' := (mkF m 90 (own_A10 a1 b1 0 0 v0) [])) (fun t_ k_ => XS.istore X.here hx rfl (hb hby ep10m3_d24) rfl (l' := (own_A10 a1 b1 0 0 v0)) rfl (XS.iload X.here hx rfl (hb hby ep10m3_d26) rfl (XS.bipush X.here hx rfl (hb hby ep10m3_d28) (XS.icmpYes X.here hx rfl (pc0 := 30) (pc' := 76) rfl (hb hby ep10m3_d30) rfl (feq pp0.1).2 (by decide) (by decide) (XS.iload X.here hx rfl (hb hby ep10m3_d76) rfl (XS.bipush X.here hx rfl (hb hby ep10m3_d78) (XS.icmpNo X.here hx rfl (hb hby ep10m3_d80) rfl (flt pp0.2.1).1 (XS.iload X.here hx rfl (hb hby ep10m3_d83) rfl (XS.bipush X.here hx rfl (hb hby ep10m3_d85) (XS.icmpNo X.here hx rfl (hb hby ep10m3_d87) rfl (flt pp0.2.2).2.2.1 k_)))))))))) ?_
  refine own_via (g' := (mkF m 98 (own_A10 a1 b1 ((0 : Int32) + (1 : Int32)) 0 v0) [(.int (v0.toInt8.toInt32)), (.int 0), (.ref b1)])) (fun t_ k_ => XS.aloadN X.here hx rfl (hb hby ep10m3_d90) rfl rfl (XS.iloadN X.here hx rfl (hb hby ep10m3_d91) rfl (XS.iinc X.here hx rfl (hb hby ep10m3_d92) rfl (l' := (own_A10 a1 b1 ((0 : Int32) + (1 : Int32)) 0 v0)) rfl (XS.iload X.here hx rfl (hb hby ep10m3_d95) rfl (XS.i2b X.here hx rfl (hb hby ep10m3_d97) rfl k_))))) ?_
  obtain ⟨cl_, Ar_, qk_, Sz_, Nn_, Hs_, Gs_⟩ := id V_b1
  have hin_ : ¬ ((0 : Int32) < 0 ∨ cl_.slots.size ≤ ((0 : Int32)).toNatClampNeg) := inb_of Sz_ ⟨by decide, by decide⟩
  obtain ⟨T, h3, X, eT, W, st⟩ := stB X hx hZ eT Ar_ (j := (0 : Int32)) hin_ (g := (mkF m 98 (own_A10 a1 b1 ((0 : Int32) + (1 : Int32)) 0 v0) [(.int (v0.toInt8.toInt32)), (.int 0), (.ref b1)])) rfl rfl (hb hby ep10m3_d98)
  replace V_b1 : Arv Z h3 b1 kb1 .byte (6 : Int32) [(.int (((v0.toInt8.toInt32)).toInt8.toInt32)), (.int 0), (.int 0), (.int 0), (.int 0), (.int 0)] (.int 0) := Arv.set Ar_ qk_ Sz_ Nn_ Hs_ Gs_ (fits_nar_byte _) W 0 (by decide) (Nat.le_of_ble_eq_true rfl)
  replace E_a1 := E_a1.wr W
  replace F_value_a1 := F_value_a1.other W (Or.inl ne_a1_b1)
  replace F_coder_a1 := F_coder_a1.other W (Or.inl ne_a1_b1)
  replace V_va := V_va.other W ne_va_b1
  replace E_b1 := E_b1.wr W
  replace O := O.wr W g_b1
  replace K0 := K0.wr W (Or.inr sz_b1)
  replace N := Fr.snoc X N g_b1
  refine own_via (g' := (mkF m 99 (own_A10 a1 b1 ((0 : Int32) + (1 : Int32)) 0 v0) [])) st ?_
  refine own_via (g' := (mkF m 11 (own_A10 a1 b1 ((0 : Int32) + (1 : Int32)) ((0 : Int32) + (1 : Int32)) v0) [])) (fun t_ k_ => XS.goto X.here hx rfl (pc0 := 99) (pc' := 136) rfl (hb hby ep10m3_d99) (by decide) (by decide) (XS.iinc X.here hx rfl (hb hby ep10m3_d136) rfl (l' := (own_A10 a1 b1 ((0 : Int32) + (1 : Int32)) ((0 : Int32) + (1 : Int32)) v0)) rfl (XS.goto X.here hx rfl (pc0 := 139) (pc' := 11) rfl (hb hby ep10m3_d139) (by decide) (by decide) k_))) ?_
  rw [(by decide : ((0 : Int32) + (1 : Int32)) = (1 : Int32))]
  refine own_via (g' := (mkF m 13 (own_A10 a1 b1 1 1 v0) [(.ref a1), (.int 1)])) (fun t_ k_ => XS.iloadN X.here hx rfl (hb hby ep10m3_d11) rfl (XS.aloadN X.here hx rfl (hb hby ep10m3_d12) rfl rfl k_)) ?_
  obtain ⟨cq, kq, qa, qb, qc⟩ := isOf hZ eT E_a1
  obtain ⟨_, _, ⟨T, Lq, kq, nq⟩, -, X, ⟨Lc, hQ, lq, yq, zq⟩, st⟩ := X.virtualBack hx (y := own_y6) (z := own_y6) hown (mvT hZ (hw _ (own_w 33 rfl))) (mvT hZ (hw _ (own_w 34 rfl))) (notFace_of_selects (args := #[]) (mvT hZ (hw _ (own_w 36 rfl)))) (mvT hZ (hw _ (own_w 36 rfl))) (mvT hZ (hw _ (own_w 35 rfl))) (by decide) (backOf (W := 1) (own_strlen l Z a0 hw [] a1 va kv (6 : Int32) [(.int (own_b8 v0)), (.int (own_b8 (92 : Int32))), (.int (own_b8 (120 : Int32))), (.int (own_b8 (own_hx (v1 / (16 : Int32))))), (.int (own_b8 (own_hx (v1 % (16 : Int32))))), (.int (own_b8 v2))] zc h3 n0 O E_a1 F_value_a1 F_coder_a1 V_va S_C hzc) hZ (hw _ (own_w 37 rfl)) (hw _ (own_w 10 rfl)) (by decide) (by decide)) qa qc (g := (mkF m 13 (own_A10 a1 b1 1 1 v0) [(.ref a1), (.int 1)])) rfl (by rw [hml]; rfl) (Steps.refl _) (argsL := []) (rest := [(.int 1)]) (lenOf own_pd6 rfl) rfl (by show 2 * 0 + _ ≤ _; exact Nat.le_of_eq rfl) (hb hby ep10m3_d13) (fun _ _ => ⟨rfl, eT, (by decide : 1 + 0 ≤ _), (by decide : 6 + 0 ≤ _)⟩)
  dsimp only [Pt.U, Pt.locs, Pt.cells, Pt.slots] at X lq yq zq st hQ
  subst lq yq zq
  obtain ⟨rfl, Nq, eT⟩ := hQ
  replace N := Fr.app N Nq
  refine own_viaT (g' := (mkF m 16 (own_A10 a1 b1 1 1 v0) [(.int 6), (.int 1)])) st ?_
  refine own_via (g' := (mkF m 21 (own_A10 a1 b1 1 1 v0) [(.int 1), (.ref a1)])) (fun t_ k_ => XS.icmpNo X.here hx rfl (hb hby ep10m3_d16) rfl (tlt (by decide : (1 : Int32) < (6 : Int32))).2.1 (XS.aloadN X.here hx rfl (hb hby ep10m3_d19) rfl rfl (XS.iloadN X.here hx rfl (hb hby ep10m3_d20) rfl k_))) ?_
  obtain ⟨cq, kq, qa, qb, qc⟩ := isOf hZ eT E_a1
  obtain ⟨_, _, ⟨T, Lq, kq, nq⟩, -, X, ⟨Lc, hQ, lq, yq, zq⟩, st⟩ := X.virtualBack hx (y := own_y7) (z := own_y7) hown (mvT hZ (hw _ (own_w 74 rfl))) (mvT hZ (hw _ (own_w 75 rfl))) (notFace_of_selects (args := #[]) (mvT hZ (hw _ (own_w 77 rfl)))) (mvT hZ (hw _ (own_w 77 rfl))) (mvT hZ (hw _ (own_w 76 rfl))) (by decide) (backOf (W := 0) (own_charAt l Z a0 hw [] a1 (1 : Int32) va kv (6 : Int32) [(.int (own_b8 v0)), (.int (own_b8 (92 : Int32))), (.int (own_b8 (120 : Int32))), (.int (own_b8 (own_hx (v1 / (16 : Int32))))), (.int (own_b8 (own_hx (v1 % (16 : Int32))))), (.int (own_b8 v2))] (own_b8 (92 : Int32)) zc vS h3 n0 O E_a1 F_value_a1 F_coder_a1 V_va S_C hzc (by decide) rfl S_S hvS) hZ (hw _ (own_w 78 rfl)) (hw _ (own_w 10 rfl)) (by decide) (by decide)) qa qc (g := (mkF m 21 (own_A10 a1 b1 1 1 v0) [(.int 1), (.ref a1)])) rfl (by rw [hml]; rfl) (Steps.refl _) (argsL := [(.int 1)]) (rest := []) (lenOf own_pd7 rfl) rfl (by show 2 * 0 + _ ≤ _; exact Nat.le_of_eq rfl) (hb hby ep10m3_d21) (fun _ _ => ⟨rfl, eT, (by decide : 1 + 0 ≤ _), (by decide : 6 + 0 ≤ _)⟩)
  dsimp only [Pt.U, Pt.locs, Pt.cells, Pt.slots] at X lq yq zq st hQ
  subst lq yq zq
  obtain ⟨rfl, Nq, eT⟩ := hQ
  replace N := Fr.app N Nq
  refine own_viaT (g' := (mkF m 24 (own_A10 a1 b1 1 1 v0) [(.int ((own_b8 (92 : Int32)) &&& (255 : Int32)))])) st ?_
  rw [(by decide : ((own_b8 (92 : Int32)) &&& (255 : Int32)) = (92 : Int32))]
  refine own_via (g' := (mkF m 35 (own_A10 a1 b1 1 1 92) [(.int 1), (.ref a1)])) (fun t_ k_ => XS.istore X.here hx rfl (hb hby ep10m3_d24) rfl (l' := (own_A10 a1 b1 1 1 92)) rfl (XS.iload X.here hx rfl (hb hby ep10m3_d26) rfl (XS.bipush X.here hx rfl (hb hby ep10m3_d28) (XS.icmpNo X.here hx rfl (hb hby ep10m3_d30) rfl (teq (by decide : (92 : Int32) = (92 : Int32))).2 (XS.aloadN X.here hx rfl (hb hby ep10m3_d33) rfl rfl (XS.iloadN X.here hx rfl (hb hby ep10m3_d34) rfl k_)))))) ?_
  obtain ⟨_, _, ⟨T, Lq, kq, nq⟩, -, X, ⟨Lc, hQ, lq, yq, zq⟩, st⟩ := Jvm.LawKit.callS X hx (y := own_y10) hown (mvT hZ (hw _ (own_w 96 rfl))) (mvT hZ (hw _ (own_w 97 rfl))) (mvT hZ (hw _ (own_w 31 rfl))) (mvT hZ (hw _ (own_w 98 rfl))) (by decide) (backOf (W := 0) (own_escByte l Z a0 hw [] a1 va kv (6 : Int32) [(.int (own_b8 v0)), (.int (own_b8 (92 : Int32))), (.int (own_b8 (120 : Int32))), (.int (own_b8 (own_hx (v1 / (16 : Int32))))), (.int (own_b8 (own_hx (v1 % (16 : Int32))))), (.int (own_b8 v2))] (1 : Int32) v1 (own_b8 (120 : Int32)) (own_b8 (own_hx (v1 / (16 : Int32)))) (own_b8 (own_hx (v1 % (16 : Int32)))) zc vS h3 n0 O E_a1 F_value_a1 F_coder_a1 V_va (by decide) rfl (by decide) (by decide) rfl (own_b255 (own_hxB (own_hi bd1.1 bd1.2).2.1 (own_hi bd1.1 bd1.2).2.2).1 (own_hxB (own_hi bd1.1 bd1.2).2.1 (own_hi bd1.1 bd1.2).2.2).2) (by decide) rfl (own_b255 (own_hxB (own_lo bd1.1 bd1.2).2.1 (own_lo bd1.1 bd1.2).2.2).1 (own_hxB (own_lo bd1.1 bd1.2).2.1 (own_lo bd1.1 bd1.2).2.2).2) bd1 S_C hzc S_S hvS) hZ (hw _ (own_w 98 rfl)) (hw _ (own_w 31 rfl)) (by decide) (by decide)) (g := (mkF m 35 (own_A10 a1 b1 1 1 92) [(.int 1), (.ref a1)])) rfl (by rw [hml]; rfl) (argsL := [(.ref a1), (.int 1)]) (rest := []) (lenOf own_pd10 rfl) rfl (by show 2 * 0 + _ ≤ _; exact Nat.le_of_eq rfl) (hb hby ep10m3_d35) (fun _ _ => ⟨rfl, eT, (by decide : 1 + 0 ≤ _), (by decide : 6 + 0 ≤ _)⟩)
  dsimp only [Pt.U, Pt.locs, Pt.cells, Pt.slots] at X lq yq zq st hQ
  subst lq yq zq
  obtain ⟨rfl, Nq, eT⟩ := hQ
  replace N := Fr.app N Nq
  refine own_via (g' := (mkF m 38 (own_A10 a1 b1 1 1 92) [(.int v1)])) st ?_
  refine own_via (g' := (mkF m 69 (own_A8 a1 b1 ((1 : Int32) + (1 : Int32)) 1 92 v1) [(.int (v1.toInt8.toInt32)), (.int 1), (.ref b1)])) (fun t_ k_ => XS.istore X.here hx rfl (hb hby ep10m3_d38) rfl (l' := (own_A8 a1 b1 1 1 92 v1)) rfl (XS.iload X.here hx rfl (hb hby ep10m3_d40) rfl (XS.ifYes X.here hx rfl (pc0 := 42) (pc' := 61) rfl (hb hby ep10m3_d42) rfl ((if0 _ _).trans (flt (own_nn bd1.1)).2.1) (by decide) (by decide) (XS.aloadN X.here hx rfl (hb hby ep10m3_d61) rfl rfl (XS.iloadN X.here hx rfl (hb hby ep10m3_d62) rfl (XS.iinc X.here hx rfl (hb hby ep10m3_d63) rfl (l' := (own_A8 a1 b1 ((1 : Int32) + (1 : Int32)) 1 92 v1)) rfl (XS.iload X.here hx rfl (hb hby ep10m3_d66) rfl (XS.i2b X.here hx rfl (hb hby ep10m3_d68) rfl k_)))))))) ?_
  obtain ⟨cl_, Ar_, qk_, Sz_, Nn_, Hs_, Gs_⟩ := id V_b1
  have hin_ : ¬ ((1 : Int32) < 0 ∨ cl_.slots.size ≤ ((1 : Int32)).toNatClampNeg) := inb_of Sz_ ⟨by decide, by decide⟩
  obtain ⟨T, h4, X, eT, W, st⟩ := stB X hx hZ eT Ar_ (j := (1 : Int32)) hin_ (g := (mkF m 69 (own_A8 a1 b1 ((1 : Int32) + (1 : Int32)) 1 92 v1) [(.int (v1.toInt8.toInt32)), (.int 1), (.ref b1)])) rfl rfl (hb hby ep10m3_d69)
  replace V_b1 : Arv Z h4 b1 kb1 .byte (6 : Int32) [(.int (((v0.toInt8.toInt32)).toInt8.toInt32)), (.int (((v1.toInt8.toInt32)).toInt8.toInt32)), (.int 0), (.int 0), (.int 0), (.int 0)] (.int 0) := Arv.set Ar_ qk_ Sz_ Nn_ Hs_ Gs_ (fits_nar_byte _) W 1 (by decide) (Nat.le_of_ble_eq_true rfl)
  replace E_a1 := E_a1.wr W
  replace F_value_a1 := F_value_a1.other W (Or.inl ne_a1_b1)
  replace F_coder_a1 := F_coder_a1.other W (Or.inl ne_a1_b1)
  replace V_va := V_va.other W ne_va_b1
  replace E_b1 := E_b1.wr W
  replace O := O.wr W g_b1
  replace K0 := K0.wr W (Or.inr sz_b1)
  replace N := Fr.snoc X N g_b1
  refine own_via (g' := (mkF m 70 (own_A8 a1 b1 ((1 : Int32) + (1 : Int32)) 1 92 v1) [])) st ?_
  refine own_via (g' := (mkF m 11 (own_A8 a1 b1 ((1 : Int32) + (1 : Int32)) (((1 : Int32) + (3 : Int32)) + (1 : Int32)) 92 v1) [])) (fun t_ k_ => XS.iinc X.here hx rfl (hb hby ep10m3_d70) rfl (l' := (own_A8 a1 b1 ((1 : Int32) + (1 : Int32)) ((1 : Int32) + (3 : Int32)) 92 v1)) rfl (XS.goto X.here hx rfl (pc0 := 73) (pc' := 136) rfl (hb hby ep10m3_d73) (by decide) (by decide) (XS.iinc X.here hx rfl (hb hby ep10m3_d136) rfl (l' := (own_A8 a1 b1 ((1 : Int32) + (1 : Int32)) (((1 : Int32) + (3 : Int32)) + (1 : Int32)) 92 v1)) rfl (XS.goto X.here hx rfl (pc0 := 139) (pc' := 11) rfl (hb hby ep10m3_d139) (by decide) (by decide) k_)))) ?_
  rw [(by decide : ((1 : Int32) + (1 : Int32)) = (2 : Int32))]
  rw [(by decide : (((1 : Int32) + (3 : Int32)) + (1 : Int32)) = (5 : Int32))]
  refine own_via (g' := (mkF m 13 (own_A8 a1 b1 2 5 92 v1) [(.ref a1), (.int 5)])) (fun t_ k_ => XS.iloadN X.here hx rfl (hb hby ep10m3_d11) rfl (XS.aloadN X.here hx rfl (hb hby ep10m3_d12) rfl rfl k_)) ?_
  obtain ⟨cq, kq, qa, qb, qc⟩ := isOf hZ eT E_a1
  obtain ⟨_, _, ⟨T, Lq, kq, nq⟩, -, X, ⟨Lc, hQ, lq, yq, zq⟩, st⟩ := X.virtualBack hx (y := own_y6) (z := own_y6) hown (mvT hZ (hw _ (own_w 33 rfl))) (mvT hZ (hw _ (own_w 34 rfl))) (notFace_of_selects (args := #[]) (mvT hZ (hw _ (own_w 36 rfl)))) (mvT hZ (hw _ (own_w 36 rfl))) (mvT hZ (hw _ (own_w 35 rfl))) (by decide) (backOf (W := 1) (own_strlen l Z a0 hw [] a1 va kv (6 : Int32) [(.int (own_b8 v0)), (.int (own_b8 (92 : Int32))), (.int (own_b8 (120 : Int32))), (.int (own_b8 (own_hx (v1 / (16 : Int32))))), (.int (own_b8 (own_hx (v1 % (16 : Int32))))), (.int (own_b8 v2))] zc h4 n0 O E_a1 F_value_a1 F_coder_a1 V_va S_C hzc) hZ (hw _ (own_w 37 rfl)) (hw _ (own_w 10 rfl)) (by decide) (by decide)) qa qc (g := (mkF m 13 (own_A8 a1 b1 2 5 92 v1) [(.ref a1), (.int 5)])) rfl (by rw [hml]; rfl) (Steps.refl _) (argsL := []) (rest := [(.int 5)]) (lenOf own_pd6 rfl) rfl (by show 2 * 0 + _ ≤ _; exact Nat.le_of_eq rfl) (hb hby ep10m3_d13) (fun _ _ => ⟨rfl, eT, (by decide : 1 + 0 ≤ _), (by decide : 6 + 0 ≤ _)⟩)
  dsimp only [Pt.U, Pt.locs, Pt.cells, Pt.slots] at X lq yq zq st hQ
  subst lq yq zq
  obtain ⟨rfl, Nq, eT⟩ := hQ
  replace N := Fr.app N Nq
  refine own_viaT (g' := (mkF m 16 (own_A8 a1 b1 2 5 92 v1) [(.int 6), (.int 5)])) st ?_
  refine own_via (g' := (mkF m 21 (own_A8 a1 b1 2 5 92 v1) [(.int 5), (.ref a1)])) (fun t_ k_ => XS.icmpNo X.here hx rfl (hb hby ep10m3_d16) rfl (tlt (by decide : (5 : Int32) < (6 : Int32))).2.1 (XS.aloadN X.here hx rfl (hb hby ep10m3_d19) rfl rfl (XS.iloadN X.here hx rfl (hb hby ep10m3_d20) rfl k_))) ?_
  obtain ⟨cq, kq, qa, qb, qc⟩ := isOf hZ eT E_a1
  obtain ⟨_, _, ⟨T, Lq, kq, nq⟩, -, X, ⟨Lc, hQ, lq, yq, zq⟩, st⟩ := X.virtualBack hx (y := own_y7) (z := own_y7) hown (mvT hZ (hw _ (own_w 74 rfl))) (mvT hZ (hw _ (own_w 75 rfl))) (notFace_of_selects (args := #[]) (mvT hZ (hw _ (own_w 77 rfl)))) (mvT hZ (hw _ (own_w 77 rfl))) (mvT hZ (hw _ (own_w 76 rfl))) (by decide) (backOf (W := 0) (own_charAt l Z a0 hw [] a1 (5 : Int32) va kv (6 : Int32) [(.int (own_b8 v0)), (.int (own_b8 (92 : Int32))), (.int (own_b8 (120 : Int32))), (.int (own_b8 (own_hx (v1 / (16 : Int32))))), (.int (own_b8 (own_hx (v1 % (16 : Int32))))), (.int (own_b8 v2))] (own_b8 v2) zc vS h4 n0 O E_a1 F_value_a1 F_coder_a1 V_va S_C hzc (by decide) rfl S_S hvS) hZ (hw _ (own_w 78 rfl)) (hw _ (own_w 10 rfl)) (by decide) (by decide)) qa qc (g := (mkF m 21 (own_A8 a1 b1 2 5 92 v1) [(.int 5), (.ref a1)])) rfl (by rw [hml]; rfl) (Steps.refl _) (argsL := [(.int 5)]) (rest := []) (lenOf own_pd7 rfl) rfl (by show 2 * 0 + _ ≤ _; exact Nat.le_of_eq rfl) (hb hby ep10m3_d21) (fun _ _ => ⟨rfl, eT, (by decide : 1 + 0 ≤ _), (by decide : 6 + 0 ≤ _)⟩)
  dsimp only [Pt.U, Pt.locs, Pt.cells, Pt.slots] at X lq yq zq st hQ
  subst lq yq zq
  obtain ⟨rfl, Nq, eT⟩ := hQ
  replace N := Fr.app N Nq
  refine own_viaT (g' := (mkF m 24 (own_A8 a1 b1 2 5 92 v1) [(.int ((own_b8 v2) &&& (255 : Int32)))])) st ?_
  rw [own_b255 bd2.1 bd2.2]
  refine own_via (g' := (mkF m 90 (own_A8 a1 b1 2 5 v2 v1) [])) (fun t_ k_ => XS.istore X.here hx rfl (hb hby ep10m3_d24) rfl (l' := (own_A8 a1 b1 2 5 v2 v1)) rfl (XS.iload X.here hx rfl (hb hby ep10m3_d26) rfl (XS.bipush X.here hx rfl (hb hby ep10m3_d28) (XS.icmpYes X.here hx rfl (pc0 := 30) (pc' := 76) rfl (hb hby ep10m3_d30) rfl (feq pp2.1).2 (by decide) (by decide) (XS.iload X.here hx rfl (hb hby ep10m3_d76) rfl (XS.bipush X.here hx rfl (hb hby ep10m3_d78) (XS.icmpNo X.here hx rfl (hb hby ep10m3_d80) rfl (flt pp2.2.1).1 (XS.iload X.here hx rfl (hb hby ep10m3_d83) rfl (XS.bipush X.here hx rfl (hb hby ep10m3_d85) (XS.icmpNo X.here hx rfl (hb hby ep10m3_d87) rfl (flt pp2.2.2).2.2.1 k_)))))))))) ?_
  refine own_via (g' := (mkF m 98 (own_A8 a1 b1 ((2 : Int32) + (1 : Int32)) 5 v2 v1) [(.int (v2.toInt8.toInt32)), (.int 2), (.ref b1)])) (fun t_ k_ => XS.aloadN X.here hx rfl (hb hby ep10m3_d90) rfl rfl (XS.iloadN X.here hx rfl (hb hby ep10m3_d91) rfl (XS.iinc X.here hx rfl (hb hby ep10m3_d92) rfl (l' := (own_A8 a1 b1 ((2 : Int32) + (1 : Int32)) 5 v2 v1)) rfl (XS.iload X.here hx rfl (hb hby ep10m3_d95) rfl (XS.i2b X.here hx rfl (hb hby ep10m3_d97) rfl k_))))) ?_
  obtain ⟨cl_, Ar_, qk_, Sz_, Nn_, Hs_, Gs_⟩ := id V_b1
  have hin_ : ¬ ((2 : Int32) < 0 ∨ cl_.slots.size ≤ ((2 : Int32)).toNatClampNeg) := inb_of Sz_ ⟨by decide, by decide⟩
  obtain ⟨T, h5, X, eT, W, st⟩ := stB X hx hZ eT Ar_ (j := (2 : Int32)) hin_ (g := (mkF m 98 (own_A8 a1 b1 ((2 : Int32) + (1 : Int32)) 5 v2 v1) [(.int (v2.toInt8.toInt32)), (.int 2), (.ref b1)])) rfl rfl (hb hby ep10m3_d98)
  replace V_b1 : Arv Z h5 b1 kb1 .byte (6 : Int32) [(.int (((v0.toInt8.toInt32)).toInt8.toInt32)), (.int (((v1.toInt8.toInt32)).toInt8.toInt32)), (.int (((v2.toInt8.toInt32)).toInt8.toInt32)), (.int 0), (.int 0), (.int 0)] (.int 0) := Arv.set Ar_ qk_ Sz_ Nn_ Hs_ Gs_ (fits_nar_byte _) W 2 (by decide) (Nat.le_of_ble_eq_true rfl)
  replace E_a1 := E_a1.wr W
  replace F_value_a1 := F_value_a1.other W (Or.inl ne_a1_b1)
  replace F_coder_a1 := F_coder_a1.other W (Or.inl ne_a1_b1)
  replace V_va := V_va.other W ne_va_b1
  replace E_b1 := E_b1.wr W
  replace O := O.wr W g_b1
  replace K0 := K0.wr W (Or.inr sz_b1)
  replace N := Fr.snoc X N g_b1
  refine own_via (g' := (mkF m 99 (own_A8 a1 b1 ((2 : Int32) + (1 : Int32)) 5 v2 v1) [])) st ?_
  refine own_via (g' := (mkF m 11 (own_A8 a1 b1 ((2 : Int32) + (1 : Int32)) ((5 : Int32) + (1 : Int32)) v2 v1) [])) (fun t_ k_ => XS.goto X.here hx rfl (pc0 := 99) (pc' := 136) rfl (hb hby ep10m3_d99) (by decide) (by decide) (XS.iinc X.here hx rfl (hb hby ep10m3_d136) rfl (l' := (own_A8 a1 b1 ((2 : Int32) + (1 : Int32)) ((5 : Int32) + (1 : Int32)) v2 v1)) rfl (XS.goto X.here hx rfl (pc0 := 139) (pc' := 11) rfl (hb hby ep10m3_d139) (by decide) (by decide) k_))) ?_
  rw [(by decide : ((2 : Int32) + (1 : Int32)) = (3 : Int32))]
  rw [(by decide : ((5 : Int32) + (1 : Int32)) = (6 : Int32))]
  refine own_via (g' := (mkF m 13 (own_A8 a1 b1 3 6 v2 v1) [(.ref a1), (.int 6)])) (fun t_ k_ => XS.iloadN X.here hx rfl (hb hby ep10m3_d11) rfl (XS.aloadN X.here hx rfl (hb hby ep10m3_d12) rfl rfl k_)) ?_
  obtain ⟨cq, kq, qa, qb, qc⟩ := isOf hZ eT E_a1
  obtain ⟨_, _, ⟨T, Lq, kq, nq⟩, -, X, ⟨Lc, hQ, lq, yq, zq⟩, st⟩ := X.virtualBack hx (y := own_y6) (z := own_y6) hown (mvT hZ (hw _ (own_w 33 rfl))) (mvT hZ (hw _ (own_w 34 rfl))) (notFace_of_selects (args := #[]) (mvT hZ (hw _ (own_w 36 rfl)))) (mvT hZ (hw _ (own_w 36 rfl))) (mvT hZ (hw _ (own_w 35 rfl))) (by decide) (backOf (W := 1) (own_strlen l Z a0 hw [] a1 va kv (6 : Int32) [(.int (own_b8 v0)), (.int (own_b8 (92 : Int32))), (.int (own_b8 (120 : Int32))), (.int (own_b8 (own_hx (v1 / (16 : Int32))))), (.int (own_b8 (own_hx (v1 % (16 : Int32))))), (.int (own_b8 v2))] zc h5 n0 O E_a1 F_value_a1 F_coder_a1 V_va S_C hzc) hZ (hw _ (own_w 37 rfl)) (hw _ (own_w 10 rfl)) (by decide) (by decide)) qa qc (g := (mkF m 13 (own_A8 a1 b1 3 6 v2 v1) [(.ref a1), (.int 6)])) rfl (by rw [hml]; rfl) (Steps.refl _) (argsL := []) (rest := [(.int 6)]) (lenOf own_pd6 rfl) rfl (by show 2 * 0 + _ ≤ _; exact Nat.le_of_eq rfl) (hb hby ep10m3_d13) (fun _ _ => ⟨rfl, eT, (by decide : 1 + 0 ≤ _), (by decide : 6 + 0 ≤ _)⟩)
  dsimp only [Pt.U, Pt.locs, Pt.cells, Pt.slots] at X lq yq zq st hQ
  subst lq yq zq
  obtain ⟨rfl, Nq, eT⟩ := hQ
  replace N := Fr.app N Nq
  refine own_viaT (g' := (mkF m 16 (own_A8 a1 b1 3 6 v2 v1) [(.int 6), (.int 6)])) st ?_
  refine own_via (g' := (mkF m 144 (own_A8 a1 b1 3 6 v2 v1) [(.int 3), (.ref b1)])) (fun t_ k_ => XS.icmpYes X.here hx rfl (pc0 := 16) (pc' := 142) rfl (hb hby ep10m3_d16) rfl (flt (by decide : ¬ ((6 : Int32) < (6 : Int32)))).2.1 (by decide) (by decide) (XS.aloadN X.here hx rfl (hb hby ep10m3_d142) rfl rfl (XS.iloadN X.here hx rfl (hb hby ep10m3_d143) rfl k_))) ?_
  replace V_b1 : Arv Z h5 b1 kb1 .byte (6 : Int32) [(.int (own_sb v0)), (.int (own_sb v1)), (.int (own_sb v2))] (.int 0) := V_b1.pad (fun i => (pad_rep [(.int (own_sb v0)), (.int (own_sb v1)), (.int (own_sb v2))] (.int 0) 3 i).symm)
  obtain ⟨_, _, ⟨T, Lq, kq, nq⟩, -, X, ⟨Lc, hQ, lq, yq, zq⟩, st⟩ := Jvm.LawKit.callS X hx (y := own_y9) hown (mvT hZ (hw _ (own_w 44 rfl))) (mvT hZ (hw _ (own_w 45 rfl))) (mvT hZ (hw _ (own_w 46 rfl))) (mvT hZ (hw _ (own_w 47 rfl))) (by decide) (backOf (W := 0) (own_copyOf l Z a0 hw [] b1 kb1 (3 : Int32) (6 : Int32) [(.int (own_sb v0)), (.int (own_sb v1)), (.int (own_sb v2))] h5 n0 O E_b1 V_b1 (by decide) rfl) hZ (hw _ (own_w 47 rfl)) (hw _ (own_w 46 rfl)) (by decide) (by decide)) (g := (mkF m 144 (own_A8 a1 b1 3 6 v2 v1) [(.int 3), (.ref b1)])) rfl (by rw [hml]; rfl) (argsL := [(.ref b1), (.int 3)]) (rest := []) (lenOf own_pd9 rfl) rfl (by show 2 * 0 + _ ≤ _; exact Nat.le_of_eq rfl) (hb hby ep10m3_d144) (fun _ _ => ⟨rfl, eT, (by decide : 1 + 1 ≤ _), (by decide : 6 + 12 ≤ _)⟩)
  dsimp only [Pt.U, Pt.locs, Pt.cells, Pt.slots] at X lq yq zq st hQ
  subst lq yq zq
  obtain ⟨bn, kbn, rfl, Nq, Kq, szq, V_bn, E_bn⟩ := hQ
  replace N := Fr.app N Nq
  obtain ⟨h6, eT⟩ : ∃ z, T.heap = z := ⟨_, rfl⟩
  rw [eT] at Kq V_bn E_bn
  have ne_a1_bn : a1 ≠ bn := Nat.ne_of_lt (Nat.lt_of_lt_of_le E_a1.lt szq)
  have ne_b1_bn : b1 ≠ bn := Nat.ne_of_lt (Nat.lt_of_lt_of_le E_b1.lt szq)
  have ne_va_bn : va ≠ bn := Nat.ne_of_lt (Nat.lt_of_lt_of_le V_va.lt szq)
  have g_bn : n0 ≤ bn := Nat.le_trans (own_le O) szq
  have sz_bn : h0.size ≤ bn := Nat.le_trans K0.1 szq
  replace E_a1 := E_a1.keep Kq
  replace F_value_a1 := F_value_a1.keep Kq nin0
  replace F_coder_a1 := F_coder_a1.keep Kq nin0
  replace V_va := V_va.keep Kq nin0
  replace E_b1 := E_b1.keep Kq
  replace V_b1 := V_b1.keep Kq nin0
  replace O := O.keep Kq all0
  replace K0 := K0.trans Kq all0
  refine own_via (g' := (mkF m 147 (own_A8 a1 b1 3 6 v2 v1) [(.ref bn)])) st ?_
  refine own_retW X hx hlk Bd.returns rfl (Or.inr (Or.inr (Or.inr (Or.inr ⟨rfl, rfl, rfl⟩)))) (hb hby ep10m3_d147) (by decide) (by decide) ?_
  rw [eT]
  exact ⟨bn, kbn, rfl, N, K0, sz_bn, V_bn, E_bn⟩
theorem own_unPEE_pn : plainFor (⟨"com/example/rows_to_regions/rowstoregions/KeyText", "unescape", "(Ljava/lang/String;)[B"⟩ : MethodName) = true := by first | exact plainFor_of_name (by first | (simp [plainName, overriddenIn]; done) | decide +kernel) | decide +kernel | exact Jvm.Free.JP.mathPlain rfl (by decide +kernel)
theorem own_unPEE_ef (m : MethodId) (x0 : Addr) : entryFrame m #[(.ref x0)] 6 = mkF m 0 #[.val (.ref x0), .unset, .unset, .unset, .unset, .unset] [] := by first | (simp [entryFrame, mkF, argsToLocals, Value.category]; done) | rfl
def own_unPEE_Q (Z : State) (a1 : Addr) (va : Addr) (kv : ClassId) (v0 : Int32) (v1 : Int32) (v2 : Int32) (zc : Int32) (vS : Value) (h0 : Heap) (n0 : Nat) (v : Option Value) (h : Heap) (L : List Loc) : Prop := ∃ b kb, v = some (.ref b) ∧ Fr n0 L ∧ Keep h0 h [] ∧ h0.size ≤ b ∧ Arv Z h b kb .byte (3 : Int32) [(.int (own_sb v0)), (.int (own_sb v1)), (.int (own_sb v2))] (.int 0) ∧ Exa Z h b "[B"
set_option maxRecDepth 65536 in
set_option maxHeartbeats 40000000 in
theorem own_unPEE (l : Launch) (Z : State) (a0 : Array Value) (hw : ∀ d ∈ tables_1, d.before a0 Z = true) (ws : List Jvm.Cond) (a1 : Addr) (va : Addr) (kv : ClassId) (v0 : Int32) (v1 : Int32) (v2 : Int32) (zc : Int32) (vS : Value) (h0 : Heap) (n0 : Nat) (O : Old Z n0 h0) (E_a1 : Exa Z h0 a1 "java/lang/String") (F_value_a1 : Fld Z h0 a1 "java/lang/String" "value" "[B" (.ref va)) (F_coder_a1 : Fld Z h0 a1 "java/lang/String" "coder" "B" (.int 0)) (V_va : Arv Z h0 va kv .byte (9 : Int32) [(.int (own_b8 v0)), (.int (own_b8 (92 : Int32))), (.int (own_b8 (120 : Int32))), (.int (own_b8 (own_hx (v1 / (16 : Int32))))), (.int (own_b8 (own_hx (v1 % (16 : Int32))))), (.int (own_b8 (92 : Int32))), (.int (own_b8 (120 : Int32))), (.int (own_b8 (own_hx (v2 / (16 : Int32))))), (.int (own_b8 (own_hx (v2 % (16 : Int32)))))] (.int 0)) (bd0 : 0 ≤ v0.toInt ∧ v0.toInt < 256) (pp0 : ¬ v0 = (92 : Int32) ∧ ¬ v0 < (32 : Int32) ∧ ¬ (126 : Int32) < v0) (bd1 : 0 ≤ v1.toInt ∧ v1.toInt < 256) (bd2 : 0 ≤ v2.toInt ∧ v2.toInt < 256) (S_C : Sta Z Z.heap "java/lang/String" "COMPACT_STRINGS" "Z" (.int zc)) (hzc : ¬ zc = 0) (S_S : Sta Z Z.heap "jdk/internal/util/Preconditions" "SIOOBE_FORMATTER" "Ljava/util/function/BiFunction;" vS) (hvS : vS.isRef = true) :
    MetFree l (⟨"com/example/rows_to_regions/rowstoregions/KeyText", "unescape", "(Ljava/lang/String;)[B"⟩ : MethodName) (head1 (Jvm.Cond.code (⟨"com/example/rows_to_regions/rowstoregions/KeyText", "unescape", "(Ljava/lang/String;)[B"⟩ : MethodName) prog_10_method_3_code 6 (some (.array .byte)) :: ws) ({ frames := 5, cells := 2, slots := 24, locals := 68 } : Room)) (fun a U => a = #[(.ref a1)] ∧ Z.Warmed39 U.vm ∧ U.heap = h0) (fun _ _ _ _ _ => True) (fun _ U o U' => ∃ v L, o = .returned v ∧ own_unPEE_Q Z a1 va kv v0 v1 v2 zc vS h0 n0 v U'.heap L ∧ FrameEnd U o U' L ({ frames := 5, cells := 2, slots := 24, locals := 68 } : Room).cells ({ frames := 5, cells := 2, slots := 24, locals := 68 } : Room).slots) := by
  refine MetFree.of_bodySF own_unPEE_pn hisR ?_
  intro p e s m args below meth c s₁ Bd hml0 hP hK
  obtain ⟨rfl, hZ, hh⟩ := hP
  have hx := Bd.exec
  have hby := Bd.bytes
  have hlk := Bd.notSynchronized
  have hml : c.maxLocals = 6 := hml0
  have hown : s.vm.findClass "com/example/rows_to_regions/rowstoregions/KeyText" = some m.cls := findClass_of_methodNamed Bd.named
  have hnm := (name_of_methodNamed Bd.named Bd.method).1
  have X : Stand p l e ({ frames := 5, cells := 2, slots := 24, locals := 68 } : Room) s m #[(.ref a1)] below meth c s₁ [] 0 0 := Stand.of_body Bd
  have eT : s₁.heap = h0 := by rw [← hh, Bd.state]; rfl
  have N := Fr.nil n0
  have K0 := Keep.refl h0 []
  show own_Ends p e below (own_Post s below (own_unPEE_Q Z a1 va kv v0 v1 v2 zc vS h0 n0) ({ frames := 5, cells := 2, slots := 24, locals := 68 } : Room).cells ({ frames := 5, cells := 2, slots := 24, locals := 68 } : Room).slots) s₁ (entryFrame m #[(.ref a1)] 6)
  rw [own_unPEE_ef m a1]
  obtain ⟨T, hT⟩ : ∃ z, z = s₁ := ⟨_, rfl⟩
  rw [← hT] at X eT ⊢
  obtain ⟨h, hh0⟩ : ∃ z, z = h0 := ⟨_, rfl⟩
  rw [← hh0] at eT
  replace O : Old Z n0 h := by rw [hh0]; exact O
  replace K0 : Keep h0 h [] := by rw [hh0]; exact K0
  rw [← hh0] at E_a1
  rw [← hh0] at F_value_a1
  rw [← hh0] at F_coder_a1
  rw [← hh0] at V_va
  refine own_via (g' := (mkF m 1 (own_A19 a1) [(.ref a1)])) (fun t_ k_ => XS.aloadN X.here hx rfl (hb hby ep10m3_d0) rfl rfl k_) ?_
  obtain ⟨cq, kq, qa, qb, qc⟩ := isOf hZ eT E_a1
  obtain ⟨_, _, ⟨T, Lq, kq, nq⟩, -, X, ⟨Lc, hQ, lq, yq, zq⟩, st⟩ := X.virtualBack hx (y := own_y6) (z := own_y6) hown (mvT hZ (hw _ (own_w 33 rfl))) (mvT hZ (hw _ (own_w 34 rfl))) (notFace_of_selects (args := #[]) (mvT hZ (hw _ (own_w 36 rfl)))) (mvT hZ (hw _ (own_w 36 rfl))) (mvT hZ (hw _ (own_w 35 rfl))) (by decide) (backOf (W := 0) (own_strlen l Z a0 hw [] a1 va kv (9 : Int32) [(.int (own_b8 v0)), (.int (own_b8 (92 : Int32))), (.int (own_b8 (120 : Int32))), (.int (own_b8 (own_hx (v1 / (16 : Int32))))), (.int (own_b8 (own_hx (v1 % (16 : Int32))))), (.int (own_b8 (92 : Int32))), (.int (own_b8 (120 : Int32))), (.int (own_b8 (own_hx (v2 / (16 : Int32))))), (.int (own_b8 (own_hx (v2 % (16 : Int32)))))] zc h n0 O E_a1 F_value_a1 F_coder_a1 V_va S_C hzc) hZ (hw _ (own_w 37 rfl)) (hw _ (own_w 10 rfl)) (by decide) (by decide)) qa qc (g := (mkF m 1 (own_A19 a1) [(.ref a1)])) rfl (by rw [hml]; rfl) (Steps.refl _) (argsL := []) (rest := []) (lenOf own_pd6 rfl) rfl (by show 2 * 0 + _ ≤ _; exact Nat.le_of_eq rfl) (hb hby ep10m3_d1) (fun _ _ => ⟨rfl, eT, (by decide : 0 + 0 ≤ _), (by decide : 0 + 0 ≤ _)⟩)
  dsimp only [Pt.U, Pt.locs, Pt.cells, Pt.slots] at X lq yq zq st hQ
  subst lq yq zq
  obtain ⟨rfl, Nq, eT⟩ := hQ
  replace N := Fr.app N Nq
  refine own_viaT (g' := (mkF m 4 (own_A19 a1) [(.int 9)])) st ?_
  obtain ⟨b1, gb⟩ : ∃ z, z = h.size := ⟨_, rfl⟩
  obtain ⟨T, h2, kb1, X, eT, E, A_, E_b1, st⟩ := newPE X hx hZ (hw _ (own_w 22 rfl)) eT (g := (mkF m 4 (own_A19 a1) [(.int 9)])) rfl (hb hby ep10m3_d4) rfl (by decide) (cap := 9) (by decide) (by decide) (by decide) (by decide) (ad := "[B") (by decide)
  rw [← gb] at A_ E_b1 st
  have ne_a1_b1 : a1 ≠ b1 := Nat.ne_of_lt (Nat.lt_of_lt_of_le E_a1.lt (Nat.le_of_eq gb.symm))
  have ne_va_b1 : va ≠ b1 := Nat.ne_of_lt (Nat.lt_of_lt_of_le V_va.lt (Nat.le_of_eq gb.symm))
  have g_b1 : n0 ≤ b1 := Nat.le_trans (own_le O) (Nat.le_of_eq gb.symm)
  have sz_b1 : h0.size ≤ b1 := Nat.le_trans K0.1 (Nat.le_of_eq gb.symm)
  replace E_a1 := E_a1.ext E
  replace F_value_a1 := F_value_a1.ext E
  replace F_coder_a1 := F_coder_a1.ext E
  replace V_va := V_va.ext E
  replace O := O.ext E
  replace K0 := K0.ext E
  have V_b1 : Arv Z h2 b1 kb1 .byte (9 : Int32) [(.int 0), (.int 0), (.int 0), (.int 0), (.int 0), (.int 0), (.int 0), (.int 0), (.int 0)] (.int 0) := (Arv.new A_ (by decide)).pad (pad_rep [] (.int 0) 9)
  refine own_via (g' := (mkF m 6 (own_A19 a1) [(.ref b1)])) st ?_
  refine own_via (g' := (mkF m 13 (own_A15 a1 b1 0 0) [(.ref a1), (.int 0)])) (fun t_ k_ => XS.astoreN X.here hx rfl (hb hby ep10m3_d6) rfl rfl (l' := (own_A18 a1 b1)) rfl (XS.iconst X.here hx rfl (hb hby ep10m3_d7) (XS.istoreN X.here hx rfl (hb hby ep10m3_d8) rfl (l' := (own_A17 a1 b1 0)) rfl (XS.iconst X.here hx rfl (hb hby ep10m3_d9) (XS.istoreN X.here hx rfl (hb hby ep10m3_d10) rfl (l' := (own_A15 a1 b1 0 0)) rfl (XS.iloadN X.here hx rfl (hb hby ep10m3_d11) rfl (XS.aloadN X.here hx rfl (hb hby ep10m3_d12) rfl rfl k_))))))) ?_
  obtain ⟨cq, kq, qa, qb, qc⟩ := isOf hZ eT E_a1
  obtain ⟨_, _, ⟨T, Lq, kq, nq⟩, -, X, ⟨Lc, hQ, lq, yq, zq⟩, st⟩ := X.virtualBack hx (y := own_y6) (z := own_y6) hown (mvT hZ (hw _ (own_w 33 rfl))) (mvT hZ (hw _ (own_w 34 rfl))) (notFace_of_selects (args := #[]) (mvT hZ (hw _ (own_w 36 rfl)))) (mvT hZ (hw _ (own_w 36 rfl))) (mvT hZ (hw _ (own_w 35 rfl))) (by decide) (backOf (W := 1) (own_strlen l Z a0 hw [] a1 va kv (9 : Int32) [(.int (own_b8 v0)), (.int (own_b8 (92 : Int32))), (.int (own_b8 (120 : Int32))), (.int (own_b8 (own_hx (v1 / (16 : Int32))))), (.int (own_b8 (own_hx (v1 % (16 : Int32))))), (.int (own_b8 (92 : Int32))), (.int (own_b8 (120 : Int32))), (.int (own_b8 (own_hx (v2 / (16 : Int32))))), (.int (own_b8 (own_hx (v2 % (16 : Int32)))))] zc h2 n0 O E_a1 F_value_a1 F_coder_a1 V_va S_C hzc) hZ (hw _ (own_w 37 rfl)) (hw _ (own_w 10 rfl)) (by decide) (by decide)) qa qc (g := (mkF m 13 (own_A15 a1 b1 0 0) [(.ref a1), (.int 0)])) rfl (by rw [hml]; rfl) (Steps.refl _) (argsL := []) (rest := [(.int 0)]) (lenOf own_pd6 rfl) rfl (by show 2 * 0 + _ ≤ _; exact Nat.le_of_eq rfl) (hb hby ep10m3_d13) (fun _ _ => ⟨rfl, eT, (by decide : 1 + 0 ≤ _), (by decide : 9 + 0 ≤ _)⟩)
  dsimp only [Pt.U, Pt.locs, Pt.cells, Pt.slots] at X lq yq zq st hQ
  subst lq yq zq
  obtain ⟨rfl, Nq, eT⟩ := hQ
  replace N := Fr.app N Nq
  refine own_viaT (g' := (mkF m 16 (own_A15 a1 b1 0 0) [(.int 9), (.int 0)])) st ?_
  refine own_via (g' := (mkF m 21 (own_A15 a1 b1 0 0) [(.int 0), (.ref a1)])) (fun t_ k_ => XS.icmpNo X.here hx rfl (hb hby ep10m3_d16) rfl (tlt (by decide : (0 : Int32) < (9 : Int32))).2.1 (XS.aloadN X.here hx rfl (hb hby ep10m3_d19) rfl rfl (XS.iloadN X.here hx rfl (hb hby ep10m3_d20) rfl k_))) ?_
  obtain ⟨cq, kq, qa, qb, qc⟩ := isOf hZ eT E_a1
  obtain ⟨_, _, ⟨T, Lq, kq, nq⟩, -, X, ⟨Lc, hQ, lq, yq, zq⟩, st⟩ := X.virtualBack hx (y := own_y7) (z := own_y7) hown (mvT hZ (hw _ (own_w 74 rfl))) (mvT hZ (hw _ (own_w 75 rfl))) (notFace_of_selects (args := #[]) (mvT hZ (hw _ (own_w 77 rfl)))) (mvT hZ (hw _ (own_w 77 rfl))) (mvT hZ (hw _ (own_w 76 rfl))) (by decide) (backOf (W := 0) (own_charAt l Z a0 hw [] a1 (0 : Int32) va kv (9 : Int32) [(.int (own_b8 v0)), (.int (own_b8 (92 : Int32))), (.int (own_b8 (120 : Int32))), (.int (own_b8 (own_hx (v1 / (16 : Int32))))), (.int (own_b8 (own_hx (v1 % (16 : Int32))))), (.int (own_b8 (92 : Int32))), (.int (own_b8 (120 : Int32))), (.int (own_b8 (own_hx (v2 / (16 : Int32))))), (.int (own_b8 (own_hx (v2 % (16 : Int32)))))] (own_b8 v0) zc vS h2 n0 O E_a1 F_value_a1 F_coder_a1 V_va S_C hzc (by decide) rfl S_S hvS) hZ (hw _ (own_w 78 rfl)) (hw _ (own_w 10 rfl)) (by decide) (by decide)) qa qc (g := (mkF m 21 (own_A15 a1 b1 0 0) [(.int 0), (.ref a1)])) rfl (by rw [hml]; rfl) (Steps.refl _) (argsL := [(.int 0)]) (rest := []) (lenOf own_pd7 rfl) rfl (by show 2 * 0 + _ ≤ _; exact Nat.le_of_eq rfl) (hb hby ep10m3_d21) (fun _ _ => ⟨rfl, eT, (by decide : 1 + 0 ≤ _), (by decide : 9 + 0 ≤ _)⟩)
  dsimp only [Pt.U, Pt.locs, Pt.cells, Pt.slots] at X lq yq zq st hQ
  subst lq yq zq
  obtain ⟨rfl, Nq, eT⟩ := hQ
  replace N := Fr.app N Nq
  refine own_viaT (g' := (mkF m 24 (own_A15 a1 b1 0 0) [(.int ((own_b8 v0) &&& (255 : Int32)))])) st ?_
  rw [own_b255 bd0.1 bd0.2]
  refine own_via (g' := (mkF m 90 (own_A10 a1 b1 0 0 v0) [])) (fun t_ k_ => XS.istore X.here hx rfl (hb hby ep10m3_d24) rfl (l' := (own_A10 a1 b1 0 0 v0)) rfl (XS.iload X.here hx rfl (hb hby ep10m3_d26) rfl (XS.bipush X.here hx rfl (hb hby ep10m3_d28) (XS.icmpYes X.here hx rfl (pc0 := 30) (pc' := 76) rfl (hb hby ep10m3_d30) rfl (feq pp0.1).2 (by decide) (by decide) (XS.iload X.here hx rfl (hb hby ep10m3_d76) rfl (XS.bipush X.here hx rfl (hb hby ep10m3_d78) (XS.icmpNo X.here hx rfl (hb hby ep10m3_d80) rfl (flt pp0.2.1).1 (XS.iload X.here hx rfl (hb hby ep10m3_d83) rfl (XS.bipush X.here hx rfl (hb hby ep10m3_d85) (XS.icmpNo X.here hx rfl (hb hby ep10m3_d87) rfl (flt pp0.2.2).2.2.1 k_)))))))))) ?_
  refine own_via (g' := (mkF m 98 (own_A10 a1 b1 ((0 : Int32) + (1 : Int32)) 0 v0) [(.int (v0.toInt8.toInt32)), (.int 0), (.ref b1)])) (fun t_ k_ => XS.aloadN X.here hx rfl (hb hby ep10m3_d90) rfl rfl (XS.iloadN X.here hx rfl (hb hby ep10m3_d91) rfl (XS.iinc X.here hx rfl (hb hby ep10m3_d92) rfl (l' := (own_A10 a1 b1 ((0 : Int32) + (1 : Int32)) 0 v0)) rfl (XS.iload X.here hx rfl (hb hby ep10m3_d95) rfl (XS.i2b X.here hx rfl (hb hby ep10m3_d97) rfl k_))))) ?_
  obtain ⟨cl_, Ar_, qk_, Sz_, Nn_, Hs_, Gs_⟩ := id V_b1
  have hin_ : ¬ ((0 : Int32) < 0 ∨ cl_.slots.size ≤ ((0 : Int32)).toNatClampNeg) := inb_of Sz_ ⟨by decide, by decide⟩
  obtain ⟨T, h3, X, eT, W, st⟩ := stB X hx hZ eT Ar_ (j := (0 : Int32)) hin_ (g := (mkF m 98 (own_A10 a1 b1 ((0 : Int32) + (1 : Int32)) 0 v0) [(.int (v0.toInt8.toInt32)), (.int 0), (.ref b1)])) rfl rfl (hb hby ep10m3_d98)
  replace V_b1 : Arv Z h3 b1 kb1 .byte (9 : Int32) [(.int (((v0.toInt8.toInt32)).toInt8.toInt32)), (.int 0), (.int 0), (.int 0), (.int 0), (.int 0), (.int 0), (.int 0), (.int 0)] (.int 0) := Arv.set Ar_ qk_ Sz_ Nn_ Hs_ Gs_ (fits_nar_byte _) W 0 (by decide) (Nat.le_of_ble_eq_true rfl)
  replace E_a1 := E_a1.wr W
  replace F_value_a1 := F_value_a1.other W (Or.inl ne_a1_b1)
  replace F_coder_a1 := F_coder_a1.other W (Or.inl ne_a1_b1)
  replace V_va := V_va.other W ne_va_b1
  replace E_b1 := E_b1.wr W
  replace O := O.wr W g_b1
  replace K0 := K0.wr W (Or.inr sz_b1)
  replace N := Fr.snoc X N g_b1
  refine own_via (g' := (mkF m 99 (own_A10 a1 b1 ((0 : Int32) + (1 : Int32)) 0 v0) [])) st ?_
  refine own_via (g' := (mkF m 11 (own_A10 a1 b1 ((0 : Int32) + (1 : Int32)) ((0 : Int32) + (1 : Int32)) v0) [])) (fun t_ k_ => XS.goto X.here hx rfl (pc0 := 99) (pc' := 136) rfl (hb hby ep10m3_d99) (by decide) (by decide) (XS.iinc X.here hx rfl (hb hby ep10m3_d136) rfl (l' := (own_A10 a1 b1 ((0 : Int32) + (1 : Int32)) ((0 : Int32) + (1 : Int32)) v0)) rfl (XS.goto X.here hx rfl (pc0 := 139) (pc' := 11) rfl (hb hby ep10m3_d139) (by decide) (by decide) k_))) ?_
  rw [(by decide : ((0 : Int32) + (1 : Int32)) = (1 : Int32))]
  refine own_via (g' := (mkF m 13 (own_A10 a1 b1 1 1 v0) [(.ref a1), (.int 1)])) (fun t_ k_ => XS.iloadN X.here hx rfl (hb hby ep10m3_d11) rfl (XS.aloadN X.here hx rfl (hb hby ep10m3_d12) rfl rfl k_)) ?_
  obtain ⟨cq, kq, qa, qb, qc⟩ := isOf hZ eT E_a1
  obtain ⟨_, _, ⟨T, Lq, kq, nq⟩, -, X, ⟨Lc, hQ, lq, yq, zq⟩, st⟩ := X.virtualBack hx (y := own_y6) (z := own_y6) hown (mvT hZ (hw _ (own_w 33 rfl))) (mvT hZ (hw _ (own_w 34 rfl))) (notFace_of_selects (args := #[]) (mvT hZ (hw _ (own_w 36 rfl)))) (mvT hZ (hw _ (own_w 36 rfl))) (mvT hZ (hw _ (own_w 35 rfl))) (by decide) (backOf (W := 1) (own_strlen l Z a0 hw [] a1 va kv (9 : Int32) [(.int (own_b8 v0)), (.int (own_b8 (92 : Int32))), (.int (own_b8 (120 : Int32))), (.int (own_b8 (own_hx (v1 / (16 : Int32))))), (.int (own_b8 (own_hx (v1 % (16 : Int32))))), (.int (own_b8 (92 : Int32))), (.int (own_b8 (120 : Int32))), (.int (own_b8 (own_hx (v2 / (16 : Int32))))), (.int (own_b8 (own_hx (v2 % (16 : Int32)))))] zc h3 n0 O E_a1 F_value_a1 F_coder_a1 V_va S_C hzc) hZ (hw _ (own_w 37 rfl)) (hw _ (own_w 10 rfl)) (by decide) (by decide)) qa qc (g := (mkF m 13 (own_A10 a1 b1 1 1 v0) [(.ref a1), (.int 1)])) rfl (by rw [hml]; rfl) (Steps.refl _) (argsL := []) (rest := [(.int 1)]) (lenOf own_pd6 rfl) rfl (by show 2 * 0 + _ ≤ _; exact Nat.le_of_eq rfl) (hb hby ep10m3_d13) (fun _ _ => ⟨rfl, eT, (by decide : 1 + 0 ≤ _), (by decide : 9 + 0 ≤ _)⟩)
  dsimp only [Pt.U, Pt.locs, Pt.cells, Pt.slots] at X lq yq zq st hQ
  subst lq yq zq
  obtain ⟨rfl, Nq, eT⟩ := hQ
  replace N := Fr.app N Nq
  refine own_viaT (g' := (mkF m 16 (own_A10 a1 b1 1 1 v0) [(.int 9), (.int 1)])) st ?_
  refine own_via (g' := (mkF m 21 (own_A10 a1 b1 1 1 v0) [(.int 1), (.ref a1)])) (fun t_ k_ => XS.icmpNo X.here hx rfl (hb hby ep10m3_d16) rfl (tlt (by decide : (1 : Int32) < (9 : Int32))).2.1 (XS.aloadN X.here hx rfl (hb hby ep10m3_d19) rfl rfl (XS.iloadN X.here hx rfl (hb hby ep10m3_d20) rfl k_))) ?_
  obtain ⟨cq, kq, qa, qb, qc⟩ := isOf hZ eT E_a1
  obtain ⟨_, _, ⟨T, Lq, kq, nq⟩, -, X, ⟨Lc, hQ, lq, yq, zq⟩, st⟩ := X.virtualBack hx (y := own_y7) (z := own_y7) hown (mvT hZ (hw _ (own_w 74 rfl))) (mvT hZ (hw _ (own_w 75 rfl))) (notFace_of_selects (args := #[]) (mvT hZ (hw _ (own_w 77 rfl)))) (mvT hZ (hw _ (own_w 77 rfl))) (mvT hZ (hw _ (own_w 76 rfl))) (by decide) (backOf (W := 0) (own_charAt l Z a0 hw [] a1 (1 : Int32) va kv (9 : Int32) [(.int (own_b8 v0)), (.int (own_b8 (92 : Int32))), (.int (own_b8 (120 : Int32))), (.int (own_b8 (own_hx (v1 / (16 : Int32))))), (.int (own_b8 (own_hx (v1 % (16 : Int32))))), (.int (own_b8 (92 : Int32))), (.int (own_b8 (120 : Int32))), (.int (own_b8 (own_hx (v2 / (16 : Int32))))), (.int (own_b8 (own_hx (v2 % (16 : Int32)))))] (own_b8 (92 : Int32)) zc vS h3 n0 O E_a1 F_value_a1 F_coder_a1 V_va S_C hzc (by decide) rfl S_S hvS) hZ (hw _ (own_w 78 rfl)) (hw _ (own_w 10 rfl)) (by decide) (by decide)) qa qc (g := (mkF m 21 (own_A10 a1 b1 1 1 v0) [(.int 1), (.ref a1)])) rfl (by rw [hml]; rfl) (Steps.refl _) (argsL := [(.int 1)]) (rest := []) (lenOf own_pd7 rfl) rfl (by show 2 * 0 + _ ≤ _; exact Nat.le_of_eq rfl) (hb hby ep10m3_d21) (fun _ _ => ⟨rfl, eT, (by decide : 1 + 0 ≤ _), (by decide : 9 + 0 ≤ _)⟩)
  dsimp only [Pt.U, Pt.locs, Pt.cells, Pt.slots] at X lq yq zq st hQ
  subst lq yq zq
  obtain ⟨rfl, Nq, eT⟩ := hQ
  replace N := Fr.app N Nq
  refine own_viaT (g' := (mkF m 24 (own_A10 a1 b1 1 1 v0) [(.int ((own_b8 (92 : Int32)) &&& (255 : Int32)))])) st ?_
  rw [(by decide : ((own_b8 (92 : Int32)) &&& (255 : Int32)) = (92 : Int32))]
  refine own_via (g' := (mkF m 35 (own_A10 a1 b1 1 1 92) [(.int 1), (.ref a1)])) (fun t_ k_ => XS.istore X.here hx rfl (hb hby ep10m3_d24) rfl (l' := (own_A10 a1 b1 1 1 92)) rfl (XS.iload X.here hx rfl (hb hby ep10m3_d26) rfl (XS.bipush X.here hx rfl (hb hby ep10m3_d28) (XS.icmpNo X.here hx rfl (hb hby ep10m3_d30) rfl (teq (by decide : (92 : Int32) = (92 : Int32))).2 (XS.aloadN X.here hx rfl (hb hby ep10m3_d33) rfl rfl (XS.iloadN X.here hx rfl (hb hby ep10m3_d34) rfl k_)))))) ?_
  obtain ⟨_, _, ⟨T, Lq, kq, nq⟩, -, X, ⟨Lc, hQ, lq, yq, zq⟩, st⟩ := Jvm.LawKit.callS X hx (y := own_y10) hown (mvT hZ (hw _ (own_w 96 rfl))) (mvT hZ (hw _ (own_w 97 rfl))) (mvT hZ (hw _ (own_w 31 rfl))) (mvT hZ (hw _ (own_w 98 rfl))) (by decide) (backOf (W := 0) (own_escByte l Z a0 hw [] a1 va kv (9 : Int32) [(.int (own_b8 v0)), (.int (own_b8 (92 : Int32))), (.int (own_b8 (120 : Int32))), (.int (own_b8 (own_hx (v1 / (16 : Int32))))), (.int (own_b8 (own_hx (v1 % (16 : Int32))))), (.int (own_b8 (92 : Int32))), (.int (own_b8 (120 : Int32))), (.int (own_b8 (own_hx (v2 / (16 : Int32))))), (.int (own_b8 (own_hx (v2 % (16 : Int32)))))] (1 : Int32) v1 (own_b8 (120 : Int32)) (own_b8 (own_hx (v1 / (16 : Int32)))) (own_b8 (own_hx (v1 % (16 : Int32)))) zc vS h3 n0 O E_a1 F_value_a1 F_coder_a1 V_va (by decide) rfl (by decide) (by decide) rfl (own_b255 (own_hxB (own_hi bd1.1 bd1.2).2.1 (own_hi bd1.1 bd1.2).2.2).1 (own_hxB (own_hi bd1.1 bd1.2).2.1 (own_hi bd1.1 bd1.2).2.2).2) (by decide) rfl (own_b255 (own_hxB (own_lo bd1.1 bd1.2).2.1 (own_lo bd1.1 bd1.2).2.2).1 (own_hxB (own_lo bd1.1 bd1.2).2.1 (own_lo bd1.1 bd1.2).2.2).2) bd1 S_C hzc S_S hvS) hZ (hw _ (own_w 98 rfl)) (hw _ (own_w 31 rfl)) (by decide) (by decide)) (g := (mkF m 35 (own_A10 a1 b1 1 1 92) [(.int 1), (.ref a1)])) rfl (by rw [hml]; rfl) (argsL := [(.ref a1), (.int 1)]) (rest := []) (lenOf own_pd10 rfl) rfl (by show 2 * 0 + _ ≤ _; exact Nat.le_of_eq rfl) (hb hby ep10m3_d35) (fun _ _ => ⟨rfl, eT, (by decide : 1 + 0 ≤ _), (by decide : 9 + 0 ≤ _)⟩)
  dsimp only [Pt.U, Pt.locs, Pt.cells, Pt.slots] at X lq yq zq st hQ
  subst lq yq zq
  obtain ⟨rfl, Nq, eT⟩ := hQ
  replace N := Fr.app N Nq
  refine own_via (g' := (mkF m 38 (own_A10 a1 b1 1 1 92) [(.int v1)])) st ?_
  refine own_via (g' := (mkF m 69 (own_A8 a1 b1 ((1 : Int32) + (1 : Int32)) 1 92 v1) [(.int (v1.toInt8.toInt32)), (.int 1), (.ref b1)])) (fun t_ k_ => XS.istore X.here hx rfl (hb hby ep10m3_d38) rfl (l' := (own_A8 a1 b1 1 1 92 v1)) rfl (XS.iload X.here hx rfl (hb hby ep10m3_d40) rfl (XS.ifYes X.here hx rfl (pc0 := 42) (pc' := 61) rfl (hb hby ep10m3_d42) rfl ((if0 _ _).trans (flt (own_nn bd1.1)).2.1) (by decide) (by decide) (XS.aloadN X.here hx rfl (hb hby ep10m3_d61) rfl rfl (XS.iloadN X.here hx rfl (hb hby ep10m3_d62) rfl (XS.iinc X.here hx rfl (hb hby ep10m3_d63) rfl (l' := (own_A8 a1 b1 ((1 : Int32) + (1 : Int32)) 1 92 v1)) rfl (XS.iload X.here hx rfl (hb hby ep10m3_d66) rfl (XS.i2b X.here hx rfl (hb hby ep10m3_d68) rfl k_)))))))) ?_
  obtain ⟨cl_, Ar_, qk_, Sz_, Nn_, Hs_, Gs_⟩ := id V_b1
  have hin_ : ¬ ((1 : Int32) < 0 ∨ cl_.slots.size ≤ ((1 : Int32)).toNatClampNeg) := inb_of Sz_ ⟨by decide, by decide⟩
  obtain ⟨T, h4, X, eT, W, st⟩ := stB X hx hZ eT Ar_ (j := (1 : Int32)) hin_ (g := (mkF m 69 (own_A8 a1 b1 ((1 : Int32) + (1 : Int32)) 1 92 v1) [(.int (v1.toInt8.toInt32)), (.int 1), (.ref b1)])) rfl rfl (hb hby ep10m3_d69)
  replace V_b1 : Arv Z h4 b1 kb1 .byte (9 : Int32) [(.int (((v0.toInt8.toInt32)).toInt8.toInt32)), (.int (((v1.toInt8.toInt32)).toInt8.toInt32)), (.int 0), (.int 0), (.int 0), (.int 0), (.int 0), (.int 0), (.int 0)] (.int 0) := Arv.set Ar_ qk_ Sz_ Nn_ Hs_ Gs_ (fits_nar_byte _) W 1 (by decide) (Nat.le_of_ble_eq_true rfl)
  replace E_a1 := E_a1.wr W
  replace F_value_a1 := F_value_a1.other W (Or.inl ne_a1_b1)
  replace F_coder_a1 := F_coder_a1.other W (Or.inl ne_a1_b1)
  replace V_va := V_va.other W ne_va_b1
  replace E_b1 := E_b1.wr W
  replace O := O.wr W g_b1
  replace K0 := K0.wr W (Or.inr sz_b1)
  replace N := Fr.snoc X N g_b1
  refine own_via (g' := (mkF m 70 (own_A8 a1 b1 ((1 : Int32) + (1 : Int32)) 1 92 v1) [])) st ?_
  refine own_via (g' := (mkF m 11 (own_A8 a1 b1 ((1 : Int32) + (1 : Int32)) (((1 : Int32) + (3 : Int32)) + (1 : Int32)) 92 v1) [])) (fun t_ k_ => XS.iinc X.here hx rfl (hb hby ep10m3_d70) rfl (l' := (own_A8 a1 b1 ((1 : Int32) + (1 : Int32)) ((1 : Int32) + (3 : Int32)) 92 v1)) rfl (XS.goto X.here hx rfl (pc0 := 73) (pc' := 136) rfl (hb hby ep10m3_d73) (by decide) (by decide) (XS.iinc X.here hx rfl (hb hby ep10m3_d136) rfl (l' := (own_A8 a1 b1 ((1 : Int32) + (1 : Int32)) (((1 : Int32) + (3 : Int32)) + (1 : Int32)) 92 v1)) rfl (XS.goto X.here hx rfl (pc0 := 139) (pc' := 11) rfl (hb hby ep10m3_d139) (by decide) (by decide) k_)))) ?_
  rw [(by decide : ((1 : Int32) + (1 : Int32)) = (2 : Int32))]
  rw [(by decide : (((1 : Int32) + (3 : Int32)) + (1 : Int32)) = (5 : Int32))]
  refine own_via (g' := (mkF m 13 (own_A8 a1 b1 2 5 92 v1) [(.ref a1), (.int 5)])) (fun t_ k_ => XS.iloadN X.here hx rfl (hb hby ep10m3_d11) rfl (XS.aloadN X.here hx rfl (hb hby ep10m3_d12) rfl rfl k_)) ?_
  obtain ⟨cq, kq, qa, qb, qc⟩ := isOf hZ eT E_a1
  obtain ⟨_, _, ⟨T, Lq, kq, nq⟩, -, X, ⟨Lc, hQ, lq, yq, zq⟩, st⟩ := X.virtualBack hx (y := own_y6) (z := own_y6) hown (mvT hZ (hw _ (own_w 33 rfl))) (mvT hZ (hw _ (own_w 34 rfl))) (notFace_of_selects (args := #[]) (mvT hZ (hw _ (own_w 36 rfl)))) (mvT hZ (hw _ (own_w 36 rfl))) (mvT hZ (hw _ (own_w 35 rfl))) (by decide) (backOf (W := 1) (own_strlen l Z a0 hw [] a1 va kv (9 : Int32) [(.int (own_b8 v0)), (.int (own_b8 (92 : Int32))), (.int (own_b8 (120 : Int32))), (.int (own_b8 (own_hx (v1 / (16 : Int32))))), (.int (own_b8 (own_hx (v1 % (16 : Int32))))), (.int (own_b8 (92 : Int32))), (.int (own_b8 (120 : Int32))), (.int (own_b8 (own_hx (v2 / (16 : Int32))))), (.int (own_b8 (own_hx (v2 % (16 : Int32)))))] zc h4 n0 O E_a1 F_value_a1 F_coder_a1 V_va S_C hzc) hZ (hw _ (own_w 37 rfl)) (hw _ (own_w 10 rfl)) (by decide) (by decide)) qa qc (g := (mkF m 13 (own_A8 a1 b1 2 5 92 v1) [(.ref a1), (.int 5)])) rfl (by rw [hml]; rfl) (Steps.refl _) (argsL := []) (rest := [(.int 5)]) (lenOf own_pd6 rfl) rfl (by show 2 * 0 + _ ≤ _; exact Nat.le_of_eq rfl) (hb hby ep10m3_d13) (fun _ _ => ⟨rfl, eT, (by decide : 1 + 0 ≤ _), (by decide : 9 + 0 ≤ _)⟩)
  dsimp only [Pt.U, Pt.locs, Pt.cells, Pt.slots] at X lq yq zq st hQ
  subst lq yq zq
  obtain ⟨rfl, Nq, eT⟩ := hQ
  replace N := Fr.app N Nq
  refine own_viaT (g' := (mkF m 16 (own_A8 a1 b1 2 5 92 v1) [(.int 9), (.int 5)])) st ?_
  refine own_via (g' := (mkF m 21 (own_A8 a1 b1 2 5 92 v1) [(.int 5), (.ref a1)])) (fun t_ k_ => XS.icmpNo X.here hx rfl (hb hby ep10m3_d16) rfl (tlt (by decide : (5 : Int32) < (9 : Int32))).2.1 (XS.aloadN X.here hx rfl (hb hby ep10m3_d19) rfl rfl (XS.iloadN X.here hx rfl (hb hby ep10m3_d20) rfl k_))) ?_
  obtain ⟨cq, kq, qa, qb, qc⟩ := isOf hZ eT E_a1
  obtain ⟨_, _, ⟨T, Lq, kq, nq⟩, -, X, ⟨Lc, hQ, lq, yq, zq⟩, st⟩ := X.virtualBack hx (y := own_y7) (z := own_y7) hown (mvT hZ (hw _ (own_w 74 rfl))) (mvT hZ (hw _ (own_w 75 rfl))) (notFace_of_selects (args := #[]) (mvT hZ (hw _ (own_w 77 rfl)))) (mvT hZ (hw _ (own_w 77 rfl))) (mvT hZ (hw _ (own_w 76 rfl))) (by decide) (backOf (W := 0) (own_charAt l Z a0 hw [] a1 (5 : Int32) va kv (9 : Int32) [(.int (own_b8 v0)), (.int (own_b8 (92 : Int32))), (.int (own_b8 (120 : Int32))), (.int (own_b8 (own_hx (v1 / (16 : Int32))))), (.int (own_b8 (own_hx (v1 % (16 : Int32))))), (.int (own_b8 (92 : Int32))), (.int (own_b8 (120 : Int32))), (.int (own_b8 (own_hx (v2 / (16 : Int32))))), (.int (own_b8 (own_hx (v2 % (16 : Int32)))))] (own_b8 (92 : Int32)) zc vS h4 n0 O E_a1 F_value_a1 F_coder_a1 V_va S_C hzc (by decide) rfl S_S hvS) hZ (hw _ (own_w 78 rfl)) (hw _ (own_w 10 rfl)) (by decide) (by decide)) qa qc (g := (mkF m 21 (own_A8 a1 b1 2 5 92 v1) [(.int 5), (.ref a1)])) rfl (by rw [hml]; rfl) (Steps.refl _) (argsL := [(.int 5)]) (rest := []) (lenOf own_pd7 rfl) rfl (by show 2 * 0 + _ ≤ _; exact Nat.le_of_eq rfl) (hb hby ep10m3_d21) (fun _ _ => ⟨rfl, eT, (by decide : 1 + 0 ≤ _), (by decide : 9 + 0 ≤ _)⟩)
  dsimp only [Pt.U, Pt.locs, Pt.cells, Pt.slots] at X lq yq zq st hQ
  subst lq yq zq
  obtain ⟨rfl, Nq, eT⟩ := hQ
  replace N := Fr.app N Nq
  refine own_viaT (g' := (mkF m 24 (own_A8 a1 b1 2 5 92 v1) [(.int ((own_b8 (92 : Int32)) &&& (255 : Int32)))])) st ?_
  rw [(by decide : ((own_b8 (92 : Int32)) &&& (255 : Int32)) = (92 : Int32))]
  refine own_via (g' := (mkF m 35 (own_A8 a1 b1 2 5 92 v1) [(.int 5), (.ref a1)])) (fun t_ k_ => XS.istore X.here hx rfl (hb hby ep10m3_d24) rfl (l' := (own_A8 a1 b1 2 5 92 v1)) rfl (XS.iload X.here hx rfl (hb hby ep10m3_d26) rfl (XS.bipush X.here hx rfl (hb hby ep10m3_d28) (XS.icmpNo X.here hx rfl (hb hby ep10m3_d30) rfl (teq (by decide : (92 : Int32) = (92 : Int32))).2 (XS.aloadN X.here hx rfl (hb hby ep10m3_d33) rfl rfl (XS.iloadN X.here hx rfl (hb hby ep10m3_d34) rfl k_)))))) ?_
  obtain ⟨_, _, ⟨T, Lq, kq, nq⟩, -, X, ⟨Lc, hQ, lq, yq, zq⟩, st⟩ := Jvm.LawKit.callS X hx (y := own_y10) hown (mvT hZ (hw _ (own_w 96 rfl))) (mvT hZ (hw _ (own_w 97 rfl))) (mvT hZ (hw _ (own_w 31 rfl))) (mvT hZ (hw _ (own_w 98 rfl))) (by decide) (backOf (W := 0) (own_escByte l Z a0 hw [] a1 va kv (9 : Int32) [(.int (own_b8 v0)), (.int (own_b8 (92 : Int32))), (.int (own_b8 (120 : Int32))), (.int (own_b8 (own_hx (v1 / (16 : Int32))))), (.int (own_b8 (own_hx (v1 % (16 : Int32))))), (.int (own_b8 (92 : Int32))), (.int (own_b8 (120 : Int32))), (.int (own_b8 (own_hx (v2 / (16 : Int32))))), (.int (own_b8 (own_hx (v2 % (16 : Int32)))))] (5 : Int32) v2 (own_b8 (120 : Int32)) (own_b8 (own_hx (v2 / (16 : Int32)))) (own_b8 (own_hx (v2 % (16 : Int32)))) zc vS h4 n0 O E_a1 F_value_a1 F_coder_a1 V_va (by decide) rfl (by decide) (by decide) rfl (own_b255 (own_hxB (own_hi bd2.1 bd2.2).2.1 (own_hi bd2.1 bd2.2).2.2).1 (own_hxB (own_hi bd2.1 bd2.2).2.1 (own_hi bd2.1 bd2.2).2.2).2) (by decide) rfl (own_b255 (own_hxB (own_lo bd2.1 bd2.2).2.1 (own_lo bd2.1 bd2.2).2.2).1 (own_hxB (own_lo bd2.1 bd2.2).2.1 (own_lo bd2.1 bd2.2).2.2).2) bd2 S_C hzc S_S hvS) hZ (hw _ (own_w 98 rfl)) (hw _ (own_w 31 rfl)) (by decide) (by decide)) (g := (mkF m 35 (own_A8 a1 b1 2 5 92 v1) [(.int 5), (.ref a1)])) rfl (by rw [hml]; rfl) (argsL := [(.ref a1), (.int 5)]) (rest := []) (lenOf own_pd10 rfl) rfl (by show 2 * 0 + _ ≤ _; exact Nat.le_of_eq rfl) (hb hby ep10m3_d35) (fun _ _ => ⟨rfl, eT, (by decide : 1 + 0 ≤ _), (by decide : 9 + 0 ≤ _)⟩)
  dsimp only [Pt.U, Pt.locs, Pt.cells, Pt.slots] at X lq yq zq st hQ
  subst lq yq zq
  obtain ⟨rfl, Nq, eT⟩ := hQ
  replace N := Fr.app N Nq
  refine own_via (g' := (mkF m 38 (own_A8 a1 b1 2 5 92 v1) [(.int v2)])) st ?_
  refine own_via (g' := (mkF m 69 (own_A8 a1 b1 ((2 : Int32) + (1 : Int32)) 5 92 v2) [(.int (v2.toInt8.toInt32)), (.int 2), (.ref b1)])) (fun t_ k_ => XS.istore X.here hx rfl (hb hby ep10m3_d38) rfl (l' := (own_A8 a1 b1 2 5 92 v2)) rfl (XS.iload X.here hx rfl (hb hby ep10m3_d40) rfl (XS.ifYes X.here hx rfl (pc0 := 42) (pc' := 61) rfl (hb hby ep10m3_d42) rfl ((if0 _ _).trans (flt (own_nn bd2.1)).2.1) (by decide) (by decide) (XS.aloadN X.here hx rfl (hb hby ep10m3_d61) rfl rfl (XS.iloadN X.here hx rfl (hb hby ep10m3_d62) rfl (XS.iinc X.here hx rfl (hb hby ep10m3_d63) rfl (l' := (own_A8 a1 b1 ((2 : Int32) + (1 : Int32)) 5 92 v2)) rfl (XS.iload X.here hx rfl (hb hby ep10m3_d66) rfl (XS.i2b X.here hx rfl (hb hby ep10m3_d68) rfl k_)))))))) ?_
  obtain ⟨cl_, Ar_, qk_, Sz_, Nn_, Hs_, Gs_⟩ := id V_b1
  have hin_ : ¬ ((2 : Int32) < 0 ∨ cl_.slots.size ≤ ((2 : Int32)).toNatClampNeg) := inb_of Sz_ ⟨by decide, by decide⟩
  obtain ⟨T, h5, X, eT, W, st⟩ := stB X hx hZ eT Ar_ (j := (2 : Int32)) hin_ (g := (mkF m 69 (own_A8 a1 b1 ((2 : Int32) + (1 : Int32)) 5 92 v2) [(.int (v2.toInt8.toInt32)), (.int 2), (.ref b1)])) rfl rfl (hb hby ep10m3_d69)
  replace V_b1 : Arv Z h5 b1 kb1 .byte (9 : Int32) [(.int (((v0.toInt8.toInt32)).toInt8.toInt32)), (.int (((v1.toInt8.toInt32)).toInt8.toInt32)), (.int (((v2.toInt8.toInt32)).toInt8.toInt32)), (.int 0), (.int 0), (.int 0), (.int 0), (.int 0), (.int 0)] (.int 0) := Arv.set Ar_ qk_ Sz_ Nn_ Hs_ Gs_ (fits_nar_byte _) W 2 (by decide) (Nat.le_of_ble_eq_true rfl)
  replace E_a1 := E_a1.wr W
  replace F_value_a1 := F_value_a1.other W (Or.inl ne_a1_b1)
  replace F_coder_a1 := F_coder_a1.other W (Or.inl ne_a1_b1)
  replace V_va := V_va.other W ne_va_b1
  replace E_b1 := E_b1.wr W
  replace O := O.wr W g_b1
  replace K0 := K0.wr W (Or.inr sz_b1)
  replace N := Fr.snoc X N g_b1
  refine own_via (g' := (mkF m 70 (own_A8 a1 b1 ((2 : Int32) + (1 : Int32)) 5 92 v2) [])) st ?_
  refine own_via (g' := (mkF m 11 (own_A8 a1 b1 ((2 : Int32) + (1 : Int32)) (((5 : Int32) + (3 : Int32)) + (1 : Int32)) 92 v2) [])) (fun t_ k_ => XS.iinc X.here hx rfl (hb hby ep10m3_d70) rfl (l' := (own_A8 a1 b1 ((2 : Int32) + (1 : Int32)) ((5 : Int32) + (3 : Int32)) 92 v2)) rfl (XS.goto X.here hx rfl (pc0 := 73) (pc' := 136) rfl (hb hby ep10m3_d73) (by decide) (by decide) (XS.iinc X.here hx rfl (hb hby ep10m3_d136) rfl (l' := (own_A8 a1 b1 ((2 : Int32) + (1 : Int32)) (((5 : Int32) + (3 : Int32)) + (1 : Int32)) 92 v2)) rfl (XS.goto X.here hx rfl (pc0 := 139) (pc' := 11) rfl (hb hby ep10m3_d139) (by decide) (by decide) k_)))) ?_
  rw [(by decide : ((2 : Int32) + (1 : Int32)) = (3 : Int32))]
  rw [(by decide : (((5 : Int32) + (3 : Int32)) + (1 : Int32)) = (9 : Int32))]
  refine own_via (g' := (mkF m 13 (own_A8 a1 b1 3 9 92 v2) [(.ref a1), (.int 9)])) (fun t_ k_ => XS.iloadN X.here hx rfl (hb hby ep10m3_d11) rfl (XS.aloadN X.here hx rfl (hb hby ep10m3_d12) rfl rfl k_)) ?_
  obtain ⟨cq, kq, qa, qb, qc⟩ := isOf hZ eT E_a1
  obtain ⟨_, _, ⟨T, Lq, kq, nq⟩, -, X, ⟨Lc, hQ, lq, yq, zq⟩, st⟩ := X.virtualBack hx (y := own_y6) (z := own_y6) hown (mvT hZ (hw _ (own_w 33 rfl))) (mvT hZ (hw _ (own_w 34 rfl))) (notFace_of_selects (args := #[]) (mvT hZ (hw _ (own_w 36 rfl)))) (mvT hZ (hw _ (own_w 36 rfl))) (mvT hZ (hw _ (own_w 35 rfl))) (by decide) (backOf (W := 1) (own_strlen l Z a0 hw [] a1 va kv (9 : Int32) [(.int (own_b8 v0)), (.int (own_b8 (92 : Int32))), (.int (own_b8 (120 : Int32))), (.int (own_b8 (own_hx (v1 / (16 : Int32))))), (.int (own_b8 (own_hx (v1 % (16 : Int32))))), (.int (own_b8 (92 : Int32))), (.int (own_b8 (120 : Int32))), (.int (own_b8 (own_hx (v2 / (16 : Int32))))), (.int (own_b8 (own_hx (v2 % (16 : Int32)))))] zc h5 n0 O E_a1 F_value_a1 F_coder_a1 V_va S_C hzc) hZ (hw _ (own_w 37 rfl)) (hw _ (own_w 10 rfl)) (by decide) (by decide)) qa qc (g := (mkF m 13 (own_A8 a1 b1 3 9 92 v2) [(.ref a1), (.int 9)])) rfl (by rw [hml]; rfl) (Steps.refl _) (argsL := []) (rest := [(.int 9)]) (lenOf own_pd6 rfl) rfl (by show 2 * 0 + _ ≤ _; exact Nat.le_of_eq rfl) (hb hby ep10m3_d13) (fun _ _ => ⟨rfl, eT, (by decide : 1 + 0 ≤ _), (by decide : 9 + 0 ≤ _)⟩)
  dsimp only [Pt.U, Pt.locs, Pt.cells, Pt.slots] at X lq yq zq st hQ
  subst lq yq zq
  obtain ⟨rfl, Nq, eT⟩ := hQ
  replace N := Fr.app N Nq
  refine own_viaT (g' := (mkF m 16 (own_A8 a1 b1 3 9 92 v2) [(.int 9), (.int 9)])) st ?_
  refine own_via (g' := (mkF m 144 (own_A8 a1 b1 3 9 92 v2) [(.int 3), (.ref b1)])) (fun t_ k_ => XS.icmpYes X.here hx rfl (pc0 := 16) (pc' := 142) rfl (hb hby ep10m3_d16) rfl (flt (by decide : ¬ ((9 : Int32) < (9 : Int32)))).2.1 (by decide) (by decide) (XS.aloadN X.here hx rfl (hb hby ep10m3_d142) rfl rfl (XS.iloadN X.here hx rfl (hb hby ep10m3_d143) rfl k_))) ?_
  replace V_b1 : Arv Z h5 b1 kb1 .byte (9 : Int32) [(.int (own_sb v0)), (.int (own_sb v1)), (.int (own_sb v2))] (.int 0) := V_b1.pad (fun i => (pad_rep [(.int (own_sb v0)), (.int (own_sb v1)), (.int (own_sb v2))] (.int 0) 6 i).symm)
  obtain ⟨_, _, ⟨T, Lq, kq, nq⟩, -, X, ⟨Lc, hQ, lq, yq, zq⟩, st⟩ := Jvm.LawKit.callS X hx (y := own_y9) hown (mvT hZ (hw _ (own_w 44 rfl))) (mvT hZ (hw _ (own_w 45 rfl))) (mvT hZ (hw _ (own_w 46 rfl))) (mvT hZ (hw _ (own_w 47 rfl))) (by decide) (backOf (W := 0) (own_copyOf l Z a0 hw [] b1 kb1 (3 : Int32) (9 : Int32) [(.int (own_sb v0)), (.int (own_sb v1)), (.int (own_sb v2))] h5 n0 O E_b1 V_b1 (by decide) rfl) hZ (hw _ (own_w 47 rfl)) (hw _ (own_w 46 rfl)) (by decide) (by decide)) (g := (mkF m 144 (own_A8 a1 b1 3 9 92 v2) [(.int 3), (.ref b1)])) rfl (by rw [hml]; rfl) (argsL := [(.ref b1), (.int 3)]) (rest := []) (lenOf own_pd9 rfl) rfl (by show 2 * 0 + _ ≤ _; exact Nat.le_of_eq rfl) (hb hby ep10m3_d144) (fun _ _ => ⟨rfl, eT, (by decide : 1 + 1 ≤ _), (by decide : 9 + 12 ≤ _)⟩)
  dsimp only [Pt.U, Pt.locs, Pt.cells, Pt.slots] at X lq yq zq st hQ
  subst lq yq zq
  obtain ⟨bn, kbn, rfl, Nq, Kq, szq, V_bn, E_bn⟩ := hQ
  replace N := Fr.app N Nq
  obtain ⟨h6, eT⟩ : ∃ z, T.heap = z := ⟨_, rfl⟩
  rw [eT] at Kq V_bn E_bn
  have ne_a1_bn : a1 ≠ bn := Nat.ne_of_lt (Nat.lt_of_lt_of_le E_a1.lt szq)
  have ne_b1_bn : b1 ≠ bn := Nat.ne_of_lt (Nat.lt_of_lt_of_le E_b1.lt szq)
  have ne_va_bn : va ≠ bn := Nat.ne_of_lt (Nat.lt_of_lt_of_le V_va.lt szq)
  have g_bn : n0 ≤ bn := Nat.le_trans (own_le O) szq
  have sz_bn : h0.size ≤ bn := Nat.le_trans K0.1 szq
  replace E_a1 := E_a1.keep Kq
  replace F_value_a1 := F_value_a1.keep Kq nin0
  replace F_coder_a1 := F_coder_a1.keep Kq nin0
  replace V_va := V_va.keep Kq nin0
  replace E_b1 := E_b1.keep Kq
  replace V_b1 := V_b1.keep Kq nin0
  replace O := O.keep Kq all0
  replace K0 := K0.trans Kq all0
  refine own_via (g' := (mkF m 147 (own_A8 a1 b1 3 9 92 v2) [(.ref bn)])) st ?_
  refine own_retW X hx hlk Bd.returns rfl (Or.inr (Or.inr (Or.inr (Or.inr ⟨rfl, rfl, rfl⟩)))) (hb hby ep10m3_d147) (by decide) (by decide) ?_
  rw [eT]
  exact ⟨bn, kbn, rfl, N, K0, sz_bn, V_bn, E_bn⟩
theorem own_unEPP_pn : plainFor (⟨"com/example/rows_to_regions/rowstoregions/KeyText", "unescape", "(Ljava/lang/String;)[B"⟩ : MethodName) = true := by first | exact plainFor_of_name (by first | (simp [plainName, overriddenIn]; done) | decide +kernel) | decide +kernel | exact Jvm.Free.JP.mathPlain rfl (by decide +kernel)
theorem own_unEPP_ef (m : MethodId) (x0 : Addr) : entryFrame m #[(.ref x0)] 6 = mkF m 0 #[.val (.ref x0), .unset, .unset, .unset, .unset, .unset] [] := by first | (simp [entryFrame, mkF, argsToLocals, Value.category]; done) | rfl
def own_unEPP_Q (Z : State) (a1 : Addr) (va : Addr) (kv : ClassId) (v0 : Int32) (v1 : Int32) (v2 : Int32) (zc : Int32) (vS : Value) (h0 : Heap) (n0 : Nat) (v : Option Value) (h : Heap) (L : List Loc) : Prop := ∃ b kb, v = some (.ref b) ∧ Fr n0 L ∧ Keep h0 h [] ∧ h0.size ≤ b ∧ Arv Z h b kb .byte (3 : Int32) [(.int (own_sb v0)), (.int (own_sb v1)), (.int (own_sb v2))] (.int 0) ∧ Exa Z h b "[B"
set_option maxRecDepth 65536 in
set_option maxHeartbeats 40000000 in
theorem own_unEPP (l : Launch) (Z : State) (a0 : Array Value) (hw : ∀ d ∈ tables_1, d.before a0 Z = true) (ws : List Jvm.Cond) (a1 : Addr) (va : Addr) (kv : ClassId) (v0 : Int32) (v1 : Int32) (v2 : Int32) (zc : Int32) (vS : Value) (h0 : Heap) (n0 : Nat) (O : Old Z n0 h0) (E_a1 : Exa Z h0 a1 "java/lang/String") (F_value_a1 : Fld Z h0 a1 "java/lang/String" "value" "[B" (.ref va)) (F_coder_a1 : Fld Z h0 a1 "java/lang/String" "coder" "B" (.int 0)) (V_va : Arv Z h0 va kv .byte (6 : Int32) [(.int (own_b8 (92 : Int32))), (.int (own_b8 (120 : Int32))), (.int (own_b8 (own_hx (v0 / (16 : Int32))))), (.int (own_b8 (own_hx (v0 % (16 : Int32))))), (.int (own_b8 v1)), (.int (own_b8 v2))] (.int 0)) (bd0 : 0 ≤ v0.toInt ∧ v0.toInt < 256) (bd1 : 0 ≤ v1.toInt ∧ v1.toInt < 256) (pp1 : ¬ v1 = (92 : Int32) ∧ ¬ v1 < (32 : Int32) ∧ ¬ (126 : Int32) < v1) (bd2 : 0 ≤ v2.toInt ∧ v2.toInt < 256) (pp2 : ¬ v2 = (92 : Int32) ∧ ¬ v2 < (32 : Int32) ∧ ¬ (126 : Int32) < v2) (S_C : Sta Z Z.heap "java/lang/String" "COMPACT_STRINGS" "Z" (.int zc)) (hzc : ¬ zc = 0) (S_S : Sta Z Z.heap "jdk/internal/util/Preconditions" "SIOOBE_FORMATTER" "Ljava/util/function/BiFunction;" vS) (hvS : vS.isRef = true) :
    MetFree l (⟨"com/example/rows_to_regions/rowstoregions/KeyText", "unescape", "(Ljava/lang/String;)[B"⟩ : MethodName) (head1 (Jvm.Cond.code (⟨"com/example/rows_to_regions/rowstoregions/KeyText", "unescape", "(Ljava/lang/String;)[B"⟩ : MethodName) prog_10_method_3_code 6 (some (.array .byte)) :: ws) ({ frames := 5, cells := 2, slots := 24, locals := 68 } : Room)) (fun a U => a = #[(.ref a1)] ∧ Z.Warmed39 U.vm ∧ U.heap = h0) (fun _ _ _ _ _ => True) (fun _ U o U' => ∃ v L, o = .returned v ∧ own_unEPP_Q Z a1 va kv v0 v1 v2 zc vS h0 n0 v U'.heap L ∧ FrameEnd U o U' L ({ frames := 5, cells := 2, slots := 24, locals := 68 } : Room).cells ({ frames := 5, cells := 2, slots := 24, locals := 68 } : Room).slots) := by
  refine MetFree.of_bodySF own_unEPP_pn hisR ?_
  intro p e s m args below meth c s₁ Bd hml0 hP hK
  obtain ⟨rfl, hZ, hh⟩ := hP
  have hx := Bd.exec
  have hby := Bd.bytes
  have hlk := Bd.notSynchronized
  have hml : c.maxLocals = 6 := hml0
  have hown : s.vm.findClass "com/example/rows_to_regions/rowstoregions/KeyText" = some m.cls := findClass_of_methodNamed Bd.named
  have hnm := (name_of_methodNamed Bd.named Bd.method).1
  have X : Stand p l e ({ frames := 5, cells := 2, slots := 24, locals := 68 } : Room) s m #[(.ref a1)] below meth c s₁ [] 0 0 := Stand.of_body Bd
  have eT : s₁.heap = h0 := by rw [← hh, Bd.state]; rfl
  have N := Fr.nil n0
  have K0 := Keep.refl h0 []
  show own_Ends p e below (own_Post s below (own_unEPP_Q Z a1 va kv v0 v1 v2 zc vS h0 n0) ({ frames := 5, cells := 2, slots := 24, locals := 68 } : Room).cells ({ frames := 5, cells := 2, slots := 24, locals := 68 } : Room).slots) s₁ (entryFrame m #[(.ref a1)] 6)
  rw [own_unEPP_ef m a1]
  obtain ⟨T, hT⟩ : ∃ z, z = s₁ := ⟨_, rfl⟩
  rw [← hT] at X eT ⊢
  obtain ⟨h, hh0⟩ : ∃ z, z = h0 := ⟨_, rfl⟩
  rw [← hh0] at eT
  replace O : Old Z n0 h := by rw [hh0]; exact O
  replace K0 : Keep h0 h [] := by rw [hh0]; exact K0
  rw [← hh0] at E_a1
  rw [← hh0] at F_value_a1
  rw [← hh0] at F_coder_a1
  rw [← hh0] at V_va
  refine own_via (g' := (mkF m 1 (own_A19 a1) [(.ref a1)])) (fun t_ k_ => XS.aloadN X.here hx rfl (hb hby ep10m3_d0) rfl rfl k_) ?_
  obtain ⟨cq, kq, qa, qb, qc⟩ := isOf hZ eT E_a1
  obtain ⟨_, _, ⟨T, Lq, kq, nq⟩, -, X, ⟨Lc, hQ, lq, yq, zq⟩, st⟩ := X.virtualBack hx (y := own_y6) (z := own_y6) hown (mvT hZ (hw _ (own_w 33 rfl))) (mvT hZ (hw _ (own_w 34 rfl))) (notFace_of_selects (args := #[]) (mvT hZ (hw _ (own_w 36 rfl)))) (mvT hZ (hw _ (own_w 36 rfl))) (mvT hZ (hw _ (own_w 35 rfl))) (by decide) (backOf (W := 0) (own_strlen l Z a0 hw [] a1 va kv (6 : Int32) [(.int (own_b8 (92 : Int32))), (.int (own_b8 (120 : Int32))), (.int (own_b8 (own_hx (v0 / (16 : Int32))))), (.int (own_b8 (own_hx (v0 % (16 : Int32))))), (.int (own_b8 v1)), (.int (own_b8 v2))] zc h n0 O E_a1 F_value_a1 F_coder_a1 V_va S_C hzc) hZ (hw _ (own_w 37 rfl)) (hw _ (own_w 10 rfl)) (by decide) (by decide)) qa qc (g := (mkF m 1 (own_A19 a1) [(.ref a1)])) rfl (by rw [hml]; rfl) (Steps.refl _) (argsL := []) (rest := []) (lenOf own_pd6 rfl) rfl (by show 2 * 0 + _ ≤ _; exact Nat.le_of_eq rfl) (hb hby ep10m3_d1) (fun _ _ => ⟨rfl, eT, (by decide : 0 + 0 ≤ _), (by decide : 0 + 0 ≤ _)⟩)
  dsimp only [Pt.U, Pt.locs, Pt.cells, Pt.slots] at X lq yq zq st hQ
  subst lq yq zq
  obtain ⟨rfl, Nq, eT⟩ := hQ
  replace N := Fr.app N Nq
  refine own_viaT (g' := (mkF m 4 (own_A19 a1) [(.int 6)])) st ?_
  obtain ⟨b1, gb⟩ : ∃ z, z = h.size := ⟨_, rfl⟩
  obtain ⟨T, h2, kb1, X, eT, E, A_, E_b1, st⟩ := newPE X hx hZ (hw _ (own_w 22 rfl)) eT (g := (mkF m 4 (own_A19 a1) [(.int 6)])) rfl (hb hby ep10m3_d4) rfl (by decide) (cap := 6) (by decide) (by decide) (by decide) (by decide) (ad := "[B") (by decide)
  rw [← gb] at A_ E_b1 st
  have ne_a1_b1 : a1 ≠ b1 := Nat.ne_of_lt (Nat.lt_of_lt_of_le E_a1.lt (Nat.le_of_eq gb.symm))
  have ne_va_b1 : va ≠ b1 := Nat.ne_of_lt (Nat.lt_of_lt_of_le V_va.lt (Nat.le_of_eq gb.symm))
  have g_b1 : n0 ≤ b1 := Nat.le_trans (own_le O) (Nat.le_of_eq gb.symm)
  have sz_b1 : h0.size ≤ b1 := Nat.le_trans K0.1 (Nat.le_of_eq gb.symm)
  replace E_a1 := E_a1.ext E
  replace F_value_a1 := F_value_a1.ext E
  replace F_coder_a1 := F_coder_a1.ext E
  replace V_va := V_va.ext E
  replace O := O.ext E
  replace K0 := K0.ext E
  have V_b1 : Arv Z h2 b1 kb1 .byte (6 : Int32) [(.int 0), (.int 0), (.int 0), (.int 0), (.int 0), (.int 0)] (.int 0) := (Arv.new A_ (by decide)).pad (pad_rep [] (.int 0) 6)
  refine own_via (g' := (mkF m 6 (own_A19 a1) [(.ref b1)])) st ?_
  refine own_via (g' := (mkF m 13 (own_A15 a1 b1 0 0) [(.ref a1), (.int 0)])) (fun t_ k_ => XS.astoreN X.here hx rfl (hb hby ep10m3_d6) rfl rfl (l' := (own_A18 a1 b1)) rfl (XS.iconst X.here hx rfl (hb hby ep10m3_d7) (XS.istoreN X.here hx rfl (hb hby ep10m3_d8) rfl (l' := (own_A17 a1 b1 0)) rfl (XS.iconst X.here hx rfl (hb hby ep10m3_d9) (XS.istoreN X.here hx rfl (hb hby ep10m3_d10) rfl (l' := (own_A15 a1 b1 0 0)) rfl (XS.iloadN X.here hx rfl (hb hby ep10m3_d11) rfl (XS.aloadN X.here hx rfl (hb hby ep10m3_d12) rfl rfl k_))))))) ?_
  obtain ⟨cq, kq, qa, qb, qc⟩ := isOf hZ eT E_a1
  obtain ⟨_, _, ⟨T, Lq, kq, nq⟩, -, X, ⟨Lc, hQ, lq, yq, zq⟩, st⟩ := X.virtualBack hx (y := own_y6) (z := own_y6) hown (mvT hZ (hw _ (own_w 33 rfl))) (mvT hZ (hw _ (own_w 34 rfl))) (notFace_of_selects (args := #[]) (mvT hZ (hw _ (own_w 36 rfl)))) (mvT hZ (hw _ (own_w 36 rfl))) (mvT hZ (hw _ (own_w 35 rfl))) (by decide) (backOf (W := 1) (own_strlen l Z a0 hw [] a1 va kv (6 : Int32) [(.int (own_b8 (92 : Int32))), (.int (own_b8 (120 : Int32))), (.int (own_b8 (own_hx (v0 / (16 : Int32))))), (.int (own_b8 (own_hx (v0 % (16 : Int32))))), (.int (own_b8 v1)), (.int (own_b8 v2))] zc h2 n0 O E_a1 F_value_a1 F_coder_a1 V_va S_C hzc) hZ (hw _ (own_w 37 rfl)) (hw _ (own_w 10 rfl)) (by decide) (by decide)) qa qc (g := (mkF m 13 (own_A15 a1 b1 0 0) [(.ref a1), (.int 0)])) rfl (by rw [hml]; rfl) (Steps.refl _) (argsL := []) (rest := [(.int 0)]) (lenOf own_pd6 rfl) rfl (by show 2 * 0 + _ ≤ _; exact Nat.le_of_eq rfl) (hb hby ep10m3_d13) (fun _ _ => ⟨rfl, eT, (by decide : 1 + 0 ≤ _), (by decide : 6 + 0 ≤ _)⟩)
  dsimp only [Pt.U, Pt.locs, Pt.cells, Pt.slots] at X lq yq zq st hQ
  subst lq yq zq
  obtain ⟨rfl, Nq, eT⟩ := hQ
  replace N := Fr.app N Nq
  refine own_viaT (g' := (mkF m 16 (own_A15 a1 b1 0 0) [(.int 6), (.int 0)])) st ?_
  refine own_via (g' := (mkF m 21 (own_A15 a1 b1 0 0) [(.int 0), (.ref a1)])) (fun t_ k_ => XS.icmpNo X.here hx rfl (hb hby ep10m3_d16) rfl (tlt (by decide : (0 : Int32) < (6 : Int32))).2.1 (XS.aloadN X.here hx rfl (hb hby ep10m3_d19) rfl rfl (XS.iloadN X.here hx rfl (hb hby ep10m3_d20) rfl k_))) ?_
  obtain ⟨cq, kq, qa, qb, qc⟩ := isOf hZ eT E_a1
  obtain ⟨_, _, ⟨T, Lq, kq, nq⟩, -, X, ⟨Lc, hQ, lq, yq, zq⟩, st⟩ := X.virtualBack hx (y := own_y7) (z := own_y7) hown (mvT hZ (hw _ (own_w 74 rfl))) (mvT hZ (hw _ (own_w 75 rfl))) (notFace_of_selects (args := #[]) (mvT hZ (hw _ (own_w 77 rfl)))) (mvT hZ (hw _ (own_w 77 rfl))) (mvT hZ (hw _ (own_w 76 rfl))) (by decide) (backOf (W := 0) (own_charAt l Z a0 hw [] a1 (0 : Int32) va kv (6 : Int32) [(.int (own_b8 (92 : Int32))), (.int (own_b8 (120 : Int32))), (.int (own_b8 (own_hx (v0 / (16 : Int32))))), (.int (own_b8 (own_hx (v0 % (16 : Int32))))), (.int (own_b8 v1)), (.int (own_b8 v2))] (own_b8 (92 : Int32)) zc vS h2 n0 O E_a1 F_value_a1 F_coder_a1 V_va S_C hzc (by decide) rfl S_S hvS) hZ (hw _ (own_w 78 rfl)) (hw _ (own_w 10 rfl)) (by decide) (by decide)) qa qc (g := (mkF m 21 (own_A15 a1 b1 0 0) [(.int 0), (.ref a1)])) rfl (by rw [hml]; rfl) (Steps.refl _) (argsL := [(.int 0)]) (rest := []) (lenOf own_pd7 rfl) rfl (by show 2 * 0 + _ ≤ _; exact Nat.le_of_eq rfl) (hb hby ep10m3_d21) (fun _ _ => ⟨rfl, eT, (by decide : 1 + 0 ≤ _), (by decide : 6 + 0 ≤ _)⟩)
  dsimp only [Pt.U, Pt.locs, Pt.cells, Pt.slots] at X lq yq zq st hQ
  subst lq yq zq
  obtain ⟨rfl, Nq, eT⟩ := hQ
  replace N := Fr.app N Nq
  refine own_viaT (g' := (mkF m 24 (own_A15 a1 b1 0 0) [(.int ((own_b8 (92 : Int32)) &&& (255 : Int32)))])) st ?_
  rw [(by decide : ((own_b8 (92 : Int32)) &&& (255 : Int32)) = (92 : Int32))]
  refine own_via (g' := (mkF m 35 (own_A10 a1 b1 0 0 92) [(.int 0), (.ref a1)])) (fun t_ k_ => XS.istore X.here hx rfl (hb hby ep10m3_d24) rfl (l' := (own_A10 a1 b1 0 0 92)) rfl (XS.iload X.here hx rfl (hb hby ep10m3_d26) rfl (XS.bipush X.here hx rfl (hb hby ep10m3_d28) (XS.icmpNo X.here hx rfl (hb hby ep10m3_d30) rfl (teq (by decide : (92 : Int32) = (92 : Int32))).2 (XS.aloadN X.here hx rfl (hb hby ep10m3_d33) rfl rfl (XS.iloadN X.here hx rfl (hb hby ep10m3_d34) rfl k_)))))) ?_
  obtain ⟨_, _, ⟨T, Lq, kq, nq⟩, -, X, ⟨Lc, hQ, lq, yq, zq⟩, st⟩ := Jvm.LawKit.callS X hx (y := own_y10) hown (mvT hZ (hw _ (own_w 96 rfl))) (mvT hZ (hw _ (own_w 97 rfl))) (mvT hZ (hw _ (own_w 31 rfl))) (mvT hZ (hw _ (own_w 98 rfl))) (by decide) (backOf (W := 0) (own_escByte l Z a0 hw [] a1 va kv (6 : Int32) [(.int (own_b8 (92 : Int32))), (.int (own_b8 (120 : Int32))), (.int (own_b8 (own_hx (v0 / (16 : Int32))))), (.int (own_b8 (own_hx (v0 % (16 : Int32))))), (.int (own_b8 v1)), (.int (own_b8 v2))] (0 : Int32) v0 (own_b8 (120 : Int32)) (own_b8 (own_hx (v0 / (16 : Int32)))) (own_b8 (own_hx (v0 % (16 : Int32)))) zc vS h2 n0 O E_a1 F_value_a1 F_coder_a1 V_va (by decide) rfl (by decide) (by decide) rfl (own_b255 (own_hxB (own_hi bd0.1 bd0.2).2.1 (own_hi bd0.1 bd0.2).2.2).1 (own_hxB (own_hi bd0.1 bd0.2).2.1 (own_hi bd0.1 bd0.2).2.2).2) (by decide) rfl (own_b255 (own_hxB (own_lo bd0.1 bd0.2).2.1 (own_lo bd0.1 bd0.2).2.2).1 (own_hxB (own_lo bd0.1 bd0.2).2.1 (own_lo bd0.1 bd0.2).2.2).2) bd0 S_C hzc S_S hvS) hZ (hw _ (own_w 98 rfl)) (hw _ (own_w 31 rfl)) (by decide) (by decide)) (g := (mkF m 35 (own_A10 a1 b1 0 0 92) [(.int 0), (.ref a1)])) rfl (by rw [hml]; rfl) (argsL := [(.ref a1), (.int 0)]) (rest := []) (lenOf own_pd10 rfl) rfl (by show 2 * 0 + _ ≤ _; exact Nat.le_of_eq rfl) (hb hby ep10m3_d35) (fun _ _ => ⟨rfl, eT, (by decide : 1 + 0 ≤ _), (by decide : 6 + 0 ≤ _)⟩)
  dsimp only [Pt.U, Pt.locs, Pt.cells, Pt.slots] at X lq yq zq st hQ
  subst lq yq zq
  obtain ⟨rfl, Nq, eT⟩ := hQ
  replace N := Fr.app N Nq
  refine own_via (g' := (mkF m 38 (own_A10 a1 b1 0 0 92) [(.int v0)])) st ?_
  refine own_via (g' := (mkF m 69 (own_A8 a1 b1 ((0 : Int32) + (1 : Int32)) 0 92 v0) [(.int (v0.toInt8.toInt32)), (.int 0), (.ref b1)])) (fun t_ k_ => XS.istore X.here hx rfl (hb hby ep10m3_d38) rfl (l' := (own_A8 a1 b1 0 0 92 v0)) rfl (XS.iload X.here hx rfl (hb hby ep10m3_d40) rfl (XS.ifYes X.here hx rfl (pc0 := 42) (pc' := 61) rfl (hb hby ep10m3_d42) rfl ((if0 _ _).trans (flt (own_nn bd0.1)).2.1) (by decide) (by decide) (XS.aloadN X.here hx rfl (hb hby ep10m3_d61) rfl rfl (XS.iloadN X.here hx rfl (hb hby ep10m3_d62) rfl (XS.iinc X.here hx rfl (hb hby ep10m3_d63) rfl (l' := (own_A8 a1 b1 ((0 : Int32) + (1 : Int32)) 0 92 v0)) rfl (XS.iload X.here hx rfl (hb hby ep10m3_d66) rfl (XS.i2b X.here hx rfl (hb hby ep10m3_d68) rfl k_)))))))) ?_
  obtain ⟨cl_, Ar_, qk_, Sz_, Nn_, Hs_, Gs_⟩ := id V_b1
  have hin_ : ¬ ((0 : Int32) < 0 ∨ cl_.slots.size ≤ ((0 : Int32)).toNatClampNeg) := inb_of Sz_ ⟨by decide, by decide⟩
  obtain ⟨T, h3, X, eT, W, st⟩ := stB X hx hZ eT Ar_ (j := (0 : Int32)) hin_ (g := (mkF m 69 (own_A8 a1 b1 ((0 : Int32) + (1 : Int32)) 0 92 v0) [(.int (v0.toInt8.toInt32)), (.int 0), (.ref b1)])) rfl rfl (hb hby ep10m3_d69)
  replace V_b1 : Arv Z h3 b1 kb1 .byte (6 : Int32) [(.int (((v0.toInt8.toInt32)).toInt8.toInt32)), (.int 0), (.int 0), (.int 0), (.int 0), (.int 0)] (.int 0) := Arv.set Ar_ qk_ Sz_ Nn_ Hs_ Gs_ (fits_nar_byte _) W 0 (by decide) (Nat.le_of_ble_eq_true rfl)
  replace E_a1 := E_a1.wr W
  replace F_value_a1 := F_value_a1.other W (Or.inl ne_a1_b1)
  replace F_coder_a1 := F_coder_a1.other W (Or.inl ne_a1_b1)
  replace V_va := V_va.other W ne_va_b1
  replace E_b1 := E_b1.wr W
  replace O := O.wr W g_b1
  replace K0 := K0.wr W (Or.inr sz_b1)
  replace N := Fr.snoc X N g_b1
  refine own_via (g' := (mkF m 70 (own_A8 a1 b1 ((0 : Int32) + (1 : Int32)) 0 92 v0) [])) st ?_
  refine own_via (g' := (mkF m 11 (own_A8 a1 b1 ((0 : Int32) + (1 : Int32)) (((0 : Int32) + (3 : Int32)) + (1 : Int32)) 92 v0) [])) (fun t_ k_ => XS.iinc X.here hx rfl (hb hby ep10m3_d70) rfl (l' := (own_A8 a1 b1 ((0 : Int32) + (1 : Int32)) ((0 : Int32) + (3 : Int32)) 92 v0)) rfl (XS.goto X.here hx rfl (pc0 := 73) (pc' := 136) rfl (hb hby ep10m3_d73) (by decide) (by decide) (XS.iinc X.here hx rfl (hb hby ep10m3_d136) rfl (l' := (own_A8 a1 b1 ((0 : Int32) + (1 : Int32)) (((0 : Int32) + (3 : Int32)) + (1 : Int32)) 92 v0)) rfl (XS.goto X.here hx rfl (pc0 := 139) (pc' := 11) rfl (hb hby ep10m3_d139) (by decide) (by decide) k_)))) ?_
  rw [(by decide : ((0 : Int32) + (1 : Int32)) = (1 : Int32))]
  rw [(by decide : (((0 : Int32) + (3 : Int32)) + (1 : Int32)) = (4 : Int32))]
  refine own_via (g' := (mkF m 13 (own_A8 a1 b1 1 4 92 v0) [(.ref a1), (.int 4)])) (fun t_ k_ => XS.iloadN X.here hx rfl (hb hby ep10m3_d11) rfl (XS.aloadN X.here hx rfl (hb hby ep10m3_d12) rfl rfl k_)) ?_
  obtain ⟨cq, kq, qa, qb, qc⟩ := isOf hZ eT E_a1
  obtain ⟨_, _, ⟨T, Lq, kq, nq⟩, -, X, ⟨Lc, hQ, lq, yq, zq⟩, st⟩ := X.virtualBack hx (y := own_y6) (z := own_y6) hown (mvT hZ (hw _ (own_w 33 rfl))) (mvT hZ (hw _ (own_w 34 rfl))) (notFace_of_selects (args := #[]) (mvT hZ (hw _ (own_w 36 rfl)))) (mvT hZ (hw _ (own_w 36 rfl))) (mvT hZ (hw _ (own_w 35 rfl))) (by decide) (backOf (W := 1) (own_strlen l Z a0 hw [] a1 va kv (6 : Int32) [(.int (own_b8 (92 : Int32))), (.int (own_b8 (120 : Int32))), (.int (own_b8 (own_hx (v0 / (16 : Int32))))), (.int (own_b8 (own_hx (v0 % (16 : Int32))))), (.int (own_b8 v1)), (.int (own_b8 v2))] zc h3 n0 O E_a1 F_value_a1 F_coder_a1 V_va S_C hzc) hZ (hw _ (own_w 37 rfl)) (hw _ (own_w 10 rfl)) (by decide) (by decide)) qa qc (g := (mkF m 13 (own_A8 a1 b1 1 4 92 v0) [(.ref a1), (.int 4)])) rfl (by rw [hml]; rfl) (Steps.refl _) (argsL := []) (rest := [(.int 4)]) (lenOf own_pd6 rfl) rfl (by show 2 * 0 + _ ≤ _; exact Nat.le_of_eq rfl) (hb hby ep10m3_d13) (fun _ _ => ⟨rfl, eT, (by decide : 1 + 0 ≤ _), (by decide : 6 + 0 ≤ _)⟩)
  dsimp only [Pt.U, Pt.locs, Pt.cells, Pt.slots] at X lq yq zq st hQ
  subst lq yq zq
  obtain ⟨rfl, Nq, eT⟩ := hQ
  replace N := Fr.app N Nq
  refine own_viaT (g' := (mkF m 16 (own_A8 a1 b1 1 4 92 v0) [(.int 6), (.int 4)])) st ?_
  refine own_via (g' := (mkF m 21 (own_A8 a1 b1 1 4 92 v0) [(.int 4), (.ref a1)])) (fun t_ k_ => XS.icmpNo X.here hx rfl (hb hby ep10m3_d16) rfl (tlt (by decide : (4 : Int32) < (6 : Int32))).2.1 (XS.aloadN X.here hx rfl (hb hby ep10m3_d19) rfl rfl (XS.iloadN X.here hx rfl (hb hby ep10m3_d20) rfl k_))) ?_
  obtain ⟨cq, kq, qa, qb, qc⟩ := isOf hZ eT E_a1
  obtain ⟨_, _, ⟨T, Lq, kq, nq⟩, -, X, ⟨Lc, hQ, lq, yq, zq⟩, st⟩ := X.virtualBack hx (y := own_y7) (z := own_y7) hown (mvT hZ (hw _ (own_w 74 rfl))) (mvT hZ (hw _ (own_w 75 rfl))) (notFace_of_selects (args := #[]) (mvT hZ (hw _ (own_w 77 rfl)))) (mvT hZ (hw _ (own_w 77 rfl))) (mvT hZ (hw _ (own_w 76 rfl))) (by decide) (backOf (W := 0) (own_charAt l Z a0 hw [] a1 (4 : Int32) va kv (6 : Int32) [(.int (own_b8 (92 : Int32))), (.int (own_b8 (120 : Int32))), (.int (own_b8 (own_hx (v0 / (16 : Int32))))), (.int (own_b8 (own_hx (v0 % (16 : Int32))))), (.int (own_b8 v1)), (.int (own_b8 v2))] (own_b8 v1) zc vS h3 n0 O E_a1 F_value_a1 F_coder_a1 V_va S_C hzc (by decide) rfl S_S hvS) hZ (hw _ (own_w 78 rfl)) (hw _ (own_w 10 rfl)) (by decide) (by decide)) qa qc (g := (mkF m 21 (own_A8 a1 b1 1 4 92 v0) [(.int 4), (.ref a1)])) rfl (by rw [hml]; rfl) (Steps.refl _) (argsL := [(.int 4)]) (rest := []) (lenOf own_pd7 rfl) rfl (by show 2 * 0 + _ ≤ _; exact Nat.le_of_eq rfl) (hb hby ep10m3_d21) (fun _ _ => ⟨rfl, eT, (by decide : 1 + 0 ≤ _), (by decide : 6 + 0 ≤ _)⟩)
  dsimp only [Pt.U, Pt.locs, Pt.cells, Pt.slots] at X lq yq zq st hQ
  subst lq yq zq
  obtain ⟨rfl, Nq, eT⟩ := hQ
  replace N := Fr.app N Nq
  refine own_viaT (g' := (mkF m 24 (own_A8 a1 b1 1 4 92 v0) [(.int ((own_b8 v1) &&& (255 : Int32)))])) st ?_
  rw [own_b255 bd1.1 bd1.2]
  refine own_via (g' := (mkF m 90 (own_A8 a1 b1 1 4 v1 v0) [])) (fun t_ k_ => XS.istore X.here hx rfl (hb hby ep10m3_d24) rfl (l' := (own_A8 a1 b1 1 4 v1 v0)) rfl (XS.iload X.here hx rfl (hb hby ep10m3_d26) rfl (XS.bipush X.here hx rfl (hb hby ep10m3_d28) (XS.icmpYes X.here hx rfl (pc0 := 30) (pc' := 76) rfl (hb hby ep10m3_d30) rfl (feq pp1.1).2 (by decide) (by decide) (XS.iload X.here hx rfl (hb hby ep10m3_d76) rfl (XS.bipush X.here hx rfl (hb hby ep10m3_d78) (XS.icmpNo X.here hx rfl (hb hby ep10m3_d80) rfl (flt pp1.2.1).1 (XS.iload X.here hx rfl (hb hby ep10m3_d83) rfl (XS.bipush X.here hx rfl (hb hby ep10m3_d85) (XS.icmpNo X.here hx rfl (hb hby ep10m3_d87) rfl (flt pp1.2.2).2.2.1 k_)))))))))) ?_
  refine own_via (g' := (mkF m 98 (own_A8 a1 b1 ((1 : Int32) + (1 : Int32)) 4 v1 v0) [(.int (v1.toInt8.toInt32)), (.int 1), (.ref b1)])) (fun t_ k_ => XS.aloadN X.here hx rfl (hb hby ep10m3_d90) rfl rfl (XS.iloadN X.here hx rfl (hb hby ep10m3_d91) rfl (XS.iinc X.here hx rfl (hb hby ep10m3_d92) rfl (l' := (own_A8 a1 b1 ((1 : Int32) + (1 : Int32)) 4 v1 v0)) rfl (XS.iload X.here hx rfl (hb hby ep10m3_d95) rfl (XS.i2b X.here hx rfl (hb hby ep10m3_d97) rfl k_))))) ?_
  obtain ⟨cl_, Ar_, qk_, Sz_, Nn_, Hs_, Gs_⟩ := id V_b1
  have hin_ : ¬ ((1 : Int32) < 0 ∨ cl_.slots.size ≤ ((1 : Int32)).toNatClampNeg) := inb_of Sz_ ⟨by decide, by decide⟩
  obtain ⟨T, h4, X, eT, W, st⟩ := stB X hx hZ eT Ar_ (j := (1 : Int32)) hin_ (g := (mkF m 98 (own_A8 a1 b1 ((1 : Int32) + (1 : Int32)) 4 v1 v0) [(.int (v1.toInt8.toInt32)), (.int 1), (.ref b1)])) rfl rfl (hb hby ep10m3_d98)
  replace V_b1 : Arv Z h4 b1 kb1 .byte (6 : Int32) [(.int (((v0.toInt8.toInt32)).toInt8.toInt32)), (.int (((v1.toInt8.toInt32)).toInt8.toInt32)), (.int 0), (.int 0), (.int 0), (.int 0)] (.int 0) := Arv.set Ar_ qk_ Sz_ Nn_ Hs_ Gs_ (fits_nar_byte _) W 1 (by decide) (Nat.le_of_ble_eq_true rfl)
  replace E_a1 := E_a1.wr W
  replace F_value_a1 := F_value_a1.other W (Or.inl ne_a1_b1)
  replace F_coder_a1 := F_coder_a1.other W (Or.inl ne_a1_b1)
  replace V_va := V_va.other W ne_va_b1
  replace E_b1 := E_b1.wr W
  replace O := O.wr W g_b1
  replace K0 := K0.wr W (Or.inr sz_b1)
  replace N := Fr.snoc X N g_b1
  refine own_via (g' := (mkF m 99 (own_A8 a1 b1 ((1 : Int32) + (1 : Int32)) 4 v1 v0) [])) st ?_
  refine own_via (g' := (mkF m 11 (own_A8 a1 b1 ((1 : Int32) + (1 : Int32)) ((4 : Int32) + (1 : Int32)) v1 v0) [])) (fun t_ k_ => XS.goto X.here hx rfl (pc0 := 99) (pc' := 136) rfl (hb hby ep10m3_d99) (by decide) (by decide) (XS.iinc X.here hx rfl (hb hby ep10m3_d136) rfl (l' := (own_A8 a1 b1 ((1 : Int32) + (1 : Int32)) ((4 : Int32) + (1 : Int32)) v1 v0)) rfl (XS.goto X.here hx rfl (pc0 := 139) (pc' := 11) rfl (hb hby ep10m3_d139) (by decide) (by decide) k_))) ?_
  rw [(by decide : ((1 : Int32) + (1 : Int32)) = (2 : Int32))]
  rw [(by decide : ((4 : Int32) + (1 : Int32)) = (5 : Int32))]
  refine own_via (g' := (mkF m 13 (own_A8 a1 b1 2 5 v1 v0) [(.ref a1), (.int 5)])) (fun t_ k_ => XS.iloadN X.here hx rfl (hb hby ep10m3_d11) rfl (XS.aloadN X.here hx rfl (hb hby ep10m3_d12) rfl rfl k_)) ?_
  obtain ⟨cq, kq, qa, qb, qc⟩ := isOf hZ eT E_a1
  obtain ⟨_, _, ⟨T, Lq, kq, nq⟩, -, X, ⟨Lc, hQ, lq, yq, zq⟩, st⟩ := X.virtualBack hx (y := own_y6) (z := own_y6) hown (mvT hZ (hw _ (own_w 33 rfl))) (mvT hZ (hw _ (own_w 34 rfl))) (notFace_of_selects (args := #[]) (mvT hZ (hw _ (own_w 36 rfl)))) (mvT hZ (hw _ (own_w 36 rfl))) (mvT hZ (hw _ (own_w 35 rfl))) (by decide) (backOf (W := 1) (own_strlen l Z a0 hw [] a1 va kv (6 : Int32) [(.int (own_b8 (92 : Int32))), (.int (own_b8 (120 : Int32))), (.int (own_b8 (own_hx (v0 / (16 : Int32))))), (.int (own_b8 (own_hx (v0 % (16 : Int32))))), (.int (own_b8 v1)), (.int (own_b8 v2))] zc h4 n0 O E_a1 F_value_a1 F_coder_a1 V_va S_C hzc) hZ (hw _ (own_w 37 rfl)) (hw _ (own_w 10 rfl)) (by decide) (by decide)) qa qc (g := (mkF m 13 (own_A8 a1 b1 2 5 v1 v0) [(.ref a1), (.int 5)])) rfl (by rw [hml]; rfl) (Steps.refl _) (argsL := []) (rest := [(.int 5)]) (lenOf own_pd6 rfl) rfl (by show 2 * 0 + _ ≤ _; exact Nat.le_of_eq rfl) (hb hby ep10m3_d13) (fun _ _ => ⟨rfl, eT, (by decide : 1 + 0 ≤ _), (by decide : 6 + 0 ≤ _)⟩)
  dsimp only [Pt.U, Pt.locs, Pt.cells, Pt.slots] at X lq yq zq st hQ
  subst lq yq zq
  obtain ⟨rfl, Nq, eT⟩ := hQ
  replace N := Fr.app N Nq
  refine own_viaT (g' := (mkF m 16 (own_A8 a1 b1 2 5 v1 v0) [(.int 6), (.int 5)])) st ?_
  refine own_via (g' := (mkF m 21 (own_A8 a1 b1 2 5 v1 v0) [(.int 5), (.ref a1)])) (fun t_ k_ => XS.icmpNo X.here hx rfl (hb hby ep10m3_d16) rfl (tlt (by decide : (5 : Int32) < (6 : Int32))).2.1 (XS.aloadN X.here hx rfl (hb hby ep10m3_d19) rfl rfl (XS.iloadN X.here hx rfl (hb hby ep10m3_d20) rfl k_))) ?_
  obtain ⟨cq, kq, qa, qb, qc⟩ := isOf hZ eT E_a1
  obtain ⟨_, _, ⟨T, Lq, kq, nq⟩, -, X, ⟨Lc, hQ, lq, yq, zq⟩, st⟩ := X.virtualBack hx (y := own_y7) (z := own_y7) hown (mvT hZ (hw _ (own_w 74 rfl))) (mvT hZ (hw _ (own_w 75 rfl))) (notFace_of_selects (args := #[]) (mvT hZ (hw _ (own_w 77 rfl)))) (mvT hZ (hw _ (own_w 77 rfl))) (mvT hZ (hw _ (own_w 76 rfl))) (by decide) (backOf (W := 0) (own_charAt l Z a0 hw [] a1 (5 : Int32) va kv (6 : Int32) [(.int (own_b8 (92 : Int32))), (.int (own_b8 (120 : Int32))), (.int (own_b8 (own_hx (v0 / (16 : Int32))))), (.int (own_b8 (own_hx (v0 % (16 : Int32))))), (.int (own_b8 v1)), (.int (own_b8 v2))] (own_b8 v2) zc vS h4 n0 O E_a1 F_value_a1 F_coder_a1 V_va S_C hzc (by decide) rfl S_S hvS) hZ (hw _ (own_w 78 rfl)) (hw _ (own_w 10 rfl)) (by decide) (by decide)) qa qc (g := (mkF m 21 (own_A8 a1 b1 2 5 v1 v0) [(.int 5), (.ref a1)])) rfl (by rw [hml]; rfl) (Steps.refl _) (argsL := [(.int 5)]) (rest := []) (lenOf own_pd7 rfl) rfl (by show 2 * 0 + _ ≤ _; exact Nat.le_of_eq rfl) (hb hby ep10m3_d21) (fun _ _ => ⟨rfl, eT, (by decide : 1 + 0 ≤ _), (by decide : 6 + 0 ≤ _)⟩)
  dsimp only [Pt.U, Pt.locs, Pt.cells, Pt.slots] at X lq yq zq st hQ
  subst lq yq zq
  obtain ⟨rfl, Nq, eT⟩ := hQ
  replace N := Fr.app N Nq
  refine own_viaT (g' := (mkF m 24 (own_A8 a1 b1 2 5 v1 v0) [(.int ((own_b8 v2) &&& (255 : Int32)))])) st ?_
  rw [own_b255 bd2.1 bd2.2]
  refine own_via (g' := (mkF m 90 (own_A8 a1 b1 2 5 v2 v0) [])) (fun t_ k_ => XS.istore X.here hx rfl (hb hby ep10m3_d24) rfl (l' := (own_A8 a1 b1 2 5 v2 v0)) rfl (XS.iload X.here hx rfl (hb hby ep10m3_d26) rfl (XS.bipush X.here hx rfl (hb hby ep10m3_d28) (XS.icmpYes X.here hx rfl (pc0 := 30) (pc' := 76) rfl (hb hby ep10m3_d30) rfl (feq pp2.1).2 (by decide) (by decide) (XS.iload X.here hx rfl (hb hby ep10m3_d76) rfl (XS.bipush X.here hx rfl (hb hby ep10m3_d78) (XS.icmpNo X.here hx rfl (hb hby ep10m3_d80) rfl (flt pp2.2.1).1 (XS.iload X.here hx rfl (hb hby ep10m3_d83) rfl (XS.bipush X.here hx rfl (hb hby ep10m3_d85) (XS.icmpNo X.here hx rfl (hb hby ep10m3_d87) rfl (flt pp2.2.2).2.2.1 k_)))))))))) ?_
  refine own_via (g' := (mkF m 98 (own_A8 a1 b1 ((2 : Int32) + (1 : Int32)) 5 v2 v0) [(.int (v2.toInt8.toInt32)), (.int 2), (.ref b1)])) (fun t_ k_ => XS.aloadN X.here hx rfl (hb hby ep10m3_d90) rfl rfl (XS.iloadN X.here hx rfl (hb hby ep10m3_d91) rfl (XS.iinc X.here hx rfl (hb hby ep10m3_d92) rfl (l' := (own_A8 a1 b1 ((2 : Int32) + (1 : Int32)) 5 v2 v0)) rfl (XS.iload X.here hx rfl (hb hby ep10m3_d95) rfl (XS.i2b X.here hx rfl (hb hby ep10m3_d97) rfl k_))))) ?_
  obtain ⟨cl_, Ar_, qk_, Sz_, Nn_, Hs_, Gs_⟩ := id V_b1
  have hin_ : ¬ ((2 : Int32) < 0 ∨ cl_.slots.size ≤ ((2 : Int32)).toNatClampNeg) := inb_of Sz_ ⟨by decide, by decide⟩
  obtain ⟨T, h5, X, eT, W, st⟩ := stB X hx hZ eT Ar_ (j := (2 : Int32)) hin_ (g := (mkF m 98 (own_A8 a1 b1 ((2 : Int32) + (1 : Int32)) 5 v2 v0) [(.int (v2.toInt8.toInt32)), (.int 2), (.ref b1)])) rfl rfl (hb hby ep10m3_d98)
  replace V_b1 : Arv Z h5 b1 kb1 .byte (6 : Int32) [(.int (((v0.toInt8.toInt32)).toInt8.toInt32)), (.int (((v1.toInt8.toInt32)).toInt8.toInt32)), (.int (((v2.toInt8.toInt32)).toInt8.toInt32)), (.int 0), (.int 0), (.int 0)] (.int 0) := Arv.set Ar_ qk_ Sz_ Nn_ Hs_ Gs_ (fits_nar_byte _) W 2 (by decide) (Nat.le_of_ble_eq_true rfl)
  replace E_a1 := E_a1.wr W
  replace F_value_a1 := F_value_a1.other W (Or.inl ne_a1_b1)
  replace F_coder_a1 := F_coder_a1.other W (Or.inl ne_a1_b1)
  replace V_va := V_va.other W ne_va_b1
  replace E_b1 := E_b1.wr W
  replace O := O.wr W g_b1
  replace K0 := K0.wr W (Or.inr sz_b1)
  replace N := Fr.snoc X N g_b1
  refine own_via (g' := (mkF m 99 (own_A8 a1 b1 ((2 : Int32) + (1 : Int32)) 5 v2 v0) [])) st ?_
  refine own_via (g' := (mkF m 11 (own_A8 a1 b1 ((2 : Int32) + (1 : Int32)) ((5 : Int32) + (1 : Int32)) v2 v0) [])) (fun t_ k_ => XS.goto X.here hx rfl (pc0 := 99) (pc' := 136) rfl (hb hby ep10m3_d99) (by decide) (by decide) (XS.iinc X.here hx rfl (hb hby ep10m3_d136) rfl (l' := (own_A8 a1 b1 ((2 : Int32) + (1 : Int32)) ((5 : Int32) + (1 : Int32)) v2 v0)) rfl (XS.goto X.here hx rfl (pc0 := 139) (pc' := 11) rfl (hb hby ep10m3_d139) (by decide) (by decide) k_))) ?_
  rw [(by decide : ((2 : Int32) + (1 : Int32)) = (3 : Int32))]
  rw [(by decide : ((5 : Int32) + (1 : Int32)) = (6 : Int32))]
  refine own_via (g' := (mkF m 13 (own_A8 a1 b1 3 6 v2 v0) [(.ref a1), (.int 6)])) (fun t_ k_ => XS.iloadN X.here hx rfl (hb hby ep10m3_d11) rfl (XS.aloadN X.here hx rfl (hb hby ep10m3_d12) rfl rfl k_)) ?_
  obtain ⟨cq, kq, qa, qb, qc⟩ := isOf hZ eT E_a1
  obtain ⟨_, _, ⟨T, Lq, kq, nq⟩, -, X, ⟨Lc, hQ, lq, yq, zq⟩, st⟩ := X.virtualBack hx (y := own_y6) (z := own_y6) hown (mvT hZ (hw _ (own_w 33 rfl))) (mvT hZ (hw _ (own_w 34 rfl))) (notFace_of_selects (args := #[]) (mvT hZ (hw _ (own_w 36 rfl)))) (mvT hZ (hw _ (own_w 36 rfl))) (mvT hZ (hw _ (own_w 35 rfl))) (by decide) (backOf (W := 1) (own_strlen l Z a0 hw [] a1 va kv (6 : Int32) [(.int (own_b8 (92 : Int32))), (.int (own_b8 (120 : Int32))), (.int (own_b8 (own_hx (v0 / (16 : Int32))))), (.int (own_b8 (own_hx (v0 % (16 : Int32))))), (.int (own_b8 v1)), (.int (own_b8 v2))] zc h5 n0 O E_a1 F_value_a1 F_coder_a1 V_va S_C hzc) hZ (hw _ (own_w 37 rfl)) (hw _ (own_w 10 rfl)) (by decide) (by decide)) qa qc (g := (mkF m 13 (own_A8 a1 b1 3 6 v2 v0) [(.ref a1), (.int 6)])) rfl (by rw [hml]; rfl) (Steps.refl _) (argsL := []) (rest := [(.int 6)]) (lenOf own_pd6 rfl) rfl (by show 2 * 0 + _ ≤ _; exact Nat.le_of_eq rfl) (hb hby ep10m3_d13) (fun _ _ => ⟨rfl, eT, (by decide : 1 + 0 ≤ _), (by decide : 6 + 0 ≤ _)⟩)
  dsimp only [Pt.U, Pt.locs, Pt.cells, Pt.slots] at X lq yq zq st hQ
  subst lq yq zq
  obtain ⟨rfl, Nq, eT⟩ := hQ
  replace N := Fr.app N Nq
  refine own_viaT (g' := (mkF m 16 (own_A8 a1 b1 3 6 v2 v0) [(.int 6), (.int 6)])) st ?_
  refine own_via (g' := (mkF m 144 (own_A8 a1 b1 3 6 v2 v0) [(.int 3), (.ref b1)])) (fun t_ k_ => XS.icmpYes X.here hx rfl (pc0 := 16) (pc' := 142) rfl (hb hby ep10m3_d16) rfl (flt (by decide : ¬ ((6 : Int32) < (6 : Int32)))).2.1 (by decide) (by decide) (XS.aloadN X.here hx rfl (hb hby ep10m3_d142) rfl rfl (XS.iloadN X.here hx rfl (hb hby ep10m3_d143) rfl k_))) ?_
  replace V_b1 : Arv Z h5 b1 kb1 .byte (6 : Int32) [(.int (own_sb v0)), (.int (own_sb v1)), (.int (own_sb v2))] (.int 0) := V_b1.pad (fun i => (pad_rep [(.int (own_sb v0)), (.int (own_sb v1)), (.int (own_sb v2))] (.int 0) 3 i).symm)
  obtain ⟨_, _, ⟨T, Lq, kq, nq⟩, -, X, ⟨Lc, hQ, lq, yq, zq⟩, st⟩ := Jvm.LawKit.callS X hx (y := own_y9) hown (mvT hZ (hw _ (own_w 44 rfl))) (mvT hZ (hw _ (own_w 45 rfl))) (mvT hZ (hw _ (own_w 46 rfl))) (mvT hZ (hw _ (own_w 47 rfl))) (by decide) (backOf (W := 0) (own_copyOf l Z a0 hw [] b1 kb1 (3 : Int32) (6 : Int32) [(.int (own_sb v0)), (.int (own_sb v1)), (.int (own_sb v2))] h5 n0 O E_b1 V_b1 (by decide) rfl) hZ (hw _ (own_w 47 rfl)) (hw _ (own_w 46 rfl)) (by decide) (by decide)) (g := (mkF m 144 (own_A8 a1 b1 3 6 v2 v0) [(.int 3), (.ref b1)])) rfl (by rw [hml]; rfl) (argsL := [(.ref b1), (.int 3)]) (rest := []) (lenOf own_pd9 rfl) rfl (by show 2 * 0 + _ ≤ _; exact Nat.le_of_eq rfl) (hb hby ep10m3_d144) (fun _ _ => ⟨rfl, eT, (by decide : 1 + 1 ≤ _), (by decide : 6 + 12 ≤ _)⟩)
  dsimp only [Pt.U, Pt.locs, Pt.cells, Pt.slots] at X lq yq zq st hQ
  subst lq yq zq
  obtain ⟨bn, kbn, rfl, Nq, Kq, szq, V_bn, E_bn⟩ := hQ
  replace N := Fr.app N Nq
  obtain ⟨h6, eT⟩ : ∃ z, T.heap = z := ⟨_, rfl⟩
  rw [eT] at Kq V_bn E_bn
  have ne_a1_bn : a1 ≠ bn := Nat.ne_of_lt (Nat.lt_of_lt_of_le E_a1.lt szq)
  have ne_b1_bn : b1 ≠ bn := Nat.ne_of_lt (Nat.lt_of_lt_of_le E_b1.lt szq)
  have ne_va_bn : va ≠ bn := Nat.ne_of_lt (Nat.lt_of_lt_of_le V_va.lt szq)
  have g_bn : n0 ≤ bn := Nat.le_trans (own_le O) szq
  have sz_bn : h0.size ≤ bn := Nat.le_trans K0.1 szq
  replace E_a1 := E_a1.keep Kq
  replace F_value_a1 := F_value_a1.keep Kq nin0
  replace F_coder_a1 := F_coder_a1.keep Kq nin0
  replace V_va := V_va.keep Kq nin0
  replace E_b1 := E_b1.keep Kq
  replace V_b1 := V_b1.keep Kq nin0
  replace O := O.keep Kq all0
  replace K0 := K0.trans Kq all0
  refine own_via (g' := (mkF m 147 (own_A8 a1 b1 3 6 v2 v0) [(.ref bn)])) st ?_
  refine own_retW X hx hlk Bd.returns rfl (Or.inr (Or.inr (Or.inr (Or.inr ⟨rfl, rfl, rfl⟩)))) (hb hby ep10m3_d147) (by decide) (by decide) ?_
  rw [eT]
  exact ⟨bn, kbn, rfl, N, K0, sz_bn, V_bn, E_bn⟩
theorem own_unEPE_pn : plainFor (⟨"com/example/rows_to_regions/rowstoregions/KeyText", "unescape", "(Ljava/lang/String;)[B"⟩ : MethodName) = true := by first | exact plainFor_of_name (by first | (simp [plainName, overriddenIn]; done) | decide +kernel) | decide +kernel | exact Jvm.Free.JP.mathPlain rfl (by decide +kernel)
theorem own_unEPE_ef (m : MethodId) (x0 : Addr) : entryFrame m #[(.ref x0)] 6 = mkF m 0 #[.val (.ref x0), .unset, .unset, .unset, .unset, .unset] [] := by first | (simp [entryFrame, mkF, argsToLocals, Value.category]; done) | rfl
def own_unEPE_Q (Z : State) (a1 : Addr) (va : Addr) (kv : ClassId) (v0 : Int32) (v1 : Int32) (v2 : Int32) (zc : Int32) (vS : Value) (h0 : Heap) (n0 : Nat) (v : Option Value) (h : Heap) (L : List Loc) : Prop := ∃ b kb, v = some (.ref b) ∧ Fr n0 L ∧ Keep h0 h [] ∧ h0.size ≤ b ∧ Arv Z h b kb .byte (3 : Int32) [(.int (own_sb v0)), (.int (own_sb v1)), (.int (own_sb v2))] (.int 0) ∧ Exa Z h b "[B"
set_option maxRecDepth 65536 in
set_option maxHeartbeats 40000000 in
theorem own_unEPE (l : Launch) (Z : State) (a0 : Array Value) (hw : ∀ d ∈ tables_1, d.before a0 Z = true) (ws : List Jvm.Cond) (a1 : Addr) (va : Addr) (kv : ClassId) (v0 : Int32) (v1 : Int32) (v2 : Int32) (zc : Int32) (vS : Value) (h0 : Heap) (n0 : Nat) (O : Old Z n0 h0) (E_a1 : Exa Z h0 a1 "java/lang/String") (F_value_a1 : Fld Z h0 a1 "java/lang/String" "value" "[B" (.ref va)) (F_coder_a1 : Fld Z h0 a1 "java/lang/String" "coder" "B" (.int 0)) (V_va : Arv Z h0 va kv .byte (9 : Int32) [(.int (own_b8 (92 : Int32))), (.int (own_b8 (120 : Int32))), (.int (own_b8 (own_hx (v0 / (16 : Int32))))), (.int (own_b8 (own_hx (v0 % (16 : Int32))))), (.int (own_b8 v1)), (.int (own_b8 (92 : Int32))), (.int (own_b8 (120 : Int32))), (.int (own_b8 (own_hx (v2 / (16 : Int32))))), (.int (own_b8 (own_hx (v2 % (16 : Int32)))))] (.int 0)) (bd0 : 0 ≤ v0.toInt ∧ v0.toInt < 256) (bd1 : 0 ≤ v1.toInt ∧ v1.toInt < 256) (pp1 : ¬ v1 = (92 : Int32) ∧ ¬ v1 < (32 : Int32) ∧ ¬ (126 : Int32) < v1) (bd2 : 0 ≤ v2.toInt ∧ v2.toInt < 256) (S_C : Sta Z Z.heap "java/lang/String" "COMPACT_STRINGS" "Z" (.int zc)) (hzc : ¬ zc = 0) (S_S : Sta Z Z.heap "jdk/internal/util/Preconditions" "SIOOBE_FORMATTER" "Ljava/util/function/BiFunction;" vS) (hvS : vS.isRef = true) :
    MetFree l (⟨"com/example/rows_to_regions/rowstoregions/KeyText", "unescape", "(Ljava/lang/String;)[B"⟩ : MethodName) (head1 (Jvm.Cond.code (⟨"com/example/rows_to_regions/rowstoregions/KeyText", "unescape", "(Ljava/lang/String;)[B"⟩ : MethodName) prog_10_method_3_code 6 (some (.array .byte)) :: ws) ({ frames := 5, cells := 2, slots := 24, locals := 68 } : Room)) (fun a U => a = #[(.ref a1)] ∧ Z.Warmed39 U.vm ∧ U.heap = h0) (fun _ _ _ _ _ => True) (fun _ U o U' => ∃ v L, o = .returned v ∧ own_unEPE_Q Z a1 va kv v0 v1 v2 zc vS h0 n0 v U'.heap L ∧ FrameEnd U o U' L ({ frames := 5, cells := 2, slots := 24, locals := 68 } : Room).cells ({ frames := 5, cells := 2, slots := 24, locals := 68 } : Room).slots) := by
  refine MetFree.of_bodySF own_unEPE_pn hisR ?_
  intro p e s m args below meth c s₁ Bd hml0 hP hK
  obtain ⟨rfl, hZ, hh⟩ := hP
  have hx := Bd.exec
  have hby := Bd.bytes
  have hlk := Bd.notSynchronized
  have hml : c.maxLocals = 6 := hml0
  have hown : s.vm.findClass "com/example/rows_to_regions/rowstoregions/KeyText" = some m.cls := findClass_of_methodNamed Bd.named
  have hnm := (name_of_methodNamed Bd.named Bd.method).1
  have X : Stand p l e ({ frames := 5, cells := 2, slots := 24, locals := 68 } : Room) s m #[(.ref a1)] below meth c s₁ [] 0 0 := Stand.of_body Bd
  have eT : s₁.heap = h0 := by rw [← hh, Bd.state]; rfl
  have N := Fr.nil n0
  have K0 := Keep.refl h0 []
  show own_Ends p e below (own_Post s below (own_unEPE_Q Z a1 va kv v0 v1 v2 zc vS h0 n0) ({ frames := 5, cells := 2, slots := 24, locals := 68 } : Room).cells ({ frames := 5, cells := 2, slots := 24, locals := 68 } : Room).slots) s₁ (entryFrame m #[(.ref a1)] 6)
  rw [own_unEPE_ef m a1]
  obtain ⟨T, hT⟩ : ∃ z, z = s₁ := ⟨_, rfl⟩
  rw [← hT] at X eT ⊢
  obtain ⟨h, hh0⟩ : ∃ z, z = h0 := ⟨_, rfl⟩
  rw [← hh0] at eT
  replace O : Old Z n0 h := by rw [hh0]; exact O
  replace K0 : Keep h0 h [] := by rw [hh0]; exact K0
  rw [← hh0] at E_a1
  rw [← hh0] at F_value_a1
  rw [← hh0] at F_coder_a1
  rw [← hh0] at V_va
  refine own_via (g' := (mkF m 1 (own_A19 a1) [(.ref a1)])) (fun t_ k_ => XS.aloadN X.here hx rfl (hb hby ep10m3_d0) rfl rfl k_) ?_
  obtain ⟨cq, kq, qa, qb, qc⟩ := isOf hZ eT E_a1
  obtain ⟨_, _, ⟨T, Lq, kq, nq⟩, -, X, ⟨Lc, hQ, lq, yq, zq⟩, st⟩ := X.virtualBack hx (y := own_y6) (z := own_y6) hown (mvT hZ (hw _ (own_w 33 rfl))) (mvT hZ (hw _ (own_w 34 rfl))) (notFace_of_selects (args := #[]) (mvT hZ (hw _ (own_w 36 rfl)))) (mvT hZ (hw _ (own_w 36 rfl))) (mvT hZ (hw _ (own_w 35 rfl))) (by decide) (backOf (W := 0) (own_strlen l Z a0 hw [] a1 va kv (9 : Int32) [(.int (own_b8 (92 : Int32))), (.int (own_b8 (120 : Int32))), (.int (own_b8 (own_hx (v0 / (16 : Int32))))), (.int (own_b8 (own_hx (v0 % (16 : Int32))))), (.int (own_b8 v1)), (.int (own_b8 (92 : Int32))), (.int (own_b8 (120 : Int32))), (.int (own_b8 (own_hx (v2 / (16 : Int32))))), (.int (own_b8 (own_hx (v2 % (16 : Int32)))))] zc h n0 O E_a1 F_value_a1 F_coder_a1 V_va S_C hzc) hZ (hw _ (own_w 37 rfl)) (hw _ (own_w 10 rfl)) (by decide) (by decide)) qa qc (g := (mkF m 1 (own_A19 a1) [(.ref a1)])) rfl (by rw [hml]; rfl) (Steps.refl _) (argsL := []) (rest := []) (lenOf own_pd6 rfl) rfl (by show 2 * 0 + _ ≤ _; exact Nat.le_of_eq rfl) (hb hby ep10m3_d1) (fun _ _ => ⟨rfl, eT, (by decide : 0 + 0 ≤ _), (by decide : 0 + 0 ≤ _)⟩)
  dsimp only [Pt.U, Pt.locs, Pt.cells, Pt.slots] at X lq yq zq st hQ
  subst lq yq zq
  obtain ⟨rfl, Nq, eT⟩ := hQ
  replace N := Fr.app N Nq
  refine own_viaT (g' := (mkF m 4 (own_A19 a1) [(.int 9)])) st ?_
  obtain ⟨b1, gb⟩ : ∃ z, z = h.size := ⟨_, rfl⟩
  obtain ⟨T, h2, kb1, X, eT, E, A_, E_b1, st⟩ := newPE X hx hZ (hw _ (own_w 22 rfl)) eT (g := (mkF m 4 (own_A19 a1) [(.int 9)])) rfl (hb hby ep10m3_d4) rfl (by decide) (cap := 9) (by decide) (by decide) (by decide) (by decide) (ad := "[B") (by decide)
  rw [← gb] at A_ E_b1 st
  have ne_a1_b1 : a1 ≠ b1 := Nat.ne_of_lt (Nat.lt_of_lt_of_le E_a1.lt (Nat.le_of_eq gb.symm))
  have ne_va_b1 : va ≠ b1 := Nat.ne_of_lt (Nat.lt_of_lt_of_le V_va.lt (Nat.le_of_eq gb.symm))
  have g_b1 : n0 ≤ b1 := Nat.le_trans (own_le O) (Nat.le_of_eq gb.symm)
  have sz_b1 : h0.size ≤ b1 := Nat.le_trans K0.1 (Nat.le_of_eq gb.symm)
  replace E_a1 := E_a1.ext E
  replace F_value_a1 := F_value_a1.ext E
  replace F_coder_a1 := F_coder_a1.ext E
  replace V_va := V_va.ext E
  replace O := O.ext E
  replace K0 := K0.ext E
  have V_b1 : Arv Z h2 b1 kb1 .byte (9 : Int32) [(.int 0), (.int 0), (.int 0), (.int 0), (.int 0), (.int 0), (.int 0), (.int 0), (.int 0)] (.int 0) := (Arv.new A_ (by decide)).pad (pad_rep [] (.int 0) 9)
  refine own_via (g' := (mkF m 6 (own_A19 a1) [(.ref b1)])) st ?_
  refine own_via (g' := (mkF m 13 (own_A15 a1 b1 0 0) [(.ref a1), (.int 0)])) (fun t_ k_ => XS.astoreN X.here hx rfl (hb hby ep10m3_d6) rfl rfl (l' := (own_A18 a1 b1)) rfl (XS.iconst X.here hx rfl (hb hby ep10m3_d7) (XS.istoreN X.here hx rfl (hb hby ep10m3_d8) rfl (l' := (own_A17 a1 b1 0)) rfl (XS.iconst X.here hx rfl (hb hby ep10m3_d9) (XS.istoreN X.here hx rfl (hb hby ep10m3_d10) rfl (l' := (own_A15 a1 b1 0 0)) rfl (XS.iloadN X.here hx rfl (hb hby ep10m3_d11) rfl (XS.aloadN X.here hx rfl (hb hby ep10m3_d12) rfl rfl k_))))))) ?_
  obtain ⟨cq, kq, qa, qb, qc⟩ := isOf hZ eT E_a1
  obtain ⟨_, _, ⟨T, Lq, kq, nq⟩, -, X, ⟨Lc, hQ, lq, yq, zq⟩, st⟩ := X.virtualBack hx (y := own_y6) (z := own_y6) hown (mvT hZ (hw _ (own_w 33 rfl))) (mvT hZ (hw _ (own_w 34 rfl))) (notFace_of_selects (args := #[]) (mvT hZ (hw _ (own_w 36 rfl)))) (mvT hZ (hw _ (own_w 36 rfl))) (mvT hZ (hw _ (own_w 35 rfl))) (by decide) (backOf (W := 1) (own_strlen l Z a0 hw [] a1 va kv (9 : Int32) [(.int (own_b8 (92 : Int32))), (.int (own_b8 (120 : Int32))), (.int (own_b8 (own_hx (v0 / (16 : Int32))))), (.int (own_b8 (own_hx (v0 % (16 : Int32))))), (.int (own_b8 v1)), (.int (own_b8 (92 : Int32))), (.int (own_b8 (120 : Int32))), (.int (own_b8 (own_hx (v2 / (16 : Int32))))), (.int (own_b8 (own_hx (v2 % (16 : Int32)))))] zc h2 n0 O E_a1 F_value_a1 F_coder_a1 V_va S_C hzc) hZ (hw _ (own_w 37 rfl)) (hw _ (own_w 10 rfl)) (by decide) (by decide)) qa qc (g := (mkF m 13 (own_A15 a1 b1 0 0) [(.ref a1), (.int 0)])) rfl (by rw [hml]; rfl) (Steps.refl _) (argsL := []) (rest := [(.int 0)]) (lenOf own_pd6 rfl) rfl (by show 2 * 0 + _ ≤ _; exact Nat.le_of_eq rfl) (hb hby ep10m3_d13) (fun _ _ => ⟨rfl, eT, (by decide : 1 + 0 ≤ _), (by decide : 9 + 0 ≤ _)⟩)
  dsimp only [Pt.U, Pt.locs, Pt.cells, Pt.slots] at X lq yq zq st hQ
  subst lq yq zq
  obtain ⟨rfl, Nq, eT⟩ := hQ
  replace N := Fr.app N Nq
  refine own_viaT (g' := (mkF m 16 (own_A15 a1 b1 0 0) [(.int 9), (.int 0)])) st ?_
  refine own_via (g' := (mkF m 21 (own_A15 a1 b1 0 0) [(.int 0), (.ref a1)])) (fun t_ k_ => XS.icmpNo X.here hx rfl (hb hby ep10m3_d16) rfl (tlt (by decide : (0 : Int32) < (9 : Int32))).2.1 (XS.aloadN X.here hx rfl (hb hby ep10m3_d19) rfl rfl (XS.iloadN X.here hx rfl (hb hby ep10m3_d20) rfl k_))) ?_
  obtain ⟨cq, kq, qa, qb, qc⟩ := isOf hZ eT E_a1
  obtain ⟨_, _, ⟨T, Lq, kq, nq⟩, -, X, ⟨Lc, hQ, lq, yq, zq⟩, st⟩ := X.virtualBack hx (y := own_y7) (z := own_y7) hown (mvT hZ (hw _ (own_w 74 rfl))) (mvT hZ (hw _ (own_w 75 rfl))) (notFace_of_selects (args := #[]) (mvT hZ (hw _ (own_w 77 rfl)))) (mvT hZ (hw _ (own_w 77 rfl))) (mvT hZ (hw _ (own_w 76 rfl))) (by decide) (backOf (W := 0) (own_charAt l Z a0 hw [] a1 (0 : Int32) va kv (9 : Int32) [(.int (own_b8 (92 : Int32))), (.int (own_b8 (120 : Int32))), (.int (own_b8 (own_hx (v0 / (16 : Int32))))), (.int (own_b8 (own_hx (v0 % (16 : Int32))))), (.int (own_b8 v1)), (.int (own_b8 (92 : Int32))), (.int (own_b8 (120 : Int32))), (.int (own_b8 (own_hx (v2 / (16 : Int32))))), (.int (own_b8 (own_hx (v2 % (16 : Int32)))))] (own_b8 (92 : Int32)) zc vS h2 n0 O E_a1 F_value_a1 F_coder_a1 V_va S_C hzc (by decide) rfl S_S hvS) hZ (hw _ (own_w 78 rfl)) (hw _ (own_w 10 rfl)) (by decide) (by decide)) qa qc (g := (mkF m 21 (own_A15 a1 b1 0 0) [(.int 0), (.ref a1)])) rfl (by rw [hml]; rfl) (Steps.refl _) (argsL := [(.int 0)]) (rest := []) (lenOf own_pd7 rfl) rfl (by show 2 * 0 + _ ≤ _; exact Nat.le_of_eq rfl) (hb hby ep10m3_d21) (fun _ _ => ⟨rfl, eT, (by decide : 1 + 0 ≤ _), (by decide : 9 + 0 ≤ _)⟩)
  dsimp only [Pt.U, Pt.locs, Pt.cells, Pt.slots] at X lq yq zq st hQ
  subst lq yq zq
  obtain ⟨rfl, Nq, eT⟩ := hQ
  replace N := Fr.app N Nq
  refine own_viaT (g' := (mkF m 24 (own_A15 a1 b1 0 0) [(.int ((own_b8 (92 : Int32)) &&& (255 : Int32)))])) st ?_
  rw [(by decide : ((own_b8 (92 : Int32)) &&& (255 : Int32)) = (92 : Int32))]
  refine own_via (g' := (mkF m 35 (own_A10 a1 b1 0 0 92) [(.int 0), (.ref a1)])) (fun t_ k_ => XS.istore X.here hx rfl (hb hby ep10m3_d24) rfl (l' := (own_A10 a1 b1 0 0 92)) rfl (XS.iload X.here hx rfl (hb hby ep10m3_d26) rfl (XS.bipush X.here hx rfl (hb hby ep10m3_d28) (XS.icmpNo X.here hx rfl (hb hby ep10m3_d30) rfl (teq (by decide : (92 : Int32) = (92 : Int32))).2 (XS.aloadN X.here hx rfl (hb hby ep10m3_d33) rfl rfl (XS.iloadN X.here hx rfl (hb hby ep10m3_d34) rfl k_)))))) ?_
  obtain ⟨_, _, ⟨T, Lq, kq, nq⟩, -, X, ⟨Lc, hQ, lq, yq, zq⟩, st⟩ := Jvm.LawKit.callS X hx (y := own_y10) hown (mvT hZ (hw _ (own_w 96 rfl))) (mvT hZ (hw _ (own_w 97 rfl))) (mvT hZ (hw _ (own_w 31 rfl))) (mvT hZ (hw _ (own_w 98 rfl))) (by decide) (backOf (W := 0) (own_escByte l Z a0 hw [] a1 va kv (9 : Int32) [(.int (own_b8 (92 : Int32))), (.int (own_b8 (120 : Int32))), (.int (own_b8 (own_hx (v0 / (16 : Int32))))), (.int (own_b8 (own_hx (v0 % (16 : Int32))))), (.int (own_b8 v1)), (.int (own_b8 (92 : Int32))), (.int (own_b8 (120 : Int32))), (.int (own_b8 (own_hx (v2 / (16 : Int32))))), (.int (own_b8 (own_hx (v2 % (16 : Int32)))))] (0 : Int32) v0 (own_b8 (120 : Int32)) (own_b8 (own_hx (v0 / (16 : Int32)))) (own_b8 (own_hx (v0 % (16 : Int32)))) zc vS h2 n0 O E_a1 F_value_a1 F_coder_a1 V_va (by decide) rfl (by decide) (by decide) rfl (own_b255 (own_hxB (own_hi bd0.1 bd0.2).2.1 (own_hi bd0.1 bd0.2).2.2).1 (own_hxB (own_hi bd0.1 bd0.2).2.1 (own_hi bd0.1 bd0.2).2.2).2) (by decide) rfl (own_b255 (own_hxB (own_lo bd0.1 bd0.2).2.1 (own_lo bd0.1 bd0.2).2.2).1 (own_hxB (own_lo bd0.1 bd0.2).2.1 (own_lo bd0.1 bd0.2).2.2).2) bd0 S_C hzc S_S hvS) hZ (hw _ (own_w 98 rfl)) (hw _ (own_w 31 rfl)) (by decide) (by decide)) (g := (mkF m 35 (own_A10 a1 b1 0 0 92) [(.int 0), (.ref a1)])) rfl (by rw [hml]; rfl) (argsL := [(.ref a1), (.int 0)]) (rest := []) (lenOf own_pd10 rfl) rfl (by show 2 * 0 + _ ≤ _; exact Nat.le_of_eq rfl) (hb hby ep10m3_d35) (fun _ _ => ⟨rfl, eT, (by decide : 1 + 0 ≤ _), (by decide : 9 + 0 ≤ _)⟩)
  dsimp only [Pt.U, Pt.locs, Pt.cells, Pt.slots] at X lq yq zq st hQ
  subst lq yq zq
  obtain ⟨rfl, Nq, eT⟩ := hQ
  replace N := Fr.app N Nq
  refine own_via (g' := (mkF m 38 (own_A10 a1 b1 0 0 92) [(.int v0)])) st ?_
  refine own_via (g' := (mkF m 69 (own_A8 a1 b1 ((0 : Int32) + (1 : Int32)) 0 92 v0) [(.int (v0.toInt8.toInt32)), (.int 0), (.ref b1)])) (fun t_ k_ => XS.istore X.here hx rfl (hb hby ep10m3_d38) rfl (l' := (own_A8 a1 b1 0 0 92 v0)) rfl (XS.iload X.here hx rfl (hb hby ep10m3_d40) rfl (XS.ifYes X.here hx rfl (pc0 := 42) (pc' := 61) rfl (hb hby ep10m3_d42) rfl ((if0 _ _).trans (flt (own_nn bd0.1)).2.1) (by decide) (by decide) (XS.aloadN X.here hx rfl (hb hby ep10m3_d61) rfl rfl (XS.iloadN X.here hx rfl (hb hby ep10m3_d62) rfl (XS.iinc X.here hx rfl (hb hby ep10m3_d63) rfl (l' := (own_A8 a1 b1 ((0 : Int32) + (1 : Int32)) 0 92 v0)) rfl (XS.iload X.here hx rfl (hb hby ep10m3_d66) rfl (XS.i2b X.here hx rfl (hb hby ep10m3_d68) rfl k_)))))))) ?_
  obtain ⟨cl_, Ar_, qk_, Sz_, Nn_, Hs_, Gs_⟩ := id V_b1
  have hin_ : ¬ ((0 : Int32) < 0 ∨ cl_.slots.size ≤ ((0 : Int32)).toNatClampNeg) := inb_of Sz_ ⟨by decide, by decide⟩
  obtain ⟨T, h3, X, eT, W, st⟩ := stB X hx hZ eT Ar_ (j := (0 : Int32)) hin_ (g := (mkF m 69 (own_A8 a1 b1 ((0 : Int32) + (1 : Int32)) 0 92 v0) [(.int (v0.toInt8.toInt32)), (.int 0), (.ref b1)])) rfl rfl (hb hby ep10m3_d69)
  replace V_b1 : Arv Z h3 b1 kb1 .byte (9 : Int32) [(.int (((v0.toInt8.toInt32)).toInt8.toInt32)), (.int 0), (.int 0), (.int 0), (.int 0), (.int 0), (.int 0), (.int 0), (.int 0)] (.int 0) := Arv.set Ar_ qk_ Sz_ Nn_ Hs_ Gs_ (fits_nar_byte _) W 0 (by decide) (Nat.le_of_ble_eq_true rfl)
  replace E_a1 := E_a1.wr W
  replace F_value_a1 := F_value_a1.other W (Or.inl ne_a1_b1)
  replace F_coder_a1 := F_coder_a1.other W (Or.inl ne_a1_b1)
  replace V_va := V_va.other W ne_va_b1
  replace E_b1 := E_b1.wr W
  replace O := O.wr W g_b1
  replace K0 := K0.wr W (Or.inr sz_b1)
  replace N := Fr.snoc X N g_b1
  refine own_via (g' := (mkF m 70 (own_A8 a1 b1 ((0 : Int32) + (1 : Int32)) 0 92 v0) [])) st ?_
  refine own_via (g' := (mkF m 11 (own_A8 a1 b1 ((0 : Int32) + (1 : Int32)) (((0 : Int32) + (3 : Int32)) + (1 : Int32)) 92 v0) [])) (fun t_ k_ => XS.iinc X.here hx rfl (hb hby ep10m3_d70) rfl (l' := (own_A8 a1 b1 ((0 : Int32) + (1 : Int32)) ((0 : Int32) + (3 : Int32)) 92 v0)) rfl (XS.goto X.here hx rfl (pc0 := 73) (pc' := 136) rfl (hb hby ep10m3_d73) (by decide) (by decide) (XS.iinc X.here hx rfl (hb hby ep10m3_d136) rfl (l' := (own_A8 a1 b1 ((0 : Int32) + (1 : Int32)) (((0 : Int32) + (3 : Int32)) + (1 : Int32)) 92 v0)) rfl (XS.goto X.here hx rfl (pc0 := 139) (pc' := 11) rfl (hb hby ep10m3_d139) (by decide) (by decide) k_)))) ?_
  rw [(by decide : ((0 : Int32) + (1 : Int32)) = (1 : Int32))]
  rw [(by decide : (((0 : Int32) + (3 : Int32)) + (1 : Int32)) = (4 : Int32))]
  refine own_via (g' := (mkF m 13 (own_A8 a1 b1 1 4 92 v0) [(.ref a1), (.int 4)])) (fun t_ k_ => XS.iloadN X.here hx rfl (hb hby ep10m3_d11) rfl (XS.aloadN X.here hx rfl (hb hby ep10m3_d12) rfl rfl k_)) ?_
  obtain ⟨cq, kq, qa, qb, qc⟩ := isOf hZ eT E_a1
  obtain ⟨_, _, ⟨T, Lq, kq, nq⟩, -, X, ⟨Lc, hQ, lq, yq, zq⟩, st⟩ := X.virtualBack hx (y := own_y6) (z := own_y6) hown (mvT hZ (hw _ (own_w 33 rfl))) (mvT hZ (hw _ (own_w 34 rfl))) (notFace_of_selects (args := #[]) (mvT hZ (hw _ (own_w 36 rfl)))) (mvT hZ (hw _ (own_w 36 rfl))) (mvT hZ (hw _ (own_w 35 rfl))) (by decide) (backOf (W := 1) (own_strlen l Z a0 hw [] a1 va kv (9 : Int32) [(.int (own_b8 (92 : Int32))), (.int (own_b8 (120 : Int32))), (.int (own_b8 (own_hx (v0 / (16 : Int32))))), (.int (own_b8 (own_hx (v0 % (16 : Int32))))), (.int (own_b8 v1)), (.int (own_b8 (92 : Int32))), (.int (own_b8 (120 : Int32))), (.int (own_b8 (own_hx (v2 / (16 : Int32))))), (.int (own_b8 (own_hx (v2 % (16 : Int32)))))] zc h3 n0 O E_a1 F_value_a1 F_coder_a1 V_va S_C hzc) hZ (hw _ (own_w 37 rfl)) (hw _ (own_w 10 rfl)) (by decide) (by decide)) qa qc (g := (mkF m 13 (own_A8 a1 b1 1 4 92 v0) [(.ref a1), (.int 4)])) rfl (by rw [hml]; rfl) (Steps.refl _) (argsL := []) (rest := [(.int 4)]) (lenOf own_pd6 rfl) rfl (by show 2 * 0 + _ ≤ _; exact Nat.le_of_eq rfl) (hb hby ep10m3_d13) (fun _ _ => ⟨rfl, eT, (by decide : 1 + 0 ≤ _), (by decide : 9 + 0 ≤ _)⟩)
  dsimp only [Pt.U, Pt.locs, Pt.cells, Pt.slots] at X lq yq zq st hQ
  subst lq yq zq
  obtain ⟨rfl, Nq, eT⟩ := hQ
  replace N := Fr.app N Nq
  refine own_viaT (g' := (mkF m 16 (own_A8 a1 b1 1 4 92 v0) [(.int 9), (.int 4)])) st ?_
  refine own_via (g' := (mkF m 21 (own_A8 a1 b1 1 4 92 v0) [(.int 4), (.ref a1)])) (fun t_ k_ => XS.icmpNo X.here hx rfl (hb hby ep10m3_d16) rfl (tlt (by decide : (4 : Int32) < (9 : Int32))).2.1 (XS.aloadN X.here hx rfl (hb hby ep10m3_d19) rfl rfl (XS.iloadN X.here hx rfl (hb hby ep10m3_d20) rfl k_))) ?_
  obtain ⟨cq, kq, qa, qb, qc⟩ := isOf hZ eT E_a1
  obtain ⟨_, _, ⟨T, Lq, kq, nq⟩, -, X, ⟨Lc, hQ, lq, yq, zq⟩, st⟩ := X.virtualBack hx (y := own_y7) (z := own_y7) hown (mvT hZ (hw _ (own_w 74 rfl))) (mvT hZ (hw _ (own_w 75 rfl))) (notFace_of_selects (args := #[]) (mvT hZ (hw _ (own_w 77 rfl)))) (mvT hZ (hw _ (own_w 77 rfl))) (mvT hZ (hw _ (own_w 76 rfl))) (by decide) (backOf (W := 0) (own_charAt l Z a0 hw [] a1 (4 : Int32) va kv (9 : Int32) [(.int (own_b8 (92 : Int32))), (.int (own_b8 (120 : Int32))), (.int (own_b8 (own_hx (v0 / (16 : Int32))))), (.int (own_b8 (own_hx (v0 % (16 : Int32))))), (.int (own_b8 v1)), (.int (own_b8 (92 : Int32))), (.int (own_b8 (120 : Int32))), (.int (own_b8 (own_hx (v2 / (16 : Int32))))), (.int (own_b8 (own_hx (v2 % (16 : Int32)))))] (own_b8 v1) zc vS h3 n0 O E_a1 F_value_a1 F_coder_a1 V_va S_C hzc (by decide) rfl S_S hvS) hZ (hw _ (own_w 78 rfl)) (hw _ (own_w 10 rfl)) (by decide) (by decide)) qa qc (g := (mkF m 21 (own_A8 a1 b1 1 4 92 v0) [(.int 4), (.ref a1)])) rfl (by rw [hml]; rfl) (Steps.refl _) (argsL := [(.int 4)]) (rest := []) (lenOf own_pd7 rfl) rfl (by show 2 * 0 + _ ≤ _; exact Nat.le_of_eq rfl) (hb hby ep10m3_d21) (fun _ _ => ⟨rfl, eT, (by decide : 1 + 0 ≤ _), (by decide : 9 + 0 ≤ _)⟩)
  dsimp only [Pt.U, Pt.locs, Pt.cells, Pt.slots] at X lq yq zq st hQ
  subst lq yq zq
  obtain ⟨rfl, Nq, eT⟩ := hQ
  replace N := Fr.app N Nq
  refine own_viaT (g' := (mkF m 24 (own_A8 a1 b1 1 4 92 v0) [(.int ((own_b8 v1) &&& (255 : Int32)))])) st ?_
  rw [own_b255 bd1.1 bd1.2]
  refine own_via (g' := (mkF m 90 (own_A8 a1 b1 1 4 v1 v0) [])) (fun t_ k_ => XS.istore X.here hx rfl (hb hby ep10m3_d24) rfl (l' := (own_A8 a1 b1 1 4 v1 v0)) rfl (XS.iload X.here hx rfl (hb hby ep10m3_d26) rfl (XS.bipush X.here hx rfl (hb hby ep10m3_d28) (XS.icmpYes X.here hx rfl (pc0 := 30) (pc' := 76) rfl (hb hby ep10m3_d30) rfl (feq pp1.1).2 (by decide) (by decide) (XS.iload X.here hx rfl (hb hby ep10m3_d76) rfl (XS.bipush X.here hx rfl (hb hby ep10m3_d78) (XS.icmpNo X.here hx rfl (hb hby ep10m3_d80) rfl (flt pp1.2.1).1 (XS.iload X.here hx rfl (hb hby ep10m3_d83) rfl (XS.bipush X.here hx rfl (hb hby ep10m3_d85) (XS.icmpNo X.here hx rfl (hb hby ep10m3_d87) rfl (flt pp1.2.2).2.2.1 k_)))))))))) ?_
  refine own_via (g' := (mkF m 98 (own_A8 a1 b1 ((1 : Int32) + (1 : Int32)) 4 v1 v0) [(.int (v1.toInt8.toInt32)), (.int 1), (.ref b1)])) (fun t_ k_ => XS.aloadN X.here hx rfl (hb hby ep10m3_d90) rfl rfl (XS.iloadN X.here hx rfl (hb hby ep10m3_d91) rfl (XS.iinc X.here hx rfl (hb hby ep10m3_d92) rfl (l' := (own_A8 a1 b1 ((1 : Int32) + (1 : Int32)) 4 v1 v0)) rfl (XS.iload X.here hx rfl (hb hby ep10m3_d95) rfl (XS.i2b X.here hx rfl (hb hby ep10m3_d97) rfl k_))))) ?_
  obtain ⟨cl_, Ar_, qk_, Sz_, Nn_, Hs_, Gs_⟩ := id V_b1
  have hin_ : ¬ ((1 : Int32) < 0 ∨ cl_.slots.size ≤ ((1 : Int32)).toNatClampNeg) := inb_of Sz_ ⟨by decide, by decide⟩
  obtain ⟨T, h4, X, eT, W, st⟩ := stB X hx hZ eT Ar_ (j := (1 : Int32)) hin_ (g := (mkF m 98 (own_A8 a1 b1 ((1 : Int32) + (1 : Int32)) 4 v1 v0) [(.int (v1.toInt8.toInt32)), (.int 1), (.ref b1)])) rfl rfl (hb hby ep10m3_d98)
  replace V_b1 : Arv Z h4 b1 kb1 .byte (9 : Int32) [(.int (((v0.toInt8.toInt32)).toInt8.toInt32)), (.int (((v1.toInt8.toInt32)).toInt8.toInt32)), (.int 0), (.int 0), (.int 0), (.int 0), (.int 0), (.int 0), (.int 0)] (.int 0) := Arv.set Ar_ qk_ Sz_ Nn_ Hs_ Gs_ (fits_nar_byte _) W 1 (by decide) (Nat.le_of_ble_eq_true rfl)
  replace E_a1 := E_a1.wr W
  replace F_value_a1 := F_value_a1.other W (Or.inl ne_a1_b1)
  replace F_coder_a1 := F_coder_a1.other W (Or.inl ne_a1_b1)
  replace V_va := V_va.other W ne_va_b1
  replace E_b1 := E_b1.wr W
  replace O := O.wr W g_b1
  replace K0 := K0.wr W (Or.inr sz_b1)
  replace N := Fr.snoc X N g_b1
  refine own_via (g' := (mkF m 99 (own_A8 a1 b1 ((1 : Int32) + (1 : Int32)) 4 v1 v0) [])) st ?_
  refine own_via (g' := (mkF m 11 (own_A8 a1 b1 ((1 : Int32) + (1 : Int32)) ((4 : Int32) + (1 : Int32)) v1 v0) [])) (fun t_ k_ => XS.goto X.here hx rfl (pc0 := 99) (pc' := 136) rfl (hb hby ep10m3_d99) (by decide) (by decide) (XS.iinc X.here hx rfl (hb hby ep10m3_d136) rfl (l' := (own_A8 a1 b1 ((1 : Int32) + (1 : Int32)) ((4 : Int32) + (1 : Int32)) v1 v0)) rfl (XS.goto X.here hx rfl (pc0 := 139) (pc' := 11) rfl (hb hby ep10m3_d139) (by decide) (by decide) k_))) ?_
  rw [(by decide : ((1 : Int32) + (1 : Int32)) = (2 : Int32))]
  rw [(by decide : ((4 : Int32) + (1 : Int32)) = (5 : Int32))]
  refine own_via (g' := (mkF m 13 (own_A8 a1 b1 2 5 v1 v0) [(.ref a1), (.int 5)])) (fun t_ k_ => XS.iloadN X.here hx rfl (hb hby ep10m3_d11) rfl (XS.aloadN X.here hx rfl (hb hby ep10m3_d12) rfl rfl k_)) ?_
  obtain ⟨cq, kq, qa, qb, qc⟩ := isOf hZ eT E_a1
  obtain ⟨_, _, ⟨T, Lq, kq, nq⟩, -, X, ⟨Lc, hQ, lq, yq, zq⟩, st⟩ := X.virtualBack hx (y := own_y6) (z := own_y6) hown (mvT hZ (hw _ (own_w 33 rfl))) (mvT hZ (hw _ (own_w 34 rfl))) (notFace_of_selects (args := #[]) (mvT hZ (hw _ (own_w 36 rfl)))) (mvT hZ (hw _ (own_w 36 rfl))) (mvT hZ (hw _ (own_w 35 rfl))) (by decide) (backOf (W := 1) (own_strlen l Z a0 hw [] a1 va kv (9 : Int32) [(.int (own_b8 (92 : Int32))), (.int (own_b8 (120 : Int32))), (.int (own_b8 (own_hx (v0 / (16 : Int32))))), (.int (own_b8 (own_hx (v0 % (16 : Int32))))), (.int (own_b8 v1)), (.int (own_b8 (92 : Int32))), (.int (own_b8 (120 : Int32))), (.int (own_b8 (own_hx (v2 / (16 : Int32))))), (.int (own_b8 (own_hx (v2 % (16 : Int32)))))] zc h4 n0 O E_a1 F_value_a1 F_coder_a1 V_va S_C hzc) hZ (hw _ (own_w 37 rfl)) (hw _ (own_w 10 rfl)) (by decide) (by decide)) qa qc (g := (mkF m 13 (own_A8 a1 b1 2 5 v1 v0) [(.ref a1), (.int 5)])) rfl (by rw [hml]; rfl) (Steps.refl _) (argsL := []) (rest := [(.int 5)]) (lenOf own_pd6 rfl) rfl (by show 2 * 0 + _ ≤ _; exact Nat.le_of_eq rfl) (hb hby ep10m3_d13) (fun _ _ => ⟨rfl, eT, (by decide : 1 + 0 ≤ _), (by decide : 9 + 0 ≤ _)⟩)
  dsimp only [Pt.U, Pt.locs, Pt.cells, Pt.slots] at X lq yq zq st hQ
  subst lq yq zq
  obtain ⟨rfl, Nq, eT⟩ := hQ
  replace N := Fr.app N Nq
  refine own_viaT (g' := (mkF m 16 (own_A8 a1 b1 2 5 v1 v0) [(.int 9), (.int 5)])) st ?_
  refine own_via (g' := (mkF m 21 (own_A8 a1 b1 2 5 v1 v0) [(.int 5), (.ref a1)])) (fun t_ k_ => XS.icmpNo X.here hx rfl (hb hby ep10m3_d16) rfl (tlt (by decide : (5 : Int32) < (9 : Int32))).2.1 (XS.aloadN X.here hx rfl (hb hby ep10m3_d19) rfl rfl (XS.iloadN X.here hx rfl (hb hby ep10m3_d20) rfl k_))) ?_
  obtain ⟨cq, kq, qa, qb, qc⟩ := isOf hZ eT E_a1
  obtain ⟨_, _, ⟨T, Lq, kq, nq⟩, -, X, ⟨Lc, hQ, lq, yq, zq⟩, st⟩ := X.virtualBack hx (y := own_y7) (z := own_y7) hown (mvT hZ (hw _ (own_w 74 rfl))) (mvT hZ (hw _ (own_w 75 rfl))) (notFace_of_selects (args := #[]) (mvT hZ (hw _ (own_w 77 rfl)))) (mvT hZ (hw _ (own_w 77 rfl))) (mvT hZ (hw _ (own_w 76 rfl))) (by decide) (backOf (W := 0) (own_charAt l Z a0 hw [] a1 (5 : Int32) va kv (9 : Int32) [(.int (own_b8 (92 : Int32))), (.int (own_b8 (120 : Int32))), (.int (own_b8 (own_hx (v0 / (16 : Int32))))), (.int (own_b8 (own_hx (v0 % (16 : Int32))))), (.int (own_b8 v1)), (.int (own_b8 (92 : Int32))), (.int (own_b8 (120 : Int32))), (.int (own_b8 (own_hx (v2 / (16 : Int32))))), (.int (own_b8 (own_hx (v2 % (16 : Int32)))))] (own_b8 (92 : Int32)) zc vS h4 n0 O E_a1 F_value_a1 F_coder_a1 V_va S_C hzc (by decide) rfl S_S hvS) hZ (hw _ (own_w 78 rfl)) (hw _ (own_w 10 rfl)) (by decide) (by decide)) qa qc (g := (mkF m 21 (own_A8 a1 b1 2 5 v1 v0) [(.int 5), (.ref a1)])) rfl (by rw [hml]; rfl) (Steps.refl _) (argsL := [(.int 5)]) (rest := []) (lenOf own_pd7 rfl) rfl (by show 2 * 0 + _ ≤ _; exact Nat.le_of_eq rfl) (hb hby ep10m3_d21) (fun _ _ => ⟨rfl, eT, (by decide : 1 + 0 ≤ _), (by decide : 9 + 0 ≤ _)⟩)
  dsimp only [Pt.U, Pt.locs, Pt.cells, Pt.slots] at X lq yq zq st hQ
  subst lq yq zq
  obtain ⟨rfl, Nq, eT⟩ := hQ
  replace N := Fr.app N Nq
  refine own_viaT (g' := (mkF m 24 (own_A8 a1 b1 2 5 v1 v0) [(.int ((own_b8 (92 : Int32)) &&& (255 : Int32)))])) st ?_
  rw [(by decide : ((own_b8 (92 : Int32)) &&& (255 : Int32)) = (92 : Int32))]
  refine own_via (g' := (mkF m 35 (own_A8 a1 b1 2 5 92 v0) [(.int 5), (.ref a1)])) (fun t_ k_ => XS.istore X.here hx rfl (hb hby ep10m3_d24) rfl (l' := (own_A8 a1 b1 2 5 92 v0)) rfl (XS.iload X.here hx rfl (hb hby ep10m3_d26) rfl (XS.bipush X.here hx rfl (hb hby ep10m3_d28) (XS.icmpNo X.here hx rfl (hb hby ep10m3_d30) rfl (teq (by decide : (92 : Int32) = (92 : Int32))).2 (XS.aloadN X.here hx rfl (hb hby ep10m3_d33) rfl rfl (XS.iloadN X.here hx rfl (hb hby ep10m3_d34) rfl k_)))))) ?_
  obtain ⟨_, _, ⟨T, Lq, kq, nq⟩, -, X, ⟨Lc, hQ, lq, yq, zq⟩, st⟩ := Jvm.LawKit.callS X hx (y := own_y10) hown (mvT hZ (hw _ (own_w 96 rfl))) (mvT hZ (hw _ (own_w 97 rfl))) (mvT hZ (hw _ (own_w 31 rfl))) (mvT hZ (hw _ (own_w 98 rfl))) (by decide) (backOf (W := 0) (own_escByte l Z a0 hw [] a1 va kv (9 : Int32) [(.int (own_b8 (92 : Int32))), (.int (own_b8 (120 : Int32))), (.int (own_b8 (own_hx (v0 / (16 : Int32))))), (.int (own_b8 (own_hx (v0 % (16 : Int32))))), (.int (own_b8 v1)), (.int (own_b8 (92 : Int32))), (.int (own_b8 (120 : Int32))), (.int (own_b8 (own_hx (v2 / (16 : Int32))))), (.int (own_b8 (own_hx (v2 % (16 : Int32)))))] (5 : Int32) v2 (own_b8 (120 : Int32)) (own_b8 (own_hx (v2 / (16 : Int32)))) (own_b8 (own_hx (v2 % (16 : Int32)))) zc vS h4 n0 O E_a1 F_value_a1 F_coder_a1 V_va (by decide) rfl (by decide) (by decide) rfl (own_b255 (own_hxB (own_hi bd2.1 bd2.2).2.1 (own_hi bd2.1 bd2.2).2.2).1 (own_hxB (own_hi bd2.1 bd2.2).2.1 (own_hi bd2.1 bd2.2).2.2).2) (by decide) rfl (own_b255 (own_hxB (own_lo bd2.1 bd2.2).2.1 (own_lo bd2.1 bd2.2).2.2).1 (own_hxB (own_lo bd2.1 bd2.2).2.1 (own_lo bd2.1 bd2.2).2.2).2) bd2 S_C hzc S_S hvS) hZ (hw _ (own_w 98 rfl)) (hw _ (own_w 31 rfl)) (by decide) (by decide)) (g := (mkF m 35 (own_A8 a1 b1 2 5 92 v0) [(.int 5), (.ref a1)])) rfl (by rw [hml]; rfl) (argsL := [(.ref a1), (.int 5)]) (rest := []) (lenOf own_pd10 rfl) rfl (by show 2 * 0 + _ ≤ _; exact Nat.le_of_eq rfl) (hb hby ep10m3_d35) (fun _ _ => ⟨rfl, eT, (by decide : 1 + 0 ≤ _), (by decide : 9 + 0 ≤ _)⟩)
  dsimp only [Pt.U, Pt.locs, Pt.cells, Pt.slots] at X lq yq zq st hQ
  subst lq yq zq
  obtain ⟨rfl, Nq, eT⟩ := hQ
  replace N := Fr.app N Nq
  refine own_via (g' := (mkF m 38 (own_A8 a1 b1 2 5 92 v0) [(.int v2)])) st ?_
  refine own_via (g' := (mkF m 69 (own_A8 a1 b1 ((2 : Int32) + (1 : Int32)) 5 92 v2) [(.int (v2.toInt8.toInt32)), (.int 2), (.ref b1)])) (fun t_ k_ => XS.istore X.here hx rfl (hb hby ep10m3_d38) rfl (l' := (own_A8 a1 b1 2 5 92 v2)) rfl (XS.iload X.here hx rfl (hb hby ep10m3_d40) rfl (XS.ifYes X.here hx rfl (pc0 := 42) (pc' := 61) rfl (hb hby ep10m3_d42) rfl ((if0 _ _).trans (flt (own_nn bd2.1)).2.1) (by decide) (by decide) (XS.aloadN X.here hx rfl (hb hby ep10m3_d61) rfl rfl (XS.iloadN X.here hx rfl (hb hby ep10m3_d62) rfl (XS.iinc X.here hx rfl (hb hby ep10m3_d63) rfl (l' := (own_A8 a1 b1 ((2 : Int32) + (1 : Int32)) 5 92 v2)) rfl (XS.iload X.here hx rfl (hb hby ep10m3_d66) rfl (XS.i2b X.here hx rfl (hb hby ep10m3_d68) rfl k_)))))))) ?_
  obtain ⟨cl_, Ar_, qk_, Sz_, Nn_, Hs_, Gs_⟩ := id V_b1
  have hin_ : ¬ ((2 : Int32) < 0 ∨ cl_.slots.size ≤ ((2 : Int32)).toNatClampNeg) := inb_of Sz_ ⟨by decide, by decide⟩
  obtain ⟨T, h5, X, eT, W, st⟩ := stB X hx hZ eT Ar_ (j := (2 : Int32)) hin_ (g := (mkF m 69 (own_A8 a1 b1 ((2 : Int32) + (1 : Int32)) 5 92 v2) [(.int (v2.toInt8.toInt32)), (.int 2), (.ref b1)])) rfl rfl (hb hby ep10m3_d69)
  replace V_b1 : Arv Z h5 b1 kb1 .byte (9 : Int32) [(.int (((v0.toInt8.toInt32)).toInt8.toInt32)), (.int (((v1.toInt8.toInt32)).toInt8.toInt32)), (.int (((v2.toInt8.toInt32)).toInt8.toInt32)), (.int 0), (.int 0), (.int 0), (.int 0), (.int 0), (.int 0)] (.int 0) := Arv.set Ar_ qk_ Sz_ Nn_ Hs_ Gs_ (fits_nar_byte _) W 2 (by decide) (Nat.le_of_ble_eq_true rfl)
  replace E_a1 := E_a1.wr W
  replace F_value_a1 := F_value_a1.other W (Or.inl ne_a1_b1)
  replace F_coder_a1 := F_coder_a1.other W (Or.inl ne_a1_b1)
  replace V_va := V_va.other W ne_va_b1
  replace E_b1 := E_b1.wr W
  replace O := O.wr W g_b1
  replace K0 := K0.wr W (Or.inr sz_b1)
  replace N := Fr.snoc X N g_b1
  refine own_via (g' := (mkF m 70 (own_A8 a1 b1 ((2 : Int32) + (1 : Int32)) 5 92 v2) [])) st ?_
  refine own_via (g' := (mkF m 11 (own_A8 a1 b1 ((2 : Int32) + (1 : Int32)) (((5 : Int32) + (3 : Int32)) + (1 : Int32)) 92 v2) [])) (fun t_ k_ => XS.iinc X.here hx rfl (hb hby ep10m3_d70) rfl (l' := (own_A8 a1 b1 ((2 : Int32) + (1 : Int32)) ((5 : Int32) + (3 : Int32)) 92 v2)) rfl (XS.goto X.here hx rfl (pc0 := 73) (pc' := 136) rfl (hb hby ep10m3_d73) (by decide) (by decide) (XS.iinc X.here hx rfl (hb hby ep10m3_d136) rfl (l' := (own_A8 a1 b1 ((2 : Int32) + (1 : Int32)) (((5 : Int32) + (3 : Int32)) + (1 : Int32)) 92 v2)) rfl (XS.goto X.here hx rfl (pc0 := 139) (pc' := 11) rfl (hb hby ep10m3_d139) (by decide) (by decide) k_)))) ?_
  rw [(by decide : ((2 : Int32) + (1 : Int32)) = (3 : Int32))]
  rw [(by decide : (((5 : Int32) + (3 : Int32)) + (1 : Int32)) = (9 : Int32))]
  refine own_via (g' := (mkF m 13 (own_A8 a1 b1 3 9 92 v2) [(.ref a1), (.int 9)])) (fun t_ k_ => XS.iloadN X.here hx rfl (hb hby ep10m3_d11) rfl (XS.aloadN X.here hx rfl (hb hby ep10m3_d12) rfl rfl k_)) ?_
  obtain ⟨cq, kq, qa, qb, qc⟩ := isOf hZ eT E_a1
  obtain ⟨_, _, ⟨T, Lq, kq, nq⟩, -, X, ⟨Lc, hQ, lq, yq, zq⟩, st⟩ := X.virtualBack hx (y := own_y6) (z := own_y6) hown (mvT hZ (hw _ (own_w 33 rfl))) (mvT hZ (hw _ (own_w 34 rfl))) (notFace_of_selects (args := #[]) (mvT hZ (hw _ (own_w 36 rfl)))) (mvT hZ (hw _ (own_w 36 rfl))) (mvT hZ (hw _ (own_w 35 rfl))) (by decide) (backOf (W := 1) (own_strlen l Z a0 hw [] a1 va kv (9 : Int32) [(.int (own_b8 (92 : Int32))), (.int (own_b8 (120 : Int32))), (.int (own_b8 (own_hx (v0 / (16 : Int32))))), (.int (own_b8 (own_hx (v0 % (16 : Int32))))), (.int (own_b8 v1)), (.int (own_b8 (92 : Int32))), (.int (own_b8 (120 : Int32))), (.int (own_b8 (own_hx (v2 / (16 : Int32))))), (.int (own_b8 (own_hx (v2 % (16 : Int32)))))] zc h5 n0 O E_a1 F_value_a1 F_coder_a1 V_va S_C hzc) hZ (hw _ (own_w 37 rfl)) (hw _ (own_w 10 rfl)) (by decide) (by decide)) qa qc (g := (mkF m 13 (own_A8 a1 b1 3 9 92 v2) [(.ref a1), (.int 9)])) rfl (by rw [hml]; rfl) (Steps.refl _) (argsL := []) (rest := [(.int 9)]) (lenOf own_pd6 rfl) rfl (by show 2 * 0 + _ ≤ _; exact Nat.le_of_eq rfl) (hb hby ep10m3_d13) (fun _ _ => ⟨rfl, eT, (by decide : 1 + 0 ≤ _), (by decide : 9 + 0 ≤ _)⟩)
  dsimp only [Pt.U, Pt.locs, Pt.cells, Pt.slots] at X lq yq zq st hQ
  subst lq yq zq
  obtain ⟨rfl, Nq, eT⟩ := hQ
  replace N := Fr.app N Nq
  refine own_viaT (g' := (mkF m 16 (own_A8 a1 b1 3 9 92 v2) [(.int 9), (.int 9)])) st ?_
  refine own_via (g' := (mkF m 144 (own_A8 a1 b1 3 9 92 v2) [(.int 3), (.ref b1)])) (fun t_ k_ => XS.icmpYes X.here hx rfl (pc0 := 16) (pc' := 142) rfl (hb hby ep10m3_d16) rfl (flt (by decide : ¬ ((9 : Int32) < (9 : Int32)))).2.1 (by decide) (by decide) (XS.aloadN X.here hx rfl (hb hby ep10m3_d142) rfl rfl (XS.iloadN X.here hx rfl (hb hby ep10m3_d143) rfl k_))) ?_
  replace V_b1 : Arv Z h5 b1 kb1 .byte (9 : Int32) [(.int (own_sb v0)), (.int (own_sb v1)), (.int (own_sb v2))] (.int 0) := V_b1.pad (fun i => (pad_rep [(.int (own_sb v0)), (.int (own_sb v1)), (.int (own_sb v2))] (.int 0) 6 i).symm)
  obtain ⟨_, _, ⟨T, Lq, kq, nq⟩, -, X, ⟨Lc, hQ, lq, yq, zq⟩, st⟩ := Jvm.LawKit.callS X hx (y := own_y9) hown (mvT hZ (hw _ (own_w 44 rfl))) (mvT hZ (hw _ (own_w 45 rfl))) (mvT hZ (hw _ (own_w 46 rfl))) (mvT hZ (hw _ (own_w 47 rfl))) (by decide) (backOf (W := 0) (own_copyOf l Z a0 hw [] b1 kb1 (3 : Int32) (9 : Int32) [(.int (own_sb v0)), (.int (own_sb v1)), (.int (own_sb v2))] h5 n0 O E_b1 V_b1 (by decide) rfl) hZ (hw _ (own_w 47 rfl)) (hw _ (own_w 46 rfl)) (by decide) (by decide)) (g := (mkF m 144 (own_A8 a1 b1 3 9 92 v2) [(.int 3), (.ref b1)])) rfl (by rw [hml]; rfl) (argsL := [(.ref b1), (.int 3)]) (rest := []) (lenOf own_pd9 rfl) rfl (by show 2 * 0 + _ ≤ _; exact Nat.le_of_eq rfl) (hb hby ep10m3_d144) (fun _ _ => ⟨rfl, eT, (by decide : 1 + 1 ≤ _), (by decide : 9 + 12 ≤ _)⟩)
  dsimp only [Pt.U, Pt.locs, Pt.cells, Pt.slots] at X lq yq zq st hQ
  subst lq yq zq
  obtain ⟨bn, kbn, rfl, Nq, Kq, szq, V_bn, E_bn⟩ := hQ
  replace N := Fr.app N Nq
  obtain ⟨h6, eT⟩ : ∃ z, T.heap = z := ⟨_, rfl⟩
  rw [eT] at Kq V_bn E_bn
  have ne_a1_bn : a1 ≠ bn := Nat.ne_of_lt (Nat.lt_of_lt_of_le E_a1.lt szq)
  have ne_b1_bn : b1 ≠ bn := Nat.ne_of_lt (Nat.lt_of_lt_of_le E_b1.lt szq)
  have ne_va_bn : va ≠ bn := Nat.ne_of_lt (Nat.lt_of_lt_of_le V_va.lt szq)
  have g_bn : n0 ≤ bn := Nat.le_trans (own_le O) szq
  have sz_bn : h0.size ≤ bn := Nat.le_trans K0.1 szq
  replace E_a1 := E_a1.keep Kq
  replace F_value_a1 := F_value_a1.keep Kq nin0
  replace F_coder_a1 := F_coder_a1.keep Kq nin0
  replace V_va := V_va.keep Kq nin0
  replace E_b1 := E_b1.keep Kq
  replace V_b1 := V_b1.keep Kq nin0
  replace O := O.keep Kq all0
  replace K0 := K0.trans Kq all0
  refine own_via (g' := (mkF m 147 (own_A8 a1 b1 3 9 92 v2) [(.ref bn)])) st ?_
  refine own_retW X hx hlk Bd.returns rfl (Or.inr (Or.inr (Or.inr (Or.inr ⟨rfl, rfl, rfl⟩)))) (hb hby ep10m3_d147) (by decide) (by decide) ?_
  rw [eT]
  exact ⟨bn, kbn, rfl, N, K0, sz_bn, V_bn, E_bn⟩
theorem own_unEEP_pn : plainFor (⟨"com/example/rows_to_regions/rowstoregions/KeyText", "unescape", "(Ljava/lang/String;)[B"⟩ : MethodName) = true := by first | exact plainFor_of_name (by first | (simp [plainName, overriddenIn]; done) | decide +kernel) | decide +kernel | exact Jvm.Free.JP.mathPlain rfl (by decide +kernel)
theorem own_unEEP_ef (m : MethodId) (x0 : Addr) : entryFrame m #[(.ref x0)] 6 = mkF m 0 #[.val (.ref x0), .unset, .unset, .unset, .unset, .unset] [] := by first | (simp [entryFrame, mkF, argsToLocals, Value.category]; done) | rfl
def own_unEEP_Q (Z : State) (a1 : Addr) (va : Addr) (kv : ClassId) (v0 : Int32) (v1 : Int32) (v2 : Int32) (zc : Int32) (vS : Value) (h0 : Heap) (n0 : Nat) (v : Option Value) (h : Heap) (L : List Loc) : Prop := ∃ b kb, v = some (.ref b) ∧ Fr n0 L ∧ Keep h0 h [] ∧ h0.size ≤ b ∧ Arv Z h b kb .byte (3 : Int32) [(.int (own_sb v0)), (.int (own_sb v1)), (.int (own_sb v2))] (.int 0) ∧ Exa Z h b "[B"
set_option maxRecDepth 65536 in
set_option maxHeartbeats 40000000 in
theorem own_unEEP (l : Launch) (Z : State) (a0 : Array Value) (hw : ∀ d ∈ tables_1, d.before a0 Z = true) (ws : List Jvm.Cond) (a1 : Addr) (va : Addr) (kv : ClassId) (v0 : Int32) (v1 : Int32) (v2 : Int32) (zc : Int32) (vS : Value) (h0 : Heap) (n0 : Nat) (O : Old Z n0 h0) (E_a1 : Exa Z h0 a1 "java/lang/String") (F_value_a1 : Fld Z h0 a1 "java/lang/String" "value" "[B" (.ref va)) (F_coder_a1 : Fld Z h0 a1 "java/lang/String" "coder" "B" (.int 0)) (V_va : Arv Z h0 va kv .byte (9 : Int32) [(.int (own_b8 (92 : Int32))), (.int (own_b8 (120 : Int32))), (.int (own_b8 (own_hx (v0 / (16 : Int32))))), (.int (own_b8 (own_hx (v0 % (16 : Int32))))), (.int (own_b8 (92 : Int32))), (.int (own_b8 (120 : Int32))), (.int (own_b8 (own_hx (v1 / (16 : Int32))))), (.int (own_b8 (own_hx (v1 % (16 : Int32))))), (.int (own_b8 v2))] (.int 0)) (bd0 : 0 ≤ v0.toInt ∧ v0.toInt < 256) (bd1 : 0 ≤ v1.toInt ∧ v1.toInt < 256) (bd2 : 0 ≤ v2.toInt ∧ v2.toInt < 256) (pp2 : ¬ v2 = (92 : Int32) ∧ ¬ v2 < (32 : Int32) ∧ ¬ (126 : Int32) < v2) (S_C : Sta Z Z.heap "java/lang/String" "COMPACT_STRINGS" "Z" (.int zc)) (hzc : ¬ zc = 0) (S_S : Sta Z Z.heap "jdk/internal/util/Preconditions" "SIOOBE_FORMATTER" "Ljava/util/function/BiFunction;" vS) (hvS : vS.isRef = true) :
    MetFree l (⟨"com/example/rows_to_regions/rowstoregions/KeyText", "unescape", "(Ljava/lang/String;)[B"⟩ : MethodName) (head1 (Jvm.Cond.code (⟨"com/example/rows_to_regions/rowstoregions/KeyText", "unescape", "(Ljava/lang/String;)[B"⟩ : MethodName) prog_10_method_3_code 6 (some (.array .byte)) :: ws) ({ frames := 5, cells := 2, slots := 24, locals := 68 } : Room)) (fun a U => a = #[(.ref a1)] ∧ Z.Warmed39 U.vm ∧ U.heap = h0) (fun _ _ _ _ _ => True) (fun _ U o U' => ∃ v L, o = .returned v ∧ own_unEEP_Q Z a1 va kv v0 v1 v2 zc vS h0 n0 v U'.heap L ∧ FrameEnd U o U' L ({ frames := 5, cells := 2, slots := 24, locals := 68 } : Room).cells ({ frames := 5, cells := 2, slots := 24, locals := 68 } : Room).slots) := by
  refine MetFree.of_bodySF own_unEEP_pn hisR ?_
  intro p e s m args below meth c s₁ Bd hml0 hP hK
  obtain ⟨rfl, hZ, hh⟩ := hP
  have hx := Bd.exec
  have hby := Bd.bytes
  have hlk := Bd.notSynchronized
  have hml : c.maxLocals = 6 := hml0
  have hown : s.vm.findClass "com/example/rows_to_regions/rowstoregions/KeyText" = some m.cls := findClass_of_methodNamed Bd.named
  have hnm := (name_of_methodNamed Bd.named Bd.method).1
  have X : Stand p l e ({ frames := 5, cells := 2, slots := 24, locals := 68 } : Room) s m #[(.ref a1)] below meth c s₁ [] 0 0 := Stand.of_body Bd
  have eT : s₁.heap = h0 := by rw [← hh, Bd.state]; rfl
  have N := Fr.nil n0
  have K0 := Keep.refl h0 []
  show own_Ends p e below (own_Post s below (own_unEEP_Q Z a1 va kv v0 v1 v2 zc vS h0 n0) ({ frames := 5, cells := 2, slots := 24, locals := 68 } : Room).cells ({ frames := 5, cells := 2, slots := 24, locals := 68 } : Room).slots) s₁ (entryFrame m #[(.ref a1)] 6)
  rw [own_unEEP_ef m a1]
  obtain ⟨T, hT⟩ : ∃ z, z = s₁ := ⟨_, rfl⟩
  rw [← hT] at X eT ⊢
  obtain ⟨h, hh0⟩ : ∃ z, z = h0 := ⟨_, rfl⟩
  rw [← hh0] at eT
  replace O : Old Z n0 h := by rw [hh0]; exact O
  replace K0 : Keep h0 h [] := by rw [hh0]; exact K0
  rw [← hh0] at E_a1
  rw [← hh0] at F_value_a1
  rw [← hh0] at F_coder_a1
  rw [← hh0] at V_va
  refine own_via (g' := (mkF m 1 (own_A19 a1) [(.ref a1)])) (fun t_ k_ => XS.aloadN X.here hx rfl (hb hby ep10m3_d0) rfl rfl k_) ?_
  obtain ⟨cq, kq, qa, qb, qc⟩ := isOf hZ eT E_a1
  obtain ⟨_, _, ⟨T, Lq, kq, nq⟩, -, X, ⟨Lc, hQ, lq, yq, zq⟩, st⟩ := X.virtualBack hx (y := own_y6) (z := own_y6) hown (mvT hZ (hw _ (own_w 33 rfl))) (mvT hZ (hw _ (own_w 34 rfl))) (notFace_of_selects (args := #[]) (mvT hZ (hw _ (own_w 36 rfl)))) (mvT hZ (hw _ (own_w 36 rfl))) (mvT hZ (hw _ (own_w 35 rfl))) (by decide) (backOf (W := 0) (own_strlen l Z a0 hw [] a1 va kv (9 : Int32) [(.int (own_b8 (92 : Int32))), (.int (own_b8 (120 : Int32))), (.int (own_b8 (own_hx (v0 / (16 : Int32))))), (.int (own_b8 (own_hx (v0 % (16 : Int32))))), (.int (own_b8 (92 : Int32))), (.int (own_b8 (120 : Int32))), (.int (own_b8 (own_hx (v1 / (16 : Int32))))), (.int (own_b8 (own_hx (v1 % (16 : Int32))))), (.int (own_b8 v2))] zc h n0 O E_a1 F_value_a1 F_coder_a1 V_va S_C hzc) hZ (hw _ (own_w 37 rfl)) (hw _ (own_w 10 rfl)) (by decide) (by decide)) qa qc (g := (mkF m 1 (own_A19 a1) [(.ref a1)])) rfl (by rw [hml]; rfl) (Steps.refl _) (argsL := []) (rest := []) (lenOf own_pd6 rfl) rfl (by show 2 * 0 + _ ≤ _; exact Nat.le_of_eq rfl) (hb hby ep10m3_d1) (fun _ _ => ⟨rfl, eT, (by decide : 0 + 0 ≤ _), (by decide : 0 + 0 ≤ _)⟩)
  dsimp only [Pt.U, Pt.locs, Pt.cells, Pt.slots] at X lq yq zq st hQ
  subst lq yq zq
  obtain ⟨rfl, Nq, eT⟩ := hQ
  replace N := Fr.app N Nq
  refine own_viaT (g' := (mkF m 4 (own_A19 a1) [(.int 9)])) st ?_
  obtain ⟨b1, gb⟩ : ∃ z, z = h.size := ⟨_, rfl⟩
  obtain ⟨T, h2, kb1, X, eT, E, A_, E_b1, st⟩ := newPE X hx hZ (hw _ (own_w 22 rfl)) eT (g := (mkF m 4 (own_A19 a1) [(.int 9)])) rfl (hb hby ep10m3_d4) rfl (by decide) (cap := 9) (by decide) (by decide) (by decide) (by decide) (ad := "[B") (by decide)
  rw [← gb] at A_ E_b1 st
  have ne_a1_b1 : a1 ≠ b1 := Nat.ne_of_lt (Nat.lt_of_lt_of_le E_a1.lt (Nat.le_of_eq gb.symm))
  have ne_va_b1 : va ≠ b1 := Nat.ne_of_lt (Nat.lt_of_lt_of_le V_va.lt (Nat.le_of_eq gb.symm))
  have g_b1 : n0 ≤ b1 := Nat.le_trans (own_le O) (Nat.le_of_eq gb.symm)
  have sz_b1 : h0.size ≤ b1 := Nat.le_trans K0.1 (Nat.le_of_eq gb.symm)
  replace E_a1 := E_a1.ext E
  replace F_value_a1 := F_value_a1.ext E
  replace F_coder_a1 := F_coder_a1.ext E
  replace V_va := V_va.ext E
  replace O := O.ext E
  replace K0 := K0.ext E
  have V_b1 : Arv Z h2 b1 kb1 .byte (9 : Int32) [(.int 0), (.int 0), (.int 0), (.int 0), (.int 0), (.int 0), (.int 0), (.int 0), (.int 0)] (.int 0) := (Arv.new A_ (by decide)).pad (pad_rep [] (.int 0) 9)
  refine own_via (g' := (mkF m 6 (own_A19 a1) [(.ref b1)])) st ?_
  refine own_via (g' := (mkF m 13 (own_A15 a1 b1 0 0) [(.ref a1), (.int 0)])) (fun t_ k_ => XS.astoreN X.here hx rfl (hb hby ep10m3_d6) rfl rfl (l' := (own_A18 a1 b1)) rfl (XS.iconst X.here hx rfl (hb hby ep10m3_d7) (XS.istoreN X.here hx rfl (hb hby ep10m3_d8) rfl (l' := (own_A17 a1 b1 0)) rfl (XS.iconst X.here hx rfl (hb hby ep10m3_d9) (XS.istoreN X.here hx rfl (hb hby ep10m3_d10) rfl (l' := (own_A15 a1 b1 0 0)) rfl (XS.iloadN X.here hx rfl (hb hby ep10m3_d11) rfl (XS.aloadN X.here hx rfl (hb hby ep10m3_d12) rfl rfl k_))))))) ?_
  obtain ⟨cq, kq, qa, qb, qc⟩ := isOf hZ eT E_a1
  obtain ⟨_, _, ⟨T, Lq, kq, nq⟩, -, X, ⟨Lc, hQ, lq, yq, zq⟩, st⟩ := X.virtualBack hx (y := own_y6) (z := own_y6) hown (mvT hZ (hw _ (own_w 33 rfl))) (mvT hZ (hw _ (own_w 34 rfl))) (notFace_of_selects (args := #[]) (mvT hZ (hw _ (own_w 36 rfl)))) (mvT hZ (hw _ (own_w 36 rfl))) (mvT hZ (hw _ (own_w 35 rfl))) (by decide) (backOf (W := 1) (own_strlen l Z a0 hw [] a1 va kv (9 : Int32) [(.int (own_b8 (92 : Int32))), (.int (own_b8 (120 : Int32))), (.int (own_b8 (own_hx (v0 / (16 : Int32))))), (.int (own_b8 (own_hx (v0 % (16 : Int32))))), (.int (own_b8 (92 : Int32))), (.int (own_b8 (120 : Int32))), (.int (own_b8 (own_hx (v1 / (16 : Int32))))), (.int (own_b8 (own_hx (v1 % (16 : Int32))))), (.int (own_b8 v2))] zc h2 n0 O E_a1 F_value_a1 F_coder_a1 V_va S_C hzc) hZ (hw _ (own_w 37 rfl)) (hw _ (own_w 10 rfl)) (by decide) (by decide)) qa qc (g := (mkF m 13 (own_A15 a1 b1 0 0) [(.ref a1), (.int 0)])) rfl (by rw [hml]; rfl) (Steps.refl _) (argsL := []) (rest := [(.int 0)]) (lenOf own_pd6 rfl) rfl (by show 2 * 0 + _ ≤ _; exact Nat.le_of_eq rfl) (hb hby ep10m3_d13) (fun _ _ => ⟨rfl, eT, (by decide : 1 + 0 ≤ _), (by decide : 9 + 0 ≤ _)⟩)
  dsimp only [Pt.U, Pt.locs, Pt.cells, Pt.slots] at X lq yq zq st hQ
  subst lq yq zq
  obtain ⟨rfl, Nq, eT⟩ := hQ
  replace N := Fr.app N Nq
  refine own_viaT (g' := (mkF m 16 (own_A15 a1 b1 0 0) [(.int 9), (.int 0)])) st ?_
  refine own_via (g' := (mkF m 21 (own_A15 a1 b1 0 0) [(.int 0), (.ref a1)])) (fun t_ k_ => XS.icmpNo X.here hx rfl (hb hby ep10m3_d16) rfl (tlt (by decide : (0 : Int32) < (9 : Int32))).2.1 (XS.aloadN X.here hx rfl (hb hby ep10m3_d19) rfl rfl (XS.iloadN X.here hx rfl (hb hby ep10m3_d20) rfl k_))) ?_
  obtain ⟨cq, kq, qa, qb, qc⟩ := isOf hZ eT E_a1
  obtain ⟨_, _, ⟨T, Lq, kq, nq⟩, -, X, ⟨Lc, hQ, lq, yq, zq⟩, st⟩ := X.virtualBack hx (y := own_y7) (z := own_y7) hown (mvT hZ (hw _ (own_w 74 rfl))) (mvT hZ (hw _ (own_w 75 rfl))) (notFace_of_selects (args := #[]) (mvT hZ (hw _ (own_w 77 rfl)))) (mvT hZ (hw _ (own_w 77 rfl))) (mvT hZ (hw _ (own_w 76 rfl))) (by decide) (backOf (W := 0) (own_charAt l Z a0 hw [] a1 (0 : Int32) va kv (9 : Int32) [(.int (own_b8 (92 : Int32))), (.int (own_b8 (120 : Int32))), (.int (own_b8 (own_hx (v0 / (16 : Int32))))), (.int (own_b8 (own_hx (v0 % (16 : Int32))))), (.int (own_b8 (92 : Int32))), (.int (own_b8 (120 : Int32))), (.int (own_b8 (own_hx (v1 / (16 : Int32))))), (.int (own_b8 (own_hx (v1 % (16 : Int32))))), (.int (own_b8 v2))] (own_b8 (92 : Int32)) zc vS h2 n0 O E_a1 F_value_a1 F_coder_a1 V_va S_C hzc (by decide) rfl S_S hvS) hZ (hw _ (own_w 78 rfl)) (hw _ (own_w 10 rfl)) (by decide) (by decide)) qa qc (g := (mkF m 21 (own_A15 a1 b1 0 0) [(.int 0), (.ref a1)])) rfl (by rw [hml]; rfl) (Steps.refl _) (argsL := [(.int 0)]) (rest := []) (lenOf own_pd7 rfl) rfl (by show 2 * 0 + _ ≤ _; exact Nat.le_of_eq rfl) (hb hby ep10m3_d21) (fun _ _ => ⟨rfl, eT, (by decide : 1 + 0 ≤ _), (by decide : 9 + 0 ≤ _)⟩)
  dsimp only [Pt.U, Pt.locs, Pt.cells, Pt.slots] at X lq yq zq st hQ
  subst lq yq zq
  obtain ⟨rfl, Nq, eT⟩ := hQ
  replace N := Fr.app N Nq
  refine own_viaT (g' := (mkF m 24 (own_A15 a1 b1 0 0) [(.int ((own_b8 (92 : Int32)) &&& (255 : Int32)))])) st ?_
  rw [(by decide : ((own_b8 (92 : Int32)) &&& (255 : Int32)) = (92 : Int32))]
  refine own_via (g' := (mkF m 35 (own_A10 a1 b1 0 0 92) [(.int 0), (.ref a1)])) (fun t_ k_ => XS.istore X.here hx rfl (hb hby ep10m3_d24) rfl (l' := (own_A10 a1 b1 0 0 92)) rfl (XS.iload X.here hx rfl (hb hby ep10m3_d26) rfl (XS.bipush X.here hx rfl (hb hby ep10m3_d28) (XS.icmpNo X.here hx rfl (hb hby ep10m3_d30) rfl (teq (by decide : (92 : Int32) = (92 : Int32))).2 (XS.aloadN X.here hx rfl (hb hby ep10m3_d33) rfl rfl (XS.iloadN X.here hx rfl (hb hby ep10m3_d34) rfl k_)))))) ?_
  obtain ⟨_, _, ⟨T, Lq, kq, nq⟩, -, X, ⟨Lc, hQ, lq, yq, zq⟩, st⟩ := Jvm.LawKit.callS X hx (y := own_y10) hown (mvT hZ (hw _ (own_w 96 rfl))) (mvT hZ (hw _ (own_w 97 rfl))) (mvT hZ (hw _ (own_w 31 rfl))) (mvT hZ (hw _ (own_w 98 rfl))) (by decide) (backOf (W := 0) (own_escByte l Z a0 hw [] a1 va kv (9 : Int32) [(.int (own_b8 (92 : Int32))), (.int (own_b8 (120 : Int32))), (.int (own_b8 (own_hx (v0 / (16 : Int32))))), (.int (own_b8 (own_hx (v0 % (16 : Int32))))), (.int (own_b8 (92 : Int32))), (.int (own_b8 (120 : Int32))), (.int (own_b8 (own_hx (v1 / (16 : Int32))))), (.int (own_b8 (own_hx (v1 % (16 : Int32))))), (.int (own_b8 v2))] (0 : Int32) v0 (own_b8 (120 : Int32)) (own_b8 (own_hx (v0 / (16 : Int32)))) (own_b8 (own_hx (v0 % (16 : Int32)))) zc vS h2 n0 O E_a1 F_value_a1 F_coder_a1 V_va (by decide) rfl (by decide) (by decide) rfl (own_b255 (own_hxB (own_hi bd0.1 bd0.2).2.1 (own_hi bd0.1 bd0.2).2.2).1 (own_hxB (own_hi bd0.1 bd0.2).2.1 (own_hi bd0.1 bd0.2).2.2).2) (by decide) rfl (own_b255 (own_hxB (own_lo bd0.1 bd0.2).2.1 (own_lo bd0.1 bd0.2).2.2).1 (own_hxB (own_lo bd0.1 bd0.2).2.1 (own_lo bd0.1 bd0.2).2.2).2) bd0 S_C hzc S_S hvS) hZ (hw _ (own_w 98 rfl)) (hw _ (own_w 31 rfl)) (by decide) (by decide)) (g := (mkF m 35 (own_A10 a1 b1 0 0 92) [(.int 0), (.ref a1)])) rfl (by rw [hml]; rfl) (argsL := [(.ref a1), (.int 0)]) (rest := []) (lenOf own_pd10 rfl) rfl (by show 2 * 0 + _ ≤ _; exact Nat.le_of_eq rfl) (hb hby ep10m3_d35) (fun _ _ => ⟨rfl, eT, (by decide : 1 + 0 ≤ _), (by decide : 9 + 0 ≤ _)⟩)
  dsimp only [Pt.U, Pt.locs, Pt.cells, Pt.slots] at X lq yq zq st hQ
  subst lq yq zq
  obtain ⟨rfl, Nq, eT⟩ := hQ
  replace N := Fr.app N Nq
  refine own_via (g' := (mkF m 38 (own_A10 a1 b1 0 0 92) [(.int v0)])) st ?_
  refine own_via (g' := (mkF m 69 (own_A8 a1 b1 ((0 : Int32) + (1 : Int32)) 0 92 v0) [(.int (v0.toInt8.toInt32)), (.int 0), (.ref b1)])) (fun t_ k_ => XS.istore X.here hx rfl (hb hby ep10m3_d38) rfl (l' := (own_A8 a1 b1 0 0 92 v0)) rfl (XS.iload X.here hx rfl (hb hby ep10m3_d40) rfl (XS.ifYes X.here hx rfl (pc0 := 42) (pc' := 61) rfl (hb hby ep10m3_d42) rfl ((if0 _ _).trans (flt (own_nn bd0.1)).2.1) (by decide) (by decide) (XS.aloadN X.here hx rfl (hb hby ep10m3_d61) rfl rfl (XS.iloadN X.here hx rfl (hb hby ep10m3_d62) rfl (XS.iinc X.here hx rfl (hb hby ep10m3_d63) rfl (l' := (own_A8 a1 b1 ((0 : Int32) + (1 : Int32)) 0 92 v0)) rfl (XS.iload X.here hx rfl (hb hby ep10m3_d66) rfl (XS.i2b X.here hx rfl (hb hby ep10m3_d68) rfl k_)))))))) ?_
  obtain ⟨cl_, Ar_, qk_, Sz_, Nn_, Hs_, Gs_⟩ := id V_b1
  have hin_ : ¬ ((0 : Int32) < 0 ∨ cl_.slots.size ≤ ((0 : Int32)).toNatClampNeg) := inb_of Sz_ ⟨by decide, by decide⟩
  obtain ⟨T, h3, X, eT, W, st⟩ := stB X hx hZ eT Ar_ (j := (0 : Int32)) hin_ (g := (mkF m 69 (own_A8 a1 b1 ((0 : Int32) + (1 : Int32)) 0 92 v0) [(.int (v0.toInt8.toInt32)), (.int 0), (.ref b1)])) rfl rfl (hb hby ep10m3_d69)
  replace V_b1 : Arv Z h3 b1 kb1 .byte (9 : Int32) [(.int (((v0.toInt8.toInt32)).toInt8.toInt32)), (.int 0), (.int 0), (.int 0), (.int 0), (.int 0), (.int 0), (.int 0), (.int 0)] (.int 0) := Arv.set Ar_ qk_ Sz_ Nn_ Hs_ Gs_ (fits_nar_byte _) W 0 (by decide) (Nat.le_of_ble_eq_true rfl)
  replace E_a1 := E_a1.wr W
  replace F_value_a1 := F_value_a1.other W (Or.inl ne_a1_b1)
  replace F_coder_a1 := F_coder_a1.other W (Or.inl ne_a1_b1)
  replace V_va := V_va.other W ne_va_b1
  replace E_b1 := E_b1.wr W
  replace O := O.wr W g_b1
  replace K0 := K0.wr W (Or.inr sz_b1)
  replace N := Fr.snoc X N g_b1
  refine own_via (g' := (mkF m 70 (own_A8 a1 b1 ((0 : Int32) + (1 : Int32)) 0 92 v0) [])) st ?_
  refine own_via (g' := (mkF m 11 (own_A8 a1 b1 ((0 : Int32) + (1 : Int32)) (((0 : Int32) + (3 : Int32)) + (1 : Int32)) 92 v0) [])) (fun t_ k_ => XS.iinc X.here hx rfl (hb hby ep10m3_d70) rfl (l' := (own_A8 a1 b1 ((0 : Int32) + (1 : Int32)) ((0 : Int32) + (3 : Int32)) 92 v0)) rfl (XS.goto X.here hx rfl (pc0 := 73) (pc' := 136) rfl (hb hby ep10m3_d73) (by decide) (by decide) (XS.iinc X.here hx rfl (hb hby ep10m3_d136) rfl (l' := (own_A8 a1 b1 ((0 : Int32) + (1 : Int32)) (((0 : Int32) + (3 : Int32)) + (1 : Int32)) 92 v0)) rfl (XS.goto X.here hx rfl (pc0 := 139) (pc' := 11) rfl (hb hby ep10m3_d139) (by decide) (by decide) k_)))) ?_
  rw [(by decide : ((0 : Int32) + (1 : Int32)) = (1 : Int32))]
  rw [(by decide : (((0 : Int32) + (3 : Int32)) + (1 : Int32)) = (4 : Int32))]
  refine own_via (g' := (mkF m 13 (own_A8 a1 b1 1 4 92 v0) [(.ref a1), (.int 4)])) (fun t_ k_ => XS.iloadN X.here hx rfl (hb hby ep10m3_d11) rfl (XS.aloadN X.here hx rfl (hb hby ep10m3_d12) rfl rfl k_)) ?_
  obtain ⟨cq, kq, qa, qb, qc⟩ := isOf hZ eT E_a1
  obtain ⟨_, _, ⟨T, Lq, kq, nq⟩, -, X, ⟨Lc, hQ, lq, yq, zq⟩, st⟩ := X.virtualBack hx (y := own_y6) (z := own_y6) hown (mvT hZ (hw _ (own_w 33 rfl))) (mvT hZ (hw _ (own_w 34 rfl))) (notFace_of_selects (args := #[]) (mvT hZ (hw _ (own_w 36 rfl)))) (mvT hZ (hw _ (own_w 36 rfl))) (mvT hZ (hw _ (own_w 35 rfl))) (by decide) (backOf (W := 1) (own_strlen l Z a0 hw [] a1 va kv (9 : Int32) [(.int (own_b8 (92 : Int32))), (.int (own_b8 (120 : Int32))), (.int (own_b8 (own_hx (v0 / (16 : Int32))))), (.int (own_b8 (own_hx (v0 % (16 : Int32))))), (.int (own_b8 (92 : Int32))), (.int (own_b8 (120 : Int32))), (.int (own_b8 (own_hx (v1 / (16 : Int32))))), (.int (own_b8 (own_hx (v1 % (16 : Int32))))), (.int (own_b8 v2))] zc h3 n0 O E_a1 F_value_a1 F_coder_a1 V_va S_C hzc) hZ (hw _ (own_w 37 rfl)) (hw _ (own_w 10 rfl)) (by decide) (by decide)) qa qc (g := (mkF m 13 (own_A8 a1 b1 1 4 92 v0) [(.ref a1), (.int 4)])) rfl (by rw [hml]; rfl) (Steps.refl _) (argsL := []) (rest := [(.int 4)]) (lenOf own_pd6 rfl) rfl (by show 2 * 0 + _ ≤ _; exact Nat.le_of_eq rfl) (hb hby ep10m3_d13) (fun _ _ => ⟨rfl, eT, (by decide : 1 + 0 ≤ _), (by decide : 9 + 0 ≤ _)⟩)
  dsimp only [Pt.U, Pt.locs, Pt.cells, Pt.slots] at X lq yq zq st hQ
  subst lq yq zq
  obtain ⟨rfl, Nq, eT⟩ := hQ
  replace N := Fr.app N Nq
  refine own_viaT (g' := (mkF m 16 (own_A8 a1 b1 1 4 92 v0) [(.int 9), (.int 4)])) st ?_
  refine own_via (g' := (mkF m 21 (own_A8 a1 b1 1 4 92 v0) [(.int 4), (.ref a1)])) (fun t_ k_ => XS.icmpNo X.here hx rfl (hb hby ep10m3_d16) rfl (tlt (by decide : (4 : Int32) < (9 : Int32))).2.1 (XS.aloadN X.here hx rfl (hb hby ep10m3_d19) rfl rfl (XS.iloadN X.here hx rfl (hb hby ep10m3_d20) rfl k_))) ?_
  obtain ⟨cq, kq, qa, qb, qc⟩ := isOf hZ eT E_a1
  obtain ⟨_, _, ⟨T, Lq, kq, nq⟩, -, X, ⟨Lc, hQ, lq, yq, zq⟩, st⟩ := X.virtualBack hx (y := own_y7) (z := own_y7) hown (mvT hZ (hw _ (own_w 74 rfl))) (mvT hZ (hw _ (own_w 75 rfl))) (notFace_of_selects (args := #[]) (mvT hZ (hw _ (own_w 77 rfl)))) (mvT hZ (hw _ (own_w 77 rfl))) (mvT hZ (hw _ (own_w 76 rfl))) (by decide) (backOf (W := 0) (own_charAt l Z a0 hw [] a1 (4 : Int32) va kv (9 : Int32) [(.int (own_b8 (92 : Int32))), (.int (own_b8 (120 : Int32))), (.int (own_b8 (own_hx (v0 / (16 : Int32))))), (.int (own_b8 (own_hx (v0 % (16 : Int32))))), (.int (own_b8 (92 : Int32))), (.int (own_b8 (120 : Int32))), (.int (own_b8 (own_hx (v1 / (16 : Int32))))), (.int (own_b8 (own_hx (v1 % (16 : Int32))))), (.int (own_b8 v2))] (own_b8 (92 : Int32)) zc vS h3 n0 O E_a1 F_value_a1 F_coder_a1 V_va S_C hzc (by decide) rfl S_S hvS) hZ (hw _ (own_w 78 rfl)) (hw _ (own_w 10 rfl)) (by decide) (by decide)) qa qc (g := (mkF m 21 (own_A8 a1 b1 1 4 92 v0) [(.int 4), (.ref a1)])) rfl (by rw [hml]; rfl) (Steps.refl _) (argsL := [(.int 4)]) (rest := []) (lenOf own_pd7 rfl) rfl (by show 2 * 0 + _ ≤ _; exact Nat.le_of_eq rfl) (hb hby ep10m3_d21) (fun _ _ => ⟨rfl, eT, (by decide : 1 + 0 ≤ _), (by decide : 9 + 0 ≤ _)⟩)
  dsimp only [Pt.U, Pt.locs, Pt.cells, Pt.slots] at X lq yq zq st hQ
  subst lq yq zq
  obtain ⟨rfl, Nq, eT⟩ := hQ
  replace N := Fr.app N Nq
  refine own_viaT (g' := (mkF m 24 (own_A8 a1 b1 1 4 92 v0) [(.int ((own_b8 (92 : Int32)) &&& (255 : Int32)))])) st ?_
  rw [(by decide : ((own_b8 (92 : Int32)) &&& (255 : Int32)) = (92 : Int32))]
  refine own_via (g' := (mkF m 35 (own_A8 a1 b1 1 4 92 v0) [(.int 4), (.ref a1)])) (fun t_ k_ => XS.istore X.here hx rfl (hb hby ep10m3_d24) rfl (l' := (own_A8 a1 b1 1 4 92 v0)) rfl (XS.iload X.here hx rfl (hb hby ep10m3_d26) rfl (XS.bipush X.here hx rfl (hb hby ep10m3_d28) (XS.icmpNo X.here hx rfl (hb hby ep10m3_d30) rfl (teq (by decide : (92 : Int32) = (92 : Int32))).2 (XS.aloadN X.here hx rfl (hb hby ep10m3_d33) rfl rfl (XS.iloadN X.here hx rfl (hb hby ep10m3_d34) rfl k_)))))) ?_
  obtain ⟨_, _, ⟨T, Lq, kq, nq⟩, -, X, ⟨Lc, hQ, lq, yq, zq⟩, st⟩ := Jvm.LawKit.callS X hx (y := own_y10) hown (mvT hZ (hw _ (own_w 96 rfl))) (mvT hZ (hw _ (own_w 97 rfl))) (mvT hZ (hw _ (own_w 31 rfl))) (mvT hZ (hw _ (own_w 98 rfl))) (by decide) (backOf (W := 0) (own_escByte l Z a0 hw [] a1 va kv (9 : Int32) [(.int (own_b8 (92 : Int32))), (.int (own_b8 (120 : Int32))), (.int (own_b8 (own_hx (v0 / (16 : Int32))))), (.int (own_b8 (own_hx (v0 % (16 : Int32))))), (.int (own_b8 (92 : Int32))), (.int (own_b8 (120 : Int32))), (.int (own_b8 (own_hx (v1 / (16 : Int32))))), (.int (own_b8 (own_hx (v1 % (16 : Int32))))), (.int (own_b8 v2))] (4 : Int32) v1 (own_b8 (120 : Int32)) (own_b8 (own_hx (v1 / (16 : Int32)))) (own_b8 (own_hx (v1 % (16 : Int32)))) zc vS h3 n0 O E_a1 F_value_a1 F_coder_a1 V_va (by decide) rfl (by decide) (by decide) rfl (own_b255 (own_hxB (own_hi bd1.1 bd1.2).2.1 (own_hi bd1.1 bd1.2).2.2).1 (own_hxB (own_hi bd1.1 bd1.2).2.1 (own_hi bd1.1 bd1.2).2.2).2) (by decide) rfl (own_b255 (own_hxB (own_lo bd1.1 bd1.2).2.1 (own_lo bd1.1 bd1.2).2.2).1 (own_hxB (own_lo bd1.1 bd1.2).2.1 (own_lo bd1.1 bd1.2).2.2).2) bd1 S_C hzc S_S hvS) hZ (hw _ (own_w 98 rfl)) (hw _ (own_w 31 rfl)) (by decide) (by decide)) (g := (mkF m 35 (own_A8 a1 b1 1 4 92 v0) [(.int 4), (.ref a1)])) rfl (by rw [hml]; rfl) (argsL := [(.ref a1), (.int 4)]) (rest := []) (lenOf own_pd10 rfl) rfl (by show 2 * 0 + _ ≤ _; exact Nat.le_of_eq rfl) (hb hby ep10m3_d35) (fun _ _ => ⟨rfl, eT, (by decide : 1 + 0 ≤ _), (by decide : 9 + 0 ≤ _)⟩)
  dsimp only [Pt.U, Pt.locs, Pt.cells, Pt.slots] at X lq yq zq st hQ
  subst lq yq zq
  obtain ⟨rfl, Nq, eT⟩ := hQ
  replace N := Fr.app N Nq
  refine own_via (g' := (mkF m 38 (own_A8 a1 b1 1 4 92 v0) [(.int v1)])) st ?_
  refine own_via (g' := (mkF m 69 (own_A8 a1 b1 ((1 : Int32) + (1 : Int32)) 4 92 v1) [(.int (v1.toInt8.toInt32)), (.int 1), (.ref b1)])) (fun t_ k_ => XS.istore X.here hx rfl (hb hby ep10m3_d38) rfl (l' := (own_A8 a1 b1 1 4 92 v1)) rfl (XS.iload X.here hx rfl (hb hby ep10m3_d40) rfl (XS.ifYes X.here hx rfl (pc0 := 42) (pc' := 61) rfl (hb hby ep10m3_d42) rfl ((if0 _ _).trans (flt (own_nn bd1.1)).2.1) (by decide) (by decide) (XS.aloadN X.here hx rfl (hb hby ep10m3_d61) rfl rfl (XS.iloadN X.here hx rfl (hb hby ep10m3_d62) rfl (XS.iinc X.here hx rfl (hb hby ep10m3_d63) rfl (l' := (own_A8 a1 b1 ((1 : Int32) + (1 : Int32)) 4 92 v1)) rfl (XS.iload X.here hx rfl (hb hby ep10m3_d66) rfl (XS.i2b X.here hx rfl (hb hby ep10m3_d68) rfl k_)))))))) ?_
  obtain ⟨cl_, Ar_, qk_, Sz_, Nn_, Hs_, Gs_⟩ := id V_b1
  have hin_ : ¬ ((1 : Int32) < 0 ∨ cl_.slots.size ≤ ((1 : Int32)).toNatClampNeg) := inb_of Sz_ ⟨by decide, by decide⟩
  obtain ⟨T, h4, X, eT, W, st⟩ := stB X hx hZ eT Ar_ (j := (1 : Int32)) hin_ (g := (mkF m 69 (own_A8 a1 b1 ((1 : Int32) + (1 : Int32)) 4 92 v1) [(.int (v1.toInt8.toInt32)), (.int 1), (.ref b1)])) rfl rfl (hb hby ep10m3_d69)
  replace V_b1 : Arv Z h4 b1 kb1 .byte (9 : Int32) [(.int (((v0.toInt8.toInt32)).toInt8.toInt32)), (.int (((v1.toInt8.toInt32)).toInt8.toInt32)), (.int 0), (.int 0), (.int 0), (.int 0), (.int 0), (.int 0), (.int 0)] (.int 0) := Arv.set Ar_ qk_ Sz_ Nn_ Hs_ Gs_ (fits_nar_byte _) W 1 (by decide) (Nat.le_of_ble_eq_true rfl)
  replace E_a1 := E_a1.wr W
  replace F_value_a1 := F_value_a1.other W (Or.inl ne_a1_b1)
  replace F_coder_a1 := F_coder_a1.other W (Or.inl ne_a1_b1)
  replace V_va := V_va.other W ne_va_b1
  replace E_b1 := E_b1.wr W
  replace O := O.wr W g_b1
  replace K0 := K0.wr W (Or.inr sz_b1)
  replace N := Fr.snoc X N g_b1
  refine own_via (g' := (mkF m 70 (own_A8 a1 b1 ((1 : Int32) + (1 : Int32)) 4 92 v1) [])) st ?_
  refine own_via (g' := (mkF m 11 (own_A8 a1 b1 ((1 : Int32) + (1 : Int32)) (((4 : Int32) + (3 : Int32)) + (1 : Int32)) 92 v1) [])) (fun t_ k_ => XS.iinc X.here hx rfl (hb hby ep10m3_d70) rfl (l' := (own_A8 a1 b1 ((1 : Int32) + (1 : Int32)) ((4 : Int32) + (3 : Int32)) 92 v1)) rfl (XS.goto X.here hx rfl (pc0 := 73) (pc' := 136) rfl (hb hby ep10m3_d73) (by decide) (by decide) (XS.iinc X.here hx rfl (hb hby ep10m3_d136) rfl (l' := (own_A8 a1 b1 ((1 : Int32) + (1 : Int32)) (((4 : Int32) + (3 : Int32)) + (1 : Int32)) 92 v1)) rfl (XS.goto X.here hx rfl (pc0 := 139) (pc' := 11) rfl (hb hby ep10m3_d139) (by decide) (by decide) k_)))) ?_
  rw [(by decide : ((1 : Int32) + (1 : Int32)) = (2 : Int32))]
  rw [(by decide : (((4 : Int32) + (3 : Int32)) + (1 : Int32)) = (8 : Int32))]
  refine own_via (g' := (mkF m 13 (own_A8 a1 b1 2 8 92 v1) [(.ref a1), (.int 8)])) (fun t_ k_ => XS.iloadN X.here hx rfl (hb hby ep10m3_d11) rfl (XS.aloadN X.here hx rfl (hb hby ep10m3_d12) rfl rfl k_)) ?_
  obtain ⟨cq, kq, qa, qb, qc⟩ := isOf hZ eT E_a1
  obtain ⟨_, _, ⟨T, Lq, kq, nq⟩, -, X, ⟨Lc, hQ, lq, yq, zq⟩, st⟩ := X.virtualBack hx (y := own_y6) (z := own_y6) hown (mvT hZ (hw _ (own_w 33 rfl))) (mvT hZ (hw _ (own_w 34 rfl))) (notFace_of_selects (args := #[]) (mvT hZ (hw _ (own_w 36 rfl)))) (mvT hZ (hw _ (own_w 36 rfl))) (mvT hZ (hw _ (own_w 35 rfl))) (by decide) (backOf (W := 1) (own_strlen l Z a0 hw [] a1 va kv (9 : Int32) [(.int (own_b8 (92 : Int32))), (.int (own_b8 (120 : Int32))), (.int (own_b8 (own_hx (v0 / (16 : Int32))))), (.int (own_b8 (own_hx (v0 % (16 : Int32))))), (.int (own_b8 (92 : Int32))), (.int (own_b8 (120 : Int32))), (.int (own_b8 (own_hx (v1 / (16 : Int32))))), (.int (own_b8 (own_hx (v1 % (16 : Int32))))), (.int (own_b8 v2))] zc h4 n0 O E_a1 F_value_a1 F_coder_a1 V_va S_C hzc) hZ (hw _ (own_w 37 rfl)) (hw _ (own_w 10 rfl)) (by decide) (by decide)) qa qc (g := (mkF m 13 (own_A8 a1 b1 2 8 92 v1) [(.ref a1), (.int 8)])) rfl (by rw [hml]; rfl) (Steps.refl _) (argsL := []) (rest := [(.int 8)]) (lenOf own_pd6 rfl) rfl (by show 2 * 0 + _ ≤ _; exact Nat.le_of_eq rfl) (hb hby ep10m3_d13) (fun _ _ => ⟨rfl, eT, (by decide : 1 + 0 ≤ _), (by decide : 9 + 0 ≤ _)⟩)
  dsimp only [Pt.U, Pt.locs, Pt.cells, Pt.slots] at X lq yq zq st hQ
  subst lq yq zq
  obtain ⟨rfl, Nq, eT⟩ := hQ
  replace N := Fr.app N Nq
  refine own_viaT (g' := (mkF m 16 (own_A8 a1 b1 2 8 92 v1) [(.int 9), (.int 8)])) st ?_
  refine own_via (g' := (mkF m 21 (own_A8 a1 b1 2 8 92 v1) [(.int 8), (.ref a1)])) (fun t_ k_ => XS.icmpNo X.here hx rfl (hb hby ep10m3_d16) rfl (tlt (by decide : (8 : Int32) < (9 : Int32))).2.1 (XS.aloadN X.here hx rfl (hb hby ep10m3_d19) rfl rfl (XS.iloadN X.here hx rfl (hb hby ep10m3_d20) rfl k_))) ?_
  obtain ⟨cq, kq, qa, qb, qc⟩ := isOf hZ eT E_a1
  obtain ⟨_, _, ⟨T, Lq, kq, nq⟩, -, X, ⟨Lc, hQ, lq, yq, zq⟩, st⟩ := X.virtualBack hx (y := own_y7) (z := own_y7) hown (mvT hZ (hw _ (own_w 74 rfl))) (mvT hZ (hw _ (own_w 75 rfl))) (notFace_of_selects (args := #[]) (mvT hZ (hw _ (own_w 77 rfl)))) (mvT hZ (hw _ (own_w 77 rfl))) (mvT hZ (hw _ (own_w 76 rfl))) (by decide) (backOf (W := 0) (own_charAt l Z a0 hw [] a1 (8 : Int32) va kv (9 : Int32) [(.int (own_b8 (92 : Int32))), (.int (own_b8 (120 : Int32))), (.int (own_b8 (own_hx (v0 / (16 : Int32))))), (.int (own_b8 (own_hx (v0 % (16 : Int32))))), (.int (own_b8 (92 : Int32))), (.int (own_b8 (120 : Int32))), (.int (own_b8 (own_hx (v1 / (16 : Int32))))), (.int (own_b8 (own_hx (v1 % (16 : Int32))))), (.int (own_b8 v2))] (own_b8 v2) zc vS h4 n0 O E_a1 F_value_a1 F_coder_a1 V_va S_C hzc (by decide) rfl S_S hvS) hZ (hw _ (own_w 78 rfl)) (hw _ (own_w 10 rfl)) (by decide) (by decide)) qa qc (g := (mkF m 21 (own_A8 a1 b1 2 8 92 v1) [(.int 8), (.ref a1)])) rfl (by rw [hml]; rfl) (Steps.refl _) (argsL := [(.int 8)]) (rest := []) (lenOf own_pd7 rfl) rfl (by show 2 * 0 + _ ≤ _; exact Nat.le_of_eq rfl) (hb hby ep10m3_d21) (fun _ _ => ⟨rfl, eT, (by decide : 1 + 0 ≤ _), (by decide : 9 + 0 ≤ _)⟩)
  dsimp only [Pt.U, Pt.locs, Pt.cells, Pt.slots] at X lq yq zq st hQ
  subst lq yq zq
  obtain ⟨rfl, Nq, eT⟩ := hQ
  replace N := Fr.app N Nq
  refine own_viaT (g' := (mkF m 24 (own_A8 a1 b1 2 8 92 v1) [(.int ((own_b8 v2) &&& (255 : Int32)))])) st ?_
  rw [own_b255 bd2.1 bd2.2]
  refine own_via (g' := (mkF m 90 (own_A8 a1 b1 2 8 v2 v1) [])) (fun t_ k_ => XS.istore X.here hx rfl (hb hby ep10m3_d24) rfl (l' := (own_A8 a1 b1 2 8 v2 v1)) rfl (XS.iload X.here hx rfl (hb hby ep10m3_d26) rfl (XS.bipush X.here hx rfl (hb hby ep10m3_d28) (XS.icmpYes X.here hx rfl (pc0 := 30) (pc' := 76) rfl (hb hby ep10m3_d30) rfl (feq pp2.1).2 (by decide) (by decide) (XS.iload X.here hx rfl (hb hby ep10m3_d76) rfl (XS.bipush X.here hx rfl (hb hby ep10m3_d78) (XS.icmpNo X.here hx rfl (hb hby ep10m3_d80) rfl (flt pp2.2.1).1 (XS.iload X.here hx rfl (hb hby ep10m3_d83) rfl (XS.bipush X.here hx rfl (hb hby ep10m3_d85) (XS.icmpNo X.here hx rfl (hb hby ep10m3_d87) rfl (flt pp2.2.2).2.2.1 k_)))))))))) ?_
  refine own_via (g' := (mkF m 98 (own_A8 a1 b1 ((2 : Int32) + (1 : Int32)) 8 v2 v1) [(.int (v2.toInt8.toInt32)), (.int 2), (.ref b1)])) (fun t_ k_ => XS.aloadN X.here hx rfl (hb hby ep10m3_d90) rfl rfl (XS.iloadN X.here hx rfl (hb hby ep10m3_d91) rfl (XS.iinc X.here hx rfl (hb hby ep10m3_d92) rfl (l' := (own_A8 a1 b1 ((2 : Int32) + (1 : Int32)) 8 v2 v1)) rfl (XS.iload X.here hx rfl (hb hby ep10m3_d95) rfl (XS.i2b X.here hx rfl (hb hby ep10m3_d97) rfl k_))))) ?_
  obtain ⟨cl_, Ar_, qk_, Sz_, Nn_, Hs_, Gs_⟩ := id V_b1
  have hin_ : ¬ ((2 : Int32) < 0 ∨ cl_.slots.size ≤ ((2 : Int32)).toNatClampNeg) := inb_of Sz_ ⟨by decide, by decide⟩
  obtain ⟨T, h5, X, eT, W, st⟩ := stB X hx hZ eT Ar_ (j := (2 : Int32)) hin_ (g := (mkF m 98 (own_A8 a1 b1 ((2 : Int32) + (1 : Int32)) 8 v2 v1) [(.int (v2.toInt8.toInt32)), (.int 2), (.ref b1)])) rfl rfl (hb hby ep10m3_d98)
  replace V_b1 : Arv Z h5 b1 kb1 .byte (9 : Int32) [(.int (((v0.toInt8.toInt32)).toInt8.toInt32)), (.int (((v1.toInt8.toInt32)).toInt8.toInt32)), (.int (((v2.toInt8.toInt32)).toInt8.toInt32)), (.int 0), (.int 0), (.int 0), (.int 0), (.int 0), (.int 0)] (.int 0) := Arv.set Ar_ qk_ Sz_ Nn_ Hs_ Gs_ (fits_nar_byte _) W 2 (by decide) (Nat.le_of_ble_eq_true rfl)
  replace E_a1 := E_a1.wr W
  replace F_value_a1 := F_value_a1.other W (Or.inl ne_a1_b1)
  replace F_coder_a1 := F_coder_a1.other W (Or.inl ne_a1_b1)
  replace V_va := V_va.other W ne_va_b1
  replace E_b1 := E_b1.wr W
  replace O := O.wr W g_b1
  replace K0 := K0.wr W (Or.inr sz_b1)
  replace N := Fr.snoc X N g_b1
  refine own_via (g' := (mkF m 99 (own_A8 a1 b1 ((2 : Int32) + (1 : Int32)) 8 v2 v1) [])) st ?_
  refine own_via (g' := (mkF m 11 (own_A8 a1 b1 ((2 : Int32) + (1 : Int32)) ((8 : Int32) + (1 : Int32)) v2 v1) [])) (fun t_ k_ => XS.goto X.here hx rfl (pc0 := 99) (pc' := 136) rfl (hb hby ep10m3_d99) (by decide) (by decide) (XS.iinc X.here hx rfl (hb hby ep10m3_d136) rfl (l' := (own_A8 a1 b1 ((2 : Int32) + (1 : Int32)) ((8 : Int32) + (1 : Int32)) v2 v1)) rfl (XS.goto X.here hx rfl (pc0 := 139) (pc' := 11) rfl (hb hby ep10m3_d139) (by decide) (by decide) k_))) ?_
  rw [(by decide : ((2 : Int32) + (1 : Int32)) = (3 : Int32))]
  rw [(by decide : ((8 : Int32) + (1 : Int32)) = (9 : Int32))]
  refine own_via (g' := (mkF m 13 (own_A8 a1 b1 3 9 v2 v1) [(.ref a1), (.int 9)])) (fun t_ k_ => XS.iloadN X.here hx rfl (hb hby ep10m3_d11) rfl (XS.aloadN X.here hx rfl (hb hby ep10m3_d12) rfl rfl k_)) ?_
  obtain ⟨cq, kq, qa, qb, qc⟩ := isOf hZ eT E_a1
  obtain ⟨_, _, ⟨T, Lq, kq, nq⟩, -, X, ⟨Lc, hQ, lq, yq, zq⟩, st⟩ := X.virtualBack hx (y := own_y6) (z := own_y6) hown (mvT hZ (hw _ (own_w 33 rfl))) (mvT hZ (hw _ (own_w 34 rfl))) (notFace_of_selects (args := #[]) (mvT hZ (hw _ (own_w 36 rfl)))) (mvT hZ (hw _ (own_w 36 rfl))) (mvT hZ (hw _ (own_w 35 rfl))) (by decide) (backOf (W := 1) (own_strlen l Z a0 hw [] a1 va kv (9 : Int32) [(.int (own_b8 (92 : Int32))), (.int (own_b8 (120 : Int32))), (.int (own_b8 (own_hx (v0 / (16 : Int32))))), (.int (own_b8 (own_hx (v0 % (16 : Int32))))), (.int (own_b8 (92 : Int32))), (.int (own_b8 (120 : Int32))), (.int (own_b8 (own_hx (v1 / (16 : Int32))))), (.int (own_b8 (own_hx (v1 % (16 : Int32))))), (.int (own_b8 v2))] zc h5 n0 O E_a1 F_value_a1 F_coder_a1 V_va S_C hzc) hZ (hw _ (own_w 37 rfl)) (hw _ (own_w 10 rfl)) (by decide) (by decide)) qa qc (g := (mkF m 13 (own_A8 a1 b1 3 9 v2 v1) [(.ref a1), (.int 9)])) rfl (by rw [hml]; rfl) (Steps.refl _) (argsL := []) (rest := [(.int 9)]) (lenOf own_pd6 rfl) rfl (by show 2 * 0 + _ ≤ _; exact Nat.le_of_eq rfl) (hb hby ep10m3_d13) (fun _ _ => ⟨rfl, eT, (by decide : 1 + 0 ≤ _), (by decide : 9 + 0 ≤ _)⟩)
  dsimp only [Pt.U, Pt.locs, Pt.cells, Pt.slots] at X lq yq zq st hQ
  subst lq yq zq
  obtain ⟨rfl, Nq, eT⟩ := hQ
  replace N := Fr.app N Nq
  refine own_viaT (g' := (mkF m 16 (own_A8 a1 b1 3 9 v2 v1) [(.int 9), (.int 9)])) st ?_
  refine own_via (g' := (mkF m 144 (own_A8 a1 b1 3 9 v2 v1) [(.int 3), (.ref b1)])) (fun t_ k_ => XS.icmpYes X.here hx rfl (pc0 := 16) (pc' := 142) rfl (hb hby ep10m3_d16) rfl (flt (by decide : ¬ ((9 : Int32) < (9 : Int32)))).2.1 (by decide) (by decide) (XS.aloadN X.here hx rfl (hb hby ep10m3_d142) rfl rfl (XS.iloadN X.here hx rfl (hb hby ep10m3_d143) rfl k_))) ?_
  replace V_b1 : Arv Z h5 b1 kb1 .byte (9 : Int32) [(.int (own_sb v0)), (.int (own_sb v1)), (.int (own_sb v2))] (.int 0) := V_b1.pad (fun i => (pad_rep [(.int (own_sb v0)), (.int (own_sb v1)), (.int (own_sb v2))] (.int 0) 6 i).symm)
  obtain ⟨_, _, ⟨T, Lq, kq, nq⟩, -, X, ⟨Lc, hQ, lq, yq, zq⟩, st⟩ := Jvm.LawKit.callS X hx (y := own_y9) hown (mvT hZ (hw _ (own_w 44 rfl))) (mvT hZ (hw _ (own_w 45 rfl))) (mvT hZ (hw _ (own_w 46 rfl))) (mvT hZ (hw _ (own_w 47 rfl))) (by decide) (backOf (W := 0) (own_copyOf l Z a0 hw [] b1 kb1 (3 : Int32) (9 : Int32) [(.int (own_sb v0)), (.int (own_sb v1)), (.int (own_sb v2))] h5 n0 O E_b1 V_b1 (by decide) rfl) hZ (hw _ (own_w 47 rfl)) (hw _ (own_w 46 rfl)) (by decide) (by decide)) (g := (mkF m 144 (own_A8 a1 b1 3 9 v2 v1) [(.int 3), (.ref b1)])) rfl (by rw [hml]; rfl) (argsL := [(.ref b1), (.int 3)]) (rest := []) (lenOf own_pd9 rfl) rfl (by show 2 * 0 + _ ≤ _; exact Nat.le_of_eq rfl) (hb hby ep10m3_d144) (fun _ _ => ⟨rfl, eT, (by decide : 1 + 1 ≤ _), (by decide : 9 + 12 ≤ _)⟩)
  dsimp only [Pt.U, Pt.locs, Pt.cells, Pt.slots] at X lq yq zq st hQ
  subst lq yq zq
  obtain ⟨bn, kbn, rfl, Nq, Kq, szq, V_bn, E_bn⟩ := hQ
  replace N := Fr.app N Nq
  obtain ⟨h6, eT⟩ : ∃ z, T.heap = z := ⟨_, rfl⟩
  rw [eT] at Kq V_bn E_bn
  have ne_a1_bn : a1 ≠ bn := Nat.ne_of_lt (Nat.lt_of_lt_of_le E_a1.lt szq)
  have ne_b1_bn : b1 ≠ bn := Nat.ne_of_lt (Nat.lt_of_lt_of_le E_b1.lt szq)
  have ne_va_bn : va ≠ bn := Nat.ne_of_lt (Nat.lt_of_lt_of_le V_va.lt szq)
  have g_bn : n0 ≤ bn := Nat.le_trans (own_le O) szq
  have sz_bn : h0.size ≤ bn := Nat.le_trans K0.1 szq
  replace E_a1 := E_a1.keep Kq
  replace F_value_a1 := F_value_a1.keep Kq nin0
  replace F_coder_a1 := F_coder_a1.keep Kq nin0
  replace V_va := V_va.keep Kq nin0
  replace E_b1 := E_b1.keep Kq
  replace V_b1 := V_b1.keep Kq nin0
  replace O := O.keep Kq all0
  replace K0 := K0.trans Kq all0
  refine own_via (g' := (mkF m 147 (own_A8 a1 b1 3 9 v2 v1) [(.ref bn)])) st ?_
  refine own_retW X hx hlk Bd.returns rfl (Or.inr (Or.inr (Or.inr (Or.inr ⟨rfl, rfl, rfl⟩)))) (hb hby ep10m3_d147) (by decide) (by decide) ?_
  rw [eT]
  exact ⟨bn, kbn, rfl, N, K0, sz_bn, V_bn, E_bn⟩
theorem own_unEEE_pn : plainFor (⟨"com/example/rows_to_regions/rowstoregions/KeyText", "unescape", "(Ljava/lang/String;)[B"⟩ : MethodName) = true := by first | exact plainFor_of_name (by first | (simp [plainName, overriddenIn]; done) | decide +kernel) | decide +kernel | exact Jvm.Free.JP.mathPlain rfl (by decide +kernel)
theorem own_unEEE_ef (m : MethodId) (x0 : Addr) : entryFrame m #[(.ref x0)] 6 = mkF m 0 #[.val (.ref x0), .unset, .unset, .unset, .unset, .unset] [] := by first | (simp [entryFrame, mkF, argsToLocals, Value.category]; done) | rfl
def own_unEEE_Q (Z : State) (a1 : Addr) (va : Addr) (kv : ClassId) (v0 : Int32) (v1 : Int32) (v2 : Int32) (zc : Int32) (vS : Value) (h0 : Heap) (n0 : Nat) (v : Option Value) (h : Heap) (L : List Loc) : Prop := ∃ b kb, v = some (.ref b) ∧ Fr n0 L ∧ Keep h0 h [] ∧ h0.size ≤ b ∧ Arv Z h b kb .byte (3 : Int32) [(.int (own_sb v0)), (.int (own_sb v1)), (.int (own_sb v2))] (.int 0) ∧ Exa Z h b "[B"
set_option maxRecDepth 65536 in
set_option maxHeartbeats 40000000 in
theorem own_unEEE (l : Launch) (Z : State) (a0 : Array Value) (hw : ∀ d ∈ tables_1, d.before a0 Z = true) (ws : List Jvm.Cond) (a1 : Addr) (va : Addr) (kv : ClassId) (v0 : Int32) (v1 : Int32) (v2 : Int32) (zc : Int32) (vS : Value) (h0 : Heap) (n0 : Nat) (O : Old Z n0 h0) (E_a1 : Exa Z h0 a1 "java/lang/String") (F_value_a1 : Fld Z h0 a1 "java/lang/String" "value" "[B" (.ref va)) (F_coder_a1 : Fld Z h0 a1 "java/lang/String" "coder" "B" (.int 0)) (V_va : Arv Z h0 va kv .byte (12 : Int32) [(.int (own_b8 (92 : Int32))), (.int (own_b8 (120 : Int32))), (.int (own_b8 (own_hx (v0 / (16 : Int32))))), (.int (own_b8 (own_hx (v0 % (16 : Int32))))), (.int (own_b8 (92 : Int32))), (.int (own_b8 (120 : Int32))), (.int (own_b8 (own_hx (v1 / (16 : Int32))))), (.int (own_b8 (own_hx (v1 % (16 : Int32))))), (.int (own_b8 (92 : Int32))), (.int (own_b8 (120 : Int32))), (.int (own_b8 (own_hx (v2 / (16 : Int32))))), (.int (own_b8 (own_hx (v2 % (16 : Int32)))))] (.int 0)) (bd0 : 0 ≤ v0.toInt ∧ v0.toInt < 256) (bd1 : 0 ≤ v1.toInt ∧ v1.toInt < 256) (bd2 : 0 ≤ v2.toInt ∧ v2.toInt < 256) (S_C : Sta Z Z.heap "java/lang/String" "COMPACT_STRINGS" "Z" (.int zc)) (hzc : ¬ zc = 0) (S_S : Sta Z Z.heap "jdk/internal/util/Preconditions" "SIOOBE_FORMATTER" "Ljava/util/function/BiFunction;" vS) (hvS : vS.isRef = true) :
    MetFree l (⟨"com/example/rows_to_regions/rowstoregions/KeyText", "unescape", "(Ljava/lang/String;)[B"⟩ : MethodName) (head1 (Jvm.Cond.code (⟨"com/example/rows_to_regions/rowstoregions/KeyText", "unescape", "(Ljava/lang/String;)[B"⟩ : MethodName) prog_10_method_3_code 6 (some (.array .byte)) :: ws) ({ frames := 5, cells := 2, slots := 24, locals := 68 } : Room)) (fun a U => a = #[(.ref a1)] ∧ Z.Warmed39 U.vm ∧ U.heap = h0) (fun _ _ _ _ _ => True) (fun _ U o U' => ∃ v L, o = .returned v ∧ own_unEEE_Q Z a1 va kv v0 v1 v2 zc vS h0 n0 v U'.heap L ∧ FrameEnd U o U' L ({ frames := 5, cells := 2, slots := 24, locals := 68 } : Room).cells ({ frames := 5, cells := 2, slots := 24, locals := 68 } : Room).slots) := by
  refine MetFree.of_bodySF own_unEEE_pn hisR ?_
  intro p e s m args below meth c s₁ Bd hml0 hP hK
  obtain ⟨rfl, hZ, hh⟩ := hP
  have hx := Bd.exec
  have hby := Bd.bytes
  have hlk := Bd.notSynchronized
  have hml : c.maxLocals = 6 := hml0
  have hown : s.vm.findClass "com/example/rows_to_regions/rowstoregions/KeyText" = some m.cls := findClass_of_methodNamed Bd.named
  have hnm := (name_of_methodNamed Bd.named Bd.method).1
  have X : Stand p l e ({ frames := 5, cells := 2, slots := 24, locals := 68 } : Room) s m #[(.ref a1)] below meth c s₁ [] 0 0 := Stand.of_body Bd
  have eT : s₁.heap = h0 := by rw [← hh, Bd.state]; rfl
  have N := Fr.nil n0
  have K0 := Keep.refl h0 []
  show own_Ends p e below (own_Post s below (own_unEEE_Q Z a1 va kv v0 v1 v2 zc vS h0 n0) ({ frames := 5, cells := 2, slots := 24, locals := 68 } : Room).cells ({ frames := 5, cells := 2, slots := 24, locals := 68 } : Room).slots) s₁ (entryFrame m #[(.ref a1)] 6)
  rw [own_unEEE_ef m a1]
  obtain ⟨T, hT⟩ : ∃ z, z = s₁ := ⟨_, rfl⟩
  rw [← hT] at X eT ⊢
  obtain ⟨h, hh0⟩ : ∃ z, z = h0 := ⟨_, rfl⟩
  rw [← hh0] at eT
  replace O : Old Z n0 h := by rw [hh0]; exact O
  replace K0 : Keep h0 h [] := by rw [hh0]; exact K0
  rw [← hh0] at E_a1
  rw [← hh0] at F_value_a1
  rw [← hh0] at F_coder_a1
  rw [← hh0] at V_va
  refine own_via (g' := (mkF m 1 (own_A19 a1) [(.ref a1)])) (fun t_ k_ => XS.aloadN X.here hx rfl (hb hby ep10m3_d0) rfl rfl k_) ?_
  obtain ⟨cq, kq, qa, qb, qc⟩ := isOf hZ eT E_a1
  obtain ⟨_, _, ⟨T, Lq, kq, nq⟩, -, X, ⟨Lc, hQ, lq, yq, zq⟩, st⟩ := X.virtualBack hx (y := own_y6) (z := own_y6) hown (mvT hZ (hw _ (own_w 33 rfl))) (mvT hZ (hw _ (own_w 34 rfl))) (notFace_of_selects (args := #[]) (mvT hZ (hw _ (own_w 36 rfl)))) (mvT hZ (hw _ (own_w 36 rfl))) (mvT hZ (hw _ (own_w 35 rfl))) (by decide) (backOf (W := 0) (own_strlen l Z a0 hw [] a1 va kv (12 : Int32) [(.int (own_b8 (92 : Int32))), (.int (own_b8 (120 : Int32))), (.int (own_b8 (own_hx (v0 / (16 : Int32))))), (.int (own_b8 (own_hx (v0 % (16 : Int32))))), (.int (own_b8 (92 : Int32))), (.int (own_b8 (120 : Int32))), (.int (own_b8 (own_hx (v1 / (16 : Int32))))), (.int (own_b8 (own_hx (v1 % (16 : Int32))))), (.int (own_b8 (92 : Int32))), (.int (own_b8 (120 : Int32))), (.int (own_b8 (own_hx (v2 / (16 : Int32))))), (.int (own_b8 (own_hx (v2 % (16 : Int32)))))] zc h n0 O E_a1 F_value_a1 F_coder_a1 V_va S_C hzc) hZ (hw _ (own_w 37 rfl)) (hw _ (own_w 10 rfl)) (by decide) (by decide)) qa qc (g := (mkF m 1 (own_A19 a1) [(.ref a1)])) rfl (by rw [hml]; rfl) (Steps.refl _) (argsL := []) (rest := []) (lenOf own_pd6 rfl) rfl (by show 2 * 0 + _ ≤ _; exact Nat.le_of_eq rfl) (hb hby ep10m3_d1) (fun _ _ => ⟨rfl, eT, (by decide : 0 + 0 ≤ _), (by decide : 0 + 0 ≤ _)⟩)
  dsimp only [Pt.U, Pt.locs, Pt.cells, Pt.slots] at X lq yq zq st hQ
  subst lq yq zq
  obtain ⟨rfl, Nq, eT⟩ := hQ
  replace N := Fr.app N Nq
  refine own_viaT (g' := (mkF m 4 (own_A19 a1) [(.int 12)])) st ?_
  obtain ⟨b1, gb⟩ : ∃ z, z = h.size := ⟨_, rfl⟩
  obtain ⟨T, h2, kb1, X, eT, E, A_, E_b1, st⟩ := newPE X hx hZ (hw _ (own_w 22 rfl)) eT (g := (mkF m 4 (own_A19 a1) [(.int 12)])) rfl (hb hby ep10m3_d4) rfl (by decide) (cap := 12) (by decide) (by decide) (by decide) (by decide) (ad := "[B") (by decide)
  rw [← gb] at A_ E_b1 st
  have ne_a1_b1 : a1 ≠ b1 := Nat.ne_of_lt (Nat.lt_of_lt_of_le E_a1.lt (Nat.le_of_eq gb.symm))
  have ne_va_b1 : va ≠ b1 := Nat.ne_of_lt (Nat.lt_of_lt_of_le V_va.lt (Nat.le_of_eq gb.symm))
  have g_b1 : n0 ≤ b1 := Nat.le_trans (own_le O) (Nat.le_of_eq gb.symm)
  have sz_b1 : h0.size ≤ b1 := Nat.le_trans K0.1 (Nat.le_of_eq gb.symm)
  replace E_a1 := E_a1.ext E
  replace F_value_a1 := F_value_a1.ext E
  replace F_coder_a1 := F_coder_a1.ext E
  replace V_va := V_va.ext E
  replace O := O.ext E
  replace K0 := K0.ext E
  have V_b1 : Arv Z h2 b1 kb1 .byte (12 : Int32) [(.int 0), (.int 0), (.int 0), (.int 0), (.int 0), (.int 0), (.int 0), (.int 0), (.int 0), (.int 0), (.int 0), (.int 0)] (.int 0) := (Arv.new A_ (by decide)).pad (pad_rep [] (.int 0) 12)
  refine own_via (g' := (mkF m 6 (own_A19 a1) [(.ref b1)])) st ?_
  refine own_via (g' := (mkF m 13 (own_A15 a1 b1 0 0) [(.ref a1), (.int 0)])) (fun t_ k_ => XS.astoreN X.here hx rfl (hb hby ep10m3_d6) rfl rfl (l' := (own_A18 a1 b1)) rfl (XS.iconst X.here hx rfl (hb hby ep10m3_d7) (XS.istoreN X.here hx rfl (hb hby ep10m3_d8) rfl (l' := (own_A17 a1 b1 0)) rfl (XS.iconst X.here hx rfl (hb hby ep10m3_d9) (XS.istoreN X.here hx rfl (hb hby ep10m3_d10) rfl (l' := (own_A15 a1 b1 0 0)) rfl (XS.iloadN X.here hx rfl (hb hby ep10m3_d11) rfl (XS.aloadN X.here hx rfl (hb hby ep10m3_d12) rfl rfl k_))))))) ?_
  obtain ⟨cq, kq, qa, qb, qc⟩ := isOf hZ eT E_a1
  obtain ⟨_, _, ⟨T, Lq, kq, nq⟩, -, X, ⟨Lc, hQ, lq, yq, zq⟩, st⟩ := X.virtualBack hx (y := own_y6) (z := own_y6) hown (mvT hZ (hw _ (own_w 33 rfl))) (mvT hZ (hw _ (own_w 34 rfl))) (notFace_of_selects (args := #[]) (mvT hZ (hw _ (own_w 36 rfl)))) (mvT hZ (hw _ (own_w 36 rfl))) (mvT hZ (hw _ (own_w 35 rfl))) (by decide) (backOf (W := 1) (own_strlen l Z a0 hw [] a1 va kv (12 : Int32) [(.int (own_b8 (92 : Int32))), (.int (own_b8 (120 : Int32))), (.int (own_b8 (own_hx (v0 / (16 : Int32))))), (.int (own_b8 (own_hx (v0 % (16 : Int32))))), (.int (own_b8 (92 : Int32))), (.int (own_b8 (120 : Int32))), (.int (own_b8 (own_hx (v1 / (16 : Int32))))), (.int (own_b8 (own_hx (v1 % (16 : Int32))))), (.int (own_b8 (92 : Int32))), (.int (own_b8 (120 : Int32))), (.int (own_b8 (own_hx (v2 / (16 : Int32))))), (.int (own_b8 (own_hx (v2 % (16 : Int32)))))] zc h2 n0 O E_a1 F_value_a1 F_coder_a1 V_va S_C hzc) hZ (hw _ (own_w 37 rfl)) (hw _ (own_w 10 rfl)) (by decide) (by decide)) qa qc (g := (mkF m 13 (own_A15 a1 b1 0 0) [(.ref a1), (.int 0)])) rfl (by rw [hml]; rfl) (Steps.refl _) (argsL := []) (rest := [(.int 0)]) (lenOf own_pd6 rfl) rfl (by show 2 * 0 + _ ≤ _; exact Nat.le_of_eq rfl) (hb hby ep10m3_d13) (fun _ _ => ⟨rfl, eT, (by decide : 1 + 0 ≤ _), (by decide : 12 + 0 ≤ _)⟩)
  dsimp only [Pt.U, Pt.locs, Pt.cells, Pt.slots] at X lq yq zq st hQ
  subst lq yq zq
  obtain ⟨rfl, Nq, eT⟩ := hQ
  replace N := Fr.app N Nq
  refine own_viaT (g' := (mkF m 16 (own_A15 a1 b1 0 0) [(.int 12), (.int 0)])) st ?_
  refine own_via (g' := (mkF m 21 (own_A15 a1 b1 0 0) [(.int 0), (.ref a1)])) (fun t_ k_ => XS.icmpNo X.here hx rfl (hb hby ep10m3_d16) rfl (tlt (by decide : (0 : Int32) < (12 : Int32))).2.1 (XS.aloadN X.here hx rfl (hb hby ep10m3_d19) rfl rfl (XS.iloadN X.here hx rfl (hb hby ep10m3_d20) rfl k_))) ?_
  obtain ⟨cq, kq, qa, qb, qc⟩ := isOf hZ eT E_a1
  obtain ⟨_, _, ⟨T, Lq, kq, nq⟩, -, X, ⟨Lc, hQ, lq, yq, zq⟩, st⟩ := X.virtualBack hx (y := own_y7) (z := own_y7) hown (mvT hZ (hw _ (own_w 74 rfl))) (mvT hZ (hw _ (own_w 75 rfl))) (notFace_of_selects (args := #[]) (mvT hZ (hw _ (own_w 77 rfl)))) (mvT hZ (hw _ (own_w 77 rfl))) (mvT hZ (hw _ (own_w 76 rfl))) (by decide) (backOf (W := 0) (own_charAt l Z a0 hw [] a1 (0 : Int32) va kv (12 : Int32) [(.int (own_b8 (92 : Int32))), (.int (own_b8 (120 : Int32))), (.int (own_b8 (own_hx (v0 / (16 : Int32))))), (.int (own_b8 (own_hx (v0 % (16 : Int32))))), (.int (own_b8 (92 : Int32))), (.int (own_b8 (120 : Int32))), (.int (own_b8 (own_hx (v1 / (16 : Int32))))), (.int (own_b8 (own_hx (v1 % (16 : Int32))))), (.int (own_b8 (92 : Int32))), (.int (own_b8 (120 : Int32))), (.int (own_b8 (own_hx (v2 / (16 : Int32))))), (.int (own_b8 (own_hx (v2 % (16 : Int32)))))] (own_b8 (92 : Int32)) zc vS h2 n0 O E_a1 F_value_a1 F_coder_a1 V_va S_C hzc (by decide) rfl S_S hvS) hZ (hw _ (own_w 78 rfl)) (hw _ (own_w 10 rfl)) (by decide) (by decide)) qa qc (g := (mkF m 21 (own_A15 a1 b1 0 0) [(.int 0), (.ref a1)])) rfl (by rw [hml]; rfl) (Steps.refl _) (argsL := [(.int 0)]) (rest := []) (lenOf own_pd7 rfl) rfl (by show 2 * 0 + _ ≤ _; exact Nat.le_of_eq rfl) (hb hby ep10m3_d21) (fun _ _ => ⟨rfl, eT, (by decide : 1 + 0 ≤ _), (by decide : 12 + 0 ≤ _)⟩)
  dsimp only [Pt.U, Pt.locs, Pt.cells, Pt.slots] at X lq yq zq st hQ
  subst lq yq zq
  obtain ⟨rfl, Nq, eT⟩ := hQ
  replace N := Fr.app N Nq
  refine own_viaT (g' := (mkF m 24 (own_A15 a1 b1 0 0) [(.int ((own_b8 (92 : Int32)) &&& (255 : Int32)))])) st ?_
  rw [(by decide : ((own_b8 (92 : Int32)) &&& (255 : Int32)) = (92 : Int32))]
  refine own_via (g' := (mkF m 35 (own_A10 a1 b1 0 0 92) [(.int 0), (.ref a1)])) (fun t_ k_ => XS.istore X.here hx rfl (hb hby ep10m3_d24) rfl (l' := (own_A10 a1 b1 0 0 92)) rfl (XS.iload X.here hx rfl (hb hby ep10m3_d26) rfl (XS.bipush X.here hx rfl (hb hby ep10m3_d28) (XS.icmpNo X.here hx rfl (hb hby ep10m3_d30) rfl (teq (by decide : (92 : Int32) = (92 : Int32))).2 (XS.aloadN X.here hx rfl (hb hby ep10m3_d33) rfl rfl (XS.iloadN X.here hx rfl (hb hby ep10m3_d34) rfl k_)))))) ?_
  obtain ⟨_, _, ⟨T, Lq, kq, nq⟩, -, X, ⟨Lc, hQ, lq, yq, zq⟩, st⟩ := Jvm.LawKit.callS X hx (y := own_y10) hown (mvT hZ (hw _ (own_w 96 rfl))) (mvT hZ (hw _ (own_w 97 rfl))) (mvT hZ (hw _ (own_w 31 rfl))) (mvT hZ (hw _ (own_w 98 rfl))) (by decide) (backOf (W := 0) (own_escByte l Z a0 hw [] a1 va kv (12 : Int32) [(.int (own_b8 (92 : Int32))), (.int (own_b8 (120 : Int32))), (.int (own_b8 (own_hx (v0 / (16 : Int32))))), (.int (own_b8 (own_hx (v0 % (16 : Int32))))), (.int (own_b8 (92 : Int32))), (.int (own_b8 (120 : Int32))), (.int (own_b8 (own_hx (v1 / (16 : Int32))))), (.int (own_b8 (own_hx (v1 % (16 : Int32))))), (.int (own_b8 (92 : Int32))), (.int (own_b8 (120 : Int32))), (.int (own_b8 (own_hx (v2 / (16 : Int32))))), (.int (own_b8 (own_hx (v2 % (16 : Int32)))))] (0 : Int32) v0 (own_b8 (120 : Int32)) (own_b8 (own_hx (v0 / (16 : Int32)))) (own_b8 (own_hx (v0 % (16 : Int32)))) zc vS h2 n0 O E_a1 F_value_a1 F_coder_a1 V_va (by decide) rfl (by decide) (by decide) rfl (own_b255 (own_hxB (own_hi bd0.1 bd0.2).2.1 (own_hi bd0.1 bd0.2).2.2).1 (own_hxB (own_hi bd0.1 bd0.2).2.1 (own_hi bd0.1 bd0.2).2.2).2) (by decide) rfl (own_b255 (own_hxB (own_lo bd0.1 bd0.2).2.1 (own_lo bd0.1 bd0.2).2.2).1 (own_hxB (own_lo bd0.1 bd0.2).2.1 (own_lo bd0.1 bd0.2).2.2).2) bd0 S_C hzc S_S hvS) hZ (hw _ (own_w 98 rfl)) (hw _ (own_w 31 rfl)) (by decide) (by decide)) (g := (mkF m 35 (own_A10 a1 b1 0 0 92) [(.int 0), (.ref a1)])) rfl (by rw [hml]; rfl) (argsL := [(.ref a1), (.int 0)]) (rest := []) (lenOf own_pd10 rfl) rfl (by show 2 * 0 + _ ≤ _; exact Nat.le_of_eq rfl) (hb hby ep10m3_d35) (fun _ _ => ⟨rfl, eT, (by decide : 1 + 0 ≤ _), (by decide : 12 + 0 ≤ _)⟩)
  dsimp only [Pt.U, Pt.locs, Pt.cells, Pt.slots] at X lq yq zq st hQ
  subst lq yq zq
  obtain ⟨rfl, Nq, eT⟩ := hQ
  replace N := Fr.app N Nq
  refine own_via (g' := (mkF m 38 (own_A10 a1 b1 0 0 92) [(.int v0)])) st ?_
  refine own_via (g' := (mkF m 69 (own_A8 a1 b1 ((0 : Int32) + (1 : Int32)) 0 92 v0) [(.int (v0.toInt8.toInt32)), (.int 0), (.ref b1)])) (fun t_ k_ => XS.istore X.here hx rfl (hb hby ep10m3_d38) rfl (l' := (own_A8 a1 b1 0 0 92 v0)) rfl (XS.iload X.here hx rfl (hb hby ep10m3_d40) rfl (XS.ifYes X.here hx rfl (pc0 := 42) (pc' := 61) rfl (hb hby ep10m3_d42) rfl ((if0 _ _).trans (flt (own_nn bd0.1)).2.1) (by decide) (by decide) (XS.aloadN X.here hx rfl (hb hby ep10m3_d61) rfl rfl (XS.iloadN X.here hx rfl (hb hby ep10m3_d62) rfl (XS.iinc X.here hx rfl (hb hby ep10m3_d63) rfl (l' := (own_A8 a1 b1 ((0 : Int32) + (1 : Int32)) 0 92 v0)) rfl (XS.iload X.here hx rfl (hb hby ep10m3_d66) rfl (XS.i2b X.here hx rfl (hb hby ep10m3_d68) rfl k_)))))))) ?_
  obtain ⟨cl_, Ar_, qk_, Sz_, Nn_, Hs_, Gs_⟩ := id V_b1
  have hin_ : ¬ ((0 : Int32) < 0 ∨ cl_.slots.size ≤ ((0 : Int32)).toNatClampNeg) := inb_of Sz_ ⟨by decide, by decide⟩
  obtain ⟨T, h3, X, eT, W, st⟩ := stB X hx hZ eT Ar_ (j := (0 : Int32)) hin_ (g := (mkF m 69 (own_A8 a1 b1 ((0 : Int32) + (1 : Int32)) 0 92 v0) [(.int (v0.toInt8.toInt32)), (.int 0), (.ref b1)])) rfl rfl (hb hby ep10m3_d69)
  replace V_b1 : Arv Z h3 b1 kb1 .byte (12 : Int32) [(.int (((v0.toInt8.toInt32)).toInt8.toInt32)), (.int 0), (.int 0), (.int 0), (.int 0), (.int 0), (.int 0), (.int 0), (.int 0), (.int 0), (.int 0), (.int 0)] (.int 0) := Arv.set Ar_ qk_ Sz_ Nn_ Hs_ Gs_ (fits_nar_byte _) W 0 (by decide) (Nat.le_of_ble_eq_true rfl)
  replace E_a1 := E_a1.wr W
  replace F_value_a1 := F_value_a1.other W (Or.inl ne_a1_b1)
  replace F_coder_a1 := F_coder_a1.other W (Or.inl ne_a1_b1)
  replace V_va := V_va.other W ne_va_b1
  replace E_b1 := E_b1.wr W
  replace O := O.wr W g_b1
  replace K0 := K0.wr W (Or.inr sz_b1)
  replace N := Fr.snoc X N g_b1
  refine own_via (g' := (mkF m 70 (own_A8 a1 b1 ((0 : Int32) + (1 : Int32)) 0 92 v0) [])) st ?_
  refine own_via (g' := (mkF m 11 (own_A8 a1 b1 ((0 : Int32) + (1 : Int32)) (((0 : Int32) + (3 : Int32)) + (1 : Int32)) 92 v0) [])) (fun t_ k_ => XS.iinc X.here hx rfl (hb hby ep10m3_d70) rfl (l' := (own_A8 a1 b1 ((0 : Int32) + (1 : Int32)) ((0 : Int32) + (3 : Int32)) 92 v0)) rfl (XS.goto X.here hx rfl (pc0 := 73) (pc' := 136) rfl (hb hby ep10m3_d73) (by decide) (by decide) (XS.iinc X.here hx rfl (hb hby ep10m3_d136) rfl (l' := (own_A8 a1 b1 ((0 : Int32) + (1 : Int32)) (((0 : Int32) + (3 : Int32)) + (1 : Int32)) 92 v0)) rfl (XS.goto X.here hx rfl (pc0 := 139) (pc' := 11) rfl (hb hby ep10m3_d139) (by decide) (by decide) k_)))) ?_
  rw [(by decide : ((0 : Int32) + (1 : Int32)) = (1 : Int32))]
  rw [(by decide : (((0 : Int32) + (3 : Int32)) + (1 : Int32)) = (4 : Int32))]
  refine own_via (g' := (mkF m 13 (own_A8 a1 b1 1 4 92 v0) [(.ref a1), (.int 4)])) (fun t_ k_ => XS.iloadN X.here hx rfl (hb hby ep10m3_d11) rfl (XS.aloadN X.here hx rfl (hb hby ep10m3_d12) rfl rfl k_)) ?_
  obtain ⟨cq, kq, qa, qb, qc⟩ := isOf hZ eT E_a1
  obtain ⟨_, _, ⟨T, Lq, kq, nq⟩, -, X, ⟨Lc, hQ, lq, yq, zq⟩, st⟩ := X.virtualBack hx (y := own_y6) (z := own_y6) hown (mvT hZ (hw _ (own_w 33 rfl))) (mvT hZ (hw _ (own_w 34 rfl))) (notFace_of_selects (args := #[]) (mvT hZ (hw _ (own_w 36 rfl)))) (mvT hZ (hw _ (own_w 36 rfl))) (mvT hZ (hw _ (own_w 35 rfl))) (by decide) (backOf (W := 1) (own_strlen l Z a0 hw [] a1 va kv (12 : Int32) [(.int (own_b8 (92 : Int32))), (.int (own_b8 (120 : Int32))), (.int (own_b8 (own_hx (v0 / (16 : Int32))))), (.int (own_b8 (own_hx (v0 % (16 : Int32))))), (.int (own_b8 (92 : Int32))), (.int (own_b8 (120 : Int32))), (.int (own_b8 (own_hx (v1 / (16 : Int32))))), (.int (own_b8 (own_hx (v1 % (16 : Int32))))), (.int (own_b8 (92 : Int32))), (.int (own_b8 (120 : Int32))), (.int (own_b8 (own_hx (v2 / (16 : Int32))))), (.int (own_b8 (own_hx (v2 % (16 : Int32)))))] zc h3 n0 O E_a1 F_value_a1 F_coder_a1 V_va S_C hzc) hZ (hw _ (own_w 37 rfl)) (hw _ (own_w 10 rfl)) (by decide) (by decide)) qa qc (g := (mkF m 13 (own_A8 a1 b1 1 4 92 v0) [(.ref a1), (.int 4)])) rfl (by rw [hml]; rfl) (Steps.refl _) (argsL := []) (rest := [(.int 4)]) (lenOf own_pd6 rfl) rfl (by show 2 * 0 + _ ≤ _; exact Nat.le_of_eq rfl) (hb hby ep10m3_d13) (fun _ _ => ⟨rfl, eT, (by decide : 1 + 0 ≤ _), (by decide : 12 + 0 ≤ _)⟩)
  dsimp only [Pt.U, Pt.locs, Pt.cells, Pt.slots] at X lq yq zq st hQ
  subst lq yq zq
  obtain ⟨rfl, Nq, eT⟩ := hQ
  replace N := Fr.app N Nq
  refine own_viaT (g' := (mkF m 16 (own_A8 a1 b1 1 4 92 v0) [(.int 12), (.int 4)])) st ?_
  refine own_via (g' := (mkF m 21 (own_A8 a1 b1 1 4 92 v0) [(.int 4), (.ref a1)])) (fun t_ k_ => XS.icmpNo X.here hx rfl (hb hby ep10m3_d16) rfl (tlt (by decide : (4 : Int32) < (12 : Int32))).2.1 (XS.aloadN X.here hx rfl (hb hby ep10m3_d19) rfl rfl (XS.iloadN X.here hx rfl (hb hby ep10m3_d20) rfl k_))) ?_
  obtain ⟨cq, kq, qa, qb, qc⟩ := isOf hZ eT E_a1
  obtain ⟨_, _, ⟨T, Lq, kq, nq⟩, -, X, ⟨Lc, hQ, lq, yq, zq⟩, st⟩ := X.virtualBack hx (y := own_y7) (z := own_y7) hown (mvT hZ (hw _ (own_w 74 rfl))) (mvT hZ (hw _ (own_w 75 rfl))) (notFace_of_selects (args := #[]) (mvT hZ (hw _ (own_w 77 rfl)))) (mvT hZ (hw _ (own_w 77 rfl))) (mvT hZ (hw _ (own_w 76 rfl))) (by decide) (backOf (W := 0) (own_charAt l Z a0 hw [] a1 (4 : Int32) va kv (12 : Int32) [(.int (own_b8 (92 : Int32))), (.int (own_b8 (120 : Int32))), (.int (own_b8 (own_hx (v0 / (16 : Int32))))), (.int (own_b8 (own_hx (v0 % (16 : Int32))))), (.int (own_b8 (92 : Int32))), (.int (own_b8 (120 : Int32))), (.int (own_b8 (own_hx (v1 / (16 : Int32))))), (.int (own_b8 (own_hx (v1 % (16 : Int32))))), (.int (own_b8 (92 : Int32))), (.int (own_b8 (120 : Int32))), (.int (own_b8 (own_hx (v2 / (16 : Int32))))), (.int (own_b8 (own_hx (v2 % (16 : Int32)))))] (own_b8 (92 : Int32)) zc vS h3 n0 O E_a1 F_value_a1 F_coder_a1 V_va S_C hzc (by decide) rfl S_S hvS) hZ (hw _ (own_w 78 rfl)) (hw _ (own_w 10 rfl)) (by decide) (by decide)) qa qc (g := (mkF m 21 (own_A8 a1 b1 1 4 92 v0) [(.int 4), (.ref a1)])) rfl (by rw [hml]; rfl) (Steps.refl _) (argsL := [(.int 4)]) (rest := []) (lenOf own_pd7 rfl) rfl (by show 2 * 0 + _ ≤ _; exact Nat.le_of_eq rfl) (hb hby ep10m3_d21) (fun _ _ => ⟨rfl, eT, (by decide : 1 + 0 ≤ _), (by decide : 12 + 0 ≤ _)⟩)
  dsimp only [Pt.U, Pt.locs, Pt.cells, Pt.slots] at X lq yq zq st hQ
  subst lq yq zq
  obtain ⟨rfl, Nq, eT⟩ := hQ
  replace N := Fr.app N Nq
  refine own_viaT (g' := (mkF m 24 (own_A8 a1 b1 1 4 92 v0) [(.int ((own_b8 (92 : Int32)) &&& (255 : Int32)))])) st ?_
  rw [(by decide : ((own_b8 (92 : Int32)) &&& (255 : Int32)) = (92 : Int32))]
  refine own_via (g' := (mkF m 35 (own_A8 a1 b1 1 4 92 v0) [(.int 4), (.ref a1)])) (fun t_ k_ => XS.istore X.here hx rfl (hb hby ep10m3_d24) rfl (l' := (own_A8 a1 b1 1 4 92 v0)) rfl (XS.iload X.here hx rfl (hb hby ep10m3_d26) rfl (XS.bipush X.here hx rfl (hb hby ep10m3_d28) (XS.icmpNo X.here hx rfl (hb hby ep10m3_d30) rfl (teq (by decide : (92 : Int32) = (92 : Int32))).2 (XS.aloadN X.here hx rfl (hb hby ep10m3_d33) rfl rfl (XS.iloadN X.here hx rfl (hb hby ep10m3_d34) rfl k_)))))) ?_
  obtain ⟨_, _, ⟨T, Lq, kq, nq⟩, -, X, ⟨Lc, hQ, lq, yq, zq⟩, st⟩ := Jvm.LawKit.callS X hx (y := own_y10) hown (mvT hZ (hw _ (own_w 96 rfl))) (mvT hZ (hw _ (own_w 97 rfl))) (mvT hZ (hw _ (own_w 31 rfl))) (mvT hZ (hw _ (own_w 98 rfl))) (by decide) (backOf (W := 0) (own_escByte l Z a0 hw [] a1 va kv (12 : Int32) [(.int (own_b8 (92 : Int32))), (.int (own_b8 (120 : Int32))), (.int (own_b8 (own_hx (v0 / (16 : Int32))))), (.int (own_b8 (own_hx (v0 % (16 : Int32))))), (.int (own_b8 (92 : Int32))), (.int (own_b8 (120 : Int32))), (.int (own_b8 (own_hx (v1 / (16 : Int32))))), (.int (own_b8 (own_hx (v1 % (16 : Int32))))), (.int (own_b8 (92 : Int32))), (.int (own_b8 (120 : Int32))), (.int (own_b8 (own_hx (v2 / (16 : Int32))))), (.int (own_b8 (own_hx (v2 % (16 : Int32)))))] (4 : Int32) v1 (own_b8 (120 : Int32)) (own_b8 (own_hx (v1 / (16 : Int32)))) (own_b8 (own_hx (v1 % (16 : Int32)))) zc vS h3 n0 O E_a1 F_value_a1 F_coder_a1 V_va (by decide) rfl (by decide) (by decide) rfl (own_b255 (own_hxB (own_hi bd1.1 bd1.2).2.1 (own_hi bd1.1 bd1.2).2.2).1 (own_hxB (own_hi bd1.1 bd1.2).2.1 (own_hi bd1.1 bd1.2).2.2).2) (by decide) rfl (own_b255 (own_hxB (own_lo bd1.1 bd1.2).2.1 (own_lo bd1.1 bd1.2).2.2).1 (own_hxB (own_lo bd1.1 bd1.2).2.1 (own_lo bd1.1 bd1.2).2.2).2) bd1 S_C hzc S_S hvS) hZ (hw _ (own_w 98 rfl)) (hw _ (own_w 31 rfl)) (by decide) (by decide)) (g := (mkF m 35 (own_A8 a1 b1 1 4 92 v0) [(.int 4), (.ref a1)])) rfl (by rw [hml]; rfl) (argsL := [(.ref a1), (.int 4)]) (rest := []) (lenOf own_pd10 rfl) rfl (by show 2 * 0 + _ ≤ _; exact Nat.le_of_eq rfl) (hb hby ep10m3_d35) (fun _ _ => ⟨rfl, eT, (by decide : 1 + 0 ≤ _), (by decide : 12 + 0 ≤ _)⟩)
  dsimp only [Pt.U, Pt.locs, Pt.cells, Pt.slots] at X lq yq zq st hQ
  subst lq yq zq
  obtain ⟨rfl, Nq, eT⟩ := hQ
  replace N := Fr.app N Nq
  refine own_via (g' := (mkF m 38 (own_A8 a1 b1 1 4 92 v0) [(.int v1)])) st ?_
  refine own_via (g' := (mkF m 69 (own_A8 a1 b1 ((1 : Int32) + (1 : Int32)) 4 92 v1) [(.int (v1.toInt8.toInt32)), (.int 1), (.ref b1)])) (fun t_ k_ => XS.istore X.here hx rfl (hb hby ep10m3_d38) rfl (l' := (own_A8 a1 b1 1 4 92 v1)) rfl (XS.iload X.here hx rfl (hb hby ep10m3_d40) rfl (XS.ifYes X.here hx rfl (pc0 := 42) (pc' := 61) rfl (hb hby ep10m3_d42) rfl ((if0 _ _).trans (flt (own_nn bd1.1)).2.1) (by decide) (by decide) (XS.aloadN X.here hx rfl (hb hby ep10m3_d61) rfl rfl (XS.iloadN X.here hx rfl (hb hby ep10m3_d62) rfl (XS.iinc X.here hx rfl (hb hby ep10m3_d63) rfl (l' := (own_A8 a1 b1 ((1 : Int32) + (1 : Int32)) 4 92 v1)) rfl (XS.iload X.here hx rfl (hb hby ep10m3_d66) rfl (XS.i2b X.here hx rfl (hb hby ep10m3_d68) rfl k_)))))))) ?_
  obtain ⟨cl_, Ar_, qk_, Sz_, Nn_, Hs_, Gs_⟩ := id V_b1
  have hin_ : ¬ ((1 : Int32) < 0 ∨ cl_.slots.size ≤ ((1 : Int32)).toNatClampNeg) := inb_of Sz_ ⟨by decide, by decide⟩
  obtain ⟨T, h4, X, eT, W, st⟩ := stB X hx hZ eT Ar_ (j := (1 : Int32)) hin_ (g := (mkF m 69 (own_A8 a1 b1 ((1 : Int32) + (1 : Int32)) 4 92 v1) [(.int (v1.toInt8.toInt32)), (.int 1), (.ref b1)])) rfl rfl (hb hby ep10m3_d69)
  replace V_b1 : Arv Z h4 b1 kb1 .byte (12 : Int32) [(.int (((v0.toInt8.toInt32)).toInt8.toInt32)), (.int (((v1.toInt8.toInt32)).toInt8.toInt32)), (.int 0), (.int 0), (.int 0), (.int 0), (.int 0), (.int 0), (.int 0), (.int 0), (.int 0), (.int 0)] (.int 0) := Arv.set Ar_ qk_ Sz_ Nn_ Hs_ Gs_ (fits_nar_byte _) W 1 (by decide) (Nat.le_of_ble_eq_true rfl)
  replace E_a1 := E_a1.wr W
  replace F_value_a1 := F_value_a1.other W (Or.inl ne_a1_b1)
  replace F_coder_a1 := F_coder_a1.other W (Or.inl ne_a1_b1)
  replace V_va := V_va.other W ne_va_b1
  replace E_b1 := E_b1.wr W
  replace O := O.wr W g_b1
  replace K0 := K0.wr W (Or.inr sz_b1)
  replace N := Fr.snoc X N g_b1
  refine own_via (g' := (mkF m 70 (own_A8 a1 b1 ((1 : Int32) + (1 : Int32)) 4 92 v1) [])) st ?_
  refine own_via (g' := (mkF m 11 (own_A8 a1 b1 ((1 : Int32) + (1 : Int32)) (((4 : Int32) + (3 : Int32)) + (1 : Int32)) 92 v1) [])) (fun t_ k_ => XS.iinc X.here hx rfl (hb hby ep10m3_d70) rfl (l' := (own_A8 a1 b1 ((1 : Int32) + (1 : Int32)) ((4 : Int32) + (3 : Int32)) 92 v1)) rfl (XS.goto X.here hx rfl (pc0 := 73) (pc' := 136) rfl (hb hby ep10m3_d73) (by decide) (by decide) (XS.iinc X.here hx rfl (hb hby ep10m3_d136) rfl (l' := (own_A8 a1 b1 ((1 : Int32) + (1 : Int32)) (((4 : Int32) + (3 : Int32)) + (1 : Int32)) 92 v1)) rfl (XS.goto X.here hx rfl (pc0 := 139) (pc' := 11) rfl (hb hby ep10m3_d139) (by decide) (by decide) k_)))) ?_
  rw [(by decide : ((1 : Int32) + (1 : Int32)) = (2 : Int32))]
  rw [(by decide : (((4 : Int32) + (3 : Int32)) + (1 : Int32)) = (8 : Int32))]
  refine own_via (g' := (mkF m 13 (own_A8 a1 b1 2 8 92 v1) [(.ref a1), (.int 8)])) (fun t_ k_ => XS.iloadN X.here hx rfl (hb hby ep10m3_d11) rfl (XS.aloadN X.here hx rfl (hb hby ep10m3_d12) rfl rfl k_)) ?_
  obtain ⟨cq, kq, qa, qb, qc⟩ := isOf hZ eT E_a1
  obtain ⟨_, _, ⟨T, Lq, kq, nq⟩, -, X, ⟨Lc, hQ, lq, yq, zq⟩, st⟩ := X.virtualBack hx (y := own_y6) (z := own_y6) hown (mvT hZ (hw _ (own_w 33 rfl))) (mvT hZ (hw _ (own_w 34 rfl))) (notFace_of_selects (args := #[]) (mvT hZ (hw _ (own_w 36 rfl)))) (mvT hZ (hw _ (own_w 36 rfl))) (mvT hZ (hw _ (own_w 35 rfl))) (by decide) (backOf (W := 1) (own_strlen l Z a0 hw [] a1 va kv (12 : Int32) [(.int (own_b8 (92 : Int32))), (.int (own_b8 (120 : Int32))), (.int (own_b8 (own_hx (v0 / (16 : Int32))))), (.int (own_b8 (own_hx (v0 % (16 : Int32))))), (.int (own_b8 (92 : Int32))), (.int (own_b8 (120 : Int32))), (.int (own_b8 (own_hx (v1 / (16 : Int32))))), (.int (own_b8 (own_hx (v1 % (16 : Int32))))), (.int (own_b8 (92 : Int32))), (.int (own_b8 (120 : Int32))), (.int (own_b8 (own_hx (v2 / (16 : Int32))))), (.int (own_b8 (own_hx (v2 % (16 : Int32)))))] zc h4 n0 O E_a1 F_value_a1 F_coder_a1 V_va S_C hzc) hZ (hw _ (own_w 37 rfl)) (hw _ (own_w 10 rfl)) (by decide) (by decide)) qa qc (g := (mkF m 13 (own_A8 a1 b1 2 8 92 v1) [(.ref a1), (.int 8)])) rfl (by rw [hml]; rfl) (Steps.refl _) (argsL := []) (rest := [(.int 8)]) (lenOf own_pd6 rfl) rfl (by show 2 * 0 + _ ≤ _; exact Nat.le_of_eq rfl) (hb hby ep10m3_d13) (fun _ _ => ⟨rfl, eT, (by decide : 1 + 0 ≤ _), (by decide : 12 + 0 ≤ _)⟩)
  dsimp only [Pt.U, Pt.locs, Pt.cells, Pt.slots] at X lq yq zq st hQ
  subst lq yq zq
  obtain ⟨rfl, Nq, eT⟩ := hQ
  replace N := Fr.app N Nq
  refine own_viaT (g' := (mkF m 16 (own_A8 a1 b1 2 8 92 v1) [(.int 12), (.int 8)])) st ?_
  refine own_via (g' := (mkF m 21 (own_A8 a1 b1 2 8 92 v1) [(.int 8), (.ref a1)])) (fun t_ k_ => XS.icmpNo X.here hx rfl (hb hby ep10m3_d16) rfl (tlt (by decide : (8 : Int32) < (12 : Int32))).2.1 (XS.aloadN X.here hx rfl (hb hby ep10m3_d19) rfl rfl (XS.iloadN X.here hx rfl (hb hby ep10m3_d20) rfl k_))) ?_
  obtain ⟨cq, kq, qa, qb, qc⟩ := isOf hZ eT E_a1
  obtain ⟨_, _, ⟨T, Lq, kq, nq⟩, -, X, ⟨Lc, hQ, lq, yq, zq⟩, st⟩ := X.virtualBack hx (y := own_y7) (z := own_y7) hown (mvT hZ (hw _ (own_w 74 rfl))) (mvT hZ (hw _ (own_w 75 rfl))) (notFace_of_selects (args := #[]) (mvT hZ (hw _ (own_w 77 rfl)))) (mvT hZ (hw _ (own_w 77 rfl))) (mvT hZ (hw _ (own_w 76 rfl))) (by decide) (backOf (W := 0) (own_charAt l Z a0 hw [] a1 (8 : Int32) va kv (12 : Int32) [(.int (own_b8 (92 : Int32))), (.int (own_b8 (120 : Int32))), (.int (own_b8 (own_hx (v0 / (16 : Int32))))), (.int (own_b8 (own_hx (v0 % (16 : Int32))))), (.int (own_b8 (92 : Int32))), (.int (own_b8 (120 : Int32))), (.int (own_b8 (own_hx (v1 / (16 : Int32))))), (.int (own_b8 (own_hx (v1 % (16 : Int32))))), (.int (own_b8 (92 : Int32))), (.int (own_b8 (120 : Int32))), (.int (own_b8 (own_hx (v2 / (16 : Int32))))), (.int (own_b8 (own_hx (v2 % (16 : Int32)))))] (own_b8 (92 : Int32)) zc vS h4 n0 O E_a1 F_value_a1 F_coder_a1 V_va S_C hzc (by decide) rfl S_S hvS) hZ (hw _ (own_w 78 rfl)) (hw _ (own_w 10 rfl)) (by decide) (by decide)) qa qc (g := (mkF m 21 (own_A8 a1 b1 2 8 92 v1) [(.int 8), (.ref a1)])) rfl (by rw [hml]; rfl) (Steps.refl _) (argsL := [(.int 8)]) (rest := []) (lenOf own_pd7 rfl) rfl (by show 2 * 0 + _ ≤ _; exact Nat.le_of_eq rfl) (hb hby ep10m3_d21) (fun _ _ => ⟨rfl, eT, (by decide : 1 + 0 ≤ _), (by decide : 12 + 0 ≤ _)⟩)
  dsimp only [Pt.U, Pt.locs, Pt.cells, Pt.slots] at X lq yq zq st hQ
  subst lq yq zq
  obtain ⟨rfl, Nq, eT⟩ := hQ
  replace N := Fr.app N Nq
  refine own_viaT (g' := (mkF m 24 (own_A8 a1 b1 2 8 92 v1) [(.int ((own_b8 (92 : Int32)) &&& (255 : Int32)))])) st ?_
  rw [(by decide : ((own_b8 (92 : Int32)) &&& (255 : Int32)) = (92 : Int32))]
  refine own_via (g' := (mkF m 35 (own_A8 a1 b1 2 8 92 v1) [(.int 8), (.ref a1)])) (fun t_ k_ => XS.istore X.here hx rfl (hb hby ep10m3_d24) rfl (l' := (own_A8 a1 b1 2 8 92 v1)) rfl (XS.iload X.here hx rfl (hb hby ep10m3_d26) rfl (XS.bipush X.here hx rfl (hb hby ep10m3_d28) (XS.icmpNo X.here hx rfl (hb hby ep10m3_d30) rfl (teq (by decide : (92 : Int32) = (92 : Int32))).2 (XS.aloadN X.here hx rfl (hb hby ep10m3_d33) rfl rfl (XS.iloadN X.here hx rfl (hb hby ep10m3_d34) rfl k_)))))) ?_
  obtain ⟨_, _, ⟨T, Lq, kq, nq⟩, -, X, ⟨Lc, hQ, lq, yq, zq⟩, st⟩ := Jvm.LawKit.callS X hx (y := own_y10) hown (mvT hZ (hw _ (own_w 96 rfl))) (mvT hZ (hw _ (own_w 97 rfl))) (mvT hZ (hw _ (own_w 31 rfl))) (mvT hZ (hw _ (own_w 98 rfl))) (by decide) (backOf (W := 0) (own_escByte l Z a0 hw [] a1 va kv (12 : Int32) [(.int (own_b8 (92 : Int32))), (.int (own_b8 (120 : Int32))), (.int (own_b8 (own_hx (v0 / (16 : Int32))))), (.int (own_b8 (own_hx (v0 % (16 : Int32))))), (.int (own_b8 (92 : Int32))), (.int (own_b8 (120 : Int32))), (.int (own_b8 (own_hx (v1 / (16 : Int32))))), (.int (own_b8 (own_hx (v1 % (16 : Int32))))), (.int (own_b8 (92 : Int32))), (.int (own_b8 (120 : Int32))), (.int (own_b8 (own_hx (v2 / (16 : Int32))))), (.int (own_b8 (own_hx (v2 % (16 : Int32)))))] (8 : Int32) v2 (own_b8 (120 : Int32)) (own_b8 (own_hx (v2 / (16 : Int32)))) (own_b8 (own_hx (v2 % (16 : Int32)))) zc vS h4 n0 O E_a1 F_value_a1 F_coder_a1 V_va (by decide) rfl (by decide) (by decide) rfl (own_b255 (own_hxB (own_hi bd2.1 bd2.2).2.1 (own_hi bd2.1 bd2.2).2.2).1 (own_hxB (own_hi bd2.1 bd2.2).2.1 (own_hi bd2.1 bd2.2).2.2).2) (by decide) rfl (own_b255 (own_hxB (own_lo bd2.1 bd2.2).2.1 (own_lo bd2.1 bd2.2).2.2).1 (own_hxB (own_lo bd2.1 bd2.2).2.1 (own_lo bd2.1 bd2.2).2.2).2) bd2 S_C hzc S_S hvS) hZ (hw _ (own_w 98 rfl)) (hw _ (own_w 31 rfl)) (by decide) (by decide)) (g := (mkF m 35 (own_A8 a1 b1 2 8 92 v1) [(.int 8), (.ref a1)])) rfl (by rw [hml]; rfl) (argsL := [(.ref a1), (.int 8)]) (rest := []) (lenOf own_pd10 rfl) rfl (by show 2 * 0 + _ ≤ _; exact Nat.le_of_eq rfl) (hb hby ep10m3_d35) (fun _ _ => ⟨rfl, eT, (by decide : 1 + 0 ≤ _), (by decide : 12 + 0 ≤ _)⟩)
  dsimp only [Pt.U, Pt.locs, Pt.cells, Pt.slots] at X lq yq zq st hQ
  subst lq yq zq
  obtain ⟨rfl, Nq, eT⟩ := hQ
  replace N := Fr.app N Nq
  refine own_via (g' := (mkF m 38 (own_A8 a1 b1 2 8 92 v1) [(.int v2)])) st ?_
  refine own_via (g' := (mkF m 69 (own_A8 a1 b1 ((2 : Int32) + (1 : Int32)) 8 92 v2) [(.int (v2.toInt8.toInt32)), (.int 2), (.ref b1)])) (fun t_ k_ => XS.istore X.here hx rfl (hb hby ep10m3_d38) rfl (l' := #[.val (.ref a1), .val (.ref b1), .val (.int 2), .val (.int 8), .val (.int 92), .val (.int v2)]) rfl (XS.iload X.here hx rfl (hb hby ep10m3_d40) rfl (XS.ifYes X.here hx rfl (pc0 := 42) (pc' := 61) rfl (hb hby ep10m3_d42) rfl ((if0 _ _).trans (flt (own_nn bd2.1)).2.1) (by decide) (by decide) (XS.aloadN X.here hx rfl (hb hby ep10m3_d61) rfl rfl (XS.iloadN X.here hx rfl (hb hby ep10m3_d62) rfl (XS.iinc X.here hx rfl (hb hby ep10m3_d63) rfl (l' := (own_A8 a1 b1 ((2 : Int32) + (1 : Int32)) 8 92 v2)) rfl (XS.iload X.here hx rfl (hb hby ep10m3_d66) rfl (XS.i2b X.here hx rfl (hb hby ep10m3_d68) rfl k_)))))))) ?_
  obtain ⟨cl_, Ar_, qk_, Sz_, Nn_, Hs_, Gs_⟩ := id V_b1
  have hin_ : ¬ ((2 : Int32) < 0 ∨ cl_.slots.size ≤ ((2 : Int32)).toNatClampNeg) := inb_of Sz_ ⟨by decide, by decide⟩
  obtain ⟨T, h5, X, eT, W, st⟩ := stB X hx hZ eT Ar_ (j := (2 : Int32)) hin_ (g := (mkF m 69 (own_A8 a1 b1 ((2 : Int32) + (1 : Int32)) 8 92 v2) [(.int (v2.toInt8.toInt32)), (.int 2), (.ref b1)])) rfl rfl (hb hby ep10m3_d69)
  replace V_b1 : Arv Z h5 b1 kb1 .byte (12 : Int32) [(.int (((v0.toInt8.toInt32)).toInt8.toInt32)), (.int (((v1.toInt8.toInt32)).toInt8.toInt32)), (.int (((v2.toInt8.toInt32)).toInt8.toInt32)), (.int 0), (.int 0), (.int 0), (.int 0), (.int 0), (.int 0), (.int 0), (.int 0), (.int 0)] (.int 0) := Arv.set Ar_ qk_ Sz_ Nn_ Hs_ Gs_ (fits_nar_byte _) W 2 (by decide) (Nat.le_of_ble_eq_true rfl)
  replace E_a1 := E_a1.wr W
  replace F_value_a1 := F_value_a1.other W (Or.inl ne_a1_b1)
  replace F_coder_a1 := F_coder_a1.other W (Or.inl ne_a1_b1)
  replace V_va := V_va.other W ne_va_b1
  replace E_b1 := E_b1.wr W
  replace O := O.wr W g_b1
  replace K0 := K0.wr W (Or.inr sz_b1)
  replace N := Fr.snoc X N g_b1
  refine own_via (g' := (mkF m 70 (own_A8 a1 b1 ((2 : Int32) + (1 : Int32)) 8 92 v2) [])) st ?_
  refine own_via (g' := (mkF m 11 (own_A8 a1 b1 ((2 : Int32) + (1 : Int32)) (((8 : Int32) + (3 : Int32)) + (1 : Int32)) 92 v2) [])) (fun t_ k_ => XS.iinc X.here hx rfl (hb hby ep10m3_d70) rfl (l' := #[.val (.ref a1), .val (.ref b1), .val (.int ((2 : Int32) + (1 : Int32))), .val (.int ((8 : Int32) + (3 : Int32))), .val (.int 92), .val (.int v2)]) rfl (XS.goto X.here hx rfl (pc0 := 73) (pc' := 136) rfl (hb hby ep10m3_d73) (by decide) (by decide) (XS.iinc X.here hx rfl (hb hby ep10m3_d136) rfl (l' := (own_A8 a1 b1 ((2 : Int32) + (1 : Int32)) (((8 : Int32) + (3 : Int32)) + (1 : Int32)) 92 v2)) rfl (XS.goto X.here hx rfl (pc0 := 139) (pc' := 11) rfl (hb hby ep10m3_d139) (by decide) (by decide) k_)))) ?_
  rw [(by decide : ((2 : Int32) + (1 : Int32)) = (3 : Int32))]
  rw [(by decide : (((8 : Int32) + (3 : Int32)) + (1 : Int32)) = (12 : Int32))]
  refine own_via (g' := (mkF m 13 (own_A8 a1 b1 3 12 92 v2) [(.ref a1), (.int 12)])) (fun t_ k_ => XS.iloadN X.here hx rfl (hb hby ep10m3_d11) rfl (XS.aloadN X.here hx rfl (hb hby ep10m3_d12) rfl rfl k_)) ?_
  obtain ⟨cq, kq, qa, qb, qc⟩ := isOf hZ eT E_a1
  obtain ⟨_, _, ⟨T, Lq, kq, nq⟩, -, X, ⟨Lc, hQ, lq, yq, zq⟩, st⟩ := X.virtualBack hx (y := own_y6) (z := own_y6) hown (mvT hZ (hw _ (own_w 33 rfl))) (mvT hZ (hw _ (own_w 34 rfl))) (notFace_of_selects (args := #[]) (mvT hZ (hw _ (own_w 36 rfl)))) (mvT hZ (hw _ (own_w 36 rfl))) (mvT hZ (hw _ (own_w 35 rfl))) (by decide) (backOf (W := 1) (own_strlen l Z a0 hw [] a1 va kv (12 : Int32) [(.int (own_b8 (92 : Int32))), (.int (own_b8 (120 : Int32))), (.int (own_b8 (own_hx (v0 / (16 : Int32))))), (.int (own_b8 (own_hx (v0 % (16 : Int32))))), (.int (own_b8 (92 : Int32))), (.int (own_b8 (120 : Int32))), (.int (own_b8 (own_hx (v1 / (16 : Int32))))), (.int (own_b8 (own_hx (v1 % (16 : Int32))))), (.int (own_b8 (92 : Int32))), (.int (own_b8 (120 : Int32))), (.int (own_b8 (own_hx (v2 / (16 : Int32))))), (.int (own_b8 (own_hx (v2 % (16 : Int32)))))] zc h5 n0 O E_a1 F_value_a1 F_coder_a1 V_va S_C hzc) hZ (hw _ (own_w 37 rfl)) (hw _ (own_w 10 rfl)) (by decide) (by decide)) qa qc (g := (mkF m 13 (own_A8 a1 b1 3 12 92 v2) [(.ref a1), (.int 12)])) rfl (by rw [hml]; rfl) (Steps.refl _) (argsL := []) (rest := [(.int 12)]) (lenOf own_pd6 rfl) rfl (by show 2 * 0 + _ ≤ _; exact Nat.le_of_eq rfl) (hb hby ep10m3_d13) (fun _ _ => ⟨rfl, eT, (by decide : 1 + 0 ≤ _), (by decide : 12 + 0 ≤ _)⟩)
  dsimp only [Pt.U, Pt.locs, Pt.cells, Pt.slots] at X lq yq zq st hQ
  subst lq yq zq
  obtain ⟨rfl, Nq, eT⟩ := hQ
  replace N := Fr.app N Nq
  refine own_viaT (g' := (mkF m 16 (own_A8 a1 b1 3 12 92 v2) [(.int 12), (.int 12)])) st ?_
  refine own_via (g' := (mkF m 144 (own_A8 a1 b1 3 12 92 v2) [(.int 3), (.ref b1)])) (fun t_ k_ => XS.icmpYes X.here hx rfl (pc0 := 16) (pc' := 142) rfl (hb hby ep10m3_d16) rfl (flt (by decide : ¬ ((12 : Int32) < (12 : Int32)))).2.1 (by decide) (by decide) (XS.aloadN X.here hx rfl (hb hby ep10m3_d142) rfl rfl (XS.iloadN X.here hx rfl (hb hby ep10m3_d143) rfl k_))) ?_
  replace V_b1 : Arv Z h5 b1 kb1 .byte (12 : Int32) [(.int (own_sb v0)), (.int (own_sb v1)), (.int (own_sb v2))] (.int 0) := V_b1.pad (fun i => (pad_rep [(.int (own_sb v0)), (.int (own_sb v1)), (.int (own_sb v2))] (.int 0) 9 i).symm)
  obtain ⟨_, _, ⟨T, Lq, kq, nq⟩, -, X, ⟨Lc, hQ, lq, yq, zq⟩, st⟩ := Jvm.LawKit.callS X hx (y := own_y9) hown (mvT hZ (hw _ (own_w 44 rfl))) (mvT hZ (hw _ (own_w 45 rfl))) (mvT hZ (hw _ (own_w 46 rfl))) (mvT hZ (hw _ (own_w 47 rfl))) (by decide) (backOf (W := 0) (own_copyOf l Z a0 hw [] b1 kb1 (3 : Int32) (12 : Int32) [(.int (own_sb v0)), (.int (own_sb v1)), (.int (own_sb v2))] h5 n0 O E_b1 V_b1 (by decide) rfl) hZ (hw _ (own_w 47 rfl)) (hw _ (own_w 46 rfl)) (by decide) (by decide)) (g := (mkF m 144 (own_A8 a1 b1 3 12 92 v2) [(.int 3), (.ref b1)])) rfl (by rw [hml]; rfl) (argsL := [(.ref b1), (.int 3)]) (rest := []) (lenOf own_pd9 rfl) rfl (by show 2 * 0 + _ ≤ _; exact Nat.le_of_eq rfl) (hb hby ep10m3_d144) (fun _ _ => ⟨rfl, eT, (by decide : 1 + 1 ≤ _), (by decide : 12 + 12 ≤ _)⟩)
  dsimp only [Pt.U, Pt.locs, Pt.cells, Pt.slots] at X lq yq zq st hQ
  subst lq yq zq
  obtain ⟨bn, kbn, rfl, Nq, Kq, szq, V_bn, E_bn⟩ := hQ
  replace N := Fr.app N Nq
  obtain ⟨h6, eT⟩ : ∃ z, T.heap = z := ⟨_, rfl⟩
  rw [eT] at Kq V_bn E_bn
  have ne_a1_bn : a1 ≠ bn := Nat.ne_of_lt (Nat.lt_of_lt_of_le E_a1.lt szq)
  have ne_b1_bn : b1 ≠ bn := Nat.ne_of_lt (Nat.lt_of_lt_of_le E_b1.lt szq)
  have ne_va_bn : va ≠ bn := Nat.ne_of_lt (Nat.lt_of_lt_of_le V_va.lt szq)
  have g_bn : n0 ≤ bn := Nat.le_trans (own_le O) szq
  have sz_bn : h0.size ≤ bn := Nat.le_trans K0.1 szq
  replace E_a1 := E_a1.keep Kq
  replace F_value_a1 := F_value_a1.keep Kq nin0
  replace F_coder_a1 := F_coder_a1.keep Kq nin0
  replace V_va := V_va.keep Kq nin0
  replace E_b1 := E_b1.keep Kq
  replace V_b1 := V_b1.keep Kq nin0
  replace O := O.keep Kq all0
  replace K0 := K0.trans Kq all0
  refine own_via (g' := (mkF m 147 (own_A8 a1 b1 3 12 92 v2) [(.ref bn)])) st ?_
  refine own_retW X hx hlk Bd.returns rfl (Or.inr (Or.inr (Or.inr (Or.inr ⟨rfl, rfl, rfl⟩)))) (hb hby ep10m3_d147) (by decide) (by decide) ?_
  rw [eT]
  exact ⟨bn, kbn, rfl, N, K0, sz_bn, V_bn, E_bn⟩
theorem emethod_3_d0 : decode method_3_code 0 = .ok (.iload_n 0, 1) := by decide +kernel
theorem emethod_3_d1 : decode method_3_code 1 = .ok (.ifCond .ne 5, 3) := by decide +kernel
theorem emethod_3_d4 : decode method_3_code 4 = .ok (.iconst 0, 1) := by decide +kernel
theorem emethod_3_d5 : decode method_3_code 5 = .ok (.ireturn, 1) := by decide +kernel
theorem own_wd0_pn : plainFor (⟨"com/example/rows_to_regions/rowstoregions/KeyTextUnescapePinLaw", "width", "(ZZ)I"⟩ : MethodName) = true := by first | exact plainFor_of_name (by first | (simp [plainName, overriddenIn]; done) | decide +kernel) | decide +kernel | exact Jvm.Free.JP.mathPlain rfl (by decide +kernel)
theorem own_wd0_ef (m : MethodId) (x0 : Int32) (x1 : Int32) : entryFrame m #[(.int x0), (.int x1)] 2 = mkF m 0 #[.val (.int x0), .val (.int x1)] [] := by first | (simp [entryFrame, mkF, argsToLocals, Value.category]; done) | rfl
def own_wd0_Q (Z : State) (f : Int32) (h0 : Heap) (n0 : Nat) (v : Option Value) (h : Heap) (L : List Loc) : Prop := v = some (.int 0) ∧ Fr n0 L ∧ h = h0
set_option maxRecDepth 65536 in
set_option maxHeartbeats 40000000 in
theorem own_wd0 (l : Launch) (Z : State) (a0 : Array Value) (hw : ∀ d ∈ tables_1, d.before a0 Z = true) (ws : List Jvm.Cond) (f : Int32) (h0 : Heap) (n0 : Nat) (O : Old Z n0 h0)  :
    MetFree l (⟨"com/example/rows_to_regions/rowstoregions/KeyTextUnescapePinLaw", "width", "(ZZ)I"⟩ : MethodName) (head1 (Jvm.Cond.code (⟨"com/example/rows_to_regions/rowstoregions/KeyTextUnescapePinLaw", "width", "(ZZ)I"⟩ : MethodName) method_3_code 2 (some .int) :: ws) ({ frames := 0, cells := 0, slots := 0, locals := 0 } : Room)) (fun a U => a = #[(.int 0), (.int f)] ∧ Z.Warmed39 U.vm ∧ U.heap = h0) (fun _ _ _ _ _ => True) (fun _ U o U' => ∃ v L, o = .returned v ∧ own_wd0_Q Z f h0 n0 v U'.heap L ∧ FrameEnd U o U' L ({ frames := 0, cells := 0, slots := 0, locals := 0 } : Room).cells ({ frames := 0, cells := 0, slots := 0, locals := 0 } : Room).slots) := by
  refine MetFree.of_bodySF own_wd0_pn hisR ?_
  intro p e s m args below meth c s₁ Bd hml0 hP hK
  obtain ⟨rfl, hZ, hh⟩ := hP
  have hx := Bd.exec
  have hby := Bd.bytes
  have hlk := Bd.notSynchronized
  have hml : c.maxLocals = 2 := hml0
  have hown : s.vm.findClass "com/example/rows_to_regions/rowstoregions/KeyTextUnescapePinLaw" = some m.cls := findClass_of_methodNamed Bd.named
  have hnm := (name_of_methodNamed Bd.named Bd.method).1
  have X : Stand p l e ({ frames := 0, cells := 0, slots := 0, locals := 0 } : Room) s m #[(.int 0), (.int f)] below meth c s₁ [] 0 0 := Stand.of_body Bd
  have eT : s₁.heap = h0 := by rw [← hh, Bd.state]; rfl
  have N := Fr.nil n0
  have K0 := Keep.refl h0 []
  show own_Ends p e below (own_Post s below (own_wd0_Q Z f h0 n0) ({ frames := 0, cells := 0, slots := 0, locals := 0 } : Room).cells ({ frames := 0, cells := 0, slots := 0, locals := 0 } : Room).slots) s₁ (entryFrame m #[(.int 0), (.int f)] 2)
  rw [own_wd0_ef m (0 : Int32) f]
  obtain ⟨T, hT⟩ : ∃ z, z = s₁ := ⟨_, rfl⟩
  rw [← hT] at X eT ⊢
  obtain ⟨h, hh0⟩ : ∃ z, z = h0 := ⟨_, rfl⟩
  rw [← hh0] at eT
  replace O : Old Z n0 h := by rw [hh0]; exact O
  replace K0 : Keep h0 h [] := by rw [hh0]; exact K0
  refine own_via (g' := (mkF m 5 #[.val (.int 0), .val (.int f)] [(.int 0)])) (fun t_ k_ => XS.iloadN X.here hx rfl (hb hby emethod_3_d0) rfl (XS.ifNo X.here hx rfl (hb hby emethod_3_d1) rfl ((if0 _ _).trans (teq (by decide : (0 : Int32) = (0 : Int32))).2) (XS.iconst X.here hx rfl (hb hby emethod_3_d4) k_))) ?_
  refine own_retW X hx hlk Bd.returns rfl (Or.inl ⟨rfl, Or.inl rfl, _, rfl⟩) (hb hby emethod_3_d5) (by decide) (by decide) ?_
  rw [eT]
  exact ⟨rfl, N, hh0⟩
theorem own_w1 {f r : Int32} : ((f = (0 : Int32) ∧ r = 1) ∨ (f = (1 : Int32) ∧ r = 4) → f = 0 → r = 1) ∧ ((f = (0 : Int32) ∧ r = 1) ∨ (f = (1 : Int32) ∧ r = 4) → ¬ f = 0 → r = 4) := by
  refine ⟨fun h q => ?_, fun h q => ?_⟩ <;> rcases h with ⟨a, b⟩ | ⟨a, b⟩
  · exact b
  · rw [a] at q; exact absurd q (by decide)
  · exact absurd a q
  · exact b
theorem own_n92 : nar .char (92 : Int32) = (92 : Int32) := rfl
theorem own_n120 : nar .char (120 : Int32) = (120 : Int32) := rfl
theorem emethod_3_d6 : decode method_3_code 6 = .ok (.iload_n 1, 1) := by decide +kernel
theorem emethod_3_d7 : decode method_3_code 7 = .ok (.ifCond .eq 7, 3) := by decide +kernel
theorem emethod_3_d10 : decode method_3_code 10 = .ok (.iconst 4, 1) := by decide +kernel
theorem emethod_3_d11 : decode method_3_code 11 = .ok (.goto 4, 3) := by decide +kernel
theorem emethod_3_d14 : decode method_3_code 14 = .ok (.iconst 1, 1) := by decide +kernel
theorem emethod_3_d15 : decode method_3_code 15 = .ok (.ireturn, 1) := by decide +kernel
theorem own_wd1_pn : plainFor (⟨"com/example/rows_to_regions/rowstoregions/KeyTextUnescapePinLaw", "width", "(ZZ)I"⟩ : MethodName) = true := by first | exact plainFor_of_name (by first | (simp [plainName, overriddenIn]; done) | decide +kernel) | decide +kernel | exact Jvm.Free.JP.mathPlain rfl (by decide +kernel)
theorem own_wd1_ef (m : MethodId) (x0 : Int32) (x1 : Int32) : entryFrame m #[(.int x0), (.int x1)] 2 = mkF m 0 #[.val (.int x0), .val (.int x1)] [] := by first | (simp [entryFrame, mkF, argsToLocals, Value.category]; done) | rfl
def own_wd1_Q (Z : State) (f : Int32) (r : Int32) (h0 : Heap) (n0 : Nat) (v : Option Value) (h : Heap) (L : List Loc) : Prop := v = some (.int r) ∧ Fr n0 L ∧ h = h0
set_option maxRecDepth 65536 in
set_option maxHeartbeats 40000000 in
theorem own_wd1 (l : Launch) (Z : State) (a0 : Array Value) (hw : ∀ d ∈ tables_1, d.before a0 Z = true) (ws : List Jvm.Cond) (f : Int32) (r : Int32) (h0 : Heap) (n0 : Nat) (O : Old Z n0 h0) (hr : (f = (0 : Int32) ∧ r = 1) ∨ (f = (1 : Int32) ∧ r = 4)) :
    MetFree l (⟨"com/example/rows_to_regions/rowstoregions/KeyTextUnescapePinLaw", "width", "(ZZ)I"⟩ : MethodName) (head1 (Jvm.Cond.code (⟨"com/example/rows_to_regions/rowstoregions/KeyTextUnescapePinLaw", "width", "(ZZ)I"⟩ : MethodName) method_3_code 2 (some .int) :: ws) ({ frames := 0, cells := 0, slots := 0, locals := 0 } : Room)) (fun a U => a = #[(.int 1), (.int f)] ∧ Z.Warmed39 U.vm ∧ U.heap = h0) (fun _ _ _ _ _ => True) (fun _ U o U' => ∃ v L, o = .returned v ∧ own_wd1_Q Z f r h0 n0 v U'.heap L ∧ FrameEnd U o U' L ({ frames := 0, cells := 0, slots := 0, locals := 0 } : Room).cells ({ frames := 0, cells := 0, slots := 0, locals := 0 } : Room).slots) := by
  refine MetFree.of_bodySF own_wd1_pn hisR ?_
  intro p e s m args below meth c s₁ Bd hml0 hP hK
  obtain ⟨rfl, hZ, hh⟩ := hP
  have hx := Bd.exec
  have hby := Bd.bytes
  have hlk := Bd.notSynchronized
  have hml : c.maxLocals = 2 := hml0
  have hown : s.vm.findClass "com/example/rows_to_regions/rowstoregions/KeyTextUnescapePinLaw" = some m.cls := findClass_of_methodNamed Bd.named
  have hnm := (name_of_methodNamed Bd.named Bd.method).1
  have X : Stand p l e ({ frames := 0, cells := 0, slots := 0, locals := 0 } : Room) s m #[(.int 1), (.int f)] below meth c s₁ [] 0 0 := Stand.of_body Bd
  have eT : s₁.heap = h0 := by rw [← hh, Bd.state]; rfl
  have N := Fr.nil n0
  have K0 := Keep.refl h0 []
  show own_Ends p e below (own_Post s below (own_wd1_Q Z f r h0 n0) ({ frames := 0, cells := 0, slots := 0, locals := 0 } : Room).cells ({ frames := 0, cells := 0, slots := 0, locals := 0 } : Room).slots) s₁ (entryFrame m #[(.int 1), (.int f)] 2)
  rw [own_wd1_ef m (1 : Int32) f]
  obtain ⟨T, hT⟩ : ∃ z, z = s₁ := ⟨_, rfl⟩
  rw [← hT] at X eT ⊢
  obtain ⟨h, hh0⟩ : ∃ z, z = h0 := ⟨_, rfl⟩
  rw [← hh0] at eT
  replace O : Old Z n0 h := by rw [hh0]; exact O
  replace K0 : Keep h0 h [] := by rw [hh0]; exact K0
  refine own_via (g' := (mkF m 7 #[.val (.int 1), .val (.int f)] [(.int f)])) (fun t_ k_ => XS.iloadN X.here hx rfl (hb hby emethod_3_d0) rfl (XS.ifYes X.here hx rfl (pc0 := 1) (pc' := 6) rfl (hb hby emethod_3_d1) rfl ((if0 _ _).trans (feq (by decide : ¬ ((1 : Int32) = (0 : Int32)))).2) (by decide) (by decide) (XS.iloadN X.here hx rfl (hb hby emethod_3_d6) rfl k_))) ?_
  by_cases hc1 : f = (0 : Int32)
  · refine own_via (g' := (mkF m 15 #[.val (.int 1), .val (.int f)] [(.int 1)])) (fun t_ k_ => XS.ifYes X.here hx rfl (pc0 := 7) (pc' := 14) rfl (hb hby emethod_3_d7) rfl ((if0 _ _).trans (teq hc1).1) (by decide) (by decide) (XS.iconst X.here hx rfl (hb hby emethod_3_d14) k_)) ?_
    refine own_retW X hx hlk Bd.returns rfl (Or.inl ⟨rfl, Or.inl rfl, _, rfl⟩) (hb hby emethod_3_d15) (by decide) (by decide) ?_
    rw [eT]
    exact ⟨by rw [own_w1.1 hr hc1], N, hh0⟩
  · refine own_via (g' := (mkF m 15 #[.val (.int 1), .val (.int f)] [(.int 4)])) (fun t_ k_ => XS.ifNo X.here hx rfl (hb hby emethod_3_d7) rfl ((if0 _ _).trans (feq hc1).1) (XS.iconst X.here hx rfl (hb hby emethod_3_d10) (XS.goto X.here hx rfl (pc0 := 11) (pc' := 15) rfl (hb hby emethod_3_d11) (by decide) (by decide) k_))) ?_
    refine own_retW X hx hlk Bd.returns rfl (Or.inl ⟨rfl, Or.inl rfl, _, rfl⟩) (hb hby emethod_3_d15) (by decide) (by decide) ?_
    rw [eT]
    exact ⟨by rw [own_w1.2 hr hc1], N, hh0⟩
theorem emethod_4_d0 : decode method_4_code 0 = .ok (.bipush 32, 2) := by decide +kernel
theorem emethod_4_d2 : decode method_4_code 2 = .ok (.iload_n 0, 1) := by decide +kernel
theorem emethod_4_d3 : decode method_4_code 3 = .ok (.ldc 32, 2) := by decide +kernel
theorem emethod_4_d5 : decode method_4_code 5 = .ok (.iand, 1) := by decide +kernel
theorem emethod_4_d6 : decode method_4_code 6 = .ok (.bipush 94, 2) := by decide +kernel
theorem emethod_4_d8 : decode method_4_code 8 = .ok (.irem, 1) := by decide +kernel
theorem emethod_4_d9 : decode method_4_code 9 = .ok (.iadd, 1) := by decide +kernel
theorem emethod_4_d10 : decode method_4_code 10 = .ok (.istore_n 1, 1) := by decide +kernel
theorem emethod_4_d11 : decode method_4_code 11 = .ok (.iload_n 1, 1) := by decide +kernel
theorem emethod_4_d12 : decode method_4_code 12 = .ok (.bipush 92, 2) := by decide +kernel
theorem emethod_4_d14 : decode method_4_code 14 = .ok (.if_icmp .lt 7, 3) := by decide +kernel
theorem emethod_4_d17 : decode method_4_code 17 = .ok (.iload_n 1, 1) := by decide +kernel
theorem emethod_4_d18 : decode method_4_code 18 = .ok (.iconst 1, 1) := by decide +kernel
theorem emethod_4_d19 : decode method_4_code 19 = .ok (.iadd, 1) := by decide +kernel
theorem emethod_4_d20 : decode method_4_code 20 = .ok (.istore_n 1, 1) := by decide +kernel
theorem emethod_4_d21 : decode method_4_code 21 = .ok (.iload_n 1, 1) := by decide +kernel
theorem emethod_4_d22 : decode method_4_code 22 = .ok (.i2c, 1) := by decide +kernel
theorem emethod_4_d23 : decode method_4_code 23 = .ok (.ireturn, 1) := by decide +kernel
theorem own_printable_pn : plainFor (⟨"com/example/rows_to_regions/rowstoregions/KeyTextUnescapePinLaw", "printable", "(I)C"⟩ : MethodName) = true := by first | exact plainFor_of_name (by first | (simp [plainName, overriddenIn]; done) | decide +kernel) | decide +kernel | exact Jvm.Free.JP.mathPlain rfl (by decide +kernel)
theorem own_printable_ef (m : MethodId) (x0 : Int32) : entryFrame m #[(.int x0)] 2 = mkF m 0 #[.val (.int x0), .unset] [] := by first | (simp [entryFrame, mkF, argsToLocals, Value.category]; done) | rfl
def own_printable_Q (Z : State) (q : Int32) (h0 : Heap) (n0 : Nat) (v : Option Value) (h : Heap) (L : List Loc) : Prop := v = some (.int (own_pr q)) ∧ Fr n0 L ∧ h = h0
set_option maxRecDepth 65536 in
set_option maxHeartbeats 40000000 in
theorem own_printable (l : Launch) (Z : State) (a0 : Array Value) (hw : ∀ d ∈ tables_1, d.before a0 Z = true) (ws : List Jvm.Cond) (q : Int32) (h0 : Heap) (n0 : Nat) (O : Old Z n0 h0)  :
    MetFree l (⟨"com/example/rows_to_regions/rowstoregions/KeyTextUnescapePinLaw", "printable", "(I)C"⟩ : MethodName) (head1 (Jvm.Cond.code (⟨"com/example/rows_to_regions/rowstoregions/KeyTextUnescapePinLaw", "printable", "(I)C"⟩ : MethodName) method_4_code 2 (some .char) :: ws) ({ frames := 0, cells := 0, slots := 0, locals := 0 } : Room)) (fun a U => a = #[(.int q)] ∧ Z.Warmed39 U.vm ∧ U.heap = h0) (fun _ _ _ _ _ => True) (fun _ U o U' => ∃ v L, o = .returned v ∧ own_printable_Q Z q h0 n0 v U'.heap L ∧ FrameEnd U o U' L ({ frames := 0, cells := 0, slots := 0, locals := 0 } : Room).cells ({ frames := 0, cells := 0, slots := 0, locals := 0 } : Room).slots) := by
  refine MetFree.of_bodySF own_printable_pn hisR ?_
  intro p e s m args below meth c s₁ Bd hml0 hP hK
  obtain ⟨rfl, hZ, hh⟩ := hP
  have hx := Bd.exec
  have hby := Bd.bytes
  have hlk := Bd.notSynchronized
  have hml : c.maxLocals = 2 := hml0
  have hown : s.vm.findClass "com/example/rows_to_regions/rowstoregions/KeyTextUnescapePinLaw" = some m.cls := findClass_of_methodNamed Bd.named
  have hnm := (name_of_methodNamed Bd.named Bd.method).1
  have X : Stand p l e ({ frames := 0, cells := 0, slots := 0, locals := 0 } : Room) s m #[(.int q)] below meth c s₁ [] 0 0 := Stand.of_body Bd
  have eT : s₁.heap = h0 := by rw [← hh, Bd.state]; rfl
  have N := Fr.nil n0
  have K0 := Keep.refl h0 []
  show own_Ends p e below (own_Post s below (own_printable_Q Z q h0 n0) ({ frames := 0, cells := 0, slots := 0, locals := 0 } : Room).cells ({ frames := 0, cells := 0, slots := 0, locals := 0 } : Room).slots) s₁ (entryFrame m #[(.int q)] 2)
  rw [own_printable_ef m q]
  obtain ⟨T, hT⟩ : ∃ z, z = s₁ := ⟨_, rfl⟩
  rw [← hT] at X eT ⊢
  obtain ⟨h, hh0⟩ : ∃ z, z = h0 := ⟨_, rfl⟩
  rw [← hh0] at eT
  replace O : Old Z n0 h := by rw [hh0]; exact O
  replace K0 : Keep h0 h [] := by rw [hh0]; exact K0
  refine own_via (g' := (mkF m 10 #[.val (.int q), .unset] [(.int ((32 : Int32) + ((q &&& (2147483647 : Int32)) % (94 : Int32))))])) (fun t_ k_ => XS.bipush X.here hx rfl (hb hby emethod_4_d0) (XS.iloadN X.here hx rfl (hb hby emethod_4_d2) rfl (X.ldcInt hx hown (mvT hZ (hw _ (own_w 63 rfl))) (g := (mkF m 3 #[.val (.int q), .unset] [(.int q), (.int 32)])) rfl (hb hby emethod_4_d3) _ (XS.iand X.here hx rfl (hb hby emethod_4_d5) rfl (XS.bipush X.here hx rfl (hb hby emethod_4_d6) (iremM (g := (mkF m 8 #[.val (.int q), .unset] [(.int 94), (.int (q &&& (2147483647 : Int32))), (.int 32)])) X hx rfl (hb hby emethod_4_d8) rfl (by decide) (XS.iadd X.here hx rfl (hb hby emethod_4_d9) rfl k_))))))) ?_
  rw [show ((32 : Int32) + ((q &&& (2147483647 : Int32)) % (94 : Int32))) = own_pr0 q from rfl]
  refine own_via (g' := (mkF m 14 #[.val (.int q), .val (.int (own_pr0 q))] [(.int 92), (.int (own_pr0 q))])) (fun t_ k_ => XS.istoreN X.here hx rfl (hb hby emethod_4_d10) rfl (l' := #[.val (.int q), .val (.int (own_pr0 q))]) rfl (XS.iloadN X.here hx rfl (hb hby emethod_4_d11) rfl (XS.bipush X.here hx rfl (hb hby emethod_4_d12) k_))) ?_
  by_cases hc1 : (own_pr0 q) < (92 : Int32)
  · refine own_via (g' := (mkF m 23 #[.val (.int q), .val (.int (own_pr0 q))] [(.int ((own_pr0 q).toUInt32.toUInt16.toUInt32.toInt32))])) (fun t_ k_ => XS.icmpYes X.here hx rfl (pc0 := 14) (pc' := 21) rfl (hb hby emethod_4_d14) rfl (tlt hc1).1 (by decide) (by decide) (XS.iloadN X.here hx rfl (hb hby emethod_4_d21) rfl (XS.i2c X.here hx rfl (hb hby emethod_4_d22) rfl k_))) ?_
    refine own_retN X hx hlk (t := .char) Bd.returns (by simp) (hb hby emethod_4_d23) (by decide) (by decide) ?_
    rw [eT]
    have e_ : own_pr q = own_pr0 q := if_pos hc1
    have b_ := own_prB q
    exact ⟨by show some (Value.int ((own_pr0 q).toUInt32.toUInt16.toUInt32.toInt32.toUInt32.toUInt16.toUInt32.toInt32)) = _; rw [← e_, own_i2cS (Int.le_trans (by decide) b_.1) (Int.lt_of_le_of_lt b_.2.1 (by decide)), own_i2cS (Int.le_trans (by decide) b_.1) (Int.lt_of_le_of_lt b_.2.1 (by decide))], N, hh0⟩
  · refine own_via (g' := (mkF m 23 #[.val (.int q), .val (.int ((own_pr0 q) + (1 : Int32)))] [(.int (((own_pr0 q) + (1 : Int32)).toUInt32.toUInt16.toUInt32.toInt32))])) (fun t_ k_ => XS.icmpNo X.here hx rfl (hb hby emethod_4_d14) rfl (flt hc1).1 (XS.iloadN X.here hx rfl (hb hby emethod_4_d17) rfl (XS.iconst X.here hx rfl (hb hby emethod_4_d18) (XS.iadd X.here hx rfl (hb hby emethod_4_d19) rfl (XS.istoreN X.here hx rfl (hb hby emethod_4_d20) rfl (l' := #[.val (.int q), .val (.int ((own_pr0 q) + (1 : Int32)))]) rfl (XS.iloadN X.here hx rfl (hb hby emethod_4_d21) rfl (XS.i2c X.here hx rfl (hb hby emethod_4_d22) rfl k_))))))) ?_
    refine own_retN X hx hlk (t := .char) Bd.returns (by simp) (hb hby emethod_4_d23) (by decide) (by decide) ?_
    rw [eT]
    have e_ : own_pr q = own_pr0 q + (1 : Int32) := if_neg hc1
    have b_ := own_prB q
    exact ⟨by show some (Value.int ((own_pr0 q + (1 : Int32)).toUInt32.toUInt16.toUInt32.toInt32.toUInt32.toUInt16.toUInt32.toInt32)) = _; rw [← e_, own_i2cS (Int.le_trans (by decide) b_.1) (Int.lt_of_le_of_lt b_.2.1 (by decide)), own_i2cS (Int.le_trans (by decide) b_.1) (Int.lt_of_le_of_lt b_.2.1 (by decide))], N, hh0⟩
theorem emethod_5_d0 : decode method_5_code 0 = .ok (.iload_n 0, 1) := by decide +kernel
theorem emethod_5_d1 : decode method_5_code 1 = .ok (.bipush 10, 2) := by decide +kernel
theorem emethod_5_d3 : decode method_5_code 3 = .ok (.if_icmp .ge 9, 3) := by decide +kernel
theorem emethod_5_d6 : decode method_5_code 6 = .ok (.bipush 48, 2) := by decide +kernel
theorem emethod_5_d8 : decode method_5_code 8 = .ok (.iload_n 0, 1) := by decide +kernel
theorem emethod_5_d9 : decode method_5_code 9 = .ok (.iadd, 1) := by decide +kernel
theorem emethod_5_d10 : decode method_5_code 10 = .ok (.i2c, 1) := by decide +kernel
theorem emethod_5_d11 : decode method_5_code 11 = .ok (.ireturn, 1) := by decide +kernel
theorem emethod_5_d12 : decode method_5_code 12 = .ok (.bipush 65, 2) := by decide +kernel
theorem emethod_5_d14 : decode method_5_code 14 = .ok (.iload_n 0, 1) := by decide +kernel
theorem emethod_5_d15 : decode method_5_code 15 = .ok (.iadd, 1) := by decide +kernel
theorem emethod_5_d16 : decode method_5_code 16 = .ok (.bipush 10, 2) := by decide +kernel
theorem emethod_5_d18 : decode method_5_code 18 = .ok (.isub, 1) := by decide +kernel
theorem emethod_5_d19 : decode method_5_code 19 = .ok (.i2c, 1) := by decide +kernel
theorem emethod_5_d20 : decode method_5_code 20 = .ok (.ireturn, 1) := by decide +kernel
theorem own_hexM_pn : plainFor (⟨"com/example/rows_to_regions/rowstoregions/KeyTextUnescapePinLaw", "hex", "(I)C"⟩ : MethodName) = true := by first | exact plainFor_of_name (by first | (simp [plainName, overriddenIn]; done) | decide +kernel) | decide +kernel | exact Jvm.Free.JP.mathPlain rfl (by decide +kernel)
theorem own_hexM_ef (m : MethodId) (x0 : Int32) : entryFrame m #[(.int x0)] 1 = mkF m 0 #[.val (.int x0)] [] := by first | (simp [entryFrame, mkF, argsToLocals, Value.category]; done) | rfl
def own_hexM_Q (Z : State) (d : Int32) (h0 : Heap) (n0 : Nat) (v : Option Value) (h : Heap) (L : List Loc) : Prop := v = some (.int (own_hx d)) ∧ Fr n0 L ∧ h = h0
set_option maxRecDepth 65536 in
set_option maxHeartbeats 40000000 in
theorem own_hexM (l : Launch) (Z : State) (a0 : Array Value) (hw : ∀ d ∈ tables_1, d.before a0 Z = true) (ws : List Jvm.Cond) (d : Int32) (h0 : Heap) (n0 : Nat) (O : Old Z n0 h0) (dd : 0 ≤ d.toInt ∧ d.toInt < 16) :
    MetFree l (⟨"com/example/rows_to_regions/rowstoregions/KeyTextUnescapePinLaw", "hex", "(I)C"⟩ : MethodName) (head1 (Jvm.Cond.code (⟨"com/example/rows_to_regions/rowstoregions/KeyTextUnescapePinLaw", "hex", "(I)C"⟩ : MethodName) method_5_code 1 (some .char) :: ws) ({ frames := 0, cells := 0, slots := 0, locals := 0 } : Room)) (fun a U => a = #[(.int d)] ∧ Z.Warmed39 U.vm ∧ U.heap = h0) (fun _ _ _ _ _ => True) (fun _ U o U' => ∃ v L, o = .returned v ∧ own_hexM_Q Z d h0 n0 v U'.heap L ∧ FrameEnd U o U' L ({ frames := 0, cells := 0, slots := 0, locals := 0 } : Room).cells ({ frames := 0, cells := 0, slots := 0, locals := 0 } : Room).slots) := by
  refine MetFree.of_bodySF own_hexM_pn hisR ?_
  intro p e s m args below meth c s₁ Bd hml0 hP hK
  obtain ⟨rfl, hZ, hh⟩ := hP
  have hx := Bd.exec
  have hby := Bd.bytes
  have hlk := Bd.notSynchronized
  have hml : c.maxLocals = 1 := hml0
  have hown : s.vm.findClass "com/example/rows_to_regions/rowstoregions/KeyTextUnescapePinLaw" = some m.cls := findClass_of_methodNamed Bd.named
  have hnm := (name_of_methodNamed Bd.named Bd.method).1
  have X : Stand p l e ({ frames := 0, cells := 0, slots := 0, locals := 0 } : Room) s m #[(.int d)] below meth c s₁ [] 0 0 := Stand.of_body Bd
  have eT : s₁.heap = h0 := by rw [← hh, Bd.state]; rfl
  have N := Fr.nil n0
  have K0 := Keep.refl h0 []
  show own_Ends p e below (own_Post s below (own_hexM_Q Z d h0 n0) ({ frames := 0, cells := 0, slots := 0, locals := 0 } : Room).cells ({ frames := 0, cells := 0, slots := 0, locals := 0 } : Room).slots) s₁ (entryFrame m #[(.int d)] 1)
  rw [own_hexM_ef m d]
  obtain ⟨T, hT⟩ : ∃ z, z = s₁ := ⟨_, rfl⟩
  rw [← hT] at X eT ⊢
  obtain ⟨h, hh0⟩ : ∃ z, z = h0 := ⟨_, rfl⟩
  rw [← hh0] at eT
  replace O : Old Z n0 h := by rw [hh0]; exact O
  replace K0 : Keep h0 h [] := by rw [hh0]; exact K0
  refine own_via (g' := (mkF m 3 #[.val (.int d)] [(.int 10), (.int d)])) (fun t_ k_ => XS.iloadN X.here hx rfl (hb hby emethod_5_d0) rfl (XS.bipush X.here hx rfl (hb hby emethod_5_d1) k_)) ?_
  by_cases hc1 : d < (10 : Int32)
  · refine own_via (g' := (mkF m 11 #[.val (.int d)] [(.int (((48 : Int32) + d).toUInt32.toUInt16.toUInt32.toInt32))])) (fun t_ k_ => XS.icmpNo X.here hx rfl (hb hby emethod_5_d3) rfl (tlt hc1).2.1 (XS.bipush X.here hx rfl (hb hby emethod_5_d6) (XS.iloadN X.here hx rfl (hb hby emethod_5_d8) rfl (XS.iadd X.here hx rfl (hb hby emethod_5_d9) rfl (XS.i2c X.here hx rfl (hb hby emethod_5_d10) rfl k_))))) ?_
    refine own_retN X hx hlk (t := .char) Bd.returns (by simp) (hb hby emethod_5_d11) (by decide) (by decide) ?_
    rw [eT]
    have e_ : own_hx d = (48 : Int32) + d := if_pos hc1
    have b_ := own_hxB dd.1 dd.2
    exact ⟨by show some (Value.int (((48 : Int32) + d).toUInt32.toUInt16.toUInt32.toInt32.toUInt32.toUInt16.toUInt32.toInt32)) = _; rw [← e_, own_i2cS b_.1 (Int.lt_trans b_.2 (by decide)), own_i2cS b_.1 (Int.lt_trans b_.2 (by decide))], N, hh0⟩
  · refine own_via (g' := (mkF m 20 #[.val (.int d)] [(.int ((((65 : Int32) + d) - (10 : Int32)).toUInt32.toUInt16.toUInt32.toInt32))])) (fun t_ k_ => XS.icmpYes X.here hx rfl (pc0 := 3) (pc' := 12) rfl (hb hby emethod_5_d3) rfl (flt hc1).2.1 (by decide) (by decide) (XS.bipush X.here hx rfl (hb hby emethod_5_d12) (XS.iloadN X.here hx rfl (hb hby emethod_5_d14) rfl (XS.iadd X.here hx rfl (hb hby emethod_5_d15) rfl (XS.bipush X.here hx rfl (hb hby emethod_5_d16) (XS.isub X.here hx rfl (hb hby emethod_5_d18) rfl (XS.i2c X.here hx rfl (hb hby emethod_5_d19) rfl k_))))))) ?_
    refine own_retN X hx hlk (t := .char) Bd.returns (by simp) (hb hby emethod_5_d20) (by decide) (by decide) ?_
    rw [eT]
    have e_ : own_hx d = ((65 : Int32) + d) - (10 : Int32) := (if_neg hc1).trans (own_hx2 d).symm
    have b_ := own_hxB dd.1 dd.2
    exact ⟨by show some (Value.int ((((65 : Int32) + d) - (10 : Int32)).toUInt32.toUInt16.toUInt32.toInt32.toUInt32.toUInt16.toUInt32.toInt32)) = _; rw [← e_, own_i2cS b_.1 (Int.lt_trans b_.2 (by decide)), own_i2cS b_.1 (Int.lt_trans b_.2 (by decide))], N, hh0⟩
theorem emethod_6_d0 : decode method_6_code 0 = .ok (.iload_n 2, 1) := by decide +kernel
theorem emethod_6_d1 : decode method_6_code 1 = .ok (.ifCond .ne 5, 3) := by decide +kernel
theorem emethod_6_d4 : decode method_6_code 4 = .ok (.iload_n 1, 1) := by decide +kernel
theorem emethod_6_d5 : decode method_6_code 5 = .ok (.ireturn, 1) := by decide +kernel
theorem own_put0_pn : plainFor (⟨"com/example/rows_to_regions/rowstoregions/KeyTextUnescapePinLaw", "put", "([CIZZI)I"⟩ : MethodName) = true := by first | exact plainFor_of_name (by first | (simp [plainName, overriddenIn]; done) | decide +kernel) | decide +kernel | exact Jvm.Free.JP.mathPlain rfl (by decide +kernel)
theorem own_put0_ef (m : MethodId) (x0 : Addr) (x1 : Int32) (x2 : Int32) (x3 : Int32) (x4 : Int32) : entryFrame m #[(.ref x0), (.int x1), (.int x2), (.int x3), (.int x4)] 6 = mkF m 0 #[.val (.ref x0), .val (.int x1), .val (.int x2), .val (.int x3), .val (.int x4), .unset] [] := by first | (simp [entryFrame, mkF, argsToLocals, Value.category]; done) | rfl
def own_put0_Q (Z : State) (ca : Addr) (j : Int32) (f : Int32) (q : Int32) (h0 : Heap) (n0 : Nat) (v : Option Value) (h : Heap) (L : List Loc) : Prop := v = some (.int j) ∧ Fr n0 L ∧ h = h0
set_option maxRecDepth 65536 in
set_option maxHeartbeats 40000000 in
theorem own_put0 (l : Launch) (Z : State) (a0 : Array Value) (hw : ∀ d ∈ tables_1, d.before a0 Z = true) (ws : List Jvm.Cond) (ca : Addr) (j : Int32) (f : Int32) (q : Int32) (h0 : Heap) (n0 : Nat) (O : Old Z n0 h0)  :
    MetFree l (⟨"com/example/rows_to_regions/rowstoregions/KeyTextUnescapePinLaw", "put", "([CIZZI)I"⟩ : MethodName) (head1 (Jvm.Cond.code (⟨"com/example/rows_to_regions/rowstoregions/KeyTextUnescapePinLaw", "put", "([CIZZI)I"⟩ : MethodName) method_6_code 6 (some .int) :: ws) ({ frames := 0, cells := 0, slots := 0, locals := 0 } : Room)) (fun a U => a = #[(.ref ca), (.int j), (.int 0), (.int f), (.int q)] ∧ Z.Warmed39 U.vm ∧ U.heap = h0) (fun _ _ _ _ _ => True) (fun _ U o U' => ∃ v L, o = .returned v ∧ own_put0_Q Z ca j f q h0 n0 v U'.heap L ∧ FrameEnd U o U' L ({ frames := 0, cells := 0, slots := 0, locals := 0 } : Room).cells ({ frames := 0, cells := 0, slots := 0, locals := 0 } : Room).slots) := by
  refine MetFree.of_bodySF own_put0_pn hisR ?_
  intro p e s m args below meth c s₁ Bd hml0 hP hK
  obtain ⟨rfl, hZ, hh⟩ := hP
  have hx := Bd.exec
  have hby := Bd.bytes
  have hlk := Bd.notSynchronized
  have hml : c.maxLocals = 6 := hml0
  have hown : s.vm.findClass "com/example/rows_to_regions/rowstoregions/KeyTextUnescapePinLaw" = some m.cls := findClass_of_methodNamed Bd.named
  have hnm := (name_of_methodNamed Bd.named Bd.method).1
  have X : Stand p l e ({ frames := 0, cells := 0, slots := 0, locals := 0 } : Room) s m #[(.ref ca), (.int j), (.int 0), (.int f), (.int q)] below meth c s₁ [] 0 0 := Stand.of_body Bd
  have eT : s₁.heap = h0 := by rw [← hh, Bd.state]; rfl
  have N := Fr.nil n0
  have K0 := Keep.refl h0 []
  show own_Ends p e below (own_Post s below (own_put0_Q Z ca j f q h0 n0) ({ frames := 0, cells := 0, slots := 0, locals := 0 } : Room).cells ({ frames := 0, cells := 0, slots := 0, locals := 0 } : Room).slots) s₁ (entryFrame m #[(.ref ca), (.int j), (.int 0), (.int f), (.int q)] 6)
  rw [own_put0_ef m ca j (0 : Int32) f q]
  obtain ⟨T, hT⟩ : ∃ z, z = s₁ := ⟨_, rfl⟩
  rw [← hT] at X eT ⊢
  obtain ⟨h, hh0⟩ : ∃ z, z = h0 := ⟨_, rfl⟩
  rw [← hh0] at eT
  replace O : Old Z n0 h := by rw [hh0]; exact O
  replace K0 : Keep h0 h [] := by rw [hh0]; exact K0
  refine own_via (g' := (mkF m 5 #[.val (.ref ca), .val (.int j), .val (.int 0), .val (.int f), .val (.int q), .unset] [(.int j)])) (fun t_ k_ => XS.iloadN X.here hx rfl (hb hby emethod_6_d0) rfl (XS.ifNo X.here hx rfl (hb hby emethod_6_d1) rfl ((if0 _ _).trans (teq (by decide : (0 : Int32) = (0 : Int32))).2) (XS.iloadN X.here hx rfl (hb hby emethod_6_d4) rfl k_))) ?_
  refine own_retW X hx hlk Bd.returns rfl (Or.inl ⟨rfl, Or.inl rfl, _, rfl⟩) (hb hby emethod_6_d5) (by decide) (by decide) ?_
  rw [eT]
  exact ⟨rfl, N, hh0⟩
theorem emethod_6_d6 : decode method_6_code 6 = .ok (.iload_n 3, 1) := by decide +kernel
theorem emethod_6_d7 : decode method_6_code 7 = .ok (.ifCond .ne 15, 3) := by decide +kernel
theorem emethod_6_d10 : decode method_6_code 10 = .ok (.aload_n 0, 1) := by decide +kernel
theorem emethod_6_d11 : decode method_6_code 11 = .ok (.iload_n 1, 1) := by decide +kernel
theorem emethod_6_d12 : decode method_6_code 12 = .ok (.iload 4, 2) := by decide +kernel
theorem emethod_6_d14 : decode method_6_code 14 = .ok (.invokestatic 33, 3) := by decide +kernel
theorem emethod_6_d17 : decode method_6_code 17 = .ok (.castore, 1) := by decide +kernel
theorem emethod_6_d18 : decode method_6_code 18 = .ok (.iload_n 1, 1) := by decide +kernel
theorem emethod_6_d19 : decode method_6_code 19 = .ok (.iconst 1, 1) := by decide +kernel
theorem emethod_6_d20 : decode method_6_code 20 = .ok (.iadd, 1) := by decide +kernel
theorem emethod_6_d21 : decode method_6_code 21 = .ok (.ireturn, 1) := by decide +kernel
theorem own_putP_pn : plainFor (⟨"com/example/rows_to_regions/rowstoregions/KeyTextUnescapePinLaw", "put", "([CIZZI)I"⟩ : MethodName) = true := by first | exact plainFor_of_name (by first | (simp [plainName, overriddenIn]; done) | decide +kernel) | decide +kernel | exact Jvm.Free.JP.mathPlain rfl (by decide +kernel)
theorem own_putP_ef (m : MethodId) (x0 : Addr) (x1 : Int32) (x2 : Int32) (x3 : Int32) (x4 : Int32) : entryFrame m #[(.ref x0), (.int x1), (.int x2), (.int x3), (.int x4)] 6 = mkF m 0 #[.val (.ref x0), .val (.int x1), .val (.int x2), .val (.int x3), .val (.int x4), .unset] [] := by first | (simp [entryFrame, mkF, argsToLocals, Value.category]; done) | rfl
def own_putP_Q (Z : State) (ca : Addr) (j : Int32) (q : Int32) (kc : ClassId) (N_ : Int32) (cs : List Value) (h0 : Heap) (n0 : Nat) (v : Option Value) (h : Heap) (L : List Loc) : Prop := v = some (.int (j + (1 : Int32))) ∧ Fr n0 L ∧ Keep h0 h [ca] ∧ Arv Z h ca kc .char N_ (cs ++ [Value.int (own_pr q)]) (.int 0)
set_option maxRecDepth 65536 in
set_option maxHeartbeats 40000000 in
theorem own_putP (l : Launch) (Z : State) (a0 : Array Value) (hw : ∀ d ∈ tables_1, d.before a0 Z = true) (ws : List Jvm.Cond) (ca : Addr) (j : Int32) (q : Int32) (kc : ClassId) (N_ : Int32) (cs : List Value) (h0 : Heap) (n0 : Nat) (O : Old Z n0 h0) (V_ca : Arv Z h0 ca kc .char N_ cs (.int 0)) (g_ca : n0 ≤ ca) (hj0 : ¬ j < 0 ∧ j < N_) (hl0 : cs.length = j.toNatClampNeg) :
    MetFree l (⟨"com/example/rows_to_regions/rowstoregions/KeyTextUnescapePinLaw", "put", "([CIZZI)I"⟩ : MethodName) (head1 (Jvm.Cond.code (⟨"com/example/rows_to_regions/rowstoregions/KeyTextUnescapePinLaw", "put", "([CIZZI)I"⟩ : MethodName) method_6_code 6 (some .int) :: ws) ({ frames := 1, cells := 0, slots := 0, locals := 15 } : Room)) (fun a U => a = #[(.ref ca), (.int j), (.int 1), (.int 0), (.int q)] ∧ Z.Warmed39 U.vm ∧ U.heap = h0) (fun _ _ _ _ _ => True) (fun _ U o U' => ∃ v L, o = .returned v ∧ own_putP_Q Z ca j q kc N_ cs h0 n0 v U'.heap L ∧ FrameEnd U o U' L ({ frames := 1, cells := 0, slots := 0, locals := 15 } : Room).cells ({ frames := 1, cells := 0, slots := 0, locals := 15 } : Room).slots) := by
  refine MetFree.of_bodySF own_putP_pn hisR ?_
  intro p e s m args below meth c s₁ Bd hml0 hP hK
  obtain ⟨rfl, hZ, hh⟩ := hP
  have hx := Bd.exec
  have hby := Bd.bytes
  have hlk := Bd.notSynchronized
  have hml : c.maxLocals = 6 := hml0
  have hown : s.vm.findClass "com/example/rows_to_regions/rowstoregions/KeyTextUnescapePinLaw" = some m.cls := findClass_of_methodNamed Bd.named
  have hnm := (name_of_methodNamed Bd.named Bd.method).1
  have X : Stand p l e ({ frames := 1, cells := 0, slots := 0, locals := 15 } : Room) s m #[(.ref ca), (.int j), (.int 1), (.int 0), (.int q)] below meth c s₁ [] 0 0 := Stand.of_body Bd
  have eT : s₁.heap = h0 := by rw [← hh, Bd.state]; rfl
  have N := Fr.nil n0
  have K0 := Keep.refl h0 [ca]
  show own_Ends p e below (own_Post s below (own_putP_Q Z ca j q kc N_ cs h0 n0) ({ frames := 1, cells := 0, slots := 0, locals := 15 } : Room).cells ({ frames := 1, cells := 0, slots := 0, locals := 15 } : Room).slots) s₁ (entryFrame m #[(.ref ca), (.int j), (.int 1), (.int 0), (.int q)] 6)
  rw [own_putP_ef m ca j (1 : Int32) (0 : Int32) q]
  obtain ⟨T, hT⟩ : ∃ z, z = s₁ := ⟨_, rfl⟩
  rw [← hT] at X eT ⊢
  obtain ⟨h, hh0⟩ : ∃ z, z = h0 := ⟨_, rfl⟩
  rw [← hh0] at eT
  replace O : Old Z n0 h := by rw [hh0]; exact O
  replace K0 : Keep h0 h [ca] := by rw [hh0]; exact K0
  rw [← hh0] at V_ca
  refine own_via (g' := (mkF m 14 (own_A13 ca j 1 0 q) [(.int q), (.int j), (.ref ca)])) (fun t_ k_ => XS.iloadN X.here hx rfl (hb hby emethod_6_d0) rfl (XS.ifYes X.here hx rfl (pc0 := 1) (pc' := 6) rfl (hb hby emethod_6_d1) rfl ((if0 _ _).trans (feq (by decide : ¬ ((1 : Int32) = (0 : Int32)))).2) (by decide) (by decide) (XS.iloadN X.here hx rfl (hb hby emethod_6_d6) rfl (XS.ifNo X.here hx rfl (hb hby emethod_6_d7) rfl ((if0 _ _).trans (teq (by decide : (0 : Int32) = (0 : Int32))).2) (XS.aloadN X.here hx rfl (hb hby emethod_6_d10) rfl rfl (XS.iloadN X.here hx rfl (hb hby emethod_6_d11) rfl (XS.iload X.here hx rfl (hb hby emethod_6_d12) rfl k_))))))) ?_
  obtain ⟨_, _, ⟨T, Lq, kq, nq⟩, -, X, ⟨Lc, hQ, lq, yq, zq⟩, st⟩ := Jvm.LawKit.callS X hx (y := own_y11) hown (mvT hZ (hw _ (own_w 60 rfl))) (mvT hZ (hw _ (own_w 61 rfl))) (mvT hZ (hw _ (own_w 2 rfl))) (mvT hZ (hw _ (own_w 62 rfl))) (by decide) (backOf (W := 2) (own_printable l Z a0 hw [] q h n0 O ) hZ (hw _ (own_w 62 rfl)) (hw _ (own_w 2 rfl)) (by decide) (by decide)) (g := (mkF m 14 (own_A13 ca j 1 0 q) [(.int q), (.int j), (.ref ca)])) rfl (by rw [hml]; rfl) (argsL := [(.int q)]) (rest := [(.int j), (.ref ca)]) (lenOf own_pd7 rfl) rfl (by show 2 * 0 + _ ≤ _; exact Nat.le_of_eq rfl) (hb hby emethod_6_d14) (fun _ _ => ⟨rfl, eT, (by decide : 0 + 0 ≤ _), (by decide : 0 + 0 ≤ _)⟩)
  dsimp only [Pt.U, Pt.locs, Pt.cells, Pt.slots] at X lq yq zq st hQ
  subst lq yq zq
  obtain ⟨rfl, Nq, eT⟩ := hQ
  replace N := Fr.app N Nq
  refine own_via (g' := (mkF m 17 (own_A13 ca j 1 0 q) [(.int (own_pr q)), (.int j), (.ref ca)])) st ?_
  replace V_ca : Arv Z h ca kc .char N_ (cs ++ List.replicate 1 (Value.int (0 : Int32))) (.int 0) := V_ca.pad (pad_rep cs (.int 0) 1)
  have hl_ : cs.length = j.toNatClampNeg := hl0
  obtain ⟨cl_, Ar_, qk_, Sz_, Nn_, Hs_, Gs_⟩ := id V_ca
  have hin_ : ¬ (j < 0 ∨ cl_.slots.size ≤ (j).toNatClampNeg) := inb_of Sz_ hj0
  obtain ⟨T, h1, X, eT, W, st⟩ := stC X hx hZ eT Ar_ (j := j) hin_ (g := (mkF m 17 (own_A13 ca j 1 0 q) [(.int (own_pr q)), (.int j), (.ref ca)])) rfl rfl (hb hby emethod_6_d17)
  replace V_ca : Arv Z h1 ca kc .char N_ ((cs ++ List.replicate 1 (Value.int (0 : Int32))).set j.toNatClampNeg (Value.int (nar .char (own_pr q)))) (.int 0) := Arv.set Ar_ qk_ Sz_ Nn_ Hs_ Gs_ (fits_nar_char _) W j.toNatClampNeg rfl (by rw [List.length_append, hl_, List.length_replicate]; exact Nat.lt_succ_self _)
  replace O := O.wr W g_ca
  replace K0 := K0.wr W (Or.inl (List.mem_of_getElem? (i := 0) rfl))
  replace N := Fr.snoc X N g_ca
  refine own_via (g' := (mkF m 18 (own_A13 ca j 1 0 q) [])) st ?_
  replace V_ca : Arv Z h1 ca kc .char N_ (cs ++ [Value.int (nar .char (own_pr q))]) (.int 0) := by rw [← own_setEnd hl_]; exact V_ca
  rw [own_narc (show 0 ≤ (own_pr q).toInt by have := own_prB q; omega) (by have := own_prB q; omega)] at V_ca
  replace V_ca : Arv Z h1 ca kc .char N_ (cs ++ [Value.int (own_pr q)]) (.int 0) := by
    first
      | exact V_ca
      | simpa only [List.append_assoc, List.cons_append, List.nil_append] using V_ca
  refine own_via (g' := (mkF m 21 (own_A13 ca j 1 0 q) [(.int (j + (1 : Int32)))])) (fun t_ k_ => XS.iloadN X.here hx rfl (hb hby emethod_6_d18) rfl (XS.iconst X.here hx rfl (hb hby emethod_6_d19) (XS.iadd X.here hx rfl (hb hby emethod_6_d20) rfl k_))) ?_
  refine own_retW X hx hlk Bd.returns rfl (Or.inl ⟨rfl, Or.inl rfl, _, rfl⟩) (hb hby emethod_6_d21) (by decide) (by decide) ?_
  rw [eT]
  exact ⟨rfl, N, K0, V_ca⟩
theorem emethod_6_d22 : decode method_6_code 22 = .ok (.iload 4, 2) := by decide +kernel
theorem emethod_6_d24 : decode method_6_code 24 = .ok (.sipush 255, 3) := by decide +kernel
theorem emethod_6_d27 : decode method_6_code 27 = .ok (.iand, 1) := by decide +kernel
theorem emethod_6_d28 : decode method_6_code 28 = .ok (.istore 5, 2) := by decide +kernel
theorem emethod_6_d30 : decode method_6_code 30 = .ok (.aload_n 0, 1) := by decide +kernel
theorem emethod_6_d31 : decode method_6_code 31 = .ok (.iload_n 1, 1) := by decide +kernel
theorem emethod_6_d32 : decode method_6_code 32 = .ok (.bipush 92, 2) := by decide +kernel
theorem emethod_6_d34 : decode method_6_code 34 = .ok (.castore, 1) := by decide +kernel
theorem emethod_6_d35 : decode method_6_code 35 = .ok (.aload_n 0, 1) := by decide +kernel
theorem emethod_6_d36 : decode method_6_code 36 = .ok (.iload_n 1, 1) := by decide +kernel
theorem emethod_6_d37 : decode method_6_code 37 = .ok (.iconst 1, 1) := by decide +kernel
theorem emethod_6_d38 : decode method_6_code 38 = .ok (.iadd, 1) := by decide +kernel
theorem emethod_6_d39 : decode method_6_code 39 = .ok (.bipush 120, 2) := by decide +kernel
theorem emethod_6_d41 : decode method_6_code 41 = .ok (.castore, 1) := by decide +kernel
theorem emethod_6_d42 : decode method_6_code 42 = .ok (.aload_n 0, 1) := by decide +kernel
theorem emethod_6_d43 : decode method_6_code 43 = .ok (.iload_n 1, 1) := by decide +kernel
theorem emethod_6_d44 : decode method_6_code 44 = .ok (.iconst 2, 1) := by decide +kernel
theorem emethod_6_d45 : decode method_6_code 45 = .ok (.iadd, 1) := by decide +kernel
theorem emethod_6_d46 : decode method_6_code 46 = .ok (.iload 5, 2) := by decide +kernel
theorem emethod_6_d48 : decode method_6_code 48 = .ok (.iconst 4, 1) := by decide +kernel
theorem emethod_6_d49 : decode method_6_code 49 = .ok (.iushr, 1) := by decide +kernel
theorem emethod_6_d50 : decode method_6_code 50 = .ok (.invokestatic 37, 3) := by decide +kernel
theorem emethod_6_d53 : decode method_6_code 53 = .ok (.castore, 1) := by decide +kernel
theorem emethod_6_d54 : decode method_6_code 54 = .ok (.aload_n 0, 1) := by decide +kernel
theorem emethod_6_d55 : decode method_6_code 55 = .ok (.iload_n 1, 1) := by decide +kernel
theorem emethod_6_d56 : decode method_6_code 56 = .ok (.iconst 3, 1) := by decide +kernel
theorem emethod_6_d57 : decode method_6_code 57 = .ok (.iadd, 1) := by decide +kernel
theorem emethod_6_d58 : decode method_6_code 58 = .ok (.iload 5, 2) := by decide +kernel
theorem emethod_6_d60 : decode method_6_code 60 = .ok (.bipush 15, 2) := by decide +kernel
theorem emethod_6_d62 : decode method_6_code 62 = .ok (.iand, 1) := by decide +kernel
theorem emethod_6_d63 : decode method_6_code 63 = .ok (.invokestatic 37, 3) := by decide +kernel
theorem emethod_6_d66 : decode method_6_code 66 = .ok (.castore, 1) := by decide +kernel
theorem emethod_6_d67 : decode method_6_code 67 = .ok (.iload_n 1, 1) := by decide +kernel
theorem emethod_6_d68 : decode method_6_code 68 = .ok (.iconst 4, 1) := by decide +kernel
theorem emethod_6_d69 : decode method_6_code 69 = .ok (.iadd, 1) := by decide +kernel
theorem emethod_6_d70 : decode method_6_code 70 = .ok (.ireturn, 1) := by decide +kernel
theorem own_putE_pn : plainFor (⟨"com/example/rows_to_regions/rowstoregions/KeyTextUnescapePinLaw", "put", "([CIZZI)I"⟩ : MethodName) = true := by first | exact plainFor_of_name (by first | (simp [plainName, overriddenIn]; done) | decide +kernel) | decide +kernel | exact Jvm.Free.JP.mathPlain rfl (by decide +kernel)
theorem own_putE_ef (m : MethodId) (x0 : Addr) (x1 : Int32) (x2 : Int32) (x3 : Int32) (x4 : Int32) : entryFrame m #[(.ref x0), (.int x1), (.int x2), (.int x3), (.int x4)] 6 = mkF m 0 #[.val (.ref x0), .val (.int x1), .val (.int x2), .val (.int x3), .val (.int x4), .unset] [] := by first | (simp [entryFrame, mkF, argsToLocals, Value.category]; done) | rfl
def own_putE_Q (Z : State) (ca : Addr) (j : Int32) (q : Int32) (kc : ClassId) (N_ : Int32) (cs : List Value) (h0 : Heap) (n0 : Nat) (v : Option Value) (h : Heap) (L : List Loc) : Prop := v = some (.int (j + (4 : Int32))) ∧ Fr n0 L ∧ Keep h0 h [ca] ∧ Arv Z h ca kc .char N_ (cs ++ [Value.int (92 : Int32), Value.int (120 : Int32), Value.int (own_hx ((q &&& (255 : Int32)) / (16 : Int32))), Value.int (own_hx ((q &&& (255 : Int32)) % (16 : Int32)))]) (.int 0)
set_option maxRecDepth 65536 in
set_option maxHeartbeats 40000000 in
theorem own_putE (l : Launch) (Z : State) (a0 : Array Value) (hw : ∀ d ∈ tables_1, d.before a0 Z = true) (ws : List Jvm.Cond) (ca : Addr) (j : Int32) (q : Int32) (kc : ClassId) (N_ : Int32) (cs : List Value) (h0 : Heap) (n0 : Nat) (O : Old Z n0 h0) (V_ca : Arv Z h0 ca kc .char N_ cs (.int 0)) (g_ca : n0 ≤ ca) (hj0 : ¬ j < 0 ∧ j < N_) (hj1 : ¬ (j + (1 : Int32)) < 0 ∧ (j + (1 : Int32)) < N_) (hj2 : ¬ (j + (2 : Int32)) < 0 ∧ (j + (2 : Int32)) < N_) (hj3 : ¬ (j + (3 : Int32)) < 0 ∧ (j + (3 : Int32)) < N_) (hl0 : cs.length = j.toNatClampNeg) (hl1 : cs.length + 1 = (j + (1 : Int32)).toNatClampNeg) (hl2 : cs.length + 2 = (j + (2 : Int32)).toNatClampNeg) (hl3 : cs.length + 3 = (j + (3 : Int32)).toNatClampNeg) :
    MetFree l (⟨"com/example/rows_to_regions/rowstoregions/KeyTextUnescapePinLaw", "put", "([CIZZI)I"⟩ : MethodName) (head1 (Jvm.Cond.code (⟨"com/example/rows_to_regions/rowstoregions/KeyTextUnescapePinLaw", "put", "([CIZZI)I"⟩ : MethodName) method_6_code 6 (some .int) :: ws) ({ frames := 1, cells := 0, slots := 0, locals := 15 } : Room)) (fun a U => a = #[(.ref ca), (.int j), (.int 1), (.int 1), (.int q)] ∧ Z.Warmed39 U.vm ∧ U.heap = h0) (fun _ _ _ _ _ => True) (fun _ U o U' => ∃ v L, o = .returned v ∧ own_putE_Q Z ca j q kc N_ cs h0 n0 v U'.heap L ∧ FrameEnd U o U' L ({ frames := 1, cells := 0, slots := 0, locals := 15 } : Room).cells ({ frames := 1, cells := 0, slots := 0, locals := 15 } : Room).slots) := by
  refine MetFree.of_bodySF own_putE_pn hisR ?_
  intro p e s m args below meth c s₁ Bd hml0 hP hK
  obtain ⟨rfl, hZ, hh⟩ := hP
  have hx := Bd.exec
  have hby := Bd.bytes
  have hlk := Bd.notSynchronized
  have hml : c.maxLocals = 6 := hml0
  have hown : s.vm.findClass "com/example/rows_to_regions/rowstoregions/KeyTextUnescapePinLaw" = some m.cls := findClass_of_methodNamed Bd.named
  have hnm := (name_of_methodNamed Bd.named Bd.method).1
  have X : Stand p l e ({ frames := 1, cells := 0, slots := 0, locals := 15 } : Room) s m #[(.ref ca), (.int j), (.int 1), (.int 1), (.int q)] below meth c s₁ [] 0 0 := Stand.of_body Bd
  have eT : s₁.heap = h0 := by rw [← hh, Bd.state]; rfl
  have N := Fr.nil n0
  have K0 := Keep.refl h0 [ca]
  show own_Ends p e below (own_Post s below (own_putE_Q Z ca j q kc N_ cs h0 n0) ({ frames := 1, cells := 0, slots := 0, locals := 15 } : Room).cells ({ frames := 1, cells := 0, slots := 0, locals := 15 } : Room).slots) s₁ (entryFrame m #[(.ref ca), (.int j), (.int 1), (.int 1), (.int q)] 6)
  rw [own_putE_ef m ca j (1 : Int32) (1 : Int32) q]
  obtain ⟨T, hT⟩ : ∃ z, z = s₁ := ⟨_, rfl⟩
  rw [← hT] at X eT ⊢
  obtain ⟨h, hh0⟩ : ∃ z, z = h0 := ⟨_, rfl⟩
  rw [← hh0] at eT
  replace O : Old Z n0 h := by rw [hh0]; exact O
  replace K0 : Keep h0 h [ca] := by rw [hh0]; exact K0
  rw [← hh0] at V_ca
  refine own_via (g' := (mkF m 32 (own_A11 ca j 1 1 q (q &&& (255 : Int32))) [(.int j), (.ref ca)])) (fun t_ k_ => XS.iloadN X.here hx rfl (hb hby emethod_6_d0) rfl (XS.ifYes X.here hx rfl (pc0 := 1) (pc' := 6) rfl (hb hby emethod_6_d1) rfl ((if0 _ _).trans (feq (by decide : ¬ ((1 : Int32) = (0 : Int32)))).2) (by decide) (by decide) (XS.iloadN X.here hx rfl (hb hby emethod_6_d6) rfl (XS.ifYes X.here hx rfl (pc0 := 7) (pc' := 22) rfl (hb hby emethod_6_d7) rfl ((if0 _ _).trans (feq (by decide : ¬ ((1 : Int32) = (0 : Int32)))).2) (by decide) (by decide) (XS.iload X.here hx rfl (hb hby emethod_6_d22) rfl (XS.sipush X.here hx rfl (hb hby emethod_6_d24) (XS.iand X.here hx rfl (hb hby emethod_6_d27) rfl (XS.istore X.here hx rfl (hb hby emethod_6_d28) rfl (l' := (own_A11 ca j 1 1 q (q &&& (255 : Int32)))) rfl (XS.aloadN X.here hx rfl (hb hby emethod_6_d30) rfl rfl (XS.iloadN X.here hx rfl (hb hby emethod_6_d31) rfl k_)))))))))) ?_
  refine own_via (g' := (mkF m 34 (own_A11 ca j 1 1 q (q &&& (255 : Int32))) [(.int 92), (.int j), (.ref ca)])) (fun t_ k_ => XS.bipush X.here hx rfl (hb hby emethod_6_d32) k_) ?_
  replace V_ca : Arv Z h ca kc .char N_ (cs ++ List.replicate 1 (Value.int (0 : Int32))) (.int 0) := V_ca.pad (pad_rep cs (.int 0) 1)
  have hl_ : cs.length = j.toNatClampNeg := hl0
  obtain ⟨cl_, Ar_, qk_, Sz_, Nn_, Hs_, Gs_⟩ := id V_ca
  have hin_ : ¬ (j < 0 ∨ cl_.slots.size ≤ (j).toNatClampNeg) := inb_of Sz_ hj0
  obtain ⟨T, h1, X, eT, W, st⟩ := stC X hx hZ eT Ar_ (j := j) hin_ (g := (mkF m 34 (own_A11 ca j 1 1 q (q &&& (255 : Int32))) [(.int 92), (.int j), (.ref ca)])) rfl rfl (hb hby emethod_6_d34)
  replace V_ca : Arv Z h1 ca kc .char N_ ((cs ++ List.replicate 1 (Value.int (0 : Int32))).set j.toNatClampNeg (Value.int (nar .char (92 : Int32)))) (.int 0) := Arv.set Ar_ qk_ Sz_ Nn_ Hs_ Gs_ (fits_nar_char _) W j.toNatClampNeg rfl (by rw [List.length_append, hl_, List.length_replicate]; exact Nat.lt_succ_self _)
  replace O := O.wr W g_ca
  replace K0 := K0.wr W (Or.inl (List.mem_of_getElem? (i := 0) rfl))
  replace N := Fr.snoc X N g_ca
  refine own_via (g' := (mkF m 35 (own_A11 ca j 1 1 q (q &&& (255 : Int32))) [])) st ?_
  replace V_ca : Arv Z h1 ca kc .char N_ (cs ++ [Value.int (nar .char (92 : Int32))]) (.int 0) := by rw [← own_setEnd hl_]; exact V_ca
  rw [own_n92] at V_ca
  replace V_ca : Arv Z h1 ca kc .char N_ (cs ++ [Value.int (92 : Int32)]) (.int 0) := by
    first
      | exact V_ca
      | simpa only [List.append_assoc, List.cons_append, List.nil_append] using V_ca
  refine own_via (g' := (mkF m 41 (own_A11 ca j 1 1 q (q &&& (255 : Int32))) [(.int 120), (.int (j + (1 : Int32))), (.ref ca)])) (fun t_ k_ => XS.aloadN X.here hx rfl (hb hby emethod_6_d35) rfl rfl (XS.iloadN X.here hx rfl (hb hby emethod_6_d36) rfl (XS.iconst X.here hx rfl (hb hby emethod_6_d37) (XS.iadd X.here hx rfl (hb hby emethod_6_d38) rfl (XS.bipush X.here hx rfl (hb hby emethod_6_d39) k_))))) ?_
  replace V_ca : Arv Z h1 ca kc .char N_ ((cs ++ [Value.int (92 : Int32)]) ++ List.replicate 1 (Value.int (0 : Int32))) (.int 0) := V_ca.pad (pad_rep (cs ++ [Value.int (92 : Int32)]) (.int 0) 1)
  have hl_ : (cs ++ [Value.int (92 : Int32)]).length = (j + (1 : Int32)).toNatClampNeg := (by simp only [List.length_append, List.length_cons, List.length_nil]; exact hl1)
  obtain ⟨cl_, Ar_, qk_, Sz_, Nn_, Hs_, Gs_⟩ := id V_ca
  have hin_ : ¬ ((j + (1 : Int32)) < 0 ∨ cl_.slots.size ≤ ((j + (1 : Int32))).toNatClampNeg) := inb_of Sz_ hj1
  obtain ⟨T, h2, X, eT, W, st⟩ := stC X hx hZ eT Ar_ (j := (j + (1 : Int32))) hin_ (g := (mkF m 41 (own_A11 ca j 1 1 q (q &&& (255 : Int32))) [(.int 120), (.int (j + (1 : Int32))), (.ref ca)])) rfl rfl (hb hby emethod_6_d41)
  replace V_ca : Arv Z h2 ca kc .char N_ (((cs ++ [Value.int (92 : Int32)]) ++ List.replicate 1 (Value.int (0 : Int32))).set (j + (1 : Int32)).toNatClampNeg (Value.int (nar .char (120 : Int32)))) (.int 0) := Arv.set Ar_ qk_ Sz_ Nn_ Hs_ Gs_ (fits_nar_char _) W (j + (1 : Int32)).toNatClampNeg rfl (by rw [List.length_append, hl_, List.length_replicate]; exact Nat.lt_succ_self _)
  replace O := O.wr W g_ca
  replace K0 := K0.wr W (Or.inl (List.mem_of_getElem? (i := 0) rfl))
  replace N := Fr.snoc X N g_ca
  refine own_via (g' := (mkF m 42 (own_A11 ca j 1 1 q (q &&& (255 : Int32))) [])) st ?_
  replace V_ca : Arv Z h2 ca kc .char N_ ((cs ++ [Value.int (92 : Int32)]) ++ [Value.int (nar .char (120 : Int32))]) (.int 0) := by rw [← own_setEnd hl_]; exact V_ca
  rw [own_n120] at V_ca
  replace V_ca : Arv Z h2 ca kc .char N_ (cs ++ [Value.int (92 : Int32), Value.int (120 : Int32)]) (.int 0) := by
    first
      | exact V_ca
      | simpa only [List.append_assoc, List.cons_append, List.nil_append] using V_ca
  refine own_via (g' := (mkF m 50 (own_A11 ca j 1 1 q (q &&& (255 : Int32))) [(.int (((q &&& (255 : Int32)).toUInt32 >>> ((4 : Int32) &&& 31).toUInt32).toInt32)), (.int (j + (2 : Int32))), (.ref ca)])) (fun t_ k_ => XS.aloadN X.here hx rfl (hb hby emethod_6_d42) rfl rfl (XS.iloadN X.here hx rfl (hb hby emethod_6_d43) rfl (XS.iconst X.here hx rfl (hb hby emethod_6_d44) (XS.iadd X.here hx rfl (hb hby emethod_6_d45) rfl (XS.iload X.here hx rfl (hb hby emethod_6_d46) rfl (XS.iconst X.here hx rfl (hb hby emethod_6_d48) (XS.iushr X.here hx rfl (hb hby emethod_6_d49) rfl k_))))))) ?_
  rw [(own_hi (own_v255 q).1 (own_v255 q).2).1]
  obtain ⟨_, _, ⟨T, Lq, kq, nq⟩, -, X, ⟨Lc, hQ, lq, yq, zq⟩, st⟩ := Jvm.LawKit.callS X hx (y := own_y12) hown (mvT hZ (hw _ (own_w 57 rfl))) (mvT hZ (hw _ (own_w 58 rfl))) (mvT hZ (hw _ (own_w 2 rfl))) (mvT hZ (hw _ (own_w 59 rfl))) (by decide) (backOf (W := 2) (own_hexM l Z a0 hw [] ((q &&& (255 : Int32)) / (16 : Int32)) h2 n0 O (own_hi (own_v255 q).1 (own_v255 q).2).2) hZ (hw _ (own_w 59 rfl)) (hw _ (own_w 2 rfl)) (by decide) (by decide)) (g := (mkF m 50 (own_A11 ca j 1 1 q (q &&& (255 : Int32))) [(.int ((q &&& (255 : Int32)) / (16 : Int32))), (.int (j + (2 : Int32))), (.ref ca)])) rfl (by rw [hml]; rfl) (argsL := [(.int ((q &&& (255 : Int32)) / (16 : Int32)))]) (rest := [(.int (j + (2 : Int32))), (.ref ca)]) (lenOf own_pd7 rfl) rfl (by show 2 * 0 + _ ≤ _; exact Nat.le_of_eq rfl) (hb hby emethod_6_d50) (fun _ _ => ⟨rfl, eT, (by decide : 0 + 0 ≤ _), (by decide : 0 + 0 ≤ _)⟩)
  dsimp only [Pt.U, Pt.locs, Pt.cells, Pt.slots] at X lq yq zq st hQ
  subst lq yq zq
  obtain ⟨rfl, Nq, eT⟩ := hQ
  replace N := Fr.app N Nq
  refine own_via (g' := (mkF m 53 (own_A11 ca j 1 1 q (q &&& (255 : Int32))) [(.int (own_hx ((q &&& (255 : Int32)) / (16 : Int32)))), (.int (j + (2 : Int32))), (.ref ca)])) st ?_
  replace V_ca : Arv Z h2 ca kc .char N_ ((cs ++ [Value.int (92 : Int32), Value.int (120 : Int32)]) ++ List.replicate 1 (Value.int (0 : Int32))) (.int 0) := V_ca.pad (pad_rep (cs ++ [Value.int (92 : Int32), Value.int (120 : Int32)]) (.int 0) 1)
  have hl_ : (cs ++ [Value.int (92 : Int32), Value.int (120 : Int32)]).length = (j + (2 : Int32)).toNatClampNeg := (by simp only [List.length_append, List.length_cons, List.length_nil]; exact hl2)
  obtain ⟨cl_, Ar_, qk_, Sz_, Nn_, Hs_, Gs_⟩ := id V_ca
  have hin_ : ¬ ((j + (2 : Int32)) < 0 ∨ cl_.slots.size ≤ ((j + (2 : Int32))).toNatClampNeg) := inb_of Sz_ hj2
  obtain ⟨T, h3, X, eT, W, st⟩ := stC X hx hZ eT Ar_ (j := (j + (2 : Int32))) hin_ (g := (mkF m 53 (own_A11 ca j 1 1 q (q &&& (255 : Int32))) [(.int (own_hx ((q &&& (255 : Int32)) / (16 : Int32)))), (.int (j + (2 : Int32))), (.ref ca)])) rfl rfl (hb hby emethod_6_d53)
  replace V_ca : Arv Z h3 ca kc .char N_ (((cs ++ [Value.int (92 : Int32), Value.int (120 : Int32)]) ++ List.replicate 1 (Value.int (0 : Int32))).set (j + (2 : Int32)).toNatClampNeg (Value.int (nar .char (own_hx ((q &&& (255 : Int32)) / (16 : Int32)))))) (.int 0) := Arv.set Ar_ qk_ Sz_ Nn_ Hs_ Gs_ (fits_nar_char _) W (j + (2 : Int32)).toNatClampNeg rfl (by rw [List.length_append, hl_, List.length_replicate]; exact Nat.lt_succ_self _)
  replace O := O.wr W g_ca
  replace K0 := K0.wr W (Or.inl (List.mem_of_getElem? (i := 0) rfl))
  replace N := Fr.snoc X N g_ca
  refine own_via (g' := (mkF m 54 (own_A11 ca j 1 1 q (q &&& (255 : Int32))) [])) st ?_
  replace V_ca : Arv Z h3 ca kc .char N_ ((cs ++ [Value.int (92 : Int32), Value.int (120 : Int32)]) ++ [Value.int (nar .char (own_hx ((q &&& (255 : Int32)) / (16 : Int32))))]) (.int 0) := by rw [← own_setEnd hl_]; exact V_ca
  rw [own_narc (own_hxB (own_hi (own_v255 q).1 (own_v255 q).2).2.1 (own_hi (own_v255 q).1 (own_v255 q).2).2.2).1 (Int.lt_trans (own_hxB (own_hi (own_v255 q).1 (own_v255 q).2).2.1 (own_hi (own_v255 q).1 (own_v255 q).2).2.2).2 (by decide))] at V_ca
  replace V_ca : Arv Z h3 ca kc .char N_ (cs ++ [Value.int (92 : Int32), Value.int (120 : Int32), Value.int (own_hx ((q &&& (255 : Int32)) / (16 : Int32)))]) (.int 0) := by
    first
      | exact V_ca
      | simpa only [List.append_assoc, List.cons_append, List.nil_append] using V_ca
  refine own_via (g' := (mkF m 63 (own_A11 ca j 1 1 q (q &&& (255 : Int32))) [(.int ((q &&& (255 : Int32)) &&& (15 : Int32))), (.int (j + (3 : Int32))), (.ref ca)])) (fun t_ k_ => XS.aloadN X.here hx rfl (hb hby emethod_6_d54) rfl rfl (XS.iloadN X.here hx rfl (hb hby emethod_6_d55) rfl (XS.iconst X.here hx rfl (hb hby emethod_6_d56) (XS.iadd X.here hx rfl (hb hby emethod_6_d57) rfl (XS.iload X.here hx rfl (hb hby emethod_6_d58) rfl (XS.bipush X.here hx rfl (hb hby emethod_6_d60) (XS.iand X.here hx rfl (hb hby emethod_6_d62) rfl k_))))))) ?_
  rw [(own_lo (own_v255 q).1 (own_v255 q).2).1]
  obtain ⟨_, _, ⟨T, Lq, kq, nq⟩, -, X, ⟨Lc, hQ, lq, yq, zq⟩, st⟩ := Jvm.LawKit.callS X hx (y := own_y12) hown (mvT hZ (hw _ (own_w 57 rfl))) (mvT hZ (hw _ (own_w 58 rfl))) (mvT hZ (hw _ (own_w 2 rfl))) (mvT hZ (hw _ (own_w 59 rfl))) (by decide) (backOf (W := 2) (own_hexM l Z a0 hw [] ((q &&& (255 : Int32)) % (16 : Int32)) h3 n0 O (own_lo (own_v255 q).1 (own_v255 q).2).2) hZ (hw _ (own_w 59 rfl)) (hw _ (own_w 2 rfl)) (by decide) (by decide)) (g := (mkF m 63 (own_A11 ca j 1 1 q (q &&& (255 : Int32))) [(.int ((q &&& (255 : Int32)) % (16 : Int32))), (.int (j + (3 : Int32))), (.ref ca)])) rfl (by rw [hml]; rfl) (argsL := [(.int ((q &&& (255 : Int32)) % (16 : Int32)))]) (rest := [(.int (j + (3 : Int32))), (.ref ca)]) (lenOf own_pd7 rfl) rfl (by show 2 * 0 + _ ≤ _; exact Nat.le_of_eq rfl) (hb hby emethod_6_d63) (fun _ _ => ⟨rfl, eT, (by decide : 0 + 0 ≤ _), (by decide : 0 + 0 ≤ _)⟩)
  dsimp only [Pt.U, Pt.locs, Pt.cells, Pt.slots] at X lq yq zq st hQ
  subst lq yq zq
  obtain ⟨rfl, Nq, eT⟩ := hQ
  replace N := Fr.app N Nq
  refine own_via (g' := (mkF m 66 (own_A11 ca j 1 1 q (q &&& (255 : Int32))) [(.int (own_hx ((q &&& (255 : Int32)) % (16 : Int32)))), (.int (j + (3 : Int32))), (.ref ca)])) st ?_
  replace V_ca : Arv Z h3 ca kc .char N_ ((cs ++ [Value.int (92 : Int32), Value.int (120 : Int32), Value.int (own_hx ((q &&& (255 : Int32)) / (16 : Int32)))]) ++ List.replicate 1 (Value.int (0 : Int32))) (.int 0) := V_ca.pad (pad_rep (cs ++ [Value.int (92 : Int32), Value.int (120 : Int32), Value.int (own_hx ((q &&& (255 : Int32)) / (16 : Int32)))]) (.int 0) 1)
  have hl_ : (cs ++ [Value.int (92 : Int32), Value.int (120 : Int32), Value.int (own_hx ((q &&& (255 : Int32)) / (16 : Int32)))]).length = (j + (3 : Int32)).toNatClampNeg := (by simp only [List.length_append, List.length_cons, List.length_nil]; exact hl3)
  obtain ⟨cl_, Ar_, qk_, Sz_, Nn_, Hs_, Gs_⟩ := id V_ca
  have hin_ : ¬ ((j + (3 : Int32)) < 0 ∨ cl_.slots.size ≤ ((j + (3 : Int32))).toNatClampNeg) := inb_of Sz_ hj3
  obtain ⟨T, h4, X, eT, W, st⟩ := stC X hx hZ eT Ar_ (j := (j + (3 : Int32))) hin_ (g := (mkF m 66 (own_A11 ca j 1 1 q (q &&& (255 : Int32))) [(.int (own_hx ((q &&& (255 : Int32)) % (16 : Int32)))), (.int (j + (3 : Int32))), (.ref ca)])) rfl rfl (hb hby emethod_6_d66)
  replace V_ca : Arv Z h4 ca kc .char N_ (((cs ++ [Value.int (92 : Int32), Value.int (120 : Int32), Value.int (own_hx ((q &&& (255 : Int32)) / (16 : Int32)))]) ++ List.replicate 1 (Value.int (0 : Int32))).set (j + (3 : Int32)).toNatClampNeg (Value.int (nar .char (own_hx ((q &&& (255 : Int32)) % (16 : Int32)))))) (.int 0) := Arv.set Ar_ qk_ Sz_ Nn_ Hs_ Gs_ (fits_nar_char _) W (j + (3 : Int32)).toNatClampNeg rfl (by rw [List.length_append, hl_, List.length_replicate]; exact Nat.lt_succ_self _)
  replace O := O.wr W g_ca
  replace K0 := K0.wr W (Or.inl (List.mem_of_getElem? (i := 0) rfl))
  replace N := Fr.snoc X N g_ca
  refine own_via (g' := (mkF m 67 (own_A11 ca j 1 1 q (q &&& (255 : Int32))) [])) st ?_
  replace V_ca : Arv Z h4 ca kc .char N_ ((cs ++ [Value.int (92 : Int32), Value.int (120 : Int32), Value.int (own_hx ((q &&& (255 : Int32)) / (16 : Int32)))]) ++ [Value.int (nar .char (own_hx ((q &&& (255 : Int32)) % (16 : Int32))))]) (.int 0) := by rw [← own_setEnd hl_]; exact V_ca
  rw [own_narc (own_hxB (own_lo (own_v255 q).1 (own_v255 q).2).2.1 (own_lo (own_v255 q).1 (own_v255 q).2).2.2).1 (Int.lt_trans (own_hxB (own_lo (own_v255 q).1 (own_v255 q).2).2.1 (own_lo (own_v255 q).1 (own_v255 q).2).2.2).2 (by decide))] at V_ca
  replace V_ca : Arv Z h4 ca kc .char N_ (cs ++ [Value.int (92 : Int32), Value.int (120 : Int32), Value.int (own_hx ((q &&& (255 : Int32)) / (16 : Int32))), Value.int (own_hx ((q &&& (255 : Int32)) % (16 : Int32)))]) (.int 0) := by
    first
      | exact V_ca
      | simpa only [List.append_assoc, List.cons_append, List.nil_append] using V_ca
  refine own_via (g' := (mkF m 70 (own_A11 ca j 1 1 q (q &&& (255 : Int32))) [(.int (j + (4 : Int32)))])) (fun t_ k_ => XS.iloadN X.here hx rfl (hb hby emethod_6_d67) rfl (XS.iconst X.here hx rfl (hb hby emethod_6_d68) (XS.iadd X.here hx rfl (hb hby emethod_6_d69) rfl k_))) ?_
  refine own_retW X hx hlk Bd.returns rfl (Or.inl ⟨rfl, Or.inl rfl, _, rfl⟩) (hb hby emethod_6_d70) (by decide) (by decide) ?_
  rw [eT]
  exact ⟨rfl, N, K0, V_ca⟩
theorem emethod_7_d0 : decode method_7_code 0 = .ok (.iload_n 0, 1) := by decide +kernel
theorem emethod_7_d1 : decode method_7_code 1 = .ok (.ifCond .eq 10, 3) := by decide +kernel
theorem emethod_7_d11 : decode method_7_code 11 = .ok (.iload_n 1, 1) := by decide +kernel
theorem emethod_7_d12 : decode method_7_code 12 = .ok (.invokestatic 33, 3) := by decide +kernel
theorem emethod_7_d15 : decode method_7_code 15 = .ok (.i2b, 1) := by decide +kernel
theorem emethod_7_d16 : decode method_7_code 16 = .ok (.ireturn, 1) := by decide +kernel
theorem own_exP_pn : plainFor (⟨"com/example/rows_to_regions/rowstoregions/KeyTextUnescapePinLaw", "expected", "(ZI)B"⟩ : MethodName) = true := by first | exact plainFor_of_name (by first | (simp [plainName, overriddenIn]; done) | decide +kernel) | decide +kernel | exact Jvm.Free.JP.mathPlain rfl (by decide +kernel)
theorem own_exP_ef (m : MethodId) (x0 : Int32) (x1 : Int32) : entryFrame m #[(.int x0), (.int x1)] 2 = mkF m 0 #[.val (.int x0), .val (.int x1)] [] := by first | (simp [entryFrame, mkF, argsToLocals, Value.category]; done) | rfl
def own_exP_Q (Z : State) (q : Int32) (h0 : Heap) (n0 : Nat) (v : Option Value) (h : Heap) (L : List Loc) : Prop := v = some (.int (own_sb (own_pr q))) ∧ Fr n0 L ∧ h = h0
set_option maxRecDepth 65536 in
set_option maxHeartbeats 40000000 in
theorem own_exP (l : Launch) (Z : State) (a0 : Array Value) (hw : ∀ d ∈ tables_1, d.before a0 Z = true) (ws : List Jvm.Cond) (q : Int32) (h0 : Heap) (n0 : Nat) (O : Old Z n0 h0)  :
    MetFree l (⟨"com/example/rows_to_regions/rowstoregions/KeyTextUnescapePinLaw", "expected", "(ZI)B"⟩ : MethodName) (head1 (Jvm.Cond.code (⟨"com/example/rows_to_regions/rowstoregions/KeyTextUnescapePinLaw", "expected", "(ZI)B"⟩ : MethodName) method_7_code 2 (some .byte) :: ws) ({ frames := 1, cells := 0, slots := 0, locals := 13 } : Room)) (fun a U => a = #[(.int 0), (.int q)] ∧ Z.Warmed39 U.vm ∧ U.heap = h0) (fun _ _ _ _ _ => True) (fun _ U o U' => ∃ v L, o = .returned v ∧ own_exP_Q Z q h0 n0 v U'.heap L ∧ FrameEnd U o U' L ({ frames := 1, cells := 0, slots := 0, locals := 13 } : Room).cells ({ frames := 1, cells := 0, slots := 0, locals := 13 } : Room).slots) := by
  refine MetFree.of_bodySF own_exP_pn hisR ?_
  intro p e s m args below meth c s₁ Bd hml0 hP hK
  obtain ⟨rfl, hZ, hh⟩ := hP
  have hx := Bd.exec
  have hby := Bd.bytes
  have hlk := Bd.notSynchronized
  have hml : c.maxLocals = 2 := hml0
  have hown : s.vm.findClass "com/example/rows_to_regions/rowstoregions/KeyTextUnescapePinLaw" = some m.cls := findClass_of_methodNamed Bd.named
  have hnm := (name_of_methodNamed Bd.named Bd.method).1
  have X : Stand p l e ({ frames := 1, cells := 0, slots := 0, locals := 13 } : Room) s m #[(.int 0), (.int q)] below meth c s₁ [] 0 0 := Stand.of_body Bd
  have eT : s₁.heap = h0 := by rw [← hh, Bd.state]; rfl
  have N := Fr.nil n0
  have K0 := Keep.refl h0 []
  show own_Ends p e below (own_Post s below (own_exP_Q Z q h0 n0) ({ frames := 1, cells := 0, slots := 0, locals := 13 } : Room).cells ({ frames := 1, cells := 0, slots := 0, locals := 13 } : Room).slots) s₁ (entryFrame m #[(.int 0), (.int q)] 2)
  rw [own_exP_ef m (0 : Int32) q]
  obtain ⟨T, hT⟩ : ∃ z, z = s₁ := ⟨_, rfl⟩
  rw [← hT] at X eT ⊢
  obtain ⟨h, hh0⟩ : ∃ z, z = h0 := ⟨_, rfl⟩
  rw [← hh0] at eT
  replace O : Old Z n0 h := by rw [hh0]; exact O
  replace K0 : Keep h0 h [] := by rw [hh0]; exact K0
  refine own_via (g' := (mkF m 12 #[.val (.int 0), .val (.int q)] [(.int q)])) (fun t_ k_ => XS.iloadN X.here hx rfl (hb hby emethod_7_d0) rfl (XS.ifYes X.here hx rfl (pc0 := 1) (pc' := 11) rfl (hb hby emethod_7_d1) rfl ((if0 _ _).trans (teq (by decide : (0 : Int32) = (0 : Int32))).1) (by decide) (by decide) (XS.iloadN X.here hx rfl (hb hby emethod_7_d11) rfl k_))) ?_
  obtain ⟨_, _, ⟨T, Lq, kq, nq⟩, -, X, ⟨Lc, hQ, lq, yq, zq⟩, st⟩ := Jvm.LawKit.callS X hx (y := own_y11) hown (mvT hZ (hw _ (own_w 60 rfl))) (mvT hZ (hw _ (own_w 61 rfl))) (mvT hZ (hw _ (own_w 2 rfl))) (mvT hZ (hw _ (own_w 62 rfl))) (by decide) (backOf (W := 0) (own_printable l Z a0 hw [] q h n0 O ) hZ (hw _ (own_w 62 rfl)) (hw _ (own_w 2 rfl)) (by decide) (by decide)) (g := (mkF m 12 #[.val (.int 0), .val (.int q)] [(.int q)])) rfl (by rw [hml]; rfl) (argsL := [(.int q)]) (rest := []) (lenOf own_pd7 rfl) rfl (by show 2 * 0 + _ ≤ _; exact Nat.le_of_eq rfl) (hb hby emethod_7_d12) (fun _ _ => ⟨rfl, eT, (by decide : 0 + 0 ≤ _), (by decide : 0 + 0 ≤ _)⟩)
  dsimp only [Pt.U, Pt.locs, Pt.cells, Pt.slots] at X lq yq zq st hQ
  subst lq yq zq
  obtain ⟨rfl, Nq, eT⟩ := hQ
  replace N := Fr.app N Nq
  refine own_via (g' := (mkF m 15 #[.val (.int 0), .val (.int q)] [(.int (own_pr q))])) st ?_
  refine own_via (g' := (mkF m 16 #[.val (.int 0), .val (.int q)] [(.int ((own_pr q).toInt8.toInt32))])) (fun t_ k_ => XS.i2b X.here hx rfl (hb hby emethod_7_d15) rfl k_) ?_
  refine own_retN X hx hlk (t := .byte) Bd.returns (by simp) (hb hby emethod_7_d16) (by decide) (by decide) ?_
  rw [eT]
  exact ⟨rfl, N, hh0⟩
theorem emethod_7_d4 : decode method_7_code 4 = .ok (.iload_n 1, 1) := by decide +kernel
theorem emethod_7_d5 : decode method_7_code 5 = .ok (.sipush 255, 3) := by decide +kernel
theorem emethod_7_d8 : decode method_7_code 8 = .ok (.iand, 1) := by decide +kernel
theorem emethod_7_d9 : decode method_7_code 9 = .ok (.i2b, 1) := by decide +kernel
theorem emethod_7_d10 : decode method_7_code 10 = .ok (.ireturn, 1) := by decide +kernel
theorem own_exE_pn : plainFor (⟨"com/example/rows_to_regions/rowstoregions/KeyTextUnescapePinLaw", "expected", "(ZI)B"⟩ : MethodName) = true := by first | exact plainFor_of_name (by first | (simp [plainName, overriddenIn]; done) | decide +kernel) | decide +kernel | exact Jvm.Free.JP.mathPlain rfl (by decide +kernel)
theorem own_exE_ef (m : MethodId) (x0 : Int32) (x1 : Int32) : entryFrame m #[(.int x0), (.int x1)] 2 = mkF m 0 #[.val (.int x0), .val (.int x1)] [] := by first | (simp [entryFrame, mkF, argsToLocals, Value.category]; done) | rfl
def own_exE_Q (Z : State) (q : Int32) (h0 : Heap) (n0 : Nat) (v : Option Value) (h : Heap) (L : List Loc) : Prop := v = some (.int (own_sb (q &&& (255 : Int32)))) ∧ Fr n0 L ∧ h = h0
set_option maxRecDepth 65536 in
set_option maxHeartbeats 40000000 in
theorem own_exE (l : Launch) (Z : State) (a0 : Array Value) (hw : ∀ d ∈ tables_1, d.before a0 Z = true) (ws : List Jvm.Cond) (q : Int32) (h0 : Heap) (n0 : Nat) (O : Old Z n0 h0)  :
    MetFree l (⟨"com/example/rows_to_regions/rowstoregions/KeyTextUnescapePinLaw", "expected", "(ZI)B"⟩ : MethodName) (head1 (Jvm.Cond.code (⟨"com/example/rows_to_regions/rowstoregions/KeyTextUnescapePinLaw", "expected", "(ZI)B"⟩ : MethodName) method_7_code 2 (some .byte) :: ws) ({ frames := 1, cells := 0, slots := 0, locals := 13 } : Room)) (fun a U => a = #[(.int 1), (.int q)] ∧ Z.Warmed39 U.vm ∧ U.heap = h0) (fun _ _ _ _ _ => True) (fun _ U o U' => ∃ v L, o = .returned v ∧ own_exE_Q Z q h0 n0 v U'.heap L ∧ FrameEnd U o U' L ({ frames := 1, cells := 0, slots := 0, locals := 13 } : Room).cells ({ frames := 1, cells := 0, slots := 0, locals := 13 } : Room).slots) := by
  refine MetFree.of_bodySF own_exE_pn hisR ?_
  intro p e s m args below meth c s₁ Bd hml0 hP hK
  obtain ⟨rfl, hZ, hh⟩ := hP
  have hx := Bd.exec
  have hby := Bd.bytes
  have hlk := Bd.notSynchronized
  have hml : c.maxLocals = 2 := hml0
  have hown : s.vm.findClass "com/example/rows_to_regions/rowstoregions/KeyTextUnescapePinLaw" = some m.cls := findClass_of_methodNamed Bd.named
  have hnm := (name_of_methodNamed Bd.named Bd.method).1
  have X : Stand p l e ({ frames := 1, cells := 0, slots := 0, locals := 13 } : Room) s m #[(.int 1), (.int q)] below meth c s₁ [] 0 0 := Stand.of_body Bd
  have eT : s₁.heap = h0 := by rw [← hh, Bd.state]; rfl
  have N := Fr.nil n0
  have K0 := Keep.refl h0 []
  show own_Ends p e below (own_Post s below (own_exE_Q Z q h0 n0) ({ frames := 1, cells := 0, slots := 0, locals := 13 } : Room).cells ({ frames := 1, cells := 0, slots := 0, locals := 13 } : Room).slots) s₁ (entryFrame m #[(.int 1), (.int q)] 2)
  rw [own_exE_ef m (1 : Int32) q]
  obtain ⟨T, hT⟩ : ∃ z, z = s₁ := ⟨_, rfl⟩
  rw [← hT] at X eT ⊢
  obtain ⟨h, hh0⟩ : ∃ z, z = h0 := ⟨_, rfl⟩
  rw [← hh0] at eT
  replace O : Old Z n0 h := by rw [hh0]; exact O
  replace K0 : Keep h0 h [] := by rw [hh0]; exact K0
  refine own_via (g' := (mkF m 10 #[.val (.int 1), .val (.int q)] [(.int ((q &&& (255 : Int32)).toInt8.toInt32))])) (fun t_ k_ => XS.iloadN X.here hx rfl (hb hby emethod_7_d0) rfl (XS.ifNo X.here hx rfl (hb hby emethod_7_d1) rfl ((if0 _ _).trans (feq (by decide : ¬ ((1 : Int32) = (0 : Int32)))).1) (XS.iloadN X.here hx rfl (hb hby emethod_7_d4) rfl (XS.sipush X.here hx rfl (hb hby emethod_7_d5) (XS.iand X.here hx rfl (hb hby emethod_7_d8) rfl (XS.i2b X.here hx rfl (hb hby emethod_7_d9) rfl k_)))))) ?_
  refine own_retN X hx hlk (t := .byte) Bd.returns (by simp) (hb hby emethod_7_d10) (by decide) (by decide) ?_
  rw [eT]
  exact ⟨rfl, N, hh0⟩
def own_U (f q j jn N : Int32) (cs : List Value) (es : List Int32) : Prop :=
  (f = 0 ∧ jn = j + 1 ∧ es = [own_pr q] ∧ (¬ j < 0 ∧ j < N) ∧ cs.length = j.toNatClampNeg) ∨
  (f = 1 ∧ jn = j + 4 ∧ es = [(92 : Int32), (120 : Int32), own_hx ((q &&& (255 : Int32)) / (16 : Int32)), own_hx ((q &&& (255 : Int32)) % (16 : Int32))] ∧ (¬ j < 0 ∧ j < N) ∧ (¬ (j + 1) < 0 ∧ (j + 1) < N) ∧ (¬ (j + 2) < 0 ∧ (j + 2) < N) ∧ (¬ (j + 3) < 0 ∧ (j + 3) < N) ∧ cs.length = j.toNatClampNeg ∧ cs.length + 1 = (j + 1).toNatClampNeg ∧ cs.length + 2 = (j + 2).toNatClampNeg ∧ cs.length + 3 = (j + 3).toNatClampNeg)
def own_X (f q r : Int32) : Prop := (f = 0 ∧ r = own_sb (own_pr q)) ∨ (f = 1 ∧ r = own_sb (q &&& (255 : Int32)))
def own_V (f q v : Int32) : Prop := (f = 0 ∧ v = own_pr q) ∨ (f = 1 ∧ v = q &&& (255 : Int32))
def own_putG_Q (Z : State) (ca : Addr) (j : Int32) (f : Int32) (q : Int32) (kc : ClassId) (N_ : Int32) (cs : List Value) (jn : Int32) (es : List Int32) (h0 : Heap) (n0 : Nat) (v : Option Value) (h : Heap) (L : List Loc) : Prop := v = some (.int jn) ∧ Fr n0 L ∧ Keep h0 h [ca] ∧ Arv Z h ca kc .char N_ (cs ++ es.map Value.int) (.int 0)
theorem own_putG (l : Launch) (Z : State) (a0 : Array Value) (hw : ∀ d ∈ tables_1, d.before a0 Z = true) (ws : List Jvm.Cond) (ca : Addr) (j : Int32) (f : Int32) (q : Int32) (kc : ClassId) (N_ : Int32) (cs : List Value) (jn : Int32) (es : List Int32) (h0 : Heap) (n0 : Nat) (O : Old Z n0 h0) (V_ca : Arv Z h0 ca kc .char N_ cs (.int 0)) (g_ca : n0 ≤ ca) (hU : own_U f q j jn N_ cs es) :
    MetFree l (⟨"com/example/rows_to_regions/rowstoregions/KeyTextUnescapePinLaw", "put", "([CIZZI)I"⟩ : MethodName) (head1 (Jvm.Cond.code (⟨"com/example/rows_to_regions/rowstoregions/KeyTextUnescapePinLaw", "put", "([CIZZI)I"⟩ : MethodName) method_6_code 6 (some .int) :: ws) ({ frames := 1, cells := 0, slots := 0, locals := 15 } : Room)) (fun a U => a = #[(.ref ca), (.int j), (.int 1), (.int f), (.int q)] ∧ Z.Warmed39 U.vm ∧ U.heap = h0) (fun _ _ _ _ _ => True) (fun _ U o U' => ∃ v L, o = .returned v ∧ own_putG_Q Z ca j f q kc N_ cs jn es h0 n0 v U'.heap L ∧ FrameEnd U o U' L ({ frames := 1, cells := 0, slots := 0, locals := 15 } : Room).cells ({ frames := 1, cells := 0, slots := 0, locals := 15 } : Room).slots) := by
  rcases hU with ⟨rfl, rfl, rfl, hj0, hl0⟩ | ⟨rfl, rfl, rfl, hj0, hj1, hj2, hj3, hl0, hl1, hl2, hl3⟩
  · exact own_putP l Z a0 hw ws ca j q kc N_ cs h0 n0 O V_ca g_ca hj0 hl0
  · exact own_putE l Z a0 hw ws ca j q kc N_ cs h0 n0 O V_ca g_ca hj0 hj1 hj2 hj3 hl0 hl1 hl2 hl3
def own_exG_Q (Z : State) (f : Int32) (q : Int32) (r : Int32) (h0 : Heap) (n0 : Nat) (v : Option Value) (h : Heap) (L : List Loc) : Prop := v = some (.int r) ∧ Fr n0 L ∧ h = h0
theorem own_exG (l : Launch) (Z : State) (a0 : Array Value) (hw : ∀ d ∈ tables_1, d.before a0 Z = true) (ws : List Jvm.Cond) (f : Int32) (q : Int32) (r : Int32) (h0 : Heap) (n0 : Nat) (O : Old Z n0 h0) (hX : own_X f q r) :
    MetFree l (⟨"com/example/rows_to_regions/rowstoregions/KeyTextUnescapePinLaw", "expected", "(ZI)B"⟩ : MethodName) (head1 (Jvm.Cond.code (⟨"com/example/rows_to_regions/rowstoregions/KeyTextUnescapePinLaw", "expected", "(ZI)B"⟩ : MethodName) method_7_code 2 (some .byte) :: ws) ({ frames := 1, cells := 0, slots := 0, locals := 13 } : Room)) (fun a U => a = #[(.int f), (.int q)] ∧ Z.Warmed39 U.vm ∧ U.heap = h0) (fun _ _ _ _ _ => True) (fun _ U o U' => ∃ v L, o = .returned v ∧ own_exG_Q Z f q r h0 n0 v U'.heap L ∧ FrameEnd U o U' L ({ frames := 1, cells := 0, slots := 0, locals := 13 } : Room).cells ({ frames := 1, cells := 0, slots := 0, locals := 13 } : Room).slots) := by
  rcases hX with ⟨rfl, rfl⟩ | ⟨rfl, rfl⟩
  · exact own_exP l Z a0 hw ws q h0 n0 O
  · exact own_exE l Z a0 hw ws q h0 n0 O
def own_P1 (f0 q0 N : Int32) (bs : List Value) (r0 : Int32) : Prop := (f0 = 0 ∧ N = (1 : Int32) ∧ bs = [(.int (own_b8 (own_pr q0)))] ∧ r0 = own_sb (own_pr q0)) ∨ (f0 = 1 ∧ N = (4 : Int32) ∧ bs = [(.int (own_b8 (92 : Int32))), (.int (own_b8 (120 : Int32))), (.int (own_b8 (own_hx ((q0 &&& (255 : Int32)) / (16 : Int32))))), (.int (own_b8 (own_hx ((q0 &&& (255 : Int32)) % (16 : Int32)))))] ∧ r0 = own_sb (q0 &&& (255 : Int32)))
def own_unG1_Q (Z : State) (a1 : Addr) (va : Addr) (kv : ClassId) (f0 : Int32) (q0 : Int32) (N_ : Int32) (bs : List Value) (r0 : Int32) (zc : Int32) (vS : Value) (h0 : Heap) (n0 : Nat) (v : Option Value) (h : Heap) (L : List Loc) : Prop := ∃ b kb, v = some (.ref b) ∧ Fr n0 L ∧ Keep h0 h [] ∧ h0.size ≤ b ∧ Arv Z h b kb .byte (1 : Int32) [(.int r0)] (.int 0) ∧ Exa Z h b "[B"
theorem own_unG1 (l : Launch) (Z : State) (a0 : Array Value) (hw : ∀ d ∈ tables_1, d.before a0 Z = true) (ws : List Jvm.Cond) (a1 : Addr) (va : Addr) (kv : ClassId) (f0 : Int32) (q0 : Int32) (N_ : Int32) (bs : List Value) (r0 : Int32) (zc : Int32) (vS : Value) (h0 : Heap) (n0 : Nat) (O : Old Z n0 h0) (E_a1 : Exa Z h0 a1 "java/lang/String") (F_value_a1 : Fld Z h0 a1 "java/lang/String" "value" "[B" (.ref va)) (F_coder_a1 : Fld Z h0 a1 "java/lang/String" "coder" "B" (.int 0)) (V_va : Arv Z h0 va kv .byte N_ bs (.int 0)) (hP : own_P1 f0 q0 N_ bs r0) (S_C : Sta Z Z.heap "java/lang/String" "COMPACT_STRINGS" "Z" (.int zc)) (hzc : ¬ zc = 0) (S_S : Sta Z Z.heap "jdk/internal/util/Preconditions" "SIOOBE_FORMATTER" "Ljava/util/function/BiFunction;" vS) (hvS : vS.isRef = true) :
    MetFree l (⟨"com/example/rows_to_regions/rowstoregions/KeyText", "unescape", "(Ljava/lang/String;)[B"⟩ : MethodName) (head1 (Jvm.Cond.code (⟨"com/example/rows_to_regions/rowstoregions/KeyText", "unescape", "(Ljava/lang/String;)[B"⟩ : MethodName) prog_10_method_3_code 6 (some (.array .byte)) :: ws) ({ frames := 5, cells := 2, slots := 16, locals := 68 } : Room)) (fun a U => a = #[(.ref a1)] ∧ Z.Warmed39 U.vm ∧ U.heap = h0) (fun _ _ _ _ _ => True) (fun _ U o U' => ∃ v L, o = .returned v ∧ own_unG1_Q Z a1 va kv f0 q0 N_ bs r0 zc vS h0 n0 v U'.heap L ∧ FrameEnd U o U' L ({ frames := 5, cells := 2, slots := 16, locals := 68 } : Room).cells ({ frames := 5, cells := 2, slots := 16, locals := 68 } : Room).slots) := by
  rcases hP with ⟨rfl, rfl, rfl, rfl⟩ | ⟨rfl, rfl, rfl, rfl⟩
  · exact own_unP l Z a0 hw ws a1 va kv (own_pr q0) zc vS h0 n0 O E_a1 F_value_a1 F_coder_a1 V_va ⟨Int.le_trans (by decide) (own_prB q0).1, Int.lt_of_le_of_lt (own_prB q0).2.1 (by decide)⟩ (own_prP q0) S_C hzc S_S hvS
  · exact own_unE l Z a0 hw ws a1 va kv (q0 &&& (255 : Int32)) zc vS h0 n0 O E_a1 F_value_a1 F_coder_a1 V_va (own_v255 q0) S_C hzc S_S hvS
theorem own_plan1 {f0 q0 : Int32} (hf0 : f0 = 0 ∨ f0 = 1) : ∃ (N : Int32) (cs : List Int32) (n : Nat) (w0 : Int32) (es0 : List Int32) (j1 : Int32) (r0 : Int32), N ∈ own_DN ∧ N = ((w0 + (0 : Int32)) + (0 : Int32)) ∧ ((f0 = (0 : Int32) ∧ w0 = 1) ∨ (f0 = (1 : Int32) ∧ w0 = 4)) ∧ own_U f0 q0 (0 : Int32) j1 N ([] : List Value) es0 ∧ own_X f0 q0 r0 ∧ (([] : List Value) ++ es0.map Value.int) = cs.map Value.int ∧ cs.length = n ∧ N = Int32.ofNat n ∧ 0 < n ∧ n ≤ 12 ∧ (∀ c ∈ cs, ¬ c < 0 ∧ ¬ (255 : Int32) < c) ∧ own_P1 f0 q0 N ((cs.map fun c => c.toInt8.toInt32).map Value.int) r0 := by
  have pB0 := own_prB q0
  have vB0 := own_v255 q0
  have hB0 := own_hxB (own_hi vB0.1 vB0.2).2.1 (own_hi vB0.1 vB0.2).2.2
  have lB0 := own_hxB (own_lo vB0.1 vB0.2).2.1 (own_lo vB0.1 vB0.2).2.2
  rcases hf0 with rfl | rfl
  · have hall : ∀ c ∈ ([own_pr q0] : List Int32), ¬ c < 0 ∧ ¬ (255 : Int32) < c := fun c hc => by
      simp only [List.mem_cons, List.not_mem_nil, or_false] at hc
      rcases hc with rfl
      · exact own_le255' (Int.le_trans (by decide) pB0.1) (Int.lt_of_le_of_lt pB0.2.1 (by decide))
    exact ⟨(1 : Int32), [own_pr q0], 1, (1 : Int32), [own_pr q0], (1 : Int32), own_sb (own_pr q0), by decide, by decide, Or.inl ⟨rfl, rfl⟩, Or.inl ⟨rfl, by decide, rfl, by decide, rfl⟩, Or.inl ⟨rfl, rfl⟩, rfl, rfl, by decide, by decide, by decide, hall, Or.inl ⟨rfl, rfl, rfl, rfl⟩⟩
  · have hall : ∀ c ∈ ([(92 : Int32), (120 : Int32), own_hx ((q0 &&& (255 : Int32)) / (16 : Int32)), own_hx ((q0 &&& (255 : Int32)) % (16 : Int32))] : List Int32), ¬ c < 0 ∧ ¬ (255 : Int32) < c := fun c hc => by
      simp only [List.mem_cons, List.not_mem_nil, or_false] at hc
      rcases hc with rfl | rfl | rfl | rfl
      · exact (by decide)
      · exact (by decide)
      · exact own_le255' hB0.1 hB0.2
      · exact own_le255' lB0.1 lB0.2
    exact ⟨(4 : Int32), [(92 : Int32), (120 : Int32), own_hx ((q0 &&& (255 : Int32)) / (16 : Int32)), own_hx ((q0 &&& (255 : Int32)) % (16 : Int32))], 4, (4 : Int32), [(92 : Int32), (120 : Int32), own_hx ((q0 &&& (255 : Int32)) / (16 : Int32)), own_hx ((q0 &&& (255 : Int32)) % (16 : Int32))], (4 : Int32), own_sb (q0 &&& (255 : Int32)), by decide, by decide, Or.inr ⟨rfl, rfl⟩, Or.inr ⟨rfl, by decide, rfl, by decide, by decide, by decide, by decide, rfl, rfl, rfl, rfl⟩, Or.inr ⟨rfl, rfl⟩, rfl, rfl, by decide, by decide, by decide, hall, Or.inr (⟨rfl, rfl, rfl, rfl⟩)⟩
def own_P2 (f0 q0 f1 q1 N : Int32) (bs : List Value) (r0 r1 : Int32) : Prop := (f0 = 0 ∧ f1 = 0 ∧ N = (2 : Int32) ∧ bs = [(.int (own_b8 (own_pr q0))), (.int (own_b8 (own_pr q1)))] ∧ r0 = own_sb (own_pr q0) ∧ r1 = own_sb (own_pr q1)) ∨ (f0 = 0 ∧ f1 = 1 ∧ N = (5 : Int32) ∧ bs = [(.int (own_b8 (own_pr q0))), (.int (own_b8 (92 : Int32))), (.int (own_b8 (120 : Int32))), (.int (own_b8 (own_hx ((q1 &&& (255 : Int32)) / (16 : Int32))))), (.int (own_b8 (own_hx ((q1 &&& (255 : Int32)) % (16 : Int32)))))] ∧ r0 = own_sb (own_pr q0) ∧ r1 = own_sb (q1 &&& (255 : Int32))) ∨ (f0 = 1 ∧ f1 = 0 ∧ N = (5 : Int32) ∧ bs = [(.int (own_b8 (92 : Int32))), (.int (own_b8 (120 : Int32))), (.int (own_b8 (own_hx ((q0 &&& (255 : Int32)) / (16 : Int32))))), (.int (own_b8 (own_hx ((q0 &&& (255 : Int32)) % (16 : Int32))))), (.int (own_b8 (own_pr q1)))] ∧ r0 = own_sb (q0 &&& (255 : Int32)) ∧ r1 = own_sb (own_pr q1)) ∨ (f0 = 1 ∧ f1 = 1 ∧ N = (8 : Int32) ∧ bs = [(.int (own_b8 (92 : Int32))), (.int (own_b8 (120 : Int32))), (.int (own_b8 (own_hx ((q0 &&& (255 : Int32)) / (16 : Int32))))), (.int (own_b8 (own_hx ((q0 &&& (255 : Int32)) % (16 : Int32))))), (.int (own_b8 (92 : Int32))), (.int (own_b8 (120 : Int32))), (.int (own_b8 (own_hx ((q1 &&& (255 : Int32)) / (16 : Int32))))), (.int (own_b8 (own_hx ((q1 &&& (255 : Int32)) % (16 : Int32)))))] ∧ r0 = own_sb (q0 &&& (255 : Int32)) ∧ r1 = own_sb (q1 &&& (255 : Int32)))
def own_unG2_Q (Z : State) (a1 : Addr) (va : Addr) (kv : ClassId) (f0 : Int32) (q0 : Int32) (f1 : Int32) (q1 : Int32) (N_ : Int32) (bs : List Value) (r0 : Int32) (r1 : Int32) (zc : Int32) (vS : Value) (h0 : Heap) (n0 : Nat) (v : Option Value) (h : Heap) (L : List Loc) : Prop := ∃ b kb, v = some (.ref b) ∧ Fr n0 L ∧ Keep h0 h [] ∧ h0.size ≤ b ∧ Arv Z h b kb .byte (2 : Int32) [(.int r0), (.int r1)] (.int 0) ∧ Exa Z h b "[B"
theorem own_unG2 (l : Launch) (Z : State) (a0 : Array Value) (hw : ∀ d ∈ tables_1, d.before a0 Z = true) (ws : List Jvm.Cond) (a1 : Addr) (va : Addr) (kv : ClassId) (f0 : Int32) (q0 : Int32) (f1 : Int32) (q1 : Int32) (N_ : Int32) (bs : List Value) (r0 : Int32) (r1 : Int32) (zc : Int32) (vS : Value) (h0 : Heap) (n0 : Nat) (O : Old Z n0 h0) (E_a1 : Exa Z h0 a1 "java/lang/String") (F_value_a1 : Fld Z h0 a1 "java/lang/String" "value" "[B" (.ref va)) (F_coder_a1 : Fld Z h0 a1 "java/lang/String" "coder" "B" (.int 0)) (V_va : Arv Z h0 va kv .byte N_ bs (.int 0)) (hP : own_P2 f0 q0 f1 q1 N_ bs r0 r1) (S_C : Sta Z Z.heap "java/lang/String" "COMPACT_STRINGS" "Z" (.int zc)) (hzc : ¬ zc = 0) (S_S : Sta Z Z.heap "jdk/internal/util/Preconditions" "SIOOBE_FORMATTER" "Ljava/util/function/BiFunction;" vS) (hvS : vS.isRef = true) :
    MetFree l (⟨"com/example/rows_to_regions/rowstoregions/KeyText", "unescape", "(Ljava/lang/String;)[B"⟩ : MethodName) (head1 (Jvm.Cond.code (⟨"com/example/rows_to_regions/rowstoregions/KeyText", "unescape", "(Ljava/lang/String;)[B"⟩ : MethodName) prog_10_method_3_code 6 (some (.array .byte)) :: ws) ({ frames := 5, cells := 2, slots := 20, locals := 68 } : Room)) (fun a U => a = #[(.ref a1)] ∧ Z.Warmed39 U.vm ∧ U.heap = h0) (fun _ _ _ _ _ => True) (fun _ U o U' => ∃ v L, o = .returned v ∧ own_unG2_Q Z a1 va kv f0 q0 f1 q1 N_ bs r0 r1 zc vS h0 n0 v U'.heap L ∧ FrameEnd U o U' L ({ frames := 5, cells := 2, slots := 20, locals := 68 } : Room).cells ({ frames := 5, cells := 2, slots := 20, locals := 68 } : Room).slots) := by
  rcases hP with ⟨rfl, rfl, rfl, rfl, rfl, rfl⟩ | ⟨rfl, rfl, rfl, rfl, rfl, rfl⟩ | ⟨rfl, rfl, rfl, rfl, rfl, rfl⟩ | ⟨rfl, rfl, rfl, rfl, rfl, rfl⟩
  · exact own_unPP l Z a0 hw ws a1 va kv (own_pr q0) (own_pr q1) zc vS h0 n0 O E_a1 F_value_a1 F_coder_a1 V_va ⟨Int.le_trans (by decide) (own_prB q0).1, Int.lt_of_le_of_lt (own_prB q0).2.1 (by decide)⟩ (own_prP q0) ⟨Int.le_trans (by decide) (own_prB q1).1, Int.lt_of_le_of_lt (own_prB q1).2.1 (by decide)⟩ (own_prP q1) S_C hzc S_S hvS
  · exact own_unPE l Z a0 hw ws a1 va kv (own_pr q0) (q1 &&& (255 : Int32)) zc vS h0 n0 O E_a1 F_value_a1 F_coder_a1 V_va ⟨Int.le_trans (by decide) (own_prB q0).1, Int.lt_of_le_of_lt (own_prB q0).2.1 (by decide)⟩ (own_prP q0) (own_v255 q1) S_C hzc S_S hvS
  · exact own_unEP l Z a0 hw ws a1 va kv (q0 &&& (255 : Int32)) (own_pr q1) zc vS h0 n0 O E_a1 F_value_a1 F_coder_a1 V_va (own_v255 q0) ⟨Int.le_trans (by decide) (own_prB q1).1, Int.lt_of_le_of_lt (own_prB q1).2.1 (by decide)⟩ (own_prP q1) S_C hzc S_S hvS
  · exact own_unEE l Z a0 hw ws a1 va kv (q0 &&& (255 : Int32)) (q1 &&& (255 : Int32)) zc vS h0 n0 O E_a1 F_value_a1 F_coder_a1 V_va (own_v255 q0) (own_v255 q1) S_C hzc S_S hvS
theorem own_plan2 {f0 f1 q0 q1 : Int32} (hf0 : f0 = 0 ∨ f0 = 1) (hf1 : f1 = 0 ∨ f1 = 1) : ∃ (N : Int32) (cs : List Int32) (n : Nat) (w0 : Int32) (w1 : Int32) (es0 : List Int32) (es1 : List Int32) (j1 : Int32) (j2 : Int32) (r0 : Int32) (r1 : Int32), N ∈ own_DN ∧ N = ((w0 + w1) + (0 : Int32)) ∧ ((f0 = (0 : Int32) ∧ w0 = 1) ∨ (f0 = (1 : Int32) ∧ w0 = 4)) ∧ ((f1 = (0 : Int32) ∧ w1 = 1) ∨ (f1 = (1 : Int32) ∧ w1 = 4)) ∧ own_U f0 q0 (0 : Int32) j1 N ([] : List Value) es0 ∧ own_U f1 q1 j1 j2 N (([] : List Value) ++ es0.map Value.int) es1 ∧ own_X f0 q0 r0 ∧ own_X f1 q1 r1 ∧ ((([] : List Value) ++ es0.map Value.int) ++ es1.map Value.int) = cs.map Value.int ∧ cs.length = n ∧ N = Int32.ofNat n ∧ 0 < n ∧ n ≤ 12 ∧ (∀ c ∈ cs, ¬ c < 0 ∧ ¬ (255 : Int32) < c) ∧ own_P2 f0 q0 f1 q1 N ((cs.map fun c => c.toInt8.toInt32).map Value.int) r0 r1 := by
  have pB0 := own_prB q0
  have vB0 := own_v255 q0
  have hB0 := own_hxB (own_hi vB0.1 vB0.2).2.1 (own_hi vB0.1 vB0.2).2.2
  have lB0 := own_hxB (own_lo vB0.1 vB0.2).2.1 (own_lo vB0.1 vB0.2).2.2
  have pB1 := own_prB q1
  have vB1 := own_v255 q1
  have hB1 := own_hxB (own_hi vB1.1 vB1.2).2.1 (own_hi vB1.1 vB1.2).2.2
  have lB1 := own_hxB (own_lo vB1.1 vB1.2).2.1 (own_lo vB1.1 vB1.2).2.2
  rcases hf0 with rfl | rfl <;> rcases hf1 with rfl | rfl
  · have hall : ∀ c ∈ ([own_pr q0, own_pr q1] : List Int32), ¬ c < 0 ∧ ¬ (255 : Int32) < c := fun c hc => by
      simp only [List.mem_cons, List.not_mem_nil, or_false] at hc
      rcases hc with rfl | rfl
      · exact own_le255' (Int.le_trans (by decide) pB0.1) (Int.lt_of_le_of_lt pB0.2.1 (by decide))
      · exact own_le255' (Int.le_trans (by decide) pB1.1) (Int.lt_of_le_of_lt pB1.2.1 (by decide))
    exact ⟨(2 : Int32), [own_pr q0, own_pr q1], 2, (1 : Int32), (1 : Int32), [own_pr q0], [own_pr q1], (1 : Int32), (2 : Int32), own_sb (own_pr q0), own_sb (own_pr q1), by decide, by decide, Or.inl ⟨rfl, rfl⟩, Or.inl ⟨rfl, rfl⟩, Or.inl ⟨rfl, by decide, rfl, by decide, rfl⟩, Or.inl ⟨rfl, by decide, rfl, by decide, rfl⟩, Or.inl ⟨rfl, rfl⟩, Or.inl ⟨rfl, rfl⟩, rfl, rfl, by decide, by decide, by decide, hall, Or.inl ⟨rfl, rfl, rfl, rfl, rfl, rfl⟩⟩
  · have hall : ∀ c ∈ ([own_pr q0, (92 : Int32), (120 : Int32), own_hx ((q1 &&& (255 : Int32)) / (16 : Int32)), own_hx ((q1 &&& (255 : Int32)) % (16 : Int32))] : List Int32), ¬ c < 0 ∧ ¬ (255 : Int32) < c := fun c hc => by
      simp only [List.mem_cons, List.not_mem_nil, or_false] at hc
      rcases hc with rfl | rfl | rfl | rfl | rfl
      · exact own_le255' (Int.le_trans (by decide) pB0.1) (Int.lt_of_le_of_lt pB0.2.1 (by decide))
      · exact (by decide)
      · exact (by decide)
      · exact own_le255' hB1.1 hB1.2
      · exact own_le255' lB1.1 lB1.2
    exact ⟨(5 : Int32), [own_pr q0, (92 : Int32), (120 : Int32), own_hx ((q1 &&& (255 : Int32)) / (16 : Int32)), own_hx ((q1 &&& (255 : Int32)) % (16 : Int32))], 5, (1 : Int32), (4 : Int32), [own_pr q0], [(92 : Int32), (120 : Int32), own_hx ((q1 &&& (255 : Int32)) / (16 : Int32)), own_hx ((q1 &&& (255 : Int32)) % (16 : Int32))], (1 : Int32), (5 : Int32), own_sb (own_pr q0), own_sb (q1 &&& (255 : Int32)), by decide, by decide, Or.inl ⟨rfl, rfl⟩, Or.inr ⟨rfl, rfl⟩, Or.inl ⟨rfl, by decide, rfl, by decide, rfl⟩, Or.inr ⟨rfl, by decide, rfl, by decide, by decide, by decide, by decide, rfl, rfl, rfl, rfl⟩, Or.inl ⟨rfl, rfl⟩, Or.inr ⟨rfl, rfl⟩, rfl, rfl, by decide, by decide, by decide, hall, Or.inr (Or.inl ⟨rfl, rfl, rfl, rfl, rfl, rfl⟩)⟩
  · have hall : ∀ c ∈ ([(92 : Int32), (120 : Int32), own_hx ((q0 &&& (255 : Int32)) / (16 : Int32)), own_hx ((q0 &&& (255 : Int32)) % (16 : Int32)), own_pr q1] : List Int32), ¬ c < 0 ∧ ¬ (255 : Int32) < c := fun c hc => by
      simp only [List.mem_cons, List.not_mem_nil, or_false] at hc
      rcases hc with rfl | rfl | rfl | rfl | rfl
      · exact (by decide)
      · exact (by decide)
      · exact own_le255' hB0.1 hB0.2
      · exact own_le255' lB0.1 lB0.2
      · exact own_le255' (Int.le_trans (by decide) pB1.1) (Int.lt_of_le_of_lt pB1.2.1 (by decide))
    exact ⟨(5 : Int32), [(92 : Int32), (120 : Int32), own_hx ((q0 &&& (255 : Int32)) / (16 : Int32)), own_hx ((q0 &&& (255 : Int32)) % (16 : Int32)), own_pr q1], 5, (4 : Int32), (1 : Int32), [(92 : Int32), (120 : Int32), own_hx ((q0 &&& (255 : Int32)) / (16 : Int32)), own_hx ((q0 &&& (255 : Int32)) % (16 : Int32))], [own_pr q1], (4 : Int32), (5 : Int32), own_sb (q0 &&& (255 : Int32)), own_sb (own_pr q1), by decide, by decide, Or.inr ⟨rfl, rfl⟩, Or.inl ⟨rfl, rfl⟩, Or.inr ⟨rfl, by decide, rfl, by decide, by decide, by decide, by decide, rfl, rfl, rfl, rfl⟩, Or.inl ⟨rfl, by decide, rfl, by decide, rfl⟩, Or.inr ⟨rfl, rfl⟩, Or.inl ⟨rfl, rfl⟩, rfl, rfl, by decide, by decide, by decide, hall, Or.inr (Or.inr (Or.inl ⟨rfl, rfl, rfl, rfl, rfl, rfl⟩))⟩
  · have hall : ∀ c ∈ ([(92 : Int32), (120 : Int32), own_hx ((q0 &&& (255 : Int32)) / (16 : Int32)), own_hx ((q0 &&& (255 : Int32)) % (16 : Int32)), (92 : Int32), (120 : Int32), own_hx ((q1 &&& (255 : Int32)) / (16 : Int32)), own_hx ((q1 &&& (255 : Int32)) % (16 : Int32))] : List Int32), ¬ c < 0 ∧ ¬ (255 : Int32) < c := fun c hc => by
      simp only [List.mem_cons, List.not_mem_nil, or_false] at hc
      rcases hc with rfl | rfl | rfl | rfl | rfl | rfl | rfl | rfl
      · exact (by decide)
      · exact (by decide)
      · exact own_le255' hB0.1 hB0.2
      · exact own_le255' lB0.1 lB0.2
      · exact (by decide)
      · exact (by decide)
      · exact own_le255' hB1.1 hB1.2
      · exact own_le255' lB1.1 lB1.2
    exact ⟨(8 : Int32), [(92 : Int32), (120 : Int32), own_hx ((q0 &&& (255 : Int32)) / (16 : Int32)), own_hx ((q0 &&& (255 : Int32)) % (16 : Int32)), (92 : Int32), (120 : Int32), own_hx ((q1 &&& (255 : Int32)) / (16 : Int32)), own_hx ((q1 &&& (255 : Int32)) % (16 : Int32))], 8, (4 : Int32), (4 : Int32), [(92 : Int32), (120 : Int32), own_hx ((q0 &&& (255 : Int32)) / (16 : Int32)), own_hx ((q0 &&& (255 : Int32)) % (16 : Int32))], [(92 : Int32), (120 : Int32), own_hx ((q1 &&& (255 : Int32)) / (16 : Int32)), own_hx ((q1 &&& (255 : Int32)) % (16 : Int32))], (4 : Int32), (8 : Int32), own_sb (q0 &&& (255 : Int32)), own_sb (q1 &&& (255 : Int32)), by decide, by decide, Or.inr ⟨rfl, rfl⟩, Or.inr ⟨rfl, rfl⟩, Or.inr ⟨rfl, by decide, rfl, by decide, by decide, by decide, by decide, rfl, rfl, rfl, rfl⟩, Or.inr ⟨rfl, by decide, rfl, by decide, by decide, by decide, by decide, rfl, rfl, rfl, rfl⟩, Or.inr ⟨rfl, rfl⟩, Or.inr ⟨rfl, rfl⟩, rfl, rfl, by decide, by decide, by decide, hall, Or.inr (Or.inr (Or.inr (⟨rfl, rfl, rfl, rfl, rfl, rfl⟩)))⟩
def own_P3 (f0 q0 f1 q1 f2 q2 N : Int32) (bs : List Value) (r0 r1 r2 : Int32) : Prop := (f0 = 0 ∧ f1 = 0 ∧ f2 = 0 ∧ N = (3 : Int32) ∧ bs = [(.int (own_b8 (own_pr q0))), (.int (own_b8 (own_pr q1))), (.int (own_b8 (own_pr q2)))] ∧ r0 = own_sb (own_pr q0) ∧ r1 = own_sb (own_pr q1) ∧ r2 = own_sb (own_pr q2)) ∨ (f0 = 0 ∧ f1 = 0 ∧ f2 = 1 ∧ N = (6 : Int32) ∧ bs = [(.int (own_b8 (own_pr q0))), (.int (own_b8 (own_pr q1))), (.int (own_b8 (92 : Int32))), (.int (own_b8 (120 : Int32))), (.int (own_b8 (own_hx ((q2 &&& (255 : Int32)) / (16 : Int32))))), (.int (own_b8 (own_hx ((q2 &&& (255 : Int32)) % (16 : Int32)))))] ∧ r0 = own_sb (own_pr q0) ∧ r1 = own_sb (own_pr q1) ∧ r2 = own_sb (q2 &&& (255 : Int32))) ∨ (f0 = 0 ∧ f1 = 1 ∧ f2 = 0 ∧ N = (6 : Int32) ∧ bs = [(.int (own_b8 (own_pr q0))), (.int (own_b8 (92 : Int32))), (.int (own_b8 (120 : Int32))), (.int (own_b8 (own_hx ((q1 &&& (255 : Int32)) / (16 : Int32))))), (.int (own_b8 (own_hx ((q1 &&& (255 : Int32)) % (16 : Int32))))), (.int (own_b8 (own_pr q2)))] ∧ r0 = own_sb (own_pr q0) ∧ r1 = own_sb (q1 &&& (255 : Int32)) ∧ r2 = own_sb (own_pr q2)) ∨ (f0 = 0 ∧ f1 = 1 ∧ f2 = 1 ∧ N = (9 : Int32) ∧ bs = [(.int (own_b8 (own_pr q0))), (.int (own_b8 (92 : Int32))), (.int (own_b8 (120 : Int32))), (.int (own_b8 (own_hx ((q1 &&& (255 : Int32)) / (16 : Int32))))), (.int (own_b8 (own_hx ((q1 &&& (255 : Int32)) % (16 : Int32))))), (.int (own_b8 (92 : Int32))), (.int (own_b8 (120 : Int32))), (.int (own_b8 (own_hx ((q2 &&& (255 : Int32)) / (16 : Int32))))), (.int (own_b8 (own_hx ((q2 &&& (255 : Int32)) % (16 : Int32)))))] ∧ r0 = own_sb (own_pr q0) ∧ r1 = own_sb (q1 &&& (255 : Int32)) ∧ r2 = own_sb (q2 &&& (255 : Int32))) ∨ (f0 = 1 ∧ f1 = 0 ∧ f2 = 0 ∧ N = (6 : Int32) ∧ bs = [(.int (own_b8 (92 : Int32))), (.int (own_b8 (120 : Int32))), (.int (own_b8 (own_hx ((q0 &&& (255 : Int32)) / (16 : Int32))))), (.int (own_b8 (own_hx ((q0 &&& (255 : Int32)) % (16 : Int32))))), (.int (own_b8 (own_pr q1))), (.int (own_b8 (own_pr q2)))] ∧ r0 = own_sb (q0 &&& (255 : Int32)) ∧ r1 = own_sb (own_pr q1) ∧ r2 = own_sb (own_pr q2)) ∨ (f0 = 1 ∧ f1 = 0 ∧ f2 = 1 ∧ N = (9 : Int32) ∧ bs = [(.int (own_b8 (92 : Int32))), (.int (own_b8 (120 : Int32))), (.int (own_b8 (own_hx ((q0 &&& (255 : Int32)) / (16 : Int32))))), (.int (own_b8 (own_hx ((q0 &&& (255 : Int32)) % (16 : Int32))))), (.int (own_b8 (own_pr q1))), (.int (own_b8 (92 : Int32))), (.int (own_b8 (120 : Int32))), (.int (own_b8 (own_hx ((q2 &&& (255 : Int32)) / (16 : Int32))))), (.int (own_b8 (own_hx ((q2 &&& (255 : Int32)) % (16 : Int32)))))] ∧ r0 = own_sb (q0 &&& (255 : Int32)) ∧ r1 = own_sb (own_pr q1) ∧ r2 = own_sb (q2 &&& (255 : Int32))) ∨ (f0 = 1 ∧ f1 = 1 ∧ f2 = 0 ∧ N = (9 : Int32) ∧ bs = [(.int (own_b8 (92 : Int32))), (.int (own_b8 (120 : Int32))), (.int (own_b8 (own_hx ((q0 &&& (255 : Int32)) / (16 : Int32))))), (.int (own_b8 (own_hx ((q0 &&& (255 : Int32)) % (16 : Int32))))), (.int (own_b8 (92 : Int32))), (.int (own_b8 (120 : Int32))), (.int (own_b8 (own_hx ((q1 &&& (255 : Int32)) / (16 : Int32))))), (.int (own_b8 (own_hx ((q1 &&& (255 : Int32)) % (16 : Int32))))), (.int (own_b8 (own_pr q2)))] ∧ r0 = own_sb (q0 &&& (255 : Int32)) ∧ r1 = own_sb (q1 &&& (255 : Int32)) ∧ r2 = own_sb (own_pr q2)) ∨ (f0 = 1 ∧ f1 = 1 ∧ f2 = 1 ∧ N = (12 : Int32) ∧ bs = [(.int (own_b8 (92 : Int32))), (.int (own_b8 (120 : Int32))), (.int (own_b8 (own_hx ((q0 &&& (255 : Int32)) / (16 : Int32))))), (.int (own_b8 (own_hx ((q0 &&& (255 : Int32)) % (16 : Int32))))), (.int (own_b8 (92 : Int32))), (.int (own_b8 (120 : Int32))), (.int (own_b8 (own_hx ((q1 &&& (255 : Int32)) / (16 : Int32))))), (.int (own_b8 (own_hx ((q1 &&& (255 : Int32)) % (16 : Int32))))), (.int (own_b8 (92 : Int32))), (.int (own_b8 (120 : Int32))), (.int (own_b8 (own_hx ((q2 &&& (255 : Int32)) / (16 : Int32))))), (.int (own_b8 (own_hx ((q2 &&& (255 : Int32)) % (16 : Int32)))))] ∧ r0 = own_sb (q0 &&& (255 : Int32)) ∧ r1 = own_sb (q1 &&& (255 : Int32)) ∧ r2 = own_sb (q2 &&& (255 : Int32)))
def own_unG3_Q (Z : State) (a1 : Addr) (va : Addr) (kv : ClassId) (f0 : Int32) (q0 : Int32) (f1 : Int32) (q1 : Int32) (f2 : Int32) (q2 : Int32) (N_ : Int32) (bs : List Value) (r0 : Int32) (r1 : Int32) (r2 : Int32) (zc : Int32) (vS : Value) (h0 : Heap) (n0 : Nat) (v : Option Value) (h : Heap) (L : List Loc) : Prop := ∃ b kb, v = some (.ref b) ∧ Fr n0 L ∧ Keep h0 h [] ∧ h0.size ≤ b ∧ Arv Z h b kb .byte (3 : Int32) [(.int r0), (.int r1), (.int r2)] (.int 0) ∧ Exa Z h b "[B"
theorem own_unG3 (l : Launch) (Z : State) (a0 : Array Value) (hw : ∀ d ∈ tables_1, d.before a0 Z = true) (ws : List Jvm.Cond) (a1 : Addr) (va : Addr) (kv : ClassId) (f0 : Int32) (q0 : Int32) (f1 : Int32) (q1 : Int32) (f2 : Int32) (q2 : Int32) (N_ : Int32) (bs : List Value) (r0 : Int32) (r1 : Int32) (r2 : Int32) (zc : Int32) (vS : Value) (h0 : Heap) (n0 : Nat) (O : Old Z n0 h0) (E_a1 : Exa Z h0 a1 "java/lang/String") (F_value_a1 : Fld Z h0 a1 "java/lang/String" "value" "[B" (.ref va)) (F_coder_a1 : Fld Z h0 a1 "java/lang/String" "coder" "B" (.int 0)) (V_va : Arv Z h0 va kv .byte N_ bs (.int 0)) (hP : own_P3 f0 q0 f1 q1 f2 q2 N_ bs r0 r1 r2) (S_C : Sta Z Z.heap "java/lang/String" "COMPACT_STRINGS" "Z" (.int zc)) (hzc : ¬ zc = 0) (S_S : Sta Z Z.heap "jdk/internal/util/Preconditions" "SIOOBE_FORMATTER" "Ljava/util/function/BiFunction;" vS) (hvS : vS.isRef = true) :
    MetFree l (⟨"com/example/rows_to_regions/rowstoregions/KeyText", "unescape", "(Ljava/lang/String;)[B"⟩ : MethodName) (head1 (Jvm.Cond.code (⟨"com/example/rows_to_regions/rowstoregions/KeyText", "unescape", "(Ljava/lang/String;)[B"⟩ : MethodName) prog_10_method_3_code 6 (some (.array .byte)) :: ws) ({ frames := 5, cells := 2, slots := 24, locals := 68 } : Room)) (fun a U => a = #[(.ref a1)] ∧ Z.Warmed39 U.vm ∧ U.heap = h0) (fun _ _ _ _ _ => True) (fun _ U o U' => ∃ v L, o = .returned v ∧ own_unG3_Q Z a1 va kv f0 q0 f1 q1 f2 q2 N_ bs r0 r1 r2 zc vS h0 n0 v U'.heap L ∧ FrameEnd U o U' L ({ frames := 5, cells := 2, slots := 24, locals := 68 } : Room).cells ({ frames := 5, cells := 2, slots := 24, locals := 68 } : Room).slots) := by
  rcases hP with ⟨rfl, rfl, rfl, rfl, rfl, rfl, rfl, rfl⟩ | ⟨rfl, rfl, rfl, rfl, rfl, rfl, rfl, rfl⟩ | ⟨rfl, rfl, rfl, rfl, rfl, rfl, rfl, rfl⟩ | ⟨rfl, rfl, rfl, rfl, rfl, rfl, rfl, rfl⟩ | ⟨rfl, rfl, rfl, rfl, rfl, rfl, rfl, rfl⟩ | ⟨rfl, rfl, rfl, rfl, rfl, rfl, rfl, rfl⟩ | ⟨rfl, rfl, rfl, rfl, rfl, rfl, rfl, rfl⟩ | ⟨rfl, rfl, rfl, rfl, rfl, rfl, rfl, rfl⟩
  · exact own_unPPP l Z a0 hw ws a1 va kv (own_pr q0) (own_pr q1) (own_pr q2) zc vS h0 n0 O E_a1 F_value_a1 F_coder_a1 V_va ⟨Int.le_trans (by decide) (own_prB q0).1, Int.lt_of_le_of_lt (own_prB q0).2.1 (by decide)⟩ (own_prP q0) ⟨Int.le_trans (by decide) (own_prB q1).1, Int.lt_of_le_of_lt (own_prB q1).2.1 (by decide)⟩ (own_prP q1) ⟨Int.le_trans (by decide) (own_prB q2).1, Int.lt_of_le_of_lt (own_prB q2).2.1 (by decide)⟩ (own_prP q2) S_C hzc S_S hvS
  · exact own_unPPE l Z a0 hw ws a1 va kv (own_pr q0) (own_pr q1) (q2 &&& (255 : Int32)) zc vS h0 n0 O E_a1 F_value_a1 F_coder_a1 V_va ⟨Int.le_trans (by decide) (own_prB q0).1, Int.lt_of_le_of_lt (own_prB q0).2.1 (by decide)⟩ (own_prP q0) ⟨Int.le_trans (by decide) (own_prB q1).1, Int.lt_of_le_of_lt (own_prB q1).2.1 (by decide)⟩ (own_prP q1) (own_v255 q2) S_C hzc S_S hvS
  · exact own_unPEP l Z a0 hw ws a1 va kv (own_pr q0) (q1 &&& (255 : Int32)) (own_pr q2) zc vS h0 n0 O E_a1 F_value_a1 F_coder_a1 V_va ⟨Int.le_trans (by decide) (own_prB q0).1, Int.lt_of_le_of_lt (own_prB q0).2.1 (by decide)⟩ (own_prP q0) (own_v255 q1) ⟨Int.le_trans (by decide) (own_prB q2).1, Int.lt_of_le_of_lt (own_prB q2).2.1 (by decide)⟩ (own_prP q2) S_C hzc S_S hvS
  · exact own_unPEE l Z a0 hw ws a1 va kv (own_pr q0) (q1 &&& (255 : Int32)) (q2 &&& (255 : Int32)) zc vS h0 n0 O E_a1 F_value_a1 F_coder_a1 V_va ⟨Int.le_trans (by decide) (own_prB q0).1, Int.lt_of_le_of_lt (own_prB q0).2.1 (by decide)⟩ (own_prP q0) (own_v255 q1) (own_v255 q2) S_C hzc S_S hvS
  · exact own_unEPP l Z a0 hw ws a1 va kv (q0 &&& (255 : Int32)) (own_pr q1) (own_pr q2) zc vS h0 n0 O E_a1 F_value_a1 F_coder_a1 V_va (own_v255 q0) ⟨Int.le_trans (by decide) (own_prB q1).1, Int.lt_of_le_of_lt (own_prB q1).2.1 (by decide)⟩ (own_prP q1) ⟨Int.le_trans (by decide) (own_prB q2).1, Int.lt_of_le_of_lt (own_prB q2).2.1 (by decide)⟩ (own_prP q2) S_C hzc S_S hvS
  · exact own_unEPE l Z a0 hw ws a1 va kv (q0 &&& (255 : Int32)) (own_pr q1) (q2 &&& (255 : Int32)) zc vS h0 n0 O E_a1 F_value_a1 F_coder_a1 V_va (own_v255 q0) ⟨Int.le_trans (by decide) (own_prB q1).1, Int.lt_of_le_of_lt (own_prB q1).2.1 (by decide)⟩ (own_prP q1) (own_v255 q2) S_C hzc S_S hvS
  · exact own_unEEP l Z a0 hw ws a1 va kv (q0 &&& (255 : Int32)) (q1 &&& (255 : Int32)) (own_pr q2) zc vS h0 n0 O E_a1 F_value_a1 F_coder_a1 V_va (own_v255 q0) (own_v255 q1) ⟨Int.le_trans (by decide) (own_prB q2).1, Int.lt_of_le_of_lt (own_prB q2).2.1 (by decide)⟩ (own_prP q2) S_C hzc S_S hvS
  · exact own_unEEE l Z a0 hw ws a1 va kv (q0 &&& (255 : Int32)) (q1 &&& (255 : Int32)) (q2 &&& (255 : Int32)) zc vS h0 n0 O E_a1 F_value_a1 F_coder_a1 V_va (own_v255 q0) (own_v255 q1) (own_v255 q2) S_C hzc S_S hvS
theorem own_plan3 {f0 f1 f2 q0 q1 q2 : Int32} (hf0 : f0 = 0 ∨ f0 = 1) (hf1 : f1 = 0 ∨ f1 = 1) (hf2 : f2 = 0 ∨ f2 = 1) : ∃ (N : Int32) (cs : List Int32) (n : Nat) (w0 : Int32) (w1 : Int32) (w2 : Int32) (es0 : List Int32) (es1 : List Int32) (es2 : List Int32) (j1 : Int32) (j2 : Int32) (j3 : Int32) (r0 : Int32) (r1 : Int32) (r2 : Int32), N ∈ own_DN ∧ N = ((w0 + w1) + w2) ∧ ((f0 = (0 : Int32) ∧ w0 = 1) ∨ (f0 = (1 : Int32) ∧ w0 = 4)) ∧ ((f1 = (0 : Int32) ∧ w1 = 1) ∨ (f1 = (1 : Int32) ∧ w1 = 4)) ∧ ((f2 = (0 : Int32) ∧ w2 = 1) ∨ (f2 = (1 : Int32) ∧ w2 = 4)) ∧ own_U f0 q0 (0 : Int32) j1 N ([] : List Value) es0 ∧ own_U f1 q1 j1 j2 N (([] : List Value) ++ es0.map Value.int) es1 ∧ own_U f2 q2 j2 j3 N ((([] : List Value) ++ es0.map Value.int) ++ es1.map Value.int) es2 ∧ own_X f0 q0 r0 ∧ own_X f1 q1 r1 ∧ own_X f2 q2 r2 ∧ (((([] : List Value) ++ es0.map Value.int) ++ es1.map Value.int) ++ es2.map Value.int) = cs.map Value.int ∧ cs.length = n ∧ N = Int32.ofNat n ∧ 0 < n ∧ n ≤ 12 ∧ (∀ c ∈ cs, ¬ c < 0 ∧ ¬ (255 : Int32) < c) ∧ own_P3 f0 q0 f1 q1 f2 q2 N ((cs.map fun c => c.toInt8.toInt32).map Value.int) r0 r1 r2 := by
  have pB0 := own_prB q0
  have vB0 := own_v255 q0
  have hB0 := own_hxB (own_hi vB0.1 vB0.2).2.1 (own_hi vB0.1 vB0.2).2.2
  have lB0 := own_hxB (own_lo vB0.1 vB0.2).2.1 (own_lo vB0.1 vB0.2).2.2
  have pB1 := own_prB q1
  have vB1 := own_v255 q1
  have hB1 := own_hxB (own_hi vB1.1 vB1.2).2.1 (own_hi vB1.1 vB1.2).2.2
  have lB1 := own_hxB (own_lo vB1.1 vB1.2).2.1 (own_lo vB1.1 vB1.2).2.2
  have pB2 := own_prB q2
  have vB2 := own_v255 q2
  have hB2 := own_hxB (own_hi vB2.1 vB2.2).2.1 (own_hi vB2.1 vB2.2).2.2
  have lB2 := own_hxB (own_lo vB2.1 vB2.2).2.1 (own_lo vB2.1 vB2.2).2.2
  rcases hf0 with rfl | rfl <;> rcases hf1 with rfl | rfl <;> rcases hf2 with rfl | rfl
  · have hall : ∀ c ∈ ([own_pr q0, own_pr q1, own_pr q2] : List Int32), ¬ c < 0 ∧ ¬ (255 : Int32) < c := fun c hc => by
      simp only [List.mem_cons, List.not_mem_nil, or_false] at hc
      rcases hc with rfl | rfl | rfl
      · exact own_le255' (Int.le_trans (by decide) pB0.1) (Int.lt_of_le_of_lt pB0.2.1 (by decide))
      · exact own_le255' (Int.le_trans (by decide) pB1.1) (Int.lt_of_le_of_lt pB1.2.1 (by decide))
      · exact own_le255' (Int.le_trans (by decide) pB2.1) (Int.lt_of_le_of_lt pB2.2.1 (by decide))
    exact ⟨(3 : Int32), [own_pr q0, own_pr q1, own_pr q2], 3, (1 : Int32), (1 : Int32), (1 : Int32), [own_pr q0], [own_pr q1], [own_pr q2], (1 : Int32), (2 : Int32), (3 : Int32), own_sb (own_pr q0), own_sb (own_pr q1), own_sb (own_pr q2), by decide, by decide, Or.inl ⟨rfl, rfl⟩, Or.inl ⟨rfl, rfl⟩, Or.inl ⟨rfl, rfl⟩, Or.inl ⟨rfl, by decide, rfl, by decide, rfl⟩, Or.inl ⟨rfl, by decide, rfl, by decide, rfl⟩, Or.inl ⟨rfl, by decide, rfl, by decide, rfl⟩, Or.inl ⟨rfl, rfl⟩, Or.inl ⟨rfl, rfl⟩, Or.inl ⟨rfl, rfl⟩, rfl, rfl, by decide, by decide, by decide, hall, Or.inl ⟨rfl, rfl, rfl, rfl, rfl, rfl, rfl, rfl⟩⟩
  · have hall : ∀ c ∈ ([own_pr q0, own_pr q1, (92 : Int32), (120 : Int32), own_hx ((q2 &&& (255 : Int32)) / (16 : Int32)), own_hx ((q2 &&& (255 : Int32)) % (16 : Int32))] : List Int32), ¬ c < 0 ∧ ¬ (255 : Int32) < c := fun c hc => by
      simp only [List.mem_cons, List.not_mem_nil, or_false] at hc
      rcases hc with rfl | rfl | rfl | rfl | rfl | rfl
      · exact own_le255' (Int.le_trans (by decide) pB0.1) (Int.lt_of_le_of_lt pB0.2.1 (by decide))
      · exact own_le255' (Int.le_trans (by decide) pB1.1) (Int.lt_of_le_of_lt pB1.2.1 (by decide))
      · exact (by decide)
      · exact (by decide)
      · exact own_le255' hB2.1 hB2.2
      · exact own_le255' lB2.1 lB2.2
    exact ⟨(6 : Int32), [own_pr q0, own_pr q1, (92 : Int32), (120 : Int32), own_hx ((q2 &&& (255 : Int32)) / (16 : Int32)), own_hx ((q2 &&& (255 : Int32)) % (16 : Int32))], 6, (1 : Int32), (1 : Int32), (4 : Int32), [own_pr q0], [own_pr q1], [(92 : Int32), (120 : Int32), own_hx ((q2 &&& (255 : Int32)) / (16 : Int32)), own_hx ((q2 &&& (255 : Int32)) % (16 : Int32))], (1 : Int32), (2 : Int32), (6 : Int32), own_sb (own_pr q0), own_sb (own_pr q1), own_sb (q2 &&& (255 : Int32)), by decide, by decide, Or.inl ⟨rfl, rfl⟩, Or.inl ⟨rfl, rfl⟩, Or.inr ⟨rfl, rfl⟩, Or.inl ⟨rfl, by decide, rfl, by decide, rfl⟩, Or.inl ⟨rfl, by decide, rfl, by decide, rfl⟩, Or.inr ⟨rfl, by decide, rfl, by decide, by decide, by decide, by decide, rfl, rfl, rfl, rfl⟩, Or.inl ⟨rfl, rfl⟩, Or.inl ⟨rfl, rfl⟩, Or.inr ⟨rfl, rfl⟩, rfl, rfl, by decide, by decide, by decide, hall, Or.inr (Or.inl ⟨rfl, rfl, rfl, rfl, rfl, rfl, rfl, rfl⟩)⟩
  · have hall : ∀ c ∈ ([own_pr q0, (92 : Int32), (120 : Int32), own_hx ((q1 &&& (255 : Int32)) / (16 : Int32)), own_hx ((q1 &&& (255 : Int32)) % (16 : Int32)), own_pr q2] : List Int32), ¬ c < 0 ∧ ¬ (255 : Int32) < c := fun c hc => by
      simp only [List.mem_cons, List.not_mem_nil, or_false] at hc
      rcases hc with rfl | rfl | rfl | rfl | rfl | rfl
      · exact own_le255' (Int.le_trans (by decide) pB0.1) (Int.lt_of_le_of_lt pB0.2.1 (by decide))
      · exact (by decide)
      · exact (by decide)
      · exact own_le255' hB1.1 hB1.2
      · exact own_le255' lB1.1 lB1.2
      · exact own_le255' (Int.le_trans (by decide) pB2.1) (Int.lt_of_le_of_lt pB2.2.1 (by decide))
    exact ⟨(6 : Int32), [own_pr q0, (92 : Int32), (120 : Int32), own_hx ((q1 &&& (255 : Int32)) / (16 : Int32)), own_hx ((q1 &&& (255 : Int32)) % (16 : Int32)), own_pr q2], 6, (1 : Int32), (4 : Int32), (1 : Int32), [own_pr q0], [(92 : Int32), (120 : Int32), own_hx ((q1 &&& (255 : Int32)) / (16 : Int32)), own_hx ((q1 &&& (255 : Int32)) % (16 : Int32))], [own_pr q2], (1 : Int32), (5 : Int32), (6 : Int32), own_sb (own_pr q0), own_sb (q1 &&& (255 : Int32)), own_sb (own_pr q2), by decide, by decide, Or.inl ⟨rfl, rfl⟩, Or.inr ⟨rfl, rfl⟩, Or.inl ⟨rfl, rfl⟩, Or.inl ⟨rfl, by decide, rfl, by decide, rfl⟩, Or.inr ⟨rfl, by decide, rfl, by decide, by decide, by decide, by decide, rfl, rfl, rfl, rfl⟩, Or.inl ⟨rfl, by decide, rfl, by decide, rfl⟩, Or.inl ⟨rfl, rfl⟩, Or.inr ⟨rfl, rfl⟩, Or.inl ⟨rfl, rfl⟩, rfl, rfl, by decide, by decide, by decide, hall, Or.inr (Or.inr (Or.inl ⟨rfl, rfl, rfl, rfl, rfl, rfl, rfl, rfl⟩))⟩
  · have hall : ∀ c ∈ ([own_pr q0, (92 : Int32), (120 : Int32), own_hx ((q1 &&& (255 : Int32)) / (16 : Int32)), own_hx ((q1 &&& (255 : Int32)) % (16 : Int32)), (92 : Int32), (120 : Int32), own_hx ((q2 &&& (255 : Int32)) / (16 : Int32)), own_hx ((q2 &&& (255 : Int32)) % (16 : Int32))] : List Int32), ¬ c < 0 ∧ ¬ (255 : Int32) < c := fun c hc => by
      simp only [List.mem_cons, List.not_mem_nil, or_false] at hc
      rcases hc with rfl | rfl | rfl | rfl | rfl | rfl | rfl | rfl | rfl
      · exact own_le255' (Int.le_trans (by decide) pB0.1) (Int.lt_of_le_of_lt pB0.2.1 (by decide))
      · exact (by decide)
      · exact (by decide)
      · exact own_le255' hB1.1 hB1.2
      · exact own_le255' lB1.1 lB1.2
      · exact (by decide)
      · exact (by decide)
      · exact own_le255' hB2.1 hB2.2
      · exact own_le255' lB2.1 lB2.2
    exact ⟨(9 : Int32), [own_pr q0, (92 : Int32), (120 : Int32), own_hx ((q1 &&& (255 : Int32)) / (16 : Int32)), own_hx ((q1 &&& (255 : Int32)) % (16 : Int32)), (92 : Int32), (120 : Int32), own_hx ((q2 &&& (255 : Int32)) / (16 : Int32)), own_hx ((q2 &&& (255 : Int32)) % (16 : Int32))], 9, (1 : Int32), (4 : Int32), (4 : Int32), [own_pr q0], [(92 : Int32), (120 : Int32), own_hx ((q1 &&& (255 : Int32)) / (16 : Int32)), own_hx ((q1 &&& (255 : Int32)) % (16 : Int32))], [(92 : Int32), (120 : Int32), own_hx ((q2 &&& (255 : Int32)) / (16 : Int32)), own_hx ((q2 &&& (255 : Int32)) % (16 : Int32))], (1 : Int32), (5 : Int32), (9 : Int32), own_sb (own_pr q0), own_sb (q1 &&& (255 : Int32)), own_sb (q2 &&& (255 : Int32)), by decide, by decide, Or.inl ⟨rfl, rfl⟩, Or.inr ⟨rfl, rfl⟩, Or.inr ⟨rfl, rfl⟩, Or.inl ⟨rfl, by decide, rfl, by decide, rfl⟩, Or.inr ⟨rfl, by decide, rfl, by decide, by decide, by decide, by decide, rfl, rfl, rfl, rfl⟩, Or.inr ⟨rfl, by decide, rfl, by decide, by decide, by decide, by decide, rfl, rfl, rfl, rfl⟩, Or.inl ⟨rfl, rfl⟩, Or.inr ⟨rfl, rfl⟩, Or.inr ⟨rfl, rfl⟩, rfl, rfl, by decide, by decide, by decide, hall, Or.inr (Or.inr (Or.inr (Or.inl ⟨rfl, rfl, rfl, rfl, rfl, rfl, rfl, rfl⟩)))⟩
  · have hall : ∀ c ∈ ([(92 : Int32), (120 : Int32), own_hx ((q0 &&& (255 : Int32)) / (16 : Int32)), own_hx ((q0 &&& (255 : Int32)) % (16 : Int32)), own_pr q1, own_pr q2] : List Int32), ¬ c < 0 ∧ ¬ (255 : Int32) < c := fun c hc => by
      simp only [List.mem_cons, List.not_mem_nil, or_false] at hc
      rcases hc with rfl | rfl | rfl | rfl | rfl | rfl
      · exact (by decide)
      · exact (by decide)
      · exact own_le255' hB0.1 hB0.2
      · exact own_le255' lB0.1 lB0.2
      · exact own_le255' (Int.le_trans (by decide) pB1.1) (Int.lt_of_le_of_lt pB1.2.1 (by decide))
      · exact own_le255' (Int.le_trans (by decide) pB2.1) (Int.lt_of_le_of_lt pB2.2.1 (by decide))
    exact ⟨(6 : Int32), [(92 : Int32), (120 : Int32), own_hx ((q0 &&& (255 : Int32)) / (16 : Int32)), own_hx ((q0 &&& (255 : Int32)) % (16 : Int32)), own_pr q1, own_pr q2], 6, (4 : Int32), (1 : Int32), (1 : Int32), [(92 : Int32), (120 : Int32), own_hx ((q0 &&& (255 : Int32)) / (16 : Int32)), own_hx ((q0 &&& (255 : Int32)) % (16 : Int32))], [own_pr q1], [own_pr q2], (4 : Int32), (5 : Int32), (6 : Int32), own_sb (q0 &&& (255 : Int32)), own_sb (own_pr q1), own_sb (own_pr q2), by decide, by decide, Or.inr ⟨rfl, rfl⟩, Or.inl ⟨rfl, rfl⟩, Or.inl ⟨rfl, rfl⟩, Or.inr ⟨rfl, by decide, rfl, by decide, by decide, by decide, by decide, rfl, rfl, rfl, rfl⟩, Or.inl ⟨rfl, by decide, rfl, by decide, rfl⟩, Or.inl ⟨rfl, by decide, rfl, by decide, rfl⟩, Or.inr ⟨rfl, rfl⟩, Or.inl ⟨rfl, rfl⟩, Or.inl ⟨rfl, rfl⟩, rfl, rfl, by decide, by decide, by decide, hall, Or.inr (Or.inr (Or.inr (Or.inr (Or.inl ⟨rfl, rfl, rfl, rfl, rfl, rfl, rfl, rfl⟩))))⟩
  · have hall : ∀ c ∈ ([(92 : Int32), (120 : Int32), own_hx ((q0 &&& (255 : Int32)) / (16 : Int32)), own_hx ((q0 &&& (255 : Int32)) % (16 : Int32)), own_pr q1, (92 : Int32), (120 : Int32), own_hx ((q2 &&& (255 : Int32)) / (16 : Int32)), own_hx ((q2 &&& (255 : Int32)) % (16 : Int32))] : List Int32), ¬ c < 0 ∧ ¬ (255 : Int32) < c := fun c hc => by
      simp only [List.mem_cons, List.not_mem_nil, or_false] at hc
      rcases hc with rfl | rfl | rfl | rfl | rfl | rfl | rfl | rfl | rfl
      · exact (by decide)
      · exact (by decide)
      · exact own_le255' hB0.1 hB0.2
      · exact own_le255' lB0.1 lB0.2
      · exact own_le255' (Int.le_trans (by decide) pB1.1) (Int.lt_of_le_of_lt pB1.2.1 (by decide))
      · exact (by decide)
      · exact (by decide)
      · exact own_le255' hB2.1 hB2.2
      · exact own_le255' lB2.1 lB2.2
    exact ⟨(9 : Int32), [(92 : Int32), (120 : Int32), own_hx ((q0 &&& (255 : Int32)) / (16 : Int32)), own_hx ((q0 &&& (255 : Int32)) % (16 : Int32)), own_pr q1, (92 : Int32), (120 : Int32), own_hx ((q2 &&& (255 : Int32)) / (16 : Int32)), own_hx ((q2 &&& (255 : Int32)) % (16 : Int32))], 9, (4 : Int32), (1 : Int32), (4 : Int32), [(92 : Int32), (120 : Int32), own_hx ((q0 &&& (255 : Int32)) / (16 : Int32)), own_hx ((q0 &&& (255 : Int32)) % (16 : Int32))], [own_pr q1], [(92 : Int32), (120 : Int32), own_hx ((q2 &&& (255 : Int32)) / (16 : Int32)), own_hx ((q2 &&& (255 : Int32)) % (16 : Int32))], (4 : Int32), (5 : Int32), (9 : Int32), own_sb (q0 &&& (255 : Int32)), own_sb (own_pr q1), own_sb (q2 &&& (255 : Int32)), by decide, by decide, Or.inr ⟨rfl, rfl⟩, Or.inl ⟨rfl, rfl⟩, Or.inr ⟨rfl, rfl⟩, Or.inr ⟨rfl, by decide, rfl, by decide, by decide, by decide, by decide, rfl, rfl, rfl, rfl⟩, Or.inl ⟨rfl, by decide, rfl, by decide, rfl⟩, Or.inr ⟨rfl, by decide, rfl, by decide, by decide, by decide, by decide, rfl, rfl, rfl, rfl⟩, Or.inr ⟨rfl, rfl⟩, Or.inl ⟨rfl, rfl⟩, Or.inr ⟨rfl, rfl⟩, rfl, rfl, by decide, by decide, by decide, hall, Or.inr (Or.inr (Or.inr (Or.inr (Or.inr (Or.inl ⟨rfl, rfl, rfl, rfl, rfl, rfl, rfl, rfl⟩)))))⟩
  · have hall : ∀ c ∈ ([(92 : Int32), (120 : Int32), own_hx ((q0 &&& (255 : Int32)) / (16 : Int32)), own_hx ((q0 &&& (255 : Int32)) % (16 : Int32)), (92 : Int32), (120 : Int32), own_hx ((q1 &&& (255 : Int32)) / (16 : Int32)), own_hx ((q1 &&& (255 : Int32)) % (16 : Int32)), own_pr q2] : List Int32), ¬ c < 0 ∧ ¬ (255 : Int32) < c := fun c hc => by
      simp only [List.mem_cons, List.not_mem_nil, or_false] at hc
      rcases hc with rfl | rfl | rfl | rfl | rfl | rfl | rfl | rfl | rfl
      · exact (by decide)
      · exact (by decide)
      · exact own_le255' hB0.1 hB0.2
      · exact own_le255' lB0.1 lB0.2
      · exact (by decide)
      · exact (by decide)
      · exact own_le255' hB1.1 hB1.2
      · exact own_le255' lB1.1 lB1.2
      · exact own_le255' (Int.le_trans (by decide) pB2.1) (Int.lt_of_le_of_lt pB2.2.1 (by decide))
    exact ⟨(9 : Int32), [(92 : Int32), (120 : Int32), own_hx ((q0 &&& (255 : Int32)) / (16 : Int32)), own_hx ((q0 &&& (255 : Int32)) % (16 : Int32)), (92 : Int32), (120 : Int32), own_hx ((q1 &&& (255 : Int32)) / (16 : Int32)), own_hx ((q1 &&& (255 : Int32)) % (16 : Int32)), own_pr q2], 9, (4 : Int32), (4 : Int32), (1 : Int32), [(92 : Int32), (120 : Int32), own_hx ((q0 &&& (255 : Int32)) / (16 : Int32)), own_hx ((q0 &&& (255 : Int32)) % (16 : Int32))], [(92 : Int32), (120 : Int32), own_hx ((q1 &&& (255 : Int32)) / (16 : Int32)), own_hx ((q1 &&& (255 : Int32)) % (16 : Int32))], [own_pr q2], (4 : Int32), (8 : Int32), (9 : Int32), own_sb (q0 &&& (255 : Int32)), own_sb (q1 &&& (255 : Int32)), own_sb (own_pr q2), by decide, by decide, Or.inr ⟨rfl, rfl⟩, Or.inr ⟨rfl, rfl⟩, Or.inl ⟨rfl, rfl⟩, Or.inr ⟨rfl, by decide, rfl, by decide, by decide, by decide, by decide, rfl, rfl, rfl, rfl⟩, Or.inr ⟨rfl, by decide, rfl, by decide, by decide, by decide, by decide, rfl, rfl, rfl, rfl⟩, Or.inl ⟨rfl, by decide, rfl, by decide, rfl⟩, Or.inr ⟨rfl, rfl⟩, Or.inr ⟨rfl, rfl⟩, Or.inl ⟨rfl, rfl⟩, rfl, rfl, by decide, by decide, by decide, hall, Or.inr (Or.inr (Or.inr (Or.inr (Or.inr (Or.inr (Or.inl ⟨rfl, rfl, rfl, rfl, rfl, rfl, rfl, rfl⟩))))))⟩
  · have hall : ∀ c ∈ ([(92 : Int32), (120 : Int32), own_hx ((q0 &&& (255 : Int32)) / (16 : Int32)), own_hx ((q0 &&& (255 : Int32)) % (16 : Int32)), (92 : Int32), (120 : Int32), own_hx ((q1 &&& (255 : Int32)) / (16 : Int32)), own_hx ((q1 &&& (255 : Int32)) % (16 : Int32)), (92 : Int32), (120 : Int32), own_hx ((q2 &&& (255 : Int32)) / (16 : Int32)), own_hx ((q2 &&& (255 : Int32)) % (16 : Int32))] : List Int32), ¬ c < 0 ∧ ¬ (255 : Int32) < c := fun c hc => by
      simp only [List.mem_cons, List.not_mem_nil, or_false] at hc
      rcases hc with rfl | rfl | rfl | rfl | rfl | rfl | rfl | rfl | rfl | rfl | rfl | rfl
      · exact (by decide)
      · exact (by decide)
      · exact own_le255' hB0.1 hB0.2
      · exact own_le255' lB0.1 lB0.2
      · exact (by decide)
      · exact (by decide)
      · exact own_le255' hB1.1 hB1.2
      · exact own_le255' lB1.1 lB1.2
      · exact (by decide)
      · exact (by decide)
      · exact own_le255' hB2.1 hB2.2
      · exact own_le255' lB2.1 lB2.2
    exact ⟨(12 : Int32), [(92 : Int32), (120 : Int32), own_hx ((q0 &&& (255 : Int32)) / (16 : Int32)), own_hx ((q0 &&& (255 : Int32)) % (16 : Int32)), (92 : Int32), (120 : Int32), own_hx ((q1 &&& (255 : Int32)) / (16 : Int32)), own_hx ((q1 &&& (255 : Int32)) % (16 : Int32)), (92 : Int32), (120 : Int32), own_hx ((q2 &&& (255 : Int32)) / (16 : Int32)), own_hx ((q2 &&& (255 : Int32)) % (16 : Int32))], 12, (4 : Int32), (4 : Int32), (4 : Int32), [(92 : Int32), (120 : Int32), own_hx ((q0 &&& (255 : Int32)) / (16 : Int32)), own_hx ((q0 &&& (255 : Int32)) % (16 : Int32))], [(92 : Int32), (120 : Int32), own_hx ((q1 &&& (255 : Int32)) / (16 : Int32)), own_hx ((q1 &&& (255 : Int32)) % (16 : Int32))], [(92 : Int32), (120 : Int32), own_hx ((q2 &&& (255 : Int32)) / (16 : Int32)), own_hx ((q2 &&& (255 : Int32)) % (16 : Int32))], (4 : Int32), (8 : Int32), (12 : Int32), own_sb (q0 &&& (255 : Int32)), own_sb (q1 &&& (255 : Int32)), own_sb (q2 &&& (255 : Int32)), by decide, by decide, Or.inr ⟨rfl, rfl⟩, Or.inr ⟨rfl, rfl⟩, Or.inr ⟨rfl, rfl⟩, Or.inr ⟨rfl, by decide, rfl, by decide, by decide, by decide, by decide, rfl, rfl, rfl, rfl⟩, Or.inr ⟨rfl, by decide, rfl, by decide, by decide, by decide, by decide, rfl, rfl, rfl, rfl⟩, Or.inr ⟨rfl, by decide, rfl, by decide, by decide, by decide, by decide, rfl, rfl, rfl, rfl⟩, Or.inr ⟨rfl, rfl⟩, Or.inr ⟨rfl, rfl⟩, Or.inr ⟨rfl, rfl⟩, rfl, rfl, by decide, by decide, by decide, hall, Or.inr (Or.inr (Or.inr (Or.inr (Or.inr (Or.inr (Or.inr (⟨rfl, rfl, rfl, rfl, rfl, rfl, rfl, rfl⟩)))))))⟩
abbrev own_EL : List (String × Nat) := [("java/lang/String", 7)]
theorem own_hEL {Z : State} {a0 : Array Value} (hw : ∀ d ∈ tables_1, d.before a0 Z = true) : EW Z a0 own_EL := EW.cons (hw _ (own_w 21 rfl)) (by decide) (EW.nil)
theorem ej42m149_d0 : decode jdk_42_method_149_code 0 = .ok (.aload_n 0, 1) := by decide +kernel
theorem ej42m149_d1 : decode jdk_42_method_149_code 1 = .ok (.invokespecial 1, 3) := by decide +kernel
theorem ej42m149_d4 : decode jdk_42_method_149_code 4 = .ok (.iload_n 3, 1) := by decide +kernel
theorem ej42m149_d5 : decode jdk_42_method_149_code 5 = .ok (.ifCond .ne 22, 3) := by decide +kernel
theorem ej42m149_d8 : decode jdk_42_method_149_code 8 = .ok (.aload_n 0, 1) := by decide +kernel
theorem ej42m149_d9 : decode jdk_42_method_149_code 9 = .ok (.ldc 7, 2) := by decide +kernel
theorem ej42m149_d11 : decode jdk_42_method_149_code 11 = .ok (.getfield 9, 3) := by decide +kernel
theorem ej42m149_d14 : decode jdk_42_method_149_code 14 = .ok (.putfield 9, 3) := by decide +kernel
theorem ej42m149_d17 : decode jdk_42_method_149_code 17 = .ok (.aload_n 0, 1) := by decide +kernel
theorem ej42m149_d18 : decode jdk_42_method_149_code 18 = .ok (.ldc 7, 2) := by decide +kernel
theorem ej42m149_d20 : decode jdk_42_method_149_code 20 = .ok (.getfield 15, 3) := by decide +kernel
theorem ej42m149_d23 : decode jdk_42_method_149_code 23 = .ok (.putfield 15, 3) := by decide +kernel
theorem ej42m149_d26 : decode jdk_42_method_149_code 26 = .ok (.return_, 1) := by decide +kernel
theorem own_i2_pn : plainFor (⟨"java/lang/String", "<init>", "([CIILjava/lang/Void;)V"⟩ : MethodName) = true := by first | exact plainFor_of_name (by first | (simp [plainName, overriddenIn]; done) | decide +kernel) | decide +kernel | exact Jvm.Free.JP.mathPlain rfl (by decide +kernel)
theorem own_i2_ef (m : MethodId) (x0 : Addr) (x1 : Addr) (x2 : Int32) (x3 : Int32) : entryFrame m #[(.ref x0), (.ref x1), (.int x2), (.int x3), .null] 6 = mkF m 0 #[.val (.ref x0), .val (.ref x1), .val (.int x2), .val (.int x3), .val .null, .unset] [] := by first | (simp [entryFrame, mkF, argsToLocals, Value.category]; done) | rfl
def own_i2_Q (Z : State) (a1 : Addr) (ca : Addr) (kc : ClassId) (zc : Int32) (h0 : Heap) (n0 : Nat) (v : Option Value) (h : Heap) (L : List Loc) : Prop := ∃ b kb, v = none ∧ Fr n0 L ∧ Keep h0 h [a1] ∧ Exa Z h a1 "java/lang/String" ∧ Fld Z h a1 "java/lang/String" "value" "[B" (.ref b) ∧ Fld Z h a1 "java/lang/String" "coder" "B" (.int 0) ∧ Arv Z h b kb .byte (0 : Int32) ([] : List Value) (.int 0)
set_option maxRecDepth 65536 in
set_option maxHeartbeats 40000000 in
theorem own_i2 (l : Launch) (Z : State) (a0 : Array Value) (hw : ∀ d ∈ tables_1, d.before a0 Z = true) (ws : List Jvm.Cond) (a1 : Addr) (ca : Addr) (kc : ClassId) (zc : Int32) (h0 : Heap) (n0 : Nat) (O : Old Z n0 h0) (E_a1 : Exa Z h0 a1 "java/lang/String") (F_value_a1 : Fld Z h0 a1 "java/lang/String" "value" "[B" .null) (F_coder_a1 : Fld Z h0 a1 "java/lang/String" "coder" "B" (.int 0)) (V_ca : Arv Z h0 ca kc .char (0 : Int32) ([] : List Value) (.int 0)) (g_a1 : n0 ≤ a1) (S_C : Sta Z Z.heap "java/lang/String" "COMPACT_STRINGS" "Z" (.int zc)) (hzc : ¬ zc = 0) (ne_a1_ca : a1 ≠ ca) :
    MetFree l (⟨"java/lang/String", "<init>", "([CIILjava/lang/Void;)V"⟩ : MethodName) (head1 (Jvm.Cond.code (⟨"java/lang/String", "<init>", "([CIILjava/lang/Void;)V"⟩ : MethodName) jdk_42_method_149_code 6 none :: ws) ({ frames := 1, cells := 2, slots := 4, locals := 12 } : Room)) (fun a U => a = #[(.ref a1), (.ref ca), (.int 0), (.int 0), .null] ∧ Z.Warmed39 U.vm ∧ U.heap = h0 ∧ CHv Z own_EL U.vm h0) (fun _ _ _ _ _ => True) (fun _ U o U' => ∃ v L, o = .returned v ∧ own_i2_Q Z a1 ca kc zc h0 n0 v U'.heap L ∧ CHr Z own_EL U.vm U.heap U'.vm U'.heap ∧ ReturnedEndW U o U' L ({ frames := 1, cells := 2, slots := 4, locals := 12 } : Room).cells ({ frames := 1, cells := 2, slots := 4, locals := 12 } : Room).slots) := by
  refine MetFree.of_bodySF own_i2_pn hisR ?_
  intro p e s m args below meth c s₁ Bd hml0 hP hK
  obtain ⟨rfl, hZ, hh, H0⟩ := hP
  have hx := Bd.exec
  have hby := Bd.bytes
  have hlk := Bd.notSynchronized
  have hml : c.maxLocals = 6 := hml0
  have hown : s.vm.findClass "java/lang/String" = some m.cls := findClass_of_methodNamed Bd.named
  have hnm := (name_of_methodNamed Bd.named Bd.method).1
  have X : Stand p l e ({ frames := 1, cells := 2, slots := 4, locals := 12 } : Room) s m #[(.ref a1), (.ref ca), (.int 0), (.int 0), .null] below meth c s₁ [] 0 0 := Stand.of_body Bd
  have eT : s₁.heap = h0 := by rw [← hh, Bd.state]; rfl
  have N := Fr.nil n0
  have K0 := Keep.refl h0 [a1]
  show own_Ends p e below (own_PostW s below (own_i2_Q Z a1 ca kc zc h0 n0) (fun u => CHr Z own_EL s.vm s.heap u.vm u.heap) ({ frames := 1, cells := 2, slots := 4, locals := 12 } : Room).cells ({ frames := 1, cells := 2, slots := 4, locals := 12 } : Room).slots) s₁ (entryFrame m #[(.ref a1), (.ref ca), (.int 0), (.int 0), .null] 6)
  rw [own_i2_ef m a1 ca (0 : Int32) (0 : Int32)]
  obtain ⟨T, hT⟩ : ∃ z, z = s₁ := ⟨_, rfl⟩
  rw [← hT] at X eT ⊢
  obtain ⟨h, hh0⟩ : ∃ z, z = h0 := ⟨_, rfl⟩
  rw [← hh0] at eT
  replace O : Old Z n0 h := by rw [hh0]; exact O
  replace K0 : Keep h0 h [a1] := by rw [hh0]; exact K0
  rw [← hh0] at E_a1
  rw [← hh0] at F_value_a1
  rw [← hh0] at F_coder_a1
  rw [← hh0] at V_ca
  have wS : ∀ a ∈ Bundle.stringAtoms, a.before a0 Z = true := fun a ha => hw a ((by decide +kernel : ∀ d ∈ Bundle.stringAtoms, d ∈ tables_1) a ha)
  have hEL := own_hEL hw
  refine own_via (g' := (mkF m 1 (own_A14 a1 ca 0 0) [(.ref a1)])) (fun t_ k_ => XS.aloadN X.here hx rfl (hb hby ej42m149_d0) rfl rfl k_) ?_
  obtain ⟨T, X, eT, st⟩ := initO X hx hZ hown (hw _ (own_w 18 rfl)) (hw _ (own_w 19 rfl)) (hw _ (own_w 20 rfl)) eT (g := (mkF m 1 (own_A14 a1 ca 0 0) [(.ref a1)])) rfl (by rw [hml]; rfl) rfl (hb hby ej42m149_d1) (by decide) (W := 0) (by show 2 * 0 + _ ≤ _; exact Nat.le_of_eq rfl) (by decide)
  refine own_via (g' := (mkF m 4 (own_A14 a1 ca 0 0) [])) st ?_
  refine own_via (g' := (mkF m 9 (own_A14 a1 ca 0 0) [(.ref a1)])) (fun t_ k_ => XS.iloadN X.here hx rfl (hb hby ej42m149_d4) rfl (XS.ifNo X.here hx rfl (hb hby ej42m149_d5) rfl ((if0 _ _).trans (teq (by decide : (0 : Int32) = (0 : Int32))).2) (XS.aloadN X.here hx rfl (hb hby ej42m149_d8) rfl rfl k_))) ?_
  have H : CHr Z own_EL s.vm h0 s.vm h := by rw [hh0]; exact CHr.refl H0
  replace X := own_base X
  have hS := (State.WarmedH.refl s).since h0.size
  have hk : h0.size ≤ h.size := K0.1
  replace hZ : Z.Warmed39 (s.setVm s.vm).vm := hZ
  replace hown : (s.setVm s.vm).vm.findClass "java/lang/String" = some m.cls := hown
  have S_a1 := own_safeNull (EL := own_EL) hZ.alike E_a1 F_value_a1
  have LT_a1 := E_a1.lt
  obtain ⟨lt, T, h1, k1, lb, klb, X, eT, E, hS, hk, hZ, hown, E_lt, F_coder_lt, F_value_lt, V_lb, lt_lt, lt_lb, hCH, hLit, hne, st⟩ := ldcCH (s := s) X hx hZ hown (hw _ (own_w 21 rfl)) wS eT hS hk hEL (by decide) H.1 (vs := ([] : List Value)) (z := (0 : Int32)) ⟨by decide, rfl⟩ (by decide) rfl (g := (mkF m 9 (own_A14 a1 ca 0 0) [(.ref a1)])) rfl (hb hby ej42m149_d9) (n := 0) (by decide) (by decide) (by decide) (by decide)
  replace E_a1 := E_a1.ext E
  replace F_value_a1 := F_value_a1.ext E
  replace F_coder_a1 := F_coder_a1.ext E
  replace V_ca := V_ca.ext E
  replace O := O.ext E
  replace K0 := K0.ext E
  replace S_a1 := hCH.safe LT_a1 S_a1
  have ne_a1_lt := (hne a1 S_a1).1
  have ne_a1_lb := (hne a1 S_a1).2
  replace H := H.trans hCH
  refine own_via (g' := (mkF m 11 (own_A14 a1 ca 0 0) [(.ref lt), (.ref a1)])) st ?_
  obtain ⟨T, X, eT, st⟩ := getF X hx hZ hown (host := "") (Or.inl (hw _ (own_w 27 rfl))) Via.refl eT F_value_lt (g := (mkF m 11 (own_A14 a1 ca 0 0) [(.ref lt), (.ref a1)])) rfl rfl (hb hby ej42m149_d11)
  refine own_via (g' := (mkF m 14 (own_A14 a1 ca 0 0) [(.ref lb), (.ref a1)])) st ?_
  obtain ⟨T, h2, X, eT, W, st⟩ := putF X hx hZ hown (host := "") (Or.inl (hw _ (own_w 27 rfl))) Via.refl eT F_value_a1 E_a1 (Or.inr ⟨(hw _ (own_w 23 rfl)), rfl, hnm⟩) (hw _ (own_w 9 rfl)) (ty := (.array .byte)) (by decide) rfl rfl (g := (mkF m 14 (own_A14 a1 ca 0 0) [(.ref lb), (.ref a1)])) rfl rfl (hb hby ej42m149_d14)
  replace F_value_a1 := F_value_a1.same W
  replace E_a1 := E_a1.wr W
  replace F_coder_a1 := F_coder_a1.other W (Or.inr (slot_ne (Or.inr (hw _ (own_w 24 rfl))) (Or.inr (hw _ (own_w 23 rfl))) (by decide) (t := .byte) (t' := (.array .byte)) (by decide) (by decide)))
  replace V_ca := V_ca.other W (Ne.symm ne_a1_ca)
  replace E_lt := E_lt.wr W
  replace F_coder_lt := F_coder_lt.other W (Or.inl (Ne.symm ne_a1_lt))
  replace F_value_lt := F_value_lt.other W (Or.inl (Ne.symm ne_a1_lt))
  replace V_lb := V_lb.other W (Ne.symm ne_a1_lb)
  replace O := O.wr W g_a1
  replace K0 := K0.wr W (Or.inl (List.mem_of_getElem? (i := 0) rfl))
  replace N := Fr.snoc X N g_a1
  replace hk := Nat.le_trans hk (own_wrSz W)
  have So := S_a1
  replace S_a1 := Safe.wr W So H.1 S_a1
  replace H := H.trans (CHr.wr W So H.1)
  refine own_via (g' := (mkF m 17 (own_A14 a1 ca 0 0) [])) st ?_
  refine own_via (g' := (mkF m 20 (own_A14 a1 ca 0 0) [(.ref lt), (.ref a1)])) (fun t_ k_ => XS.aloadN X.here hx rfl (hb hby ej42m149_d17) rfl rfl (ldcAgain X hx hZ hown (hw _ (own_w 21 rfl)) hLit (g := (mkF m 18 (own_A14 a1 ca 0 0) [(.ref a1)])) rfl (hb hby ej42m149_d18) _ k_)) ?_
  obtain ⟨T, X, eT, st⟩ := getF X hx hZ hown (host := "") (Or.inl (hw _ (own_w 28 rfl))) Via.refl eT F_coder_lt (g := (mkF m 20 (own_A14 a1 ca 0 0) [(.ref lt), (.ref a1)])) rfl rfl (hb hby ej42m149_d20)
  refine own_via (g' := (mkF m 23 (own_A14 a1 ca 0 0) [(.int 0), (.ref a1)])) st ?_
  obtain ⟨T, h3, X, eT, W, st⟩ := putFN X hx hZ hown (hw _ (own_w 28 rfl)) Via.refl eT F_coder_a1 E_a1 (Or.inr ⟨(hw _ (own_w 24 rfl)), rfl, hnm⟩) (hw _ (own_w 9 rfl)) (ty := .byte) (v' := (.int 0)) (by decide) rfl (by decide) (g := (mkF m 23 (own_A14 a1 ca 0 0) [(.int 0), (.ref a1)])) rfl rfl (hb hby ej42m149_d23)
  replace F_coder_a1 := F_coder_a1.same W
  replace E_a1 := E_a1.wr W
  replace F_value_a1 := F_value_a1.other W (Or.inr (slot_ne (Or.inr (hw _ (own_w 23 rfl))) (Or.inr (hw _ (own_w 24 rfl))) (by decide) (t := (.array .byte)) (t' := .byte) (by decide) (by decide)))
  replace V_ca := V_ca.other W (Ne.symm ne_a1_ca)
  replace E_lt := E_lt.wr W
  replace F_coder_lt := F_coder_lt.other W (Or.inl (Ne.symm ne_a1_lt))
  replace F_value_lt := F_value_lt.other W (Or.inl (Ne.symm ne_a1_lt))
  replace V_lb := V_lb.other W (Ne.symm ne_a1_lb)
  replace O := O.wr W g_a1
  replace K0 := K0.wr W (Or.inl (List.mem_of_getElem? (i := 0) rfl))
  replace N := Fr.snoc X N g_a1
  replace hk := Nat.le_trans hk (own_wrSz W)
  have So := S_a1
  replace S_a1 := Safe.wr W So H.1 S_a1
  replace H := H.trans (CHr.wr W So H.1)
  refine own_via (g' := (mkF m 26 (own_A14 a1 ca 0 0) [])) st ?_
  refine own_retVW X hS (by rw [eT]; exact hk) hx hlk Bd.returns (hb hby ej42m149_d26) (by decide) (by decide) (fun fs => by show CHr Z own_EL s.vm s.heap T.vm T.heap; rw [eT, hh]; exact H.trans (CHv.at X hZ hEL H.1)) ?_
  rw [eT]
  exact ⟨lb, klb, rfl, N, K0, E_a1, F_value_a1, F_coder_a1, V_lb⟩
theorem ej42m3_d0 : decode jdk_42_method_3_code 0 = .ok (.aload_n 0, 1) := by decide +kernel
theorem ej42m3_d1 : decode jdk_42_method_3_code 1 = .ok (.aload_n 1, 1) := by decide +kernel
theorem ej42m3_d2 : decode jdk_42_method_3_code 2 = .ok (.iconst 0, 1) := by decide +kernel
theorem ej42m3_d3 : decode jdk_42_method_3_code 3 = .ok (.aload_n 1, 1) := by decide +kernel
theorem ej42m3_d4 : decode jdk_42_method_3_code 4 = .ok (.arraylength, 1) := by decide +kernel
theorem ej42m3_d5 : decode jdk_42_method_3_code 5 = .ok (.aconst_null, 1) := by decide +kernel
theorem ej42m3_d6 : decode jdk_42_method_3_code 6 = .ok (.invokespecial 27, 3) := by decide +kernel
theorem ej42m3_d9 : decode jdk_42_method_3_code 9 = .ok (.return_, 1) := by decide +kernel
theorem own_i1_pn : plainFor (⟨"java/lang/String", "<init>", "([C)V"⟩ : MethodName) = true := by first | exact plainFor_of_name (by first | (simp [plainName, overriddenIn]; done) | decide +kernel) | decide +kernel | exact Jvm.Free.JP.mathPlain rfl (by decide +kernel)
theorem own_i1_ef (m : MethodId) (x0 : Addr) (x1 : Addr) : entryFrame m #[(.ref x0), (.ref x1)] 2 = mkF m 0 #[.val (.ref x0), .val (.ref x1)] [] := by first | (simp [entryFrame, mkF, argsToLocals, Value.category]; done) | rfl
def own_i1_Q (Z : State) (a1 : Addr) (ca : Addr) (kc : ClassId) (zc : Int32) (h0 : Heap) (n0 : Nat) (v : Option Value) (h : Heap) (L : List Loc) : Prop := ∃ b kb, v = none ∧ Fr n0 L ∧ Keep h0 h [a1] ∧ Exa Z h a1 "java/lang/String" ∧ Fld Z h a1 "java/lang/String" "value" "[B" (.ref b) ∧ Fld Z h a1 "java/lang/String" "coder" "B" (.int 0) ∧ Arv Z h b kb .byte (0 : Int32) ([] : List Value) (.int 0)
set_option maxRecDepth 65536 in
set_option maxHeartbeats 40000000 in
theorem own_i1 (l : Launch) (Z : State) (a0 : Array Value) (hw : ∀ d ∈ tables_1, d.before a0 Z = true) (ws : List Jvm.Cond) (a1 : Addr) (ca : Addr) (kc : ClassId) (zc : Int32) (h0 : Heap) (n0 : Nat) (O : Old Z n0 h0) (E_a1 : Exa Z h0 a1 "java/lang/String") (F_value_a1 : Fld Z h0 a1 "java/lang/String" "value" "[B" .null) (F_coder_a1 : Fld Z h0 a1 "java/lang/String" "coder" "B" (.int 0)) (V_ca : Arv Z h0 ca kc .char (0 : Int32) ([] : List Value) (.int 0)) (g_a1 : n0 ≤ a1) (S_C : Sta Z Z.heap "java/lang/String" "COMPACT_STRINGS" "Z" (.int zc)) (hzc : ¬ zc = 0) (ne_a1_ca : a1 ≠ ca) :
    MetFree l (⟨"java/lang/String", "<init>", "([C)V"⟩ : MethodName) (head1 (Jvm.Cond.code (⟨"java/lang/String", "<init>", "([C)V"⟩ : MethodName) jdk_42_method_3_code 2 none :: ws) ({ frames := 2, cells := 2, slots := 4, locals := 29 } : Room)) (fun a U => a = #[(.ref a1), (.ref ca)] ∧ Z.Warmed39 U.vm ∧ U.heap = h0 ∧ CHv Z own_EL U.vm h0) (fun _ _ _ _ _ => True) (fun _ U o U' => ∃ v L, o = .returned v ∧ own_i1_Q Z a1 ca kc zc h0 n0 v U'.heap L ∧ CHr Z own_EL U.vm U.heap U'.vm U'.heap ∧ ReturnedEndW U o U' L ({ frames := 2, cells := 2, slots := 4, locals := 29 } : Room).cells ({ frames := 2, cells := 2, slots := 4, locals := 29 } : Room).slots) := by
  refine MetFree.of_bodySF own_i1_pn hisR ?_
  intro p e s m args below meth c s₁ Bd hml0 hP hK
  obtain ⟨rfl, hZ, hh, H0⟩ := hP
  have hx := Bd.exec
  have hby := Bd.bytes
  have hlk := Bd.notSynchronized
  have hml : c.maxLocals = 2 := hml0
  have hown : s.vm.findClass "java/lang/String" = some m.cls := findClass_of_methodNamed Bd.named
  have hnm := (name_of_methodNamed Bd.named Bd.method).1
  have X : Stand p l e ({ frames := 2, cells := 2, slots := 4, locals := 29 } : Room) s m #[(.ref a1), (.ref ca)] below meth c s₁ [] 0 0 := Stand.of_body Bd
  have eT : s₁.heap = h0 := by rw [← hh, Bd.state]; rfl
  have N := Fr.nil n0
  have K0 := Keep.refl h0 [a1]
  show own_Ends p e below (own_PostW s below (own_i1_Q Z a1 ca kc zc h0 n0) (fun u => CHr Z own_EL s.vm s.heap u.vm u.heap) ({ frames := 2, cells := 2, slots := 4, locals := 29 } : Room).cells ({ frames := 2, cells := 2, slots := 4, locals := 29 } : Room).slots) s₁ (entryFrame m #[(.ref a1), (.ref ca)] 2)
  rw [own_i1_ef m a1 ca]
  obtain ⟨T, hT⟩ : ∃ z, z = s₁ := ⟨_, rfl⟩
  rw [← hT] at X eT ⊢
  obtain ⟨h, hh0⟩ : ∃ z, z = h0 := ⟨_, rfl⟩
  rw [← hh0] at eT
  replace O : Old Z n0 h := by rw [hh0]; exact O
  replace K0 : Keep h0 h [a1] := by rw [hh0]; exact K0
  rw [← hh0] at E_a1
  rw [← hh0] at F_value_a1
  rw [← hh0] at F_coder_a1
  rw [← hh0] at V_ca
  have wS : ∀ a ∈ Bundle.stringAtoms, a.before a0 Z = true := fun a ha => hw a ((by decide +kernel : ∀ d ∈ Bundle.stringAtoms, d ∈ tables_1) a ha)
  have hEL := own_hEL hw
  refine own_via (g' := (mkF m 4 #[.val (.ref a1), .val (.ref ca)] [(.ref ca), (.int 0), (.ref ca), (.ref a1)])) (fun t_ k_ => XS.aloadN X.here hx rfl (hb hby ej42m3_d0) rfl rfl (XS.aloadN X.here hx rfl (hb hby ej42m3_d1) rfl rfl (XS.iconst X.here hx rfl (hb hby ej42m3_d2) (XS.aloadN X.here hx rfl (hb hby ej42m3_d3) rfl rfl k_)))) ?_
  obtain ⟨cl_, Ar_, -, Sz_, Nn_, -, -⟩ := id V_ca
  refine own_via (g' := (mkF m 5 #[.val (.ref a1), .val (.ref ca)] [(.int 0), (.int 0), (.ref ca), (.ref a1)])) (fun t_ k_ => X.arraylength hx (by rw [eT]; exact Ar_.1) (State.isArrayOf_alike hZ.alike Ar_.2.1) (g := (mkF m 4 #[.val (.ref a1), .val (.ref ca)] [(.ref ca), (.int 0), (.ref ca), (.ref a1)])) rfl rfl (hb hby ej42m3_d4) _ (by rw [len_of Sz_ Nn_]; exact k_)) ?_
  refine own_via (g' := (mkF m 6 #[.val (.ref a1), .val (.ref ca)] [.null, (.int 0), (.int 0), (.ref ca), (.ref a1)])) (fun t_ k_ => XS.aconstNull X.here hx rfl (hb hby ej42m3_d5) k_) ?_
  have H : CHr Z own_EL s.vm h0 s.vm h := by rw [hh0]; exact CHr.refl H0
  replace X := own_base X
  have hS := (State.WarmedH.refl s).since h0.size
  have hk : h0.size ≤ h.size := K0.1
  replace hZ : Z.Warmed39 (s.setVm s.vm).vm := hZ
  replace hown : (s.setVm s.vm).vm.findClass "java/lang/String" = some m.cls := hown
  obtain ⟨_, _, ⟨T, Lq, kq, nq⟩, -, X, hSq, hgr, ⟨Lc, hQ, lq, yq, zq, hCH⟩, st⟩ := X.specialBackS hx (y := own_y13) rfl hown (mvT hZ (hw _ (own_w 14 rfl))) (mvT hZ (hw _ (own_w 15 rfl))) (mvT hZ (hw _ (own_w 17 rfl))) (by decide) (backOfSH (W := 0) (s := s) (own_i2 l Z a0 hw [] a1 ca kc zc h n0 O E_a1 F_value_a1 F_coder_a1 V_ca g_a1 S_C hzc ne_a1_ca) hZ (hw _ (own_w 17 rfl)) (hw _ (own_w 10 rfl)) (by decide) (by decide) hEL H.1) (g := (mkF m 6 #[.val (.ref a1), .val (.ref ca)] [.null, (.int 0), (.int 0), (.ref ca), (.ref a1)])) rfl (by rw [hml]; rfl) (Steps.refl _) (a := a1) (argsL := [(.ref ca), (.int 0), (.int 0), .null]) (rest := []) (lenOf own_pd11 rfl) rfl (by show 2 * 0 + _ ≤ _; exact Nat.le_of_eq rfl) (hb hby ej42m3_d6) (fun _ _ => ⟨rfl, eT, (by decide : 0 + 2 ≤ _), (by decide : 0 + 4 ≤ _)⟩)
  dsimp only [Pt.U, Pt.locs, Pt.cells, Pt.slots] at X hSq hgr lq yq zq st hQ hCH
  subst lq yq zq
  obtain ⟨lb, klb, rfl, Nq, Kq, E_a1, F_value_a1, F_coder_a1, V_lb⟩ := hQ
  replace N := Fr.app N Nq
  replace hS := own_reS hS hSq (Nat.le_trans hk (by rw [← eT]; exact hgr))
  replace hZ := own_reZ hZ hSq
  replace hown := own_reown hown hSq
  replace hk := Nat.le_refl T.heap.size
  obtain ⟨vmW, eW⟩ : ∃ z, T.vm = z := ⟨_, rfl⟩
  rw [eW] at X hS hZ hown hCH
  obtain ⟨h1, eT⟩ : ∃ z, T.heap = z := ⟨_, rfl⟩
  rw [eT] at Kq E_a1 F_value_a1 F_coder_a1 V_lb
  replace V_ca := V_ca.keep Kq (ninS (Ne.symm ne_a1_ca) nin0)
  replace O := O.keep Kq (allS g_a1 all0)
  replace K0 := K0.trans Kq (allS (Or.inl (List.mem_of_getElem? (i := 0) rfl)) all0)
  rw [eT] at hk hS
  rw [eT] at hCH
  replace H := H.trans hCH
  refine own_viaT (g' := (mkF m 9 #[.val (.ref a1), .val (.ref ca)] [])) st ?_
  refine own_retVW X hS (by rw [eT]; exact hk) hx hlk Bd.returns (hb hby ej42m3_d9) (by decide) (by decide) (fun fs => by show CHr Z own_EL s.vm s.heap T.vm T.heap; rw [eT, hh]; exact H.trans (CHv.at X hZ hEL H.1)) ?_
  rw [eT]
  exact ⟨lb, klb, rfl, N, K0, E_a1, F_value_a1, F_coder_a1, V_lb⟩
theorem own_law_pn : plainFor x = true := by first | exact plainFor_of_name (by first | (simp [plainName, overriddenIn]; done) | decide +kernel) | decide +kernel | exact Jvm.Free.JP.mathPlain rfl (by decide +kernel)
theorem own_law_ef (m : MethodId) (x0 : Int32) (x1 : Int32) (x2 : Int32) (x3 : Int32) : entryFrame m #[(.int x0), (.int x1), (.int x2), (.int x3)] maxLocals = mkF m 0 #[.val (.int x0), .val (.int x1), .val (.int x2), .val (.int x3), .unset, .unset, .unset, .unset, .unset, .unset, .unset, .unset, .unset, .unset, .unset] [] := by first | (simp [entryFrame, mkF, argsToLocals, Value.category, maxLocals]; done) | rfl
def own_law_Q (Z : State) (p0 : Int32) (p1 : Int32) (p2 : Int32) (p3 : Int32) (zc : Int32) (vS : Value) (h0 : Heap) (n0 : Nat) (v : Option Value) (h : Heap) (L : List Loc) : Prop := v = some (.int 1) ∧ Fr n0 L ∧ True
set_option maxRecDepth 65536 in
set_option maxHeartbeats 40000000 in
theorem own_law (l : Launch) (Z : State) (a0 : Array Value) (hw : ∀ d ∈ tables_1, d.before a0 Z = true) (ws : List Jvm.Cond) (p0 : Int32) (p1 : Int32) (p2 : Int32) (p3 : Int32) (zc : Int32) (vS : Value) (h0 : Heap) (n0 : Nat) (O : Old Z n0 h0) (S_C : Sta Z Z.heap "java/lang/String" "COMPACT_STRINGS" "Z" (.int zc)) (hzc : ¬ zc = 0) (S_S : Sta Z Z.heap "jdk/internal/util/Preconditions" "SIOOBE_FORMATTER" "Ljava/util/function/BiFunction;" vS) (hvS : vS.isRef = true) :
    MetFree l x (head1 (Jvm.Cond.code x code maxLocals ret :: ws) room_1) (fun a U => a = #[(.int p0), (.int p1), (.int p2), (.int p3)] ∧ Z.Warmed39 U.vm ∧ U.heap = h0 ∧ CHv Z own_EL U.vm h0) (fun _ _ _ _ _ => True) (fun _ U o U' => ∃ v L, o = .returned v ∧ own_law_Q Z p0 p1 p2 p3 zc vS h0 n0 v U'.heap L ∧ True ∧ ReturnedEndW U o U' L room_1.cells room_1.slots) := by
  refine MetFree.of_bodySF own_law_pn hisR ?_
  intro p e s m args below meth c s₁ Bd hml0 hP hK
  obtain ⟨rfl, hZ, hh, H0⟩ := hP
  have hx := Bd.exec
  have hby := Bd.bytes
  have hlk := Bd.notSynchronized
  have hml : c.maxLocals = 15 := hml0
  have hown : s.vm.findClass "com/example/rows_to_regions/rowstoregions/KeyTextUnescapePinLaw" = some m.cls := findClass_of_methodNamed Bd.named
  have hnm := (name_of_methodNamed Bd.named Bd.method).1
  have X : Stand p l e room_1 s m #[(.int p0), (.int p1), (.int p2), (.int p3)] below meth c s₁ [] 0 0 := Stand.of_body Bd
  have eT : s₁.heap = h0 := by rw [← hh, Bd.state]; rfl
  have N := Fr.nil n0
  have K0 := Keep.refl h0 []
  show own_Ends p e below (own_PostW s below (own_law_Q Z p0 p1 p2 p3 zc vS h0 n0) (fun _ => True) room_1.cells room_1.slots) s₁ (entryFrame m #[(.int p0), (.int p1), (.int p2), (.int p3)] maxLocals)
  rw [own_law_ef m p0 p1 p2 p3]
  obtain ⟨T, hT⟩ : ∃ z, z = s₁ := ⟨_, rfl⟩
  rw [← hT] at X eT ⊢
  obtain ⟨h, hh0⟩ : ∃ z, z = h0 := ⟨_, rfl⟩
  rw [← hh0] at eT
  replace O : Old Z n0 h := by rw [hh0]; exact O
  replace K0 : Keep h0 h [] := by rw [hh0]; exact K0
  have wS : ∀ a ∈ Bundle.stringAtoms, a.before a0 Z = true := fun a ha => hw a ((by decide +kernel : ∀ d ∈ Bundle.stringAtoms, d ∈ tables_1) a ha)
  have hEL := own_hEL hw
  have hws : ∀ d ∈ StrChars.Road.words, d.before a0 Z = true := fun d hd => hw d ((by decide +kernel : ∀ d ∈ StrChars.Road.words, d ∈ tables_1) d hd)
  refine own_via (g' := (mkF m 3 #[.val (.int p0), .val (.int p1), .val (.int p2), .val (.int p3), .unset, .unset, .unset, .unset, .unset, .unset, .unset, .unset, .unset, .unset, .unset] [(.int (p0 &&& (3 : Int32)))])) (fun t_ k_ => XS.iloadN X.here hx rfl (hb hby at_0) rfl (XS.iconst X.here hx rfl (hb hby at_1) (XS.iand X.here hx rfl (hb hby at_2) rfl k_))) ?_
  rcases own_and3 p0 with hL | hL | hL | hL
  · rw [hL]
    refine own_via (g' := (mkF m 8 (own_A9 p0 p1 p2 p3 0) [(.int (p0 &&& (4 : Int32)))])) (fun t_ k_ => XS.istore X.here hx rfl (hb hby at_3) rfl (l' := (own_A9 p0 p1 p2 p3 0)) rfl (XS.iloadN X.here hx rfl (hb hby at_5) rfl (XS.iconst X.here hx rfl (hb hby at_6) (XS.iand X.here hx rfl (hb hby at_7) rfl k_)))) ?_
    obtain ⟨f0, hz0, ho0, hf0⟩ := own_flag (p0 &&& (4 : Int32))
    refine own_suff (T' := T) (g' := (mkF m 16 (own_A9 p0 p1 p2 p3 0) [(.int f0)])) (fun kk_ => ?_) ?_
    · by_cases hq_ : (p0 &&& (4 : Int32)) = (0 : Int32)
      · rw [hz0 hq_] at kk_
        refine own_via (g' := (mkF m 16 (own_A9 p0 p1 p2 p3 0) [(.int 0)])) (fun t_ k_ => XS.ifYes X.here hx rfl (pc0 := 8) (pc' := 15) rfl (hb hby at_8) rfl ((if0 _ _).trans (teq hq_).1) (by decide) (by decide) (XS.iconst X.here hx rfl (hb hby at_15) k_)) ?_
        exact kk_
      · rw [ho0 hq_] at kk_
        refine own_via (g' := (mkF m 16 (own_A9 p0 p1 p2 p3 0) [(.int 1)])) (fun t_ k_ => XS.ifNo X.here hx rfl (hb hby at_8) rfl ((if0 _ _).trans (feq hq_).1) (XS.iconst X.here hx rfl (hb hby at_11) (XS.goto X.here hx rfl (pc0 := 12) (pc' := 16) rfl (hb hby at_12) (by decide) (by decide) k_))) ?_
        exact kk_
    refine own_via (g' := (mkF m 22 (own_A7 p0 p1 p2 p3 0 f0) [(.int (p0 &&& (8 : Int32)))])) (fun t_ k_ => XS.istore X.here hx rfl (hb hby at_16) rfl (l' := (own_A7 p0 p1 p2 p3 0 f0)) rfl (XS.iloadN X.here hx rfl (hb hby at_18) rfl (XS.bipush X.here hx rfl (hb hby at_19) (XS.iand X.here hx rfl (hb hby at_21) rfl k_)))) ?_
    obtain ⟨f1, hz1, ho1, hf1⟩ := own_flag (p0 &&& (8 : Int32))
    refine own_suff (T' := T) (g' := (mkF m 30 (own_A7 p0 p1 p2 p3 0 f0) [(.int f1)])) (fun kk_ => ?_) ?_
    · by_cases hq_ : (p0 &&& (8 : Int32)) = (0 : Int32)
      · rw [hz1 hq_] at kk_
        refine own_via (g' := (mkF m 30 (own_A7 p0 p1 p2 p3 0 f0) [(.int 0)])) (fun t_ k_ => XS.ifYes X.here hx rfl (pc0 := 22) (pc' := 29) rfl (hb hby at_22) rfl ((if0 _ _).trans (teq hq_).1) (by decide) (by decide) (XS.iconst X.here hx rfl (hb hby at_29) k_)) ?_
        exact kk_
      · rw [ho1 hq_] at kk_
        refine own_via (g' := (mkF m 30 (own_A7 p0 p1 p2 p3 0 f0) [(.int 1)])) (fun t_ k_ => XS.ifNo X.here hx rfl (hb hby at_22) rfl ((if0 _ _).trans (feq hq_).1) (XS.iconst X.here hx rfl (hb hby at_25) (XS.goto X.here hx rfl (pc0 := 26) (pc' := 30) rfl (hb hby at_26) (by decide) (by decide) k_))) ?_
        exact kk_
    refine own_via (g' := (mkF m 36 (own_A6 p0 p1 p2 p3 0 f0 f1) [(.int (p0 &&& (16 : Int32)))])) (fun t_ k_ => XS.istore X.here hx rfl (hb hby at_30) rfl (l' := (own_A6 p0 p1 p2 p3 0 f0 f1)) rfl (XS.iloadN X.here hx rfl (hb hby at_32) rfl (XS.bipush X.here hx rfl (hb hby at_33) (XS.iand X.here hx rfl (hb hby at_35) rfl k_)))) ?_
    obtain ⟨f2, hz2, ho2, hf2⟩ := own_flag (p0 &&& (16 : Int32))
    refine own_suff (T' := T) (g' := (mkF m 44 (own_A6 p0 p1 p2 p3 0 f0 f1) [(.int f2)])) (fun kk_ => ?_) ?_
    · by_cases hq_ : (p0 &&& (16 : Int32)) = (0 : Int32)
      · rw [hz2 hq_] at kk_
        refine own_via (g' := (mkF m 44 (own_A6 p0 p1 p2 p3 0 f0 f1) [(.int 0)])) (fun t_ k_ => XS.ifYes X.here hx rfl (pc0 := 36) (pc' := 43) rfl (hb hby at_36) rfl ((if0 _ _).trans (teq hq_).1) (by decide) (by decide) (XS.iconst X.here hx rfl (hb hby at_43) k_)) ?_
        exact kk_
      · rw [ho2 hq_] at kk_
        refine own_via (g' := (mkF m 44 (own_A6 p0 p1 p2 p3 0 f0 f1) [(.int 1)])) (fun t_ k_ => XS.ifNo X.here hx rfl (hb hby at_36) rfl ((if0 _ _).trans (feq hq_).1) (XS.iconst X.here hx rfl (hb hby at_39) (XS.goto X.here hx rfl (pc0 := 40) (pc' := 44) rfl (hb hby at_40) (by decide) (by decide) k_))) ?_
        exact kk_
    refine own_via (g' := (mkF m 70 (own_A5 p0 p1 p2 p3 0 f0 f1 f2 0) [(.int 0)])) (fun t_ k_ => XS.istore X.here hx rfl (hb hby at_44) rfl (l' := #[.val (.int p0), .val (.int p1), .val (.int p2), .val (.int p3), .val (.int 0), .val (.int f0), .val (.int f1), .val (.int f2), .unset, .unset, .unset, .unset, .unset, .unset, .unset]) rfl (XS.iload X.here hx rfl (hb hby at_46) rfl (XS.iconst X.here hx rfl (hb hby at_48) (XS.icmpYes X.here hx rfl (pc0 := 49) (pc' := 56) rfl (hb hby at_49) rfl (tlt (by decide : (0 : Int32) < (1 : Int32))).1 (by decide) (by decide) (XS.iconst X.here hx rfl (hb hby at_56) (XS.istore X.here hx rfl (hb hby at_57) rfl (l' := (own_A5 p0 p1 p2 p3 0 f0 f1 f2 0)) rfl (XS.iload X.here hx rfl (hb hby at_59) rfl (XS.iconst X.here hx rfl (hb hby at_61) (XS.icmpYes X.here hx rfl (pc0 := 62) (pc' := 69) rfl (hb hby at_62) rfl (tlt (by decide : (0 : Int32) < (2 : Int32))).1 (by decide) (by decide) (XS.iconst X.here hx rfl (hb hby at_69) k_)))))))))) ?_
    refine own_via (g' := (mkF m 89 (own_A4 p0 p1 p2 p3 0 f0 f1 f2 0 0 0) [(.int f0), (.int 0)])) (fun t_ k_ => XS.istore X.here hx rfl (hb hby at_70) rfl (l' := #[.val (.int p0), .val (.int p1), .val (.int p2), .val (.int p3), .val (.int 0), .val (.int f0), .val (.int f1), .val (.int f2), .val (.int 0), .val (.int 0), .unset, .unset, .unset, .unset, .unset]) rfl (XS.iload X.here hx rfl (hb hby at_72) rfl (XS.iconst X.here hx rfl (hb hby at_74) (XS.icmpYes X.here hx rfl (pc0 := 75) (pc' := 82) rfl (hb hby at_75) rfl (tlt (by decide : (0 : Int32) < (3 : Int32))).1 (by decide) (by decide) (XS.iconst X.here hx rfl (hb hby at_82) (XS.istore X.here hx rfl (hb hby at_83) rfl (l' := (own_A4 p0 p1 p2 p3 0 f0 f1 f2 0 0 0)) rfl (XS.iload X.here hx rfl (hb hby at_85) rfl (XS.iload X.here hx rfl (hb hby at_87) rfl k_)))))))) ?_
    obtain ⟨_, _, ⟨T, Lq, kq, nq⟩, -, X, ⟨Lc, hQ, lq, yq, zq⟩, st⟩ := Jvm.LawKit.callS X hx (y := own_y14) hown (mvT hZ (hw _ (own_w 0 rfl))) (mvT hZ (hw _ (own_w 1 rfl))) (mvT hZ (hw _ (own_w 2 rfl))) (mvT hZ (hw _ (own_w 3 rfl))) (by decide) (backOf (W := 0) (own_wd0 l Z a0 hw [] f0 h n0 O ) hZ (hw _ (own_w 3 rfl)) (hw _ (own_w 2 rfl)) (by decide) (by decide)) (g := (mkF m 89 (own_A4 p0 p1 p2 p3 0 f0 f1 f2 0 0 0) [(.int f0), (.int 0)])) rfl (by rw [hml]; rfl) (argsL := [(.int 0), (.int f0)]) (rest := []) (lenOf own_pd12 rfl) rfl (by show 2 * 0 + _ ≤ _; exact Nat.le_of_eq rfl) (hb hby at_89) (fun _ _ => ⟨rfl, eT, (by decide : 0 + 0 ≤ _), (by decide : 0 + 0 ≤ _)⟩)
    dsimp only [Pt.U, Pt.locs, Pt.cells, Pt.slots] at X lq yq zq st hQ
    subst lq yq zq
    obtain ⟨rfl, Nq, eT⟩ := hQ
    replace N := Fr.app N Nq
    refine own_via (g' := (mkF m 92 (own_A4 p0 p1 p2 p3 0 f0 f1 f2 0 0 0) [(.int 0)])) st ?_
    refine own_via (g' := (mkF m 96 (own_A4 p0 p1 p2 p3 0 f0 f1 f2 0 0 0) [(.int f1), (.int 0), (.int 0)])) (fun t_ k_ => XS.iload X.here hx rfl (hb hby at_92) rfl (XS.iload X.here hx rfl (hb hby at_94) rfl k_)) ?_
    obtain ⟨_, _, ⟨T, Lq, kq, nq⟩, -, X, ⟨Lc, hQ, lq, yq, zq⟩, st⟩ := Jvm.LawKit.callS X hx (y := own_y14) hown (mvT hZ (hw _ (own_w 0 rfl))) (mvT hZ (hw _ (own_w 1 rfl))) (mvT hZ (hw _ (own_w 2 rfl))) (mvT hZ (hw _ (own_w 3 rfl))) (by decide) (backOf (W := 1) (own_wd0 l Z a0 hw [] f1 h n0 O ) hZ (hw _ (own_w 3 rfl)) (hw _ (own_w 2 rfl)) (by decide) (by decide)) (g := (mkF m 96 (own_A4 p0 p1 p2 p3 0 f0 f1 f2 0 0 0) [(.int f1), (.int 0), (.int 0)])) rfl (by rw [hml]; rfl) (argsL := [(.int 0), (.int f1)]) (rest := [(.int 0)]) (lenOf own_pd12 rfl) rfl (by show 2 * 0 + _ ≤ _; exact Nat.le_of_eq rfl) (hb hby at_96) (fun _ _ => ⟨rfl, eT, (by decide : 0 + 0 ≤ _), (by decide : 0 + 0 ≤ _)⟩)
    dsimp only [Pt.U, Pt.locs, Pt.cells, Pt.slots] at X lq yq zq st hQ
    subst lq yq zq
    obtain ⟨rfl, Nq, eT⟩ := hQ
    replace N := Fr.app N Nq
    refine own_via (g' := (mkF m 99 (own_A4 p0 p1 p2 p3 0 f0 f1 f2 0 0 0) [(.int 0), (.int 0)])) st ?_
    refine own_via (g' := (mkF m 100 (own_A4 p0 p1 p2 p3 0 f0 f1 f2 0 0 0) [(.int ((0 : Int32) + (0 : Int32)))])) (fun t_ k_ => XS.iadd X.here hx rfl (hb hby at_99) rfl k_) ?_
    rw [(by decide : ((0 : Int32) + (0 : Int32)) = (0 : Int32))]
    refine own_via (g' := (mkF m 104 (own_A4 p0 p1 p2 p3 0 f0 f1 f2 0 0 0) [(.int f2), (.int 0), (.int 0)])) (fun t_ k_ => XS.iload X.here hx rfl (hb hby at_100) rfl (XS.iload X.here hx rfl (hb hby at_102) rfl k_)) ?_
    obtain ⟨_, _, ⟨T, Lq, kq, nq⟩, -, X, ⟨Lc, hQ, lq, yq, zq⟩, st⟩ := Jvm.LawKit.callS X hx (y := own_y14) hown (mvT hZ (hw _ (own_w 0 rfl))) (mvT hZ (hw _ (own_w 1 rfl))) (mvT hZ (hw _ (own_w 2 rfl))) (mvT hZ (hw _ (own_w 3 rfl))) (by decide) (backOf (W := 1) (own_wd0 l Z a0 hw [] f2 h n0 O ) hZ (hw _ (own_w 3 rfl)) (hw _ (own_w 2 rfl)) (by decide) (by decide)) (g := (mkF m 104 (own_A4 p0 p1 p2 p3 0 f0 f1 f2 0 0 0) [(.int f2), (.int 0), (.int 0)])) rfl (by rw [hml]; rfl) (argsL := [(.int 0), (.int f2)]) (rest := [(.int 0)]) (lenOf own_pd12 rfl) rfl (by show 2 * 0 + _ ≤ _; exact Nat.le_of_eq rfl) (hb hby at_104) (fun _ _ => ⟨rfl, eT, (by decide : 0 + 0 ≤ _), (by decide : 0 + 0 ≤ _)⟩)
    dsimp only [Pt.U, Pt.locs, Pt.cells, Pt.slots] at X lq yq zq st hQ
    subst lq yq zq
    obtain ⟨rfl, Nq, eT⟩ := hQ
    replace N := Fr.app N Nq
    refine own_via (g' := (mkF m 107 (own_A4 p0 p1 p2 p3 0 f0 f1 f2 0 0 0) [(.int 0), (.int 0)])) st ?_
    refine own_via (g' := (mkF m 108 (own_A4 p0 p1 p2 p3 0 f0 f1 f2 0 0 0) [(.int ((0 : Int32) + (0 : Int32)))])) (fun t_ k_ => XS.iadd X.here hx rfl (hb hby at_107) rfl k_) ?_
    rw [(by decide : ((0 : Int32) + (0 : Int32)) = (0 : Int32))]
    refine own_via (g' := (mkF m 112 (own_A3 p0 p1 p2 p3 0 f0 f1 f2 0 0 0 0) [(.int 0)])) (fun t_ k_ => XS.istore X.here hx rfl (hb hby at_108) rfl (l' := (own_A3 p0 p1 p2 p3 0 f0 f1 f2 0 0 0 0)) rfl (XS.iload X.here hx rfl (hb hby at_110) rfl k_)) ?_
    obtain ⟨b1, gb⟩ : ∃ z, z = h.size := ⟨_, rfl⟩
    obtain ⟨T, h2, kb1, X, eT, E, A_, E_b1, st⟩ := newPE X hx hZ (hw _ (own_w 4 rfl)) eT (g := (mkF m 112 (own_A3 p0 p1 p2 p3 0 f0 f1 f2 0 0 0 0) [(.int 0)])) rfl (hb hby at_112) rfl (by decide) (cap := 0) (by decide) (by decide) (by decide) (by decide) (ad := "[C") (by decide)
    rw [← gb] at A_ E_b1 st
    have g_b1 : n0 ≤ b1 := Nat.le_trans (own_le O) (Nat.le_of_eq gb.symm)
    have sz_b1 : h0.size ≤ b1 := Nat.le_trans K0.1 (Nat.le_of_eq gb.symm)
    replace O := O.ext E
    replace K0 := K0.ext E
    have V_b1 : Arv Z h2 b1 kb1 .char (0 : Int32) [] (.int 0) := (Arv.new A_ (by decide)).pad (pad_rep [] (.int 0) 0)
    refine own_via (g' := (mkF m 114 (own_A3 p0 p1 p2 p3 0 f0 f1 f2 0 0 0 0) [(.ref b1)])) st ?_
    refine own_via (g' := (mkF m 128 (own_A1 p0 p1 p2 p3 0 f0 f1 f2 0 0 0 0 b1 0) [(.int p1), (.int f0), (.int 0), (.int 0), (.ref b1)])) (fun t_ k_ => XS.astore X.here hx rfl (hb hby at_114) rfl rfl (l' := (own_A2 p0 p1 p2 p3 0 f0 f1 f2 0 0 0 0 b1)) rfl (XS.iconst X.here hx rfl (hb hby at_116) (XS.istore X.here hx rfl (hb hby at_117) rfl (l' := (own_A1 p0 p1 p2 p3 0 f0 f1 f2 0 0 0 0 b1 0)) rfl (XS.aload X.here hx rfl (hb hby at_119) rfl rfl (XS.iload X.here hx rfl (hb hby at_121) rfl (XS.iload X.here hx rfl (hb hby at_123) rfl (XS.iload X.here hx rfl (hb hby at_125) rfl (XS.iloadN X.here hx rfl (hb hby at_127) rfl k_)))))))) ?_
    obtain ⟨_, _, ⟨T, Lq, kq, nq⟩, -, X, ⟨Lc, hQ, lq, yq, zq⟩, st⟩ := Jvm.LawKit.callS X hx (y := own_y15) hown (mvT hZ (hw _ (own_w 5 rfl))) (mvT hZ (hw _ (own_w 6 rfl))) (mvT hZ (hw _ (own_w 2 rfl))) (mvT hZ (hw _ (own_w 7 rfl))) (by decide) (backOf (W := 0) (own_put0 l Z a0 hw [] b1 (0 : Int32) f0 p1 h2 n0 O ) hZ (hw _ (own_w 7 rfl)) (hw _ (own_w 2 rfl)) (by decide) (by decide)) (g := (mkF m 128 (own_A1 p0 p1 p2 p3 0 f0 f1 f2 0 0 0 0 b1 0) [(.int p1), (.int f0), (.int 0), (.int 0), (.ref b1)])) rfl (by rw [hml]; rfl) (argsL := [(.ref b1), (.int 0), (.int 0), (.int f0), (.int p1)]) (rest := []) (lenOf own_pd13 rfl) rfl (by show 2 * 0 + _ ≤ _; exact Nat.le_of_eq rfl) (hb hby at_128) (fun _ _ => ⟨rfl, eT, (by decide : 1 + 0 ≤ _), (by decide : 0 + 0 ≤ _)⟩)
    dsimp only [Pt.U, Pt.locs, Pt.cells, Pt.slots] at X lq yq zq st hQ
    subst lq yq zq
    obtain ⟨rfl, Nq, eT⟩ := hQ
    replace N := Fr.app N Nq
    refine own_via (g' := (mkF m 131 (own_A1 p0 p1 p2 p3 0 f0 f1 f2 0 0 0 0 b1 0) [(.int 0)])) st ?_
    refine own_via (g' := (mkF m 142 (own_A1 p0 p1 p2 p3 0 f0 f1 f2 0 0 0 0 b1 0) [(.int p2), (.int f1), (.int 0), (.int 0), (.ref b1)])) (fun t_ k_ => XS.istore X.here hx rfl (hb hby at_131) rfl (l' := (own_A1 p0 p1 p2 p3 0 f0 f1 f2 0 0 0 0 b1 0)) rfl (XS.aload X.here hx rfl (hb hby at_133) rfl rfl (XS.iload X.here hx rfl (hb hby at_135) rfl (XS.iload X.here hx rfl (hb hby at_137) rfl (XS.iload X.here hx rfl (hb hby at_139) rfl (XS.iloadN X.here hx rfl (hb hby at_141) rfl k_)))))) ?_
    obtain ⟨_, _, ⟨T, Lq, kq, nq⟩, -, X, ⟨Lc, hQ, lq, yq, zq⟩, st⟩ := Jvm.LawKit.callS X hx (y := own_y15) hown (mvT hZ (hw _ (own_w 5 rfl))) (mvT hZ (hw _ (own_w 6 rfl))) (mvT hZ (hw _ (own_w 2 rfl))) (mvT hZ (hw _ (own_w 7 rfl))) (by decide) (backOf (W := 0) (own_put0 l Z a0 hw [] b1 (0 : Int32) f1 p2 h2 n0 O ) hZ (hw _ (own_w 7 rfl)) (hw _ (own_w 2 rfl)) (by decide) (by decide)) (g := (mkF m 142 (own_A1 p0 p1 p2 p3 0 f0 f1 f2 0 0 0 0 b1 0) [(.int p2), (.int f1), (.int 0), (.int 0), (.ref b1)])) rfl (by rw [hml]; rfl) (argsL := [(.ref b1), (.int 0), (.int 0), (.int f1), (.int p2)]) (rest := []) (lenOf own_pd13 rfl) rfl (by show 2 * 0 + _ ≤ _; exact Nat.le_of_eq rfl) (hb hby at_142) (fun _ _ => ⟨rfl, eT, (by decide : 1 + 0 ≤ _), (by decide : 0 + 0 ≤ _)⟩)
    dsimp only [Pt.U, Pt.locs, Pt.cells, Pt.slots] at X lq yq zq st hQ
    subst lq yq zq
    obtain ⟨rfl, Nq, eT⟩ := hQ
    replace N := Fr.app N Nq
    refine own_via (g' := (mkF m 145 (own_A1 p0 p1 p2 p3 0 f0 f1 f2 0 0 0 0 b1 0) [(.int 0)])) st ?_
    refine own_via (g' := (mkF m 156 (own_A1 p0 p1 p2 p3 0 f0 f1 f2 0 0 0 0 b1 0) [(.int p3), (.int f2), (.int 0), (.int 0), (.ref b1)])) (fun t_ k_ => XS.istore X.here hx rfl (hb hby at_145) rfl (l' := (own_A1 p0 p1 p2 p3 0 f0 f1 f2 0 0 0 0 b1 0)) rfl (XS.aload X.here hx rfl (hb hby at_147) rfl rfl (XS.iload X.here hx rfl (hb hby at_149) rfl (XS.iload X.here hx rfl (hb hby at_151) rfl (XS.iload X.here hx rfl (hb hby at_153) rfl (XS.iloadN X.here hx rfl (hb hby at_155) rfl k_)))))) ?_
    obtain ⟨_, _, ⟨T, Lq, kq, nq⟩, -, X, ⟨Lc, hQ, lq, yq, zq⟩, st⟩ := Jvm.LawKit.callS X hx (y := own_y15) hown (mvT hZ (hw _ (own_w 5 rfl))) (mvT hZ (hw _ (own_w 6 rfl))) (mvT hZ (hw _ (own_w 2 rfl))) (mvT hZ (hw _ (own_w 7 rfl))) (by decide) (backOf (W := 0) (own_put0 l Z a0 hw [] b1 (0 : Int32) f2 p3 h2 n0 O ) hZ (hw _ (own_w 7 rfl)) (hw _ (own_w 2 rfl)) (by decide) (by decide)) (g := (mkF m 156 (own_A1 p0 p1 p2 p3 0 f0 f1 f2 0 0 0 0 b1 0) [(.int p3), (.int f2), (.int 0), (.int 0), (.ref b1)])) rfl (by rw [hml]; rfl) (argsL := [(.ref b1), (.int 0), (.int 0), (.int f2), (.int p3)]) (rest := []) (lenOf own_pd13 rfl) rfl (by show 2 * 0 + _ ≤ _; exact Nat.le_of_eq rfl) (hb hby at_156) (fun _ _ => ⟨rfl, eT, (by decide : 1 + 0 ≤ _), (by decide : 0 + 0 ≤ _)⟩)
    dsimp only [Pt.U, Pt.locs, Pt.cells, Pt.slots] at X lq yq zq st hQ
    subst lq yq zq
    obtain ⟨rfl, Nq, eT⟩ := hQ
    replace N := Fr.app N Nq
    refine own_via (g' := (mkF m 159 (own_A1 p0 p1 p2 p3 0 f0 f1 f2 0 0 0 0 b1 0) [(.int 0)])) st ?_
    refine own_via (g' := (mkF m 161 (own_A1 p0 p1 p2 p3 0 f0 f1 f2 0 0 0 0 b1 0) [])) (fun t_ k_ => XS.istore X.here hx rfl (hb hby at_159) rfl (l' := (own_A1 p0 p1 p2 p3 0 f0 f1 f2 0 0 0 0 b1 0)) rfl k_) ?_
    obtain ⟨b3, gb⟩ : ∃ z, z = h2.size := ⟨_, rfl⟩
    obtain ⟨T, h4, X, eT, E, E_b3, Dq, -, st⟩ := newO X hx hZ hown (hw _ (own_w 8 rfl)) (hw _ (own_w 9 rfl)) (hw _ (own_w 10 rfl)) eT (g := (mkF m 161 (own_A1 p0 p1 p2 p3 0 f0 f1 f2 0 0 0 0 b1 0) [])) rfl (hb hby at_161) (by decide) (by decide)
    rw [← gb] at E_b3 Dq st
    have ne_b1_b3 : b1 ≠ b3 := Nat.ne_of_lt (Nat.lt_of_lt_of_le E_b1.lt (Nat.le_of_eq gb.symm))
    have g_b3 : n0 ≤ b3 := Nat.le_trans (own_le O) (Nat.le_of_eq gb.symm)
    have sz_b3 : h0.size ≤ b3 := Nat.le_trans K0.1 (Nat.le_of_eq gb.symm)
    replace E_b1 := E_b1.ext E
    replace V_b1 := V_b1.ext E
    replace O := O.ext E
    replace K0 := K0.ext E
    have F_value_b3 : Fld Z h4 b3 "java/lang/String" "value" "[B" .null := Dq (Or.inr (hw _ (own_w 23 rfl))) (ty := (.array .byte)) (by decide)
    have F_coder_b3 : Fld Z h4 b3 "java/lang/String" "coder" "B" (.int 0) := Dq (Or.inr (hw _ (own_w 24 rfl))) (ty := .byte) (by decide)
    refine own_via (g' := (mkF m 164 (own_A1 p0 p1 p2 p3 0 f0 f1 f2 0 0 0 0 b1 0) [(.ref b3)])) st ?_
    refine own_via (g' := (mkF m 167 (own_A1 p0 p1 p2 p3 0 f0 f1 f2 0 0 0 0 b1 0) [(.ref b1), (.ref b3), (.ref b3)])) (fun t_ k_ => XS.dup X.here hx rfl (hb hby at_164) rfl rfl (XS.aload X.here hx rfl (hb hby at_165) rfl rfl k_)) ?_
    have H : CHr Z own_EL s.vm h0 s.vm h4 := CHr.keep K0 all0 H0
    replace X := own_base X
    have hS := (State.WarmedH.refl s).since h0.size
    have hk : h0.size ≤ h4.size := K0.1
    replace hZ : Z.Warmed39 (s.setVm s.vm).vm := hZ
    replace hown : (s.setVm s.vm).vm.findClass "com/example/rows_to_regions/rowstoregions/KeyTextUnescapePinLaw" = some m.cls := hown
    replace V_b1 : Arv Z h4 b1 kb1 .char (0 : Int32) ([] : List Value) (.int 0) := V_b1
    obtain ⟨_, _, ⟨T, Lq, kq, nq⟩, -, X, hSq, hgr, ⟨Lc, hQ, lq, yq, zq, hCH⟩, st⟩ := X.specialBackS hx (y := own_y16) rfl hown (mvT hZ (hw _ (own_w 11 rfl))) (mvT hZ (hw _ (own_w 12 rfl))) (mvT hZ (hw _ (own_w 13 rfl))) (by decide) (backOfSH (W := 1) (s := s) (own_i1 l Z a0 hw [] b3 b1 kb1 zc h4 n0 O E_b3 F_value_b3 F_coder_b3 V_b1 g_b3 S_C hzc (Ne.symm ne_b1_b3)) hZ (hw _ (own_w 13 rfl)) (hw _ (own_w 10 rfl)) (by decide) (by decide) hEL H.1) (g := (mkF m 167 (own_A1 p0 p1 p2 p3 0 f0 f1 f2 0 0 0 0 b1 0) [(.ref b1), (.ref b3), (.ref b3)])) rfl (by rw [hml]; rfl) (Steps.refl _) (a := b3) (argsL := [(.ref b1)]) (rest := [(.ref b3)]) (lenOf own_pd14 rfl) rfl (by show 2 * 0 + _ ≤ _; exact Nat.le_of_eq rfl) (hb hby at_167) (fun _ _ => ⟨rfl, eT, (by decide : 2 + 2 ≤ _), (by decide : 4 + 4 ≤ _)⟩)
    dsimp only [Pt.U, Pt.locs, Pt.cells, Pt.slots] at X hSq hgr lq yq zq st hQ hCH
    subst lq yq zq
    obtain ⟨rb, kr, rfl, Nq, Kq, E_b3, F_value_b3, F_coder_b3, V_rb⟩ := hQ
    replace N := Fr.app N Nq
    replace hS := own_reS hS hSq (Nat.le_trans hk (by rw [← eT]; exact hgr))
    replace hZ := own_reZ hZ hSq
    replace hown := own_reown hown hSq
    replace hk := Nat.le_refl T.heap.size
    obtain ⟨vmW, eW⟩ : ∃ z, T.vm = z := ⟨_, rfl⟩
    rw [eW] at X hS hZ hown hCH
    obtain ⟨h5, eT⟩ : ∃ z, T.heap = z := ⟨_, rfl⟩
    rw [eT] at Kq E_b3 F_value_b3 F_coder_b3 V_rb
    replace E_b1 := E_b1.keep Kq
    replace V_b1 := V_b1.keep Kq (ninS ne_b1_b3 nin0)
    replace O := O.keep Kq (allS g_b3 all0)
    replace K0 := K0.trans Kq (allS (Or.inr sz_b3) all0)
    rw [eT] at hk hS
    refine own_viaT (g' := (mkF m 170 (own_A1 p0 p1 p2 p3 0 f0 f1 f2 0 0 0 0 b1 0) [(.ref b3)])) st ?_
    obtain ⟨_, _, ⟨T, Lq, kq, nq⟩, -, X, ⟨Lc, hQ, lq, yq, zq⟩, st⟩ := Jvm.LawKit.callS X hx (y := own_y17) hown (mvT hZ (hw _ (own_w 29 rfl))) (mvT hZ (hw _ (own_w 30 rfl))) (mvT hZ (hw _ (own_w 31 rfl))) (mvT hZ (hw _ (own_w 32 rfl))) (by decide) (backOf (W := 0) (own_un0 l Z a0 hw [] b3 rb kr zc vS h5 n0 O E_b3 F_value_b3 F_coder_b3 V_rb S_C hzc S_S hvS) hZ (hw _ (own_w 32 rfl)) (hw _ (own_w 31 rfl)) (by decide) (by decide)) (g := (mkF m 170 (own_A1 p0 p1 p2 p3 0 f0 f1 f2 0 0 0 0 b1 0) [(.ref b3)])) rfl (by rw [hml]; rfl) (argsL := [(.ref b3)]) (rest := []) (lenOf own_pd15 rfl) rfl (by show 2 * 0 + _ ≤ _; exact Nat.le_of_eq rfl) (hb hby at_170) (fun _ _ => ⟨rfl, eT, (by decide : 4 + 2 ≤ _), (by decide : 8 + 12 ≤ _)⟩)
    dsimp only [Pt.U, Pt.locs, Pt.cells, Pt.slots] at X lq yq zq st hQ
    subst lq yq zq
    obtain ⟨ob, ok, rfl, Nq, Kq, szq, V_ob, E_ob⟩ := hQ
    replace N := Fr.app N Nq
    obtain ⟨h6, eT⟩ : ∃ z, T.heap = z := ⟨_, rfl⟩
    rw [eT] at Kq V_ob E_ob
    have ne_b1_ob : b1 ≠ ob := Nat.ne_of_lt (Nat.lt_of_lt_of_le E_b1.lt szq)
    have ne_b3_ob : b3 ≠ ob := Nat.ne_of_lt (Nat.lt_of_lt_of_le E_b3.lt szq)
    have ne_rb_ob : rb ≠ ob := Nat.ne_of_lt (Nat.lt_of_lt_of_le V_rb.lt szq)
    have g_ob : n0 ≤ ob := Nat.le_trans (own_le O) szq
    have sz_ob : h0.size ≤ ob := Nat.le_trans K0.1 szq
    replace E_b1 := E_b1.keep Kq
    replace V_b1 := V_b1.keep Kq nin0
    replace E_b3 := E_b3.keep Kq
    replace F_value_b3 := F_value_b3.keep Kq nin0
    replace F_coder_b3 := F_coder_b3.keep Kq nin0
    replace V_rb := V_rb.keep Kq nin0
    replace O := O.keep Kq all0
    replace K0 := K0.trans Kq all0
    replace hk := Nat.le_trans hk Kq.1
    refine own_via (g' := (mkF m 173 (own_A1 p0 p1 p2 p3 0 f0 f1 f2 0 0 0 0 b1 0) [(.ref ob)])) st ?_
    refine own_via (g' := (mkF m 177 (own_A0 p0 p1 p2 p3 0 f0 f1 f2 0 0 0 0 b1 0 ob) [(.ref ob)])) (fun t_ k_ => XS.astore X.here hx rfl (hb hby at_173) rfl rfl (l' := (own_A0 p0 p1 p2 p3 0 f0 f1 f2 0 0 0 0 b1 0 ob)) rfl (XS.aload X.here hx rfl (hb hby at_175) rfl rfl k_)) ?_
    obtain ⟨cl_, Ar_, -, Sz_, Nn_, -, -⟩ := id V_ob
    refine own_via (g' := (mkF m 178 (own_A0 p0 p1 p2 p3 0 f0 f1 f2 0 0 0 0 b1 0 ob) [(.int 0)])) (fun t_ k_ => X.arraylength hx (by rw [eT]; exact Ar_.1) (State.isArrayOf_alike hZ.alike Ar_.2.1) (g := (mkF m 177 (own_A0 p0 p1 p2 p3 0 f0 f1 f2 0 0 0 0 b1 0 ob) [(.ref ob)])) rfl rfl (hb hby at_177) _ (by rw [len_of Sz_ Nn_]; exact k_)) ?_
    refine own_via (g' := (mkF m 246 (own_A0 p0 p1 p2 p3 0 f0 f1 f2 0 0 0 0 b1 0 ob) [(.int 1)])) (fun t_ k_ => XS.iload X.here hx rfl (hb hby at_178) rfl (XS.icmpYes X.here hx rfl (pc0 := 180) (pc' := 185) rfl (hb hby at_180) rfl (teq (by decide : (0 : Int32) = (0 : Int32))).1 (by decide) (by decide) (XS.iload X.here hx rfl (hb hby at_185) rfl (XS.ifYes X.here hx rfl (pc0 := 187) (pc' := 205) rfl (hb hby at_187) rfl ((if0 _ _).trans (teq (by decide : (0 : Int32) = (0 : Int32))).1) (by decide) (by decide) (XS.iload X.here hx rfl (hb hby at_205) rfl (XS.ifYes X.here hx rfl (pc0 := 207) (pc' := 225) rfl (hb hby at_207) rfl ((if0 _ _).trans (teq (by decide : (0 : Int32) = (0 : Int32))).1) (by decide) (by decide) (XS.iload X.here hx rfl (hb hby at_225) rfl (XS.ifYes X.here hx rfl (pc0 := 227) (pc' := 245) rfl (hb hby at_227) rfl ((if0 _ _).trans (teq (by decide : (0 : Int32) = (0 : Int32))).1) (by decide) (by decide) (XS.iconst X.here hx rfl (hb hby at_245) k_))))))))) ?_
    refine own_retNW X hS (by rw [eT]; exact hk) hx hlk (t := .boolean) Bd.returns (by simp) (hb hby at_246) (by decide) (by decide) (fun _ => trivial) ?_
    rw [eT]
    exact ⟨rfl, N, trivial⟩
  · rw [hL]
    refine own_via (g' := (mkF m 8 (own_A9 p0 p1 p2 p3 1) [(.int (p0 &&& (4 : Int32)))])) (fun t_ k_ => XS.istore X.here hx rfl (hb hby at_3) rfl (l' := (own_A9 p0 p1 p2 p3 1)) rfl (XS.iloadN X.here hx rfl (hb hby at_5) rfl (XS.iconst X.here hx rfl (hb hby at_6) (XS.iand X.here hx rfl (hb hby at_7) rfl k_)))) ?_
    obtain ⟨f0, hz0, ho0, hf0⟩ := own_flag (p0 &&& (4 : Int32))
    refine own_suff (T' := T) (g' := (mkF m 16 (own_A9 p0 p1 p2 p3 1) [(.int f0)])) (fun kk_ => ?_) ?_
    · by_cases hq_ : (p0 &&& (4 : Int32)) = (0 : Int32)
      · rw [hz0 hq_] at kk_
        refine own_via (g' := (mkF m 16 (own_A9 p0 p1 p2 p3 1) [(.int 0)])) (fun t_ k_ => XS.ifYes X.here hx rfl (pc0 := 8) (pc' := 15) rfl (hb hby at_8) rfl ((if0 _ _).trans (teq hq_).1) (by decide) (by decide) (XS.iconst X.here hx rfl (hb hby at_15) k_)) ?_
        exact kk_
      · rw [ho0 hq_] at kk_
        refine own_via (g' := (mkF m 16 (own_A9 p0 p1 p2 p3 1) [(.int 1)])) (fun t_ k_ => XS.ifNo X.here hx rfl (hb hby at_8) rfl ((if0 _ _).trans (feq hq_).1) (XS.iconst X.here hx rfl (hb hby at_11) (XS.goto X.here hx rfl (pc0 := 12) (pc' := 16) rfl (hb hby at_12) (by decide) (by decide) k_))) ?_
        exact kk_
    refine own_via (g' := (mkF m 22 (own_A7 p0 p1 p2 p3 1 f0) [(.int (p0 &&& (8 : Int32)))])) (fun t_ k_ => XS.istore X.here hx rfl (hb hby at_16) rfl (l' := (own_A7 p0 p1 p2 p3 1 f0)) rfl (XS.iloadN X.here hx rfl (hb hby at_18) rfl (XS.bipush X.here hx rfl (hb hby at_19) (XS.iand X.here hx rfl (hb hby at_21) rfl k_)))) ?_
    obtain ⟨f1, hz1, ho1, hf1⟩ := own_flag (p0 &&& (8 : Int32))
    refine own_suff (T' := T) (g' := (mkF m 30 (own_A7 p0 p1 p2 p3 1 f0) [(.int f1)])) (fun kk_ => ?_) ?_
    · by_cases hq_ : (p0 &&& (8 : Int32)) = (0 : Int32)
      · rw [hz1 hq_] at kk_
        refine own_via (g' := (mkF m 30 (own_A7 p0 p1 p2 p3 1 f0) [(.int 0)])) (fun t_ k_ => XS.ifYes X.here hx rfl (pc0 := 22) (pc' := 29) rfl (hb hby at_22) rfl ((if0 _ _).trans (teq hq_).1) (by decide) (by decide) (XS.iconst X.here hx rfl (hb hby at_29) k_)) ?_
        exact kk_
      · rw [ho1 hq_] at kk_
        refine own_via (g' := (mkF m 30 (own_A7 p0 p1 p2 p3 1 f0) [(.int 1)])) (fun t_ k_ => XS.ifNo X.here hx rfl (hb hby at_22) rfl ((if0 _ _).trans (feq hq_).1) (XS.iconst X.here hx rfl (hb hby at_25) (XS.goto X.here hx rfl (pc0 := 26) (pc' := 30) rfl (hb hby at_26) (by decide) (by decide) k_))) ?_
        exact kk_
    refine own_via (g' := (mkF m 36 (own_A6 p0 p1 p2 p3 1 f0 f1) [(.int (p0 &&& (16 : Int32)))])) (fun t_ k_ => XS.istore X.here hx rfl (hb hby at_30) rfl (l' := (own_A6 p0 p1 p2 p3 1 f0 f1)) rfl (XS.iloadN X.here hx rfl (hb hby at_32) rfl (XS.bipush X.here hx rfl (hb hby at_33) (XS.iand X.here hx rfl (hb hby at_35) rfl k_)))) ?_
    obtain ⟨f2, hz2, ho2, hf2⟩ := own_flag (p0 &&& (16 : Int32))
    refine own_suff (T' := T) (g' := (mkF m 44 (own_A6 p0 p1 p2 p3 1 f0 f1) [(.int f2)])) (fun kk_ => ?_) ?_
    · by_cases hq_ : (p0 &&& (16 : Int32)) = (0 : Int32)
      · rw [hz2 hq_] at kk_
        refine own_via (g' := (mkF m 44 (own_A6 p0 p1 p2 p3 1 f0 f1) [(.int 0)])) (fun t_ k_ => XS.ifYes X.here hx rfl (pc0 := 36) (pc' := 43) rfl (hb hby at_36) rfl ((if0 _ _).trans (teq hq_).1) (by decide) (by decide) (XS.iconst X.here hx rfl (hb hby at_43) k_)) ?_
        exact kk_
      · rw [ho2 hq_] at kk_
        refine own_via (g' := (mkF m 44 (own_A6 p0 p1 p2 p3 1 f0 f1) [(.int 1)])) (fun t_ k_ => XS.ifNo X.here hx rfl (hb hby at_36) rfl ((if0 _ _).trans (feq hq_).1) (XS.iconst X.here hx rfl (hb hby at_39) (XS.goto X.here hx rfl (pc0 := 40) (pc' := 44) rfl (hb hby at_40) (by decide) (by decide) k_))) ?_
        exact kk_
    obtain ⟨N_, cs, n, w0, es0, j1, r0, hN, eN, hW0, hU0, hX0, ecs, hn, hNn, hn0, hn12, hall, hP⟩ := own_plan1 (q0 := p1) hf0
    refine own_via (g' := (mkF m 69 (own_A5 p0 p1 p2 p3 1 f0 f1 f2 1) [])) (fun t_ k_ => XS.istore X.here hx rfl (hb hby at_44) rfl (l' := #[.val (.int p0), .val (.int p1), .val (.int p2), .val (.int p3), .val (.int 1), .val (.int f0), .val (.int f1), .val (.int f2), .unset, .unset, .unset, .unset, .unset, .unset, .unset]) rfl (XS.iload X.here hx rfl (hb hby at_46) rfl (XS.iconst X.here hx rfl (hb hby at_48) (XS.icmpNo X.here hx rfl (hb hby at_49) rfl (flt (by decide : ¬ ((1 : Int32) < (1 : Int32)))).1 (XS.iconst X.here hx rfl (hb hby at_52) (XS.goto X.here hx rfl (pc0 := 53) (pc' := 57) rfl (hb hby at_53) (by decide) (by decide) (XS.istore X.here hx rfl (hb hby at_57) rfl (l' := (own_A5 p0 p1 p2 p3 1 f0 f1 f2 1)) rfl (XS.iload X.here hx rfl (hb hby at_59) rfl (XS.iconst X.here hx rfl (hb hby at_61) (XS.icmpYes X.here hx rfl (pc0 := 62) (pc' := 69) rfl (hb hby at_62) rfl (tlt (by decide : (1 : Int32) < (2 : Int32))).1 (by decide) (by decide) k_)))))))))) ?_
    refine own_via (g' := (mkF m 89 (own_A4 p0 p1 p2 p3 1 f0 f1 f2 1 0 0) [(.int f0), (.int 1)])) (fun t_ k_ => XS.iconst X.here hx rfl (hb hby at_69) (XS.istore X.here hx rfl (hb hby at_70) rfl (l' := #[.val (.int p0), .val (.int p1), .val (.int p2), .val (.int p3), .val (.int 1), .val (.int f0), .val (.int f1), .val (.int f2), .val (.int 1), .val (.int 0), .unset, .unset, .unset, .unset, .unset]) rfl (XS.iload X.here hx rfl (hb hby at_72) rfl (XS.iconst X.here hx rfl (hb hby at_74) (XS.icmpYes X.here hx rfl (pc0 := 75) (pc' := 82) rfl (hb hby at_75) rfl (tlt (by decide : (1 : Int32) < (3 : Int32))).1 (by decide) (by decide) (XS.iconst X.here hx rfl (hb hby at_82) (XS.istore X.here hx rfl (hb hby at_83) rfl (l' := (own_A4 p0 p1 p2 p3 1 f0 f1 f2 1 0 0)) rfl (XS.iload X.here hx rfl (hb hby at_85) rfl (XS.iload X.here hx rfl (hb hby at_87) rfl k_))))))))) ?_
    obtain ⟨_, _, ⟨T, Lq, kq, nq⟩, -, X, ⟨Lc, hQ, lq, yq, zq⟩, st⟩ := Jvm.LawKit.callS X hx (y := own_y14) hown (mvT hZ (hw _ (own_w 0 rfl))) (mvT hZ (hw _ (own_w 1 rfl))) (mvT hZ (hw _ (own_w 2 rfl))) (mvT hZ (hw _ (own_w 3 rfl))) (by decide) (backOf (W := 0) (own_wd1 l Z a0 hw [] f0 w0 h n0 O hW0) hZ (hw _ (own_w 3 rfl)) (hw _ (own_w 2 rfl)) (by decide) (by decide)) (g := (mkF m 89 (own_A4 p0 p1 p2 p3 1 f0 f1 f2 1 0 0) [(.int f0), (.int 1)])) rfl (by rw [hml]; rfl) (argsL := [(.int 1), (.int f0)]) (rest := []) (lenOf own_pd12 rfl) rfl (by show 2 * 0 + _ ≤ _; exact Nat.le_of_eq rfl) (hb hby at_89) (fun _ _ => ⟨rfl, eT, (by decide : 0 + 0 ≤ _), (by decide : 0 + 0 ≤ _)⟩)
    dsimp only [Pt.U, Pt.locs, Pt.cells, Pt.slots] at X lq yq zq st hQ
    subst lq yq zq
    obtain ⟨rfl, Nq, eT⟩ := hQ
    replace N := Fr.app N Nq
    refine own_via (g' := (mkF m 92 (own_A4 p0 p1 p2 p3 1 f0 f1 f2 1 0 0) [(.int w0)])) st ?_
    refine own_via (g' := (mkF m 96 (own_A4 p0 p1 p2 p3 1 f0 f1 f2 1 0 0) [(.int f1), (.int 0), (.int w0)])) (fun t_ k_ => XS.iload X.here hx rfl (hb hby at_92) rfl (XS.iload X.here hx rfl (hb hby at_94) rfl k_)) ?_
    obtain ⟨_, _, ⟨T, Lq, kq, nq⟩, -, X, ⟨Lc, hQ, lq, yq, zq⟩, st⟩ := Jvm.LawKit.callS X hx (y := own_y14) hown (mvT hZ (hw _ (own_w 0 rfl))) (mvT hZ (hw _ (own_w 1 rfl))) (mvT hZ (hw _ (own_w 2 rfl))) (mvT hZ (hw _ (own_w 3 rfl))) (by decide) (backOf (W := 1) (own_wd0 l Z a0 hw [] f1 h n0 O ) hZ (hw _ (own_w 3 rfl)) (hw _ (own_w 2 rfl)) (by decide) (by decide)) (g := (mkF m 96 (own_A4 p0 p1 p2 p3 1 f0 f1 f2 1 0 0) [(.int f1), (.int 0), (.int w0)])) rfl (by rw [hml]; rfl) (argsL := [(.int 0), (.int f1)]) (rest := [(.int w0)]) (lenOf own_pd12 rfl) rfl (by show 2 * 0 + _ ≤ _; exact Nat.le_of_eq rfl) (hb hby at_96) (fun _ _ => ⟨rfl, eT, (by decide : 0 + 0 ≤ _), (by decide : 0 + 0 ≤ _)⟩)
    dsimp only [Pt.U, Pt.locs, Pt.cells, Pt.slots] at X lq yq zq st hQ
    subst lq yq zq
    obtain ⟨rfl, Nq, eT⟩ := hQ
    replace N := Fr.app N Nq
    refine own_via (g' := (mkF m 99 (own_A4 p0 p1 p2 p3 1 f0 f1 f2 1 0 0) [(.int 0), (.int w0)])) st ?_
    refine own_via (g' := (mkF m 104 (own_A4 p0 p1 p2 p3 1 f0 f1 f2 1 0 0) [(.int f2), (.int 0), (.int (w0 + (0 : Int32)))])) (fun t_ k_ => XS.iadd X.here hx rfl (hb hby at_99) rfl (XS.iload X.here hx rfl (hb hby at_100) rfl (XS.iload X.here hx rfl (hb hby at_102) rfl k_))) ?_
    obtain ⟨_, _, ⟨T, Lq, kq, nq⟩, -, X, ⟨Lc, hQ, lq, yq, zq⟩, st⟩ := Jvm.LawKit.callS X hx (y := own_y14) hown (mvT hZ (hw _ (own_w 0 rfl))) (mvT hZ (hw _ (own_w 1 rfl))) (mvT hZ (hw _ (own_w 2 rfl))) (mvT hZ (hw _ (own_w 3 rfl))) (by decide) (backOf (W := 1) (own_wd0 l Z a0 hw [] f2 h n0 O ) hZ (hw _ (own_w 3 rfl)) (hw _ (own_w 2 rfl)) (by decide) (by decide)) (g := (mkF m 104 (own_A4 p0 p1 p2 p3 1 f0 f1 f2 1 0 0) [(.int f2), (.int 0), (.int (w0 + (0 : Int32)))])) rfl (by rw [hml]; rfl) (argsL := [(.int 0), (.int f2)]) (rest := [(.int (w0 + (0 : Int32)))]) (lenOf own_pd12 rfl) rfl (by show 2 * 0 + _ ≤ _; exact Nat.le_of_eq rfl) (hb hby at_104) (fun _ _ => ⟨rfl, eT, (by decide : 0 + 0 ≤ _), (by decide : 0 + 0 ≤ _)⟩)
    dsimp only [Pt.U, Pt.locs, Pt.cells, Pt.slots] at X lq yq zq st hQ
    subst lq yq zq
    obtain ⟨rfl, Nq, eT⟩ := hQ
    replace N := Fr.app N Nq
    refine own_via (g' := (mkF m 107 (own_A4 p0 p1 p2 p3 1 f0 f1 f2 1 0 0) [(.int 0), (.int (w0 + (0 : Int32)))])) st ?_
    refine own_via (g' := (mkF m 108 (own_A4 p0 p1 p2 p3 1 f0 f1 f2 1 0 0) [(.int ((w0 + (0 : Int32)) + (0 : Int32)))])) (fun t_ k_ => XS.iadd X.here hx rfl (hb hby at_107) rfl k_) ?_
    rw [← eN]
    refine own_via (g' := (mkF m 112 (own_A3 p0 p1 p2 p3 1 f0 f1 f2 1 0 0 N_) [(.int N_)])) (fun t_ k_ => XS.istore X.here hx rfl (hb hby at_108) rfl (l' := (own_A3 p0 p1 p2 p3 1 f0 f1 f2 1 0 0 N_)) rfl (XS.iload X.here hx rfl (hb hby at_110) rfl k_)) ?_
    obtain ⟨b7, gb⟩ : ∃ z, z = h.size := ⟨_, rfl⟩
    obtain ⟨T, h8, kb7, X, eT, E, A_, E_b7, st⟩ := newPE X hx hZ (hw _ (own_w 4 rfl)) eT (g := (mkF m 112 (own_A3 p0 p1 p2 p3 1 f0 f1 f2 1 0 0 N_) [(.int N_)])) rfl (hb hby at_112) rfl (own_dom1 (P := fun N_ => ¬ (N_) < 0) (by decide) hN) (cap := 12) (own_dom1 (P := fun N_ => (N_).toNatClampNeg ≤ 12) (by decide) hN) (by decide) (by decide) (by decide) (ad := "[C") (by decide)
    rw [← gb] at A_ E_b7 st
    have g_b7 : n0 ≤ b7 := Nat.le_trans (own_le O) (Nat.le_of_eq gb.symm)
    have sz_b7 : h0.size ≤ b7 := Nat.le_trans K0.1 (Nat.le_of_eq gb.symm)
    replace O := O.ext E
    replace K0 := K0.ext E
    have V_b7 : Arv Z h8 b7 kb7 .char N_ ([] : List Value) (.int 0) := (Arv.new A_ (own_dom1 (P := fun N_ => ¬ (N_) < 0) (by decide) hN))
    refine own_via (g' := (mkF m 114 (own_A3 p0 p1 p2 p3 1 f0 f1 f2 1 0 0 N_) [(.ref b7)])) st ?_
    refine own_via (g' := (mkF m 128 (own_A1 p0 p1 p2 p3 1 f0 f1 f2 1 0 0 N_ b7 0) [(.int p1), (.int f0), (.int 1), (.int 0), (.ref b7)])) (fun t_ k_ => XS.astore X.here hx rfl (hb hby at_114) rfl rfl (l' := (own_A2 p0 p1 p2 p3 1 f0 f1 f2 1 0 0 N_ b7)) rfl (XS.iconst X.here hx rfl (hb hby at_116) (XS.istore X.here hx rfl (hb hby at_117) rfl (l' := (own_A1 p0 p1 p2 p3 1 f0 f1 f2 1 0 0 N_ b7 0)) rfl (XS.aload X.here hx rfl (hb hby at_119) rfl rfl (XS.iload X.here hx rfl (hb hby at_121) rfl (XS.iload X.here hx rfl (hb hby at_123) rfl (XS.iload X.here hx rfl (hb hby at_125) rfl (XS.iloadN X.here hx rfl (hb hby at_127) rfl k_)))))))) ?_
    obtain ⟨_, _, ⟨T, Lq, kq, nq⟩, -, X, ⟨Lc, hQ, lq, yq, zq⟩, st⟩ := Jvm.LawKit.callS X hx (y := own_y15) hown (mvT hZ (hw _ (own_w 5 rfl))) (mvT hZ (hw _ (own_w 6 rfl))) (mvT hZ (hw _ (own_w 2 rfl))) (mvT hZ (hw _ (own_w 7 rfl))) (by decide) (backOf (W := 0) (own_putG l Z a0 hw [] b7 (0 : Int32) f0 p1 kb7 N_ ([] : List Value) j1 es0 h8 n0 O V_b7 g_b7 hU0) hZ (hw _ (own_w 7 rfl)) (hw _ (own_w 2 rfl)) (by decide) (by decide)) (g := (mkF m 128 (own_A1 p0 p1 p2 p3 1 f0 f1 f2 1 0 0 N_ b7 0) [(.int p1), (.int f0), (.int 1), (.int 0), (.ref b7)])) rfl (by rw [hml]; rfl) (argsL := [(.ref b7), (.int 0), (.int 1), (.int f0), (.int p1)]) (rest := []) (lenOf own_pd13 rfl) rfl (by show 2 * 0 + _ ≤ _; exact Nat.le_of_eq rfl) (hb hby at_128) (fun _ _ => ⟨rfl, eT, (by decide : 1 + 0 ≤ _), (by decide : 12 + 0 ≤ _)⟩)
    dsimp only [Pt.U, Pt.locs, Pt.cells, Pt.slots] at X lq yq zq st hQ
    subst lq yq zq
    obtain ⟨rfl, Nq, Kq, V_b7⟩ := hQ
    replace N := Fr.app N Nq
    obtain ⟨h9, eT⟩ : ∃ z, T.heap = z := ⟨_, rfl⟩
    rw [eT] at Kq V_b7
    replace E_b7 := E_b7.keep Kq
    replace O := O.keep Kq (allS g_b7 all0)
    replace K0 := K0.trans Kq (allS (Or.inr sz_b7) all0)
    refine own_via (g' := (mkF m 131 (own_A1 p0 p1 p2 p3 1 f0 f1 f2 1 0 0 N_ b7 0) [(.int j1)])) st ?_
    refine own_via (g' := (mkF m 142 (own_A1 p0 p1 p2 p3 1 f0 f1 f2 1 0 0 N_ b7 j1) [(.int p2), (.int f1), (.int 0), (.int j1), (.ref b7)])) (fun t_ k_ => XS.istore X.here hx rfl (hb hby at_131) rfl (l' := (own_A1 p0 p1 p2 p3 1 f0 f1 f2 1 0 0 N_ b7 j1)) rfl (XS.aload X.here hx rfl (hb hby at_133) rfl rfl (XS.iload X.here hx rfl (hb hby at_135) rfl (XS.iload X.here hx rfl (hb hby at_137) rfl (XS.iload X.here hx rfl (hb hby at_139) rfl (XS.iloadN X.here hx rfl (hb hby at_141) rfl k_)))))) ?_
    obtain ⟨_, _, ⟨T, Lq, kq, nq⟩, -, X, ⟨Lc, hQ, lq, yq, zq⟩, st⟩ := Jvm.LawKit.callS X hx (y := own_y15) hown (mvT hZ (hw _ (own_w 5 rfl))) (mvT hZ (hw _ (own_w 6 rfl))) (mvT hZ (hw _ (own_w 2 rfl))) (mvT hZ (hw _ (own_w 7 rfl))) (by decide) (backOf (W := 0) (own_put0 l Z a0 hw [] b7 j1 f1 p2 h9 n0 O ) hZ (hw _ (own_w 7 rfl)) (hw _ (own_w 2 rfl)) (by decide) (by decide)) (g := (mkF m 142 (own_A1 p0 p1 p2 p3 1 f0 f1 f2 1 0 0 N_ b7 j1) [(.int p2), (.int f1), (.int 0), (.int j1), (.ref b7)])) rfl (by rw [hml]; rfl) (argsL := [(.ref b7), (.int j1), (.int 0), (.int f1), (.int p2)]) (rest := []) (lenOf own_pd13 rfl) rfl (by show 2 * 0 + _ ≤ _; exact Nat.le_of_eq rfl) (hb hby at_142) (fun _ _ => ⟨rfl, eT, (by decide : 1 + 0 ≤ _), (by decide : 12 + 0 ≤ _)⟩)
    dsimp only [Pt.U, Pt.locs, Pt.cells, Pt.slots] at X lq yq zq st hQ
    subst lq yq zq
    obtain ⟨rfl, Nq, eT⟩ := hQ
    replace N := Fr.app N Nq
    refine own_via (g' := (mkF m 145 (own_A1 p0 p1 p2 p3 1 f0 f1 f2 1 0 0 N_ b7 j1) [(.int j1)])) st ?_
    refine own_via (g' := (mkF m 156 (own_A1 p0 p1 p2 p3 1 f0 f1 f2 1 0 0 N_ b7 j1) [(.int p3), (.int f2), (.int 0), (.int j1), (.ref b7)])) (fun t_ k_ => XS.istore X.here hx rfl (hb hby at_145) rfl (l' := (own_A1 p0 p1 p2 p3 1 f0 f1 f2 1 0 0 N_ b7 j1)) rfl (XS.aload X.here hx rfl (hb hby at_147) rfl rfl (XS.iload X.here hx rfl (hb hby at_149) rfl (XS.iload X.here hx rfl (hb hby at_151) rfl (XS.iload X.here hx rfl (hb hby at_153) rfl (XS.iloadN X.here hx rfl (hb hby at_155) rfl k_)))))) ?_
    obtain ⟨_, _, ⟨T, Lq, kq, nq⟩, -, X, ⟨Lc, hQ, lq, yq, zq⟩, st⟩ := Jvm.LawKit.callS X hx (y := own_y15) hown (mvT hZ (hw _ (own_w 5 rfl))) (mvT hZ (hw _ (own_w 6 rfl))) (mvT hZ (hw _ (own_w 2 rfl))) (mvT hZ (hw _ (own_w 7 rfl))) (by decide) (backOf (W := 0) (own_put0 l Z a0 hw [] b7 j1 f2 p3 h9 n0 O ) hZ (hw _ (own_w 7 rfl)) (hw _ (own_w 2 rfl)) (by decide) (by decide)) (g := (mkF m 156 (own_A1 p0 p1 p2 p3 1 f0 f1 f2 1 0 0 N_ b7 j1) [(.int p3), (.int f2), (.int 0), (.int j1), (.ref b7)])) rfl (by rw [hml]; rfl) (argsL := [(.ref b7), (.int j1), (.int 0), (.int f2), (.int p3)]) (rest := []) (lenOf own_pd13 rfl) rfl (by show 2 * 0 + _ ≤ _; exact Nat.le_of_eq rfl) (hb hby at_156) (fun _ _ => ⟨rfl, eT, (by decide : 1 + 0 ≤ _), (by decide : 12 + 0 ≤ _)⟩)
    dsimp only [Pt.U, Pt.locs, Pt.cells, Pt.slots] at X lq yq zq st hQ
    subst lq yq zq
    obtain ⟨rfl, Nq, eT⟩ := hQ
    replace N := Fr.app N Nq
    refine own_via (g' := (mkF m 159 (own_A1 p0 p1 p2 p3 1 f0 f1 f2 1 0 0 N_ b7 j1) [(.int j1)])) st ?_
    refine own_via (g' := (mkF m 161 (own_A1 p0 p1 p2 p3 1 f0 f1 f2 1 0 0 N_ b7 j1) [])) (fun t_ k_ => XS.istore X.here hx rfl (hb hby at_159) rfl (l' := (own_A1 p0 p1 p2 p3 1 f0 f1 f2 1 0 0 N_ b7 j1)) rfl k_) ?_
    obtain ⟨b10, gb⟩ : ∃ z, z = h9.size := ⟨_, rfl⟩
    obtain ⟨T, h11, X, eT, E, E_b10, Dq, -, st⟩ := newO X hx hZ hown (hw _ (own_w 8 rfl)) (hw _ (own_w 9 rfl)) (hw _ (own_w 10 rfl)) eT (g := (mkF m 161 (own_A1 p0 p1 p2 p3 1 f0 f1 f2 1 0 0 N_ b7 j1) [])) rfl (hb hby at_161) (by decide) (by decide)
    rw [← gb] at E_b10 Dq st
    have ne_b7_b10 : b7 ≠ b10 := Nat.ne_of_lt (Nat.lt_of_lt_of_le E_b7.lt (Nat.le_of_eq gb.symm))
    have g_b10 : n0 ≤ b10 := Nat.le_trans (own_le O) (Nat.le_of_eq gb.symm)
    have sz_b10 : h0.size ≤ b10 := Nat.le_trans K0.1 (Nat.le_of_eq gb.symm)
    replace E_b7 := E_b7.ext E
    replace V_b7 := V_b7.ext E
    replace O := O.ext E
    replace K0 := K0.ext E
    have F_value_b10 : Fld Z h11 b10 "java/lang/String" "value" "[B" .null := Dq (Or.inr (hw _ (own_w 23 rfl))) (ty := (.array .byte)) (by decide)
    have F_coder_b10 : Fld Z h11 b10 "java/lang/String" "coder" "B" (.int 0) := Dq (Or.inr (hw _ (own_w 24 rfl))) (ty := .byte) (by decide)
    refine own_via (g' := (mkF m 164 (own_A1 p0 p1 p2 p3 1 f0 f1 f2 1 0 0 N_ b7 j1) [(.ref b10)])) st ?_
    refine own_via (g' := (mkF m 167 (own_A1 p0 p1 p2 p3 1 f0 f1 f2 1 0 0 N_ b7 j1) [(.ref b7), (.ref b10), (.ref b10)])) (fun t_ k_ => XS.dup X.here hx rfl (hb hby at_164) rfl rfl (XS.aload X.here hx rfl (hb hby at_165) rfl rfl k_)) ?_
    rw [ecs] at V_b7
    obtain ⟨_, _, ⟨T, Lq, kq, nq⟩, -, X, ⟨Lc, hQ, lq, yq, zq⟩, st⟩ := X.specialBack hx (y := own_y16) rfl hown (mvT hZ (hw _ (own_w 11 rfl))) (mvT hZ (hw _ (own_w 12 rfl))) (mvT hZ (hw _ (own_w 13 rfl))) (by decide) (StrChars.Road.backV (W := 1) hZ hws (kI := 4) (hw _ (own_w 9 rfl)) (cs := cs) (n := n) g_b10 (own_le O) E_b10 F_value_b10 F_coder_b10 V_b7 (S_C.ext O.2) hzc hn hNn hn0 (Nat.le_trans hn12 (by decide)) hall rfl (by decide) (by decide)) (g := (mkF m 167 (own_A1 p0 p1 p2 p3 1 f0 f1 f2 1 0 0 N_ b7 j1) [(.ref b7), (.ref b10), (.ref b10)])) rfl (by rw [hml]; rfl) (Steps.refl _) (a := b10) (argsL := [(.ref b7)]) (rest := [(.ref b10)]) (lenOf own_pd14 rfl) rfl (by show 2 * 0 + _ ≤ _; exact Nat.le_of_eq rfl) (hb hby at_167) (fun _ _ => ⟨rfl, eT, (by decide : 2 + 1 ≤ _), (Nat.le_trans (Nat.add_le_add_left hn12 16) (by decide : 16 + 12 ≤ 1216))⟩)
    dsimp only [Pt.U, Pt.locs, Pt.cells, Pt.slots] at X lq yq zq st hQ
    subst lq yq zq
    replace X := X.more (Nat.le_refl _) (Nat.add_le_add_left hn12 16)
    obtain ⟨rfl, Nq, Kq, -, F_coder_b10, rb, kr, gq, szq, nq_, F_value_b10, V_rb⟩ := hQ
    replace N := Fr.app N Nq
    obtain ⟨h12, eT⟩ : ∃ z, T.heap = z := ⟨_, rfl⟩
    rw [eT] at Kq F_value_b10 F_coder_b10 V_rb
    have ne_b10_rb : b10 ≠ rb := Nat.ne_of_lt (Nat.lt_of_lt_of_le E_b10.lt szq)
    have ne_b7_rb : b7 ≠ rb := Nat.ne_of_lt (Nat.lt_of_lt_of_le E_b7.lt szq)
    have g_rb : n0 ≤ rb := Nat.le_trans (own_le O) szq
    have sz_rb : h0.size ≤ rb := Nat.le_trans K0.1 szq
    replace E_b7 := E_b7.keep Kq
    replace V_b7 := V_b7.keep Kq (ninS ne_b7_b10 nin0)
    replace E_b10 := E_b10.keep Kq
    replace O := O.keep Kq (allS g_b10 all0)
    replace K0 := K0.trans Kq (allS (Or.inr sz_b10) all0)
    refine own_viaT (g' := (mkF m 170 (own_A1 p0 p1 p2 p3 1 f0 f1 f2 1 0 0 N_ b7 j1) [(.ref b10)])) st ?_
    obtain ⟨_, _, ⟨T, Lq, kq, nq⟩, -, X, ⟨Lc, hQ, lq, yq, zq⟩, st⟩ := Jvm.LawKit.callS X hx (y := own_y17) hown (mvT hZ (hw _ (own_w 29 rfl))) (mvT hZ (hw _ (own_w 30 rfl))) (mvT hZ (hw _ (own_w 31 rfl))) (mvT hZ (hw _ (own_w 32 rfl))) (by decide) (backOf (W := 0) (own_unG1 l Z a0 hw [] b10 rb kr f0 p1 N_ ((cs.map fun c => c.toInt8.toInt32).map Value.int) r0 zc vS h12 n0 O E_b10 F_value_b10 F_coder_b10 V_rb hP S_C hzc S_S hvS) hZ (hw _ (own_w 32 rfl)) (hw _ (own_w 31 rfl)) (by decide) (by decide)) (g := (mkF m 170 (own_A1 p0 p1 p2 p3 1 f0 f1 f2 1 0 0 N_ b7 j1) [(.ref b10)])) rfl (by rw [hml]; rfl) (argsL := [(.ref b10)]) (rest := []) (lenOf own_pd15 rfl) rfl (by show 2 * 0 + _ ≤ _; exact Nat.le_of_eq rfl) (hb hby at_170) (fun _ _ => ⟨rfl, eT, (by decide : 3 + 2 ≤ _), (by decide : 28 + 16 ≤ _)⟩)
    dsimp only [Pt.U, Pt.locs, Pt.cells, Pt.slots] at X lq yq zq st hQ
    subst lq yq zq
    obtain ⟨ob, ok, rfl, Nq, Kq, szq, V_ob, E_ob⟩ := hQ
    replace N := Fr.app N Nq
    obtain ⟨h13, eT⟩ : ∃ z, T.heap = z := ⟨_, rfl⟩
    rw [eT] at Kq V_ob E_ob
    have ne_b10_ob : b10 ≠ ob := Nat.ne_of_lt (Nat.lt_of_lt_of_le E_b10.lt szq)
    have ne_b7_ob : b7 ≠ ob := Nat.ne_of_lt (Nat.lt_of_lt_of_le E_b7.lt szq)
    have ne_rb_ob : rb ≠ ob := Nat.ne_of_lt (Nat.lt_of_lt_of_le V_rb.lt szq)
    have g_ob : n0 ≤ ob := Nat.le_trans (own_le O) szq
    have sz_ob : h0.size ≤ ob := Nat.le_trans K0.1 szq
    replace E_b7 := E_b7.keep Kq
    replace V_b7 := V_b7.keep Kq nin0
    replace E_b10 := E_b10.keep Kq
    replace F_value_b10 := F_value_b10.keep Kq nin0
    replace F_coder_b10 := F_coder_b10.keep Kq nin0
    replace V_rb := V_rb.keep Kq nin0
    replace O := O.keep Kq all0
    replace K0 := K0.trans Kq all0
    refine own_via (g' := (mkF m 173 (own_A1 p0 p1 p2 p3 1 f0 f1 f2 1 0 0 N_ b7 j1) [(.ref ob)])) st ?_
    refine own_via (g' := (mkF m 177 (own_A0 p0 p1 p2 p3 1 f0 f1 f2 1 0 0 N_ b7 j1 ob) [(.ref ob)])) (fun t_ k_ => XS.astore X.here hx rfl (hb hby at_173) rfl rfl (l' := (own_A0 p0 p1 p2 p3 1 f0 f1 f2 1 0 0 N_ b7 j1 ob)) rfl (XS.aload X.here hx rfl (hb hby at_175) rfl rfl k_)) ?_
    obtain ⟨cl_, Ar_, -, Sz_, Nn_, -, -⟩ := id V_ob
    refine own_via (g' := (mkF m 178 (own_A0 p0 p1 p2 p3 1 f0 f1 f2 1 0 0 N_ b7 j1 ob) [(.int 1)])) (fun t_ k_ => X.arraylength hx (by rw [eT]; exact Ar_.1) (State.isArrayOf_alike hZ.alike Ar_.2.1) (g := (mkF m 177 (own_A0 p0 p1 p2 p3 1 f0 f1 f2 1 0 0 N_ b7 j1 ob) [(.ref ob)])) rfl rfl (hb hby at_177) _ (by rw [len_of Sz_ Nn_]; exact k_)) ?_
    refine own_via (g' := (mkF m 193 (own_A0 p0 p1 p2 p3 1 f0 f1 f2 1 0 0 N_ b7 j1 ob) [(.int 0), (.ref ob)])) (fun t_ k_ => XS.iload X.here hx rfl (hb hby at_178) rfl (XS.icmpYes X.here hx rfl (pc0 := 180) (pc' := 185) rfl (hb hby at_180) rfl (teq (by decide : (1 : Int32) = (1 : Int32))).1 (by decide) (by decide) (XS.iload X.here hx rfl (hb hby at_185) rfl (XS.ifNo X.here hx rfl (hb hby at_187) rfl ((if0 _ _).trans (feq (by decide : ¬ ((1 : Int32) = (0 : Int32)))).1) (XS.aload X.here hx rfl (hb hby at_190) rfl rfl (XS.iconst X.here hx rfl (hb hby at_192) k_)))))) ?_
    obtain ⟨cl_, Ar_, -, Sz_, Nn_, Hs_, -⟩ := id V_ob
    have hin_ : ¬ ((0 : Int32) < 0 ∨ cl_.slots.size ≤ ((0 : Int32)).toNatClampNeg) := inb_of Sz_ ⟨by decide, by decide⟩
    have hat_ : cl_.slots[((0 : Int32)).toNatClampNeg]? = some (.int r0) := Hs_.at hin_ rfl
    refine own_via (g' := (mkF m 197 (own_A0 p0 p1 p2 p3 1 f0 f1 f2 1 0 0 N_ b7 j1 ob) [(.int p1), (.int f0), (.int r0)])) (fun t_ k_ => X.baloadBytes hx (j := (0 : Int32)) (v := (.int r0)) (by rw [eT]; exact Ar_.1) (State.isArrayOf_alike hZ.alike Ar_.2.1) Ar_.2.2 hin_ hat_ (g := (mkF m 193 (own_A0 p0 p1 p2 p3 1 f0 f1 f2 1 0 0 N_ b7 j1 ob) [(.int 0), (.ref ob)])) rfl rfl (hb hby at_193) _ (XS.iload X.here hx rfl (hb hby at_194) rfl (XS.iloadN X.here hx rfl (hb hby at_196) rfl k_))) ?_
    obtain ⟨_, _, ⟨T, Lq, kq, nq⟩, -, X, ⟨Lc, hQ, lq, yq, zq⟩, st⟩ := Jvm.LawKit.callS X hx (y := own_y18) hown (mvT hZ (hw _ (own_w 110 rfl))) (mvT hZ (hw _ (own_w 111 rfl))) (mvT hZ (hw _ (own_w 2 rfl))) (mvT hZ (hw _ (own_w 112 rfl))) (by decide) (backOf (W := 1) (own_exG l Z a0 hw [] f0 p1 r0 h13 n0 O hX0) hZ (hw _ (own_w 112 rfl)) (hw _ (own_w 2 rfl)) (by decide) (by decide)) (g := (mkF m 197 (own_A0 p0 p1 p2 p3 1 f0 f1 f2 1 0 0 N_ b7 j1 ob) [(.int p1), (.int f0), (.int r0)])) rfl (by rw [hml]; rfl) (argsL := [(.int f0), (.int p1)]) (rest := [(.int r0)]) (lenOf own_pd16 rfl) rfl (by show 2 * 0 + _ ≤ _; exact Nat.le_of_eq rfl) (hb hby at_197) (fun _ _ => ⟨rfl, eT, (by decide : 5 + 0 ≤ _), (by decide : 44 + 0 ≤ _)⟩)
    dsimp only [Pt.U, Pt.locs, Pt.cells, Pt.slots] at X lq yq zq st hQ
    subst lq yq zq
    obtain ⟨rfl, Nq, eT⟩ := hQ
    replace N := Fr.app N Nq
    refine own_via (g' := (mkF m 200 (own_A0 p0 p1 p2 p3 1 f0 f1 f2 1 0 0 N_ b7 j1 ob) [(.int r0), (.int r0)])) st ?_
    refine own_via (g' := (mkF m 246 (own_A0 p0 p1 p2 p3 1 f0 f1 f2 1 0 0 N_ b7 j1 ob) [(.int 1)])) (fun t_ k_ => XS.icmpYes X.here hx rfl (pc0 := 200) (pc' := 205) rfl (hb hby at_200) rfl (teq (rfl : r0 = r0)).1 (by decide) (by decide) (XS.iload X.here hx rfl (hb hby at_205) rfl (XS.ifYes X.here hx rfl (pc0 := 207) (pc' := 225) rfl (hb hby at_207) rfl ((if0 _ _).trans (teq (by decide : (0 : Int32) = (0 : Int32))).1) (by decide) (by decide) (XS.iload X.here hx rfl (hb hby at_225) rfl (XS.ifYes X.here hx rfl (pc0 := 227) (pc' := 245) rfl (hb hby at_227) rfl ((if0 _ _).trans (teq (by decide : (0 : Int32) = (0 : Int32))).1) (by decide) (by decide) (XS.iconst X.here hx rfl (hb hby at_245) k_)))))) ?_
    refine own_retNW (own_base X) (own_since0 X h0.size) (by rw [eT]; exact K0.1) hx hlk (t := .boolean) Bd.returns (by simp) (hb hby at_246) (by decide) (by decide) (fun _ => trivial) ?_
    rw [eT]
    exact ⟨rfl, N, trivial⟩
  · rw [hL]
    refine own_via (g' := (mkF m 8 (own_A9 p0 p1 p2 p3 2) [(.int (p0 &&& (4 : Int32)))])) (fun t_ k_ => XS.istore X.here hx rfl (hb hby at_3) rfl (l' := (own_A9 p0 p1 p2 p3 2)) rfl (XS.iloadN X.here hx rfl (hb hby at_5) rfl (XS.iconst X.here hx rfl (hb hby at_6) (XS.iand X.here hx rfl (hb hby at_7) rfl k_)))) ?_
    obtain ⟨f0, hz0, ho0, hf0⟩ := own_flag (p0 &&& (4 : Int32))
    refine own_suff (T' := T) (g' := (mkF m 16 (own_A9 p0 p1 p2 p3 2) [(.int f0)])) (fun kk_ => ?_) ?_
    · by_cases hq_ : (p0 &&& (4 : Int32)) = (0 : Int32)
      · rw [hz0 hq_] at kk_
        refine own_via (g' := (mkF m 16 (own_A9 p0 p1 p2 p3 2) [(.int 0)])) (fun t_ k_ => XS.ifYes X.here hx rfl (pc0 := 8) (pc' := 15) rfl (hb hby at_8) rfl ((if0 _ _).trans (teq hq_).1) (by decide) (by decide) (XS.iconst X.here hx rfl (hb hby at_15) k_)) ?_
        exact kk_
      · rw [ho0 hq_] at kk_
        refine own_via (g' := (mkF m 16 (own_A9 p0 p1 p2 p3 2) [(.int 1)])) (fun t_ k_ => XS.ifNo X.here hx rfl (hb hby at_8) rfl ((if0 _ _).trans (feq hq_).1) (XS.iconst X.here hx rfl (hb hby at_11) (XS.goto X.here hx rfl (pc0 := 12) (pc' := 16) rfl (hb hby at_12) (by decide) (by decide) k_))) ?_
        exact kk_
    refine own_via (g' := (mkF m 22 (own_A7 p0 p1 p2 p3 2 f0) [(.int (p0 &&& (8 : Int32)))])) (fun t_ k_ => XS.istore X.here hx rfl (hb hby at_16) rfl (l' := (own_A7 p0 p1 p2 p3 2 f0)) rfl (XS.iloadN X.here hx rfl (hb hby at_18) rfl (XS.bipush X.here hx rfl (hb hby at_19) (XS.iand X.here hx rfl (hb hby at_21) rfl k_)))) ?_
    obtain ⟨f1, hz1, ho1, hf1⟩ := own_flag (p0 &&& (8 : Int32))
    refine own_suff (T' := T) (g' := (mkF m 30 (own_A7 p0 p1 p2 p3 2 f0) [(.int f1)])) (fun kk_ => ?_) ?_
    · by_cases hq_ : (p0 &&& (8 : Int32)) = (0 : Int32)
      · rw [hz1 hq_] at kk_
        refine own_via (g' := (mkF m 30 (own_A7 p0 p1 p2 p3 2 f0) [(.int 0)])) (fun t_ k_ => XS.ifYes X.here hx rfl (pc0 := 22) (pc' := 29) rfl (hb hby at_22) rfl ((if0 _ _).trans (teq hq_).1) (by decide) (by decide) (XS.iconst X.here hx rfl (hb hby at_29) k_)) ?_
        exact kk_
      · rw [ho1 hq_] at kk_
        refine own_via (g' := (mkF m 30 (own_A7 p0 p1 p2 p3 2 f0) [(.int 1)])) (fun t_ k_ => XS.ifNo X.here hx rfl (hb hby at_22) rfl ((if0 _ _).trans (feq hq_).1) (XS.iconst X.here hx rfl (hb hby at_25) (XS.goto X.here hx rfl (pc0 := 26) (pc' := 30) rfl (hb hby at_26) (by decide) (by decide) k_))) ?_
        exact kk_
    refine own_via (g' := (mkF m 36 (own_A6 p0 p1 p2 p3 2 f0 f1) [(.int (p0 &&& (16 : Int32)))])) (fun t_ k_ => XS.istore X.here hx rfl (hb hby at_30) rfl (l' := (own_A6 p0 p1 p2 p3 2 f0 f1)) rfl (XS.iloadN X.here hx rfl (hb hby at_32) rfl (XS.bipush X.here hx rfl (hb hby at_33) (XS.iand X.here hx rfl (hb hby at_35) rfl k_)))) ?_
    obtain ⟨f2, hz2, ho2, hf2⟩ := own_flag (p0 &&& (16 : Int32))
    refine own_suff (T' := T) (g' := (mkF m 44 (own_A6 p0 p1 p2 p3 2 f0 f1) [(.int f2)])) (fun kk_ => ?_) ?_
    · by_cases hq_ : (p0 &&& (16 : Int32)) = (0 : Int32)
      · rw [hz2 hq_] at kk_
        refine own_via (g' := (mkF m 44 (own_A6 p0 p1 p2 p3 2 f0 f1) [(.int 0)])) (fun t_ k_ => XS.ifYes X.here hx rfl (pc0 := 36) (pc' := 43) rfl (hb hby at_36) rfl ((if0 _ _).trans (teq hq_).1) (by decide) (by decide) (XS.iconst X.here hx rfl (hb hby at_43) k_)) ?_
        exact kk_
      · rw [ho2 hq_] at kk_
        refine own_via (g' := (mkF m 44 (own_A6 p0 p1 p2 p3 2 f0 f1) [(.int 1)])) (fun t_ k_ => XS.ifNo X.here hx rfl (hb hby at_36) rfl ((if0 _ _).trans (feq hq_).1) (XS.iconst X.here hx rfl (hb hby at_39) (XS.goto X.here hx rfl (pc0 := 40) (pc' := 44) rfl (hb hby at_40) (by decide) (by decide) k_))) ?_
        exact kk_
    obtain ⟨N_, cs, n, w0, w1, es0, es1, j1, j2, r0, r1, hN, eN, hW0, hW1, hU0, hU1, hX0, hX1, ecs, hn, hNn, hn0, hn12, hall, hP⟩ := own_plan2 (q0 := p1) (q1 := p2) hf0 hf1
    refine own_via (g' := (mkF m 65 (own_A5 p0 p1 p2 p3 2 f0 f1 f2 1) [])) (fun t_ k_ => XS.istore X.here hx rfl (hb hby at_44) rfl (l' := #[.val (.int p0), .val (.int p1), .val (.int p2), .val (.int p3), .val (.int 2), .val (.int f0), .val (.int f1), .val (.int f2), .unset, .unset, .unset, .unset, .unset, .unset, .unset]) rfl (XS.iload X.here hx rfl (hb hby at_46) rfl (XS.iconst X.here hx rfl (hb hby at_48) (XS.icmpNo X.here hx rfl (hb hby at_49) rfl (flt (by decide : ¬ ((2 : Int32) < (1 : Int32)))).1 (XS.iconst X.here hx rfl (hb hby at_52) (XS.goto X.here hx rfl (pc0 := 53) (pc' := 57) rfl (hb hby at_53) (by decide) (by decide) (XS.istore X.here hx rfl (hb hby at_57) rfl (l' := (own_A5 p0 p1 p2 p3 2 f0 f1 f2 1)) rfl (XS.iload X.here hx rfl (hb hby at_59) rfl (XS.iconst X.here hx rfl (hb hby at_61) (XS.icmpNo X.here hx rfl (hb hby at_62) rfl (flt (by decide : ¬ ((2 : Int32) < (2 : Int32)))).1 k_)))))))))) ?_
    refine own_via (g' := (mkF m 89 (own_A4 p0 p1 p2 p3 2 f0 f1 f2 1 1 0) [(.int f0), (.int 1)])) (fun t_ k_ => XS.iconst X.here hx rfl (hb hby at_65) (XS.goto X.here hx rfl (pc0 := 66) (pc' := 70) rfl (hb hby at_66) (by decide) (by decide) (XS.istore X.here hx rfl (hb hby at_70) rfl (l' := #[.val (.int p0), .val (.int p1), .val (.int p2), .val (.int p3), .val (.int 2), .val (.int f0), .val (.int f1), .val (.int f2), .val (.int 1), .val (.int 1), .unset, .unset, .unset, .unset, .unset]) rfl (XS.iload X.here hx rfl (hb hby at_72) rfl (XS.iconst X.here hx rfl (hb hby at_74) (XS.icmpYes X.here hx rfl (pc0 := 75) (pc' := 82) rfl (hb hby at_75) rfl (tlt (by decide : (2 : Int32) < (3 : Int32))).1 (by decide) (by decide) (XS.iconst X.here hx rfl (hb hby at_82) (XS.istore X.here hx rfl (hb hby at_83) rfl (l' := (own_A4 p0 p1 p2 p3 2 f0 f1 f2 1 1 0)) rfl (XS.iload X.here hx rfl (hb hby at_85) rfl (XS.iload X.here hx rfl (hb hby at_87) rfl k_)))))))))) ?_
    obtain ⟨_, _, ⟨T, Lq, kq, nq⟩, -, X, ⟨Lc, hQ, lq, yq, zq⟩, st⟩ := Jvm.LawKit.callS X hx (y := own_y14) hown (mvT hZ (hw _ (own_w 0 rfl))) (mvT hZ (hw _ (own_w 1 rfl))) (mvT hZ (hw _ (own_w 2 rfl))) (mvT hZ (hw _ (own_w 3 rfl))) (by decide) (backOf (W := 0) (own_wd1 l Z a0 hw [] f0 w0 h n0 O hW0) hZ (hw _ (own_w 3 rfl)) (hw _ (own_w 2 rfl)) (by decide) (by decide)) (g := (mkF m 89 (own_A4 p0 p1 p2 p3 2 f0 f1 f2 1 1 0) [(.int f0), (.int 1)])) rfl (by rw [hml]; rfl) (argsL := [(.int 1), (.int f0)]) (rest := []) (lenOf own_pd12 rfl) rfl (by show 2 * 0 + _ ≤ _; exact Nat.le_of_eq rfl) (hb hby at_89) (fun _ _ => ⟨rfl, eT, (by decide : 0 + 0 ≤ _), (by decide : 0 + 0 ≤ _)⟩)
    dsimp only [Pt.U, Pt.locs, Pt.cells, Pt.slots] at X lq yq zq st hQ
    subst lq yq zq
    obtain ⟨rfl, Nq, eT⟩ := hQ
    replace N := Fr.app N Nq
    refine own_via (g' := (mkF m 92 (own_A4 p0 p1 p2 p3 2 f0 f1 f2 1 1 0) [(.int w0)])) st ?_
    refine own_via (g' := (mkF m 96 (own_A4 p0 p1 p2 p3 2 f0 f1 f2 1 1 0) [(.int f1), (.int 1), (.int w0)])) (fun t_ k_ => XS.iload X.here hx rfl (hb hby at_92) rfl (XS.iload X.here hx rfl (hb hby at_94) rfl k_)) ?_
    obtain ⟨_, _, ⟨T, Lq, kq, nq⟩, -, X, ⟨Lc, hQ, lq, yq, zq⟩, st⟩ := Jvm.LawKit.callS X hx (y := own_y14) hown (mvT hZ (hw _ (own_w 0 rfl))) (mvT hZ (hw _ (own_w 1 rfl))) (mvT hZ (hw _ (own_w 2 rfl))) (mvT hZ (hw _ (own_w 3 rfl))) (by decide) (backOf (W := 1) (own_wd1 l Z a0 hw [] f1 w1 h n0 O hW1) hZ (hw _ (own_w 3 rfl)) (hw _ (own_w 2 rfl)) (by decide) (by decide)) (g := (mkF m 96 (own_A4 p0 p1 p2 p3 2 f0 f1 f2 1 1 0) [(.int f1), (.int 1), (.int w0)])) rfl (by rw [hml]; rfl) (argsL := [(.int 1), (.int f1)]) (rest := [(.int w0)]) (lenOf own_pd12 rfl) rfl (by show 2 * 0 + _ ≤ _; exact Nat.le_of_eq rfl) (hb hby at_96) (fun _ _ => ⟨rfl, eT, (by decide : 0 + 0 ≤ _), (by decide : 0 + 0 ≤ _)⟩)
    dsimp only [Pt.U, Pt.locs, Pt.cells, Pt.slots] at X lq yq zq st hQ
    subst lq yq zq
    obtain ⟨rfl, Nq, eT⟩ := hQ
    replace N := Fr.app N Nq
    refine own_via (g' := (mkF m 99 (own_A4 p0 p1 p2 p3 2 f0 f1 f2 1 1 0) [(.int w1), (.int w0)])) st ?_
    refine own_via (g' := (mkF m 104 (own_A4 p0 p1 p2 p3 2 f0 f1 f2 1 1 0) [(.int f2), (.int 0), (.int (w0 + w1))])) (fun t_ k_ => XS.iadd X.here hx rfl (hb hby at_99) rfl (XS.iload X.here hx rfl (hb hby at_100) rfl (XS.iload X.here hx rfl (hb hby at_102) rfl k_))) ?_
    obtain ⟨_, _, ⟨T, Lq, kq, nq⟩, -, X, ⟨Lc, hQ, lq, yq, zq⟩, st⟩ := Jvm.LawKit.callS X hx (y := own_y14) hown (mvT hZ (hw _ (own_w 0 rfl))) (mvT hZ (hw _ (own_w 1 rfl))) (mvT hZ (hw _ (own_w 2 rfl))) (mvT hZ (hw _ (own_w 3 rfl))) (by decide) (backOf (W := 1) (own_wd0 l Z a0 hw [] f2 h n0 O ) hZ (hw _ (own_w 3 rfl)) (hw _ (own_w 2 rfl)) (by decide) (by decide)) (g := (mkF m 104 (own_A4 p0 p1 p2 p3 2 f0 f1 f2 1 1 0) [(.int f2), (.int 0), (.int (w0 + w1))])) rfl (by rw [hml]; rfl) (argsL := [(.int 0), (.int f2)]) (rest := [(.int (w0 + w1))]) (lenOf own_pd12 rfl) rfl (by show 2 * 0 + _ ≤ _; exact Nat.le_of_eq rfl) (hb hby at_104) (fun _ _ => ⟨rfl, eT, (by decide : 0 + 0 ≤ _), (by decide : 0 + 0 ≤ _)⟩)
    dsimp only [Pt.U, Pt.locs, Pt.cells, Pt.slots] at X lq yq zq st hQ
    subst lq yq zq
    obtain ⟨rfl, Nq, eT⟩ := hQ
    replace N := Fr.app N Nq
    refine own_via (g' := (mkF m 107 (own_A4 p0 p1 p2 p3 2 f0 f1 f2 1 1 0) [(.int 0), (.int (w0 + w1))])) st ?_
    refine own_via (g' := (mkF m 108 (own_A4 p0 p1 p2 p3 2 f0 f1 f2 1 1 0) [(.int ((w0 + w1) + (0 : Int32)))])) (fun t_ k_ => XS.iadd X.here hx rfl (hb hby at_107) rfl k_) ?_
    rw [← eN]
    refine own_via (g' := (mkF m 112 (own_A3 p0 p1 p2 p3 2 f0 f1 f2 1 1 0 N_) [(.int N_)])) (fun t_ k_ => XS.istore X.here hx rfl (hb hby at_108) rfl (l' := (own_A3 p0 p1 p2 p3 2 f0 f1 f2 1 1 0 N_)) rfl (XS.iload X.here hx rfl (hb hby at_110) rfl k_)) ?_
    obtain ⟨b14, gb⟩ : ∃ z, z = h.size := ⟨_, rfl⟩
    obtain ⟨T, h15, kb14, X, eT, E, A_, E_b14, st⟩ := newPE X hx hZ (hw _ (own_w 4 rfl)) eT (g := (mkF m 112 (own_A3 p0 p1 p2 p3 2 f0 f1 f2 1 1 0 N_) [(.int N_)])) rfl (hb hby at_112) rfl (own_dom1 (P := fun N_ => ¬ (N_) < 0) (by decide) hN) (cap := 12) (own_dom1 (P := fun N_ => (N_).toNatClampNeg ≤ 12) (by decide) hN) (by decide) (by decide) (by decide) (ad := "[C") (by decide)
    rw [← gb] at A_ E_b14 st
    have g_b14 : n0 ≤ b14 := Nat.le_trans (own_le O) (Nat.le_of_eq gb.symm)
    have sz_b14 : h0.size ≤ b14 := Nat.le_trans K0.1 (Nat.le_of_eq gb.symm)
    replace O := O.ext E
    replace K0 := K0.ext E
    have V_b14 : Arv Z h15 b14 kb14 .char N_ ([] : List Value) (.int 0) := (Arv.new A_ (own_dom1 (P := fun N_ => ¬ (N_) < 0) (by decide) hN))
    refine own_via (g' := (mkF m 114 (own_A3 p0 p1 p2 p3 2 f0 f1 f2 1 1 0 N_) [(.ref b14)])) st ?_
    refine own_via (g' := (mkF m 128 (own_A1 p0 p1 p2 p3 2 f0 f1 f2 1 1 0 N_ b14 0) [(.int p1), (.int f0), (.int 1), (.int 0), (.ref b14)])) (fun t_ k_ => XS.astore X.here hx rfl (hb hby at_114) rfl rfl (l' := (own_A2 p0 p1 p2 p3 2 f0 f1 f2 1 1 0 N_ b14)) rfl (XS.iconst X.here hx rfl (hb hby at_116) (XS.istore X.here hx rfl (hb hby at_117) rfl (l' := (own_A1 p0 p1 p2 p3 2 f0 f1 f2 1 1 0 N_ b14 0)) rfl (XS.aload X.here hx rfl (hb hby at_119) rfl rfl (XS.iload X.here hx rfl (hb hby at_121) rfl (XS.iload X.here hx rfl (hb hby at_123) rfl (XS.iload X.here hx rfl (hb hby at_125) rfl (XS.iloadN X.here hx rfl (hb hby at_127) rfl k_)))))))) ?_
    obtain ⟨_, _, ⟨T, Lq, kq, nq⟩, -, X, ⟨Lc, hQ, lq, yq, zq⟩, st⟩ := Jvm.LawKit.callS X hx (y := own_y15) hown (mvT hZ (hw _ (own_w 5 rfl))) (mvT hZ (hw _ (own_w 6 rfl))) (mvT hZ (hw _ (own_w 2 rfl))) (mvT hZ (hw _ (own_w 7 rfl))) (by decide) (backOf (W := 0) (own_putG l Z a0 hw [] b14 (0 : Int32) f0 p1 kb14 N_ ([] : List Value) j1 es0 h15 n0 O V_b14 g_b14 hU0) hZ (hw _ (own_w 7 rfl)) (hw _ (own_w 2 rfl)) (by decide) (by decide)) (g := (mkF m 128 (own_A1 p0 p1 p2 p3 2 f0 f1 f2 1 1 0 N_ b14 0) [(.int p1), (.int f0), (.int 1), (.int 0), (.ref b14)])) rfl (by rw [hml]; rfl) (argsL := [(.ref b14), (.int 0), (.int 1), (.int f0), (.int p1)]) (rest := []) (lenOf own_pd13 rfl) rfl (by show 2 * 0 + _ ≤ _; exact Nat.le_of_eq rfl) (hb hby at_128) (fun _ _ => ⟨rfl, eT, (by decide : 1 + 0 ≤ _), (by decide : 12 + 0 ≤ _)⟩)
    dsimp only [Pt.U, Pt.locs, Pt.cells, Pt.slots] at X lq yq zq st hQ
    subst lq yq zq
    obtain ⟨rfl, Nq, Kq, V_b14⟩ := hQ
    replace N := Fr.app N Nq
    obtain ⟨h16, eT⟩ : ∃ z, T.heap = z := ⟨_, rfl⟩
    rw [eT] at Kq V_b14
    replace E_b14 := E_b14.keep Kq
    replace O := O.keep Kq (allS g_b14 all0)
    replace K0 := K0.trans Kq (allS (Or.inr sz_b14) all0)
    refine own_via (g' := (mkF m 131 (own_A1 p0 p1 p2 p3 2 f0 f1 f2 1 1 0 N_ b14 0) [(.int j1)])) st ?_
    refine own_via (g' := (mkF m 142 (own_A1 p0 p1 p2 p3 2 f0 f1 f2 1 1 0 N_ b14 j1) [(.int p2), (.int f1), (.int 1), (.int j1), (.ref b14)])) (fun t_ k_ => XS.istore X.here hx rfl (hb hby at_131) rfl (l' := (own_A1 p0 p1 p2 p3 2 f0 f1 f2 1 1 0 N_ b14 j1)) rfl (XS.aload X.here hx rfl (hb hby at_133) rfl rfl (XS.iload X.here hx rfl (hb hby at_135) rfl (XS.iload X.here hx rfl (hb hby at_137) rfl (XS.iload X.here hx rfl (hb hby at_139) rfl (XS.iloadN X.here hx rfl (hb hby at_141) rfl k_)))))) ?_
    obtain ⟨_, _, ⟨T, Lq, kq, nq⟩, -, X, ⟨Lc, hQ, lq, yq, zq⟩, st⟩ := Jvm.LawKit.callS X hx (y := own_y15) hown (mvT hZ (hw _ (own_w 5 rfl))) (mvT hZ (hw _ (own_w 6 rfl))) (mvT hZ (hw _ (own_w 2 rfl))) (mvT hZ (hw _ (own_w 7 rfl))) (by decide) (backOf (W := 0) (own_putG l Z a0 hw [] b14 j1 f1 p2 kb14 N_ (([] : List Value) ++ es0.map Value.int) j2 es1 h16 n0 O V_b14 g_b14 hU1) hZ (hw _ (own_w 7 rfl)) (hw _ (own_w 2 rfl)) (by decide) (by decide)) (g := (mkF m 142 (own_A1 p0 p1 p2 p3 2 f0 f1 f2 1 1 0 N_ b14 j1) [(.int p2), (.int f1), (.int 1), (.int j1), (.ref b14)])) rfl (by rw [hml]; rfl) (argsL := [(.ref b14), (.int j1), (.int 1), (.int f1), (.int p2)]) (rest := []) (lenOf own_pd13 rfl) rfl (by show 2 * 0 + _ ≤ _; exact Nat.le_of_eq rfl) (hb hby at_142) (fun _ _ => ⟨rfl, eT, (by decide : 1 + 0 ≤ _), (by decide : 12 + 0 ≤ _)⟩)
    dsimp only [Pt.U, Pt.locs, Pt.cells, Pt.slots] at X lq yq zq st hQ
    subst lq yq zq
    obtain ⟨rfl, Nq, Kq, V_b14⟩ := hQ
    replace N := Fr.app N Nq
    obtain ⟨h17, eT⟩ : ∃ z, T.heap = z := ⟨_, rfl⟩
    rw [eT] at Kq V_b14
    replace E_b14 := E_b14.keep Kq
    replace O := O.keep Kq (allS g_b14 all0)
    replace K0 := K0.trans Kq (allS (Or.inr sz_b14) all0)
    refine own_via (g' := (mkF m 145 (own_A1 p0 p1 p2 p3 2 f0 f1 f2 1 1 0 N_ b14 j1) [(.int j2)])) st ?_
    refine own_via (g' := (mkF m 156 (own_A1 p0 p1 p2 p3 2 f0 f1 f2 1 1 0 N_ b14 j2) [(.int p3), (.int f2), (.int 0), (.int j2), (.ref b14)])) (fun t_ k_ => XS.istore X.here hx rfl (hb hby at_145) rfl (l' := (own_A1 p0 p1 p2 p3 2 f0 f1 f2 1 1 0 N_ b14 j2)) rfl (XS.aload X.here hx rfl (hb hby at_147) rfl rfl (XS.iload X.here hx rfl (hb hby at_149) rfl (XS.iload X.here hx rfl (hb hby at_151) rfl (XS.iload X.here hx rfl (hb hby at_153) rfl (XS.iloadN X.here hx rfl (hb hby at_155) rfl k_)))))) ?_
    obtain ⟨_, _, ⟨T, Lq, kq, nq⟩, -, X, ⟨Lc, hQ, lq, yq, zq⟩, st⟩ := Jvm.LawKit.callS X hx (y := own_y15) hown (mvT hZ (hw _ (own_w 5 rfl))) (mvT hZ (hw _ (own_w 6 rfl))) (mvT hZ (hw _ (own_w 2 rfl))) (mvT hZ (hw _ (own_w 7 rfl))) (by decide) (backOf (W := 0) (own_put0 l Z a0 hw [] b14 j2 f2 p3 h17 n0 O ) hZ (hw _ (own_w 7 rfl)) (hw _ (own_w 2 rfl)) (by decide) (by decide)) (g := (mkF m 156 (own_A1 p0 p1 p2 p3 2 f0 f1 f2 1 1 0 N_ b14 j2) [(.int p3), (.int f2), (.int 0), (.int j2), (.ref b14)])) rfl (by rw [hml]; rfl) (argsL := [(.ref b14), (.int j2), (.int 0), (.int f2), (.int p3)]) (rest := []) (lenOf own_pd13 rfl) rfl (by show 2 * 0 + _ ≤ _; exact Nat.le_of_eq rfl) (hb hby at_156) (fun _ _ => ⟨rfl, eT, (by decide : 1 + 0 ≤ _), (by decide : 12 + 0 ≤ _)⟩)
    dsimp only [Pt.U, Pt.locs, Pt.cells, Pt.slots] at X lq yq zq st hQ
    subst lq yq zq
    obtain ⟨rfl, Nq, eT⟩ := hQ
    replace N := Fr.app N Nq
    refine own_via (g' := (mkF m 159 (own_A1 p0 p1 p2 p3 2 f0 f1 f2 1 1 0 N_ b14 j2) [(.int j2)])) st ?_
    refine own_via (g' := (mkF m 161 (own_A1 p0 p1 p2 p3 2 f0 f1 f2 1 1 0 N_ b14 j2) [])) (fun t_ k_ => XS.istore X.here hx rfl (hb hby at_159) rfl (l' := (own_A1 p0 p1 p2 p3 2 f0 f1 f2 1 1 0 N_ b14 j2)) rfl k_) ?_
    obtain ⟨b18, gb⟩ : ∃ z, z = h17.size := ⟨_, rfl⟩
    obtain ⟨T, h19, X, eT, E, E_b18, Dq, -, st⟩ := newO X hx hZ hown (hw _ (own_w 8 rfl)) (hw _ (own_w 9 rfl)) (hw _ (own_w 10 rfl)) eT (g := (mkF m 161 (own_A1 p0 p1 p2 p3 2 f0 f1 f2 1 1 0 N_ b14 j2) [])) rfl (hb hby at_161) (by decide) (by decide)
    rw [← gb] at E_b18 Dq st
    have ne_b14_b18 : b14 ≠ b18 := Nat.ne_of_lt (Nat.lt_of_lt_of_le E_b14.lt (Nat.le_of_eq gb.symm))
    have g_b18 : n0 ≤ b18 := Nat.le_trans (own_le O) (Nat.le_of_eq gb.symm)
    have sz_b18 : h0.size ≤ b18 := Nat.le_trans K0.1 (Nat.le_of_eq gb.symm)
    replace E_b14 := E_b14.ext E
    replace V_b14 := V_b14.ext E
    replace O := O.ext E
    replace K0 := K0.ext E
    have F_value_b18 : Fld Z h19 b18 "java/lang/String" "value" "[B" .null := Dq (Or.inr (hw _ (own_w 23 rfl))) (ty := (.array .byte)) (by decide)
    have F_coder_b18 : Fld Z h19 b18 "java/lang/String" "coder" "B" (.int 0) := Dq (Or.inr (hw _ (own_w 24 rfl))) (ty := .byte) (by decide)
    refine own_via (g' := (mkF m 164 (own_A1 p0 p1 p2 p3 2 f0 f1 f2 1 1 0 N_ b14 j2) [(.ref b18)])) st ?_
    refine own_via (g' := (mkF m 167 (own_A1 p0 p1 p2 p3 2 f0 f1 f2 1 1 0 N_ b14 j2) [(.ref b14), (.ref b18), (.ref b18)])) (fun t_ k_ => XS.dup X.here hx rfl (hb hby at_164) rfl rfl (XS.aload X.here hx rfl (hb hby at_165) rfl rfl k_)) ?_
    rw [ecs] at V_b14
    obtain ⟨_, _, ⟨T, Lq, kq, nq⟩, -, X, ⟨Lc, hQ, lq, yq, zq⟩, st⟩ := X.specialBack hx (y := own_y16) rfl hown (mvT hZ (hw _ (own_w 11 rfl))) (mvT hZ (hw _ (own_w 12 rfl))) (mvT hZ (hw _ (own_w 13 rfl))) (by decide) (StrChars.Road.backV (W := 1) hZ hws (kI := 4) (hw _ (own_w 9 rfl)) (cs := cs) (n := n) g_b18 (own_le O) E_b18 F_value_b18 F_coder_b18 V_b14 (S_C.ext O.2) hzc hn hNn hn0 (Nat.le_trans hn12 (by decide)) hall rfl (by decide) (by decide)) (g := (mkF m 167 (own_A1 p0 p1 p2 p3 2 f0 f1 f2 1 1 0 N_ b14 j2) [(.ref b14), (.ref b18), (.ref b18)])) rfl (by rw [hml]; rfl) (Steps.refl _) (a := b18) (argsL := [(.ref b14)]) (rest := [(.ref b18)]) (lenOf own_pd14 rfl) rfl (by show 2 * 0 + _ ≤ _; exact Nat.le_of_eq rfl) (hb hby at_167) (fun _ _ => ⟨rfl, eT, (by decide : 2 + 1 ≤ _), (Nat.le_trans (Nat.add_le_add_left hn12 16) (by decide : 16 + 12 ≤ 1216))⟩)
    dsimp only [Pt.U, Pt.locs, Pt.cells, Pt.slots] at X lq yq zq st hQ
    subst lq yq zq
    replace X := X.more (Nat.le_refl _) (Nat.add_le_add_left hn12 16)
    obtain ⟨rfl, Nq, Kq, -, F_coder_b18, rb, kr, gq, szq, nq_, F_value_b18, V_rb⟩ := hQ
    replace N := Fr.app N Nq
    obtain ⟨h20, eT⟩ : ∃ z, T.heap = z := ⟨_, rfl⟩
    rw [eT] at Kq F_value_b18 F_coder_b18 V_rb
    have ne_b14_rb : b14 ≠ rb := Nat.ne_of_lt (Nat.lt_of_lt_of_le E_b14.lt szq)
    have ne_b18_rb : b18 ≠ rb := Nat.ne_of_lt (Nat.lt_of_lt_of_le E_b18.lt szq)
    have g_rb : n0 ≤ rb := Nat.le_trans (own_le O) szq
    have sz_rb : h0.size ≤ rb := Nat.le_trans K0.1 szq
    replace E_b14 := E_b14.keep Kq
    replace V_b14 := V_b14.keep Kq (ninS ne_b14_b18 nin0)
    replace E_b18 := E_b18.keep Kq
    replace O := O.keep Kq (allS g_b18 all0)
    replace K0 := K0.trans Kq (allS (Or.inr sz_b18) all0)
    refine own_viaT (g' := (mkF m 170 (own_A1 p0 p1 p2 p3 2 f0 f1 f2 1 1 0 N_ b14 j2) [(.ref b18)])) st ?_
    obtain ⟨_, _, ⟨T, Lq, kq, nq⟩, -, X, ⟨Lc, hQ, lq, yq, zq⟩, st⟩ := Jvm.LawKit.callS X hx (y := own_y17) hown (mvT hZ (hw _ (own_w 29 rfl))) (mvT hZ (hw _ (own_w 30 rfl))) (mvT hZ (hw _ (own_w 31 rfl))) (mvT hZ (hw _ (own_w 32 rfl))) (by decide) (backOf (W := 0) (own_unG2 l Z a0 hw [] b18 rb kr f0 p1 f1 p2 N_ ((cs.map fun c => c.toInt8.toInt32).map Value.int) r0 r1 zc vS h20 n0 O E_b18 F_value_b18 F_coder_b18 V_rb hP S_C hzc S_S hvS) hZ (hw _ (own_w 32 rfl)) (hw _ (own_w 31 rfl)) (by decide) (by decide)) (g := (mkF m 170 (own_A1 p0 p1 p2 p3 2 f0 f1 f2 1 1 0 N_ b14 j2) [(.ref b18)])) rfl (by rw [hml]; rfl) (argsL := [(.ref b18)]) (rest := []) (lenOf own_pd15 rfl) rfl (by show 2 * 0 + _ ≤ _; exact Nat.le_of_eq rfl) (hb hby at_170) (fun _ _ => ⟨rfl, eT, (by decide : 3 + 2 ≤ _), (by decide : 28 + 20 ≤ _)⟩)
    dsimp only [Pt.U, Pt.locs, Pt.cells, Pt.slots] at X lq yq zq st hQ
    subst lq yq zq
    obtain ⟨ob, ok, rfl, Nq, Kq, szq, V_ob, E_ob⟩ := hQ
    replace N := Fr.app N Nq
    obtain ⟨h21, eT⟩ : ∃ z, T.heap = z := ⟨_, rfl⟩
    rw [eT] at Kq V_ob E_ob
    have ne_b14_ob : b14 ≠ ob := Nat.ne_of_lt (Nat.lt_of_lt_of_le E_b14.lt szq)
    have ne_b18_ob : b18 ≠ ob := Nat.ne_of_lt (Nat.lt_of_lt_of_le E_b18.lt szq)
    have ne_rb_ob : rb ≠ ob := Nat.ne_of_lt (Nat.lt_of_lt_of_le V_rb.lt szq)
    have g_ob : n0 ≤ ob := Nat.le_trans (own_le O) szq
    have sz_ob : h0.size ≤ ob := Nat.le_trans K0.1 szq
    replace E_b14 := E_b14.keep Kq
    replace V_b14 := V_b14.keep Kq nin0
    replace E_b18 := E_b18.keep Kq
    replace F_value_b18 := F_value_b18.keep Kq nin0
    replace F_coder_b18 := F_coder_b18.keep Kq nin0
    replace V_rb := V_rb.keep Kq nin0
    replace O := O.keep Kq all0
    replace K0 := K0.trans Kq all0
    refine own_via (g' := (mkF m 173 (own_A1 p0 p1 p2 p3 2 f0 f1 f2 1 1 0 N_ b14 j2) [(.ref ob)])) st ?_
    refine own_via (g' := (mkF m 177 (own_A0 p0 p1 p2 p3 2 f0 f1 f2 1 1 0 N_ b14 j2 ob) [(.ref ob)])) (fun t_ k_ => XS.astore X.here hx rfl (hb hby at_173) rfl rfl (l' := (own_A0 p0 p1 p2 p3 2 f0 f1 f2 1 1 0 N_ b14 j2 ob)) rfl (XS.aload X.here hx rfl (hb hby at_175) rfl rfl k_)) ?_
    obtain ⟨cl_, Ar_, -, Sz_, Nn_, -, -⟩ := id V_ob
    refine own_via (g' := (mkF m 178 (own_A0 p0 p1 p2 p3 2 f0 f1 f2 1 1 0 N_ b14 j2 ob) [(.int 2)])) (fun t_ k_ => X.arraylength hx (by rw [eT]; exact Ar_.1) (State.isArrayOf_alike hZ.alike Ar_.2.1) (g := (mkF m 177 (own_A0 p0 p1 p2 p3 2 f0 f1 f2 1 1 0 N_ b14 j2 ob) [(.ref ob)])) rfl rfl (hb hby at_177) _ (by rw [len_of Sz_ Nn_]; exact k_)) ?_
    refine own_via (g' := (mkF m 193 (own_A0 p0 p1 p2 p3 2 f0 f1 f2 1 1 0 N_ b14 j2 ob) [(.int 0), (.ref ob)])) (fun t_ k_ => XS.iload X.here hx rfl (hb hby at_178) rfl (XS.icmpYes X.here hx rfl (pc0 := 180) (pc' := 185) rfl (hb hby at_180) rfl (teq (by decide : (2 : Int32) = (2 : Int32))).1 (by decide) (by decide) (XS.iload X.here hx rfl (hb hby at_185) rfl (XS.ifNo X.here hx rfl (hb hby at_187) rfl ((if0 _ _).trans (feq (by decide : ¬ ((1 : Int32) = (0 : Int32)))).1) (XS.aload X.here hx rfl (hb hby at_190) rfl rfl (XS.iconst X.here hx rfl (hb hby at_192) k_)))))) ?_
    obtain ⟨cl_, Ar_, -, Sz_, Nn_, Hs_, -⟩ := id V_ob
    have hin_ : ¬ ((0 : Int32) < 0 ∨ cl_.slots.size ≤ ((0 : Int32)).toNatClampNeg) := inb_of Sz_ ⟨by decide, by decide⟩
    have hat_ : cl_.slots[((0 : Int32)).toNatClampNeg]? = some (.int r0) := Hs_.at hin_ rfl
    refine own_via (g' := (mkF m 197 (own_A0 p0 p1 p2 p3 2 f0 f1 f2 1 1 0 N_ b14 j2 ob) [(.int p1), (.int f0), (.int r0)])) (fun t_ k_ => X.baloadBytes hx (j := (0 : Int32)) (v := (.int r0)) (by rw [eT]; exact Ar_.1) (State.isArrayOf_alike hZ.alike Ar_.2.1) Ar_.2.2 hin_ hat_ (g := (mkF m 193 (own_A0 p0 p1 p2 p3 2 f0 f1 f2 1 1 0 N_ b14 j2 ob) [(.int 0), (.ref ob)])) rfl rfl (hb hby at_193) _ (XS.iload X.here hx rfl (hb hby at_194) rfl (XS.iloadN X.here hx rfl (hb hby at_196) rfl k_))) ?_
    obtain ⟨_, _, ⟨T, Lq, kq, nq⟩, -, X, ⟨Lc, hQ, lq, yq, zq⟩, st⟩ := Jvm.LawKit.callS X hx (y := own_y18) hown (mvT hZ (hw _ (own_w 110 rfl))) (mvT hZ (hw _ (own_w 111 rfl))) (mvT hZ (hw _ (own_w 2 rfl))) (mvT hZ (hw _ (own_w 112 rfl))) (by decide) (backOf (W := 1) (own_exG l Z a0 hw [] f0 p1 r0 h21 n0 O hX0) hZ (hw _ (own_w 112 rfl)) (hw _ (own_w 2 rfl)) (by decide) (by decide)) (g := (mkF m 197 (own_A0 p0 p1 p2 p3 2 f0 f1 f2 1 1 0 N_ b14 j2 ob) [(.int p1), (.int f0), (.int r0)])) rfl (by rw [hml]; rfl) (argsL := [(.int f0), (.int p1)]) (rest := [(.int r0)]) (lenOf own_pd16 rfl) rfl (by show 2 * 0 + _ ≤ _; exact Nat.le_of_eq rfl) (hb hby at_197) (fun _ _ => ⟨rfl, eT, (by decide : 5 + 0 ≤ _), (by decide : 48 + 0 ≤ _)⟩)
    dsimp only [Pt.U, Pt.locs, Pt.cells, Pt.slots] at X lq yq zq st hQ
    subst lq yq zq
    obtain ⟨rfl, Nq, eT⟩ := hQ
    replace N := Fr.app N Nq
    refine own_via (g' := (mkF m 200 (own_A0 p0 p1 p2 p3 2 f0 f1 f2 1 1 0 N_ b14 j2 ob) [(.int r0), (.int r0)])) st ?_
    refine own_via (g' := (mkF m 213 (own_A0 p0 p1 p2 p3 2 f0 f1 f2 1 1 0 N_ b14 j2 ob) [(.int 1), (.ref ob)])) (fun t_ k_ => XS.icmpYes X.here hx rfl (pc0 := 200) (pc' := 205) rfl (hb hby at_200) rfl (teq (rfl : r0 = r0)).1 (by decide) (by decide) (XS.iload X.here hx rfl (hb hby at_205) rfl (XS.ifNo X.here hx rfl (hb hby at_207) rfl ((if0 _ _).trans (feq (by decide : ¬ ((1 : Int32) = (0 : Int32)))).1) (XS.aload X.here hx rfl (hb hby at_210) rfl rfl (XS.iconst X.here hx rfl (hb hby at_212) k_))))) ?_
    obtain ⟨cl_, Ar_, -, Sz_, Nn_, Hs_, -⟩ := id V_ob
    have hin_ : ¬ ((1 : Int32) < 0 ∨ cl_.slots.size ≤ ((1 : Int32)).toNatClampNeg) := inb_of Sz_ ⟨by decide, by decide⟩
    have hat_ : cl_.slots[((1 : Int32)).toNatClampNeg]? = some (.int r1) := Hs_.at hin_ rfl
    refine own_via (g' := (mkF m 217 (own_A0 p0 p1 p2 p3 2 f0 f1 f2 1 1 0 N_ b14 j2 ob) [(.int p2), (.int f1), (.int r1)])) (fun t_ k_ => X.baloadBytes hx (j := (1 : Int32)) (v := (.int r1)) (by rw [eT]; exact Ar_.1) (State.isArrayOf_alike hZ.alike Ar_.2.1) Ar_.2.2 hin_ hat_ (g := (mkF m 213 (own_A0 p0 p1 p2 p3 2 f0 f1 f2 1 1 0 N_ b14 j2 ob) [(.int 1), (.ref ob)])) rfl rfl (hb hby at_213) _ (XS.iload X.here hx rfl (hb hby at_214) rfl (XS.iloadN X.here hx rfl (hb hby at_216) rfl k_))) ?_
    obtain ⟨_, _, ⟨T, Lq, kq, nq⟩, -, X, ⟨Lc, hQ, lq, yq, zq⟩, st⟩ := Jvm.LawKit.callS X hx (y := own_y18) hown (mvT hZ (hw _ (own_w 110 rfl))) (mvT hZ (hw _ (own_w 111 rfl))) (mvT hZ (hw _ (own_w 2 rfl))) (mvT hZ (hw _ (own_w 112 rfl))) (by decide) (backOf (W := 1) (own_exG l Z a0 hw [] f1 p2 r1 h21 n0 O hX1) hZ (hw _ (own_w 112 rfl)) (hw _ (own_w 2 rfl)) (by decide) (by decide)) (g := (mkF m 217 (own_A0 p0 p1 p2 p3 2 f0 f1 f2 1 1 0 N_ b14 j2 ob) [(.int p2), (.int f1), (.int r1)])) rfl (by rw [hml]; rfl) (argsL := [(.int f1), (.int p2)]) (rest := [(.int r1)]) (lenOf own_pd16 rfl) rfl (by show 2 * 0 + _ ≤ _; exact Nat.le_of_eq rfl) (hb hby at_217) (fun _ _ => ⟨rfl, eT, (by decide : 5 + 0 ≤ _), (by decide : 48 + 0 ≤ _)⟩)
    dsimp only [Pt.U, Pt.locs, Pt.cells, Pt.slots] at X lq yq zq st hQ
    subst lq yq zq
    obtain ⟨rfl, Nq, eT⟩ := hQ
    replace N := Fr.app N Nq
    refine own_via (g' := (mkF m 220 (own_A0 p0 p1 p2 p3 2 f0 f1 f2 1 1 0 N_ b14 j2 ob) [(.int r1), (.int r1)])) st ?_
    refine own_via (g' := (mkF m 246 (own_A0 p0 p1 p2 p3 2 f0 f1 f2 1 1 0 N_ b14 j2 ob) [(.int 1)])) (fun t_ k_ => XS.icmpYes X.here hx rfl (pc0 := 220) (pc' := 225) rfl (hb hby at_220) rfl (teq (rfl : r1 = r1)).1 (by decide) (by decide) (XS.iload X.here hx rfl (hb hby at_225) rfl (XS.ifYes X.here hx rfl (pc0 := 227) (pc' := 245) rfl (hb hby at_227) rfl ((if0 _ _).trans (teq (by decide : (0 : Int32) = (0 : Int32))).1) (by decide) (by decide) (XS.iconst X.here hx rfl (hb hby at_245) k_)))) ?_
    refine own_retNW (own_base X) (own_since0 X h0.size) (by rw [eT]; exact K0.1) hx hlk (t := .boolean) Bd.returns (by simp) (hb hby at_246) (by decide) (by decide) (fun _ => trivial) ?_
    rw [eT]
    exact ⟨rfl, N, trivial⟩
  · rw [hL]
    refine own_via (g' := (mkF m 8 (own_A9 p0 p1 p2 p3 3) [(.int (p0 &&& (4 : Int32)))])) (fun t_ k_ => XS.istore X.here hx rfl (hb hby at_3) rfl (l' := (own_A9 p0 p1 p2 p3 3)) rfl (XS.iloadN X.here hx rfl (hb hby at_5) rfl (XS.iconst X.here hx rfl (hb hby at_6) (XS.iand X.here hx rfl (hb hby at_7) rfl k_)))) ?_
    obtain ⟨f0, hz0, ho0, hf0⟩ := own_flag (p0 &&& (4 : Int32))
    refine own_suff (T' := T) (g' := (mkF m 16 (own_A9 p0 p1 p2 p3 3) [(.int f0)])) (fun kk_ => ?_) ?_
    · by_cases hq_ : (p0 &&& (4 : Int32)) = (0 : Int32)
      · rw [hz0 hq_] at kk_
        refine own_via (g' := (mkF m 16 (own_A9 p0 p1 p2 p3 3) [(.int 0)])) (fun t_ k_ => XS.ifYes X.here hx rfl (pc0 := 8) (pc' := 15) rfl (hb hby at_8) rfl ((if0 _ _).trans (teq hq_).1) (by decide) (by decide) (XS.iconst X.here hx rfl (hb hby at_15) k_)) ?_
        exact kk_
      · rw [ho0 hq_] at kk_
        refine own_via (g' := (mkF m 16 (own_A9 p0 p1 p2 p3 3) [(.int 1)])) (fun t_ k_ => XS.ifNo X.here hx rfl (hb hby at_8) rfl ((if0 _ _).trans (feq hq_).1) (XS.iconst X.here hx rfl (hb hby at_11) (XS.goto X.here hx rfl (pc0 := 12) (pc' := 16) rfl (hb hby at_12) (by decide) (by decide) k_))) ?_
        exact kk_
    refine own_via (g' := (mkF m 22 (own_A7 p0 p1 p2 p3 3 f0) [(.int (p0 &&& (8 : Int32)))])) (fun t_ k_ => XS.istore X.here hx rfl (hb hby at_16) rfl (l' := (own_A7 p0 p1 p2 p3 3 f0)) rfl (XS.iloadN X.here hx rfl (hb hby at_18) rfl (XS.bipush X.here hx rfl (hb hby at_19) (XS.iand X.here hx rfl (hb hby at_21) rfl k_)))) ?_
    obtain ⟨f1, hz1, ho1, hf1⟩ := own_flag (p0 &&& (8 : Int32))
    refine own_suff (T' := T) (g' := (mkF m 30 (own_A7 p0 p1 p2 p3 3 f0) [(.int f1)])) (fun kk_ => ?_) ?_
    · by_cases hq_ : (p0 &&& (8 : Int32)) = (0 : Int32)
      · rw [hz1 hq_] at kk_
        refine own_via (g' := (mkF m 30 (own_A7 p0 p1 p2 p3 3 f0) [(.int 0)])) (fun t_ k_ => XS.ifYes X.here hx rfl (pc0 := 22) (pc' := 29) rfl (hb hby at_22) rfl ((if0 _ _).trans (teq hq_).1) (by decide) (by decide) (XS.iconst X.here hx rfl (hb hby at_29) k_)) ?_
        exact kk_
      · rw [ho1 hq_] at kk_
        refine own_via (g' := (mkF m 30 (own_A7 p0 p1 p2 p3 3 f0) [(.int 1)])) (fun t_ k_ => XS.ifNo X.here hx rfl (hb hby at_22) rfl ((if0 _ _).trans (feq hq_).1) (XS.iconst X.here hx rfl (hb hby at_25) (XS.goto X.here hx rfl (pc0 := 26) (pc' := 30) rfl (hb hby at_26) (by decide) (by decide) k_))) ?_
        exact kk_
    refine own_via (g' := (mkF m 36 (own_A6 p0 p1 p2 p3 3 f0 f1) [(.int (p0 &&& (16 : Int32)))])) (fun t_ k_ => XS.istore X.here hx rfl (hb hby at_30) rfl (l' := (own_A6 p0 p1 p2 p3 3 f0 f1)) rfl (XS.iloadN X.here hx rfl (hb hby at_32) rfl (XS.bipush X.here hx rfl (hb hby at_33) (XS.iand X.here hx rfl (hb hby at_35) rfl k_)))) ?_
    obtain ⟨f2, hz2, ho2, hf2⟩ := own_flag (p0 &&& (16 : Int32))
    refine own_suff (T' := T) (g' := (mkF m 44 (own_A6 p0 p1 p2 p3 3 f0 f1) [(.int f2)])) (fun kk_ => ?_) ?_
    · by_cases hq_ : (p0 &&& (16 : Int32)) = (0 : Int32)
      · rw [hz2 hq_] at kk_
        refine own_via (g' := (mkF m 44 (own_A6 p0 p1 p2 p3 3 f0 f1) [(.int 0)])) (fun t_ k_ => XS.ifYes X.here hx rfl (pc0 := 36) (pc' := 43) rfl (hb hby at_36) rfl ((if0 _ _).trans (teq hq_).1) (by decide) (by decide) (XS.iconst X.here hx rfl (hb hby at_43) k_)) ?_
        exact kk_
      · rw [ho2 hq_] at kk_
        refine own_via (g' := (mkF m 44 (own_A6 p0 p1 p2 p3 3 f0 f1) [(.int 1)])) (fun t_ k_ => XS.ifNo X.here hx rfl (hb hby at_36) rfl ((if0 _ _).trans (feq hq_).1) (XS.iconst X.here hx rfl (hb hby at_39) (XS.goto X.here hx rfl (pc0 := 40) (pc' := 44) rfl (hb hby at_40) (by decide) (by decide) k_))) ?_
        exact kk_
    obtain ⟨N_, cs, n, w0, w1, w2, es0, es1, es2, j1, j2, j3, r0, r1, r2, hN, eN, hW0, hW1, hW2, hU0, hU1, hU2, hX0, hX1, hX2, ecs, hn, hNn, hn0, hn12, hall, hP⟩ := own_plan3 (q0 := p1) (q1 := p2) (q2 := p3) hf0 hf1 hf2
    refine own_via (g' := (mkF m 65 (own_A5 p0 p1 p2 p3 3 f0 f1 f2 1) [])) (fun t_ k_ => XS.istore X.here hx rfl (hb hby at_44) rfl (l' := #[.val (.int p0), .val (.int p1), .val (.int p2), .val (.int p3), .val (.int 3), .val (.int f0), .val (.int f1), .val (.int f2), .unset, .unset, .unset, .unset, .unset, .unset, .unset]) rfl (XS.iload X.here hx rfl (hb hby at_46) rfl (XS.iconst X.here hx rfl (hb hby at_48) (XS.icmpNo X.here hx rfl (hb hby at_49) rfl (flt (by decide : ¬ ((3 : Int32) < (1 : Int32)))).1 (XS.iconst X.here hx rfl (hb hby at_52) (XS.goto X.here hx rfl (pc0 := 53) (pc' := 57) rfl (hb hby at_53) (by decide) (by decide) (XS.istore X.here hx rfl (hb hby at_57) rfl (l' := (own_A5 p0 p1 p2 p3 3 f0 f1 f2 1)) rfl (XS.iload X.here hx rfl (hb hby at_59) rfl (XS.iconst X.here hx rfl (hb hby at_61) (XS.icmpNo X.here hx rfl (hb hby at_62) rfl (flt (by decide : ¬ ((3 : Int32) < (2 : Int32)))).1 k_)))))))))) ?_
    refine own_via (g' := (mkF m 87 (own_A4 p0 p1 p2 p3 3 f0 f1 f2 1 1 1) [(.int 1)])) (fun t_ k_ => XS.iconst X.here hx rfl (hb hby at_65) (XS.goto X.here hx rfl (pc0 := 66) (pc' := 70) rfl (hb hby at_66) (by decide) (by decide) (XS.istore X.here hx rfl (hb hby at_70) rfl (l' := #[.val (.int p0), .val (.int p1), .val (.int p2), .val (.int p3), .val (.int 3), .val (.int f0), .val (.int f1), .val (.int f2), .val (.int 1), .val (.int 1), .unset, .unset, .unset, .unset, .unset]) rfl (XS.iload X.here hx rfl (hb hby at_72) rfl (XS.iconst X.here hx rfl (hb hby at_74) (XS.icmpNo X.here hx rfl (hb hby at_75) rfl (flt (by decide : ¬ ((3 : Int32) < (3 : Int32)))).1 (XS.iconst X.here hx rfl (hb hby at_78) (XS.goto X.here hx rfl (pc0 := 79) (pc' := 83) rfl (hb hby at_79) (by decide) (by decide) (XS.istore X.here hx rfl (hb hby at_83) rfl (l' := (own_A4 p0 p1 p2 p3 3 f0 f1 f2 1 1 1)) rfl (XS.iload X.here hx rfl (hb hby at_85) rfl k_)))))))))) ?_
    refine own_via (g' := (mkF m 89 (own_A4 p0 p1 p2 p3 3 f0 f1 f2 1 1 1) [(.int f0), (.int 1)])) (fun t_ k_ => XS.iload X.here hx rfl (hb hby at_87) rfl k_) ?_
    obtain ⟨_, _, ⟨T, Lq, kq, nq⟩, -, X, ⟨Lc, hQ, lq, yq, zq⟩, st⟩ := Jvm.LawKit.callS X hx (y := own_y14) hown (mvT hZ (hw _ (own_w 0 rfl))) (mvT hZ (hw _ (own_w 1 rfl))) (mvT hZ (hw _ (own_w 2 rfl))) (mvT hZ (hw _ (own_w 3 rfl))) (by decide) (backOf (W := 0) (own_wd1 l Z a0 hw [] f0 w0 h n0 O hW0) hZ (hw _ (own_w 3 rfl)) (hw _ (own_w 2 rfl)) (by decide) (by decide)) (g := (mkF m 89 (own_A4 p0 p1 p2 p3 3 f0 f1 f2 1 1 1) [(.int f0), (.int 1)])) rfl (by rw [hml]; rfl) (argsL := [(.int 1), (.int f0)]) (rest := []) (lenOf own_pd12 rfl) rfl (by show 2 * 0 + _ ≤ _; exact Nat.le_of_eq rfl) (hb hby at_89) (fun _ _ => ⟨rfl, eT, (by decide : 0 + 0 ≤ _), (by decide : 0 + 0 ≤ _)⟩)
    dsimp only [Pt.U, Pt.locs, Pt.cells, Pt.slots] at X lq yq zq st hQ
    subst lq yq zq
    obtain ⟨rfl, Nq, eT⟩ := hQ
    replace N := Fr.app N Nq
    refine own_via (g' := (mkF m 92 (own_A4 p0 p1 p2 p3 3 f0 f1 f2 1 1 1) [(.int w0)])) st ?_
    refine own_via (g' := (mkF m 96 (own_A4 p0 p1 p2 p3 3 f0 f1 f2 1 1 1) [(.int f1), (.int 1), (.int w0)])) (fun t_ k_ => XS.iload X.here hx rfl (hb hby at_92) rfl (XS.iload X.here hx rfl (hb hby at_94) rfl k_)) ?_
    obtain ⟨_, _, ⟨T, Lq, kq, nq⟩, -, X, ⟨Lc, hQ, lq, yq, zq⟩, st⟩ := Jvm.LawKit.callS X hx (y := own_y14) hown (mvT hZ (hw _ (own_w 0 rfl))) (mvT hZ (hw _ (own_w 1 rfl))) (mvT hZ (hw _ (own_w 2 rfl))) (mvT hZ (hw _ (own_w 3 rfl))) (by decide) (backOf (W := 1) (own_wd1 l Z a0 hw [] f1 w1 h n0 O hW1) hZ (hw _ (own_w 3 rfl)) (hw _ (own_w 2 rfl)) (by decide) (by decide)) (g := (mkF m 96 (own_A4 p0 p1 p2 p3 3 f0 f1 f2 1 1 1) [(.int f1), (.int 1), (.int w0)])) rfl (by rw [hml]; rfl) (argsL := [(.int 1), (.int f1)]) (rest := [(.int w0)]) (lenOf own_pd12 rfl) rfl (by show 2 * 0 + _ ≤ _; exact Nat.le_of_eq rfl) (hb hby at_96) (fun _ _ => ⟨rfl, eT, (by decide : 0 + 0 ≤ _), (by decide : 0 + 0 ≤ _)⟩)
    dsimp only [Pt.U, Pt.locs, Pt.cells, Pt.slots] at X lq yq zq st hQ
    subst lq yq zq
    obtain ⟨rfl, Nq, eT⟩ := hQ
    replace N := Fr.app N Nq
    refine own_via (g' := (mkF m 99 (own_A4 p0 p1 p2 p3 3 f0 f1 f2 1 1 1) [(.int w1), (.int w0)])) st ?_
    refine own_via (g' := (mkF m 104 (own_A4 p0 p1 p2 p3 3 f0 f1 f2 1 1 1) [(.int f2), (.int 1), (.int (w0 + w1))])) (fun t_ k_ => XS.iadd X.here hx rfl (hb hby at_99) rfl (XS.iload X.here hx rfl (hb hby at_100) rfl (XS.iload X.here hx rfl (hb hby at_102) rfl k_))) ?_
    obtain ⟨_, _, ⟨T, Lq, kq, nq⟩, -, X, ⟨Lc, hQ, lq, yq, zq⟩, st⟩ := Jvm.LawKit.callS X hx (y := own_y14) hown (mvT hZ (hw _ (own_w 0 rfl))) (mvT hZ (hw _ (own_w 1 rfl))) (mvT hZ (hw _ (own_w 2 rfl))) (mvT hZ (hw _ (own_w 3 rfl))) (by decide) (backOf (W := 1) (own_wd1 l Z a0 hw [] f2 w2 h n0 O hW2) hZ (hw _ (own_w 3 rfl)) (hw _ (own_w 2 rfl)) (by decide) (by decide)) (g := (mkF m 104 (own_A4 p0 p1 p2 p3 3 f0 f1 f2 1 1 1) [(.int f2), (.int 1), (.int (w0 + w1))])) rfl (by rw [hml]; rfl) (argsL := [(.int 1), (.int f2)]) (rest := [(.int (w0 + w1))]) (lenOf own_pd12 rfl) rfl (by show 2 * 0 + _ ≤ _; exact Nat.le_of_eq rfl) (hb hby at_104) (fun _ _ => ⟨rfl, eT, (by decide : 0 + 0 ≤ _), (by decide : 0 + 0 ≤ _)⟩)
    dsimp only [Pt.U, Pt.locs, Pt.cells, Pt.slots] at X lq yq zq st hQ
    subst lq yq zq
    obtain ⟨rfl, Nq, eT⟩ := hQ
    replace N := Fr.app N Nq
    refine own_via (g' := (mkF m 107 (own_A4 p0 p1 p2 p3 3 f0 f1 f2 1 1 1) [(.int w2), (.int (w0 + w1))])) st ?_
    refine own_via (g' := (mkF m 108 (own_A4 p0 p1 p2 p3 3 f0 f1 f2 1 1 1) [(.int ((w0 + w1) + w2))])) (fun t_ k_ => XS.iadd X.here hx rfl (hb hby at_107) rfl k_) ?_
    rw [← eN]
    refine own_via (g' := (mkF m 112 (own_A3 p0 p1 p2 p3 3 f0 f1 f2 1 1 1 N_) [(.int N_)])) (fun t_ k_ => XS.istore X.here hx rfl (hb hby at_108) rfl (l' := (own_A3 p0 p1 p2 p3 3 f0 f1 f2 1 1 1 N_)) rfl (XS.iload X.here hx rfl (hb hby at_110) rfl k_)) ?_
    obtain ⟨b22, gb⟩ : ∃ z, z = h.size := ⟨_, rfl⟩
    obtain ⟨T, h23, kb22, X, eT, E, A_, E_b22, st⟩ := newPE X hx hZ (hw _ (own_w 4 rfl)) eT (g := (mkF m 112 (own_A3 p0 p1 p2 p3 3 f0 f1 f2 1 1 1 N_) [(.int N_)])) rfl (hb hby at_112) rfl (own_dom1 (P := fun N_ => ¬ (N_) < 0) (by decide) hN) (cap := 12) (own_dom1 (P := fun N_ => (N_).toNatClampNeg ≤ 12) (by decide) hN) (by decide) (by decide) (by decide) (ad := "[C") (by decide)
    rw [← gb] at A_ E_b22 st
    have g_b22 : n0 ≤ b22 := Nat.le_trans (own_le O) (Nat.le_of_eq gb.symm)
    have sz_b22 : h0.size ≤ b22 := Nat.le_trans K0.1 (Nat.le_of_eq gb.symm)
    replace O := O.ext E
    replace K0 := K0.ext E
    have V_b22 : Arv Z h23 b22 kb22 .char N_ ([] : List Value) (.int 0) := (Arv.new A_ (own_dom1 (P := fun N_ => ¬ (N_) < 0) (by decide) hN))
    refine own_via (g' := (mkF m 114 (own_A3 p0 p1 p2 p3 3 f0 f1 f2 1 1 1 N_) [(.ref b22)])) st ?_
    refine own_via (g' := (mkF m 128 (own_A1 p0 p1 p2 p3 3 f0 f1 f2 1 1 1 N_ b22 0) [(.int p1), (.int f0), (.int 1), (.int 0), (.ref b22)])) (fun t_ k_ => XS.astore X.here hx rfl (hb hby at_114) rfl rfl (l' := (own_A2 p0 p1 p2 p3 3 f0 f1 f2 1 1 1 N_ b22)) rfl (XS.iconst X.here hx rfl (hb hby at_116) (XS.istore X.here hx rfl (hb hby at_117) rfl (l' := (own_A1 p0 p1 p2 p3 3 f0 f1 f2 1 1 1 N_ b22 0)) rfl (XS.aload X.here hx rfl (hb hby at_119) rfl rfl (XS.iload X.here hx rfl (hb hby at_121) rfl (XS.iload X.here hx rfl (hb hby at_123) rfl (XS.iload X.here hx rfl (hb hby at_125) rfl (XS.iloadN X.here hx rfl (hb hby at_127) rfl k_)))))))) ?_
    obtain ⟨_, _, ⟨T, Lq, kq, nq⟩, -, X, ⟨Lc, hQ, lq, yq, zq⟩, st⟩ := Jvm.LawKit.callS X hx (y := own_y15) hown (mvT hZ (hw _ (own_w 5 rfl))) (mvT hZ (hw _ (own_w 6 rfl))) (mvT hZ (hw _ (own_w 2 rfl))) (mvT hZ (hw _ (own_w 7 rfl))) (by decide) (backOf (W := 0) (own_putG l Z a0 hw [] b22 (0 : Int32) f0 p1 kb22 N_ ([] : List Value) j1 es0 h23 n0 O V_b22 g_b22 hU0) hZ (hw _ (own_w 7 rfl)) (hw _ (own_w 2 rfl)) (by decide) (by decide)) (g := (mkF m 128 (own_A1 p0 p1 p2 p3 3 f0 f1 f2 1 1 1 N_ b22 0) [(.int p1), (.int f0), (.int 1), (.int 0), (.ref b22)])) rfl (by rw [hml]; rfl) (argsL := [(.ref b22), (.int 0), (.int 1), (.int f0), (.int p1)]) (rest := []) (lenOf own_pd13 rfl) rfl (by show 2 * 0 + _ ≤ _; exact Nat.le_of_eq rfl) (hb hby at_128) (fun _ _ => ⟨rfl, eT, (by decide : 1 + 0 ≤ _), (by decide : 12 + 0 ≤ _)⟩)
    dsimp only [Pt.U, Pt.locs, Pt.cells, Pt.slots] at X lq yq zq st hQ
    subst lq yq zq
    obtain ⟨rfl, Nq, Kq, V_b22⟩ := hQ
    replace N := Fr.app N Nq
    obtain ⟨h24, eT⟩ : ∃ z, T.heap = z := ⟨_, rfl⟩
    rw [eT] at Kq V_b22
    replace E_b22 := E_b22.keep Kq
    replace O := O.keep Kq (allS g_b22 all0)
    replace K0 := K0.trans Kq (allS (Or.inr sz_b22) all0)
    refine own_via (g' := (mkF m 131 (own_A1 p0 p1 p2 p3 3 f0 f1 f2 1 1 1 N_ b22 0) [(.int j1)])) st ?_
    refine own_via (g' := (mkF m 142 (own_A1 p0 p1 p2 p3 3 f0 f1 f2 1 1 1 N_ b22 j1) [(.int p2), (.int f1), (.int 1), (.int j1), (.ref b22)])) (fun t_ k_ => XS.istore X.here hx rfl (hb hby at_131) rfl (l' := (own_A1 p0 p1 p2 p3 3 f0 f1 f2 1 1 1 N_ b22 j1)) rfl (XS.aload X.here hx rfl (hb hby at_133) rfl rfl (XS.iload X.here hx rfl (hb hby at_135) rfl (XS.iload X.here hx rfl (hb hby at_137) rfl (XS.iload X.here hx rfl (hb hby at_139) rfl (XS.iloadN X.here hx rfl (hb hby at_141) rfl k_)))))) ?_
    obtain ⟨_, _, ⟨T, Lq, kq, nq⟩, -, X, ⟨Lc, hQ, lq, yq, zq⟩, st⟩ := Jvm.LawKit.callS X hx (y := own_y15) hown (mvT hZ (hw _ (own_w 5 rfl))) (mvT hZ (hw _ (own_w 6 rfl))) (mvT hZ (hw _ (own_w 2 rfl))) (mvT hZ (hw _ (own_w 7 rfl))) (by decide) (backOf (W := 0) (own_putG l Z a0 hw [] b22 j1 f1 p2 kb22 N_ (([] : List Value) ++ es0.map Value.int) j2 es1 h24 n0 O V_b22 g_b22 hU1) hZ (hw _ (own_w 7 rfl)) (hw _ (own_w 2 rfl)) (by decide) (by decide)) (g := (mkF m 142 (own_A1 p0 p1 p2 p3 3 f0 f1 f2 1 1 1 N_ b22 j1) [(.int p2), (.int f1), (.int 1), (.int j1), (.ref b22)])) rfl (by rw [hml]; rfl) (argsL := [(.ref b22), (.int j1), (.int 1), (.int f1), (.int p2)]) (rest := []) (lenOf own_pd13 rfl) rfl (by show 2 * 0 + _ ≤ _; exact Nat.le_of_eq rfl) (hb hby at_142) (fun _ _ => ⟨rfl, eT, (by decide : 1 + 0 ≤ _), (by decide : 12 + 0 ≤ _)⟩)
    dsimp only [Pt.U, Pt.locs, Pt.cells, Pt.slots] at X lq yq zq st hQ
    subst lq yq zq
    obtain ⟨rfl, Nq, Kq, V_b22⟩ := hQ
    replace N := Fr.app N Nq
    obtain ⟨h25, eT⟩ : ∃ z, T.heap = z := ⟨_, rfl⟩
    rw [eT] at Kq V_b22
    replace E_b22 := E_b22.keep Kq
    replace O := O.keep Kq (allS g_b22 all0)
    replace K0 := K0.trans Kq (allS (Or.inr sz_b22) all0)
    refine own_via (g' := (mkF m 145 (own_A1 p0 p1 p2 p3 3 f0 f1 f2 1 1 1 N_ b22 j1) [(.int j2)])) st ?_
    refine own_via (g' := (mkF m 156 (own_A1 p0 p1 p2 p3 3 f0 f1 f2 1 1 1 N_ b22 j2) [(.int p3), (.int f2), (.int 1), (.int j2), (.ref b22)])) (fun t_ k_ => XS.istore X.here hx rfl (hb hby at_145) rfl (l' := (own_A1 p0 p1 p2 p3 3 f0 f1 f2 1 1 1 N_ b22 j2)) rfl (XS.aload X.here hx rfl (hb hby at_147) rfl rfl (XS.iload X.here hx rfl (hb hby at_149) rfl (XS.iload X.here hx rfl (hb hby at_151) rfl (XS.iload X.here hx rfl (hb hby at_153) rfl (XS.iloadN X.here hx rfl (hb hby at_155) rfl k_)))))) ?_
    obtain ⟨_, _, ⟨T, Lq, kq, nq⟩, -, X, ⟨Lc, hQ, lq, yq, zq⟩, st⟩ := Jvm.LawKit.callS X hx (y := own_y15) hown (mvT hZ (hw _ (own_w 5 rfl))) (mvT hZ (hw _ (own_w 6 rfl))) (mvT hZ (hw _ (own_w 2 rfl))) (mvT hZ (hw _ (own_w 7 rfl))) (by decide) (backOf (W := 0) (own_putG l Z a0 hw [] b22 j2 f2 p3 kb22 N_ ((([] : List Value) ++ es0.map Value.int) ++ es1.map Value.int) j3 es2 h25 n0 O V_b22 g_b22 hU2) hZ (hw _ (own_w 7 rfl)) (hw _ (own_w 2 rfl)) (by decide) (by decide)) (g := (mkF m 156 (own_A1 p0 p1 p2 p3 3 f0 f1 f2 1 1 1 N_ b22 j2) [(.int p3), (.int f2), (.int 1), (.int j2), (.ref b22)])) rfl (by rw [hml]; rfl) (argsL := [(.ref b22), (.int j2), (.int 1), (.int f2), (.int p3)]) (rest := []) (lenOf own_pd13 rfl) rfl (by show 2 * 0 + _ ≤ _; exact Nat.le_of_eq rfl) (hb hby at_156) (fun _ _ => ⟨rfl, eT, (by decide : 1 + 0 ≤ _), (by decide : 12 + 0 ≤ _)⟩)
    dsimp only [Pt.U, Pt.locs, Pt.cells, Pt.slots] at X lq yq zq st hQ
    subst lq yq zq
    obtain ⟨rfl, Nq, Kq, V_b22⟩ := hQ
    replace N := Fr.app N Nq
    obtain ⟨h26, eT⟩ : ∃ z, T.heap = z := ⟨_, rfl⟩
    rw [eT] at Kq V_b22
    replace E_b22 := E_b22.keep Kq
    replace O := O.keep Kq (allS g_b22 all0)
    replace K0 := K0.trans Kq (allS (Or.inr sz_b22) all0)
    refine own_via (g' := (mkF m 159 (own_A1 p0 p1 p2 p3 3 f0 f1 f2 1 1 1 N_ b22 j2) [(.int j3)])) st ?_
    refine own_via (g' := (mkF m 161 (own_A1 p0 p1 p2 p3 3 f0 f1 f2 1 1 1 N_ b22 j3) [])) (fun t_ k_ => XS.istore X.here hx rfl (hb hby at_159) rfl (l' := (own_A1 p0 p1 p2 p3 3 f0 f1 f2 1 1 1 N_ b22 j3)) rfl k_) ?_
    obtain ⟨b27, gb⟩ : ∃ z, z = h26.size := ⟨_, rfl⟩
    obtain ⟨T, h28, X, eT, E, E_b27, Dq, -, st⟩ := newO X hx hZ hown (hw _ (own_w 8 rfl)) (hw _ (own_w 9 rfl)) (hw _ (own_w 10 rfl)) eT (g := (mkF m 161 (own_A1 p0 p1 p2 p3 3 f0 f1 f2 1 1 1 N_ b22 j3) [])) rfl (hb hby at_161) (by decide) (by decide)
    rw [← gb] at E_b27 Dq st
    have ne_b22_b27 : b22 ≠ b27 := Nat.ne_of_lt (Nat.lt_of_lt_of_le E_b22.lt (Nat.le_of_eq gb.symm))
    have g_b27 : n0 ≤ b27 := Nat.le_trans (own_le O) (Nat.le_of_eq gb.symm)
    have sz_b27 : h0.size ≤ b27 := Nat.le_trans K0.1 (Nat.le_of_eq gb.symm)
    replace E_b22 := E_b22.ext E
    replace V_b22 := V_b22.ext E
    replace O := O.ext E
    replace K0 := K0.ext E
    have F_value_b27 : Fld Z h28 b27 "java/lang/String" "value" "[B" .null := Dq (Or.inr (hw _ (own_w 23 rfl))) (ty := (.array .byte)) (by decide)
    have F_coder_b27 : Fld Z h28 b27 "java/lang/String" "coder" "B" (.int 0) := Dq (Or.inr (hw _ (own_w 24 rfl))) (ty := .byte) (by decide)
    refine own_via (g' := (mkF m 164 (own_A1 p0 p1 p2 p3 3 f0 f1 f2 1 1 1 N_ b22 j3) [(.ref b27)])) st ?_
    refine own_via (g' := (mkF m 167 (own_A1 p0 p1 p2 p3 3 f0 f1 f2 1 1 1 N_ b22 j3) [(.ref b22), (.ref b27), (.ref b27)])) (fun t_ k_ => XS.dup X.here hx rfl (hb hby at_164) rfl rfl (XS.aload X.here hx rfl (hb hby at_165) rfl rfl k_)) ?_
    rw [ecs] at V_b22
    obtain ⟨_, _, ⟨T, Lq, kq, nq⟩, -, X, ⟨Lc, hQ, lq, yq, zq⟩, st⟩ := X.specialBack hx (y := own_y16) rfl hown (mvT hZ (hw _ (own_w 11 rfl))) (mvT hZ (hw _ (own_w 12 rfl))) (mvT hZ (hw _ (own_w 13 rfl))) (by decide) (StrChars.Road.backV (W := 1) hZ hws (kI := 4) (hw _ (own_w 9 rfl)) (cs := cs) (n := n) g_b27 (own_le O) E_b27 F_value_b27 F_coder_b27 V_b22 (S_C.ext O.2) hzc hn hNn hn0 (Nat.le_trans hn12 (by decide)) hall rfl (by decide) (by decide)) (g := (mkF m 167 (own_A1 p0 p1 p2 p3 3 f0 f1 f2 1 1 1 N_ b22 j3) [(.ref b22), (.ref b27), (.ref b27)])) rfl (by rw [hml]; rfl) (Steps.refl _) (a := b27) (argsL := [(.ref b22)]) (rest := [(.ref b27)]) (lenOf own_pd14 rfl) rfl (by show 2 * 0 + _ ≤ _; exact Nat.le_of_eq rfl) (hb hby at_167) (fun _ _ => ⟨rfl, eT, (by decide : 2 + 1 ≤ _), (Nat.le_trans (Nat.add_le_add_left hn12 16) (by decide : 16 + 12 ≤ 1216))⟩)
    dsimp only [Pt.U, Pt.locs, Pt.cells, Pt.slots] at X lq yq zq st hQ
    subst lq yq zq
    replace X := X.more (Nat.le_refl _) (Nat.add_le_add_left hn12 16)
    obtain ⟨rfl, Nq, Kq, -, F_coder_b27, rb, kr, gq, szq, nq_, F_value_b27, V_rb⟩ := hQ
    replace N := Fr.app N Nq
    obtain ⟨h29, eT⟩ : ∃ z, T.heap = z := ⟨_, rfl⟩
    rw [eT] at Kq F_value_b27 F_coder_b27 V_rb
    have ne_b22_rb : b22 ≠ rb := Nat.ne_of_lt (Nat.lt_of_lt_of_le E_b22.lt szq)
    have ne_b27_rb : b27 ≠ rb := Nat.ne_of_lt (Nat.lt_of_lt_of_le E_b27.lt szq)
    have g_rb : n0 ≤ rb := Nat.le_trans (own_le O) szq
    have sz_rb : h0.size ≤ rb := Nat.le_trans K0.1 szq
    replace E_b22 := E_b22.keep Kq
    replace V_b22 := V_b22.keep Kq (ninS ne_b22_b27 nin0)
    replace E_b27 := E_b27.keep Kq
    replace O := O.keep Kq (allS g_b27 all0)
    replace K0 := K0.trans Kq (allS (Or.inr sz_b27) all0)
    refine own_viaT (g' := (mkF m 170 (own_A1 p0 p1 p2 p3 3 f0 f1 f2 1 1 1 N_ b22 j3) [(.ref b27)])) st ?_
    obtain ⟨_, _, ⟨T, Lq, kq, nq⟩, -, X, ⟨Lc, hQ, lq, yq, zq⟩, st⟩ := Jvm.LawKit.callS X hx (y := own_y17) hown (mvT hZ (hw _ (own_w 29 rfl))) (mvT hZ (hw _ (own_w 30 rfl))) (mvT hZ (hw _ (own_w 31 rfl))) (mvT hZ (hw _ (own_w 32 rfl))) (by decide) (backOf (W := 0) (own_unG3 l Z a0 hw [] b27 rb kr f0 p1 f1 p2 f2 p3 N_ ((cs.map fun c => c.toInt8.toInt32).map Value.int) r0 r1 r2 zc vS h29 n0 O E_b27 F_value_b27 F_coder_b27 V_rb hP S_C hzc S_S hvS) hZ (hw _ (own_w 32 rfl)) (hw _ (own_w 31 rfl)) (by decide) (by decide)) (g := (mkF m 170 (own_A1 p0 p1 p2 p3 3 f0 f1 f2 1 1 1 N_ b22 j3) [(.ref b27)])) rfl (by rw [hml]; rfl) (argsL := [(.ref b27)]) (rest := []) (lenOf own_pd15 rfl) rfl (by show 2 * 0 + _ ≤ _; exact Nat.le_of_eq rfl) (hb hby at_170) (fun _ _ => ⟨rfl, eT, (by decide : 3 + 2 ≤ _), (by decide : 28 + 24 ≤ _)⟩)
    dsimp only [Pt.U, Pt.locs, Pt.cells, Pt.slots] at X lq yq zq st hQ
    subst lq yq zq
    obtain ⟨ob, ok, rfl, Nq, Kq, szq, V_ob, E_ob⟩ := hQ
    replace N := Fr.app N Nq
    obtain ⟨h30, eT⟩ : ∃ z, T.heap = z := ⟨_, rfl⟩
    rw [eT] at Kq V_ob E_ob
    have ne_b22_ob : b22 ≠ ob := Nat.ne_of_lt (Nat.lt_of_lt_of_le E_b22.lt szq)
    have ne_b27_ob : b27 ≠ ob := Nat.ne_of_lt (Nat.lt_of_lt_of_le E_b27.lt szq)
    have ne_rb_ob : rb ≠ ob := Nat.ne_of_lt (Nat.lt_of_lt_of_le V_rb.lt szq)
    have g_ob : n0 ≤ ob := Nat.le_trans (own_le O) szq
    have sz_ob : h0.size ≤ ob := Nat.le_trans K0.1 szq
    replace E_b22 := E_b22.keep Kq
    replace V_b22 := V_b22.keep Kq nin0
    replace E_b27 := E_b27.keep Kq
    replace F_value_b27 := F_value_b27.keep Kq nin0
    replace F_coder_b27 := F_coder_b27.keep Kq nin0
    replace V_rb := V_rb.keep Kq nin0
    replace O := O.keep Kq all0
    replace K0 := K0.trans Kq all0
    refine own_via (g' := (mkF m 173 (own_A1 p0 p1 p2 p3 3 f0 f1 f2 1 1 1 N_ b22 j3) [(.ref ob)])) st ?_
    refine own_via (g' := (mkF m 177 (own_A0 p0 p1 p2 p3 3 f0 f1 f2 1 1 1 N_ b22 j3 ob) [(.ref ob)])) (fun t_ k_ => XS.astore X.here hx rfl (hb hby at_173) rfl rfl (l' := (own_A0 p0 p1 p2 p3 3 f0 f1 f2 1 1 1 N_ b22 j3 ob)) rfl (XS.aload X.here hx rfl (hb hby at_175) rfl rfl k_)) ?_
    obtain ⟨cl_, Ar_, -, Sz_, Nn_, -, -⟩ := id V_ob
    refine own_via (g' := (mkF m 178 (own_A0 p0 p1 p2 p3 3 f0 f1 f2 1 1 1 N_ b22 j3 ob) [(.int 3)])) (fun t_ k_ => X.arraylength hx (by rw [eT]; exact Ar_.1) (State.isArrayOf_alike hZ.alike Ar_.2.1) (g := (mkF m 177 (own_A0 p0 p1 p2 p3 3 f0 f1 f2 1 1 1 N_ b22 j3 ob) [(.ref ob)])) rfl rfl (hb hby at_177) _ (by rw [len_of Sz_ Nn_]; exact k_)) ?_
    refine own_via (g' := (mkF m 193 (own_A0 p0 p1 p2 p3 3 f0 f1 f2 1 1 1 N_ b22 j3 ob) [(.int 0), (.ref ob)])) (fun t_ k_ => XS.iload X.here hx rfl (hb hby at_178) rfl (XS.icmpYes X.here hx rfl (pc0 := 180) (pc' := 185) rfl (hb hby at_180) rfl (teq (by decide : (3 : Int32) = (3 : Int32))).1 (by decide) (by decide) (XS.iload X.here hx rfl (hb hby at_185) rfl (XS.ifNo X.here hx rfl (hb hby at_187) rfl ((if0 _ _).trans (feq (by decide : ¬ ((1 : Int32) = (0 : Int32)))).1) (XS.aload X.here hx rfl (hb hby at_190) rfl rfl (XS.iconst X.here hx rfl (hb hby at_192) k_)))))) ?_
    obtain ⟨cl_, Ar_, -, Sz_, Nn_, Hs_, -⟩ := id V_ob
    have hin_ : ¬ ((0 : Int32) < 0 ∨ cl_.slots.size ≤ ((0 : Int32)).toNatClampNeg) := inb_of Sz_ ⟨by decide, by decide⟩
    have hat_ : cl_.slots[((0 : Int32)).toNatClampNeg]? = some (.int r0) := Hs_.at hin_ rfl
    refine own_via (g' := (mkF m 197 (own_A0 p0 p1 p2 p3 3 f0 f1 f2 1 1 1 N_ b22 j3 ob) [(.int p1), (.int f0), (.int r0)])) (fun t_ k_ => X.baloadBytes hx (j := (0 : Int32)) (v := (.int r0)) (by rw [eT]; exact Ar_.1) (State.isArrayOf_alike hZ.alike Ar_.2.1) Ar_.2.2 hin_ hat_ (g := (mkF m 193 (own_A0 p0 p1 p2 p3 3 f0 f1 f2 1 1 1 N_ b22 j3 ob) [(.int 0), (.ref ob)])) rfl rfl (hb hby at_193) _ (XS.iload X.here hx rfl (hb hby at_194) rfl (XS.iloadN X.here hx rfl (hb hby at_196) rfl k_))) ?_
    obtain ⟨_, _, ⟨T, Lq, kq, nq⟩, -, X, ⟨Lc, hQ, lq, yq, zq⟩, st⟩ := Jvm.LawKit.callS X hx (y := own_y18) hown (mvT hZ (hw _ (own_w 110 rfl))) (mvT hZ (hw _ (own_w 111 rfl))) (mvT hZ (hw _ (own_w 2 rfl))) (mvT hZ (hw _ (own_w 112 rfl))) (by decide) (backOf (W := 1) (own_exG l Z a0 hw [] f0 p1 r0 h30 n0 O hX0) hZ (hw _ (own_w 112 rfl)) (hw _ (own_w 2 rfl)) (by decide) (by decide)) (g := (mkF m 197 (own_A0 p0 p1 p2 p3 3 f0 f1 f2 1 1 1 N_ b22 j3 ob) [(.int p1), (.int f0), (.int r0)])) rfl (by rw [hml]; rfl) (argsL := [(.int f0), (.int p1)]) (rest := [(.int r0)]) (lenOf own_pd16 rfl) rfl (by show 2 * 0 + _ ≤ _; exact Nat.le_of_eq rfl) (hb hby at_197) (fun _ _ => ⟨rfl, eT, (by decide : 5 + 0 ≤ _), (by decide : 52 + 0 ≤ _)⟩)
    dsimp only [Pt.U, Pt.locs, Pt.cells, Pt.slots] at X lq yq zq st hQ
    subst lq yq zq
    obtain ⟨rfl, Nq, eT⟩ := hQ
    replace N := Fr.app N Nq
    refine own_via (g' := (mkF m 200 (own_A0 p0 p1 p2 p3 3 f0 f1 f2 1 1 1 N_ b22 j3 ob) [(.int r0), (.int r0)])) st ?_
    refine own_via (g' := (mkF m 213 (own_A0 p0 p1 p2 p3 3 f0 f1 f2 1 1 1 N_ b22 j3 ob) [(.int 1), (.ref ob)])) (fun t_ k_ => XS.icmpYes X.here hx rfl (pc0 := 200) (pc' := 205) rfl (hb hby at_200) rfl (teq (rfl : r0 = r0)).1 (by decide) (by decide) (XS.iload X.here hx rfl (hb hby at_205) rfl (XS.ifNo X.here hx rfl (hb hby at_207) rfl ((if0 _ _).trans (feq (by decide : ¬ ((1 : Int32) = (0 : Int32)))).1) (XS.aload X.here hx rfl (hb hby at_210) rfl rfl (XS.iconst X.here hx rfl (hb hby at_212) k_))))) ?_
    obtain ⟨cl_, Ar_, -, Sz_, Nn_, Hs_, -⟩ := id V_ob
    have hin_ : ¬ ((1 : Int32) < 0 ∨ cl_.slots.size ≤ ((1 : Int32)).toNatClampNeg) := inb_of Sz_ ⟨by decide, by decide⟩
    have hat_ : cl_.slots[((1 : Int32)).toNatClampNeg]? = some (.int r1) := Hs_.at hin_ rfl
    refine own_via (g' := (mkF m 217 (own_A0 p0 p1 p2 p3 3 f0 f1 f2 1 1 1 N_ b22 j3 ob) [(.int p2), (.int f1), (.int r1)])) (fun t_ k_ => X.baloadBytes hx (j := (1 : Int32)) (v := (.int r1)) (by rw [eT]; exact Ar_.1) (State.isArrayOf_alike hZ.alike Ar_.2.1) Ar_.2.2 hin_ hat_ (g := (mkF m 213 (own_A0 p0 p1 p2 p3 3 f0 f1 f2 1 1 1 N_ b22 j3 ob) [(.int 1), (.ref ob)])) rfl rfl (hb hby at_213) _ (XS.iload X.here hx rfl (hb hby at_214) rfl (XS.iloadN X.here hx rfl (hb hby at_216) rfl k_))) ?_
    obtain ⟨_, _, ⟨T, Lq, kq, nq⟩, -, X, ⟨Lc, hQ, lq, yq, zq⟩, st⟩ := Jvm.LawKit.callS X hx (y := own_y18) hown (mvT hZ (hw _ (own_w 110 rfl))) (mvT hZ (hw _ (own_w 111 rfl))) (mvT hZ (hw _ (own_w 2 rfl))) (mvT hZ (hw _ (own_w 112 rfl))) (by decide) (backOf (W := 1) (own_exG l Z a0 hw [] f1 p2 r1 h30 n0 O hX1) hZ (hw _ (own_w 112 rfl)) (hw _ (own_w 2 rfl)) (by decide) (by decide)) (g := (mkF m 217 (own_A0 p0 p1 p2 p3 3 f0 f1 f2 1 1 1 N_ b22 j3 ob) [(.int p2), (.int f1), (.int r1)])) rfl (by rw [hml]; rfl) (argsL := [(.int f1), (.int p2)]) (rest := [(.int r1)]) (lenOf own_pd16 rfl) rfl (by show 2 * 0 + _ ≤ _; exact Nat.le_of_eq rfl) (hb hby at_217) (fun _ _ => ⟨rfl, eT, (by decide : 5 + 0 ≤ _), (by decide : 52 + 0 ≤ _)⟩)
    dsimp only [Pt.U, Pt.locs, Pt.cells, Pt.slots] at X lq yq zq st hQ
    subst lq yq zq
    obtain ⟨rfl, Nq, eT⟩ := hQ
    replace N := Fr.app N Nq
    refine own_via (g' := (mkF m 220 (own_A0 p0 p1 p2 p3 3 f0 f1 f2 1 1 1 N_ b22 j3 ob) [(.int r1), (.int r1)])) st ?_
    refine own_via (g' := (mkF m 233 (own_A0 p0 p1 p2 p3 3 f0 f1 f2 1 1 1 N_ b22 j3 ob) [(.int 2), (.ref ob)])) (fun t_ k_ => XS.icmpYes X.here hx rfl (pc0 := 220) (pc' := 225) rfl (hb hby at_220) rfl (teq (rfl : r1 = r1)).1 (by decide) (by decide) (XS.iload X.here hx rfl (hb hby at_225) rfl (XS.ifNo X.here hx rfl (hb hby at_227) rfl ((if0 _ _).trans (feq (by decide : ¬ ((1 : Int32) = (0 : Int32)))).1) (XS.aload X.here hx rfl (hb hby at_230) rfl rfl (XS.iconst X.here hx rfl (hb hby at_232) k_))))) ?_
    obtain ⟨cl_, Ar_, -, Sz_, Nn_, Hs_, -⟩ := id V_ob
    have hin_ : ¬ ((2 : Int32) < 0 ∨ cl_.slots.size ≤ ((2 : Int32)).toNatClampNeg) := inb_of Sz_ ⟨by decide, by decide⟩
    have hat_ : cl_.slots[((2 : Int32)).toNatClampNeg]? = some (.int r2) := Hs_.at hin_ rfl
    refine own_via (g' := (mkF m 237 (own_A0 p0 p1 p2 p3 3 f0 f1 f2 1 1 1 N_ b22 j3 ob) [(.int p3), (.int f2), (.int r2)])) (fun t_ k_ => X.baloadBytes hx (j := (2 : Int32)) (v := (.int r2)) (by rw [eT]; exact Ar_.1) (State.isArrayOf_alike hZ.alike Ar_.2.1) Ar_.2.2 hin_ hat_ (g := (mkF m 233 (own_A0 p0 p1 p2 p3 3 f0 f1 f2 1 1 1 N_ b22 j3 ob) [(.int 2), (.ref ob)])) rfl rfl (hb hby at_233) _ (XS.iload X.here hx rfl (hb hby at_234) rfl (XS.iloadN X.here hx rfl (hb hby at_236) rfl k_))) ?_
    obtain ⟨_, _, ⟨T, Lq, kq, nq⟩, -, X, ⟨Lc, hQ, lq, yq, zq⟩, st⟩ := Jvm.LawKit.callS X hx (y := own_y18) hown (mvT hZ (hw _ (own_w 110 rfl))) (mvT hZ (hw _ (own_w 111 rfl))) (mvT hZ (hw _ (own_w 2 rfl))) (mvT hZ (hw _ (own_w 112 rfl))) (by decide) (backOf (W := 1) (own_exG l Z a0 hw [] f2 p3 r2 h30 n0 O hX2) hZ (hw _ (own_w 112 rfl)) (hw _ (own_w 2 rfl)) (by decide) (by decide)) (g := (mkF m 237 (own_A0 p0 p1 p2 p3 3 f0 f1 f2 1 1 1 N_ b22 j3 ob) [(.int p3), (.int f2), (.int r2)])) rfl (by rw [hml]; rfl) (argsL := [(.int f2), (.int p3)]) (rest := [(.int r2)]) (lenOf own_pd16 rfl) rfl (by show 2 * 0 + _ ≤ _; exact Nat.le_of_eq rfl) (hb hby at_237) (fun _ _ => ⟨rfl, eT, (by decide : 5 + 0 ≤ _), (by decide : 52 + 0 ≤ _)⟩)
    dsimp only [Pt.U, Pt.locs, Pt.cells, Pt.slots] at X lq yq zq st hQ
    subst lq yq zq
    obtain ⟨rfl, Nq, eT⟩ := hQ
    replace N := Fr.app N Nq
    refine own_via (g' := (mkF m 240 (own_A0 p0 p1 p2 p3 3 f0 f1 f2 1 1 1 N_ b22 j3 ob) [(.int r2), (.int r2)])) st ?_
    refine own_via (g' := (mkF m 246 (own_A0 p0 p1 p2 p3 3 f0 f1 f2 1 1 1 N_ b22 j3 ob) [(.int 1)])) (fun t_ k_ => XS.icmpYes X.here hx rfl (pc0 := 240) (pc' := 245) rfl (hb hby at_240) rfl (teq (rfl : r2 = r2)).1 (by decide) (by decide) (XS.iconst X.here hx rfl (hb hby at_245) k_)) ?_
    refine own_retNW (own_base X) (own_since0 X h0.size) (by rw [eT]; exact K0.1) hx hlk (t := .boolean) Bd.returns (by simp) (hb hby at_246) (by decide) (by decide) (fun _ => trivial) ?_
    rw [eT]
    exact ⟨rfl, N, trivial⟩
theorem own_notEq {args : Array Value} {first s : State} {o : Option Outcome} {t : Term} {k z : Int32} (h : (Cond.not (.eq t (.int k))).value args first o s [] = some true) (ev : t.eval args first o [] s = some (.int z)) : ¬ z = k := fun q => by
  subst q
  simp [Cond.value, ev, Term.int_eval] at h
theorem own_isRef {args : Array Value} {first s : State} {o : Option Outcome} {t : Term} (h : (Cond.isRef t).value args first o s [] = some true) : ∃ v, t.eval args first o [] s = some v ∧ v.isRef = true := by
  simp only [Cond.value] at h
  cases hv : t.eval args first o [] s with
  | none => simp [hv] at h
  | some v => cases v <;> simp [hv] at h <;> exact ⟨_, rfl, rfl⟩
set_option maxRecDepth 65536 in
set_option maxHeartbeats 40000000 in
theorem comes_1 {Post : Tables → Env → Array Value → State → Outcome → State → Prop} (hpost : ∀ tb e args s v u, (limb_1_1.after args s (.returned v) u = true ∧ limb_1_2.after args s (.returned v) u = true ∧ True) → ReturnedEndW s (.returned v) u (Jvm.fieldLocs frame_1_writes args s ++ Jvm.arrayLocs frame_1_arrays args s ++ Jvm.staticLocs frame_1_statics s) 24 1216 → Post tb e args s (.returned v) u) :
    ArmFor flags0 classFile x code maxLocals ret World_1 tables_1 room_1 Calls_1 rest_1 Pre_1 Post := by
  intro l hfl _ _ p e ha hc hk s m args below hf hA hF happ hP
  obtain ⟨hcalls, hrest, hpre⟩ := hP
  obtain ⟨-, -, -, hnamed, -, -, -, hat⟩ := (Spec.applies_iff hf).mp happ
  obtain ⟨hg, hn⟩ := and_e (Cond.before_iff.mp (show (Jvm.Cond.and given_1 narrow_1).before args s = true from hpre))
  obtain ⟨hcount, hg1⟩ := and_e hg
  obtain ⟨hv0, hg2⟩ := and_e hg1
  obtain ⟨hv1, hg3⟩ := and_e hg2
  obtain ⟨hv2, hg4⟩ := and_e hg3
  obtain ⟨w0, w1, w2, w3, rfl⟩ : ∃ w0 w1 w2 w3 : Value, args = #[w0, w1, w2, w3] := by
    have hs : args.size = 4 := by simpa [Cond.value, given_1] using hcount
    obtain ⟨L⟩ := args
    match L, hs with
    | [w0, w1, w2, w3], _ => exact ⟨w0, w1, w2, w3, rfl⟩
  have hw := fun d (hd : d ∈ tables_1) => atoms_spec (ws := Jvm.Cond.code x code maxLocals ret :: tables_1) hat d (List.mem_cons_of_mem _ hd)
  have hfit : Fit s := fun {y c} hc i hi => by
    obtain ⟨ha, rfl⟩ := Array.getElem?_eq_some_iff.mp hc
    have q := List.all_eq_true.mp ((Array.all_eq_true_iff_forall_mem.mp hF) _ (Array.getElem_mem ha)) i (List.mem_range.mpr hi)
    simpa [Array.getElem?_eq_getElem hi] using q
  obtain ⟨hsets, hown0⟩ := atoms_of _ (rest_1_c_eq ▸ (show rest_1_c.before _ s = true from hrest))
  have hr0 := Cond.before_iff.mp hown0
  obtain ⟨i0, ei0⟩ := is_v hv0
  obtain rfl : w0 = (.int i0) := Option.some.inj ei0
  obtain ⟨i1, ei1⟩ := is_v hv1
  obtain rfl : w1 = (.int i1) := Option.some.inj ei1
  obtain ⟨i2, ei2⟩ := is_v hv2
  obtain rfl : w2 = (.int i2) := Option.some.inj ei2
  obtain ⟨i3, ei3⟩ := is_v hg4
  obtain rfl : w3 = (.int i3) := Option.some.inj ei3
  obtain ⟨zc, evC⟩ := is_v (Cond.before_iff.mp (hsets _ (List.mem_of_getElem? (i := 1) rfl)))
  have S_C := Sta.start evC (Or.inl (hsets _ (List.mem_of_getElem? (i := 0) rfl)))
  have hzc : ¬ zc = 0 := own_notEq (Cond.before_iff.mp (hsets _ (List.mem_of_getElem? (i := 2) rfl))) evC
  obtain ⟨vS, evS, hvS⟩ := own_isRef (Cond.before_iff.mp (hsets _ (List.mem_of_getElem? (i := 8) rfl)))
  have S_S := Sta.start evS (Or.inl (hsets _ (List.mem_of_getElem? (i := 7) rfl)))
  have hCH : CHv s own_EL s.vm s.heap := CHv.start (own_hEL hw) hcalls.1 (hsets _ (List.mem_of_getElem? (i := 2) rfl)) (hw _ (own_w 22 rfl)) (hw _ (own_w 9 rfl))
  obtain ⟨n, o, h1, h2, h3, _, L, rfl, ⟨rfl, N, -⟩, -, hq⟩ := own_law l s _ hw tables_1 i0 i1 i2 i3 zc vS s.heap s.heap.size (Old.start s) S_C hzc S_S hvS p e ha hc hk s m _ below hf ((Spec.applies_iff_loose hf).mp happ).1 ⟨rfl, State.Warmed39.refl s, rfl, hCH⟩ trivial
  refine ⟨n, _, h1, h2, h3, hpost _ _ _ _ _ _ ⟨Cond.after_iff.mpr rfl, Cond.after_iff.mpr (eq_i res_at (Term.int_eval (1)) rfl), trivial⟩ ⟨hq.1, hq.2.1, hq.2.2.1, (hq.2.2.2.sift fun y hy => Or.inr (N y hy)).mono (by decide) (by decide)⟩⟩
theorem main_1_1 : Claimed_1_1 := comes_1 fun _ _ _ _ _ _ h hF => ⟨h.1, hF⟩
theorem main_1_2 : Claimed_1_2 := comes_1 fun _ _ _ _ _ _ h hF => ⟨h.2.1, hF⟩
end Jvm.Pilot.@@N@@
namespace Jvm.Pilot.@@N@@
open Jvm Jvm.ClassFile Sem Op Lib Jvm.Free Jvm.Stand Jvm.Pilot.@@N@@.Jvm.D
/-! MADE BY PROGRAM (witnessworld.py) out of the Statement's table words and the real class files: 23 classes; the members and pool entries that the words name. The judged class is class 1, her method 1. -/
namespace start1
open Jvm.ClassFile
def u (s : String) : CpInfo := .utf8 (stringToUtf16 s)
/-- a pool by its gaps: so many unusable entries, then the entry; so many at the end -/
def gap : Nat → List CpInfo → List CpInfo
  | 0, r => r
  | n + 1, r => .unusable :: gap n r
def poolList (es : List (Nat × CpInfo)) (last : Nat) : List CpInfo := es.foldr (fun e r => gap e.1 (e.2 :: r)) (gap last [])
def pool (es : List (Nat × CpInfo)) (last : Nat) : Array CpInfo := ⟨poolList es last⟩
def fileOf (pool : Array CpInfo) (this : Nat) (attrs : Array Attribute := #[]) (ms : Array MethodInfo := #[]) (fl : Nat := 33) (sup : Nat := 0) (ifs : Array Nat := #[]) (fds : Array FieldInfo := #[]) : ClassFile where
  minorVersion := 0
  majorVersion := 65
  constantPool := pool
  accessFlags := fl
  thisClass := this
  superClass := sup
  interfaces := ifs
  fields := fds
  methods := ms
  attributes := attrs
def plain (name : String) (sup : Option ClassId) : Class where
  name := name
  kind := .ordinary
  loader := none
  accessFlags := 33
  super := sup
  interfaces := #[]
  cf := none
  fields := #[]
  methods := #[]
  instanceTypes := #[]
  staticTypes := #[]
  resolved := #[]
  callSites := []
  init := .initialized
  statics := none
  mirror := none

def pool0 : Array CpInfo := pool [(5, u "<init>"), (0, u "()V"), (1, .class_ 10), (1, u "java/lang/Object"), (85, u "clone"), (0, u "()Ljava/lang/Object;")] 26

def k0c0 : Code := { maxStack := 0, maxLocals := 1, code := object_method_1_code, exceptionTable := #[], attributes := #[] }
def k0m0 : Method := { name := "<init>", desc := "()V", sig := { parameters := [], returnType := none }, accessFlags := 1, code := some k0c0 }
def k0m1 : Method := { name := "clone", desc := "()Ljava/lang/Object;", sig := { parameters := [], returnType := some (.object "java/lang/Object") }, accessFlags := 260, code := none }
/-- java/lang/Object -/
def k0 : Class := { plain "java/lang/Object" none with
  accessFlags := 33
  interfaces := #[]
  cf := some (fileOf pool0 8 #[] #[{ accessFlags := 1, nameIndex := 5, descriptorIndex := 6, attributes := #[] }, { accessFlags := 260, nameIndex := 96, descriptorIndex := 97, attributes := #[] }] 33 0 #[] #[])
  fields := #[]
  methods := #[k0m0, k0m1]
  instanceTypes := #[]
  staticTypes := #[]
  resolved := Array.replicate 124 none
  statics := none }

def pool1 : Array CpInfo := pool [(2, .class_ 4), (1, u "java/lang/Object"), (0, u "<init>"), (0, u "()V"), (0, .methodref 8 9), (0, .class_ 10), (0, .nameAndType 11 12), (0, u "com/example/rows_to_regions/rowstoregions/KeyTextUnescapePinLaw"), (0, u "width"), (0, u "(ZZ)I"), (0, .methodref 8 14), (0, .nameAndType 15 16), (0, u "put"), (0, u "([CIZZI)I"), (0, .class_ 18), (0, u "java/lang/String"), (0, .methodref 17 20), (0, .nameAndType 5 21), (0, u "([C)V"), (0, .methodref 23 24), (0, .class_ 25), (0, .nameAndType 26 27), (0, u "com/example/rows_to_regions/rowstoregions/KeyText"), (0, u "unescape"), (0, u "(Ljava/lang/String;)[B"), (0, .methodref 8 29), (0, .nameAndType 30 31), (0, u "expected"), (0, u "(ZI)B"), (0, .integer 2147483647), (0, .methodref 8 34), (0, .nameAndType 35 36), (0, u "printable"), (0, u "(I)C"), (0, .methodref 8 38), (0, .nameAndType 39 36), (0, u "hex"), (2, u "law"), (0, u "(IIII)Z")] 7

def k1m0 : Method := { name := "<init>", desc := "()V", sig := { parameters := [], returnType := none }, accessFlags := 1, code := none }
def k1c1 : Code := { maxStack := 5, maxLocals := 15, code := code, exceptionTable := #[], attributes := #[] }
def k1m1 : Method := { name := "law", desc := "(IIII)Z", sig := { parameters := [.int, .int, .int, .int], returnType := some .boolean }, accessFlags := 9, code := some k1c1 }
def k1c2 : Code := { maxStack := 1, maxLocals := 2, code := method_3_code, exceptionTable := #[], attributes := #[] }
def k1m2 : Method := { name := "width", desc := "(ZZ)I", sig := { parameters := [.boolean, .boolean], returnType := some .int }, accessFlags := 10, code := some k1c2 }
def k1c3 : Code := { maxStack := 3, maxLocals := 2, code := method_4_code, exceptionTable := #[], attributes := #[] }
def k1m3 : Method := { name := "printable", desc := "(I)C", sig := { parameters := [.int], returnType := some .char }, accessFlags := 10, code := some k1c3 }
def k1c4 : Code := { maxStack := 2, maxLocals := 1, code := method_5_code, exceptionTable := #[], attributes := #[] }
def k1m4 : Method := { name := "hex", desc := "(I)C", sig := { parameters := [.int], returnType := some .char }, accessFlags := 10, code := some k1c4 }
def k1c5 : Code := { maxStack := 4, maxLocals := 6, code := method_6_code, exceptionTable := #[], attributes := #[] }
def k1m5 : Method := { name := "put", desc := "([CIZZI)I", sig := { parameters := [(.array .char), .int, .boolean, .boolean, .int], returnType := some .int }, accessFlags := 10, code := some k1c5 }
def k1c6 : Code := { maxStack := 2, maxLocals := 2, code := method_7_code, exceptionTable := #[], attributes := #[] }
def k1m6 : Method := { name := "expected", desc := "(ZI)B", sig := { parameters := [.boolean, .int], returnType := some .byte }, accessFlags := 10, code := some k1c6 }
/-- com/example/rows_to_regions/rowstoregions/KeyTextUnescapePinLaw -/
def k1 : Class := { plain "com/example/rows_to_regions/rowstoregions/KeyTextUnescapePinLaw" (some 0) with
  accessFlags := 49
  interfaces := #[]
  cf := some (fileOf pool1 8 #[] #[{ accessFlags := 1, nameIndex := 5, descriptorIndex := 6, attributes := #[] }, { accessFlags := 9, nameIndex := 42, descriptorIndex := 43, attributes := #[] }, { accessFlags := 10, nameIndex := 11, descriptorIndex := 12, attributes := #[] }, { accessFlags := 10, nameIndex := 35, descriptorIndex := 36, attributes := #[] }, { accessFlags := 10, nameIndex := 39, descriptorIndex := 36, attributes := #[] }, { accessFlags := 10, nameIndex := 15, descriptorIndex := 16, attributes := #[] }, { accessFlags := 10, nameIndex := 30, descriptorIndex := 31, attributes := #[] }] 49 2 #[] #[])
  fields := #[]
  methods := #[k1m0, k1m1, k1m2, k1m3, k1m4, k1m5, k1m6]
  instanceTypes := #[]
  staticTypes := #[]
  resolved := Array.replicate 51 none
  statics := none }

def pool2 : Array CpInfo := pool [(1, .class_ 2), (0, u "java/io/Serializable"), (0, .class_ 4), (0, u "java/lang/Object")] 2

/-- java/io/Serializable -/
def k2 : Class := { plain "java/io/Serializable" (some 0) with
  accessFlags := 1537
  interfaces := #[]
  cf := some (fileOf pool2 1 #[] #[] 1537 3 #[] #[])
  fields := #[]
  methods := #[]
  instanceTypes := #[]
  staticTypes := #[]
  resolved := Array.replicate 7 none
  statics := none }

def pool3 : Array CpInfo := pool [(1, .class_ 2), (0, u "java/lang/Comparable"), (0, .class_ 4), (0, u "java/lang/Object")] 7

/-- java/lang/Comparable -/
def k3 : Class := { plain "java/lang/Comparable" (some 0) with
  accessFlags := 1537
  interfaces := #[]
  cf := some (fileOf pool3 1 #[] #[] 1537 3 #[] #[])
  fields := #[]
  methods := #[]
  instanceTypes := #[]
  staticTypes := #[]
  resolved := Array.replicate 12 none
  statics := none }

def pool4 : Array CpInfo := pool [(2, .class_ 4), (1, u "java/lang/CharSequence"), (42, .class_ 48), (0, u "java/lang/CharSequence$1CodePointIterator"), (10, .class_ 60), (0, u "java/lang/CharSequence$1CharIterator"), (5, .class_ 67), (0, u "java/lang/Object")] 63

/-- java/lang/CharSequence -/
def k4 : Class := { plain "java/lang/CharSequence" (some 0) with
  accessFlags := 1537
  interfaces := #[]
  cf := some (fileOf pool4 2 #[.nestMembers #[47, 59]] #[] 1537 66 #[] #[])
  fields := #[]
  methods := #[]
  instanceTypes := #[]
  staticTypes := #[]
  resolved := Array.replicate 131 none
  statics := none }

def pool5 : Array CpInfo := pool [(1, .class_ 2), (0, u "java/lang/constant/Constable"), (0, .class_ 4), (0, u "java/lang/Object")] 6

/-- java/lang/constant/Constable -/
def k5 : Class := { plain "java/lang/constant/Constable" (some 0) with
  accessFlags := 1537
  interfaces := #[]
  cf := some (fileOf pool5 1 #[] #[] 1537 3 #[] #[])
  fields := #[]
  methods := #[]
  instanceTypes := #[]
  staticTypes := #[]
  resolved := Array.replicate 11 none
  statics := none }

def pool6 : Array CpInfo := pool [(1, .class_ 2), (0, u "java/lang/constant/ConstantDesc"), (0, .class_ 4), (0, u "java/lang/Object")] 32

/-- java/lang/constant/ConstantDesc -/
def k6 : Class := { plain "java/lang/constant/ConstantDesc" (some 0) with
  accessFlags := 1537
  interfaces := #[]
  cf := some (fileOf pool6 1 #[] #[] 1537 3 #[] #[])
  fields := #[]
  methods := #[]
  instanceTypes := #[]
  staticTypes := #[]
  resolved := Array.replicate 37 none
  statics := none }

def pool7 : Array CpInfo := pool [(1, .methodref 2 3), (0, .class_ 4), (0, .nameAndType 5 6), (0, u "java/lang/Object"), (0, u "<init>"), (0, u "()V"), (0, .string 8), (0, u ""), (0, .fieldref 10 11), (0, .class_ 12), (0, .nameAndType 13 14), (0, u "java/lang/String"), (0, u "value"), (0, u "[B"), (0, .fieldref 10 16), (0, .nameAndType 17 18), (0, u "coder"), (0, u "B"), (2, u "hash"), (0, u "I"), (2, u "hashIsZero"), (0, u "Z"), (0, .methodref 10 28), (0, .nameAndType 5 29), (0, u "([CIILjava/lang/Void;)V"), (8, .fieldref 10 39), (0, .nameAndType 40 26), (0, u "COMPACT_STRINGS"), (1, .class_ 44), (1, u "java/lang/StringUTF16"), (0, u "compress"), (1, .methodref 42 48), (0, .nameAndType 49 50), (0, u "coderFromArrayLen"), (0, u "([BI)B"), (56, .class_ 109), (1, u "java/lang/StringLatin1"), (32, u "()Z"), (34, .methodref 42 178), (0, .nameAndType 45 179), (0, u "([CII)[B"), (154, u "()I"), (0, .methodref 10 336), (0, .nameAndType 17 337), (0, u "()B"), (25, u "([BI)C"), (27, u "(II)V"), (35, u "(I)C"), (64, .methodref 10 493), (0, .nameAndType 494 142), (0, u "isLatin1"), (0, .methodref 107 496), (0, .nameAndType 497 363), (0, u "charAt"), (3, u "checkIndex"), (5, u "length"), (67, .class_ 576), (0, u "java/lang/CharSequence"), (22, u "CASE_INSENSITIVE_ORDER"), (0, u "Ljava/util/Comparator;"), (409, u "([C)V"), (42, .fieldref 1054 1055), (0, .class_ 1056), (0, .nameAndType 1057 1058), (0, u "jdk/internal/util/Preconditions"), (0, u "SIOOBE_FORMATTER"), (0, u "Ljava/util/function/BiFunction;"), (0, .methodref 1054 1060), (0, .nameAndType 501 1061), (0, u "(IILjava/util/function/BiFunction;)I"), (39, u "serialPersistentFields"), (0, u "[Ljava/io/ObjectStreamField;"), (0, .class_ 1104), (0, u "java/lang/String$CaseInsensitiveComparator"), (1, .class_ 1107), (0, u "java/io/Serializable"), (0, .class_ 1109), (0, u "java/lang/Comparable"), (0, .class_ 1111), (0, u "java/lang/constant/Constable"), (0, .class_ 1113), (0, u "java/lang/constant/ConstantDesc"), (2, u "serialVersionUID"), (0, u "J"), (3, u "REPL"), (0, u "C"), (2, u "LATIN1"), (1, u "UTF16")] 323

def k7m0 : Method := { name := "<init>", desc := "()V", sig := { parameters := [], returnType := none }, accessFlags := 1, code := none }
def k7c1 : Code := { maxStack := 5, maxLocals := 2, code := jdk_42_method_3_code, exceptionTable := #[], attributes := #[] }
def k7m1 : Method := { name := "<init>", desc := "([C)V", sig := { parameters := [(.array .char)], returnType := none }, accessFlags := 1, code := some k7c1 }
def k7c2 : Code := { maxStack := 2, maxLocals := 1, code := jdk_42_method_54_code, exceptionTable := #[], attributes := #[] }
def k7m2 : Method := { name := "length", desc := "()I", sig := { parameters := [], returnType := some .int }, accessFlags := 1, code := some k7c2 }
def k7c3 : Code := { maxStack := 2, maxLocals := 2, code := jdk_42_method_56_code, exceptionTable := #[], attributes := #[] }
def k7m3 : Method := { name := "charAt", desc := "(I)C", sig := { parameters := [.int], returnType := some .char }, accessFlags := 1, code := some k7c3 }
def k7c4 : Code := { maxStack := 4, maxLocals := 6, code := jdk_42_method_149_code, exceptionTable := #[], attributes := #[] }
def k7m4 : Method := { name := "<init>", desc := "([CIILjava/lang/Void;)V", sig := { parameters := [(.array .char), .int, .int, (.object "java/lang/Void")], returnType := none }, accessFlags := 2, code := some k7c4 }
def k7c5 : Code := { maxStack := 1, maxLocals := 1, code := jdk_42_method_152_code, exceptionTable := #[], attributes := #[] }
def k7m5 : Method := { name := "coder", desc := "()B", sig := { parameters := [], returnType := some .byte }, accessFlags := 0, code := some k7c5 }
def k7c6 : Code := { maxStack := 1, maxLocals := 1, code := jdk_42_method_154_code, exceptionTable := #[], attributes := #[] }
def k7m6 : Method := { name := "isLatin1", desc := "()Z", sig := { parameters := [], returnType := some .boolean }, accessFlags := 0, code := some k7c6 }
def k7c7 : Code := { maxStack := 3, maxLocals := 2, code := jdk_42_method_155_code, exceptionTable := #[], attributes := #[] }
def k7m7 : Method := { name := "checkIndex", desc := "(II)V", sig := { parameters := [.int, .int], returnType := none }, accessFlags := 8, code := some k7c7 }
/-- java/lang/String -/
def k7 : Class := { plain "java/lang/String" (some 0) with
  accessFlags := 49
  interfaces := #[2, 3, 4, 5, 6]
  cf := some (fileOf pool7 10 #[.nestMembers #[1103]] #[{ accessFlags := 1, nameIndex := 5, descriptorIndex := 6, attributes := #[] }, { accessFlags := 1, nameIndex := 5, descriptorIndex := 1010, attributes := #[] }, { accessFlags := 1, nameIndex := 507, descriptorIndex := 334, attributes := #[] }, { accessFlags := 1, nameIndex := 497, descriptorIndex := 427, attributes := #[] }, { accessFlags := 2, nameIndex := 5, descriptorIndex := 29, attributes := #[] }, { accessFlags := 0, nameIndex := 17, descriptorIndex := 337, attributes := #[] }, { accessFlags := 0, nameIndex := 494, descriptorIndex := 142, attributes := #[] }, { accessFlags := 8, nameIndex := 501, descriptorIndex := 391, attributes := #[] }] 49 2 #[1106, 1108, 575, 1110, 1112] #[{ accessFlags := 18, nameIndex := 13, descriptorIndex := 14, attributes := #[] }, { accessFlags := 18, nameIndex := 17, descriptorIndex := 18, attributes := #[] }, { accessFlags := 2, nameIndex := 21, descriptorIndex := 22, attributes := #[] }, { accessFlags := 2, nameIndex := 25, descriptorIndex := 26, attributes := #[] }, { accessFlags := 26, nameIndex := 1116, descriptorIndex := 1117, attributes := #[] }, { accessFlags := 24, nameIndex := 40, descriptorIndex := 26, attributes := #[] }, { accessFlags := 26, nameIndex := 1101, descriptorIndex := 1102, attributes := #[] }, { accessFlags := 26, nameIndex := 1121, descriptorIndex := 1122, attributes := #[] }, { accessFlags := 25, nameIndex := 599, descriptorIndex := 600, attributes := #[] }, { accessFlags := 24, nameIndex := 1125, descriptorIndex := 18, attributes := #[] }, { accessFlags := 24, nameIndex := 1127, descriptorIndex := 18, attributes := #[] }])
  fields := #[{ name := "value", type := (.array .byte), accessFlags := 18, slot := 0, constantValue := 0 }, { name := "coder", type := .byte, accessFlags := 18, slot := 1, constantValue := 0 }, { name := "hash", type := .int, accessFlags := 2, slot := 2, constantValue := 0 }, { name := "hashIsZero", type := .boolean, accessFlags := 2, slot := 3, constantValue := 0 }, { name := "serialVersionUID", type := .long, accessFlags := 26, slot := 0, constantValue := 0 }, { name := "COMPACT_STRINGS", type := .boolean, accessFlags := 24, slot := 1, constantValue := 0 }, { name := "serialPersistentFields", type := (.array (.object "java/io/ObjectStreamField")), accessFlags := 26, slot := 2, constantValue := 0 }, { name := "REPL", type := .char, accessFlags := 26, slot := 3, constantValue := 0 }, { name := "CASE_INSENSITIVE_ORDER", type := (.object "java/util/Comparator"), accessFlags := 25, slot := 4, constantValue := 0 }, { name := "LATIN1", type := .byte, accessFlags := 24, slot := 5, constantValue := 0 }, { name := "UTF16", type := .byte, accessFlags := 24, slot := 6, constantValue := 0 }]
  methods := #[k7m0, k7m1, k7m2, k7m3, k7m4, k7m5, k7m6, k7m7]
  instanceTypes := #[(.array .byte), .byte, .int, .boolean]
  staticTypes := #[.long, .boolean, (.array (.object "java/io/ObjectStreamField")), .char, (.object "java/util/Comparator"), .byte, .byte]
  resolved := Array.replicate 1451 none
  statics := some 0 }

def pool8 : Array CpInfo := pool [(2, .class_ 4), (1, u "java/lang/Object"), (0, u "<init>"), (0, u "()V"), (10, .class_ 19), (1, u "com/example/rows_to_regions/rowstoregions/KeyText"), (0, u "HEX_DIGITS"), (0, u "[C"), (4, .methodref 27 28), (0, .class_ 29), (0, .nameAndType 30 31), (0, u "java/lang/String"), (0, u "length"), (0, u "()I"), (0, .methodref 27 33), (0, .nameAndType 34 35), (0, u "charAt"), (0, u "(I)C"), (0, .methodref 17 37), (0, .nameAndType 38 39), (0, u "escapedByte"), (0, u "(Ljava/lang/String;I)I"), (21, .methodref 62 63), (0, .class_ 64), (0, .nameAndType 65 66), (0, u "java/util/Arrays"), (0, u "copyOf"), (0, u "([BI)[B"), (0, .methodref 17 68), (0, .nameAndType 69 70), (0, u "hexDigit"), (0, u "(C)I"), (13, u "unescape"), (0, u "(Ljava/lang/String;)[B")] 18

def k8m0 : Method := { name := "<init>", desc := "()V", sig := { parameters := [], returnType := none }, accessFlags := 2, code := none }
def k8c1 : Code := { maxStack := 8, maxLocals := 6, code := prog_10_method_3_code, exceptionTable := #[], attributes := #[] }
def k8m1 : Method := { name := "unescape", desc := "(Ljava/lang/String;)[B", sig := { parameters := [(.object "java/lang/String")], returnType := some (.array .byte) }, accessFlags := 8, code := some k8c1 }
def k8c2 : Code := { maxStack := 3, maxLocals := 4, code := prog_10_method_4_code, exceptionTable := #[], attributes := #[] }
def k8m2 : Method := { name := "escapedByte", desc := "(Ljava/lang/String;I)I", sig := { parameters := [(.object "java/lang/String"), .int], returnType := some .int }, accessFlags := 10, code := some k8c2 }
def k8c3 : Code := { maxStack := 2, maxLocals := 1, code := prog_10_method_5_code, exceptionTable := #[], attributes := #[] }
def k8m3 : Method := { name := "hexDigit", desc := "(C)I", sig := { parameters := [.char], returnType := some .int }, accessFlags := 10, code := some k8c3 }
/-- com/example/rows_to_regions/rowstoregions/KeyText -/
def k8 : Class := { plain "com/example/rows_to_regions/rowstoregions/KeyText" (some 0) with
  accessFlags := 33
  interfaces := #[]
  cf := some (fileOf pool8 17 #[] #[{ accessFlags := 2, nameIndex := 5, descriptorIndex := 6, attributes := #[] }, { accessFlags := 8, nameIndex := 84, descriptorIndex := 85, attributes := #[] }, { accessFlags := 10, nameIndex := 38, descriptorIndex := 39, attributes := #[] }, { accessFlags := 10, nameIndex := 69, descriptorIndex := 70, attributes := #[] }] 33 2 #[] #[{ accessFlags := 26, nameIndex := 20, descriptorIndex := 21, attributes := #[] }])
  fields := #[{ name := "HEX_DIGITS", type := (.array .char), accessFlags := 26, slot := 0, constantValue := 0 }]
  methods := #[k8m0, k8m1, k8m2, k8m3]
  instanceTypes := #[]
  staticTypes := #[(.array .char)]
  resolved := Array.replicate 104 none
  statics := none }

def pool9 : Array CpInfo := pool [(2, .class_ 4), (1, u "java/lang/Object"), (0, u "<init>"), (0, u "()V"), (7, .class_ 16), (1, u "java/util/Arrays"), (57, .class_ 76), (1, u "java/util/Arrays$NaturalOrder"), (32, u "()Ljava/lang/Object;"), (3, .class_ 115), (1, u "java/util/Arrays$LegacyMergeSort"), (1, u "Z"), (10, .nameAndType 129 109), (0, u "clone"), (20, .methodref 151 152), (0, .class_ 153), (0, .nameAndType 154 155), (0, u "java/lang/System"), (0, u "arraycopy"), (0, u "(Ljava/lang/Object;ILjava/lang/Object;II)V"), (146, u "copyOf"), (1, .methodref 305 306), (0, .class_ 307), (0, .nameAndType 308 309), (0, u "java/lang/Math"), (0, u "min"), (0, u "(II)I"), (0, .methodref 311 128), (0, .class_ 312), (0, u "[B"), (62, .class_ 376), (0, u "java/util/Arrays$ArrayList"), (68, u "$assertionsDisabled"), (269, u "MIN_ARRAY_SORT_GRAN"), (0, u "I"), (2, u "INSERTIONSORT_THRESHOLD"), (149, u "([BI)[B"), (105, .class_ 976), (0, u "java/util/Arrays$ArrayItr")] 52

def k9m0 : Method := { name := "<init>", desc := "()V", sig := { parameters := [], returnType := none }, accessFlags := 2, code := none }
def k9c1 : Code := { maxStack := 6, maxLocals := 3, code := jdk_65_method_121_code, exceptionTable := #[], attributes := #[] }
def k9m1 : Method := { name := "copyOf", desc := "([BI)[B", sig := { parameters := [(.array .byte), .int], returnType := some (.array .byte) }, accessFlags := 9, code := some k9c1 }
/-- java/util/Arrays -/
def k9 : Class := { plain "java/util/Arrays" (some 0) with
  accessFlags := 49
  interfaces := #[]
  cf := some (fileOf pool9 14 #[.nestMembers #[975, 375, 113, 74]] #[{ accessFlags := 2, nameIndex := 5, descriptorIndex := 6, attributes := #[] }, { accessFlags := 9, nameIndex := 302, descriptorIndex := 869, attributes := #[] }] 49 2 #[] #[{ accessFlags := 26, nameIndex := 715, descriptorIndex := 716, attributes := #[] }, { accessFlags := 26, nameIndex := 719, descriptorIndex := 716, attributes := #[] }, { accessFlags := 4120, nameIndex := 445, descriptorIndex := 117, attributes := #[] }])
  fields := #[{ name := "MIN_ARRAY_SORT_GRAN", type := .int, accessFlags := 26, slot := 0, constantValue := 0 }, { name := "INSERTIONSORT_THRESHOLD", type := .int, accessFlags := 26, slot := 1, constantValue := 0 }, { name := "$assertionsDisabled", type := .boolean, accessFlags := 4120, slot := 2, constantValue := 0 }]
  methods := #[k9m0, k9m1]
  instanceTypes := #[]
  staticTypes := #[.int, .int, .boolean]
  resolved := Array.replicate 1029 none
  statics := none }

def pool10 : Array CpInfo := pool [(1, .class_ 2), (0, u "java/lang/Cloneable"), (0, .class_ 4), (0, u "java/lang/Object")] 2

/-- java/lang/Cloneable -/
def k10 : Class := { plain "java/lang/Cloneable" (some 0) with
  accessFlags := 1537
  interfaces := #[]
  cf := some (fileOf pool10 1 #[] #[] 1537 3 #[] #[])
  fields := #[]
  methods := #[]
  instanceTypes := #[]
  staticTypes := #[]
  resolved := Array.replicate 7 none
  statics := none }

def pool11 : Array CpInfo := pool [(6, .class_ 8), (1, u "java/lang/Object"), (0, u "<init>"), (0, u "()V"), (1, .class_ 14), (1, u "java/lang/StringUTF16"), (31, u "$assertionsDisabled"), (0, u "Z"), (13, u "HI_BYTE_SHIFT"), (0, u "I"), (2, u "LO_BYTE_SHIFT"), (49, .methodref 12 116), (0, .nameAndType 117 118), (0, u "compress"), (0, u "([CI[BII)I"), (3, u "([CII)[B"), (138, u "coderFromArrayLen"), (0, u "([BI)B"), (106, .class_ 371), (1, u "java/lang/StringUTF16$LinesSpliterator"), (58, u "MAX_LENGTH"), (196, .class_ 628), (0, u "java/lang/StringUTF16$CodePointsSpliterator"), (0, .class_ 630), (0, u "java/lang/StringUTF16$CharsSpliterator")] 4

def k11m0 : Method := { name := "<init>", desc := "()V", sig := { parameters := [], returnType := none }, accessFlags := 0, code := none }
def k11c1 : Code := { maxStack := 2, maxLocals := 2, code := jdk_52_method_15_code, exceptionTable := #[], attributes := #[] }
def k11m1 : Method := { name := "coderFromArrayLen", desc := "([BI)B", sig := { parameters := [(.array .byte), .int], returnType := some .byte }, accessFlags := 8, code := some k11c1 }
def k11c2 : Code := { maxStack := 5, maxLocals := 6, code := jdk_52_method_16_code, exceptionTable := #[], attributes := #[] }
def k11m2 : Method := { name := "compress", desc := "([CII)[B", sig := { parameters := [(.array .char), .int, .int], returnType := some (.array .byte) }, accessFlags := 9, code := some k11c2 }
def k11c3 : Code := { maxStack := 3, maxLocals := 7, code := jdk_52_method_21_code, exceptionTable := #[], attributes := #[] }
def k11m3 : Method := { name := "compress", desc := "([CI[BII)I", sig := { parameters := [(.array .char), .int, (.array .byte), .int, .int], returnType := some .int }, accessFlags := 9, code := some k11c3 }
/-- java/lang/StringUTF16 -/
def k11 : Class := { plain "java/lang/StringUTF16" (some 0) with
  accessFlags := 48
  interfaces := #[]
  cf := some (fileOf pool11 12 #[.nestMembers #[627, 629, 369]] #[{ accessFlags := 0, nameIndex := 9, descriptorIndex := 10, attributes := #[] }, { accessFlags := 8, nameIndex := 261, descriptorIndex := 262, attributes := #[] }, { accessFlags := 9, nameIndex := 117, descriptorIndex := 122, attributes := #[] }, { accessFlags := 9, nameIndex := 117, descriptorIndex := 118, attributes := #[] }] 48 6 #[] #[{ accessFlags := 26, nameIndex := 61, descriptorIndex := 62, attributes := #[] }, { accessFlags := 26, nameIndex := 65, descriptorIndex := 62, attributes := #[] }, { accessFlags := 24, nameIndex := 430, descriptorIndex := 62, attributes := #[] }, { accessFlags := 4120, nameIndex := 46, descriptorIndex := 47, attributes := #[] }])
  fields := #[{ name := "HI_BYTE_SHIFT", type := .int, accessFlags := 26, slot := 0, constantValue := 0 }, { name := "LO_BYTE_SHIFT", type := .int, accessFlags := 26, slot := 1, constantValue := 0 }, { name := "MAX_LENGTH", type := .int, accessFlags := 24, slot := 2, constantValue := 0 }, { name := "$assertionsDisabled", type := .boolean, accessFlags := 4120, slot := 3, constantValue := 0 }]
  methods := #[k11m0, k11m1, k11m2, k11m3]
  instanceTypes := #[]
  staticTypes := #[.int, .int, .int, .boolean]
  resolved := Array.replicate 635 none
  statics := none }

def pool12 : Array CpInfo := pool [(1, .class_ 2), (0, u "java/lang/String"), (1, .class_ 6), (1, u "java/lang/Object"), (0, u "<init>"), (0, u "()V"), (0, .methodref 1 10), (0, .nameAndType 11 12), (0, u "checkIndex"), (0, u "(II)V"), (1, .class_ 16), (1, u "java/lang/StringLatin1"), (36, u "([BI)C"), (67, u "$assertionsDisabled"), (0, u "Z"), (98, .class_ 223), (1, u "java/lang/StringLatin1$LinesSpliterator"), (28, u "charAt"), (137, .class_ 391), (0, u "java/lang/StringLatin1$CharsSpliterator")] 3

def k12m0 : Method := { name := "<init>", desc := "()V", sig := { parameters := [], returnType := none }, accessFlags := 0, code := none }
def k12c1 : Code := { maxStack := 2, maxLocals := 2, code := jdk_43_method_2_code, exceptionTable := #[], attributes := #[] }
def k12m1 : Method := { name := "charAt", desc := "([BI)C", sig := { parameters := [(.array .byte), .int], returnType := some .char }, accessFlags := 9, code := some k12c1 }
/-- java/lang/StringLatin1 -/
def k12 : Class := { plain "java/lang/StringLatin1" (some 0) with
  accessFlags := 48
  interfaces := #[]
  cf := some (fileOf pool12 14 #[.nestMembers #[390, 221]] #[{ accessFlags := 0, nameIndex := 7, descriptorIndex := 8, attributes := #[] }, { accessFlags := 9, nameIndex := 252, descriptorIndex := 53, attributes := #[] }] 48 4 #[] #[{ accessFlags := 4120, nameIndex := 121, descriptorIndex := 122, attributes := #[] }])
  fields := #[{ name := "$assertionsDisabled", type := .boolean, accessFlags := 4120, slot := 0, constantValue := 0 }]
  methods := #[k12m0, k12m1]
  instanceTypes := #[]
  staticTypes := #[.boolean]
  resolved := Array.replicate 395 none
  statics := none }

def pool13 : Array CpInfo := pool [(2, .class_ 4), (1, u "java/lang/Object"), (0, u "<init>"), (0, u "()V"), (17, .class_ 26), (1, u "jdk/internal/util/Preconditions"), (6, u "checkIndex"), (21, .class_ 56), (0, u "jdk/internal/util/Preconditions$4"), (57, .class_ 115), (0, u "jdk/internal/util/Preconditions$1"), (7, u "SIOOBE_FORMATTER"), (0, u "Ljava/util/function/BiFunction;"), (0, .class_ 126), (0, u "jdk/internal/util/Preconditions$2"), (3, u "AIOOBE_FORMATTER"), (0, .class_ 132), (0, u "jdk/internal/util/Preconditions$3"), (3, u "IOOBE_FORMATTER"), (41, u "(IILjava/util/function/BiFunction;)I")] 15

def k13m0 : Method := { name := "<init>", desc := "()V", sig := { parameters := [], returnType := none }, accessFlags := 1, code := none }
def k13c1 : Code := { maxStack := 3, maxLocals := 3, code := jdk_41_method_11_code, exceptionTable := #[], attributes := #[] }
def k13m1 : Method := { name := "checkIndex", desc := "(IILjava/util/function/BiFunction;)I", sig := { parameters := [.int, .int, (.object "java/util/function/BiFunction")], returnType := some .int }, accessFlags := 9, code := some k13c1 }
/-- jdk/internal/util/Preconditions -/
def k13 : Class := { plain "jdk/internal/util/Preconditions" (some 0) with
  accessFlags := 33
  interfaces := #[]
  cf := some (fileOf pool13 24 #[.nestMembers #[55, 131, 125, 114]] #[{ accessFlags := 1, nameIndex := 5, descriptorIndex := 6, attributes := #[] }, { accessFlags := 9, nameIndex := 33, descriptorIndex := 178, attributes := #[] }] 33 2 #[] #[{ accessFlags := 25, nameIndex := 123, descriptorIndex := 124, attributes := #[] }, { accessFlags := 25, nameIndex := 130, descriptorIndex := 124, attributes := #[] }, { accessFlags := 25, nameIndex := 136, descriptorIndex := 124, attributes := #[] }])
  fields := #[{ name := "SIOOBE_FORMATTER", type := (.object "java/util/function/BiFunction"), accessFlags := 25, slot := 0, constantValue := 0 }, { name := "AIOOBE_FORMATTER", type := (.object "java/util/function/BiFunction"), accessFlags := 25, slot := 1, constantValue := 0 }, { name := "IOOBE_FORMATTER", type := (.object "java/util/function/BiFunction"), accessFlags := 25, slot := 2, constantValue := 0 }]
  methods := #[k13m0, k13m1]
  instanceTypes := #[]
  staticTypes := #[(.object "java/util/function/BiFunction"), (.object "java/util/function/BiFunction"), (.object "java/util/function/BiFunction")]
  resolved := Array.replicate 194 none
  statics := some 1 }

def pool14 : Array CpInfo := pool [(1, .class_ 2), (0, u "java/lang/Math"), (1, .class_ 6), (1, u "java/lang/Object"), (0, u "<init>"), (0, u "()V"), (89, .class_ 100), (1, u "java/lang/Math$RandomNumberGeneratorHolder"), (71, u "negativeZeroFloatBits"), (0, u "J"), (2, u "negativeZeroDoubleBits"), (24, u "min"), (43, u "$assertionsDisabled"), (0, u "Z"), (88, u "(II)I"), (2, u "twoToTheDoubleScaleDown"), (0, u "D"), (4, u "twoToTheDoubleScaleUp"), (9, u "E"), (3, u "PI"), (2, u "TAU"), (2, u "DEGREES_TO_RADIANS"), (0, u "RADIANS_TO_DEGREES")] 94

def k14m0 : Method := { name := "<init>", desc := "()V", sig := { parameters := [], returnType := none }, accessFlags := 2, code := none }
def k14c1 : Code := { maxStack := 2, maxLocals := 2, code := jdk_29_method_69_code, exceptionTable := #[], attributes := #[] }
def k14m1 : Method := { name := "min", desc := "(II)I", sig := { parameters := [.int, .int], returnType := some .int }, accessFlags := 9, code := some k14c1 }
/-- java/lang/Math -/
def k14 : Class := { plain "java/lang/Math" (some 0) with
  accessFlags := 49
  interfaces := #[]
  cf := some (fileOf pool14 1 #[.nestMembers #[98]] #[{ accessFlags := 2, nameIndex := 7, descriptorIndex := 8, attributes := #[] }, { accessFlags := 9, nameIndex := 201, descriptorIndex := 335, attributes := #[] }] 49 4 #[] #[{ accessFlags := 25, nameIndex := 354, descriptorIndex := 339, attributes := #[] }, { accessFlags := 25, nameIndex := 358, descriptorIndex := 339, attributes := #[] }, { accessFlags := 25, nameIndex := 361, descriptorIndex := 339, attributes := #[] }, { accessFlags := 26, nameIndex := 364, descriptorIndex := 339, attributes := #[] }, { accessFlags := 26, nameIndex := 365, descriptorIndex := 339, attributes := #[] }, { accessFlags := 26, nameIndex := 172, descriptorIndex := 173, attributes := #[] }, { accessFlags := 26, nameIndex := 176, descriptorIndex := 173, attributes := #[] }, { accessFlags := 8, nameIndex := 344, descriptorIndex := 339, attributes := #[] }, { accessFlags := 8, nameIndex := 338, descriptorIndex := 339, attributes := #[] }, { accessFlags := 4120, nameIndex := 245, descriptorIndex := 246, attributes := #[] }])
  fields := #[{ name := "E", type := .double, accessFlags := 25, slot := 0, constantValue := 0 }, { name := "PI", type := .double, accessFlags := 25, slot := 1, constantValue := 0 }, { name := "TAU", type := .double, accessFlags := 25, slot := 2, constantValue := 0 }, { name := "DEGREES_TO_RADIANS", type := .double, accessFlags := 26, slot := 3, constantValue := 0 }, { name := "RADIANS_TO_DEGREES", type := .double, accessFlags := 26, slot := 4, constantValue := 0 }, { name := "negativeZeroFloatBits", type := .long, accessFlags := 26, slot := 5, constantValue := 0 }, { name := "negativeZeroDoubleBits", type := .long, accessFlags := 26, slot := 6, constantValue := 0 }, { name := "twoToTheDoubleScaleUp", type := .double, accessFlags := 8, slot := 7, constantValue := 0 }, { name := "twoToTheDoubleScaleDown", type := .double, accessFlags := 8, slot := 8, constantValue := 0 }, { name := "$assertionsDisabled", type := .boolean, accessFlags := 4120, slot := 9, constantValue := 0 }]
  methods := #[k14m0, k14m1]
  instanceTypes := #[]
  staticTypes := #[.double, .double, .double, .double, .double, .long, .long, .double, .double, .boolean]
  resolved := Array.replicate 460 none
  statics := none }

def pool15 : Array CpInfo := pool [(2, .class_ 4), (1, u "java/lang/Object"), (0, u "<init>"), (0, u "()V"), (1, .class_ 10), (1, u "java/lang/System"), (0, u "allowSecurityManager"), (0, u "I"), (16, u "cons"), (0, u "Ljava/io/Console;"), (77, .class_ 110), (1, u "java/lang/System$CallersHolder"), (43, u "initialErrStream"), (0, u "Ljava/io/PrintStream;"), (19, u "security"), (0, u "Ljava/lang/SecurityManager;"), (31, .class_ 209), (0, u "java/lang/System$1"), (7, u "props"), (0, u "Ljava/util/Properties;"), (2, u "lineSeparator"), (0, u "Ljava/lang/String;"), (96, .class_ 321), (1, u "java/lang/System$LoggerFinder"), (5, .class_ 328), (0, u "java/lang/System$Logger"), (67, u "err"), (2, u "out"), (91, u "notSupportedJnuEncoding"), (15, u "in"), (17, u "initialIn"), (0, u "Ljava/io/InputStream;"), (35, u "bootLayer"), (0, u "Ljava/lang/ModuleLayer;"), (99, .class_ 664), (0, u "java/lang/System$2"), (9, u "NEVER"), (2, u "MAYBE"), (49, u "arraycopy"), (0, u "(Ljava/lang/Object;ILjava/lang/Object;II)V"), (72, .class_ 802), (0, u "java/lang/System$Logger$Level")] 31

def k15m0 : Method := { name := "<init>", desc := "()V", sig := { parameters := [], returnType := none }, accessFlags := 2, code := none }
def k15m1 : Method := { name := "arraycopy", desc := "(Ljava/lang/Object;ILjava/lang/Object;II)V", sig := { parameters := [(.object "java/lang/Object"), .int, (.object "java/lang/Object"), .int, .int], returnType := none }, accessFlags := 265, code := none }
/-- java/lang/System -/
def k15 : Class := { plain "java/lang/System" (some 0) with
  accessFlags := 49
  interfaces := #[]
  cf := some (fileOf pool15 8 #[.nestMembers #[319, 327, 801, 108, 663, 208]] #[{ accessFlags := 2, nameIndex := 5, descriptorIndex := 6, attributes := #[] }, { accessFlags := 265, nameIndex := 727, descriptorIndex := 728, attributes := #[] }] 49 2 #[] #[{ accessFlags := 25, nameIndex := 507, descriptorIndex := 526, attributes := #[] }, { accessFlags := 25, nameIndex := 399, descriptorIndex := 155, attributes := #[] }, { accessFlags := 25, nameIndex := 396, descriptorIndex := 155, attributes := #[] }, { accessFlags := 10, nameIndex := 525, descriptorIndex := 526, attributes := #[] }, { accessFlags := 26, nameIndex := 674, descriptorIndex := 12, attributes := #[] }, { accessFlags := 26, nameIndex := 677, descriptorIndex := 12, attributes := #[] }, { accessFlags := 10, nameIndex := 11, descriptorIndex := 12, attributes := #[] }, { accessFlags := 74, nameIndex := 175, descriptorIndex := 176, attributes := #[] }, { accessFlags := 10, nameIndex := 491, descriptorIndex := 222, attributes := #[] }, { accessFlags := 74, nameIndex := 29, descriptorIndex := 30, attributes := #[] }, { accessFlags := 74, nameIndex := 154, descriptorIndex := 155, attributes := #[] }, { accessFlags := 10, nameIndex := 217, descriptorIndex := 218, attributes := #[] }, { accessFlags := 10, nameIndex := 221, descriptorIndex := 222, attributes := #[] }, { accessFlags := 8, nameIndex := 562, descriptorIndex := 563, attributes := #[] }])
  fields := #[{ name := "in", type := (.object "java/io/InputStream"), accessFlags := 25, slot := 0, constantValue := 0 }, { name := "out", type := (.object "java/io/PrintStream"), accessFlags := 25, slot := 1, constantValue := 0 }, { name := "err", type := (.object "java/io/PrintStream"), accessFlags := 25, slot := 2, constantValue := 0 }, { name := "initialIn", type := (.object "java/io/InputStream"), accessFlags := 10, slot := 3, constantValue := 0 }, { name := "NEVER", type := .int, accessFlags := 26, slot := 4, constantValue := 0 }, { name := "MAYBE", type := .int, accessFlags := 26, slot := 5, constantValue := 0 }, { name := "allowSecurityManager", type := .int, accessFlags := 10, slot := 6, constantValue := 0 }, { name := "security", type := (.object "java/lang/SecurityManager"), accessFlags := 74, slot := 7, constantValue := 0 }, { name := "notSupportedJnuEncoding", type := (.object "java/lang/String"), accessFlags := 10, slot := 8, constantValue := 0 }, { name := "cons", type := (.object "java/io/Console"), accessFlags := 74, slot := 9, constantValue := 0 }, { name := "initialErrStream", type := (.object "java/io/PrintStream"), accessFlags := 74, slot := 10, constantValue := 0 }, { name := "props", type := (.object "java/util/Properties"), accessFlags := 10, slot := 11, constantValue := 0 }, { name := "lineSeparator", type := (.object "java/lang/String"), accessFlags := 10, slot := 12, constantValue := 0 }, { name := "bootLayer", type := (.object "java/lang/ModuleLayer"), accessFlags := 8, slot := 13, constantValue := 0 }]
  methods := #[k15m0, k15m1]
  instanceTypes := #[]
  staticTypes := #[(.object "java/io/InputStream"), (.object "java/io/PrintStream"), (.object "java/io/PrintStream"), (.object "java/io/InputStream"), .int, .int, .int, (.object "java/lang/SecurityManager"), (.object "java/lang/String"), (.object "java/io/Console"), (.object "java/io/PrintStream"), (.object "java/util/Properties"), (.object "java/lang/String"), (.object "java/lang/ModuleLayer")]
  resolved := Array.replicate 834 none
  statics := none }

def pool16 : Array CpInfo := pool [(9, u "<init>"), (6, .class_ 18), (1, u "java/lang/Object"), (0, u "()V"), (1, .class_ 23), (1, u "jdk/internal/util/ArraysSupport"), (0, u "LOG2_ARRAY_LONG_INDEX_SCALE"), (0, u "I"), (2, u "U"), (0, u "Ljdk/internal/misc/Unsafe;"), (8, u "BIG_ENDIAN"), (0, u "Z"), (8, u "LOG2_BYTE_BIT_SIZE"), (4, u "LOG2_ARRAY_INT_INDEX_SCALE"), (54, u "JLA"), (0, u "Ljdk/internal/access/JavaLangAccess;"), (11, u "LOG2_ARRAY_BOOLEAN_INDEX_SCALE"), (9, u "LOG2_ARRAY_BYTE_INDEX_SCALE"), (5, u "LOG2_ARRAY_CHAR_INDEX_SCALE"), (5, u "LOG2_ARRAY_SHORT_INDEX_SCALE"), (18, u "LOG2_ARRAY_FLOAT_INDEX_SCALE"), (24, u "LOG2_ARRAY_DOUBLE_INDEX_SCALE"), (89, u "T_BOOLEAN"), (2, u "T_CHAR"), (1, u "T_FLOAT"), (1, u "T_DOUBLE"), (1, u "T_BYTE"), (1, u "T_SHORT"), (1, u "T_INT"), (1, u "T_LONG"), (1, u "SOFT_MAX_ARRAY_LENGTH")] 83

def k16m0 : Method := { name := "<init>", desc := "()V", sig := { parameters := [], returnType := none }, accessFlags := 2, code := none }
/-- jdk/internal/util/ArraysSupport -/
def k16 : Class := { plain "jdk/internal/util/ArraysSupport" (some 0) with
  accessFlags := 33
  interfaces := #[]
  cf := some (fileOf pool16 21 #[] #[{ accessFlags := 2, nameIndex := 9, descriptorIndex := 19, attributes := #[] }] 33 16 #[] #[{ accessFlags := 24, nameIndex := 28, descriptorIndex := 29, attributes := #[] }, { accessFlags := 26, nameIndex := 38, descriptorIndex := 39, attributes := #[] }, { accessFlags := 25, nameIndex := 121, descriptorIndex := 25, attributes := #[] }, { accessFlags := 25, nameIndex := 131, descriptorIndex := 25, attributes := #[] }, { accessFlags := 25, nameIndex := 137, descriptorIndex := 25, attributes := #[] }, { accessFlags := 25, nameIndex := 143, descriptorIndex := 25, attributes := #[] }, { accessFlags := 25, nameIndex := 53, descriptorIndex := 25, attributes := #[] }, { accessFlags := 25, nameIndex := 24, descriptorIndex := 25, attributes := #[] }, { accessFlags := 25, nameIndex := 162, descriptorIndex := 25, attributes := #[] }, { accessFlags := 25, nameIndex := 187, descriptorIndex := 25, attributes := #[] }, { accessFlags := 26, nameIndex := 48, descriptorIndex := 25, attributes := #[] }, { accessFlags := 25, nameIndex := 277, descriptorIndex := 25, attributes := #[] }, { accessFlags := 25, nameIndex := 280, descriptorIndex := 25, attributes := #[] }, { accessFlags := 25, nameIndex := 282, descriptorIndex := 25, attributes := #[] }, { accessFlags := 25, nameIndex := 284, descriptorIndex := 25, attributes := #[] }, { accessFlags := 25, nameIndex := 286, descriptorIndex := 25, attributes := #[] }, { accessFlags := 25, nameIndex := 288, descriptorIndex := 25, attributes := #[] }, { accessFlags := 25, nameIndex := 290, descriptorIndex := 25, attributes := #[] }, { accessFlags := 25, nameIndex := 292, descriptorIndex := 25, attributes := #[] }, { accessFlags := 26, nameIndex := 108, descriptorIndex := 109, attributes := #[] }, { accessFlags := 25, nameIndex := 294, descriptorIndex := 25, attributes := #[] }])
  fields := #[{ name := "U", type := (.object "jdk/internal/misc/Unsafe"), accessFlags := 24, slot := 0, constantValue := 0 }, { name := "BIG_ENDIAN", type := .boolean, accessFlags := 26, slot := 1, constantValue := 0 }, { name := "LOG2_ARRAY_BOOLEAN_INDEX_SCALE", type := .int, accessFlags := 25, slot := 2, constantValue := 0 }, { name := "LOG2_ARRAY_BYTE_INDEX_SCALE", type := .int, accessFlags := 25, slot := 3, constantValue := 0 }, { name := "LOG2_ARRAY_CHAR_INDEX_SCALE", type := .int, accessFlags := 25, slot := 4, constantValue := 0 }, { name := "LOG2_ARRAY_SHORT_INDEX_SCALE", type := .int, accessFlags := 25, slot := 5, constantValue := 0 }, { name := "LOG2_ARRAY_INT_INDEX_SCALE", type := .int, accessFlags := 25, slot := 6, constantValue := 0 }, { name := "LOG2_ARRAY_LONG_INDEX_SCALE", type := .int, accessFlags := 25, slot := 7, constantValue := 0 }, { name := "LOG2_ARRAY_FLOAT_INDEX_SCALE", type := .int, accessFlags := 25, slot := 8, constantValue := 0 }, { name := "LOG2_ARRAY_DOUBLE_INDEX_SCALE", type := .int, accessFlags := 25, slot := 9, constantValue := 0 }, { name := "LOG2_BYTE_BIT_SIZE", type := .int, accessFlags := 26, slot := 10, constantValue := 0 }, { name := "T_BOOLEAN", type := .int, accessFlags := 25, slot := 11, constantValue := 0 }, { name := "T_CHAR", type := .int, accessFlags := 25, slot := 12, constantValue := 0 }, { name := "T_FLOAT", type := .int, accessFlags := 25, slot := 13, constantValue := 0 }, { name := "T_DOUBLE", type := .int, accessFlags := 25, slot := 14, constantValue := 0 }, { name := "T_BYTE", type := .int, accessFlags := 25, slot := 15, constantValue := 0 }, { name := "T_SHORT", type := .int, accessFlags := 25, slot := 16, constantValue := 0 }, { name := "T_INT", type := .int, accessFlags := 25, slot := 17, constantValue := 0 }, { name := "T_LONG", type := .int, accessFlags := 25, slot := 18, constantValue := 0 }, { name := "JLA", type := (.object "jdk/internal/access/JavaLangAccess"), accessFlags := 26, slot := 19, constantValue := 0 }, { name := "SOFT_MAX_ARRAY_LENGTH", type := .int, accessFlags := 25, slot := 20, constantValue := 0 }]
  methods := #[k16m0]
  instanceTypes := #[]
  staticTypes := #[(.object "jdk/internal/misc/Unsafe"), .boolean, .int, .int, .int, .int, .int, .int, .int, .int, .int, .int, .int, .int, .int, .int, .int, .int, .int, (.object "jdk/internal/access/JavaLangAccess"), .int]
  resolved := Array.replicate 378 none
  statics := none }

/-- the primitive byte -/
def k17 : Class := { plain "byte" none with kind := .primitive 'B', accessFlags := 0x411 }
/-- [B -/
def k18 : Class := { plain "[B" (some 0) with kind := .array 17 .byte, interfaces := #[10, 2], accessFlags := 1041 }

/-- the primitive char -/
def k19 : Class := { plain "char" none with kind := .primitive 'C', accessFlags := 0x411 }
/-- [C -/
def k20 : Class := { plain "[C" (some 0) with kind := .array 19 .char, interfaces := #[10, 2], accessFlags := 1041 }

/-- the primitive int -/
def k21 : Class := { plain "int" none with kind := .primitive 'I', accessFlags := 0x411 }
/-- [I -/
def k22 : Class := { plain "[I" (some 0) with kind := .array 21 .int, interfaces := #[10, 2], accessFlags := 1041 }

def heap : Heap := #[{ cls := 7, slots := #[.long 0, .int 1, .null, .int 0, .null, .int 0, .int 0], vm := .statics 7 },
  { cls := 13, slots := #[.null, .null, .null], vm := .statics 13 }]
def classes : Array Class := #[k0, k1, k2, k3, k4, k5, k6, k7, k8, k9, k10, k11, k12, k13, k14, k15, k16, k17, k18, k19, k20, k21, k22]
def interned : List (Array UInt16 × Addr) := []
def slotsUsed : Nat := 10
def theMethod : MethodId := ⟨1, 1⟩
def args0 : Array Value := #[.int 11, .int 5, .int 92, .int 3]
def aboutOver (below : List Frame) : State where
  vm := { classes := classes, interned := interned.toArray }
  heap := heap
  slotsUsed := slotsUsed
  threads := #[{ frames := .invoking theMethod args0 :: below }]
def below0 : List Frame := [.native { method := ⟨0, 0⟩, args := #[] }]
def about1 : State := aboutOver below0
def p0 : Program := .bare "" "" ""
def e0 : Env := launch0.env 0 0 0
theorem w_frames : about1.frames = Frame.invoking theMethod args0 :: below0 := rfl
set_option maxRecDepth 65536 in
theorem w_args : argsFit about1.vm theMethod args0 = true := by decide +kernel
set_option maxRecDepth 65536 in
theorem w_heap : heapFits about1 = true := by decide +kernel
set_option maxRecDepth 65536 in
theorem w_runnable : about1.curStatus? = some .runnable := by decide +kernel
set_option maxRecDepth 65536 in
theorem w_alone : about1.alone = true := by decide +kernel
set_option maxRecDepth 65536 in
theorem w_named : about1.methodNamed? x = some theMethod := by decide +kernel
set_option maxRecDepth 65536 in
theorem w_hears : about1.hears theMethod below0 = true := by decide +kernel
set_option maxRecDepth 65536 in
theorem w_ripe : about1.ripe theMethod args0 below0 = true := by decide +kernel
theorem w_running : about1.status = .running := rfl
set_option maxRecDepth 65536 in
theorem w_room : about1.hasRoom e0.platform room_1 = true :=
  launch0.hasRoom_least _ room_1 (by decide +kernel) (by decide +kernel) (by decide +kernel) (by decide +kernel) (by decide +kernel) (by decide +kernel)
theorem allAtoms_all (ts : List Jvm.Cond) (a : Array Jvm.Value) (st : Jvm.State) : (allAtoms ts).before a st = ts.all (fun c => c.before a st) := by
  induction ts with
  | nil => rfl
  | cons c t ih =>
    show (Jvm.Cond.and c (allAtoms t)).before a st = _
    rw [Jvm.Cond.before_and, ih, List.all_cons]
def words1 : List Jvm.Cond := Jvm.Cond.code x code maxLocals ret :: tables_1
/-- a 'code' word, met by the world's own term for the bytes: nothing is compared byte by byte -/
theorem code_word {y : MethodName} {bytes : ByteArray} {mx : Nat} {rt : Option FieldType} {a : Array Value} {s : State} {m : MethodId} {meth : Method} {c : Code} (h1 : s.methodNamed? y = some m) (h2 : s.vm.method? m = some meth) (h3 : meth.code = some c) (h4 : c.code = bytes)
    (h5 : (c.maxLocals == mx && c.exceptionTable.isEmpty && decide (c.maxStack ≤ mostOperands) && decide (meth.sig.returnType = rt) && !meth.locks && decide (parseMethodDescriptor y.desc = some meth.sig)) = true) : (Jvm.Cond.code y bytes mx rt).before a s = true := by
  simp only [Bool.and_eq_true, beq_iff_eq, Bool.not_eq_true', decide_eq_true_eq] at h5
  obtain ⟨⟨⟨⟨⟨g1, g2⟩, g3⟩, g4⟩, g5⟩, g6⟩ := h5
  simp [Cond.before, Cond.holds, Cond.value, h1, h2, h3, h4, g1, g2, g3, g4, g5, g6]
def isCode : Jvm.Cond → Bool
  | .code _ _ _ _ => true
  | _ => false
theorem all_split {L : List Jvm.Cond} {P : Jvm.Cond → Bool} (h1 : L.all (fun c => isCode c || P c) = true) (h2 : ∀ c ∈ L.filter isCode, P c = true) : L.all P = true := by
  refine List.all_eq_true.mpr fun c hc => ?_
  have h := List.all_eq_true.mp h1 c hc
  rcases Bool.eq_false_or_eq_true (isCode c) with hi | hi
  · exact h2 c (List.mem_filter.mpr ⟨hc, hi⟩)
  · simpa [hi] using h
set_option maxRecDepth 65536 in
theorem w_c0 : (Jvm.Cond.code x code maxLocals ret).before args0 about1 = true := code_word (m := ⟨1, 1⟩) (meth := k1m1) (c := k1c1) (by decide +kernel) rfl rfl rfl (by decide +kernel)
set_option maxRecDepth 65536 in
theorem w_c1 : (Jvm.Cond.code ({ cls := "com/example/rows_to_regions/rowstoregions/KeyTextUnescapePinLaw", name := "width", desc := "(ZZ)I" } : Jvm.MethodName) method_3_code (2 : Nat) (Option.some Jvm.ClassFile.FieldType.int)).before args0 about1 = true := code_word (m := ⟨1, 2⟩) (meth := k1m2) (c := k1c2) (by decide +kernel) rfl rfl rfl (by decide +kernel)
set_option maxRecDepth 65536 in
theorem w_c2 : (Jvm.Cond.code ({ cls := "com/example/rows_to_regions/rowstoregions/KeyTextUnescapePinLaw", name := "put", desc := "([CIZZI)I" } : Jvm.MethodName) method_6_code (6 : Nat) (Option.some Jvm.ClassFile.FieldType.int)).before args0 about1 = true := code_word (m := ⟨1, 5⟩) (meth := k1m5) (c := k1c5) (by decide +kernel) rfl rfl rfl (by decide +kernel)
set_option maxRecDepth 65536 in
theorem w_c3 : (Jvm.Cond.code ({ cls := "java/lang/String", name := "<init>", desc := "([C)V" } : Jvm.MethodName) jdk_42_method_3_code (2 : Nat) (Option.none : Option Jvm.ClassFile.FieldType)).before args0 about1 = true := code_word (m := ⟨7, 1⟩) (meth := k7m1) (c := k7c1) (by decide +kernel) rfl rfl rfl (by decide +kernel)
set_option maxRecDepth 65536 in
theorem w_c4 : (Jvm.Cond.code ({ cls := "java/lang/String", name := "<init>", desc := "([CIILjava/lang/Void;)V" } : Jvm.MethodName) jdk_42_method_149_code (6 : Nat) (Option.none : Option Jvm.ClassFile.FieldType)).before args0 about1 = true := code_word (m := ⟨7, 4⟩) (meth := k7m4) (c := k7c4) (by decide +kernel) rfl rfl rfl (by decide +kernel)
set_option maxRecDepth 65536 in
theorem w_c5 : (Jvm.Cond.code ({ cls := "java/lang/Object", name := "<init>", desc := "()V" } : Jvm.MethodName) object_method_1_code (1 : Nat) (Option.none : Option Jvm.ClassFile.FieldType)).before args0 about1 = true := code_word (m := ⟨0, 0⟩) (meth := k0m0) (c := k0c0) (by decide +kernel) rfl rfl rfl (by decide +kernel)
set_option maxRecDepth 65536 in
theorem w_c6 : (Jvm.Cond.code ({ cls := "com/example/rows_to_regions/rowstoregions/KeyText", name := "unescape", desc := "(Ljava/lang/String;)[B" } : Jvm.MethodName) prog_10_method_3_code (6 : Nat) (Option.some (Jvm.ClassFile.FieldType.array Jvm.ClassFile.FieldType.byte))).before args0 about1 = true := code_word (m := ⟨8, 1⟩) (meth := k8m1) (c := k8c1) (by decide +kernel) rfl rfl rfl (by decide +kernel)
set_option maxRecDepth 65536 in
theorem w_c7 : (Jvm.Cond.code ({ cls := "java/lang/String", name := "length", desc := "()I" } : Jvm.MethodName) jdk_42_method_54_code (1 : Nat) (Option.some Jvm.ClassFile.FieldType.int)).before args0 about1 = true := code_word (m := ⟨7, 2⟩) (meth := k7m2) (c := k7c2) (by decide +kernel) rfl rfl rfl (by decide +kernel)
set_option maxRecDepth 65536 in
theorem w_c8 : (Jvm.Cond.code ({ cls := "java/lang/String", name := "coder", desc := "()B" } : Jvm.MethodName) jdk_42_method_152_code (1 : Nat) (Option.some Jvm.ClassFile.FieldType.byte)).before args0 about1 = true := code_word (m := ⟨7, 5⟩) (meth := k7m5) (c := k7c5) (by decide +kernel) rfl rfl rfl (by decide +kernel)
set_option maxRecDepth 65536 in
theorem w_c9 : (Jvm.Cond.code ({ cls := "java/util/Arrays", name := "copyOf", desc := "([BI)[B" } : Jvm.MethodName) jdk_65_method_121_code (3 : Nat) (Option.some (Jvm.ClassFile.FieldType.array Jvm.ClassFile.FieldType.byte))).before args0 about1 = true := code_word (m := ⟨9, 1⟩) (meth := k9m1) (c := k9c1) (by decide +kernel) rfl rfl rfl (by decide +kernel)
set_option maxRecDepth 65536 in
theorem w_c10 : (Jvm.Cond.code ({ cls := "com/example/rows_to_regions/rowstoregions/KeyTextUnescapePinLaw", name := "hex", desc := "(I)C" } : Jvm.MethodName) method_5_code (1 : Nat) (Option.some Jvm.ClassFile.FieldType.char)).before args0 about1 = true := code_word (m := ⟨1, 4⟩) (meth := k1m4) (c := k1c4) (by decide +kernel) rfl rfl rfl (by decide +kernel)
set_option maxRecDepth 65536 in
theorem w_c11 : (Jvm.Cond.code ({ cls := "com/example/rows_to_regions/rowstoregions/KeyTextUnescapePinLaw", name := "printable", desc := "(I)C" } : Jvm.MethodName) method_4_code (2 : Nat) (Option.some Jvm.ClassFile.FieldType.char)).before args0 about1 = true := code_word (m := ⟨1, 3⟩) (meth := k1m3) (c := k1c3) (by decide +kernel) rfl rfl rfl (by decide +kernel)
set_option maxRecDepth 65536 in
theorem w_c12 : (Jvm.Cond.code ({ cls := "java/lang/StringUTF16", name := "compress", desc := "([CII)[B" } : Jvm.MethodName) jdk_52_method_16_code (6 : Nat) (Option.some (Jvm.ClassFile.FieldType.array Jvm.ClassFile.FieldType.byte))).before args0 about1 = true := code_word (m := ⟨11, 2⟩) (meth := k11m2) (c := k11c2) (by decide +kernel) rfl rfl rfl (by decide +kernel)
set_option maxRecDepth 65536 in
theorem w_c13 : (Jvm.Cond.code ({ cls := "java/lang/StringUTF16", name := "compress", desc := "([CI[BII)I" } : Jvm.MethodName) jdk_52_method_21_code (7 : Nat) (Option.some Jvm.ClassFile.FieldType.int)).before args0 about1 = true := code_word (m := ⟨11, 3⟩) (meth := k11m3) (c := k11c3) (by decide +kernel) rfl rfl rfl (by decide +kernel)
set_option maxRecDepth 65536 in
theorem w_c14 : (Jvm.Cond.code ({ cls := "java/lang/StringUTF16", name := "coderFromArrayLen", desc := "([BI)B" } : Jvm.MethodName) jdk_52_method_15_code (2 : Nat) (Option.some Jvm.ClassFile.FieldType.byte)).before args0 about1 = true := code_word (m := ⟨11, 1⟩) (meth := k11m1) (c := k11c1) (by decide +kernel) rfl rfl rfl (by decide +kernel)
set_option maxRecDepth 65536 in
theorem w_c15 : (Jvm.Cond.code ({ cls := "java/lang/String", name := "charAt", desc := "(I)C" } : Jvm.MethodName) jdk_42_method_56_code (2 : Nat) (Option.some Jvm.ClassFile.FieldType.char)).before args0 about1 = true := code_word (m := ⟨7, 3⟩) (meth := k7m3) (c := k7c3) (by decide +kernel) rfl rfl rfl (by decide +kernel)
set_option maxRecDepth 65536 in
theorem w_c16 : (Jvm.Cond.code ({ cls := "java/lang/String", name := "isLatin1", desc := "()Z" } : Jvm.MethodName) jdk_42_method_154_code (1 : Nat) (Option.some Jvm.ClassFile.FieldType.boolean)).before args0 about1 = true := code_word (m := ⟨7, 6⟩) (meth := k7m6) (c := k7c6) (by decide +kernel) rfl rfl rfl (by decide +kernel)
set_option maxRecDepth 65536 in
theorem w_c17 : (Jvm.Cond.code ({ cls := "java/lang/StringLatin1", name := "charAt", desc := "([BI)C" } : Jvm.MethodName) jdk_43_method_2_code (2 : Nat) (Option.some Jvm.ClassFile.FieldType.char)).before args0 about1 = true := code_word (m := ⟨12, 1⟩) (meth := k12m1) (c := k12c1) (by decide +kernel) rfl rfl rfl (by decide +kernel)
set_option maxRecDepth 65536 in
theorem w_c18 : (Jvm.Cond.code ({ cls := "java/lang/String", name := "checkIndex", desc := "(II)V" } : Jvm.MethodName) jdk_42_method_155_code (2 : Nat) (Option.none : Option Jvm.ClassFile.FieldType)).before args0 about1 = true := code_word (m := ⟨7, 7⟩) (meth := k7m7) (c := k7c7) (by decide +kernel) rfl rfl rfl (by decide +kernel)
set_option maxRecDepth 65536 in
theorem w_c19 : (Jvm.Cond.code ({ cls := "jdk/internal/util/Preconditions", name := "checkIndex", desc := "(IILjava/util/function/BiFunction;)I" } : Jvm.MethodName) jdk_41_method_11_code (3 : Nat) (Option.some Jvm.ClassFile.FieldType.int)).before args0 about1 = true := code_word (m := ⟨13, 1⟩) (meth := k13m1) (c := k13c1) (by decide +kernel) rfl rfl rfl (by decide +kernel)
set_option maxRecDepth 65536 in
theorem w_c20 : (Jvm.Cond.code ({ cls := "com/example/rows_to_regions/rowstoregions/KeyText", name := "escapedByte", desc := "(Ljava/lang/String;I)I" } : Jvm.MethodName) prog_10_method_4_code (4 : Nat) (Option.some Jvm.ClassFile.FieldType.int)).before args0 about1 = true := code_word (m := ⟨8, 2⟩) (meth := k8m2) (c := k8c2) (by decide +kernel) rfl rfl rfl (by decide +kernel)
set_option maxRecDepth 65536 in
theorem w_c21 : (Jvm.Cond.code ({ cls := "com/example/rows_to_regions/rowstoregions/KeyText", name := "hexDigit", desc := "(C)I" } : Jvm.MethodName) prog_10_method_5_code (1 : Nat) (Option.some Jvm.ClassFile.FieldType.int)).before args0 about1 = true := code_word (m := ⟨8, 3⟩) (meth := k8m3) (c := k8c3) (by decide +kernel) rfl rfl rfl (by decide +kernel)
set_option maxRecDepth 65536 in
theorem w_c22 : (Jvm.Cond.code ({ cls := "java/lang/Math", name := "min", desc := "(II)I" } : Jvm.MethodName) jdk_29_method_69_code (2 : Nat) (Option.some Jvm.ClassFile.FieldType.int)).before args0 about1 = true := code_word (m := ⟨14, 1⟩) (meth := k14m1) (c := k14c1) (by decide +kernel) rfl rfl rfl (by decide +kernel)
set_option maxRecDepth 65536 in
theorem w_c23 : (Jvm.Cond.code ({ cls := "com/example/rows_to_regions/rowstoregions/KeyTextUnescapePinLaw", name := "expected", desc := "(ZI)B" } : Jvm.MethodName) method_7_code (2 : Nat) (Option.some Jvm.ClassFile.FieldType.byte)).before args0 about1 = true := code_word (m := ⟨1, 6⟩) (meth := k1m6) (c := k1c6) (by decide +kernel) rfl rfl rfl (by decide +kernel)
def codes1 : List Jvm.Cond := [Jvm.Cond.code x code maxLocals ret, Jvm.Cond.code ({ cls := "com/example/rows_to_regions/rowstoregions/KeyTextUnescapePinLaw", name := "width", desc := "(ZZ)I" } : Jvm.MethodName) method_3_code (2 : Nat) (Option.some Jvm.ClassFile.FieldType.int), Jvm.Cond.code ({ cls := "com/example/rows_to_regions/rowstoregions/KeyTextUnescapePinLaw", name := "put", desc := "([CIZZI)I" } : Jvm.MethodName) method_6_code (6 : Nat) (Option.some Jvm.ClassFile.FieldType.int), Jvm.Cond.code ({ cls := "java/lang/String", name := "<init>", desc := "([C)V" } : Jvm.MethodName) jdk_42_method_3_code (2 : Nat) (Option.none : Option Jvm.ClassFile.FieldType), Jvm.Cond.code ({ cls := "java/lang/String", name := "<init>", desc := "([CIILjava/lang/Void;)V" } : Jvm.MethodName) jdk_42_method_149_code (6 : Nat) (Option.none : Option Jvm.ClassFile.FieldType), Jvm.Cond.code ({ cls := "java/lang/Object", name := "<init>", desc := "()V" } : Jvm.MethodName) object_method_1_code (1 : Nat) (Option.none : Option Jvm.ClassFile.FieldType), Jvm.Cond.code ({ cls := "com/example/rows_to_regions/rowstoregions/KeyText", name := "unescape", desc := "(Ljava/lang/String;)[B" } : Jvm.MethodName) prog_10_method_3_code (6 : Nat) (Option.some (Jvm.ClassFile.FieldType.array Jvm.ClassFile.FieldType.byte)), Jvm.Cond.code ({ cls := "java/lang/String", name := "length", desc := "()I" } : Jvm.MethodName) jdk_42_method_54_code (1 : Nat) (Option.some Jvm.ClassFile.FieldType.int), Jvm.Cond.code ({ cls := "java/lang/String", name := "coder", desc := "()B" } : Jvm.MethodName) jdk_42_method_152_code (1 : Nat) (Option.some Jvm.ClassFile.FieldType.byte), Jvm.Cond.code ({ cls := "java/util/Arrays", name := "copyOf", desc := "([BI)[B" } : Jvm.MethodName) jdk_65_method_121_code (3 : Nat) (Option.some (Jvm.ClassFile.FieldType.array Jvm.ClassFile.FieldType.byte)), Jvm.Cond.code ({ cls := "com/example/rows_to_regions/rowstoregions/KeyTextUnescapePinLaw", name := "hex", desc := "(I)C" } : Jvm.MethodName) method_5_code (1 : Nat) (Option.some Jvm.ClassFile.FieldType.char), Jvm.Cond.code ({ cls := "com/example/rows_to_regions/rowstoregions/KeyTextUnescapePinLaw", name := "printable", desc := "(I)C" } : Jvm.MethodName) method_4_code (2 : Nat) (Option.some Jvm.ClassFile.FieldType.char), Jvm.Cond.code ({ cls := "java/lang/StringUTF16", name := "compress", desc := "([CII)[B" } : Jvm.MethodName) jdk_52_method_16_code (6 : Nat) (Option.some (Jvm.ClassFile.FieldType.array Jvm.ClassFile.FieldType.byte)), Jvm.Cond.code ({ cls := "java/lang/StringUTF16", name := "compress", desc := "([CI[BII)I" } : Jvm.MethodName) jdk_52_method_21_code (7 : Nat) (Option.some Jvm.ClassFile.FieldType.int), Jvm.Cond.code ({ cls := "java/lang/StringUTF16", name := "coderFromArrayLen", desc := "([BI)B" } : Jvm.MethodName) jdk_52_method_15_code (2 : Nat) (Option.some Jvm.ClassFile.FieldType.byte), Jvm.Cond.code ({ cls := "java/lang/String", name := "charAt", desc := "(I)C" } : Jvm.MethodName) jdk_42_method_56_code (2 : Nat) (Option.some Jvm.ClassFile.FieldType.char), Jvm.Cond.code ({ cls := "java/lang/String", name := "isLatin1", desc := "()Z" } : Jvm.MethodName) jdk_42_method_154_code (1 : Nat) (Option.some Jvm.ClassFile.FieldType.boolean), Jvm.Cond.code ({ cls := "java/lang/StringLatin1", name := "charAt", desc := "([BI)C" } : Jvm.MethodName) jdk_43_method_2_code (2 : Nat) (Option.some Jvm.ClassFile.FieldType.char), Jvm.Cond.code ({ cls := "java/lang/String", name := "checkIndex", desc := "(II)V" } : Jvm.MethodName) jdk_42_method_155_code (2 : Nat) (Option.none : Option Jvm.ClassFile.FieldType), Jvm.Cond.code ({ cls := "jdk/internal/util/Preconditions", name := "checkIndex", desc := "(IILjava/util/function/BiFunction;)I" } : Jvm.MethodName) jdk_41_method_11_code (3 : Nat) (Option.some Jvm.ClassFile.FieldType.int), Jvm.Cond.code ({ cls := "com/example/rows_to_regions/rowstoregions/KeyText", name := "escapedByte", desc := "(Ljava/lang/String;I)I" } : Jvm.MethodName) prog_10_method_4_code (4 : Nat) (Option.some Jvm.ClassFile.FieldType.int), Jvm.Cond.code ({ cls := "com/example/rows_to_regions/rowstoregions/KeyText", name := "hexDigit", desc := "(C)I" } : Jvm.MethodName) prog_10_method_5_code (1 : Nat) (Option.some Jvm.ClassFile.FieldType.int), Jvm.Cond.code ({ cls := "java/lang/Math", name := "min", desc := "(II)I" } : Jvm.MethodName) jdk_29_method_69_code (2 : Nat) (Option.some Jvm.ClassFile.FieldType.int), Jvm.Cond.code ({ cls := "com/example/rows_to_regions/rowstoregions/KeyTextUnescapePinLaw", name := "expected", desc := "(ZI)B" } : Jvm.MethodName) method_7_code (2 : Nat) (Option.some Jvm.ClassFile.FieldType.byte)]
set_option maxRecDepth 65536 in
theorem codes_eq : words1.filter isCode = codes1 := rfl
theorem w_codes : ∀ c ∈ words1.filter isCode, c.before args0 about1 = true := by
  rw [codes_eq]
  intro c hc
  simp only [codes1, List.mem_cons, List.not_mem_nil, or_false] at hc
  rcases hc with rfl | rfl | rfl | rfl | rfl | rfl | rfl | rfl | rfl | rfl | rfl | rfl | rfl | rfl | rfl | rfl | rfl | rfl | rfl | rfl | rfl | rfl | rfl | rfl
  · exact w_c0
  · exact w_c1
  · exact w_c2
  · exact w_c3
  · exact w_c4
  · exact w_c5
  · exact w_c6
  · exact w_c7
  · exact w_c8
  · exact w_c9
  · exact w_c10
  · exact w_c11
  · exact w_c12
  · exact w_c13
  · exact w_c14
  · exact w_c15
  · exact w_c16
  · exact w_c17
  · exact w_c18
  · exact w_c19
  · exact w_c20
  · exact w_c21
  · exact w_c22
  · exact w_c23
set_option maxRecDepth 65536 in
theorem w_t1 : (words1.take 24).all (fun c => isCode c || c.before args0 about1) = true := by decide +kernel
set_option maxRecDepth 65536 in
theorem w_t2 : ((words1.drop 24).take 24).all (fun c => isCode c || c.before args0 about1) = true := by decide +kernel
set_option maxRecDepth 65536 in
theorem w_t3 : (((words1.drop 24).drop 24).take 24).all (fun c => isCode c || c.before args0 about1) = true := by decide +kernel
set_option maxRecDepth 65536 in
theorem w_t4 : ((((words1.drop 24).drop 24).drop 24).take 24).all (fun c => isCode c || c.before args0 about1) = true := by decide +kernel
set_option maxRecDepth 65536 in
theorem w_t5 : ((((words1.drop 24).drop 24).drop 24).drop 24).all (fun c => isCode c || c.before args0 about1) = true := by decide +kernel
theorem w_tables : (allAtoms (Jvm.Cond.code x code maxLocals ret :: tables_1)).before args0 about1 = true := by
  rw [allAtoms_all]
  show words1.all (fun c => c.before args0 about1) = true
  refine all_split ?_ w_codes
  rw [← List.take_append_drop 24 words1, List.all_append, w_t1, ← List.take_append_drop 24 (words1.drop 24), List.all_append, w_t2, ← List.take_append_drop 24 ((words1.drop 24).drop 24), List.all_append, w_t3, ← List.take_append_drop 24 (((words1.drop 24).drop 24).drop 24), List.all_append, w_t4, w_t5]
  rfl
set_option maxRecDepth 65536 in
theorem w_rest : rest_1_c.before args0 about1 = true := by decide +kernel
set_option maxRecDepth 65536 in
theorem w_case : (Jvm.Cond.and given_1 narrow_1).before args0 about1 = true := by decide +kernel
set_option maxRecDepth 65536 in
theorem w_consts : constsHeld consts_1 about1 := Jvm.Lit.constsHeldB_iff.mp (by decide +kernel)
theorem w_applies : (headSpec (Jvm.Cond.code x code maxLocals ret :: tables_1) room_1).applies x e0.platform about1 = true :=
  (Spec.applies_iff w_frames).mpr ⟨w_running, w_runnable, w_alone, w_named, w_hears, w_ripe, w_room, w_tables⟩
theorem atStart : AtStart classFile x code maxLocals ret World_1 tables_1 room_1 Calls_1 rest_1 Pre_1 launch0 p0 e0 about1 theMethod args0 below0 :=
  ⟨lists_1, trivial, launch0.admits_env _ _ _, launch0.least_env, fairChoices_fair.cas, fairChoices_fair.clock, w_frames, w_args, w_heap, w_applies, ⟨w_consts, trivial⟩, w_rest, w_case⟩
end start1
theorem witness_1 : WitnessClaimed_1 := ⟨start1.p0, start1.e0, start1.about1, start1.theMethod, start1.args0, start1.below0, start1.atStart⟩
end Jvm.Pilot.@@N@@
