import JvmDerived
import JvmDerived.Pilot.@@N@@Statement
import JvmDerived.Pilot.@@N@@Code
set_option linter.unusedVariables false
set_option linter.unusedSimpArgs false
@@BLOCK:TracedD.lean.txt@@
/- laws to paste: Road.backV, Road.chN, Road.codOf (cut by pick.py; bodies as the Statement names them) -/
namespace Jvm.Pilot.@@N@@
namespace StrChars
open Jvm Sem ClassFile Op Lib Jvm.Stand Jvm.Free.XT Jvm.Free.ALB Jvm.Free.JM Jvm.Free
open Jvm.Lib.Cold (StaticIs)
/-- a char array whose places are chars -/
def Ch (a : Addr) (A : Cell) (U : State) : Prop := Arr .char a A U ∧ Typed .char A
theorem Ch.mv {a : Addr} {A : Cell} {U U' : State} (h : Ch a A U) (hal : U.vm.Alike U'.vm) (hh : U'.heap = U.heap) : Ch a A U' := ⟨h.1.mv hal hh, h.2⟩
theorem Ch.keep {a : Addr} {A : Cell} {U U' : State} (h : Ch a A U) (hal : U.vm.Alike U'.vm) (hk : U'.heap[a]? = some A) : Ch a A U' := ⟨h.1.keep hal hk, h.2⟩
/-- what place i of a char[]'s cell holds -/
def cv (A : Cell) (i : Nat) : Int32 := match A.slots[i]? with | some (.int x) => x | _ => 0
theorem Ch.get {a : Addr} {A : Cell} {U : State} (h : Ch a A U) {i : Nat} (hi : i < A.slots.size) : A.slots[i]? = some (.int (cv A i)) := by
  have e := Array.getElem?_eq_getElem hi
  have f := h.2 i _ e
  unfold cv; rw [e]
  generalize A.slots[i] = v at f
  cases v <;> simp [fits] at f ⊢
/-- the byte that i2b leaves of a char -/
def lo8 (x : Int32) : Int32 := x.toInt8.toInt32
theorem fits_lo8 (y : Int32) : fits .byte (.int (lo8 y)) = true := by
  have h1 := y.toInt8.le_toInt
  have h2 := y.toInt8.toInt_lt
  simp only [lo8, fits, Bool.and_eq_true, decide_eq_true_eq, Int32.le_iff_toInt_le, Int8.toInt_toInt32, show (-128 : Int32).toInt = -128 from by decide, show (127 : Int32).toInt = 127 from by decide]
  omega
/-- A' is A but that each place j of lo .. hi - 1 holds f j -/
def Laid (A A' : Cell) (lo hi : Nat) (f : Nat → Value) : Prop := A'.cls = A.cls ∧ A'.vm = A.vm ∧ A'.slots.size = A.slots.size ∧ ∀ i, A'.slots[i]? = if lo ≤ i ∧ i < hi then some (f i) else A.slots[i]?
theorem Laid.zero (A : Cell) (lo : Nat) (f : Nat → Value) : Laid A A lo (lo + 0) f := ⟨rfl, rfl, rfl, fun i => by rw [if_neg (by omega)]⟩
theorem Laid.step {A Ak : Cell} {lo k : Nat} {f : Nat → Value} {v : Value} (h : Laid A Ak lo k f) (hlo : lo ≤ k) (hk : k < Ak.slots.size) (hv : v = f k) : Laid A (Ak.setSlot k v) lo (k + 1) f := by
  refine ⟨h.1, h.2.1, by simpa [Cell.setSlot] using h.2.2.1, fun i => ?_⟩
  by_cases e : k = i
  · subst e; rw [Cell.slots_setSlot_self v hk, if_pos (by omega), hv]
  · rw [Cell.slots_setSlot_ne v e, h.2.2.2 i]
    by_cases q : lo ≤ i ∧ i < k
    · rw [if_pos q, if_pos (by omega)]
    · rw [if_neg q, if_neg (by omega)]
def U16 : String := "java/lang/StringUTF16"
namespace Cmp5
def yN : MethodName := ⟨"java/lang/StringUTF16", "compress", "([CI[BII)I"⟩
abbrev yB : ByteArray := jdk_52_method_21_code
theorem d0 : decode yB 0 = .ok (.iconst 0, 1) := by decide +kernel
theorem d1 : decode yB 1 = .ok (.istore 5, 2) := by decide +kernel
theorem d3 : decode yB 3 = .ok (.iload 5, 2) := by decide +kernel
theorem d5 : decode yB 5 = .ok (.iload 4, 2) := by decide +kernel
theorem d7 : decode yB 7 = .ok (.if_icmp (.ge) 37, 3) := by decide +kernel
theorem d10 : decode yB 10 = .ok (.aload_n 0, 1) := by decide +kernel
theorem d11 : decode yB 11 = .ok (.iload_n 1, 1) := by decide +kernel
theorem d12 : decode yB 12 = .ok (.caload, 1) := by decide +kernel
theorem d13 : decode yB 13 = .ok (.istore 6, 2) := by decide +kernel
theorem d15 : decode yB 15 = .ok (.iload 6, 2) := by decide +kernel
theorem d17 : decode yB 17 = .ok (.sipush 255, 3) := by decide +kernel
theorem d20 : decode yB 20 = .ok (.if_icmp (.le) 6, 3) := by decide +kernel
theorem d26 : decode yB 26 = .ok (.aload_n 2, 1) := by decide +kernel
theorem d27 : decode yB 27 = .ok (.iload_n 3, 1) := by decide +kernel
theorem d28 : decode yB 28 = .ok (.iload 6, 2) := by decide +kernel
theorem d30 : decode yB 30 = .ok (.i2b, 1) := by decide +kernel
theorem d31 : decode yB 31 = .ok (.bastore, 1) := by decide +kernel
theorem d32 : decode yB 32 = .ok (.iinc 1 1, 3) := by decide +kernel
theorem d35 : decode yB 35 = .ok (.iinc 3 1, 3) := by decide +kernel
theorem d38 : decode yB 38 = .ok (.iinc 5 1, 3) := by decide +kernel
theorem d41 : decode yB 41 = .ok (.goto (-38), 3) := by decide +kernel
theorem d44 : decode yB 44 = .ok (.iload 4, 2) := by decide +kernel
theorem d46 : decode yB 46 = .ok (.ireturn, 1) := by decide +kernel
def site : List Cond := []
def tab : Cond := tabOf yN yB 7 (some .int) site
def P (b : Addr) (A : Cell) (d : Addr) (B : Cell) (o q len : Nat) (args : Array Value) (s : State) : Prop := args = #[.ref b, .int (Int32.ofNat o), .ref d, .int (Int32.ofNat q), .int (Int32.ofNat len)] ∧ Ch b A s ∧ Arr .byte d B s ∧ b ≠ d ∧ o + len ≤ A.slots.size ∧ q + len ≤ B.slots.size ∧ ∀ i, i < len → ¬ 255 < cv A (o + i)
def E (b : Addr) (A : Cell) (d : Addr) (B : Cell) (o q len : Nat) (r : Option Value) (s u : State) : Prop := r = some (.int (Int32.ofNat len)) ∧ ∃ B', Put d B' s u ∧ Laid B B' q (q + len) (fun j => Value.int (lo8 (cv A (o + (j - q)))))
/-- no char of the range above 255: len; the places written hold each char's low byte -/
theorem law (l : Launch) (b : Addr) (A : Cell) (d : Addr) (B : Cell) (o q len : Nat) : Law l yN 5 5 0 0 yB 7 (some .int) site (P b A d B o q len) (E b A d B o q len) (copyLocs d q len) 0 0 := by
  refine Law.of_walk (plainFor_of_name (by decide +kernel)) (by decide +kernel) (by decide +kernel) (by decide) (fun _ _ h => by rw [h.1]; rfl) (fun _ U U' hal hh h => ⟨h.1, h.2.1.mv hal hh, h.2.2.1.mv hal hh, h.2.2.2⟩) (fun r U U' V V' h1 hal h2 h => ⟨h.1, h.2.elim fun B' q => ⟨B', q.1.mv h1 h2, q.2⟩⟩) ?_
  intro p e s m args below meth c s₁ X0 hexec hbytes hml hret hlk hnm hown hh0 W hP
  obtain ⟨rfl, hA, hB, hne, l1, l2, hp⟩ := hP
  have c1 : Steps p.tables e below (s₁.setTop (entryFrame m #[.ref b, .int (Int32.ofNat o), .ref d, .int (Int32.ofNat q), .int (Int32.ofNat len)] 7)) (s₁.setTop (mkF m 0 #[.val (.ref b), .val (.int (Int32.ofNat o)), .val (.ref d), .val (.int (Int32.ofNat q)), .val (.int (Int32.ofNat len)), .unset, .unset] [])) := entry rfl
  have hA0 := hA.1.mv X0.warmed.alike hh0
  have hB0 := hB.mv X0.warmed.alike hh0
  have a31 := hA.1.2.2.2
  have c2 : Steps p.tables e below (s₁.setTop (entryFrame m #[.ref b, .int (Int32.ofNat o), .ref d, .int (Int32.ofNat q), .int (Int32.ofNat len)] 7)) (s₁.setTop (mkF m 3 #[.val (.ref b), .val (.int (Int32.ofNat o)), .val (.ref d), .val (.int (Int32.ofNat q)), .val (.int (Int32.ofNat len)), .val (.int 0), .unset] [])) := c1.trans (by
    refine iconstV X0.here hexec rfl 0 (hb hbytes d0) (by decide) ?_
    refine XS.istore X0.here hexec rfl (hb hbytes d1) rfl rfl ?_
    exact Steps.refl _)
  have loop : ∀ (r i : Nat), i + r = len → ∀ (z : Slot), (z = .unset ∨ ∃ w, z = .val w ∧ w.category = 1) → ∀ (Tl : State) (Bk : Cell), Stand p l e { frames := 0, locals := 0, cells := 0, slots := 0 } s m #[.ref b, .int (Int32.ofNat o), .ref d, .int (Int32.ofNat q), .int (Int32.ofNat len)] below meth c Tl ([] ++ copyLocs d q i) 0 0 → Put d Bk s₁ Tl → Laid B Bk q (q + i) (fun j => Value.int (lo8 (cv A (o + (j - q))))) →
      Steps p.tables e below (s₁.setTop (entryFrame m #[.ref b, .int (Int32.ofNat o), .ref d, .int (Int32.ofNat q), .int (Int32.ofNat len)] 7)) (Tl.setTop (mkF m 3 #[.val (.ref b), .val (.int (Int32.ofNat (o + i))), .val (.ref d), .val (.int (Int32.ofNat (q + i))), .val (.int (Int32.ofNat len)), .val (.int (Int32.ofNat i)), z] [])) → ∃ (T' : State) (B' : Cell) (z' : Slot), Stand p l e { frames := 0, locals := 0, cells := 0, slots := 0 } s m #[.ref b, .int (Int32.ofNat o), .ref d, .int (Int32.ofNat q), .int (Int32.ofNat len)] below meth c T' ([] ++ copyLocs d q len) 0 0 ∧ Put d B' s₁ T' ∧ Laid B B' q (q + len) (fun j => Value.int (lo8 (cv A (o + (j - q))))) ∧
      Steps p.tables e below (s₁.setTop (entryFrame m #[.ref b, .int (Int32.ofNat o), .ref d, .int (Int32.ofNat q), .int (Int32.ofNat len)] 7)) (T'.setTop (mkF m 3 #[.val (.ref b), .val (.int (Int32.ofNat (o + len))), .val (.ref d), .val (.int (Int32.ofNat (q + len))), .val (.int (Int32.ofNat len)), .val (.int (Int32.ofNat len)), z'] [])) := by
    intro r
    induction r with
    | zero =>
      intro i hi z hz Tl Bk Xl pl fl cl
      have hil : i = len := by omega
      rw [hil] at Xl fl cl
      exact ⟨Tl, Bk, z, Xl, pl, fl, cl⟩
    | succ r ih =>
      intro i hi z hz Tl Bk Xl pl fl cl
      have all := X0.warmed.alike.symm.trans Xl.warmed.alike
      have hAl := hA0.keep all (pl.other hne hA0.1)
      have hBk := hB0.like all pl.1 fl.1 fl.2.1 fl.2.2.1
      have hlt : q + i < Bk.slots.size := by rw [fl.2.2.1]; omega
      have c3 : Steps p.tables e below (s₁.setTop (entryFrame m #[.ref b, .int (Int32.ofNat o), .ref d, .int (Int32.ofNat q), .int (Int32.ofNat len)] 7)) (Tl.setTop (mkF m 12 #[.val (.ref b), .val (.int (Int32.ofNat (o + i))), .val (.ref d), .val (.int (Int32.ofNat (q + i))), .val (.int (Int32.ofNat len)), .val (.int (Int32.ofNat i)), z] [.int (Int32.ofNat (o + i)), .ref b])) := cl.trans (by
        refine XS.iload Xl.here hexec rfl (hb hbytes d3) rfl ?_
        refine XS.iload Xl.here hexec rfl (hb hbytes d5) rfl ?_
        refine XS.icmpNo Xl.here hexec rfl (hb hbytes d7) rfl (ii_ge_f (lt32 (by omega) (by omega))) ?_
        refine XS.aloadN Xl.here hexec rfl (hb hbytes d10) rfl rfl ?_
        refine XS.iloadN Xl.here hexec rfl (hb hbytes d11) rfl ?_
        exact Steps.refl _)
      have c4 : Steps p.tables e below (s₁.setTop (entryFrame m #[.ref b, .int (Int32.ofNat o), .ref d, .int (Int32.ofNat q), .int (Int32.ofNat len)] 7)) (Tl.setTop (mkF m 13 #[.val (.ref b), .val (.int (Int32.ofNat (o + i))), .val (.ref d), .val (.int (Int32.ofNat (q + i))), .val (.int (Int32.ofNat len)), .val (.int (Int32.ofNat i)), z] [.int (cv A (o + i))])) := c3.trans (by
        refine Xl.aget hexec hAl rfl (hA.get (i := o + i) (by omega)) rfl rfl (hb hbytes d12) ?_
        exact Steps.refl _)
      have c5 : Steps p.tables e below (s₁.setTop (entryFrame m #[.ref b, .int (Int32.ofNat o), .ref d, .int (Int32.ofNat q), .int (Int32.ofNat len)] 7)) (Tl.setTop (mkF m 15 #[.val (.ref b), .val (.int (Int32.ofNat (o + i))), .val (.ref d), .val (.int (Int32.ofNat (q + i))), .val (.int (Int32.ofNat len)), .val (.int (Int32.ofNat i)), .val (.int (cv A (o + i)))] [])) := c4.trans (by
        refine XS.istoreS Xl.here hexec rfl (hb hbytes d13) rfl rfl hz ?_
        exact Steps.refl _)
      have c6 : Steps p.tables e below (s₁.setTop (entryFrame m #[.ref b, .int (Int32.ofNat o), .ref d, .int (Int32.ofNat q), .int (Int32.ofNat len)] 7)) (Tl.setTop (mkF m 31 #[.val (.ref b), .val (.int (Int32.ofNat (o + i))), .val (.ref d), .val (.int (Int32.ofNat (q + i))), .val (.int (Int32.ofNat len)), .val (.int (Int32.ofNat i)), .val (.int (cv A (o + i)))] [.int (lo8 (cv A (o + i))), .int (Int32.ofNat (q + i)), .ref d])) := c5.trans (by
        refine XS.iload Xl.here hexec rfl (hb hbytes d15) rfl ?_
        refine sipushV Xl.here hexec rfl 255 (hb hbytes d17) (by decide) ?_
        refine XS.icmpYes Xl.here hexec rfl (pc0 := 20) rfl (hb hbytes d20) rfl (ii_le_t (hp i (by omega))) (by decide) rfl ?_
        refine XS.aloadN Xl.here hexec rfl (hb hbytes d26) rfl rfl ?_
        refine XS.iloadN Xl.here hexec rfl (hb hbytes d27) rfl ?_
        refine XS.iload Xl.here hexec rfl (hb hbytes d28) rfl ?_
        refine i2b Xl.here hexec rfl (hb hbytes d30) rfl ?_
        exact Steps.refl _)
      obtain ⟨T7, X7, p7, st7⟩ := Xl.aput hexec hBk rfl hlt rfl (fits_lo8 (cv A (o + i))) (g := (mkF m 31 #[.val (.ref b), .val (.int (Int32.ofNat (o + i))), .val (.ref d), .val (.int (Int32.ofNat (q + i))), .val (.int (Int32.ofNat len)), .val (.int (Int32.ofNat i)), .val (.int (cv A (o + i)))] [.int (lo8 (cv A (o + i))), .int (Int32.ofNat (q + i)), .ref d])) rfl (rest := []) rfl (hb hbytes d31)
      have c8 : Steps p.tables e below (s₁.setTop (entryFrame m #[.ref b, .int (Int32.ofNat o), .ref d, .int (Int32.ofNat q), .int (Int32.ofNat len)] 7)) (T7.setTop (mkF m 32 #[.val (.ref b), .val (.int (Int32.ofNat (o + i))), .val (.ref d), .val (.int (Int32.ofNat (q + i))), .val (.int (Int32.ofNat len)), .val (.int (Int32.ofNat i)), .val (.int (cv A (o + i)))] [])) := c6.trans (st7 _ (Steps.refl _))
      have c9 : Steps p.tables e below (s₁.setTop (entryFrame m #[.ref b, .int (Int32.ofNat o), .ref d, .int (Int32.ofNat q), .int (Int32.ofNat len)] 7)) (T7.setTop (mkF m 3 #[.val (.ref b), .val (.int (Int32.ofNat (o + i) + 1)), .val (.ref d), .val (.int (Int32.ofNat (q + i) + 1)), .val (.int (Int32.ofNat len)), .val (.int (Int32.ofNat i + 1)), .val (.int (cv A (o + i)))] [])) := c8.trans (by
        refine iincV X7.here hexec rfl 1 (hb hbytes d32) (by decide) rfl rfl ?_
        refine iincV X7.here hexec rfl 1 (hb hbytes d35) (by decide) rfl rfl ?_
        refine iincV X7.here hexec rfl 1 (hb hbytes d38) (by decide) rfl rfl ?_
        refine XS.goto X7.here hexec rfl (pc0 := 41) rfl (hb hbytes d41) (by decide) rfl ?_
        exact Steps.refl _)
      have c10 : Steps p.tables e below (s₁.setTop (entryFrame m #[.ref b, .int (Int32.ofNat o), .ref d, .int (Int32.ofNat q), .int (Int32.ofNat len)] 7)) (T7.setTop (mkF m 3 #[.val (.ref b), .val (.int (Int32.ofNat (o + (i + 1)))), .val (.ref d), .val (.int (Int32.ofNat (q + (i + 1)))), .val (.int (Int32.ofNat len)), .val (.int (Int32.ofNat (i + 1))), .val (.int (cv A (o + i)))] [])) := by
        have := c9
        rw [succ32, succ32, succ32] at this
        exact this
      exact ih (i + 1) (by omega) _ (Or.inr ⟨_, rfl, rfl⟩) T7 _ (by rw [copyLocs_step, ← List.append_assoc]; exact X7) (pl.trans p7) (fl.step (by omega) hlt (by simp)) c10
  obtain ⟨T9, B9, z9, X9, p9, f9, g9⟩ := loop len 0 (by omega) .unset (Or.inl rfl) s₁ B (by simpa [copyLocs] using X0) ⟨hB0.1, fun _ _ => rfl, rfl⟩ (Laid.zero _ _ _) c2
  have c11 : Steps p.tables e below (s₁.setTop (entryFrame m #[.ref b, .int (Int32.ofNat o), .ref d, .int (Int32.ofNat q), .int (Int32.ofNat len)] 7)) (T9.setTop (mkF m 46 #[.val (.ref b), .val (.int (Int32.ofNat (o + len))), .val (.ref d), .val (.int (Int32.ofNat (q + len))), .val (.int (Int32.ofNat len)), .val (.int (Int32.ofNat len)), z9] [.int (Int32.ofNat len)])) := g9.trans (by
    refine XS.iload X9.here hexec rfl (hb hbytes d3) rfl ?_
    refine XS.iload X9.here hexec rfl (hb hbytes d5) rfl ?_
    refine XS.icmpYes X9.here hexec rfl (pc0 := 7) rfl (hb hbytes d7) rfl (ii_ge_t (nlt32 (by omega) (Nat.le_refl _))) (by decide) rfl ?_
    refine XS.iload X9.here hexec rfl (hb hbytes d44) rfl ?_
    exact Steps.refl _)
  exact ⟨T9, some (.int (Int32.ofNat len)), _, _, _, X9, by simp, rfl, rfl, (fun h => by cases h), ⟨rfl, B9, p9.from hh0, f9⟩, fun fs hl => c11.trans (X9.ireturnOut hexec hret rfl (Or.inl rfl) (hb hbytes d46) hl)⟩
end Cmp5
namespace Cmp3
def yN : MethodName := ⟨"java/lang/StringUTF16", "compress", "([CII)[B"⟩
abbrev yB : ByteArray := jdk_52_method_16_code
theorem d0 : decode yB 0 = .ok (.iload_n 2, 1) := by decide +kernel
theorem d1 : decode yB 1 = .ok (.newarray .byte, 2) := by decide +kernel
theorem d3 : decode yB 3 = .ok (.astore_n 3, 1) := by decide +kernel
theorem d4 : decode yB 4 = .ok (.aload_n 0, 1) := by decide +kernel
theorem d5 : decode yB 5 = .ok (.iload_n 1, 1) := by decide +kernel
theorem d6 : decode yB 6 = .ok (.aload_n 3, 1) := by decide +kernel
theorem d7 : decode yB 7 = .ok (.iconst 0, 1) := by decide +kernel
theorem d8 : decode yB 8 = .ok (.iload_n 2, 1) := by decide +kernel
theorem d9 : decode yB 9 = .ok (.invokestatic 115, 3) := by decide +kernel
theorem d12 : decode yB 12 = .ok (.istore 4, 2) := by decide +kernel
theorem d14 : decode yB 14 = .ok (.iload 4, 2) := by decide +kernel
theorem d16 : decode yB 16 = .ok (.iload_n 2, 1) := by decide +kernel
theorem d17 : decode yB 17 = .ok (.if_icmp (.eq) 40, 3) := by decide +kernel
theorem d57 : decode yB 57 = .ok (.aload_n 3, 1) := by decide +kernel
theorem d58 : decode yB 58 = .ok (.areturn, 1) := by decide +kernel
def site : List Cond := [.arrayClass .byte, Cmp5.tab] ++ staticW U16 115 Cmp5.yN
def tab : Cond := tabOf yN yB 6 (some (.array .byte)) site
def P (b : Addr) (A : Cell) (o len : Nat) (args : Array Value) (s : State) : Prop := args = #[.ref b, .int (Int32.ofNat o), .int (Int32.ofNat len)] ∧ Ch b A s ∧ o + len ≤ A.slots.size ∧ len ≤ 536870912 ∧ ∀ i, i < len → ¬ 255 < cv A (o + i)
def E (b : Addr) (A : Cell) (o len : Nat) (r : Option Value) (s u : State) : Prop := NewArr .byte "[B" len (fun j => .int (lo8 (cv A (o + j)))) r s u ∧ u.heap.size = s.heap.size + 1
/-- no char of the range above 255: a new byte[] of their low bytes -/
theorem law (l : Launch) (b : Addr) (A : Cell) (o len : Nat) : Law l yN 3 3 1 18 yB 6 (some (.array .byte)) site (P b A o len) (E b A o len) [] 1 len := by
  refine Law.of_walk (plainFor_of_name (by decide +kernel)) (by decide +kernel) (by decide +kernel) (by decide) (fun _ _ h => by rw [h.1]; rfl) (fun _ U U' hal hh h => ⟨h.1, h.2.1.mv hal hh, h.2.2⟩) (fun r U U' V V' h1 hal h2 h => ⟨NewArr.mv r U U' V V' h1 hal h2 h.1, by rw [h1, h2]; exact h.2⟩) ?_
  intro p e s m args below meth c s₁ X0 hexec hbytes hml hret hlk hnm hown hh0 W hP
  obtain ⟨rfl, hA, l1, l2, hp⟩ := hP
  have a31 := hA.1.2.2.2
  have c1 : Steps p.tables e below (s₁.setTop (entryFrame m #[.ref b, .int (Int32.ofNat o), .int (Int32.ofNat len)] 6)) (s₁.setTop (mkF m 0 #[.val (.ref b), .val (.int (Int32.ofNat o)), .val (.int (Int32.ofNat len)), .unset, .unset, .unset] [])) := entry rfl
  have c2 : Steps p.tables e below (s₁.setTop (entryFrame m #[.ref b, .int (Int32.ofNat o), .int (Int32.ofNat len)] 6)) (s₁.setTop (mkF m 1 #[.val (.ref b), .val (.int (Int32.ofNat o)), .val (.int (Int32.ofNat len)), .unset, .unset, .unset] [.int (Int32.ofNat len)])) := c1.trans (by
    refine XS.iloadN X0.here hexec rfl (hb hbytes d0) rfl ?_
    exact Steps.refl _)
  obtain ⟨T3, B3, X3, ba3, bs3, bv3, bh3, bf3, st3⟩ := X0.anew hexec (atype := .byte) (wk W (.arrayClass .byte)) rfl (by show len * 1 ≤ _; omega) (by omega) (g := (mkF m 1 #[.val (.ref b), .val (.int (Int32.ofNat o)), .val (.int (Int32.ofNat len)), .unset, .unset, .unset] [.int (Int32.ofNat len)])) rfl (hb hbytes d1) (rest := []) rfl (Nat.le_refl _) (by show 0 + len ≤ len; omega)
  rw [hh0] at ba3 st3
  have kp3 : XT.Kept s T3 := (XT.Kept.of_eq hh0).push bh3
  have hA3 := hA.keep X3.warmed.alike (kp3 _ _ hA.1.1)
  have hne : b ≠ s.heap.size := hA.1.ne
  have c4 : Steps p.tables e below (s₁.setTop (entryFrame m #[.ref b, .int (Int32.ofNat o), .int (Int32.ofNat len)] 6)) (T3.setTop (mkF m 3 #[.val (.ref b), .val (.int (Int32.ofNat o)), .val (.int (Int32.ofNat len)), .unset, .unset, .unset] [.ref s.heap.size])) := c2.trans (st3 _ (Steps.refl _))
  have c5 : Steps p.tables e below (s₁.setTop (entryFrame m #[.ref b, .int (Int32.ofNat o), .int (Int32.ofNat len)] 6)) (T3.setTop (mkF m 9 #[.val (.ref b), .val (.int (Int32.ofNat o)), .val (.int (Int32.ofNat len)), .val (.ref s.heap.size), .unset, .unset] [.int (Int32.ofNat len), .int 0, .ref s.heap.size, .int (Int32.ofNat o), .ref b])) := c4.trans (by
    refine XS.astoreN X3.here hexec rfl (hb hbytes d3) rfl rfl rfl ?_
    refine XS.aloadN X3.here hexec rfl (hb hbytes d4) rfl rfl ?_
    refine XS.iloadN X3.here hexec rfl (hb hbytes d5) rfl ?_
    refine XS.aloadN X3.here hexec rfl (hb hbytes d6) rfl rfl ?_
    refine iconstV X3.here hexec rfl 0 (hb hbytes d7) (by decide) ?_
    refine XS.iloadN X3.here hexec rfl (hb hbytes d8) rfl ?_
    exact Steps.refl _)
  obtain ⟨v6, T6, X6, E6, g6⟩ := X3.callS hexec (Cmp5.law l b A s.heap.size B3 o 0 len) hown (wks W (staticW U16 115 Cmp5.yN)) (wk W Cmp5.tab) (W := 0) (Nat.le_of_ble_eq_true rfl) (Nat.le_of_ble_eq_true rfl) (Nat.le_refl _) (by show 0 + len + 0 ≤ len; omega) (g := (mkF m 9 #[.val (.ref b), .val (.int (Int32.ofNat o)), .val (.int (Int32.ofNat len)), .val (.ref s.heap.size), .unset, .unset] [.int (Int32.ofNat len), .int (Int32.ofNat 0), .ref s.heap.size, .int (Int32.ofNat o), .ref b])) rfl (by rw [hml]; rfl) c5 (argsL := [.ref b, .int (Int32.ofNat o), .ref s.heap.size, .int (Int32.ofNat 0), .int (Int32.ofNat len)]) (rest := []) rfl rfl (by show 2 * 0 + 0 ≤ _; decide) (hb hbytes d9) (⟨rfl, hA3, ba3, hne, l1, by rw [bs3]; simp, hp⟩)
  obtain ⟨rfl, B6, p6, f6⟩ := E6
  have c7 : Steps p.tables e below (s₁.setTop (entryFrame m #[.ref b, .int (Int32.ofNat o), .int (Int32.ofNat len)] 6)) (T6.setTop (mkF m 12 #[.val (.ref b), .val (.int (Int32.ofNat o)), .val (.int (Int32.ofNat len)), .val (.ref s.heap.size), .unset, .unset] [.int (Int32.ofNat len)])) := g6
  have c8 : Steps p.tables e below (s₁.setTop (entryFrame m #[.ref b, .int (Int32.ofNat o), .int (Int32.ofNat len)] 6)) (T6.setTop (mkF m 58 #[.val (.ref b), .val (.int (Int32.ofNat o)), .val (.int (Int32.ofNat len)), .val (.ref s.heap.size), .val (.int (Int32.ofNat len)), .unset] [.ref s.heap.size])) := c7.trans (by
    refine XS.istore X6.here hexec rfl (hb hbytes d12) rfl rfl ?_
    refine XS.iload X6.here hexec rfl (hb hbytes d14) rfl ?_
    refine XS.iloadN X6.here hexec rfl (hb hbytes d16) rfl ?_
    refine XS.icmpYes X6.here hexec rfl (pc0 := 17) rfl (hb hbytes d17) rfl (ii_eq_t rfl) (by decide) rfl ?_
    refine XS.aloadN X6.here hexec rfl (hb hbytes d57) rfl rfl ?_
    exact Steps.refl _)
  have X8 := X6.wide (L' := []) (cells' := 1) (slots' := len) (fun x hx hlt => by
    simp only [List.nil_append, copyLocs, List.mem_map, List.mem_range] at hx
    obtain ⟨i, -, rfl⟩ := hx
    exact absurd hlt (Nat.lt_irrefl _)) (Nat.le_refl _) (by omega)
  exact ⟨T6, some (.ref s.heap.size), _, _, _, X8, rfl, rfl, rfl, (fun h => by cases h), ⟨⟨rfl, B6, ba3.like (X3.warmed.alike.symm.trans X6.warmed.alike) p6.1 f6.1 f6.2.1 f6.2.2.1, f6.2.1.trans bv3, by rw [X6.warmed.alike.findClass, f6.1]; exact bf3, by rw [f6.2.2.1, bs3]; simp, fun j hj => by rw [f6.2.2.2 j, if_pos (by omega)]; rfl, kp3.put p6 (Nat.le_refl _)⟩, by rw [p6.2.2, bh3, hh0]; simp⟩, fun fs hl => c8.trans (X8.areturnOut hexec rfl hret rfl (hb hbytes d58) hl)⟩
end Cmp3
namespace CodL
def yN : MethodName := ⟨"java/lang/StringUTF16", "coderFromArrayLen", "([BI)B"⟩
abbrev yB : ByteArray := jdk_52_method_15_code
theorem d0 : decode yB 0 = .ok (.iload_n 1, 1) := by decide +kernel
theorem d1 : decode yB 1 = .ok (.aload_n 0, 1) := by decide +kernel
theorem d2 : decode yB 2 = .ok (.arraylength, 1) := by decide +kernel
theorem d3 : decode yB 3 = .ok (.isub, 1) := by decide +kernel
theorem d4 : decode yB 4 = .ok (.bipush 31, 2) := by decide +kernel
theorem d6 : decode yB 6 = .ok (.iushr, 1) := by decide +kernel
theorem d7 : decode yB 7 = .ok (.i2b, 1) := by decide +kernel
theorem d8 : decode yB 8 = .ok (.ireturn, 1) := by decide +kernel
def site : List Cond := []
def tab : Cond := tabOf yN yB 2 (some .byte) site
def P (d : Addr) (B : Cell) (args : Array Value) (s : State) : Prop := args = #[.ref d, .int (Int32.ofNat B.slots.size)] ∧ Arr .byte d B s
def E (r : Option Value) (s u : State) : Prop := XT.PureE (some (.int 0)) r s u
/-- an array as long as the number of chars: LATIN1 -/
theorem law (l : Launch) (d : Addr) (B : Cell) : Law l yN 2 2 0 0 yB 2 (some .byte) site (P d B) E [] 0 0 := by
  refine Law.of_walk (plainFor_of_name (by decide +kernel)) (by decide +kernel) (by decide +kernel) (by decide) (fun _ _ h => by rw [h.1]; rfl) (fun _ U U' hal hh h => ⟨h.1, h.2.mv hal hh⟩) (fun r U U' V V' h1 hal h2 h => XT.PureE.mv r U U' V V' h1 hal h2 h) ?_
  intro p e s m args below meth c s₁ X0 hexec hbytes hml hret hlk hnm hown hh0 W hP
  obtain ⟨rfl, hB⟩ := hP
  have hB0 := hB.mv X0.warmed.alike hh0
  have c1 : Steps p.tables e below (s₁.setTop (entryFrame m #[.ref d, .int (Int32.ofNat B.slots.size)] 2)) (s₁.setTop (mkF m 0 #[.val (.ref d), .val (.int (Int32.ofNat B.slots.size))] [])) := entry rfl
  have c2 : Steps p.tables e below (s₁.setTop (entryFrame m #[.ref d, .int (Int32.ofNat B.slots.size)] 2)) (s₁.setTop (mkF m 2 #[.val (.ref d), .val (.int (Int32.ofNat B.slots.size))] [.ref d, .int (Int32.ofNat B.slots.size)])) := c1.trans (by
    refine XS.iloadN X0.here hexec rfl (hb hbytes d0) rfl ?_
    refine XS.aloadN X0.here hexec rfl (hb hbytes d1) rfl rfl ?_
    exact Steps.refl _)
  have c3 : Steps p.tables e below (s₁.setTop (entryFrame m #[.ref d, .int (Int32.ofNat B.slots.size)] 2)) (s₁.setTop (mkF m 8 #[.val (.ref d), .val (.int (Int32.ofNat B.slots.size))] [.int (lo8 (ushr (Int32.ofNat B.slots.size - Int32.ofNat B.slots.size) 31))])) := c2.trans (by
    refine X0.alen hexec hB0 rfl rfl (hb hbytes d2) ?_
    refine XS.isub X0.here hexec rfl (hb hbytes d3) rfl ?_
    refine bipushV X0.here hexec rfl 31 (hb hbytes d4) (by decide) ?_
    refine iushr X0.here hexec rfl (hb hbytes d6) rfl ?_
    refine i2b X0.here hexec rfl (hb hbytes d7) rfl ?_
    exact Steps.refl _)
  have e0 : lo8 (ushr (Int32.ofNat B.slots.size - Int32.ofNat B.slots.size) 31) = 0 := by rw [Int32.sub_self]; decide
  rw [e0] at c3
  exact ⟨s₁, some (.int 0), _, _, _, X0, rfl, rfl, rfl, (fun h => by cases h), ⟨rfl, hh0⟩, fun fs hl => c3.trans (X0.ireturnOut hexec hret rfl (Or.inr (Or.inr (Or.inl rfl))) (hb hbytes d8) hl)⟩
end CodL
/-- the String at a is Latin-1 over a new byte[] (the heap's one new cell): the low bytes of the len chars of A from o on; every cell but a is kept -/
def Got (a : Addr) (D : Cell) (fV fC : Field) (A : Cell) (o len : Nat) (r : Option Value) (s u : State) : Prop := r = none ∧ ∃ D' V : Cell, Blank "java/lang/String" a D' u ∧ Same D D' [fV.slot, fC.slot] ∧ D'.slots[fV.slot]? = some (.ref s.heap.size) ∧ D'.slots[fC.slot]? = some (.int 0) ∧ Arr .byte s.heap.size V u ∧ V.vm = .none ∧ u.vm.findClass "[B" = some V.cls ∧ V.slots.size = len ∧ (∀ j, j < len → V.slots[j]? = some (.int (lo8 (cv A (o + j))))) ∧ (∀ (y : Addr) (c : Cell), y ≠ a → s.heap[y]? = some c → u.heap[y]? = some c) ∧ u.heap.size = s.heap.size + 1
theorem Got.mv {a : Addr} {D A : Cell} {fV fC : Field} {o len : Nat} : ∀ r (U U' V V' : State), U'.heap = U.heap → V.vm.Alike V'.vm → V'.heap = V.heap → Got a D fV fC A o len r U V → Got a D fV fC A o len r U' V' :=
  fun r U U' V V' h1 hal h2 ⟨e0, D', X, a1, a2, a3, a4, a5, a6, a7, a8, a9, a10, a11⟩ => ⟨e0, D', X, a1.mv hal h2, a2, by rw [h1]; exact a3, a4, by rw [h1]; exact a5.mv hal h2, a6, by rw [hal.findClass]; exact a7, a8, a9, by rw [h1, h2]; exact a10, by rw [h1, h2]; exact a11⟩
namespace New4
def yN : MethodName := ⟨"java/lang/String", "<init>", "([CIILjava/lang/Void;)V"⟩
abbrev yB : ByteArray := jdk_42_method_149_code
theorem d0 : decode yB 0 = .ok (.aload_n 0, 1) := by decide +kernel
theorem d1 : decode yB 1 = .ok (.invokespecial 1, 3) := by decide +kernel
theorem d4 : decode yB 4 = .ok (.iload_n 3, 1) := by decide +kernel
theorem d5 : decode yB 5 = .ok (.ifCond (.ne) 22, 3) := by decide +kernel
theorem d27 : decode yB 27 = .ok (.getstatic 38, 3) := by decide +kernel
theorem d30 : decode yB 30 = .ok (.ifCond (.eq) 28, 3) := by decide +kernel
theorem d33 : decode yB 33 = .ok (.aload_n 1, 1) := by decide +kernel
theorem d34 : decode yB 34 = .ok (.iload_n 2, 1) := by decide +kernel
theorem d35 : decode yB 35 = .ok (.iload_n 3, 1) := by decide +kernel
theorem d36 : decode yB 36 = .ok (.invokestatic 177, 3) := by decide +kernel
theorem d39 : decode yB 39 = .ok (.astore 5, 2) := by decide +kernel
theorem d41 : decode yB 41 = .ok (.aload_n 0, 1) := by decide +kernel
theorem d42 : decode yB 42 = .ok (.aload 5, 2) := by decide +kernel
theorem d44 : decode yB 44 = .ok (.iload_n 3, 1) := by decide +kernel
theorem d45 : decode yB 45 = .ok (.invokestatic 47, 3) := by decide +kernel
theorem d48 : decode yB 48 = .ok (.putfield 15, 3) := by decide +kernel
theorem d51 : decode yB 51 = .ok (.aload_n 0, 1) := by decide +kernel
theorem d52 : decode yB 52 = .ok (.aload 5, 2) := by decide +kernel
theorem d54 : decode yB 54 = .ok (.putfield 9, 3) := by decide +kernel
theorem d57 : decode yB 57 = .ok (.return_, 1) := by decide +kernel
def site : List Cond := [.fieldLink "java/lang/String" 38 "java/lang/String" "COMPACT_STRINGS" "Z", Cmp3.tab, CodL.tab, .laysFinal "java/lang/String" "java/lang/String" "value" "[B", .fieldLink "java/lang/String" 9 "java/lang/String" "value" "[B", .laysFinal "java/lang/String" "java/lang/String" "coder" "B", .fieldLink "java/lang/String" 15 "java/lang/String" "coder" "B"] ++ objW "java/lang/String" 1 ++ staticW "java/lang/String" 177 Cmp3.yN ++ staticW "java/lang/String" 47 CodL.yN
def tab : Cond := tabOf yN yB 6 none site
def P (a : Addr) (D : Cell) (fV fC : Field) (b : Addr) (A : Cell) (z : Int32) (o len : Nat) (args : Array Value) (s : State) : Prop := args = #[.ref a, .ref b, .int (Int32.ofNat o), .int (Int32.ofNat len), .null] ∧ Blank "java/lang/String" a D s ∧ Found "java/lang/String" "value" "[B" fV s ∧ Found "java/lang/String" "coder" "B" fC s ∧ Ch b A s ∧ StaticIs s "java/lang/String" "COMPACT_STRINGS" "Z" (.int z) ∧ ¬ z = 0 ∧ 0 < len ∧ o + len ≤ A.slots.size ∧ len ≤ 536870912 ∧ ∀ i, i < len → ¬ 255 < cv A (o + i)
def E (a : Addr) (D : Cell) (fV fC : Field) (A : Cell) (o len : Nat) (r : Option Value) (s u : State) : Prop := Got a D fV fC A o len r s u
/-- len > 0, no char of the range above 255: a Latin-1 String of their low bytes -/
theorem law (l : Launch) (a : Addr) (D : Cell) (fV fC : Field) (b : Addr) (A : Cell) (z : Int32) (o len : Nat) : Law l yN 5 4 2 35 yB 6 none site (P a D fV fC b A z o len) (E a D fV fC A o len) [⟨a, fC.slot⟩, ⟨a, fV.slot⟩] 1 len := by
  refine Law.of_walk (plainFor_of_name (by decide +kernel)) (by decide +kernel) (by decide +kernel) (by decide) (fun _ _ h => by rw [h.1]; rfl) (fun _ U U' hal hh h => ⟨h.1, h.2.1.mv hal hh, h.2.2.1.al hal, h.2.2.2.1.al hal, h.2.2.2.2.1.mv hal hh, h.2.2.2.2.2.1.there hal hh, h.2.2.2.2.2.2⟩) (fun r U U' V V' h1 hal h2 h => Got.mv r U U' V V' h1 hal h2 h) ?_
  intro p e s m args below meth c s₁ X0 hexec hbytes hml hret hlk hnm hown hh0 W hP
  obtain ⟨rfl, hB, f1, f2, hA, s1, hz, l0, l1, l2, hp⟩ := hP
  have a31 := hA.1.2.2.2
  have c1 : Steps p.tables e below (s₁.setTop (entryFrame m #[.ref a, .ref b, .int (Int32.ofNat o), .int (Int32.ofNat len), .null] 6)) (s₁.setTop (mkF m 0 #[.val (.ref a), .val (.ref b), .val (.int (Int32.ofNat o)), .val (.int (Int32.ofNat len)), .val .null, .unset] [])) := entry rfl
  have c2 : Steps p.tables e below (s₁.setTop (entryFrame m #[.ref a, .ref b, .int (Int32.ofNat o), .int (Int32.ofNat len), .null] 6)) (s₁.setTop (mkF m 1 #[.val (.ref a), .val (.ref b), .val (.int (Int32.ofNat o)), .val (.int (Int32.ofNat len)), .val .null, .unset] [.ref a])) := c1.trans (by
    refine XS.aloadN X0.here hexec rfl (hb hbytes d0) rfl rfl ?_
    exact Steps.refl _)
  obtain ⟨T3, X3, q3, st3⟩ := X0.oinit hexec hown (wks W (objW "java/lang/String" 1)) (g := (mkF m 1 #[.val (.ref a), .val (.ref b), .val (.int (Int32.ofNat o)), .val (.int (Int32.ofNat len)), .val .null, .unset] [.ref a])) rfl (by rw [hml]; rfl) (rest := []) rfl (hb hbytes d1) (W := 0) (by show 2 * 0 + 0 ≤ _; decide) (Nat.le_of_ble_eq_true rfl) (Nat.le_of_ble_eq_true rfl)
  have hh3 := q3.trans hh0
  have c4 : Steps p.tables e below (s₁.setTop (entryFrame m #[.ref a, .ref b, .int (Int32.ofNat o), .int (Int32.ofNat len), .null] 6)) (T3.setTop (mkF m 27 #[.val (.ref a), .val (.ref b), .val (.int (Int32.ofNat o)), .val (.int (Int32.ofNat len)), .val .null, .unset] [])) := (c2.trans (st3 _ (Steps.refl _))).trans (by
    refine XS.iloadN X3.here hexec rfl (hb hbytes d4) rfl ?_
    refine XS.ifYes X3.here hexec rfl (pc0 := 5) rfl (hb hbytes d5) rfl (i0_ne_t (nz32 (by omega) l0)) (by decide) rfl ?_
    exact Steps.refl _)
  obtain ⟨T5, X5, q5, st5⟩ := X3.sget hexec hown (wk W (.fieldLink "java/lang/String" 38 "java/lang/String" "COMPACT_STRINGS" "Z")) s1 (fun _ _ h => by rw [hh3]; exact h) (g := (mkF m 27 #[.val (.ref a), .val (.ref b), .val (.int (Int32.ofNat o)), .val (.int (Int32.ofNat len)), .val .null, .unset] [])) rfl (hb hbytes d27)
  have hh5 := q5.trans hh3
  have c6 : Steps p.tables e below (s₁.setTop (entryFrame m #[.ref a, .ref b, .int (Int32.ofNat o), .int (Int32.ofNat len), .null] 6)) (T5.setTop (mkF m 30 #[.val (.ref a), .val (.ref b), .val (.int (Int32.ofNat o)), .val (.int (Int32.ofNat len)), .val .null, .unset] [.int z])) := c4.trans (st5 _ (Steps.refl _))
  have c7 : Steps p.tables e below (s₁.setTop (entryFrame m #[.ref a, .ref b, .int (Int32.ofNat o), .int (Int32.ofNat len), .null] 6)) (T5.setTop (mkF m 36 #[.val (.ref a), .val (.ref b), .val (.int (Int32.ofNat o)), .val (.int (Int32.ofNat len)), .val .null, .unset] [.int (Int32.ofNat len), .int (Int32.ofNat o), .ref b])) := c6.trans (by
    refine XS.ifNo X5.here hexec rfl (hb hbytes d30) rfl (i0_eq_f hz) ?_
    refine XS.aloadN X5.here hexec rfl (hb hbytes d33) rfl rfl ?_
    refine XS.iloadN X5.here hexec rfl (hb hbytes d34) rfl ?_
    refine XS.iloadN X5.here hexec rfl (hb hbytes d35) rfl ?_
    exact Steps.refl _)
  obtain ⟨v8, T8, X8, E8, g8⟩ := X5.callS hexec (Cmp3.law l b A o len) hown (wks W (staticW "java/lang/String" 177 Cmp3.yN)) (wk W Cmp3.tab) (W := 0) (Nat.le_of_ble_eq_true rfl) (Nat.le_of_ble_eq_true rfl) (Nat.le_refl _) (by show 0 + len ≤ len; omega) (g := (mkF m 36 #[.val (.ref a), .val (.ref b), .val (.int (Int32.ofNat o)), .val (.int (Int32.ofNat len)), .val .null, .unset] [.int (Int32.ofNat len), .int (Int32.ofNat o), .ref b])) rfl (by rw [hml]; rfl) c7 (argsL := [.ref b, .int (Int32.ofNat o), .int (Int32.ofNat len)]) (rest := []) rfl rfl (by show 2 * 0 + 0 ≤ _; decide) (hb hbytes d36) (⟨rfl, hA.mv X5.warmed.alike hh5, l1, l2, hp⟩)
  obtain ⟨e8, z8⟩ := E8
  obtain ⟨rfl, N, n1, n2, n3, n4, n5, n6⟩ := NewArr.mv _ T5 s _ _ hh5.symm (Vm.Alike.refl _) rfl e8
  rw [hh5] at z8
  have hB1 := hB.keep X8.warmed.alike (n6 _ _ hB.1)
  have hne : s.heap.size ≠ a := (Nat.ne_of_lt (Array.getElem?_eq_some_iff.mp hB.1).1).symm
  have c9 : Steps p.tables e below (s₁.setTop (entryFrame m #[.ref a, .ref b, .int (Int32.ofNat o), .int (Int32.ofNat len), .null] 6)) (T8.setTop (mkF m 39 #[.val (.ref a), .val (.ref b), .val (.int (Int32.ofNat o)), .val (.int (Int32.ofNat len)), .val .null, .unset] [.ref s.heap.size])) := g8
  have c10 : Steps p.tables e below (s₁.setTop (entryFrame m #[.ref a, .ref b, .int (Int32.ofNat o), .int (Int32.ofNat len), .null] 6)) (T8.setTop (mkF m 45 #[.val (.ref a), .val (.ref b), .val (.int (Int32.ofNat o)), .val (.int (Int32.ofNat len)), .val .null, .val (.ref s.heap.size)] [.int (Int32.ofNat N.slots.size), .ref s.heap.size, .ref a])) := by
    have hc : Steps p.tables e below (s₁.setTop (entryFrame m #[.ref a, .ref b, .int (Int32.ofNat o), .int (Int32.ofNat len), .null] 6)) (T8.setTop (mkF m 45 #[.val (.ref a), .val (.ref b), .val (.int (Int32.ofNat o)), .val (.int (Int32.ofNat len)), .val .null, .val (.ref s.heap.size)] [.int (Int32.ofNat len), .ref s.heap.size, .ref a])) := c9.trans (by
      refine XS.astore X8.here hexec rfl (hb hbytes d39) rfl rfl rfl ?_
      refine XS.aloadN X8.here hexec rfl (hb hbytes d41) rfl rfl ?_
      refine XS.aload X8.here hexec rfl (hb hbytes d42) rfl rfl ?_
      refine XS.iloadN X8.here hexec rfl (hb hbytes d44) rfl ?_
      exact Steps.refl _)
    rw [n4]; exact hc
  obtain ⟨v11, T11, X11, E11, g11⟩ := X8.callS hexec (CodL.law l s.heap.size N) hown (wks W (staticW "java/lang/String" 47 CodL.yN)) (wk W CodL.tab) (W := 1) (Nat.le_of_ble_eq_true rfl) (Nat.le_of_ble_eq_true rfl) (Nat.le_refl _) (by show 0 + len + 0 ≤ len; omega) (g := (mkF m 45 #[.val (.ref a), .val (.ref b), .val (.int (Int32.ofNat o)), .val (.int (Int32.ofNat len)), .val .null, .val (.ref s.heap.size)] [.int (Int32.ofNat N.slots.size), .ref s.heap.size, .ref a])) rfl (by rw [hml]; rfl) c10 (argsL := [.ref s.heap.size, .int (Int32.ofNat N.slots.size)]) (rest := [.ref a]) rfl rfl (by show 2 * 0 + (1 + 0) ≤ _; decide) (hb hbytes d45) (⟨rfl, n1⟩)
  obtain ⟨rfl, q11⟩ := E11
  have hB11 := hB1.mv (X8.warmed.alike.symm.trans X11.warmed.alike) q11
  have c12 : Steps p.tables e below (s₁.setTop (entryFrame m #[.ref a, .ref b, .int (Int32.ofNat o), .int (Int32.ofNat len), .null] 6)) (T11.setTop (mkF m 48 #[.val (.ref a), .val (.ref b), .val (.int (Int32.ofNat o)), .val (.int (Int32.ofNat len)), .val .null, .val (.ref s.heap.size)] [.int 0, .ref a])) := g11
  obtain ⟨T13, X13, p13, bl13, sl13, st13⟩ := X11.finit hexec hown (wk W (.fieldLink "java/lang/String" 15 "java/lang/String" "coder" "B")) (Or.inr ⟨_, (wk W (.laysFinal "java/lang/String" "java/lang/String" "coder" "B"))⟩) (Or.inl ⟨rfl, hnm⟩) f2 (Or.inl rfl) hB11 (t := .byte) (by decide +kernel) rfl (g := (mkF m 48 #[.val (.ref a), .val (.ref b), .val (.int (Int32.ofNat o)), .val (.int (Int32.ofNat len)), .val .null, .val (.ref s.heap.size)] [.int 0, .ref a])) rfl (rest := []) rfl (hb hbytes d48)
  have c14 : Steps p.tables e below (s₁.setTop (entryFrame m #[.ref a, .ref b, .int (Int32.ofNat o), .int (Int32.ofNat len), .null] 6)) (T13.setTop (mkF m 54 #[.val (.ref a), .val (.ref b), .val (.int (Int32.ofNat o)), .val (.int (Int32.ofNat len)), .val .null, .val (.ref s.heap.size)] [.ref s.heap.size, .ref a])) := (c12.trans (st13 _ (Steps.refl _))).trans (by
    refine XS.aloadN X13.here hexec rfl (hb hbytes d51) rfl rfl ?_
    refine XS.aload X13.here hexec rfl (hb hbytes d52) rfl rfl ?_
    exact Steps.refl _)
  obtain ⟨T15, X15, p15, bl15, sl15, st15⟩ := X13.finit hexec hown (wk W (.fieldLink "java/lang/String" 9 "java/lang/String" "value" "[B")) (Or.inr ⟨_, (wk W (.laysFinal "java/lang/String" "java/lang/String" "value" "[B"))⟩) (Or.inl ⟨rfl, hnm⟩) f1 (Or.inl rfl) bl13 (t := (.array .byte)) (by decide +kernel) rfl (g := (mkF m 54 #[.val (.ref a), .val (.ref b), .val (.int (Int32.ofNat o)), .val (.int (Int32.ofNat len)), .val .null, .val (.ref s.heap.size)] [.ref s.heap.size, .ref a])) rfl (rest := []) rfl (hb hbytes d54)
  have c16 : Steps p.tables e below (s₁.setTop (entryFrame m #[.ref a, .ref b, .int (Int32.ofNat o), .int (Int32.ofNat len), .null] 6)) (T15.setTop (mkF m 57 #[.val (.ref a), .val (.ref b), .val (.int (Int32.ofNat o)), .val (.int (Int32.ofNat len)), .val .null, .val (.ref s.heap.size)] [])) := c14.trans (st15 _ (Steps.refl _))
  have ap := apart (Or.inr ⟨_, (wk W (.laysFinal "java/lang/String" "java/lang/String" "value" "[B"))⟩) (Or.inr ⟨_, (wk W (.laysFinal "java/lang/String" "java/lang/String" "coder" "B"))⟩) f1 f2 (t₁ := .array .byte) (t₂ := .byte) (by decide +kernel) (by decide +kernel) (by decide)
  have al := X8.warmed.alike.symm.trans X15.warmed.alike
  have n7 : T11.heap[s.heap.size]? = some N := by rw [q11]; exact n1.1
  exact ⟨T15, none, _, _, _, X15, by simp, rfl, by omega, (fun _ => rfl), ⟨rfl, _, N, bl15, ((Same.refl D _).set _ (by simp)).set _ (by simp), sl15, (Cell.slots_setSlot_ne _ ap).trans sl13, n1.keep al (p15.other hne (p13.other hne n7)), n2, by rw [al.findClass]; exact n3, n4, n5, fun y c h1 h2 => p15.other h1 (p13.other h1 (by rw [q11]; exact n6 y c h2)), by rw [p15.2.2, p13.2.2, q11]; exact z8⟩, fun fs hl => c16.trans (X15.returnOut hexec hret (hb hbytes d57) hl)⟩
end New4
namespace New1
def yN : MethodName := ⟨"java/lang/String", "<init>", "([C)V"⟩
abbrev yB : ByteArray := jdk_42_method_3_code
theorem d0 : decode yB 0 = .ok (.aload_n 0, 1) := by decide +kernel
theorem d1 : decode yB 1 = .ok (.aload_n 1, 1) := by decide +kernel
theorem d2 : decode yB 2 = .ok (.iconst 0, 1) := by decide +kernel
theorem d3 : decode yB 3 = .ok (.aload_n 1, 1) := by decide +kernel
theorem d4 : decode yB 4 = .ok (.arraylength, 1) := by decide +kernel
theorem d5 : decode yB 5 = .ok (.aconst_null, 1) := by decide +kernel
theorem d6 : decode yB 6 = .ok (.invokespecial 27, 3) := by decide +kernel
theorem d9 : decode yB 9 = .ok (.return_, 1) := by decide +kernel
def site : List Cond := [New4.tab] ++ initW "java/lang/String" 27 New4.yN
def tab : Cond := tabOf yN yB 2 none site
def P (a : Addr) (D : Cell) (fV fC : Field) (b : Addr) (A : Cell) (z : Int32) (args : Array Value) (s : State) : Prop := args = #[.ref a, .ref b] ∧ Blank "java/lang/String" a D s ∧ Found "java/lang/String" "value" "[B" fV s ∧ Found "java/lang/String" "coder" "B" fC s ∧ Ch b A s ∧ StaticIs s "java/lang/String" "COMPACT_STRINGS" "Z" (.int z) ∧ ¬ z = 0 ∧ 0 < A.slots.size ∧ A.slots.size ≤ 536870912 ∧ ∀ i, i < A.slots.size → ¬ 255 < cv A i
def E (a : Addr) (D : Cell) (fV fC : Field) (A : Cell) (r : Option Value) (s u : State) : Prop := Got a D fV fC A 0 A.slots.size r s u
/-- new String(chars), not empty, no char above 255: a Latin-1 String of their low bytes -/
theorem law (l : Launch) (a : Addr) (D : Cell) (fV fC : Field) (b : Addr) (A : Cell) (z : Int32) : Law l yN 2 1 3 52 yB 2 none site (P a D fV fC b A z) (E a D fV fC A) [⟨a, fC.slot⟩, ⟨a, fV.slot⟩] 1 A.slots.size := by
  refine Law.of_walk (plainFor_of_name (by decide +kernel)) (by decide +kernel) (by decide +kernel) (by decide) (fun _ _ h => by rw [h.1]; rfl) (fun _ U U' hal hh h => ⟨h.1, h.2.1.mv hal hh, h.2.2.1.al hal, h.2.2.2.1.al hal, h.2.2.2.2.1.mv hal hh, h.2.2.2.2.2.1.there hal hh, h.2.2.2.2.2.2⟩) (fun r U U' V V' h1 hal h2 h => Got.mv r U U' V V' h1 hal h2 h) ?_
  intro p e s m args below meth c s₁ X0 hexec hbytes hml hret hlk hnm hown hh0 W hP
  obtain ⟨rfl, hB, f1, f2, hA, s1, hz, l0, l2, hp⟩ := hP
  have c1 : Steps p.tables e below (s₁.setTop (entryFrame m #[.ref a, .ref b] 2)) (s₁.setTop (mkF m 0 #[.val (.ref a), .val (.ref b)] [])) := entry rfl
  have c2 : Steps p.tables e below (s₁.setTop (entryFrame m #[.ref a, .ref b] 2)) (s₁.setTop (mkF m 6 #[.val (.ref a), .val (.ref b)] [.null, .int (Int32.ofNat A.slots.size), .int 0, .ref b, .ref a])) := c1.trans (by
    refine XS.aloadN X0.here hexec rfl (hb hbytes d0) rfl rfl ?_
    refine XS.aloadN X0.here hexec rfl (hb hbytes d1) rfl rfl ?_
    refine iconstV X0.here hexec rfl 0 (hb hbytes d2) (by decide) ?_
    refine XS.aloadN X0.here hexec rfl (hb hbytes d3) rfl rfl ?_
    refine X0.alen hexec (hA.1.mv X0.warmed.alike hh0) rfl rfl (hb hbytes d4) ?_
    refine XS.aconstNull X0.here hexec rfl (hb hbytes d5) ?_
    exact Steps.refl _)
  obtain ⟨v3, T3, X3, E3, g3⟩ := X0.callN hexec (New4.law l a D fV fC b A z 0 A.slots.size) rfl hown (wks W (initW "java/lang/String" 27 New4.yN)) (W New4.tab (by simp only [site, List.mem_cons, List.mem_append, true_or, or_true])) (W := 0) (Nat.le_of_ble_eq_true rfl) (Nat.le_of_ble_eq_true rfl) (Nat.le_refl _) (by show 0 + A.slots.size ≤ A.slots.size; omega) (g := (mkF m 6 #[.val (.ref a), .val (.ref b)] [.null, .int (Int32.ofNat A.slots.size), .int (Int32.ofNat 0), .ref b, .ref a])) rfl (by rw [hml]; rfl) c2 (argsL := [.ref b, .int (Int32.ofNat 0), .int (Int32.ofNat A.slots.size), .null]) (rest := []) rfl rfl (by show 2 * 0 + 0 ≤ _; decide) (hb hbytes d6) (⟨rfl, hB.mv X0.warmed.alike hh0, f1.al X0.warmed.alike, f2.al X0.warmed.alike, hA.mv X0.warmed.alike hh0, s1.there X0.warmed.alike hh0, hz, l0, by omega, l2, fun i hi => by rw [Nat.zero_add]; exact hp i hi⟩)
  have e0 := Got.mv _ s₁ s _ _ hh0.symm (Vm.Alike.refl _) rfl E3
  obtain rfl := e0.1
  have c4 : Steps p.tables e below (s₁.setTop (entryFrame m #[.ref a, .ref b] 2)) (T3.setTop (mkF m 9 #[.val (.ref a), .val (.ref b)] [])) := g3
  exact ⟨T3, none, _, _, _, X3, by simp, rfl, by omega, (fun _ => rfl), e0, fun fs hl => c4.trans (X3.returnOut hexec hret (hb hbytes d9) hl)⟩
theorem pays {l : Launch} {R : Room} {p : Program} {e : Env} {below : List Frame} {s : State} {sargs : Array Value} {len W : Nat} (a : Addr) (D : Cell) (fV fC : Field) (b : Addr) (A : Cell) (z : Int32) (htab : tab.before sargs s = true) (hfr : 4 ≤ R.frames) (hlo : W + 65 ≤ R.locals) :
    Back l R p e below s sargs yN len W (fun A₁ a₁ => A₁.cells + 1 ≤ R.cells ∧ A₁.slots + A.slots.size ≤ R.slots ∧ P a D fV fC b A z a₁ A₁.U) (fun A₁ _ v₁ B₁ => E a D fV fC A v₁ A₁.U B₁.U ∧ B₁.locs = A₁.locs ++ [⟨a, fC.slot⟩, ⟨a, fV.slot⟩] ∧ B₁.cells = A₁.cells + 1 ∧ B₁.slots = A₁.slots + A.slots.size) :=
  (law l a D fV fC b A z).pays htab hfr (by omega)
end New1
/-- the byte, read back as charAt reads it, is the char -/
theorem lo8_mask {x : Int32} (h0 : ¬ x < 0) (h1 : ¬ 255 < x) : lo8 x &&& 255 = x := by
  have t : ∀ k : Fin 256, lo8 (Int32.ofNat k.val) &&& 255 = Int32.ofNat k.val := by decide +kernel
  rw [Int32.lt_iff_toInt_lt] at h0 h1
  have e0 : (0 : Int32).toInt = 0 := rfl
  have e1 : (255 : Int32).toInt = 255 := rfl
  obtain ⟨k, hk⟩ : ∃ k : Nat, x.toInt = k := ⟨x.toInt.toNat, by omega⟩
  have hx : x = Int32.ofNat k := Int32.toInt_inj.mp (by rw [hk, Int32.toInt_ofNat_small (by omega)])
  rw [hx]
  exact t ⟨k, by omega⟩
end StrChars
namespace StrChars.Road
open Jvm Sem ClassFile Op Lib Jvm.Stand Jvm.Free Jvm.Free.XT
open Jvm.Lib.Cold (StaticIs)
abbrev ST : String := "java/lang/String"
/-- every table word that New1's law asks, flat -/
abbrev words : List Jvm.Cond := [.code New1.yN New1.yB 2 none, .initialized ST, .methodLink ST 27 New4.yN, .instanceMethod New4.yN,
  .code New4.yN New4.yB 6 none, .fieldLink ST 38 ST "COMPACT_STRINGS" "Z", .laysFinal ST ST "value" "[B", .fieldLink ST 9 ST "value" "[B", .laysFinal ST ST "coder" "B", .fieldLink ST 15 ST "coder" "B",
  .methodLink ST 1 Lib.objectInit, .instanceMethod Lib.objectInit, .code Lib.objectInit ⟨#[0xb1]⟩ 1 none, .methodLink ST 177 Cmp3.yN, .static Cmp3.yN, .methodLink ST 47 CodL.yN, .static CodL.yN,
  .code Cmp3.yN Cmp3.yB 6 (some (.array .byte)), .initialized U16, .arrayClass .byte, .methodLink U16 115 Cmp5.yN, .static Cmp5.yN, .code Cmp5.yN Cmp5.yB 7 (some .int), .code CodL.yN CodL.yB 2 (some .byte)]
theorem tab_of {a : Array Value} {s : State} (h : ∀ w ∈ words, w.before a s = true) : New1.tab.before a s = true := by
  have h5 : Cmp5.tab.before a s = true := unparts (wk h (.code Cmp5.yN Cmp5.yB 7 (some .int))) (wks h (.initialized Cmp5.yN.cls :: Cmp5.site))
  have hc : CodL.tab.before a s = true := unparts (wk h (.code CodL.yN CodL.yB 2 (some .byte))) (wks h (.initialized CodL.yN.cls :: CodL.site))
  have q5 : ∀ w ∈ Cmp5.tab :: words, w.before a s = true := fun w hw => (List.mem_cons.mp hw).elim (fun e => e ▸ h5) (h w)
  have h3 : Cmp3.tab.before a s = true := unparts (wk q5 (.code Cmp3.yN Cmp3.yB 6 (some (.array .byte)))) (wks q5 (.initialized Cmp3.yN.cls :: Cmp3.site))
  have q3 : ∀ w ∈ Cmp3.tab :: CodL.tab :: words, w.before a s = true := fun w hw => (List.mem_cons.mp hw).elim (fun e => e ▸ h3) fun hw => (List.mem_cons.mp hw).elim (fun e => e ▸ hc) (h w)
  have h4 : New4.tab.before a s = true := unparts (wk q3 (.code New4.yN New4.yB 6 none)) (wks q3 (.initialized New4.yN.cls :: New4.site))
  have q4 : ∀ w ∈ New4.tab :: words, w.before a s = true := fun w hw => (List.mem_cons.mp hw).elim (fun e => e ▸ h4) (h w)
  exact unparts (wk q4 (.code New1.yN New1.yB 2 none)) (wks q4 (.initialized New1.yN.cls :: New1.site))
/-- the words ride from the start Z to the walk's own state -/
theorem moved {Z s : State} {a0 args : Array Value} (hZ : Z.Warmed39 s.vm) (hw : ∀ d ∈ words, d.before a0 Z = true) : ∀ d ∈ words, d.before args s = true := fun d hd => by
  have q := hw d hd
  have t : ∀ d ∈ words, d = .arrayClass .byte ∨ (d.onTables && d.keepsFace) = true := by decide +kernel
  rcases t d hd with rfl | t
  · exact RoadKit.mvA hZ q
  · exact RoadKit.mv hZ q t
/-- WHAT COMES BACK, over the tables of the start Z: h the heap at the call, h' behind it -/
def Q (Z : State) (x : Addr) (A : Cell) (h : Heap) (v : Option Value) (h' : Heap) (L : List Loc) : Prop := v = none ∧ (∀ y ∈ L, y.base = x) ∧ RoadKit.Keep h h' [x] ∧ h'.size = h.size + 1 ∧ RoadKit.Exa Z h' x ST ∧ RoadKit.Fld Z h' x ST "value" "[B" (.ref h.size) ∧ RoadKit.Fld Z h' x ST "coder" "B" (.int 0) ∧
  (∃ V : Cell, RoadKit.Arr Z h' h.size V .byte ∧ V.vm = .none ∧ Z.vm.findClass "[B" = some V.cls ∧ V.slots.size = A.slots.size ∧ ∀ j, j < A.slots.size → V.slots[j]? = some (.int (lo8 (cv A j)))) ∧
  ∀ (O n d : String) (w : Value), RoadKit.Fld Z h x O n d w → RoadKit.slotOf Z O n d ≠ RoadKit.slotOf Z ST "value" "[B" → RoadKit.slotOf Z O n d ≠ RoadKit.slotOf Z ST "coder" "B" → RoadKit.Fld Z h' x O n d w
/-- **new String(chars) AT A CALL, IN THE ROAD'S FORM**: for specialBack behind newO: x the fresh String, b the char[] with the cell A -/
theorem back {p : Program} {l : Launch} {e : Env} {R : Room} {s : State} {args : Array Value} {below : List Frame} {len W : Nat} {Z : State} {a0 : Array Value} {h : Heap} (hZ : Z.Warmed39 s.vm) (hw : ∀ d ∈ words, d.before a0 Z = true) {kI : Nat} (wi : (Jvm.Cond.instantiable ST kI).before a0 Z = true)
    {x b : Addr} {A : Cell} {z : Int32} {v0 c0 : Value} (E : RoadKit.Exa Z h x ST) (V : RoadKit.Fld Z h x ST "value" "[B" v0) (C : RoadKit.Fld Z h x ST "coder" "B" c0) (K : RoadKit.Arr Z h b A .char) (hty : Typed .char A) (S : RoadKit.Sta Z h ST "COMPACT_STRINGS" "Z" (.int z)) (hz : ¬ z = 0)
    (l0 : 0 < A.slots.size) (l2 : A.slots.size ≤ 536870912) (hp : ∀ i, i < A.slots.size → ¬ 255 < cv A i) (hfr : 4 ≤ R.frames) (hlo : W + 65 ≤ R.locals) :
    Back l R p e below s args New1.yN len W (fun P a => a = #[.ref x, .ref b] ∧ P.U.heap = h ∧ P.cells + 1 ≤ R.cells ∧ P.slots + A.slots.size ≤ R.slots)
      (fun P _ v B => ∃ L, Q Z x A h v B.U.heap L ∧ B.locs = P.locs ++ L ∧ B.cells = P.cells + 1 ∧ B.slots = P.slots + A.slots.size) := by
  intro m meth c P g ig mk a X hg hsize hdg hW hn hp'
  obtain ⟨rfl, rfl, r1, r2⟩ := hp'
  have al : Z.vm.Alike P.U.vm := hZ.alike.trans X.warmed.alike
  obtain ⟨D, cfV, kV, iV, fV, hD, gV, stV, knV, obV, asV, slV⟩ := id V
  obtain ⟨D', cfC, kC, iC, fC, hD', gC, stC, -, -, asC, slC⟩ := id C
  cases hD.symm.trans hD'
  obtain ⟨D2, kD, e1, e2, e3, e4, e5⟩ := id E
  cases hD.symm.trans e1
  obtain ⟨c2, k2, i1, i2, i3, -⟩ := Cond.instantiable_spec wi
  cases e2.symm.trans i1
  cases e3.symm.trans i2
  obtain ⟨kU, u1, u2⟩ := al.2.2 _ _ e3
  have hB : Blank ST x D P.U := ⟨hD, ⟨knV, fun q hq => by rw [hq] at obV; cases obV⟩, by rw [al.findClass]; exact e2, kU, u1, by rw [u2]; exact i3, by rw [u2]; exact e5 i3⟩
  have F1 : Found ST "value" "[B" fV P.U := ⟨SBG.found_only al ⟨cfV, kV, iV, gV⟩, stV⟩
  have F2 : Found ST "coder" "B" fC P.U := ⟨SBG.found_only al ⟨cfC, kC, iC, gC⟩, stC⟩
  have hA : Ch b A P.U := ⟨⟨K.1, State.isArrayOf_alike al K.2.1, K.2.2, by omega⟩, hty⟩
  have hS : StaticIs P.U ST "COMPACT_STRINGS" "Z" (.int z) := by
    obtain ⟨cfS, iS, kS, fS, st, cS, t1, t2, t3, t4, t5, t6, t7⟩ := S
    exact StaticIs.there (s := { Z with heap := P.U.heap }) ⟨cfS, iS, kS, fS, st, cS, t1, t2, t3, t4, t5, (fun q => by rw [q] at t6; cases t6), t7⟩ al rfl
  obtain ⟨v, B, X', ⟨⟨hv, E', V', q1, q2, q3, q4, q5, q6, q7, q8, q9, q10, q11⟩, hl, hc, hs⟩, st⟩ := New1.pays x D fV fC b A z (tab_of (moved hZ hw)) hfr hlo m meth c P g ig mk _ X hg hsize hdg hW hn ⟨r1, r2, rfl, hB, F1, F2, hA, hS, hz, l0, l2, hp⟩
  have al' : Z.vm.Alike B.U.vm := hZ.alike.trans X'.warmed.alike
  have hsz : E'.slots.size = D.slots.size := by
    obtain ⟨-, -, -, kB, w1, w2, w3⟩ := q1
    obtain ⟨kB', y1, y2⟩ := al'.2.2 _ _ e3
    rw [q2.2.1] at w1
    cases w1.symm.trans y1
    rw [w3, e5 i3, y2]
  refine ⟨v, B, X', ⟨_, ⟨hv, ?_, ⟨by omega, fun y cy hy hn' => q10 y cy (by simpa using hn') hy, fun y cy hy => ?_⟩, q11, ⟨E', _, q1.1, by rw [q2.2.1]; exact e2, by rw [q2.2.1]; exact e3, by rw [q2.1]; exact obV, fun _ => by rw [hsz]; exact e5 i3⟩,
    ⟨E', cfV, kV, iV, fV, q1.1, gV, stV, by rw [q2.1]; exact knV, by rw [q2.1]; exact obV, by rw [q2.2.1]; exact asV, q3⟩, ⟨E', cfC, kC, iC, fC, q1.1, gC, stC, by rw [q2.1]; exact knV, by rw [q2.1]; exact obV, by rw [q2.2.1]; exact asC, q4⟩,
    ⟨V', ⟨q5.1, State.isArrayOf_alike al'.symm q5.2.1, q5.2.2.1⟩, q6, by rw [← al'.findClass]; exact q7, q8, fun j hj => by have := q9 j hj; rwa [Nat.zero_add] at this⟩, fun O n d w F n1 n2 => ?_⟩, hl, hc, hs⟩, st⟩
  · intro y hy
    simp only [List.mem_cons, List.not_mem_nil, or_false] at hy
    rcases hy with rfl | rfl <;> rfl
  · by_cases q : y = x
    · subst q
      cases hD.symm.trans hy
      exact ⟨E', q1.1, q2.2.1, q2.1, hsz⟩
    · exact ⟨cy, q10 y cy q hy, rfl, rfl, rfl⟩
  · obtain ⟨D3, cf, k, i, f, g1, g2, g3, g4, g5, g6, g7⟩ := F
    cases hD.symm.trans g1
    simp only [RoadKit.slotOf, g2, gV, gC, Option.map_some, Option.getD_some] at n1 n2
    exact ⟨E', cf, k, i, f, q1.1, g2, g3, by rw [q2.1]; exact g4, by rw [q2.1]; exact g5, by rw [q2.2.1]; exact g6, by rw [q2.2.2 f.slot (by simp [n1, n2])]; exact g7⟩
end StrChars.Road
namespace StrChars.Road
open Jvm Sem ClassFile Op Lib Jvm.Stand Jvm.Free Jvm.Free.XT
/-- WHAT COMES BACK, the byte[] as a list of values -/
def QA (Z : State) (x : Addr) (zn : Int32) (cs : List Int32) (h : Heap) (v : Option Value) (h' : Heap) (L : List Loc) : Prop := v = none ∧ (∀ y ∈ L, y.base = x) ∧ RoadKit.Keep h h' [x] ∧ h'.size = h.size + 1 ∧ RoadKit.Exa Z h' x ST ∧ RoadKit.Fld Z h' x ST "value" "[B" (.ref h.size) ∧ RoadKit.Fld Z h' x ST "coder" "B" (.int 0) ∧
  (∃ kb, Z.vm.findClass "[B" = some kb ∧ RoadKit.Arv Z h' h.size kb .byte zn (cs.map fun c => .int (lo8 c)) (.int 0)) ∧
  ∀ (O n d : String) (w : Value), RoadKit.Fld Z h x O n d w → RoadKit.slotOf Z O n d ≠ RoadKit.slotOf Z ST "value" "[B" → RoadKit.slotOf Z O n d ≠ RoadKit.slotOf Z ST "coder" "B" → RoadKit.Fld Z h' x O n d w
/-- **new String(chars) AT A CALL, THE ARRAYS AS LISTS**: the char[] at b holds cs, not empty, no char above 255 -/
theorem backArv {p : Program} {l : Launch} {e : Env} {R : Room} {s : State} {args : Array Value} {below : List Frame} {len W : Nat} {Z : State} {a0 : Array Value} {h : Heap} (hZ : Z.Warmed39 s.vm) (hw : ∀ d ∈ words, d.before a0 Z = true) {kI : Nat} (wi : (Jvm.Cond.instantiable ST kI).before a0 Z = true)
    {x b : Addr} {k : ClassId} {zn z : Int32} {cs : List Int32} {dv v0 c0 : Value} (E : RoadKit.Exa Z h x ST) (V : RoadKit.Fld Z h x ST "value" "[B" v0) (C : RoadKit.Fld Z h x ST "coder" "B" c0) (K : RoadKit.Arv Z h b k .char zn (cs.map Value.int) dv) (S : RoadKit.Sta Z h ST "COMPACT_STRINGS" "Z" (.int z)) (hz : ¬ z = 0)
    (hlen : zn.toNatClampNeg = cs.length) (h0 : 0 < cs.length) (hbig : cs.length ≤ 536870912) (hall : ∀ c ∈ cs, ¬ 255 < c) (hfr : 4 ≤ R.frames) (hlo : W + 65 ≤ R.locals) :
    Back l R p e below s args New1.yN len W (fun P a => a = #[.ref x, .ref b] ∧ P.U.heap = h ∧ P.cells + 1 ≤ R.cells ∧ P.slots + cs.length ≤ R.slots)
      (fun P _ v B => ∃ L, QA Z x zn cs h v B.U.heap L ∧ B.locs = P.locs ++ L ∧ B.cells = P.cells + 1 ∧ B.slots = P.slots + cs.length) := by
  obtain ⟨A, K1, K2, K3, K4, K5, K6⟩ := K
  have e : A.slots.size = cs.length := K3.trans hlen
  have hat : ∀ (i : Nat) (hi : i < cs.length), A.slots[i]? = some (.int cs[i]) := fun i hi => by rw [K5 i (by omega)]; simp [List.getD_eq_getElem?_getD, hi]
  have hcv : ∀ (i : Nat) (hi : i < cs.length), cv A i = cs[i] := fun i hi => by unfold cv; rw [hat i hi]
  have hty : Typed .char A := fun i v hv => by
    have hi : i < A.slots.size := (Array.getElem?_eq_some_iff.mp hv).1
    have q := K5 i hi
    rw [hv] at q
    rw [Option.some.inj q]
    exact K6 i hi
  refine Back.mono (back hZ hw wi E V C K1 hty S hz (by omega) (by omega) (fun i hi => by rw [hcv i (by omega)]; exact hall _ (List.getElem_mem _)) hfr hlo) (fun P a hp => ⟨hp.1, hp.2.1, hp.2.2.1, by rw [e]; exact hp.2.2.2⟩) (fun P a v B hp hq => ?_)
  obtain ⟨L, ⟨q1, q2, q3, q4, q5, q6, q7, ⟨V', v1, v2, v3, v4, v5⟩, q9⟩, hl, hc, hs⟩ := hq
  refine ⟨L, ⟨q1, q2, q3, q4, q5, q6, q7, ⟨V'.cls, v3, V', v1, rfl, by rw [v4, e, hlen], K4, fun i hi => ?_, fun i hi => ?_⟩, q9⟩, hl, hc, by rw [hs, e]⟩
  · have hi' : i < cs.length := by omega
    rw [v5 i (by omega), hcv i hi']; simp [List.getD_eq_getElem?_getD, hi']
  · have hi' : i < cs.length := by omega
    simp only [List.getD_eq_getElem?_getD, List.getElem?_map, List.getElem?_eq_getElem hi', Option.map_some, Option.getD_some]
    exact fits_lo8 _
end StrChars.Road
namespace StrChars.Road
open Jvm Sem ClassFile Op Lib Jvm.Stand Jvm.Free Jvm.Free.XT
/-- WHAT COMES BACK, in the writer's own shape -/
def QV (Z : State) (x : Addr) (N : Int32) (bs : List Int32) (h : Heap) (n0 : Nat) (v : Option Value) (h' : Heap) (L : List Loc) : Prop := v = none ∧ RoadKit.Fr n0 L ∧ RoadKit.Keep h h' [x] ∧ RoadKit.Exa Z h' x ST ∧ RoadKit.Fld Z h' x ST "coder" "B" (.int 0) ∧
  ∃ (t : Addr) (kb : ClassId), n0 ≤ t ∧ h.size ≤ t ∧ ¬ t = x ∧ RoadKit.Fld Z h' x ST "value" "[B" (.ref t) ∧ RoadKit.Arv Z h' t kb .byte N (bs.map Value.int) (.int 0)
/-- **new String(chars) AT A CALL, FOR THE WRITER**: a char[] of n known ints, each 0 to 255 -/
theorem backV {p : Program} {l : Launch} {e : Env} {R : Room} {s : State} {args : Array Value} {below : List Frame} {len W : Nat} {Z : State} {a0 : Array Value} {h : Heap} (hZ : Z.Warmed39 s.vm) (hw : ∀ d ∈ words, d.before a0 Z = true) {kI : Nat} (wi : (Jvm.Cond.instantiable ST kI).before a0 Z = true)
    {x b : Addr} {kC : ClassId} {cs bs : List Int32} {d v0 c0 : Value} {z N : Int32} {n n0 : Nat} (hx0 : n0 ≤ x) (hh0 : n0 ≤ h.size) (E : RoadKit.Exa Z h x ST) (V : RoadKit.Fld Z h x ST "value" "[B" v0) (C : RoadKit.Fld Z h x ST "coder" "B" c0) (K : RoadKit.Arv Z h b kC .char N (cs.map Value.int) d) (S : RoadKit.Sta Z h ST "COMPACT_STRINGS" "Z" (.int z)) (hz : ¬ z = 0)
    (hn : cs.length = n) (hN : N = Int32.ofNat n) (l0 : 0 < n) (l2 : n ≤ 4000) (hp : ∀ c ∈ cs, ¬ c < 0 ∧ ¬ (255 : Int32) < c) (hb : bs = cs.map (fun c => c.toInt8.toInt32)) (hfr : 4 ≤ R.frames) (hlo : W + 65 ≤ R.locals) :
    Back l R p e below s args (⟨"java/lang/String", "<init>", "([C)V"⟩ : MethodName) len W (fun P a => a = #[.ref x, .ref b] ∧ P.U.heap = h ∧ P.cells + 1 ≤ R.cells ∧ P.slots + n ≤ R.slots)
      (fun P _ v B => ∃ L, QV Z x N bs h n0 v B.U.heap L ∧ B.locs = P.locs ++ L ∧ B.cells = P.cells + 1 ∧ B.slots = P.slots + n) := by
  subst hn hN hb
  refine Back.mono (backArv hZ hw wi E V C K S hz (n32 (by omega)) l0 (by omega) (fun c hc => (hp c hc).2) hfr hlo) (fun P a hp => hp) (fun P a v B hp hq => ?_)
  obtain ⟨L, ⟨q1, q2, q3, q4, q5, q6, q7, ⟨kb, v1, v2⟩, q9⟩, hl, hc, hs⟩ := hq
  exact ⟨L, ⟨q1, fun y hy => by rw [q2 y hy]; exact hx0, q3, q5, q7, h.size, kb, hh0, Nat.le_refl _, Nat.ne_of_gt E.lt, q6, by rw [List.map_map]; exact v2⟩, hl, hc, hs⟩
end StrChars.Road
namespace StrChars
open Jvm Sem ClassFile Op Lib Jvm.Stand Jvm.Free.XT Jvm.Free.ALB Jvm.Free.JM Jvm.Free
open Jvm.Lib.Cold (StaticIs)
def hi8 (x : Int32) : Int32 := lo8 (x >>> ((8 : Int32) &&& 31))
/-- what StringUTF16.getChar makes of two bytes -/
def pairCh (u v : Int32) : Int32 := (((u &&& 255) <<< ((0 : Int32) &&& 31)) ||| ((v &&& 255) <<< ((8 : Int32) &&& 31))).toUInt32.toUInt16.toUInt32.toInt32
theorem lo8_and (x : Int32) : (lo8 x &&& 255).toBitVec.toNat = x.toBitVec.toNat % 256 := by
  have h : (lo8 x).toBitVec = (x.toBitVec.signExtend 8).signExtend 32 := by rw [lo8, Int8.toBitVec_toInt32, Int32.toBitVec_toInt8]
  rw [Int32.toBitVec_and, BitVec.toNat_and, h]
  have e : ((x.toBitVec.signExtend 8).signExtend 32).toNat % 256 = x.toBitVec.toNat % 256 := by
    rw [BitVec.toNat_signExtend]
    have hlt := x.toBitVec.isLt
    simp only [BitVec.toNat_setWidth, BitVec.toNat_signExtend]
    split <;> split <;> omega
  rw [← e]
  exact Nat.and_two_pow_sub_one_eq_mod _ 8
theorem pair_says {c : Int32} (h0 : ¬ c < 0) (h1 : ¬ 65535 < c) : pairCh (lo8 c) (hi8 c) = c := by
  rw [Int32.lt_iff_toInt_lt] at h0 h1
  have e0 : (0 : Int32).toInt = 0 := rfl
  have e1 : (65535 : Int32).toInt = 65535 := rfl
  have hc : c.toInt = c.toBitVec.toNat := by
    have := c.toBitVec.isLt
    have e : c.toInt = c.toBitVec.toInt := rfl
    rw [e] at h0 h1
    rw [e]
    rw [BitVec.toInt_eq_toNat_cond] at h0 h1 ⊢
    split at h0 <;> split <;> omega
  have hn : c.toBitVec.toNat < 65536 := by omega
  have a1 := lo8_and c
  have a2 : (hi8 c &&& 255).toBitVec.toNat = c.toBitVec.toNat / 256 := by
    rw [hi8, lo8_and]
    have e : ((8 : Int32) &&& 31) = 8 := by decide
    rw [e, Int32.toBitVec_shiftRight]
    have e2 : ((8 : Int32).toBitVec.smod 32) = 8#32 := by decide
    rw [e2, BitVec.sshiftRight_eq', BitVec.toNat_sshiftRight_of_msb_false (by rw [BitVec.msb_eq_false_iff_two_mul_lt]; omega)]
    show c.toBitVec.toNat >>> 8 % 256 = _
    rw [Nat.shiftRight_eq_div_pow]
    omega
  unfold pairCh
  apply Int32.toBitVec_inj.mp
  apply BitVec.eq_of_toNat_eq
  have f0 : ((0 : Int32) &&& 31) = 0 := by decide
  have f8 : ((8 : Int32) &&& 31) = 8 := by decide
  rw [f0, f8]
  have g : (((lo8 c &&& 255) <<< (0 : Int32)) ||| ((hi8 c &&& 255) <<< (8 : Int32))).toBitVec.toNat = c.toBitVec.toNat := by
    rw [Int32.toBitVec_or, Int32.toBitVec_shiftLeft, Int32.toBitVec_shiftLeft]
    have s0 : ((0 : Int32).toBitVec.smod 32) = 0#32 := by decide
    have s8 : ((8 : Int32).toBitVec.smod 32) = 8#32 := by decide
    rw [s0, s8, BitVec.toNat_or]
    simp only [BitVec.shiftLeft_eq', BitVec.toNat_shiftLeft, a1, a2]
    show (c.toBitVec.toNat % 256) <<< 0 % 2 ^ 32 ||| (c.toBitVec.toNat / 256) <<< 8 % 2 ^ 32 = _
    rw [Nat.shiftLeft_zero, Nat.mod_eq_of_lt (show c.toBitVec.toNat % 256 < 2 ^ 32 by omega), Nat.mod_eq_of_lt (show (c.toBitVec.toNat / 256) <<< 8 < 2 ^ 32 by rw [Nat.shiftLeft_eq]; omega), Nat.or_comm, ← Nat.shiftLeft_add_eq_or_of_lt (by omega), Nat.shiftLeft_eq]
    omega
  show BitVec.toNat (((((lo8 c &&& 255) <<< (0 : Int32)) ||| ((hi8 c &&& 255) <<< (8 : Int32))).toBitVec.setWidth 16).setWidth 32) = _
  rw [BitVec.toNat_setWidth, BitVec.toNat_setWidth, g]
  omega
end StrChars
namespace StrChars
open Jvm Sem ClassFile Op Lib Jvm.Stand Jvm.Free.XT Jvm.Free.ALB Jvm.Free.JM Jvm.Free
open Jvm.Lib.Cold (StaticIs)
/-- charAt's cast of a byte read back -/
def chr8 (u : Int32) : Int32 := (u &&& 255).toUInt32.toUInt16.toUInt32.toInt32
theorem chr8_lo8 {c : Int32} (h0 : ¬ c < 0) (h1 : ¬ 255 < c) : chr8 (lo8 c) = c := by
  have t : ∀ k : Fin 256, (Int32.ofNat k.val).toUInt32.toUInt16.toUInt32.toInt32 = Int32.ofNat k.val := by decide +kernel
  unfold chr8
  rw [lo8_mask h0 h1]
  rw [Int32.lt_iff_toInt_lt] at h0 h1
  have e0 : (0 : Int32).toInt = 0 := rfl
  have e1 : (255 : Int32).toInt = 255 := rfl
  obtain ⟨k, hk⟩ : ∃ k : Nat, c.toInt = k := ⟨c.toInt.toNat, by omega⟩
  have hx : c = Int32.ofNat k := Int32.toInt_inj.mp (by rw [hk, Int32.toInt_ofNat_small (by omega)])
  rw [hx]
  exact t ⟨k, by omega⟩
theorem narrow_ch {c : Int32} (h0 : ¬ c < 0) (h1 : ¬ 65535 < c) : narrow .char (.int c) = .int c := by
  have q : narrow .char (.int (pairCh (lo8 c) (hi8 c))) = .int (pairCh (lo8 c) (hi8 c)) := narrow_c _
  rwa [pair_says h0 h1] at q
/-- the array's cell V codes the n chars f 0 .. f (n - 1) by the coder cd, as the JDK does: coder 1 just where some char is above 255 -/
def Cod (cd : Int32) (n : Nat) (f : Nat → Int32) (V : Cell) : Prop := (cd = 0 ∧ V.slots.size = n ∧ ∀ j, j < n → V.slots[j]? = some (.int (lo8 (f j))) ∧ ¬ 255 < f j) ∨ (cd = 1 ∧ V.slots.size = 2 * n ∧ (∀ j, j < n → V.slots[2 * j]? = some (.int (lo8 (f j))) ∧ V.slots[2 * j + 1]? = some (.int (hi8 (f j)))) ∧ ∃ j, j < n ∧ 255 < f j)
theorem Cod.cd {cd : Int32} {n : Nat} {f : Nat → Int32} {V : Cell} (h : Cod cd n f V) : cd = 0 ∨ cd = 1 := h.imp (fun q => q.1) fun q => q.1
/-- **x is a String of the n chars f 0 .. f (n - 1)**, Latin-1 or UTF-16; its array at t has the cell V -/
def Txt (x t : Addr) (V : Cell) (cd : Int32) (n : Nat) (f : Nat → Int32) (U : State) : Prop := Exact "java/lang/String" x U ∧ Has x "java/lang/String" "value" "[B" (.ref t) U ∧ Has x "java/lang/String" "coder" "B" (.int cd) U ∧ XT.Arr .byte t V U ∧ Cod cd n f V ∧ ∀ j, j < n → ¬ f j < 0 ∧ ¬ 65535 < f j
theorem Txt.mv {x t : Addr} {V : Cell} {cd : Int32} {n : Nat} {f : Nat → Int32} {U U' : State} (h : Txt x t V cd n f U) (hal : U.vm.Alike U'.vm) (hh : U'.heap = U.heap) : Txt x t V cd n f U' := ⟨h.1.mv hal hh, h.2.1.mv hal hh, h.2.2.1.mv hal hh, h.2.2.2.1.mv hal hh, h.2.2.2.2⟩
namespace IsL
def yN : MethodName := ⟨"java/lang/String", "isLatin1", "()Z"⟩
abbrev yB : ByteArray := jdk_42_method_154_code
theorem d0 : decode yB 0 = .ok (.getstatic 38, 3) := by decide +kernel
theorem d3 : decode yB 3 = .ok (.ifCond (.eq) 14, 3) := by decide +kernel
theorem d6 : decode yB 6 = .ok (.aload_n 0, 1) := by decide +kernel
theorem d7 : decode yB 7 = .ok (.getfield 15, 3) := by decide +kernel
theorem d10 : decode yB 10 = .ok (.ifCond (.ne) 7, 3) := by decide +kernel
theorem d13 : decode yB 13 = .ok (.iconst 1, 1) := by decide +kernel
theorem d14 : decode yB 14 = .ok (.goto 4, 3) := by decide +kernel
theorem d17 : decode yB 17 = .ok (.iconst 0, 1) := by decide +kernel
theorem d18 : decode yB 18 = .ok (.ireturn, 1) := by decide +kernel
def site : List Cond := [.fieldLink "java/lang/String" 38 "java/lang/String" "COMPACT_STRINGS" "Z", .fieldLink "java/lang/String" 15 "java/lang/String" "coder" "B"]
def tab : Cond := tabOf yN yB 1 (some .boolean) site
def P (x : Addr) (cd z : Int32) (args : Array Value) (s : State) : Prop := args = #[.ref x] ∧ Has x "java/lang/String" "coder" "B" (.int cd) s ∧ (cd = 0 ∨ cd = 1) ∧ StaticIs s "java/lang/String" "COMPACT_STRINGS" "Z" (.int z) ∧ ¬ z = 0
def E (cd : Int32) (r : Option Value) (s u : State) : Prop := XT.PureE (some (.int (1 - cd))) r s u
theorem law (l : Launch) (x : Addr) (cd z : Int32) : Law l yN 1 0 0 0 yB 1 (some .boolean) site (P x cd z) (E cd) [] 0 0 := by
  refine Law.of_walk (plainFor_of_name (by decide +kernel)) (by decide +kernel) (by decide +kernel) (by decide) (fun _ _ h => by rw [h.1]; rfl) (fun _ U U' hal hh h => ⟨h.1, h.2.1.mv hal hh, h.2.2.1, h.2.2.2.1.there hal hh, h.2.2.2.2⟩) (fun r U U' V V' h1 hal h2 h => XT.PureE.mv r U U' V V' h1 hal h2 h) ?_
  intro p e s m args below meth c s₁ X0 hexec hbytes hml hret hlk hnm hown hh0 W hP
  obtain ⟨rfl, hx, hc, s1, hz⟩ := hP
  have c1 : Steps p.tables e below (s₁.setTop (entryFrame m #[.ref x] 1)) (s₁.setTop (mkF m 0 #[.val (.ref x)] [])) := entry rfl
  obtain ⟨T2, X2, q2, st2⟩ := X0.sget hexec hown (wk W (.fieldLink "java/lang/String" 38 "java/lang/String" "COMPACT_STRINGS" "Z")) s1 (fun _ _ h => by rw [hh0]; exact h) (g := (mkF m 0 #[.val (.ref x)] [])) rfl (hb hbytes d0)
  have hh2 := q2.trans hh0
  have c3 : Steps p.tables e below (s₁.setTop (entryFrame m #[.ref x] 1)) (T2.setTop (mkF m 7 #[.val (.ref x)] [.ref x])) := (c1.trans (st2 _ (Steps.refl _))).trans (by
    refine XS.ifNo X2.here hexec rfl (hb hbytes d3) rfl (i0_eq_f hz) ?_
    refine XS.aloadN X2.here hexec rfl (hb hbytes d6) rfl rfl ?_
    exact Steps.refl _)
  obtain ⟨T4, X4, q4, st4⟩ := X2.hget hexec hown (wk W (.fieldLink "java/lang/String" 15 "java/lang/String" "coder" "B")) (hx.mv X2.warmed.alike hh2) (g := (mkF m 7 #[.val (.ref x)] [.ref x])) rfl (rest := []) rfl (hb hbytes d7)
  have c5 : Steps p.tables e below (s₁.setTop (entryFrame m #[.ref x] 1)) (T4.setTop (mkF m 10 #[.val (.ref x)] [.int cd])) := c3.trans (st4 _ (Steps.refl _))
  have c6 : Steps p.tables e below (s₁.setTop (entryFrame m #[.ref x] 1)) (T4.setTop (mkF m 18 #[.val (.ref x)] [.int (1 - cd)])) := by
    rcases hc with rfl | rfl
    · exact c5.trans (by
        refine XS.ifNo X4.here hexec rfl (hb hbytes d10) rfl (i0_ne_f rfl) ?_
        refine iconstV X4.here hexec rfl 1 (hb hbytes d13) (by decide) ?_
        refine XS.goto X4.here hexec rfl (pc0 := 14) rfl (hb hbytes d14) (by decide) rfl ?_
        exact Steps.refl _)
    · exact c5.trans (by
        refine XS.ifYes X4.here hexec rfl (pc0 := 10) rfl (hb hbytes d10) rfl (i0_ne_t (by decide)) (by decide) rfl ?_
        refine iconstV X4.here hexec rfl 0 (hb hbytes d17) (by decide) ?_
        exact Steps.refl _)
  exact ⟨T4, some (.int (1 - cd)), _, _, _, X4, rfl, rfl, rfl, (fun h => by cases h), ⟨rfl, q4.trans hh2⟩, fun fs hl => c6.trans (X4.ireturnOut hexec hret (by rcases hc with rfl | rfl <;> rfl) (Or.inr (Or.inl rfl)) (hb hbytes d18) hl)⟩
end IsL
namespace LChA
def yN : MethodName := ⟨"java/lang/StringLatin1", "charAt", "([BI)C"⟩
abbrev yB : ByteArray := jdk_43_method_2_code
theorem d0 : decode yB 0 = .ok (.iload_n 1, 1) := by decide +kernel
theorem d1 : decode yB 1 = .ok (.aload_n 0, 1) := by decide +kernel
theorem d2 : decode yB 2 = .ok (.arraylength, 1) := by decide +kernel
theorem d3 : decode yB 3 = .ok (.invokestatic 9, 3) := by decide +kernel
theorem d6 : decode yB 6 = .ok (.aload_n 0, 1) := by decide +kernel
theorem d7 : decode yB 7 = .ok (.iload_n 1, 1) := by decide +kernel
theorem d8 : decode yB 8 = .ok (.baload, 1) := by decide +kernel
theorem d9 : decode yB 9 = .ok (.sipush 255, 3) := by decide +kernel
theorem d12 : decode yB 12 = .ok (.iand, 1) := by decide +kernel
theorem d13 : decode yB 13 = .ok (.i2c, 1) := by decide +kernel
theorem d14 : decode yB 14 = .ok (.ireturn, 1) := by decide +kernel
def site : List Cond := [JO.Str_checkIndex.tab] ++ staticW "java/lang/StringLatin1" 9 JO.Str_checkIndex.yN
def tab : Cond := tabOf yN yB 2 (some .char) site
def P (t : Addr) (V : Cell) (i : Nat) (u : Int32) (fm : Value) (args : Array Value) (s : State) : Prop := args = #[.ref t, .int (Int32.ofNat i)] ∧ XT.Arr .byte t V s ∧ V.slots[i]? = some (.int u) ∧ (StaticIs s "jdk/internal/util/Preconditions" "SIOOBE_FORMATTER" "Ljava/util/function/BiFunction;" fm ∧ fm.isRef = true)
def E (u : Int32) (r : Option Value) (s w : State) : Prop := XT.PureE (some (.int (chr8 u))) r s w
theorem law (l : Launch) (t : Addr) (V : Cell) (i : Nat) (u : Int32) (fm : Value) : Law l yN 2 2 2 27 yB 2 (some .char) site (P t V i u fm) (E u) [] 0 0 := by
  refine Law.of_walk (plainFor_of_name (by decide +kernel)) (by decide +kernel) (by decide +kernel) (by decide) (fun _ _ h => by rw [h.1]; rfl) (fun _ U U' hal hh h => ⟨h.1, h.2.1.mv hal hh, h.2.2.1, h.2.2.2.1.there hal hh, h.2.2.2.2⟩) (fun r U U' V V' h1 hal h2 h => XT.PureE.mv r U U' V V' h1 hal h2 h) ?_
  intro p e s m args below meth c s₁ X0 hexec hbytes hml hret hlk hnm hown hh0 W hP
  obtain ⟨rfl, hV, hu, s1, rf⟩ := hP
  have v31 := hV.2.2.2
  have hi : i < V.slots.size := (Array.getElem?_eq_some_iff.mp hu).1
  have c1 : Steps p.tables e below (s₁.setTop (entryFrame m #[.ref t, .int (Int32.ofNat i)] 2)) (s₁.setTop (mkF m 0 #[.val (.ref t), .val (.int (Int32.ofNat i))] [])) := entry rfl
  have c2 : Steps p.tables e below (s₁.setTop (entryFrame m #[.ref t, .int (Int32.ofNat i)] 2)) (s₁.setTop (mkF m 3 #[.val (.ref t), .val (.int (Int32.ofNat i))] [.int (Int32.ofNat V.slots.size), .int (Int32.ofNat i)])) := c1.trans (by
    refine XS.iloadN X0.here hexec rfl (hb hbytes d0) rfl ?_
    refine XS.aloadN X0.here hexec rfl (hb hbytes d1) rfl rfl ?_
    refine X0.alen hexec (hV.mv X0.warmed.alike hh0) rfl rfl (hb hbytes d2) ?_
    exact Steps.refl _)
  obtain ⟨v3, T3, X3, E3, g3⟩ := X0.callS hexec (JO.Str_checkIndex.law l (Int32.ofNat i) (Int32.ofNat V.slots.size) fm) hown (wks W (staticW "java/lang/StringLatin1" 9 JO.Str_checkIndex.yN)) (wk W JO.Str_checkIndex.tab) (W := 0) (Nat.le_of_ble_eq_true rfl) (Nat.le_of_ble_eq_true rfl) (Nat.le_refl _) (Nat.le_refl _) (g := (mkF m 3 #[.val (.ref t), .val (.int (Int32.ofNat i))] [.int (Int32.ofNat V.slots.size), .int (Int32.ofNat i)])) rfl (by rw [hml]; rfl) c2 (argsL := [.int (Int32.ofNat i), .int (Int32.ofNat V.slots.size)]) (rest := []) rfl rfl (by show 2 * 0 + 0 ≤ _; decide) (hb hbytes d3) (⟨rfl, rf, s1.there X0.warmed.alike hh0, Int32.ofNat_not_neg (by omega), lt32 v31 hi⟩)
  obtain ⟨rfl, q3⟩ := E3
  have hh3 := q3.trans hh0
  have c4 : Steps p.tables e below (s₁.setTop (entryFrame m #[.ref t, .int (Int32.ofNat i)] 2)) (T3.setTop (mkF m 14 #[.val (.ref t), .val (.int (Int32.ofNat i))] [.int (chr8 u)])) := Steps.trans g3 (by
    refine XS.aloadN X3.here hexec rfl (hb hbytes d6) rfl rfl ?_
    refine XS.iloadN X3.here hexec rfl (hb hbytes d7) rfl ?_
    refine X3.aget hexec (hV.mv X3.warmed.alike hh3) rfl hu rfl rfl (hb hbytes d8) ?_
    refine sipushV X3.here hexec rfl 255 (hb hbytes d9) (by decide) ?_
    refine XS.iand X3.here hexec rfl (hb hbytes d12) rfl ?_
    refine i2c X3.here hexec rfl (hb hbytes d13) rfl ?_
    exact Steps.refl _)
  exact ⟨T3, some (.int (chr8 u)), _, _, _, X3, rfl, rfl, rfl, (fun h => by cases h), ⟨rfl, hh3⟩, fun fs hl => c4.trans (X3.ireturnOut hexec hret (narrow_c _) (Or.inr (Or.inr (Or.inr (Or.inl rfl)))) (hb hbytes d14) hl)⟩
end LChA
end StrChars
namespace StrChars.Road
open Jvm Sem ClassFile Op Lib Jvm.Stand Jvm.Free Jvm.Free.XT
open Jvm.Lib.Cold (StaticIs)
theorem consq {a : Array Value} {s : State} {c : Jvm.Cond} {L : List Jvm.Cond} (h0 : c.before a s = true) (h : ∀ w ∈ L, w.before a s = true) : ∀ w ∈ c :: L, w.before a s = true := fun w hw => (List.mem_cons.mp hw).elim (fun e => e ▸ h0) (h w)
/-- the bytes of the chars cs, low before high -/
def wideBytes : List Int32 → List Value
  | [] => []
  | c :: cs => .int (lo8 c) :: .int (hi8 c) :: wideBytes cs
theorem wide_lo (d : Value) : ∀ (cs : List Int32) (j : Nat), j < cs.length → (wideBytes cs).getD (2 * j) d = .int (lo8 (cs.getD j 0))
  | [], j, h => absurd h (Nat.not_lt_zero j)
  | c :: cs, 0, _ => rfl
  | c :: cs, j + 1, h => by
    have q := wide_lo d cs j (by simpa using h)
    rw [show 2 * (j + 1) = 2 * j + 1 + 1 from by omega]
    simpa [wideBytes] using q
theorem wide_hi (d : Value) : ∀ (cs : List Int32) (j : Nat), j < cs.length → (wideBytes cs).getD (2 * j + 1) d = .int (hi8 (cs.getD j 0))
  | [], j, h => absurd h (Nat.not_lt_zero j)
  | c :: cs, 0, _ => rfl
  | c :: cs, j + 1, h => by
    have q := wide_hi d cs j (by simpa using h)
    rw [show 2 * (j + 1) + 1 = 2 * j + 1 + 1 + 1 from by omega]
    simpa [wideBytes] using q
theorem low_at (d : Value) (cs : List Int32) (j : Nat) (h : j < cs.length) : (cs.map fun c => Value.int (lo8 c)).getD j d = .int (lo8 (cs.getD j 0)) := by
  simp [List.getD_eq_getElem?_getD, h]
/-- an array of N2 bytes vs codes the chars cs by the coder cd -/
def CodA (cs : List Int32) (cd N2 : Int32) (vs : List Value) : Prop := (cd = 0 ∧ N2 = Int32.ofNat cs.length ∧ vs = (cs.map fun c => Value.int (lo8 c)) ∧ ∀ c ∈ cs, ¬ 255 < c) ∨ (cd = 1 ∧ N2 = Int32.ofNat (2 * cs.length) ∧ vs = wideBytes cs ∧ ∃ c ∈ cs, 255 < c)
theorem CodA.cod {cs : List Int32} {cd N2 : Int32} {vs : List Value} {V : Cell} (h : CodA cs cd N2 vs) (hn : 2 * cs.length < 2 ^ 31) (hs : V.slots.size = N2.toNatClampNeg) (hv : RoadKit.Has V vs (.int 0)) : Cod cd cs.length (fun j => cs.getD j 0) V := by
  rcases h with ⟨rfl, rfl, rfl, h⟩ | ⟨rfl, rfl, rfl, c, hc, hw⟩
  · rw [n32 (by omega)] at hs
    exact Or.inl ⟨rfl, hs, fun j hj => ⟨by rw [hv j (by omega), low_at _ _ _ hj], by
      have e : cs.getD j 0 = cs[j] := by simp [List.getD_eq_getElem?_getD, hj]
      show ¬ 255 < cs.getD j 0
      rw [e]; exact h _ (List.getElem_mem _)⟩⟩
  · rw [n32 (by omega)] at hs
    obtain ⟨j, hj, rfl⟩ := List.getElem_of_mem hc
    exact Or.inr ⟨rfl, hs, fun j hj => ⟨by rw [hv _ (by omega), wide_lo _ _ _ hj], by rw [hv _ (by omega), wide_hi _ _ _ hj]⟩, j, hj, by
      have e : cs.getD j 0 = cs[j] := by simp [List.getD_eq_getElem?_getD, hj]
      show 255 < cs.getD j 0
      rw [e]; exact hw⟩
/-- an object of exactly java/lang/String, its two fields found: as the laws ask it -/
theorem strObj {Z U : State} {a0 : Array Value} {kI : Nat} (wi : (Jvm.Cond.instantiable ST kI).before a0 Z = true) (al : Z.vm.Alike U.vm) {x : Addr} {v0 c0 : Value} (E : RoadKit.Exa Z U.heap x ST) (V : RoadKit.Fld Z U.heap x ST "value" "[B" v0) (C : RoadKit.Fld Z U.heap x ST "coder" "B" c0) :
    ∃ (D : Cell) (fV fC : Field), Blank ST x D U ∧ Found ST "value" "[B" fV U ∧ Found ST "coder" "B" fC U ∧ D.slots[fV.slot]? = some v0 ∧ D.slots[fC.slot]? = some c0 ∧ RoadKit.slotOf Z ST "value" "[B" = fV.slot ∧ RoadKit.slotOf Z ST "coder" "B" = fC.slot := by
  obtain ⟨D, cfV, kV, iV, fV, hD, gV, stV, knV, obV, asV, slV⟩ := V
  obtain ⟨D', cfC, kC, iC, fC, hD', gC, stC, -, -, asC, slC⟩ := C
  cases hD.symm.trans hD'
  obtain ⟨D2, kD, e1, e2, e3, e4, e5⟩ := E
  cases hD.symm.trans e1
  obtain ⟨c2, k2, i1, i2, i3, -⟩ := Cond.instantiable_spec wi
  cases e2.symm.trans i1
  cases e3.symm.trans i2
  obtain ⟨kU, u1, u2⟩ := al.2.2 _ _ e3
  exact ⟨D, fV, fC, ⟨hD, ⟨knV, fun q hq => by rw [hq] at obV; cases obV⟩, by rw [al.findClass]; exact e2, kU, u1, by rw [u2]; exact i3, by rw [u2]; exact e5 i3⟩, ⟨SBG.found_only al ⟨cfV, kV, iV, gV⟩, stV⟩, ⟨SBG.found_only al ⟨cfC, kC, iC, gC⟩, stC⟩, slV, slC, by simp [RoadKit.slotOf, gV], by simp [RoadKit.slotOf, gC]⟩
theorem sta_is {Z U : State} (al : Z.vm.Alike U.vm) {C n d : String} {v : Value} (S : RoadKit.Sta Z U.heap C n d v) : StaticIs U C n d v := by
  obtain ⟨cfS, iS, kS, fS, st, cS, t1, t2, t3, t4, t5, t6, t7⟩ := S
  exact StaticIs.there (s := { Z with heap := U.heap }) ⟨cfS, iS, kS, fS, st, cS, t1, t2, t3, t4, t5, (fun q => by rw [q] at t6; cases t6), t7⟩ al rfl
end StrChars.Road
namespace StrChars.Road
open Jvm Sem ClassFile Op Lib Jvm.Stand Jvm.Free Jvm.Free.XT
open Jvm.Lib.Cold (StaticIs)
/-- the road's facts of a String, as the laws ask it -/
theorem txt_of {Z U : State} {a0 : Array Value} {kI : Nat} (wi : (Jvm.Cond.instantiable ST kI).before a0 Z = true) (al : Z.vm.Alike U.vm) {x t : Addr} {kb : ClassId} {cs : List Int32} {cd N2 : Int32} {vs : List Value} (E : RoadKit.Exa Z U.heap x ST) (V : RoadKit.Fld Z U.heap x ST "value" "[B" (.ref t)) (C : RoadKit.Fld Z U.heap x ST "coder" "B" (.int cd)) (K : RoadKit.Arv Z U.heap t kb .byte N2 vs (.int 0)) (hc : CodA cs cd N2 vs) (hb : ∀ c ∈ cs, ¬ c < 0 ∧ ¬ (65535 : Int32) < c) (l2 : cs.length ≤ 4000) :
    ∃ A, Txt x t A cd cs.length (fun j => cs.getD j 0) U := by
  obtain ⟨A, K1, K2, K3, K4, K5, K6⟩ := K
  have hcod := hc.cod (by omega) K3 K5
  obtain ⟨D, fV, fC, hB, F1, F2, g1, g2, -, -⟩ := strObj wi al E V C
  exact ⟨A, ⟨_, hB.2.2.1, D, hB.1, rfl, by cases q : D.vm <;> first | rfl | exact absurd q (hB.2.1.2 _)⟩, Has.of hB F1 g1, Has.of hB F2 g2, ⟨K1.1, State.isArrayOf_alike al K1.2.1, K1.2.2, by rcases hcod with ⟨-, q, -⟩ | ⟨-, q, -⟩ <;> omega⟩, hcod, fun j hj => by
    have e : cs.getD j 0 = cs[j] := by simp [List.getD_eq_getElem?_getD, hj]
    show ¬ cs.getD j 0 < 0 ∧ ¬ 65535 < cs.getD j 0
    rw [e]; exact hb _ (List.getElem_mem _)⟩
end StrChars.Road
namespace StrChars
open Jvm Sem ClassFile Op Lib Jvm.Stand Jvm.Free.XT Jvm.Free.ALB Jvm.Free.JM Jvm.Free
open Jvm.Lib.Cold (StaticIs)
namespace ChN
def yN : MethodName := ⟨"java/lang/String", "charAt", "(I)C"⟩
abbrev yB : ByteArray := jdk_42_method_56_code
theorem d0 : decode yB 0 = .ok (.aload_n 0, 1) := by decide +kernel
theorem d1 : decode yB 1 = .ok (.invokevirtual 492, 3) := by decide +kernel
theorem d4 : decode yB 4 = .ok (.ifCond (.eq) 12, 3) := by decide +kernel
theorem d7 : decode yB 7 = .ok (.aload_n 0, 1) := by decide +kernel
theorem d8 : decode yB 8 = .ok (.getfield 9, 3) := by decide +kernel
theorem d11 : decode yB 11 = .ok (.iload_n 1, 1) := by decide +kernel
theorem d12 : decode yB 12 = .ok (.invokestatic 495, 3) := by decide +kernel
theorem d15 : decode yB 15 = .ok (.ireturn, 1) := by decide +kernel
def site : List Cond := [.fieldLink "java/lang/String" 9 "java/lang/String" "value" "[B", IsL.tab, LChA.tab] ++ virtW "java/lang/String" 492 "java/lang/String" IsL.yN IsL.yN ++ staticW "java/lang/String" 495 LChA.yN
def tab : Cond := tabOf yN yB 2 (some .char) site
def P (x t : Addr) (V : Cell) (n : Nat) (f : Nat → Int32) (z : Int32) (fm : Value) (i : Nat) (args : Array Value) (s : State) : Prop := args = #[.ref x, .int (Int32.ofNat i)] ∧ Txt x t V 0 n f s ∧ i < n ∧ StaticIs s "java/lang/String" "COMPACT_STRINGS" "Z" (.int z) ∧ ¬ z = 0 ∧ StaticIs s "jdk/internal/util/Preconditions" "SIOOBE_FORMATTER" "Ljava/util/function/BiFunction;" fm ∧ fm.isRef = true
def E (f : Nat → Int32) (i : Nat) (r : Option Value) (s u : State) : Prop := XT.PureE (some (.int (f i))) r s u
/-- charAt(i) of a Latin-1 String of n chars, i < n: f i -/
theorem law (l : Launch) (x t : Addr) (V : Cell) (n : Nat) (f : Nat → Int32) (z : Int32) (fm : Value) (i : Nat) : Law l yN 2 1 3 40 yB 2 (some .char) site (P x t V n f z fm i) (E f i) [] 0 0 := by
  refine Law.of_walk (plainFor_of_name (by decide +kernel)) (by decide +kernel) (by decide +kernel) (by decide) (fun _ _ h => by rw [h.1]; rfl) (fun _ U U' hal hh h => ⟨h.1, h.2.1.mv hal hh, h.2.2.1, h.2.2.2.1.there hal hh, h.2.2.2.2.1, h.2.2.2.2.2.1.there hal hh, h.2.2.2.2.2.2⟩) (fun r U U' V V' h1 hal h2 h => XT.PureE.mv r U U' V V' h1 hal h2 h) ?_
  intro p e s m args below meth c s₁ X0 hexec hbytes hml hret hlk hnm hown hh0 W hP
  obtain ⟨rfl, hx, hi, s1, hz, s3, rf⟩ := hP
  have v31 := hx.2.2.2.1.2.2.2
  have hr := hx.2.2.2.2.2 i hi
  have hx0 := hx.mv X0.warmed.alike hh0
  have c1 : Steps p.tables e below (s₁.setTop (entryFrame m #[.ref x, .int (Int32.ofNat i)] 2)) (s₁.setTop (mkF m 1 #[.val (.ref x), .val (.int (Int32.ofNat i))] [.ref x])) := Steps.trans (entry rfl) (by
    show Steps p.tables e below (s₁.setTop (mkF m 0 #[.val (.ref x), .val (.int (Int32.ofNat i))] [])) _
    refine XS.aloadN X0.here hexec rfl (hb hbytes d0) rfl rfl ?_
    exact Steps.refl _)
  obtain ⟨v2, T2, X2, E2, g2⟩ := X0.callV hexec (IsL.law l x 0 z) hown (wks W (virtW "java/lang/String" 492 "java/lang/String" IsL.yN IsL.yN)) rfl (by decide) (wk W IsL.tab) (W := 0) (Nat.le_of_ble_eq_true rfl) (Nat.le_of_ble_eq_true rfl) (Nat.le_refl _) (Nat.le_refl _) (hx0.1.fc X0.warmed.alike) hx0.1.is (g := (mkF m 1 #[.val (.ref x), .val (.int (Int32.ofNat i))] [.ref x])) rfl (by rw [hml]; rfl) c1 (argsL := []) (rest := []) rfl rfl (by show 2 * 0 + 0 ≤ _; decide) (hb hbytes d1) (⟨rfl, hx0.2.2.1, hx.2.2.2.2.1.cd, s1.there X0.warmed.alike hh0, hz⟩)
  obtain ⟨rfl, q2⟩ := E2
  have hh2 := q2.trans hh0
  have hx2 := hx.mv X2.warmed.alike hh2
  obtain ⟨-, k1, k2⟩ | ⟨k0, -⟩ := hx.2.2.2.2.1
  · have c3 : Steps p.tables e below (s₁.setTop (entryFrame m #[.ref x, .int (Int32.ofNat i)] 2)) (T2.setTop (mkF m 8 #[.val (.ref x), .val (.int (Int32.ofNat i))] [.ref x])) := Steps.trans g2 (by
      refine XS.ifNo X2.here hexec rfl (hb hbytes d4) rfl (i0_eq_f (by decide)) ?_
      refine XS.aloadN X2.here hexec rfl (hb hbytes d7) rfl rfl ?_
      exact Steps.refl _)
    obtain ⟨T4, X4, q4, st4⟩ := X2.hget hexec hown (wk W (.fieldLink "java/lang/String" 9 "java/lang/String" "value" "[B")) hx2.2.1 (g := (mkF m 8 #[.val (.ref x), .val (.int (Int32.ofNat i))] [.ref x])) rfl (rest := []) rfl (hb hbytes d8)
    have hh4 := q4.trans hh2
    have c5 : Steps p.tables e below (s₁.setTop (entryFrame m #[.ref x, .int (Int32.ofNat i)] 2)) (T4.setTop (mkF m 12 #[.val (.ref x), .val (.int (Int32.ofNat i))] [.int (Int32.ofNat i), .ref t])) := (c3.trans (st4 _ (Steps.refl _))).trans (by
      refine XS.iloadN X4.here hexec rfl (hb hbytes d11) rfl ?_
      exact Steps.refl _)
    obtain ⟨v6, T6, X6, E6, g6⟩ := X4.callS hexec (LChA.law l t V i (lo8 (f i)) fm) hown (wks W (staticW "java/lang/String" 495 LChA.yN)) (wk W LChA.tab) (W := 0) (Nat.le_of_ble_eq_true rfl) (Nat.le_of_ble_eq_true rfl) (Nat.le_refl _) (Nat.le_refl _) (g := (mkF m 12 #[.val (.ref x), .val (.int (Int32.ofNat i))] [.int (Int32.ofNat i), .ref t])) rfl (by rw [hml]; rfl) c5 (argsL := [.ref t, .int (Int32.ofNat i)]) (rest := []) rfl rfl (by show 2 * 0 + 0 ≤ _; decide) (hb hbytes d12) (⟨rfl, hx.2.2.2.1.mv X4.warmed.alike hh4, (k2 i hi).1, s3.there X4.warmed.alike hh4, rf⟩)
    obtain ⟨rfl, q6⟩ := E6
    rw [chr8_lo8 hr.1 (k2 i hi).2] at g6
    exact ⟨T6, some (.int (f i)), _, _, _, X6, rfl, rfl, rfl, (fun h => by cases h), ⟨rfl, q6.trans hh4⟩, fun fs hl => Steps.trans g6 (X6.ireturnOut hexec hret (narrow_ch hr.1 hr.2) (Or.inr (Or.inr (Or.inr (Or.inl rfl)))) (hb hbytes d15) hl)⟩
  · exact absurd k0 (by decide)
theorem pays {l : Launch} {R : Room} {p : Program} {e : Env} {below : List Frame} {s : State} {sargs : Array Value} {len W : Nat} (x t : Addr) (V : Cell) (n : Nat) (f : Nat → Int32) (z : Int32) (fm : Value) (i : Nat) (htab : tab.before sargs s = true) (hfr : 4 ≤ R.frames) (hlo : W + 53 ≤ R.locals) :
    Back l R p e below s sargs yN len W (fun A₁ a₁ => A₁.cells + 0 ≤ R.cells ∧ A₁.slots + 0 ≤ R.slots ∧ P x t V n f z fm i a₁ A₁.U) (fun A₁ _ v₁ B₁ => E f i v₁ A₁.U B₁.U ∧ B₁.locs = A₁.locs ++ [] ∧ B₁.cells = A₁.cells + 0 ∧ B₁.slots = A₁.slots + 0) :=
  (law l x t V n f z fm i).pays htab hfr (by omega)
end ChN
end StrChars
namespace StrChars.Road
open Jvm Sem ClassFile Op Lib Jvm.Stand Jvm.Free Jvm.Free.XT
open Jvm.Lib.Cold (StaticIs)
/-- the words of String.charAt(int), the Latin-1 road alone -/
abbrev wordsChN : List Jvm.Cond := [.code ChN.yN ChN.yB 2 (some .char), .initialized ST, .fieldLink ST 9 ST "value" "[B", .fieldLink ST 38 ST "COMPACT_STRINGS" "Z", .fieldLink ST 15 ST "coder" "B", .code IsL.yN IsL.yB 1 (some .boolean), .methodLink ST 492 IsL.yN, .declares IsL.yN, .selects ST IsL.yN IsL.yN, .instanceMethod IsL.yN,
  .methodLink ST 495 LChA.yN, .static LChA.yN, .code LChA.yN LChA.yB 2 (some .char), .initialized "java/lang/StringLatin1", .methodLink "java/lang/StringLatin1" 9 JO.Str_checkIndex.yN, .static JO.Str_checkIndex.yN, .code JO.Str_checkIndex.yN JO.Str_checkIndex.yB 2 none,
  .fieldLink ST 1053 "jdk/internal/util/Preconditions" "SIOOBE_FORMATTER" "Ljava/util/function/BiFunction;", .methodLink ST 1059 JC.PreCheck.yN, .static JC.PreCheck.yN, .code JC.PreCheck.yN JC.PreCheck.yB 3 (some .int), .initialized "jdk/internal/util/Preconditions"]
theorem tabChN_of {a : Array Value} {s : State} (h : ∀ w ∈ wordsChN, w.before a s = true) : ChN.tab.before a s = true := by
  have hp : JC.PreCheck.tab.before a s = true := unparts (wk h (.code JC.PreCheck.yN JC.PreCheck.yB 3 (some .int))) (wks h (.initialized JC.PreCheck.yN.cls :: JC.PreCheck.site))
  have qk := consq hp h
  have hk : JO.Str_checkIndex.tab.before a s = true := unparts (wk qk (.code JO.Str_checkIndex.yN JO.Str_checkIndex.yB 2 none)) (wks qk (.initialized JO.Str_checkIndex.yN.cls :: JO.Str_checkIndex.site))
  have ql := consq hk h
  have hl : LChA.tab.before a s = true := unparts (wk ql (.code LChA.yN LChA.yB 2 (some .char))) (wks ql (.initialized LChA.yN.cls :: LChA.site))
  have hi : IsL.tab.before a s = true := unparts (wk h (.code IsL.yN IsL.yB 1 (some .boolean))) (wks h (.initialized IsL.yN.cls :: IsL.site))
  have q := consq hi (consq hl h)
  exact unparts (wk q (.code ChN.yN ChN.yB 2 (some .char))) (wks q (.initialized ChN.yN.cls :: ChN.site))
theorem movedChN {Z s : State} {a0 args : Array Value} (hZ : Z.Warmed39 s.vm) (hw : ∀ d ∈ wordsChN, d.before a0 Z = true) : ∀ d ∈ wordsChN, d.before args s = true := fun d hd => by
  have t : ∀ d ∈ wordsChN, (d.onTables && d.keepsFace) = true := by decide +kernel
  exact RoadKit.mv hZ (hw d hd) (t d hd)
/-- **charAt(i) OF A LATIN-1 STRING**, i < n: the char -/
theorem chN {p : Program} {l : Launch} {e : Env} {R : Room} {s : State} {args : Array Value} {below : List Frame} {len W : Nat} {Z : State} {a0 : Array Value} {h : Heap} (hZ : Z.Warmed39 s.vm) (hw : ∀ d ∈ wordsChN, d.before a0 Z = true) {kI : Nat} (wi : (Jvm.Cond.instantiable ST kI).before a0 Z = true)
    {x t : Addr} {kb : ClassId} {cs : List Int32} {N2 z : Int32} {vs : List Value} {fm : Value} {i : Nat} {j : Int32} (E : RoadKit.Exa Z h x ST) (V : RoadKit.Fld Z h x ST "value" "[B" (.ref t)) (C : RoadKit.Fld Z h x ST "coder" "B" (.int 0)) (K : RoadKit.Arv Z h t kb .byte N2 vs (.int 0)) (hc : CodA cs 0 N2 vs) (hb : ∀ c ∈ cs, ¬ c < 0 ∧ ¬ (65535 : Int32) < c)
    (S : RoadKit.Sta Z h ST "COMPACT_STRINGS" "Z" (.int z)) (hz : ¬ z = 0) (F : RoadKit.Sta Z h "jdk/internal/util/Preconditions" "SIOOBE_FORMATTER" "Ljava/util/function/BiFunction;" fm) (rf : fm.isRef = true) (l2 : cs.length ≤ 4000) (hi : i < cs.length) (hj : j = Int32.ofNat i) (hfr : 4 ≤ R.frames) (hlo : W + 53 ≤ R.locals) :
    Back l R p e below s args (⟨"java/lang/String", "charAt", "(I)C"⟩ : MethodName) len W (fun P a => a = #[.ref x, .int j] ∧ P.U.heap = h ∧ P.cells + 0 ≤ R.cells ∧ P.slots + 0 ≤ R.slots)
      (fun P _ v B => ∃ L, (v = some (.int (cs.getD i 0)) ∧ L = [] ∧ B.U.heap = h) ∧ B.locs = P.locs ++ L ∧ B.cells = P.cells + 0 ∧ B.slots = P.slots + 0) := by
  subst hj
  intro m meth c P g ig mk a X hg hsize hdg hW hn hp'
  obtain ⟨rfl, rfl, r1, r2⟩ := hp'
  have al : Z.vm.Alike P.U.vm := hZ.alike.trans X.warmed.alike
  obtain ⟨A, hx⟩ := txt_of wi al E V C K hc hb l2
  obtain ⟨v, B, X', ⟨⟨hv, hh⟩, hl, hk, hs⟩, st⟩ := ChN.pays x t A cs.length (fun j => cs.getD j 0) z fm i (tabChN_of (movedChN hZ hw)) hfr hlo m meth c P g ig mk _ X hg hsize hdg hW hn ⟨r1, r2, rfl, hx, hi, sta_is al S, hz, sta_is al F, rf⟩
  exact ⟨v, B, X', ⟨[], ⟨hv, rfl, hh⟩, hl, hk, hs⟩, st⟩
/-- what backV says of its String, as the contracts of this text ask it: cs's low bytes, coder 0 -/
theorem codOf {cs : List Int32} {n : Nat} (hn : cs.length = n) (hb : ∀ c ∈ cs, ¬ 255 < c) : CodA cs 0 (Int32.ofNat n) ((cs.map lo8).map Value.int) := Or.inl ⟨rfl, by rw [hn], by simp [List.map_map, Function.comp_def], hb⟩
end StrChars.Road
end Jvm.Pilot.@@N@@
namespace Jvm.RoadKit
open Sem ClassFile Op Lib Jvm.Stand Jvm.Free Jvm.LawKit
section New
variable {p : Program} {l : Launch} {e : Env} {R : Room} {s : State} {m : MethodId} {args : Array Value} {below : List Frame} {meth : Method} {c : Code} {T : State} {locs : List Loc} {cells slots : Nat}
theorem retI (X : Stand p l e R s m args below meth c T locs cells slots) (hx : p.tables.exec = Jvm.exec) {pc : Nat} {Ls : Array Slot} {z : Int32} {rest : List Value} (hret : meth.sig.returnType = some .int) (hd : decode c.code pc = .ok (.ireturn, 1)) {fs : List Frame}
    (hl : ∀ (f : JFrame) (acts : List Action), f.method = m → f.locked = none → f.entered = [] → (doReturn e (T.setTop f) acts (some (.int z))).1 = T.setFrames fs) : Steps p.tables e below (T.setTop (mkF m pc Ls (.int z :: rest))) (T.setFrames fs) :=
  retOut X hx hret rfl (Or.inl ⟨rfl, Or.inl rfl, _, rfl⟩) hd hl
end New
end Jvm.RoadKit
namespace Jvm.Pilot.@@N@@
open Jvm Jvm.ClassFile Sem Op Lib Jvm.Free Jvm.Stand Jvm.LawKit Jvm.RoadKit Bundle Jvm.Pilot.@@N@@.Jvm.D
section Own
variable {p : Program} {l : Launch} {e : Env} {R : Room} {s : State} {m : MethodId} {args : Array Value} {below : List Frame} {meth : Method} {c : Code} {T : State} {locs : List Loc} {cells slots : Nat}
/-- from this state the invocation comes to its end, and Q holds there -/
def GoOn (p : Program) (e : Env) (below : List Frame) (S : State) (Q : Outcome → State → Prop) : Prop := ∃ s₂ o, Steps p.tables e below S s₂ ∧ s₂.status = .running ∧ Ended s₂ below o ∧ Q o s₂
theorem GoOn.step {S S' : State} {Q : Outcome → State → Prop} (h : ∀ t, Steps p.tables e below S' t → Steps p.tables e below S t) (k : GoOn p e below S' Q) : GoOn p e below S Q := by
  obtain ⟨s2, o, h1, h2, h3, h4⟩ := k
  exact ⟨s2, o, h _ h1, h2, h3, h4⟩
theorem GoOn.trans {S S' : State} {Q : Outcome → State → Prop} (h : Steps p.tables e below S S') (k : GoOn p e below S' Q) : GoOn p e below S Q := GoOn.step (fun _ q => Steps.trans h q) k
def PostN (s : State) (Qp : Option Value → Heap → List Loc → Prop) (k n : Nat) (o : Outcome) (U' : State) : Prop := ∃ v L, o = .returned v ∧ Qp v U'.heap L ∧ FrameEnd s o U' L k n
def PostW (s : State) (Qp : Option Value → Heap → List Loc → Prop) (k n : Nat) (o : Outcome) (U' : State) : Prop := ∃ v L, o = .returned v ∧ Qp v U'.heap L ∧ ReturnedEndW s o U' L k n
theorem GoOn.ret (X : Stand p l e R s m args below meth c T locs cells slots) (hlk : meth.locks = false) {v : Option Value} (hv : meth.sig.returnType = none → v = none) {S : State}
    (st : ∀ fs, (∀ (f : JFrame) (acts : List Action), f.method = m → f.locked = none → f.entered = [] → (doReturn e (T.setTop f) acts v).1 = T.setFrames fs) → Steps p.tables e below S (T.setFrames fs)) {k n : Nat} (hk : cells ≤ k) (hn : slots ≤ n)
    {Qp : Option Value → Heap → List Loc → Prop} (q : Qp v T.heap locs) : GoOn p e below S (PostN s Qp k n) := by
  obtain ⟨fs, hr, hrun, hended, hW, hsame⟩ := X.leave hv hlk
  exact ⟨_, _, st fs hr, hrun, hended, v, _, rfl, q, ⟨_, rfl⟩, hW, hsame.mono hk hn⟩
theorem GoOn.retW {vm1 : Vm} {k1 : Nat} (X : Stand p l e R (s.setVm vm1) m args below meth c T locs cells slots) (hS : s.Since vm1 k1) (h1 : k1 ≤ T.heap.size) (hlk : meth.locks = false) {v : Option Value} (hv : meth.sig.returnType = none → v = none) {S : State}
    (st : ∀ fs, (∀ (f : JFrame) (acts : List Action), f.method = m → f.locked = none → f.entered = [] → (doReturn e (T.setTop f) acts v).1 = T.setFrames fs) → Steps p.tables e below S (T.setFrames fs)) {k n : Nat} (hk : cells ≤ k) (hn : slots ≤ n)
    {Qp : Option Value → Heap → List Loc → Prop} (q : Qp v T.heap locs) : GoOn p e below S (PostW s Qp k n) := by
  obtain ⟨fs, hr, hrun, hended, h4, h5, h6, h7⟩ := X.leaveW hS h1 hv hlk
  exact ⟨_, _, st fs hr, hrun, hended, v, _, rfl, q, h4, h5, h6, h7.mono hk hn⟩
def PostH (Z : State) (EL : List (String × Nat)) (s : State) (Qp : Option Value → Heap → List Loc → Prop) (k n : Nat) (o : Outcome) (U' : State) : Prop := ∃ v L, o = .returned v ∧ Qp v U'.heap L ∧ CHr Z EL s.vm s.heap U'.vm U'.heap ∧ ReturnedEndW s o U' L k n
theorem GoOn.retH {Z : State} {a0 : Array Value} {EL : List (String × Nat)} {h0 h : Heap} {vm1 : Vm} {k1 : Nat} (X : Stand p l e R (s.setVm vm1) m args below meth c T locs cells slots) (hZ : Z.Warmed39 (s.setVm vm1).vm) (hS : s.Since vm1 k1) (h1 : k1 ≤ h.size) (hEL : EW Z a0 EL) (hh : s.heap = h0) (eT : T.heap = h) (C : CHr Z EL s.vm h0 vm1 h) (hlk : meth.locks = false) {v : Option Value} (hv : meth.sig.returnType = none → v = none) {S : State}
    (st : ∀ fs, (∀ (f : JFrame) (acts : List Action), f.method = m → f.locked = none → f.entered = [] → (doReturn e (T.setTop f) acts v).1 = T.setFrames fs) → Steps p.tables e below S (T.setFrames fs)) {k n : Nat} (hk : cells ≤ k) (hn : slots ≤ n)
    {Qp : Option Value → Heap → List Loc → Prop} (q : Qp v h locs) : GoOn p e below S (PostH Z EL s Qp k n) := by
  subst hh eT
  obtain ⟨fs, hr, hrun, hended, h4, h5, h6, h7⟩ := X.leaveW hS h1 hv hlk
  have q2 := CHr.trans C (CHv.at X hZ hEL C.1)
  exact ⟨_, _, st fs hr, hrun, hended, v, _, rfl, q, q2, h4, h5, h6, h7.mono hk hn⟩
theorem Safe.arv {Z : State} {EL : List (String × Nat)} {vm : Vm} {h : Heap} {x : Addr} {kc : ClassId} {ty : FieldType} {z : Int32} {vs : List Value} {dv : Value} (hal : Z.vm.Alike vm) (V : Arv Z h x kc ty z vs dv) (ht : ty ≠ .byte) : Safe Z EL vm h x := by
  obtain ⟨cl, A, -⟩ := V
  exact Safe.arr hal A ht
theorem Safe.ofNull {Z : State} {EL : List (String × Nat)} {vm : Vm} {h : Heap} {x : Addr} (hal : Z.vm.Alike vm) (E : Exa Z h x "java/lang/String") (F : Fld Z h x "java/lang/String" "value" "[B" .null) : Safe Z EL vm h x := fun B => by
  obtain ⟨p, -, u, a, -, q, -, S, rfl | rfl⟩ := B
  · obtain ⟨cell, cf, k, i, f, h1, h2, h3, -, -, -, h7⟩ := F
    cases (show h[q.sa]? = some q.sC from S.ha).symm.trans h1
    obtain ⟨cS, ⟨⟨-, -, -, ⟨c1, k1, i1, f1, -⟩, -, -, -, v1, -⟩, -⟩, -⟩ := S
    obtain ⟨k3, e3, -⟩ := State.fieldFound?_setVm (s := Z) hal h2
    have e4 := (show (Wst Z vm h).fieldFound? _ _ _ = _ from e3).symm.trans f1
    simp only [Option.some.injEq, Prod.mk.injEq] at e4
    rw [← e4.2.2.2, h7] at v1
    cases v1
  · obtain ⟨cell, k, e1, e2, e3, -, -⟩ := E
    cases (show h[q.sd]? = some q.SA from S.hd).symm.trans e1
    obtain ⟨cS, -, -, f, -⟩ := S
    rw [show (Wst Z vm h).vm = vm from rfl, hal.findClass] at f
    obtain ⟨k1, q1, q2⟩ := Vm.findClass_spec f
    obtain ⟨k2, q3, q4⟩ := Vm.findClass_spec e2
    cases q1.symm.trans q3
    exact absurd (q2.symm.trans q4) (by decide)
theorem alenA {Z : State} {h : Heap} (X : Stand p l e R s m args below meth c T locs cells slots) (hx : p.tables.exec = Jvm.exec) (hZ : Z.Warmed39 s.vm) (eT : T.heap = h) {a : Addr} {k : ClassId} {ty : FieldType} {z : Int32} {vs : List Value} {d : Value} (V : Arv Z h a k ty z vs d) {g : JFrame} (hg : g.method = m) {rest : List Value} (hs : g.stack = .ref a :: rest) (hd : decode c.code g.pc = .ok (.arraylength, 1)) :
    ∀ target, Steps p.tables e below (T.setTop { g with pc := g.pc + 1, stack := .int z :: rest }) target → Steps p.tables e below (T.setTop g) target := fun t q => by
  obtain ⟨cl, A, -, S, M, -, -⟩ := V
  exact X.arraylength hx (by rw [eT]; exact A.1) (State.isArrayOf_alike hZ.alike A.2.1) hg hs hd t (by rw [len_of S M]; exact q)
theorem refCat {v : Value} (h : v.isRef = true) : v.category = 1 := by rcases ref_cases h with rfl | ⟨_, rfl⟩ <;> rfl
theorem own_catR (a : Addr) : (Value.ref a).category = 1 := rfl
theorem own_catI (a : Int32) : (Value.int a).category = 1 := rfl
theorem own_catJ (a : Int64) : (Value.long a).category = 2 := rfl
theorem own_catN : Value.null.category = 1 := rfl
theorem narRef {v : Value} (h : v.isRef = true) {t : FieldType} : narrow t v = v := by rcases ref_cases h with rfl | ⟨_, rfl⟩ <;> cases t <;> rfl
theorem fitRefA {v : Value} (h : v.isRef = true) {t : FieldType} : fits (.array t) v = true := by rcases ref_cases h with rfl | ⟨_, rfl⟩ <;> rfl
theorem fitRef {v : Value} (h : v.isRef = true) {C : String} : fits (.object C) v = true := by rcases ref_cases h with rfl | ⟨_, rfl⟩ <;> rfl
end Own
end Jvm.Pilot.@@N@@
namespace Jvm.Pilot.@@N@@
open Jvm Jvm.ClassFile Sem Op Lib Jvm.Free Jvm.Stand Jvm.LawKit Jvm.RoadKit Bundle Jvm.Pilot.@@N@@.Jvm.D
theorem and255_chars (n : Int32) : ¬ nar .char ((n &&& (255 : Int32)).toUInt32.toUInt16.toUInt32.toInt32) < 0 ∧ ¬ (255 : Int32) < nar .char ((n &&& (255 : Int32)).toUInt32.toUInt16.toUInt32.toInt32) := by
  have h1 := c_mask n 255 8 (by decide) (by decide)
  have h2 := c_i2c (n &&& (255 : Int32))
  have h3 : nar .char ((n &&& (255 : Int32)).toUInt32.toUInt16.toUInt32.toInt32) = ((n &&& (255 : Int32)).toUInt32.toUInt16.toUInt32.toInt32) := by simp only [nar, UInt32.toUInt32_toInt32, UInt16.toUInt16_toUInt32]
  rw [h3, Int32.lt_iff_toInt_lt, Int32.lt_iff_toInt_lt]
  have e0 : (0 : Int32).toInt = 0 := rfl
  have e1 : (255 : Int32).toInt = 255 := rfl
  rw [e0, e1]
  have e2 : ((2 ^ 8 : Nat) : Int) = 256 := rfl
  rw [e2] at h1
  omega
set_option maxHeartbeats 4000000 in
theorem own_ef0 (m : MethodId) (x0 : Addr) (x1 : Addr) : entryFrame m #[(.ref x0), (.ref x1)] 2 = mkF m 0 #[.val (.ref x0), .val (.ref x1)] [] := by first | rfl | (simp [entryFrame, mkF, argsToLocals, Value.category]; done)
theorem own_pn1 : plainName "java/lang/Throwable" = true := by first | (simp [plainName, overriddenIn]; done) | decide +kernel
theorem own_d2 : decode jdk_78_method_2_code 0 = .ok (.aload_n 0, 1) := by decide +kernel
theorem own_d3 : decode jdk_78_method_2_code 1 = .ok (.invokespecial 1, 3) := by decide +kernel
theorem own_d4 : decode jdk_78_method_2_code 4 = .ok (.aload_n 0, 1) := by decide +kernel
theorem own_d5 : decode jdk_78_method_2_code 5 = .ok (.aload_n 0, 1) := by decide +kernel
theorem own_d6 : decode jdk_78_method_2_code 6 = .ok (.putfield 7, 3) := by decide +kernel
theorem own_d7 : decode jdk_78_method_2_code 9 = .ok (.aload_n 0, 1) := by decide +kernel
theorem own_d8 : decode jdk_78_method_2_code 10 = .ok (.getstatic 13, 3) := by decide +kernel
theorem own_d9 : decode jdk_78_method_2_code 13 = .ok (.putfield 17, 3) := by decide +kernel
theorem own_d10 : decode jdk_78_method_2_code 16 = .ok (.aload_n 0, 1) := by decide +kernel
theorem own_d11 : decode jdk_78_method_2_code 17 = .ok (.getstatic 20, 3) := by decide +kernel
theorem own_d12 : decode jdk_78_method_2_code 20 = .ok (.putfield 24, 3) := by decide +kernel
theorem own_d13 : decode jdk_78_method_2_code 23 = .ok (.aload_n 0, 1) := by decide +kernel
theorem own_d14 : decode jdk_78_method_2_code 24 = .ok (.invokevirtual 27, 3) := by decide +kernel
theorem own_pd15 : parseMethodDescriptor "()Ljava/lang/Throwable;" = some ⟨[], some (.object "java/lang/Throwable")⟩ := by decide +kernel
theorem own_d16 : decode jdk_78_method_2_code 27 = .ok (.pop, 1) := by decide +kernel
theorem own_d17 : decode jdk_78_method_2_code 28 = .ok (.aload_n 0, 1) := by decide +kernel
theorem own_d18 : decode jdk_78_method_2_code 29 = .ok (.aload_n 1, 1) := by decide +kernel
theorem own_d19 : decode jdk_78_method_2_code 30 = .ok (.putfield 31, 3) := by decide +kernel
theorem own_d20 : decode jdk_78_method_2_code 33 = .ok (.return_, 1) := by decide +kernel
set_option maxHeartbeats 4000000 in
theorem own_ef21 (m : MethodId) (x0 : Addr) (x1 : Addr) : entryFrame m #[(.ref x0), (.ref x1)] 2 = mkF m 0 #[.val (.ref x0), .val (.ref x1)] [] := by first | rfl | (simp [entryFrame, mkF, argsToLocals, Value.category]; done)
theorem own_pn22 : plainName "java/lang/Exception" = true := by first | (simp [plainName, overriddenIn]; done) | decide +kernel
theorem own_d23 : decode jdk_59_method_2_code 0 = .ok (.aload_n 0, 1) := by decide +kernel
theorem own_d24 : decode jdk_59_method_2_code 1 = .ok (.aload_n 1, 1) := by decide +kernel
theorem own_d25 : decode jdk_59_method_2_code 2 = .ok (.invokespecial 7, 3) := by decide +kernel
theorem own_pd26 : parseMethodDescriptor "(Ljava/lang/String;)V" = some ⟨[(.object "java/lang/String")], none⟩ := by decide +kernel
theorem own_d27 : decode jdk_59_method_2_code 5 = .ok (.return_, 1) := by decide +kernel
set_option maxHeartbeats 4000000 in
theorem own_ef28 (m : MethodId) (x0 : Addr) (x1 : Addr) : entryFrame m #[(.ref x0), (.ref x1)] 2 = mkF m 0 #[.val (.ref x0), .val (.ref x1)] [] := by first | rfl | (simp [entryFrame, mkF, argsToLocals, Value.category]; done)
theorem own_pn29 : plainName "com/example/faktorwerk/faktorwerk/model/InputRefusedException" = true := by first | (simp [plainName, overriddenIn]; done) | decide +kernel
theorem own_d30 : decode prog_52_method_1_code 0 = .ok (.aload_n 0, 1) := by decide +kernel
theorem own_d31 : decode prog_52_method_1_code 1 = .ok (.aload_n 1, 1) := by decide +kernel
theorem own_d32 : decode prog_52_method_1_code 2 = .ok (.invokespecial 1, 3) := by decide +kernel
theorem own_d33 : decode prog_52_method_1_code 5 = .ok (.return_, 1) := by decide +kernel
set_option maxHeartbeats 4000000 in
theorem own_ef34 (m : MethodId) (x0 : Addr) (x1 : Addr) (x2 : Int32) (x3 : Int32) : entryFrame m #[(.ref x0), (.ref x1), (.int x2), (.int x3), .null] 6 = mkF m 0 #[.val (.ref x0), .val (.ref x1), .val (.int x2), .val (.int x3), .val .null, .unset] [] := by first | rfl | (simp [entryFrame, mkF, argsToLocals, Value.category]; done)
theorem own_pn35 : plainName "java/lang/String" = true := by first | (simp [plainName, overriddenIn]; done) | decide +kernel
theorem own_d36 : decode jdk_42_method_149_code 0 = .ok (.aload_n 0, 1) := by decide +kernel
theorem own_d37 : decode jdk_42_method_149_code 1 = .ok (.invokespecial 1, 3) := by decide +kernel
theorem own_d38 : decode jdk_42_method_149_code 4 = .ok (.iload_n 3, 1) := by decide +kernel
theorem own_d39 : decode jdk_42_method_149_code 5 = .ok (.ifCond .ne 22, 3) := by decide +kernel
theorem own_d40 : decode jdk_42_method_149_code 8 = .ok (.aload_n 0, 1) := by decide +kernel
theorem own_d41 : decode jdk_42_method_149_code 9 = .ok (.ldc 7, 2) := by decide +kernel
theorem own_d42 : decode jdk_42_method_149_code 11 = .ok (.getfield 9, 3) := by decide +kernel
theorem own_d43 : decode jdk_42_method_149_code 14 = .ok (.putfield 9, 3) := by decide +kernel
theorem own_d44 : decode jdk_42_method_149_code 17 = .ok (.aload_n 0, 1) := by decide +kernel
theorem own_d45 : decode jdk_42_method_149_code 18 = .ok (.ldc 7, 2) := by decide +kernel
theorem own_d46 : decode jdk_42_method_149_code 20 = .ok (.getfield 15, 3) := by decide +kernel
theorem own_d47 : decode jdk_42_method_149_code 23 = .ok (.putfield 15, 3) := by decide +kernel
theorem own_d48 : decode jdk_42_method_149_code 26 = .ok (.return_, 1) := by decide +kernel
set_option maxHeartbeats 4000000 in
theorem own_ef49 (m : MethodId) (x0 : Addr) (x1 : Addr) : entryFrame m #[(.ref x0), (.ref x1)] 2 = mkF m 0 #[.val (.ref x0), .val (.ref x1)] [] := by first | rfl | (simp [entryFrame, mkF, argsToLocals, Value.category]; done)
theorem own_d50 : decode jdk_42_method_3_code 0 = .ok (.aload_n 0, 1) := by decide +kernel
theorem own_d51 : decode jdk_42_method_3_code 1 = .ok (.aload_n 1, 1) := by decide +kernel
theorem own_d52 : decode jdk_42_method_3_code 2 = .ok (.iconst 0, 1) := by decide +kernel
theorem own_d53 : decode jdk_42_method_3_code 3 = .ok (.aload_n 1, 1) := by decide +kernel
theorem own_d54 : decode jdk_42_method_3_code 4 = .ok (.arraylength, 1) := by decide +kernel
theorem own_d55 : decode jdk_42_method_3_code 5 = .ok (.aconst_null, 1) := by decide +kernel
theorem own_d56 : decode jdk_42_method_3_code 6 = .ok (.invokespecial 27, 3) := by decide +kernel
theorem own_pd57 : parseMethodDescriptor "([CIILjava/lang/Void;)V" = some ⟨[(.array .char), .int, .int, (.object "java/lang/Void")], none⟩ := by decide +kernel
theorem own_d58 : decode jdk_42_method_3_code 9 = .ok (.return_, 1) := by decide +kernel
set_option maxHeartbeats 4000000 in
theorem own_ef59 (m : MethodId) (x0 : Int32) : entryFrame m #[(.int x0)] 1 = mkF m 0 #[.val (.int x0)] [] := by first | rfl | (simp [entryFrame, mkF, argsToLocals, Value.category]; done)
theorem own_pn60 : plainName "java/lang/StringLatin1" = true := by first | (simp [plainName, overriddenIn]; done) | decide +kernel
theorem own_d61 : decode jdk_43_method_3_code 0 = .ok (.iload_n 0, 1) := by decide +kernel
theorem own_d62 : decode jdk_43_method_3_code 1 = .ok (.sipush 255, 3) := by decide +kernel
theorem own_d63 : decode jdk_43_method_3_code 4 = .ok (.if_icmp .gt 7, 3) := by decide +kernel
theorem own_d64 : decode jdk_43_method_3_code 7 = .ok (.iconst 1, 1) := by decide +kernel
theorem own_d65 : decode jdk_43_method_3_code 8 = .ok (.goto 4, 3) := by decide +kernel
theorem own_d66 : decode jdk_43_method_3_code 12 = .ok (.ireturn, 1) := by decide +kernel
set_option maxHeartbeats 4000000 in
theorem own_ef67 (m : MethodId) (x0 : Int32) : entryFrame m #[(.int x0)] 1 = mkF m 0 #[.val (.int x0)] [] := by first | rfl | (simp [entryFrame, mkF, argsToLocals, Value.category]; done)
theorem own_d68 : decode jdk_43_method_46_code 0 = .ok (.iconst 1, 1) := by decide +kernel
theorem own_d69 : decode jdk_43_method_46_code 1 = .ok (.newarray .byte, 2) := by decide +kernel
theorem own_d70 : decode jdk_43_method_46_code 3 = .ok (.dup, 1) := by decide +kernel
theorem own_d71 : decode jdk_43_method_46_code 4 = .ok (.iconst 0, 1) := by decide +kernel
theorem own_d72 : decode jdk_43_method_46_code 5 = .ok (.iload_n 0, 1) := by decide +kernel
theorem own_d73 : decode jdk_43_method_46_code 6 = .ok (.i2b, 1) := by decide +kernel
theorem own_d74 : decode jdk_43_method_46_code 7 = .ok (.bastore, 1) := by decide +kernel
theorem own_d75 : decode jdk_43_method_46_code 8 = .ok (.areturn, 1) := by decide +kernel
set_option maxHeartbeats 4000000 in
theorem own_ef76 (m : MethodId) (x0 : Addr) (x1 : Addr) (x2 : Int32) : entryFrame m #[(.ref x0), (.ref x1), (.int x2)] 3 = mkF m 0 #[.val (.ref x0), .val (.ref x1), .val (.int x2)] [] := by first | rfl | (simp [entryFrame, mkF, argsToLocals, Value.category]; done)
theorem own_d77 : decode jdk_42_method_151_code 0 = .ok (.aload_n 0, 1) := by decide +kernel
theorem own_d78 : decode jdk_42_method_151_code 1 = .ok (.invokespecial 1, 3) := by decide +kernel
theorem own_d79 : decode jdk_42_method_151_code 4 = .ok (.aload_n 0, 1) := by decide +kernel
theorem own_d80 : decode jdk_42_method_151_code 5 = .ok (.aload_n 1, 1) := by decide +kernel
theorem own_d81 : decode jdk_42_method_151_code 6 = .ok (.putfield 9, 3) := by decide +kernel
theorem own_d82 : decode jdk_42_method_151_code 9 = .ok (.aload_n 0, 1) := by decide +kernel
theorem own_d83 : decode jdk_42_method_151_code 10 = .ok (.iload_n 2, 1) := by decide +kernel
theorem own_d84 : decode jdk_42_method_151_code 11 = .ok (.putfield 15, 3) := by decide +kernel
theorem own_d85 : decode jdk_42_method_151_code 14 = .ok (.return_, 1) := by decide +kernel
set_option maxHeartbeats 4000000 in
theorem own_ef86 (m : MethodId) (x0 : Int32) : entryFrame m #[(.int x0)] 1 = mkF m 0 #[.val (.int x0)] [] := by first | rfl | (simp [entryFrame, mkF, argsToLocals, Value.category]; done)
theorem own_d87 : decode jdk_42_method_139_code 0 = .ok (.getstatic 38, 3) := by decide +kernel
theorem own_d88 : decode jdk_42_method_139_code 3 = .ok (.ifCond .eq 23, 3) := by decide +kernel
theorem own_d89 : decode jdk_42_method_139_code 6 = .ok (.iload_n 0, 1) := by decide +kernel
theorem own_d90 : decode jdk_42_method_139_code 7 = .ok (.invokestatic 1015, 3) := by decide +kernel
theorem own_pd91 : parseMethodDescriptor "(C)Z" = some ⟨[.char], some .boolean⟩ := by decide +kernel
theorem own_d92 : decode jdk_42_method_139_code 10 = .ok (.ifCond .eq 16, 3) := by decide +kernel
theorem own_d93 : decode jdk_42_method_139_code 13 = .ok (.new 10, 3) := by decide +kernel
theorem own_d94 : decode jdk_42_method_139_code 16 = .ok (.dup, 1) := by decide +kernel
theorem own_d95 : decode jdk_42_method_139_code 17 = .ok (.iload_n 0, 1) := by decide +kernel
theorem own_d96 : decode jdk_42_method_139_code 18 = .ok (.invokestatic 1018, 3) := by decide +kernel
theorem own_pd97 : parseMethodDescriptor "(C)[B" = some ⟨[.char], some (.array .byte)⟩ := by decide +kernel
theorem own_d98 : decode jdk_42_method_139_code 21 = .ok (.iconst 0, 1) := by decide +kernel
theorem own_d99 : decode jdk_42_method_139_code 22 = .ok (.invokespecial 209, 3) := by decide +kernel
theorem own_pd100 : parseMethodDescriptor "([BB)V" = some ⟨[(.array .byte), .byte], none⟩ := by decide +kernel
theorem own_d101 : decode jdk_42_method_139_code 25 = .ok (.areturn, 1) := by decide +kernel
set_option maxHeartbeats 4000000 in
theorem own_ef102 (m : MethodId) (x0 : Int32) (x1 : Int32) (x2 : Int32) : entryFrame m #[(.int x0), (.int x1), (.int x2)] 3 = mkF m 0 #[.val (.int x0), .val (.int x1), .val (.int x2)] [] := by first | rfl | (simp [entryFrame, mkF, argsToLocals, Value.category]; done)
theorem own_pn103 : plainName "com/example/faktorwerk/faktorwerk/model/InputRefusedExceptionAtLinePinLaw" = true := by first | (simp [plainName, overriddenIn]; done) | decide +kernel
theorem own_d104 : decode method_3_code 0 = .ok (.iload_n 0, 1) := by decide +kernel
theorem own_d105 : decode method_3_code 1 = .ok (.ifCond .ne 14, 3) := by decide +kernel
theorem own_d106 : decode method_3_code 4 = .ok (.new 28, 3) := by decide +kernel
theorem own_d107 : decode method_3_code 7 = .ok (.dup, 1) := by decide +kernel
theorem own_d108 : decode method_3_code 8 = .ok (.iconst 0, 1) := by decide +kernel
theorem own_d109 : decode method_3_code 9 = .ok (.newarray .char, 2) := by decide +kernel
theorem own_d110 : decode method_3_code 11 = .ok (.invokespecial 41, 3) := by decide +kernel
theorem own_pd111 : parseMethodDescriptor "([C)V" = some ⟨[(.array .char)], none⟩ := by decide +kernel
theorem own_d112 : decode method_3_code 14 = .ok (.areturn, 1) := by decide +kernel
theorem own_d113 : decode method_3_code 15 = .ok (.iload_n 0, 1) := by decide +kernel
theorem own_d114 : decode method_3_code 16 = .ok (.iconst 1, 1) := by decide +kernel
theorem own_d115 : decode method_3_code 17 = .ok (.if_icmp .ne 8, 3) := by decide +kernel
theorem own_d116 : decode method_3_code 20 = .ok (.iload_n 1, 1) := by decide +kernel
theorem own_d117 : decode method_3_code 21 = .ok (.invokestatic 44, 3) := by decide +kernel
theorem own_pd118 : parseMethodDescriptor "(C)Ljava/lang/String;" = some ⟨[.char], some (.object "java/lang/String")⟩ := by decide +kernel
theorem own_d119 : decode method_3_code 24 = .ok (.areturn, 1) := by decide +kernel
theorem own_d120 : decode method_3_code 25 = .ok (.new 28, 3) := by decide +kernel
theorem own_d121 : decode method_3_code 28 = .ok (.dup, 1) := by decide +kernel
theorem own_d122 : decode method_3_code 29 = .ok (.iconst 2, 1) := by decide +kernel
theorem own_d123 : decode method_3_code 30 = .ok (.newarray .char, 2) := by decide +kernel
theorem own_d124 : decode method_3_code 32 = .ok (.dup, 1) := by decide +kernel
theorem own_d125 : decode method_3_code 33 = .ok (.iconst 0, 1) := by decide +kernel
theorem own_d126 : decode method_3_code 34 = .ok (.iload_n 1, 1) := by decide +kernel
theorem own_d127 : decode method_3_code 35 = .ok (.castore, 1) := by decide +kernel
theorem own_d128 : decode method_3_code 36 = .ok (.dup, 1) := by decide +kernel
theorem own_d129 : decode method_3_code 37 = .ok (.iconst 1, 1) := by decide +kernel
theorem own_d130 : decode method_3_code 38 = .ok (.iload_n 2, 1) := by decide +kernel
theorem own_d131 : decode method_3_code 39 = .ok (.castore, 1) := by decide +kernel
theorem own_d132 : decode method_3_code 40 = .ok (.invokespecial 41, 3) := by decide +kernel
theorem own_d133 : decode method_3_code 43 = .ok (.areturn, 1) := by decide +kernel
set_option maxHeartbeats 4000000 in
theorem own_ef134 (m : MethodId) (x0 : Addr) : entryFrame m #[(.ref x0)] 1 = mkF m 0 #[.val (.ref x0)] [] := by first | rfl | (simp [entryFrame, mkF, argsToLocals, Value.category]; done)
theorem own_d135 : decode jdk_42_method_152_code 0 = .ok (.getstatic 38, 3) := by decide +kernel
theorem own_d136 : decode jdk_42_method_152_code 3 = .ok (.ifCond .eq 10, 3) := by decide +kernel
theorem own_d137 : decode jdk_42_method_152_code 6 = .ok (.aload_n 0, 1) := by decide +kernel
theorem own_d138 : decode jdk_42_method_152_code 7 = .ok (.getfield 15, 3) := by decide +kernel
theorem own_d139 : decode jdk_42_method_152_code 10 = .ok (.goto 4, 3) := by decide +kernel
theorem own_d140 : decode jdk_42_method_152_code 14 = .ok (.ireturn, 1) := by decide +kernel
set_option maxHeartbeats 4000000 in
theorem own_ef141 (m : MethodId) (x0 : Addr) : entryFrame m #[(.ref x0)] 1 = mkF m 0 #[.val (.ref x0)] [] := by first | rfl | (simp [entryFrame, mkF, argsToLocals, Value.category]; done)
theorem own_d142 : decode jdk_42_method_54_code 0 = .ok (.aload_n 0, 1) := by decide +kernel
theorem own_d143 : decode jdk_42_method_54_code 1 = .ok (.getfield 9, 3) := by decide +kernel
theorem own_d144 : decode jdk_42_method_54_code 4 = .ok (.arraylength, 1) := by decide +kernel
theorem own_d145 : decode jdk_42_method_54_code 5 = .ok (.aload_n 0, 1) := by decide +kernel
theorem own_d146 : decode jdk_42_method_54_code 6 = .ok (.invokevirtual 335, 3) := by decide +kernel
theorem own_pd147 : parseMethodDescriptor "()B" = some ⟨[], some .byte⟩ := by decide +kernel
theorem own_d148 : decode jdk_42_method_54_code 9 = .ok (.ishr, 1) := by decide +kernel
theorem own_d149 : decode jdk_42_method_54_code 10 = .ok (.ireturn, 1) := by decide +kernel
set_option maxHeartbeats 4000000 in
theorem own_ef150 (m : MethodId) (x0 : Addr) (x1 : Int32) : entryFrame m #[(.ref x0), (.int x1)] 3 = mkF m 0 #[.val (.ref x0), .val (.int x1), .unset] [] := by first | rfl | (simp [entryFrame, mkF, argsToLocals, Value.category]; done)
theorem own_pn151 : plainName "java/lang/AbstractStringBuilder" = true := by first | (simp [plainName, overriddenIn]; done) | decide +kernel
theorem own_d152 : decode jdk_68_method_9_code 0 = .ok (.aload_n 0, 1) := by decide +kernel
theorem own_d153 : decode jdk_68_method_9_code 1 = .ok (.getfield 15, 3) := by decide +kernel
theorem own_d154 : decode jdk_68_method_9_code 4 = .ok (.arraylength, 1) := by decide +kernel
theorem own_d155 : decode jdk_68_method_9_code 5 = .ok (.aload_n 0, 1) := by decide +kernel
theorem own_d156 : decode jdk_68_method_9_code 6 = .ok (.getfield 22, 3) := by decide +kernel
theorem own_d157 : decode jdk_68_method_9_code 9 = .ok (.ishr, 1) := by decide +kernel
theorem own_d158 : decode jdk_68_method_9_code 10 = .ok (.istore_n 2, 1) := by decide +kernel
theorem own_d159 : decode jdk_68_method_9_code 11 = .ok (.iload_n 1, 1) := by decide +kernel
theorem own_d160 : decode jdk_68_method_9_code 12 = .ok (.iload_n 2, 1) := by decide +kernel
theorem own_d161 : decode jdk_68_method_9_code 13 = .ok (.isub, 1) := by decide +kernel
theorem own_d162 : decode jdk_68_method_9_code 14 = .ok (.ifCond .le 24, 3) := by decide +kernel
theorem own_d163 : decode jdk_68_method_9_code 38 = .ok (.return_, 1) := by decide +kernel
set_option maxHeartbeats 4000000 in
theorem own_ef164 (m : MethodId) (x0 : Addr) (x1 : Addr) : entryFrame m #[(.ref x0), (.ref x1)] 2 = mkF m 0 #[.val (.ref x0), .val (.ref x1)] [] := by first | rfl | (simp [entryFrame, mkF, argsToLocals, Value.category]; done)
theorem own_d165 : decode jdk_68_method_71_code 0 = .ok (.getstatic 18, 3) := by decide +kernel
theorem own_d166 : decode jdk_68_method_71_code 3 = .ok (.ifCond .eq 18, 3) := by decide +kernel
theorem own_d167 : decode jdk_68_method_71_code 6 = .ok (.aload_n 0, 1) := by decide +kernel
theorem own_d168 : decode jdk_68_method_71_code 7 = .ok (.getfield 22, 3) := by decide +kernel
theorem own_d169 : decode jdk_68_method_71_code 10 = .ok (.aload_n 1, 1) := by decide +kernel
theorem own_d170 : decode jdk_68_method_71_code 11 = .ok (.invokevirtual 40, 3) := by decide +kernel
theorem own_d171 : decode jdk_68_method_71_code 14 = .ok (.if_icmp .eq 7, 3) := by decide +kernel
theorem own_d172 : decode jdk_68_method_71_code 21 = .ok (.return_, 1) := by decide +kernel
set_option maxHeartbeats 4000000 in
theorem own_ef173 (m : MethodId) (x0 : Addr) (x1 : Addr) (x2 : Int32) (x3 : Int32) : entryFrame m #[(.ref x0), (.ref x1), (.int x2), (.int x3)] 4 = mkF m 0 #[.val (.ref x0), .val (.ref x1), .val (.int x2), .val (.int x3)] [] := by first | rfl | (simp [entryFrame, mkF, argsToLocals, Value.category]; done)
theorem own_d174 : decode jdk_42_method_147_code 0 = .ok (.aload_n 0, 1) := by decide +kernel
theorem own_d175 : decode jdk_42_method_147_code 1 = .ok (.invokevirtual 335, 3) := by decide +kernel
theorem own_d176 : decode jdk_42_method_147_code 4 = .ok (.iload_n 3, 1) := by decide +kernel
theorem own_d177 : decode jdk_42_method_147_code 5 = .ok (.if_icmp .ne 23, 3) := by decide +kernel
theorem own_d178 : decode jdk_42_method_147_code 8 = .ok (.aload_n 0, 1) := by decide +kernel
theorem own_d179 : decode jdk_42_method_147_code 9 = .ok (.getfield 9, 3) := by decide +kernel
theorem own_d180 : decode jdk_42_method_147_code 12 = .ok (.iconst 0, 1) := by decide +kernel
theorem own_d181 : decode jdk_42_method_147_code 13 = .ok (.aload_n 1, 1) := by decide +kernel
theorem own_d182 : decode jdk_42_method_147_code 14 = .ok (.iload_n 2, 1) := by decide +kernel
theorem own_d183 : decode jdk_42_method_147_code 15 = .ok (.iload_n 3, 1) := by decide +kernel
theorem own_d184 : decode jdk_42_method_147_code 16 = .ok (.ishl, 1) := by decide +kernel
theorem own_d185 : decode jdk_42_method_147_code 17 = .ok (.aload_n 0, 1) := by decide +kernel
theorem own_d186 : decode jdk_42_method_147_code 18 = .ok (.getfield 9, 3) := by decide +kernel
theorem own_d187 : decode jdk_42_method_147_code 21 = .ok (.arraylength, 1) := by decide +kernel
theorem own_d188 : decode jdk_42_method_147_code 22 = .ok (.invokestatic 212, 3) := by decide +kernel
theorem own_d189 : decode jdk_42_method_147_code 25 = .ok (.goto 18, 3) := by decide +kernel
theorem own_d190 : decode jdk_42_method_147_code 43 = .ok (.return_, 1) := by decide +kernel
set_option maxHeartbeats 4000000 in
theorem own_ef191 (m : MethodId) (x0 : Addr) (x1 : Int32) (x2 : Addr) : entryFrame m #[(.ref x0), (.int x1), (.ref x2)] 3 = mkF m 0 #[.val (.ref x0), .val (.int x1), .val (.ref x2)] [] := by first | rfl | (simp [entryFrame, mkF, argsToLocals, Value.category]; done)
theorem own_d192 : decode jdk_68_method_73_code 0 = .ok (.aload_n 0, 1) := by decide +kernel
theorem own_d193 : decode jdk_68_method_73_code 1 = .ok (.aload_n 2, 1) := by decide +kernel
theorem own_d194 : decode jdk_68_method_73_code 2 = .ok (.invokevirtual 397, 3) := by decide +kernel
theorem own_d195 : decode jdk_68_method_73_code 5 = .ok (.aload_n 2, 1) := by decide +kernel
theorem own_d196 : decode jdk_68_method_73_code 6 = .ok (.aload_n 0, 1) := by decide +kernel
theorem own_d197 : decode jdk_68_method_73_code 7 = .ok (.getfield 15, 3) := by decide +kernel
theorem own_d198 : decode jdk_68_method_73_code 10 = .ok (.iload_n 1, 1) := by decide +kernel
theorem own_d199 : decode jdk_68_method_73_code 11 = .ok (.aload_n 0, 1) := by decide +kernel
theorem own_d200 : decode jdk_68_method_73_code 12 = .ok (.getfield 22, 3) := by decide +kernel
theorem own_d201 : decode jdk_68_method_73_code 15 = .ok (.invokevirtual 399, 3) := by decide +kernel
theorem own_pd202 : parseMethodDescriptor "([BIB)V" = some ⟨[(.array .byte), .int, .byte], none⟩ := by decide +kernel
theorem own_d203 : decode jdk_68_method_73_code 18 = .ok (.return_, 1) := by decide +kernel
set_option maxHeartbeats 4000000 in
theorem own_ef204 (m : MethodId) (x0 : Addr) (x1 : Addr) : entryFrame m #[(.ref x0), (.ref x1)] 3 = mkF m 0 #[.val (.ref x0), .val (.ref x1), .unset] [] := by first | rfl | (simp [entryFrame, mkF, argsToLocals, Value.category]; done)
theorem own_d205 : decode jdk_68_method_22_code 0 = .ok (.aload_n 1, 1) := by decide +kernel
theorem own_d206 : decode jdk_68_method_22_code 1 = .ok (.ifnonnull 8, 3) := by decide +kernel
theorem own_d207 : decode jdk_68_method_22_code 9 = .ok (.aload_n 1, 1) := by decide +kernel
theorem own_d208 : decode jdk_68_method_22_code 10 = .ok (.invokevirtual 32, 3) := by decide +kernel
theorem own_pd209 : parseMethodDescriptor "()I" = some ⟨[], some .int⟩ := by decide +kernel
theorem own_d210 : decode jdk_68_method_22_code 13 = .ok (.istore_n 2, 1) := by decide +kernel
theorem own_d211 : decode jdk_68_method_22_code 14 = .ok (.aload_n 0, 1) := by decide +kernel
theorem own_d212 : decode jdk_68_method_22_code 15 = .ok (.aload_n 0, 1) := by decide +kernel
theorem own_d213 : decode jdk_68_method_22_code 16 = .ok (.getfield 79, 3) := by decide +kernel
theorem own_d214 : decode jdk_68_method_22_code 19 = .ok (.iload_n 2, 1) := by decide +kernel
theorem own_d215 : decode jdk_68_method_22_code 20 = .ok (.iadd, 1) := by decide +kernel
theorem own_d216 : decode jdk_68_method_22_code 21 = .ok (.invokevirtual 100, 3) := by decide +kernel
theorem own_pd217 : parseMethodDescriptor "(I)V" = some ⟨[.int], none⟩ := by decide +kernel
theorem own_d218 : decode jdk_68_method_22_code 24 = .ok (.aload_n 0, 1) := by decide +kernel
theorem own_d219 : decode jdk_68_method_22_code 25 = .ok (.aload_n 0, 1) := by decide +kernel
theorem own_d220 : decode jdk_68_method_22_code 26 = .ok (.getfield 79, 3) := by decide +kernel
theorem own_d221 : decode jdk_68_method_22_code 29 = .ok (.aload_n 1, 1) := by decide +kernel
theorem own_d222 : decode jdk_68_method_22_code 30 = .ok (.invokevirtual 208, 3) := by decide +kernel
theorem own_pd223 : parseMethodDescriptor "(ILjava/lang/String;)V" = some ⟨[.int, (.object "java/lang/String")], none⟩ := by decide +kernel
theorem own_d224 : decode jdk_68_method_22_code 33 = .ok (.aload_n 0, 1) := by decide +kernel
theorem own_d225 : decode jdk_68_method_22_code 34 = .ok (.dup, 1) := by decide +kernel
theorem own_d226 : decode jdk_68_method_22_code 35 = .ok (.getfield 79, 3) := by decide +kernel
theorem own_d227 : decode jdk_68_method_22_code 38 = .ok (.iload_n 2, 1) := by decide +kernel
theorem own_d228 : decode jdk_68_method_22_code 39 = .ok (.iadd, 1) := by decide +kernel
theorem own_d229 : decode jdk_68_method_22_code 40 = .ok (.putfield 79, 3) := by decide +kernel
theorem own_d230 : decode jdk_68_method_22_code 43 = .ok (.aload_n 0, 1) := by decide +kernel
theorem own_d231 : decode jdk_68_method_22_code 44 = .ok (.areturn, 1) := by decide +kernel
set_option maxHeartbeats 4000000 in
theorem own_ef232 (m : MethodId) (x0 : Addr) (x1 : Addr) : entryFrame m #[(.ref x0), (.ref x1)] 2 = mkF m 0 #[.val (.ref x0), .val (.ref x1)] [] := by first | rfl | (simp [entryFrame, mkF, argsToLocals, Value.category]; done)
theorem own_pn233 : plainName "java/lang/StringBuilder" = true := by first | (simp [plainName, overriddenIn]; done) | decide +kernel
theorem own_d234 : decode jdk_67_method_7_code 0 = .ok (.aload_n 0, 1) := by decide +kernel
theorem own_d235 : decode jdk_67_method_7_code 1 = .ok (.aload_n 1, 1) := by decide +kernel
theorem own_d236 : decode jdk_67_method_7_code 2 = .ok (.invokespecial 29, 3) := by decide +kernel
theorem own_pd237 : parseMethodDescriptor "(Ljava/lang/String;)Ljava/lang/AbstractStringBuilder;" = some ⟨[(.object "java/lang/String")], some (.object "java/lang/AbstractStringBuilder")⟩ := by decide +kernel
theorem own_d238 : decode jdk_67_method_7_code 5 = .ok (.pop, 1) := by decide +kernel
theorem own_d239 : decode jdk_67_method_7_code 6 = .ok (.aload_n 0, 1) := by decide +kernel
theorem own_d240 : decode jdk_67_method_7_code 7 = .ok (.areturn, 1) := by decide +kernel
set_option maxHeartbeats 4000000 in
theorem own_ef241 (m : MethodId) (x0 : Addr) (x1 : Int32) : entryFrame m #[(.ref x0), (.int x1)] 2 = mkF m 0 #[.val (.ref x0), .val (.int x1)] [] := by first | rfl | (simp [entryFrame, mkF, argsToLocals, Value.category]; done)
theorem own_d242 : decode jdk_68_method_2_code 0 = .ok (.aload_n 0, 1) := by decide +kernel
theorem own_d243 : decode jdk_68_method_2_code 1 = .ok (.invokespecial 3, 3) := by decide +kernel
theorem own_d244 : decode jdk_68_method_2_code 4 = .ok (.getstatic 18, 3) := by decide +kernel
theorem own_d245 : decode jdk_68_method_2_code 7 = .ok (.ifCond .eq 18, 3) := by decide +kernel
theorem own_d246 : decode jdk_68_method_2_code 10 = .ok (.aload_n 0, 1) := by decide +kernel
theorem own_d247 : decode jdk_68_method_2_code 11 = .ok (.iload_n 1, 1) := by decide +kernel
theorem own_d248 : decode jdk_68_method_2_code 12 = .ok (.newarray .byte, 2) := by decide +kernel
theorem own_d249 : decode jdk_68_method_2_code 14 = .ok (.putfield 15, 3) := by decide +kernel
theorem own_d250 : decode jdk_68_method_2_code 17 = .ok (.aload_n 0, 1) := by decide +kernel
theorem own_d251 : decode jdk_68_method_2_code 18 = .ok (.iconst 0, 1) := by decide +kernel
theorem own_d252 : decode jdk_68_method_2_code 19 = .ok (.putfield 22, 3) := by decide +kernel
theorem own_d253 : decode jdk_68_method_2_code 22 = .ok (.goto 16, 3) := by decide +kernel
theorem own_d254 : decode jdk_68_method_2_code 38 = .ok (.return_, 1) := by decide +kernel
set_option maxHeartbeats 4000000 in
theorem own_ef255 (m : MethodId) (x0 : Addr) : entryFrame m #[(.ref x0)] 1 = mkF m 0 #[.val (.ref x0)] [] := by first | rfl | (simp [entryFrame, mkF, argsToLocals, Value.category]; done)
theorem own_d256 : decode jdk_67_method_1_code 0 = .ok (.aload_n 0, 1) := by decide +kernel
theorem own_d257 : decode jdk_67_method_1_code 1 = .ok (.bipush 16, 2) := by decide +kernel
theorem own_d258 : decode jdk_67_method_1_code 3 = .ok (.invokespecial 1, 3) := by decide +kernel
theorem own_d259 : decode jdk_67_method_1_code 6 = .ok (.return_, 1) := by decide +kernel
set_option maxHeartbeats 4000000 in
theorem own_ef260 (m : MethodId) (x0 : Addr) : entryFrame m #[(.ref x0)] 1 = mkF m 0 #[.val (.ref x0)] [] := by first | rfl | (simp [entryFrame, mkF, argsToLocals, Value.category]; done)
theorem own_d261 : decode jdk_68_method_64_code 0 = .ok (.aload_n 0, 1) := by decide +kernel
theorem own_d262 : decode jdk_68_method_64_code 1 = .ok (.getfield 15, 3) := by decide +kernel
theorem own_d263 : decode jdk_68_method_64_code 4 = .ok (.areturn, 1) := by decide +kernel
set_option maxHeartbeats 4000000 in
theorem own_ef264 (m : MethodId) (x0 : Addr) : entryFrame m #[(.ref x0)] 1 = mkF m 0 #[.val (.ref x0)] [] := by first | rfl | (simp [entryFrame, mkF, argsToLocals, Value.category]; done)
theorem own_d265 : decode jdk_68_method_6_code 0 = .ok (.aload_n 0, 1) := by decide +kernel
theorem own_d266 : decode jdk_68_method_6_code 1 = .ok (.getfield 79, 3) := by decide +kernel
theorem own_d267 : decode jdk_68_method_6_code 4 = .ok (.ireturn, 1) := by decide +kernel
set_option maxHeartbeats 4000000 in
theorem own_ef268 (m : MethodId) (x0 : Addr) : entryFrame m #[(.ref x0)] 1 = mkF m 0 #[.val (.ref x0)] [] := by first | rfl | (simp [entryFrame, mkF, argsToLocals, Value.category]; done)
theorem own_d269 : decode jdk_67_method_93_code 0 = .ok (.aload_n 0, 1) := by decide +kernel
theorem own_d270 : decode jdk_67_method_93_code 1 = .ok (.invokespecial 343, 3) := by decide +kernel
theorem own_d271 : decode jdk_67_method_93_code 4 = .ok (.ireturn, 1) := by decide +kernel
set_option maxHeartbeats 4000000 in
theorem own_ef272 (m : MethodId) (x0 : Addr) : entryFrame m #[(.ref x0)] 1 = mkF m 0 #[.val (.ref x0)] [] := by first | rfl | (simp [entryFrame, mkF, argsToLocals, Value.category]; done)
theorem own_d273 : decode jdk_68_method_68_code 0 = .ok (.getstatic 18, 3) := by decide +kernel
theorem own_d274 : decode jdk_68_method_68_code 3 = .ok (.ifCond .eq 14, 3) := by decide +kernel
theorem own_d275 : decode jdk_68_method_68_code 6 = .ok (.aload_n 0, 1) := by decide +kernel
theorem own_d276 : decode jdk_68_method_68_code 7 = .ok (.getfield 22, 3) := by decide +kernel
theorem own_d277 : decode jdk_68_method_68_code 10 = .ok (.ifCond .ne 7, 3) := by decide +kernel
theorem own_d278 : decode jdk_68_method_68_code 13 = .ok (.iconst 1, 1) := by decide +kernel
theorem own_d279 : decode jdk_68_method_68_code 14 = .ok (.goto 4, 3) := by decide +kernel
theorem own_d280 : decode jdk_68_method_68_code 18 = .ok (.ireturn, 1) := by decide +kernel
set_option maxHeartbeats 4000000 in
theorem own_ef281 (m : MethodId) (x0 : Int32) (x1 : Int32) : entryFrame m #[(.int x0), (.int x1)] 2 = mkF m 0 #[.val (.int x0), .val (.int x1)] [] := by first | rfl | (simp [entryFrame, mkF, argsToLocals, Value.category]; done)
theorem own_d282 : decode jdk_29_method_69_code 0 = .ok (.iload_n 0, 1) := by decide +kernel
theorem own_d283 : decode jdk_29_method_69_code 1 = .ok (.iload_n 1, 1) := by decide +kernel
theorem own_d284 : decode jdk_29_method_69_code 2 = .ok (.if_icmp .gt 7, 3) := by decide +kernel
theorem own_d285 : decode jdk_29_method_69_code 9 = .ok (.iload_n 1, 1) := by decide +kernel
theorem own_d286 : decode jdk_29_method_69_code 10 = .ok (.ireturn, 1) := by decide +kernel
set_option maxHeartbeats 4000000 in
theorem own_ef287 (m : MethodId) (x0 : Int32) (x1 : Int32) : entryFrame m #[(.int x0), (.int x1)] 2 = mkF m 0 #[.val (.int x0), .val (.int x1)] [] := by first | rfl | (simp [entryFrame, mkF, argsToLocals, Value.category]; done)
theorem own_pn288 : plainName "java/util/Arrays" = true := by first | (simp [plainName, overriddenIn]; done) | decide +kernel
theorem own_d289 : decode jdk_65_method_131_code 0 = .ok (.iload_n 1, 1) := by decide +kernel
theorem own_d290 : decode jdk_65_method_131_code 1 = .ok (.iload_n 0, 1) := by decide +kernel
theorem own_d291 : decode jdk_65_method_131_code 2 = .ok (.if_icmp .ge 35, 3) := by decide +kernel
theorem own_d292 : decode jdk_65_method_131_code 37 = .ok (.return_, 1) := by decide +kernel
set_option maxHeartbeats 4000000 in
theorem own_ef293 (m : MethodId) (x0 : Addr) (x1 : Int32) (x2 : Int32) : entryFrame m #[(.ref x0), (.int x1), (.int x2)] 5 = mkF m 0 #[.val (.ref x0), .val (.int x1), .val (.int x2), .unset, .unset] [] := by first | rfl | (simp [entryFrame, mkF, argsToLocals, Value.category]; done)
theorem own_d294 : decode jdk_65_method_133_code 0 = .ok (.iload_n 1, 1) := by decide +kernel
theorem own_d295 : decode jdk_65_method_133_code 1 = .ok (.iload_n 2, 1) := by decide +kernel
theorem own_d296 : decode jdk_65_method_133_code 2 = .ok (.invokestatic 343, 3) := by decide +kernel
theorem own_pd297 : parseMethodDescriptor "(II)V" = some ⟨[.int, .int], none⟩ := by decide +kernel
theorem own_d298 : decode jdk_65_method_133_code 5 = .ok (.iload_n 2, 1) := by decide +kernel
theorem own_d299 : decode jdk_65_method_133_code 6 = .ok (.iload_n 1, 1) := by decide +kernel
theorem own_d300 : decode jdk_65_method_133_code 7 = .ok (.isub, 1) := by decide +kernel
theorem own_d301 : decode jdk_65_method_133_code 8 = .ok (.istore_n 3, 1) := by decide +kernel
theorem own_d302 : decode jdk_65_method_133_code 9 = .ok (.iload_n 3, 1) := by decide +kernel
theorem own_d303 : decode jdk_65_method_133_code 10 = .ok (.newarray .byte, 2) := by decide +kernel
theorem own_d304 : decode jdk_65_method_133_code 12 = .ok (.astore 4, 2) := by decide +kernel
theorem own_d305 : decode jdk_65_method_133_code 14 = .ok (.aload_n 0, 1) := by decide +kernel
theorem own_d306 : decode jdk_65_method_133_code 15 = .ok (.iload_n 1, 1) := by decide +kernel
theorem own_d307 : decode jdk_65_method_133_code 16 = .ok (.aload 4, 2) := by decide +kernel
theorem own_d308 : decode jdk_65_method_133_code 18 = .ok (.iconst 0, 1) := by decide +kernel
theorem own_d309 : decode jdk_65_method_133_code 19 = .ok (.aload_n 0, 1) := by decide +kernel
theorem own_d310 : decode jdk_65_method_133_code 20 = .ok (.arraylength, 1) := by decide +kernel
theorem own_d311 : decode jdk_65_method_133_code 21 = .ok (.iload_n 1, 1) := by decide +kernel
theorem own_d312 : decode jdk_65_method_133_code 22 = .ok (.isub, 1) := by decide +kernel
theorem own_d313 : decode jdk_65_method_133_code 23 = .ok (.iload_n 3, 1) := by decide +kernel
theorem own_d314 : decode jdk_65_method_133_code 24 = .ok (.invokestatic 304, 3) := by decide +kernel
theorem own_pd315 : parseMethodDescriptor "(II)I" = some ⟨[.int, .int], some .int⟩ := by decide +kernel
theorem own_d316 : decode jdk_65_method_133_code 27 = .ok (.invokestatic 150, 3) := by decide +kernel
theorem own_d317 : decode jdk_65_method_133_code 30 = .ok (.aload 4, 2) := by decide +kernel
theorem own_d318 : decode jdk_65_method_133_code 32 = .ok (.areturn, 1) := by decide +kernel
set_option maxHeartbeats 4000000 in
theorem own_ef319 (m : MethodId) (x0 : Addr) (x1 : Int32) (x2 : Int32) : entryFrame m #[(.ref x0), (.int x1), (.int x2)] 3 = mkF m 0 #[.val (.ref x0), .val (.int x1), .val (.int x2)] [] := by first | rfl | (simp [entryFrame, mkF, argsToLocals, Value.category]; done)
theorem own_d320 : decode jdk_65_method_132_code 0 = .ok (.iload_n 1, 1) := by decide +kernel
theorem own_d321 : decode jdk_65_method_132_code 1 = .ok (.ifCond .ne 9, 3) := by decide +kernel
theorem own_d322 : decode jdk_65_method_132_code 4 = .ok (.iload_n 2, 1) := by decide +kernel
theorem own_d323 : decode jdk_65_method_132_code 5 = .ok (.aload_n 0, 1) := by decide +kernel
theorem own_d324 : decode jdk_65_method_132_code 6 = .ok (.arraylength, 1) := by decide +kernel
theorem own_d325 : decode jdk_65_method_132_code 7 = .ok (.if_icmp .eq 10, 3) := by decide +kernel
theorem own_d326 : decode jdk_65_method_132_code 17 = .ok (.aload_n 0, 1) := by decide +kernel
theorem own_d327 : decode jdk_65_method_132_code 18 = .ok (.invokevirtual 310, 3) := by decide +kernel
theorem own_d328 : decode jdk_65_method_132_code 21 = .ok (.checkcast 311, 3) := by decide +kernel
theorem own_d329 : decode jdk_65_method_132_code 24 = .ok (.areturn, 1) := by decide +kernel
theorem own_d330 : decode jdk_65_method_132_code 10 = .ok (.aload_n 0, 1) := by decide +kernel
theorem own_d331 : decode jdk_65_method_132_code 11 = .ok (.iload_n 1, 1) := by decide +kernel
theorem own_d332 : decode jdk_65_method_132_code 12 = .ok (.iload_n 2, 1) := by decide +kernel
theorem own_d333 : decode jdk_65_method_132_code 13 = .ok (.invokestatic 339, 3) := by decide +kernel
theorem own_pd334 : parseMethodDescriptor "([BII)[B" = some ⟨[(.array .byte), .int, .int], some (.array .byte)⟩ := by decide +kernel
theorem own_d335 : decode jdk_65_method_132_code 16 = .ok (.areturn, 1) := by decide +kernel
set_option maxHeartbeats 4000000 in
theorem own_ef336 (m : MethodId) (x0 : Addr) (x1 : Addr) : entryFrame m #[(.ref x0), (.ref x1), .null] 5 = mkF m 0 #[.val (.ref x0), .val (.ref x1), .val .null, .unset, .unset] [] := by first | rfl | (simp [entryFrame, mkF, argsToLocals, Value.category]; done)
theorem own_d337 : decode jdk_42_method_150_code 0 = .ok (.aload_n 0, 1) := by decide +kernel
theorem own_d338 : decode jdk_42_method_150_code 1 = .ok (.invokespecial 1, 3) := by decide +kernel
theorem own_d339 : decode jdk_42_method_150_code 4 = .ok (.aload_n 1, 1) := by decide +kernel
theorem own_d340 : decode jdk_42_method_150_code 5 = .ok (.invokevirtual 552, 3) := by decide +kernel
theorem own_pd341 : parseMethodDescriptor "()[B" = some ⟨[], some (.array .byte)⟩ := by decide +kernel
theorem own_d342 : decode jdk_42_method_150_code 8 = .ok (.astore_n 3, 1) := by decide +kernel
theorem own_d343 : decode jdk_42_method_150_code 9 = .ok (.aload_n 1, 1) := by decide +kernel
theorem own_d344 : decode jdk_42_method_150_code 10 = .ok (.invokevirtual 549, 3) := by decide +kernel
theorem own_d345 : decode jdk_42_method_150_code 13 = .ok (.istore 4, 2) := by decide +kernel
theorem own_d346 : decode jdk_42_method_150_code 15 = .ok (.aload_n 1, 1) := by decide +kernel
theorem own_d347 : decode jdk_42_method_150_code 16 = .ok (.invokevirtual 1047, 3) := by decide +kernel
theorem own_pd348 : parseMethodDescriptor "()Z" = some ⟨[], some .boolean⟩ := by decide +kernel
theorem own_d349 : decode jdk_42_method_150_code 19 = .ok (.ifCond .eq 22, 3) := by decide +kernel
theorem own_d350 : decode jdk_42_method_150_code 22 = .ok (.aload_n 0, 1) := by decide +kernel
theorem own_d351 : decode jdk_42_method_150_code 23 = .ok (.iconst 0, 1) := by decide +kernel
theorem own_d352 : decode jdk_42_method_150_code 24 = .ok (.putfield 15, 3) := by decide +kernel
theorem own_d353 : decode jdk_42_method_150_code 27 = .ok (.aload_n 0, 1) := by decide +kernel
theorem own_d354 : decode jdk_42_method_150_code 28 = .ok (.aload_n 3, 1) := by decide +kernel
theorem own_d355 : decode jdk_42_method_150_code 29 = .ok (.iconst 0, 1) := by decide +kernel
theorem own_d356 : decode jdk_42_method_150_code 30 = .ok (.iload 4, 2) := by decide +kernel
theorem own_d357 : decode jdk_42_method_150_code 32 = .ok (.invokestatic 54, 3) := by decide +kernel
theorem own_d358 : decode jdk_42_method_150_code 35 = .ok (.putfield 9, 3) := by decide +kernel
theorem own_d359 : decode jdk_42_method_150_code 38 = .ok (.goto 59, 3) := by decide +kernel
theorem own_d360 : decode jdk_42_method_150_code 97 = .ok (.return_, 1) := by decide +kernel
set_option maxHeartbeats 4000000 in
theorem own_ef361 (m : MethodId) (x0 : Addr) (x1 : Addr) : entryFrame m #[(.ref x0), (.ref x1)] 2 = mkF m 0 #[.val (.ref x0), .val (.ref x1)] [] := by first | rfl | (simp [entryFrame, mkF, argsToLocals, Value.category]; done)
theorem own_d362 : decode jdk_42_method_53_code 0 = .ok (.aload_n 0, 1) := by decide +kernel
theorem own_d363 : decode jdk_42_method_53_code 1 = .ok (.aload_n 1, 1) := by decide +kernel
theorem own_d364 : decode jdk_42_method_53_code 2 = .ok (.aconst_null, 1) := by decide +kernel
theorem own_d365 : decode jdk_42_method_53_code 3 = .ok (.invokespecial 489, 3) := by decide +kernel
theorem own_pd366 : parseMethodDescriptor "(Ljava/lang/AbstractStringBuilder;Ljava/lang/Void;)V" = some ⟨[(.object "java/lang/AbstractStringBuilder"), (.object "java/lang/Void")], none⟩ := by decide +kernel
theorem own_d367 : decode jdk_42_method_53_code 6 = .ok (.return_, 1) := by decide +kernel
set_option maxHeartbeats 4000000 in
theorem own_ef368 (m : MethodId) (x0 : Addr) : entryFrame m #[(.ref x0)] 1 = mkF m 0 #[.val (.ref x0)] [] := by first | rfl | (simp [entryFrame, mkF, argsToLocals, Value.category]; done)
theorem own_d369 : decode jdk_67_method_42_code 0 = .ok (.new 18, 3) := by decide +kernel
theorem own_d370 : decode jdk_67_method_42_code 3 = .ok (.dup, 1) := by decide +kernel
theorem own_d371 : decode jdk_67_method_42_code 4 = .ok (.aload_n 0, 1) := by decide +kernel
theorem own_d372 : decode jdk_67_method_42_code 5 = .ok (.invokespecial 137, 3) := by decide +kernel
theorem own_pd373 : parseMethodDescriptor "(Ljava/lang/StringBuilder;)V" = some ⟨[(.object "java/lang/StringBuilder")], none⟩ := by decide +kernel
theorem own_d374 : decode jdk_67_method_42_code 8 = .ok (.areturn, 1) := by decide +kernel
set_option maxHeartbeats 4000000 in
theorem own_ef375 (m : MethodId) (x0 : Addr) (x1 : Int32) : entryFrame m #[(.ref x0), (.int x1)] 4 = mkF m 0 #[.val (.ref x0), .val (.int x1), .unset, .unset] [] := by first | rfl | (simp [entryFrame, mkF, argsToLocals, Value.category]; done)
theorem own_d376 : decode jdk_68_method_32_code 0 = .ok (.aload_n 0, 1) := by decide +kernel
theorem own_d377 : decode jdk_68_method_32_code 1 = .ok (.getfield 79, 3) := by decide +kernel
theorem own_d378 : decode jdk_68_method_32_code 4 = .ok (.istore_n 2, 1) := by decide +kernel
theorem own_d379 : decode jdk_68_method_32_code 5 = .ok (.iload_n 2, 1) := by decide +kernel
theorem own_d380 : decode jdk_68_method_32_code 6 = .ok (.iload_n 1, 1) := by decide +kernel
theorem own_d381 : decode jdk_68_method_32_code 7 = .ok (.invokestatic 245, 3) := by decide +kernel
theorem own_pd382 : parseMethodDescriptor "(I)I" = some ⟨[.int], some .int⟩ := by decide +kernel
theorem own_d383 : decode jdk_68_method_32_code 10 = .ok (.iadd, 1) := by decide +kernel
theorem own_d384 : decode jdk_68_method_32_code 11 = .ok (.istore_n 3, 1) := by decide +kernel
theorem own_d385 : decode jdk_68_method_32_code 12 = .ok (.aload_n 0, 1) := by decide +kernel
theorem own_d386 : decode jdk_68_method_32_code 13 = .ok (.iload_n 3, 1) := by decide +kernel
theorem own_d387 : decode jdk_68_method_32_code 14 = .ok (.invokevirtual 100, 3) := by decide +kernel
theorem own_d388 : decode jdk_68_method_32_code 17 = .ok (.aload_n 0, 1) := by decide +kernel
theorem own_d389 : decode jdk_68_method_32_code 18 = .ok (.invokevirtual 83, 3) := by decide +kernel
theorem own_d390 : decode jdk_68_method_32_code 21 = .ok (.ifCond .eq 16, 3) := by decide +kernel
theorem own_d391 : decode jdk_68_method_32_code 24 = .ok (.iload_n 1, 1) := by decide +kernel
theorem own_d392 : decode jdk_68_method_32_code 25 = .ok (.iload_n 3, 1) := by decide +kernel
theorem own_d393 : decode jdk_68_method_32_code 26 = .ok (.aload_n 0, 1) := by decide +kernel
theorem own_d394 : decode jdk_68_method_32_code 27 = .ok (.getfield 15, 3) := by decide +kernel
theorem own_pd395 : parseMethodDescriptor "(II[B)I" = some ⟨[.int, .int, (.array .byte)], some .int⟩ := by decide +kernel
theorem own_d396 : decode jdk_68_method_32_code 30 = .ok (.invokestatic 248, 3) := by decide +kernel
theorem own_d397 : decode jdk_68_method_32_code 33 = .ok (.pop, 1) := by decide +kernel
theorem own_d398 : decode jdk_68_method_32_code 34 = .ok (.goto 14, 3) := by decide +kernel
theorem own_d399 : decode jdk_68_method_32_code 48 = .ok (.aload_n 0, 1) := by decide +kernel
theorem own_d400 : decode jdk_68_method_32_code 49 = .ok (.iload_n 3, 1) := by decide +kernel
theorem own_d401 : decode jdk_68_method_32_code 50 = .ok (.putfield 79, 3) := by decide +kernel
theorem own_d402 : decode jdk_68_method_32_code 53 = .ok (.aload_n 0, 1) := by decide +kernel
theorem own_d403 : decode jdk_68_method_32_code 54 = .ok (.areturn, 1) := by decide +kernel
set_option maxHeartbeats 4000000 in
theorem own_ef404 (m : MethodId) (x0 : Addr) (x1 : Int32) : entryFrame m #[(.ref x0), (.int x1)] 2 = mkF m 0 #[.val (.ref x0), .val (.int x1)] [] := by first | rfl | (simp [entryFrame, mkF, argsToLocals, Value.category]; done)
theorem own_d405 : decode jdk_67_method_15_code 0 = .ok (.aload_n 0, 1) := by decide +kernel
theorem own_d406 : decode jdk_67_method_15_code 1 = .ok (.iload_n 1, 1) := by decide +kernel
theorem own_d407 : decode jdk_67_method_15_code 2 = .ok (.invokespecial 53, 3) := by decide +kernel
theorem own_pd408 : parseMethodDescriptor "(I)Ljava/lang/AbstractStringBuilder;" = some ⟨[.int], some (.object "java/lang/AbstractStringBuilder")⟩ := by decide +kernel
theorem own_d409 : decode jdk_67_method_15_code 5 = .ok (.pop, 1) := by decide +kernel
theorem own_d410 : decode jdk_67_method_15_code 6 = .ok (.aload_n 0, 1) := by decide +kernel
theorem own_d411 : decode jdk_67_method_15_code 7 = .ok (.areturn, 1) := by decide +kernel
set_option maxHeartbeats 4000000 in
theorem own_ef412 (m : MethodId) (x0 : Int32) (x1 : Int32) : entryFrame m #[(.int x0), (.int x1)] 2 = mkF m 0 #[.val (.int x0), .val (.int x1)] [] := by first | rfl | (simp [entryFrame, mkF, argsToLocals, Value.category]; done)
theorem own_d413 : decode jdk_29_method_65_code 0 = .ok (.iload_n 0, 1) := by decide +kernel
theorem own_d414 : decode jdk_29_method_65_code 1 = .ok (.iload_n 1, 1) := by decide +kernel
theorem own_d415 : decode jdk_29_method_65_code 2 = .ok (.if_icmp .lt 7, 3) := by decide +kernel
theorem own_d416 : decode jdk_29_method_65_code 9 = .ok (.iload_n 1, 1) := by decide +kernel
theorem own_d417 : decode jdk_29_method_65_code 10 = .ok (.ireturn, 1) := by decide +kernel
theorem own_d418 : decode jdk_29_method_69_code 5 = .ok (.iload_n 0, 1) := by decide +kernel
theorem own_d419 : decode jdk_29_method_69_code 6 = .ok (.goto 4, 3) := by decide +kernel
set_option maxHeartbeats 4000000 in
theorem own_ef420 (m : MethodId) (x0 : Int32) (x1 : Int32) (x2 : Int32) : entryFrame m #[(.int x0), (.int x1), (.int x2)] 4 = mkF m 0 #[.val (.int x0), .val (.int x1), .val (.int x2), .unset] [] := by first | rfl | (simp [entryFrame, mkF, argsToLocals, Value.category]; done)
theorem own_pn421 : plainName "jdk/internal/util/ArraysSupport" = true := by first | (simp [plainName, overriddenIn]; done) | decide +kernel
theorem own_d422 : decode jdk_48_method_27_code 0 = .ok (.iload_n 0, 1) := by decide +kernel
theorem own_d423 : decode jdk_48_method_27_code 1 = .ok (.iload_n 1, 1) := by decide +kernel
theorem own_d424 : decode jdk_48_method_27_code 2 = .ok (.iload_n 2, 1) := by decide +kernel
theorem own_d425 : decode jdk_48_method_27_code 3 = .ok (.invokestatic 194, 3) := by decide +kernel
theorem own_d426 : decode jdk_48_method_27_code 6 = .ok (.iadd, 1) := by decide +kernel
theorem own_d427 : decode jdk_48_method_27_code 7 = .ok (.istore_n 3, 1) := by decide +kernel
theorem own_d428 : decode jdk_48_method_27_code 8 = .ok (.iconst 0, 1) := by decide +kernel
theorem own_d429 : decode jdk_48_method_27_code 9 = .ok (.iload_n 3, 1) := by decide +kernel
theorem own_d430 : decode jdk_48_method_27_code 10 = .ok (.if_icmp .ge 11, 3) := by decide +kernel
theorem own_d431 : decode jdk_48_method_27_code 13 = .ok (.iload_n 3, 1) := by decide +kernel
theorem own_d432 : decode jdk_48_method_27_code 14 = .ok (.ldc 200, 2) := by decide +kernel
theorem own_d433 : decode jdk_48_method_27_code 16 = .ok (.if_icmp .gt 5, 3) := by decide +kernel
theorem own_d434 : decode jdk_48_method_27_code 19 = .ok (.iload_n 3, 1) := by decide +kernel
theorem own_d435 : decode jdk_48_method_27_code 20 = .ok (.ireturn, 1) := by decide +kernel
set_option maxHeartbeats 4000000 in
theorem own_ef436 (m : MethodId) (x0 : Addr) (x1 : Int32) : entryFrame m #[(.ref x0), (.int x1)] 6 = mkF m 0 #[.val (.ref x0), .val (.int x1), .unset, .unset, .unset, .unset] [] := by first | rfl | (simp [entryFrame, mkF, argsToLocals, Value.category]; done)
theorem own_d437 : decode jdk_68_method_10_code 0 = .ok (.aload_n 0, 1) := by decide +kernel
theorem own_d438 : decode jdk_68_method_10_code 1 = .ok (.getfield 15, 3) := by decide +kernel
theorem own_d439 : decode jdk_68_method_10_code 4 = .ok (.arraylength, 1) := by decide +kernel
theorem own_d440 : decode jdk_68_method_10_code 5 = .ok (.istore_n 2, 1) := by decide +kernel
theorem own_d441 : decode jdk_68_method_10_code 6 = .ok (.iload_n 1, 1) := by decide +kernel
theorem own_d442 : decode jdk_68_method_10_code 7 = .ok (.aload_n 0, 1) := by decide +kernel
theorem own_d443 : decode jdk_68_method_10_code 8 = .ok (.getfield 22, 3) := by decide +kernel
theorem own_d444 : decode jdk_68_method_10_code 11 = .ok (.ishl, 1) := by decide +kernel
theorem own_d445 : decode jdk_68_method_10_code 12 = .ok (.istore_n 3, 1) := by decide +kernel
theorem own_d446 : decode jdk_68_method_10_code 13 = .ok (.iload_n 3, 1) := by decide +kernel
theorem own_d447 : decode jdk_68_method_10_code 14 = .ok (.iload_n 2, 1) := by decide +kernel
theorem own_d448 : decode jdk_68_method_10_code 15 = .ok (.isub, 1) := by decide +kernel
theorem own_d449 : decode jdk_68_method_10_code 16 = .ok (.istore 4, 2) := by decide +kernel
theorem own_d450 : decode jdk_68_method_10_code 18 = .ok (.iload_n 2, 1) := by decide +kernel
theorem own_d451 : decode jdk_68_method_10_code 19 = .ok (.iload 4, 2) := by decide +kernel
theorem own_d452 : decode jdk_68_method_10_code 21 = .ok (.iload_n 2, 1) := by decide +kernel
theorem own_d453 : decode jdk_68_method_10_code 22 = .ok (.iconst 2, 1) := by decide +kernel
theorem own_d454 : decode jdk_68_method_10_code 23 = .ok (.aload_n 0, 1) := by decide +kernel
theorem own_d455 : decode jdk_68_method_10_code 24 = .ok (.getfield 22, 3) := by decide +kernel
theorem own_d456 : decode jdk_68_method_10_code 27 = .ok (.ishl, 1) := by decide +kernel
theorem own_d457 : decode jdk_68_method_10_code 28 = .ok (.iadd, 1) := by decide +kernel
theorem own_d458 : decode jdk_68_method_10_code 29 = .ok (.invokestatic 114, 3) := by decide +kernel
theorem own_pd459 : parseMethodDescriptor "(III)I" = some ⟨[.int, .int, .int], some .int⟩ := by decide +kernel
theorem own_d460 : decode jdk_68_method_10_code 32 = .ok (.istore 5, 2) := by decide +kernel
theorem own_d461 : decode jdk_68_method_10_code 34 = .ok (.iload 5, 2) := by decide +kernel
theorem own_d462 : decode jdk_68_method_10_code 36 = .ok (.ldc 39, 2) := by decide +kernel
theorem own_d463 : decode jdk_68_method_10_code 38 = .ok (.if_icmp .ne 13, 3) := by decide +kernel
theorem own_d464 : decode jdk_68_method_10_code 51 = .ok (.iload 5, 2) := by decide +kernel
theorem own_d465 : decode jdk_68_method_10_code 53 = .ok (.aload_n 0, 1) := by decide +kernel
theorem own_d466 : decode jdk_68_method_10_code 54 = .ok (.getfield 22, 3) := by decide +kernel
theorem own_d467 : decode jdk_68_method_10_code 57 = .ok (.ishr, 1) := by decide +kernel
theorem own_d468 : decode jdk_68_method_10_code 58 = .ok (.ireturn, 1) := by decide +kernel
set_option maxHeartbeats 4000000 in
theorem own_ef469 (m : MethodId) (x0 : Addr) (x1 : Int32) : entryFrame m #[(.ref x0), (.int x1)] 3 = mkF m 0 #[.val (.ref x0), .val (.int x1), .unset] [] := by first | rfl | (simp [entryFrame, mkF, argsToLocals, Value.category]; done)
theorem own_d470 : decode jdk_65_method_121_code 0 = .ok (.iload_n 1, 1) := by decide +kernel
theorem own_d471 : decode jdk_65_method_121_code 1 = .ok (.aload_n 0, 1) := by decide +kernel
theorem own_d472 : decode jdk_65_method_121_code 2 = .ok (.arraylength, 1) := by decide +kernel
theorem own_d473 : decode jdk_65_method_121_code 3 = .ok (.if_icmp .ne 11, 3) := by decide +kernel
theorem own_d474 : decode jdk_65_method_121_code 14 = .ok (.iload_n 1, 1) := by decide +kernel
theorem own_d475 : decode jdk_65_method_121_code 15 = .ok (.newarray .byte, 2) := by decide +kernel
theorem own_d476 : decode jdk_65_method_121_code 17 = .ok (.astore_n 2, 1) := by decide +kernel
theorem own_d477 : decode jdk_65_method_121_code 18 = .ok (.aload_n 0, 1) := by decide +kernel
theorem own_d478 : decode jdk_65_method_121_code 19 = .ok (.iconst 0, 1) := by decide +kernel
theorem own_d479 : decode jdk_65_method_121_code 20 = .ok (.aload_n 2, 1) := by decide +kernel
theorem own_d480 : decode jdk_65_method_121_code 21 = .ok (.iconst 0, 1) := by decide +kernel
theorem own_d481 : decode jdk_65_method_121_code 22 = .ok (.aload_n 0, 1) := by decide +kernel
theorem own_d482 : decode jdk_65_method_121_code 23 = .ok (.arraylength, 1) := by decide +kernel
theorem own_d483 : decode jdk_65_method_121_code 24 = .ok (.iload_n 1, 1) := by decide +kernel
theorem own_d484 : decode jdk_65_method_121_code 25 = .ok (.invokestatic 304, 3) := by decide +kernel
theorem own_d485 : decode jdk_65_method_121_code 28 = .ok (.invokestatic 150, 3) := by decide +kernel
theorem own_d486 : decode jdk_65_method_121_code 31 = .ok (.aload_n 2, 1) := by decide +kernel
theorem own_d487 : decode jdk_65_method_121_code 32 = .ok (.areturn, 1) := by decide +kernel
theorem own_d488 : decode jdk_68_method_9_code 17 = .ok (.aload_n 0, 1) := by decide +kernel
theorem own_d489 : decode jdk_68_method_9_code 18 = .ok (.aload_n 0, 1) := by decide +kernel
theorem own_d490 : decode jdk_68_method_9_code 19 = .ok (.getfield 15, 3) := by decide +kernel
theorem own_d491 : decode jdk_68_method_9_code 22 = .ok (.aload_n 0, 1) := by decide +kernel
theorem own_d492 : decode jdk_68_method_9_code 23 = .ok (.iload_n 1, 1) := by decide +kernel
theorem own_d493 : decode jdk_68_method_9_code 24 = .ok (.invokevirtual 104, 3) := by decide +kernel
theorem own_d494 : decode jdk_68_method_9_code 27 = .ok (.aload_n 0, 1) := by decide +kernel
theorem own_d495 : decode jdk_68_method_9_code 28 = .ok (.getfield 22, 3) := by decide +kernel
theorem own_d496 : decode jdk_68_method_9_code 31 = .ok (.ishl, 1) := by decide +kernel
theorem own_pd497 : parseMethodDescriptor "([BI)[B" = some ⟨[(.array .byte), .int], some (.array .byte)⟩ := by decide +kernel
theorem own_d498 : decode jdk_68_method_9_code 32 = .ok (.invokestatic 108, 3) := by decide +kernel
theorem own_d499 : decode jdk_68_method_9_code 35 = .ok (.putfield 15, 3) := by decide +kernel
set_option maxHeartbeats 4000000 in
theorem own_ef500 (m : MethodId) (x0 : Int64) : entryFrame m #[(.long x0)] 2 = mkF m 0 #[.val (.long x0), .second] [] := by first | (simp [entryFrame, mkF, argsToLocals, Value.category]; done) | rfl
theorem own_d501 : decode method_4_code 0 = .ok (.lload_n 0, 1) := by decide +kernel
theorem own_d502 : decode method_4_code 1 = .ok (.ldc2_w 48, 3) := by decide +kernel
theorem own_d503 : decode method_4_code 4 = .ok (.lcmp, 1) := by decide +kernel
theorem own_d504 : decode method_4_code 5 = .ok (.ifCond .ge 5, 3) := by decide +kernel
theorem own_d505 : decode method_4_code 8 = .ok (.iconst 1, 1) := by decide +kernel
theorem own_d506 : decode method_4_code 9 = .ok (.ireturn, 1) := by decide +kernel
theorem own_d507 : decode method_4_code 10 = .ok (.lload_n 0, 1) := by decide +kernel
theorem own_d508 : decode method_4_code 11 = .ok (.ldc2_w 50, 3) := by decide +kernel
theorem own_d509 : decode method_4_code 14 = .ok (.lcmp, 1) := by decide +kernel
theorem own_d510 : decode method_4_code 15 = .ok (.ifCond .ge 5, 3) := by decide +kernel
theorem own_d511 : decode method_4_code 18 = .ok (.iconst 2, 1) := by decide +kernel
theorem own_d512 : decode method_4_code 19 = .ok (.ireturn, 1) := by decide +kernel
theorem own_d513 : decode method_4_code 20 = .ok (.lload_n 0, 1) := by decide +kernel
theorem own_d514 : decode method_4_code 21 = .ok (.ldc2_w 52, 3) := by decide +kernel
theorem own_d515 : decode method_4_code 24 = .ok (.lcmp, 1) := by decide +kernel
theorem own_d516 : decode method_4_code 25 = .ok (.ifCond .ge 5, 3) := by decide +kernel
theorem own_d517 : decode method_4_code 28 = .ok (.iconst 3, 1) := by decide +kernel
theorem own_d518 : decode method_4_code 29 = .ok (.ireturn, 1) := by decide +kernel
theorem own_d519 : decode method_4_code 30 = .ok (.lload_n 0, 1) := by decide +kernel
theorem own_d520 : decode method_4_code 31 = .ok (.ldc2_w 54, 3) := by decide +kernel
theorem own_d521 : decode method_4_code 34 = .ok (.lcmp, 1) := by decide +kernel
theorem own_d522 : decode method_4_code 35 = .ok (.ifCond .ge 5, 3) := by decide +kernel
theorem own_d523 : decode method_4_code 38 = .ok (.iconst 4, 1) := by decide +kernel
theorem own_d524 : decode method_4_code 39 = .ok (.ireturn, 1) := by decide +kernel
theorem own_d525 : decode method_4_code 40 = .ok (.lload_n 0, 1) := by decide +kernel
theorem own_d526 : decode method_4_code 41 = .ok (.ldc2_w 56, 3) := by decide +kernel
theorem own_d527 : decode method_4_code 44 = .ok (.lcmp, 1) := by decide +kernel
theorem own_d528 : decode method_4_code 45 = .ok (.ifCond .ge 5, 3) := by decide +kernel
theorem own_d529 : decode method_4_code 48 = .ok (.iconst 5, 1) := by decide +kernel
theorem own_d530 : decode method_4_code 49 = .ok (.ireturn, 1) := by decide +kernel
theorem own_d531 : decode method_4_code 50 = .ok (.lload_n 0, 1) := by decide +kernel
theorem own_d532 : decode method_4_code 51 = .ok (.ldc2_w 58, 3) := by decide +kernel
theorem own_d533 : decode method_4_code 54 = .ok (.lcmp, 1) := by decide +kernel
theorem own_d534 : decode method_4_code 55 = .ok (.ifCond .ge 6, 3) := by decide +kernel
theorem own_d535 : decode method_4_code 58 = .ok (.bipush 6, 2) := by decide +kernel
theorem own_d536 : decode method_4_code 60 = .ok (.ireturn, 1) := by decide +kernel
theorem own_d537 : decode method_4_code 61 = .ok (.lload_n 0, 1) := by decide +kernel
theorem own_d538 : decode method_4_code 62 = .ok (.ldc2_w 60, 3) := by decide +kernel
theorem own_d539 : decode method_4_code 65 = .ok (.lcmp, 1) := by decide +kernel
theorem own_d540 : decode method_4_code 66 = .ok (.ifCond .ge 6, 3) := by decide +kernel
theorem own_d541 : decode method_4_code 69 = .ok (.bipush 7, 2) := by decide +kernel
theorem own_d542 : decode method_4_code 71 = .ok (.ireturn, 1) := by decide +kernel
theorem own_d543 : decode method_4_code 72 = .ok (.lload_n 0, 1) := by decide +kernel
theorem own_d544 : decode method_4_code 73 = .ok (.ldc2_w 62, 3) := by decide +kernel
theorem own_d545 : decode method_4_code 76 = .ok (.lcmp, 1) := by decide +kernel
theorem own_d546 : decode method_4_code 77 = .ok (.ifCond .ge 6, 3) := by decide +kernel
theorem own_d547 : decode method_4_code 80 = .ok (.bipush 8, 2) := by decide +kernel
theorem own_d548 : decode method_4_code 82 = .ok (.ireturn, 1) := by decide +kernel
theorem own_d549 : decode method_4_code 83 = .ok (.lload_n 0, 1) := by decide +kernel
theorem own_d550 : decode method_4_code 84 = .ok (.ldc2_w 64, 3) := by decide +kernel
theorem own_d551 : decode method_4_code 87 = .ok (.lcmp, 1) := by decide +kernel
theorem own_d552 : decode method_4_code 88 = .ok (.ifCond .ge 6, 3) := by decide +kernel
theorem own_d553 : decode method_4_code 91 = .ok (.bipush 9, 2) := by decide +kernel
theorem own_d554 : decode method_4_code 93 = .ok (.ireturn, 1) := by decide +kernel
theorem own_d555 : decode method_4_code 94 = .ok (.bipush 10, 2) := by decide +kernel
theorem own_d556 : decode method_4_code 96 = .ok (.ireturn, 1) := by decide +kernel
set_option maxHeartbeats 4000000 in
theorem own_ef557 (m : MethodId) (x0 : Addr) (x1 : Int32) (x2 : Int32) (x3 : Int32) (x4 : Int64) : entryFrame m #[(.ref x0), (.int x1), (.int x2), (.int x3), (.long x4)] 9 = mkF m 0 #[.val (.ref x0), .val (.int x1), .val (.int x2), .val (.int x3), .val (.long x4), .second, .unset, .unset, .unset] [] := by first | (simp [entryFrame, mkF, argsToLocals, Value.category]; done) | rfl
theorem own_d558 : decode method_5_code 0 = .ok (.iload_n 3, 1) := by decide +kernel
theorem own_d559 : decode method_5_code 1 = .ok (.iload_n 2, 1) := by decide +kernel
theorem own_d560 : decode method_5_code 2 = .ok (.if_icmp .lt 5, 3) := by decide +kernel
theorem own_d561 : decode method_5_code 7 = .ok (.bipush 10, 2) := by decide +kernel
theorem own_d562 : decode method_5_code 9 = .ok (.newarray .long, 2) := by decide +kernel
theorem own_d563 : decode method_5_code 11 = .ok (.dup, 1) := by decide +kernel
theorem own_d564 : decode method_5_code 12 = .ok (.iconst 0, 1) := by decide +kernel
theorem own_d565 : decode method_5_code 13 = .ok (.lconst 1, 1) := by decide +kernel
theorem own_d566 : decode method_5_code 14 = .ok (.lastore, 1) := by decide +kernel
theorem own_d567 : decode method_5_code 15 = .ok (.dup, 1) := by decide +kernel
theorem own_d568 : decode method_5_code 16 = .ok (.iconst 1, 1) := by decide +kernel
theorem own_d569 : decode method_5_code 17 = .ok (.ldc2_w 48, 3) := by decide +kernel
theorem own_d570 : decode method_5_code 20 = .ok (.lastore, 1) := by decide +kernel
theorem own_d571 : decode method_5_code 21 = .ok (.dup, 1) := by decide +kernel
theorem own_d572 : decode method_5_code 22 = .ok (.iconst 2, 1) := by decide +kernel
theorem own_d573 : decode method_5_code 23 = .ok (.ldc2_w 50, 3) := by decide +kernel
theorem own_d574 : decode method_5_code 26 = .ok (.lastore, 1) := by decide +kernel
theorem own_d575 : decode method_5_code 27 = .ok (.dup, 1) := by decide +kernel
theorem own_d576 : decode method_5_code 28 = .ok (.iconst 3, 1) := by decide +kernel
theorem own_d577 : decode method_5_code 29 = .ok (.ldc2_w 52, 3) := by decide +kernel
theorem own_d578 : decode method_5_code 32 = .ok (.lastore, 1) := by decide +kernel
theorem own_d579 : decode method_5_code 33 = .ok (.dup, 1) := by decide +kernel
theorem own_d580 : decode method_5_code 34 = .ok (.iconst 4, 1) := by decide +kernel
theorem own_d581 : decode method_5_code 35 = .ok (.ldc2_w 54, 3) := by decide +kernel
theorem own_d582 : decode method_5_code 38 = .ok (.lastore, 1) := by decide +kernel
theorem own_d583 : decode method_5_code 39 = .ok (.dup, 1) := by decide +kernel
theorem own_d584 : decode method_5_code 40 = .ok (.iconst 5, 1) := by decide +kernel
theorem own_d585 : decode method_5_code 41 = .ok (.ldc2_w 56, 3) := by decide +kernel
theorem own_d586 : decode method_5_code 44 = .ok (.lastore, 1) := by decide +kernel
theorem own_d587 : decode method_5_code 45 = .ok (.dup, 1) := by decide +kernel
theorem own_d588 : decode method_5_code 46 = .ok (.bipush 6, 2) := by decide +kernel
theorem own_d589 : decode method_5_code 48 = .ok (.ldc2_w 58, 3) := by decide +kernel
theorem own_d590 : decode method_5_code 51 = .ok (.lastore, 1) := by decide +kernel
theorem own_d591 : decode method_5_code 52 = .ok (.dup, 1) := by decide +kernel
theorem own_d592 : decode method_5_code 53 = .ok (.bipush 7, 2) := by decide +kernel
theorem own_d593 : decode method_5_code 55 = .ok (.ldc2_w 60, 3) := by decide +kernel
theorem own_d594 : decode method_5_code 58 = .ok (.lastore, 1) := by decide +kernel
theorem own_d595 : decode method_5_code 59 = .ok (.dup, 1) := by decide +kernel
theorem own_d596 : decode method_5_code 60 = .ok (.bipush 8, 2) := by decide +kernel
theorem own_d597 : decode method_5_code 62 = .ok (.ldc2_w 62, 3) := by decide +kernel
theorem own_d598 : decode method_5_code 65 = .ok (.lastore, 1) := by decide +kernel
theorem own_d599 : decode method_5_code 66 = .ok (.dup, 1) := by decide +kernel
theorem own_d600 : decode method_5_code 67 = .ok (.bipush 9, 2) := by decide +kernel
theorem own_d601 : decode method_5_code 69 = .ok (.ldc2_w 64, 3) := by decide +kernel
theorem own_d602 : decode method_5_code 72 = .ok (.lastore, 1) := by decide +kernel
theorem own_d603 : decode method_5_code 73 = .ok (.astore 6, 2) := by decide +kernel
theorem own_d604 : decode method_5_code 75 = .ok (.lload 4, 2) := by decide +kernel
theorem own_d605 : decode method_5_code 77 = .ok (.aload 6, 2) := by decide +kernel
theorem own_d606 : decode method_5_code 79 = .ok (.iload_n 2, 1) := by decide +kernel
theorem own_d607 : decode method_5_code 80 = .ok (.iconst 1, 1) := by decide +kernel
theorem own_d608 : decode method_5_code 81 = .ok (.isub, 1) := by decide +kernel
theorem own_d609 : decode method_5_code 82 = .ok (.iload_n 3, 1) := by decide +kernel
theorem own_d610 : decode method_5_code 83 = .ok (.isub, 1) := by decide +kernel
theorem own_d611 : decode method_5_code 84 = .ok (.laload, 1) := by decide +kernel
theorem own_d612 : decode method_5_code 85 = .ok (.ldiv, 1) := by decide +kernel
theorem own_d613 : decode method_5_code 86 = .ok (.ldc2_w 48, 3) := by decide +kernel
theorem own_d614 : decode method_5_code 89 = .ok (.lrem, 1) := by decide +kernel
theorem own_d615 : decode method_5_code 90 = .ok (.lstore 7, 2) := by decide +kernel
theorem own_d616 : decode method_5_code 92 = .ok (.aload_n 0, 1) := by decide +kernel
theorem own_d617 : decode method_5_code 93 = .ok (.iload_n 1, 1) := by decide +kernel
theorem own_d618 : decode method_5_code 94 = .ok (.iload_n 3, 1) := by decide +kernel
theorem own_d619 : decode method_5_code 95 = .ok (.iadd, 1) := by decide +kernel
theorem own_pd620 : parseMethodDescriptor "(I)C" = some ⟨[.int], some .char⟩ := by decide +kernel
theorem own_d621 : decode method_5_code 96 = .ok (.invokevirtual 33, 3) := by decide +kernel
theorem own_d622 : decode method_5_code 99 = .ok (.bipush 48, 2) := by decide +kernel
theorem own_d623 : decode method_5_code 101 = .ok (.lload 7, 2) := by decide +kernel
theorem own_d624 : decode method_5_code 103 = .ok (.l2i, 1) := by decide +kernel
theorem own_d625 : decode method_5_code 104 = .ok (.iadd, 1) := by decide +kernel
theorem own_d626 : decode method_5_code 105 = .ok (.i2c, 1) := by decide +kernel
theorem own_d627 : decode method_5_code 106 = .ok (.if_icmp .ne 7, 3) := by decide +kernel
theorem own_d628 : decode method_5_code 109 = .ok (.iconst 1, 1) := by decide +kernel
theorem own_d629 : decode method_5_code 110 = .ok (.goto 4, 3) := by decide +kernel
theorem own_d630 : decode method_5_code 114 = .ok (.ireturn, 1) := by decide +kernel
theorem own_d631 : decode method_5_code 5 = .ok (.iconst 1, 1) := by decide +kernel
theorem own_d632 : decode method_5_code 6 = .ok (.ireturn, 1) := by decide +kernel
set_option maxHeartbeats 4000000 in
theorem own_ef633 (m : MethodId) (x0 : Addr) : entryFrame m #[(.ref x0)] 1 = mkF m 0 #[.val (.ref x0)] [] := by first | rfl | (simp [entryFrame, mkF, argsToLocals, Value.category]; done)
theorem own_d634 : decode jdk_78_method_6_code 0 = .ok (.aload_n 0, 1) := by decide +kernel
theorem own_d635 : decode jdk_78_method_6_code 1 = .ok (.getfield 31, 3) := by decide +kernel
theorem own_d636 : decode jdk_78_method_6_code 4 = .ok (.areturn, 1) := by decide +kernel
set_option maxHeartbeats 4000000 in
theorem own_ef637 (m : MethodId) (x0 : Addr) (x1 : Int32) (x2 : Addr) : entryFrame m #[(.ref x0), (.int x1), (.ref x2)] 3 = mkF m 0 #[.val (.ref x0), .val (.int x1), .val (.ref x2)] [] := by first | rfl | (simp [entryFrame, mkF, argsToLocals, Value.category]; done)
theorem own_d638 : decode prog_52_method_3_code 0 = .ok (.new 10, 3) := by decide +kernel
theorem own_d639 : decode prog_52_method_3_code 3 = .ok (.dup, 1) := by decide +kernel
theorem own_d640 : decode prog_52_method_3_code 4 = .ok (.new 12, 3) := by decide +kernel
theorem own_d641 : decode prog_52_method_3_code 7 = .ok (.dup, 1) := by decide +kernel
theorem own_d642 : decode prog_52_method_3_code 8 = .ok (.invokespecial 14, 3) := by decide +kernel
theorem own_pd643 : parseMethodDescriptor "()V" = some ⟨[], none⟩ := by decide +kernel
theorem own_d644 : decode prog_52_method_3_code 11 = .ok (.aload_n 0, 1) := by decide +kernel
theorem own_d645 : decode prog_52_method_3_code 12 = .ok (.invokevirtual 17, 3) := by decide +kernel
theorem own_pd646 : parseMethodDescriptor "(Ljava/lang/String;)Ljava/lang/StringBuilder;" = some ⟨[(.object "java/lang/String")], some (.object "java/lang/StringBuilder")⟩ := by decide +kernel
theorem own_d647 : decode prog_52_method_3_code 15 = .ok (.ldc 21, 2) := by decide +kernel
theorem own_d648 : decode prog_52_method_3_code 17 = .ok (.invokevirtual 17, 3) := by decide +kernel
theorem own_d649 : decode prog_52_method_3_code 20 = .ok (.iload_n 1, 1) := by decide +kernel
theorem own_d650 : decode prog_52_method_3_code 21 = .ok (.invokevirtual 23, 3) := by decide +kernel
theorem own_pd651 : parseMethodDescriptor "(I)Ljava/lang/StringBuilder;" = some ⟨[.int], some (.object "java/lang/StringBuilder")⟩ := by decide +kernel
theorem own_d652 : decode prog_52_method_3_code 24 = .ok (.ldc 26, 2) := by decide +kernel
theorem own_d653 : decode prog_52_method_3_code 26 = .ok (.invokevirtual 17, 3) := by decide +kernel
theorem own_d654 : decode prog_52_method_3_code 29 = .ok (.aload_n 2, 1) := by decide +kernel
theorem own_d655 : decode prog_52_method_3_code 30 = .ok (.invokevirtual 17, 3) := by decide +kernel
theorem own_pd656 : parseMethodDescriptor "()Ljava/lang/String;" = some ⟨[], some (.object "java/lang/String")⟩ := by decide +kernel
theorem own_d657 : decode prog_52_method_3_code 33 = .ok (.invokevirtual 28, 3) := by decide +kernel
theorem own_d658 : decode prog_52_method_3_code 36 = .ok (.invokespecial 32, 3) := by decide +kernel
theorem own_d659 : decode prog_52_method_3_code 39 = .ok (.areturn, 1) := by decide +kernel
set_option maxHeartbeats 4000000 in
theorem own_ef660 (m : MethodId) (x0 : Int32) (x1 : Int32) (x2 : Int32) (x3 : Int32) (x4 : Int32) (x5 : Int32) : entryFrame m #[(.int x0), (.int x1), (.int x2), (.int x3), (.int x4), (.int x5)] maxLocals = mkF m 0 #[.val (.int x0), .val (.int x1), .val (.int x2), .val (.int x3), .val (.int x4), .val (.int x5), .unset, .unset, .unset, .unset, .unset, .unset, .unset, .unset, .unset, .unset, .unset, .unset, .unset, .unset, .unset, .unset, .unset, .unset] [] := by first | (simp [entryFrame, mkF, argsToLocals, Value.category, maxLocals]; done) | rfl
theorem own_pd661 : parseMethodDescriptor "(ICC)Ljava/lang/String;" = some ⟨[.int, .char, .char], some (.object "java/lang/String")⟩ := by decide +kernel
theorem own_pd662 : parseMethodDescriptor "(Ljava/lang/String;ILjava/lang/String;)Lcom/example/faktorwerk/faktorwerk/model/InputRefusedException;" = some ⟨[(.object "java/lang/String"), .int, (.object "java/lang/String")], some (.object "com/example/faktorwerk/faktorwerk/model/InputRefusedException")⟩ := by decide +kernel
theorem own_pd663 : parseMethodDescriptor "(J)I" = some ⟨[.long], some .int⟩ := by decide +kernel
theorem own_pd664 : parseMethodDescriptor "(Ljava/lang/String;IIIJ)Z" = some ⟨[(.object "java/lang/String"), .int, .int, .int, .long], some .boolean⟩ := by decide +kernel
def own_EL : List (String × Nat) := [("com/example/faktorwerk/faktorwerk/model/InputRefusedException", 21), ("com/example/faktorwerk/faktorwerk/model/InputRefusedException", 26), ("java/lang/String", 7)]
theorem own_EW {Z : State} {a0 : Array Value} (hw : ∀ d ∈ tables_1, d.before a0 Z = true) : EW Z a0 own_EL := EW.cons (hw _ (List.mem_of_getElem? (i := 98) rfl)) (by decide) (EW.cons (hw _ (List.mem_of_getElem? (i := 121) rfl)) (by decide) (EW.cons (hw _ (List.mem_of_getElem? (i := 18) rfl)) (by decide) (EW.nil)))
set_option maxRecDepth 65536 in
theorem own_sa : ∀ d ∈ Bundle.stringAtoms, d ∈ tables_1 := by decide +kernel
def QSame (u : Value) (h0 : Heap) (n0 : Nat) (v : Option Value) (h : Heap) (L : List Loc) : Prop := v = some u ∧ Fr n0 L ∧ h = h0
def StrIs (Z : State) (h : Heap) (a : Addr) (cs : List Int32) : Prop := Exa Z h a "java/lang/String" ∧ Fld Z h a "java/lang/String" "coder" "B" (.int 0) ∧ (∀ c ∈ cs, ¬ c < 0 ∧ ¬ (255 : Int32) < c) ∧ cs.length ≤ 4000 ∧ ∃ (t : Addr) (kb : ClassId), Fld Z h a "java/lang/String" "value" "[B" (.ref t) ∧ Arv Z h t kb .byte (Int32.ofNat cs.length) ((cs.map fun c => c.toInt8.toInt32).map Value.int) (.int 0)
theorem StrIs.keep0 {Z : State} {h h' : Heap} {a : Addr} {cs : List Int32} (S : StrIs Z h a cs) (K : Keep h h' []) : StrIs Z h' a cs := by
  obtain ⟨E, C, hp, hl, t, kb, F, V⟩ := S
  exact ⟨E.keep K, C.keep K nin0, hp, hl, t, kb, F.keep K nin0, V.keep K nin0⟩
theorem StrIs.keepX {Z : State} {h h' : Heap} {a x : Addr} {cs : List Int32} {C : String} {n : Nat} {a0 : Array Value} (S : StrIs Z h a cs) (K : Keep h h' [x]) (E' : Exa Z h x C) (w : (Jvm.Cond.instantiable C n).before a0 Z = true) (hne : C ≠ "java/lang/String") : StrIs Z h' a cs := by
  obtain ⟨E, C', hp, hl, t, kb, F, V⟩ := S
  have q1 : a ≠ x := (Exa.ne E' E hne).symm
  have q2 : t ≠ x := (Exa.neArv E' V w).symm
  exact ⟨E.keep K, C'.keep K (ninS q1 nin0), hp, hl, t, kb, F.keep K (ninS q1 nin0), V.keep K (ninS q2 nin0)⟩
theorem StrIs.keepN {Z : State} {h h' : Heap} {a x : Addr} {cs : List Int32} {n : Nat} {a0 : Array Value} (S : StrIs Z h a cs) (K : Keep h h' [x]) (E' : Exa Z h x "java/lang/String") (F' : Fld Z h x "java/lang/String" "value" "[B" .null) (w : (Jvm.Cond.instantiable "java/lang/String" n).before a0 Z = true) : StrIs Z h' a cs := by
  obtain ⟨E, C', hp, hl, t, kb, F, V⟩ := S
  have q1 : a ≠ x := Fld.ne F F' (by simp)
  have q2 : t ≠ x := (Exa.neArv E' V w).symm
  exact ⟨E.keep K, C'.keep K (ninS q1 nin0), hp, hl, t, kb, F.keep K (ninS q1 nin0), V.keep K (ninS q2 nin0)⟩
theorem StrIs.lt {Z : State} {h : Heap} {a : Addr} {cs : List Int32} (S : StrIs Z h a cs) : a < h.size := S.1.lt
theorem nar_char_id {c : Int32} (h : ¬ c < 0 ∧ ¬ (255 : Int32) < c) : nar .char c = c := by
  have q := c_i2c c
  show c.toUInt32.toUInt16.toUInt32.toInt32 = c
  rw [Int32.lt_iff_toInt_lt, Int32.lt_iff_toInt_lt] at h
  have e0 : (0 : Int32).toInt = 0 := rfl
  have e1 : (255 : Int32).toInt = 255 := rfl
  rw [e0, e1] at h
  apply Int32.toInt_inj.mp
  omega
theorem nar_char2 (x : Int32) : nar .char ((x).toUInt32.toUInt16.toUInt32.toInt32) = ((x).toUInt32.toUInt16.toUInt32.toInt32) := by simp only [nar, UInt32.toUInt32_toInt32, UInt16.toUInt16_toUInt32]
theorem own_up (cs : List Int32) (h : ∀ c ∈ cs, ¬ c < 0 ∧ ¬ (255 : Int32) < c) : ∀ c ∈ cs, ¬ c < 0 ∧ ¬ (65535 : Int32) < c := fun c hc => ⟨(h c hc).1, fun q => (h c hc).2 (by rw [Int32.lt_iff_toInt_lt] at q ⊢; have e1 : (65535 : Int32).toInt = 65535 := rfl; have e2 : (255 : Int32).toInt = 255 := rfl; omega)⟩
theorem own_decl {args : Array Value} {s : State} {y : MethodName} {bytes : ByteArray} {ml : Nat} {rt : Option FieldType} (hi : (Jvm.Cond.instanceMethod y).before args s = true) (hc : (Jvm.Cond.code y bytes ml rt).before args s = true) : (Jvm.Cond.declares y).before args s = true := by
  obtain ⟨mk, meth, hn, hm, hst, hab⟩ := Cond.instanceMethod_spec hi
  obtain ⟨m2, c, h1, -, -, -, -, -, -, hsig⟩ := Cond.code_spec hn hc
  cases hm.symm.trans h1
  simp [Cond.before, Cond.holds, Cond.value, hn, hm, hst, hsig]
theorem own_nf {args : Array Value} {s : State} {C : String} {y y' : MethodName} (hsel : (Jvm.Cond.selects C y y).before args s = true) (hc : y'.cls = y.cls) : NotFace s y' := fun r0 h0 => by
  obtain ⟨c2, r2, m2, q1, q2, q3, q4, kP, hkP, hkPi⟩ := Cond.selects_spec hsel
  have e1 := findClass_of_methodNamed h0
  have e2 := findClass_of_methodNamed q3
  rw [hc] at e1
  have e3 : r0.cls = m2.cls := Option.some.inj (e1.symm.trans e2)
  exact ⟨kP, by rw [e3]; exact hkP, hkPi⟩
theorem own_same {args : Array Value} {s : State} {C : String} {y y' : MethodName} (hi : (Jvm.Cond.instanceMethod y).before args s = true) (hsel : (Jvm.Cond.selects C y' y').before args s = true ∧ y.cls = y'.cls) (hy : y.cls ≠ "java/lang/invoke/MethodHandle" ∧ y.cls ≠ "java/lang/invoke/VarHandle") : (Jvm.Cond.sameMethod y.cls y.cls y.name y.desc).before args s = true := by
  obtain ⟨mk, meth, hn, hm, hst, hab⟩ := Cond.instanceMethod_spec hi
  obtain ⟨kr, hkr, hni⟩ := own_nf hsel.1 hsel.2 mk hn
  have e1 := findClass_of_methodNamed hn
  have e2 := State.methodFound?_of_named hn hy
  have e3 : s.methodNamed? ⟨y.cls, y.name, y.desc⟩ = some mk := hn
  simp [Cond.before, Cond.holds, Cond.value, e1, e2, e3, hkr, hni]
def StrUp (Z : State) (h : Heap) (a : Addr) (cs : List Int32) (k : Nat) : Prop := a < k ∧ Exa Z h a "java/lang/String" ∧ Fld Z h a "java/lang/String" "coder" "B" (.int 0) ∧ (∀ c ∈ cs, ¬ c < 0 ∧ ¬ (255 : Int32) < c) ∧ cs.length ≤ 4000 ∧ ∃ (t : Addr) (kb : ClassId), t < k ∧ Fld Z h a "java/lang/String" "value" "[B" (.ref t) ∧ Arv Z h t kb .byte (Int32.ofNat cs.length) ((cs.map fun c => c.toInt8.toInt32).map Value.int) (.int 0)
theorem StrUp.of {Z : State} {h : Heap} {a : Addr} {cs : List Int32} (S : StrIs Z h a cs) : StrUp Z h a cs h.size := by
  obtain ⟨E, C, hp, hl, t, kb, F, V⟩ := S
  exact ⟨E.lt, E, C, hp, hl, t, kb, V.lt, F, V⟩
theorem StrUp.is {Z : State} {h : Heap} {a : Addr} {cs : List Int32} {k : Nat} (S : StrUp Z h a cs k) : StrIs Z h a cs := by
  obtain ⟨-, E, C, hp, hl, t, kb, -, F, V⟩ := S
  exact ⟨E, C, hp, hl, t, kb, F, V⟩
theorem StrUp.keep {Z : State} {h h' : Heap} {a : Addr} {cs : List Int32} {k : Nat} {ws : List Addr} (S : StrUp Z h a cs k) (K : Keep h h' ws) (q : ∀ x ∈ ws, k ≤ x) : StrUp Z h' a cs k := by
  obtain ⟨h1, E, C, hp, hl, t, kb, h2, F, V⟩ := S
  have q1 : a ∉ ws := fun z => absurd (q a z) (Nat.not_le.mpr h1)
  have q2 : t ∉ ws := fun z => absurd (q t z) (Nat.not_le.mpr h2)
  exact ⟨h1, E.keep K, C.keep K q1, hp, hl, t, kb, h2, F.keep K q1, V.keep K q2⟩
theorem own_finj {Z : State} {h : Heap} {a : Addr} {C n d : String} {x y : Addr} (F : Fld Z h a C n d (.ref x)) (G : Fld Z h a C n d (.ref y)) : x = y := Decidable.byContradiction fun q => Fld.ne F G (fun e => q (Value.ref.inj e)) rfl
theorem StrUp.sv {Z : State} {h : Heap} {a : Addr} {cs : List Int32} {k : Nat} {t : Addr} (S : StrUp Z h a cs k) (q : k ≤ t) : ∀ sv : Addr, Fld Z h a "java/lang/String" "value" "[B" (.ref sv) → sv ≠ t := fun sv F => by
  obtain ⟨-, -, -, -, -, t', kb, h2, F', -⟩ := S
  cases own_finj F F'
  exact Nat.ne_of_lt (Nat.lt_of_lt_of_le h2 q)
theorem own_untk {h h' : Heap} {a : Addr} (N : Unt h a) (K : Keep h h' []) : Unt h' a := Unt.keep K nin0 N
theorem own_thsk {Z : State} {h h' : Heap} (F : ThS Z h) (K : Keep h h' []) : ThS Z h' := ThS.keep K ns0 F
abbrev own_bs (cs : List Int32) : List Value := (cs.map fun c => c.toInt8.toInt32).map Value.int
def own_sb (cap : Nat) (cs : List Int32) : List Value := own_bs cs ++ List.replicate (cap - cs.length) (.int 0)
theorem own_sbl {cap : Nat} {cs : List Int32} (h : cs.length ≤ cap) : (own_sb cap cs).length = cap := by simp [own_sb, own_bs]; omega
theorem own_shr0 (x : Int32) : x >>> ((0 : Int32) &&& 31) = x := by
  apply Int32.toInt_inj.mp
  rw [c_ishr x 0 0 rfl]
  simp
theorem own_shl0 (x : Int32) : x <<< ((0 : Int32) &&& 31) = x := by
  apply Int32.toInt_inj.mp
  have q := c_ishl x 0 0 rfl
  have r1 := rng32 x
  have r2 := rng32 (x <<< ((0 : Int32) &&& 31))
  have e : ((2 ^ 0 : Nat) : Int) = 1 := rfl
  rw [e] at q
  omega
theorem own_int {n : Nat} (h : n ≤ 4000) : (Int32.ofNat n).toInt = n := Int32.toInt_ofNat_of_lt (by omega)
theorem own_nn {n : Nat} (h : n ≤ 4000) : ¬ Int32.ofNat n < 0 := by
  rw [Int32.lt_iff_toInt_lt, own_int h]
  have e0 : (0 : Int32).toInt = 0 := rfl
  omega
theorem own_ns {n : Nat} (h : n ≤ 4000) : (Int32.ofNat n).toNatClampNeg = n := by
  simp only [Int32.toNatClampNeg, own_int h]
  omega
theorem own_add32 (a b : Nat) : Int32.ofNat a + Int32.ofNat b = Int32.ofNat (a + b) := (Int32.ofNat_add a b).symm
theorem own_fit {a b : Nat} (h : a ≤ b) (hb : b ≤ 4000) : ¬ (0 < Int32.ofNat a - Int32.ofNat b) := by
  have q := c_isub (Int32.ofNat a) (Int32.ofNat b)
  rw [own_int hb, own_int (Nat.le_trans h hb)] at q
  have r := rng32 (Int32.ofNat a - Int32.ofNat b)
  rw [Int32.lt_iff_toInt_lt]
  have e0 : (0 : Int32).toInt = 0 := rfl
  omega
theorem own_z0 : (0 : Int32).toNatClampNeg = 0 := rfl
theorem own_rng (vs : List Value) (d : Value) (n : Nat) (h : n ≤ vs.length) : ((List.range n).map fun i => vs.getD (0 + i) d) = vs.take n := by
  apply List.ext_getElem
  · simp; omega
  · intro k h1 h2
    simp at h1 h2
    simp [List.getD_eq_getElem?_getD, show k < vs.length by omega]
theorem own_app {cap : Nat} {cs ds : List Int32} (h : cs.length + ds.length ≤ cap) (hc : cap ≤ 4000) :
    (own_sb cap cs).take (Int32.ofNat cs.length).toNatClampNeg ++ ((List.range (Int32.ofNat ds.length).toNatClampNeg).map fun i => (own_bs ds).getD ((0 : Int32).toNatClampNeg + i) (.int 0)) ++ (own_sb cap cs).drop ((Int32.ofNat cs.length).toNatClampNeg + (Int32.ofNat ds.length).toNatClampNeg) = own_sb cap (cs ++ ds) := by
  rw [own_ns (show cs.length ≤ 4000 by omega), own_ns (show ds.length ≤ 4000 by omega), own_z0, own_rng _ _ _ (by simp [own_bs])]
  have e1 : (own_bs cs).length = cs.length := by simp [own_bs]
  have e2 : (own_bs ds).length = ds.length := by simp [own_bs]
  have e3 : (own_sb cap cs).take cs.length = own_bs cs := by rw [own_sb, ← e1, List.take_left]
  have e4 : (own_sb cap cs).drop (cs.length + ds.length) = List.replicate (cap - (cs.length + ds.length)) (.int 0) := by
    rw [own_sb, ← e1, ← List.drop_drop, List.drop_left, List.drop_replicate, e1]
    congr 1
    omega
  rw [e3, e4, show (own_bs ds).take ds.length = own_bs ds by rw [← e2, List.take_length], own_sb]
  simp [own_bs]
theorem own_cut {cap : Nat} {cs : List Int32} (h : cs.length ≤ cap) (hc : cap ≤ 4000) :
    ([] ++ List.replicate cs.length (Value.int 0)).take (0 : Int32).toNatClampNeg ++ ((List.range (Int32.ofNat cs.length).toNatClampNeg).map fun i => (own_sb cap cs).getD ((0 : Int32).toNatClampNeg + i) (.int 0)) ++ ([] ++ List.replicate cs.length (Value.int 0)).drop ((0 : Int32).toNatClampNeg + (Int32.ofNat cs.length).toNatClampNeg) = own_bs cs := by
  rw [own_ns (show cs.length ≤ 4000 by omega), own_z0, own_rng _ _ _ (by rw [own_sbl h]; exact h)]
  have e1 : (own_bs cs).length = cs.length := by simp [own_bs]
  have e3 : (own_sb cap cs).take cs.length = own_bs cs := by rw [own_sb, ← e1, List.take_left]
  rw [e3]
  simp
theorem own_sub0 (x : Int32) : x - (0 : Int32) = x := by simp
theorem own_lt32 {a b : Nat} (h : a < b) (hb : b ≤ 4000) : Int32.ofNat a < Int32.ofNat b := by
  rw [Int32.lt_iff_toInt_lt, own_int hb, own_int (show a ≤ 4000 by omega)]
  omega
theorem own_ne32 {a b : Nat} (h : a < b) (hb : b ≤ 4000) : ¬ Int32.ofNat a = Int32.ofNat b := fun q => by
  have e := congrArg Int32.toInt q
  rw [own_int hb, own_int (show a ≤ 4000 by omega)] at e
  omega
def QNone (h0 : Heap) (n0 : Nat) (v : Option Value) (h : Heap) (L : List Loc) : Prop := v = none ∧ Fr n0 L ∧ h = h0
theorem own_mkE {rl il r0 r1 i0 i1 : Int32} (h : rl = il) (a : rl < 1 ∨ r0 = i0) (b : rl < 2 ∨ r1 = i1) (hr : rl = 0 ∨ rl = 1 ∨ rl = 2) : (if rl = 0 then ([] : List Int32) else if rl = 1 then [r0] else [r0, r1]) = (if il = 0 then ([] : List Int32) else if il = 1 then [i0] else [i0, i1]) := by
  subst h
  rcases hr with rfl | rfl | rfl
  · rfl
  · rcases a with a | rfl
    · exact absurd a (by decide)
    · rfl
  · rcases a with a | rfl
    · exact absurd a (by decide)
    · rcases b with b | rfl
      · exact absurd b (by decide)
      · rfl
theorem own_mkN1 {rl il r0 r1 i0 i1 : Int32} (hr : rl = 0 ∨ rl = 1 ∨ rl = 2) (hi : il = 0 ∨ il = 1 ∨ il = 2) (h : ¬ rl = il) : ¬ (if rl = 0 then ([] : List Int32) else if rl = 1 then [r0] else [r0, r1]) = (if il = 0 then ([] : List Int32) else if il = 1 then [i0] else [i0, i1]) := by
  rcases hr with rfl | rfl | rfl <;> rcases hi with rfl | rfl | rfl <;> simp at h ⊢
theorem own_mkN2 {rl il r0 r1 i0 i1 : Int32} (hr : rl = 0 ∨ rl = 1 ∨ rl = 2) (h : rl = il) (a : ¬ rl < 1) (b : ¬ r0 = i0) : ¬ (if rl = 0 then ([] : List Int32) else if rl = 1 then [r0] else [r0, r1]) = (if il = 0 then ([] : List Int32) else if il = 1 then [i0] else [i0, i1]) := by
  subst h
  rcases hr with rfl | rfl | rfl
  · exact absurd (by decide) a
  · intro q; simp at q; exact b q
  · intro q; simp at q; exact b q.1
theorem own_mkN3 {rl il r0 r1 i0 i1 : Int32} (hr : rl = 0 ∨ rl = 1 ∨ rl = 2) (h : rl = il) (a : ¬ rl < 2) (b : ¬ r1 = i1) : ¬ (if rl = 0 then ([] : List Int32) else if rl = 1 then [r0] else [r0, r1]) = (if il = 0 then ([] : List Int32) else if il = 1 then [i0] else [i0, i1]) := by
  subst h
  rcases hr with rfl | rfl | rfl
  · exact absurd (by decide) a
  · exact absurd (by decide) a
  · intro q; simp at q; exact b q.2
theorem own_and3 (x : Int32) : (x &&& (3 : Int32)) = 0 ∨ (x &&& (3 : Int32)) = 1 ∨ (x &&& (3 : Int32)) = 2 ∨ (x &&& (3 : Int32)) = 3 := by
  have q := c_and x 3 (by decide)
  simp only [← Int32.toInt_inj]
  have e0 : (0 : Int32).toInt = 0 := rfl
  have e1 : (1 : Int32).toInt = 1 := rfl
  have e2 : (2 : Int32).toInt = 2 := rfl
  have e3 : (3 : Int32).toInt = 3 := rfl
  omega
theorem own_rem3 (x : Int32) : ((x &&& (3 : Int32)) % (3 : Int32)) = 0 ∨ ((x &&& (3 : Int32)) % (3 : Int32)) = 1 ∨ ((x &&& (3 : Int32)) % (3 : Int32)) = 2 := by
  rcases own_and3 x with h | h | h | h <;> rw [h] <;> decide
theorem own_c255 (n : Int32) : ¬ ((n &&& (255 : Int32)).toUInt32.toUInt16.toUInt32.toInt32) < 0 ∧ ¬ (255 : Int32) < ((n &&& (255 : Int32)).toUInt32.toUInt16.toUInt32.toInt32) := by
  have h := and255_chars n
  rw [nar_char2] at h
  exact h
theorem own_gc {p : Program} {l : Launch} {e : Env} {R : Room} {s : State} {args : Array Value} {below : List Frame} {len W : Nat} {Z : State} {a0 : Array Value} {h : Heap} {n0 : Nat} {a : Addr} (hZ : Z.Warmed39 s.vm) (wc : (Jvm.Cond.codeSync Jvm.RoadKit.gcN Jvm.RoadKit.gcB 1 (some (.object "java/lang/Throwable"))).before a0 Z = true) (wi : (Jvm.Cond.instanceMethod Jvm.RoadKit.gcN).before a0 Z = true) (wz : (Jvm.Cond.initialized "java/lang/Throwable").before a0 Z = true) (wf : (Jvm.Cond.fieldLink "java/lang/Throwable" 7 "java/lang/Throwable" "cause" "Ljava/lang/Throwable;").before a0 Z = true)
    (N : Unt h a) (F : Fld Z h a "java/lang/Throwable" "cause" "Ljava/lang/Throwable;" (.ref a)) (hf : 0 + 1 ≤ R.frames) (hl : W + (1 + 11) + 0 ≤ R.locals) :
    Back l R p e below s args Jvm.RoadKit.gcN len W (fun A as => as = #[.ref a] ∧ A.U.heap = h ∧ A.cells + 0 ≤ R.cells ∧ A.slots + 0 ≤ R.slots)
      (fun A _ v B => ∃ L, QSame .null h n0 v B.U.heap L ∧ B.locs = A.locs ++ L ∧ B.cells = A.cells + 0 ∧ B.slots = A.slots + 0) :=
  Back.mono (Jvm.RoadKit.gcBackPure (rm := ({ frames := 0, cells := 0, slots := 0, locals := 0 } : Room)) hZ wc wi wz wf N F rfl hf hl) (fun A a hp => hp) (fun A a v B hp hq => ⟨[], ⟨by rw [hq.1, Jvm.RoadKit.gcv_self], Fr.nil _, hq.2.1⟩, by rw [hq.2.2.1, List.append_nil], hq.2.2.2.1, hq.2.2.2.2⟩)
theorem own_chS {p : Program} {l : Launch} {e : Env} {R : Room} {s : State} {args : Array Value} {below : List Frame} {len W : Nat} {Z : State} {a0 : Array Value} {h : Heap} {n0 : Nat} (hZ : Z.Warmed39 s.vm) (hw : ∀ d ∈ StrChars.Road.wordsChN, d.before a0 Z = true) {kI : Nat} (wi : (Jvm.Cond.instantiable "java/lang/String" kI).before a0 Z = true)
    {x : Addr} {cs : List Int32} (A : StrIs Z h x cs) {z : Int32} {fm : Value} (S : Sta Z h "java/lang/String" "COMPACT_STRINGS" "Z" (.int z)) (hz : ¬ z = 0) (F : Sta Z h "jdk/internal/util/Preconditions" "SIOOBE_FORMATTER" "Ljava/util/function/BiFunction;" fm) (rf : fm.isRef = true) (i : Nat) {j : Int32} (hi : i < cs.length) (hj : j = Int32.ofNat i) (hfr : 4 ≤ R.frames) (hlo : W + 53 ≤ R.locals) :
    Back l R p e below s args (⟨"java/lang/String", "charAt", "(I)C"⟩ : MethodName) len W (fun P a => a = #[.ref x, .int j] ∧ P.U.heap = h ∧ P.cells + 0 ≤ R.cells ∧ P.slots + 0 ≤ R.slots)
      (fun P _ v B => ∃ L, QSame (.int (cs.getD i 0)) h n0 v B.U.heap L ∧ B.locs = P.locs ++ L ∧ B.cells = P.cells + 0 ∧ B.slots = P.slots + 0) := by
  obtain ⟨E, C, hp, hl, t, kb, G, V⟩ := A
  refine Back.mono (StrChars.Road.chN hZ hw wi E G C V (StrChars.Road.codOf rfl fun c hc => (hp c hc).2) (own_up _ hp) S hz F rf hl hi hj hfr hlo) (fun P a hp => hp) (fun P a v B hp hq => ?_)
  obtain ⟨L, ⟨hv, rfl, hh⟩, h1, h2, h3⟩ := hq
  exact ⟨[], ⟨hv, Fr.nil _, hh⟩, h1, h2, h3⟩
def QEx (Z : State) (es : List Int32) (h0 : Heap) (n0 : Nat) (v : Option Value) (h : Heap) (L : List Loc) : Prop := ∃ x m : Addr, v = some (.ref x) ∧ Fr n0 L ∧ Keep h0 h [] ∧ Exa Z h x "com/example/faktorwerk/faktorwerk/model/InputRefusedException" ∧ Unt h x ∧ Fld Z h x "java/lang/Throwable" "cause" "Ljava/lang/Throwable;" (.ref x) ∧ Fld Z h x "java/lang/Throwable" "detailMessage" "Ljava/lang/String;" (.ref m) ∧ StrIs Z h m es
def own_dl (n : Nat) : List Int32 := (List.range (Jvm.Free.SBG.digits n)).map fun i => Int32.ofNat (48 + n / 10 ^ (Jvm.Free.SBG.digits n - 1 - i) % 10)
def own_is (x : Int32) (n : Nat) : List Int32 := (if x < 0 then [45] else []) ++ own_dl n
theorem own_dll (n : Nat) : (own_dl n).length = Jvm.Free.SBG.digits n := by simp [own_dl]
theorem own_isl (x : Int32) (n : Nat) : (own_is x n).length = Jvm.Free.SBG.digits n + Jvm.Free.SBG.GetChars.sgn x := by
  by_cases h : x < 0
  · simp [own_is, own_dll, Jvm.Free.SBG.GetChars.sgn, h]
  · simp [own_is, own_dll, Jvm.Free.SBG.GetChars.sgn, h]
theorem own_dlat {n i : Nat} (h : i < Jvm.Free.SBG.digits n) : (own_dl n).getD i 0 = Int32.ofNat (48 + n / 10 ^ (Jvm.Free.SBG.digits n - 1 - i) % 10) := by
  simp [own_dl, List.getD_eq_getElem?_getD, h]
theorem own_dig9 : ∀ k, k < 10 → ¬ Int32.ofNat (48 + k) < 0 ∧ ¬ (255 : Int32) < Int32.ofNat (48 + k) := by decide
theorem own_pis (x : Int32) (n : Nat) : ∀ c ∈ own_is x n, ¬ c < 0 ∧ ¬ (255 : Int32) < c := fun c hc => by
  rcases List.mem_append.mp hc with hc | hc
  · by_cases h : x < 0
    · rw [if_pos h] at hc; simp at hc; subst hc; decide
    · rw [if_neg h] at hc; simp at hc
  · obtain ⟨i, -, rfl⟩ := List.mem_map.mp hc
    exact own_dig9 _ (Nat.mod_lt _ (by decide))
theorem own_sbat (cap : Nat) (cs : List Int32) (i : Nat) : (own_sb cap cs).getD i (.int 0) = if i < cs.length then Value.int ((cs.getD i 0).toInt8.toInt32) else .int 0 := by
  simp only [own_sb, own_bs, List.getD_eq_getElem?_getD]
  by_cases h : i < cs.length
  · rw [if_pos h, List.getElem?_append_left (by simpa using h)]; simp [h]
  · rw [if_neg h, List.getElem?_append_right (by simpa using Nat.le_of_not_lt h)]
    simp only [List.length_map, List.getElem?_replicate]
    split <;> rfl
theorem own_gl {α : Type} {a b : List α} {i : Nat} {d : α} (h : i < a.length) : (a ++ b).getD i d = a.getD i d := by
  simp only [List.getD_eq_getElem?_getD]; rw [List.getElem?_append_left h]
theorem own_gr {α : Type} {a b : List α} {i k : Nat} {d : α} (h : i = a.length + k) : (a ++ b).getD i d = b.getD k d := by
  subst h
  simp only [List.getD_eq_getElem?_getD]; rw [List.getElem?_append_right (by omega)]; congr 2; omega
theorem own_outHas (g : Jvm.Free.SBG.GetChars.G) (h1 : Jvm.Free.SBG.Ones g.D1) (h2 : Jvm.Free.SBG.Tens g.D2) (hn : g.n ≤ 2 ^ 31) {cap : Nat} {cs : List Int32} (H : Has g.A (own_sb cap cs) (.int 0)) (hsz : g.A.slots.size = cap) (hidx : g.idx = cs.length + (Jvm.Free.SBG.digits g.n + Jvm.Free.SBG.GetChars.sgn g.x)) (hfit : g.idx ≤ cap) :
    Has (Jvm.Free.SBG.GetChars.outCell g) (own_sb cap (cs ++ own_is g.x g.n)) (.int 0) ∧ (Jvm.Free.SBG.GetChars.outCell g).slots.size = cap ∧ (Jvm.Free.SBG.GetChars.outCell g).cls = g.A.cls ∧ (Jvm.Free.SBG.GetChars.outCell g).vm = g.A.vm := by
  obtain ⟨q1, q2, q3⟩ := Jvm.Free.SBG.outCell_at g h1 h2 hn (by omega) (by omega)
  have hf := Jvm.Free.SBG.digLoop_facts g.D1 g.D2 5 g.A g.n g.idx
  have hs : (Jvm.Free.SBG.GetChars.outCell g).slots.size = cap ∧ (Jvm.Free.SBG.GetChars.outCell g).cls = g.A.cls ∧ (Jvm.Free.SBG.GetChars.outCell g).vm = g.A.vm := by
    unfold Jvm.Free.SBG.GetChars.outCell
    split
    · exact ⟨((Jvm.Free.SBG.put_facts _ _ _).2.2.trans hf.2.2.1).trans hsz, (Jvm.Free.SBG.put_facts _ _ _).1.trans hf.1, (Jvm.Free.SBG.put_facts _ _ _).2.1.trans hf.2.1⟩
    · exact ⟨hf.2.2.1.trans hsz, hf.1, hf.2.1⟩
  refine ⟨fun j hj => ?_, hs⟩
  rw [hs.1] at hj
  have hl : (cs ++ own_is g.x g.n).length = g.idx := by rw [List.length_append, own_isl]; omega
  rw [own_sbat, hl]
  by_cases c1 : j < cs.length
  · rw [q3 j (Or.inl (by omega)), H j (by omega), own_sbat, if_pos c1, if_pos (by omega), own_gl c1]
  by_cases c2 : g.idx ≤ j
  · rw [q3 j (Or.inr c2), H j (by omega), own_sbat, if_neg c1, if_neg (by omega)]
  rw [if_pos (by omega), own_gr (k := j - cs.length) (by omega)]
  by_cases hx : g.x < 0
  · have e1 : Jvm.Free.SBG.GetChars.sgn g.x = 1 := by simp [Jvm.Free.SBG.GetChars.sgn, hx]
    rw [own_is, if_pos hx]
    by_cases c3 : j = cs.length
    · have q := q2 hx
      rw [show g.idx - Jvm.Free.SBG.digits g.n - 1 = j by omega] at q
      rw [q, own_gl (by simp; omega), show j - cs.length = 0 by omega]; rfl
    · rw [own_gr (k := j - cs.length - 1) (by simp; omega), own_dlat (by omega)]
      have q := q1 (g.idx - 1 - j) (by omega)
      rw [show g.idx - 1 - (g.idx - 1 - j) = j by omega] at q
      rw [q, Jvm.Free.SBG.dgNarrow _ (by have := Nat.mod_lt (g.n / 10 ^ (Jvm.Free.SBG.digits g.n - 1 - (j - cs.length - 1))) (show 0 < 10 by decide); omega), show Jvm.Free.SBG.digits g.n - 1 - (j - cs.length - 1) = g.idx - 1 - j by omega]
  · have e1 : Jvm.Free.SBG.GetChars.sgn g.x = 0 := by simp [Jvm.Free.SBG.GetChars.sgn, hx]
    rw [own_is, if_neg hx, List.nil_append, own_dlat (by omega)]
    have q := q1 (g.idx - 1 - j) (by omega)
    rw [show g.idx - 1 - (g.idx - 1 - j) = j by omega] at q
    rw [q, Jvm.Free.SBG.dgNarrow _ (by have := Nat.mod_lt (g.n / 10 ^ (Jvm.Free.SBG.digits g.n - 1 - (j - cs.length))) (show 0 < 10 by decide); omega), show Jvm.Free.SBG.digits g.n - 1 - (j - cs.length) = g.idx - 1 - j by omega]
/-- the two tables of Integer's, at the start -/
def own_Dig (Z : State) (st d1 : Addr) (D1 : Cell) (d2 : Addr) (D2 : Cell) : Prop := Jvm.Free.SBG.Tbl Z "DigitOnes" st d1 D1 ∧ Jvm.Free.SBG.Ones D1 ∧ Jvm.Free.SBG.Tbl Z "DigitTens" st d2 D2 ∧ Jvm.Free.SBG.Tens D2 ∧ ∃ cS : Cell, Z.heap[st]? = some cS
theorem own_ss {p : Program} {l : Launch} {e : Env} {R : Room} {s : State} {args : Array Value} {below : List Frame} {W : Nat} {Z : State} {a0 : Array Value} {h : Heap} {n0 : Nat} (hZ : Z.Warmed39 s.vm) {x : Int32} {n : Nat} (hn : n ≤ 2 ^ 31) (hx : (if x < 0 then x else -x) = Jvm.Free.SBG.negI n) (w1 : (Jvm.Cond.code Jvm.Free.SBG.StrSize.ssN Jvm.Free.SBG.StrSize.ssB 4 (some .int)).before a0 Z = true) (w2 : (Jvm.Cond.initialized "java/lang/Integer").before a0 Z = true) (hfr : 2 ≤ R.frames) (hlo : W + 55 ≤ R.locals) :
    Back l R p e below s args (⟨"java/lang/Integer", "stringSize", "(I)I"⟩ : MethodName) 3 W (fun A a => a = #[.int x] ∧ A.U.heap = h ∧ A.cells + 0 ≤ R.cells ∧ A.slots + 0 ≤ R.slots)
      (fun A _ v B => ∃ L, QSame (.int (Int32.ofNat (own_is x n).length)) h n0 v B.U.heap L ∧ B.locs = A.locs ++ L ∧ B.cells = A.cells + 0 ∧ B.slots = A.slots + 0) := by
  refine Back.mono (Jvm.Free.SBG.StrSize.pays (W := W) hfr hlo (mvT hZ w1) (mvT hZ w2)) (fun A a hp => ⟨hp.2.2.1, hp.2.2.2, x, hp.1⟩) (fun A a v B hp hq => ?_)
  obtain ⟨⟨u1, u2, u3, u4⟩, hv⟩ := hq
  refine ⟨[], ⟨?_, Fr.nil _, ?_⟩, ?_, ?_, ?_⟩
  · rw [hv x hp.1, Jvm.Free.SBG.strSizeOf_eq hn hx, own_isl]
  · rw [u1]; exact hp.2.1
  · rw [List.append_nil]; exact u2
  · exact u3
  · exact u4
set_option maxHeartbeats 4000000 in
theorem own_gch {p : Program} {l : Launch} {e : Env} {R : Room} {s : State} {args : Array Value} {below : List Frame} {W : Nat} {Z : State} {a0 : Array Value} {h : Heap} {n0 : Nat} (hZ : Z.Warmed39 s.vm) {x : Int32} {n : Nat} (hn : n ≤ 2 ^ 31) (hx : (if x < 0 then x else -x) = Jvm.Free.SBG.negI n) (w1 : (Jvm.Cond.code Jvm.Free.SBG.GetChars.gcN Jvm.Free.SBG.GetChars.gcB 7 (some .int)).before a0 Z = true) (w3 : (Jvm.Cond.fieldLink "java/lang/Integer" 83 "java/lang/Integer" "DigitOnes" "[B").before a0 Z = true) (w4 : (Jvm.Cond.fieldLink "java/lang/Integer" 87 "java/lang/Integer" "DigitTens" "[B").before a0 Z = true) (w2 : (Jvm.Cond.initialized "java/lang/Integer").before a0 Z = true)
    {st d1 d2 : Addr} {D1 D2 : Cell} (DG : own_Dig Z st d1 D1 d2 D2) (O : Old Z n0 h) {t : Addr} {kb : ClassId} {cap : Nat} {cs : List Int32} (V : Arv Z h t kb .byte (Int32.ofNat cap) (own_sb cap cs) (.int 0)) (gt : n0 ≤ t) (hcap : cs.length + (own_is x n).length ≤ cap) (hc4 : cap ≤ 40) (hfr : 2 ≤ R.frames) (hlo : W + 78 ≤ R.locals) :
    Back l R p e below s args (⟨"java/lang/Integer", "getChars", "(II[B)I"⟩ : MethodName) 3 W (fun A a => a = #[.int x, .int (Int32.ofNat (cs.length + (own_is x n).length)), .ref t] ∧ A.U.heap = h ∧ A.cells + 0 ≤ R.cells ∧ A.slots + 0 ≤ R.slots)
      (fun A _ v B => ∃ L, (v = some (.int (Int32.ofNat cs.length)) ∧ Fr n0 L ∧ Keep h B.U.heap [t] ∧ Arv Z B.U.heap t kb .byte (Int32.ofNat cap) (own_sb cap (cs ++ own_is x n)) (.int 0)) ∧ B.locs = A.locs ++ L ∧ B.cells = A.cells + 0 ∧ B.slots = A.slots + 0) := by
  intro m meth c A g ig mk as X hg hsize hdg hWd hmk hPre
  obtain ⟨has, hh, hc, hs⟩ := hPre
  obtain ⟨T1, o1, T2, o2, cS, hcS⟩ := DG
  have hal : Z.vm.Alike A.U.vm := hZ.alike.trans X.warmed.alike
  obtain ⟨cl, Ar, k1, S, M, H, Gf⟩ := V
  have lt1 : d1 < Z.heap.size := by obtain ⟨_, _, _, _, _, _, _, _, _, _, _, _, q, -⟩ := T1; exact (Array.getElem?_eq_some_iff.mp q).1
  have lt2 : d2 < Z.heap.size := by obtain ⟨_, _, _, _, _, _, _, _, _, _, _, _, q, -⟩ := T2; exact (Array.getElem?_eq_some_iff.mp q).1
  have lt3 : st < Z.heap.size := (Array.getElem?_eq_some_iff.mp hcS).1
  have mvd : ∀ (y : Addr) (cy : Cell), Z.heap[y]? = some cy → A.U.heap[y]? = some cy := fun y cy hy => by rw [hh]; exact O.2.2 y cy hy
  have mT : ∀ {nm : String} {d : Addr} {D : Cell}, Jvm.Free.SBG.Tbl Z nm st d D → Jvm.Free.SBG.Tbl A.U nm st d D := fun {nm d D} q => by
    have q0 := q
    obtain ⟨_, _, _, _, _, _, _, _, _, _, _, _, q1, -⟩ := q0
    exact q.move hal (fun cy hy => mvd _ _ hy) (mvd _ _ q1)
  have hsz : cl.slots.size = cap := by rw [S]; exact own_ns (by omega)
  have hlen := own_isl x n
  obtain ⟨v, B, XB, ⟨hv, hC, hB1, hB2, hB3, hB4, L, hL1, hL2⟩, st2⟩ := Jvm.Free.SBG.GetChars.pays (l := l) (R := R) (p := p) (e := e) (below := below) (s := s) (sargs := args) { x := x, n := n, idx := cs.length + (own_is x n).length, da := t, A := cl, st := st, d1 := d1, D1 := D1, d2 := d2, D2 := D2 } W (by simp only [Jvm.Free.SBG.GetChars.tab, Cond.before_and, Bool.and_eq_true]; exact ⟨mvT hZ w1, mvT hZ w3, mvT hZ w4⟩) (mvT hZ w2) hfr hlo
    m meth c A g ig mk as X hg hsize hdg hWd hmk ⟨has, hc, hs, has, by rw [hh]; exact Ar.1, State.isArrayOf_alike hal Ar.2.1, Ar.2.2, by rw [hsz]; omega, by rw [hsz]; exact hcap, by rw [← hlen]; show _ ≤ cs.length + _; omega, hn, hx, mT T1, mT T2, (O.ne lt3 gt).symm, (O.ne lt1 gt).symm, (O.ne lt2 gt).symm⟩
  dsimp only at hv hC hB4 hL2
  obtain ⟨H', s1, s2, s3⟩ := own_outHas { x := x, n := n, idx := cs.length + (own_is x n).length, da := t, A := cl, st := st, d1 := d1, D1 := D1, d2 := d2, D2 := D2 } o1 o2 hn (cap := cap) (cs := cs) H hsz (by rw [hlen]) hcap
  refine ⟨v, B, XB, ⟨L, ⟨?_, fun y hy => by rw [hL2 y hy]; exact gt, ⟨by rw [hB3, hh]; exact Nat.le_refl _, fun y cy hy hne => ?_, fun y cy hy => ?_⟩, ⟨_, ⟨hC, ?_, by rw [s3]; exact Ar.2.2⟩, s2.trans k1, s1.trans (own_ns (by omega)).symm, M, H', fun i hi => ?_⟩⟩, hL1, hB1, hB2⟩, st2⟩
  · rw [hv]; congr 3; rw [hlen]; omega
  · exact hB4 y cy (fun z => hne (by rw [z]; exact List.mem_cons_self ..)) (by rw [hh]; exact hy)
  · by_cases z : y = t
    · subst z
      cases Ar.1.symm.trans hy
      exact ⟨_, hC, s2, s3, by rw [s1, hsz]⟩
    · exact ⟨cy, hB4 y cy z (by rw [hh]; exact hy), rfl, rfl, rfl⟩
  · obtain ⟨a1, k, a2, comp, a3⟩ := Ar.2.1
    exact ⟨by rw [s3]; exact a1, k, by rw [s2]; exact a2, comp, a3⟩
  · rw [own_sbat]
    split
    · exact fits_nar_byte _
    · rfl
theorem own_sbf {cap : Nat} {cs : List Int32} (h : cs.length = cap) : own_sb cap cs = own_bs cs := by rw [own_sb, h, Nat.sub_self]; simp
theorem own_gt32 {a b : Nat} (h : b < a) (ha : a ≤ 4000) : (0 : Int32) < Int32.ofNat a - Int32.ofNat b := by
  have q := c_isub (Int32.ofNat a) (Int32.ofNat b)
  rw [own_int ha, own_int (show b ≤ 4000 by omega)] at q
  have r := rng32 (Int32.ofNat a - Int32.ofNat b)
  rw [Int32.lt_iff_toInt_lt]
  have e0 : (0 : Int32).toInt = 0 := rfl
  omega
theorem own_g18 {k : Nat} (h : 16 < k) (hk : k ≤ 18) : Int32.ofNat k - Int32.ofNat 16 < Int32.ofNat 16 + (2 : Int32) := by
  obtain rfl | rfl : k = 17 ∨ k = 18 := by omega
  · decide
  · decide
theorem own_shl2 : (2 : Int32) <<< ((0 : Int32) &&& 31) = (2 : Int32) := by decide
theorem own_nle32 {a b : Nat} (h : a ≤ b) (hb : b ≤ 4000) : ¬ Int32.ofNat b < Int32.ofNat a := by
  rw [Int32.lt_iff_toInt_lt, own_int hb, own_int (show a ≤ 4000 by omega)]
  omega
theorem own_grow {cs : List Int32} (h : cs.length ≤ 16) :
    ([] ++ List.replicate 34 (Value.int 0)).take (0 : Int32).toNatClampNeg ++ ((List.range (Int32.ofNat 16).toNatClampNeg).map fun i => (own_sb 16 cs).getD ((0 : Int32).toNatClampNeg + i) (.int 0)) ++ ([] ++ List.replicate 34 (Value.int 0)).drop ((0 : Int32).toNatClampNeg + (Int32.ofNat 16).toNatClampNeg) = own_sb 34 cs := by
  rw [own_ns (show 16 ≤ 4000 by omega), own_z0, own_rng _ _ _ (by rw [own_sbl h]; exact Nat.le_refl _)]
  have e1 : (own_sb 16 cs).take 16 = own_sb 16 cs := List.take_of_length_le (by rw [own_sbl h]; exact Nat.le_refl _)
  have e2 : ([] ++ List.replicate 34 (Value.int 0)).drop (0 + 16) = List.replicate 18 (Value.int 0) := by simp [List.drop_replicate]
  rw [e1, e2, own_sb, own_sb, List.take_zero, List.nil_append, List.append_assoc, List.replicate_append_replicate, show 16 - cs.length + 18 = 34 - cs.length by omega]
def own_need (rc : String) : List Jvm.Cond := [.initialized tN, .superclass tN "java/lang/Object", .instanceMethod tFill, .codeSync tFill LibCode.Throwable.Fill.code 1 (some (.object tN)), .instanceMethod tFill0, .native tFill0,
  .instanceMethod oInit, .code oInit object_method_1_code 1 none, .methodLink tN 1 oInit, .methodLink tN 27 tFill, .methodLink tN 202 tFill0,
  .fieldLink tN 7 tN "cause" "Ljava/lang/Throwable;", .lays rc tN "cause" "Ljava/lang/Throwable;", .fieldLink tN 17 tN "stackTrace" steD, .lays rc tN "stackTrace" steD, .fieldLink tN 24 tN "suppressedExceptions" listD, .lays rc tN "suppressedExceptions" listD,
  .fieldLink tN 13 tN "UNASSIGNED_STACK" steD, .laysStatic tN "UNASSIGNED_STACK" steD, .fieldLink tN 20 tN "SUPPRESSED_SENTINEL" listD, .laysStatic tN "SUPPRESSED_SENTINEL" listD, .lays rc tN "detailMessage" "Ljava/lang/String;",
  .selects rc tFill0 tFill0, .fieldLink tN 198 tN "backtrace" "Ljava/lang/Object;", .lays rc tN "backtrace" "Ljava/lang/Object;", .arrayOver (.object "java/lang/Object"), .soleField tN "backtrace", .soleField tN "depth", .lays rc tN "depth" "I"]
theorem own_needOk {rc : String} : (own_need rc).all xOk = true := rfl
theorem own_par {d : String} {sg : MethodDescriptor} {ts : List FieldType} (h : parseMethodDescriptor d = some sg) (q : (parseMethodDescriptor d).map (fun x => x.parameters) = some ts) : sg.parameters = ts := by
  rw [h] at q
  exact Option.some.inj q
set_option maxHeartbeats 4000000 in
/-- Throwable's links at a state, out of the words of the table (the receiver's class lays the fields) -/
theorem own_links {rc : String} {args : Array Value} {s : State} {pl : Platform} (ho : pl.frameOwnsMonitors = true) (hfi : pl.finalization = false) (hpl : pl.magicAccessors = ({} : Platform).magicAccessors) (W : ∀ d ∈ own_need rc, d.before args s = true) :
    ∃ T : ThrowableC, T.Links pl s ∧ s.vm.findClass tN = some T.cT ∧ s.methodNamed? tFill = some T.fill ∧ s.methodNamed? tFill0 = some T.fill0 ∧ s.fieldFound? tN "stackTrace" steD = some (T.cT, T.kT, T.i17, T.fStack) ∧ T.fStack.type = .array (.object "java/lang/StackTraceElement") ∧ T.fStack.name = "stackTrace" ∧ s.fieldFound? tN "UNASSIGNED_STACK" steD = some (T.cT, T.kT, T.i13, T.fUnassigned) ∧ ∃ cell : Cell, s.heap[T.aS]? = some cell ∧ cell.vm.isStatics = true := by
  have w : ∀ (i : Nat) (d : Jvm.Cond), (own_need rc)[i]? = some d → d.before args s = true := fun i d hd => W d (List.mem_of_getElem? hd)
  obtain ⟨⟨cl, j0⟩, mN, n0, q0, isN, noC, noL, sgN⟩ := Cond.native_spec (w 5 _ rfl)
  have fc : s.vm.findClass tN = some cl := findClass_of_methodNamed n0
  obtain ⟨kl, hkl, nmT⟩ := Vm.findClass_spec fc
  obtain ⟨-, k1, -, -, hk1, -, -, -, -, noF⟩ := Cond.superclass_spec fc (w 1 _ rfl)
  cases hkl.symm.trans hk1
  obtain ⟨jF, mF, nF, qF, aF, sF, bF, -, -⟩ := Cond.ownMethod (x := tFill) fc hkl (w 2 _ rfl)
  obtain ⟨mF', cF, qF', kF, yF, lF, rF, oF, -, sgF⟩ := Cond.codeSync_spec nF (w 3 _ rfl)
  cases qF.symm.trans qF'
  obtain ⟨j1, m1, n1, q1, a1, s1, b1, nm1, ds1⟩ := Cond.ownMethod (x := tFill0) fc hkl (w 4 _ rfl)
  cases n0.symm.trans n1
  cases q0.symm.trans q1
  obtain ⟨mO, eO, nO, qO, sO, bO⟩ := Cond.instanceMethod_spec (w 6 _ rfl)
  obtain ⟨eO', cO, qO', kO, yO, -, -, oO, -, sgO⟩ := Cond.code_spec nO (w 7 _ rfl)
  cases qO.symm.trans qO'
  obtain ⟨kk, hkk, nmk⟩ := Vm.findClass_spec (findClass_of_methodNamed nO)
  obtain ⟨nmO, dsO⟩ := name_of_methodNamed nO qO
  obtain ⟨ca, na, fa, la, ra, hfa, pa⟩ := Cond.linkedMethod fc hkl nO (w 8 _ rfl) pl hpl
  obtain ⟨cb, nb, fb, lb, rb, hfb, pb⟩ := Cond.linkedMethod fc hkl nF (w 9 _ rfl) pl hpl
  cases hfa.symm.trans hfb
  obtain ⟨cc, nc, fd, lc, rc', hfd, pc⟩ := Cond.linkedMethod fc hkl n0 (w 10 _ rfl) pl hpl
  cases hfa.symm.trans hfd
  obtain ⟨c7, i7, f7, l7, r7, t7, s7, z7, -, -, -⟩ := Cond.ownField (t := .object tN) fc hkl (by decide +kernel) (w 11 _ rfl) (w 12 _ rfl) pl hpl
  obtain ⟨c17, i17, f17, l17, r17, t17, s17, z17, n17, y17, g17⟩ := Cond.ownField (t := .array (.object "java/lang/StackTraceElement")) fc hkl (by decide +kernel) (w 13 _ rfl) (w 14 _ rfl) pl hpl
  obtain ⟨c24, i24, f24, l24, r24, t24, s24, z24, n24, -, g24⟩ := Cond.ownField (t := .object "java/util/List") fc hkl (by decide +kernel) (w 15 _ rfl) (w 16 _ rfl) pl hpl
  obtain ⟨c13, i13, f13, aS, cS, l13, r13, t13, s13, -, -, hst, hcS, iS, -, -, g13⟩ := Cond.ownStatic (t := .array (.object "java/lang/StackTraceElement")) fc hkl (by decide +kernel) (w 17 _ rfl) (w 18 _ rfl) pl hpl
  obtain ⟨c20, i20, f20, -, -, l20, r20, t20, s20, -⟩ := Cond.ownStatic (t := .object "java/util/List") fc hkl (by decide +kernel) (w 19 _ rfl) (w 20 _ rfl) pl hpl
  obtain ⟨cR, kR, -, -, -, fM, fR, hkR, -, sM, zM, -⟩ := Cond.lays_spec (w 21 _ rfl)
  obtain ⟨-, d1, h1, e1⟩ := Cond.laysAt fR hkR g17 (w 14 _ rfl)
  obtain ⟨-, d2, h2, e2⟩ := Cond.laysAt fR hkR g24 (w 16 _ rfl)
  have apart := Cond.laysApart h1 h2 e1 e2 (by rw [n17, n24]; decide)
  refine ⟨{ cT := cl, kT := kl, cO := cl, aS := aS, fillIdx := jF, fill0Idx := j0, initSIdx := jF, obj := mO, kObj := kk, methFill := mF, methFill0 := mN, methInitS := mF, methObj := eO, codeFill := cF, codeInitS := cF, codeObj := cO, fBack := f7, fDepth := f7, fStack := f17, fCause := f7, fSupp := f24, fMsg := fM, fUnassigned := f13, fSentinel := f20, cfT := fa, ci1 := ca, n1 := na, ci27 := cb, n27 := nb, ci202 := cc, n202 := nc, ci7 := c7, i7 := i7, ci13 := c13, i13 := i13, ci17 := c17, i17 := i17, ci20 := c20, i20 := i20, ci24 := c24, i24 := i24 }, ?_, fc, nF, n0, g17, y17, n17, g13, cS, hcS, iS⟩
  constructor
  case owns => exact ho
  case noFinalization => exact hfi
  case fillParams => exact own_par sgF (by decide +kernel)
  case fill0Params => exact own_par sgN (by decide +kernel)
  case objParams => exact congrArg List.length (own_par sgO (by decide +kernel) : eO.sig.parameters = [])
  case objFound => rw [dsO]; exact lookupSpecial_of_named nO qO sO
  case initialized => exact Cond.initialized_spec fc hkl (w 0 _ rfl)
  case boot => exact Vm.findClass_boot fc hkl
  case stackApartSupp => exact apart
  case objBytes => exact yO
  all_goals first | assumption

theorem own_ff {Z s : State} (hal : Z.vm.Alike s.vm) {C n d : String} {cf : ClassId} {k : Class} {i : Nat} {f : Field} (h : Z.fieldFound? C n d = some (cf, k, i, f)) {cf' : ClassId} {k' : Class} {i' : Nat} {f' : Field} (h' : s.fieldFound? C n d = some (cf', k', i', f')) : f' = f := by
  obtain ⟨k4, q, -⟩ := State.fieldFound?_setVm (s := Z) hal h
  cases (show s.fieldFound? C n d = _ from q).symm.trans h'
  rfl
theorem own_after {Z : State} {h h' : Heap} {a : Addr} {O n d : String} {v : Value} {C : Cell} {cell : Cell} (F : Fld Z h a O n d v) (h1 : h[a]? = some cell) (h2 : h'[a]? = some C) (q1 : C.cls = cell.cls) (q2 : C.vm = cell.vm) (q3 : ∀ (cf : ClassId) (k : Class) (i : Nat) (f : Field), Z.fieldFound? O n d = some (cf, k, i, f) → C.slots[f.slot]? = cell.slots[f.slot]?) : Fld Z h' a O n d v := by
  obtain ⟨c0, cf, k, i, f, e1, e2, e3, e4, e5, e6, e7⟩ := F
  cases h1.symm.trans e1
  exact ⟨C, cf, k, i, f, h2, e2, e3, by rw [q2]; exact e4, by rw [q2]; exact e5, by rw [q1]; exact e6, by rw [q3 _ _ _ _ e2]; exact e7⟩
set_option maxHeartbeats 4000000 in
theorem own_fill {p : Program} {l : Launch} {e : Env} {R : Room} {s : State} {args : Array Value} {below : List Frame} {len W : Nat} {Z : State} {a0 : Array Value} {h : Heap} {rc : String} {kI : Nat} {a : Addr} {u0 vC vM : Value} (hx : p.tables.exec = Jvm.exec) (hST : l.stackTraces = true) (hZ : Z.Warmed39 s.vm) (hn : ∀ d ∈ own_need rc, d.before a0 Z = true) (wi : (Jvm.Cond.instantiable rc kI).before a0 Z = true) (hT0 : ThS Z s.heap) (hTK : s.vm.MethodsKnown) (hBelow : s.vm.FramesKnown below)
    (E : Exa Z h a rc) (N : Unt h a) (B : Fld Z h a tN "backtrace" "Ljava/lang/Object;" .null) (FS : Fld Z h a tN "stackTrace" steD u0) (ru : u0.isRef = true) (SU : Sta Z h tN "UNASSIGNED_STACK" steD u0) (FC : Fld Z h a tN "cause" "Ljava/lang/Throwable;" vC) (FM : Fld Z h a tN "detailMessage" "Ljava/lang/String;" vM) (hf : 2 < R.frames) (hl : W + 42 ≤ R.locals) :
    Back l R p e below s args tFill len W (fun A as => as = #[.ref a] ∧ A.U.heap = h ∧ A.cells + 1 ≤ R.cells ∧ A.slots + 2752 ≤ R.slots)
      (fun A _ v B => ∃ L, (∃ i1 i2 i3 : Nat, v = some (.ref a) ∧ L = [⟨a, i1⟩, ⟨a, i2⟩, ⟨a, i3⟩] ∧ Fld Z B.U.heap a tN "cause" "Ljava/lang/Throwable;" vC ∧ Fld Z B.U.heap a tN "detailMessage" "Ljava/lang/String;" vM) ∧ B.locs = A.locs ++ L ∧ B.cells = A.cells + 1 ∧ B.slots = A.slots + 2752) := by
  intro m meth c A g ig mk as X hg hsize hdg hWd hmk hPre
  obtain ⟨has, hh, hc, hs⟩ := hPre
  have ad := X.admits.platform
  have W' : ∀ d ∈ own_need rc, d.before args s = true := fun d hd => mvX hT0 hZ (List.all_eq_true.mp own_needOk d hd) (hn d hd)
  have w : ∀ (i : Nat) (d : Jvm.Cond), (own_need rc)[i]? = some d → d.before args s = true := fun i d hd => W' d (List.mem_of_getElem? hd)
  have hpl : e.platform.magicAccessors = ({} : Platform).magicAccessors := by rw [ad]
  obtain ⟨T, L, fT, nF, n0, gS, yS, nS, gU, cS0, hS0, iS0⟩ := own_links (rc := rc) (args := args) (s := s) (pl := e.platform) (by rw [ad]) (by rw [ad]) hpl W'
  -- the receiver
  obtain ⟨cell, k, e1, e2, e3, e4, e5⟩ := E
  obtain ⟨cell2, u1, u2, u3⟩ := N
  cases e1.symm.trans u1
  obtain ⟨c4, k4, v1, v2, v3, -⟩ := Cond.instantiable_spec wi
  cases e2.symm.trans v1
  cases e3.symm.trans v2
  obtain ⟨kX, hkX, eX⟩ := hZ.alike.2.2 _ _ e3
  have fR : s.vm.findClass rc = some cell.cls := by rw [hZ.alike.findClass]; exact e2
  have hord : kX.kind = .ordinary := by rw [eX]; exact v3
  have hsz : cell.slots.size = kX.instanceTypes.size := by rw [eX]; exact e5 v3
  have tk : ∀ {f : Field} {v : Value}, kX.instanceTypes[f.slot]? = some f.type → fits f.type v = true → Jvm.Takes s cell f v := fun {f v} h1 h2 => by
    obtain ⟨q1, q2⟩ := Takes.of_laid (v := v) hkX hord h1 h2
    exact ⟨by rw [hsz]; simpa using q1, by rw [u2]; exact q2⟩
  -- the fields
  obtain ⟨cB, iB, fB, lB, rB, aB, sB, -, nB, tB, gB⟩ := Cond.ownField (t := .object "java/lang/Object") fT L.cls (by decide +kernel) (w 23 _ rfl) (w 24 _ rfl) e.platform hpl
  obtain ⟨-, -, cD, kD, iD, fD, -, -, gD, sD, -, -, -, -⟩ := Cond.lays_spec (w 28 _ rfl)
  cases (Cond.lays_declared (w 28 _ rfl) gD).symm.trans fT
  obtain ⟨hkD, aD⟩ := State.fieldFound?_spec gD
  cases hkD.symm.trans L.cls
  obtain ⟨nD, tD⟩ := State.fieldFound?_type gD (t := .int) (by decide +kernel)
  have bb := Cond.soleField_find fT L.cls (w 26 _ rfl) aB nB sB
  have dd := Cond.soleField_find fT L.cls (w 27 _ rfl) aD nD sD
  obtain ⟨comp, cO, kO, -, -, hkO, kiO, fO⟩ := Cond.arrayOver_spec (w 25 _ rfl)
  obtain ⟨tyS, dS, xS, mS⟩ := Cond.laysAt fR hkX gS (w 14 _ rfl)
  obtain ⟨tyB, dB, xB, mB⟩ := Cond.laysAt fR hkX gB (w 24 _ rfl)
  obtain ⟨tyD, dD, xD, mD⟩ := Cond.laysAt fR hkX gD (w 28 _ rfl)
  -- the values
  obtain ⟨b0, _, _, _, fb0, b1, b2, -, -, -, -, b7⟩ := B
  cases e1.symm.trans b1
  cases own_ff hZ.alike b2 gB
  obtain ⟨s0, _, _, _, fs0, s1, s2, -, -, -, -, s7⟩ := FS
  cases e1.symm.trans s1
  cases own_ff hZ.alike s2 gS
  obtain ⟨cu, iu, ku, fu, st, cs, z1, z2, z3, z4, z5, z6, z7⟩ := SU
  obtain ⟨k9, q9, ek9⟩ := State.fieldFound?_setVm (s := Z) hZ.alike z1
  cases (show s.fieldFound? tN "UNASSIGNED_STACK" steD = _ from q9).symm.trans gU
  have eS : st = T.aS := Option.some.inj ((show T.kT.statics = some st by rw [ek9]; exact z4).symm.trans L.statics)
  subst eS
  have sel0 : selectMethod e.platform s.vm cell.cls T.fill0 = .method T.fill0 := by
    obtain ⟨c2, r2, m2, q1, q2, q3, q4, -⟩ := Cond.selects_spec (w 22 _ rfl)
    cases fR.symm.trans q1
    cases (State.methodFound?_of_named n0 (by decide)).symm.trans q2
    cases n0.symm.trans q3
    rw [Launch.admits_selectMethod X.admits]; exact q4
  have ne : T.aS ≠ a := fun z => by rw [z] at z5; cases e1.symm.trans z5; rw [z6] at e4; cases e4
  obtain ⟨v, B2, XB, ⟨hv, C, n, hnn, hC, hq1, hq2, hq3, hq4, hL, hce, hsl⟩, st2⟩ := Jvm.Free.Exc.fillPaysAny (l := l) (R := R) (len := len) (W := W) (sargs := args) hx (by rw [ad]; exact hST) T L nF (u0 := ⟨u0, ru⟩) (self := a) (cell := cell) (cellS := cs) (fun _ => by rw [u2]; simp) (by rw [u2]; simp) (by rw [u3]) (by rw [u3]) s7 sel0 ne (by intro z; rw [z] at z6; cases z6) z7
    (tk tyS (by rw [yS]; exact fits_refV_array _ ⟨u0, ru⟩)) ⟨{ ci198 := cB, i198 := iB, fBack := fB }, ⟨lB, rB, aB, sB⟩, b7⟩ hTK hBelow fT fO hkO kiO bb dd (fun x => tk tyB (by rw [tB]; rfl)) (fun x => tk tyD (by rw [tD]; rfl)) hf hl
    m meth c A g ig mk as X hg hsize hdg hWd hmk ⟨has, hc, hs, by rw [hh]; exact e1, by rw [hh]; exact z5⟩
  refine ⟨v, ⟨B2.U, B2.locs, B2.cells, A.slots + 2752⟩, XB.more (Nat.le_refl _) (by rw [hsl]; exact Nat.add_le_add_left hnn _), ⟨_, ⟨fB.slot, fD.slot, T.fStack.slot, hv, rfl, ?_, ?_⟩, hL, hce, rfl⟩, st2⟩
  · refine own_after FC e1 hC hq1 hq2 fun cf k' i f hf' => ?_
    obtain ⟨k5, g5, -⟩ := State.fieldFound?_setVm (s := Z) hZ.alike hf'
    have g5' : s.fieldFound? tN "cause" "Ljava/lang/Throwable;" = _ := g5
    obtain ⟨-, dC, xC, mC⟩ := Cond.laysAt fR hkX g5' (w 12 _ rfl)
    have nC := (State.fieldFound?_type g5' (t := .object tN) (by decide +kernel)).1
    exact hq4 _ (Cond.laysApart xC xB mC mB (by rw [nC, nB]; decide)) (Cond.laysApart xC xD mC mD (by rw [nC, nD]; decide)) (Cond.laysApart xC xS mC mS (by rw [nC, nS]; decide))
  · refine own_after FM e1 hC hq1 hq2 fun cf k' i f hf' => ?_
    obtain ⟨k5, g5, -⟩ := State.fieldFound?_setVm (s := Z) hZ.alike hf'
    have g5' : s.fieldFound? tN "detailMessage" "Ljava/lang/String;" = _ := g5
    obtain ⟨-, dC, xC, mC⟩ := Cond.laysAt fR hkX g5' (w 21 _ rfl)
    have nC := (State.fieldFound?_type g5' (t := .object "java/lang/String") (by decide +kernel)).1
    exact hq4 _ (Cond.laysApart xC xB mC mB (by rw [nC, nB]; decide)) (Cond.laysApart xC xD mC mD (by rw [nC, nD]; decide)) (Cond.laysApart xC xS mC mS (by rw [nC, nS]; decide))
theorem own_since {p : Program} {l : Launch} {e : Env} {R : Room} {s : State} {m : MethodId} {args : Array Value} {below : List Frame} {meth : Method} {c : Code} {T : State} {locs : List Loc} {cells slots : Nat} (X : Stand p l e R s m args below meth c T locs cells slots) {h0 : Heap} (hh : s.heap = h0) {a : Addr} (hl : ∀ x ∈ locs, x.base = a) : Keep h0 T.heap [a] ∧ (Unt h0 a → Unt T.heap a) := by
  obtain ⟨-, q1, -, -, -, q2⟩ := X.same
  subst hh
  refine ⟨⟨q1, fun x cx hx hn => ?_, fun x cx hx => ?_⟩, fun ⟨cx, hx, w1, w2⟩ => ?_⟩
  · obtain ⟨c', r1, r2, -, r4⟩ := q2 x cx hx
    have e : c'.slots = cx.slots := Array.ext_getElem? fun i => r4 i fun hm => hn (by rw [← hl _ hm]; exact List.mem_cons_self ..)
    rw [show T.heap[x]? = _ from r1, r2, e]
  · obtain ⟨c', r1, r2, r3, -⟩ := q2 x cx hx
    exact ⟨c', r1, by rw [r2], by rw [r2], r3⟩
  · obtain ⟨c', r1, r2, -, -⟩ := q2 a cx hx
    exact ⟨c', r1, by rw [r2]; exact w1, by rw [r2]; exact w2⟩

set_option maxRecDepth 65536 in
theorem own_needIn : ∀ d ∈ own_need "com/example/faktorwerk/faktorwerk/model/InputRefusedException", d ∈ tables_1 := by decide +kernel
def QThr (Z : State) (a b : Addr) (h0 : Heap) (n0 : Nat) (v : Option Value) (h : Heap) (L : List Loc) : Prop := v = none ∧ Fr n0 L ∧ Keep h0 h [a] ∧ Exa Z h a "com/example/faktorwerk/faktorwerk/model/InputRefusedException" ∧ Unt h a ∧ Fld Z h a "java/lang/Throwable" "cause" "Ljava/lang/Throwable;" (.ref a) ∧ Fld Z h a "java/lang/Throwable" "detailMessage" "Ljava/lang/String;" (.ref b)
set_option maxRecDepth 65536 in
set_option maxHeartbeats 40000000 in
theorem rmThr (l : Launch) (Z : State) (a0 : Array Value) (hw : ∀ d ∈ tables_1, d.before a0 Z = true) (a b : Addr) (u0 w0 : Value) (h0 : Heap) (n0 : Nat) (Z0 : n0 ≤ h0.size) (hST : l.stackTraces = true) (SU : Sta Z Z.heap "java/lang/Throwable" "UNASSIGNED_STACK" "[Ljava/lang/StackTraceElement;" u0) (rU : u0.isRef = true) (SS : Sta Z Z.heap "java/lang/Throwable" "SUPPRESSED_SENTINEL" "Ljava/util/List;" w0) (rS : w0.isRef = true) (E0 : Exa Z h0 a "com/example/faktorwerk/faktorwerk/model/InputRefusedException") (U0 : Unt h0 a) (F0ca : Fld Z h0 a "java/lang/Throwable" "cause" "Ljava/lang/Throwable;" .null) (F0st : Fld Z h0 a "java/lang/Throwable" "stackTrace" "[Ljava/lang/StackTraceElement;" .null) (F0su : Fld Z h0 a "java/lang/Throwable" "suppressedExceptions" "Ljava/util/List;" .null) (F0ba : Fld Z h0 a "java/lang/Throwable" "backtrace" "Ljava/lang/Object;" .null) (F0de : Fld Z h0 a "java/lang/Throwable" "detailMessage" "Ljava/lang/String;" .null) (ga : n0 ≤ a) (O0 : Old Z n0 h0) :
    MetFree l (⟨"java/lang/Throwable", "<init>", "(Ljava/lang/String;)V"⟩ : MethodName) (head1 [Jvm.Cond.code (⟨"java/lang/Throwable", "<init>", "(Ljava/lang/String;)V"⟩ : MethodName) jdk_78_method_2_code 2 none] ({ frames := 3, cells := 1, slots := 2752, locals := 42 } : Room)) (fun aa U => aa = #[(.ref a), (.ref b)] ∧ Z.Warmed39 U.vm ∧ U.heap = h0) (fun _ _ bl s _ => s.vm.MethodsKnown ∧ s.vm.FramesKnown bl) (fun _ U o U' => ∃ v L, o = .returned v ∧ QThr Z a b h0 n0 v U'.heap L ∧ FrameEnd U o U' L ({ frames := 3, cells := 1, slots := 2752, locals := 42 } : Room).cells ({ frames := 3, cells := 1, slots := 2752, locals := 42 } : Room).slots) := by
  refine MetFree.of_bodySF (plainFor_of_name own_pn1) hisR ?_
  intro p e s m args below meth c s₁ Bd hml0 hP hK
  obtain ⟨rfl, hZ, hh⟩ := hP
  have hx := Bd.exec
  have hby := Bd.bytes
  have hml : c.maxLocals = 2 := hml0
  have hown : s.vm.findClass "java/lang/Throwable" = some m.cls := findClass_of_methodNamed Bd.named
  have hnm := (name_of_methodNamed Bd.named Bd.method).1
  have X0 : Stand p l e ({ frames := 3, cells := 1, slots := 2752, locals := 42 } : Room) s m #[(.ref a), (.ref b)] below meth c s₁ [] 0 0 := Stand.of_body Bd
  have e0 : s₁.heap = h0 := by rw [← hh, Bd.state]; rfl
  have N0 := Fr.nil n0
  have K0 : Keep h0 h0 [] := Keep.refl _ _
  show GoOn p e below (s₁.setTop (entryFrame m #[(.ref a), (.ref b)] 2)) (PostN s (QThr Z a b h0 n0) ({ frames := 3, cells := 1, slots := 2752, locals := 42 } : Room).cells ({ frames := 3, cells := 1, slots := 2752, locals := 42 } : Room).slots)
  refine GoOn.step (fun tq kq => castTop (own_ef0 m a b) kq) ?_
  show GoOn p e below (s₁.setTop (mkF m 0 #[.val (.ref a), .val (.ref b)] [])) _
  have K0a : Keep h0 h0 [a] := Keep.refl _ _
  refine GoOn.step (fun tq kq => XS.aloadN X0.here hx rfl (hb hby own_d2) rfl rfl kq) ?_
  show GoOn p e below (s₁.setTop (mkF m 1 #[.val (.ref a), .val (.ref b)] [(.ref a)])) _
  obtain ⟨T1, X1, e1, st1⟩ := initO X0 hx hZ hown (hw _ (List.mem_of_getElem? (i := 177) rfl)) (hw _ (List.mem_of_getElem? (i := 16) rfl)) (hw _ (List.mem_of_getElem? (i := 17) rfl)) e0 (g := (mkF m 1 #[.val (.ref a), .val (.ref b)] [(.ref a)])) rfl (by rw [hml]; rfl) rfl (hb hby own_d3) (by decide) (W := 0) (by show 2 * 0 + _ ≤ _; exact Nat.le_of_eq rfl) (by decide)
  refine GoOn.step st1 ?_
  refine GoOn.step (fun tq kq => XS.aloadN X1.here hx rfl (hb hby own_d4) rfl rfl kq) ?_
  refine GoOn.step (fun tq kq => XS.aloadN X1.here hx rfl (hb hby own_d5) rfl rfl kq) ?_
  show GoOn p e below (T1.setTop (mkF m 6 #[.val (.ref a), .val (.ref b)] [(.ref a), (.ref a)])) _
  obtain ⟨T2, h2, X2, e2, W2, st2⟩ := putF X1 hx hZ hown (host := "") (Or.inl (hw _ (List.mem_of_getElem? (i := 178) rfl))) Via.refl e1 F0ca E0 (Or.inl (hw _ (List.mem_of_getElem? (i := 179) rfl))) (hw _ (List.mem_of_getElem? (i := 31) rfl)) (ty := (.object "java/lang/Throwable")) (by decide) rfl rfl (g := (mkF m 6 #[.val (.ref a), .val (.ref b)] [(.ref a), (.ref a)])) rfl rfl (hb hby own_d6)
  have N3 := Fr.snoc X2 N0 ga
  have Kx2 : Keep h0 h2 [a] := Keep.of_wr W2
  have F4 : Fld Z h2 a "java/lang/Throwable" "cause" "Ljava/lang/Throwable;" (.ref a) := F0ca.same W2
  have F5 : Fld Z h2 a "java/lang/Throwable" "stackTrace" "[Ljava/lang/StackTraceElement;" .null := F0st.other W2 (Or.inr (slot_ne (a0 := a0) (Or.inl (hw _ (List.mem_of_getElem? (i := 182) rfl))) (Or.inl (hw _ (List.mem_of_getElem? (i := 179) rfl))) (by decide) (t := (.array (.object "java/lang/StackTraceElement"))) (t' := (.object "java/lang/Throwable")) (by decide) (by decide)))
  have F6 : Fld Z h2 a "java/lang/Throwable" "suppressedExceptions" "Ljava/util/List;" .null := F0su.other W2 (Or.inr (slot_ne (a0 := a0) (Or.inl (hw _ (List.mem_of_getElem? (i := 185) rfl))) (Or.inl (hw _ (List.mem_of_getElem? (i := 179) rfl))) (by decide) (t := (.object "java/util/List")) (t' := (.object "java/lang/Throwable")) (by decide) (by decide)))
  have F7 : Fld Z h2 a "java/lang/Throwable" "backtrace" "Ljava/lang/Object;" .null := F0ba.other W2 (Or.inr (slot_ne (a0 := a0) (Or.inl (hw _ (List.mem_of_getElem? (i := 210) rfl))) (Or.inl (hw _ (List.mem_of_getElem? (i := 179) rfl))) (by decide) (t := (.object "java/lang/Object")) (t' := (.object "java/lang/Throwable")) (by decide) (by decide)))
  have F8 : Fld Z h2 a "java/lang/Throwable" "detailMessage" "Ljava/lang/String;" .null := F0de.other W2 (Or.inr (slot_ne (a0 := a0) (Or.inl (hw _ (List.mem_of_getElem? (i := 209) rfl))) (Or.inl (hw _ (List.mem_of_getElem? (i := 179) rfl))) (by decide) (t := (.object "java/lang/String")) (t' := (.object "java/lang/Throwable")) (by decide) (by decide)))
  refine GoOn.step st2 ?_
  have E9 : Exa Z h2 a "com/example/faktorwerk/faktorwerk/model/InputRefusedException" := E0.keep Kx2
  have O16 : Old Z n0 h2 := O0.keep Kx2 (allS ga all0)
  have Z17 : n0 ≤ h2.size := Nat.le_trans Z0 Kx2.1
  have K18 : Keep h0 h2 [a] := K0a.trans Kx2 ((allS (Or.inl (by simp)) all0))
  refine GoOn.step (fun tq kq => XS.aloadN X2.here hx rfl (hb hby own_d7) rfl rfl kq) ?_
  show GoOn p e below (T2.setTop (mkF m 10 #[.val (.ref a), .val (.ref b)] [(.ref a)])) _
  obtain ⟨T19, X19, e19, st19⟩ := getS2 X2 hx hZ hown (host := "") (Or.inl (hw _ (List.mem_of_getElem? (i := 180) rfl))) Via.refl e2 (SU.ext O16.2) (g := (mkF m 10 #[.val (.ref a), .val (.ref b)] [(.ref a)])) rfl (hb hby own_d8)
  refine GoOn.step st19 ?_
  show GoOn p e below (T19.setTop (mkF m 13 #[.val (.ref a), .val (.ref b)] [u0, (.ref a)])) _
  obtain ⟨T20, h20, X20, e20, W20, st20⟩ := putF X19 hx hZ hown (host := "") (Or.inl (hw _ (List.mem_of_getElem? (i := 181) rfl))) Via.refl e19 F5 E9 (Or.inl (hw _ (List.mem_of_getElem? (i := 182) rfl))) (hw _ (List.mem_of_getElem? (i := 31) rfl)) (ty := (.array (.object "java/lang/StackTraceElement"))) (by decide) (narRef rU) (fitRefA rU) (g := (mkF m 13 #[.val (.ref a), .val (.ref b)] [u0, (.ref a)])) rfl rfl (hb hby own_d9)
  have N21 := Fr.snoc X20 N3 ga
  have Kx20 : Keep h2 h20 [a] := Keep.of_wr W20
  have F22 : Fld Z h20 a "java/lang/Throwable" "stackTrace" "[Ljava/lang/StackTraceElement;" u0 := F5.same W20
  have F23 : Fld Z h20 a "java/lang/Throwable" "cause" "Ljava/lang/Throwable;" (.ref a) := F4.other W20 (Or.inr (slot_ne (a0 := a0) (Or.inl (hw _ (List.mem_of_getElem? (i := 179) rfl))) (Or.inl (hw _ (List.mem_of_getElem? (i := 182) rfl))) (by decide) (t := (.object "java/lang/Throwable")) (t' := (.array (.object "java/lang/StackTraceElement"))) (by decide) (by decide)))
  have F24 : Fld Z h20 a "java/lang/Throwable" "suppressedExceptions" "Ljava/util/List;" .null := F6.other W20 (Or.inr (slot_ne (a0 := a0) (Or.inl (hw _ (List.mem_of_getElem? (i := 185) rfl))) (Or.inl (hw _ (List.mem_of_getElem? (i := 182) rfl))) (by decide) (t := (.object "java/util/List")) (t' := (.array (.object "java/lang/StackTraceElement"))) (by decide) (by decide)))
  have F25 : Fld Z h20 a "java/lang/Throwable" "backtrace" "Ljava/lang/Object;" .null := F7.other W20 (Or.inr (slot_ne (a0 := a0) (Or.inl (hw _ (List.mem_of_getElem? (i := 210) rfl))) (Or.inl (hw _ (List.mem_of_getElem? (i := 182) rfl))) (by decide) (t := (.object "java/lang/Object")) (t' := (.array (.object "java/lang/StackTraceElement"))) (by decide) (by decide)))
  have F26 : Fld Z h20 a "java/lang/Throwable" "detailMessage" "Ljava/lang/String;" .null := F8.other W20 (Or.inr (slot_ne (a0 := a0) (Or.inl (hw _ (List.mem_of_getElem? (i := 209) rfl))) (Or.inl (hw _ (List.mem_of_getElem? (i := 182) rfl))) (by decide) (t := (.object "java/lang/String")) (t' := (.array (.object "java/lang/StackTraceElement"))) (by decide) (by decide)))
  refine GoOn.step st20 ?_
  have E27 : Exa Z h20 a "com/example/faktorwerk/faktorwerk/model/InputRefusedException" := E9.keep Kx20
  have O28 : Old Z n0 h20 := O16.keep Kx20 (allS ga all0)
  have Z29 : n0 ≤ h20.size := Nat.le_trans Z17 Kx20.1
  have K30 : Keep h0 h20 [a] := K18.trans Kx20 ((allS (Or.inl (by simp)) all0))
  refine GoOn.step (fun tq kq => XS.aloadN X20.here hx rfl (hb hby own_d10) rfl rfl kq) ?_
  show GoOn p e below (T20.setTop (mkF m 17 #[.val (.ref a), .val (.ref b)] [(.ref a)])) _
  obtain ⟨T36, X36, e36, st36⟩ := getS2 X20 hx hZ hown (host := "") (Or.inl (hw _ (List.mem_of_getElem? (i := 183) rfl))) Via.refl e20 (SS.ext O28.2) (g := (mkF m 17 #[.val (.ref a), .val (.ref b)] [(.ref a)])) rfl (hb hby own_d11)
  refine GoOn.step st36 ?_
  show GoOn p e below (T36.setTop (mkF m 20 #[.val (.ref a), .val (.ref b)] [w0, (.ref a)])) _
  obtain ⟨T37, h37, X37, e37, W37, st37⟩ := putF X36 hx hZ hown (host := "") (Or.inl (hw _ (List.mem_of_getElem? (i := 184) rfl))) Via.refl e36 F24 E27 (Or.inl (hw _ (List.mem_of_getElem? (i := 185) rfl))) (hw _ (List.mem_of_getElem? (i := 31) rfl)) (ty := (.object "java/util/List")) (by decide) (narRef rS) (fitRef rS) (g := (mkF m 20 #[.val (.ref a), .val (.ref b)] [w0, (.ref a)])) rfl rfl (hb hby own_d12)
  have N38 := Fr.snoc X37 N21 ga
  have Kx37 : Keep h20 h37 [a] := Keep.of_wr W37
  have F39 : Fld Z h37 a "java/lang/Throwable" "suppressedExceptions" "Ljava/util/List;" w0 := F24.same W37
  have F40 : Fld Z h37 a "java/lang/Throwable" "stackTrace" "[Ljava/lang/StackTraceElement;" u0 := F22.other W37 (Or.inr (slot_ne (a0 := a0) (Or.inl (hw _ (List.mem_of_getElem? (i := 182) rfl))) (Or.inl (hw _ (List.mem_of_getElem? (i := 185) rfl))) (by decide) (t := (.array (.object "java/lang/StackTraceElement"))) (t' := (.object "java/util/List")) (by decide) (by decide)))
  have F41 : Fld Z h37 a "java/lang/Throwable" "cause" "Ljava/lang/Throwable;" (.ref a) := F23.other W37 (Or.inr (slot_ne (a0 := a0) (Or.inl (hw _ (List.mem_of_getElem? (i := 179) rfl))) (Or.inl (hw _ (List.mem_of_getElem? (i := 185) rfl))) (by decide) (t := (.object "java/lang/Throwable")) (t' := (.object "java/util/List")) (by decide) (by decide)))
  have F42 : Fld Z h37 a "java/lang/Throwable" "backtrace" "Ljava/lang/Object;" .null := F25.other W37 (Or.inr (slot_ne (a0 := a0) (Or.inl (hw _ (List.mem_of_getElem? (i := 210) rfl))) (Or.inl (hw _ (List.mem_of_getElem? (i := 185) rfl))) (by decide) (t := (.object "java/lang/Object")) (t' := (.object "java/util/List")) (by decide) (by decide)))
  have F43 : Fld Z h37 a "java/lang/Throwable" "detailMessage" "Ljava/lang/String;" .null := F26.other W37 (Or.inr (slot_ne (a0 := a0) (Or.inl (hw _ (List.mem_of_getElem? (i := 209) rfl))) (Or.inl (hw _ (List.mem_of_getElem? (i := 185) rfl))) (by decide) (t := (.object "java/lang/String")) (t' := (.object "java/util/List")) (by decide) (by decide)))
  refine GoOn.step st37 ?_
  have E44 : Exa Z h37 a "com/example/faktorwerk/faktorwerk/model/InputRefusedException" := E27.keep Kx37
  have O45 : Old Z n0 h37 := O28.keep Kx37 (allS ga all0)
  have Z46 : n0 ≤ h37.size := Nat.le_trans Z29 Kx37.1
  have K47 : Keep h0 h37 [a] := K30.trans Kx37 ((allS (Or.inl (by simp)) all0))
  refine GoOn.step (fun tq kq => XS.aloadN X37.here hx rfl (hb hby own_d13) rfl rfl kq) ?_
  show GoOn p e below (T37.setTop (mkF m 24 #[.val (.ref a), .val (.ref b)] [(.ref a)])) _
  have Un53 : Unt T37.heap a := (own_since (a := a) X37 hh (by simp)).2 U0
  rw [e37] at Un53
  obtain ⟨cqc55, kqc55, qac55, qbc55, qcc55⟩ := isOf hZ e37 E44
  obtain ⟨_, _, ⟨T54, L54, k54, n54⟩, -, X54, ⟨Lc54, hQ54, l54, y54, z54⟩, st54⟩ := X37.virtualBack hx (y := (⟨"java/lang/Throwable", "fillInStackTrace", "()Ljava/lang/Throwable;"⟩ : MethodName)) (z := (⟨"java/lang/Throwable", "fillInStackTrace", "()Ljava/lang/Throwable;"⟩ : MethodName)) hown (mvT hZ (hw _ (List.mem_of_getElem? (i := 186) rfl))) (mvT hZ (hw _ (List.mem_of_getElem? (i := 187) rfl))) (notFace_of_selects (args := #[]) (mvT hZ (hw _ (List.mem_of_getElem? (i := 189) rfl)))) (mvT hZ (hw _ (List.mem_of_getElem? (i := 189) rfl))) (mvT hZ (hw _ (List.mem_of_getElem? (i := 188) rfl))) (by decide) (own_fill (rc := "com/example/faktorwerk/faktorwerk/model/InputRefusedException") (W := 0) hx hST hZ (fun d hd => hw d (own_needIn d hd)) (hw _ (List.mem_of_getElem? (i := 31) rfl)) (by rw [hh]; exact ThS.ext O0.2 ThS.start) hK.1 hK.2 E44 Un53 F42 F40 rU (SU.ext O45.2) F41 F43 (by decide) (by decide)) qac55 qcc55 (g := (mkF m 24 #[.val (.ref a), .val (.ref b)] [(.ref a)])) rfl (by rw [hml]; rfl) (Steps.refl _) (argsL := []) (rest := []) (lenOf own_pd15 rfl) rfl (by show 2 * 0 + _ ≤ _; exact Nat.le_of_eq rfl) (hb hby own_d14) (fun _ _ => ⟨rfl, e37, (by decide : 0 + 1 ≤ _), (by decide : 0 + 2752 ≤ _)⟩)
  dsimp only [Pt.U, Pt.locs, Pt.cells, Pt.slots] at X54 l54 y54 z54 st54 hQ54
  subst l54 y54 z54
  obtain ⟨i154, i254, i354, rfl, rfl, Fc54, Fm54⟩ := hQ54
  refine GoOn.trans st54 ?_
  show GoOn p e below (T54.setTop (mkF m 27 #[.val (.ref a), .val (.ref b)] [(.ref a)])) _
  have Ks54 := own_since (a := a) X54 hh (by simp)
  have N57 := Fr.app (L' := [⟨a, i154⟩, ⟨a, i254⟩, ⟨a, i354⟩]) N38 (fun y hy => by simp at hy; rcases hy with rfl | rfl | rfl <;> exact ga)
  have E54 := E0.keep Ks54.1
  have Un54 := Ks54.2 U0
  have Zz54 := Nat.le_trans Z0 Ks54.1.1
  have Oo54 := O0.keep Ks54.1 (allS ga all0)
  have Kk54 := Ks54.1
  refine GoOn.step (fun tq kq => XS.pop X54.here hx rfl (hb hby own_d16) rfl rfl kq) ?_
  refine GoOn.step (fun tq kq => XS.aloadN X54.here hx rfl (hb hby own_d17) rfl rfl kq) ?_
  refine GoOn.step (fun tq kq => XS.aloadN X54.here hx rfl (hb hby own_d18) rfl rfl kq) ?_
  show GoOn p e below (T54.setTop (mkF m 30 #[.val (.ref a), .val (.ref b)] [(.ref b), (.ref a)])) _
  obtain ⟨T58, h58, X58, e58, W58, st58⟩ := putF X54 hx hZ hown (host := "") (Or.inl (hw _ (List.mem_of_getElem? (i := 213) rfl))) Via.refl rfl Fm54 E54 (Or.inl (hw _ (List.mem_of_getElem? (i := 209) rfl))) (hw _ (List.mem_of_getElem? (i := 31) rfl)) (ty := (.object "java/lang/String")) (by decide) rfl rfl (g := (mkF m 30 #[.val (.ref a), .val (.ref b)] [(.ref b), (.ref a)])) rfl rfl (hb hby own_d19)
  have N59 := Fr.snoc X58 N57 ga
  have Kx58 : Keep T54.heap h58 [a] := Keep.of_wr W58
  have F60 : Fld Z h58 a "java/lang/Throwable" "detailMessage" "Ljava/lang/String;" (.ref b) := Fm54.same W58
  have F61 : Fld Z h58 a "java/lang/Throwable" "cause" "Ljava/lang/Throwable;" (.ref a) := Fc54.other W58 (Or.inr (slot_ne (a0 := a0) (Or.inl (hw _ (List.mem_of_getElem? (i := 179) rfl))) (Or.inl (hw _ (List.mem_of_getElem? (i := 209) rfl))) (by decide) (t := (.object "java/lang/Throwable")) (t' := (.object "java/lang/String")) (by decide) (by decide)))
  refine GoOn.step st58 ?_
  have E62 : Exa Z h58 a "com/example/faktorwerk/faktorwerk/model/InputRefusedException" := E54.keep Kx58
  have Z63 : n0 ≤ h58.size := Nat.le_trans Zz54 Kx58.1
  have O64 : Old Z n0 h58 := Oo54.keep Kx58 (allS ga all0)
  have K65 : Keep h0 h58 [a] := Kk54.trans Kx58 ((allS (Or.inl (by simp)) all0))
  show GoOn p e below (T58.setTop (mkF m 33 #[.val (.ref a), .val (.ref b)] [])) _
  have Un68 : Unt T58.heap a := (own_since (a := a) X58 hh (by simp)).2 U0
  rw [e58] at Un68
  refine GoOn.ret X58 Bd.notSynchronized (v := none) (fun _ => rfl) (fun fs hr => X58.returnOut hx Bd.returns (hb hby own_d20) hr) (by decide) (by decide) ?_
  rw [e58]
  exact ⟨rfl, N59, K65, E62, Un68, F61, F60⟩
set_option maxRecDepth 65536 in
set_option maxHeartbeats 40000000 in
theorem rmExc (l : Launch) (Z : State) (a0 : Array Value) (hw : ∀ d ∈ tables_1, d.before a0 Z = true) (a b : Addr) (u0 w0 : Value) (h0 : Heap) (n0 : Nat) (Z0 : n0 ≤ h0.size) (hST : l.stackTraces = true) (SU : Sta Z Z.heap "java/lang/Throwable" "UNASSIGNED_STACK" "[Ljava/lang/StackTraceElement;" u0) (rU : u0.isRef = true) (SS : Sta Z Z.heap "java/lang/Throwable" "SUPPRESSED_SENTINEL" "Ljava/util/List;" w0) (rS : w0.isRef = true) (E0 : Exa Z h0 a "com/example/faktorwerk/faktorwerk/model/InputRefusedException") (U0 : Unt h0 a) (F0ca : Fld Z h0 a "java/lang/Throwable" "cause" "Ljava/lang/Throwable;" .null) (F0st : Fld Z h0 a "java/lang/Throwable" "stackTrace" "[Ljava/lang/StackTraceElement;" .null) (F0su : Fld Z h0 a "java/lang/Throwable" "suppressedExceptions" "Ljava/util/List;" .null) (F0ba : Fld Z h0 a "java/lang/Throwable" "backtrace" "Ljava/lang/Object;" .null) (F0de : Fld Z h0 a "java/lang/Throwable" "detailMessage" "Ljava/lang/String;" .null) (ga : n0 ≤ a) (O0 : Old Z n0 h0) :
    MetFree l (⟨"java/lang/Exception", "<init>", "(Ljava/lang/String;)V"⟩ : MethodName) (head1 [Jvm.Cond.code (⟨"java/lang/Exception", "<init>", "(Ljava/lang/String;)V"⟩ : MethodName) jdk_59_method_2_code 2 none] ({ frames := 4, cells := 1, slots := 2752, locals := 55 } : Room)) (fun aa U => aa = #[(.ref a), (.ref b)] ∧ Z.Warmed39 U.vm ∧ U.heap = h0) (fun _ _ bl s _ => s.vm.MethodsKnown ∧ s.vm.FramesKnown bl) (fun _ U o U' => ∃ v L, o = .returned v ∧ QThr Z a b h0 n0 v U'.heap L ∧ FrameEnd U o U' L ({ frames := 4, cells := 1, slots := 2752, locals := 55 } : Room).cells ({ frames := 4, cells := 1, slots := 2752, locals := 55 } : Room).slots) := by
  refine MetFree.of_bodySF (plainFor_of_name own_pn22) hisR ?_
  intro p e s m args below meth c s₁ Bd hml0 hP hK
  obtain ⟨rfl, hZ, hh⟩ := hP
  have hx := Bd.exec
  have hby := Bd.bytes
  have hml : c.maxLocals = 2 := hml0
  have hown : s.vm.findClass "java/lang/Exception" = some m.cls := findClass_of_methodNamed Bd.named
  have hnm := (name_of_methodNamed Bd.named Bd.method).1
  have X0 : Stand p l e ({ frames := 4, cells := 1, slots := 2752, locals := 55 } : Room) s m #[(.ref a), (.ref b)] below meth c s₁ [] 0 0 := Stand.of_body Bd
  have e0 : s₁.heap = h0 := by rw [← hh, Bd.state]; rfl
  have N0 := Fr.nil n0
  have K0 : Keep h0 h0 [] := Keep.refl _ _
  show GoOn p e below (s₁.setTop (entryFrame m #[(.ref a), (.ref b)] 2)) (PostN s (QThr Z a b h0 n0) ({ frames := 4, cells := 1, slots := 2752, locals := 55 } : Room).cells ({ frames := 4, cells := 1, slots := 2752, locals := 55 } : Room).slots)
  refine GoOn.step (fun tq kq => castTop (own_ef21 m a b) kq) ?_
  show GoOn p e below (s₁.setTop (mkF m 0 #[.val (.ref a), .val (.ref b)] [])) _
  have K0a : Keep h0 h0 [a] := Keep.refl _ _
  refine GoOn.step (fun tq kq => XS.aloadN X0.here hx rfl (hb hby own_d23) rfl rfl kq) ?_
  refine GoOn.step (fun tq kq => XS.aloadN X0.here hx rfl (hb hby own_d24) rfl rfl kq) ?_
  show GoOn p e below (s₁.setTop (mkF m 2 #[.val (.ref a), .val (.ref b)] [(.ref b), (.ref a)])) _
  obtain ⟨_, _, ⟨T69, L69, k69, n69⟩, -, X69, ⟨Lc69, hQ69, l69, y69, z69⟩, st69⟩ := X0.specialBack hx (y := (⟨"java/lang/Throwable", "<init>", "(Ljava/lang/String;)V"⟩ : MethodName)) rfl hown (mvT hZ (hw _ (List.mem_of_getElem? (i := 171) rfl))) (mvT hZ (hw _ (List.mem_of_getElem? (i := 172) rfl))) (mvT hZ (hw _ (List.mem_of_getElem? (i := 176) rfl))) (by decide) (backOfKL (W := 0) (rmThr l Z a0 hw a b u0 w0 h0 n0 Z0 hST SU rU SS rS E0 U0 F0ca F0st F0su F0ba F0de ga O0) hZ (hw _ (List.mem_of_getElem? (i := 176) rfl)) (hw _ (List.mem_of_getElem? (i := 175) rfl)) (by decide) (by decide) hK.1 hK.2) (g := (mkF m 2 #[.val (.ref a), .val (.ref b)] [(.ref b), (.ref a)])) rfl (by rw [hml]; rfl) (Steps.refl _) (a := a) (argsL := [(.ref b)]) (rest := []) (lenOf own_pd26 rfl) rfl (by show 2 * 0 + _ ≤ _; exact Nat.le_of_eq rfl) (hb hby own_d25) (fun _ _ => ⟨rfl, e0, (by decide : 0 + 1 ≤ _), (by decide : 0 + 2752 ≤ _)⟩)
  dsimp only [Pt.U, Pt.locs, Pt.cells, Pt.slots] at X69 l69 y69 z69 st69 hQ69
  subst l69 y69 z69
  obtain ⟨rfl, N69, K69, E69, Un69, Fc69, Fm69⟩ := hQ69
  refine GoOn.trans st69 ?_
  have N70 := Fr.app N0 N69
  have E71 : Exa Z T69.heap a "com/example/faktorwerk/faktorwerk/model/InputRefusedException" := E0.keep K69
  have O78 : Old Z n0 T69.heap := O0.keep K69 (allS ga all0)
  have Z79 : n0 ≤ T69.heap.size := Nat.le_trans Z0 K69.1
  have K80 : Keep h0 T69.heap [a] := K0a.trans K69 ((allS (Or.inl (by simp)) all0))
  show GoOn p e below (T69.setTop (mkF m 5 #[.val (.ref a), .val (.ref b)] [])) _
  refine GoOn.ret X69 Bd.notSynchronized (v := none) (fun _ => rfl) (fun fs hr => X69.returnOut hx Bd.returns (hb hby own_d27) hr) (by decide) (by decide) ?_
  exact ⟨rfl, N70, K80, E69, Un69, Fc69, Fm69⟩
set_option maxRecDepth 65536 in
set_option maxHeartbeats 40000000 in
theorem rmIRE (l : Launch) (Z : State) (a0 : Array Value) (hw : ∀ d ∈ tables_1, d.before a0 Z = true) (a b : Addr) (u0 w0 : Value) (h0 : Heap) (n0 : Nat) (Z0 : n0 ≤ h0.size) (hST : l.stackTraces = true) (SU : Sta Z Z.heap "java/lang/Throwable" "UNASSIGNED_STACK" "[Ljava/lang/StackTraceElement;" u0) (rU : u0.isRef = true) (SS : Sta Z Z.heap "java/lang/Throwable" "SUPPRESSED_SENTINEL" "Ljava/util/List;" w0) (rS : w0.isRef = true) (E0 : Exa Z h0 a "com/example/faktorwerk/faktorwerk/model/InputRefusedException") (U0 : Unt h0 a) (F0ca : Fld Z h0 a "java/lang/Throwable" "cause" "Ljava/lang/Throwable;" .null) (F0st : Fld Z h0 a "java/lang/Throwable" "stackTrace" "[Ljava/lang/StackTraceElement;" .null) (F0su : Fld Z h0 a "java/lang/Throwable" "suppressedExceptions" "Ljava/util/List;" .null) (F0ba : Fld Z h0 a "java/lang/Throwable" "backtrace" "Ljava/lang/Object;" .null) (F0de : Fld Z h0 a "java/lang/Throwable" "detailMessage" "Ljava/lang/String;" .null) (ga : n0 ≤ a) (O0 : Old Z n0 h0) :
    MetFree l (⟨"com/example/faktorwerk/faktorwerk/model/InputRefusedException", "<init>", "(Ljava/lang/String;)V"⟩ : MethodName) (head1 [Jvm.Cond.code (⟨"com/example/faktorwerk/faktorwerk/model/InputRefusedException", "<init>", "(Ljava/lang/String;)V"⟩ : MethodName) prog_52_method_1_code 2 none] ({ frames := 5, cells := 1, slots := 2752, locals := 68 } : Room)) (fun aa U => aa = #[(.ref a), (.ref b)] ∧ Z.Warmed39 U.vm ∧ U.heap = h0) (fun _ _ bl s _ => s.vm.MethodsKnown ∧ s.vm.FramesKnown bl) (fun _ U o U' => ∃ v L, o = .returned v ∧ QThr Z a b h0 n0 v U'.heap L ∧ FrameEnd U o U' L ({ frames := 5, cells := 1, slots := 2752, locals := 68 } : Room).cells ({ frames := 5, cells := 1, slots := 2752, locals := 68 } : Room).slots) := by
  refine MetFree.of_bodySF (plainFor_of_name own_pn29) hisR ?_
  intro p e s m args below meth c s₁ Bd hml0 hP hK
  obtain ⟨rfl, hZ, hh⟩ := hP
  have hx := Bd.exec
  have hby := Bd.bytes
  have hml : c.maxLocals = 2 := hml0
  have hown : s.vm.findClass "com/example/faktorwerk/faktorwerk/model/InputRefusedException" = some m.cls := findClass_of_methodNamed Bd.named
  have hnm := (name_of_methodNamed Bd.named Bd.method).1
  have X0 : Stand p l e ({ frames := 5, cells := 1, slots := 2752, locals := 68 } : Room) s m #[(.ref a), (.ref b)] below meth c s₁ [] 0 0 := Stand.of_body Bd
  have e0 : s₁.heap = h0 := by rw [← hh, Bd.state]; rfl
  have N0 := Fr.nil n0
  have K0 : Keep h0 h0 [] := Keep.refl _ _
  show GoOn p e below (s₁.setTop (entryFrame m #[(.ref a), (.ref b)] 2)) (PostN s (QThr Z a b h0 n0) ({ frames := 5, cells := 1, slots := 2752, locals := 68 } : Room).cells ({ frames := 5, cells := 1, slots := 2752, locals := 68 } : Room).slots)
  refine GoOn.step (fun tq kq => castTop (own_ef28 m a b) kq) ?_
  show GoOn p e below (s₁.setTop (mkF m 0 #[.val (.ref a), .val (.ref b)] [])) _
  have K0a : Keep h0 h0 [a] := Keep.refl _ _
  refine GoOn.step (fun tq kq => XS.aloadN X0.here hx rfl (hb hby own_d30) rfl rfl kq) ?_
  refine GoOn.step (fun tq kq => XS.aloadN X0.here hx rfl (hb hby own_d31) rfl rfl kq) ?_
  show GoOn p e below (s₁.setTop (mkF m 2 #[.val (.ref a), .val (.ref b)] [(.ref b), (.ref a)])) _
  obtain ⟨_, _, ⟨T81, L81, k81, n81⟩, -, X81, ⟨Lc81, hQ81, l81, y81, z81⟩, st81⟩ := X0.specialBack hx (y := (⟨"java/lang/Exception", "<init>", "(Ljava/lang/String;)V"⟩ : MethodName)) rfl hown (mvT hZ (hw _ (List.mem_of_getElem? (i := 166) rfl))) (mvT hZ (hw _ (List.mem_of_getElem? (i := 167) rfl))) (mvT hZ (hw _ (List.mem_of_getElem? (i := 170) rfl))) (by decide) (backOfKL (W := 0) (rmExc l Z a0 hw a b u0 w0 h0 n0 Z0 hST SU rU SS rS E0 U0 F0ca F0st F0su F0ba F0de ga O0) hZ (hw _ (List.mem_of_getElem? (i := 170) rfl)) (hw _ (List.mem_of_getElem? (i := 169) rfl)) (by decide) (by decide) hK.1 hK.2) (g := (mkF m 2 #[.val (.ref a), .val (.ref b)] [(.ref b), (.ref a)])) rfl (by rw [hml]; rfl) (Steps.refl _) (a := a) (argsL := [(.ref b)]) (rest := []) (lenOf own_pd26 rfl) rfl (by show 2 * 0 + _ ≤ _; exact Nat.le_of_eq rfl) (hb hby own_d32) (fun _ _ => ⟨rfl, e0, (by decide : 0 + 1 ≤ _), (by decide : 0 + 2752 ≤ _)⟩)
  dsimp only [Pt.U, Pt.locs, Pt.cells, Pt.slots] at X81 l81 y81 z81 st81 hQ81
  subst l81 y81 z81
  obtain ⟨rfl, N81, K81, E81, Un81, Fc81, Fm81⟩ := hQ81
  refine GoOn.trans st81 ?_
  have N82 := Fr.app N0 N81
  have E83 : Exa Z T81.heap a "com/example/faktorwerk/faktorwerk/model/InputRefusedException" := E0.keep K81
  have O90 : Old Z n0 T81.heap := O0.keep K81 (allS ga all0)
  have Z91 : n0 ≤ T81.heap.size := Nat.le_trans Z0 K81.1
  have K92 : Keep h0 T81.heap [a] := K0a.trans K81 ((allS (Or.inl (by simp)) all0))
  show GoOn p e below (T81.setTop (mkF m 5 #[.val (.ref a), .val (.ref b)] [])) _
  refine GoOn.ret X81 Bd.notSynchronized (v := none) (fun _ => rfl) (fun fs hr => X81.returnOut hx Bd.returns (hb hby own_d33) hr) (by decide) (by decide) ?_
  exact ⟨rfl, N82, K92, E81, Un81, Fc81, Fm81⟩
def QS0 (Z : State) (a : Addr) (h0 : Heap) (n0 : Nat) (v : Option Value) (h : Heap) (L : List Loc) : Prop := v = none ∧ Fr n0 L ∧ Keep h0 h [a] ∧ StrIs Z h a []
set_option maxRecDepth 65536 in
set_option maxHeartbeats 40000000 in
theorem rmS0b (l : Launch) (Z : State) (a0 : Array Value) (hw : ∀ d ∈ tables_1, d.before a0 Z = true) (a ca : Addr) (h0 : Heap) (n0 : Nat) (Z0 : n0 ≤ h0.size) (E0 : Exa Z h0 a "java/lang/String") (F0v : Fld Z h0 a "java/lang/String" "value" "[B" .null) (F0c : Fld Z h0 a "java/lang/String" "coder" "B" (.int (0 : Int32))) (ga : n0 ≤ a) :
    MetFree l (⟨"java/lang/String", "<init>", "([CIILjava/lang/Void;)V"⟩ : MethodName) (head1 [Jvm.Cond.code (⟨"java/lang/String", "<init>", "([CIILjava/lang/Void;)V"⟩ : MethodName) jdk_42_method_149_code 6 none] ({ frames := 1, cells := 4, slots := 8, locals := 12 } : Room)) (fun aa U => aa = #[(.ref a), (.ref ca), (.int (0 : Int32)), (.int (0 : Int32)), .null] ∧ Z.Warmed39 U.vm ∧ U.heap = h0 ∧ CHv Z own_EL U.vm h0) (fun _ _ _ _ _ => True) (fun _ U o U' => ∃ v L, o = .returned v ∧ QS0 Z a h0 n0 v U'.heap L ∧ CHr Z own_EL U.vm U.heap U'.vm U'.heap ∧ ReturnedEndW U o U' L ({ frames := 1, cells := 4, slots := 8, locals := 12 } : Room).cells ({ frames := 1, cells := 4, slots := 8, locals := 12 } : Room).slots) := by
  refine MetFree.of_bodySF (plainFor_of_name own_pn35) hisR ?_
  intro p e s m args below meth c s₁ Bd hml0 hP hK
  obtain ⟨rfl, hZ, hh, hCH⟩ := hP
  have hx := Bd.exec
  have hby := Bd.bytes
  have hml : c.maxLocals = 6 := hml0
  have hown : s.vm.findClass "java/lang/String" = some m.cls := findClass_of_methodNamed Bd.named
  have hnm := (name_of_methodNamed Bd.named Bd.method).1
  have X0 : Stand p l e ({ frames := 1, cells := 4, slots := 8, locals := 12 } : Room) s m #[(.ref a), (.ref ca), (.int (0 : Int32)), (.int (0 : Int32)), .null] below meth c s₁ [] 0 0 := Stand.of_body Bd
  have e0 : s₁.heap = h0 := by rw [← hh, Bd.state]; rfl
  have N0 := Fr.nil n0
  have K0 : Keep h0 h0 [] := Keep.refl _ _
  show GoOn p e below (s₁.setTop (entryFrame m #[(.ref a), (.ref ca), (.int (0 : Int32)), (.int (0 : Int32)), .null] 6)) (PostH Z own_EL s (QS0 Z a h0 n0) ({ frames := 1, cells := 4, slots := 8, locals := 12 } : Room).cells ({ frames := 1, cells := 4, slots := 8, locals := 12 } : Room).slots)
  refine GoOn.step (fun tq kq => castTop (own_ef34 m a ca (0 : Int32) (0 : Int32)) kq) ?_
  have hS0 : s.Since s.vm h0.size := (State.WarmedH.refl s).since _
  have hk0 : h0.size ≤ h0.size := Nat.le_refl _
  replace X0 : Stand p l e ({ frames := 1, cells := 4, slots := 8, locals := 12 } : Room) (s.setVm s.vm) m #[(.ref a), (.ref ca), (.int (0 : Int32)), (.int (0 : Int32)), .null] below meth c s₁ [] 0 0 := X0
  replace hZ : Z.Warmed39 (s.setVm s.vm).vm := hZ
  replace hown : (s.setVm s.vm).vm.findClass "java/lang/String" = some m.cls := hown
  have C0 : CHr Z own_EL s.vm h0 s.vm h0 := CHr.refl hCH
  have hEL : EW Z a0 own_EL := own_EW hw
  have wS : ∀ d ∈ Bundle.stringAtoms, d.before a0 Z = true := fun d hd => hw d (own_sa d hd)
  show GoOn p e below (s₁.setTop (mkF m 0 #[.val (.ref a), .val (.ref ca), .val (.int (0 : Int32)), .val (.int (0 : Int32)), .val .null, .unset] [])) _
  have K0a : Keep h0 h0 [a] := Keep.refl _ _
  have Sf93 : Safe Z own_EL s.vm h0 a := (Safe.ofNull hZ.alike E0 F0v)
  refine GoOn.step (fun tq kq => XS.aloadN X0.here hx rfl (hb hby own_d36) rfl rfl kq) ?_
  show GoOn p e below (s₁.setTop (mkF m 1 #[.val (.ref a), .val (.ref ca), .val (.int (0 : Int32)), .val (.int (0 : Int32)), .val .null, .unset] [(.ref a)])) _
  obtain ⟨T94, X94, e94, st94⟩ := initO X0 hx hZ hown (hw _ (List.mem_of_getElem? (i := 15) rfl)) (hw _ (List.mem_of_getElem? (i := 16) rfl)) (hw _ (List.mem_of_getElem? (i := 17) rfl)) e0 (g := (mkF m 1 #[.val (.ref a), .val (.ref ca), .val (.int (0 : Int32)), .val (.int (0 : Int32)), .val .null, .unset] [(.ref a)])) rfl (by rw [hml]; rfl) rfl (hb hby own_d37) (by decide) (W := 0) (by show 2 * 0 + _ ≤ _; exact Nat.le_of_eq rfl) (by decide)
  refine GoOn.step st94 ?_
  refine GoOn.step (fun tq kq => XS.iloadN X94.here hx rfl (hb hby own_d38) rfl kq) ?_
  refine GoOn.step (fun tq kq => XS.ifNo X94.here hx rfl (hb hby own_d39) rfl ((if0 _ _).trans (teq rfl).2) kq) ?_
  refine GoOn.step (fun tq kq => XS.aloadN X94.here hx rfl (hb hby own_d40) rfl rfl kq) ?_
  show GoOn p e below (T94.setTop (mkF m 9 #[.val (.ref a), .val (.ref ca), .val (.int (0 : Int32)), .val (.int (0 : Int32)), .val .null, .unset] [(.ref a)])) _
  obtain ⟨lt95, T95, h95, k195, lb95, kb95, X95, e95, Ex95, hS95, hk95, hZ95, hown95, El95, Flc95, Flv95, Al95, lla95, llb95, Cn95, Lt95, Ns95, st95⟩ := ldcCH X94 hx hZ hown (hw _ (List.mem_of_getElem? (i := 18) rfl)) wS e94 hS0 hk0 hEL (by decide) C0.1 (vs := []) (z := (0 : Int32)) (by decide) (by decide) (by decide) (g := (mkF m 9 #[.val (.ref a), .val (.ref ca), .val (.int (0 : Int32)), .val (.int (0 : Int32)), .val .null, .unset] [(.ref a)])) rfl (hb hby own_d41) (n := 0) (by decide) (by decide) (by decide) (by decide)
  have Kx95 : Keep h0 h95 [] := (Keep.refl _ _).ext Ex95
  refine GoOn.step st95 ?_
  have E96 : Exa Z h95 a "java/lang/String" := E0.keep Kx95
  have F97 : Fld Z h95 a "java/lang/String" "value" "[B" .null := F0v.keep Kx95 nin0
  have F98 : Fld Z h95 a "java/lang/String" "coder" "B" (.int (0 : Int32)) := F0c.keep Kx95 nin0
  have Z99 : n0 ≤ h95.size := Nat.le_trans Z0 Kx95.1
  have C100 : CHr Z own_EL s.vm h0 T95.vm h95 := CHr.trans C0 Cn95
  have K101 : Keep h0 h95 [a] := K0a.trans Kx95 all0
  have Sf102 : Safe Z own_EL T95.vm h95 a := CHr.safe Cn95 E0.lt Sf93
  have ne103 : a ≠ lt95 := (Ns95 _ Sf102).1
  have ne104 : a ≠ lb95 := (Ns95 _ Sf102).2
  show GoOn p e below (T95.setTop (mkF m 11 #[.val (.ref a), .val (.ref ca), .val (.int (0 : Int32)), .val (.int (0 : Int32)), .val .null, .unset] [(.ref lt95), (.ref a)])) _
  obtain ⟨T105, X105, e105, st105⟩ := getF X95 hx hZ95 hown95 (host := "") (Or.inl (hw _ (List.mem_of_getElem? (i := 24) rfl))) Via.refl e95 Flv95 (g := (mkF m 11 #[.val (.ref a), .val (.ref ca), .val (.int (0 : Int32)), .val (.int (0 : Int32)), .val .null, .unset] [(.ref lt95), (.ref a)])) rfl rfl (hb hby own_d42)
  refine GoOn.step st105 ?_
  show GoOn p e below (T105.setTop (mkF m 14 #[.val (.ref a), .val (.ref ca), .val (.int (0 : Int32)), .val (.int (0 : Int32)), .val .null, .unset] [(.ref lb95), (.ref a)])) _
  obtain ⟨T106, h106, X106, e106, W106, st106⟩ := putF X105 hx hZ95 hown95 (host := "") (Or.inl (hw _ (List.mem_of_getElem? (i := 24) rfl))) Via.refl e105 F97 E96 (Or.inr ⟨(hw _ (List.mem_of_getElem? (i := 20) rfl)), rfl, hnm⟩) (hw _ (List.mem_of_getElem? (i := 5) rfl)) (ty := (.array .byte)) (by decide) rfl rfl (g := (mkF m 14 #[.val (.ref a), .val (.ref ca), .val (.int (0 : Int32)), .val (.int (0 : Int32)), .val .null, .unset] [(.ref lb95), (.ref a)])) rfl rfl (hb hby own_d43)
  have N107 := Fr.snoc X106 N0 ga
  have Kx106 : Keep h95 h106 [a] := Keep.of_wr W106
  have F108 : Fld Z h106 a "java/lang/String" "value" "[B" (.ref lb95) := F97.same W106
  have F109 : Fld Z h106 a "java/lang/String" "coder" "B" (.int (0 : Int32)) := F98.other W106 (Or.inr (slot_ne (a0 := a0) (Or.inr (hw _ (List.mem_of_getElem? (i := 21) rfl))) (Or.inr (hw _ (List.mem_of_getElem? (i := 20) rfl))) (by decide) (t := .byte) (t' := (.array .byte)) (by decide) (by decide)))
  refine GoOn.step st106 ?_
  have E110 : Exa Z h106 a "java/lang/String" := E96.keep Kx106
  have Z113 : n0 ≤ h106.size := Nat.le_trans Z99 Kx106.1
  have C114 : CHr Z own_EL s.vm h0 T95.vm h106 := CHr.trans C100 (CHr.keep Kx106 (allS Sf102 all0) C100.1)
  have K115 : Keep h0 h106 [a] := K101.trans Kx106 ((allS (Or.inl (by simp)) all0))
  have Sf116 : Safe Z own_EL T95.vm h106 a := Safe.keep Kx106 (allS Sf102 all0) C100.1 Sf102
  have E117 : Exa Z h106 lt95 "java/lang/String" := El95.keep Kx106
  have F118 : Fld Z h106 lt95 "java/lang/String" "coder" "B" (.int 0) := Flc95.keep Kx106 (ninS (Ne.symm ne103) nin0)
  have F119 : Fld Z h106 lt95 "java/lang/String" "value" "[B" (.ref lb95) := Flv95.keep Kx106 (ninS (Ne.symm ne103) nin0)
  have V120 : Arv Z h106 lb95 kb95 .byte (0 : Int32) [] (.int 0) := Al95.keep Kx106 (ninS (Ne.symm ne104) nin0)
  have hk121 := Nat.le_trans hk95 Kx106.1
  refine GoOn.step (fun tq kq => XS.aloadN X106.here hx rfl (hb hby own_d44) rfl rfl kq) ?_
  show GoOn p e below (T106.setTop (mkF m 18 #[.val (.ref a), .val (.ref ca), .val (.int (0 : Int32)), .val (.int (0 : Int32)), .val .null, .unset] [(.ref a)])) _
  obtain ⟨lt122, T122, h122, k1122, lb122, kb122, X122, e122, Ex122, hS122, hk122, hZ122, hown122, El122, Flc122, Flv122, Al122, lla122, llb122, Cn122, Lt122, Ns122, st122⟩ := ldcCH X106 hx hZ95 hown95 (hw _ (List.mem_of_getElem? (i := 18) rfl)) wS e106 hS95 hk121 hEL (by decide) C114.1 (vs := []) (z := (0 : Int32)) (by decide) (by decide) (by decide) (g := (mkF m 18 #[.val (.ref a), .val (.ref ca), .val (.int (0 : Int32)), .val (.int (0 : Int32)), .val .null, .unset] [(.ref a)])) rfl (hb hby own_d45) (n := 0) (by decide) (by decide) (by decide) (by decide)
  have Kx122 : Keep h106 h122 [] := (Keep.refl _ _).ext Ex122
  refine GoOn.step st122 ?_
  have E123 : Exa Z h122 a "java/lang/String" := E110.keep Kx122
  have Z124 : n0 ≤ h122.size := Nat.le_trans Z113 Kx122.1
  have C125 : CHr Z own_EL s.vm h0 T122.vm h122 := CHr.trans C114 Cn122
  have K126 : Keep h0 h122 [a] := K115.trans Kx122 all0
  have Sf127 : Safe Z own_EL T122.vm h122 a := CHr.safe Cn122 E110.lt Sf116
  have E128 : Exa Z h122 lt95 "java/lang/String" := E117.keep Kx122
  have F129 : Fld Z h122 lt95 "java/lang/String" "coder" "B" (.int 0) := F118.keep Kx122 nin0
  have F130 : Fld Z h122 lt95 "java/lang/String" "value" "[B" (.ref lb95) := F119.keep Kx122 nin0
  have V131 : Arv Z h122 lb95 kb95 .byte (0 : Int32) [] (.int 0) := V120.keep Kx122 nin0
  have F132 : Fld Z h122 a "java/lang/String" "value" "[B" (.ref lb95) := F108.keep Kx122 nin0
  have F133 : Fld Z h122 a "java/lang/String" "coder" "B" (.int (0 : Int32)) := F109.keep Kx122 nin0
  have ne134 : a ≠ lt122 := (Ns122 _ Sf127).1
  have ne135 : a ≠ lb122 := (Ns122 _ Sf127).2
  show GoOn p e below (T122.setTop (mkF m 20 #[.val (.ref a), .val (.ref ca), .val (.int (0 : Int32)), .val (.int (0 : Int32)), .val .null, .unset] [(.ref lt122), (.ref a)])) _
  obtain ⟨T136, X136, e136, st136⟩ := getF X122 hx hZ122 hown122 (host := "") (Or.inl (hw _ (List.mem_of_getElem? (i := 25) rfl))) Via.refl e122 Flc122 (g := (mkF m 20 #[.val (.ref a), .val (.ref ca), .val (.int (0 : Int32)), .val (.int (0 : Int32)), .val .null, .unset] [(.ref lt122), (.ref a)])) rfl rfl (hb hby own_d46)
  refine GoOn.step st136 ?_
  show GoOn p e below (T136.setTop (mkF m 23 #[.val (.ref a), .val (.ref ca), .val (.int (0 : Int32)), .val (.int (0 : Int32)), .val .null, .unset] [(.int 0), (.ref a)])) _
  obtain ⟨T137, h137, X137, e137, W137, st137⟩ := putFN X136 hx hZ122 hown122 (hw _ (List.mem_of_getElem? (i := 25) rfl)) Via.refl e136 F133 E123 (Or.inr ⟨(hw _ (List.mem_of_getElem? (i := 21) rfl)), rfl, hnm⟩) (hw _ (List.mem_of_getElem? (i := 5) rfl)) (ty := .byte) (v' := (.int (nar .byte 0))) (by decide) rfl (fits_nar_byte _) (g := (mkF m 23 #[.val (.ref a), .val (.ref ca), .val (.int (0 : Int32)), .val (.int (0 : Int32)), .val .null, .unset] [(.int 0), (.ref a)])) rfl rfl (hb hby own_d47)
  have N138 := Fr.snoc X137 N107 ga
  have Kx137 : Keep h122 h137 [a] := Keep.of_wr W137
  have F139 : Fld Z h137 a "java/lang/String" "coder" "B" (.int (nar .byte 0)) := F133.same W137
  have F140 : Fld Z h137 a "java/lang/String" "value" "[B" (.ref lb95) := F132.other W137 (Or.inr (slot_ne (a0 := a0) (Or.inr (hw _ (List.mem_of_getElem? (i := 20) rfl))) (Or.inr (hw _ (List.mem_of_getElem? (i := 21) rfl))) (by decide) (t := (.array .byte)) (t' := .byte) (by decide) (by decide)))
  refine GoOn.step st137 ?_
  have E141 : Exa Z h137 a "java/lang/String" := E123.keep Kx137
  have Z142 : n0 ≤ h137.size := Nat.le_trans Z124 Kx137.1
  have C143 : CHr Z own_EL s.vm h0 T122.vm h137 := CHr.trans C125 (CHr.keep Kx137 (allS Sf127 all0) C125.1)
  have K144 : Keep h0 h137 [a] := K126.trans Kx137 ((allS (Or.inl (by simp)) all0))
  have Sf145 : Safe Z own_EL T122.vm h137 a := Safe.keep Kx137 (allS Sf127 all0) C125.1 Sf127
  have E146 : Exa Z h137 lt95 "java/lang/String" := E128.keep Kx137
  have F147 : Fld Z h137 lt95 "java/lang/String" "coder" "B" (.int 0) := F129.keep Kx137 (ninS (Ne.symm ne103) nin0)
  have F148 : Fld Z h137 lt95 "java/lang/String" "value" "[B" (.ref lb95) := F130.keep Kx137 (ninS (Ne.symm ne103) nin0)
  have V149 : Arv Z h137 lb95 kb95 .byte (0 : Int32) [] (.int 0) := V131.keep Kx137 (ninS (Ne.symm ne104) nin0)
  have E152 : Exa Z h137 lt122 "java/lang/String" := El122.keep Kx137
  have F153 : Fld Z h137 lt122 "java/lang/String" "coder" "B" (.int 0) := Flc122.keep Kx137 (ninS (Ne.symm ne134) nin0)
  have F154 : Fld Z h137 lt122 "java/lang/String" "value" "[B" (.ref lb122) := Flv122.keep Kx137 (ninS (Ne.symm ne134) nin0)
  have V155 : Arv Z h137 lb122 kb122 .byte (0 : Int32) [] (.int 0) := Al122.keep Kx137 (ninS (Ne.symm ne135) nin0)
  have hk156 := Nat.le_trans hk122 Kx137.1
  show GoOn p e below (T137.setTop (mkF m 26 #[.val (.ref a), .val (.ref ca), .val (.int (0 : Int32)), .val (.int (0 : Int32)), .val .null, .unset] [])) _
  refine GoOn.retH X137 hZ122 hS122 (hk156) hEL hh e137 C143 Bd.notSynchronized (v := none) (fun _ => rfl) (fun fs hr => X137.returnOut hx Bd.returns (hb hby own_d48) hr) (by decide) (by decide) ?_
  exact ⟨rfl, N138, K144, E141, F139, (fun c hc => by cases hc), (Nat.le_of_ble_eq_true rfl), lb95, kb95, F140, V149⟩
set_option maxRecDepth 65536 in
set_option maxHeartbeats 40000000 in
theorem rmS0 (l : Launch) (Z : State) (a0 : Array Value) (hw : ∀ d ∈ tables_1, d.before a0 Z = true) (a ca : Addr) (kc : ClassId) (h0 : Heap) (n0 : Nat) (Z0 : n0 ≤ h0.size) (E0 : Exa Z h0 a "java/lang/String") (F0v : Fld Z h0 a "java/lang/String" "value" "[B" .null) (F0c : Fld Z h0 a "java/lang/String" "coder" "B" (.int (0 : Int32))) (ga : n0 ≤ a) (V0 : Arv Z h0 ca kc .char (0 : Int32) [] (.int (0 : Int32))) (nac : a ≠ ca) :
    MetFree l (⟨"java/lang/String", "<init>", "([C)V"⟩ : MethodName) (head1 [Jvm.Cond.code (⟨"java/lang/String", "<init>", "([C)V"⟩ : MethodName) jdk_42_method_3_code 2 none] ({ frames := 2, cells := 4, slots := 8, locals := 29 } : Room)) (fun aa U => aa = #[(.ref a), (.ref ca)] ∧ Z.Warmed39 U.vm ∧ U.heap = h0 ∧ CHv Z own_EL U.vm h0) (fun _ _ _ _ _ => True) (fun _ U o U' => ∃ v L, o = .returned v ∧ QS0 Z a h0 n0 v U'.heap L ∧ CHr Z own_EL U.vm U.heap U'.vm U'.heap ∧ ReturnedEndW U o U' L ({ frames := 2, cells := 4, slots := 8, locals := 29 } : Room).cells ({ frames := 2, cells := 4, slots := 8, locals := 29 } : Room).slots) := by
  refine MetFree.of_bodySF (plainFor_of_name own_pn35) hisR ?_
  intro p e s m args below meth c s₁ Bd hml0 hP hK
  obtain ⟨rfl, hZ, hh, hCH⟩ := hP
  have hx := Bd.exec
  have hby := Bd.bytes
  have hml : c.maxLocals = 2 := hml0
  have hown : s.vm.findClass "java/lang/String" = some m.cls := findClass_of_methodNamed Bd.named
  have hnm := (name_of_methodNamed Bd.named Bd.method).1
  have X0 : Stand p l e ({ frames := 2, cells := 4, slots := 8, locals := 29 } : Room) s m #[(.ref a), (.ref ca)] below meth c s₁ [] 0 0 := Stand.of_body Bd
  have e0 : s₁.heap = h0 := by rw [← hh, Bd.state]; rfl
  have N0 := Fr.nil n0
  have K0 : Keep h0 h0 [] := Keep.refl _ _
  show GoOn p e below (s₁.setTop (entryFrame m #[(.ref a), (.ref ca)] 2)) (PostH Z own_EL s (QS0 Z a h0 n0) ({ frames := 2, cells := 4, slots := 8, locals := 29 } : Room).cells ({ frames := 2, cells := 4, slots := 8, locals := 29 } : Room).slots)
  refine GoOn.step (fun tq kq => castTop (own_ef49 m a ca) kq) ?_
  have hS0 : s.Since s.vm h0.size := (State.WarmedH.refl s).since _
  have hk0 : h0.size ≤ h0.size := Nat.le_refl _
  replace X0 : Stand p l e ({ frames := 2, cells := 4, slots := 8, locals := 29 } : Room) (s.setVm s.vm) m #[(.ref a), (.ref ca)] below meth c s₁ [] 0 0 := X0
  replace hZ : Z.Warmed39 (s.setVm s.vm).vm := hZ
  replace hown : (s.setVm s.vm).vm.findClass "java/lang/String" = some m.cls := hown
  have C0 : CHr Z own_EL s.vm h0 s.vm h0 := CHr.refl hCH
  have hEL : EW Z a0 own_EL := own_EW hw
  have wS : ∀ d ∈ Bundle.stringAtoms, d.before a0 Z = true := fun d hd => hw d (own_sa d hd)
  show GoOn p e below (s₁.setTop (mkF m 0 #[.val (.ref a), .val (.ref ca)] [])) _
  have K0a : Keep h0 h0 [a] := Keep.refl _ _
  refine GoOn.step (fun tq kq => XS.aloadN X0.here hx rfl (hb hby own_d50) rfl rfl kq) ?_
  refine GoOn.step (fun tq kq => XS.aloadN X0.here hx rfl (hb hby own_d51) rfl rfl kq) ?_
  refine GoOn.step (fun tq kq => XS.iconst X0.here hx rfl (hb hby own_d52) kq) ?_
  refine GoOn.step (fun tq kq => XS.aloadN X0.here hx rfl (hb hby own_d53) rfl rfl kq) ?_
  refine GoOn.step (fun tq kq => alenA X0 hx hZ e0 V0 (g := (mkF m 4 #[.val (.ref a), .val (.ref ca)] [(.ref ca), (.int (0 : Int32)), (.ref ca), (.ref a)])) rfl rfl (hb hby own_d54) _ kq) ?_
  refine GoOn.step (fun tq kq => XS.aconstNull X0.here hx rfl (hb hby own_d55) kq) ?_
  show GoOn p e below (s₁.setTop (mkF m 6 #[.val (.ref a), .val (.ref ca)] [.null, (.int (0 : Int32)), (.int (0 : Int32)), (.ref ca), (.ref a)])) _
  obtain ⟨_, _, ⟨T157, L157, k157, n157⟩, -, X157, hS157, hg157, ⟨Lc157, hQ157, l157, y157, z157, Cn157⟩, st157⟩ := X0.specialBackS hx (y := (⟨"java/lang/String", "<init>", "([CIILjava/lang/Void;)V"⟩ : MethodName)) rfl hown (mvT hZ (hw _ (List.mem_of_getElem? (i := 11) rfl))) (mvT hZ (hw _ (List.mem_of_getElem? (i := 12) rfl))) (mvT hZ (hw _ (List.mem_of_getElem? (i := 14) rfl))) (by decide) (backOfSH (W := 0) (rmS0b l Z a0 hw a ca h0 n0 Z0 E0 F0v F0c ga) hZ (hw _ (List.mem_of_getElem? (i := 14) rfl)) (hw _ (List.mem_of_getElem? (i := 6) rfl)) (by decide) (by decide) hEL C0.1) (g := (mkF m 6 #[.val (.ref a), .val (.ref ca)] [.null, (.int (0 : Int32)), (.int (0 : Int32)), (.ref ca), (.ref a)])) rfl (by rw [hml]; rfl) (Steps.refl _) (a := a) (argsL := [(.ref ca), (.int (0 : Int32)), (.int (0 : Int32)), .null]) (rest := []) (lenOf own_pd57 rfl) rfl (by show 2 * 0 + _ ≤ _; exact Nat.le_of_eq rfl) (hb hby own_d56) (fun _ _ => ⟨rfl, e0, (by decide : 0 + 4 ≤ _), (by decide : 0 + 8 ≤ _)⟩)
  dsimp only [Pt.U, Pt.locs, Pt.cells, Pt.slots] at X157 l157 y157 z157 st157 hQ157 hS157 hg157 Cn157
  subst l157 y157 z157
  obtain ⟨rfl, N157, K157, S157⟩ := hQ157
  refine GoOn.trans st157 ?_
  replace X157 : Stand p l e _ (s.setVm T157.vm) m _ below meth c T157 _ _ _ := X157
  have hZ157 : Z.Warmed39 (s.setVm T157.vm).vm := State.Warmed39.trans (t := (s.setVm s.vm)) hZ hS157.1
  have hown157 : (s.setVm T157.vm).vm.findClass "java/lang/String" = some m.cls := by rw [show (s.setVm T157.vm).vm = T157.vm from rfl, hS157.1.alike.findClass]; exact hown
  have hSn157 : s.Since T157.vm T157.heap.size := foldS hS0 (by rw [e0]; exact hk0) hS157 hg157
  have hk157 : T157.heap.size ≤ T157.heap.size := Nat.le_refl _
  have N158 := Fr.app N0 N157
  have E159 : Exa Z T157.heap a "java/lang/String" := E0.keep K157
  have V162 : Arv Z T157.heap ca kc .char (0 : Int32) [] (.int (0 : Int32)) := V0.keep K157 (ninS (Ne.symm nac) nin0)
  have Z163 : n0 ≤ T157.heap.size := Nat.le_trans Z0 K157.1
  have C164 : CHr Z own_EL s.vm h0 T157.vm T157.heap := CHr.trans C0 Cn157
  have K165 : Keep h0 T157.heap [a] := K0a.trans K157 ((allS (Or.inl (by simp)) all0))
  show GoOn p e below (T157.setTop (mkF m 9 #[.val (.ref a), .val (.ref ca)] [])) _
  refine GoOn.retH X157 hZ157 hSn157 (hk157) hEL hh rfl C164 Bd.notSynchronized (v := none) (fun _ => rfl) (fun fs hr => X157.returnOut hx Bd.returns (hb hby own_d58) hr) (by decide) (by decide) ?_
  exact ⟨rfl, N158, K165, S157⟩
set_option maxRecDepth 65536 in
set_option maxHeartbeats 40000000 in
theorem rmCanEnc (l : Launch) (Z : State) (a0 : Array Value) (hw : ∀ d ∈ tables_1, d.before a0 Z = true) (x : Int32) (h0 : Heap) (n0 : Nat) (Z0 : n0 ≤ h0.size) (hx1 : ¬ x < 0) (hx2 : ¬ (255 : Int32) < x) :
    MetFree l (⟨"java/lang/StringLatin1", "canEncode", "(C)Z"⟩ : MethodName) (head1 [Jvm.Cond.code (⟨"java/lang/StringLatin1", "canEncode", "(C)Z"⟩ : MethodName) jdk_43_method_3_code 1 (some .boolean)] ({ frames := 0, cells := 0, slots := 0, locals := 0 } : Room)) (fun aa U => aa = #[(.int x)] ∧ Z.Warmed39 U.vm ∧ U.heap = h0) (fun _ _ _ _ _ => True) (fun _ U o U' => ∃ v L, o = .returned v ∧ QSame (.int 1) h0 n0 v U'.heap L ∧ FrameEnd U o U' L ({ frames := 0, cells := 0, slots := 0, locals := 0 } : Room).cells ({ frames := 0, cells := 0, slots := 0, locals := 0 } : Room).slots) := by
  refine MetFree.of_bodySF (plainFor_of_name own_pn60) hisR ?_
  intro p e s m args below meth c s₁ Bd hml0 hP hK
  obtain ⟨rfl, hZ, hh⟩ := hP
  have hx := Bd.exec
  have hby := Bd.bytes
  have hml : c.maxLocals = 1 := hml0
  have hown : s.vm.findClass "java/lang/StringLatin1" = some m.cls := findClass_of_methodNamed Bd.named
  have hnm := (name_of_methodNamed Bd.named Bd.method).1
  have X0 : Stand p l e ({ frames := 0, cells := 0, slots := 0, locals := 0 } : Room) s m #[(.int x)] below meth c s₁ [] 0 0 := Stand.of_body Bd
  have e0 : s₁.heap = h0 := by rw [← hh, Bd.state]; rfl
  have N0 := Fr.nil n0
  have K0 : Keep h0 h0 [] := Keep.refl _ _
  show GoOn p e below (s₁.setTop (entryFrame m #[(.int x)] 1)) (PostN s (QSame (.int 1) h0 n0) ({ frames := 0, cells := 0, slots := 0, locals := 0 } : Room).cells ({ frames := 0, cells := 0, slots := 0, locals := 0 } : Room).slots)
  refine GoOn.step (fun tq kq => castTop (own_ef59 m x) kq) ?_
  refine GoOn.step (fun tq kq => XS.iloadN X0.here hx rfl (hb hby own_d61) rfl kq) ?_
  refine GoOn.step (fun tq kq => XS.sipush X0.here hx rfl (hb hby own_d62) kq) ?_
  refine GoOn.step (fun tq kq => XS.icmpNo X0.here hx rfl (hb hby own_d63) rfl (flt hx2).2.2.1 kq) ?_
  refine GoOn.step (fun tq kq => XS.iconst X0.here hx rfl (hb hby own_d64) kq) ?_
  refine GoOn.step (fun tq kq => XS.goto X0.here hx rfl (pc0 := 8) (pc' := 12) rfl (hb hby own_d65) (by decide) (by decide) kq) ?_
  show GoOn p e below (s₁.setTop (mkF m 12 #[.val (.int x)] [(.int (1 : Int32))])) _
  refine GoOn.ret X0 Bd.notSynchronized (v := some (.int (nar .boolean (1 : Int32)))) (fun h => by rw [Bd.returns] at h; cases h) (fun fs hr => retN X0 hx (t := .boolean) Bd.returns (by simp) (hb hby own_d66) hr) (by decide) (by decide) ?_
  rw [e0]
  exact ⟨rfl, N0, rfl⟩
theorem nar_byte2 (x : Int32) : nar .byte (x.toInt8.toInt32) = x.toInt8.toInt32 := by simp [nar]
def QToB (Z : State) (x : Int32) (h0 : Heap) (n0 : Nat) (v : Option Value) (h : Heap) (L : List Loc) : Prop := ∃ (t : Addr) (kb : ClassId), v = some (.ref t) ∧ Fr n0 L ∧ Keep h0 h [] ∧ h0.size ≤ t ∧ Arv Z h t kb .byte (1 : Int32) [(.int (x.toInt8.toInt32))] (.int 0)
set_option maxRecDepth 65536 in
set_option maxHeartbeats 40000000 in
theorem rmToB (l : Launch) (Z : State) (a0 : Array Value) (hw : ∀ d ∈ tables_1, d.before a0 Z = true) (x : Int32) (h0 : Heap) (n0 : Nat) (Z0 : n0 ≤ h0.size) :
    MetFree l (⟨"java/lang/StringLatin1", "toBytes", "(C)[B"⟩ : MethodName) (head1 [Jvm.Cond.code (⟨"java/lang/StringLatin1", "toBytes", "(C)[B"⟩ : MethodName) jdk_43_method_46_code 1 (some (.array .byte))] ({ frames := 0, cells := 1, slots := 1, locals := 0 } : Room)) (fun aa U => aa = #[(.int x)] ∧ Z.Warmed39 U.vm ∧ U.heap = h0) (fun _ _ _ _ _ => True) (fun _ U o U' => ∃ v L, o = .returned v ∧ QToB Z x h0 n0 v U'.heap L ∧ FrameEnd U o U' L ({ frames := 0, cells := 1, slots := 1, locals := 0 } : Room).cells ({ frames := 0, cells := 1, slots := 1, locals := 0 } : Room).slots) := by
  refine MetFree.of_bodySF (plainFor_of_name own_pn60) hisR ?_
  intro p e s m args below meth c s₁ Bd hml0 hP hK
  obtain ⟨rfl, hZ, hh⟩ := hP
  have hx := Bd.exec
  have hby := Bd.bytes
  have hml : c.maxLocals = 1 := hml0
  have hown : s.vm.findClass "java/lang/StringLatin1" = some m.cls := findClass_of_methodNamed Bd.named
  have hnm := (name_of_methodNamed Bd.named Bd.method).1
  have X0 : Stand p l e ({ frames := 0, cells := 1, slots := 1, locals := 0 } : Room) s m #[(.int x)] below meth c s₁ [] 0 0 := Stand.of_body Bd
  have e0 : s₁.heap = h0 := by rw [← hh, Bd.state]; rfl
  have N0 := Fr.nil n0
  have K0 : Keep h0 h0 [] := Keep.refl _ _
  show GoOn p e below (s₁.setTop (entryFrame m #[(.int x)] 1)) (PostN s (QToB Z x h0 n0) ({ frames := 0, cells := 1, slots := 1, locals := 0 } : Room).cells ({ frames := 0, cells := 1, slots := 1, locals := 0 } : Room).slots)
  refine GoOn.step (fun tq kq => castTop (own_ef67 m x) kq) ?_
  refine GoOn.step (fun tq kq => XS.iconst X0.here hx rfl (hb hby own_d68) kq) ?_
  show GoOn p e below (s₁.setTop (mkF m 1 #[.val (.int x)] [(.int (1 : Int32))])) _
  obtain ⟨T166, h166, k166, X166, e166, Ex166, A166, st166⟩ := newP X0 hx hZ (hw _ (List.mem_of_getElem? (i := 19) rfl)) e0 (g := (mkF m 1 #[.val (.int x)] [(.int (1 : Int32))])) rfl (hb hby own_d69) rfl (by decide) (cap := 1) (by decide) (by decide) (by decide) (by decide)
  obtain ⟨t, g166⟩ : ∃ z, z = h0.size := ⟨_, rfl⟩
  rw [← g166] at A166 st166
  have gn167 : n0 ≤ t := Nat.le_trans Z0 (Nat.le_of_eq g166.symm)
  have sz168 : h0.size ≤ t := Nat.le_trans K0.1 (Nat.le_of_eq g166.symm)
  have Kx166 : Keep h0 h166 [] := (Keep.refl _ _).ext Ex166
  refine GoOn.step st166 ?_
  have Z169 : n0 ≤ h166.size := Nat.le_trans Z0 Kx166.1
  have K170 : Keep h0 h166 [] := K0.trans Kx166 (all0)
  have V171 : Arv Z h166 t k166 .byte (1 : Int32) [] (.int (0 : Int32)) := Arv.new A166 (by decide)
  refine GoOn.step (fun tq kq => XS.dup X166.here hx rfl (hb hby own_d70) rfl rfl kq) ?_
  refine GoOn.step (fun tq kq => XS.iconst X166.here hx rfl (hb hby own_d71) kq) ?_
  refine GoOn.step (fun tq kq => XS.iloadN X166.here hx rfl (hb hby own_d72) rfl kq) ?_
  refine GoOn.step (fun tq kq => XS.i2b X166.here hx rfl (hb hby own_d73) rfl kq) ?_
  show GoOn p e below (T166.setTop (mkF m 7 #[.val (.int x)] [(.int ((x).toInt8.toInt32)), (.int (0 : Int32)), (.ref t), (.ref t)])) _
  have V173 : Arv Z h166 t k166 .byte (1 : Int32) [(.int (0 : Int32))] (.int (0 : Int32)) := V171.pad (pad_rep [] (.int (0 : Int32)) 1)
  obtain ⟨cq174, Aq174, qq174, Sq174, Mq174, Hq174, Uq174⟩ := id V173
  obtain ⟨T172, h172, X172, e172, W172, st172⟩ := stB X166 hx hZ e166 Aq174 (j := (0 : Int32)) (inb_of Sq174 ⟨(by decide : ¬ ((0 : Int32) < (0 : Int32))), (by decide : (0 : Int32) < (1 : Int32))⟩) (g := (mkF m 7 #[.val (.int x)] [(.int ((x).toInt8.toInt32)), (.int (0 : Int32)), (.ref t), (.ref t)])) rfl rfl (hb hby own_d74)
  have N175 := Fr.snoc X172 N0 gn167
  have V176 : Arv Z h172 t k166 .byte (1 : Int32) [(.int (nar .byte ((x).toInt8.toInt32)))] (.int (0 : Int32)) := Arv.set Aq174 qq174 Sq174 Mq174 Hq174 Uq174 (fits_nar_byte _) W172 0 rfl (Nat.le_of_ble_eq_true rfl)
  have Kx172 : Keep h166 h172 [t] := Keep.of_wr W172
  refine GoOn.step st172 ?_
  have Z177 : n0 ≤ h172.size := Nat.le_trans Z169 Kx172.1
  have K178 : Keep h0 h172 [] := K170.trans Kx172 ((allS (Or.inr sz168) all0))
  show GoOn p e below (T172.setTop (mkF m 8 #[.val (.int x)] [(.ref t)])) _
  rw [nar_byte2] at V176
  refine GoOn.ret X172 Bd.notSynchronized (v := some (.ref t)) (fun h => by rw [Bd.returns] at h; cases h) (fun fs hr => retOut X172 hx Bd.returns rfl (Or.inr (Or.inr (Or.inr (Or.inr ⟨rfl, rfl, rfl⟩)))) (hb hby own_d75) hr) (by decide) (by decide) ?_
  rw [e172]
  exact ⟨t, _, rfl, N175, K178, sz168, V176⟩
def QIBB (Z : State) (a t : Addr) (h0 : Heap) (n0 : Nat) (v : Option Value) (h : Heap) (L : List Loc) : Prop := v = none ∧ Fr n0 L ∧ Keep h0 h [a] ∧ Exa Z h a "java/lang/String" ∧ Fld Z h a "java/lang/String" "value" "[B" (.ref t) ∧ Fld Z h a "java/lang/String" "coder" "B" (.int 0)
set_option maxRecDepth 65536 in
set_option maxHeartbeats 40000000 in
theorem rmIBB (l : Launch) (Z : State) (a0 : Array Value) (hw : ∀ d ∈ tables_1, d.before a0 Z = true) (a t : Addr) (h0 : Heap) (n0 : Nat) (Z0 : n0 ≤ h0.size) (E0 : Exa Z h0 a "java/lang/String") (F0v : Fld Z h0 a "java/lang/String" "value" "[B" .null) (F0c : Fld Z h0 a "java/lang/String" "coder" "B" (.int (0 : Int32))) (ga : n0 ≤ a) :
    MetFree l (⟨"java/lang/String", "<init>", "([BB)V"⟩ : MethodName) (head1 [Jvm.Cond.code (⟨"java/lang/String", "<init>", "([BB)V"⟩ : MethodName) jdk_42_method_151_code 3 none] ({ frames := 1, cells := 0, slots := 0, locals := 12 } : Room)) (fun aa U => aa = #[(.ref a), (.ref t), (.int (0 : Int32))] ∧ Z.Warmed39 U.vm ∧ U.heap = h0) (fun _ _ _ _ _ => True) (fun _ U o U' => ∃ v L, o = .returned v ∧ QIBB Z a t h0 n0 v U'.heap L ∧ FrameEnd U o U' L ({ frames := 1, cells := 0, slots := 0, locals := 12 } : Room).cells ({ frames := 1, cells := 0, slots := 0, locals := 12 } : Room).slots) := by
  refine MetFree.of_bodySF (plainFor_of_name own_pn35) hisR ?_
  intro p e s m args below meth c s₁ Bd hml0 hP hK
  obtain ⟨rfl, hZ, hh⟩ := hP
  have hx := Bd.exec
  have hby := Bd.bytes
  have hml : c.maxLocals = 3 := hml0
  have hown : s.vm.findClass "java/lang/String" = some m.cls := findClass_of_methodNamed Bd.named
  have hnm := (name_of_methodNamed Bd.named Bd.method).1
  have X0 : Stand p l e ({ frames := 1, cells := 0, slots := 0, locals := 12 } : Room) s m #[(.ref a), (.ref t), (.int (0 : Int32))] below meth c s₁ [] 0 0 := Stand.of_body Bd
  have e0 : s₁.heap = h0 := by rw [← hh, Bd.state]; rfl
  have N0 := Fr.nil n0
  have K0 : Keep h0 h0 [] := Keep.refl _ _
  show GoOn p e below (s₁.setTop (entryFrame m #[(.ref a), (.ref t), (.int (0 : Int32))] 3)) (PostN s (QIBB Z a t h0 n0) ({ frames := 1, cells := 0, slots := 0, locals := 12 } : Room).cells ({ frames := 1, cells := 0, slots := 0, locals := 12 } : Room).slots)
  refine GoOn.step (fun tq kq => castTop (own_ef76 m a t (0 : Int32)) kq) ?_
  show GoOn p e below (s₁.setTop (mkF m 0 #[.val (.ref a), .val (.ref t), .val (.int (0 : Int32))] [])) _
  have K0a : Keep h0 h0 [a] := Keep.refl _ _
  refine GoOn.step (fun tq kq => XS.aloadN X0.here hx rfl (hb hby own_d77) rfl rfl kq) ?_
  show GoOn p e below (s₁.setTop (mkF m 1 #[.val (.ref a), .val (.ref t), .val (.int (0 : Int32))] [(.ref a)])) _
  obtain ⟨T179, X179, e179, st179⟩ := initO X0 hx hZ hown (hw _ (List.mem_of_getElem? (i := 15) rfl)) (hw _ (List.mem_of_getElem? (i := 16) rfl)) (hw _ (List.mem_of_getElem? (i := 17) rfl)) e0 (g := (mkF m 1 #[.val (.ref a), .val (.ref t), .val (.int (0 : Int32))] [(.ref a)])) rfl (by rw [hml]; rfl) rfl (hb hby own_d78) (by decide) (W := 0) (by show 2 * 0 + _ ≤ _; exact Nat.le_of_eq rfl) (by decide)
  refine GoOn.step st179 ?_
  refine GoOn.step (fun tq kq => XS.aloadN X179.here hx rfl (hb hby own_d79) rfl rfl kq) ?_
  refine GoOn.step (fun tq kq => XS.aloadN X179.here hx rfl (hb hby own_d80) rfl rfl kq) ?_
  show GoOn p e below (T179.setTop (mkF m 6 #[.val (.ref a), .val (.ref t), .val (.int (0 : Int32))] [(.ref t), (.ref a)])) _
  obtain ⟨T180, h180, X180, e180, W180, st180⟩ := putF X179 hx hZ hown (host := "") (Or.inl (hw _ (List.mem_of_getElem? (i := 24) rfl))) Via.refl e179 F0v E0 (Or.inr ⟨(hw _ (List.mem_of_getElem? (i := 20) rfl)), rfl, hnm⟩) (hw _ (List.mem_of_getElem? (i := 5) rfl)) (ty := (.array .byte)) (by decide) rfl rfl (g := (mkF m 6 #[.val (.ref a), .val (.ref t), .val (.int (0 : Int32))] [(.ref t), (.ref a)])) rfl rfl (hb hby own_d81)
  have N181 := Fr.snoc X180 N0 ga
  have Kx180 : Keep h0 h180 [a] := Keep.of_wr W180
  have F182 : Fld Z h180 a "java/lang/String" "value" "[B" (.ref t) := F0v.same W180
  have F183 : Fld Z h180 a "java/lang/String" "coder" "B" (.int (0 : Int32)) := F0c.other W180 (Or.inr (slot_ne (a0 := a0) (Or.inr (hw _ (List.mem_of_getElem? (i := 21) rfl))) (Or.inr (hw _ (List.mem_of_getElem? (i := 20) rfl))) (by decide) (t := .byte) (t' := (.array .byte)) (by decide) (by decide)))
  refine GoOn.step st180 ?_
  have E184 : Exa Z h180 a "java/lang/String" := E0.keep Kx180
  have Z187 : n0 ≤ h180.size := Nat.le_trans Z0 Kx180.1
  have K188 : Keep h0 h180 [a] := K0a.trans Kx180 ((allS (Or.inl (by simp)) all0))
  refine GoOn.step (fun tq kq => XS.aloadN X180.here hx rfl (hb hby own_d82) rfl rfl kq) ?_
  refine GoOn.step (fun tq kq => XS.iloadN X180.here hx rfl (hb hby own_d83) rfl kq) ?_
  show GoOn p e below (T180.setTop (mkF m 11 #[.val (.ref a), .val (.ref t), .val (.int (0 : Int32))] [(.int (0 : Int32)), (.ref a)])) _
  obtain ⟨T189, h189, X189, e189, W189, st189⟩ := putFN X180 hx hZ hown (hw _ (List.mem_of_getElem? (i := 25) rfl)) Via.refl e180 F183 E184 (Or.inr ⟨(hw _ (List.mem_of_getElem? (i := 21) rfl)), rfl, hnm⟩) (hw _ (List.mem_of_getElem? (i := 5) rfl)) (ty := .byte) (v' := (.int (nar .byte (0 : Int32)))) (by decide) rfl (fits_nar_byte _) (g := (mkF m 11 #[.val (.ref a), .val (.ref t), .val (.int (0 : Int32))] [(.int (0 : Int32)), (.ref a)])) rfl rfl (hb hby own_d84)
  have N190 := Fr.snoc X189 N181 ga
  have Kx189 : Keep h180 h189 [a] := Keep.of_wr W189
  have F191 : Fld Z h189 a "java/lang/String" "coder" "B" (.int (nar .byte (0 : Int32))) := F183.same W189
  have F192 : Fld Z h189 a "java/lang/String" "value" "[B" (.ref t) := F182.other W189 (Or.inr (slot_ne (a0 := a0) (Or.inr (hw _ (List.mem_of_getElem? (i := 20) rfl))) (Or.inr (hw _ (List.mem_of_getElem? (i := 21) rfl))) (by decide) (t := (.array .byte)) (t' := .byte) (by decide) (by decide)))
  refine GoOn.step st189 ?_
  have E193 : Exa Z h189 a "java/lang/String" := E184.keep Kx189
  have Z194 : n0 ≤ h189.size := Nat.le_trans Z187 Kx189.1
  have K195 : Keep h0 h189 [a] := K188.trans Kx189 ((allS (Or.inl (by simp)) all0))
  show GoOn p e below (T189.setTop (mkF m 14 #[.val (.ref a), .val (.ref t), .val (.int (0 : Int32))] [])) _
  refine GoOn.ret X189 Bd.notSynchronized (v := none) (fun _ => rfl) (fun fs hr => X189.returnOut hx Bd.returns (hb hby own_d85) hr) (by decide) (by decide) ?_
  rw [e189]
  exact ⟨rfl, N190, K195, E193, F192, F191⟩
def QValC (Z : State) (x : Int32) (h0 : Heap) (n0 : Nat) (v : Option Value) (h : Heap) (L : List Loc) : Prop := ∃ a : Addr, v = some (.ref a) ∧ Fr n0 L ∧ Keep h0 h [] ∧ h0.size ≤ a ∧ StrIs Z h a [x]
set_option maxRecDepth 65536 in
set_option maxHeartbeats 40000000 in
theorem rmValueOfC (l : Launch) (Z : State) (a0 : Array Value) (hw : ∀ d ∈ tables_1, d.before a0 Z = true) (x G1 : Int32) (h0 : Heap) (n0 : Nat) (Z0 : n0 ≤ h0.size) (hx1 : ¬ x < 0) (hx2 : ¬ (255 : Int32) < x) (SC : Sta Z Z.heap "java/lang/String" "COMPACT_STRINGS" "Z" (.int G1)) (PC : ¬ G1 = (0 : Int32)) (O0 : Old Z n0 h0) :
    MetFree l (⟨"java/lang/String", "valueOf", "(C)Ljava/lang/String;"⟩ : MethodName) (head1 [Jvm.Cond.code (⟨"java/lang/String", "valueOf", "(C)Ljava/lang/String;"⟩ : MethodName) jdk_42_method_139_code 1 (some (.object "java/lang/String"))] ({ frames := 2, cells := 2, slots := 5, locals := 27 } : Room)) (fun aa U => aa = #[(.int x)] ∧ Z.Warmed39 U.vm ∧ U.heap = h0) (fun _ _ _ _ _ => True) (fun _ U o U' => ∃ v L, o = .returned v ∧ QValC Z x h0 n0 v U'.heap L ∧ FrameEnd U o U' L ({ frames := 2, cells := 2, slots := 5, locals := 27 } : Room).cells ({ frames := 2, cells := 2, slots := 5, locals := 27 } : Room).slots) := by
  refine MetFree.of_bodySF (plainFor_of_name own_pn35) hisR ?_
  intro p e s m args below meth c s₁ Bd hml0 hP hK
  obtain ⟨rfl, hZ, hh⟩ := hP
  have hx := Bd.exec
  have hby := Bd.bytes
  have hml : c.maxLocals = 1 := hml0
  have hown : s.vm.findClass "java/lang/String" = some m.cls := findClass_of_methodNamed Bd.named
  have hnm := (name_of_methodNamed Bd.named Bd.method).1
  have X0 : Stand p l e ({ frames := 2, cells := 2, slots := 5, locals := 27 } : Room) s m #[(.int x)] below meth c s₁ [] 0 0 := Stand.of_body Bd
  have e0 : s₁.heap = h0 := by rw [← hh, Bd.state]; rfl
  have N0 := Fr.nil n0
  have K0 : Keep h0 h0 [] := Keep.refl _ _
  show GoOn p e below (s₁.setTop (entryFrame m #[(.int x)] 1)) (PostN s (QValC Z x h0 n0) ({ frames := 2, cells := 2, slots := 5, locals := 27 } : Room).cells ({ frames := 2, cells := 2, slots := 5, locals := 27 } : Room).slots)
  refine GoOn.step (fun tq kq => castTop (own_ef86 m x) kq) ?_
  show GoOn p e below (s₁.setTop (mkF m 0 #[.val (.int x)] [])) _
  obtain ⟨T198, X198, e198, st198⟩ := getS2 X0 hx hZ hown (host := "") (Or.inl (hw _ (List.mem_of_getElem? (i := 70) rfl))) Via.refl e0 (SC.ext O0.2) (g := (mkF m 0 #[.val (.int x)] [])) rfl (hb hby own_d87)
  refine GoOn.step st198 ?_
  refine GoOn.step (fun tq kq => XS.ifNo X198.here hx rfl (hb hby own_d88) rfl ((if0 _ _).trans (feq PC).1) kq) ?_
  refine GoOn.step (fun tq kq => XS.iloadN X198.here hx rfl (hb hby own_d89) rfl kq) ?_
  show GoOn p e below (T198.setTop (mkF m 7 #[.val (.int x)] [(.int x)])) _
  obtain ⟨_, _, ⟨T199, L199, k199, n199⟩, -, X199, ⟨Lc199, hQ199, l199, y199, z199⟩, st199⟩ := Jvm.LawKit.callS X198 hx (y := (⟨"java/lang/StringLatin1", "canEncode", "(C)Z"⟩ : MethodName)) hown (mvT hZ (hw _ (List.mem_of_getElem? (i := 272) rfl))) (mvT hZ (hw _ (List.mem_of_getElem? (i := 273) rfl))) (mvT hZ (hw _ (List.mem_of_getElem? (i := 237) rfl))) (mvT hZ (hw _ (List.mem_of_getElem? (i := 274) rfl))) (by decide) (backOf (W := 0) (rmCanEnc l Z a0 hw x h0 n0 Z0 hx1 hx2) hZ (hw _ (List.mem_of_getElem? (i := 274) rfl)) (hw _ (List.mem_of_getElem? (i := 237) rfl)) (by decide) (by decide)) (g := (mkF m 7 #[.val (.int x)] [(.int x)])) rfl (by rw [hml]; rfl) (argsL := [(.int x)]) (rest := []) (lenOf own_pd91 rfl) rfl (by show 2 * 0 + _ ≤ _; exact Nat.le_of_eq rfl) (hb hby own_d90) (fun _ _ => ⟨rfl, e198, (by decide : 0 + 0 ≤ _), (by decide : 0 + 0 ≤ _)⟩)
  dsimp only [Pt.U, Pt.locs, Pt.cells, Pt.slots] at X199 l199 y199 z199 st199 hQ199
  subst l199 y199 z199
  obtain ⟨rfl, N199, e199⟩ := hQ199
  refine GoOn.step st199 ?_
  have N200 := Fr.app N0 N199
  refine GoOn.step (fun tq kq => XS.ifNo X199.here hx rfl (hb hby own_d92) rfl ((if0 _ _).trans (feq (by decide)).1) kq) ?_
  show GoOn p e below (T199.setTop (mkF m 13 #[.val (.int x)] [])) _
  obtain ⟨T201, h201, X201, e201, Ex201, A201, Df201, Nu201, st201⟩ := newO X199 hx hZ hown (hw _ (List.mem_of_getElem? (i := 275) rfl)) (hw _ (List.mem_of_getElem? (i := 5) rfl)) (hw _ (List.mem_of_getElem? (i := 6) rfl)) e199 (g := (mkF m 13 #[.val (.int x)] [])) rfl (hb hby own_d93) (by decide) (by decide)
  obtain ⟨sb, g201⟩ : ∃ z, z = h0.size := ⟨_, rfl⟩
  rw [← g201] at A201 Df201 Nu201 st201
  have gn202 : n0 ≤ sb := Nat.le_trans Z0 (Nat.le_of_eq g201.symm)
  have sz203 : h0.size ≤ sb := Nat.le_trans K0.1 (Nat.le_of_eq g201.symm)
  have Kx201 : Keep h0 h201 [] := (Keep.refl _ _).ext Ex201
  refine GoOn.step st201 ?_
  have O204 : Old Z n0 h201 := O0.keep Kx201 all0
  have Z205 : n0 ≤ h201.size := Nat.le_trans Z0 Kx201.1
  have K206 : Keep h0 h201 [] := K0.trans Kx201 (all0)
  have F207 : Fld Z h201 sb "java/lang/String" "value" "[B" .null := Df201 (Or.inr (hw _ (List.mem_of_getElem? (i := 20) rfl))) (ty := (.array .byte)) (by decide)
  have F208 : Fld Z h201 sb "java/lang/String" "coder" "B" (.int (0 : Int32)) := Df201 (Or.inr (hw _ (List.mem_of_getElem? (i := 21) rfl))) (ty := .byte) (by decide)
  refine GoOn.step (fun tq kq => XS.dup X201.here hx rfl (hb hby own_d94) rfl rfl kq) ?_
  refine GoOn.step (fun tq kq => XS.iloadN X201.here hx rfl (hb hby own_d95) rfl kq) ?_
  show GoOn p e below (T201.setTop (mkF m 18 #[.val (.int x)] [(.int x), (.ref sb), (.ref sb)])) _
  obtain ⟨_, _, ⟨T209, L209, k209, n209⟩, -, X209, ⟨Lc209, hQ209, l209, y209, z209⟩, st209⟩ := Jvm.LawKit.callS X201 hx (y := (⟨"java/lang/StringLatin1", "toBytes", "(C)[B"⟩ : MethodName)) hown (mvT hZ (hw _ (List.mem_of_getElem? (i := 276) rfl))) (mvT hZ (hw _ (List.mem_of_getElem? (i := 277) rfl))) (mvT hZ (hw _ (List.mem_of_getElem? (i := 237) rfl))) (mvT hZ (hw _ (List.mem_of_getElem? (i := 278) rfl))) (by decide) (backOf (W := 2) (rmToB l Z a0 hw x h201 n0 Z205) hZ (hw _ (List.mem_of_getElem? (i := 278) rfl)) (hw _ (List.mem_of_getElem? (i := 237) rfl)) (by decide) (by decide)) (g := (mkF m 18 #[.val (.int x)] [(.int x), (.ref sb), (.ref sb)])) rfl (by rw [hml]; rfl) (argsL := [(.int x)]) (rest := [(.ref sb), (.ref sb)]) (lenOf own_pd97 rfl) rfl (by show 2 * 0 + _ ≤ _; exact Nat.le_of_eq rfl) (hb hby own_d96) (fun _ _ => ⟨rfl, e201, (by decide : 1 + 1 ≤ _), (by decide : 4 + 1 ≤ _)⟩)
  dsimp only [Pt.U, Pt.locs, Pt.cells, Pt.slots] at X209 l209 y209 z209 st209 hQ209
  subst l209 y209 z209
  obtain ⟨t209, kb209, rfl, N209, K209, ge209, Va209⟩ := hQ209
  refine GoOn.step st209 ?_
  have N210 := Fr.app N200 N209
  have gn211 : n0 ≤ t209 := Nat.le_trans Z205 ge209
  have sz212 : h0.size ≤ t209 := Nat.le_trans K206.1 ge209
  have ne213 : sb ≠ t209 := Nat.ne_of_lt (Nat.lt_of_lt_of_le A201.lt ge209)
  have O214 : Old Z n0 T209.heap := O204.keep K209 all0
  have Z215 : n0 ≤ T209.heap.size := Nat.le_trans Z205 K209.1
  have K216 : Keep h0 T209.heap [] := K206.trans K209 (all0)
  have E217 : Exa Z T209.heap sb "java/lang/String" := A201.keep K209
  have F218 : Fld Z T209.heap sb "java/lang/String" "value" "[B" .null := F207.keep K209 nin0
  have F219 : Fld Z T209.heap sb "java/lang/String" "coder" "B" (.int (0 : Int32)) := F208.keep K209 nin0
  refine GoOn.step (fun tq kq => XS.iconst X209.here hx rfl (hb hby own_d98) kq) ?_
  show GoOn p e below (T209.setTop (mkF m 22 #[.val (.int x)] [(.int (0 : Int32)), (.ref t209), (.ref sb), (.ref sb)])) _
  obtain ⟨_, _, ⟨T220, L220, k220, n220⟩, -, X220, ⟨Lc220, hQ220, l220, y220, z220⟩, st220⟩ := X209.specialBack hx (y := (⟨"java/lang/String", "<init>", "([BB)V"⟩ : MethodName)) rfl hown (mvT hZ (hw _ (List.mem_of_getElem? (i := 279) rfl))) (mvT hZ (hw _ (List.mem_of_getElem? (i := 280) rfl))) (mvT hZ (hw _ (List.mem_of_getElem? (i := 281) rfl))) (by decide) (backOf (W := 1) (rmIBB l Z a0 hw sb t209 T209.heap n0 Z215 E217 F218 F219 gn202) hZ (hw _ (List.mem_of_getElem? (i := 281) rfl)) (hw _ (List.mem_of_getElem? (i := 6) rfl)) (by decide) (by decide)) (g := (mkF m 22 #[.val (.int x)] [(.int (0 : Int32)), (.ref t209), (.ref sb), (.ref sb)])) rfl (by rw [hml]; rfl) (Steps.refl _) (a := sb) (argsL := [(.ref t209), (.int (0 : Int32))]) (rest := [(.ref sb)]) (lenOf own_pd100 rfl) rfl (by show 2 * 0 + _ ≤ _; exact Nat.le_of_eq rfl) (hb hby own_d99) (fun _ _ => ⟨rfl, rfl, (by decide : 2 + 0 ≤ _), (by decide : 5 + 0 ≤ _)⟩)
  dsimp only [Pt.U, Pt.locs, Pt.cells, Pt.slots] at X220 l220 y220 z220 st220 hQ220
  subst l220 y220 z220
  obtain ⟨rfl, N220, K220, E220, Fv220, Fc220⟩ := hQ220
  refine GoOn.trans st220 ?_
  have N221 := Fr.app N210 N220
  have O222 : Old Z n0 T220.heap := O214.keep K220 (allS gn202 all0)
  have Z223 : n0 ≤ T220.heap.size := Nat.le_trans Z215 K220.1
  have K224 : Keep h0 T220.heap [] := K216.trans K220 ((allS (Or.inr sz203) all0))
  have E225 : Exa Z T220.heap sb "java/lang/String" := E217.keep K220
  have V228 : Arv Z T220.heap t209 kb209 .byte (1 : Int32) [(.int (x.toInt8.toInt32))] (.int 0) := Va209.keep K220 (ninS (Ne.symm ne213) nin0)
  show GoOn p e below (T220.setTop (mkF m 25 #[.val (.int x)] [(.ref sb)])) _
  refine GoOn.ret X220 Bd.notSynchronized (v := some (.ref sb)) (fun h => by rw [Bd.returns] at h; cases h) (fun fs hr => retOut X220 hx Bd.returns rfl (Or.inr (Or.inr (Or.inr (Or.inr ⟨rfl, rfl, rfl⟩)))) (hb hby own_d101) hr) (by decide) (by decide) ?_
  exact ⟨sb, rfl, N221, K224, sz203, E220, Fc220, (fun c hc => by simp only [List.mem_cons, List.not_mem_nil, or_false] at hc; subst hc; exact ⟨hx1, hx2⟩), (Nat.le_of_ble_eq_true rfl), t209, _, Fv220, V228⟩
def QMk (Z : State) (len c0 c1 : Int32) (h0 : Heap) (n0 : Nat) (v : Option Value) (h : Heap) (L : List Loc) : Prop := ∃ a : Addr, v = some (.ref a) ∧ Fr n0 L ∧ Keep h0 h [] ∧ StrIs Z h a (if len = 0 then ([] : List Int32) else if len = 1 then [c0] else [c0, c1])
set_option maxRecDepth 65536 in
set_option maxHeartbeats 40000000 in
theorem rmMk (l : Launch) (Z : State) (a0 : Array Value) (hw : ∀ d ∈ tables_1, d.before a0 Z = true) (len c0 c1 G1 : Int32) (h0 : Heap) (n0 : Nat) (Z0 : n0 ≤ h0.size) (hb0 : ¬ c0 < 0 ∧ ¬ (255 : Int32) < c0) (hb1 : ¬ c1 < 0 ∧ ¬ (255 : Int32) < c1) (SC : Sta Z Z.heap "java/lang/String" "COMPACT_STRINGS" "Z" (.int G1)) (PC : ¬ G1 = (0 : Int32)) (O0 : Old Z n0 h0) :
    MetFree l (⟨"com/example/faktorwerk/faktorwerk/model/InputRefusedExceptionAtLinePinLaw", "str", "(ICC)Ljava/lang/String;"⟩ : MethodName) (head1 [Jvm.Cond.code (⟨"com/example/faktorwerk/faktorwerk/model/InputRefusedExceptionAtLinePinLaw", "str", "(ICC)Ljava/lang/String;"⟩ : MethodName) method_3_code 3 (some (.object "java/lang/String"))] ({ frames := 4, cells := 6, slots := 12, locals := 66 } : Room)) (fun aa U => aa = #[(.int len), (.int c0), (.int c1)] ∧ Z.Warmed39 U.vm ∧ U.heap = h0 ∧ CHv Z own_EL U.vm h0) (fun _ _ _ _ _ => True) (fun _ U o U' => ∃ v L, o = .returned v ∧ QMk Z len c0 c1 h0 n0 v U'.heap L ∧ CHr Z own_EL U.vm U.heap U'.vm U'.heap ∧ ReturnedEndW U o U' L ({ frames := 4, cells := 6, slots := 12, locals := 66 } : Room).cells ({ frames := 4, cells := 6, slots := 12, locals := 66 } : Room).slots) := by
  refine MetFree.of_bodySF (plainFor_of_name own_pn103) hisR ?_
  intro p e s m args below meth c s₁ Bd hml0 hP hK
  obtain ⟨rfl, hZ, hh, hCH⟩ := hP
  have hx := Bd.exec
  have hby := Bd.bytes
  have hml : c.maxLocals = 3 := hml0
  have hown : s.vm.findClass "com/example/faktorwerk/faktorwerk/model/InputRefusedExceptionAtLinePinLaw" = some m.cls := findClass_of_methodNamed Bd.named
  have hnm := (name_of_methodNamed Bd.named Bd.method).1
  have X0 : Stand p l e ({ frames := 4, cells := 6, slots := 12, locals := 66 } : Room) s m #[(.int len), (.int c0), (.int c1)] below meth c s₁ [] 0 0 := Stand.of_body Bd
  have e0 : s₁.heap = h0 := by rw [← hh, Bd.state]; rfl
  have N0 := Fr.nil n0
  have K0 : Keep h0 h0 [] := Keep.refl _ _
  show GoOn p e below (s₁.setTop (entryFrame m #[(.int len), (.int c0), (.int c1)] 3)) (PostH Z own_EL s (QMk Z len c0 c1 h0 n0) ({ frames := 4, cells := 6, slots := 12, locals := 66 } : Room).cells ({ frames := 4, cells := 6, slots := 12, locals := 66 } : Room).slots)
  refine GoOn.step (fun tq kq => castTop (own_ef102 m len c0 c1) kq) ?_
  have hS0 : s.Since s.vm h0.size := (State.WarmedH.refl s).since _
  have hk0 : h0.size ≤ h0.size := Nat.le_refl _
  replace X0 : Stand p l e ({ frames := 4, cells := 6, slots := 12, locals := 66 } : Room) (s.setVm s.vm) m #[(.int len), (.int c0), (.int c1)] below meth c s₁ [] 0 0 := X0
  replace hZ : Z.Warmed39 (s.setVm s.vm).vm := hZ
  replace hown : (s.setVm s.vm).vm.findClass "com/example/faktorwerk/faktorwerk/model/InputRefusedExceptionAtLinePinLaw" = some m.cls := hown
  have C0 : CHr Z own_EL s.vm h0 s.vm h0 := CHr.refl hCH
  have hEL : EW Z a0 own_EL := own_EW hw
  have wS : ∀ d ∈ Bundle.stringAtoms, d.before a0 Z = true := fun d hd => hw d (own_sa d hd)
  show GoOn p e below (s₁.setTop (mkF m 0 #[.val (.int len), .val (.int c0), .val (.int c1)] [])) _
  have hws : ∀ d ∈ StrChars.Road.words, d.before a0 Z = true := fun d hd => hw d ((by decide +kernel : ∀ d ∈ StrChars.Road.words, d ∈ tables_1) d hd)
  refine GoOn.step (fun tq kq => XS.iloadN X0.here hx rfl (hb hby own_d104) rfl kq) ?_
  show GoOn p e below (s₁.setTop (mkF m 1 #[.val (.int len), .val (.int c0), .val (.int c1)] [(.int len)])) _
  by_cases hc229 : len = 0
  · skip
    refine GoOn.step (fun tq kq => XS.ifNo X0.here hx rfl (hb hby own_d105) rfl ((if0 _ _).trans (teq hc229).2) kq) ?_
    show GoOn p e below (s₁.setTop (mkF m 4 #[.val (.int len), .val (.int c0), .val (.int c1)] [])) _
    obtain ⟨T230, h230, X230, e230, Ex230, A230, Df230, Nu230, st230⟩ := newO X0 hx hZ hown (hw _ (List.mem_of_getElem? (i := 4) rfl)) (hw _ (List.mem_of_getElem? (i := 5) rfl)) (hw _ (List.mem_of_getElem? (i := 6) rfl)) e0 (g := (mkF m 4 #[.val (.int len), .val (.int c0), .val (.int c1)] [])) rfl (hb hby own_d106) (by decide) (by decide)
    obtain ⟨sb, g230⟩ : ∃ z, z = h0.size := ⟨_, rfl⟩
    rw [← g230] at A230 Df230 Nu230 st230
    have gn231 : n0 ≤ sb := Nat.le_trans Z0 (Nat.le_of_eq g230.symm)
    have sz232 : h0.size ≤ sb := Nat.le_trans K0.1 (Nat.le_of_eq g230.symm)
    have Kx230 : Keep h0 h230 [] := (Keep.refl _ _).ext Ex230
    refine GoOn.step st230 ?_
    have O233 : Old Z n0 h230 := O0.keep Kx230 all0
    have Z234 : n0 ≤ h230.size := Nat.le_trans Z0 Kx230.1
    have K235 : Keep h0 h230 [] := K0.trans Kx230 (all0)
    have C236 : CHr Z own_EL s.vm h0 s.vm h230 := CHr.trans C0 (CHr.keep Kx230 all0 C0.1)
    have hk237 := Nat.le_trans hk0 Kx230.1
    have F238 : Fld Z h230 sb "java/lang/String" "value" "[B" .null := Df230 (Or.inr (hw _ (List.mem_of_getElem? (i := 20) rfl))) (ty := (.array .byte)) (by decide)
    have F239 : Fld Z h230 sb "java/lang/String" "coder" "B" (.int (0 : Int32)) := Df230 (Or.inr (hw _ (List.mem_of_getElem? (i := 21) rfl))) (ty := .byte) (by decide)
    refine GoOn.step (fun tq kq => XS.dup X230.here hx rfl (hb hby own_d107) rfl rfl kq) ?_
    refine GoOn.step (fun tq kq => XS.iconst X230.here hx rfl (hb hby own_d108) kq) ?_
    show GoOn p e below (T230.setTop (mkF m 9 #[.val (.int len), .val (.int c0), .val (.int c1)] [(.int (0 : Int32)), (.ref sb), (.ref sb)])) _
    obtain ⟨T240, h240, k240, X240, e240, Ex240, A240, st240⟩ := newP X230 hx hZ (hw _ (List.mem_of_getElem? (i := 7) rfl)) e230 (g := (mkF m 9 #[.val (.int len), .val (.int c0), .val (.int c1)] [(.int (0 : Int32)), (.ref sb), (.ref sb)])) rfl (hb hby own_d109) rfl (by decide) (cap := 0) (by decide) (by decide) (by decide) (by decide)
    obtain ⟨ca, g240⟩ : ∃ z, z = h230.size := ⟨_, rfl⟩
    rw [← g240] at A240 st240
    have gn241 : n0 ≤ ca := Nat.le_trans Z234 (Nat.le_of_eq g240.symm)
    have sz242 : h0.size ≤ ca := Nat.le_trans K235.1 (Nat.le_of_eq g240.symm)
    have ne243 : sb ≠ ca := Nat.ne_of_lt (Nat.lt_of_lt_of_le A230.lt (Nat.le_of_eq g240.symm))
    have Kx240 : Keep h230 h240 [] := (Keep.refl _ _).ext Ex240
    refine GoOn.step st240 ?_
    have O244 : Old Z n0 h240 := O233.keep Kx240 all0
    have Z245 : n0 ≤ h240.size := Nat.le_trans Z234 Kx240.1
    have K246 : Keep h0 h240 [] := K235.trans Kx240 (all0)
    have C247 : CHr Z own_EL s.vm h0 s.vm h240 := CHr.trans C236 (CHr.keep Kx240 all0 C236.1)
    have E248 : Exa Z h240 sb "java/lang/String" := A230.keep Kx240
    have F249 : Fld Z h240 sb "java/lang/String" "value" "[B" .null := F238.keep Kx240 nin0
    have F250 : Fld Z h240 sb "java/lang/String" "coder" "B" (.int (0 : Int32)) := F239.keep Kx240 nin0
    have hk251 := Nat.le_trans hk237 Kx240.1
    have V252 : Arv Z h240 ca k240 .char (0 : Int32) [] (.int (0 : Int32)) := Arv.new A240 (by decide)
    show GoOn p e below (T240.setTop (mkF m 11 #[.val (.int len), .val (.int c0), .val (.int c1)] [(.ref ca), (.ref sb), (.ref sb)])) _
    obtain ⟨_, _, ⟨T253, L253, k253, n253⟩, -, X253, hS253, hg253, ⟨Lc253, hQ253, l253, y253, z253, Cn253⟩, st253⟩ := X240.specialBackS hx (y := (⟨"java/lang/String", "<init>", "([C)V"⟩ : MethodName)) rfl hown (mvT hZ (hw _ (List.mem_of_getElem? (i := 8) rfl))) (mvT hZ (hw _ (List.mem_of_getElem? (i := 9) rfl))) (mvT hZ (hw _ (List.mem_of_getElem? (i := 10) rfl))) (by decide) (backOfSH (W := 1) (rmS0 l Z a0 hw sb ca k240 h240 n0 Z245 E248 F249 F250 gn231 V252 ne243) hZ (hw _ (List.mem_of_getElem? (i := 10) rfl)) (hw _ (List.mem_of_getElem? (i := 6) rfl)) (by decide) (by decide) hEL C247.1) (g := (mkF m 11 #[.val (.int len), .val (.int c0), .val (.int c1)] [(.ref ca), (.ref sb), (.ref sb)])) rfl (by rw [hml]; rfl) (Steps.refl _) (a := sb) (argsL := [(.ref ca)]) (rest := [(.ref sb)]) (lenOf own_pd111 rfl) rfl (by show 2 * 0 + _ ≤ _; exact Nat.le_of_eq rfl) (hb hby own_d110) (fun _ _ => ⟨rfl, e240, (by decide : 2 + 4 ≤ _), (by decide : 4 + 8 ≤ _)⟩)
    dsimp only [Pt.U, Pt.locs, Pt.cells, Pt.slots] at X253 l253 y253 z253 st253 hQ253 hS253 hg253 Cn253
    subst l253 y253 z253
    obtain ⟨rfl, N253, K253, S253⟩ := hQ253
    refine GoOn.trans st253 ?_
    replace X253 : Stand p l e _ (s.setVm T253.vm) m _ below meth c T253 _ _ _ := X253
    have hZ253 : Z.Warmed39 (s.setVm T253.vm).vm := State.Warmed39.trans (t := (s.setVm s.vm)) hZ hS253.1
    have hown253 : (s.setVm T253.vm).vm.findClass "com/example/faktorwerk/faktorwerk/model/InputRefusedExceptionAtLinePinLaw" = some m.cls := by rw [show (s.setVm T253.vm).vm = T253.vm from rfl, hS253.1.alike.findClass]; exact hown
    have hSn253 : s.Since T253.vm T253.heap.size := foldS hS0 (by rw [e240]; exact hk251) hS253 hg253
    have hk253 : T253.heap.size ≤ T253.heap.size := Nat.le_refl _
    have N254 := Fr.app N0 N253
    have O255 : Old Z n0 T253.heap := O244.keep K253 (allS gn231 all0)
    have Z256 : n0 ≤ T253.heap.size := Nat.le_trans Z245 K253.1
    have K257 : Keep h0 T253.heap [] := K246.trans K253 ((allS (Or.inr sz232) all0))
    have C258 : CHr Z own_EL s.vm h0 T253.vm T253.heap := CHr.trans C247 Cn253
    have E259 : Exa Z T253.heap sb "java/lang/String" := E248.keep K253
    have V262 : Arv Z T253.heap ca k240 .char (0 : Int32) [] (.int (0 : Int32)) := V252.keep K253 (ninS (Ne.symm ne243) nin0)
    show GoOn p e below (T253.setTop (mkF m 14 #[.val (.int len), .val (.int c0), .val (.int c1)] [(.ref sb)])) _
    refine GoOn.retH X253 hZ253 hSn253 (hk253) hEL hh rfl C258 Bd.notSynchronized (v := some (.ref sb)) (fun h => by rw [Bd.returns] at h; cases h) (fun fs hr => retOut X253 hx Bd.returns rfl (Or.inr (Or.inr (Or.inr (Or.inr ⟨rfl, rfl, rfl⟩)))) (hb hby own_d112) hr) (by decide) (by decide) ?_
    exact ⟨_, rfl, N254, K257, by rw [if_pos hc229]; exact S253⟩
  · skip
    refine GoOn.step (fun tq kq => XS.ifYes X0.here hx rfl (pc0 := 1) (pc' := 15) rfl (hb hby own_d105) rfl ((if0 _ _).trans (feq hc229).2) (by decide) (by decide) kq) ?_
    refine GoOn.step (fun tq kq => XS.iloadN X0.here hx rfl (hb hby own_d113) rfl kq) ?_
    refine GoOn.step (fun tq kq => XS.iconst X0.here hx rfl (hb hby own_d114) kq) ?_
    show GoOn p e below (s₁.setTop (mkF m 17 #[.val (.int len), .val (.int c0), .val (.int c1)] [(.int (1 : Int32)), (.int len)])) _
    by_cases hc263 : len = (1 : Int32)
    · skip
      refine GoOn.step (fun tq kq => XS.icmpNo X0.here hx rfl (hb hby own_d115) rfl (teq hc263).2 kq) ?_
      refine GoOn.step (fun tq kq => XS.iloadN X0.here hx rfl (hb hby own_d116) rfl kq) ?_
      show GoOn p e below (s₁.setTop (mkF m 21 #[.val (.int len), .val (.int c0), .val (.int c1)] [(.int c0)])) _
      obtain ⟨_, _, ⟨T264, L264, k264, n264⟩, -, X264, ⟨Lc264, hQ264, l264, y264, z264⟩, st264⟩ := Jvm.LawKit.callS X0 hx (y := (⟨"java/lang/String", "valueOf", "(C)Ljava/lang/String;"⟩ : MethodName)) hown (mvT hZ (hw _ (List.mem_of_getElem? (i := 269) rfl))) (mvT hZ (hw _ (List.mem_of_getElem? (i := 270) rfl))) (mvT hZ (hw _ (List.mem_of_getElem? (i := 6) rfl))) (mvT hZ (hw _ (List.mem_of_getElem? (i := 271) rfl))) (by decide) (backOf (W := 0) (rmValueOfC l Z a0 hw c0 G1 h0 n0 Z0 hb0.1 hb0.2 SC PC O0) hZ (hw _ (List.mem_of_getElem? (i := 271) rfl)) (hw _ (List.mem_of_getElem? (i := 6) rfl)) (by decide) (by decide)) (g := (mkF m 21 #[.val (.int len), .val (.int c0), .val (.int c1)] [(.int c0)])) rfl (by rw [hml]; rfl) (argsL := [(.int c0)]) (rest := []) (lenOf own_pd118 rfl) rfl (by show 2 * 0 + _ ≤ _; exact Nat.le_of_eq rfl) (hb hby own_d117) (fun _ _ => ⟨rfl, e0, (by decide : 0 + 2 ≤ _), (by decide : 0 + 5 ≤ _)⟩)
      dsimp only [Pt.U, Pt.locs, Pt.cells, Pt.slots] at X264 l264 y264 z264 st264 hQ264
      subst l264 y264 z264
      obtain ⟨sa264, rfl, N264, K264, ge264, S264⟩ := hQ264
      refine GoOn.step st264 ?_
      have N265 := Fr.app N0 N264
      have O266 : Old Z n0 T264.heap := O0.keep K264 all0
      have Z267 : n0 ≤ T264.heap.size := Nat.le_trans Z0 K264.1
      have K268 : Keep h0 T264.heap [] := K0.trans K264 (all0)
      have C269 : CHr Z own_EL s.vm h0 s.vm T264.heap := CHr.trans C0 (CHr.keep K264 all0 C0.1)
      have hk270 := Nat.le_trans hk0 K264.1
      show GoOn p e below (T264.setTop (mkF m 24 #[.val (.int len), .val (.int c0), .val (.int c1)] [(.ref sa264)])) _
      refine GoOn.retH X264 hZ hS0 (hk270) hEL hh rfl C269 Bd.notSynchronized (v := some (.ref sa264)) (fun h => by rw [Bd.returns] at h; cases h) (fun fs hr => retOut X264 hx Bd.returns rfl (Or.inr (Or.inr (Or.inr (Or.inr ⟨rfl, rfl, rfl⟩)))) (hb hby own_d119) hr) (by decide) (by decide) ?_
      exact ⟨_, rfl, N265, K268, by rw [if_neg hc229, if_pos hc263]; exact S264⟩
    · skip
      refine GoOn.step (fun tq kq => XS.icmpYes X0.here hx rfl (pc0 := 17) (pc' := 25) rfl (hb hby own_d115) rfl (feq hc263).2 (by decide) (by decide) kq) ?_
      show GoOn p e below (s₁.setTop (mkF m 25 #[.val (.int len), .val (.int c0), .val (.int c1)] [])) _
      obtain ⟨T271, h271, X271, e271, Ex271, A271, Df271, Nu271, st271⟩ := newO X0 hx hZ hown (hw _ (List.mem_of_getElem? (i := 4) rfl)) (hw _ (List.mem_of_getElem? (i := 5) rfl)) (hw _ (List.mem_of_getElem? (i := 6) rfl)) e0 (g := (mkF m 25 #[.val (.int len), .val (.int c0), .val (.int c1)] [])) rfl (hb hby own_d120) (by decide) (by decide)
      obtain ⟨sb, g271⟩ : ∃ z, z = h0.size := ⟨_, rfl⟩
      rw [← g271] at A271 Df271 Nu271 st271
      have gn272 : n0 ≤ sb := Nat.le_trans Z0 (Nat.le_of_eq g271.symm)
      have sz273 : h0.size ≤ sb := Nat.le_trans K0.1 (Nat.le_of_eq g271.symm)
      have Kx271 : Keep h0 h271 [] := (Keep.refl _ _).ext Ex271
      refine GoOn.step st271 ?_
      have O274 : Old Z n0 h271 := O0.keep Kx271 all0
      have Z275 : n0 ≤ h271.size := Nat.le_trans Z0 Kx271.1
      have K276 : Keep h0 h271 [] := K0.trans Kx271 (all0)
      have C277 : CHr Z own_EL s.vm h0 s.vm h271 := CHr.trans C0 (CHr.keep Kx271 all0 C0.1)
      have hk278 := Nat.le_trans hk0 Kx271.1
      have F279 : Fld Z h271 sb "java/lang/String" "value" "[B" .null := Df271 (Or.inr (hw _ (List.mem_of_getElem? (i := 20) rfl))) (ty := (.array .byte)) (by decide)
      have F280 : Fld Z h271 sb "java/lang/String" "coder" "B" (.int (0 : Int32)) := Df271 (Or.inr (hw _ (List.mem_of_getElem? (i := 21) rfl))) (ty := .byte) (by decide)
      refine GoOn.step (fun tq kq => XS.dup X271.here hx rfl (hb hby own_d121) rfl rfl kq) ?_
      refine GoOn.step (fun tq kq => XS.iconst X271.here hx rfl (hb hby own_d122) kq) ?_
      show GoOn p e below (T271.setTop (mkF m 30 #[.val (.int len), .val (.int c0), .val (.int c1)] [(.int (2 : Int32)), (.ref sb), (.ref sb)])) _
      obtain ⟨T281, h281, k281, X281, e281, Ex281, A281, st281⟩ := newP X271 hx hZ (hw _ (List.mem_of_getElem? (i := 7) rfl)) e271 (g := (mkF m 30 #[.val (.int len), .val (.int c0), .val (.int c1)] [(.int (2 : Int32)), (.ref sb), (.ref sb)])) rfl (hb hby own_d123) rfl (by decide) (cap := 2) (by decide) (by decide) (by decide) (by decide)
      obtain ⟨ca, g281⟩ : ∃ z, z = h271.size := ⟨_, rfl⟩
      rw [← g281] at A281 st281
      have gn282 : n0 ≤ ca := Nat.le_trans Z275 (Nat.le_of_eq g281.symm)
      have sz283 : h0.size ≤ ca := Nat.le_trans K276.1 (Nat.le_of_eq g281.symm)
      have ne284 : sb ≠ ca := Nat.ne_of_lt (Nat.lt_of_lt_of_le A271.lt (Nat.le_of_eq g281.symm))
      have Kx281 : Keep h271 h281 [] := (Keep.refl _ _).ext Ex281
      refine GoOn.step st281 ?_
      have O285 : Old Z n0 h281 := O274.keep Kx281 all0
      have Z286 : n0 ≤ h281.size := Nat.le_trans Z275 Kx281.1
      have K287 : Keep h0 h281 [] := K276.trans Kx281 (all0)
      have C288 : CHr Z own_EL s.vm h0 s.vm h281 := CHr.trans C277 (CHr.keep Kx281 all0 C277.1)
      have E289 : Exa Z h281 sb "java/lang/String" := A271.keep Kx281
      have F290 : Fld Z h281 sb "java/lang/String" "value" "[B" .null := F279.keep Kx281 nin0
      have F291 : Fld Z h281 sb "java/lang/String" "coder" "B" (.int (0 : Int32)) := F280.keep Kx281 nin0
      have hk292 := Nat.le_trans hk278 Kx281.1
      have V293 : Arv Z h281 ca k281 .char (2 : Int32) [] (.int (0 : Int32)) := Arv.new A281 (by decide)
      refine GoOn.step (fun tq kq => XS.dup X281.here hx rfl (hb hby own_d124) rfl rfl kq) ?_
      refine GoOn.step (fun tq kq => XS.iconst X281.here hx rfl (hb hby own_d125) kq) ?_
      refine GoOn.step (fun tq kq => XS.iloadN X281.here hx rfl (hb hby own_d126) rfl kq) ?_
      show GoOn p e below (T281.setTop (mkF m 35 #[.val (.int len), .val (.int c0), .val (.int c1)] [(.int c0), (.int (0 : Int32)), (.ref ca), (.ref ca), (.ref sb), (.ref sb)])) _
      have V295 : Arv Z h281 ca k281 .char (2 : Int32) [(.int (0 : Int32))] (.int (0 : Int32)) := V293.pad (pad_rep [] (.int (0 : Int32)) 1)
      obtain ⟨cq296, Aq296, qq296, Sq296, Mq296, Hq296, Uq296⟩ := id V295
      obtain ⟨T294, h294, X294, e294, W294, st294⟩ := stC X281 hx hZ e281 Aq296 (j := (0 : Int32)) (inb_of Sq296 ⟨(by decide : ¬ ((0 : Int32) < (0 : Int32))), (by decide : (0 : Int32) < (2 : Int32))⟩) (g := (mkF m 35 #[.val (.int len), .val (.int c0), .val (.int c1)] [(.int c0), (.int (0 : Int32)), (.ref ca), (.ref ca), (.ref sb), (.ref sb)])) rfl rfl (hb hby own_d127)
      have N297 := Fr.snoc X294 N0 gn282
      have V298 : Arv Z h294 ca k281 .char (2 : Int32) [(.int (nar .char c0))] (.int (0 : Int32)) := Arv.set Aq296 qq296 Sq296 Mq296 Hq296 Uq296 (fits_nar_char _) W294 0 rfl (Nat.le_of_ble_eq_true rfl)
      have Kx294 : Keep h281 h294 [ca] := Keep.of_wr W294
      refine GoOn.step st294 ?_
      have O299 : Old Z n0 h294 := O285.keep Kx294 (allS gn282 all0)
      have Z300 : n0 ≤ h294.size := Nat.le_trans Z286 Kx294.1
      have K301 : Keep h0 h294 [] := K287.trans Kx294 ((allS (Or.inr sz283) all0))
      have C302 : CHr Z own_EL s.vm h0 s.vm h294 := CHr.trans C288 (CHr.keep Kx294 (allS (Safe.arv hZ.alike V293 (by decide)) all0) C288.1)
      have E303 : Exa Z h294 sb "java/lang/String" := E289.keep Kx294
      have F304 : Fld Z h294 sb "java/lang/String" "value" "[B" .null := F290.keep Kx294 (ninS ne284 nin0)
      have F305 : Fld Z h294 sb "java/lang/String" "coder" "B" (.int (0 : Int32)) := F291.keep Kx294 (ninS ne284 nin0)
      have hk306 := Nat.le_trans hk292 Kx294.1
      refine GoOn.step (fun tq kq => XS.dup X294.here hx rfl (hb hby own_d128) rfl rfl kq) ?_
      refine GoOn.step (fun tq kq => XS.iconst X294.here hx rfl (hb hby own_d129) kq) ?_
      refine GoOn.step (fun tq kq => XS.iloadN X294.here hx rfl (hb hby own_d130) rfl kq) ?_
      show GoOn p e below (T294.setTop (mkF m 39 #[.val (.int len), .val (.int c0), .val (.int c1)] [(.int c1), (.int (1 : Int32)), (.ref ca), (.ref ca), (.ref sb), (.ref sb)])) _
      have V308 : Arv Z h294 ca k281 .char (2 : Int32) [(.int (nar .char c0)), (.int (0 : Int32))] (.int (0 : Int32)) := V298.pad (pad_rep [(.int (nar .char c0))] (.int (0 : Int32)) 1)
      obtain ⟨cq309, Aq309, qq309, Sq309, Mq309, Hq309, Uq309⟩ := id V308
      obtain ⟨T307, h307, X307, e307, W307, st307⟩ := stC X294 hx hZ e294 Aq309 (j := (1 : Int32)) (inb_of Sq309 ⟨(by decide : ¬ ((1 : Int32) < (0 : Int32))), (by decide : (1 : Int32) < (2 : Int32))⟩) (g := (mkF m 39 #[.val (.int len), .val (.int c0), .val (.int c1)] [(.int c1), (.int (1 : Int32)), (.ref ca), (.ref ca), (.ref sb), (.ref sb)])) rfl rfl (hb hby own_d131)
      have N310 := Fr.snoc X307 N297 gn282
      have V311 : Arv Z h307 ca k281 .char (2 : Int32) [(.int (nar .char c0)), (.int (nar .char c1))] (.int (0 : Int32)) := Arv.set Aq309 qq309 Sq309 Mq309 Hq309 Uq309 (fits_nar_char _) W307 1 rfl (Nat.le_of_ble_eq_true rfl)
      have Kx307 : Keep h294 h307 [ca] := Keep.of_wr W307
      refine GoOn.step st307 ?_
      have O312 : Old Z n0 h307 := O299.keep Kx307 (allS gn282 all0)
      have Z313 : n0 ≤ h307.size := Nat.le_trans Z300 Kx307.1
      have K314 : Keep h0 h307 [] := K301.trans Kx307 ((allS (Or.inr sz283) all0))
      have C315 : CHr Z own_EL s.vm h0 s.vm h307 := CHr.trans C302 (CHr.keep Kx307 (allS (Safe.arv hZ.alike V298 (by decide)) all0) C302.1)
      have E316 : Exa Z h307 sb "java/lang/String" := E303.keep Kx307
      have F317 : Fld Z h307 sb "java/lang/String" "value" "[B" .null := F304.keep Kx307 (ninS ne284 nin0)
      have F318 : Fld Z h307 sb "java/lang/String" "coder" "B" (.int (0 : Int32)) := F305.keep Kx307 (ninS ne284 nin0)
      have hk319 := Nat.le_trans hk306 Kx307.1
      show GoOn p e below (T307.setTop (mkF m 40 #[.val (.int len), .val (.int c0), .val (.int c1)] [(.ref ca), (.ref sb), (.ref sb)])) _
      rw [nar_char_id hb0] at V311
      rw [nar_char_id hb1] at V311
      have hp320 : ∀ c ∈ ([c0, c1] : List Int32), ¬ c < 0 ∧ ¬ (255 : Int32) < c := by
        intro c hc
        simp only [List.mem_cons, List.not_mem_nil, or_false] at hc
        rcases hc with rfl | rfl
        · exact hb0
        · exact hb1
      obtain ⟨_, _, ⟨T321, L321, k321, n321⟩, -, X321, ⟨Lc321, hQ321, l321, y321, z321⟩, st321⟩ := X307.specialBack hx (y := (⟨"java/lang/String", "<init>", "([C)V"⟩ : MethodName)) rfl hown (mvT hZ (hw _ (List.mem_of_getElem? (i := 8) rfl))) (mvT hZ (hw _ (List.mem_of_getElem? (i := 9) rfl))) (mvT hZ (hw _ (List.mem_of_getElem? (i := 10) rfl))) (by decide) (StrChars.Road.backV (W := 1) hZ hws (kI := 4) (hw _ (List.mem_of_getElem? (i := 5) rfl)) (cs := ([c0, c1] : List Int32)) (bs := ([c0, c1] : List Int32).map (fun c => c.toInt8.toInt32)) (n := 2) gn272 Z313 E316 F317 F318 V311 (SC.ext O312.2) PC rfl rfl (by decide) (by decide) hp320 rfl (by decide) (by decide)) (g := (mkF m 40 #[.val (.int len), .val (.int c0), .val (.int c1)] [(.ref ca), (.ref sb), (.ref sb)])) rfl (by rw [hml]; rfl) (Steps.refl _) (a := sb) (argsL := [(.ref ca)]) (rest := [(.ref sb)]) (lenOf own_pd111 rfl) rfl (by show 2 * 0 + _ ≤ _; exact Nat.le_of_eq rfl) (hb hby own_d132) (fun _ _ => ⟨rfl, e307, (by decide : 2 + 1 ≤ _), (by decide : 6 + 2 ≤ _)⟩)
      dsimp only [Pt.U, Pt.locs, Pt.cells, Pt.slots] at X321 l321 y321 z321 st321 hQ321
      subst l321 y321 z321
      obtain ⟨rfl, N321, K321, E321, Fc321, t321, kb321, u321, v321, w321, Fv321, Va321⟩ := hQ321
      refine GoOn.trans st321 ?_
      have N322 := Fr.app N310 N321
      have O323 : Old Z n0 T321.heap := O312.keep K321 (allS gn272 all0)
      have Z324 : n0 ≤ T321.heap.size := Nat.le_trans Z313 K321.1
      have K325 : Keep h0 T321.heap [] := K314.trans K321 ((allS (Or.inr sz273) all0))
      have C326 : CHr Z own_EL s.vm h0 s.vm T321.heap := CHr.trans C315 (CHr.keep K321 (allS (Safe.ofNull hZ.alike E316 F317) all0) C315.1)
      have E327 : Exa Z T321.heap sb "java/lang/String" := E316.keep K321
      have V330 : Arv Z T321.heap ca k281 .char (2 : Int32) [(.int c0), (.int c1)] (.int (0 : Int32)) := V311.keep K321 (ninS (Ne.symm ne284) nin0)
      have hk331 := Nat.le_trans hk319 K321.1
      show GoOn p e below (T321.setTop (mkF m 43 #[.val (.int len), .val (.int c0), .val (.int c1)] [(.ref sb)])) _
      have Sr332 : StrIs Z T321.heap sb ([c0, c1] : List Int32) := ⟨E321, Fc321, hp320, (Nat.le_of_ble_eq_true rfl), t321, kb321, Fv321, Va321⟩
      refine GoOn.retH X321 hZ hS0 (hk331) hEL hh rfl C326 Bd.notSynchronized (v := some (.ref sb)) (fun h => by rw [Bd.returns] at h; cases h) (fun fs hr => retOut X321 hx Bd.returns rfl (Or.inr (Or.inr (Or.inr (Or.inr ⟨rfl, rfl, rfl⟩)))) (hb hby own_d133) hr) (by decide) (by decide) ?_
      exact ⟨_, rfl, N322, K325, by rw [if_neg hc229, if_neg hc263]; exact Sr332⟩
set_option maxRecDepth 65536 in
set_option maxHeartbeats 40000000 in
theorem rmCoder (l : Launch) (Z : State) (a0 : Array Value) (hw : ∀ d ∈ tables_1, d.before a0 Z = true) (a : Addr) (G1 : Int32) (h0 : Heap) (n0 : Nat) (Z0 : n0 ≤ h0.size) (SC : Sta Z Z.heap "java/lang/String" "COMPACT_STRINGS" "Z" (.int G1)) (PC : ¬ G1 = (0 : Int32)) (F0 : Fld Z h0 a "java/lang/String" "coder" "B" (.int 0)) (O0 : Old Z n0 h0) :
    MetFree l (⟨"java/lang/String", "coder", "()B"⟩ : MethodName) (head1 [Jvm.Cond.code (⟨"java/lang/String", "coder", "()B"⟩ : MethodName) jdk_42_method_152_code 1 (some .byte)] ({ frames := 0, cells := 0, slots := 0, locals := 0 } : Room)) (fun aa U => aa = #[(.ref a)] ∧ Z.Warmed39 U.vm ∧ U.heap = h0) (fun _ _ _ _ _ => True) (fun _ U o U' => ∃ v L, o = .returned v ∧ QSame (.int 0) h0 n0 v U'.heap L ∧ FrameEnd U o U' L ({ frames := 0, cells := 0, slots := 0, locals := 0 } : Room).cells ({ frames := 0, cells := 0, slots := 0, locals := 0 } : Room).slots) := by
  refine MetFree.of_bodySF (plainFor_of_name own_pn35) hisR ?_
  intro p e s m args below meth c s₁ Bd hml0 hP hK
  obtain ⟨rfl, hZ, hh⟩ := hP
  have hx := Bd.exec
  have hby := Bd.bytes
  have hml : c.maxLocals = 1 := hml0
  have hown : s.vm.findClass "java/lang/String" = some m.cls := findClass_of_methodNamed Bd.named
  have hnm := (name_of_methodNamed Bd.named Bd.method).1
  have X0 : Stand p l e ({ frames := 0, cells := 0, slots := 0, locals := 0 } : Room) s m #[(.ref a)] below meth c s₁ [] 0 0 := Stand.of_body Bd
  have e0 : s₁.heap = h0 := by rw [← hh, Bd.state]; rfl
  have N0 := Fr.nil n0
  have K0 : Keep h0 h0 [] := Keep.refl _ _
  show GoOn p e below (s₁.setTop (entryFrame m #[(.ref a)] 1)) (PostN s (QSame (.int 0) h0 n0) ({ frames := 0, cells := 0, slots := 0, locals := 0 } : Room).cells ({ frames := 0, cells := 0, slots := 0, locals := 0 } : Room).slots)
  refine GoOn.step (fun tq kq => castTop (own_ef134 m a) kq) ?_
  show GoOn p e below (s₁.setTop (mkF m 0 #[.val (.ref a)] [])) _
  obtain ⟨T333, X333, e333, st333⟩ := getS2 X0 hx hZ hown (host := "") (Or.inl (hw _ (List.mem_of_getElem? (i := 70) rfl))) Via.refl e0 (SC.ext O0.2) (g := (mkF m 0 #[.val (.ref a)] [])) rfl (hb hby own_d135)
  refine GoOn.step st333 ?_
  refine GoOn.step (fun tq kq => XS.ifNo X333.here hx rfl (hb hby own_d136) rfl ((if0 _ _).trans (feq PC).1) kq) ?_
  refine GoOn.step (fun tq kq => XS.aloadN X333.here hx rfl (hb hby own_d137) rfl rfl kq) ?_
  show GoOn p e below (T333.setTop (mkF m 7 #[.val (.ref a)] [(.ref a)])) _
  obtain ⟨T334, X334, e334, st334⟩ := getF X333 hx hZ hown (host := "") (Or.inl (hw _ (List.mem_of_getElem? (i := 25) rfl))) Via.refl e333 F0 (g := (mkF m 7 #[.val (.ref a)] [(.ref a)])) rfl rfl (hb hby own_d138)
  refine GoOn.step st334 ?_
  refine GoOn.step (fun tq kq => XS.goto X334.here hx rfl (pc0 := 10) (pc' := 14) rfl (hb hby own_d139) (by decide) (by decide) kq) ?_
  show GoOn p e below (T334.setTop (mkF m 14 #[.val (.ref a)] [(.int 0)])) _
  refine GoOn.ret X334 Bd.notSynchronized (v := some (.int (nar .byte 0))) (fun h => by rw [Bd.returns] at h; cases h) (fun fs hr => retN X334 hx (t := .byte) Bd.returns (by simp) (hb hby own_d140) hr) (by decide) (by decide) ?_
  rw [e334]
  exact ⟨rfl, N0, rfl⟩
set_option maxRecDepth 65536 in
set_option maxHeartbeats 40000000 in
theorem rmLen (l : Launch) (Z : State) (a0 : Array Value) (hw : ∀ d ∈ tables_1, d.before a0 Z = true) (a : Addr) (ds : List Int32) (G1 : Int32) (h0 : Heap) (n0 : Nat) (Z0 : n0 ≤ h0.size) (SC : Sta Z Z.heap "java/lang/String" "COMPACT_STRINGS" "Z" (.int G1)) (PC : ¬ G1 = (0 : Int32)) (S0 : StrIs Z h0 a ds) (O0 : Old Z n0 h0) :
    MetFree l (⟨"java/lang/String", "length", "()I"⟩ : MethodName) (head1 [Jvm.Cond.code (⟨"java/lang/String", "length", "()I"⟩ : MethodName) jdk_42_method_54_code 1 (some .int)] ({ frames := 1, cells := 0, slots := 0, locals := 13 } : Room)) (fun aa U => aa = #[(.ref a)] ∧ Z.Warmed39 U.vm ∧ U.heap = h0) (fun _ _ _ _ _ => True) (fun _ U o U' => ∃ v L, o = .returned v ∧ QSame (.int (Int32.ofNat ds.length)) h0 n0 v U'.heap L ∧ FrameEnd U o U' L ({ frames := 1, cells := 0, slots := 0, locals := 13 } : Room).cells ({ frames := 1, cells := 0, slots := 0, locals := 13 } : Room).slots) := by
  refine MetFree.of_bodySF (plainFor_of_name own_pn35) hisR ?_
  intro p e s m args below meth c s₁ Bd hml0 hP hK
  obtain ⟨rfl, hZ, hh⟩ := hP
  have hx := Bd.exec
  have hby := Bd.bytes
  have hml : c.maxLocals = 1 := hml0
  have hown : s.vm.findClass "java/lang/String" = some m.cls := findClass_of_methodNamed Bd.named
  have hnm := (name_of_methodNamed Bd.named Bd.method).1
  have X0 : Stand p l e ({ frames := 1, cells := 0, slots := 0, locals := 13 } : Room) s m #[(.ref a)] below meth c s₁ [] 0 0 := Stand.of_body Bd
  have e0 : s₁.heap = h0 := by rw [← hh, Bd.state]; rfl
  have N0 := Fr.nil n0
  have K0 : Keep h0 h0 [] := Keep.refl _ _
  show GoOn p e below (s₁.setTop (entryFrame m #[(.ref a)] 1)) (PostN s (QSame (.int (Int32.ofNat ds.length)) h0 n0) ({ frames := 1, cells := 0, slots := 0, locals := 13 } : Room).cells ({ frames := 1, cells := 0, slots := 0, locals := 13 } : Room).slots)
  refine GoOn.step (fun tq kq => castTop (own_ef141 m a) kq) ?_
  show GoOn p e below (s₁.setTop (mkF m 0 #[.val (.ref a)] [])) _
  obtain ⟨Eq, Cq, hp, hl, sv, kq, Fq, Vq⟩ := S0
  refine GoOn.step (fun tq kq => XS.aloadN X0.here hx rfl (hb hby own_d142) rfl rfl kq) ?_
  show GoOn p e below (s₁.setTop (mkF m 1 #[.val (.ref a)] [(.ref a)])) _
  obtain ⟨T335, X335, e335, st335⟩ := getF X0 hx hZ hown (host := "") (Or.inl (hw _ (List.mem_of_getElem? (i := 24) rfl))) Via.refl e0 Fq (g := (mkF m 1 #[.val (.ref a)] [(.ref a)])) rfl rfl (hb hby own_d143)
  refine GoOn.step st335 ?_
  refine GoOn.step (fun tq kq => alenA X335 hx hZ e335 Vq (g := (mkF m 4 #[.val (.ref a)] [(.ref sv)])) rfl rfl (hb hby own_d144) _ kq) ?_
  refine GoOn.step (fun tq kq => XS.aloadN X335.here hx rfl (hb hby own_d145) rfl rfl kq) ?_
  show GoOn p e below (T335.setTop (mkF m 6 #[.val (.ref a)] [(.ref a), (.int (Int32.ofNat ds.length))])) _
  obtain ⟨cqc337, kqc337, qac337, qbc337, qcc337⟩ := isOf hZ e335 Eq
  obtain ⟨_, _, ⟨T336, L336, k336, n336⟩, -, X336, ⟨Lc336, hQ336, l336, y336, z336⟩, st336⟩ := X335.virtualBack hx (y := (⟨"java/lang/String", "coder", "()B"⟩ : MethodName)) (z := (⟨"java/lang/String", "coder", "()B"⟩ : MethodName)) hown (mvT hZ (hw _ (List.mem_of_getElem? (i := 65) rfl))) (mvT hZ (hw _ (List.mem_of_getElem? (i := 66) rfl))) (notFace_of_selects (args := #[]) (mvT hZ (hw _ (List.mem_of_getElem? (i := 68) rfl)))) (mvT hZ (hw _ (List.mem_of_getElem? (i := 68) rfl))) (mvT hZ (hw _ (List.mem_of_getElem? (i := 67) rfl))) (by decide) (backOf (W := 1) (rmCoder l Z a0 hw a G1 h0 n0 Z0 SC PC Cq O0) hZ (hw _ (List.mem_of_getElem? (i := 69) rfl)) (hw _ (List.mem_of_getElem? (i := 6) rfl)) (by decide) (by decide)) qac337 qcc337 (g := (mkF m 6 #[.val (.ref a)] [(.ref a), (.int (Int32.ofNat ds.length))])) rfl (by rw [hml]; rfl) (Steps.refl _) (argsL := []) (rest := [(.int (Int32.ofNat ds.length))]) (lenOf own_pd147 rfl) rfl (by show 2 * 0 + _ ≤ _; exact Nat.le_of_eq rfl) (hb hby own_d146) (fun _ _ => ⟨rfl, e335, (by decide : 0 + 0 ≤ _), (by decide : 0 + 0 ≤ _)⟩)
  dsimp only [Pt.U, Pt.locs, Pt.cells, Pt.slots] at X336 l336 y336 z336 st336 hQ336
  subst l336 y336 z336
  obtain ⟨rfl, N336, e336⟩ := hQ336
  refine GoOn.trans st336 ?_
  have N338 := Fr.app N0 N336
  refine GoOn.step (fun tq kq => XS.ishr X336.here hx rfl (hb hby own_d148) rfl kq) ?_
  show GoOn p e below (T336.setTop (mkF m 10 #[.val (.ref a)] [(.int ((Int32.ofNat ds.length) >>> ((0 : Int32) &&& 31)))])) _
  rw [own_shr0]
  show GoOn p e below (T336.setTop (mkF m 10 #[.val (.ref a)] [(.int (Int32.ofNat ds.length))])) _
  refine GoOn.ret X336 Bd.notSynchronized (v := some (.int (Int32.ofNat ds.length))) (fun h => by rw [Bd.returns] at h; cases h) (fun fs hr => retI X336 hx Bd.returns (hb hby own_d149) hr) (by decide) (by decide) ?_
  rw [e336]
  exact ⟨rfl, N338, rfl⟩
set_option maxRecDepth 65536 in
set_option maxHeartbeats 40000000 in
theorem rmEns (l : Launch) (Z : State) (a0 : Array Value) (hw : ∀ d ∈ tables_1, d.before a0 Z = true) (b t : Addr) (kb : ClassId) (cap k : Nat) (vs : List Value) (h0 : Heap) (n0 : Nat) (Z0 : n0 ≤ h0.size) (F0c : Fld Z h0 b "java/lang/AbstractStringBuilder" "coder" "B" (.int 0)) (F0v : Fld Z h0 b "java/lang/AbstractStringBuilder" "value" "[B" (.ref t)) (V0 : Arv Z h0 t kb .byte (Int32.ofNat cap) vs (.int 0)) (hk : k ≤ cap) (hc4 : cap ≤ 4000) :
    MetFree l (⟨"java/lang/AbstractStringBuilder", "ensureCapacityInternal", "(I)V"⟩ : MethodName) (head1 [Jvm.Cond.code (⟨"java/lang/AbstractStringBuilder", "ensureCapacityInternal", "(I)V"⟩ : MethodName) jdk_68_method_9_code 3 none] ({ frames := 0, cells := 0, slots := 0, locals := 0 } : Room)) (fun aa U => aa = #[(.ref b), (.int (Int32.ofNat k))] ∧ Z.Warmed39 U.vm ∧ U.heap = h0) (fun _ _ _ _ _ => True) (fun _ U o U' => ∃ v L, o = .returned v ∧ QNone h0 n0 v U'.heap L ∧ FrameEnd U o U' L ({ frames := 0, cells := 0, slots := 0, locals := 0 } : Room).cells ({ frames := 0, cells := 0, slots := 0, locals := 0 } : Room).slots) := by
  refine MetFree.of_bodySF (plainFor_of_name own_pn151) hisR ?_
  intro p e s m args below meth c s₁ Bd hml0 hP hK
  obtain ⟨rfl, hZ, hh⟩ := hP
  have hx := Bd.exec
  have hby := Bd.bytes
  have hml : c.maxLocals = 3 := hml0
  have hown : s.vm.findClass "java/lang/AbstractStringBuilder" = some m.cls := findClass_of_methodNamed Bd.named
  have hnm := (name_of_methodNamed Bd.named Bd.method).1
  have X0 : Stand p l e ({ frames := 0, cells := 0, slots := 0, locals := 0 } : Room) s m #[(.ref b), (.int (Int32.ofNat k))] below meth c s₁ [] 0 0 := Stand.of_body Bd
  have e0 : s₁.heap = h0 := by rw [← hh, Bd.state]; rfl
  have N0 := Fr.nil n0
  have K0 : Keep h0 h0 [] := Keep.refl _ _
  show GoOn p e below (s₁.setTop (entryFrame m #[(.ref b), (.int (Int32.ofNat k))] 3)) (PostN s (QNone h0 n0) ({ frames := 0, cells := 0, slots := 0, locals := 0 } : Room).cells ({ frames := 0, cells := 0, slots := 0, locals := 0 } : Room).slots)
  refine GoOn.step (fun tq kq => castTop (own_ef150 m b (Int32.ofNat k)) kq) ?_
  refine GoOn.step (fun tq kq => XS.aloadN X0.here hx rfl (hb hby own_d152) rfl rfl kq) ?_
  show GoOn p e below (s₁.setTop (mkF m 1 #[.val (.ref b), .val (.int (Int32.ofNat k)), .unset] [(.ref b)])) _
  obtain ⟨T339, X339, e339, st339⟩ := getF X0 hx hZ hown (host := "") (Or.inl (hw _ (List.mem_of_getElem? (i := 46) rfl))) Via.refl e0 F0v (g := (mkF m 1 #[.val (.ref b), .val (.int (Int32.ofNat k)), .unset] [(.ref b)])) rfl rfl (hb hby own_d153)
  refine GoOn.step st339 ?_
  refine GoOn.step (fun tq kq => alenA X339 hx hZ e339 V0 (g := (mkF m 4 #[.val (.ref b), .val (.int (Int32.ofNat k)), .unset] [(.ref t)])) rfl rfl (hb hby own_d154) _ kq) ?_
  refine GoOn.step (fun tq kq => XS.aloadN X339.here hx rfl (hb hby own_d155) rfl rfl kq) ?_
  show GoOn p e below (T339.setTop (mkF m 6 #[.val (.ref b), .val (.int (Int32.ofNat k)), .unset] [(.ref b), (.int (Int32.ofNat cap))])) _
  obtain ⟨T340, X340, e340, st340⟩ := getF X339 hx hZ hown (host := "") (Or.inl (hw _ (List.mem_of_getElem? (i := 48) rfl))) Via.refl e339 F0c (g := (mkF m 6 #[.val (.ref b), .val (.int (Int32.ofNat k)), .unset] [(.ref b), (.int (Int32.ofNat cap))])) rfl rfl (hb hby own_d156)
  refine GoOn.step st340 ?_
  refine GoOn.step (fun tq kq => XS.ishr X340.here hx rfl (hb hby own_d157) rfl kq) ?_
  refine GoOn.step (fun tq kq => XS.istoreN X340.here hx rfl (hb hby own_d158) rfl (l' := #[.val (.ref b), .val (.int (Int32.ofNat k)), .val (.int ((Int32.ofNat cap) >>> (0 &&& 31)))]) rfl kq) ?_
  refine GoOn.step (fun tq kq => XS.iloadN X340.here hx rfl (hb hby own_d159) rfl kq) ?_
  refine GoOn.step (fun tq kq => XS.iloadN X340.here hx rfl (hb hby own_d160) rfl kq) ?_
  refine GoOn.step (fun tq kq => XS.isub X340.here hx rfl (hb hby own_d161) rfl kq) ?_
  show GoOn p e below (T340.setTop (mkF m 14 #[.val (.ref b), .val (.int (Int32.ofNat k)), .val (.int ((Int32.ofNat cap) >>> (0 &&& 31)))] [(.int ((Int32.ofNat k) - ((Int32.ofNat cap) >>> (0 &&& 31))))])) _
  rw [own_shr0]
  refine GoOn.step (fun tq kq => XS.ifYes X340.here hx rfl (pc0 := 14) (pc' := 38) rfl (hb hby own_d162) rfl ((if0 _ _).trans (flt (own_fit hk hc4)).2.2.2) (by decide) (by decide) kq) ?_
  show GoOn p e below (T340.setTop (mkF m 38 #[.val (.ref b), .val (.int (Int32.ofNat k)), .val (.int (Int32.ofNat cap))] [])) _
  refine GoOn.ret X340 Bd.notSynchronized (v := none) (fun _ => rfl) (fun fs hr => X340.returnOut hx Bd.returns (hb hby own_d163) hr) (by decide) (by decide) ?_
  rw [e340]
  exact ⟨rfl, N0, rfl⟩
set_option maxRecDepth 65536 in
set_option maxHeartbeats 40000000 in
theorem rmInfl (l : Launch) (Z : State) (a0 : Array Value) (hw : ∀ d ∈ tables_1, d.before a0 Z = true) (a b : Addr) (ds : List Int32) (G1 : Int32) (h0 : Heap) (n0 : Nat) (Z0 : n0 ≤ h0.size) (SC : Sta Z Z.heap "java/lang/String" "COMPACT_STRINGS" "Z" (.int G1)) (PC : ¬ G1 = (0 : Int32)) (F0c : Fld Z h0 b "java/lang/AbstractStringBuilder" "coder" "B" (.int 0)) (S0 : StrIs Z h0 a ds) (O0 : Old Z n0 h0) :
    MetFree l (⟨"java/lang/AbstractStringBuilder", "inflateIfNeededFor", "(Ljava/lang/String;)V"⟩ : MethodName) (head1 [Jvm.Cond.code (⟨"java/lang/AbstractStringBuilder", "inflateIfNeededFor", "(Ljava/lang/String;)V"⟩ : MethodName) jdk_68_method_71_code 2 none] ({ frames := 1, cells := 0, slots := 0, locals := 13 } : Room)) (fun aa U => aa = #[(.ref b), (.ref a)] ∧ Z.Warmed39 U.vm ∧ U.heap = h0) (fun _ _ _ _ _ => True) (fun _ U o U' => ∃ v L, o = .returned v ∧ QNone h0 n0 v U'.heap L ∧ FrameEnd U o U' L ({ frames := 1, cells := 0, slots := 0, locals := 13 } : Room).cells ({ frames := 1, cells := 0, slots := 0, locals := 13 } : Room).slots) := by
  refine MetFree.of_bodySF (plainFor_of_name own_pn151) hisR ?_
  intro p e s m args below meth c s₁ Bd hml0 hP hK
  obtain ⟨rfl, hZ, hh⟩ := hP
  have hx := Bd.exec
  have hby := Bd.bytes
  have hml : c.maxLocals = 2 := hml0
  have hown : s.vm.findClass "java/lang/AbstractStringBuilder" = some m.cls := findClass_of_methodNamed Bd.named
  have hnm := (name_of_methodNamed Bd.named Bd.method).1
  have X0 : Stand p l e ({ frames := 1, cells := 0, slots := 0, locals := 13 } : Room) s m #[(.ref b), (.ref a)] below meth c s₁ [] 0 0 := Stand.of_body Bd
  have e0 : s₁.heap = h0 := by rw [← hh, Bd.state]; rfl
  have N0 := Fr.nil n0
  have K0 : Keep h0 h0 [] := Keep.refl _ _
  show GoOn p e below (s₁.setTop (entryFrame m #[(.ref b), (.ref a)] 2)) (PostN s (QNone h0 n0) ({ frames := 1, cells := 0, slots := 0, locals := 13 } : Room).cells ({ frames := 1, cells := 0, slots := 0, locals := 13 } : Room).slots)
  refine GoOn.step (fun tq kq => castTop (own_ef164 m b a) kq) ?_
  show GoOn p e below (s₁.setTop (mkF m 0 #[.val (.ref b), .val (.ref a)] [])) _
  obtain ⟨Eq, Cq, hp, hl, sv, kq, Fq, Vq⟩ := S0
  obtain ⟨T341, X341, e341, st341⟩ := getS2 X0 hx hZ hown (host := "") (Or.inl (hw _ (List.mem_of_getElem? (i := 45) rfl))) Via.refl e0 (SC.ext O0.2) (g := (mkF m 0 #[.val (.ref b), .val (.ref a)] [])) rfl (hb hby own_d165)
  refine GoOn.step st341 ?_
  refine GoOn.step (fun tq kq => XS.ifNo X341.here hx rfl (hb hby own_d166) rfl ((if0 _ _).trans (feq PC).1) kq) ?_
  refine GoOn.step (fun tq kq => XS.aloadN X341.here hx rfl (hb hby own_d167) rfl rfl kq) ?_
  show GoOn p e below (T341.setTop (mkF m 7 #[.val (.ref b), .val (.ref a)] [(.ref b)])) _
  obtain ⟨T342, X342, e342, st342⟩ := getF X341 hx hZ hown (host := "") (Or.inl (hw _ (List.mem_of_getElem? (i := 48) rfl))) Via.refl e341 F0c (g := (mkF m 7 #[.val (.ref b), .val (.ref a)] [(.ref b)])) rfl rfl (hb hby own_d168)
  refine GoOn.step st342 ?_
  refine GoOn.step (fun tq kq => XS.aloadN X342.here hx rfl (hb hby own_d169) rfl rfl kq) ?_
  show GoOn p e below (T342.setTop (mkF m 11 #[.val (.ref b), .val (.ref a)] [(.ref a), (.int 0)])) _
  obtain ⟨cqc344, kqc344, qac344, qbc344, qcc344⟩ := isOf hZ e342 Eq
  obtain ⟨_, _, ⟨T343, L343, k343, n343⟩, -, X343, ⟨Lc343, hQ343, l343, y343, z343⟩, st343⟩ := X342.virtualBack hx (y := (⟨"java/lang/String", "coder", "()B"⟩ : MethodName)) (z := (⟨"java/lang/String", "coder", "()B"⟩ : MethodName)) hown (mvT hZ (hw _ (List.mem_of_getElem? (i := 88) rfl))) (mvT hZ (hw _ (List.mem_of_getElem? (i := 66) rfl))) (notFace_of_selects (args := #[]) (mvT hZ (hw _ (List.mem_of_getElem? (i := 68) rfl)))) (mvT hZ (hw _ (List.mem_of_getElem? (i := 68) rfl))) (mvT hZ (hw _ (List.mem_of_getElem? (i := 67) rfl))) (by decide) (backOf (W := 1) (rmCoder l Z a0 hw a G1 h0 n0 Z0 SC PC Cq O0) hZ (hw _ (List.mem_of_getElem? (i := 69) rfl)) (hw _ (List.mem_of_getElem? (i := 6) rfl)) (by decide) (by decide)) qac344 qcc344 (g := (mkF m 11 #[.val (.ref b), .val (.ref a)] [(.ref a), (.int 0)])) rfl (by rw [hml]; rfl) (Steps.refl _) (argsL := []) (rest := [(.int 0)]) (lenOf own_pd147 rfl) rfl (by show 2 * 0 + _ ≤ _; exact Nat.le_of_eq rfl) (hb hby own_d170) (fun _ _ => ⟨rfl, e342, (by decide : 0 + 0 ≤ _), (by decide : 0 + 0 ≤ _)⟩)
  dsimp only [Pt.U, Pt.locs, Pt.cells, Pt.slots] at X343 l343 y343 z343 st343 hQ343
  subst l343 y343 z343
  obtain ⟨rfl, N343, e343⟩ := hQ343
  refine GoOn.trans st343 ?_
  have N345 := Fr.app N0 N343
  refine GoOn.step (fun tq kq => XS.icmpYes X343.here hx rfl (pc0 := 14) (pc' := 21) rfl (hb hby own_d171) rfl (teq rfl).1 (by decide) (by decide) kq) ?_
  show GoOn p e below (T343.setTop (mkF m 21 #[.val (.ref b), .val (.ref a)] [])) _
  refine GoOn.ret X343 Bd.notSynchronized (v := none) (fun _ => rfl) (fun fs hr => X343.returnOut hx Bd.returns (hb hby own_d172) hr) (by decide) (by decide) ?_
  rw [e343]
  exact ⟨rfl, N345, rfl⟩
def QGetB (Z : State) (t : Addr) (kb : ClassId) (cap : Nat) (es : List Int32) (h0 : Heap) (n0 : Nat) (v : Option Value) (h : Heap) (L : List Loc) : Prop := v = none ∧ Fr n0 L ∧ Keep h0 h [t] ∧ Arv Z h t kb .byte (Int32.ofNat cap) (own_sb cap es) (.int 0)
set_option maxRecDepth 65536 in
set_option maxHeartbeats 40000000 in
theorem rmGetB (l : Launch) (Z : State) (a0 : Array Value) (hw : ∀ d ∈ tables_1, d.before a0 Z = true) (a t : Addr) (kb : ClassId) (cap : Nat) (cs ds : List Int32) (G1 : Int32) (h0 : Heap) (n0 : Nat) (Z0 : n0 ≤ h0.size) (SC : Sta Z Z.heap "java/lang/String" "COMPACT_STRINGS" "Z" (.int G1)) (PC : ¬ G1 = (0 : Int32)) (V0 : Arv Z h0 t kb .byte (Int32.ofNat cap) (own_sb cap cs) (.int 0)) (S0 : StrIs Z h0 a ds) (gt : n0 ≤ t) (hsv : ∀ sv : Addr, Fld Z h0 a "java/lang/String" "value" "[B" (.ref sv) → sv ≠ t) (hcap : cs.length + ds.length ≤ cap) (hc4 : cap ≤ 4000) (O0 : Old Z n0 h0) :
    MetFree l (⟨"java/lang/String", "getBytes", "([BIB)V"⟩ : MethodName) (head1 [Jvm.Cond.code (⟨"java/lang/String", "getBytes", "([BIB)V"⟩ : MethodName) jdk_42_method_147_code 4 none] ({ frames := 1, cells := 0, slots := 0, locals := 18 } : Room)) (fun aa U => aa = #[(.ref a), (.ref t), (.int (Int32.ofNat cs.length)), (.int (0 : Int32))] ∧ Z.Warmed39 U.vm ∧ U.heap = h0) (fun _ _ _ _ _ => True) (fun _ U o U' => ∃ v L, o = .returned v ∧ QGetB Z t kb cap (cs ++ ds) h0 n0 v U'.heap L ∧ FrameEnd U o U' L ({ frames := 1, cells := 0, slots := 0, locals := 18 } : Room).cells ({ frames := 1, cells := 0, slots := 0, locals := 18 } : Room).slots) := by
  refine MetFree.of_bodySF (plainFor_of_name own_pn35) hisR ?_
  intro p e s m args below meth c s₁ Bd hml0 hP hK
  obtain ⟨rfl, hZ, hh⟩ := hP
  have hx := Bd.exec
  have hby := Bd.bytes
  have hml : c.maxLocals = 4 := hml0
  have hown : s.vm.findClass "java/lang/String" = some m.cls := findClass_of_methodNamed Bd.named
  have hnm := (name_of_methodNamed Bd.named Bd.method).1
  have X0 : Stand p l e ({ frames := 1, cells := 0, slots := 0, locals := 18 } : Room) s m #[(.ref a), (.ref t), (.int (Int32.ofNat cs.length)), (.int (0 : Int32))] below meth c s₁ [] 0 0 := Stand.of_body Bd
  have e0 : s₁.heap = h0 := by rw [← hh, Bd.state]; rfl
  have N0 := Fr.nil n0
  have K0 : Keep h0 h0 [] := Keep.refl _ _
  show GoOn p e below (s₁.setTop (entryFrame m #[(.ref a), (.ref t), (.int (Int32.ofNat cs.length)), (.int (0 : Int32))] 4)) (PostN s (QGetB Z t kb cap (cs ++ ds) h0 n0) ({ frames := 1, cells := 0, slots := 0, locals := 18 } : Room).cells ({ frames := 1, cells := 0, slots := 0, locals := 18 } : Room).slots)
  refine GoOn.step (fun tq kq => castTop (own_ef173 m a t (Int32.ofNat cs.length) (0 : Int32)) kq) ?_
  show GoOn p e below (s₁.setTop (mkF m 0 #[.val (.ref a), .val (.ref t), .val (.int (Int32.ofNat cs.length)), .val (.int (0 : Int32))] [])) _
  obtain ⟨Eq, Cq, hp, hl, sv, kq, Fq, Vq⟩ := S0
  have nsv : sv ≠ t := hsv _ Fq
  have nat : a ≠ t := Exa.neArv Eq V0 (hw _ (List.mem_of_getElem? (i := 5) rfl))
  have K0t : Keep h0 h0 [t] := Keep.refl _ _
  refine GoOn.step (fun tq kq => XS.aloadN X0.here hx rfl (hb hby own_d174) rfl rfl kq) ?_
  show GoOn p e below (s₁.setTop (mkF m 1 #[.val (.ref a), .val (.ref t), .val (.int (Int32.ofNat cs.length)), .val (.int (0 : Int32))] [(.ref a)])) _
  obtain ⟨cqc347, kqc347, qac347, qbc347, qcc347⟩ := isOf hZ e0 Eq
  obtain ⟨_, _, ⟨T346, L346, k346, n346⟩, -, X346, ⟨Lc346, hQ346, l346, y346, z346⟩, st346⟩ := X0.virtualBack hx (y := (⟨"java/lang/String", "coder", "()B"⟩ : MethodName)) (z := (⟨"java/lang/String", "coder", "()B"⟩ : MethodName)) hown (mvT hZ (hw _ (List.mem_of_getElem? (i := 65) rfl))) (mvT hZ (hw _ (List.mem_of_getElem? (i := 66) rfl))) (notFace_of_selects (args := #[]) (mvT hZ (hw _ (List.mem_of_getElem? (i := 68) rfl)))) (mvT hZ (hw _ (List.mem_of_getElem? (i := 68) rfl))) (mvT hZ (hw _ (List.mem_of_getElem? (i := 67) rfl))) (by decide) (backOf (W := 0) (rmCoder l Z a0 hw a G1 h0 n0 Z0 SC PC Cq O0) hZ (hw _ (List.mem_of_getElem? (i := 69) rfl)) (hw _ (List.mem_of_getElem? (i := 6) rfl)) (by decide) (by decide)) qac347 qcc347 (g := (mkF m 1 #[.val (.ref a), .val (.ref t), .val (.int (Int32.ofNat cs.length)), .val (.int (0 : Int32))] [(.ref a)])) rfl (by rw [hml]; rfl) (Steps.refl _) (argsL := []) (rest := []) (lenOf own_pd147 rfl) rfl (by show 2 * 0 + _ ≤ _; exact Nat.le_of_eq rfl) (hb hby own_d175) (fun _ _ => ⟨rfl, e0, (by decide : 0 + 0 ≤ _), (by decide : 0 + 0 ≤ _)⟩)
  dsimp only [Pt.U, Pt.locs, Pt.cells, Pt.slots] at X346 l346 y346 z346 st346 hQ346
  subst l346 y346 z346
  obtain ⟨rfl, N346, e346⟩ := hQ346
  refine GoOn.trans st346 ?_
  have N348 := Fr.app N0 N346
  refine GoOn.step (fun tq kq => XS.iloadN X346.here hx rfl (hb hby own_d176) rfl kq) ?_
  refine GoOn.step (fun tq kq => XS.icmpNo X346.here hx rfl (hb hby own_d177) rfl (teq rfl).2 kq) ?_
  refine GoOn.step (fun tq kq => XS.aloadN X346.here hx rfl (hb hby own_d178) rfl rfl kq) ?_
  show GoOn p e below (T346.setTop (mkF m 9 #[.val (.ref a), .val (.ref t), .val (.int (Int32.ofNat cs.length)), .val (.int (0 : Int32))] [(.ref a)])) _
  obtain ⟨T349, X349, e349, st349⟩ := getF X346 hx hZ hown (host := "") (Or.inl (hw _ (List.mem_of_getElem? (i := 24) rfl))) Via.refl e346 Fq (g := (mkF m 9 #[.val (.ref a), .val (.ref t), .val (.int (Int32.ofNat cs.length)), .val (.int (0 : Int32))] [(.ref a)])) rfl rfl (hb hby own_d179)
  refine GoOn.step st349 ?_
  refine GoOn.step (fun tq kq => XS.iconst X349.here hx rfl (hb hby own_d180) kq) ?_
  refine GoOn.step (fun tq kq => XS.aloadN X349.here hx rfl (hb hby own_d181) rfl rfl kq) ?_
  refine GoOn.step (fun tq kq => XS.iloadN X349.here hx rfl (hb hby own_d182) rfl kq) ?_
  refine GoOn.step (fun tq kq => XS.iloadN X349.here hx rfl (hb hby own_d183) rfl kq) ?_
  refine GoOn.step (fun tq kq => XS.ishl X349.here hx rfl (hb hby own_d184) rfl kq) ?_
  refine GoOn.step (fun tq kq => XS.aloadN X349.here hx rfl (hb hby own_d185) rfl rfl kq) ?_
  show GoOn p e below (T349.setTop (mkF m 18 #[.val (.ref a), .val (.ref t), .val (.int (Int32.ofNat cs.length)), .val (.int (0 : Int32))] [(.ref a), (.int ((Int32.ofNat cs.length) <<< ((0 : Int32) &&& 31))), (.ref t), (.int (0 : Int32)), (.ref sv)])) _
  rw [own_shl0]
  show GoOn p e below (T349.setTop (mkF m 18 #[.val (.ref a), .val (.ref t), .val (.int (Int32.ofNat cs.length)), .val (.int (0 : Int32))] [(.ref a), (.int (Int32.ofNat cs.length)), (.ref t), (.int (0 : Int32)), (.ref sv)])) _
  obtain ⟨T350, X350, e350, st350⟩ := getF X349 hx hZ hown (host := "") (Or.inl (hw _ (List.mem_of_getElem? (i := 24) rfl))) Via.refl e349 Fq (g := (mkF m 18 #[.val (.ref a), .val (.ref t), .val (.int (Int32.ofNat cs.length)), .val (.int (0 : Int32))] [(.ref a), (.int (Int32.ofNat cs.length)), (.ref t), (.int (0 : Int32)), (.ref sv)])) rfl rfl (hb hby own_d186)
  refine GoOn.step st350 ?_
  refine GoOn.step (fun tq kq => alenA X350 hx hZ e350 Vq (g := (mkF m 21 #[.val (.ref a), .val (.ref t), .val (.int (Int32.ofNat cs.length)), .val (.int (0 : Int32))] [(.ref sv), (.int (Int32.ofNat cs.length)), (.ref t), (.int (0 : Int32)), (.ref sv)])) rfl rfl (hb hby own_d187) _ kq) ?_
  show GoOn p e below (T350.setTop (mkF m 22 #[.val (.ref a), .val (.ref t), .val (.int (Int32.ofNat cs.length)), .val (.int (0 : Int32))] [(.int (Int32.ofNat ds.length)), (.int (Int32.ofNat cs.length)), (.ref t), (.int (0 : Int32)), (.ref sv)])) _
  have hcs : cs.length ≤ 4000 := by omega
  have hds : ds.length ≤ 4000 := by omega
  obtain ⟨T351, h351, L351, X351, e351, N351, K351, Vc351, st351⟩ := cpA X350 hx hZ hown (hw _ (List.mem_of_getElem? (i := 94) rfl)) (hw _ (List.mem_of_getElem? (i := 97) rfl)) (hw _ (List.mem_of_getElem? (i := 95) rfl)) (hw _ (List.mem_of_getElem? (i := 96) rfl)) e350 Vq V0 (Or.inl ⟨rfl, rfl⟩) (by decide) (own_nn hcs) (own_nn hds) (by rw [own_z0]; simp) (by rw [own_ns hcs, own_ns hds, own_ns hc4]; exact hcap) rfl (by rw [own_ns hcs, own_ns hds, own_sbl (by omega)]; exact hcap) N348 gt (g := (mkF m 22 #[.val (.ref a), .val (.ref t), .val (.int (Int32.ofNat cs.length)), .val (.int (0 : Int32))] [(.int (Int32.ofNat ds.length)), (.int (Int32.ofNat cs.length)), (.ref t), (.int (0 : Int32)), (.ref sv)])) rfl (by rw [hml]; rfl) rfl (hb hby own_d188) (by decide) (W := 0) (by show 2 * 0 + _ ≤ _; exact Nat.le_of_eq rfl) (by decide)
  have V352 : Arv Z h351 t kb .byte (Int32.ofNat cap) (own_sb cap (cs ++ ds)) (.int 0) := by rw [← own_app hcap hc4]; exact Vc351
  refine GoOn.step st351 ?_
  have O353 : Old Z n0 h351 := O0.keep K351 (allS gt all0)
  have Z354 : n0 ≤ h351.size := Nat.le_trans Z0 K351.1
  have E355 : Exa Z h351 a "java/lang/String" := Eq.keep K351
  have F356 : Fld Z h351 a "java/lang/String" "coder" "B" (.int 0) := Cq.keep K351 (ninS nat nin0)
  have F357 : Fld Z h351 a "java/lang/String" "value" "[B" (.ref sv) := Fq.keep K351 (ninS nat nin0)
  have V358 : Arv Z h351 sv kq .byte (Int32.ofNat ds.length) (own_bs ds) (.int 0) := Vq.keep K351 (ninS nsv nin0)
  have K359 : Keep h0 h351 [t] := K0t.trans K351 ((allS (Or.inl (by simp)) all0))
  refine GoOn.step (fun tq kq => XS.goto X351.here hx rfl (pc0 := 25) (pc' := 43) rfl (hb hby own_d189) (by decide) (by decide) kq) ?_
  show GoOn p e below (T351.setTop (mkF m 43 #[.val (.ref a), .val (.ref t), .val (.int (Int32.ofNat cs.length)), .val (.int (0 : Int32))] [])) _
  refine GoOn.ret X351 Bd.notSynchronized (v := none) (fun _ => rfl) (fun fs hr => X351.returnOut hx Bd.returns (hb hby own_d190) hr) (by decide) (by decide) ?_
  rw [e351]
  exact ⟨rfl, N351, K359, V352⟩
set_option maxRecDepth 65536 in
set_option maxHeartbeats 40000000 in
theorem rmPut (l : Launch) (Z : State) (a0 : Array Value) (hw : ∀ d ∈ tables_1, d.before a0 Z = true) (a b t : Addr) (kb : ClassId) (cap : Nat) (cs ds : List Int32) (G1 : Int32) (h0 : Heap) (n0 : Nat) (Z0 : n0 ≤ h0.size) (SC : Sta Z Z.heap "java/lang/String" "COMPACT_STRINGS" "Z" (.int G1)) (PC : ¬ G1 = (0 : Int32)) (F0c : Fld Z h0 b "java/lang/AbstractStringBuilder" "coder" "B" (.int 0)) (F0v : Fld Z h0 b "java/lang/AbstractStringBuilder" "value" "[B" (.ref t)) (E0 : Exa Z h0 b "java/lang/StringBuilder") (V0 : Arv Z h0 t kb .byte (Int32.ofNat cap) (own_sb cap cs) (.int 0)) (S0 : StrIs Z h0 a ds) (gt : n0 ≤ t) (hsv : ∀ sv : Addr, Fld Z h0 a "java/lang/String" "value" "[B" (.ref sv) → sv ≠ t) (hcap : cs.length + ds.length ≤ cap) (hc4 : cap ≤ 4000) (O0 : Old Z n0 h0) :
    MetFree l (⟨"java/lang/AbstractStringBuilder", "putStringAt", "(ILjava/lang/String;)V"⟩ : MethodName) (head1 [Jvm.Cond.code (⟨"java/lang/AbstractStringBuilder", "putStringAt", "(ILjava/lang/String;)V"⟩ : MethodName) jdk_68_method_73_code 3 none] ({ frames := 2, cells := 0, slots := 0, locals := 33 } : Room)) (fun aa U => aa = #[(.ref b), (.int (Int32.ofNat cs.length)), (.ref a)] ∧ Z.Warmed39 U.vm ∧ U.heap = h0) (fun _ _ _ _ _ => True) (fun _ U o U' => ∃ v L, o = .returned v ∧ QGetB Z t kb cap (cs ++ ds) h0 n0 v U'.heap L ∧ FrameEnd U o U' L ({ frames := 2, cells := 0, slots := 0, locals := 33 } : Room).cells ({ frames := 2, cells := 0, slots := 0, locals := 33 } : Room).slots) := by
  refine MetFree.of_bodySF (plainFor_of_name own_pn151) hisR ?_
  intro p e s m args below meth c s₁ Bd hml0 hP hK
  obtain ⟨rfl, hZ, hh⟩ := hP
  have hx := Bd.exec
  have hby := Bd.bytes
  have hml : c.maxLocals = 3 := hml0
  have hown : s.vm.findClass "java/lang/AbstractStringBuilder" = some m.cls := findClass_of_methodNamed Bd.named
  have hnm := (name_of_methodNamed Bd.named Bd.method).1
  have X0 : Stand p l e ({ frames := 2, cells := 0, slots := 0, locals := 33 } : Room) s m #[(.ref b), (.int (Int32.ofNat cs.length)), (.ref a)] below meth c s₁ [] 0 0 := Stand.of_body Bd
  have e0 : s₁.heap = h0 := by rw [← hh, Bd.state]; rfl
  have N0 := Fr.nil n0
  have K0 : Keep h0 h0 [] := Keep.refl _ _
  show GoOn p e below (s₁.setTop (entryFrame m #[(.ref b), (.int (Int32.ofNat cs.length)), (.ref a)] 3)) (PostN s (QGetB Z t kb cap (cs ++ ds) h0 n0) ({ frames := 2, cells := 0, slots := 0, locals := 33 } : Room).cells ({ frames := 2, cells := 0, slots := 0, locals := 33 } : Room).slots)
  refine GoOn.step (fun tq kq => castTop (own_ef191 m b (Int32.ofNat cs.length) a) kq) ?_
  show GoOn p e below (s₁.setTop (mkF m 0 #[.val (.ref b), .val (.int (Int32.ofNat cs.length)), .val (.ref a)] [])) _
  have nbt : b ≠ t := Exa.neArv E0 V0 (hw _ (List.mem_of_getElem? (i := 33) rfl))
  have K0t : Keep h0 h0 [t] := Keep.refl _ _
  refine GoOn.step (fun tq kq => XS.aloadN X0.here hx rfl (hb hby own_d192) rfl rfl kq) ?_
  refine GoOn.step (fun tq kq => XS.aloadN X0.here hx rfl (hb hby own_d193) rfl rfl kq) ?_
  show GoOn p e below (s₁.setTop (mkF m 2 #[.val (.ref b), .val (.int (Int32.ofNat cs.length)), .val (.ref a)] [(.ref a), (.ref b)])) _
  obtain ⟨cqc361, kqc361, qac361, qbc361, qcc361⟩ := isOf hZ e0 E0
  obtain ⟨_, _, ⟨T360, L360, k360, n360⟩, -, X360, ⟨Lc360, hQ360, l360, y360, z360⟩, st360⟩ := X0.virtualBack hx (y := (⟨"java/lang/AbstractStringBuilder", "inflateIfNeededFor", "(Ljava/lang/String;)V"⟩ : MethodName)) (z := (⟨"java/lang/AbstractStringBuilder", "inflateIfNeededFor", "(Ljava/lang/String;)V"⟩ : MethodName)) hown (mvT hZ (hw _ (List.mem_of_getElem? (i := 83) rfl))) (own_decl (args := _) (mvT hZ (hw _ (List.mem_of_getElem? (i := 84) rfl))) (mvT hZ (hw _ (List.mem_of_getElem? (i := 87) rfl)))) (notFace_of_selects (args := #[]) (mvT hZ (hw _ (List.mem_of_getElem? (i := 86) rfl)))) (mvT hZ (hw _ (List.mem_of_getElem? (i := 86) rfl))) (mvT hZ (hw _ (List.mem_of_getElem? (i := 84) rfl))) (by decide) (backOf (W := 0) (rmInfl l Z a0 hw a b ds G1 h0 n0 Z0 SC PC F0c S0 O0) hZ (hw _ (List.mem_of_getElem? (i := 87) rfl)) (hw _ (List.mem_of_getElem? (i := 42) rfl)) (by decide) (by decide)) qac361 qcc361 (g := (mkF m 2 #[.val (.ref b), .val (.int (Int32.ofNat cs.length)), .val (.ref a)] [(.ref a), (.ref b)])) rfl (by rw [hml]; rfl) (Steps.refl _) (argsL := [(.ref a)]) (rest := []) (lenOf own_pd26 rfl) rfl (by show 2 * 0 + _ ≤ _; exact Nat.le_of_eq rfl) (hb hby own_d194) (fun _ _ => ⟨rfl, e0, (by decide : 0 + 0 ≤ _), (by decide : 0 + 0 ≤ _)⟩)
  dsimp only [Pt.U, Pt.locs, Pt.cells, Pt.slots] at X360 l360 y360 z360 st360 hQ360
  subst l360 y360 z360
  obtain ⟨rfl, N360, e360⟩ := hQ360
  refine GoOn.trans st360 ?_
  have N362 := Fr.app N0 N360
  refine GoOn.step (fun tq kq => XS.aloadN X360.here hx rfl (hb hby own_d195) rfl rfl kq) ?_
  refine GoOn.step (fun tq kq => XS.aloadN X360.here hx rfl (hb hby own_d196) rfl rfl kq) ?_
  show GoOn p e below (T360.setTop (mkF m 7 #[.val (.ref b), .val (.int (Int32.ofNat cs.length)), .val (.ref a)] [(.ref b), (.ref a)])) _
  obtain ⟨T363, X363, e363, st363⟩ := getF X360 hx hZ hown (host := "") (Or.inl (hw _ (List.mem_of_getElem? (i := 46) rfl))) Via.refl e360 F0v (g := (mkF m 7 #[.val (.ref b), .val (.int (Int32.ofNat cs.length)), .val (.ref a)] [(.ref b), (.ref a)])) rfl rfl (hb hby own_d197)
  refine GoOn.step st363 ?_
  refine GoOn.step (fun tq kq => XS.iloadN X363.here hx rfl (hb hby own_d198) rfl kq) ?_
  refine GoOn.step (fun tq kq => XS.aloadN X363.here hx rfl (hb hby own_d199) rfl rfl kq) ?_
  show GoOn p e below (T363.setTop (mkF m 12 #[.val (.ref b), .val (.int (Int32.ofNat cs.length)), .val (.ref a)] [(.ref b), (.int (Int32.ofNat cs.length)), (.ref t), (.ref a)])) _
  obtain ⟨T364, X364, e364, st364⟩ := getF X363 hx hZ hown (host := "") (Or.inl (hw _ (List.mem_of_getElem? (i := 48) rfl))) Via.refl e363 F0c (g := (mkF m 12 #[.val (.ref b), .val (.int (Int32.ofNat cs.length)), .val (.ref a)] [(.ref b), (.int (Int32.ofNat cs.length)), (.ref t), (.ref a)])) rfl rfl (hb hby own_d200)
  refine GoOn.step st364 ?_
  show GoOn p e below (T364.setTop (mkF m 15 #[.val (.ref b), .val (.int (Int32.ofNat cs.length)), .val (.ref a)] [(.int 0), (.int (Int32.ofNat cs.length)), (.ref t), (.ref a)])) _
  obtain ⟨cqc366, kqc366, qac366, qbc366, qcc366⟩ := isOf hZ e364 S0.1
  obtain ⟨_, _, ⟨T365, L365, k365, n365⟩, -, X365, ⟨Lc365, hQ365, l365, y365, z365⟩, st365⟩ := X364.virtualBack hx (y := (⟨"java/lang/String", "getBytes", "([BIB)V"⟩ : MethodName)) (z := (⟨"java/lang/String", "getBytes", "([BIB)V"⟩ : MethodName)) hown (mvT hZ (hw _ (List.mem_of_getElem? (i := 89) rfl))) (mvT hZ (hw _ (List.mem_of_getElem? (i := 90) rfl))) (notFace_of_selects (args := #[]) (mvT hZ (hw _ (List.mem_of_getElem? (i := 92) rfl)))) (mvT hZ (hw _ (List.mem_of_getElem? (i := 92) rfl))) (mvT hZ (hw _ (List.mem_of_getElem? (i := 91) rfl))) (by decide) (backOf (W := 0) (rmGetB l Z a0 hw a t kb cap cs ds G1 h0 n0 Z0 SC PC V0 S0 gt hsv hcap hc4 O0) hZ (hw _ (List.mem_of_getElem? (i := 93) rfl)) (hw _ (List.mem_of_getElem? (i := 6) rfl)) (by decide) (by decide)) qac366 qcc366 (g := (mkF m 15 #[.val (.ref b), .val (.int (Int32.ofNat cs.length)), .val (.ref a)] [(.int 0), (.int (Int32.ofNat cs.length)), (.ref t), (.ref a)])) rfl (by rw [hml]; rfl) (Steps.refl _) (argsL := [(.ref t), (.int (Int32.ofNat cs.length)), (.int 0)]) (rest := []) (lenOf own_pd202 rfl) rfl (by show 2 * 0 + _ ≤ _; exact Nat.le_of_eq rfl) (hb hby own_d201) (fun _ _ => ⟨rfl, e364, (by decide : 0 + 0 ≤ _), (by decide : 0 + 0 ≤ _)⟩)
  dsimp only [Pt.U, Pt.locs, Pt.cells, Pt.slots] at X365 l365 y365 z365 st365 hQ365
  subst l365 y365 z365
  obtain ⟨rfl, N365, K365, V365⟩ := hQ365
  refine GoOn.trans st365 ?_
  have N367 := Fr.app N362 N365
  have F368 : Fld Z T365.heap b "java/lang/AbstractStringBuilder" "coder" "B" (.int 0) := F0c.keep K365 (ninS nbt nin0)
  have F369 : Fld Z T365.heap b "java/lang/AbstractStringBuilder" "value" "[B" (.ref t) := F0v.keep K365 (ninS nbt nin0)
  have E370 : Exa Z T365.heap b "java/lang/StringBuilder" := E0.keep K365
  have O372 : Old Z n0 T365.heap := O0.keep K365 (allS gt all0)
  have Z373 : n0 ≤ T365.heap.size := Nat.le_trans Z0 K365.1
  have K374 : Keep h0 T365.heap [t] := K0t.trans K365 ((allS (Or.inl (by simp)) all0))
  have E375 : Exa Z T365.heap a "java/lang/String" := S0.1.keep K365
  show GoOn p e below (T365.setTop (mkF m 18 #[.val (.ref b), .val (.int (Int32.ofNat cs.length)), .val (.ref a)] [])) _
  refine GoOn.ret X365 Bd.notSynchronized (v := none) (fun _ => rfl) (fun fs hr => X365.returnOut hx Bd.returns (hb hby own_d203) hr) (by decide) (by decide) ?_
  exact ⟨rfl, N367, K374, V365⟩
def QApp (Z : State) (b t : Addr) (kb : ClassId) (cap : Nat) (es : List Int32) (h0 : Heap) (n0 : Nat) (v : Option Value) (h : Heap) (L : List Loc) : Prop := v = some (.ref b) ∧ Fr n0 L ∧ Keep h0 h [b, t] ∧ Exa Z h b "java/lang/StringBuilder" ∧ Fld Z h b "java/lang/AbstractStringBuilder" "coder" "B" (.int 0) ∧ Fld Z h b "java/lang/AbstractStringBuilder" "count" "I" (.int (Int32.ofNat es.length)) ∧ Fld Z h b "java/lang/AbstractStringBuilder" "value" "[B" (.ref t) ∧ Arv Z h t kb .byte (Int32.ofNat cap) (own_sb cap es) (.int 0)
set_option maxRecDepth 65536 in
set_option maxHeartbeats 40000000 in
theorem rmASA (l : Launch) (Z : State) (a0 : Array Value) (hw : ∀ d ∈ tables_1, d.before a0 Z = true) (a b t : Addr) (kb : ClassId) (cap : Nat) (cs ds : List Int32) (G1 : Int32) (h0 : Heap) (n0 : Nat) (Z0 : n0 ≤ h0.size) (SC : Sta Z Z.heap "java/lang/String" "COMPACT_STRINGS" "Z" (.int G1)) (PC : ¬ G1 = (0 : Int32)) (E0 : Exa Z h0 b "java/lang/StringBuilder") (F0c : Fld Z h0 b "java/lang/AbstractStringBuilder" "coder" "B" (.int 0)) (F0n : Fld Z h0 b "java/lang/AbstractStringBuilder" "count" "I" (.int (Int32.ofNat cs.length))) (F0v : Fld Z h0 b "java/lang/AbstractStringBuilder" "value" "[B" (.ref t)) (V0 : Arv Z h0 t kb .byte (Int32.ofNat cap) (own_sb cap cs) (.int 0)) (S0 : StrIs Z h0 a ds) (gb : n0 ≤ b) (gt : n0 ≤ t) (hsv : ∀ sv : Addr, Fld Z h0 a "java/lang/String" "value" "[B" (.ref sv) → sv ≠ t) (hcap : cs.length + ds.length ≤ cap) (hc4 : cap ≤ 4000) (O0 : Old Z n0 h0) :
    MetFree l (⟨"java/lang/AbstractStringBuilder", "append", "(Ljava/lang/String;)Ljava/lang/AbstractStringBuilder;"⟩ : MethodName) (head1 [Jvm.Cond.code (⟨"java/lang/AbstractStringBuilder", "append", "(Ljava/lang/String;)Ljava/lang/AbstractStringBuilder;"⟩ : MethodName) jdk_68_method_22_code 3 (some (.object "java/lang/AbstractStringBuilder"))] ({ frames := 3, cells := 0, slots := 0, locals := 47 } : Room)) (fun aa U => aa = #[(.ref b), (.ref a)] ∧ Z.Warmed39 U.vm ∧ U.heap = h0) (fun _ _ _ _ _ => True) (fun _ U o U' => ∃ v L, o = .returned v ∧ QApp Z b t kb cap (cs ++ ds) h0 n0 v U'.heap L ∧ FrameEnd U o U' L ({ frames := 3, cells := 0, slots := 0, locals := 47 } : Room).cells ({ frames := 3, cells := 0, slots := 0, locals := 47 } : Room).slots) := by
  refine MetFree.of_bodySF (plainFor_of_name own_pn151) hisR ?_
  intro p e s m args below meth c s₁ Bd hml0 hP hK
  obtain ⟨rfl, hZ, hh⟩ := hP
  have hx := Bd.exec
  have hby := Bd.bytes
  have hml : c.maxLocals = 3 := hml0
  have hown : s.vm.findClass "java/lang/AbstractStringBuilder" = some m.cls := findClass_of_methodNamed Bd.named
  have hnm := (name_of_methodNamed Bd.named Bd.method).1
  have X0 : Stand p l e ({ frames := 3, cells := 0, slots := 0, locals := 47 } : Room) s m #[(.ref b), (.ref a)] below meth c s₁ [] 0 0 := Stand.of_body Bd
  have e0 : s₁.heap = h0 := by rw [← hh, Bd.state]; rfl
  have N0 := Fr.nil n0
  have K0 : Keep h0 h0 [] := Keep.refl _ _
  show GoOn p e below (s₁.setTop (entryFrame m #[(.ref b), (.ref a)] 3)) (PostN s (QApp Z b t kb cap (cs ++ ds) h0 n0) ({ frames := 3, cells := 0, slots := 0, locals := 47 } : Room).cells ({ frames := 3, cells := 0, slots := 0, locals := 47 } : Room).slots)
  refine GoOn.step (fun tq kq => castTop (own_ef204 m b a) kq) ?_
  show GoOn p e below (s₁.setTop (mkF m 0 #[.val (.ref b), .val (.ref a), .unset] [])) _
  have nbt : b ≠ t := Exa.neArv E0 V0 (hw _ (List.mem_of_getElem? (i := 33) rfl))
  have K0t : Keep h0 h0 [b, t] := Keep.refl _ _
  refine GoOn.step (fun tq kq => XS.aloadN X0.here hx rfl (hb hby own_d205) rfl rfl kq) ?_
  refine GoOn.step (fun tq kq => XS.ifnonnullYes X0.here hx rfl (pc0 := 1) (pc' := 9) rfl (hb hby own_d206) rfl (by decide) (by decide) kq) ?_
  refine GoOn.step (fun tq kq => XS.aloadN X0.here hx rfl (hb hby own_d207) rfl rfl kq) ?_
  show GoOn p e below (s₁.setTop (mkF m 10 #[.val (.ref b), .val (.ref a), .unset] [(.ref a)])) _
  obtain ⟨cqc377, kqc377, qac377, qbc377, qcc377⟩ := isOf hZ e0 S0.1
  obtain ⟨_, _, ⟨T376, L376, k376, n376⟩, -, X376, ⟨Lc376, hQ376, l376, y376, z376⟩, st376⟩ := X0.virtualBack hx (y := (⟨"java/lang/String", "length", "()I"⟩ : MethodName)) (z := (⟨"java/lang/String", "length", "()I"⟩ : MethodName)) hown (mvT hZ (hw _ (List.mem_of_getElem? (i := 60) rfl))) (mvT hZ (hw _ (List.mem_of_getElem? (i := 61) rfl))) (notFace_of_selects (args := #[]) (mvT hZ (hw _ (List.mem_of_getElem? (i := 63) rfl)))) (mvT hZ (hw _ (List.mem_of_getElem? (i := 63) rfl))) (mvT hZ (hw _ (List.mem_of_getElem? (i := 62) rfl))) (by decide) (backOf (W := 0) (rmLen l Z a0 hw a ds G1 h0 n0 Z0 SC PC S0 O0) hZ (hw _ (List.mem_of_getElem? (i := 64) rfl)) (hw _ (List.mem_of_getElem? (i := 6) rfl)) (by decide) (by decide)) qac377 qcc377 (g := (mkF m 10 #[.val (.ref b), .val (.ref a), .unset] [(.ref a)])) rfl (by rw [hml]; rfl) (Steps.refl _) (argsL := []) (rest := []) (lenOf own_pd209 rfl) rfl (by show 2 * 0 + _ ≤ _; exact Nat.le_of_eq rfl) (hb hby own_d208) (fun _ _ => ⟨rfl, e0, (by decide : 0 + 0 ≤ _), (by decide : 0 + 0 ≤ _)⟩)
  dsimp only [Pt.U, Pt.locs, Pt.cells, Pt.slots] at X376 l376 y376 z376 st376 hQ376
  subst l376 y376 z376
  obtain ⟨rfl, N376, e376⟩ := hQ376
  refine GoOn.trans st376 ?_
  have N378 := Fr.app N0 N376
  refine GoOn.step (fun tq kq => XS.istoreN X376.here hx rfl (hb hby own_d210) rfl (l' := #[.val (.ref b), .val (.ref a), .val (.int (Int32.ofNat ds.length))]) rfl kq) ?_
  refine GoOn.step (fun tq kq => XS.aloadN X376.here hx rfl (hb hby own_d211) rfl rfl kq) ?_
  refine GoOn.step (fun tq kq => XS.aloadN X376.here hx rfl (hb hby own_d212) rfl rfl kq) ?_
  show GoOn p e below (T376.setTop (mkF m 16 #[.val (.ref b), .val (.ref a), .val (.int (Int32.ofNat ds.length))] [(.ref b), (.ref b)])) _
  obtain ⟨T379, X379, e379, st379⟩ := getF X376 hx hZ hown (host := "") (Or.inl (hw _ (List.mem_of_getElem? (i := 71) rfl))) Via.refl e376 F0n (g := (mkF m 16 #[.val (.ref b), .val (.ref a), .val (.int (Int32.ofNat ds.length))] [(.ref b), (.ref b)])) rfl rfl (hb hby own_d213)
  refine GoOn.step st379 ?_
  refine GoOn.step (fun tq kq => XS.iloadN X379.here hx rfl (hb hby own_d214) rfl kq) ?_
  refine GoOn.step (fun tq kq => XS.iadd X379.here hx rfl (hb hby own_d215) rfl kq) ?_
  show GoOn p e below (T379.setTop (mkF m 21 #[.val (.ref b), .val (.ref a), .val (.int (Int32.ofNat ds.length))] [(.int ((Int32.ofNat cs.length) + (Int32.ofNat ds.length))), (.ref b)])) _
  rw [own_add32]
  show GoOn p e below (T379.setTop (mkF m 21 #[.val (.ref b), .val (.ref a), .val (.int (Int32.ofNat ds.length))] [(.int (Int32.ofNat (cs.length + ds.length))), (.ref b)])) _
  obtain ⟨cqc381, kqc381, qac381, qbc381, qcc381⟩ := isOf hZ e379 E0
  obtain ⟨_, _, ⟨T380, L380, k380, n380⟩, -, X380, ⟨Lc380, hQ380, l380, y380, z380⟩, st380⟩ := X379.virtualBack hx (y := (⟨"java/lang/AbstractStringBuilder", "ensureCapacityInternal", "(I)V"⟩ : MethodName)) (z := (⟨"java/lang/AbstractStringBuilder", "ensureCapacityInternal", "(I)V"⟩ : MethodName)) hown (mvT hZ (hw _ (List.mem_of_getElem? (i := 73) rfl))) (own_decl (args := _) (mvT hZ (hw _ (List.mem_of_getElem? (i := 74) rfl))) (mvT hZ (hw _ (List.mem_of_getElem? (i := 77) rfl)))) (notFace_of_selects (args := #[]) (mvT hZ (hw _ (List.mem_of_getElem? (i := 76) rfl)))) (mvT hZ (hw _ (List.mem_of_getElem? (i := 76) rfl))) (mvT hZ (hw _ (List.mem_of_getElem? (i := 74) rfl))) (by decide) (backOf (W := 0) (rmEns l Z a0 hw b t kb cap (cs.length + ds.length) (own_sb cap cs) h0 n0 Z0 F0c F0v V0 hcap hc4) hZ (hw _ (List.mem_of_getElem? (i := 77) rfl)) (hw _ (List.mem_of_getElem? (i := 42) rfl)) (by decide) (by decide)) qac381 qcc381 (g := (mkF m 21 #[.val (.ref b), .val (.ref a), .val (.int (Int32.ofNat ds.length))] [(.int (Int32.ofNat (cs.length + ds.length))), (.ref b)])) rfl (by rw [hml]; rfl) (Steps.refl _) (argsL := [(.int (Int32.ofNat (cs.length + ds.length)))]) (rest := []) (lenOf own_pd217 rfl) rfl (by show 2 * 0 + _ ≤ _; exact Nat.le_of_eq rfl) (hb hby own_d216) (fun _ _ => ⟨rfl, e379, (by decide : 0 + 0 ≤ _), (by decide : 0 + 0 ≤ _)⟩)
  dsimp only [Pt.U, Pt.locs, Pt.cells, Pt.slots] at X380 l380 y380 z380 st380 hQ380
  subst l380 y380 z380
  obtain ⟨rfl, N380, e380⟩ := hQ380
  refine GoOn.trans st380 ?_
  have N382 := Fr.app N378 N380
  refine GoOn.step (fun tq kq => XS.aloadN X380.here hx rfl (hb hby own_d218) rfl rfl kq) ?_
  refine GoOn.step (fun tq kq => XS.aloadN X380.here hx rfl (hb hby own_d219) rfl rfl kq) ?_
  show GoOn p e below (T380.setTop (mkF m 26 #[.val (.ref b), .val (.ref a), .val (.int (Int32.ofNat ds.length))] [(.ref b), (.ref b)])) _
  obtain ⟨T383, X383, e383, st383⟩ := getF X380 hx hZ hown (host := "") (Or.inl (hw _ (List.mem_of_getElem? (i := 71) rfl))) Via.refl e380 F0n (g := (mkF m 26 #[.val (.ref b), .val (.ref a), .val (.int (Int32.ofNat ds.length))] [(.ref b), (.ref b)])) rfl rfl (hb hby own_d220)
  refine GoOn.step st383 ?_
  refine GoOn.step (fun tq kq => XS.aloadN X383.here hx rfl (hb hby own_d221) rfl rfl kq) ?_
  show GoOn p e below (T383.setTop (mkF m 30 #[.val (.ref b), .val (.ref a), .val (.int (Int32.ofNat ds.length))] [(.ref a), (.int (Int32.ofNat cs.length)), (.ref b)])) _
  obtain ⟨cqc385, kqc385, qac385, qbc385, qcc385⟩ := isOf hZ e383 E0
  obtain ⟨_, _, ⟨T384, L384, k384, n384⟩, -, X384, ⟨Lc384, hQ384, l384, y384, z384⟩, st384⟩ := X383.virtualBack hx (y := (⟨"java/lang/AbstractStringBuilder", "putStringAt", "(ILjava/lang/String;)V"⟩ : MethodName)) (z := (⟨"java/lang/AbstractStringBuilder", "putStringAt", "(ILjava/lang/String;)V"⟩ : MethodName)) hown (mvT hZ (hw _ (List.mem_of_getElem? (i := 78) rfl))) (own_decl (args := _) (mvT hZ (hw _ (List.mem_of_getElem? (i := 79) rfl))) (mvT hZ (hw _ (List.mem_of_getElem? (i := 82) rfl)))) (notFace_of_selects (args := #[]) (mvT hZ (hw _ (List.mem_of_getElem? (i := 81) rfl)))) (mvT hZ (hw _ (List.mem_of_getElem? (i := 81) rfl))) (mvT hZ (hw _ (List.mem_of_getElem? (i := 79) rfl))) (by decide) (backOf (W := 0) (rmPut l Z a0 hw a b t kb cap cs ds G1 h0 n0 Z0 SC PC F0c F0v E0 V0 S0 gt hsv hcap hc4 O0) hZ (hw _ (List.mem_of_getElem? (i := 82) rfl)) (hw _ (List.mem_of_getElem? (i := 42) rfl)) (by decide) (by decide)) qac385 qcc385 (g := (mkF m 30 #[.val (.ref b), .val (.ref a), .val (.int (Int32.ofNat ds.length))] [(.ref a), (.int (Int32.ofNat cs.length)), (.ref b)])) rfl (by rw [hml]; rfl) (Steps.refl _) (argsL := [(.int (Int32.ofNat cs.length)), (.ref a)]) (rest := []) (lenOf own_pd223 rfl) rfl (by show 2 * 0 + _ ≤ _; exact Nat.le_of_eq rfl) (hb hby own_d222) (fun _ _ => ⟨rfl, e383, (by decide : 0 + 0 ≤ _), (by decide : 0 + 0 ≤ _)⟩)
  dsimp only [Pt.U, Pt.locs, Pt.cells, Pt.slots] at X384 l384 y384 z384 st384 hQ384
  subst l384 y384 z384
  obtain ⟨rfl, N384, K384, V384⟩ := hQ384
  refine GoOn.trans st384 ?_
  have N386 := Fr.app N382 N384
  have E387 : Exa Z T384.heap b "java/lang/StringBuilder" := E0.keep K384
  have F388 : Fld Z T384.heap b "java/lang/AbstractStringBuilder" "coder" "B" (.int 0) := F0c.keep K384 (ninS nbt nin0)
  have F389 : Fld Z T384.heap b "java/lang/AbstractStringBuilder" "count" "I" (.int (Int32.ofNat cs.length)) := F0n.keep K384 (ninS nbt nin0)
  have F390 : Fld Z T384.heap b "java/lang/AbstractStringBuilder" "value" "[B" (.ref t) := F0v.keep K384 (ninS nbt nin0)
  have O392 : Old Z n0 T384.heap := O0.keep K384 (allS gt all0)
  have Z393 : n0 ≤ T384.heap.size := Nat.le_trans Z0 K384.1
  have K394 : Keep h0 T384.heap [b, t] := K0t.trans K384 ((allS (Or.inl (by simp)) all0))
  refine GoOn.step (fun tq kq => XS.aloadN X384.here hx rfl (hb hby own_d224) rfl rfl kq) ?_
  refine GoOn.step (fun tq kq => XS.dup X384.here hx rfl (hb hby own_d225) rfl rfl kq) ?_
  show GoOn p e below (T384.setTop (mkF m 35 #[.val (.ref b), .val (.ref a), .val (.int (Int32.ofNat ds.length))] [(.ref b), (.ref b)])) _
  obtain ⟨T395, X395, e395, st395⟩ := getF X384 hx hZ hown (host := "") (Or.inl (hw _ (List.mem_of_getElem? (i := 71) rfl))) Via.refl rfl F389 (g := (mkF m 35 #[.val (.ref b), .val (.ref a), .val (.int (Int32.ofNat ds.length))] [(.ref b), (.ref b)])) rfl rfl (hb hby own_d226)
  refine GoOn.step st395 ?_
  refine GoOn.step (fun tq kq => XS.iloadN X395.here hx rfl (hb hby own_d227) rfl kq) ?_
  refine GoOn.step (fun tq kq => XS.iadd X395.here hx rfl (hb hby own_d228) rfl kq) ?_
  show GoOn p e below (T395.setTop (mkF m 40 #[.val (.ref b), .val (.ref a), .val (.int (Int32.ofNat ds.length))] [(.int ((Int32.ofNat cs.length) + (Int32.ofNat ds.length))), (.ref b)])) _
  rw [own_add32]
  show GoOn p e below (T395.setTop (mkF m 40 #[.val (.ref b), .val (.ref a), .val (.int (Int32.ofNat ds.length))] [(.int (Int32.ofNat (cs.length + ds.length))), (.ref b)])) _
  obtain ⟨T396, h396, X396, e396, W396, st396⟩ := putF X395 hx hZ hown (host := "") (Or.inl (hw _ (List.mem_of_getElem? (i := 71) rfl))) Via.refl e395 F389 E387 (Or.inl (hw _ (List.mem_of_getElem? (i := 72) rfl))) (hw _ (List.mem_of_getElem? (i := 33) rfl)) (ty := .int) (by decide) rfl rfl (g := (mkF m 40 #[.val (.ref b), .val (.ref a), .val (.int (Int32.ofNat ds.length))] [(.int (Int32.ofNat (cs.length + ds.length))), (.ref b)])) rfl rfl (hb hby own_d229)
  have N397 := Fr.snoc X396 N386 gb
  have Kx396 : Keep T384.heap h396 [b] := Keep.of_wr W396
  have F398 : Fld Z h396 b "java/lang/AbstractStringBuilder" "count" "I" (.int (Int32.ofNat (cs.length + ds.length))) := F389.same W396
  have F399 : Fld Z h396 b "java/lang/AbstractStringBuilder" "coder" "B" (.int 0) := F388.other W396 (Or.inr (slot_ne (a0 := a0) (Or.inl (hw _ (List.mem_of_getElem? (i := 49) rfl))) (Or.inl (hw _ (List.mem_of_getElem? (i := 72) rfl))) (by decide) (t := .byte) (t' := .int) (by decide) (by decide)))
  have F400 : Fld Z h396 b "java/lang/AbstractStringBuilder" "value" "[B" (.ref t) := F390.other W396 (Or.inr (slot_ne (a0 := a0) (Or.inl (hw _ (List.mem_of_getElem? (i := 47) rfl))) (Or.inl (hw _ (List.mem_of_getElem? (i := 72) rfl))) (by decide) (t := (.array .byte)) (t' := .int) (by decide) (by decide)))
  refine GoOn.step st396 ?_
  have E401 : Exa Z h396 b "java/lang/StringBuilder" := E387.keep Kx396
  have O405 : Old Z n0 h396 := O392.keep Kx396 (allS gb all0)
  have Z406 : n0 ≤ h396.size := Nat.le_trans Z393 Kx396.1
  have K407 : Keep h0 h396 [b, t] := K394.trans Kx396 ((allS (Or.inl (by simp)) all0))
  have V408 : Arv Z h396 t kb .byte (Int32.ofNat cap) (own_sb cap (cs ++ ds)) (.int 0) := V384.keep Kx396 (ninS (Ne.symm nbt) nin0)
  refine GoOn.step (fun tq kq => XS.aloadN X396.here hx rfl (hb hby own_d230) rfl rfl kq) ?_
  show GoOn p e below (T396.setTop (mkF m 44 #[.val (.ref b), .val (.ref a), .val (.int (Int32.ofNat ds.length))] [(.ref b)])) _
  rw [← List.length_append] at F398
  refine GoOn.ret X396 Bd.notSynchronized (v := some (.ref b)) (fun h => by rw [Bd.returns] at h; cases h) (fun fs hr => retOut X396 hx Bd.returns rfl (Or.inr (Or.inr (Or.inr (Or.inr ⟨rfl, rfl, rfl⟩)))) (hb hby own_d231) hr) (by decide) (by decide) ?_
  rw [e396]
  exact ⟨rfl, N397, K407, E401, F399, F398, F400, V408⟩
set_option maxRecDepth 65536 in
set_option maxHeartbeats 40000000 in
theorem rmSBA (l : Launch) (Z : State) (a0 : Array Value) (hw : ∀ d ∈ tables_1, d.before a0 Z = true) (a b t : Addr) (kb : ClassId) (cap : Nat) (cs ds : List Int32) (G1 : Int32) (h0 : Heap) (n0 : Nat) (Z0 : n0 ≤ h0.size) (SC : Sta Z Z.heap "java/lang/String" "COMPACT_STRINGS" "Z" (.int G1)) (PC : ¬ G1 = (0 : Int32)) (E0 : Exa Z h0 b "java/lang/StringBuilder") (F0c : Fld Z h0 b "java/lang/AbstractStringBuilder" "coder" "B" (.int 0)) (F0n : Fld Z h0 b "java/lang/AbstractStringBuilder" "count" "I" (.int (Int32.ofNat cs.length))) (F0v : Fld Z h0 b "java/lang/AbstractStringBuilder" "value" "[B" (.ref t)) (V0 : Arv Z h0 t kb .byte (Int32.ofNat cap) (own_sb cap cs) (.int 0)) (S0 : StrIs Z h0 a ds) (gb : n0 ≤ b) (gt : n0 ≤ t) (hsv : ∀ sv : Addr, Fld Z h0 a "java/lang/String" "value" "[B" (.ref sv) → sv ≠ t) (hcap : cs.length + ds.length ≤ cap) (hc4 : cap ≤ 4000) (O0 : Old Z n0 h0) :
    MetFree l (⟨"java/lang/StringBuilder", "append", "(Ljava/lang/String;)Ljava/lang/StringBuilder;"⟩ : MethodName) (head1 [Jvm.Cond.code (⟨"java/lang/StringBuilder", "append", "(Ljava/lang/String;)Ljava/lang/StringBuilder;"⟩ : MethodName) jdk_67_method_7_code 2 (some (.object "java/lang/StringBuilder"))] ({ frames := 4, cells := 0, slots := 0, locals := 61 } : Room)) (fun aa U => aa = #[(.ref b), (.ref a)] ∧ Z.Warmed39 U.vm ∧ U.heap = h0) (fun _ _ _ _ _ => True) (fun _ U o U' => ∃ v L, o = .returned v ∧ QApp Z b t kb cap (cs ++ ds) h0 n0 v U'.heap L ∧ FrameEnd U o U' L ({ frames := 4, cells := 0, slots := 0, locals := 61 } : Room).cells ({ frames := 4, cells := 0, slots := 0, locals := 61 } : Room).slots) := by
  refine MetFree.of_bodySF (plainFor_of_name own_pn233) hisR ?_
  intro p e s m args below meth c s₁ Bd hml0 hP hK
  obtain ⟨rfl, hZ, hh⟩ := hP
  have hx := Bd.exec
  have hby := Bd.bytes
  have hml : c.maxLocals = 2 := hml0
  have hown : s.vm.findClass "java/lang/StringBuilder" = some m.cls := findClass_of_methodNamed Bd.named
  have hnm := (name_of_methodNamed Bd.named Bd.method).1
  have X0 : Stand p l e ({ frames := 4, cells := 0, slots := 0, locals := 61 } : Room) s m #[(.ref b), (.ref a)] below meth c s₁ [] 0 0 := Stand.of_body Bd
  have e0 : s₁.heap = h0 := by rw [← hh, Bd.state]; rfl
  have N0 := Fr.nil n0
  have K0 : Keep h0 h0 [] := Keep.refl _ _
  show GoOn p e below (s₁.setTop (entryFrame m #[(.ref b), (.ref a)] 2)) (PostN s (QApp Z b t kb cap (cs ++ ds) h0 n0) ({ frames := 4, cells := 0, slots := 0, locals := 61 } : Room).cells ({ frames := 4, cells := 0, slots := 0, locals := 61 } : Room).slots)
  refine GoOn.step (fun tq kq => castTop (own_ef232 m b a) kq) ?_
  show GoOn p e below (s₁.setTop (mkF m 0 #[.val (.ref b), .val (.ref a)] [])) _
  have nbt : b ≠ t := Exa.neArv E0 V0 (hw _ (List.mem_of_getElem? (i := 33) rfl))
  have K0t : Keep h0 h0 [b, t] := Keep.refl _ _
  refine GoOn.step (fun tq kq => XS.aloadN X0.here hx rfl (hb hby own_d234) rfl rfl kq) ?_
  refine GoOn.step (fun tq kq => XS.aloadN X0.here hx rfl (hb hby own_d235) rfl rfl kq) ?_
  show GoOn p e below (s₁.setTop (mkF m 2 #[.val (.ref b), .val (.ref a)] [(.ref a), (.ref b)])) _
  obtain ⟨_, _, ⟨T409, L409, k409, n409⟩, -, X409, ⟨Lc409, hQ409, l409, y409, z409⟩, st409⟩ := superBack X0 hx hZ hown (hw _ (List.mem_of_getElem? (i := 55) rfl)) (own_same (hw _ (List.mem_of_getElem? (i := 56) rfl)) ⟨(hw _ (List.mem_of_getElem? (i := 137) rfl)), rfl⟩ (by decide)) (hw _ (List.mem_of_getElem? (i := 56) rfl)) (hw _ (List.mem_of_getElem? (i := 57) rfl)) (by decide) (backOf (W := 0) (rmASA l Z a0 hw a b t kb cap cs ds G1 h0 n0 Z0 SC PC E0 F0c F0n F0v V0 S0 gb gt hsv hcap hc4 O0) hZ (hw _ (List.mem_of_getElem? (i := 59) rfl)) (hw _ (List.mem_of_getElem? (i := 42) rfl)) (by decide) (by decide)) e0 (Ins.self E0) (g := (mkF m 2 #[.val (.ref b), .val (.ref a)] [(.ref a), (.ref b)])) rfl (by rw [hml]; rfl) (hw _ (List.mem_of_getElem? (i := 59) rfl)) (argsL := [(.ref a)]) (rest := []) (lenOf own_pd237 rfl) rfl (by show 2 * 0 + _ ≤ _; exact Nat.le_of_eq rfl) (hb hby own_d236) (fun _ _ => ⟨rfl, e0, (by decide : 0 + 0 ≤ _), (by decide : 0 + 0 ≤ _)⟩)
  dsimp only [Pt.U, Pt.locs, Pt.cells, Pt.slots] at X409 l409 y409 z409 st409 hQ409
  subst l409 y409 z409
  obtain ⟨rfl, N409, K409, E409, Fc409, Fn409, Fv409, V409⟩ := hQ409
  refine GoOn.trans st409 ?_
  have N410 := Fr.app N0 N409
  have E411 : Exa Z T409.heap b "java/lang/StringBuilder" := E0.keep K409
  have O416 : Old Z n0 T409.heap := O0.keep K409 (allS gb (allS gt all0))
  have Z417 : n0 ≤ T409.heap.size := Nat.le_trans Z0 K409.1
  have K418 : Keep h0 T409.heap [b, t] := K0t.trans K409 ((allS (Or.inl (by simp)) (allS (Or.inl (by simp)) all0)))
  refine GoOn.step (fun tq kq => XS.pop X409.here hx rfl (hb hby own_d238) rfl rfl kq) ?_
  refine GoOn.step (fun tq kq => XS.aloadN X409.here hx rfl (hb hby own_d239) rfl rfl kq) ?_
  show GoOn p e below (T409.setTop (mkF m 7 #[.val (.ref b), .val (.ref a)] [(.ref b)])) _
  refine GoOn.ret X409 Bd.notSynchronized (v := some (.ref b)) (fun h => by rw [Bd.returns] at h; cases h) (fun fs hr => retOut X409 hx Bd.returns rfl (Or.inr (Or.inr (Or.inr (Or.inr ⟨rfl, rfl, rfl⟩)))) (hb hby own_d240) hr) (by decide) (by decide) ?_
  exact ⟨rfl, N410, K418, E409, Fc409, Fn409, Fv409, V409⟩
def QSBJ (Z : State) (b : Addr) (h0 : Heap) (n0 : Nat) (v : Option Value) (h : Heap) (L : List Loc) : Prop := ∃ (t : Addr) (kb : ClassId), v = none ∧ Fr n0 L ∧ Keep h0 h [b] ∧ h0.size ≤ t ∧ Exa Z h b "java/lang/StringBuilder" ∧ Fld Z h b "java/lang/AbstractStringBuilder" "coder" "B" (.int 0) ∧ Fld Z h b "java/lang/AbstractStringBuilder" "count" "I" (.int 0) ∧ Fld Z h b "java/lang/AbstractStringBuilder" "value" "[B" (.ref t) ∧ Arv Z h t kb .byte (16 : Int32) [] (.int 0) ∧ Exa Z h t "[B"
set_option maxRecDepth 65536 in
set_option maxHeartbeats 40000000 in
theorem rmASI (l : Launch) (Z : State) (a0 : Array Value) (hw : ∀ d ∈ tables_1, d.before a0 Z = true) (b : Addr) (G1 : Int32) (h0 : Heap) (n0 : Nat) (Z0 : n0 ≤ h0.size) (SC : Sta Z Z.heap "java/lang/String" "COMPACT_STRINGS" "Z" (.int G1)) (PC : ¬ G1 = (0 : Int32)) (E0 : Exa Z h0 b "java/lang/StringBuilder") (F0c : Fld Z h0 b "java/lang/AbstractStringBuilder" "coder" "B" (.int (0 : Int32))) (F0n : Fld Z h0 b "java/lang/AbstractStringBuilder" "count" "I" (.int (0 : Int32))) (F0v : Fld Z h0 b "java/lang/AbstractStringBuilder" "value" "[B" .null) (gb : n0 ≤ b) (O0 : Old Z n0 h0) :
    MetFree l (⟨"java/lang/AbstractStringBuilder", "<init>", "(I)V"⟩ : MethodName) (head1 [Jvm.Cond.code (⟨"java/lang/AbstractStringBuilder", "<init>", "(I)V"⟩ : MethodName) jdk_68_method_2_code 2 none] ({ frames := 1, cells := 1, slots := 16, locals := 12 } : Room)) (fun aa U => aa = #[(.ref b), (.int (16 : Int32))] ∧ Z.Warmed39 U.vm ∧ U.heap = h0) (fun _ _ _ _ _ => True) (fun _ U o U' => ∃ v L, o = .returned v ∧ QSBJ Z b h0 n0 v U'.heap L ∧ FrameEnd U o U' L ({ frames := 1, cells := 1, slots := 16, locals := 12 } : Room).cells ({ frames := 1, cells := 1, slots := 16, locals := 12 } : Room).slots) := by
  refine MetFree.of_bodySF (plainFor_of_name own_pn151) hisR ?_
  intro p e s m args below meth c s₁ Bd hml0 hP hK
  obtain ⟨rfl, hZ, hh⟩ := hP
  have hx := Bd.exec
  have hby := Bd.bytes
  have hml : c.maxLocals = 2 := hml0
  have hown : s.vm.findClass "java/lang/AbstractStringBuilder" = some m.cls := findClass_of_methodNamed Bd.named
  have hnm := (name_of_methodNamed Bd.named Bd.method).1
  have X0 : Stand p l e ({ frames := 1, cells := 1, slots := 16, locals := 12 } : Room) s m #[(.ref b), (.int (16 : Int32))] below meth c s₁ [] 0 0 := Stand.of_body Bd
  have e0 : s₁.heap = h0 := by rw [← hh, Bd.state]; rfl
  have N0 := Fr.nil n0
  have K0 : Keep h0 h0 [] := Keep.refl _ _
  show GoOn p e below (s₁.setTop (entryFrame m #[(.ref b), (.int (16 : Int32))] 2)) (PostN s (QSBJ Z b h0 n0) ({ frames := 1, cells := 1, slots := 16, locals := 12 } : Room).cells ({ frames := 1, cells := 1, slots := 16, locals := 12 } : Room).slots)
  refine GoOn.step (fun tq kq => castTop (own_ef241 m b (16 : Int32)) kq) ?_
  show GoOn p e below (s₁.setTop (mkF m 0 #[.val (.ref b), .val (.int (16 : Int32))] [])) _
  have K0b : Keep h0 h0 [b] := Keep.refl _ _
  refine GoOn.step (fun tq kq => XS.aloadN X0.here hx rfl (hb hby own_d242) rfl rfl kq) ?_
  show GoOn p e below (s₁.setTop (mkF m 1 #[.val (.ref b), .val (.int (16 : Int32))] [(.ref b)])) _
  obtain ⟨T419, X419, e419, st419⟩ := initO X0 hx hZ hown (hw _ (List.mem_of_getElem? (i := 44) rfl)) (hw _ (List.mem_of_getElem? (i := 16) rfl)) (hw _ (List.mem_of_getElem? (i := 17) rfl)) e0 (g := (mkF m 1 #[.val (.ref b), .val (.int (16 : Int32))] [(.ref b)])) rfl (by rw [hml]; rfl) rfl (hb hby own_d243) (by decide) (W := 0) (by show 2 * 0 + _ ≤ _; exact Nat.le_of_eq rfl) (by decide)
  refine GoOn.step st419 ?_
  show GoOn p e below (T419.setTop (mkF m 4 #[.val (.ref b), .val (.int (16 : Int32))] [])) _
  obtain ⟨T420, X420, e420, st420⟩ := getS2 X419 hx hZ hown (host := "") (Or.inl (hw _ (List.mem_of_getElem? (i := 45) rfl))) Via.refl e419 (SC.ext O0.2) (g := (mkF m 4 #[.val (.ref b), .val (.int (16 : Int32))] [])) rfl (hb hby own_d244)
  refine GoOn.step st420 ?_
  refine GoOn.step (fun tq kq => XS.ifNo X420.here hx rfl (hb hby own_d245) rfl ((if0 _ _).trans (feq PC).1) kq) ?_
  refine GoOn.step (fun tq kq => XS.aloadN X420.here hx rfl (hb hby own_d246) rfl rfl kq) ?_
  refine GoOn.step (fun tq kq => XS.iloadN X420.here hx rfl (hb hby own_d247) rfl kq) ?_
  show GoOn p e below (T420.setTop (mkF m 12 #[.val (.ref b), .val (.int (16 : Int32))] [(.int (16 : Int32)), (.ref b)])) _
  obtain ⟨T421, h421, k421, X421, e421, Ex421, A421, Eb421, st421⟩ := newPE X420 hx hZ (hw _ (List.mem_of_getElem? (i := 19) rfl)) e420 (g := (mkF m 12 #[.val (.ref b), .val (.int (16 : Int32))] [(.int (16 : Int32)), (.ref b)])) rfl (hb hby own_d248) rfl (by decide) (cap := 16) (by decide) (by decide) (by decide) (by decide) (ad := "[B") (by decide)
  obtain ⟨t, g421⟩ : ∃ z, z = h0.size := ⟨_, rfl⟩
  rw [← g421] at A421 Eb421 st421
  have ne422 : b ≠ t := Nat.ne_of_lt (Nat.lt_of_lt_of_le E0.lt (Nat.le_of_eq g421.symm))
  have gn423 : n0 ≤ t := Nat.le_trans Z0 (Nat.le_of_eq g421.symm)
  have sz424 : h0.size ≤ t := Nat.le_trans K0b.1 (Nat.le_of_eq g421.symm)
  have Kx421 : Keep h0 h421 [] := (Keep.refl _ _).ext Ex421
  refine GoOn.step st421 ?_
  have E425 : Exa Z h421 b "java/lang/StringBuilder" := E0.keep Kx421
  have F426 : Fld Z h421 b "java/lang/AbstractStringBuilder" "coder" "B" (.int (0 : Int32)) := F0c.keep Kx421 nin0
  have F427 : Fld Z h421 b "java/lang/AbstractStringBuilder" "count" "I" (.int (0 : Int32)) := F0n.keep Kx421 nin0
  have F428 : Fld Z h421 b "java/lang/AbstractStringBuilder" "value" "[B" .null := F0v.keep Kx421 nin0
  have O429 : Old Z n0 h421 := O0.keep Kx421 all0
  have Z430 : n0 ≤ h421.size := Nat.le_trans Z0 Kx421.1
  have K431 : Keep h0 h421 [b] := K0b.trans Kx421 (all0)
  have V432 : Arv Z h421 t k421 .byte (16 : Int32) [] (.int (0 : Int32)) := Arv.new A421 (by decide)
  show GoOn p e below (T421.setTop (mkF m 14 #[.val (.ref b), .val (.int (16 : Int32))] [(.ref t), (.ref b)])) _
  obtain ⟨T433, h433, X433, e433, W433, st433⟩ := putF X421 hx hZ hown (host := "") (Or.inl (hw _ (List.mem_of_getElem? (i := 46) rfl))) Via.refl e421 F428 E425 (Or.inl (hw _ (List.mem_of_getElem? (i := 47) rfl))) (hw _ (List.mem_of_getElem? (i := 33) rfl)) (ty := (.array .byte)) (by decide) rfl rfl (g := (mkF m 14 #[.val (.ref b), .val (.int (16 : Int32))] [(.ref t), (.ref b)])) rfl rfl (hb hby own_d249)
  have N434 := Fr.snoc X433 N0 gb
  have Kx433 : Keep h421 h433 [b] := Keep.of_wr W433
  have F435 : Fld Z h433 b "java/lang/AbstractStringBuilder" "value" "[B" (.ref t) := F428.same W433
  have F436 : Fld Z h433 b "java/lang/AbstractStringBuilder" "coder" "B" (.int (0 : Int32)) := F426.other W433 (Or.inr (slot_ne (a0 := a0) (Or.inl (hw _ (List.mem_of_getElem? (i := 49) rfl))) (Or.inl (hw _ (List.mem_of_getElem? (i := 47) rfl))) (by decide) (t := .byte) (t' := (.array .byte)) (by decide) (by decide)))
  have F437 : Fld Z h433 b "java/lang/AbstractStringBuilder" "count" "I" (.int (0 : Int32)) := F427.other W433 (Or.inr (slot_ne (a0 := a0) (Or.inl (hw _ (List.mem_of_getElem? (i := 72) rfl))) (Or.inl (hw _ (List.mem_of_getElem? (i := 47) rfl))) (by decide) (t := .int) (t' := (.array .byte)) (by decide) (by decide)))
  refine GoOn.step st433 ?_
  have E438 : Exa Z h433 b "java/lang/StringBuilder" := E425.keep Kx433
  have O442 : Old Z n0 h433 := O429.keep Kx433 (allS gb all0)
  have Z443 : n0 ≤ h433.size := Nat.le_trans Z430 Kx433.1
  have K444 : Keep h0 h433 [b] := K431.trans Kx433 ((allS (Or.inl (by simp)) all0))
  have Eb445 : Exa Z h433 t "[B" := Eb421.keep Kx433
  have V446 : Arv Z h433 t k421 .byte (16 : Int32) [] (.int (0 : Int32)) := V432.keep Kx433 (ninS (Ne.symm ne422) nin0)
  refine GoOn.step (fun tq kq => XS.aloadN X433.here hx rfl (hb hby own_d250) rfl rfl kq) ?_
  refine GoOn.step (fun tq kq => XS.iconst X433.here hx rfl (hb hby own_d251) kq) ?_
  show GoOn p e below (T433.setTop (mkF m 19 #[.val (.ref b), .val (.int (16 : Int32))] [(.int (0 : Int32)), (.ref b)])) _
  obtain ⟨T447, h447, X447, e447, W447, st447⟩ := putFN X433 hx hZ hown (hw _ (List.mem_of_getElem? (i := 48) rfl)) Via.refl e433 F436 E438 (Or.inl (hw _ (List.mem_of_getElem? (i := 49) rfl))) (hw _ (List.mem_of_getElem? (i := 33) rfl)) (ty := .byte) (v' := (.int (nar .byte (0 : Int32)))) (by decide) rfl (fits_nar_byte _) (g := (mkF m 19 #[.val (.ref b), .val (.int (16 : Int32))] [(.int (0 : Int32)), (.ref b)])) rfl rfl (hb hby own_d252)
  have N448 := Fr.snoc X447 N434 gb
  have Kx447 : Keep h433 h447 [b] := Keep.of_wr W447
  have F449 : Fld Z h447 b "java/lang/AbstractStringBuilder" "coder" "B" (.int (nar .byte (0 : Int32))) := F436.same W447
  have F450 : Fld Z h447 b "java/lang/AbstractStringBuilder" "value" "[B" (.ref t) := F435.other W447 (Or.inr (slot_ne (a0 := a0) (Or.inl (hw _ (List.mem_of_getElem? (i := 47) rfl))) (Or.inl (hw _ (List.mem_of_getElem? (i := 49) rfl))) (by decide) (t := (.array .byte)) (t' := .byte) (by decide) (by decide)))
  have F451 : Fld Z h447 b "java/lang/AbstractStringBuilder" "count" "I" (.int (0 : Int32)) := F437.other W447 (Or.inr (slot_ne (a0 := a0) (Or.inl (hw _ (List.mem_of_getElem? (i := 72) rfl))) (Or.inl (hw _ (List.mem_of_getElem? (i := 49) rfl))) (by decide) (t := .int) (t' := .byte) (by decide) (by decide)))
  refine GoOn.step st447 ?_
  have E452 : Exa Z h447 b "java/lang/StringBuilder" := E438.keep Kx447
  have O453 : Old Z n0 h447 := O442.keep Kx447 (allS gb all0)
  have Z454 : n0 ≤ h447.size := Nat.le_trans Z443 Kx447.1
  have K455 : Keep h0 h447 [b] := K444.trans Kx447 ((allS (Or.inl (by simp)) all0))
  have Eb456 : Exa Z h447 t "[B" := Eb445.keep Kx447
  have V457 : Arv Z h447 t k421 .byte (16 : Int32) [] (.int (0 : Int32)) := V446.keep Kx447 (ninS (Ne.symm ne422) nin0)
  refine GoOn.step (fun tq kq => XS.goto X447.here hx rfl (pc0 := 22) (pc' := 38) rfl (hb hby own_d253) (by decide) (by decide) kq) ?_
  show GoOn p e below (T447.setTop (mkF m 38 #[.val (.ref b), .val (.int (16 : Int32))] [])) _
  refine GoOn.ret X447 Bd.notSynchronized (v := none) (fun _ => rfl) (fun fs hr => X447.returnOut hx Bd.returns (hb hby own_d254) hr) (by decide) (by decide) ?_
  rw [e447]
  exact ⟨t, _, rfl, N448, K455, sz424, E452, F449, F451, F450, V457, Eb456⟩
set_option maxRecDepth 65536 in
set_option maxHeartbeats 40000000 in
theorem rmSBI (l : Launch) (Z : State) (a0 : Array Value) (hw : ∀ d ∈ tables_1, d.before a0 Z = true) (b : Addr) (G1 : Int32) (h0 : Heap) (n0 : Nat) (Z0 : n0 ≤ h0.size) (SC : Sta Z Z.heap "java/lang/String" "COMPACT_STRINGS" "Z" (.int G1)) (PC : ¬ G1 = (0 : Int32)) (E0 : Exa Z h0 b "java/lang/StringBuilder") (F0c : Fld Z h0 b "java/lang/AbstractStringBuilder" "coder" "B" (.int (0 : Int32))) (F0n : Fld Z h0 b "java/lang/AbstractStringBuilder" "count" "I" (.int (0 : Int32))) (F0v : Fld Z h0 b "java/lang/AbstractStringBuilder" "value" "[B" .null) (gb : n0 ≤ b) (O0 : Old Z n0 h0) :
    MetFree l (⟨"java/lang/StringBuilder", "<init>", "()V"⟩ : MethodName) (head1 [Jvm.Cond.code (⟨"java/lang/StringBuilder", "<init>", "()V"⟩ : MethodName) jdk_67_method_1_code 1 none] ({ frames := 2, cells := 1, slots := 16, locals := 25 } : Room)) (fun aa U => aa = #[(.ref b)] ∧ Z.Warmed39 U.vm ∧ U.heap = h0) (fun _ _ _ _ _ => True) (fun _ U o U' => ∃ v L, o = .returned v ∧ QSBJ Z b h0 n0 v U'.heap L ∧ FrameEnd U o U' L ({ frames := 2, cells := 1, slots := 16, locals := 25 } : Room).cells ({ frames := 2, cells := 1, slots := 16, locals := 25 } : Room).slots) := by
  refine MetFree.of_bodySF (plainFor_of_name own_pn233) hisR ?_
  intro p e s m args below meth c s₁ Bd hml0 hP hK
  obtain ⟨rfl, hZ, hh⟩ := hP
  have hx := Bd.exec
  have hby := Bd.bytes
  have hml : c.maxLocals = 1 := hml0
  have hown : s.vm.findClass "java/lang/StringBuilder" = some m.cls := findClass_of_methodNamed Bd.named
  have hnm := (name_of_methodNamed Bd.named Bd.method).1
  have X0 : Stand p l e ({ frames := 2, cells := 1, slots := 16, locals := 25 } : Room) s m #[(.ref b)] below meth c s₁ [] 0 0 := Stand.of_body Bd
  have e0 : s₁.heap = h0 := by rw [← hh, Bd.state]; rfl
  have N0 := Fr.nil n0
  have K0 : Keep h0 h0 [] := Keep.refl _ _
  show GoOn p e below (s₁.setTop (entryFrame m #[(.ref b)] 1)) (PostN s (QSBJ Z b h0 n0) ({ frames := 2, cells := 1, slots := 16, locals := 25 } : Room).cells ({ frames := 2, cells := 1, slots := 16, locals := 25 } : Room).slots)
  refine GoOn.step (fun tq kq => castTop (own_ef255 m b) kq) ?_
  show GoOn p e below (s₁.setTop (mkF m 0 #[.val (.ref b)] [])) _
  have K0b : Keep h0 h0 [b] := Keep.refl _ _
  refine GoOn.step (fun tq kq => XS.aloadN X0.here hx rfl (hb hby own_d256) rfl rfl kq) ?_
  refine GoOn.step (fun tq kq => XS.bipush X0.here hx rfl (hb hby own_d257) kq) ?_
  show GoOn p e below (s₁.setTop (mkF m 3 #[.val (.ref b)] [(.int (16 : Int32)), (.ref b)])) _
  obtain ⟨_, _, ⟨T461, L461, k461, n461⟩, -, X461, ⟨Lc461, hQ461, l461, y461, z461⟩, st461⟩ := X0.specialBack hx (y := (⟨"java/lang/AbstractStringBuilder", "<init>", "(I)V"⟩ : MethodName)) rfl hown (mvT hZ (hw _ (List.mem_of_getElem? (i := 38) rfl))) (mvT hZ (hw _ (List.mem_of_getElem? (i := 39) rfl))) (mvT hZ (hw _ (List.mem_of_getElem? (i := 43) rfl))) (by decide) (backOf (W := 0) (rmASI l Z a0 hw b G1 h0 n0 Z0 SC PC E0 F0c F0n F0v gb O0) hZ (hw _ (List.mem_of_getElem? (i := 43) rfl)) (hw _ (List.mem_of_getElem? (i := 42) rfl)) (by decide) (by decide)) (g := (mkF m 3 #[.val (.ref b)] [(.int (16 : Int32)), (.ref b)])) rfl (by rw [hml]; rfl) (Steps.refl _) (a := b) (argsL := [(.int (16 : Int32))]) (rest := []) (lenOf own_pd217 rfl) rfl (by show 2 * 0 + _ ≤ _; exact Nat.le_of_eq rfl) (hb hby own_d258) (fun _ _ => ⟨rfl, e0, (by decide : 0 + 1 ≤ _), (by decide : 0 + 16 ≤ _)⟩)
  dsimp only [Pt.U, Pt.locs, Pt.cells, Pt.slots] at X461 l461 y461 z461 st461 hQ461
  subst l461 y461 z461
  obtain ⟨t461, kb461, rfl, N461, K461, ge461, E461, Fc461, Fn461, Fv461, V461, Eb461⟩ := hQ461
  refine GoOn.trans st461 ?_
  have N462 := Fr.app N0 N461
  have E463 : Exa Z T461.heap b "java/lang/StringBuilder" := E0.keep K461
  have O467 : Old Z n0 T461.heap := O0.keep K461 (allS gb all0)
  have Z468 : n0 ≤ T461.heap.size := Nat.le_trans Z0 K461.1
  have K469 : Keep h0 T461.heap [b] := K0b.trans K461 ((allS (Or.inl (by simp)) all0))
  show GoOn p e below (T461.setTop (mkF m 6 #[.val (.ref b)] [])) _
  refine GoOn.ret X461 Bd.notSynchronized (v := none) (fun _ => rfl) (fun fs hr => X461.returnOut hx Bd.returns (hb hby own_d259) hr) (by decide) (by decide) ?_
  exact ⟨t461, kb461, rfl, N462, K469, ge461, E461, Fc461, Fn461, Fv461, V461, Eb461⟩
set_option maxRecDepth 65536 in
set_option maxHeartbeats 40000000 in
theorem rmGetV (l : Launch) (Z : State) (a0 : Array Value) (hw : ∀ d ∈ tables_1, d.before a0 Z = true) (b t : Addr) (h0 : Heap) (n0 : Nat) (Z0 : n0 ≤ h0.size) (F0 : Fld Z h0 b "java/lang/AbstractStringBuilder" "value" "[B" (.ref t)) :
    MetFree l (⟨"java/lang/AbstractStringBuilder", "getValue", "()[B"⟩ : MethodName) (head1 [Jvm.Cond.code (⟨"java/lang/AbstractStringBuilder", "getValue", "()[B"⟩ : MethodName) jdk_68_method_64_code 1 (some (.array .byte))] ({ frames := 0, cells := 0, slots := 0, locals := 0 } : Room)) (fun aa U => aa = #[(.ref b)] ∧ Z.Warmed39 U.vm ∧ U.heap = h0) (fun _ _ _ _ _ => True) (fun _ U o U' => ∃ v L, o = .returned v ∧ QSame (.ref t) h0 n0 v U'.heap L ∧ FrameEnd U o U' L ({ frames := 0, cells := 0, slots := 0, locals := 0 } : Room).cells ({ frames := 0, cells := 0, slots := 0, locals := 0 } : Room).slots) := by
  refine MetFree.of_bodySF (plainFor_of_name own_pn151) hisR ?_
  intro p e s m args below meth c s₁ Bd hml0 hP hK
  obtain ⟨rfl, hZ, hh⟩ := hP
  have hx := Bd.exec
  have hby := Bd.bytes
  have hml : c.maxLocals = 1 := hml0
  have hown : s.vm.findClass "java/lang/AbstractStringBuilder" = some m.cls := findClass_of_methodNamed Bd.named
  have hnm := (name_of_methodNamed Bd.named Bd.method).1
  have X0 : Stand p l e ({ frames := 0, cells := 0, slots := 0, locals := 0 } : Room) s m #[(.ref b)] below meth c s₁ [] 0 0 := Stand.of_body Bd
  have e0 : s₁.heap = h0 := by rw [← hh, Bd.state]; rfl
  have N0 := Fr.nil n0
  have K0 : Keep h0 h0 [] := Keep.refl _ _
  show GoOn p e below (s₁.setTop (entryFrame m #[(.ref b)] 1)) (PostN s (QSame (.ref t) h0 n0) ({ frames := 0, cells := 0, slots := 0, locals := 0 } : Room).cells ({ frames := 0, cells := 0, slots := 0, locals := 0 } : Room).slots)
  refine GoOn.step (fun tq kq => castTop (own_ef260 m b) kq) ?_
  refine GoOn.step (fun tq kq => XS.aloadN X0.here hx rfl (hb hby own_d261) rfl rfl kq) ?_
  show GoOn p e below (s₁.setTop (mkF m 1 #[.val (.ref b)] [(.ref b)])) _
  obtain ⟨T470, X470, e470, st470⟩ := getF X0 hx hZ hown (host := "") (Or.inl (hw _ (List.mem_of_getElem? (i := 46) rfl))) Via.refl e0 F0 (g := (mkF m 1 #[.val (.ref b)] [(.ref b)])) rfl rfl (hb hby own_d262)
  refine GoOn.step st470 ?_
  show GoOn p e below (T470.setTop (mkF m 4 #[.val (.ref b)] [(.ref t)])) _
  refine GoOn.ret X470 Bd.notSynchronized (v := some (.ref t)) (fun h => by rw [Bd.returns] at h; cases h) (fun fs hr => retOut X470 hx Bd.returns rfl (Or.inr (Or.inr (Or.inr (Or.inr ⟨rfl, rfl, rfl⟩)))) (hb hby own_d263) hr) (by decide) (by decide) ?_
  rw [e470]
  exact ⟨rfl, N0, rfl⟩
set_option maxRecDepth 65536 in
set_option maxHeartbeats 40000000 in
theorem rmALen (l : Launch) (Z : State) (a0 : Array Value) (hw : ∀ d ∈ tables_1, d.before a0 Z = true) (b : Addr) (k : Int32) (h0 : Heap) (n0 : Nat) (Z0 : n0 ≤ h0.size) (F0 : Fld Z h0 b "java/lang/AbstractStringBuilder" "count" "I" (.int k)) :
    MetFree l (⟨"java/lang/AbstractStringBuilder", "length", "()I"⟩ : MethodName) (head1 [Jvm.Cond.code (⟨"java/lang/AbstractStringBuilder", "length", "()I"⟩ : MethodName) jdk_68_method_6_code 1 (some .int)] ({ frames := 0, cells := 0, slots := 0, locals := 0 } : Room)) (fun aa U => aa = #[(.ref b)] ∧ Z.Warmed39 U.vm ∧ U.heap = h0) (fun _ _ _ _ _ => True) (fun _ U o U' => ∃ v L, o = .returned v ∧ QSame (.int k) h0 n0 v U'.heap L ∧ FrameEnd U o U' L ({ frames := 0, cells := 0, slots := 0, locals := 0 } : Room).cells ({ frames := 0, cells := 0, slots := 0, locals := 0 } : Room).slots) := by
  refine MetFree.of_bodySF (plainFor_of_name own_pn151) hisR ?_
  intro p e s m args below meth c s₁ Bd hml0 hP hK
  obtain ⟨rfl, hZ, hh⟩ := hP
  have hx := Bd.exec
  have hby := Bd.bytes
  have hml : c.maxLocals = 1 := hml0
  have hown : s.vm.findClass "java/lang/AbstractStringBuilder" = some m.cls := findClass_of_methodNamed Bd.named
  have hnm := (name_of_methodNamed Bd.named Bd.method).1
  have X0 : Stand p l e ({ frames := 0, cells := 0, slots := 0, locals := 0 } : Room) s m #[(.ref b)] below meth c s₁ [] 0 0 := Stand.of_body Bd
  have e0 : s₁.heap = h0 := by rw [← hh, Bd.state]; rfl
  have N0 := Fr.nil n0
  have K0 : Keep h0 h0 [] := Keep.refl _ _
  show GoOn p e below (s₁.setTop (entryFrame m #[(.ref b)] 1)) (PostN s (QSame (.int k) h0 n0) ({ frames := 0, cells := 0, slots := 0, locals := 0 } : Room).cells ({ frames := 0, cells := 0, slots := 0, locals := 0 } : Room).slots)
  refine GoOn.step (fun tq kq => castTop (own_ef264 m b) kq) ?_
  refine GoOn.step (fun tq kq => XS.aloadN X0.here hx rfl (hb hby own_d265) rfl rfl kq) ?_
  show GoOn p e below (s₁.setTop (mkF m 1 #[.val (.ref b)] [(.ref b)])) _
  obtain ⟨T471, X471, e471, st471⟩ := getF X0 hx hZ hown (host := "") (Or.inl (hw _ (List.mem_of_getElem? (i := 71) rfl))) Via.refl e0 F0 (g := (mkF m 1 #[.val (.ref b)] [(.ref b)])) rfl rfl (hb hby own_d266)
  refine GoOn.step st471 ?_
  show GoOn p e below (T471.setTop (mkF m 4 #[.val (.ref b)] [(.int k)])) _
  refine GoOn.ret X471 Bd.notSynchronized (v := some (.int k)) (fun h => by rw [Bd.returns] at h; cases h) (fun fs hr => retI X471 hx Bd.returns (hb hby own_d267) hr) (by decide) (by decide) ?_
  rw [e471]
  exact ⟨rfl, N0, rfl⟩
set_option maxRecDepth 65536 in
set_option maxHeartbeats 40000000 in
theorem rmSLen (l : Launch) (Z : State) (a0 : Array Value) (hw : ∀ d ∈ tables_1, d.before a0 Z = true) (b : Addr) (k : Int32) (h0 : Heap) (n0 : Nat) (Z0 : n0 ≤ h0.size) (E0 : Exa Z h0 b "java/lang/StringBuilder") (F0 : Fld Z h0 b "java/lang/AbstractStringBuilder" "count" "I" (.int k)) :
    MetFree l (⟨"java/lang/StringBuilder", "length", "()I"⟩ : MethodName) (head1 [Jvm.Cond.code (⟨"java/lang/StringBuilder", "length", "()I"⟩ : MethodName) jdk_67_method_93_code 1 (some .int)] ({ frames := 1, cells := 0, slots := 0, locals := 12 } : Room)) (fun aa U => aa = #[(.ref b)] ∧ Z.Warmed39 U.vm ∧ U.heap = h0) (fun _ _ _ _ _ => True) (fun _ U o U' => ∃ v L, o = .returned v ∧ QSame (.int k) h0 n0 v U'.heap L ∧ FrameEnd U o U' L ({ frames := 1, cells := 0, slots := 0, locals := 12 } : Room).cells ({ frames := 1, cells := 0, slots := 0, locals := 12 } : Room).slots) := by
  refine MetFree.of_bodySF (plainFor_of_name own_pn233) hisR ?_
  intro p e s m args below meth c s₁ Bd hml0 hP hK
  obtain ⟨rfl, hZ, hh⟩ := hP
  have hx := Bd.exec
  have hby := Bd.bytes
  have hml : c.maxLocals = 1 := hml0
  have hown : s.vm.findClass "java/lang/StringBuilder" = some m.cls := findClass_of_methodNamed Bd.named
  have hnm := (name_of_methodNamed Bd.named Bd.method).1
  have X0 : Stand p l e ({ frames := 1, cells := 0, slots := 0, locals := 12 } : Room) s m #[(.ref b)] below meth c s₁ [] 0 0 := Stand.of_body Bd
  have e0 : s₁.heap = h0 := by rw [← hh, Bd.state]; rfl
  have N0 := Fr.nil n0
  have K0 : Keep h0 h0 [] := Keep.refl _ _
  show GoOn p e below (s₁.setTop (entryFrame m #[(.ref b)] 1)) (PostN s (QSame (.int k) h0 n0) ({ frames := 1, cells := 0, slots := 0, locals := 12 } : Room).cells ({ frames := 1, cells := 0, slots := 0, locals := 12 } : Room).slots)
  refine GoOn.step (fun tq kq => castTop (own_ef268 m b) kq) ?_
  refine GoOn.step (fun tq kq => XS.aloadN X0.here hx rfl (hb hby own_d269) rfl rfl kq) ?_
  show GoOn p e below (s₁.setTop (mkF m 1 #[.val (.ref b)] [(.ref b)])) _
  obtain ⟨_, _, ⟨T472, L472, k472, n472⟩, -, X472, ⟨Lc472, hQ472, l472, y472, z472⟩, st472⟩ := superBack X0 hx hZ hown (hw _ (List.mem_of_getElem? (i := 145) rfl)) (own_same (hw _ (List.mem_of_getElem? (i := 141) rfl)) ⟨(hw _ (List.mem_of_getElem? (i := 137) rfl)), rfl⟩ (by decide)) (hw _ (List.mem_of_getElem? (i := 141) rfl)) (hw _ (List.mem_of_getElem? (i := 57) rfl)) (by decide) (backOf (W := 0) (rmALen l Z a0 hw b k h0 n0 Z0 F0) hZ (hw _ (List.mem_of_getElem? (i := 146) rfl)) (hw _ (List.mem_of_getElem? (i := 42) rfl)) (by decide) (by decide)) e0 (Ins.self E0) (g := (mkF m 1 #[.val (.ref b)] [(.ref b)])) rfl (by rw [hml]; rfl) (hw _ (List.mem_of_getElem? (i := 146) rfl)) (argsL := []) (rest := []) (lenOf own_pd209 rfl) rfl (by show 2 * 0 + _ ≤ _; exact Nat.le_of_eq rfl) (hb hby own_d270) (fun _ _ => ⟨rfl, e0, (by decide : 0 + 0 ≤ _), (by decide : 0 + 0 ≤ _)⟩)
  dsimp only [Pt.U, Pt.locs, Pt.cells, Pt.slots] at X472 l472 y472 z472 st472 hQ472
  subst l472 y472 z472
  obtain ⟨rfl, N472, e472⟩ := hQ472
  refine GoOn.trans st472 ?_
  have N473 := Fr.app N0 N472
  show GoOn p e below (T472.setTop (mkF m 4 #[.val (.ref b)] [(.int k)])) _
  refine GoOn.ret X472 Bd.notSynchronized (v := some (.int k)) (fun h => by rw [Bd.returns] at h; cases h) (fun fs hr => retI X472 hx Bd.returns (hb hby own_d271) hr) (by decide) (by decide) ?_
  rw [e472]
  exact ⟨rfl, N473, rfl⟩
set_option maxRecDepth 65536 in
set_option maxHeartbeats 40000000 in
theorem rmIsL (l : Launch) (Z : State) (a0 : Array Value) (hw : ∀ d ∈ tables_1, d.before a0 Z = true) (b : Addr) (G1 : Int32) (h0 : Heap) (n0 : Nat) (Z0 : n0 ≤ h0.size) (SC : Sta Z Z.heap "java/lang/String" "COMPACT_STRINGS" "Z" (.int G1)) (PC : ¬ G1 = (0 : Int32)) (F0 : Fld Z h0 b "java/lang/AbstractStringBuilder" "coder" "B" (.int 0)) (O0 : Old Z n0 h0) :
    MetFree l (⟨"java/lang/AbstractStringBuilder", "isLatin1", "()Z"⟩ : MethodName) (head1 [Jvm.Cond.code (⟨"java/lang/AbstractStringBuilder", "isLatin1", "()Z"⟩ : MethodName) jdk_68_method_68_code 1 (some .boolean)] ({ frames := 0, cells := 0, slots := 0, locals := 0 } : Room)) (fun aa U => aa = #[(.ref b)] ∧ Z.Warmed39 U.vm ∧ U.heap = h0) (fun _ _ _ _ _ => True) (fun _ U o U' => ∃ v L, o = .returned v ∧ QSame (.int 1) h0 n0 v U'.heap L ∧ FrameEnd U o U' L ({ frames := 0, cells := 0, slots := 0, locals := 0 } : Room).cells ({ frames := 0, cells := 0, slots := 0, locals := 0 } : Room).slots) := by
  refine MetFree.of_bodySF (plainFor_of_name own_pn151) hisR ?_
  intro p e s m args below meth c s₁ Bd hml0 hP hK
  obtain ⟨rfl, hZ, hh⟩ := hP
  have hx := Bd.exec
  have hby := Bd.bytes
  have hml : c.maxLocals = 1 := hml0
  have hown : s.vm.findClass "java/lang/AbstractStringBuilder" = some m.cls := findClass_of_methodNamed Bd.named
  have hnm := (name_of_methodNamed Bd.named Bd.method).1
  have X0 : Stand p l e ({ frames := 0, cells := 0, slots := 0, locals := 0 } : Room) s m #[(.ref b)] below meth c s₁ [] 0 0 := Stand.of_body Bd
  have e0 : s₁.heap = h0 := by rw [← hh, Bd.state]; rfl
  have N0 := Fr.nil n0
  have K0 : Keep h0 h0 [] := Keep.refl _ _
  show GoOn p e below (s₁.setTop (entryFrame m #[(.ref b)] 1)) (PostN s (QSame (.int 1) h0 n0) ({ frames := 0, cells := 0, slots := 0, locals := 0 } : Room).cells ({ frames := 0, cells := 0, slots := 0, locals := 0 } : Room).slots)
  refine GoOn.step (fun tq kq => castTop (own_ef272 m b) kq) ?_
  show GoOn p e below (s₁.setTop (mkF m 0 #[.val (.ref b)] [])) _
  obtain ⟨T474, X474, e474, st474⟩ := getS2 X0 hx hZ hown (host := "") (Or.inl (hw _ (List.mem_of_getElem? (i := 45) rfl))) Via.refl e0 (SC.ext O0.2) (g := (mkF m 0 #[.val (.ref b)] [])) rfl (hb hby own_d273)
  refine GoOn.step st474 ?_
  refine GoOn.step (fun tq kq => XS.ifNo X474.here hx rfl (hb hby own_d274) rfl ((if0 _ _).trans (feq PC).1) kq) ?_
  refine GoOn.step (fun tq kq => XS.aloadN X474.here hx rfl (hb hby own_d275) rfl rfl kq) ?_
  show GoOn p e below (T474.setTop (mkF m 7 #[.val (.ref b)] [(.ref b)])) _
  obtain ⟨T475, X475, e475, st475⟩ := getF X474 hx hZ hown (host := "") (Or.inl (hw _ (List.mem_of_getElem? (i := 48) rfl))) Via.refl e474 F0 (g := (mkF m 7 #[.val (.ref b)] [(.ref b)])) rfl rfl (hb hby own_d276)
  refine GoOn.step st475 ?_
  refine GoOn.step (fun tq kq => XS.ifNo X475.here hx rfl (hb hby own_d277) rfl ((if0 _ _).trans (teq rfl).2) kq) ?_
  refine GoOn.step (fun tq kq => XS.iconst X475.here hx rfl (hb hby own_d278) kq) ?_
  refine GoOn.step (fun tq kq => XS.goto X475.here hx rfl (pc0 := 14) (pc' := 18) rfl (hb hby own_d279) (by decide) (by decide) kq) ?_
  show GoOn p e below (T475.setTop (mkF m 18 #[.val (.ref b)] [(.int (1 : Int32))])) _
  refine GoOn.ret X475 Bd.notSynchronized (v := some (.int (nar .boolean (1 : Int32)))) (fun h => by rw [Bd.returns] at h; cases h) (fun fs hr => retN X475 hx (t := .boolean) Bd.returns (by simp) (hb hby own_d280) hr) (by decide) (by decide) ?_
  rw [e475]
  exact ⟨rfl, N0, rfl⟩
set_option maxRecDepth 65536 in
set_option maxHeartbeats 40000000 in
theorem rmMin (l : Launch) (Z : State) (a0 : Array Value) (hw : ∀ d ∈ tables_1, d.before a0 Z = true) (x y : Int32) (h0 : Heap) (n0 : Nat) (Z0 : n0 ≤ h0.size) (hxy : y < x) :
    MetFree l (⟨"java/lang/Math", "min", "(II)I"⟩ : MethodName) (head1 [Jvm.Cond.code (⟨"java/lang/Math", "min", "(II)I"⟩ : MethodName) jdk_29_method_69_code 2 (some .int)] ({ frames := 0, cells := 0, slots := 0, locals := 0 } : Room)) (fun aa U => aa = #[(.int x), (.int y)] ∧ Z.Warmed39 U.vm ∧ U.heap = h0) (fun _ _ _ _ _ => True) (fun _ U o U' => ∃ v L, o = .returned v ∧ QSame (.int y) h0 n0 v U'.heap L ∧ FrameEnd U o U' L ({ frames := 0, cells := 0, slots := 0, locals := 0 } : Room).cells ({ frames := 0, cells := 0, slots := 0, locals := 0 } : Room).slots) := by
  refine MetFree.of_bodySF (Jvm.Free.JP.mathPlain rfl (by decide +kernel)) hisR ?_
  intro p e s m args below meth c s₁ Bd hml0 hP hK
  obtain ⟨rfl, hZ, hh⟩ := hP
  have hx := Bd.exec
  have hby := Bd.bytes
  have hml : c.maxLocals = 2 := hml0
  have hown : s.vm.findClass "java/lang/Math" = some m.cls := findClass_of_methodNamed Bd.named
  have hnm := (name_of_methodNamed Bd.named Bd.method).1
  have X0 : Stand p l e ({ frames := 0, cells := 0, slots := 0, locals := 0 } : Room) s m #[(.int x), (.int y)] below meth c s₁ [] 0 0 := Stand.of_body Bd
  have e0 : s₁.heap = h0 := by rw [← hh, Bd.state]; rfl
  have N0 := Fr.nil n0
  have K0 : Keep h0 h0 [] := Keep.refl _ _
  show GoOn p e below (s₁.setTop (entryFrame m #[(.int x), (.int y)] 2)) (PostN s (QSame (.int y) h0 n0) ({ frames := 0, cells := 0, slots := 0, locals := 0 } : Room).cells ({ frames := 0, cells := 0, slots := 0, locals := 0 } : Room).slots)
  refine GoOn.step (fun tq kq => castTop (own_ef281 m x y) kq) ?_
  refine GoOn.step (fun tq kq => XS.iloadN X0.here hx rfl (hb hby own_d282) rfl kq) ?_
  refine GoOn.step (fun tq kq => XS.iloadN X0.here hx rfl (hb hby own_d283) rfl kq) ?_
  refine GoOn.step (fun tq kq => XS.icmpYes X0.here hx rfl (pc0 := 2) (pc' := 9) rfl (hb hby own_d284) rfl (tlt hxy).2.2.1 (by decide) (by decide) kq) ?_
  refine GoOn.step (fun tq kq => XS.iloadN X0.here hx rfl (hb hby own_d285) rfl kq) ?_
  show GoOn p e below (s₁.setTop (mkF m 10 #[.val (.int x), .val (.int y)] [(.int y)])) _
  refine GoOn.ret X0 Bd.notSynchronized (v := some (.int y)) (fun h => by rw [Bd.returns] at h; cases h) (fun fs hr => retI X0 hx Bd.returns (hb hby own_d286) hr) (by decide) (by decide) ?_
  rw [e0]
  exact ⟨rfl, N0, rfl⟩
set_option maxRecDepth 65536 in
set_option maxHeartbeats 40000000 in
theorem rmChk (l : Launch) (Z : State) (a0 : Array Value) (hw : ∀ d ∈ tables_1, d.before a0 Z = true) (x y : Int32) (h0 : Heap) (n0 : Nat) (Z0 : n0 ≤ h0.size) (hxy : ¬ y < x) :
    MetFree l (⟨"java/util/Arrays", "checkLength", "(II)V"⟩ : MethodName) (head1 [Jvm.Cond.code (⟨"java/util/Arrays", "checkLength", "(II)V"⟩ : MethodName) jdk_65_method_131_code 2 none] ({ frames := 0, cells := 0, slots := 0, locals := 0 } : Room)) (fun aa U => aa = #[(.int x), (.int y)] ∧ Z.Warmed39 U.vm ∧ U.heap = h0) (fun _ _ _ _ _ => True) (fun _ U o U' => ∃ v L, o = .returned v ∧ QNone h0 n0 v U'.heap L ∧ FrameEnd U o U' L ({ frames := 0, cells := 0, slots := 0, locals := 0 } : Room).cells ({ frames := 0, cells := 0, slots := 0, locals := 0 } : Room).slots) := by
  refine MetFree.of_bodySF (plainFor_of_name own_pn288) hisR ?_
  intro p e s m args below meth c s₁ Bd hml0 hP hK
  obtain ⟨rfl, hZ, hh⟩ := hP
  have hx := Bd.exec
  have hby := Bd.bytes
  have hml : c.maxLocals = 2 := hml0
  have hown : s.vm.findClass "java/util/Arrays" = some m.cls := findClass_of_methodNamed Bd.named
  have hnm := (name_of_methodNamed Bd.named Bd.method).1
  have X0 : Stand p l e ({ frames := 0, cells := 0, slots := 0, locals := 0 } : Room) s m #[(.int x), (.int y)] below meth c s₁ [] 0 0 := Stand.of_body Bd
  have e0 : s₁.heap = h0 := by rw [← hh, Bd.state]; rfl
  have N0 := Fr.nil n0
  have K0 : Keep h0 h0 [] := Keep.refl _ _
  show GoOn p e below (s₁.setTop (entryFrame m #[(.int x), (.int y)] 2)) (PostN s (QNone h0 n0) ({ frames := 0, cells := 0, slots := 0, locals := 0 } : Room).cells ({ frames := 0, cells := 0, slots := 0, locals := 0 } : Room).slots)
  refine GoOn.step (fun tq kq => castTop (own_ef287 m x y) kq) ?_
  refine GoOn.step (fun tq kq => XS.iloadN X0.here hx rfl (hb hby own_d289) rfl kq) ?_
  refine GoOn.step (fun tq kq => XS.iloadN X0.here hx rfl (hb hby own_d290) rfl kq) ?_
  refine GoOn.step (fun tq kq => XS.icmpYes X0.here hx rfl (pc0 := 2) (pc' := 37) rfl (hb hby own_d291) rfl (flt hxy).2.1 (by decide) (by decide) kq) ?_
  show GoOn p e below (s₁.setTop (mkF m 37 #[.val (.int x), .val (.int y)] [])) _
  refine GoOn.ret X0 Bd.notSynchronized (v := none) (fun _ => rfl) (fun fs hr => X0.returnOut hx Bd.returns (hb hby own_d292) hr) (by decide) (by decide) ?_
  rw [e0]
  exact ⟨rfl, N0, rfl⟩
def QCop (Z : State) (cs : List Int32) (h0 : Heap) (n0 : Nat) (v : Option Value) (h : Heap) (L : List Loc) : Prop := ∃ (u : Addr) (ku : ClassId), v = some (.ref u) ∧ Fr n0 L ∧ Keep h0 h [] ∧ h0.size ≤ u ∧ Arv Z h u ku .byte (Int32.ofNat cs.length) (own_bs cs) (.int 0)
set_option maxRecDepth 65536 in
set_option maxHeartbeats 40000000 in
theorem rmCRB (l : Launch) (Z : State) (a0 : Array Value) (hw : ∀ d ∈ tables_1, d.before a0 Z = true) (t : Addr) (kb : ClassId) (cap : Nat) (cs : List Int32) (h0 : Heap) (n0 : Nat) (Z0 : n0 ≤ h0.size) (V0 : Arv Z h0 t kb .byte (Int32.ofNat cap) (own_sb cap cs) (.int 0)) (hlt : cs.length < cap) (hc4 : cap ≤ 40) :
    MetFree l (⟨"java/util/Arrays", "copyOfRangeByte", "([BII)[B"⟩ : MethodName) (head1 [Jvm.Cond.code (⟨"java/util/Arrays", "copyOfRangeByte", "([BII)[B"⟩ : MethodName) jdk_65_method_133_code 5 (some (.array .byte))] ({ frames := 1, cells := 1, slots := 40, locals := 18 } : Room)) (fun aa U => aa = #[(.ref t), (.int (0 : Int32)), (.int (Int32.ofNat cs.length))] ∧ Z.Warmed39 U.vm ∧ U.heap = h0) (fun _ _ _ _ _ => True) (fun _ U o U' => ∃ v L, o = .returned v ∧ QCop Z cs h0 n0 v U'.heap L ∧ FrameEnd U o U' L ({ frames := 1, cells := 1, slots := 40, locals := 18 } : Room).cells ({ frames := 1, cells := 1, slots := 40, locals := 18 } : Room).slots) := by
  refine MetFree.of_bodySF (plainFor_of_name own_pn288) hisR ?_
  intro p e s m args below meth c s₁ Bd hml0 hP hK
  obtain ⟨rfl, hZ, hh⟩ := hP
  have hx := Bd.exec
  have hby := Bd.bytes
  have hml : c.maxLocals = 5 := hml0
  have hown : s.vm.findClass "java/util/Arrays" = some m.cls := findClass_of_methodNamed Bd.named
  have hnm := (name_of_methodNamed Bd.named Bd.method).1
  have X0 : Stand p l e ({ frames := 1, cells := 1, slots := 40, locals := 18 } : Room) s m #[(.ref t), (.int (0 : Int32)), (.int (Int32.ofNat cs.length))] below meth c s₁ [] 0 0 := Stand.of_body Bd
  have e0 : s₁.heap = h0 := by rw [← hh, Bd.state]; rfl
  have N0 := Fr.nil n0
  have K0 : Keep h0 h0 [] := Keep.refl _ _
  show GoOn p e below (s₁.setTop (entryFrame m #[(.ref t), (.int (0 : Int32)), (.int (Int32.ofNat cs.length))] 5)) (PostN s (QCop Z cs h0 n0) ({ frames := 1, cells := 1, slots := 40, locals := 18 } : Room).cells ({ frames := 1, cells := 1, slots := 40, locals := 18 } : Room).slots)
  refine GoOn.step (fun tq kq => castTop (own_ef293 m t (0 : Int32) (Int32.ofNat cs.length)) kq) ?_
  show GoOn p e below (s₁.setTop (mkF m 0 #[.val (.ref t), .val (.int (0 : Int32)), .val (.int (Int32.ofNat cs.length)), .unset, .unset] [])) _
  have hcs : cs.length ≤ 4000 := by omega
  have hc5 : cap ≤ 4000 := by omega
  refine GoOn.step (fun tq kq => XS.iloadN X0.here hx rfl (hb hby own_d294) rfl kq) ?_
  refine GoOn.step (fun tq kq => XS.iloadN X0.here hx rfl (hb hby own_d295) rfl kq) ?_
  show GoOn p e below (s₁.setTop (mkF m 2 #[.val (.ref t), .val (.int (0 : Int32)), .val (.int (Int32.ofNat cs.length)), .unset, .unset] [(.int (Int32.ofNat cs.length)), (.int (0 : Int32))])) _
  obtain ⟨_, _, ⟨T476, L476, k476, n476⟩, -, X476, ⟨Lc476, hQ476, l476, y476, z476⟩, st476⟩ := Jvm.LawKit.callS X0 hx (y := (⟨"java/util/Arrays", "checkLength", "(II)V"⟩ : MethodName)) hown (mvT hZ (hw _ (List.mem_of_getElem? (i := 155) rfl))) (mvT hZ (hw _ (List.mem_of_getElem? (i := 156) rfl))) (mvT hZ (hw _ (List.mem_of_getElem? (i := 150) rfl))) (mvT hZ (hw _ (List.mem_of_getElem? (i := 157) rfl))) (by decide) (backOf (W := 0) (rmChk l Z a0 hw 0 (Int32.ofNat cs.length) h0 n0 Z0 (own_nn hcs)) hZ (hw _ (List.mem_of_getElem? (i := 157) rfl)) (hw _ (List.mem_of_getElem? (i := 150) rfl)) (by decide) (by decide)) (g := (mkF m 2 #[.val (.ref t), .val (.int (0 : Int32)), .val (.int (Int32.ofNat cs.length)), .unset, .unset] [(.int (Int32.ofNat cs.length)), (.int (0 : Int32))])) rfl (by rw [hml]; rfl) (argsL := [(.int (0 : Int32)), (.int (Int32.ofNat cs.length))]) (rest := []) (lenOf own_pd297 rfl) rfl (by show 2 * 0 + _ ≤ _; exact Nat.le_of_eq rfl) (hb hby own_d296) (fun _ _ => ⟨rfl, e0, (by decide : 0 + 0 ≤ _), (by decide : 0 + 0 ≤ _)⟩)
  dsimp only [Pt.U, Pt.locs, Pt.cells, Pt.slots] at X476 l476 y476 z476 st476 hQ476
  subst l476 y476 z476
  obtain ⟨rfl, N476, e476⟩ := hQ476
  refine GoOn.step st476 ?_
  have N477 := Fr.app N0 N476
  refine GoOn.step (fun tq kq => XS.iloadN X476.here hx rfl (hb hby own_d298) rfl kq) ?_
  refine GoOn.step (fun tq kq => XS.iloadN X476.here hx rfl (hb hby own_d299) rfl kq) ?_
  refine GoOn.step (fun tq kq => XS.isub X476.here hx rfl (hb hby own_d300) rfl kq) ?_
  show GoOn p e below (T476.setTop (mkF m 8 #[.val (.ref t), .val (.int (0 : Int32)), .val (.int (Int32.ofNat cs.length)), .unset, .unset] [(.int ((Int32.ofNat cs.length) - (0 : Int32)))])) _
  rw [own_sub0]
  refine GoOn.step (fun tq kq => XS.istoreN X476.here hx rfl (hb hby own_d301) rfl (l' := #[.val (.ref t), .val (.int (0 : Int32)), .val (.int (Int32.ofNat cs.length)), .val (.int (Int32.ofNat cs.length)), .unset]) rfl kq) ?_
  refine GoOn.step (fun tq kq => XS.iloadN X476.here hx rfl (hb hby own_d302) rfl kq) ?_
  show GoOn p e below (T476.setTop (mkF m 10 #[.val (.ref t), .val (.int (0 : Int32)), .val (.int (Int32.ofNat cs.length)), .val (.int (Int32.ofNat cs.length)), .unset] [(.int (Int32.ofNat cs.length))])) _
  obtain ⟨T478, h478, k478, X478, e478, Ex478, A478, st478⟩ := newP X476 hx hZ (hw _ (List.mem_of_getElem? (i := 19) rfl)) e476 (g := (mkF m 10 #[.val (.ref t), .val (.int (0 : Int32)), .val (.int (Int32.ofNat cs.length)), .val (.int (Int32.ofNat cs.length)), .unset] [(.int (Int32.ofNat cs.length))])) rfl (hb hby own_d303) rfl (own_nn hcs) (cap := 40) (by rw [own_ns hcs]; omega) (by decide) (by decide) (by decide)
  obtain ⟨u, g478⟩ : ∃ z, z = h0.size := ⟨_, rfl⟩
  rw [← g478] at A478 st478
  have ne479 : t ≠ u := Nat.ne_of_lt (Nat.lt_of_lt_of_le V0.lt (Nat.le_of_eq g478.symm))
  have gn480 : n0 ≤ u := Nat.le_trans Z0 (Nat.le_of_eq g478.symm)
  have sz481 : h0.size ≤ u := Nat.le_trans K0.1 (Nat.le_of_eq g478.symm)
  have Kx478 : Keep h0 h478 [] := (Keep.refl _ _).ext Ex478
  refine GoOn.step st478 ?_
  have V482 : Arv Z h478 t kb .byte (Int32.ofNat cap) (own_sb cap cs) (.int 0) := V0.keep Kx478 nin0
  have Z483 : n0 ≤ h478.size := Nat.le_trans Z0 Kx478.1
  have K484 : Keep h0 h478 [] := K0.trans Kx478 (all0)
  have V485 : Arv Z h478 u k478 .byte (Int32.ofNat cs.length) [] (.int (0 : Int32)) := Arv.new A478 (own_nn hcs)
  show GoOn p e below (T478.setTop (mkF m 12 #[.val (.ref t), .val (.int (0 : Int32)), .val (.int (Int32.ofNat cs.length)), .val (.int (Int32.ofNat cs.length)), .unset] [(.ref u)])) _
  have V486 : Arv Z h478 u k478 .byte (Int32.ofNat cs.length) ([] ++ List.replicate cs.length (Value.int 0)) (.int (0 : Int32)) := V485.pad (pad_rep [] (.int (0 : Int32)) cs.length)
  refine GoOn.step (fun tq kq => XS.astore X478.here hx rfl (hb hby own_d304) rfl rfl (l' := #[.val (.ref t), .val (.int (0 : Int32)), .val (.int (Int32.ofNat cs.length)), .val (.int (Int32.ofNat cs.length)), .val (.ref u)]) rfl kq) ?_
  refine GoOn.step (fun tq kq => XS.aloadN X478.here hx rfl (hb hby own_d305) rfl rfl kq) ?_
  refine GoOn.step (fun tq kq => XS.iloadN X478.here hx rfl (hb hby own_d306) rfl kq) ?_
  refine GoOn.step (fun tq kq => XS.aload X478.here hx rfl (hb hby own_d307) rfl rfl kq) ?_
  refine GoOn.step (fun tq kq => XS.iconst X478.here hx rfl (hb hby own_d308) kq) ?_
  refine GoOn.step (fun tq kq => XS.aloadN X478.here hx rfl (hb hby own_d309) rfl rfl kq) ?_
  refine GoOn.step (fun tq kq => alenA X478 hx hZ e478 V482 (g := (mkF m 20 #[.val (.ref t), .val (.int (0 : Int32)), .val (.int (Int32.ofNat cs.length)), .val (.int (Int32.ofNat cs.length)), .val (.ref u)] [(.ref t), (.int (0 : Int32)), (.ref u), (.int (0 : Int32)), (.ref t)])) rfl rfl (hb hby own_d310) _ kq) ?_
  refine GoOn.step (fun tq kq => XS.iloadN X478.here hx rfl (hb hby own_d311) rfl kq) ?_
  refine GoOn.step (fun tq kq => XS.isub X478.here hx rfl (hb hby own_d312) rfl kq) ?_
  show GoOn p e below (T478.setTop (mkF m 23 #[.val (.ref t), .val (.int (0 : Int32)), .val (.int (Int32.ofNat cs.length)), .val (.int (Int32.ofNat cs.length)), .val (.ref u)] [(.int ((Int32.ofNat cap) - (0 : Int32))), (.int (0 : Int32)), (.ref u), (.int (0 : Int32)), (.ref t)])) _
  rw [own_sub0]
  refine GoOn.step (fun tq kq => XS.iloadN X478.here hx rfl (hb hby own_d313) rfl kq) ?_
  show GoOn p e below (T478.setTop (mkF m 24 #[.val (.ref t), .val (.int (0 : Int32)), .val (.int (Int32.ofNat cs.length)), .val (.int (Int32.ofNat cs.length)), .val (.ref u)] [(.int (Int32.ofNat cs.length)), (.int (Int32.ofNat cap)), (.int (0 : Int32)), (.ref u), (.int (0 : Int32)), (.ref t)])) _
  obtain ⟨_, _, ⟨T487, L487, k487, n487⟩, -, X487, ⟨Lc487, hQ487, l487, y487, z487⟩, st487⟩ := Jvm.LawKit.callS X478 hx (y := (⟨"java/lang/Math", "min", "(II)I"⟩ : MethodName)) hown (mvT hZ (hw _ (List.mem_of_getElem? (i := 158) rfl))) (mvT hZ (hw _ (List.mem_of_getElem? (i := 159) rfl))) (mvT hZ (hw _ (List.mem_of_getElem? (i := 160) rfl))) (mvT hZ (hw _ (List.mem_of_getElem? (i := 161) rfl))) (by decide) (backOf (W := 4) (rmMin l Z a0 hw (Int32.ofNat cap) (Int32.ofNat cs.length) h478 n0 Z483 (own_lt32 hlt hc5)) hZ (hw _ (List.mem_of_getElem? (i := 161) rfl)) (hw _ (List.mem_of_getElem? (i := 160) rfl)) (by decide) (by decide)) (g := (mkF m 24 #[.val (.ref t), .val (.int (0 : Int32)), .val (.int (Int32.ofNat cs.length)), .val (.int (Int32.ofNat cs.length)), .val (.ref u)] [(.int (Int32.ofNat cs.length)), (.int (Int32.ofNat cap)), (.int (0 : Int32)), (.ref u), (.int (0 : Int32)), (.ref t)])) rfl (by rw [hml]; rfl) (argsL := [(.int (Int32.ofNat cap)), (.int (Int32.ofNat cs.length))]) (rest := [(.int (0 : Int32)), (.ref u), (.int (0 : Int32)), (.ref t)]) (lenOf own_pd315 rfl) rfl (by show 2 * 0 + _ ≤ _; exact Nat.le_of_eq rfl) (hb hby own_d314) (fun _ _ => ⟨rfl, e478, (by decide : 1 + 0 ≤ _), (by decide : 40 + 0 ≤ _)⟩)
  dsimp only [Pt.U, Pt.locs, Pt.cells, Pt.slots] at X487 l487 y487 z487 st487 hQ487
  subst l487 y487 z487
  obtain ⟨rfl, N487, e487⟩ := hQ487
  refine GoOn.step st487 ?_
  have N488 := Fr.app N477 N487
  show GoOn p e below (T487.setTop (mkF m 27 #[.val (.ref t), .val (.int (0 : Int32)), .val (.int (Int32.ofNat cs.length)), .val (.int (Int32.ofNat cs.length)), .val (.ref u)] [(.int (Int32.ofNat cs.length)), (.int (0 : Int32)), (.ref u), (.int (0 : Int32)), (.ref t)])) _
  obtain ⟨T489, h489, L489, X489, e489, N489, K489, Vc489, st489⟩ := cpA X487 hx hZ hown (hw _ (List.mem_of_getElem? (i := 162) rfl)) (hw _ (List.mem_of_getElem? (i := 97) rfl)) (hw _ (List.mem_of_getElem? (i := 95) rfl)) (hw _ (List.mem_of_getElem? (i := 96) rfl)) e487 V482 V486 (Or.inl ⟨rfl, rfl⟩) (by decide) (by decide) (own_nn hcs) (by rw [own_z0, own_ns hcs, own_ns hc5]; omega) (by rw [own_z0]; simp) rfl (by rw [own_z0, own_ns hcs]; simp) N488 gn480 (g := (mkF m 27 #[.val (.ref t), .val (.int (0 : Int32)), .val (.int (Int32.ofNat cs.length)), .val (.int (Int32.ofNat cs.length)), .val (.ref u)] [(.int (Int32.ofNat cs.length)), (.int (0 : Int32)), (.ref u), (.int (0 : Int32)), (.ref t)])) rfl (by rw [hml]; rfl) rfl (hb hby own_d316) (by decide) (W := 0) (by show 2 * 0 + _ ≤ _; exact Nat.le_of_eq rfl) (by decide)
  have V490 : Arv Z h489 u k478 .byte (Int32.ofNat cs.length) (own_bs cs) (.int (0 : Int32)) := by rw [← own_cut (Nat.le_of_lt hlt) hc5]; exact Vc489
  refine GoOn.step st489 ?_
  have V491 : Arv Z h489 t kb .byte (Int32.ofNat cap) (own_sb cap cs) (.int 0) := V482.keep K489 (ninS ne479 nin0)
  have Z492 : n0 ≤ h489.size := Nat.le_trans Z483 K489.1
  have K493 : Keep h0 h489 [] := K484.trans K489 ((allS (Or.inr sz481) all0))
  refine GoOn.step (fun tq kq => XS.aload X489.here hx rfl (hb hby own_d317) rfl rfl kq) ?_
  show GoOn p e below (T489.setTop (mkF m 32 #[.val (.ref t), .val (.int (0 : Int32)), .val (.int (Int32.ofNat cs.length)), .val (.int (Int32.ofNat cs.length)), .val (.ref u)] [(.ref u)])) _
  refine GoOn.ret X489 Bd.notSynchronized (v := some (.ref u)) (fun h => by rw [Bd.returns] at h; cases h) (fun fs hr => retOut X489 hx Bd.returns rfl (Or.inr (Or.inr (Or.inr (Or.inr ⟨rfl, rfl, rfl⟩)))) (hb hby own_d318) hr) (by decide) (by decide) ?_
  rw [e489]
  exact ⟨u, _, rfl, N489, K493, sz481, V490⟩
set_option maxRecDepth 65536 in
set_option maxHeartbeats 40000000 in
theorem rmCR (l : Launch) (Z : State) (a0 : Array Value) (hw : ∀ d ∈ tables_1, d.before a0 Z = true) (t : Addr) (kb : ClassId) (cap : Nat) (cs : List Int32) (h0 : Heap) (n0 : Nat) (Z0 : n0 ≤ h0.size) (V0 : Arv Z h0 t kb .byte (Int32.ofNat cap) (own_sb cap cs) (.int 0)) (EB : Exa Z h0 t "[B") (hle : cs.length ≤ cap) (hc4 : cap ≤ 40) :
    MetFree l (⟨"java/util/Arrays", "copyOfRange", "([BII)[B"⟩ : MethodName) (head1 [Jvm.Cond.code (⟨"java/util/Arrays", "copyOfRange", "([BII)[B"⟩ : MethodName) jdk_65_method_132_code 3 (some (.array .byte))] ({ frames := 2, cells := 1, slots := 40, locals := 34 } : Room)) (fun aa U => aa = #[(.ref t), (.int (0 : Int32)), (.int (Int32.ofNat cs.length))] ∧ Z.Warmed39 U.vm ∧ U.heap = h0) (fun _ _ _ _ _ => True) (fun _ U o U' => ∃ v L, o = .returned v ∧ QCop Z cs h0 n0 v U'.heap L ∧ FrameEnd U o U' L ({ frames := 2, cells := 1, slots := 40, locals := 34 } : Room).cells ({ frames := 2, cells := 1, slots := 40, locals := 34 } : Room).slots) := by
  refine MetFree.of_bodySF (plainFor_of_name own_pn288) hisR ?_
  intro p e s m args below meth c s₁ Bd hml0 hP hK
  obtain ⟨rfl, hZ, hh⟩ := hP
  have hx := Bd.exec
  have hby := Bd.bytes
  have hml : c.maxLocals = 3 := hml0
  have hown : s.vm.findClass "java/util/Arrays" = some m.cls := findClass_of_methodNamed Bd.named
  have hnm := (name_of_methodNamed Bd.named Bd.method).1
  have X0 : Stand p l e ({ frames := 2, cells := 1, slots := 40, locals := 34 } : Room) s m #[(.ref t), (.int (0 : Int32)), (.int (Int32.ofNat cs.length))] below meth c s₁ [] 0 0 := Stand.of_body Bd
  have e0 : s₁.heap = h0 := by rw [← hh, Bd.state]; rfl
  have N0 := Fr.nil n0
  have K0 : Keep h0 h0 [] := Keep.refl _ _
  show GoOn p e below (s₁.setTop (entryFrame m #[(.ref t), (.int (0 : Int32)), (.int (Int32.ofNat cs.length))] 3)) (PostN s (QCop Z cs h0 n0) ({ frames := 2, cells := 1, slots := 40, locals := 34 } : Room).cells ({ frames := 2, cells := 1, slots := 40, locals := 34 } : Room).slots)
  refine GoOn.step (fun tq kq => castTop (own_ef319 m t (0 : Int32) (Int32.ofNat cs.length)) kq) ?_
  show GoOn p e below (s₁.setTop (mkF m 0 #[.val (.ref t), .val (.int (0 : Int32)), .val (.int (Int32.ofNat cs.length))] [])) _
  have hc5 : cap ≤ 4000 := by omega
  refine GoOn.step (fun tq kq => XS.iloadN X0.here hx rfl (hb hby own_d320) rfl kq) ?_
  refine GoOn.step (fun tq kq => XS.ifNo X0.here hx rfl (hb hby own_d321) rfl ((if0 _ _).trans (teq rfl).2) kq) ?_
  refine GoOn.step (fun tq kq => XS.iloadN X0.here hx rfl (hb hby own_d322) rfl kq) ?_
  refine GoOn.step (fun tq kq => XS.aloadN X0.here hx rfl (hb hby own_d323) rfl rfl kq) ?_
  refine GoOn.step (fun tq kq => alenA X0 hx hZ e0 V0 (g := (mkF m 6 #[.val (.ref t), .val (.int (0 : Int32)), .val (.int (Int32.ofNat cs.length))] [(.ref t), (.int (Int32.ofNat cs.length))])) rfl rfl (hb hby own_d324) _ kq) ?_
  show GoOn p e below (s₁.setTop (mkF m 7 #[.val (.ref t), .val (.int (0 : Int32)), .val (.int (Int32.ofNat cs.length))] [(.int (Int32.ofNat cap)), (.int (Int32.ofNat cs.length))])) _
  by_cases hc494 : cs.length = cap
  · skip
    refine GoOn.step (fun tq kq => XS.icmpYes X0.here hx rfl (pc0 := 7) (pc' := 17) rfl (hb hby own_d325) rfl (teq (congrArg Int32.ofNat hc494)).1 (by decide) (by decide) kq) ?_
    refine GoOn.step (fun tq kq => XS.aloadN X0.here hx rfl (hb hby own_d326) rfl rfl kq) ?_
    show GoOn p e below (s₁.setTop (mkF m 18 #[.val (.ref t), .val (.int (0 : Int32)), .val (.int (Int32.ofNat cs.length))] [(.ref t)])) _
    obtain ⟨cl495, Ar495, k1495, S495, M495, H495, Gf495⟩ := id V0
    obtain ⟨T495, h495, X495, e495, Ex495, A495, Eb495, st495⟩ := cloneA X0 hx hZ hown (hw _ (List.mem_of_getElem? (i := 283) rfl)) (hw _ (List.mem_of_getElem? (i := 284) rfl)) (hw _ (List.mem_of_getElem? (i := 288) rfl)) (hw _ (List.mem_of_getElem? (i := 286) rfl)) (hw _ (List.mem_of_getElem? (i := 287) rfl)) (hw _ (List.mem_of_getElem? (i := 289) rfl)) e0 Ar495 EB (fitC_of Ar495 fun i hi v hv => by rw [H495 i hi] at hv; cases hv; exact Gf495 i hi) (g := (mkF m 18 #[.val (.ref t), .val (.int (0 : Int32)), .val (.int (Int32.ofNat cs.length))] [(.ref t)])) rfl (by rw [hml]; rfl) rfl (hb hby own_d327) (by decide) (W := 0) (by show 2 * 0 + _ ≤ _; exact Nat.le_of_eq rfl) (by decide) (cap := 40) (by rw [S495, own_ns hc5]; exact hc4) (by decide) (by decide)
    obtain ⟨u, g495⟩ : ∃ z, z = h0.size := ⟨_, rfl⟩
    rw [← g495] at A495 Eb495 st495
    have ne496 : t ≠ u := Nat.ne_of_lt (Nat.lt_of_lt_of_le V0.lt (Nat.le_of_eq g495.symm))
    have gn497 : n0 ≤ u := Nat.le_trans Z0 (Nat.le_of_eq g495.symm)
    have sz498 : h0.size ≤ u := Nat.le_trans K0.1 (Nat.le_of_eq g495.symm)
    have Kx495 : Keep h0 h495 [] := (Keep.refl _ _).ext Ex495
    refine GoOn.step st495 ?_
    have V499 : Arv Z h495 t kb .byte (Int32.ofNat cap) (own_sb cap cs) (.int 0) := V0.keep Kx495 nin0
    have Eb500 : Exa Z h495 t "[B" := EB.keep Kx495
    have Z501 : n0 ≤ h495.size := Nat.le_trans Z0 Kx495.1
    have K502 : Keep h0 h495 [] := K0.trans Kx495 (all0)
    have V503 : Arv Z h495 u kb .byte (Int32.ofNat cap) (own_sb cap cs) (.int 0) := ⟨_, A495, k1495, S495, M495, H495, Gf495⟩
    show GoOn p e below (T495.setTop (mkF m 21 #[.val (.ref t), .val (.int (0 : Int32)), .val (.int (Int32.ofNat cs.length))] [(.ref u)])) _
    obtain ⟨T504, X504, e504, st504⟩ := castY X495 hx hZ hown (hw _ (List.mem_of_getElem? (i := 290) rfl)) e495 (Ins.self Eb495) (g := (mkF m 21 #[.val (.ref t), .val (.int (0 : Int32)), .val (.int (Int32.ofNat cs.length))] [(.ref u)])) rfl rfl (hb hby own_d328)
    refine GoOn.step st504 ?_
    show GoOn p e below (T504.setTop (mkF m 24 #[.val (.ref t), .val (.int (0 : Int32)), .val (.int (Int32.ofNat cs.length))] [(.ref u)])) _
    refine GoOn.ret X504 Bd.notSynchronized (v := some (.ref u)) (fun h => by rw [Bd.returns] at h; cases h) (fun fs hr => retOut X504 hx Bd.returns rfl (Or.inr (Or.inr (Or.inr (Or.inr ⟨rfl, rfl, rfl⟩)))) (hb hby own_d329) hr) (by decide) (by decide) ?_
    rw [e504]
    exact ⟨u, kb, rfl, N0, K502, sz498, by have q := V503; rw [own_sbf hc494] at q; rw [hc494]; exact q⟩
  · skip
    have hlt : cs.length < cap := by omega
    refine GoOn.step (fun tq kq => XS.icmpNo X0.here hx rfl (hb hby own_d325) rfl (feq (fun q => own_ne32 hlt hc5 q)).1 kq) ?_
    refine GoOn.step (fun tq kq => XS.aloadN X0.here hx rfl (hb hby own_d330) rfl rfl kq) ?_
    refine GoOn.step (fun tq kq => XS.iloadN X0.here hx rfl (hb hby own_d331) rfl kq) ?_
    refine GoOn.step (fun tq kq => XS.iloadN X0.here hx rfl (hb hby own_d332) rfl kq) ?_
    show GoOn p e below (s₁.setTop (mkF m 13 #[.val (.ref t), .val (.int (0 : Int32)), .val (.int (Int32.ofNat cs.length))] [(.int (Int32.ofNat cs.length)), (.int (0 : Int32)), (.ref t)])) _
    obtain ⟨_, _, ⟨T505, L505, k505, n505⟩, -, X505, ⟨Lc505, hQ505, l505, y505, z505⟩, st505⟩ := Jvm.LawKit.callS X0 hx (y := (⟨"java/util/Arrays", "copyOfRangeByte", "([BII)[B"⟩ : MethodName)) hown (mvT hZ (hw _ (List.mem_of_getElem? (i := 152) rfl))) (mvT hZ (hw _ (List.mem_of_getElem? (i := 153) rfl))) (mvT hZ (hw _ (List.mem_of_getElem? (i := 150) rfl))) (mvT hZ (hw _ (List.mem_of_getElem? (i := 154) rfl))) (by decide) (backOf (W := 0) (rmCRB l Z a0 hw t kb cap cs h0 n0 Z0 V0 hlt hc4) hZ (hw _ (List.mem_of_getElem? (i := 154) rfl)) (hw _ (List.mem_of_getElem? (i := 150) rfl)) (by decide) (by decide)) (g := (mkF m 13 #[.val (.ref t), .val (.int (0 : Int32)), .val (.int (Int32.ofNat cs.length))] [(.int (Int32.ofNat cs.length)), (.int (0 : Int32)), (.ref t)])) rfl (by rw [hml]; rfl) (argsL := [(.ref t), (.int (0 : Int32)), (.int (Int32.ofNat cs.length))]) (rest := []) (lenOf own_pd334 rfl) rfl (by show 2 * 0 + _ ≤ _; exact Nat.le_of_eq rfl) (hb hby own_d333) (fun _ _ => ⟨rfl, e0, (by decide : 0 + 1 ≤ _), (by decide : 0 + 40 ≤ _)⟩)
    dsimp only [Pt.U, Pt.locs, Pt.cells, Pt.slots] at X505 l505 y505 z505 st505 hQ505
    subst l505 y505 z505
    obtain ⟨u505, ku505, rfl, N505, K505, ge505, V505⟩ := hQ505
    refine GoOn.step st505 ?_
    have N506 := Fr.app N0 N505
    have V507 : Arv Z T505.heap t kb .byte (Int32.ofNat cap) (own_sb cap cs) (.int 0) := V0.keep K505 nin0
    have Eb508 : Exa Z T505.heap t "[B" := EB.keep K505
    have Z509 : n0 ≤ T505.heap.size := Nat.le_trans Z0 K505.1
    have K510 : Keep h0 T505.heap [] := K0.trans K505 (all0)
    show GoOn p e below (T505.setTop (mkF m 16 #[.val (.ref t), .val (.int (0 : Int32)), .val (.int (Int32.ofNat cs.length))] [(.ref u505)])) _
    refine GoOn.ret X505 Bd.notSynchronized (v := some (.ref u505)) (fun h => by rw [Bd.returns] at h; cases h) (fun fs hr => retOut X505 hx Bd.returns rfl (Or.inr (Or.inr (Or.inr (Or.inr ⟨rfl, rfl, rfl⟩)))) (hb hby own_d335) hr) (by decide) (by decide) ?_
    exact ⟨u505, ku505, rfl, N506, K510, ge505, V505⟩
def QS150 (Z : State) (a : Addr) (cs : List Int32) (h0 : Heap) (n0 : Nat) (v : Option Value) (h : Heap) (L : List Loc) : Prop := v = none ∧ Fr n0 L ∧ Keep h0 h [a] ∧ StrIs Z h a cs
set_option maxRecDepth 65536 in
set_option maxHeartbeats 40000000 in
theorem rmS150 (l : Launch) (Z : State) (a0 : Array Value) (hw : ∀ d ∈ tables_1, d.before a0 Z = true) (a b t : Addr) (kb : ClassId) (cap : Nat) (cs : List Int32) (G1 : Int32) (h0 : Heap) (n0 : Nat) (Z0 : n0 ≤ h0.size) (SC : Sta Z Z.heap "java/lang/String" "COMPACT_STRINGS" "Z" (.int G1)) (PC : ¬ G1 = (0 : Int32)) (E0 : Exa Z h0 b "java/lang/StringBuilder") (F0c : Fld Z h0 b "java/lang/AbstractStringBuilder" "coder" "B" (.int 0)) (F0n : Fld Z h0 b "java/lang/AbstractStringBuilder" "count" "I" (.int (Int32.ofNat cs.length))) (F0v : Fld Z h0 b "java/lang/AbstractStringBuilder" "value" "[B" (.ref t)) (V0 : Arv Z h0 t kb .byte (Int32.ofNat cap) (own_sb cap cs) (.int 0)) (EB : Exa Z h0 t "[B") (EA : Exa Z h0 a "java/lang/String") (FAv : Fld Z h0 a "java/lang/String" "value" "[B" .null) (FAc : Fld Z h0 a "java/lang/String" "coder" "B" (.int (0 : Int32))) (ga : n0 ≤ a) (nab : a ≠ b) (nat : a ≠ t) (hle : cs.length ≤ cap) (hc4 : cap ≤ 40) (hp : ∀ c ∈ cs, ¬ c < 0 ∧ ¬ (255 : Int32) < c) (O0 : Old Z n0 h0) :
    MetFree l (⟨"java/lang/String", "<init>", "(Ljava/lang/AbstractStringBuilder;Ljava/lang/Void;)V"⟩ : MethodName) (head1 [Jvm.Cond.code (⟨"java/lang/String", "<init>", "(Ljava/lang/AbstractStringBuilder;Ljava/lang/Void;)V"⟩ : MethodName) jdk_42_method_150_code 5 none] ({ frames := 3, cells := 1, slots := 40, locals := 49 } : Room)) (fun aa U => aa = #[(.ref a), (.ref b), .null] ∧ Z.Warmed39 U.vm ∧ U.heap = h0) (fun _ _ _ _ _ => True) (fun _ U o U' => ∃ v L, o = .returned v ∧ QS150 Z a cs h0 n0 v U'.heap L ∧ FrameEnd U o U' L ({ frames := 3, cells := 1, slots := 40, locals := 49 } : Room).cells ({ frames := 3, cells := 1, slots := 40, locals := 49 } : Room).slots) := by
  refine MetFree.of_bodySF (plainFor_of_name own_pn35) hisR ?_
  intro p e s m args below meth c s₁ Bd hml0 hP hK
  obtain ⟨rfl, hZ, hh⟩ := hP
  have hx := Bd.exec
  have hby := Bd.bytes
  have hml : c.maxLocals = 5 := hml0
  have hown : s.vm.findClass "java/lang/String" = some m.cls := findClass_of_methodNamed Bd.named
  have hnm := (name_of_methodNamed Bd.named Bd.method).1
  have X0 : Stand p l e ({ frames := 3, cells := 1, slots := 40, locals := 49 } : Room) s m #[(.ref a), (.ref b), .null] below meth c s₁ [] 0 0 := Stand.of_body Bd
  have e0 : s₁.heap = h0 := by rw [← hh, Bd.state]; rfl
  have N0 := Fr.nil n0
  have K0 : Keep h0 h0 [] := Keep.refl _ _
  show GoOn p e below (s₁.setTop (entryFrame m #[(.ref a), (.ref b), .null] 5)) (PostN s (QS150 Z a cs h0 n0) ({ frames := 3, cells := 1, slots := 40, locals := 49 } : Room).cells ({ frames := 3, cells := 1, slots := 40, locals := 49 } : Room).slots)
  refine GoOn.step (fun tq kq => castTop (own_ef336 m a b) kq) ?_
  show GoOn p e below (s₁.setTop (mkF m 0 #[.val (.ref a), .val (.ref b), .val .null, .unset, .unset] [])) _
  have K0a : Keep h0 h0 [a] := Keep.refl _ _
  refine GoOn.step (fun tq kq => XS.aloadN X0.here hx rfl (hb hby own_d337) rfl rfl kq) ?_
  show GoOn p e below (s₁.setTop (mkF m 1 #[.val (.ref a), .val (.ref b), .val .null, .unset, .unset] [(.ref a)])) _
  obtain ⟨T511, X511, e511, st511⟩ := initO X0 hx hZ hown (hw _ (List.mem_of_getElem? (i := 15) rfl)) (hw _ (List.mem_of_getElem? (i := 16) rfl)) (hw _ (List.mem_of_getElem? (i := 17) rfl)) e0 (g := (mkF m 1 #[.val (.ref a), .val (.ref b), .val .null, .unset, .unset] [(.ref a)])) rfl (by rw [hml]; rfl) rfl (hb hby own_d338) (by decide) (W := 0) (by show 2 * 0 + _ ≤ _; exact Nat.le_of_eq rfl) (by decide)
  refine GoOn.step st511 ?_
  refine GoOn.step (fun tq kq => XS.aloadN X511.here hx rfl (hb hby own_d339) rfl rfl kq) ?_
  show GoOn p e below (T511.setTop (mkF m 5 #[.val (.ref a), .val (.ref b), .val .null, .unset, .unset] [(.ref b)])) _
  obtain ⟨cqc513, kqc513, qac513, qbc513, qcc513⟩ := isOf hZ e511 E0
  obtain ⟨_, _, ⟨T512, L512, k512, n512⟩, -, X512, ⟨Lc512, hQ512, l512, y512, z512⟩, st512⟩ := X511.virtualBack hx (y := (⟨"java/lang/AbstractStringBuilder", "getValue", "()[B"⟩ : MethodName)) (z := (⟨"java/lang/AbstractStringBuilder", "getValue", "()[B"⟩ : MethodName)) hown (mvT hZ (hw _ (List.mem_of_getElem? (i := 134) rfl))) (mvT hZ (hw _ (List.mem_of_getElem? (i := 135) rfl))) (notFace_of_selects (args := #[]) (mvT hZ (hw _ (List.mem_of_getElem? (i := 137) rfl)))) (mvT hZ (hw _ (List.mem_of_getElem? (i := 137) rfl))) (mvT hZ (hw _ (List.mem_of_getElem? (i := 136) rfl))) (by decide) (backOf (W := 0) (rmGetV l Z a0 hw b t h0 n0 Z0 F0v) hZ (hw _ (List.mem_of_getElem? (i := 138) rfl)) (hw _ (List.mem_of_getElem? (i := 42) rfl)) (by decide) (by decide)) qac513 qcc513 (g := (mkF m 5 #[.val (.ref a), .val (.ref b), .val .null, .unset, .unset] [(.ref b)])) rfl (by rw [hml]; rfl) (Steps.refl _) (argsL := []) (rest := []) (lenOf own_pd341 rfl) rfl (by show 2 * 0 + _ ≤ _; exact Nat.le_of_eq rfl) (hb hby own_d340) (fun _ _ => ⟨rfl, e511, (by decide : 0 + 0 ≤ _), (by decide : 0 + 0 ≤ _)⟩)
  dsimp only [Pt.U, Pt.locs, Pt.cells, Pt.slots] at X512 l512 y512 z512 st512 hQ512
  subst l512 y512 z512
  obtain ⟨rfl, N512, e512⟩ := hQ512
  refine GoOn.trans st512 ?_
  have N514 := Fr.app N0 N512
  refine GoOn.step (fun tq kq => XS.astoreN X512.here hx rfl (hb hby own_d342) rfl rfl (l' := #[.val (.ref a), .val (.ref b), .val .null, .val (.ref t), .unset]) rfl kq) ?_
  refine GoOn.step (fun tq kq => XS.aloadN X512.here hx rfl (hb hby own_d343) rfl rfl kq) ?_
  show GoOn p e below (T512.setTop (mkF m 10 #[.val (.ref a), .val (.ref b), .val .null, .val (.ref t), .unset] [(.ref b)])) _
  obtain ⟨cqc516, kqc516, qac516, qbc516, qcc516⟩ := isOf hZ e512 E0
  obtain ⟨_, _, ⟨T515, L515, k515, n515⟩, -, X515, ⟨Lc515, hQ515, l515, y515, z515⟩, st515⟩ := X512.virtualBack hx (y := (⟨"java/lang/AbstractStringBuilder", "length", "()I"⟩ : MethodName)) (z := (⟨"java/lang/StringBuilder", "length", "()I"⟩ : MethodName)) hown (mvT hZ (hw _ (List.mem_of_getElem? (i := 139) rfl))) (mvT hZ (hw _ (List.mem_of_getElem? (i := 140) rfl))) (own_nf (args := #[]) (mvT hZ (hw _ (List.mem_of_getElem? (i := 137) rfl))) rfl) (mvT hZ (hw _ (List.mem_of_getElem? (i := 142) rfl))) (mvT hZ (hw _ (List.mem_of_getElem? (i := 143) rfl))) (by decide) (backOf (W := 0) (rmSLen l Z a0 hw b (Int32.ofNat cs.length) h0 n0 Z0 E0 F0n) hZ (hw _ (List.mem_of_getElem? (i := 144) rfl)) (hw _ (List.mem_of_getElem? (i := 34) rfl)) (by decide) (by decide)) qac516 qcc516 (g := (mkF m 10 #[.val (.ref a), .val (.ref b), .val .null, .val (.ref t), .unset] [(.ref b)])) rfl (by rw [hml]; rfl) (Steps.refl _) (argsL := []) (rest := []) (lenOf own_pd209 rfl) rfl (by show 2 * 0 + _ ≤ _; exact Nat.le_of_eq rfl) (hb hby own_d344) (fun _ _ => ⟨rfl, e512, (by decide : 0 + 0 ≤ _), (by decide : 0 + 0 ≤ _)⟩)
  dsimp only [Pt.U, Pt.locs, Pt.cells, Pt.slots] at X515 l515 y515 z515 st515 hQ515
  subst l515 y515 z515
  obtain ⟨rfl, N515, e515⟩ := hQ515
  refine GoOn.trans st515 ?_
  have N517 := Fr.app N514 N515
  refine GoOn.step (fun tq kq => XS.istore X515.here hx rfl (hb hby own_d345) rfl (l' := #[.val (.ref a), .val (.ref b), .val .null, .val (.ref t), .val (.int (Int32.ofNat cs.length))]) rfl kq) ?_
  refine GoOn.step (fun tq kq => XS.aloadN X515.here hx rfl (hb hby own_d346) rfl rfl kq) ?_
  show GoOn p e below (T515.setTop (mkF m 16 #[.val (.ref a), .val (.ref b), .val .null, .val (.ref t), .val (.int (Int32.ofNat cs.length))] [(.ref b)])) _
  obtain ⟨cqc519, kqc519, qac519, qbc519, qcc519⟩ := isOf hZ e515 E0
  obtain ⟨_, _, ⟨T518, L518, k518, n518⟩, -, X518, ⟨Lc518, hQ518, l518, y518, z518⟩, st518⟩ := X515.virtualBack hx (y := (⟨"java/lang/AbstractStringBuilder", "isLatin1", "()Z"⟩ : MethodName)) (z := (⟨"java/lang/AbstractStringBuilder", "isLatin1", "()Z"⟩ : MethodName)) hown (mvT hZ (hw _ (List.mem_of_getElem? (i := 147) rfl))) (mvT hZ (hw _ (List.mem_of_getElem? (i := 113) rfl))) (notFace_of_selects (args := #[]) (mvT hZ (hw _ (List.mem_of_getElem? (i := 115) rfl)))) (mvT hZ (hw _ (List.mem_of_getElem? (i := 115) rfl))) (mvT hZ (hw _ (List.mem_of_getElem? (i := 114) rfl))) (by decide) (backOf (W := 0) (rmIsL l Z a0 hw b G1 h0 n0 Z0 SC PC F0c O0) hZ (hw _ (List.mem_of_getElem? (i := 116) rfl)) (hw _ (List.mem_of_getElem? (i := 42) rfl)) (by decide) (by decide)) qac519 qcc519 (g := (mkF m 16 #[.val (.ref a), .val (.ref b), .val .null, .val (.ref t), .val (.int (Int32.ofNat cs.length))] [(.ref b)])) rfl (by rw [hml]; rfl) (Steps.refl _) (argsL := []) (rest := []) (lenOf own_pd348 rfl) rfl (by show 2 * 0 + _ ≤ _; exact Nat.le_of_eq rfl) (hb hby own_d347) (fun _ _ => ⟨rfl, e515, (by decide : 0 + 0 ≤ _), (by decide : 0 + 0 ≤ _)⟩)
  dsimp only [Pt.U, Pt.locs, Pt.cells, Pt.slots] at X518 l518 y518 z518 st518 hQ518
  subst l518 y518 z518
  obtain ⟨rfl, N518, e518⟩ := hQ518
  refine GoOn.trans st518 ?_
  have N520 := Fr.app N517 N518
  refine GoOn.step (fun tq kq => XS.ifNo X518.here hx rfl (hb hby own_d349) rfl ((if0 _ _).trans (feq (by decide)).1) kq) ?_
  refine GoOn.step (fun tq kq => XS.aloadN X518.here hx rfl (hb hby own_d350) rfl rfl kq) ?_
  refine GoOn.step (fun tq kq => XS.iconst X518.here hx rfl (hb hby own_d351) kq) ?_
  show GoOn p e below (T518.setTop (mkF m 24 #[.val (.ref a), .val (.ref b), .val .null, .val (.ref t), .val (.int (Int32.ofNat cs.length))] [(.int (0 : Int32)), (.ref a)])) _
  obtain ⟨T521, h521, X521, e521, W521, st521⟩ := putFN X518 hx hZ hown (hw _ (List.mem_of_getElem? (i := 25) rfl)) Via.refl e518 FAc EA (Or.inr ⟨(hw _ (List.mem_of_getElem? (i := 21) rfl)), rfl, hnm⟩) (hw _ (List.mem_of_getElem? (i := 5) rfl)) (ty := .byte) (v' := (.int (nar .byte (0 : Int32)))) (by decide) rfl (fits_nar_byte _) (g := (mkF m 24 #[.val (.ref a), .val (.ref b), .val .null, .val (.ref t), .val (.int (Int32.ofNat cs.length))] [(.int (0 : Int32)), (.ref a)])) rfl rfl (hb hby own_d352)
  have N522 := Fr.snoc X521 N520 ga
  have Kx521 : Keep h0 h521 [a] := Keep.of_wr W521
  have F523 : Fld Z h521 a "java/lang/String" "coder" "B" (.int (nar .byte (0 : Int32))) := FAc.same W521
  have F524 : Fld Z h521 a "java/lang/String" "value" "[B" .null := FAv.other W521 (Or.inr (slot_ne (a0 := a0) (Or.inr (hw _ (List.mem_of_getElem? (i := 20) rfl))) (Or.inr (hw _ (List.mem_of_getElem? (i := 21) rfl))) (by decide) (t := (.array .byte)) (t' := .byte) (by decide) (by decide)))
  refine GoOn.step st521 ?_
  have E525 : Exa Z h521 b "java/lang/StringBuilder" := E0.keep Kx521
  have F526 : Fld Z h521 b "java/lang/AbstractStringBuilder" "coder" "B" (.int 0) := F0c.keep Kx521 (ninS (Ne.symm nab) nin0)
  have F527 : Fld Z h521 b "java/lang/AbstractStringBuilder" "count" "I" (.int (Int32.ofNat cs.length)) := F0n.keep Kx521 (ninS (Ne.symm nab) nin0)
  have F528 : Fld Z h521 b "java/lang/AbstractStringBuilder" "value" "[B" (.ref t) := F0v.keep Kx521 (ninS (Ne.symm nab) nin0)
  have V529 : Arv Z h521 t kb .byte (Int32.ofNat cap) (own_sb cap cs) (.int 0) := V0.keep Kx521 (ninS (Ne.symm nat) nin0)
  have Eb530 : Exa Z h521 t "[B" := EB.keep Kx521
  have E531 : Exa Z h521 a "java/lang/String" := EA.keep Kx521
  have O534 : Old Z n0 h521 := O0.keep Kx521 (allS ga all0)
  have Z535 : n0 ≤ h521.size := Nat.le_trans Z0 Kx521.1
  have K536 : Keep h0 h521 [a] := K0a.trans Kx521 ((allS (Or.inl (by simp)) all0))
  refine GoOn.step (fun tq kq => XS.aloadN X521.here hx rfl (hb hby own_d353) rfl rfl kq) ?_
  refine GoOn.step (fun tq kq => XS.aloadN X521.here hx rfl (hb hby own_d354) rfl rfl kq) ?_
  refine GoOn.step (fun tq kq => XS.iconst X521.here hx rfl (hb hby own_d355) kq) ?_
  refine GoOn.step (fun tq kq => XS.iload X521.here hx rfl (hb hby own_d356) rfl kq) ?_
  show GoOn p e below (T521.setTop (mkF m 32 #[.val (.ref a), .val (.ref b), .val .null, .val (.ref t), .val (.int (Int32.ofNat cs.length))] [(.int (Int32.ofNat cs.length)), (.int (0 : Int32)), (.ref t), (.ref a)])) _
  obtain ⟨_, _, ⟨T537, L537, k537, n537⟩, -, X537, ⟨Lc537, hQ537, l537, y537, z537⟩, st537⟩ := Jvm.LawKit.callS X521 hx (y := (⟨"java/util/Arrays", "copyOfRange", "([BII)[B"⟩ : MethodName)) hown (mvT hZ (hw _ (List.mem_of_getElem? (i := 148) rfl))) (mvT hZ (hw _ (List.mem_of_getElem? (i := 149) rfl))) (mvT hZ (hw _ (List.mem_of_getElem? (i := 150) rfl))) (mvT hZ (hw _ (List.mem_of_getElem? (i := 151) rfl))) (by decide) (backOf (W := 1) (rmCR l Z a0 hw t kb cap cs h521 n0 Z535 V529 Eb530 hle hc4) hZ (hw _ (List.mem_of_getElem? (i := 151) rfl)) (hw _ (List.mem_of_getElem? (i := 150) rfl)) (by decide) (by decide)) (g := (mkF m 32 #[.val (.ref a), .val (.ref b), .val .null, .val (.ref t), .val (.int (Int32.ofNat cs.length))] [(.int (Int32.ofNat cs.length)), (.int (0 : Int32)), (.ref t), (.ref a)])) rfl (by rw [hml]; rfl) (argsL := [(.ref t), (.int (0 : Int32)), (.int (Int32.ofNat cs.length))]) (rest := [(.ref a)]) (lenOf own_pd334 rfl) rfl (by show 2 * 0 + _ ≤ _; exact Nat.le_of_eq rfl) (hb hby own_d357) (fun _ _ => ⟨rfl, e521, (by decide : 0 + 1 ≤ _), (by decide : 0 + 40 ≤ _)⟩)
  dsimp only [Pt.U, Pt.locs, Pt.cells, Pt.slots] at X537 l537 y537 z537 st537 hQ537
  subst l537 y537 z537
  obtain ⟨u537, ku537, rfl, N537, K537, ge537, V537⟩ := hQ537
  refine GoOn.step st537 ?_
  have N538 := Fr.app N522 N537
  have ne539 : b ≠ u537 := Nat.ne_of_lt (Nat.lt_of_lt_of_le E525.lt ge537)
  have ne540 : t ≠ u537 := Nat.ne_of_lt (Nat.lt_of_lt_of_le V529.lt ge537)
  have ne541 : a ≠ u537 := Nat.ne_of_lt (Nat.lt_of_lt_of_le E531.lt ge537)
  have gn542 : n0 ≤ u537 := Nat.le_trans Z535 ge537
  have sz543 : h0.size ≤ u537 := Nat.le_trans K536.1 ge537
  have E544 : Exa Z T537.heap b "java/lang/StringBuilder" := E525.keep K537
  have F545 : Fld Z T537.heap b "java/lang/AbstractStringBuilder" "coder" "B" (.int 0) := F526.keep K537 nin0
  have F546 : Fld Z T537.heap b "java/lang/AbstractStringBuilder" "count" "I" (.int (Int32.ofNat cs.length)) := F527.keep K537 nin0
  have F547 : Fld Z T537.heap b "java/lang/AbstractStringBuilder" "value" "[B" (.ref t) := F528.keep K537 nin0
  have V548 : Arv Z T537.heap t kb .byte (Int32.ofNat cap) (own_sb cap cs) (.int 0) := V529.keep K537 nin0
  have Eb549 : Exa Z T537.heap t "[B" := Eb530.keep K537
  have E550 : Exa Z T537.heap a "java/lang/String" := E531.keep K537
  have O551 : Old Z n0 T537.heap := O534.keep K537 all0
  have Z552 : n0 ≤ T537.heap.size := Nat.le_trans Z535 K537.1
  have K553 : Keep h0 T537.heap [a] := K536.trans K537 (all0)
  have F554 : Fld Z T537.heap a "java/lang/String" "coder" "B" (.int (nar .byte (0 : Int32))) := F523.keep K537 nin0
  have F555 : Fld Z T537.heap a "java/lang/String" "value" "[B" .null := F524.keep K537 nin0
  show GoOn p e below (T537.setTop (mkF m 35 #[.val (.ref a), .val (.ref b), .val .null, .val (.ref t), .val (.int (Int32.ofNat cs.length))] [(.ref u537), (.ref a)])) _
  obtain ⟨T556, h556, X556, e556, W556, st556⟩ := putF X537 hx hZ hown (host := "") (Or.inl (hw _ (List.mem_of_getElem? (i := 24) rfl))) Via.refl rfl F555 E550 (Or.inr ⟨(hw _ (List.mem_of_getElem? (i := 20) rfl)), rfl, hnm⟩) (hw _ (List.mem_of_getElem? (i := 5) rfl)) (ty := (.array .byte)) (by decide) rfl rfl (g := (mkF m 35 #[.val (.ref a), .val (.ref b), .val .null, .val (.ref t), .val (.int (Int32.ofNat cs.length))] [(.ref u537), (.ref a)])) rfl rfl (hb hby own_d358)
  have N557 := Fr.snoc X556 N538 ga
  have Kx556 : Keep T537.heap h556 [a] := Keep.of_wr W556
  have F558 : Fld Z h556 a "java/lang/String" "value" "[B" (.ref u537) := F555.same W556
  have F559 : Fld Z h556 a "java/lang/String" "coder" "B" (.int (nar .byte (0 : Int32))) := F554.other W556 (Or.inr (slot_ne (a0 := a0) (Or.inr (hw _ (List.mem_of_getElem? (i := 21) rfl))) (Or.inr (hw _ (List.mem_of_getElem? (i := 20) rfl))) (by decide) (t := .byte) (t' := (.array .byte)) (by decide) (by decide)))
  refine GoOn.step st556 ?_
  have E560 : Exa Z h556 b "java/lang/StringBuilder" := E544.keep Kx556
  have F561 : Fld Z h556 b "java/lang/AbstractStringBuilder" "coder" "B" (.int 0) := F545.keep Kx556 (ninS (Ne.symm nab) nin0)
  have F562 : Fld Z h556 b "java/lang/AbstractStringBuilder" "count" "I" (.int (Int32.ofNat cs.length)) := F546.keep Kx556 (ninS (Ne.symm nab) nin0)
  have F563 : Fld Z h556 b "java/lang/AbstractStringBuilder" "value" "[B" (.ref t) := F547.keep Kx556 (ninS (Ne.symm nab) nin0)
  have V564 : Arv Z h556 t kb .byte (Int32.ofNat cap) (own_sb cap cs) (.int 0) := V548.keep Kx556 (ninS (Ne.symm nat) nin0)
  have Eb565 : Exa Z h556 t "[B" := Eb549.keep Kx556
  have E566 : Exa Z h556 a "java/lang/String" := E550.keep Kx556
  have O567 : Old Z n0 h556 := O551.keep Kx556 (allS ga all0)
  have Z568 : n0 ≤ h556.size := Nat.le_trans Z552 Kx556.1
  have K569 : Keep h0 h556 [a] := K553.trans Kx556 ((allS (Or.inl (by simp)) all0))
  have V572 : Arv Z h556 u537 ku537 .byte (Int32.ofNat cs.length) (own_bs cs) (.int 0) := V537.keep Kx556 (ninS (Ne.symm ne541) nin0)
  refine GoOn.step (fun tq kq => XS.goto X556.here hx rfl (pc0 := 38) (pc' := 97) rfl (hb hby own_d359) (by decide) (by decide) kq) ?_
  show GoOn p e below (T556.setTop (mkF m 97 #[.val (.ref a), .val (.ref b), .val .null, .val (.ref t), .val (.int (Int32.ofNat cs.length))] [])) _
  refine GoOn.ret X556 Bd.notSynchronized (v := none) (fun _ => rfl) (fun fs hr => X556.returnOut hx Bd.returns (hb hby own_d360) hr) (by decide) (by decide) ?_
  rw [e556]
  exact ⟨rfl, N557, K569, E566, F559, hp, by omega, u537, ku537, F558, V572⟩
set_option maxRecDepth 65536 in
set_option maxHeartbeats 40000000 in
theorem rmS53 (l : Launch) (Z : State) (a0 : Array Value) (hw : ∀ d ∈ tables_1, d.before a0 Z = true) (a b t : Addr) (kb : ClassId) (cap : Nat) (cs : List Int32) (G1 : Int32) (h0 : Heap) (n0 : Nat) (Z0 : n0 ≤ h0.size) (SC : Sta Z Z.heap "java/lang/String" "COMPACT_STRINGS" "Z" (.int G1)) (PC : ¬ G1 = (0 : Int32)) (E0 : Exa Z h0 b "java/lang/StringBuilder") (F0c : Fld Z h0 b "java/lang/AbstractStringBuilder" "coder" "B" (.int 0)) (F0n : Fld Z h0 b "java/lang/AbstractStringBuilder" "count" "I" (.int (Int32.ofNat cs.length))) (F0v : Fld Z h0 b "java/lang/AbstractStringBuilder" "value" "[B" (.ref t)) (V0 : Arv Z h0 t kb .byte (Int32.ofNat cap) (own_sb cap cs) (.int 0)) (EB : Exa Z h0 t "[B") (EA : Exa Z h0 a "java/lang/String") (FAv : Fld Z h0 a "java/lang/String" "value" "[B" .null) (FAc : Fld Z h0 a "java/lang/String" "coder" "B" (.int (0 : Int32))) (ga : n0 ≤ a) (nab : a ≠ b) (nat : a ≠ t) (hle : cs.length ≤ cap) (hc4 : cap ≤ 40) (hp : ∀ c ∈ cs, ¬ c < 0 ∧ ¬ (255 : Int32) < c) (O0 : Old Z n0 h0) :
    MetFree l (⟨"java/lang/String", "<init>", "(Ljava/lang/StringBuilder;)V"⟩ : MethodName) (head1 [Jvm.Cond.code (⟨"java/lang/String", "<init>", "(Ljava/lang/StringBuilder;)V"⟩ : MethodName) jdk_42_method_53_code 2 none] ({ frames := 4, cells := 1, slots := 40, locals := 65 } : Room)) (fun aa U => aa = #[(.ref a), (.ref b)] ∧ Z.Warmed39 U.vm ∧ U.heap = h0) (fun _ _ _ _ _ => True) (fun _ U o U' => ∃ v L, o = .returned v ∧ QS150 Z a cs h0 n0 v U'.heap L ∧ FrameEnd U o U' L ({ frames := 4, cells := 1, slots := 40, locals := 65 } : Room).cells ({ frames := 4, cells := 1, slots := 40, locals := 65 } : Room).slots) := by
  refine MetFree.of_bodySF (plainFor_of_name own_pn35) hisR ?_
  intro p e s m args below meth c s₁ Bd hml0 hP hK
  obtain ⟨rfl, hZ, hh⟩ := hP
  have hx := Bd.exec
  have hby := Bd.bytes
  have hml : c.maxLocals = 2 := hml0
  have hown : s.vm.findClass "java/lang/String" = some m.cls := findClass_of_methodNamed Bd.named
  have hnm := (name_of_methodNamed Bd.named Bd.method).1
  have X0 : Stand p l e ({ frames := 4, cells := 1, slots := 40, locals := 65 } : Room) s m #[(.ref a), (.ref b)] below meth c s₁ [] 0 0 := Stand.of_body Bd
  have e0 : s₁.heap = h0 := by rw [← hh, Bd.state]; rfl
  have N0 := Fr.nil n0
  have K0 : Keep h0 h0 [] := Keep.refl _ _
  show GoOn p e below (s₁.setTop (entryFrame m #[(.ref a), (.ref b)] 2)) (PostN s (QS150 Z a cs h0 n0) ({ frames := 4, cells := 1, slots := 40, locals := 65 } : Room).cells ({ frames := 4, cells := 1, slots := 40, locals := 65 } : Room).slots)
  refine GoOn.step (fun tq kq => castTop (own_ef361 m a b) kq) ?_
  show GoOn p e below (s₁.setTop (mkF m 0 #[.val (.ref a), .val (.ref b)] [])) _
  have K0a : Keep h0 h0 [a] := Keep.refl _ _
  refine GoOn.step (fun tq kq => XS.aloadN X0.here hx rfl (hb hby own_d362) rfl rfl kq) ?_
  refine GoOn.step (fun tq kq => XS.aloadN X0.here hx rfl (hb hby own_d363) rfl rfl kq) ?_
  refine GoOn.step (fun tq kq => XS.aconstNull X0.here hx rfl (hb hby own_d364) kq) ?_
  show GoOn p e below (s₁.setTop (mkF m 3 #[.val (.ref a), .val (.ref b)] [.null, (.ref b), (.ref a)])) _
  obtain ⟨_, _, ⟨T573, L573, k573, n573⟩, -, X573, ⟨Lc573, hQ573, l573, y573, z573⟩, st573⟩ := X0.specialBack hx (y := (⟨"java/lang/String", "<init>", "(Ljava/lang/AbstractStringBuilder;Ljava/lang/Void;)V"⟩ : MethodName)) rfl hown (mvT hZ (hw _ (List.mem_of_getElem? (i := 131) rfl))) (mvT hZ (hw _ (List.mem_of_getElem? (i := 132) rfl))) (mvT hZ (hw _ (List.mem_of_getElem? (i := 133) rfl))) (by decide) (backOf (W := 0) (rmS150 l Z a0 hw a b t kb cap cs G1 h0 n0 Z0 SC PC E0 F0c F0n F0v V0 EB EA FAv FAc ga nab nat hle hc4 hp O0) hZ (hw _ (List.mem_of_getElem? (i := 133) rfl)) (hw _ (List.mem_of_getElem? (i := 6) rfl)) (by decide) (by decide)) (g := (mkF m 3 #[.val (.ref a), .val (.ref b)] [.null, (.ref b), (.ref a)])) rfl (by rw [hml]; rfl) (Steps.refl _) (a := a) (argsL := [(.ref b), .null]) (rest := []) (lenOf own_pd366 rfl) rfl (by show 2 * 0 + _ ≤ _; exact Nat.le_of_eq rfl) (hb hby own_d365) (fun _ _ => ⟨rfl, e0, (by decide : 0 + 1 ≤ _), (by decide : 0 + 40 ≤ _)⟩)
  dsimp only [Pt.U, Pt.locs, Pt.cells, Pt.slots] at X573 l573 y573 z573 st573 hQ573
  subst l573 y573 z573
  obtain ⟨rfl, N573, K573, S573⟩ := hQ573
  refine GoOn.trans st573 ?_
  have N574 := Fr.app N0 N573
  have E575 : Exa Z T573.heap b "java/lang/StringBuilder" := E0.keep K573
  have F576 : Fld Z T573.heap b "java/lang/AbstractStringBuilder" "coder" "B" (.int 0) := F0c.keep K573 (ninS (Ne.symm nab) nin0)
  have F577 : Fld Z T573.heap b "java/lang/AbstractStringBuilder" "count" "I" (.int (Int32.ofNat cs.length)) := F0n.keep K573 (ninS (Ne.symm nab) nin0)
  have F578 : Fld Z T573.heap b "java/lang/AbstractStringBuilder" "value" "[B" (.ref t) := F0v.keep K573 (ninS (Ne.symm nab) nin0)
  have V579 : Arv Z T573.heap t kb .byte (Int32.ofNat cap) (own_sb cap cs) (.int 0) := V0.keep K573 (ninS (Ne.symm nat) nin0)
  have Eb580 : Exa Z T573.heap t "[B" := EB.keep K573
  have E581 : Exa Z T573.heap a "java/lang/String" := EA.keep K573
  have O584 : Old Z n0 T573.heap := O0.keep K573 (allS ga all0)
  have Z585 : n0 ≤ T573.heap.size := Nat.le_trans Z0 K573.1
  have K586 : Keep h0 T573.heap [a] := K0a.trans K573 ((allS (Or.inl (by simp)) all0))
  show GoOn p e below (T573.setTop (mkF m 6 #[.val (.ref a), .val (.ref b)] [])) _
  refine GoOn.ret X573 Bd.notSynchronized (v := none) (fun _ => rfl) (fun fs hr => X573.returnOut hx Bd.returns (hb hby own_d367) hr) (by decide) (by decide) ?_
  exact ⟨rfl, N574, K586, S573⟩
def QToS (Z : State) (cs : List Int32) (h0 : Heap) (n0 : Nat) (v : Option Value) (h : Heap) (L : List Loc) : Prop := ∃ a : Addr, v = some (.ref a) ∧ Fr n0 L ∧ Keep h0 h [] ∧ h0.size ≤ a ∧ StrIs Z h a cs
set_option maxRecDepth 65536 in
set_option maxHeartbeats 40000000 in
theorem rmToS (l : Launch) (Z : State) (a0 : Array Value) (hw : ∀ d ∈ tables_1, d.before a0 Z = true) (b t : Addr) (kb : ClassId) (cap : Nat) (cs : List Int32) (G1 : Int32) (h0 : Heap) (n0 : Nat) (Z0 : n0 ≤ h0.size) (SC : Sta Z Z.heap "java/lang/String" "COMPACT_STRINGS" "Z" (.int G1)) (PC : ¬ G1 = (0 : Int32)) (E0 : Exa Z h0 b "java/lang/StringBuilder") (F0c : Fld Z h0 b "java/lang/AbstractStringBuilder" "coder" "B" (.int 0)) (F0n : Fld Z h0 b "java/lang/AbstractStringBuilder" "count" "I" (.int (Int32.ofNat cs.length))) (F0v : Fld Z h0 b "java/lang/AbstractStringBuilder" "value" "[B" (.ref t)) (V0 : Arv Z h0 t kb .byte (Int32.ofNat cap) (own_sb cap cs) (.int 0)) (EB : Exa Z h0 t "[B") (hle : cs.length ≤ cap) (hc4 : cap ≤ 40) (hp : ∀ c ∈ cs, ¬ c < 0 ∧ ¬ (255 : Int32) < c) (O0 : Old Z n0 h0) :
    MetFree l (⟨"java/lang/StringBuilder", "toString", "()Ljava/lang/String;"⟩ : MethodName) (head1 [Jvm.Cond.code (⟨"java/lang/StringBuilder", "toString", "()Ljava/lang/String;"⟩ : MethodName) jdk_67_method_42_code 1 (some (.object "java/lang/String"))] ({ frames := 5, cells := 2, slots := 44, locals := 79 } : Room)) (fun aa U => aa = #[(.ref b)] ∧ Z.Warmed39 U.vm ∧ U.heap = h0) (fun _ _ _ _ _ => True) (fun _ U o U' => ∃ v L, o = .returned v ∧ QToS Z cs h0 n0 v U'.heap L ∧ FrameEnd U o U' L ({ frames := 5, cells := 2, slots := 44, locals := 79 } : Room).cells ({ frames := 5, cells := 2, slots := 44, locals := 79 } : Room).slots) := by
  refine MetFree.of_bodySF (plainFor_of_name own_pn233) hisR ?_
  intro p e s m args below meth c s₁ Bd hml0 hP hK
  obtain ⟨rfl, hZ, hh⟩ := hP
  have hx := Bd.exec
  have hby := Bd.bytes
  have hml : c.maxLocals = 1 := hml0
  have hown : s.vm.findClass "java/lang/StringBuilder" = some m.cls := findClass_of_methodNamed Bd.named
  have hnm := (name_of_methodNamed Bd.named Bd.method).1
  have X0 : Stand p l e ({ frames := 5, cells := 2, slots := 44, locals := 79 } : Room) s m #[(.ref b)] below meth c s₁ [] 0 0 := Stand.of_body Bd
  have e0 : s₁.heap = h0 := by rw [← hh, Bd.state]; rfl
  have N0 := Fr.nil n0
  have K0 : Keep h0 h0 [] := Keep.refl _ _
  show GoOn p e below (s₁.setTop (entryFrame m #[(.ref b)] 1)) (PostN s (QToS Z cs h0 n0) ({ frames := 5, cells := 2, slots := 44, locals := 79 } : Room).cells ({ frames := 5, cells := 2, slots := 44, locals := 79 } : Room).slots)
  refine GoOn.step (fun tq kq => castTop (own_ef368 m b) kq) ?_
  show GoOn p e below (s₁.setTop (mkF m 0 #[.val (.ref b)] [])) _
  obtain ⟨T587, h587, X587, e587, Ex587, A587, Df587, Nu587, st587⟩ := newO X0 hx hZ hown (hw _ (List.mem_of_getElem? (i := 127) rfl)) (hw _ (List.mem_of_getElem? (i := 5) rfl)) (hw _ (List.mem_of_getElem? (i := 6) rfl)) e0 (g := (mkF m 0 #[.val (.ref b)] [])) rfl (hb hby own_d369) (by decide) (by decide)
  obtain ⟨sa, g587⟩ : ∃ z, z = h0.size := ⟨_, rfl⟩
  rw [← g587] at A587 Df587 Nu587 st587
  have ne588 : b ≠ sa := Nat.ne_of_lt (Nat.lt_of_lt_of_le E0.lt (Nat.le_of_eq g587.symm))
  have ne589 : t ≠ sa := Nat.ne_of_lt (Nat.lt_of_lt_of_le V0.lt (Nat.le_of_eq g587.symm))
  have gn590 : n0 ≤ sa := Nat.le_trans Z0 (Nat.le_of_eq g587.symm)
  have sz591 : h0.size ≤ sa := Nat.le_trans K0.1 (Nat.le_of_eq g587.symm)
  have Kx587 : Keep h0 h587 [] := (Keep.refl _ _).ext Ex587
  refine GoOn.step st587 ?_
  have E592 : Exa Z h587 b "java/lang/StringBuilder" := E0.keep Kx587
  have F593 : Fld Z h587 b "java/lang/AbstractStringBuilder" "coder" "B" (.int 0) := F0c.keep Kx587 nin0
  have F594 : Fld Z h587 b "java/lang/AbstractStringBuilder" "count" "I" (.int (Int32.ofNat cs.length)) := F0n.keep Kx587 nin0
  have F595 : Fld Z h587 b "java/lang/AbstractStringBuilder" "value" "[B" (.ref t) := F0v.keep Kx587 nin0
  have V596 : Arv Z h587 t kb .byte (Int32.ofNat cap) (own_sb cap cs) (.int 0) := V0.keep Kx587 nin0
  have Eb597 : Exa Z h587 t "[B" := EB.keep Kx587
  have O598 : Old Z n0 h587 := O0.keep Kx587 all0
  have Z599 : n0 ≤ h587.size := Nat.le_trans Z0 Kx587.1
  have K600 : Keep h0 h587 [] := K0.trans Kx587 (all0)
  have F601 : Fld Z h587 sa "java/lang/String" "value" "[B" .null := Df587 (Or.inr (hw _ (List.mem_of_getElem? (i := 20) rfl))) (ty := (.array .byte)) (by decide)
  have F602 : Fld Z h587 sa "java/lang/String" "coder" "B" (.int (0 : Int32)) := Df587 (Or.inr (hw _ (List.mem_of_getElem? (i := 21) rfl))) (ty := .byte) (by decide)
  refine GoOn.step (fun tq kq => XS.dup X587.here hx rfl (hb hby own_d370) rfl rfl kq) ?_
  refine GoOn.step (fun tq kq => XS.aloadN X587.here hx rfl (hb hby own_d371) rfl rfl kq) ?_
  show GoOn p e below (T587.setTop (mkF m 5 #[.val (.ref b)] [(.ref b), (.ref sa), (.ref sa)])) _
  obtain ⟨_, _, ⟨T603, L603, k603, n603⟩, -, X603, ⟨Lc603, hQ603, l603, y603, z603⟩, st603⟩ := X587.specialBack hx (y := (⟨"java/lang/String", "<init>", "(Ljava/lang/StringBuilder;)V"⟩ : MethodName)) rfl hown (mvT hZ (hw _ (List.mem_of_getElem? (i := 128) rfl))) (mvT hZ (hw _ (List.mem_of_getElem? (i := 129) rfl))) (mvT hZ (hw _ (List.mem_of_getElem? (i := 130) rfl))) (by decide) (backOf (W := 1) (rmS53 l Z a0 hw sa b t kb cap cs G1 h587 n0 Z599 SC PC E592 F593 F594 F595 V596 Eb597 A587 F601 F602 gn590 (Ne.symm ne588) (Ne.symm ne589) hle hc4 hp O598) hZ (hw _ (List.mem_of_getElem? (i := 130) rfl)) (hw _ (List.mem_of_getElem? (i := 6) rfl)) (by decide) (by decide)) (g := (mkF m 5 #[.val (.ref b)] [(.ref b), (.ref sa), (.ref sa)])) rfl (by rw [hml]; rfl) (Steps.refl _) (a := sa) (argsL := [(.ref b)]) (rest := [(.ref sa)]) (lenOf own_pd373 rfl) rfl (by show 2 * 0 + _ ≤ _; exact Nat.le_of_eq rfl) (hb hby own_d372) (fun _ _ => ⟨rfl, e587, (by decide : 1 + 1 ≤ _), (by decide : 4 + 40 ≤ _)⟩)
  dsimp only [Pt.U, Pt.locs, Pt.cells, Pt.slots] at X603 l603 y603 z603 st603 hQ603
  subst l603 y603 z603
  obtain ⟨rfl, N603, K603, S603⟩ := hQ603
  refine GoOn.trans st603 ?_
  have N604 := Fr.app N0 N603
  have E605 : Exa Z T603.heap b "java/lang/StringBuilder" := E592.keep K603
  have F606 : Fld Z T603.heap b "java/lang/AbstractStringBuilder" "coder" "B" (.int 0) := F593.keep K603 (ninS ne588 nin0)
  have F607 : Fld Z T603.heap b "java/lang/AbstractStringBuilder" "count" "I" (.int (Int32.ofNat cs.length)) := F594.keep K603 (ninS ne588 nin0)
  have F608 : Fld Z T603.heap b "java/lang/AbstractStringBuilder" "value" "[B" (.ref t) := F595.keep K603 (ninS ne588 nin0)
  have V609 : Arv Z T603.heap t kb .byte (Int32.ofNat cap) (own_sb cap cs) (.int 0) := V596.keep K603 (ninS ne589 nin0)
  have Eb610 : Exa Z T603.heap t "[B" := Eb597.keep K603
  have O611 : Old Z n0 T603.heap := O598.keep K603 (allS gn590 all0)
  have Z612 : n0 ≤ T603.heap.size := Nat.le_trans Z599 K603.1
  have K613 : Keep h0 T603.heap [] := K600.trans K603 ((allS (Or.inr sz591) all0))
  have E614 : Exa Z T603.heap sa "java/lang/String" := A587.keep K603
  show GoOn p e below (T603.setTop (mkF m 8 #[.val (.ref b)] [(.ref sa)])) _
  refine GoOn.ret X603 Bd.notSynchronized (v := some (.ref sa)) (fun h => by rw [Bd.returns] at h; cases h) (fun fs hr => retOut X603 hx Bd.returns rfl (Or.inr (Or.inr (Or.inr (Or.inr ⟨rfl, rfl, rfl⟩)))) (hb hby own_d374) hr) (by decide) (by decide) ?_
  exact ⟨sa, rfl, N604, K613, sz591, S603⟩
set_option maxRecDepth 65536 in
theorem own_ssIn : Jvm.Cond.code Jvm.Free.SBG.StrSize.ssN Jvm.Free.SBG.StrSize.ssB 4 (some .int) ∈ tables_1 := by decide +kernel
set_option maxRecDepth 65536 in
theorem own_gcIn : Jvm.Cond.code Jvm.Free.SBG.GetChars.gcN Jvm.Free.SBG.GetChars.gcB 7 (some .int) ∈ tables_1 := by decide +kernel
set_option maxRecDepth 65536 in
set_option maxHeartbeats 40000000 in
theorem rmASAI (l : Launch) (Z : State) (a0 : Array Value) (hw : ∀ d ∈ tables_1, d.before a0 Z = true) (b t : Addr) (kb : ClassId) (cap : Nat) (cs : List Int32) (G1 : Int32) (x : Int32) (n : Nat) (st d1 : Addr) (D1 : Cell) (d2 : Addr) (D2 : Cell) (h0 : Heap) (n0 : Nat) (Z0 : n0 ≤ h0.size) (SC : Sta Z Z.heap "java/lang/String" "COMPACT_STRINGS" "Z" (.int G1)) (PC : ¬ G1 = (0 : Int32)) (E0 : Exa Z h0 b "java/lang/StringBuilder") (F0c : Fld Z h0 b "java/lang/AbstractStringBuilder" "coder" "B" (.int 0)) (F0n : Fld Z h0 b "java/lang/AbstractStringBuilder" "count" "I" (.int (Int32.ofNat cs.length))) (F0v : Fld Z h0 b "java/lang/AbstractStringBuilder" "value" "[B" (.ref t)) (V0 : Arv Z h0 t kb .byte (Int32.ofNat cap) (own_sb cap cs) (.int 0)) (gb : n0 ≤ b) (gt : n0 ≤ t) (hcap : cs.length + (own_is x n).length ≤ cap) (hc4 : cap ≤ 40) (hn : n ≤ 2 ^ 31) (hx0 : (if x < 0 then x else -x) = Jvm.Free.SBG.negI n) (DG : own_Dig Z st d1 D1 d2 D2) (O0 : Old Z n0 h0) :
    MetFree l (⟨"java/lang/AbstractStringBuilder", "append", "(I)Ljava/lang/AbstractStringBuilder;"⟩ : MethodName) (head1 [Jvm.Cond.code (⟨"java/lang/AbstractStringBuilder", "append", "(I)Ljava/lang/AbstractStringBuilder;"⟩ : MethodName) jdk_68_method_32_code 4 (some (.object "java/lang/AbstractStringBuilder"))] ({ frames := 2, cells := 0, slots := 0, locals := 80 } : Room)) (fun aa U => aa = #[(.ref b), (.int x)] ∧ Z.Warmed39 U.vm ∧ U.heap = h0) (fun _ _ _ _ _ => True) (fun _ U o U' => ∃ v L, o = .returned v ∧ QApp Z b t kb cap (cs ++ own_is x n) h0 n0 v U'.heap L ∧ FrameEnd U o U' L ({ frames := 2, cells := 0, slots := 0, locals := 80 } : Room).cells ({ frames := 2, cells := 0, slots := 0, locals := 80 } : Room).slots) := by
  refine MetFree.of_bodySF (plainFor_of_name own_pn151) hisR ?_
  intro p e s m args below meth c s₁ Bd hml0 hP hK
  obtain ⟨rfl, hZ, hh⟩ := hP
  have hx := Bd.exec
  have hby := Bd.bytes
  have hml : c.maxLocals = 4 := hml0
  have hown : s.vm.findClass "java/lang/AbstractStringBuilder" = some m.cls := findClass_of_methodNamed Bd.named
  have hnm := (name_of_methodNamed Bd.named Bd.method).1
  have X0 : Stand p l e ({ frames := 2, cells := 0, slots := 0, locals := 80 } : Room) s m #[(.ref b), (.int x)] below meth c s₁ [] 0 0 := Stand.of_body Bd
  have e0 : s₁.heap = h0 := by rw [← hh, Bd.state]; rfl
  have N0 := Fr.nil n0
  have K0 : Keep h0 h0 [] := Keep.refl _ _
  show GoOn p e below (s₁.setTop (entryFrame m #[(.ref b), (.int x)] 4)) (PostN s (QApp Z b t kb cap (cs ++ own_is x n) h0 n0) ({ frames := 2, cells := 0, slots := 0, locals := 80 } : Room).cells ({ frames := 2, cells := 0, slots := 0, locals := 80 } : Room).slots)
  refine GoOn.step (fun tq kq => castTop (own_ef375 m b x) kq) ?_
  show GoOn p e below (s₁.setTop (mkF m 0 #[.val (.ref b), .val (.int x), .unset, .unset] [])) _
  have nbt : b ≠ t := Exa.neArv E0 V0 (hw _ (List.mem_of_getElem? (i := 33) rfl))
  have K0t : Keep h0 h0 [b, t] := Keep.refl _ _
  have hc5 : cap ≤ 4000 := by omega
  refine GoOn.step (fun tq kq => XS.aloadN X0.here hx rfl (hb hby own_d376) rfl rfl kq) ?_
  show GoOn p e below (s₁.setTop (mkF m 1 #[.val (.ref b), .val (.int x), .unset, .unset] [(.ref b)])) _
  obtain ⟨T617, X617, e617, st617⟩ := getF X0 hx hZ hown (host := "") (Or.inl (hw _ (List.mem_of_getElem? (i := 71) rfl))) Via.refl e0 F0n (g := (mkF m 1 #[.val (.ref b), .val (.int x), .unset, .unset] [(.ref b)])) rfl rfl (hb hby own_d377)
  refine GoOn.step st617 ?_
  refine GoOn.step (fun tq kq => XS.istoreN X617.here hx rfl (hb hby own_d378) rfl (l' := #[.val (.ref b), .val (.int x), .val (.int (Int32.ofNat cs.length)), .unset]) rfl kq) ?_
  refine GoOn.step (fun tq kq => XS.iloadN X617.here hx rfl (hb hby own_d379) rfl kq) ?_
  refine GoOn.step (fun tq kq => XS.iloadN X617.here hx rfl (hb hby own_d380) rfl kq) ?_
  show GoOn p e below (T617.setTop (mkF m 7 #[.val (.ref b), .val (.int x), .val (.int (Int32.ofNat cs.length)), .unset] [(.int x), (.int (Int32.ofNat cs.length))])) _
  obtain ⟨_, _, ⟨T618, L618, k618, n618⟩, -, X618, ⟨Lc618, hQ618, l618, y618, z618⟩, st618⟩ := Jvm.LawKit.callS X617 hx (y := (⟨"java/lang/Integer", "stringSize", "(I)I"⟩ : MethodName)) hown (mvT hZ (hw _ (List.mem_of_getElem? (i := 108) rfl))) (mvT hZ (hw _ (List.mem_of_getElem? (i := 109) rfl))) (mvT hZ (hw _ (List.mem_of_getElem? (i := 110) rfl))) (mvT hZ (hw _ (List.mem_of_getElem? (i := 111) rfl))) (by decide) (own_ss (n0 := n0) (W := 1) hZ hn hx0 (hw _ own_ssIn) (hw _ (List.mem_of_getElem? (i := 110) rfl)) (by decide) (by decide)) (g := (mkF m 7 #[.val (.ref b), .val (.int x), .val (.int (Int32.ofNat cs.length)), .unset] [(.int x), (.int (Int32.ofNat cs.length))])) rfl (by rw [hml]; rfl) (argsL := [(.int x)]) (rest := [(.int (Int32.ofNat cs.length))]) (lenOf own_pd382 rfl) rfl (by show 2 * 0 + _ ≤ _; exact Nat.le_of_eq rfl) (hb hby own_d381) (fun _ _ => ⟨rfl, e617, (by decide : 0 + 0 ≤ _), (by decide : 0 + 0 ≤ _)⟩)
  dsimp only [Pt.U, Pt.locs, Pt.cells, Pt.slots] at X618 l618 y618 z618 st618 hQ618
  subst l618 y618 z618
  obtain ⟨rfl, N618, e618⟩ := hQ618
  refine GoOn.step st618 ?_
  have N619 := Fr.app N0 N618
  refine GoOn.step (fun tq kq => XS.iadd X618.here hx rfl (hb hby own_d383) rfl kq) ?_
  refine GoOn.step (fun tq kq => XS.istoreN X618.here hx rfl (hb hby own_d384) rfl (l' := #[.val (.ref b), .val (.int x), .val (.int (Int32.ofNat cs.length)), .val (.int ((Int32.ofNat cs.length) + (Int32.ofNat (own_is x n).length)))]) rfl kq) ?_
  refine GoOn.step (fun tq kq => XS.aloadN X618.here hx rfl (hb hby own_d385) rfl rfl kq) ?_
  refine GoOn.step (fun tq kq => XS.iloadN X618.here hx rfl (hb hby own_d386) rfl kq) ?_
  show GoOn p e below (T618.setTop (mkF m 14 #[.val (.ref b), .val (.int x), .val (.int (Int32.ofNat cs.length)), .val (.int ((Int32.ofNat cs.length) + (Int32.ofNat (own_is x n).length)))] [(.int ((Int32.ofNat cs.length) + (Int32.ofNat (own_is x n).length))), (.ref b)])) _
  rw [own_add32]
  show GoOn p e below (T618.setTop (mkF m 14 #[.val (.ref b), .val (.int x), .val (.int (Int32.ofNat cs.length)), .val (.int (Int32.ofNat (cs.length + (own_is x n).length)))] [(.int (Int32.ofNat (cs.length + (own_is x n).length))), (.ref b)])) _
  obtain ⟨cqc621, kqc621, qac621, qbc621, qcc621⟩ := isOf hZ e618 E0
  obtain ⟨_, _, ⟨T620, L620, k620, n620⟩, -, X620, ⟨Lc620, hQ620, l620, y620, z620⟩, st620⟩ := X618.virtualBack hx (y := (⟨"java/lang/AbstractStringBuilder", "ensureCapacityInternal", "(I)V"⟩ : MethodName)) (z := (⟨"java/lang/AbstractStringBuilder", "ensureCapacityInternal", "(I)V"⟩ : MethodName)) hown (mvT hZ (hw _ (List.mem_of_getElem? (i := 73) rfl))) (own_decl (args := _) (mvT hZ (hw _ (List.mem_of_getElem? (i := 74) rfl))) (mvT hZ (hw _ (List.mem_of_getElem? (i := 77) rfl)))) (notFace_of_selects (args := #[]) (mvT hZ (hw _ (List.mem_of_getElem? (i := 76) rfl)))) (mvT hZ (hw _ (List.mem_of_getElem? (i := 76) rfl))) (mvT hZ (hw _ (List.mem_of_getElem? (i := 74) rfl))) (by decide) (backOf (W := 0) (rmEns l Z a0 hw b t kb cap (cs.length + (own_is x n).length) (own_sb cap cs) h0 n0 Z0 F0c F0v V0 hcap hc5) hZ (hw _ (List.mem_of_getElem? (i := 77) rfl)) (hw _ (List.mem_of_getElem? (i := 42) rfl)) (by decide) (by decide)) qac621 qcc621 (g := (mkF m 14 #[.val (.ref b), .val (.int x), .val (.int (Int32.ofNat cs.length)), .val (.int (Int32.ofNat (cs.length + (own_is x n).length)))] [(.int (Int32.ofNat (cs.length + (own_is x n).length))), (.ref b)])) rfl (by rw [hml]; rfl) (Steps.refl _) (argsL := [(.int (Int32.ofNat (cs.length + (own_is x n).length)))]) (rest := []) (lenOf own_pd217 rfl) rfl (by show 2 * 0 + _ ≤ _; exact Nat.le_of_eq rfl) (hb hby own_d387) (fun _ _ => ⟨rfl, e618, (by decide : 0 + 0 ≤ _), (by decide : 0 + 0 ≤ _)⟩)
  dsimp only [Pt.U, Pt.locs, Pt.cells, Pt.slots] at X620 l620 y620 z620 st620 hQ620
  subst l620 y620 z620
  obtain ⟨rfl, N620, e620⟩ := hQ620
  refine GoOn.trans st620 ?_
  have N622 := Fr.app N619 N620
  refine GoOn.step (fun tq kq => XS.aloadN X620.here hx rfl (hb hby own_d388) rfl rfl kq) ?_
  show GoOn p e below (T620.setTop (mkF m 18 #[.val (.ref b), .val (.int x), .val (.int (Int32.ofNat cs.length)), .val (.int (Int32.ofNat (cs.length + (own_is x n).length)))] [(.ref b)])) _
  obtain ⟨cqc624, kqc624, qac624, qbc624, qcc624⟩ := isOf hZ e620 E0
  obtain ⟨_, _, ⟨T623, L623, k623, n623⟩, -, X623, ⟨Lc623, hQ623, l623, y623, z623⟩, st623⟩ := X620.virtualBack hx (y := (⟨"java/lang/AbstractStringBuilder", "isLatin1", "()Z"⟩ : MethodName)) (z := (⟨"java/lang/AbstractStringBuilder", "isLatin1", "()Z"⟩ : MethodName)) hown (mvT hZ (hw _ (List.mem_of_getElem? (i := 112) rfl))) (mvT hZ (hw _ (List.mem_of_getElem? (i := 113) rfl))) (notFace_of_selects (args := #[]) (mvT hZ (hw _ (List.mem_of_getElem? (i := 115) rfl)))) (mvT hZ (hw _ (List.mem_of_getElem? (i := 115) rfl))) (mvT hZ (hw _ (List.mem_of_getElem? (i := 114) rfl))) (by decide) (backOf (W := 0) (rmIsL l Z a0 hw b G1 h0 n0 Z0 SC PC F0c O0) hZ (hw _ (List.mem_of_getElem? (i := 116) rfl)) (hw _ (List.mem_of_getElem? (i := 42) rfl)) (by decide) (by decide)) qac624 qcc624 (g := (mkF m 18 #[.val (.ref b), .val (.int x), .val (.int (Int32.ofNat cs.length)), .val (.int (Int32.ofNat (cs.length + (own_is x n).length)))] [(.ref b)])) rfl (by rw [hml]; rfl) (Steps.refl _) (argsL := []) (rest := []) (lenOf own_pd348 rfl) rfl (by show 2 * 0 + _ ≤ _; exact Nat.le_of_eq rfl) (hb hby own_d389) (fun _ _ => ⟨rfl, e620, (by decide : 0 + 0 ≤ _), (by decide : 0 + 0 ≤ _)⟩)
  dsimp only [Pt.U, Pt.locs, Pt.cells, Pt.slots] at X623 l623 y623 z623 st623 hQ623
  subst l623 y623 z623
  obtain ⟨rfl, N623, e623⟩ := hQ623
  refine GoOn.trans st623 ?_
  have N625 := Fr.app N622 N623
  refine GoOn.step (fun tq kq => XS.ifNo X623.here hx rfl (hb hby own_d390) rfl ((if0 _ _).trans (feq (by decide)).1) kq) ?_
  refine GoOn.step (fun tq kq => XS.iloadN X623.here hx rfl (hb hby own_d391) rfl kq) ?_
  refine GoOn.step (fun tq kq => XS.iloadN X623.here hx rfl (hb hby own_d392) rfl kq) ?_
  refine GoOn.step (fun tq kq => XS.aloadN X623.here hx rfl (hb hby own_d393) rfl rfl kq) ?_
  show GoOn p e below (T623.setTop (mkF m 27 #[.val (.ref b), .val (.int x), .val (.int (Int32.ofNat cs.length)), .val (.int (Int32.ofNat (cs.length + (own_is x n).length)))] [(.ref b), (.int (Int32.ofNat (cs.length + (own_is x n).length))), (.int x)])) _
  obtain ⟨T626, X626, e626, st626⟩ := getF X623 hx hZ hown (host := "") (Or.inl (hw _ (List.mem_of_getElem? (i := 46) rfl))) Via.refl e623 F0v (g := (mkF m 27 #[.val (.ref b), .val (.int x), .val (.int (Int32.ofNat cs.length)), .val (.int (Int32.ofNat (cs.length + (own_is x n).length)))] [(.ref b), (.int (Int32.ofNat (cs.length + (own_is x n).length))), (.int x)])) rfl rfl (hb hby own_d394)
  refine GoOn.step st626 ?_
  show GoOn p e below (T626.setTop (mkF m 30 #[.val (.ref b), .val (.int x), .val (.int (Int32.ofNat cs.length)), .val (.int (Int32.ofNat (cs.length + (own_is x n).length)))] [(.ref t), (.int (Int32.ofNat (cs.length + (own_is x n).length))), (.int x)])) _
  obtain ⟨_, _, ⟨T627, L627, k627, n627⟩, -, X627, ⟨Lc627, hQ627, l627, y627, z627⟩, st627⟩ := Jvm.LawKit.callS X626 hx (y := (⟨"java/lang/Integer", "getChars", "(II[B)I"⟩ : MethodName)) hown (mvT hZ (hw _ (List.mem_of_getElem? (i := 117) rfl))) (mvT hZ (hw _ (List.mem_of_getElem? (i := 118) rfl))) (mvT hZ (hw _ (List.mem_of_getElem? (i := 110) rfl))) (mvT hZ (hw _ (List.mem_of_getElem? (i := 119) rfl))) (by decide) (own_gch (n0 := n0) (W := 0) hZ hn hx0 (hw _ own_gcIn) (hw _ (List.mem_of_getElem? (i := 120) rfl)) (hw _ (List.mem_of_getElem? (i := 282) rfl)) (hw _ (List.mem_of_getElem? (i := 110) rfl)) DG O0 V0 gt hcap hc4 (by decide) (by decide)) (g := (mkF m 30 #[.val (.ref b), .val (.int x), .val (.int (Int32.ofNat cs.length)), .val (.int (Int32.ofNat (cs.length + (own_is x n).length)))] [(.ref t), (.int (Int32.ofNat (cs.length + (own_is x n).length))), (.int x)])) rfl (by rw [hml]; rfl) (argsL := [(.int x), (.int (Int32.ofNat (cs.length + (own_is x n).length))), (.ref t)]) (rest := []) (lenOf own_pd395 rfl) rfl (by show 2 * 0 + _ ≤ _; exact Nat.le_of_eq rfl) (hb hby own_d396) (fun _ _ => ⟨rfl, e626, (by decide : 0 + 0 ≤ _), (by decide : 0 + 0 ≤ _)⟩)
  dsimp only [Pt.U, Pt.locs, Pt.cells, Pt.slots] at X627 l627 y627 z627 st627 hQ627
  subst l627 y627 z627
  obtain ⟨rfl, N627, K627, V627⟩ := hQ627
  refine GoOn.step st627 ?_
  have N628 := Fr.app N625 N627
  have E629 : Exa Z T627.heap b "java/lang/StringBuilder" := E0.keep K627
  have F630 : Fld Z T627.heap b "java/lang/AbstractStringBuilder" "coder" "B" (.int 0) := F0c.keep K627 (ninS nbt nin0)
  have F631 : Fld Z T627.heap b "java/lang/AbstractStringBuilder" "count" "I" (.int (Int32.ofNat cs.length)) := F0n.keep K627 (ninS nbt nin0)
  have F632 : Fld Z T627.heap b "java/lang/AbstractStringBuilder" "value" "[B" (.ref t) := F0v.keep K627 (ninS nbt nin0)
  have O634 : Old Z n0 T627.heap := O0.keep K627 (allS gt all0)
  have Z635 : n0 ≤ T627.heap.size := Nat.le_trans Z0 K627.1
  have K636 : Keep h0 T627.heap [b, t] := K0t.trans K627 ((allS (Or.inl (by simp)) all0))
  refine GoOn.step (fun tq kq => XS.pop X627.here hx rfl (hb hby own_d397) rfl rfl kq) ?_
  refine GoOn.step (fun tq kq => XS.goto X627.here hx rfl (pc0 := 34) (pc' := 48) rfl (hb hby own_d398) (by decide) (by decide) kq) ?_
  refine GoOn.step (fun tq kq => XS.aloadN X627.here hx rfl (hb hby own_d399) rfl rfl kq) ?_
  refine GoOn.step (fun tq kq => XS.iloadN X627.here hx rfl (hb hby own_d400) rfl kq) ?_
  show GoOn p e below (T627.setTop (mkF m 50 #[.val (.ref b), .val (.int x), .val (.int (Int32.ofNat cs.length)), .val (.int (Int32.ofNat (cs.length + (own_is x n).length)))] [(.int (Int32.ofNat (cs.length + (own_is x n).length))), (.ref b)])) _
  obtain ⟨T637, h637, X637, e637, W637, st637⟩ := putF X627 hx hZ hown (host := "") (Or.inl (hw _ (List.mem_of_getElem? (i := 71) rfl))) Via.refl rfl F631 E629 (Or.inl (hw _ (List.mem_of_getElem? (i := 72) rfl))) (hw _ (List.mem_of_getElem? (i := 33) rfl)) (ty := .int) (by decide) rfl rfl (g := (mkF m 50 #[.val (.ref b), .val (.int x), .val (.int (Int32.ofNat cs.length)), .val (.int (Int32.ofNat (cs.length + (own_is x n).length)))] [(.int (Int32.ofNat (cs.length + (own_is x n).length))), (.ref b)])) rfl rfl (hb hby own_d401)
  have N638 := Fr.snoc X637 N628 gb
  have Kx637 : Keep T627.heap h637 [b] := Keep.of_wr W637
  have F639 : Fld Z h637 b "java/lang/AbstractStringBuilder" "count" "I" (.int (Int32.ofNat (cs.length + (own_is x n).length))) := F631.same W637
  have F640 : Fld Z h637 b "java/lang/AbstractStringBuilder" "coder" "B" (.int 0) := F630.other W637 (Or.inr (slot_ne (a0 := a0) (Or.inl (hw _ (List.mem_of_getElem? (i := 49) rfl))) (Or.inl (hw _ (List.mem_of_getElem? (i := 72) rfl))) (by decide) (t := .byte) (t' := .int) (by decide) (by decide)))
  have F641 : Fld Z h637 b "java/lang/AbstractStringBuilder" "value" "[B" (.ref t) := F632.other W637 (Or.inr (slot_ne (a0 := a0) (Or.inl (hw _ (List.mem_of_getElem? (i := 47) rfl))) (Or.inl (hw _ (List.mem_of_getElem? (i := 72) rfl))) (by decide) (t := (.array .byte)) (t' := .int) (by decide) (by decide)))
  refine GoOn.step st637 ?_
  have E642 : Exa Z h637 b "java/lang/StringBuilder" := E629.keep Kx637
  have O646 : Old Z n0 h637 := O634.keep Kx637 (allS gb all0)
  have Z647 : n0 ≤ h637.size := Nat.le_trans Z635 Kx637.1
  have K648 : Keep h0 h637 [b, t] := K636.trans Kx637 ((allS (Or.inl (by simp)) all0))
  have V649 : Arv Z h637 t kb .byte (Int32.ofNat cap) (own_sb cap (cs ++ own_is x n)) (.int 0) := V627.keep Kx637 (ninS (Ne.symm nbt) nin0)
  refine GoOn.step (fun tq kq => XS.aloadN X637.here hx rfl (hb hby own_d402) rfl rfl kq) ?_
  show GoOn p e below (T637.setTop (mkF m 54 #[.val (.ref b), .val (.int x), .val (.int (Int32.ofNat cs.length)), .val (.int (Int32.ofNat (cs.length + (own_is x n).length)))] [(.ref b)])) _
  rw [← List.length_append] at F639
  refine GoOn.ret X637 Bd.notSynchronized (v := some (.ref b)) (fun h => by rw [Bd.returns] at h; cases h) (fun fs hr => retOut X637 hx Bd.returns rfl (Or.inr (Or.inr (Or.inr (Or.inr ⟨rfl, rfl, rfl⟩)))) (hb hby own_d403) hr) (by decide) (by decide) ?_
  rw [e637]
  exact ⟨rfl, N638, K648, E642, F640, F639, F641, V649⟩
set_option maxRecDepth 65536 in
set_option maxHeartbeats 40000000 in
theorem rmSBAI (l : Launch) (Z : State) (a0 : Array Value) (hw : ∀ d ∈ tables_1, d.before a0 Z = true) (b t : Addr) (kb : ClassId) (cap : Nat) (cs : List Int32) (G1 : Int32) (x : Int32) (n : Nat) (st d1 : Addr) (D1 : Cell) (d2 : Addr) (D2 : Cell) (h0 : Heap) (n0 : Nat) (Z0 : n0 ≤ h0.size) (SC : Sta Z Z.heap "java/lang/String" "COMPACT_STRINGS" "Z" (.int G1)) (PC : ¬ G1 = (0 : Int32)) (E0 : Exa Z h0 b "java/lang/StringBuilder") (F0c : Fld Z h0 b "java/lang/AbstractStringBuilder" "coder" "B" (.int 0)) (F0n : Fld Z h0 b "java/lang/AbstractStringBuilder" "count" "I" (.int (Int32.ofNat cs.length))) (F0v : Fld Z h0 b "java/lang/AbstractStringBuilder" "value" "[B" (.ref t)) (V0 : Arv Z h0 t kb .byte (Int32.ofNat cap) (own_sb cap cs) (.int 0)) (gb : n0 ≤ b) (gt : n0 ≤ t) (hcap : cs.length + (own_is x n).length ≤ cap) (hc4 : cap ≤ 40) (hn : n ≤ 2 ^ 31) (hx0 : (if x < 0 then x else -x) = Jvm.Free.SBG.negI n) (DG : own_Dig Z st d1 D1 d2 D2) (O0 : Old Z n0 h0) :
    MetFree l (⟨"java/lang/StringBuilder", "append", "(I)Ljava/lang/StringBuilder;"⟩ : MethodName) (head1 [Jvm.Cond.code (⟨"java/lang/StringBuilder", "append", "(I)Ljava/lang/StringBuilder;"⟩ : MethodName) jdk_67_method_15_code 2 (some (.object "java/lang/StringBuilder"))] ({ frames := 3, cells := 0, slots := 0, locals := 96 } : Room)) (fun aa U => aa = #[(.ref b), (.int x)] ∧ Z.Warmed39 U.vm ∧ U.heap = h0) (fun _ _ _ _ _ => True) (fun _ U o U' => ∃ v L, o = .returned v ∧ QApp Z b t kb cap (cs ++ own_is x n) h0 n0 v U'.heap L ∧ FrameEnd U o U' L ({ frames := 3, cells := 0, slots := 0, locals := 96 } : Room).cells ({ frames := 3, cells := 0, slots := 0, locals := 96 } : Room).slots) := by
  refine MetFree.of_bodySF (plainFor_of_name own_pn233) hisR ?_
  intro p e s m args below meth c s₁ Bd hml0 hP hK
  obtain ⟨rfl, hZ, hh⟩ := hP
  have hx := Bd.exec
  have hby := Bd.bytes
  have hml : c.maxLocals = 2 := hml0
  have hown : s.vm.findClass "java/lang/StringBuilder" = some m.cls := findClass_of_methodNamed Bd.named
  have hnm := (name_of_methodNamed Bd.named Bd.method).1
  have X0 : Stand p l e ({ frames := 3, cells := 0, slots := 0, locals := 96 } : Room) s m #[(.ref b), (.int x)] below meth c s₁ [] 0 0 := Stand.of_body Bd
  have e0 : s₁.heap = h0 := by rw [← hh, Bd.state]; rfl
  have N0 := Fr.nil n0
  have K0 : Keep h0 h0 [] := Keep.refl _ _
  show GoOn p e below (s₁.setTop (entryFrame m #[(.ref b), (.int x)] 2)) (PostN s (QApp Z b t kb cap (cs ++ own_is x n) h0 n0) ({ frames := 3, cells := 0, slots := 0, locals := 96 } : Room).cells ({ frames := 3, cells := 0, slots := 0, locals := 96 } : Room).slots)
  refine GoOn.step (fun tq kq => castTop (own_ef404 m b x) kq) ?_
  show GoOn p e below (s₁.setTop (mkF m 0 #[.val (.ref b), .val (.int x)] [])) _
  have nbt : b ≠ t := Exa.neArv E0 V0 (hw _ (List.mem_of_getElem? (i := 33) rfl))
  have K0t : Keep h0 h0 [b, t] := Keep.refl _ _
  refine GoOn.step (fun tq kq => XS.aloadN X0.here hx rfl (hb hby own_d405) rfl rfl kq) ?_
  refine GoOn.step (fun tq kq => XS.iloadN X0.here hx rfl (hb hby own_d406) rfl kq) ?_
  show GoOn p e below (s₁.setTop (mkF m 2 #[.val (.ref b), .val (.int x)] [(.int x), (.ref b)])) _
  obtain ⟨_, _, ⟨T650, L650, k650, n650⟩, -, X650, ⟨Lc650, hQ650, l650, y650, z650⟩, st650⟩ := superBack X0 hx hZ hown (hw _ (List.mem_of_getElem? (i := 104) rfl)) (own_same (hw _ (List.mem_of_getElem? (i := 105) rfl)) ⟨(hw _ (List.mem_of_getElem? (i := 137) rfl)), rfl⟩ (by decide)) (hw _ (List.mem_of_getElem? (i := 105) rfl)) (hw _ (List.mem_of_getElem? (i := 57) rfl)) (by decide) (backOf (W := 0) (rmASAI l Z a0 hw b t kb cap cs G1 x n st d1 D1 d2 D2 h0 n0 Z0 SC PC E0 F0c F0n F0v V0 gb gt hcap hc4 hn hx0 DG O0) hZ (hw _ (List.mem_of_getElem? (i := 107) rfl)) (hw _ (List.mem_of_getElem? (i := 42) rfl)) (by decide) (by decide)) e0 (Ins.self E0) (g := (mkF m 2 #[.val (.ref b), .val (.int x)] [(.int x), (.ref b)])) rfl (by rw [hml]; rfl) (hw _ (List.mem_of_getElem? (i := 107) rfl)) (argsL := [(.int x)]) (rest := []) (lenOf own_pd408 rfl) rfl (by show 2 * 0 + _ ≤ _; exact Nat.le_of_eq rfl) (hb hby own_d407) (fun _ _ => ⟨rfl, e0, (by decide : 0 + 0 ≤ _), (by decide : 0 + 0 ≤ _)⟩)
  dsimp only [Pt.U, Pt.locs, Pt.cells, Pt.slots] at X650 l650 y650 z650 st650 hQ650
  subst l650 y650 z650
  obtain ⟨rfl, N650, K650, E650, Fc650, Fn650, Fv650, V650⟩ := hQ650
  refine GoOn.trans st650 ?_
  have N651 := Fr.app N0 N650
  have E652 : Exa Z T650.heap b "java/lang/StringBuilder" := E0.keep K650
  have O657 : Old Z n0 T650.heap := O0.keep K650 (allS gb (allS gt all0))
  have Z658 : n0 ≤ T650.heap.size := Nat.le_trans Z0 K650.1
  have K659 : Keep h0 T650.heap [b, t] := K0t.trans K650 ((allS (Or.inl (by simp)) (allS (Or.inl (by simp)) all0)))
  refine GoOn.step (fun tq kq => XS.pop X650.here hx rfl (hb hby own_d409) rfl rfl kq) ?_
  refine GoOn.step (fun tq kq => XS.aloadN X650.here hx rfl (hb hby own_d410) rfl rfl kq) ?_
  show GoOn p e below (T650.setTop (mkF m 7 #[.val (.ref b), .val (.int x)] [(.ref b)])) _
  refine GoOn.ret X650 Bd.notSynchronized (v := some (.ref b)) (fun h => by rw [Bd.returns] at h; cases h) (fun fs hr => retOut X650 hx Bd.returns rfl (Or.inr (Or.inr (Or.inr (Or.inr ⟨rfl, rfl, rfl⟩)))) (hb hby own_d411) hr) (by decide) (by decide) ?_
  exact ⟨rfl, N651, K659, E650, Fc650, Fn650, Fv650, V650⟩
theorem own_svX {Z : State} {a0 : Array Value} {h h' : Heap} {a b u : Addr} {ds : List Int32} {kI : Nat} (S : StrIs Z h a ds) (K : Keep h h' [b]) (E : Exa Z h b "java/lang/StringBuilder") (wi : (Jvm.Cond.instantiable "java/lang/StringBuilder" kI).before a0 Z = true) (g : h.size ≤ u) : ∀ sv : Addr, Fld Z h' a "java/lang/String" "value" "[B" (.ref sv) → sv ≠ u := fun sv F => by
  have S' := S.keepX K E wi (by decide)
  obtain ⟨E0, C0, hp, hl, t, kb, F0, V0⟩ := S
  obtain ⟨-, -, -, -, t', kb', F1, -⟩ := S'
  have ne : a ≠ b := fun z => by
    subst z
    obtain ⟨c1, k1, q1, q2, -⟩ := E0
    obtain ⟨c2, k2, r1, r2, -⟩ := E
    cases q1.symm.trans r1
    obtain ⟨x1, x2, x3⟩ := Vm.findClass_spec q2
    obtain ⟨y1, y2, y3⟩ := Vm.findClass_spec r2
    cases x2.symm.trans y2
    exact absurd (x3.symm.trans y3) (by decide)
  cases own_finj F (F0.keep K (by simpa using ne))
  exact Nat.ne_of_lt (Nat.lt_of_lt_of_le V0.lt g)
set_option maxRecDepth 65536 in
set_option maxHeartbeats 40000000 in
theorem rmMax (l : Launch) (Z : State) (a0 : Array Value) (hw : ∀ d ∈ tables_1, d.before a0 Z = true) (x y : Int32) (h0 : Heap) (n0 : Nat) (Z0 : n0 ≤ h0.size) (hxy : x < y) :
    MetFree l (⟨"java/lang/Math", "max", "(II)I"⟩ : MethodName) (head1 [Jvm.Cond.code (⟨"java/lang/Math", "max", "(II)I"⟩ : MethodName) jdk_29_method_65_code 2 (some .int)] ({ frames := 0, cells := 0, slots := 0, locals := 0 } : Room)) (fun aa U => aa = #[(.int x), (.int y)] ∧ Z.Warmed39 U.vm ∧ U.heap = h0) (fun _ _ _ _ _ => True) (fun _ U o U' => ∃ v L, o = .returned v ∧ QSame (.int y) h0 n0 v U'.heap L ∧ FrameEnd U o U' L ({ frames := 0, cells := 0, slots := 0, locals := 0 } : Room).cells ({ frames := 0, cells := 0, slots := 0, locals := 0 } : Room).slots) := by
  refine MetFree.of_bodySF (Jvm.Free.JP.mathPlain rfl (by decide +kernel)) hisR ?_
  intro p e s m args below meth c s₁ Bd hml0 hP hK
  obtain ⟨rfl, hZ, hh⟩ := hP
  have hx := Bd.exec
  have hby := Bd.bytes
  have hml : c.maxLocals = 2 := hml0
  have hown : s.vm.findClass "java/lang/Math" = some m.cls := findClass_of_methodNamed Bd.named
  have hnm := (name_of_methodNamed Bd.named Bd.method).1
  have X0 : Stand p l e ({ frames := 0, cells := 0, slots := 0, locals := 0 } : Room) s m #[(.int x), (.int y)] below meth c s₁ [] 0 0 := Stand.of_body Bd
  have e0 : s₁.heap = h0 := by rw [← hh, Bd.state]; rfl
  have N0 := Fr.nil n0
  have K0 : Keep h0 h0 [] := Keep.refl _ _
  show GoOn p e below (s₁.setTop (entryFrame m #[(.int x), (.int y)] 2)) (PostN s (QSame (.int y) h0 n0) ({ frames := 0, cells := 0, slots := 0, locals := 0 } : Room).cells ({ frames := 0, cells := 0, slots := 0, locals := 0 } : Room).slots)
  refine GoOn.step (fun tq kq => castTop (own_ef412 m x y) kq) ?_
  refine GoOn.step (fun tq kq => XS.iloadN X0.here hx rfl (hb hby own_d413) rfl kq) ?_
  refine GoOn.step (fun tq kq => XS.iloadN X0.here hx rfl (hb hby own_d414) rfl kq) ?_
  refine GoOn.step (fun tq kq => XS.icmpYes X0.here hx rfl (pc0 := 2) (pc' := 9) rfl (hb hby own_d415) rfl (tlt hxy).1 (by decide) (by decide) kq) ?_
  refine GoOn.step (fun tq kq => XS.iloadN X0.here hx rfl (hb hby own_d416) rfl kq) ?_
  show GoOn p e below (s₁.setTop (mkF m 10 #[.val (.int x), .val (.int y)] [(.int y)])) _
  refine GoOn.ret X0 Bd.notSynchronized (v := some (.int y)) (fun h => by rw [Bd.returns] at h; cases h) (fun fs hr => retI X0 hx Bd.returns (hb hby own_d417) hr) (by decide) (by decide) ?_
  rw [e0]
  exact ⟨rfl, N0, rfl⟩
set_option maxRecDepth 65536 in
set_option maxHeartbeats 40000000 in
theorem rmMinL (l : Launch) (Z : State) (a0 : Array Value) (hw : ∀ d ∈ tables_1, d.before a0 Z = true) (x y : Int32) (h0 : Heap) (n0 : Nat) (Z0 : n0 ≤ h0.size) (hxy : ¬ y < x) :
    MetFree l (⟨"java/lang/Math", "min", "(II)I"⟩ : MethodName) (head1 [Jvm.Cond.code (⟨"java/lang/Math", "min", "(II)I"⟩ : MethodName) jdk_29_method_69_code 2 (some .int)] ({ frames := 0, cells := 0, slots := 0, locals := 0 } : Room)) (fun aa U => aa = #[(.int x), (.int y)] ∧ Z.Warmed39 U.vm ∧ U.heap = h0) (fun _ _ _ _ _ => True) (fun _ U o U' => ∃ v L, o = .returned v ∧ QSame (.int x) h0 n0 v U'.heap L ∧ FrameEnd U o U' L ({ frames := 0, cells := 0, slots := 0, locals := 0 } : Room).cells ({ frames := 0, cells := 0, slots := 0, locals := 0 } : Room).slots) := by
  refine MetFree.of_bodySF (Jvm.Free.JP.mathPlain rfl (by decide +kernel)) hisR ?_
  intro p e s m args below meth c s₁ Bd hml0 hP hK
  obtain ⟨rfl, hZ, hh⟩ := hP
  have hx := Bd.exec
  have hby := Bd.bytes
  have hml : c.maxLocals = 2 := hml0
  have hown : s.vm.findClass "java/lang/Math" = some m.cls := findClass_of_methodNamed Bd.named
  have hnm := (name_of_methodNamed Bd.named Bd.method).1
  have X0 : Stand p l e ({ frames := 0, cells := 0, slots := 0, locals := 0 } : Room) s m #[(.int x), (.int y)] below meth c s₁ [] 0 0 := Stand.of_body Bd
  have e0 : s₁.heap = h0 := by rw [← hh, Bd.state]; rfl
  have N0 := Fr.nil n0
  have K0 : Keep h0 h0 [] := Keep.refl _ _
  show GoOn p e below (s₁.setTop (entryFrame m #[(.int x), (.int y)] 2)) (PostN s (QSame (.int x) h0 n0) ({ frames := 0, cells := 0, slots := 0, locals := 0 } : Room).cells ({ frames := 0, cells := 0, slots := 0, locals := 0 } : Room).slots)
  refine GoOn.step (fun tq kq => castTop (own_ef281 m x y) kq) ?_
  refine GoOn.step (fun tq kq => XS.iloadN X0.here hx rfl (hb hby own_d282) rfl kq) ?_
  refine GoOn.step (fun tq kq => XS.iloadN X0.here hx rfl (hb hby own_d283) rfl kq) ?_
  refine GoOn.step (fun tq kq => XS.icmpNo X0.here hx rfl (hb hby own_d284) rfl (flt hxy).2.2.1 kq) ?_
  refine GoOn.step (fun tq kq => XS.iloadN X0.here hx rfl (hb hby own_d418) rfl kq) ?_
  refine GoOn.step (fun tq kq => XS.goto X0.here hx rfl (pc0 := 6) (pc' := 10) rfl (hb hby own_d419) (by decide) (by decide) kq) ?_
  show GoOn p e below (s₁.setTop (mkF m 10 #[.val (.int x), .val (.int y)] [(.int x)])) _
  refine GoOn.ret X0 Bd.notSynchronized (v := some (.int x)) (fun h => by rw [Bd.returns] at h; cases h) (fun fs hr => retI X0 hx Bd.returns (hb hby own_d286) hr) (by decide) (by decide) ?_
  rw [e0]
  exact ⟨rfl, N0, rfl⟩
set_option maxRecDepth 65536 in
set_option maxHeartbeats 40000000 in
theorem rmNL (l : Launch) (Z : State) (a0 : Array Value) (hw : ∀ d ∈ tables_1, d.before a0 Z = true) (x g y : Int32) (h0 : Heap) (n0 : Nat) (Z0 : n0 ≤ h0.size) (hgy : g < y) (h1 : 0 < x + y) (h2 : ¬ (2147483639 : Int32) < x + y) :
    MetFree l (⟨"jdk/internal/util/ArraysSupport", "newLength", "(III)I"⟩ : MethodName) (head1 [Jvm.Cond.code (⟨"jdk/internal/util/ArraysSupport", "newLength", "(III)I"⟩ : MethodName) jdk_48_method_27_code 4 (some .int)] ({ frames := 1, cells := 0, slots := 0, locals := 15 } : Room)) (fun aa U => aa = #[(.int x), (.int g), (.int y)] ∧ Z.Warmed39 U.vm ∧ U.heap = h0) (fun _ _ _ _ _ => True) (fun _ U o U' => ∃ v L, o = .returned v ∧ QSame (.int (x + y)) h0 n0 v U'.heap L ∧ FrameEnd U o U' L ({ frames := 1, cells := 0, slots := 0, locals := 15 } : Room).cells ({ frames := 1, cells := 0, slots := 0, locals := 15 } : Room).slots) := by
  refine MetFree.of_bodySF (plainFor_of_name own_pn421) hisR ?_
  intro p e s m args below meth c s₁ Bd hml0 hP hK
  obtain ⟨rfl, hZ, hh⟩ := hP
  have hx := Bd.exec
  have hby := Bd.bytes
  have hml : c.maxLocals = 4 := hml0
  have hown : s.vm.findClass "jdk/internal/util/ArraysSupport" = some m.cls := findClass_of_methodNamed Bd.named
  have hnm := (name_of_methodNamed Bd.named Bd.method).1
  have X0 : Stand p l e ({ frames := 1, cells := 0, slots := 0, locals := 15 } : Room) s m #[(.int x), (.int g), (.int y)] below meth c s₁ [] 0 0 := Stand.of_body Bd
  have e0 : s₁.heap = h0 := by rw [← hh, Bd.state]; rfl
  have N0 := Fr.nil n0
  have K0 : Keep h0 h0 [] := Keep.refl _ _
  show GoOn p e below (s₁.setTop (entryFrame m #[(.int x), (.int g), (.int y)] 4)) (PostN s (QSame (.int (x + y)) h0 n0) ({ frames := 1, cells := 0, slots := 0, locals := 15 } : Room).cells ({ frames := 1, cells := 0, slots := 0, locals := 15 } : Room).slots)
  refine GoOn.step (fun tq kq => castTop (own_ef420 m x g y) kq) ?_
  refine GoOn.step (fun tq kq => XS.iloadN X0.here hx rfl (hb hby own_d422) rfl kq) ?_
  refine GoOn.step (fun tq kq => XS.iloadN X0.here hx rfl (hb hby own_d423) rfl kq) ?_
  refine GoOn.step (fun tq kq => XS.iloadN X0.here hx rfl (hb hby own_d424) rfl kq) ?_
  show GoOn p e below (s₁.setTop (mkF m 3 #[.val (.int x), .val (.int g), .val (.int y), .unset] [(.int y), (.int g), (.int x)])) _
  obtain ⟨_, _, ⟨T660, L660, k660, n660⟩, -, X660, ⟨Lc660, hQ660, l660, y660, z660⟩, st660⟩ := Jvm.LawKit.callS X0 hx (y := (⟨"java/lang/Math", "max", "(II)I"⟩ : MethodName)) hown (mvT hZ (hw _ (List.mem_of_getElem? (i := 301) rfl))) (mvT hZ (hw _ (List.mem_of_getElem? (i := 302) rfl))) (mvT hZ (hw _ (List.mem_of_getElem? (i := 160) rfl))) (mvT hZ (hw _ (List.mem_of_getElem? (i := 303) rfl))) (by decide) (backOf (W := 1) (rmMax l Z a0 hw g y h0 n0 Z0 hgy) hZ (hw _ (List.mem_of_getElem? (i := 303) rfl)) (hw _ (List.mem_of_getElem? (i := 160) rfl)) (by decide) (by decide)) (g := (mkF m 3 #[.val (.int x), .val (.int g), .val (.int y), .unset] [(.int y), (.int g), (.int x)])) rfl (by rw [hml]; rfl) (argsL := [(.int g), (.int y)]) (rest := [(.int x)]) (lenOf own_pd315 rfl) rfl (by show 2 * 0 + _ ≤ _; exact Nat.le_of_eq rfl) (hb hby own_d425) (fun _ _ => ⟨rfl, e0, (by decide : 0 + 0 ≤ _), (by decide : 0 + 0 ≤ _)⟩)
  dsimp only [Pt.U, Pt.locs, Pt.cells, Pt.slots] at X660 l660 y660 z660 st660 hQ660
  subst l660 y660 z660
  obtain ⟨rfl, N660, e660⟩ := hQ660
  refine GoOn.step st660 ?_
  have N661 := Fr.app N0 N660
  refine GoOn.step (fun tq kq => XS.iadd X660.here hx rfl (hb hby own_d426) rfl kq) ?_
  refine GoOn.step (fun tq kq => XS.istoreN X660.here hx rfl (hb hby own_d427) rfl (l' := #[.val (.int x), .val (.int g), .val (.int y), .val (.int (x + y))]) rfl kq) ?_
  refine GoOn.step (fun tq kq => XS.iconst X660.here hx rfl (hb hby own_d428) kq) ?_
  refine GoOn.step (fun tq kq => XS.iloadN X660.here hx rfl (hb hby own_d429) rfl kq) ?_
  refine GoOn.step (fun tq kq => XS.icmpNo X660.here hx rfl (hb hby own_d430) rfl (tlt h1).2.1 kq) ?_
  refine GoOn.step (fun tq kq => XS.iloadN X660.here hx rfl (hb hby own_d431) rfl kq) ?_
  refine GoOn.step (fun tq kq => X660.ldcInt hx hown (mvT hZ (hw _ (List.mem_of_getElem? (i := 304) rfl))) (g := (mkF m 14 #[.val (.int x), .val (.int g), .val (.int y), .val (.int (x + y))] [(.int (x + y))])) rfl (hb hby own_d432) _ kq) ?_
  refine GoOn.step (fun tq kq => XS.icmpNo X660.here hx rfl (hb hby own_d433) rfl (flt h2).2.2.1 kq) ?_
  refine GoOn.step (fun tq kq => XS.iloadN X660.here hx rfl (hb hby own_d434) rfl kq) ?_
  show GoOn p e below (T660.setTop (mkF m 20 #[.val (.int x), .val (.int g), .val (.int y), .val (.int (x + y))] [(.int (x + y))])) _
  refine GoOn.ret X660 Bd.notSynchronized (v := some (.int (x + y))) (fun h => by rw [Bd.returns] at h; cases h) (fun fs hr => retI X660 hx Bd.returns (hb hby own_d435) hr) (by decide) (by decide) ?_
  rw [e660]
  exact ⟨rfl, N661, rfl⟩
set_option maxRecDepth 65536 in
set_option maxHeartbeats 40000000 in
theorem rmNC (l : Launch) (Z : State) (a0 : Array Value) (hw : ∀ d ∈ tables_1, d.before a0 Z = true) (b t : Addr) (kb : ClassId) (k : Nat) (cs : List Int32) (h0 : Heap) (n0 : Nat) (Z0 : n0 ≤ h0.size) (F0c : Fld Z h0 b "java/lang/AbstractStringBuilder" "coder" "B" (.int 0)) (F0v : Fld Z h0 b "java/lang/AbstractStringBuilder" "value" "[B" (.ref t)) (V0 : Arv Z h0 t kb .byte (Int32.ofNat 16) (own_sb 16 cs) (.int 0)) (hk : 16 < k) (hk2 : k ≤ 18) :
    MetFree l (⟨"java/lang/AbstractStringBuilder", "newCapacity", "(I)I"⟩ : MethodName) (head1 [Jvm.Cond.code (⟨"java/lang/AbstractStringBuilder", "newCapacity", "(I)I"⟩ : MethodName) jdk_68_method_10_code 6 (some .int)] ({ frames := 2, cells := 0, slots := 0, locals := 31 } : Room)) (fun aa U => aa = #[(.ref b), (.int (Int32.ofNat k))] ∧ Z.Warmed39 U.vm ∧ U.heap = h0) (fun _ _ _ _ _ => True) (fun _ U o U' => ∃ v L, o = .returned v ∧ QSame (.int (Int32.ofNat 34)) h0 n0 v U'.heap L ∧ FrameEnd U o U' L ({ frames := 2, cells := 0, slots := 0, locals := 31 } : Room).cells ({ frames := 2, cells := 0, slots := 0, locals := 31 } : Room).slots) := by
  refine MetFree.of_bodySF (plainFor_of_name own_pn151) hisR ?_
  intro p e s m args below meth c s₁ Bd hml0 hP hK
  obtain ⟨rfl, hZ, hh⟩ := hP
  have hx := Bd.exec
  have hby := Bd.bytes
  have hml : c.maxLocals = 6 := hml0
  have hown : s.vm.findClass "java/lang/AbstractStringBuilder" = some m.cls := findClass_of_methodNamed Bd.named
  have hnm := (name_of_methodNamed Bd.named Bd.method).1
  have X0 : Stand p l e ({ frames := 2, cells := 0, slots := 0, locals := 31 } : Room) s m #[(.ref b), (.int (Int32.ofNat k))] below meth c s₁ [] 0 0 := Stand.of_body Bd
  have e0 : s₁.heap = h0 := by rw [← hh, Bd.state]; rfl
  have N0 := Fr.nil n0
  have K0 : Keep h0 h0 [] := Keep.refl _ _
  show GoOn p e below (s₁.setTop (entryFrame m #[(.ref b), (.int (Int32.ofNat k))] 6)) (PostN s (QSame (.int (Int32.ofNat 34)) h0 n0) ({ frames := 2, cells := 0, slots := 0, locals := 31 } : Room).cells ({ frames := 2, cells := 0, slots := 0, locals := 31 } : Room).slots)
  refine GoOn.step (fun tq kq => castTop (own_ef436 m b (Int32.ofNat k)) kq) ?_
  refine GoOn.step (fun tq kq => XS.aloadN X0.here hx rfl (hb hby own_d437) rfl rfl kq) ?_
  show GoOn p e below (s₁.setTop (mkF m 1 #[.val (.ref b), .val (.int (Int32.ofNat k)), .unset, .unset, .unset, .unset] [(.ref b)])) _
  obtain ⟨T662, X662, e662, st662⟩ := getF X0 hx hZ hown (host := "") (Or.inl (hw _ (List.mem_of_getElem? (i := 46) rfl))) Via.refl e0 F0v (g := (mkF m 1 #[.val (.ref b), .val (.int (Int32.ofNat k)), .unset, .unset, .unset, .unset] [(.ref b)])) rfl rfl (hb hby own_d438)
  refine GoOn.step st662 ?_
  refine GoOn.step (fun tq kq => alenA X662 hx hZ e662 V0 (g := (mkF m 4 #[.val (.ref b), .val (.int (Int32.ofNat k)), .unset, .unset, .unset, .unset] [(.ref t)])) rfl rfl (hb hby own_d439) _ kq) ?_
  refine GoOn.step (fun tq kq => XS.istoreN X662.here hx rfl (hb hby own_d440) rfl (l' := #[.val (.ref b), .val (.int (Int32.ofNat k)), .val (.int (Int32.ofNat 16)), .unset, .unset, .unset]) rfl kq) ?_
  refine GoOn.step (fun tq kq => XS.iloadN X662.here hx rfl (hb hby own_d441) rfl kq) ?_
  refine GoOn.step (fun tq kq => XS.aloadN X662.here hx rfl (hb hby own_d442) rfl rfl kq) ?_
  show GoOn p e below (T662.setTop (mkF m 8 #[.val (.ref b), .val (.int (Int32.ofNat k)), .val (.int (Int32.ofNat 16)), .unset, .unset, .unset] [(.ref b), (.int (Int32.ofNat k))])) _
  obtain ⟨T663, X663, e663, st663⟩ := getF X662 hx hZ hown (host := "") (Or.inl (hw _ (List.mem_of_getElem? (i := 48) rfl))) Via.refl e662 F0c (g := (mkF m 8 #[.val (.ref b), .val (.int (Int32.ofNat k)), .val (.int (Int32.ofNat 16)), .unset, .unset, .unset] [(.ref b), (.int (Int32.ofNat k))])) rfl rfl (hb hby own_d443)
  refine GoOn.step st663 ?_
  refine GoOn.step (fun tq kq => XS.ishl X663.here hx rfl (hb hby own_d444) rfl kq) ?_
  show GoOn p e below (T663.setTop (mkF m 12 #[.val (.ref b), .val (.int (Int32.ofNat k)), .val (.int (Int32.ofNat 16)), .unset, .unset, .unset] [(.int ((Int32.ofNat k) <<< (0 &&& 31)))])) _
  rw [own_shl0]
  refine GoOn.step (fun tq kq => XS.istoreN X663.here hx rfl (hb hby own_d445) rfl (l' := #[.val (.ref b), .val (.int (Int32.ofNat k)), .val (.int (Int32.ofNat 16)), .val (.int (Int32.ofNat k)), .unset, .unset]) rfl kq) ?_
  refine GoOn.step (fun tq kq => XS.iloadN X663.here hx rfl (hb hby own_d446) rfl kq) ?_
  refine GoOn.step (fun tq kq => XS.iloadN X663.here hx rfl (hb hby own_d447) rfl kq) ?_
  refine GoOn.step (fun tq kq => XS.isub X663.here hx rfl (hb hby own_d448) rfl kq) ?_
  refine GoOn.step (fun tq kq => XS.istore X663.here hx rfl (hb hby own_d449) rfl (l' := #[.val (.ref b), .val (.int (Int32.ofNat k)), .val (.int (Int32.ofNat 16)), .val (.int (Int32.ofNat k)), .val (.int ((Int32.ofNat k) - (Int32.ofNat 16))), .unset]) rfl kq) ?_
  refine GoOn.step (fun tq kq => XS.iloadN X663.here hx rfl (hb hby own_d450) rfl kq) ?_
  refine GoOn.step (fun tq kq => XS.iload X663.here hx rfl (hb hby own_d451) rfl kq) ?_
  refine GoOn.step (fun tq kq => XS.iloadN X663.here hx rfl (hb hby own_d452) rfl kq) ?_
  refine GoOn.step (fun tq kq => XS.iconst X663.here hx rfl (hb hby own_d453) kq) ?_
  refine GoOn.step (fun tq kq => XS.aloadN X663.here hx rfl (hb hby own_d454) rfl rfl kq) ?_
  show GoOn p e below (T663.setTop (mkF m 24 #[.val (.ref b), .val (.int (Int32.ofNat k)), .val (.int (Int32.ofNat 16)), .val (.int (Int32.ofNat k)), .val (.int ((Int32.ofNat k) - (Int32.ofNat 16))), .unset] [(.ref b), (.int (2 : Int32)), (.int (Int32.ofNat 16)), (.int ((Int32.ofNat k) - (Int32.ofNat 16))), (.int (Int32.ofNat 16))])) _
  obtain ⟨T664, X664, e664, st664⟩ := getF X663 hx hZ hown (host := "") (Or.inl (hw _ (List.mem_of_getElem? (i := 48) rfl))) Via.refl e663 F0c (g := (mkF m 24 #[.val (.ref b), .val (.int (Int32.ofNat k)), .val (.int (Int32.ofNat 16)), .val (.int (Int32.ofNat k)), .val (.int ((Int32.ofNat k) - (Int32.ofNat 16))), .unset] [(.ref b), (.int (2 : Int32)), (.int (Int32.ofNat 16)), (.int ((Int32.ofNat k) - (Int32.ofNat 16))), (.int (Int32.ofNat 16))])) rfl rfl (hb hby own_d455)
  refine GoOn.step st664 ?_
  refine GoOn.step (fun tq kq => XS.ishl X664.here hx rfl (hb hby own_d456) rfl kq) ?_
  show GoOn p e below (T664.setTop (mkF m 28 #[.val (.ref b), .val (.int (Int32.ofNat k)), .val (.int (Int32.ofNat 16)), .val (.int (Int32.ofNat k)), .val (.int ((Int32.ofNat k) - (Int32.ofNat 16))), .unset] [(.int ((2 : Int32) <<< (0 &&& 31))), (.int (Int32.ofNat 16)), (.int ((Int32.ofNat k) - (Int32.ofNat 16))), (.int (Int32.ofNat 16))])) _
  rw [own_shl2]
  refine GoOn.step (fun tq kq => XS.iadd X664.here hx rfl (hb hby own_d457) rfl kq) ?_
  show GoOn p e below (T664.setTop (mkF m 29 #[.val (.ref b), .val (.int (Int32.ofNat k)), .val (.int (Int32.ofNat 16)), .val (.int (Int32.ofNat k)), .val (.int ((Int32.ofNat k) - (Int32.ofNat 16))), .unset] [(.int ((Int32.ofNat 16) + (2 : Int32))), (.int ((Int32.ofNat k) - (Int32.ofNat 16))), (.int (Int32.ofNat 16))])) _
  obtain ⟨_, _, ⟨T665, L665, k665, n665⟩, -, X665, ⟨Lc665, hQ665, l665, y665, z665⟩, st665⟩ := Jvm.LawKit.callS X664 hx (y := (⟨"jdk/internal/util/ArraysSupport", "newLength", "(III)I"⟩ : MethodName)) hown (mvT hZ (hw _ (List.mem_of_getElem? (i := 297) rfl))) (mvT hZ (hw _ (List.mem_of_getElem? (i := 298) rfl))) (mvT hZ (hw _ (List.mem_of_getElem? (i := 299) rfl))) (mvT hZ (hw _ (List.mem_of_getElem? (i := 300) rfl))) (by decide) (backOf (W := 0) (rmNL l Z a0 hw (Int32.ofNat 16) (Int32.ofNat k - Int32.ofNat 16) (Int32.ofNat 16 + (2 : Int32)) h0 n0 Z0 (own_g18 hk hk2) (by decide) (by decide)) hZ (hw _ (List.mem_of_getElem? (i := 300) rfl)) (hw _ (List.mem_of_getElem? (i := 299) rfl)) (by decide) (by decide)) (g := (mkF m 29 #[.val (.ref b), .val (.int (Int32.ofNat k)), .val (.int (Int32.ofNat 16)), .val (.int (Int32.ofNat k)), .val (.int ((Int32.ofNat k) - (Int32.ofNat 16))), .unset] [(.int ((Int32.ofNat 16) + (2 : Int32))), (.int ((Int32.ofNat k) - (Int32.ofNat 16))), (.int (Int32.ofNat 16))])) rfl (by rw [hml]; rfl) (argsL := [(.int (Int32.ofNat 16)), (.int ((Int32.ofNat k) - (Int32.ofNat 16))), (.int ((Int32.ofNat 16) + (2 : Int32)))]) (rest := []) (lenOf own_pd459 rfl) rfl (by show 2 * 0 + _ ≤ _; exact Nat.le_of_eq rfl) (hb hby own_d458) (fun _ _ => ⟨rfl, e664, (by decide : 0 + 0 ≤ _), (by decide : 0 + 0 ≤ _)⟩)
  dsimp only [Pt.U, Pt.locs, Pt.cells, Pt.slots] at X665 l665 y665 z665 st665 hQ665
  subst l665 y665 z665
  obtain ⟨rfl, N665, e665⟩ := hQ665
  refine GoOn.step st665 ?_
  have N666 := Fr.app N0 N665
  refine GoOn.step (fun tq kq => XS.istore X665.here hx rfl (hb hby own_d460) rfl (l' := #[.val (.ref b), .val (.int (Int32.ofNat k)), .val (.int (Int32.ofNat 16)), .val (.int (Int32.ofNat k)), .val (.int ((Int32.ofNat k) - (Int32.ofNat 16))), .val (.int (Int32.ofNat 16 + (Int32.ofNat 16 + (2 : Int32))))]) rfl kq) ?_
  refine GoOn.step (fun tq kq => XS.iload X665.here hx rfl (hb hby own_d461) rfl kq) ?_
  refine GoOn.step (fun tq kq => X665.ldcInt hx hown (mvT hZ (hw _ (List.mem_of_getElem? (i := 305) rfl))) (g := (mkF m 36 #[.val (.ref b), .val (.int (Int32.ofNat k)), .val (.int (Int32.ofNat 16)), .val (.int (Int32.ofNat k)), .val (.int ((Int32.ofNat k) - (Int32.ofNat 16))), .val (.int (Int32.ofNat 16 + (Int32.ofNat 16 + (2 : Int32))))] [(.int (Int32.ofNat 16 + (Int32.ofNat 16 + (2 : Int32))))])) rfl (hb hby own_d462) _ kq) ?_
  refine GoOn.step (fun tq kq => XS.icmpYes X665.here hx rfl (pc0 := 38) (pc' := 51) rfl (hb hby own_d463) rfl (feq (by decide)).2 (by decide) (by decide) kq) ?_
  refine GoOn.step (fun tq kq => XS.iload X665.here hx rfl (hb hby own_d464) rfl kq) ?_
  refine GoOn.step (fun tq kq => XS.aloadN X665.here hx rfl (hb hby own_d465) rfl rfl kq) ?_
  show GoOn p e below (T665.setTop (mkF m 54 #[.val (.ref b), .val (.int (Int32.ofNat k)), .val (.int (Int32.ofNat 16)), .val (.int (Int32.ofNat k)), .val (.int ((Int32.ofNat k) - (Int32.ofNat 16))), .val (.int (Int32.ofNat 16 + (Int32.ofNat 16 + (2 : Int32))))] [(.ref b), (.int (Int32.ofNat 16 + (Int32.ofNat 16 + (2 : Int32))))])) _
  obtain ⟨T667, X667, e667, st667⟩ := getF X665 hx hZ hown (host := "") (Or.inl (hw _ (List.mem_of_getElem? (i := 48) rfl))) Via.refl e665 F0c (g := (mkF m 54 #[.val (.ref b), .val (.int (Int32.ofNat k)), .val (.int (Int32.ofNat 16)), .val (.int (Int32.ofNat k)), .val (.int ((Int32.ofNat k) - (Int32.ofNat 16))), .val (.int (Int32.ofNat 16 + (Int32.ofNat 16 + (2 : Int32))))] [(.ref b), (.int (Int32.ofNat 16 + (Int32.ofNat 16 + (2 : Int32))))])) rfl rfl (hb hby own_d466)
  refine GoOn.step st667 ?_
  refine GoOn.step (fun tq kq => XS.ishr X667.here hx rfl (hb hby own_d467) rfl kq) ?_
  show GoOn p e below (T667.setTop (mkF m 58 #[.val (.ref b), .val (.int (Int32.ofNat k)), .val (.int (Int32.ofNat 16)), .val (.int (Int32.ofNat k)), .val (.int ((Int32.ofNat k) - (Int32.ofNat 16))), .val (.int (Int32.ofNat 16 + (Int32.ofNat 16 + (2 : Int32))))] [(.int ((Int32.ofNat 16 + (Int32.ofNat 16 + (2 : Int32))) >>> (0 &&& 31)))])) _
  rw [own_shr0]
  show GoOn p e below (T667.setTop (mkF m 58 #[.val (.ref b), .val (.int (Int32.ofNat k)), .val (.int (Int32.ofNat 16)), .val (.int (Int32.ofNat k)), .val (.int ((Int32.ofNat k) - (Int32.ofNat 16))), .val (.int (Int32.ofNat 16 + (Int32.ofNat 16 + (2 : Int32))))] [(.int (Int32.ofNat 16 + (Int32.ofNat 16 + (2 : Int32))))])) _
  refine GoOn.ret X667 Bd.notSynchronized (v := some (.int (Int32.ofNat 16 + (Int32.ofNat 16 + (2 : Int32))))) (fun h => by rw [Bd.returns] at h; cases h) (fun fs hr => retI X667 hx Bd.returns (hb hby own_d468) hr) (by decide) (by decide) ?_
  rw [e667]
  exact ⟨rfl, N666, rfl⟩
def QGrow (Z : State) (cs : List Int32) (h0 : Heap) (n0 : Nat) (v : Option Value) (h : Heap) (L : List Loc) : Prop := ∃ (u : Addr) (ku : ClassId), v = some (.ref u) ∧ Fr n0 L ∧ Keep h0 h [] ∧ h0.size ≤ u ∧ Arv Z h u ku .byte (Int32.ofNat 34) (own_sb 34 cs) (.int 0) ∧ Exa Z h u "[B"
set_option maxRecDepth 65536 in
set_option maxHeartbeats 40000000 in
theorem rmCO (l : Launch) (Z : State) (a0 : Array Value) (hw : ∀ d ∈ tables_1, d.before a0 Z = true) (t : Addr) (kb : ClassId) (cs : List Int32) (h0 : Heap) (n0 : Nat) (Z0 : n0 ≤ h0.size) (V0 : Arv Z h0 t kb .byte (Int32.ofNat 16) (own_sb 16 cs) (.int 0)) (hcs : cs.length ≤ 16) :
    MetFree l (⟨"java/util/Arrays", "copyOf", "([BI)[B"⟩ : MethodName) (head1 [Jvm.Cond.code (⟨"java/util/Arrays", "copyOf", "([BI)[B"⟩ : MethodName) jdk_65_method_121_code 3 (some (.array .byte))] ({ frames := 1, cells := 1, slots := 34, locals := 22 } : Room)) (fun aa U => aa = #[(.ref t), (.int (Int32.ofNat 34))] ∧ Z.Warmed39 U.vm ∧ U.heap = h0) (fun _ _ _ _ _ => True) (fun _ U o U' => ∃ v L, o = .returned v ∧ QGrow Z cs h0 n0 v U'.heap L ∧ FrameEnd U o U' L ({ frames := 1, cells := 1, slots := 34, locals := 22 } : Room).cells ({ frames := 1, cells := 1, slots := 34, locals := 22 } : Room).slots) := by
  refine MetFree.of_bodySF (plainFor_of_name own_pn288) hisR ?_
  intro p e s m args below meth c s₁ Bd hml0 hP hK
  obtain ⟨rfl, hZ, hh⟩ := hP
  have hx := Bd.exec
  have hby := Bd.bytes
  have hml : c.maxLocals = 3 := hml0
  have hown : s.vm.findClass "java/util/Arrays" = some m.cls := findClass_of_methodNamed Bd.named
  have hnm := (name_of_methodNamed Bd.named Bd.method).1
  have X0 : Stand p l e ({ frames := 1, cells := 1, slots := 34, locals := 22 } : Room) s m #[(.ref t), (.int (Int32.ofNat 34))] below meth c s₁ [] 0 0 := Stand.of_body Bd
  have e0 : s₁.heap = h0 := by rw [← hh, Bd.state]; rfl
  have N0 := Fr.nil n0
  have K0 : Keep h0 h0 [] := Keep.refl _ _
  show GoOn p e below (s₁.setTop (entryFrame m #[(.ref t), (.int (Int32.ofNat 34))] 3)) (PostN s (QGrow Z cs h0 n0) ({ frames := 1, cells := 1, slots := 34, locals := 22 } : Room).cells ({ frames := 1, cells := 1, slots := 34, locals := 22 } : Room).slots)
  refine GoOn.step (fun tq kq => castTop (own_ef469 m t (Int32.ofNat 34)) kq) ?_
  refine GoOn.step (fun tq kq => XS.iloadN X0.here hx rfl (hb hby own_d470) rfl kq) ?_
  refine GoOn.step (fun tq kq => XS.aloadN X0.here hx rfl (hb hby own_d471) rfl rfl kq) ?_
  refine GoOn.step (fun tq kq => alenA X0 hx hZ e0 V0 (g := (mkF m 2 #[.val (.ref t), .val (.int (Int32.ofNat 34)), .unset] [(.ref t), (.int (Int32.ofNat 34))])) rfl rfl (hb hby own_d472) _ kq) ?_
  refine GoOn.step (fun tq kq => XS.icmpYes X0.here hx rfl (pc0 := 3) (pc' := 14) rfl (hb hby own_d473) rfl (feq (by decide)).2 (by decide) (by decide) kq) ?_
  refine GoOn.step (fun tq kq => XS.iloadN X0.here hx rfl (hb hby own_d474) rfl kq) ?_
  show GoOn p e below (s₁.setTop (mkF m 15 #[.val (.ref t), .val (.int (Int32.ofNat 34)), .unset] [(.int (Int32.ofNat 34))])) _
  obtain ⟨T668, h668, k668, X668, e668, Ex668, A668, Eb668, st668⟩ := newPE X0 hx hZ (hw _ (List.mem_of_getElem? (i := 19) rfl)) e0 (g := (mkF m 15 #[.val (.ref t), .val (.int (Int32.ofNat 34)), .unset] [(.int (Int32.ofNat 34))])) rfl (hb hby own_d475) rfl (by decide) (cap := 34) (by decide) (by decide) (by decide) (by decide) (ad := "[B") (by decide)
  obtain ⟨u, g668⟩ : ∃ z, z = h0.size := ⟨_, rfl⟩
  rw [← g668] at A668 Eb668 st668
  have ne669 : t ≠ u := Nat.ne_of_lt (Nat.lt_of_lt_of_le V0.lt (Nat.le_of_eq g668.symm))
  have gn670 : n0 ≤ u := Nat.le_trans Z0 (Nat.le_of_eq g668.symm)
  have sz671 : h0.size ≤ u := Nat.le_trans K0.1 (Nat.le_of_eq g668.symm)
  have Kx668 : Keep h0 h668 [] := (Keep.refl _ _).ext Ex668
  refine GoOn.step st668 ?_
  have V672 : Arv Z h668 t kb .byte (Int32.ofNat 16) (own_sb 16 cs) (.int 0) := V0.keep Kx668 nin0
  have Z673 : n0 ≤ h668.size := Nat.le_trans Z0 Kx668.1
  have K674 : Keep h0 h668 [] := K0.trans Kx668 (all0)
  have V675 : Arv Z h668 u k668 .byte (Int32.ofNat 34) [] (.int (0 : Int32)) := Arv.new A668 (by decide)
  show GoOn p e below (T668.setTop (mkF m 17 #[.val (.ref t), .val (.int (Int32.ofNat 34)), .unset] [(.ref u)])) _
  have V676 : Arv Z h668 u k668 .byte (Int32.ofNat 34) ([] ++ List.replicate 34 (Value.int 0)) (.int (0 : Int32)) := V675.pad (pad_rep [] (.int (0 : Int32)) 34)
  refine GoOn.step (fun tq kq => XS.astoreN X668.here hx rfl (hb hby own_d476) rfl rfl (l' := #[.val (.ref t), .val (.int (Int32.ofNat 34)), .val (.ref u)]) rfl kq) ?_
  refine GoOn.step (fun tq kq => XS.aloadN X668.here hx rfl (hb hby own_d477) rfl rfl kq) ?_
  refine GoOn.step (fun tq kq => XS.iconst X668.here hx rfl (hb hby own_d478) kq) ?_
  refine GoOn.step (fun tq kq => XS.aloadN X668.here hx rfl (hb hby own_d479) rfl rfl kq) ?_
  refine GoOn.step (fun tq kq => XS.iconst X668.here hx rfl (hb hby own_d480) kq) ?_
  refine GoOn.step (fun tq kq => XS.aloadN X668.here hx rfl (hb hby own_d481) rfl rfl kq) ?_
  refine GoOn.step (fun tq kq => alenA X668 hx hZ e668 V672 (g := (mkF m 23 #[.val (.ref t), .val (.int (Int32.ofNat 34)), .val (.ref u)] [(.ref t), (.int (0 : Int32)), (.ref u), (.int (0 : Int32)), (.ref t)])) rfl rfl (hb hby own_d482) _ kq) ?_
  refine GoOn.step (fun tq kq => XS.iloadN X668.here hx rfl (hb hby own_d483) rfl kq) ?_
  show GoOn p e below (T668.setTop (mkF m 25 #[.val (.ref t), .val (.int (Int32.ofNat 34)), .val (.ref u)] [(.int (Int32.ofNat 34)), (.int (Int32.ofNat 16)), (.int (0 : Int32)), (.ref u), (.int (0 : Int32)), (.ref t)])) _
  obtain ⟨_, _, ⟨T677, L677, k677, n677⟩, -, X677, ⟨Lc677, hQ677, l677, y677, z677⟩, st677⟩ := Jvm.LawKit.callS X668 hx (y := (⟨"java/lang/Math", "min", "(II)I"⟩ : MethodName)) hown (mvT hZ (hw _ (List.mem_of_getElem? (i := 158) rfl))) (mvT hZ (hw _ (List.mem_of_getElem? (i := 159) rfl))) (mvT hZ (hw _ (List.mem_of_getElem? (i := 160) rfl))) (mvT hZ (hw _ (List.mem_of_getElem? (i := 161) rfl))) (by decide) (backOf (W := 4) (rmMinL l Z a0 hw (Int32.ofNat 16) (Int32.ofNat 34) h668 n0 Z673 (by decide)) hZ (hw _ (List.mem_of_getElem? (i := 161) rfl)) (hw _ (List.mem_of_getElem? (i := 160) rfl)) (by decide) (by decide)) (g := (mkF m 25 #[.val (.ref t), .val (.int (Int32.ofNat 34)), .val (.ref u)] [(.int (Int32.ofNat 34)), (.int (Int32.ofNat 16)), (.int (0 : Int32)), (.ref u), (.int (0 : Int32)), (.ref t)])) rfl (by rw [hml]; rfl) (argsL := [(.int (Int32.ofNat 16)), (.int (Int32.ofNat 34))]) (rest := [(.int (0 : Int32)), (.ref u), (.int (0 : Int32)), (.ref t)]) (lenOf own_pd315 rfl) rfl (by show 2 * 0 + _ ≤ _; exact Nat.le_of_eq rfl) (hb hby own_d484) (fun _ _ => ⟨rfl, e668, (by decide : 1 + 0 ≤ _), (by decide : 34 + 0 ≤ _)⟩)
  dsimp only [Pt.U, Pt.locs, Pt.cells, Pt.slots] at X677 l677 y677 z677 st677 hQ677
  subst l677 y677 z677
  obtain ⟨rfl, N677, e677⟩ := hQ677
  refine GoOn.step st677 ?_
  have N678 := Fr.app N0 N677
  show GoOn p e below (T677.setTop (mkF m 28 #[.val (.ref t), .val (.int (Int32.ofNat 34)), .val (.ref u)] [(.int (Int32.ofNat 16)), (.int (0 : Int32)), (.ref u), (.int (0 : Int32)), (.ref t)])) _
  obtain ⟨T679, h679, L679, X679, e679, N679, K679, Vc679, st679⟩ := cpA X677 hx hZ hown (hw _ (List.mem_of_getElem? (i := 162) rfl)) (hw _ (List.mem_of_getElem? (i := 97) rfl)) (hw _ (List.mem_of_getElem? (i := 95) rfl)) (hw _ (List.mem_of_getElem? (i := 96) rfl)) e677 V672 V676 (Or.inl ⟨rfl, rfl⟩) (by decide) (by decide) (by decide) (by decide) (by decide) rfl (by rw [own_z0, own_ns (by decide)]; simp) N678 gn670 (g := (mkF m 28 #[.val (.ref t), .val (.int (Int32.ofNat 34)), .val (.ref u)] [(.int (Int32.ofNat 16)), (.int (0 : Int32)), (.ref u), (.int (0 : Int32)), (.ref t)])) rfl (by rw [hml]; rfl) rfl (hb hby own_d485) (by decide) (W := 0) (by show 2 * 0 + _ ≤ _; exact Nat.le_of_eq rfl) (by decide)
  have V680 : Arv Z h679 u k668 .byte (Int32.ofNat 34) (own_sb 34 cs) (.int (0 : Int32)) := by rw [← own_grow hcs]; exact Vc679
  refine GoOn.step st679 ?_
  have V681 : Arv Z h679 t kb .byte (Int32.ofNat 16) (own_sb 16 cs) (.int 0) := V672.keep K679 (ninS ne669 nin0)
  have Z682 : n0 ≤ h679.size := Nat.le_trans Z673 K679.1
  have K683 : Keep h0 h679 [] := K674.trans K679 ((allS (Or.inr sz671) all0))
  have Eb684 : Exa Z h679 u "[B" := Eb668.keep K679
  refine GoOn.step (fun tq kq => XS.aloadN X679.here hx rfl (hb hby own_d486) rfl rfl kq) ?_
  show GoOn p e below (T679.setTop (mkF m 32 #[.val (.ref t), .val (.int (Int32.ofNat 34)), .val (.ref u)] [(.ref u)])) _
  refine GoOn.ret X679 Bd.notSynchronized (v := some (.ref u)) (fun h => by rw [Bd.returns] at h; cases h) (fun fs hr => retOut X679 hx Bd.returns rfl (Or.inr (Or.inr (Or.inr (Or.inr ⟨rfl, rfl, rfl⟩)))) (hb hby own_d487) hr) (by decide) (by decide) ?_
  rw [e679]
  exact ⟨u, _, rfl, N679, K683, sz671, V680, Eb684⟩
def QEnsG (Z : State) (b : Addr) (r : Option Value) (es fs : List Int32) (h0 : Heap) (n0 : Nat) (v : Option Value) (h : Heap) (L : List Loc) : Prop := ∃ (u : Addr) (ku : ClassId), v = r ∧ Fr n0 L ∧ Keep h0 h [b] ∧ h0.size ≤ u ∧ Exa Z h b "java/lang/StringBuilder" ∧ Fld Z h b "java/lang/AbstractStringBuilder" "coder" "B" (.int 0) ∧ Fld Z h b "java/lang/AbstractStringBuilder" "count" "I" (.int (Int32.ofNat es.length)) ∧ Fld Z h b "java/lang/AbstractStringBuilder" "value" "[B" (.ref u) ∧ Arv Z h u ku .byte (Int32.ofNat 34) (own_sb 34 fs) (.int 0) ∧ Exa Z h u "[B"
set_option maxRecDepth 65536 in
set_option maxHeartbeats 40000000 in
theorem rmEnsG (l : Launch) (Z : State) (a0 : Array Value) (hw : ∀ d ∈ tables_1, d.before a0 Z = true) (b t : Addr) (kb : ClassId) (k : Nat) (cs : List Int32) (h0 : Heap) (n0 : Nat) (Z0 : n0 ≤ h0.size) (E0 : Exa Z h0 b "java/lang/StringBuilder") (F0c : Fld Z h0 b "java/lang/AbstractStringBuilder" "coder" "B" (.int 0)) (F0n : Fld Z h0 b "java/lang/AbstractStringBuilder" "count" "I" (.int (Int32.ofNat cs.length))) (F0v : Fld Z h0 b "java/lang/AbstractStringBuilder" "value" "[B" (.ref t)) (V0 : Arv Z h0 t kb .byte (Int32.ofNat 16) (own_sb 16 cs) (.int 0)) (gb : n0 ≤ b) (hcs : cs.length ≤ 16) (hk : 16 < k) (hk2 : k ≤ 18) (O0 : Old Z n0 h0) :
    MetFree l (⟨"java/lang/AbstractStringBuilder", "ensureCapacityInternal", "(I)V"⟩ : MethodName) (head1 [Jvm.Cond.code (⟨"java/lang/AbstractStringBuilder", "ensureCapacityInternal", "(I)V"⟩ : MethodName) jdk_68_method_9_code 3 none] ({ frames := 3, cells := 1, slots := 34, locals := 52 } : Room)) (fun aa U => aa = #[(.ref b), (.int (Int32.ofNat k))] ∧ Z.Warmed39 U.vm ∧ U.heap = h0) (fun _ _ _ _ _ => True) (fun _ U o U' => ∃ v L, o = .returned v ∧ QEnsG Z b none cs cs h0 n0 v U'.heap L ∧ FrameEnd U o U' L ({ frames := 3, cells := 1, slots := 34, locals := 52 } : Room).cells ({ frames := 3, cells := 1, slots := 34, locals := 52 } : Room).slots) := by
  refine MetFree.of_bodySF (plainFor_of_name own_pn151) hisR ?_
  intro p e s m args below meth c s₁ Bd hml0 hP hK
  obtain ⟨rfl, hZ, hh⟩ := hP
  have hx := Bd.exec
  have hby := Bd.bytes
  have hml : c.maxLocals = 3 := hml0
  have hown : s.vm.findClass "java/lang/AbstractStringBuilder" = some m.cls := findClass_of_methodNamed Bd.named
  have hnm := (name_of_methodNamed Bd.named Bd.method).1
  have X0 : Stand p l e ({ frames := 3, cells := 1, slots := 34, locals := 52 } : Room) s m #[(.ref b), (.int (Int32.ofNat k))] below meth c s₁ [] 0 0 := Stand.of_body Bd
  have e0 : s₁.heap = h0 := by rw [← hh, Bd.state]; rfl
  have N0 := Fr.nil n0
  have K0 : Keep h0 h0 [] := Keep.refl _ _
  show GoOn p e below (s₁.setTop (entryFrame m #[(.ref b), (.int (Int32.ofNat k))] 3)) (PostN s (QEnsG Z b none cs cs h0 n0) ({ frames := 3, cells := 1, slots := 34, locals := 52 } : Room).cells ({ frames := 3, cells := 1, slots := 34, locals := 52 } : Room).slots)
  refine GoOn.step (fun tq kq => castTop (own_ef150 m b (Int32.ofNat k)) kq) ?_
  show GoOn p e below (s₁.setTop (mkF m 0 #[.val (.ref b), .val (.int (Int32.ofNat k)), .unset] [])) _
  have K0b : Keep h0 h0 [b] := Keep.refl _ _
  have nbt : b ≠ t := Exa.neArv E0 V0 (hw _ (List.mem_of_getElem? (i := 33) rfl))
  refine GoOn.step (fun tq kq => XS.aloadN X0.here hx rfl (hb hby own_d152) rfl rfl kq) ?_
  show GoOn p e below (s₁.setTop (mkF m 1 #[.val (.ref b), .val (.int (Int32.ofNat k)), .unset] [(.ref b)])) _
  obtain ⟨T685, X685, e685, st685⟩ := getF X0 hx hZ hown (host := "") (Or.inl (hw _ (List.mem_of_getElem? (i := 46) rfl))) Via.refl e0 F0v (g := (mkF m 1 #[.val (.ref b), .val (.int (Int32.ofNat k)), .unset] [(.ref b)])) rfl rfl (hb hby own_d153)
  refine GoOn.step st685 ?_
  refine GoOn.step (fun tq kq => alenA X685 hx hZ e685 V0 (g := (mkF m 4 #[.val (.ref b), .val (.int (Int32.ofNat k)), .unset] [(.ref t)])) rfl rfl (hb hby own_d154) _ kq) ?_
  refine GoOn.step (fun tq kq => XS.aloadN X685.here hx rfl (hb hby own_d155) rfl rfl kq) ?_
  show GoOn p e below (T685.setTop (mkF m 6 #[.val (.ref b), .val (.int (Int32.ofNat k)), .unset] [(.ref b), (.int (Int32.ofNat 16))])) _
  obtain ⟨T686, X686, e686, st686⟩ := getF X685 hx hZ hown (host := "") (Or.inl (hw _ (List.mem_of_getElem? (i := 48) rfl))) Via.refl e685 F0c (g := (mkF m 6 #[.val (.ref b), .val (.int (Int32.ofNat k)), .unset] [(.ref b), (.int (Int32.ofNat 16))])) rfl rfl (hb hby own_d156)
  refine GoOn.step st686 ?_
  refine GoOn.step (fun tq kq => XS.ishr X686.here hx rfl (hb hby own_d157) rfl kq) ?_
  refine GoOn.step (fun tq kq => XS.istoreN X686.here hx rfl (hb hby own_d158) rfl (l' := #[.val (.ref b), .val (.int (Int32.ofNat k)), .val (.int ((Int32.ofNat 16) >>> (0 &&& 31)))]) rfl kq) ?_
  refine GoOn.step (fun tq kq => XS.iloadN X686.here hx rfl (hb hby own_d159) rfl kq) ?_
  refine GoOn.step (fun tq kq => XS.iloadN X686.here hx rfl (hb hby own_d160) rfl kq) ?_
  refine GoOn.step (fun tq kq => XS.isub X686.here hx rfl (hb hby own_d161) rfl kq) ?_
  show GoOn p e below (T686.setTop (mkF m 14 #[.val (.ref b), .val (.int (Int32.ofNat k)), .val (.int ((Int32.ofNat 16) >>> (0 &&& 31)))] [(.int ((Int32.ofNat k) - ((Int32.ofNat 16) >>> (0 &&& 31))))])) _
  rw [own_shr0]
  refine GoOn.step (fun tq kq => XS.ifNo X686.here hx rfl (hb hby own_d162) rfl ((if0 _ _).trans (tlt (own_gt32 hk (by omega))).2.2.2) kq) ?_
  refine GoOn.step (fun tq kq => XS.aloadN X686.here hx rfl (hb hby own_d488) rfl rfl kq) ?_
  refine GoOn.step (fun tq kq => XS.aloadN X686.here hx rfl (hb hby own_d489) rfl rfl kq) ?_
  show GoOn p e below (T686.setTop (mkF m 19 #[.val (.ref b), .val (.int (Int32.ofNat k)), .val (.int (Int32.ofNat 16))] [(.ref b), (.ref b)])) _
  obtain ⟨T687, X687, e687, st687⟩ := getF X686 hx hZ hown (host := "") (Or.inl (hw _ (List.mem_of_getElem? (i := 46) rfl))) Via.refl e686 F0v (g := (mkF m 19 #[.val (.ref b), .val (.int (Int32.ofNat k)), .val (.int (Int32.ofNat 16))] [(.ref b), (.ref b)])) rfl rfl (hb hby own_d490)
  refine GoOn.step st687 ?_
  refine GoOn.step (fun tq kq => XS.aloadN X687.here hx rfl (hb hby own_d491) rfl rfl kq) ?_
  refine GoOn.step (fun tq kq => XS.iloadN X687.here hx rfl (hb hby own_d492) rfl kq) ?_
  show GoOn p e below (T687.setTop (mkF m 24 #[.val (.ref b), .val (.int (Int32.ofNat k)), .val (.int (Int32.ofNat 16))] [(.int (Int32.ofNat k)), (.ref b), (.ref t), (.ref b)])) _
  obtain ⟨cqc689, kqc689, qac689, qbc689, qcc689⟩ := isOf hZ e687 E0
  obtain ⟨_, _, ⟨T688, L688, k688, n688⟩, -, X688, ⟨Lc688, hQ688, l688, y688, z688⟩, st688⟩ := X687.virtualBack hx (y := (⟨"java/lang/AbstractStringBuilder", "newCapacity", "(I)I"⟩ : MethodName)) (z := (⟨"java/lang/AbstractStringBuilder", "newCapacity", "(I)I"⟩ : MethodName)) hown (mvT hZ (hw _ (List.mem_of_getElem? (i := 292) rfl))) (own_decl (args := _) (mvT hZ (hw _ (List.mem_of_getElem? (i := 293) rfl))) (mvT hZ (hw _ (List.mem_of_getElem? (i := 296) rfl)))) (notFace_of_selects (args := #[]) (mvT hZ (hw _ (List.mem_of_getElem? (i := 295) rfl)))) (mvT hZ (hw _ (List.mem_of_getElem? (i := 295) rfl))) (mvT hZ (hw _ (List.mem_of_getElem? (i := 293) rfl))) (by decide) (backOf (W := 2) (rmNC l Z a0 hw b t kb k cs h0 n0 Z0 F0c F0v V0 hk hk2) hZ (hw _ (List.mem_of_getElem? (i := 296) rfl)) (hw _ (List.mem_of_getElem? (i := 42) rfl)) (by decide) (by decide)) qac689 qcc689 (g := (mkF m 24 #[.val (.ref b), .val (.int (Int32.ofNat k)), .val (.int (Int32.ofNat 16))] [(.int (Int32.ofNat k)), (.ref b), (.ref t), (.ref b)])) rfl (by rw [hml]; rfl) (Steps.refl _) (argsL := [(.int (Int32.ofNat k))]) (rest := [(.ref t), (.ref b)]) (lenOf own_pd382 rfl) rfl (by show 2 * 0 + _ ≤ _; exact Nat.le_of_eq rfl) (hb hby own_d493) (fun _ _ => ⟨rfl, e687, (by decide : 0 + 0 ≤ _), (by decide : 0 + 0 ≤ _)⟩)
  dsimp only [Pt.U, Pt.locs, Pt.cells, Pt.slots] at X688 l688 y688 z688 st688 hQ688
  subst l688 y688 z688
  obtain ⟨rfl, N688, e688⟩ := hQ688
  refine GoOn.trans st688 ?_
  have N690 := Fr.app N0 N688
  refine GoOn.step (fun tq kq => XS.aloadN X688.here hx rfl (hb hby own_d494) rfl rfl kq) ?_
  show GoOn p e below (T688.setTop (mkF m 28 #[.val (.ref b), .val (.int (Int32.ofNat k)), .val (.int (Int32.ofNat 16))] [(.ref b), (.int (Int32.ofNat 34)), (.ref t), (.ref b)])) _
  obtain ⟨T691, X691, e691, st691⟩ := getF X688 hx hZ hown (host := "") (Or.inl (hw _ (List.mem_of_getElem? (i := 48) rfl))) Via.refl e688 F0c (g := (mkF m 28 #[.val (.ref b), .val (.int (Int32.ofNat k)), .val (.int (Int32.ofNat 16))] [(.ref b), (.int (Int32.ofNat 34)), (.ref t), (.ref b)])) rfl rfl (hb hby own_d495)
  refine GoOn.step st691 ?_
  refine GoOn.step (fun tq kq => XS.ishl X691.here hx rfl (hb hby own_d496) rfl kq) ?_
  show GoOn p e below (T691.setTop (mkF m 32 #[.val (.ref b), .val (.int (Int32.ofNat k)), .val (.int (Int32.ofNat 16))] [(.int ((Int32.ofNat 34) <<< (0 &&& 31))), (.ref t), (.ref b)])) _
  rw [own_shl0]
  show GoOn p e below (T691.setTop (mkF m 32 #[.val (.ref b), .val (.int (Int32.ofNat k)), .val (.int (Int32.ofNat 16))] [(.int (Int32.ofNat 34)), (.ref t), (.ref b)])) _
  obtain ⟨_, _, ⟨T692, L692, k692, n692⟩, -, X692, ⟨Lc692, hQ692, l692, y692, z692⟩, st692⟩ := Jvm.LawKit.callS X691 hx (y := (⟨"java/util/Arrays", "copyOf", "([BI)[B"⟩ : MethodName)) hown (mvT hZ (hw _ (List.mem_of_getElem? (i := 306) rfl))) (mvT hZ (hw _ (List.mem_of_getElem? (i := 307) rfl))) (mvT hZ (hw _ (List.mem_of_getElem? (i := 150) rfl))) (mvT hZ (hw _ (List.mem_of_getElem? (i := 308) rfl))) (by decide) (backOf (W := 1) (rmCO l Z a0 hw t kb cs h0 n0 Z0 V0 hcs) hZ (hw _ (List.mem_of_getElem? (i := 308) rfl)) (hw _ (List.mem_of_getElem? (i := 150) rfl)) (by decide) (by decide)) (g := (mkF m 32 #[.val (.ref b), .val (.int (Int32.ofNat k)), .val (.int (Int32.ofNat 16))] [(.int (Int32.ofNat 34)), (.ref t), (.ref b)])) rfl (by rw [hml]; rfl) (argsL := [(.ref t), (.int (Int32.ofNat 34))]) (rest := [(.ref b)]) (lenOf own_pd497 rfl) rfl (by show 2 * 0 + _ ≤ _; exact Nat.le_of_eq rfl) (hb hby own_d498) (fun _ _ => ⟨rfl, e691, (by decide : 0 + 1 ≤ _), (by decide : 0 + 34 ≤ _)⟩)
  dsimp only [Pt.U, Pt.locs, Pt.cells, Pt.slots] at X692 l692 y692 z692 st692 hQ692
  subst l692 y692 z692
  obtain ⟨u692, ku692, rfl, N692, K692, ge692, V692, Eb692⟩ := hQ692
  refine GoOn.step st692 ?_
  have N693 := Fr.app N690 N692
  have ne694 : b ≠ u692 := Nat.ne_of_lt (Nat.lt_of_lt_of_le E0.lt ge692)
  have ne695 : t ≠ u692 := Nat.ne_of_lt (Nat.lt_of_lt_of_le V0.lt ge692)
  have gn696 : n0 ≤ u692 := Nat.le_trans Z0 ge692
  have sz697 : h0.size ≤ u692 := Nat.le_trans K0b.1 ge692
  have E698 : Exa Z T692.heap b "java/lang/StringBuilder" := E0.keep K692
  have F699 : Fld Z T692.heap b "java/lang/AbstractStringBuilder" "coder" "B" (.int 0) := F0c.keep K692 nin0
  have F700 : Fld Z T692.heap b "java/lang/AbstractStringBuilder" "count" "I" (.int (Int32.ofNat cs.length)) := F0n.keep K692 nin0
  have F701 : Fld Z T692.heap b "java/lang/AbstractStringBuilder" "value" "[B" (.ref t) := F0v.keep K692 nin0
  have V702 : Arv Z T692.heap t kb .byte (Int32.ofNat 16) (own_sb 16 cs) (.int 0) := V0.keep K692 nin0
  have O703 : Old Z n0 T692.heap := O0.keep K692 all0
  have Z704 : n0 ≤ T692.heap.size := Nat.le_trans Z0 K692.1
  have K705 : Keep h0 T692.heap [b] := K0b.trans K692 (all0)
  show GoOn p e below (T692.setTop (mkF m 35 #[.val (.ref b), .val (.int (Int32.ofNat k)), .val (.int (Int32.ofNat 16))] [(.ref u692), (.ref b)])) _
  have nbu : b ≠ u692 := Nat.ne_of_lt (Nat.lt_of_lt_of_le E0.lt ge692)
  obtain ⟨T706, h706, X706, e706, W706, st706⟩ := putF X692 hx hZ hown (host := "") (Or.inl (hw _ (List.mem_of_getElem? (i := 46) rfl))) Via.refl rfl F701 E698 (Or.inl (hw _ (List.mem_of_getElem? (i := 47) rfl))) (hw _ (List.mem_of_getElem? (i := 33) rfl)) (ty := (.array .byte)) (by decide) rfl rfl (g := (mkF m 35 #[.val (.ref b), .val (.int (Int32.ofNat k)), .val (.int (Int32.ofNat 16))] [(.ref u692), (.ref b)])) rfl rfl (hb hby own_d499)
  have N707 := Fr.snoc X706 N693 gb
  have Kx706 : Keep T692.heap h706 [b] := Keep.of_wr W706
  have F708 : Fld Z h706 b "java/lang/AbstractStringBuilder" "value" "[B" (.ref u692) := F701.same W706
  have F709 : Fld Z h706 b "java/lang/AbstractStringBuilder" "coder" "B" (.int 0) := F699.other W706 (Or.inr (slot_ne (a0 := a0) (Or.inl (hw _ (List.mem_of_getElem? (i := 49) rfl))) (Or.inl (hw _ (List.mem_of_getElem? (i := 47) rfl))) (by decide) (t := .byte) (t' := (.array .byte)) (by decide) (by decide)))
  have F710 : Fld Z h706 b "java/lang/AbstractStringBuilder" "count" "I" (.int (Int32.ofNat cs.length)) := F700.other W706 (Or.inr (slot_ne (a0 := a0) (Or.inl (hw _ (List.mem_of_getElem? (i := 72) rfl))) (Or.inl (hw _ (List.mem_of_getElem? (i := 47) rfl))) (by decide) (t := .int) (t' := (.array .byte)) (by decide) (by decide)))
  refine GoOn.step st706 ?_
  have E711 : Exa Z h706 b "java/lang/StringBuilder" := E698.keep Kx706
  have V715 : Arv Z h706 t kb .byte (Int32.ofNat 16) (own_sb 16 cs) (.int 0) := V702.keep Kx706 (ninS (Ne.symm nbt) nin0)
  have O716 : Old Z n0 h706 := O703.keep Kx706 (allS gb all0)
  have Z717 : n0 ≤ h706.size := Nat.le_trans Z704 Kx706.1
  have K718 : Keep h0 h706 [b] := K705.trans Kx706 ((allS (Or.inl (by simp)) all0))
  have V719 : Arv Z h706 u692 ku692 .byte (Int32.ofNat 34) (own_sb 34 cs) (.int 0) := V692.keep Kx706 (ninS (Ne.symm nbu) nin0)
  have Eb720 : Exa Z h706 u692 "[B" := Eb692.keep Kx706
  show GoOn p e below (T706.setTop (mkF m 38 #[.val (.ref b), .val (.int (Int32.ofNat k)), .val (.int (Int32.ofNat 16))] [])) _
  refine GoOn.ret X706 Bd.notSynchronized (v := none) (fun _ => rfl) (fun fs hr => X706.returnOut hx Bd.returns (hb hby own_d163) hr) (by decide) (by decide) ?_
  rw [e706]
  exact ⟨u692, ku692, rfl, N707, K718, sz697, E711, F709, F710, F708, V719, Eb720⟩
set_option maxRecDepth 65536 in
set_option maxHeartbeats 40000000 in
theorem rmASAG (l : Launch) (Z : State) (a0 : Array Value) (hw : ∀ d ∈ tables_1, d.before a0 Z = true) (a b t : Addr) (kb : ClassId) (cs ds : List Int32) (G1 : Int32) (h0 : Heap) (n0 : Nat) (Z0 : n0 ≤ h0.size) (SC : Sta Z Z.heap "java/lang/String" "COMPACT_STRINGS" "Z" (.int G1)) (PC : ¬ G1 = (0 : Int32)) (E0 : Exa Z h0 b "java/lang/StringBuilder") (F0c : Fld Z h0 b "java/lang/AbstractStringBuilder" "coder" "B" (.int 0)) (F0n : Fld Z h0 b "java/lang/AbstractStringBuilder" "count" "I" (.int (Int32.ofNat cs.length))) (F0v : Fld Z h0 b "java/lang/AbstractStringBuilder" "value" "[B" (.ref t)) (V0 : Arv Z h0 t kb .byte (Int32.ofNat 16) (own_sb 16 cs) (.int 0)) (S0 : StrIs Z h0 a ds) (gb : n0 ≤ b) (hcs : cs.length ≤ 16) (hk : 16 < cs.length + ds.length) (hk2 : cs.length + ds.length ≤ 18) (O0 : Old Z n0 h0) :
    MetFree l (⟨"java/lang/AbstractStringBuilder", "append", "(Ljava/lang/String;)Ljava/lang/AbstractStringBuilder;"⟩ : MethodName) (head1 [Jvm.Cond.code (⟨"java/lang/AbstractStringBuilder", "append", "(Ljava/lang/String;)Ljava/lang/AbstractStringBuilder;"⟩ : MethodName) jdk_68_method_22_code 3 (some (.object "java/lang/AbstractStringBuilder"))] ({ frames := 4, cells := 1, slots := 34, locals := 66 } : Room)) (fun aa U => aa = #[(.ref b), (.ref a)] ∧ Z.Warmed39 U.vm ∧ U.heap = h0) (fun _ _ _ _ _ => True) (fun _ U o U' => ∃ v L, o = .returned v ∧ QEnsG Z b (some (.ref b)) (cs ++ ds) (cs ++ ds) h0 n0 v U'.heap L ∧ FrameEnd U o U' L ({ frames := 4, cells := 1, slots := 34, locals := 66 } : Room).cells ({ frames := 4, cells := 1, slots := 34, locals := 66 } : Room).slots) := by
  refine MetFree.of_bodySF (plainFor_of_name own_pn151) hisR ?_
  intro p e s m args below meth c s₁ Bd hml0 hP hK
  obtain ⟨rfl, hZ, hh⟩ := hP
  have hx := Bd.exec
  have hby := Bd.bytes
  have hml : c.maxLocals = 3 := hml0
  have hown : s.vm.findClass "java/lang/AbstractStringBuilder" = some m.cls := findClass_of_methodNamed Bd.named
  have hnm := (name_of_methodNamed Bd.named Bd.method).1
  have X0 : Stand p l e ({ frames := 4, cells := 1, slots := 34, locals := 66 } : Room) s m #[(.ref b), (.ref a)] below meth c s₁ [] 0 0 := Stand.of_body Bd
  have e0 : s₁.heap = h0 := by rw [← hh, Bd.state]; rfl
  have N0 := Fr.nil n0
  have K0 : Keep h0 h0 [] := Keep.refl _ _
  show GoOn p e below (s₁.setTop (entryFrame m #[(.ref b), (.ref a)] 3)) (PostN s (QEnsG Z b (some (.ref b)) (cs ++ ds) (cs ++ ds) h0 n0) ({ frames := 4, cells := 1, slots := 34, locals := 66 } : Room).cells ({ frames := 4, cells := 1, slots := 34, locals := 66 } : Room).slots)
  refine GoOn.step (fun tq kq => castTop (own_ef204 m b a) kq) ?_
  show GoOn p e below (s₁.setTop (mkF m 0 #[.val (.ref b), .val (.ref a), .unset] [])) _
  have K0b : Keep h0 h0 [b] := Keep.refl _ _
  have nbt : b ≠ t := Exa.neArv E0 V0 (hw _ (List.mem_of_getElem? (i := 33) rfl))
  refine GoOn.step (fun tq kq => XS.aloadN X0.here hx rfl (hb hby own_d205) rfl rfl kq) ?_
  refine GoOn.step (fun tq kq => XS.ifnonnullYes X0.here hx rfl (pc0 := 1) (pc' := 9) rfl (hb hby own_d206) rfl (by decide) (by decide) kq) ?_
  refine GoOn.step (fun tq kq => XS.aloadN X0.here hx rfl (hb hby own_d207) rfl rfl kq) ?_
  show GoOn p e below (s₁.setTop (mkF m 10 #[.val (.ref b), .val (.ref a), .unset] [(.ref a)])) _
  obtain ⟨cqc722, kqc722, qac722, qbc722, qcc722⟩ := isOf hZ e0 S0.1
  obtain ⟨_, _, ⟨T721, L721, k721, n721⟩, -, X721, ⟨Lc721, hQ721, l721, y721, z721⟩, st721⟩ := X0.virtualBack hx (y := (⟨"java/lang/String", "length", "()I"⟩ : MethodName)) (z := (⟨"java/lang/String", "length", "()I"⟩ : MethodName)) hown (mvT hZ (hw _ (List.mem_of_getElem? (i := 60) rfl))) (mvT hZ (hw _ (List.mem_of_getElem? (i := 61) rfl))) (notFace_of_selects (args := #[]) (mvT hZ (hw _ (List.mem_of_getElem? (i := 63) rfl)))) (mvT hZ (hw _ (List.mem_of_getElem? (i := 63) rfl))) (mvT hZ (hw _ (List.mem_of_getElem? (i := 62) rfl))) (by decide) (backOf (W := 0) (rmLen l Z a0 hw a ds G1 h0 n0 Z0 SC PC S0 O0) hZ (hw _ (List.mem_of_getElem? (i := 64) rfl)) (hw _ (List.mem_of_getElem? (i := 6) rfl)) (by decide) (by decide)) qac722 qcc722 (g := (mkF m 10 #[.val (.ref b), .val (.ref a), .unset] [(.ref a)])) rfl (by rw [hml]; rfl) (Steps.refl _) (argsL := []) (rest := []) (lenOf own_pd209 rfl) rfl (by show 2 * 0 + _ ≤ _; exact Nat.le_of_eq rfl) (hb hby own_d208) (fun _ _ => ⟨rfl, e0, (by decide : 0 + 0 ≤ _), (by decide : 0 + 0 ≤ _)⟩)
  dsimp only [Pt.U, Pt.locs, Pt.cells, Pt.slots] at X721 l721 y721 z721 st721 hQ721
  subst l721 y721 z721
  obtain ⟨rfl, N721, e721⟩ := hQ721
  refine GoOn.trans st721 ?_
  have N723 := Fr.app N0 N721
  show GoOn p e below (T721.setTop (mkF m 13 #[.val (.ref b), .val (.ref a), .unset] [(.int (Int32.ofNat ds.length))])) _
  have U1 := StrUp.of S0
  refine GoOn.step (fun tq kq => XS.istoreN X721.here hx rfl (hb hby own_d210) rfl (l' := #[.val (.ref b), .val (.ref a), .val (.int (Int32.ofNat ds.length))]) rfl kq) ?_
  refine GoOn.step (fun tq kq => XS.aloadN X721.here hx rfl (hb hby own_d211) rfl rfl kq) ?_
  refine GoOn.step (fun tq kq => XS.aloadN X721.here hx rfl (hb hby own_d212) rfl rfl kq) ?_
  show GoOn p e below (T721.setTop (mkF m 16 #[.val (.ref b), .val (.ref a), .val (.int (Int32.ofNat ds.length))] [(.ref b), (.ref b)])) _
  obtain ⟨T724, X724, e724, st724⟩ := getF X721 hx hZ hown (host := "") (Or.inl (hw _ (List.mem_of_getElem? (i := 71) rfl))) Via.refl e721 F0n (g := (mkF m 16 #[.val (.ref b), .val (.ref a), .val (.int (Int32.ofNat ds.length))] [(.ref b), (.ref b)])) rfl rfl (hb hby own_d213)
  refine GoOn.step st724 ?_
  refine GoOn.step (fun tq kq => XS.iloadN X724.here hx rfl (hb hby own_d214) rfl kq) ?_
  refine GoOn.step (fun tq kq => XS.iadd X724.here hx rfl (hb hby own_d215) rfl kq) ?_
  show GoOn p e below (T724.setTop (mkF m 21 #[.val (.ref b), .val (.ref a), .val (.int (Int32.ofNat ds.length))] [(.int ((Int32.ofNat cs.length) + (Int32.ofNat ds.length))), (.ref b)])) _
  rw [own_add32]
  show GoOn p e below (T724.setTop (mkF m 21 #[.val (.ref b), .val (.ref a), .val (.int (Int32.ofNat ds.length))] [(.int (Int32.ofNat (cs.length + ds.length))), (.ref b)])) _
  have hb0 : b < h0.size := E0.lt
  obtain ⟨cqc726, kqc726, qac726, qbc726, qcc726⟩ := isOf hZ e724 E0
  obtain ⟨_, _, ⟨T725, L725, k725, n725⟩, -, X725, ⟨Lc725, hQ725, l725, y725, z725⟩, st725⟩ := X724.virtualBack hx (y := (⟨"java/lang/AbstractStringBuilder", "ensureCapacityInternal", "(I)V"⟩ : MethodName)) (z := (⟨"java/lang/AbstractStringBuilder", "ensureCapacityInternal", "(I)V"⟩ : MethodName)) hown (mvT hZ (hw _ (List.mem_of_getElem? (i := 73) rfl))) (own_decl (args := _) (mvT hZ (hw _ (List.mem_of_getElem? (i := 74) rfl))) (mvT hZ (hw _ (List.mem_of_getElem? (i := 77) rfl)))) (notFace_of_selects (args := #[]) (mvT hZ (hw _ (List.mem_of_getElem? (i := 76) rfl)))) (mvT hZ (hw _ (List.mem_of_getElem? (i := 76) rfl))) (mvT hZ (hw _ (List.mem_of_getElem? (i := 74) rfl))) (by decide) (backOf (W := 0) (rmEnsG l Z a0 hw b t kb (cs.length + ds.length) cs h0 n0 Z0 E0 F0c F0n F0v V0 gb hcs hk hk2 O0) hZ (hw _ (List.mem_of_getElem? (i := 77) rfl)) (hw _ (List.mem_of_getElem? (i := 42) rfl)) (by decide) (by decide)) qac726 qcc726 (g := (mkF m 21 #[.val (.ref b), .val (.ref a), .val (.int (Int32.ofNat ds.length))] [(.int (Int32.ofNat (cs.length + ds.length))), (.ref b)])) rfl (by rw [hml]; rfl) (Steps.refl _) (argsL := [(.int (Int32.ofNat (cs.length + ds.length)))]) (rest := []) (lenOf own_pd217 rfl) rfl (by show 2 * 0 + _ ≤ _; exact Nat.le_of_eq rfl) (hb hby own_d216) (fun _ _ => ⟨rfl, e724, (by decide : 0 + 1 ≤ _), (by decide : 0 + 34 ≤ _)⟩)
  dsimp only [Pt.U, Pt.locs, Pt.cells, Pt.slots] at X725 l725 y725 z725 st725 hQ725
  subst l725 y725 z725
  obtain ⟨u725, ku725, rfl, N725, K725, ge725, E725, Fc725, Fn725, Fv725, V725, Eb725⟩ := hQ725
  refine GoOn.trans st725 ?_
  have N727 := Fr.app N723 N725
  have ne728 : b ≠ u725 := Nat.ne_of_lt (Nat.lt_of_lt_of_le E0.lt ge725)
  have ne729 : t ≠ u725 := Nat.ne_of_lt (Nat.lt_of_lt_of_le V0.lt ge725)
  have gn730 : n0 ≤ u725 := Nat.le_trans Z0 ge725
  have sz731 : h0.size ≤ u725 := Nat.le_trans K0b.1 ge725
  have E732 : Exa Z T725.heap b "java/lang/StringBuilder" := E0.keep K725
  have V736 : Arv Z T725.heap t kb .byte (Int32.ofNat 16) (own_sb 16 cs) (.int 0) := V0.keep K725 (ninS (Ne.symm nbt) nin0)
  have O737 : Old Z n0 T725.heap := O0.keep K725 (allS gb all0)
  have Z738 : n0 ≤ T725.heap.size := Nat.le_trans Z0 K725.1
  have K739 : Keep h0 T725.heap [b] := K0b.trans K725 ((allS (Or.inl (by simp)) all0))
  show GoOn p e below (T725.setTop (mkF m 24 #[.val (.ref b), .val (.ref a), .val (.int (Int32.ofNat ds.length))] [])) _
  have S2 : StrIs Z T725.heap a ds := S0.keepX K725 E0 (hw _ (List.mem_of_getElem? (i := 33) rfl)) (by decide)
  have hsv2 : ∀ sv : Addr, Fld Z T725.heap a "java/lang/String" "value" "[B" (.ref sv) → sv ≠ u725 := own_svX S0 K725 E0 (hw _ (List.mem_of_getElem? (i := 33) rfl)) ge725
  have nbu : b ≠ u725 := Nat.ne_of_lt (Nat.lt_of_lt_of_le hb0 ge725)
  refine GoOn.step (fun tq kq => XS.aloadN X725.here hx rfl (hb hby own_d218) rfl rfl kq) ?_
  refine GoOn.step (fun tq kq => XS.aloadN X725.here hx rfl (hb hby own_d219) rfl rfl kq) ?_
  show GoOn p e below (T725.setTop (mkF m 26 #[.val (.ref b), .val (.ref a), .val (.int (Int32.ofNat ds.length))] [(.ref b), (.ref b)])) _
  obtain ⟨T740, X740, e740, st740⟩ := getF X725 hx hZ hown (host := "") (Or.inl (hw _ (List.mem_of_getElem? (i := 71) rfl))) Via.refl rfl Fn725 (g := (mkF m 26 #[.val (.ref b), .val (.ref a), .val (.int (Int32.ofNat ds.length))] [(.ref b), (.ref b)])) rfl rfl (hb hby own_d220)
  refine GoOn.step st740 ?_
  refine GoOn.step (fun tq kq => XS.aloadN X740.here hx rfl (hb hby own_d221) rfl rfl kq) ?_
  show GoOn p e below (T740.setTop (mkF m 30 #[.val (.ref b), .val (.ref a), .val (.int (Int32.ofNat ds.length))] [(.ref a), (.int (Int32.ofNat cs.length)), (.ref b)])) _
  obtain ⟨cqc742, kqc742, qac742, qbc742, qcc742⟩ := isOf hZ e740 E732
  obtain ⟨_, _, ⟨T741, L741, k741, n741⟩, -, X741, ⟨Lc741, hQ741, l741, y741, z741⟩, st741⟩ := X740.virtualBack hx (y := (⟨"java/lang/AbstractStringBuilder", "putStringAt", "(ILjava/lang/String;)V"⟩ : MethodName)) (z := (⟨"java/lang/AbstractStringBuilder", "putStringAt", "(ILjava/lang/String;)V"⟩ : MethodName)) hown (mvT hZ (hw _ (List.mem_of_getElem? (i := 78) rfl))) (own_decl (args := _) (mvT hZ (hw _ (List.mem_of_getElem? (i := 79) rfl))) (mvT hZ (hw _ (List.mem_of_getElem? (i := 82) rfl)))) (notFace_of_selects (args := #[]) (mvT hZ (hw _ (List.mem_of_getElem? (i := 81) rfl)))) (mvT hZ (hw _ (List.mem_of_getElem? (i := 81) rfl))) (mvT hZ (hw _ (List.mem_of_getElem? (i := 79) rfl))) (by decide) (backOf (W := 0) (rmPut l Z a0 hw a b u725 ku725 34 cs ds G1 T725.heap n0 Z738 SC PC Fc725 Fv725 E732 V725 S2 gn730 hsv2 (by omega) (by decide) O737) hZ (hw _ (List.mem_of_getElem? (i := 82) rfl)) (hw _ (List.mem_of_getElem? (i := 42) rfl)) (by decide) (by decide)) qac742 qcc742 (g := (mkF m 30 #[.val (.ref b), .val (.ref a), .val (.int (Int32.ofNat ds.length))] [(.ref a), (.int (Int32.ofNat cs.length)), (.ref b)])) rfl (by rw [hml]; rfl) (Steps.refl _) (argsL := [(.int (Int32.ofNat cs.length)), (.ref a)]) (rest := []) (lenOf own_pd223 rfl) rfl (by show 2 * 0 + _ ≤ _; exact Nat.le_of_eq rfl) (hb hby own_d222) (fun _ _ => ⟨rfl, e740, (by decide : 1 + 0 ≤ _), (by decide : 34 + 0 ≤ _)⟩)
  dsimp only [Pt.U, Pt.locs, Pt.cells, Pt.slots] at X741 l741 y741 z741 st741 hQ741
  subst l741 y741 z741
  obtain ⟨rfl, N741, K741, V741⟩ := hQ741
  refine GoOn.trans st741 ?_
  have N743 := Fr.app N727 N741
  have E744 : Exa Z T741.heap b "java/lang/StringBuilder" := E732.keep K741
  have V745 : Arv Z T741.heap t kb .byte (Int32.ofNat 16) (own_sb 16 cs) (.int 0) := V736.keep K741 (ninS ne729 nin0)
  have O746 : Old Z n0 T741.heap := O737.keep K741 (allS gn730 all0)
  have Z747 : n0 ≤ T741.heap.size := Nat.le_trans Z738 K741.1
  have K748 : Keep h0 T741.heap [b] := K739.trans K741 ((allS (Or.inr sz731) all0))
  have F749 : Fld Z T741.heap b "java/lang/AbstractStringBuilder" "coder" "B" (.int 0) := Fc725.keep K741 (ninS nbu nin0)
  have F750 : Fld Z T741.heap b "java/lang/AbstractStringBuilder" "count" "I" (.int (Int32.ofNat cs.length)) := Fn725.keep K741 (ninS nbu nin0)
  have F751 : Fld Z T741.heap b "java/lang/AbstractStringBuilder" "value" "[B" (.ref u725) := Fv725.keep K741 (ninS nbu nin0)
  have Eb753 : Exa Z T741.heap u725 "[B" := Eb725.keep K741
  refine GoOn.step (fun tq kq => XS.aloadN X741.here hx rfl (hb hby own_d224) rfl rfl kq) ?_
  refine GoOn.step (fun tq kq => XS.dup X741.here hx rfl (hb hby own_d225) rfl rfl kq) ?_
  show GoOn p e below (T741.setTop (mkF m 35 #[.val (.ref b), .val (.ref a), .val (.int (Int32.ofNat ds.length))] [(.ref b), (.ref b)])) _
  obtain ⟨T754, X754, e754, st754⟩ := getF X741 hx hZ hown (host := "") (Or.inl (hw _ (List.mem_of_getElem? (i := 71) rfl))) Via.refl rfl F750 (g := (mkF m 35 #[.val (.ref b), .val (.ref a), .val (.int (Int32.ofNat ds.length))] [(.ref b), (.ref b)])) rfl rfl (hb hby own_d226)
  refine GoOn.step st754 ?_
  refine GoOn.step (fun tq kq => XS.iloadN X754.here hx rfl (hb hby own_d227) rfl kq) ?_
  refine GoOn.step (fun tq kq => XS.iadd X754.here hx rfl (hb hby own_d228) rfl kq) ?_
  show GoOn p e below (T754.setTop (mkF m 40 #[.val (.ref b), .val (.ref a), .val (.int (Int32.ofNat ds.length))] [(.int ((Int32.ofNat cs.length) + (Int32.ofNat ds.length))), (.ref b)])) _
  rw [own_add32]
  show GoOn p e below (T754.setTop (mkF m 40 #[.val (.ref b), .val (.ref a), .val (.int (Int32.ofNat ds.length))] [(.int (Int32.ofNat (cs.length + ds.length))), (.ref b)])) _
  obtain ⟨T755, h755, X755, e755, W755, st755⟩ := putF X754 hx hZ hown (host := "") (Or.inl (hw _ (List.mem_of_getElem? (i := 71) rfl))) Via.refl e754 F750 E744 (Or.inl (hw _ (List.mem_of_getElem? (i := 72) rfl))) (hw _ (List.mem_of_getElem? (i := 33) rfl)) (ty := .int) (by decide) rfl rfl (g := (mkF m 40 #[.val (.ref b), .val (.ref a), .val (.int (Int32.ofNat ds.length))] [(.int (Int32.ofNat (cs.length + ds.length))), (.ref b)])) rfl rfl (hb hby own_d229)
  have N756 := Fr.snoc X755 N743 gb
  have Kx755 : Keep T741.heap h755 [b] := Keep.of_wr W755
  have F757 : Fld Z h755 b "java/lang/AbstractStringBuilder" "count" "I" (.int (Int32.ofNat (cs.length + ds.length))) := F750.same W755
  have F758 : Fld Z h755 b "java/lang/AbstractStringBuilder" "coder" "B" (.int 0) := F749.other W755 (Or.inr (slot_ne (a0 := a0) (Or.inl (hw _ (List.mem_of_getElem? (i := 49) rfl))) (Or.inl (hw _ (List.mem_of_getElem? (i := 72) rfl))) (by decide) (t := .byte) (t' := .int) (by decide) (by decide)))
  have F759 : Fld Z h755 b "java/lang/AbstractStringBuilder" "value" "[B" (.ref u725) := F751.other W755 (Or.inr (slot_ne (a0 := a0) (Or.inl (hw _ (List.mem_of_getElem? (i := 47) rfl))) (Or.inl (hw _ (List.mem_of_getElem? (i := 72) rfl))) (by decide) (t := (.array .byte)) (t' := .int) (by decide) (by decide)))
  refine GoOn.step st755 ?_
  have E760 : Exa Z h755 b "java/lang/StringBuilder" := E744.keep Kx755
  have V761 : Arv Z h755 t kb .byte (Int32.ofNat 16) (own_sb 16 cs) (.int 0) := V745.keep Kx755 (ninS (Ne.symm nbt) nin0)
  have O762 : Old Z n0 h755 := O746.keep Kx755 (allS gb all0)
  have Z763 : n0 ≤ h755.size := Nat.le_trans Z747 Kx755.1
  have K764 : Keep h0 h755 [b] := K748.trans Kx755 ((allS (Or.inl (by simp)) all0))
  have Eb768 : Exa Z h755 u725 "[B" := Eb753.keep Kx755
  have V769 : Arv Z h755 u725 ku725 .byte (Int32.ofNat 34) (own_sb 34 (cs ++ ds)) (.int 0) := V741.keep Kx755 (ninS (Ne.symm nbu) nin0)
  refine GoOn.step (fun tq kq => XS.aloadN X755.here hx rfl (hb hby own_d230) rfl rfl kq) ?_
  show GoOn p e below (T755.setTop (mkF m 44 #[.val (.ref b), .val (.ref a), .val (.int (Int32.ofNat ds.length))] [(.ref b)])) _
  rw [← List.length_append] at F757
  refine GoOn.ret X755 Bd.notSynchronized (v := some (.ref b)) (fun h => by rw [Bd.returns] at h; cases h) (fun fs hr => retOut X755 hx Bd.returns rfl (Or.inr (Or.inr (Or.inr (Or.inr ⟨rfl, rfl, rfl⟩)))) (hb hby own_d231) hr) (by decide) (by decide) ?_
  rw [e755]
  exact ⟨u725, ku725, rfl, N756, K764, ge725, E760, F758, F757, F759, V769, Eb768⟩
set_option maxRecDepth 65536 in
set_option maxHeartbeats 40000000 in
theorem rmSBAG (l : Launch) (Z : State) (a0 : Array Value) (hw : ∀ d ∈ tables_1, d.before a0 Z = true) (a b t : Addr) (kb : ClassId) (cs ds : List Int32) (G1 : Int32) (h0 : Heap) (n0 : Nat) (Z0 : n0 ≤ h0.size) (SC : Sta Z Z.heap "java/lang/String" "COMPACT_STRINGS" "Z" (.int G1)) (PC : ¬ G1 = (0 : Int32)) (E0 : Exa Z h0 b "java/lang/StringBuilder") (F0c : Fld Z h0 b "java/lang/AbstractStringBuilder" "coder" "B" (.int 0)) (F0n : Fld Z h0 b "java/lang/AbstractStringBuilder" "count" "I" (.int (Int32.ofNat cs.length))) (F0v : Fld Z h0 b "java/lang/AbstractStringBuilder" "value" "[B" (.ref t)) (V0 : Arv Z h0 t kb .byte (Int32.ofNat 16) (own_sb 16 cs) (.int 0)) (S0 : StrIs Z h0 a ds) (gb : n0 ≤ b) (hcs : cs.length ≤ 16) (hk : 16 < cs.length + ds.length) (hk2 : cs.length + ds.length ≤ 18) (O0 : Old Z n0 h0) :
    MetFree l (⟨"java/lang/StringBuilder", "append", "(Ljava/lang/String;)Ljava/lang/StringBuilder;"⟩ : MethodName) (head1 [Jvm.Cond.code (⟨"java/lang/StringBuilder", "append", "(Ljava/lang/String;)Ljava/lang/StringBuilder;"⟩ : MethodName) jdk_67_method_7_code 2 (some (.object "java/lang/StringBuilder"))] ({ frames := 5, cells := 1, slots := 34, locals := 80 } : Room)) (fun aa U => aa = #[(.ref b), (.ref a)] ∧ Z.Warmed39 U.vm ∧ U.heap = h0) (fun _ _ _ _ _ => True) (fun _ U o U' => ∃ v L, o = .returned v ∧ QEnsG Z b (some (.ref b)) (cs ++ ds) (cs ++ ds) h0 n0 v U'.heap L ∧ FrameEnd U o U' L ({ frames := 5, cells := 1, slots := 34, locals := 80 } : Room).cells ({ frames := 5, cells := 1, slots := 34, locals := 80 } : Room).slots) := by
  refine MetFree.of_bodySF (plainFor_of_name own_pn233) hisR ?_
  intro p e s m args below meth c s₁ Bd hml0 hP hK
  obtain ⟨rfl, hZ, hh⟩ := hP
  have hx := Bd.exec
  have hby := Bd.bytes
  have hml : c.maxLocals = 2 := hml0
  have hown : s.vm.findClass "java/lang/StringBuilder" = some m.cls := findClass_of_methodNamed Bd.named
  have hnm := (name_of_methodNamed Bd.named Bd.method).1
  have X0 : Stand p l e ({ frames := 5, cells := 1, slots := 34, locals := 80 } : Room) s m #[(.ref b), (.ref a)] below meth c s₁ [] 0 0 := Stand.of_body Bd
  have e0 : s₁.heap = h0 := by rw [← hh, Bd.state]; rfl
  have N0 := Fr.nil n0
  have K0 : Keep h0 h0 [] := Keep.refl _ _
  show GoOn p e below (s₁.setTop (entryFrame m #[(.ref b), (.ref a)] 2)) (PostN s (QEnsG Z b (some (.ref b)) (cs ++ ds) (cs ++ ds) h0 n0) ({ frames := 5, cells := 1, slots := 34, locals := 80 } : Room).cells ({ frames := 5, cells := 1, slots := 34, locals := 80 } : Room).slots)
  refine GoOn.step (fun tq kq => castTop (own_ef232 m b a) kq) ?_
  show GoOn p e below (s₁.setTop (mkF m 0 #[.val (.ref b), .val (.ref a)] [])) _
  have K0b : Keep h0 h0 [b] := Keep.refl _ _
  have nbt : b ≠ t := Exa.neArv E0 V0 (hw _ (List.mem_of_getElem? (i := 33) rfl))
  refine GoOn.step (fun tq kq => XS.aloadN X0.here hx rfl (hb hby own_d234) rfl rfl kq) ?_
  refine GoOn.step (fun tq kq => XS.aloadN X0.here hx rfl (hb hby own_d235) rfl rfl kq) ?_
  show GoOn p e below (s₁.setTop (mkF m 2 #[.val (.ref b), .val (.ref a)] [(.ref a), (.ref b)])) _
  obtain ⟨_, _, ⟨T770, L770, k770, n770⟩, -, X770, ⟨Lc770, hQ770, l770, y770, z770⟩, st770⟩ := superBack X0 hx hZ hown (hw _ (List.mem_of_getElem? (i := 55) rfl)) (own_same (hw _ (List.mem_of_getElem? (i := 56) rfl)) ⟨(hw _ (List.mem_of_getElem? (i := 137) rfl)), rfl⟩ (by decide)) (hw _ (List.mem_of_getElem? (i := 56) rfl)) (hw _ (List.mem_of_getElem? (i := 57) rfl)) (by decide) (backOf (W := 0) (rmASAG l Z a0 hw a b t kb cs ds G1 h0 n0 Z0 SC PC E0 F0c F0n F0v V0 S0 gb hcs hk hk2 O0) hZ (hw _ (List.mem_of_getElem? (i := 59) rfl)) (hw _ (List.mem_of_getElem? (i := 42) rfl)) (by decide) (by decide)) e0 (Ins.self E0) (g := (mkF m 2 #[.val (.ref b), .val (.ref a)] [(.ref a), (.ref b)])) rfl (by rw [hml]; rfl) (hw _ (List.mem_of_getElem? (i := 59) rfl)) (argsL := [(.ref a)]) (rest := []) (lenOf own_pd237 rfl) rfl (by show 2 * 0 + _ ≤ _; exact Nat.le_of_eq rfl) (hb hby own_d236) (fun _ _ => ⟨rfl, e0, (by decide : 0 + 1 ≤ _), (by decide : 0 + 34 ≤ _)⟩)
  dsimp only [Pt.U, Pt.locs, Pt.cells, Pt.slots] at X770 l770 y770 z770 st770 hQ770
  subst l770 y770 z770
  obtain ⟨u770, ku770, rfl, N770, K770, ge770, E770, Fc770, Fn770, Fv770, V770, Eb770⟩ := hQ770
  refine GoOn.trans st770 ?_
  have N771 := Fr.app N0 N770
  have E772 : Exa Z T770.heap b "java/lang/StringBuilder" := E0.keep K770
  have V776 : Arv Z T770.heap t kb .byte (Int32.ofNat 16) (own_sb 16 cs) (.int 0) := V0.keep K770 (ninS (Ne.symm nbt) nin0)
  have O777 : Old Z n0 T770.heap := O0.keep K770 (allS gb all0)
  have Z778 : n0 ≤ T770.heap.size := Nat.le_trans Z0 K770.1
  have K779 : Keep h0 T770.heap [b] := K0b.trans K770 ((allS (Or.inl (by simp)) all0))
  refine GoOn.step (fun tq kq => XS.pop X770.here hx rfl (hb hby own_d238) rfl rfl kq) ?_
  refine GoOn.step (fun tq kq => XS.aloadN X770.here hx rfl (hb hby own_d239) rfl rfl kq) ?_
  show GoOn p e below (T770.setTop (mkF m 7 #[.val (.ref b), .val (.ref a)] [(.ref b)])) _
  refine GoOn.ret X770 Bd.notSynchronized (v := some (.ref b)) (fun h => by rw [Bd.returns] at h; cases h) (fun fs hr => retOut X770 hx Bd.returns rfl (Or.inr (Or.inr (Or.inr (Or.inr ⟨rfl, rfl, rfl⟩)))) (hb hby own_d240) hr) (by decide) (by decide) ?_
  exact ⟨u770, ku770, rfl, N771, K779, ge770, E770, Fc770, Fn770, Fv770, V770, Eb770⟩
theorem own_int64 {n : Nat} (h : n ≤ 2 ^ 33) : (Int64.ofNat n).toInt = n := Int64.toInt_ofNat_of_lt (by omega)
theorem own_lcT {a b : Nat} (h : a < b) (hb : b ≤ 2 ^ 33) : lcmpW (Int64.ofNat a) (Int64.ofNat b) < 0 := by
  rw [lw_lt, Int64.lt_iff_toInt_lt, own_int64 hb, own_int64 (show a ≤ 2 ^ 33 by omega)]
  omega
theorem own_lcF {a b : Nat} (h : b ≤ a) (ha : a ≤ 2 ^ 33) : ¬ lcmpW (Int64.ofNat a) (Int64.ofNat b) < 0 := by
  rw [lw_lt, Int64.lt_iff_toInt_lt, own_int64 ha, own_int64 (show b ≤ 2 ^ 33 by omega)]
  omega
theorem own_jx {nn ii : Nat} (h : ii < nn) (h10 : nn ≤ 10) : (Int32.ofNat nn - (1 : Int32)) - Int32.ofNat ii = Int32.ofNat (nn - 1 - ii) := by
  apply Int32.toInt_inj.mp
  have q1 := c_isub (Int32.ofNat nn) 1
  have q2 := c_isub (Int32.ofNat nn - (1 : Int32)) (Int32.ofNat ii)
  have e1 : (1 : Int32).toInt = 1 := rfl
  rw [own_int (show nn ≤ 4000 by omega), e1] at q1
  rw [own_int (show ii ≤ 4000 by omega)] at q2
  rw [own_int (show nn - 1 - ii ≤ 4000 by omega)]
  have r1 := rng32 (Int32.ofNat nn - (1 : Int32))
  have r2 := rng32 ((Int32.ofNat nn - (1 : Int32)) - Int32.ofNat ii)
  omega
theorem own_kx : ∀ k, k < 10 → ¬ Int32.ofNat k < 0 ∧ Int32.ofNat k < (10 : Int32) := by decide
theorem own_pw : ∀ k, k < 10 → ([(.long (1 : Int64)), (.long (10 : Int64)), (.long (100 : Int64)), (.long (1000 : Int64)), (.long (10000 : Int64)), (.long (100000 : Int64)), (.long (1000000 : Int64)), (.long (10000000 : Int64)), (.long (100000000 : Int64)), (.long (1000000000 : Int64))] : List Value).getD (Int32.ofNat k).toNatClampNeg (.long (0 : Int64)) = .long (Int64.ofNat (10 ^ k)) := by decide
theorem own_pw0 : ∀ k, k < 10 → Int64.ofNat (10 ^ k) ≠ 0 := by decide
theorem own_pwl : ∀ k, k < 10 → 1 ≤ 10 ^ k ∧ 10 ^ k ≤ 1000000000 := by decide
theorem own_div64 {a b : Nat} (ha : a ≤ 2 ^ 33) (hb : b ≤ 2 ^ 33) (h0 : 1 ≤ b) : Int64.ofNat a / Int64.ofNat b = Int64.ofNat (a / b) := by
  apply Int64.toInt_inj.mp
  have hq : a / b ≤ a := Nat.div_le_self a b
  rw [Int64.toInt_div_of_ne_right _ _ (fun z => by have := congrArg Int64.toInt z; rw [own_int64 hb] at this; have e : (-1 : Int64).toInt = -1 := rfl; omega), own_int64 ha, own_int64 hb, own_int64 (by omega), Int.tdiv_eq_ediv_of_nonneg (by omega)]
  rfl
theorem own_rem64 {a : Nat} (ha : a ≤ 2 ^ 33) : Int64.ofNat a - Int64.ofNat a / (10 : Int64) * (10 : Int64) = Int64.ofNat (a % 10) := by
  rw [show (10 : Int64) = Int64.ofNat 10 from rfl, own_div64 ha (by decide) (by decide), ← Int64.ofNat_mul, ← Int64.ofNat_sub _ _ (by omega)]
  congr 1
  omega
theorem own_c9 : ∀ k, k < 10 → (((48 : Int32) + ((Int64.ofNat k).toInt32)).toUInt32.toUInt16.toUInt32.toInt32) = Int32.ofNat (48 + k) := by decide
theorem own_dgt {n k : Nat} (hn : n ≤ 2 ^ 31) (hk : k < 10) : (((48 : Int32) + (((Int64.ofNat n / Int64.ofNat (10 ^ k)) - (Int64.ofNat n / Int64.ofNat (10 ^ k)) / (10 : Int64) * (10 : Int64)).toInt32)).toUInt32.toUInt16.toUInt32.toInt32) = Int32.ofNat (48 + n / 10 ^ k % 10) := by
  have p := own_pwl k hk
  have hq : n / 10 ^ k ≤ n := Nat.div_le_self _ _
  rw [own_div64 (show n ≤ 2 ^ 33 by omega) (show 10 ^ k ≤ 2 ^ 33 by omega) p.1, own_rem64 (by omega)]
  exact own_c9 _ (Nat.mod_lt _ (by decide))
theorem own_b128 : ∀ k, k < 128 → (-128 : Int32) ≤ Int32.ofNat k ∧ Int32.ofNat k ≤ (127 : Int32) := by decide
theorem own_byt {a : Array Value} {s : State} {q rhs : Term} {F : Nat → Nat} (w2 : (Jvm.Cond.eq (.length q) (.int 100)).before a s = true) (w3 : (Jvm.Cond.all q (.eq (.elem q (.index 0)) rhs)).before a s = true) (hr : ∀ r, r < 100 → rhs.eval a s none [r] s = some (.int (Int32.ofNat (F r)))) (hF : ∀ r, r < 100 → F r < 128) : (Jvm.Free.SBG.bytesC q).before a s = true := by
  have hl := Cond.eq_int w2 rfl
  obtain ⟨d, D, hev, hat, hlen⟩ := Term.length_spec hl
  have h31 := Jvm.Free.SBG.length_lt hev hat hl
  have hsz : D.slots.size = 100 := by
    have e := congrArg Int32.toInt (Value.int.inj hlen)
    rw [len_toInt h31] at e
    have e1 : (100 : Int32).toInt = 100 := rfl
    omega
  refine Cond.before_iff.mpr (Cond.all_intro hev hat fun k hk => ?_)
  rw [hsz] at hk
  have h := Cond.all_elim hev hat (Cond.before_iff.mp w3) k (by rw [hsz]; exact hk)
  have he : (Term.elem q (.index 0)).eval a s none [k] s = some (.int (Int32.ofNat (F k))) := Cond.eq_int (by simp only [Cond.holds, h]; rfl) (hr k hk)
  obtain ⟨b1, b2⟩ := own_b128 _ (hF k hk)
  have l1 := Cond.le_ints (a := .int (-128)) (x := -128) (Term.int_eval _) he
  have l2 := Cond.le_ints (b := .int 127) (y := 127) he (Term.int_eval _)
  rw [decide_eq_true b1] at l1
  rw [decide_eq_true b2] at l2
  simp only [Cond.value] at l1 l2 ⊢
  rw [l1, l2]
theorem own_isle (x : Int32) (n : Nat) : (own_is x n).length ≤ 11 := by
  rw [own_isl]
  have h := (Jvm.Free.SBG.digits_pos n).2
  have h2 : Jvm.Free.SBG.GetChars.sgn x ≤ 1 := by unfold Jvm.Free.SBG.GetChars.sgn; split <;> omega
  omega
theorem own_pap {a b : List Int32} (h1 : ∀ c ∈ a, ¬ c < 0 ∧ ¬ (255 : Int32) < c) (h2 : ∀ c ∈ b, ¬ c < 0 ∧ ¬ (255 : Int32) < c) : ∀ c ∈ a ++ b, ¬ c < 0 ∧ ¬ (255 : Int32) < c := fun c hc => (List.mem_append.mp hc).elim (h1 c) (h2 c)
theorem own_pnil : ∀ c ∈ ([] : List Int32), ¬ c < 0 ∧ ¬ (255 : Int32) < c := fun c hc => by cases hc
theorem own_abs (x : Int32) : x.toInt.natAbs ≤ 2 ^ 31 ∧ (if x < 0 then x else -x) = Jvm.Free.SBG.negI x.toInt.natAbs ∧ (x < 0 → -(x.toInt64) = Int64.ofNat x.toInt.natAbs) ∧ (¬ x < 0 → x.toInt64 = Int64.ofNat x.toInt.natAbs) := by
  have r := rng32 x
  have hN : x.toInt.natAbs ≤ 2 ^ 31 := by omega
  have e0 : (0 : Int32).toInt = 0 := rfl
  refine ⟨hN, ?_, fun h => ?_, fun h => ?_⟩
  · apply Int32.toInt_inj.mp
    rw [Jvm.Free.SBG.negI_toInt hN]
    by_cases h : x < 0
    · rw [if_pos h]
      rw [Int32.lt_iff_toInt_lt, e0] at h
      omega
    · rw [if_neg h]
      rw [Int32.lt_iff_toInt_lt, e0] at h
      rw [Int32.toInt_neg]
      rw [Int.bmod_eq_of_le (by omega) (by omega)]
      omega
  · rw [Int32.lt_iff_toInt_lt, e0] at h
    apply Int64.toInt_inj.mp
    rw [own_int64 (show x.toInt.natAbs ≤ 2 ^ 33 by omega), Int64.toInt_neg, Int32.toInt_toInt64, Int.bmod_eq_of_le (by omega) (by omega)]
    omega
  · rw [Int32.lt_iff_toInt_lt, e0] at h
    apply Int64.toInt_inj.mp
    rw [own_int64 (show x.toInt.natAbs ≤ 2 ^ 33 by omega), Int32.toInt_toInt64]
    omega
theorem own_sg (x : Int32) : lcmpW x.toInt64 (0 : Int64) < 0 ↔ x < 0 := by
  rw [lw_lt, Int64.lt_iff_toInt_lt, Int32.lt_iff_toInt_lt, Int32.toInt_toInt64]
  rfl
theorem own_add1 (a : Nat) : Int32.ofNat a + (1 : Int32) = Int32.ofNat (a + 1) := own_add32 a 1
theorem own_add2 (a : Nat) : Int32.ofNat a + (2 : Int32) = Int32.ofNat (a + 2) := own_add32 a 2
theorem own_add3 (a : Nat) : Int32.ofNat a + (3 : Int32) = Int32.ofNat (a + 3) := own_add32 a 3
theorem own_lensG (a b d z : Nat) : ((((Int32.ofNat a + (1 : Int32)) + Int32.ofNat z) + Int32.ofNat b) + (2 : Int32)) + Int32.ofNat d = Int32.ofNat (a + 1 + z + b + 2 + d) := by
  rw [own_add1, own_add32, own_add32, own_add2, own_add32]
theorem own_sgn1 {x : Int32} (h : Jvm.Free.SBG.GetChars.sgn x = 1) : x < 0 := Decidable.byContradiction fun q => by simp [Jvm.Free.SBG.GetChars.sgn, q] at h
theorem own_lens1 (a b d : Nat) : ((((Int32.ofNat a + (1 : Int32)) + (1 : Int32)) + Int32.ofNat b) + (2 : Int32)) + Int32.ofNat d = Int32.ofNat (a + 1 + 1 + b + 2 + d) := by
  rw [own_add1, own_add1, own_add32, own_add2, own_add32]
theorem own_lens0 (a b d : Nat) : ((((Int32.ofNat a + (1 : Int32)) + (0 : Int32)) + Int32.ofNat b) + (2 : Int32)) + Int32.ofNat d = Int32.ofNat (a + 1 + 0 + b + 2 + d) := by
  rw [own_add1, show (0 : Int32) = Int32.ofNat 0 from rfl, own_add32, own_add32, own_add2, own_add32]
theorem own_nat3 (y : Int32) : ∃ k, ((y &&& (3 : Int32)) % (3 : Int32)) = Int32.ofNat k ∧ k ≤ 2 := by
  have q1 := (c_and y 3 (by decide)).1
  have q2 := (c_irem (y &&& (3 : Int32)) 3 3 rfl).1 q1
  refine ⟨((y &&& (3 : Int32)) % (3 : Int32)).toInt.toNat, ?_, by omega⟩
  apply Int32.toInt_inj.mp
  rw [own_int (show ((y &&& (3 : Int32)) % (3 : Int32)).toInt.toNat ≤ 4000 by omega)]
  omega
theorem own_mkn {k : Nat} (h : k ≤ 2) (a b : Int32) : (if (Int32.ofNat k) = 0 then ([] : List Int32) else if (Int32.ofNat k) = 1 then [a] else [a, b]).length = k ∧ (0 < k → (if (Int32.ofNat k) = 0 then ([] : List Int32) else if (Int32.ofNat k) = 1 then [a] else [a, b]).getD 0 0 = a) ∧ (1 < k → (if (Int32.ofNat k) = 0 then ([] : List Int32) else if (Int32.ofNat k) = 1 then [a] else [a, b]).getD 1 0 = b) := by
  obtain rfl | rfl | rfl : k = 0 ∨ k = 1 ∨ k = 2 := by omega
  · exact ⟨rfl, fun h => by omega, fun h => by omega⟩
  · exact ⟨rfl, fun _ => rfl, fun h => by omega⟩
  · exact ⟨rfl, fun _ => rfl, fun _ => rfl⟩
theorem own_es {x : Int32} {N FL PL SG : Nat} {Fs Ps es : List Int32} (he : es = ((((([] ++ Fs) ++ ([58] : List Int32)) ++ own_is x N) ++ ([58, 32] : List Int32)) ++ Ps)) (h1 : Fs.length = FL) (h2 : Ps.length = PL) (hs : Jvm.Free.SBG.GetChars.sgn x = SG) :
    es.length = FL + 1 + SG + Jvm.Free.SBG.digits N + 2 + PL ∧ (∀ i, i < FL → es.getD i 0 = Fs.getD i 0) ∧ es.getD FL 0 = 58 ∧ (x < 0 → es.getD (FL + 1) 0 = 45) ∧ (∀ i, i < Jvm.Free.SBG.digits N → es.getD (FL + 1 + SG + i) 0 = Int32.ofNat (48 + N / 10 ^ (Jvm.Free.SBG.digits N - 1 - i) % 10)) ∧
    es.getD (FL + 1 + SG + Jvm.Free.SBG.digits N) 0 = 58 ∧ es.getD (FL + 1 + SG + Jvm.Free.SBG.digits N + 1) 0 = 32 ∧ ∀ i, i < PL → es.getD (FL + 1 + SG + Jvm.Free.SBG.digits N + 2 + i) 0 = Ps.getD i 0 := by
  have hI := own_isl x N
  rw [hs] at hI
  subst he
  simp only [List.nil_append]
  have L1 : (Fs ++ ([58] : List Int32)).length = FL + 1 := by simp [h1]
  have L2 : ((Fs ++ ([58] : List Int32)) ++ own_is x N).length = FL + 1 + SG + Jvm.Free.SBG.digits N := by rw [List.length_append, L1, hI]; omega
  have L3 : (((Fs ++ ([58] : List Int32)) ++ own_is x N) ++ ([58, 32] : List Int32)).length = FL + 1 + SG + Jvm.Free.SBG.digits N + 2 := by rw [List.length_append, L2]; rfl
  refine ⟨by rw [List.length_append, L3, h2], fun i hi => ?_, ?_, fun hx => ?_, fun i hi => ?_, ?_, ?_, fun i hi => ?_⟩
  · rw [own_gl (by omega), own_gl (by omega), own_gl (by omega), own_gl (by omega)]
  · rw [own_gl (by omega), own_gl (by omega), own_gl (by omega), own_gr (k := 0) (by omega)]; rfl
  · have e : SG = 1 := by rw [← hs]; simp [Jvm.Free.SBG.GetChars.sgn, hx]
    rw [own_gl (by omega), own_gl (by omega), own_gr (k := 0) (by omega), own_is, if_pos hx]; rfl
  · rw [own_gl (by omega), own_gl (by omega), own_gr (k := SG + i) (by omega), own_is]
    by_cases hx : x < 0
    · have e : SG = 1 := by rw [← hs]; simp [Jvm.Free.SBG.GetChars.sgn, hx]
      rw [if_pos hx, own_gr (k := i) (by rw [e]; simp), own_dlat hi]
    · have e : SG = 0 := by rw [← hs]; simp [Jvm.Free.SBG.GetChars.sgn, hx]
      rw [if_neg hx, List.nil_append, e, Nat.zero_add, own_dlat hi]
  · rw [own_gl (by omega), own_gr (k := 0) (by omega)]; rfl
  · rw [own_gl (by omega), own_gr (k := 1) (by omega)]; rfl
  · rw [own_gr (k := i) (by omega)]
set_option maxRecDepth 65536 in
set_option maxHeartbeats 40000000 in
theorem rmDigs (l : Launch) (Z : State) (a0 : Array Value) (hw : ∀ d ∈ tables_1, d.before a0 Z = true) (n : Nat) (h0 : Heap) (n0 : Nat) (Z0 : n0 ≤ h0.size) (hn : n ≤ 2 ^ 31) :
    MetFree l (⟨"com/example/faktorwerk/faktorwerk/model/InputRefusedExceptionAtLinePinLaw", "digits", "(J)I"⟩ : MethodName) (head1 [Jvm.Cond.code (⟨"com/example/faktorwerk/faktorwerk/model/InputRefusedExceptionAtLinePinLaw", "digits", "(J)I"⟩ : MethodName) method_4_code 2 (some .int)] ({ frames := 0, cells := 0, slots := 0, locals := 0 } : Room)) (fun aa U => aa = #[(.long (Int64.ofNat n))] ∧ Z.Warmed39 U.vm ∧ U.heap = h0) (fun _ _ _ _ _ => True) (fun _ U o U' => ∃ v L, o = .returned v ∧ QSame (.int (Int32.ofNat (Jvm.Free.SBG.digits n))) h0 n0 v U'.heap L ∧ FrameEnd U o U' L ({ frames := 0, cells := 0, slots := 0, locals := 0 } : Room).cells ({ frames := 0, cells := 0, slots := 0, locals := 0 } : Room).slots) := by
  refine MetFree.of_bodySF (plainFor_of_name own_pn103) hisR ?_
  intro p e s m args below meth c s₁ Bd hml0 hP hK
  obtain ⟨rfl, hZ, hh⟩ := hP
  have hx := Bd.exec
  have hby := Bd.bytes
  have hml : c.maxLocals = 2 := hml0
  have hown : s.vm.findClass "com/example/faktorwerk/faktorwerk/model/InputRefusedExceptionAtLinePinLaw" = some m.cls := findClass_of_methodNamed Bd.named
  have hnm := (name_of_methodNamed Bd.named Bd.method).1
  have X0 : Stand p l e ({ frames := 0, cells := 0, slots := 0, locals := 0 } : Room) s m #[(.long (Int64.ofNat n))] below meth c s₁ [] 0 0 := Stand.of_body Bd
  have e0 : s₁.heap = h0 := by rw [← hh, Bd.state]; rfl
  have N0 := Fr.nil n0
  have K0 : Keep h0 h0 [] := Keep.refl _ _
  show GoOn p e below (s₁.setTop (entryFrame m #[(.long (Int64.ofNat n))] 2)) (PostN s (QSame (.int (Int32.ofNat (Jvm.Free.SBG.digits n))) h0 n0) ({ frames := 0, cells := 0, slots := 0, locals := 0 } : Room).cells ({ frames := 0, cells := 0, slots := 0, locals := 0 } : Room).slots)
  refine GoOn.step (fun tq kq => castTop (own_ef500 m (Int64.ofNat n)) kq) ?_
  refine GoOn.step (fun tq kq => XS.lloadN X0.here hx rfl (hb hby own_d501) rfl kq) ?_
  refine GoOn.step (fun tq kq => X0.ldc2Long hx hown (mvT hZ (hw _ (List.mem_of_getElem? (i := 223) rfl))) (g := (mkF m 1 #[.val (.long (Int64.ofNat n)), .second] [(.long (Int64.ofNat n))])) rfl (hb hby own_d502) _ kq) ?_
  refine GoOn.step (fun tq kq => XS.lcmp X0.here hx rfl (hb hby own_d503) rfl kq) ?_
  show GoOn p e below (s₁.setTop (mkF m 5 #[.val (.long (Int64.ofNat n)), .second] [(.int (lcmpW (Int64.ofNat n) (10 : Int64)))])) _
  by_cases hc780 : n < 10
  · skip
    refine GoOn.step (fun tq kq => XS.ifNo X0.here hx rfl (hb hby own_d504) rfl ((if0 _ _).trans (tlt (own_lcT hc780 (by decide))).2.1) kq) ?_
    refine GoOn.step (fun tq kq => XS.iconst X0.here hx rfl (hb hby own_d505) kq) ?_
    show GoOn p e below (s₁.setTop (mkF m 9 #[.val (.long (Int64.ofNat n)), .second] [(.int (1 : Int32))])) _
    refine GoOn.ret X0 Bd.notSynchronized (v := some (.int (1 : Int32))) (fun h => by rw [Bd.returns] at h; cases h) (fun fs hr => retI X0 hx Bd.returns (hb hby own_d506) hr) (by decide) (by decide) ?_
    rw [e0]
    exact ⟨congrArg some (congrArg Value.int (congrArg Int32.ofNat (show 1 = Jvm.Free.SBG.digits n from (by unfold Jvm.Free.SBG.digits; (repeat' split) <;> omega)))), N0, rfl⟩
  · skip
    refine GoOn.step (fun tq kq => XS.ifYes X0.here hx rfl (pc0 := 5) (pc' := 10) rfl (hb hby own_d504) rfl ((if0 _ _).trans (flt (own_lcF (Nat.le_of_not_lt hc780) (by omega))).2.1) (by decide) (by decide) kq) ?_
    refine GoOn.step (fun tq kq => XS.lloadN X0.here hx rfl (hb hby own_d507) rfl kq) ?_
    refine GoOn.step (fun tq kq => X0.ldc2Long hx hown (mvT hZ (hw _ (List.mem_of_getElem? (i := 251) rfl))) (g := (mkF m 11 #[.val (.long (Int64.ofNat n)), .second] [(.long (Int64.ofNat n))])) rfl (hb hby own_d508) _ kq) ?_
    refine GoOn.step (fun tq kq => XS.lcmp X0.here hx rfl (hb hby own_d509) rfl kq) ?_
    show GoOn p e below (s₁.setTop (mkF m 15 #[.val (.long (Int64.ofNat n)), .second] [(.int (lcmpW (Int64.ofNat n) (100 : Int64)))])) _
    by_cases hc781 : n < 100
    · skip
      refine GoOn.step (fun tq kq => XS.ifNo X0.here hx rfl (hb hby own_d510) rfl ((if0 _ _).trans (tlt (own_lcT hc781 (by decide))).2.1) kq) ?_
      refine GoOn.step (fun tq kq => XS.iconst X0.here hx rfl (hb hby own_d511) kq) ?_
      show GoOn p e below (s₁.setTop (mkF m 19 #[.val (.long (Int64.ofNat n)), .second] [(.int (2 : Int32))])) _
      refine GoOn.ret X0 Bd.notSynchronized (v := some (.int (2 : Int32))) (fun h => by rw [Bd.returns] at h; cases h) (fun fs hr => retI X0 hx Bd.returns (hb hby own_d512) hr) (by decide) (by decide) ?_
      rw [e0]
      exact ⟨congrArg some (congrArg Value.int (congrArg Int32.ofNat (show 2 = Jvm.Free.SBG.digits n from (by unfold Jvm.Free.SBG.digits; (repeat' split) <;> omega)))), N0, rfl⟩
    · skip
      refine GoOn.step (fun tq kq => XS.ifYes X0.here hx rfl (pc0 := 15) (pc' := 20) rfl (hb hby own_d510) rfl ((if0 _ _).trans (flt (own_lcF (Nat.le_of_not_lt hc781) (by omega))).2.1) (by decide) (by decide) kq) ?_
      refine GoOn.step (fun tq kq => XS.lloadN X0.here hx rfl (hb hby own_d513) rfl kq) ?_
      refine GoOn.step (fun tq kq => X0.ldc2Long hx hown (mvT hZ (hw _ (List.mem_of_getElem? (i := 252) rfl))) (g := (mkF m 21 #[.val (.long (Int64.ofNat n)), .second] [(.long (Int64.ofNat n))])) rfl (hb hby own_d514) _ kq) ?_
      refine GoOn.step (fun tq kq => XS.lcmp X0.here hx rfl (hb hby own_d515) rfl kq) ?_
      show GoOn p e below (s₁.setTop (mkF m 25 #[.val (.long (Int64.ofNat n)), .second] [(.int (lcmpW (Int64.ofNat n) (1000 : Int64)))])) _
      by_cases hc782 : n < 1000
      · skip
        refine GoOn.step (fun tq kq => XS.ifNo X0.here hx rfl (hb hby own_d516) rfl ((if0 _ _).trans (tlt (own_lcT hc782 (by decide))).2.1) kq) ?_
        refine GoOn.step (fun tq kq => XS.iconst X0.here hx rfl (hb hby own_d517) kq) ?_
        show GoOn p e below (s₁.setTop (mkF m 29 #[.val (.long (Int64.ofNat n)), .second] [(.int (3 : Int32))])) _
        refine GoOn.ret X0 Bd.notSynchronized (v := some (.int (3 : Int32))) (fun h => by rw [Bd.returns] at h; cases h) (fun fs hr => retI X0 hx Bd.returns (hb hby own_d518) hr) (by decide) (by decide) ?_
        rw [e0]
        exact ⟨congrArg some (congrArg Value.int (congrArg Int32.ofNat (show 3 = Jvm.Free.SBG.digits n from (by unfold Jvm.Free.SBG.digits; (repeat' split) <;> omega)))), N0, rfl⟩
      · skip
        refine GoOn.step (fun tq kq => XS.ifYes X0.here hx rfl (pc0 := 25) (pc' := 30) rfl (hb hby own_d516) rfl ((if0 _ _).trans (flt (own_lcF (Nat.le_of_not_lt hc782) (by omega))).2.1) (by decide) (by decide) kq) ?_
        refine GoOn.step (fun tq kq => XS.lloadN X0.here hx rfl (hb hby own_d519) rfl kq) ?_
        refine GoOn.step (fun tq kq => X0.ldc2Long hx hown (mvT hZ (hw _ (List.mem_of_getElem? (i := 253) rfl))) (g := (mkF m 31 #[.val (.long (Int64.ofNat n)), .second] [(.long (Int64.ofNat n))])) rfl (hb hby own_d520) _ kq) ?_
        refine GoOn.step (fun tq kq => XS.lcmp X0.here hx rfl (hb hby own_d521) rfl kq) ?_
        show GoOn p e below (s₁.setTop (mkF m 35 #[.val (.long (Int64.ofNat n)), .second] [(.int (lcmpW (Int64.ofNat n) (10000 : Int64)))])) _
        by_cases hc783 : n < 10000
        · skip
          refine GoOn.step (fun tq kq => XS.ifNo X0.here hx rfl (hb hby own_d522) rfl ((if0 _ _).trans (tlt (own_lcT hc783 (by decide))).2.1) kq) ?_
          refine GoOn.step (fun tq kq => XS.iconst X0.here hx rfl (hb hby own_d523) kq) ?_
          show GoOn p e below (s₁.setTop (mkF m 39 #[.val (.long (Int64.ofNat n)), .second] [(.int (4 : Int32))])) _
          refine GoOn.ret X0 Bd.notSynchronized (v := some (.int (4 : Int32))) (fun h => by rw [Bd.returns] at h; cases h) (fun fs hr => retI X0 hx Bd.returns (hb hby own_d524) hr) (by decide) (by decide) ?_
          rw [e0]
          exact ⟨congrArg some (congrArg Value.int (congrArg Int32.ofNat (show 4 = Jvm.Free.SBG.digits n from (by unfold Jvm.Free.SBG.digits; (repeat' split) <;> omega)))), N0, rfl⟩
        · skip
          refine GoOn.step (fun tq kq => XS.ifYes X0.here hx rfl (pc0 := 35) (pc' := 40) rfl (hb hby own_d522) rfl ((if0 _ _).trans (flt (own_lcF (Nat.le_of_not_lt hc783) (by omega))).2.1) (by decide) (by decide) kq) ?_
          refine GoOn.step (fun tq kq => XS.lloadN X0.here hx rfl (hb hby own_d525) rfl kq) ?_
          refine GoOn.step (fun tq kq => X0.ldc2Long hx hown (mvT hZ (hw _ (List.mem_of_getElem? (i := 254) rfl))) (g := (mkF m 41 #[.val (.long (Int64.ofNat n)), .second] [(.long (Int64.ofNat n))])) rfl (hb hby own_d526) _ kq) ?_
          refine GoOn.step (fun tq kq => XS.lcmp X0.here hx rfl (hb hby own_d527) rfl kq) ?_
          show GoOn p e below (s₁.setTop (mkF m 45 #[.val (.long (Int64.ofNat n)), .second] [(.int (lcmpW (Int64.ofNat n) (100000 : Int64)))])) _
          by_cases hc784 : n < 100000
          · skip
            refine GoOn.step (fun tq kq => XS.ifNo X0.here hx rfl (hb hby own_d528) rfl ((if0 _ _).trans (tlt (own_lcT hc784 (by decide))).2.1) kq) ?_
            refine GoOn.step (fun tq kq => XS.iconst X0.here hx rfl (hb hby own_d529) kq) ?_
            show GoOn p e below (s₁.setTop (mkF m 49 #[.val (.long (Int64.ofNat n)), .second] [(.int (5 : Int32))])) _
            refine GoOn.ret X0 Bd.notSynchronized (v := some (.int (5 : Int32))) (fun h => by rw [Bd.returns] at h; cases h) (fun fs hr => retI X0 hx Bd.returns (hb hby own_d530) hr) (by decide) (by decide) ?_
            rw [e0]
            exact ⟨congrArg some (congrArg Value.int (congrArg Int32.ofNat (show 5 = Jvm.Free.SBG.digits n from (by unfold Jvm.Free.SBG.digits; (repeat' split) <;> omega)))), N0, rfl⟩
          · skip
            refine GoOn.step (fun tq kq => XS.ifYes X0.here hx rfl (pc0 := 45) (pc' := 50) rfl (hb hby own_d528) rfl ((if0 _ _).trans (flt (own_lcF (Nat.le_of_not_lt hc784) (by omega))).2.1) (by decide) (by decide) kq) ?_
            refine GoOn.step (fun tq kq => XS.lloadN X0.here hx rfl (hb hby own_d531) rfl kq) ?_
            refine GoOn.step (fun tq kq => X0.ldc2Long hx hown (mvT hZ (hw _ (List.mem_of_getElem? (i := 255) rfl))) (g := (mkF m 51 #[.val (.long (Int64.ofNat n)), .second] [(.long (Int64.ofNat n))])) rfl (hb hby own_d532) _ kq) ?_
            refine GoOn.step (fun tq kq => XS.lcmp X0.here hx rfl (hb hby own_d533) rfl kq) ?_
            show GoOn p e below (s₁.setTop (mkF m 55 #[.val (.long (Int64.ofNat n)), .second] [(.int (lcmpW (Int64.ofNat n) (1000000 : Int64)))])) _
            by_cases hc785 : n < 1000000
            · skip
              refine GoOn.step (fun tq kq => XS.ifNo X0.here hx rfl (hb hby own_d534) rfl ((if0 _ _).trans (tlt (own_lcT hc785 (by decide))).2.1) kq) ?_
              refine GoOn.step (fun tq kq => XS.bipush X0.here hx rfl (hb hby own_d535) kq) ?_
              show GoOn p e below (s₁.setTop (mkF m 60 #[.val (.long (Int64.ofNat n)), .second] [(.int (6 : Int32))])) _
              refine GoOn.ret X0 Bd.notSynchronized (v := some (.int (6 : Int32))) (fun h => by rw [Bd.returns] at h; cases h) (fun fs hr => retI X0 hx Bd.returns (hb hby own_d536) hr) (by decide) (by decide) ?_
              rw [e0]
              exact ⟨congrArg some (congrArg Value.int (congrArg Int32.ofNat (show 6 = Jvm.Free.SBG.digits n from (by unfold Jvm.Free.SBG.digits; (repeat' split) <;> omega)))), N0, rfl⟩
            · skip
              refine GoOn.step (fun tq kq => XS.ifYes X0.here hx rfl (pc0 := 55) (pc' := 61) rfl (hb hby own_d534) rfl ((if0 _ _).trans (flt (own_lcF (Nat.le_of_not_lt hc785) (by omega))).2.1) (by decide) (by decide) kq) ?_
              refine GoOn.step (fun tq kq => XS.lloadN X0.here hx rfl (hb hby own_d537) rfl kq) ?_
              refine GoOn.step (fun tq kq => X0.ldc2Long hx hown (mvT hZ (hw _ (List.mem_of_getElem? (i := 256) rfl))) (g := (mkF m 62 #[.val (.long (Int64.ofNat n)), .second] [(.long (Int64.ofNat n))])) rfl (hb hby own_d538) _ kq) ?_
              refine GoOn.step (fun tq kq => XS.lcmp X0.here hx rfl (hb hby own_d539) rfl kq) ?_
              show GoOn p e below (s₁.setTop (mkF m 66 #[.val (.long (Int64.ofNat n)), .second] [(.int (lcmpW (Int64.ofNat n) (10000000 : Int64)))])) _
              by_cases hc786 : n < 10000000
              · skip
                refine GoOn.step (fun tq kq => XS.ifNo X0.here hx rfl (hb hby own_d540) rfl ((if0 _ _).trans (tlt (own_lcT hc786 (by decide))).2.1) kq) ?_
                refine GoOn.step (fun tq kq => XS.bipush X0.here hx rfl (hb hby own_d541) kq) ?_
                show GoOn p e below (s₁.setTop (mkF m 71 #[.val (.long (Int64.ofNat n)), .second] [(.int (7 : Int32))])) _
                refine GoOn.ret X0 Bd.notSynchronized (v := some (.int (7 : Int32))) (fun h => by rw [Bd.returns] at h; cases h) (fun fs hr => retI X0 hx Bd.returns (hb hby own_d542) hr) (by decide) (by decide) ?_
                rw [e0]
                exact ⟨congrArg some (congrArg Value.int (congrArg Int32.ofNat (show 7 = Jvm.Free.SBG.digits n from (by unfold Jvm.Free.SBG.digits; (repeat' split) <;> omega)))), N0, rfl⟩
              · skip
                refine GoOn.step (fun tq kq => XS.ifYes X0.here hx rfl (pc0 := 66) (pc' := 72) rfl (hb hby own_d540) rfl ((if0 _ _).trans (flt (own_lcF (Nat.le_of_not_lt hc786) (by omega))).2.1) (by decide) (by decide) kq) ?_
                refine GoOn.step (fun tq kq => XS.lloadN X0.here hx rfl (hb hby own_d543) rfl kq) ?_
                refine GoOn.step (fun tq kq => X0.ldc2Long hx hown (mvT hZ (hw _ (List.mem_of_getElem? (i := 257) rfl))) (g := (mkF m 73 #[.val (.long (Int64.ofNat n)), .second] [(.long (Int64.ofNat n))])) rfl (hb hby own_d544) _ kq) ?_
                refine GoOn.step (fun tq kq => XS.lcmp X0.here hx rfl (hb hby own_d545) rfl kq) ?_
                show GoOn p e below (s₁.setTop (mkF m 77 #[.val (.long (Int64.ofNat n)), .second] [(.int (lcmpW (Int64.ofNat n) (100000000 : Int64)))])) _
                by_cases hc787 : n < 100000000
                · skip
                  refine GoOn.step (fun tq kq => XS.ifNo X0.here hx rfl (hb hby own_d546) rfl ((if0 _ _).trans (tlt (own_lcT hc787 (by decide))).2.1) kq) ?_
                  refine GoOn.step (fun tq kq => XS.bipush X0.here hx rfl (hb hby own_d547) kq) ?_
                  show GoOn p e below (s₁.setTop (mkF m 82 #[.val (.long (Int64.ofNat n)), .second] [(.int (8 : Int32))])) _
                  refine GoOn.ret X0 Bd.notSynchronized (v := some (.int (8 : Int32))) (fun h => by rw [Bd.returns] at h; cases h) (fun fs hr => retI X0 hx Bd.returns (hb hby own_d548) hr) (by decide) (by decide) ?_
                  rw [e0]
                  exact ⟨congrArg some (congrArg Value.int (congrArg Int32.ofNat (show 8 = Jvm.Free.SBG.digits n from (by unfold Jvm.Free.SBG.digits; (repeat' split) <;> omega)))), N0, rfl⟩
                · skip
                  refine GoOn.step (fun tq kq => XS.ifYes X0.here hx rfl (pc0 := 77) (pc' := 83) rfl (hb hby own_d546) rfl ((if0 _ _).trans (flt (own_lcF (Nat.le_of_not_lt hc787) (by omega))).2.1) (by decide) (by decide) kq) ?_
                  refine GoOn.step (fun tq kq => XS.lloadN X0.here hx rfl (hb hby own_d549) rfl kq) ?_
                  refine GoOn.step (fun tq kq => X0.ldc2Long hx hown (mvT hZ (hw _ (List.mem_of_getElem? (i := 258) rfl))) (g := (mkF m 84 #[.val (.long (Int64.ofNat n)), .second] [(.long (Int64.ofNat n))])) rfl (hb hby own_d550) _ kq) ?_
                  refine GoOn.step (fun tq kq => XS.lcmp X0.here hx rfl (hb hby own_d551) rfl kq) ?_
                  show GoOn p e below (s₁.setTop (mkF m 88 #[.val (.long (Int64.ofNat n)), .second] [(.int (lcmpW (Int64.ofNat n) (1000000000 : Int64)))])) _
                  by_cases hc788 : n < 1000000000
                  · skip
                    refine GoOn.step (fun tq kq => XS.ifNo X0.here hx rfl (hb hby own_d552) rfl ((if0 _ _).trans (tlt (own_lcT hc788 (by decide))).2.1) kq) ?_
                    refine GoOn.step (fun tq kq => XS.bipush X0.here hx rfl (hb hby own_d553) kq) ?_
                    show GoOn p e below (s₁.setTop (mkF m 93 #[.val (.long (Int64.ofNat n)), .second] [(.int (9 : Int32))])) _
                    refine GoOn.ret X0 Bd.notSynchronized (v := some (.int (9 : Int32))) (fun h => by rw [Bd.returns] at h; cases h) (fun fs hr => retI X0 hx Bd.returns (hb hby own_d554) hr) (by decide) (by decide) ?_
                    rw [e0]
                    exact ⟨congrArg some (congrArg Value.int (congrArg Int32.ofNat (show 9 = Jvm.Free.SBG.digits n from (by unfold Jvm.Free.SBG.digits; (repeat' split) <;> omega)))), N0, rfl⟩
                  · skip
                    refine GoOn.step (fun tq kq => XS.ifYes X0.here hx rfl (pc0 := 88) (pc' := 94) rfl (hb hby own_d552) rfl ((if0 _ _).trans (flt (own_lcF (Nat.le_of_not_lt hc788) (by omega))).2.1) (by decide) (by decide) kq) ?_
                    refine GoOn.step (fun tq kq => XS.bipush X0.here hx rfl (hb hby own_d555) kq) ?_
                    show GoOn p e below (s₁.setTop (mkF m 96 #[.val (.long (Int64.ofNat n)), .second] [(.int (10 : Int32))])) _
                    refine GoOn.ret X0 Bd.notSynchronized (v := some (.int (10 : Int32))) (fun h => by rw [Bd.returns] at h; cases h) (fun fs hr => retI X0 hx Bd.returns (hb hby own_d556) hr) (by decide) (by decide) ?_
                    rw [e0]
                    exact ⟨congrArg some (congrArg Value.int (congrArg Int32.ofNat (show 10 = Jvm.Free.SBG.digits n from (by unfold Jvm.Free.SBG.digits; (repeat' split) <;> omega)))), N0, rfl⟩
def QTrue (h0 : Heap) (n0 : Nat) (v : Option Value) (h : Heap) (L : List Loc) : Prop := v = some (.int (nar .boolean 1)) ∧ Fr n0 L ∧ Keep h0 h []
set_option maxRecDepth 65536 in
set_option maxHeartbeats 40000000 in
theorem rmDok (l : Launch) (Z : State) (a0 : Array Value) (hw : ∀ d ∈ tables_1, d.before a0 Z = true) (ms : Addr) (px nx ix G1 : Int32) (G3 : Value) (pp nn ii n : Nat) (es : List Int32) (h0 : Heap) (n0 : Nat) (Z0 : n0 ≤ h0.size) (hpx : px = Int32.ofNat pp) (hnx : nx = Int32.ofNat nn) (hix : ix = Int32.ofNat ii) (hn : n ≤ 2 ^ 31) (hnn : nn ≤ 10) (hii : ii ≤ 9) (SC : Sta Z Z.heap "java/lang/String" "COMPACT_STRINGS" "Z" (.int G1)) (PC : ¬ G1 = (0 : Int32)) (SF : Sta Z Z.heap "jdk/internal/util/Preconditions" "SIOOBE_FORMATTER" "Ljava/util/function/BiFunction;" G3) (rG3 : G3.isRef = true) (S0 : StrIs Z h0 ms es) (hlen : ii < nn → pp + ii < es.length) (hq : ii < nn → es.getD (pp + ii) 0 = Int32.ofNat (48 + n / 10 ^ (nn - 1 - ii) % 10)) (O0 : Old Z n0 h0) :
    MetFree l (⟨"com/example/faktorwerk/faktorwerk/model/InputRefusedExceptionAtLinePinLaw", "digitOk", "(Ljava/lang/String;IIIJ)Z"⟩ : MethodName) (head1 [Jvm.Cond.code (⟨"com/example/faktorwerk/faktorwerk/model/InputRefusedExceptionAtLinePinLaw", "digitOk", "(Ljava/lang/String;IIIJ)Z"⟩ : MethodName) method_5_code 9 (some .boolean)] ({ frames := 4, cells := 1, slots := 10, locals := 56 } : Room)) (fun aa U => aa = #[(.ref ms), (.int px), (.int nx), (.int ix), (.long (Int64.ofNat n))] ∧ Z.Warmed39 U.vm ∧ U.heap = h0) (fun _ _ _ _ _ => True) (fun _ U o U' => ∃ v L, o = .returned v ∧ QTrue h0 n0 v U'.heap L ∧ FrameEnd U o U' L ({ frames := 4, cells := 1, slots := 10, locals := 56 } : Room).cells ({ frames := 4, cells := 1, slots := 10, locals := 56 } : Room).slots) := by
  refine MetFree.of_bodySF (plainFor_of_name own_pn103) hisR ?_
  intro p e s m args below meth c s₁ Bd hml0 hP hK
  obtain ⟨rfl, hZ, hh⟩ := hP
  have hx := Bd.exec
  have hby := Bd.bytes
  have hml : c.maxLocals = 9 := hml0
  have hown : s.vm.findClass "com/example/faktorwerk/faktorwerk/model/InputRefusedExceptionAtLinePinLaw" = some m.cls := findClass_of_methodNamed Bd.named
  have hnm := (name_of_methodNamed Bd.named Bd.method).1
  have X0 : Stand p l e ({ frames := 4, cells := 1, slots := 10, locals := 56 } : Room) s m #[(.ref ms), (.int px), (.int nx), (.int ix), (.long (Int64.ofNat n))] below meth c s₁ [] 0 0 := Stand.of_body Bd
  have e0 : s₁.heap = h0 := by rw [← hh, Bd.state]; rfl
  have N0 := Fr.nil n0
  have K0 : Keep h0 h0 [] := Keep.refl _ _
  show GoOn p e below (s₁.setTop (entryFrame m #[(.ref ms), (.int px), (.int nx), (.int ix), (.long (Int64.ofNat n))] 9)) (PostN s (QTrue h0 n0) ({ frames := 4, cells := 1, slots := 10, locals := 56 } : Room).cells ({ frames := 4, cells := 1, slots := 10, locals := 56 } : Room).slots)
  refine GoOn.step (fun tq kq => castTop (own_ef557 m ms px nx ix (Int64.ofNat n)) kq) ?_
  show GoOn p e below (s₁.setTop (mkF m 0 #[.val (.ref ms), .val (.int px), .val (.int nx), .val (.int ix), .val (.long (Int64.ofNat n)), .second, .unset, .unset, .unset] [])) _
  have hws : ∀ d ∈ StrChars.Road.wordsChN, d.before a0 Z = true := fun d hd => hw d ((by decide +kernel : ∀ d ∈ StrChars.Road.wordsChN, d ∈ tables_1) d hd)
  have hch := hws
  subst hpx hnx hix
  have U1 := StrUp.of S0
  refine GoOn.step (fun tq kq => XS.iloadN X0.here hx rfl (hb hby own_d558) rfl kq) ?_
  refine GoOn.step (fun tq kq => XS.iloadN X0.here hx rfl (hb hby own_d559) rfl kq) ?_
  show GoOn p e below (s₁.setTop (mkF m 2 #[.val (.ref ms), .val (.int (Int32.ofNat pp)), .val (.int (Int32.ofNat nn)), .val (.int (Int32.ofNat ii)), .val (.long (Int64.ofNat n)), .second, .unset, .unset, .unset] [(.int (Int32.ofNat nn)), (.int (Int32.ofNat ii))])) _
  by_cases hc789 : ii < nn
  · skip
    refine GoOn.step (fun tq kq => XS.icmpYes X0.here hx rfl (pc0 := 2) (pc' := 7) rfl (hb hby own_d560) rfl (tlt (own_lt32 hc789 (by omega))).1 (by decide) (by decide) kq) ?_
    refine GoOn.step (fun tq kq => XS.bipush X0.here hx rfl (hb hby own_d561) kq) ?_
    show GoOn p e below (s₁.setTop (mkF m 9 #[.val (.ref ms), .val (.int (Int32.ofNat pp)), .val (.int (Int32.ofNat nn)), .val (.int (Int32.ofNat ii)), .val (.long (Int64.ofNat n)), .second, .unset, .unset, .unset] [(.int (10 : Int32))])) _
    obtain ⟨T790, h790, k790, X790, e790, Ex790, A790, st790⟩ := newP X0 hx hZ (hw _ (List.mem_of_getElem? (i := 250) rfl)) e0 (g := (mkF m 9 #[.val (.ref ms), .val (.int (Int32.ofNat pp)), .val (.int (Int32.ofNat nn)), .val (.int (Int32.ofNat ii)), .val (.long (Int64.ofNat n)), .second, .unset, .unset, .unset] [(.int (10 : Int32))])) rfl (hb hby own_d562) rfl (by decide) (cap := 10) (by decide) (by decide) (by decide) (by decide)
    obtain ⟨pw, g790⟩ : ∃ z, z = h0.size := ⟨_, rfl⟩
    rw [← g790] at A790 st790
    have gn791 : n0 ≤ pw := Nat.le_trans Z0 (Nat.le_of_eq g790.symm)
    have sz792 : h0.size ≤ pw := Nat.le_trans K0.1 (Nat.le_of_eq g790.symm)
    have Kx790 : Keep h0 h790 [] := (Keep.refl _ _).ext Ex790
    refine GoOn.step st790 ?_
    have O793 : Old Z n0 h790 := O0.keep Kx790 all0
    have Z794 : n0 ≤ h790.size := Nat.le_trans Z0 Kx790.1
    have K795 : Keep h0 h790 [] := K0.trans Kx790 (all0)
    have Su796 : StrUp Z h790 ms es h0.size := U1.keep Kx790 all0
    have V797 : Arv Z h790 pw k790 .long (10 : Int32) [] (.long (0 : Int64)) := Arv.new A790 (by decide)
    refine GoOn.step (fun tq kq => XS.dup X790.here hx rfl (hb hby own_d563) rfl rfl kq) ?_
    refine GoOn.step (fun tq kq => XS.iconst X790.here hx rfl (hb hby own_d564) kq) ?_
    refine GoOn.step (fun tq kq => XS.lconst X790.here hx rfl (hb hby own_d565) kq) ?_
    show GoOn p e below (T790.setTop (mkF m 14 #[.val (.ref ms), .val (.int (Int32.ofNat pp)), .val (.int (Int32.ofNat nn)), .val (.int (Int32.ofNat ii)), .val (.long (Int64.ofNat n)), .second, .unset, .unset, .unset] [(.long (1 : Int64)), (.int (0 : Int32)), (.ref pw), (.ref pw)])) _
    have V799 : Arv Z h790 pw k790 .long (10 : Int32) [(.long (0 : Int64))] (.long (0 : Int64)) := V797.pad (pad_rep [] (.long (0 : Int64)) 1)
    obtain ⟨cq800, Aq800, qq800, Sq800, Mq800, Hq800, Uq800⟩ := id V799
    obtain ⟨T798, h798, X798, e798, W798, st798⟩ := stJ X790 hx hZ e790 Aq800 (j := (0 : Int32)) (inb_of Sq800 ⟨(by decide : ¬ ((0 : Int32) < (0 : Int32))), (by decide : (0 : Int32) < (10 : Int32))⟩) (g := (mkF m 14 #[.val (.ref ms), .val (.int (Int32.ofNat pp)), .val (.int (Int32.ofNat nn)), .val (.int (Int32.ofNat ii)), .val (.long (Int64.ofNat n)), .second, .unset, .unset, .unset] [(.long (1 : Int64)), (.int (0 : Int32)), (.ref pw), (.ref pw)])) rfl rfl (hb hby own_d566)
    have N801 := Fr.snoc X798 N0 gn791
    have V802 : Arv Z h798 pw k790 .long (10 : Int32) [(.long (1 : Int64))] (.long (0 : Int64)) := Arv.set Aq800 qq800 Sq800 Mq800 Hq800 Uq800 rfl W798 0 rfl (Nat.le_of_ble_eq_true rfl)
    have Kx798 : Keep h790 h798 [pw] := Keep.of_wr W798
    refine GoOn.step st798 ?_
    have O803 : Old Z n0 h798 := O793.keep Kx798 (allS gn791 all0)
    have Z804 : n0 ≤ h798.size := Nat.le_trans Z794 Kx798.1
    have K805 : Keep h0 h798 [] := K795.trans Kx798 ((allS (Or.inr sz792) all0))
    have Su806 : StrUp Z h798 ms es h0.size := Su796.keep Kx798 (allS sz792 all0)
    refine GoOn.step (fun tq kq => XS.dup X798.here hx rfl (hb hby own_d567) rfl rfl kq) ?_
    refine GoOn.step (fun tq kq => XS.iconst X798.here hx rfl (hb hby own_d568) kq) ?_
    refine GoOn.step (fun tq kq => X798.ldc2Long hx hown (mvT hZ (hw _ (List.mem_of_getElem? (i := 223) rfl))) (g := (mkF m 17 #[.val (.ref ms), .val (.int (Int32.ofNat pp)), .val (.int (Int32.ofNat nn)), .val (.int (Int32.ofNat ii)), .val (.long (Int64.ofNat n)), .second, .unset, .unset, .unset] [(.int (1 : Int32)), (.ref pw), (.ref pw)])) rfl (hb hby own_d569) _ kq) ?_
    show GoOn p e below (T798.setTop (mkF m 20 #[.val (.ref ms), .val (.int (Int32.ofNat pp)), .val (.int (Int32.ofNat nn)), .val (.int (Int32.ofNat ii)), .val (.long (Int64.ofNat n)), .second, .unset, .unset, .unset] [(.long (10 : Int64)), (.int (1 : Int32)), (.ref pw), (.ref pw)])) _
    have V808 : Arv Z h798 pw k790 .long (10 : Int32) [(.long (1 : Int64)), (.long (0 : Int64))] (.long (0 : Int64)) := V802.pad (pad_rep [(.long (1 : Int64))] (.long (0 : Int64)) 1)
    obtain ⟨cq809, Aq809, qq809, Sq809, Mq809, Hq809, Uq809⟩ := id V808
    obtain ⟨T807, h807, X807, e807, W807, st807⟩ := stJ X798 hx hZ e798 Aq809 (j := (1 : Int32)) (inb_of Sq809 ⟨(by decide : ¬ ((1 : Int32) < (0 : Int32))), (by decide : (1 : Int32) < (10 : Int32))⟩) (g := (mkF m 20 #[.val (.ref ms), .val (.int (Int32.ofNat pp)), .val (.int (Int32.ofNat nn)), .val (.int (Int32.ofNat ii)), .val (.long (Int64.ofNat n)), .second, .unset, .unset, .unset] [(.long (10 : Int64)), (.int (1 : Int32)), (.ref pw), (.ref pw)])) rfl rfl (hb hby own_d570)
    have N810 := Fr.snoc X807 N801 gn791
    have V811 : Arv Z h807 pw k790 .long (10 : Int32) [(.long (1 : Int64)), (.long (10 : Int64))] (.long (0 : Int64)) := Arv.set Aq809 qq809 Sq809 Mq809 Hq809 Uq809 rfl W807 1 rfl (Nat.le_of_ble_eq_true rfl)
    have Kx807 : Keep h798 h807 [pw] := Keep.of_wr W807
    refine GoOn.step st807 ?_
    have O812 : Old Z n0 h807 := O803.keep Kx807 (allS gn791 all0)
    have Z813 : n0 ≤ h807.size := Nat.le_trans Z804 Kx807.1
    have K814 : Keep h0 h807 [] := K805.trans Kx807 ((allS (Or.inr sz792) all0))
    have Su815 : StrUp Z h807 ms es h0.size := Su806.keep Kx807 (allS sz792 all0)
    refine GoOn.step (fun tq kq => XS.dup X807.here hx rfl (hb hby own_d571) rfl rfl kq) ?_
    refine GoOn.step (fun tq kq => XS.iconst X807.here hx rfl (hb hby own_d572) kq) ?_
    refine GoOn.step (fun tq kq => X807.ldc2Long hx hown (mvT hZ (hw _ (List.mem_of_getElem? (i := 251) rfl))) (g := (mkF m 23 #[.val (.ref ms), .val (.int (Int32.ofNat pp)), .val (.int (Int32.ofNat nn)), .val (.int (Int32.ofNat ii)), .val (.long (Int64.ofNat n)), .second, .unset, .unset, .unset] [(.int (2 : Int32)), (.ref pw), (.ref pw)])) rfl (hb hby own_d573) _ kq) ?_
    show GoOn p e below (T807.setTop (mkF m 26 #[.val (.ref ms), .val (.int (Int32.ofNat pp)), .val (.int (Int32.ofNat nn)), .val (.int (Int32.ofNat ii)), .val (.long (Int64.ofNat n)), .second, .unset, .unset, .unset] [(.long (100 : Int64)), (.int (2 : Int32)), (.ref pw), (.ref pw)])) _
    have V817 : Arv Z h807 pw k790 .long (10 : Int32) [(.long (1 : Int64)), (.long (10 : Int64)), (.long (0 : Int64))] (.long (0 : Int64)) := V811.pad (pad_rep [(.long (1 : Int64)), (.long (10 : Int64))] (.long (0 : Int64)) 1)
    obtain ⟨cq818, Aq818, qq818, Sq818, Mq818, Hq818, Uq818⟩ := id V817
    obtain ⟨T816, h816, X816, e816, W816, st816⟩ := stJ X807 hx hZ e807 Aq818 (j := (2 : Int32)) (inb_of Sq818 ⟨(by decide : ¬ ((2 : Int32) < (0 : Int32))), (by decide : (2 : Int32) < (10 : Int32))⟩) (g := (mkF m 26 #[.val (.ref ms), .val (.int (Int32.ofNat pp)), .val (.int (Int32.ofNat nn)), .val (.int (Int32.ofNat ii)), .val (.long (Int64.ofNat n)), .second, .unset, .unset, .unset] [(.long (100 : Int64)), (.int (2 : Int32)), (.ref pw), (.ref pw)])) rfl rfl (hb hby own_d574)
    have N819 := Fr.snoc X816 N810 gn791
    have V820 : Arv Z h816 pw k790 .long (10 : Int32) [(.long (1 : Int64)), (.long (10 : Int64)), (.long (100 : Int64))] (.long (0 : Int64)) := Arv.set Aq818 qq818 Sq818 Mq818 Hq818 Uq818 rfl W816 2 rfl (Nat.le_of_ble_eq_true rfl)
    have Kx816 : Keep h807 h816 [pw] := Keep.of_wr W816
    refine GoOn.step st816 ?_
    have O821 : Old Z n0 h816 := O812.keep Kx816 (allS gn791 all0)
    have Z822 : n0 ≤ h816.size := Nat.le_trans Z813 Kx816.1
    have K823 : Keep h0 h816 [] := K814.trans Kx816 ((allS (Or.inr sz792) all0))
    have Su824 : StrUp Z h816 ms es h0.size := Su815.keep Kx816 (allS sz792 all0)
    refine GoOn.step (fun tq kq => XS.dup X816.here hx rfl (hb hby own_d575) rfl rfl kq) ?_
    refine GoOn.step (fun tq kq => XS.iconst X816.here hx rfl (hb hby own_d576) kq) ?_
    refine GoOn.step (fun tq kq => X816.ldc2Long hx hown (mvT hZ (hw _ (List.mem_of_getElem? (i := 252) rfl))) (g := (mkF m 29 #[.val (.ref ms), .val (.int (Int32.ofNat pp)), .val (.int (Int32.ofNat nn)), .val (.int (Int32.ofNat ii)), .val (.long (Int64.ofNat n)), .second, .unset, .unset, .unset] [(.int (3 : Int32)), (.ref pw), (.ref pw)])) rfl (hb hby own_d577) _ kq) ?_
    show GoOn p e below (T816.setTop (mkF m 32 #[.val (.ref ms), .val (.int (Int32.ofNat pp)), .val (.int (Int32.ofNat nn)), .val (.int (Int32.ofNat ii)), .val (.long (Int64.ofNat n)), .second, .unset, .unset, .unset] [(.long (1000 : Int64)), (.int (3 : Int32)), (.ref pw), (.ref pw)])) _
    have V826 : Arv Z h816 pw k790 .long (10 : Int32) [(.long (1 : Int64)), (.long (10 : Int64)), (.long (100 : Int64)), (.long (0 : Int64))] (.long (0 : Int64)) := V820.pad (pad_rep [(.long (1 : Int64)), (.long (10 : Int64)), (.long (100 : Int64))] (.long (0 : Int64)) 1)
    obtain ⟨cq827, Aq827, qq827, Sq827, Mq827, Hq827, Uq827⟩ := id V826
    obtain ⟨T825, h825, X825, e825, W825, st825⟩ := stJ X816 hx hZ e816 Aq827 (j := (3 : Int32)) (inb_of Sq827 ⟨(by decide : ¬ ((3 : Int32) < (0 : Int32))), (by decide : (3 : Int32) < (10 : Int32))⟩) (g := (mkF m 32 #[.val (.ref ms), .val (.int (Int32.ofNat pp)), .val (.int (Int32.ofNat nn)), .val (.int (Int32.ofNat ii)), .val (.long (Int64.ofNat n)), .second, .unset, .unset, .unset] [(.long (1000 : Int64)), (.int (3 : Int32)), (.ref pw), (.ref pw)])) rfl rfl (hb hby own_d578)
    have N828 := Fr.snoc X825 N819 gn791
    have V829 : Arv Z h825 pw k790 .long (10 : Int32) [(.long (1 : Int64)), (.long (10 : Int64)), (.long (100 : Int64)), (.long (1000 : Int64))] (.long (0 : Int64)) := Arv.set Aq827 qq827 Sq827 Mq827 Hq827 Uq827 rfl W825 3 rfl (Nat.le_of_ble_eq_true rfl)
    have Kx825 : Keep h816 h825 [pw] := Keep.of_wr W825
    refine GoOn.step st825 ?_
    have O830 : Old Z n0 h825 := O821.keep Kx825 (allS gn791 all0)
    have Z831 : n0 ≤ h825.size := Nat.le_trans Z822 Kx825.1
    have K832 : Keep h0 h825 [] := K823.trans Kx825 ((allS (Or.inr sz792) all0))
    have Su833 : StrUp Z h825 ms es h0.size := Su824.keep Kx825 (allS sz792 all0)
    refine GoOn.step (fun tq kq => XS.dup X825.here hx rfl (hb hby own_d579) rfl rfl kq) ?_
    refine GoOn.step (fun tq kq => XS.iconst X825.here hx rfl (hb hby own_d580) kq) ?_
    refine GoOn.step (fun tq kq => X825.ldc2Long hx hown (mvT hZ (hw _ (List.mem_of_getElem? (i := 253) rfl))) (g := (mkF m 35 #[.val (.ref ms), .val (.int (Int32.ofNat pp)), .val (.int (Int32.ofNat nn)), .val (.int (Int32.ofNat ii)), .val (.long (Int64.ofNat n)), .second, .unset, .unset, .unset] [(.int (4 : Int32)), (.ref pw), (.ref pw)])) rfl (hb hby own_d581) _ kq) ?_
    show GoOn p e below (T825.setTop (mkF m 38 #[.val (.ref ms), .val (.int (Int32.ofNat pp)), .val (.int (Int32.ofNat nn)), .val (.int (Int32.ofNat ii)), .val (.long (Int64.ofNat n)), .second, .unset, .unset, .unset] [(.long (10000 : Int64)), (.int (4 : Int32)), (.ref pw), (.ref pw)])) _
    have V835 : Arv Z h825 pw k790 .long (10 : Int32) [(.long (1 : Int64)), (.long (10 : Int64)), (.long (100 : Int64)), (.long (1000 : Int64)), (.long (0 : Int64))] (.long (0 : Int64)) := V829.pad (pad_rep [(.long (1 : Int64)), (.long (10 : Int64)), (.long (100 : Int64)), (.long (1000 : Int64))] (.long (0 : Int64)) 1)
    obtain ⟨cq836, Aq836, qq836, Sq836, Mq836, Hq836, Uq836⟩ := id V835
    obtain ⟨T834, h834, X834, e834, W834, st834⟩ := stJ X825 hx hZ e825 Aq836 (j := (4 : Int32)) (inb_of Sq836 ⟨(by decide : ¬ ((4 : Int32) < (0 : Int32))), (by decide : (4 : Int32) < (10 : Int32))⟩) (g := (mkF m 38 #[.val (.ref ms), .val (.int (Int32.ofNat pp)), .val (.int (Int32.ofNat nn)), .val (.int (Int32.ofNat ii)), .val (.long (Int64.ofNat n)), .second, .unset, .unset, .unset] [(.long (10000 : Int64)), (.int (4 : Int32)), (.ref pw), (.ref pw)])) rfl rfl (hb hby own_d582)
    have N837 := Fr.snoc X834 N828 gn791
    have V838 : Arv Z h834 pw k790 .long (10 : Int32) [(.long (1 : Int64)), (.long (10 : Int64)), (.long (100 : Int64)), (.long (1000 : Int64)), (.long (10000 : Int64))] (.long (0 : Int64)) := Arv.set Aq836 qq836 Sq836 Mq836 Hq836 Uq836 rfl W834 4 rfl (Nat.le_of_ble_eq_true rfl)
    have Kx834 : Keep h825 h834 [pw] := Keep.of_wr W834
    refine GoOn.step st834 ?_
    have O839 : Old Z n0 h834 := O830.keep Kx834 (allS gn791 all0)
    have Z840 : n0 ≤ h834.size := Nat.le_trans Z831 Kx834.1
    have K841 : Keep h0 h834 [] := K832.trans Kx834 ((allS (Or.inr sz792) all0))
    have Su842 : StrUp Z h834 ms es h0.size := Su833.keep Kx834 (allS sz792 all0)
    refine GoOn.step (fun tq kq => XS.dup X834.here hx rfl (hb hby own_d583) rfl rfl kq) ?_
    refine GoOn.step (fun tq kq => XS.iconst X834.here hx rfl (hb hby own_d584) kq) ?_
    refine GoOn.step (fun tq kq => X834.ldc2Long hx hown (mvT hZ (hw _ (List.mem_of_getElem? (i := 254) rfl))) (g := (mkF m 41 #[.val (.ref ms), .val (.int (Int32.ofNat pp)), .val (.int (Int32.ofNat nn)), .val (.int (Int32.ofNat ii)), .val (.long (Int64.ofNat n)), .second, .unset, .unset, .unset] [(.int (5 : Int32)), (.ref pw), (.ref pw)])) rfl (hb hby own_d585) _ kq) ?_
    show GoOn p e below (T834.setTop (mkF m 44 #[.val (.ref ms), .val (.int (Int32.ofNat pp)), .val (.int (Int32.ofNat nn)), .val (.int (Int32.ofNat ii)), .val (.long (Int64.ofNat n)), .second, .unset, .unset, .unset] [(.long (100000 : Int64)), (.int (5 : Int32)), (.ref pw), (.ref pw)])) _
    have V844 : Arv Z h834 pw k790 .long (10 : Int32) [(.long (1 : Int64)), (.long (10 : Int64)), (.long (100 : Int64)), (.long (1000 : Int64)), (.long (10000 : Int64)), (.long (0 : Int64))] (.long (0 : Int64)) := V838.pad (pad_rep [(.long (1 : Int64)), (.long (10 : Int64)), (.long (100 : Int64)), (.long (1000 : Int64)), (.long (10000 : Int64))] (.long (0 : Int64)) 1)
    obtain ⟨cq845, Aq845, qq845, Sq845, Mq845, Hq845, Uq845⟩ := id V844
    obtain ⟨T843, h843, X843, e843, W843, st843⟩ := stJ X834 hx hZ e834 Aq845 (j := (5 : Int32)) (inb_of Sq845 ⟨(by decide : ¬ ((5 : Int32) < (0 : Int32))), (by decide : (5 : Int32) < (10 : Int32))⟩) (g := (mkF m 44 #[.val (.ref ms), .val (.int (Int32.ofNat pp)), .val (.int (Int32.ofNat nn)), .val (.int (Int32.ofNat ii)), .val (.long (Int64.ofNat n)), .second, .unset, .unset, .unset] [(.long (100000 : Int64)), (.int (5 : Int32)), (.ref pw), (.ref pw)])) rfl rfl (hb hby own_d586)
    have N846 := Fr.snoc X843 N837 gn791
    have V847 : Arv Z h843 pw k790 .long (10 : Int32) [(.long (1 : Int64)), (.long (10 : Int64)), (.long (100 : Int64)), (.long (1000 : Int64)), (.long (10000 : Int64)), (.long (100000 : Int64))] (.long (0 : Int64)) := Arv.set Aq845 qq845 Sq845 Mq845 Hq845 Uq845 rfl W843 5 rfl (Nat.le_of_ble_eq_true rfl)
    have Kx843 : Keep h834 h843 [pw] := Keep.of_wr W843
    refine GoOn.step st843 ?_
    have O848 : Old Z n0 h843 := O839.keep Kx843 (allS gn791 all0)
    have Z849 : n0 ≤ h843.size := Nat.le_trans Z840 Kx843.1
    have K850 : Keep h0 h843 [] := K841.trans Kx843 ((allS (Or.inr sz792) all0))
    have Su851 : StrUp Z h843 ms es h0.size := Su842.keep Kx843 (allS sz792 all0)
    refine GoOn.step (fun tq kq => XS.dup X843.here hx rfl (hb hby own_d587) rfl rfl kq) ?_
    refine GoOn.step (fun tq kq => XS.bipush X843.here hx rfl (hb hby own_d588) kq) ?_
    refine GoOn.step (fun tq kq => X843.ldc2Long hx hown (mvT hZ (hw _ (List.mem_of_getElem? (i := 255) rfl))) (g := (mkF m 48 #[.val (.ref ms), .val (.int (Int32.ofNat pp)), .val (.int (Int32.ofNat nn)), .val (.int (Int32.ofNat ii)), .val (.long (Int64.ofNat n)), .second, .unset, .unset, .unset] [(.int (6 : Int32)), (.ref pw), (.ref pw)])) rfl (hb hby own_d589) _ kq) ?_
    show GoOn p e below (T843.setTop (mkF m 51 #[.val (.ref ms), .val (.int (Int32.ofNat pp)), .val (.int (Int32.ofNat nn)), .val (.int (Int32.ofNat ii)), .val (.long (Int64.ofNat n)), .second, .unset, .unset, .unset] [(.long (1000000 : Int64)), (.int (6 : Int32)), (.ref pw), (.ref pw)])) _
    have V853 : Arv Z h843 pw k790 .long (10 : Int32) [(.long (1 : Int64)), (.long (10 : Int64)), (.long (100 : Int64)), (.long (1000 : Int64)), (.long (10000 : Int64)), (.long (100000 : Int64)), (.long (0 : Int64))] (.long (0 : Int64)) := V847.pad (pad_rep [(.long (1 : Int64)), (.long (10 : Int64)), (.long (100 : Int64)), (.long (1000 : Int64)), (.long (10000 : Int64)), (.long (100000 : Int64))] (.long (0 : Int64)) 1)
    obtain ⟨cq854, Aq854, qq854, Sq854, Mq854, Hq854, Uq854⟩ := id V853
    obtain ⟨T852, h852, X852, e852, W852, st852⟩ := stJ X843 hx hZ e843 Aq854 (j := (6 : Int32)) (inb_of Sq854 ⟨(by decide : ¬ ((6 : Int32) < (0 : Int32))), (by decide : (6 : Int32) < (10 : Int32))⟩) (g := (mkF m 51 #[.val (.ref ms), .val (.int (Int32.ofNat pp)), .val (.int (Int32.ofNat nn)), .val (.int (Int32.ofNat ii)), .val (.long (Int64.ofNat n)), .second, .unset, .unset, .unset] [(.long (1000000 : Int64)), (.int (6 : Int32)), (.ref pw), (.ref pw)])) rfl rfl (hb hby own_d590)
    have N855 := Fr.snoc X852 N846 gn791
    have V856 : Arv Z h852 pw k790 .long (10 : Int32) [(.long (1 : Int64)), (.long (10 : Int64)), (.long (100 : Int64)), (.long (1000 : Int64)), (.long (10000 : Int64)), (.long (100000 : Int64)), (.long (1000000 : Int64))] (.long (0 : Int64)) := Arv.set Aq854 qq854 Sq854 Mq854 Hq854 Uq854 rfl W852 6 rfl (Nat.le_of_ble_eq_true rfl)
    have Kx852 : Keep h843 h852 [pw] := Keep.of_wr W852
    refine GoOn.step st852 ?_
    have O857 : Old Z n0 h852 := O848.keep Kx852 (allS gn791 all0)
    have Z858 : n0 ≤ h852.size := Nat.le_trans Z849 Kx852.1
    have K859 : Keep h0 h852 [] := K850.trans Kx852 ((allS (Or.inr sz792) all0))
    have Su860 : StrUp Z h852 ms es h0.size := Su851.keep Kx852 (allS sz792 all0)
    refine GoOn.step (fun tq kq => XS.dup X852.here hx rfl (hb hby own_d591) rfl rfl kq) ?_
    refine GoOn.step (fun tq kq => XS.bipush X852.here hx rfl (hb hby own_d592) kq) ?_
    refine GoOn.step (fun tq kq => X852.ldc2Long hx hown (mvT hZ (hw _ (List.mem_of_getElem? (i := 256) rfl))) (g := (mkF m 55 #[.val (.ref ms), .val (.int (Int32.ofNat pp)), .val (.int (Int32.ofNat nn)), .val (.int (Int32.ofNat ii)), .val (.long (Int64.ofNat n)), .second, .unset, .unset, .unset] [(.int (7 : Int32)), (.ref pw), (.ref pw)])) rfl (hb hby own_d593) _ kq) ?_
    show GoOn p e below (T852.setTop (mkF m 58 #[.val (.ref ms), .val (.int (Int32.ofNat pp)), .val (.int (Int32.ofNat nn)), .val (.int (Int32.ofNat ii)), .val (.long (Int64.ofNat n)), .second, .unset, .unset, .unset] [(.long (10000000 : Int64)), (.int (7 : Int32)), (.ref pw), (.ref pw)])) _
    have V862 : Arv Z h852 pw k790 .long (10 : Int32) [(.long (1 : Int64)), (.long (10 : Int64)), (.long (100 : Int64)), (.long (1000 : Int64)), (.long (10000 : Int64)), (.long (100000 : Int64)), (.long (1000000 : Int64)), (.long (0 : Int64))] (.long (0 : Int64)) := V856.pad (pad_rep [(.long (1 : Int64)), (.long (10 : Int64)), (.long (100 : Int64)), (.long (1000 : Int64)), (.long (10000 : Int64)), (.long (100000 : Int64)), (.long (1000000 : Int64))] (.long (0 : Int64)) 1)
    obtain ⟨cq863, Aq863, qq863, Sq863, Mq863, Hq863, Uq863⟩ := id V862
    obtain ⟨T861, h861, X861, e861, W861, st861⟩ := stJ X852 hx hZ e852 Aq863 (j := (7 : Int32)) (inb_of Sq863 ⟨(by decide : ¬ ((7 : Int32) < (0 : Int32))), (by decide : (7 : Int32) < (10 : Int32))⟩) (g := (mkF m 58 #[.val (.ref ms), .val (.int (Int32.ofNat pp)), .val (.int (Int32.ofNat nn)), .val (.int (Int32.ofNat ii)), .val (.long (Int64.ofNat n)), .second, .unset, .unset, .unset] [(.long (10000000 : Int64)), (.int (7 : Int32)), (.ref pw), (.ref pw)])) rfl rfl (hb hby own_d594)
    have N864 := Fr.snoc X861 N855 gn791
    have V865 : Arv Z h861 pw k790 .long (10 : Int32) [(.long (1 : Int64)), (.long (10 : Int64)), (.long (100 : Int64)), (.long (1000 : Int64)), (.long (10000 : Int64)), (.long (100000 : Int64)), (.long (1000000 : Int64)), (.long (10000000 : Int64))] (.long (0 : Int64)) := Arv.set Aq863 qq863 Sq863 Mq863 Hq863 Uq863 rfl W861 7 rfl (Nat.le_of_ble_eq_true rfl)
    have Kx861 : Keep h852 h861 [pw] := Keep.of_wr W861
    refine GoOn.step st861 ?_
    have O866 : Old Z n0 h861 := O857.keep Kx861 (allS gn791 all0)
    have Z867 : n0 ≤ h861.size := Nat.le_trans Z858 Kx861.1
    have K868 : Keep h0 h861 [] := K859.trans Kx861 ((allS (Or.inr sz792) all0))
    have Su869 : StrUp Z h861 ms es h0.size := Su860.keep Kx861 (allS sz792 all0)
    refine GoOn.step (fun tq kq => XS.dup X861.here hx rfl (hb hby own_d595) rfl rfl kq) ?_
    refine GoOn.step (fun tq kq => XS.bipush X861.here hx rfl (hb hby own_d596) kq) ?_
    refine GoOn.step (fun tq kq => X861.ldc2Long hx hown (mvT hZ (hw _ (List.mem_of_getElem? (i := 257) rfl))) (g := (mkF m 62 #[.val (.ref ms), .val (.int (Int32.ofNat pp)), .val (.int (Int32.ofNat nn)), .val (.int (Int32.ofNat ii)), .val (.long (Int64.ofNat n)), .second, .unset, .unset, .unset] [(.int (8 : Int32)), (.ref pw), (.ref pw)])) rfl (hb hby own_d597) _ kq) ?_
    show GoOn p e below (T861.setTop (mkF m 65 #[.val (.ref ms), .val (.int (Int32.ofNat pp)), .val (.int (Int32.ofNat nn)), .val (.int (Int32.ofNat ii)), .val (.long (Int64.ofNat n)), .second, .unset, .unset, .unset] [(.long (100000000 : Int64)), (.int (8 : Int32)), (.ref pw), (.ref pw)])) _
    have V871 : Arv Z h861 pw k790 .long (10 : Int32) [(.long (1 : Int64)), (.long (10 : Int64)), (.long (100 : Int64)), (.long (1000 : Int64)), (.long (10000 : Int64)), (.long (100000 : Int64)), (.long (1000000 : Int64)), (.long (10000000 : Int64)), (.long (0 : Int64))] (.long (0 : Int64)) := V865.pad (pad_rep [(.long (1 : Int64)), (.long (10 : Int64)), (.long (100 : Int64)), (.long (1000 : Int64)), (.long (10000 : Int64)), (.long (100000 : Int64)), (.long (1000000 : Int64)), (.long (10000000 : Int64))] (.long (0 : Int64)) 1)
    obtain ⟨cq872, Aq872, qq872, Sq872, Mq872, Hq872, Uq872⟩ := id V871
    obtain ⟨T870, h870, X870, e870, W870, st870⟩ := stJ X861 hx hZ e861 Aq872 (j := (8 : Int32)) (inb_of Sq872 ⟨(by decide : ¬ ((8 : Int32) < (0 : Int32))), (by decide : (8 : Int32) < (10 : Int32))⟩) (g := (mkF m 65 #[.val (.ref ms), .val (.int (Int32.ofNat pp)), .val (.int (Int32.ofNat nn)), .val (.int (Int32.ofNat ii)), .val (.long (Int64.ofNat n)), .second, .unset, .unset, .unset] [(.long (100000000 : Int64)), (.int (8 : Int32)), (.ref pw), (.ref pw)])) rfl rfl (hb hby own_d598)
    have N873 := Fr.snoc X870 N864 gn791
    have V874 : Arv Z h870 pw k790 .long (10 : Int32) [(.long (1 : Int64)), (.long (10 : Int64)), (.long (100 : Int64)), (.long (1000 : Int64)), (.long (10000 : Int64)), (.long (100000 : Int64)), (.long (1000000 : Int64)), (.long (10000000 : Int64)), (.long (100000000 : Int64))] (.long (0 : Int64)) := Arv.set Aq872 qq872 Sq872 Mq872 Hq872 Uq872 rfl W870 8 rfl (Nat.le_of_ble_eq_true rfl)
    have Kx870 : Keep h861 h870 [pw] := Keep.of_wr W870
    refine GoOn.step st870 ?_
    have O875 : Old Z n0 h870 := O866.keep Kx870 (allS gn791 all0)
    have Z876 : n0 ≤ h870.size := Nat.le_trans Z867 Kx870.1
    have K877 : Keep h0 h870 [] := K868.trans Kx870 ((allS (Or.inr sz792) all0))
    have Su878 : StrUp Z h870 ms es h0.size := Su869.keep Kx870 (allS sz792 all0)
    refine GoOn.step (fun tq kq => XS.dup X870.here hx rfl (hb hby own_d599) rfl rfl kq) ?_
    refine GoOn.step (fun tq kq => XS.bipush X870.here hx rfl (hb hby own_d600) kq) ?_
    refine GoOn.step (fun tq kq => X870.ldc2Long hx hown (mvT hZ (hw _ (List.mem_of_getElem? (i := 258) rfl))) (g := (mkF m 69 #[.val (.ref ms), .val (.int (Int32.ofNat pp)), .val (.int (Int32.ofNat nn)), .val (.int (Int32.ofNat ii)), .val (.long (Int64.ofNat n)), .second, .unset, .unset, .unset] [(.int (9 : Int32)), (.ref pw), (.ref pw)])) rfl (hb hby own_d601) _ kq) ?_
    show GoOn p e below (T870.setTop (mkF m 72 #[.val (.ref ms), .val (.int (Int32.ofNat pp)), .val (.int (Int32.ofNat nn)), .val (.int (Int32.ofNat ii)), .val (.long (Int64.ofNat n)), .second, .unset, .unset, .unset] [(.long (1000000000 : Int64)), (.int (9 : Int32)), (.ref pw), (.ref pw)])) _
    have V880 : Arv Z h870 pw k790 .long (10 : Int32) [(.long (1 : Int64)), (.long (10 : Int64)), (.long (100 : Int64)), (.long (1000 : Int64)), (.long (10000 : Int64)), (.long (100000 : Int64)), (.long (1000000 : Int64)), (.long (10000000 : Int64)), (.long (100000000 : Int64)), (.long (0 : Int64))] (.long (0 : Int64)) := V874.pad (pad_rep [(.long (1 : Int64)), (.long (10 : Int64)), (.long (100 : Int64)), (.long (1000 : Int64)), (.long (10000 : Int64)), (.long (100000 : Int64)), (.long (1000000 : Int64)), (.long (10000000 : Int64)), (.long (100000000 : Int64))] (.long (0 : Int64)) 1)
    obtain ⟨cq881, Aq881, qq881, Sq881, Mq881, Hq881, Uq881⟩ := id V880
    obtain ⟨T879, h879, X879, e879, W879, st879⟩ := stJ X870 hx hZ e870 Aq881 (j := (9 : Int32)) (inb_of Sq881 ⟨(by decide : ¬ ((9 : Int32) < (0 : Int32))), (by decide : (9 : Int32) < (10 : Int32))⟩) (g := (mkF m 72 #[.val (.ref ms), .val (.int (Int32.ofNat pp)), .val (.int (Int32.ofNat nn)), .val (.int (Int32.ofNat ii)), .val (.long (Int64.ofNat n)), .second, .unset, .unset, .unset] [(.long (1000000000 : Int64)), (.int (9 : Int32)), (.ref pw), (.ref pw)])) rfl rfl (hb hby own_d602)
    have N882 := Fr.snoc X879 N873 gn791
    have V883 : Arv Z h879 pw k790 .long (10 : Int32) [(.long (1 : Int64)), (.long (10 : Int64)), (.long (100 : Int64)), (.long (1000 : Int64)), (.long (10000 : Int64)), (.long (100000 : Int64)), (.long (1000000 : Int64)), (.long (10000000 : Int64)), (.long (100000000 : Int64)), (.long (1000000000 : Int64))] (.long (0 : Int64)) := Arv.set Aq881 qq881 Sq881 Mq881 Hq881 Uq881 rfl W879 9 rfl (Nat.le_of_ble_eq_true rfl)
    have Kx879 : Keep h870 h879 [pw] := Keep.of_wr W879
    refine GoOn.step st879 ?_
    have O884 : Old Z n0 h879 := O875.keep Kx879 (allS gn791 all0)
    have Z885 : n0 ≤ h879.size := Nat.le_trans Z876 Kx879.1
    have K886 : Keep h0 h879 [] := K877.trans Kx879 ((allS (Or.inr sz792) all0))
    have Su887 : StrUp Z h879 ms es h0.size := Su878.keep Kx879 (allS sz792 all0)
    refine GoOn.step (fun tq kq => XS.astore X879.here hx rfl (hb hby own_d603) rfl rfl (l' := #[.val (.ref ms), .val (.int (Int32.ofNat pp)), .val (.int (Int32.ofNat nn)), .val (.int (Int32.ofNat ii)), .val (.long (Int64.ofNat n)), .second, .val (.ref pw), .unset, .unset]) rfl kq) ?_
    refine GoOn.step (fun tq kq => XS.lload X879.here hx rfl (hb hby own_d604) rfl kq) ?_
    refine GoOn.step (fun tq kq => XS.aload X879.here hx rfl (hb hby own_d605) rfl rfl kq) ?_
    refine GoOn.step (fun tq kq => XS.iloadN X879.here hx rfl (hb hby own_d606) rfl kq) ?_
    refine GoOn.step (fun tq kq => XS.iconst X879.here hx rfl (hb hby own_d607) kq) ?_
    refine GoOn.step (fun tq kq => XS.isub X879.here hx rfl (hb hby own_d608) rfl kq) ?_
    refine GoOn.step (fun tq kq => XS.iloadN X879.here hx rfl (hb hby own_d609) rfl kq) ?_
    refine GoOn.step (fun tq kq => XS.isub X879.here hx rfl (hb hby own_d610) rfl kq) ?_
    show GoOn p e below (T879.setTop (mkF m 84 #[.val (.ref ms), .val (.int (Int32.ofNat pp)), .val (.int (Int32.ofNat nn)), .val (.int (Int32.ofNat ii)), .val (.long (Int64.ofNat n)), .second, .val (.ref pw), .unset, .unset] [(.int (((Int32.ofNat nn) - (1 : Int32)) - (Int32.ofNat ii))), (.ref pw), (.long (Int64.ofNat n))])) _
    rw [own_jx hc789 hnn]
    show GoOn p e below (T879.setTop (mkF m 84 #[.val (.ref ms), .val (.int (Int32.ofNat pp)), .val (.int (Int32.ofNat nn)), .val (.int (Int32.ofNat ii)), .val (.long (Int64.ofNat n)), .second, .val (.ref pw), .unset, .unset] [(.int (Int32.ofNat (nn - 1 - ii))), (.ref pw), (.long (Int64.ofNat n))])) _
    obtain ⟨cq888, Aq888, qq888, Sq888, Mq888, Hq888, Uq888⟩ := id V883
    refine GoOn.step (fun tq kq => X879.laload hx (j := (Int32.ofNat (nn - 1 - ii))) (v := (.long (Int64.ofNat (10 ^ (nn - 1 - ii))))) (by rw [e879]; exact Aq888.1) (State.isArrayOf_alike hZ.alike Aq888.2.1) Aq888.2.2 (inb_of Sq888 (own_kx _ (by omega))) (Hq888.at (inb_of Sq888 (own_kx _ (by omega))) (own_pw _ (by omega))) (g := (mkF m 84 #[.val (.ref ms), .val (.int (Int32.ofNat pp)), .val (.int (Int32.ofNat nn)), .val (.int (Int32.ofNat ii)), .val (.long (Int64.ofNat n)), .second, .val (.ref pw), .unset, .unset] [(.int (Int32.ofNat (nn - 1 - ii))), (.ref pw), (.long (Int64.ofNat n))])) rfl rfl (hb hby own_d611) _ kq) ?_
    refine GoOn.step (fun tq kq => Jvm.Free.XT.ldiv X879.here hx rfl (hb hby own_d612) rfl (own_pw0 _ (by omega)) kq) ?_
    refine GoOn.step (fun tq kq => X879.ldc2Long hx hown (mvT hZ (hw _ (List.mem_of_getElem? (i := 223) rfl))) (g := (mkF m 86 #[.val (.ref ms), .val (.int (Int32.ofNat pp)), .val (.int (Int32.ofNat nn)), .val (.int (Int32.ofNat ii)), .val (.long (Int64.ofNat n)), .second, .val (.ref pw), .unset, .unset] [(.long ((Int64.ofNat n) / (Int64.ofNat (10 ^ (nn - 1 - ii)))))])) rfl (hb hby own_d613) _ kq) ?_
    refine GoOn.step (fun tq kq => Jvm.Free.XT.lrem X879.here hx rfl (hb hby own_d614) rfl (by decide) kq) ?_
    refine GoOn.step (fun tq kq => XS.lstore X879.here hx rfl (hb hby own_d615) rfl (l' := #[.val (.ref ms), .val (.int (Int32.ofNat pp)), .val (.int (Int32.ofNat nn)), .val (.int (Int32.ofNat ii)), .val (.long (Int64.ofNat n)), .second, .val (.ref pw), .val (.long (((Int64.ofNat n) / (Int64.ofNat (10 ^ (nn - 1 - ii)))) - ((Int64.ofNat n) / (Int64.ofNat (10 ^ (nn - 1 - ii)))) / (10 : Int64) * (10 : Int64))), .second]) rfl kq) ?_
    refine GoOn.step (fun tq kq => XS.aloadN X879.here hx rfl (hb hby own_d616) rfl rfl kq) ?_
    refine GoOn.step (fun tq kq => XS.iloadN X879.here hx rfl (hb hby own_d617) rfl kq) ?_
    refine GoOn.step (fun tq kq => XS.iloadN X879.here hx rfl (hb hby own_d618) rfl kq) ?_
    refine GoOn.step (fun tq kq => XS.iadd X879.here hx rfl (hb hby own_d619) rfl kq) ?_
    show GoOn p e below (T879.setTop (mkF m 96 #[.val (.ref ms), .val (.int (Int32.ofNat pp)), .val (.int (Int32.ofNat nn)), .val (.int (Int32.ofNat ii)), .val (.long (Int64.ofNat n)), .second, .val (.ref pw), .val (.long (((Int64.ofNat n) / (Int64.ofNat (10 ^ (nn - 1 - ii)))) - ((Int64.ofNat n) / (Int64.ofNat (10 ^ (nn - 1 - ii)))) / (10 : Int64) * (10 : Int64))), .second] [(.int ((Int32.ofNat pp) + (Int32.ofNat ii))), (.ref ms)])) _
    rw [own_add32]
    show GoOn p e below (T879.setTop (mkF m 96 #[.val (.ref ms), .val (.int (Int32.ofNat pp)), .val (.int (Int32.ofNat nn)), .val (.int (Int32.ofNat ii)), .val (.long (Int64.ofNat n)), .second, .val (.ref pw), .val (.long (((Int64.ofNat n) / (Int64.ofNat (10 ^ (nn - 1 - ii)))) - ((Int64.ofNat n) / (Int64.ofNat (10 ^ (nn - 1 - ii)))) / (10 : Int64) * (10 : Int64))), .second] [(.int (Int32.ofNat (pp + ii))), (.ref ms)])) _
    have Sm := Su887.is
    obtain ⟨cqc890, kqc890, qac890, qbc890, qcc890⟩ := isOf hZ e879 Sm.1
    obtain ⟨_, _, ⟨T889, L889, k889, n889⟩, -, X889, ⟨Lc889, hQ889, l889, y889, z889⟩, st889⟩ := X879.virtualBack hx (y := (⟨"java/lang/String", "charAt", "(I)C"⟩ : MethodName)) (z := (⟨"java/lang/String", "charAt", "(I)C"⟩ : MethodName)) hown (mvT hZ (hw _ (List.mem_of_getElem? (i := 225) rfl))) (mvT hZ (hw _ (List.mem_of_getElem? (i := 226) rfl))) (notFace_of_selects (args := #[]) (mvT hZ (hw _ (List.mem_of_getElem? (i := 228) rfl)))) (mvT hZ (hw _ (List.mem_of_getElem? (i := 228) rfl))) (mvT hZ (hw _ (List.mem_of_getElem? (i := 227) rfl))) (by decide) (own_chS (n0 := n0) (W := 0) hZ hch (kI := 4) (hw _ (List.mem_of_getElem? (i := 5) rfl)) Sm (SC.ext O884.2) PC (SF.ext O884.2) rG3 (pp + ii) (hlen hc789) rfl (by decide) (by decide)) qac890 qcc890 (g := (mkF m 96 #[.val (.ref ms), .val (.int (Int32.ofNat pp)), .val (.int (Int32.ofNat nn)), .val (.int (Int32.ofNat ii)), .val (.long (Int64.ofNat n)), .second, .val (.ref pw), .val (.long (((Int64.ofNat n) / (Int64.ofNat (10 ^ (nn - 1 - ii)))) - ((Int64.ofNat n) / (Int64.ofNat (10 ^ (nn - 1 - ii)))) / (10 : Int64) * (10 : Int64))), .second] [(.int (Int32.ofNat (pp + ii))), (.ref ms)])) rfl (by rw [hml]; rfl) (Steps.refl _) (argsL := [(.int (Int32.ofNat (pp + ii)))]) (rest := []) (lenOf own_pd620 rfl) rfl (by show 2 * 0 + _ ≤ _; exact Nat.le_of_eq rfl) (hb hby own_d621) (fun _ _ => ⟨rfl, e879, (by decide : 1 + 0 ≤ _), (by decide : 10 + 0 ≤ _)⟩)
    dsimp only [Pt.U, Pt.locs, Pt.cells, Pt.slots] at X889 l889 y889 z889 st889 hQ889
    subst l889 y889 z889
    obtain ⟨rfl, N889, e889⟩ := hQ889
    refine GoOn.trans st889 ?_
    have N891 := Fr.app N882 N889
    refine GoOn.step (fun tq kq => XS.bipush X889.here hx rfl (hb hby own_d622) kq) ?_
    refine GoOn.step (fun tq kq => XS.lload X889.here hx rfl (hb hby own_d623) rfl kq) ?_
    refine GoOn.step (fun tq kq => XS.l2i X889.here hx rfl (hb hby own_d624) rfl kq) ?_
    refine GoOn.step (fun tq kq => XS.iadd X889.here hx rfl (hb hby own_d625) rfl kq) ?_
    refine GoOn.step (fun tq kq => XS.i2c X889.here hx rfl (hb hby own_d626) rfl kq) ?_
    show GoOn p e below (T889.setTop (mkF m 106 #[.val (.ref ms), .val (.int (Int32.ofNat pp)), .val (.int (Int32.ofNat nn)), .val (.int (Int32.ofNat ii)), .val (.long (Int64.ofNat n)), .second, .val (.ref pw), .val (.long (((Int64.ofNat n) / (Int64.ofNat (10 ^ (nn - 1 - ii)))) - ((Int64.ofNat n) / (Int64.ofNat (10 ^ (nn - 1 - ii)))) / (10 : Int64) * (10 : Int64))), .second] [(.int ((((48 : Int32) + (((((Int64.ofNat n) / (Int64.ofNat (10 ^ (nn - 1 - ii)))) - ((Int64.ofNat n) / (Int64.ofNat (10 ^ (nn - 1 - ii)))) / (10 : Int64) * (10 : Int64))).toInt32))).toUInt32.toUInt16.toUInt32.toInt32)), (.int (es.getD (pp + ii) 0))])) _
    rw [own_dgt hn (show nn - 1 - ii < 10 by omega)]
    refine GoOn.step (fun tq kq => XS.icmpNo X889.here hx rfl (hb hby own_d627) rfl (teq (hq hc789)).2 kq) ?_
    refine GoOn.step (fun tq kq => XS.iconst X889.here hx rfl (hb hby own_d628) kq) ?_
    refine GoOn.step (fun tq kq => XS.goto X889.here hx rfl (pc0 := 110) (pc' := 114) rfl (hb hby own_d629) (by decide) (by decide) kq) ?_
    show GoOn p e below (T889.setTop (mkF m 114 #[.val (.ref ms), .val (.int (Int32.ofNat pp)), .val (.int (Int32.ofNat nn)), .val (.int (Int32.ofNat ii)), .val (.long (Int64.ofNat n)), .second, .val (.ref pw), .val (.long (((Int64.ofNat n) / (Int64.ofNat (10 ^ (nn - 1 - ii)))) - ((Int64.ofNat n) / (Int64.ofNat (10 ^ (nn - 1 - ii)))) / (10 : Int64) * (10 : Int64))), .second] [(.int (1 : Int32))])) _
    refine GoOn.ret X889 Bd.notSynchronized (v := some (.int (nar .boolean (1 : Int32)))) (fun h => by rw [Bd.returns] at h; cases h) (fun fs hr => retN X889 hx (t := .boolean) Bd.returns (by simp) (hb hby own_d630) hr) (by decide) (by decide) ?_
    rw [e889]
    exact ⟨rfl, N891, K886⟩
  · skip
    refine GoOn.step (fun tq kq => XS.icmpNo X0.here hx rfl (hb hby own_d560) rfl (flt (own_nle32 (Nat.le_of_not_lt hc789) (by omega))).1 kq) ?_
    refine GoOn.step (fun tq kq => XS.iconst X0.here hx rfl (hb hby own_d631) kq) ?_
    show GoOn p e below (s₁.setTop (mkF m 6 #[.val (.ref ms), .val (.int (Int32.ofNat pp)), .val (.int (Int32.ofNat nn)), .val (.int (Int32.ofNat ii)), .val (.long (Int64.ofNat n)), .second, .unset, .unset, .unset] [(.int (1 : Int32))])) _
    refine GoOn.ret X0 Bd.notSynchronized (v := some (.int (nar .boolean (1 : Int32)))) (fun h => by rw [Bd.returns] at h; cases h) (fun fs hr => retN X0 hx (t := .boolean) Bd.returns (by simp) (hb hby own_d632) hr) (by decide) (by decide) ?_
    rw [e0]
    exact ⟨rfl, N0, K0⟩
set_option maxRecDepth 65536 in
set_option maxHeartbeats 40000000 in
theorem rmGM (l : Launch) (Z : State) (a0 : Array Value) (hw : ∀ d ∈ tables_1, d.before a0 Z = true) (a b : Addr) (h0 : Heap) (n0 : Nat) (Z0 : n0 ≤ h0.size) (F0 : Fld Z h0 a "java/lang/Throwable" "detailMessage" "Ljava/lang/String;" (.ref b)) :
    MetFree l (⟨"java/lang/Throwable", "getMessage", "()Ljava/lang/String;"⟩ : MethodName) (head1 [Jvm.Cond.code (⟨"java/lang/Throwable", "getMessage", "()Ljava/lang/String;"⟩ : MethodName) jdk_78_method_6_code 1 (some (.object "java/lang/String"))] ({ frames := 0, cells := 0, slots := 0, locals := 0 } : Room)) (fun aa U => aa = #[(.ref a)] ∧ Z.Warmed39 U.vm ∧ U.heap = h0) (fun _ _ _ _ _ => True) (fun _ U o U' => ∃ v L, o = .returned v ∧ QSame (.ref b) h0 n0 v U'.heap L ∧ FrameEnd U o U' L ({ frames := 0, cells := 0, slots := 0, locals := 0 } : Room).cells ({ frames := 0, cells := 0, slots := 0, locals := 0 } : Room).slots) := by
  refine MetFree.of_bodySF (plainFor_of_name own_pn1) hisR ?_
  intro p e s m args below meth c s₁ Bd hml0 hP hK
  obtain ⟨rfl, hZ, hh⟩ := hP
  have hx := Bd.exec
  have hby := Bd.bytes
  have hml : c.maxLocals = 1 := hml0
  have hown : s.vm.findClass "java/lang/Throwable" = some m.cls := findClass_of_methodNamed Bd.named
  have hnm := (name_of_methodNamed Bd.named Bd.method).1
  have X0 : Stand p l e ({ frames := 0, cells := 0, slots := 0, locals := 0 } : Room) s m #[(.ref a)] below meth c s₁ [] 0 0 := Stand.of_body Bd
  have e0 : s₁.heap = h0 := by rw [← hh, Bd.state]; rfl
  have N0 := Fr.nil n0
  have K0 : Keep h0 h0 [] := Keep.refl _ _
  show GoOn p e below (s₁.setTop (entryFrame m #[(.ref a)] 1)) (PostN s (QSame (.ref b) h0 n0) ({ frames := 0, cells := 0, slots := 0, locals := 0 } : Room).cells ({ frames := 0, cells := 0, slots := 0, locals := 0 } : Room).slots)
  refine GoOn.step (fun tq kq => castTop (own_ef633 m a) kq) ?_
  refine GoOn.step (fun tq kq => XS.aloadN X0.here hx rfl (hb hby own_d634) rfl rfl kq) ?_
  show GoOn p e below (s₁.setTop (mkF m 1 #[.val (.ref a)] [(.ref a)])) _
  obtain ⟨T892, X892, e892, st892⟩ := getF X0 hx hZ hown (host := "") (Or.inl (hw _ (List.mem_of_getElem? (i := 213) rfl))) Via.refl e0 F0 (g := (mkF m 1 #[.val (.ref a)] [(.ref a)])) rfl rfl (hb hby own_d635)
  refine GoOn.step st892 ?_
  show GoOn p e below (T892.setTop (mkF m 4 #[.val (.ref a)] [(.ref b)])) _
  refine GoOn.ret X892 Bd.notSynchronized (v := some (.ref b)) (fun h => by rw [Bd.returns] at h; cases h) (fun fs hr => retOut X892 hx Bd.returns rfl (Or.inr (Or.inr (Or.inr (Or.inr ⟨rfl, rfl, rfl⟩)))) (hb hby own_d636) hr) (by decide) (by decide) ?_
  rw [e892]
  exact ⟨rfl, N0, rfl⟩
set_option maxRecDepth 65536 in
set_option maxHeartbeats 40000000 in
theorem rmAt (l : Launch) (Z : State) (a0 : Array Value) (hw : ∀ d ∈ tables_1, d.before a0 Z = true) (a1 a2 : Addr) (cs ds : List Int32) (G1 : Int32) (u0 w0 : Value) (x : Int32) (n : Nat) (st d1 : Addr) (D1 : Cell) (d2 : Addr) (D2 : Cell) (h0 : Heap) (n0 : Nat) (Z0 : n0 ≤ h0.size) (SC : Sta Z Z.heap "java/lang/String" "COMPACT_STRINGS" "Z" (.int G1)) (PC : ¬ G1 = (0 : Int32)) (hST : l.stackTraces = true) (SU : Sta Z Z.heap "java/lang/Throwable" "UNASSIGNED_STACK" "[Ljava/lang/StackTraceElement;" u0) (rU : u0.isRef = true) (SS : Sta Z Z.heap "java/lang/Throwable" "SUPPRESSED_SENTINEL" "Ljava/util/List;" w0) (rS : w0.isRef = true) (hn : n ≤ 2 ^ 31) (hx0 : (if x < 0 then x else -x) = Jvm.Free.SBG.negI n) (DG : own_Dig Z st d1 D1 d2 D2) (S1 : StrIs Z h0 a1 cs) (S2 : StrIs Z h0 a2 ds) (hl1 : cs.length ≤ 2) (hl2 : ds.length ≤ 2) (O0 : Old Z n0 h0) :
    MetFree l (⟨"com/example/faktorwerk/faktorwerk/model/InputRefusedException", "atLine", "(Ljava/lang/String;ILjava/lang/String;)Lcom/example/faktorwerk/faktorwerk/model/InputRefusedException;"⟩ : MethodName) (head1 [Jvm.Cond.code (⟨"com/example/faktorwerk/faktorwerk/model/InputRefusedException", "atLine", "(Ljava/lang/String;ILjava/lang/String;)Lcom/example/faktorwerk/faktorwerk/model/InputRefusedException;"⟩ : MethodName) prog_52_method_3_code 3 (some (.object "com/example/faktorwerk/faktorwerk/model/InputRefusedException"))] ({ frames := 6, cells := 11, slots := 2900, locals := 114 } : Room)) (fun aa U => aa = #[(.ref a1), (.int x), (.ref a2)] ∧ Z.Warmed39 U.vm ∧ U.heap = h0 ∧ CHv Z own_EL U.vm h0) (fun _ _ bl s _ => s.vm.MethodsKnown ∧ s.vm.FramesKnown bl) (fun _ U o U' => ∃ v L, o = .returned v ∧ QEx Z ((((([] ++ cs) ++ ([58] : List Int32)) ++ own_is x n) ++ ([58, 32] : List Int32)) ++ ds) h0 n0 v U'.heap L ∧ CHr Z own_EL U.vm U.heap U'.vm U'.heap ∧ ReturnedEndW U o U' L ({ frames := 6, cells := 11, slots := 2900, locals := 114 } : Room).cells ({ frames := 6, cells := 11, slots := 2900, locals := 114 } : Room).slots) := by
  refine MetFree.of_bodySF (plainFor_of_name own_pn29) hisR ?_
  intro p e s m args below meth c s₁ Bd hml0 hP hK
  obtain ⟨rfl, hZ, hh, hCH⟩ := hP
  have hx := Bd.exec
  have hby := Bd.bytes
  have hml : c.maxLocals = 3 := hml0
  have hown : s.vm.findClass "com/example/faktorwerk/faktorwerk/model/InputRefusedException" = some m.cls := findClass_of_methodNamed Bd.named
  have hnm := (name_of_methodNamed Bd.named Bd.method).1
  have X0 : Stand p l e ({ frames := 6, cells := 11, slots := 2900, locals := 114 } : Room) s m #[(.ref a1), (.int x), (.ref a2)] below meth c s₁ [] 0 0 := Stand.of_body Bd
  have e0 : s₁.heap = h0 := by rw [← hh, Bd.state]; rfl
  have N0 := Fr.nil n0
  have K0 : Keep h0 h0 [] := Keep.refl _ _
  show GoOn p e below (s₁.setTop (entryFrame m #[(.ref a1), (.int x), (.ref a2)] 3)) (PostH Z own_EL s (QEx Z ((((([] ++ cs) ++ ([58] : List Int32)) ++ own_is x n) ++ ([58, 32] : List Int32)) ++ ds) h0 n0) ({ frames := 6, cells := 11, slots := 2900, locals := 114 } : Room).cells ({ frames := 6, cells := 11, slots := 2900, locals := 114 } : Room).slots)
  refine GoOn.step (fun tq kq => castTop (own_ef637 m a1 x a2) kq) ?_
  have hS0 : s.Since s.vm h0.size := (State.WarmedH.refl s).since _
  have hk0 : h0.size ≤ h0.size := Nat.le_refl _
  replace X0 : Stand p l e ({ frames := 6, cells := 11, slots := 2900, locals := 114 } : Room) (s.setVm s.vm) m #[(.ref a1), (.int x), (.ref a2)] below meth c s₁ [] 0 0 := X0
  replace hZ : Z.Warmed39 (s.setVm s.vm).vm := hZ
  replace hown : (s.setVm s.vm).vm.findClass "com/example/faktorwerk/faktorwerk/model/InputRefusedException" = some m.cls := hown
  have C0 : CHr Z own_EL s.vm h0 s.vm h0 := CHr.refl hCH
  have hEL : EW Z a0 own_EL := own_EW hw
  have wS : ∀ d ∈ Bundle.stringAtoms, d.before a0 Z = true := fun d hd => hw d (own_sa d hd)
  show GoOn p e below (s₁.setTop (mkF m 0 #[.val (.ref a1), .val (.int x), .val (.ref a2)] [])) _
  have hp1 := S1.2.2.1
  have hp2 := S2.2.2.1
  have hlI := own_isle x n
  have U1 := StrUp.of S1
  have U2 := StrUp.of S2
  obtain ⟨T893, h893, X893, e893, Ex893, A893, Df893, Nu893, st893⟩ := newO X0 hx hZ hown (hw _ (List.mem_of_getElem? (i := 30) rfl)) (hw _ (List.mem_of_getElem? (i := 31) rfl)) (hw _ (List.mem_of_getElem? (i := 28) rfl)) e0 (g := (mkF m 0 #[.val (.ref a1), .val (.int x), .val (.ref a2)] [])) rfl (hb hby own_d638) (by decide) (by decide)
  obtain ⟨xx, g893⟩ : ∃ z, z = h0.size := ⟨_, rfl⟩
  rw [← g893] at A893 Df893 Nu893 st893
  have gn894 : n0 ≤ xx := Nat.le_trans Z0 (Nat.le_of_eq g893.symm)
  have sz895 : h0.size ≤ xx := Nat.le_trans K0.1 (Nat.le_of_eq g893.symm)
  have Kx893 : Keep h0 h893 [] := (Keep.refl _ _).ext Ex893
  refine GoOn.step st893 ?_
  have O896 : Old Z n0 h893 := O0.keep Kx893 all0
  have Z897 : n0 ≤ h893.size := Nat.le_trans Z0 Kx893.1
  have K898 : Keep h0 h893 [] := K0.trans Kx893 (all0)
  have C899 : CHr Z own_EL s.vm h0 s.vm h893 := CHr.trans C0 (CHr.keep Kx893 all0 C0.1)
  have Su900 : StrUp Z h893 a1 cs h0.size := U1.keep Kx893 all0
  have Su901 : StrUp Z h893 a2 ds h0.size := U2.keep Kx893 all0
  have hk902 := Nat.le_trans hk0 Kx893.1
  have Un893 : Unt h893 xx := Nu893
  have F903 : Fld Z h893 xx "java/lang/Throwable" "cause" "Ljava/lang/Throwable;" .null := Df893 (Or.inl (hw _ (List.mem_of_getElem? (i := 179) rfl))) (ty := (.object "java/lang/Throwable")) (by decide)
  have F904 : Fld Z h893 xx "java/lang/Throwable" "stackTrace" "[Ljava/lang/StackTraceElement;" .null := Df893 (Or.inl (hw _ (List.mem_of_getElem? (i := 182) rfl))) (ty := (.array (.object "java/lang/StackTraceElement"))) (by decide)
  have F905 : Fld Z h893 xx "java/lang/Throwable" "suppressedExceptions" "Ljava/util/List;" .null := Df893 (Or.inl (hw _ (List.mem_of_getElem? (i := 185) rfl))) (ty := (.object "java/util/List")) (by decide)
  have F906 : Fld Z h893 xx "java/lang/Throwable" "detailMessage" "Ljava/lang/String;" .null := Df893 (Or.inl (hw _ (List.mem_of_getElem? (i := 209) rfl))) (ty := (.object "java/lang/String")) (by decide)
  have F907 : Fld Z h893 xx "java/lang/Throwable" "backtrace" "Ljava/lang/Object;" .null := Df893 (Or.inl (hw _ (List.mem_of_getElem? (i := 210) rfl))) (ty := (.object "java/lang/Object")) (by decide)
  refine GoOn.step (fun tq kq => XS.dup X893.here hx rfl (hb hby own_d639) rfl rfl kq) ?_
  show GoOn p e below (T893.setTop (mkF m 4 #[.val (.ref a1), .val (.int x), .val (.ref a2)] [(.ref xx), (.ref xx)])) _
  obtain ⟨T908, h908, X908, e908, Ex908, A908, Df908, Nu908, st908⟩ := newO X893 hx hZ hown (hw _ (List.mem_of_getElem? (i := 32) rfl)) (hw _ (List.mem_of_getElem? (i := 33) rfl)) (hw _ (List.mem_of_getElem? (i := 34) rfl)) e893 (g := (mkF m 4 #[.val (.ref a1), .val (.int x), .val (.ref a2)] [(.ref xx), (.ref xx)])) rfl (hb hby own_d640) (by decide) (by decide)
  obtain ⟨sb, g908⟩ : ∃ z, z = h893.size := ⟨_, rfl⟩
  rw [← g908] at A908 Df908 Nu908 st908
  have gn909 : n0 ≤ sb := Nat.le_trans Z897 (Nat.le_of_eq g908.symm)
  have sz910 : h0.size ≤ sb := Nat.le_trans K898.1 (Nat.le_of_eq g908.symm)
  have ne911 : xx ≠ sb := Nat.ne_of_lt (Nat.lt_of_lt_of_le A893.lt (Nat.le_of_eq g908.symm))
  have Kx908 : Keep h893 h908 [] := (Keep.refl _ _).ext Ex908
  refine GoOn.step st908 ?_
  have O912 : Old Z n0 h908 := O896.keep Kx908 all0
  have Z913 : n0 ≤ h908.size := Nat.le_trans Z897 Kx908.1
  have K914 : Keep h0 h908 [] := K898.trans Kx908 (all0)
  have C915 : CHr Z own_EL s.vm h0 s.vm h908 := CHr.trans C899 (CHr.keep Kx908 all0 C899.1)
  have Su916 : StrUp Z h908 a1 cs h0.size := Su900.keep Kx908 all0
  have Su917 : StrUp Z h908 a2 ds h0.size := Su901.keep Kx908 all0
  have E918 : Exa Z h908 xx "com/example/faktorwerk/faktorwerk/model/InputRefusedException" := A893.keep Kx908
  have Un919 : Unt h908 xx := Unt.keep Kx908 nin0 Un893
  have F920 : Fld Z h908 xx "java/lang/Throwable" "cause" "Ljava/lang/Throwable;" .null := F903.keep Kx908 nin0
  have F921 : Fld Z h908 xx "java/lang/Throwable" "stackTrace" "[Ljava/lang/StackTraceElement;" .null := F904.keep Kx908 nin0
  have F922 : Fld Z h908 xx "java/lang/Throwable" "suppressedExceptions" "Ljava/util/List;" .null := F905.keep Kx908 nin0
  have F923 : Fld Z h908 xx "java/lang/Throwable" "detailMessage" "Ljava/lang/String;" .null := F906.keep Kx908 nin0
  have F924 : Fld Z h908 xx "java/lang/Throwable" "backtrace" "Ljava/lang/Object;" .null := F907.keep Kx908 nin0
  have hk925 := Nat.le_trans hk902 Kx908.1
  have F926 : Fld Z h908 sb "java/lang/AbstractStringBuilder" "value" "[B" .null := Df908 (Or.inl (hw _ (List.mem_of_getElem? (i := 47) rfl))) (ty := (.array .byte)) (by decide)
  have F927 : Fld Z h908 sb "java/lang/AbstractStringBuilder" "coder" "B" (.int (0 : Int32)) := Df908 (Or.inl (hw _ (List.mem_of_getElem? (i := 49) rfl))) (ty := .byte) (by decide)
  have F928 : Fld Z h908 sb "java/lang/AbstractStringBuilder" "count" "I" (.int (0 : Int32)) := Df908 (Or.inl (hw _ (List.mem_of_getElem? (i := 72) rfl))) (ty := .int) (by decide)
  refine GoOn.step (fun tq kq => XS.dup X908.here hx rfl (hb hby own_d641) rfl rfl kq) ?_
  show GoOn p e below (T908.setTop (mkF m 8 #[.val (.ref a1), .val (.int x), .val (.ref a2)] [(.ref sb), (.ref sb), (.ref xx), (.ref xx)])) _
  obtain ⟨_, _, ⟨T929, L929, k929, n929⟩, -, X929, ⟨Lc929, hQ929, l929, y929, z929⟩, st929⟩ := X908.specialBack hx (y := (⟨"java/lang/StringBuilder", "<init>", "()V"⟩ : MethodName)) rfl hown (mvT hZ (hw _ (List.mem_of_getElem? (i := 35) rfl))) (mvT hZ (hw _ (List.mem_of_getElem? (i := 36) rfl))) (mvT hZ (hw _ (List.mem_of_getElem? (i := 37) rfl))) (by decide) (backOf (W := 3) (rmSBI l Z a0 hw sb G1 h908 n0 Z913 SC PC A908 F927 F928 F926 gn909 O912) hZ (hw _ (List.mem_of_getElem? (i := 37) rfl)) (hw _ (List.mem_of_getElem? (i := 34) rfl)) (by decide) (by decide)) (g := (mkF m 8 #[.val (.ref a1), .val (.int x), .val (.ref a2)] [(.ref sb), (.ref sb), (.ref xx), (.ref xx)])) rfl (by rw [hml]; rfl) (Steps.refl _) (a := sb) (argsL := []) (rest := [(.ref sb), (.ref xx), (.ref xx)]) (lenOf own_pd643 rfl) rfl (by show 2 * 0 + _ ≤ _; exact Nat.le_of_eq rfl) (hb hby own_d642) (fun _ _ => ⟨rfl, e908, (by decide : 2 + 1 ≤ _), (by decide : 10 + 16 ≤ _)⟩)
  dsimp only [Pt.U, Pt.locs, Pt.cells, Pt.slots] at X929 l929 y929 z929 st929 hQ929
  subst l929 y929 z929
  obtain ⟨t929, kb929, rfl, N929, K929, ge929, E929, Fc929, Fn929, Fv929, V929, Eb929⟩ := hQ929
  refine GoOn.trans st929 ?_
  have N930 := Fr.app N0 N929
  have gn931 : n0 ≤ t929 := Nat.le_trans Z913 ge929
  have sz932 : h0.size ≤ t929 := Nat.le_trans K914.1 ge929
  have ne933 : xx ≠ t929 := Nat.ne_of_lt (Nat.lt_of_lt_of_le E918.lt ge929)
  have ne934 : sb ≠ t929 := Nat.ne_of_lt (Nat.lt_of_lt_of_le A908.lt ge929)
  have Sf935 : Safe Z own_EL s.vm h908 t929 := Safe.new ge929
  have O936 : Old Z n0 T929.heap := O912.keep K929 (allS gn909 all0)
  have Z937 : n0 ≤ T929.heap.size := Nat.le_trans Z913 K929.1
  have K938 : Keep h0 T929.heap [] := K914.trans K929 ((allS (Or.inr sz910) all0))
  have C939 : CHr Z own_EL s.vm h0 s.vm T929.heap := CHr.trans C915 (CHr.keep K929 (allS (Safe.exa hZ.alike A908 (by decide) (by decide)) all0) C915.1)
  have Su940 : StrUp Z T929.heap a1 cs h0.size := Su916.keep K929 (allS sz910 all0)
  have Su941 : StrUp Z T929.heap a2 ds h0.size := Su917.keep K929 (allS sz910 all0)
  have E942 : Exa Z T929.heap xx "com/example/faktorwerk/faktorwerk/model/InputRefusedException" := E918.keep K929
  have Un943 : Unt T929.heap xx := Unt.keep K929 (ninS ne911 nin0) Un919
  have F944 : Fld Z T929.heap xx "java/lang/Throwable" "cause" "Ljava/lang/Throwable;" .null := F920.keep K929 (ninS ne911 nin0)
  have F945 : Fld Z T929.heap xx "java/lang/Throwable" "stackTrace" "[Ljava/lang/StackTraceElement;" .null := F921.keep K929 (ninS ne911 nin0)
  have F946 : Fld Z T929.heap xx "java/lang/Throwable" "suppressedExceptions" "Ljava/util/List;" .null := F922.keep K929 (ninS ne911 nin0)
  have F947 : Fld Z T929.heap xx "java/lang/Throwable" "detailMessage" "Ljava/lang/String;" .null := F923.keep K929 (ninS ne911 nin0)
  have F948 : Fld Z T929.heap xx "java/lang/Throwable" "backtrace" "Ljava/lang/Object;" .null := F924.keep K929 (ninS ne911 nin0)
  have E949 : Exa Z T929.heap sb "java/lang/StringBuilder" := A908.keep K929
  have Sf953 : Safe Z own_EL s.vm T929.heap t929 := Safe.keep K929 (allS (Safe.exa hZ.alike A908 (by decide) (by decide)) all0) C915.1 Sf935
  have hk954 := Nat.le_trans hk925 K929.1
  show GoOn p e below (T929.setTop (mkF m 11 #[.val (.ref a1), .val (.int x), .val (.ref a2)] [(.ref sb), (.ref xx), (.ref xx)])) _
  have V955 : Arv Z T929.heap t929 kb929 .byte (Int32.ofNat 16) (own_sb 16 []) (.int 0) := V929.pad (pad_rep [] (.int 0) 16)
  refine GoOn.step (fun tq kq => XS.aloadN X929.here hx rfl (hb hby own_d644) rfl rfl kq) ?_
  show GoOn p e below (T929.setTop (mkF m 12 #[.val (.ref a1), .val (.int x), .val (.ref a2)] [(.ref a1), (.ref sb), (.ref xx), (.ref xx)])) _
  obtain ⟨cqc957, kqc957, qac957, qbc957, qcc957⟩ := isOf hZ rfl E949
  obtain ⟨_, _, ⟨T956, L956, k956, n956⟩, -, X956, ⟨Lc956, hQ956, l956, y956, z956⟩, st956⟩ := X929.virtualBack hx (y := (⟨"java/lang/StringBuilder", "append", "(Ljava/lang/String;)Ljava/lang/StringBuilder;"⟩ : MethodName)) (z := (⟨"java/lang/StringBuilder", "append", "(Ljava/lang/String;)Ljava/lang/StringBuilder;"⟩ : MethodName)) hown (mvT hZ (hw _ (List.mem_of_getElem? (i := 50) rfl))) (mvT hZ (hw _ (List.mem_of_getElem? (i := 51) rfl))) (notFace_of_selects (args := #[]) (mvT hZ (hw _ (List.mem_of_getElem? (i := 53) rfl)))) (mvT hZ (hw _ (List.mem_of_getElem? (i := 53) rfl))) (mvT hZ (hw _ (List.mem_of_getElem? (i := 52) rfl))) (by decide) (backOf (W := 2) (rmSBA l Z a0 hw a1 sb t929 kb929 16 ([] : List Int32) cs G1 T929.heap n0 Z937 SC PC E949 Fc929 Fn929 Fv929 V955 Su940.is gn909 gn931 (Su940.sv sz932) (show (List.length ([] : List Int32)) + cs.length ≤ 16 by simp; omega) (by decide) O936) hZ (hw _ (List.mem_of_getElem? (i := 54) rfl)) (hw _ (List.mem_of_getElem? (i := 34) rfl)) (by decide) (by decide)) qac957 qcc957 (g := (mkF m 12 #[.val (.ref a1), .val (.int x), .val (.ref a2)] [(.ref a1), (.ref sb), (.ref xx), (.ref xx)])) rfl (by rw [hml]; rfl) (Steps.refl _) (argsL := [(.ref a1)]) (rest := [(.ref xx), (.ref xx)]) (lenOf own_pd646 rfl) rfl (by show 2 * 0 + _ ≤ _; exact Nat.le_of_eq rfl) (hb hby own_d645) (fun _ _ => ⟨rfl, rfl, (by decide : 3 + 0 ≤ _), (by decide : 26 + 0 ≤ _)⟩)
  dsimp only [Pt.U, Pt.locs, Pt.cells, Pt.slots] at X956 l956 y956 z956 st956 hQ956
  subst l956 y956 z956
  obtain ⟨rfl, N956, K956, E956, Fc956, Fn956, Fv956, V956⟩ := hQ956
  refine GoOn.trans st956 ?_
  have N958 := Fr.app N930 N956
  have O959 : Old Z n0 T956.heap := O936.keep K956 (allS gn909 (allS gn931 all0))
  have Z960 : n0 ≤ T956.heap.size := Nat.le_trans Z937 K956.1
  have K961 : Keep h0 T956.heap [] := K938.trans K956 ((allS (Or.inr sz910) (allS (Or.inr sz932) all0)))
  have C962 : CHr Z own_EL s.vm h0 s.vm T956.heap := CHr.trans C939 (CHr.keep K956 (allS (Safe.exa hZ.alike E949 (by decide) (by decide)) (allS Sf953 all0)) C939.1)
  have Su963 : StrUp Z T956.heap a1 cs h0.size := Su940.keep K956 (allS sz910 (allS sz932 all0))
  have Su964 : StrUp Z T956.heap a2 ds h0.size := Su941.keep K956 (allS sz910 (allS sz932 all0))
  have E965 : Exa Z T956.heap xx "com/example/faktorwerk/faktorwerk/model/InputRefusedException" := E942.keep K956
  have Un966 : Unt T956.heap xx := Unt.keep K956 (ninS ne911 (ninS ne933 nin0)) Un943
  have F967 : Fld Z T956.heap xx "java/lang/Throwable" "cause" "Ljava/lang/Throwable;" .null := F944.keep K956 (ninS ne911 (ninS ne933 nin0))
  have F968 : Fld Z T956.heap xx "java/lang/Throwable" "stackTrace" "[Ljava/lang/StackTraceElement;" .null := F945.keep K956 (ninS ne911 (ninS ne933 nin0))
  have F969 : Fld Z T956.heap xx "java/lang/Throwable" "suppressedExceptions" "Ljava/util/List;" .null := F946.keep K956 (ninS ne911 (ninS ne933 nin0))
  have F970 : Fld Z T956.heap xx "java/lang/Throwable" "detailMessage" "Ljava/lang/String;" .null := F947.keep K956 (ninS ne911 (ninS ne933 nin0))
  have F971 : Fld Z T956.heap xx "java/lang/Throwable" "backtrace" "Ljava/lang/Object;" .null := F948.keep K956 (ninS ne911 (ninS ne933 nin0))
  have E972 : Exa Z T956.heap sb "java/lang/StringBuilder" := E949.keep K956
  have Sf973 : Safe Z own_EL s.vm T956.heap t929 := Safe.keep K956 (allS (Safe.exa hZ.alike E949 (by decide) (by decide)) (allS Sf953 all0)) C939.1 Sf953
  have Eb977 : Exa Z T956.heap t929 "[B" := Eb929.keep K956
  have hk979 := Nat.le_trans hk954 K956.1
  show GoOn p e below (T956.setTop (mkF m 15 #[.val (.ref a1), .val (.int x), .val (.ref a2)] [(.ref sb), (.ref xx), (.ref xx)])) _
  obtain ⟨lt980, T980, h980, k1980, lb980, kb980, X980, e980, Ex980, hS980, hk980, hZ980, hown980, El980, Flc980, Flv980, Al980, lla980, llb980, Cn980, Lt980, Ns980, st980⟩ := ldcCH X956 hx hZ hown (hw _ (List.mem_of_getElem? (i := 98) rfl)) wS rfl hS0 hk979 hEL (by decide) C962.1 (vs := [(.int 58)]) (z := (1 : Int32)) (by decide) (by decide) (by decide) (g := (mkF m 15 #[.val (.ref a1), .val (.int x), .val (.ref a2)] [(.ref sb), (.ref xx), (.ref xx)])) rfl (hb hby own_d647) (n := 4) (by decide) (by decide) (by decide) (by decide)
  have Kx980 : Keep T956.heap h980 [] := (Keep.refl _ _).ext Ex980
  refine GoOn.step st980 ?_
  have O981 : Old Z n0 h980 := O959.keep Kx980 all0
  have Z982 : n0 ≤ h980.size := Nat.le_trans Z960 Kx980.1
  have K983 : Keep h0 h980 [] := K961.trans Kx980 all0
  have C984 : CHr Z own_EL s.vm h0 T980.vm h980 := CHr.trans C962 Cn980
  have Su985 : StrUp Z h980 a1 cs h0.size := Su963.keep Kx980 all0
  have Su986 : StrUp Z h980 a2 ds h0.size := Su964.keep Kx980 all0
  have E987 : Exa Z h980 xx "com/example/faktorwerk/faktorwerk/model/InputRefusedException" := E965.keep Kx980
  have Un988 : Unt h980 xx := own_untk Un966 Kx980
  have F989 : Fld Z h980 xx "java/lang/Throwable" "cause" "Ljava/lang/Throwable;" .null := F967.keep Kx980 nin0
  have F990 : Fld Z h980 xx "java/lang/Throwable" "stackTrace" "[Ljava/lang/StackTraceElement;" .null := F968.keep Kx980 nin0
  have F991 : Fld Z h980 xx "java/lang/Throwable" "suppressedExceptions" "Ljava/util/List;" .null := F969.keep Kx980 nin0
  have F992 : Fld Z h980 xx "java/lang/Throwable" "detailMessage" "Ljava/lang/String;" .null := F970.keep Kx980 nin0
  have F993 : Fld Z h980 xx "java/lang/Throwable" "backtrace" "Ljava/lang/Object;" .null := F971.keep Kx980 nin0
  have E994 : Exa Z h980 sb "java/lang/StringBuilder" := E972.keep Kx980
  have Sf995 : Safe Z own_EL T980.vm h980 t929 := CHr.safe Cn980 V956.lt Sf973
  have Eb996 : Exa Z h980 t929 "[B" := Eb977.keep Kx980
  have F997 : Fld Z h980 sb "java/lang/AbstractStringBuilder" "coder" "B" (.int 0) := Fc956.keep Kx980 nin0
  have F998 : Fld Z h980 sb "java/lang/AbstractStringBuilder" "count" "I" (.int (Int32.ofNat (([] : List Int32) ++ cs).length)) := Fn956.keep Kx980 nin0
  have F999 : Fld Z h980 sb "java/lang/AbstractStringBuilder" "value" "[B" (.ref t929) := Fv956.keep Kx980 nin0
  have V1000 : Arv Z h980 t929 kb929 .byte (Int32.ofNat 16) (own_sb 16 (([] : List Int32) ++ cs)) (.int 0) := V956.keep Kx980 nin0
  have ne1001 : t929 ≠ lt980 := (Ns980 _ Sf995).1
  have ne1002 : t929 ≠ lb980 := (Ns980 _ Sf995).2
  show GoOn p e below (T980.setTop (mkF m 17 #[.val (.ref a1), .val (.int x), .val (.ref a2)] [(.ref lt980), (.ref sb), (.ref xx), (.ref xx)])) _
  have Sr1003 : StrIs Z h980 lt980 ([58] : List Int32) := ⟨El980, Flc980, by decide, by decide, lb980, kb980, Flv980, Al980⟩
  obtain ⟨cqc1005, kqc1005, qac1005, qbc1005, qcc1005⟩ := isOf hZ980 e980 E994
  obtain ⟨_, _, ⟨T1004, L1004, k1004, n1004⟩, -, X1004, ⟨Lc1004, hQ1004, l1004, y1004, z1004⟩, st1004⟩ := X980.virtualBack hx (y := (⟨"java/lang/StringBuilder", "append", "(Ljava/lang/String;)Ljava/lang/StringBuilder;"⟩ : MethodName)) (z := (⟨"java/lang/StringBuilder", "append", "(Ljava/lang/String;)Ljava/lang/StringBuilder;"⟩ : MethodName)) hown980 (mvT hZ980 (hw _ (List.mem_of_getElem? (i := 50) rfl))) (mvT hZ980 (hw _ (List.mem_of_getElem? (i := 51) rfl))) (notFace_of_selects (args := #[]) (mvT hZ980 (hw _ (List.mem_of_getElem? (i := 53) rfl)))) (mvT hZ980 (hw _ (List.mem_of_getElem? (i := 53) rfl))) (mvT hZ980 (hw _ (List.mem_of_getElem? (i := 52) rfl))) (by decide) (backOf (W := 2) (rmSBA l Z a0 hw lt980 sb t929 kb929 16 (([] : List Int32) ++ cs) ([58] : List Int32) G1 h980 n0 Z982 SC PC E994 F997 F998 F999 V1000 Sr1003 gn909 gn931 (fun sv F => by cases own_finj F Flv980; exact (ne1002).symm) (by simp; omega) (by decide) O981) hZ980 (hw _ (List.mem_of_getElem? (i := 54) rfl)) (hw _ (List.mem_of_getElem? (i := 34) rfl)) (by decide) (by decide)) qac1005 qcc1005 (g := (mkF m 17 #[.val (.ref a1), .val (.int x), .val (.ref a2)] [(.ref lt980), (.ref sb), (.ref xx), (.ref xx)])) rfl (by rw [hml]; rfl) (Steps.refl _) (argsL := [(.ref lt980)]) (rest := [(.ref xx), (.ref xx)]) (lenOf own_pd646 rfl) rfl (by show 2 * 0 + _ ≤ _; exact Nat.le_of_eq rfl) (hb hby own_d648) (fun _ _ => ⟨rfl, e980, (by decide : 5 + 0 ≤ _), (by decide : 34 + 0 ≤ _)⟩)
  dsimp only [Pt.U, Pt.locs, Pt.cells, Pt.slots] at X1004 l1004 y1004 z1004 st1004 hQ1004
  subst l1004 y1004 z1004
  obtain ⟨rfl, N1004, K1004, E1004, Fc1004, Fn1004, Fv1004, V1004⟩ := hQ1004
  refine GoOn.trans st1004 ?_
  have N1006 := Fr.app N958 N1004
  have O1007 : Old Z n0 T1004.heap := O981.keep K1004 (allS gn909 (allS gn931 all0))
  have Z1008 : n0 ≤ T1004.heap.size := Nat.le_trans Z982 K1004.1
  have K1009 : Keep h0 T1004.heap [] := K983.trans K1004 ((allS (Or.inr sz910) (allS (Or.inr sz932) all0)))
  have C1010 : CHr Z own_EL s.vm h0 T980.vm T1004.heap := CHr.trans C984 (CHr.keep K1004 (allS (Safe.exa hZ980.alike E994 (by decide) (by decide)) (allS Sf995 all0)) C984.1)
  have Su1011 : StrUp Z T1004.heap a1 cs h0.size := Su985.keep K1004 (allS sz910 (allS sz932 all0))
  have Su1012 : StrUp Z T1004.heap a2 ds h0.size := Su986.keep K1004 (allS sz910 (allS sz932 all0))
  have E1013 : Exa Z T1004.heap xx "com/example/faktorwerk/faktorwerk/model/InputRefusedException" := E987.keep K1004
  have Un1014 : Unt T1004.heap xx := Unt.keep K1004 (ninS ne911 (ninS ne933 nin0)) Un988
  have F1015 : Fld Z T1004.heap xx "java/lang/Throwable" "cause" "Ljava/lang/Throwable;" .null := F989.keep K1004 (ninS ne911 (ninS ne933 nin0))
  have F1016 : Fld Z T1004.heap xx "java/lang/Throwable" "stackTrace" "[Ljava/lang/StackTraceElement;" .null := F990.keep K1004 (ninS ne911 (ninS ne933 nin0))
  have F1017 : Fld Z T1004.heap xx "java/lang/Throwable" "suppressedExceptions" "Ljava/util/List;" .null := F991.keep K1004 (ninS ne911 (ninS ne933 nin0))
  have F1018 : Fld Z T1004.heap xx "java/lang/Throwable" "detailMessage" "Ljava/lang/String;" .null := F992.keep K1004 (ninS ne911 (ninS ne933 nin0))
  have F1019 : Fld Z T1004.heap xx "java/lang/Throwable" "backtrace" "Ljava/lang/Object;" .null := F993.keep K1004 (ninS ne911 (ninS ne933 nin0))
  have E1020 : Exa Z T1004.heap sb "java/lang/StringBuilder" := E994.keep K1004
  have Sf1021 : Safe Z own_EL T980.vm T1004.heap t929 := Safe.keep K1004 (allS (Safe.exa hZ980.alike E994 (by decide) (by decide)) (allS Sf995 all0)) C984.1 Sf995
  have Eb1022 : Exa Z T1004.heap t929 "[B" := Eb996.keep K1004
  have hk1027 := Nat.le_trans hk980 K1004.1
  refine GoOn.step (fun tq kq => XS.iloadN X1004.here hx rfl (hb hby own_d649) rfl kq) ?_
  show GoOn p e below (T1004.setTop (mkF m 21 #[.val (.ref a1), .val (.int x), .val (.ref a2)] [(.int x), (.ref sb), (.ref xx), (.ref xx)])) _
  obtain ⟨cqc1029, kqc1029, qac1029, qbc1029, qcc1029⟩ := isOf hZ980 rfl E1020
  obtain ⟨_, _, ⟨T1028, L1028, k1028, n1028⟩, -, X1028, ⟨Lc1028, hQ1028, l1028, y1028, z1028⟩, st1028⟩ := X1004.virtualBack hx (y := (⟨"java/lang/StringBuilder", "append", "(I)Ljava/lang/StringBuilder;"⟩ : MethodName)) (z := (⟨"java/lang/StringBuilder", "append", "(I)Ljava/lang/StringBuilder;"⟩ : MethodName)) hown980 (mvT hZ980 (hw _ (List.mem_of_getElem? (i := 99) rfl))) (mvT hZ980 (hw _ (List.mem_of_getElem? (i := 100) rfl))) (notFace_of_selects (args := #[]) (mvT hZ980 (hw _ (List.mem_of_getElem? (i := 102) rfl)))) (mvT hZ980 (hw _ (List.mem_of_getElem? (i := 102) rfl))) (mvT hZ980 (hw _ (List.mem_of_getElem? (i := 101) rfl))) (by decide) (backOf (W := 2) (rmSBAI l Z a0 hw sb t929 kb929 16 ((([] : List Int32) ++ cs) ++ ([58] : List Int32)) G1 x n st d1 D1 d2 D2 T1004.heap n0 Z1008 SC PC E1020 Fc1004 Fn1004 Fv1004 V1004 gn909 gn931 (by simp; omega) (by decide) hn hx0 DG O1007) hZ980 (hw _ (List.mem_of_getElem? (i := 103) rfl)) (hw _ (List.mem_of_getElem? (i := 34) rfl)) (by decide) (by decide)) qac1029 qcc1029 (g := (mkF m 21 #[.val (.ref a1), .val (.int x), .val (.ref a2)] [(.int x), (.ref sb), (.ref xx), (.ref xx)])) rfl (by rw [hml]; rfl) (Steps.refl _) (argsL := [(.int x)]) (rest := [(.ref xx), (.ref xx)]) (lenOf own_pd651 rfl) rfl (by show 2 * 0 + _ ≤ _; exact Nat.le_of_eq rfl) (hb hby own_d650) (fun _ _ => ⟨rfl, rfl, (by decide : 5 + 0 ≤ _), (by decide : 34 + 0 ≤ _)⟩)
  dsimp only [Pt.U, Pt.locs, Pt.cells, Pt.slots] at X1028 l1028 y1028 z1028 st1028 hQ1028
  subst l1028 y1028 z1028
  obtain ⟨rfl, N1028, K1028, E1028, Fc1028, Fn1028, Fv1028, V1028⟩ := hQ1028
  refine GoOn.trans st1028 ?_
  have N1030 := Fr.app N1006 N1028
  have O1031 : Old Z n0 T1028.heap := O1007.keep K1028 (allS gn909 (allS gn931 all0))
  have Z1032 : n0 ≤ T1028.heap.size := Nat.le_trans Z1008 K1028.1
  have K1033 : Keep h0 T1028.heap [] := K1009.trans K1028 ((allS (Or.inr sz910) (allS (Or.inr sz932) all0)))
  have C1034 : CHr Z own_EL s.vm h0 T980.vm T1028.heap := CHr.trans C1010 (CHr.keep K1028 (allS (Safe.exa hZ980.alike E1020 (by decide) (by decide)) (allS Sf1021 all0)) C1010.1)
  have Su1035 : StrUp Z T1028.heap a1 cs h0.size := Su1011.keep K1028 (allS sz910 (allS sz932 all0))
  have Su1036 : StrUp Z T1028.heap a2 ds h0.size := Su1012.keep K1028 (allS sz910 (allS sz932 all0))
  have E1037 : Exa Z T1028.heap xx "com/example/faktorwerk/faktorwerk/model/InputRefusedException" := E1013.keep K1028
  have Un1038 : Unt T1028.heap xx := Unt.keep K1028 (ninS ne911 (ninS ne933 nin0)) Un1014
  have F1039 : Fld Z T1028.heap xx "java/lang/Throwable" "cause" "Ljava/lang/Throwable;" .null := F1015.keep K1028 (ninS ne911 (ninS ne933 nin0))
  have F1040 : Fld Z T1028.heap xx "java/lang/Throwable" "stackTrace" "[Ljava/lang/StackTraceElement;" .null := F1016.keep K1028 (ninS ne911 (ninS ne933 nin0))
  have F1041 : Fld Z T1028.heap xx "java/lang/Throwable" "suppressedExceptions" "Ljava/util/List;" .null := F1017.keep K1028 (ninS ne911 (ninS ne933 nin0))
  have F1042 : Fld Z T1028.heap xx "java/lang/Throwable" "detailMessage" "Ljava/lang/String;" .null := F1018.keep K1028 (ninS ne911 (ninS ne933 nin0))
  have F1043 : Fld Z T1028.heap xx "java/lang/Throwable" "backtrace" "Ljava/lang/Object;" .null := F1019.keep K1028 (ninS ne911 (ninS ne933 nin0))
  have E1044 : Exa Z T1028.heap sb "java/lang/StringBuilder" := E1020.keep K1028
  have Sf1045 : Safe Z own_EL T980.vm T1028.heap t929 := Safe.keep K1028 (allS (Safe.exa hZ980.alike E1020 (by decide) (by decide)) (allS Sf1021 all0)) C1010.1 Sf1021
  have Eb1046 : Exa Z T1028.heap t929 "[B" := Eb1022.keep K1028
  have hk1051 := Nat.le_trans hk1027 K1028.1
  show GoOn p e below (T1028.setTop (mkF m 24 #[.val (.ref a1), .val (.int x), .val (.ref a2)] [(.ref sb), (.ref xx), (.ref xx)])) _
  obtain ⟨lt1052, T1052, h1052, k11052, lb1052, kb1052, X1052, e1052, Ex1052, hS1052, hk1052, hZ1052, hown1052, El1052, Flc1052, Flv1052, Al1052, lla1052, llb1052, Cn1052, Lt1052, Ns1052, st1052⟩ := ldcCH X1028 hx hZ980 hown980 (hw _ (List.mem_of_getElem? (i := 121) rfl)) wS rfl hS980 hk1051 hEL (by decide) C1034.1 (vs := [(.int 58), (.int 32)]) (z := (2 : Int32)) (by decide) (by decide) (by decide) (g := (mkF m 24 #[.val (.ref a1), .val (.int x), .val (.ref a2)] [(.ref sb), (.ref xx), (.ref xx)])) rfl (hb hby own_d652) (n := 8) (by decide) (by decide) (by decide) (by decide)
  have Kx1052 : Keep T1028.heap h1052 [] := (Keep.refl _ _).ext Ex1052
  refine GoOn.step st1052 ?_
  have O1053 : Old Z n0 h1052 := O1031.keep Kx1052 all0
  have Z1054 : n0 ≤ h1052.size := Nat.le_trans Z1032 Kx1052.1
  have K1055 : Keep h0 h1052 [] := K1033.trans Kx1052 all0
  have C1056 : CHr Z own_EL s.vm h0 T1052.vm h1052 := CHr.trans C1034 Cn1052
  have Su1057 : StrUp Z h1052 a1 cs h0.size := Su1035.keep Kx1052 all0
  have Su1058 : StrUp Z h1052 a2 ds h0.size := Su1036.keep Kx1052 all0
  have E1059 : Exa Z h1052 xx "com/example/faktorwerk/faktorwerk/model/InputRefusedException" := E1037.keep Kx1052
  have Un1060 : Unt h1052 xx := own_untk Un1038 Kx1052
  have F1061 : Fld Z h1052 xx "java/lang/Throwable" "cause" "Ljava/lang/Throwable;" .null := F1039.keep Kx1052 nin0
  have F1062 : Fld Z h1052 xx "java/lang/Throwable" "stackTrace" "[Ljava/lang/StackTraceElement;" .null := F1040.keep Kx1052 nin0
  have F1063 : Fld Z h1052 xx "java/lang/Throwable" "suppressedExceptions" "Ljava/util/List;" .null := F1041.keep Kx1052 nin0
  have F1064 : Fld Z h1052 xx "java/lang/Throwable" "detailMessage" "Ljava/lang/String;" .null := F1042.keep Kx1052 nin0
  have F1065 : Fld Z h1052 xx "java/lang/Throwable" "backtrace" "Ljava/lang/Object;" .null := F1043.keep Kx1052 nin0
  have E1066 : Exa Z h1052 sb "java/lang/StringBuilder" := E1044.keep Kx1052
  have Sf1067 : Safe Z own_EL T1052.vm h1052 t929 := CHr.safe Cn1052 V1028.lt Sf1045
  have Eb1068 : Exa Z h1052 t929 "[B" := Eb1046.keep Kx1052
  have F1069 : Fld Z h1052 sb "java/lang/AbstractStringBuilder" "coder" "B" (.int 0) := Fc1028.keep Kx1052 nin0
  have F1070 : Fld Z h1052 sb "java/lang/AbstractStringBuilder" "count" "I" (.int (Int32.ofNat (((([] : List Int32) ++ cs) ++ ([58] : List Int32)) ++ own_is x n).length)) := Fn1028.keep Kx1052 nin0
  have F1071 : Fld Z h1052 sb "java/lang/AbstractStringBuilder" "value" "[B" (.ref t929) := Fv1028.keep Kx1052 nin0
  have V1072 : Arv Z h1052 t929 kb929 .byte (Int32.ofNat 16) (own_sb 16 (((([] : List Int32) ++ cs) ++ ([58] : List Int32)) ++ own_is x n)) (.int 0) := V1028.keep Kx1052 nin0
  have ne1073 : t929 ≠ lt1052 := (Ns1052 _ Sf1067).1
  have ne1074 : t929 ≠ lb1052 := (Ns1052 _ Sf1067).2
  show GoOn p e below (T1052.setTop (mkF m 26 #[.val (.ref a1), .val (.int x), .val (.ref a2)] [(.ref lt1052), (.ref sb), (.ref xx), (.ref xx)])) _
  have Sr1075 : StrIs Z h1052 lt1052 ([58, 32] : List Int32) := ⟨El1052, Flc1052, by decide, by decide, lb1052, kb1052, Flv1052, Al1052⟩
  obtain ⟨cqc1077, kqc1077, qac1077, qbc1077, qcc1077⟩ := isOf hZ1052 e1052 E1066
  obtain ⟨_, _, ⟨T1076, L1076, k1076, n1076⟩, -, X1076, ⟨Lc1076, hQ1076, l1076, y1076, z1076⟩, st1076⟩ := X1052.virtualBack hx (y := (⟨"java/lang/StringBuilder", "append", "(Ljava/lang/String;)Ljava/lang/StringBuilder;"⟩ : MethodName)) (z := (⟨"java/lang/StringBuilder", "append", "(Ljava/lang/String;)Ljava/lang/StringBuilder;"⟩ : MethodName)) hown1052 (mvT hZ1052 (hw _ (List.mem_of_getElem? (i := 50) rfl))) (mvT hZ1052 (hw _ (List.mem_of_getElem? (i := 51) rfl))) (notFace_of_selects (args := #[]) (mvT hZ1052 (hw _ (List.mem_of_getElem? (i := 53) rfl)))) (mvT hZ1052 (hw _ (List.mem_of_getElem? (i := 53) rfl))) (mvT hZ1052 (hw _ (List.mem_of_getElem? (i := 52) rfl))) (by decide) (backOf (W := 2) (rmSBA l Z a0 hw lt1052 sb t929 kb929 16 (((([] : List Int32) ++ cs) ++ ([58] : List Int32)) ++ own_is x n) ([58, 32] : List Int32) G1 h1052 n0 Z1054 SC PC E1066 F1069 F1070 F1071 V1072 Sr1075 gn909 gn931 (fun sv F => by cases own_finj F Flv1052; exact (ne1074).symm) (by simp; omega) (by decide) O1053) hZ1052 (hw _ (List.mem_of_getElem? (i := 54) rfl)) (hw _ (List.mem_of_getElem? (i := 34) rfl)) (by decide) (by decide)) qac1077 qcc1077 (g := (mkF m 26 #[.val (.ref a1), .val (.int x), .val (.ref a2)] [(.ref lt1052), (.ref sb), (.ref xx), (.ref xx)])) rfl (by rw [hml]; rfl) (Steps.refl _) (argsL := [(.ref lt1052)]) (rest := [(.ref xx), (.ref xx)]) (lenOf own_pd646 rfl) rfl (by show 2 * 0 + _ ≤ _; exact Nat.le_of_eq rfl) (hb hby own_d653) (fun _ _ => ⟨rfl, e1052, (by decide : 7 + 0 ≤ _), (by decide : 46 + 0 ≤ _)⟩)
  dsimp only [Pt.U, Pt.locs, Pt.cells, Pt.slots] at X1076 l1076 y1076 z1076 st1076 hQ1076
  subst l1076 y1076 z1076
  obtain ⟨rfl, N1076, K1076, E1076, Fc1076, Fn1076, Fv1076, V1076⟩ := hQ1076
  refine GoOn.trans st1076 ?_
  have N1078 := Fr.app N1030 N1076
  have O1079 : Old Z n0 T1076.heap := O1053.keep K1076 (allS gn909 (allS gn931 all0))
  have Z1080 : n0 ≤ T1076.heap.size := Nat.le_trans Z1054 K1076.1
  have K1081 : Keep h0 T1076.heap [] := K1055.trans K1076 ((allS (Or.inr sz910) (allS (Or.inr sz932) all0)))
  have C1082 : CHr Z own_EL s.vm h0 T1052.vm T1076.heap := CHr.trans C1056 (CHr.keep K1076 (allS (Safe.exa hZ1052.alike E1066 (by decide) (by decide)) (allS Sf1067 all0)) C1056.1)
  have Su1083 : StrUp Z T1076.heap a1 cs h0.size := Su1057.keep K1076 (allS sz910 (allS sz932 all0))
  have Su1084 : StrUp Z T1076.heap a2 ds h0.size := Su1058.keep K1076 (allS sz910 (allS sz932 all0))
  have E1085 : Exa Z T1076.heap xx "com/example/faktorwerk/faktorwerk/model/InputRefusedException" := E1059.keep K1076
  have Un1086 : Unt T1076.heap xx := Unt.keep K1076 (ninS ne911 (ninS ne933 nin0)) Un1060
  have F1087 : Fld Z T1076.heap xx "java/lang/Throwable" "cause" "Ljava/lang/Throwable;" .null := F1061.keep K1076 (ninS ne911 (ninS ne933 nin0))
  have F1088 : Fld Z T1076.heap xx "java/lang/Throwable" "stackTrace" "[Ljava/lang/StackTraceElement;" .null := F1062.keep K1076 (ninS ne911 (ninS ne933 nin0))
  have F1089 : Fld Z T1076.heap xx "java/lang/Throwable" "suppressedExceptions" "Ljava/util/List;" .null := F1063.keep K1076 (ninS ne911 (ninS ne933 nin0))
  have F1090 : Fld Z T1076.heap xx "java/lang/Throwable" "detailMessage" "Ljava/lang/String;" .null := F1064.keep K1076 (ninS ne911 (ninS ne933 nin0))
  have F1091 : Fld Z T1076.heap xx "java/lang/Throwable" "backtrace" "Ljava/lang/Object;" .null := F1065.keep K1076 (ninS ne911 (ninS ne933 nin0))
  have E1092 : Exa Z T1076.heap sb "java/lang/StringBuilder" := E1066.keep K1076
  have Sf1093 : Safe Z own_EL T1052.vm T1076.heap t929 := Safe.keep K1076 (allS (Safe.exa hZ1052.alike E1066 (by decide) (by decide)) (allS Sf1067 all0)) C1056.1 Sf1067
  have Eb1094 : Exa Z T1076.heap t929 "[B" := Eb1068.keep K1076
  have hk1099 := Nat.le_trans hk1052 K1076.1
  refine GoOn.step (fun tq kq => XS.aloadN X1076.here hx rfl (hb hby own_d654) rfl rfl kq) ?_
  show GoOn p e below (T1076.setTop (mkF m 30 #[.val (.ref a1), .val (.int x), .val (.ref a2)] [(.ref a2), (.ref sb), (.ref xx), (.ref xx)])) _
  have hpe : ∀ c ∈ (((((([] : List Int32) ++ cs) ++ ([58] : List Int32)) ++ own_is x n) ++ ([58, 32] : List Int32)) ++ ds), ¬ c < 0 ∧ ¬ (255 : Int32) < c := own_pap (own_pap (own_pap (own_pap (own_pap own_pnil hp1) (by decide)) (own_pis x n)) (by decide)) hp2
  by_cases hc1100 : ((((([] : List Int32) ++ cs) ++ ([58] : List Int32)) ++ own_is x n) ++ ([58, 32] : List Int32)).length + ds.length ≤ 16
  · skip
    obtain ⟨cqc1102, kqc1102, qac1102, qbc1102, qcc1102⟩ := isOf hZ1052 rfl E1092
    obtain ⟨_, _, ⟨T1101, L1101, k1101, n1101⟩, -, X1101, ⟨Lc1101, hQ1101, l1101, y1101, z1101⟩, st1101⟩ := X1076.virtualBack hx (y := (⟨"java/lang/StringBuilder", "append", "(Ljava/lang/String;)Ljava/lang/StringBuilder;"⟩ : MethodName)) (z := (⟨"java/lang/StringBuilder", "append", "(Ljava/lang/String;)Ljava/lang/StringBuilder;"⟩ : MethodName)) hown1052 (mvT hZ1052 (hw _ (List.mem_of_getElem? (i := 50) rfl))) (mvT hZ1052 (hw _ (List.mem_of_getElem? (i := 51) rfl))) (notFace_of_selects (args := #[]) (mvT hZ1052 (hw _ (List.mem_of_getElem? (i := 53) rfl)))) (mvT hZ1052 (hw _ (List.mem_of_getElem? (i := 53) rfl))) (mvT hZ1052 (hw _ (List.mem_of_getElem? (i := 52) rfl))) (by decide) (backOf (W := 2) (rmSBA l Z a0 hw a2 sb t929 kb929 16 ((((([] : List Int32) ++ cs) ++ ([58] : List Int32)) ++ own_is x n) ++ ([58, 32] : List Int32)) ds G1 T1076.heap n0 Z1080 SC PC E1092 Fc1076 Fn1076 Fv1076 V1076 Su1084.is gn909 gn931 (Su1084.sv sz932) hc1100 (by decide) O1079) hZ1052 (hw _ (List.mem_of_getElem? (i := 54) rfl)) (hw _ (List.mem_of_getElem? (i := 34) rfl)) (by decide) (by decide)) qac1102 qcc1102 (g := (mkF m 30 #[.val (.ref a1), .val (.int x), .val (.ref a2)] [(.ref a2), (.ref sb), (.ref xx), (.ref xx)])) rfl (by rw [hml]; rfl) (Steps.refl _) (argsL := [(.ref a2)]) (rest := [(.ref xx), (.ref xx)]) (lenOf own_pd646 rfl) rfl (by show 2 * 0 + _ ≤ _; exact Nat.le_of_eq rfl) (hb hby own_d655) (fun _ _ => ⟨rfl, rfl, (by decide : 7 + 0 ≤ _), (by decide : 46 + 0 ≤ _)⟩)
    dsimp only [Pt.U, Pt.locs, Pt.cells, Pt.slots] at X1101 l1101 y1101 z1101 st1101 hQ1101
    subst l1101 y1101 z1101
    obtain ⟨rfl, N1101, K1101, E1101, Fc1101, Fn1101, Fv1101, V1101⟩ := hQ1101
    refine GoOn.trans st1101 ?_
    have N1103 := Fr.app N1078 N1101
    have O1104 : Old Z n0 T1101.heap := O1079.keep K1101 (allS gn909 (allS gn931 all0))
    have Z1105 : n0 ≤ T1101.heap.size := Nat.le_trans Z1080 K1101.1
    have K1106 : Keep h0 T1101.heap [] := K1081.trans K1101 ((allS (Or.inr sz910) (allS (Or.inr sz932) all0)))
    have C1107 : CHr Z own_EL s.vm h0 T1052.vm T1101.heap := CHr.trans C1082 (CHr.keep K1101 (allS (Safe.exa hZ1052.alike E1092 (by decide) (by decide)) (allS Sf1093 all0)) C1082.1)
    have Su1108 : StrUp Z T1101.heap a1 cs h0.size := Su1083.keep K1101 (allS sz910 (allS sz932 all0))
    have Su1109 : StrUp Z T1101.heap a2 ds h0.size := Su1084.keep K1101 (allS sz910 (allS sz932 all0))
    have E1110 : Exa Z T1101.heap xx "com/example/faktorwerk/faktorwerk/model/InputRefusedException" := E1085.keep K1101
    have Un1111 : Unt T1101.heap xx := Unt.keep K1101 (ninS ne911 (ninS ne933 nin0)) Un1086
    have F1112 : Fld Z T1101.heap xx "java/lang/Throwable" "cause" "Ljava/lang/Throwable;" .null := F1087.keep K1101 (ninS ne911 (ninS ne933 nin0))
    have F1113 : Fld Z T1101.heap xx "java/lang/Throwable" "stackTrace" "[Ljava/lang/StackTraceElement;" .null := F1088.keep K1101 (ninS ne911 (ninS ne933 nin0))
    have F1114 : Fld Z T1101.heap xx "java/lang/Throwable" "suppressedExceptions" "Ljava/util/List;" .null := F1089.keep K1101 (ninS ne911 (ninS ne933 nin0))
    have F1115 : Fld Z T1101.heap xx "java/lang/Throwable" "detailMessage" "Ljava/lang/String;" .null := F1090.keep K1101 (ninS ne911 (ninS ne933 nin0))
    have F1116 : Fld Z T1101.heap xx "java/lang/Throwable" "backtrace" "Ljava/lang/Object;" .null := F1091.keep K1101 (ninS ne911 (ninS ne933 nin0))
    have E1117 : Exa Z T1101.heap sb "java/lang/StringBuilder" := E1092.keep K1101
    have Sf1118 : Safe Z own_EL T1052.vm T1101.heap t929 := Safe.keep K1101 (allS (Safe.exa hZ1052.alike E1092 (by decide) (by decide)) (allS Sf1093 all0)) C1082.1 Sf1093
    have Eb1119 : Exa Z T1101.heap t929 "[B" := Eb1094.keep K1101
    have hk1124 := Nat.le_trans hk1099 K1101.1
    show GoOn p e below (T1101.setTop (mkF m 33 #[.val (.ref a1), .val (.int x), .val (.ref a2)] [(.ref sb), (.ref xx), (.ref xx)])) _
    obtain ⟨cqc1126, kqc1126, qac1126, qbc1126, qcc1126⟩ := isOf hZ1052 rfl E1117
    obtain ⟨_, _, ⟨T1125, L1125, k1125, n1125⟩, -, X1125, ⟨Lc1125, hQ1125, l1125, y1125, z1125⟩, st1125⟩ := X1101.virtualBack hx (y := (⟨"java/lang/StringBuilder", "toString", "()Ljava/lang/String;"⟩ : MethodName)) (z := (⟨"java/lang/StringBuilder", "toString", "()Ljava/lang/String;"⟩ : MethodName)) hown1052 (mvT hZ1052 (hw _ (List.mem_of_getElem? (i := 122) rfl))) (mvT hZ1052 (hw _ (List.mem_of_getElem? (i := 123) rfl))) (notFace_of_selects (args := #[]) (mvT hZ1052 (hw _ (List.mem_of_getElem? (i := 125) rfl)))) (mvT hZ1052 (hw _ (List.mem_of_getElem? (i := 125) rfl))) (mvT hZ1052 (hw _ (List.mem_of_getElem? (i := 124) rfl))) (by decide) (backOf (W := 2) (rmToS l Z a0 hw sb t929 kb929 16 (((((([] : List Int32) ++ cs) ++ ([58] : List Int32)) ++ own_is x n) ++ ([58, 32] : List Int32)) ++ ds) G1 T1101.heap n0 Z1105 SC PC E1117 Fc1101 Fn1101 Fv1101 V1101 Eb1119 (by rw [List.length_append]; exact hc1100) (by decide) hpe O1104) hZ1052 (hw _ (List.mem_of_getElem? (i := 126) rfl)) (hw _ (List.mem_of_getElem? (i := 34) rfl)) (by decide) (by decide)) qac1126 qcc1126 (g := (mkF m 33 #[.val (.ref a1), .val (.int x), .val (.ref a2)] [(.ref sb), (.ref xx), (.ref xx)])) rfl (by rw [hml]; rfl) (Steps.refl _) (argsL := []) (rest := [(.ref xx), (.ref xx)]) (lenOf own_pd656 rfl) rfl (by show 2 * 0 + _ ≤ _; exact Nat.le_of_eq rfl) (hb hby own_d657) (fun _ _ => ⟨rfl, rfl, (by decide : 7 + 2 ≤ _), (by decide : 46 + 44 ≤ _)⟩)
    dsimp only [Pt.U, Pt.locs, Pt.cells, Pt.slots] at X1125 l1125 y1125 z1125 st1125 hQ1125
    subst l1125 y1125 z1125
    obtain ⟨m1125, rfl, N1125, K1125, ge1125, S1125⟩ := hQ1125
    refine GoOn.trans st1125 ?_
    have N1127 := Fr.app N1103 N1125
    have O1128 : Old Z n0 T1125.heap := O1104.keep K1125 all0
    have Z1129 : n0 ≤ T1125.heap.size := Nat.le_trans Z1105 K1125.1
    have K1130 : Keep h0 T1125.heap [] := K1106.trans K1125 (all0)
    have C1131 : CHr Z own_EL s.vm h0 T1052.vm T1125.heap := CHr.trans C1107 (CHr.keep K1125 all0 C1107.1)
    have Su1132 : StrUp Z T1125.heap a1 cs h0.size := Su1108.keep K1125 all0
    have Su1133 : StrUp Z T1125.heap a2 ds h0.size := Su1109.keep K1125 all0
    have E1134 : Exa Z T1125.heap xx "com/example/faktorwerk/faktorwerk/model/InputRefusedException" := E1110.keep K1125
    have Un1135 : Unt T1125.heap xx := Unt.keep K1125 nin0 Un1111
    have F1136 : Fld Z T1125.heap xx "java/lang/Throwable" "cause" "Ljava/lang/Throwable;" .null := F1112.keep K1125 nin0
    have F1137 : Fld Z T1125.heap xx "java/lang/Throwable" "stackTrace" "[Ljava/lang/StackTraceElement;" .null := F1113.keep K1125 nin0
    have F1138 : Fld Z T1125.heap xx "java/lang/Throwable" "suppressedExceptions" "Ljava/util/List;" .null := F1114.keep K1125 nin0
    have F1139 : Fld Z T1125.heap xx "java/lang/Throwable" "detailMessage" "Ljava/lang/String;" .null := F1115.keep K1125 nin0
    have F1140 : Fld Z T1125.heap xx "java/lang/Throwable" "backtrace" "Ljava/lang/Object;" .null := F1116.keep K1125 nin0
    have E1141 : Exa Z T1125.heap sb "java/lang/StringBuilder" := E1117.keep K1125
    have Sf1142 : Safe Z own_EL T1052.vm T1125.heap t929 := Safe.keep K1125 all0 C1107.1 Sf1118
    have Eb1143 : Exa Z T1125.heap t929 "[B" := Eb1119.keep K1125
    have F1144 : Fld Z T1125.heap sb "java/lang/AbstractStringBuilder" "coder" "B" (.int 0) := Fc1101.keep K1125 nin0
    have F1145 : Fld Z T1125.heap sb "java/lang/AbstractStringBuilder" "count" "I" (.int (Int32.ofNat (((((([] : List Int32) ++ cs) ++ ([58] : List Int32)) ++ own_is x n) ++ ([58, 32] : List Int32)) ++ ds).length)) := Fn1101.keep K1125 nin0
    have F1146 : Fld Z T1125.heap sb "java/lang/AbstractStringBuilder" "value" "[B" (.ref t929) := Fv1101.keep K1125 nin0
    have V1147 : Arv Z T1125.heap t929 kb929 .byte (Int32.ofNat 16) (own_sb 16 (((((([] : List Int32) ++ cs) ++ ([58] : List Int32)) ++ own_is x n) ++ ([58, 32] : List Int32)) ++ ds)) (.int 0) := V1101.keep K1125 nin0
    have hk1148 := Nat.le_trans hk1124 K1125.1
    show GoOn p e below (T1125.setTop (mkF m 36 #[.val (.ref a1), .val (.int x), .val (.ref a2)] [(.ref m1125), (.ref xx), (.ref xx)])) _
    obtain ⟨_, _, ⟨T1149, L1149, k1149, n1149⟩, -, X1149, ⟨Lc1149, hQ1149, l1149, y1149, z1149⟩, st1149⟩ := X1125.specialBack hx (y := (⟨"com/example/faktorwerk/faktorwerk/model/InputRefusedException", "<init>", "(Ljava/lang/String;)V"⟩ : MethodName)) rfl hown1052 (mvT hZ1052 (hw _ (List.mem_of_getElem? (i := 163) rfl))) (mvT hZ1052 (hw _ (List.mem_of_getElem? (i := 164) rfl))) (mvT hZ1052 (hw _ (List.mem_of_getElem? (i := 165) rfl))) (by decide) (backOfKL (W := 1) (rmIRE l Z a0 hw xx m1125 u0 w0 T1125.heap n0 Z1129 hST SU rU SS rS E1134 Un1135 F1136 F1137 F1138 F1140 F1139 gn894 O1128) hZ1052 (hw _ (List.mem_of_getElem? (i := 165) rfl)) (hw _ (List.mem_of_getElem? (i := 28) rfl)) (by decide) (by decide) (Vm.MethodsKnown.alikeC hS1052.1.alike hK.1) (Vm.FramesKnown.alikeC hS1052.1.alike hK.2)) (g := (mkF m 36 #[.val (.ref a1), .val (.int x), .val (.ref a2)] [(.ref m1125), (.ref xx), (.ref xx)])) rfl (by rw [hml]; rfl) (Steps.refl _) (a := xx) (argsL := [(.ref m1125)]) (rest := [(.ref xx)]) (lenOf own_pd26 rfl) rfl (by show 2 * 0 + _ ≤ _; exact Nat.le_of_eq rfl) (hb hby own_d658) (fun _ _ => ⟨rfl, rfl, (by decide : 9 + 1 ≤ _), (by decide : 90 + 2752 ≤ _)⟩)
    dsimp only [Pt.U, Pt.locs, Pt.cells, Pt.slots] at X1149 l1149 y1149 z1149 st1149 hQ1149
    subst l1149 y1149 z1149
    obtain ⟨rfl, N1149, K1149, E1149, Un1149, Fc1149, Fm1149⟩ := hQ1149
    refine GoOn.trans st1149 ?_
    have N1150 := Fr.app N1127 N1149
    have O1151 : Old Z n0 T1149.heap := O1128.keep K1149 (allS gn894 all0)
    have Z1152 : n0 ≤ T1149.heap.size := Nat.le_trans Z1129 K1149.1
    have K1153 : Keep h0 T1149.heap [] := K1130.trans K1149 ((allS (Or.inr sz895) all0))
    have C1154 : CHr Z own_EL s.vm h0 T1052.vm T1149.heap := CHr.trans C1131 (CHr.keep K1149 (allS (Safe.exa hZ1052.alike E1134 (by decide) (by decide)) all0) C1131.1)
    have E1155 : Exa Z T1149.heap xx "com/example/faktorwerk/faktorwerk/model/InputRefusedException" := E1134.keep K1149
    have Sr1162 : StrIs Z T1149.heap m1125 (((((([] : List Int32) ++ cs) ++ ([58] : List Int32)) ++ own_is x n) ++ ([58, 32] : List Int32)) ++ ds) := S1125.keepX K1149 E1134 (hw _ (List.mem_of_getElem? (i := 31) rfl)) (by decide)
    have hk1163 := Nat.le_trans hk1148 K1149.1
    show GoOn p e below (T1149.setTop (mkF m 39 #[.val (.ref a1), .val (.int x), .val (.ref a2)] [(.ref xx)])) _
    refine GoOn.retH X1149 hZ1052 hS1052 (hk1163) hEL hh rfl C1154 Bd.notSynchronized (v := some (.ref xx)) (fun h => by rw [Bd.returns] at h; cases h) (fun fs hr => retOut X1149 hx Bd.returns rfl (Or.inr (Or.inr (Or.inr (Or.inr ⟨rfl, rfl, rfl⟩)))) (hb hby own_d659) hr) (by decide) (by decide) ?_
    exact ⟨xx, m1125, rfl, N1150, K1153, E1155, Un1149, Fc1149, Fm1149, Sr1162⟩
  · skip
    obtain ⟨cqc1165, kqc1165, qac1165, qbc1165, qcc1165⟩ := isOf hZ1052 rfl E1092
    obtain ⟨_, _, ⟨T1164, L1164, k1164, n1164⟩, -, X1164, ⟨Lc1164, hQ1164, l1164, y1164, z1164⟩, st1164⟩ := X1076.virtualBack hx (y := (⟨"java/lang/StringBuilder", "append", "(Ljava/lang/String;)Ljava/lang/StringBuilder;"⟩ : MethodName)) (z := (⟨"java/lang/StringBuilder", "append", "(Ljava/lang/String;)Ljava/lang/StringBuilder;"⟩ : MethodName)) hown1052 (mvT hZ1052 (hw _ (List.mem_of_getElem? (i := 50) rfl))) (mvT hZ1052 (hw _ (List.mem_of_getElem? (i := 51) rfl))) (notFace_of_selects (args := #[]) (mvT hZ1052 (hw _ (List.mem_of_getElem? (i := 53) rfl)))) (mvT hZ1052 (hw _ (List.mem_of_getElem? (i := 53) rfl))) (mvT hZ1052 (hw _ (List.mem_of_getElem? (i := 52) rfl))) (by decide) (backOf (W := 2) (rmSBAG l Z a0 hw a2 sb t929 kb929 ((((([] : List Int32) ++ cs) ++ ([58] : List Int32)) ++ own_is x n) ++ ([58, 32] : List Int32)) ds G1 T1076.heap n0 Z1080 SC PC E1092 Fc1076 Fn1076 Fv1076 V1076 Su1084.is gn909 (by simp; omega) (Nat.lt_of_not_le hc1100) (by simp; omega) O1079) hZ1052 (hw _ (List.mem_of_getElem? (i := 54) rfl)) (hw _ (List.mem_of_getElem? (i := 34) rfl)) (by decide) (by decide)) qac1165 qcc1165 (g := (mkF m 30 #[.val (.ref a1), .val (.int x), .val (.ref a2)] [(.ref a2), (.ref sb), (.ref xx), (.ref xx)])) rfl (by rw [hml]; rfl) (Steps.refl _) (argsL := [(.ref a2)]) (rest := [(.ref xx), (.ref xx)]) (lenOf own_pd646 rfl) rfl (by show 2 * 0 + _ ≤ _; exact Nat.le_of_eq rfl) (hb hby own_d655) (fun _ _ => ⟨rfl, rfl, (by decide : 7 + 1 ≤ _), (by decide : 46 + 34 ≤ _)⟩)
    dsimp only [Pt.U, Pt.locs, Pt.cells, Pt.slots] at X1164 l1164 y1164 z1164 st1164 hQ1164
    subst l1164 y1164 z1164
    obtain ⟨u1164, ku1164, rfl, N1164, K1164, ge1164, E1164, Fc1164, Fn1164, Fv1164, V1164, Eb1164⟩ := hQ1164
    refine GoOn.trans st1164 ?_
    have N1166 := Fr.app N1078 N1164
    have gn1167 : n0 ≤ u1164 := Nat.le_trans Z1080 ge1164
    have sz1168 : h0.size ≤ u1164 := Nat.le_trans K1081.1 ge1164
    have ne1169 : xx ≠ u1164 := Nat.ne_of_lt (Nat.lt_of_lt_of_le E1085.lt ge1164)
    have ne1170 : sb ≠ u1164 := Nat.ne_of_lt (Nat.lt_of_lt_of_le E1092.lt ge1164)
    have O1171 : Old Z n0 T1164.heap := O1079.keep K1164 (allS gn909 all0)
    have Z1172 : n0 ≤ T1164.heap.size := Nat.le_trans Z1080 K1164.1
    have K1173 : Keep h0 T1164.heap [] := K1081.trans K1164 ((allS (Or.inr sz910) all0))
    have C1174 : CHr Z own_EL s.vm h0 T1052.vm T1164.heap := CHr.trans C1082 (CHr.keep K1164 (allS (Safe.exa hZ1052.alike E1092 (by decide) (by decide)) all0) C1082.1)
    have Su1175 : StrUp Z T1164.heap a1 cs h0.size := Su1083.keep K1164 (allS sz910 all0)
    have Su1176 : StrUp Z T1164.heap a2 ds h0.size := Su1084.keep K1164 (allS sz910 all0)
    have E1177 : Exa Z T1164.heap xx "com/example/faktorwerk/faktorwerk/model/InputRefusedException" := E1085.keep K1164
    have Un1178 : Unt T1164.heap xx := Unt.keep K1164 (ninS ne911 nin0) Un1086
    have F1179 : Fld Z T1164.heap xx "java/lang/Throwable" "cause" "Ljava/lang/Throwable;" .null := F1087.keep K1164 (ninS ne911 nin0)
    have F1180 : Fld Z T1164.heap xx "java/lang/Throwable" "stackTrace" "[Ljava/lang/StackTraceElement;" .null := F1088.keep K1164 (ninS ne911 nin0)
    have F1181 : Fld Z T1164.heap xx "java/lang/Throwable" "suppressedExceptions" "Ljava/util/List;" .null := F1089.keep K1164 (ninS ne911 nin0)
    have F1182 : Fld Z T1164.heap xx "java/lang/Throwable" "detailMessage" "Ljava/lang/String;" .null := F1090.keep K1164 (ninS ne911 nin0)
    have F1183 : Fld Z T1164.heap xx "java/lang/Throwable" "backtrace" "Ljava/lang/Object;" .null := F1091.keep K1164 (ninS ne911 nin0)
    have E1184 : Exa Z T1164.heap sb "java/lang/StringBuilder" := E1092.keep K1164
    have hk1188 := Nat.le_trans hk1099 K1164.1
    show GoOn p e below (T1164.setTop (mkF m 33 #[.val (.ref a1), .val (.int x), .val (.ref a2)] [(.ref sb), (.ref xx), (.ref xx)])) _
    obtain ⟨cqc1190, kqc1190, qac1190, qbc1190, qcc1190⟩ := isOf hZ1052 rfl E1184
    obtain ⟨_, _, ⟨T1189, L1189, k1189, n1189⟩, -, X1189, ⟨Lc1189, hQ1189, l1189, y1189, z1189⟩, st1189⟩ := X1164.virtualBack hx (y := (⟨"java/lang/StringBuilder", "toString", "()Ljava/lang/String;"⟩ : MethodName)) (z := (⟨"java/lang/StringBuilder", "toString", "()Ljava/lang/String;"⟩ : MethodName)) hown1052 (mvT hZ1052 (hw _ (List.mem_of_getElem? (i := 122) rfl))) (mvT hZ1052 (hw _ (List.mem_of_getElem? (i := 123) rfl))) (notFace_of_selects (args := #[]) (mvT hZ1052 (hw _ (List.mem_of_getElem? (i := 125) rfl)))) (mvT hZ1052 (hw _ (List.mem_of_getElem? (i := 125) rfl))) (mvT hZ1052 (hw _ (List.mem_of_getElem? (i := 124) rfl))) (by decide) (backOf (W := 2) (rmToS l Z a0 hw sb u1164 ku1164 34 (((((([] : List Int32) ++ cs) ++ ([58] : List Int32)) ++ own_is x n) ++ ([58, 32] : List Int32)) ++ ds) G1 T1164.heap n0 Z1172 SC PC E1184 Fc1164 Fn1164 Fv1164 V1164 Eb1164 (by simp; omega) (by decide) hpe O1171) hZ1052 (hw _ (List.mem_of_getElem? (i := 126) rfl)) (hw _ (List.mem_of_getElem? (i := 34) rfl)) (by decide) (by decide)) qac1190 qcc1190 (g := (mkF m 33 #[.val (.ref a1), .val (.int x), .val (.ref a2)] [(.ref sb), (.ref xx), (.ref xx)])) rfl (by rw [hml]; rfl) (Steps.refl _) (argsL := []) (rest := [(.ref xx), (.ref xx)]) (lenOf own_pd656 rfl) rfl (by show 2 * 0 + _ ≤ _; exact Nat.le_of_eq rfl) (hb hby own_d657) (fun _ _ => ⟨rfl, rfl, (by decide : 8 + 2 ≤ _), (by decide : 80 + 44 ≤ _)⟩)
    dsimp only [Pt.U, Pt.locs, Pt.cells, Pt.slots] at X1189 l1189 y1189 z1189 st1189 hQ1189
    subst l1189 y1189 z1189
    obtain ⟨m1189, rfl, N1189, K1189, ge1189, S1189⟩ := hQ1189
    refine GoOn.trans st1189 ?_
    have N1191 := Fr.app N1166 N1189
    have O1192 : Old Z n0 T1189.heap := O1171.keep K1189 all0
    have Z1193 : n0 ≤ T1189.heap.size := Nat.le_trans Z1172 K1189.1
    have K1194 : Keep h0 T1189.heap [] := K1173.trans K1189 (all0)
    have C1195 : CHr Z own_EL s.vm h0 T1052.vm T1189.heap := CHr.trans C1174 (CHr.keep K1189 all0 C1174.1)
    have Su1196 : StrUp Z T1189.heap a1 cs h0.size := Su1175.keep K1189 all0
    have Su1197 : StrUp Z T1189.heap a2 ds h0.size := Su1176.keep K1189 all0
    have E1198 : Exa Z T1189.heap xx "com/example/faktorwerk/faktorwerk/model/InputRefusedException" := E1177.keep K1189
    have Un1199 : Unt T1189.heap xx := Unt.keep K1189 nin0 Un1178
    have F1200 : Fld Z T1189.heap xx "java/lang/Throwable" "cause" "Ljava/lang/Throwable;" .null := F1179.keep K1189 nin0
    have F1201 : Fld Z T1189.heap xx "java/lang/Throwable" "stackTrace" "[Ljava/lang/StackTraceElement;" .null := F1180.keep K1189 nin0
    have F1202 : Fld Z T1189.heap xx "java/lang/Throwable" "suppressedExceptions" "Ljava/util/List;" .null := F1181.keep K1189 nin0
    have F1203 : Fld Z T1189.heap xx "java/lang/Throwable" "detailMessage" "Ljava/lang/String;" .null := F1182.keep K1189 nin0
    have F1204 : Fld Z T1189.heap xx "java/lang/Throwable" "backtrace" "Ljava/lang/Object;" .null := F1183.keep K1189 nin0
    have E1205 : Exa Z T1189.heap sb "java/lang/StringBuilder" := E1184.keep K1189
    have F1206 : Fld Z T1189.heap sb "java/lang/AbstractStringBuilder" "coder" "B" (.int 0) := Fc1164.keep K1189 nin0
    have F1207 : Fld Z T1189.heap sb "java/lang/AbstractStringBuilder" "count" "I" (.int (Int32.ofNat (((((([] : List Int32) ++ cs) ++ ([58] : List Int32)) ++ own_is x n) ++ ([58, 32] : List Int32)) ++ ds).length)) := Fn1164.keep K1189 nin0
    have F1208 : Fld Z T1189.heap sb "java/lang/AbstractStringBuilder" "value" "[B" (.ref u1164) := Fv1164.keep K1189 nin0
    have V1209 : Arv Z T1189.heap u1164 ku1164 .byte (Int32.ofNat 34) (own_sb 34 (((((([] : List Int32) ++ cs) ++ ([58] : List Int32)) ++ own_is x n) ++ ([58, 32] : List Int32)) ++ ds)) (.int 0) := V1164.keep K1189 nin0
    have Eb1210 : Exa Z T1189.heap u1164 "[B" := Eb1164.keep K1189
    have hk1211 := Nat.le_trans hk1188 K1189.1
    show GoOn p e below (T1189.setTop (mkF m 36 #[.val (.ref a1), .val (.int x), .val (.ref a2)] [(.ref m1189), (.ref xx), (.ref xx)])) _
    obtain ⟨_, _, ⟨T1212, L1212, k1212, n1212⟩, -, X1212, ⟨Lc1212, hQ1212, l1212, y1212, z1212⟩, st1212⟩ := X1189.specialBack hx (y := (⟨"com/example/faktorwerk/faktorwerk/model/InputRefusedException", "<init>", "(Ljava/lang/String;)V"⟩ : MethodName)) rfl hown1052 (mvT hZ1052 (hw _ (List.mem_of_getElem? (i := 163) rfl))) (mvT hZ1052 (hw _ (List.mem_of_getElem? (i := 164) rfl))) (mvT hZ1052 (hw _ (List.mem_of_getElem? (i := 165) rfl))) (by decide) (backOfKL (W := 1) (rmIRE l Z a0 hw xx m1189 u0 w0 T1189.heap n0 Z1193 hST SU rU SS rS E1198 Un1199 F1200 F1201 F1202 F1204 F1203 gn894 O1192) hZ1052 (hw _ (List.mem_of_getElem? (i := 165) rfl)) (hw _ (List.mem_of_getElem? (i := 28) rfl)) (by decide) (by decide) (Vm.MethodsKnown.alikeC hS1052.1.alike hK.1) (Vm.FramesKnown.alikeC hS1052.1.alike hK.2)) (g := (mkF m 36 #[.val (.ref a1), .val (.int x), .val (.ref a2)] [(.ref m1189), (.ref xx), (.ref xx)])) rfl (by rw [hml]; rfl) (Steps.refl _) (a := xx) (argsL := [(.ref m1189)]) (rest := [(.ref xx)]) (lenOf own_pd26 rfl) rfl (by show 2 * 0 + _ ≤ _; exact Nat.le_of_eq rfl) (hb hby own_d658) (fun _ _ => ⟨rfl, rfl, (by decide : 10 + 1 ≤ _), (by decide : 124 + 2752 ≤ _)⟩)
    dsimp only [Pt.U, Pt.locs, Pt.cells, Pt.slots] at X1212 l1212 y1212 z1212 st1212 hQ1212
    subst l1212 y1212 z1212
    obtain ⟨rfl, N1212, K1212, E1212, Un1212, Fc1212, Fm1212⟩ := hQ1212
    refine GoOn.trans st1212 ?_
    have N1213 := Fr.app N1191 N1212
    have O1214 : Old Z n0 T1212.heap := O1192.keep K1212 (allS gn894 all0)
    have Z1215 : n0 ≤ T1212.heap.size := Nat.le_trans Z1193 K1212.1
    have K1216 : Keep h0 T1212.heap [] := K1194.trans K1212 ((allS (Or.inr sz895) all0))
    have C1217 : CHr Z own_EL s.vm h0 T1052.vm T1212.heap := CHr.trans C1195 (CHr.keep K1212 (allS (Safe.exa hZ1052.alike E1198 (by decide) (by decide)) all0) C1195.1)
    have E1218 : Exa Z T1212.heap xx "com/example/faktorwerk/faktorwerk/model/InputRefusedException" := E1198.keep K1212
    have Sr1225 : StrIs Z T1212.heap m1189 (((((([] : List Int32) ++ cs) ++ ([58] : List Int32)) ++ own_is x n) ++ ([58, 32] : List Int32)) ++ ds) := S1189.keepX K1212 E1198 (hw _ (List.mem_of_getElem? (i := 31) rfl)) (by decide)
    have hk1226 := Nat.le_trans hk1211 K1212.1
    show GoOn p e below (T1212.setTop (mkF m 39 #[.val (.ref a1), .val (.int x), .val (.ref a2)] [(.ref xx)])) _
    refine GoOn.retH X1212 hZ1052 hS1052 (hk1226) hEL hh rfl C1217 Bd.notSynchronized (v := some (.ref xx)) (fun h => by rw [Bd.returns] at h; cases h) (fun fs hr => retOut X1212 hx Bd.returns rfl (Or.inr (Or.inr (Or.inr (Or.inr ⟨rfl, rfl, rfl⟩)))) (hb hby own_d659) hr) (by decide) (by decide) ?_
    exact ⟨xx, m1189, rfl, N1213, K1216, E1218, Un1212, Fc1212, Fm1212, Sr1225⟩
def QLaw (h0 : Heap) (n0 : Nat) (v : Option Value) (h : Heap) (L : List Loc) : Prop := v = some (.int 1) ∧ Fr n0 L
set_option maxRecDepth 65536 in
set_option maxHeartbeats 40000000 in
theorem rm0 (l : Launch) (Z : State) (a0 : Array Value) (hw : ∀ d ∈ tables_1, d.before a0 Z = true) (ws : List Jvm.Cond) (p0 p1 p2 p3 p4 p5 G1 : Int32) (u0 w0 G3 : Value) (st d1 : Addr) (D1 : Cell) (d2 : Addr) (D2 : Cell) (h0 : Heap) (n0 : Nat) (Z0 : n0 ≤ h0.size) (SC : Sta Z Z.heap "java/lang/String" "COMPACT_STRINGS" "Z" (.int G1)) (PC : ¬ G1 = (0 : Int32)) (hST : l.stackTraces = true) (SU : Sta Z Z.heap "java/lang/Throwable" "UNASSIGNED_STACK" "[Ljava/lang/StackTraceElement;" u0) (rU : u0.isRef = true) (SS : Sta Z Z.heap "java/lang/Throwable" "SUPPRESSED_SENTINEL" "Ljava/util/List;" w0) (rS : w0.isRef = true) (SF : Sta Z Z.heap "jdk/internal/util/Preconditions" "SIOOBE_FORMATTER" "Ljava/util/function/BiFunction;" G3) (rG3 : G3.isRef = true) (DG : own_Dig Z st d1 D1 d2 D2) (O0 : Old Z n0 h0) :
    MetFree l x (head1 (Jvm.Cond.code x code maxLocals ret :: ws) room_1) (fun aa U => aa = #[(.int p0), (.int p1), (.int p2), (.int p3), (.int p4), (.int p5)] ∧ Z.Warmed39 U.vm ∧ U.heap = h0 ∧ CHv Z own_EL U.vm h0) (fun _ _ bl s _ => s.vm.MethodsKnown ∧ s.vm.FramesKnown bl) (fun _ U o U' => ∃ v L, o = .returned v ∧ QLaw h0 n0 v U'.heap L ∧ CHr Z own_EL U.vm U.heap U'.vm U'.heap ∧ ReturnedEndW U o U' L 64 9088) := by
  refine MetFree.of_bodySF (plainFor_of_name own_pn103) hisR ?_
  intro p e s m args below meth c s₁ Bd hml0 hP hK
  obtain ⟨rfl, hZ, hh, hCH⟩ := hP
  have hx := Bd.exec
  have hby := Bd.bytes
  have hml : c.maxLocals = 24 := hml0
  have hown : s.vm.findClass "com/example/faktorwerk/faktorwerk/model/InputRefusedExceptionAtLinePinLaw" = some m.cls := findClass_of_methodNamed Bd.named
  have hnm := (name_of_methodNamed Bd.named Bd.method).1
  have X0 : Stand p l e room_1 s m #[(.int p0), (.int p1), (.int p2), (.int p3), (.int p4), (.int p5)] below meth c s₁ [] 0 0 := Stand.of_body Bd
  have e0 : s₁.heap = h0 := by rw [← hh, Bd.state]; rfl
  have N0 := Fr.nil n0
  have K0 : Keep h0 h0 [] := Keep.refl _ _
  show GoOn p e below (s₁.setTop (entryFrame m #[(.int p0), (.int p1), (.int p2), (.int p3), (.int p4), (.int p5)] maxLocals)) (PostH Z own_EL s (QLaw h0 n0) 64 9088)
  refine GoOn.step (fun tq kq => castTop (own_ef660 m p0 p1 p2 p3 p4 p5) kq) ?_
  have hS0 : s.Since s.vm h0.size := (State.WarmedH.refl s).since _
  have hk0 : h0.size ≤ h0.size := Nat.le_refl _
  replace X0 : Stand p l e room_1 (s.setVm s.vm) m #[(.int p0), (.int p1), (.int p2), (.int p3), (.int p4), (.int p5)] below meth c s₁ [] 0 0 := X0
  replace hZ : Z.Warmed39 (s.setVm s.vm).vm := hZ
  replace hown : (s.setVm s.vm).vm.findClass "com/example/faktorwerk/faktorwerk/model/InputRefusedExceptionAtLinePinLaw" = some m.cls := hown
  have C0 : CHr Z own_EL s.vm h0 s.vm h0 := CHr.refl hCH
  have hEL : EW Z a0 own_EL := own_EW hw
  have wS : ∀ d ∈ Bundle.stringAtoms, d.before a0 Z = true := fun d hd => hw d (own_sa d hd)
  show GoOn p e below (s₁.setTop (mkF m 0 #[.val (.int p0), .val (.int p1), .val (.int p2), .val (.int p3), .val (.int p4), .val (.int p5), .unset, .unset, .unset, .unset, .unset, .unset, .unset, .unset, .unset, .unset, .unset, .unset, .unset, .unset, .unset, .unset, .unset, .unset] [])) _
  have hws : ∀ d ∈ StrChars.Road.wordsChN, d.before a0 Z = true := fun d hd => hw d ((by decide +kernel : ∀ d ∈ StrChars.Road.wordsChN, d ∈ tables_1) d hd)
  have hch := hws
  obtain ⟨N, hN⟩ : ∃ N, N = p0.toInt.natAbs := ⟨_, rfl⟩
  obtain ⟨hn, hx0, hav1, hav0⟩ := own_abs p0
  rw [← hN] at hn hx0 hav1 hav0
  have hdg := Jvm.Free.SBG.digits_pos N
  refine GoOn.step (fun tq kq => XS.iload X0.here hx rfl (hb hby at_0) rfl kq) ?_
  refine GoOn.step (fun tq kq => XS.iconst X0.here hx rfl (hb hby at_2) kq) ?_
  refine GoOn.step (fun tq kq => XS.iand X0.here hx rfl (hb hby at_3) rfl kq) ?_
  refine GoOn.step (fun tq kq => XS.iconst X0.here hx rfl (hb hby at_4) kq) ?_
  refine GoOn.step (fun tq kq => Jvm.RoadKit.iremM (g := (mkF m 5 #[.val (.int p0), .val (.int p1), .val (.int p2), .val (.int p3), .val (.int p4), .val (.int p5), .unset, .unset, .unset, .unset, .unset, .unset, .unset, .unset, .unset, .unset, .unset, .unset, .unset, .unset, .unset, .unset, .unset, .unset] [(.int (3 : Int32)), (.int (p5 &&& (3 : Int32)))])) X0 hx rfl (hb hby at_5) rfl (by decide) kq) ?_
  refine GoOn.step (fun tq kq => XS.istore X0.here hx rfl (hb hby at_6) rfl (l' := #[.val (.int p0), .val (.int p1), .val (.int p2), .val (.int p3), .val (.int p4), .val (.int p5), .val (.int ((p5 &&& (3 : Int32)) % (3 : Int32))), .unset, .unset, .unset, .unset, .unset, .unset, .unset, .unset, .unset, .unset, .unset, .unset, .unset, .unset, .unset, .unset, .unset]) rfl kq) ?_
  show GoOn p e below (s₁.setTop (mkF m 8 #[.val (.int p0), .val (.int p1), .val (.int p2), .val (.int p3), .val (.int p4), .val (.int p5), .val (.int ((p5 &&& (3 : Int32)) % (3 : Int32))), .unset, .unset, .unset, .unset, .unset, .unset, .unset, .unset, .unset, .unset, .unset, .unset, .unset, .unset, .unset, .unset, .unset] [])) _
  obtain ⟨FL, hgFL, hbFL⟩ := own_nat3 p5
  rw [hgFL]
  refine GoOn.step (fun tq kq => XS.iload X0.here hx rfl (hb hby at_8) rfl kq) ?_
  refine GoOn.step (fun tq kq => XS.iconst X0.here hx rfl (hb hby at_10) kq) ?_
  refine GoOn.step (fun tq kq => XS.iushr X0.here hx rfl (hb hby at_11) rfl kq) ?_
  refine GoOn.step (fun tq kq => XS.iconst X0.here hx rfl (hb hby at_12) kq) ?_
  refine GoOn.step (fun tq kq => XS.iand X0.here hx rfl (hb hby at_13) rfl kq) ?_
  refine GoOn.step (fun tq kq => XS.iconst X0.here hx rfl (hb hby at_14) kq) ?_
  refine GoOn.step (fun tq kq => Jvm.RoadKit.iremM (g := (mkF m 15 #[.val (.int p0), .val (.int p1), .val (.int p2), .val (.int p3), .val (.int p4), .val (.int p5), .val (.int (Int32.ofNat FL)), .unset, .unset, .unset, .unset, .unset, .unset, .unset, .unset, .unset, .unset, .unset, .unset, .unset, .unset, .unset, .unset, .unset] [(.int (3 : Int32)), (.int ((((p5).toUInt32 >>> ((2 : Int32) &&& 31).toUInt32).toInt32) &&& (3 : Int32)))])) X0 hx rfl (hb hby at_15) rfl (by decide) kq) ?_
  refine GoOn.step (fun tq kq => XS.istore X0.here hx rfl (hb hby at_16) rfl (l' := #[.val (.int p0), .val (.int p1), .val (.int p2), .val (.int p3), .val (.int p4), .val (.int p5), .val (.int (Int32.ofNat FL)), .val (.int (((((p5).toUInt32 >>> ((2 : Int32) &&& 31).toUInt32).toInt32) &&& (3 : Int32)) % (3 : Int32))), .unset, .unset, .unset, .unset, .unset, .unset, .unset, .unset, .unset, .unset, .unset, .unset, .unset, .unset, .unset, .unset]) rfl kq) ?_
  show GoOn p e below (s₁.setTop (mkF m 18 #[.val (.int p0), .val (.int p1), .val (.int p2), .val (.int p3), .val (.int p4), .val (.int p5), .val (.int (Int32.ofNat FL)), .val (.int (((((p5).toUInt32 >>> ((2 : Int32) &&& 31).toUInt32).toInt32) &&& (3 : Int32)) % (3 : Int32))), .unset, .unset, .unset, .unset, .unset, .unset, .unset, .unset, .unset, .unset, .unset, .unset, .unset, .unset, .unset, .unset] [])) _
  obtain ⟨PL, hgPL, hbPL⟩ := own_nat3 (((p5).toUInt32 >>> ((2 : Int32) &&& 31).toUInt32).toInt32)
  rw [hgPL]
  refine GoOn.step (fun tq kq => XS.iloadN X0.here hx rfl (hb hby at_18) rfl kq) ?_
  refine GoOn.step (fun tq kq => XS.sipush X0.here hx rfl (hb hby at_19) kq) ?_
  refine GoOn.step (fun tq kq => XS.iand X0.here hx rfl (hb hby at_22) rfl kq) ?_
  refine GoOn.step (fun tq kq => XS.i2c X0.here hx rfl (hb hby at_23) rfl kq) ?_
  refine GoOn.step (fun tq kq => XS.istore X0.here hx rfl (hb hby at_24) rfl (l' := #[.val (.int p0), .val (.int p1), .val (.int p2), .val (.int p3), .val (.int p4), .val (.int p5), .val (.int (Int32.ofNat FL)), .val (.int (Int32.ofNat PL)), .val (.int (((p1 &&& (255 : Int32))).toUInt32.toUInt16.toUInt32.toInt32)), .unset, .unset, .unset, .unset, .unset, .unset, .unset, .unset, .unset, .unset, .unset, .unset, .unset, .unset, .unset]) rfl kq) ?_
  show GoOn p e below (s₁.setTop (mkF m 26 #[.val (.int p0), .val (.int p1), .val (.int p2), .val (.int p3), .val (.int p4), .val (.int p5), .val (.int (Int32.ofNat FL)), .val (.int (Int32.ofNat PL)), .val (.int (((p1 &&& (255 : Int32))).toUInt32.toUInt16.toUInt32.toInt32)), .unset, .unset, .unset, .unset, .unset, .unset, .unset, .unset, .unset, .unset, .unset, .unset, .unset, .unset, .unset] [])) _
  have hc0 := own_c255 p1
  generalize hgc0 : (((p1 &&& (255 : Int32))).toUInt32.toUInt16.toUInt32.toInt32) = c0
  show GoOn p e below (s₁.setTop (mkF m 26 #[.val (.int p0), .val (.int p1), .val (.int p2), .val (.int p3), .val (.int p4), .val (.int p5), .val (.int (Int32.ofNat FL)), .val (.int (Int32.ofNat PL)), .val (.int c0), .unset, .unset, .unset, .unset, .unset, .unset, .unset, .unset, .unset, .unset, .unset, .unset, .unset, .unset, .unset] [])) _
  rw [hgc0] at hc0
  refine GoOn.step (fun tq kq => XS.iloadN X0.here hx rfl (hb hby at_26) rfl kq) ?_
  refine GoOn.step (fun tq kq => XS.sipush X0.here hx rfl (hb hby at_27) kq) ?_
  refine GoOn.step (fun tq kq => XS.iand X0.here hx rfl (hb hby at_30) rfl kq) ?_
  refine GoOn.step (fun tq kq => XS.i2c X0.here hx rfl (hb hby at_31) rfl kq) ?_
  refine GoOn.step (fun tq kq => XS.istore X0.here hx rfl (hb hby at_32) rfl (l' := #[.val (.int p0), .val (.int p1), .val (.int p2), .val (.int p3), .val (.int p4), .val (.int p5), .val (.int (Int32.ofNat FL)), .val (.int (Int32.ofNat PL)), .val (.int c0), .val (.int (((p2 &&& (255 : Int32))).toUInt32.toUInt16.toUInt32.toInt32)), .unset, .unset, .unset, .unset, .unset, .unset, .unset, .unset, .unset, .unset, .unset, .unset, .unset, .unset]) rfl kq) ?_
  show GoOn p e below (s₁.setTop (mkF m 34 #[.val (.int p0), .val (.int p1), .val (.int p2), .val (.int p3), .val (.int p4), .val (.int p5), .val (.int (Int32.ofNat FL)), .val (.int (Int32.ofNat PL)), .val (.int c0), .val (.int (((p2 &&& (255 : Int32))).toUInt32.toUInt16.toUInt32.toInt32)), .unset, .unset, .unset, .unset, .unset, .unset, .unset, .unset, .unset, .unset, .unset, .unset, .unset, .unset] [])) _
  have hc1 := own_c255 p2
  generalize hgc1 : (((p2 &&& (255 : Int32))).toUInt32.toUInt16.toUInt32.toInt32) = c1
  show GoOn p e below (s₁.setTop (mkF m 34 #[.val (.int p0), .val (.int p1), .val (.int p2), .val (.int p3), .val (.int p4), .val (.int p5), .val (.int (Int32.ofNat FL)), .val (.int (Int32.ofNat PL)), .val (.int c0), .val (.int c1), .unset, .unset, .unset, .unset, .unset, .unset, .unset, .unset, .unset, .unset, .unset, .unset, .unset, .unset] [])) _
  rw [hgc1] at hc1
  refine GoOn.step (fun tq kq => XS.iloadN X0.here hx rfl (hb hby at_34) rfl kq) ?_
  refine GoOn.step (fun tq kq => XS.sipush X0.here hx rfl (hb hby at_35) kq) ?_
  refine GoOn.step (fun tq kq => XS.iand X0.here hx rfl (hb hby at_38) rfl kq) ?_
  refine GoOn.step (fun tq kq => XS.i2c X0.here hx rfl (hb hby at_39) rfl kq) ?_
  refine GoOn.step (fun tq kq => XS.istore X0.here hx rfl (hb hby at_40) rfl (l' := #[.val (.int p0), .val (.int p1), .val (.int p2), .val (.int p3), .val (.int p4), .val (.int p5), .val (.int (Int32.ofNat FL)), .val (.int (Int32.ofNat PL)), .val (.int c0), .val (.int c1), .val (.int (((p3 &&& (255 : Int32))).toUInt32.toUInt16.toUInt32.toInt32)), .unset, .unset, .unset, .unset, .unset, .unset, .unset, .unset, .unset, .unset, .unset, .unset, .unset]) rfl kq) ?_
  show GoOn p e below (s₁.setTop (mkF m 42 #[.val (.int p0), .val (.int p1), .val (.int p2), .val (.int p3), .val (.int p4), .val (.int p5), .val (.int (Int32.ofNat FL)), .val (.int (Int32.ofNat PL)), .val (.int c0), .val (.int c1), .val (.int (((p3 &&& (255 : Int32))).toUInt32.toUInt16.toUInt32.toInt32)), .unset, .unset, .unset, .unset, .unset, .unset, .unset, .unset, .unset, .unset, .unset, .unset, .unset] [])) _
  have hc2 := own_c255 p3
  generalize hgc2 : (((p3 &&& (255 : Int32))).toUInt32.toUInt16.toUInt32.toInt32) = c2
  show GoOn p e below (s₁.setTop (mkF m 42 #[.val (.int p0), .val (.int p1), .val (.int p2), .val (.int p3), .val (.int p4), .val (.int p5), .val (.int (Int32.ofNat FL)), .val (.int (Int32.ofNat PL)), .val (.int c0), .val (.int c1), .val (.int c2), .unset, .unset, .unset, .unset, .unset, .unset, .unset, .unset, .unset, .unset, .unset, .unset, .unset] [])) _
  rw [hgc2] at hc2
  refine GoOn.step (fun tq kq => XS.iload X0.here hx rfl (hb hby at_42) rfl kq) ?_
  refine GoOn.step (fun tq kq => XS.sipush X0.here hx rfl (hb hby at_44) kq) ?_
  refine GoOn.step (fun tq kq => XS.iand X0.here hx rfl (hb hby at_47) rfl kq) ?_
  refine GoOn.step (fun tq kq => XS.i2c X0.here hx rfl (hb hby at_48) rfl kq) ?_
  refine GoOn.step (fun tq kq => XS.istore X0.here hx rfl (hb hby at_49) rfl (l' := #[.val (.int p0), .val (.int p1), .val (.int p2), .val (.int p3), .val (.int p4), .val (.int p5), .val (.int (Int32.ofNat FL)), .val (.int (Int32.ofNat PL)), .val (.int c0), .val (.int c1), .val (.int c2), .val (.int (((p4 &&& (255 : Int32))).toUInt32.toUInt16.toUInt32.toInt32)), .unset, .unset, .unset, .unset, .unset, .unset, .unset, .unset, .unset, .unset, .unset, .unset]) rfl kq) ?_
  show GoOn p e below (s₁.setTop (mkF m 51 #[.val (.int p0), .val (.int p1), .val (.int p2), .val (.int p3), .val (.int p4), .val (.int p5), .val (.int (Int32.ofNat FL)), .val (.int (Int32.ofNat PL)), .val (.int c0), .val (.int c1), .val (.int c2), .val (.int (((p4 &&& (255 : Int32))).toUInt32.toUInt16.toUInt32.toInt32)), .unset, .unset, .unset, .unset, .unset, .unset, .unset, .unset, .unset, .unset, .unset, .unset] [])) _
  have hc3 := own_c255 p4
  generalize hgc3 : (((p4 &&& (255 : Int32))).toUInt32.toUInt16.toUInt32.toInt32) = c3
  show GoOn p e below (s₁.setTop (mkF m 51 #[.val (.int p0), .val (.int p1), .val (.int p2), .val (.int p3), .val (.int p4), .val (.int p5), .val (.int (Int32.ofNat FL)), .val (.int (Int32.ofNat PL)), .val (.int c0), .val (.int c1), .val (.int c2), .val (.int c3), .unset, .unset, .unset, .unset, .unset, .unset, .unset, .unset, .unset, .unset, .unset, .unset] [])) _
  rw [hgc3] at hc3
  refine GoOn.step (fun tq kq => XS.iload X0.here hx rfl (hb hby at_51) rfl kq) ?_
  refine GoOn.step (fun tq kq => XS.iload X0.here hx rfl (hb hby at_53) rfl kq) ?_
  refine GoOn.step (fun tq kq => XS.iload X0.here hx rfl (hb hby at_55) rfl kq) ?_
  show GoOn p e below (s₁.setTop (mkF m 57 #[.val (.int p0), .val (.int p1), .val (.int p2), .val (.int p3), .val (.int p4), .val (.int p5), .val (.int (Int32.ofNat FL)), .val (.int (Int32.ofNat PL)), .val (.int c0), .val (.int c1), .val (.int c2), .val (.int c3), .unset, .unset, .unset, .unset, .unset, .unset, .unset, .unset, .unset, .unset, .unset, .unset] [(.int c1), (.int c0), (.int (Int32.ofNat FL))])) _
  obtain ⟨_, _, ⟨T1227, L1227, k1227, n1227⟩, -, X1227, hS1227, hg1227, ⟨Lc1227, hQ1227, l1227, y1227, z1227, Cn1227⟩, st1227⟩ := Jvm.RoadKit.callSS X0 hx (y := (⟨"com/example/faktorwerk/faktorwerk/model/InputRefusedExceptionAtLinePinLaw", "str", "(ICC)Ljava/lang/String;"⟩ : MethodName)) hown (mvT hZ (hw _ (List.mem_of_getElem? (i := 0) rfl))) (mvT hZ (hw _ (List.mem_of_getElem? (i := 1) rfl))) (mvT hZ (hw _ (List.mem_of_getElem? (i := 2) rfl))) (mvT hZ (hw _ (List.mem_of_getElem? (i := 3) rfl))) (by decide) (backOfSH (W := 0) (rmMk l Z a0 hw (Int32.ofNat FL) c0 c1 G1 h0 n0 Z0 hc0 hc1 SC PC O0) hZ (hw _ (List.mem_of_getElem? (i := 3) rfl)) (hw _ (List.mem_of_getElem? (i := 2) rfl)) (by decide) (by decide) hEL C0.1) (g := (mkF m 57 #[.val (.int p0), .val (.int p1), .val (.int p2), .val (.int p3), .val (.int p4), .val (.int p5), .val (.int (Int32.ofNat FL)), .val (.int (Int32.ofNat PL)), .val (.int c0), .val (.int c1), .val (.int c2), .val (.int c3), .unset, .unset, .unset, .unset, .unset, .unset, .unset, .unset, .unset, .unset, .unset, .unset] [(.int c1), (.int c0), (.int (Int32.ofNat FL))])) rfl (by rw [hml]; rfl) (argsL := [(.int (Int32.ofNat FL)), (.int c0), (.int c1)]) (rest := []) (lenOf own_pd661 rfl) rfl (by show 2 * 0 + _ ≤ _; exact Nat.le_of_eq rfl) (hb hby at_57) (fun _ _ => ⟨rfl, e0, (by decide : 0 + 6 ≤ _), (by decide : 0 + 12 ≤ _)⟩)
  dsimp only [Pt.U, Pt.locs, Pt.cells, Pt.slots] at X1227 l1227 y1227 z1227 st1227 hQ1227 hS1227 hg1227 Cn1227
  subst l1227 y1227 z1227
  obtain ⟨sa1227, rfl, N1227, K1227, S1227⟩ := hQ1227
  refine GoOn.trans st1227 ?_
  replace X1227 : Stand p l e _ (s.setVm T1227.vm) m _ below meth c T1227 _ _ _ := X1227
  have hZ1227 : Z.Warmed39 (s.setVm T1227.vm).vm := State.Warmed39.trans (t := (s.setVm s.vm)) hZ hS1227.1
  have hown1227 : (s.setVm T1227.vm).vm.findClass "com/example/faktorwerk/faktorwerk/model/InputRefusedExceptionAtLinePinLaw" = some m.cls := by rw [show (s.setVm T1227.vm).vm = T1227.vm from rfl, hS1227.1.alike.findClass]; exact hown
  have hSn1227 : s.Since T1227.vm T1227.heap.size := foldS hS0 (by rw [e0]; exact hk0) hS1227 hg1227
  have hk1227 : T1227.heap.size ≤ T1227.heap.size := Nat.le_refl _
  have N1228 := Fr.app N0 N1227
  have O1229 : Old Z n0 T1227.heap := O0.keep K1227 all0
  have Z1230 : n0 ≤ T1227.heap.size := Nat.le_trans Z0 K1227.1
  have K1231 : Keep h0 T1227.heap [] := K0.trans K1227 all0
  have C1232 : CHr Z own_EL s.vm h0 T1227.vm T1227.heap := CHr.trans C0 Cn1227
  refine GoOn.step (fun tq kq => XS.astore X1227.here hx rfl (hb hby at_60) rfl rfl (l' := #[.val (.int p0), .val (.int p1), .val (.int p2), .val (.int p3), .val (.int p4), .val (.int p5), .val (.int (Int32.ofNat FL)), .val (.int (Int32.ofNat PL)), .val (.int c0), .val (.int c1), .val (.int c2), .val (.int c3), .val (.ref sa1227), .unset, .unset, .unset, .unset, .unset, .unset, .unset, .unset, .unset, .unset, .unset]) rfl kq) ?_
  refine GoOn.step (fun tq kq => XS.iload X1227.here hx rfl (hb hby at_62) rfl kq) ?_
  refine GoOn.step (fun tq kq => XS.iload X1227.here hx rfl (hb hby at_64) rfl kq) ?_
  refine GoOn.step (fun tq kq => XS.iload X1227.here hx rfl (hb hby at_66) rfl kq) ?_
  show GoOn p e below (T1227.setTop (mkF m 68 #[.val (.int p0), .val (.int p1), .val (.int p2), .val (.int p3), .val (.int p4), .val (.int p5), .val (.int (Int32.ofNat FL)), .val (.int (Int32.ofNat PL)), .val (.int c0), .val (.int c1), .val (.int c2), .val (.int c3), .val (.ref sa1227), .unset, .unset, .unset, .unset, .unset, .unset, .unset, .unset, .unset, .unset, .unset] [(.int c3), (.int c2), (.int (Int32.ofNat PL))])) _
  obtain ⟨_, _, ⟨T1233, L1233, k1233, n1233⟩, -, X1233, hS1233, hg1233, ⟨Lc1233, hQ1233, l1233, y1233, z1233, Cn1233⟩, st1233⟩ := Jvm.RoadKit.callSS X1227 hx (y := (⟨"com/example/faktorwerk/faktorwerk/model/InputRefusedExceptionAtLinePinLaw", "str", "(ICC)Ljava/lang/String;"⟩ : MethodName)) hown1227 (mvT hZ1227 (hw _ (List.mem_of_getElem? (i := 0) rfl))) (mvT hZ1227 (hw _ (List.mem_of_getElem? (i := 1) rfl))) (mvT hZ1227 (hw _ (List.mem_of_getElem? (i := 2) rfl))) (mvT hZ1227 (hw _ (List.mem_of_getElem? (i := 3) rfl))) (by decide) (backOfSH (W := 0) (rmMk l Z a0 hw (Int32.ofNat PL) c2 c3 G1 T1227.heap n0 Z1230 hc2 hc3 SC PC O1229) hZ1227 (hw _ (List.mem_of_getElem? (i := 3) rfl)) (hw _ (List.mem_of_getElem? (i := 2) rfl)) (by decide) (by decide) hEL C1232.1) (g := (mkF m 68 #[.val (.int p0), .val (.int p1), .val (.int p2), .val (.int p3), .val (.int p4), .val (.int p5), .val (.int (Int32.ofNat FL)), .val (.int (Int32.ofNat PL)), .val (.int c0), .val (.int c1), .val (.int c2), .val (.int c3), .val (.ref sa1227), .unset, .unset, .unset, .unset, .unset, .unset, .unset, .unset, .unset, .unset, .unset] [(.int c3), (.int c2), (.int (Int32.ofNat PL))])) rfl (by rw [hml]; rfl) (argsL := [(.int (Int32.ofNat PL)), (.int c2), (.int c3)]) (rest := []) (lenOf own_pd661 rfl) rfl (by show 2 * 0 + _ ≤ _; exact Nat.le_of_eq rfl) (hb hby at_68) (fun _ _ => ⟨rfl, rfl, (by decide : 6 + 6 ≤ _), (by decide : 12 + 12 ≤ _)⟩)
  dsimp only [Pt.U, Pt.locs, Pt.cells, Pt.slots] at X1233 l1233 y1233 z1233 st1233 hQ1233 hS1233 hg1233 Cn1233
  subst l1233 y1233 z1233
  obtain ⟨sa1233, rfl, N1233, K1233, S1233⟩ := hQ1233
  refine GoOn.trans st1233 ?_
  replace X1233 : Stand p l e _ (s.setVm T1233.vm) m _ below meth c T1233 _ _ _ := X1233
  have hZ1233 : Z.Warmed39 (s.setVm T1233.vm).vm := State.Warmed39.trans (t := (s.setVm T1227.vm)) hZ1227 hS1233.1
  have hown1233 : (s.setVm T1233.vm).vm.findClass "com/example/faktorwerk/faktorwerk/model/InputRefusedExceptionAtLinePinLaw" = some m.cls := by rw [show (s.setVm T1233.vm).vm = T1233.vm from rfl, hS1233.1.alike.findClass]; exact hown1227
  have hSn1233 : s.Since T1233.vm T1233.heap.size := foldS hSn1227 hk1227 hS1233 hg1233
  have hk1233 : T1233.heap.size ≤ T1233.heap.size := Nat.le_refl _
  have N1234 := Fr.app N1228 N1233
  have O1235 : Old Z n0 T1233.heap := O1229.keep K1233 all0
  have Z1236 : n0 ≤ T1233.heap.size := Nat.le_trans Z1230 K1233.1
  have K1237 : Keep h0 T1233.heap [] := K1231.trans K1233 all0
  have C1238 : CHr Z own_EL s.vm h0 T1233.vm T1233.heap := CHr.trans C1232 Cn1233
  have Sr1239 : StrIs Z T1233.heap sa1227 (if (Int32.ofNat FL) = 0 then ([] : List Int32) else if (Int32.ofNat FL) = 1 then [c0] else [c0, c1]) := S1227.keep0 K1233
  refine GoOn.step (fun tq kq => XS.astore X1233.here hx rfl (hb hby at_71) rfl rfl (l' := #[.val (.int p0), .val (.int p1), .val (.int p2), .val (.int p3), .val (.int p4), .val (.int p5), .val (.int (Int32.ofNat FL)), .val (.int (Int32.ofNat PL)), .val (.int c0), .val (.int c1), .val (.int c2), .val (.int c3), .val (.ref sa1227), .val (.ref sa1233), .unset, .unset, .unset, .unset, .unset, .unset, .unset, .unset, .unset, .unset]) rfl kq) ?_
  refine GoOn.step (fun tq kq => XS.aload X1233.here hx rfl (hb hby at_73) rfl rfl kq) ?_
  refine GoOn.step (fun tq kq => XS.iloadN X1233.here hx rfl (hb hby at_75) rfl kq) ?_
  refine GoOn.step (fun tq kq => XS.aload X1233.here hx rfl (hb hby at_76) rfl rfl kq) ?_
  show GoOn p e below (T1233.setTop (mkF m 78 #[.val (.int p0), .val (.int p1), .val (.int p2), .val (.int p3), .val (.int p4), .val (.int p5), .val (.int (Int32.ofNat FL)), .val (.int (Int32.ofNat PL)), .val (.int c0), .val (.int c1), .val (.int c2), .val (.int c3), .val (.ref sa1227), .val (.ref sa1233), .unset, .unset, .unset, .unset, .unset, .unset, .unset, .unset, .unset, .unset] [(.ref sa1233), (.int p0), (.ref sa1227)])) _
  have hmF := own_mkn hbFL c0 c1
  have hmP := own_mkn hbPL c2 c3
  obtain ⟨_, _, ⟨T1240, L1240, k1240, n1240⟩, -, X1240, hS1240, hg1240, ⟨Lc1240, hQ1240, l1240, y1240, z1240, Cn1240⟩, st1240⟩ := Jvm.RoadKit.callSS X1233 hx (y := (⟨"com/example/faktorwerk/faktorwerk/model/InputRefusedException", "atLine", "(Ljava/lang/String;ILjava/lang/String;)Lcom/example/faktorwerk/faktorwerk/model/InputRefusedException;"⟩ : MethodName)) hown1233 (mvT hZ1233 (hw _ (List.mem_of_getElem? (i := 26) rfl))) (mvT hZ1233 (hw _ (List.mem_of_getElem? (i := 27) rfl))) (mvT hZ1233 (hw _ (List.mem_of_getElem? (i := 28) rfl))) (mvT hZ1233 (hw _ (List.mem_of_getElem? (i := 29) rfl))) (by decide) (backOfSKH (W := 0) (rmAt l Z a0 hw sa1227 sa1233 (if (Int32.ofNat FL) = 0 then ([] : List Int32) else if (Int32.ofNat FL) = 1 then [c0] else [c0, c1]) (if (Int32.ofNat PL) = 0 then ([] : List Int32) else if (Int32.ofNat PL) = 1 then [c2] else [c2, c3]) G1 u0 w0 p0 N st d1 D1 d2 D2 T1233.heap n0 Z1236 SC PC hST SU rU SS rS hn hx0 DG Sr1239 S1233 (by rw [hmF.1]; exact hbFL) (by rw [hmP.1]; exact hbPL) O1235) hZ1233 (hw _ (List.mem_of_getElem? (i := 29) rfl)) (hw _ (List.mem_of_getElem? (i := 28) rfl)) (by decide) (by decide) hEL C1238.1 (Vm.MethodsKnown.alikeC hSn1233.1.alike hK.1) (Vm.FramesKnown.alikeC hSn1233.1.alike hK.2)) (g := (mkF m 78 #[.val (.int p0), .val (.int p1), .val (.int p2), .val (.int p3), .val (.int p4), .val (.int p5), .val (.int (Int32.ofNat FL)), .val (.int (Int32.ofNat PL)), .val (.int c0), .val (.int c1), .val (.int c2), .val (.int c3), .val (.ref sa1227), .val (.ref sa1233), .unset, .unset, .unset, .unset, .unset, .unset, .unset, .unset, .unset, .unset] [(.ref sa1233), (.int p0), (.ref sa1227)])) rfl (by rw [hml]; rfl) (argsL := [(.ref sa1227), (.int p0), (.ref sa1233)]) (rest := []) (lenOf own_pd662 rfl) rfl (by show 2 * 0 + _ ≤ _; exact Nat.le_of_eq rfl) (hb hby at_78) (fun _ _ => ⟨rfl, rfl, (by decide : 12 + 11 ≤ _), (by decide : 24 + 2900 ≤ _)⟩)
  dsimp only [Pt.U, Pt.locs, Pt.cells, Pt.slots] at X1240 l1240 y1240 z1240 st1240 hQ1240 hS1240 hg1240 Cn1240
  subst l1240 y1240 z1240
  obtain ⟨x1240, m1240, rfl, N1240, K1240, E1240, Un1240, Fu1240, Fm1240, S1240⟩ := hQ1240
  refine GoOn.trans st1240 ?_
  replace X1240 : Stand p l e _ (s.setVm T1240.vm) m _ below meth c T1240 _ _ _ := X1240
  have hZ1240 : Z.Warmed39 (s.setVm T1240.vm).vm := State.Warmed39.trans (t := (s.setVm T1233.vm)) hZ1233 hS1240.1
  have hown1240 : (s.setVm T1240.vm).vm.findClass "com/example/faktorwerk/faktorwerk/model/InputRefusedExceptionAtLinePinLaw" = some m.cls := by rw [show (s.setVm T1240.vm).vm = T1240.vm from rfl, hS1240.1.alike.findClass]; exact hown1233
  have hSn1240 : s.Since T1240.vm T1240.heap.size := foldS hSn1233 hk1233 hS1240 hg1240
  have hk1240 : T1240.heap.size ≤ T1240.heap.size := Nat.le_refl _
  have N1241 := Fr.app N1234 N1240
  have O1242 : Old Z n0 T1240.heap := O1235.keep K1240 all0
  have Z1243 : n0 ≤ T1240.heap.size := Nat.le_trans Z1236 K1240.1
  have K1244 : Keep h0 T1240.heap [] := K1237.trans K1240 all0
  have C1245 : CHr Z own_EL s.vm h0 T1240.vm T1240.heap := CHr.trans C1238 Cn1240
  have Sr1246 : StrIs Z T1240.heap sa1227 (if (Int32.ofNat FL) = 0 then ([] : List Int32) else if (Int32.ofNat FL) = 1 then [c0] else [c0, c1]) := Sr1239.keep0 K1240
  have Sr1247 : StrIs Z T1240.heap sa1233 (if (Int32.ofNat PL) = 0 then ([] : List Int32) else if (Int32.ofNat PL) = 1 then [c2] else [c2, c3]) := S1233.keep0 K1240
  show GoOn p e below (T1240.setTop (mkF m 81 #[.val (.int p0), .val (.int p1), .val (.int p2), .val (.int p3), .val (.int p4), .val (.int p5), .val (.int (Int32.ofNat FL)), .val (.int (Int32.ofNat PL)), .val (.int c0), .val (.int c1), .val (.int c2), .val (.int c3), .val (.ref sa1227), .val (.ref sa1233), .unset, .unset, .unset, .unset, .unset, .unset, .unset, .unset, .unset, .unset] [(.ref x1240)])) _
  obtain ⟨es, hes, Ses⟩ : ∃ es, es = ((((([] ++ (if (Int32.ofNat FL) = 0 then ([] : List Int32) else if (Int32.ofNat FL) = 1 then [c0] else [c0, c1])) ++ ([58] : List Int32)) ++ own_is p0 N) ++ ([58, 32] : List Int32)) ++ (if (Int32.ofNat PL) = 0 then ([] : List Int32) else if (Int32.ofNat PL) = 1 then [c2] else [c2, c3])) ∧ StrIs Z T1240.heap m1240 es := ⟨_, rfl, S1240⟩
  obtain ⟨cqc1249, kqc1249, qac1249, qbc1249, qcc1249⟩ := isOf hZ1240 rfl E1240
  obtain ⟨_, _, ⟨T1248, L1248, k1248, n1248⟩, -, X1248, ⟨Lc1248, hQ1248, l1248, y1248, z1248⟩, st1248⟩ := X1240.virtualBackUp hx (x := (⟨"com/example/faktorwerk/faktorwerk/model/InputRefusedException", "getMessage", "()Ljava/lang/String;"⟩ : MethodName)) (y := (⟨"java/lang/Throwable", "getMessage", "()Ljava/lang/String;"⟩ : MethodName)) (owner := "java/lang/Throwable") hown1240 (mvT hZ1240 (hw _ (List.mem_of_getElem? (i := 214) rfl))) (mvT hZ1240 (hw _ (List.mem_of_getElem? (i := 215) rfl))) (mvT hZ1240 (hw _ (List.mem_of_getElem? (i := 216) rfl))) (by decide) (mvT hZ1240 (hw _ (List.mem_of_getElem? (i := 218) rfl))) (mvT hZ1240 (hw _ (List.mem_of_getElem? (i := 217) rfl))) (backOf (W := 0) (rmGM l Z a0 hw x1240 m1240 T1240.heap n0 Z1243 Fm1240) hZ1240 (hw _ (List.mem_of_getElem? (i := 219) rfl)) (hw _ (List.mem_of_getElem? (i := 175) rfl)) (by decide) (by decide)) qac1249 qcc1249 (g := (mkF m 81 #[.val (.int p0), .val (.int p1), .val (.int p2), .val (.int p3), .val (.int p4), .val (.int p5), .val (.int (Int32.ofNat FL)), .val (.int (Int32.ofNat PL)), .val (.int c0), .val (.int c1), .val (.int c2), .val (.int c3), .val (.ref sa1227), .val (.ref sa1233), .unset, .unset, .unset, .unset, .unset, .unset, .unset, .unset, .unset, .unset] [(.ref x1240)])) rfl (by rw [hml]; rfl) (Steps.refl _) (argsL := []) (rest := []) (lenOf own_pd656 rfl) rfl (by show 2 * 0 + _ ≤ _; exact Nat.le_of_eq rfl) (hb hby at_81) (fun _ _ => ⟨rfl, rfl, (by decide : 23 + 0 ≤ _), (by decide : 2924 + 0 ≤ _)⟩)
  dsimp only [Pt.U, Pt.locs, Pt.cells, Pt.slots] at X1248 l1248 y1248 z1248 st1248 hQ1248
  subst l1248 y1248 z1248
  obtain ⟨rfl, N1248, e1248⟩ := hQ1248
  refine GoOn.trans st1248 ?_
  have N1250 := Fr.app N1241 N1248
  refine GoOn.step (fun tq kq => XS.astore X1248.here hx rfl (hb hby at_84) rfl rfl (l' := #[.val (.int p0), .val (.int p1), .val (.int p2), .val (.int p3), .val (.int p4), .val (.int p5), .val (.int (Int32.ofNat FL)), .val (.int (Int32.ofNat PL)), .val (.int c0), .val (.int c1), .val (.int c2), .val (.int c3), .val (.ref sa1227), .val (.ref sa1233), .val (.ref m1240), .unset, .unset, .unset, .unset, .unset, .unset, .unset, .unset, .unset]) rfl kq) ?_
  refine GoOn.step (fun tq kq => XS.aload X1248.here hx rfl (hb hby at_86) rfl rfl kq) ?_
  refine GoOn.step (fun tq kq => XS.ifnonnullYes X1248.here hx rfl (pc0 := 88) (pc' := 93) rfl (hb hby at_88) rfl (by decide) (by decide) kq) ?_
  refine GoOn.step (fun tq kq => XS.iloadN X1248.here hx rfl (hb hby at_93) rfl kq) ?_
  refine GoOn.step (fun tq kq => XS.i2l X1248.here hx rfl (hb hby at_94) rfl kq) ?_
  refine GoOn.step (fun tq kq => XS.lstore X1248.here hx rfl (hb hby at_95) rfl (l' := #[.val (.int p0), .val (.int p1), .val (.int p2), .val (.int p3), .val (.int p4), .val (.int p5), .val (.int (Int32.ofNat FL)), .val (.int (Int32.ofNat PL)), .val (.int c0), .val (.int c1), .val (.int c2), .val (.int c3), .val (.ref sa1227), .val (.ref sa1233), .val (.ref m1240), .val (.long ((p0).toInt64)), .second, .unset, .unset, .unset, .unset, .unset, .unset, .unset]) rfl kq) ?_
  refine GoOn.step (fun tq kq => XS.lload X1248.here hx rfl (hb hby at_97) rfl kq) ?_
  refine GoOn.step (fun tq kq => XS.lconst X1248.here hx rfl (hb hby at_99) kq) ?_
  refine GoOn.step (fun tq kq => XS.lcmp X1248.here hx rfl (hb hby at_100) rfl kq) ?_
  show GoOn p e below (T1248.setTop (mkF m 101 #[.val (.int p0), .val (.int p1), .val (.int p2), .val (.int p3), .val (.int p4), .val (.int p5), .val (.int (Int32.ofNat FL)), .val (.int (Int32.ofNat PL)), .val (.int c0), .val (.int c1), .val (.int c2), .val (.int c3), .val (.ref sa1227), .val (.ref sa1233), .val (.ref m1240), .val (.long ((p0).toInt64)), .second, .unset, .unset, .unset, .unset, .unset, .unset, .unset] [(.int (lcmpW ((p0).toInt64) (0 : Int64)))])) _
  have J1251 : ∀ (vj1254 : Vm) (kj1254 : Nat) (Tj1254 : State) (lj1254 : List Loc) (hj1254 : Heap) (lv : Int64) (SG : Nat) (Xj1254 : Stand p l e room_1 (s.setVm vj1254) m #[(.int p0), (.int p1), (.int p2), (.int p3), (.int p4), (.int p5)] below meth c Tj1254 lj1254 23 2924) (ej1254 : Tj1254.heap = hj1254) (Nj1254 : Fr n0 lj1254) (hZj1254 : Z.Warmed39 (s.setVm vj1254).vm) (hownj1254 : (s.setVm vj1254).vm.findClass "com/example/faktorwerk/faktorwerk/model/InputRefusedExceptionAtLinePinLaw" = some m.cls) (hSj1254 : s.Since vj1254 kj1254) (hkj1254 : kj1254 ≤ hj1254.size) (Cj1254 : CHr Z own_EL s.vm h0 vj1254 hj1254) (Zj1254 : n0 ≤ hj1254.size) (Kj1254 : Keep h0 hj1254 []) (Sj1252 : StrIs Z hj1254 m1240 es) (Oj1253 : Old Z n0 hj1254) (hsg : Jvm.Free.SBG.GetChars.sgn p0 = SG) (hS1 : SG ≤ 1), GoOn p e below (Tj1254.setTop (mkF m 126 #[.val (.int p0), .val (.int p1), .val (.int p2), .val (.int p3), .val (.int p4), .val (.int p5), .val (.int (Int32.ofNat FL)), .val (.int (Int32.ofNat PL)), .val (.int c0), .val (.int c1), .val (.int c2), .val (.int c3), .val (.ref sa1227), .val (.ref sa1233), .val (.ref m1240), .val (.long lv), .second, .val (.int (Int32.ofNat SG)), .val (.long (Int64.ofNat N)), .second, .unset, .unset, .unset, .unset] [])) (PostH Z own_EL s (QLaw h0 n0) 64 9088) := by
    intro vj1254 kj1254 Tj1254 lj1254 hj1254 lv SG Xj1254 ej1254 Nj1254 hZj1254 hownj1254 hSj1254 hkj1254 Cj1254 Zj1254 Kj1254 Sj1252 Oj1253 hsg hS1
    obtain ⟨he1, he2, he3, he4, he5, he6, he7, he8⟩ := own_es hes hmF.1 hmP.1 hsg
    refine GoOn.step (fun tq kq => XS.lload Xj1254.here hx rfl (hb hby at_126) rfl kq) ?_
    show GoOn p e below (Tj1254.setTop (mkF m 128 #[.val (.int p0), .val (.int p1), .val (.int p2), .val (.int p3), .val (.int p4), .val (.int p5), .val (.int (Int32.ofNat FL)), .val (.int (Int32.ofNat PL)), .val (.int c0), .val (.int c1), .val (.int c2), .val (.int c3), .val (.ref sa1227), .val (.ref sa1233), .val (.ref m1240), .val (.long lv), .second, .val (.int (Int32.ofNat SG)), .val (.long (Int64.ofNat N)), .second, .unset, .unset, .unset, .unset] [(.long (Int64.ofNat N))])) _
    obtain ⟨_, _, ⟨T1255, L1255, k1255, n1255⟩, -, X1255, ⟨Lc1255, hQ1255, l1255, y1255, z1255⟩, st1255⟩ := Jvm.LawKit.callS Xj1254 hx (y := (⟨"com/example/faktorwerk/faktorwerk/model/InputRefusedExceptionAtLinePinLaw", "digits", "(J)I"⟩ : MethodName)) hownj1254 (mvT hZj1254 (hw _ (List.mem_of_getElem? (i := 220) rfl))) (mvT hZj1254 (hw _ (List.mem_of_getElem? (i := 221) rfl))) (mvT hZj1254 (hw _ (List.mem_of_getElem? (i := 2) rfl))) (mvT hZj1254 (hw _ (List.mem_of_getElem? (i := 222) rfl))) (by decide) (backOf (W := 0) (rmDigs l Z a0 hw N hj1254 n0 Zj1254 hn) hZj1254 (hw _ (List.mem_of_getElem? (i := 222) rfl)) (hw _ (List.mem_of_getElem? (i := 2) rfl)) (by decide) (by decide)) (g := (mkF m 128 #[.val (.int p0), .val (.int p1), .val (.int p2), .val (.int p3), .val (.int p4), .val (.int p5), .val (.int (Int32.ofNat FL)), .val (.int (Int32.ofNat PL)), .val (.int c0), .val (.int c1), .val (.int c2), .val (.int c3), .val (.ref sa1227), .val (.ref sa1233), .val (.ref m1240), .val (.long lv), .second, .val (.int (Int32.ofNat SG)), .val (.long (Int64.ofNat N)), .second, .unset, .unset, .unset, .unset] [(.long (Int64.ofNat N))])) rfl (by rw [hml]; rfl) (argsL := [(.long (Int64.ofNat N))]) (rest := []) (lenOf own_pd663 rfl) rfl (by show 2 * 0 + _ ≤ _; exact Nat.le_of_eq rfl) (hb hby at_128) (fun _ _ => ⟨rfl, ej1254, (by decide : 23 + 0 ≤ _), (by decide : 2924 + 0 ≤ _)⟩)
    dsimp only [Pt.U, Pt.locs, Pt.cells, Pt.slots] at X1255 l1255 y1255 z1255 st1255 hQ1255
    subst l1255 y1255 z1255
    obtain ⟨rfl, N1255, e1255⟩ := hQ1255
    refine GoOn.step st1255 ?_
    have N1256 := Fr.app Nj1254 N1255
    show GoOn p e below (T1255.setTop (mkF m 131 #[.val (.int p0), .val (.int p1), .val (.int p2), .val (.int p3), .val (.int p4), .val (.int p5), .val (.int (Int32.ofNat FL)), .val (.int (Int32.ofNat PL)), .val (.int c0), .val (.int c1), .val (.int c2), .val (.int c3), .val (.ref sa1227), .val (.ref sa1233), .val (.ref m1240), .val (.long lv), .second, .val (.int (Int32.ofNat SG)), .val (.long (Int64.ofNat N)), .second, .unset, .unset, .unset, .unset] [(.int (Int32.ofNat (Jvm.Free.SBG.digits N)))])) _
    generalize Jvm.Free.SBG.digits N = dN at he1 he5 he6 he7 he8 hdg ⊢
    refine GoOn.step (fun tq kq => XS.istore X1255.here hx rfl (hb hby at_131) rfl (l' := #[.val (.int p0), .val (.int p1), .val (.int p2), .val (.int p3), .val (.int p4), .val (.int p5), .val (.int (Int32.ofNat FL)), .val (.int (Int32.ofNat PL)), .val (.int c0), .val (.int c1), .val (.int c2), .val (.int c3), .val (.ref sa1227), .val (.ref sa1233), .val (.ref m1240), .val (.long lv), .second, .val (.int (Int32.ofNat SG)), .val (.long (Int64.ofNat N)), .second, .val (.int (Int32.ofNat dN)), .unset, .unset, .unset]) rfl kq) ?_
    refine GoOn.step (fun tq kq => XS.iload X1255.here hx rfl (hb hby at_133) rfl kq) ?_
    refine GoOn.step (fun tq kq => XS.iconst X1255.here hx rfl (hb hby at_135) kq) ?_
    refine GoOn.step (fun tq kq => XS.iadd X1255.here hx rfl (hb hby at_136) rfl kq) ?_
    refine GoOn.step (fun tq kq => XS.iload X1255.here hx rfl (hb hby at_137) rfl kq) ?_
    show GoOn p e below (T1255.setTop (mkF m 139 #[.val (.int p0), .val (.int p1), .val (.int p2), .val (.int p3), .val (.int p4), .val (.int p5), .val (.int (Int32.ofNat FL)), .val (.int (Int32.ofNat PL)), .val (.int c0), .val (.int c1), .val (.int c2), .val (.int c3), .val (.ref sa1227), .val (.ref sa1233), .val (.ref m1240), .val (.long lv), .second, .val (.int (Int32.ofNat SG)), .val (.long (Int64.ofNat N)), .second, .val (.int (Int32.ofNat dN)), .unset, .unset, .unset] [(.int (Int32.ofNat SG)), (.int ((Int32.ofNat FL) + (1 : Int32)))])) _
    have J1257 : ∀ (vj1260 : Vm) (kj1260 : Nat) (Tj1260 : State) (lj1260 : List Loc) (hj1260 : Heap)  (Xj1260 : Stand p l e room_1 (s.setVm vj1260) m #[(.int p0), (.int p1), (.int p2), (.int p3), (.int p4), (.int p5)] below meth c Tj1260 lj1260 23 2924) (ej1260 : Tj1260.heap = hj1260) (Nj1260 : Fr n0 lj1260) (hZj1260 : Z.Warmed39 (s.setVm vj1260).vm) (hownj1260 : (s.setVm vj1260).vm.findClass "com/example/faktorwerk/faktorwerk/model/InputRefusedExceptionAtLinePinLaw" = some m.cls) (hSj1260 : s.Since vj1260 kj1260) (hkj1260 : kj1260 ≤ hj1260.size) (Cj1260 : CHr Z own_EL s.vm h0 vj1260 hj1260) (Zj1260 : n0 ≤ hj1260.size) (Kj1260 : Keep h0 hj1260 []) (Sj1258 : StrIs Z hj1260 m1240 es) (Oj1259 : Old Z n0 hj1260), GoOn p e below (Tj1260.setTop (mkF m 147 #[.val (.int p0), .val (.int p1), .val (.int p2), .val (.int p3), .val (.int p4), .val (.int p5), .val (.int (Int32.ofNat FL)), .val (.int (Int32.ofNat PL)), .val (.int c0), .val (.int c1), .val (.int c2), .val (.int c3), .val (.ref sa1227), .val (.ref sa1233), .val (.ref m1240), .val (.long lv), .second, .val (.int (Int32.ofNat SG)), .val (.long (Int64.ofNat N)), .second, .val (.int (Int32.ofNat dN)), .unset, .unset, .unset] [(.int (Int32.ofNat SG)), (.int ((Int32.ofNat FL) + (1 : Int32)))])) (PostH Z own_EL s (QLaw h0 n0) 64 9088) := by
      intro vj1260 kj1260 Tj1260 lj1260 hj1260  Xj1260 ej1260 Nj1260 hZj1260 hownj1260 hSj1260 hkj1260 Cj1260 Zj1260 Kj1260 Sj1258 Oj1259 
      refine GoOn.step (fun tq kq => XS.iadd Xj1260.here hx rfl (hb hby at_147) rfl kq) ?_
      refine GoOn.step (fun tq kq => XS.iload Xj1260.here hx rfl (hb hby at_148) rfl kq) ?_
      refine GoOn.step (fun tq kq => XS.iadd Xj1260.here hx rfl (hb hby at_150) rfl kq) ?_
      refine GoOn.step (fun tq kq => XS.iconst Xj1260.here hx rfl (hb hby at_151) kq) ?_
      refine GoOn.step (fun tq kq => XS.iadd Xj1260.here hx rfl (hb hby at_152) rfl kq) ?_
      refine GoOn.step (fun tq kq => XS.iload Xj1260.here hx rfl (hb hby at_153) rfl kq) ?_
      refine GoOn.step (fun tq kq => XS.iadd Xj1260.here hx rfl (hb hby at_155) rfl kq) ?_
      show GoOn p e below (Tj1260.setTop (mkF m 156 #[.val (.int p0), .val (.int p1), .val (.int p2), .val (.int p3), .val (.int p4), .val (.int p5), .val (.int (Int32.ofNat FL)), .val (.int (Int32.ofNat PL)), .val (.int c0), .val (.int c1), .val (.int c2), .val (.int c3), .val (.ref sa1227), .val (.ref sa1233), .val (.ref m1240), .val (.long lv), .second, .val (.int (Int32.ofNat SG)), .val (.long (Int64.ofNat N)), .second, .val (.int (Int32.ofNat dN)), .unset, .unset, .unset] [(.int ((((((Int32.ofNat FL) + (1 : Int32)) + (Int32.ofNat SG)) + (Int32.ofNat dN)) + (2 : Int32)) + (Int32.ofNat PL)))])) _
      rw [own_lensG]
      refine GoOn.step (fun tq kq => XS.istore Xj1260.here hx rfl (hb hby at_156) rfl (l' := #[.val (.int p0), .val (.int p1), .val (.int p2), .val (.int p3), .val (.int p4), .val (.int p5), .val (.int (Int32.ofNat FL)), .val (.int (Int32.ofNat PL)), .val (.int c0), .val (.int c1), .val (.int c2), .val (.int c3), .val (.ref sa1227), .val (.ref sa1233), .val (.ref m1240), .val (.long lv), .second, .val (.int (Int32.ofNat SG)), .val (.long (Int64.ofNat N)), .second, .val (.int (Int32.ofNat dN)), .val (.int (Int32.ofNat (FL + 1 + SG + dN + 2 + PL))), .unset, .unset]) rfl kq) ?_
      refine GoOn.step (fun tq kq => XS.aload Xj1260.here hx rfl (hb hby at_158) rfl rfl kq) ?_
      show GoOn p e below (Tj1260.setTop (mkF m 160 #[.val (.int p0), .val (.int p1), .val (.int p2), .val (.int p3), .val (.int p4), .val (.int p5), .val (.int (Int32.ofNat FL)), .val (.int (Int32.ofNat PL)), .val (.int c0), .val (.int c1), .val (.int c2), .val (.int c3), .val (.ref sa1227), .val (.ref sa1233), .val (.ref m1240), .val (.long lv), .second, .val (.int (Int32.ofNat SG)), .val (.long (Int64.ofNat N)), .second, .val (.int (Int32.ofNat dN)), .val (.int (Int32.ofNat (FL + 1 + SG + dN + 2 + PL))), .unset, .unset] [(.ref m1240)])) _
      obtain ⟨cqc1262, kqc1262, qac1262, qbc1262, qcc1262⟩ := isOf hZj1260 ej1260 Sj1258.1
      obtain ⟨_, _, ⟨T1261, L1261, k1261, n1261⟩, -, X1261, ⟨Lc1261, hQ1261, l1261, y1261, z1261⟩, st1261⟩ := Xj1260.virtualBack hx (y := (⟨"java/lang/String", "length", "()I"⟩ : MethodName)) (z := (⟨"java/lang/String", "length", "()I"⟩ : MethodName)) hownj1260 (mvT hZj1260 (hw _ (List.mem_of_getElem? (i := 224) rfl))) (mvT hZj1260 (hw _ (List.mem_of_getElem? (i := 61) rfl))) (notFace_of_selects (args := #[]) (mvT hZj1260 (hw _ (List.mem_of_getElem? (i := 63) rfl)))) (mvT hZj1260 (hw _ (List.mem_of_getElem? (i := 63) rfl))) (mvT hZj1260 (hw _ (List.mem_of_getElem? (i := 62) rfl))) (by decide) (backOf (W := 0) (rmLen l Z a0 hw m1240 es G1 hj1260 n0 Zj1260 SC PC Sj1258 Oj1259) hZj1260 (hw _ (List.mem_of_getElem? (i := 64) rfl)) (hw _ (List.mem_of_getElem? (i := 6) rfl)) (by decide) (by decide)) qac1262 qcc1262 (g := (mkF m 160 #[.val (.int p0), .val (.int p1), .val (.int p2), .val (.int p3), .val (.int p4), .val (.int p5), .val (.int (Int32.ofNat FL)), .val (.int (Int32.ofNat PL)), .val (.int c0), .val (.int c1), .val (.int c2), .val (.int c3), .val (.ref sa1227), .val (.ref sa1233), .val (.ref m1240), .val (.long lv), .second, .val (.int (Int32.ofNat SG)), .val (.long (Int64.ofNat N)), .second, .val (.int (Int32.ofNat dN)), .val (.int (Int32.ofNat (FL + 1 + SG + dN + 2 + PL))), .unset, .unset] [(.ref m1240)])) rfl (by rw [hml]; rfl) (Steps.refl _) (argsL := []) (rest := []) (lenOf own_pd209 rfl) rfl (by show 2 * 0 + _ ≤ _; exact Nat.le_of_eq rfl) (hb hby at_160) (fun _ _ => ⟨rfl, ej1260, (by decide : 23 + 0 ≤ _), (by decide : 2924 + 0 ≤ _)⟩)
      dsimp only [Pt.U, Pt.locs, Pt.cells, Pt.slots] at X1261 l1261 y1261 z1261 st1261 hQ1261
      subst l1261 y1261 z1261
      obtain ⟨rfl, N1261, e1261⟩ := hQ1261
      refine GoOn.trans st1261 ?_
      have N1263 := Fr.app Nj1260 N1261
      refine GoOn.step (fun tq kq => XS.iload X1261.here hx rfl (hb hby at_163) rfl kq) ?_
      refine GoOn.step (fun tq kq => XS.icmpYes X1261.here hx rfl (pc0 := 165) (pc' := 170) rfl (hb hby at_165) rfl (teq (congrArg Int32.ofNat he1)).1 (by decide) (by decide) kq) ?_
      show GoOn p e below (T1261.setTop (mkF m 170 #[.val (.int p0), .val (.int p1), .val (.int p2), .val (.int p3), .val (.int p4), .val (.int p5), .val (.int (Int32.ofNat FL)), .val (.int (Int32.ofNat PL)), .val (.int c0), .val (.int c1), .val (.int c2), .val (.int c3), .val (.ref sa1227), .val (.ref sa1233), .val (.ref m1240), .val (.long lv), .second, .val (.int (Int32.ofNat SG)), .val (.long (Int64.ofNat N)), .second, .val (.int (Int32.ofNat dN)), .val (.int (Int32.ofNat (FL + 1 + SG + dN + 2 + PL))), .unset, .unset] [])) _
      generalize hgl : (Int32.ofNat (FL + 1 + SG + dN + 2 + PL)) = ln
      refine GoOn.step (fun tq kq => XS.iconst X1261.here hx rfl (hb hby at_170) kq) ?_
      refine GoOn.step (fun tq kq => XS.istore X1261.here hx rfl (hb hby at_171) rfl (l' := #[.val (.int p0), .val (.int p1), .val (.int p2), .val (.int p3), .val (.int p4), .val (.int p5), .val (.int (Int32.ofNat FL)), .val (.int (Int32.ofNat PL)), .val (.int c0), .val (.int c1), .val (.int c2), .val (.int c3), .val (.ref sa1227), .val (.ref sa1233), .val (.ref m1240), .val (.long lv), .second, .val (.int (Int32.ofNat SG)), .val (.long (Int64.ofNat N)), .second, .val (.int (Int32.ofNat dN)), .val (.int ln), .val (.int (1 : Int32)), .unset]) rfl kq) ?_
      refine GoOn.step (fun tq kq => XS.iload X1261.here hx rfl (hb hby at_173) rfl kq) ?_
      refine GoOn.step (fun tq kq => XS.iconst X1261.here hx rfl (hb hby at_175) kq) ?_
      show GoOn p e below (T1261.setTop (mkF m 176 #[.val (.int p0), .val (.int p1), .val (.int p2), .val (.int p3), .val (.int p4), .val (.int p5), .val (.int (Int32.ofNat FL)), .val (.int (Int32.ofNat PL)), .val (.int c0), .val (.int c1), .val (.int c2), .val (.int c3), .val (.ref sa1227), .val (.ref sa1233), .val (.ref m1240), .val (.long lv), .second, .val (.int (Int32.ofNat SG)), .val (.long (Int64.ofNat N)), .second, .val (.int (Int32.ofNat dN)), .val (.int ln), .val (.int (1 : Int32)), .unset] [(.int (1 : Int32)), (.int (Int32.ofNat FL))])) _
      have J1264 : ∀ (vj1267 : Vm) (kj1267 : Nat) (Tj1267 : State) (lj1267 : List Loc) (hj1267 : Heap)  (Xj1267 : Stand p l e room_1 (s.setVm vj1267) m #[(.int p0), (.int p1), (.int p2), (.int p3), (.int p4), (.int p5)] below meth c Tj1267 lj1267 23 2924) (ej1267 : Tj1267.heap = hj1267) (Nj1267 : Fr n0 lj1267) (hZj1267 : Z.Warmed39 (s.setVm vj1267).vm) (hownj1267 : (s.setVm vj1267).vm.findClass "com/example/faktorwerk/faktorwerk/model/InputRefusedExceptionAtLinePinLaw" = some m.cls) (hSj1267 : s.Since vj1267 kj1267) (hkj1267 : kj1267 ≤ hj1267.size) (Cj1267 : CHr Z own_EL s.vm h0 vj1267 hj1267) (Zj1267 : n0 ≤ hj1267.size) (Kj1267 : Keep h0 hj1267 []) (Sj1265 : StrIs Z hj1267 m1240 es) (Oj1266 : Old Z n0 hj1267), GoOn p e below (Tj1267.setTop (mkF m 202 #[.val (.int p0), .val (.int p1), .val (.int p2), .val (.int p3), .val (.int p4), .val (.int p5), .val (.int (Int32.ofNat FL)), .val (.int (Int32.ofNat PL)), .val (.int c0), .val (.int c1), .val (.int c2), .val (.int c3), .val (.ref sa1227), .val (.ref sa1233), .val (.ref m1240), .val (.long lv), .second, .val (.int (Int32.ofNat SG)), .val (.long (Int64.ofNat N)), .second, .val (.int (Int32.ofNat dN)), .val (.int ln), .val (.int (1 : Int32)), .unset] [])) (PostH Z own_EL s (QLaw h0 n0) 64 9088) := by
        intro vj1267 kj1267 Tj1267 lj1267 hj1267  Xj1267 ej1267 Nj1267 hZj1267 hownj1267 hSj1267 hkj1267 Cj1267 Zj1267 Kj1267 Sj1265 Oj1266 
        refine GoOn.step (fun tq kq => XS.iload Xj1267.here hx rfl (hb hby at_202) rfl kq) ?_
        refine GoOn.step (fun tq kq => XS.iconst Xj1267.here hx rfl (hb hby at_204) kq) ?_
        show GoOn p e below (Tj1267.setTop (mkF m 205 #[.val (.int p0), .val (.int p1), .val (.int p2), .val (.int p3), .val (.int p4), .val (.int p5), .val (.int (Int32.ofNat FL)), .val (.int (Int32.ofNat PL)), .val (.int c0), .val (.int c1), .val (.int c2), .val (.int c3), .val (.ref sa1227), .val (.ref sa1233), .val (.ref m1240), .val (.long lv), .second, .val (.int (Int32.ofNat SG)), .val (.long (Int64.ofNat N)), .second, .val (.int (Int32.ofNat dN)), .val (.int ln), .val (.int (1 : Int32)), .unset] [(.int (2 : Int32)), (.int (Int32.ofNat FL))])) _
        have J1268 : ∀ (vj1271 : Vm) (kj1271 : Nat) (Tj1271 : State) (lj1271 : List Loc) (hj1271 : Heap)  (Xj1271 : Stand p l e room_1 (s.setVm vj1271) m #[(.int p0), (.int p1), (.int p2), (.int p3), (.int p4), (.int p5)] below meth c Tj1271 lj1271 23 2924) (ej1271 : Tj1271.heap = hj1271) (Nj1271 : Fr n0 lj1271) (hZj1271 : Z.Warmed39 (s.setVm vj1271).vm) (hownj1271 : (s.setVm vj1271).vm.findClass "com/example/faktorwerk/faktorwerk/model/InputRefusedExceptionAtLinePinLaw" = some m.cls) (hSj1271 : s.Since vj1271 kj1271) (hkj1271 : kj1271 ≤ hj1271.size) (Cj1271 : CHr Z own_EL s.vm h0 vj1271 hj1271) (Zj1271 : n0 ≤ hj1271.size) (Kj1271 : Keep h0 hj1271 []) (Sj1269 : StrIs Z hj1271 m1240 es) (Oj1270 : Old Z n0 hj1271), GoOn p e below (Tj1271.setTop (mkF m 231 #[.val (.int p0), .val (.int p1), .val (.int p2), .val (.int p3), .val (.int p4), .val (.int p5), .val (.int (Int32.ofNat FL)), .val (.int (Int32.ofNat PL)), .val (.int c0), .val (.int c1), .val (.int c2), .val (.int c3), .val (.ref sa1227), .val (.ref sa1233), .val (.ref m1240), .val (.long lv), .second, .val (.int (Int32.ofNat SG)), .val (.long (Int64.ofNat N)), .second, .val (.int (Int32.ofNat dN)), .val (.int ln), .val (.int (1 : Int32)), .unset] [])) (PostH Z own_EL s (QLaw h0 n0) 64 9088) := by
          intro vj1271 kj1271 Tj1271 lj1271 hj1271  Xj1271 ej1271 Nj1271 hZj1271 hownj1271 hSj1271 hkj1271 Cj1271 Zj1271 Kj1271 Sj1269 Oj1270 
          refine GoOn.step (fun tq kq => XS.iload Xj1271.here hx rfl (hb hby at_231) rfl kq) ?_
          refine GoOn.step (fun tq kq => XS.istore Xj1271.here hx rfl (hb hby at_233) rfl (l' := #[.val (.int p0), .val (.int p1), .val (.int p2), .val (.int p3), .val (.int p4), .val (.int p5), .val (.int (Int32.ofNat FL)), .val (.int (Int32.ofNat PL)), .val (.int c0), .val (.int c1), .val (.int c2), .val (.int c3), .val (.ref sa1227), .val (.ref sa1233), .val (.ref m1240), .val (.long lv), .second, .val (.int (Int32.ofNat SG)), .val (.long (Int64.ofNat N)), .second, .val (.int (Int32.ofNat dN)), .val (.int ln), .val (.int (1 : Int32)), .val (.int (Int32.ofNat FL))]) rfl kq) ?_
          refine GoOn.step (fun tq kq => XS.iload Xj1271.here hx rfl (hb hby at_235) rfl kq) ?_
          refine GoOn.step (fun tq kq => XS.ifNo Xj1271.here hx rfl (hb hby at_237) rfl ((if0 _ _).trans (feq (by decide)).1) kq) ?_
          refine GoOn.step (fun tq kq => XS.aload Xj1271.here hx rfl (hb hby at_240) rfl rfl kq) ?_
          refine GoOn.step (fun tq kq => XS.iload Xj1271.here hx rfl (hb hby at_242) rfl kq) ?_
          show GoOn p e below (Tj1271.setTop (mkF m 244 #[.val (.int p0), .val (.int p1), .val (.int p2), .val (.int p3), .val (.int p4), .val (.int p5), .val (.int (Int32.ofNat FL)), .val (.int (Int32.ofNat PL)), .val (.int c0), .val (.int c1), .val (.int c2), .val (.int c3), .val (.ref sa1227), .val (.ref sa1233), .val (.ref m1240), .val (.long lv), .second, .val (.int (Int32.ofNat SG)), .val (.long (Int64.ofNat N)), .second, .val (.int (Int32.ofNat dN)), .val (.int ln), .val (.int (1 : Int32)), .val (.int (Int32.ofNat FL))] [(.int (Int32.ofNat FL)), (.ref m1240)])) _
          obtain ⟨cqc1273, kqc1273, qac1273, qbc1273, qcc1273⟩ := isOf hZj1271 ej1271 Sj1269.1
          obtain ⟨_, _, ⟨T1272, L1272, k1272, n1272⟩, -, X1272, ⟨Lc1272, hQ1272, l1272, y1272, z1272⟩, st1272⟩ := Xj1271.virtualBack hx (y := (⟨"java/lang/String", "charAt", "(I)C"⟩ : MethodName)) (z := (⟨"java/lang/String", "charAt", "(I)C"⟩ : MethodName)) hownj1271 (mvT hZj1271 (hw _ (List.mem_of_getElem? (i := 225) rfl))) (mvT hZj1271 (hw _ (List.mem_of_getElem? (i := 226) rfl))) (notFace_of_selects (args := #[]) (mvT hZj1271 (hw _ (List.mem_of_getElem? (i := 228) rfl)))) (mvT hZj1271 (hw _ (List.mem_of_getElem? (i := 228) rfl))) (mvT hZj1271 (hw _ (List.mem_of_getElem? (i := 227) rfl))) (by decide) (own_chS (n0 := n0) (W := 0) hZj1271 hch (kI := 4) (hw _ (List.mem_of_getElem? (i := 5) rfl)) Sj1269 (SC.ext Oj1270.2) PC (SF.ext Oj1270.2) rG3 (FL) (by omega) rfl (by decide) (by decide)) qac1273 qcc1273 (g := (mkF m 244 #[.val (.int p0), .val (.int p1), .val (.int p2), .val (.int p3), .val (.int p4), .val (.int p5), .val (.int (Int32.ofNat FL)), .val (.int (Int32.ofNat PL)), .val (.int c0), .val (.int c1), .val (.int c2), .val (.int c3), .val (.ref sa1227), .val (.ref sa1233), .val (.ref m1240), .val (.long lv), .second, .val (.int (Int32.ofNat SG)), .val (.long (Int64.ofNat N)), .second, .val (.int (Int32.ofNat dN)), .val (.int ln), .val (.int (1 : Int32)), .val (.int (Int32.ofNat FL))] [(.int (Int32.ofNat FL)), (.ref m1240)])) rfl (by rw [hml]; rfl) (Steps.refl _) (argsL := [(.int (Int32.ofNat FL))]) (rest := []) (lenOf own_pd620 rfl) rfl (by show 2 * 0 + _ ≤ _; exact Nat.le_of_eq rfl) (hb hby at_244) (fun _ _ => ⟨rfl, ej1271, (by decide : 23 + 0 ≤ _), (by decide : 2924 + 0 ≤ _)⟩)
          dsimp only [Pt.U, Pt.locs, Pt.cells, Pt.slots] at X1272 l1272 y1272 z1272 st1272 hQ1272
          subst l1272 y1272 z1272
          obtain ⟨rfl, N1272, e1272⟩ := hQ1272
          refine GoOn.trans st1272 ?_
          have N1274 := Fr.app Nj1271 N1272
          refine GoOn.step (fun tq kq => XS.bipush X1272.here hx rfl (hb hby at_247) kq) ?_
          refine GoOn.step (fun tq kq => XS.icmpNo X1272.here hx rfl (hb hby at_249) rfl (teq he3).2 kq) ?_
          refine GoOn.step (fun tq kq => XS.iconst X1272.here hx rfl (hb hby at_252) kq) ?_
          refine GoOn.step (fun tq kq => XS.goto X1272.here hx rfl (pc0 := 253) (pc' := 257) rfl (hb hby at_253) (by decide) (by decide) kq) ?_
          refine GoOn.step (fun tq kq => XS.istore X1272.here hx rfl (hb hby at_257) rfl (l' := #[.val (.int p0), .val (.int p1), .val (.int p2), .val (.int p3), .val (.int p4), .val (.int p5), .val (.int (Int32.ofNat FL)), .val (.int (Int32.ofNat PL)), .val (.int c0), .val (.int c1), .val (.int c2), .val (.int c3), .val (.ref sa1227), .val (.ref sa1233), .val (.ref m1240), .val (.long lv), .second, .val (.int (Int32.ofNat SG)), .val (.long (Int64.ofNat N)), .second, .val (.int (Int32.ofNat dN)), .val (.int ln), .val (.int (1 : Int32)), .val (.int (Int32.ofNat FL))]) rfl kq) ?_
          refine GoOn.step (fun tq kq => XS.iload X1272.here hx rfl (hb hby at_259) rfl kq) ?_
          refine GoOn.step (fun tq kq => XS.iconst X1272.here hx rfl (hb hby at_261) kq) ?_
          refine GoOn.step (fun tq kq => XS.iadd X1272.here hx rfl (hb hby at_262) rfl kq) ?_
          show GoOn p e below (T1272.setTop (mkF m 263 #[.val (.int p0), .val (.int p1), .val (.int p2), .val (.int p3), .val (.int p4), .val (.int p5), .val (.int (Int32.ofNat FL)), .val (.int (Int32.ofNat PL)), .val (.int c0), .val (.int c1), .val (.int c2), .val (.int c3), .val (.ref sa1227), .val (.ref sa1233), .val (.ref m1240), .val (.long lv), .second, .val (.int (Int32.ofNat SG)), .val (.long (Int64.ofNat N)), .second, .val (.int (Int32.ofNat dN)), .val (.int ln), .val (.int (1 : Int32)), .val (.int (Int32.ofNat FL))] [(.int ((Int32.ofNat FL) + (1 : Int32)))])) _
          rw [own_add1]
          refine GoOn.step (fun tq kq => XS.istore X1272.here hx rfl (hb hby at_263) rfl (l' := #[.val (.int p0), .val (.int p1), .val (.int p2), .val (.int p3), .val (.int p4), .val (.int p5), .val (.int (Int32.ofNat FL)), .val (.int (Int32.ofNat PL)), .val (.int c0), .val (.int c1), .val (.int c2), .val (.int c3), .val (.ref sa1227), .val (.ref sa1233), .val (.ref m1240), .val (.long lv), .second, .val (.int (Int32.ofNat SG)), .val (.long (Int64.ofNat N)), .second, .val (.int (Int32.ofNat dN)), .val (.int ln), .val (.int (1 : Int32)), .val (.int (Int32.ofNat (FL + 1)))]) rfl kq) ?_
          refine GoOn.step (fun tq kq => XS.iload X1272.here hx rfl (hb hby at_265) rfl kq) ?_
          show GoOn p e below (T1272.setTop (mkF m 267 #[.val (.int p0), .val (.int p1), .val (.int p2), .val (.int p3), .val (.int p4), .val (.int p5), .val (.int (Int32.ofNat FL)), .val (.int (Int32.ofNat PL)), .val (.int c0), .val (.int c1), .val (.int c2), .val (.int c3), .val (.ref sa1227), .val (.ref sa1233), .val (.ref m1240), .val (.long lv), .second, .val (.int (Int32.ofNat SG)), .val (.long (Int64.ofNat N)), .second, .val (.int (Int32.ofNat dN)), .val (.int ln), .val (.int (1 : Int32)), .val (.int (Int32.ofNat (FL + 1)))] [(.int (Int32.ofNat SG))])) _
          have J1275 : ∀ (vj1278 : Vm) (kj1278 : Nat) (Tj1278 : State) (lj1278 : List Loc) (hj1278 : Heap)  (Xj1278 : Stand p l e room_1 (s.setVm vj1278) m #[(.int p0), (.int p1), (.int p2), (.int p3), (.int p4), (.int p5)] below meth c Tj1278 lj1278 23 2924) (ej1278 : Tj1278.heap = hj1278) (Nj1278 : Fr n0 lj1278) (hZj1278 : Z.Warmed39 (s.setVm vj1278).vm) (hownj1278 : (s.setVm vj1278).vm.findClass "com/example/faktorwerk/faktorwerk/model/InputRefusedExceptionAtLinePinLaw" = some m.cls) (hSj1278 : s.Since vj1278 kj1278) (hkj1278 : kj1278 ≤ hj1278.size) (Cj1278 : CHr Z own_EL s.vm h0 vj1278 hj1278) (Zj1278 : n0 ≤ hj1278.size) (Kj1278 : Keep h0 hj1278 []) (Sj1276 : StrIs Z hj1278 m1240 es) (Oj1277 : Old Z n0 hj1278), GoOn p e below (Tj1278.setTop (mkF m 300 #[.val (.int p0), .val (.int p1), .val (.int p2), .val (.int p3), .val (.int p4), .val (.int p5), .val (.int (Int32.ofNat FL)), .val (.int (Int32.ofNat PL)), .val (.int c0), .val (.int c1), .val (.int c2), .val (.int c3), .val (.ref sa1227), .val (.ref sa1233), .val (.ref m1240), .val (.long lv), .second, .val (.int (Int32.ofNat SG)), .val (.long (Int64.ofNat N)), .second, .val (.int (Int32.ofNat dN)), .val (.int ln), .val (.int (1 : Int32)), .val (.int (Int32.ofNat (FL + 1 + SG)))] [])) (PostH Z own_EL s (QLaw h0 n0) 64 9088) := by
            intro vj1278 kj1278 Tj1278 lj1278 hj1278  Xj1278 ej1278 Nj1278 hZj1278 hownj1278 hSj1278 hkj1278 Cj1278 Zj1278 Kj1278 Sj1276 Oj1277 
            refine GoOn.step (fun tq kq => XS.iload Xj1278.here hx rfl (hb hby at_300) rfl kq) ?_
            refine GoOn.step (fun tq kq => XS.ifNo Xj1278.here hx rfl (hb hby at_302) rfl ((if0 _ _).trans (feq (by decide)).1) kq) ?_
            refine GoOn.step (fun tq kq => XS.aload Xj1278.here hx rfl (hb hby at_305) rfl rfl kq) ?_
            refine GoOn.step (fun tq kq => XS.iload Xj1278.here hx rfl (hb hby at_307) rfl kq) ?_
            refine GoOn.step (fun tq kq => XS.iload Xj1278.here hx rfl (hb hby at_309) rfl kq) ?_
            refine GoOn.step (fun tq kq => XS.iconst Xj1278.here hx rfl (hb hby at_311) kq) ?_
            refine GoOn.step (fun tq kq => XS.lload Xj1278.here hx rfl (hb hby at_312) rfl kq) ?_
            show GoOn p e below (Tj1278.setTop (mkF m 314 #[.val (.int p0), .val (.int p1), .val (.int p2), .val (.int p3), .val (.int p4), .val (.int p5), .val (.int (Int32.ofNat FL)), .val (.int (Int32.ofNat PL)), .val (.int c0), .val (.int c1), .val (.int c2), .val (.int c3), .val (.ref sa1227), .val (.ref sa1233), .val (.ref m1240), .val (.long lv), .second, .val (.int (Int32.ofNat SG)), .val (.long (Int64.ofNat N)), .second, .val (.int (Int32.ofNat dN)), .val (.int ln), .val (.int (1 : Int32)), .val (.int (Int32.ofNat (FL + 1 + SG)))] [(.long (Int64.ofNat N)), (.int (0 : Int32)), (.int (Int32.ofNat dN)), (.int (Int32.ofNat (FL + 1 + SG))), (.ref m1240)])) _
            obtain ⟨_, _, ⟨T1279, L1279, k1279, n1279⟩, -, X1279, ⟨Lc1279, hQ1279, l1279, y1279, z1279⟩, st1279⟩ := Jvm.LawKit.callS Xj1278 hx (y := (⟨"com/example/faktorwerk/faktorwerk/model/InputRefusedExceptionAtLinePinLaw", "digitOk", "(Ljava/lang/String;IIIJ)Z"⟩ : MethodName)) hownj1278 (mvT hZj1278 (hw _ (List.mem_of_getElem? (i := 247) rfl))) (mvT hZj1278 (hw _ (List.mem_of_getElem? (i := 248) rfl))) (mvT hZj1278 (hw _ (List.mem_of_getElem? (i := 2) rfl))) (mvT hZj1278 (hw _ (List.mem_of_getElem? (i := 249) rfl))) (by decide) (backOf (W := 0) (rmDok l Z a0 hw m1240 (Int32.ofNat (FL + 1 + SG)) (Int32.ofNat dN) (0 : Int32) G1 G3 (FL + 1 + SG) dN 0 N es hj1278 n0 Zj1278 rfl rfl rfl hn hdg.2 (by decide) SC PC SF rG3 Sj1276 (fun _ => by omega) (fun q => he5 0 q) Oj1277) hZj1278 (hw _ (List.mem_of_getElem? (i := 249) rfl)) (hw _ (List.mem_of_getElem? (i := 2) rfl)) (by decide) (by decide)) (g := (mkF m 314 #[.val (.int p0), .val (.int p1), .val (.int p2), .val (.int p3), .val (.int p4), .val (.int p5), .val (.int (Int32.ofNat FL)), .val (.int (Int32.ofNat PL)), .val (.int c0), .val (.int c1), .val (.int c2), .val (.int c3), .val (.ref sa1227), .val (.ref sa1233), .val (.ref m1240), .val (.long lv), .second, .val (.int (Int32.ofNat SG)), .val (.long (Int64.ofNat N)), .second, .val (.int (Int32.ofNat dN)), .val (.int ln), .val (.int (1 : Int32)), .val (.int (Int32.ofNat (FL + 1 + SG)))] [(.long (Int64.ofNat N)), (.int (0 : Int32)), (.int (Int32.ofNat dN)), (.int (Int32.ofNat (FL + 1 + SG))), (.ref m1240)])) rfl (by rw [hml]; rfl) (argsL := [(.ref m1240), (.int (Int32.ofNat (FL + 1 + SG))), (.int (Int32.ofNat dN)), (.int (0 : Int32)), (.long (Int64.ofNat N))]) (rest := []) (lenOf own_pd664 rfl) rfl (by show 2 * 0 + _ ≤ _; exact Nat.le_of_eq rfl) (hb hby at_314) (fun _ _ => ⟨rfl, ej1278, (by decide : 23 + 1 ≤ _), (by decide : 2924 + 10 ≤ _)⟩)
            dsimp only [Pt.U, Pt.locs, Pt.cells, Pt.slots] at X1279 l1279 y1279 z1279 st1279 hQ1279
            subst l1279 y1279 z1279
            obtain ⟨rfl, N1279, K1279⟩ := hQ1279
            refine GoOn.step st1279 ?_
            have N1280 := Fr.app Nj1278 N1279
            have Z1281 : n0 ≤ T1279.heap.size := Nat.le_trans Zj1278 K1279.1
            have K1282 : Keep h0 T1279.heap [] := Kj1278.trans K1279 (all0)
            have Sr1283 : StrIs Z T1279.heap m1240 es := Sj1276.keep0 K1279
            have O1284 : Old Z n0 T1279.heap := Oj1277.keep K1279 all0
            have C1285 : CHr Z own_EL s.vm h0 vj1278 T1279.heap := CHr.trans Cj1278 (CHr.keep K1279 all0 Cj1278.1)
            have hk1286 := Nat.le_trans hkj1278 K1279.1
            refine GoOn.step (fun tq kq => XS.ifNo X1279.here hx rfl (hb hby at_317) rfl ((if0 _ _).trans (feq (by decide)).1) kq) ?_
            refine GoOn.step (fun tq kq => XS.aload X1279.here hx rfl (hb hby at_320) rfl rfl kq) ?_
            refine GoOn.step (fun tq kq => XS.iload X1279.here hx rfl (hb hby at_322) rfl kq) ?_
            refine GoOn.step (fun tq kq => XS.iload X1279.here hx rfl (hb hby at_324) rfl kq) ?_
            refine GoOn.step (fun tq kq => XS.iconst X1279.here hx rfl (hb hby at_326) kq) ?_
            refine GoOn.step (fun tq kq => XS.lload X1279.here hx rfl (hb hby at_327) rfl kq) ?_
            show GoOn p e below (T1279.setTop (mkF m 329 #[.val (.int p0), .val (.int p1), .val (.int p2), .val (.int p3), .val (.int p4), .val (.int p5), .val (.int (Int32.ofNat FL)), .val (.int (Int32.ofNat PL)), .val (.int c0), .val (.int c1), .val (.int c2), .val (.int c3), .val (.ref sa1227), .val (.ref sa1233), .val (.ref m1240), .val (.long lv), .second, .val (.int (Int32.ofNat SG)), .val (.long (Int64.ofNat N)), .second, .val (.int (Int32.ofNat dN)), .val (.int ln), .val (.int (1 : Int32)), .val (.int (Int32.ofNat (FL + 1 + SG)))] [(.long (Int64.ofNat N)), (.int (1 : Int32)), (.int (Int32.ofNat dN)), (.int (Int32.ofNat (FL + 1 + SG))), (.ref m1240)])) _
            obtain ⟨_, _, ⟨T1287, L1287, k1287, n1287⟩, -, X1287, ⟨Lc1287, hQ1287, l1287, y1287, z1287⟩, st1287⟩ := Jvm.LawKit.callS X1279 hx (y := (⟨"com/example/faktorwerk/faktorwerk/model/InputRefusedExceptionAtLinePinLaw", "digitOk", "(Ljava/lang/String;IIIJ)Z"⟩ : MethodName)) hownj1278 (mvT hZj1278 (hw _ (List.mem_of_getElem? (i := 247) rfl))) (mvT hZj1278 (hw _ (List.mem_of_getElem? (i := 248) rfl))) (mvT hZj1278 (hw _ (List.mem_of_getElem? (i := 2) rfl))) (mvT hZj1278 (hw _ (List.mem_of_getElem? (i := 249) rfl))) (by decide) (backOf (W := 0) (rmDok l Z a0 hw m1240 (Int32.ofNat (FL + 1 + SG)) (Int32.ofNat dN) (1 : Int32) G1 G3 (FL + 1 + SG) dN 1 N es T1279.heap n0 Z1281 rfl rfl rfl hn hdg.2 (by decide) SC PC SF rG3 Sr1283 (fun _ => by omega) (fun q => he5 1 q) O1284) hZj1278 (hw _ (List.mem_of_getElem? (i := 249) rfl)) (hw _ (List.mem_of_getElem? (i := 2) rfl)) (by decide) (by decide)) (g := (mkF m 329 #[.val (.int p0), .val (.int p1), .val (.int p2), .val (.int p3), .val (.int p4), .val (.int p5), .val (.int (Int32.ofNat FL)), .val (.int (Int32.ofNat PL)), .val (.int c0), .val (.int c1), .val (.int c2), .val (.int c3), .val (.ref sa1227), .val (.ref sa1233), .val (.ref m1240), .val (.long lv), .second, .val (.int (Int32.ofNat SG)), .val (.long (Int64.ofNat N)), .second, .val (.int (Int32.ofNat dN)), .val (.int ln), .val (.int (1 : Int32)), .val (.int (Int32.ofNat (FL + 1 + SG)))] [(.long (Int64.ofNat N)), (.int (1 : Int32)), (.int (Int32.ofNat dN)), (.int (Int32.ofNat (FL + 1 + SG))), (.ref m1240)])) rfl (by rw [hml]; rfl) (argsL := [(.ref m1240), (.int (Int32.ofNat (FL + 1 + SG))), (.int (Int32.ofNat dN)), (.int (1 : Int32)), (.long (Int64.ofNat N))]) (rest := []) (lenOf own_pd664 rfl) rfl (by show 2 * 0 + _ ≤ _; exact Nat.le_of_eq rfl) (hb hby at_329) (fun _ _ => ⟨rfl, rfl, (by decide : 24 + 1 ≤ _), (by decide : 2934 + 10 ≤ _)⟩)
            dsimp only [Pt.U, Pt.locs, Pt.cells, Pt.slots] at X1287 l1287 y1287 z1287 st1287 hQ1287
            subst l1287 y1287 z1287
            obtain ⟨rfl, N1287, K1287⟩ := hQ1287
            refine GoOn.step st1287 ?_
            have N1288 := Fr.app N1280 N1287
            have Z1289 : n0 ≤ T1287.heap.size := Nat.le_trans Z1281 K1287.1
            have K1290 : Keep h0 T1287.heap [] := K1282.trans K1287 (all0)
            have Sr1291 : StrIs Z T1287.heap m1240 es := Sr1283.keep0 K1287
            have O1292 : Old Z n0 T1287.heap := O1284.keep K1287 all0
            have C1293 : CHr Z own_EL s.vm h0 vj1278 T1287.heap := CHr.trans C1285 (CHr.keep K1287 all0 C1285.1)
            have hk1294 := Nat.le_trans hk1286 K1287.1
            refine GoOn.step (fun tq kq => XS.ifNo X1287.here hx rfl (hb hby at_332) rfl ((if0 _ _).trans (feq (by decide)).1) kq) ?_
            refine GoOn.step (fun tq kq => XS.aload X1287.here hx rfl (hb hby at_335) rfl rfl kq) ?_
            refine GoOn.step (fun tq kq => XS.iload X1287.here hx rfl (hb hby at_337) rfl kq) ?_
            refine GoOn.step (fun tq kq => XS.iload X1287.here hx rfl (hb hby at_339) rfl kq) ?_
            refine GoOn.step (fun tq kq => XS.iconst X1287.here hx rfl (hb hby at_341) kq) ?_
            refine GoOn.step (fun tq kq => XS.lload X1287.here hx rfl (hb hby at_342) rfl kq) ?_
            show GoOn p e below (T1287.setTop (mkF m 344 #[.val (.int p0), .val (.int p1), .val (.int p2), .val (.int p3), .val (.int p4), .val (.int p5), .val (.int (Int32.ofNat FL)), .val (.int (Int32.ofNat PL)), .val (.int c0), .val (.int c1), .val (.int c2), .val (.int c3), .val (.ref sa1227), .val (.ref sa1233), .val (.ref m1240), .val (.long lv), .second, .val (.int (Int32.ofNat SG)), .val (.long (Int64.ofNat N)), .second, .val (.int (Int32.ofNat dN)), .val (.int ln), .val (.int (1 : Int32)), .val (.int (Int32.ofNat (FL + 1 + SG)))] [(.long (Int64.ofNat N)), (.int (2 : Int32)), (.int (Int32.ofNat dN)), (.int (Int32.ofNat (FL + 1 + SG))), (.ref m1240)])) _
            obtain ⟨_, _, ⟨T1295, L1295, k1295, n1295⟩, -, X1295, ⟨Lc1295, hQ1295, l1295, y1295, z1295⟩, st1295⟩ := Jvm.LawKit.callS X1287 hx (y := (⟨"com/example/faktorwerk/faktorwerk/model/InputRefusedExceptionAtLinePinLaw", "digitOk", "(Ljava/lang/String;IIIJ)Z"⟩ : MethodName)) hownj1278 (mvT hZj1278 (hw _ (List.mem_of_getElem? (i := 247) rfl))) (mvT hZj1278 (hw _ (List.mem_of_getElem? (i := 248) rfl))) (mvT hZj1278 (hw _ (List.mem_of_getElem? (i := 2) rfl))) (mvT hZj1278 (hw _ (List.mem_of_getElem? (i := 249) rfl))) (by decide) (backOf (W := 0) (rmDok l Z a0 hw m1240 (Int32.ofNat (FL + 1 + SG)) (Int32.ofNat dN) (2 : Int32) G1 G3 (FL + 1 + SG) dN 2 N es T1287.heap n0 Z1289 rfl rfl rfl hn hdg.2 (by decide) SC PC SF rG3 Sr1291 (fun _ => by omega) (fun q => he5 2 q) O1292) hZj1278 (hw _ (List.mem_of_getElem? (i := 249) rfl)) (hw _ (List.mem_of_getElem? (i := 2) rfl)) (by decide) (by decide)) (g := (mkF m 344 #[.val (.int p0), .val (.int p1), .val (.int p2), .val (.int p3), .val (.int p4), .val (.int p5), .val (.int (Int32.ofNat FL)), .val (.int (Int32.ofNat PL)), .val (.int c0), .val (.int c1), .val (.int c2), .val (.int c3), .val (.ref sa1227), .val (.ref sa1233), .val (.ref m1240), .val (.long lv), .second, .val (.int (Int32.ofNat SG)), .val (.long (Int64.ofNat N)), .second, .val (.int (Int32.ofNat dN)), .val (.int ln), .val (.int (1 : Int32)), .val (.int (Int32.ofNat (FL + 1 + SG)))] [(.long (Int64.ofNat N)), (.int (2 : Int32)), (.int (Int32.ofNat dN)), (.int (Int32.ofNat (FL + 1 + SG))), (.ref m1240)])) rfl (by rw [hml]; rfl) (argsL := [(.ref m1240), (.int (Int32.ofNat (FL + 1 + SG))), (.int (Int32.ofNat dN)), (.int (2 : Int32)), (.long (Int64.ofNat N))]) (rest := []) (lenOf own_pd664 rfl) rfl (by show 2 * 0 + _ ≤ _; exact Nat.le_of_eq rfl) (hb hby at_344) (fun _ _ => ⟨rfl, rfl, (by decide : 25 + 1 ≤ _), (by decide : 2944 + 10 ≤ _)⟩)
            dsimp only [Pt.U, Pt.locs, Pt.cells, Pt.slots] at X1295 l1295 y1295 z1295 st1295 hQ1295
            subst l1295 y1295 z1295
            obtain ⟨rfl, N1295, K1295⟩ := hQ1295
            refine GoOn.step st1295 ?_
            have N1296 := Fr.app N1288 N1295
            have Z1297 : n0 ≤ T1295.heap.size := Nat.le_trans Z1289 K1295.1
            have K1298 : Keep h0 T1295.heap [] := K1290.trans K1295 (all0)
            have Sr1299 : StrIs Z T1295.heap m1240 es := Sr1291.keep0 K1295
            have O1300 : Old Z n0 T1295.heap := O1292.keep K1295 all0
            have C1301 : CHr Z own_EL s.vm h0 vj1278 T1295.heap := CHr.trans C1293 (CHr.keep K1295 all0 C1293.1)
            have hk1302 := Nat.le_trans hk1294 K1295.1
            refine GoOn.step (fun tq kq => XS.ifNo X1295.here hx rfl (hb hby at_347) rfl ((if0 _ _).trans (feq (by decide)).1) kq) ?_
            refine GoOn.step (fun tq kq => XS.aload X1295.here hx rfl (hb hby at_350) rfl rfl kq) ?_
            refine GoOn.step (fun tq kq => XS.iload X1295.here hx rfl (hb hby at_352) rfl kq) ?_
            refine GoOn.step (fun tq kq => XS.iload X1295.here hx rfl (hb hby at_354) rfl kq) ?_
            refine GoOn.step (fun tq kq => XS.iconst X1295.here hx rfl (hb hby at_356) kq) ?_
            refine GoOn.step (fun tq kq => XS.lload X1295.here hx rfl (hb hby at_357) rfl kq) ?_
            show GoOn p e below (T1295.setTop (mkF m 359 #[.val (.int p0), .val (.int p1), .val (.int p2), .val (.int p3), .val (.int p4), .val (.int p5), .val (.int (Int32.ofNat FL)), .val (.int (Int32.ofNat PL)), .val (.int c0), .val (.int c1), .val (.int c2), .val (.int c3), .val (.ref sa1227), .val (.ref sa1233), .val (.ref m1240), .val (.long lv), .second, .val (.int (Int32.ofNat SG)), .val (.long (Int64.ofNat N)), .second, .val (.int (Int32.ofNat dN)), .val (.int ln), .val (.int (1 : Int32)), .val (.int (Int32.ofNat (FL + 1 + SG)))] [(.long (Int64.ofNat N)), (.int (3 : Int32)), (.int (Int32.ofNat dN)), (.int (Int32.ofNat (FL + 1 + SG))), (.ref m1240)])) _
            obtain ⟨_, _, ⟨T1303, L1303, k1303, n1303⟩, -, X1303, ⟨Lc1303, hQ1303, l1303, y1303, z1303⟩, st1303⟩ := Jvm.LawKit.callS X1295 hx (y := (⟨"com/example/faktorwerk/faktorwerk/model/InputRefusedExceptionAtLinePinLaw", "digitOk", "(Ljava/lang/String;IIIJ)Z"⟩ : MethodName)) hownj1278 (mvT hZj1278 (hw _ (List.mem_of_getElem? (i := 247) rfl))) (mvT hZj1278 (hw _ (List.mem_of_getElem? (i := 248) rfl))) (mvT hZj1278 (hw _ (List.mem_of_getElem? (i := 2) rfl))) (mvT hZj1278 (hw _ (List.mem_of_getElem? (i := 249) rfl))) (by decide) (backOf (W := 0) (rmDok l Z a0 hw m1240 (Int32.ofNat (FL + 1 + SG)) (Int32.ofNat dN) (3 : Int32) G1 G3 (FL + 1 + SG) dN 3 N es T1295.heap n0 Z1297 rfl rfl rfl hn hdg.2 (by decide) SC PC SF rG3 Sr1299 (fun _ => by omega) (fun q => he5 3 q) O1300) hZj1278 (hw _ (List.mem_of_getElem? (i := 249) rfl)) (hw _ (List.mem_of_getElem? (i := 2) rfl)) (by decide) (by decide)) (g := (mkF m 359 #[.val (.int p0), .val (.int p1), .val (.int p2), .val (.int p3), .val (.int p4), .val (.int p5), .val (.int (Int32.ofNat FL)), .val (.int (Int32.ofNat PL)), .val (.int c0), .val (.int c1), .val (.int c2), .val (.int c3), .val (.ref sa1227), .val (.ref sa1233), .val (.ref m1240), .val (.long lv), .second, .val (.int (Int32.ofNat SG)), .val (.long (Int64.ofNat N)), .second, .val (.int (Int32.ofNat dN)), .val (.int ln), .val (.int (1 : Int32)), .val (.int (Int32.ofNat (FL + 1 + SG)))] [(.long (Int64.ofNat N)), (.int (3 : Int32)), (.int (Int32.ofNat dN)), (.int (Int32.ofNat (FL + 1 + SG))), (.ref m1240)])) rfl (by rw [hml]; rfl) (argsL := [(.ref m1240), (.int (Int32.ofNat (FL + 1 + SG))), (.int (Int32.ofNat dN)), (.int (3 : Int32)), (.long (Int64.ofNat N))]) (rest := []) (lenOf own_pd664 rfl) rfl (by show 2 * 0 + _ ≤ _; exact Nat.le_of_eq rfl) (hb hby at_359) (fun _ _ => ⟨rfl, rfl, (by decide : 26 + 1 ≤ _), (by decide : 2954 + 10 ≤ _)⟩)
            dsimp only [Pt.U, Pt.locs, Pt.cells, Pt.slots] at X1303 l1303 y1303 z1303 st1303 hQ1303
            subst l1303 y1303 z1303
            obtain ⟨rfl, N1303, K1303⟩ := hQ1303
            refine GoOn.step st1303 ?_
            have N1304 := Fr.app N1296 N1303
            have Z1305 : n0 ≤ T1303.heap.size := Nat.le_trans Z1297 K1303.1
            have K1306 : Keep h0 T1303.heap [] := K1298.trans K1303 (all0)
            have Sr1307 : StrIs Z T1303.heap m1240 es := Sr1299.keep0 K1303
            have O1308 : Old Z n0 T1303.heap := O1300.keep K1303 all0
            have C1309 : CHr Z own_EL s.vm h0 vj1278 T1303.heap := CHr.trans C1301 (CHr.keep K1303 all0 C1301.1)
            have hk1310 := Nat.le_trans hk1302 K1303.1
            refine GoOn.step (fun tq kq => XS.ifNo X1303.here hx rfl (hb hby at_362) rfl ((if0 _ _).trans (feq (by decide)).1) kq) ?_
            refine GoOn.step (fun tq kq => XS.aload X1303.here hx rfl (hb hby at_365) rfl rfl kq) ?_
            refine GoOn.step (fun tq kq => XS.iload X1303.here hx rfl (hb hby at_367) rfl kq) ?_
            refine GoOn.step (fun tq kq => XS.iload X1303.here hx rfl (hb hby at_369) rfl kq) ?_
            refine GoOn.step (fun tq kq => XS.iconst X1303.here hx rfl (hb hby at_371) kq) ?_
            refine GoOn.step (fun tq kq => XS.lload X1303.here hx rfl (hb hby at_372) rfl kq) ?_
            show GoOn p e below (T1303.setTop (mkF m 374 #[.val (.int p0), .val (.int p1), .val (.int p2), .val (.int p3), .val (.int p4), .val (.int p5), .val (.int (Int32.ofNat FL)), .val (.int (Int32.ofNat PL)), .val (.int c0), .val (.int c1), .val (.int c2), .val (.int c3), .val (.ref sa1227), .val (.ref sa1233), .val (.ref m1240), .val (.long lv), .second, .val (.int (Int32.ofNat SG)), .val (.long (Int64.ofNat N)), .second, .val (.int (Int32.ofNat dN)), .val (.int ln), .val (.int (1 : Int32)), .val (.int (Int32.ofNat (FL + 1 + SG)))] [(.long (Int64.ofNat N)), (.int (4 : Int32)), (.int (Int32.ofNat dN)), (.int (Int32.ofNat (FL + 1 + SG))), (.ref m1240)])) _
            obtain ⟨_, _, ⟨T1311, L1311, k1311, n1311⟩, -, X1311, ⟨Lc1311, hQ1311, l1311, y1311, z1311⟩, st1311⟩ := Jvm.LawKit.callS X1303 hx (y := (⟨"com/example/faktorwerk/faktorwerk/model/InputRefusedExceptionAtLinePinLaw", "digitOk", "(Ljava/lang/String;IIIJ)Z"⟩ : MethodName)) hownj1278 (mvT hZj1278 (hw _ (List.mem_of_getElem? (i := 247) rfl))) (mvT hZj1278 (hw _ (List.mem_of_getElem? (i := 248) rfl))) (mvT hZj1278 (hw _ (List.mem_of_getElem? (i := 2) rfl))) (mvT hZj1278 (hw _ (List.mem_of_getElem? (i := 249) rfl))) (by decide) (backOf (W := 0) (rmDok l Z a0 hw m1240 (Int32.ofNat (FL + 1 + SG)) (Int32.ofNat dN) (4 : Int32) G1 G3 (FL + 1 + SG) dN 4 N es T1303.heap n0 Z1305 rfl rfl rfl hn hdg.2 (by decide) SC PC SF rG3 Sr1307 (fun _ => by omega) (fun q => he5 4 q) O1308) hZj1278 (hw _ (List.mem_of_getElem? (i := 249) rfl)) (hw _ (List.mem_of_getElem? (i := 2) rfl)) (by decide) (by decide)) (g := (mkF m 374 #[.val (.int p0), .val (.int p1), .val (.int p2), .val (.int p3), .val (.int p4), .val (.int p5), .val (.int (Int32.ofNat FL)), .val (.int (Int32.ofNat PL)), .val (.int c0), .val (.int c1), .val (.int c2), .val (.int c3), .val (.ref sa1227), .val (.ref sa1233), .val (.ref m1240), .val (.long lv), .second, .val (.int (Int32.ofNat SG)), .val (.long (Int64.ofNat N)), .second, .val (.int (Int32.ofNat dN)), .val (.int ln), .val (.int (1 : Int32)), .val (.int (Int32.ofNat (FL + 1 + SG)))] [(.long (Int64.ofNat N)), (.int (4 : Int32)), (.int (Int32.ofNat dN)), (.int (Int32.ofNat (FL + 1 + SG))), (.ref m1240)])) rfl (by rw [hml]; rfl) (argsL := [(.ref m1240), (.int (Int32.ofNat (FL + 1 + SG))), (.int (Int32.ofNat dN)), (.int (4 : Int32)), (.long (Int64.ofNat N))]) (rest := []) (lenOf own_pd664 rfl) rfl (by show 2 * 0 + _ ≤ _; exact Nat.le_of_eq rfl) (hb hby at_374) (fun _ _ => ⟨rfl, rfl, (by decide : 27 + 1 ≤ _), (by decide : 2964 + 10 ≤ _)⟩)
            dsimp only [Pt.U, Pt.locs, Pt.cells, Pt.slots] at X1311 l1311 y1311 z1311 st1311 hQ1311
            subst l1311 y1311 z1311
            obtain ⟨rfl, N1311, K1311⟩ := hQ1311
            refine GoOn.step st1311 ?_
            have N1312 := Fr.app N1304 N1311
            have Z1313 : n0 ≤ T1311.heap.size := Nat.le_trans Z1305 K1311.1
            have K1314 : Keep h0 T1311.heap [] := K1306.trans K1311 (all0)
            have Sr1315 : StrIs Z T1311.heap m1240 es := Sr1307.keep0 K1311
            have O1316 : Old Z n0 T1311.heap := O1308.keep K1311 all0
            have C1317 : CHr Z own_EL s.vm h0 vj1278 T1311.heap := CHr.trans C1309 (CHr.keep K1311 all0 C1309.1)
            have hk1318 := Nat.le_trans hk1310 K1311.1
            refine GoOn.step (fun tq kq => XS.ifNo X1311.here hx rfl (hb hby at_377) rfl ((if0 _ _).trans (feq (by decide)).1) kq) ?_
            refine GoOn.step (fun tq kq => XS.aload X1311.here hx rfl (hb hby at_380) rfl rfl kq) ?_
            refine GoOn.step (fun tq kq => XS.iload X1311.here hx rfl (hb hby at_382) rfl kq) ?_
            refine GoOn.step (fun tq kq => XS.iload X1311.here hx rfl (hb hby at_384) rfl kq) ?_
            refine GoOn.step (fun tq kq => XS.iconst X1311.here hx rfl (hb hby at_386) kq) ?_
            refine GoOn.step (fun tq kq => XS.lload X1311.here hx rfl (hb hby at_387) rfl kq) ?_
            show GoOn p e below (T1311.setTop (mkF m 389 #[.val (.int p0), .val (.int p1), .val (.int p2), .val (.int p3), .val (.int p4), .val (.int p5), .val (.int (Int32.ofNat FL)), .val (.int (Int32.ofNat PL)), .val (.int c0), .val (.int c1), .val (.int c2), .val (.int c3), .val (.ref sa1227), .val (.ref sa1233), .val (.ref m1240), .val (.long lv), .second, .val (.int (Int32.ofNat SG)), .val (.long (Int64.ofNat N)), .second, .val (.int (Int32.ofNat dN)), .val (.int ln), .val (.int (1 : Int32)), .val (.int (Int32.ofNat (FL + 1 + SG)))] [(.long (Int64.ofNat N)), (.int (5 : Int32)), (.int (Int32.ofNat dN)), (.int (Int32.ofNat (FL + 1 + SG))), (.ref m1240)])) _
            obtain ⟨_, _, ⟨T1319, L1319, k1319, n1319⟩, -, X1319, ⟨Lc1319, hQ1319, l1319, y1319, z1319⟩, st1319⟩ := Jvm.LawKit.callS X1311 hx (y := (⟨"com/example/faktorwerk/faktorwerk/model/InputRefusedExceptionAtLinePinLaw", "digitOk", "(Ljava/lang/String;IIIJ)Z"⟩ : MethodName)) hownj1278 (mvT hZj1278 (hw _ (List.mem_of_getElem? (i := 247) rfl))) (mvT hZj1278 (hw _ (List.mem_of_getElem? (i := 248) rfl))) (mvT hZj1278 (hw _ (List.mem_of_getElem? (i := 2) rfl))) (mvT hZj1278 (hw _ (List.mem_of_getElem? (i := 249) rfl))) (by decide) (backOf (W := 0) (rmDok l Z a0 hw m1240 (Int32.ofNat (FL + 1 + SG)) (Int32.ofNat dN) (5 : Int32) G1 G3 (FL + 1 + SG) dN 5 N es T1311.heap n0 Z1313 rfl rfl rfl hn hdg.2 (by decide) SC PC SF rG3 Sr1315 (fun _ => by omega) (fun q => he5 5 q) O1316) hZj1278 (hw _ (List.mem_of_getElem? (i := 249) rfl)) (hw _ (List.mem_of_getElem? (i := 2) rfl)) (by decide) (by decide)) (g := (mkF m 389 #[.val (.int p0), .val (.int p1), .val (.int p2), .val (.int p3), .val (.int p4), .val (.int p5), .val (.int (Int32.ofNat FL)), .val (.int (Int32.ofNat PL)), .val (.int c0), .val (.int c1), .val (.int c2), .val (.int c3), .val (.ref sa1227), .val (.ref sa1233), .val (.ref m1240), .val (.long lv), .second, .val (.int (Int32.ofNat SG)), .val (.long (Int64.ofNat N)), .second, .val (.int (Int32.ofNat dN)), .val (.int ln), .val (.int (1 : Int32)), .val (.int (Int32.ofNat (FL + 1 + SG)))] [(.long (Int64.ofNat N)), (.int (5 : Int32)), (.int (Int32.ofNat dN)), (.int (Int32.ofNat (FL + 1 + SG))), (.ref m1240)])) rfl (by rw [hml]; rfl) (argsL := [(.ref m1240), (.int (Int32.ofNat (FL + 1 + SG))), (.int (Int32.ofNat dN)), (.int (5 : Int32)), (.long (Int64.ofNat N))]) (rest := []) (lenOf own_pd664 rfl) rfl (by show 2 * 0 + _ ≤ _; exact Nat.le_of_eq rfl) (hb hby at_389) (fun _ _ => ⟨rfl, rfl, (by decide : 28 + 1 ≤ _), (by decide : 2974 + 10 ≤ _)⟩)
            dsimp only [Pt.U, Pt.locs, Pt.cells, Pt.slots] at X1319 l1319 y1319 z1319 st1319 hQ1319
            subst l1319 y1319 z1319
            obtain ⟨rfl, N1319, K1319⟩ := hQ1319
            refine GoOn.step st1319 ?_
            have N1320 := Fr.app N1312 N1319
            have Z1321 : n0 ≤ T1319.heap.size := Nat.le_trans Z1313 K1319.1
            have K1322 : Keep h0 T1319.heap [] := K1314.trans K1319 (all0)
            have Sr1323 : StrIs Z T1319.heap m1240 es := Sr1315.keep0 K1319
            have O1324 : Old Z n0 T1319.heap := O1316.keep K1319 all0
            have C1325 : CHr Z own_EL s.vm h0 vj1278 T1319.heap := CHr.trans C1317 (CHr.keep K1319 all0 C1317.1)
            have hk1326 := Nat.le_trans hk1318 K1319.1
            refine GoOn.step (fun tq kq => XS.ifNo X1319.here hx rfl (hb hby at_392) rfl ((if0 _ _).trans (feq (by decide)).1) kq) ?_
            refine GoOn.step (fun tq kq => XS.aload X1319.here hx rfl (hb hby at_395) rfl rfl kq) ?_
            refine GoOn.step (fun tq kq => XS.iload X1319.here hx rfl (hb hby at_397) rfl kq) ?_
            refine GoOn.step (fun tq kq => XS.iload X1319.here hx rfl (hb hby at_399) rfl kq) ?_
            refine GoOn.step (fun tq kq => XS.bipush X1319.here hx rfl (hb hby at_401) kq) ?_
            refine GoOn.step (fun tq kq => XS.lload X1319.here hx rfl (hb hby at_403) rfl kq) ?_
            show GoOn p e below (T1319.setTop (mkF m 405 #[.val (.int p0), .val (.int p1), .val (.int p2), .val (.int p3), .val (.int p4), .val (.int p5), .val (.int (Int32.ofNat FL)), .val (.int (Int32.ofNat PL)), .val (.int c0), .val (.int c1), .val (.int c2), .val (.int c3), .val (.ref sa1227), .val (.ref sa1233), .val (.ref m1240), .val (.long lv), .second, .val (.int (Int32.ofNat SG)), .val (.long (Int64.ofNat N)), .second, .val (.int (Int32.ofNat dN)), .val (.int ln), .val (.int (1 : Int32)), .val (.int (Int32.ofNat (FL + 1 + SG)))] [(.long (Int64.ofNat N)), (.int (6 : Int32)), (.int (Int32.ofNat dN)), (.int (Int32.ofNat (FL + 1 + SG))), (.ref m1240)])) _
            obtain ⟨_, _, ⟨T1327, L1327, k1327, n1327⟩, -, X1327, ⟨Lc1327, hQ1327, l1327, y1327, z1327⟩, st1327⟩ := Jvm.LawKit.callS X1319 hx (y := (⟨"com/example/faktorwerk/faktorwerk/model/InputRefusedExceptionAtLinePinLaw", "digitOk", "(Ljava/lang/String;IIIJ)Z"⟩ : MethodName)) hownj1278 (mvT hZj1278 (hw _ (List.mem_of_getElem? (i := 247) rfl))) (mvT hZj1278 (hw _ (List.mem_of_getElem? (i := 248) rfl))) (mvT hZj1278 (hw _ (List.mem_of_getElem? (i := 2) rfl))) (mvT hZj1278 (hw _ (List.mem_of_getElem? (i := 249) rfl))) (by decide) (backOf (W := 0) (rmDok l Z a0 hw m1240 (Int32.ofNat (FL + 1 + SG)) (Int32.ofNat dN) (6 : Int32) G1 G3 (FL + 1 + SG) dN 6 N es T1319.heap n0 Z1321 rfl rfl rfl hn hdg.2 (by decide) SC PC SF rG3 Sr1323 (fun _ => by omega) (fun q => he5 6 q) O1324) hZj1278 (hw _ (List.mem_of_getElem? (i := 249) rfl)) (hw _ (List.mem_of_getElem? (i := 2) rfl)) (by decide) (by decide)) (g := (mkF m 405 #[.val (.int p0), .val (.int p1), .val (.int p2), .val (.int p3), .val (.int p4), .val (.int p5), .val (.int (Int32.ofNat FL)), .val (.int (Int32.ofNat PL)), .val (.int c0), .val (.int c1), .val (.int c2), .val (.int c3), .val (.ref sa1227), .val (.ref sa1233), .val (.ref m1240), .val (.long lv), .second, .val (.int (Int32.ofNat SG)), .val (.long (Int64.ofNat N)), .second, .val (.int (Int32.ofNat dN)), .val (.int ln), .val (.int (1 : Int32)), .val (.int (Int32.ofNat (FL + 1 + SG)))] [(.long (Int64.ofNat N)), (.int (6 : Int32)), (.int (Int32.ofNat dN)), (.int (Int32.ofNat (FL + 1 + SG))), (.ref m1240)])) rfl (by rw [hml]; rfl) (argsL := [(.ref m1240), (.int (Int32.ofNat (FL + 1 + SG))), (.int (Int32.ofNat dN)), (.int (6 : Int32)), (.long (Int64.ofNat N))]) (rest := []) (lenOf own_pd664 rfl) rfl (by show 2 * 0 + _ ≤ _; exact Nat.le_of_eq rfl) (hb hby at_405) (fun _ _ => ⟨rfl, rfl, (by decide : 29 + 1 ≤ _), (by decide : 2984 + 10 ≤ _)⟩)
            dsimp only [Pt.U, Pt.locs, Pt.cells, Pt.slots] at X1327 l1327 y1327 z1327 st1327 hQ1327
            subst l1327 y1327 z1327
            obtain ⟨rfl, N1327, K1327⟩ := hQ1327
            refine GoOn.step st1327 ?_
            have N1328 := Fr.app N1320 N1327
            have Z1329 : n0 ≤ T1327.heap.size := Nat.le_trans Z1321 K1327.1
            have K1330 : Keep h0 T1327.heap [] := K1322.trans K1327 (all0)
            have Sr1331 : StrIs Z T1327.heap m1240 es := Sr1323.keep0 K1327
            have O1332 : Old Z n0 T1327.heap := O1324.keep K1327 all0
            have C1333 : CHr Z own_EL s.vm h0 vj1278 T1327.heap := CHr.trans C1325 (CHr.keep K1327 all0 C1325.1)
            have hk1334 := Nat.le_trans hk1326 K1327.1
            refine GoOn.step (fun tq kq => XS.ifNo X1327.here hx rfl (hb hby at_408) rfl ((if0 _ _).trans (feq (by decide)).1) kq) ?_
            refine GoOn.step (fun tq kq => XS.aload X1327.here hx rfl (hb hby at_411) rfl rfl kq) ?_
            refine GoOn.step (fun tq kq => XS.iload X1327.here hx rfl (hb hby at_413) rfl kq) ?_
            refine GoOn.step (fun tq kq => XS.iload X1327.here hx rfl (hb hby at_415) rfl kq) ?_
            refine GoOn.step (fun tq kq => XS.bipush X1327.here hx rfl (hb hby at_417) kq) ?_
            refine GoOn.step (fun tq kq => XS.lload X1327.here hx rfl (hb hby at_419) rfl kq) ?_
            show GoOn p e below (T1327.setTop (mkF m 421 #[.val (.int p0), .val (.int p1), .val (.int p2), .val (.int p3), .val (.int p4), .val (.int p5), .val (.int (Int32.ofNat FL)), .val (.int (Int32.ofNat PL)), .val (.int c0), .val (.int c1), .val (.int c2), .val (.int c3), .val (.ref sa1227), .val (.ref sa1233), .val (.ref m1240), .val (.long lv), .second, .val (.int (Int32.ofNat SG)), .val (.long (Int64.ofNat N)), .second, .val (.int (Int32.ofNat dN)), .val (.int ln), .val (.int (1 : Int32)), .val (.int (Int32.ofNat (FL + 1 + SG)))] [(.long (Int64.ofNat N)), (.int (7 : Int32)), (.int (Int32.ofNat dN)), (.int (Int32.ofNat (FL + 1 + SG))), (.ref m1240)])) _
            obtain ⟨_, _, ⟨T1335, L1335, k1335, n1335⟩, -, X1335, ⟨Lc1335, hQ1335, l1335, y1335, z1335⟩, st1335⟩ := Jvm.LawKit.callS X1327 hx (y := (⟨"com/example/faktorwerk/faktorwerk/model/InputRefusedExceptionAtLinePinLaw", "digitOk", "(Ljava/lang/String;IIIJ)Z"⟩ : MethodName)) hownj1278 (mvT hZj1278 (hw _ (List.mem_of_getElem? (i := 247) rfl))) (mvT hZj1278 (hw _ (List.mem_of_getElem? (i := 248) rfl))) (mvT hZj1278 (hw _ (List.mem_of_getElem? (i := 2) rfl))) (mvT hZj1278 (hw _ (List.mem_of_getElem? (i := 249) rfl))) (by decide) (backOf (W := 0) (rmDok l Z a0 hw m1240 (Int32.ofNat (FL + 1 + SG)) (Int32.ofNat dN) (7 : Int32) G1 G3 (FL + 1 + SG) dN 7 N es T1327.heap n0 Z1329 rfl rfl rfl hn hdg.2 (by decide) SC PC SF rG3 Sr1331 (fun _ => by omega) (fun q => he5 7 q) O1332) hZj1278 (hw _ (List.mem_of_getElem? (i := 249) rfl)) (hw _ (List.mem_of_getElem? (i := 2) rfl)) (by decide) (by decide)) (g := (mkF m 421 #[.val (.int p0), .val (.int p1), .val (.int p2), .val (.int p3), .val (.int p4), .val (.int p5), .val (.int (Int32.ofNat FL)), .val (.int (Int32.ofNat PL)), .val (.int c0), .val (.int c1), .val (.int c2), .val (.int c3), .val (.ref sa1227), .val (.ref sa1233), .val (.ref m1240), .val (.long lv), .second, .val (.int (Int32.ofNat SG)), .val (.long (Int64.ofNat N)), .second, .val (.int (Int32.ofNat dN)), .val (.int ln), .val (.int (1 : Int32)), .val (.int (Int32.ofNat (FL + 1 + SG)))] [(.long (Int64.ofNat N)), (.int (7 : Int32)), (.int (Int32.ofNat dN)), (.int (Int32.ofNat (FL + 1 + SG))), (.ref m1240)])) rfl (by rw [hml]; rfl) (argsL := [(.ref m1240), (.int (Int32.ofNat (FL + 1 + SG))), (.int (Int32.ofNat dN)), (.int (7 : Int32)), (.long (Int64.ofNat N))]) (rest := []) (lenOf own_pd664 rfl) rfl (by show 2 * 0 + _ ≤ _; exact Nat.le_of_eq rfl) (hb hby at_421) (fun _ _ => ⟨rfl, rfl, (by decide : 30 + 1 ≤ _), (by decide : 2994 + 10 ≤ _)⟩)
            dsimp only [Pt.U, Pt.locs, Pt.cells, Pt.slots] at X1335 l1335 y1335 z1335 st1335 hQ1335
            subst l1335 y1335 z1335
            obtain ⟨rfl, N1335, K1335⟩ := hQ1335
            refine GoOn.step st1335 ?_
            have N1336 := Fr.app N1328 N1335
            have Z1337 : n0 ≤ T1335.heap.size := Nat.le_trans Z1329 K1335.1
            have K1338 : Keep h0 T1335.heap [] := K1330.trans K1335 (all0)
            have Sr1339 : StrIs Z T1335.heap m1240 es := Sr1331.keep0 K1335
            have O1340 : Old Z n0 T1335.heap := O1332.keep K1335 all0
            have C1341 : CHr Z own_EL s.vm h0 vj1278 T1335.heap := CHr.trans C1333 (CHr.keep K1335 all0 C1333.1)
            have hk1342 := Nat.le_trans hk1334 K1335.1
            refine GoOn.step (fun tq kq => XS.ifNo X1335.here hx rfl (hb hby at_424) rfl ((if0 _ _).trans (feq (by decide)).1) kq) ?_
            refine GoOn.step (fun tq kq => XS.aload X1335.here hx rfl (hb hby at_427) rfl rfl kq) ?_
            refine GoOn.step (fun tq kq => XS.iload X1335.here hx rfl (hb hby at_429) rfl kq) ?_
            refine GoOn.step (fun tq kq => XS.iload X1335.here hx rfl (hb hby at_431) rfl kq) ?_
            refine GoOn.step (fun tq kq => XS.bipush X1335.here hx rfl (hb hby at_433) kq) ?_
            refine GoOn.step (fun tq kq => XS.lload X1335.here hx rfl (hb hby at_435) rfl kq) ?_
            show GoOn p e below (T1335.setTop (mkF m 437 #[.val (.int p0), .val (.int p1), .val (.int p2), .val (.int p3), .val (.int p4), .val (.int p5), .val (.int (Int32.ofNat FL)), .val (.int (Int32.ofNat PL)), .val (.int c0), .val (.int c1), .val (.int c2), .val (.int c3), .val (.ref sa1227), .val (.ref sa1233), .val (.ref m1240), .val (.long lv), .second, .val (.int (Int32.ofNat SG)), .val (.long (Int64.ofNat N)), .second, .val (.int (Int32.ofNat dN)), .val (.int ln), .val (.int (1 : Int32)), .val (.int (Int32.ofNat (FL + 1 + SG)))] [(.long (Int64.ofNat N)), (.int (8 : Int32)), (.int (Int32.ofNat dN)), (.int (Int32.ofNat (FL + 1 + SG))), (.ref m1240)])) _
            obtain ⟨_, _, ⟨T1343, L1343, k1343, n1343⟩, -, X1343, ⟨Lc1343, hQ1343, l1343, y1343, z1343⟩, st1343⟩ := Jvm.LawKit.callS X1335 hx (y := (⟨"com/example/faktorwerk/faktorwerk/model/InputRefusedExceptionAtLinePinLaw", "digitOk", "(Ljava/lang/String;IIIJ)Z"⟩ : MethodName)) hownj1278 (mvT hZj1278 (hw _ (List.mem_of_getElem? (i := 247) rfl))) (mvT hZj1278 (hw _ (List.mem_of_getElem? (i := 248) rfl))) (mvT hZj1278 (hw _ (List.mem_of_getElem? (i := 2) rfl))) (mvT hZj1278 (hw _ (List.mem_of_getElem? (i := 249) rfl))) (by decide) (backOf (W := 0) (rmDok l Z a0 hw m1240 (Int32.ofNat (FL + 1 + SG)) (Int32.ofNat dN) (8 : Int32) G1 G3 (FL + 1 + SG) dN 8 N es T1335.heap n0 Z1337 rfl rfl rfl hn hdg.2 (by decide) SC PC SF rG3 Sr1339 (fun _ => by omega) (fun q => he5 8 q) O1340) hZj1278 (hw _ (List.mem_of_getElem? (i := 249) rfl)) (hw _ (List.mem_of_getElem? (i := 2) rfl)) (by decide) (by decide)) (g := (mkF m 437 #[.val (.int p0), .val (.int p1), .val (.int p2), .val (.int p3), .val (.int p4), .val (.int p5), .val (.int (Int32.ofNat FL)), .val (.int (Int32.ofNat PL)), .val (.int c0), .val (.int c1), .val (.int c2), .val (.int c3), .val (.ref sa1227), .val (.ref sa1233), .val (.ref m1240), .val (.long lv), .second, .val (.int (Int32.ofNat SG)), .val (.long (Int64.ofNat N)), .second, .val (.int (Int32.ofNat dN)), .val (.int ln), .val (.int (1 : Int32)), .val (.int (Int32.ofNat (FL + 1 + SG)))] [(.long (Int64.ofNat N)), (.int (8 : Int32)), (.int (Int32.ofNat dN)), (.int (Int32.ofNat (FL + 1 + SG))), (.ref m1240)])) rfl (by rw [hml]; rfl) (argsL := [(.ref m1240), (.int (Int32.ofNat (FL + 1 + SG))), (.int (Int32.ofNat dN)), (.int (8 : Int32)), (.long (Int64.ofNat N))]) (rest := []) (lenOf own_pd664 rfl) rfl (by show 2 * 0 + _ ≤ _; exact Nat.le_of_eq rfl) (hb hby at_437) (fun _ _ => ⟨rfl, rfl, (by decide : 31 + 1 ≤ _), (by decide : 3004 + 10 ≤ _)⟩)
            dsimp only [Pt.U, Pt.locs, Pt.cells, Pt.slots] at X1343 l1343 y1343 z1343 st1343 hQ1343
            subst l1343 y1343 z1343
            obtain ⟨rfl, N1343, K1343⟩ := hQ1343
            refine GoOn.step st1343 ?_
            have N1344 := Fr.app N1336 N1343
            have Z1345 : n0 ≤ T1343.heap.size := Nat.le_trans Z1337 K1343.1
            have K1346 : Keep h0 T1343.heap [] := K1338.trans K1343 (all0)
            have Sr1347 : StrIs Z T1343.heap m1240 es := Sr1339.keep0 K1343
            have O1348 : Old Z n0 T1343.heap := O1340.keep K1343 all0
            have C1349 : CHr Z own_EL s.vm h0 vj1278 T1343.heap := CHr.trans C1341 (CHr.keep K1343 all0 C1341.1)
            have hk1350 := Nat.le_trans hk1342 K1343.1
            refine GoOn.step (fun tq kq => XS.ifNo X1343.here hx rfl (hb hby at_440) rfl ((if0 _ _).trans (feq (by decide)).1) kq) ?_
            refine GoOn.step (fun tq kq => XS.aload X1343.here hx rfl (hb hby at_443) rfl rfl kq) ?_
            refine GoOn.step (fun tq kq => XS.iload X1343.here hx rfl (hb hby at_445) rfl kq) ?_
            refine GoOn.step (fun tq kq => XS.iload X1343.here hx rfl (hb hby at_447) rfl kq) ?_
            refine GoOn.step (fun tq kq => XS.bipush X1343.here hx rfl (hb hby at_449) kq) ?_
            refine GoOn.step (fun tq kq => XS.lload X1343.here hx rfl (hb hby at_451) rfl kq) ?_
            show GoOn p e below (T1343.setTop (mkF m 453 #[.val (.int p0), .val (.int p1), .val (.int p2), .val (.int p3), .val (.int p4), .val (.int p5), .val (.int (Int32.ofNat FL)), .val (.int (Int32.ofNat PL)), .val (.int c0), .val (.int c1), .val (.int c2), .val (.int c3), .val (.ref sa1227), .val (.ref sa1233), .val (.ref m1240), .val (.long lv), .second, .val (.int (Int32.ofNat SG)), .val (.long (Int64.ofNat N)), .second, .val (.int (Int32.ofNat dN)), .val (.int ln), .val (.int (1 : Int32)), .val (.int (Int32.ofNat (FL + 1 + SG)))] [(.long (Int64.ofNat N)), (.int (9 : Int32)), (.int (Int32.ofNat dN)), (.int (Int32.ofNat (FL + 1 + SG))), (.ref m1240)])) _
            obtain ⟨_, _, ⟨T1351, L1351, k1351, n1351⟩, -, X1351, ⟨Lc1351, hQ1351, l1351, y1351, z1351⟩, st1351⟩ := Jvm.LawKit.callS X1343 hx (y := (⟨"com/example/faktorwerk/faktorwerk/model/InputRefusedExceptionAtLinePinLaw", "digitOk", "(Ljava/lang/String;IIIJ)Z"⟩ : MethodName)) hownj1278 (mvT hZj1278 (hw _ (List.mem_of_getElem? (i := 247) rfl))) (mvT hZj1278 (hw _ (List.mem_of_getElem? (i := 248) rfl))) (mvT hZj1278 (hw _ (List.mem_of_getElem? (i := 2) rfl))) (mvT hZj1278 (hw _ (List.mem_of_getElem? (i := 249) rfl))) (by decide) (backOf (W := 0) (rmDok l Z a0 hw m1240 (Int32.ofNat (FL + 1 + SG)) (Int32.ofNat dN) (9 : Int32) G1 G3 (FL + 1 + SG) dN 9 N es T1343.heap n0 Z1345 rfl rfl rfl hn hdg.2 (by decide) SC PC SF rG3 Sr1347 (fun _ => by omega) (fun q => he5 9 q) O1348) hZj1278 (hw _ (List.mem_of_getElem? (i := 249) rfl)) (hw _ (List.mem_of_getElem? (i := 2) rfl)) (by decide) (by decide)) (g := (mkF m 453 #[.val (.int p0), .val (.int p1), .val (.int p2), .val (.int p3), .val (.int p4), .val (.int p5), .val (.int (Int32.ofNat FL)), .val (.int (Int32.ofNat PL)), .val (.int c0), .val (.int c1), .val (.int c2), .val (.int c3), .val (.ref sa1227), .val (.ref sa1233), .val (.ref m1240), .val (.long lv), .second, .val (.int (Int32.ofNat SG)), .val (.long (Int64.ofNat N)), .second, .val (.int (Int32.ofNat dN)), .val (.int ln), .val (.int (1 : Int32)), .val (.int (Int32.ofNat (FL + 1 + SG)))] [(.long (Int64.ofNat N)), (.int (9 : Int32)), (.int (Int32.ofNat dN)), (.int (Int32.ofNat (FL + 1 + SG))), (.ref m1240)])) rfl (by rw [hml]; rfl) (argsL := [(.ref m1240), (.int (Int32.ofNat (FL + 1 + SG))), (.int (Int32.ofNat dN)), (.int (9 : Int32)), (.long (Int64.ofNat N))]) (rest := []) (lenOf own_pd664 rfl) rfl (by show 2 * 0 + _ ≤ _; exact Nat.le_of_eq rfl) (hb hby at_453) (fun _ _ => ⟨rfl, rfl, (by decide : 32 + 1 ≤ _), (by decide : 3014 + 10 ≤ _)⟩)
            dsimp only [Pt.U, Pt.locs, Pt.cells, Pt.slots] at X1351 l1351 y1351 z1351 st1351 hQ1351
            subst l1351 y1351 z1351
            obtain ⟨rfl, N1351, K1351⟩ := hQ1351
            refine GoOn.step st1351 ?_
            have N1352 := Fr.app N1344 N1351
            have Z1353 : n0 ≤ T1351.heap.size := Nat.le_trans Z1345 K1351.1
            have K1354 : Keep h0 T1351.heap [] := K1346.trans K1351 (all0)
            have Sr1355 : StrIs Z T1351.heap m1240 es := Sr1347.keep0 K1351
            have O1356 : Old Z n0 T1351.heap := O1348.keep K1351 all0
            have C1357 : CHr Z own_EL s.vm h0 vj1278 T1351.heap := CHr.trans C1349 (CHr.keep K1351 all0 C1349.1)
            have hk1358 := Nat.le_trans hk1350 K1351.1
            refine GoOn.step (fun tq kq => XS.ifNo X1351.here hx rfl (hb hby at_456) rfl ((if0 _ _).trans (feq (by decide)).1) kq) ?_
            refine GoOn.step (fun tq kq => XS.iconst X1351.here hx rfl (hb hby at_459) kq) ?_
            refine GoOn.step (fun tq kq => XS.goto X1351.here hx rfl (pc0 := 460) (pc' := 464) rfl (hb hby at_460) (by decide) (by decide) kq) ?_
            refine GoOn.step (fun tq kq => XS.istore X1351.here hx rfl (hb hby at_464) rfl (l' := #[.val (.int p0), .val (.int p1), .val (.int p2), .val (.int p3), .val (.int p4), .val (.int p5), .val (.int (Int32.ofNat FL)), .val (.int (Int32.ofNat PL)), .val (.int c0), .val (.int c1), .val (.int c2), .val (.int c3), .val (.ref sa1227), .val (.ref sa1233), .val (.ref m1240), .val (.long lv), .second, .val (.int (Int32.ofNat SG)), .val (.long (Int64.ofNat N)), .second, .val (.int (Int32.ofNat dN)), .val (.int ln), .val (.int (1 : Int32)), .val (.int (Int32.ofNat (FL + 1 + SG)))]) rfl kq) ?_
            refine GoOn.step (fun tq kq => XS.iload X1351.here hx rfl (hb hby at_466) rfl kq) ?_
            refine GoOn.step (fun tq kq => XS.iload X1351.here hx rfl (hb hby at_468) rfl kq) ?_
            refine GoOn.step (fun tq kq => XS.iadd X1351.here hx rfl (hb hby at_470) rfl kq) ?_
            show GoOn p e below (T1351.setTop (mkF m 471 #[.val (.int p0), .val (.int p1), .val (.int p2), .val (.int p3), .val (.int p4), .val (.int p5), .val (.int (Int32.ofNat FL)), .val (.int (Int32.ofNat PL)), .val (.int c0), .val (.int c1), .val (.int c2), .val (.int c3), .val (.ref sa1227), .val (.ref sa1233), .val (.ref m1240), .val (.long lv), .second, .val (.int (Int32.ofNat SG)), .val (.long (Int64.ofNat N)), .second, .val (.int (Int32.ofNat dN)), .val (.int ln), .val (.int (1 : Int32)), .val (.int (Int32.ofNat (FL + 1 + SG)))] [(.int ((Int32.ofNat (FL + 1 + SG)) + (Int32.ofNat dN)))])) _
            rw [own_add32]
            refine GoOn.step (fun tq kq => XS.istore X1351.here hx rfl (hb hby at_471) rfl (l' := #[.val (.int p0), .val (.int p1), .val (.int p2), .val (.int p3), .val (.int p4), .val (.int p5), .val (.int (Int32.ofNat FL)), .val (.int (Int32.ofNat PL)), .val (.int c0), .val (.int c1), .val (.int c2), .val (.int c3), .val (.ref sa1227), .val (.ref sa1233), .val (.ref m1240), .val (.long lv), .second, .val (.int (Int32.ofNat SG)), .val (.long (Int64.ofNat N)), .second, .val (.int (Int32.ofNat dN)), .val (.int ln), .val (.int (1 : Int32)), .val (.int (Int32.ofNat (FL + 1 + SG + dN)))]) rfl kq) ?_
            refine GoOn.step (fun tq kq => XS.iload X1351.here hx rfl (hb hby at_473) rfl kq) ?_
            refine GoOn.step (fun tq kq => XS.ifNo X1351.here hx rfl (hb hby at_475) rfl ((if0 _ _).trans (feq (by decide)).1) kq) ?_
            refine GoOn.step (fun tq kq => XS.aload X1351.here hx rfl (hb hby at_478) rfl rfl kq) ?_
            refine GoOn.step (fun tq kq => XS.iload X1351.here hx rfl (hb hby at_480) rfl kq) ?_
            show GoOn p e below (T1351.setTop (mkF m 482 #[.val (.int p0), .val (.int p1), .val (.int p2), .val (.int p3), .val (.int p4), .val (.int p5), .val (.int (Int32.ofNat FL)), .val (.int (Int32.ofNat PL)), .val (.int c0), .val (.int c1), .val (.int c2), .val (.int c3), .val (.ref sa1227), .val (.ref sa1233), .val (.ref m1240), .val (.long lv), .second, .val (.int (Int32.ofNat SG)), .val (.long (Int64.ofNat N)), .second, .val (.int (Int32.ofNat dN)), .val (.int ln), .val (.int (1 : Int32)), .val (.int (Int32.ofNat (FL + 1 + SG + dN)))] [(.int (Int32.ofNat (FL + 1 + SG + dN))), (.ref m1240)])) _
            obtain ⟨cqc1360, kqc1360, qac1360, qbc1360, qcc1360⟩ := isOf hZj1278 rfl Sr1355.1
            obtain ⟨_, _, ⟨T1359, L1359, k1359, n1359⟩, -, X1359, ⟨Lc1359, hQ1359, l1359, y1359, z1359⟩, st1359⟩ := X1351.virtualBack hx (y := (⟨"java/lang/String", "charAt", "(I)C"⟩ : MethodName)) (z := (⟨"java/lang/String", "charAt", "(I)C"⟩ : MethodName)) hownj1278 (mvT hZj1278 (hw _ (List.mem_of_getElem? (i := 225) rfl))) (mvT hZj1278 (hw _ (List.mem_of_getElem? (i := 226) rfl))) (notFace_of_selects (args := #[]) (mvT hZj1278 (hw _ (List.mem_of_getElem? (i := 228) rfl)))) (mvT hZj1278 (hw _ (List.mem_of_getElem? (i := 228) rfl))) (mvT hZj1278 (hw _ (List.mem_of_getElem? (i := 227) rfl))) (by decide) (own_chS (n0 := n0) (W := 0) hZj1278 hch (kI := 4) (hw _ (List.mem_of_getElem? (i := 5) rfl)) Sr1355 (SC.ext O1356.2) PC (SF.ext O1356.2) rG3 (FL + 1 + SG + dN) (by omega) rfl (by decide) (by decide)) qac1360 qcc1360 (g := (mkF m 482 #[.val (.int p0), .val (.int p1), .val (.int p2), .val (.int p3), .val (.int p4), .val (.int p5), .val (.int (Int32.ofNat FL)), .val (.int (Int32.ofNat PL)), .val (.int c0), .val (.int c1), .val (.int c2), .val (.int c3), .val (.ref sa1227), .val (.ref sa1233), .val (.ref m1240), .val (.long lv), .second, .val (.int (Int32.ofNat SG)), .val (.long (Int64.ofNat N)), .second, .val (.int (Int32.ofNat dN)), .val (.int ln), .val (.int (1 : Int32)), .val (.int (Int32.ofNat (FL + 1 + SG + dN)))] [(.int (Int32.ofNat (FL + 1 + SG + dN))), (.ref m1240)])) rfl (by rw [hml]; rfl) (Steps.refl _) (argsL := [(.int (Int32.ofNat (FL + 1 + SG + dN)))]) (rest := []) (lenOf own_pd620 rfl) rfl (by show 2 * 0 + _ ≤ _; exact Nat.le_of_eq rfl) (hb hby at_482) (fun _ _ => ⟨rfl, rfl, (by decide : 33 + 0 ≤ _), (by decide : 3024 + 0 ≤ _)⟩)
            dsimp only [Pt.U, Pt.locs, Pt.cells, Pt.slots] at X1359 l1359 y1359 z1359 st1359 hQ1359
            subst l1359 y1359 z1359
            obtain ⟨rfl, N1359, e1359⟩ := hQ1359
            refine GoOn.trans st1359 ?_
            have N1361 := Fr.app N1352 N1359
            refine GoOn.step (fun tq kq => XS.bipush X1359.here hx rfl (hb hby at_485) kq) ?_
            refine GoOn.step (fun tq kq => XS.icmpNo X1359.here hx rfl (hb hby at_487) rfl (teq he6).2 kq) ?_
            refine GoOn.step (fun tq kq => XS.aload X1359.here hx rfl (hb hby at_490) rfl rfl kq) ?_
            refine GoOn.step (fun tq kq => XS.iload X1359.here hx rfl (hb hby at_492) rfl kq) ?_
            refine GoOn.step (fun tq kq => XS.iconst X1359.here hx rfl (hb hby at_494) kq) ?_
            refine GoOn.step (fun tq kq => XS.iadd X1359.here hx rfl (hb hby at_495) rfl kq) ?_
            show GoOn p e below (T1359.setTop (mkF m 496 #[.val (.int p0), .val (.int p1), .val (.int p2), .val (.int p3), .val (.int p4), .val (.int p5), .val (.int (Int32.ofNat FL)), .val (.int (Int32.ofNat PL)), .val (.int c0), .val (.int c1), .val (.int c2), .val (.int c3), .val (.ref sa1227), .val (.ref sa1233), .val (.ref m1240), .val (.long lv), .second, .val (.int (Int32.ofNat SG)), .val (.long (Int64.ofNat N)), .second, .val (.int (Int32.ofNat dN)), .val (.int ln), .val (.int (1 : Int32)), .val (.int (Int32.ofNat (FL + 1 + SG + dN)))] [(.int ((Int32.ofNat (FL + 1 + SG + dN)) + (1 : Int32))), (.ref m1240)])) _
            rw [own_add1]
            show GoOn p e below (T1359.setTop (mkF m 496 #[.val (.int p0), .val (.int p1), .val (.int p2), .val (.int p3), .val (.int p4), .val (.int p5), .val (.int (Int32.ofNat FL)), .val (.int (Int32.ofNat PL)), .val (.int c0), .val (.int c1), .val (.int c2), .val (.int c3), .val (.ref sa1227), .val (.ref sa1233), .val (.ref m1240), .val (.long lv), .second, .val (.int (Int32.ofNat SG)), .val (.long (Int64.ofNat N)), .second, .val (.int (Int32.ofNat dN)), .val (.int ln), .val (.int (1 : Int32)), .val (.int (Int32.ofNat (FL + 1 + SG + dN)))] [(.int (Int32.ofNat (FL + 1 + SG + dN + 1))), (.ref m1240)])) _
            obtain ⟨cqc1363, kqc1363, qac1363, qbc1363, qcc1363⟩ := isOf hZj1278 e1359 Sr1355.1
            obtain ⟨_, _, ⟨T1362, L1362, k1362, n1362⟩, -, X1362, ⟨Lc1362, hQ1362, l1362, y1362, z1362⟩, st1362⟩ := X1359.virtualBack hx (y := (⟨"java/lang/String", "charAt", "(I)C"⟩ : MethodName)) (z := (⟨"java/lang/String", "charAt", "(I)C"⟩ : MethodName)) hownj1278 (mvT hZj1278 (hw _ (List.mem_of_getElem? (i := 225) rfl))) (mvT hZj1278 (hw _ (List.mem_of_getElem? (i := 226) rfl))) (notFace_of_selects (args := #[]) (mvT hZj1278 (hw _ (List.mem_of_getElem? (i := 228) rfl)))) (mvT hZj1278 (hw _ (List.mem_of_getElem? (i := 228) rfl))) (mvT hZj1278 (hw _ (List.mem_of_getElem? (i := 227) rfl))) (by decide) (own_chS (n0 := n0) (W := 0) hZj1278 hch (kI := 4) (hw _ (List.mem_of_getElem? (i := 5) rfl)) Sr1355 (SC.ext O1356.2) PC (SF.ext O1356.2) rG3 (FL + 1 + SG + dN + 1) (by omega) rfl (by decide) (by decide)) qac1363 qcc1363 (g := (mkF m 496 #[.val (.int p0), .val (.int p1), .val (.int p2), .val (.int p3), .val (.int p4), .val (.int p5), .val (.int (Int32.ofNat FL)), .val (.int (Int32.ofNat PL)), .val (.int c0), .val (.int c1), .val (.int c2), .val (.int c3), .val (.ref sa1227), .val (.ref sa1233), .val (.ref m1240), .val (.long lv), .second, .val (.int (Int32.ofNat SG)), .val (.long (Int64.ofNat N)), .second, .val (.int (Int32.ofNat dN)), .val (.int ln), .val (.int (1 : Int32)), .val (.int (Int32.ofNat (FL + 1 + SG + dN)))] [(.int (Int32.ofNat (FL + 1 + SG + dN + 1))), (.ref m1240)])) rfl (by rw [hml]; rfl) (Steps.refl _) (argsL := [(.int (Int32.ofNat (FL + 1 + SG + dN + 1)))]) (rest := []) (lenOf own_pd620 rfl) rfl (by show 2 * 0 + _ ≤ _; exact Nat.le_of_eq rfl) (hb hby at_496) (fun _ _ => ⟨rfl, e1359, (by decide : 33 + 0 ≤ _), (by decide : 3024 + 0 ≤ _)⟩)
            dsimp only [Pt.U, Pt.locs, Pt.cells, Pt.slots] at X1362 l1362 y1362 z1362 st1362 hQ1362
            subst l1362 y1362 z1362
            obtain ⟨rfl, N1362, e1362⟩ := hQ1362
            refine GoOn.trans st1362 ?_
            have N1364 := Fr.app N1361 N1362
            refine GoOn.step (fun tq kq => XS.bipush X1362.here hx rfl (hb hby at_499) kq) ?_
            refine GoOn.step (fun tq kq => XS.icmpNo X1362.here hx rfl (hb hby at_501) rfl (teq he7).2 kq) ?_
            refine GoOn.step (fun tq kq => XS.iconst X1362.here hx rfl (hb hby at_504) kq) ?_
            refine GoOn.step (fun tq kq => XS.goto X1362.here hx rfl (pc0 := 505) (pc' := 509) rfl (hb hby at_505) (by decide) (by decide) kq) ?_
            refine GoOn.step (fun tq kq => XS.istore X1362.here hx rfl (hb hby at_509) rfl (l' := #[.val (.int p0), .val (.int p1), .val (.int p2), .val (.int p3), .val (.int p4), .val (.int p5), .val (.int (Int32.ofNat FL)), .val (.int (Int32.ofNat PL)), .val (.int c0), .val (.int c1), .val (.int c2), .val (.int c3), .val (.ref sa1227), .val (.ref sa1233), .val (.ref m1240), .val (.long lv), .second, .val (.int (Int32.ofNat SG)), .val (.long (Int64.ofNat N)), .second, .val (.int (Int32.ofNat dN)), .val (.int ln), .val (.int (1 : Int32)), .val (.int (Int32.ofNat (FL + 1 + SG + dN)))]) rfl kq) ?_
            refine GoOn.step (fun tq kq => XS.iload X1362.here hx rfl (hb hby at_511) rfl kq) ?_
            refine GoOn.step (fun tq kq => XS.iconst X1362.here hx rfl (hb hby at_513) kq) ?_
            show GoOn p e below (T1362.setTop (mkF m 514 #[.val (.int p0), .val (.int p1), .val (.int p2), .val (.int p3), .val (.int p4), .val (.int p5), .val (.int (Int32.ofNat FL)), .val (.int (Int32.ofNat PL)), .val (.int c0), .val (.int c1), .val (.int c2), .val (.int c3), .val (.ref sa1227), .val (.ref sa1233), .val (.ref m1240), .val (.long lv), .second, .val (.int (Int32.ofNat SG)), .val (.long (Int64.ofNat N)), .second, .val (.int (Int32.ofNat dN)), .val (.int ln), .val (.int (1 : Int32)), .val (.int (Int32.ofNat (FL + 1 + SG + dN)))] [(.int (1 : Int32)), (.int (Int32.ofNat PL))])) _
            have J1365 : ∀ (vj1368 : Vm) (kj1368 : Nat) (Tj1368 : State) (lj1368 : List Loc) (hj1368 : Heap)  (Xj1368 : Stand p l e room_1 (s.setVm vj1368) m #[(.int p0), (.int p1), (.int p2), (.int p3), (.int p4), (.int p5)] below meth c Tj1368 lj1368 33 3024) (ej1368 : Tj1368.heap = hj1368) (Nj1368 : Fr n0 lj1368) (hZj1368 : Z.Warmed39 (s.setVm vj1368).vm) (hownj1368 : (s.setVm vj1368).vm.findClass "com/example/faktorwerk/faktorwerk/model/InputRefusedExceptionAtLinePinLaw" = some m.cls) (hSj1368 : s.Since vj1368 kj1368) (hkj1368 : kj1368 ≤ hj1368.size) (Cj1368 : CHr Z own_EL s.vm h0 vj1368 hj1368) (Zj1368 : n0 ≤ hj1368.size) (Kj1368 : Keep h0 hj1368 []) (Sj1366 : StrIs Z hj1368 m1240 es) (Oj1367 : Old Z n0 hj1368), GoOn p e below (Tj1368.setTop (mkF m 543 #[.val (.int p0), .val (.int p1), .val (.int p2), .val (.int p3), .val (.int p4), .val (.int p5), .val (.int (Int32.ofNat FL)), .val (.int (Int32.ofNat PL)), .val (.int c0), .val (.int c1), .val (.int c2), .val (.int c3), .val (.ref sa1227), .val (.ref sa1233), .val (.ref m1240), .val (.long lv), .second, .val (.int (Int32.ofNat SG)), .val (.long (Int64.ofNat N)), .second, .val (.int (Int32.ofNat dN)), .val (.int ln), .val (.int (1 : Int32)), .val (.int (Int32.ofNat (FL + 1 + SG + dN)))] [])) (PostH Z own_EL s (QLaw h0 n0) 64 9088) := by
              intro vj1368 kj1368 Tj1368 lj1368 hj1368  Xj1368 ej1368 Nj1368 hZj1368 hownj1368 hSj1368 hkj1368 Cj1368 Zj1368 Kj1368 Sj1366 Oj1367 
              refine GoOn.step (fun tq kq => XS.iload Xj1368.here hx rfl (hb hby at_543) rfl kq) ?_
              refine GoOn.step (fun tq kq => XS.iconst Xj1368.here hx rfl (hb hby at_545) kq) ?_
              show GoOn p e below (Tj1368.setTop (mkF m 546 #[.val (.int p0), .val (.int p1), .val (.int p2), .val (.int p3), .val (.int p4), .val (.int p5), .val (.int (Int32.ofNat FL)), .val (.int (Int32.ofNat PL)), .val (.int c0), .val (.int c1), .val (.int c2), .val (.int c3), .val (.ref sa1227), .val (.ref sa1233), .val (.ref m1240), .val (.long lv), .second, .val (.int (Int32.ofNat SG)), .val (.long (Int64.ofNat N)), .second, .val (.int (Int32.ofNat dN)), .val (.int ln), .val (.int (1 : Int32)), .val (.int (Int32.ofNat (FL + 1 + SG + dN)))] [(.int (2 : Int32)), (.int (Int32.ofNat PL))])) _
              have J1369 : ∀ (vj1372 : Vm) (kj1372 : Nat) (Tj1372 : State) (lj1372 : List Loc) (hj1372 : Heap)  (Xj1372 : Stand p l e room_1 (s.setVm vj1372) m #[(.int p0), (.int p1), (.int p2), (.int p3), (.int p4), (.int p5)] below meth c Tj1372 lj1372 33 3024) (ej1372 : Tj1372.heap = hj1372) (Nj1372 : Fr n0 lj1372) (hZj1372 : Z.Warmed39 (s.setVm vj1372).vm) (hownj1372 : (s.setVm vj1372).vm.findClass "com/example/faktorwerk/faktorwerk/model/InputRefusedExceptionAtLinePinLaw" = some m.cls) (hSj1372 : s.Since vj1372 kj1372) (hkj1372 : kj1372 ≤ hj1372.size) (Cj1372 : CHr Z own_EL s.vm h0 vj1372 hj1372) (Zj1372 : n0 ≤ hj1372.size) (Kj1372 : Keep h0 hj1372 []) (Sj1370 : StrIs Z hj1372 m1240 es) (Oj1371 : Old Z n0 hj1372), GoOn p e below (Tj1372.setTop (mkF m 575 #[.val (.int p0), .val (.int p1), .val (.int p2), .val (.int p3), .val (.int p4), .val (.int p5), .val (.int (Int32.ofNat FL)), .val (.int (Int32.ofNat PL)), .val (.int c0), .val (.int c1), .val (.int c2), .val (.int c3), .val (.ref sa1227), .val (.ref sa1233), .val (.ref m1240), .val (.long lv), .second, .val (.int (Int32.ofNat SG)), .val (.long (Int64.ofNat N)), .second, .val (.int (Int32.ofNat dN)), .val (.int ln), .val (.int (1 : Int32)), .val (.int (Int32.ofNat (FL + 1 + SG + dN)))] [])) (PostH Z own_EL s (QLaw h0 n0) 64 9088) := by
                intro vj1372 kj1372 Tj1372 lj1372 hj1372  Xj1372 ej1372 Nj1372 hZj1372 hownj1372 hSj1372 hkj1372 Cj1372 Zj1372 Kj1372 Sj1370 Oj1371 
                refine GoOn.step (fun tq kq => XS.iload Xj1372.here hx rfl (hb hby at_575) rfl kq) ?_
                show GoOn p e below (Tj1372.setTop (mkF m 577 #[.val (.int p0), .val (.int p1), .val (.int p2), .val (.int p3), .val (.int p4), .val (.int p5), .val (.int (Int32.ofNat FL)), .val (.int (Int32.ofNat PL)), .val (.int c0), .val (.int c1), .val (.int c2), .val (.int c3), .val (.ref sa1227), .val (.ref sa1233), .val (.ref m1240), .val (.long lv), .second, .val (.int (Int32.ofNat SG)), .val (.long (Int64.ofNat N)), .second, .val (.int (Int32.ofNat dN)), .val (.int ln), .val (.int (1 : Int32)), .val (.int (Int32.ofNat (FL + 1 + SG + dN)))] [(.int (1 : Int32))])) _
                refine GoOn.retH Xj1372 hZj1372 hSj1372 (hkj1372) hEL hh ej1372 Cj1372 Bd.notSynchronized (v := some (.int (nar .boolean (1 : Int32)))) (fun h => by rw [Bd.returns] at h; cases h) (fun fs hr => retN Xj1372 hx (t := .boolean) Bd.returns (by simp) (hb hby at_577) hr) (by decide) (by decide) ?_
                exact ⟨rfl, Nj1372⟩
              by_cases hc1373 : 2 ≤ PL
              · skip
                refine GoOn.step (fun tq kq => XS.icmpNo Xj1368.here hx rfl (hb hby at_546) rfl (flt (own_nle32 (a := 2) hc1373 (by omega))).1 kq) ?_
                refine GoOn.step (fun tq kq => XS.iload Xj1368.here hx rfl (hb hby at_549) rfl kq) ?_
                refine GoOn.step (fun tq kq => XS.ifNo Xj1368.here hx rfl (hb hby at_551) rfl ((if0 _ _).trans (feq (by decide)).1) kq) ?_
                refine GoOn.step (fun tq kq => XS.aload Xj1368.here hx rfl (hb hby at_554) rfl rfl kq) ?_
                refine GoOn.step (fun tq kq => XS.iload Xj1368.here hx rfl (hb hby at_556) rfl kq) ?_
                refine GoOn.step (fun tq kq => XS.iconst Xj1368.here hx rfl (hb hby at_558) kq) ?_
                refine GoOn.step (fun tq kq => XS.iadd Xj1368.here hx rfl (hb hby at_559) rfl kq) ?_
                show GoOn p e below (Tj1368.setTop (mkF m 560 #[.val (.int p0), .val (.int p1), .val (.int p2), .val (.int p3), .val (.int p4), .val (.int p5), .val (.int (Int32.ofNat FL)), .val (.int (Int32.ofNat PL)), .val (.int c0), .val (.int c1), .val (.int c2), .val (.int c3), .val (.ref sa1227), .val (.ref sa1233), .val (.ref m1240), .val (.long lv), .second, .val (.int (Int32.ofNat SG)), .val (.long (Int64.ofNat N)), .second, .val (.int (Int32.ofNat dN)), .val (.int ln), .val (.int (1 : Int32)), .val (.int (Int32.ofNat (FL + 1 + SG + dN)))] [(.int ((Int32.ofNat (FL + 1 + SG + dN)) + (3 : Int32))), (.ref m1240)])) _
                rw [own_add3]
                show GoOn p e below (Tj1368.setTop (mkF m 560 #[.val (.int p0), .val (.int p1), .val (.int p2), .val (.int p3), .val (.int p4), .val (.int p5), .val (.int (Int32.ofNat FL)), .val (.int (Int32.ofNat PL)), .val (.int c0), .val (.int c1), .val (.int c2), .val (.int c3), .val (.ref sa1227), .val (.ref sa1233), .val (.ref m1240), .val (.long lv), .second, .val (.int (Int32.ofNat SG)), .val (.long (Int64.ofNat N)), .second, .val (.int (Int32.ofNat dN)), .val (.int ln), .val (.int (1 : Int32)), .val (.int (Int32.ofNat (FL + 1 + SG + dN)))] [(.int (Int32.ofNat (FL + 1 + SG + dN + 3))), (.ref m1240)])) _
                obtain ⟨cqc1375, kqc1375, qac1375, qbc1375, qcc1375⟩ := isOf hZj1368 ej1368 Sj1366.1
                obtain ⟨_, _, ⟨T1374, L1374, k1374, n1374⟩, -, X1374, ⟨Lc1374, hQ1374, l1374, y1374, z1374⟩, st1374⟩ := Xj1368.virtualBack hx (y := (⟨"java/lang/String", "charAt", "(I)C"⟩ : MethodName)) (z := (⟨"java/lang/String", "charAt", "(I)C"⟩ : MethodName)) hownj1368 (mvT hZj1368 (hw _ (List.mem_of_getElem? (i := 225) rfl))) (mvT hZj1368 (hw _ (List.mem_of_getElem? (i := 226) rfl))) (notFace_of_selects (args := #[]) (mvT hZj1368 (hw _ (List.mem_of_getElem? (i := 228) rfl)))) (mvT hZj1368 (hw _ (List.mem_of_getElem? (i := 228) rfl))) (mvT hZj1368 (hw _ (List.mem_of_getElem? (i := 227) rfl))) (by decide) (own_chS (n0 := n0) (W := 0) hZj1368 hch (kI := 4) (hw _ (List.mem_of_getElem? (i := 5) rfl)) Sj1366 (SC.ext Oj1367.2) PC (SF.ext Oj1367.2) rG3 (FL + 1 + SG + dN + 3) (by omega) rfl (by decide) (by decide)) qac1375 qcc1375 (g := (mkF m 560 #[.val (.int p0), .val (.int p1), .val (.int p2), .val (.int p3), .val (.int p4), .val (.int p5), .val (.int (Int32.ofNat FL)), .val (.int (Int32.ofNat PL)), .val (.int c0), .val (.int c1), .val (.int c2), .val (.int c3), .val (.ref sa1227), .val (.ref sa1233), .val (.ref m1240), .val (.long lv), .second, .val (.int (Int32.ofNat SG)), .val (.long (Int64.ofNat N)), .second, .val (.int (Int32.ofNat dN)), .val (.int ln), .val (.int (1 : Int32)), .val (.int (Int32.ofNat (FL + 1 + SG + dN)))] [(.int (Int32.ofNat (FL + 1 + SG + dN + 3))), (.ref m1240)])) rfl (by rw [hml]; rfl) (Steps.refl _) (argsL := [(.int (Int32.ofNat (FL + 1 + SG + dN + 3)))]) (rest := []) (lenOf own_pd620 rfl) rfl (by show 2 * 0 + _ ≤ _; exact Nat.le_of_eq rfl) (hb hby at_560) (fun _ _ => ⟨rfl, ej1368, (by decide : 33 + 0 ≤ _), (by decide : 3024 + 0 ≤ _)⟩)
                dsimp only [Pt.U, Pt.locs, Pt.cells, Pt.slots] at X1374 l1374 y1374 z1374 st1374 hQ1374
                subst l1374 y1374 z1374
                obtain ⟨rfl, N1374, e1374⟩ := hQ1374
                refine GoOn.trans st1374 ?_
                have N1376 := Fr.app Nj1368 N1374
                refine GoOn.step (fun tq kq => XS.iload X1374.here hx rfl (hb hby at_563) rfl kq) ?_
                refine GoOn.step (fun tq kq => XS.icmpNo X1374.here hx rfl (hb hby at_565) rfl (teq ((he8 1 hc1373).trans (hmP.2.2 hc1373))).2 kq) ?_
                refine GoOn.step (fun tq kq => XS.iconst X1374.here hx rfl (hb hby at_568) kq) ?_
                refine GoOn.step (fun tq kq => XS.goto X1374.here hx rfl (pc0 := 569) (pc' := 573) rfl (hb hby at_569) (by decide) (by decide) kq) ?_
                refine GoOn.step (fun tq kq => XS.istore X1374.here hx rfl (hb hby at_573) rfl (l' := #[.val (.int p0), .val (.int p1), .val (.int p2), .val (.int p3), .val (.int p4), .val (.int p5), .val (.int (Int32.ofNat FL)), .val (.int (Int32.ofNat PL)), .val (.int c0), .val (.int c1), .val (.int c2), .val (.int c3), .val (.ref sa1227), .val (.ref sa1233), .val (.ref m1240), .val (.long lv), .second, .val (.int (Int32.ofNat SG)), .val (.long (Int64.ofNat N)), .second, .val (.int (Int32.ofNat dN)), .val (.int ln), .val (.int (1 : Int32)), .val (.int (Int32.ofNat (FL + 1 + SG + dN)))]) rfl kq) ?_
                show GoOn p e below (T1374.setTop (mkF m 575 #[.val (.int p0), .val (.int p1), .val (.int p2), .val (.int p3), .val (.int p4), .val (.int p5), .val (.int (Int32.ofNat FL)), .val (.int (Int32.ofNat PL)), .val (.int c0), .val (.int c1), .val (.int c2), .val (.int c3), .val (.ref sa1227), .val (.ref sa1233), .val (.ref m1240), .val (.long lv), .second, .val (.int (Int32.ofNat SG)), .val (.long (Int64.ofNat N)), .second, .val (.int (Int32.ofNat dN)), .val (.int ln), .val (.int (1 : Int32)), .val (.int (Int32.ofNat (FL + 1 + SG + dN)))] [])) _
                exact J1369 _ _ _ _ _  (X1374.more (by decide) (by decide)) e1374 N1376 hZj1368 hownj1368 hSj1368 hkj1368 Cj1368 Zj1368 Kj1368 Sj1366 Oj1367 
              · skip
                refine GoOn.step (fun tq kq => XS.icmpYes Xj1368.here hx rfl (pc0 := 546) (pc' := 575) rfl (hb hby at_546) rfl (tlt (own_lt32 (b := 2) (Nat.lt_of_not_le hc1373) (by decide))).1 (by decide) (by decide) kq) ?_
                show GoOn p e below (Tj1368.setTop (mkF m 575 #[.val (.int p0), .val (.int p1), .val (.int p2), .val (.int p3), .val (.int p4), .val (.int p5), .val (.int (Int32.ofNat FL)), .val (.int (Int32.ofNat PL)), .val (.int c0), .val (.int c1), .val (.int c2), .val (.int c3), .val (.ref sa1227), .val (.ref sa1233), .val (.ref m1240), .val (.long lv), .second, .val (.int (Int32.ofNat SG)), .val (.long (Int64.ofNat N)), .second, .val (.int (Int32.ofNat dN)), .val (.int ln), .val (.int (1 : Int32)), .val (.int (Int32.ofNat (FL + 1 + SG + dN)))] [])) _
                exact J1369 _ _ _ _ _  (Xj1368.more (by decide) (by decide)) ej1368 Nj1368 hZj1368 hownj1368 hSj1368 hkj1368 Cj1368 Zj1368 Kj1368 Sj1366 Oj1367 
            by_cases hc1377 : 1 ≤ PL
            · skip
              refine GoOn.step (fun tq kq => XS.icmpNo X1362.here hx rfl (hb hby at_514) rfl (flt (own_nle32 (a := 1) hc1377 (by omega))).1 kq) ?_
              refine GoOn.step (fun tq kq => XS.iload X1362.here hx rfl (hb hby at_517) rfl kq) ?_
              refine GoOn.step (fun tq kq => XS.ifNo X1362.here hx rfl (hb hby at_519) rfl ((if0 _ _).trans (feq (by decide)).1) kq) ?_
              refine GoOn.step (fun tq kq => XS.aload X1362.here hx rfl (hb hby at_522) rfl rfl kq) ?_
              refine GoOn.step (fun tq kq => XS.iload X1362.here hx rfl (hb hby at_524) rfl kq) ?_
              refine GoOn.step (fun tq kq => XS.iconst X1362.here hx rfl (hb hby at_526) kq) ?_
              refine GoOn.step (fun tq kq => XS.iadd X1362.here hx rfl (hb hby at_527) rfl kq) ?_
              show GoOn p e below (T1362.setTop (mkF m 528 #[.val (.int p0), .val (.int p1), .val (.int p2), .val (.int p3), .val (.int p4), .val (.int p5), .val (.int (Int32.ofNat FL)), .val (.int (Int32.ofNat PL)), .val (.int c0), .val (.int c1), .val (.int c2), .val (.int c3), .val (.ref sa1227), .val (.ref sa1233), .val (.ref m1240), .val (.long lv), .second, .val (.int (Int32.ofNat SG)), .val (.long (Int64.ofNat N)), .second, .val (.int (Int32.ofNat dN)), .val (.int ln), .val (.int (1 : Int32)), .val (.int (Int32.ofNat (FL + 1 + SG + dN)))] [(.int ((Int32.ofNat (FL + 1 + SG + dN)) + (2 : Int32))), (.ref m1240)])) _
              rw [own_add2]
              show GoOn p e below (T1362.setTop (mkF m 528 #[.val (.int p0), .val (.int p1), .val (.int p2), .val (.int p3), .val (.int p4), .val (.int p5), .val (.int (Int32.ofNat FL)), .val (.int (Int32.ofNat PL)), .val (.int c0), .val (.int c1), .val (.int c2), .val (.int c3), .val (.ref sa1227), .val (.ref sa1233), .val (.ref m1240), .val (.long lv), .second, .val (.int (Int32.ofNat SG)), .val (.long (Int64.ofNat N)), .second, .val (.int (Int32.ofNat dN)), .val (.int ln), .val (.int (1 : Int32)), .val (.int (Int32.ofNat (FL + 1 + SG + dN)))] [(.int (Int32.ofNat (FL + 1 + SG + dN + 2))), (.ref m1240)])) _
              obtain ⟨cqc1379, kqc1379, qac1379, qbc1379, qcc1379⟩ := isOf hZj1278 e1362 Sr1355.1
              obtain ⟨_, _, ⟨T1378, L1378, k1378, n1378⟩, -, X1378, ⟨Lc1378, hQ1378, l1378, y1378, z1378⟩, st1378⟩ := X1362.virtualBack hx (y := (⟨"java/lang/String", "charAt", "(I)C"⟩ : MethodName)) (z := (⟨"java/lang/String", "charAt", "(I)C"⟩ : MethodName)) hownj1278 (mvT hZj1278 (hw _ (List.mem_of_getElem? (i := 225) rfl))) (mvT hZj1278 (hw _ (List.mem_of_getElem? (i := 226) rfl))) (notFace_of_selects (args := #[]) (mvT hZj1278 (hw _ (List.mem_of_getElem? (i := 228) rfl)))) (mvT hZj1278 (hw _ (List.mem_of_getElem? (i := 228) rfl))) (mvT hZj1278 (hw _ (List.mem_of_getElem? (i := 227) rfl))) (by decide) (own_chS (n0 := n0) (W := 0) hZj1278 hch (kI := 4) (hw _ (List.mem_of_getElem? (i := 5) rfl)) Sr1355 (SC.ext O1356.2) PC (SF.ext O1356.2) rG3 (FL + 1 + SG + dN + 2) (by omega) rfl (by decide) (by decide)) qac1379 qcc1379 (g := (mkF m 528 #[.val (.int p0), .val (.int p1), .val (.int p2), .val (.int p3), .val (.int p4), .val (.int p5), .val (.int (Int32.ofNat FL)), .val (.int (Int32.ofNat PL)), .val (.int c0), .val (.int c1), .val (.int c2), .val (.int c3), .val (.ref sa1227), .val (.ref sa1233), .val (.ref m1240), .val (.long lv), .second, .val (.int (Int32.ofNat SG)), .val (.long (Int64.ofNat N)), .second, .val (.int (Int32.ofNat dN)), .val (.int ln), .val (.int (1 : Int32)), .val (.int (Int32.ofNat (FL + 1 + SG + dN)))] [(.int (Int32.ofNat (FL + 1 + SG + dN + 2))), (.ref m1240)])) rfl (by rw [hml]; rfl) (Steps.refl _) (argsL := [(.int (Int32.ofNat (FL + 1 + SG + dN + 2)))]) (rest := []) (lenOf own_pd620 rfl) rfl (by show 2 * 0 + _ ≤ _; exact Nat.le_of_eq rfl) (hb hby at_528) (fun _ _ => ⟨rfl, e1362, (by decide : 33 + 0 ≤ _), (by decide : 3024 + 0 ≤ _)⟩)
              dsimp only [Pt.U, Pt.locs, Pt.cells, Pt.slots] at X1378 l1378 y1378 z1378 st1378 hQ1378
              subst l1378 y1378 z1378
              obtain ⟨rfl, N1378, e1378⟩ := hQ1378
              refine GoOn.trans st1378 ?_
              have N1380 := Fr.app N1364 N1378
              refine GoOn.step (fun tq kq => XS.iload X1378.here hx rfl (hb hby at_531) rfl kq) ?_
              refine GoOn.step (fun tq kq => XS.icmpNo X1378.here hx rfl (hb hby at_533) rfl (teq ((he8 0 hc1377).trans (hmP.2.1 hc1377))).2 kq) ?_
              refine GoOn.step (fun tq kq => XS.iconst X1378.here hx rfl (hb hby at_536) kq) ?_
              refine GoOn.step (fun tq kq => XS.goto X1378.here hx rfl (pc0 := 537) (pc' := 541) rfl (hb hby at_537) (by decide) (by decide) kq) ?_
              refine GoOn.step (fun tq kq => XS.istore X1378.here hx rfl (hb hby at_541) rfl (l' := #[.val (.int p0), .val (.int p1), .val (.int p2), .val (.int p3), .val (.int p4), .val (.int p5), .val (.int (Int32.ofNat FL)), .val (.int (Int32.ofNat PL)), .val (.int c0), .val (.int c1), .val (.int c2), .val (.int c3), .val (.ref sa1227), .val (.ref sa1233), .val (.ref m1240), .val (.long lv), .second, .val (.int (Int32.ofNat SG)), .val (.long (Int64.ofNat N)), .second, .val (.int (Int32.ofNat dN)), .val (.int ln), .val (.int (1 : Int32)), .val (.int (Int32.ofNat (FL + 1 + SG + dN)))]) rfl kq) ?_
              show GoOn p e below (T1378.setTop (mkF m 543 #[.val (.int p0), .val (.int p1), .val (.int p2), .val (.int p3), .val (.int p4), .val (.int p5), .val (.int (Int32.ofNat FL)), .val (.int (Int32.ofNat PL)), .val (.int c0), .val (.int c1), .val (.int c2), .val (.int c3), .val (.ref sa1227), .val (.ref sa1233), .val (.ref m1240), .val (.long lv), .second, .val (.int (Int32.ofNat SG)), .val (.long (Int64.ofNat N)), .second, .val (.int (Int32.ofNat dN)), .val (.int ln), .val (.int (1 : Int32)), .val (.int (Int32.ofNat (FL + 1 + SG + dN)))] [])) _
              exact J1365 _ _ _ _ _  (X1378.more (by decide) (by decide)) e1378 N1380 hZj1278 hownj1278 hSj1278 hk1358 C1357 Z1353 K1354 Sr1355 O1356 
            · skip
              refine GoOn.step (fun tq kq => XS.icmpYes X1362.here hx rfl (pc0 := 514) (pc' := 543) rfl (hb hby at_514) rfl (tlt (own_lt32 (b := 1) (Nat.lt_of_not_le hc1377) (by decide))).1 (by decide) (by decide) kq) ?_
              show GoOn p e below (T1362.setTop (mkF m 543 #[.val (.int p0), .val (.int p1), .val (.int p2), .val (.int p3), .val (.int p4), .val (.int p5), .val (.int (Int32.ofNat FL)), .val (.int (Int32.ofNat PL)), .val (.int c0), .val (.int c1), .val (.int c2), .val (.int c3), .val (.ref sa1227), .val (.ref sa1233), .val (.ref m1240), .val (.long lv), .second, .val (.int (Int32.ofNat SG)), .val (.long (Int64.ofNat N)), .second, .val (.int (Int32.ofNat dN)), .val (.int ln), .val (.int (1 : Int32)), .val (.int (Int32.ofNat (FL + 1 + SG + dN)))] [])) _
              exact J1365 _ _ _ _ _  (X1362.more (by decide) (by decide)) e1362 N1364 hZj1278 hownj1278 hSj1278 hk1358 C1357 Z1353 K1354 Sr1355 O1356 
          by_cases hc1381 : SG = 0
          · skip
            subst hc1381
            refine GoOn.step (fun tq kq => XS.ifYes X1272.here hx rfl (pc0 := 267) (pc' := 300) rfl (hb hby at_267) rfl ((if0 _ _).trans (teq (by decide)).1) (by decide) (by decide) kq) ?_
            show GoOn p e below (T1272.setTop (mkF m 300 #[.val (.int p0), .val (.int p1), .val (.int p2), .val (.int p3), .val (.int p4), .val (.int p5), .val (.int (Int32.ofNat FL)), .val (.int (Int32.ofNat PL)), .val (.int c0), .val (.int c1), .val (.int c2), .val (.int c3), .val (.ref sa1227), .val (.ref sa1233), .val (.ref m1240), .val (.long lv), .second, .val (.int (Int32.ofNat 0)), .val (.long (Int64.ofNat N)), .second, .val (.int (Int32.ofNat dN)), .val (.int ln), .val (.int (1 : Int32)), .val (.int (Int32.ofNat (FL + 1)))] [])) _
            exact J1275 _ _ _ _ _  (X1272.more (by decide) (by decide)) e1272 N1274 hZj1271 hownj1271 hSj1271 hkj1271 Cj1271 Zj1271 Kj1271 Sj1269 Oj1270 
          · skip
            obtain rfl : SG = 1 := by omega
            refine GoOn.step (fun tq kq => XS.ifNo X1272.here hx rfl (hb hby at_267) rfl ((if0 _ _).trans (feq (by decide)).1) kq) ?_
            refine GoOn.step (fun tq kq => XS.iload X1272.here hx rfl (hb hby at_270) rfl kq) ?_
            refine GoOn.step (fun tq kq => XS.ifNo X1272.here hx rfl (hb hby at_272) rfl ((if0 _ _).trans (feq (by decide)).1) kq) ?_
            refine GoOn.step (fun tq kq => XS.aload X1272.here hx rfl (hb hby at_275) rfl rfl kq) ?_
            refine GoOn.step (fun tq kq => XS.iload X1272.here hx rfl (hb hby at_277) rfl kq) ?_
            show GoOn p e below (T1272.setTop (mkF m 279 #[.val (.int p0), .val (.int p1), .val (.int p2), .val (.int p3), .val (.int p4), .val (.int p5), .val (.int (Int32.ofNat FL)), .val (.int (Int32.ofNat PL)), .val (.int c0), .val (.int c1), .val (.int c2), .val (.int c3), .val (.ref sa1227), .val (.ref sa1233), .val (.ref m1240), .val (.long lv), .second, .val (.int (Int32.ofNat 1)), .val (.long (Int64.ofNat N)), .second, .val (.int (Int32.ofNat dN)), .val (.int ln), .val (.int (1 : Int32)), .val (.int (Int32.ofNat (FL + 1)))] [(.int (Int32.ofNat (FL + 1))), (.ref m1240)])) _
            obtain ⟨cqc1383, kqc1383, qac1383, qbc1383, qcc1383⟩ := isOf hZj1271 e1272 Sj1269.1
            obtain ⟨_, _, ⟨T1382, L1382, k1382, n1382⟩, -, X1382, ⟨Lc1382, hQ1382, l1382, y1382, z1382⟩, st1382⟩ := X1272.virtualBack hx (y := (⟨"java/lang/String", "charAt", "(I)C"⟩ : MethodName)) (z := (⟨"java/lang/String", "charAt", "(I)C"⟩ : MethodName)) hownj1271 (mvT hZj1271 (hw _ (List.mem_of_getElem? (i := 225) rfl))) (mvT hZj1271 (hw _ (List.mem_of_getElem? (i := 226) rfl))) (notFace_of_selects (args := #[]) (mvT hZj1271 (hw _ (List.mem_of_getElem? (i := 228) rfl)))) (mvT hZj1271 (hw _ (List.mem_of_getElem? (i := 228) rfl))) (mvT hZj1271 (hw _ (List.mem_of_getElem? (i := 227) rfl))) (by decide) (own_chS (n0 := n0) (W := 0) hZj1271 hch (kI := 4) (hw _ (List.mem_of_getElem? (i := 5) rfl)) Sj1269 (SC.ext Oj1270.2) PC (SF.ext Oj1270.2) rG3 (FL + 1) (by omega) rfl (by decide) (by decide)) qac1383 qcc1383 (g := (mkF m 279 #[.val (.int p0), .val (.int p1), .val (.int p2), .val (.int p3), .val (.int p4), .val (.int p5), .val (.int (Int32.ofNat FL)), .val (.int (Int32.ofNat PL)), .val (.int c0), .val (.int c1), .val (.int c2), .val (.int c3), .val (.ref sa1227), .val (.ref sa1233), .val (.ref m1240), .val (.long lv), .second, .val (.int (Int32.ofNat 1)), .val (.long (Int64.ofNat N)), .second, .val (.int (Int32.ofNat dN)), .val (.int ln), .val (.int (1 : Int32)), .val (.int (Int32.ofNat (FL + 1)))] [(.int (Int32.ofNat (FL + 1))), (.ref m1240)])) rfl (by rw [hml]; rfl) (Steps.refl _) (argsL := [(.int (Int32.ofNat (FL + 1)))]) (rest := []) (lenOf own_pd620 rfl) rfl (by show 2 * 0 + _ ≤ _; exact Nat.le_of_eq rfl) (hb hby at_279) (fun _ _ => ⟨rfl, e1272, (by decide : 23 + 0 ≤ _), (by decide : 2924 + 0 ≤ _)⟩)
            dsimp only [Pt.U, Pt.locs, Pt.cells, Pt.slots] at X1382 l1382 y1382 z1382 st1382 hQ1382
            subst l1382 y1382 z1382
            obtain ⟨rfl, N1382, e1382⟩ := hQ1382
            refine GoOn.trans st1382 ?_
            have N1384 := Fr.app N1274 N1382
            refine GoOn.step (fun tq kq => XS.bipush X1382.here hx rfl (hb hby at_282) kq) ?_
            refine GoOn.step (fun tq kq => XS.icmpNo X1382.here hx rfl (hb hby at_284) rfl (teq (he4 (own_sgn1 hsg))).2 kq) ?_
            refine GoOn.step (fun tq kq => XS.iconst X1382.here hx rfl (hb hby at_287) kq) ?_
            refine GoOn.step (fun tq kq => XS.goto X1382.here hx rfl (pc0 := 288) (pc' := 292) rfl (hb hby at_288) (by decide) (by decide) kq) ?_
            refine GoOn.step (fun tq kq => XS.istore X1382.here hx rfl (hb hby at_292) rfl (l' := #[.val (.int p0), .val (.int p1), .val (.int p2), .val (.int p3), .val (.int p4), .val (.int p5), .val (.int (Int32.ofNat FL)), .val (.int (Int32.ofNat PL)), .val (.int c0), .val (.int c1), .val (.int c2), .val (.int c3), .val (.ref sa1227), .val (.ref sa1233), .val (.ref m1240), .val (.long lv), .second, .val (.int (Int32.ofNat 1)), .val (.long (Int64.ofNat N)), .second, .val (.int (Int32.ofNat dN)), .val (.int ln), .val (.int (1 : Int32)), .val (.int (Int32.ofNat (FL + 1)))]) rfl kq) ?_
            refine GoOn.step (fun tq kq => XS.iload X1382.here hx rfl (hb hby at_294) rfl kq) ?_
            refine GoOn.step (fun tq kq => XS.iconst X1382.here hx rfl (hb hby at_296) kq) ?_
            refine GoOn.step (fun tq kq => XS.iadd X1382.here hx rfl (hb hby at_297) rfl kq) ?_
            show GoOn p e below (T1382.setTop (mkF m 298 #[.val (.int p0), .val (.int p1), .val (.int p2), .val (.int p3), .val (.int p4), .val (.int p5), .val (.int (Int32.ofNat FL)), .val (.int (Int32.ofNat PL)), .val (.int c0), .val (.int c1), .val (.int c2), .val (.int c3), .val (.ref sa1227), .val (.ref sa1233), .val (.ref m1240), .val (.long lv), .second, .val (.int (Int32.ofNat 1)), .val (.long (Int64.ofNat N)), .second, .val (.int (Int32.ofNat dN)), .val (.int ln), .val (.int (1 : Int32)), .val (.int (Int32.ofNat (FL + 1)))] [(.int ((Int32.ofNat (FL + 1)) + (1 : Int32)))])) _
            rw [own_add1]
            refine GoOn.step (fun tq kq => XS.istore X1382.here hx rfl (hb hby at_298) rfl (l' := #[.val (.int p0), .val (.int p1), .val (.int p2), .val (.int p3), .val (.int p4), .val (.int p5), .val (.int (Int32.ofNat FL)), .val (.int (Int32.ofNat PL)), .val (.int c0), .val (.int c1), .val (.int c2), .val (.int c3), .val (.ref sa1227), .val (.ref sa1233), .val (.ref m1240), .val (.long lv), .second, .val (.int (Int32.ofNat 1)), .val (.long (Int64.ofNat N)), .second, .val (.int (Int32.ofNat dN)), .val (.int ln), .val (.int (1 : Int32)), .val (.int (Int32.ofNat (FL + 1 + 1)))]) rfl kq) ?_
            show GoOn p e below (T1382.setTop (mkF m 300 #[.val (.int p0), .val (.int p1), .val (.int p2), .val (.int p3), .val (.int p4), .val (.int p5), .val (.int (Int32.ofNat FL)), .val (.int (Int32.ofNat PL)), .val (.int c0), .val (.int c1), .val (.int c2), .val (.int c3), .val (.ref sa1227), .val (.ref sa1233), .val (.ref m1240), .val (.long lv), .second, .val (.int (Int32.ofNat 1)), .val (.long (Int64.ofNat N)), .second, .val (.int (Int32.ofNat dN)), .val (.int ln), .val (.int (1 : Int32)), .val (.int (Int32.ofNat (FL + 1 + 1)))] [])) _
            exact J1275 _ _ _ _ _  (X1382.more (by decide) (by decide)) e1382 N1384 hZj1271 hownj1271 hSj1271 hkj1271 Cj1271 Zj1271 Kj1271 Sj1269 Oj1270 
        by_cases hc1385 : 2 ≤ FL
        · skip
          refine GoOn.step (fun tq kq => XS.icmpNo Xj1267.here hx rfl (hb hby at_205) rfl (flt (own_nle32 (a := 2) hc1385 (by omega))).1 kq) ?_
          refine GoOn.step (fun tq kq => XS.iload Xj1267.here hx rfl (hb hby at_208) rfl kq) ?_
          refine GoOn.step (fun tq kq => XS.ifNo Xj1267.here hx rfl (hb hby at_210) rfl ((if0 _ _).trans (feq (by decide)).1) kq) ?_
          refine GoOn.step (fun tq kq => XS.aload Xj1267.here hx rfl (hb hby at_213) rfl rfl kq) ?_
          refine GoOn.step (fun tq kq => XS.iconst Xj1267.here hx rfl (hb hby at_215) kq) ?_
          show GoOn p e below (Tj1267.setTop (mkF m 216 #[.val (.int p0), .val (.int p1), .val (.int p2), .val (.int p3), .val (.int p4), .val (.int p5), .val (.int (Int32.ofNat FL)), .val (.int (Int32.ofNat PL)), .val (.int c0), .val (.int c1), .val (.int c2), .val (.int c3), .val (.ref sa1227), .val (.ref sa1233), .val (.ref m1240), .val (.long lv), .second, .val (.int (Int32.ofNat SG)), .val (.long (Int64.ofNat N)), .second, .val (.int (Int32.ofNat dN)), .val (.int ln), .val (.int (1 : Int32)), .unset] [(.int (1 : Int32)), (.ref m1240)])) _
          obtain ⟨cqc1387, kqc1387, qac1387, qbc1387, qcc1387⟩ := isOf hZj1267 ej1267 Sj1265.1
          obtain ⟨_, _, ⟨T1386, L1386, k1386, n1386⟩, -, X1386, ⟨Lc1386, hQ1386, l1386, y1386, z1386⟩, st1386⟩ := Xj1267.virtualBack hx (y := (⟨"java/lang/String", "charAt", "(I)C"⟩ : MethodName)) (z := (⟨"java/lang/String", "charAt", "(I)C"⟩ : MethodName)) hownj1267 (mvT hZj1267 (hw _ (List.mem_of_getElem? (i := 225) rfl))) (mvT hZj1267 (hw _ (List.mem_of_getElem? (i := 226) rfl))) (notFace_of_selects (args := #[]) (mvT hZj1267 (hw _ (List.mem_of_getElem? (i := 228) rfl)))) (mvT hZj1267 (hw _ (List.mem_of_getElem? (i := 228) rfl))) (mvT hZj1267 (hw _ (List.mem_of_getElem? (i := 227) rfl))) (by decide) (own_chS (n0 := n0) (W := 0) hZj1267 hch (kI := 4) (hw _ (List.mem_of_getElem? (i := 5) rfl)) Sj1265 (SC.ext Oj1266.2) PC (SF.ext Oj1266.2) rG3 (1) (by omega) rfl (by decide) (by decide)) qac1387 qcc1387 (g := (mkF m 216 #[.val (.int p0), .val (.int p1), .val (.int p2), .val (.int p3), .val (.int p4), .val (.int p5), .val (.int (Int32.ofNat FL)), .val (.int (Int32.ofNat PL)), .val (.int c0), .val (.int c1), .val (.int c2), .val (.int c3), .val (.ref sa1227), .val (.ref sa1233), .val (.ref m1240), .val (.long lv), .second, .val (.int (Int32.ofNat SG)), .val (.long (Int64.ofNat N)), .second, .val (.int (Int32.ofNat dN)), .val (.int ln), .val (.int (1 : Int32)), .unset] [(.int (1 : Int32)), (.ref m1240)])) rfl (by rw [hml]; rfl) (Steps.refl _) (argsL := [(.int (1 : Int32))]) (rest := []) (lenOf own_pd620 rfl) rfl (by show 2 * 0 + _ ≤ _; exact Nat.le_of_eq rfl) (hb hby at_216) (fun _ _ => ⟨rfl, ej1267, (by decide : 23 + 0 ≤ _), (by decide : 2924 + 0 ≤ _)⟩)
          dsimp only [Pt.U, Pt.locs, Pt.cells, Pt.slots] at X1386 l1386 y1386 z1386 st1386 hQ1386
          subst l1386 y1386 z1386
          obtain ⟨rfl, N1386, e1386⟩ := hQ1386
          refine GoOn.trans st1386 ?_
          have N1388 := Fr.app Nj1267 N1386
          refine GoOn.step (fun tq kq => XS.iload X1386.here hx rfl (hb hby at_219) rfl kq) ?_
          refine GoOn.step (fun tq kq => XS.icmpNo X1386.here hx rfl (hb hby at_221) rfl (teq ((he2 1 hc1385).trans (hmF.2.2 hc1385))).2 kq) ?_
          refine GoOn.step (fun tq kq => XS.iconst X1386.here hx rfl (hb hby at_224) kq) ?_
          refine GoOn.step (fun tq kq => XS.goto X1386.here hx rfl (pc0 := 225) (pc' := 229) rfl (hb hby at_225) (by decide) (by decide) kq) ?_
          refine GoOn.step (fun tq kq => XS.istore X1386.here hx rfl (hb hby at_229) rfl (l' := #[.val (.int p0), .val (.int p1), .val (.int p2), .val (.int p3), .val (.int p4), .val (.int p5), .val (.int (Int32.ofNat FL)), .val (.int (Int32.ofNat PL)), .val (.int c0), .val (.int c1), .val (.int c2), .val (.int c3), .val (.ref sa1227), .val (.ref sa1233), .val (.ref m1240), .val (.long lv), .second, .val (.int (Int32.ofNat SG)), .val (.long (Int64.ofNat N)), .second, .val (.int (Int32.ofNat dN)), .val (.int ln), .val (.int (1 : Int32)), .unset]) rfl kq) ?_
          show GoOn p e below (T1386.setTop (mkF m 231 #[.val (.int p0), .val (.int p1), .val (.int p2), .val (.int p3), .val (.int p4), .val (.int p5), .val (.int (Int32.ofNat FL)), .val (.int (Int32.ofNat PL)), .val (.int c0), .val (.int c1), .val (.int c2), .val (.int c3), .val (.ref sa1227), .val (.ref sa1233), .val (.ref m1240), .val (.long lv), .second, .val (.int (Int32.ofNat SG)), .val (.long (Int64.ofNat N)), .second, .val (.int (Int32.ofNat dN)), .val (.int ln), .val (.int (1 : Int32)), .unset] [])) _
          exact J1268 _ _ _ _ _  (X1386.more (by decide) (by decide)) e1386 N1388 hZj1267 hownj1267 hSj1267 hkj1267 Cj1267 Zj1267 Kj1267 Sj1265 Oj1266 
        · skip
          refine GoOn.step (fun tq kq => XS.icmpYes Xj1267.here hx rfl (pc0 := 205) (pc' := 231) rfl (hb hby at_205) rfl (tlt (own_lt32 (b := 2) (Nat.lt_of_not_le hc1385) (by decide))).1 (by decide) (by decide) kq) ?_
          show GoOn p e below (Tj1267.setTop (mkF m 231 #[.val (.int p0), .val (.int p1), .val (.int p2), .val (.int p3), .val (.int p4), .val (.int p5), .val (.int (Int32.ofNat FL)), .val (.int (Int32.ofNat PL)), .val (.int c0), .val (.int c1), .val (.int c2), .val (.int c3), .val (.ref sa1227), .val (.ref sa1233), .val (.ref m1240), .val (.long lv), .second, .val (.int (Int32.ofNat SG)), .val (.long (Int64.ofNat N)), .second, .val (.int (Int32.ofNat dN)), .val (.int ln), .val (.int (1 : Int32)), .unset] [])) _
          exact J1268 _ _ _ _ _  (Xj1267.more (by decide) (by decide)) ej1267 Nj1267 hZj1267 hownj1267 hSj1267 hkj1267 Cj1267 Zj1267 Kj1267 Sj1265 Oj1266 
      by_cases hc1389 : 1 ≤ FL
      · skip
        refine GoOn.step (fun tq kq => XS.icmpNo X1261.here hx rfl (hb hby at_176) rfl (flt (own_nle32 (a := 1) hc1389 (by omega))).1 kq) ?_
        refine GoOn.step (fun tq kq => XS.iload X1261.here hx rfl (hb hby at_179) rfl kq) ?_
        refine GoOn.step (fun tq kq => XS.ifNo X1261.here hx rfl (hb hby at_181) rfl ((if0 _ _).trans (feq (by decide)).1) kq) ?_
        refine GoOn.step (fun tq kq => XS.aload X1261.here hx rfl (hb hby at_184) rfl rfl kq) ?_
        refine GoOn.step (fun tq kq => XS.iconst X1261.here hx rfl (hb hby at_186) kq) ?_
        show GoOn p e below (T1261.setTop (mkF m 187 #[.val (.int p0), .val (.int p1), .val (.int p2), .val (.int p3), .val (.int p4), .val (.int p5), .val (.int (Int32.ofNat FL)), .val (.int (Int32.ofNat PL)), .val (.int c0), .val (.int c1), .val (.int c2), .val (.int c3), .val (.ref sa1227), .val (.ref sa1233), .val (.ref m1240), .val (.long lv), .second, .val (.int (Int32.ofNat SG)), .val (.long (Int64.ofNat N)), .second, .val (.int (Int32.ofNat dN)), .val (.int ln), .val (.int (1 : Int32)), .unset] [(.int (0 : Int32)), (.ref m1240)])) _
        obtain ⟨cqc1391, kqc1391, qac1391, qbc1391, qcc1391⟩ := isOf hZj1260 e1261 Sj1258.1
        obtain ⟨_, _, ⟨T1390, L1390, k1390, n1390⟩, -, X1390, ⟨Lc1390, hQ1390, l1390, y1390, z1390⟩, st1390⟩ := X1261.virtualBack hx (y := (⟨"java/lang/String", "charAt", "(I)C"⟩ : MethodName)) (z := (⟨"java/lang/String", "charAt", "(I)C"⟩ : MethodName)) hownj1260 (mvT hZj1260 (hw _ (List.mem_of_getElem? (i := 225) rfl))) (mvT hZj1260 (hw _ (List.mem_of_getElem? (i := 226) rfl))) (notFace_of_selects (args := #[]) (mvT hZj1260 (hw _ (List.mem_of_getElem? (i := 228) rfl)))) (mvT hZj1260 (hw _ (List.mem_of_getElem? (i := 228) rfl))) (mvT hZj1260 (hw _ (List.mem_of_getElem? (i := 227) rfl))) (by decide) (own_chS (n0 := n0) (W := 0) hZj1260 hch (kI := 4) (hw _ (List.mem_of_getElem? (i := 5) rfl)) Sj1258 (SC.ext Oj1259.2) PC (SF.ext Oj1259.2) rG3 (0) (by omega) rfl (by decide) (by decide)) qac1391 qcc1391 (g := (mkF m 187 #[.val (.int p0), .val (.int p1), .val (.int p2), .val (.int p3), .val (.int p4), .val (.int p5), .val (.int (Int32.ofNat FL)), .val (.int (Int32.ofNat PL)), .val (.int c0), .val (.int c1), .val (.int c2), .val (.int c3), .val (.ref sa1227), .val (.ref sa1233), .val (.ref m1240), .val (.long lv), .second, .val (.int (Int32.ofNat SG)), .val (.long (Int64.ofNat N)), .second, .val (.int (Int32.ofNat dN)), .val (.int ln), .val (.int (1 : Int32)), .unset] [(.int (0 : Int32)), (.ref m1240)])) rfl (by rw [hml]; rfl) (Steps.refl _) (argsL := [(.int (0 : Int32))]) (rest := []) (lenOf own_pd620 rfl) rfl (by show 2 * 0 + _ ≤ _; exact Nat.le_of_eq rfl) (hb hby at_187) (fun _ _ => ⟨rfl, e1261, (by decide : 23 + 0 ≤ _), (by decide : 2924 + 0 ≤ _)⟩)
        dsimp only [Pt.U, Pt.locs, Pt.cells, Pt.slots] at X1390 l1390 y1390 z1390 st1390 hQ1390
        subst l1390 y1390 z1390
        obtain ⟨rfl, N1390, e1390⟩ := hQ1390
        refine GoOn.trans st1390 ?_
        have N1392 := Fr.app N1263 N1390
        refine GoOn.step (fun tq kq => XS.iload X1390.here hx rfl (hb hby at_190) rfl kq) ?_
        refine GoOn.step (fun tq kq => XS.icmpNo X1390.here hx rfl (hb hby at_192) rfl (teq ((he2 0 hc1389).trans (hmF.2.1 hc1389))).2 kq) ?_
        refine GoOn.step (fun tq kq => XS.iconst X1390.here hx rfl (hb hby at_195) kq) ?_
        refine GoOn.step (fun tq kq => XS.goto X1390.here hx rfl (pc0 := 196) (pc' := 200) rfl (hb hby at_196) (by decide) (by decide) kq) ?_
        refine GoOn.step (fun tq kq => XS.istore X1390.here hx rfl (hb hby at_200) rfl (l' := #[.val (.int p0), .val (.int p1), .val (.int p2), .val (.int p3), .val (.int p4), .val (.int p5), .val (.int (Int32.ofNat FL)), .val (.int (Int32.ofNat PL)), .val (.int c0), .val (.int c1), .val (.int c2), .val (.int c3), .val (.ref sa1227), .val (.ref sa1233), .val (.ref m1240), .val (.long lv), .second, .val (.int (Int32.ofNat SG)), .val (.long (Int64.ofNat N)), .second, .val (.int (Int32.ofNat dN)), .val (.int ln), .val (.int (1 : Int32)), .unset]) rfl kq) ?_
        show GoOn p e below (T1390.setTop (mkF m 202 #[.val (.int p0), .val (.int p1), .val (.int p2), .val (.int p3), .val (.int p4), .val (.int p5), .val (.int (Int32.ofNat FL)), .val (.int (Int32.ofNat PL)), .val (.int c0), .val (.int c1), .val (.int c2), .val (.int c3), .val (.ref sa1227), .val (.ref sa1233), .val (.ref m1240), .val (.long lv), .second, .val (.int (Int32.ofNat SG)), .val (.long (Int64.ofNat N)), .second, .val (.int (Int32.ofNat dN)), .val (.int ln), .val (.int (1 : Int32)), .unset] [])) _
        exact J1264 _ _ _ _ _  (X1390.more (by decide) (by decide)) e1390 N1392 hZj1260 hownj1260 hSj1260 hkj1260 Cj1260 Zj1260 Kj1260 Sj1258 Oj1259 
      · skip
        refine GoOn.step (fun tq kq => XS.icmpYes X1261.here hx rfl (pc0 := 176) (pc' := 202) rfl (hb hby at_176) rfl (tlt (own_lt32 (b := 1) (Nat.lt_of_not_le hc1389) (by decide))).1 (by decide) (by decide) kq) ?_
        show GoOn p e below (T1261.setTop (mkF m 202 #[.val (.int p0), .val (.int p1), .val (.int p2), .val (.int p3), .val (.int p4), .val (.int p5), .val (.int (Int32.ofNat FL)), .val (.int (Int32.ofNat PL)), .val (.int c0), .val (.int c1), .val (.int c2), .val (.int c3), .val (.ref sa1227), .val (.ref sa1233), .val (.ref m1240), .val (.long lv), .second, .val (.int (Int32.ofNat SG)), .val (.long (Int64.ofNat N)), .second, .val (.int (Int32.ofNat dN)), .val (.int ln), .val (.int (1 : Int32)), .unset] [])) _
        exact J1264 _ _ _ _ _  (X1261.more (by decide) (by decide)) e1261 N1263 hZj1260 hownj1260 hSj1260 hkj1260 Cj1260 Zj1260 Kj1260 Sj1258 Oj1259 
    by_cases hc1393 : SG = 0
    · skip
      subst hc1393
      refine GoOn.step (fun tq kq => XS.ifYes X1255.here hx rfl (pc0 := 139) (pc' := 146) rfl (hb hby at_139) rfl ((if0 _ _).trans (teq (by decide)).1) (by decide) (by decide) kq) ?_
      refine GoOn.step (fun tq kq => XS.iconst X1255.here hx rfl (hb hby at_146) kq) ?_
      show GoOn p e below (T1255.setTop (mkF m 147 #[.val (.int p0), .val (.int p1), .val (.int p2), .val (.int p3), .val (.int p4), .val (.int p5), .val (.int (Int32.ofNat FL)), .val (.int (Int32.ofNat PL)), .val (.int c0), .val (.int c1), .val (.int c2), .val (.int c3), .val (.ref sa1227), .val (.ref sa1233), .val (.ref m1240), .val (.long lv), .second, .val (.int (Int32.ofNat 0)), .val (.long (Int64.ofNat N)), .second, .val (.int (Int32.ofNat dN)), .unset, .unset, .unset] [(.int (0 : Int32)), (.int ((Int32.ofNat FL) + (1 : Int32)))])) _
      exact J1257 _ _ _ _ _  (X1255.more (by decide) (by decide)) e1255 N1256 hZj1254 hownj1254 hSj1254 hkj1254 Cj1254 Zj1254 Kj1254 Sj1252 Oj1253 
    · skip
      obtain rfl : SG = 1 := by omega
      refine GoOn.step (fun tq kq => XS.ifNo X1255.here hx rfl (hb hby at_139) rfl ((if0 _ _).trans (feq (by decide)).1) kq) ?_
      refine GoOn.step (fun tq kq => XS.iconst X1255.here hx rfl (hb hby at_142) kq) ?_
      refine GoOn.step (fun tq kq => XS.goto X1255.here hx rfl (pc0 := 143) (pc' := 147) rfl (hb hby at_143) (by decide) (by decide) kq) ?_
      show GoOn p e below (T1255.setTop (mkF m 147 #[.val (.int p0), .val (.int p1), .val (.int p2), .val (.int p3), .val (.int p4), .val (.int p5), .val (.int (Int32.ofNat FL)), .val (.int (Int32.ofNat PL)), .val (.int c0), .val (.int c1), .val (.int c2), .val (.int c3), .val (.ref sa1227), .val (.ref sa1233), .val (.ref m1240), .val (.long lv), .second, .val (.int (Int32.ofNat 1)), .val (.long (Int64.ofNat N)), .second, .val (.int (Int32.ofNat dN)), .unset, .unset, .unset] [(.int (1 : Int32)), (.int ((Int32.ofNat FL) + (1 : Int32)))])) _
      exact J1257 _ _ _ _ _  (X1255.more (by decide) (by decide)) e1255 N1256 hZj1254 hownj1254 hSj1254 hkj1254 Cj1254 Zj1254 Kj1254 Sj1252 Oj1253 
  by_cases hc1394 : p0 < 0
  · skip
    refine GoOn.step (fun tq kq => XS.ifNo X1248.here hx rfl (hb hby at_101) rfl ((if0 _ _).trans (tlt ((own_sg p0).mpr hc1394)).2.1) kq) ?_
    refine GoOn.step (fun tq kq => XS.iconst X1248.here hx rfl (hb hby at_104) kq) ?_
    refine GoOn.step (fun tq kq => XS.goto X1248.here hx rfl (pc0 := 105) (pc' := 109) rfl (hb hby at_105) (by decide) (by decide) kq) ?_
    refine GoOn.step (fun tq kq => XS.istore X1248.here hx rfl (hb hby at_109) rfl (l' := #[.val (.int p0), .val (.int p1), .val (.int p2), .val (.int p3), .val (.int p4), .val (.int p5), .val (.int (Int32.ofNat FL)), .val (.int (Int32.ofNat PL)), .val (.int c0), .val (.int c1), .val (.int c2), .val (.int c3), .val (.ref sa1227), .val (.ref sa1233), .val (.ref m1240), .val (.long ((p0).toInt64)), .second, .val (.int (1 : Int32)), .unset, .unset, .unset, .unset, .unset, .unset]) rfl kq) ?_
    refine GoOn.step (fun tq kq => XS.iload X1248.here hx rfl (hb hby at_111) rfl kq) ?_
    refine GoOn.step (fun tq kq => XS.ifNo X1248.here hx rfl (hb hby at_113) rfl ((if0 _ _).trans (feq (by decide)).1) kq) ?_
    refine GoOn.step (fun tq kq => XS.lload X1248.here hx rfl (hb hby at_116) rfl kq) ?_
    refine GoOn.step (fun tq kq => XS.lneg X1248.here hx rfl (hb hby at_118) rfl kq) ?_
    refine GoOn.step (fun tq kq => XS.goto X1248.here hx rfl (pc0 := 119) (pc' := 124) rfl (hb hby at_119) (by decide) (by decide) kq) ?_
    show GoOn p e below (T1248.setTop (mkF m 124 #[.val (.int p0), .val (.int p1), .val (.int p2), .val (.int p3), .val (.int p4), .val (.int p5), .val (.int (Int32.ofNat FL)), .val (.int (Int32.ofNat PL)), .val (.int c0), .val (.int c1), .val (.int c2), .val (.int c3), .val (.ref sa1227), .val (.ref sa1233), .val (.ref m1240), .val (.long ((p0).toInt64)), .second, .val (.int (1 : Int32)), .unset, .unset, .unset, .unset, .unset, .unset] [(.long (-((p0).toInt64)))])) _
    rw [hav1 hc1394]
    refine GoOn.step (fun tq kq => XS.lstore X1248.here hx rfl (hb hby at_124) rfl (l' := #[.val (.int p0), .val (.int p1), .val (.int p2), .val (.int p3), .val (.int p4), .val (.int p5), .val (.int (Int32.ofNat FL)), .val (.int (Int32.ofNat PL)), .val (.int c0), .val (.int c1), .val (.int c2), .val (.int c3), .val (.ref sa1227), .val (.ref sa1233), .val (.ref m1240), .val (.long ((p0).toInt64)), .second, .val (.int (1 : Int32)), .val (.long (Int64.ofNat N)), .second, .unset, .unset, .unset, .unset]) rfl kq) ?_
    show GoOn p e below (T1248.setTop (mkF m 126 #[.val (.int p0), .val (.int p1), .val (.int p2), .val (.int p3), .val (.int p4), .val (.int p5), .val (.int (Int32.ofNat FL)), .val (.int (Int32.ofNat PL)), .val (.int c0), .val (.int c1), .val (.int c2), .val (.int c3), .val (.ref sa1227), .val (.ref sa1233), .val (.ref m1240), .val (.long ((p0).toInt64)), .second, .val (.int (1 : Int32)), .val (.long (Int64.ofNat N)), .second, .unset, .unset, .unset, .unset] [])) _
    exact J1251 _ _ _ _ _ _ 1 (X1248.more (by decide) (by decide)) e1248 N1250 hZ1240 hown1240 hSn1240 hk1240 C1245 Z1243 K1244 Ses O1242 (by simp [Jvm.Free.SBG.GetChars.sgn, hc1394]) (by decide)
  · skip
    refine GoOn.step (fun tq kq => XS.ifYes X1248.here hx rfl (pc0 := 101) (pc' := 108) rfl (hb hby at_101) rfl ((if0 _ _).trans (flt (fun q => hc1394 ((own_sg p0).mp q))).2.1) (by decide) (by decide) kq) ?_
    refine GoOn.step (fun tq kq => XS.iconst X1248.here hx rfl (hb hby at_108) kq) ?_
    refine GoOn.step (fun tq kq => XS.istore X1248.here hx rfl (hb hby at_109) rfl (l' := #[.val (.int p0), .val (.int p1), .val (.int p2), .val (.int p3), .val (.int p4), .val (.int p5), .val (.int (Int32.ofNat FL)), .val (.int (Int32.ofNat PL)), .val (.int c0), .val (.int c1), .val (.int c2), .val (.int c3), .val (.ref sa1227), .val (.ref sa1233), .val (.ref m1240), .val (.long ((p0).toInt64)), .second, .val (.int (0 : Int32)), .unset, .unset, .unset, .unset, .unset, .unset]) rfl kq) ?_
    refine GoOn.step (fun tq kq => XS.iload X1248.here hx rfl (hb hby at_111) rfl kq) ?_
    refine GoOn.step (fun tq kq => XS.ifYes X1248.here hx rfl (pc0 := 113) (pc' := 122) rfl (hb hby at_113) rfl ((if0 _ _).trans (teq (by decide)).1) (by decide) (by decide) kq) ?_
    refine GoOn.step (fun tq kq => XS.lload X1248.here hx rfl (hb hby at_122) rfl kq) ?_
    show GoOn p e below (T1248.setTop (mkF m 124 #[.val (.int p0), .val (.int p1), .val (.int p2), .val (.int p3), .val (.int p4), .val (.int p5), .val (.int (Int32.ofNat FL)), .val (.int (Int32.ofNat PL)), .val (.int c0), .val (.int c1), .val (.int c2), .val (.int c3), .val (.ref sa1227), .val (.ref sa1233), .val (.ref m1240), .val (.long ((p0).toInt64)), .second, .val (.int (0 : Int32)), .unset, .unset, .unset, .unset, .unset, .unset] [(.long ((p0).toInt64))])) _
    rw [hav0 hc1394]
    refine GoOn.step (fun tq kq => XS.lstore X1248.here hx rfl (hb hby at_124) rfl (l' := #[.val (.int p0), .val (.int p1), .val (.int p2), .val (.int p3), .val (.int p4), .val (.int p5), .val (.int (Int32.ofNat FL)), .val (.int (Int32.ofNat PL)), .val (.int c0), .val (.int c1), .val (.int c2), .val (.int c3), .val (.ref sa1227), .val (.ref sa1233), .val (.ref m1240), .val (.long (Int64.ofNat N)), .second, .val (.int (0 : Int32)), .val (.long (Int64.ofNat N)), .second, .unset, .unset, .unset, .unset]) rfl kq) ?_
    show GoOn p e below (T1248.setTop (mkF m 126 #[.val (.int p0), .val (.int p1), .val (.int p2), .val (.int p3), .val (.int p4), .val (.int p5), .val (.int (Int32.ofNat FL)), .val (.int (Int32.ofNat PL)), .val (.int c0), .val (.int c1), .val (.int c2), .val (.int c3), .val (.ref sa1227), .val (.ref sa1233), .val (.ref m1240), .val (.long (Int64.ofNat N)), .second, .val (.int (0 : Int32)), .val (.long (Int64.ofNat N)), .second, .unset, .unset, .unset, .unset] [])) _
    exact J1251 _ _ _ _ _ _ 0 (X1248.more (by decide) (by decide)) e1248 N1250 hZ1240 hown1240 hSn1240 hk1240 C1245 Z1243 K1244 Ses O1242 (by simp [Jvm.Free.SBG.GetChars.sgn, hc1394]) (by decide)
set_option maxRecDepth 65536 in
set_option maxHeartbeats 40000000 in
theorem comes_1 {Post : Tables → Env → Array Value → State → Outcome → State → Prop} (hpost : ∀ tb e args s v u, (limb_1_1.after args s (.returned v) u = true ∧ limb_1_2.after args s (.returned v) u = true ∧ True) → ReturnedEndW s (.returned v) u (Jvm.fieldLocs frame_1_writes args s ++ Jvm.arrayLocs frame_1_arrays args s ++ Jvm.staticLocs frame_1_statics s) 64 9088 → Post tb e args s (.returned v) u) :
    ArmFor flags0 classFile x code maxLocals ret World_1 tables_1 room_1 Calls_1 rest_1 Pre_1 Post := by
  intro l hfl _ _ p e ha hc hk s m args below hf hA hF happ hP
  obtain ⟨hcalls, hrest, hpre⟩ := hP
  obtain ⟨-, -, -, hnamed, -, -, -, hat⟩ := (Spec.applies_iff hf).mp happ
  obtain ⟨hg, hn⟩ := and_e (Cond.before_iff.mp (show (Jvm.Cond.and given_1 narrow_1).before args s = true from hpre))
  obtain ⟨hcount, hg0⟩ := and_e hg
  obtain ⟨ha0, hg1⟩ := and_e hg0
  obtain ⟨ha1, hg2⟩ := and_e hg1
  obtain ⟨ha2, hg3⟩ := and_e hg2
  obtain ⟨ha3, hg4⟩ := and_e hg3
  obtain ⟨ha4, hg5⟩ := and_e hg4
  obtain ⟨w0, w1, w2, w3, w4, w5, rfl⟩ : ∃ w0 w1 w2 w3 w4 w5 : Value, args = #[w0, w1, w2, w3, w4, w5] := by
    have hs : args.size = 6 := by simpa [Cond.value, given_1] using hcount
    obtain ⟨L⟩ := args
    match L, hs with
    | [w0, w1, w2, w3, w4, w5], _ => exact ⟨w0, w1, w2, w3, w4, w5, rfl⟩
  have hw := fun d (hd : d ∈ tables_1) => atoms_spec (ws := Jvm.Cond.code x code maxLocals ret :: tables_1) hat d (List.mem_cons_of_mem _ hd)
  have hfit : Fit s := fun {y c} hc i hi => by
    obtain ⟨ha, rfl⟩ := Array.getElem?_eq_some_iff.mp hc
    have q := List.all_eq_true.mp ((Array.all_eq_true_iff_forall_mem.mp hF) _ (Array.getElem_mem ha)) i (List.mem_range.mpr hi)
    simpa [Array.getElem?_eq_getElem hi] using q
  obtain ⟨hsets, hown0⟩ := atoms_of _ (rest_1_c_eq ▸ (show rest_1_c.before _ s = true from hrest))
  have hr0 := Cond.before_iff.mp hown0
  obtain ⟨i0, ei0⟩ := is_v ha0
  obtain rfl : w0 = (.int i0) := Option.some.inj ei0
  obtain ⟨i1, ei1⟩ := is_v ha1
  obtain rfl : w1 = (.int i1) := Option.some.inj ei1
  obtain ⟨i2, ei2⟩ := is_v ha2
  obtain rfl : w2 = (.int i2) := Option.some.inj ei2
  obtain ⟨i3, ei3⟩ := is_v ha3
  obtain rfl : w3 = (.int i3) := Option.some.inj ei3
  obtain ⟨i4, ei4⟩ := is_v ha4
  obtain rfl : w4 = (.int i4) := Option.some.inj ei4
  obtain ⟨i5, ei5⟩ := is_v hg5
  obtain rfl : w5 = (.int i5) := Option.some.inj ei5
  have n5 := not_v (Cond.before_iff.mp (hsets _ (List.mem_of_getElem? (i := 2) rfl)))
  obtain ⟨ic, ec⟩ := is_v (Cond.before_iff.mp (hsets _ (List.mem_of_getElem? (i := 1) rfl)))
  have SC : Sta s s.heap "java/lang/String" "COMPACT_STRINGS" "Z" (.int ic) := Sta.start ec (Or.inl (hsets _ (List.mem_of_getElem? (i := 0) rfl)))
  have PC : ¬ (ic = (0 : Int32)) := gotF (Cond.eq_ints ec (Term.int_eval (0))) n5
  obtain ⟨v3, e3, r3⟩ := isR_v (Cond.before_iff.mp (hsets _ (List.mem_of_getElem? (i := 8) rfl)))
  have SF : Sta s s.heap "jdk/internal/util/Preconditions" "SIOOBE_FORMATTER" "Ljava/util/function/BiFunction;" v3 := Sta.start e3 (Or.inl (hsets _ (List.mem_of_getElem? (i := 7) rfl)))
  have hST : l.stackTraces = true := by rw [Launch.stackTraces, hfl]; decide +kernel
  have TR := two_refs hfit (hw _ (List.mem_of_getElem? (i := 206) rfl)) (hw _ (List.mem_of_getElem? (i := 207) rfl))
  obtain ⟨v4, e4, r4⟩ := isR_v (Cond.before_iff.mp (TR _ (List.mem_of_getElem? (i := 0) rfl)))
  obtain ⟨v5, e5, r5⟩ := isR_v (Cond.before_iff.mp (TR _ (List.mem_of_getElem? (i := 1) rfl)))
  have SU : Sta s s.heap "java/lang/Throwable" "UNASSIGNED_STACK" "[Ljava/lang/StackTraceElement;" v4 := Sta.start e4 (Or.inr ⟨(hw _ (List.mem_of_getElem? (i := 175) rfl)), (hw _ (List.mem_of_getElem? (i := 206) rfl))⟩)
  have SS : Sta s s.heap "java/lang/Throwable" "SUPPRESSED_SENTINEL" "Ljava/util/List;" v5 := Sta.start e5 (Or.inr ⟨(hw _ (List.mem_of_getElem? (i := 175) rfl)), (hw _ (List.mem_of_getElem? (i := 207) rfl))⟩)
  have hKK : s.vm.MethodsKnown ∧ s.vm.FramesKnown below := ⟨MethodsKnown_of_tablesKnown hcalls.2.1, FramesKnown_of_framesKnown hcalls.1 hf⟩
  have hbto : (Jvm.Free.SBG.bytesC (Jvm.Free.SBG.Tof "DigitOnes")).before _ s = true := own_byt (F := fun r => 48 + r % 10) (hsets _ (by decide +kernel)) (show (Jvm.Free.SBG.onesW).before _ s = true from hsets _ (by decide +kernel)) (fun r hr => by rw [← Jvm.Free.SBG.ones_num r hr]; rfl) (fun r hr => by show 48 + r % 10 < 128; omega)
  obtain ⟨_, ko, sto, do_, Do, hco, hko, hso, To, Oo⟩ := Jvm.Free.SBG.ones_of_words (fun w hw' => (List.mem_append.mp ((by decide +kernel : ∀ w ∈ Jvm.Free.SBG.tblW "DigitOnes", w ∈ jdkStatics_1 ++ [Jvm.Free.SBG.bytesC (Jvm.Free.SBG.Tof "DigitOnes")]) w hw')).elim (hsets w) (fun q => by rcases List.mem_cons.mp q with rfl | q; exact hbto; cases q)) (hsets _ (by decide +kernel)) (hw _ (List.mem_of_getElem? (i := 110) rfl)) (hw _ (List.mem_of_getElem? (i := 19) rfl))
  have hbtt : (Jvm.Free.SBG.bytesC (Jvm.Free.SBG.Tof "DigitTens")).before _ s = true := own_byt (F := fun r => 48 + r / 10) (hsets _ (by decide +kernel)) (show (Jvm.Free.SBG.tensW).before _ s = true from hsets _ (by decide +kernel)) (fun r hr => by rw [← Jvm.Free.SBG.tens_num r hr]; rfl) (fun r hr => by show 48 + r / 10 < 128; omega)
  obtain ⟨_, kt, stt, dt, Dt, hct, hkt, hst, Tt, Ot⟩ := Jvm.Free.SBG.tens_of_words (fun w hw' => (List.mem_append.mp ((by decide +kernel : ∀ w ∈ Jvm.Free.SBG.tblW "DigitTens", w ∈ jdkStatics_1 ++ [Jvm.Free.SBG.bytesC (Jvm.Free.SBG.Tof "DigitTens")]) w hw')).elim (hsets w) (fun q => by rcases List.mem_cons.mp q with rfl | q; exact hbtt; cases q)) (hsets _ (by decide +kernel)) (hw _ (List.mem_of_getElem? (i := 110) rfl)) (hw _ (List.mem_of_getElem? (i := 19) rfl))
  cases hco.symm.trans hct
  cases hko.symm.trans hkt
  cases hso.symm.trans hst
  have DG : own_Dig s sto do_ Do dt Dt := ⟨To, Oo, Tt, Ot, (by obtain ⟨_, _, _, _, cS, _, _, _, _, q, -⟩ := To; exact ⟨cS, q⟩)⟩
  obtain ⟨n, o, h1, h2, h3, _, L, rfl, ⟨rfl, N⟩, hC, hq⟩ := rm0 l s _ hw tables_1 i0 i1 i2 i3 i4 i5 ic v4 v5 v3 sto do_ Do dt Dt s.heap s.heap.size (Nat.le_refl _) SC PC hST SU r4 SS r5 SF r3 DG (Old.start s) p e ha hc hk s m _ below hf ((Spec.applies_iff_loose hf).mp happ).1 ⟨rfl, State.Warmed39.refl s, rfl, (CHv.start (own_EW hw) hcalls.2.2.1 (hsets _ (List.mem_of_getElem? (i := 2) rfl)) (hw _ (List.mem_of_getElem? (i := 19) rfl)) (hw _ (List.mem_of_getElem? (i := 5) rfl)))⟩ hKK
  refine ⟨n, _, h1, h2, h3, hpost _ _ _ _ _ _ ⟨Cond.after_iff.mpr rfl, Cond.after_iff.mpr (eq_i res_at (Term.int_eval (1)) rfl), trivial⟩ ⟨hq.1, hq.2.1, hq.2.2.1, (hq.2.2.2.sift fun y hy => Or.inr (N y hy)).mono (by decide) (by decide)⟩⟩
theorem main_1_1 : Claimed_1_1 := comes_1 fun _ _ _ _ _ _ h hF => ⟨h.1, hF⟩
theorem main_1_2 : Claimed_1_2 := comes_1 fun _ _ _ _ _ _ h hF => ⟨h.2.1, hF⟩
end Jvm.Pilot.@@N@@
namespace Jvm.Pilot.@@N@@
open Jvm Jvm.ClassFile Sem Op Lib Jvm.Free Jvm.Stand Jvm.Pilot.@@N@@.Jvm.D
/-! MADE BY PROGRAM (witnessworld.py) out of the Statement's table words and the real class files: 45 classes; the members and pool entries that the words name. The judged class is class 1, her method 1. -/
namespace start1
open Jvm.ClassFile
def u (s : String) : CpInfo := .utf8 (stringToUtf16 s)
/-- a pool by its gaps: so many unusable entries, then the entry; so many at the end -/
def gap : Nat → List CpInfo → List CpInfo
  | 0, r => r
  | n + 1, r => .unusable :: gap n r
def poolList (es : List (Nat × CpInfo)) (last : Nat) : List CpInfo := es.foldr (fun e r => gap e.1 (e.2 :: r)) (gap last [])
def pool (es : List (Nat × CpInfo)) (last : Nat) : Array CpInfo := ⟨poolList es last⟩
def fileOf (pool : Array CpInfo) (this : Nat) (attrs : Array Attribute := #[]) (ms : Array MethodInfo := #[]) (fl : Nat := 33) (sup : Nat := 0) (ifs : Array Nat := #[]) (fds : Array FieldInfo := #[]) : ClassFile where
  minorVersion := 0
  majorVersion := 65
  constantPool := pool
  accessFlags := fl
  thisClass := this
  superClass := sup
  interfaces := ifs
  fields := fds
  methods := ms
  attributes := attrs
def plain (name : String) (sup : Option ClassId) : Class where
  name := name
  kind := .ordinary
  loader := none
  accessFlags := 33
  super := sup
  interfaces := #[]
  cf := none
  fields := #[]
  methods := #[]
  instanceTypes := #[]
  staticTypes := #[]
  resolved := #[]
  callSites := []
  init := .initialized
  statics := none
  mirror := none

def pool0 : Array CpInfo := pool [(5, u "<init>"), (0, u "()V"), (1, .class_ 10), (1, u "java/lang/Object"), (85, u "clone"), (0, u "()Ljava/lang/Object;")] 26

def k0c0 : Code := { maxStack := 0, maxLocals := 1, code := object_method_1_code, exceptionTable := #[], attributes := #[] }
def k0m0 : Method := { name := "<init>", desc := "()V", sig := { parameters := [], returnType := none }, accessFlags := 1, code := some k0c0 }
def k0m1 : Method := { name := "clone", desc := "()Ljava/lang/Object;", sig := { parameters := [], returnType := some (.object "java/lang/Object") }, accessFlags := 260, code := none }
/-- java/lang/Object -/
def k0 : Class := { plain "java/lang/Object" none with
  accessFlags := 33
  interfaces := #[]
  cf := some (fileOf pool0 8 #[] #[{ accessFlags := 1, nameIndex := 5, descriptorIndex := 6, attributes := #[] }, { accessFlags := 260, nameIndex := 96, descriptorIndex := 97, attributes := #[] }] 33 0 #[] #[])
  fields := #[]
  methods := #[k0m0, k0m1]
  instanceTypes := #[]
  staticTypes := #[]
  resolved := Array.replicate 124 none
  statics := none }

def pool1 : Array CpInfo := pool [(2, .class_ 4), (1, u "java/lang/Object"), (0, u "<init>"), (0, u "()V"), (0, .methodref 8 9), (0, .class_ 10), (0, .nameAndType 11 12), (0, u "com/example/faktorwerk/faktorwerk/model/InputRefusedExceptionAtLinePinLaw"), (0, u "str"), (0, u "(ICC)Ljava/lang/String;"), (0, .methodref 14 15), (0, .class_ 16), (0, .nameAndType 17 18), (0, u "com/example/faktorwerk/faktorwerk/model/InputRefusedException"), (0, u "atLine"), (0, u "(Ljava/lang/String;ILjava/lang/String;)Lcom/example/faktorwerk/faktorwerk/model/InputRefusedException;"), (0, .methodref 14 20), (0, .nameAndType 21 22), (0, u "getMessage"), (0, u "()Ljava/lang/String;"), (0, .methodref 8 24), (0, .nameAndType 25 26), (0, u "digits"), (0, u "(J)I"), (0, .methodref 28 29), (0, .class_ 30), (0, .nameAndType 31 32), (0, u "java/lang/String"), (0, u "length"), (0, u "()I"), (0, .methodref 28 34), (0, .nameAndType 35 36), (0, u "charAt"), (0, u "(I)C"), (0, .methodref 8 38), (0, .nameAndType 39 40), (0, u "digitOk"), (0, u "(Ljava/lang/String;IIIJ)Z"), (0, .methodref 28 42), (0, .nameAndType 5 43), (0, u "([C)V"), (0, .methodref 28 45), (0, .nameAndType 46 47), (0, u "valueOf"), (0, u "(C)Ljava/lang/String;"), (0, .long 10), (1, .long 100), (1, .long 1000), (1, .long 10000), (1, .long 100000), (1, .long 1000000), (1, .long 10000000), (1, .long 100000000), (1, .long 1000000000), (3, u "law"), (0, u "(IIIIII)Z")] 5

def k1m0 : Method := { name := "<init>", desc := "()V", sig := { parameters := [], returnType := none }, accessFlags := 1, code := none }
def k1c1 : Code := { maxStack := 6, maxLocals := 24, code := code, exceptionTable := #[], attributes := #[] }
def k1m1 : Method := { name := "law", desc := "(IIIIII)Z", sig := { parameters := [.int, .int, .int, .int, .int, .int], returnType := some .boolean }, accessFlags := 9, code := some k1c1 }
def k1c2 : Code := { maxStack := 6, maxLocals := 3, code := method_3_code, exceptionTable := #[], attributes := #[] }
def k1m2 : Method := { name := "str", desc := "(ICC)Ljava/lang/String;", sig := { parameters := [.int, .char, .char], returnType := some (.object "java/lang/String") }, accessFlags := 10, code := some k1c2 }
def k1c3 : Code := { maxStack := 4, maxLocals := 2, code := method_4_code, exceptionTable := #[], attributes := #[] }
def k1m3 : Method := { name := "digits", desc := "(J)I", sig := { parameters := [.long], returnType := some .int }, accessFlags := 10, code := some k1c3 }
def k1c4 : Code := { maxStack := 5, maxLocals := 9, code := method_5_code, exceptionTable := #[], attributes := #[] }
def k1m4 : Method := { name := "digitOk", desc := "(Ljava/lang/String;IIIJ)Z", sig := { parameters := [(.object "java/lang/String"), .int, .int, .int, .long], returnType := some .boolean }, accessFlags := 10, code := some k1c4 }
/-- com/example/faktorwerk/faktorwerk/model/InputRefusedExceptionAtLinePinLaw -/
def k1 : Class := { plain "com/example/faktorwerk/faktorwerk/model/InputRefusedExceptionAtLinePinLaw" (some 0) with
  accessFlags := 49
  interfaces := #[]
  cf := some (fileOf pool1 8 #[] #[{ accessFlags := 1, nameIndex := 5, descriptorIndex := 6, attributes := #[] }, { accessFlags := 9, nameIndex := 68, descriptorIndex := 69, attributes := #[] }, { accessFlags := 10, nameIndex := 11, descriptorIndex := 12, attributes := #[] }, { accessFlags := 10, nameIndex := 25, descriptorIndex := 26, attributes := #[] }, { accessFlags := 10, nameIndex := 39, descriptorIndex := 40, attributes := #[] }] 49 2 #[] #[])
  fields := #[]
  methods := #[k1m0, k1m1, k1m2, k1m3, k1m4]
  instanceTypes := #[]
  staticTypes := #[]
  resolved := Array.replicate 75 none
  statics := none }

def pool2 : Array CpInfo := pool [(1, .class_ 2), (0, u "java/io/Serializable"), (0, .class_ 4), (0, u "java/lang/Object")] 2

/-- java/io/Serializable -/
def k2 : Class := { plain "java/io/Serializable" (some 0) with
  accessFlags := 1537
  interfaces := #[]
  cf := some (fileOf pool2 1 #[] #[] 1537 3 #[] #[])
  fields := #[]
  methods := #[]
  instanceTypes := #[]
  staticTypes := #[]
  resolved := Array.replicate 7 none
  statics := none }

def pool3 : Array CpInfo := pool [(1, .class_ 2), (0, u "java/lang/Comparable"), (0, .class_ 4), (0, u "java/lang/Object")] 7

/-- java/lang/Comparable -/
def k3 : Class := { plain "java/lang/Comparable" (some 0) with
  accessFlags := 1537
  interfaces := #[]
  cf := some (fileOf pool3 1 #[] #[] 1537 3 #[] #[])
  fields := #[]
  methods := #[]
  instanceTypes := #[]
  staticTypes := #[]
  resolved := Array.replicate 12 none
  statics := none }

def pool4 : Array CpInfo := pool [(2, .class_ 4), (1, u "java/lang/CharSequence"), (42, .class_ 48), (0, u "java/lang/CharSequence$1CodePointIterator"), (10, .class_ 60), (0, u "java/lang/CharSequence$1CharIterator"), (5, .class_ 67), (0, u "java/lang/Object")] 63

/-- java/lang/CharSequence -/
def k4 : Class := { plain "java/lang/CharSequence" (some 0) with
  accessFlags := 1537
  interfaces := #[]
  cf := some (fileOf pool4 2 #[.nestMembers #[47, 59]] #[] 1537 66 #[] #[])
  fields := #[]
  methods := #[]
  instanceTypes := #[]
  staticTypes := #[]
  resolved := Array.replicate 131 none
  statics := none }

def pool5 : Array CpInfo := pool [(1, .class_ 2), (0, u "java/lang/constant/Constable"), (0, .class_ 4), (0, u "java/lang/Object")] 6

/-- java/lang/constant/Constable -/
def k5 : Class := { plain "java/lang/constant/Constable" (some 0) with
  accessFlags := 1537
  interfaces := #[]
  cf := some (fileOf pool5 1 #[] #[] 1537 3 #[] #[])
  fields := #[]
  methods := #[]
  instanceTypes := #[]
  staticTypes := #[]
  resolved := Array.replicate 11 none
  statics := none }

def pool6 : Array CpInfo := pool [(1, .class_ 2), (0, u "java/lang/constant/ConstantDesc"), (0, .class_ 4), (0, u "java/lang/Object")] 32

/-- java/lang/constant/ConstantDesc -/
def k6 : Class := { plain "java/lang/constant/ConstantDesc" (some 0) with
  accessFlags := 1537
  interfaces := #[]
  cf := some (fileOf pool6 1 #[] #[] 1537 3 #[] #[])
  fields := #[]
  methods := #[]
  instanceTypes := #[]
  staticTypes := #[]
  resolved := Array.replicate 37 none
  statics := none }

def pool7 : Array CpInfo := pool [(1, .methodref 2 3), (0, .class_ 4), (0, .nameAndType 5 6), (0, u "java/lang/Object"), (0, u "<init>"), (0, u "()V"), (0, .string 8), (0, u ""), (0, .fieldref 10 11), (0, .class_ 12), (0, .nameAndType 13 14), (0, u "java/lang/String"), (0, u "value"), (0, u "[B"), (0, .fieldref 10 16), (0, .nameAndType 17 18), (0, u "coder"), (0, u "B"), (2, u "hash"), (0, u "I"), (2, u "hashIsZero"), (0, u "Z"), (0, .methodref 10 28), (0, .nameAndType 5 29), (0, u "([CIILjava/lang/Void;)V"), (8, .fieldref 10 39), (0, .nameAndType 40 26), (0, u "COMPACT_STRINGS"), (1, .class_ 44), (1, u "java/lang/StringUTF16"), (0, u "compress"), (1, .methodref 42 48), (0, .nameAndType 49 50), (0, u "coderFromArrayLen"), (0, u "([BI)B"), (2, u "toBytes"), (0, .methodref 55 56), (0, .class_ 57), (0, .nameAndType 58 59), (0, u "java/util/Arrays"), (0, u "copyOfRange"), (0, u "([BII)[B"), (47, .class_ 109), (1, u "java/lang/StringLatin1"), (32, u "()Z"), (34, .methodref 42 178), (0, .nameAndType 45 179), (0, u "([CII)[B"), (13, .class_ 195), (1, u "java/lang/System"), (13, .methodref 10 210), (0, .nameAndType 5 211), (0, u "([BB)V"), (0, .methodref 193 213), (0, .nameAndType 214 215), (0, u "arraycopy"), (0, u "(Ljava/lang/Object;ILjava/lang/Object;II)V"), (118, u "()I"), (0, .methodref 10 336), (0, .nameAndType 17 337), (0, u "()B"), (2, u "()[B"), (22, u "([BI)C"), (5, u "(C)Z"), (21, u "(II)V"), (35, u "(I)C"), (61, .methodref 10 490), (0, .nameAndType 5 491), (0, u "(Ljava/lang/AbstractStringBuilder;Ljava/lang/Void;)V"), (0, .methodref 10 493), (0, .nameAndType 494 142), (0, u "isLatin1"), (0, .methodref 107 496), (0, .nameAndType 497 363), (0, u "charAt"), (3, u "checkIndex"), (4, .nameAndType 507 334), (0, u "length"), (24, u "getBytes"), (16, .methodref 550 506), (0, .class_ 551), (0, u "java/lang/AbstractStringBuilder"), (0, .methodref 550 553), (0, .nameAndType 554 340), (0, u "getValue"), (20, .class_ 576), (0, u "java/lang/CharSequence"), (22, u "CASE_INSENSITIVE_ORDER"), (0, u "Ljava/util/Comparator;"), (181, u "valueOf"), (0, u "(C)Ljava/lang/String;"), (37, u "([BIB)V"), (188, u "([C)V"), (4, .methodref 107 1016), (0, .nameAndType 1017 369), (0, u "canEncode"), (0, .methodref 107 1019), (0, .nameAndType 53 1020), (0, u "(C)[B"), (26, .methodref 550 493), (5, .fieldref 1054 1055), (0, .class_ 1056), (0, .nameAndType 1057 1058), (0, u "jdk/internal/util/Preconditions"), (0, u "SIOOBE_FORMATTER"), (0, u "Ljava/util/function/BiFunction;"), (0, .methodref 1054 1060), (0, .nameAndType 501 1061), (0, u "(IILjava/util/function/BiFunction;)I"), (39, u "serialPersistentFields"), (0, u "[Ljava/io/ObjectStreamField;"), (0, .class_ 1104), (0, u "java/lang/String$CaseInsensitiveComparator"), (1, .class_ 1107), (0, u "java/io/Serializable"), (0, .class_ 1109), (0, u "java/lang/Comparable"), (0, .class_ 1111), (0, u "java/lang/constant/Constable"), (0, .class_ 1113), (0, u "java/lang/constant/ConstantDesc"), (2, u "serialVersionUID"), (0, u "J"), (3, u "REPL"), (0, u "C"), (2, u "LATIN1"), (1, u "UTF16"), (105, u "(Ljava/lang/StringBuilder;)V")] 217

def k7m0 : Method := { name := "<init>", desc := "()V", sig := { parameters := [], returnType := none }, accessFlags := 1, code := none }
def k7c1 : Code := { maxStack := 5, maxLocals := 2, code := jdk_42_method_3_code, exceptionTable := #[], attributes := #[] }
def k7m1 : Method := { name := "<init>", desc := "([C)V", sig := { parameters := [(.array .char)], returnType := none }, accessFlags := 1, code := some k7c1 }
def k7c2 : Code := { maxStack := 3, maxLocals := 2, code := jdk_42_method_53_code, exceptionTable := #[], attributes := #[] }
def k7m2 : Method := { name := "<init>", desc := "(Ljava/lang/StringBuilder;)V", sig := { parameters := [(.object "java/lang/StringBuilder")], returnType := none }, accessFlags := 1, code := some k7c2 }
def k7c3 : Code := { maxStack := 2, maxLocals := 1, code := jdk_42_method_54_code, exceptionTable := #[], attributes := #[] }
def k7m3 : Method := { name := "length", desc := "()I", sig := { parameters := [], returnType := some .int }, accessFlags := 1, code := some k7c3 }
def k7c4 : Code := { maxStack := 2, maxLocals := 2, code := jdk_42_method_56_code, exceptionTable := #[], attributes := #[] }
def k7m4 : Method := { name := "charAt", desc := "(I)C", sig := { parameters := [.int], returnType := some .char }, accessFlags := 1, code := some k7c4 }
def k7c5 : Code := { maxStack := 4, maxLocals := 1, code := jdk_42_method_139_code, exceptionTable := #[], attributes := #[] }
def k7m5 : Method := { name := "valueOf", desc := "(C)Ljava/lang/String;", sig := { parameters := [.char], returnType := some (.object "java/lang/String") }, accessFlags := 9, code := some k7c5 }
def k7c6 : Code := { maxStack := 5, maxLocals := 4, code := jdk_42_method_147_code, exceptionTable := #[], attributes := #[] }
def k7m6 : Method := { name := "getBytes", desc := "([BIB)V", sig := { parameters := [(.array .byte), .int, .byte], returnType := none }, accessFlags := 0, code := some k7c6 }
def k7c7 : Code := { maxStack := 4, maxLocals := 6, code := jdk_42_method_149_code, exceptionTable := #[], attributes := #[] }
def k7m7 : Method := { name := "<init>", desc := "([CIILjava/lang/Void;)V", sig := { parameters := [(.array .char), .int, .int, (.object "java/lang/Void")], returnType := none }, accessFlags := 2, code := some k7c7 }
def k7c8 : Code := { maxStack := 5, maxLocals := 5, code := jdk_42_method_150_code, exceptionTable := #[], attributes := #[] }
def k7m8 : Method := { name := "<init>", desc := "(Ljava/lang/AbstractStringBuilder;Ljava/lang/Void;)V", sig := { parameters := [(.object "java/lang/AbstractStringBuilder"), (.object "java/lang/Void")], returnType := none }, accessFlags := 0, code := some k7c8 }
def k7c9 : Code := { maxStack := 2, maxLocals := 3, code := jdk_42_method_151_code, exceptionTable := #[], attributes := #[] }
def k7m9 : Method := { name := "<init>", desc := "([BB)V", sig := { parameters := [(.array .byte), .byte], returnType := none }, accessFlags := 0, code := some k7c9 }
def k7c10 : Code := { maxStack := 1, maxLocals := 1, code := jdk_42_method_152_code, exceptionTable := #[], attributes := #[] }
def k7m10 : Method := { name := "coder", desc := "()B", sig := { parameters := [], returnType := some .byte }, accessFlags := 0, code := some k7c10 }
def k7c11 : Code := { maxStack := 1, maxLocals := 1, code := jdk_42_method_154_code, exceptionTable := #[], attributes := #[] }
def k7m11 : Method := { name := "isLatin1", desc := "()Z", sig := { parameters := [], returnType := some .boolean }, accessFlags := 0, code := some k7c11 }
def k7c12 : Code := { maxStack := 3, maxLocals := 2, code := jdk_42_method_155_code, exceptionTable := #[], attributes := #[] }
def k7m12 : Method := { name := "checkIndex", desc := "(II)V", sig := { parameters := [.int, .int], returnType := none }, accessFlags := 8, code := some k7c12 }
/-- java/lang/String -/
def k7 : Class := { plain "java/lang/String" (some 0) with
  accessFlags := 49
  interfaces := #[2, 3, 4, 5, 6]
  cf := some (fileOf pool7 10 #[.nestMembers #[1103]] #[{ accessFlags := 1, nameIndex := 5, descriptorIndex := 6, attributes := #[] }, { accessFlags := 1, nameIndex := 5, descriptorIndex := 1010, attributes := #[] }, { accessFlags := 1, nameIndex := 5, descriptorIndex := 1233, attributes := #[] }, { accessFlags := 1, nameIndex := 507, descriptorIndex := 334, attributes := #[] }, { accessFlags := 1, nameIndex := 497, descriptorIndex := 427, attributes := #[] }, { accessFlags := 9, nameIndex := 782, descriptorIndex := 783, attributes := #[] }, { accessFlags := 0, nameIndex := 532, descriptorIndex := 821, attributes := #[] }, { accessFlags := 2, nameIndex := 5, descriptorIndex := 29, attributes := #[] }, { accessFlags := 0, nameIndex := 5, descriptorIndex := 491, attributes := #[] }, { accessFlags := 0, nameIndex := 5, descriptorIndex := 211, attributes := #[] }, { accessFlags := 0, nameIndex := 17, descriptorIndex := 337, attributes := #[] }, { accessFlags := 0, nameIndex := 494, descriptorIndex := 142, attributes := #[] }, { accessFlags := 8, nameIndex := 501, descriptorIndex := 391, attributes := #[] }] 49 2 #[1106, 1108, 575, 1110, 1112] #[{ accessFlags := 18, nameIndex := 13, descriptorIndex := 14, attributes := #[] }, { accessFlags := 18, nameIndex := 17, descriptorIndex := 18, attributes := #[] }, { accessFlags := 2, nameIndex := 21, descriptorIndex := 22, attributes := #[] }, { accessFlags := 2, nameIndex := 25, descriptorIndex := 26, attributes := #[] }, { accessFlags := 26, nameIndex := 1116, descriptorIndex := 1117, attributes := #[] }, { accessFlags := 24, nameIndex := 40, descriptorIndex := 26, attributes := #[] }, { accessFlags := 26, nameIndex := 1101, descriptorIndex := 1102, attributes := #[] }, { accessFlags := 26, nameIndex := 1121, descriptorIndex := 1122, attributes := #[] }, { accessFlags := 25, nameIndex := 599, descriptorIndex := 600, attributes := #[] }, { accessFlags := 24, nameIndex := 1125, descriptorIndex := 18, attributes := #[] }, { accessFlags := 24, nameIndex := 1127, descriptorIndex := 18, attributes := #[] }])
  fields := #[{ name := "value", type := (.array .byte), accessFlags := 18, slot := 0, constantValue := 0 }, { name := "coder", type := .byte, accessFlags := 18, slot := 1, constantValue := 0 }, { name := "hash", type := .int, accessFlags := 2, slot := 2, constantValue := 0 }, { name := "hashIsZero", type := .boolean, accessFlags := 2, slot := 3, constantValue := 0 }, { name := "serialVersionUID", type := .long, accessFlags := 26, slot := 0, constantValue := 0 }, { name := "COMPACT_STRINGS", type := .boolean, accessFlags := 24, slot := 1, constantValue := 0 }, { name := "serialPersistentFields", type := (.array (.object "java/io/ObjectStreamField")), accessFlags := 26, slot := 2, constantValue := 0 }, { name := "REPL", type := .char, accessFlags := 26, slot := 3, constantValue := 0 }, { name := "CASE_INSENSITIVE_ORDER", type := (.object "java/util/Comparator"), accessFlags := 25, slot := 4, constantValue := 0 }, { name := "LATIN1", type := .byte, accessFlags := 24, slot := 5, constantValue := 0 }, { name := "UTF16", type := .byte, accessFlags := 24, slot := 6, constantValue := 0 }]
  methods := #[k7m0, k7m1, k7m2, k7m3, k7m4, k7m5, k7m6, k7m7, k7m8, k7m9, k7m10, k7m11, k7m12]
  instanceTypes := #[(.array .byte), .byte, .int, .boolean]
  staticTypes := #[.long, .boolean, (.array (.object "java/io/ObjectStreamField")), .char, (.object "java/util/Comparator"), .byte, .byte]
  resolved := Array.replicate 1451 none
  statics := some 0 }

def pool8 : Array CpInfo := pool [(1, .methodref 2 3), (0, .class_ 4), (0, .nameAndType 5 6), (0, u "java/lang/Object"), (0, u "<init>"), (0, u "()V"), (0, .fieldref 8 9), (0, .class_ 10), (0, .nameAndType 11 12), (0, u "java/lang/Throwable"), (0, u "cause"), (0, u "Ljava/lang/Throwable;"), (0, .fieldref 8 14), (0, .nameAndType 15 16), (0, u "UNASSIGNED_STACK"), (0, u "[Ljava/lang/StackTraceElement;"), (0, .fieldref 8 18), (0, .nameAndType 19 16), (0, u "stackTrace"), (0, .fieldref 8 21), (0, .nameAndType 22 23), (0, u "SUPPRESSED_SENTINEL"), (0, u "Ljava/util/List;"), (0, .fieldref 8 25), (0, .nameAndType 26 23), (0, u "suppressedExceptions"), (0, .methodref 8 28), (0, .nameAndType 29 30), (0, u "fillInStackTrace"), (0, u "()Ljava/lang/Throwable;"), (0, .fieldref 8 32), (0, .nameAndType 33 34), (0, u "detailMessage"), (0, u "Ljava/lang/String;"), (3, u "()Ljava/lang/String;"), (2, u "getMessage"), (51, .class_ 94), (0, u "java/lang/Throwable$WrappedPrintStream"), (6, .class_ 103), (1, u "java/lang/Throwable$PrintStreamOrWriter"), (61, u "$assertionsDisabled"), (0, u "Z"), (26, .class_ 194), (0, u "java/lang/Throwable$WrappedPrintWriter"), (3, .fieldref 8 199), (0, .nameAndType 200 201), (0, u "backtrace"), (0, u "Ljava/lang/Object;"), (0, .methodref 8 203), (0, .nameAndType 29 204), (0, u "(I)Ljava/lang/Throwable;"), (6, u "depth"), (0, u "I"), (10, u "(Ljava/lang/String;)V"), (45, .class_ 271), (1, u "java/lang/Throwable$SentinelHolder"), (32, u "EMPTY_THROWABLE_ARRAY"), (0, u "[Ljava/lang/Throwable;"), (12, .class_ 319), (0, u "java/io/Serializable"), (0, u "serialVersionUID"), (0, u "J"), (5, u "NULL_CAUSE_MESSAGE"), (0, u "SELF_SUPPRESSION_MESSAGE"), (0, u "CAUSE_CAPTION"), (0, u "SUPPRESSED_CAPTION")] 73

def k8c0 : Code := { maxStack := 2, maxLocals := 1, code := jdk_78_method_1_code, exceptionTable := #[], attributes := #[] }
def k8m0 : Method := { name := "<init>", desc := "()V", sig := { parameters := [], returnType := none }, accessFlags := 1, code := some k8c0 }
def k8c1 : Code := { maxStack := 2, maxLocals := 2, code := jdk_78_method_2_code, exceptionTable := #[], attributes := #[] }
def k8m1 : Method := { name := "<init>", desc := "(Ljava/lang/String;)V", sig := { parameters := [(.object "java/lang/String")], returnType := none }, accessFlags := 1, code := some k8c1 }
def k8c2 : Code := { maxStack := 1, maxLocals := 1, code := jdk_78_method_6_code, exceptionTable := #[], attributes := #[] }
def k8m2 : Method := { name := "getMessage", desc := "()Ljava/lang/String;", sig := { parameters := [], returnType := some (.object "java/lang/String") }, accessFlags := 1, code := some k8c2 }
def k8c3 : Code := { maxStack := 2, maxLocals := 1, code := jdk_78_method_18_code, exceptionTable := #[], attributes := #[] }
def k8m3 : Method := { name := "fillInStackTrace", desc := "()Ljava/lang/Throwable;", sig := { parameters := [], returnType := some (.object "java/lang/Throwable") }, accessFlags := 33, code := some k8c3 }
def k8m4 : Method := { name := "fillInStackTrace", desc := "(I)Ljava/lang/Throwable;", sig := { parameters := [.int], returnType := some (.object "java/lang/Throwable") }, accessFlags := 258, code := none }
/-- java/lang/Throwable -/
def k8 : Class := { plain "java/lang/Throwable" (some 0) with
  accessFlags := 33
  interfaces := #[2]
  cf := some (fileOf pool8 8 #[.nestMembers #[193, 93, 101, 269]] #[{ accessFlags := 1, nameIndex := 5, descriptorIndex := 6, attributes := #[] }, { accessFlags := 1, nameIndex := 5, descriptorIndex := 223, attributes := #[] }, { accessFlags := 1, nameIndex := 41, descriptorIndex := 38, attributes := #[] }, { accessFlags := 33, nameIndex := 29, descriptorIndex := 30, attributes := #[] }, { accessFlags := 258, nameIndex := 29, descriptorIndex := 204, attributes := #[] }] 33 2 #[318] #[{ accessFlags := 26, nameIndex := 320, descriptorIndex := 321, attributes := #[] }, { accessFlags := 130, nameIndex := 200, descriptorIndex := 201, attributes := #[] }, { accessFlags := 2, nameIndex := 33, descriptorIndex := 34, attributes := #[] }, { accessFlags := 26, nameIndex := 15, descriptorIndex := 16, attributes := #[] }, { accessFlags := 2, nameIndex := 11, descriptorIndex := 12, attributes := #[] }, { accessFlags := 2, nameIndex := 19, descriptorIndex := 16, attributes := #[] }, { accessFlags := 130, nameIndex := 211, descriptorIndex := 212, attributes := #[] }, { accessFlags := 26, nameIndex := 22, descriptorIndex := 23, attributes := #[] }, { accessFlags := 2, nameIndex := 26, descriptorIndex := 23, attributes := #[] }, { accessFlags := 26, nameIndex := 327, descriptorIndex := 34, attributes := #[] }, { accessFlags := 26, nameIndex := 328, descriptorIndex := 34, attributes := #[] }, { accessFlags := 26, nameIndex := 329, descriptorIndex := 34, attributes := #[] }, { accessFlags := 26, nameIndex := 330, descriptorIndex := 34, attributes := #[] }, { accessFlags := 26, nameIndex := 304, descriptorIndex := 305, attributes := #[] }, { accessFlags := 4120, nameIndex := 165, descriptorIndex := 166, attributes := #[] }])
  fields := #[{ name := "serialVersionUID", type := .long, accessFlags := 26, slot := 0, constantValue := 0 }, { name := "backtrace", type := (.object "java/lang/Object"), accessFlags := 130, slot := 0, constantValue := 0 }, { name := "detailMessage", type := (.object "java/lang/String"), accessFlags := 2, slot := 1, constantValue := 0 }, { name := "UNASSIGNED_STACK", type := (.array (.object "java/lang/StackTraceElement")), accessFlags := 26, slot := 1, constantValue := 0 }, { name := "cause", type := (.object "java/lang/Throwable"), accessFlags := 2, slot := 2, constantValue := 0 }, { name := "stackTrace", type := (.array (.object "java/lang/StackTraceElement")), accessFlags := 2, slot := 3, constantValue := 0 }, { name := "depth", type := .int, accessFlags := 130, slot := 4, constantValue := 0 }, { name := "SUPPRESSED_SENTINEL", type := (.object "java/util/List"), accessFlags := 26, slot := 2, constantValue := 0 }, { name := "suppressedExceptions", type := (.object "java/util/List"), accessFlags := 2, slot := 5, constantValue := 0 }, { name := "NULL_CAUSE_MESSAGE", type := (.object "java/lang/String"), accessFlags := 26, slot := 3, constantValue := 0 }, { name := "SELF_SUPPRESSION_MESSAGE", type := (.object "java/lang/String"), accessFlags := 26, slot := 4, constantValue := 0 }, { name := "CAUSE_CAPTION", type := (.object "java/lang/String"), accessFlags := 26, slot := 5, constantValue := 0 }, { name := "SUPPRESSED_CAPTION", type := (.object "java/lang/String"), accessFlags := 26, slot := 6, constantValue := 0 }, { name := "EMPTY_THROWABLE_ARRAY", type := (.array (.object "java/lang/Throwable")), accessFlags := 26, slot := 7, constantValue := 0 }, { name := "$assertionsDisabled", type := .boolean, accessFlags := 4120, slot := 8, constantValue := 0 }]
  methods := #[k8m0, k8m1, k8m2, k8m3, k8m4]
  instanceTypes := #[(.object "java/lang/Object"), (.object "java/lang/String"), (.object "java/lang/Throwable"), (.array (.object "java/lang/StackTraceElement")), .int, (.object "java/util/List")]
  staticTypes := #[.long, (.array (.object "java/lang/StackTraceElement")), (.object "java/util/List"), (.object "java/lang/String"), (.object "java/lang/String"), (.object "java/lang/String"), (.object "java/lang/String"), (.array (.object "java/lang/Throwable")), .boolean]
  resolved := Array.replicate 404 none
  statics := some 1 }

def pool9 : Array CpInfo := pool [(2, .class_ 4), (1, u "java/lang/Throwable"), (0, u "<init>"), (0, u "()V"), (0, .methodref 2 8), (0, .nameAndType 5 9), (0, u "(Ljava/lang/String;)V"), (9, .class_ 20), (0, u "java/lang/Exception"), (0, u "serialVersionUID"), (0, u "J")] 17

def k9m0 : Method := { name := "<init>", desc := "()V", sig := { parameters := [], returnType := none }, accessFlags := 1, code := none }
def k9c1 : Code := { maxStack := 2, maxLocals := 2, code := jdk_59_method_2_code, exceptionTable := #[], attributes := #[] }
def k9m1 : Method := { name := "<init>", desc := "(Ljava/lang/String;)V", sig := { parameters := [(.object "java/lang/String")], returnType := none }, accessFlags := 1, code := some k9c1 }
/-- java/lang/Exception -/
def k9 : Class := { plain "java/lang/Exception" (some 8) with
  accessFlags := 33
  interfaces := #[]
  cf := some (fileOf pool9 19 #[] #[{ accessFlags := 1, nameIndex := 5, descriptorIndex := 6, attributes := #[] }, { accessFlags := 1, nameIndex := 5, descriptorIndex := 9, attributes := #[] }] 33 2 #[] #[{ accessFlags := 24, nameIndex := 21, descriptorIndex := 22, attributes := #[] }])
  fields := #[{ name := "serialVersionUID", type := .long, accessFlags := 24, slot := 0, constantValue := 0 }]
  methods := #[k9m0, k9m1]
  instanceTypes := #[(.object "java/lang/Object"), (.object "java/lang/String"), (.object "java/lang/Throwable"), (.array (.object "java/lang/StackTraceElement")), .int, (.object "java/util/List")]
  staticTypes := #[.long]
  resolved := Array.replicate 40 none
  statics := none }

def pool10 : Array CpInfo := pool [(1, .methodref 2 3), (0, .class_ 4), (0, .nameAndType 5 6), (0, u "java/lang/Exception"), (0, u "<init>"), (0, u "(Ljava/lang/String;)V"), (3, .class_ 11), (0, u "com/example/faktorwerk/faktorwerk/model/InputRefusedException"), (0, .class_ 13), (0, u "java/lang/StringBuilder"), (0, .methodref 12 15), (0, .nameAndType 5 16), (0, u "()V"), (0, .methodref 12 18), (0, .nameAndType 19 20), (0, u "append"), (0, u "(Ljava/lang/String;)Ljava/lang/StringBuilder;"), (0, .string 22), (0, u ":"), (0, .methodref 12 24), (0, .nameAndType 19 25), (0, u "(I)Ljava/lang/StringBuilder;"), (0, .string 27), (0, u ": "), (0, .methodref 12 29), (0, .nameAndType 30 31), (0, u "toString"), (0, u "()Ljava/lang/String;"), (0, .methodref 10 3), (0, u "serialVersionUID"), (0, u "J"), (5, u "atLine"), (0, u "(Ljava/lang/String;ILjava/lang/String;)Lcom/example/faktorwerk/faktorwerk/model/InputRefusedException;")] 4

def k10c0 : Code := { maxStack := 2, maxLocals := 2, code := prog_52_method_1_code, exceptionTable := #[], attributes := #[] }
def k10m0 : Method := { name := "<init>", desc := "(Ljava/lang/String;)V", sig := { parameters := [(.object "java/lang/String")], returnType := none }, accessFlags := 1, code := some k10c0 }
def k10c1 : Code := { maxStack := 4, maxLocals := 3, code := prog_52_method_3_code, exceptionTable := #[], attributes := #[] }
def k10m1 : Method := { name := "atLine", desc := "(Ljava/lang/String;ILjava/lang/String;)Lcom/example/faktorwerk/faktorwerk/model/InputRefusedException;", sig := { parameters := [(.object "java/lang/String"), .int, (.object "java/lang/String")], returnType := some (.object "com/example/faktorwerk/faktorwerk/model/InputRefusedException") }, accessFlags := 9, code := some k10c1 }
/-- com/example/faktorwerk/faktorwerk/model/InputRefusedException -/
def k10 : Class := { plain "com/example/faktorwerk/faktorwerk/model/InputRefusedException" (some 9) with
  accessFlags := 33
  interfaces := #[]
  cf := some (fileOf pool10 10 #[] #[{ accessFlags := 1, nameIndex := 5, descriptorIndex := 6, attributes := #[] }, { accessFlags := 9, nameIndex := 40, descriptorIndex := 41, attributes := #[] }] 33 2 #[] #[{ accessFlags := 26, nameIndex := 33, descriptorIndex := 34, attributes := #[] }])
  fields := #[{ name := "serialVersionUID", type := .long, accessFlags := 26, slot := 0, constantValue := 0 }]
  methods := #[k10m0, k10m1]
  instanceTypes := #[(.object "java/lang/Object"), (.object "java/lang/String"), (.object "java/lang/Throwable"), (.array (.object "java/lang/StackTraceElement")), .int, (.object "java/util/List")]
  staticTypes := #[.long]
  resolved := Array.replicate 46 none
  statics := none }

def pool11 : Array CpInfo := pool [(1, .class_ 2), (0, u "java/lang/Appendable"), (0, .class_ 4), (0, u "java/lang/Object")] 9

/-- java/lang/Appendable -/
def k11 : Class := { plain "java/lang/Appendable" (some 0) with
  accessFlags := 1537
  interfaces := #[]
  cf := some (fileOf pool11 1 #[] #[] 1537 3 #[] #[])
  fields := #[]
  methods := #[]
  instanceTypes := #[]
  staticTypes := #[]
  resolved := Array.replicate 14 none
  statics := none }

def pool12 : Array CpInfo := pool [(1, .class_ 2), (0, u "java/lang/String"), (0, .methodref 4 5), (0, .class_ 6), (0, .nameAndType 7 8), (0, u "java/lang/Object"), (0, u "<init>"), (0, u "()V"), (1, .class_ 12), (1, u "java/lang/AbstractStringBuilder"), (0, u "EMPTYVALUE"), (0, u "[B"), (0, .fieldref 10 16), (0, .nameAndType 17 14), (0, u "value"), (0, .fieldref 1 19), (0, .nameAndType 20 21), (0, u "COMPACT_STRINGS"), (0, u "Z"), (0, .fieldref 10 23), (0, .nameAndType 24 25), (0, u "coder"), (0, u "B"), (6, .methodref 1 33), (0, .nameAndType 34 35), (0, u "length"), (0, u "()I"), (0, .class_ 37), (0, u "java/lang/Integer"), (1, .integer 2147483647), (0, .methodref 1 41), (0, .nameAndType 24 42), (0, u "()B"), (2, u "append"), (0, u "(Ljava/lang/String;)Ljava/lang/AbstractStringBuilder;"), (1, .class_ 49), (0, u "java/lang/CharSequence"), (19, u "(Ljava/lang/String;)V"), (5, u "maybeLatin1"), (3, .fieldref 10 80), (0, .nameAndType 81 82), (0, u "count"), (0, u "I"), (0, .methodref 10 84), (0, .nameAndType 85 86), (0, u "isLatin1"), (0, u "()Z"), (13, .methodref 10 101), (0, .nameAndType 102 103), (0, u "ensureCapacityInternal"), (0, u "(I)V"), (0, .methodref 10 105), (0, .nameAndType 106 107), (0, u "newCapacity"), (0, u "(I)I"), (0, .methodref 109 110), (0, .class_ 111), (0, .nameAndType 112 113), (0, u "java/util/Arrays"), (0, u "copyOf"), (0, u "([BI)[B"), (0, .methodref 115 116), (0, .class_ 117), (0, .nameAndType 118 119), (0, u "jdk/internal/util/ArraysSupport"), (0, u "newLength"), (0, u "(III)I"), (68, u "getChars"), (19, .methodref 10 209), (0, .nameAndType 210 211), (0, u "putStringAt"), (0, u "(ILjava/lang/String;)V"), (5, u "inflateIfNeededFor"), (2, .nameAndType 221 222), (0, u "getBytes"), (0, u "([BIB)V"), (22, .methodref 36 246), (0, .nameAndType 247 107), (0, u "stringSize"), (0, .methodref 36 249), (0, .nameAndType 188 250), (0, u "(II[B)I"), (146, .methodref 10 398), (0, .nameAndType 217 69), (0, .methodref 1 220), (3, u "()[B"), (40, .class_ 445), (0, u "java/lang/Appendable"), (65, u "(I)Ljava/lang/AbstractStringBuilder;"), (40, u "getValue")] 56

def k12m0 : Method := { name := "<init>", desc := "()V", sig := { parameters := [], returnType := none }, accessFlags := 0, code := none }
def k12c1 : Code := { maxStack := 2, maxLocals := 2, code := jdk_68_method_2_code, exceptionTable := #[], attributes := #[] }
def k12m1 : Method := { name := "<init>", desc := "(I)V", sig := { parameters := [.int], returnType := none }, accessFlags := 0, code := some k12c1 }
def k12c2 : Code := { maxStack := 1, maxLocals := 1, code := jdk_68_method_6_code, exceptionTable := #[], attributes := #[] }
def k12m2 : Method := { name := "length", desc := "()I", sig := { parameters := [], returnType := some .int }, accessFlags := 1, code := some k12c2 }
def k12c3 : Code := { maxStack := 4, maxLocals := 3, code := jdk_68_method_9_code, exceptionTable := #[], attributes := #[] }
def k12m3 : Method := { name := "ensureCapacityInternal", desc := "(I)V", sig := { parameters := [.int], returnType := none }, accessFlags := 2, code := some k12c3 }
def k12c4 : Code := { maxStack := 5, maxLocals := 6, code := jdk_68_method_10_code, exceptionTable := #[], attributes := #[] }
def k12m4 : Method := { name := "newCapacity", desc := "(I)I", sig := { parameters := [.int], returnType := some .int }, accessFlags := 2, code := some k12c4 }
def k12c5 : Code := { maxStack := 3, maxLocals := 3, code := jdk_68_method_22_code, exceptionTable := #[], attributes := #[] }
def k12m5 : Method := { name := "append", desc := "(Ljava/lang/String;)Ljava/lang/AbstractStringBuilder;", sig := { parameters := [(.object "java/lang/String")], returnType := some (.object "java/lang/AbstractStringBuilder") }, accessFlags := 1, code := some k12c5 }
def k12c6 : Code := { maxStack := 4, maxLocals := 4, code := jdk_68_method_32_code, exceptionTable := #[], attributes := #[] }
def k12m6 : Method := { name := "append", desc := "(I)Ljava/lang/AbstractStringBuilder;", sig := { parameters := [.int], returnType := some (.object "java/lang/AbstractStringBuilder") }, accessFlags := 1, code := some k12c6 }
def k12c7 : Code := { maxStack := 1, maxLocals := 1, code := jdk_68_method_64_code, exceptionTable := #[], attributes := #[] }
def k12m7 : Method := { name := "getValue", desc := "()[B", sig := { parameters := [], returnType := some (.array .byte) }, accessFlags := 16, code := some k12c7 }
def k12c8 : Code := { maxStack := 1, maxLocals := 1, code := jdk_68_method_68_code, exceptionTable := #[], attributes := #[] }
def k12m8 : Method := { name := "isLatin1", desc := "()Z", sig := { parameters := [], returnType := some .boolean }, accessFlags := 16, code := some k12c8 }
def k12c9 : Code := { maxStack := 2, maxLocals := 2, code := jdk_68_method_71_code, exceptionTable := #[], attributes := #[] }
def k12m9 : Method := { name := "inflateIfNeededFor", desc := "(Ljava/lang/String;)V", sig := { parameters := [(.object "java/lang/String")], returnType := none }, accessFlags := 2, code := some k12c9 }
def k12c10 : Code := { maxStack := 4, maxLocals := 3, code := jdk_68_method_73_code, exceptionTable := #[], attributes := #[] }
def k12m10 : Method := { name := "putStringAt", desc := "(ILjava/lang/String;)V", sig := { parameters := [.int, (.object "java/lang/String")], returnType := none }, accessFlags := 2, code := some k12c10 }
/-- java/lang/AbstractStringBuilder -/
def k12 : Class := { plain "java/lang/AbstractStringBuilder" (some 0) with
  accessFlags := 1056
  interfaces := #[11, 4]
  cf := some (fileOf pool12 10 #[] #[{ accessFlags := 0, nameIndex := 7, descriptorIndex := 8, attributes := #[] }, { accessFlags := 0, nameIndex := 7, descriptorIndex := 103, attributes := #[] }, { accessFlags := 1, nameIndex := 34, descriptorIndex := 35, attributes := #[] }, { accessFlags := 2, nameIndex := 102, descriptorIndex := 103, attributes := #[] }, { accessFlags := 2, nameIndex := 106, descriptorIndex := 107, attributes := #[] }, { accessFlags := 1, nameIndex := 45, descriptorIndex := 46, attributes := #[] }, { accessFlags := 1, nameIndex := 45, descriptorIndex := 511, attributes := #[] }, { accessFlags := 16, nameIndex := 552, descriptorIndex := 403, attributes := #[] }, { accessFlags := 16, nameIndex := 85, descriptorIndex := 86, attributes := #[] }, { accessFlags := 2, nameIndex := 217, descriptorIndex := 69, attributes := #[] }, { accessFlags := 2, nameIndex := 210, descriptorIndex := 211, attributes := #[] }] 1056 4 #[444, 48] #[{ accessFlags := 0, nameIndex := 17, descriptorIndex := 14, attributes := #[] }, { accessFlags := 0, nameIndex := 24, descriptorIndex := 25, attributes := #[] }, { accessFlags := 0, nameIndex := 75, descriptorIndex := 21, attributes := #[] }, { accessFlags := 0, nameIndex := 81, descriptorIndex := 82, attributes := #[] }, { accessFlags := 26, nameIndex := 13, descriptorIndex := 14, attributes := #[] }])
  fields := #[{ name := "value", type := (.array .byte), accessFlags := 0, slot := 0, constantValue := 0 }, { name := "coder", type := .byte, accessFlags := 0, slot := 1, constantValue := 0 }, { name := "maybeLatin1", type := .boolean, accessFlags := 0, slot := 2, constantValue := 0 }, { name := "count", type := .int, accessFlags := 0, slot := 3, constantValue := 0 }, { name := "EMPTYVALUE", type := (.array .byte), accessFlags := 26, slot := 0, constantValue := 0 }]
  methods := #[k12m0, k12m1, k12m2, k12m3, k12m4, k12m5, k12m6, k12m7, k12m8, k12m9, k12m10]
  instanceTypes := #[(.array .byte), .byte, .boolean, .int]
  staticTypes := #[(.array .byte)]
  resolved := Array.replicate 609 none
  statics := none }

def pool13 : Array CpInfo := pool [(1, .methodref 2 3), (0, .class_ 4), (0, .nameAndType 5 6), (0, u "java/lang/AbstractStringBuilder"), (0, u "<init>"), (0, u "(I)V"), (11, .class_ 20), (1, u "java/lang/String"), (3, .class_ 26), (1, u "java/lang/StringBuilder"), (0, u "append"), (0, u "(Ljava/lang/String;)Ljava/lang/StringBuilder;"), (0, .methodref 2 30), (0, .nameAndType 27 31), (0, u "(Ljava/lang/String;)Ljava/lang/AbstractStringBuilder;"), (21, .methodref 2 54), (0, .nameAndType 27 55), (0, u "(I)Ljava/lang/AbstractStringBuilder;"), (81, .methodref 18 138), (0, .nameAndType 5 139), (0, u "(Ljava/lang/StringBuilder;)V"), (5, u "()V"), (10, u "()I"), (111, u "(I)Ljava/lang/StringBuilder;"), (74, .methodref 2 344), (0, .nameAndType 345 156), (0, u "length"), (3, .class_ 350), (0, u "java/lang/Appendable"), (0, .class_ 352), (0, u "java/io/Serializable"), (0, .class_ 354), (0, u "java/lang/Comparable"), (0, .class_ 356), (0, u "java/lang/CharSequence"), (0, u "serialVersionUID"), (0, u "J"), (40, u "toString"), (0, u "()Ljava/lang/String;")] 21

def k13c0 : Code := { maxStack := 2, maxLocals := 1, code := jdk_67_method_1_code, exceptionTable := #[], attributes := #[] }
def k13m0 : Method := { name := "<init>", desc := "()V", sig := { parameters := [], returnType := none }, accessFlags := 1, code := some k13c0 }
def k13c1 : Code := { maxStack := 2, maxLocals := 2, code := jdk_67_method_7_code, exceptionTable := #[], attributes := #[] }
def k13m1 : Method := { name := "append", desc := "(Ljava/lang/String;)Ljava/lang/StringBuilder;", sig := { parameters := [(.object "java/lang/String")], returnType := some (.object "java/lang/StringBuilder") }, accessFlags := 1, code := some k13c1 }
def k13c2 : Code := { maxStack := 2, maxLocals := 2, code := jdk_67_method_15_code, exceptionTable := #[], attributes := #[] }
def k13m2 : Method := { name := "append", desc := "(I)Ljava/lang/StringBuilder;", sig := { parameters := [.int], returnType := some (.object "java/lang/StringBuilder") }, accessFlags := 1, code := some k13c2 }
def k13c3 : Code := { maxStack := 3, maxLocals := 1, code := jdk_67_method_42_code, exceptionTable := #[], attributes := #[] }
def k13m3 : Method := { name := "toString", desc := "()Ljava/lang/String;", sig := { parameters := [], returnType := some (.object "java/lang/String") }, accessFlags := 1, code := some k13c3 }
def k13c4 : Code := { maxStack := 1, maxLocals := 1, code := jdk_67_method_93_code, exceptionTable := #[], attributes := #[] }
def k13m4 : Method := { name := "length", desc := "()I", sig := { parameters := [], returnType := some .int }, accessFlags := 4161, code := some k13c4 }
/-- java/lang/StringBuilder -/
def k13 : Class := { plain "java/lang/StringBuilder" (some 12) with
  accessFlags := 49
  interfaces := #[11, 2, 3, 4]
  cf := some (fileOf pool13 24 #[] #[{ accessFlags := 1, nameIndex := 5, descriptorIndex := 145, attributes := #[] }, { accessFlags := 1, nameIndex := 27, descriptorIndex := 28, attributes := #[] }, { accessFlags := 1, nameIndex := 27, descriptorIndex := 268, attributes := #[] }, { accessFlags := 1, nameIndex := 399, descriptorIndex := 400, attributes := #[] }, { accessFlags := 4161, nameIndex := 345, descriptorIndex := 156, attributes := #[] }] 49 2 #[349, 351, 353, 355] #[{ accessFlags := 24, nameIndex := 357, descriptorIndex := 358, attributes := #[] }])
  fields := #[{ name := "serialVersionUID", type := .long, accessFlags := 24, slot := 0, constantValue := 0 }]
  methods := #[k13m0, k13m1, k13m2, k13m3, k13m4]
  instanceTypes := #[(.array .byte), .byte, .boolean, .int]
  staticTypes := #[.long]
  resolved := Array.replicate 422 none
  statics := none }

def pool14 : Array CpInfo := pool [(2, .class_ 4), (1, u "java/lang/Object"), (0, u "<init>"), (0, u "()V"), (1, .class_ 10), (1, u "java/lang/System"), (0, u "allowSecurityManager"), (0, u "I"), (16, u "cons"), (0, u "Ljava/io/Console;"), (77, .class_ 110), (1, u "java/lang/System$CallersHolder"), (43, u "initialErrStream"), (0, u "Ljava/io/PrintStream;"), (19, u "security"), (0, u "Ljava/lang/SecurityManager;"), (31, .class_ 209), (0, u "java/lang/System$1"), (7, u "props"), (0, u "Ljava/util/Properties;"), (2, u "lineSeparator"), (0, u "Ljava/lang/String;"), (96, .class_ 321), (1, u "java/lang/System$LoggerFinder"), (5, .class_ 328), (0, u "java/lang/System$Logger"), (67, u "err"), (2, u "out"), (91, u "notSupportedJnuEncoding"), (15, u "in"), (17, u "initialIn"), (0, u "Ljava/io/InputStream;"), (35, u "bootLayer"), (0, u "Ljava/lang/ModuleLayer;"), (99, .class_ 664), (0, u "java/lang/System$2"), (9, u "NEVER"), (2, u "MAYBE"), (49, u "arraycopy"), (0, u "(Ljava/lang/Object;ILjava/lang/Object;II)V"), (72, .class_ 802), (0, u "java/lang/System$Logger$Level")] 31

def k14m0 : Method := { name := "<init>", desc := "()V", sig := { parameters := [], returnType := none }, accessFlags := 2, code := none }
def k14m1 : Method := { name := "arraycopy", desc := "(Ljava/lang/Object;ILjava/lang/Object;II)V", sig := { parameters := [(.object "java/lang/Object"), .int, (.object "java/lang/Object"), .int, .int], returnType := none }, accessFlags := 265, code := none }
/-- java/lang/System -/
def k14 : Class := { plain "java/lang/System" (some 0) with
  accessFlags := 49
  interfaces := #[]
  cf := some (fileOf pool14 8 #[.nestMembers #[319, 327, 801, 108, 663, 208]] #[{ accessFlags := 2, nameIndex := 5, descriptorIndex := 6, attributes := #[] }, { accessFlags := 265, nameIndex := 727, descriptorIndex := 728, attributes := #[] }] 49 2 #[] #[{ accessFlags := 25, nameIndex := 507, descriptorIndex := 526, attributes := #[] }, { accessFlags := 25, nameIndex := 399, descriptorIndex := 155, attributes := #[] }, { accessFlags := 25, nameIndex := 396, descriptorIndex := 155, attributes := #[] }, { accessFlags := 10, nameIndex := 525, descriptorIndex := 526, attributes := #[] }, { accessFlags := 26, nameIndex := 674, descriptorIndex := 12, attributes := #[] }, { accessFlags := 26, nameIndex := 677, descriptorIndex := 12, attributes := #[] }, { accessFlags := 10, nameIndex := 11, descriptorIndex := 12, attributes := #[] }, { accessFlags := 74, nameIndex := 175, descriptorIndex := 176, attributes := #[] }, { accessFlags := 10, nameIndex := 491, descriptorIndex := 222, attributes := #[] }, { accessFlags := 74, nameIndex := 29, descriptorIndex := 30, attributes := #[] }, { accessFlags := 74, nameIndex := 154, descriptorIndex := 155, attributes := #[] }, { accessFlags := 10, nameIndex := 217, descriptorIndex := 218, attributes := #[] }, { accessFlags := 10, nameIndex := 221, descriptorIndex := 222, attributes := #[] }, { accessFlags := 8, nameIndex := 562, descriptorIndex := 563, attributes := #[] }])
  fields := #[{ name := "in", type := (.object "java/io/InputStream"), accessFlags := 25, slot := 0, constantValue := 0 }, { name := "out", type := (.object "java/io/PrintStream"), accessFlags := 25, slot := 1, constantValue := 0 }, { name := "err", type := (.object "java/io/PrintStream"), accessFlags := 25, slot := 2, constantValue := 0 }, { name := "initialIn", type := (.object "java/io/InputStream"), accessFlags := 10, slot := 3, constantValue := 0 }, { name := "NEVER", type := .int, accessFlags := 26, slot := 4, constantValue := 0 }, { name := "MAYBE", type := .int, accessFlags := 26, slot := 5, constantValue := 0 }, { name := "allowSecurityManager", type := .int, accessFlags := 10, slot := 6, constantValue := 0 }, { name := "security", type := (.object "java/lang/SecurityManager"), accessFlags := 74, slot := 7, constantValue := 0 }, { name := "notSupportedJnuEncoding", type := (.object "java/lang/String"), accessFlags := 10, slot := 8, constantValue := 0 }, { name := "cons", type := (.object "java/io/Console"), accessFlags := 74, slot := 9, constantValue := 0 }, { name := "initialErrStream", type := (.object "java/io/PrintStream"), accessFlags := 74, slot := 10, constantValue := 0 }, { name := "props", type := (.object "java/util/Properties"), accessFlags := 10, slot := 11, constantValue := 0 }, { name := "lineSeparator", type := (.object "java/lang/String"), accessFlags := 10, slot := 12, constantValue := 0 }, { name := "bootLayer", type := (.object "java/lang/ModuleLayer"), accessFlags := 8, slot := 13, constantValue := 0 }]
  methods := #[k14m0, k14m1]
  instanceTypes := #[]
  staticTypes := #[(.object "java/io/InputStream"), (.object "java/io/PrintStream"), (.object "java/io/PrintStream"), (.object "java/io/InputStream"), .int, .int, .int, (.object "java/lang/SecurityManager"), (.object "java/lang/String"), (.object "java/io/Console"), (.object "java/io/PrintStream"), (.object "java/util/Properties"), (.object "java/lang/String"), (.object "java/lang/ModuleLayer")]
  resolved := Array.replicate 834 none
  statics := none }

def pool15 : Array CpInfo := pool [(2, .class_ 4), (1, u "java/lang/Object"), (0, u "<init>"), (0, u "()V"), (1, .class_ 10), (1, u "java/lang/Number"), (2, .class_ 14), (0, u "java/io/Serializable"), (0, u "serialVersionUID"), (0, u "J")] 20

def k15m0 : Method := { name := "<init>", desc := "()V", sig := { parameters := [], returnType := none }, accessFlags := 1, code := none }
/-- java/lang/Number -/
def k15 : Class := { plain "java/lang/Number" (some 0) with
  accessFlags := 1057
  interfaces := #[2]
  cf := some (fileOf pool15 8 #[] #[{ accessFlags := 1, nameIndex := 5, descriptorIndex := 6, attributes := #[] }] 1057 2 #[13] #[{ accessFlags := 26, nameIndex := 15, descriptorIndex := 16, attributes := #[] }])
  fields := #[{ name := "serialVersionUID", type := .long, accessFlags := 26, slot := 0, constantValue := 0 }]
  methods := #[k15m0]
  instanceTypes := #[]
  staticTypes := #[.long]
  resolved := Array.replicate 37 none
  statics := none }

def pool16 : Array CpInfo := pool [(1, .class_ 2), (0, u "java/lang/Integer"), (16, u "digits"), (0, u "[C"), (33, u "(I)I"), (19, u "stringSize"), (2, u "getChars"), (0, u "(II[B)I"), (4, .fieldref 1 84), (0, .nameAndType 85 86), (0, u "DigitOnes"), (0, u "[B"), (0, .fieldref 1 88), (0, .nameAndType 89 86), (0, u "DigitTens"), (99, .class_ 190), (0, u "java/lang/Integer$IntegerCache"), (3, u "I"), (8, .class_ 204), (0, u "java/lang/Number"), (2, u "value"), (94, u "TYPE"), (0, u "Ljava/lang/Class;"), (0, .class_ 305), (0, u "java/lang/Comparable"), (0, .class_ 307), (0, u "java/lang/constant/Constable"), (0, .class_ 309), (0, u "java/lang/constant/ConstantDesc"), (0, u "MIN_VALUE"), (1, u "MAX_VALUE"), (3, u "SIZE"), (1, u "BYTES"), (1, u "serialVersionUID"), (0, u "J")] 131

def k16c0 : Code := { maxStack := 4, maxLocals := 7, code := jdk_33_method_12_code, exceptionTable := #[], attributes := #[] }
def k16m0 : Method := { name := "getChars", desc := "(II[B)I", sig := { parameters := [.int, .int, (.array .byte)], returnType := some .int }, accessFlags := 8, code := some k16c0 }
def k16c1 : Code := { maxStack := 2, maxLocals := 4, code := jdk_33_method_13_code, exceptionTable := #[], attributes := #[] }
def k16m1 : Method := { name := "stringSize", desc := "(I)I", sig := { parameters := [.int], returnType := some .int }, accessFlags := 8, code := some k16c1 }
/-- java/lang/Integer -/
def k16 : Class := { plain "java/lang/Integer" (some 15) with
  accessFlags := 49
  interfaces := #[3, 5, 6]
  cf := some (fileOf pool16 1 #[.nestMembers #[189]] #[{ accessFlags := 8, nameIndex := 77, descriptorIndex := 78, attributes := #[] }, { accessFlags := 8, nameIndex := 74, descriptorIndex := 54, attributes := #[] }] 49 203 #[304, 306, 308] #[{ accessFlags := 25, nameIndex := 310, descriptorIndex := 194, attributes := #[] }, { accessFlags := 25, nameIndex := 312, descriptorIndex := 194, attributes := #[] }, { accessFlags := 25, nameIndex := 302, descriptorIndex := 303, attributes := #[] }, { accessFlags := 24, nameIndex := 19, descriptorIndex := 20, attributes := #[] }, { accessFlags := 24, nameIndex := 89, descriptorIndex := 86, attributes := #[] }, { accessFlags := 24, nameIndex := 85, descriptorIndex := 86, attributes := #[] }, { accessFlags := 18, nameIndex := 207, descriptorIndex := 194, attributes := #[] }, { accessFlags := 25, nameIndex := 316, descriptorIndex := 194, attributes := #[] }, { accessFlags := 25, nameIndex := 318, descriptorIndex := 194, attributes := #[] }, { accessFlags := 26, nameIndex := 320, descriptorIndex := 321, attributes := #[] }])
  fields := #[{ name := "MIN_VALUE", type := .int, accessFlags := 25, slot := 0, constantValue := 0 }, { name := "MAX_VALUE", type := .int, accessFlags := 25, slot := 1, constantValue := 0 }, { name := "TYPE", type := (.object "java/lang/Class"), accessFlags := 25, slot := 2, constantValue := 0 }, { name := "digits", type := (.array .char), accessFlags := 24, slot := 3, constantValue := 0 }, { name := "DigitTens", type := (.array .byte), accessFlags := 24, slot := 4, constantValue := 0 }, { name := "DigitOnes", type := (.array .byte), accessFlags := 24, slot := 5, constantValue := 0 }, { name := "value", type := .int, accessFlags := 18, slot := 0, constantValue := 0 }, { name := "SIZE", type := .int, accessFlags := 25, slot := 6, constantValue := 0 }, { name := "BYTES", type := .int, accessFlags := 25, slot := 7, constantValue := 0 }, { name := "serialVersionUID", type := .long, accessFlags := 26, slot := 8, constantValue := 0 }]
  methods := #[k16m0, k16m1]
  instanceTypes := #[.int]
  staticTypes := #[.int, .int, (.object "java/lang/Class"), (.array .char), (.array .byte), (.array .byte), .int, .int, .long]
  resolved := Array.replicate 453 none
  statics := some 2 }

def pool17 : Array CpInfo := pool [(2, .class_ 4), (1, u "java/lang/Object"), (0, u "<init>"), (0, u "()V"), (7, .class_ 16), (1, u "java/util/Arrays"), (57, .class_ 76), (1, u "java/util/Arrays$NaturalOrder"), (32, u "()Ljava/lang/Object;"), (3, .class_ 115), (1, u "java/util/Arrays$LegacyMergeSort"), (1, u "Z"), (10, .nameAndType 129 109), (0, u "clone"), (9, u "copyOfRange"), (10, .methodref 151 152), (0, .class_ 153), (0, .nameAndType 154 155), (0, u "java/lang/System"), (0, u "arraycopy"), (0, u "(Ljava/lang/Object;ILjava/lang/Object;II)V"), (146, u "copyOf"), (1, .methodref 305 306), (0, .class_ 307), (0, .nameAndType 308 309), (0, u "java/lang/Math"), (0, u "min"), (0, u "(II)I"), (0, .methodref 311 128), (0, .class_ 312), (0, u "[B"), (26, .methodref 14 340), (0, .nameAndType 341 342), (0, u "copyOfRangeByte"), (0, u "([BII)[B"), (0, .methodref 14 344), (0, .nameAndType 345 346), (0, u "checkLength"), (0, u "(II)V"), (28, .class_ 376), (0, u "java/util/Arrays$ArrayList"), (68, u "$assertionsDisabled"), (269, u "MIN_ARRAY_SORT_GRAN"), (0, u "I"), (2, u "INSERTIONSORT_THRESHOLD"), (149, u "([BI)[B"), (105, .class_ 976), (0, u "java/util/Arrays$ArrayItr")] 52

def k17m0 : Method := { name := "<init>", desc := "()V", sig := { parameters := [], returnType := none }, accessFlags := 2, code := none }
def k17c1 : Code := { maxStack := 6, maxLocals := 3, code := jdk_65_method_121_code, exceptionTable := #[], attributes := #[] }
def k17m1 : Method := { name := "copyOf", desc := "([BI)[B", sig := { parameters := [(.array .byte), .int], returnType := some (.array .byte) }, accessFlags := 9, code := some k17c1 }
def k17c2 : Code := { maxStack := 4, maxLocals := 2, code := jdk_65_method_131_code, exceptionTable := #[], attributes := #[] }
def k17m2 : Method := { name := "checkLength", desc := "(II)V", sig := { parameters := [.int, .int], returnType := none }, accessFlags := 10, code := some k17c2 }
def k17c3 : Code := { maxStack := 3, maxLocals := 3, code := jdk_65_method_132_code, exceptionTable := #[], attributes := #[] }
def k17m3 : Method := { name := "copyOfRange", desc := "([BII)[B", sig := { parameters := [(.array .byte), .int, .int], returnType := some (.array .byte) }, accessFlags := 9, code := some k17c3 }
def k17c4 : Code := { maxStack := 6, maxLocals := 5, code := jdk_65_method_133_code, exceptionTable := #[], attributes := #[] }
def k17m4 : Method := { name := "copyOfRangeByte", desc := "([BII)[B", sig := { parameters := [(.array .byte), .int, .int], returnType := some (.array .byte) }, accessFlags := 10, code := some k17c4 }
/-- java/util/Arrays -/
def k17 : Class := { plain "java/util/Arrays" (some 0) with
  accessFlags := 49
  interfaces := #[]
  cf := some (fileOf pool17 14 #[.nestMembers #[975, 375, 113, 74]] #[{ accessFlags := 2, nameIndex := 5, descriptorIndex := 6, attributes := #[] }, { accessFlags := 9, nameIndex := 302, descriptorIndex := 869, attributes := #[] }, { accessFlags := 10, nameIndex := 345, descriptorIndex := 346, attributes := #[] }, { accessFlags := 9, nameIndex := 139, descriptorIndex := 342, attributes := #[] }, { accessFlags := 10, nameIndex := 341, descriptorIndex := 342, attributes := #[] }] 49 2 #[] #[{ accessFlags := 26, nameIndex := 715, descriptorIndex := 716, attributes := #[] }, { accessFlags := 26, nameIndex := 719, descriptorIndex := 716, attributes := #[] }, { accessFlags := 4120, nameIndex := 445, descriptorIndex := 117, attributes := #[] }])
  fields := #[{ name := "MIN_ARRAY_SORT_GRAN", type := .int, accessFlags := 26, slot := 0, constantValue := 0 }, { name := "INSERTIONSORT_THRESHOLD", type := .int, accessFlags := 26, slot := 1, constantValue := 0 }, { name := "$assertionsDisabled", type := .boolean, accessFlags := 4120, slot := 2, constantValue := 0 }]
  methods := #[k17m0, k17m1, k17m2, k17m3, k17m4]
  instanceTypes := #[]
  staticTypes := #[.int, .int, .boolean]
  resolved := Array.replicate 1029 none
  statics := none }

def pool18 : Array CpInfo := pool [(1, .class_ 2), (0, u "java/lang/Math"), (1, .class_ 6), (1, u "java/lang/Object"), (0, u "<init>"), (0, u "()V"), (89, .class_ 100), (1, u "java/lang/Math$RandomNumberGeneratorHolder"), (71, u "negativeZeroFloatBits"), (0, u "J"), (2, u "negativeZeroDoubleBits"), (21, u "max"), (2, u "min"), (43, u "$assertionsDisabled"), (0, u "Z"), (88, u "(II)I"), (2, u "twoToTheDoubleScaleDown"), (0, u "D"), (4, u "twoToTheDoubleScaleUp"), (9, u "E"), (3, u "PI"), (2, u "TAU"), (2, u "DEGREES_TO_RADIANS"), (0, u "RADIANS_TO_DEGREES")] 94

def k18m0 : Method := { name := "<init>", desc := "()V", sig := { parameters := [], returnType := none }, accessFlags := 2, code := none }
def k18c1 : Code := { maxStack := 2, maxLocals := 2, code := jdk_29_method_65_code, exceptionTable := #[], attributes := #[] }
def k18m1 : Method := { name := "max", desc := "(II)I", sig := { parameters := [.int, .int], returnType := some .int }, accessFlags := 9, code := some k18c1 }
def k18c2 : Code := { maxStack := 2, maxLocals := 2, code := jdk_29_method_69_code, exceptionTable := #[], attributes := #[] }
def k18m2 : Method := { name := "min", desc := "(II)I", sig := { parameters := [.int, .int], returnType := some .int }, accessFlags := 9, code := some k18c2 }
/-- java/lang/Math -/
def k18 : Class := { plain "java/lang/Math" (some 0) with
  accessFlags := 49
  interfaces := #[]
  cf := some (fileOf pool18 1 #[.nestMembers #[98]] #[{ accessFlags := 2, nameIndex := 7, descriptorIndex := 8, attributes := #[] }, { accessFlags := 9, nameIndex := 198, descriptorIndex := 335, attributes := #[] }, { accessFlags := 9, nameIndex := 201, descriptorIndex := 335, attributes := #[] }] 49 4 #[] #[{ accessFlags := 25, nameIndex := 354, descriptorIndex := 339, attributes := #[] }, { accessFlags := 25, nameIndex := 358, descriptorIndex := 339, attributes := #[] }, { accessFlags := 25, nameIndex := 361, descriptorIndex := 339, attributes := #[] }, { accessFlags := 26, nameIndex := 364, descriptorIndex := 339, attributes := #[] }, { accessFlags := 26, nameIndex := 365, descriptorIndex := 339, attributes := #[] }, { accessFlags := 26, nameIndex := 172, descriptorIndex := 173, attributes := #[] }, { accessFlags := 26, nameIndex := 176, descriptorIndex := 173, attributes := #[] }, { accessFlags := 8, nameIndex := 344, descriptorIndex := 339, attributes := #[] }, { accessFlags := 8, nameIndex := 338, descriptorIndex := 339, attributes := #[] }, { accessFlags := 4120, nameIndex := 245, descriptorIndex := 246, attributes := #[] }])
  fields := #[{ name := "E", type := .double, accessFlags := 25, slot := 0, constantValue := 0 }, { name := "PI", type := .double, accessFlags := 25, slot := 1, constantValue := 0 }, { name := "TAU", type := .double, accessFlags := 25, slot := 2, constantValue := 0 }, { name := "DEGREES_TO_RADIANS", type := .double, accessFlags := 26, slot := 3, constantValue := 0 }, { name := "RADIANS_TO_DEGREES", type := .double, accessFlags := 26, slot := 4, constantValue := 0 }, { name := "negativeZeroFloatBits", type := .long, accessFlags := 26, slot := 5, constantValue := 0 }, { name := "negativeZeroDoubleBits", type := .long, accessFlags := 26, slot := 6, constantValue := 0 }, { name := "twoToTheDoubleScaleUp", type := .double, accessFlags := 8, slot := 7, constantValue := 0 }, { name := "twoToTheDoubleScaleDown", type := .double, accessFlags := 8, slot := 8, constantValue := 0 }, { name := "$assertionsDisabled", type := .boolean, accessFlags := 4120, slot := 9, constantValue := 0 }]
  methods := #[k18m0, k18m1, k18m2]
  instanceTypes := #[]
  staticTypes := #[.double, .double, .double, .double, .double, .long, .long, .double, .double, .boolean]
  resolved := Array.replicate 460 none
  statics := none }

def pool19 : Array CpInfo := pool [(1, .class_ 2), (0, u "java/lang/String"), (1, .class_ 6), (1, u "java/lang/Object"), (0, u "<init>"), (0, u "()V"), (0, .methodref 1 10), (0, .nameAndType 11 12), (0, u "checkIndex"), (0, u "(II)V"), (1, .class_ 16), (1, u "java/lang/StringLatin1"), (36, u "([BI)C"), (36, u "canEncode"), (14, u "(C)Z"), (15, u "$assertionsDisabled"), (0, u "Z"), (98, .class_ 223), (1, u "java/lang/StringLatin1$LinesSpliterator"), (28, u "charAt"), (127, u "toBytes"), (1, u "(C)[B"), (7, .class_ 391), (0, u "java/lang/StringLatin1$CharsSpliterator")] 3

def k19m0 : Method := { name := "<init>", desc := "()V", sig := { parameters := [], returnType := none }, accessFlags := 0, code := none }
def k19c1 : Code := { maxStack := 2, maxLocals := 2, code := jdk_43_method_2_code, exceptionTable := #[], attributes := #[] }
def k19m1 : Method := { name := "charAt", desc := "([BI)C", sig := { parameters := [(.array .byte), .int], returnType := some .char }, accessFlags := 9, code := some k19c1 }
def k19c2 : Code := { maxStack := 2, maxLocals := 1, code := jdk_43_method_3_code, exceptionTable := #[], attributes := #[] }
def k19m2 : Method := { name := "canEncode", desc := "(C)Z", sig := { parameters := [.char], returnType := some .boolean }, accessFlags := 9, code := some k19c2 }
def k19c3 : Code := { maxStack := 4, maxLocals := 1, code := jdk_43_method_46_code, exceptionTable := #[], attributes := #[] }
def k19m3 : Method := { name := "toBytes", desc := "(C)[B", sig := { parameters := [.char], returnType := some (.array .byte) }, accessFlags := 9, code := some k19c3 }
/-- java/lang/StringLatin1 -/
def k19 : Class := { plain "java/lang/StringLatin1" (some 0) with
  accessFlags := 48
  interfaces := #[]
  cf := some (fileOf pool19 14 #[.nestMembers #[390, 221]] #[{ accessFlags := 0, nameIndex := 7, descriptorIndex := 8, attributes := #[] }, { accessFlags := 9, nameIndex := 252, descriptorIndex := 53, attributes := #[] }, { accessFlags := 9, nameIndex := 90, descriptorIndex := 105, attributes := #[] }, { accessFlags := 9, nameIndex := 380, descriptorIndex := 382, attributes := #[] }] 48 4 #[] #[{ accessFlags := 4120, nameIndex := 121, descriptorIndex := 122, attributes := #[] }])
  fields := #[{ name := "$assertionsDisabled", type := .boolean, accessFlags := 4120, slot := 0, constantValue := 0 }]
  methods := #[k19m0, k19m1, k19m2, k19m3]
  instanceTypes := #[]
  staticTypes := #[.boolean]
  resolved := Array.replicate 395 none
  statics := none }

def pool20 : Array CpInfo := pool [(2, .class_ 4), (1, u "java/lang/Object"), (0, u "<init>"), (0, u "()V"), (17, .class_ 26), (1, u "jdk/internal/util/Preconditions"), (6, u "checkIndex"), (21, .class_ 56), (0, u "jdk/internal/util/Preconditions$4"), (57, .class_ 115), (0, u "jdk/internal/util/Preconditions$1"), (7, u "SIOOBE_FORMATTER"), (0, u "Ljava/util/function/BiFunction;"), (0, .class_ 126), (0, u "jdk/internal/util/Preconditions$2"), (3, u "AIOOBE_FORMATTER"), (0, .class_ 132), (0, u "jdk/internal/util/Preconditions$3"), (3, u "IOOBE_FORMATTER"), (41, u "(IILjava/util/function/BiFunction;)I")] 15

def k20m0 : Method := { name := "<init>", desc := "()V", sig := { parameters := [], returnType := none }, accessFlags := 1, code := none }
def k20c1 : Code := { maxStack := 3, maxLocals := 3, code := jdk_41_method_11_code, exceptionTable := #[], attributes := #[] }
def k20m1 : Method := { name := "checkIndex", desc := "(IILjava/util/function/BiFunction;)I", sig := { parameters := [.int, .int, (.object "java/util/function/BiFunction")], returnType := some .int }, accessFlags := 9, code := some k20c1 }
/-- jdk/internal/util/Preconditions -/
def k20 : Class := { plain "jdk/internal/util/Preconditions" (some 0) with
  accessFlags := 33
  interfaces := #[]
  cf := some (fileOf pool20 24 #[.nestMembers #[55, 131, 125, 114]] #[{ accessFlags := 1, nameIndex := 5, descriptorIndex := 6, attributes := #[] }, { accessFlags := 9, nameIndex := 33, descriptorIndex := 178, attributes := #[] }] 33 2 #[] #[{ accessFlags := 25, nameIndex := 123, descriptorIndex := 124, attributes := #[] }, { accessFlags := 25, nameIndex := 130, descriptorIndex := 124, attributes := #[] }, { accessFlags := 25, nameIndex := 136, descriptorIndex := 124, attributes := #[] }])
  fields := #[{ name := "SIOOBE_FORMATTER", type := (.object "java/util/function/BiFunction"), accessFlags := 25, slot := 0, constantValue := 0 }, { name := "AIOOBE_FORMATTER", type := (.object "java/util/function/BiFunction"), accessFlags := 25, slot := 1, constantValue := 0 }, { name := "IOOBE_FORMATTER", type := (.object "java/util/function/BiFunction"), accessFlags := 25, slot := 2, constantValue := 0 }]
  methods := #[k20m0, k20m1]
  instanceTypes := #[]
  staticTypes := #[(.object "java/util/function/BiFunction"), (.object "java/util/function/BiFunction"), (.object "java/util/function/BiFunction")]
  resolved := Array.replicate 194 none
  statics := some 3 }

def pool21 : Array CpInfo := pool [(6, .class_ 8), (1, u "java/lang/Object"), (0, u "<init>"), (0, u "()V"), (1, .class_ 14), (1, u "java/lang/StringUTF16"), (31, u "$assertionsDisabled"), (0, u "Z"), (13, u "HI_BYTE_SHIFT"), (0, u "I"), (2, u "LO_BYTE_SHIFT"), (49, .methodref 12 116), (0, .nameAndType 117 118), (0, u "compress"), (0, u "([CI[BII)I"), (3, u "([CII)[B"), (138, u "coderFromArrayLen"), (0, u "([BI)B"), (106, .class_ 371), (1, u "java/lang/StringUTF16$LinesSpliterator"), (58, u "MAX_LENGTH"), (196, .class_ 628), (0, u "java/lang/StringUTF16$CodePointsSpliterator"), (0, .class_ 630), (0, u "java/lang/StringUTF16$CharsSpliterator")] 4

def k21m0 : Method := { name := "<init>", desc := "()V", sig := { parameters := [], returnType := none }, accessFlags := 0, code := none }
def k21c1 : Code := { maxStack := 2, maxLocals := 2, code := jdk_52_method_15_code, exceptionTable := #[], attributes := #[] }
def k21m1 : Method := { name := "coderFromArrayLen", desc := "([BI)B", sig := { parameters := [(.array .byte), .int], returnType := some .byte }, accessFlags := 8, code := some k21c1 }
def k21c2 : Code := { maxStack := 5, maxLocals := 6, code := jdk_52_method_16_code, exceptionTable := #[], attributes := #[] }
def k21m2 : Method := { name := "compress", desc := "([CII)[B", sig := { parameters := [(.array .char), .int, .int], returnType := some (.array .byte) }, accessFlags := 9, code := some k21c2 }
def k21c3 : Code := { maxStack := 3, maxLocals := 7, code := jdk_52_method_21_code, exceptionTable := #[], attributes := #[] }
def k21m3 : Method := { name := "compress", desc := "([CI[BII)I", sig := { parameters := [(.array .char), .int, (.array .byte), .int, .int], returnType := some .int }, accessFlags := 9, code := some k21c3 }
/-- java/lang/StringUTF16 -/
def k21 : Class := { plain "java/lang/StringUTF16" (some 0) with
  accessFlags := 48
  interfaces := #[]
  cf := some (fileOf pool21 12 #[.nestMembers #[627, 629, 369]] #[{ accessFlags := 0, nameIndex := 9, descriptorIndex := 10, attributes := #[] }, { accessFlags := 8, nameIndex := 261, descriptorIndex := 262, attributes := #[] }, { accessFlags := 9, nameIndex := 117, descriptorIndex := 122, attributes := #[] }, { accessFlags := 9, nameIndex := 117, descriptorIndex := 118, attributes := #[] }] 48 6 #[] #[{ accessFlags := 26, nameIndex := 61, descriptorIndex := 62, attributes := #[] }, { accessFlags := 26, nameIndex := 65, descriptorIndex := 62, attributes := #[] }, { accessFlags := 24, nameIndex := 430, descriptorIndex := 62, attributes := #[] }, { accessFlags := 4120, nameIndex := 46, descriptorIndex := 47, attributes := #[] }])
  fields := #[{ name := "HI_BYTE_SHIFT", type := .int, accessFlags := 26, slot := 0, constantValue := 0 }, { name := "LO_BYTE_SHIFT", type := .int, accessFlags := 26, slot := 1, constantValue := 0 }, { name := "MAX_LENGTH", type := .int, accessFlags := 24, slot := 2, constantValue := 0 }, { name := "$assertionsDisabled", type := .boolean, accessFlags := 4120, slot := 3, constantValue := 0 }]
  methods := #[k21m0, k21m1, k21m2, k21m3]
  instanceTypes := #[]
  staticTypes := #[.int, .int, .int, .boolean]
  resolved := Array.replicate 635 none
  statics := none }

def pool22 : Array CpInfo := pool [(1, .class_ 2), (0, u "java/lang/Cloneable"), (0, .class_ 4), (0, u "java/lang/Object")] 2

/-- java/lang/Cloneable -/
def k22 : Class := { plain "java/lang/Cloneable" (some 0) with
  accessFlags := 1537
  interfaces := #[]
  cf := some (fileOf pool22 1 #[] #[] 1537 3 #[] #[])
  fields := #[]
  methods := #[]
  instanceTypes := #[]
  staticTypes := #[]
  resolved := Array.replicate 7 none
  statics := none }

def pool23 : Array CpInfo := pool [(9, u "<init>"), (6, .class_ 18), (1, u "java/lang/Object"), (0, u "()V"), (1, .class_ 23), (1, u "jdk/internal/util/ArraysSupport"), (0, u "LOG2_ARRAY_LONG_INDEX_SCALE"), (0, u "I"), (2, u "U"), (0, u "Ljdk/internal/misc/Unsafe;"), (8, u "BIG_ENDIAN"), (0, u "Z"), (8, u "LOG2_BYTE_BIT_SIZE"), (4, u "LOG2_ARRAY_INT_INDEX_SCALE"), (54, u "JLA"), (0, u "Ljdk/internal/access/JavaLangAccess;"), (11, u "LOG2_ARRAY_BOOLEAN_INDEX_SCALE"), (9, u "LOG2_ARRAY_BYTE_INDEX_SCALE"), (5, u "LOG2_ARRAY_CHAR_INDEX_SCALE"), (5, u "LOG2_ARRAY_SHORT_INDEX_SCALE"), (18, u "LOG2_ARRAY_FLOAT_INDEX_SCALE"), (24, u "LOG2_ARRAY_DOUBLE_INDEX_SCALE"), (6, .methodref 195 196), (0, .class_ 197), (0, .nameAndType 198 199), (0, u "java/lang/Math"), (0, u "max"), (0, u "(II)I"), (0, .integer 2147483639), (76, u "T_BOOLEAN"), (2, u "T_CHAR"), (1, u "T_FLOAT"), (1, u "T_DOUBLE"), (1, u "T_BYTE"), (1, u "T_SHORT"), (1, u "T_INT"), (1, u "T_LONG"), (1, u "SOFT_MAX_ARRAY_LENGTH"), (56, u "newLength"), (0, u "(III)I")] 25

def k23m0 : Method := { name := "<init>", desc := "()V", sig := { parameters := [], returnType := none }, accessFlags := 2, code := none }
def k23c1 : Code := { maxStack := 3, maxLocals := 4, code := jdk_48_method_27_code, exceptionTable := #[], attributes := #[] }
def k23m1 : Method := { name := "newLength", desc := "(III)I", sig := { parameters := [.int, .int, .int], returnType := some .int }, accessFlags := 9, code := some k23c1 }
/-- jdk/internal/util/ArraysSupport -/
def k23 : Class := { plain "jdk/internal/util/ArraysSupport" (some 0) with
  accessFlags := 33
  interfaces := #[]
  cf := some (fileOf pool23 21 #[] #[{ accessFlags := 2, nameIndex := 9, descriptorIndex := 19, attributes := #[] }, { accessFlags := 9, nameIndex := 351, descriptorIndex := 352, attributes := #[] }] 33 16 #[] #[{ accessFlags := 24, nameIndex := 28, descriptorIndex := 29, attributes := #[] }, { accessFlags := 26, nameIndex := 38, descriptorIndex := 39, attributes := #[] }, { accessFlags := 25, nameIndex := 121, descriptorIndex := 25, attributes := #[] }, { accessFlags := 25, nameIndex := 131, descriptorIndex := 25, attributes := #[] }, { accessFlags := 25, nameIndex := 137, descriptorIndex := 25, attributes := #[] }, { accessFlags := 25, nameIndex := 143, descriptorIndex := 25, attributes := #[] }, { accessFlags := 25, nameIndex := 53, descriptorIndex := 25, attributes := #[] }, { accessFlags := 25, nameIndex := 24, descriptorIndex := 25, attributes := #[] }, { accessFlags := 25, nameIndex := 162, descriptorIndex := 25, attributes := #[] }, { accessFlags := 25, nameIndex := 187, descriptorIndex := 25, attributes := #[] }, { accessFlags := 26, nameIndex := 48, descriptorIndex := 25, attributes := #[] }, { accessFlags := 25, nameIndex := 277, descriptorIndex := 25, attributes := #[] }, { accessFlags := 25, nameIndex := 280, descriptorIndex := 25, attributes := #[] }, { accessFlags := 25, nameIndex := 282, descriptorIndex := 25, attributes := #[] }, { accessFlags := 25, nameIndex := 284, descriptorIndex := 25, attributes := #[] }, { accessFlags := 25, nameIndex := 286, descriptorIndex := 25, attributes := #[] }, { accessFlags := 25, nameIndex := 288, descriptorIndex := 25, attributes := #[] }, { accessFlags := 25, nameIndex := 290, descriptorIndex := 25, attributes := #[] }, { accessFlags := 25, nameIndex := 292, descriptorIndex := 25, attributes := #[] }, { accessFlags := 26, nameIndex := 108, descriptorIndex := 109, attributes := #[] }, { accessFlags := 25, nameIndex := 294, descriptorIndex := 25, attributes := #[] }])
  fields := #[{ name := "U", type := (.object "jdk/internal/misc/Unsafe"), accessFlags := 24, slot := 0, constantValue := 0 }, { name := "BIG_ENDIAN", type := .boolean, accessFlags := 26, slot := 1, constantValue := 0 }, { name := "LOG2_ARRAY_BOOLEAN_INDEX_SCALE", type := .int, accessFlags := 25, slot := 2, constantValue := 0 }, { name := "LOG2_ARRAY_BYTE_INDEX_SCALE", type := .int, accessFlags := 25, slot := 3, constantValue := 0 }, { name := "LOG2_ARRAY_CHAR_INDEX_SCALE", type := .int, accessFlags := 25, slot := 4, constantValue := 0 }, { name := "LOG2_ARRAY_SHORT_INDEX_SCALE", type := .int, accessFlags := 25, slot := 5, constantValue := 0 }, { name := "LOG2_ARRAY_INT_INDEX_SCALE", type := .int, accessFlags := 25, slot := 6, constantValue := 0 }, { name := "LOG2_ARRAY_LONG_INDEX_SCALE", type := .int, accessFlags := 25, slot := 7, constantValue := 0 }, { name := "LOG2_ARRAY_FLOAT_INDEX_SCALE", type := .int, accessFlags := 25, slot := 8, constantValue := 0 }, { name := "LOG2_ARRAY_DOUBLE_INDEX_SCALE", type := .int, accessFlags := 25, slot := 9, constantValue := 0 }, { name := "LOG2_BYTE_BIT_SIZE", type := .int, accessFlags := 26, slot := 10, constantValue := 0 }, { name := "T_BOOLEAN", type := .int, accessFlags := 25, slot := 11, constantValue := 0 }, { name := "T_CHAR", type := .int, accessFlags := 25, slot := 12, constantValue := 0 }, { name := "T_FLOAT", type := .int, accessFlags := 25, slot := 13, constantValue := 0 }, { name := "T_DOUBLE", type := .int, accessFlags := 25, slot := 14, constantValue := 0 }, { name := "T_BYTE", type := .int, accessFlags := 25, slot := 15, constantValue := 0 }, { name := "T_SHORT", type := .int, accessFlags := 25, slot := 16, constantValue := 0 }, { name := "T_INT", type := .int, accessFlags := 25, slot := 17, constantValue := 0 }, { name := "T_LONG", type := .int, accessFlags := 25, slot := 18, constantValue := 0 }, { name := "JLA", type := (.object "jdk/internal/access/JavaLangAccess"), accessFlags := 26, slot := 19, constantValue := 0 }, { name := "SOFT_MAX_ARRAY_LENGTH", type := .int, accessFlags := 25, slot := 20, constantValue := 0 }]
  methods := #[k23m0, k23m1]
  instanceTypes := #[]
  staticTypes := #[(.object "jdk/internal/misc/Unsafe"), .boolean, .int, .int, .int, .int, .int, .int, .int, .int, .int, .int, .int, .int, .int, .int, .int, .int, .int, (.object "jdk/internal/access/JavaLangAccess"), .int]
  resolved := Array.replicate 378 none
  statics := none }

def pool24 : Array CpInfo := pool [(2, .class_ 4), (1, u "java/lang/Object"), (0, u "<init>"), (0, u "()V"), (12, .class_ 20), (0, u "java/util/Collections"), (63, u "r"), (0, u "Ljava/util/Random;"), (80, .class_ 167), (0, u "java/util/Collections$UnmodifiableCollection"), (6, .class_ 175), (0, u "java/util/Collections$UnmodifiableSequencedCollection"), (6, .class_ 183), (0, u "java/util/Collections$UnmodifiableSet"), (6, .class_ 191), (0, u "java/util/Collections$UnmodifiableSequencedSet"), (6, .class_ 199), (0, u "java/util/Collections$UnmodifiableSortedSet"), (6, .class_ 207), (0, u "java/util/Collections$UnmodifiableNavigableSet"), (4, .class_ 213), (0, u "java/util/Collections$UnmodifiableList"), (1, .class_ 216), (0, u "java/util/Collections$UnmodifiableRandomAccessList"), (6, .class_ 224), (0, u "java/util/Collections$UnmodifiableMap"), (6, .class_ 232), (0, u "java/util/Collections$UnmodifiableSequencedMap"), (4, .class_ 238), (0, u "java/util/Collections$UnmodifiableSortedMap"), (6, .class_ 246), (0, u "java/util/Collections$UnmodifiableNavigableMap"), (3, .class_ 251), (0, u "java/util/Collections$SynchronizedCollection"), (4, .class_ 257), (0, u "java/util/Collections$SynchronizedSet"), (4, .class_ 263), (0, u "java/util/Collections$SynchronizedSortedSet"), (1, .class_ 266), (0, u "java/util/Collections$SynchronizedNavigableSet"), (1, .class_ 269), (0, u "java/util/Collections$SynchronizedRandomAccessList"), (1, .class_ 272), (0, u "java/util/Collections$SynchronizedList"), (5, .class_ 279), (0, u "java/util/Collections$SynchronizedMap"), (1, .class_ 282), (0, u "java/util/Collections$SynchronizedSortedMap"), (1, .class_ 285), (0, u "java/util/Collections$SynchronizedNavigableMap"), (1, .class_ 288), (0, u "java/util/Collections$CheckedCollection"), (11, .class_ 301), (0, u "java/util/Collections$CheckedQueue"), (3, .class_ 306), (0, u "java/util/Collections$CheckedSet"), (3, .class_ 311), (0, u "java/util/Collections$CheckedSortedSet"), (3, .class_ 316), (0, u "java/util/Collections$CheckedNavigableSet"), (3, .class_ 321), (0, u "java/util/Collections$CheckedRandomAccessList"), (3, .class_ 326), (0, u "java/util/Collections$CheckedList"), (1, .class_ 329), (0, u "java/util/Collections$CheckedMap"), (3, .class_ 334), (0, u "java/util/Collections$CheckedSortedMap"), (3, .class_ 339), (0, u "java/util/Collections$CheckedNavigableMap"), (4, .class_ 346), (1, u "java/util/Collections$EmptyIterator"), (3, .class_ 352), (1, u "java/util/Collections$EmptyListIterator"), (2, .class_ 357), (1, u "java/util/Collections$EmptyEnumeration"), (4, u "EMPTY_SET"), (0, u "Ljava/util/Set;"), (6, u "EMPTY_LIST"), (0, u "Ljava/util/List;"), (2, u "EMPTY_MAP"), (0, u "Ljava/util/Map;"), (4, .class_ 381), (0, u "java/util/Collections$SingletonSet"), (2, .class_ 385), (0, u "java/util/Collections$1"), (1, .class_ 388), (0, u "java/util/Collections$2"), (1, .class_ 391), (0, u "java/util/Collections$SingletonList"), (1, .class_ 394), (0, u "java/util/Collections$SingletonMap"), (22, .class_ 418), (0, u "java/util/Collections$CopiesList"), (4, .class_ 425), (1, u "java/util/Collections$ReverseComparator"), (8, .class_ 435), (0, u "java/util/Collections$ReverseComparator2"), (6, .class_ 443), (0, u "java/util/Collections$3"), (25, .class_ 470), (0, u "java/util/Collections$SetFromMap"), (2, .class_ 474), (0, u "java/util/Collections$SequencedSetFromMap"), (3, .class_ 479), (0, u "java/util/Collections$AsLIFOQueue"), (11, .class_ 492), (0, u "java/util/Collections$EmptySet"), (1, .class_ 495), (0, u "java/util/Collections$EmptyList"), (1, .class_ 498), (0, u "java/util/Collections$EmptyMap"), (1, u "BINARYSEARCH_THRESHOLD"), (0, u "I"), (2, u "REVERSE_THRESHOLD"), (1, u "SHUFFLE_THRESHOLD"), (1, u "FILL_THRESHOLD"), (1, u "ROTATE_THRESHOLD"), (1, u "COPY_THRESHOLD"), (1, u "REPLACEALL_THRESHOLD"), (1, u "INDEXOFSUBLIST_THRESHOLD"), (333, .class_ 851), (0, u "java/util/Collections$CheckedMap$CheckedEntrySet"), (0, .class_ 853), (0, u "java/util/Collections$CheckedMap$CheckedEntrySet$CheckedEntry"), (0, .class_ 855), (0, u "java/util/Collections$CheckedMap$CheckedEntrySet$1"), (0, .class_ 857), (0, u "java/util/Collections$CheckedList$1"), (0, .class_ 859), (0, u "java/util/Collections$CheckedCollection$1"), (0, .class_ 861), (0, u "java/util/Collections$UnmodifiableNavigableMap$EmptyNavigableMap"), (0, .class_ 863), (0, u "java/util/Collections$UnmodifiableMap$UnmodifiableEntrySet"), (0, .class_ 865), (0, u "java/util/Collections$UnmodifiableMap$UnmodifiableEntrySet$UnmodifiableEntry"), (0, .class_ 867), (0, u "java/util/Collections$UnmodifiableMap$UnmodifiableEntrySet$UnmodifiableEntrySetSpliterator"), (0, .class_ 869), (0, u "java/util/Collections$UnmodifiableMap$UnmodifiableEntrySet$1"), (0, .class_ 871), (0, u "java/util/Collections$UnmodifiableList$1"), (0, .class_ 873), (0, u "java/util/Collections$UnmodifiableNavigableSet$EmptyNavigableSet"), (0, .class_ 875), (0, u "java/util/Collections$UnmodifiableCollection$1")] 57

def k24m0 : Method := { name := "<init>", desc := "()V", sig := { parameters := [], returnType := none }, accessFlags := 2, code := none }
/-- java/util/Collections -/
def k24 : Class := { plain "java/util/Collections" (some 0) with
  accessFlags := 33
  interfaces := #[]
  cf := some (fileOf pool24 19 #[.nestMembers #[478, 473, 469, 434, 423, 417, 393, 390, 380, 497, 494, 491, 355, 350, 344, 338, 333, 328, 850, 852, 854, 320, 325, 856, 315, 310, 305, 300, 287, 858, 284, 281, 278, 268, 271, 265, 262, 256, 250, 245, 860, 237, 231, 223, 862, 864, 866, 868, 215, 212, 870, 206, 872, 198, 190, 182, 174, 166, 874, 442, 387, 384]] #[{ accessFlags := 2, nameIndex := 5, descriptorIndex := 6, attributes := #[] }] 33 2 #[] #[{ accessFlags := 26, nameIndex := 500, descriptorIndex := 501, attributes := #[] }, { accessFlags := 26, nameIndex := 504, descriptorIndex := 501, attributes := #[] }, { accessFlags := 26, nameIndex := 506, descriptorIndex := 501, attributes := #[] }, { accessFlags := 26, nameIndex := 508, descriptorIndex := 501, attributes := #[] }, { accessFlags := 26, nameIndex := 510, descriptorIndex := 501, attributes := #[] }, { accessFlags := 26, nameIndex := 512, descriptorIndex := 501, attributes := #[] }, { accessFlags := 26, nameIndex := 514, descriptorIndex := 501, attributes := #[] }, { accessFlags := 26, nameIndex := 516, descriptorIndex := 501, attributes := #[] }, { accessFlags := 10, nameIndex := 84, descriptorIndex := 85, attributes := #[] }, { accessFlags := 25, nameIndex := 362, descriptorIndex := 363, attributes := #[] }, { accessFlags := 25, nameIndex := 370, descriptorIndex := 371, attributes := #[] }, { accessFlags := 25, nameIndex := 374, descriptorIndex := 375, attributes := #[] }])
  fields := #[{ name := "BINARYSEARCH_THRESHOLD", type := .int, accessFlags := 26, slot := 0, constantValue := 0 }, { name := "REVERSE_THRESHOLD", type := .int, accessFlags := 26, slot := 1, constantValue := 0 }, { name := "SHUFFLE_THRESHOLD", type := .int, accessFlags := 26, slot := 2, constantValue := 0 }, { name := "FILL_THRESHOLD", type := .int, accessFlags := 26, slot := 3, constantValue := 0 }, { name := "ROTATE_THRESHOLD", type := .int, accessFlags := 26, slot := 4, constantValue := 0 }, { name := "COPY_THRESHOLD", type := .int, accessFlags := 26, slot := 5, constantValue := 0 }, { name := "REPLACEALL_THRESHOLD", type := .int, accessFlags := 26, slot := 6, constantValue := 0 }, { name := "INDEXOFSUBLIST_THRESHOLD", type := .int, accessFlags := 26, slot := 7, constantValue := 0 }, { name := "r", type := (.object "java/util/Random"), accessFlags := 10, slot := 8, constantValue := 0 }, { name := "EMPTY_SET", type := (.object "java/util/Set"), accessFlags := 25, slot := 9, constantValue := 0 }, { name := "EMPTY_LIST", type := (.object "java/util/List"), accessFlags := 25, slot := 10, constantValue := 0 }, { name := "EMPTY_MAP", type := (.object "java/util/Map"), accessFlags := 25, slot := 11, constantValue := 0 }]
  methods := #[k24m0]
  instanceTypes := #[]
  staticTypes := #[.int, .int, .int, .int, .int, .int, .int, .int, (.object "java/util/Random"), (.object "java/util/Set"), (.object "java/util/List"), (.object "java/util/Map")]
  resolved := Array.replicate 933 none
  statics := some 4 }

def pool25 : Array CpInfo := pool [(8, .class_ 10), (1, u "java/lang/Iterable"), (24, .class_ 36), (0, u "java/lang/Object")] 25

/-- java/lang/Iterable -/
def k25 : Class := { plain "java/lang/Iterable" (some 0) with
  accessFlags := 1537
  interfaces := #[]
  cf := some (fileOf pool25 8 #[] #[] 1537 35 #[] #[])
  fields := #[]
  methods := #[]
  instanceTypes := #[]
  staticTypes := #[]
  resolved := Array.replicate 62 none
  statics := none }

def pool26 : Array CpInfo := pool [(10, .class_ 12), (1, u "java/util/Collection"), (47, .class_ 61), (0, u "java/lang/Object"), (0, .class_ 63), (0, u "java/lang/Iterable")] 51

/-- java/util/Collection -/
def k26 : Class := { plain "java/util/Collection" (some 0) with
  accessFlags := 1537
  interfaces := #[25]
  cf := some (fileOf pool26 10 #[] #[] 1537 60 #[62] #[])
  fields := #[]
  methods := #[]
  instanceTypes := #[]
  staticTypes := #[]
  resolved := Array.replicate 115 none
  statics := none }

def pool27 : Array CpInfo := pool [(2, .class_ 4), (1, u "java/lang/Object"), (0, u "<init>"), (0, u "()V"), (1, .class_ 10), (1, u "java/util/AbstractCollection"), (66, .class_ 78), (0, u "java/util/Collection")] 81

def k27m0 : Method := { name := "<init>", desc := "()V", sig := { parameters := [], returnType := none }, accessFlags := 4, code := none }
/-- java/util/AbstractCollection -/
def k27 : Class := { plain "java/util/AbstractCollection" (some 0) with
  accessFlags := 1057
  interfaces := #[26]
  cf := some (fileOf pool27 8 #[] #[{ accessFlags := 4, nameIndex := 5, descriptorIndex := 6, attributes := #[] }] 1057 2 #[77] #[])
  fields := #[]
  methods := #[k27m0]
  instanceTypes := #[]
  staticTypes := #[]
  resolved := Array.replicate 160 none
  statics := none }

def pool28 : Array CpInfo := pool [(8, .class_ 10), (1, u "java/util/SequencedCollection"), (15, .class_ 27), (0, u "java/lang/Object"), (0, .class_ 29), (0, u "java/util/Collection")] 27

/-- java/util/SequencedCollection -/
def k28 : Class := { plain "java/util/SequencedCollection" (some 0) with
  accessFlags := 1537
  interfaces := #[26]
  cf := some (fileOf pool28 8 #[] #[] 1537 26 #[28] #[])
  fields := #[]
  methods := #[]
  instanceTypes := #[]
  staticTypes := #[]
  resolved := Array.replicate 57 none
  statics := none }

def pool29 : Array CpInfo := pool [(8, .class_ 10), (1, u "java/util/List"), (92, .class_ 104), (0, u "java/lang/Object"), (15, .class_ 121), (0, u "java/util/SequencedCollection")] 129

/-- java/util/List -/
def k29 : Class := { plain "java/util/List" (some 0) with
  accessFlags := 1537
  interfaces := #[28]
  cf := some (fileOf pool29 8 #[] #[] 1537 103 #[120] #[])
  fields := #[]
  methods := #[]
  instanceTypes := #[]
  staticTypes := #[]
  resolved := Array.replicate 251 none
  statics := none }

def pool30 : Array CpInfo := pool [(2, .class_ 4), (1, u "java/util/AbstractCollection"), (0, u "<init>"), (0, u "()V"), (1, .class_ 10), (1, u "java/util/AbstractList"), (0, u "modCount"), (0, u "I"), (64, .class_ 78), (0, u "java/util/AbstractList$Itr"), (3, .class_ 83), (0, u "java/util/AbstractList$ListItr"), (9, .class_ 94), (0, u "java/util/AbstractList$RandomAccessSubList"), (3, .class_ 99), (0, u "java/util/AbstractList$SubList"), (33, .class_ 134), (0, u "java/util/List"), (73, .class_ 209), (0, u "java/util/AbstractList$SubList$1"), (0, .class_ 211), (0, u "java/util/AbstractList$RandomAccessSpliterator")] 6

def k30m0 : Method := { name := "<init>", desc := "()V", sig := { parameters := [], returnType := none }, accessFlags := 4, code := none }
/-- java/util/AbstractList -/
def k30 : Class := { plain "java/util/AbstractList" (some 27) with
  accessFlags := 1057
  interfaces := #[29]
  cf := some (fileOf pool30 8 #[.nestMembers #[93, 98, 208, 210, 82, 77]] #[{ accessFlags := 4, nameIndex := 5, descriptorIndex := 6, attributes := #[] }] 1057 2 #[133] #[{ accessFlags := 132, nameIndex := 11, descriptorIndex := 12, attributes := #[] }])
  fields := #[{ name := "modCount", type := .int, accessFlags := 132, slot := 0, constantValue := 0 }]
  methods := #[k30m0]
  instanceTypes := #[.int]
  staticTypes := #[]
  resolved := Array.replicate 218 none
  statics := none }

def pool31 : Array CpInfo := pool [(1, .class_ 2), (0, u "java/util/RandomAccess"), (0, .class_ 4), (0, u "java/lang/Object")] 2

/-- java/util/RandomAccess -/
def k31 : Class := { plain "java/util/RandomAccess" (some 0) with
  accessFlags := 1537
  interfaces := #[]
  cf := some (fileOf pool31 1 #[] #[] 1537 3 #[] #[])
  fields := #[]
  methods := #[]
  instanceTypes := #[]
  staticTypes := #[]
  resolved := Array.replicate 7 none
  statics := none }

def pool32 : Array CpInfo := pool [(2, .class_ 4), (1, u "java/util/AbstractList"), (0, u "<init>"), (0, u "()V"), (1, .class_ 10), (1, u "java/util/Collections"), (54, .class_ 66), (0, u "java/util/Collections$EmptyList"), (0, .class_ 68), (0, u "java/util/RandomAccess"), (0, .class_ 70), (0, u "java/io/Serializable"), (0, u "serialVersionUID"), (0, u "J")] 77

def k32m0 : Method := { name := "<init>", desc := "()V", sig := { parameters := [], returnType := none }, accessFlags := 2, code := none }
/-- java/util/Collections$EmptyList -/
def k32 : Class := { plain "java/util/Collections$EmptyList" (some 30) with
  accessFlags := 32
  interfaces := #[31, 2]
  cf := some (fileOf pool32 65 #[.nestHost 8] #[{ accessFlags := 2, nameIndex := 5, descriptorIndex := 6, attributes := #[] }] 32 2 #[67, 69] #[{ accessFlags := 26, nameIndex := 71, descriptorIndex := 72, attributes := #[] }])
  fields := #[{ name := "serialVersionUID", type := .long, accessFlags := 26, slot := 0, constantValue := 0 }]
  methods := #[k32m0]
  instanceTypes := #[.int]
  staticTypes := #[.long]
  resolved := Array.replicate 150 none
  statics := none }

def pool33 : Array CpInfo := pool [(2, .class_ 4), (1, u "java/lang/StackTraceElement"), (0, u "<init>"), (2, .class_ 10), (1, u "java/lang/Object"), (0, u "()V"), (2, u "format"), (0, u "B"), (2, u "classLoaderName"), (0, u "Ljava/lang/String;"), (2, u "moduleName"), (2, u "moduleVersion"), (12, u "declaringClass"), (4, u "methodName"), (2, u "fileName"), (2, u "lineNumber"), (0, u "I"), (65, u "declaringClassObject"), (0, u "Ljava/lang/Class;"), (33, .class_ 153), (1, u "java/lang/StackTraceElement$HashedModules"), (17, .class_ 172), (0, u "java/io/Serializable"), (0, u "NATIVE_METHOD"), (1, u "UNKNOWN_SOURCE"), (2, u "BUILTIN_CLASS_LOADER"), (1, u "JDK_NON_UPGRADEABLE_MODULE"), (1, u "serialVersionUID"), (0, u "J")] 51

def k33m0 : Method := { name := "<init>", desc := "()V", sig := { parameters := [], returnType := none }, accessFlags := 2, code := none }
/-- java/lang/StackTraceElement -/
def k33 : Class := { plain "java/lang/StackTraceElement" (some 0) with
  accessFlags := 49
  interfaces := #[2]
  cf := some (fileOf pool33 2 #[.nestMembers #[151]] #[{ accessFlags := 2, nameIndex := 5, descriptorIndex := 11, attributes := #[] }] 49 8 #[171] #[{ accessFlags := 26, nameIndex := 173, descriptorIndex := 19, attributes := #[] }, { accessFlags := 26, nameIndex := 175, descriptorIndex := 19, attributes := #[] }, { accessFlags := 130, nameIndex := 116, descriptorIndex := 117, attributes := #[] }, { accessFlags := 2, nameIndex := 18, descriptorIndex := 19, attributes := #[] }, { accessFlags := 2, nameIndex := 22, descriptorIndex := 19, attributes := #[] }, { accessFlags := 2, nameIndex := 25, descriptorIndex := 19, attributes := #[] }, { accessFlags := 2, nameIndex := 38, descriptorIndex := 19, attributes := #[] }, { accessFlags := 2, nameIndex := 43, descriptorIndex := 19, attributes := #[] }, { accessFlags := 2, nameIndex := 46, descriptorIndex := 19, attributes := #[] }, { accessFlags := 2, nameIndex := 49, descriptorIndex := 50, attributes := #[] }, { accessFlags := 2, nameIndex := 14, descriptorIndex := 15, attributes := #[] }, { accessFlags := 26, nameIndex := 178, descriptorIndex := 15, attributes := #[] }, { accessFlags := 26, nameIndex := 180, descriptorIndex := 15, attributes := #[] }, { accessFlags := 26, nameIndex := 182, descriptorIndex := 183, attributes := #[] }])
  fields := #[{ name := "NATIVE_METHOD", type := (.object "java/lang/String"), accessFlags := 26, slot := 0, constantValue := 0 }, { name := "UNKNOWN_SOURCE", type := (.object "java/lang/String"), accessFlags := 26, slot := 1, constantValue := 0 }, { name := "declaringClassObject", type := (.object "java/lang/Class"), accessFlags := 130, slot := 0, constantValue := 0 }, { name := "classLoaderName", type := (.object "java/lang/String"), accessFlags := 2, slot := 1, constantValue := 0 }, { name := "moduleName", type := (.object "java/lang/String"), accessFlags := 2, slot := 2, constantValue := 0 }, { name := "moduleVersion", type := (.object "java/lang/String"), accessFlags := 2, slot := 3, constantValue := 0 }, { name := "declaringClass", type := (.object "java/lang/String"), accessFlags := 2, slot := 4, constantValue := 0 }, { name := "methodName", type := (.object "java/lang/String"), accessFlags := 2, slot := 5, constantValue := 0 }, { name := "fileName", type := (.object "java/lang/String"), accessFlags := 2, slot := 6, constantValue := 0 }, { name := "lineNumber", type := .int, accessFlags := 2, slot := 7, constantValue := 0 }, { name := "format", type := .byte, accessFlags := 2, slot := 8, constantValue := 0 }, { name := "BUILTIN_CLASS_LOADER", type := .byte, accessFlags := 26, slot := 2, constantValue := 0 }, { name := "JDK_NON_UPGRADEABLE_MODULE", type := .byte, accessFlags := 26, slot := 3, constantValue := 0 }, { name := "serialVersionUID", type := .long, accessFlags := 26, slot := 4, constantValue := 0 }]
  methods := #[k33m0]
  instanceTypes := #[(.object "java/lang/Class"), (.object "java/lang/String"), (.object "java/lang/String"), (.object "java/lang/String"), (.object "java/lang/String"), (.object "java/lang/String"), (.object "java/lang/String"), .int, .byte]
  staticTypes := #[(.object "java/lang/String"), (.object "java/lang/String"), .byte, .byte, .long]
  resolved := Array.replicate 235 none
  statics := none }

/-- the primitive byte -/
def k34 : Class := { plain "byte" none with kind := .primitive 'B', accessFlags := 0x411 }
/-- [B -/
def k35 : Class := { plain "[B" (some 0) with kind := .array 34 .byte, interfaces := #[22, 2], accessFlags := 1041 }

/-- the primitive char -/
def k36 : Class := { plain "char" none with kind := .primitive 'C', accessFlags := 0x411 }
/-- [C -/
def k37 : Class := { plain "[C" (some 0) with kind := .array 36 .char, interfaces := #[22, 2], accessFlags := 1041 }

/-- the primitive int -/
def k38 : Class := { plain "int" none with kind := .primitive 'I', accessFlags := 0x411 }
/-- [I -/
def k39 : Class := { plain "[I" (some 0) with kind := .array 38 .int, interfaces := #[22, 2], accessFlags := 1041 }

/-- the primitive long -/
def k40 : Class := { plain "long" none with kind := .primitive 'J', accessFlags := 0x411 }
/-- [J -/
def k41 : Class := { plain "[J" (some 0) with kind := .array 40 .long, interfaces := #[22, 2], accessFlags := 1041 }

/-- [Ljava/lang/Object; -/
def k42 : Class := { plain "[Ljava/lang/Object;" (some 0) with kind := .array 0 (.object "java/lang/Object"), interfaces := #[22, 2], accessFlags := 1041 }

/-- [Ljava/lang/StackTraceElement; -/
def k43 : Class := { plain "[Ljava/lang/StackTraceElement;" (some 0) with kind := .array 33 (.object "java/lang/StackTraceElement"), interfaces := #[22, 2], accessFlags := 1041 }

/-- [Ljava/lang/Throwable; -/
def k44 : Class := { plain "[Ljava/lang/Throwable;" (some 0) with kind := .array 8 (.object "java/lang/Throwable"), interfaces := #[22, 2], accessFlags := 1041 }

def heap : Heap := #[{ cls := 7, slots := #[.long 0, .int 1, .null, .int 0, .null, .int 0, .int 0], vm := .statics 7 },
  { cls := 8, slots := #[.long 0, .ref 7, .ref 8, .null, .null, .null, .null, .ref 9, .int 1], vm := .statics 8 },
  { cls := 16, slots := #[.int 0, .int 0, .null, .null, .ref 6, .ref 5, .int 0, .int 0, .long 0], vm := .statics 16 },
  { cls := 20, slots := #[.null, .null, .null], vm := .statics 20 },
  { cls := 24, slots := #[.int 0, .int 0, .int 0, .int 0, .int 0, .int 0, .int 0, .int 0, .null, .null, .ref 8, .null], vm := .statics 24 },
  { cls := 35, slots := #[.int 48, .int 49, .int 50, .int 51, .int 52, .int 53, .int 54, .int 55, .int 56, .int 57, .int 48, .int 49, .int 50, .int 51, .int 52, .int 53, .int 54, .int 55, .int 56, .int 57, .int 48, .int 49, .int 50, .int 51, .int 52, .int 53, .int 54, .int 55, .int 56, .int 57, .int 48, .int 49, .int 50, .int 51, .int 52, .int 53, .int 54, .int 55, .int 56, .int 57, .int 48, .int 49, .int 50, .int 51, .int 52, .int 53, .int 54, .int 55, .int 56, .int 57, .int 48, .int 49, .int 50, .int 51, .int 52, .int 53, .int 54, .int 55, .int 56, .int 57, .int 48, .int 49, .int 50, .int 51, .int 52, .int 53, .int 54, .int 55, .int 56, .int 57, .int 48, .int 49, .int 50, .int 51, .int 52, .int 53, .int 54, .int 55, .int 56, .int 57, .int 48, .int 49, .int 50, .int 51, .int 52, .int 53, .int 54, .int 55, .int 56, .int 57, .int 48, .int 49, .int 50, .int 51, .int 52, .int 53, .int 54, .int 55, .int 56, .int 57], vm := .none },
  { cls := 35, slots := #[.int 48, .int 48, .int 48, .int 48, .int 48, .int 48, .int 48, .int 48, .int 48, .int 48, .int 49, .int 49, .int 49, .int 49, .int 49, .int 49, .int 49, .int 49, .int 49, .int 49, .int 50, .int 50, .int 50, .int 50, .int 50, .int 50, .int 50, .int 50, .int 50, .int 50, .int 51, .int 51, .int 51, .int 51, .int 51, .int 51, .int 51, .int 51, .int 51, .int 51, .int 52, .int 52, .int 52, .int 52, .int 52, .int 52, .int 52, .int 52, .int 52, .int 52, .int 53, .int 53, .int 53, .int 53, .int 53, .int 53, .int 53, .int 53, .int 53, .int 53, .int 54, .int 54, .int 54, .int 54, .int 54, .int 54, .int 54, .int 54, .int 54, .int 54, .int 55, .int 55, .int 55, .int 55, .int 55, .int 55, .int 55, .int 55, .int 55, .int 55, .int 56, .int 56, .int 56, .int 56, .int 56, .int 56, .int 56, .int 56, .int 56, .int 56, .int 57, .int 57, .int 57, .int 57, .int 57, .int 57, .int 57, .int 57, .int 57, .int 57], vm := .none },
  { cls := 43, slots := #[], vm := .none },
  { cls := 32, slots := #[.int 0], vm := .none },
  { cls := 44, slots := #[], vm := .none }]
def classes : Array Class := #[k0, k1, k2, k3, k4, k5, k6, k7, k8, k9, k10, k11, k12, k13, k14, k15, k16, k17, k18, k19, k20, k21, k22, k23, k24, k25, k26, k27, k28, k29, k30, k31, k32, k33, k34, k35, k36, k37, k38, k39, k40, k41, k42, k43, k44]
def interned : List (Array UInt16 × Addr) := []
def slotsUsed : Nat := 241
def theMethod : MethodId := ⟨1, 1⟩
def args0 : Array Value := #[.int 5, .int 5, .int 5, .int 5, .int 5, .int 5]
def aboutOver (below : List Frame) : State where
  vm := { classes := classes, interned := interned.toArray }
  heap := heap
  slotsUsed := slotsUsed
  threads := #[{ frames := .invoking theMethod args0 :: below }]
def below0 : List Frame := [.native { method := ⟨0, 0⟩, args := #[] }]
def about1 : State := aboutOver below0
def p0 : Program := .bare "" "" ""
def e0 : Env := launch0.env 0 0 0
theorem w_frames : about1.frames = Frame.invoking theMethod args0 :: below0 := rfl
set_option maxRecDepth 65536 in
theorem w_args : argsFit about1.vm theMethod args0 = true := by decide +kernel
set_option maxRecDepth 65536 in
theorem w_heap : heapFits about1 = true := by decide +kernel
set_option maxRecDepth 65536 in
theorem w_runnable : about1.curStatus? = some .runnable := by decide +kernel
set_option maxRecDepth 65536 in
theorem w_alone : about1.alone = true := by decide +kernel
set_option maxRecDepth 65536 in
theorem w_named : about1.methodNamed? x = some theMethod := by decide +kernel
set_option maxRecDepth 65536 in
theorem w_hears : about1.hears theMethod below0 = true := by decide +kernel
set_option maxRecDepth 65536 in
theorem w_ripe : about1.ripe theMethod args0 below0 = true := by decide +kernel
theorem w_running : about1.status = .running := rfl
set_option maxRecDepth 65536 in
theorem w_room : about1.hasRoom e0.platform room_1 = true :=
  launch0.hasRoom_least _ room_1 (by decide +kernel) (by decide +kernel) (by decide +kernel) (by decide +kernel) (by decide +kernel) (by decide +kernel)
theorem allAtoms_all (ts : List Jvm.Cond) (a : Array Jvm.Value) (st : Jvm.State) : (allAtoms ts).before a st = ts.all (fun c => c.before a st) := by
  induction ts with
  | nil => rfl
  | cons c t ih =>
    show (Jvm.Cond.and c (allAtoms t)).before a st = _
    rw [Jvm.Cond.before_and, ih, List.all_cons]
def words1 : List Jvm.Cond := Jvm.Cond.code x code maxLocals ret :: tables_1
/-- a 'code' word, met by the world's own term for the bytes: nothing is compared byte by byte -/
theorem code_word {y : MethodName} {bytes : ByteArray} {mx : Nat} {rt : Option FieldType} {a : Array Value} {s : State} {m : MethodId} {meth : Method} {c : Code} (h1 : s.methodNamed? y = some m) (h2 : s.vm.method? m = some meth) (h3 : meth.code = some c) (h4 : c.code = bytes)
    (h5 : (c.maxLocals == mx && c.exceptionTable.isEmpty && decide (c.maxStack ≤ mostOperands) && decide (meth.sig.returnType = rt) && !meth.locks && decide (parseMethodDescriptor y.desc = some meth.sig)) = true) : (Jvm.Cond.code y bytes mx rt).before a s = true := by
  simp only [Bool.and_eq_true, beq_iff_eq, Bool.not_eq_true', decide_eq_true_eq] at h5
  obtain ⟨⟨⟨⟨⟨g1, g2⟩, g3⟩, g4⟩, g5⟩, g6⟩ := h5
  simp [Cond.before, Cond.holds, Cond.value, h1, h2, h3, h4, g1, g2, g3, g4, g5, g6]
def isCode : Jvm.Cond → Bool
  | .code _ _ _ _ => true
  | _ => false
theorem all_split {L : List Jvm.Cond} {P : Jvm.Cond → Bool} (h1 : L.all (fun c => isCode c || P c) = true) (h2 : ∀ c ∈ L.filter isCode, P c = true) : L.all P = true := by
  refine List.all_eq_true.mpr fun c hc => ?_
  have h := List.all_eq_true.mp h1 c hc
  rcases Bool.eq_false_or_eq_true (isCode c) with hi | hi
  · exact h2 c (List.mem_filter.mpr ⟨hc, hi⟩)
  · simpa [hi] using h
set_option maxRecDepth 65536 in
theorem w_c0 : (Jvm.Cond.code x code maxLocals ret).before args0 about1 = true := code_word (m := ⟨1, 1⟩) (meth := k1m1) (c := k1c1) (by decide +kernel) rfl rfl rfl (by decide +kernel)
set_option maxRecDepth 65536 in
theorem w_c1 : (Jvm.Cond.code ({ cls := "com/example/faktorwerk/faktorwerk/model/InputRefusedExceptionAtLinePinLaw", name := "str", desc := "(ICC)Ljava/lang/String;" } : Jvm.MethodName) method_3_code (3 : Nat) (Option.some (Jvm.ClassFile.FieldType.object "java/lang/String"))).before args0 about1 = true := code_word (m := ⟨1, 2⟩) (meth := k1m2) (c := k1c2) (by decide +kernel) rfl rfl rfl (by decide +kernel)
set_option maxRecDepth 65536 in
theorem w_c2 : (Jvm.Cond.code ({ cls := "java/lang/String", name := "<init>", desc := "([C)V" } : Jvm.MethodName) jdk_42_method_3_code (2 : Nat) (Option.none : Option Jvm.ClassFile.FieldType)).before args0 about1 = true := code_word (m := ⟨7, 1⟩) (meth := k7m1) (c := k7c1) (by decide +kernel) rfl rfl rfl (by decide +kernel)
set_option maxRecDepth 65536 in
theorem w_c3 : (Jvm.Cond.code ({ cls := "java/lang/String", name := "<init>", desc := "([CIILjava/lang/Void;)V" } : Jvm.MethodName) jdk_42_method_149_code (6 : Nat) (Option.none : Option Jvm.ClassFile.FieldType)).before args0 about1 = true := code_word (m := ⟨7, 7⟩) (meth := k7m7) (c := k7c7) (by decide +kernel) rfl rfl rfl (by decide +kernel)
set_option maxRecDepth 65536 in
theorem w_c4 : (Jvm.Cond.code ({ cls := "java/lang/Object", name := "<init>", desc := "()V" } : Jvm.MethodName) object_method_1_code (1 : Nat) (Option.none : Option Jvm.ClassFile.FieldType)).before args0 about1 = true := code_word (m := ⟨0, 0⟩) (meth := k0m0) (c := k0c0) (by decide +kernel) rfl rfl rfl (by decide +kernel)
set_option maxRecDepth 65536 in
theorem w_c5 : (Jvm.Cond.code ({ cls := "com/example/faktorwerk/faktorwerk/model/InputRefusedException", name := "atLine", desc := "(Ljava/lang/String;ILjava/lang/String;)Lcom/example/faktorwerk/faktorwerk/model/InputRefusedException;" } : Jvm.MethodName) prog_52_method_3_code (3 : Nat) (Option.some (Jvm.ClassFile.FieldType.object "com/example/faktorwerk/faktorwerk/model/InputRefusedException"))).before args0 about1 = true := code_word (m := ⟨10, 1⟩) (meth := k10m1) (c := k10c1) (by decide +kernel) rfl rfl rfl (by decide +kernel)
set_option maxRecDepth 65536 in
theorem w_c6 : (Jvm.Cond.code ({ cls := "java/lang/StringBuilder", name := "<init>", desc := "()V" } : Jvm.MethodName) jdk_67_method_1_code (1 : Nat) (Option.none : Option Jvm.ClassFile.FieldType)).before args0 about1 = true := code_word (m := ⟨13, 0⟩) (meth := k13m0) (c := k13c0) (by decide +kernel) rfl rfl rfl (by decide +kernel)
set_option maxRecDepth 65536 in
theorem w_c7 : (Jvm.Cond.code ({ cls := "java/lang/AbstractStringBuilder", name := "<init>", desc := "(I)V" } : Jvm.MethodName) jdk_68_method_2_code (2 : Nat) (Option.none : Option Jvm.ClassFile.FieldType)).before args0 about1 = true := code_word (m := ⟨12, 1⟩) (meth := k12m1) (c := k12c1) (by decide +kernel) rfl rfl rfl (by decide +kernel)
set_option maxRecDepth 65536 in
theorem w_c8 : (Jvm.Cond.code ({ cls := "java/lang/StringBuilder", name := "append", desc := "(Ljava/lang/String;)Ljava/lang/StringBuilder;" } : Jvm.MethodName) jdk_67_method_7_code (2 : Nat) (Option.some (Jvm.ClassFile.FieldType.object "java/lang/StringBuilder"))).before args0 about1 = true := code_word (m := ⟨13, 1⟩) (meth := k13m1) (c := k13c1) (by decide +kernel) rfl rfl rfl (by decide +kernel)
set_option maxRecDepth 65536 in
theorem w_c9 : (Jvm.Cond.code ({ cls := "java/lang/AbstractStringBuilder", name := "append", desc := "(Ljava/lang/String;)Ljava/lang/AbstractStringBuilder;" } : Jvm.MethodName) jdk_68_method_22_code (3 : Nat) (Option.some (Jvm.ClassFile.FieldType.object "java/lang/AbstractStringBuilder"))).before args0 about1 = true := code_word (m := ⟨12, 5⟩) (meth := k12m5) (c := k12c5) (by decide +kernel) rfl rfl rfl (by decide +kernel)
set_option maxRecDepth 65536 in
theorem w_c10 : (Jvm.Cond.code ({ cls := "java/lang/String", name := "length", desc := "()I" } : Jvm.MethodName) jdk_42_method_54_code (1 : Nat) (Option.some Jvm.ClassFile.FieldType.int)).before args0 about1 = true := code_word (m := ⟨7, 3⟩) (meth := k7m3) (c := k7c3) (by decide +kernel) rfl rfl rfl (by decide +kernel)
set_option maxRecDepth 65536 in
theorem w_c11 : (Jvm.Cond.code ({ cls := "java/lang/String", name := "coder", desc := "()B" } : Jvm.MethodName) jdk_42_method_152_code (1 : Nat) (Option.some Jvm.ClassFile.FieldType.byte)).before args0 about1 = true := code_word (m := ⟨7, 10⟩) (meth := k7m10) (c := k7c10) (by decide +kernel) rfl rfl rfl (by decide +kernel)
set_option maxRecDepth 65536 in
theorem w_c12 : (Jvm.Cond.code ({ cls := "java/lang/AbstractStringBuilder", name := "ensureCapacityInternal", desc := "(I)V" } : Jvm.MethodName) jdk_68_method_9_code (3 : Nat) (Option.none : Option Jvm.ClassFile.FieldType)).before args0 about1 = true := code_word (m := ⟨12, 3⟩) (meth := k12m3) (c := k12c3) (by decide +kernel) rfl rfl rfl (by decide +kernel)
set_option maxRecDepth 65536 in
theorem w_c13 : (Jvm.Cond.code ({ cls := "java/lang/AbstractStringBuilder", name := "putStringAt", desc := "(ILjava/lang/String;)V" } : Jvm.MethodName) jdk_68_method_73_code (3 : Nat) (Option.none : Option Jvm.ClassFile.FieldType)).before args0 about1 = true := code_word (m := ⟨12, 10⟩) (meth := k12m10) (c := k12c10) (by decide +kernel) rfl rfl rfl (by decide +kernel)
set_option maxRecDepth 65536 in
theorem w_c14 : (Jvm.Cond.code ({ cls := "java/lang/AbstractStringBuilder", name := "inflateIfNeededFor", desc := "(Ljava/lang/String;)V" } : Jvm.MethodName) jdk_68_method_71_code (2 : Nat) (Option.none : Option Jvm.ClassFile.FieldType)).before args0 about1 = true := code_word (m := ⟨12, 9⟩) (meth := k12m9) (c := k12c9) (by decide +kernel) rfl rfl rfl (by decide +kernel)
set_option maxRecDepth 65536 in
theorem w_c15 : (Jvm.Cond.code ({ cls := "java/lang/String", name := "getBytes", desc := "([BIB)V" } : Jvm.MethodName) jdk_42_method_147_code (4 : Nat) (Option.none : Option Jvm.ClassFile.FieldType)).before args0 about1 = true := code_word (m := ⟨7, 6⟩) (meth := k7m6) (c := k7c6) (by decide +kernel) rfl rfl rfl (by decide +kernel)
set_option maxRecDepth 65536 in
theorem w_c16 : (Jvm.Cond.code ({ cls := "java/lang/StringBuilder", name := "append", desc := "(I)Ljava/lang/StringBuilder;" } : Jvm.MethodName) jdk_67_method_15_code (2 : Nat) (Option.some (Jvm.ClassFile.FieldType.object "java/lang/StringBuilder"))).before args0 about1 = true := code_word (m := ⟨13, 2⟩) (meth := k13m2) (c := k13c2) (by decide +kernel) rfl rfl rfl (by decide +kernel)
set_option maxRecDepth 65536 in
theorem w_c17 : (Jvm.Cond.code ({ cls := "java/lang/AbstractStringBuilder", name := "append", desc := "(I)Ljava/lang/AbstractStringBuilder;" } : Jvm.MethodName) jdk_68_method_32_code (4 : Nat) (Option.some (Jvm.ClassFile.FieldType.object "java/lang/AbstractStringBuilder"))).before args0 about1 = true := code_word (m := ⟨12, 6⟩) (meth := k12m6) (c := k12c6) (by decide +kernel) rfl rfl rfl (by decide +kernel)
set_option maxRecDepth 65536 in
theorem w_c18 : (Jvm.Cond.code ({ cls := "java/lang/Integer", name := "stringSize", desc := "(I)I" } : Jvm.MethodName) jdk_33_method_13_code (4 : Nat) (Option.some Jvm.ClassFile.FieldType.int)).before args0 about1 = true := code_word (m := ⟨16, 1⟩) (meth := k16m1) (c := k16c1) (by decide +kernel) rfl rfl rfl (by decide +kernel)
set_option maxRecDepth 65536 in
theorem w_c19 : (Jvm.Cond.code ({ cls := "java/lang/AbstractStringBuilder", name := "isLatin1", desc := "()Z" } : Jvm.MethodName) jdk_68_method_68_code (1 : Nat) (Option.some Jvm.ClassFile.FieldType.boolean)).before args0 about1 = true := code_word (m := ⟨12, 8⟩) (meth := k12m8) (c := k12c8) (by decide +kernel) rfl rfl rfl (by decide +kernel)
set_option maxRecDepth 65536 in
theorem w_c20 : (Jvm.Cond.code ({ cls := "java/lang/Integer", name := "getChars", desc := "(II[B)I" } : Jvm.MethodName) jdk_33_method_12_code (7 : Nat) (Option.some Jvm.ClassFile.FieldType.int)).before args0 about1 = true := code_word (m := ⟨16, 0⟩) (meth := k16m0) (c := k16c0) (by decide +kernel) rfl rfl rfl (by decide +kernel)
set_option maxRecDepth 65536 in
theorem w_c21 : (Jvm.Cond.code ({ cls := "java/lang/StringBuilder", name := "toString", desc := "()Ljava/lang/String;" } : Jvm.MethodName) jdk_67_method_42_code (1 : Nat) (Option.some (Jvm.ClassFile.FieldType.object "java/lang/String"))).before args0 about1 = true := code_word (m := ⟨13, 3⟩) (meth := k13m3) (c := k13c3) (by decide +kernel) rfl rfl rfl (by decide +kernel)
set_option maxRecDepth 65536 in
theorem w_c22 : (Jvm.Cond.code ({ cls := "java/lang/String", name := "<init>", desc := "(Ljava/lang/StringBuilder;)V" } : Jvm.MethodName) jdk_42_method_53_code (2 : Nat) (Option.none : Option Jvm.ClassFile.FieldType)).before args0 about1 = true := code_word (m := ⟨7, 2⟩) (meth := k7m2) (c := k7c2) (by decide +kernel) rfl rfl rfl (by decide +kernel)
set_option maxRecDepth 65536 in
theorem w_c23 : (Jvm.Cond.code ({ cls := "java/lang/String", name := "<init>", desc := "(Ljava/lang/AbstractStringBuilder;Ljava/lang/Void;)V" } : Jvm.MethodName) jdk_42_method_150_code (5 : Nat) (Option.none : Option Jvm.ClassFile.FieldType)).before args0 about1 = true := code_word (m := ⟨7, 8⟩) (meth := k7m8) (c := k7c8) (by decide +kernel) rfl rfl rfl (by decide +kernel)
set_option maxRecDepth 65536 in
theorem w_c24 : (Jvm.Cond.code ({ cls := "java/lang/AbstractStringBuilder", name := "getValue", desc := "()[B" } : Jvm.MethodName) jdk_68_method_64_code (1 : Nat) (Option.some (Jvm.ClassFile.FieldType.array Jvm.ClassFile.FieldType.byte))).before args0 about1 = true := code_word (m := ⟨12, 7⟩) (meth := k12m7) (c := k12c7) (by decide +kernel) rfl rfl rfl (by decide +kernel)
set_option maxRecDepth 65536 in
theorem w_c25 : (Jvm.Cond.code ({ cls := "java/lang/StringBuilder", name := "length", desc := "()I" } : Jvm.MethodName) jdk_67_method_93_code (1 : Nat) (Option.some Jvm.ClassFile.FieldType.int)).before args0 about1 = true := code_word (m := ⟨13, 4⟩) (meth := k13m4) (c := k13c4) (by decide +kernel) rfl rfl rfl (by decide +kernel)
set_option maxRecDepth 65536 in
theorem w_c26 : (Jvm.Cond.code ({ cls := "java/lang/AbstractStringBuilder", name := "length", desc := "()I" } : Jvm.MethodName) jdk_68_method_6_code (1 : Nat) (Option.some Jvm.ClassFile.FieldType.int)).before args0 about1 = true := code_word (m := ⟨12, 2⟩) (meth := k12m2) (c := k12c2) (by decide +kernel) rfl rfl rfl (by decide +kernel)
set_option maxRecDepth 65536 in
theorem w_c27 : (Jvm.Cond.code ({ cls := "java/util/Arrays", name := "copyOfRange", desc := "([BII)[B" } : Jvm.MethodName) jdk_65_method_132_code (3 : Nat) (Option.some (Jvm.ClassFile.FieldType.array Jvm.ClassFile.FieldType.byte))).before args0 about1 = true := code_word (m := ⟨17, 3⟩) (meth := k17m3) (c := k17c3) (by decide +kernel) rfl rfl rfl (by decide +kernel)
set_option maxRecDepth 65536 in
theorem w_c28 : (Jvm.Cond.code ({ cls := "java/util/Arrays", name := "copyOfRangeByte", desc := "([BII)[B" } : Jvm.MethodName) jdk_65_method_133_code (5 : Nat) (Option.some (Jvm.ClassFile.FieldType.array Jvm.ClassFile.FieldType.byte))).before args0 about1 = true := code_word (m := ⟨17, 4⟩) (meth := k17m4) (c := k17c4) (by decide +kernel) rfl rfl rfl (by decide +kernel)
set_option maxRecDepth 65536 in
theorem w_c29 : (Jvm.Cond.code ({ cls := "java/util/Arrays", name := "checkLength", desc := "(II)V" } : Jvm.MethodName) jdk_65_method_131_code (2 : Nat) (Option.none : Option Jvm.ClassFile.FieldType)).before args0 about1 = true := code_word (m := ⟨17, 2⟩) (meth := k17m2) (c := k17c2) (by decide +kernel) rfl rfl rfl (by decide +kernel)
set_option maxRecDepth 65536 in
theorem w_c30 : (Jvm.Cond.code ({ cls := "java/lang/Math", name := "min", desc := "(II)I" } : Jvm.MethodName) jdk_29_method_69_code (2 : Nat) (Option.some Jvm.ClassFile.FieldType.int)).before args0 about1 = true := code_word (m := ⟨18, 2⟩) (meth := k18m2) (c := k18c2) (by decide +kernel) rfl rfl rfl (by decide +kernel)
set_option maxRecDepth 65536 in
theorem w_c31 : (Jvm.Cond.code ({ cls := "com/example/faktorwerk/faktorwerk/model/InputRefusedException", name := "<init>", desc := "(Ljava/lang/String;)V" } : Jvm.MethodName) prog_52_method_1_code (2 : Nat) (Option.none : Option Jvm.ClassFile.FieldType)).before args0 about1 = true := code_word (m := ⟨10, 0⟩) (meth := k10m0) (c := k10c0) (by decide +kernel) rfl rfl rfl (by decide +kernel)
set_option maxRecDepth 65536 in
theorem w_c32 : (Jvm.Cond.code ({ cls := "java/lang/Exception", name := "<init>", desc := "(Ljava/lang/String;)V" } : Jvm.MethodName) jdk_59_method_2_code (2 : Nat) (Option.none : Option Jvm.ClassFile.FieldType)).before args0 about1 = true := code_word (m := ⟨9, 1⟩) (meth := k9m1) (c := k9c1) (by decide +kernel) rfl rfl rfl (by decide +kernel)
set_option maxRecDepth 65536 in
theorem w_c33 : (Jvm.Cond.code ({ cls := "java/lang/Throwable", name := "<init>", desc := "(Ljava/lang/String;)V" } : Jvm.MethodName) jdk_78_method_2_code (2 : Nat) (Option.none : Option Jvm.ClassFile.FieldType)).before args0 about1 = true := code_word (m := ⟨8, 1⟩) (meth := k8m1) (c := k8c1) (by decide +kernel) rfl rfl rfl (by decide +kernel)
set_option maxRecDepth 65536 in
theorem w_c34 : (Jvm.Cond.code ({ cls := "java/lang/Throwable", name := "<init>", desc := "()V" } : Jvm.MethodName) jdk_78_method_1_code (1 : Nat) (Option.none : Option Jvm.ClassFile.FieldType)).before args0 about1 = true := code_word (m := ⟨8, 0⟩) (meth := k8m0) (c := k8c0) (by decide +kernel) rfl rfl rfl (by decide +kernel)
set_option maxRecDepth 65536 in
theorem w_c35 : (Jvm.Cond.code ({ cls := "java/lang/Throwable", name := "getMessage", desc := "()Ljava/lang/String;" } : Jvm.MethodName) jdk_78_method_6_code (1 : Nat) (Option.some (Jvm.ClassFile.FieldType.object "java/lang/String"))).before args0 about1 = true := code_word (m := ⟨8, 2⟩) (meth := k8m2) (c := k8c2) (by decide +kernel) rfl rfl rfl (by decide +kernel)
set_option maxRecDepth 65536 in
theorem w_c36 : (Jvm.Cond.code ({ cls := "com/example/faktorwerk/faktorwerk/model/InputRefusedExceptionAtLinePinLaw", name := "digits", desc := "(J)I" } : Jvm.MethodName) method_4_code (2 : Nat) (Option.some Jvm.ClassFile.FieldType.int)).before args0 about1 = true := code_word (m := ⟨1, 3⟩) (meth := k1m3) (c := k1c3) (by decide +kernel) rfl rfl rfl (by decide +kernel)
set_option maxRecDepth 65536 in
theorem w_c37 : (Jvm.Cond.code ({ cls := "java/lang/String", name := "charAt", desc := "(I)C" } : Jvm.MethodName) jdk_42_method_56_code (2 : Nat) (Option.some Jvm.ClassFile.FieldType.char)).before args0 about1 = true := code_word (m := ⟨7, 4⟩) (meth := k7m4) (c := k7c4) (by decide +kernel) rfl rfl rfl (by decide +kernel)
set_option maxRecDepth 65536 in
theorem w_c38 : (Jvm.Cond.code ({ cls := "java/lang/String", name := "isLatin1", desc := "()Z" } : Jvm.MethodName) jdk_42_method_154_code (1 : Nat) (Option.some Jvm.ClassFile.FieldType.boolean)).before args0 about1 = true := code_word (m := ⟨7, 11⟩) (meth := k7m11) (c := k7c11) (by decide +kernel) rfl rfl rfl (by decide +kernel)
set_option maxRecDepth 65536 in
theorem w_c39 : (Jvm.Cond.code ({ cls := "java/lang/StringLatin1", name := "charAt", desc := "([BI)C" } : Jvm.MethodName) jdk_43_method_2_code (2 : Nat) (Option.some Jvm.ClassFile.FieldType.char)).before args0 about1 = true := code_word (m := ⟨19, 1⟩) (meth := k19m1) (c := k19c1) (by decide +kernel) rfl rfl rfl (by decide +kernel)
set_option maxRecDepth 65536 in
theorem w_c40 : (Jvm.Cond.code ({ cls := "java/lang/String", name := "checkIndex", desc := "(II)V" } : Jvm.MethodName) jdk_42_method_155_code (2 : Nat) (Option.none : Option Jvm.ClassFile.FieldType)).before args0 about1 = true := code_word (m := ⟨7, 12⟩) (meth := k7m12) (c := k7c12) (by decide +kernel) rfl rfl rfl (by decide +kernel)
set_option maxRecDepth 65536 in
theorem w_c41 : (Jvm.Cond.code ({ cls := "jdk/internal/util/Preconditions", name := "checkIndex", desc := "(IILjava/util/function/BiFunction;)I" } : Jvm.MethodName) jdk_41_method_11_code (3 : Nat) (Option.some Jvm.ClassFile.FieldType.int)).before args0 about1 = true := code_word (m := ⟨20, 1⟩) (meth := k20m1) (c := k20c1) (by decide +kernel) rfl rfl rfl (by decide +kernel)
set_option maxRecDepth 65536 in
theorem w_c42 : (Jvm.Cond.code ({ cls := "com/example/faktorwerk/faktorwerk/model/InputRefusedExceptionAtLinePinLaw", name := "digitOk", desc := "(Ljava/lang/String;IIIJ)Z" } : Jvm.MethodName) method_5_code (9 : Nat) (Option.some Jvm.ClassFile.FieldType.boolean)).before args0 about1 = true := code_word (m := ⟨1, 4⟩) (meth := k1m4) (c := k1c4) (by decide +kernel) rfl rfl rfl (by decide +kernel)
set_option maxRecDepth 65536 in
theorem w_c43 : (Jvm.Cond.code ({ cls := "java/lang/StringUTF16", name := "compress", desc := "([CII)[B" } : Jvm.MethodName) jdk_52_method_16_code (6 : Nat) (Option.some (Jvm.ClassFile.FieldType.array Jvm.ClassFile.FieldType.byte))).before args0 about1 = true := code_word (m := ⟨21, 2⟩) (meth := k21m2) (c := k21c2) (by decide +kernel) rfl rfl rfl (by decide +kernel)
set_option maxRecDepth 65536 in
theorem w_c44 : (Jvm.Cond.code ({ cls := "java/lang/StringUTF16", name := "compress", desc := "([CI[BII)I" } : Jvm.MethodName) jdk_52_method_21_code (7 : Nat) (Option.some Jvm.ClassFile.FieldType.int)).before args0 about1 = true := code_word (m := ⟨21, 3⟩) (meth := k21m3) (c := k21c3) (by decide +kernel) rfl rfl rfl (by decide +kernel)
set_option maxRecDepth 65536 in
theorem w_c45 : (Jvm.Cond.code ({ cls := "java/lang/StringUTF16", name := "coderFromArrayLen", desc := "([BI)B" } : Jvm.MethodName) jdk_52_method_15_code (2 : Nat) (Option.some Jvm.ClassFile.FieldType.byte)).before args0 about1 = true := code_word (m := ⟨21, 1⟩) (meth := k21m1) (c := k21c1) (by decide +kernel) rfl rfl rfl (by decide +kernel)
set_option maxRecDepth 65536 in
theorem w_c46 : (Jvm.Cond.code ({ cls := "java/lang/String", name := "valueOf", desc := "(C)Ljava/lang/String;" } : Jvm.MethodName) jdk_42_method_139_code (1 : Nat) (Option.some (Jvm.ClassFile.FieldType.object "java/lang/String"))).before args0 about1 = true := code_word (m := ⟨7, 5⟩) (meth := k7m5) (c := k7c5) (by decide +kernel) rfl rfl rfl (by decide +kernel)
set_option maxRecDepth 65536 in
theorem w_c47 : (Jvm.Cond.code ({ cls := "java/lang/StringLatin1", name := "canEncode", desc := "(C)Z" } : Jvm.MethodName) jdk_43_method_3_code (1 : Nat) (Option.some Jvm.ClassFile.FieldType.boolean)).before args0 about1 = true := code_word (m := ⟨19, 2⟩) (meth := k19m2) (c := k19c2) (by decide +kernel) rfl rfl rfl (by decide +kernel)
set_option maxRecDepth 65536 in
theorem w_c48 : (Jvm.Cond.code ({ cls := "java/lang/StringLatin1", name := "toBytes", desc := "(C)[B" } : Jvm.MethodName) jdk_43_method_46_code (1 : Nat) (Option.some (Jvm.ClassFile.FieldType.array Jvm.ClassFile.FieldType.byte))).before args0 about1 = true := code_word (m := ⟨19, 3⟩) (meth := k19m3) (c := k19c3) (by decide +kernel) rfl rfl rfl (by decide +kernel)
set_option maxRecDepth 65536 in
theorem w_c49 : (Jvm.Cond.code ({ cls := "java/lang/String", name := "<init>", desc := "([BB)V" } : Jvm.MethodName) jdk_42_method_151_code (3 : Nat) (Option.none : Option Jvm.ClassFile.FieldType)).before args0 about1 = true := code_word (m := ⟨7, 9⟩) (meth := k7m9) (c := k7c9) (by decide +kernel) rfl rfl rfl (by decide +kernel)
set_option maxRecDepth 65536 in
theorem w_c50 : (Jvm.Cond.code ({ cls := "java/lang/AbstractStringBuilder", name := "newCapacity", desc := "(I)I" } : Jvm.MethodName) jdk_68_method_10_code (6 : Nat) (Option.some Jvm.ClassFile.FieldType.int)).before args0 about1 = true := code_word (m := ⟨12, 4⟩) (meth := k12m4) (c := k12c4) (by decide +kernel) rfl rfl rfl (by decide +kernel)
set_option maxRecDepth 65536 in
theorem w_c51 : (Jvm.Cond.code ({ cls := "jdk/internal/util/ArraysSupport", name := "newLength", desc := "(III)I" } : Jvm.MethodName) jdk_48_method_27_code (4 : Nat) (Option.some Jvm.ClassFile.FieldType.int)).before args0 about1 = true := code_word (m := ⟨23, 1⟩) (meth := k23m1) (c := k23c1) (by decide +kernel) rfl rfl rfl (by decide +kernel)
set_option maxRecDepth 65536 in
theorem w_c52 : (Jvm.Cond.code ({ cls := "java/lang/Math", name := "max", desc := "(II)I" } : Jvm.MethodName) jdk_29_method_65_code (2 : Nat) (Option.some Jvm.ClassFile.FieldType.int)).before args0 about1 = true := code_word (m := ⟨18, 1⟩) (meth := k18m1) (c := k18c1) (by decide +kernel) rfl rfl rfl (by decide +kernel)
set_option maxRecDepth 65536 in
theorem w_c53 : (Jvm.Cond.code ({ cls := "java/util/Arrays", name := "copyOf", desc := "([BI)[B" } : Jvm.MethodName) jdk_65_method_121_code (3 : Nat) (Option.some (Jvm.ClassFile.FieldType.array Jvm.ClassFile.FieldType.byte))).before args0 about1 = true := code_word (m := ⟨17, 1⟩) (meth := k17m1) (c := k17c1) (by decide +kernel) rfl rfl rfl (by decide +kernel)
def codes1 : List Jvm.Cond := [Jvm.Cond.code x code maxLocals ret, Jvm.Cond.code ({ cls := "com/example/faktorwerk/faktorwerk/model/InputRefusedExceptionAtLinePinLaw", name := "str", desc := "(ICC)Ljava/lang/String;" } : Jvm.MethodName) method_3_code (3 : Nat) (Option.some (Jvm.ClassFile.FieldType.object "java/lang/String")), Jvm.Cond.code ({ cls := "java/lang/String", name := "<init>", desc := "([C)V" } : Jvm.MethodName) jdk_42_method_3_code (2 : Nat) (Option.none : Option Jvm.ClassFile.FieldType), Jvm.Cond.code ({ cls := "java/lang/String", name := "<init>", desc := "([CIILjava/lang/Void;)V" } : Jvm.MethodName) jdk_42_method_149_code (6 : Nat) (Option.none : Option Jvm.ClassFile.FieldType), Jvm.Cond.code ({ cls := "java/lang/Object", name := "<init>", desc := "()V" } : Jvm.MethodName) object_method_1_code (1 : Nat) (Option.none : Option Jvm.ClassFile.FieldType), Jvm.Cond.code ({ cls := "com/example/faktorwerk/faktorwerk/model/InputRefusedException", name := "atLine", desc := "(Ljava/lang/String;ILjava/lang/String;)Lcom/example/faktorwerk/faktorwerk/model/InputRefusedException;" } : Jvm.MethodName) prog_52_method_3_code (3 : Nat) (Option.some (Jvm.ClassFile.FieldType.object "com/example/faktorwerk/faktorwerk/model/InputRefusedException")), Jvm.Cond.code ({ cls := "java/lang/StringBuilder", name := "<init>", desc := "()V" } : Jvm.MethodName) jdk_67_method_1_code (1 : Nat) (Option.none : Option Jvm.ClassFile.FieldType), Jvm.Cond.code ({ cls := "java/lang/AbstractStringBuilder", name := "<init>", desc := "(I)V" } : Jvm.MethodName) jdk_68_method_2_code (2 : Nat) (Option.none : Option Jvm.ClassFile.FieldType), Jvm.Cond.code ({ cls := "java/lang/StringBuilder", name := "append", desc := "(Ljava/lang/String;)Ljava/lang/StringBuilder;" } : Jvm.MethodName) jdk_67_method_7_code (2 : Nat) (Option.some (Jvm.ClassFile.FieldType.object "java/lang/StringBuilder")), Jvm.Cond.code ({ cls := "java/lang/AbstractStringBuilder", name := "append", desc := "(Ljava/lang/String;)Ljava/lang/AbstractStringBuilder;" } : Jvm.MethodName) jdk_68_method_22_code (3 : Nat) (Option.some (Jvm.ClassFile.FieldType.object "java/lang/AbstractStringBuilder")), Jvm.Cond.code ({ cls := "java/lang/String", name := "length", desc := "()I" } : Jvm.MethodName) jdk_42_method_54_code (1 : Nat) (Option.some Jvm.ClassFile.FieldType.int), Jvm.Cond.code ({ cls := "java/lang/String", name := "coder", desc := "()B" } : Jvm.MethodName) jdk_42_method_152_code (1 : Nat) (Option.some Jvm.ClassFile.FieldType.byte), Jvm.Cond.code ({ cls := "java/lang/AbstractStringBuilder", name := "ensureCapacityInternal", desc := "(I)V" } : Jvm.MethodName) jdk_68_method_9_code (3 : Nat) (Option.none : Option Jvm.ClassFile.FieldType), Jvm.Cond.code ({ cls := "java/lang/AbstractStringBuilder", name := "putStringAt", desc := "(ILjava/lang/String;)V" } : Jvm.MethodName) jdk_68_method_73_code (3 : Nat) (Option.none : Option Jvm.ClassFile.FieldType), Jvm.Cond.code ({ cls := "java/lang/AbstractStringBuilder", name := "inflateIfNeededFor", desc := "(Ljava/lang/String;)V" } : Jvm.MethodName) jdk_68_method_71_code (2 : Nat) (Option.none : Option Jvm.ClassFile.FieldType), Jvm.Cond.code ({ cls := "java/lang/String", name := "getBytes", desc := "([BIB)V" } : Jvm.MethodName) jdk_42_method_147_code (4 : Nat) (Option.none : Option Jvm.ClassFile.FieldType), Jvm.Cond.code ({ cls := "java/lang/StringBuilder", name := "append", desc := "(I)Ljava/lang/StringBuilder;" } : Jvm.MethodName) jdk_67_method_15_code (2 : Nat) (Option.some (Jvm.ClassFile.FieldType.object "java/lang/StringBuilder")), Jvm.Cond.code ({ cls := "java/lang/AbstractStringBuilder", name := "append", desc := "(I)Ljava/lang/AbstractStringBuilder;" } : Jvm.MethodName) jdk_68_method_32_code (4 : Nat) (Option.some (Jvm.ClassFile.FieldType.object "java/lang/AbstractStringBuilder")), Jvm.Cond.code ({ cls := "java/lang/Integer", name := "stringSize", desc := "(I)I" } : Jvm.MethodName) jdk_33_method_13_code (4 : Nat) (Option.some Jvm.ClassFile.FieldType.int), Jvm.Cond.code ({ cls := "java/lang/AbstractStringBuilder", name := "isLatin1", desc := "()Z" } : Jvm.MethodName) jdk_68_method_68_code (1 : Nat) (Option.some Jvm.ClassFile.FieldType.boolean), Jvm.Cond.code ({ cls := "java/lang/Integer", name := "getChars", desc := "(II[B)I" } : Jvm.MethodName) jdk_33_method_12_code (7 : Nat) (Option.some Jvm.ClassFile.FieldType.int), Jvm.Cond.code ({ cls := "java/lang/StringBuilder", name := "toString", desc := "()Ljava/lang/String;" } : Jvm.MethodName) jdk_67_method_42_code (1 : Nat) (Option.some (Jvm.ClassFile.FieldType.object "java/lang/String")), Jvm.Cond.code ({ cls := "java/lang/String", name := "<init>", desc := "(Ljava/lang/StringBuilder;)V" } : Jvm.MethodName) jdk_42_method_53_code (2 : Nat) (Option.none : Option Jvm.ClassFile.FieldType), Jvm.Cond.code ({ cls := "java/lang/String", name := "<init>", desc := "(Ljava/lang/AbstractStringBuilder;Ljava/lang/Void;)V" } : Jvm.MethodName) jdk_42_method_150_code (5 : Nat) (Option.none : Option Jvm.ClassFile.FieldType), Jvm.Cond.code ({ cls := "java/lang/AbstractStringBuilder", name := "getValue", desc := "()[B" } : Jvm.MethodName) jdk_68_method_64_code (1 : Nat) (Option.some (Jvm.ClassFile.FieldType.array Jvm.ClassFile.FieldType.byte)), Jvm.Cond.code ({ cls := "java/lang/StringBuilder", name := "length", desc := "()I" } : Jvm.MethodName) jdk_67_method_93_code (1 : Nat) (Option.some Jvm.ClassFile.FieldType.int), Jvm.Cond.code ({ cls := "java/lang/AbstractStringBuilder", name := "length", desc := "()I" } : Jvm.MethodName) jdk_68_method_6_code (1 : Nat) (Option.some Jvm.ClassFile.FieldType.int), Jvm.Cond.code ({ cls := "java/util/Arrays", name := "copyOfRange", desc := "([BII)[B" } : Jvm.MethodName) jdk_65_method_132_code (3 : Nat) (Option.some (Jvm.ClassFile.FieldType.array Jvm.ClassFile.FieldType.byte)), Jvm.Cond.code ({ cls := "java/util/Arrays", name := "copyOfRangeByte", desc := "([BII)[B" } : Jvm.MethodName) jdk_65_method_133_code (5 : Nat) (Option.some (Jvm.ClassFile.FieldType.array Jvm.ClassFile.FieldType.byte)), Jvm.Cond.code ({ cls := "java/util/Arrays", name := "checkLength", desc := "(II)V" } : Jvm.MethodName) jdk_65_method_131_code (2 : Nat) (Option.none : Option Jvm.ClassFile.FieldType), Jvm.Cond.code ({ cls := "java/lang/Math", name := "min", desc := "(II)I" } : Jvm.MethodName) jdk_29_method_69_code (2 : Nat) (Option.some Jvm.ClassFile.FieldType.int), Jvm.Cond.code ({ cls := "com/example/faktorwerk/faktorwerk/model/InputRefusedException", name := "<init>", desc := "(Ljava/lang/String;)V" } : Jvm.MethodName) prog_52_method_1_code (2 : Nat) (Option.none : Option Jvm.ClassFile.FieldType), Jvm.Cond.code ({ cls := "java/lang/Exception", name := "<init>", desc := "(Ljava/lang/String;)V" } : Jvm.MethodName) jdk_59_method_2_code (2 : Nat) (Option.none : Option Jvm.ClassFile.FieldType), Jvm.Cond.code ({ cls := "java/lang/Throwable", name := "<init>", desc := "(Ljava/lang/String;)V" } : Jvm.MethodName) jdk_78_method_2_code (2 : Nat) (Option.none : Option Jvm.ClassFile.FieldType), Jvm.Cond.code ({ cls := "java/lang/Throwable", name := "<init>", desc := "()V" } : Jvm.MethodName) jdk_78_method_1_code (1 : Nat) (Option.none : Option Jvm.ClassFile.FieldType), Jvm.Cond.code ({ cls := "java/lang/Throwable", name := "getMessage", desc := "()Ljava/lang/String;" } : Jvm.MethodName) jdk_78_method_6_code (1 : Nat) (Option.some (Jvm.ClassFile.FieldType.object "java/lang/String")), Jvm.Cond.code ({ cls := "com/example/faktorwerk/faktorwerk/model/InputRefusedExceptionAtLinePinLaw", name := "digits", desc := "(J)I" } : Jvm.MethodName) method_4_code (2 : Nat) (Option.some Jvm.ClassFile.FieldType.int), Jvm.Cond.code ({ cls := "java/lang/String", name := "charAt", desc := "(I)C" } : Jvm.MethodName) jdk_42_method_56_code (2 : Nat) (Option.some Jvm.ClassFile.FieldType.char), Jvm.Cond.code ({ cls := "java/lang/String", name := "isLatin1", desc := "()Z" } : Jvm.MethodName) jdk_42_method_154_code (1 : Nat) (Option.some Jvm.ClassFile.FieldType.boolean), Jvm.Cond.code ({ cls := "java/lang/StringLatin1", name := "charAt", desc := "([BI)C" } : Jvm.MethodName) jdk_43_method_2_code (2 : Nat) (Option.some Jvm.ClassFile.FieldType.char), Jvm.Cond.code ({ cls := "java/lang/String", name := "checkIndex", desc := "(II)V" } : Jvm.MethodName) jdk_42_method_155_code (2 : Nat) (Option.none : Option Jvm.ClassFile.FieldType), Jvm.Cond.code ({ cls := "jdk/internal/util/Preconditions", name := "checkIndex", desc := "(IILjava/util/function/BiFunction;)I" } : Jvm.MethodName) jdk_41_method_11_code (3 : Nat) (Option.some Jvm.ClassFile.FieldType.int), Jvm.Cond.code ({ cls := "com/example/faktorwerk/faktorwerk/model/InputRefusedExceptionAtLinePinLaw", name := "digitOk", desc := "(Ljava/lang/String;IIIJ)Z" } : Jvm.MethodName) method_5_code (9 : Nat) (Option.some Jvm.ClassFile.FieldType.boolean), Jvm.Cond.code ({ cls := "java/lang/StringUTF16", name := "compress", desc := "([CII)[B" } : Jvm.MethodName) jdk_52_method_16_code (6 : Nat) (Option.some (Jvm.ClassFile.FieldType.array Jvm.ClassFile.FieldType.byte)), Jvm.Cond.code ({ cls := "java/lang/StringUTF16", name := "compress", desc := "([CI[BII)I" } : Jvm.MethodName) jdk_52_method_21_code (7 : Nat) (Option.some Jvm.ClassFile.FieldType.int), Jvm.Cond.code ({ cls := "java/lang/StringUTF16", name := "coderFromArrayLen", desc := "([BI)B" } : Jvm.MethodName) jdk_52_method_15_code (2 : Nat) (Option.some Jvm.ClassFile.FieldType.byte), Jvm.Cond.code ({ cls := "java/lang/String", name := "valueOf", desc := "(C)Ljava/lang/String;" } : Jvm.MethodName) jdk_42_method_139_code (1 : Nat) (Option.some (Jvm.ClassFile.FieldType.object "java/lang/String")), Jvm.Cond.code ({ cls := "java/lang/StringLatin1", name := "canEncode", desc := "(C)Z" } : Jvm.MethodName) jdk_43_method_3_code (1 : Nat) (Option.some Jvm.ClassFile.FieldType.boolean), Jvm.Cond.code ({ cls := "java/lang/StringLatin1", name := "toBytes", desc := "(C)[B" } : Jvm.MethodName) jdk_43_method_46_code (1 : Nat) (Option.some (Jvm.ClassFile.FieldType.array Jvm.ClassFile.FieldType.byte)), Jvm.Cond.code ({ cls := "java/lang/String", name := "<init>", desc := "([BB)V" } : Jvm.MethodName) jdk_42_method_151_code (3 : Nat) (Option.none : Option Jvm.ClassFile.FieldType), Jvm.Cond.code ({ cls := "java/lang/AbstractStringBuilder", name := "newCapacity", desc := "(I)I" } : Jvm.MethodName) jdk_68_method_10_code (6 : Nat) (Option.some Jvm.ClassFile.FieldType.int), Jvm.Cond.code ({ cls := "jdk/internal/util/ArraysSupport", name := "newLength", desc := "(III)I" } : Jvm.MethodName) jdk_48_method_27_code (4 : Nat) (Option.some Jvm.ClassFile.FieldType.int), Jvm.Cond.code ({ cls := "java/lang/Math", name := "max", desc := "(II)I" } : Jvm.MethodName) jdk_29_method_65_code (2 : Nat) (Option.some Jvm.ClassFile.FieldType.int), Jvm.Cond.code ({ cls := "java/util/Arrays", name := "copyOf", desc := "([BI)[B" } : Jvm.MethodName) jdk_65_method_121_code (3 : Nat) (Option.some (Jvm.ClassFile.FieldType.array Jvm.ClassFile.FieldType.byte))]
set_option maxRecDepth 65536 in
theorem codes_eq : words1.filter isCode = codes1 := rfl
theorem w_codes : ∀ c ∈ words1.filter isCode, c.before args0 about1 = true := by
  rw [codes_eq]
  intro c hc
  simp only [codes1, List.mem_cons, List.not_mem_nil, or_false] at hc
  rcases hc with rfl | rfl | rfl | rfl | rfl | rfl | rfl | rfl | rfl | rfl | rfl | rfl | rfl | rfl | rfl | rfl | rfl | rfl | rfl | rfl | rfl | rfl | rfl | rfl | rfl | rfl | rfl | rfl | rfl | rfl | rfl | rfl | rfl | rfl | rfl | rfl | rfl | rfl | rfl | rfl | rfl | rfl | rfl | rfl | rfl | rfl | rfl | rfl | rfl | rfl | rfl | rfl | rfl | rfl
  · exact w_c0
  · exact w_c1
  · exact w_c2
  · exact w_c3
  · exact w_c4
  · exact w_c5
  · exact w_c6
  · exact w_c7
  · exact w_c8
  · exact w_c9
  · exact w_c10
  · exact w_c11
  · exact w_c12
  · exact w_c13
  · exact w_c14
  · exact w_c15
  · exact w_c16
  · exact w_c17
  · exact w_c18
  · exact w_c19
  · exact w_c20
  · exact w_c21
  · exact w_c22
  · exact w_c23
  · exact w_c24
  · exact w_c25
  · exact w_c26
  · exact w_c27
  · exact w_c28
  · exact w_c29
  · exact w_c30
  · exact w_c31
  · exact w_c32
  · exact w_c33
  · exact w_c34
  · exact w_c35
  · exact w_c36
  · exact w_c37
  · exact w_c38
  · exact w_c39
  · exact w_c40
  · exact w_c41
  · exact w_c42
  · exact w_c43
  · exact w_c44
  · exact w_c45
  · exact w_c46
  · exact w_c47
  · exact w_c48
  · exact w_c49
  · exact w_c50
  · exact w_c51
  · exact w_c52
  · exact w_c53
set_option maxRecDepth 65536 in
theorem w_t1 : (words1.take 24).all (fun c => isCode c || c.before args0 about1) = true := by decide +kernel
set_option maxRecDepth 65536 in
theorem w_t2 : ((words1.drop 24).take 24).all (fun c => isCode c || c.before args0 about1) = true := by decide +kernel
set_option maxRecDepth 65536 in
theorem w_t3 : (((words1.drop 24).drop 24).take 24).all (fun c => isCode c || c.before args0 about1) = true := by decide +kernel
set_option maxRecDepth 65536 in
theorem w_t4 : ((((words1.drop 24).drop 24).drop 24).take 24).all (fun c => isCode c || c.before args0 about1) = true := by decide +kernel
set_option maxRecDepth 65536 in
theorem w_t5 : (((((words1.drop 24).drop 24).drop 24).drop 24).take 24).all (fun c => isCode c || c.before args0 about1) = true := by decide +kernel
set_option maxRecDepth 65536 in
theorem w_t6 : ((((((words1.drop 24).drop 24).drop 24).drop 24).drop 24).take 24).all (fun c => isCode c || c.before args0 about1) = true := by decide +kernel
set_option maxRecDepth 65536 in
theorem w_t7 : (((((((words1.drop 24).drop 24).drop 24).drop 24).drop 24).drop 24).take 24).all (fun c => isCode c || c.before args0 about1) = true := by decide +kernel
set_option maxRecDepth 65536 in
theorem w_t8 : ((((((((words1.drop 24).drop 24).drop 24).drop 24).drop 24).drop 24).drop 24).take 24).all (fun c => isCode c || c.before args0 about1) = true := by decide +kernel
set_option maxRecDepth 65536 in
theorem w_t9 : (((((((((words1.drop 24).drop 24).drop 24).drop 24).drop 24).drop 24).drop 24).drop 24).take 24).all (fun c => isCode c || c.before args0 about1) = true := by decide +kernel
set_option maxRecDepth 65536 in
theorem w_t10 : ((((((((((words1.drop 24).drop 24).drop 24).drop 24).drop 24).drop 24).drop 24).drop 24).drop 24).take 24).all (fun c => isCode c || c.before args0 about1) = true := by decide +kernel
set_option maxRecDepth 65536 in
theorem w_t11 : (((((((((((words1.drop 24).drop 24).drop 24).drop 24).drop 24).drop 24).drop 24).drop 24).drop 24).drop 24).take 24).all (fun c => isCode c || c.before args0 about1) = true := by decide +kernel
set_option maxRecDepth 65536 in
theorem w_t12 : ((((((((((((words1.drop 24).drop 24).drop 24).drop 24).drop 24).drop 24).drop 24).drop 24).drop 24).drop 24).drop 24).take 24).all (fun c => isCode c || c.before args0 about1) = true := by decide +kernel
set_option maxRecDepth 65536 in
theorem w_t13 : ((((((((((((words1.drop 24).drop 24).drop 24).drop 24).drop 24).drop 24).drop 24).drop 24).drop 24).drop 24).drop 24).drop 24).all (fun c => isCode c || c.before args0 about1) = true := by decide +kernel
theorem w_tables : (allAtoms (Jvm.Cond.code x code maxLocals ret :: tables_1)).before args0 about1 = true := by
  rw [allAtoms_all]
  show words1.all (fun c => c.before args0 about1) = true
  refine all_split ?_ w_codes
  rw [← List.take_append_drop 24 words1, List.all_append, w_t1, ← List.take_append_drop 24 (words1.drop 24), List.all_append, w_t2, ← List.take_append_drop 24 ((words1.drop 24).drop 24), List.all_append, w_t3, ← List.take_append_drop 24 (((words1.drop 24).drop 24).drop 24), List.all_append, w_t4, ← List.take_append_drop 24 ((((words1.drop 24).drop 24).drop 24).drop 24), List.all_append, w_t5, ← List.take_append_drop 24 (((((words1.drop 24).drop 24).drop 24).drop 24).drop 24), List.all_append, w_t6, ← List.take_append_drop 24 ((((((words1.drop 24).drop 24).drop 24).drop 24).drop 24).drop 24), List.all_append, w_t7, ← List.take_append_drop 24 (((((((words1.drop 24).drop 24).drop 24).drop 24).drop 24).drop 24).drop 24), List.all_append, w_t8, ← List.take_append_drop 24 ((((((((words1.drop 24).drop 24).drop 24).drop 24).drop 24).drop 24).drop 24).drop 24), List.all_append, w_t9, ← List.take_append_drop 24 (((((((((words1.drop 24).drop 24).drop 24).drop 24).drop 24).drop 24).drop 24).drop 24).drop 24), List.all_append, w_t10, ← List.take_append_drop 24 ((((((((((words1.drop 24).drop 24).drop 24).drop 24).drop 24).drop 24).drop 24).drop 24).drop 24).drop 24), List.all_append, w_t11, ← List.take_append_drop 24 (((((((((((words1.drop 24).drop 24).drop 24).drop 24).drop 24).drop 24).drop 24).drop 24).drop 24).drop 24).drop 24), List.all_append, w_t12, w_t13]
  rfl
set_option maxRecDepth 65536 in
theorem w_rest : rest_1_c.before args0 about1 = true := by decide +kernel
set_option maxRecDepth 65536 in
theorem w_case : (Jvm.Cond.and given_1 narrow_1).before args0 about1 = true := by decide +kernel
set_option maxRecDepth 65536 in
theorem w_consts : constsHeld consts_1 about1 := Jvm.Lit.constsHeldB_iff.mp (by decide +kernel)
theorem w_applies : (headSpec (Jvm.Cond.code x code maxLocals ret :: tables_1) room_1).applies x e0.platform about1 = true :=
  (Spec.applies_iff w_frames).mpr ⟨w_running, w_runnable, w_alone, w_named, w_hears, w_ripe, w_room, w_tables⟩
theorem atStart : AtStart classFile x code maxLocals ret World_1 tables_1 room_1 Calls_1 rest_1 Pre_1 launch0 p0 e0 about1 theMethod args0 below0 :=
  ⟨lists_1, trivial, launch0.admits_env _ _ _, launch0.least_env, fairChoices_fair.cas, fairChoices_fair.clock, w_frames, w_args, w_heap, w_applies, ⟨(by decide +kernel : framesKnown about1 = true), ⟨(by decide +kernel : tablesKnown about1 = true), ⟨w_consts, trivial⟩⟩⟩, w_rest, w_case⟩
end start1
theorem witness_1 : WitnessClaimed_1 := ⟨start1.p0, start1.e0, start1.about1, start1.theMethod, start1.args0, start1.below0, start1.atStart⟩
end Jvm.Pilot.@@N@@
