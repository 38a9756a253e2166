import JvmDerived
import JvmDerived.Pilot.@@N@@Statement
import JvmDerived.Pilot.@@N@@Code
set_option linter.unusedVariables false
set_option linter.unusedSimpArgs false
@@BLOCK:TracedD.lean.txt@@
/- laws to paste: Road.backV, Road.chN, Road.codOf (cut by pick.py; bodies as the Statement names them) -/
namespace Jvm.Pilot.@@N@@
namespace StrChars
open Jvm Sem ClassFile Op Lib Jvm.Stand Jvm.Free.XT Jvm.Free.ALB Jvm.Free.JM Jvm.Free
open Jvm.Lib.Cold (StaticIs)
/-- a char array whose places are chars -/
def Ch (a : Addr) (A : Cell) (U : State) : Prop := Arr .char a A U ∧ Typed .char A
theorem Ch.mv {a : Addr} {A : Cell} {U U' : State} (h : Ch a A U) (hal : U.vm.Alike U'.vm) (hh : U'.heap = U.heap) : Ch a A U' := ⟨h.1.mv hal hh, h.2⟩
theorem Ch.keep {a : Addr} {A : Cell} {U U' : State} (h : Ch a A U) (hal : U.vm.Alike U'.vm) (hk : U'.heap[a]? = some A) : Ch a A U' := ⟨h.1.keep hal hk, h.2⟩
/-- what place i of a char[]'s cell holds -/
def cv (A : Cell) (i : Nat) : Int32 := match A.slots[i]? with | some (.int x) => x | _ => 0
theorem Ch.get {a : Addr} {A : Cell} {U : State} (h : Ch a A U) {i : Nat} (hi : i < A.slots.size) : A.slots[i]? = some (.int (cv A i)) := by
  have e := Array.getElem?_eq_getElem hi
  have f := h.2 i _ e
  unfold cv; rw [e]
  generalize A.slots[i] = v at f
  cases v <;> simp [fits] at f ⊢
/-- the byte that i2b leaves of a char -/
def lo8 (x : Int32) : Int32 := x.toInt8.toInt32
theorem fits_lo8 (y : Int32) : fits .byte (.int (lo8 y)) = true := by
  have h1 := y.toInt8.le_toInt
  have h2 := y.toInt8.toInt_lt
  simp only [lo8, fits, Bool.and_eq_true, decide_eq_true_eq, Int32.le_iff_toInt_le, Int8.toInt_toInt32, show (-128 : Int32).toInt = -128 from by decide, show (127 : Int32).toInt = 127 from by decide]
  omega
/-- A' is A but that each place j of lo .. hi - 1 holds f j -/
def Laid (A A' : Cell) (lo hi : Nat) (f : Nat → Value) : Prop := A'.cls = A.cls ∧ A'.vm = A.vm ∧ A'.slots.size = A.slots.size ∧ ∀ i, A'.slots[i]? = if lo ≤ i ∧ i < hi then some (f i) else A.slots[i]?
theorem Laid.zero (A : Cell) (lo : Nat) (f : Nat → Value) : Laid A A lo (lo + 0) f := ⟨rfl, rfl, rfl, fun i => by rw [if_neg (by omega)]⟩
theorem Laid.step {A Ak : Cell} {lo k : Nat} {f : Nat → Value} {v : Value} (h : Laid A Ak lo k f) (hlo : lo ≤ k) (hk : k < Ak.slots.size) (hv : v = f k) : Laid A (Ak.setSlot k v) lo (k + 1) f := by
  refine ⟨h.1, h.2.1, by simpa [Cell.setSlot] using h.2.2.1, fun i => ?_⟩
  by_cases e : k = i
  · subst e; rw [Cell.slots_setSlot_self v hk, if_pos (by omega), hv]
  · rw [Cell.slots_setSlot_ne v e, h.2.2.2 i]
    by_cases q : lo ≤ i ∧ i < k
    · rw [if_pos q, if_pos (by omega)]
    · rw [if_neg q, if_neg (by omega)]
def U16 : String := "java/lang/StringUTF16"
namespace Cmp5
def yN : MethodName := ⟨"java/lang/StringUTF16", "compress", "([CI[BII)I"⟩
abbrev yB : ByteArray := jdk_52_method_21_code
theorem d0 : decode yB 0 = .ok (.iconst 0, 1) := by decide +kernel
theorem d1 : decode yB 1 = .ok (.istore 5, 2) := by decide +kernel
theorem d3 : decode yB 3 = .ok (.iload 5, 2) := by decide +kernel
theorem d5 : decode yB 5 = .ok (.iload 4, 2) := by decide +kernel
theorem d7 : decode yB 7 = .ok (.if_icmp (.ge) 37, 3) := by decide +kernel
theorem d10 : decode yB 10 = .ok (.aload_n 0, 1) := by decide +kernel
theorem d11 : decode yB 11 = .ok (.iload_n 1, 1) := by decide +kernel
theorem d12 : decode yB 12 = .ok (.caload, 1) := by decide +kernel
theorem d13 : decode yB 13 = .ok (.istore 6, 2) := by decide +kernel
theorem d15 : decode yB 15 = .ok (.iload 6, 2) := by decide +kernel
theorem d17 : decode yB 17 = .ok (.sipush 255, 3) := by decide +kernel
theorem d20 : decode yB 20 = .ok (.if_icmp (.le) 6, 3) := by decide +kernel
theorem d26 : decode yB 26 = .ok (.aload_n 2, 1) := by decide +kernel
theorem d27 : decode yB 27 = .ok (.iload_n 3, 1) := by decide +kernel
theorem d28 : decode yB 28 = .ok (.iload 6, 2) := by decide +kernel
theorem d30 : decode yB 30 = .ok (.i2b, 1) := by decide +kernel
theorem d31 : decode yB 31 = .ok (.bastore, 1) := by decide +kernel
theorem d32 : decode yB 32 = .ok (.iinc 1 1, 3) := by decide +kernel
theorem d35 : decode yB 35 = .ok (.iinc 3 1, 3) := by decide +kernel
theorem d38 : decode yB 38 = .ok (.iinc 5 1, 3) := by decide +kernel
theorem d41 : decode yB 41 = .ok (.goto (-38), 3) := by decide +kernel
theorem d44 : decode yB 44 = .ok (.iload 4, 2) := by decide +kernel
theorem d46 : decode yB 46 = .ok (.ireturn, 1) := by decide +kernel
def site : List Cond := []
def tab : Cond := tabOf yN yB 7 (some .int) site
def P (b : Addr) (A : Cell) (d : Addr) (B : Cell) (o q len : Nat) (args : Array Value) (s : State) : Prop := args = #[.ref b, .int (Int32.ofNat o), .ref d, .int (Int32.ofNat q), .int (Int32.ofNat len)] ∧ Ch b A s ∧ Arr .byte d B s ∧ b ≠ d ∧ o + len ≤ A.slots.size ∧ q + len ≤ B.slots.size ∧ ∀ i, i < len → ¬ 255 < cv A (o + i)
def E (b : Addr) (A : Cell) (d : Addr) (B : Cell) (o q len : Nat) (r : Option Value) (s u : State) : Prop := r = some (.int (Int32.ofNat len)) ∧ ∃ B', Put d B' s u ∧ Laid B B' q (q + len) (fun j => Value.int (lo8 (cv A (o + (j - q)))))
/-- no char of the range above 255: len; the places written hold each char's low byte -/
theorem law (l : Launch) (b : Addr) (A : Cell) (d : Addr) (B : Cell) (o q len : Nat) : Law l yN 5 5 0 0 yB 7 (some .int) site (P b A d B o q len) (E b A d B o q len) (copyLocs d q len) 0 0 := by
  refine Law.of_walk (plainFor_of_name (by decide +kernel)) (by decide +kernel) (by decide +kernel) (by decide) (fun _ _ h => by rw [h.1]; rfl) (fun _ U U' hal hh h => ⟨h.1, h.2.1.mv hal hh, h.2.2.1.mv hal hh, h.2.2.2⟩) (fun r U U' V V' h1 hal h2 h => ⟨h.1, h.2.elim fun B' q => ⟨B', q.1.mv h1 h2, q.2⟩⟩) ?_
  intro p e s m args below meth c s₁ X0 hexec hbytes hml hret hlk hnm hown hh0 W hP
  obtain ⟨rfl, hA, hB, hne, l1, l2, hp⟩ := hP
  have c1 : Steps p.tables e below (s₁.setTop (entryFrame m #[.ref b, .int (Int32.ofNat o), .ref d, .int (Int32.ofNat q), .int (Int32.ofNat len)] 7)) (s₁.setTop (mkF m 0 #[.val (.ref b), .val (.int (Int32.ofNat o)), .val (.ref d), .val (.int (Int32.ofNat q)), .val (.int (Int32.ofNat len)), .unset, .unset] [])) := entry rfl
  have hA0 := hA.1.mv X0.warmed.alike hh0
  have hB0 := hB.mv X0.warmed.alike hh0
  have a31 := hA.1.2.2.2
  have c2 : Steps p.tables e below (s₁.setTop (entryFrame m #[.ref b, .int (Int32.ofNat o), .ref d, .int (Int32.ofNat q), .int (Int32.ofNat len)] 7)) (s₁.setTop (mkF m 3 #[.val (.ref b), .val (.int (Int32.ofNat o)), .val (.ref d), .val (.int (Int32.ofNat q)), .val (.int (Int32.ofNat len)), .val (.int 0), .unset] [])) := c1.trans (by
    refine iconstV X0.here hexec rfl 0 (hb hbytes d0) (by decide) ?_
    refine XS.istore X0.here hexec rfl (hb hbytes d1) rfl rfl ?_
    exact Steps.refl _)
  have loop : ∀ (r i : Nat), i + r = len → ∀ (z : Slot), (z = .unset ∨ ∃ w, z = .val w ∧ w.category = 1) → ∀ (Tl : State) (Bk : Cell), Stand p l e { frames := 0, locals := 0, cells := 0, slots := 0 } s m #[.ref b, .int (Int32.ofNat o), .ref d, .int (Int32.ofNat q), .int (Int32.ofNat len)] below meth c Tl ([] ++ copyLocs d q i) 0 0 → Put d Bk s₁ Tl → Laid B Bk q (q + i) (fun j => Value.int (lo8 (cv A (o + (j - q))))) →
      Steps p.tables e below (s₁.setTop (entryFrame m #[.ref b, .int (Int32.ofNat o), .ref d, .int (Int32.ofNat q), .int (Int32.ofNat len)] 7)) (Tl.setTop (mkF m 3 #[.val (.ref b), .val (.int (Int32.ofNat (o + i))), .val (.ref d), .val (.int (Int32.ofNat (q + i))), .val (.int (Int32.ofNat len)), .val (.int (Int32.ofNat i)), z] [])) → ∃ (T' : State) (B' : Cell) (z' : Slot), Stand p l e { frames := 0, locals := 0, cells := 0, slots := 0 } s m #[.ref b, .int (Int32.ofNat o), .ref d, .int (Int32.ofNat q), .int (Int32.ofNat len)] below meth c T' ([] ++ copyLocs d q len) 0 0 ∧ Put d B' s₁ T' ∧ Laid B B' q (q + len) (fun j => Value.int (lo8 (cv A (o + (j - q))))) ∧
      Steps p.tables e below (s₁.setTop (entryFrame m #[.ref b, .int (Int32.ofNat o), .ref d, .int (Int32.ofNat q), .int (Int32.ofNat len)] 7)) (T'.setTop (mkF m 3 #[.val (.ref b), .val (.int (Int32.ofNat (o + len))), .val (.ref d), .val (.int (Int32.ofNat (q + len))), .val (.int (Int32.ofNat len)), .val (.int (Int32.ofNat len)), z'] [])) := by
    intro r
    induction r with
    | zero =>
      intro i hi z hz Tl Bk Xl pl fl cl
      have hil : i = len := by omega
      rw [hil] at Xl fl cl
      exact ⟨Tl, Bk, z, Xl, pl, fl, cl⟩
    | succ r ih =>
      intro i hi z hz Tl Bk Xl pl fl cl
      have all := X0.warmed.alike.symm.trans Xl.warmed.alike
      have hAl := hA0.keep all (pl.other hne hA0.1)
      have hBk := hB0.like all pl.1 fl.1 fl.2.1 fl.2.2.1
      have hlt : q + i < Bk.slots.size := by rw [fl.2.2.1]; omega
      have c3 : Steps p.tables e below (s₁.setTop (entryFrame m #[.ref b, .int (Int32.ofNat o), .ref d, .int (Int32.ofNat q), .int (Int32.ofNat len)] 7)) (Tl.setTop (mkF m 12 #[.val (.ref b), .val (.int (Int32.ofNat (o + i))), .val (.ref d), .val (.int (Int32.ofNat (q + i))), .val (.int (Int32.ofNat len)), .val (.int (Int32.ofNat i)), z] [.int (Int32.ofNat (o + i)), .ref b])) := cl.trans (by
        refine XS.iload Xl.here hexec rfl (hb hbytes d3) rfl ?_
        refine XS.iload Xl.here hexec rfl (hb hbytes d5) rfl ?_
        refine XS.icmpNo Xl.here hexec rfl (hb hbytes d7) rfl (ii_ge_f (lt32 (by omega) (by omega))) ?_
        refine XS.aloadN Xl.here hexec rfl (hb hbytes d10) rfl rfl ?_
        refine XS.iloadN Xl.here hexec rfl (hb hbytes d11) rfl ?_
        exact Steps.refl _)
      have c4 : Steps p.tables e below (s₁.setTop (entryFrame m #[.ref b, .int (Int32.ofNat o), .ref d, .int (Int32.ofNat q), .int (Int32.ofNat len)] 7)) (Tl.setTop (mkF m 13 #[.val (.ref b), .val (.int (Int32.ofNat (o + i))), .val (.ref d), .val (.int (Int32.ofNat (q + i))), .val (.int (Int32.ofNat len)), .val (.int (Int32.ofNat i)), z] [.int (cv A (o + i))])) := c3.trans (by
        refine Xl.aget hexec hAl rfl (hA.get (i := o + i) (by omega)) rfl rfl (hb hbytes d12) ?_
        exact Steps.refl _)
      have c5 : Steps p.tables e below (s₁.setTop (entryFrame m #[.ref b, .int (Int32.ofNat o), .ref d, .int (Int32.ofNat q), .int (Int32.ofNat len)] 7)) (Tl.setTop (mkF m 15 #[.val (.ref b), .val (.int (Int32.ofNat (o + i))), .val (.ref d), .val (.int (Int32.ofNat (q + i))), .val (.int (Int32.ofNat len)), .val (.int (Int32.ofNat i)), .val (.int (cv A (o + i)))] [])) := c4.trans (by
        refine XS.istoreS Xl.here hexec rfl (hb hbytes d13) rfl rfl hz ?_
        exact Steps.refl _)
      have c6 : Steps p.tables e below (s₁.setTop (entryFrame m #[.ref b, .int (Int32.ofNat o), .ref d, .int (Int32.ofNat q), .int (Int32.ofNat len)] 7)) (Tl.setTop (mkF m 31 #[.val (.ref b), .val (.int (Int32.ofNat (o + i))), .val (.ref d), .val (.int (Int32.ofNat (q + i))), .val (.int (Int32.ofNat len)), .val (.int (Int32.ofNat i)), .val (.int (cv A (o + i)))] [.int (lo8 (cv A (o + i))), .int (Int32.ofNat (q + i)), .ref d])) := c5.trans (by
        refine XS.iload Xl.here hexec rfl (hb hbytes d15) rfl ?_
        refine sipushV Xl.here hexec rfl 255 (hb hbytes d17) (by decide) ?_
        refine XS.icmpYes Xl.here hexec rfl (pc0 := 20) rfl (hb hbytes d20) rfl (ii_le_t (hp i (by omega))) (by decide) rfl ?_
        refine XS.aloadN Xl.here hexec rfl (hb hbytes d26) rfl rfl ?_
        refine XS.iloadN Xl.here hexec rfl (hb hbytes d27) rfl ?_
        refine XS.iload Xl.here hexec rfl (hb hbytes d28) rfl ?_
        refine i2b Xl.here hexec rfl (hb hbytes d30) rfl ?_
        exact Steps.refl _)
      obtain ⟨T7, X7, p7, st7⟩ := Xl.aput hexec hBk rfl hlt rfl (fits_lo8 (cv A (o + i))) (g := (mkF m 31 #[.val (.ref b), .val (.int (Int32.ofNat (o + i))), .val (.ref d), .val (.int (Int32.ofNat (q + i))), .val (.int (Int32.ofNat len)), .val (.int (Int32.ofNat i)), .val (.int (cv A (o + i)))] [.int (lo8 (cv A (o + i))), .int (Int32.ofNat (q + i)), .ref d])) rfl (rest := []) rfl (hb hbytes d31)
      have c8 : Steps p.tables e below (s₁.setTop (entryFrame m #[.ref b, .int (Int32.ofNat o), .ref d, .int (Int32.ofNat q), .int (Int32.ofNat len)] 7)) (T7.setTop (mkF m 32 #[.val (.ref b), .val (.int (Int32.ofNat (o + i))), .val (.ref d), .val (.int (Int32.ofNat (q + i))), .val (.int (Int32.ofNat len)), .val (.int (Int32.ofNat i)), .val (.int (cv A (o + i)))] [])) := c6.trans (st7 _ (Steps.refl _))
      have c9 : Steps p.tables e below (s₁.setTop (entryFrame m #[.ref b, .int (Int32.ofNat o), .ref d, .int (Int32.ofNat q), .int (Int32.ofNat len)] 7)) (T7.setTop (mkF m 3 #[.val (.ref b), .val (.int (Int32.ofNat (o + i) + 1)), .val (.ref d), .val (.int (Int32.ofNat (q + i) + 1)), .val (.int (Int32.ofNat len)), .val (.int (Int32.ofNat i + 1)), .val (.int (cv A (o + i)))] [])) := c8.trans (by
        refine iincV X7.here hexec rfl 1 (hb hbytes d32) (by decide) rfl rfl ?_
        refine iincV X7.here hexec rfl 1 (hb hbytes d35) (by decide) rfl rfl ?_
        refine iincV X7.here hexec rfl 1 (hb hbytes d38) (by decide) rfl rfl ?_
        refine XS.goto X7.here hexec rfl (pc0 := 41) rfl (hb hbytes d41) (by decide) rfl ?_
        exact Steps.refl _)
      have c10 : Steps p.tables e below (s₁.setTop (entryFrame m #[.ref b, .int (Int32.ofNat o), .ref d, .int (Int32.ofNat q), .int (Int32.ofNat len)] 7)) (T7.setTop (mkF m 3 #[.val (.ref b), .val (.int (Int32.ofNat (o + (i + 1)))), .val (.ref d), .val (.int (Int32.ofNat (q + (i + 1)))), .val (.int (Int32.ofNat len)), .val (.int (Int32.ofNat (i + 1))), .val (.int (cv A (o + i)))] [])) := by
        have := c9
        rw [succ32, succ32, succ32] at this
        exact this
      exact ih (i + 1) (by omega) _ (Or.inr ⟨_, rfl, rfl⟩) T7 _ (by rw [copyLocs_step, ← List.append_assoc]; exact X7) (pl.trans p7) (fl.step (by omega) hlt (by simp)) c10
  obtain ⟨T9, B9, z9, X9, p9, f9, g9⟩ := loop len 0 (by omega) .unset (Or.inl rfl) s₁ B (by simpa [copyLocs] using X0) ⟨hB0.1, fun _ _ => rfl, rfl⟩ (Laid.zero _ _ _) c2
  have c11 : Steps p.tables e below (s₁.setTop (entryFrame m #[.ref b, .int (Int32.ofNat o), .ref d, .int (Int32.ofNat q), .int (Int32.ofNat len)] 7)) (T9.setTop (mkF m 46 #[.val (.ref b), .val (.int (Int32.ofNat (o + len))), .val (.ref d), .val (.int (Int32.ofNat (q + len))), .val (.int (Int32.ofNat len)), .val (.int (Int32.ofNat len)), z9] [.int (Int32.ofNat len)])) := g9.trans (by
    refine XS.iload X9.here hexec rfl (hb hbytes d3) rfl ?_
    refine XS.iload X9.here hexec rfl (hb hbytes d5) rfl ?_
    refine XS.icmpYes X9.here hexec rfl (pc0 := 7) rfl (hb hbytes d7) rfl (ii_ge_t (nlt32 (by omega) (Nat.le_refl _))) (by decide) rfl ?_
    refine XS.iload X9.here hexec rfl (hb hbytes d44) rfl ?_
    exact Steps.refl _)
  exact ⟨T9, some (.int (Int32.ofNat len)), _, _, _, X9, by simp, rfl, rfl, (fun h => by cases h), ⟨rfl, B9, p9.from hh0, f9⟩, fun fs hl => c11.trans (X9.ireturnOut hexec hret rfl (Or.inl rfl) (hb hbytes d46) hl)⟩
end Cmp5
namespace Cmp3
def yN : MethodName := ⟨"java/lang/StringUTF16", "compress", "([CII)[B"⟩
abbrev yB : ByteArray := jdk_52_method_16_code
theorem d0 : decode yB 0 = .ok (.iload_n 2, 1) := by decide +kernel
theorem d1 : decode yB 1 = .ok (.newarray .byte, 2) := by decide +kernel
theorem d3 : decode yB 3 = .ok (.astore_n 3, 1) := by decide +kernel
theorem d4 : decode yB 4 = .ok (.aload_n 0, 1) := by decide +kernel
theorem d5 : decode yB 5 = .ok (.iload_n 1, 1) := by decide +kernel
theorem d6 : decode yB 6 = .ok (.aload_n 3, 1) := by decide +kernel
theorem d7 : decode yB 7 = .ok (.iconst 0, 1) := by decide +kernel
theorem d8 : decode yB 8 = .ok (.iload_n 2, 1) := by decide +kernel
theorem d9 : decode yB 9 = .ok (.invokestatic 115, 3) := by decide +kernel
theorem d12 : decode yB 12 = .ok (.istore 4, 2) := by decide +kernel
theorem d14 : decode yB 14 = .ok (.iload 4, 2) := by decide +kernel
theorem d16 : decode yB 16 = .ok (.iload_n 2, 1) := by decide +kernel
theorem d17 : decode yB 17 = .ok (.if_icmp (.eq) 40, 3) := by decide +kernel
theorem d57 : decode yB 57 = .ok (.aload_n 3, 1) := by decide +kernel
theorem d58 : decode yB 58 = .ok (.areturn, 1) := by decide +kernel
def site : List Cond := [.arrayClass .byte, Cmp5.tab] ++ staticW U16 115 Cmp5.yN
def tab : Cond := tabOf yN yB 6 (some (.array .byte)) site
def P (b : Addr) (A : Cell) (o len : Nat) (args : Array Value) (s : State) : Prop := args = #[.ref b, .int (Int32.ofNat o), .int (Int32.ofNat len)] ∧ Ch b A s ∧ o + len ≤ A.slots.size ∧ len ≤ 536870912 ∧ ∀ i, i < len → ¬ 255 < cv A (o + i)
def E (b : Addr) (A : Cell) (o len : Nat) (r : Option Value) (s u : State) : Prop := NewArr .byte "[B" len (fun j => .int (lo8 (cv A (o + j)))) r s u ∧ u.heap.size = s.heap.size + 1
/-- no char of the range above 255: a new byte[] of their low bytes -/
theorem law (l : Launch) (b : Addr) (A : Cell) (o len : Nat) : Law l yN 3 3 1 18 yB 6 (some (.array .byte)) site (P b A o len) (E b A o len) [] 1 len := by
  refine Law.of_walk (plainFor_of_name (by decide +kernel)) (by decide +kernel) (by decide +kernel) (by decide) (fun _ _ h => by rw [h.1]; rfl) (fun _ U U' hal hh h => ⟨h.1, h.2.1.mv hal hh, h.2.2⟩) (fun r U U' V V' h1 hal h2 h => ⟨NewArr.mv r U U' V V' h1 hal h2 h.1, by rw [h1, h2]; exact h.2⟩) ?_
  intro p e s m args below meth c s₁ X0 hexec hbytes hml hret hlk hnm hown hh0 W hP
  obtain ⟨rfl, hA, l1, l2, hp⟩ := hP
  have a31 := hA.1.2.2.2
  have c1 : Steps p.tables e below (s₁.setTop (entryFrame m #[.ref b, .int (Int32.ofNat o), .int (Int32.ofNat len)] 6)) (s₁.setTop (mkF m 0 #[.val (.ref b), .val (.int (Int32.ofNat o)), .val (.int (Int32.ofNat len)), .unset, .unset, .unset] [])) := entry rfl
  have c2 : Steps p.tables e below (s₁.setTop (entryFrame m #[.ref b, .int (Int32.ofNat o), .int (Int32.ofNat len)] 6)) (s₁.setTop (mkF m 1 #[.val (.ref b), .val (.int (Int32.ofNat o)), .val (.int (Int32.ofNat len)), .unset, .unset, .unset] [.int (Int32.ofNat len)])) := c1.trans (by
    refine XS.iloadN X0.here hexec rfl (hb hbytes d0) rfl ?_
    exact Steps.refl _)
  obtain ⟨T3, B3, X3, ba3, bs3, bv3, bh3, bf3, st3⟩ := X0.anew hexec (atype := .byte) (wk W (.arrayClass .byte)) rfl (by show len * 1 ≤ _; omega) (by omega) (g := (mkF m 1 #[.val (.ref b), .val (.int (Int32.ofNat o)), .val (.int (Int32.ofNat len)), .unset, .unset, .unset] [.int (Int32.ofNat len)])) rfl (hb hbytes d1) (rest := []) rfl (Nat.le_refl _) (by show 0 + len ≤ len; omega)
  rw [hh0] at ba3 st3
  have kp3 : XT.Kept s T3 := (XT.Kept.of_eq hh0).push bh3
  have hA3 := hA.keep X3.warmed.alike (kp3 _ _ hA.1.1)
  have hne : b ≠ s.heap.size := hA.1.ne
  have c4 : Steps p.tables e below (s₁.setTop (entryFrame m #[.ref b, .int (Int32.ofNat o), .int (Int32.ofNat len)] 6)) (T3.setTop (mkF m 3 #[.val (.ref b), .val (.int (Int32.ofNat o)), .val (.int (Int32.ofNat len)), .unset, .unset, .unset] [.ref s.heap.size])) := c2.trans (st3 _ (Steps.refl _))
  have c5 : Steps p.tables e below (s₁.setTop (entryFrame m #[.ref b, .int (Int32.ofNat o), .int (Int32.ofNat len)] 6)) (T3.setTop (mkF m 9 #[.val (.ref b), .val (.int (Int32.ofNat o)), .val (.int (Int32.ofNat len)), .val (.ref s.heap.size), .unset, .unset] [.int (Int32.ofNat len), .int 0, .ref s.heap.size, .int (Int32.ofNat o), .ref b])) := c4.trans (by
    refine XS.astoreN X3.here hexec rfl (hb hbytes d3) rfl rfl rfl ?_
    refine XS.aloadN X3.here hexec rfl (hb hbytes d4) rfl rfl ?_
    refine XS.iloadN X3.here hexec rfl (hb hbytes d5) rfl ?_
    refine XS.aloadN X3.here hexec rfl (hb hbytes d6) rfl rfl ?_
    refine iconstV X3.here hexec rfl 0 (hb hbytes d7) (by decide) ?_
    refine XS.iloadN X3.here hexec rfl (hb hbytes d8) rfl ?_
    exact Steps.refl _)
  obtain ⟨v6, T6, X6, E6, g6⟩ := X3.callS hexec (Cmp5.law l b A s.heap.size B3 o 0 len) hown (wks W (staticW U16 115 Cmp5.yN)) (wk W Cmp5.tab) (W := 0) (Nat.le_of_ble_eq_true rfl) (Nat.le_of_ble_eq_true rfl) (Nat.le_refl _) (by show 0 + len + 0 ≤ len; omega) (g := (mkF m 9 #[.val (.ref b), .val (.int (Int32.ofNat o)), .val (.int (Int32.ofNat len)), .val (.ref s.heap.size), .unset, .unset] [.int (Int32.ofNat len), .int (Int32.ofNat 0), .ref s.heap.size, .int (Int32.ofNat o), .ref b])) rfl (by rw [hml]; rfl) c5 (argsL := [.ref b, .int (Int32.ofNat o), .ref s.heap.size, .int (Int32.ofNat 0), .int (Int32.ofNat len)]) (rest := []) rfl rfl (by show 2 * 0 + 0 ≤ _; decide) (hb hbytes d9) (⟨rfl, hA3, ba3, hne, l1, by rw [bs3]; simp, hp⟩)
  obtain ⟨rfl, B6, p6, f6⟩ := E6
  have c7 : Steps p.tables e below (s₁.setTop (entryFrame m #[.ref b, .int (Int32.ofNat o), .int (Int32.ofNat len)] 6)) (T6.setTop (mkF m 12 #[.val (.ref b), .val (.int (Int32.ofNat o)), .val (.int (Int32.ofNat len)), .val (.ref s.heap.size), .unset, .unset] [.int (Int32.ofNat len)])) := g6
  have c8 : Steps p.tables e below (s₁.setTop (entryFrame m #[.ref b, .int (Int32.ofNat o), .int (Int32.ofNat len)] 6)) (T6.setTop (mkF m 58 #[.val (.ref b), .val (.int (Int32.ofNat o)), .val (.int (Int32.ofNat len)), .val (.ref s.heap.size), .val (.int (Int32.ofNat len)), .unset] [.ref s.heap.size])) := c7.trans (by
    refine XS.istore X6.here hexec rfl (hb hbytes d12) rfl rfl ?_
    refine XS.iload X6.here hexec rfl (hb hbytes d14) rfl ?_
    refine XS.iloadN X6.here hexec rfl (hb hbytes d16) rfl ?_
    refine XS.icmpYes X6.here hexec rfl (pc0 := 17) rfl (hb hbytes d17) rfl (ii_eq_t rfl) (by decide) rfl ?_
    refine XS.aloadN X6.here hexec rfl (hb hbytes d57) rfl rfl ?_
    exact Steps.refl _)
  have X8 := X6.wide (L' := []) (cells' := 1) (slots' := len) (fun x hx hlt => by
    simp only [List.nil_append, copyLocs, List.mem_map, List.mem_range] at hx
    obtain ⟨i, -, rfl⟩ := hx
    exact absurd hlt (Nat.lt_irrefl _)) (Nat.le_refl _) (by omega)
  exact ⟨T6, some (.ref s.heap.size), _, _, _, X8, rfl, rfl, rfl, (fun h => by cases h), ⟨⟨rfl, B6, ba3.like (X3.warmed.alike.symm.trans X6.warmed.alike) p6.1 f6.1 f6.2.1 f6.2.2.1, f6.2.1.trans bv3, by rw [X6.warmed.alike.findClass, f6.1]; exact bf3, by rw [f6.2.2.1, bs3]; simp, fun j hj => by rw [f6.2.2.2 j, if_pos (by omega)]; rfl, kp3.put p6 (Nat.le_refl _)⟩, by rw [p6.2.2, bh3, hh0]; simp⟩, fun fs hl => c8.trans (X8.areturnOut hexec rfl hret rfl (hb hbytes d58) hl)⟩
end Cmp3
namespace CodL
def yN : MethodName := ⟨"java/lang/StringUTF16", "coderFromArrayLen", "([BI)B"⟩
abbrev yB : ByteArray := jdk_52_method_15_code
theorem d0 : decode yB 0 = .ok (.iload_n 1, 1) := by decide +kernel
theorem d1 : decode yB 1 = .ok (.aload_n 0, 1) := by decide +kernel
theorem d2 : decode yB 2 = .ok (.arraylength, 1) := by decide +kernel
theorem d3 : decode yB 3 = .ok (.isub, 1) := by decide +kernel
theorem d4 : decode yB 4 = .ok (.bipush 31, 2) := by decide +kernel
theorem d6 : decode yB 6 = .ok (.iushr, 1) := by decide +kernel
theorem d7 : decode yB 7 = .ok (.i2b, 1) := by decide +kernel
theorem d8 : decode yB 8 = .ok (.ireturn, 1) := by decide +kernel
def site : List Cond := []
def tab : Cond := tabOf yN yB 2 (some .byte) site
def P (d : Addr) (B : Cell) (args : Array Value) (s : State) : Prop := args = #[.ref d, .int (Int32.ofNat B.slots.size)] ∧ Arr .byte d B s
def E (r : Option Value) (s u : State) : Prop := XT.PureE (some (.int 0)) r s u
/-- an array as long as the number of chars: LATIN1 -/
theorem law (l : Launch) (d : Addr) (B : Cell) : Law l yN 2 2 0 0 yB 2 (some .byte) site (P d B) E [] 0 0 := by
  refine Law.of_walk (plainFor_of_name (by decide +kernel)) (by decide +kernel) (by decide +kernel) (by decide) (fun _ _ h => by rw [h.1]; rfl) (fun _ U U' hal hh h => ⟨h.1, h.2.mv hal hh⟩) (fun r U U' V V' h1 hal h2 h => XT.PureE.mv r U U' V V' h1 hal h2 h) ?_
  intro p e s m args below meth c s₁ X0 hexec hbytes hml hret hlk hnm hown hh0 W hP
  obtain ⟨rfl, hB⟩ := hP
  have hB0 := hB.mv X0.warmed.alike hh0
  have c1 : Steps p.tables e below (s₁.setTop (entryFrame m #[.ref d, .int (Int32.ofNat B.slots.size)] 2)) (s₁.setTop (mkF m 0 #[.val (.ref d), .val (.int (Int32.ofNat B.slots.size))] [])) := entry rfl
  have c2 : Steps p.tables e below (s₁.setTop (entryFrame m #[.ref d, .int (Int32.ofNat B.slots.size)] 2)) (s₁.setTop (mkF m 2 #[.val (.ref d), .val (.int (Int32.ofNat B.slots.size))] [.ref d, .int (Int32.ofNat B.slots.size)])) := c1.trans (by
    refine XS.iloadN X0.here hexec rfl (hb hbytes d0) rfl ?_
    refine XS.aloadN X0.here hexec rfl (hb hbytes d1) rfl rfl ?_
    exact Steps.refl _)
  have c3 : Steps p.tables e below (s₁.setTop (entryFrame m #[.ref d, .int (Int32.ofNat B.slots.size)] 2)) (s₁.setTop (mkF m 8 #[.val (.ref d), .val (.int (Int32.ofNat B.slots.size))] [.int (lo8 (ushr (Int32.ofNat B.slots.size - Int32.ofNat B.slots.size) 31))])) := c2.trans (by
    refine X0.alen hexec hB0 rfl rfl (hb hbytes d2) ?_
    refine XS.isub X0.here hexec rfl (hb hbytes d3) rfl ?_
    refine bipushV X0.here hexec rfl 31 (hb hbytes d4) (by decide) ?_
    refine iushr X0.here hexec rfl (hb hbytes d6) rfl ?_
    refine i2b X0.here hexec rfl (hb hbytes d7) rfl ?_
    exact Steps.refl _)
  have e0 : lo8 (ushr (Int32.ofNat B.slots.size - Int32.ofNat B.slots.size) 31) = 0 := by rw [Int32.sub_self]; decide
  rw [e0] at c3
  exact ⟨s₁, some (.int 0), _, _, _, X0, rfl, rfl, rfl, (fun h => by cases h), ⟨rfl, hh0⟩, fun fs hl => c3.trans (X0.ireturnOut hexec hret rfl (Or.inr (Or.inr (Or.inl rfl))) (hb hbytes d8) hl)⟩
end CodL
/-- the String at a is Latin-1 over a new byte[] (the heap's one new cell): the low bytes of the len chars of A from o on; every cell but a is kept -/
def Got (a : Addr) (D : Cell) (fV fC : Field) (A : Cell) (o len : Nat) (r : Option Value) (s u : State) : Prop := r = none ∧ ∃ D' V : Cell, Blank "java/lang/String" a D' u ∧ Same D D' [fV.slot, fC.slot] ∧ D'.slots[fV.slot]? = some (.ref s.heap.size) ∧ D'.slots[fC.slot]? = some (.int 0) ∧ Arr .byte s.heap.size V u ∧ V.vm = .none ∧ u.vm.findClass "[B" = some V.cls ∧ V.slots.size = len ∧ (∀ j, j < len → V.slots[j]? = some (.int (lo8 (cv A (o + j))))) ∧ (∀ (y : Addr) (c : Cell), y ≠ a → s.heap[y]? = some c → u.heap[y]? = some c) ∧ u.heap.size = s.heap.size + 1
theorem Got.mv {a : Addr} {D A : Cell} {fV fC : Field} {o len : Nat} : ∀ r (U U' V V' : State), U'.heap = U.heap → V.vm.Alike V'.vm → V'.heap = V.heap → Got a D fV fC A o len r U V → Got a D fV fC A o len r U' V' :=
  fun r U U' V V' h1 hal h2 ⟨e0, D', X, a1, a2, a3, a4, a5, a6, a7, a8, a9, a10, a11⟩ => ⟨e0, D', X, a1.mv hal h2, a2, by rw [h1]; exact a3, a4, by rw [h1]; exact a5.mv hal h2, a6, by rw [hal.findClass]; exact a7, a8, a9, by rw [h1, h2]; exact a10, by rw [h1, h2]; exact a11⟩
namespace New4
def yN : MethodName := ⟨"java/lang/String", "<init>", "([CIILjava/lang/Void;)V"⟩
abbrev yB : ByteArray := jdk_42_method_149_code
theorem d0 : decode yB 0 = .ok (.aload_n 0, 1) := by decide +kernel
theorem d1 : decode yB 1 = .ok (.invokespecial 1, 3) := by decide +kernel
theorem d4 : decode yB 4 = .ok (.iload_n 3, 1) := by decide +kernel
theorem d5 : decode yB 5 = .ok (.ifCond (.ne) 22, 3) := by decide +kernel
theorem d27 : decode yB 27 = .ok (.getstatic 38, 3) := by decide +kernel
theorem d30 : decode yB 30 = .ok (.ifCond (.eq) 28, 3) := by decide +kernel
theorem d33 : decode yB 33 = .ok (.aload_n 1, 1) := by decide +kernel
theorem d34 : decode yB 34 = .ok (.iload_n 2, 1) := by decide +kernel
theorem d35 : decode yB 35 = .ok (.iload_n 3, 1) := by decide +kernel
theorem d36 : decode yB 36 = .ok (.invokestatic 177, 3) := by decide +kernel
theorem d39 : decode yB 39 = .ok (.astore 5, 2) := by decide +kernel
theorem d41 : decode yB 41 = .ok (.aload_n 0, 1) := by decide +kernel
theorem d42 : decode yB 42 = .ok (.aload 5, 2) := by decide +kernel
theorem d44 : decode yB 44 = .ok (.iload_n 3, 1) := by decide +kernel
theorem d45 : decode yB 45 = .ok (.invokestatic 47, 3) := by decide +kernel
theorem d48 : decode yB 48 = .ok (.putfield 15, 3) := by decide +kernel
theorem d51 : decode yB 51 = .ok (.aload_n 0, 1) := by decide +kernel
theorem d52 : decode yB 52 = .ok (.aload 5, 2) := by decide +kernel
theorem d54 : decode yB 54 = .ok (.putfield 9, 3) := by decide +kernel
theorem d57 : decode yB 57 = .ok (.return_, 1) := by decide +kernel
def site : List Cond := [.fieldLink "java/lang/String" 38 "java/lang/String" "COMPACT_STRINGS" "Z", Cmp3.tab, CodL.tab, .laysFinal "java/lang/String" "java/lang/String" "value" "[B", .fieldLink "java/lang/String" 9 "java/lang/String" "value" "[B", .laysFinal "java/lang/String" "java/lang/String" "coder" "B", .fieldLink "java/lang/String" 15 "java/lang/String" "coder" "B"] ++ objW "java/lang/String" 1 ++ staticW "java/lang/String" 177 Cmp3.yN ++ staticW "java/lang/String" 47 CodL.yN
def tab : Cond := tabOf yN yB 6 none site
def P (a : Addr) (D : Cell) (fV fC : Field) (b : Addr) (A : Cell) (z : Int32) (o len : Nat) (args : Array Value) (s : State) : Prop := args = #[.ref a, .ref b, .int (Int32.ofNat o), .int (Int32.ofNat len), .null] ∧ Blank "java/lang/String" a D s ∧ Found "java/lang/String" "value" "[B" fV s ∧ Found "java/lang/String" "coder" "B" fC s ∧ Ch b A s ∧ StaticIs s "java/lang/String" "COMPACT_STRINGS" "Z" (.int z) ∧ ¬ z = 0 ∧ 0 < len ∧ o + len ≤ A.slots.size ∧ len ≤ 536870912 ∧ ∀ i, i < len → ¬ 255 < cv A (o + i)
def E (a : Addr) (D : Cell) (fV fC : Field) (A : Cell) (o len : Nat) (r : Option Value) (s u : State) : Prop := Got a D fV fC A o len r s u
/-- len > 0, no char of the range above 255: a Latin-1 String of their low bytes -/
theorem law (l : Launch) (a : Addr) (D : Cell) (fV fC : Field) (b : Addr) (A : Cell) (z : Int32) (o len : Nat) : Law l yN 5 4 2 35 yB 6 none site (P a D fV fC b A z o len) (E a D fV fC A o len) [⟨a, fC.slot⟩, ⟨a, fV.slot⟩] 1 len := by
  refine Law.of_walk (plainFor_of_name (by decide +kernel)) (by decide +kernel) (by decide +kernel) (by decide) (fun _ _ h => by rw [h.1]; rfl) (fun _ U U' hal hh h => ⟨h.1, h.2.1.mv hal hh, h.2.2.1.al hal, h.2.2.2.1.al hal, h.2.2.2.2.1.mv hal hh, h.2.2.2.2.2.1.there hal hh, h.2.2.2.2.2.2⟩) (fun r U U' V V' h1 hal h2 h => Got.mv r U U' V V' h1 hal h2 h) ?_
  intro p e s m args below meth c s₁ X0 hexec hbytes hml hret hlk hnm hown hh0 W hP
  obtain ⟨rfl, hB, f1, f2, hA, s1, hz, l0, l1, l2, hp⟩ := hP
  have a31 := hA.1.2.2.2
  have c1 : Steps p.tables e below (s₁.setTop (entryFrame m #[.ref a, .ref b, .int (Int32.ofNat o), .int (Int32.ofNat len), .null] 6)) (s₁.setTop (mkF m 0 #[.val (.ref a), .val (.ref b), .val (.int (Int32.ofNat o)), .val (.int (Int32.ofNat len)), .val .null, .unset] [])) := entry rfl
  have c2 : Steps p.tables e below (s₁.setTop (entryFrame m #[.ref a, .ref b, .int (Int32.ofNat o), .int (Int32.ofNat len), .null] 6)) (s₁.setTop (mkF m 1 #[.val (.ref a), .val (.ref b), .val (.int (Int32.ofNat o)), .val (.int (Int32.ofNat len)), .val .null, .unset] [.ref a])) := c1.trans (by
    refine XS.aloadN X0.here hexec rfl (hb hbytes d0) rfl rfl ?_
    exact Steps.refl _)
  obtain ⟨T3, X3, q3, st3⟩ := X0.oinit hexec hown (wks W (objW "java/lang/String" 1)) (g := (mkF m 1 #[.val (.ref a), .val (.ref b), .val (.int (Int32.ofNat o)), .val (.int (Int32.ofNat len)), .val .null, .unset] [.ref a])) rfl (by rw [hml]; rfl) (rest := []) rfl (hb hbytes d1) (W := 0) (by show 2 * 0 + 0 ≤ _; decide) (Nat.le_of_ble_eq_true rfl) (Nat.le_of_ble_eq_true rfl)
  have hh3 := q3.trans hh0
  have c4 : Steps p.tables e below (s₁.setTop (entryFrame m #[.ref a, .ref b, .int (Int32.ofNat o), .int (Int32.ofNat len), .null] 6)) (T3.setTop (mkF m 27 #[.val (.ref a), .val (.ref b), .val (.int (Int32.ofNat o)), .val (.int (Int32.ofNat len)), .val .null, .unset] [])) := (c2.trans (st3 _ (Steps.refl _))).trans (by
    refine XS.iloadN X3.here hexec rfl (hb hbytes d4) rfl ?_
    refine XS.ifYes X3.here hexec rfl (pc0 := 5) rfl (hb hbytes d5) rfl (i0_ne_t (nz32 (by omega) l0)) (by decide) rfl ?_
    exact Steps.refl _)
  obtain ⟨T5, X5, q5, st5⟩ := X3.sget hexec hown (wk W (.fieldLink "java/lang/String" 38 "java/lang/String" "COMPACT_STRINGS" "Z")) s1 (fun _ _ h => by rw [hh3]; exact h) (g := (mkF m 27 #[.val (.ref a), .val (.ref b), .val (.int (Int32.ofNat o)), .val (.int (Int32.ofNat len)), .val .null, .unset] [])) rfl (hb hbytes d27)
  have hh5 := q5.trans hh3
  have c6 : Steps p.tables e below (s₁.setTop (entryFrame m #[.ref a, .ref b, .int (Int32.ofNat o), .int (Int32.ofNat len), .null] 6)) (T5.setTop (mkF m 30 #[.val (.ref a), .val (.ref b), .val (.int (Int32.ofNat o)), .val (.int (Int32.ofNat len)), .val .null, .unset] [.int z])) := c4.trans (st5 _ (Steps.refl _))
  have c7 : Steps p.tables e below (s₁.setTop (entryFrame m #[.ref a, .ref b, .int (Int32.ofNat o), .int (Int32.ofNat len), .null] 6)) (T5.setTop (mkF m 36 #[.val (.ref a), .val (.ref b), .val (.int (Int32.ofNat o)), .val (.int (Int32.ofNat len)), .val .null, .unset] [.int (Int32.ofNat len), .int (Int32.ofNat o), .ref b])) := c6.trans (by
    refine XS.ifNo X5.here hexec rfl (hb hbytes d30) rfl (i0_eq_f hz) ?_
    refine XS.aloadN X5.here hexec rfl (hb hbytes d33) rfl rfl ?_
    refine XS.iloadN X5.here hexec rfl (hb hbytes d34) rfl ?_
    refine XS.iloadN X5.here hexec rfl (hb hbytes d35) rfl ?_
    exact Steps.refl _)
  obtain ⟨v8, T8, X8, E8, g8⟩ := X5.callS hexec (Cmp3.law l b A o len) hown (wks W (staticW "java/lang/String" 177 Cmp3.yN)) (wk W Cmp3.tab) (W := 0) (Nat.le_of_ble_eq_true rfl) (Nat.le_of_ble_eq_true rfl) (Nat.le_refl _) (by show 0 + len ≤ len; omega) (g := (mkF m 36 #[.val (.ref a), .val (.ref b), .val (.int (Int32.ofNat o)), .val (.int (Int32.ofNat len)), .val .null, .unset] [.int (Int32.ofNat len), .int (Int32.ofNat o), .ref b])) rfl (by rw [hml]; rfl) c7 (argsL := [.ref b, .int (Int32.ofNat o), .int (Int32.ofNat len)]) (rest := []) rfl rfl (by show 2 * 0 + 0 ≤ _; decide) (hb hbytes d36) (⟨rfl, hA.mv X5.warmed.alike hh5, l1, l2, hp⟩)
  obtain ⟨e8, z8⟩ := E8
  obtain ⟨rfl, N, n1, n2, n3, n4, n5, n6⟩ := NewArr.mv _ T5 s _ _ hh5.symm (Vm.Alike.refl _) rfl e8
  rw [hh5] at z8
  have hB1 := hB.keep X8.warmed.alike (n6 _ _ hB.1)
  have hne : s.heap.size ≠ a := (Nat.ne_of_lt (Array.getElem?_eq_some_iff.mp hB.1).1).symm
  have c9 : Steps p.tables e below (s₁.setTop (entryFrame m #[.ref a, .ref b, .int (Int32.ofNat o), .int (Int32.ofNat len), .null] 6)) (T8.setTop (mkF m 39 #[.val (.ref a), .val (.ref b), .val (.int (Int32.ofNat o)), .val (.int (Int32.ofNat len)), .val .null, .unset] [.ref s.heap.size])) := g8
  have c10 : Steps p.tables e below (s₁.setTop (entryFrame m #[.ref a, .ref b, .int (Int32.ofNat o), .int (Int32.ofNat len), .null] 6)) (T8.setTop (mkF m 45 #[.val (.ref a), .val (.ref b), .val (.int (Int32.ofNat o)), .val (.int (Int32.ofNat len)), .val .null, .val (.ref s.heap.size)] [.int (Int32.ofNat N.slots.size), .ref s.heap.size, .ref a])) := by
    have hc : Steps p.tables e below (s₁.setTop (entryFrame m #[.ref a, .ref b, .int (Int32.ofNat o), .int (Int32.ofNat len), .null] 6)) (T8.setTop (mkF m 45 #[.val (.ref a), .val (.ref b), .val (.int (Int32.ofNat o)), .val (.int (Int32.ofNat len)), .val .null, .val (.ref s.heap.size)] [.int (Int32.ofNat len), .ref s.heap.size, .ref a])) := c9.trans (by
      refine XS.astore X8.here hexec rfl (hb hbytes d39) rfl rfl rfl ?_
      refine XS.aloadN X8.here hexec rfl (hb hbytes d41) rfl rfl ?_
      refine XS.aload X8.here hexec rfl (hb hbytes d42) rfl rfl ?_
      refine XS.iloadN X8.here hexec rfl (hb hbytes d44) rfl ?_
      exact Steps.refl _)
    rw [n4]; exact hc
  obtain ⟨v11, T11, X11, E11, g11⟩ := X8.callS hexec (CodL.law l s.heap.size N) hown (wks W (staticW "java/lang/String" 47 CodL.yN)) (wk W CodL.tab) (W := 1) (Nat.le_of_ble_eq_true rfl) (Nat.le_of_ble_eq_true rfl) (Nat.le_refl _) (by show 0 + len + 0 ≤ len; omega) (g := (mkF m 45 #[.val (.ref a), .val (.ref b), .val (.int (Int32.ofNat o)), .val (.int (Int32.ofNat len)), .val .null, .val (.ref s.heap.size)] [.int (Int32.ofNat N.slots.size), .ref s.heap.size, .ref a])) rfl (by rw [hml]; rfl) c10 (argsL := [.ref s.heap.size, .int (Int32.ofNat N.slots.size)]) (rest := [.ref a]) rfl rfl (by show 2 * 0 + (1 + 0) ≤ _; decide) (hb hbytes d45) (⟨rfl, n1⟩)
  obtain ⟨rfl, q11⟩ := E11
  have hB11 := hB1.mv (X8.warmed.alike.symm.trans X11.warmed.alike) q11
  have c12 : Steps p.tables e below (s₁.setTop (entryFrame m #[.ref a, .ref b, .int (Int32.ofNat o), .int (Int32.ofNat len), .null] 6)) (T11.setTop (mkF m 48 #[.val (.ref a), .val (.ref b), .val (.int (Int32.ofNat o)), .val (.int (Int32.ofNat len)), .val .null, .val (.ref s.heap.size)] [.int 0, .ref a])) := g11
  obtain ⟨T13, X13, p13, bl13, sl13, st13⟩ := X11.finit hexec hown (wk W (.fieldLink "java/lang/String" 15 "java/lang/String" "coder" "B")) (Or.inr ⟨_, (wk W (.laysFinal "java/lang/String" "java/lang/String" "coder" "B"))⟩) (Or.inl ⟨rfl, hnm⟩) f2 (Or.inl rfl) hB11 (t := .byte) (by decide +kernel) rfl (g := (mkF m 48 #[.val (.ref a), .val (.ref b), .val (.int (Int32.ofNat o)), .val (.int (Int32.ofNat len)), .val .null, .val (.ref s.heap.size)] [.int 0, .ref a])) rfl (rest := []) rfl (hb hbytes d48)
  have c14 : Steps p.tables e below (s₁.setTop (entryFrame m #[.ref a, .ref b, .int (Int32.ofNat o), .int (Int32.ofNat len), .null] 6)) (T13.setTop (mkF m 54 #[.val (.ref a), .val (.ref b), .val (.int (Int32.ofNat o)), .val (.int (Int32.ofNat len)), .val .null, .val (.ref s.heap.size)] [.ref s.heap.size, .ref a])) := (c12.trans (st13 _ (Steps.refl _))).trans (by
    refine XS.aloadN X13.here hexec rfl (hb hbytes d51) rfl rfl ?_
    refine XS.aload X13.here hexec rfl (hb hbytes d52) rfl rfl ?_
    exact Steps.refl _)
  obtain ⟨T15, X15, p15, bl15, sl15, st15⟩ := X13.finit hexec hown (wk W (.fieldLink "java/lang/String" 9 "java/lang/String" "value" "[B")) (Or.inr ⟨_, (wk W (.laysFinal "java/lang/String" "java/lang/String" "value" "[B"))⟩) (Or.inl ⟨rfl, hnm⟩) f1 (Or.inl rfl) bl13 (t := (.array .byte)) (by decide +kernel) rfl (g := (mkF m 54 #[.val (.ref a), .val (.ref b), .val (.int (Int32.ofNat o)), .val (.int (Int32.ofNat len)), .val .null, .val (.ref s.heap.size)] [.ref s.heap.size, .ref a])) rfl (rest := []) rfl (hb hbytes d54)
  have c16 : Steps p.tables e below (s₁.setTop (entryFrame m #[.ref a, .ref b, .int (Int32.ofNat o), .int (Int32.ofNat len), .null] 6)) (T15.setTop (mkF m 57 #[.val (.ref a), .val (.ref b), .val (.int (Int32.ofNat o)), .val (.int (Int32.ofNat len)), .val .null, .val (.ref s.heap.size)] [])) := c14.trans (st15 _ (Steps.refl _))
  have ap := apart (Or.inr ⟨_, (wk W (.laysFinal "java/lang/String" "java/lang/String" "value" "[B"))⟩) (Or.inr ⟨_, (wk W (.laysFinal "java/lang/String" "java/lang/String" "coder" "B"))⟩) f1 f2 (t₁ := .array .byte) (t₂ := .byte) (by decide +kernel) (by decide +kernel) (by decide)
  have al := X8.warmed.alike.symm.trans X15.warmed.alike
  have n7 : T11.heap[s.heap.size]? = some N := by rw [q11]; exact n1.1
  exact ⟨T15, none, _, _, _, X15, by simp, rfl, by omega, (fun _ => rfl), ⟨rfl, _, N, bl15, ((Same.refl D _).set _ (by simp)).set _ (by simp), sl15, (Cell.slots_setSlot_ne _ ap).trans sl13, n1.keep al (p15.other hne (p13.other hne n7)), n2, by rw [al.findClass]; exact n3, n4, n5, fun y c h1 h2 => p15.other h1 (p13.other h1 (by rw [q11]; exact n6 y c h2)), by rw [p15.2.2, p13.2.2, q11]; exact z8⟩, fun fs hl => c16.trans (X15.returnOut hexec hret (hb hbytes d57) hl)⟩
end New4
namespace New1
def yN : MethodName := ⟨"java/lang/String", "<init>", "([C)V"⟩
abbrev yB : ByteArray := jdk_42_method_3_code
theorem d0 : decode yB 0 = .ok (.aload_n 0, 1) := by decide +kernel
theorem d1 : decode yB 1 = .ok (.aload_n 1, 1) := by decide +kernel
theorem d2 : decode yB 2 = .ok (.iconst 0, 1) := by decide +kernel
theorem d3 : decode yB 3 = .ok (.aload_n 1, 1) := by decide +kernel
theorem d4 : decode yB 4 = .ok (.arraylength, 1) := by decide +kernel
theorem d5 : decode yB 5 = .ok (.aconst_null, 1) := by decide +kernel
theorem d6 : decode yB 6 = .ok (.invokespecial 27, 3) := by decide +kernel
theorem d9 : decode yB 9 = .ok (.return_, 1) := by decide +kernel
def site : List Cond := [New4.tab] ++ initW "java/lang/String" 27 New4.yN
def tab : Cond := tabOf yN yB 2 none site
def P (a : Addr) (D : Cell) (fV fC : Field) (b : Addr) (A : Cell) (z : Int32) (args : Array Value) (s : State) : Prop := args = #[.ref a, .ref b] ∧ Blank "java/lang/String" a D s ∧ Found "java/lang/String" "value" "[B" fV s ∧ Found "java/lang/String" "coder" "B" fC s ∧ Ch b A s ∧ StaticIs s "java/lang/String" "COMPACT_STRINGS" "Z" (.int z) ∧ ¬ z = 0 ∧ 0 < A.slots.size ∧ A.slots.size ≤ 536870912 ∧ ∀ i, i < A.slots.size → ¬ 255 < cv A i
def E (a : Addr) (D : Cell) (fV fC : Field) (A : Cell) (r : Option Value) (s u : State) : Prop := Got a D fV fC A 0 A.slots.size r s u
/-- new String(chars), not empty, no char above 255: a Latin-1 String of their low bytes -/
theorem law (l : Launch) (a : Addr) (D : Cell) (fV fC : Field) (b : Addr) (A : Cell) (z : Int32) : Law l yN 2 1 3 52 yB 2 none site (P a D fV fC b A z) (E a D fV fC A) [⟨a, fC.slot⟩, ⟨a, fV.slot⟩] 1 A.slots.size := by
  refine Law.of_walk (plainFor_of_name (by decide +kernel)) (by decide +kernel) (by decide +kernel) (by decide) (fun _ _ h => by rw [h.1]; rfl) (fun _ U U' hal hh h => ⟨h.1, h.2.1.mv hal hh, h.2.2.1.al hal, h.2.2.2.1.al hal, h.2.2.2.2.1.mv hal hh, h.2.2.2.2.2.1.there hal hh, h.2.2.2.2.2.2⟩) (fun r U U' V V' h1 hal h2 h => Got.mv r U U' V V' h1 hal h2 h) ?_
  intro p e s m args below meth c s₁ X0 hexec hbytes hml hret hlk hnm hown hh0 W hP
  obtain ⟨rfl, hB, f1, f2, hA, s1, hz, l0, l2, hp⟩ := hP
  have c1 : Steps p.tables e below (s₁.setTop (entryFrame m #[.ref a, .ref b] 2)) (s₁.setTop (mkF m 0 #[.val (.ref a), .val (.ref b)] [])) := entry rfl
  have c2 : Steps p.tables e below (s₁.setTop (entryFrame m #[.ref a, .ref b] 2)) (s₁.setTop (mkF m 6 #[.val (.ref a), .val (.ref b)] [.null, .int (Int32.ofNat A.slots.size), .int 0, .ref b, .ref a])) := c1.trans (by
    refine XS.aloadN X0.here hexec rfl (hb hbytes d0) rfl rfl ?_
    refine XS.aloadN X0.here hexec rfl (hb hbytes d1) rfl rfl ?_
    refine iconstV X0.here hexec rfl 0 (hb hbytes d2) (by decide) ?_
    refine XS.aloadN X0.here hexec rfl (hb hbytes d3) rfl rfl ?_
    refine X0.alen hexec (hA.1.mv X0.warmed.alike hh0) rfl rfl (hb hbytes d4) ?_
    refine XS.aconstNull X0.here hexec rfl (hb hbytes d5) ?_
    exact Steps.refl _)
  obtain ⟨v3, T3, X3, E3, g3⟩ := X0.callN hexec (New4.law l a D fV fC b A z 0 A.slots.size) rfl hown (wks W (initW "java/lang/String" 27 New4.yN)) (W New4.tab (by simp only [site, List.mem_cons, List.mem_append, true_or, or_true])) (W := 0) (Nat.le_of_ble_eq_true rfl) (Nat.le_of_ble_eq_true rfl) (Nat.le_refl _) (by show 0 + A.slots.size ≤ A.slots.size; omega) (g := (mkF m 6 #[.val (.ref a), .val (.ref b)] [.null, .int (Int32.ofNat A.slots.size), .int (Int32.ofNat 0), .ref b, .ref a])) rfl (by rw [hml]; rfl) c2 (argsL := [.ref b, .int (Int32.ofNat 0), .int (Int32.ofNat A.slots.size), .null]) (rest := []) rfl rfl (by show 2 * 0 + 0 ≤ _; decide) (hb hbytes d6) (⟨rfl, hB.mv X0.warmed.alike hh0, f1.al X0.warmed.alike, f2.al X0.warmed.alike, hA.mv X0.warmed.alike hh0, s1.there X0.warmed.alike hh0, hz, l0, by omega, l2, fun i hi => by rw [Nat.zero_add]; exact hp i hi⟩)
  have e0 := Got.mv _ s₁ s _ _ hh0.symm (Vm.Alike.refl _) rfl E3
  obtain rfl := e0.1
  have c4 : Steps p.tables e below (s₁.setTop (entryFrame m #[.ref a, .ref b] 2)) (T3.setTop (mkF m 9 #[.val (.ref a), .val (.ref b)] [])) := g3
  exact ⟨T3, none, _, _, _, X3, by simp, rfl, by omega, (fun _ => rfl), e0, fun fs hl => c4.trans (X3.returnOut hexec hret (hb hbytes d9) hl)⟩
theorem pays {l : Launch} {R : Room} {p : Program} {e : Env} {below : List Frame} {s : State} {sargs : Array Value} {len W : Nat} (a : Addr) (D : Cell) (fV fC : Field) (b : Addr) (A : Cell) (z : Int32) (htab : tab.before sargs s = true) (hfr : 4 ≤ R.frames) (hlo : W + 65 ≤ R.locals) :
    Back l R p e below s sargs yN len W (fun A₁ a₁ => A₁.cells + 1 ≤ R.cells ∧ A₁.slots + A.slots.size ≤ R.slots ∧ P a D fV fC b A z a₁ A₁.U) (fun A₁ _ v₁ B₁ => E a D fV fC A v₁ A₁.U B₁.U ∧ B₁.locs = A₁.locs ++ [⟨a, fC.slot⟩, ⟨a, fV.slot⟩] ∧ B₁.cells = A₁.cells + 1 ∧ B₁.slots = A₁.slots + A.slots.size) :=
  (law l a D fV fC b A z).pays htab hfr (by omega)
end New1
/-- the byte, read back as charAt reads it, is the char -/
theorem lo8_mask {x : Int32} (h0 : ¬ x < 0) (h1 : ¬ 255 < x) : lo8 x &&& 255 = x := by
  have t : ∀ k : Fin 256, lo8 (Int32.ofNat k.val) &&& 255 = Int32.ofNat k.val := by decide +kernel
  rw [Int32.lt_iff_toInt_lt] at h0 h1
  have e0 : (0 : Int32).toInt = 0 := rfl
  have e1 : (255 : Int32).toInt = 255 := rfl
  obtain ⟨k, hk⟩ : ∃ k : Nat, x.toInt = k := ⟨x.toInt.toNat, by omega⟩
  have hx : x = Int32.ofNat k := Int32.toInt_inj.mp (by rw [hk, Int32.toInt_ofNat_small (by omega)])
  rw [hx]
  exact t ⟨k, by omega⟩
end StrChars
namespace StrChars.Road
open Jvm Sem ClassFile Op Lib Jvm.Stand Jvm.Free Jvm.Free.XT
open Jvm.Lib.Cold (StaticIs)
abbrev ST : String := "java/lang/String"
/-- every table word that New1's law asks, flat -/
abbrev words : List Jvm.Cond := [.code New1.yN New1.yB 2 none, .initialized ST, .methodLink ST 27 New4.yN, .instanceMethod New4.yN,
  .code New4.yN New4.yB 6 none, .fieldLink ST 38 ST "COMPACT_STRINGS" "Z", .laysFinal ST ST "value" "[B", .fieldLink ST 9 ST "value" "[B", .laysFinal ST ST "coder" "B", .fieldLink ST 15 ST "coder" "B",
  .methodLink ST 1 Lib.objectInit, .instanceMethod Lib.objectInit, .code Lib.objectInit ⟨#[0xb1]⟩ 1 none, .methodLink ST 177 Cmp3.yN, .static Cmp3.yN, .methodLink ST 47 CodL.yN, .static CodL.yN,
  .code Cmp3.yN Cmp3.yB 6 (some (.array .byte)), .initialized U16, .arrayClass .byte, .methodLink U16 115 Cmp5.yN, .static Cmp5.yN, .code Cmp5.yN Cmp5.yB 7 (some .int), .code CodL.yN CodL.yB 2 (some .byte)]
theorem tab_of {a : Array Value} {s : State} (h : ∀ w ∈ words, w.before a s = true) : New1.tab.before a s = true := by
  have h5 : Cmp5.tab.before a s = true := unparts (wk h (.code Cmp5.yN Cmp5.yB 7 (some .int))) (wks h (.initialized Cmp5.yN.cls :: Cmp5.site))
  have hc : CodL.tab.before a s = true := unparts (wk h (.code CodL.yN CodL.yB 2 (some .byte))) (wks h (.initialized CodL.yN.cls :: CodL.site))
  have q5 : ∀ w ∈ Cmp5.tab :: words, w.before a s = true := fun w hw => (List.mem_cons.mp hw).elim (fun e => e ▸ h5) (h w)
  have h3 : Cmp3.tab.before a s = true := unparts (wk q5 (.code Cmp3.yN Cmp3.yB 6 (some (.array .byte)))) (wks q5 (.initialized Cmp3.yN.cls :: Cmp3.site))
  have q3 : ∀ w ∈ Cmp3.tab :: CodL.tab :: words, w.before a s = true := fun w hw => (List.mem_cons.mp hw).elim (fun e => e ▸ h3) fun hw => (List.mem_cons.mp hw).elim (fun e => e ▸ hc) (h w)
  have h4 : New4.tab.before a s = true := unparts (wk q3 (.code New4.yN New4.yB 6 none)) (wks q3 (.initialized New4.yN.cls :: New4.site))
  have q4 : ∀ w ∈ New4.tab :: words, w.before a s = true := fun w hw => (List.mem_cons.mp hw).elim (fun e => e ▸ h4) (h w)
  exact unparts (wk q4 (.code New1.yN New1.yB 2 none)) (wks q4 (.initialized New1.yN.cls :: New1.site))
/-- the words ride from the start Z to the walk's own state -/
theorem moved {Z s : State} {a0 args : Array Value} (hZ : Z.Warmed39 s.vm) (hw : ∀ d ∈ words, d.before a0 Z = true) : ∀ d ∈ words, d.before args s = true := fun d hd => by
  have q := hw d hd
  have t : ∀ d ∈ words, d = .arrayClass .byte ∨ (d.onTables && d.keepsFace) = true := by decide +kernel
  rcases t d hd with rfl | t
  · exact RoadKit.mvA hZ q
  · exact RoadKit.mv hZ q t
/-- WHAT COMES BACK, over the tables of the start Z: h the heap at the call, h' behind it -/
def Q (Z : State) (x : Addr) (A : Cell) (h : Heap) (v : Option Value) (h' : Heap) (L : List Loc) : Prop := v = none ∧ (∀ y ∈ L, y.base = x) ∧ RoadKit.Keep h h' [x] ∧ h'.size = h.size + 1 ∧ RoadKit.Exa Z h' x ST ∧ RoadKit.Fld Z h' x ST "value" "[B" (.ref h.size) ∧ RoadKit.Fld Z h' x ST "coder" "B" (.int 0) ∧
  (∃ V : Cell, RoadKit.Arr Z h' h.size V .byte ∧ V.vm = .none ∧ Z.vm.findClass "[B" = some V.cls ∧ V.slots.size = A.slots.size ∧ ∀ j, j < A.slots.size → V.slots[j]? = some (.int (lo8 (cv A j)))) ∧
  ∀ (O n d : String) (w : Value), RoadKit.Fld Z h x O n d w → RoadKit.slotOf Z O n d ≠ RoadKit.slotOf Z ST "value" "[B" → RoadKit.slotOf Z O n d ≠ RoadKit.slotOf Z ST "coder" "B" → RoadKit.Fld Z h' x O n d w
/-- **new String(chars) AT A CALL, IN THE ROAD'S FORM**: for specialBack behind newO: x the fresh String, b the char[] with the cell A -/
theorem back {p : Program} {l : Launch} {e : Env} {R : Room} {s : State} {args : Array Value} {below : List Frame} {len W : Nat} {Z : State} {a0 : Array Value} {h : Heap} (hZ : Z.Warmed39 s.vm) (hw : ∀ d ∈ words, d.before a0 Z = true) {kI : Nat} (wi : (Jvm.Cond.instantiable ST kI).before a0 Z = true)
    {x b : Addr} {A : Cell} {z : Int32} {v0 c0 : Value} (E : RoadKit.Exa Z h x ST) (V : RoadKit.Fld Z h x ST "value" "[B" v0) (C : RoadKit.Fld Z h x ST "coder" "B" c0) (K : RoadKit.Arr Z h b A .char) (hty : Typed .char A) (S : RoadKit.Sta Z h ST "COMPACT_STRINGS" "Z" (.int z)) (hz : ¬ z = 0)
    (l0 : 0 < A.slots.size) (l2 : A.slots.size ≤ 536870912) (hp : ∀ i, i < A.slots.size → ¬ 255 < cv A i) (hfr : 4 ≤ R.frames) (hlo : W + 65 ≤ R.locals) :
    Back l R p e below s args New1.yN len W (fun P a => a = #[.ref x, .ref b] ∧ P.U.heap = h ∧ P.cells + 1 ≤ R.cells ∧ P.slots + A.slots.size ≤ R.slots)
      (fun P _ v B => ∃ L, Q Z x A h v B.U.heap L ∧ B.locs = P.locs ++ L ∧ B.cells = P.cells + 1 ∧ B.slots = P.slots + A.slots.size) := by
  intro m meth c P g ig mk a X hg hsize hdg hW hn hp'
  obtain ⟨rfl, rfl, r1, r2⟩ := hp'
  have al : Z.vm.Alike P.U.vm := hZ.alike.trans X.warmed.alike
  obtain ⟨D, cfV, kV, iV, fV, hD, gV, stV, knV, obV, asV, slV⟩ := id V
  obtain ⟨D', cfC, kC, iC, fC, hD', gC, stC, -, -, asC, slC⟩ := id C
  cases hD.symm.trans hD'
  obtain ⟨D2, kD, e1, e2, e3, e4, e5⟩ := id E
  cases hD.symm.trans e1
  obtain ⟨c2, k2, i1, i2, i3, -⟩ := Cond.instantiable_spec wi
  cases e2.symm.trans i1
  cases e3.symm.trans i2
  obtain ⟨kU, u1, u2⟩ := al.2.2 _ _ e3
  have hB : Blank ST x D P.U := ⟨hD, ⟨knV, fun q hq => by rw [hq] at obV; cases obV⟩, by rw [al.findClass]; exact e2, kU, u1, by rw [u2]; exact i3, by rw [u2]; exact e5 i3⟩
  have F1 : Found ST "value" "[B" fV P.U := ⟨SBG.found_only al ⟨cfV, kV, iV, gV⟩, stV⟩
  have F2 : Found ST "coder" "B" fC P.U := ⟨SBG.found_only al ⟨cfC, kC, iC, gC⟩, stC⟩
  have hA : Ch b A P.U := ⟨⟨K.1, State.isArrayOf_alike al K.2.1, K.2.2, by omega⟩, hty⟩
  have hS : StaticIs P.U ST "COMPACT_STRINGS" "Z" (.int z) := by
    obtain ⟨cfS, iS, kS, fS, st, cS, t1, t2, t3, t4, t5, t6, t7⟩ := S
    exact StaticIs.there (s := { Z with heap := P.U.heap }) ⟨cfS, iS, kS, fS, st, cS, t1, t2, t3, t4, t5, (fun q => by rw [q] at t6; cases t6), t7⟩ al rfl
  obtain ⟨v, B, X', ⟨⟨hv, E', V', q1, q2, q3, q4, q5, q6, q7, q8, q9, q10, q11⟩, hl, hc, hs⟩, st⟩ := New1.pays x D fV fC b A z (tab_of (moved hZ hw)) hfr hlo m meth c P g ig mk _ X hg hsize hdg hW hn ⟨r1, r2, rfl, hB, F1, F2, hA, hS, hz, l0, l2, hp⟩
  have al' : Z.vm.Alike B.U.vm := hZ.alike.trans X'.warmed.alike
  have hsz : E'.slots.size = D.slots.size := by
    obtain ⟨-, -, -, kB, w1, w2, w3⟩ := q1
    obtain ⟨kB', y1, y2⟩ := al'.2.2 _ _ e3
    rw [q2.2.1] at w1
    cases w1.symm.trans y1
    rw [w3, e5 i3, y2]
  refine ⟨v, B, X', ⟨_, ⟨hv, ?_, ⟨by omega, fun y cy hy hn' => q10 y cy (by simpa using hn') hy, fun y cy hy => ?_⟩, q11, ⟨E', _, q1.1, by rw [q2.2.1]; exact e2, by rw [q2.2.1]; exact e3, by rw [q2.1]; exact obV, fun _ => by rw [hsz]; exact e5 i3⟩,
    ⟨E', cfV, kV, iV, fV, q1.1, gV, stV, by rw [q2.1]; exact knV, by rw [q2.1]; exact obV, by rw [q2.2.1]; exact asV, q3⟩, ⟨E', cfC, kC, iC, fC, q1.1, gC, stC, by rw [q2.1]; exact knV, by rw [q2.1]; exact obV, by rw [q2.2.1]; exact asC, q4⟩,
    ⟨V', ⟨q5.1, State.isArrayOf_alike al'.symm q5.2.1, q5.2.2.1⟩, q6, by rw [← al'.findClass]; exact q7, q8, fun j hj => by have := q9 j hj; rwa [Nat.zero_add] at this⟩, fun O n d w F n1 n2 => ?_⟩, hl, hc, hs⟩, st⟩
  · intro y hy
    simp only [List.mem_cons, List.not_mem_nil, or_false] at hy
    rcases hy with rfl | rfl <;> rfl
  · by_cases q : y = x
    · subst q
      cases hD.symm.trans hy
      exact ⟨E', q1.1, q2.2.1, q2.1, hsz⟩
    · exact ⟨cy, q10 y cy q hy, rfl, rfl, rfl⟩
  · obtain ⟨D3, cf, k, i, f, g1, g2, g3, g4, g5, g6, g7⟩ := F
    cases hD.symm.trans g1
    simp only [RoadKit.slotOf, g2, gV, gC, Option.map_some, Option.getD_some] at n1 n2
    exact ⟨E', cf, k, i, f, q1.1, g2, g3, by rw [q2.1]; exact g4, by rw [q2.1]; exact g5, by rw [q2.2.1]; exact g6, by rw [q2.2.2 f.slot (by simp [n1, n2])]; exact g7⟩
end StrChars.Road
namespace StrChars.Road
open Jvm Sem ClassFile Op Lib Jvm.Stand Jvm.Free Jvm.Free.XT
/-- WHAT COMES BACK, the byte[] as a list of values -/
def QA (Z : State) (x : Addr) (zn : Int32) (cs : List Int32) (h : Heap) (v : Option Value) (h' : Heap) (L : List Loc) : Prop := v = none ∧ (∀ y ∈ L, y.base = x) ∧ RoadKit.Keep h h' [x] ∧ h'.size = h.size + 1 ∧ RoadKit.Exa Z h' x ST ∧ RoadKit.Fld Z h' x ST "value" "[B" (.ref h.size) ∧ RoadKit.Fld Z h' x ST "coder" "B" (.int 0) ∧
  (∃ kb, Z.vm.findClass "[B" = some kb ∧ RoadKit.Arv Z h' h.size kb .byte zn (cs.map fun c => .int (lo8 c)) (.int 0)) ∧
  ∀ (O n d : String) (w : Value), RoadKit.Fld Z h x O n d w → RoadKit.slotOf Z O n d ≠ RoadKit.slotOf Z ST "value" "[B" → RoadKit.slotOf Z O n d ≠ RoadKit.slotOf Z ST "coder" "B" → RoadKit.Fld Z h' x O n d w
/-- **new String(chars) AT A CALL, THE ARRAYS AS LISTS**: the char[] at b holds cs, not empty, no char above 255 -/
theorem backArv {p : Program} {l : Launch} {e : Env} {R : Room} {s : State} {args : Array Value} {below : List Frame} {len W : Nat} {Z : State} {a0 : Array Value} {h : Heap} (hZ : Z.Warmed39 s.vm) (hw : ∀ d ∈ words, d.before a0 Z = true) {kI : Nat} (wi : (Jvm.Cond.instantiable ST kI).before a0 Z = true)
    {x b : Addr} {k : ClassId} {zn z : Int32} {cs : List Int32} {dv v0 c0 : Value} (E : RoadKit.Exa Z h x ST) (V : RoadKit.Fld Z h x ST "value" "[B" v0) (C : RoadKit.Fld Z h x ST "coder" "B" c0) (K : RoadKit.Arv Z h b k .char zn (cs.map Value.int) dv) (S : RoadKit.Sta Z h ST "COMPACT_STRINGS" "Z" (.int z)) (hz : ¬ z = 0)
    (hlen : zn.toNatClampNeg = cs.length) (h0 : 0 < cs.length) (hbig : cs.length ≤ 536870912) (hall : ∀ c ∈ cs, ¬ 255 < c) (hfr : 4 ≤ R.frames) (hlo : W + 65 ≤ R.locals) :
    Back l R p e below s args New1.yN len W (fun P a => a = #[.ref x, .ref b] ∧ P.U.heap = h ∧ P.cells + 1 ≤ R.cells ∧ P.slots + cs.length ≤ R.slots)
      (fun P _ v B => ∃ L, QA Z x zn cs h v B.U.heap L ∧ B.locs = P.locs ++ L ∧ B.cells = P.cells + 1 ∧ B.slots = P.slots + cs.length) := by
  obtain ⟨A, K1, K2, K3, K4, K5, K6⟩ := K
  have e : A.slots.size = cs.length := K3.trans hlen
  have hat : ∀ (i : Nat) (hi : i < cs.length), A.slots[i]? = some (.int cs[i]) := fun i hi => by rw [K5 i (by omega)]; simp [List.getD_eq_getElem?_getD, hi]
  have hcv : ∀ (i : Nat) (hi : i < cs.length), cv A i = cs[i] := fun i hi => by unfold cv; rw [hat i hi]
  have hty : Typed .char A := fun i v hv => by
    have hi : i < A.slots.size := (Array.getElem?_eq_some_iff.mp hv).1
    have q := K5 i hi
    rw [hv] at q
    rw [Option.some.inj q]
    exact K6 i hi
  refine Back.mono (back hZ hw wi E V C K1 hty S hz (by omega) (by omega) (fun i hi => by rw [hcv i (by omega)]; exact hall _ (List.getElem_mem _)) hfr hlo) (fun P a hp => ⟨hp.1, hp.2.1, hp.2.2.1, by rw [e]; exact hp.2.2.2⟩) (fun P a v B hp hq => ?_)
  obtain ⟨L, ⟨q1, q2, q3, q4, q5, q6, q7, ⟨V', v1, v2, v3, v4, v5⟩, q9⟩, hl, hc, hs⟩ := hq
  refine ⟨L, ⟨q1, q2, q3, q4, q5, q6, q7, ⟨V'.cls, v3, V', v1, rfl, by rw [v4, e, hlen], K4, fun i hi => ?_, fun i hi => ?_⟩, q9⟩, hl, hc, by rw [hs, e]⟩
  · have hi' : i < cs.length := by omega
    rw [v5 i (by omega), hcv i hi']; simp [List.getD_eq_getElem?_getD, hi']
  · have hi' : i < cs.length := by omega
    simp only [List.getD_eq_getElem?_getD, List.getElem?_map, List.getElem?_eq_getElem hi', Option.map_some, Option.getD_some]
    exact fits_lo8 _
end StrChars.Road
namespace StrChars.Road
open Jvm Sem ClassFile Op Lib Jvm.Stand Jvm.Free Jvm.Free.XT
/-- WHAT COMES BACK, in the writer's own shape -/
def QV (Z : State) (x : Addr) (N : Int32) (bs : List Int32) (h : Heap) (n0 : Nat) (v : Option Value) (h' : Heap) (L : List Loc) : Prop := v = none ∧ RoadKit.Fr n0 L ∧ RoadKit.Keep h h' [x] ∧ RoadKit.Exa Z h' x ST ∧ RoadKit.Fld Z h' x ST "coder" "B" (.int 0) ∧
  ∃ (t : Addr) (kb : ClassId), n0 ≤ t ∧ h.size ≤ t ∧ ¬ t = x ∧ RoadKit.Fld Z h' x ST "value" "[B" (.ref t) ∧ RoadKit.Arv Z h' t kb .byte N (bs.map Value.int) (.int 0)
/-- **new String(chars) AT A CALL, FOR THE WRITER**: a char[] of n known ints, each 0 to 255 -/
theorem backV {p : Program} {l : Launch} {e : Env} {R : Room} {s : State} {args : Array Value} {below : List Frame} {len W : Nat} {Z : State} {a0 : Array Value} {h : Heap} (hZ : Z.Warmed39 s.vm) (hw : ∀ d ∈ words, d.before a0 Z = true) {kI : Nat} (wi : (Jvm.Cond.instantiable ST kI).before a0 Z = true)
    {x b : Addr} {kC : ClassId} {cs bs : List Int32} {d v0 c0 : Value} {z N : Int32} {n n0 : Nat} (hx0 : n0 ≤ x) (hh0 : n0 ≤ h.size) (E : RoadKit.Exa Z h x ST) (V : RoadKit.Fld Z h x ST "value" "[B" v0) (C : RoadKit.Fld Z h x ST "coder" "B" c0) (K : RoadKit.Arv Z h b kC .char N (cs.map Value.int) d) (S : RoadKit.Sta Z h ST "COMPACT_STRINGS" "Z" (.int z)) (hz : ¬ z = 0)
    (hn : cs.length = n) (hN : N = Int32.ofNat n) (l0 : 0 < n) (l2 : n ≤ 4000) (hp : ∀ c ∈ cs, ¬ c < 0 ∧ ¬ (255 : Int32) < c) (hb : bs = cs.map (fun c => c.toInt8.toInt32)) (hfr : 4 ≤ R.frames) (hlo : W + 65 ≤ R.locals) :
    Back l R p e below s args (⟨"java/lang/String", "<init>", "([C)V"⟩ : MethodName) len W (fun P a => a = #[.ref x, .ref b] ∧ P.U.heap = h ∧ P.cells + 1 ≤ R.cells ∧ P.slots + n ≤ R.slots)
      (fun P _ v B => ∃ L, QV Z x N bs h n0 v B.U.heap L ∧ B.locs = P.locs ++ L ∧ B.cells = P.cells + 1 ∧ B.slots = P.slots + n) := by
  subst hn hN hb
  refine Back.mono (backArv hZ hw wi E V C K S hz (n32 (by omega)) l0 (by omega) (fun c hc => (hp c hc).2) hfr hlo) (fun P a hp => hp) (fun P a v B hp hq => ?_)
  obtain ⟨L, ⟨q1, q2, q3, q4, q5, q6, q7, ⟨kb, v1, v2⟩, q9⟩, hl, hc, hs⟩ := hq
  exact ⟨L, ⟨q1, fun y hy => by rw [q2 y hy]; exact hx0, q3, q5, q7, h.size, kb, hh0, Nat.le_refl _, Nat.ne_of_gt E.lt, q6, by rw [List.map_map]; exact v2⟩, hl, hc, hs⟩
end StrChars.Road
namespace StrChars
open Jvm Sem ClassFile Op Lib Jvm.Stand Jvm.Free.XT Jvm.Free.ALB Jvm.Free.JM Jvm.Free
open Jvm.Lib.Cold (StaticIs)
def hi8 (x : Int32) : Int32 := lo8 (x >>> ((8 : Int32) &&& 31))
/-- what StringUTF16.getChar makes of two bytes -/
def pairCh (u v : Int32) : Int32 := (((u &&& 255) <<< ((0 : Int32) &&& 31)) ||| ((v &&& 255) <<< ((8 : Int32) &&& 31))).toUInt32.toUInt16.toUInt32.toInt32
theorem lo8_and (x : Int32) : (lo8 x &&& 255).toBitVec.toNat = x.toBitVec.toNat % 256 := by
  have h : (lo8 x).toBitVec = (x.toBitVec.signExtend 8).signExtend 32 := by rw [lo8, Int8.toBitVec_toInt32, Int32.toBitVec_toInt8]
  rw [Int32.toBitVec_and, BitVec.toNat_and, h]
  have e : ((x.toBitVec.signExtend 8).signExtend 32).toNat % 256 = x.toBitVec.toNat % 256 := by
    rw [BitVec.toNat_signExtend]
    have hlt := x.toBitVec.isLt
    simp only [BitVec.toNat_setWidth, BitVec.toNat_signExtend]
    split <;> split <;> omega
  rw [← e]
  exact Nat.and_two_pow_sub_one_eq_mod _ 8
theorem pair_says {c : Int32} (h0 : ¬ c < 0) (h1 : ¬ 65535 < c) : pairCh (lo8 c) (hi8 c) = c := by
  rw [Int32.lt_iff_toInt_lt] at h0 h1
  have e0 : (0 : Int32).toInt = 0 := rfl
  have e1 : (65535 : Int32).toInt = 65535 := rfl
  have hc : c.toInt = c.toBitVec.toNat := by
    have := c.toBitVec.isLt
    have e : c.toInt = c.toBitVec.toInt := rfl
    rw [e] at h0 h1
    rw [e]
    rw [BitVec.toInt_eq_toNat_cond] at h0 h1 ⊢
    split at h0 <;> split <;> omega
  have hn : c.toBitVec.toNat < 65536 := by omega
  have a1 := lo8_and c
  have a2 : (hi8 c &&& 255).toBitVec.toNat = c.toBitVec.toNat / 256 := by
    rw [hi8, lo8_and]
    have e : ((8 : Int32) &&& 31) = 8 := by decide
    rw [e, Int32.toBitVec_shiftRight]
    have e2 : ((8 : Int32).toBitVec.smod 32) = 8#32 := by decide
    rw [e2, BitVec.sshiftRight_eq', BitVec.toNat_sshiftRight_of_msb_false (by rw [BitVec.msb_eq_false_iff_two_mul_lt]; omega)]
    show c.toBitVec.toNat >>> 8 % 256 = _
    rw [Nat.shiftRight_eq_div_pow]
    omega
  unfold pairCh
  apply Int32.toBitVec_inj.mp
  apply BitVec.eq_of_toNat_eq
  have f0 : ((0 : Int32) &&& 31) = 0 := by decide
  have f8 : ((8 : Int32) &&& 31) = 8 := by decide
  rw [f0, f8]
  have g : (((lo8 c &&& 255) <<< (0 : Int32)) ||| ((hi8 c &&& 255) <<< (8 : Int32))).toBitVec.toNat = c.toBitVec.toNat := by
    rw [Int32.toBitVec_or, Int32.toBitVec_shiftLeft, Int32.toBitVec_shiftLeft]
    have s0 : ((0 : Int32).toBitVec.smod 32) = 0#32 := by decide
    have s8 : ((8 : Int32).toBitVec.smod 32) = 8#32 := by decide
    rw [s0, s8, BitVec.toNat_or]
    simp only [BitVec.shiftLeft_eq', BitVec.toNat_shiftLeft, a1, a2]
    show (c.toBitVec.toNat % 256) <<< 0 % 2 ^ 32 ||| (c.toBitVec.toNat / 256) <<< 8 % 2 ^ 32 = _
    rw [Nat.shiftLeft_zero, Nat.mod_eq_of_lt (show c.toBitVec.toNat % 256 < 2 ^ 32 by omega), Nat.mod_eq_of_lt (show (c.toBitVec.toNat / 256) <<< 8 < 2 ^ 32 by rw [Nat.shiftLeft_eq]; omega), Nat.or_comm, ← Nat.shiftLeft_add_eq_or_of_lt (by omega), Nat.shiftLeft_eq]
    omega
  show BitVec.toNat (((((lo8 c &&& 255) <<< (0 : Int32)) ||| ((hi8 c &&& 255) <<< (8 : Int32))).toBitVec.setWidth 16).setWidth 32) = _
  rw [BitVec.toNat_setWidth, BitVec.toNat_setWidth, g]
  omega
end StrChars
namespace StrChars
open Jvm Sem ClassFile Op Lib Jvm.Stand Jvm.Free.XT Jvm.Free.ALB Jvm.Free.JM Jvm.Free
open Jvm.Lib.Cold (StaticIs)
/-- charAt's cast of a byte read back -/
def chr8 (u : Int32) : Int32 := (u &&& 255).toUInt32.toUInt16.toUInt32.toInt32
theorem chr8_lo8 {c : Int32} (h0 : ¬ c < 0) (h1 : ¬ 255 < c) : chr8 (lo8 c) = c := by
  have t : ∀ k : Fin 256, (Int32.ofNat k.val).toUInt32.toUInt16.toUInt32.toInt32 = Int32.ofNat k.val := by decide +kernel
  unfold chr8
  rw [lo8_mask h0 h1]
  rw [Int32.lt_iff_toInt_lt] at h0 h1
  have e0 : (0 : Int32).toInt = 0 := rfl
  have e1 : (255 : Int32).toInt = 255 := rfl
  obtain ⟨k, hk⟩ : ∃ k : Nat, c.toInt = k := ⟨c.toInt.toNat, by omega⟩
  have hx : c = Int32.ofNat k := Int32.toInt_inj.mp (by rw [hk, Int32.toInt_ofNat_small (by omega)])
  rw [hx]
  exact t ⟨k, by omega⟩
theorem narrow_ch {c : Int32} (h0 : ¬ c < 0) (h1 : ¬ 65535 < c) : narrow .char (.int c) = .int c := by
  have q : narrow .char (.int (pairCh (lo8 c) (hi8 c))) = .int (pairCh (lo8 c) (hi8 c)) := narrow_c _
  rwa [pair_says h0 h1] at q
/-- the array's cell V codes the n chars f 0 .. f (n - 1) by the coder cd, as the JDK does: coder 1 just where some char is above 255 -/
def Cod (cd : Int32) (n : Nat) (f : Nat → Int32) (V : Cell) : Prop := (cd = 0 ∧ V.slots.size = n ∧ ∀ j, j < n → V.slots[j]? = some (.int (lo8 (f j))) ∧ ¬ 255 < f j) ∨ (cd = 1 ∧ V.slots.size = 2 * n ∧ (∀ j, j < n → V.slots[2 * j]? = some (.int (lo8 (f j))) ∧ V.slots[2 * j + 1]? = some (.int (hi8 (f j)))) ∧ ∃ j, j < n ∧ 255 < f j)
theorem Cod.cd {cd : Int32} {n : Nat} {f : Nat → Int32} {V : Cell} (h : Cod cd n f V) : cd = 0 ∨ cd = 1 := h.imp (fun q => q.1) fun q => q.1
/-- **x is a String of the n chars f 0 .. f (n - 1)**, Latin-1 or UTF-16; its array at t has the cell V -/
def Txt (x t : Addr) (V : Cell) (cd : Int32) (n : Nat) (f : Nat → Int32) (U : State) : Prop := Exact "java/lang/String" x U ∧ Has x "java/lang/String" "value" "[B" (.ref t) U ∧ Has x "java/lang/String" "coder" "B" (.int cd) U ∧ XT.Arr .byte t V U ∧ Cod cd n f V ∧ ∀ j, j < n → ¬ f j < 0 ∧ ¬ 65535 < f j
theorem Txt.mv {x t : Addr} {V : Cell} {cd : Int32} {n : Nat} {f : Nat → Int32} {U U' : State} (h : Txt x t V cd n f U) (hal : U.vm.Alike U'.vm) (hh : U'.heap = U.heap) : Txt x t V cd n f U' := ⟨h.1.mv hal hh, h.2.1.mv hal hh, h.2.2.1.mv hal hh, h.2.2.2.1.mv hal hh, h.2.2.2.2⟩
namespace IsL
def yN : MethodName := ⟨"java/lang/String", "isLatin1", "()Z"⟩
abbrev yB : ByteArray := jdk_42_method_154_code
theorem d0 : decode yB 0 = .ok (.getstatic 38, 3) := by decide +kernel
theorem d3 : decode yB 3 = .ok (.ifCond (.eq) 14, 3) := by decide +kernel
theorem d6 : decode yB 6 = .ok (.aload_n 0, 1) := by decide +kernel
theorem d7 : decode yB 7 = .ok (.getfield 15, 3) := by decide +kernel
theorem d10 : decode yB 10 = .ok (.ifCond (.ne) 7, 3) := by decide +kernel
theorem d13 : decode yB 13 = .ok (.iconst 1, 1) := by decide +kernel
theorem d14 : decode yB 14 = .ok (.goto 4, 3) := by decide +kernel
theorem d17 : decode yB 17 = .ok (.iconst 0, 1) := by decide +kernel
theorem d18 : decode yB 18 = .ok (.ireturn, 1) := by decide +kernel
def site : List Cond := [.fieldLink "java/lang/String" 38 "java/lang/String" "COMPACT_STRINGS" "Z", .fieldLink "java/lang/String" 15 "java/lang/String" "coder" "B"]
def tab : Cond := tabOf yN yB 1 (some .boolean) site
def P (x : Addr) (cd z : Int32) (args : Array Value) (s : State) : Prop := args = #[.ref x] ∧ Has x "java/lang/String" "coder" "B" (.int cd) s ∧ (cd = 0 ∨ cd = 1) ∧ StaticIs s "java/lang/String" "COMPACT_STRINGS" "Z" (.int z) ∧ ¬ z = 0
def E (cd : Int32) (r : Option Value) (s u : State) : Prop := XT.PureE (some (.int (1 - cd))) r s u
theorem law (l : Launch) (x : Addr) (cd z : Int32) : Law l yN 1 0 0 0 yB 1 (some .boolean) site (P x cd z) (E cd) [] 0 0 := by
  refine Law.of_walk (plainFor_of_name (by decide +kernel)) (by decide +kernel) (by decide +kernel) (by decide) (fun _ _ h => by rw [h.1]; rfl) (fun _ U U' hal hh h => ⟨h.1, h.2.1.mv hal hh, h.2.2.1, h.2.2.2.1.there hal hh, h.2.2.2.2⟩) (fun r U U' V V' h1 hal h2 h => XT.PureE.mv r U U' V V' h1 hal h2 h) ?_
  intro p e s m args below meth c s₁ X0 hexec hbytes hml hret hlk hnm hown hh0 W hP
  obtain ⟨rfl, hx, hc, s1, hz⟩ := hP
  have c1 : Steps p.tables e below (s₁.setTop (entryFrame m #[.ref x] 1)) (s₁.setTop (mkF m 0 #[.val (.ref x)] [])) := entry rfl
  obtain ⟨T2, X2, q2, st2⟩ := X0.sget hexec hown (wk W (.fieldLink "java/lang/String" 38 "java/lang/String" "COMPACT_STRINGS" "Z")) s1 (fun _ _ h => by rw [hh0]; exact h) (g := (mkF m 0 #[.val (.ref x)] [])) rfl (hb hbytes d0)
  have hh2 := q2.trans hh0
  have c3 : Steps p.tables e below (s₁.setTop (entryFrame m #[.ref x] 1)) (T2.setTop (mkF m 7 #[.val (.ref x)] [.ref x])) := (c1.trans (st2 _ (Steps.refl _))).trans (by
    refine XS.ifNo X2.here hexec rfl (hb hbytes d3) rfl (i0_eq_f hz) ?_
    refine XS.aloadN X2.here hexec rfl (hb hbytes d6) rfl rfl ?_
    exact Steps.refl _)
  obtain ⟨T4, X4, q4, st4⟩ := X2.hget hexec hown (wk W (.fieldLink "java/lang/String" 15 "java/lang/String" "coder" "B")) (hx.mv X2.warmed.alike hh2) (g := (mkF m 7 #[.val (.ref x)] [.ref x])) rfl (rest := []) rfl (hb hbytes d7)
  have c5 : Steps p.tables e below (s₁.setTop (entryFrame m #[.ref x] 1)) (T4.setTop (mkF m 10 #[.val (.ref x)] [.int cd])) := c3.trans (st4 _ (Steps.refl _))
  have c6 : Steps p.tables e below (s₁.setTop (entryFrame m #[.ref x] 1)) (T4.setTop (mkF m 18 #[.val (.ref x)] [.int (1 - cd)])) := by
    rcases hc with rfl | rfl
    · exact c5.trans (by
        refine XS.ifNo X4.here hexec rfl (hb hbytes d10) rfl (i0_ne_f rfl) ?_
        refine iconstV X4.here hexec rfl 1 (hb hbytes d13) (by decide) ?_
        refine XS.goto X4.here hexec rfl (pc0 := 14) rfl (hb hbytes d14) (by decide) rfl ?_
        exact Steps.refl _)
    · exact c5.trans (by
        refine XS.ifYes X4.here hexec rfl (pc0 := 10) rfl (hb hbytes d10) rfl (i0_ne_t (by decide)) (by decide) rfl ?_
        refine iconstV X4.here hexec rfl 0 (hb hbytes d17) (by decide) ?_
        exact Steps.refl _)
  exact ⟨T4, some (.int (1 - cd)), _, _, _, X4, rfl, rfl, rfl, (fun h => by cases h), ⟨rfl, q4.trans hh2⟩, fun fs hl => c6.trans (X4.ireturnOut hexec hret (by rcases hc with rfl | rfl <;> rfl) (Or.inr (Or.inl rfl)) (hb hbytes d18) hl)⟩
end IsL
namespace LChA
def yN : MethodName := ⟨"java/lang/StringLatin1", "charAt", "([BI)C"⟩
abbrev yB : ByteArray := jdk_43_method_2_code
theorem d0 : decode yB 0 = .ok (.iload_n 1, 1) := by decide +kernel
theorem d1 : decode yB 1 = .ok (.aload_n 0, 1) := by decide +kernel
theorem d2 : decode yB 2 = .ok (.arraylength, 1) := by decide +kernel
theorem d3 : decode yB 3 = .ok (.invokestatic 9, 3) := by decide +kernel
theorem d6 : decode yB 6 = .ok (.aload_n 0, 1) := by decide +kernel
theorem d7 : decode yB 7 = .ok (.iload_n 1, 1) := by decide +kernel
theorem d8 : decode yB 8 = .ok (.baload, 1) := by decide +kernel
theorem d9 : decode yB 9 = .ok (.sipush 255, 3) := by decide +kernel
theorem d12 : decode yB 12 = .ok (.iand, 1) := by decide +kernel
theorem d13 : decode yB 13 = .ok (.i2c, 1) := by decide +kernel
theorem d14 : decode yB 14 = .ok (.ireturn, 1) := by decide +kernel
def site : List Cond := [JO.Str_checkIndex.tab] ++ staticW "java/lang/StringLatin1" 9 JO.Str_checkIndex.yN
def tab : Cond := tabOf yN yB 2 (some .char) site
def P (t : Addr) (V : Cell) (i : Nat) (u : Int32) (fm : Value) (args : Array Value) (s : State) : Prop := args = #[.ref t, .int (Int32.ofNat i)] ∧ XT.Arr .byte t V s ∧ V.slots[i]? = some (.int u) ∧ (StaticIs s "jdk/internal/util/Preconditions" "SIOOBE_FORMATTER" "Ljava/util/function/BiFunction;" fm ∧ fm.isRef = true)
def E (u : Int32) (r : Option Value) (s w : State) : Prop := XT.PureE (some (.int (chr8 u))) r s w
theorem law (l : Launch) (t : Addr) (V : Cell) (i : Nat) (u : Int32) (fm : Value) : Law l yN 2 2 2 27 yB 2 (some .char) site (P t V i u fm) (E u) [] 0 0 := by
  refine Law.of_walk (plainFor_of_name (by decide +kernel)) (by decide +kernel) (by decide +kernel) (by decide) (fun _ _ h => by rw [h.1]; rfl) (fun _ U U' hal hh h => ⟨h.1, h.2.1.mv hal hh, h.2.2.1, h.2.2.2.1.there hal hh, h.2.2.2.2⟩) (fun r U U' V V' h1 hal h2 h => XT.PureE.mv r U U' V V' h1 hal h2 h) ?_
  intro p e s m args below meth c s₁ X0 hexec hbytes hml hret hlk hnm hown hh0 W hP
  obtain ⟨rfl, hV, hu, s1, rf⟩ := hP
  have v31 := hV.2.2.2
  have hi : i < V.slots.size := (Array.getElem?_eq_some_iff.mp hu).1
  have c1 : Steps p.tables e below (s₁.setTop (entryFrame m #[.ref t, .int (Int32.ofNat i)] 2)) (s₁.setTop (mkF m 0 #[.val (.ref t), .val (.int (Int32.ofNat i))] [])) := entry rfl
  have c2 : Steps p.tables e below (s₁.setTop (entryFrame m #[.ref t, .int (Int32.ofNat i)] 2)) (s₁.setTop (mkF m 3 #[.val (.ref t), .val (.int (Int32.ofNat i))] [.int (Int32.ofNat V.slots.size), .int (Int32.ofNat i)])) := c1.trans (by
    refine XS.iloadN X0.here hexec rfl (hb hbytes d0) rfl ?_
    refine XS.aloadN X0.here hexec rfl (hb hbytes d1) rfl rfl ?_
    refine X0.alen hexec (hV.mv X0.warmed.alike hh0) rfl rfl (hb hbytes d2) ?_
    exact Steps.refl _)
  obtain ⟨v3, T3, X3, E3, g3⟩ := X0.callS hexec (JO.Str_checkIndex.law l (Int32.ofNat i) (Int32.ofNat V.slots.size) fm) hown (wks W (staticW "java/lang/StringLatin1" 9 JO.Str_checkIndex.yN)) (wk W JO.Str_checkIndex.tab) (W := 0) (Nat.le_of_ble_eq_true rfl) (Nat.le_of_ble_eq_true rfl) (Nat.le_refl _) (Nat.le_refl _) (g := (mkF m 3 #[.val (.ref t), .val (.int (Int32.ofNat i))] [.int (Int32.ofNat V.slots.size), .int (Int32.ofNat i)])) rfl (by rw [hml]; rfl) c2 (argsL := [.int (Int32.ofNat i), .int (Int32.ofNat V.slots.size)]) (rest := []) rfl rfl (by show 2 * 0 + 0 ≤ _; decide) (hb hbytes d3) (⟨rfl, rf, s1.there X0.warmed.alike hh0, Int32.ofNat_not_neg (by omega), lt32 v31 hi⟩)
  obtain ⟨rfl, q3⟩ := E3
  have hh3 := q3.trans hh0
  have c4 : Steps p.tables e below (s₁.setTop (entryFrame m #[.ref t, .int (Int32.ofNat i)] 2)) (T3.setTop (mkF m 14 #[.val (.ref t), .val (.int (Int32.ofNat i))] [.int (chr8 u)])) := Steps.trans g3 (by
    refine XS.aloadN X3.here hexec rfl (hb hbytes d6) rfl rfl ?_
    refine XS.iloadN X3.here hexec rfl (hb hbytes d7) rfl ?_
    refine X3.aget hexec (hV.mv X3.warmed.alike hh3) rfl hu rfl rfl (hb hbytes d8) ?_
    refine sipushV X3.here hexec rfl 255 (hb hbytes d9) (by decide) ?_
    refine XS.iand X3.here hexec rfl (hb hbytes d12) rfl ?_
    refine i2c X3.here hexec rfl (hb hbytes d13) rfl ?_
    exact Steps.refl _)
  exact ⟨T3, some (.int (chr8 u)), _, _, _, X3, rfl, rfl, rfl, (fun h => by cases h), ⟨rfl, hh3⟩, fun fs hl => c4.trans (X3.ireturnOut hexec hret (narrow_c _) (Or.inr (Or.inr (Or.inr (Or.inl rfl)))) (hb hbytes d14) hl)⟩
end LChA
end StrChars
namespace StrChars.Road
open Jvm Sem ClassFile Op Lib Jvm.Stand Jvm.Free Jvm.Free.XT
open Jvm.Lib.Cold (StaticIs)
theorem consq {a : Array Value} {s : State} {c : Jvm.Cond} {L : List Jvm.Cond} (h0 : c.before a s = true) (h : ∀ w ∈ L, w.before a s = true) : ∀ w ∈ c :: L, w.before a s = true := fun w hw => (List.mem_cons.mp hw).elim (fun e => e ▸ h0) (h w)
/-- the bytes of the chars cs, low before high -/
def wideBytes : List Int32 → List Value
  | [] => []
  | c :: cs => .int (lo8 c) :: .int (hi8 c) :: wideBytes cs
theorem wide_lo (d : Value) : ∀ (cs : List Int32) (j : Nat), j < cs.length → (wideBytes cs).getD (2 * j) d = .int (lo8 (cs.getD j 0))
  | [], j, h => absurd h (Nat.not_lt_zero j)
  | c :: cs, 0, _ => rfl
  | c :: cs, j + 1, h => by
    have q := wide_lo d cs j (by simpa using h)
    rw [show 2 * (j + 1) = 2 * j + 1 + 1 from by omega]
    simpa [wideBytes] using q
theorem wide_hi (d : Value) : ∀ (cs : List Int32) (j : Nat), j < cs.length → (wideBytes cs).getD (2 * j + 1) d = .int (hi8 (cs.getD j 0))
  | [], j, h => absurd h (Nat.not_lt_zero j)
  | c :: cs, 0, _ => rfl
  | c :: cs, j + 1, h => by
    have q := wide_hi d cs j (by simpa using h)
    rw [show 2 * (j + 1) + 1 = 2 * j + 1 + 1 + 1 from by omega]
    simpa [wideBytes] using q
theorem low_at (d : Value) (cs : List Int32) (j : Nat) (h : j < cs.length) : (cs.map fun c => Value.int (lo8 c)).getD j d = .int (lo8 (cs.getD j 0)) := by
  simp [List.getD_eq_getElem?_getD, h]
/-- an array of N2 bytes vs codes the chars cs by the coder cd -/
def CodA (cs : List Int32) (cd N2 : Int32) (vs : List Value) : Prop := (cd = 0 ∧ N2 = Int32.ofNat cs.length ∧ vs = (cs.map fun c => Value.int (lo8 c)) ∧ ∀ c ∈ cs, ¬ 255 < c) ∨ (cd = 1 ∧ N2 = Int32.ofNat (2 * cs.length) ∧ vs = wideBytes cs ∧ ∃ c ∈ cs, 255 < c)
theorem CodA.cod {cs : List Int32} {cd N2 : Int32} {vs : List Value} {V : Cell} (h : CodA cs cd N2 vs) (hn : 2 * cs.length < 2 ^ 31) (hs : V.slots.size = N2.toNatClampNeg) (hv : RoadKit.Has V vs (.int 0)) : Cod cd cs.length (fun j => cs.getD j 0) V := by
  rcases h with ⟨rfl, rfl, rfl, h⟩ | ⟨rfl, rfl, rfl, c, hc, hw⟩
  · rw [n32 (by omega)] at hs
    exact Or.inl ⟨rfl, hs, fun j hj => ⟨by rw [hv j (by omega), low_at _ _ _ hj], by
      have e : cs.getD j 0 = cs[j] := by simp [List.getD_eq_getElem?_getD, hj]
      show ¬ 255 < cs.getD j 0
      rw [e]; exact h _ (List.getElem_mem _)⟩⟩
  · rw [n32 (by omega)] at hs
    obtain ⟨j, hj, rfl⟩ := List.getElem_of_mem hc
    exact Or.inr ⟨rfl, hs, fun j hj => ⟨by rw [hv _ (by omega), wide_lo _ _ _ hj], by rw [hv _ (by omega), wide_hi _ _ _ hj]⟩, j, hj, by
      have e : cs.getD j 0 = cs[j] := by simp [List.getD_eq_getElem?_getD, hj]
      show 255 < cs.getD j 0
      rw [e]; exact hw⟩
/-- an object of exactly java/lang/String, its two fields found: as the laws ask it -/
theorem strObj {Z U : State} {a0 : Array Value} {kI : Nat} (wi : (Jvm.Cond.instantiable ST kI).before a0 Z = true) (al : Z.vm.Alike U.vm) {x : Addr} {v0 c0 : Value} (E : RoadKit.Exa Z U.heap x ST) (V : RoadKit.Fld Z U.heap x ST "value" "[B" v0) (C : RoadKit.Fld Z U.heap x ST "coder" "B" c0) :
    ∃ (D : Cell) (fV fC : Field), Blank ST x D U ∧ Found ST "value" "[B" fV U ∧ Found ST "coder" "B" fC U ∧ D.slots[fV.slot]? = some v0 ∧ D.slots[fC.slot]? = some c0 ∧ RoadKit.slotOf Z ST "value" "[B" = fV.slot ∧ RoadKit.slotOf Z ST "coder" "B" = fC.slot := by
  obtain ⟨D, cfV, kV, iV, fV, hD, gV, stV, knV, obV, asV, slV⟩ := V
  obtain ⟨D', cfC, kC, iC, fC, hD', gC, stC, -, -, asC, slC⟩ := C
  cases hD.symm.trans hD'
  obtain ⟨D2, kD, e1, e2, e3, e4, e5⟩ := E
  cases hD.symm.trans e1
  obtain ⟨c2, k2, i1, i2, i3, -⟩ := Cond.instantiable_spec wi
  cases e2.symm.trans i1
  cases e3.symm.trans i2
  obtain ⟨kU, u1, u2⟩ := al.2.2 _ _ e3
  exact ⟨D, fV, fC, ⟨hD, ⟨knV, fun q hq => by rw [hq] at obV; cases obV⟩, by rw [al.findClass]; exact e2, kU, u1, by rw [u2]; exact i3, by rw [u2]; exact e5 i3⟩, ⟨SBG.found_only al ⟨cfV, kV, iV, gV⟩, stV⟩, ⟨SBG.found_only al ⟨cfC, kC, iC, gC⟩, stC⟩, slV, slC, by simp [RoadKit.slotOf, gV], by simp [RoadKit.slotOf, gC]⟩
theorem sta_is {Z U : State} (al : Z.vm.Alike U.vm) {C n d : String} {v : Value} (S : RoadKit.Sta Z U.heap C n d v) : StaticIs U C n d v := by
  obtain ⟨cfS, iS, kS, fS, st, cS, t1, t2, t3, t4, t5, t6, t7⟩ := S
  exact StaticIs.there (s := { Z with heap := U.heap }) ⟨cfS, iS, kS, fS, st, cS, t1, t2, t3, t4, t5, (fun q => by rw [q] at t6; cases t6), t7⟩ al rfl
end StrChars.Road
namespace StrChars.Road
open Jvm Sem ClassFile Op Lib Jvm.Stand Jvm.Free Jvm.Free.XT
open Jvm.Lib.Cold (StaticIs)
/-- the road's facts of a String, as the laws ask it -/
theorem txt_of {Z U : State} {a0 : Array Value} {kI : Nat} (wi : (Jvm.Cond.instantiable ST kI).before a0 Z = true) (al : Z.vm.Alike U.vm) {x t : Addr} {kb : ClassId} {cs : List Int32} {cd N2 : Int32} {vs : List Value} (E : RoadKit.Exa Z U.heap x ST) (V : RoadKit.Fld Z U.heap x ST "value" "[B" (.ref t)) (C : RoadKit.Fld Z U.heap x ST "coder" "B" (.int cd)) (K : RoadKit.Arv Z U.heap t kb .byte N2 vs (.int 0)) (hc : CodA cs cd N2 vs) (hb : ∀ c ∈ cs, ¬ c < 0 ∧ ¬ (65535 : Int32) < c) (l2 : cs.length ≤ 4000) :
    ∃ A, Txt x t A cd cs.length (fun j => cs.getD j 0) U := by
  obtain ⟨A, K1, K2, K3, K4, K5, K6⟩ := K
  have hcod := hc.cod (by omega) K3 K5
  obtain ⟨D, fV, fC, hB, F1, F2, g1, g2, -, -⟩ := strObj wi al E V C
  exact ⟨A, ⟨_, hB.2.2.1, D, hB.1, rfl, by cases q : D.vm <;> first | rfl | exact absurd q (hB.2.1.2 _)⟩, Has.of hB F1 g1, Has.of hB F2 g2, ⟨K1.1, State.isArrayOf_alike al K1.2.1, K1.2.2, by rcases hcod with ⟨-, q, -⟩ | ⟨-, q, -⟩ <;> omega⟩, hcod, fun j hj => by
    have e : cs.getD j 0 = cs[j] := by simp [List.getD_eq_getElem?_getD, hj]
    show ¬ cs.getD j 0 < 0 ∧ ¬ 65535 < cs.getD j 0
    rw [e]; exact hb _ (List.getElem_mem _)⟩
end StrChars.Road
namespace StrChars
open Jvm Sem ClassFile Op Lib Jvm.Stand Jvm.Free.XT Jvm.Free.ALB Jvm.Free.JM Jvm.Free
open Jvm.Lib.Cold (StaticIs)
namespace ChN
def yN : MethodName := ⟨"java/lang/String", "charAt", "(I)C"⟩
abbrev yB : ByteArray := jdk_42_method_56_code
theorem d0 : decode yB 0 = .ok (.aload_n 0, 1) := by decide +kernel
theorem d1 : decode yB 1 = .ok (.invokevirtual 492, 3) := by decide +kernel
theorem d4 : decode yB 4 = .ok (.ifCond (.eq) 12, 3) := by decide +kernel
theorem d7 : decode yB 7 = .ok (.aload_n 0, 1) := by decide +kernel
theorem d8 : decode yB 8 = .ok (.getfield 9, 3) := by decide +kernel
theorem d11 : decode yB 11 = .ok (.iload_n 1, 1) := by decide +kernel
theorem d12 : decode yB 12 = .ok (.invokestatic 495, 3) := by decide +kernel
theorem d15 : decode yB 15 = .ok (.ireturn, 1) := by decide +kernel
def site : List Cond := [.fieldLink "java/lang/String" 9 "java/lang/String" "value" "[B", IsL.tab, LChA.tab] ++ virtW "java/lang/String" 492 "java/lang/String" IsL.yN IsL.yN ++ staticW "java/lang/String" 495 LChA.yN
def tab : Cond := tabOf yN yB 2 (some .char) site
def P (x t : Addr) (V : Cell) (n : Nat) (f : Nat → Int32) (z : Int32) (fm : Value) (i : Nat) (args : Array Value) (s : State) : Prop := args = #[.ref x, .int (Int32.ofNat i)] ∧ Txt x t V 0 n f s ∧ i < n ∧ StaticIs s "java/lang/String" "COMPACT_STRINGS" "Z" (.int z) ∧ ¬ z = 0 ∧ StaticIs s "jdk/internal/util/Preconditions" "SIOOBE_FORMATTER" "Ljava/util/function/BiFunction;" fm ∧ fm.isRef = true
def E (f : Nat → Int32) (i : Nat) (r : Option Value) (s u : State) : Prop := XT.PureE (some (.int (f i))) r s u
/-- charAt(i) of a Latin-1 String of n chars, i < n: f i -/
theorem law (l : Launch) (x t : Addr) (V : Cell) (n : Nat) (f : Nat → Int32) (z : Int32) (fm : Value) (i : Nat) : Law l yN 2 1 3 40 yB 2 (some .char) site (P x t V n f z fm i) (E f i) [] 0 0 := by
  refine Law.of_walk (plainFor_of_name (by decide +kernel)) (by decide +kernel) (by decide +kernel) (by decide) (fun _ _ h => by rw [h.1]; rfl) (fun _ U U' hal hh h => ⟨h.1, h.2.1.mv hal hh, h.2.2.1, h.2.2.2.1.there hal hh, h.2.2.2.2.1, h.2.2.2.2.2.1.there hal hh, h.2.2.2.2.2.2⟩) (fun r U U' V V' h1 hal h2 h => XT.PureE.mv r U U' V V' h1 hal h2 h) ?_
  intro p e s m args below meth c s₁ X0 hexec hbytes hml hret hlk hnm hown hh0 W hP
  obtain ⟨rfl, hx, hi, s1, hz, s3, rf⟩ := hP
  have v31 := hx.2.2.2.1.2.2.2
  have hr := hx.2.2.2.2.2 i hi
  have hx0 := hx.mv X0.warmed.alike hh0
  have c1 : Steps p.tables e below (s₁.setTop (entryFrame m #[.ref x, .int (Int32.ofNat i)] 2)) (s₁.setTop (mkF m 1 #[.val (.ref x), .val (.int (Int32.ofNat i))] [.ref x])) := Steps.trans (entry rfl) (by
    show Steps p.tables e below (s₁.setTop (mkF m 0 #[.val (.ref x), .val (.int (Int32.ofNat i))] [])) _
    refine XS.aloadN X0.here hexec rfl (hb hbytes d0) rfl rfl ?_
    exact Steps.refl _)
  obtain ⟨v2, T2, X2, E2, g2⟩ := X0.callV hexec (IsL.law l x 0 z) hown (wks W (virtW "java/lang/String" 492 "java/lang/String" IsL.yN IsL.yN)) rfl (by decide) (wk W IsL.tab) (W := 0) (Nat.le_of_ble_eq_true rfl) (Nat.le_of_ble_eq_true rfl) (Nat.le_refl _) (Nat.le_refl _) (hx0.1.fc X0.warmed.alike) hx0.1.is (g := (mkF m 1 #[.val (.ref x), .val (.int (Int32.ofNat i))] [.ref x])) rfl (by rw [hml]; rfl) c1 (argsL := []) (rest := []) rfl rfl (by show 2 * 0 + 0 ≤ _; decide) (hb hbytes d1) (⟨rfl, hx0.2.2.1, hx.2.2.2.2.1.cd, s1.there X0.warmed.alike hh0, hz⟩)
  obtain ⟨rfl, q2⟩ := E2
  have hh2 := q2.trans hh0
  have hx2 := hx.mv X2.warmed.alike hh2
  obtain ⟨-, k1, k2⟩ | ⟨k0, -⟩ := hx.2.2.2.2.1
  · have c3 : Steps p.tables e below (s₁.setTop (entryFrame m #[.ref x, .int (Int32.ofNat i)] 2)) (T2.setTop (mkF m 8 #[.val (.ref x), .val (.int (Int32.ofNat i))] [.ref x])) := Steps.trans g2 (by
      refine XS.ifNo X2.here hexec rfl (hb hbytes d4) rfl (i0_eq_f (by decide)) ?_
      refine XS.aloadN X2.here hexec rfl (hb hbytes d7) rfl rfl ?_
      exact Steps.refl _)
    obtain ⟨T4, X4, q4, st4⟩ := X2.hget hexec hown (wk W (.fieldLink "java/lang/String" 9 "java/lang/String" "value" "[B")) hx2.2.1 (g := (mkF m 8 #[.val (.ref x), .val (.int (Int32.ofNat i))] [.ref x])) rfl (rest := []) rfl (hb hbytes d8)
    have hh4 := q4.trans hh2
    have c5 : Steps p.tables e below (s₁.setTop (entryFrame m #[.ref x, .int (Int32.ofNat i)] 2)) (T4.setTop (mkF m 12 #[.val (.ref x), .val (.int (Int32.ofNat i))] [.int (Int32.ofNat i), .ref t])) := (c3.trans (st4 _ (Steps.refl _))).trans (by
      refine XS.iloadN X4.here hexec rfl (hb hbytes d11) rfl ?_
      exact Steps.refl _)
    obtain ⟨v6, T6, X6, E6, g6⟩ := X4.callS hexec (LChA.law l t V i (lo8 (f i)) fm) hown (wks W (staticW "java/lang/String" 495 LChA.yN)) (wk W LChA.tab) (W := 0) (Nat.le_of_ble_eq_true rfl) (Nat.le_of_ble_eq_true rfl) (Nat.le_refl _) (Nat.le_refl _) (g := (mkF m 12 #[.val (.ref x), .val (.int (Int32.ofNat i))] [.int (Int32.ofNat i), .ref t])) rfl (by rw [hml]; rfl) c5 (argsL := [.ref t, .int (Int32.ofNat i)]) (rest := []) rfl rfl (by show 2 * 0 + 0 ≤ _; decide) (hb hbytes d12) (⟨rfl, hx.2.2.2.1.mv X4.warmed.alike hh4, (k2 i hi).1, s3.there X4.warmed.alike hh4, rf⟩)
    obtain ⟨rfl, q6⟩ := E6
    rw [chr8_lo8 hr.1 (k2 i hi).2] at g6
    exact ⟨T6, some (.int (f i)), _, _, _, X6, rfl, rfl, rfl, (fun h => by cases h), ⟨rfl, q6.trans hh4⟩, fun fs hl => Steps.trans g6 (X6.ireturnOut hexec hret (narrow_ch hr.1 hr.2) (Or.inr (Or.inr (Or.inr (Or.inl rfl)))) (hb hbytes d15) hl)⟩
  · exact absurd k0 (by decide)
theorem pays {l : Launch} {R : Room} {p : Program} {e : Env} {below : List Frame} {s : State} {sargs : Array Value} {len W : Nat} (x t : Addr) (V : Cell) (n : Nat) (f : Nat → Int32) (z : Int32) (fm : Value) (i : Nat) (htab : tab.before sargs s = true) (hfr : 4 ≤ R.frames) (hlo : W + 53 ≤ R.locals) :
    Back l R p e below s sargs yN len W (fun A₁ a₁ => A₁.cells + 0 ≤ R.cells ∧ A₁.slots + 0 ≤ R.slots ∧ P x t V n f z fm i a₁ A₁.U) (fun A₁ _ v₁ B₁ => E f i v₁ A₁.U B₁.U ∧ B₁.locs = A₁.locs ++ [] ∧ B₁.cells = A₁.cells + 0 ∧ B₁.slots = A₁.slots + 0) :=
  (law l x t V n f z fm i).pays htab hfr (by omega)
end ChN
end StrChars
namespace StrChars.Road
open Jvm Sem ClassFile Op Lib Jvm.Stand Jvm.Free Jvm.Free.XT
open Jvm.Lib.Cold (StaticIs)
/-- the words of String.charAt(int), the Latin-1 road alone -/
abbrev wordsChN : List Jvm.Cond := [.code ChN.yN ChN.yB 2 (some .char), .initialized ST, .fieldLink ST 9 ST "value" "[B", .fieldLink ST 38 ST "COMPACT_STRINGS" "Z", .fieldLink ST 15 ST "coder" "B", .code IsL.yN IsL.yB 1 (some .boolean), .methodLink ST 492 IsL.yN, .declares IsL.yN, .selects ST IsL.yN IsL.yN, .instanceMethod IsL.yN,
  .methodLink ST 495 LChA.yN, .static LChA.yN, .code LChA.yN LChA.yB 2 (some .char), .initialized "java/lang/StringLatin1", .methodLink "java/lang/StringLatin1" 9 JO.Str_checkIndex.yN, .static JO.Str_checkIndex.yN, .code JO.Str_checkIndex.yN JO.Str_checkIndex.yB 2 none,
  .fieldLink ST 1053 "jdk/internal/util/Preconditions" "SIOOBE_FORMATTER" "Ljava/util/function/BiFunction;", .methodLink ST 1059 JC.PreCheck.yN, .static JC.PreCheck.yN, .code JC.PreCheck.yN JC.PreCheck.yB 3 (some .int), .initialized "jdk/internal/util/Preconditions"]
theorem tabChN_of {a : Array Value} {s : State} (h : ∀ w ∈ wordsChN, w.before a s = true) : ChN.tab.before a s = true := by
  have hp : JC.PreCheck.tab.before a s = true := unparts (wk h (.code JC.PreCheck.yN JC.PreCheck.yB 3 (some .int))) (wks h (.initialized JC.PreCheck.yN.cls :: JC.PreCheck.site))
  have qk := consq hp h
  have hk : JO.Str_checkIndex.tab.before a s = true := unparts (wk qk (.code JO.Str_checkIndex.yN JO.Str_checkIndex.yB 2 none)) (wks qk (.initialized JO.Str_checkIndex.yN.cls :: JO.Str_checkIndex.site))
  have ql := consq hk h
  have hl : LChA.tab.before a s = true := unparts (wk ql (.code LChA.yN LChA.yB 2 (some .char))) (wks ql (.initialized LChA.yN.cls :: LChA.site))
  have hi : IsL.tab.before a s = true := unparts (wk h (.code IsL.yN IsL.yB 1 (some .boolean))) (wks h (.initialized IsL.yN.cls :: IsL.site))
  have q := consq hi (consq hl h)
  exact unparts (wk q (.code ChN.yN ChN.yB 2 (some .char))) (wks q (.initialized ChN.yN.cls :: ChN.site))
theorem movedChN {Z s : State} {a0 args : Array Value} (hZ : Z.Warmed39 s.vm) (hw : ∀ d ∈ wordsChN, d.before a0 Z = true) : ∀ d ∈ wordsChN, d.before args s = true := fun d hd => by
  have t : ∀ d ∈ wordsChN, (d.onTables && d.keepsFace) = true := by decide +kernel
  exact RoadKit.mv hZ (hw d hd) (t d hd)
/-- **charAt(i) OF A LATIN-1 STRING**, i < n: the char -/
theorem chN {p : Program} {l : Launch} {e : Env} {R : Room} {s : State} {args : Array Value} {below : List Frame} {len W : Nat} {Z : State} {a0 : Array Value} {h : Heap} (hZ : Z.Warmed39 s.vm) (hw : ∀ d ∈ wordsChN, d.before a0 Z = true) {kI : Nat} (wi : (Jvm.Cond.instantiable ST kI).before a0 Z = true)
    {x t : Addr} {kb : ClassId} {cs : List Int32} {N2 z : Int32} {vs : List Value} {fm : Value} {i : Nat} {j : Int32} (E : RoadKit.Exa Z h x ST) (V : RoadKit.Fld Z h x ST "value" "[B" (.ref t)) (C : RoadKit.Fld Z h x ST "coder" "B" (.int 0)) (K : RoadKit.Arv Z h t kb .byte N2 vs (.int 0)) (hc : CodA cs 0 N2 vs) (hb : ∀ c ∈ cs, ¬ c < 0 ∧ ¬ (65535 : Int32) < c)
    (S : RoadKit.Sta Z h ST "COMPACT_STRINGS" "Z" (.int z)) (hz : ¬ z = 0) (F : RoadKit.Sta Z h "jdk/internal/util/Preconditions" "SIOOBE_FORMATTER" "Ljava/util/function/BiFunction;" fm) (rf : fm.isRef = true) (l2 : cs.length ≤ 4000) (hi : i < cs.length) (hj : j = Int32.ofNat i) (hfr : 4 ≤ R.frames) (hlo : W + 53 ≤ R.locals) :
    Back l R p e below s args (⟨"java/lang/String", "charAt", "(I)C"⟩ : MethodName) len W (fun P a => a = #[.ref x, .int j] ∧ P.U.heap = h ∧ P.cells + 0 ≤ R.cells ∧ P.slots + 0 ≤ R.slots)
      (fun P _ v B => ∃ L, (v = some (.int (cs.getD i 0)) ∧ L = [] ∧ B.U.heap = h) ∧ B.locs = P.locs ++ L ∧ B.cells = P.cells + 0 ∧ B.slots = P.slots + 0) := by
  subst hj
  intro m meth c P g ig mk a X hg hsize hdg hW hn hp'
  obtain ⟨rfl, rfl, r1, r2⟩ := hp'
  have al : Z.vm.Alike P.U.vm := hZ.alike.trans X.warmed.alike
  obtain ⟨A, hx⟩ := txt_of wi al E V C K hc hb l2
  obtain ⟨v, B, X', ⟨⟨hv, hh⟩, hl, hk, hs⟩, st⟩ := ChN.pays x t A cs.length (fun j => cs.getD j 0) z fm i (tabChN_of (movedChN hZ hw)) hfr hlo m meth c P g ig mk _ X hg hsize hdg hW hn ⟨r1, r2, rfl, hx, hi, sta_is al S, hz, sta_is al F, rf⟩
  exact ⟨v, B, X', ⟨[], ⟨hv, rfl, hh⟩, hl, hk, hs⟩, st⟩
/-- what backV says of its String, as the contracts of this text ask it: cs's low bytes, coder 0 -/
theorem codOf {cs : List Int32} {n : Nat} (hn : cs.length = n) (hb : ∀ c ∈ cs, ¬ 255 < c) : CodA cs 0 (Int32.ofNat n) ((cs.map lo8).map Value.int) := Or.inl ⟨rfl, by rw [hn], by simp [List.map_map, Function.comp_def], hb⟩
end StrChars.Road
end Jvm.Pilot.@@N@@
namespace Jvm.RoadKit
open Sem ClassFile Op Lib Jvm.Stand Jvm.Free Jvm.LawKit
section New
variable {p : Program} {l : Launch} {e : Env} {R : Room} {s : State} {m : MethodId} {args : Array Value} {below : List Frame} {meth : Method} {c : Code} {T : State} {locs : List Loc} {cells slots : Nat}
theorem retI (X : Stand p l e R s m args below meth c T locs cells slots) (hx : p.tables.exec = Jvm.exec) {pc : Nat} {Ls : Array Slot} {z : Int32} {rest : List Value} (hret : meth.sig.returnType = some .int) (hd : decode c.code pc = .ok (.ireturn, 1)) {fs : List Frame}
    (hl : ∀ (f : JFrame) (acts : List Action), f.method = m → f.locked = none → f.entered = [] → (doReturn e (T.setTop f) acts (some (.int z))).1 = T.setFrames fs) : Steps p.tables e below (T.setTop (mkF m pc Ls (.int z :: rest))) (T.setFrames fs) :=
  retOut X hx hret rfl (Or.inl ⟨rfl, Or.inl rfl, _, rfl⟩) hd hl
end New
end Jvm.RoadKit
namespace Jvm.Pilot.@@N@@
open Jvm Jvm.ClassFile Sem Op Lib Jvm.Free Jvm.Stand Jvm.LawKit Jvm.RoadKit Bundle Jvm.Pilot.@@N@@.Jvm.D
section Own
variable {p : Program} {l : Launch} {e : Env} {R : Room} {s : State} {m : MethodId} {args : Array Value} {below : List Frame} {meth : Method} {c : Code} {T : State} {locs : List Loc} {cells slots : Nat}
/-- from this state the invocation comes to its end, and Q holds there -/
def GoOn (p : Program) (e : Env) (below : List Frame) (S : State) (Q : Outcome → State → Prop) : Prop := ∃ s₂ o, Steps p.tables e below S s₂ ∧ s₂.status = .running ∧ Ended s₂ below o ∧ Q o s₂
theorem GoOn.step {S S' : State} {Q : Outcome → State → Prop} (h : ∀ t, Steps p.tables e below S' t → Steps p.tables e below S t) (k : GoOn p e below S' Q) : GoOn p e below S Q := by
  obtain ⟨s2, o, h1, h2, h3, h4⟩ := k
  exact ⟨s2, o, h _ h1, h2, h3, h4⟩
theorem GoOn.trans {S S' : State} {Q : Outcome → State → Prop} (h : Steps p.tables e below S S') (k : GoOn p e below S' Q) : GoOn p e below S Q := GoOn.step (fun _ q => Steps.trans h q) k
def PostN (s : State) (Qp : Option Value → Heap → List Loc → Prop) (k n : Nat) (o : Outcome) (U' : State) : Prop := ∃ v L, o = .returned v ∧ Qp v U'.heap L ∧ FrameEnd s o U' L k n
def PostW (s : State) (Qp : Option Value → Heap → List Loc → Prop) (k n : Nat) (o : Outcome) (U' : State) : Prop := ∃ v L, o = .returned v ∧ Qp v U'.heap L ∧ ReturnedEndW s o U' L k n
theorem GoOn.ret (X : Stand p l e R s m args below meth c T locs cells slots) (hlk : meth.locks = false) {v : Option Value} (hv : meth.sig.returnType = none → v = none) {S : State}
    (st : ∀ fs, (∀ (f : JFrame) (acts : List Action), f.method = m → f.locked = none → f.entered = [] → (doReturn e (T.setTop f) acts v).1 = T.setFrames fs) → Steps p.tables e below S (T.setFrames fs)) {k n : Nat} (hk : cells ≤ k) (hn : slots ≤ n)
    {Qp : Option Value → Heap → List Loc → Prop} (q : Qp v T.heap locs) : GoOn p e below S (PostN s Qp k n) := by
  obtain ⟨fs, hr, hrun, hended, hW, hsame⟩ := X.leave hv hlk
  exact ⟨_, _, st fs hr, hrun, hended, v, _, rfl, q, ⟨_, rfl⟩, hW, hsame.mono hk hn⟩
theorem GoOn.retW {vm1 : Vm} {k1 : Nat} (X : Stand p l e R (s.setVm vm1) m args below meth c T locs cells slots) (hS : s.Since vm1 k1) (h1 : k1 ≤ T.heap.size) (hlk : meth.locks = false) {v : Option Value} (hv : meth.sig.returnType = none → v = none) {S : State}
    (st : ∀ fs, (∀ (f : JFrame) (acts : List Action), f.method = m → f.locked = none → f.entered = [] → (doReturn e (T.setTop f) acts v).1 = T.setFrames fs) → Steps p.tables e below S (T.setFrames fs)) {k n : Nat} (hk : cells ≤ k) (hn : slots ≤ n)
    {Qp : Option Value → Heap → List Loc → Prop} (q : Qp v T.heap locs) : GoOn p e below S (PostW s Qp k n) := by
  obtain ⟨fs, hr, hrun, hended, h4, h5, h6, h7⟩ := X.leaveW hS h1 hv hlk
  exact ⟨_, _, st fs hr, hrun, hended, v, _, rfl, q, h4, h5, h6, h7.mono hk hn⟩
def PostH (Z : State) (EL : List (String × Nat)) (s : State) (Qp : Option Value → Heap → List Loc → Prop) (k n : Nat) (o : Outcome) (U' : State) : Prop := ∃ v L, o = .returned v ∧ Qp v U'.heap L ∧ CHr Z EL s.vm s.heap U'.vm U'.heap ∧ ReturnedEndW s o U' L k n
theorem GoOn.retH {Z : State} {a0 : Array Value} {EL : List (String × Nat)} {h0 h : Heap} {vm1 : Vm} {k1 : Nat} (X : Stand p l e R (s.setVm vm1) m args below meth c T locs cells slots) (hZ : Z.Warmed39 (s.setVm vm1).vm) (hS : s.Since vm1 k1) (h1 : k1 ≤ h.size) (hEL : EW Z a0 EL) (hh : s.heap = h0) (eT : T.heap = h) (C : CHr Z EL s.vm h0 vm1 h) (hlk : meth.locks = false) {v : Option Value} (hv : meth.sig.returnType = none → v = none) {S : State}
    (st : ∀ fs, (∀ (f : JFrame) (acts : List Action), f.method = m → f.locked = none → f.entered = [] → (doReturn e (T.setTop f) acts v).1 = T.setFrames fs) → Steps p.tables e below S (T.setFrames fs)) {k n : Nat} (hk : cells ≤ k) (hn : slots ≤ n)
    {Qp : Option Value → Heap → List Loc → Prop} (q : Qp v h locs) : GoOn p e below S (PostH Z EL s Qp k n) := by
  subst hh eT
  obtain ⟨fs, hr, hrun, hended, h4, h5, h6, h7⟩ := X.leaveW hS h1 hv hlk
  have q2 := CHr.trans C (CHv.at X hZ hEL C.1)
  exact ⟨_, _, st fs hr, hrun, hended, v, _, rfl, q, q2, h4, h5, h6, h7.mono hk hn⟩
theorem Safe.arv {Z : State} {EL : List (String × Nat)} {vm : Vm} {h : Heap} {x : Addr} {kc : ClassId} {ty : FieldType} {z : Int32} {vs : List Value} {dv : Value} (hal : Z.vm.Alike vm) (V : Arv Z h x kc ty z vs dv) (ht : ty ≠ .byte) : Safe Z EL vm h x := by
  obtain ⟨cl, A, -⟩ := V
  exact Safe.arr hal A ht
theorem Safe.ofNull {Z : State} {EL : List (String × Nat)} {vm : Vm} {h : Heap} {x : Addr} (hal : Z.vm.Alike vm) (E : Exa Z h x "java/lang/String") (F : Fld Z h x "java/lang/String" "value" "[B" .null) : Safe Z EL vm h x := fun B => by
  obtain ⟨p, -, u, a, -, q, -, S, rfl | rfl⟩ := B
  · obtain ⟨cell, cf, k, i, f, h1, h2, h3, -, -, -, h7⟩ := F
    cases (show h[q.sa]? = some q.sC from S.ha).symm.trans h1
    obtain ⟨cS, ⟨⟨-, -, -, ⟨c1, k1, i1, f1, -⟩, -, -, -, v1, -⟩, -⟩, -⟩ := S
    obtain ⟨k3, e3, -⟩ := State.fieldFound?_setVm (s := Z) hal h2
    have e4 := (show (Wst Z vm h).fieldFound? _ _ _ = _ from e3).symm.trans f1
    simp only [Option.some.injEq, Prod.mk.injEq] at e4
    rw [← e4.2.2.2, h7] at v1
    cases v1
  · obtain ⟨cell, k, e1, e2, e3, -, -⟩ := E
    cases (show h[q.sd]? = some q.SA from S.hd).symm.trans e1
    obtain ⟨cS, -, -, f, -⟩ := S
    rw [show (Wst Z vm h).vm = vm from rfl, hal.findClass] at f
    obtain ⟨k1, q1, q2⟩ := Vm.findClass_spec f
    obtain ⟨k2, q3, q4⟩ := Vm.findClass_spec e2
    cases q1.symm.trans q3
    exact absurd (q2.symm.trans q4) (by decide)
theorem alenA {Z : State} {h : Heap} (X : Stand p l e R s m args below meth c T locs cells slots) (hx : p.tables.exec = Jvm.exec) (hZ : Z.Warmed39 s.vm) (eT : T.heap = h) {a : Addr} {k : ClassId} {ty : FieldType} {z : Int32} {vs : List Value} {d : Value} (V : Arv Z h a k ty z vs d) {g : JFrame} (hg : g.method = m) {rest : List Value} (hs : g.stack = .ref a :: rest) (hd : decode c.code g.pc = .ok (.arraylength, 1)) :
    ∀ target, Steps p.tables e below (T.setTop { g with pc := g.pc + 1, stack := .int z :: rest }) target → Steps p.tables e below (T.setTop g) target := fun t q => by
  obtain ⟨cl, A, -, S, M, -, -⟩ := V
  exact X.arraylength hx (by rw [eT]; exact A.1) (State.isArrayOf_alike hZ.alike A.2.1) hg hs hd t (by rw [len_of S M]; exact q)
theorem refCat {v : Value} (h : v.isRef = true) : v.category = 1 := by rcases ref_cases h with rfl | ⟨_, rfl⟩ <;> rfl
theorem own_catR (a : Addr) : (Value.ref a).category = 1 := rfl
theorem own_catI (a : Int32) : (Value.int a).category = 1 := rfl
theorem own_catJ (a : Int64) : (Value.long a).category = 2 := rfl
theorem own_catN : Value.null.category = 1 := rfl
theorem narRef {v : Value} (h : v.isRef = true) {t : FieldType} : narrow t v = v := by rcases ref_cases h with rfl | ⟨_, rfl⟩ <;> cases t <;> rfl
theorem fitRefA {v : Value} (h : v.isRef = true) {t : FieldType} : fits (.array t) v = true := by rcases ref_cases h with rfl | ⟨_, rfl⟩ <;> rfl
theorem fitRef {v : Value} (h : v.isRef = true) {C : String} : fits (.object C) v = true := by rcases ref_cases h with rfl | ⟨_, rfl⟩ <;> rfl
end Own
end Jvm.Pilot.@@N@@
namespace Jvm.Pilot.@@N@@
open Jvm Jvm.ClassFile Sem Op Lib Jvm.Free Jvm.Stand Jvm.LawKit Jvm.RoadKit Bundle Jvm.Pilot.@@N@@.Jvm.D
theorem and255_chars (n : Int32) : ¬ nar .char ((n &&& (255 : Int32)).toUInt32.toUInt16.toUInt32.toInt32) < 0 ∧ ¬ (255 : Int32) < nar .char ((n &&& (255 : Int32)).toUInt32.toUInt16.toUInt32.toInt32) := by
  have h1 := c_mask n 255 8 (by decide) (by decide)
  have h2 := c_i2c (n &&& (255 : Int32))
  have h3 : nar .char ((n &&& (255 : Int32)).toUInt32.toUInt16.toUInt32.toInt32) = ((n &&& (255 : Int32)).toUInt32.toUInt16.toUInt32.toInt32) := by simp only [nar, UInt32.toUInt32_toInt32, UInt16.toUInt16_toUInt32]
  rw [h3, Int32.lt_iff_toInt_lt, Int32.lt_iff_toInt_lt]
  have e0 : (0 : Int32).toInt = 0 := rfl
  have e1 : (255 : Int32).toInt = 255 := rfl
  rw [e0, e1]
  have e2 : ((2 ^ 8 : Nat) : Int) = 256 := rfl
  rw [e2] at h1
  omega
set_option maxHeartbeats 4000000 in
theorem own_ef0 (m : MethodId) (x0 : Addr) (x1 : Addr) : entryFrame m #[(.ref x0), (.ref x1)] 2 = mkF m 0 #[.val (.ref x0), .val (.ref x1)] [] := by first | rfl | (simp [entryFrame, mkF, argsToLocals, Value.category]; done)
theorem own_pn1 : plainName "java/lang/Throwable" = true := by first | (simp [plainName, overriddenIn]; done) | decide +kernel
theorem own_d2 : decode jdk_78_method_2_code 0 = .ok (.aload_n 0, 1) := by decide +kernel
theorem own_d3 : decode jdk_78_method_2_code 1 = .ok (.invokespecial 1, 3) := by decide +kernel
theorem own_d4 : decode jdk_78_method_2_code 4 = .ok (.aload_n 0, 1) := by decide +kernel
theorem own_d5 : decode jdk_78_method_2_code 5 = .ok (.aload_n 0, 1) := by decide +kernel
theorem own_d6 : decode jdk_78_method_2_code 6 = .ok (.putfield 7, 3) := by decide +kernel
theorem own_d7 : decode jdk_78_method_2_code 9 = .ok (.aload_n 0, 1) := by decide +kernel
theorem own_d8 : decode jdk_78_method_2_code 10 = .ok (.getstatic 13, 3) := by decide +kernel
theorem own_d9 : decode jdk_78_method_2_code 13 = .ok (.putfield 17, 3) := by decide +kernel
theorem own_d10 : decode jdk_78_method_2_code 16 = .ok (.aload_n 0, 1) := by decide +kernel
theorem own_d11 : decode jdk_78_method_2_code 17 = .ok (.getstatic 20, 3) := by decide +kernel
theorem own_d12 : decode jdk_78_method_2_code 20 = .ok (.putfield 24, 3) := by decide +kernel
theorem own_d13 : decode jdk_78_method_2_code 23 = .ok (.aload_n 0, 1) := by decide +kernel
theorem own_d14 : decode jdk_78_method_2_code 24 = .ok (.invokevirtual 27, 3) := by decide +kernel
theorem own_pd15 : parseMethodDescriptor "()Ljava/lang/Throwable;" = some ⟨[], some (.object "java/lang/Throwable")⟩ := by decide +kernel
theorem own_d16 : decode jdk_78_method_2_code 27 = .ok (.pop, 1) := by decide +kernel
theorem own_d17 : decode jdk_78_method_2_code 28 = .ok (.aload_n 0, 1) := by decide +kernel
theorem own_d18 : decode jdk_78_method_2_code 29 = .ok (.aload_n 1, 1) := by decide +kernel
theorem own_d19 : decode jdk_78_method_2_code 30 = .ok (.putfield 31, 3) := by decide +kernel
theorem own_d20 : decode jdk_78_method_2_code 33 = .ok (.return_, 1) := by decide +kernel
set_option maxHeartbeats 4000000 in
theorem own_ef21 (m : MethodId) (x0 : Addr) (x1 : Addr) : entryFrame m #[(.ref x0), (.ref x1)] 2 = mkF m 0 #[.val (.ref x0), .val (.ref x1)] [] := by first | rfl | (simp [entryFrame, mkF, argsToLocals, Value.category]; done)
theorem own_pn22 : plainName "java/lang/Exception" = true := by first | (simp [plainName, overriddenIn]; done) | decide +kernel
theorem own_d23 : decode jdk_59_method_2_code 0 = .ok (.aload_n 0, 1) := by decide +kernel
theorem own_d24 : decode jdk_59_method_2_code 1 = .ok (.aload_n 1, 1) := by decide +kernel
theorem own_d25 : decode jdk_59_method_2_code 2 = .ok (.invokespecial 7, 3) := by decide +kernel
theorem own_pd26 : parseMethodDescriptor "(Ljava/lang/String;)V" = some ⟨[(.object "java/lang/String")], none⟩ := by decide +kernel
theorem own_d27 : decode jdk_59_method_2_code 5 = .ok (.return_, 1) := by decide +kernel
set_option maxHeartbeats 4000000 in
theorem own_ef28 (m : MethodId) (x0 : Addr) (x1 : Addr) : entryFrame m #[(.ref x0), (.ref x1)] 2 = mkF m 0 #[.val (.ref x0), .val (.ref x1)] [] := by first | rfl | (simp [entryFrame, mkF, argsToLocals, Value.category]; done)
theorem own_pn29 : plainName "com/example/faktorwerk/faktorwerk/model/InputRefusedException" = true := by first | (simp [plainName, overriddenIn]; done) | decide +kernel
theorem own_d30 : decode prog_52_method_1_code 0 = .ok (.aload_n 0, 1) := by decide +kernel
theorem own_d31 : decode prog_52_method_1_code 1 = .ok (.aload_n 1, 1) := by decide +kernel
theorem own_d32 : decode prog_52_method_1_code 2 = .ok (.invokespecial 1, 3) := by decide +kernel
theorem own_d33 : decode prog_52_method_1_code 5 = .ok (.return_, 1) := by decide +kernel
set_option maxHeartbeats 4000000 in
theorem own_ef34 (m : MethodId) (x0 : Int32) : entryFrame m #[(.int x0)] 1 = mkF m 0 #[.val (.int x0)] [] := by first | rfl | (simp [entryFrame, mkF, argsToLocals, Value.category]; done)
theorem own_pn35 : plainName "java/lang/StringLatin1" = true := by first | (simp [plainName, overriddenIn]; done) | decide +kernel
theorem own_d36 : decode jdk_43_method_3_code 0 = .ok (.iload_n 0, 1) := by decide +kernel
theorem own_d37 : decode jdk_43_method_3_code 1 = .ok (.sipush 255, 3) := by decide +kernel
theorem own_d38 : decode jdk_43_method_3_code 4 = .ok (.if_icmp .gt 7, 3) := by decide +kernel
theorem own_d39 : decode jdk_43_method_3_code 7 = .ok (.iconst 1, 1) := by decide +kernel
theorem own_d40 : decode jdk_43_method_3_code 8 = .ok (.goto 4, 3) := by decide +kernel
theorem own_d41 : decode jdk_43_method_3_code 12 = .ok (.ireturn, 1) := by decide +kernel
set_option maxHeartbeats 4000000 in
theorem own_ef42 (m : MethodId) (x0 : Int32) : entryFrame m #[(.int x0)] 1 = mkF m 0 #[.val (.int x0)] [] := by first | rfl | (simp [entryFrame, mkF, argsToLocals, Value.category]; done)
theorem own_d43 : decode jdk_43_method_46_code 0 = .ok (.iconst 1, 1) := by decide +kernel
theorem own_d44 : decode jdk_43_method_46_code 1 = .ok (.newarray .byte, 2) := by decide +kernel
theorem own_d45 : decode jdk_43_method_46_code 3 = .ok (.dup, 1) := by decide +kernel
theorem own_d46 : decode jdk_43_method_46_code 4 = .ok (.iconst 0, 1) := by decide +kernel
theorem own_d47 : decode jdk_43_method_46_code 5 = .ok (.iload_n 0, 1) := by decide +kernel
theorem own_d48 : decode jdk_43_method_46_code 6 = .ok (.i2b, 1) := by decide +kernel
theorem own_d49 : decode jdk_43_method_46_code 7 = .ok (.bastore, 1) := by decide +kernel
theorem own_d50 : decode jdk_43_method_46_code 8 = .ok (.areturn, 1) := by decide +kernel
set_option maxHeartbeats 4000000 in
theorem own_ef51 (m : MethodId) (x0 : Addr) (x1 : Addr) (x2 : Int32) : entryFrame m #[(.ref x0), (.ref x1), (.int x2)] 3 = mkF m 0 #[.val (.ref x0), .val (.ref x1), .val (.int x2)] [] := by first | rfl | (simp [entryFrame, mkF, argsToLocals, Value.category]; done)
theorem own_pn52 : plainName "java/lang/String" = true := by first | (simp [plainName, overriddenIn]; done) | decide +kernel
theorem own_d53 : decode jdk_42_method_151_code 0 = .ok (.aload_n 0, 1) := by decide +kernel
theorem own_d54 : decode jdk_42_method_151_code 1 = .ok (.invokespecial 1, 3) := by decide +kernel
theorem own_d55 : decode jdk_42_method_151_code 4 = .ok (.aload_n 0, 1) := by decide +kernel
theorem own_d56 : decode jdk_42_method_151_code 5 = .ok (.aload_n 1, 1) := by decide +kernel
theorem own_d57 : decode jdk_42_method_151_code 6 = .ok (.putfield 9, 3) := by decide +kernel
theorem own_d58 : decode jdk_42_method_151_code 9 = .ok (.aload_n 0, 1) := by decide +kernel
theorem own_d59 : decode jdk_42_method_151_code 10 = .ok (.iload_n 2, 1) := by decide +kernel
theorem own_d60 : decode jdk_42_method_151_code 11 = .ok (.putfield 15, 3) := by decide +kernel
theorem own_d61 : decode jdk_42_method_151_code 14 = .ok (.return_, 1) := by decide +kernel
set_option maxHeartbeats 4000000 in
theorem own_ef62 (m : MethodId) (x0 : Int32) : entryFrame m #[(.int x0)] 1 = mkF m 0 #[.val (.int x0)] [] := by first | rfl | (simp [entryFrame, mkF, argsToLocals, Value.category]; done)
theorem own_d63 : decode jdk_42_method_139_code 0 = .ok (.getstatic 38, 3) := by decide +kernel
theorem own_d64 : decode jdk_42_method_139_code 3 = .ok (.ifCond .eq 23, 3) := by decide +kernel
theorem own_d65 : decode jdk_42_method_139_code 6 = .ok (.iload_n 0, 1) := by decide +kernel
theorem own_d66 : decode jdk_42_method_139_code 7 = .ok (.invokestatic 1015, 3) := by decide +kernel
theorem own_pd67 : parseMethodDescriptor "(C)Z" = some ⟨[.char], some .boolean⟩ := by decide +kernel
theorem own_d68 : decode jdk_42_method_139_code 10 = .ok (.ifCond .eq 16, 3) := by decide +kernel
theorem own_d69 : decode jdk_42_method_139_code 13 = .ok (.new 10, 3) := by decide +kernel
theorem own_d70 : decode jdk_42_method_139_code 16 = .ok (.dup, 1) := by decide +kernel
theorem own_d71 : decode jdk_42_method_139_code 17 = .ok (.iload_n 0, 1) := by decide +kernel
theorem own_d72 : decode jdk_42_method_139_code 18 = .ok (.invokestatic 1018, 3) := by decide +kernel
theorem own_pd73 : parseMethodDescriptor "(C)[B" = some ⟨[.char], some (.array .byte)⟩ := by decide +kernel
theorem own_d74 : decode jdk_42_method_139_code 21 = .ok (.iconst 0, 1) := by decide +kernel
theorem own_d75 : decode jdk_42_method_139_code 22 = .ok (.invokespecial 209, 3) := by decide +kernel
theorem own_pd76 : parseMethodDescriptor "([BB)V" = some ⟨[(.array .byte), .byte], none⟩ := by decide +kernel
theorem own_d77 : decode jdk_42_method_139_code 25 = .ok (.areturn, 1) := by decide +kernel
set_option maxHeartbeats 4000000 in
theorem own_ef78 (m : MethodId) (x0 : Int32) (x1 : Int32) (x2 : Int32) : entryFrame m #[(.int x0), (.int x1), (.int x2)] 3 = mkF m 0 #[.val (.int x0), .val (.int x1), .val (.int x2)] [] := by first | rfl | (simp [entryFrame, mkF, argsToLocals, Value.category]; done)
theorem own_pn79 : plainName "com/example/faktorwerk/faktorwerk/model/InputRefusedExceptionInFilePinLaw" = true := by first | (simp [plainName, overriddenIn]; done) | decide +kernel
theorem own_d80 : decode method_2_code 0 = .ok (.iload_n 0, 1) := by decide +kernel
theorem own_d81 : decode method_2_code 1 = .ok (.ifCond .ne 6, 3) := by decide +kernel
theorem own_d82 : decode method_2_code 4 = .ok (.ldc 7, 2) := by decide +kernel
theorem own_d83 : decode method_2_code 6 = .ok (.areturn, 1) := by decide +kernel
theorem own_d84 : decode method_2_code 7 = .ok (.iload_n 0, 1) := by decide +kernel
theorem own_d85 : decode method_2_code 8 = .ok (.iconst 1, 1) := by decide +kernel
theorem own_d86 : decode method_2_code 9 = .ok (.if_icmp .ne 8, 3) := by decide +kernel
theorem own_d87 : decode method_2_code 12 = .ok (.iload_n 1, 1) := by decide +kernel
theorem own_d88 : decode method_2_code 13 = .ok (.invokestatic 9, 3) := by decide +kernel
theorem own_pd89 : parseMethodDescriptor "(C)Ljava/lang/String;" = some ⟨[.char], some (.object "java/lang/String")⟩ := by decide +kernel
theorem own_d90 : decode method_2_code 16 = .ok (.areturn, 1) := by decide +kernel
theorem own_d91 : decode method_2_code 17 = .ok (.new 10, 3) := by decide +kernel
theorem own_d92 : decode method_2_code 20 = .ok (.dup, 1) := by decide +kernel
theorem own_d93 : decode method_2_code 21 = .ok (.iconst 2, 1) := by decide +kernel
theorem own_d94 : decode method_2_code 22 = .ok (.newarray .char, 2) := by decide +kernel
theorem own_d95 : decode method_2_code 24 = .ok (.dup, 1) := by decide +kernel
theorem own_d96 : decode method_2_code 25 = .ok (.iconst 0, 1) := by decide +kernel
theorem own_d97 : decode method_2_code 26 = .ok (.iload_n 1, 1) := by decide +kernel
theorem own_d98 : decode method_2_code 27 = .ok (.castore, 1) := by decide +kernel
theorem own_d99 : decode method_2_code 28 = .ok (.dup, 1) := by decide +kernel
theorem own_d100 : decode method_2_code 29 = .ok (.iconst 1, 1) := by decide +kernel
theorem own_d101 : decode method_2_code 30 = .ok (.iload_n 2, 1) := by decide +kernel
theorem own_d102 : decode method_2_code 31 = .ok (.castore, 1) := by decide +kernel
theorem own_d103 : decode method_2_code 32 = .ok (.invokespecial 15, 3) := by decide +kernel
theorem own_pd104 : parseMethodDescriptor "([C)V" = some ⟨[(.array .char)], none⟩ := by decide +kernel
theorem own_d105 : decode method_2_code 35 = .ok (.areturn, 1) := by decide +kernel
set_option maxHeartbeats 4000000 in
theorem own_ef106 (m : MethodId) (x0 : Addr) : entryFrame m #[(.ref x0)] 1 = mkF m 0 #[.val (.ref x0)] [] := by first | rfl | (simp [entryFrame, mkF, argsToLocals, Value.category]; done)
theorem own_d107 : decode jdk_42_method_152_code 0 = .ok (.getstatic 38, 3) := by decide +kernel
theorem own_d108 : decode jdk_42_method_152_code 3 = .ok (.ifCond .eq 10, 3) := by decide +kernel
theorem own_d109 : decode jdk_42_method_152_code 6 = .ok (.aload_n 0, 1) := by decide +kernel
theorem own_d110 : decode jdk_42_method_152_code 7 = .ok (.getfield 15, 3) := by decide +kernel
theorem own_d111 : decode jdk_42_method_152_code 10 = .ok (.goto 4, 3) := by decide +kernel
theorem own_d112 : decode jdk_42_method_152_code 14 = .ok (.ireturn, 1) := by decide +kernel
set_option maxHeartbeats 4000000 in
theorem own_ef113 (m : MethodId) (x0 : Addr) : entryFrame m #[(.ref x0)] 1 = mkF m 0 #[.val (.ref x0)] [] := by first | rfl | (simp [entryFrame, mkF, argsToLocals, Value.category]; done)
theorem own_d114 : decode jdk_42_method_54_code 0 = .ok (.aload_n 0, 1) := by decide +kernel
theorem own_d115 : decode jdk_42_method_54_code 1 = .ok (.getfield 9, 3) := by decide +kernel
theorem own_d116 : decode jdk_42_method_54_code 4 = .ok (.arraylength, 1) := by decide +kernel
theorem own_d117 : decode jdk_42_method_54_code 5 = .ok (.aload_n 0, 1) := by decide +kernel
theorem own_d118 : decode jdk_42_method_54_code 6 = .ok (.invokevirtual 335, 3) := by decide +kernel
theorem own_pd119 : parseMethodDescriptor "()B" = some ⟨[], some .byte⟩ := by decide +kernel
theorem own_d120 : decode jdk_42_method_54_code 9 = .ok (.ishr, 1) := by decide +kernel
theorem own_d121 : decode jdk_42_method_54_code 10 = .ok (.ireturn, 1) := by decide +kernel
set_option maxHeartbeats 4000000 in
theorem own_ef122 (m : MethodId) (x0 : Addr) (x1 : Int32) : entryFrame m #[(.ref x0), (.int x1)] 3 = mkF m 0 #[.val (.ref x0), .val (.int x1), .unset] [] := by first | rfl | (simp [entryFrame, mkF, argsToLocals, Value.category]; done)
theorem own_pn123 : plainName "java/lang/AbstractStringBuilder" = true := by first | (simp [plainName, overriddenIn]; done) | decide +kernel
theorem own_d124 : decode jdk_68_method_9_code 0 = .ok (.aload_n 0, 1) := by decide +kernel
theorem own_d125 : decode jdk_68_method_9_code 1 = .ok (.getfield 15, 3) := by decide +kernel
theorem own_d126 : decode jdk_68_method_9_code 4 = .ok (.arraylength, 1) := by decide +kernel
theorem own_d127 : decode jdk_68_method_9_code 5 = .ok (.aload_n 0, 1) := by decide +kernel
theorem own_d128 : decode jdk_68_method_9_code 6 = .ok (.getfield 22, 3) := by decide +kernel
theorem own_d129 : decode jdk_68_method_9_code 9 = .ok (.ishr, 1) := by decide +kernel
theorem own_d130 : decode jdk_68_method_9_code 10 = .ok (.istore_n 2, 1) := by decide +kernel
theorem own_d131 : decode jdk_68_method_9_code 11 = .ok (.iload_n 1, 1) := by decide +kernel
theorem own_d132 : decode jdk_68_method_9_code 12 = .ok (.iload_n 2, 1) := by decide +kernel
theorem own_d133 : decode jdk_68_method_9_code 13 = .ok (.isub, 1) := by decide +kernel
theorem own_d134 : decode jdk_68_method_9_code 14 = .ok (.ifCond .le 24, 3) := by decide +kernel
theorem own_d135 : decode jdk_68_method_9_code 38 = .ok (.return_, 1) := by decide +kernel
set_option maxHeartbeats 4000000 in
theorem own_ef136 (m : MethodId) (x0 : Addr) (x1 : Addr) : entryFrame m #[(.ref x0), (.ref x1)] 2 = mkF m 0 #[.val (.ref x0), .val (.ref x1)] [] := by first | rfl | (simp [entryFrame, mkF, argsToLocals, Value.category]; done)
theorem own_d137 : decode jdk_68_method_71_code 0 = .ok (.getstatic 18, 3) := by decide +kernel
theorem own_d138 : decode jdk_68_method_71_code 3 = .ok (.ifCond .eq 18, 3) := by decide +kernel
theorem own_d139 : decode jdk_68_method_71_code 6 = .ok (.aload_n 0, 1) := by decide +kernel
theorem own_d140 : decode jdk_68_method_71_code 7 = .ok (.getfield 22, 3) := by decide +kernel
theorem own_d141 : decode jdk_68_method_71_code 10 = .ok (.aload_n 1, 1) := by decide +kernel
theorem own_d142 : decode jdk_68_method_71_code 11 = .ok (.invokevirtual 40, 3) := by decide +kernel
theorem own_d143 : decode jdk_68_method_71_code 14 = .ok (.if_icmp .eq 7, 3) := by decide +kernel
theorem own_d144 : decode jdk_68_method_71_code 21 = .ok (.return_, 1) := by decide +kernel
set_option maxHeartbeats 4000000 in
theorem own_ef145 (m : MethodId) (x0 : Addr) (x1 : Addr) (x2 : Int32) (x3 : Int32) : entryFrame m #[(.ref x0), (.ref x1), (.int x2), (.int x3)] 4 = mkF m 0 #[.val (.ref x0), .val (.ref x1), .val (.int x2), .val (.int x3)] [] := by first | rfl | (simp [entryFrame, mkF, argsToLocals, Value.category]; done)
theorem own_d146 : decode jdk_42_method_147_code 0 = .ok (.aload_n 0, 1) := by decide +kernel
theorem own_d147 : decode jdk_42_method_147_code 1 = .ok (.invokevirtual 335, 3) := by decide +kernel
theorem own_d148 : decode jdk_42_method_147_code 4 = .ok (.iload_n 3, 1) := by decide +kernel
theorem own_d149 : decode jdk_42_method_147_code 5 = .ok (.if_icmp .ne 23, 3) := by decide +kernel
theorem own_d150 : decode jdk_42_method_147_code 8 = .ok (.aload_n 0, 1) := by decide +kernel
theorem own_d151 : decode jdk_42_method_147_code 9 = .ok (.getfield 9, 3) := by decide +kernel
theorem own_d152 : decode jdk_42_method_147_code 12 = .ok (.iconst 0, 1) := by decide +kernel
theorem own_d153 : decode jdk_42_method_147_code 13 = .ok (.aload_n 1, 1) := by decide +kernel
theorem own_d154 : decode jdk_42_method_147_code 14 = .ok (.iload_n 2, 1) := by decide +kernel
theorem own_d155 : decode jdk_42_method_147_code 15 = .ok (.iload_n 3, 1) := by decide +kernel
theorem own_d156 : decode jdk_42_method_147_code 16 = .ok (.ishl, 1) := by decide +kernel
theorem own_d157 : decode jdk_42_method_147_code 17 = .ok (.aload_n 0, 1) := by decide +kernel
theorem own_d158 : decode jdk_42_method_147_code 18 = .ok (.getfield 9, 3) := by decide +kernel
theorem own_d159 : decode jdk_42_method_147_code 21 = .ok (.arraylength, 1) := by decide +kernel
theorem own_d160 : decode jdk_42_method_147_code 22 = .ok (.invokestatic 212, 3) := by decide +kernel
theorem own_d161 : decode jdk_42_method_147_code 25 = .ok (.goto 18, 3) := by decide +kernel
theorem own_d162 : decode jdk_42_method_147_code 43 = .ok (.return_, 1) := by decide +kernel
set_option maxHeartbeats 4000000 in
theorem own_ef163 (m : MethodId) (x0 : Addr) (x1 : Int32) (x2 : Addr) : entryFrame m #[(.ref x0), (.int x1), (.ref x2)] 3 = mkF m 0 #[.val (.ref x0), .val (.int x1), .val (.ref x2)] [] := by first | rfl | (simp [entryFrame, mkF, argsToLocals, Value.category]; done)
theorem own_d164 : decode jdk_68_method_73_code 0 = .ok (.aload_n 0, 1) := by decide +kernel
theorem own_d165 : decode jdk_68_method_73_code 1 = .ok (.aload_n 2, 1) := by decide +kernel
theorem own_d166 : decode jdk_68_method_73_code 2 = .ok (.invokevirtual 397, 3) := by decide +kernel
theorem own_d167 : decode jdk_68_method_73_code 5 = .ok (.aload_n 2, 1) := by decide +kernel
theorem own_d168 : decode jdk_68_method_73_code 6 = .ok (.aload_n 0, 1) := by decide +kernel
theorem own_d169 : decode jdk_68_method_73_code 7 = .ok (.getfield 15, 3) := by decide +kernel
theorem own_d170 : decode jdk_68_method_73_code 10 = .ok (.iload_n 1, 1) := by decide +kernel
theorem own_d171 : decode jdk_68_method_73_code 11 = .ok (.aload_n 0, 1) := by decide +kernel
theorem own_d172 : decode jdk_68_method_73_code 12 = .ok (.getfield 22, 3) := by decide +kernel
theorem own_d173 : decode jdk_68_method_73_code 15 = .ok (.invokevirtual 399, 3) := by decide +kernel
theorem own_pd174 : parseMethodDescriptor "([BIB)V" = some ⟨[(.array .byte), .int, .byte], none⟩ := by decide +kernel
theorem own_d175 : decode jdk_68_method_73_code 18 = .ok (.return_, 1) := by decide +kernel
set_option maxHeartbeats 4000000 in
theorem own_ef176 (m : MethodId) (x0 : Addr) (x1 : Addr) : entryFrame m #[(.ref x0), (.ref x1)] 3 = mkF m 0 #[.val (.ref x0), .val (.ref x1), .unset] [] := by first | rfl | (simp [entryFrame, mkF, argsToLocals, Value.category]; done)
theorem own_d177 : decode jdk_68_method_22_code 0 = .ok (.aload_n 1, 1) := by decide +kernel
theorem own_d178 : decode jdk_68_method_22_code 1 = .ok (.ifnonnull 8, 3) := by decide +kernel
theorem own_d179 : decode jdk_68_method_22_code 9 = .ok (.aload_n 1, 1) := by decide +kernel
theorem own_d180 : decode jdk_68_method_22_code 10 = .ok (.invokevirtual 32, 3) := by decide +kernel
theorem own_pd181 : parseMethodDescriptor "()I" = some ⟨[], some .int⟩ := by decide +kernel
theorem own_d182 : decode jdk_68_method_22_code 13 = .ok (.istore_n 2, 1) := by decide +kernel
theorem own_d183 : decode jdk_68_method_22_code 14 = .ok (.aload_n 0, 1) := by decide +kernel
theorem own_d184 : decode jdk_68_method_22_code 15 = .ok (.aload_n 0, 1) := by decide +kernel
theorem own_d185 : decode jdk_68_method_22_code 16 = .ok (.getfield 79, 3) := by decide +kernel
theorem own_d186 : decode jdk_68_method_22_code 19 = .ok (.iload_n 2, 1) := by decide +kernel
theorem own_d187 : decode jdk_68_method_22_code 20 = .ok (.iadd, 1) := by decide +kernel
theorem own_d188 : decode jdk_68_method_22_code 21 = .ok (.invokevirtual 100, 3) := by decide +kernel
theorem own_pd189 : parseMethodDescriptor "(I)V" = some ⟨[.int], none⟩ := by decide +kernel
theorem own_d190 : decode jdk_68_method_22_code 24 = .ok (.aload_n 0, 1) := by decide +kernel
theorem own_d191 : decode jdk_68_method_22_code 25 = .ok (.aload_n 0, 1) := by decide +kernel
theorem own_d192 : decode jdk_68_method_22_code 26 = .ok (.getfield 79, 3) := by decide +kernel
theorem own_d193 : decode jdk_68_method_22_code 29 = .ok (.aload_n 1, 1) := by decide +kernel
theorem own_d194 : decode jdk_68_method_22_code 30 = .ok (.invokevirtual 208, 3) := by decide +kernel
theorem own_pd195 : parseMethodDescriptor "(ILjava/lang/String;)V" = some ⟨[.int, (.object "java/lang/String")], none⟩ := by decide +kernel
theorem own_d196 : decode jdk_68_method_22_code 33 = .ok (.aload_n 0, 1) := by decide +kernel
theorem own_d197 : decode jdk_68_method_22_code 34 = .ok (.dup, 1) := by decide +kernel
theorem own_d198 : decode jdk_68_method_22_code 35 = .ok (.getfield 79, 3) := by decide +kernel
theorem own_d199 : decode jdk_68_method_22_code 38 = .ok (.iload_n 2, 1) := by decide +kernel
theorem own_d200 : decode jdk_68_method_22_code 39 = .ok (.iadd, 1) := by decide +kernel
theorem own_d201 : decode jdk_68_method_22_code 40 = .ok (.putfield 79, 3) := by decide +kernel
theorem own_d202 : decode jdk_68_method_22_code 43 = .ok (.aload_n 0, 1) := by decide +kernel
theorem own_d203 : decode jdk_68_method_22_code 44 = .ok (.areturn, 1) := by decide +kernel
set_option maxHeartbeats 4000000 in
theorem own_ef204 (m : MethodId) (x0 : Addr) (x1 : Addr) : entryFrame m #[(.ref x0), (.ref x1)] 2 = mkF m 0 #[.val (.ref x0), .val (.ref x1)] [] := by first | rfl | (simp [entryFrame, mkF, argsToLocals, Value.category]; done)
theorem own_pn205 : plainName "java/lang/StringBuilder" = true := by first | (simp [plainName, overriddenIn]; done) | decide +kernel
theorem own_d206 : decode jdk_67_method_7_code 0 = .ok (.aload_n 0, 1) := by decide +kernel
theorem own_d207 : decode jdk_67_method_7_code 1 = .ok (.aload_n 1, 1) := by decide +kernel
theorem own_d208 : decode jdk_67_method_7_code 2 = .ok (.invokespecial 29, 3) := by decide +kernel
theorem own_pd209 : parseMethodDescriptor "(Ljava/lang/String;)Ljava/lang/AbstractStringBuilder;" = some ⟨[(.object "java/lang/String")], some (.object "java/lang/AbstractStringBuilder")⟩ := by decide +kernel
theorem own_d210 : decode jdk_67_method_7_code 5 = .ok (.pop, 1) := by decide +kernel
theorem own_d211 : decode jdk_67_method_7_code 6 = .ok (.aload_n 0, 1) := by decide +kernel
theorem own_d212 : decode jdk_67_method_7_code 7 = .ok (.areturn, 1) := by decide +kernel
set_option maxHeartbeats 4000000 in
theorem own_ef213 (m : MethodId) (x0 : Addr) (x1 : Int32) : entryFrame m #[(.ref x0), (.int x1)] 2 = mkF m 0 #[.val (.ref x0), .val (.int x1)] [] := by first | rfl | (simp [entryFrame, mkF, argsToLocals, Value.category]; done)
theorem own_d214 : decode jdk_68_method_2_code 0 = .ok (.aload_n 0, 1) := by decide +kernel
theorem own_d215 : decode jdk_68_method_2_code 1 = .ok (.invokespecial 3, 3) := by decide +kernel
theorem own_d216 : decode jdk_68_method_2_code 4 = .ok (.getstatic 18, 3) := by decide +kernel
theorem own_d217 : decode jdk_68_method_2_code 7 = .ok (.ifCond .eq 18, 3) := by decide +kernel
theorem own_d218 : decode jdk_68_method_2_code 10 = .ok (.aload_n 0, 1) := by decide +kernel
theorem own_d219 : decode jdk_68_method_2_code 11 = .ok (.iload_n 1, 1) := by decide +kernel
theorem own_d220 : decode jdk_68_method_2_code 12 = .ok (.newarray .byte, 2) := by decide +kernel
theorem own_d221 : decode jdk_68_method_2_code 14 = .ok (.putfield 15, 3) := by decide +kernel
theorem own_d222 : decode jdk_68_method_2_code 17 = .ok (.aload_n 0, 1) := by decide +kernel
theorem own_d223 : decode jdk_68_method_2_code 18 = .ok (.iconst 0, 1) := by decide +kernel
theorem own_d224 : decode jdk_68_method_2_code 19 = .ok (.putfield 22, 3) := by decide +kernel
theorem own_d225 : decode jdk_68_method_2_code 22 = .ok (.goto 16, 3) := by decide +kernel
theorem own_d226 : decode jdk_68_method_2_code 38 = .ok (.return_, 1) := by decide +kernel
set_option maxHeartbeats 4000000 in
theorem own_ef227 (m : MethodId) (x0 : Addr) : entryFrame m #[(.ref x0)] 1 = mkF m 0 #[.val (.ref x0)] [] := by first | rfl | (simp [entryFrame, mkF, argsToLocals, Value.category]; done)
theorem own_d228 : decode jdk_67_method_1_code 0 = .ok (.aload_n 0, 1) := by decide +kernel
theorem own_d229 : decode jdk_67_method_1_code 1 = .ok (.bipush 16, 2) := by decide +kernel
theorem own_d230 : decode jdk_67_method_1_code 3 = .ok (.invokespecial 1, 3) := by decide +kernel
theorem own_d231 : decode jdk_67_method_1_code 6 = .ok (.return_, 1) := by decide +kernel
set_option maxHeartbeats 4000000 in
theorem own_ef232 (m : MethodId) (x0 : Addr) : entryFrame m #[(.ref x0)] 1 = mkF m 0 #[.val (.ref x0)] [] := by first | rfl | (simp [entryFrame, mkF, argsToLocals, Value.category]; done)
theorem own_d233 : decode jdk_68_method_64_code 0 = .ok (.aload_n 0, 1) := by decide +kernel
theorem own_d234 : decode jdk_68_method_64_code 1 = .ok (.getfield 15, 3) := by decide +kernel
theorem own_d235 : decode jdk_68_method_64_code 4 = .ok (.areturn, 1) := by decide +kernel
set_option maxHeartbeats 4000000 in
theorem own_ef236 (m : MethodId) (x0 : Addr) : entryFrame m #[(.ref x0)] 1 = mkF m 0 #[.val (.ref x0)] [] := by first | rfl | (simp [entryFrame, mkF, argsToLocals, Value.category]; done)
theorem own_d237 : decode jdk_68_method_6_code 0 = .ok (.aload_n 0, 1) := by decide +kernel
theorem own_d238 : decode jdk_68_method_6_code 1 = .ok (.getfield 79, 3) := by decide +kernel
theorem own_d239 : decode jdk_68_method_6_code 4 = .ok (.ireturn, 1) := by decide +kernel
set_option maxHeartbeats 4000000 in
theorem own_ef240 (m : MethodId) (x0 : Addr) : entryFrame m #[(.ref x0)] 1 = mkF m 0 #[.val (.ref x0)] [] := by first | rfl | (simp [entryFrame, mkF, argsToLocals, Value.category]; done)
theorem own_d241 : decode jdk_67_method_93_code 0 = .ok (.aload_n 0, 1) := by decide +kernel
theorem own_d242 : decode jdk_67_method_93_code 1 = .ok (.invokespecial 343, 3) := by decide +kernel
theorem own_d243 : decode jdk_67_method_93_code 4 = .ok (.ireturn, 1) := by decide +kernel
set_option maxHeartbeats 4000000 in
theorem own_ef244 (m : MethodId) (x0 : Addr) : entryFrame m #[(.ref x0)] 1 = mkF m 0 #[.val (.ref x0)] [] := by first | rfl | (simp [entryFrame, mkF, argsToLocals, Value.category]; done)
theorem own_d245 : decode jdk_68_method_68_code 0 = .ok (.getstatic 18, 3) := by decide +kernel
theorem own_d246 : decode jdk_68_method_68_code 3 = .ok (.ifCond .eq 14, 3) := by decide +kernel
theorem own_d247 : decode jdk_68_method_68_code 6 = .ok (.aload_n 0, 1) := by decide +kernel
theorem own_d248 : decode jdk_68_method_68_code 7 = .ok (.getfield 22, 3) := by decide +kernel
theorem own_d249 : decode jdk_68_method_68_code 10 = .ok (.ifCond .ne 7, 3) := by decide +kernel
theorem own_d250 : decode jdk_68_method_68_code 13 = .ok (.iconst 1, 1) := by decide +kernel
theorem own_d251 : decode jdk_68_method_68_code 14 = .ok (.goto 4, 3) := by decide +kernel
theorem own_d252 : decode jdk_68_method_68_code 18 = .ok (.ireturn, 1) := by decide +kernel
set_option maxHeartbeats 4000000 in
theorem own_ef253 (m : MethodId) (x0 : Int32) (x1 : Int32) : entryFrame m #[(.int x0), (.int x1)] 2 = mkF m 0 #[.val (.int x0), .val (.int x1)] [] := by first | rfl | (simp [entryFrame, mkF, argsToLocals, Value.category]; done)
theorem own_d254 : decode jdk_29_method_69_code 0 = .ok (.iload_n 0, 1) := by decide +kernel
theorem own_d255 : decode jdk_29_method_69_code 1 = .ok (.iload_n 1, 1) := by decide +kernel
theorem own_d256 : decode jdk_29_method_69_code 2 = .ok (.if_icmp .gt 7, 3) := by decide +kernel
theorem own_d257 : decode jdk_29_method_69_code 9 = .ok (.iload_n 1, 1) := by decide +kernel
theorem own_d258 : decode jdk_29_method_69_code 10 = .ok (.ireturn, 1) := by decide +kernel
set_option maxHeartbeats 4000000 in
theorem own_ef259 (m : MethodId) (x0 : Int32) (x1 : Int32) : entryFrame m #[(.int x0), (.int x1)] 2 = mkF m 0 #[.val (.int x0), .val (.int x1)] [] := by first | rfl | (simp [entryFrame, mkF, argsToLocals, Value.category]; done)
theorem own_pn260 : plainName "java/util/Arrays" = true := by first | (simp [plainName, overriddenIn]; done) | decide +kernel
theorem own_d261 : decode jdk_65_method_131_code 0 = .ok (.iload_n 1, 1) := by decide +kernel
theorem own_d262 : decode jdk_65_method_131_code 1 = .ok (.iload_n 0, 1) := by decide +kernel
theorem own_d263 : decode jdk_65_method_131_code 2 = .ok (.if_icmp .ge 35, 3) := by decide +kernel
theorem own_d264 : decode jdk_65_method_131_code 37 = .ok (.return_, 1) := by decide +kernel
set_option maxHeartbeats 4000000 in
theorem own_ef265 (m : MethodId) (x0 : Addr) (x1 : Int32) (x2 : Int32) : entryFrame m #[(.ref x0), (.int x1), (.int x2)] 5 = mkF m 0 #[.val (.ref x0), .val (.int x1), .val (.int x2), .unset, .unset] [] := by first | rfl | (simp [entryFrame, mkF, argsToLocals, Value.category]; done)
theorem own_d266 : decode jdk_65_method_133_code 0 = .ok (.iload_n 1, 1) := by decide +kernel
theorem own_d267 : decode jdk_65_method_133_code 1 = .ok (.iload_n 2, 1) := by decide +kernel
theorem own_d268 : decode jdk_65_method_133_code 2 = .ok (.invokestatic 343, 3) := by decide +kernel
theorem own_pd269 : parseMethodDescriptor "(II)V" = some ⟨[.int, .int], none⟩ := by decide +kernel
theorem own_d270 : decode jdk_65_method_133_code 5 = .ok (.iload_n 2, 1) := by decide +kernel
theorem own_d271 : decode jdk_65_method_133_code 6 = .ok (.iload_n 1, 1) := by decide +kernel
theorem own_d272 : decode jdk_65_method_133_code 7 = .ok (.isub, 1) := by decide +kernel
theorem own_d273 : decode jdk_65_method_133_code 8 = .ok (.istore_n 3, 1) := by decide +kernel
theorem own_d274 : decode jdk_65_method_133_code 9 = .ok (.iload_n 3, 1) := by decide +kernel
theorem own_d275 : decode jdk_65_method_133_code 10 = .ok (.newarray .byte, 2) := by decide +kernel
theorem own_d276 : decode jdk_65_method_133_code 12 = .ok (.astore 4, 2) := by decide +kernel
theorem own_d277 : decode jdk_65_method_133_code 14 = .ok (.aload_n 0, 1) := by decide +kernel
theorem own_d278 : decode jdk_65_method_133_code 15 = .ok (.iload_n 1, 1) := by decide +kernel
theorem own_d279 : decode jdk_65_method_133_code 16 = .ok (.aload 4, 2) := by decide +kernel
theorem own_d280 : decode jdk_65_method_133_code 18 = .ok (.iconst 0, 1) := by decide +kernel
theorem own_d281 : decode jdk_65_method_133_code 19 = .ok (.aload_n 0, 1) := by decide +kernel
theorem own_d282 : decode jdk_65_method_133_code 20 = .ok (.arraylength, 1) := by decide +kernel
theorem own_d283 : decode jdk_65_method_133_code 21 = .ok (.iload_n 1, 1) := by decide +kernel
theorem own_d284 : decode jdk_65_method_133_code 22 = .ok (.isub, 1) := by decide +kernel
theorem own_d285 : decode jdk_65_method_133_code 23 = .ok (.iload_n 3, 1) := by decide +kernel
theorem own_d286 : decode jdk_65_method_133_code 24 = .ok (.invokestatic 304, 3) := by decide +kernel
theorem own_pd287 : parseMethodDescriptor "(II)I" = some ⟨[.int, .int], some .int⟩ := by decide +kernel
theorem own_d288 : decode jdk_65_method_133_code 27 = .ok (.invokestatic 150, 3) := by decide +kernel
theorem own_d289 : decode jdk_65_method_133_code 30 = .ok (.aload 4, 2) := by decide +kernel
theorem own_d290 : decode jdk_65_method_133_code 32 = .ok (.areturn, 1) := by decide +kernel
set_option maxHeartbeats 4000000 in
theorem own_ef291 (m : MethodId) (x0 : Addr) (x1 : Int32) (x2 : Int32) : entryFrame m #[(.ref x0), (.int x1), (.int x2)] 3 = mkF m 0 #[.val (.ref x0), .val (.int x1), .val (.int x2)] [] := by first | rfl | (simp [entryFrame, mkF, argsToLocals, Value.category]; done)
theorem own_d292 : decode jdk_65_method_132_code 0 = .ok (.iload_n 1, 1) := by decide +kernel
theorem own_d293 : decode jdk_65_method_132_code 1 = .ok (.ifCond .ne 9, 3) := by decide +kernel
theorem own_d294 : decode jdk_65_method_132_code 4 = .ok (.iload_n 2, 1) := by decide +kernel
theorem own_d295 : decode jdk_65_method_132_code 5 = .ok (.aload_n 0, 1) := by decide +kernel
theorem own_d296 : decode jdk_65_method_132_code 6 = .ok (.arraylength, 1) := by decide +kernel
theorem own_d297 : decode jdk_65_method_132_code 7 = .ok (.if_icmp .eq 10, 3) := by decide +kernel
theorem own_d298 : decode jdk_65_method_132_code 10 = .ok (.aload_n 0, 1) := by decide +kernel
theorem own_d299 : decode jdk_65_method_132_code 11 = .ok (.iload_n 1, 1) := by decide +kernel
theorem own_d300 : decode jdk_65_method_132_code 12 = .ok (.iload_n 2, 1) := by decide +kernel
theorem own_d301 : decode jdk_65_method_132_code 13 = .ok (.invokestatic 339, 3) := by decide +kernel
theorem own_pd302 : parseMethodDescriptor "([BII)[B" = some ⟨[(.array .byte), .int, .int], some (.array .byte)⟩ := by decide +kernel
theorem own_d303 : decode jdk_65_method_132_code 16 = .ok (.areturn, 1) := by decide +kernel
set_option maxHeartbeats 4000000 in
theorem own_ef304 (m : MethodId) (x0 : Addr) (x1 : Addr) : entryFrame m #[(.ref x0), (.ref x1), .null] 5 = mkF m 0 #[.val (.ref x0), .val (.ref x1), .val .null, .unset, .unset] [] := by first | rfl | (simp [entryFrame, mkF, argsToLocals, Value.category]; done)
theorem own_d305 : decode jdk_42_method_150_code 0 = .ok (.aload_n 0, 1) := by decide +kernel
theorem own_d306 : decode jdk_42_method_150_code 1 = .ok (.invokespecial 1, 3) := by decide +kernel
theorem own_d307 : decode jdk_42_method_150_code 4 = .ok (.aload_n 1, 1) := by decide +kernel
theorem own_d308 : decode jdk_42_method_150_code 5 = .ok (.invokevirtual 552, 3) := by decide +kernel
theorem own_pd309 : parseMethodDescriptor "()[B" = some ⟨[], some (.array .byte)⟩ := by decide +kernel
theorem own_d310 : decode jdk_42_method_150_code 8 = .ok (.astore_n 3, 1) := by decide +kernel
theorem own_d311 : decode jdk_42_method_150_code 9 = .ok (.aload_n 1, 1) := by decide +kernel
theorem own_d312 : decode jdk_42_method_150_code 10 = .ok (.invokevirtual 549, 3) := by decide +kernel
theorem own_d313 : decode jdk_42_method_150_code 13 = .ok (.istore 4, 2) := by decide +kernel
theorem own_d314 : decode jdk_42_method_150_code 15 = .ok (.aload_n 1, 1) := by decide +kernel
theorem own_d315 : decode jdk_42_method_150_code 16 = .ok (.invokevirtual 1047, 3) := by decide +kernel
theorem own_pd316 : parseMethodDescriptor "()Z" = some ⟨[], some .boolean⟩ := by decide +kernel
theorem own_d317 : decode jdk_42_method_150_code 19 = .ok (.ifCond .eq 22, 3) := by decide +kernel
theorem own_d318 : decode jdk_42_method_150_code 22 = .ok (.aload_n 0, 1) := by decide +kernel
theorem own_d319 : decode jdk_42_method_150_code 23 = .ok (.iconst 0, 1) := by decide +kernel
theorem own_d320 : decode jdk_42_method_150_code 24 = .ok (.putfield 15, 3) := by decide +kernel
theorem own_d321 : decode jdk_42_method_150_code 27 = .ok (.aload_n 0, 1) := by decide +kernel
theorem own_d322 : decode jdk_42_method_150_code 28 = .ok (.aload_n 3, 1) := by decide +kernel
theorem own_d323 : decode jdk_42_method_150_code 29 = .ok (.iconst 0, 1) := by decide +kernel
theorem own_d324 : decode jdk_42_method_150_code 30 = .ok (.iload 4, 2) := by decide +kernel
theorem own_d325 : decode jdk_42_method_150_code 32 = .ok (.invokestatic 54, 3) := by decide +kernel
theorem own_d326 : decode jdk_42_method_150_code 35 = .ok (.putfield 9, 3) := by decide +kernel
theorem own_d327 : decode jdk_42_method_150_code 38 = .ok (.goto 59, 3) := by decide +kernel
theorem own_d328 : decode jdk_42_method_150_code 97 = .ok (.return_, 1) := by decide +kernel
set_option maxHeartbeats 4000000 in
theorem own_ef329 (m : MethodId) (x0 : Addr) (x1 : Addr) : entryFrame m #[(.ref x0), (.ref x1)] 2 = mkF m 0 #[.val (.ref x0), .val (.ref x1)] [] := by first | rfl | (simp [entryFrame, mkF, argsToLocals, Value.category]; done)
theorem own_d330 : decode jdk_42_method_53_code 0 = .ok (.aload_n 0, 1) := by decide +kernel
theorem own_d331 : decode jdk_42_method_53_code 1 = .ok (.aload_n 1, 1) := by decide +kernel
theorem own_d332 : decode jdk_42_method_53_code 2 = .ok (.aconst_null, 1) := by decide +kernel
theorem own_d333 : decode jdk_42_method_53_code 3 = .ok (.invokespecial 489, 3) := by decide +kernel
theorem own_pd334 : parseMethodDescriptor "(Ljava/lang/AbstractStringBuilder;Ljava/lang/Void;)V" = some ⟨[(.object "java/lang/AbstractStringBuilder"), (.object "java/lang/Void")], none⟩ := by decide +kernel
theorem own_d335 : decode jdk_42_method_53_code 6 = .ok (.return_, 1) := by decide +kernel
set_option maxHeartbeats 4000000 in
theorem own_ef336 (m : MethodId) (x0 : Addr) : entryFrame m #[(.ref x0)] 1 = mkF m 0 #[.val (.ref x0)] [] := by first | rfl | (simp [entryFrame, mkF, argsToLocals, Value.category]; done)
theorem own_d337 : decode jdk_67_method_42_code 0 = .ok (.new 18, 3) := by decide +kernel
theorem own_d338 : decode jdk_67_method_42_code 3 = .ok (.dup, 1) := by decide +kernel
theorem own_d339 : decode jdk_67_method_42_code 4 = .ok (.aload_n 0, 1) := by decide +kernel
theorem own_d340 : decode jdk_67_method_42_code 5 = .ok (.invokespecial 137, 3) := by decide +kernel
theorem own_pd341 : parseMethodDescriptor "(Ljava/lang/StringBuilder;)V" = some ⟨[(.object "java/lang/StringBuilder")], none⟩ := by decide +kernel
theorem own_d342 : decode jdk_67_method_42_code 8 = .ok (.areturn, 1) := by decide +kernel
set_option maxHeartbeats 4000000 in
theorem own_ef343 (m : MethodId) (x0 : Addr) : entryFrame m #[(.ref x0)] 1 = mkF m 0 #[.val (.ref x0)] [] := by first | rfl | (simp [entryFrame, mkF, argsToLocals, Value.category]; done)
theorem own_d344 : decode jdk_78_method_6_code 0 = .ok (.aload_n 0, 1) := by decide +kernel
theorem own_d345 : decode jdk_78_method_6_code 1 = .ok (.getfield 31, 3) := by decide +kernel
theorem own_d346 : decode jdk_78_method_6_code 4 = .ok (.areturn, 1) := by decide +kernel
set_option maxHeartbeats 4000000 in
theorem own_ef347 (m : MethodId) (x0 : Addr) (x1 : Addr) : entryFrame m #[(.ref x0), (.ref x1)] 2 = mkF m 0 #[.val (.ref x0), .val (.ref x1)] [] := by first | rfl | (simp [entryFrame, mkF, argsToLocals, Value.category]; done)
theorem own_d348 : decode prog_52_method_4_code 0 = .ok (.new 10, 3) := by decide +kernel
theorem own_d349 : decode prog_52_method_4_code 3 = .ok (.dup, 1) := by decide +kernel
theorem own_d350 : decode prog_52_method_4_code 4 = .ok (.new 12, 3) := by decide +kernel
theorem own_d351 : decode prog_52_method_4_code 7 = .ok (.dup, 1) := by decide +kernel
theorem own_d352 : decode prog_52_method_4_code 8 = .ok (.invokespecial 14, 3) := by decide +kernel
theorem own_pd353 : parseMethodDescriptor "()V" = some ⟨[], none⟩ := by decide +kernel
theorem own_d354 : decode prog_52_method_4_code 11 = .ok (.aload_n 0, 1) := by decide +kernel
theorem own_d355 : decode prog_52_method_4_code 12 = .ok (.invokevirtual 17, 3) := by decide +kernel
theorem own_pd356 : parseMethodDescriptor "(Ljava/lang/String;)Ljava/lang/StringBuilder;" = some ⟨[(.object "java/lang/String")], some (.object "java/lang/StringBuilder")⟩ := by decide +kernel
theorem own_d357 : decode prog_52_method_4_code 15 = .ok (.ldc 26, 2) := by decide +kernel
theorem own_d358 : decode prog_52_method_4_code 17 = .ok (.invokevirtual 17, 3) := by decide +kernel
theorem own_d359 : decode prog_52_method_4_code 20 = .ok (.aload_n 1, 1) := by decide +kernel
theorem own_d360 : decode prog_52_method_4_code 21 = .ok (.invokevirtual 17, 3) := by decide +kernel
theorem own_pd361 : parseMethodDescriptor "()Ljava/lang/String;" = some ⟨[], some (.object "java/lang/String")⟩ := by decide +kernel
theorem own_d362 : decode prog_52_method_4_code 24 = .ok (.invokevirtual 28, 3) := by decide +kernel
theorem own_d363 : decode prog_52_method_4_code 27 = .ok (.invokespecial 32, 3) := by decide +kernel
theorem own_d364 : decode prog_52_method_4_code 30 = .ok (.areturn, 1) := by decide +kernel
set_option maxHeartbeats 4000000 in
theorem own_ef365 (m : MethodId) (x0 : Int32) (x1 : Int32) (x2 : Int32) (x3 : Int32) (x4 : Int32) : entryFrame m #[(.int x0), (.int x1), (.int x2), (.int x3), (.int x4)] maxLocals = mkF m 0 #[.val (.int x0), .val (.int x1), .val (.int x2), .val (.int x3), .val (.int x4), .unset, .unset, .unset, .unset, .unset, .unset, .unset, .unset, .unset, .unset] [] := by first | (simp [entryFrame, mkF, argsToLocals, Value.category, maxLocals]; done) | rfl
theorem own_pd366 : parseMethodDescriptor "(ICC)Ljava/lang/String;" = some ⟨[.int, .char, .char], some (.object "java/lang/String")⟩ := by decide +kernel
theorem own_pd367 : parseMethodDescriptor "(Ljava/lang/String;Ljava/lang/String;)Lcom/example/faktorwerk/faktorwerk/model/InputRefusedException;" = some ⟨[(.object "java/lang/String"), (.object "java/lang/String")], some (.object "com/example/faktorwerk/faktorwerk/model/InputRefusedException")⟩ := by decide +kernel
theorem own_pd368 : parseMethodDescriptor "(I)C" = some ⟨[.int], some .char⟩ := by decide +kernel
def own_EL : List (String × Nat) := [("com/example/faktorwerk/faktorwerk/model/InputRefusedException", 26), ("com/example/faktorwerk/faktorwerk/model/InputRefusedExceptionInFilePinLaw", 7)]
theorem own_EW {Z : State} {a0 : Array Value} (hw : ∀ d ∈ tables_1, d.before a0 Z = true) : EW Z a0 own_EL := EW.cons (hw _ (List.mem_of_getElem? (i := 89) rfl)) (by decide) (EW.cons (hw _ (List.mem_of_getElem? (i := 5) rfl)) (by decide) (EW.nil))
set_option maxRecDepth 65536 in
theorem own_sa : ∀ d ∈ Bundle.stringAtoms, d ∈ tables_1 := by decide +kernel
def QSame (u : Value) (h0 : Heap) (n0 : Nat) (v : Option Value) (h : Heap) (L : List Loc) : Prop := v = some u ∧ Fr n0 L ∧ h = h0
def StrIs (Z : State) (h : Heap) (a : Addr) (cs : List Int32) : Prop := Exa Z h a "java/lang/String" ∧ Fld Z h a "java/lang/String" "coder" "B" (.int 0) ∧ (∀ c ∈ cs, ¬ c < 0 ∧ ¬ (255 : Int32) < c) ∧ cs.length ≤ 4000 ∧ ∃ (t : Addr) (kb : ClassId), Fld Z h a "java/lang/String" "value" "[B" (.ref t) ∧ Arv Z h t kb .byte (Int32.ofNat cs.length) ((cs.map fun c => c.toInt8.toInt32).map Value.int) (.int 0)
theorem StrIs.keep0 {Z : State} {h h' : Heap} {a : Addr} {cs : List Int32} (S : StrIs Z h a cs) (K : Keep h h' []) : StrIs Z h' a cs := by
  obtain ⟨E, C, hp, hl, t, kb, F, V⟩ := S
  exact ⟨E.keep K, C.keep K nin0, hp, hl, t, kb, F.keep K nin0, V.keep K nin0⟩
theorem StrIs.keepX {Z : State} {h h' : Heap} {a x : Addr} {cs : List Int32} {C : String} {n : Nat} {a0 : Array Value} (S : StrIs Z h a cs) (K : Keep h h' [x]) (E' : Exa Z h x C) (w : (Jvm.Cond.instantiable C n).before a0 Z = true) (hne : C ≠ "java/lang/String") : StrIs Z h' a cs := by
  obtain ⟨E, C', hp, hl, t, kb, F, V⟩ := S
  have q1 : a ≠ x := (Exa.ne E' E hne).symm
  have q2 : t ≠ x := (Exa.neArv E' V w).symm
  exact ⟨E.keep K, C'.keep K (ninS q1 nin0), hp, hl, t, kb, F.keep K (ninS q1 nin0), V.keep K (ninS q2 nin0)⟩
theorem StrIs.keepN {Z : State} {h h' : Heap} {a x : Addr} {cs : List Int32} {n : Nat} {a0 : Array Value} (S : StrIs Z h a cs) (K : Keep h h' [x]) (E' : Exa Z h x "java/lang/String") (F' : Fld Z h x "java/lang/String" "value" "[B" .null) (w : (Jvm.Cond.instantiable "java/lang/String" n).before a0 Z = true) : StrIs Z h' a cs := by
  obtain ⟨E, C', hp, hl, t, kb, F, V⟩ := S
  have q1 : a ≠ x := Fld.ne F F' (by simp)
  have q2 : t ≠ x := (Exa.neArv E' V w).symm
  exact ⟨E.keep K, C'.keep K (ninS q1 nin0), hp, hl, t, kb, F.keep K (ninS q1 nin0), V.keep K (ninS q2 nin0)⟩
theorem StrIs.lt {Z : State} {h : Heap} {a : Addr} {cs : List Int32} (S : StrIs Z h a cs) : a < h.size := S.1.lt
theorem nar_char_id {c : Int32} (h : ¬ c < 0 ∧ ¬ (255 : Int32) < c) : nar .char c = c := by
  have q := c_i2c c
  show c.toUInt32.toUInt16.toUInt32.toInt32 = c
  rw [Int32.lt_iff_toInt_lt, Int32.lt_iff_toInt_lt] at h
  have e0 : (0 : Int32).toInt = 0 := rfl
  have e1 : (255 : Int32).toInt = 255 := rfl
  rw [e0, e1] at h
  apply Int32.toInt_inj.mp
  omega
theorem nar_char2 (x : Int32) : nar .char ((x).toUInt32.toUInt16.toUInt32.toInt32) = ((x).toUInt32.toUInt16.toUInt32.toInt32) := by simp only [nar, UInt32.toUInt32_toInt32, UInt16.toUInt16_toUInt32]
theorem own_up (cs : List Int32) (h : ∀ c ∈ cs, ¬ c < 0 ∧ ¬ (255 : Int32) < c) : ∀ c ∈ cs, ¬ c < 0 ∧ ¬ (65535 : Int32) < c := fun c hc => ⟨(h c hc).1, fun q => (h c hc).2 (by rw [Int32.lt_iff_toInt_lt] at q ⊢; have e1 : (65535 : Int32).toInt = 65535 := rfl; have e2 : (255 : Int32).toInt = 255 := rfl; omega)⟩
theorem own_decl {args : Array Value} {s : State} {y : MethodName} {bytes : ByteArray} {ml : Nat} {rt : Option FieldType} (hi : (Jvm.Cond.instanceMethod y).before args s = true) (hc : (Jvm.Cond.code y bytes ml rt).before args s = true) : (Jvm.Cond.declares y).before args s = true := by
  obtain ⟨mk, meth, hn, hm, hst, hab⟩ := Cond.instanceMethod_spec hi
  obtain ⟨m2, c, h1, -, -, -, -, -, -, hsig⟩ := Cond.code_spec hn hc
  cases hm.symm.trans h1
  simp [Cond.before, Cond.holds, Cond.value, hn, hm, hst, hsig]
theorem own_nf {args : Array Value} {s : State} {C : String} {y y' : MethodName} (hsel : (Jvm.Cond.selects C y y).before args s = true) (hc : y'.cls = y.cls) : NotFace s y' := fun r0 h0 => by
  obtain ⟨c2, r2, m2, q1, q2, q3, q4, kP, hkP, hkPi⟩ := Cond.selects_spec hsel
  have e1 := findClass_of_methodNamed h0
  have e2 := findClass_of_methodNamed q3
  rw [hc] at e1
  have e3 : r0.cls = m2.cls := Option.some.inj (e1.symm.trans e2)
  exact ⟨kP, by rw [e3]; exact hkP, hkPi⟩
theorem own_same {args : Array Value} {s : State} {C : String} {y y' : MethodName} (hi : (Jvm.Cond.instanceMethod y).before args s = true) (hsel : (Jvm.Cond.selects C y' y').before args s = true ∧ y.cls = y'.cls) (hy : y.cls ≠ "java/lang/invoke/MethodHandle" ∧ y.cls ≠ "java/lang/invoke/VarHandle") : (Jvm.Cond.sameMethod y.cls y.cls y.name y.desc).before args s = true := by
  obtain ⟨mk, meth, hn, hm, hst, hab⟩ := Cond.instanceMethod_spec hi
  obtain ⟨kr, hkr, hni⟩ := own_nf hsel.1 hsel.2 mk hn
  have e1 := findClass_of_methodNamed hn
  have e2 := State.methodFound?_of_named hn hy
  have e3 : s.methodNamed? ⟨y.cls, y.name, y.desc⟩ = some mk := hn
  simp [Cond.before, Cond.holds, Cond.value, e1, e2, e3, hkr, hni]
def StrUp (Z : State) (h : Heap) (a : Addr) (cs : List Int32) (k : Nat) : Prop := a < k ∧ Exa Z h a "java/lang/String" ∧ Fld Z h a "java/lang/String" "coder" "B" (.int 0) ∧ (∀ c ∈ cs, ¬ c < 0 ∧ ¬ (255 : Int32) < c) ∧ cs.length ≤ 4000 ∧ ∃ (t : Addr) (kb : ClassId), t < k ∧ Fld Z h a "java/lang/String" "value" "[B" (.ref t) ∧ Arv Z h t kb .byte (Int32.ofNat cs.length) ((cs.map fun c => c.toInt8.toInt32).map Value.int) (.int 0)
theorem StrUp.of {Z : State} {h : Heap} {a : Addr} {cs : List Int32} (S : StrIs Z h a cs) : StrUp Z h a cs h.size := by
  obtain ⟨E, C, hp, hl, t, kb, F, V⟩ := S
  exact ⟨E.lt, E, C, hp, hl, t, kb, V.lt, F, V⟩
theorem StrUp.is {Z : State} {h : Heap} {a : Addr} {cs : List Int32} {k : Nat} (S : StrUp Z h a cs k) : StrIs Z h a cs := by
  obtain ⟨-, E, C, hp, hl, t, kb, -, F, V⟩ := S
  exact ⟨E, C, hp, hl, t, kb, F, V⟩
theorem StrUp.keep {Z : State} {h h' : Heap} {a : Addr} {cs : List Int32} {k : Nat} {ws : List Addr} (S : StrUp Z h a cs k) (K : Keep h h' ws) (q : ∀ x ∈ ws, k ≤ x) : StrUp Z h' a cs k := by
  obtain ⟨h1, E, C, hp, hl, t, kb, h2, F, V⟩ := S
  have q1 : a ∉ ws := fun z => absurd (q a z) (Nat.not_le.mpr h1)
  have q2 : t ∉ ws := fun z => absurd (q t z) (Nat.not_le.mpr h2)
  exact ⟨h1, E.keep K, C.keep K q1, hp, hl, t, kb, h2, F.keep K q1, V.keep K q2⟩
theorem own_finj {Z : State} {h : Heap} {a : Addr} {C n d : String} {x y : Addr} (F : Fld Z h a C n d (.ref x)) (G : Fld Z h a C n d (.ref y)) : x = y := Decidable.byContradiction fun q => Fld.ne F G (fun e => q (Value.ref.inj e)) rfl
theorem StrUp.sv {Z : State} {h : Heap} {a : Addr} {cs : List Int32} {k : Nat} {t : Addr} (S : StrUp Z h a cs k) (q : k ≤ t) : ∀ sv : Addr, Fld Z h a "java/lang/String" "value" "[B" (.ref sv) → sv ≠ t := fun sv F => by
  obtain ⟨-, -, -, -, -, t', kb, h2, F', -⟩ := S
  cases own_finj F F'
  exact Nat.ne_of_lt (Nat.lt_of_lt_of_le h2 q)
theorem own_untk {h h' : Heap} {a : Addr} (N : Unt h a) (K : Keep h h' []) : Unt h' a := Unt.keep K nin0 N
theorem own_thsk {Z : State} {h h' : Heap} (F : ThS Z h) (K : Keep h h' []) : ThS Z h' := ThS.keep K ns0 F
abbrev own_bs (cs : List Int32) : List Value := (cs.map fun c => c.toInt8.toInt32).map Value.int
def own_sb (cap : Nat) (cs : List Int32) : List Value := own_bs cs ++ List.replicate (cap - cs.length) (.int 0)
theorem own_sbl {cap : Nat} {cs : List Int32} (h : cs.length ≤ cap) : (own_sb cap cs).length = cap := by simp [own_sb, own_bs]; omega
theorem own_shr0 (x : Int32) : x >>> ((0 : Int32) &&& 31) = x := by
  apply Int32.toInt_inj.mp
  rw [c_ishr x 0 0 rfl]
  simp
theorem own_shl0 (x : Int32) : x <<< ((0 : Int32) &&& 31) = x := by
  apply Int32.toInt_inj.mp
  have q := c_ishl x 0 0 rfl
  have r1 := rng32 x
  have r2 := rng32 (x <<< ((0 : Int32) &&& 31))
  have e : ((2 ^ 0 : Nat) : Int) = 1 := rfl
  rw [e] at q
  omega
theorem own_int {n : Nat} (h : n ≤ 4000) : (Int32.ofNat n).toInt = n := Int32.toInt_ofNat_of_lt (by omega)
theorem own_nn {n : Nat} (h : n ≤ 4000) : ¬ Int32.ofNat n < 0 := by
  rw [Int32.lt_iff_toInt_lt, own_int h]
  have e0 : (0 : Int32).toInt = 0 := rfl
  omega
theorem own_ns {n : Nat} (h : n ≤ 4000) : (Int32.ofNat n).toNatClampNeg = n := by
  simp only [Int32.toNatClampNeg, own_int h]
  omega
theorem own_add32 (a b : Nat) : Int32.ofNat a + Int32.ofNat b = Int32.ofNat (a + b) := (Int32.ofNat_add a b).symm
theorem own_fit {a b : Nat} (h : a ≤ b) (hb : b ≤ 4000) : ¬ (0 < Int32.ofNat a - Int32.ofNat b) := by
  have q := c_isub (Int32.ofNat a) (Int32.ofNat b)
  rw [own_int hb, own_int (Nat.le_trans h hb)] at q
  have r := rng32 (Int32.ofNat a - Int32.ofNat b)
  rw [Int32.lt_iff_toInt_lt]
  have e0 : (0 : Int32).toInt = 0 := rfl
  omega
theorem own_z0 : (0 : Int32).toNatClampNeg = 0 := rfl
theorem own_rng (vs : List Value) (d : Value) (n : Nat) (h : n ≤ vs.length) : ((List.range n).map fun i => vs.getD (0 + i) d) = vs.take n := by
  apply List.ext_getElem
  · simp; omega
  · intro k h1 h2
    simp at h1 h2
    simp [List.getD_eq_getElem?_getD, show k < vs.length by omega]
theorem own_app {cap : Nat} {cs ds : List Int32} (h : cs.length + ds.length ≤ cap) (hc : cap ≤ 4000) :
    (own_sb cap cs).take (Int32.ofNat cs.length).toNatClampNeg ++ ((List.range (Int32.ofNat ds.length).toNatClampNeg).map fun i => (own_bs ds).getD ((0 : Int32).toNatClampNeg + i) (.int 0)) ++ (own_sb cap cs).drop ((Int32.ofNat cs.length).toNatClampNeg + (Int32.ofNat ds.length).toNatClampNeg) = own_sb cap (cs ++ ds) := by
  rw [own_ns (show cs.length ≤ 4000 by omega), own_ns (show ds.length ≤ 4000 by omega), own_z0, own_rng _ _ _ (by simp [own_bs])]
  have e1 : (own_bs cs).length = cs.length := by simp [own_bs]
  have e2 : (own_bs ds).length = ds.length := by simp [own_bs]
  have e3 : (own_sb cap cs).take cs.length = own_bs cs := by rw [own_sb, ← e1, List.take_left]
  have e4 : (own_sb cap cs).drop (cs.length + ds.length) = List.replicate (cap - (cs.length + ds.length)) (.int 0) := by
    rw [own_sb, ← e1, ← List.drop_drop, List.drop_left, List.drop_replicate, e1]
    congr 1
    omega
  rw [e3, e4, show (own_bs ds).take ds.length = own_bs ds by rw [← e2, List.take_length], own_sb]
  simp [own_bs]
theorem own_cut {cap : Nat} {cs : List Int32} (h : cs.length ≤ cap) (hc : cap ≤ 4000) :
    ([] ++ List.replicate cs.length (Value.int 0)).take (0 : Int32).toNatClampNeg ++ ((List.range (Int32.ofNat cs.length).toNatClampNeg).map fun i => (own_sb cap cs).getD ((0 : Int32).toNatClampNeg + i) (.int 0)) ++ ([] ++ List.replicate cs.length (Value.int 0)).drop ((0 : Int32).toNatClampNeg + (Int32.ofNat cs.length).toNatClampNeg) = own_bs cs := by
  rw [own_ns (show cs.length ≤ 4000 by omega), own_z0, own_rng _ _ _ (by rw [own_sbl h]; exact h)]
  have e1 : (own_bs cs).length = cs.length := by simp [own_bs]
  have e3 : (own_sb cap cs).take cs.length = own_bs cs := by rw [own_sb, ← e1, List.take_left]
  rw [e3]
  simp
theorem own_sub0 (x : Int32) : x - (0 : Int32) = x := by simp
theorem own_lt32 {a b : Nat} (h : a < b) (hb : b ≤ 4000) : Int32.ofNat a < Int32.ofNat b := by
  rw [Int32.lt_iff_toInt_lt, own_int hb, own_int (show a ≤ 4000 by omega)]
  omega
theorem own_ne32 {a b : Nat} (h : a < b) (hb : b ≤ 4000) : ¬ Int32.ofNat a = Int32.ofNat b := fun q => by
  have e := congrArg Int32.toInt q
  rw [own_int hb, own_int (show a ≤ 4000 by omega)] at e
  omega
def QNone (h0 : Heap) (n0 : Nat) (v : Option Value) (h : Heap) (L : List Loc) : Prop := v = none ∧ Fr n0 L ∧ h = h0
theorem own_mkE {rl il r0 r1 i0 i1 : Int32} (h : rl = il) (a : rl < 1 ∨ r0 = i0) (b : rl < 2 ∨ r1 = i1) (hr : rl = 0 ∨ rl = 1 ∨ rl = 2) : (if rl = 0 then ([] : List Int32) else if rl = 1 then [r0] else [r0, r1]) = (if il = 0 then ([] : List Int32) else if il = 1 then [i0] else [i0, i1]) := by
  subst h
  rcases hr with rfl | rfl | rfl
  · rfl
  · rcases a with a | rfl
    · exact absurd a (by decide)
    · rfl
  · rcases a with a | rfl
    · exact absurd a (by decide)
    · rcases b with b | rfl
      · exact absurd b (by decide)
      · rfl
theorem own_mkN1 {rl il r0 r1 i0 i1 : Int32} (hr : rl = 0 ∨ rl = 1 ∨ rl = 2) (hi : il = 0 ∨ il = 1 ∨ il = 2) (h : ¬ rl = il) : ¬ (if rl = 0 then ([] : List Int32) else if rl = 1 then [r0] else [r0, r1]) = (if il = 0 then ([] : List Int32) else if il = 1 then [i0] else [i0, i1]) := by
  rcases hr with rfl | rfl | rfl <;> rcases hi with rfl | rfl | rfl <;> simp at h ⊢
theorem own_mkN2 {rl il r0 r1 i0 i1 : Int32} (hr : rl = 0 ∨ rl = 1 ∨ rl = 2) (h : rl = il) (a : ¬ rl < 1) (b : ¬ r0 = i0) : ¬ (if rl = 0 then ([] : List Int32) else if rl = 1 then [r0] else [r0, r1]) = (if il = 0 then ([] : List Int32) else if il = 1 then [i0] else [i0, i1]) := by
  subst h
  rcases hr with rfl | rfl | rfl
  · exact absurd (by decide) a
  · intro q; simp at q; exact b q
  · intro q; simp at q; exact b q.1
theorem own_mkN3 {rl il r0 r1 i0 i1 : Int32} (hr : rl = 0 ∨ rl = 1 ∨ rl = 2) (h : rl = il) (a : ¬ rl < 2) (b : ¬ r1 = i1) : ¬ (if rl = 0 then ([] : List Int32) else if rl = 1 then [r0] else [r0, r1]) = (if il = 0 then ([] : List Int32) else if il = 1 then [i0] else [i0, i1]) := by
  subst h
  rcases hr with rfl | rfl | rfl
  · exact absurd (by decide) a
  · exact absurd (by decide) a
  · intro q; simp at q; exact b q.2
theorem own_and3 (x : Int32) : (x &&& (3 : Int32)) = 0 ∨ (x &&& (3 : Int32)) = 1 ∨ (x &&& (3 : Int32)) = 2 ∨ (x &&& (3 : Int32)) = 3 := by
  have q := c_and x 3 (by decide)
  simp only [← Int32.toInt_inj]
  have e0 : (0 : Int32).toInt = 0 := rfl
  have e1 : (1 : Int32).toInt = 1 := rfl
  have e2 : (2 : Int32).toInt = 2 := rfl
  have e3 : (3 : Int32).toInt = 3 := rfl
  omega
theorem own_rem3 (x : Int32) : ((x &&& (3 : Int32)) % (3 : Int32)) = 0 ∨ ((x &&& (3 : Int32)) % (3 : Int32)) = 1 ∨ ((x &&& (3 : Int32)) % (3 : Int32)) = 2 := by
  rcases own_and3 x with h | h | h | h <;> rw [h] <;> decide
theorem own_c255 (n : Int32) : ¬ ((n &&& (255 : Int32)).toUInt32.toUInt16.toUInt32.toInt32) < 0 ∧ ¬ (255 : Int32) < ((n &&& (255 : Int32)).toUInt32.toUInt16.toUInt32.toInt32) := by
  have h := and255_chars n
  rw [nar_char2] at h
  exact h
theorem own_pe {cs ds es : List Int32} (h1 : ∀ c ∈ cs, ¬ c < 0 ∧ ¬ (255 : Int32) < c) (h2 : ∀ c ∈ ds, ¬ c < 0 ∧ ¬ (255 : Int32) < c) (h3 : ∀ c ∈ es, ¬ c < 0 ∧ ¬ (255 : Int32) < c) : ∀ c ∈ ((([] ++ cs) ++ es) ++ ds), ¬ c < 0 ∧ ¬ (255 : Int32) < c := fun c hc => by
  simp only [List.nil_append, List.mem_append] at hc
  rcases hc with (hc | hc) | hc
  · exact h1 c hc
  · exact h3 c hc
  · exact h2 c hc
theorem own_mkl (l a b : Int32) : (if l = 0 then ([] : List Int32) else if l = 1 then [a] else [a, b]).length ≤ 2 := by
  split
  · simp
  · split <;> simp
theorem own_r3 (x : Int32) : ((x &&& (2147483647 : Int32)) % (3 : Int32)) = 0 ∨ ((x &&& (2147483647 : Int32)) % (3 : Int32)) = 1 ∨ ((x &&& (2147483647 : Int32)) % (3 : Int32)) = 2 := by
  have q1 := (c_and x 2147483647 (by decide)).1
  have q2 := (c_irem (x &&& (2147483647 : Int32)) 3 3 rfl).1 q1
  simp only [← Int32.toInt_inj]
  have e0 : (0 : Int32).toInt = 0 := rfl
  have e1 : (1 : Int32).toInt = 1 := rfl
  have e2 : (2 : Int32).toInt = 2 := rfl
  omega
theorem own_gc {p : Program} {l : Launch} {e : Env} {R : Room} {s : State} {args : Array Value} {below : List Frame} {len W : Nat} {Z : State} {a0 : Array Value} {h : Heap} {n0 : Nat} {a : Addr} (hZ : Z.Warmed39 s.vm) (wc : (Jvm.Cond.codeSync Jvm.RoadKit.gcN Jvm.RoadKit.gcB 1 (some (.object "java/lang/Throwable"))).before a0 Z = true) (wi : (Jvm.Cond.instanceMethod Jvm.RoadKit.gcN).before a0 Z = true) (wz : (Jvm.Cond.initialized "java/lang/Throwable").before a0 Z = true) (wf : (Jvm.Cond.fieldLink "java/lang/Throwable" 7 "java/lang/Throwable" "cause" "Ljava/lang/Throwable;").before a0 Z = true)
    (N : Unt h a) (F : Fld Z h a "java/lang/Throwable" "cause" "Ljava/lang/Throwable;" (.ref a)) (hf : 0 + 1 ≤ R.frames) (hl : W + (1 + 11) + 0 ≤ R.locals) :
    Back l R p e below s args Jvm.RoadKit.gcN len W (fun A as => as = #[.ref a] ∧ A.U.heap = h ∧ A.cells + 0 ≤ R.cells ∧ A.slots + 0 ≤ R.slots)
      (fun A _ v B => ∃ L, QSame .null h n0 v B.U.heap L ∧ B.locs = A.locs ++ L ∧ B.cells = A.cells + 0 ∧ B.slots = A.slots + 0) :=
  Back.mono (Jvm.RoadKit.gcBackPure (rm := ({ frames := 0, cells := 0, slots := 0, locals := 0 } : Room)) hZ wc wi wz wf N F rfl hf hl) (fun A a hp => hp) (fun A a v B hp hq => ⟨[], ⟨by rw [hq.1, Jvm.RoadKit.gcv_self], Fr.nil _, hq.2.1⟩, by rw [hq.2.2.1, List.append_nil], hq.2.2.2.1, hq.2.2.2.2⟩)
theorem own_chS {p : Program} {l : Launch} {e : Env} {R : Room} {s : State} {args : Array Value} {below : List Frame} {len W : Nat} {Z : State} {a0 : Array Value} {h : Heap} {n0 : Nat} (hZ : Z.Warmed39 s.vm) (hw : ∀ d ∈ StrChars.Road.wordsChN, d.before a0 Z = true) {kI : Nat} (wi : (Jvm.Cond.instantiable "java/lang/String" kI).before a0 Z = true)
    {x : Addr} {cs : List Int32} (A : StrIs Z h x cs) {z : Int32} {fm : Value} (S : Sta Z h "java/lang/String" "COMPACT_STRINGS" "Z" (.int z)) (hz : ¬ z = 0) (F : Sta Z h "jdk/internal/util/Preconditions" "SIOOBE_FORMATTER" "Ljava/util/function/BiFunction;" fm) (rf : fm.isRef = true) (i : Nat) {j : Int32} (hi : i < cs.length) (hj : j = Int32.ofNat i) (hfr : 4 ≤ R.frames) (hlo : W + 53 ≤ R.locals) :
    Back l R p e below s args (⟨"java/lang/String", "charAt", "(I)C"⟩ : MethodName) len W (fun P a => a = #[.ref x, .int j] ∧ P.U.heap = h ∧ P.cells + 0 ≤ R.cells ∧ P.slots + 0 ≤ R.slots)
      (fun P _ v B => ∃ L, QSame (.int (cs.getD i 0)) h n0 v B.U.heap L ∧ B.locs = P.locs ++ L ∧ B.cells = P.cells + 0 ∧ B.slots = P.slots + 0) := by
  obtain ⟨E, C, hp, hl, t, kb, G, V⟩ := A
  refine Back.mono (StrChars.Road.chN hZ hw wi E G C V (StrChars.Road.codOf rfl fun c hc => (hp c hc).2) (own_up _ hp) S hz F rf hl hi hj hfr hlo) (fun P a hp => hp) (fun P a v B hp hq => ?_)
  obtain ⟨L, ⟨hv, rfl, hh⟩, h1, h2, h3⟩ := hq
  exact ⟨[], ⟨hv, Fr.nil _, hh⟩, h1, h2, h3⟩
def QEx (Z : State) (es : List Int32) (h0 : Heap) (n0 : Nat) (v : Option Value) (h : Heap) (L : List Loc) : Prop := ∃ x m : Addr, v = some (.ref x) ∧ Fr n0 L ∧ Keep h0 h [] ∧ Exa Z h x "com/example/faktorwerk/faktorwerk/model/InputRefusedException" ∧ Unt h x ∧ Fld Z h x "java/lang/Throwable" "cause" "Ljava/lang/Throwable;" (.ref x) ∧ Fld Z h x "java/lang/Throwable" "detailMessage" "Ljava/lang/String;" (.ref m) ∧ StrIs Z h m es
def own_need (rc : String) : List Jvm.Cond := [.initialized tN, .superclass tN "java/lang/Object", .instanceMethod tFill, .codeSync tFill LibCode.Throwable.Fill.code 1 (some (.object tN)), .instanceMethod tFill0, .native tFill0,
  .instanceMethod oInit, .code oInit object_method_1_code 1 none, .methodLink tN 1 oInit, .methodLink tN 27 tFill, .methodLink tN 202 tFill0,
  .fieldLink tN 7 tN "cause" "Ljava/lang/Throwable;", .lays rc tN "cause" "Ljava/lang/Throwable;", .fieldLink tN 17 tN "stackTrace" steD, .lays rc tN "stackTrace" steD, .fieldLink tN 24 tN "suppressedExceptions" listD, .lays rc tN "suppressedExceptions" listD,
  .fieldLink tN 13 tN "UNASSIGNED_STACK" steD, .laysStatic tN "UNASSIGNED_STACK" steD, .fieldLink tN 20 tN "SUPPRESSED_SENTINEL" listD, .laysStatic tN "SUPPRESSED_SENTINEL" listD, .lays rc tN "detailMessage" "Ljava/lang/String;",
  .selects rc tFill0 tFill0, .fieldLink tN 198 tN "backtrace" "Ljava/lang/Object;", .lays rc tN "backtrace" "Ljava/lang/Object;", .arrayOver (.object "java/lang/Object"), .soleField tN "backtrace", .soleField tN "depth", .lays rc tN "depth" "I"]
theorem own_needOk {rc : String} : (own_need rc).all xOk = true := rfl
theorem own_par {d : String} {sg : MethodDescriptor} {ts : List FieldType} (h : parseMethodDescriptor d = some sg) (q : (parseMethodDescriptor d).map (fun x => x.parameters) = some ts) : sg.parameters = ts := by
  rw [h] at q
  exact Option.some.inj q
set_option maxHeartbeats 4000000 in
/-- Throwable's links at a state, out of the words of the table (the receiver's class lays the fields) -/
theorem own_links {rc : String} {args : Array Value} {s : State} {pl : Platform} (ho : pl.frameOwnsMonitors = true) (hfi : pl.finalization = false) (hpl : pl.magicAccessors = ({} : Platform).magicAccessors) (W : ∀ d ∈ own_need rc, d.before args s = true) :
    ∃ T : ThrowableC, T.Links pl s ∧ s.vm.findClass tN = some T.cT ∧ s.methodNamed? tFill = some T.fill ∧ s.methodNamed? tFill0 = some T.fill0 ∧ s.fieldFound? tN "stackTrace" steD = some (T.cT, T.kT, T.i17, T.fStack) ∧ T.fStack.type = .array (.object "java/lang/StackTraceElement") ∧ T.fStack.name = "stackTrace" ∧ s.fieldFound? tN "UNASSIGNED_STACK" steD = some (T.cT, T.kT, T.i13, T.fUnassigned) ∧ ∃ cell : Cell, s.heap[T.aS]? = some cell ∧ cell.vm.isStatics = true := by
  have w : ∀ (i : Nat) (d : Jvm.Cond), (own_need rc)[i]? = some d → d.before args s = true := fun i d hd => W d (List.mem_of_getElem? hd)
  obtain ⟨⟨cl, j0⟩, mN, n0, q0, isN, noC, noL, sgN⟩ := Cond.native_spec (w 5 _ rfl)
  have fc : s.vm.findClass tN = some cl := findClass_of_methodNamed n0
  obtain ⟨kl, hkl, nmT⟩ := Vm.findClass_spec fc
  obtain ⟨-, k1, -, -, hk1, -, -, -, -, noF⟩ := Cond.superclass_spec fc (w 1 _ rfl)
  cases hkl.symm.trans hk1
  obtain ⟨jF, mF, nF, qF, aF, sF, bF, -, -⟩ := Cond.ownMethod (x := tFill) fc hkl (w 2 _ rfl)
  obtain ⟨mF', cF, qF', kF, yF, lF, rF, oF, -, sgF⟩ := Cond.codeSync_spec nF (w 3 _ rfl)
  cases qF.symm.trans qF'
  obtain ⟨j1, m1, n1, q1, a1, s1, b1, nm1, ds1⟩ := Cond.ownMethod (x := tFill0) fc hkl (w 4 _ rfl)
  cases n0.symm.trans n1
  cases q0.symm.trans q1
  obtain ⟨mO, eO, nO, qO, sO, bO⟩ := Cond.instanceMethod_spec (w 6 _ rfl)
  obtain ⟨eO', cO, qO', kO, yO, -, -, oO, -, sgO⟩ := Cond.code_spec nO (w 7 _ rfl)
  cases qO.symm.trans qO'
  obtain ⟨kk, hkk, nmk⟩ := Vm.findClass_spec (findClass_of_methodNamed nO)
  obtain ⟨nmO, dsO⟩ := name_of_methodNamed nO qO
  obtain ⟨ca, na, fa, la, ra, hfa, pa⟩ := Cond.linkedMethod fc hkl nO (w 8 _ rfl) pl hpl
  obtain ⟨cb, nb, fb, lb, rb, hfb, pb⟩ := Cond.linkedMethod fc hkl nF (w 9 _ rfl) pl hpl
  cases hfa.symm.trans hfb
  obtain ⟨cc, nc, fd, lc, rc', hfd, pc⟩ := Cond.linkedMethod fc hkl n0 (w 10 _ rfl) pl hpl
  cases hfa.symm.trans hfd
  obtain ⟨c7, i7, f7, l7, r7, t7, s7, z7, -, -, -⟩ := Cond.ownField (t := .object tN) fc hkl (by decide +kernel) (w 11 _ rfl) (w 12 _ rfl) pl hpl
  obtain ⟨c17, i17, f17, l17, r17, t17, s17, z17, n17, y17, g17⟩ := Cond.ownField (t := .array (.object "java/lang/StackTraceElement")) fc hkl (by decide +kernel) (w 13 _ rfl) (w 14 _ rfl) pl hpl
  obtain ⟨c24, i24, f24, l24, r24, t24, s24, z24, n24, -, g24⟩ := Cond.ownField (t := .object "java/util/List") fc hkl (by decide +kernel) (w 15 _ rfl) (w 16 _ rfl) pl hpl
  obtain ⟨c13, i13, f13, aS, cS, l13, r13, t13, s13, -, -, hst, hcS, iS, -, -, g13⟩ := Cond.ownStatic (t := .array (.object "java/lang/StackTraceElement")) fc hkl (by decide +kernel) (w 17 _ rfl) (w 18 _ rfl) pl hpl
  obtain ⟨c20, i20, f20, -, -, l20, r20, t20, s20, -⟩ := Cond.ownStatic (t := .object "java/util/List") fc hkl (by decide +kernel) (w 19 _ rfl) (w 20 _ rfl) pl hpl
  obtain ⟨cR, kR, -, -, -, fM, fR, hkR, -, sM, zM, -⟩ := Cond.lays_spec (w 21 _ rfl)
  obtain ⟨-, d1, h1, e1⟩ := Cond.laysAt fR hkR g17 (w 14 _ rfl)
  obtain ⟨-, d2, h2, e2⟩ := Cond.laysAt fR hkR g24 (w 16 _ rfl)
  have apart := Cond.laysApart h1 h2 e1 e2 (by rw [n17, n24]; decide)
  refine ⟨{ cT := cl, kT := kl, cO := cl, aS := aS, fillIdx := jF, fill0Idx := j0, initSIdx := jF, obj := mO, kObj := kk, methFill := mF, methFill0 := mN, methInitS := mF, methObj := eO, codeFill := cF, codeInitS := cF, codeObj := cO, fBack := f7, fDepth := f7, fStack := f17, fCause := f7, fSupp := f24, fMsg := fM, fUnassigned := f13, fSentinel := f20, cfT := fa, ci1 := ca, n1 := na, ci27 := cb, n27 := nb, ci202 := cc, n202 := nc, ci7 := c7, i7 := i7, ci13 := c13, i13 := i13, ci17 := c17, i17 := i17, ci20 := c20, i20 := i20, ci24 := c24, i24 := i24 }, ?_, fc, nF, n0, g17, y17, n17, g13, cS, hcS, iS⟩
  constructor
  case owns => exact ho
  case noFinalization => exact hfi
  case fillParams => exact own_par sgF (by decide +kernel)
  case fill0Params => exact own_par sgN (by decide +kernel)
  case objParams => exact congrArg List.length (own_par sgO (by decide +kernel) : eO.sig.parameters = [])
  case objFound => rw [dsO]; exact lookupSpecial_of_named nO qO sO
  case initialized => exact Cond.initialized_spec fc hkl (w 0 _ rfl)
  case boot => exact Vm.findClass_boot fc hkl
  case stackApartSupp => exact apart
  case objBytes => exact yO
  all_goals first | assumption

theorem own_ff {Z s : State} (hal : Z.vm.Alike s.vm) {C n d : String} {cf : ClassId} {k : Class} {i : Nat} {f : Field} (h : Z.fieldFound? C n d = some (cf, k, i, f)) {cf' : ClassId} {k' : Class} {i' : Nat} {f' : Field} (h' : s.fieldFound? C n d = some (cf', k', i', f')) : f' = f := by
  obtain ⟨k4, q, -⟩ := State.fieldFound?_setVm (s := Z) hal h
  cases (show s.fieldFound? C n d = _ from q).symm.trans h'
  rfl
theorem own_after {Z : State} {h h' : Heap} {a : Addr} {O n d : String} {v : Value} {C : Cell} {cell : Cell} (F : Fld Z h a O n d v) (h1 : h[a]? = some cell) (h2 : h'[a]? = some C) (q1 : C.cls = cell.cls) (q2 : C.vm = cell.vm) (q3 : ∀ (cf : ClassId) (k : Class) (i : Nat) (f : Field), Z.fieldFound? O n d = some (cf, k, i, f) → C.slots[f.slot]? = cell.slots[f.slot]?) : Fld Z h' a O n d v := by
  obtain ⟨c0, cf, k, i, f, e1, e2, e3, e4, e5, e6, e7⟩ := F
  cases h1.symm.trans e1
  exact ⟨C, cf, k, i, f, h2, e2, e3, by rw [q2]; exact e4, by rw [q2]; exact e5, by rw [q1]; exact e6, by rw [q3 _ _ _ _ e2]; exact e7⟩
set_option maxHeartbeats 4000000 in
theorem own_fill {p : Program} {l : Launch} {e : Env} {R : Room} {s : State} {args : Array Value} {below : List Frame} {len W : Nat} {Z : State} {a0 : Array Value} {h : Heap} {rc : String} {kI : Nat} {a : Addr} {u0 vC vM : Value} (hx : p.tables.exec = Jvm.exec) (hST : l.stackTraces = true) (hZ : Z.Warmed39 s.vm) (hn : ∀ d ∈ own_need rc, d.before a0 Z = true) (wi : (Jvm.Cond.instantiable rc kI).before a0 Z = true) (hT0 : ThS Z s.heap) (hTK : s.vm.MethodsKnown) (hBelow : s.vm.FramesKnown below)
    (E : Exa Z h a rc) (N : Unt h a) (B : Fld Z h a tN "backtrace" "Ljava/lang/Object;" .null) (FS : Fld Z h a tN "stackTrace" steD u0) (ru : u0.isRef = true) (SU : Sta Z h tN "UNASSIGNED_STACK" steD u0) (FC : Fld Z h a tN "cause" "Ljava/lang/Throwable;" vC) (FM : Fld Z h a tN "detailMessage" "Ljava/lang/String;" vM) (hf : 2 < R.frames) (hl : W + 42 ≤ R.locals) :
    Back l R p e below s args tFill len W (fun A as => as = #[.ref a] ∧ A.U.heap = h ∧ A.cells + 1 ≤ R.cells ∧ A.slots + 2752 ≤ R.slots)
      (fun A _ v B => ∃ L, (∃ i1 i2 i3 : Nat, v = some (.ref a) ∧ L = [⟨a, i1⟩, ⟨a, i2⟩, ⟨a, i3⟩] ∧ Fld Z B.U.heap a tN "cause" "Ljava/lang/Throwable;" vC ∧ Fld Z B.U.heap a tN "detailMessage" "Ljava/lang/String;" vM) ∧ B.locs = A.locs ++ L ∧ B.cells = A.cells + 1 ∧ B.slots = A.slots + 2752) := by
  intro m meth c A g ig mk as X hg hsize hdg hWd hmk hPre
  obtain ⟨has, hh, hc, hs⟩ := hPre
  have ad := X.admits.platform
  have W' : ∀ d ∈ own_need rc, d.before args s = true := fun d hd => mvX hT0 hZ (List.all_eq_true.mp own_needOk d hd) (hn d hd)
  have w : ∀ (i : Nat) (d : Jvm.Cond), (own_need rc)[i]? = some d → d.before args s = true := fun i d hd => W' d (List.mem_of_getElem? hd)
  have hpl : e.platform.magicAccessors = ({} : Platform).magicAccessors := by rw [ad]
  obtain ⟨T, L, fT, nF, n0, gS, yS, nS, gU, cS0, hS0, iS0⟩ := own_links (rc := rc) (args := args) (s := s) (pl := e.platform) (by rw [ad]) (by rw [ad]) hpl W'
  -- the receiver
  obtain ⟨cell, k, e1, e2, e3, e4, e5⟩ := E
  obtain ⟨cell2, u1, u2, u3⟩ := N
  cases e1.symm.trans u1
  obtain ⟨c4, k4, v1, v2, v3, -⟩ := Cond.instantiable_spec wi
  cases e2.symm.trans v1
  cases e3.symm.trans v2
  obtain ⟨kX, hkX, eX⟩ := hZ.alike.2.2 _ _ e3
  have fR : s.vm.findClass rc = some cell.cls := by rw [hZ.alike.findClass]; exact e2
  have hord : kX.kind = .ordinary := by rw [eX]; exact v3
  have hsz : cell.slots.size = kX.instanceTypes.size := by rw [eX]; exact e5 v3
  have tk : ∀ {f : Field} {v : Value}, kX.instanceTypes[f.slot]? = some f.type → fits f.type v = true → Jvm.Takes s cell f v := fun {f v} h1 h2 => by
    obtain ⟨q1, q2⟩ := Takes.of_laid (v := v) hkX hord h1 h2
    exact ⟨by rw [hsz]; simpa using q1, by rw [u2]; exact q2⟩
  -- the fields
  obtain ⟨cB, iB, fB, lB, rB, aB, sB, -, nB, tB, gB⟩ := Cond.ownField (t := .object "java/lang/Object") fT L.cls (by decide +kernel) (w 23 _ rfl) (w 24 _ rfl) e.platform hpl
  obtain ⟨-, -, cD, kD, iD, fD, -, -, gD, sD, -, -, -, -⟩ := Cond.lays_spec (w 28 _ rfl)
  cases (Cond.lays_declared (w 28 _ rfl) gD).symm.trans fT
  obtain ⟨hkD, aD⟩ := State.fieldFound?_spec gD
  cases hkD.symm.trans L.cls
  obtain ⟨nD, tD⟩ := State.fieldFound?_type gD (t := .int) (by decide +kernel)
  have bb := Cond.soleField_find fT L.cls (w 26 _ rfl) aB nB sB
  have dd := Cond.soleField_find fT L.cls (w 27 _ rfl) aD nD sD
  obtain ⟨comp, cO, kO, -, -, hkO, kiO, fO⟩ := Cond.arrayOver_spec (w 25 _ rfl)
  obtain ⟨tyS, dS, xS, mS⟩ := Cond.laysAt fR hkX gS (w 14 _ rfl)
  obtain ⟨tyB, dB, xB, mB⟩ := Cond.laysAt fR hkX gB (w 24 _ rfl)
  obtain ⟨tyD, dD, xD, mD⟩ := Cond.laysAt fR hkX gD (w 28 _ rfl)
  -- the values
  obtain ⟨b0, _, _, _, fb0, b1, b2, -, -, -, -, b7⟩ := B
  cases e1.symm.trans b1
  cases own_ff hZ.alike b2 gB
  obtain ⟨s0, _, _, _, fs0, s1, s2, -, -, -, -, s7⟩ := FS
  cases e1.symm.trans s1
  cases own_ff hZ.alike s2 gS
  obtain ⟨cu, iu, ku, fu, st, cs, z1, z2, z3, z4, z5, z6, z7⟩ := SU
  obtain ⟨k9, q9, ek9⟩ := State.fieldFound?_setVm (s := Z) hZ.alike z1
  cases (show s.fieldFound? tN "UNASSIGNED_STACK" steD = _ from q9).symm.trans gU
  have eS : st = T.aS := Option.some.inj ((show T.kT.statics = some st by rw [ek9]; exact z4).symm.trans L.statics)
  subst eS
  have sel0 : selectMethod e.platform s.vm cell.cls T.fill0 = .method T.fill0 := by
    obtain ⟨c2, r2, m2, q1, q2, q3, q4, -⟩ := Cond.selects_spec (w 22 _ rfl)
    cases fR.symm.trans q1
    cases (State.methodFound?_of_named n0 (by decide)).symm.trans q2
    cases n0.symm.trans q3
    rw [Launch.admits_selectMethod X.admits]; exact q4
  have ne : T.aS ≠ a := fun z => by rw [z] at z5; cases e1.symm.trans z5; rw [z6] at e4; cases e4
  obtain ⟨v, B2, XB, ⟨hv, C, n, hnn, hC, hq1, hq2, hq3, hq4, hL, hce, hsl⟩, st2⟩ := Jvm.Free.Exc.fillPaysAny (l := l) (R := R) (len := len) (W := W) (sargs := args) hx (by rw [ad]; exact hST) T L nF (u0 := ⟨u0, ru⟩) (self := a) (cell := cell) (cellS := cs) (fun _ => by rw [u2]; simp) (by rw [u2]; simp) (by rw [u3]) (by rw [u3]) s7 sel0 ne (by intro z; rw [z] at z6; cases z6) z7
    (tk tyS (by rw [yS]; exact fits_refV_array _ ⟨u0, ru⟩)) ⟨{ ci198 := cB, i198 := iB, fBack := fB }, ⟨lB, rB, aB, sB⟩, b7⟩ hTK hBelow fT fO hkO kiO bb dd (fun x => tk tyB (by rw [tB]; rfl)) (fun x => tk tyD (by rw [tD]; rfl)) hf hl
    m meth c A g ig mk as X hg hsize hdg hWd hmk ⟨has, hc, hs, by rw [hh]; exact e1, by rw [hh]; exact z5⟩
  refine ⟨v, ⟨B2.U, B2.locs, B2.cells, A.slots + 2752⟩, XB.more (Nat.le_refl _) (by rw [hsl]; exact Nat.add_le_add_left hnn _), ⟨_, ⟨fB.slot, fD.slot, T.fStack.slot, hv, rfl, ?_, ?_⟩, hL, hce, rfl⟩, st2⟩
  · refine own_after FC e1 hC hq1 hq2 fun cf k' i f hf' => ?_
    obtain ⟨k5, g5, -⟩ := State.fieldFound?_setVm (s := Z) hZ.alike hf'
    have g5' : s.fieldFound? tN "cause" "Ljava/lang/Throwable;" = _ := g5
    obtain ⟨-, dC, xC, mC⟩ := Cond.laysAt fR hkX g5' (w 12 _ rfl)
    have nC := (State.fieldFound?_type g5' (t := .object tN) (by decide +kernel)).1
    exact hq4 _ (Cond.laysApart xC xB mC mB (by rw [nC, nB]; decide)) (Cond.laysApart xC xD mC mD (by rw [nC, nD]; decide)) (Cond.laysApart xC xS mC mS (by rw [nC, nS]; decide))
  · refine own_after FM e1 hC hq1 hq2 fun cf k' i f hf' => ?_
    obtain ⟨k5, g5, -⟩ := State.fieldFound?_setVm (s := Z) hZ.alike hf'
    have g5' : s.fieldFound? tN "detailMessage" "Ljava/lang/String;" = _ := g5
    obtain ⟨-, dC, xC, mC⟩ := Cond.laysAt fR hkX g5' (w 21 _ rfl)
    have nC := (State.fieldFound?_type g5' (t := .object "java/lang/String") (by decide +kernel)).1
    exact hq4 _ (Cond.laysApart xC xB mC mB (by rw [nC, nB]; decide)) (Cond.laysApart xC xD mC mD (by rw [nC, nD]; decide)) (Cond.laysApart xC xS mC mS (by rw [nC, nS]; decide))
theorem own_since {p : Program} {l : Launch} {e : Env} {R : Room} {s : State} {m : MethodId} {args : Array Value} {below : List Frame} {meth : Method} {c : Code} {T : State} {locs : List Loc} {cells slots : Nat} (X : Stand p l e R s m args below meth c T locs cells slots) {h0 : Heap} (hh : s.heap = h0) {a : Addr} (hl : ∀ x ∈ locs, x.base = a) : Keep h0 T.heap [a] ∧ (Unt h0 a → Unt T.heap a) := by
  obtain ⟨-, q1, -, -, -, q2⟩ := X.same
  subst hh
  refine ⟨⟨q1, fun x cx hx hn => ?_, fun x cx hx => ?_⟩, fun ⟨cx, hx, w1, w2⟩ => ?_⟩
  · obtain ⟨c', r1, r2, -, r4⟩ := q2 x cx hx
    have e : c'.slots = cx.slots := Array.ext_getElem? fun i => r4 i fun hm => hn (by rw [← hl _ hm]; exact List.mem_cons_self ..)
    rw [show T.heap[x]? = _ from r1, r2, e]
  · obtain ⟨c', r1, r2, r3, -⟩ := q2 x cx hx
    exact ⟨c', r1, by rw [r2], by rw [r2], r3⟩
  · obtain ⟨c', r1, r2, -, -⟩ := q2 a cx hx
    exact ⟨c', r1, by rw [r2]; exact w1, by rw [r2]; exact w2⟩

set_option maxRecDepth 65536 in
theorem own_needIn : ∀ d ∈ own_need "com/example/faktorwerk/faktorwerk/model/InputRefusedException", d ∈ tables_1 := by decide +kernel
def QThr (Z : State) (a b : Addr) (h0 : Heap) (n0 : Nat) (v : Option Value) (h : Heap) (L : List Loc) : Prop := v = none ∧ Fr n0 L ∧ Keep h0 h [a] ∧ Exa Z h a "com/example/faktorwerk/faktorwerk/model/InputRefusedException" ∧ Unt h a ∧ Fld Z h a "java/lang/Throwable" "cause" "Ljava/lang/Throwable;" (.ref a) ∧ Fld Z h a "java/lang/Throwable" "detailMessage" "Ljava/lang/String;" (.ref b)
set_option maxRecDepth 65536 in
set_option maxHeartbeats 40000000 in
theorem rmThr (l : Launch) (Z : State) (a0 : Array Value) (hw : ∀ d ∈ tables_1, d.before a0 Z = true) (a b : Addr) (u0 w0 : Value) (h0 : Heap) (n0 : Nat) (Z0 : n0 ≤ h0.size) (hST : l.stackTraces = true) (SU : Sta Z Z.heap "java/lang/Throwable" "UNASSIGNED_STACK" "[Ljava/lang/StackTraceElement;" u0) (rU : u0.isRef = true) (SS : Sta Z Z.heap "java/lang/Throwable" "SUPPRESSED_SENTINEL" "Ljava/util/List;" w0) (rS : w0.isRef = true) (E0 : Exa Z h0 a "com/example/faktorwerk/faktorwerk/model/InputRefusedException") (U0 : Unt h0 a) (F0ca : Fld Z h0 a "java/lang/Throwable" "cause" "Ljava/lang/Throwable;" .null) (F0st : Fld Z h0 a "java/lang/Throwable" "stackTrace" "[Ljava/lang/StackTraceElement;" .null) (F0su : Fld Z h0 a "java/lang/Throwable" "suppressedExceptions" "Ljava/util/List;" .null) (F0ba : Fld Z h0 a "java/lang/Throwable" "backtrace" "Ljava/lang/Object;" .null) (F0de : Fld Z h0 a "java/lang/Throwable" "detailMessage" "Ljava/lang/String;" .null) (ga : n0 ≤ a) (O0 : Old Z n0 h0) :
    MetFree l (⟨"java/lang/Throwable", "<init>", "(Ljava/lang/String;)V"⟩ : MethodName) (head1 [Jvm.Cond.code (⟨"java/lang/Throwable", "<init>", "(Ljava/lang/String;)V"⟩ : MethodName) jdk_78_method_2_code 2 none] ({ frames := 3, cells := 1, slots := 2752, locals := 42 } : Room)) (fun aa U => aa = #[(.ref a), (.ref b)] ∧ Z.Warmed39 U.vm ∧ U.heap = h0) (fun _ _ bl s _ => s.vm.MethodsKnown ∧ s.vm.FramesKnown bl) (fun _ U o U' => ∃ v L, o = .returned v ∧ QThr Z a b h0 n0 v U'.heap L ∧ FrameEnd U o U' L ({ frames := 3, cells := 1, slots := 2752, locals := 42 } : Room).cells ({ frames := 3, cells := 1, slots := 2752, locals := 42 } : Room).slots) := by
  refine MetFree.of_bodySF (plainFor_of_name own_pn1) hisR ?_
  intro p e s m args below meth c s₁ Bd hml0 hP hK
  obtain ⟨rfl, hZ, hh⟩ := hP
  have hx := Bd.exec
  have hby := Bd.bytes
  have hml : c.maxLocals = 2 := hml0
  have hown : s.vm.findClass "java/lang/Throwable" = some m.cls := findClass_of_methodNamed Bd.named
  have hnm := (name_of_methodNamed Bd.named Bd.method).1
  have X0 : Stand p l e ({ frames := 3, cells := 1, slots := 2752, locals := 42 } : Room) s m #[(.ref a), (.ref b)] below meth c s₁ [] 0 0 := Stand.of_body Bd
  have e0 : s₁.heap = h0 := by rw [← hh, Bd.state]; rfl
  have N0 := Fr.nil n0
  have K0 : Keep h0 h0 [] := Keep.refl _ _
  show GoOn p e below (s₁.setTop (entryFrame m #[(.ref a), (.ref b)] 2)) (PostN s (QThr Z a b h0 n0) ({ frames := 3, cells := 1, slots := 2752, locals := 42 } : Room).cells ({ frames := 3, cells := 1, slots := 2752, locals := 42 } : Room).slots)
  refine GoOn.step (fun tq kq => castTop (own_ef0 m a b) kq) ?_
  show GoOn p e below (s₁.setTop (mkF m 0 #[.val (.ref a), .val (.ref b)] [])) _
  have K0a : Keep h0 h0 [a] := Keep.refl _ _
  refine GoOn.step (fun tq kq => XS.aloadN X0.here hx rfl (hb hby own_d2) rfl rfl kq) ?_
  show GoOn p e below (s₁.setTop (mkF m 1 #[.val (.ref a), .val (.ref b)] [(.ref a)])) _
  obtain ⟨T1, X1, e1, st1⟩ := initO X0 hx hZ hown (hw _ (List.mem_of_getElem? (i := 151) rfl)) (hw _ (List.mem_of_getElem? (i := 32) rfl)) (hw _ (List.mem_of_getElem? (i := 33) rfl)) e0 (g := (mkF m 1 #[.val (.ref a), .val (.ref b)] [(.ref a)])) rfl (by rw [hml]; rfl) rfl (hb hby own_d3) (by decide) (W := 0) (by show 2 * 0 + _ ≤ _; exact Nat.le_of_eq rfl) (by decide)
  refine GoOn.step st1 ?_
  show GoOn p e below (T1.setTop (mkF m 4 #[.val (.ref a), .val (.ref b)] [])) _
  refine GoOn.step (fun tq kq => XS.aloadN X1.here hx rfl (hb hby own_d4) rfl rfl kq) ?_
  show GoOn p e below (T1.setTop (mkF m 5 #[.val (.ref a), .val (.ref b)] [(.ref a)])) _
  refine GoOn.step (fun tq kq => XS.aloadN X1.here hx rfl (hb hby own_d5) rfl rfl kq) ?_
  show GoOn p e below (T1.setTop (mkF m 6 #[.val (.ref a), .val (.ref b)] [(.ref a), (.ref a)])) _
  obtain ⟨T2, h2, X2, e2, W2, st2⟩ := putF X1 hx hZ hown (host := "") (Or.inl (hw _ (List.mem_of_getElem? (i := 152) rfl))) Via.refl e1 F0ca E0 (Or.inl (hw _ (List.mem_of_getElem? (i := 153) rfl))) (hw _ (List.mem_of_getElem? (i := 18) rfl)) (ty := (.object "java/lang/Throwable")) (by decide) rfl rfl (g := (mkF m 6 #[.val (.ref a), .val (.ref b)] [(.ref a), (.ref a)])) rfl rfl (hb hby own_d6)
  have N3 := Fr.snoc X2 N0 ga
  have Kx2 : Keep h0 h2 [a] := Keep.of_wr W2
  have F4 : Fld Z h2 a "java/lang/Throwable" "cause" "Ljava/lang/Throwable;" (.ref a) := F0ca.same W2
  have F5 : Fld Z h2 a "java/lang/Throwable" "stackTrace" "[Ljava/lang/StackTraceElement;" .null := F0st.other W2 (Or.inr (slot_ne (a0 := a0) (Or.inl (hw _ (List.mem_of_getElem? (i := 156) rfl))) (Or.inl (hw _ (List.mem_of_getElem? (i := 153) rfl))) (by decide) (t := (.array (.object "java/lang/StackTraceElement"))) (t' := (.object "java/lang/Throwable")) (by decide) (by decide)))
  have F6 : Fld Z h2 a "java/lang/Throwable" "suppressedExceptions" "Ljava/util/List;" .null := F0su.other W2 (Or.inr (slot_ne (a0 := a0) (Or.inl (hw _ (List.mem_of_getElem? (i := 159) rfl))) (Or.inl (hw _ (List.mem_of_getElem? (i := 153) rfl))) (by decide) (t := (.object "java/util/List")) (t' := (.object "java/lang/Throwable")) (by decide) (by decide)))
  have F7 : Fld Z h2 a "java/lang/Throwable" "backtrace" "Ljava/lang/Object;" .null := F0ba.other W2 (Or.inr (slot_ne (a0 := a0) (Or.inl (hw _ (List.mem_of_getElem? (i := 184) rfl))) (Or.inl (hw _ (List.mem_of_getElem? (i := 153) rfl))) (by decide) (t := (.object "java/lang/Object")) (t' := (.object "java/lang/Throwable")) (by decide) (by decide)))
  have F8 : Fld Z h2 a "java/lang/Throwable" "detailMessage" "Ljava/lang/String;" .null := F0de.other W2 (Or.inr (slot_ne (a0 := a0) (Or.inl (hw _ (List.mem_of_getElem? (i := 183) rfl))) (Or.inl (hw _ (List.mem_of_getElem? (i := 153) rfl))) (by decide) (t := (.object "java/lang/String")) (t' := (.object "java/lang/Throwable")) (by decide) (by decide)))
  refine GoOn.step st2 ?_
  have E9 : Exa Z h2 a "com/example/faktorwerk/faktorwerk/model/InputRefusedException" := E0.keep Kx2
  have O16 : Old Z n0 h2 := O0.keep Kx2 (allS ga all0)
  have Z17 : n0 ≤ h2.size := Nat.le_trans Z0 Kx2.1
  have K18 : Keep h0 h2 [a] := K0a.trans Kx2 ((allS (Or.inl (by simp)) all0))
  show GoOn p e below (T2.setTop (mkF m 9 #[.val (.ref a), .val (.ref b)] [])) _
  refine GoOn.step (fun tq kq => XS.aloadN X2.here hx rfl (hb hby own_d7) rfl rfl kq) ?_
  show GoOn p e below (T2.setTop (mkF m 10 #[.val (.ref a), .val (.ref b)] [(.ref a)])) _
  obtain ⟨T19, X19, e19, st19⟩ := getS2 X2 hx hZ hown (host := "") (Or.inl (hw _ (List.mem_of_getElem? (i := 154) rfl))) Via.refl e2 (SU.ext O16.2) (g := (mkF m 10 #[.val (.ref a), .val (.ref b)] [(.ref a)])) rfl (hb hby own_d8)
  refine GoOn.step st19 ?_
  show GoOn p e below (T19.setTop (mkF m 13 #[.val (.ref a), .val (.ref b)] [u0, (.ref a)])) _
  obtain ⟨T20, h20, X20, e20, W20, st20⟩ := putF X19 hx hZ hown (host := "") (Or.inl (hw _ (List.mem_of_getElem? (i := 155) rfl))) Via.refl e19 F5 E9 (Or.inl (hw _ (List.mem_of_getElem? (i := 156) rfl))) (hw _ (List.mem_of_getElem? (i := 18) rfl)) (ty := (.array (.object "java/lang/StackTraceElement"))) (by decide) (narRef rU) (fitRefA rU) (g := (mkF m 13 #[.val (.ref a), .val (.ref b)] [u0, (.ref a)])) rfl rfl (hb hby own_d9)
  have N21 := Fr.snoc X20 N3 ga
  have Kx20 : Keep h2 h20 [a] := Keep.of_wr W20
  have F22 : Fld Z h20 a "java/lang/Throwable" "stackTrace" "[Ljava/lang/StackTraceElement;" u0 := F5.same W20
  have F23 : Fld Z h20 a "java/lang/Throwable" "cause" "Ljava/lang/Throwable;" (.ref a) := F4.other W20 (Or.inr (slot_ne (a0 := a0) (Or.inl (hw _ (List.mem_of_getElem? (i := 153) rfl))) (Or.inl (hw _ (List.mem_of_getElem? (i := 156) rfl))) (by decide) (t := (.object "java/lang/Throwable")) (t' := (.array (.object "java/lang/StackTraceElement"))) (by decide) (by decide)))
  have F24 : Fld Z h20 a "java/lang/Throwable" "suppressedExceptions" "Ljava/util/List;" .null := F6.other W20 (Or.inr (slot_ne (a0 := a0) (Or.inl (hw _ (List.mem_of_getElem? (i := 159) rfl))) (Or.inl (hw _ (List.mem_of_getElem? (i := 156) rfl))) (by decide) (t := (.object "java/util/List")) (t' := (.array (.object "java/lang/StackTraceElement"))) (by decide) (by decide)))
  have F25 : Fld Z h20 a "java/lang/Throwable" "backtrace" "Ljava/lang/Object;" .null := F7.other W20 (Or.inr (slot_ne (a0 := a0) (Or.inl (hw _ (List.mem_of_getElem? (i := 184) rfl))) (Or.inl (hw _ (List.mem_of_getElem? (i := 156) rfl))) (by decide) (t := (.object "java/lang/Object")) (t' := (.array (.object "java/lang/StackTraceElement"))) (by decide) (by decide)))
  have F26 : Fld Z h20 a "java/lang/Throwable" "detailMessage" "Ljava/lang/String;" .null := F8.other W20 (Or.inr (slot_ne (a0 := a0) (Or.inl (hw _ (List.mem_of_getElem? (i := 183) rfl))) (Or.inl (hw _ (List.mem_of_getElem? (i := 156) rfl))) (by decide) (t := (.object "java/lang/String")) (t' := (.array (.object "java/lang/StackTraceElement"))) (by decide) (by decide)))
  refine GoOn.step st20 ?_
  have E27 : Exa Z h20 a "com/example/faktorwerk/faktorwerk/model/InputRefusedException" := E9.keep Kx20
  have O28 : Old Z n0 h20 := O16.keep Kx20 (allS ga all0)
  have Z29 : n0 ≤ h20.size := Nat.le_trans Z17 Kx20.1
  have K30 : Keep h0 h20 [a] := K18.trans Kx20 ((allS (Or.inl (by simp)) all0))
  show GoOn p e below (T20.setTop (mkF m 16 #[.val (.ref a), .val (.ref b)] [])) _
  refine GoOn.step (fun tq kq => XS.aloadN X20.here hx rfl (hb hby own_d10) rfl rfl kq) ?_
  show GoOn p e below (T20.setTop (mkF m 17 #[.val (.ref a), .val (.ref b)] [(.ref a)])) _
  obtain ⟨T36, X36, e36, st36⟩ := getS2 X20 hx hZ hown (host := "") (Or.inl (hw _ (List.mem_of_getElem? (i := 157) rfl))) Via.refl e20 (SS.ext O28.2) (g := (mkF m 17 #[.val (.ref a), .val (.ref b)] [(.ref a)])) rfl (hb hby own_d11)
  refine GoOn.step st36 ?_
  show GoOn p e below (T36.setTop (mkF m 20 #[.val (.ref a), .val (.ref b)] [w0, (.ref a)])) _
  obtain ⟨T37, h37, X37, e37, W37, st37⟩ := putF X36 hx hZ hown (host := "") (Or.inl (hw _ (List.mem_of_getElem? (i := 158) rfl))) Via.refl e36 F24 E27 (Or.inl (hw _ (List.mem_of_getElem? (i := 159) rfl))) (hw _ (List.mem_of_getElem? (i := 18) rfl)) (ty := (.object "java/util/List")) (by decide) (narRef rS) (fitRef rS) (g := (mkF m 20 #[.val (.ref a), .val (.ref b)] [w0, (.ref a)])) rfl rfl (hb hby own_d12)
  have N38 := Fr.snoc X37 N21 ga
  have Kx37 : Keep h20 h37 [a] := Keep.of_wr W37
  have F39 : Fld Z h37 a "java/lang/Throwable" "suppressedExceptions" "Ljava/util/List;" w0 := F24.same W37
  have F40 : Fld Z h37 a "java/lang/Throwable" "stackTrace" "[Ljava/lang/StackTraceElement;" u0 := F22.other W37 (Or.inr (slot_ne (a0 := a0) (Or.inl (hw _ (List.mem_of_getElem? (i := 156) rfl))) (Or.inl (hw _ (List.mem_of_getElem? (i := 159) rfl))) (by decide) (t := (.array (.object "java/lang/StackTraceElement"))) (t' := (.object "java/util/List")) (by decide) (by decide)))
  have F41 : Fld Z h37 a "java/lang/Throwable" "cause" "Ljava/lang/Throwable;" (.ref a) := F23.other W37 (Or.inr (slot_ne (a0 := a0) (Or.inl (hw _ (List.mem_of_getElem? (i := 153) rfl))) (Or.inl (hw _ (List.mem_of_getElem? (i := 159) rfl))) (by decide) (t := (.object "java/lang/Throwable")) (t' := (.object "java/util/List")) (by decide) (by decide)))
  have F42 : Fld Z h37 a "java/lang/Throwable" "backtrace" "Ljava/lang/Object;" .null := F25.other W37 (Or.inr (slot_ne (a0 := a0) (Or.inl (hw _ (List.mem_of_getElem? (i := 184) rfl))) (Or.inl (hw _ (List.mem_of_getElem? (i := 159) rfl))) (by decide) (t := (.object "java/lang/Object")) (t' := (.object "java/util/List")) (by decide) (by decide)))
  have F43 : Fld Z h37 a "java/lang/Throwable" "detailMessage" "Ljava/lang/String;" .null := F26.other W37 (Or.inr (slot_ne (a0 := a0) (Or.inl (hw _ (List.mem_of_getElem? (i := 183) rfl))) (Or.inl (hw _ (List.mem_of_getElem? (i := 159) rfl))) (by decide) (t := (.object "java/lang/String")) (t' := (.object "java/util/List")) (by decide) (by decide)))
  refine GoOn.step st37 ?_
  have E44 : Exa Z h37 a "com/example/faktorwerk/faktorwerk/model/InputRefusedException" := E27.keep Kx37
  have O45 : Old Z n0 h37 := O28.keep Kx37 (allS ga all0)
  have Z46 : n0 ≤ h37.size := Nat.le_trans Z29 Kx37.1
  have K47 : Keep h0 h37 [a] := K30.trans Kx37 ((allS (Or.inl (by simp)) all0))
  show GoOn p e below (T37.setTop (mkF m 23 #[.val (.ref a), .val (.ref b)] [])) _
  refine GoOn.step (fun tq kq => XS.aloadN X37.here hx rfl (hb hby own_d13) rfl rfl kq) ?_
  show GoOn p e below (T37.setTop (mkF m 24 #[.val (.ref a), .val (.ref b)] [(.ref a)])) _
  have Un53 : Unt T37.heap a := (own_since (a := a) X37 hh (by simp)).2 U0
  rw [e37] at Un53
  obtain ⟨cqc55, kqc55, qac55, qbc55, qcc55⟩ := isOf hZ e37 E44
  obtain ⟨_, _, ⟨T54, L54, k54, n54⟩, -, X54, ⟨Lc54, hQ54, l54, y54, z54⟩, st54⟩ := X37.virtualBack hx (y := (⟨"java/lang/Throwable", "fillInStackTrace", "()Ljava/lang/Throwable;"⟩ : MethodName)) (z := (⟨"java/lang/Throwable", "fillInStackTrace", "()Ljava/lang/Throwable;"⟩ : MethodName)) hown (mvT hZ (hw _ (List.mem_of_getElem? (i := 160) rfl))) (mvT hZ (hw _ (List.mem_of_getElem? (i := 161) rfl))) (notFace_of_selects (args := #[]) (mvT hZ (hw _ (List.mem_of_getElem? (i := 163) rfl)))) (mvT hZ (hw _ (List.mem_of_getElem? (i := 163) rfl))) (mvT hZ (hw _ (List.mem_of_getElem? (i := 162) rfl))) (by decide) (own_fill (rc := "com/example/faktorwerk/faktorwerk/model/InputRefusedException") (W := 0) hx hST hZ (fun d hd => hw d (own_needIn d hd)) (hw _ (List.mem_of_getElem? (i := 18) rfl)) (by rw [hh]; exact ThS.ext O0.2 ThS.start) hK.1 hK.2 E44 Un53 F42 F40 rU (SU.ext O45.2) F41 F43 (by decide) (by decide)) qac55 qcc55 (g := (mkF m 24 #[.val (.ref a), .val (.ref b)] [(.ref a)])) rfl (by rw [hml]; rfl) (Steps.refl _) (argsL := []) (rest := []) (lenOf own_pd15 rfl) rfl (by show 2 * 0 + _ ≤ _; exact Nat.le_of_eq rfl) (hb hby own_d14) (fun _ _ => ⟨rfl, e37, (by decide : 0 + 1 ≤ _), (by decide : 0 + 2752 ≤ _)⟩)
  dsimp only [Pt.U, Pt.locs, Pt.cells, Pt.slots] at X54 l54 y54 z54 st54 hQ54
  subst l54 y54 z54
  obtain ⟨i154, i254, i354, rfl, rfl, Fc54, Fm54⟩ := hQ54
  refine GoOn.trans st54 ?_
  show GoOn p e below (T54.setTop (mkF m 27 #[.val (.ref a), .val (.ref b)] [(.ref a)])) _
  have Ks54 := own_since (a := a) X54 hh (by simp)
  have N57 := Fr.app (L' := [⟨a, i154⟩, ⟨a, i254⟩, ⟨a, i354⟩]) N38 (fun y hy => by simp at hy; rcases hy with rfl | rfl | rfl <;> exact ga)
  have E54 := E0.keep Ks54.1
  have Un54 := Ks54.2 U0
  have Zz54 := Nat.le_trans Z0 Ks54.1.1
  have Oo54 := O0.keep Ks54.1 (allS ga all0)
  have Kk54 := Ks54.1
  refine GoOn.step (fun tq kq => XS.pop X54.here hx rfl (hb hby own_d16) rfl rfl kq) ?_
  show GoOn p e below (T54.setTop (mkF m 28 #[.val (.ref a), .val (.ref b)] [])) _
  refine GoOn.step (fun tq kq => XS.aloadN X54.here hx rfl (hb hby own_d17) rfl rfl kq) ?_
  show GoOn p e below (T54.setTop (mkF m 29 #[.val (.ref a), .val (.ref b)] [(.ref a)])) _
  refine GoOn.step (fun tq kq => XS.aloadN X54.here hx rfl (hb hby own_d18) rfl rfl kq) ?_
  show GoOn p e below (T54.setTop (mkF m 30 #[.val (.ref a), .val (.ref b)] [(.ref b), (.ref a)])) _
  obtain ⟨T58, h58, X58, e58, W58, st58⟩ := putF X54 hx hZ hown (host := "") (Or.inl (hw _ (List.mem_of_getElem? (i := 187) rfl))) Via.refl rfl Fm54 E54 (Or.inl (hw _ (List.mem_of_getElem? (i := 183) rfl))) (hw _ (List.mem_of_getElem? (i := 18) rfl)) (ty := (.object "java/lang/String")) (by decide) rfl rfl (g := (mkF m 30 #[.val (.ref a), .val (.ref b)] [(.ref b), (.ref a)])) rfl rfl (hb hby own_d19)
  have N59 := Fr.snoc X58 N57 ga
  have Kx58 : Keep T54.heap h58 [a] := Keep.of_wr W58
  have F60 : Fld Z h58 a "java/lang/Throwable" "detailMessage" "Ljava/lang/String;" (.ref b) := Fm54.same W58
  have F61 : Fld Z h58 a "java/lang/Throwable" "cause" "Ljava/lang/Throwable;" (.ref a) := Fc54.other W58 (Or.inr (slot_ne (a0 := a0) (Or.inl (hw _ (List.mem_of_getElem? (i := 153) rfl))) (Or.inl (hw _ (List.mem_of_getElem? (i := 183) rfl))) (by decide) (t := (.object "java/lang/Throwable")) (t' := (.object "java/lang/String")) (by decide) (by decide)))
  refine GoOn.step st58 ?_
  have E62 : Exa Z h58 a "com/example/faktorwerk/faktorwerk/model/InputRefusedException" := E54.keep Kx58
  have Z63 : n0 ≤ h58.size := Nat.le_trans Zz54 Kx58.1
  have O64 : Old Z n0 h58 := Oo54.keep Kx58 (allS ga all0)
  have K65 : Keep h0 h58 [a] := Kk54.trans Kx58 ((allS (Or.inl (by simp)) all0))
  show GoOn p e below (T58.setTop (mkF m 33 #[.val (.ref a), .val (.ref b)] [])) _
  have Un68 : Unt T58.heap a := (own_since (a := a) X58 hh (by simp)).2 U0
  rw [e58] at Un68
  refine GoOn.ret X58 Bd.notSynchronized (v := none) (fun _ => rfl) (fun fs hr => X58.returnOut hx Bd.returns (hb hby own_d20) hr) (by decide) (by decide) ?_
  rw [e58]
  exact ⟨rfl, N59, K65, E62, Un68, F61, F60⟩
set_option maxRecDepth 65536 in
set_option maxHeartbeats 40000000 in
theorem rmExc (l : Launch) (Z : State) (a0 : Array Value) (hw : ∀ d ∈ tables_1, d.before a0 Z = true) (a b : Addr) (u0 w0 : Value) (h0 : Heap) (n0 : Nat) (Z0 : n0 ≤ h0.size) (hST : l.stackTraces = true) (SU : Sta Z Z.heap "java/lang/Throwable" "UNASSIGNED_STACK" "[Ljava/lang/StackTraceElement;" u0) (rU : u0.isRef = true) (SS : Sta Z Z.heap "java/lang/Throwable" "SUPPRESSED_SENTINEL" "Ljava/util/List;" w0) (rS : w0.isRef = true) (E0 : Exa Z h0 a "com/example/faktorwerk/faktorwerk/model/InputRefusedException") (U0 : Unt h0 a) (F0ca : Fld Z h0 a "java/lang/Throwable" "cause" "Ljava/lang/Throwable;" .null) (F0st : Fld Z h0 a "java/lang/Throwable" "stackTrace" "[Ljava/lang/StackTraceElement;" .null) (F0su : Fld Z h0 a "java/lang/Throwable" "suppressedExceptions" "Ljava/util/List;" .null) (F0ba : Fld Z h0 a "java/lang/Throwable" "backtrace" "Ljava/lang/Object;" .null) (F0de : Fld Z h0 a "java/lang/Throwable" "detailMessage" "Ljava/lang/String;" .null) (ga : n0 ≤ a) (O0 : Old Z n0 h0) :
    MetFree l (⟨"java/lang/Exception", "<init>", "(Ljava/lang/String;)V"⟩ : MethodName) (head1 [Jvm.Cond.code (⟨"java/lang/Exception", "<init>", "(Ljava/lang/String;)V"⟩ : MethodName) jdk_59_method_2_code 2 none] ({ frames := 4, cells := 1, slots := 2752, locals := 55 } : Room)) (fun aa U => aa = #[(.ref a), (.ref b)] ∧ Z.Warmed39 U.vm ∧ U.heap = h0) (fun _ _ bl s _ => s.vm.MethodsKnown ∧ s.vm.FramesKnown bl) (fun _ U o U' => ∃ v L, o = .returned v ∧ QThr Z a b h0 n0 v U'.heap L ∧ FrameEnd U o U' L ({ frames := 4, cells := 1, slots := 2752, locals := 55 } : Room).cells ({ frames := 4, cells := 1, slots := 2752, locals := 55 } : Room).slots) := by
  refine MetFree.of_bodySF (plainFor_of_name own_pn22) hisR ?_
  intro p e s m args below meth c s₁ Bd hml0 hP hK
  obtain ⟨rfl, hZ, hh⟩ := hP
  have hx := Bd.exec
  have hby := Bd.bytes
  have hml : c.maxLocals = 2 := hml0
  have hown : s.vm.findClass "java/lang/Exception" = some m.cls := findClass_of_methodNamed Bd.named
  have hnm := (name_of_methodNamed Bd.named Bd.method).1
  have X0 : Stand p l e ({ frames := 4, cells := 1, slots := 2752, locals := 55 } : Room) s m #[(.ref a), (.ref b)] below meth c s₁ [] 0 0 := Stand.of_body Bd
  have e0 : s₁.heap = h0 := by rw [← hh, Bd.state]; rfl
  have N0 := Fr.nil n0
  have K0 : Keep h0 h0 [] := Keep.refl _ _
  show GoOn p e below (s₁.setTop (entryFrame m #[(.ref a), (.ref b)] 2)) (PostN s (QThr Z a b h0 n0) ({ frames := 4, cells := 1, slots := 2752, locals := 55 } : Room).cells ({ frames := 4, cells := 1, slots := 2752, locals := 55 } : Room).slots)
  refine GoOn.step (fun tq kq => castTop (own_ef21 m a b) kq) ?_
  show GoOn p e below (s₁.setTop (mkF m 0 #[.val (.ref a), .val (.ref b)] [])) _
  have K0a : Keep h0 h0 [a] := Keep.refl _ _
  refine GoOn.step (fun tq kq => XS.aloadN X0.here hx rfl (hb hby own_d23) rfl rfl kq) ?_
  show GoOn p e below (s₁.setTop (mkF m 1 #[.val (.ref a), .val (.ref b)] [(.ref a)])) _
  refine GoOn.step (fun tq kq => XS.aloadN X0.here hx rfl (hb hby own_d24) rfl rfl kq) ?_
  show GoOn p e below (s₁.setTop (mkF m 2 #[.val (.ref a), .val (.ref b)] [(.ref b), (.ref a)])) _
  obtain ⟨_, _, ⟨T69, L69, k69, n69⟩, -, X69, ⟨Lc69, hQ69, l69, y69, z69⟩, st69⟩ := X0.specialBack hx (y := (⟨"java/lang/Throwable", "<init>", "(Ljava/lang/String;)V"⟩ : MethodName)) rfl hown (mvT hZ (hw _ (List.mem_of_getElem? (i := 145) rfl))) (mvT hZ (hw _ (List.mem_of_getElem? (i := 146) rfl))) (mvT hZ (hw _ (List.mem_of_getElem? (i := 150) rfl))) (by decide) (backOfKL (W := 0) (rmThr l Z a0 hw a b u0 w0 h0 n0 Z0 hST SU rU SS rS E0 U0 F0ca F0st F0su F0ba F0de ga O0) hZ (hw _ (List.mem_of_getElem? (i := 150) rfl)) (hw _ (List.mem_of_getElem? (i := 149) rfl)) (by decide) (by decide) hK.1 hK.2) (g := (mkF m 2 #[.val (.ref a), .val (.ref b)] [(.ref b), (.ref a)])) rfl (by rw [hml]; rfl) (Steps.refl _) (a := a) (argsL := [(.ref b)]) (rest := []) (lenOf own_pd26 rfl) rfl (by show 2 * 0 + _ ≤ _; exact Nat.le_of_eq rfl) (hb hby own_d25) (fun _ _ => ⟨rfl, e0, (by decide : 0 + 1 ≤ _), (by decide : 0 + 2752 ≤ _)⟩)
  dsimp only [Pt.U, Pt.locs, Pt.cells, Pt.slots] at X69 l69 y69 z69 st69 hQ69
  subst l69 y69 z69
  obtain ⟨rfl, N69, K69, E69, Un69, Fc69, Fm69⟩ := hQ69
  refine GoOn.trans st69 ?_
  have N70 := Fr.app N0 N69
  have E71 : Exa Z T69.heap a "com/example/faktorwerk/faktorwerk/model/InputRefusedException" := E0.keep K69
  have O78 : Old Z n0 T69.heap := O0.keep K69 (allS ga all0)
  have Z79 : n0 ≤ T69.heap.size := Nat.le_trans Z0 K69.1
  have K80 : Keep h0 T69.heap [a] := K0a.trans K69 ((allS (Or.inl (by simp)) all0))
  show GoOn p e below (T69.setTop (mkF m 5 #[.val (.ref a), .val (.ref b)] [])) _
  refine GoOn.ret X69 Bd.notSynchronized (v := none) (fun _ => rfl) (fun fs hr => X69.returnOut hx Bd.returns (hb hby own_d27) hr) (by decide) (by decide) ?_
  exact ⟨rfl, N70, K80, E69, Un69, Fc69, Fm69⟩
set_option maxRecDepth 65536 in
set_option maxHeartbeats 40000000 in
theorem rmIRE (l : Launch) (Z : State) (a0 : Array Value) (hw : ∀ d ∈ tables_1, d.before a0 Z = true) (a b : Addr) (u0 w0 : Value) (h0 : Heap) (n0 : Nat) (Z0 : n0 ≤ h0.size) (hST : l.stackTraces = true) (SU : Sta Z Z.heap "java/lang/Throwable" "UNASSIGNED_STACK" "[Ljava/lang/StackTraceElement;" u0) (rU : u0.isRef = true) (SS : Sta Z Z.heap "java/lang/Throwable" "SUPPRESSED_SENTINEL" "Ljava/util/List;" w0) (rS : w0.isRef = true) (E0 : Exa Z h0 a "com/example/faktorwerk/faktorwerk/model/InputRefusedException") (U0 : Unt h0 a) (F0ca : Fld Z h0 a "java/lang/Throwable" "cause" "Ljava/lang/Throwable;" .null) (F0st : Fld Z h0 a "java/lang/Throwable" "stackTrace" "[Ljava/lang/StackTraceElement;" .null) (F0su : Fld Z h0 a "java/lang/Throwable" "suppressedExceptions" "Ljava/util/List;" .null) (F0ba : Fld Z h0 a "java/lang/Throwable" "backtrace" "Ljava/lang/Object;" .null) (F0de : Fld Z h0 a "java/lang/Throwable" "detailMessage" "Ljava/lang/String;" .null) (ga : n0 ≤ a) (O0 : Old Z n0 h0) :
    MetFree l (⟨"com/example/faktorwerk/faktorwerk/model/InputRefusedException", "<init>", "(Ljava/lang/String;)V"⟩ : MethodName) (head1 [Jvm.Cond.code (⟨"com/example/faktorwerk/faktorwerk/model/InputRefusedException", "<init>", "(Ljava/lang/String;)V"⟩ : MethodName) prog_52_method_1_code 2 none] ({ frames := 5, cells := 1, slots := 2752, locals := 68 } : Room)) (fun aa U => aa = #[(.ref a), (.ref b)] ∧ Z.Warmed39 U.vm ∧ U.heap = h0) (fun _ _ bl s _ => s.vm.MethodsKnown ∧ s.vm.FramesKnown bl) (fun _ U o U' => ∃ v L, o = .returned v ∧ QThr Z a b h0 n0 v U'.heap L ∧ FrameEnd U o U' L ({ frames := 5, cells := 1, slots := 2752, locals := 68 } : Room).cells ({ frames := 5, cells := 1, slots := 2752, locals := 68 } : Room).slots) := by
  refine MetFree.of_bodySF (plainFor_of_name own_pn29) hisR ?_
  intro p e s m args below meth c s₁ Bd hml0 hP hK
  obtain ⟨rfl, hZ, hh⟩ := hP
  have hx := Bd.exec
  have hby := Bd.bytes
  have hml : c.maxLocals = 2 := hml0
  have hown : s.vm.findClass "com/example/faktorwerk/faktorwerk/model/InputRefusedException" = some m.cls := findClass_of_methodNamed Bd.named
  have hnm := (name_of_methodNamed Bd.named Bd.method).1
  have X0 : Stand p l e ({ frames := 5, cells := 1, slots := 2752, locals := 68 } : Room) s m #[(.ref a), (.ref b)] below meth c s₁ [] 0 0 := Stand.of_body Bd
  have e0 : s₁.heap = h0 := by rw [← hh, Bd.state]; rfl
  have N0 := Fr.nil n0
  have K0 : Keep h0 h0 [] := Keep.refl _ _
  show GoOn p e below (s₁.setTop (entryFrame m #[(.ref a), (.ref b)] 2)) (PostN s (QThr Z a b h0 n0) ({ frames := 5, cells := 1, slots := 2752, locals := 68 } : Room).cells ({ frames := 5, cells := 1, slots := 2752, locals := 68 } : Room).slots)
  refine GoOn.step (fun tq kq => castTop (own_ef28 m a b) kq) ?_
  show GoOn p e below (s₁.setTop (mkF m 0 #[.val (.ref a), .val (.ref b)] [])) _
  have K0a : Keep h0 h0 [a] := Keep.refl _ _
  refine GoOn.step (fun tq kq => XS.aloadN X0.here hx rfl (hb hby own_d30) rfl rfl kq) ?_
  show GoOn p e below (s₁.setTop (mkF m 1 #[.val (.ref a), .val (.ref b)] [(.ref a)])) _
  refine GoOn.step (fun tq kq => XS.aloadN X0.here hx rfl (hb hby own_d31) rfl rfl kq) ?_
  show GoOn p e below (s₁.setTop (mkF m 2 #[.val (.ref a), .val (.ref b)] [(.ref b), (.ref a)])) _
  obtain ⟨_, _, ⟨T81, L81, k81, n81⟩, -, X81, ⟨Lc81, hQ81, l81, y81, z81⟩, st81⟩ := X0.specialBack hx (y := (⟨"java/lang/Exception", "<init>", "(Ljava/lang/String;)V"⟩ : MethodName)) rfl hown (mvT hZ (hw _ (List.mem_of_getElem? (i := 140) rfl))) (mvT hZ (hw _ (List.mem_of_getElem? (i := 141) rfl))) (mvT hZ (hw _ (List.mem_of_getElem? (i := 144) rfl))) (by decide) (backOfKL (W := 0) (rmExc l Z a0 hw a b u0 w0 h0 n0 Z0 hST SU rU SS rS E0 U0 F0ca F0st F0su F0ba F0de ga O0) hZ (hw _ (List.mem_of_getElem? (i := 144) rfl)) (hw _ (List.mem_of_getElem? (i := 143) rfl)) (by decide) (by decide) hK.1 hK.2) (g := (mkF m 2 #[.val (.ref a), .val (.ref b)] [(.ref b), (.ref a)])) rfl (by rw [hml]; rfl) (Steps.refl _) (a := a) (argsL := [(.ref b)]) (rest := []) (lenOf own_pd26 rfl) rfl (by show 2 * 0 + _ ≤ _; exact Nat.le_of_eq rfl) (hb hby own_d32) (fun _ _ => ⟨rfl, e0, (by decide : 0 + 1 ≤ _), (by decide : 0 + 2752 ≤ _)⟩)
  dsimp only [Pt.U, Pt.locs, Pt.cells, Pt.slots] at X81 l81 y81 z81 st81 hQ81
  subst l81 y81 z81
  obtain ⟨rfl, N81, K81, E81, Un81, Fc81, Fm81⟩ := hQ81
  refine GoOn.trans st81 ?_
  have N82 := Fr.app N0 N81
  have E83 : Exa Z T81.heap a "com/example/faktorwerk/faktorwerk/model/InputRefusedException" := E0.keep K81
  have O90 : Old Z n0 T81.heap := O0.keep K81 (allS ga all0)
  have Z91 : n0 ≤ T81.heap.size := Nat.le_trans Z0 K81.1
  have K92 : Keep h0 T81.heap [a] := K0a.trans K81 ((allS (Or.inl (by simp)) all0))
  show GoOn p e below (T81.setTop (mkF m 5 #[.val (.ref a), .val (.ref b)] [])) _
  refine GoOn.ret X81 Bd.notSynchronized (v := none) (fun _ => rfl) (fun fs hr => X81.returnOut hx Bd.returns (hb hby own_d33) hr) (by decide) (by decide) ?_
  exact ⟨rfl, N82, K92, E81, Un81, Fc81, Fm81⟩
set_option maxRecDepth 65536 in
set_option maxHeartbeats 40000000 in
theorem rmCanEnc (l : Launch) (Z : State) (a0 : Array Value) (hw : ∀ d ∈ tables_1, d.before a0 Z = true) (x : Int32) (h0 : Heap) (n0 : Nat) (Z0 : n0 ≤ h0.size) (hx1 : ¬ x < 0) (hx2 : ¬ (255 : Int32) < x) :
    MetFree l (⟨"java/lang/StringLatin1", "canEncode", "(C)Z"⟩ : MethodName) (head1 [Jvm.Cond.code (⟨"java/lang/StringLatin1", "canEncode", "(C)Z"⟩ : MethodName) jdk_43_method_3_code 1 (some .boolean)] ({ frames := 0, cells := 0, slots := 0, locals := 0 } : Room)) (fun aa U => aa = #[(.int x)] ∧ Z.Warmed39 U.vm ∧ U.heap = h0) (fun _ _ _ _ _ => True) (fun _ U o U' => ∃ v L, o = .returned v ∧ QSame (.int 1) h0 n0 v U'.heap L ∧ FrameEnd U o U' L ({ frames := 0, cells := 0, slots := 0, locals := 0 } : Room).cells ({ frames := 0, cells := 0, slots := 0, locals := 0 } : Room).slots) := by
  refine MetFree.of_bodySF (plainFor_of_name own_pn35) hisR ?_
  intro p e s m args below meth c s₁ Bd hml0 hP hK
  obtain ⟨rfl, hZ, hh⟩ := hP
  have hx := Bd.exec
  have hby := Bd.bytes
  have hml : c.maxLocals = 1 := hml0
  have hown : s.vm.findClass "java/lang/StringLatin1" = some m.cls := findClass_of_methodNamed Bd.named
  have hnm := (name_of_methodNamed Bd.named Bd.method).1
  have X0 : Stand p l e ({ frames := 0, cells := 0, slots := 0, locals := 0 } : Room) s m #[(.int x)] below meth c s₁ [] 0 0 := Stand.of_body Bd
  have e0 : s₁.heap = h0 := by rw [← hh, Bd.state]; rfl
  have N0 := Fr.nil n0
  have K0 : Keep h0 h0 [] := Keep.refl _ _
  show GoOn p e below (s₁.setTop (entryFrame m #[(.int x)] 1)) (PostN s (QSame (.int 1) h0 n0) ({ frames := 0, cells := 0, slots := 0, locals := 0 } : Room).cells ({ frames := 0, cells := 0, slots := 0, locals := 0 } : Room).slots)
  refine GoOn.step (fun tq kq => castTop (own_ef34 m x) kq) ?_
  show GoOn p e below (s₁.setTop (mkF m 0 #[.val (.int x)] [])) _
  refine GoOn.step (fun tq kq => XS.iloadN X0.here hx rfl (hb hby own_d36) rfl kq) ?_
  show GoOn p e below (s₁.setTop (mkF m 1 #[.val (.int x)] [(.int x)])) _
  refine GoOn.step (fun tq kq => XS.sipush X0.here hx rfl (hb hby own_d37) kq) ?_
  show GoOn p e below (s₁.setTop (mkF m 4 #[.val (.int x)] [(.int (255 : Int32)), (.int x)])) _
  refine GoOn.step (fun tq kq => XS.icmpNo X0.here hx rfl (hb hby own_d38) rfl (flt hx2).2.2.1 kq) ?_
  show GoOn p e below (s₁.setTop (mkF m 7 #[.val (.int x)] [])) _
  refine GoOn.step (fun tq kq => XS.iconst X0.here hx rfl (hb hby own_d39) kq) ?_
  show GoOn p e below (s₁.setTop (mkF m 8 #[.val (.int x)] [(.int (1 : Int32))])) _
  refine GoOn.step (fun tq kq => XS.goto X0.here hx rfl (pc0 := 8) (pc' := 12) rfl (hb hby own_d40) (by decide) (by decide) kq) ?_
  show GoOn p e below (s₁.setTop (mkF m 12 #[.val (.int x)] [(.int (1 : Int32))])) _
  refine GoOn.ret X0 Bd.notSynchronized (v := some (.int (nar .boolean (1 : Int32)))) (fun h => by rw [Bd.returns] at h; cases h) (fun fs hr => retN X0 hx (t := .boolean) Bd.returns (by simp) (hb hby own_d41) hr) (by decide) (by decide) ?_
  rw [e0]
  exact ⟨rfl, N0, rfl⟩
theorem nar_byte2 (x : Int32) : nar .byte (x.toInt8.toInt32) = x.toInt8.toInt32 := by simp [nar]
def QToB (Z : State) (x : Int32) (h0 : Heap) (n0 : Nat) (v : Option Value) (h : Heap) (L : List Loc) : Prop := ∃ (t : Addr) (kb : ClassId), v = some (.ref t) ∧ Fr n0 L ∧ Keep h0 h [] ∧ h0.size ≤ t ∧ Arv Z h t kb .byte (1 : Int32) [(.int (x.toInt8.toInt32))] (.int 0)
set_option maxRecDepth 65536 in
set_option maxHeartbeats 40000000 in
theorem rmToB (l : Launch) (Z : State) (a0 : Array Value) (hw : ∀ d ∈ tables_1, d.before a0 Z = true) (x : Int32) (h0 : Heap) (n0 : Nat) (Z0 : n0 ≤ h0.size) :
    MetFree l (⟨"java/lang/StringLatin1", "toBytes", "(C)[B"⟩ : MethodName) (head1 [Jvm.Cond.code (⟨"java/lang/StringLatin1", "toBytes", "(C)[B"⟩ : MethodName) jdk_43_method_46_code 1 (some (.array .byte))] ({ frames := 0, cells := 1, slots := 1, locals := 0 } : Room)) (fun aa U => aa = #[(.int x)] ∧ Z.Warmed39 U.vm ∧ U.heap = h0) (fun _ _ _ _ _ => True) (fun _ U o U' => ∃ v L, o = .returned v ∧ QToB Z x h0 n0 v U'.heap L ∧ FrameEnd U o U' L ({ frames := 0, cells := 1, slots := 1, locals := 0 } : Room).cells ({ frames := 0, cells := 1, slots := 1, locals := 0 } : Room).slots) := by
  refine MetFree.of_bodySF (plainFor_of_name own_pn35) hisR ?_
  intro p e s m args below meth c s₁ Bd hml0 hP hK
  obtain ⟨rfl, hZ, hh⟩ := hP
  have hx := Bd.exec
  have hby := Bd.bytes
  have hml : c.maxLocals = 1 := hml0
  have hown : s.vm.findClass "java/lang/StringLatin1" = some m.cls := findClass_of_methodNamed Bd.named
  have hnm := (name_of_methodNamed Bd.named Bd.method).1
  have X0 : Stand p l e ({ frames := 0, cells := 1, slots := 1, locals := 0 } : Room) s m #[(.int x)] below meth c s₁ [] 0 0 := Stand.of_body Bd
  have e0 : s₁.heap = h0 := by rw [← hh, Bd.state]; rfl
  have N0 := Fr.nil n0
  have K0 : Keep h0 h0 [] := Keep.refl _ _
  show GoOn p e below (s₁.setTop (entryFrame m #[(.int x)] 1)) (PostN s (QToB Z x h0 n0) ({ frames := 0, cells := 1, slots := 1, locals := 0 } : Room).cells ({ frames := 0, cells := 1, slots := 1, locals := 0 } : Room).slots)
  refine GoOn.step (fun tq kq => castTop (own_ef42 m x) kq) ?_
  show GoOn p e below (s₁.setTop (mkF m 0 #[.val (.int x)] [])) _
  refine GoOn.step (fun tq kq => XS.iconst X0.here hx rfl (hb hby own_d43) kq) ?_
  show GoOn p e below (s₁.setTop (mkF m 1 #[.val (.int x)] [(.int (1 : Int32))])) _
  obtain ⟨T93, h93, k93, X93, e93, Ex93, A93, st93⟩ := newP X0 hx hZ (hw _ (List.mem_of_getElem? (i := 8) rfl)) e0 (g := (mkF m 1 #[.val (.int x)] [(.int (1 : Int32))])) rfl (hb hby own_d44) rfl (by decide) (cap := 1) (by decide) (by decide) (by decide) (by decide)
  obtain ⟨t, g93⟩ : ∃ z, z = h0.size := ⟨_, rfl⟩
  rw [← g93] at A93 st93
  have gn94 : n0 ≤ t := Nat.le_trans Z0 (Nat.le_of_eq g93.symm)
  have sz95 : h0.size ≤ t := Nat.le_trans K0.1 (Nat.le_of_eq g93.symm)
  have Kx93 : Keep h0 h93 [] := (Keep.refl _ _).ext Ex93
  refine GoOn.step st93 ?_
  have Z96 : n0 ≤ h93.size := Nat.le_trans Z0 Kx93.1
  have K97 : Keep h0 h93 [] := K0.trans Kx93 (all0)
  have V98 : Arv Z h93 t k93 .byte (1 : Int32) [] (.int (0 : Int32)) := Arv.new A93 (by decide)
  show GoOn p e below (T93.setTop (mkF m 3 #[.val (.int x)] [(.ref t)])) _
  refine GoOn.step (fun tq kq => XS.dup X93.here hx rfl (hb hby own_d45) rfl rfl kq) ?_
  show GoOn p e below (T93.setTop (mkF m 4 #[.val (.int x)] [(.ref t), (.ref t)])) _
  refine GoOn.step (fun tq kq => XS.iconst X93.here hx rfl (hb hby own_d46) kq) ?_
  show GoOn p e below (T93.setTop (mkF m 5 #[.val (.int x)] [(.int (0 : Int32)), (.ref t), (.ref t)])) _
  refine GoOn.step (fun tq kq => XS.iloadN X93.here hx rfl (hb hby own_d47) rfl kq) ?_
  show GoOn p e below (T93.setTop (mkF m 6 #[.val (.int x)] [(.int x), (.int (0 : Int32)), (.ref t), (.ref t)])) _
  refine GoOn.step (fun tq kq => XS.i2b X93.here hx rfl (hb hby own_d48) rfl kq) ?_
  show GoOn p e below (T93.setTop (mkF m 7 #[.val (.int x)] [(.int ((x).toInt8.toInt32)), (.int (0 : Int32)), (.ref t), (.ref t)])) _
  have V100 : Arv Z h93 t k93 .byte (1 : Int32) [(.int (0 : Int32))] (.int (0 : Int32)) := V98.pad (pad_rep [] (.int (0 : Int32)) 1)
  obtain ⟨cq101, Aq101, qq101, Sq101, Mq101, Hq101, Uq101⟩ := id V100
  obtain ⟨T99, h99, X99, e99, W99, st99⟩ := stB X93 hx hZ e93 Aq101 (j := (0 : Int32)) (inb_of Sq101 ⟨(by decide : ¬ ((0 : Int32) < (0 : Int32))), (by decide : (0 : Int32) < (1 : Int32))⟩) (g := (mkF m 7 #[.val (.int x)] [(.int ((x).toInt8.toInt32)), (.int (0 : Int32)), (.ref t), (.ref t)])) rfl rfl (hb hby own_d49)
  have N102 := Fr.snoc X99 N0 gn94
  have V103 : Arv Z h99 t k93 .byte (1 : Int32) [(.int (nar .byte ((x).toInt8.toInt32)))] (.int (0 : Int32)) := Arv.set Aq101 qq101 Sq101 Mq101 Hq101 Uq101 (fits_nar_byte _) W99 0 rfl (Nat.le_of_ble_eq_true rfl)
  have Kx99 : Keep h93 h99 [t] := Keep.of_wr W99
  refine GoOn.step st99 ?_
  have Z104 : n0 ≤ h99.size := Nat.le_trans Z96 Kx99.1
  have K105 : Keep h0 h99 [] := K97.trans Kx99 ((allS (Or.inr sz95) all0))
  show GoOn p e below (T99.setTop (mkF m 8 #[.val (.int x)] [(.ref t)])) _
  rw [nar_byte2] at V103
  refine GoOn.ret X99 Bd.notSynchronized (v := some (.ref t)) (fun h => by rw [Bd.returns] at h; cases h) (fun fs hr => retOut X99 hx Bd.returns rfl (Or.inr (Or.inr (Or.inr (Or.inr ⟨rfl, rfl, rfl⟩)))) (hb hby own_d50) hr) (by decide) (by decide) ?_
  rw [e99]
  exact ⟨t, _, rfl, N102, K105, sz95, V103⟩
def QIBB (Z : State) (a t : Addr) (h0 : Heap) (n0 : Nat) (v : Option Value) (h : Heap) (L : List Loc) : Prop := v = none ∧ Fr n0 L ∧ Keep h0 h [a] ∧ Exa Z h a "java/lang/String" ∧ Fld Z h a "java/lang/String" "value" "[B" (.ref t) ∧ Fld Z h a "java/lang/String" "coder" "B" (.int 0)
set_option maxRecDepth 65536 in
set_option maxHeartbeats 40000000 in
theorem rmIBB (l : Launch) (Z : State) (a0 : Array Value) (hw : ∀ d ∈ tables_1, d.before a0 Z = true) (a t : Addr) (h0 : Heap) (n0 : Nat) (Z0 : n0 ≤ h0.size) (E0 : Exa Z h0 a "java/lang/String") (F0v : Fld Z h0 a "java/lang/String" "value" "[B" .null) (F0c : Fld Z h0 a "java/lang/String" "coder" "B" (.int (0 : Int32))) (ga : n0 ≤ a) :
    MetFree l (⟨"java/lang/String", "<init>", "([BB)V"⟩ : MethodName) (head1 [Jvm.Cond.code (⟨"java/lang/String", "<init>", "([BB)V"⟩ : MethodName) jdk_42_method_151_code 3 none] ({ frames := 1, cells := 0, slots := 0, locals := 12 } : Room)) (fun aa U => aa = #[(.ref a), (.ref t), (.int (0 : Int32))] ∧ Z.Warmed39 U.vm ∧ U.heap = h0) (fun _ _ _ _ _ => True) (fun _ U o U' => ∃ v L, o = .returned v ∧ QIBB Z a t h0 n0 v U'.heap L ∧ FrameEnd U o U' L ({ frames := 1, cells := 0, slots := 0, locals := 12 } : Room).cells ({ frames := 1, cells := 0, slots := 0, locals := 12 } : Room).slots) := by
  refine MetFree.of_bodySF (plainFor_of_name own_pn52) hisR ?_
  intro p e s m args below meth c s₁ Bd hml0 hP hK
  obtain ⟨rfl, hZ, hh⟩ := hP
  have hx := Bd.exec
  have hby := Bd.bytes
  have hml : c.maxLocals = 3 := hml0
  have hown : s.vm.findClass "java/lang/String" = some m.cls := findClass_of_methodNamed Bd.named
  have hnm := (name_of_methodNamed Bd.named Bd.method).1
  have X0 : Stand p l e ({ frames := 1, cells := 0, slots := 0, locals := 12 } : Room) s m #[(.ref a), (.ref t), (.int (0 : Int32))] below meth c s₁ [] 0 0 := Stand.of_body Bd
  have e0 : s₁.heap = h0 := by rw [← hh, Bd.state]; rfl
  have N0 := Fr.nil n0
  have K0 : Keep h0 h0 [] := Keep.refl _ _
  show GoOn p e below (s₁.setTop (entryFrame m #[(.ref a), (.ref t), (.int (0 : Int32))] 3)) (PostN s (QIBB Z a t h0 n0) ({ frames := 1, cells := 0, slots := 0, locals := 12 } : Room).cells ({ frames := 1, cells := 0, slots := 0, locals := 12 } : Room).slots)
  refine GoOn.step (fun tq kq => castTop (own_ef51 m a t (0 : Int32)) kq) ?_
  show GoOn p e below (s₁.setTop (mkF m 0 #[.val (.ref a), .val (.ref t), .val (.int (0 : Int32))] [])) _
  have K0a : Keep h0 h0 [a] := Keep.refl _ _
  refine GoOn.step (fun tq kq => XS.aloadN X0.here hx rfl (hb hby own_d53) rfl rfl kq) ?_
  show GoOn p e below (s₁.setTop (mkF m 1 #[.val (.ref a), .val (.ref t), .val (.int (0 : Int32))] [(.ref a)])) _
  obtain ⟨T106, X106, e106, st106⟩ := initO X0 hx hZ hown (hw _ (List.mem_of_getElem? (i := 103) rfl)) (hw _ (List.mem_of_getElem? (i := 32) rfl)) (hw _ (List.mem_of_getElem? (i := 33) rfl)) e0 (g := (mkF m 1 #[.val (.ref a), .val (.ref t), .val (.int (0 : Int32))] [(.ref a)])) rfl (by rw [hml]; rfl) rfl (hb hby own_d54) (by decide) (W := 0) (by show 2 * 0 + _ ≤ _; exact Nat.le_of_eq rfl) (by decide)
  refine GoOn.step st106 ?_
  show GoOn p e below (T106.setTop (mkF m 4 #[.val (.ref a), .val (.ref t), .val (.int (0 : Int32))] [])) _
  refine GoOn.step (fun tq kq => XS.aloadN X106.here hx rfl (hb hby own_d55) rfl rfl kq) ?_
  show GoOn p e below (T106.setTop (mkF m 5 #[.val (.ref a), .val (.ref t), .val (.int (0 : Int32))] [(.ref a)])) _
  refine GoOn.step (fun tq kq => XS.aloadN X106.here hx rfl (hb hby own_d56) rfl rfl kq) ?_
  show GoOn p e below (T106.setTop (mkF m 6 #[.val (.ref a), .val (.ref t), .val (.int (0 : Int32))] [(.ref t), (.ref a)])) _
  obtain ⟨T107, h107, X107, e107, W107, st107⟩ := putF X106 hx hZ hown (host := "") (Or.inl (hw _ (List.mem_of_getElem? (i := 54) rfl))) Via.refl e106 F0v E0 (Or.inr ⟨(hw _ (List.mem_of_getElem? (i := 9) rfl)), rfl, hnm⟩) (hw _ (List.mem_of_getElem? (i := 7) rfl)) (ty := (.array .byte)) (by decide) rfl rfl (g := (mkF m 6 #[.val (.ref a), .val (.ref t), .val (.int (0 : Int32))] [(.ref t), (.ref a)])) rfl rfl (hb hby own_d57)
  have N108 := Fr.snoc X107 N0 ga
  have Kx107 : Keep h0 h107 [a] := Keep.of_wr W107
  have F109 : Fld Z h107 a "java/lang/String" "value" "[B" (.ref t) := F0v.same W107
  have F110 : Fld Z h107 a "java/lang/String" "coder" "B" (.int (0 : Int32)) := F0c.other W107 (Or.inr (slot_ne (a0 := a0) (Or.inr (hw _ (List.mem_of_getElem? (i := 10) rfl))) (Or.inr (hw _ (List.mem_of_getElem? (i := 9) rfl))) (by decide) (t := .byte) (t' := (.array .byte)) (by decide) (by decide)))
  refine GoOn.step st107 ?_
  have E111 : Exa Z h107 a "java/lang/String" := E0.keep Kx107
  have Z114 : n0 ≤ h107.size := Nat.le_trans Z0 Kx107.1
  have K115 : Keep h0 h107 [a] := K0a.trans Kx107 ((allS (Or.inl (by simp)) all0))
  show GoOn p e below (T107.setTop (mkF m 9 #[.val (.ref a), .val (.ref t), .val (.int (0 : Int32))] [])) _
  refine GoOn.step (fun tq kq => XS.aloadN X107.here hx rfl (hb hby own_d58) rfl rfl kq) ?_
  show GoOn p e below (T107.setTop (mkF m 10 #[.val (.ref a), .val (.ref t), .val (.int (0 : Int32))] [(.ref a)])) _
  refine GoOn.step (fun tq kq => XS.iloadN X107.here hx rfl (hb hby own_d59) rfl kq) ?_
  show GoOn p e below (T107.setTop (mkF m 11 #[.val (.ref a), .val (.ref t), .val (.int (0 : Int32))] [(.int (0 : Int32)), (.ref a)])) _
  obtain ⟨T116, h116, X116, e116, W116, st116⟩ := putFN X107 hx hZ hown (hw _ (List.mem_of_getElem? (i := 61) rfl)) Via.refl e107 F110 E111 (Or.inr ⟨(hw _ (List.mem_of_getElem? (i := 10) rfl)), rfl, hnm⟩) (hw _ (List.mem_of_getElem? (i := 7) rfl)) (ty := .byte) (v' := (.int (nar .byte (0 : Int32)))) (by decide) rfl (fits_nar_byte _) (g := (mkF m 11 #[.val (.ref a), .val (.ref t), .val (.int (0 : Int32))] [(.int (0 : Int32)), (.ref a)])) rfl rfl (hb hby own_d60)
  have N117 := Fr.snoc X116 N108 ga
  have Kx116 : Keep h107 h116 [a] := Keep.of_wr W116
  have F118 : Fld Z h116 a "java/lang/String" "coder" "B" (.int (nar .byte (0 : Int32))) := F110.same W116
  have F119 : Fld Z h116 a "java/lang/String" "value" "[B" (.ref t) := F109.other W116 (Or.inr (slot_ne (a0 := a0) (Or.inr (hw _ (List.mem_of_getElem? (i := 9) rfl))) (Or.inr (hw _ (List.mem_of_getElem? (i := 10) rfl))) (by decide) (t := (.array .byte)) (t' := .byte) (by decide) (by decide)))
  refine GoOn.step st116 ?_
  have E120 : Exa Z h116 a "java/lang/String" := E111.keep Kx116
  have Z121 : n0 ≤ h116.size := Nat.le_trans Z114 Kx116.1
  have K122 : Keep h0 h116 [a] := K115.trans Kx116 ((allS (Or.inl (by simp)) all0))
  show GoOn p e below (T116.setTop (mkF m 14 #[.val (.ref a), .val (.ref t), .val (.int (0 : Int32))] [])) _
  refine GoOn.ret X116 Bd.notSynchronized (v := none) (fun _ => rfl) (fun fs hr => X116.returnOut hx Bd.returns (hb hby own_d61) hr) (by decide) (by decide) ?_
  rw [e116]
  exact ⟨rfl, N117, K122, E120, F119, F118⟩
def QValC (Z : State) (x : Int32) (h0 : Heap) (n0 : Nat) (v : Option Value) (h : Heap) (L : List Loc) : Prop := ∃ a : Addr, v = some (.ref a) ∧ Fr n0 L ∧ Keep h0 h [] ∧ h0.size ≤ a ∧ StrIs Z h a [x]
set_option maxRecDepth 65536 in
set_option maxHeartbeats 40000000 in
theorem rmValueOfC (l : Launch) (Z : State) (a0 : Array Value) (hw : ∀ d ∈ tables_1, d.before a0 Z = true) (x G1 : Int32) (h0 : Heap) (n0 : Nat) (Z0 : n0 ≤ h0.size) (hx1 : ¬ x < 0) (hx2 : ¬ (255 : Int32) < x) (SC : Sta Z Z.heap "java/lang/String" "COMPACT_STRINGS" "Z" (.int G1)) (PC : ¬ G1 = (0 : Int32)) (O0 : Old Z n0 h0) :
    MetFree l (⟨"java/lang/String", "valueOf", "(C)Ljava/lang/String;"⟩ : MethodName) (head1 [Jvm.Cond.code (⟨"java/lang/String", "valueOf", "(C)Ljava/lang/String;"⟩ : MethodName) jdk_42_method_139_code 1 (some (.object "java/lang/String"))] ({ frames := 2, cells := 2, slots := 5, locals := 27 } : Room)) (fun aa U => aa = #[(.int x)] ∧ Z.Warmed39 U.vm ∧ U.heap = h0) (fun _ _ _ _ _ => True) (fun _ U o U' => ∃ v L, o = .returned v ∧ QValC Z x h0 n0 v U'.heap L ∧ FrameEnd U o U' L ({ frames := 2, cells := 2, slots := 5, locals := 27 } : Room).cells ({ frames := 2, cells := 2, slots := 5, locals := 27 } : Room).slots) := by
  refine MetFree.of_bodySF (plainFor_of_name own_pn52) hisR ?_
  intro p e s m args below meth c s₁ Bd hml0 hP hK
  obtain ⟨rfl, hZ, hh⟩ := hP
  have hx := Bd.exec
  have hby := Bd.bytes
  have hml : c.maxLocals = 1 := hml0
  have hown : s.vm.findClass "java/lang/String" = some m.cls := findClass_of_methodNamed Bd.named
  have hnm := (name_of_methodNamed Bd.named Bd.method).1
  have X0 : Stand p l e ({ frames := 2, cells := 2, slots := 5, locals := 27 } : Room) s m #[(.int x)] below meth c s₁ [] 0 0 := Stand.of_body Bd
  have e0 : s₁.heap = h0 := by rw [← hh, Bd.state]; rfl
  have N0 := Fr.nil n0
  have K0 : Keep h0 h0 [] := Keep.refl _ _
  show GoOn p e below (s₁.setTop (entryFrame m #[(.int x)] 1)) (PostN s (QValC Z x h0 n0) ({ frames := 2, cells := 2, slots := 5, locals := 27 } : Room).cells ({ frames := 2, cells := 2, slots := 5, locals := 27 } : Room).slots)
  refine GoOn.step (fun tq kq => castTop (own_ef62 m x) kq) ?_
  show GoOn p e below (s₁.setTop (mkF m 0 #[.val (.int x)] [])) _
  obtain ⟨T125, X125, e125, st125⟩ := getS2 X0 hx hZ hown (host := "") (Or.inl (hw _ (List.mem_of_getElem? (i := 60) rfl))) Via.refl e0 (SC.ext O0.2) (g := (mkF m 0 #[.val (.int x)] [])) rfl (hb hby own_d63)
  refine GoOn.step st125 ?_
  show GoOn p e below (T125.setTop (mkF m 3 #[.val (.int x)] [(.int G1)])) _
  refine GoOn.step (fun tq kq => XS.ifNo X125.here hx rfl (hb hby own_d64) rfl ((if0 _ _).trans (feq PC).1) kq) ?_
  show GoOn p e below (T125.setTop (mkF m 6 #[.val (.int x)] [])) _
  refine GoOn.step (fun tq kq => XS.iloadN X125.here hx rfl (hb hby own_d65) rfl kq) ?_
  show GoOn p e below (T125.setTop (mkF m 7 #[.val (.int x)] [(.int x)])) _
  obtain ⟨_, _, ⟨T126, L126, k126, n126⟩, -, X126, ⟨Lc126, hQ126, l126, y126, z126⟩, st126⟩ := Jvm.LawKit.callS X125 hx (y := (⟨"java/lang/StringLatin1", "canEncode", "(C)Z"⟩ : MethodName)) hown (mvT hZ (hw _ (List.mem_of_getElem? (i := 226) rfl))) (mvT hZ (hw _ (List.mem_of_getElem? (i := 227) rfl))) (mvT hZ (hw _ (List.mem_of_getElem? (i := 213) rfl))) (mvT hZ (hw _ (List.mem_of_getElem? (i := 228) rfl))) (by decide) (backOf (W := 0) (rmCanEnc l Z a0 hw x h0 n0 Z0 hx1 hx2) hZ (hw _ (List.mem_of_getElem? (i := 228) rfl)) (hw _ (List.mem_of_getElem? (i := 213) rfl)) (by decide) (by decide)) (g := (mkF m 7 #[.val (.int x)] [(.int x)])) rfl (by rw [hml]; rfl) (argsL := [(.int x)]) (rest := []) (lenOf own_pd67 rfl) rfl (by show 2 * 0 + _ ≤ _; exact Nat.le_of_eq rfl) (hb hby own_d66) (fun _ _ => ⟨rfl, e125, (by decide : 0 + 0 ≤ _), (by decide : 0 + 0 ≤ _)⟩)
  dsimp only [Pt.U, Pt.locs, Pt.cells, Pt.slots] at X126 l126 y126 z126 st126 hQ126
  subst l126 y126 z126
  obtain ⟨rfl, N126, e126⟩ := hQ126
  refine GoOn.step st126 ?_
  have N127 := Fr.app N0 N126
  show GoOn p e below (T126.setTop (mkF m 10 #[.val (.int x)] [(.int (1 : Int32))])) _
  refine GoOn.step (fun tq kq => XS.ifNo X126.here hx rfl (hb hby own_d68) rfl ((if0 _ _).trans (feq (by decide)).1) kq) ?_
  show GoOn p e below (T126.setTop (mkF m 13 #[.val (.int x)] [])) _
  obtain ⟨T128, h128, X128, e128, Ex128, A128, Df128, Nu128, st128⟩ := newO X126 hx hZ hown (hw _ (List.mem_of_getElem? (i := 229) rfl)) (hw _ (List.mem_of_getElem? (i := 7) rfl)) (hw _ (List.mem_of_getElem? (i := 6) rfl)) e126 (g := (mkF m 13 #[.val (.int x)] [])) rfl (hb hby own_d69) (by decide) (by decide)
  obtain ⟨sb, g128⟩ : ∃ z, z = h0.size := ⟨_, rfl⟩
  rw [← g128] at A128 Df128 Nu128 st128
  have gn129 : n0 ≤ sb := Nat.le_trans Z0 (Nat.le_of_eq g128.symm)
  have sz130 : h0.size ≤ sb := Nat.le_trans K0.1 (Nat.le_of_eq g128.symm)
  have Kx128 : Keep h0 h128 [] := (Keep.refl _ _).ext Ex128
  refine GoOn.step st128 ?_
  have O131 : Old Z n0 h128 := O0.keep Kx128 all0
  have Z132 : n0 ≤ h128.size := Nat.le_trans Z0 Kx128.1
  have K133 : Keep h0 h128 [] := K0.trans Kx128 (all0)
  have F134 : Fld Z h128 sb "java/lang/String" "value" "[B" .null := Df128 (Or.inr (hw _ (List.mem_of_getElem? (i := 9) rfl))) (ty := (.array .byte)) (by decide)
  have F135 : Fld Z h128 sb "java/lang/String" "coder" "B" (.int (0 : Int32)) := Df128 (Or.inr (hw _ (List.mem_of_getElem? (i := 10) rfl))) (ty := .byte) (by decide)
  show GoOn p e below (T128.setTop (mkF m 16 #[.val (.int x)] [(.ref sb)])) _
  refine GoOn.step (fun tq kq => XS.dup X128.here hx rfl (hb hby own_d70) rfl rfl kq) ?_
  show GoOn p e below (T128.setTop (mkF m 17 #[.val (.int x)] [(.ref sb), (.ref sb)])) _
  refine GoOn.step (fun tq kq => XS.iloadN X128.here hx rfl (hb hby own_d71) rfl kq) ?_
  show GoOn p e below (T128.setTop (mkF m 18 #[.val (.int x)] [(.int x), (.ref sb), (.ref sb)])) _
  obtain ⟨_, _, ⟨T136, L136, k136, n136⟩, -, X136, ⟨Lc136, hQ136, l136, y136, z136⟩, st136⟩ := Jvm.LawKit.callS X128 hx (y := (⟨"java/lang/StringLatin1", "toBytes", "(C)[B"⟩ : MethodName)) hown (mvT hZ (hw _ (List.mem_of_getElem? (i := 230) rfl))) (mvT hZ (hw _ (List.mem_of_getElem? (i := 231) rfl))) (mvT hZ (hw _ (List.mem_of_getElem? (i := 213) rfl))) (mvT hZ (hw _ (List.mem_of_getElem? (i := 232) rfl))) (by decide) (backOf (W := 2) (rmToB l Z a0 hw x h128 n0 Z132) hZ (hw _ (List.mem_of_getElem? (i := 232) rfl)) (hw _ (List.mem_of_getElem? (i := 213) rfl)) (by decide) (by decide)) (g := (mkF m 18 #[.val (.int x)] [(.int x), (.ref sb), (.ref sb)])) rfl (by rw [hml]; rfl) (argsL := [(.int x)]) (rest := [(.ref sb), (.ref sb)]) (lenOf own_pd73 rfl) rfl (by show 2 * 0 + _ ≤ _; exact Nat.le_of_eq rfl) (hb hby own_d72) (fun _ _ => ⟨rfl, e128, (by decide : 1 + 1 ≤ _), (by decide : 4 + 1 ≤ _)⟩)
  dsimp only [Pt.U, Pt.locs, Pt.cells, Pt.slots] at X136 l136 y136 z136 st136 hQ136
  subst l136 y136 z136
  obtain ⟨t136, kb136, rfl, N136, K136, ge136, Va136⟩ := hQ136
  refine GoOn.step st136 ?_
  have N137 := Fr.app N127 N136
  have gn138 : n0 ≤ t136 := Nat.le_trans Z132 ge136
  have sz139 : h0.size ≤ t136 := Nat.le_trans K133.1 ge136
  have ne140 : sb ≠ t136 := Nat.ne_of_lt (Nat.lt_of_lt_of_le A128.lt ge136)
  have O141 : Old Z n0 T136.heap := O131.keep K136 all0
  have Z142 : n0 ≤ T136.heap.size := Nat.le_trans Z132 K136.1
  have K143 : Keep h0 T136.heap [] := K133.trans K136 (all0)
  have E144 : Exa Z T136.heap sb "java/lang/String" := A128.keep K136
  have F145 : Fld Z T136.heap sb "java/lang/String" "value" "[B" .null := F134.keep K136 nin0
  have F146 : Fld Z T136.heap sb "java/lang/String" "coder" "B" (.int (0 : Int32)) := F135.keep K136 nin0
  show GoOn p e below (T136.setTop (mkF m 21 #[.val (.int x)] [(.ref t136), (.ref sb), (.ref sb)])) _
  refine GoOn.step (fun tq kq => XS.iconst X136.here hx rfl (hb hby own_d74) kq) ?_
  show GoOn p e below (T136.setTop (mkF m 22 #[.val (.int x)] [(.int (0 : Int32)), (.ref t136), (.ref sb), (.ref sb)])) _
  obtain ⟨_, _, ⟨T147, L147, k147, n147⟩, -, X147, ⟨Lc147, hQ147, l147, y147, z147⟩, st147⟩ := X136.specialBack hx (y := (⟨"java/lang/String", "<init>", "([BB)V"⟩ : MethodName)) rfl hown (mvT hZ (hw _ (List.mem_of_getElem? (i := 233) rfl))) (mvT hZ (hw _ (List.mem_of_getElem? (i := 234) rfl))) (mvT hZ (hw _ (List.mem_of_getElem? (i := 235) rfl))) (by decide) (backOf (W := 1) (rmIBB l Z a0 hw sb t136 T136.heap n0 Z142 E144 F145 F146 gn129) hZ (hw _ (List.mem_of_getElem? (i := 235) rfl)) (hw _ (List.mem_of_getElem? (i := 6) rfl)) (by decide) (by decide)) (g := (mkF m 22 #[.val (.int x)] [(.int (0 : Int32)), (.ref t136), (.ref sb), (.ref sb)])) rfl (by rw [hml]; rfl) (Steps.refl _) (a := sb) (argsL := [(.ref t136), (.int (0 : Int32))]) (rest := [(.ref sb)]) (lenOf own_pd76 rfl) rfl (by show 2 * 0 + _ ≤ _; exact Nat.le_of_eq rfl) (hb hby own_d75) (fun _ _ => ⟨rfl, rfl, (by decide : 2 + 0 ≤ _), (by decide : 5 + 0 ≤ _)⟩)
  dsimp only [Pt.U, Pt.locs, Pt.cells, Pt.slots] at X147 l147 y147 z147 st147 hQ147
  subst l147 y147 z147
  obtain ⟨rfl, N147, K147, E147, Fv147, Fc147⟩ := hQ147
  refine GoOn.trans st147 ?_
  have N148 := Fr.app N137 N147
  have O149 : Old Z n0 T147.heap := O141.keep K147 (allS gn129 all0)
  have Z150 : n0 ≤ T147.heap.size := Nat.le_trans Z142 K147.1
  have K151 : Keep h0 T147.heap [] := K143.trans K147 ((allS (Or.inr sz130) all0))
  have E152 : Exa Z T147.heap sb "java/lang/String" := E144.keep K147
  have V155 : Arv Z T147.heap t136 kb136 .byte (1 : Int32) [(.int (x.toInt8.toInt32))] (.int 0) := Va136.keep K147 (ninS (Ne.symm ne140) nin0)
  show GoOn p e below (T147.setTop (mkF m 25 #[.val (.int x)] [(.ref sb)])) _
  refine GoOn.ret X147 Bd.notSynchronized (v := some (.ref sb)) (fun h => by rw [Bd.returns] at h; cases h) (fun fs hr => retOut X147 hx Bd.returns rfl (Or.inr (Or.inr (Or.inr (Or.inr ⟨rfl, rfl, rfl⟩)))) (hb hby own_d77) hr) (by decide) (by decide) ?_
  exact ⟨sb, rfl, N148, K151, sz130, E147, Fc147, (fun c hc => by simp only [List.mem_cons, List.not_mem_nil, or_false] at hc; subst hc; exact ⟨hx1, hx2⟩), (Nat.le_of_ble_eq_true rfl), t136, _, Fv147, V155⟩
def QMk (Z : State) (len c0 c1 : Int32) (h0 : Heap) (n0 : Nat) (v : Option Value) (h : Heap) (L : List Loc) : Prop := ∃ a : Addr, v = some (.ref a) ∧ Fr n0 L ∧ Keep h0 h [] ∧ StrIs Z h a (if len = 0 then ([] : List Int32) else if len = 1 then [c0] else [c0, c1])
set_option maxRecDepth 65536 in
set_option maxHeartbeats 40000000 in
theorem rmMk (l : Launch) (Z : State) (a0 : Array Value) (hw : ∀ d ∈ tables_1, d.before a0 Z = true) (len c0 c1 G1 : Int32) (h0 : Heap) (n0 : Nat) (Z0 : n0 ≤ h0.size) (hb0 : ¬ c0 < 0 ∧ ¬ (255 : Int32) < c0) (hb1 : ¬ c1 < 0 ∧ ¬ (255 : Int32) < c1) (SC : Sta Z Z.heap "java/lang/String" "COMPACT_STRINGS" "Z" (.int G1)) (PC : ¬ G1 = (0 : Int32)) (O0 : Old Z n0 h0) :
    MetFree l (⟨"com/example/faktorwerk/faktorwerk/model/InputRefusedExceptionInFilePinLaw", "mk", "(ICC)Ljava/lang/String;"⟩ : MethodName) (head1 [Jvm.Cond.code (⟨"com/example/faktorwerk/faktorwerk/model/InputRefusedExceptionInFilePinLaw", "mk", "(ICC)Ljava/lang/String;"⟩ : MethodName) method_2_code 3 (some (.object "java/lang/String"))] ({ frames := 4, cells := 6, slots := 12, locals := 66 } : Room)) (fun aa U => aa = #[(.int len), (.int c0), (.int c1)] ∧ Z.Warmed39 U.vm ∧ U.heap = h0 ∧ CHv Z own_EL U.vm h0) (fun _ _ _ _ _ => True) (fun _ U o U' => ∃ v L, o = .returned v ∧ QMk Z len c0 c1 h0 n0 v U'.heap L ∧ CHr Z own_EL U.vm U.heap U'.vm U'.heap ∧ ReturnedEndW U o U' L ({ frames := 4, cells := 6, slots := 12, locals := 66 } : Room).cells ({ frames := 4, cells := 6, slots := 12, locals := 66 } : Room).slots) := by
  refine MetFree.of_bodySF (plainFor_of_name own_pn79) hisR ?_
  intro p e s m args below meth c s₁ Bd hml0 hP hK
  obtain ⟨rfl, hZ, hh, hCH⟩ := hP
  have hx := Bd.exec
  have hby := Bd.bytes
  have hml : c.maxLocals = 3 := hml0
  have hown : s.vm.findClass "com/example/faktorwerk/faktorwerk/model/InputRefusedExceptionInFilePinLaw" = some m.cls := findClass_of_methodNamed Bd.named
  have hnm := (name_of_methodNamed Bd.named Bd.method).1
  have X0 : Stand p l e ({ frames := 4, cells := 6, slots := 12, locals := 66 } : Room) s m #[(.int len), (.int c0), (.int c1)] below meth c s₁ [] 0 0 := Stand.of_body Bd
  have e0 : s₁.heap = h0 := by rw [← hh, Bd.state]; rfl
  have N0 := Fr.nil n0
  have K0 : Keep h0 h0 [] := Keep.refl _ _
  show GoOn p e below (s₁.setTop (entryFrame m #[(.int len), (.int c0), (.int c1)] 3)) (PostH Z own_EL s (QMk Z len c0 c1 h0 n0) ({ frames := 4, cells := 6, slots := 12, locals := 66 } : Room).cells ({ frames := 4, cells := 6, slots := 12, locals := 66 } : Room).slots)
  refine GoOn.step (fun tq kq => castTop (own_ef78 m len c0 c1) kq) ?_
  have hS0 : s.Since s.vm h0.size := (State.WarmedH.refl s).since _
  have hk0 : h0.size ≤ h0.size := Nat.le_refl _
  replace X0 : Stand p l e ({ frames := 4, cells := 6, slots := 12, locals := 66 } : Room) (s.setVm s.vm) m #[(.int len), (.int c0), (.int c1)] below meth c s₁ [] 0 0 := X0
  replace hZ : Z.Warmed39 (s.setVm s.vm).vm := hZ
  replace hown : (s.setVm s.vm).vm.findClass "com/example/faktorwerk/faktorwerk/model/InputRefusedExceptionInFilePinLaw" = some m.cls := hown
  have C0 : CHr Z own_EL s.vm h0 s.vm h0 := CHr.refl hCH
  have hEL : EW Z a0 own_EL := own_EW hw
  have wS : ∀ d ∈ Bundle.stringAtoms, d.before a0 Z = true := fun d hd => hw d (own_sa d hd)
  show GoOn p e below (s₁.setTop (mkF m 0 #[.val (.int len), .val (.int c0), .val (.int c1)] [])) _
  have hws : ∀ d ∈ StrChars.Road.words, d.before a0 Z = true := fun d hd => hw d ((by decide +kernel : ∀ d ∈ StrChars.Road.words, d ∈ tables_1) d hd)
  refine GoOn.step (fun tq kq => XS.iloadN X0.here hx rfl (hb hby own_d80) rfl kq) ?_
  show GoOn p e below (s₁.setTop (mkF m 1 #[.val (.int len), .val (.int c0), .val (.int c1)] [(.int len)])) _
  by_cases hc156 : len = 0
  · skip
    refine GoOn.step (fun tq kq => XS.ifNo X0.here hx rfl (hb hby own_d81) rfl ((if0 _ _).trans (teq hc156).2) kq) ?_
    show GoOn p e below (s₁.setTop (mkF m 4 #[.val (.int len), .val (.int c0), .val (.int c1)] [])) _
    obtain ⟨lt157, T157, h157, k1157, lb157, kb157, X157, e157, Ex157, hS157, hk157, hZ157, hown157, El157, Flc157, Flv157, Al157, lla157, llb157, Cn157, Lt157, Ns157, st157⟩ := ldcCH X0 hx hZ hown (hw _ (List.mem_of_getElem? (i := 5) rfl)) wS e0 hS0 hk0 hEL (by decide) C0.1 (vs := []) (z := (0 : Int32)) (by decide) (by decide) (by decide) (g := (mkF m 4 #[.val (.int len), .val (.int c0), .val (.int c1)] [])) rfl (hb hby own_d82) (n := 0) (by decide) (by decide) (by decide) (by decide)
    have Kx157 : Keep h0 h157 [] := (Keep.refl _ _).ext Ex157
    refine GoOn.step st157 ?_
    have O158 : Old Z n0 h157 := O0.keep Kx157 all0
    have Z159 : n0 ≤ h157.size := Nat.le_trans Z0 Kx157.1
    have K160 : Keep h0 h157 [] := K0.trans Kx157 all0
    have C161 : CHr Z own_EL s.vm h0 T157.vm h157 := CHr.trans C0 Cn157
    show GoOn p e below (T157.setTop (mkF m 6 #[.val (.int len), .val (.int c0), .val (.int c1)] [(.ref lt157)])) _
    have Sr162 : StrIs Z h157 lt157 [] := ⟨El157, Flc157, (fun c hc => by cases hc), (Nat.le_of_ble_eq_true rfl), lb157, kb157, Flv157, Al157⟩
    refine GoOn.retH X157 hZ157 hS157 (hk157) hEL hh e157 C161 Bd.notSynchronized (v := some (.ref lt157)) (fun h => by rw [Bd.returns] at h; cases h) (fun fs hr => retOut X157 hx Bd.returns rfl (Or.inr (Or.inr (Or.inr (Or.inr ⟨rfl, rfl, rfl⟩)))) (hb hby own_d83) hr) (by decide) (by decide) ?_
    exact ⟨_, rfl, N0, K160, by rw [if_pos hc156]; exact Sr162⟩
  · skip
    refine GoOn.step (fun tq kq => XS.ifYes X0.here hx rfl (pc0 := 1) (pc' := 7) rfl (hb hby own_d81) rfl ((if0 _ _).trans (feq hc156).2) (by decide) (by decide) kq) ?_
    show GoOn p e below (s₁.setTop (mkF m 7 #[.val (.int len), .val (.int c0), .val (.int c1)] [])) _
    refine GoOn.step (fun tq kq => XS.iloadN X0.here hx rfl (hb hby own_d84) rfl kq) ?_
    show GoOn p e below (s₁.setTop (mkF m 8 #[.val (.int len), .val (.int c0), .val (.int c1)] [(.int len)])) _
    refine GoOn.step (fun tq kq => XS.iconst X0.here hx rfl (hb hby own_d85) kq) ?_
    show GoOn p e below (s₁.setTop (mkF m 9 #[.val (.int len), .val (.int c0), .val (.int c1)] [(.int (1 : Int32)), (.int len)])) _
    by_cases hc163 : len = (1 : Int32)
    · skip
      refine GoOn.step (fun tq kq => XS.icmpNo X0.here hx rfl (hb hby own_d86) rfl (teq hc163).2 kq) ?_
      show GoOn p e below (s₁.setTop (mkF m 12 #[.val (.int len), .val (.int c0), .val (.int c1)] [])) _
      refine GoOn.step (fun tq kq => XS.iloadN X0.here hx rfl (hb hby own_d87) rfl kq) ?_
      show GoOn p e below (s₁.setTop (mkF m 13 #[.val (.int len), .val (.int c0), .val (.int c1)] [(.int c0)])) _
      obtain ⟨_, _, ⟨T164, L164, k164, n164⟩, -, X164, ⟨Lc164, hQ164, l164, y164, z164⟩, st164⟩ := Jvm.LawKit.callS X0 hx (y := (⟨"java/lang/String", "valueOf", "(C)Ljava/lang/String;"⟩ : MethodName)) hown (mvT hZ (hw _ (List.mem_of_getElem? (i := 223) rfl))) (mvT hZ (hw _ (List.mem_of_getElem? (i := 224) rfl))) (mvT hZ (hw _ (List.mem_of_getElem? (i := 6) rfl))) (mvT hZ (hw _ (List.mem_of_getElem? (i := 225) rfl))) (by decide) (backOf (W := 0) (rmValueOfC l Z a0 hw c0 G1 h0 n0 Z0 hb0.1 hb0.2 SC PC O0) hZ (hw _ (List.mem_of_getElem? (i := 225) rfl)) (hw _ (List.mem_of_getElem? (i := 6) rfl)) (by decide) (by decide)) (g := (mkF m 13 #[.val (.int len), .val (.int c0), .val (.int c1)] [(.int c0)])) rfl (by rw [hml]; rfl) (argsL := [(.int c0)]) (rest := []) (lenOf own_pd89 rfl) rfl (by show 2 * 0 + _ ≤ _; exact Nat.le_of_eq rfl) (hb hby own_d88) (fun _ _ => ⟨rfl, e0, (by decide : 0 + 2 ≤ _), (by decide : 0 + 5 ≤ _)⟩)
      dsimp only [Pt.U, Pt.locs, Pt.cells, Pt.slots] at X164 l164 y164 z164 st164 hQ164
      subst l164 y164 z164
      obtain ⟨sa164, rfl, N164, K164, ge164, S164⟩ := hQ164
      refine GoOn.step st164 ?_
      have N165 := Fr.app N0 N164
      have O166 : Old Z n0 T164.heap := O0.keep K164 all0
      have Z167 : n0 ≤ T164.heap.size := Nat.le_trans Z0 K164.1
      have K168 : Keep h0 T164.heap [] := K0.trans K164 (all0)
      have C169 : CHr Z own_EL s.vm h0 s.vm T164.heap := CHr.trans C0 (CHr.keep K164 all0 C0.1)
      have hk170 := Nat.le_trans hk0 K164.1
      show GoOn p e below (T164.setTop (mkF m 16 #[.val (.int len), .val (.int c0), .val (.int c1)] [(.ref sa164)])) _
      refine GoOn.retH X164 hZ hS0 (hk170) hEL hh rfl C169 Bd.notSynchronized (v := some (.ref sa164)) (fun h => by rw [Bd.returns] at h; cases h) (fun fs hr => retOut X164 hx Bd.returns rfl (Or.inr (Or.inr (Or.inr (Or.inr ⟨rfl, rfl, rfl⟩)))) (hb hby own_d90) hr) (by decide) (by decide) ?_
      exact ⟨_, rfl, N165, K168, by rw [if_neg hc156, if_pos hc163]; exact S164⟩
    · skip
      refine GoOn.step (fun tq kq => XS.icmpYes X0.here hx rfl (pc0 := 9) (pc' := 17) rfl (hb hby own_d86) rfl (feq hc163).2 (by decide) (by decide) kq) ?_
      show GoOn p e below (s₁.setTop (mkF m 17 #[.val (.int len), .val (.int c0), .val (.int c1)] [])) _
      obtain ⟨T171, h171, X171, e171, Ex171, A171, Df171, Nu171, st171⟩ := newO X0 hx hZ hown (hw _ (List.mem_of_getElem? (i := 236) rfl)) (hw _ (List.mem_of_getElem? (i := 7) rfl)) (hw _ (List.mem_of_getElem? (i := 6) rfl)) e0 (g := (mkF m 17 #[.val (.int len), .val (.int c0), .val (.int c1)] [])) rfl (hb hby own_d91) (by decide) (by decide)
      obtain ⟨sb, g171⟩ : ∃ z, z = h0.size := ⟨_, rfl⟩
      rw [← g171] at A171 Df171 Nu171 st171
      have gn172 : n0 ≤ sb := Nat.le_trans Z0 (Nat.le_of_eq g171.symm)
      have sz173 : h0.size ≤ sb := Nat.le_trans K0.1 (Nat.le_of_eq g171.symm)
      have Kx171 : Keep h0 h171 [] := (Keep.refl _ _).ext Ex171
      refine GoOn.step st171 ?_
      have O174 : Old Z n0 h171 := O0.keep Kx171 all0
      have Z175 : n0 ≤ h171.size := Nat.le_trans Z0 Kx171.1
      have K176 : Keep h0 h171 [] := K0.trans Kx171 (all0)
      have C177 : CHr Z own_EL s.vm h0 s.vm h171 := CHr.trans C0 (CHr.keep Kx171 all0 C0.1)
      have hk178 := Nat.le_trans hk0 Kx171.1
      have F179 : Fld Z h171 sb "java/lang/String" "value" "[B" .null := Df171 (Or.inr (hw _ (List.mem_of_getElem? (i := 9) rfl))) (ty := (.array .byte)) (by decide)
      have F180 : Fld Z h171 sb "java/lang/String" "coder" "B" (.int (0 : Int32)) := Df171 (Or.inr (hw _ (List.mem_of_getElem? (i := 10) rfl))) (ty := .byte) (by decide)
      show GoOn p e below (T171.setTop (mkF m 20 #[.val (.int len), .val (.int c0), .val (.int c1)] [(.ref sb)])) _
      refine GoOn.step (fun tq kq => XS.dup X171.here hx rfl (hb hby own_d92) rfl rfl kq) ?_
      show GoOn p e below (T171.setTop (mkF m 21 #[.val (.int len), .val (.int c0), .val (.int c1)] [(.ref sb), (.ref sb)])) _
      refine GoOn.step (fun tq kq => XS.iconst X171.here hx rfl (hb hby own_d93) kq) ?_
      show GoOn p e below (T171.setTop (mkF m 22 #[.val (.int len), .val (.int c0), .val (.int c1)] [(.int (2 : Int32)), (.ref sb), (.ref sb)])) _
      obtain ⟨T181, h181, k181, X181, e181, Ex181, A181, st181⟩ := newP X171 hx hZ (hw _ (List.mem_of_getElem? (i := 237) rfl)) e171 (g := (mkF m 22 #[.val (.int len), .val (.int c0), .val (.int c1)] [(.int (2 : Int32)), (.ref sb), (.ref sb)])) rfl (hb hby own_d94) rfl (by decide) (cap := 2) (by decide) (by decide) (by decide) (by decide)
      obtain ⟨ca, g181⟩ : ∃ z, z = h171.size := ⟨_, rfl⟩
      rw [← g181] at A181 st181
      have gn182 : n0 ≤ ca := Nat.le_trans Z175 (Nat.le_of_eq g181.symm)
      have sz183 : h0.size ≤ ca := Nat.le_trans K176.1 (Nat.le_of_eq g181.symm)
      have ne184 : sb ≠ ca := Nat.ne_of_lt (Nat.lt_of_lt_of_le A171.lt (Nat.le_of_eq g181.symm))
      have Kx181 : Keep h171 h181 [] := (Keep.refl _ _).ext Ex181
      refine GoOn.step st181 ?_
      have O185 : Old Z n0 h181 := O174.keep Kx181 all0
      have Z186 : n0 ≤ h181.size := Nat.le_trans Z175 Kx181.1
      have K187 : Keep h0 h181 [] := K176.trans Kx181 (all0)
      have C188 : CHr Z own_EL s.vm h0 s.vm h181 := CHr.trans C177 (CHr.keep Kx181 all0 C177.1)
      have E189 : Exa Z h181 sb "java/lang/String" := A171.keep Kx181
      have F190 : Fld Z h181 sb "java/lang/String" "value" "[B" .null := F179.keep Kx181 nin0
      have F191 : Fld Z h181 sb "java/lang/String" "coder" "B" (.int (0 : Int32)) := F180.keep Kx181 nin0
      have hk192 := Nat.le_trans hk178 Kx181.1
      have V193 : Arv Z h181 ca k181 .char (2 : Int32) [] (.int (0 : Int32)) := Arv.new A181 (by decide)
      show GoOn p e below (T181.setTop (mkF m 24 #[.val (.int len), .val (.int c0), .val (.int c1)] [(.ref ca), (.ref sb), (.ref sb)])) _
      refine GoOn.step (fun tq kq => XS.dup X181.here hx rfl (hb hby own_d95) rfl rfl kq) ?_
      show GoOn p e below (T181.setTop (mkF m 25 #[.val (.int len), .val (.int c0), .val (.int c1)] [(.ref ca), (.ref ca), (.ref sb), (.ref sb)])) _
      refine GoOn.step (fun tq kq => XS.iconst X181.here hx rfl (hb hby own_d96) kq) ?_
      show GoOn p e below (T181.setTop (mkF m 26 #[.val (.int len), .val (.int c0), .val (.int c1)] [(.int (0 : Int32)), (.ref ca), (.ref ca), (.ref sb), (.ref sb)])) _
      refine GoOn.step (fun tq kq => XS.iloadN X181.here hx rfl (hb hby own_d97) rfl kq) ?_
      show GoOn p e below (T181.setTop (mkF m 27 #[.val (.int len), .val (.int c0), .val (.int c1)] [(.int c0), (.int (0 : Int32)), (.ref ca), (.ref ca), (.ref sb), (.ref sb)])) _
      have V195 : Arv Z h181 ca k181 .char (2 : Int32) [(.int (0 : Int32))] (.int (0 : Int32)) := V193.pad (pad_rep [] (.int (0 : Int32)) 1)
      obtain ⟨cq196, Aq196, qq196, Sq196, Mq196, Hq196, Uq196⟩ := id V195
      obtain ⟨T194, h194, X194, e194, W194, st194⟩ := stC X181 hx hZ e181 Aq196 (j := (0 : Int32)) (inb_of Sq196 ⟨(by decide : ¬ ((0 : Int32) < (0 : Int32))), (by decide : (0 : Int32) < (2 : Int32))⟩) (g := (mkF m 27 #[.val (.int len), .val (.int c0), .val (.int c1)] [(.int c0), (.int (0 : Int32)), (.ref ca), (.ref ca), (.ref sb), (.ref sb)])) rfl rfl (hb hby own_d98)
      have N197 := Fr.snoc X194 N0 gn182
      have V198 : Arv Z h194 ca k181 .char (2 : Int32) [(.int (nar .char c0))] (.int (0 : Int32)) := Arv.set Aq196 qq196 Sq196 Mq196 Hq196 Uq196 (fits_nar_char _) W194 0 rfl (Nat.le_of_ble_eq_true rfl)
      have Kx194 : Keep h181 h194 [ca] := Keep.of_wr W194
      refine GoOn.step st194 ?_
      have O199 : Old Z n0 h194 := O185.keep Kx194 (allS gn182 all0)
      have Z200 : n0 ≤ h194.size := Nat.le_trans Z186 Kx194.1
      have K201 : Keep h0 h194 [] := K187.trans Kx194 ((allS (Or.inr sz183) all0))
      have C202 : CHr Z own_EL s.vm h0 s.vm h194 := CHr.trans C188 (CHr.keep Kx194 (allS (Safe.arv hZ.alike V193 (by decide)) all0) C188.1)
      have E203 : Exa Z h194 sb "java/lang/String" := E189.keep Kx194
      have F204 : Fld Z h194 sb "java/lang/String" "value" "[B" .null := F190.keep Kx194 (ninS ne184 nin0)
      have F205 : Fld Z h194 sb "java/lang/String" "coder" "B" (.int (0 : Int32)) := F191.keep Kx194 (ninS ne184 nin0)
      have hk206 := Nat.le_trans hk192 Kx194.1
      show GoOn p e below (T194.setTop (mkF m 28 #[.val (.int len), .val (.int c0), .val (.int c1)] [(.ref ca), (.ref sb), (.ref sb)])) _
      refine GoOn.step (fun tq kq => XS.dup X194.here hx rfl (hb hby own_d99) rfl rfl kq) ?_
      show GoOn p e below (T194.setTop (mkF m 29 #[.val (.int len), .val (.int c0), .val (.int c1)] [(.ref ca), (.ref ca), (.ref sb), (.ref sb)])) _
      refine GoOn.step (fun tq kq => XS.iconst X194.here hx rfl (hb hby own_d100) kq) ?_
      show GoOn p e below (T194.setTop (mkF m 30 #[.val (.int len), .val (.int c0), .val (.int c1)] [(.int (1 : Int32)), (.ref ca), (.ref ca), (.ref sb), (.ref sb)])) _
      refine GoOn.step (fun tq kq => XS.iloadN X194.here hx rfl (hb hby own_d101) rfl kq) ?_
      show GoOn p e below (T194.setTop (mkF m 31 #[.val (.int len), .val (.int c0), .val (.int c1)] [(.int c1), (.int (1 : Int32)), (.ref ca), (.ref ca), (.ref sb), (.ref sb)])) _
      have V208 : Arv Z h194 ca k181 .char (2 : Int32) [(.int (nar .char c0)), (.int (0 : Int32))] (.int (0 : Int32)) := V198.pad (pad_rep [(.int (nar .char c0))] (.int (0 : Int32)) 1)
      obtain ⟨cq209, Aq209, qq209, Sq209, Mq209, Hq209, Uq209⟩ := id V208
      obtain ⟨T207, h207, X207, e207, W207, st207⟩ := stC X194 hx hZ e194 Aq209 (j := (1 : Int32)) (inb_of Sq209 ⟨(by decide : ¬ ((1 : Int32) < (0 : Int32))), (by decide : (1 : Int32) < (2 : Int32))⟩) (g := (mkF m 31 #[.val (.int len), .val (.int c0), .val (.int c1)] [(.int c1), (.int (1 : Int32)), (.ref ca), (.ref ca), (.ref sb), (.ref sb)])) rfl rfl (hb hby own_d102)
      have N210 := Fr.snoc X207 N197 gn182
      have V211 : Arv Z h207 ca k181 .char (2 : Int32) [(.int (nar .char c0)), (.int (nar .char c1))] (.int (0 : Int32)) := Arv.set Aq209 qq209 Sq209 Mq209 Hq209 Uq209 (fits_nar_char _) W207 1 rfl (Nat.le_of_ble_eq_true rfl)
      have Kx207 : Keep h194 h207 [ca] := Keep.of_wr W207
      refine GoOn.step st207 ?_
      have O212 : Old Z n0 h207 := O199.keep Kx207 (allS gn182 all0)
      have Z213 : n0 ≤ h207.size := Nat.le_trans Z200 Kx207.1
      have K214 : Keep h0 h207 [] := K201.trans Kx207 ((allS (Or.inr sz183) all0))
      have C215 : CHr Z own_EL s.vm h0 s.vm h207 := CHr.trans C202 (CHr.keep Kx207 (allS (Safe.arv hZ.alike V198 (by decide)) all0) C202.1)
      have E216 : Exa Z h207 sb "java/lang/String" := E203.keep Kx207
      have F217 : Fld Z h207 sb "java/lang/String" "value" "[B" .null := F204.keep Kx207 (ninS ne184 nin0)
      have F218 : Fld Z h207 sb "java/lang/String" "coder" "B" (.int (0 : Int32)) := F205.keep Kx207 (ninS ne184 nin0)
      have hk219 := Nat.le_trans hk206 Kx207.1
      show GoOn p e below (T207.setTop (mkF m 32 #[.val (.int len), .val (.int c0), .val (.int c1)] [(.ref ca), (.ref sb), (.ref sb)])) _
      rw [nar_char_id hb0] at V211
      rw [nar_char_id hb1] at V211
      have hp220 : ∀ c ∈ ([c0, c1] : List Int32), ¬ c < 0 ∧ ¬ (255 : Int32) < c := by
        intro c hc
        simp only [List.mem_cons, List.not_mem_nil, or_false] at hc
        rcases hc with rfl | rfl
        · exact hb0
        · exact hb1
      obtain ⟨_, _, ⟨T221, L221, k221, n221⟩, -, X221, ⟨Lc221, hQ221, l221, y221, z221⟩, st221⟩ := X207.specialBack hx (y := (⟨"java/lang/String", "<init>", "([C)V"⟩ : MethodName)) rfl hown (mvT hZ (hw _ (List.mem_of_getElem? (i := 238) rfl))) (mvT hZ (hw _ (List.mem_of_getElem? (i := 239) rfl))) (mvT hZ (hw _ (List.mem_of_getElem? (i := 240) rfl))) (by decide) (StrChars.Road.backV (W := 1) hZ hws (kI := 4) (hw _ (List.mem_of_getElem? (i := 7) rfl)) (cs := ([c0, c1] : List Int32)) (bs := ([c0, c1] : List Int32).map (fun c => c.toInt8.toInt32)) (n := 2) gn172 Z213 E216 F217 F218 V211 (SC.ext O212.2) PC rfl rfl (by decide) (by decide) hp220 rfl (by decide) (by decide)) (g := (mkF m 32 #[.val (.int len), .val (.int c0), .val (.int c1)] [(.ref ca), (.ref sb), (.ref sb)])) rfl (by rw [hml]; rfl) (Steps.refl _) (a := sb) (argsL := [(.ref ca)]) (rest := [(.ref sb)]) (lenOf own_pd104 rfl) rfl (by show 2 * 0 + _ ≤ _; exact Nat.le_of_eq rfl) (hb hby own_d103) (fun _ _ => ⟨rfl, e207, (by decide : 2 + 1 ≤ _), (by decide : 6 + 2 ≤ _)⟩)
      dsimp only [Pt.U, Pt.locs, Pt.cells, Pt.slots] at X221 l221 y221 z221 st221 hQ221
      subst l221 y221 z221
      obtain ⟨rfl, N221, K221, E221, Fc221, t221, kb221, u221, v221, w221, Fv221, Va221⟩ := hQ221
      refine GoOn.trans st221 ?_
      have N222 := Fr.app N210 N221
      have O223 : Old Z n0 T221.heap := O212.keep K221 (allS gn172 all0)
      have Z224 : n0 ≤ T221.heap.size := Nat.le_trans Z213 K221.1
      have K225 : Keep h0 T221.heap [] := K214.trans K221 ((allS (Or.inr sz173) all0))
      have C226 : CHr Z own_EL s.vm h0 s.vm T221.heap := CHr.trans C215 (CHr.keep K221 (allS (Safe.ofNull hZ.alike E216 F217) all0) C215.1)
      have E227 : Exa Z T221.heap sb "java/lang/String" := E216.keep K221
      have V230 : Arv Z T221.heap ca k181 .char (2 : Int32) [(.int c0), (.int c1)] (.int (0 : Int32)) := V211.keep K221 (ninS (Ne.symm ne184) nin0)
      have hk231 := Nat.le_trans hk219 K221.1
      show GoOn p e below (T221.setTop (mkF m 35 #[.val (.int len), .val (.int c0), .val (.int c1)] [(.ref sb)])) _
      have Sr232 : StrIs Z T221.heap sb ([c0, c1] : List Int32) := ⟨E221, Fc221, hp220, (Nat.le_of_ble_eq_true rfl), t221, kb221, Fv221, Va221⟩
      refine GoOn.retH X221 hZ hS0 (hk231) hEL hh rfl C226 Bd.notSynchronized (v := some (.ref sb)) (fun h => by rw [Bd.returns] at h; cases h) (fun fs hr => retOut X221 hx Bd.returns rfl (Or.inr (Or.inr (Or.inr (Or.inr ⟨rfl, rfl, rfl⟩)))) (hb hby own_d105) hr) (by decide) (by decide) ?_
      exact ⟨_, rfl, N222, K225, by rw [if_neg hc156, if_neg hc163]; exact Sr232⟩
set_option maxRecDepth 65536 in
set_option maxHeartbeats 40000000 in
theorem rmCoder (l : Launch) (Z : State) (a0 : Array Value) (hw : ∀ d ∈ tables_1, d.before a0 Z = true) (a : Addr) (G1 : Int32) (h0 : Heap) (n0 : Nat) (Z0 : n0 ≤ h0.size) (SC : Sta Z Z.heap "java/lang/String" "COMPACT_STRINGS" "Z" (.int G1)) (PC : ¬ G1 = (0 : Int32)) (F0 : Fld Z h0 a "java/lang/String" "coder" "B" (.int 0)) (O0 : Old Z n0 h0) :
    MetFree l (⟨"java/lang/String", "coder", "()B"⟩ : MethodName) (head1 [Jvm.Cond.code (⟨"java/lang/String", "coder", "()B"⟩ : MethodName) jdk_42_method_152_code 1 (some .byte)] ({ frames := 0, cells := 0, slots := 0, locals := 0 } : Room)) (fun aa U => aa = #[(.ref a)] ∧ Z.Warmed39 U.vm ∧ U.heap = h0) (fun _ _ _ _ _ => True) (fun _ U o U' => ∃ v L, o = .returned v ∧ QSame (.int 0) h0 n0 v U'.heap L ∧ FrameEnd U o U' L ({ frames := 0, cells := 0, slots := 0, locals := 0 } : Room).cells ({ frames := 0, cells := 0, slots := 0, locals := 0 } : Room).slots) := by
  refine MetFree.of_bodySF (plainFor_of_name own_pn52) hisR ?_
  intro p e s m args below meth c s₁ Bd hml0 hP hK
  obtain ⟨rfl, hZ, hh⟩ := hP
  have hx := Bd.exec
  have hby := Bd.bytes
  have hml : c.maxLocals = 1 := hml0
  have hown : s.vm.findClass "java/lang/String" = some m.cls := findClass_of_methodNamed Bd.named
  have hnm := (name_of_methodNamed Bd.named Bd.method).1
  have X0 : Stand p l e ({ frames := 0, cells := 0, slots := 0, locals := 0 } : Room) s m #[(.ref a)] below meth c s₁ [] 0 0 := Stand.of_body Bd
  have e0 : s₁.heap = h0 := by rw [← hh, Bd.state]; rfl
  have N0 := Fr.nil n0
  have K0 : Keep h0 h0 [] := Keep.refl _ _
  show GoOn p e below (s₁.setTop (entryFrame m #[(.ref a)] 1)) (PostN s (QSame (.int 0) h0 n0) ({ frames := 0, cells := 0, slots := 0, locals := 0 } : Room).cells ({ frames := 0, cells := 0, slots := 0, locals := 0 } : Room).slots)
  refine GoOn.step (fun tq kq => castTop (own_ef106 m a) kq) ?_
  show GoOn p e below (s₁.setTop (mkF m 0 #[.val (.ref a)] [])) _
  obtain ⟨T233, X233, e233, st233⟩ := getS2 X0 hx hZ hown (host := "") (Or.inl (hw _ (List.mem_of_getElem? (i := 60) rfl))) Via.refl e0 (SC.ext O0.2) (g := (mkF m 0 #[.val (.ref a)] [])) rfl (hb hby own_d107)
  refine GoOn.step st233 ?_
  show GoOn p e below (T233.setTop (mkF m 3 #[.val (.ref a)] [(.int G1)])) _
  refine GoOn.step (fun tq kq => XS.ifNo X233.here hx rfl (hb hby own_d108) rfl ((if0 _ _).trans (feq PC).1) kq) ?_
  show GoOn p e below (T233.setTop (mkF m 6 #[.val (.ref a)] [])) _
  refine GoOn.step (fun tq kq => XS.aloadN X233.here hx rfl (hb hby own_d109) rfl rfl kq) ?_
  show GoOn p e below (T233.setTop (mkF m 7 #[.val (.ref a)] [(.ref a)])) _
  obtain ⟨T234, X234, e234, st234⟩ := getF X233 hx hZ hown (host := "") (Or.inl (hw _ (List.mem_of_getElem? (i := 61) rfl))) Via.refl e233 F0 (g := (mkF m 7 #[.val (.ref a)] [(.ref a)])) rfl rfl (hb hby own_d110)
  refine GoOn.step st234 ?_
  show GoOn p e below (T234.setTop (mkF m 10 #[.val (.ref a)] [(.int 0)])) _
  refine GoOn.step (fun tq kq => XS.goto X234.here hx rfl (pc0 := 10) (pc' := 14) rfl (hb hby own_d111) (by decide) (by decide) kq) ?_
  show GoOn p e below (T234.setTop (mkF m 14 #[.val (.ref a)] [(.int 0)])) _
  refine GoOn.ret X234 Bd.notSynchronized (v := some (.int (nar .byte 0))) (fun h => by rw [Bd.returns] at h; cases h) (fun fs hr => retN X234 hx (t := .byte) Bd.returns (by simp) (hb hby own_d112) hr) (by decide) (by decide) ?_
  rw [e234]
  exact ⟨rfl, N0, rfl⟩
set_option maxRecDepth 65536 in
set_option maxHeartbeats 40000000 in
theorem rmLen (l : Launch) (Z : State) (a0 : Array Value) (hw : ∀ d ∈ tables_1, d.before a0 Z = true) (a : Addr) (ds : List Int32) (G1 : Int32) (h0 : Heap) (n0 : Nat) (Z0 : n0 ≤ h0.size) (SC : Sta Z Z.heap "java/lang/String" "COMPACT_STRINGS" "Z" (.int G1)) (PC : ¬ G1 = (0 : Int32)) (S0 : StrIs Z h0 a ds) (O0 : Old Z n0 h0) :
    MetFree l (⟨"java/lang/String", "length", "()I"⟩ : MethodName) (head1 [Jvm.Cond.code (⟨"java/lang/String", "length", "()I"⟩ : MethodName) jdk_42_method_54_code 1 (some .int)] ({ frames := 1, cells := 0, slots := 0, locals := 13 } : Room)) (fun aa U => aa = #[(.ref a)] ∧ Z.Warmed39 U.vm ∧ U.heap = h0) (fun _ _ _ _ _ => True) (fun _ U o U' => ∃ v L, o = .returned v ∧ QSame (.int (Int32.ofNat ds.length)) h0 n0 v U'.heap L ∧ FrameEnd U o U' L ({ frames := 1, cells := 0, slots := 0, locals := 13 } : Room).cells ({ frames := 1, cells := 0, slots := 0, locals := 13 } : Room).slots) := by
  refine MetFree.of_bodySF (plainFor_of_name own_pn52) hisR ?_
  intro p e s m args below meth c s₁ Bd hml0 hP hK
  obtain ⟨rfl, hZ, hh⟩ := hP
  have hx := Bd.exec
  have hby := Bd.bytes
  have hml : c.maxLocals = 1 := hml0
  have hown : s.vm.findClass "java/lang/String" = some m.cls := findClass_of_methodNamed Bd.named
  have hnm := (name_of_methodNamed Bd.named Bd.method).1
  have X0 : Stand p l e ({ frames := 1, cells := 0, slots := 0, locals := 13 } : Room) s m #[(.ref a)] below meth c s₁ [] 0 0 := Stand.of_body Bd
  have e0 : s₁.heap = h0 := by rw [← hh, Bd.state]; rfl
  have N0 := Fr.nil n0
  have K0 : Keep h0 h0 [] := Keep.refl _ _
  show GoOn p e below (s₁.setTop (entryFrame m #[(.ref a)] 1)) (PostN s (QSame (.int (Int32.ofNat ds.length)) h0 n0) ({ frames := 1, cells := 0, slots := 0, locals := 13 } : Room).cells ({ frames := 1, cells := 0, slots := 0, locals := 13 } : Room).slots)
  refine GoOn.step (fun tq kq => castTop (own_ef113 m a) kq) ?_
  show GoOn p e below (s₁.setTop (mkF m 0 #[.val (.ref a)] [])) _
  obtain ⟨Eq, Cq, hp, hl, sv, kq, Fq, Vq⟩ := S0
  refine GoOn.step (fun tq kq => XS.aloadN X0.here hx rfl (hb hby own_d114) rfl rfl kq) ?_
  show GoOn p e below (s₁.setTop (mkF m 1 #[.val (.ref a)] [(.ref a)])) _
  obtain ⟨T235, X235, e235, st235⟩ := getF X0 hx hZ hown (host := "") (Or.inl (hw _ (List.mem_of_getElem? (i := 54) rfl))) Via.refl e0 Fq (g := (mkF m 1 #[.val (.ref a)] [(.ref a)])) rfl rfl (hb hby own_d115)
  refine GoOn.step st235 ?_
  show GoOn p e below (T235.setTop (mkF m 4 #[.val (.ref a)] [(.ref sv)])) _
  refine GoOn.step (fun tq kq => alenA X235 hx hZ e235 Vq (g := (mkF m 4 #[.val (.ref a)] [(.ref sv)])) rfl rfl (hb hby own_d116) _ kq) ?_
  show GoOn p e below (T235.setTop (mkF m 5 #[.val (.ref a)] [(.int (Int32.ofNat ds.length))])) _
  refine GoOn.step (fun tq kq => XS.aloadN X235.here hx rfl (hb hby own_d117) rfl rfl kq) ?_
  show GoOn p e below (T235.setTop (mkF m 6 #[.val (.ref a)] [(.ref a), (.int (Int32.ofNat ds.length))])) _
  obtain ⟨cqc237, kqc237, qac237, qbc237, qcc237⟩ := isOf hZ e235 Eq
  obtain ⟨_, _, ⟨T236, L236, k236, n236⟩, -, X236, ⟨Lc236, hQ236, l236, y236, z236⟩, st236⟩ := X235.virtualBack hx (y := (⟨"java/lang/String", "coder", "()B"⟩ : MethodName)) (z := (⟨"java/lang/String", "coder", "()B"⟩ : MethodName)) hown (mvT hZ (hw _ (List.mem_of_getElem? (i := 55) rfl))) (mvT hZ (hw _ (List.mem_of_getElem? (i := 56) rfl))) (notFace_of_selects (args := #[]) (mvT hZ (hw _ (List.mem_of_getElem? (i := 58) rfl)))) (mvT hZ (hw _ (List.mem_of_getElem? (i := 58) rfl))) (mvT hZ (hw _ (List.mem_of_getElem? (i := 57) rfl))) (by decide) (backOf (W := 1) (rmCoder l Z a0 hw a G1 h0 n0 Z0 SC PC Cq O0) hZ (hw _ (List.mem_of_getElem? (i := 59) rfl)) (hw _ (List.mem_of_getElem? (i := 6) rfl)) (by decide) (by decide)) qac237 qcc237 (g := (mkF m 6 #[.val (.ref a)] [(.ref a), (.int (Int32.ofNat ds.length))])) rfl (by rw [hml]; rfl) (Steps.refl _) (argsL := []) (rest := [(.int (Int32.ofNat ds.length))]) (lenOf own_pd119 rfl) rfl (by show 2 * 0 + _ ≤ _; exact Nat.le_of_eq rfl) (hb hby own_d118) (fun _ _ => ⟨rfl, e235, (by decide : 0 + 0 ≤ _), (by decide : 0 + 0 ≤ _)⟩)
  dsimp only [Pt.U, Pt.locs, Pt.cells, Pt.slots] at X236 l236 y236 z236 st236 hQ236
  subst l236 y236 z236
  obtain ⟨rfl, N236, e236⟩ := hQ236
  refine GoOn.trans st236 ?_
  have N238 := Fr.app N0 N236
  show GoOn p e below (T236.setTop (mkF m 9 #[.val (.ref a)] [(.int (0 : Int32)), (.int (Int32.ofNat ds.length))])) _
  refine GoOn.step (fun tq kq => XS.ishr X236.here hx rfl (hb hby own_d120) rfl kq) ?_
  show GoOn p e below (T236.setTop (mkF m 10 #[.val (.ref a)] [(.int ((Int32.ofNat ds.length) >>> ((0 : Int32) &&& 31)))])) _
  rw [own_shr0]
  show GoOn p e below (T236.setTop (mkF m 10 #[.val (.ref a)] [(.int (Int32.ofNat ds.length))])) _
  refine GoOn.ret X236 Bd.notSynchronized (v := some (.int (Int32.ofNat ds.length))) (fun h => by rw [Bd.returns] at h; cases h) (fun fs hr => retI X236 hx Bd.returns (hb hby own_d121) hr) (by decide) (by decide) ?_
  rw [e236]
  exact ⟨rfl, N238, rfl⟩
set_option maxRecDepth 65536 in
set_option maxHeartbeats 40000000 in
theorem rmEns (l : Launch) (Z : State) (a0 : Array Value) (hw : ∀ d ∈ tables_1, d.before a0 Z = true) (b t : Addr) (kb : ClassId) (cap k : Nat) (vs : List Value) (h0 : Heap) (n0 : Nat) (Z0 : n0 ≤ h0.size) (F0c : Fld Z h0 b "java/lang/AbstractStringBuilder" "coder" "B" (.int 0)) (F0v : Fld Z h0 b "java/lang/AbstractStringBuilder" "value" "[B" (.ref t)) (V0 : Arv Z h0 t kb .byte (Int32.ofNat cap) vs (.int 0)) (hk : k ≤ cap) (hc4 : cap ≤ 4000) :
    MetFree l (⟨"java/lang/AbstractStringBuilder", "ensureCapacityInternal", "(I)V"⟩ : MethodName) (head1 [Jvm.Cond.code (⟨"java/lang/AbstractStringBuilder", "ensureCapacityInternal", "(I)V"⟩ : MethodName) jdk_68_method_9_code 3 none] ({ frames := 0, cells := 0, slots := 0, locals := 0 } : Room)) (fun aa U => aa = #[(.ref b), (.int (Int32.ofNat k))] ∧ Z.Warmed39 U.vm ∧ U.heap = h0) (fun _ _ _ _ _ => True) (fun _ U o U' => ∃ v L, o = .returned v ∧ QNone h0 n0 v U'.heap L ∧ FrameEnd U o U' L ({ frames := 0, cells := 0, slots := 0, locals := 0 } : Room).cells ({ frames := 0, cells := 0, slots := 0, locals := 0 } : Room).slots) := by
  refine MetFree.of_bodySF (plainFor_of_name own_pn123) hisR ?_
  intro p e s m args below meth c s₁ Bd hml0 hP hK
  obtain ⟨rfl, hZ, hh⟩ := hP
  have hx := Bd.exec
  have hby := Bd.bytes
  have hml : c.maxLocals = 3 := hml0
  have hown : s.vm.findClass "java/lang/AbstractStringBuilder" = some m.cls := findClass_of_methodNamed Bd.named
  have hnm := (name_of_methodNamed Bd.named Bd.method).1
  have X0 : Stand p l e ({ frames := 0, cells := 0, slots := 0, locals := 0 } : Room) s m #[(.ref b), (.int (Int32.ofNat k))] below meth c s₁ [] 0 0 := Stand.of_body Bd
  have e0 : s₁.heap = h0 := by rw [← hh, Bd.state]; rfl
  have N0 := Fr.nil n0
  have K0 : Keep h0 h0 [] := Keep.refl _ _
  show GoOn p e below (s₁.setTop (entryFrame m #[(.ref b), (.int (Int32.ofNat k))] 3)) (PostN s (QNone h0 n0) ({ frames := 0, cells := 0, slots := 0, locals := 0 } : Room).cells ({ frames := 0, cells := 0, slots := 0, locals := 0 } : Room).slots)
  refine GoOn.step (fun tq kq => castTop (own_ef122 m b (Int32.ofNat k)) kq) ?_
  show GoOn p e below (s₁.setTop (mkF m 0 #[.val (.ref b), .val (.int (Int32.ofNat k)), .unset] [])) _
  refine GoOn.step (fun tq kq => XS.aloadN X0.here hx rfl (hb hby own_d124) rfl rfl kq) ?_
  show GoOn p e below (s₁.setTop (mkF m 1 #[.val (.ref b), .val (.int (Int32.ofNat k)), .unset] [(.ref b)])) _
  obtain ⟨T239, X239, e239, st239⟩ := getF X0 hx hZ hown (host := "") (Or.inl (hw _ (List.mem_of_getElem? (i := 35) rfl))) Via.refl e0 F0v (g := (mkF m 1 #[.val (.ref b), .val (.int (Int32.ofNat k)), .unset] [(.ref b)])) rfl rfl (hb hby own_d125)
  refine GoOn.step st239 ?_
  show GoOn p e below (T239.setTop (mkF m 4 #[.val (.ref b), .val (.int (Int32.ofNat k)), .unset] [(.ref t)])) _
  refine GoOn.step (fun tq kq => alenA X239 hx hZ e239 V0 (g := (mkF m 4 #[.val (.ref b), .val (.int (Int32.ofNat k)), .unset] [(.ref t)])) rfl rfl (hb hby own_d126) _ kq) ?_
  show GoOn p e below (T239.setTop (mkF m 5 #[.val (.ref b), .val (.int (Int32.ofNat k)), .unset] [(.int (Int32.ofNat cap))])) _
  refine GoOn.step (fun tq kq => XS.aloadN X239.here hx rfl (hb hby own_d127) rfl rfl kq) ?_
  show GoOn p e below (T239.setTop (mkF m 6 #[.val (.ref b), .val (.int (Int32.ofNat k)), .unset] [(.ref b), (.int (Int32.ofNat cap))])) _
  obtain ⟨T240, X240, e240, st240⟩ := getF X239 hx hZ hown (host := "") (Or.inl (hw _ (List.mem_of_getElem? (i := 37) rfl))) Via.refl e239 F0c (g := (mkF m 6 #[.val (.ref b), .val (.int (Int32.ofNat k)), .unset] [(.ref b), (.int (Int32.ofNat cap))])) rfl rfl (hb hby own_d128)
  refine GoOn.step st240 ?_
  show GoOn p e below (T240.setTop (mkF m 9 #[.val (.ref b), .val (.int (Int32.ofNat k)), .unset] [(.int 0), (.int (Int32.ofNat cap))])) _
  refine GoOn.step (fun tq kq => XS.ishr X240.here hx rfl (hb hby own_d129) rfl kq) ?_
  show GoOn p e below (T240.setTop (mkF m 10 #[.val (.ref b), .val (.int (Int32.ofNat k)), .unset] [(.int ((Int32.ofNat cap) >>> (0 &&& 31)))])) _
  refine GoOn.step (fun tq kq => XS.istoreN X240.here hx rfl (hb hby own_d130) rfl (l' := #[.val (.ref b), .val (.int (Int32.ofNat k)), .val (.int ((Int32.ofNat cap) >>> (0 &&& 31)))]) rfl kq) ?_
  show GoOn p e below (T240.setTop (mkF m 11 #[.val (.ref b), .val (.int (Int32.ofNat k)), .val (.int ((Int32.ofNat cap) >>> (0 &&& 31)))] [])) _
  refine GoOn.step (fun tq kq => XS.iloadN X240.here hx rfl (hb hby own_d131) rfl kq) ?_
  show GoOn p e below (T240.setTop (mkF m 12 #[.val (.ref b), .val (.int (Int32.ofNat k)), .val (.int ((Int32.ofNat cap) >>> (0 &&& 31)))] [(.int (Int32.ofNat k))])) _
  refine GoOn.step (fun tq kq => XS.iloadN X240.here hx rfl (hb hby own_d132) rfl kq) ?_
  show GoOn p e below (T240.setTop (mkF m 13 #[.val (.ref b), .val (.int (Int32.ofNat k)), .val (.int ((Int32.ofNat cap) >>> (0 &&& 31)))] [(.int ((Int32.ofNat cap) >>> (0 &&& 31))), (.int (Int32.ofNat k))])) _
  refine GoOn.step (fun tq kq => XS.isub X240.here hx rfl (hb hby own_d133) rfl kq) ?_
  show GoOn p e below (T240.setTop (mkF m 14 #[.val (.ref b), .val (.int (Int32.ofNat k)), .val (.int ((Int32.ofNat cap) >>> (0 &&& 31)))] [(.int ((Int32.ofNat k) - ((Int32.ofNat cap) >>> (0 &&& 31))))])) _
  rw [own_shr0]
  show GoOn p e below (T240.setTop (mkF m 14 #[.val (.ref b), .val (.int (Int32.ofNat k)), .val (.int (Int32.ofNat cap))] [(.int ((Int32.ofNat k) - (Int32.ofNat cap)))])) _
  refine GoOn.step (fun tq kq => XS.ifYes X240.here hx rfl (pc0 := 14) (pc' := 38) rfl (hb hby own_d134) rfl ((if0 _ _).trans (flt (own_fit hk hc4)).2.2.2) (by decide) (by decide) kq) ?_
  show GoOn p e below (T240.setTop (mkF m 38 #[.val (.ref b), .val (.int (Int32.ofNat k)), .val (.int (Int32.ofNat cap))] [])) _
  refine GoOn.ret X240 Bd.notSynchronized (v := none) (fun _ => rfl) (fun fs hr => X240.returnOut hx Bd.returns (hb hby own_d135) hr) (by decide) (by decide) ?_
  rw [e240]
  exact ⟨rfl, N0, rfl⟩
set_option maxRecDepth 65536 in
set_option maxHeartbeats 40000000 in
theorem rmInfl (l : Launch) (Z : State) (a0 : Array Value) (hw : ∀ d ∈ tables_1, d.before a0 Z = true) (a b : Addr) (ds : List Int32) (G1 : Int32) (h0 : Heap) (n0 : Nat) (Z0 : n0 ≤ h0.size) (SC : Sta Z Z.heap "java/lang/String" "COMPACT_STRINGS" "Z" (.int G1)) (PC : ¬ G1 = (0 : Int32)) (F0c : Fld Z h0 b "java/lang/AbstractStringBuilder" "coder" "B" (.int 0)) (S0 : StrIs Z h0 a ds) (O0 : Old Z n0 h0) :
    MetFree l (⟨"java/lang/AbstractStringBuilder", "inflateIfNeededFor", "(Ljava/lang/String;)V"⟩ : MethodName) (head1 [Jvm.Cond.code (⟨"java/lang/AbstractStringBuilder", "inflateIfNeededFor", "(Ljava/lang/String;)V"⟩ : MethodName) jdk_68_method_71_code 2 none] ({ frames := 1, cells := 0, slots := 0, locals := 13 } : Room)) (fun aa U => aa = #[(.ref b), (.ref a)] ∧ Z.Warmed39 U.vm ∧ U.heap = h0) (fun _ _ _ _ _ => True) (fun _ U o U' => ∃ v L, o = .returned v ∧ QNone h0 n0 v U'.heap L ∧ FrameEnd U o U' L ({ frames := 1, cells := 0, slots := 0, locals := 13 } : Room).cells ({ frames := 1, cells := 0, slots := 0, locals := 13 } : Room).slots) := by
  refine MetFree.of_bodySF (plainFor_of_name own_pn123) hisR ?_
  intro p e s m args below meth c s₁ Bd hml0 hP hK
  obtain ⟨rfl, hZ, hh⟩ := hP
  have hx := Bd.exec
  have hby := Bd.bytes
  have hml : c.maxLocals = 2 := hml0
  have hown : s.vm.findClass "java/lang/AbstractStringBuilder" = some m.cls := findClass_of_methodNamed Bd.named
  have hnm := (name_of_methodNamed Bd.named Bd.method).1
  have X0 : Stand p l e ({ frames := 1, cells := 0, slots := 0, locals := 13 } : Room) s m #[(.ref b), (.ref a)] below meth c s₁ [] 0 0 := Stand.of_body Bd
  have e0 : s₁.heap = h0 := by rw [← hh, Bd.state]; rfl
  have N0 := Fr.nil n0
  have K0 : Keep h0 h0 [] := Keep.refl _ _
  show GoOn p e below (s₁.setTop (entryFrame m #[(.ref b), (.ref a)] 2)) (PostN s (QNone h0 n0) ({ frames := 1, cells := 0, slots := 0, locals := 13 } : Room).cells ({ frames := 1, cells := 0, slots := 0, locals := 13 } : Room).slots)
  refine GoOn.step (fun tq kq => castTop (own_ef136 m b a) kq) ?_
  show GoOn p e below (s₁.setTop (mkF m 0 #[.val (.ref b), .val (.ref a)] [])) _
  obtain ⟨Eq, Cq, hp, hl, sv, kq, Fq, Vq⟩ := S0
  obtain ⟨T241, X241, e241, st241⟩ := getS2 X0 hx hZ hown (host := "") (Or.inl (hw _ (List.mem_of_getElem? (i := 34) rfl))) Via.refl e0 (SC.ext O0.2) (g := (mkF m 0 #[.val (.ref b), .val (.ref a)] [])) rfl (hb hby own_d137)
  refine GoOn.step st241 ?_
  show GoOn p e below (T241.setTop (mkF m 3 #[.val (.ref b), .val (.ref a)] [(.int G1)])) _
  refine GoOn.step (fun tq kq => XS.ifNo X241.here hx rfl (hb hby own_d138) rfl ((if0 _ _).trans (feq PC).1) kq) ?_
  show GoOn p e below (T241.setTop (mkF m 6 #[.val (.ref b), .val (.ref a)] [])) _
  refine GoOn.step (fun tq kq => XS.aloadN X241.here hx rfl (hb hby own_d139) rfl rfl kq) ?_
  show GoOn p e below (T241.setTop (mkF m 7 #[.val (.ref b), .val (.ref a)] [(.ref b)])) _
  obtain ⟨T242, X242, e242, st242⟩ := getF X241 hx hZ hown (host := "") (Or.inl (hw _ (List.mem_of_getElem? (i := 37) rfl))) Via.refl e241 F0c (g := (mkF m 7 #[.val (.ref b), .val (.ref a)] [(.ref b)])) rfl rfl (hb hby own_d140)
  refine GoOn.step st242 ?_
  show GoOn p e below (T242.setTop (mkF m 10 #[.val (.ref b), .val (.ref a)] [(.int 0)])) _
  refine GoOn.step (fun tq kq => XS.aloadN X242.here hx rfl (hb hby own_d141) rfl rfl kq) ?_
  show GoOn p e below (T242.setTop (mkF m 11 #[.val (.ref b), .val (.ref a)] [(.ref a), (.int 0)])) _
  obtain ⟨cqc244, kqc244, qac244, qbc244, qcc244⟩ := isOf hZ e242 Eq
  obtain ⟨_, _, ⟨T243, L243, k243, n243⟩, -, X243, ⟨Lc243, hQ243, l243, y243, z243⟩, st243⟩ := X242.virtualBack hx (y := (⟨"java/lang/String", "coder", "()B"⟩ : MethodName)) (z := (⟨"java/lang/String", "coder", "()B"⟩ : MethodName)) hown (mvT hZ (hw _ (List.mem_of_getElem? (i := 79) rfl))) (mvT hZ (hw _ (List.mem_of_getElem? (i := 56) rfl))) (notFace_of_selects (args := #[]) (mvT hZ (hw _ (List.mem_of_getElem? (i := 58) rfl)))) (mvT hZ (hw _ (List.mem_of_getElem? (i := 58) rfl))) (mvT hZ (hw _ (List.mem_of_getElem? (i := 57) rfl))) (by decide) (backOf (W := 1) (rmCoder l Z a0 hw a G1 h0 n0 Z0 SC PC Cq O0) hZ (hw _ (List.mem_of_getElem? (i := 59) rfl)) (hw _ (List.mem_of_getElem? (i := 6) rfl)) (by decide) (by decide)) qac244 qcc244 (g := (mkF m 11 #[.val (.ref b), .val (.ref a)] [(.ref a), (.int 0)])) rfl (by rw [hml]; rfl) (Steps.refl _) (argsL := []) (rest := [(.int 0)]) (lenOf own_pd119 rfl) rfl (by show 2 * 0 + _ ≤ _; exact Nat.le_of_eq rfl) (hb hby own_d142) (fun _ _ => ⟨rfl, e242, (by decide : 0 + 0 ≤ _), (by decide : 0 + 0 ≤ _)⟩)
  dsimp only [Pt.U, Pt.locs, Pt.cells, Pt.slots] at X243 l243 y243 z243 st243 hQ243
  subst l243 y243 z243
  obtain ⟨rfl, N243, e243⟩ := hQ243
  refine GoOn.trans st243 ?_
  have N245 := Fr.app N0 N243
  show GoOn p e below (T243.setTop (mkF m 14 #[.val (.ref b), .val (.ref a)] [(.int (0 : Int32)), (.int 0)])) _
  refine GoOn.step (fun tq kq => XS.icmpYes X243.here hx rfl (pc0 := 14) (pc' := 21) rfl (hb hby own_d143) rfl (teq rfl).1 (by decide) (by decide) kq) ?_
  show GoOn p e below (T243.setTop (mkF m 21 #[.val (.ref b), .val (.ref a)] [])) _
  refine GoOn.ret X243 Bd.notSynchronized (v := none) (fun _ => rfl) (fun fs hr => X243.returnOut hx Bd.returns (hb hby own_d144) hr) (by decide) (by decide) ?_
  rw [e243]
  exact ⟨rfl, N245, rfl⟩
def QGetB (Z : State) (t : Addr) (kb : ClassId) (cap : Nat) (es : List Int32) (h0 : Heap) (n0 : Nat) (v : Option Value) (h : Heap) (L : List Loc) : Prop := v = none ∧ Fr n0 L ∧ Keep h0 h [t] ∧ Arv Z h t kb .byte (Int32.ofNat cap) (own_sb cap es) (.int 0)
set_option maxRecDepth 65536 in
set_option maxHeartbeats 40000000 in
theorem rmGetB (l : Launch) (Z : State) (a0 : Array Value) (hw : ∀ d ∈ tables_1, d.before a0 Z = true) (a t : Addr) (kb : ClassId) (cap : Nat) (cs ds : List Int32) (G1 : Int32) (h0 : Heap) (n0 : Nat) (Z0 : n0 ≤ h0.size) (SC : Sta Z Z.heap "java/lang/String" "COMPACT_STRINGS" "Z" (.int G1)) (PC : ¬ G1 = (0 : Int32)) (V0 : Arv Z h0 t kb .byte (Int32.ofNat cap) (own_sb cap cs) (.int 0)) (S0 : StrIs Z h0 a ds) (gt : n0 ≤ t) (hsv : ∀ sv : Addr, Fld Z h0 a "java/lang/String" "value" "[B" (.ref sv) → sv ≠ t) (hcap : cs.length + ds.length ≤ cap) (hc4 : cap ≤ 4000) (O0 : Old Z n0 h0) :
    MetFree l (⟨"java/lang/String", "getBytes", "([BIB)V"⟩ : MethodName) (head1 [Jvm.Cond.code (⟨"java/lang/String", "getBytes", "([BIB)V"⟩ : MethodName) jdk_42_method_147_code 4 none] ({ frames := 1, cells := 0, slots := 0, locals := 18 } : Room)) (fun aa U => aa = #[(.ref a), (.ref t), (.int (Int32.ofNat cs.length)), (.int (0 : Int32))] ∧ Z.Warmed39 U.vm ∧ U.heap = h0) (fun _ _ _ _ _ => True) (fun _ U o U' => ∃ v L, o = .returned v ∧ QGetB Z t kb cap (cs ++ ds) h0 n0 v U'.heap L ∧ FrameEnd U o U' L ({ frames := 1, cells := 0, slots := 0, locals := 18 } : Room).cells ({ frames := 1, cells := 0, slots := 0, locals := 18 } : Room).slots) := by
  refine MetFree.of_bodySF (plainFor_of_name own_pn52) hisR ?_
  intro p e s m args below meth c s₁ Bd hml0 hP hK
  obtain ⟨rfl, hZ, hh⟩ := hP
  have hx := Bd.exec
  have hby := Bd.bytes
  have hml : c.maxLocals = 4 := hml0
  have hown : s.vm.findClass "java/lang/String" = some m.cls := findClass_of_methodNamed Bd.named
  have hnm := (name_of_methodNamed Bd.named Bd.method).1
  have X0 : Stand p l e ({ frames := 1, cells := 0, slots := 0, locals := 18 } : Room) s m #[(.ref a), (.ref t), (.int (Int32.ofNat cs.length)), (.int (0 : Int32))] below meth c s₁ [] 0 0 := Stand.of_body Bd
  have e0 : s₁.heap = h0 := by rw [← hh, Bd.state]; rfl
  have N0 := Fr.nil n0
  have K0 : Keep h0 h0 [] := Keep.refl _ _
  show GoOn p e below (s₁.setTop (entryFrame m #[(.ref a), (.ref t), (.int (Int32.ofNat cs.length)), (.int (0 : Int32))] 4)) (PostN s (QGetB Z t kb cap (cs ++ ds) h0 n0) ({ frames := 1, cells := 0, slots := 0, locals := 18 } : Room).cells ({ frames := 1, cells := 0, slots := 0, locals := 18 } : Room).slots)
  refine GoOn.step (fun tq kq => castTop (own_ef145 m a t (Int32.ofNat cs.length) (0 : Int32)) kq) ?_
  show GoOn p e below (s₁.setTop (mkF m 0 #[.val (.ref a), .val (.ref t), .val (.int (Int32.ofNat cs.length)), .val (.int (0 : Int32))] [])) _
  obtain ⟨Eq, Cq, hp, hl, sv, kq, Fq, Vq⟩ := S0
  have nsv : sv ≠ t := hsv _ Fq
  have nat : a ≠ t := Exa.neArv Eq V0 (hw _ (List.mem_of_getElem? (i := 7) rfl))
  have K0t : Keep h0 h0 [t] := Keep.refl _ _
  refine GoOn.step (fun tq kq => XS.aloadN X0.here hx rfl (hb hby own_d146) rfl rfl kq) ?_
  show GoOn p e below (s₁.setTop (mkF m 1 #[.val (.ref a), .val (.ref t), .val (.int (Int32.ofNat cs.length)), .val (.int (0 : Int32))] [(.ref a)])) _
  obtain ⟨cqc247, kqc247, qac247, qbc247, qcc247⟩ := isOf hZ e0 Eq
  obtain ⟨_, _, ⟨T246, L246, k246, n246⟩, -, X246, ⟨Lc246, hQ246, l246, y246, z246⟩, st246⟩ := X0.virtualBack hx (y := (⟨"java/lang/String", "coder", "()B"⟩ : MethodName)) (z := (⟨"java/lang/String", "coder", "()B"⟩ : MethodName)) hown (mvT hZ (hw _ (List.mem_of_getElem? (i := 55) rfl))) (mvT hZ (hw _ (List.mem_of_getElem? (i := 56) rfl))) (notFace_of_selects (args := #[]) (mvT hZ (hw _ (List.mem_of_getElem? (i := 58) rfl)))) (mvT hZ (hw _ (List.mem_of_getElem? (i := 58) rfl))) (mvT hZ (hw _ (List.mem_of_getElem? (i := 57) rfl))) (by decide) (backOf (W := 0) (rmCoder l Z a0 hw a G1 h0 n0 Z0 SC PC Cq O0) hZ (hw _ (List.mem_of_getElem? (i := 59) rfl)) (hw _ (List.mem_of_getElem? (i := 6) rfl)) (by decide) (by decide)) qac247 qcc247 (g := (mkF m 1 #[.val (.ref a), .val (.ref t), .val (.int (Int32.ofNat cs.length)), .val (.int (0 : Int32))] [(.ref a)])) rfl (by rw [hml]; rfl) (Steps.refl _) (argsL := []) (rest := []) (lenOf own_pd119 rfl) rfl (by show 2 * 0 + _ ≤ _; exact Nat.le_of_eq rfl) (hb hby own_d147) (fun _ _ => ⟨rfl, e0, (by decide : 0 + 0 ≤ _), (by decide : 0 + 0 ≤ _)⟩)
  dsimp only [Pt.U, Pt.locs, Pt.cells, Pt.slots] at X246 l246 y246 z246 st246 hQ246
  subst l246 y246 z246
  obtain ⟨rfl, N246, e246⟩ := hQ246
  refine GoOn.trans st246 ?_
  have N248 := Fr.app N0 N246
  show GoOn p e below (T246.setTop (mkF m 4 #[.val (.ref a), .val (.ref t), .val (.int (Int32.ofNat cs.length)), .val (.int (0 : Int32))] [(.int (0 : Int32))])) _
  refine GoOn.step (fun tq kq => XS.iloadN X246.here hx rfl (hb hby own_d148) rfl kq) ?_
  show GoOn p e below (T246.setTop (mkF m 5 #[.val (.ref a), .val (.ref t), .val (.int (Int32.ofNat cs.length)), .val (.int (0 : Int32))] [(.int (0 : Int32)), (.int (0 : Int32))])) _
  refine GoOn.step (fun tq kq => XS.icmpNo X246.here hx rfl (hb hby own_d149) rfl (teq rfl).2 kq) ?_
  show GoOn p e below (T246.setTop (mkF m 8 #[.val (.ref a), .val (.ref t), .val (.int (Int32.ofNat cs.length)), .val (.int (0 : Int32))] [])) _
  refine GoOn.step (fun tq kq => XS.aloadN X246.here hx rfl (hb hby own_d150) rfl rfl kq) ?_
  show GoOn p e below (T246.setTop (mkF m 9 #[.val (.ref a), .val (.ref t), .val (.int (Int32.ofNat cs.length)), .val (.int (0 : Int32))] [(.ref a)])) _
  obtain ⟨T249, X249, e249, st249⟩ := getF X246 hx hZ hown (host := "") (Or.inl (hw _ (List.mem_of_getElem? (i := 54) rfl))) Via.refl e246 Fq (g := (mkF m 9 #[.val (.ref a), .val (.ref t), .val (.int (Int32.ofNat cs.length)), .val (.int (0 : Int32))] [(.ref a)])) rfl rfl (hb hby own_d151)
  refine GoOn.step st249 ?_
  show GoOn p e below (T249.setTop (mkF m 12 #[.val (.ref a), .val (.ref t), .val (.int (Int32.ofNat cs.length)), .val (.int (0 : Int32))] [(.ref sv)])) _
  refine GoOn.step (fun tq kq => XS.iconst X249.here hx rfl (hb hby own_d152) kq) ?_
  show GoOn p e below (T249.setTop (mkF m 13 #[.val (.ref a), .val (.ref t), .val (.int (Int32.ofNat cs.length)), .val (.int (0 : Int32))] [(.int (0 : Int32)), (.ref sv)])) _
  refine GoOn.step (fun tq kq => XS.aloadN X249.here hx rfl (hb hby own_d153) rfl rfl kq) ?_
  show GoOn p e below (T249.setTop (mkF m 14 #[.val (.ref a), .val (.ref t), .val (.int (Int32.ofNat cs.length)), .val (.int (0 : Int32))] [(.ref t), (.int (0 : Int32)), (.ref sv)])) _
  refine GoOn.step (fun tq kq => XS.iloadN X249.here hx rfl (hb hby own_d154) rfl kq) ?_
  show GoOn p e below (T249.setTop (mkF m 15 #[.val (.ref a), .val (.ref t), .val (.int (Int32.ofNat cs.length)), .val (.int (0 : Int32))] [(.int (Int32.ofNat cs.length)), (.ref t), (.int (0 : Int32)), (.ref sv)])) _
  refine GoOn.step (fun tq kq => XS.iloadN X249.here hx rfl (hb hby own_d155) rfl kq) ?_
  show GoOn p e below (T249.setTop (mkF m 16 #[.val (.ref a), .val (.ref t), .val (.int (Int32.ofNat cs.length)), .val (.int (0 : Int32))] [(.int (0 : Int32)), (.int (Int32.ofNat cs.length)), (.ref t), (.int (0 : Int32)), (.ref sv)])) _
  refine GoOn.step (fun tq kq => XS.ishl X249.here hx rfl (hb hby own_d156) rfl kq) ?_
  show GoOn p e below (T249.setTop (mkF m 17 #[.val (.ref a), .val (.ref t), .val (.int (Int32.ofNat cs.length)), .val (.int (0 : Int32))] [(.int ((Int32.ofNat cs.length) <<< ((0 : Int32) &&& 31))), (.ref t), (.int (0 : Int32)), (.ref sv)])) _
  refine GoOn.step (fun tq kq => XS.aloadN X249.here hx rfl (hb hby own_d157) rfl rfl kq) ?_
  show GoOn p e below (T249.setTop (mkF m 18 #[.val (.ref a), .val (.ref t), .val (.int (Int32.ofNat cs.length)), .val (.int (0 : Int32))] [(.ref a), (.int ((Int32.ofNat cs.length) <<< ((0 : Int32) &&& 31))), (.ref t), (.int (0 : Int32)), (.ref sv)])) _
  rw [own_shl0]
  show GoOn p e below (T249.setTop (mkF m 18 #[.val (.ref a), .val (.ref t), .val (.int (Int32.ofNat cs.length)), .val (.int (0 : Int32))] [(.ref a), (.int (Int32.ofNat cs.length)), (.ref t), (.int (0 : Int32)), (.ref sv)])) _
  obtain ⟨T250, X250, e250, st250⟩ := getF X249 hx hZ hown (host := "") (Or.inl (hw _ (List.mem_of_getElem? (i := 54) rfl))) Via.refl e249 Fq (g := (mkF m 18 #[.val (.ref a), .val (.ref t), .val (.int (Int32.ofNat cs.length)), .val (.int (0 : Int32))] [(.ref a), (.int (Int32.ofNat cs.length)), (.ref t), (.int (0 : Int32)), (.ref sv)])) rfl rfl (hb hby own_d158)
  refine GoOn.step st250 ?_
  show GoOn p e below (T250.setTop (mkF m 21 #[.val (.ref a), .val (.ref t), .val (.int (Int32.ofNat cs.length)), .val (.int (0 : Int32))] [(.ref sv), (.int (Int32.ofNat cs.length)), (.ref t), (.int (0 : Int32)), (.ref sv)])) _
  refine GoOn.step (fun tq kq => alenA X250 hx hZ e250 Vq (g := (mkF m 21 #[.val (.ref a), .val (.ref t), .val (.int (Int32.ofNat cs.length)), .val (.int (0 : Int32))] [(.ref sv), (.int (Int32.ofNat cs.length)), (.ref t), (.int (0 : Int32)), (.ref sv)])) rfl rfl (hb hby own_d159) _ kq) ?_
  show GoOn p e below (T250.setTop (mkF m 22 #[.val (.ref a), .val (.ref t), .val (.int (Int32.ofNat cs.length)), .val (.int (0 : Int32))] [(.int (Int32.ofNat ds.length)), (.int (Int32.ofNat cs.length)), (.ref t), (.int (0 : Int32)), (.ref sv)])) _
  have hcs : cs.length ≤ 4000 := by omega
  have hds : ds.length ≤ 4000 := by omega
  obtain ⟨T251, h251, L251, X251, e251, N251, K251, Vc251, st251⟩ := cpA X250 hx hZ hown (hw _ (List.mem_of_getElem? (i := 85) rfl)) (hw _ (List.mem_of_getElem? (i := 88) rfl)) (hw _ (List.mem_of_getElem? (i := 86) rfl)) (hw _ (List.mem_of_getElem? (i := 87) rfl)) e250 Vq V0 (Or.inl ⟨rfl, rfl⟩) (by decide) (own_nn hcs) (own_nn hds) (by rw [own_z0]; simp) (by rw [own_ns hcs, own_ns hds, own_ns hc4]; exact hcap) rfl (by rw [own_ns hcs, own_ns hds, own_sbl (by omega)]; exact hcap) N248 gt (g := (mkF m 22 #[.val (.ref a), .val (.ref t), .val (.int (Int32.ofNat cs.length)), .val (.int (0 : Int32))] [(.int (Int32.ofNat ds.length)), (.int (Int32.ofNat cs.length)), (.ref t), (.int (0 : Int32)), (.ref sv)])) rfl (by rw [hml]; rfl) rfl (hb hby own_d160) (by decide) (W := 0) (by show 2 * 0 + _ ≤ _; exact Nat.le_of_eq rfl) (by decide)
  have V252 : Arv Z h251 t kb .byte (Int32.ofNat cap) (own_sb cap (cs ++ ds)) (.int 0) := by rw [← own_app hcap hc4]; exact Vc251
  refine GoOn.step st251 ?_
  have O253 : Old Z n0 h251 := O0.keep K251 (allS gt all0)
  have Z254 : n0 ≤ h251.size := Nat.le_trans Z0 K251.1
  have E255 : Exa Z h251 a "java/lang/String" := Eq.keep K251
  have F256 : Fld Z h251 a "java/lang/String" "coder" "B" (.int 0) := Cq.keep K251 (ninS nat nin0)
  have F257 : Fld Z h251 a "java/lang/String" "value" "[B" (.ref sv) := Fq.keep K251 (ninS nat nin0)
  have V258 : Arv Z h251 sv kq .byte (Int32.ofNat ds.length) (own_bs ds) (.int 0) := Vq.keep K251 (ninS nsv nin0)
  have K259 : Keep h0 h251 [t] := K0t.trans K251 ((allS (Or.inl (by simp)) all0))
  show GoOn p e below (T251.setTop (mkF m 25 #[.val (.ref a), .val (.ref t), .val (.int (Int32.ofNat cs.length)), .val (.int (0 : Int32))] [])) _
  refine GoOn.step (fun tq kq => XS.goto X251.here hx rfl (pc0 := 25) (pc' := 43) rfl (hb hby own_d161) (by decide) (by decide) kq) ?_
  show GoOn p e below (T251.setTop (mkF m 43 #[.val (.ref a), .val (.ref t), .val (.int (Int32.ofNat cs.length)), .val (.int (0 : Int32))] [])) _
  refine GoOn.ret X251 Bd.notSynchronized (v := none) (fun _ => rfl) (fun fs hr => X251.returnOut hx Bd.returns (hb hby own_d162) hr) (by decide) (by decide) ?_
  rw [e251]
  exact ⟨rfl, N251, K259, V252⟩
set_option maxRecDepth 65536 in
set_option maxHeartbeats 40000000 in
theorem rmPut (l : Launch) (Z : State) (a0 : Array Value) (hw : ∀ d ∈ tables_1, d.before a0 Z = true) (a b t : Addr) (kb : ClassId) (cap : Nat) (cs ds : List Int32) (G1 : Int32) (h0 : Heap) (n0 : Nat) (Z0 : n0 ≤ h0.size) (SC : Sta Z Z.heap "java/lang/String" "COMPACT_STRINGS" "Z" (.int G1)) (PC : ¬ G1 = (0 : Int32)) (F0c : Fld Z h0 b "java/lang/AbstractStringBuilder" "coder" "B" (.int 0)) (F0v : Fld Z h0 b "java/lang/AbstractStringBuilder" "value" "[B" (.ref t)) (E0 : Exa Z h0 b "java/lang/StringBuilder") (V0 : Arv Z h0 t kb .byte (Int32.ofNat cap) (own_sb cap cs) (.int 0)) (S0 : StrIs Z h0 a ds) (gt : n0 ≤ t) (hsv : ∀ sv : Addr, Fld Z h0 a "java/lang/String" "value" "[B" (.ref sv) → sv ≠ t) (hcap : cs.length + ds.length ≤ cap) (hc4 : cap ≤ 4000) (O0 : Old Z n0 h0) :
    MetFree l (⟨"java/lang/AbstractStringBuilder", "putStringAt", "(ILjava/lang/String;)V"⟩ : MethodName) (head1 [Jvm.Cond.code (⟨"java/lang/AbstractStringBuilder", "putStringAt", "(ILjava/lang/String;)V"⟩ : MethodName) jdk_68_method_73_code 3 none] ({ frames := 2, cells := 0, slots := 0, locals := 33 } : Room)) (fun aa U => aa = #[(.ref b), (.int (Int32.ofNat cs.length)), (.ref a)] ∧ Z.Warmed39 U.vm ∧ U.heap = h0) (fun _ _ _ _ _ => True) (fun _ U o U' => ∃ v L, o = .returned v ∧ QGetB Z t kb cap (cs ++ ds) h0 n0 v U'.heap L ∧ FrameEnd U o U' L ({ frames := 2, cells := 0, slots := 0, locals := 33 } : Room).cells ({ frames := 2, cells := 0, slots := 0, locals := 33 } : Room).slots) := by
  refine MetFree.of_bodySF (plainFor_of_name own_pn123) hisR ?_
  intro p e s m args below meth c s₁ Bd hml0 hP hK
  obtain ⟨rfl, hZ, hh⟩ := hP
  have hx := Bd.exec
  have hby := Bd.bytes
  have hml : c.maxLocals = 3 := hml0
  have hown : s.vm.findClass "java/lang/AbstractStringBuilder" = some m.cls := findClass_of_methodNamed Bd.named
  have hnm := (name_of_methodNamed Bd.named Bd.method).1
  have X0 : Stand p l e ({ frames := 2, cells := 0, slots := 0, locals := 33 } : Room) s m #[(.ref b), (.int (Int32.ofNat cs.length)), (.ref a)] below meth c s₁ [] 0 0 := Stand.of_body Bd
  have e0 : s₁.heap = h0 := by rw [← hh, Bd.state]; rfl
  have N0 := Fr.nil n0
  have K0 : Keep h0 h0 [] := Keep.refl _ _
  show GoOn p e below (s₁.setTop (entryFrame m #[(.ref b), (.int (Int32.ofNat cs.length)), (.ref a)] 3)) (PostN s (QGetB Z t kb cap (cs ++ ds) h0 n0) ({ frames := 2, cells := 0, slots := 0, locals := 33 } : Room).cells ({ frames := 2, cells := 0, slots := 0, locals := 33 } : Room).slots)
  refine GoOn.step (fun tq kq => castTop (own_ef163 m b (Int32.ofNat cs.length) a) kq) ?_
  show GoOn p e below (s₁.setTop (mkF m 0 #[.val (.ref b), .val (.int (Int32.ofNat cs.length)), .val (.ref a)] [])) _
  have nbt : b ≠ t := Exa.neArv E0 V0 (hw _ (List.mem_of_getElem? (i := 20) rfl))
  have K0t : Keep h0 h0 [t] := Keep.refl _ _
  refine GoOn.step (fun tq kq => XS.aloadN X0.here hx rfl (hb hby own_d164) rfl rfl kq) ?_
  show GoOn p e below (s₁.setTop (mkF m 1 #[.val (.ref b), .val (.int (Int32.ofNat cs.length)), .val (.ref a)] [(.ref b)])) _
  refine GoOn.step (fun tq kq => XS.aloadN X0.here hx rfl (hb hby own_d165) rfl rfl kq) ?_
  show GoOn p e below (s₁.setTop (mkF m 2 #[.val (.ref b), .val (.int (Int32.ofNat cs.length)), .val (.ref a)] [(.ref a), (.ref b)])) _
  obtain ⟨cqc261, kqc261, qac261, qbc261, qcc261⟩ := isOf hZ e0 E0
  obtain ⟨_, _, ⟨T260, L260, k260, n260⟩, -, X260, ⟨Lc260, hQ260, l260, y260, z260⟩, st260⟩ := X0.virtualBack hx (y := (⟨"java/lang/AbstractStringBuilder", "inflateIfNeededFor", "(Ljava/lang/String;)V"⟩ : MethodName)) (z := (⟨"java/lang/AbstractStringBuilder", "inflateIfNeededFor", "(Ljava/lang/String;)V"⟩ : MethodName)) hown (mvT hZ (hw _ (List.mem_of_getElem? (i := 74) rfl))) (own_decl (args := _) (mvT hZ (hw _ (List.mem_of_getElem? (i := 75) rfl))) (mvT hZ (hw _ (List.mem_of_getElem? (i := 78) rfl)))) (notFace_of_selects (args := #[]) (mvT hZ (hw _ (List.mem_of_getElem? (i := 77) rfl)))) (mvT hZ (hw _ (List.mem_of_getElem? (i := 77) rfl))) (mvT hZ (hw _ (List.mem_of_getElem? (i := 75) rfl))) (by decide) (backOf (W := 0) (rmInfl l Z a0 hw a b ds G1 h0 n0 Z0 SC PC F0c S0 O0) hZ (hw _ (List.mem_of_getElem? (i := 78) rfl)) (hw _ (List.mem_of_getElem? (i := 29) rfl)) (by decide) (by decide)) qac261 qcc261 (g := (mkF m 2 #[.val (.ref b), .val (.int (Int32.ofNat cs.length)), .val (.ref a)] [(.ref a), (.ref b)])) rfl (by rw [hml]; rfl) (Steps.refl _) (argsL := [(.ref a)]) (rest := []) (lenOf own_pd26 rfl) rfl (by show 2 * 0 + _ ≤ _; exact Nat.le_of_eq rfl) (hb hby own_d166) (fun _ _ => ⟨rfl, e0, (by decide : 0 + 0 ≤ _), (by decide : 0 + 0 ≤ _)⟩)
  dsimp only [Pt.U, Pt.locs, Pt.cells, Pt.slots] at X260 l260 y260 z260 st260 hQ260
  subst l260 y260 z260
  obtain ⟨rfl, N260, e260⟩ := hQ260
  refine GoOn.trans st260 ?_
  have N262 := Fr.app N0 N260
  show GoOn p e below (T260.setTop (mkF m 5 #[.val (.ref b), .val (.int (Int32.ofNat cs.length)), .val (.ref a)] [])) _
  refine GoOn.step (fun tq kq => XS.aloadN X260.here hx rfl (hb hby own_d167) rfl rfl kq) ?_
  show GoOn p e below (T260.setTop (mkF m 6 #[.val (.ref b), .val (.int (Int32.ofNat cs.length)), .val (.ref a)] [(.ref a)])) _
  refine GoOn.step (fun tq kq => XS.aloadN X260.here hx rfl (hb hby own_d168) rfl rfl kq) ?_
  show GoOn p e below (T260.setTop (mkF m 7 #[.val (.ref b), .val (.int (Int32.ofNat cs.length)), .val (.ref a)] [(.ref b), (.ref a)])) _
  obtain ⟨T263, X263, e263, st263⟩ := getF X260 hx hZ hown (host := "") (Or.inl (hw _ (List.mem_of_getElem? (i := 35) rfl))) Via.refl e260 F0v (g := (mkF m 7 #[.val (.ref b), .val (.int (Int32.ofNat cs.length)), .val (.ref a)] [(.ref b), (.ref a)])) rfl rfl (hb hby own_d169)
  refine GoOn.step st263 ?_
  show GoOn p e below (T263.setTop (mkF m 10 #[.val (.ref b), .val (.int (Int32.ofNat cs.length)), .val (.ref a)] [(.ref t), (.ref a)])) _
  refine GoOn.step (fun tq kq => XS.iloadN X263.here hx rfl (hb hby own_d170) rfl kq) ?_
  show GoOn p e below (T263.setTop (mkF m 11 #[.val (.ref b), .val (.int (Int32.ofNat cs.length)), .val (.ref a)] [(.int (Int32.ofNat cs.length)), (.ref t), (.ref a)])) _
  refine GoOn.step (fun tq kq => XS.aloadN X263.here hx rfl (hb hby own_d171) rfl rfl kq) ?_
  show GoOn p e below (T263.setTop (mkF m 12 #[.val (.ref b), .val (.int (Int32.ofNat cs.length)), .val (.ref a)] [(.ref b), (.int (Int32.ofNat cs.length)), (.ref t), (.ref a)])) _
  obtain ⟨T264, X264, e264, st264⟩ := getF X263 hx hZ hown (host := "") (Or.inl (hw _ (List.mem_of_getElem? (i := 37) rfl))) Via.refl e263 F0c (g := (mkF m 12 #[.val (.ref b), .val (.int (Int32.ofNat cs.length)), .val (.ref a)] [(.ref b), (.int (Int32.ofNat cs.length)), (.ref t), (.ref a)])) rfl rfl (hb hby own_d172)
  refine GoOn.step st264 ?_
  show GoOn p e below (T264.setTop (mkF m 15 #[.val (.ref b), .val (.int (Int32.ofNat cs.length)), .val (.ref a)] [(.int 0), (.int (Int32.ofNat cs.length)), (.ref t), (.ref a)])) _
  obtain ⟨cqc266, kqc266, qac266, qbc266, qcc266⟩ := isOf hZ e264 S0.1
  obtain ⟨_, _, ⟨T265, L265, k265, n265⟩, -, X265, ⟨Lc265, hQ265, l265, y265, z265⟩, st265⟩ := X264.virtualBack hx (y := (⟨"java/lang/String", "getBytes", "([BIB)V"⟩ : MethodName)) (z := (⟨"java/lang/String", "getBytes", "([BIB)V"⟩ : MethodName)) hown (mvT hZ (hw _ (List.mem_of_getElem? (i := 80) rfl))) (mvT hZ (hw _ (List.mem_of_getElem? (i := 81) rfl))) (notFace_of_selects (args := #[]) (mvT hZ (hw _ (List.mem_of_getElem? (i := 83) rfl)))) (mvT hZ (hw _ (List.mem_of_getElem? (i := 83) rfl))) (mvT hZ (hw _ (List.mem_of_getElem? (i := 82) rfl))) (by decide) (backOf (W := 0) (rmGetB l Z a0 hw a t kb cap cs ds G1 h0 n0 Z0 SC PC V0 S0 gt hsv hcap hc4 O0) hZ (hw _ (List.mem_of_getElem? (i := 84) rfl)) (hw _ (List.mem_of_getElem? (i := 6) rfl)) (by decide) (by decide)) qac266 qcc266 (g := (mkF m 15 #[.val (.ref b), .val (.int (Int32.ofNat cs.length)), .val (.ref a)] [(.int 0), (.int (Int32.ofNat cs.length)), (.ref t), (.ref a)])) rfl (by rw [hml]; rfl) (Steps.refl _) (argsL := [(.ref t), (.int (Int32.ofNat cs.length)), (.int 0)]) (rest := []) (lenOf own_pd174 rfl) rfl (by show 2 * 0 + _ ≤ _; exact Nat.le_of_eq rfl) (hb hby own_d173) (fun _ _ => ⟨rfl, e264, (by decide : 0 + 0 ≤ _), (by decide : 0 + 0 ≤ _)⟩)
  dsimp only [Pt.U, Pt.locs, Pt.cells, Pt.slots] at X265 l265 y265 z265 st265 hQ265
  subst l265 y265 z265
  obtain ⟨rfl, N265, K265, V265⟩ := hQ265
  refine GoOn.trans st265 ?_
  have N267 := Fr.app N262 N265
  have F268 : Fld Z T265.heap b "java/lang/AbstractStringBuilder" "coder" "B" (.int 0) := F0c.keep K265 (ninS nbt nin0)
  have F269 : Fld Z T265.heap b "java/lang/AbstractStringBuilder" "value" "[B" (.ref t) := F0v.keep K265 (ninS nbt nin0)
  have E270 : Exa Z T265.heap b "java/lang/StringBuilder" := E0.keep K265
  have O272 : Old Z n0 T265.heap := O0.keep K265 (allS gt all0)
  have Z273 : n0 ≤ T265.heap.size := Nat.le_trans Z0 K265.1
  have K274 : Keep h0 T265.heap [t] := K0t.trans K265 ((allS (Or.inl (by simp)) all0))
  have E275 : Exa Z T265.heap a "java/lang/String" := S0.1.keep K265
  show GoOn p e below (T265.setTop (mkF m 18 #[.val (.ref b), .val (.int (Int32.ofNat cs.length)), .val (.ref a)] [])) _
  refine GoOn.ret X265 Bd.notSynchronized (v := none) (fun _ => rfl) (fun fs hr => X265.returnOut hx Bd.returns (hb hby own_d175) hr) (by decide) (by decide) ?_
  exact ⟨rfl, N267, K274, V265⟩
def QApp (Z : State) (b t : Addr) (kb : ClassId) (cap : Nat) (es : List Int32) (h0 : Heap) (n0 : Nat) (v : Option Value) (h : Heap) (L : List Loc) : Prop := v = some (.ref b) ∧ Fr n0 L ∧ Keep h0 h [b, t] ∧ Exa Z h b "java/lang/StringBuilder" ∧ Fld Z h b "java/lang/AbstractStringBuilder" "coder" "B" (.int 0) ∧ Fld Z h b "java/lang/AbstractStringBuilder" "count" "I" (.int (Int32.ofNat es.length)) ∧ Fld Z h b "java/lang/AbstractStringBuilder" "value" "[B" (.ref t) ∧ Arv Z h t kb .byte (Int32.ofNat cap) (own_sb cap es) (.int 0)
set_option maxRecDepth 65536 in
set_option maxHeartbeats 40000000 in
theorem rmASA (l : Launch) (Z : State) (a0 : Array Value) (hw : ∀ d ∈ tables_1, d.before a0 Z = true) (a b t : Addr) (kb : ClassId) (cap : Nat) (cs ds : List Int32) (G1 : Int32) (h0 : Heap) (n0 : Nat) (Z0 : n0 ≤ h0.size) (SC : Sta Z Z.heap "java/lang/String" "COMPACT_STRINGS" "Z" (.int G1)) (PC : ¬ G1 = (0 : Int32)) (E0 : Exa Z h0 b "java/lang/StringBuilder") (F0c : Fld Z h0 b "java/lang/AbstractStringBuilder" "coder" "B" (.int 0)) (F0n : Fld Z h0 b "java/lang/AbstractStringBuilder" "count" "I" (.int (Int32.ofNat cs.length))) (F0v : Fld Z h0 b "java/lang/AbstractStringBuilder" "value" "[B" (.ref t)) (V0 : Arv Z h0 t kb .byte (Int32.ofNat cap) (own_sb cap cs) (.int 0)) (S0 : StrIs Z h0 a ds) (gb : n0 ≤ b) (gt : n0 ≤ t) (hsv : ∀ sv : Addr, Fld Z h0 a "java/lang/String" "value" "[B" (.ref sv) → sv ≠ t) (hcap : cs.length + ds.length ≤ cap) (hc4 : cap ≤ 4000) (O0 : Old Z n0 h0) :
    MetFree l (⟨"java/lang/AbstractStringBuilder", "append", "(Ljava/lang/String;)Ljava/lang/AbstractStringBuilder;"⟩ : MethodName) (head1 [Jvm.Cond.code (⟨"java/lang/AbstractStringBuilder", "append", "(Ljava/lang/String;)Ljava/lang/AbstractStringBuilder;"⟩ : MethodName) jdk_68_method_22_code 3 (some (.object "java/lang/AbstractStringBuilder"))] ({ frames := 3, cells := 0, slots := 0, locals := 47 } : Room)) (fun aa U => aa = #[(.ref b), (.ref a)] ∧ Z.Warmed39 U.vm ∧ U.heap = h0) (fun _ _ _ _ _ => True) (fun _ U o U' => ∃ v L, o = .returned v ∧ QApp Z b t kb cap (cs ++ ds) h0 n0 v U'.heap L ∧ FrameEnd U o U' L ({ frames := 3, cells := 0, slots := 0, locals := 47 } : Room).cells ({ frames := 3, cells := 0, slots := 0, locals := 47 } : Room).slots) := by
  refine MetFree.of_bodySF (plainFor_of_name own_pn123) hisR ?_
  intro p e s m args below meth c s₁ Bd hml0 hP hK
  obtain ⟨rfl, hZ, hh⟩ := hP
  have hx := Bd.exec
  have hby := Bd.bytes
  have hml : c.maxLocals = 3 := hml0
  have hown : s.vm.findClass "java/lang/AbstractStringBuilder" = some m.cls := findClass_of_methodNamed Bd.named
  have hnm := (name_of_methodNamed Bd.named Bd.method).1
  have X0 : Stand p l e ({ frames := 3, cells := 0, slots := 0, locals := 47 } : Room) s m #[(.ref b), (.ref a)] below meth c s₁ [] 0 0 := Stand.of_body Bd
  have e0 : s₁.heap = h0 := by rw [← hh, Bd.state]; rfl
  have N0 := Fr.nil n0
  have K0 : Keep h0 h0 [] := Keep.refl _ _
  show GoOn p e below (s₁.setTop (entryFrame m #[(.ref b), (.ref a)] 3)) (PostN s (QApp Z b t kb cap (cs ++ ds) h0 n0) ({ frames := 3, cells := 0, slots := 0, locals := 47 } : Room).cells ({ frames := 3, cells := 0, slots := 0, locals := 47 } : Room).slots)
  refine GoOn.step (fun tq kq => castTop (own_ef176 m b a) kq) ?_
  show GoOn p e below (s₁.setTop (mkF m 0 #[.val (.ref b), .val (.ref a), .unset] [])) _
  have nbt : b ≠ t := Exa.neArv E0 V0 (hw _ (List.mem_of_getElem? (i := 20) rfl))
  have K0t : Keep h0 h0 [b, t] := Keep.refl _ _
  refine GoOn.step (fun tq kq => XS.aloadN X0.here hx rfl (hb hby own_d177) rfl rfl kq) ?_
  show GoOn p e below (s₁.setTop (mkF m 1 #[.val (.ref b), .val (.ref a), .unset] [(.ref a)])) _
  refine GoOn.step (fun tq kq => XS.ifnonnullYes X0.here hx rfl (pc0 := 1) (pc' := 9) rfl (hb hby own_d178) rfl (by decide) (by decide) kq) ?_
  show GoOn p e below (s₁.setTop (mkF m 9 #[.val (.ref b), .val (.ref a), .unset] [])) _
  refine GoOn.step (fun tq kq => XS.aloadN X0.here hx rfl (hb hby own_d179) rfl rfl kq) ?_
  show GoOn p e below (s₁.setTop (mkF m 10 #[.val (.ref b), .val (.ref a), .unset] [(.ref a)])) _
  obtain ⟨cqc277, kqc277, qac277, qbc277, qcc277⟩ := isOf hZ e0 S0.1
  obtain ⟨_, _, ⟨T276, L276, k276, n276⟩, -, X276, ⟨Lc276, hQ276, l276, y276, z276⟩, st276⟩ := X0.virtualBack hx (y := (⟨"java/lang/String", "length", "()I"⟩ : MethodName)) (z := (⟨"java/lang/String", "length", "()I"⟩ : MethodName)) hown (mvT hZ (hw _ (List.mem_of_getElem? (i := 49) rfl))) (mvT hZ (hw _ (List.mem_of_getElem? (i := 50) rfl))) (notFace_of_selects (args := #[]) (mvT hZ (hw _ (List.mem_of_getElem? (i := 52) rfl)))) (mvT hZ (hw _ (List.mem_of_getElem? (i := 52) rfl))) (mvT hZ (hw _ (List.mem_of_getElem? (i := 51) rfl))) (by decide) (backOf (W := 0) (rmLen l Z a0 hw a ds G1 h0 n0 Z0 SC PC S0 O0) hZ (hw _ (List.mem_of_getElem? (i := 53) rfl)) (hw _ (List.mem_of_getElem? (i := 6) rfl)) (by decide) (by decide)) qac277 qcc277 (g := (mkF m 10 #[.val (.ref b), .val (.ref a), .unset] [(.ref a)])) rfl (by rw [hml]; rfl) (Steps.refl _) (argsL := []) (rest := []) (lenOf own_pd181 rfl) rfl (by show 2 * 0 + _ ≤ _; exact Nat.le_of_eq rfl) (hb hby own_d180) (fun _ _ => ⟨rfl, e0, (by decide : 0 + 0 ≤ _), (by decide : 0 + 0 ≤ _)⟩)
  dsimp only [Pt.U, Pt.locs, Pt.cells, Pt.slots] at X276 l276 y276 z276 st276 hQ276
  subst l276 y276 z276
  obtain ⟨rfl, N276, e276⟩ := hQ276
  refine GoOn.trans st276 ?_
  have N278 := Fr.app N0 N276
  show GoOn p e below (T276.setTop (mkF m 13 #[.val (.ref b), .val (.ref a), .unset] [(.int (Int32.ofNat ds.length))])) _
  refine GoOn.step (fun tq kq => XS.istoreN X276.here hx rfl (hb hby own_d182) rfl (l' := #[.val (.ref b), .val (.ref a), .val (.int (Int32.ofNat ds.length))]) rfl kq) ?_
  show GoOn p e below (T276.setTop (mkF m 14 #[.val (.ref b), .val (.ref a), .val (.int (Int32.ofNat ds.length))] [])) _
  refine GoOn.step (fun tq kq => XS.aloadN X276.here hx rfl (hb hby own_d183) rfl rfl kq) ?_
  show GoOn p e below (T276.setTop (mkF m 15 #[.val (.ref b), .val (.ref a), .val (.int (Int32.ofNat ds.length))] [(.ref b)])) _
  refine GoOn.step (fun tq kq => XS.aloadN X276.here hx rfl (hb hby own_d184) rfl rfl kq) ?_
  show GoOn p e below (T276.setTop (mkF m 16 #[.val (.ref b), .val (.ref a), .val (.int (Int32.ofNat ds.length))] [(.ref b), (.ref b)])) _
  obtain ⟨T279, X279, e279, st279⟩ := getF X276 hx hZ hown (host := "") (Or.inl (hw _ (List.mem_of_getElem? (i := 62) rfl))) Via.refl e276 F0n (g := (mkF m 16 #[.val (.ref b), .val (.ref a), .val (.int (Int32.ofNat ds.length))] [(.ref b), (.ref b)])) rfl rfl (hb hby own_d185)
  refine GoOn.step st279 ?_
  show GoOn p e below (T279.setTop (mkF m 19 #[.val (.ref b), .val (.ref a), .val (.int (Int32.ofNat ds.length))] [(.int (Int32.ofNat cs.length)), (.ref b)])) _
  refine GoOn.step (fun tq kq => XS.iloadN X279.here hx rfl (hb hby own_d186) rfl kq) ?_
  show GoOn p e below (T279.setTop (mkF m 20 #[.val (.ref b), .val (.ref a), .val (.int (Int32.ofNat ds.length))] [(.int (Int32.ofNat ds.length)), (.int (Int32.ofNat cs.length)), (.ref b)])) _
  refine GoOn.step (fun tq kq => XS.iadd X279.here hx rfl (hb hby own_d187) rfl kq) ?_
  show GoOn p e below (T279.setTop (mkF m 21 #[.val (.ref b), .val (.ref a), .val (.int (Int32.ofNat ds.length))] [(.int ((Int32.ofNat cs.length) + (Int32.ofNat ds.length))), (.ref b)])) _
  rw [own_add32]
  show GoOn p e below (T279.setTop (mkF m 21 #[.val (.ref b), .val (.ref a), .val (.int (Int32.ofNat ds.length))] [(.int (Int32.ofNat (cs.length + ds.length))), (.ref b)])) _
  obtain ⟨cqc281, kqc281, qac281, qbc281, qcc281⟩ := isOf hZ e279 E0
  obtain ⟨_, _, ⟨T280, L280, k280, n280⟩, -, X280, ⟨Lc280, hQ280, l280, y280, z280⟩, st280⟩ := X279.virtualBack hx (y := (⟨"java/lang/AbstractStringBuilder", "ensureCapacityInternal", "(I)V"⟩ : MethodName)) (z := (⟨"java/lang/AbstractStringBuilder", "ensureCapacityInternal", "(I)V"⟩ : MethodName)) hown (mvT hZ (hw _ (List.mem_of_getElem? (i := 64) rfl))) (own_decl (args := _) (mvT hZ (hw _ (List.mem_of_getElem? (i := 65) rfl))) (mvT hZ (hw _ (List.mem_of_getElem? (i := 68) rfl)))) (notFace_of_selects (args := #[]) (mvT hZ (hw _ (List.mem_of_getElem? (i := 67) rfl)))) (mvT hZ (hw _ (List.mem_of_getElem? (i := 67) rfl))) (mvT hZ (hw _ (List.mem_of_getElem? (i := 65) rfl))) (by decide) (backOf (W := 0) (rmEns l Z a0 hw b t kb cap (cs.length + ds.length) (own_sb cap cs) h0 n0 Z0 F0c F0v V0 hcap hc4) hZ (hw _ (List.mem_of_getElem? (i := 68) rfl)) (hw _ (List.mem_of_getElem? (i := 29) rfl)) (by decide) (by decide)) qac281 qcc281 (g := (mkF m 21 #[.val (.ref b), .val (.ref a), .val (.int (Int32.ofNat ds.length))] [(.int (Int32.ofNat (cs.length + ds.length))), (.ref b)])) rfl (by rw [hml]; rfl) (Steps.refl _) (argsL := [(.int (Int32.ofNat (cs.length + ds.length)))]) (rest := []) (lenOf own_pd189 rfl) rfl (by show 2 * 0 + _ ≤ _; exact Nat.le_of_eq rfl) (hb hby own_d188) (fun _ _ => ⟨rfl, e279, (by decide : 0 + 0 ≤ _), (by decide : 0 + 0 ≤ _)⟩)
  dsimp only [Pt.U, Pt.locs, Pt.cells, Pt.slots] at X280 l280 y280 z280 st280 hQ280
  subst l280 y280 z280
  obtain ⟨rfl, N280, e280⟩ := hQ280
  refine GoOn.trans st280 ?_
  have N282 := Fr.app N278 N280
  show GoOn p e below (T280.setTop (mkF m 24 #[.val (.ref b), .val (.ref a), .val (.int (Int32.ofNat ds.length))] [])) _
  refine GoOn.step (fun tq kq => XS.aloadN X280.here hx rfl (hb hby own_d190) rfl rfl kq) ?_
  show GoOn p e below (T280.setTop (mkF m 25 #[.val (.ref b), .val (.ref a), .val (.int (Int32.ofNat ds.length))] [(.ref b)])) _
  refine GoOn.step (fun tq kq => XS.aloadN X280.here hx rfl (hb hby own_d191) rfl rfl kq) ?_
  show GoOn p e below (T280.setTop (mkF m 26 #[.val (.ref b), .val (.ref a), .val (.int (Int32.ofNat ds.length))] [(.ref b), (.ref b)])) _
  obtain ⟨T283, X283, e283, st283⟩ := getF X280 hx hZ hown (host := "") (Or.inl (hw _ (List.mem_of_getElem? (i := 62) rfl))) Via.refl e280 F0n (g := (mkF m 26 #[.val (.ref b), .val (.ref a), .val (.int (Int32.ofNat ds.length))] [(.ref b), (.ref b)])) rfl rfl (hb hby own_d192)
  refine GoOn.step st283 ?_
  show GoOn p e below (T283.setTop (mkF m 29 #[.val (.ref b), .val (.ref a), .val (.int (Int32.ofNat ds.length))] [(.int (Int32.ofNat cs.length)), (.ref b)])) _
  refine GoOn.step (fun tq kq => XS.aloadN X283.here hx rfl (hb hby own_d193) rfl rfl kq) ?_
  show GoOn p e below (T283.setTop (mkF m 30 #[.val (.ref b), .val (.ref a), .val (.int (Int32.ofNat ds.length))] [(.ref a), (.int (Int32.ofNat cs.length)), (.ref b)])) _
  obtain ⟨cqc285, kqc285, qac285, qbc285, qcc285⟩ := isOf hZ e283 E0
  obtain ⟨_, _, ⟨T284, L284, k284, n284⟩, -, X284, ⟨Lc284, hQ284, l284, y284, z284⟩, st284⟩ := X283.virtualBack hx (y := (⟨"java/lang/AbstractStringBuilder", "putStringAt", "(ILjava/lang/String;)V"⟩ : MethodName)) (z := (⟨"java/lang/AbstractStringBuilder", "putStringAt", "(ILjava/lang/String;)V"⟩ : MethodName)) hown (mvT hZ (hw _ (List.mem_of_getElem? (i := 69) rfl))) (own_decl (args := _) (mvT hZ (hw _ (List.mem_of_getElem? (i := 70) rfl))) (mvT hZ (hw _ (List.mem_of_getElem? (i := 73) rfl)))) (notFace_of_selects (args := #[]) (mvT hZ (hw _ (List.mem_of_getElem? (i := 72) rfl)))) (mvT hZ (hw _ (List.mem_of_getElem? (i := 72) rfl))) (mvT hZ (hw _ (List.mem_of_getElem? (i := 70) rfl))) (by decide) (backOf (W := 0) (rmPut l Z a0 hw a b t kb cap cs ds G1 h0 n0 Z0 SC PC F0c F0v E0 V0 S0 gt hsv hcap hc4 O0) hZ (hw _ (List.mem_of_getElem? (i := 73) rfl)) (hw _ (List.mem_of_getElem? (i := 29) rfl)) (by decide) (by decide)) qac285 qcc285 (g := (mkF m 30 #[.val (.ref b), .val (.ref a), .val (.int (Int32.ofNat ds.length))] [(.ref a), (.int (Int32.ofNat cs.length)), (.ref b)])) rfl (by rw [hml]; rfl) (Steps.refl _) (argsL := [(.int (Int32.ofNat cs.length)), (.ref a)]) (rest := []) (lenOf own_pd195 rfl) rfl (by show 2 * 0 + _ ≤ _; exact Nat.le_of_eq rfl) (hb hby own_d194) (fun _ _ => ⟨rfl, e283, (by decide : 0 + 0 ≤ _), (by decide : 0 + 0 ≤ _)⟩)
  dsimp only [Pt.U, Pt.locs, Pt.cells, Pt.slots] at X284 l284 y284 z284 st284 hQ284
  subst l284 y284 z284
  obtain ⟨rfl, N284, K284, V284⟩ := hQ284
  refine GoOn.trans st284 ?_
  have N286 := Fr.app N282 N284
  have E287 : Exa Z T284.heap b "java/lang/StringBuilder" := E0.keep K284
  have F288 : Fld Z T284.heap b "java/lang/AbstractStringBuilder" "coder" "B" (.int 0) := F0c.keep K284 (ninS nbt nin0)
  have F289 : Fld Z T284.heap b "java/lang/AbstractStringBuilder" "count" "I" (.int (Int32.ofNat cs.length)) := F0n.keep K284 (ninS nbt nin0)
  have F290 : Fld Z T284.heap b "java/lang/AbstractStringBuilder" "value" "[B" (.ref t) := F0v.keep K284 (ninS nbt nin0)
  have O292 : Old Z n0 T284.heap := O0.keep K284 (allS gt all0)
  have Z293 : n0 ≤ T284.heap.size := Nat.le_trans Z0 K284.1
  have K294 : Keep h0 T284.heap [b, t] := K0t.trans K284 ((allS (Or.inl (by simp)) all0))
  show GoOn p e below (T284.setTop (mkF m 33 #[.val (.ref b), .val (.ref a), .val (.int (Int32.ofNat ds.length))] [])) _
  refine GoOn.step (fun tq kq => XS.aloadN X284.here hx rfl (hb hby own_d196) rfl rfl kq) ?_
  show GoOn p e below (T284.setTop (mkF m 34 #[.val (.ref b), .val (.ref a), .val (.int (Int32.ofNat ds.length))] [(.ref b)])) _
  refine GoOn.step (fun tq kq => XS.dup X284.here hx rfl (hb hby own_d197) rfl rfl kq) ?_
  show GoOn p e below (T284.setTop (mkF m 35 #[.val (.ref b), .val (.ref a), .val (.int (Int32.ofNat ds.length))] [(.ref b), (.ref b)])) _
  obtain ⟨T295, X295, e295, st295⟩ := getF X284 hx hZ hown (host := "") (Or.inl (hw _ (List.mem_of_getElem? (i := 62) rfl))) Via.refl rfl F289 (g := (mkF m 35 #[.val (.ref b), .val (.ref a), .val (.int (Int32.ofNat ds.length))] [(.ref b), (.ref b)])) rfl rfl (hb hby own_d198)
  refine GoOn.step st295 ?_
  show GoOn p e below (T295.setTop (mkF m 38 #[.val (.ref b), .val (.ref a), .val (.int (Int32.ofNat ds.length))] [(.int (Int32.ofNat cs.length)), (.ref b)])) _
  refine GoOn.step (fun tq kq => XS.iloadN X295.here hx rfl (hb hby own_d199) rfl kq) ?_
  show GoOn p e below (T295.setTop (mkF m 39 #[.val (.ref b), .val (.ref a), .val (.int (Int32.ofNat ds.length))] [(.int (Int32.ofNat ds.length)), (.int (Int32.ofNat cs.length)), (.ref b)])) _
  refine GoOn.step (fun tq kq => XS.iadd X295.here hx rfl (hb hby own_d200) rfl kq) ?_
  show GoOn p e below (T295.setTop (mkF m 40 #[.val (.ref b), .val (.ref a), .val (.int (Int32.ofNat ds.length))] [(.int ((Int32.ofNat cs.length) + (Int32.ofNat ds.length))), (.ref b)])) _
  rw [own_add32]
  show GoOn p e below (T295.setTop (mkF m 40 #[.val (.ref b), .val (.ref a), .val (.int (Int32.ofNat ds.length))] [(.int (Int32.ofNat (cs.length + ds.length))), (.ref b)])) _
  obtain ⟨T296, h296, X296, e296, W296, st296⟩ := putF X295 hx hZ hown (host := "") (Or.inl (hw _ (List.mem_of_getElem? (i := 62) rfl))) Via.refl e295 F289 E287 (Or.inl (hw _ (List.mem_of_getElem? (i := 63) rfl))) (hw _ (List.mem_of_getElem? (i := 20) rfl)) (ty := .int) (by decide) rfl rfl (g := (mkF m 40 #[.val (.ref b), .val (.ref a), .val (.int (Int32.ofNat ds.length))] [(.int (Int32.ofNat (cs.length + ds.length))), (.ref b)])) rfl rfl (hb hby own_d201)
  have N297 := Fr.snoc X296 N286 gb
  have Kx296 : Keep T284.heap h296 [b] := Keep.of_wr W296
  have F298 : Fld Z h296 b "java/lang/AbstractStringBuilder" "count" "I" (.int (Int32.ofNat (cs.length + ds.length))) := F289.same W296
  have F299 : Fld Z h296 b "java/lang/AbstractStringBuilder" "coder" "B" (.int 0) := F288.other W296 (Or.inr (slot_ne (a0 := a0) (Or.inl (hw _ (List.mem_of_getElem? (i := 38) rfl))) (Or.inl (hw _ (List.mem_of_getElem? (i := 63) rfl))) (by decide) (t := .byte) (t' := .int) (by decide) (by decide)))
  have F300 : Fld Z h296 b "java/lang/AbstractStringBuilder" "value" "[B" (.ref t) := F290.other W296 (Or.inr (slot_ne (a0 := a0) (Or.inl (hw _ (List.mem_of_getElem? (i := 36) rfl))) (Or.inl (hw _ (List.mem_of_getElem? (i := 63) rfl))) (by decide) (t := (.array .byte)) (t' := .int) (by decide) (by decide)))
  refine GoOn.step st296 ?_
  have E301 : Exa Z h296 b "java/lang/StringBuilder" := E287.keep Kx296
  have O305 : Old Z n0 h296 := O292.keep Kx296 (allS gb all0)
  have Z306 : n0 ≤ h296.size := Nat.le_trans Z293 Kx296.1
  have K307 : Keep h0 h296 [b, t] := K294.trans Kx296 ((allS (Or.inl (by simp)) all0))
  have V308 : Arv Z h296 t kb .byte (Int32.ofNat cap) (own_sb cap (cs ++ ds)) (.int 0) := V284.keep Kx296 (ninS (Ne.symm nbt) nin0)
  show GoOn p e below (T296.setTop (mkF m 43 #[.val (.ref b), .val (.ref a), .val (.int (Int32.ofNat ds.length))] [])) _
  refine GoOn.step (fun tq kq => XS.aloadN X296.here hx rfl (hb hby own_d202) rfl rfl kq) ?_
  show GoOn p e below (T296.setTop (mkF m 44 #[.val (.ref b), .val (.ref a), .val (.int (Int32.ofNat ds.length))] [(.ref b)])) _
  rw [← List.length_append] at F298
  refine GoOn.ret X296 Bd.notSynchronized (v := some (.ref b)) (fun h => by rw [Bd.returns] at h; cases h) (fun fs hr => retOut X296 hx Bd.returns rfl (Or.inr (Or.inr (Or.inr (Or.inr ⟨rfl, rfl, rfl⟩)))) (hb hby own_d203) hr) (by decide) (by decide) ?_
  rw [e296]
  exact ⟨rfl, N297, K307, E301, F299, F298, F300, V308⟩
set_option maxRecDepth 65536 in
set_option maxHeartbeats 40000000 in
theorem rmSBA (l : Launch) (Z : State) (a0 : Array Value) (hw : ∀ d ∈ tables_1, d.before a0 Z = true) (a b t : Addr) (kb : ClassId) (cap : Nat) (cs ds : List Int32) (G1 : Int32) (h0 : Heap) (n0 : Nat) (Z0 : n0 ≤ h0.size) (SC : Sta Z Z.heap "java/lang/String" "COMPACT_STRINGS" "Z" (.int G1)) (PC : ¬ G1 = (0 : Int32)) (E0 : Exa Z h0 b "java/lang/StringBuilder") (F0c : Fld Z h0 b "java/lang/AbstractStringBuilder" "coder" "B" (.int 0)) (F0n : Fld Z h0 b "java/lang/AbstractStringBuilder" "count" "I" (.int (Int32.ofNat cs.length))) (F0v : Fld Z h0 b "java/lang/AbstractStringBuilder" "value" "[B" (.ref t)) (V0 : Arv Z h0 t kb .byte (Int32.ofNat cap) (own_sb cap cs) (.int 0)) (S0 : StrIs Z h0 a ds) (gb : n0 ≤ b) (gt : n0 ≤ t) (hsv : ∀ sv : Addr, Fld Z h0 a "java/lang/String" "value" "[B" (.ref sv) → sv ≠ t) (hcap : cs.length + ds.length ≤ cap) (hc4 : cap ≤ 4000) (O0 : Old Z n0 h0) :
    MetFree l (⟨"java/lang/StringBuilder", "append", "(Ljava/lang/String;)Ljava/lang/StringBuilder;"⟩ : MethodName) (head1 [Jvm.Cond.code (⟨"java/lang/StringBuilder", "append", "(Ljava/lang/String;)Ljava/lang/StringBuilder;"⟩ : MethodName) jdk_67_method_7_code 2 (some (.object "java/lang/StringBuilder"))] ({ frames := 4, cells := 0, slots := 0, locals := 61 } : Room)) (fun aa U => aa = #[(.ref b), (.ref a)] ∧ Z.Warmed39 U.vm ∧ U.heap = h0) (fun _ _ _ _ _ => True) (fun _ U o U' => ∃ v L, o = .returned v ∧ QApp Z b t kb cap (cs ++ ds) h0 n0 v U'.heap L ∧ FrameEnd U o U' L ({ frames := 4, cells := 0, slots := 0, locals := 61 } : Room).cells ({ frames := 4, cells := 0, slots := 0, locals := 61 } : Room).slots) := by
  refine MetFree.of_bodySF (plainFor_of_name own_pn205) hisR ?_
  intro p e s m args below meth c s₁ Bd hml0 hP hK
  obtain ⟨rfl, hZ, hh⟩ := hP
  have hx := Bd.exec
  have hby := Bd.bytes
  have hml : c.maxLocals = 2 := hml0
  have hown : s.vm.findClass "java/lang/StringBuilder" = some m.cls := findClass_of_methodNamed Bd.named
  have hnm := (name_of_methodNamed Bd.named Bd.method).1
  have X0 : Stand p l e ({ frames := 4, cells := 0, slots := 0, locals := 61 } : Room) s m #[(.ref b), (.ref a)] below meth c s₁ [] 0 0 := Stand.of_body Bd
  have e0 : s₁.heap = h0 := by rw [← hh, Bd.state]; rfl
  have N0 := Fr.nil n0
  have K0 : Keep h0 h0 [] := Keep.refl _ _
  show GoOn p e below (s₁.setTop (entryFrame m #[(.ref b), (.ref a)] 2)) (PostN s (QApp Z b t kb cap (cs ++ ds) h0 n0) ({ frames := 4, cells := 0, slots := 0, locals := 61 } : Room).cells ({ frames := 4, cells := 0, slots := 0, locals := 61 } : Room).slots)
  refine GoOn.step (fun tq kq => castTop (own_ef204 m b a) kq) ?_
  show GoOn p e below (s₁.setTop (mkF m 0 #[.val (.ref b), .val (.ref a)] [])) _
  have nbt : b ≠ t := Exa.neArv E0 V0 (hw _ (List.mem_of_getElem? (i := 20) rfl))
  have K0t : Keep h0 h0 [b, t] := Keep.refl _ _
  refine GoOn.step (fun tq kq => XS.aloadN X0.here hx rfl (hb hby own_d206) rfl rfl kq) ?_
  show GoOn p e below (s₁.setTop (mkF m 1 #[.val (.ref b), .val (.ref a)] [(.ref b)])) _
  refine GoOn.step (fun tq kq => XS.aloadN X0.here hx rfl (hb hby own_d207) rfl rfl kq) ?_
  show GoOn p e below (s₁.setTop (mkF m 2 #[.val (.ref b), .val (.ref a)] [(.ref a), (.ref b)])) _
  obtain ⟨_, _, ⟨T309, L309, k309, n309⟩, -, X309, ⟨Lc309, hQ309, l309, y309, z309⟩, st309⟩ := superBack X0 hx hZ hown (hw _ (List.mem_of_getElem? (i := 44) rfl)) (own_same (hw _ (List.mem_of_getElem? (i := 45) rfl)) ⟨(hw _ (List.mem_of_getElem? (i := 107) rfl)), rfl⟩ (by decide)) (hw _ (List.mem_of_getElem? (i := 45) rfl)) (hw _ (List.mem_of_getElem? (i := 46) rfl)) (by decide) (backOf (W := 0) (rmASA l Z a0 hw a b t kb cap cs ds G1 h0 n0 Z0 SC PC E0 F0c F0n F0v V0 S0 gb gt hsv hcap hc4 O0) hZ (hw _ (List.mem_of_getElem? (i := 48) rfl)) (hw _ (List.mem_of_getElem? (i := 29) rfl)) (by decide) (by decide)) e0 (Ins.self E0) (g := (mkF m 2 #[.val (.ref b), .val (.ref a)] [(.ref a), (.ref b)])) rfl (by rw [hml]; rfl) (hw _ (List.mem_of_getElem? (i := 48) rfl)) (argsL := [(.ref a)]) (rest := []) (lenOf own_pd209 rfl) rfl (by show 2 * 0 + _ ≤ _; exact Nat.le_of_eq rfl) (hb hby own_d208) (fun _ _ => ⟨rfl, e0, (by decide : 0 + 0 ≤ _), (by decide : 0 + 0 ≤ _)⟩)
  dsimp only [Pt.U, Pt.locs, Pt.cells, Pt.slots] at X309 l309 y309 z309 st309 hQ309
  subst l309 y309 z309
  obtain ⟨rfl, N309, K309, E309, Fc309, Fn309, Fv309, V309⟩ := hQ309
  refine GoOn.trans st309 ?_
  have N310 := Fr.app N0 N309
  have E311 : Exa Z T309.heap b "java/lang/StringBuilder" := E0.keep K309
  have O316 : Old Z n0 T309.heap := O0.keep K309 (allS gb (allS gt all0))
  have Z317 : n0 ≤ T309.heap.size := Nat.le_trans Z0 K309.1
  have K318 : Keep h0 T309.heap [b, t] := K0t.trans K309 ((allS (Or.inl (by simp)) (allS (Or.inl (by simp)) all0)))
  show GoOn p e below (T309.setTop (mkF m 5 #[.val (.ref b), .val (.ref a)] [(.ref b)])) _
  refine GoOn.step (fun tq kq => XS.pop X309.here hx rfl (hb hby own_d210) rfl rfl kq) ?_
  show GoOn p e below (T309.setTop (mkF m 6 #[.val (.ref b), .val (.ref a)] [])) _
  refine GoOn.step (fun tq kq => XS.aloadN X309.here hx rfl (hb hby own_d211) rfl rfl kq) ?_
  show GoOn p e below (T309.setTop (mkF m 7 #[.val (.ref b), .val (.ref a)] [(.ref b)])) _
  refine GoOn.ret X309 Bd.notSynchronized (v := some (.ref b)) (fun h => by rw [Bd.returns] at h; cases h) (fun fs hr => retOut X309 hx Bd.returns rfl (Or.inr (Or.inr (Or.inr (Or.inr ⟨rfl, rfl, rfl⟩)))) (hb hby own_d212) hr) (by decide) (by decide) ?_
  exact ⟨rfl, N310, K318, E309, Fc309, Fn309, Fv309, V309⟩
def QSBI (Z : State) (b : Addr) (h0 : Heap) (n0 : Nat) (v : Option Value) (h : Heap) (L : List Loc) : Prop := ∃ (t : Addr) (kb : ClassId), v = none ∧ Fr n0 L ∧ Keep h0 h [b] ∧ h0.size ≤ t ∧ Exa Z h b "java/lang/StringBuilder" ∧ Fld Z h b "java/lang/AbstractStringBuilder" "coder" "B" (.int 0) ∧ Fld Z h b "java/lang/AbstractStringBuilder" "count" "I" (.int 0) ∧ Fld Z h b "java/lang/AbstractStringBuilder" "value" "[B" (.ref t) ∧ Arv Z h t kb .byte (16 : Int32) [] (.int 0)
set_option maxRecDepth 65536 in
set_option maxHeartbeats 40000000 in
theorem rmASI (l : Launch) (Z : State) (a0 : Array Value) (hw : ∀ d ∈ tables_1, d.before a0 Z = true) (b : Addr) (G1 : Int32) (h0 : Heap) (n0 : Nat) (Z0 : n0 ≤ h0.size) (SC : Sta Z Z.heap "java/lang/String" "COMPACT_STRINGS" "Z" (.int G1)) (PC : ¬ G1 = (0 : Int32)) (E0 : Exa Z h0 b "java/lang/StringBuilder") (F0c : Fld Z h0 b "java/lang/AbstractStringBuilder" "coder" "B" (.int (0 : Int32))) (F0n : Fld Z h0 b "java/lang/AbstractStringBuilder" "count" "I" (.int (0 : Int32))) (F0v : Fld Z h0 b "java/lang/AbstractStringBuilder" "value" "[B" .null) (gb : n0 ≤ b) (O0 : Old Z n0 h0) :
    MetFree l (⟨"java/lang/AbstractStringBuilder", "<init>", "(I)V"⟩ : MethodName) (head1 [Jvm.Cond.code (⟨"java/lang/AbstractStringBuilder", "<init>", "(I)V"⟩ : MethodName) jdk_68_method_2_code 2 none] ({ frames := 1, cells := 1, slots := 16, locals := 12 } : Room)) (fun aa U => aa = #[(.ref b), (.int (16 : Int32))] ∧ Z.Warmed39 U.vm ∧ U.heap = h0) (fun _ _ _ _ _ => True) (fun _ U o U' => ∃ v L, o = .returned v ∧ QSBI Z b h0 n0 v U'.heap L ∧ FrameEnd U o U' L ({ frames := 1, cells := 1, slots := 16, locals := 12 } : Room).cells ({ frames := 1, cells := 1, slots := 16, locals := 12 } : Room).slots) := by
  refine MetFree.of_bodySF (plainFor_of_name own_pn123) hisR ?_
  intro p e s m args below meth c s₁ Bd hml0 hP hK
  obtain ⟨rfl, hZ, hh⟩ := hP
  have hx := Bd.exec
  have hby := Bd.bytes
  have hml : c.maxLocals = 2 := hml0
  have hown : s.vm.findClass "java/lang/AbstractStringBuilder" = some m.cls := findClass_of_methodNamed Bd.named
  have hnm := (name_of_methodNamed Bd.named Bd.method).1
  have X0 : Stand p l e ({ frames := 1, cells := 1, slots := 16, locals := 12 } : Room) s m #[(.ref b), (.int (16 : Int32))] below meth c s₁ [] 0 0 := Stand.of_body Bd
  have e0 : s₁.heap = h0 := by rw [← hh, Bd.state]; rfl
  have N0 := Fr.nil n0
  have K0 : Keep h0 h0 [] := Keep.refl _ _
  show GoOn p e below (s₁.setTop (entryFrame m #[(.ref b), (.int (16 : Int32))] 2)) (PostN s (QSBI Z b h0 n0) ({ frames := 1, cells := 1, slots := 16, locals := 12 } : Room).cells ({ frames := 1, cells := 1, slots := 16, locals := 12 } : Room).slots)
  refine GoOn.step (fun tq kq => castTop (own_ef213 m b (16 : Int32)) kq) ?_
  show GoOn p e below (s₁.setTop (mkF m 0 #[.val (.ref b), .val (.int (16 : Int32))] [])) _
  have K0b : Keep h0 h0 [b] := Keep.refl _ _
  refine GoOn.step (fun tq kq => XS.aloadN X0.here hx rfl (hb hby own_d214) rfl rfl kq) ?_
  show GoOn p e below (s₁.setTop (mkF m 1 #[.val (.ref b), .val (.int (16 : Int32))] [(.ref b)])) _
  obtain ⟨T319, X319, e319, st319⟩ := initO X0 hx hZ hown (hw _ (List.mem_of_getElem? (i := 31) rfl)) (hw _ (List.mem_of_getElem? (i := 32) rfl)) (hw _ (List.mem_of_getElem? (i := 33) rfl)) e0 (g := (mkF m 1 #[.val (.ref b), .val (.int (16 : Int32))] [(.ref b)])) rfl (by rw [hml]; rfl) rfl (hb hby own_d215) (by decide) (W := 0) (by show 2 * 0 + _ ≤ _; exact Nat.le_of_eq rfl) (by decide)
  refine GoOn.step st319 ?_
  show GoOn p e below (T319.setTop (mkF m 4 #[.val (.ref b), .val (.int (16 : Int32))] [])) _
  obtain ⟨T320, X320, e320, st320⟩ := getS2 X319 hx hZ hown (host := "") (Or.inl (hw _ (List.mem_of_getElem? (i := 34) rfl))) Via.refl e319 (SC.ext O0.2) (g := (mkF m 4 #[.val (.ref b), .val (.int (16 : Int32))] [])) rfl (hb hby own_d216)
  refine GoOn.step st320 ?_
  show GoOn p e below (T320.setTop (mkF m 7 #[.val (.ref b), .val (.int (16 : Int32))] [(.int G1)])) _
  refine GoOn.step (fun tq kq => XS.ifNo X320.here hx rfl (hb hby own_d217) rfl ((if0 _ _).trans (feq PC).1) kq) ?_
  show GoOn p e below (T320.setTop (mkF m 10 #[.val (.ref b), .val (.int (16 : Int32))] [])) _
  refine GoOn.step (fun tq kq => XS.aloadN X320.here hx rfl (hb hby own_d218) rfl rfl kq) ?_
  show GoOn p e below (T320.setTop (mkF m 11 #[.val (.ref b), .val (.int (16 : Int32))] [(.ref b)])) _
  refine GoOn.step (fun tq kq => XS.iloadN X320.here hx rfl (hb hby own_d219) rfl kq) ?_
  show GoOn p e below (T320.setTop (mkF m 12 #[.val (.ref b), .val (.int (16 : Int32))] [(.int (16 : Int32)), (.ref b)])) _
  obtain ⟨T321, h321, k321, X321, e321, Ex321, A321, st321⟩ := newP X320 hx hZ (hw _ (List.mem_of_getElem? (i := 8) rfl)) e320 (g := (mkF m 12 #[.val (.ref b), .val (.int (16 : Int32))] [(.int (16 : Int32)), (.ref b)])) rfl (hb hby own_d220) rfl (by decide) (cap := 16) (by decide) (by decide) (by decide) (by decide)
  obtain ⟨t, g321⟩ : ∃ z, z = h0.size := ⟨_, rfl⟩
  rw [← g321] at A321 st321
  have ne322 : b ≠ t := Nat.ne_of_lt (Nat.lt_of_lt_of_le E0.lt (Nat.le_of_eq g321.symm))
  have gn323 : n0 ≤ t := Nat.le_trans Z0 (Nat.le_of_eq g321.symm)
  have sz324 : h0.size ≤ t := Nat.le_trans K0b.1 (Nat.le_of_eq g321.symm)
  have Kx321 : Keep h0 h321 [] := (Keep.refl _ _).ext Ex321
  refine GoOn.step st321 ?_
  have E325 : Exa Z h321 b "java/lang/StringBuilder" := E0.keep Kx321
  have F326 : Fld Z h321 b "java/lang/AbstractStringBuilder" "coder" "B" (.int (0 : Int32)) := F0c.keep Kx321 nin0
  have F327 : Fld Z h321 b "java/lang/AbstractStringBuilder" "count" "I" (.int (0 : Int32)) := F0n.keep Kx321 nin0
  have F328 : Fld Z h321 b "java/lang/AbstractStringBuilder" "value" "[B" .null := F0v.keep Kx321 nin0
  have O329 : Old Z n0 h321 := O0.keep Kx321 all0
  have Z330 : n0 ≤ h321.size := Nat.le_trans Z0 Kx321.1
  have K331 : Keep h0 h321 [b] := K0b.trans Kx321 (all0)
  have V332 : Arv Z h321 t k321 .byte (16 : Int32) [] (.int (0 : Int32)) := Arv.new A321 (by decide)
  show GoOn p e below (T321.setTop (mkF m 14 #[.val (.ref b), .val (.int (16 : Int32))] [(.ref t), (.ref b)])) _
  obtain ⟨T333, h333, X333, e333, W333, st333⟩ := putF X321 hx hZ hown (host := "") (Or.inl (hw _ (List.mem_of_getElem? (i := 35) rfl))) Via.refl e321 F328 E325 (Or.inl (hw _ (List.mem_of_getElem? (i := 36) rfl))) (hw _ (List.mem_of_getElem? (i := 20) rfl)) (ty := (.array .byte)) (by decide) rfl rfl (g := (mkF m 14 #[.val (.ref b), .val (.int (16 : Int32))] [(.ref t), (.ref b)])) rfl rfl (hb hby own_d221)
  have N334 := Fr.snoc X333 N0 gb
  have Kx333 : Keep h321 h333 [b] := Keep.of_wr W333
  have F335 : Fld Z h333 b "java/lang/AbstractStringBuilder" "value" "[B" (.ref t) := F328.same W333
  have F336 : Fld Z h333 b "java/lang/AbstractStringBuilder" "coder" "B" (.int (0 : Int32)) := F326.other W333 (Or.inr (slot_ne (a0 := a0) (Or.inl (hw _ (List.mem_of_getElem? (i := 38) rfl))) (Or.inl (hw _ (List.mem_of_getElem? (i := 36) rfl))) (by decide) (t := .byte) (t' := (.array .byte)) (by decide) (by decide)))
  have F337 : Fld Z h333 b "java/lang/AbstractStringBuilder" "count" "I" (.int (0 : Int32)) := F327.other W333 (Or.inr (slot_ne (a0 := a0) (Or.inl (hw _ (List.mem_of_getElem? (i := 63) rfl))) (Or.inl (hw _ (List.mem_of_getElem? (i := 36) rfl))) (by decide) (t := .int) (t' := (.array .byte)) (by decide) (by decide)))
  refine GoOn.step st333 ?_
  have E338 : Exa Z h333 b "java/lang/StringBuilder" := E325.keep Kx333
  have O342 : Old Z n0 h333 := O329.keep Kx333 (allS gb all0)
  have Z343 : n0 ≤ h333.size := Nat.le_trans Z330 Kx333.1
  have K344 : Keep h0 h333 [b] := K331.trans Kx333 ((allS (Or.inl (by simp)) all0))
  have V345 : Arv Z h333 t k321 .byte (16 : Int32) [] (.int (0 : Int32)) := V332.keep Kx333 (ninS (Ne.symm ne322) nin0)
  show GoOn p e below (T333.setTop (mkF m 17 #[.val (.ref b), .val (.int (16 : Int32))] [])) _
  refine GoOn.step (fun tq kq => XS.aloadN X333.here hx rfl (hb hby own_d222) rfl rfl kq) ?_
  show GoOn p e below (T333.setTop (mkF m 18 #[.val (.ref b), .val (.int (16 : Int32))] [(.ref b)])) _
  refine GoOn.step (fun tq kq => XS.iconst X333.here hx rfl (hb hby own_d223) kq) ?_
  show GoOn p e below (T333.setTop (mkF m 19 #[.val (.ref b), .val (.int (16 : Int32))] [(.int (0 : Int32)), (.ref b)])) _
  obtain ⟨T346, h346, X346, e346, W346, st346⟩ := putFN X333 hx hZ hown (hw _ (List.mem_of_getElem? (i := 37) rfl)) Via.refl e333 F336 E338 (Or.inl (hw _ (List.mem_of_getElem? (i := 38) rfl))) (hw _ (List.mem_of_getElem? (i := 20) rfl)) (ty := .byte) (v' := (.int (nar .byte (0 : Int32)))) (by decide) rfl (fits_nar_byte _) (g := (mkF m 19 #[.val (.ref b), .val (.int (16 : Int32))] [(.int (0 : Int32)), (.ref b)])) rfl rfl (hb hby own_d224)
  have N347 := Fr.snoc X346 N334 gb
  have Kx346 : Keep h333 h346 [b] := Keep.of_wr W346
  have F348 : Fld Z h346 b "java/lang/AbstractStringBuilder" "coder" "B" (.int (nar .byte (0 : Int32))) := F336.same W346
  have F349 : Fld Z h346 b "java/lang/AbstractStringBuilder" "value" "[B" (.ref t) := F335.other W346 (Or.inr (slot_ne (a0 := a0) (Or.inl (hw _ (List.mem_of_getElem? (i := 36) rfl))) (Or.inl (hw _ (List.mem_of_getElem? (i := 38) rfl))) (by decide) (t := (.array .byte)) (t' := .byte) (by decide) (by decide)))
  have F350 : Fld Z h346 b "java/lang/AbstractStringBuilder" "count" "I" (.int (0 : Int32)) := F337.other W346 (Or.inr (slot_ne (a0 := a0) (Or.inl (hw _ (List.mem_of_getElem? (i := 63) rfl))) (Or.inl (hw _ (List.mem_of_getElem? (i := 38) rfl))) (by decide) (t := .int) (t' := .byte) (by decide) (by decide)))
  refine GoOn.step st346 ?_
  have E351 : Exa Z h346 b "java/lang/StringBuilder" := E338.keep Kx346
  have O352 : Old Z n0 h346 := O342.keep Kx346 (allS gb all0)
  have Z353 : n0 ≤ h346.size := Nat.le_trans Z343 Kx346.1
  have K354 : Keep h0 h346 [b] := K344.trans Kx346 ((allS (Or.inl (by simp)) all0))
  have V355 : Arv Z h346 t k321 .byte (16 : Int32) [] (.int (0 : Int32)) := V345.keep Kx346 (ninS (Ne.symm ne322) nin0)
  show GoOn p e below (T346.setTop (mkF m 22 #[.val (.ref b), .val (.int (16 : Int32))] [])) _
  refine GoOn.step (fun tq kq => XS.goto X346.here hx rfl (pc0 := 22) (pc' := 38) rfl (hb hby own_d225) (by decide) (by decide) kq) ?_
  show GoOn p e below (T346.setTop (mkF m 38 #[.val (.ref b), .val (.int (16 : Int32))] [])) _
  refine GoOn.ret X346 Bd.notSynchronized (v := none) (fun _ => rfl) (fun fs hr => X346.returnOut hx Bd.returns (hb hby own_d226) hr) (by decide) (by decide) ?_
  rw [e346]
  exact ⟨t, _, rfl, N347, K354, sz324, E351, F348, F350, F349, V355⟩
set_option maxRecDepth 65536 in
set_option maxHeartbeats 40000000 in
theorem rmSBI (l : Launch) (Z : State) (a0 : Array Value) (hw : ∀ d ∈ tables_1, d.before a0 Z = true) (b : Addr) (G1 : Int32) (h0 : Heap) (n0 : Nat) (Z0 : n0 ≤ h0.size) (SC : Sta Z Z.heap "java/lang/String" "COMPACT_STRINGS" "Z" (.int G1)) (PC : ¬ G1 = (0 : Int32)) (E0 : Exa Z h0 b "java/lang/StringBuilder") (F0c : Fld Z h0 b "java/lang/AbstractStringBuilder" "coder" "B" (.int (0 : Int32))) (F0n : Fld Z h0 b "java/lang/AbstractStringBuilder" "count" "I" (.int (0 : Int32))) (F0v : Fld Z h0 b "java/lang/AbstractStringBuilder" "value" "[B" .null) (gb : n0 ≤ b) (O0 : Old Z n0 h0) :
    MetFree l (⟨"java/lang/StringBuilder", "<init>", "()V"⟩ : MethodName) (head1 [Jvm.Cond.code (⟨"java/lang/StringBuilder", "<init>", "()V"⟩ : MethodName) jdk_67_method_1_code 1 none] ({ frames := 2, cells := 1, slots := 16, locals := 25 } : Room)) (fun aa U => aa = #[(.ref b)] ∧ Z.Warmed39 U.vm ∧ U.heap = h0) (fun _ _ _ _ _ => True) (fun _ U o U' => ∃ v L, o = .returned v ∧ QSBI Z b h0 n0 v U'.heap L ∧ FrameEnd U o U' L ({ frames := 2, cells := 1, slots := 16, locals := 25 } : Room).cells ({ frames := 2, cells := 1, slots := 16, locals := 25 } : Room).slots) := by
  refine MetFree.of_bodySF (plainFor_of_name own_pn205) hisR ?_
  intro p e s m args below meth c s₁ Bd hml0 hP hK
  obtain ⟨rfl, hZ, hh⟩ := hP
  have hx := Bd.exec
  have hby := Bd.bytes
  have hml : c.maxLocals = 1 := hml0
  have hown : s.vm.findClass "java/lang/StringBuilder" = some m.cls := findClass_of_methodNamed Bd.named
  have hnm := (name_of_methodNamed Bd.named Bd.method).1
  have X0 : Stand p l e ({ frames := 2, cells := 1, slots := 16, locals := 25 } : Room) s m #[(.ref b)] below meth c s₁ [] 0 0 := Stand.of_body Bd
  have e0 : s₁.heap = h0 := by rw [← hh, Bd.state]; rfl
  have N0 := Fr.nil n0
  have K0 : Keep h0 h0 [] := Keep.refl _ _
  show GoOn p e below (s₁.setTop (entryFrame m #[(.ref b)] 1)) (PostN s (QSBI Z b h0 n0) ({ frames := 2, cells := 1, slots := 16, locals := 25 } : Room).cells ({ frames := 2, cells := 1, slots := 16, locals := 25 } : Room).slots)
  refine GoOn.step (fun tq kq => castTop (own_ef227 m b) kq) ?_
  show GoOn p e below (s₁.setTop (mkF m 0 #[.val (.ref b)] [])) _
  have K0b : Keep h0 h0 [b] := Keep.refl _ _
  refine GoOn.step (fun tq kq => XS.aloadN X0.here hx rfl (hb hby own_d228) rfl rfl kq) ?_
  show GoOn p e below (s₁.setTop (mkF m 1 #[.val (.ref b)] [(.ref b)])) _
  refine GoOn.step (fun tq kq => XS.bipush X0.here hx rfl (hb hby own_d229) kq) ?_
  show GoOn p e below (s₁.setTop (mkF m 3 #[.val (.ref b)] [(.int (16 : Int32)), (.ref b)])) _
  obtain ⟨_, _, ⟨T359, L359, k359, n359⟩, -, X359, ⟨Lc359, hQ359, l359, y359, z359⟩, st359⟩ := X0.specialBack hx (y := (⟨"java/lang/AbstractStringBuilder", "<init>", "(I)V"⟩ : MethodName)) rfl hown (mvT hZ (hw _ (List.mem_of_getElem? (i := 25) rfl))) (mvT hZ (hw _ (List.mem_of_getElem? (i := 26) rfl))) (mvT hZ (hw _ (List.mem_of_getElem? (i := 30) rfl))) (by decide) (backOf (W := 0) (rmASI l Z a0 hw b G1 h0 n0 Z0 SC PC E0 F0c F0n F0v gb O0) hZ (hw _ (List.mem_of_getElem? (i := 30) rfl)) (hw _ (List.mem_of_getElem? (i := 29) rfl)) (by decide) (by decide)) (g := (mkF m 3 #[.val (.ref b)] [(.int (16 : Int32)), (.ref b)])) rfl (by rw [hml]; rfl) (Steps.refl _) (a := b) (argsL := [(.int (16 : Int32))]) (rest := []) (lenOf own_pd189 rfl) rfl (by show 2 * 0 + _ ≤ _; exact Nat.le_of_eq rfl) (hb hby own_d230) (fun _ _ => ⟨rfl, e0, (by decide : 0 + 1 ≤ _), (by decide : 0 + 16 ≤ _)⟩)
  dsimp only [Pt.U, Pt.locs, Pt.cells, Pt.slots] at X359 l359 y359 z359 st359 hQ359
  subst l359 y359 z359
  obtain ⟨t359, kb359, rfl, N359, K359, ge359, E359, Fc359, Fn359, Fv359, V359⟩ := hQ359
  refine GoOn.trans st359 ?_
  have N360 := Fr.app N0 N359
  have E361 : Exa Z T359.heap b "java/lang/StringBuilder" := E0.keep K359
  have O365 : Old Z n0 T359.heap := O0.keep K359 (allS gb all0)
  have Z366 : n0 ≤ T359.heap.size := Nat.le_trans Z0 K359.1
  have K367 : Keep h0 T359.heap [b] := K0b.trans K359 ((allS (Or.inl (by simp)) all0))
  show GoOn p e below (T359.setTop (mkF m 6 #[.val (.ref b)] [])) _
  refine GoOn.ret X359 Bd.notSynchronized (v := none) (fun _ => rfl) (fun fs hr => X359.returnOut hx Bd.returns (hb hby own_d231) hr) (by decide) (by decide) ?_
  exact ⟨t359, kb359, rfl, N360, K367, ge359, E359, Fc359, Fn359, Fv359, V359⟩
set_option maxRecDepth 65536 in
set_option maxHeartbeats 40000000 in
theorem rmGetV (l : Launch) (Z : State) (a0 : Array Value) (hw : ∀ d ∈ tables_1, d.before a0 Z = true) (b t : Addr) (h0 : Heap) (n0 : Nat) (Z0 : n0 ≤ h0.size) (F0 : Fld Z h0 b "java/lang/AbstractStringBuilder" "value" "[B" (.ref t)) :
    MetFree l (⟨"java/lang/AbstractStringBuilder", "getValue", "()[B"⟩ : MethodName) (head1 [Jvm.Cond.code (⟨"java/lang/AbstractStringBuilder", "getValue", "()[B"⟩ : MethodName) jdk_68_method_64_code 1 (some (.array .byte))] ({ frames := 0, cells := 0, slots := 0, locals := 0 } : Room)) (fun aa U => aa = #[(.ref b)] ∧ Z.Warmed39 U.vm ∧ U.heap = h0) (fun _ _ _ _ _ => True) (fun _ U o U' => ∃ v L, o = .returned v ∧ QSame (.ref t) h0 n0 v U'.heap L ∧ FrameEnd U o U' L ({ frames := 0, cells := 0, slots := 0, locals := 0 } : Room).cells ({ frames := 0, cells := 0, slots := 0, locals := 0 } : Room).slots) := by
  refine MetFree.of_bodySF (plainFor_of_name own_pn123) hisR ?_
  intro p e s m args below meth c s₁ Bd hml0 hP hK
  obtain ⟨rfl, hZ, hh⟩ := hP
  have hx := Bd.exec
  have hby := Bd.bytes
  have hml : c.maxLocals = 1 := hml0
  have hown : s.vm.findClass "java/lang/AbstractStringBuilder" = some m.cls := findClass_of_methodNamed Bd.named
  have hnm := (name_of_methodNamed Bd.named Bd.method).1
  have X0 : Stand p l e ({ frames := 0, cells := 0, slots := 0, locals := 0 } : Room) s m #[(.ref b)] below meth c s₁ [] 0 0 := Stand.of_body Bd
  have e0 : s₁.heap = h0 := by rw [← hh, Bd.state]; rfl
  have N0 := Fr.nil n0
  have K0 : Keep h0 h0 [] := Keep.refl _ _
  show GoOn p e below (s₁.setTop (entryFrame m #[(.ref b)] 1)) (PostN s (QSame (.ref t) h0 n0) ({ frames := 0, cells := 0, slots := 0, locals := 0 } : Room).cells ({ frames := 0, cells := 0, slots := 0, locals := 0 } : Room).slots)
  refine GoOn.step (fun tq kq => castTop (own_ef232 m b) kq) ?_
  show GoOn p e below (s₁.setTop (mkF m 0 #[.val (.ref b)] [])) _
  refine GoOn.step (fun tq kq => XS.aloadN X0.here hx rfl (hb hby own_d233) rfl rfl kq) ?_
  show GoOn p e below (s₁.setTop (mkF m 1 #[.val (.ref b)] [(.ref b)])) _
  obtain ⟨T368, X368, e368, st368⟩ := getF X0 hx hZ hown (host := "") (Or.inl (hw _ (List.mem_of_getElem? (i := 35) rfl))) Via.refl e0 F0 (g := (mkF m 1 #[.val (.ref b)] [(.ref b)])) rfl rfl (hb hby own_d234)
  refine GoOn.step st368 ?_
  show GoOn p e below (T368.setTop (mkF m 4 #[.val (.ref b)] [(.ref t)])) _
  refine GoOn.ret X368 Bd.notSynchronized (v := some (.ref t)) (fun h => by rw [Bd.returns] at h; cases h) (fun fs hr => retOut X368 hx Bd.returns rfl (Or.inr (Or.inr (Or.inr (Or.inr ⟨rfl, rfl, rfl⟩)))) (hb hby own_d235) hr) (by decide) (by decide) ?_
  rw [e368]
  exact ⟨rfl, N0, rfl⟩
set_option maxRecDepth 65536 in
set_option maxHeartbeats 40000000 in
theorem rmALen (l : Launch) (Z : State) (a0 : Array Value) (hw : ∀ d ∈ tables_1, d.before a0 Z = true) (b : Addr) (k : Int32) (h0 : Heap) (n0 : Nat) (Z0 : n0 ≤ h0.size) (F0 : Fld Z h0 b "java/lang/AbstractStringBuilder" "count" "I" (.int k)) :
    MetFree l (⟨"java/lang/AbstractStringBuilder", "length", "()I"⟩ : MethodName) (head1 [Jvm.Cond.code (⟨"java/lang/AbstractStringBuilder", "length", "()I"⟩ : MethodName) jdk_68_method_6_code 1 (some .int)] ({ frames := 0, cells := 0, slots := 0, locals := 0 } : Room)) (fun aa U => aa = #[(.ref b)] ∧ Z.Warmed39 U.vm ∧ U.heap = h0) (fun _ _ _ _ _ => True) (fun _ U o U' => ∃ v L, o = .returned v ∧ QSame (.int k) h0 n0 v U'.heap L ∧ FrameEnd U o U' L ({ frames := 0, cells := 0, slots := 0, locals := 0 } : Room).cells ({ frames := 0, cells := 0, slots := 0, locals := 0 } : Room).slots) := by
  refine MetFree.of_bodySF (plainFor_of_name own_pn123) hisR ?_
  intro p e s m args below meth c s₁ Bd hml0 hP hK
  obtain ⟨rfl, hZ, hh⟩ := hP
  have hx := Bd.exec
  have hby := Bd.bytes
  have hml : c.maxLocals = 1 := hml0
  have hown : s.vm.findClass "java/lang/AbstractStringBuilder" = some m.cls := findClass_of_methodNamed Bd.named
  have hnm := (name_of_methodNamed Bd.named Bd.method).1
  have X0 : Stand p l e ({ frames := 0, cells := 0, slots := 0, locals := 0 } : Room) s m #[(.ref b)] below meth c s₁ [] 0 0 := Stand.of_body Bd
  have e0 : s₁.heap = h0 := by rw [← hh, Bd.state]; rfl
  have N0 := Fr.nil n0
  have K0 : Keep h0 h0 [] := Keep.refl _ _
  show GoOn p e below (s₁.setTop (entryFrame m #[(.ref b)] 1)) (PostN s (QSame (.int k) h0 n0) ({ frames := 0, cells := 0, slots := 0, locals := 0 } : Room).cells ({ frames := 0, cells := 0, slots := 0, locals := 0 } : Room).slots)
  refine GoOn.step (fun tq kq => castTop (own_ef236 m b) kq) ?_
  show GoOn p e below (s₁.setTop (mkF m 0 #[.val (.ref b)] [])) _
  refine GoOn.step (fun tq kq => XS.aloadN X0.here hx rfl (hb hby own_d237) rfl rfl kq) ?_
  show GoOn p e below (s₁.setTop (mkF m 1 #[.val (.ref b)] [(.ref b)])) _
  obtain ⟨T369, X369, e369, st369⟩ := getF X0 hx hZ hown (host := "") (Or.inl (hw _ (List.mem_of_getElem? (i := 62) rfl))) Via.refl e0 F0 (g := (mkF m 1 #[.val (.ref b)] [(.ref b)])) rfl rfl (hb hby own_d238)
  refine GoOn.step st369 ?_
  show GoOn p e below (T369.setTop (mkF m 4 #[.val (.ref b)] [(.int k)])) _
  refine GoOn.ret X369 Bd.notSynchronized (v := some (.int k)) (fun h => by rw [Bd.returns] at h; cases h) (fun fs hr => retI X369 hx Bd.returns (hb hby own_d239) hr) (by decide) (by decide) ?_
  rw [e369]
  exact ⟨rfl, N0, rfl⟩
set_option maxRecDepth 65536 in
set_option maxHeartbeats 40000000 in
theorem rmSLen (l : Launch) (Z : State) (a0 : Array Value) (hw : ∀ d ∈ tables_1, d.before a0 Z = true) (b : Addr) (k : Int32) (h0 : Heap) (n0 : Nat) (Z0 : n0 ≤ h0.size) (E0 : Exa Z h0 b "java/lang/StringBuilder") (F0 : Fld Z h0 b "java/lang/AbstractStringBuilder" "count" "I" (.int k)) :
    MetFree l (⟨"java/lang/StringBuilder", "length", "()I"⟩ : MethodName) (head1 [Jvm.Cond.code (⟨"java/lang/StringBuilder", "length", "()I"⟩ : MethodName) jdk_67_method_93_code 1 (some .int)] ({ frames := 1, cells := 0, slots := 0, locals := 12 } : Room)) (fun aa U => aa = #[(.ref b)] ∧ Z.Warmed39 U.vm ∧ U.heap = h0) (fun _ _ _ _ _ => True) (fun _ U o U' => ∃ v L, o = .returned v ∧ QSame (.int k) h0 n0 v U'.heap L ∧ FrameEnd U o U' L ({ frames := 1, cells := 0, slots := 0, locals := 12 } : Room).cells ({ frames := 1, cells := 0, slots := 0, locals := 12 } : Room).slots) := by
  refine MetFree.of_bodySF (plainFor_of_name own_pn205) hisR ?_
  intro p e s m args below meth c s₁ Bd hml0 hP hK
  obtain ⟨rfl, hZ, hh⟩ := hP
  have hx := Bd.exec
  have hby := Bd.bytes
  have hml : c.maxLocals = 1 := hml0
  have hown : s.vm.findClass "java/lang/StringBuilder" = some m.cls := findClass_of_methodNamed Bd.named
  have hnm := (name_of_methodNamed Bd.named Bd.method).1
  have X0 : Stand p l e ({ frames := 1, cells := 0, slots := 0, locals := 12 } : Room) s m #[(.ref b)] below meth c s₁ [] 0 0 := Stand.of_body Bd
  have e0 : s₁.heap = h0 := by rw [← hh, Bd.state]; rfl
  have N0 := Fr.nil n0
  have K0 : Keep h0 h0 [] := Keep.refl _ _
  show GoOn p e below (s₁.setTop (entryFrame m #[(.ref b)] 1)) (PostN s (QSame (.int k) h0 n0) ({ frames := 1, cells := 0, slots := 0, locals := 12 } : Room).cells ({ frames := 1, cells := 0, slots := 0, locals := 12 } : Room).slots)
  refine GoOn.step (fun tq kq => castTop (own_ef240 m b) kq) ?_
  show GoOn p e below (s₁.setTop (mkF m 0 #[.val (.ref b)] [])) _
  refine GoOn.step (fun tq kq => XS.aloadN X0.here hx rfl (hb hby own_d241) rfl rfl kq) ?_
  show GoOn p e below (s₁.setTop (mkF m 1 #[.val (.ref b)] [(.ref b)])) _
  obtain ⟨_, _, ⟨T370, L370, k370, n370⟩, -, X370, ⟨Lc370, hQ370, l370, y370, z370⟩, st370⟩ := superBack X0 hx hZ hown (hw _ (List.mem_of_getElem? (i := 115) rfl)) (own_same (hw _ (List.mem_of_getElem? (i := 111) rfl)) ⟨(hw _ (List.mem_of_getElem? (i := 107) rfl)), rfl⟩ (by decide)) (hw _ (List.mem_of_getElem? (i := 111) rfl)) (hw _ (List.mem_of_getElem? (i := 46) rfl)) (by decide) (backOf (W := 0) (rmALen l Z a0 hw b k h0 n0 Z0 F0) hZ (hw _ (List.mem_of_getElem? (i := 116) rfl)) (hw _ (List.mem_of_getElem? (i := 29) rfl)) (by decide) (by decide)) e0 (Ins.self E0) (g := (mkF m 1 #[.val (.ref b)] [(.ref b)])) rfl (by rw [hml]; rfl) (hw _ (List.mem_of_getElem? (i := 116) rfl)) (argsL := []) (rest := []) (lenOf own_pd181 rfl) rfl (by show 2 * 0 + _ ≤ _; exact Nat.le_of_eq rfl) (hb hby own_d242) (fun _ _ => ⟨rfl, e0, (by decide : 0 + 0 ≤ _), (by decide : 0 + 0 ≤ _)⟩)
  dsimp only [Pt.U, Pt.locs, Pt.cells, Pt.slots] at X370 l370 y370 z370 st370 hQ370
  subst l370 y370 z370
  obtain ⟨rfl, N370, e370⟩ := hQ370
  refine GoOn.trans st370 ?_
  have N371 := Fr.app N0 N370
  show GoOn p e below (T370.setTop (mkF m 4 #[.val (.ref b)] [(.int k)])) _
  refine GoOn.ret X370 Bd.notSynchronized (v := some (.int k)) (fun h => by rw [Bd.returns] at h; cases h) (fun fs hr => retI X370 hx Bd.returns (hb hby own_d243) hr) (by decide) (by decide) ?_
  rw [e370]
  exact ⟨rfl, N371, rfl⟩
set_option maxRecDepth 65536 in
set_option maxHeartbeats 40000000 in
theorem rmIsL (l : Launch) (Z : State) (a0 : Array Value) (hw : ∀ d ∈ tables_1, d.before a0 Z = true) (b : Addr) (G1 : Int32) (h0 : Heap) (n0 : Nat) (Z0 : n0 ≤ h0.size) (SC : Sta Z Z.heap "java/lang/String" "COMPACT_STRINGS" "Z" (.int G1)) (PC : ¬ G1 = (0 : Int32)) (F0 : Fld Z h0 b "java/lang/AbstractStringBuilder" "coder" "B" (.int 0)) (O0 : Old Z n0 h0) :
    MetFree l (⟨"java/lang/AbstractStringBuilder", "isLatin1", "()Z"⟩ : MethodName) (head1 [Jvm.Cond.code (⟨"java/lang/AbstractStringBuilder", "isLatin1", "()Z"⟩ : MethodName) jdk_68_method_68_code 1 (some .boolean)] ({ frames := 0, cells := 0, slots := 0, locals := 0 } : Room)) (fun aa U => aa = #[(.ref b)] ∧ Z.Warmed39 U.vm ∧ U.heap = h0) (fun _ _ _ _ _ => True) (fun _ U o U' => ∃ v L, o = .returned v ∧ QSame (.int 1) h0 n0 v U'.heap L ∧ FrameEnd U o U' L ({ frames := 0, cells := 0, slots := 0, locals := 0 } : Room).cells ({ frames := 0, cells := 0, slots := 0, locals := 0 } : Room).slots) := by
  refine MetFree.of_bodySF (plainFor_of_name own_pn123) hisR ?_
  intro p e s m args below meth c s₁ Bd hml0 hP hK
  obtain ⟨rfl, hZ, hh⟩ := hP
  have hx := Bd.exec
  have hby := Bd.bytes
  have hml : c.maxLocals = 1 := hml0
  have hown : s.vm.findClass "java/lang/AbstractStringBuilder" = some m.cls := findClass_of_methodNamed Bd.named
  have hnm := (name_of_methodNamed Bd.named Bd.method).1
  have X0 : Stand p l e ({ frames := 0, cells := 0, slots := 0, locals := 0 } : Room) s m #[(.ref b)] below meth c s₁ [] 0 0 := Stand.of_body Bd
  have e0 : s₁.heap = h0 := by rw [← hh, Bd.state]; rfl
  have N0 := Fr.nil n0
  have K0 : Keep h0 h0 [] := Keep.refl _ _
  show GoOn p e below (s₁.setTop (entryFrame m #[(.ref b)] 1)) (PostN s (QSame (.int 1) h0 n0) ({ frames := 0, cells := 0, slots := 0, locals := 0 } : Room).cells ({ frames := 0, cells := 0, slots := 0, locals := 0 } : Room).slots)
  refine GoOn.step (fun tq kq => castTop (own_ef244 m b) kq) ?_
  show GoOn p e below (s₁.setTop (mkF m 0 #[.val (.ref b)] [])) _
  obtain ⟨T372, X372, e372, st372⟩ := getS2 X0 hx hZ hown (host := "") (Or.inl (hw _ (List.mem_of_getElem? (i := 34) rfl))) Via.refl e0 (SC.ext O0.2) (g := (mkF m 0 #[.val (.ref b)] [])) rfl (hb hby own_d245)
  refine GoOn.step st372 ?_
  show GoOn p e below (T372.setTop (mkF m 3 #[.val (.ref b)] [(.int G1)])) _
  refine GoOn.step (fun tq kq => XS.ifNo X372.here hx rfl (hb hby own_d246) rfl ((if0 _ _).trans (feq PC).1) kq) ?_
  show GoOn p e below (T372.setTop (mkF m 6 #[.val (.ref b)] [])) _
  refine GoOn.step (fun tq kq => XS.aloadN X372.here hx rfl (hb hby own_d247) rfl rfl kq) ?_
  show GoOn p e below (T372.setTop (mkF m 7 #[.val (.ref b)] [(.ref b)])) _
  obtain ⟨T373, X373, e373, st373⟩ := getF X372 hx hZ hown (host := "") (Or.inl (hw _ (List.mem_of_getElem? (i := 37) rfl))) Via.refl e372 F0 (g := (mkF m 7 #[.val (.ref b)] [(.ref b)])) rfl rfl (hb hby own_d248)
  refine GoOn.step st373 ?_
  show GoOn p e below (T373.setTop (mkF m 10 #[.val (.ref b)] [(.int 0)])) _
  refine GoOn.step (fun tq kq => XS.ifNo X373.here hx rfl (hb hby own_d249) rfl ((if0 _ _).trans (teq rfl).2) kq) ?_
  show GoOn p e below (T373.setTop (mkF m 13 #[.val (.ref b)] [])) _
  refine GoOn.step (fun tq kq => XS.iconst X373.here hx rfl (hb hby own_d250) kq) ?_
  show GoOn p e below (T373.setTop (mkF m 14 #[.val (.ref b)] [(.int (1 : Int32))])) _
  refine GoOn.step (fun tq kq => XS.goto X373.here hx rfl (pc0 := 14) (pc' := 18) rfl (hb hby own_d251) (by decide) (by decide) kq) ?_
  show GoOn p e below (T373.setTop (mkF m 18 #[.val (.ref b)] [(.int (1 : Int32))])) _
  refine GoOn.ret X373 Bd.notSynchronized (v := some (.int (nar .boolean (1 : Int32)))) (fun h => by rw [Bd.returns] at h; cases h) (fun fs hr => retN X373 hx (t := .boolean) Bd.returns (by simp) (hb hby own_d252) hr) (by decide) (by decide) ?_
  rw [e373]
  exact ⟨rfl, N0, rfl⟩
set_option maxRecDepth 65536 in
set_option maxHeartbeats 40000000 in
theorem rmMin (l : Launch) (Z : State) (a0 : Array Value) (hw : ∀ d ∈ tables_1, d.before a0 Z = true) (x y : Int32) (h0 : Heap) (n0 : Nat) (Z0 : n0 ≤ h0.size) (hxy : y < x) :
    MetFree l (⟨"java/lang/Math", "min", "(II)I"⟩ : MethodName) (head1 [Jvm.Cond.code (⟨"java/lang/Math", "min", "(II)I"⟩ : MethodName) jdk_29_method_69_code 2 (some .int)] ({ frames := 0, cells := 0, slots := 0, locals := 0 } : Room)) (fun aa U => aa = #[(.int x), (.int y)] ∧ Z.Warmed39 U.vm ∧ U.heap = h0) (fun _ _ _ _ _ => True) (fun _ U o U' => ∃ v L, o = .returned v ∧ QSame (.int y) h0 n0 v U'.heap L ∧ FrameEnd U o U' L ({ frames := 0, cells := 0, slots := 0, locals := 0 } : Room).cells ({ frames := 0, cells := 0, slots := 0, locals := 0 } : Room).slots) := by
  refine MetFree.of_bodySF (Jvm.Free.JP.mathPlain rfl (by decide +kernel)) hisR ?_
  intro p e s m args below meth c s₁ Bd hml0 hP hK
  obtain ⟨rfl, hZ, hh⟩ := hP
  have hx := Bd.exec
  have hby := Bd.bytes
  have hml : c.maxLocals = 2 := hml0
  have hown : s.vm.findClass "java/lang/Math" = some m.cls := findClass_of_methodNamed Bd.named
  have hnm := (name_of_methodNamed Bd.named Bd.method).1
  have X0 : Stand p l e ({ frames := 0, cells := 0, slots := 0, locals := 0 } : Room) s m #[(.int x), (.int y)] below meth c s₁ [] 0 0 := Stand.of_body Bd
  have e0 : s₁.heap = h0 := by rw [← hh, Bd.state]; rfl
  have N0 := Fr.nil n0
  have K0 : Keep h0 h0 [] := Keep.refl _ _
  show GoOn p e below (s₁.setTop (entryFrame m #[(.int x), (.int y)] 2)) (PostN s (QSame (.int y) h0 n0) ({ frames := 0, cells := 0, slots := 0, locals := 0 } : Room).cells ({ frames := 0, cells := 0, slots := 0, locals := 0 } : Room).slots)
  refine GoOn.step (fun tq kq => castTop (own_ef253 m x y) kq) ?_
  show GoOn p e below (s₁.setTop (mkF m 0 #[.val (.int x), .val (.int y)] [])) _
  refine GoOn.step (fun tq kq => XS.iloadN X0.here hx rfl (hb hby own_d254) rfl kq) ?_
  show GoOn p e below (s₁.setTop (mkF m 1 #[.val (.int x), .val (.int y)] [(.int x)])) _
  refine GoOn.step (fun tq kq => XS.iloadN X0.here hx rfl (hb hby own_d255) rfl kq) ?_
  show GoOn p e below (s₁.setTop (mkF m 2 #[.val (.int x), .val (.int y)] [(.int y), (.int x)])) _
  refine GoOn.step (fun tq kq => XS.icmpYes X0.here hx rfl (pc0 := 2) (pc' := 9) rfl (hb hby own_d256) rfl (tlt hxy).2.2.1 (by decide) (by decide) kq) ?_
  show GoOn p e below (s₁.setTop (mkF m 9 #[.val (.int x), .val (.int y)] [])) _
  refine GoOn.step (fun tq kq => XS.iloadN X0.here hx rfl (hb hby own_d257) rfl kq) ?_
  show GoOn p e below (s₁.setTop (mkF m 10 #[.val (.int x), .val (.int y)] [(.int y)])) _
  refine GoOn.ret X0 Bd.notSynchronized (v := some (.int y)) (fun h => by rw [Bd.returns] at h; cases h) (fun fs hr => retI X0 hx Bd.returns (hb hby own_d258) hr) (by decide) (by decide) ?_
  rw [e0]
  exact ⟨rfl, N0, rfl⟩
set_option maxRecDepth 65536 in
set_option maxHeartbeats 40000000 in
theorem rmChk (l : Launch) (Z : State) (a0 : Array Value) (hw : ∀ d ∈ tables_1, d.before a0 Z = true) (x y : Int32) (h0 : Heap) (n0 : Nat) (Z0 : n0 ≤ h0.size) (hxy : ¬ y < x) :
    MetFree l (⟨"java/util/Arrays", "checkLength", "(II)V"⟩ : MethodName) (head1 [Jvm.Cond.code (⟨"java/util/Arrays", "checkLength", "(II)V"⟩ : MethodName) jdk_65_method_131_code 2 none] ({ frames := 0, cells := 0, slots := 0, locals := 0 } : Room)) (fun aa U => aa = #[(.int x), (.int y)] ∧ Z.Warmed39 U.vm ∧ U.heap = h0) (fun _ _ _ _ _ => True) (fun _ U o U' => ∃ v L, o = .returned v ∧ QNone h0 n0 v U'.heap L ∧ FrameEnd U o U' L ({ frames := 0, cells := 0, slots := 0, locals := 0 } : Room).cells ({ frames := 0, cells := 0, slots := 0, locals := 0 } : Room).slots) := by
  refine MetFree.of_bodySF (plainFor_of_name own_pn260) hisR ?_
  intro p e s m args below meth c s₁ Bd hml0 hP hK
  obtain ⟨rfl, hZ, hh⟩ := hP
  have hx := Bd.exec
  have hby := Bd.bytes
  have hml : c.maxLocals = 2 := hml0
  have hown : s.vm.findClass "java/util/Arrays" = some m.cls := findClass_of_methodNamed Bd.named
  have hnm := (name_of_methodNamed Bd.named Bd.method).1
  have X0 : Stand p l e ({ frames := 0, cells := 0, slots := 0, locals := 0 } : Room) s m #[(.int x), (.int y)] below meth c s₁ [] 0 0 := Stand.of_body Bd
  have e0 : s₁.heap = h0 := by rw [← hh, Bd.state]; rfl
  have N0 := Fr.nil n0
  have K0 : Keep h0 h0 [] := Keep.refl _ _
  show GoOn p e below (s₁.setTop (entryFrame m #[(.int x), (.int y)] 2)) (PostN s (QNone h0 n0) ({ frames := 0, cells := 0, slots := 0, locals := 0 } : Room).cells ({ frames := 0, cells := 0, slots := 0, locals := 0 } : Room).slots)
  refine GoOn.step (fun tq kq => castTop (own_ef259 m x y) kq) ?_
  show GoOn p e below (s₁.setTop (mkF m 0 #[.val (.int x), .val (.int y)] [])) _
  refine GoOn.step (fun tq kq => XS.iloadN X0.here hx rfl (hb hby own_d261) rfl kq) ?_
  show GoOn p e below (s₁.setTop (mkF m 1 #[.val (.int x), .val (.int y)] [(.int y)])) _
  refine GoOn.step (fun tq kq => XS.iloadN X0.here hx rfl (hb hby own_d262) rfl kq) ?_
  show GoOn p e below (s₁.setTop (mkF m 2 #[.val (.int x), .val (.int y)] [(.int x), (.int y)])) _
  refine GoOn.step (fun tq kq => XS.icmpYes X0.here hx rfl (pc0 := 2) (pc' := 37) rfl (hb hby own_d263) rfl (flt hxy).2.1 (by decide) (by decide) kq) ?_
  show GoOn p e below (s₁.setTop (mkF m 37 #[.val (.int x), .val (.int y)] [])) _
  refine GoOn.ret X0 Bd.notSynchronized (v := none) (fun _ => rfl) (fun fs hr => X0.returnOut hx Bd.returns (hb hby own_d264) hr) (by decide) (by decide) ?_
  rw [e0]
  exact ⟨rfl, N0, rfl⟩
def QCop (Z : State) (cs : List Int32) (h0 : Heap) (n0 : Nat) (v : Option Value) (h : Heap) (L : List Loc) : Prop := ∃ (u : Addr) (ku : ClassId), v = some (.ref u) ∧ Fr n0 L ∧ Keep h0 h [] ∧ h0.size ≤ u ∧ Arv Z h u ku .byte (Int32.ofNat cs.length) (own_bs cs) (.int 0)
set_option maxRecDepth 65536 in
set_option maxHeartbeats 40000000 in
theorem rmCRB (l : Launch) (Z : State) (a0 : Array Value) (hw : ∀ d ∈ tables_1, d.before a0 Z = true) (t : Addr) (kb : ClassId) (cap : Nat) (cs : List Int32) (h0 : Heap) (n0 : Nat) (Z0 : n0 ≤ h0.size) (V0 : Arv Z h0 t kb .byte (Int32.ofNat cap) (own_sb cap cs) (.int 0)) (hlt : cs.length < cap) (hc4 : cap ≤ 40) :
    MetFree l (⟨"java/util/Arrays", "copyOfRangeByte", "([BII)[B"⟩ : MethodName) (head1 [Jvm.Cond.code (⟨"java/util/Arrays", "copyOfRangeByte", "([BII)[B"⟩ : MethodName) jdk_65_method_133_code 5 (some (.array .byte))] ({ frames := 1, cells := 1, slots := 40, locals := 18 } : Room)) (fun aa U => aa = #[(.ref t), (.int (0 : Int32)), (.int (Int32.ofNat cs.length))] ∧ Z.Warmed39 U.vm ∧ U.heap = h0) (fun _ _ _ _ _ => True) (fun _ U o U' => ∃ v L, o = .returned v ∧ QCop Z cs h0 n0 v U'.heap L ∧ FrameEnd U o U' L ({ frames := 1, cells := 1, slots := 40, locals := 18 } : Room).cells ({ frames := 1, cells := 1, slots := 40, locals := 18 } : Room).slots) := by
  refine MetFree.of_bodySF (plainFor_of_name own_pn260) hisR ?_
  intro p e s m args below meth c s₁ Bd hml0 hP hK
  obtain ⟨rfl, hZ, hh⟩ := hP
  have hx := Bd.exec
  have hby := Bd.bytes
  have hml : c.maxLocals = 5 := hml0
  have hown : s.vm.findClass "java/util/Arrays" = some m.cls := findClass_of_methodNamed Bd.named
  have hnm := (name_of_methodNamed Bd.named Bd.method).1
  have X0 : Stand p l e ({ frames := 1, cells := 1, slots := 40, locals := 18 } : Room) s m #[(.ref t), (.int (0 : Int32)), (.int (Int32.ofNat cs.length))] below meth c s₁ [] 0 0 := Stand.of_body Bd
  have e0 : s₁.heap = h0 := by rw [← hh, Bd.state]; rfl
  have N0 := Fr.nil n0
  have K0 : Keep h0 h0 [] := Keep.refl _ _
  show GoOn p e below (s₁.setTop (entryFrame m #[(.ref t), (.int (0 : Int32)), (.int (Int32.ofNat cs.length))] 5)) (PostN s (QCop Z cs h0 n0) ({ frames := 1, cells := 1, slots := 40, locals := 18 } : Room).cells ({ frames := 1, cells := 1, slots := 40, locals := 18 } : Room).slots)
  refine GoOn.step (fun tq kq => castTop (own_ef265 m t (0 : Int32) (Int32.ofNat cs.length)) kq) ?_
  show GoOn p e below (s₁.setTop (mkF m 0 #[.val (.ref t), .val (.int (0 : Int32)), .val (.int (Int32.ofNat cs.length)), .unset, .unset] [])) _
  have hcs : cs.length ≤ 4000 := by omega
  have hc5 : cap ≤ 4000 := by omega
  refine GoOn.step (fun tq kq => XS.iloadN X0.here hx rfl (hb hby own_d266) rfl kq) ?_
  show GoOn p e below (s₁.setTop (mkF m 1 #[.val (.ref t), .val (.int (0 : Int32)), .val (.int (Int32.ofNat cs.length)), .unset, .unset] [(.int (0 : Int32))])) _
  refine GoOn.step (fun tq kq => XS.iloadN X0.here hx rfl (hb hby own_d267) rfl kq) ?_
  show GoOn p e below (s₁.setTop (mkF m 2 #[.val (.ref t), .val (.int (0 : Int32)), .val (.int (Int32.ofNat cs.length)), .unset, .unset] [(.int (Int32.ofNat cs.length)), (.int (0 : Int32))])) _
  obtain ⟨_, _, ⟨T374, L374, k374, n374⟩, -, X374, ⟨Lc374, hQ374, l374, y374, z374⟩, st374⟩ := Jvm.LawKit.callS X0 hx (y := (⟨"java/util/Arrays", "checkLength", "(II)V"⟩ : MethodName)) hown (mvT hZ (hw _ (List.mem_of_getElem? (i := 129) rfl))) (mvT hZ (hw _ (List.mem_of_getElem? (i := 130) rfl))) (mvT hZ (hw _ (List.mem_of_getElem? (i := 124) rfl))) (mvT hZ (hw _ (List.mem_of_getElem? (i := 131) rfl))) (by decide) (backOf (W := 0) (rmChk l Z a0 hw 0 (Int32.ofNat cs.length) h0 n0 Z0 (own_nn hcs)) hZ (hw _ (List.mem_of_getElem? (i := 131) rfl)) (hw _ (List.mem_of_getElem? (i := 124) rfl)) (by decide) (by decide)) (g := (mkF m 2 #[.val (.ref t), .val (.int (0 : Int32)), .val (.int (Int32.ofNat cs.length)), .unset, .unset] [(.int (Int32.ofNat cs.length)), (.int (0 : Int32))])) rfl (by rw [hml]; rfl) (argsL := [(.int (0 : Int32)), (.int (Int32.ofNat cs.length))]) (rest := []) (lenOf own_pd269 rfl) rfl (by show 2 * 0 + _ ≤ _; exact Nat.le_of_eq rfl) (hb hby own_d268) (fun _ _ => ⟨rfl, e0, (by decide : 0 + 0 ≤ _), (by decide : 0 + 0 ≤ _)⟩)
  dsimp only [Pt.U, Pt.locs, Pt.cells, Pt.slots] at X374 l374 y374 z374 st374 hQ374
  subst l374 y374 z374
  obtain ⟨rfl, N374, e374⟩ := hQ374
  refine GoOn.step st374 ?_
  have N375 := Fr.app N0 N374
  show GoOn p e below (T374.setTop (mkF m 5 #[.val (.ref t), .val (.int (0 : Int32)), .val (.int (Int32.ofNat cs.length)), .unset, .unset] [])) _
  refine GoOn.step (fun tq kq => XS.iloadN X374.here hx rfl (hb hby own_d270) rfl kq) ?_
  show GoOn p e below (T374.setTop (mkF m 6 #[.val (.ref t), .val (.int (0 : Int32)), .val (.int (Int32.ofNat cs.length)), .unset, .unset] [(.int (Int32.ofNat cs.length))])) _
  refine GoOn.step (fun tq kq => XS.iloadN X374.here hx rfl (hb hby own_d271) rfl kq) ?_
  show GoOn p e below (T374.setTop (mkF m 7 #[.val (.ref t), .val (.int (0 : Int32)), .val (.int (Int32.ofNat cs.length)), .unset, .unset] [(.int (0 : Int32)), (.int (Int32.ofNat cs.length))])) _
  refine GoOn.step (fun tq kq => XS.isub X374.here hx rfl (hb hby own_d272) rfl kq) ?_
  show GoOn p e below (T374.setTop (mkF m 8 #[.val (.ref t), .val (.int (0 : Int32)), .val (.int (Int32.ofNat cs.length)), .unset, .unset] [(.int ((Int32.ofNat cs.length) - (0 : Int32)))])) _
  rw [own_sub0]
  show GoOn p e below (T374.setTop (mkF m 8 #[.val (.ref t), .val (.int (0 : Int32)), .val (.int (Int32.ofNat cs.length)), .unset, .unset] [(.int (Int32.ofNat cs.length))])) _
  refine GoOn.step (fun tq kq => XS.istoreN X374.here hx rfl (hb hby own_d273) rfl (l' := #[.val (.ref t), .val (.int (0 : Int32)), .val (.int (Int32.ofNat cs.length)), .val (.int (Int32.ofNat cs.length)), .unset]) rfl kq) ?_
  show GoOn p e below (T374.setTop (mkF m 9 #[.val (.ref t), .val (.int (0 : Int32)), .val (.int (Int32.ofNat cs.length)), .val (.int (Int32.ofNat cs.length)), .unset] [])) _
  refine GoOn.step (fun tq kq => XS.iloadN X374.here hx rfl (hb hby own_d274) rfl kq) ?_
  show GoOn p e below (T374.setTop (mkF m 10 #[.val (.ref t), .val (.int (0 : Int32)), .val (.int (Int32.ofNat cs.length)), .val (.int (Int32.ofNat cs.length)), .unset] [(.int (Int32.ofNat cs.length))])) _
  obtain ⟨T376, h376, k376, X376, e376, Ex376, A376, st376⟩ := newP X374 hx hZ (hw _ (List.mem_of_getElem? (i := 8) rfl)) e374 (g := (mkF m 10 #[.val (.ref t), .val (.int (0 : Int32)), .val (.int (Int32.ofNat cs.length)), .val (.int (Int32.ofNat cs.length)), .unset] [(.int (Int32.ofNat cs.length))])) rfl (hb hby own_d275) rfl (own_nn hcs) (cap := 40) (by rw [own_ns hcs]; omega) (by decide) (by decide) (by decide)
  obtain ⟨u, g376⟩ : ∃ z, z = h0.size := ⟨_, rfl⟩
  rw [← g376] at A376 st376
  have ne377 : t ≠ u := Nat.ne_of_lt (Nat.lt_of_lt_of_le V0.lt (Nat.le_of_eq g376.symm))
  have gn378 : n0 ≤ u := Nat.le_trans Z0 (Nat.le_of_eq g376.symm)
  have sz379 : h0.size ≤ u := Nat.le_trans K0.1 (Nat.le_of_eq g376.symm)
  have Kx376 : Keep h0 h376 [] := (Keep.refl _ _).ext Ex376
  refine GoOn.step st376 ?_
  have V380 : Arv Z h376 t kb .byte (Int32.ofNat cap) (own_sb cap cs) (.int 0) := V0.keep Kx376 nin0
  have Z381 : n0 ≤ h376.size := Nat.le_trans Z0 Kx376.1
  have K382 : Keep h0 h376 [] := K0.trans Kx376 (all0)
  have V383 : Arv Z h376 u k376 .byte (Int32.ofNat cs.length) [] (.int (0 : Int32)) := Arv.new A376 (own_nn hcs)
  show GoOn p e below (T376.setTop (mkF m 12 #[.val (.ref t), .val (.int (0 : Int32)), .val (.int (Int32.ofNat cs.length)), .val (.int (Int32.ofNat cs.length)), .unset] [(.ref u)])) _
  have V384 : Arv Z h376 u k376 .byte (Int32.ofNat cs.length) ([] ++ List.replicate cs.length (Value.int 0)) (.int (0 : Int32)) := V383.pad (pad_rep [] (.int (0 : Int32)) cs.length)
  refine GoOn.step (fun tq kq => XS.astore X376.here hx rfl (hb hby own_d276) rfl rfl (l' := #[.val (.ref t), .val (.int (0 : Int32)), .val (.int (Int32.ofNat cs.length)), .val (.int (Int32.ofNat cs.length)), .val (.ref u)]) rfl kq) ?_
  show GoOn p e below (T376.setTop (mkF m 14 #[.val (.ref t), .val (.int (0 : Int32)), .val (.int (Int32.ofNat cs.length)), .val (.int (Int32.ofNat cs.length)), .val (.ref u)] [])) _
  refine GoOn.step (fun tq kq => XS.aloadN X376.here hx rfl (hb hby own_d277) rfl rfl kq) ?_
  show GoOn p e below (T376.setTop (mkF m 15 #[.val (.ref t), .val (.int (0 : Int32)), .val (.int (Int32.ofNat cs.length)), .val (.int (Int32.ofNat cs.length)), .val (.ref u)] [(.ref t)])) _
  refine GoOn.step (fun tq kq => XS.iloadN X376.here hx rfl (hb hby own_d278) rfl kq) ?_
  show GoOn p e below (T376.setTop (mkF m 16 #[.val (.ref t), .val (.int (0 : Int32)), .val (.int (Int32.ofNat cs.length)), .val (.int (Int32.ofNat cs.length)), .val (.ref u)] [(.int (0 : Int32)), (.ref t)])) _
  refine GoOn.step (fun tq kq => XS.aload X376.here hx rfl (hb hby own_d279) rfl rfl kq) ?_
  show GoOn p e below (T376.setTop (mkF m 18 #[.val (.ref t), .val (.int (0 : Int32)), .val (.int (Int32.ofNat cs.length)), .val (.int (Int32.ofNat cs.length)), .val (.ref u)] [(.ref u), (.int (0 : Int32)), (.ref t)])) _
  refine GoOn.step (fun tq kq => XS.iconst X376.here hx rfl (hb hby own_d280) kq) ?_
  show GoOn p e below (T376.setTop (mkF m 19 #[.val (.ref t), .val (.int (0 : Int32)), .val (.int (Int32.ofNat cs.length)), .val (.int (Int32.ofNat cs.length)), .val (.ref u)] [(.int (0 : Int32)), (.ref u), (.int (0 : Int32)), (.ref t)])) _
  refine GoOn.step (fun tq kq => XS.aloadN X376.here hx rfl (hb hby own_d281) rfl rfl kq) ?_
  show GoOn p e below (T376.setTop (mkF m 20 #[.val (.ref t), .val (.int (0 : Int32)), .val (.int (Int32.ofNat cs.length)), .val (.int (Int32.ofNat cs.length)), .val (.ref u)] [(.ref t), (.int (0 : Int32)), (.ref u), (.int (0 : Int32)), (.ref t)])) _
  refine GoOn.step (fun tq kq => alenA X376 hx hZ e376 V380 (g := (mkF m 20 #[.val (.ref t), .val (.int (0 : Int32)), .val (.int (Int32.ofNat cs.length)), .val (.int (Int32.ofNat cs.length)), .val (.ref u)] [(.ref t), (.int (0 : Int32)), (.ref u), (.int (0 : Int32)), (.ref t)])) rfl rfl (hb hby own_d282) _ kq) ?_
  show GoOn p e below (T376.setTop (mkF m 21 #[.val (.ref t), .val (.int (0 : Int32)), .val (.int (Int32.ofNat cs.length)), .val (.int (Int32.ofNat cs.length)), .val (.ref u)] [(.int (Int32.ofNat cap)), (.int (0 : Int32)), (.ref u), (.int (0 : Int32)), (.ref t)])) _
  refine GoOn.step (fun tq kq => XS.iloadN X376.here hx rfl (hb hby own_d283) rfl kq) ?_
  show GoOn p e below (T376.setTop (mkF m 22 #[.val (.ref t), .val (.int (0 : Int32)), .val (.int (Int32.ofNat cs.length)), .val (.int (Int32.ofNat cs.length)), .val (.ref u)] [(.int (0 : Int32)), (.int (Int32.ofNat cap)), (.int (0 : Int32)), (.ref u), (.int (0 : Int32)), (.ref t)])) _
  refine GoOn.step (fun tq kq => XS.isub X376.here hx rfl (hb hby own_d284) rfl kq) ?_
  show GoOn p e below (T376.setTop (mkF m 23 #[.val (.ref t), .val (.int (0 : Int32)), .val (.int (Int32.ofNat cs.length)), .val (.int (Int32.ofNat cs.length)), .val (.ref u)] [(.int ((Int32.ofNat cap) - (0 : Int32))), (.int (0 : Int32)), (.ref u), (.int (0 : Int32)), (.ref t)])) _
  rw [own_sub0]
  show GoOn p e below (T376.setTop (mkF m 23 #[.val (.ref t), .val (.int (0 : Int32)), .val (.int (Int32.ofNat cs.length)), .val (.int (Int32.ofNat cs.length)), .val (.ref u)] [(.int (Int32.ofNat cap)), (.int (0 : Int32)), (.ref u), (.int (0 : Int32)), (.ref t)])) _
  refine GoOn.step (fun tq kq => XS.iloadN X376.here hx rfl (hb hby own_d285) rfl kq) ?_
  show GoOn p e below (T376.setTop (mkF m 24 #[.val (.ref t), .val (.int (0 : Int32)), .val (.int (Int32.ofNat cs.length)), .val (.int (Int32.ofNat cs.length)), .val (.ref u)] [(.int (Int32.ofNat cs.length)), (.int (Int32.ofNat cap)), (.int (0 : Int32)), (.ref u), (.int (0 : Int32)), (.ref t)])) _
  obtain ⟨_, _, ⟨T385, L385, k385, n385⟩, -, X385, ⟨Lc385, hQ385, l385, y385, z385⟩, st385⟩ := Jvm.LawKit.callS X376 hx (y := (⟨"java/lang/Math", "min", "(II)I"⟩ : MethodName)) hown (mvT hZ (hw _ (List.mem_of_getElem? (i := 132) rfl))) (mvT hZ (hw _ (List.mem_of_getElem? (i := 133) rfl))) (mvT hZ (hw _ (List.mem_of_getElem? (i := 134) rfl))) (mvT hZ (hw _ (List.mem_of_getElem? (i := 135) rfl))) (by decide) (backOf (W := 4) (rmMin l Z a0 hw (Int32.ofNat cap) (Int32.ofNat cs.length) h376 n0 Z381 (own_lt32 hlt hc5)) hZ (hw _ (List.mem_of_getElem? (i := 135) rfl)) (hw _ (List.mem_of_getElem? (i := 134) rfl)) (by decide) (by decide)) (g := (mkF m 24 #[.val (.ref t), .val (.int (0 : Int32)), .val (.int (Int32.ofNat cs.length)), .val (.int (Int32.ofNat cs.length)), .val (.ref u)] [(.int (Int32.ofNat cs.length)), (.int (Int32.ofNat cap)), (.int (0 : Int32)), (.ref u), (.int (0 : Int32)), (.ref t)])) rfl (by rw [hml]; rfl) (argsL := [(.int (Int32.ofNat cap)), (.int (Int32.ofNat cs.length))]) (rest := [(.int (0 : Int32)), (.ref u), (.int (0 : Int32)), (.ref t)]) (lenOf own_pd287 rfl) rfl (by show 2 * 0 + _ ≤ _; exact Nat.le_of_eq rfl) (hb hby own_d286) (fun _ _ => ⟨rfl, e376, (by decide : 1 + 0 ≤ _), (by decide : 40 + 0 ≤ _)⟩)
  dsimp only [Pt.U, Pt.locs, Pt.cells, Pt.slots] at X385 l385 y385 z385 st385 hQ385
  subst l385 y385 z385
  obtain ⟨rfl, N385, e385⟩ := hQ385
  refine GoOn.step st385 ?_
  have N386 := Fr.app N375 N385
  show GoOn p e below (T385.setTop (mkF m 27 #[.val (.ref t), .val (.int (0 : Int32)), .val (.int (Int32.ofNat cs.length)), .val (.int (Int32.ofNat cs.length)), .val (.ref u)] [(.int (Int32.ofNat cs.length)), (.int (0 : Int32)), (.ref u), (.int (0 : Int32)), (.ref t)])) _
  obtain ⟨T387, h387, L387, X387, e387, N387, K387, Vc387, st387⟩ := cpA X385 hx hZ hown (hw _ (List.mem_of_getElem? (i := 136) rfl)) (hw _ (List.mem_of_getElem? (i := 88) rfl)) (hw _ (List.mem_of_getElem? (i := 86) rfl)) (hw _ (List.mem_of_getElem? (i := 87) rfl)) e385 V380 V384 (Or.inl ⟨rfl, rfl⟩) (by decide) (by decide) (own_nn hcs) (by rw [own_z0, own_ns hcs, own_ns hc5]; omega) (by rw [own_z0]; simp) rfl (by rw [own_z0, own_ns hcs]; simp) N386 gn378 (g := (mkF m 27 #[.val (.ref t), .val (.int (0 : Int32)), .val (.int (Int32.ofNat cs.length)), .val (.int (Int32.ofNat cs.length)), .val (.ref u)] [(.int (Int32.ofNat cs.length)), (.int (0 : Int32)), (.ref u), (.int (0 : Int32)), (.ref t)])) rfl (by rw [hml]; rfl) rfl (hb hby own_d288) (by decide) (W := 0) (by show 2 * 0 + _ ≤ _; exact Nat.le_of_eq rfl) (by decide)
  have V388 : Arv Z h387 u k376 .byte (Int32.ofNat cs.length) (own_bs cs) (.int (0 : Int32)) := by rw [← own_cut (Nat.le_of_lt hlt) hc5]; exact Vc387
  refine GoOn.step st387 ?_
  have V389 : Arv Z h387 t kb .byte (Int32.ofNat cap) (own_sb cap cs) (.int 0) := V380.keep K387 (ninS ne377 nin0)
  have Z390 : n0 ≤ h387.size := Nat.le_trans Z381 K387.1
  have K391 : Keep h0 h387 [] := K382.trans K387 ((allS (Or.inr sz379) all0))
  show GoOn p e below (T387.setTop (mkF m 30 #[.val (.ref t), .val (.int (0 : Int32)), .val (.int (Int32.ofNat cs.length)), .val (.int (Int32.ofNat cs.length)), .val (.ref u)] [])) _
  refine GoOn.step (fun tq kq => XS.aload X387.here hx rfl (hb hby own_d289) rfl rfl kq) ?_
  show GoOn p e below (T387.setTop (mkF m 32 #[.val (.ref t), .val (.int (0 : Int32)), .val (.int (Int32.ofNat cs.length)), .val (.int (Int32.ofNat cs.length)), .val (.ref u)] [(.ref u)])) _
  refine GoOn.ret X387 Bd.notSynchronized (v := some (.ref u)) (fun h => by rw [Bd.returns] at h; cases h) (fun fs hr => retOut X387 hx Bd.returns rfl (Or.inr (Or.inr (Or.inr (Or.inr ⟨rfl, rfl, rfl⟩)))) (hb hby own_d290) hr) (by decide) (by decide) ?_
  rw [e387]
  exact ⟨u, _, rfl, N387, K391, sz379, V388⟩
set_option maxRecDepth 65536 in
set_option maxHeartbeats 40000000 in
theorem rmCR (l : Launch) (Z : State) (a0 : Array Value) (hw : ∀ d ∈ tables_1, d.before a0 Z = true) (t : Addr) (kb : ClassId) (cap : Nat) (cs : List Int32) (h0 : Heap) (n0 : Nat) (Z0 : n0 ≤ h0.size) (V0 : Arv Z h0 t kb .byte (Int32.ofNat cap) (own_sb cap cs) (.int 0)) (hlt : cs.length < cap) (hc4 : cap ≤ 40) :
    MetFree l (⟨"java/util/Arrays", "copyOfRange", "([BII)[B"⟩ : MethodName) (head1 [Jvm.Cond.code (⟨"java/util/Arrays", "copyOfRange", "([BII)[B"⟩ : MethodName) jdk_65_method_132_code 3 (some (.array .byte))] ({ frames := 2, cells := 1, slots := 40, locals := 34 } : Room)) (fun aa U => aa = #[(.ref t), (.int (0 : Int32)), (.int (Int32.ofNat cs.length))] ∧ Z.Warmed39 U.vm ∧ U.heap = h0) (fun _ _ _ _ _ => True) (fun _ U o U' => ∃ v L, o = .returned v ∧ QCop Z cs h0 n0 v U'.heap L ∧ FrameEnd U o U' L ({ frames := 2, cells := 1, slots := 40, locals := 34 } : Room).cells ({ frames := 2, cells := 1, slots := 40, locals := 34 } : Room).slots) := by
  refine MetFree.of_bodySF (plainFor_of_name own_pn260) hisR ?_
  intro p e s m args below meth c s₁ Bd hml0 hP hK
  obtain ⟨rfl, hZ, hh⟩ := hP
  have hx := Bd.exec
  have hby := Bd.bytes
  have hml : c.maxLocals = 3 := hml0
  have hown : s.vm.findClass "java/util/Arrays" = some m.cls := findClass_of_methodNamed Bd.named
  have hnm := (name_of_methodNamed Bd.named Bd.method).1
  have X0 : Stand p l e ({ frames := 2, cells := 1, slots := 40, locals := 34 } : Room) s m #[(.ref t), (.int (0 : Int32)), (.int (Int32.ofNat cs.length))] below meth c s₁ [] 0 0 := Stand.of_body Bd
  have e0 : s₁.heap = h0 := by rw [← hh, Bd.state]; rfl
  have N0 := Fr.nil n0
  have K0 : Keep h0 h0 [] := Keep.refl _ _
  show GoOn p e below (s₁.setTop (entryFrame m #[(.ref t), (.int (0 : Int32)), (.int (Int32.ofNat cs.length))] 3)) (PostN s (QCop Z cs h0 n0) ({ frames := 2, cells := 1, slots := 40, locals := 34 } : Room).cells ({ frames := 2, cells := 1, slots := 40, locals := 34 } : Room).slots)
  refine GoOn.step (fun tq kq => castTop (own_ef291 m t (0 : Int32) (Int32.ofNat cs.length)) kq) ?_
  show GoOn p e below (s₁.setTop (mkF m 0 #[.val (.ref t), .val (.int (0 : Int32)), .val (.int (Int32.ofNat cs.length))] [])) _
  have hc5 : cap ≤ 4000 := by omega
  refine GoOn.step (fun tq kq => XS.iloadN X0.here hx rfl (hb hby own_d292) rfl kq) ?_
  show GoOn p e below (s₁.setTop (mkF m 1 #[.val (.ref t), .val (.int (0 : Int32)), .val (.int (Int32.ofNat cs.length))] [(.int (0 : Int32))])) _
  refine GoOn.step (fun tq kq => XS.ifNo X0.here hx rfl (hb hby own_d293) rfl ((if0 _ _).trans (teq rfl).2) kq) ?_
  show GoOn p e below (s₁.setTop (mkF m 4 #[.val (.ref t), .val (.int (0 : Int32)), .val (.int (Int32.ofNat cs.length))] [])) _
  refine GoOn.step (fun tq kq => XS.iloadN X0.here hx rfl (hb hby own_d294) rfl kq) ?_
  show GoOn p e below (s₁.setTop (mkF m 5 #[.val (.ref t), .val (.int (0 : Int32)), .val (.int (Int32.ofNat cs.length))] [(.int (Int32.ofNat cs.length))])) _
  refine GoOn.step (fun tq kq => XS.aloadN X0.here hx rfl (hb hby own_d295) rfl rfl kq) ?_
  show GoOn p e below (s₁.setTop (mkF m 6 #[.val (.ref t), .val (.int (0 : Int32)), .val (.int (Int32.ofNat cs.length))] [(.ref t), (.int (Int32.ofNat cs.length))])) _
  refine GoOn.step (fun tq kq => alenA X0 hx hZ e0 V0 (g := (mkF m 6 #[.val (.ref t), .val (.int (0 : Int32)), .val (.int (Int32.ofNat cs.length))] [(.ref t), (.int (Int32.ofNat cs.length))])) rfl rfl (hb hby own_d296) _ kq) ?_
  show GoOn p e below (s₁.setTop (mkF m 7 #[.val (.ref t), .val (.int (0 : Int32)), .val (.int (Int32.ofNat cs.length))] [(.int (Int32.ofNat cap)), (.int (Int32.ofNat cs.length))])) _
  refine GoOn.step (fun tq kq => XS.icmpNo X0.here hx rfl (hb hby own_d297) rfl (feq (fun q => own_ne32 hlt hc5 q)).1 kq) ?_
  show GoOn p e below (s₁.setTop (mkF m 10 #[.val (.ref t), .val (.int (0 : Int32)), .val (.int (Int32.ofNat cs.length))] [])) _
  refine GoOn.step (fun tq kq => XS.aloadN X0.here hx rfl (hb hby own_d298) rfl rfl kq) ?_
  show GoOn p e below (s₁.setTop (mkF m 11 #[.val (.ref t), .val (.int (0 : Int32)), .val (.int (Int32.ofNat cs.length))] [(.ref t)])) _
  refine GoOn.step (fun tq kq => XS.iloadN X0.here hx rfl (hb hby own_d299) rfl kq) ?_
  show GoOn p e below (s₁.setTop (mkF m 12 #[.val (.ref t), .val (.int (0 : Int32)), .val (.int (Int32.ofNat cs.length))] [(.int (0 : Int32)), (.ref t)])) _
  refine GoOn.step (fun tq kq => XS.iloadN X0.here hx rfl (hb hby own_d300) rfl kq) ?_
  show GoOn p e below (s₁.setTop (mkF m 13 #[.val (.ref t), .val (.int (0 : Int32)), .val (.int (Int32.ofNat cs.length))] [(.int (Int32.ofNat cs.length)), (.int (0 : Int32)), (.ref t)])) _
  obtain ⟨_, _, ⟨T392, L392, k392, n392⟩, -, X392, ⟨Lc392, hQ392, l392, y392, z392⟩, st392⟩ := Jvm.LawKit.callS X0 hx (y := (⟨"java/util/Arrays", "copyOfRangeByte", "([BII)[B"⟩ : MethodName)) hown (mvT hZ (hw _ (List.mem_of_getElem? (i := 126) rfl))) (mvT hZ (hw _ (List.mem_of_getElem? (i := 127) rfl))) (mvT hZ (hw _ (List.mem_of_getElem? (i := 124) rfl))) (mvT hZ (hw _ (List.mem_of_getElem? (i := 128) rfl))) (by decide) (backOf (W := 0) (rmCRB l Z a0 hw t kb cap cs h0 n0 Z0 V0 hlt hc4) hZ (hw _ (List.mem_of_getElem? (i := 128) rfl)) (hw _ (List.mem_of_getElem? (i := 124) rfl)) (by decide) (by decide)) (g := (mkF m 13 #[.val (.ref t), .val (.int (0 : Int32)), .val (.int (Int32.ofNat cs.length))] [(.int (Int32.ofNat cs.length)), (.int (0 : Int32)), (.ref t)])) rfl (by rw [hml]; rfl) (argsL := [(.ref t), (.int (0 : Int32)), (.int (Int32.ofNat cs.length))]) (rest := []) (lenOf own_pd302 rfl) rfl (by show 2 * 0 + _ ≤ _; exact Nat.le_of_eq rfl) (hb hby own_d301) (fun _ _ => ⟨rfl, e0, (by decide : 0 + 1 ≤ _), (by decide : 0 + 40 ≤ _)⟩)
  dsimp only [Pt.U, Pt.locs, Pt.cells, Pt.slots] at X392 l392 y392 z392 st392 hQ392
  subst l392 y392 z392
  obtain ⟨u392, ku392, rfl, N392, K392, ge392, V392⟩ := hQ392
  refine GoOn.step st392 ?_
  have N393 := Fr.app N0 N392
  have V394 : Arv Z T392.heap t kb .byte (Int32.ofNat cap) (own_sb cap cs) (.int 0) := V0.keep K392 nin0
  have Z395 : n0 ≤ T392.heap.size := Nat.le_trans Z0 K392.1
  have K396 : Keep h0 T392.heap [] := K0.trans K392 (all0)
  show GoOn p e below (T392.setTop (mkF m 16 #[.val (.ref t), .val (.int (0 : Int32)), .val (.int (Int32.ofNat cs.length))] [(.ref u392)])) _
  refine GoOn.ret X392 Bd.notSynchronized (v := some (.ref u392)) (fun h => by rw [Bd.returns] at h; cases h) (fun fs hr => retOut X392 hx Bd.returns rfl (Or.inr (Or.inr (Or.inr (Or.inr ⟨rfl, rfl, rfl⟩)))) (hb hby own_d303) hr) (by decide) (by decide) ?_
  exact ⟨u392, ku392, rfl, N393, K396, ge392, V392⟩
def QS150 (Z : State) (a : Addr) (cs : List Int32) (h0 : Heap) (n0 : Nat) (v : Option Value) (h : Heap) (L : List Loc) : Prop := v = none ∧ Fr n0 L ∧ Keep h0 h [a] ∧ StrIs Z h a cs
set_option maxRecDepth 65536 in
set_option maxHeartbeats 40000000 in
theorem rmS150 (l : Launch) (Z : State) (a0 : Array Value) (hw : ∀ d ∈ tables_1, d.before a0 Z = true) (a b t : Addr) (kb : ClassId) (cap : Nat) (cs : List Int32) (G1 : Int32) (h0 : Heap) (n0 : Nat) (Z0 : n0 ≤ h0.size) (SC : Sta Z Z.heap "java/lang/String" "COMPACT_STRINGS" "Z" (.int G1)) (PC : ¬ G1 = (0 : Int32)) (E0 : Exa Z h0 b "java/lang/StringBuilder") (F0c : Fld Z h0 b "java/lang/AbstractStringBuilder" "coder" "B" (.int 0)) (F0n : Fld Z h0 b "java/lang/AbstractStringBuilder" "count" "I" (.int (Int32.ofNat cs.length))) (F0v : Fld Z h0 b "java/lang/AbstractStringBuilder" "value" "[B" (.ref t)) (V0 : Arv Z h0 t kb .byte (Int32.ofNat cap) (own_sb cap cs) (.int 0)) (EA : Exa Z h0 a "java/lang/String") (FAv : Fld Z h0 a "java/lang/String" "value" "[B" .null) (FAc : Fld Z h0 a "java/lang/String" "coder" "B" (.int (0 : Int32))) (ga : n0 ≤ a) (nab : a ≠ b) (nat : a ≠ t) (hlt : cs.length < cap) (hc4 : cap ≤ 40) (hp : ∀ c ∈ cs, ¬ c < 0 ∧ ¬ (255 : Int32) < c) (O0 : Old Z n0 h0) :
    MetFree l (⟨"java/lang/String", "<init>", "(Ljava/lang/AbstractStringBuilder;Ljava/lang/Void;)V"⟩ : MethodName) (head1 [Jvm.Cond.code (⟨"java/lang/String", "<init>", "(Ljava/lang/AbstractStringBuilder;Ljava/lang/Void;)V"⟩ : MethodName) jdk_42_method_150_code 5 none] ({ frames := 3, cells := 1, slots := 40, locals := 49 } : Room)) (fun aa U => aa = #[(.ref a), (.ref b), .null] ∧ Z.Warmed39 U.vm ∧ U.heap = h0) (fun _ _ _ _ _ => True) (fun _ U o U' => ∃ v L, o = .returned v ∧ QS150 Z a cs h0 n0 v U'.heap L ∧ FrameEnd U o U' L ({ frames := 3, cells := 1, slots := 40, locals := 49 } : Room).cells ({ frames := 3, cells := 1, slots := 40, locals := 49 } : Room).slots) := by
  refine MetFree.of_bodySF (plainFor_of_name own_pn52) hisR ?_
  intro p e s m args below meth c s₁ Bd hml0 hP hK
  obtain ⟨rfl, hZ, hh⟩ := hP
  have hx := Bd.exec
  have hby := Bd.bytes
  have hml : c.maxLocals = 5 := hml0
  have hown : s.vm.findClass "java/lang/String" = some m.cls := findClass_of_methodNamed Bd.named
  have hnm := (name_of_methodNamed Bd.named Bd.method).1
  have X0 : Stand p l e ({ frames := 3, cells := 1, slots := 40, locals := 49 } : Room) s m #[(.ref a), (.ref b), .null] below meth c s₁ [] 0 0 := Stand.of_body Bd
  have e0 : s₁.heap = h0 := by rw [← hh, Bd.state]; rfl
  have N0 := Fr.nil n0
  have K0 : Keep h0 h0 [] := Keep.refl _ _
  show GoOn p e below (s₁.setTop (entryFrame m #[(.ref a), (.ref b), .null] 5)) (PostN s (QS150 Z a cs h0 n0) ({ frames := 3, cells := 1, slots := 40, locals := 49 } : Room).cells ({ frames := 3, cells := 1, slots := 40, locals := 49 } : Room).slots)
  refine GoOn.step (fun tq kq => castTop (own_ef304 m a b) kq) ?_
  show GoOn p e below (s₁.setTop (mkF m 0 #[.val (.ref a), .val (.ref b), .val .null, .unset, .unset] [])) _
  have K0a : Keep h0 h0 [a] := Keep.refl _ _
  refine GoOn.step (fun tq kq => XS.aloadN X0.here hx rfl (hb hby own_d305) rfl rfl kq) ?_
  show GoOn p e below (s₁.setTop (mkF m 1 #[.val (.ref a), .val (.ref b), .val .null, .unset, .unset] [(.ref a)])) _
  obtain ⟨T397, X397, e397, st397⟩ := initO X0 hx hZ hown (hw _ (List.mem_of_getElem? (i := 103) rfl)) (hw _ (List.mem_of_getElem? (i := 32) rfl)) (hw _ (List.mem_of_getElem? (i := 33) rfl)) e0 (g := (mkF m 1 #[.val (.ref a), .val (.ref b), .val .null, .unset, .unset] [(.ref a)])) rfl (by rw [hml]; rfl) rfl (hb hby own_d306) (by decide) (W := 0) (by show 2 * 0 + _ ≤ _; exact Nat.le_of_eq rfl) (by decide)
  refine GoOn.step st397 ?_
  show GoOn p e below (T397.setTop (mkF m 4 #[.val (.ref a), .val (.ref b), .val .null, .unset, .unset] [])) _
  refine GoOn.step (fun tq kq => XS.aloadN X397.here hx rfl (hb hby own_d307) rfl rfl kq) ?_
  show GoOn p e below (T397.setTop (mkF m 5 #[.val (.ref a), .val (.ref b), .val .null, .unset, .unset] [(.ref b)])) _
  obtain ⟨cqc399, kqc399, qac399, qbc399, qcc399⟩ := isOf hZ e397 E0
  obtain ⟨_, _, ⟨T398, L398, k398, n398⟩, -, X398, ⟨Lc398, hQ398, l398, y398, z398⟩, st398⟩ := X397.virtualBack hx (y := (⟨"java/lang/AbstractStringBuilder", "getValue", "()[B"⟩ : MethodName)) (z := (⟨"java/lang/AbstractStringBuilder", "getValue", "()[B"⟩ : MethodName)) hown (mvT hZ (hw _ (List.mem_of_getElem? (i := 104) rfl))) (mvT hZ (hw _ (List.mem_of_getElem? (i := 105) rfl))) (notFace_of_selects (args := #[]) (mvT hZ (hw _ (List.mem_of_getElem? (i := 107) rfl)))) (mvT hZ (hw _ (List.mem_of_getElem? (i := 107) rfl))) (mvT hZ (hw _ (List.mem_of_getElem? (i := 106) rfl))) (by decide) (backOf (W := 0) (rmGetV l Z a0 hw b t h0 n0 Z0 F0v) hZ (hw _ (List.mem_of_getElem? (i := 108) rfl)) (hw _ (List.mem_of_getElem? (i := 29) rfl)) (by decide) (by decide)) qac399 qcc399 (g := (mkF m 5 #[.val (.ref a), .val (.ref b), .val .null, .unset, .unset] [(.ref b)])) rfl (by rw [hml]; rfl) (Steps.refl _) (argsL := []) (rest := []) (lenOf own_pd309 rfl) rfl (by show 2 * 0 + _ ≤ _; exact Nat.le_of_eq rfl) (hb hby own_d308) (fun _ _ => ⟨rfl, e397, (by decide : 0 + 0 ≤ _), (by decide : 0 + 0 ≤ _)⟩)
  dsimp only [Pt.U, Pt.locs, Pt.cells, Pt.slots] at X398 l398 y398 z398 st398 hQ398
  subst l398 y398 z398
  obtain ⟨rfl, N398, e398⟩ := hQ398
  refine GoOn.trans st398 ?_
  have N400 := Fr.app N0 N398
  show GoOn p e below (T398.setTop (mkF m 8 #[.val (.ref a), .val (.ref b), .val .null, .unset, .unset] [(.ref t)])) _
  refine GoOn.step (fun tq kq => XS.astoreN X398.here hx rfl (hb hby own_d310) rfl rfl (l' := #[.val (.ref a), .val (.ref b), .val .null, .val (.ref t), .unset]) rfl kq) ?_
  show GoOn p e below (T398.setTop (mkF m 9 #[.val (.ref a), .val (.ref b), .val .null, .val (.ref t), .unset] [])) _
  refine GoOn.step (fun tq kq => XS.aloadN X398.here hx rfl (hb hby own_d311) rfl rfl kq) ?_
  show GoOn p e below (T398.setTop (mkF m 10 #[.val (.ref a), .val (.ref b), .val .null, .val (.ref t), .unset] [(.ref b)])) _
  obtain ⟨cqc402, kqc402, qac402, qbc402, qcc402⟩ := isOf hZ e398 E0
  obtain ⟨_, _, ⟨T401, L401, k401, n401⟩, -, X401, ⟨Lc401, hQ401, l401, y401, z401⟩, st401⟩ := X398.virtualBack hx (y := (⟨"java/lang/AbstractStringBuilder", "length", "()I"⟩ : MethodName)) (z := (⟨"java/lang/StringBuilder", "length", "()I"⟩ : MethodName)) hown (mvT hZ (hw _ (List.mem_of_getElem? (i := 109) rfl))) (mvT hZ (hw _ (List.mem_of_getElem? (i := 110) rfl))) (own_nf (args := #[]) (mvT hZ (hw _ (List.mem_of_getElem? (i := 107) rfl))) rfl) (mvT hZ (hw _ (List.mem_of_getElem? (i := 112) rfl))) (mvT hZ (hw _ (List.mem_of_getElem? (i := 113) rfl))) (by decide) (backOf (W := 0) (rmSLen l Z a0 hw b (Int32.ofNat cs.length) h0 n0 Z0 E0 F0n) hZ (hw _ (List.mem_of_getElem? (i := 114) rfl)) (hw _ (List.mem_of_getElem? (i := 21) rfl)) (by decide) (by decide)) qac402 qcc402 (g := (mkF m 10 #[.val (.ref a), .val (.ref b), .val .null, .val (.ref t), .unset] [(.ref b)])) rfl (by rw [hml]; rfl) (Steps.refl _) (argsL := []) (rest := []) (lenOf own_pd181 rfl) rfl (by show 2 * 0 + _ ≤ _; exact Nat.le_of_eq rfl) (hb hby own_d312) (fun _ _ => ⟨rfl, e398, (by decide : 0 + 0 ≤ _), (by decide : 0 + 0 ≤ _)⟩)
  dsimp only [Pt.U, Pt.locs, Pt.cells, Pt.slots] at X401 l401 y401 z401 st401 hQ401
  subst l401 y401 z401
  obtain ⟨rfl, N401, e401⟩ := hQ401
  refine GoOn.trans st401 ?_
  have N403 := Fr.app N400 N401
  show GoOn p e below (T401.setTop (mkF m 13 #[.val (.ref a), .val (.ref b), .val .null, .val (.ref t), .unset] [(.int (Int32.ofNat cs.length))])) _
  refine GoOn.step (fun tq kq => XS.istore X401.here hx rfl (hb hby own_d313) rfl (l' := #[.val (.ref a), .val (.ref b), .val .null, .val (.ref t), .val (.int (Int32.ofNat cs.length))]) rfl kq) ?_
  show GoOn p e below (T401.setTop (mkF m 15 #[.val (.ref a), .val (.ref b), .val .null, .val (.ref t), .val (.int (Int32.ofNat cs.length))] [])) _
  refine GoOn.step (fun tq kq => XS.aloadN X401.here hx rfl (hb hby own_d314) rfl rfl kq) ?_
  show GoOn p e below (T401.setTop (mkF m 16 #[.val (.ref a), .val (.ref b), .val .null, .val (.ref t), .val (.int (Int32.ofNat cs.length))] [(.ref b)])) _
  obtain ⟨cqc405, kqc405, qac405, qbc405, qcc405⟩ := isOf hZ e401 E0
  obtain ⟨_, _, ⟨T404, L404, k404, n404⟩, -, X404, ⟨Lc404, hQ404, l404, y404, z404⟩, st404⟩ := X401.virtualBack hx (y := (⟨"java/lang/AbstractStringBuilder", "isLatin1", "()Z"⟩ : MethodName)) (z := (⟨"java/lang/AbstractStringBuilder", "isLatin1", "()Z"⟩ : MethodName)) hown (mvT hZ (hw _ (List.mem_of_getElem? (i := 117) rfl))) (mvT hZ (hw _ (List.mem_of_getElem? (i := 118) rfl))) (notFace_of_selects (args := #[]) (mvT hZ (hw _ (List.mem_of_getElem? (i := 120) rfl)))) (mvT hZ (hw _ (List.mem_of_getElem? (i := 120) rfl))) (mvT hZ (hw _ (List.mem_of_getElem? (i := 119) rfl))) (by decide) (backOf (W := 0) (rmIsL l Z a0 hw b G1 h0 n0 Z0 SC PC F0c O0) hZ (hw _ (List.mem_of_getElem? (i := 121) rfl)) (hw _ (List.mem_of_getElem? (i := 29) rfl)) (by decide) (by decide)) qac405 qcc405 (g := (mkF m 16 #[.val (.ref a), .val (.ref b), .val .null, .val (.ref t), .val (.int (Int32.ofNat cs.length))] [(.ref b)])) rfl (by rw [hml]; rfl) (Steps.refl _) (argsL := []) (rest := []) (lenOf own_pd316 rfl) rfl (by show 2 * 0 + _ ≤ _; exact Nat.le_of_eq rfl) (hb hby own_d315) (fun _ _ => ⟨rfl, e401, (by decide : 0 + 0 ≤ _), (by decide : 0 + 0 ≤ _)⟩)
  dsimp only [Pt.U, Pt.locs, Pt.cells, Pt.slots] at X404 l404 y404 z404 st404 hQ404
  subst l404 y404 z404
  obtain ⟨rfl, N404, e404⟩ := hQ404
  refine GoOn.trans st404 ?_
  have N406 := Fr.app N403 N404
  show GoOn p e below (T404.setTop (mkF m 19 #[.val (.ref a), .val (.ref b), .val .null, .val (.ref t), .val (.int (Int32.ofNat cs.length))] [(.int (1 : Int32))])) _
  refine GoOn.step (fun tq kq => XS.ifNo X404.here hx rfl (hb hby own_d317) rfl ((if0 _ _).trans (feq (by decide)).1) kq) ?_
  show GoOn p e below (T404.setTop (mkF m 22 #[.val (.ref a), .val (.ref b), .val .null, .val (.ref t), .val (.int (Int32.ofNat cs.length))] [])) _
  refine GoOn.step (fun tq kq => XS.aloadN X404.here hx rfl (hb hby own_d318) rfl rfl kq) ?_
  show GoOn p e below (T404.setTop (mkF m 23 #[.val (.ref a), .val (.ref b), .val .null, .val (.ref t), .val (.int (Int32.ofNat cs.length))] [(.ref a)])) _
  refine GoOn.step (fun tq kq => XS.iconst X404.here hx rfl (hb hby own_d319) kq) ?_
  show GoOn p e below (T404.setTop (mkF m 24 #[.val (.ref a), .val (.ref b), .val .null, .val (.ref t), .val (.int (Int32.ofNat cs.length))] [(.int (0 : Int32)), (.ref a)])) _
  obtain ⟨T407, h407, X407, e407, W407, st407⟩ := putFN X404 hx hZ hown (hw _ (List.mem_of_getElem? (i := 61) rfl)) Via.refl e404 FAc EA (Or.inr ⟨(hw _ (List.mem_of_getElem? (i := 10) rfl)), rfl, hnm⟩) (hw _ (List.mem_of_getElem? (i := 7) rfl)) (ty := .byte) (v' := (.int (nar .byte (0 : Int32)))) (by decide) rfl (fits_nar_byte _) (g := (mkF m 24 #[.val (.ref a), .val (.ref b), .val .null, .val (.ref t), .val (.int (Int32.ofNat cs.length))] [(.int (0 : Int32)), (.ref a)])) rfl rfl (hb hby own_d320)
  have N408 := Fr.snoc X407 N406 ga
  have Kx407 : Keep h0 h407 [a] := Keep.of_wr W407
  have F409 : Fld Z h407 a "java/lang/String" "coder" "B" (.int (nar .byte (0 : Int32))) := FAc.same W407
  have F410 : Fld Z h407 a "java/lang/String" "value" "[B" .null := FAv.other W407 (Or.inr (slot_ne (a0 := a0) (Or.inr (hw _ (List.mem_of_getElem? (i := 9) rfl))) (Or.inr (hw _ (List.mem_of_getElem? (i := 10) rfl))) (by decide) (t := (.array .byte)) (t' := .byte) (by decide) (by decide)))
  refine GoOn.step st407 ?_
  have E411 : Exa Z h407 b "java/lang/StringBuilder" := E0.keep Kx407
  have F412 : Fld Z h407 b "java/lang/AbstractStringBuilder" "coder" "B" (.int 0) := F0c.keep Kx407 (ninS (Ne.symm nab) nin0)
  have F413 : Fld Z h407 b "java/lang/AbstractStringBuilder" "count" "I" (.int (Int32.ofNat cs.length)) := F0n.keep Kx407 (ninS (Ne.symm nab) nin0)
  have F414 : Fld Z h407 b "java/lang/AbstractStringBuilder" "value" "[B" (.ref t) := F0v.keep Kx407 (ninS (Ne.symm nab) nin0)
  have V415 : Arv Z h407 t kb .byte (Int32.ofNat cap) (own_sb cap cs) (.int 0) := V0.keep Kx407 (ninS (Ne.symm nat) nin0)
  have E416 : Exa Z h407 a "java/lang/String" := EA.keep Kx407
  have O419 : Old Z n0 h407 := O0.keep Kx407 (allS ga all0)
  have Z420 : n0 ≤ h407.size := Nat.le_trans Z0 Kx407.1
  have K421 : Keep h0 h407 [a] := K0a.trans Kx407 ((allS (Or.inl (by simp)) all0))
  show GoOn p e below (T407.setTop (mkF m 27 #[.val (.ref a), .val (.ref b), .val .null, .val (.ref t), .val (.int (Int32.ofNat cs.length))] [])) _
  refine GoOn.step (fun tq kq => XS.aloadN X407.here hx rfl (hb hby own_d321) rfl rfl kq) ?_
  show GoOn p e below (T407.setTop (mkF m 28 #[.val (.ref a), .val (.ref b), .val .null, .val (.ref t), .val (.int (Int32.ofNat cs.length))] [(.ref a)])) _
  refine GoOn.step (fun tq kq => XS.aloadN X407.here hx rfl (hb hby own_d322) rfl rfl kq) ?_
  show GoOn p e below (T407.setTop (mkF m 29 #[.val (.ref a), .val (.ref b), .val .null, .val (.ref t), .val (.int (Int32.ofNat cs.length))] [(.ref t), (.ref a)])) _
  refine GoOn.step (fun tq kq => XS.iconst X407.here hx rfl (hb hby own_d323) kq) ?_
  show GoOn p e below (T407.setTop (mkF m 30 #[.val (.ref a), .val (.ref b), .val .null, .val (.ref t), .val (.int (Int32.ofNat cs.length))] [(.int (0 : Int32)), (.ref t), (.ref a)])) _
  refine GoOn.step (fun tq kq => XS.iload X407.here hx rfl (hb hby own_d324) rfl kq) ?_
  show GoOn p e below (T407.setTop (mkF m 32 #[.val (.ref a), .val (.ref b), .val .null, .val (.ref t), .val (.int (Int32.ofNat cs.length))] [(.int (Int32.ofNat cs.length)), (.int (0 : Int32)), (.ref t), (.ref a)])) _
  obtain ⟨_, _, ⟨T422, L422, k422, n422⟩, -, X422, ⟨Lc422, hQ422, l422, y422, z422⟩, st422⟩ := Jvm.LawKit.callS X407 hx (y := (⟨"java/util/Arrays", "copyOfRange", "([BII)[B"⟩ : MethodName)) hown (mvT hZ (hw _ (List.mem_of_getElem? (i := 122) rfl))) (mvT hZ (hw _ (List.mem_of_getElem? (i := 123) rfl))) (mvT hZ (hw _ (List.mem_of_getElem? (i := 124) rfl))) (mvT hZ (hw _ (List.mem_of_getElem? (i := 125) rfl))) (by decide) (backOf (W := 1) (rmCR l Z a0 hw t kb cap cs h407 n0 Z420 V415 hlt hc4) hZ (hw _ (List.mem_of_getElem? (i := 125) rfl)) (hw _ (List.mem_of_getElem? (i := 124) rfl)) (by decide) (by decide)) (g := (mkF m 32 #[.val (.ref a), .val (.ref b), .val .null, .val (.ref t), .val (.int (Int32.ofNat cs.length))] [(.int (Int32.ofNat cs.length)), (.int (0 : Int32)), (.ref t), (.ref a)])) rfl (by rw [hml]; rfl) (argsL := [(.ref t), (.int (0 : Int32)), (.int (Int32.ofNat cs.length))]) (rest := [(.ref a)]) (lenOf own_pd302 rfl) rfl (by show 2 * 0 + _ ≤ _; exact Nat.le_of_eq rfl) (hb hby own_d325) (fun _ _ => ⟨rfl, e407, (by decide : 0 + 1 ≤ _), (by decide : 0 + 40 ≤ _)⟩)
  dsimp only [Pt.U, Pt.locs, Pt.cells, Pt.slots] at X422 l422 y422 z422 st422 hQ422
  subst l422 y422 z422
  obtain ⟨u422, ku422, rfl, N422, K422, ge422, V422⟩ := hQ422
  refine GoOn.step st422 ?_
  have N423 := Fr.app N408 N422
  have ne424 : b ≠ u422 := Nat.ne_of_lt (Nat.lt_of_lt_of_le E411.lt ge422)
  have ne425 : t ≠ u422 := Nat.ne_of_lt (Nat.lt_of_lt_of_le V415.lt ge422)
  have ne426 : a ≠ u422 := Nat.ne_of_lt (Nat.lt_of_lt_of_le E416.lt ge422)
  have gn427 : n0 ≤ u422 := Nat.le_trans Z420 ge422
  have sz428 : h0.size ≤ u422 := Nat.le_trans K421.1 ge422
  have E429 : Exa Z T422.heap b "java/lang/StringBuilder" := E411.keep K422
  have F430 : Fld Z T422.heap b "java/lang/AbstractStringBuilder" "coder" "B" (.int 0) := F412.keep K422 nin0
  have F431 : Fld Z T422.heap b "java/lang/AbstractStringBuilder" "count" "I" (.int (Int32.ofNat cs.length)) := F413.keep K422 nin0
  have F432 : Fld Z T422.heap b "java/lang/AbstractStringBuilder" "value" "[B" (.ref t) := F414.keep K422 nin0
  have V433 : Arv Z T422.heap t kb .byte (Int32.ofNat cap) (own_sb cap cs) (.int 0) := V415.keep K422 nin0
  have E434 : Exa Z T422.heap a "java/lang/String" := E416.keep K422
  have O435 : Old Z n0 T422.heap := O419.keep K422 all0
  have Z436 : n0 ≤ T422.heap.size := Nat.le_trans Z420 K422.1
  have K437 : Keep h0 T422.heap [a] := K421.trans K422 (all0)
  have F438 : Fld Z T422.heap a "java/lang/String" "coder" "B" (.int (nar .byte (0 : Int32))) := F409.keep K422 nin0
  have F439 : Fld Z T422.heap a "java/lang/String" "value" "[B" .null := F410.keep K422 nin0
  show GoOn p e below (T422.setTop (mkF m 35 #[.val (.ref a), .val (.ref b), .val .null, .val (.ref t), .val (.int (Int32.ofNat cs.length))] [(.ref u422), (.ref a)])) _
  obtain ⟨T440, h440, X440, e440, W440, st440⟩ := putF X422 hx hZ hown (host := "") (Or.inl (hw _ (List.mem_of_getElem? (i := 54) rfl))) Via.refl rfl F439 E434 (Or.inr ⟨(hw _ (List.mem_of_getElem? (i := 9) rfl)), rfl, hnm⟩) (hw _ (List.mem_of_getElem? (i := 7) rfl)) (ty := (.array .byte)) (by decide) rfl rfl (g := (mkF m 35 #[.val (.ref a), .val (.ref b), .val .null, .val (.ref t), .val (.int (Int32.ofNat cs.length))] [(.ref u422), (.ref a)])) rfl rfl (hb hby own_d326)
  have N441 := Fr.snoc X440 N423 ga
  have Kx440 : Keep T422.heap h440 [a] := Keep.of_wr W440
  have F442 : Fld Z h440 a "java/lang/String" "value" "[B" (.ref u422) := F439.same W440
  have F443 : Fld Z h440 a "java/lang/String" "coder" "B" (.int (nar .byte (0 : Int32))) := F438.other W440 (Or.inr (slot_ne (a0 := a0) (Or.inr (hw _ (List.mem_of_getElem? (i := 10) rfl))) (Or.inr (hw _ (List.mem_of_getElem? (i := 9) rfl))) (by decide) (t := .byte) (t' := (.array .byte)) (by decide) (by decide)))
  refine GoOn.step st440 ?_
  have E444 : Exa Z h440 b "java/lang/StringBuilder" := E429.keep Kx440
  have F445 : Fld Z h440 b "java/lang/AbstractStringBuilder" "coder" "B" (.int 0) := F430.keep Kx440 (ninS (Ne.symm nab) nin0)
  have F446 : Fld Z h440 b "java/lang/AbstractStringBuilder" "count" "I" (.int (Int32.ofNat cs.length)) := F431.keep Kx440 (ninS (Ne.symm nab) nin0)
  have F447 : Fld Z h440 b "java/lang/AbstractStringBuilder" "value" "[B" (.ref t) := F432.keep Kx440 (ninS (Ne.symm nab) nin0)
  have V448 : Arv Z h440 t kb .byte (Int32.ofNat cap) (own_sb cap cs) (.int 0) := V433.keep Kx440 (ninS (Ne.symm nat) nin0)
  have E449 : Exa Z h440 a "java/lang/String" := E434.keep Kx440
  have O450 : Old Z n0 h440 := O435.keep Kx440 (allS ga all0)
  have Z451 : n0 ≤ h440.size := Nat.le_trans Z436 Kx440.1
  have K452 : Keep h0 h440 [a] := K437.trans Kx440 ((allS (Or.inl (by simp)) all0))
  have V455 : Arv Z h440 u422 ku422 .byte (Int32.ofNat cs.length) (own_bs cs) (.int 0) := V422.keep Kx440 (ninS (Ne.symm ne426) nin0)
  show GoOn p e below (T440.setTop (mkF m 38 #[.val (.ref a), .val (.ref b), .val .null, .val (.ref t), .val (.int (Int32.ofNat cs.length))] [])) _
  refine GoOn.step (fun tq kq => XS.goto X440.here hx rfl (pc0 := 38) (pc' := 97) rfl (hb hby own_d327) (by decide) (by decide) kq) ?_
  show GoOn p e below (T440.setTop (mkF m 97 #[.val (.ref a), .val (.ref b), .val .null, .val (.ref t), .val (.int (Int32.ofNat cs.length))] [])) _
  refine GoOn.ret X440 Bd.notSynchronized (v := none) (fun _ => rfl) (fun fs hr => X440.returnOut hx Bd.returns (hb hby own_d328) hr) (by decide) (by decide) ?_
  rw [e440]
  exact ⟨rfl, N441, K452, E449, F443, hp, by omega, u422, ku422, F442, V455⟩
set_option maxRecDepth 65536 in
set_option maxHeartbeats 40000000 in
theorem rmS53 (l : Launch) (Z : State) (a0 : Array Value) (hw : ∀ d ∈ tables_1, d.before a0 Z = true) (a b t : Addr) (kb : ClassId) (cap : Nat) (cs : List Int32) (G1 : Int32) (h0 : Heap) (n0 : Nat) (Z0 : n0 ≤ h0.size) (SC : Sta Z Z.heap "java/lang/String" "COMPACT_STRINGS" "Z" (.int G1)) (PC : ¬ G1 = (0 : Int32)) (E0 : Exa Z h0 b "java/lang/StringBuilder") (F0c : Fld Z h0 b "java/lang/AbstractStringBuilder" "coder" "B" (.int 0)) (F0n : Fld Z h0 b "java/lang/AbstractStringBuilder" "count" "I" (.int (Int32.ofNat cs.length))) (F0v : Fld Z h0 b "java/lang/AbstractStringBuilder" "value" "[B" (.ref t)) (V0 : Arv Z h0 t kb .byte (Int32.ofNat cap) (own_sb cap cs) (.int 0)) (EA : Exa Z h0 a "java/lang/String") (FAv : Fld Z h0 a "java/lang/String" "value" "[B" .null) (FAc : Fld Z h0 a "java/lang/String" "coder" "B" (.int (0 : Int32))) (ga : n0 ≤ a) (nab : a ≠ b) (nat : a ≠ t) (hlt : cs.length < cap) (hc4 : cap ≤ 40) (hp : ∀ c ∈ cs, ¬ c < 0 ∧ ¬ (255 : Int32) < c) (O0 : Old Z n0 h0) :
    MetFree l (⟨"java/lang/String", "<init>", "(Ljava/lang/StringBuilder;)V"⟩ : MethodName) (head1 [Jvm.Cond.code (⟨"java/lang/String", "<init>", "(Ljava/lang/StringBuilder;)V"⟩ : MethodName) jdk_42_method_53_code 2 none] ({ frames := 4, cells := 1, slots := 40, locals := 65 } : Room)) (fun aa U => aa = #[(.ref a), (.ref b)] ∧ Z.Warmed39 U.vm ∧ U.heap = h0) (fun _ _ _ _ _ => True) (fun _ U o U' => ∃ v L, o = .returned v ∧ QS150 Z a cs h0 n0 v U'.heap L ∧ FrameEnd U o U' L ({ frames := 4, cells := 1, slots := 40, locals := 65 } : Room).cells ({ frames := 4, cells := 1, slots := 40, locals := 65 } : Room).slots) := by
  refine MetFree.of_bodySF (plainFor_of_name own_pn52) hisR ?_
  intro p e s m args below meth c s₁ Bd hml0 hP hK
  obtain ⟨rfl, hZ, hh⟩ := hP
  have hx := Bd.exec
  have hby := Bd.bytes
  have hml : c.maxLocals = 2 := hml0
  have hown : s.vm.findClass "java/lang/String" = some m.cls := findClass_of_methodNamed Bd.named
  have hnm := (name_of_methodNamed Bd.named Bd.method).1
  have X0 : Stand p l e ({ frames := 4, cells := 1, slots := 40, locals := 65 } : Room) s m #[(.ref a), (.ref b)] below meth c s₁ [] 0 0 := Stand.of_body Bd
  have e0 : s₁.heap = h0 := by rw [← hh, Bd.state]; rfl
  have N0 := Fr.nil n0
  have K0 : Keep h0 h0 [] := Keep.refl _ _
  show GoOn p e below (s₁.setTop (entryFrame m #[(.ref a), (.ref b)] 2)) (PostN s (QS150 Z a cs h0 n0) ({ frames := 4, cells := 1, slots := 40, locals := 65 } : Room).cells ({ frames := 4, cells := 1, slots := 40, locals := 65 } : Room).slots)
  refine GoOn.step (fun tq kq => castTop (own_ef329 m a b) kq) ?_
  show GoOn p e below (s₁.setTop (mkF m 0 #[.val (.ref a), .val (.ref b)] [])) _
  have K0a : Keep h0 h0 [a] := Keep.refl _ _
  refine GoOn.step (fun tq kq => XS.aloadN X0.here hx rfl (hb hby own_d330) rfl rfl kq) ?_
  show GoOn p e below (s₁.setTop (mkF m 1 #[.val (.ref a), .val (.ref b)] [(.ref a)])) _
  refine GoOn.step (fun tq kq => XS.aloadN X0.here hx rfl (hb hby own_d331) rfl rfl kq) ?_
  show GoOn p e below (s₁.setTop (mkF m 2 #[.val (.ref a), .val (.ref b)] [(.ref b), (.ref a)])) _
  refine GoOn.step (fun tq kq => XS.aconstNull X0.here hx rfl (hb hby own_d332) kq) ?_
  show GoOn p e below (s₁.setTop (mkF m 3 #[.val (.ref a), .val (.ref b)] [.null, (.ref b), (.ref a)])) _
  obtain ⟨_, _, ⟨T456, L456, k456, n456⟩, -, X456, ⟨Lc456, hQ456, l456, y456, z456⟩, st456⟩ := X0.specialBack hx (y := (⟨"java/lang/String", "<init>", "(Ljava/lang/AbstractStringBuilder;Ljava/lang/Void;)V"⟩ : MethodName)) rfl hown (mvT hZ (hw _ (List.mem_of_getElem? (i := 100) rfl))) (mvT hZ (hw _ (List.mem_of_getElem? (i := 101) rfl))) (mvT hZ (hw _ (List.mem_of_getElem? (i := 102) rfl))) (by decide) (backOf (W := 0) (rmS150 l Z a0 hw a b t kb cap cs G1 h0 n0 Z0 SC PC E0 F0c F0n F0v V0 EA FAv FAc ga nab nat hlt hc4 hp O0) hZ (hw _ (List.mem_of_getElem? (i := 102) rfl)) (hw _ (List.mem_of_getElem? (i := 6) rfl)) (by decide) (by decide)) (g := (mkF m 3 #[.val (.ref a), .val (.ref b)] [.null, (.ref b), (.ref a)])) rfl (by rw [hml]; rfl) (Steps.refl _) (a := a) (argsL := [(.ref b), .null]) (rest := []) (lenOf own_pd334 rfl) rfl (by show 2 * 0 + _ ≤ _; exact Nat.le_of_eq rfl) (hb hby own_d333) (fun _ _ => ⟨rfl, e0, (by decide : 0 + 1 ≤ _), (by decide : 0 + 40 ≤ _)⟩)
  dsimp only [Pt.U, Pt.locs, Pt.cells, Pt.slots] at X456 l456 y456 z456 st456 hQ456
  subst l456 y456 z456
  obtain ⟨rfl, N456, K456, S456⟩ := hQ456
  refine GoOn.trans st456 ?_
  have N457 := Fr.app N0 N456
  have E458 : Exa Z T456.heap b "java/lang/StringBuilder" := E0.keep K456
  have F459 : Fld Z T456.heap b "java/lang/AbstractStringBuilder" "coder" "B" (.int 0) := F0c.keep K456 (ninS (Ne.symm nab) nin0)
  have F460 : Fld Z T456.heap b "java/lang/AbstractStringBuilder" "count" "I" (.int (Int32.ofNat cs.length)) := F0n.keep K456 (ninS (Ne.symm nab) nin0)
  have F461 : Fld Z T456.heap b "java/lang/AbstractStringBuilder" "value" "[B" (.ref t) := F0v.keep K456 (ninS (Ne.symm nab) nin0)
  have V462 : Arv Z T456.heap t kb .byte (Int32.ofNat cap) (own_sb cap cs) (.int 0) := V0.keep K456 (ninS (Ne.symm nat) nin0)
  have E463 : Exa Z T456.heap a "java/lang/String" := EA.keep K456
  have O466 : Old Z n0 T456.heap := O0.keep K456 (allS ga all0)
  have Z467 : n0 ≤ T456.heap.size := Nat.le_trans Z0 K456.1
  have K468 : Keep h0 T456.heap [a] := K0a.trans K456 ((allS (Or.inl (by simp)) all0))
  show GoOn p e below (T456.setTop (mkF m 6 #[.val (.ref a), .val (.ref b)] [])) _
  refine GoOn.ret X456 Bd.notSynchronized (v := none) (fun _ => rfl) (fun fs hr => X456.returnOut hx Bd.returns (hb hby own_d335) hr) (by decide) (by decide) ?_
  exact ⟨rfl, N457, K468, S456⟩
def QToS (Z : State) (cs : List Int32) (h0 : Heap) (n0 : Nat) (v : Option Value) (h : Heap) (L : List Loc) : Prop := ∃ a : Addr, v = some (.ref a) ∧ Fr n0 L ∧ Keep h0 h [] ∧ h0.size ≤ a ∧ StrIs Z h a cs
set_option maxRecDepth 65536 in
set_option maxHeartbeats 40000000 in
theorem rmToS (l : Launch) (Z : State) (a0 : Array Value) (hw : ∀ d ∈ tables_1, d.before a0 Z = true) (b t : Addr) (kb : ClassId) (cap : Nat) (cs : List Int32) (G1 : Int32) (h0 : Heap) (n0 : Nat) (Z0 : n0 ≤ h0.size) (SC : Sta Z Z.heap "java/lang/String" "COMPACT_STRINGS" "Z" (.int G1)) (PC : ¬ G1 = (0 : Int32)) (E0 : Exa Z h0 b "java/lang/StringBuilder") (F0c : Fld Z h0 b "java/lang/AbstractStringBuilder" "coder" "B" (.int 0)) (F0n : Fld Z h0 b "java/lang/AbstractStringBuilder" "count" "I" (.int (Int32.ofNat cs.length))) (F0v : Fld Z h0 b "java/lang/AbstractStringBuilder" "value" "[B" (.ref t)) (V0 : Arv Z h0 t kb .byte (Int32.ofNat cap) (own_sb cap cs) (.int 0)) (hlt : cs.length < cap) (hc4 : cap ≤ 40) (hp : ∀ c ∈ cs, ¬ c < 0 ∧ ¬ (255 : Int32) < c) (O0 : Old Z n0 h0) :
    MetFree l (⟨"java/lang/StringBuilder", "toString", "()Ljava/lang/String;"⟩ : MethodName) (head1 [Jvm.Cond.code (⟨"java/lang/StringBuilder", "toString", "()Ljava/lang/String;"⟩ : MethodName) jdk_67_method_42_code 1 (some (.object "java/lang/String"))] ({ frames := 5, cells := 2, slots := 44, locals := 79 } : Room)) (fun aa U => aa = #[(.ref b)] ∧ Z.Warmed39 U.vm ∧ U.heap = h0) (fun _ _ _ _ _ => True) (fun _ U o U' => ∃ v L, o = .returned v ∧ QToS Z cs h0 n0 v U'.heap L ∧ FrameEnd U o U' L ({ frames := 5, cells := 2, slots := 44, locals := 79 } : Room).cells ({ frames := 5, cells := 2, slots := 44, locals := 79 } : Room).slots) := by
  refine MetFree.of_bodySF (plainFor_of_name own_pn205) hisR ?_
  intro p e s m args below meth c s₁ Bd hml0 hP hK
  obtain ⟨rfl, hZ, hh⟩ := hP
  have hx := Bd.exec
  have hby := Bd.bytes
  have hml : c.maxLocals = 1 := hml0
  have hown : s.vm.findClass "java/lang/StringBuilder" = some m.cls := findClass_of_methodNamed Bd.named
  have hnm := (name_of_methodNamed Bd.named Bd.method).1
  have X0 : Stand p l e ({ frames := 5, cells := 2, slots := 44, locals := 79 } : Room) s m #[(.ref b)] below meth c s₁ [] 0 0 := Stand.of_body Bd
  have e0 : s₁.heap = h0 := by rw [← hh, Bd.state]; rfl
  have N0 := Fr.nil n0
  have K0 : Keep h0 h0 [] := Keep.refl _ _
  show GoOn p e below (s₁.setTop (entryFrame m #[(.ref b)] 1)) (PostN s (QToS Z cs h0 n0) ({ frames := 5, cells := 2, slots := 44, locals := 79 } : Room).cells ({ frames := 5, cells := 2, slots := 44, locals := 79 } : Room).slots)
  refine GoOn.step (fun tq kq => castTop (own_ef336 m b) kq) ?_
  show GoOn p e below (s₁.setTop (mkF m 0 #[.val (.ref b)] [])) _
  obtain ⟨T469, h469, X469, e469, Ex469, A469, Df469, Nu469, st469⟩ := newO X0 hx hZ hown (hw _ (List.mem_of_getElem? (i := 95) rfl)) (hw _ (List.mem_of_getElem? (i := 7) rfl)) (hw _ (List.mem_of_getElem? (i := 6) rfl)) e0 (g := (mkF m 0 #[.val (.ref b)] [])) rfl (hb hby own_d337) (by decide) (by decide)
  obtain ⟨sa, g469⟩ : ∃ z, z = h0.size := ⟨_, rfl⟩
  rw [← g469] at A469 Df469 Nu469 st469
  have ne470 : b ≠ sa := Nat.ne_of_lt (Nat.lt_of_lt_of_le E0.lt (Nat.le_of_eq g469.symm))
  have ne471 : t ≠ sa := Nat.ne_of_lt (Nat.lt_of_lt_of_le V0.lt (Nat.le_of_eq g469.symm))
  have gn472 : n0 ≤ sa := Nat.le_trans Z0 (Nat.le_of_eq g469.symm)
  have sz473 : h0.size ≤ sa := Nat.le_trans K0.1 (Nat.le_of_eq g469.symm)
  have Kx469 : Keep h0 h469 [] := (Keep.refl _ _).ext Ex469
  refine GoOn.step st469 ?_
  have E474 : Exa Z h469 b "java/lang/StringBuilder" := E0.keep Kx469
  have F475 : Fld Z h469 b "java/lang/AbstractStringBuilder" "coder" "B" (.int 0) := F0c.keep Kx469 nin0
  have F476 : Fld Z h469 b "java/lang/AbstractStringBuilder" "count" "I" (.int (Int32.ofNat cs.length)) := F0n.keep Kx469 nin0
  have F477 : Fld Z h469 b "java/lang/AbstractStringBuilder" "value" "[B" (.ref t) := F0v.keep Kx469 nin0
  have V478 : Arv Z h469 t kb .byte (Int32.ofNat cap) (own_sb cap cs) (.int 0) := V0.keep Kx469 nin0
  have O479 : Old Z n0 h469 := O0.keep Kx469 all0
  have Z480 : n0 ≤ h469.size := Nat.le_trans Z0 Kx469.1
  have K481 : Keep h0 h469 [] := K0.trans Kx469 (all0)
  have F482 : Fld Z h469 sa "java/lang/String" "value" "[B" .null := Df469 (Or.inr (hw _ (List.mem_of_getElem? (i := 9) rfl))) (ty := (.array .byte)) (by decide)
  have F483 : Fld Z h469 sa "java/lang/String" "coder" "B" (.int (0 : Int32)) := Df469 (Or.inr (hw _ (List.mem_of_getElem? (i := 10) rfl))) (ty := .byte) (by decide)
  show GoOn p e below (T469.setTop (mkF m 3 #[.val (.ref b)] [(.ref sa)])) _
  refine GoOn.step (fun tq kq => XS.dup X469.here hx rfl (hb hby own_d338) rfl rfl kq) ?_
  show GoOn p e below (T469.setTop (mkF m 4 #[.val (.ref b)] [(.ref sa), (.ref sa)])) _
  refine GoOn.step (fun tq kq => XS.aloadN X469.here hx rfl (hb hby own_d339) rfl rfl kq) ?_
  show GoOn p e below (T469.setTop (mkF m 5 #[.val (.ref b)] [(.ref b), (.ref sa), (.ref sa)])) _
  obtain ⟨_, _, ⟨T484, L484, k484, n484⟩, -, X484, ⟨Lc484, hQ484, l484, y484, z484⟩, st484⟩ := X469.specialBack hx (y := (⟨"java/lang/String", "<init>", "(Ljava/lang/StringBuilder;)V"⟩ : MethodName)) rfl hown (mvT hZ (hw _ (List.mem_of_getElem? (i := 96) rfl))) (mvT hZ (hw _ (List.mem_of_getElem? (i := 97) rfl))) (mvT hZ (hw _ (List.mem_of_getElem? (i := 99) rfl))) (by decide) (backOf (W := 1) (rmS53 l Z a0 hw sa b t kb cap cs G1 h469 n0 Z480 SC PC E474 F475 F476 F477 V478 A469 F482 F483 gn472 (Ne.symm ne470) (Ne.symm ne471) hlt hc4 hp O479) hZ (hw _ (List.mem_of_getElem? (i := 99) rfl)) (hw _ (List.mem_of_getElem? (i := 6) rfl)) (by decide) (by decide)) (g := (mkF m 5 #[.val (.ref b)] [(.ref b), (.ref sa), (.ref sa)])) rfl (by rw [hml]; rfl) (Steps.refl _) (a := sa) (argsL := [(.ref b)]) (rest := [(.ref sa)]) (lenOf own_pd341 rfl) rfl (by show 2 * 0 + _ ≤ _; exact Nat.le_of_eq rfl) (hb hby own_d340) (fun _ _ => ⟨rfl, e469, (by decide : 1 + 1 ≤ _), (by decide : 4 + 40 ≤ _)⟩)
  dsimp only [Pt.U, Pt.locs, Pt.cells, Pt.slots] at X484 l484 y484 z484 st484 hQ484
  subst l484 y484 z484
  obtain ⟨rfl, N484, K484, S484⟩ := hQ484
  refine GoOn.trans st484 ?_
  have N485 := Fr.app N0 N484
  have E486 : Exa Z T484.heap b "java/lang/StringBuilder" := E474.keep K484
  have F487 : Fld Z T484.heap b "java/lang/AbstractStringBuilder" "coder" "B" (.int 0) := F475.keep K484 (ninS ne470 nin0)
  have F488 : Fld Z T484.heap b "java/lang/AbstractStringBuilder" "count" "I" (.int (Int32.ofNat cs.length)) := F476.keep K484 (ninS ne470 nin0)
  have F489 : Fld Z T484.heap b "java/lang/AbstractStringBuilder" "value" "[B" (.ref t) := F477.keep K484 (ninS ne470 nin0)
  have V490 : Arv Z T484.heap t kb .byte (Int32.ofNat cap) (own_sb cap cs) (.int 0) := V478.keep K484 (ninS ne471 nin0)
  have O491 : Old Z n0 T484.heap := O479.keep K484 (allS gn472 all0)
  have Z492 : n0 ≤ T484.heap.size := Nat.le_trans Z480 K484.1
  have K493 : Keep h0 T484.heap [] := K481.trans K484 ((allS (Or.inr sz473) all0))
  have E494 : Exa Z T484.heap sa "java/lang/String" := A469.keep K484
  show GoOn p e below (T484.setTop (mkF m 8 #[.val (.ref b)] [(.ref sa)])) _
  refine GoOn.ret X484 Bd.notSynchronized (v := some (.ref sa)) (fun h => by rw [Bd.returns] at h; cases h) (fun fs hr => retOut X484 hx Bd.returns rfl (Or.inr (Or.inr (Or.inr (Or.inr ⟨rfl, rfl, rfl⟩)))) (hb hby own_d342) hr) (by decide) (by decide) ?_
  exact ⟨sa, rfl, N485, K493, sz473, S484⟩
set_option maxRecDepth 65536 in
set_option maxHeartbeats 40000000 in
theorem rmGM (l : Launch) (Z : State) (a0 : Array Value) (hw : ∀ d ∈ tables_1, d.before a0 Z = true) (a b : Addr) (h0 : Heap) (n0 : Nat) (Z0 : n0 ≤ h0.size) (F0 : Fld Z h0 a "java/lang/Throwable" "detailMessage" "Ljava/lang/String;" (.ref b)) :
    MetFree l (⟨"java/lang/Throwable", "getMessage", "()Ljava/lang/String;"⟩ : MethodName) (head1 [Jvm.Cond.code (⟨"java/lang/Throwable", "getMessage", "()Ljava/lang/String;"⟩ : MethodName) jdk_78_method_6_code 1 (some (.object "java/lang/String"))] ({ frames := 0, cells := 0, slots := 0, locals := 0 } : Room)) (fun aa U => aa = #[(.ref a)] ∧ Z.Warmed39 U.vm ∧ U.heap = h0) (fun _ _ _ _ _ => True) (fun _ U o U' => ∃ v L, o = .returned v ∧ QSame (.ref b) h0 n0 v U'.heap L ∧ FrameEnd U o U' L ({ frames := 0, cells := 0, slots := 0, locals := 0 } : Room).cells ({ frames := 0, cells := 0, slots := 0, locals := 0 } : Room).slots) := by
  refine MetFree.of_bodySF (plainFor_of_name own_pn1) hisR ?_
  intro p e s m args below meth c s₁ Bd hml0 hP hK
  obtain ⟨rfl, hZ, hh⟩ := hP
  have hx := Bd.exec
  have hby := Bd.bytes
  have hml : c.maxLocals = 1 := hml0
  have hown : s.vm.findClass "java/lang/Throwable" = some m.cls := findClass_of_methodNamed Bd.named
  have hnm := (name_of_methodNamed Bd.named Bd.method).1
  have X0 : Stand p l e ({ frames := 0, cells := 0, slots := 0, locals := 0 } : Room) s m #[(.ref a)] below meth c s₁ [] 0 0 := Stand.of_body Bd
  have e0 : s₁.heap = h0 := by rw [← hh, Bd.state]; rfl
  have N0 := Fr.nil n0
  have K0 : Keep h0 h0 [] := Keep.refl _ _
  show GoOn p e below (s₁.setTop (entryFrame m #[(.ref a)] 1)) (PostN s (QSame (.ref b) h0 n0) ({ frames := 0, cells := 0, slots := 0, locals := 0 } : Room).cells ({ frames := 0, cells := 0, slots := 0, locals := 0 } : Room).slots)
  refine GoOn.step (fun tq kq => castTop (own_ef343 m a) kq) ?_
  show GoOn p e below (s₁.setTop (mkF m 0 #[.val (.ref a)] [])) _
  refine GoOn.step (fun tq kq => XS.aloadN X0.here hx rfl (hb hby own_d344) rfl rfl kq) ?_
  show GoOn p e below (s₁.setTop (mkF m 1 #[.val (.ref a)] [(.ref a)])) _
  obtain ⟨T497, X497, e497, st497⟩ := getF X0 hx hZ hown (host := "") (Or.inl (hw _ (List.mem_of_getElem? (i := 187) rfl))) Via.refl e0 F0 (g := (mkF m 1 #[.val (.ref a)] [(.ref a)])) rfl rfl (hb hby own_d345)
  refine GoOn.step st497 ?_
  show GoOn p e below (T497.setTop (mkF m 4 #[.val (.ref a)] [(.ref b)])) _
  refine GoOn.ret X497 Bd.notSynchronized (v := some (.ref b)) (fun h => by rw [Bd.returns] at h; cases h) (fun fs hr => retOut X497 hx Bd.returns rfl (Or.inr (Or.inr (Or.inr (Or.inr ⟨rfl, rfl, rfl⟩)))) (hb hby own_d346) hr) (by decide) (by decide) ?_
  rw [e497]
  exact ⟨rfl, N0, rfl⟩
set_option maxRecDepth 65536 in
set_option maxHeartbeats 40000000 in
theorem rmIn (l : Launch) (Z : State) (a0 : Array Value) (hw : ∀ d ∈ tables_1, d.before a0 Z = true) (a1 a2 : Addr) (cs ds : List Int32) (G1 : Int32) (u0 w0 : Value) (h0 : Heap) (n0 : Nat) (Z0 : n0 ≤ h0.size) (SC : Sta Z Z.heap "java/lang/String" "COMPACT_STRINGS" "Z" (.int G1)) (PC : ¬ G1 = (0 : Int32)) (hST : l.stackTraces = true) (SU : Sta Z Z.heap "java/lang/Throwable" "UNASSIGNED_STACK" "[Ljava/lang/StackTraceElement;" u0) (rU : u0.isRef = true) (SS : Sta Z Z.heap "java/lang/Throwable" "SUPPRESSED_SENTINEL" "Ljava/util/List;" w0) (rS : w0.isRef = true) (S1 : StrIs Z h0 a1 cs) (S2 : StrIs Z h0 a2 ds) (hl1 : cs.length ≤ 2) (hl2 : ds.length ≤ 2) (O0 : Old Z n0 h0) :
    MetFree l (⟨"com/example/faktorwerk/faktorwerk/model/InputRefusedException", "inFile", "(Ljava/lang/String;Ljava/lang/String;)Lcom/example/faktorwerk/faktorwerk/model/InputRefusedException;"⟩ : MethodName) (head1 [Jvm.Cond.code (⟨"com/example/faktorwerk/faktorwerk/model/InputRefusedException", "inFile", "(Ljava/lang/String;Ljava/lang/String;)Lcom/example/faktorwerk/faktorwerk/model/InputRefusedException;"⟩ : MethodName) prog_52_method_4_code 2 (some (.object "com/example/faktorwerk/faktorwerk/model/InputRefusedException"))] ({ frames := 6, cells := 8, slots := 2848, locals := 95 } : Room)) (fun aa U => aa = #[(.ref a1), (.ref a2)] ∧ Z.Warmed39 U.vm ∧ U.heap = h0 ∧ CHv Z own_EL U.vm h0) (fun _ _ bl s _ => s.vm.MethodsKnown ∧ s.vm.FramesKnown bl) (fun _ U o U' => ∃ v L, o = .returned v ∧ QEx Z ((([] ++ cs) ++ ([58, 32] : List Int32)) ++ ds) h0 n0 v U'.heap L ∧ CHr Z own_EL U.vm U.heap U'.vm U'.heap ∧ ReturnedEndW U o U' L ({ frames := 6, cells := 8, slots := 2848, locals := 95 } : Room).cells ({ frames := 6, cells := 8, slots := 2848, locals := 95 } : Room).slots) := by
  refine MetFree.of_bodySF (plainFor_of_name own_pn29) hisR ?_
  intro p e s m args below meth c s₁ Bd hml0 hP hK
  obtain ⟨rfl, hZ, hh, hCH⟩ := hP
  have hx := Bd.exec
  have hby := Bd.bytes
  have hml : c.maxLocals = 2 := hml0
  have hown : s.vm.findClass "com/example/faktorwerk/faktorwerk/model/InputRefusedException" = some m.cls := findClass_of_methodNamed Bd.named
  have hnm := (name_of_methodNamed Bd.named Bd.method).1
  have X0 : Stand p l e ({ frames := 6, cells := 8, slots := 2848, locals := 95 } : Room) s m #[(.ref a1), (.ref a2)] below meth c s₁ [] 0 0 := Stand.of_body Bd
  have e0 : s₁.heap = h0 := by rw [← hh, Bd.state]; rfl
  have N0 := Fr.nil n0
  have K0 : Keep h0 h0 [] := Keep.refl _ _
  show GoOn p e below (s₁.setTop (entryFrame m #[(.ref a1), (.ref a2)] 2)) (PostH Z own_EL s (QEx Z ((([] ++ cs) ++ ([58, 32] : List Int32)) ++ ds) h0 n0) ({ frames := 6, cells := 8, slots := 2848, locals := 95 } : Room).cells ({ frames := 6, cells := 8, slots := 2848, locals := 95 } : Room).slots)
  refine GoOn.step (fun tq kq => castTop (own_ef347 m a1 a2) kq) ?_
  have hS0 : s.Since s.vm h0.size := (State.WarmedH.refl s).since _
  have hk0 : h0.size ≤ h0.size := Nat.le_refl _
  replace X0 : Stand p l e ({ frames := 6, cells := 8, slots := 2848, locals := 95 } : Room) (s.setVm s.vm) m #[(.ref a1), (.ref a2)] below meth c s₁ [] 0 0 := X0
  replace hZ : Z.Warmed39 (s.setVm s.vm).vm := hZ
  replace hown : (s.setVm s.vm).vm.findClass "com/example/faktorwerk/faktorwerk/model/InputRefusedException" = some m.cls := hown
  have C0 : CHr Z own_EL s.vm h0 s.vm h0 := CHr.refl hCH
  have hEL : EW Z a0 own_EL := own_EW hw
  have wS : ∀ d ∈ Bundle.stringAtoms, d.before a0 Z = true := fun d hd => hw d (own_sa d hd)
  show GoOn p e below (s₁.setTop (mkF m 0 #[.val (.ref a1), .val (.ref a2)] [])) _
  have hp1 := S1.2.2.1
  have hp2 := S2.2.2.1
  have U1 := StrUp.of S1
  have U2 := StrUp.of S2
  obtain ⟨T498, h498, X498, e498, Ex498, A498, Df498, Nu498, st498⟩ := newO X0 hx hZ hown (hw _ (List.mem_of_getElem? (i := 17) rfl)) (hw _ (List.mem_of_getElem? (i := 18) rfl)) (hw _ (List.mem_of_getElem? (i := 15) rfl)) e0 (g := (mkF m 0 #[.val (.ref a1), .val (.ref a2)] [])) rfl (hb hby own_d348) (by decide) (by decide)
  obtain ⟨x, g498⟩ : ∃ z, z = h0.size := ⟨_, rfl⟩
  rw [← g498] at A498 Df498 Nu498 st498
  have gn499 : n0 ≤ x := Nat.le_trans Z0 (Nat.le_of_eq g498.symm)
  have sz500 : h0.size ≤ x := Nat.le_trans K0.1 (Nat.le_of_eq g498.symm)
  have Kx498 : Keep h0 h498 [] := (Keep.refl _ _).ext Ex498
  refine GoOn.step st498 ?_
  have O501 : Old Z n0 h498 := O0.keep Kx498 all0
  have Z502 : n0 ≤ h498.size := Nat.le_trans Z0 Kx498.1
  have K503 : Keep h0 h498 [] := K0.trans Kx498 (all0)
  have C504 : CHr Z own_EL s.vm h0 s.vm h498 := CHr.trans C0 (CHr.keep Kx498 all0 C0.1)
  have Su505 : StrUp Z h498 a1 cs h0.size := U1.keep Kx498 all0
  have Su506 : StrUp Z h498 a2 ds h0.size := U2.keep Kx498 all0
  have hk507 := Nat.le_trans hk0 Kx498.1
  have Un498 : Unt h498 x := Nu498
  have F508 : Fld Z h498 x "java/lang/Throwable" "cause" "Ljava/lang/Throwable;" .null := Df498 (Or.inl (hw _ (List.mem_of_getElem? (i := 153) rfl))) (ty := (.object "java/lang/Throwable")) (by decide)
  have F509 : Fld Z h498 x "java/lang/Throwable" "stackTrace" "[Ljava/lang/StackTraceElement;" .null := Df498 (Or.inl (hw _ (List.mem_of_getElem? (i := 156) rfl))) (ty := (.array (.object "java/lang/StackTraceElement"))) (by decide)
  have F510 : Fld Z h498 x "java/lang/Throwable" "suppressedExceptions" "Ljava/util/List;" .null := Df498 (Or.inl (hw _ (List.mem_of_getElem? (i := 159) rfl))) (ty := (.object "java/util/List")) (by decide)
  have F511 : Fld Z h498 x "java/lang/Throwable" "detailMessage" "Ljava/lang/String;" .null := Df498 (Or.inl (hw _ (List.mem_of_getElem? (i := 183) rfl))) (ty := (.object "java/lang/String")) (by decide)
  have F512 : Fld Z h498 x "java/lang/Throwable" "backtrace" "Ljava/lang/Object;" .null := Df498 (Or.inl (hw _ (List.mem_of_getElem? (i := 184) rfl))) (ty := (.object "java/lang/Object")) (by decide)
  show GoOn p e below (T498.setTop (mkF m 3 #[.val (.ref a1), .val (.ref a2)] [(.ref x)])) _
  refine GoOn.step (fun tq kq => XS.dup X498.here hx rfl (hb hby own_d349) rfl rfl kq) ?_
  show GoOn p e below (T498.setTop (mkF m 4 #[.val (.ref a1), .val (.ref a2)] [(.ref x), (.ref x)])) _
  obtain ⟨T513, h513, X513, e513, Ex513, A513, Df513, Nu513, st513⟩ := newO X498 hx hZ hown (hw _ (List.mem_of_getElem? (i := 19) rfl)) (hw _ (List.mem_of_getElem? (i := 20) rfl)) (hw _ (List.mem_of_getElem? (i := 21) rfl)) e498 (g := (mkF m 4 #[.val (.ref a1), .val (.ref a2)] [(.ref x), (.ref x)])) rfl (hb hby own_d350) (by decide) (by decide)
  obtain ⟨sb, g513⟩ : ∃ z, z = h498.size := ⟨_, rfl⟩
  rw [← g513] at A513 Df513 Nu513 st513
  have gn514 : n0 ≤ sb := Nat.le_trans Z502 (Nat.le_of_eq g513.symm)
  have sz515 : h0.size ≤ sb := Nat.le_trans K503.1 (Nat.le_of_eq g513.symm)
  have ne516 : x ≠ sb := Nat.ne_of_lt (Nat.lt_of_lt_of_le A498.lt (Nat.le_of_eq g513.symm))
  have Kx513 : Keep h498 h513 [] := (Keep.refl _ _).ext Ex513
  refine GoOn.step st513 ?_
  have O517 : Old Z n0 h513 := O501.keep Kx513 all0
  have Z518 : n0 ≤ h513.size := Nat.le_trans Z502 Kx513.1
  have K519 : Keep h0 h513 [] := K503.trans Kx513 (all0)
  have C520 : CHr Z own_EL s.vm h0 s.vm h513 := CHr.trans C504 (CHr.keep Kx513 all0 C504.1)
  have Su521 : StrUp Z h513 a1 cs h0.size := Su505.keep Kx513 all0
  have Su522 : StrUp Z h513 a2 ds h0.size := Su506.keep Kx513 all0
  have E523 : Exa Z h513 x "com/example/faktorwerk/faktorwerk/model/InputRefusedException" := A498.keep Kx513
  have Un524 : Unt h513 x := Unt.keep Kx513 nin0 Un498
  have F525 : Fld Z h513 x "java/lang/Throwable" "cause" "Ljava/lang/Throwable;" .null := F508.keep Kx513 nin0
  have F526 : Fld Z h513 x "java/lang/Throwable" "stackTrace" "[Ljava/lang/StackTraceElement;" .null := F509.keep Kx513 nin0
  have F527 : Fld Z h513 x "java/lang/Throwable" "suppressedExceptions" "Ljava/util/List;" .null := F510.keep Kx513 nin0
  have F528 : Fld Z h513 x "java/lang/Throwable" "detailMessage" "Ljava/lang/String;" .null := F511.keep Kx513 nin0
  have F529 : Fld Z h513 x "java/lang/Throwable" "backtrace" "Ljava/lang/Object;" .null := F512.keep Kx513 nin0
  have hk530 := Nat.le_trans hk507 Kx513.1
  have F531 : Fld Z h513 sb "java/lang/AbstractStringBuilder" "value" "[B" .null := Df513 (Or.inl (hw _ (List.mem_of_getElem? (i := 36) rfl))) (ty := (.array .byte)) (by decide)
  have F532 : Fld Z h513 sb "java/lang/AbstractStringBuilder" "coder" "B" (.int (0 : Int32)) := Df513 (Or.inl (hw _ (List.mem_of_getElem? (i := 38) rfl))) (ty := .byte) (by decide)
  have F533 : Fld Z h513 sb "java/lang/AbstractStringBuilder" "count" "I" (.int (0 : Int32)) := Df513 (Or.inl (hw _ (List.mem_of_getElem? (i := 63) rfl))) (ty := .int) (by decide)
  show GoOn p e below (T513.setTop (mkF m 7 #[.val (.ref a1), .val (.ref a2)] [(.ref sb), (.ref x), (.ref x)])) _
  refine GoOn.step (fun tq kq => XS.dup X513.here hx rfl (hb hby own_d351) rfl rfl kq) ?_
  show GoOn p e below (T513.setTop (mkF m 8 #[.val (.ref a1), .val (.ref a2)] [(.ref sb), (.ref sb), (.ref x), (.ref x)])) _
  obtain ⟨_, _, ⟨T534, L534, k534, n534⟩, -, X534, ⟨Lc534, hQ534, l534, y534, z534⟩, st534⟩ := X513.specialBack hx (y := (⟨"java/lang/StringBuilder", "<init>", "()V"⟩ : MethodName)) rfl hown (mvT hZ (hw _ (List.mem_of_getElem? (i := 22) rfl))) (mvT hZ (hw _ (List.mem_of_getElem? (i := 23) rfl))) (mvT hZ (hw _ (List.mem_of_getElem? (i := 24) rfl))) (by decide) (backOf (W := 3) (rmSBI l Z a0 hw sb G1 h513 n0 Z518 SC PC A513 F532 F533 F531 gn514 O517) hZ (hw _ (List.mem_of_getElem? (i := 24) rfl)) (hw _ (List.mem_of_getElem? (i := 21) rfl)) (by decide) (by decide)) (g := (mkF m 8 #[.val (.ref a1), .val (.ref a2)] [(.ref sb), (.ref sb), (.ref x), (.ref x)])) rfl (by rw [hml]; rfl) (Steps.refl _) (a := sb) (argsL := []) (rest := [(.ref sb), (.ref x), (.ref x)]) (lenOf own_pd353 rfl) rfl (by show 2 * 0 + _ ≤ _; exact Nat.le_of_eq rfl) (hb hby own_d352) (fun _ _ => ⟨rfl, e513, (by decide : 2 + 1 ≤ _), (by decide : 10 + 16 ≤ _)⟩)
  dsimp only [Pt.U, Pt.locs, Pt.cells, Pt.slots] at X534 l534 y534 z534 st534 hQ534
  subst l534 y534 z534
  obtain ⟨t534, kb534, rfl, N534, K534, ge534, E534, Fc534, Fn534, Fv534, V534⟩ := hQ534
  refine GoOn.trans st534 ?_
  have N535 := Fr.app N0 N534
  have gn536 : n0 ≤ t534 := Nat.le_trans Z518 ge534
  have sz537 : h0.size ≤ t534 := Nat.le_trans K519.1 ge534
  have ne538 : x ≠ t534 := Nat.ne_of_lt (Nat.lt_of_lt_of_le E523.lt ge534)
  have ne539 : sb ≠ t534 := Nat.ne_of_lt (Nat.lt_of_lt_of_le A513.lt ge534)
  have Sf540 : Safe Z own_EL s.vm h513 t534 := Safe.new ge534
  have O541 : Old Z n0 T534.heap := O517.keep K534 (allS gn514 all0)
  have Z542 : n0 ≤ T534.heap.size := Nat.le_trans Z518 K534.1
  have K543 : Keep h0 T534.heap [] := K519.trans K534 ((allS (Or.inr sz515) all0))
  have C544 : CHr Z own_EL s.vm h0 s.vm T534.heap := CHr.trans C520 (CHr.keep K534 (allS (Safe.exa hZ.alike A513 (by decide) (by decide)) all0) C520.1)
  have Su545 : StrUp Z T534.heap a1 cs h0.size := Su521.keep K534 (allS sz515 all0)
  have Su546 : StrUp Z T534.heap a2 ds h0.size := Su522.keep K534 (allS sz515 all0)
  have E547 : Exa Z T534.heap x "com/example/faktorwerk/faktorwerk/model/InputRefusedException" := E523.keep K534
  have Un548 : Unt T534.heap x := Unt.keep K534 (ninS ne516 nin0) Un524
  have F549 : Fld Z T534.heap x "java/lang/Throwable" "cause" "Ljava/lang/Throwable;" .null := F525.keep K534 (ninS ne516 nin0)
  have F550 : Fld Z T534.heap x "java/lang/Throwable" "stackTrace" "[Ljava/lang/StackTraceElement;" .null := F526.keep K534 (ninS ne516 nin0)
  have F551 : Fld Z T534.heap x "java/lang/Throwable" "suppressedExceptions" "Ljava/util/List;" .null := F527.keep K534 (ninS ne516 nin0)
  have F552 : Fld Z T534.heap x "java/lang/Throwable" "detailMessage" "Ljava/lang/String;" .null := F528.keep K534 (ninS ne516 nin0)
  have F553 : Fld Z T534.heap x "java/lang/Throwable" "backtrace" "Ljava/lang/Object;" .null := F529.keep K534 (ninS ne516 nin0)
  have E554 : Exa Z T534.heap sb "java/lang/StringBuilder" := A513.keep K534
  have Sf558 : Safe Z own_EL s.vm T534.heap t534 := Safe.keep K534 (allS (Safe.exa hZ.alike A513 (by decide) (by decide)) all0) C520.1 Sf540
  have hk559 := Nat.le_trans hk530 K534.1
  show GoOn p e below (T534.setTop (mkF m 11 #[.val (.ref a1), .val (.ref a2)] [(.ref sb), (.ref x), (.ref x)])) _
  have V560 : Arv Z T534.heap t534 kb534 .byte (Int32.ofNat 16) (own_sb 16 []) (.int 0) := V534.pad (pad_rep [] (.int 0) 16)
  refine GoOn.step (fun tq kq => XS.aloadN X534.here hx rfl (hb hby own_d354) rfl rfl kq) ?_
  show GoOn p e below (T534.setTop (mkF m 12 #[.val (.ref a1), .val (.ref a2)] [(.ref a1), (.ref sb), (.ref x), (.ref x)])) _
  obtain ⟨cqc562, kqc562, qac562, qbc562, qcc562⟩ := isOf hZ rfl E554
  obtain ⟨_, _, ⟨T561, L561, k561, n561⟩, -, X561, ⟨Lc561, hQ561, l561, y561, z561⟩, st561⟩ := X534.virtualBack hx (y := (⟨"java/lang/StringBuilder", "append", "(Ljava/lang/String;)Ljava/lang/StringBuilder;"⟩ : MethodName)) (z := (⟨"java/lang/StringBuilder", "append", "(Ljava/lang/String;)Ljava/lang/StringBuilder;"⟩ : MethodName)) hown (mvT hZ (hw _ (List.mem_of_getElem? (i := 39) rfl))) (mvT hZ (hw _ (List.mem_of_getElem? (i := 40) rfl))) (notFace_of_selects (args := #[]) (mvT hZ (hw _ (List.mem_of_getElem? (i := 42) rfl)))) (mvT hZ (hw _ (List.mem_of_getElem? (i := 42) rfl))) (mvT hZ (hw _ (List.mem_of_getElem? (i := 41) rfl))) (by decide) (backOf (W := 2) (rmSBA l Z a0 hw a1 sb t534 kb534 16 ([] : List Int32) cs G1 T534.heap n0 Z542 SC PC E554 Fc534 Fn534 Fv534 V560 Su545.is gn514 gn536 (Su545.sv sz537) (show (List.length ([] : List Int32)) + cs.length ≤ 16 by simp; omega) (by decide) O541) hZ (hw _ (List.mem_of_getElem? (i := 43) rfl)) (hw _ (List.mem_of_getElem? (i := 21) rfl)) (by decide) (by decide)) qac562 qcc562 (g := (mkF m 12 #[.val (.ref a1), .val (.ref a2)] [(.ref a1), (.ref sb), (.ref x), (.ref x)])) rfl (by rw [hml]; rfl) (Steps.refl _) (argsL := [(.ref a1)]) (rest := [(.ref x), (.ref x)]) (lenOf own_pd356 rfl) rfl (by show 2 * 0 + _ ≤ _; exact Nat.le_of_eq rfl) (hb hby own_d355) (fun _ _ => ⟨rfl, rfl, (by decide : 3 + 0 ≤ _), (by decide : 26 + 0 ≤ _)⟩)
  dsimp only [Pt.U, Pt.locs, Pt.cells, Pt.slots] at X561 l561 y561 z561 st561 hQ561
  subst l561 y561 z561
  obtain ⟨rfl, N561, K561, E561, Fc561, Fn561, Fv561, V561⟩ := hQ561
  refine GoOn.trans st561 ?_
  have N563 := Fr.app N535 N561
  have O564 : Old Z n0 T561.heap := O541.keep K561 (allS gn514 (allS gn536 all0))
  have Z565 : n0 ≤ T561.heap.size := Nat.le_trans Z542 K561.1
  have K566 : Keep h0 T561.heap [] := K543.trans K561 ((allS (Or.inr sz515) (allS (Or.inr sz537) all0)))
  have C567 : CHr Z own_EL s.vm h0 s.vm T561.heap := CHr.trans C544 (CHr.keep K561 (allS (Safe.exa hZ.alike E554 (by decide) (by decide)) (allS Sf558 all0)) C544.1)
  have Su568 : StrUp Z T561.heap a1 cs h0.size := Su545.keep K561 (allS sz515 (allS sz537 all0))
  have Su569 : StrUp Z T561.heap a2 ds h0.size := Su546.keep K561 (allS sz515 (allS sz537 all0))
  have E570 : Exa Z T561.heap x "com/example/faktorwerk/faktorwerk/model/InputRefusedException" := E547.keep K561
  have Un571 : Unt T561.heap x := Unt.keep K561 (ninS ne516 (ninS ne538 nin0)) Un548
  have F572 : Fld Z T561.heap x "java/lang/Throwable" "cause" "Ljava/lang/Throwable;" .null := F549.keep K561 (ninS ne516 (ninS ne538 nin0))
  have F573 : Fld Z T561.heap x "java/lang/Throwable" "stackTrace" "[Ljava/lang/StackTraceElement;" .null := F550.keep K561 (ninS ne516 (ninS ne538 nin0))
  have F574 : Fld Z T561.heap x "java/lang/Throwable" "suppressedExceptions" "Ljava/util/List;" .null := F551.keep K561 (ninS ne516 (ninS ne538 nin0))
  have F575 : Fld Z T561.heap x "java/lang/Throwable" "detailMessage" "Ljava/lang/String;" .null := F552.keep K561 (ninS ne516 (ninS ne538 nin0))
  have F576 : Fld Z T561.heap x "java/lang/Throwable" "backtrace" "Ljava/lang/Object;" .null := F553.keep K561 (ninS ne516 (ninS ne538 nin0))
  have E577 : Exa Z T561.heap sb "java/lang/StringBuilder" := E554.keep K561
  have Sf578 : Safe Z own_EL s.vm T561.heap t534 := Safe.keep K561 (allS (Safe.exa hZ.alike E554 (by decide) (by decide)) (allS Sf558 all0)) C544.1 Sf558
  have hk583 := Nat.le_trans hk559 K561.1
  show GoOn p e below (T561.setTop (mkF m 15 #[.val (.ref a1), .val (.ref a2)] [(.ref sb), (.ref x), (.ref x)])) _
  obtain ⟨lt584, T584, h584, k1584, lb584, kb584, X584, e584, Ex584, hS584, hk584, hZ584, hown584, El584, Flc584, Flv584, Al584, lla584, llb584, Cn584, Lt584, Ns584, st584⟩ := ldcCH X561 hx hZ hown (hw _ (List.mem_of_getElem? (i := 89) rfl)) wS rfl hS0 hk583 hEL (by decide) C567.1 (vs := [(.int 58), (.int 32)]) (z := (2 : Int32)) (by decide) (by decide) (by decide) (g := (mkF m 15 #[.val (.ref a1), .val (.ref a2)] [(.ref sb), (.ref x), (.ref x)])) rfl (hb hby own_d357) (n := 8) (by decide) (by decide) (by decide) (by decide)
  have Kx584 : Keep T561.heap h584 [] := (Keep.refl _ _).ext Ex584
  refine GoOn.step st584 ?_
  have O585 : Old Z n0 h584 := O564.keep Kx584 all0
  have Z586 : n0 ≤ h584.size := Nat.le_trans Z565 Kx584.1
  have K587 : Keep h0 h584 [] := K566.trans Kx584 all0
  have C588 : CHr Z own_EL s.vm h0 T584.vm h584 := CHr.trans C567 Cn584
  have Su589 : StrUp Z h584 a1 cs h0.size := Su568.keep Kx584 all0
  have Su590 : StrUp Z h584 a2 ds h0.size := Su569.keep Kx584 all0
  have E591 : Exa Z h584 x "com/example/faktorwerk/faktorwerk/model/InputRefusedException" := E570.keep Kx584
  have Un592 : Unt h584 x := own_untk Un571 Kx584
  have F593 : Fld Z h584 x "java/lang/Throwable" "cause" "Ljava/lang/Throwable;" .null := F572.keep Kx584 nin0
  have F594 : Fld Z h584 x "java/lang/Throwable" "stackTrace" "[Ljava/lang/StackTraceElement;" .null := F573.keep Kx584 nin0
  have F595 : Fld Z h584 x "java/lang/Throwable" "suppressedExceptions" "Ljava/util/List;" .null := F574.keep Kx584 nin0
  have F596 : Fld Z h584 x "java/lang/Throwable" "detailMessage" "Ljava/lang/String;" .null := F575.keep Kx584 nin0
  have F597 : Fld Z h584 x "java/lang/Throwable" "backtrace" "Ljava/lang/Object;" .null := F576.keep Kx584 nin0
  have E598 : Exa Z h584 sb "java/lang/StringBuilder" := E577.keep Kx584
  have Sf599 : Safe Z own_EL T584.vm h584 t534 := CHr.safe Cn584 V561.lt Sf578
  have F600 : Fld Z h584 sb "java/lang/AbstractStringBuilder" "coder" "B" (.int 0) := Fc561.keep Kx584 nin0
  have F601 : Fld Z h584 sb "java/lang/AbstractStringBuilder" "count" "I" (.int (Int32.ofNat (([] : List Int32) ++ cs).length)) := Fn561.keep Kx584 nin0
  have F602 : Fld Z h584 sb "java/lang/AbstractStringBuilder" "value" "[B" (.ref t534) := Fv561.keep Kx584 nin0
  have V603 : Arv Z h584 t534 kb534 .byte (Int32.ofNat 16) (own_sb 16 (([] : List Int32) ++ cs)) (.int 0) := V561.keep Kx584 nin0
  have ne604 : t534 ≠ lt584 := (Ns584 _ Sf599).1
  have ne605 : t534 ≠ lb584 := (Ns584 _ Sf599).2
  show GoOn p e below (T584.setTop (mkF m 17 #[.val (.ref a1), .val (.ref a2)] [(.ref lt584), (.ref sb), (.ref x), (.ref x)])) _
  have Sr606 : StrIs Z h584 lt584 ([58, 32] : List Int32) := ⟨El584, Flc584, by decide, by decide, lb584, kb584, Flv584, Al584⟩
  obtain ⟨cqc608, kqc608, qac608, qbc608, qcc608⟩ := isOf hZ584 e584 E598
  obtain ⟨_, _, ⟨T607, L607, k607, n607⟩, -, X607, ⟨Lc607, hQ607, l607, y607, z607⟩, st607⟩ := X584.virtualBack hx (y := (⟨"java/lang/StringBuilder", "append", "(Ljava/lang/String;)Ljava/lang/StringBuilder;"⟩ : MethodName)) (z := (⟨"java/lang/StringBuilder", "append", "(Ljava/lang/String;)Ljava/lang/StringBuilder;"⟩ : MethodName)) hown584 (mvT hZ584 (hw _ (List.mem_of_getElem? (i := 39) rfl))) (mvT hZ584 (hw _ (List.mem_of_getElem? (i := 40) rfl))) (notFace_of_selects (args := #[]) (mvT hZ584 (hw _ (List.mem_of_getElem? (i := 42) rfl)))) (mvT hZ584 (hw _ (List.mem_of_getElem? (i := 42) rfl))) (mvT hZ584 (hw _ (List.mem_of_getElem? (i := 41) rfl))) (by decide) (backOf (W := 2) (rmSBA l Z a0 hw lt584 sb t534 kb534 16 (([] : List Int32) ++ cs) ([58, 32] : List Int32) G1 h584 n0 Z586 SC PC E598 F600 F601 F602 V603 Sr606 gn514 gn536 (fun sv F => by cases own_finj F Flv584; exact (ne605).symm) (by simp; omega) (by decide) O585) hZ584 (hw _ (List.mem_of_getElem? (i := 43) rfl)) (hw _ (List.mem_of_getElem? (i := 21) rfl)) (by decide) (by decide)) qac608 qcc608 (g := (mkF m 17 #[.val (.ref a1), .val (.ref a2)] [(.ref lt584), (.ref sb), (.ref x), (.ref x)])) rfl (by rw [hml]; rfl) (Steps.refl _) (argsL := [(.ref lt584)]) (rest := [(.ref x), (.ref x)]) (lenOf own_pd356 rfl) rfl (by show 2 * 0 + _ ≤ _; exact Nat.le_of_eq rfl) (hb hby own_d358) (fun _ _ => ⟨rfl, e584, (by decide : 5 + 0 ≤ _), (by decide : 38 + 0 ≤ _)⟩)
  dsimp only [Pt.U, Pt.locs, Pt.cells, Pt.slots] at X607 l607 y607 z607 st607 hQ607
  subst l607 y607 z607
  obtain ⟨rfl, N607, K607, E607, Fc607, Fn607, Fv607, V607⟩ := hQ607
  refine GoOn.trans st607 ?_
  have N609 := Fr.app N563 N607
  have O610 : Old Z n0 T607.heap := O585.keep K607 (allS gn514 (allS gn536 all0))
  have Z611 : n0 ≤ T607.heap.size := Nat.le_trans Z586 K607.1
  have K612 : Keep h0 T607.heap [] := K587.trans K607 ((allS (Or.inr sz515) (allS (Or.inr sz537) all0)))
  have C613 : CHr Z own_EL s.vm h0 T584.vm T607.heap := CHr.trans C588 (CHr.keep K607 (allS (Safe.exa hZ584.alike E598 (by decide) (by decide)) (allS Sf599 all0)) C588.1)
  have Su614 : StrUp Z T607.heap a1 cs h0.size := Su589.keep K607 (allS sz515 (allS sz537 all0))
  have Su615 : StrUp Z T607.heap a2 ds h0.size := Su590.keep K607 (allS sz515 (allS sz537 all0))
  have E616 : Exa Z T607.heap x "com/example/faktorwerk/faktorwerk/model/InputRefusedException" := E591.keep K607
  have Un617 : Unt T607.heap x := Unt.keep K607 (ninS ne516 (ninS ne538 nin0)) Un592
  have F618 : Fld Z T607.heap x "java/lang/Throwable" "cause" "Ljava/lang/Throwable;" .null := F593.keep K607 (ninS ne516 (ninS ne538 nin0))
  have F619 : Fld Z T607.heap x "java/lang/Throwable" "stackTrace" "[Ljava/lang/StackTraceElement;" .null := F594.keep K607 (ninS ne516 (ninS ne538 nin0))
  have F620 : Fld Z T607.heap x "java/lang/Throwable" "suppressedExceptions" "Ljava/util/List;" .null := F595.keep K607 (ninS ne516 (ninS ne538 nin0))
  have F621 : Fld Z T607.heap x "java/lang/Throwable" "detailMessage" "Ljava/lang/String;" .null := F596.keep K607 (ninS ne516 (ninS ne538 nin0))
  have F622 : Fld Z T607.heap x "java/lang/Throwable" "backtrace" "Ljava/lang/Object;" .null := F597.keep K607 (ninS ne516 (ninS ne538 nin0))
  have E623 : Exa Z T607.heap sb "java/lang/StringBuilder" := E598.keep K607
  have Sf624 : Safe Z own_EL T584.vm T607.heap t534 := Safe.keep K607 (allS (Safe.exa hZ584.alike E598 (by decide) (by decide)) (allS Sf599 all0)) C588.1 Sf599
  have hk629 := Nat.le_trans hk584 K607.1
  show GoOn p e below (T607.setTop (mkF m 20 #[.val (.ref a1), .val (.ref a2)] [(.ref sb), (.ref x), (.ref x)])) _
  refine GoOn.step (fun tq kq => XS.aloadN X607.here hx rfl (hb hby own_d359) rfl rfl kq) ?_
  show GoOn p e below (T607.setTop (mkF m 21 #[.val (.ref a1), .val (.ref a2)] [(.ref a2), (.ref sb), (.ref x), (.ref x)])) _
  obtain ⟨cqc631, kqc631, qac631, qbc631, qcc631⟩ := isOf hZ584 rfl E623
  obtain ⟨_, _, ⟨T630, L630, k630, n630⟩, -, X630, ⟨Lc630, hQ630, l630, y630, z630⟩, st630⟩ := X607.virtualBack hx (y := (⟨"java/lang/StringBuilder", "append", "(Ljava/lang/String;)Ljava/lang/StringBuilder;"⟩ : MethodName)) (z := (⟨"java/lang/StringBuilder", "append", "(Ljava/lang/String;)Ljava/lang/StringBuilder;"⟩ : MethodName)) hown584 (mvT hZ584 (hw _ (List.mem_of_getElem? (i := 39) rfl))) (mvT hZ584 (hw _ (List.mem_of_getElem? (i := 40) rfl))) (notFace_of_selects (args := #[]) (mvT hZ584 (hw _ (List.mem_of_getElem? (i := 42) rfl)))) (mvT hZ584 (hw _ (List.mem_of_getElem? (i := 42) rfl))) (mvT hZ584 (hw _ (List.mem_of_getElem? (i := 41) rfl))) (by decide) (backOf (W := 2) (rmSBA l Z a0 hw a2 sb t534 kb534 16 ((([] : List Int32) ++ cs) ++ ([58, 32] : List Int32)) ds G1 T607.heap n0 Z611 SC PC E623 Fc607 Fn607 Fv607 V607 Su615.is gn514 gn536 (Su615.sv sz537) (by simp; omega) (by decide) O610) hZ584 (hw _ (List.mem_of_getElem? (i := 43) rfl)) (hw _ (List.mem_of_getElem? (i := 21) rfl)) (by decide) (by decide)) qac631 qcc631 (g := (mkF m 21 #[.val (.ref a1), .val (.ref a2)] [(.ref a2), (.ref sb), (.ref x), (.ref x)])) rfl (by rw [hml]; rfl) (Steps.refl _) (argsL := [(.ref a2)]) (rest := [(.ref x), (.ref x)]) (lenOf own_pd356 rfl) rfl (by show 2 * 0 + _ ≤ _; exact Nat.le_of_eq rfl) (hb hby own_d360) (fun _ _ => ⟨rfl, rfl, (by decide : 5 + 0 ≤ _), (by decide : 38 + 0 ≤ _)⟩)
  dsimp only [Pt.U, Pt.locs, Pt.cells, Pt.slots] at X630 l630 y630 z630 st630 hQ630
  subst l630 y630 z630
  obtain ⟨rfl, N630, K630, E630, Fc630, Fn630, Fv630, V630⟩ := hQ630
  refine GoOn.trans st630 ?_
  have N632 := Fr.app N609 N630
  have O633 : Old Z n0 T630.heap := O610.keep K630 (allS gn514 (allS gn536 all0))
  have Z634 : n0 ≤ T630.heap.size := Nat.le_trans Z611 K630.1
  have K635 : Keep h0 T630.heap [] := K612.trans K630 ((allS (Or.inr sz515) (allS (Or.inr sz537) all0)))
  have C636 : CHr Z own_EL s.vm h0 T584.vm T630.heap := CHr.trans C613 (CHr.keep K630 (allS (Safe.exa hZ584.alike E623 (by decide) (by decide)) (allS Sf624 all0)) C613.1)
  have Su637 : StrUp Z T630.heap a1 cs h0.size := Su614.keep K630 (allS sz515 (allS sz537 all0))
  have Su638 : StrUp Z T630.heap a2 ds h0.size := Su615.keep K630 (allS sz515 (allS sz537 all0))
  have E639 : Exa Z T630.heap x "com/example/faktorwerk/faktorwerk/model/InputRefusedException" := E616.keep K630
  have Un640 : Unt T630.heap x := Unt.keep K630 (ninS ne516 (ninS ne538 nin0)) Un617
  have F641 : Fld Z T630.heap x "java/lang/Throwable" "cause" "Ljava/lang/Throwable;" .null := F618.keep K630 (ninS ne516 (ninS ne538 nin0))
  have F642 : Fld Z T630.heap x "java/lang/Throwable" "stackTrace" "[Ljava/lang/StackTraceElement;" .null := F619.keep K630 (ninS ne516 (ninS ne538 nin0))
  have F643 : Fld Z T630.heap x "java/lang/Throwable" "suppressedExceptions" "Ljava/util/List;" .null := F620.keep K630 (ninS ne516 (ninS ne538 nin0))
  have F644 : Fld Z T630.heap x "java/lang/Throwable" "detailMessage" "Ljava/lang/String;" .null := F621.keep K630 (ninS ne516 (ninS ne538 nin0))
  have F645 : Fld Z T630.heap x "java/lang/Throwable" "backtrace" "Ljava/lang/Object;" .null := F622.keep K630 (ninS ne516 (ninS ne538 nin0))
  have E646 : Exa Z T630.heap sb "java/lang/StringBuilder" := E623.keep K630
  have Sf647 : Safe Z own_EL T584.vm T630.heap t534 := Safe.keep K630 (allS (Safe.exa hZ584.alike E623 (by decide) (by decide)) (allS Sf624 all0)) C613.1 Sf624
  have hk652 := Nat.le_trans hk629 K630.1
  show GoOn p e below (T630.setTop (mkF m 24 #[.val (.ref a1), .val (.ref a2)] [(.ref sb), (.ref x), (.ref x)])) _
  have hpe : ∀ c ∈ (((([] : List Int32) ++ cs) ++ ([58, 32] : List Int32)) ++ ds), ¬ c < 0 ∧ ¬ (255 : Int32) < c := own_pe hp1 hp2 (by decide)
  obtain ⟨cqc654, kqc654, qac654, qbc654, qcc654⟩ := isOf hZ584 rfl E646
  obtain ⟨_, _, ⟨T653, L653, k653, n653⟩, -, X653, ⟨Lc653, hQ653, l653, y653, z653⟩, st653⟩ := X630.virtualBack hx (y := (⟨"java/lang/StringBuilder", "toString", "()Ljava/lang/String;"⟩ : MethodName)) (z := (⟨"java/lang/StringBuilder", "toString", "()Ljava/lang/String;"⟩ : MethodName)) hown584 (mvT hZ584 (hw _ (List.mem_of_getElem? (i := 90) rfl))) (mvT hZ584 (hw _ (List.mem_of_getElem? (i := 91) rfl))) (notFace_of_selects (args := #[]) (mvT hZ584 (hw _ (List.mem_of_getElem? (i := 93) rfl)))) (mvT hZ584 (hw _ (List.mem_of_getElem? (i := 93) rfl))) (mvT hZ584 (hw _ (List.mem_of_getElem? (i := 92) rfl))) (by decide) (backOf (W := 2) (rmToS l Z a0 hw sb t534 kb534 16 (((([] : List Int32) ++ cs) ++ ([58, 32] : List Int32)) ++ ds) G1 T630.heap n0 Z634 SC PC E646 Fc630 Fn630 Fv630 V630 (by simp; omega) (by decide) hpe O633) hZ584 (hw _ (List.mem_of_getElem? (i := 94) rfl)) (hw _ (List.mem_of_getElem? (i := 21) rfl)) (by decide) (by decide)) qac654 qcc654 (g := (mkF m 24 #[.val (.ref a1), .val (.ref a2)] [(.ref sb), (.ref x), (.ref x)])) rfl (by rw [hml]; rfl) (Steps.refl _) (argsL := []) (rest := [(.ref x), (.ref x)]) (lenOf own_pd361 rfl) rfl (by show 2 * 0 + _ ≤ _; exact Nat.le_of_eq rfl) (hb hby own_d362) (fun _ _ => ⟨rfl, rfl, (by decide : 5 + 2 ≤ _), (by decide : 38 + 44 ≤ _)⟩)
  dsimp only [Pt.U, Pt.locs, Pt.cells, Pt.slots] at X653 l653 y653 z653 st653 hQ653
  subst l653 y653 z653
  obtain ⟨m653, rfl, N653, K653, ge653, S653⟩ := hQ653
  refine GoOn.trans st653 ?_
  have N655 := Fr.app N632 N653
  have O656 : Old Z n0 T653.heap := O633.keep K653 all0
  have Z657 : n0 ≤ T653.heap.size := Nat.le_trans Z634 K653.1
  have K658 : Keep h0 T653.heap [] := K635.trans K653 (all0)
  have C659 : CHr Z own_EL s.vm h0 T584.vm T653.heap := CHr.trans C636 (CHr.keep K653 all0 C636.1)
  have Su660 : StrUp Z T653.heap a1 cs h0.size := Su637.keep K653 all0
  have Su661 : StrUp Z T653.heap a2 ds h0.size := Su638.keep K653 all0
  have E662 : Exa Z T653.heap x "com/example/faktorwerk/faktorwerk/model/InputRefusedException" := E639.keep K653
  have Un663 : Unt T653.heap x := Unt.keep K653 nin0 Un640
  have F664 : Fld Z T653.heap x "java/lang/Throwable" "cause" "Ljava/lang/Throwable;" .null := F641.keep K653 nin0
  have F665 : Fld Z T653.heap x "java/lang/Throwable" "stackTrace" "[Ljava/lang/StackTraceElement;" .null := F642.keep K653 nin0
  have F666 : Fld Z T653.heap x "java/lang/Throwable" "suppressedExceptions" "Ljava/util/List;" .null := F643.keep K653 nin0
  have F667 : Fld Z T653.heap x "java/lang/Throwable" "detailMessage" "Ljava/lang/String;" .null := F644.keep K653 nin0
  have F668 : Fld Z T653.heap x "java/lang/Throwable" "backtrace" "Ljava/lang/Object;" .null := F645.keep K653 nin0
  have E669 : Exa Z T653.heap sb "java/lang/StringBuilder" := E646.keep K653
  have Sf670 : Safe Z own_EL T584.vm T653.heap t534 := Safe.keep K653 all0 C636.1 Sf647
  have F671 : Fld Z T653.heap sb "java/lang/AbstractStringBuilder" "coder" "B" (.int 0) := Fc630.keep K653 nin0
  have F672 : Fld Z T653.heap sb "java/lang/AbstractStringBuilder" "count" "I" (.int (Int32.ofNat (((([] : List Int32) ++ cs) ++ ([58, 32] : List Int32)) ++ ds).length)) := Fn630.keep K653 nin0
  have F673 : Fld Z T653.heap sb "java/lang/AbstractStringBuilder" "value" "[B" (.ref t534) := Fv630.keep K653 nin0
  have V674 : Arv Z T653.heap t534 kb534 .byte (Int32.ofNat 16) (own_sb 16 (((([] : List Int32) ++ cs) ++ ([58, 32] : List Int32)) ++ ds)) (.int 0) := V630.keep K653 nin0
  have hk675 := Nat.le_trans hk652 K653.1
  show GoOn p e below (T653.setTop (mkF m 27 #[.val (.ref a1), .val (.ref a2)] [(.ref m653), (.ref x), (.ref x)])) _
  obtain ⟨_, _, ⟨T676, L676, k676, n676⟩, -, X676, ⟨Lc676, hQ676, l676, y676, z676⟩, st676⟩ := X653.specialBack hx (y := (⟨"com/example/faktorwerk/faktorwerk/model/InputRefusedException", "<init>", "(Ljava/lang/String;)V"⟩ : MethodName)) rfl hown584 (mvT hZ584 (hw _ (List.mem_of_getElem? (i := 137) rfl))) (mvT hZ584 (hw _ (List.mem_of_getElem? (i := 138) rfl))) (mvT hZ584 (hw _ (List.mem_of_getElem? (i := 139) rfl))) (by decide) (backOfKL (W := 1) (rmIRE l Z a0 hw x m653 u0 w0 T653.heap n0 Z657 hST SU rU SS rS E662 Un663 F664 F665 F666 F668 F667 gn499 O656) hZ584 (hw _ (List.mem_of_getElem? (i := 139) rfl)) (hw _ (List.mem_of_getElem? (i := 15) rfl)) (by decide) (by decide) (Vm.MethodsKnown.alikeC hS584.1.alike hK.1) (Vm.FramesKnown.alikeC hS584.1.alike hK.2)) (g := (mkF m 27 #[.val (.ref a1), .val (.ref a2)] [(.ref m653), (.ref x), (.ref x)])) rfl (by rw [hml]; rfl) (Steps.refl _) (a := x) (argsL := [(.ref m653)]) (rest := [(.ref x)]) (lenOf own_pd26 rfl) rfl (by show 2 * 0 + _ ≤ _; exact Nat.le_of_eq rfl) (hb hby own_d363) (fun _ _ => ⟨rfl, rfl, (by decide : 7 + 1 ≤ _), (by decide : 82 + 2752 ≤ _)⟩)
  dsimp only [Pt.U, Pt.locs, Pt.cells, Pt.slots] at X676 l676 y676 z676 st676 hQ676
  subst l676 y676 z676
  obtain ⟨rfl, N676, K676, E676, Un676, Fc676, Fm676⟩ := hQ676
  refine GoOn.trans st676 ?_
  have N677 := Fr.app N655 N676
  have O678 : Old Z n0 T676.heap := O656.keep K676 (allS gn499 all0)
  have Z679 : n0 ≤ T676.heap.size := Nat.le_trans Z657 K676.1
  have K680 : Keep h0 T676.heap [] := K658.trans K676 ((allS (Or.inr sz500) all0))
  have C681 : CHr Z own_EL s.vm h0 T584.vm T676.heap := CHr.trans C659 (CHr.keep K676 (allS (Safe.exa hZ584.alike E662 (by decide) (by decide)) all0) C659.1)
  have E682 : Exa Z T676.heap x "com/example/faktorwerk/faktorwerk/model/InputRefusedException" := E662.keep K676
  have Sr689 : StrIs Z T676.heap m653 (((([] : List Int32) ++ cs) ++ ([58, 32] : List Int32)) ++ ds) := S653.keepX K676 E662 (hw _ (List.mem_of_getElem? (i := 18) rfl)) (by decide)
  have hk690 := Nat.le_trans hk675 K676.1
  show GoOn p e below (T676.setTop (mkF m 30 #[.val (.ref a1), .val (.ref a2)] [(.ref x)])) _
  refine GoOn.retH X676 hZ584 hS584 (hk690) hEL hh rfl C681 Bd.notSynchronized (v := some (.ref x)) (fun h => by rw [Bd.returns] at h; cases h) (fun fs hr => retOut X676 hx Bd.returns rfl (Or.inr (Or.inr (Or.inr (Or.inr ⟨rfl, rfl, rfl⟩)))) (hb hby own_d364) hr) (by decide) (by decide) ?_
  exact ⟨x, m653, rfl, N677, K680, E682, Un676, Fc676, Fm676, Sr689⟩
def QLaw (h0 : Heap) (n0 : Nat) (v : Option Value) (h : Heap) (L : List Loc) : Prop := v = some (.int 1) ∧ Fr n0 L
set_option maxRecDepth 65536 in
set_option maxHeartbeats 40000000 in
theorem rm0 (l : Launch) (Z : State) (a0 : Array Value) (hw : ∀ d ∈ tables_1, d.before a0 Z = true) (ws : List Jvm.Cond) (p0 p1 p2 p3 p4 G1 : Int32) (u0 w0 G3 : Value) (h0 : Heap) (n0 : Nat) (Z0 : n0 ≤ h0.size) (SC : Sta Z Z.heap "java/lang/String" "COMPACT_STRINGS" "Z" (.int G1)) (PC : ¬ G1 = (0 : Int32)) (hST : l.stackTraces = true) (SU : Sta Z Z.heap "java/lang/Throwable" "UNASSIGNED_STACK" "[Ljava/lang/StackTraceElement;" u0) (rU : u0.isRef = true) (SS : Sta Z Z.heap "java/lang/Throwable" "SUPPRESSED_SENTINEL" "Ljava/util/List;" w0) (rS : w0.isRef = true) (SF : Sta Z Z.heap "jdk/internal/util/Preconditions" "SIOOBE_FORMATTER" "Ljava/util/function/BiFunction;" G3) (rG3 : G3.isRef = true) (O0 : Old Z n0 h0) :
    MetFree l x (head1 (Jvm.Cond.code x code maxLocals ret :: ws) room_1) (fun aa U => aa = #[(.int p0), (.int p1), (.int p2), (.int p3), (.int p4)] ∧ Z.Warmed39 U.vm ∧ U.heap = h0 ∧ CHv Z own_EL U.vm h0) (fun _ _ bl s _ => s.vm.MethodsKnown ∧ s.vm.FramesKnown bl) (fun _ U o U' => ∃ v L, o = .returned v ∧ QLaw h0 n0 v U'.heap L ∧ CHr Z own_EL U.vm U.heap U'.vm U'.heap ∧ ReturnedEndW U o U' L 40 7744) := by
  refine MetFree.of_bodySF (plainFor_of_name own_pn79) hisR ?_
  intro p e s m args below meth c s₁ Bd hml0 hP hK
  obtain ⟨rfl, hZ, hh, hCH⟩ := hP
  have hx := Bd.exec
  have hby := Bd.bytes
  have hml : c.maxLocals = 15 := hml0
  have hown : s.vm.findClass "com/example/faktorwerk/faktorwerk/model/InputRefusedExceptionInFilePinLaw" = some m.cls := findClass_of_methodNamed Bd.named
  have hnm := (name_of_methodNamed Bd.named Bd.method).1
  have X0 : Stand p l e room_1 s m #[(.int p0), (.int p1), (.int p2), (.int p3), (.int p4)] below meth c s₁ [] 0 0 := Stand.of_body Bd
  have e0 : s₁.heap = h0 := by rw [← hh, Bd.state]; rfl
  have N0 := Fr.nil n0
  have K0 : Keep h0 h0 [] := Keep.refl _ _
  show GoOn p e below (s₁.setTop (entryFrame m #[(.int p0), (.int p1), (.int p2), (.int p3), (.int p4)] maxLocals)) (PostH Z own_EL s (QLaw h0 n0) 40 7744)
  refine GoOn.step (fun tq kq => castTop (own_ef365 m p0 p1 p2 p3 p4) kq) ?_
  have hS0 : s.Since s.vm h0.size := (State.WarmedH.refl s).since _
  have hk0 : h0.size ≤ h0.size := Nat.le_refl _
  replace X0 : Stand p l e room_1 (s.setVm s.vm) m #[(.int p0), (.int p1), (.int p2), (.int p3), (.int p4)] below meth c s₁ [] 0 0 := X0
  replace hZ : Z.Warmed39 (s.setVm s.vm).vm := hZ
  replace hown : (s.setVm s.vm).vm.findClass "com/example/faktorwerk/faktorwerk/model/InputRefusedExceptionInFilePinLaw" = some m.cls := hown
  have C0 : CHr Z own_EL s.vm h0 s.vm h0 := CHr.refl hCH
  have hEL : EW Z a0 own_EL := own_EW hw
  have wS : ∀ d ∈ Bundle.stringAtoms, d.before a0 Z = true := fun d hd => hw d (own_sa d hd)
  show GoOn p e below (s₁.setTop (mkF m 0 #[.val (.int p0), .val (.int p1), .val (.int p2), .val (.int p3), .val (.int p4), .unset, .unset, .unset, .unset, .unset, .unset, .unset, .unset, .unset, .unset] [])) _
  have hws : ∀ d ∈ StrChars.Road.wordsChN, d.before a0 Z = true := fun d hd => hw d ((by decide +kernel : ∀ d ∈ StrChars.Road.wordsChN, d ∈ tables_1) d hd)
  have hch := hws
  refine GoOn.step (fun tq kq => XS.iloadN X0.here hx rfl (hb hby at_0) rfl kq) ?_
  show GoOn p e below (s₁.setTop (mkF m 1 #[.val (.int p0), .val (.int p1), .val (.int p2), .val (.int p3), .val (.int p4), .unset, .unset, .unset, .unset, .unset, .unset, .unset, .unset, .unset, .unset] [(.int p0)])) _
  refine GoOn.step (fun tq kq => XS.sipush X0.here hx rfl (hb hby at_1) kq) ?_
  show GoOn p e below (s₁.setTop (mkF m 4 #[.val (.int p0), .val (.int p1), .val (.int p2), .val (.int p3), .val (.int p4), .unset, .unset, .unset, .unset, .unset, .unset, .unset, .unset, .unset, .unset] [(.int (255 : Int32)), (.int p0)])) _
  refine GoOn.step (fun tq kq => XS.iand X0.here hx rfl (hb hby at_4) rfl kq) ?_
  show GoOn p e below (s₁.setTop (mkF m 5 #[.val (.int p0), .val (.int p1), .val (.int p2), .val (.int p3), .val (.int p4), .unset, .unset, .unset, .unset, .unset, .unset, .unset, .unset, .unset, .unset] [(.int (p0 &&& (255 : Int32)))])) _
  refine GoOn.step (fun tq kq => XS.i2c X0.here hx rfl (hb hby at_5) rfl kq) ?_
  show GoOn p e below (s₁.setTop (mkF m 6 #[.val (.int p0), .val (.int p1), .val (.int p2), .val (.int p3), .val (.int p4), .unset, .unset, .unset, .unset, .unset, .unset, .unset, .unset, .unset, .unset] [(.int (((p0 &&& (255 : Int32))).toUInt32.toUInt16.toUInt32.toInt32))])) _
  refine GoOn.step (fun tq kq => XS.istore X0.here hx rfl (hb hby at_6) rfl (l' := #[.val (.int p0), .val (.int p1), .val (.int p2), .val (.int p3), .val (.int p4), .val (.int (((p0 &&& (255 : Int32))).toUInt32.toUInt16.toUInt32.toInt32)), .unset, .unset, .unset, .unset, .unset, .unset, .unset, .unset, .unset]) rfl kq) ?_
  show GoOn p e below (s₁.setTop (mkF m 8 #[.val (.int p0), .val (.int p1), .val (.int p2), .val (.int p3), .val (.int p4), .val (.int (((p0 &&& (255 : Int32))).toUInt32.toUInt16.toUInt32.toInt32)), .unset, .unset, .unset, .unset, .unset, .unset, .unset, .unset, .unset] [])) _
  have hc0 := own_c255 p0
  generalize hgc0 : (((p0 &&& (255 : Int32))).toUInt32.toUInt16.toUInt32.toInt32) = c0
  show GoOn p e below (s₁.setTop (mkF m 8 #[.val (.int p0), .val (.int p1), .val (.int p2), .val (.int p3), .val (.int p4), .val (.int c0), .unset, .unset, .unset, .unset, .unset, .unset, .unset, .unset, .unset] [])) _
  rw [hgc0] at hc0
  refine GoOn.step (fun tq kq => XS.iloadN X0.here hx rfl (hb hby at_8) rfl kq) ?_
  show GoOn p e below (s₁.setTop (mkF m 9 #[.val (.int p0), .val (.int p1), .val (.int p2), .val (.int p3), .val (.int p4), .val (.int c0), .unset, .unset, .unset, .unset, .unset, .unset, .unset, .unset, .unset] [(.int p1)])) _
  refine GoOn.step (fun tq kq => XS.sipush X0.here hx rfl (hb hby at_9) kq) ?_
  show GoOn p e below (s₁.setTop (mkF m 12 #[.val (.int p0), .val (.int p1), .val (.int p2), .val (.int p3), .val (.int p4), .val (.int c0), .unset, .unset, .unset, .unset, .unset, .unset, .unset, .unset, .unset] [(.int (255 : Int32)), (.int p1)])) _
  refine GoOn.step (fun tq kq => XS.iand X0.here hx rfl (hb hby at_12) rfl kq) ?_
  show GoOn p e below (s₁.setTop (mkF m 13 #[.val (.int p0), .val (.int p1), .val (.int p2), .val (.int p3), .val (.int p4), .val (.int c0), .unset, .unset, .unset, .unset, .unset, .unset, .unset, .unset, .unset] [(.int (p1 &&& (255 : Int32)))])) _
  refine GoOn.step (fun tq kq => XS.i2c X0.here hx rfl (hb hby at_13) rfl kq) ?_
  show GoOn p e below (s₁.setTop (mkF m 14 #[.val (.int p0), .val (.int p1), .val (.int p2), .val (.int p3), .val (.int p4), .val (.int c0), .unset, .unset, .unset, .unset, .unset, .unset, .unset, .unset, .unset] [(.int (((p1 &&& (255 : Int32))).toUInt32.toUInt16.toUInt32.toInt32))])) _
  refine GoOn.step (fun tq kq => XS.istore X0.here hx rfl (hb hby at_14) rfl (l' := #[.val (.int p0), .val (.int p1), .val (.int p2), .val (.int p3), .val (.int p4), .val (.int c0), .val (.int (((p1 &&& (255 : Int32))).toUInt32.toUInt16.toUInt32.toInt32)), .unset, .unset, .unset, .unset, .unset, .unset, .unset, .unset]) rfl kq) ?_
  show GoOn p e below (s₁.setTop (mkF m 16 #[.val (.int p0), .val (.int p1), .val (.int p2), .val (.int p3), .val (.int p4), .val (.int c0), .val (.int (((p1 &&& (255 : Int32))).toUInt32.toUInt16.toUInt32.toInt32)), .unset, .unset, .unset, .unset, .unset, .unset, .unset, .unset] [])) _
  have hc1 := own_c255 p1
  generalize hgc1 : (((p1 &&& (255 : Int32))).toUInt32.toUInt16.toUInt32.toInt32) = c1
  show GoOn p e below (s₁.setTop (mkF m 16 #[.val (.int p0), .val (.int p1), .val (.int p2), .val (.int p3), .val (.int p4), .val (.int c0), .val (.int c1), .unset, .unset, .unset, .unset, .unset, .unset, .unset, .unset] [])) _
  rw [hgc1] at hc1
  refine GoOn.step (fun tq kq => XS.iloadN X0.here hx rfl (hb hby at_16) rfl kq) ?_
  show GoOn p e below (s₁.setTop (mkF m 17 #[.val (.int p0), .val (.int p1), .val (.int p2), .val (.int p3), .val (.int p4), .val (.int c0), .val (.int c1), .unset, .unset, .unset, .unset, .unset, .unset, .unset, .unset] [(.int p2)])) _
  refine GoOn.step (fun tq kq => XS.sipush X0.here hx rfl (hb hby at_17) kq) ?_
  show GoOn p e below (s₁.setTop (mkF m 20 #[.val (.int p0), .val (.int p1), .val (.int p2), .val (.int p3), .val (.int p4), .val (.int c0), .val (.int c1), .unset, .unset, .unset, .unset, .unset, .unset, .unset, .unset] [(.int (255 : Int32)), (.int p2)])) _
  refine GoOn.step (fun tq kq => XS.iand X0.here hx rfl (hb hby at_20) rfl kq) ?_
  show GoOn p e below (s₁.setTop (mkF m 21 #[.val (.int p0), .val (.int p1), .val (.int p2), .val (.int p3), .val (.int p4), .val (.int c0), .val (.int c1), .unset, .unset, .unset, .unset, .unset, .unset, .unset, .unset] [(.int (p2 &&& (255 : Int32)))])) _
  refine GoOn.step (fun tq kq => XS.i2c X0.here hx rfl (hb hby at_21) rfl kq) ?_
  show GoOn p e below (s₁.setTop (mkF m 22 #[.val (.int p0), .val (.int p1), .val (.int p2), .val (.int p3), .val (.int p4), .val (.int c0), .val (.int c1), .unset, .unset, .unset, .unset, .unset, .unset, .unset, .unset] [(.int (((p2 &&& (255 : Int32))).toUInt32.toUInt16.toUInt32.toInt32))])) _
  refine GoOn.step (fun tq kq => XS.istore X0.here hx rfl (hb hby at_22) rfl (l' := #[.val (.int p0), .val (.int p1), .val (.int p2), .val (.int p3), .val (.int p4), .val (.int c0), .val (.int c1), .val (.int (((p2 &&& (255 : Int32))).toUInt32.toUInt16.toUInt32.toInt32)), .unset, .unset, .unset, .unset, .unset, .unset, .unset]) rfl kq) ?_
  show GoOn p e below (s₁.setTop (mkF m 24 #[.val (.int p0), .val (.int p1), .val (.int p2), .val (.int p3), .val (.int p4), .val (.int c0), .val (.int c1), .val (.int (((p2 &&& (255 : Int32))).toUInt32.toUInt16.toUInt32.toInt32)), .unset, .unset, .unset, .unset, .unset, .unset, .unset] [])) _
  have hc2 := own_c255 p2
  generalize hgc2 : (((p2 &&& (255 : Int32))).toUInt32.toUInt16.toUInt32.toInt32) = c2
  show GoOn p e below (s₁.setTop (mkF m 24 #[.val (.int p0), .val (.int p1), .val (.int p2), .val (.int p3), .val (.int p4), .val (.int c0), .val (.int c1), .val (.int c2), .unset, .unset, .unset, .unset, .unset, .unset, .unset] [])) _
  rw [hgc2] at hc2
  refine GoOn.step (fun tq kq => XS.iloadN X0.here hx rfl (hb hby at_24) rfl kq) ?_
  show GoOn p e below (s₁.setTop (mkF m 25 #[.val (.int p0), .val (.int p1), .val (.int p2), .val (.int p3), .val (.int p4), .val (.int c0), .val (.int c1), .val (.int c2), .unset, .unset, .unset, .unset, .unset, .unset, .unset] [(.int p3)])) _
  refine GoOn.step (fun tq kq => XS.sipush X0.here hx rfl (hb hby at_25) kq) ?_
  show GoOn p e below (s₁.setTop (mkF m 28 #[.val (.int p0), .val (.int p1), .val (.int p2), .val (.int p3), .val (.int p4), .val (.int c0), .val (.int c1), .val (.int c2), .unset, .unset, .unset, .unset, .unset, .unset, .unset] [(.int (255 : Int32)), (.int p3)])) _
  refine GoOn.step (fun tq kq => XS.iand X0.here hx rfl (hb hby at_28) rfl kq) ?_
  show GoOn p e below (s₁.setTop (mkF m 29 #[.val (.int p0), .val (.int p1), .val (.int p2), .val (.int p3), .val (.int p4), .val (.int c0), .val (.int c1), .val (.int c2), .unset, .unset, .unset, .unset, .unset, .unset, .unset] [(.int (p3 &&& (255 : Int32)))])) _
  refine GoOn.step (fun tq kq => XS.i2c X0.here hx rfl (hb hby at_29) rfl kq) ?_
  show GoOn p e below (s₁.setTop (mkF m 30 #[.val (.int p0), .val (.int p1), .val (.int p2), .val (.int p3), .val (.int p4), .val (.int c0), .val (.int c1), .val (.int c2), .unset, .unset, .unset, .unset, .unset, .unset, .unset] [(.int (((p3 &&& (255 : Int32))).toUInt32.toUInt16.toUInt32.toInt32))])) _
  refine GoOn.step (fun tq kq => XS.istore X0.here hx rfl (hb hby at_30) rfl (l' := #[.val (.int p0), .val (.int p1), .val (.int p2), .val (.int p3), .val (.int p4), .val (.int c0), .val (.int c1), .val (.int c2), .val (.int (((p3 &&& (255 : Int32))).toUInt32.toUInt16.toUInt32.toInt32)), .unset, .unset, .unset, .unset, .unset, .unset]) rfl kq) ?_
  show GoOn p e below (s₁.setTop (mkF m 32 #[.val (.int p0), .val (.int p1), .val (.int p2), .val (.int p3), .val (.int p4), .val (.int c0), .val (.int c1), .val (.int c2), .val (.int (((p3 &&& (255 : Int32))).toUInt32.toUInt16.toUInt32.toInt32)), .unset, .unset, .unset, .unset, .unset, .unset] [])) _
  have hc3 := own_c255 p3
  generalize hgc3 : (((p3 &&& (255 : Int32))).toUInt32.toUInt16.toUInt32.toInt32) = c3
  show GoOn p e below (s₁.setTop (mkF m 32 #[.val (.int p0), .val (.int p1), .val (.int p2), .val (.int p3), .val (.int p4), .val (.int c0), .val (.int c1), .val (.int c2), .val (.int c3), .unset, .unset, .unset, .unset, .unset, .unset] [])) _
  rw [hgc3] at hc3
  refine GoOn.step (fun tq kq => XS.iload X0.here hx rfl (hb hby at_32) rfl kq) ?_
  show GoOn p e below (s₁.setTop (mkF m 34 #[.val (.int p0), .val (.int p1), .val (.int p2), .val (.int p3), .val (.int p4), .val (.int c0), .val (.int c1), .val (.int c2), .val (.int c3), .unset, .unset, .unset, .unset, .unset, .unset] [(.int p4)])) _
  refine GoOn.step (fun tq kq => X0.ldcInt hx hown (mvT hZ (hw _ (List.mem_of_getElem? (i := 0) rfl))) (g := (mkF m 34 #[.val (.int p0), .val (.int p1), .val (.int p2), .val (.int p3), .val (.int p4), .val (.int c0), .val (.int c1), .val (.int c2), .val (.int c3), .unset, .unset, .unset, .unset, .unset, .unset] [(.int p4)])) rfl (hb hby at_34) _ kq) ?_
  show GoOn p e below (s₁.setTop (mkF m 36 #[.val (.int p0), .val (.int p1), .val (.int p2), .val (.int p3), .val (.int p4), .val (.int c0), .val (.int c1), .val (.int c2), .val (.int c3), .unset, .unset, .unset, .unset, .unset, .unset] [(.int (2147483647 : Int32)), (.int p4)])) _
  refine GoOn.step (fun tq kq => XS.iand X0.here hx rfl (hb hby at_36) rfl kq) ?_
  show GoOn p e below (s₁.setTop (mkF m 37 #[.val (.int p0), .val (.int p1), .val (.int p2), .val (.int p3), .val (.int p4), .val (.int c0), .val (.int c1), .val (.int c2), .val (.int c3), .unset, .unset, .unset, .unset, .unset, .unset] [(.int (p4 &&& (2147483647 : Int32)))])) _
  refine GoOn.step (fun tq kq => XS.iconst X0.here hx rfl (hb hby at_37) kq) ?_
  show GoOn p e below (s₁.setTop (mkF m 38 #[.val (.int p0), .val (.int p1), .val (.int p2), .val (.int p3), .val (.int p4), .val (.int c0), .val (.int c1), .val (.int c2), .val (.int c3), .unset, .unset, .unset, .unset, .unset, .unset] [(.int (3 : Int32)), (.int (p4 &&& (2147483647 : Int32)))])) _
  refine GoOn.step (fun tq kq => Jvm.RoadKit.iremM (g := (mkF m 38 #[.val (.int p0), .val (.int p1), .val (.int p2), .val (.int p3), .val (.int p4), .val (.int c0), .val (.int c1), .val (.int c2), .val (.int c3), .unset, .unset, .unset, .unset, .unset, .unset] [(.int (3 : Int32)), (.int (p4 &&& (2147483647 : Int32)))])) X0 hx rfl (hb hby at_38) rfl (by decide) kq) ?_
  show GoOn p e below (s₁.setTop (mkF m 39 #[.val (.int p0), .val (.int p1), .val (.int p2), .val (.int p3), .val (.int p4), .val (.int c0), .val (.int c1), .val (.int c2), .val (.int c3), .unset, .unset, .unset, .unset, .unset, .unset] [(.int ((p4 &&& (2147483647 : Int32)) % (3 : Int32)))])) _
  refine GoOn.step (fun tq kq => XS.istore X0.here hx rfl (hb hby at_39) rfl (l' := #[.val (.int p0), .val (.int p1), .val (.int p2), .val (.int p3), .val (.int p4), .val (.int c0), .val (.int c1), .val (.int c2), .val (.int c3), .val (.int ((p4 &&& (2147483647 : Int32)) % (3 : Int32))), .unset, .unset, .unset, .unset, .unset]) rfl kq) ?_
  show GoOn p e below (s₁.setTop (mkF m 41 #[.val (.int p0), .val (.int p1), .val (.int p2), .val (.int p3), .val (.int p4), .val (.int c0), .val (.int c1), .val (.int c2), .val (.int c3), .val (.int ((p4 &&& (2147483647 : Int32)) % (3 : Int32))), .unset, .unset, .unset, .unset, .unset] [])) _
  have hfl := own_r3 p4
  generalize hgf : ((p4 &&& (2147483647 : Int32)) % (3 : Int32)) = fl
  show GoOn p e below (s₁.setTop (mkF m 41 #[.val (.int p0), .val (.int p1), .val (.int p2), .val (.int p3), .val (.int p4), .val (.int c0), .val (.int c1), .val (.int c2), .val (.int c3), .val (.int fl), .unset, .unset, .unset, .unset, .unset] [])) _
  rw [hgf] at hfl
  refine GoOn.step (fun tq kq => XS.iload X0.here hx rfl (hb hby at_41) rfl kq) ?_
  show GoOn p e below (s₁.setTop (mkF m 43 #[.val (.int p0), .val (.int p1), .val (.int p2), .val (.int p3), .val (.int p4), .val (.int c0), .val (.int c1), .val (.int c2), .val (.int c3), .val (.int fl), .unset, .unset, .unset, .unset, .unset] [(.int p4)])) _
  refine GoOn.step (fun tq kq => XS.bipush X0.here hx rfl (hb hby at_43) kq) ?_
  show GoOn p e below (s₁.setTop (mkF m 45 #[.val (.int p0), .val (.int p1), .val (.int p2), .val (.int p3), .val (.int p4), .val (.int c0), .val (.int c1), .val (.int c2), .val (.int c3), .val (.int fl), .unset, .unset, .unset, .unset, .unset] [(.int (8 : Int32)), (.int p4)])) _
  refine GoOn.step (fun tq kq => XS.iushr X0.here hx rfl (hb hby at_45) rfl kq) ?_
  show GoOn p e below (s₁.setTop (mkF m 46 #[.val (.int p0), .val (.int p1), .val (.int p2), .val (.int p3), .val (.int p4), .val (.int c0), .val (.int c1), .val (.int c2), .val (.int c3), .val (.int fl), .unset, .unset, .unset, .unset, .unset] [(.int (((p4).toUInt32 >>> ((8 : Int32) &&& 31).toUInt32).toInt32))])) _
  refine GoOn.step (fun tq kq => X0.ldcInt hx hown (mvT hZ (hw _ (List.mem_of_getElem? (i := 0) rfl))) (g := (mkF m 46 #[.val (.int p0), .val (.int p1), .val (.int p2), .val (.int p3), .val (.int p4), .val (.int c0), .val (.int c1), .val (.int c2), .val (.int c3), .val (.int fl), .unset, .unset, .unset, .unset, .unset] [(.int (((p4).toUInt32 >>> ((8 : Int32) &&& 31).toUInt32).toInt32))])) rfl (hb hby at_46) _ kq) ?_
  show GoOn p e below (s₁.setTop (mkF m 48 #[.val (.int p0), .val (.int p1), .val (.int p2), .val (.int p3), .val (.int p4), .val (.int c0), .val (.int c1), .val (.int c2), .val (.int c3), .val (.int fl), .unset, .unset, .unset, .unset, .unset] [(.int (2147483647 : Int32)), (.int (((p4).toUInt32 >>> ((8 : Int32) &&& 31).toUInt32).toInt32))])) _
  refine GoOn.step (fun tq kq => XS.iand X0.here hx rfl (hb hby at_48) rfl kq) ?_
  show GoOn p e below (s₁.setTop (mkF m 49 #[.val (.int p0), .val (.int p1), .val (.int p2), .val (.int p3), .val (.int p4), .val (.int c0), .val (.int c1), .val (.int c2), .val (.int c3), .val (.int fl), .unset, .unset, .unset, .unset, .unset] [(.int ((((p4).toUInt32 >>> ((8 : Int32) &&& 31).toUInt32).toInt32) &&& (2147483647 : Int32)))])) _
  refine GoOn.step (fun tq kq => XS.iconst X0.here hx rfl (hb hby at_49) kq) ?_
  show GoOn p e below (s₁.setTop (mkF m 50 #[.val (.int p0), .val (.int p1), .val (.int p2), .val (.int p3), .val (.int p4), .val (.int c0), .val (.int c1), .val (.int c2), .val (.int c3), .val (.int fl), .unset, .unset, .unset, .unset, .unset] [(.int (3 : Int32)), (.int ((((p4).toUInt32 >>> ((8 : Int32) &&& 31).toUInt32).toInt32) &&& (2147483647 : Int32)))])) _
  refine GoOn.step (fun tq kq => Jvm.RoadKit.iremM (g := (mkF m 50 #[.val (.int p0), .val (.int p1), .val (.int p2), .val (.int p3), .val (.int p4), .val (.int c0), .val (.int c1), .val (.int c2), .val (.int c3), .val (.int fl), .unset, .unset, .unset, .unset, .unset] [(.int (3 : Int32)), (.int ((((p4).toUInt32 >>> ((8 : Int32) &&& 31).toUInt32).toInt32) &&& (2147483647 : Int32)))])) X0 hx rfl (hb hby at_50) rfl (by decide) kq) ?_
  show GoOn p e below (s₁.setTop (mkF m 51 #[.val (.int p0), .val (.int p1), .val (.int p2), .val (.int p3), .val (.int p4), .val (.int c0), .val (.int c1), .val (.int c2), .val (.int c3), .val (.int fl), .unset, .unset, .unset, .unset, .unset] [(.int (((((p4).toUInt32 >>> ((8 : Int32) &&& 31).toUInt32).toInt32) &&& (2147483647 : Int32)) % (3 : Int32)))])) _
  refine GoOn.step (fun tq kq => XS.istore X0.here hx rfl (hb hby at_51) rfl (l' := #[.val (.int p0), .val (.int p1), .val (.int p2), .val (.int p3), .val (.int p4), .val (.int c0), .val (.int c1), .val (.int c2), .val (.int c3), .val (.int fl), .val (.int (((((p4).toUInt32 >>> ((8 : Int32) &&& 31).toUInt32).toInt32) &&& (2147483647 : Int32)) % (3 : Int32))), .unset, .unset, .unset, .unset]) rfl kq) ?_
  show GoOn p e below (s₁.setTop (mkF m 53 #[.val (.int p0), .val (.int p1), .val (.int p2), .val (.int p3), .val (.int p4), .val (.int c0), .val (.int c1), .val (.int c2), .val (.int c3), .val (.int fl), .val (.int (((((p4).toUInt32 >>> ((8 : Int32) &&& 31).toUInt32).toInt32) &&& (2147483647 : Int32)) % (3 : Int32))), .unset, .unset, .unset, .unset] [])) _
  have hpl := own_r3 (((p4).toUInt32 >>> ((8 : Int32) &&& 31).toUInt32).toInt32)
  generalize hgp : (((((p4).toUInt32 >>> ((8 : Int32) &&& 31).toUInt32).toInt32) &&& (2147483647 : Int32)) % (3 : Int32)) = pl
  show GoOn p e below (s₁.setTop (mkF m 53 #[.val (.int p0), .val (.int p1), .val (.int p2), .val (.int p3), .val (.int p4), .val (.int c0), .val (.int c1), .val (.int c2), .val (.int c3), .val (.int fl), .val (.int pl), .unset, .unset, .unset, .unset] [])) _
  rw [hgp] at hpl
  refine GoOn.step (fun tq kq => XS.iload X0.here hx rfl (hb hby at_53) rfl kq) ?_
  show GoOn p e below (s₁.setTop (mkF m 55 #[.val (.int p0), .val (.int p1), .val (.int p2), .val (.int p3), .val (.int p4), .val (.int c0), .val (.int c1), .val (.int c2), .val (.int c3), .val (.int fl), .val (.int pl), .unset, .unset, .unset, .unset] [(.int fl)])) _
  refine GoOn.step (fun tq kq => XS.iload X0.here hx rfl (hb hby at_55) rfl kq) ?_
  show GoOn p e below (s₁.setTop (mkF m 57 #[.val (.int p0), .val (.int p1), .val (.int p2), .val (.int p3), .val (.int p4), .val (.int c0), .val (.int c1), .val (.int c2), .val (.int c3), .val (.int fl), .val (.int pl), .unset, .unset, .unset, .unset] [(.int c0), (.int fl)])) _
  refine GoOn.step (fun tq kq => XS.iload X0.here hx rfl (hb hby at_57) rfl kq) ?_
  show GoOn p e below (s₁.setTop (mkF m 59 #[.val (.int p0), .val (.int p1), .val (.int p2), .val (.int p3), .val (.int p4), .val (.int c0), .val (.int c1), .val (.int c2), .val (.int c3), .val (.int fl), .val (.int pl), .unset, .unset, .unset, .unset] [(.int c1), (.int c0), (.int fl)])) _
  obtain ⟨_, _, ⟨T691, L691, k691, n691⟩, -, X691, hS691, hg691, ⟨Lc691, hQ691, l691, y691, z691, Cn691⟩, st691⟩ := Jvm.RoadKit.callSS X0 hx (y := (⟨"com/example/faktorwerk/faktorwerk/model/InputRefusedExceptionInFilePinLaw", "mk", "(ICC)Ljava/lang/String;"⟩ : MethodName)) hown (mvT hZ (hw _ (List.mem_of_getElem? (i := 1) rfl))) (mvT hZ (hw _ (List.mem_of_getElem? (i := 2) rfl))) (mvT hZ (hw _ (List.mem_of_getElem? (i := 3) rfl))) (mvT hZ (hw _ (List.mem_of_getElem? (i := 4) rfl))) (by decide) (backOfSH (W := 0) (rmMk l Z a0 hw fl c0 c1 G1 h0 n0 Z0 hc0 hc1 SC PC O0) hZ (hw _ (List.mem_of_getElem? (i := 4) rfl)) (hw _ (List.mem_of_getElem? (i := 3) rfl)) (by decide) (by decide) hEL C0.1) (g := (mkF m 59 #[.val (.int p0), .val (.int p1), .val (.int p2), .val (.int p3), .val (.int p4), .val (.int c0), .val (.int c1), .val (.int c2), .val (.int c3), .val (.int fl), .val (.int pl), .unset, .unset, .unset, .unset] [(.int c1), (.int c0), (.int fl)])) rfl (by rw [hml]; rfl) (argsL := [(.int fl), (.int c0), (.int c1)]) (rest := []) (lenOf own_pd366 rfl) rfl (by show 2 * 0 + _ ≤ _; exact Nat.le_of_eq rfl) (hb hby at_59) (fun _ _ => ⟨rfl, e0, (by decide : 0 + 6 ≤ _), (by decide : 0 + 12 ≤ _)⟩)
  dsimp only [Pt.U, Pt.locs, Pt.cells, Pt.slots] at X691 l691 y691 z691 st691 hQ691 hS691 hg691 Cn691
  subst l691 y691 z691
  obtain ⟨sa691, rfl, N691, K691, S691⟩ := hQ691
  refine GoOn.trans st691 ?_
  replace X691 : Stand p l e _ (s.setVm T691.vm) m _ below meth c T691 _ _ _ := X691
  have hZ691 : Z.Warmed39 (s.setVm T691.vm).vm := State.Warmed39.trans (t := (s.setVm s.vm)) hZ hS691.1
  have hown691 : (s.setVm T691.vm).vm.findClass "com/example/faktorwerk/faktorwerk/model/InputRefusedExceptionInFilePinLaw" = some m.cls := by rw [show (s.setVm T691.vm).vm = T691.vm from rfl, hS691.1.alike.findClass]; exact hown
  have hSn691 : s.Since T691.vm T691.heap.size := foldS hS0 (by rw [e0]; exact hk0) hS691 hg691
  have hk691 : T691.heap.size ≤ T691.heap.size := Nat.le_refl _
  have N692 := Fr.app N0 N691
  have O693 : Old Z n0 T691.heap := O0.keep K691 all0
  have Z694 : n0 ≤ T691.heap.size := Nat.le_trans Z0 K691.1
  have K695 : Keep h0 T691.heap [] := K0.trans K691 all0
  have C696 : CHr Z own_EL s.vm h0 T691.vm T691.heap := CHr.trans C0 Cn691
  show GoOn p e below (T691.setTop (mkF m 62 #[.val (.int p0), .val (.int p1), .val (.int p2), .val (.int p3), .val (.int p4), .val (.int c0), .val (.int c1), .val (.int c2), .val (.int c3), .val (.int fl), .val (.int pl), .unset, .unset, .unset, .unset] [(.ref sa691)])) _
  refine GoOn.step (fun tq kq => XS.astore X691.here hx rfl (hb hby at_62) rfl rfl (l' := #[.val (.int p0), .val (.int p1), .val (.int p2), .val (.int p3), .val (.int p4), .val (.int c0), .val (.int c1), .val (.int c2), .val (.int c3), .val (.int fl), .val (.int pl), .val (.ref sa691), .unset, .unset, .unset]) rfl kq) ?_
  show GoOn p e below (T691.setTop (mkF m 64 #[.val (.int p0), .val (.int p1), .val (.int p2), .val (.int p3), .val (.int p4), .val (.int c0), .val (.int c1), .val (.int c2), .val (.int c3), .val (.int fl), .val (.int pl), .val (.ref sa691), .unset, .unset, .unset] [])) _
  refine GoOn.step (fun tq kq => XS.iload X691.here hx rfl (hb hby at_64) rfl kq) ?_
  show GoOn p e below (T691.setTop (mkF m 66 #[.val (.int p0), .val (.int p1), .val (.int p2), .val (.int p3), .val (.int p4), .val (.int c0), .val (.int c1), .val (.int c2), .val (.int c3), .val (.int fl), .val (.int pl), .val (.ref sa691), .unset, .unset, .unset] [(.int pl)])) _
  refine GoOn.step (fun tq kq => XS.iload X691.here hx rfl (hb hby at_66) rfl kq) ?_
  show GoOn p e below (T691.setTop (mkF m 68 #[.val (.int p0), .val (.int p1), .val (.int p2), .val (.int p3), .val (.int p4), .val (.int c0), .val (.int c1), .val (.int c2), .val (.int c3), .val (.int fl), .val (.int pl), .val (.ref sa691), .unset, .unset, .unset] [(.int c2), (.int pl)])) _
  refine GoOn.step (fun tq kq => XS.iload X691.here hx rfl (hb hby at_68) rfl kq) ?_
  show GoOn p e below (T691.setTop (mkF m 70 #[.val (.int p0), .val (.int p1), .val (.int p2), .val (.int p3), .val (.int p4), .val (.int c0), .val (.int c1), .val (.int c2), .val (.int c3), .val (.int fl), .val (.int pl), .val (.ref sa691), .unset, .unset, .unset] [(.int c3), (.int c2), (.int pl)])) _
  obtain ⟨_, _, ⟨T697, L697, k697, n697⟩, -, X697, hS697, hg697, ⟨Lc697, hQ697, l697, y697, z697, Cn697⟩, st697⟩ := Jvm.RoadKit.callSS X691 hx (y := (⟨"com/example/faktorwerk/faktorwerk/model/InputRefusedExceptionInFilePinLaw", "mk", "(ICC)Ljava/lang/String;"⟩ : MethodName)) hown691 (mvT hZ691 (hw _ (List.mem_of_getElem? (i := 1) rfl))) (mvT hZ691 (hw _ (List.mem_of_getElem? (i := 2) rfl))) (mvT hZ691 (hw _ (List.mem_of_getElem? (i := 3) rfl))) (mvT hZ691 (hw _ (List.mem_of_getElem? (i := 4) rfl))) (by decide) (backOfSH (W := 0) (rmMk l Z a0 hw pl c2 c3 G1 T691.heap n0 Z694 hc2 hc3 SC PC O693) hZ691 (hw _ (List.mem_of_getElem? (i := 4) rfl)) (hw _ (List.mem_of_getElem? (i := 3) rfl)) (by decide) (by decide) hEL C696.1) (g := (mkF m 70 #[.val (.int p0), .val (.int p1), .val (.int p2), .val (.int p3), .val (.int p4), .val (.int c0), .val (.int c1), .val (.int c2), .val (.int c3), .val (.int fl), .val (.int pl), .val (.ref sa691), .unset, .unset, .unset] [(.int c3), (.int c2), (.int pl)])) rfl (by rw [hml]; rfl) (argsL := [(.int pl), (.int c2), (.int c3)]) (rest := []) (lenOf own_pd366 rfl) rfl (by show 2 * 0 + _ ≤ _; exact Nat.le_of_eq rfl) (hb hby at_70) (fun _ _ => ⟨rfl, rfl, (by decide : 6 + 6 ≤ _), (by decide : 12 + 12 ≤ _)⟩)
  dsimp only [Pt.U, Pt.locs, Pt.cells, Pt.slots] at X697 l697 y697 z697 st697 hQ697 hS697 hg697 Cn697
  subst l697 y697 z697
  obtain ⟨sa697, rfl, N697, K697, S697⟩ := hQ697
  refine GoOn.trans st697 ?_
  replace X697 : Stand p l e _ (s.setVm T697.vm) m _ below meth c T697 _ _ _ := X697
  have hZ697 : Z.Warmed39 (s.setVm T697.vm).vm := State.Warmed39.trans (t := (s.setVm T691.vm)) hZ691 hS697.1
  have hown697 : (s.setVm T697.vm).vm.findClass "com/example/faktorwerk/faktorwerk/model/InputRefusedExceptionInFilePinLaw" = some m.cls := by rw [show (s.setVm T697.vm).vm = T697.vm from rfl, hS697.1.alike.findClass]; exact hown691
  have hSn697 : s.Since T697.vm T697.heap.size := foldS hSn691 hk691 hS697 hg697
  have hk697 : T697.heap.size ≤ T697.heap.size := Nat.le_refl _
  have N698 := Fr.app N692 N697
  have O699 : Old Z n0 T697.heap := O693.keep K697 all0
  have Z700 : n0 ≤ T697.heap.size := Nat.le_trans Z694 K697.1
  have K701 : Keep h0 T697.heap [] := K695.trans K697 all0
  have C702 : CHr Z own_EL s.vm h0 T697.vm T697.heap := CHr.trans C696 Cn697
  have Sr703 : StrIs Z T697.heap sa691 (if fl = 0 then ([] : List Int32) else if fl = 1 then [c0] else [c0, c1]) := S691.keep0 K697
  show GoOn p e below (T697.setTop (mkF m 73 #[.val (.int p0), .val (.int p1), .val (.int p2), .val (.int p3), .val (.int p4), .val (.int c0), .val (.int c1), .val (.int c2), .val (.int c3), .val (.int fl), .val (.int pl), .val (.ref sa691), .unset, .unset, .unset] [(.ref sa697)])) _
  refine GoOn.step (fun tq kq => XS.astore X697.here hx rfl (hb hby at_73) rfl rfl (l' := #[.val (.int p0), .val (.int p1), .val (.int p2), .val (.int p3), .val (.int p4), .val (.int c0), .val (.int c1), .val (.int c2), .val (.int c3), .val (.int fl), .val (.int pl), .val (.ref sa691), .val (.ref sa697), .unset, .unset]) rfl kq) ?_
  show GoOn p e below (T697.setTop (mkF m 75 #[.val (.int p0), .val (.int p1), .val (.int p2), .val (.int p3), .val (.int p4), .val (.int c0), .val (.int c1), .val (.int c2), .val (.int c3), .val (.int fl), .val (.int pl), .val (.ref sa691), .val (.ref sa697), .unset, .unset] [])) _
  refine GoOn.step (fun tq kq => XS.aload X697.here hx rfl (hb hby at_75) rfl rfl kq) ?_
  show GoOn p e below (T697.setTop (mkF m 77 #[.val (.int p0), .val (.int p1), .val (.int p2), .val (.int p3), .val (.int p4), .val (.int c0), .val (.int c1), .val (.int c2), .val (.int c3), .val (.int fl), .val (.int pl), .val (.ref sa691), .val (.ref sa697), .unset, .unset] [(.ref sa691)])) _
  refine GoOn.step (fun tq kq => XS.aload X697.here hx rfl (hb hby at_77) rfl rfl kq) ?_
  show GoOn p e below (T697.setTop (mkF m 79 #[.val (.int p0), .val (.int p1), .val (.int p2), .val (.int p3), .val (.int p4), .val (.int c0), .val (.int c1), .val (.int c2), .val (.int c3), .val (.int fl), .val (.int pl), .val (.ref sa691), .val (.ref sa697), .unset, .unset] [(.ref sa697), (.ref sa691)])) _
  obtain ⟨_, _, ⟨T704, L704, k704, n704⟩, -, X704, hS704, hg704, ⟨Lc704, hQ704, l704, y704, z704, Cn704⟩, st704⟩ := Jvm.RoadKit.callSS X697 hx (y := (⟨"com/example/faktorwerk/faktorwerk/model/InputRefusedException", "inFile", "(Ljava/lang/String;Ljava/lang/String;)Lcom/example/faktorwerk/faktorwerk/model/InputRefusedException;"⟩ : MethodName)) hown697 (mvT hZ697 (hw _ (List.mem_of_getElem? (i := 13) rfl))) (mvT hZ697 (hw _ (List.mem_of_getElem? (i := 14) rfl))) (mvT hZ697 (hw _ (List.mem_of_getElem? (i := 15) rfl))) (mvT hZ697 (hw _ (List.mem_of_getElem? (i := 16) rfl))) (by decide) (backOfSKH (W := 0) (rmIn l Z a0 hw sa691 sa697 (if fl = 0 then ([] : List Int32) else if fl = 1 then [c0] else [c0, c1]) (if pl = 0 then ([] : List Int32) else if pl = 1 then [c2] else [c2, c3]) G1 u0 w0 T697.heap n0 Z700 SC PC hST SU rU SS rS Sr703 S697 (own_mkl _ _ _) (own_mkl _ _ _) O699) hZ697 (hw _ (List.mem_of_getElem? (i := 16) rfl)) (hw _ (List.mem_of_getElem? (i := 15) rfl)) (by decide) (by decide) hEL C702.1 (Vm.MethodsKnown.alikeC hSn697.1.alike hK.1) (Vm.FramesKnown.alikeC hSn697.1.alike hK.2)) (g := (mkF m 79 #[.val (.int p0), .val (.int p1), .val (.int p2), .val (.int p3), .val (.int p4), .val (.int c0), .val (.int c1), .val (.int c2), .val (.int c3), .val (.int fl), .val (.int pl), .val (.ref sa691), .val (.ref sa697), .unset, .unset] [(.ref sa697), (.ref sa691)])) rfl (by rw [hml]; rfl) (argsL := [(.ref sa691), (.ref sa697)]) (rest := []) (lenOf own_pd367 rfl) rfl (by show 2 * 0 + _ ≤ _; exact Nat.le_of_eq rfl) (hb hby at_79) (fun _ _ => ⟨rfl, rfl, (by decide : 12 + 8 ≤ _), (by decide : 24 + 2848 ≤ _)⟩)
  dsimp only [Pt.U, Pt.locs, Pt.cells, Pt.slots] at X704 l704 y704 z704 st704 hQ704 hS704 hg704 Cn704
  subst l704 y704 z704
  obtain ⟨x704, m704, rfl, N704, K704, E704, Un704, Fu704, Fm704, S704⟩ := hQ704
  refine GoOn.trans st704 ?_
  replace X704 : Stand p l e _ (s.setVm T704.vm) m _ below meth c T704 _ _ _ := X704
  have hZ704 : Z.Warmed39 (s.setVm T704.vm).vm := State.Warmed39.trans (t := (s.setVm T697.vm)) hZ697 hS704.1
  have hown704 : (s.setVm T704.vm).vm.findClass "com/example/faktorwerk/faktorwerk/model/InputRefusedExceptionInFilePinLaw" = some m.cls := by rw [show (s.setVm T704.vm).vm = T704.vm from rfl, hS704.1.alike.findClass]; exact hown697
  have hSn704 : s.Since T704.vm T704.heap.size := foldS hSn697 hk697 hS704 hg704
  have hk704 : T704.heap.size ≤ T704.heap.size := Nat.le_refl _
  have N705 := Fr.app N698 N704
  have O706 : Old Z n0 T704.heap := O699.keep K704 all0
  have Z707 : n0 ≤ T704.heap.size := Nat.le_trans Z700 K704.1
  have K708 : Keep h0 T704.heap [] := K701.trans K704 all0
  have C709 : CHr Z own_EL s.vm h0 T704.vm T704.heap := CHr.trans C702 Cn704
  have Sr710 : StrIs Z T704.heap sa691 (if fl = 0 then ([] : List Int32) else if fl = 1 then [c0] else [c0, c1]) := Sr703.keep0 K704
  have Sr711 : StrIs Z T704.heap sa697 (if pl = 0 then ([] : List Int32) else if pl = 1 then [c2] else [c2, c3]) := S697.keep0 K704
  show GoOn p e below (T704.setTop (mkF m 82 #[.val (.int p0), .val (.int p1), .val (.int p2), .val (.int p3), .val (.int p4), .val (.int c0), .val (.int c1), .val (.int c2), .val (.int c3), .val (.int fl), .val (.int pl), .val (.ref sa691), .val (.ref sa697), .unset, .unset] [(.ref x704)])) _
  refine GoOn.step (fun tq kq => XS.astore X704.here hx rfl (hb hby at_82) rfl rfl (l' := #[.val (.int p0), .val (.int p1), .val (.int p2), .val (.int p3), .val (.int p4), .val (.int c0), .val (.int c1), .val (.int c2), .val (.int c3), .val (.int fl), .val (.int pl), .val (.ref sa691), .val (.ref sa697), .val (.ref x704), .unset]) rfl kq) ?_
  show GoOn p e below (T704.setTop (mkF m 84 #[.val (.int p0), .val (.int p1), .val (.int p2), .val (.int p3), .val (.int p4), .val (.int c0), .val (.int c1), .val (.int c2), .val (.int c3), .val (.int fl), .val (.int pl), .val (.ref sa691), .val (.ref sa697), .val (.ref x704), .unset] [])) _
  refine GoOn.step (fun tq kq => XS.aload X704.here hx rfl (hb hby at_84) rfl rfl kq) ?_
  show GoOn p e below (T704.setTop (mkF m 86 #[.val (.int p0), .val (.int p1), .val (.int p2), .val (.int p3), .val (.int p4), .val (.int c0), .val (.int c1), .val (.int c2), .val (.int c3), .val (.int fl), .val (.int pl), .val (.ref sa691), .val (.ref sa697), .val (.ref x704), .unset] [(.ref x704)])) _
  refine GoOn.step (fun tq kq => XS.ifnonnullYes X704.here hx rfl (pc0 := 86) (pc' := 91) rfl (hb hby at_86) rfl (by decide) (by decide) kq) ?_
  show GoOn p e below (T704.setTop (mkF m 91 #[.val (.int p0), .val (.int p1), .val (.int p2), .val (.int p3), .val (.int p4), .val (.int c0), .val (.int c1), .val (.int c2), .val (.int c3), .val (.int fl), .val (.int pl), .val (.ref sa691), .val (.ref sa697), .val (.ref x704), .unset] [])) _
  refine GoOn.step (fun tq kq => XS.aload X704.here hx rfl (hb hby at_91) rfl rfl kq) ?_
  show GoOn p e below (T704.setTop (mkF m 93 #[.val (.int p0), .val (.int p1), .val (.int p2), .val (.int p3), .val (.int p4), .val (.int c0), .val (.int c1), .val (.int c2), .val (.int c3), .val (.int fl), .val (.int pl), .val (.ref sa691), .val (.ref sa697), .val (.ref x704), .unset] [(.ref x704)])) _
  obtain ⟨cqc713, kqc713, qac713, qbc713, qcc713⟩ := isOf hZ704 rfl E704
  obtain ⟨_, _, ⟨T712, L712, k712, n712⟩, -, X712, ⟨Lc712, hQ712, l712, y712, z712⟩, st712⟩ := X704.virtualBackUp hx (x := (⟨"com/example/faktorwerk/faktorwerk/model/InputRefusedException", "getCause", "()Ljava/lang/Throwable;"⟩ : MethodName)) (y := (⟨"java/lang/Throwable", "getCause", "()Ljava/lang/Throwable;"⟩ : MethodName)) (owner := "java/lang/Throwable") hown704 (mvT hZ704 (hw _ (List.mem_of_getElem? (i := 188) rfl))) (mvT hZ704 (hw _ (List.mem_of_getElem? (i := 189) rfl))) (mvT hZ704 (hw _ (List.mem_of_getElem? (i := 190) rfl))) (by decide) (mvT hZ704 (hw _ (List.mem_of_getElem? (i := 192) rfl))) (mvT hZ704 (hw _ (List.mem_of_getElem? (i := 191) rfl))) (own_gc (n0 := n0) (W := 0) hZ704 (hw _ (List.mem_of_getElem? (i := 193) rfl)) (hw _ (List.mem_of_getElem? (i := 191) rfl)) (hw _ (List.mem_of_getElem? (i := 149) rfl)) (hw _ (List.mem_of_getElem? (i := 152) rfl)) Un704 Fu704 (by decide) (by decide)) qac713 qcc713 (g := (mkF m 93 #[.val (.int p0), .val (.int p1), .val (.int p2), .val (.int p3), .val (.int p4), .val (.int c0), .val (.int c1), .val (.int c2), .val (.int c3), .val (.int fl), .val (.int pl), .val (.ref sa691), .val (.ref sa697), .val (.ref x704), .unset] [(.ref x704)])) rfl (by rw [hml]; rfl) (Steps.refl _) (argsL := []) (rest := []) (lenOf own_pd15 rfl) rfl (by show 2 * 0 + _ ≤ _; exact Nat.le_of_eq rfl) (hb hby at_93) (fun _ _ => ⟨rfl, rfl, (by decide : 20 + 0 ≤ _), (by decide : 2872 + 0 ≤ _)⟩)
  dsimp only [Pt.U, Pt.locs, Pt.cells, Pt.slots] at X712 l712 y712 z712 st712 hQ712
  subst l712 y712 z712
  obtain ⟨rfl, N712, e712⟩ := hQ712
  refine GoOn.trans st712 ?_
  have N714 := Fr.app N705 N712
  show GoOn p e below (T712.setTop (mkF m 96 #[.val (.int p0), .val (.int p1), .val (.int p2), .val (.int p3), .val (.int p4), .val (.int c0), .val (.int c1), .val (.int c2), .val (.int c3), .val (.int fl), .val (.int pl), .val (.ref sa691), .val (.ref sa697), .val (.ref x704), .unset] [.null])) _
  refine GoOn.step (fun tq kq => XS.ifnullYes X712.here hx rfl (pc0 := 96) (pc' := 101) rfl (hb hby at_96) rfl (by decide) (by decide) kq) ?_
  show GoOn p e below (T712.setTop (mkF m 101 #[.val (.int p0), .val (.int p1), .val (.int p2), .val (.int p3), .val (.int p4), .val (.int c0), .val (.int c1), .val (.int c2), .val (.int c3), .val (.int fl), .val (.int pl), .val (.ref sa691), .val (.ref sa697), .val (.ref x704), .unset] [])) _
  refine GoOn.step (fun tq kq => XS.aload X712.here hx rfl (hb hby at_101) rfl rfl kq) ?_
  show GoOn p e below (T712.setTop (mkF m 103 #[.val (.int p0), .val (.int p1), .val (.int p2), .val (.int p3), .val (.int p4), .val (.int c0), .val (.int c1), .val (.int c2), .val (.int c3), .val (.int fl), .val (.int pl), .val (.ref sa691), .val (.ref sa697), .val (.ref x704), .unset] [(.ref x704)])) _
  obtain ⟨cqc716, kqc716, qac716, qbc716, qcc716⟩ := isOf hZ704 e712 E704
  obtain ⟨_, _, ⟨T715, L715, k715, n715⟩, -, X715, ⟨Lc715, hQ715, l715, y715, z715⟩, st715⟩ := X712.virtualBackUp hx (x := (⟨"com/example/faktorwerk/faktorwerk/model/InputRefusedException", "getMessage", "()Ljava/lang/String;"⟩ : MethodName)) (y := (⟨"java/lang/Throwable", "getMessage", "()Ljava/lang/String;"⟩ : MethodName)) (owner := "java/lang/Throwable") hown704 (mvT hZ704 (hw _ (List.mem_of_getElem? (i := 194) rfl))) (mvT hZ704 (hw _ (List.mem_of_getElem? (i := 195) rfl))) (mvT hZ704 (hw _ (List.mem_of_getElem? (i := 196) rfl))) (by decide) (mvT hZ704 (hw _ (List.mem_of_getElem? (i := 198) rfl))) (mvT hZ704 (hw _ (List.mem_of_getElem? (i := 197) rfl))) (backOf (W := 0) (rmGM l Z a0 hw x704 m704 T704.heap n0 Z707 Fm704) hZ704 (hw _ (List.mem_of_getElem? (i := 199) rfl)) (hw _ (List.mem_of_getElem? (i := 149) rfl)) (by decide) (by decide)) qac716 qcc716 (g := (mkF m 103 #[.val (.int p0), .val (.int p1), .val (.int p2), .val (.int p3), .val (.int p4), .val (.int c0), .val (.int c1), .val (.int c2), .val (.int c3), .val (.int fl), .val (.int pl), .val (.ref sa691), .val (.ref sa697), .val (.ref x704), .unset] [(.ref x704)])) rfl (by rw [hml]; rfl) (Steps.refl _) (argsL := []) (rest := []) (lenOf own_pd361 rfl) rfl (by show 2 * 0 + _ ≤ _; exact Nat.le_of_eq rfl) (hb hby at_103) (fun _ _ => ⟨rfl, e712, (by decide : 20 + 0 ≤ _), (by decide : 2872 + 0 ≤ _)⟩)
  dsimp only [Pt.U, Pt.locs, Pt.cells, Pt.slots] at X715 l715 y715 z715 st715 hQ715
  subst l715 y715 z715
  obtain ⟨rfl, N715, e715⟩ := hQ715
  refine GoOn.trans st715 ?_
  have N717 := Fr.app N714 N715
  show GoOn p e below (T715.setTop (mkF m 106 #[.val (.int p0), .val (.int p1), .val (.int p2), .val (.int p3), .val (.int p4), .val (.int c0), .val (.int c1), .val (.int c2), .val (.int c3), .val (.int fl), .val (.int pl), .val (.ref sa691), .val (.ref sa697), .val (.ref x704), .unset] [(.ref m704)])) _
  refine GoOn.step (fun tq kq => XS.astore X715.here hx rfl (hb hby at_106) rfl rfl (l' := #[.val (.int p0), .val (.int p1), .val (.int p2), .val (.int p3), .val (.int p4), .val (.int c0), .val (.int c1), .val (.int c2), .val (.int c3), .val (.int fl), .val (.int pl), .val (.ref sa691), .val (.ref sa697), .val (.ref x704), .val (.ref m704)]) rfl kq) ?_
  show GoOn p e below (T715.setTop (mkF m 108 #[.val (.int p0), .val (.int p1), .val (.int p2), .val (.int p3), .val (.int p4), .val (.int c0), .val (.int c1), .val (.int c2), .val (.int c3), .val (.int fl), .val (.int pl), .val (.ref sa691), .val (.ref sa697), .val (.ref x704), .val (.ref m704)] [])) _
  refine GoOn.step (fun tq kq => XS.aload X715.here hx rfl (hb hby at_108) rfl rfl kq) ?_
  show GoOn p e below (T715.setTop (mkF m 110 #[.val (.int p0), .val (.int p1), .val (.int p2), .val (.int p3), .val (.int p4), .val (.int c0), .val (.int c1), .val (.int c2), .val (.int c3), .val (.int fl), .val (.int pl), .val (.ref sa691), .val (.ref sa697), .val (.ref x704), .val (.ref m704)] [(.ref m704)])) _
  refine GoOn.step (fun tq kq => XS.ifnonnullYes X715.here hx rfl (pc0 := 110) (pc' := 115) rfl (hb hby at_110) rfl (by decide) (by decide) kq) ?_
  show GoOn p e below (T715.setTop (mkF m 115 #[.val (.int p0), .val (.int p1), .val (.int p2), .val (.int p3), .val (.int p4), .val (.int c0), .val (.int c1), .val (.int c2), .val (.int c3), .val (.int fl), .val (.int pl), .val (.ref sa691), .val (.ref sa697), .val (.ref x704), .val (.ref m704)] [])) _
  refine GoOn.step (fun tq kq => XS.aload X715.here hx rfl (hb hby at_115) rfl rfl kq) ?_
  show GoOn p e below (T715.setTop (mkF m 117 #[.val (.int p0), .val (.int p1), .val (.int p2), .val (.int p3), .val (.int p4), .val (.int c0), .val (.int c1), .val (.int c2), .val (.int c3), .val (.int fl), .val (.int pl), .val (.ref sa691), .val (.ref sa697), .val (.ref x704), .val (.ref m704)] [(.ref m704)])) _
  rcases hfl with hq | hq | hq <;> subst hq <;> rcases hpl with hr | hr | hr <;> subst hr
  · skip
    have Sr718 : StrIs Z T704.heap m704 ([58, 32] : List Int32) := S704
    show GoOn p e below (T715.setTop (mkF m 117 #[.val (.int p0), .val (.int p1), .val (.int p2), .val (.int p3), .val (.int p4), .val (.int c0), .val (.int c1), .val (.int c2), .val (.int c3), .val (.int (0 : Int32)), .val (.int (0 : Int32)), .val (.ref sa691), .val (.ref sa697), .val (.ref x704), .val (.ref m704)] [(.ref m704)])) _
    obtain ⟨cqc720, kqc720, qac720, qbc720, qcc720⟩ := isOf hZ704 e715 Sr718.1
    obtain ⟨_, _, ⟨T719, L719, k719, n719⟩, -, X719, ⟨Lc719, hQ719, l719, y719, z719⟩, st719⟩ := X715.virtualBack hx (y := (⟨"java/lang/String", "length", "()I"⟩ : MethodName)) (z := (⟨"java/lang/String", "length", "()I"⟩ : MethodName)) hown704 (mvT hZ704 (hw _ (List.mem_of_getElem? (i := 200) rfl))) (mvT hZ704 (hw _ (List.mem_of_getElem? (i := 50) rfl))) (notFace_of_selects (args := #[]) (mvT hZ704 (hw _ (List.mem_of_getElem? (i := 52) rfl)))) (mvT hZ704 (hw _ (List.mem_of_getElem? (i := 52) rfl))) (mvT hZ704 (hw _ (List.mem_of_getElem? (i := 51) rfl))) (by decide) (backOf (W := 0) (rmLen l Z a0 hw m704 ([58, 32] : List Int32) G1 T704.heap n0 Z707 SC PC Sr718 O706) hZ704 (hw _ (List.mem_of_getElem? (i := 53) rfl)) (hw _ (List.mem_of_getElem? (i := 6) rfl)) (by decide) (by decide)) qac720 qcc720 (g := (mkF m 117 #[.val (.int p0), .val (.int p1), .val (.int p2), .val (.int p3), .val (.int p4), .val (.int c0), .val (.int c1), .val (.int c2), .val (.int c3), .val (.int (0 : Int32)), .val (.int (0 : Int32)), .val (.ref sa691), .val (.ref sa697), .val (.ref x704), .val (.ref m704)] [(.ref m704)])) rfl (by rw [hml]; rfl) (Steps.refl _) (argsL := []) (rest := []) (lenOf own_pd181 rfl) rfl (by show 2 * 0 + _ ≤ _; exact Nat.le_of_eq rfl) (hb hby at_117) (fun _ _ => ⟨rfl, e715, (by decide : 20 + 0 ≤ _), (by decide : 2872 + 0 ≤ _)⟩)
    dsimp only [Pt.U, Pt.locs, Pt.cells, Pt.slots] at X719 l719 y719 z719 st719 hQ719
    subst l719 y719 z719
    obtain ⟨rfl, N719, e719⟩ := hQ719
    refine GoOn.trans st719 ?_
    have N721 := Fr.app N717 N719
    show GoOn p e below (T719.setTop (mkF m 120 #[.val (.int p0), .val (.int p1), .val (.int p2), .val (.int p3), .val (.int p4), .val (.int c0), .val (.int c1), .val (.int c2), .val (.int c3), .val (.int (0 : Int32)), .val (.int (0 : Int32)), .val (.ref sa691), .val (.ref sa697), .val (.ref x704), .val (.ref m704)] [(.int (2 : Int32))])) _
    refine GoOn.step (fun tq kq => XS.iload X719.here hx rfl (hb hby at_120) rfl kq) ?_
    show GoOn p e below (T719.setTop (mkF m 122 #[.val (.int p0), .val (.int p1), .val (.int p2), .val (.int p3), .val (.int p4), .val (.int c0), .val (.int c1), .val (.int c2), .val (.int c3), .val (.int (0 : Int32)), .val (.int (0 : Int32)), .val (.ref sa691), .val (.ref sa697), .val (.ref x704), .val (.ref m704)] [(.int (0 : Int32)), (.int (2 : Int32))])) _
    refine GoOn.step (fun tq kq => XS.iconst X719.here hx rfl (hb hby at_122) kq) ?_
    show GoOn p e below (T719.setTop (mkF m 123 #[.val (.int p0), .val (.int p1), .val (.int p2), .val (.int p3), .val (.int p4), .val (.int c0), .val (.int c1), .val (.int c2), .val (.int c3), .val (.int (0 : Int32)), .val (.int (0 : Int32)), .val (.ref sa691), .val (.ref sa697), .val (.ref x704), .val (.ref m704)] [(.int (2 : Int32)), (.int (0 : Int32)), (.int (2 : Int32))])) _
    refine GoOn.step (fun tq kq => XS.iadd X719.here hx rfl (hb hby at_123) rfl kq) ?_
    show GoOn p e below (T719.setTop (mkF m 124 #[.val (.int p0), .val (.int p1), .val (.int p2), .val (.int p3), .val (.int p4), .val (.int c0), .val (.int c1), .val (.int c2), .val (.int c3), .val (.int (0 : Int32)), .val (.int (0 : Int32)), .val (.ref sa691), .val (.ref sa697), .val (.ref x704), .val (.ref m704)] [(.int ((0 : Int32) + (2 : Int32))), (.int (2 : Int32))])) _
    refine GoOn.step (fun tq kq => XS.iload X719.here hx rfl (hb hby at_124) rfl kq) ?_
    show GoOn p e below (T719.setTop (mkF m 126 #[.val (.int p0), .val (.int p1), .val (.int p2), .val (.int p3), .val (.int p4), .val (.int c0), .val (.int c1), .val (.int c2), .val (.int c3), .val (.int (0 : Int32)), .val (.int (0 : Int32)), .val (.ref sa691), .val (.ref sa697), .val (.ref x704), .val (.ref m704)] [(.int (0 : Int32)), (.int ((0 : Int32) + (2 : Int32))), (.int (2 : Int32))])) _
    refine GoOn.step (fun tq kq => XS.iadd X719.here hx rfl (hb hby at_126) rfl kq) ?_
    show GoOn p e below (T719.setTop (mkF m 127 #[.val (.int p0), .val (.int p1), .val (.int p2), .val (.int p3), .val (.int p4), .val (.int c0), .val (.int c1), .val (.int c2), .val (.int c3), .val (.int (0 : Int32)), .val (.int (0 : Int32)), .val (.ref sa691), .val (.ref sa697), .val (.ref x704), .val (.ref m704)] [(.int (((0 : Int32) + (2 : Int32)) + (0 : Int32))), (.int (2 : Int32))])) _
    refine GoOn.step (fun tq kq => XS.icmpYes X719.here hx rfl (pc0 := 127) (pc' := 132) rfl (hb hby at_127) rfl (teq (by decide)).1 (by decide) (by decide) kq) ?_
    show GoOn p e below (T719.setTop (mkF m 132 #[.val (.int p0), .val (.int p1), .val (.int p2), .val (.int p3), .val (.int p4), .val (.int c0), .val (.int c1), .val (.int c2), .val (.int c3), .val (.int (0 : Int32)), .val (.int (0 : Int32)), .val (.ref sa691), .val (.ref sa697), .val (.ref x704), .val (.ref m704)] [])) _
    refine GoOn.step (fun tq kq => XS.iload X719.here hx rfl (hb hby at_132) rfl kq) ?_
    show GoOn p e below (T719.setTop (mkF m 134 #[.val (.int p0), .val (.int p1), .val (.int p2), .val (.int p3), .val (.int p4), .val (.int c0), .val (.int c1), .val (.int c2), .val (.int c3), .val (.int (0 : Int32)), .val (.int (0 : Int32)), .val (.ref sa691), .val (.ref sa697), .val (.ref x704), .val (.ref m704)] [(.int (0 : Int32))])) _
    refine GoOn.step (fun tq kq => XS.iconst X719.here hx rfl (hb hby at_134) kq) ?_
    show GoOn p e below (T719.setTop (mkF m 135 #[.val (.int p0), .val (.int p1), .val (.int p2), .val (.int p3), .val (.int p4), .val (.int c0), .val (.int c1), .val (.int c2), .val (.int c3), .val (.int (0 : Int32)), .val (.int (0 : Int32)), .val (.ref sa691), .val (.ref sa697), .val (.ref x704), .val (.ref m704)] [(.int (1 : Int32)), (.int (0 : Int32))])) _
    refine GoOn.step (fun tq kq => XS.icmpYes X719.here hx rfl (pc0 := 135) (pc' := 151) rfl (hb hby at_135) rfl (tlt (by decide)).1 (by decide) (by decide) kq) ?_
    show GoOn p e below (T719.setTop (mkF m 151 #[.val (.int p0), .val (.int p1), .val (.int p2), .val (.int p3), .val (.int p4), .val (.int c0), .val (.int c1), .val (.int c2), .val (.int c3), .val (.int (0 : Int32)), .val (.int (0 : Int32)), .val (.ref sa691), .val (.ref sa697), .val (.ref x704), .val (.ref m704)] [])) _
    refine GoOn.step (fun tq kq => XS.iload X719.here hx rfl (hb hby at_151) rfl kq) ?_
    show GoOn p e below (T719.setTop (mkF m 153 #[.val (.int p0), .val (.int p1), .val (.int p2), .val (.int p3), .val (.int p4), .val (.int c0), .val (.int c1), .val (.int c2), .val (.int c3), .val (.int (0 : Int32)), .val (.int (0 : Int32)), .val (.ref sa691), .val (.ref sa697), .val (.ref x704), .val (.ref m704)] [(.int (0 : Int32))])) _
    refine GoOn.step (fun tq kq => XS.iconst X719.here hx rfl (hb hby at_153) kq) ?_
    show GoOn p e below (T719.setTop (mkF m 154 #[.val (.int p0), .val (.int p1), .val (.int p2), .val (.int p3), .val (.int p4), .val (.int c0), .val (.int c1), .val (.int c2), .val (.int c3), .val (.int (0 : Int32)), .val (.int (0 : Int32)), .val (.ref sa691), .val (.ref sa697), .val (.ref x704), .val (.ref m704)] [(.int (2 : Int32)), (.int (0 : Int32))])) _
    refine GoOn.step (fun tq kq => XS.icmpYes X719.here hx rfl (pc0 := 154) (pc' := 170) rfl (hb hby at_154) rfl (tlt (by decide)).1 (by decide) (by decide) kq) ?_
    show GoOn p e below (T719.setTop (mkF m 170 #[.val (.int p0), .val (.int p1), .val (.int p2), .val (.int p3), .val (.int p4), .val (.int c0), .val (.int c1), .val (.int c2), .val (.int c3), .val (.int (0 : Int32)), .val (.int (0 : Int32)), .val (.ref sa691), .val (.ref sa697), .val (.ref x704), .val (.ref m704)] [])) _
    refine GoOn.step (fun tq kq => XS.aload X719.here hx rfl (hb hby at_170) rfl rfl kq) ?_
    show GoOn p e below (T719.setTop (mkF m 172 #[.val (.int p0), .val (.int p1), .val (.int p2), .val (.int p3), .val (.int p4), .val (.int c0), .val (.int c1), .val (.int c2), .val (.int c3), .val (.int (0 : Int32)), .val (.int (0 : Int32)), .val (.ref sa691), .val (.ref sa697), .val (.ref x704), .val (.ref m704)] [(.ref m704)])) _
    refine GoOn.step (fun tq kq => XS.iload X719.here hx rfl (hb hby at_172) rfl kq) ?_
    show GoOn p e below (T719.setTop (mkF m 174 #[.val (.int p0), .val (.int p1), .val (.int p2), .val (.int p3), .val (.int p4), .val (.int c0), .val (.int c1), .val (.int c2), .val (.int c3), .val (.int (0 : Int32)), .val (.int (0 : Int32)), .val (.ref sa691), .val (.ref sa697), .val (.ref x704), .val (.ref m704)] [(.int (0 : Int32)), (.ref m704)])) _
    obtain ⟨cqc723, kqc723, qac723, qbc723, qcc723⟩ := isOf hZ704 e719 Sr718.1
    obtain ⟨_, _, ⟨T722, L722, k722, n722⟩, -, X722, ⟨Lc722, hQ722, l722, y722, z722⟩, st722⟩ := X719.virtualBack hx (y := (⟨"java/lang/String", "charAt", "(I)C"⟩ : MethodName)) (z := (⟨"java/lang/String", "charAt", "(I)C"⟩ : MethodName)) hown704 (mvT hZ704 (hw _ (List.mem_of_getElem? (i := 201) rfl))) (mvT hZ704 (hw _ (List.mem_of_getElem? (i := 202) rfl))) (notFace_of_selects (args := #[]) (mvT hZ704 (hw _ (List.mem_of_getElem? (i := 204) rfl)))) (mvT hZ704 (hw _ (List.mem_of_getElem? (i := 204) rfl))) (mvT hZ704 (hw _ (List.mem_of_getElem? (i := 203) rfl))) (by decide) (own_chS (n0 := n0) (W := 0) hZ704 hch (kI := 4) (hw _ (List.mem_of_getElem? (i := 7) rfl)) Sr718 (SC.ext O706.2) PC (SF.ext O706.2) rG3 0 (Nat.le_of_ble_eq_true rfl) (by decide) (by decide) (by decide)) qac723 qcc723 (g := (mkF m 174 #[.val (.int p0), .val (.int p1), .val (.int p2), .val (.int p3), .val (.int p4), .val (.int c0), .val (.int c1), .val (.int c2), .val (.int c3), .val (.int (0 : Int32)), .val (.int (0 : Int32)), .val (.ref sa691), .val (.ref sa697), .val (.ref x704), .val (.ref m704)] [(.int (0 : Int32)), (.ref m704)])) rfl (by rw [hml]; rfl) (Steps.refl _) (argsL := [(.int (0 : Int32))]) (rest := []) (lenOf own_pd368 rfl) rfl (by show 2 * 0 + _ ≤ _; exact Nat.le_of_eq rfl) (hb hby at_174) (fun _ _ => ⟨rfl, e719, (by decide : 20 + 0 ≤ _), (by decide : 2872 + 0 ≤ _)⟩)
    dsimp only [Pt.U, Pt.locs, Pt.cells, Pt.slots] at X722 l722 y722 z722 st722 hQ722
    subst l722 y722 z722
    obtain ⟨rfl, N722, e722⟩ := hQ722
    refine GoOn.trans st722 ?_
    have N724 := Fr.app N721 N722
    show GoOn p e below (T722.setTop (mkF m 177 #[.val (.int p0), .val (.int p1), .val (.int p2), .val (.int p3), .val (.int p4), .val (.int c0), .val (.int c1), .val (.int c2), .val (.int c3), .val (.int (0 : Int32)), .val (.int (0 : Int32)), .val (.ref sa691), .val (.ref sa697), .val (.ref x704), .val (.ref m704)] [(.int (58 : Int32))])) _
    refine GoOn.step (fun tq kq => XS.bipush X722.here hx rfl (hb hby at_177) kq) ?_
    show GoOn p e below (T722.setTop (mkF m 179 #[.val (.int p0), .val (.int p1), .val (.int p2), .val (.int p3), .val (.int p4), .val (.int c0), .val (.int c1), .val (.int c2), .val (.int c3), .val (.int (0 : Int32)), .val (.int (0 : Int32)), .val (.ref sa691), .val (.ref sa697), .val (.ref x704), .val (.ref m704)] [(.int (58 : Int32)), (.int (58 : Int32))])) _
    refine GoOn.step (fun tq kq => XS.icmpYes X722.here hx rfl (pc0 := 179) (pc' := 184) rfl (hb hby at_179) rfl (teq rfl).1 (by decide) (by decide) kq) ?_
    show GoOn p e below (T722.setTop (mkF m 184 #[.val (.int p0), .val (.int p1), .val (.int p2), .val (.int p3), .val (.int p4), .val (.int c0), .val (.int c1), .val (.int c2), .val (.int c3), .val (.int (0 : Int32)), .val (.int (0 : Int32)), .val (.ref sa691), .val (.ref sa697), .val (.ref x704), .val (.ref m704)] [])) _
    refine GoOn.step (fun tq kq => XS.aload X722.here hx rfl (hb hby at_184) rfl rfl kq) ?_
    show GoOn p e below (T722.setTop (mkF m 186 #[.val (.int p0), .val (.int p1), .val (.int p2), .val (.int p3), .val (.int p4), .val (.int c0), .val (.int c1), .val (.int c2), .val (.int c3), .val (.int (0 : Int32)), .val (.int (0 : Int32)), .val (.ref sa691), .val (.ref sa697), .val (.ref x704), .val (.ref m704)] [(.ref m704)])) _
    refine GoOn.step (fun tq kq => XS.iload X722.here hx rfl (hb hby at_186) rfl kq) ?_
    show GoOn p e below (T722.setTop (mkF m 188 #[.val (.int p0), .val (.int p1), .val (.int p2), .val (.int p3), .val (.int p4), .val (.int c0), .val (.int c1), .val (.int c2), .val (.int c3), .val (.int (0 : Int32)), .val (.int (0 : Int32)), .val (.ref sa691), .val (.ref sa697), .val (.ref x704), .val (.ref m704)] [(.int (0 : Int32)), (.ref m704)])) _
    refine GoOn.step (fun tq kq => XS.iconst X722.here hx rfl (hb hby at_188) kq) ?_
    show GoOn p e below (T722.setTop (mkF m 189 #[.val (.int p0), .val (.int p1), .val (.int p2), .val (.int p3), .val (.int p4), .val (.int c0), .val (.int c1), .val (.int c2), .val (.int c3), .val (.int (0 : Int32)), .val (.int (0 : Int32)), .val (.ref sa691), .val (.ref sa697), .val (.ref x704), .val (.ref m704)] [(.int (1 : Int32)), (.int (0 : Int32)), (.ref m704)])) _
    refine GoOn.step (fun tq kq => XS.iadd X722.here hx rfl (hb hby at_189) rfl kq) ?_
    show GoOn p e below (T722.setTop (mkF m 190 #[.val (.int p0), .val (.int p1), .val (.int p2), .val (.int p3), .val (.int p4), .val (.int c0), .val (.int c1), .val (.int c2), .val (.int c3), .val (.int (0 : Int32)), .val (.int (0 : Int32)), .val (.ref sa691), .val (.ref sa697), .val (.ref x704), .val (.ref m704)] [(.int ((0 : Int32) + (1 : Int32))), (.ref m704)])) _
    obtain ⟨cqc726, kqc726, qac726, qbc726, qcc726⟩ := isOf hZ704 e722 Sr718.1
    obtain ⟨_, _, ⟨T725, L725, k725, n725⟩, -, X725, ⟨Lc725, hQ725, l725, y725, z725⟩, st725⟩ := X722.virtualBack hx (y := (⟨"java/lang/String", "charAt", "(I)C"⟩ : MethodName)) (z := (⟨"java/lang/String", "charAt", "(I)C"⟩ : MethodName)) hown704 (mvT hZ704 (hw _ (List.mem_of_getElem? (i := 201) rfl))) (mvT hZ704 (hw _ (List.mem_of_getElem? (i := 202) rfl))) (notFace_of_selects (args := #[]) (mvT hZ704 (hw _ (List.mem_of_getElem? (i := 204) rfl)))) (mvT hZ704 (hw _ (List.mem_of_getElem? (i := 204) rfl))) (mvT hZ704 (hw _ (List.mem_of_getElem? (i := 203) rfl))) (by decide) (own_chS (n0 := n0) (W := 0) hZ704 hch (kI := 4) (hw _ (List.mem_of_getElem? (i := 7) rfl)) Sr718 (SC.ext O706.2) PC (SF.ext O706.2) rG3 1 (Nat.le_of_ble_eq_true rfl) (by decide) (by decide) (by decide)) qac726 qcc726 (g := (mkF m 190 #[.val (.int p0), .val (.int p1), .val (.int p2), .val (.int p3), .val (.int p4), .val (.int c0), .val (.int c1), .val (.int c2), .val (.int c3), .val (.int (0 : Int32)), .val (.int (0 : Int32)), .val (.ref sa691), .val (.ref sa697), .val (.ref x704), .val (.ref m704)] [(.int ((0 : Int32) + (1 : Int32))), (.ref m704)])) rfl (by rw [hml]; rfl) (Steps.refl _) (argsL := [(.int ((0 : Int32) + (1 : Int32)))]) (rest := []) (lenOf own_pd368 rfl) rfl (by show 2 * 0 + _ ≤ _; exact Nat.le_of_eq rfl) (hb hby at_190) (fun _ _ => ⟨rfl, e722, (by decide : 20 + 0 ≤ _), (by decide : 2872 + 0 ≤ _)⟩)
    dsimp only [Pt.U, Pt.locs, Pt.cells, Pt.slots] at X725 l725 y725 z725 st725 hQ725
    subst l725 y725 z725
    obtain ⟨rfl, N725, e725⟩ := hQ725
    refine GoOn.trans st725 ?_
    have N727 := Fr.app N724 N725
    show GoOn p e below (T725.setTop (mkF m 193 #[.val (.int p0), .val (.int p1), .val (.int p2), .val (.int p3), .val (.int p4), .val (.int c0), .val (.int c1), .val (.int c2), .val (.int c3), .val (.int (0 : Int32)), .val (.int (0 : Int32)), .val (.ref sa691), .val (.ref sa697), .val (.ref x704), .val (.ref m704)] [(.int (32 : Int32))])) _
    refine GoOn.step (fun tq kq => XS.bipush X725.here hx rfl (hb hby at_193) kq) ?_
    show GoOn p e below (T725.setTop (mkF m 195 #[.val (.int p0), .val (.int p1), .val (.int p2), .val (.int p3), .val (.int p4), .val (.int c0), .val (.int c1), .val (.int c2), .val (.int c3), .val (.int (0 : Int32)), .val (.int (0 : Int32)), .val (.ref sa691), .val (.ref sa697), .val (.ref x704), .val (.ref m704)] [(.int (32 : Int32)), (.int (32 : Int32))])) _
    refine GoOn.step (fun tq kq => XS.icmpYes X725.here hx rfl (pc0 := 195) (pc' := 200) rfl (hb hby at_195) rfl (teq rfl).1 (by decide) (by decide) kq) ?_
    show GoOn p e below (T725.setTop (mkF m 200 #[.val (.int p0), .val (.int p1), .val (.int p2), .val (.int p3), .val (.int p4), .val (.int c0), .val (.int c1), .val (.int c2), .val (.int c3), .val (.int (0 : Int32)), .val (.int (0 : Int32)), .val (.ref sa691), .val (.ref sa697), .val (.ref x704), .val (.ref m704)] [])) _
    refine GoOn.step (fun tq kq => XS.iload X725.here hx rfl (hb hby at_200) rfl kq) ?_
    show GoOn p e below (T725.setTop (mkF m 202 #[.val (.int p0), .val (.int p1), .val (.int p2), .val (.int p3), .val (.int p4), .val (.int c0), .val (.int c1), .val (.int c2), .val (.int c3), .val (.int (0 : Int32)), .val (.int (0 : Int32)), .val (.ref sa691), .val (.ref sa697), .val (.ref x704), .val (.ref m704)] [(.int (0 : Int32))])) _
    refine GoOn.step (fun tq kq => XS.iconst X725.here hx rfl (hb hby at_202) kq) ?_
    show GoOn p e below (T725.setTop (mkF m 203 #[.val (.int p0), .val (.int p1), .val (.int p2), .val (.int p3), .val (.int p4), .val (.int c0), .val (.int c1), .val (.int c2), .val (.int c3), .val (.int (0 : Int32)), .val (.int (0 : Int32)), .val (.ref sa691), .val (.ref sa697), .val (.ref x704), .val (.ref m704)] [(.int (1 : Int32)), (.int (0 : Int32))])) _
    refine GoOn.step (fun tq kq => XS.icmpYes X725.here hx rfl (pc0 := 203) (pc' := 222) rfl (hb hby at_203) rfl (tlt (by decide)).1 (by decide) (by decide) kq) ?_
    show GoOn p e below (T725.setTop (mkF m 222 #[.val (.int p0), .val (.int p1), .val (.int p2), .val (.int p3), .val (.int p4), .val (.int c0), .val (.int c1), .val (.int c2), .val (.int c3), .val (.int (0 : Int32)), .val (.int (0 : Int32)), .val (.ref sa691), .val (.ref sa697), .val (.ref x704), .val (.ref m704)] [])) _
    refine GoOn.step (fun tq kq => XS.iload X725.here hx rfl (hb hby at_222) rfl kq) ?_
    show GoOn p e below (T725.setTop (mkF m 224 #[.val (.int p0), .val (.int p1), .val (.int p2), .val (.int p3), .val (.int p4), .val (.int c0), .val (.int c1), .val (.int c2), .val (.int c3), .val (.int (0 : Int32)), .val (.int (0 : Int32)), .val (.ref sa691), .val (.ref sa697), .val (.ref x704), .val (.ref m704)] [(.int (0 : Int32))])) _
    refine GoOn.step (fun tq kq => XS.iconst X725.here hx rfl (hb hby at_224) kq) ?_
    show GoOn p e below (T725.setTop (mkF m 225 #[.val (.int p0), .val (.int p1), .val (.int p2), .val (.int p3), .val (.int p4), .val (.int c0), .val (.int c1), .val (.int c2), .val (.int c3), .val (.int (0 : Int32)), .val (.int (0 : Int32)), .val (.ref sa691), .val (.ref sa697), .val (.ref x704), .val (.ref m704)] [(.int (2 : Int32)), (.int (0 : Int32))])) _
    refine GoOn.step (fun tq kq => XS.icmpYes X725.here hx rfl (pc0 := 225) (pc' := 244) rfl (hb hby at_225) rfl (tlt (by decide)).1 (by decide) (by decide) kq) ?_
    show GoOn p e below (T725.setTop (mkF m 244 #[.val (.int p0), .val (.int p1), .val (.int p2), .val (.int p3), .val (.int p4), .val (.int c0), .val (.int c1), .val (.int c2), .val (.int c3), .val (.int (0 : Int32)), .val (.int (0 : Int32)), .val (.ref sa691), .val (.ref sa697), .val (.ref x704), .val (.ref m704)] [])) _
    refine GoOn.step (fun tq kq => XS.iconst X725.here hx rfl (hb hby at_244) kq) ?_
    show GoOn p e below (T725.setTop (mkF m 245 #[.val (.int p0), .val (.int p1), .val (.int p2), .val (.int p3), .val (.int p4), .val (.int c0), .val (.int c1), .val (.int c2), .val (.int c3), .val (.int (0 : Int32)), .val (.int (0 : Int32)), .val (.ref sa691), .val (.ref sa697), .val (.ref x704), .val (.ref m704)] [(.int (1 : Int32))])) _
    refine GoOn.retH X725 hZ704 hSn704 (hk704) hEL hh e725 C709 Bd.notSynchronized (v := some (.int (nar .boolean (1 : Int32)))) (fun h => by rw [Bd.returns] at h; cases h) (fun fs hr => retN X725 hx (t := .boolean) Bd.returns (by simp) (hb hby at_245) hr) (by decide) (by decide) ?_
    exact ⟨rfl, N727⟩
  · skip
    have Sr728 : StrIs Z T704.heap m704 ([58, 32, c2] : List Int32) := S704
    show GoOn p e below (T715.setTop (mkF m 117 #[.val (.int p0), .val (.int p1), .val (.int p2), .val (.int p3), .val (.int p4), .val (.int c0), .val (.int c1), .val (.int c2), .val (.int c3), .val (.int (0 : Int32)), .val (.int (1 : Int32)), .val (.ref sa691), .val (.ref sa697), .val (.ref x704), .val (.ref m704)] [(.ref m704)])) _
    obtain ⟨cqc730, kqc730, qac730, qbc730, qcc730⟩ := isOf hZ704 e715 Sr728.1
    obtain ⟨_, _, ⟨T729, L729, k729, n729⟩, -, X729, ⟨Lc729, hQ729, l729, y729, z729⟩, st729⟩ := X715.virtualBack hx (y := (⟨"java/lang/String", "length", "()I"⟩ : MethodName)) (z := (⟨"java/lang/String", "length", "()I"⟩ : MethodName)) hown704 (mvT hZ704 (hw _ (List.mem_of_getElem? (i := 200) rfl))) (mvT hZ704 (hw _ (List.mem_of_getElem? (i := 50) rfl))) (notFace_of_selects (args := #[]) (mvT hZ704 (hw _ (List.mem_of_getElem? (i := 52) rfl)))) (mvT hZ704 (hw _ (List.mem_of_getElem? (i := 52) rfl))) (mvT hZ704 (hw _ (List.mem_of_getElem? (i := 51) rfl))) (by decide) (backOf (W := 0) (rmLen l Z a0 hw m704 ([58, 32, c2] : List Int32) G1 T704.heap n0 Z707 SC PC Sr728 O706) hZ704 (hw _ (List.mem_of_getElem? (i := 53) rfl)) (hw _ (List.mem_of_getElem? (i := 6) rfl)) (by decide) (by decide)) qac730 qcc730 (g := (mkF m 117 #[.val (.int p0), .val (.int p1), .val (.int p2), .val (.int p3), .val (.int p4), .val (.int c0), .val (.int c1), .val (.int c2), .val (.int c3), .val (.int (0 : Int32)), .val (.int (1 : Int32)), .val (.ref sa691), .val (.ref sa697), .val (.ref x704), .val (.ref m704)] [(.ref m704)])) rfl (by rw [hml]; rfl) (Steps.refl _) (argsL := []) (rest := []) (lenOf own_pd181 rfl) rfl (by show 2 * 0 + _ ≤ _; exact Nat.le_of_eq rfl) (hb hby at_117) (fun _ _ => ⟨rfl, e715, (by decide : 20 + 0 ≤ _), (by decide : 2872 + 0 ≤ _)⟩)
    dsimp only [Pt.U, Pt.locs, Pt.cells, Pt.slots] at X729 l729 y729 z729 st729 hQ729
    subst l729 y729 z729
    obtain ⟨rfl, N729, e729⟩ := hQ729
    refine GoOn.trans st729 ?_
    have N731 := Fr.app N717 N729
    show GoOn p e below (T729.setTop (mkF m 120 #[.val (.int p0), .val (.int p1), .val (.int p2), .val (.int p3), .val (.int p4), .val (.int c0), .val (.int c1), .val (.int c2), .val (.int c3), .val (.int (0 : Int32)), .val (.int (1 : Int32)), .val (.ref sa691), .val (.ref sa697), .val (.ref x704), .val (.ref m704)] [(.int (3 : Int32))])) _
    refine GoOn.step (fun tq kq => XS.iload X729.here hx rfl (hb hby at_120) rfl kq) ?_
    show GoOn p e below (T729.setTop (mkF m 122 #[.val (.int p0), .val (.int p1), .val (.int p2), .val (.int p3), .val (.int p4), .val (.int c0), .val (.int c1), .val (.int c2), .val (.int c3), .val (.int (0 : Int32)), .val (.int (1 : Int32)), .val (.ref sa691), .val (.ref sa697), .val (.ref x704), .val (.ref m704)] [(.int (0 : Int32)), (.int (3 : Int32))])) _
    refine GoOn.step (fun tq kq => XS.iconst X729.here hx rfl (hb hby at_122) kq) ?_
    show GoOn p e below (T729.setTop (mkF m 123 #[.val (.int p0), .val (.int p1), .val (.int p2), .val (.int p3), .val (.int p4), .val (.int c0), .val (.int c1), .val (.int c2), .val (.int c3), .val (.int (0 : Int32)), .val (.int (1 : Int32)), .val (.ref sa691), .val (.ref sa697), .val (.ref x704), .val (.ref m704)] [(.int (2 : Int32)), (.int (0 : Int32)), (.int (3 : Int32))])) _
    refine GoOn.step (fun tq kq => XS.iadd X729.here hx rfl (hb hby at_123) rfl kq) ?_
    show GoOn p e below (T729.setTop (mkF m 124 #[.val (.int p0), .val (.int p1), .val (.int p2), .val (.int p3), .val (.int p4), .val (.int c0), .val (.int c1), .val (.int c2), .val (.int c3), .val (.int (0 : Int32)), .val (.int (1 : Int32)), .val (.ref sa691), .val (.ref sa697), .val (.ref x704), .val (.ref m704)] [(.int ((0 : Int32) + (2 : Int32))), (.int (3 : Int32))])) _
    refine GoOn.step (fun tq kq => XS.iload X729.here hx rfl (hb hby at_124) rfl kq) ?_
    show GoOn p e below (T729.setTop (mkF m 126 #[.val (.int p0), .val (.int p1), .val (.int p2), .val (.int p3), .val (.int p4), .val (.int c0), .val (.int c1), .val (.int c2), .val (.int c3), .val (.int (0 : Int32)), .val (.int (1 : Int32)), .val (.ref sa691), .val (.ref sa697), .val (.ref x704), .val (.ref m704)] [(.int (1 : Int32)), (.int ((0 : Int32) + (2 : Int32))), (.int (3 : Int32))])) _
    refine GoOn.step (fun tq kq => XS.iadd X729.here hx rfl (hb hby at_126) rfl kq) ?_
    show GoOn p e below (T729.setTop (mkF m 127 #[.val (.int p0), .val (.int p1), .val (.int p2), .val (.int p3), .val (.int p4), .val (.int c0), .val (.int c1), .val (.int c2), .val (.int c3), .val (.int (0 : Int32)), .val (.int (1 : Int32)), .val (.ref sa691), .val (.ref sa697), .val (.ref x704), .val (.ref m704)] [(.int (((0 : Int32) + (2 : Int32)) + (1 : Int32))), (.int (3 : Int32))])) _
    refine GoOn.step (fun tq kq => XS.icmpYes X729.here hx rfl (pc0 := 127) (pc' := 132) rfl (hb hby at_127) rfl (teq (by decide)).1 (by decide) (by decide) kq) ?_
    show GoOn p e below (T729.setTop (mkF m 132 #[.val (.int p0), .val (.int p1), .val (.int p2), .val (.int p3), .val (.int p4), .val (.int c0), .val (.int c1), .val (.int c2), .val (.int c3), .val (.int (0 : Int32)), .val (.int (1 : Int32)), .val (.ref sa691), .val (.ref sa697), .val (.ref x704), .val (.ref m704)] [])) _
    refine GoOn.step (fun tq kq => XS.iload X729.here hx rfl (hb hby at_132) rfl kq) ?_
    show GoOn p e below (T729.setTop (mkF m 134 #[.val (.int p0), .val (.int p1), .val (.int p2), .val (.int p3), .val (.int p4), .val (.int c0), .val (.int c1), .val (.int c2), .val (.int c3), .val (.int (0 : Int32)), .val (.int (1 : Int32)), .val (.ref sa691), .val (.ref sa697), .val (.ref x704), .val (.ref m704)] [(.int (0 : Int32))])) _
    refine GoOn.step (fun tq kq => XS.iconst X729.here hx rfl (hb hby at_134) kq) ?_
    show GoOn p e below (T729.setTop (mkF m 135 #[.val (.int p0), .val (.int p1), .val (.int p2), .val (.int p3), .val (.int p4), .val (.int c0), .val (.int c1), .val (.int c2), .val (.int c3), .val (.int (0 : Int32)), .val (.int (1 : Int32)), .val (.ref sa691), .val (.ref sa697), .val (.ref x704), .val (.ref m704)] [(.int (1 : Int32)), (.int (0 : Int32))])) _
    refine GoOn.step (fun tq kq => XS.icmpYes X729.here hx rfl (pc0 := 135) (pc' := 151) rfl (hb hby at_135) rfl (tlt (by decide)).1 (by decide) (by decide) kq) ?_
    show GoOn p e below (T729.setTop (mkF m 151 #[.val (.int p0), .val (.int p1), .val (.int p2), .val (.int p3), .val (.int p4), .val (.int c0), .val (.int c1), .val (.int c2), .val (.int c3), .val (.int (0 : Int32)), .val (.int (1 : Int32)), .val (.ref sa691), .val (.ref sa697), .val (.ref x704), .val (.ref m704)] [])) _
    refine GoOn.step (fun tq kq => XS.iload X729.here hx rfl (hb hby at_151) rfl kq) ?_
    show GoOn p e below (T729.setTop (mkF m 153 #[.val (.int p0), .val (.int p1), .val (.int p2), .val (.int p3), .val (.int p4), .val (.int c0), .val (.int c1), .val (.int c2), .val (.int c3), .val (.int (0 : Int32)), .val (.int (1 : Int32)), .val (.ref sa691), .val (.ref sa697), .val (.ref x704), .val (.ref m704)] [(.int (0 : Int32))])) _
    refine GoOn.step (fun tq kq => XS.iconst X729.here hx rfl (hb hby at_153) kq) ?_
    show GoOn p e below (T729.setTop (mkF m 154 #[.val (.int p0), .val (.int p1), .val (.int p2), .val (.int p3), .val (.int p4), .val (.int c0), .val (.int c1), .val (.int c2), .val (.int c3), .val (.int (0 : Int32)), .val (.int (1 : Int32)), .val (.ref sa691), .val (.ref sa697), .val (.ref x704), .val (.ref m704)] [(.int (2 : Int32)), (.int (0 : Int32))])) _
    refine GoOn.step (fun tq kq => XS.icmpYes X729.here hx rfl (pc0 := 154) (pc' := 170) rfl (hb hby at_154) rfl (tlt (by decide)).1 (by decide) (by decide) kq) ?_
    show GoOn p e below (T729.setTop (mkF m 170 #[.val (.int p0), .val (.int p1), .val (.int p2), .val (.int p3), .val (.int p4), .val (.int c0), .val (.int c1), .val (.int c2), .val (.int c3), .val (.int (0 : Int32)), .val (.int (1 : Int32)), .val (.ref sa691), .val (.ref sa697), .val (.ref x704), .val (.ref m704)] [])) _
    refine GoOn.step (fun tq kq => XS.aload X729.here hx rfl (hb hby at_170) rfl rfl kq) ?_
    show GoOn p e below (T729.setTop (mkF m 172 #[.val (.int p0), .val (.int p1), .val (.int p2), .val (.int p3), .val (.int p4), .val (.int c0), .val (.int c1), .val (.int c2), .val (.int c3), .val (.int (0 : Int32)), .val (.int (1 : Int32)), .val (.ref sa691), .val (.ref sa697), .val (.ref x704), .val (.ref m704)] [(.ref m704)])) _
    refine GoOn.step (fun tq kq => XS.iload X729.here hx rfl (hb hby at_172) rfl kq) ?_
    show GoOn p e below (T729.setTop (mkF m 174 #[.val (.int p0), .val (.int p1), .val (.int p2), .val (.int p3), .val (.int p4), .val (.int c0), .val (.int c1), .val (.int c2), .val (.int c3), .val (.int (0 : Int32)), .val (.int (1 : Int32)), .val (.ref sa691), .val (.ref sa697), .val (.ref x704), .val (.ref m704)] [(.int (0 : Int32)), (.ref m704)])) _
    obtain ⟨cqc733, kqc733, qac733, qbc733, qcc733⟩ := isOf hZ704 e729 Sr728.1
    obtain ⟨_, _, ⟨T732, L732, k732, n732⟩, -, X732, ⟨Lc732, hQ732, l732, y732, z732⟩, st732⟩ := X729.virtualBack hx (y := (⟨"java/lang/String", "charAt", "(I)C"⟩ : MethodName)) (z := (⟨"java/lang/String", "charAt", "(I)C"⟩ : MethodName)) hown704 (mvT hZ704 (hw _ (List.mem_of_getElem? (i := 201) rfl))) (mvT hZ704 (hw _ (List.mem_of_getElem? (i := 202) rfl))) (notFace_of_selects (args := #[]) (mvT hZ704 (hw _ (List.mem_of_getElem? (i := 204) rfl)))) (mvT hZ704 (hw _ (List.mem_of_getElem? (i := 204) rfl))) (mvT hZ704 (hw _ (List.mem_of_getElem? (i := 203) rfl))) (by decide) (own_chS (n0 := n0) (W := 0) hZ704 hch (kI := 4) (hw _ (List.mem_of_getElem? (i := 7) rfl)) Sr728 (SC.ext O706.2) PC (SF.ext O706.2) rG3 0 (Nat.le_of_ble_eq_true rfl) (by decide) (by decide) (by decide)) qac733 qcc733 (g := (mkF m 174 #[.val (.int p0), .val (.int p1), .val (.int p2), .val (.int p3), .val (.int p4), .val (.int c0), .val (.int c1), .val (.int c2), .val (.int c3), .val (.int (0 : Int32)), .val (.int (1 : Int32)), .val (.ref sa691), .val (.ref sa697), .val (.ref x704), .val (.ref m704)] [(.int (0 : Int32)), (.ref m704)])) rfl (by rw [hml]; rfl) (Steps.refl _) (argsL := [(.int (0 : Int32))]) (rest := []) (lenOf own_pd368 rfl) rfl (by show 2 * 0 + _ ≤ _; exact Nat.le_of_eq rfl) (hb hby at_174) (fun _ _ => ⟨rfl, e729, (by decide : 20 + 0 ≤ _), (by decide : 2872 + 0 ≤ _)⟩)
    dsimp only [Pt.U, Pt.locs, Pt.cells, Pt.slots] at X732 l732 y732 z732 st732 hQ732
    subst l732 y732 z732
    obtain ⟨rfl, N732, e732⟩ := hQ732
    refine GoOn.trans st732 ?_
    have N734 := Fr.app N731 N732
    show GoOn p e below (T732.setTop (mkF m 177 #[.val (.int p0), .val (.int p1), .val (.int p2), .val (.int p3), .val (.int p4), .val (.int c0), .val (.int c1), .val (.int c2), .val (.int c3), .val (.int (0 : Int32)), .val (.int (1 : Int32)), .val (.ref sa691), .val (.ref sa697), .val (.ref x704), .val (.ref m704)] [(.int (58 : Int32))])) _
    refine GoOn.step (fun tq kq => XS.bipush X732.here hx rfl (hb hby at_177) kq) ?_
    show GoOn p e below (T732.setTop (mkF m 179 #[.val (.int p0), .val (.int p1), .val (.int p2), .val (.int p3), .val (.int p4), .val (.int c0), .val (.int c1), .val (.int c2), .val (.int c3), .val (.int (0 : Int32)), .val (.int (1 : Int32)), .val (.ref sa691), .val (.ref sa697), .val (.ref x704), .val (.ref m704)] [(.int (58 : Int32)), (.int (58 : Int32))])) _
    refine GoOn.step (fun tq kq => XS.icmpYes X732.here hx rfl (pc0 := 179) (pc' := 184) rfl (hb hby at_179) rfl (teq rfl).1 (by decide) (by decide) kq) ?_
    show GoOn p e below (T732.setTop (mkF m 184 #[.val (.int p0), .val (.int p1), .val (.int p2), .val (.int p3), .val (.int p4), .val (.int c0), .val (.int c1), .val (.int c2), .val (.int c3), .val (.int (0 : Int32)), .val (.int (1 : Int32)), .val (.ref sa691), .val (.ref sa697), .val (.ref x704), .val (.ref m704)] [])) _
    refine GoOn.step (fun tq kq => XS.aload X732.here hx rfl (hb hby at_184) rfl rfl kq) ?_
    show GoOn p e below (T732.setTop (mkF m 186 #[.val (.int p0), .val (.int p1), .val (.int p2), .val (.int p3), .val (.int p4), .val (.int c0), .val (.int c1), .val (.int c2), .val (.int c3), .val (.int (0 : Int32)), .val (.int (1 : Int32)), .val (.ref sa691), .val (.ref sa697), .val (.ref x704), .val (.ref m704)] [(.ref m704)])) _
    refine GoOn.step (fun tq kq => XS.iload X732.here hx rfl (hb hby at_186) rfl kq) ?_
    show GoOn p e below (T732.setTop (mkF m 188 #[.val (.int p0), .val (.int p1), .val (.int p2), .val (.int p3), .val (.int p4), .val (.int c0), .val (.int c1), .val (.int c2), .val (.int c3), .val (.int (0 : Int32)), .val (.int (1 : Int32)), .val (.ref sa691), .val (.ref sa697), .val (.ref x704), .val (.ref m704)] [(.int (0 : Int32)), (.ref m704)])) _
    refine GoOn.step (fun tq kq => XS.iconst X732.here hx rfl (hb hby at_188) kq) ?_
    show GoOn p e below (T732.setTop (mkF m 189 #[.val (.int p0), .val (.int p1), .val (.int p2), .val (.int p3), .val (.int p4), .val (.int c0), .val (.int c1), .val (.int c2), .val (.int c3), .val (.int (0 : Int32)), .val (.int (1 : Int32)), .val (.ref sa691), .val (.ref sa697), .val (.ref x704), .val (.ref m704)] [(.int (1 : Int32)), (.int (0 : Int32)), (.ref m704)])) _
    refine GoOn.step (fun tq kq => XS.iadd X732.here hx rfl (hb hby at_189) rfl kq) ?_
    show GoOn p e below (T732.setTop (mkF m 190 #[.val (.int p0), .val (.int p1), .val (.int p2), .val (.int p3), .val (.int p4), .val (.int c0), .val (.int c1), .val (.int c2), .val (.int c3), .val (.int (0 : Int32)), .val (.int (1 : Int32)), .val (.ref sa691), .val (.ref sa697), .val (.ref x704), .val (.ref m704)] [(.int ((0 : Int32) + (1 : Int32))), (.ref m704)])) _
    obtain ⟨cqc736, kqc736, qac736, qbc736, qcc736⟩ := isOf hZ704 e732 Sr728.1
    obtain ⟨_, _, ⟨T735, L735, k735, n735⟩, -, X735, ⟨Lc735, hQ735, l735, y735, z735⟩, st735⟩ := X732.virtualBack hx (y := (⟨"java/lang/String", "charAt", "(I)C"⟩ : MethodName)) (z := (⟨"java/lang/String", "charAt", "(I)C"⟩ : MethodName)) hown704 (mvT hZ704 (hw _ (List.mem_of_getElem? (i := 201) rfl))) (mvT hZ704 (hw _ (List.mem_of_getElem? (i := 202) rfl))) (notFace_of_selects (args := #[]) (mvT hZ704 (hw _ (List.mem_of_getElem? (i := 204) rfl)))) (mvT hZ704 (hw _ (List.mem_of_getElem? (i := 204) rfl))) (mvT hZ704 (hw _ (List.mem_of_getElem? (i := 203) rfl))) (by decide) (own_chS (n0 := n0) (W := 0) hZ704 hch (kI := 4) (hw _ (List.mem_of_getElem? (i := 7) rfl)) Sr728 (SC.ext O706.2) PC (SF.ext O706.2) rG3 1 (Nat.le_of_ble_eq_true rfl) (by decide) (by decide) (by decide)) qac736 qcc736 (g := (mkF m 190 #[.val (.int p0), .val (.int p1), .val (.int p2), .val (.int p3), .val (.int p4), .val (.int c0), .val (.int c1), .val (.int c2), .val (.int c3), .val (.int (0 : Int32)), .val (.int (1 : Int32)), .val (.ref sa691), .val (.ref sa697), .val (.ref x704), .val (.ref m704)] [(.int ((0 : Int32) + (1 : Int32))), (.ref m704)])) rfl (by rw [hml]; rfl) (Steps.refl _) (argsL := [(.int ((0 : Int32) + (1 : Int32)))]) (rest := []) (lenOf own_pd368 rfl) rfl (by show 2 * 0 + _ ≤ _; exact Nat.le_of_eq rfl) (hb hby at_190) (fun _ _ => ⟨rfl, e732, (by decide : 20 + 0 ≤ _), (by decide : 2872 + 0 ≤ _)⟩)
    dsimp only [Pt.U, Pt.locs, Pt.cells, Pt.slots] at X735 l735 y735 z735 st735 hQ735
    subst l735 y735 z735
    obtain ⟨rfl, N735, e735⟩ := hQ735
    refine GoOn.trans st735 ?_
    have N737 := Fr.app N734 N735
    show GoOn p e below (T735.setTop (mkF m 193 #[.val (.int p0), .val (.int p1), .val (.int p2), .val (.int p3), .val (.int p4), .val (.int c0), .val (.int c1), .val (.int c2), .val (.int c3), .val (.int (0 : Int32)), .val (.int (1 : Int32)), .val (.ref sa691), .val (.ref sa697), .val (.ref x704), .val (.ref m704)] [(.int (32 : Int32))])) _
    refine GoOn.step (fun tq kq => XS.bipush X735.here hx rfl (hb hby at_193) kq) ?_
    show GoOn p e below (T735.setTop (mkF m 195 #[.val (.int p0), .val (.int p1), .val (.int p2), .val (.int p3), .val (.int p4), .val (.int c0), .val (.int c1), .val (.int c2), .val (.int c3), .val (.int (0 : Int32)), .val (.int (1 : Int32)), .val (.ref sa691), .val (.ref sa697), .val (.ref x704), .val (.ref m704)] [(.int (32 : Int32)), (.int (32 : Int32))])) _
    refine GoOn.step (fun tq kq => XS.icmpYes X735.here hx rfl (pc0 := 195) (pc' := 200) rfl (hb hby at_195) rfl (teq rfl).1 (by decide) (by decide) kq) ?_
    show GoOn p e below (T735.setTop (mkF m 200 #[.val (.int p0), .val (.int p1), .val (.int p2), .val (.int p3), .val (.int p4), .val (.int c0), .val (.int c1), .val (.int c2), .val (.int c3), .val (.int (0 : Int32)), .val (.int (1 : Int32)), .val (.ref sa691), .val (.ref sa697), .val (.ref x704), .val (.ref m704)] [])) _
    refine GoOn.step (fun tq kq => XS.iload X735.here hx rfl (hb hby at_200) rfl kq) ?_
    show GoOn p e below (T735.setTop (mkF m 202 #[.val (.int p0), .val (.int p1), .val (.int p2), .val (.int p3), .val (.int p4), .val (.int c0), .val (.int c1), .val (.int c2), .val (.int c3), .val (.int (0 : Int32)), .val (.int (1 : Int32)), .val (.ref sa691), .val (.ref sa697), .val (.ref x704), .val (.ref m704)] [(.int (1 : Int32))])) _
    refine GoOn.step (fun tq kq => XS.iconst X735.here hx rfl (hb hby at_202) kq) ?_
    show GoOn p e below (T735.setTop (mkF m 203 #[.val (.int p0), .val (.int p1), .val (.int p2), .val (.int p3), .val (.int p4), .val (.int c0), .val (.int c1), .val (.int c2), .val (.int c3), .val (.int (0 : Int32)), .val (.int (1 : Int32)), .val (.ref sa691), .val (.ref sa697), .val (.ref x704), .val (.ref m704)] [(.int (1 : Int32)), (.int (1 : Int32))])) _
    refine GoOn.step (fun tq kq => XS.icmpNo X735.here hx rfl (hb hby at_203) rfl (flt (by decide)).1 kq) ?_
    show GoOn p e below (T735.setTop (mkF m 206 #[.val (.int p0), .val (.int p1), .val (.int p2), .val (.int p3), .val (.int p4), .val (.int c0), .val (.int c1), .val (.int c2), .val (.int c3), .val (.int (0 : Int32)), .val (.int (1 : Int32)), .val (.ref sa691), .val (.ref sa697), .val (.ref x704), .val (.ref m704)] [])) _
    refine GoOn.step (fun tq kq => XS.aload X735.here hx rfl (hb hby at_206) rfl rfl kq) ?_
    show GoOn p e below (T735.setTop (mkF m 208 #[.val (.int p0), .val (.int p1), .val (.int p2), .val (.int p3), .val (.int p4), .val (.int c0), .val (.int c1), .val (.int c2), .val (.int c3), .val (.int (0 : Int32)), .val (.int (1 : Int32)), .val (.ref sa691), .val (.ref sa697), .val (.ref x704), .val (.ref m704)] [(.ref m704)])) _
    refine GoOn.step (fun tq kq => XS.iload X735.here hx rfl (hb hby at_208) rfl kq) ?_
    show GoOn p e below (T735.setTop (mkF m 210 #[.val (.int p0), .val (.int p1), .val (.int p2), .val (.int p3), .val (.int p4), .val (.int c0), .val (.int c1), .val (.int c2), .val (.int c3), .val (.int (0 : Int32)), .val (.int (1 : Int32)), .val (.ref sa691), .val (.ref sa697), .val (.ref x704), .val (.ref m704)] [(.int (0 : Int32)), (.ref m704)])) _
    refine GoOn.step (fun tq kq => XS.iconst X735.here hx rfl (hb hby at_210) kq) ?_
    show GoOn p e below (T735.setTop (mkF m 211 #[.val (.int p0), .val (.int p1), .val (.int p2), .val (.int p3), .val (.int p4), .val (.int c0), .val (.int c1), .val (.int c2), .val (.int c3), .val (.int (0 : Int32)), .val (.int (1 : Int32)), .val (.ref sa691), .val (.ref sa697), .val (.ref x704), .val (.ref m704)] [(.int (2 : Int32)), (.int (0 : Int32)), (.ref m704)])) _
    refine GoOn.step (fun tq kq => XS.iadd X735.here hx rfl (hb hby at_211) rfl kq) ?_
    show GoOn p e below (T735.setTop (mkF m 212 #[.val (.int p0), .val (.int p1), .val (.int p2), .val (.int p3), .val (.int p4), .val (.int c0), .val (.int c1), .val (.int c2), .val (.int c3), .val (.int (0 : Int32)), .val (.int (1 : Int32)), .val (.ref sa691), .val (.ref sa697), .val (.ref x704), .val (.ref m704)] [(.int ((0 : Int32) + (2 : Int32))), (.ref m704)])) _
    obtain ⟨cqc739, kqc739, qac739, qbc739, qcc739⟩ := isOf hZ704 e735 Sr728.1
    obtain ⟨_, _, ⟨T738, L738, k738, n738⟩, -, X738, ⟨Lc738, hQ738, l738, y738, z738⟩, st738⟩ := X735.virtualBack hx (y := (⟨"java/lang/String", "charAt", "(I)C"⟩ : MethodName)) (z := (⟨"java/lang/String", "charAt", "(I)C"⟩ : MethodName)) hown704 (mvT hZ704 (hw _ (List.mem_of_getElem? (i := 201) rfl))) (mvT hZ704 (hw _ (List.mem_of_getElem? (i := 202) rfl))) (notFace_of_selects (args := #[]) (mvT hZ704 (hw _ (List.mem_of_getElem? (i := 204) rfl)))) (mvT hZ704 (hw _ (List.mem_of_getElem? (i := 204) rfl))) (mvT hZ704 (hw _ (List.mem_of_getElem? (i := 203) rfl))) (by decide) (own_chS (n0 := n0) (W := 0) hZ704 hch (kI := 4) (hw _ (List.mem_of_getElem? (i := 7) rfl)) Sr728 (SC.ext O706.2) PC (SF.ext O706.2) rG3 2 (Nat.le_of_ble_eq_true rfl) (by decide) (by decide) (by decide)) qac739 qcc739 (g := (mkF m 212 #[.val (.int p0), .val (.int p1), .val (.int p2), .val (.int p3), .val (.int p4), .val (.int c0), .val (.int c1), .val (.int c2), .val (.int c3), .val (.int (0 : Int32)), .val (.int (1 : Int32)), .val (.ref sa691), .val (.ref sa697), .val (.ref x704), .val (.ref m704)] [(.int ((0 : Int32) + (2 : Int32))), (.ref m704)])) rfl (by rw [hml]; rfl) (Steps.refl _) (argsL := [(.int ((0 : Int32) + (2 : Int32)))]) (rest := []) (lenOf own_pd368 rfl) rfl (by show 2 * 0 + _ ≤ _; exact Nat.le_of_eq rfl) (hb hby at_212) (fun _ _ => ⟨rfl, e735, (by decide : 20 + 0 ≤ _), (by decide : 2872 + 0 ≤ _)⟩)
    dsimp only [Pt.U, Pt.locs, Pt.cells, Pt.slots] at X738 l738 y738 z738 st738 hQ738
    subst l738 y738 z738
    obtain ⟨rfl, N738, e738⟩ := hQ738
    refine GoOn.trans st738 ?_
    have N740 := Fr.app N737 N738
    show GoOn p e below (T738.setTop (mkF m 215 #[.val (.int p0), .val (.int p1), .val (.int p2), .val (.int p3), .val (.int p4), .val (.int c0), .val (.int c1), .val (.int c2), .val (.int c3), .val (.int (0 : Int32)), .val (.int (1 : Int32)), .val (.ref sa691), .val (.ref sa697), .val (.ref x704), .val (.ref m704)] [(.int c2)])) _
    refine GoOn.step (fun tq kq => XS.iload X738.here hx rfl (hb hby at_215) rfl kq) ?_
    show GoOn p e below (T738.setTop (mkF m 217 #[.val (.int p0), .val (.int p1), .val (.int p2), .val (.int p3), .val (.int p4), .val (.int c0), .val (.int c1), .val (.int c2), .val (.int c3), .val (.int (0 : Int32)), .val (.int (1 : Int32)), .val (.ref sa691), .val (.ref sa697), .val (.ref x704), .val (.ref m704)] [(.int c2), (.int c2)])) _
    refine GoOn.step (fun tq kq => XS.icmpYes X738.here hx rfl (pc0 := 217) (pc' := 222) rfl (hb hby at_217) rfl (teq rfl).1 (by decide) (by decide) kq) ?_
    show GoOn p e below (T738.setTop (mkF m 222 #[.val (.int p0), .val (.int p1), .val (.int p2), .val (.int p3), .val (.int p4), .val (.int c0), .val (.int c1), .val (.int c2), .val (.int c3), .val (.int (0 : Int32)), .val (.int (1 : Int32)), .val (.ref sa691), .val (.ref sa697), .val (.ref x704), .val (.ref m704)] [])) _
    refine GoOn.step (fun tq kq => XS.iload X738.here hx rfl (hb hby at_222) rfl kq) ?_
    show GoOn p e below (T738.setTop (mkF m 224 #[.val (.int p0), .val (.int p1), .val (.int p2), .val (.int p3), .val (.int p4), .val (.int c0), .val (.int c1), .val (.int c2), .val (.int c3), .val (.int (0 : Int32)), .val (.int (1 : Int32)), .val (.ref sa691), .val (.ref sa697), .val (.ref x704), .val (.ref m704)] [(.int (1 : Int32))])) _
    refine GoOn.step (fun tq kq => XS.iconst X738.here hx rfl (hb hby at_224) kq) ?_
    show GoOn p e below (T738.setTop (mkF m 225 #[.val (.int p0), .val (.int p1), .val (.int p2), .val (.int p3), .val (.int p4), .val (.int c0), .val (.int c1), .val (.int c2), .val (.int c3), .val (.int (0 : Int32)), .val (.int (1 : Int32)), .val (.ref sa691), .val (.ref sa697), .val (.ref x704), .val (.ref m704)] [(.int (2 : Int32)), (.int (1 : Int32))])) _
    refine GoOn.step (fun tq kq => XS.icmpYes X738.here hx rfl (pc0 := 225) (pc' := 244) rfl (hb hby at_225) rfl (tlt (by decide)).1 (by decide) (by decide) kq) ?_
    show GoOn p e below (T738.setTop (mkF m 244 #[.val (.int p0), .val (.int p1), .val (.int p2), .val (.int p3), .val (.int p4), .val (.int c0), .val (.int c1), .val (.int c2), .val (.int c3), .val (.int (0 : Int32)), .val (.int (1 : Int32)), .val (.ref sa691), .val (.ref sa697), .val (.ref x704), .val (.ref m704)] [])) _
    refine GoOn.step (fun tq kq => XS.iconst X738.here hx rfl (hb hby at_244) kq) ?_
    show GoOn p e below (T738.setTop (mkF m 245 #[.val (.int p0), .val (.int p1), .val (.int p2), .val (.int p3), .val (.int p4), .val (.int c0), .val (.int c1), .val (.int c2), .val (.int c3), .val (.int (0 : Int32)), .val (.int (1 : Int32)), .val (.ref sa691), .val (.ref sa697), .val (.ref x704), .val (.ref m704)] [(.int (1 : Int32))])) _
    refine GoOn.retH X738 hZ704 hSn704 (hk704) hEL hh e738 C709 Bd.notSynchronized (v := some (.int (nar .boolean (1 : Int32)))) (fun h => by rw [Bd.returns] at h; cases h) (fun fs hr => retN X738 hx (t := .boolean) Bd.returns (by simp) (hb hby at_245) hr) (by decide) (by decide) ?_
    exact ⟨rfl, N740⟩
  · skip
    have Sr741 : StrIs Z T704.heap m704 ([58, 32, c2, c3] : List Int32) := S704
    show GoOn p e below (T715.setTop (mkF m 117 #[.val (.int p0), .val (.int p1), .val (.int p2), .val (.int p3), .val (.int p4), .val (.int c0), .val (.int c1), .val (.int c2), .val (.int c3), .val (.int (0 : Int32)), .val (.int (2 : Int32)), .val (.ref sa691), .val (.ref sa697), .val (.ref x704), .val (.ref m704)] [(.ref m704)])) _
    obtain ⟨cqc743, kqc743, qac743, qbc743, qcc743⟩ := isOf hZ704 e715 Sr741.1
    obtain ⟨_, _, ⟨T742, L742, k742, n742⟩, -, X742, ⟨Lc742, hQ742, l742, y742, z742⟩, st742⟩ := X715.virtualBack hx (y := (⟨"java/lang/String", "length", "()I"⟩ : MethodName)) (z := (⟨"java/lang/String", "length", "()I"⟩ : MethodName)) hown704 (mvT hZ704 (hw _ (List.mem_of_getElem? (i := 200) rfl))) (mvT hZ704 (hw _ (List.mem_of_getElem? (i := 50) rfl))) (notFace_of_selects (args := #[]) (mvT hZ704 (hw _ (List.mem_of_getElem? (i := 52) rfl)))) (mvT hZ704 (hw _ (List.mem_of_getElem? (i := 52) rfl))) (mvT hZ704 (hw _ (List.mem_of_getElem? (i := 51) rfl))) (by decide) (backOf (W := 0) (rmLen l Z a0 hw m704 ([58, 32, c2, c3] : List Int32) G1 T704.heap n0 Z707 SC PC Sr741 O706) hZ704 (hw _ (List.mem_of_getElem? (i := 53) rfl)) (hw _ (List.mem_of_getElem? (i := 6) rfl)) (by decide) (by decide)) qac743 qcc743 (g := (mkF m 117 #[.val (.int p0), .val (.int p1), .val (.int p2), .val (.int p3), .val (.int p4), .val (.int c0), .val (.int c1), .val (.int c2), .val (.int c3), .val (.int (0 : Int32)), .val (.int (2 : Int32)), .val (.ref sa691), .val (.ref sa697), .val (.ref x704), .val (.ref m704)] [(.ref m704)])) rfl (by rw [hml]; rfl) (Steps.refl _) (argsL := []) (rest := []) (lenOf own_pd181 rfl) rfl (by show 2 * 0 + _ ≤ _; exact Nat.le_of_eq rfl) (hb hby at_117) (fun _ _ => ⟨rfl, e715, (by decide : 20 + 0 ≤ _), (by decide : 2872 + 0 ≤ _)⟩)
    dsimp only [Pt.U, Pt.locs, Pt.cells, Pt.slots] at X742 l742 y742 z742 st742 hQ742
    subst l742 y742 z742
    obtain ⟨rfl, N742, e742⟩ := hQ742
    refine GoOn.trans st742 ?_
    have N744 := Fr.app N717 N742
    show GoOn p e below (T742.setTop (mkF m 120 #[.val (.int p0), .val (.int p1), .val (.int p2), .val (.int p3), .val (.int p4), .val (.int c0), .val (.int c1), .val (.int c2), .val (.int c3), .val (.int (0 : Int32)), .val (.int (2 : Int32)), .val (.ref sa691), .val (.ref sa697), .val (.ref x704), .val (.ref m704)] [(.int (4 : Int32))])) _
    refine GoOn.step (fun tq kq => XS.iload X742.here hx rfl (hb hby at_120) rfl kq) ?_
    show GoOn p e below (T742.setTop (mkF m 122 #[.val (.int p0), .val (.int p1), .val (.int p2), .val (.int p3), .val (.int p4), .val (.int c0), .val (.int c1), .val (.int c2), .val (.int c3), .val (.int (0 : Int32)), .val (.int (2 : Int32)), .val (.ref sa691), .val (.ref sa697), .val (.ref x704), .val (.ref m704)] [(.int (0 : Int32)), (.int (4 : Int32))])) _
    refine GoOn.step (fun tq kq => XS.iconst X742.here hx rfl (hb hby at_122) kq) ?_
    show GoOn p e below (T742.setTop (mkF m 123 #[.val (.int p0), .val (.int p1), .val (.int p2), .val (.int p3), .val (.int p4), .val (.int c0), .val (.int c1), .val (.int c2), .val (.int c3), .val (.int (0 : Int32)), .val (.int (2 : Int32)), .val (.ref sa691), .val (.ref sa697), .val (.ref x704), .val (.ref m704)] [(.int (2 : Int32)), (.int (0 : Int32)), (.int (4 : Int32))])) _
    refine GoOn.step (fun tq kq => XS.iadd X742.here hx rfl (hb hby at_123) rfl kq) ?_
    show GoOn p e below (T742.setTop (mkF m 124 #[.val (.int p0), .val (.int p1), .val (.int p2), .val (.int p3), .val (.int p4), .val (.int c0), .val (.int c1), .val (.int c2), .val (.int c3), .val (.int (0 : Int32)), .val (.int (2 : Int32)), .val (.ref sa691), .val (.ref sa697), .val (.ref x704), .val (.ref m704)] [(.int ((0 : Int32) + (2 : Int32))), (.int (4 : Int32))])) _
    refine GoOn.step (fun tq kq => XS.iload X742.here hx rfl (hb hby at_124) rfl kq) ?_
    show GoOn p e below (T742.setTop (mkF m 126 #[.val (.int p0), .val (.int p1), .val (.int p2), .val (.int p3), .val (.int p4), .val (.int c0), .val (.int c1), .val (.int c2), .val (.int c3), .val (.int (0 : Int32)), .val (.int (2 : Int32)), .val (.ref sa691), .val (.ref sa697), .val (.ref x704), .val (.ref m704)] [(.int (2 : Int32)), (.int ((0 : Int32) + (2 : Int32))), (.int (4 : Int32))])) _
    refine GoOn.step (fun tq kq => XS.iadd X742.here hx rfl (hb hby at_126) rfl kq) ?_
    show GoOn p e below (T742.setTop (mkF m 127 #[.val (.int p0), .val (.int p1), .val (.int p2), .val (.int p3), .val (.int p4), .val (.int c0), .val (.int c1), .val (.int c2), .val (.int c3), .val (.int (0 : Int32)), .val (.int (2 : Int32)), .val (.ref sa691), .val (.ref sa697), .val (.ref x704), .val (.ref m704)] [(.int (((0 : Int32) + (2 : Int32)) + (2 : Int32))), (.int (4 : Int32))])) _
    refine GoOn.step (fun tq kq => XS.icmpYes X742.here hx rfl (pc0 := 127) (pc' := 132) rfl (hb hby at_127) rfl (teq (by decide)).1 (by decide) (by decide) kq) ?_
    show GoOn p e below (T742.setTop (mkF m 132 #[.val (.int p0), .val (.int p1), .val (.int p2), .val (.int p3), .val (.int p4), .val (.int c0), .val (.int c1), .val (.int c2), .val (.int c3), .val (.int (0 : Int32)), .val (.int (2 : Int32)), .val (.ref sa691), .val (.ref sa697), .val (.ref x704), .val (.ref m704)] [])) _
    refine GoOn.step (fun tq kq => XS.iload X742.here hx rfl (hb hby at_132) rfl kq) ?_
    show GoOn p e below (T742.setTop (mkF m 134 #[.val (.int p0), .val (.int p1), .val (.int p2), .val (.int p3), .val (.int p4), .val (.int c0), .val (.int c1), .val (.int c2), .val (.int c3), .val (.int (0 : Int32)), .val (.int (2 : Int32)), .val (.ref sa691), .val (.ref sa697), .val (.ref x704), .val (.ref m704)] [(.int (0 : Int32))])) _
    refine GoOn.step (fun tq kq => XS.iconst X742.here hx rfl (hb hby at_134) kq) ?_
    show GoOn p e below (T742.setTop (mkF m 135 #[.val (.int p0), .val (.int p1), .val (.int p2), .val (.int p3), .val (.int p4), .val (.int c0), .val (.int c1), .val (.int c2), .val (.int c3), .val (.int (0 : Int32)), .val (.int (2 : Int32)), .val (.ref sa691), .val (.ref sa697), .val (.ref x704), .val (.ref m704)] [(.int (1 : Int32)), (.int (0 : Int32))])) _
    refine GoOn.step (fun tq kq => XS.icmpYes X742.here hx rfl (pc0 := 135) (pc' := 151) rfl (hb hby at_135) rfl (tlt (by decide)).1 (by decide) (by decide) kq) ?_
    show GoOn p e below (T742.setTop (mkF m 151 #[.val (.int p0), .val (.int p1), .val (.int p2), .val (.int p3), .val (.int p4), .val (.int c0), .val (.int c1), .val (.int c2), .val (.int c3), .val (.int (0 : Int32)), .val (.int (2 : Int32)), .val (.ref sa691), .val (.ref sa697), .val (.ref x704), .val (.ref m704)] [])) _
    refine GoOn.step (fun tq kq => XS.iload X742.here hx rfl (hb hby at_151) rfl kq) ?_
    show GoOn p e below (T742.setTop (mkF m 153 #[.val (.int p0), .val (.int p1), .val (.int p2), .val (.int p3), .val (.int p4), .val (.int c0), .val (.int c1), .val (.int c2), .val (.int c3), .val (.int (0 : Int32)), .val (.int (2 : Int32)), .val (.ref sa691), .val (.ref sa697), .val (.ref x704), .val (.ref m704)] [(.int (0 : Int32))])) _
    refine GoOn.step (fun tq kq => XS.iconst X742.here hx rfl (hb hby at_153) kq) ?_
    show GoOn p e below (T742.setTop (mkF m 154 #[.val (.int p0), .val (.int p1), .val (.int p2), .val (.int p3), .val (.int p4), .val (.int c0), .val (.int c1), .val (.int c2), .val (.int c3), .val (.int (0 : Int32)), .val (.int (2 : Int32)), .val (.ref sa691), .val (.ref sa697), .val (.ref x704), .val (.ref m704)] [(.int (2 : Int32)), (.int (0 : Int32))])) _
    refine GoOn.step (fun tq kq => XS.icmpYes X742.here hx rfl (pc0 := 154) (pc' := 170) rfl (hb hby at_154) rfl (tlt (by decide)).1 (by decide) (by decide) kq) ?_
    show GoOn p e below (T742.setTop (mkF m 170 #[.val (.int p0), .val (.int p1), .val (.int p2), .val (.int p3), .val (.int p4), .val (.int c0), .val (.int c1), .val (.int c2), .val (.int c3), .val (.int (0 : Int32)), .val (.int (2 : Int32)), .val (.ref sa691), .val (.ref sa697), .val (.ref x704), .val (.ref m704)] [])) _
    refine GoOn.step (fun tq kq => XS.aload X742.here hx rfl (hb hby at_170) rfl rfl kq) ?_
    show GoOn p e below (T742.setTop (mkF m 172 #[.val (.int p0), .val (.int p1), .val (.int p2), .val (.int p3), .val (.int p4), .val (.int c0), .val (.int c1), .val (.int c2), .val (.int c3), .val (.int (0 : Int32)), .val (.int (2 : Int32)), .val (.ref sa691), .val (.ref sa697), .val (.ref x704), .val (.ref m704)] [(.ref m704)])) _
    refine GoOn.step (fun tq kq => XS.iload X742.here hx rfl (hb hby at_172) rfl kq) ?_
    show GoOn p e below (T742.setTop (mkF m 174 #[.val (.int p0), .val (.int p1), .val (.int p2), .val (.int p3), .val (.int p4), .val (.int c0), .val (.int c1), .val (.int c2), .val (.int c3), .val (.int (0 : Int32)), .val (.int (2 : Int32)), .val (.ref sa691), .val (.ref sa697), .val (.ref x704), .val (.ref m704)] [(.int (0 : Int32)), (.ref m704)])) _
    obtain ⟨cqc746, kqc746, qac746, qbc746, qcc746⟩ := isOf hZ704 e742 Sr741.1
    obtain ⟨_, _, ⟨T745, L745, k745, n745⟩, -, X745, ⟨Lc745, hQ745, l745, y745, z745⟩, st745⟩ := X742.virtualBack hx (y := (⟨"java/lang/String", "charAt", "(I)C"⟩ : MethodName)) (z := (⟨"java/lang/String", "charAt", "(I)C"⟩ : MethodName)) hown704 (mvT hZ704 (hw _ (List.mem_of_getElem? (i := 201) rfl))) (mvT hZ704 (hw _ (List.mem_of_getElem? (i := 202) rfl))) (notFace_of_selects (args := #[]) (mvT hZ704 (hw _ (List.mem_of_getElem? (i := 204) rfl)))) (mvT hZ704 (hw _ (List.mem_of_getElem? (i := 204) rfl))) (mvT hZ704 (hw _ (List.mem_of_getElem? (i := 203) rfl))) (by decide) (own_chS (n0 := n0) (W := 0) hZ704 hch (kI := 4) (hw _ (List.mem_of_getElem? (i := 7) rfl)) Sr741 (SC.ext O706.2) PC (SF.ext O706.2) rG3 0 (Nat.le_of_ble_eq_true rfl) (by decide) (by decide) (by decide)) qac746 qcc746 (g := (mkF m 174 #[.val (.int p0), .val (.int p1), .val (.int p2), .val (.int p3), .val (.int p4), .val (.int c0), .val (.int c1), .val (.int c2), .val (.int c3), .val (.int (0 : Int32)), .val (.int (2 : Int32)), .val (.ref sa691), .val (.ref sa697), .val (.ref x704), .val (.ref m704)] [(.int (0 : Int32)), (.ref m704)])) rfl (by rw [hml]; rfl) (Steps.refl _) (argsL := [(.int (0 : Int32))]) (rest := []) (lenOf own_pd368 rfl) rfl (by show 2 * 0 + _ ≤ _; exact Nat.le_of_eq rfl) (hb hby at_174) (fun _ _ => ⟨rfl, e742, (by decide : 20 + 0 ≤ _), (by decide : 2872 + 0 ≤ _)⟩)
    dsimp only [Pt.U, Pt.locs, Pt.cells, Pt.slots] at X745 l745 y745 z745 st745 hQ745
    subst l745 y745 z745
    obtain ⟨rfl, N745, e745⟩ := hQ745
    refine GoOn.trans st745 ?_
    have N747 := Fr.app N744 N745
    show GoOn p e below (T745.setTop (mkF m 177 #[.val (.int p0), .val (.int p1), .val (.int p2), .val (.int p3), .val (.int p4), .val (.int c0), .val (.int c1), .val (.int c2), .val (.int c3), .val (.int (0 : Int32)), .val (.int (2 : Int32)), .val (.ref sa691), .val (.ref sa697), .val (.ref x704), .val (.ref m704)] [(.int (58 : Int32))])) _
    refine GoOn.step (fun tq kq => XS.bipush X745.here hx rfl (hb hby at_177) kq) ?_
    show GoOn p e below (T745.setTop (mkF m 179 #[.val (.int p0), .val (.int p1), .val (.int p2), .val (.int p3), .val (.int p4), .val (.int c0), .val (.int c1), .val (.int c2), .val (.int c3), .val (.int (0 : Int32)), .val (.int (2 : Int32)), .val (.ref sa691), .val (.ref sa697), .val (.ref x704), .val (.ref m704)] [(.int (58 : Int32)), (.int (58 : Int32))])) _
    refine GoOn.step (fun tq kq => XS.icmpYes X745.here hx rfl (pc0 := 179) (pc' := 184) rfl (hb hby at_179) rfl (teq rfl).1 (by decide) (by decide) kq) ?_
    show GoOn p e below (T745.setTop (mkF m 184 #[.val (.int p0), .val (.int p1), .val (.int p2), .val (.int p3), .val (.int p4), .val (.int c0), .val (.int c1), .val (.int c2), .val (.int c3), .val (.int (0 : Int32)), .val (.int (2 : Int32)), .val (.ref sa691), .val (.ref sa697), .val (.ref x704), .val (.ref m704)] [])) _
    refine GoOn.step (fun tq kq => XS.aload X745.here hx rfl (hb hby at_184) rfl rfl kq) ?_
    show GoOn p e below (T745.setTop (mkF m 186 #[.val (.int p0), .val (.int p1), .val (.int p2), .val (.int p3), .val (.int p4), .val (.int c0), .val (.int c1), .val (.int c2), .val (.int c3), .val (.int (0 : Int32)), .val (.int (2 : Int32)), .val (.ref sa691), .val (.ref sa697), .val (.ref x704), .val (.ref m704)] [(.ref m704)])) _
    refine GoOn.step (fun tq kq => XS.iload X745.here hx rfl (hb hby at_186) rfl kq) ?_
    show GoOn p e below (T745.setTop (mkF m 188 #[.val (.int p0), .val (.int p1), .val (.int p2), .val (.int p3), .val (.int p4), .val (.int c0), .val (.int c1), .val (.int c2), .val (.int c3), .val (.int (0 : Int32)), .val (.int (2 : Int32)), .val (.ref sa691), .val (.ref sa697), .val (.ref x704), .val (.ref m704)] [(.int (0 : Int32)), (.ref m704)])) _
    refine GoOn.step (fun tq kq => XS.iconst X745.here hx rfl (hb hby at_188) kq) ?_
    show GoOn p e below (T745.setTop (mkF m 189 #[.val (.int p0), .val (.int p1), .val (.int p2), .val (.int p3), .val (.int p4), .val (.int c0), .val (.int c1), .val (.int c2), .val (.int c3), .val (.int (0 : Int32)), .val (.int (2 : Int32)), .val (.ref sa691), .val (.ref sa697), .val (.ref x704), .val (.ref m704)] [(.int (1 : Int32)), (.int (0 : Int32)), (.ref m704)])) _
    refine GoOn.step (fun tq kq => XS.iadd X745.here hx rfl (hb hby at_189) rfl kq) ?_
    show GoOn p e below (T745.setTop (mkF m 190 #[.val (.int p0), .val (.int p1), .val (.int p2), .val (.int p3), .val (.int p4), .val (.int c0), .val (.int c1), .val (.int c2), .val (.int c3), .val (.int (0 : Int32)), .val (.int (2 : Int32)), .val (.ref sa691), .val (.ref sa697), .val (.ref x704), .val (.ref m704)] [(.int ((0 : Int32) + (1 : Int32))), (.ref m704)])) _
    obtain ⟨cqc749, kqc749, qac749, qbc749, qcc749⟩ := isOf hZ704 e745 Sr741.1
    obtain ⟨_, _, ⟨T748, L748, k748, n748⟩, -, X748, ⟨Lc748, hQ748, l748, y748, z748⟩, st748⟩ := X745.virtualBack hx (y := (⟨"java/lang/String", "charAt", "(I)C"⟩ : MethodName)) (z := (⟨"java/lang/String", "charAt", "(I)C"⟩ : MethodName)) hown704 (mvT hZ704 (hw _ (List.mem_of_getElem? (i := 201) rfl))) (mvT hZ704 (hw _ (List.mem_of_getElem? (i := 202) rfl))) (notFace_of_selects (args := #[]) (mvT hZ704 (hw _ (List.mem_of_getElem? (i := 204) rfl)))) (mvT hZ704 (hw _ (List.mem_of_getElem? (i := 204) rfl))) (mvT hZ704 (hw _ (List.mem_of_getElem? (i := 203) rfl))) (by decide) (own_chS (n0 := n0) (W := 0) hZ704 hch (kI := 4) (hw _ (List.mem_of_getElem? (i := 7) rfl)) Sr741 (SC.ext O706.2) PC (SF.ext O706.2) rG3 1 (Nat.le_of_ble_eq_true rfl) (by decide) (by decide) (by decide)) qac749 qcc749 (g := (mkF m 190 #[.val (.int p0), .val (.int p1), .val (.int p2), .val (.int p3), .val (.int p4), .val (.int c0), .val (.int c1), .val (.int c2), .val (.int c3), .val (.int (0 : Int32)), .val (.int (2 : Int32)), .val (.ref sa691), .val (.ref sa697), .val (.ref x704), .val (.ref m704)] [(.int ((0 : Int32) + (1 : Int32))), (.ref m704)])) rfl (by rw [hml]; rfl) (Steps.refl _) (argsL := [(.int ((0 : Int32) + (1 : Int32)))]) (rest := []) (lenOf own_pd368 rfl) rfl (by show 2 * 0 + _ ≤ _; exact Nat.le_of_eq rfl) (hb hby at_190) (fun _ _ => ⟨rfl, e745, (by decide : 20 + 0 ≤ _), (by decide : 2872 + 0 ≤ _)⟩)
    dsimp only [Pt.U, Pt.locs, Pt.cells, Pt.slots] at X748 l748 y748 z748 st748 hQ748
    subst l748 y748 z748
    obtain ⟨rfl, N748, e748⟩ := hQ748
    refine GoOn.trans st748 ?_
    have N750 := Fr.app N747 N748
    show GoOn p e below (T748.setTop (mkF m 193 #[.val (.int p0), .val (.int p1), .val (.int p2), .val (.int p3), .val (.int p4), .val (.int c0), .val (.int c1), .val (.int c2), .val (.int c3), .val (.int (0 : Int32)), .val (.int (2 : Int32)), .val (.ref sa691), .val (.ref sa697), .val (.ref x704), .val (.ref m704)] [(.int (32 : Int32))])) _
    refine GoOn.step (fun tq kq => XS.bipush X748.here hx rfl (hb hby at_193) kq) ?_
    show GoOn p e below (T748.setTop (mkF m 195 #[.val (.int p0), .val (.int p1), .val (.int p2), .val (.int p3), .val (.int p4), .val (.int c0), .val (.int c1), .val (.int c2), .val (.int c3), .val (.int (0 : Int32)), .val (.int (2 : Int32)), .val (.ref sa691), .val (.ref sa697), .val (.ref x704), .val (.ref m704)] [(.int (32 : Int32)), (.int (32 : Int32))])) _
    refine GoOn.step (fun tq kq => XS.icmpYes X748.here hx rfl (pc0 := 195) (pc' := 200) rfl (hb hby at_195) rfl (teq rfl).1 (by decide) (by decide) kq) ?_
    show GoOn p e below (T748.setTop (mkF m 200 #[.val (.int p0), .val (.int p1), .val (.int p2), .val (.int p3), .val (.int p4), .val (.int c0), .val (.int c1), .val (.int c2), .val (.int c3), .val (.int (0 : Int32)), .val (.int (2 : Int32)), .val (.ref sa691), .val (.ref sa697), .val (.ref x704), .val (.ref m704)] [])) _
    refine GoOn.step (fun tq kq => XS.iload X748.here hx rfl (hb hby at_200) rfl kq) ?_
    show GoOn p e below (T748.setTop (mkF m 202 #[.val (.int p0), .val (.int p1), .val (.int p2), .val (.int p3), .val (.int p4), .val (.int c0), .val (.int c1), .val (.int c2), .val (.int c3), .val (.int (0 : Int32)), .val (.int (2 : Int32)), .val (.ref sa691), .val (.ref sa697), .val (.ref x704), .val (.ref m704)] [(.int (2 : Int32))])) _
    refine GoOn.step (fun tq kq => XS.iconst X748.here hx rfl (hb hby at_202) kq) ?_
    show GoOn p e below (T748.setTop (mkF m 203 #[.val (.int p0), .val (.int p1), .val (.int p2), .val (.int p3), .val (.int p4), .val (.int c0), .val (.int c1), .val (.int c2), .val (.int c3), .val (.int (0 : Int32)), .val (.int (2 : Int32)), .val (.ref sa691), .val (.ref sa697), .val (.ref x704), .val (.ref m704)] [(.int (1 : Int32)), (.int (2 : Int32))])) _
    refine GoOn.step (fun tq kq => XS.icmpNo X748.here hx rfl (hb hby at_203) rfl (flt (by decide)).1 kq) ?_
    show GoOn p e below (T748.setTop (mkF m 206 #[.val (.int p0), .val (.int p1), .val (.int p2), .val (.int p3), .val (.int p4), .val (.int c0), .val (.int c1), .val (.int c2), .val (.int c3), .val (.int (0 : Int32)), .val (.int (2 : Int32)), .val (.ref sa691), .val (.ref sa697), .val (.ref x704), .val (.ref m704)] [])) _
    refine GoOn.step (fun tq kq => XS.aload X748.here hx rfl (hb hby at_206) rfl rfl kq) ?_
    show GoOn p e below (T748.setTop (mkF m 208 #[.val (.int p0), .val (.int p1), .val (.int p2), .val (.int p3), .val (.int p4), .val (.int c0), .val (.int c1), .val (.int c2), .val (.int c3), .val (.int (0 : Int32)), .val (.int (2 : Int32)), .val (.ref sa691), .val (.ref sa697), .val (.ref x704), .val (.ref m704)] [(.ref m704)])) _
    refine GoOn.step (fun tq kq => XS.iload X748.here hx rfl (hb hby at_208) rfl kq) ?_
    show GoOn p e below (T748.setTop (mkF m 210 #[.val (.int p0), .val (.int p1), .val (.int p2), .val (.int p3), .val (.int p4), .val (.int c0), .val (.int c1), .val (.int c2), .val (.int c3), .val (.int (0 : Int32)), .val (.int (2 : Int32)), .val (.ref sa691), .val (.ref sa697), .val (.ref x704), .val (.ref m704)] [(.int (0 : Int32)), (.ref m704)])) _
    refine GoOn.step (fun tq kq => XS.iconst X748.here hx rfl (hb hby at_210) kq) ?_
    show GoOn p e below (T748.setTop (mkF m 211 #[.val (.int p0), .val (.int p1), .val (.int p2), .val (.int p3), .val (.int p4), .val (.int c0), .val (.int c1), .val (.int c2), .val (.int c3), .val (.int (0 : Int32)), .val (.int (2 : Int32)), .val (.ref sa691), .val (.ref sa697), .val (.ref x704), .val (.ref m704)] [(.int (2 : Int32)), (.int (0 : Int32)), (.ref m704)])) _
    refine GoOn.step (fun tq kq => XS.iadd X748.here hx rfl (hb hby at_211) rfl kq) ?_
    show GoOn p e below (T748.setTop (mkF m 212 #[.val (.int p0), .val (.int p1), .val (.int p2), .val (.int p3), .val (.int p4), .val (.int c0), .val (.int c1), .val (.int c2), .val (.int c3), .val (.int (0 : Int32)), .val (.int (2 : Int32)), .val (.ref sa691), .val (.ref sa697), .val (.ref x704), .val (.ref m704)] [(.int ((0 : Int32) + (2 : Int32))), (.ref m704)])) _
    obtain ⟨cqc752, kqc752, qac752, qbc752, qcc752⟩ := isOf hZ704 e748 Sr741.1
    obtain ⟨_, _, ⟨T751, L751, k751, n751⟩, -, X751, ⟨Lc751, hQ751, l751, y751, z751⟩, st751⟩ := X748.virtualBack hx (y := (⟨"java/lang/String", "charAt", "(I)C"⟩ : MethodName)) (z := (⟨"java/lang/String", "charAt", "(I)C"⟩ : MethodName)) hown704 (mvT hZ704 (hw _ (List.mem_of_getElem? (i := 201) rfl))) (mvT hZ704 (hw _ (List.mem_of_getElem? (i := 202) rfl))) (notFace_of_selects (args := #[]) (mvT hZ704 (hw _ (List.mem_of_getElem? (i := 204) rfl)))) (mvT hZ704 (hw _ (List.mem_of_getElem? (i := 204) rfl))) (mvT hZ704 (hw _ (List.mem_of_getElem? (i := 203) rfl))) (by decide) (own_chS (n0 := n0) (W := 0) hZ704 hch (kI := 4) (hw _ (List.mem_of_getElem? (i := 7) rfl)) Sr741 (SC.ext O706.2) PC (SF.ext O706.2) rG3 2 (Nat.le_of_ble_eq_true rfl) (by decide) (by decide) (by decide)) qac752 qcc752 (g := (mkF m 212 #[.val (.int p0), .val (.int p1), .val (.int p2), .val (.int p3), .val (.int p4), .val (.int c0), .val (.int c1), .val (.int c2), .val (.int c3), .val (.int (0 : Int32)), .val (.int (2 : Int32)), .val (.ref sa691), .val (.ref sa697), .val (.ref x704), .val (.ref m704)] [(.int ((0 : Int32) + (2 : Int32))), (.ref m704)])) rfl (by rw [hml]; rfl) (Steps.refl _) (argsL := [(.int ((0 : Int32) + (2 : Int32)))]) (rest := []) (lenOf own_pd368 rfl) rfl (by show 2 * 0 + _ ≤ _; exact Nat.le_of_eq rfl) (hb hby at_212) (fun _ _ => ⟨rfl, e748, (by decide : 20 + 0 ≤ _), (by decide : 2872 + 0 ≤ _)⟩)
    dsimp only [Pt.U, Pt.locs, Pt.cells, Pt.slots] at X751 l751 y751 z751 st751 hQ751
    subst l751 y751 z751
    obtain ⟨rfl, N751, e751⟩ := hQ751
    refine GoOn.trans st751 ?_
    have N753 := Fr.app N750 N751
    show GoOn p e below (T751.setTop (mkF m 215 #[.val (.int p0), .val (.int p1), .val (.int p2), .val (.int p3), .val (.int p4), .val (.int c0), .val (.int c1), .val (.int c2), .val (.int c3), .val (.int (0 : Int32)), .val (.int (2 : Int32)), .val (.ref sa691), .val (.ref sa697), .val (.ref x704), .val (.ref m704)] [(.int c2)])) _
    refine GoOn.step (fun tq kq => XS.iload X751.here hx rfl (hb hby at_215) rfl kq) ?_
    show GoOn p e below (T751.setTop (mkF m 217 #[.val (.int p0), .val (.int p1), .val (.int p2), .val (.int p3), .val (.int p4), .val (.int c0), .val (.int c1), .val (.int c2), .val (.int c3), .val (.int (0 : Int32)), .val (.int (2 : Int32)), .val (.ref sa691), .val (.ref sa697), .val (.ref x704), .val (.ref m704)] [(.int c2), (.int c2)])) _
    refine GoOn.step (fun tq kq => XS.icmpYes X751.here hx rfl (pc0 := 217) (pc' := 222) rfl (hb hby at_217) rfl (teq rfl).1 (by decide) (by decide) kq) ?_
    show GoOn p e below (T751.setTop (mkF m 222 #[.val (.int p0), .val (.int p1), .val (.int p2), .val (.int p3), .val (.int p4), .val (.int c0), .val (.int c1), .val (.int c2), .val (.int c3), .val (.int (0 : Int32)), .val (.int (2 : Int32)), .val (.ref sa691), .val (.ref sa697), .val (.ref x704), .val (.ref m704)] [])) _
    refine GoOn.step (fun tq kq => XS.iload X751.here hx rfl (hb hby at_222) rfl kq) ?_
    show GoOn p e below (T751.setTop (mkF m 224 #[.val (.int p0), .val (.int p1), .val (.int p2), .val (.int p3), .val (.int p4), .val (.int c0), .val (.int c1), .val (.int c2), .val (.int c3), .val (.int (0 : Int32)), .val (.int (2 : Int32)), .val (.ref sa691), .val (.ref sa697), .val (.ref x704), .val (.ref m704)] [(.int (2 : Int32))])) _
    refine GoOn.step (fun tq kq => XS.iconst X751.here hx rfl (hb hby at_224) kq) ?_
    show GoOn p e below (T751.setTop (mkF m 225 #[.val (.int p0), .val (.int p1), .val (.int p2), .val (.int p3), .val (.int p4), .val (.int c0), .val (.int c1), .val (.int c2), .val (.int c3), .val (.int (0 : Int32)), .val (.int (2 : Int32)), .val (.ref sa691), .val (.ref sa697), .val (.ref x704), .val (.ref m704)] [(.int (2 : Int32)), (.int (2 : Int32))])) _
    refine GoOn.step (fun tq kq => XS.icmpNo X751.here hx rfl (hb hby at_225) rfl (flt (by decide)).1 kq) ?_
    show GoOn p e below (T751.setTop (mkF m 228 #[.val (.int p0), .val (.int p1), .val (.int p2), .val (.int p3), .val (.int p4), .val (.int c0), .val (.int c1), .val (.int c2), .val (.int c3), .val (.int (0 : Int32)), .val (.int (2 : Int32)), .val (.ref sa691), .val (.ref sa697), .val (.ref x704), .val (.ref m704)] [])) _
    refine GoOn.step (fun tq kq => XS.aload X751.here hx rfl (hb hby at_228) rfl rfl kq) ?_
    show GoOn p e below (T751.setTop (mkF m 230 #[.val (.int p0), .val (.int p1), .val (.int p2), .val (.int p3), .val (.int p4), .val (.int c0), .val (.int c1), .val (.int c2), .val (.int c3), .val (.int (0 : Int32)), .val (.int (2 : Int32)), .val (.ref sa691), .val (.ref sa697), .val (.ref x704), .val (.ref m704)] [(.ref m704)])) _
    refine GoOn.step (fun tq kq => XS.iload X751.here hx rfl (hb hby at_230) rfl kq) ?_
    show GoOn p e below (T751.setTop (mkF m 232 #[.val (.int p0), .val (.int p1), .val (.int p2), .val (.int p3), .val (.int p4), .val (.int c0), .val (.int c1), .val (.int c2), .val (.int c3), .val (.int (0 : Int32)), .val (.int (2 : Int32)), .val (.ref sa691), .val (.ref sa697), .val (.ref x704), .val (.ref m704)] [(.int (0 : Int32)), (.ref m704)])) _
    refine GoOn.step (fun tq kq => XS.iconst X751.here hx rfl (hb hby at_232) kq) ?_
    show GoOn p e below (T751.setTop (mkF m 233 #[.val (.int p0), .val (.int p1), .val (.int p2), .val (.int p3), .val (.int p4), .val (.int c0), .val (.int c1), .val (.int c2), .val (.int c3), .val (.int (0 : Int32)), .val (.int (2 : Int32)), .val (.ref sa691), .val (.ref sa697), .val (.ref x704), .val (.ref m704)] [(.int (3 : Int32)), (.int (0 : Int32)), (.ref m704)])) _
    refine GoOn.step (fun tq kq => XS.iadd X751.here hx rfl (hb hby at_233) rfl kq) ?_
    show GoOn p e below (T751.setTop (mkF m 234 #[.val (.int p0), .val (.int p1), .val (.int p2), .val (.int p3), .val (.int p4), .val (.int c0), .val (.int c1), .val (.int c2), .val (.int c3), .val (.int (0 : Int32)), .val (.int (2 : Int32)), .val (.ref sa691), .val (.ref sa697), .val (.ref x704), .val (.ref m704)] [(.int ((0 : Int32) + (3 : Int32))), (.ref m704)])) _
    obtain ⟨cqc755, kqc755, qac755, qbc755, qcc755⟩ := isOf hZ704 e751 Sr741.1
    obtain ⟨_, _, ⟨T754, L754, k754, n754⟩, -, X754, ⟨Lc754, hQ754, l754, y754, z754⟩, st754⟩ := X751.virtualBack hx (y := (⟨"java/lang/String", "charAt", "(I)C"⟩ : MethodName)) (z := (⟨"java/lang/String", "charAt", "(I)C"⟩ : MethodName)) hown704 (mvT hZ704 (hw _ (List.mem_of_getElem? (i := 201) rfl))) (mvT hZ704 (hw _ (List.mem_of_getElem? (i := 202) rfl))) (notFace_of_selects (args := #[]) (mvT hZ704 (hw _ (List.mem_of_getElem? (i := 204) rfl)))) (mvT hZ704 (hw _ (List.mem_of_getElem? (i := 204) rfl))) (mvT hZ704 (hw _ (List.mem_of_getElem? (i := 203) rfl))) (by decide) (own_chS (n0 := n0) (W := 0) hZ704 hch (kI := 4) (hw _ (List.mem_of_getElem? (i := 7) rfl)) Sr741 (SC.ext O706.2) PC (SF.ext O706.2) rG3 3 (Nat.le_of_ble_eq_true rfl) (by decide) (by decide) (by decide)) qac755 qcc755 (g := (mkF m 234 #[.val (.int p0), .val (.int p1), .val (.int p2), .val (.int p3), .val (.int p4), .val (.int c0), .val (.int c1), .val (.int c2), .val (.int c3), .val (.int (0 : Int32)), .val (.int (2 : Int32)), .val (.ref sa691), .val (.ref sa697), .val (.ref x704), .val (.ref m704)] [(.int ((0 : Int32) + (3 : Int32))), (.ref m704)])) rfl (by rw [hml]; rfl) (Steps.refl _) (argsL := [(.int ((0 : Int32) + (3 : Int32)))]) (rest := []) (lenOf own_pd368 rfl) rfl (by show 2 * 0 + _ ≤ _; exact Nat.le_of_eq rfl) (hb hby at_234) (fun _ _ => ⟨rfl, e751, (by decide : 20 + 0 ≤ _), (by decide : 2872 + 0 ≤ _)⟩)
    dsimp only [Pt.U, Pt.locs, Pt.cells, Pt.slots] at X754 l754 y754 z754 st754 hQ754
    subst l754 y754 z754
    obtain ⟨rfl, N754, e754⟩ := hQ754
    refine GoOn.trans st754 ?_
    have N756 := Fr.app N753 N754
    show GoOn p e below (T754.setTop (mkF m 237 #[.val (.int p0), .val (.int p1), .val (.int p2), .val (.int p3), .val (.int p4), .val (.int c0), .val (.int c1), .val (.int c2), .val (.int c3), .val (.int (0 : Int32)), .val (.int (2 : Int32)), .val (.ref sa691), .val (.ref sa697), .val (.ref x704), .val (.ref m704)] [(.int c3)])) _
    refine GoOn.step (fun tq kq => XS.iload X754.here hx rfl (hb hby at_237) rfl kq) ?_
    show GoOn p e below (T754.setTop (mkF m 239 #[.val (.int p0), .val (.int p1), .val (.int p2), .val (.int p3), .val (.int p4), .val (.int c0), .val (.int c1), .val (.int c2), .val (.int c3), .val (.int (0 : Int32)), .val (.int (2 : Int32)), .val (.ref sa691), .val (.ref sa697), .val (.ref x704), .val (.ref m704)] [(.int c3), (.int c3)])) _
    refine GoOn.step (fun tq kq => XS.icmpYes X754.here hx rfl (pc0 := 239) (pc' := 244) rfl (hb hby at_239) rfl (teq rfl).1 (by decide) (by decide) kq) ?_
    show GoOn p e below (T754.setTop (mkF m 244 #[.val (.int p0), .val (.int p1), .val (.int p2), .val (.int p3), .val (.int p4), .val (.int c0), .val (.int c1), .val (.int c2), .val (.int c3), .val (.int (0 : Int32)), .val (.int (2 : Int32)), .val (.ref sa691), .val (.ref sa697), .val (.ref x704), .val (.ref m704)] [])) _
    refine GoOn.step (fun tq kq => XS.iconst X754.here hx rfl (hb hby at_244) kq) ?_
    show GoOn p e below (T754.setTop (mkF m 245 #[.val (.int p0), .val (.int p1), .val (.int p2), .val (.int p3), .val (.int p4), .val (.int c0), .val (.int c1), .val (.int c2), .val (.int c3), .val (.int (0 : Int32)), .val (.int (2 : Int32)), .val (.ref sa691), .val (.ref sa697), .val (.ref x704), .val (.ref m704)] [(.int (1 : Int32))])) _
    refine GoOn.retH X754 hZ704 hSn704 (hk704) hEL hh e754 C709 Bd.notSynchronized (v := some (.int (nar .boolean (1 : Int32)))) (fun h => by rw [Bd.returns] at h; cases h) (fun fs hr => retN X754 hx (t := .boolean) Bd.returns (by simp) (hb hby at_245) hr) (by decide) (by decide) ?_
    exact ⟨rfl, N756⟩
  · skip
    have Sr757 : StrIs Z T704.heap m704 ([c0, 58, 32] : List Int32) := S704
    show GoOn p e below (T715.setTop (mkF m 117 #[.val (.int p0), .val (.int p1), .val (.int p2), .val (.int p3), .val (.int p4), .val (.int c0), .val (.int c1), .val (.int c2), .val (.int c3), .val (.int (1 : Int32)), .val (.int (0 : Int32)), .val (.ref sa691), .val (.ref sa697), .val (.ref x704), .val (.ref m704)] [(.ref m704)])) _
    obtain ⟨cqc759, kqc759, qac759, qbc759, qcc759⟩ := isOf hZ704 e715 Sr757.1
    obtain ⟨_, _, ⟨T758, L758, k758, n758⟩, -, X758, ⟨Lc758, hQ758, l758, y758, z758⟩, st758⟩ := X715.virtualBack hx (y := (⟨"java/lang/String", "length", "()I"⟩ : MethodName)) (z := (⟨"java/lang/String", "length", "()I"⟩ : MethodName)) hown704 (mvT hZ704 (hw _ (List.mem_of_getElem? (i := 200) rfl))) (mvT hZ704 (hw _ (List.mem_of_getElem? (i := 50) rfl))) (notFace_of_selects (args := #[]) (mvT hZ704 (hw _ (List.mem_of_getElem? (i := 52) rfl)))) (mvT hZ704 (hw _ (List.mem_of_getElem? (i := 52) rfl))) (mvT hZ704 (hw _ (List.mem_of_getElem? (i := 51) rfl))) (by decide) (backOf (W := 0) (rmLen l Z a0 hw m704 ([c0, 58, 32] : List Int32) G1 T704.heap n0 Z707 SC PC Sr757 O706) hZ704 (hw _ (List.mem_of_getElem? (i := 53) rfl)) (hw _ (List.mem_of_getElem? (i := 6) rfl)) (by decide) (by decide)) qac759 qcc759 (g := (mkF m 117 #[.val (.int p0), .val (.int p1), .val (.int p2), .val (.int p3), .val (.int p4), .val (.int c0), .val (.int c1), .val (.int c2), .val (.int c3), .val (.int (1 : Int32)), .val (.int (0 : Int32)), .val (.ref sa691), .val (.ref sa697), .val (.ref x704), .val (.ref m704)] [(.ref m704)])) rfl (by rw [hml]; rfl) (Steps.refl _) (argsL := []) (rest := []) (lenOf own_pd181 rfl) rfl (by show 2 * 0 + _ ≤ _; exact Nat.le_of_eq rfl) (hb hby at_117) (fun _ _ => ⟨rfl, e715, (by decide : 20 + 0 ≤ _), (by decide : 2872 + 0 ≤ _)⟩)
    dsimp only [Pt.U, Pt.locs, Pt.cells, Pt.slots] at X758 l758 y758 z758 st758 hQ758
    subst l758 y758 z758
    obtain ⟨rfl, N758, e758⟩ := hQ758
    refine GoOn.trans st758 ?_
    have N760 := Fr.app N717 N758
    show GoOn p e below (T758.setTop (mkF m 120 #[.val (.int p0), .val (.int p1), .val (.int p2), .val (.int p3), .val (.int p4), .val (.int c0), .val (.int c1), .val (.int c2), .val (.int c3), .val (.int (1 : Int32)), .val (.int (0 : Int32)), .val (.ref sa691), .val (.ref sa697), .val (.ref x704), .val (.ref m704)] [(.int (3 : Int32))])) _
    refine GoOn.step (fun tq kq => XS.iload X758.here hx rfl (hb hby at_120) rfl kq) ?_
    show GoOn p e below (T758.setTop (mkF m 122 #[.val (.int p0), .val (.int p1), .val (.int p2), .val (.int p3), .val (.int p4), .val (.int c0), .val (.int c1), .val (.int c2), .val (.int c3), .val (.int (1 : Int32)), .val (.int (0 : Int32)), .val (.ref sa691), .val (.ref sa697), .val (.ref x704), .val (.ref m704)] [(.int (1 : Int32)), (.int (3 : Int32))])) _
    refine GoOn.step (fun tq kq => XS.iconst X758.here hx rfl (hb hby at_122) kq) ?_
    show GoOn p e below (T758.setTop (mkF m 123 #[.val (.int p0), .val (.int p1), .val (.int p2), .val (.int p3), .val (.int p4), .val (.int c0), .val (.int c1), .val (.int c2), .val (.int c3), .val (.int (1 : Int32)), .val (.int (0 : Int32)), .val (.ref sa691), .val (.ref sa697), .val (.ref x704), .val (.ref m704)] [(.int (2 : Int32)), (.int (1 : Int32)), (.int (3 : Int32))])) _
    refine GoOn.step (fun tq kq => XS.iadd X758.here hx rfl (hb hby at_123) rfl kq) ?_
    show GoOn p e below (T758.setTop (mkF m 124 #[.val (.int p0), .val (.int p1), .val (.int p2), .val (.int p3), .val (.int p4), .val (.int c0), .val (.int c1), .val (.int c2), .val (.int c3), .val (.int (1 : Int32)), .val (.int (0 : Int32)), .val (.ref sa691), .val (.ref sa697), .val (.ref x704), .val (.ref m704)] [(.int ((1 : Int32) + (2 : Int32))), (.int (3 : Int32))])) _
    refine GoOn.step (fun tq kq => XS.iload X758.here hx rfl (hb hby at_124) rfl kq) ?_
    show GoOn p e below (T758.setTop (mkF m 126 #[.val (.int p0), .val (.int p1), .val (.int p2), .val (.int p3), .val (.int p4), .val (.int c0), .val (.int c1), .val (.int c2), .val (.int c3), .val (.int (1 : Int32)), .val (.int (0 : Int32)), .val (.ref sa691), .val (.ref sa697), .val (.ref x704), .val (.ref m704)] [(.int (0 : Int32)), (.int ((1 : Int32) + (2 : Int32))), (.int (3 : Int32))])) _
    refine GoOn.step (fun tq kq => XS.iadd X758.here hx rfl (hb hby at_126) rfl kq) ?_
    show GoOn p e below (T758.setTop (mkF m 127 #[.val (.int p0), .val (.int p1), .val (.int p2), .val (.int p3), .val (.int p4), .val (.int c0), .val (.int c1), .val (.int c2), .val (.int c3), .val (.int (1 : Int32)), .val (.int (0 : Int32)), .val (.ref sa691), .val (.ref sa697), .val (.ref x704), .val (.ref m704)] [(.int (((1 : Int32) + (2 : Int32)) + (0 : Int32))), (.int (3 : Int32))])) _
    refine GoOn.step (fun tq kq => XS.icmpYes X758.here hx rfl (pc0 := 127) (pc' := 132) rfl (hb hby at_127) rfl (teq (by decide)).1 (by decide) (by decide) kq) ?_
    show GoOn p e below (T758.setTop (mkF m 132 #[.val (.int p0), .val (.int p1), .val (.int p2), .val (.int p3), .val (.int p4), .val (.int c0), .val (.int c1), .val (.int c2), .val (.int c3), .val (.int (1 : Int32)), .val (.int (0 : Int32)), .val (.ref sa691), .val (.ref sa697), .val (.ref x704), .val (.ref m704)] [])) _
    refine GoOn.step (fun tq kq => XS.iload X758.here hx rfl (hb hby at_132) rfl kq) ?_
    show GoOn p e below (T758.setTop (mkF m 134 #[.val (.int p0), .val (.int p1), .val (.int p2), .val (.int p3), .val (.int p4), .val (.int c0), .val (.int c1), .val (.int c2), .val (.int c3), .val (.int (1 : Int32)), .val (.int (0 : Int32)), .val (.ref sa691), .val (.ref sa697), .val (.ref x704), .val (.ref m704)] [(.int (1 : Int32))])) _
    refine GoOn.step (fun tq kq => XS.iconst X758.here hx rfl (hb hby at_134) kq) ?_
    show GoOn p e below (T758.setTop (mkF m 135 #[.val (.int p0), .val (.int p1), .val (.int p2), .val (.int p3), .val (.int p4), .val (.int c0), .val (.int c1), .val (.int c2), .val (.int c3), .val (.int (1 : Int32)), .val (.int (0 : Int32)), .val (.ref sa691), .val (.ref sa697), .val (.ref x704), .val (.ref m704)] [(.int (1 : Int32)), (.int (1 : Int32))])) _
    refine GoOn.step (fun tq kq => XS.icmpNo X758.here hx rfl (hb hby at_135) rfl (flt (by decide)).1 kq) ?_
    show GoOn p e below (T758.setTop (mkF m 138 #[.val (.int p0), .val (.int p1), .val (.int p2), .val (.int p3), .val (.int p4), .val (.int c0), .val (.int c1), .val (.int c2), .val (.int c3), .val (.int (1 : Int32)), .val (.int (0 : Int32)), .val (.ref sa691), .val (.ref sa697), .val (.ref x704), .val (.ref m704)] [])) _
    refine GoOn.step (fun tq kq => XS.aload X758.here hx rfl (hb hby at_138) rfl rfl kq) ?_
    show GoOn p e below (T758.setTop (mkF m 140 #[.val (.int p0), .val (.int p1), .val (.int p2), .val (.int p3), .val (.int p4), .val (.int c0), .val (.int c1), .val (.int c2), .val (.int c3), .val (.int (1 : Int32)), .val (.int (0 : Int32)), .val (.ref sa691), .val (.ref sa697), .val (.ref x704), .val (.ref m704)] [(.ref m704)])) _
    refine GoOn.step (fun tq kq => XS.iconst X758.here hx rfl (hb hby at_140) kq) ?_
    show GoOn p e below (T758.setTop (mkF m 141 #[.val (.int p0), .val (.int p1), .val (.int p2), .val (.int p3), .val (.int p4), .val (.int c0), .val (.int c1), .val (.int c2), .val (.int c3), .val (.int (1 : Int32)), .val (.int (0 : Int32)), .val (.ref sa691), .val (.ref sa697), .val (.ref x704), .val (.ref m704)] [(.int (0 : Int32)), (.ref m704)])) _
    obtain ⟨cqc762, kqc762, qac762, qbc762, qcc762⟩ := isOf hZ704 e758 Sr757.1
    obtain ⟨_, _, ⟨T761, L761, k761, n761⟩, -, X761, ⟨Lc761, hQ761, l761, y761, z761⟩, st761⟩ := X758.virtualBack hx (y := (⟨"java/lang/String", "charAt", "(I)C"⟩ : MethodName)) (z := (⟨"java/lang/String", "charAt", "(I)C"⟩ : MethodName)) hown704 (mvT hZ704 (hw _ (List.mem_of_getElem? (i := 201) rfl))) (mvT hZ704 (hw _ (List.mem_of_getElem? (i := 202) rfl))) (notFace_of_selects (args := #[]) (mvT hZ704 (hw _ (List.mem_of_getElem? (i := 204) rfl)))) (mvT hZ704 (hw _ (List.mem_of_getElem? (i := 204) rfl))) (mvT hZ704 (hw _ (List.mem_of_getElem? (i := 203) rfl))) (by decide) (own_chS (n0 := n0) (W := 0) hZ704 hch (kI := 4) (hw _ (List.mem_of_getElem? (i := 7) rfl)) Sr757 (SC.ext O706.2) PC (SF.ext O706.2) rG3 0 (Nat.le_of_ble_eq_true rfl) (by decide) (by decide) (by decide)) qac762 qcc762 (g := (mkF m 141 #[.val (.int p0), .val (.int p1), .val (.int p2), .val (.int p3), .val (.int p4), .val (.int c0), .val (.int c1), .val (.int c2), .val (.int c3), .val (.int (1 : Int32)), .val (.int (0 : Int32)), .val (.ref sa691), .val (.ref sa697), .val (.ref x704), .val (.ref m704)] [(.int (0 : Int32)), (.ref m704)])) rfl (by rw [hml]; rfl) (Steps.refl _) (argsL := [(.int (0 : Int32))]) (rest := []) (lenOf own_pd368 rfl) rfl (by show 2 * 0 + _ ≤ _; exact Nat.le_of_eq rfl) (hb hby at_141) (fun _ _ => ⟨rfl, e758, (by decide : 20 + 0 ≤ _), (by decide : 2872 + 0 ≤ _)⟩)
    dsimp only [Pt.U, Pt.locs, Pt.cells, Pt.slots] at X761 l761 y761 z761 st761 hQ761
    subst l761 y761 z761
    obtain ⟨rfl, N761, e761⟩ := hQ761
    refine GoOn.trans st761 ?_
    have N763 := Fr.app N760 N761
    show GoOn p e below (T761.setTop (mkF m 144 #[.val (.int p0), .val (.int p1), .val (.int p2), .val (.int p3), .val (.int p4), .val (.int c0), .val (.int c1), .val (.int c2), .val (.int c3), .val (.int (1 : Int32)), .val (.int (0 : Int32)), .val (.ref sa691), .val (.ref sa697), .val (.ref x704), .val (.ref m704)] [(.int c0)])) _
    refine GoOn.step (fun tq kq => XS.iload X761.here hx rfl (hb hby at_144) rfl kq) ?_
    show GoOn p e below (T761.setTop (mkF m 146 #[.val (.int p0), .val (.int p1), .val (.int p2), .val (.int p3), .val (.int p4), .val (.int c0), .val (.int c1), .val (.int c2), .val (.int c3), .val (.int (1 : Int32)), .val (.int (0 : Int32)), .val (.ref sa691), .val (.ref sa697), .val (.ref x704), .val (.ref m704)] [(.int c0), (.int c0)])) _
    refine GoOn.step (fun tq kq => XS.icmpYes X761.here hx rfl (pc0 := 146) (pc' := 151) rfl (hb hby at_146) rfl (teq rfl).1 (by decide) (by decide) kq) ?_
    show GoOn p e below (T761.setTop (mkF m 151 #[.val (.int p0), .val (.int p1), .val (.int p2), .val (.int p3), .val (.int p4), .val (.int c0), .val (.int c1), .val (.int c2), .val (.int c3), .val (.int (1 : Int32)), .val (.int (0 : Int32)), .val (.ref sa691), .val (.ref sa697), .val (.ref x704), .val (.ref m704)] [])) _
    refine GoOn.step (fun tq kq => XS.iload X761.here hx rfl (hb hby at_151) rfl kq) ?_
    show GoOn p e below (T761.setTop (mkF m 153 #[.val (.int p0), .val (.int p1), .val (.int p2), .val (.int p3), .val (.int p4), .val (.int c0), .val (.int c1), .val (.int c2), .val (.int c3), .val (.int (1 : Int32)), .val (.int (0 : Int32)), .val (.ref sa691), .val (.ref sa697), .val (.ref x704), .val (.ref m704)] [(.int (1 : Int32))])) _
    refine GoOn.step (fun tq kq => XS.iconst X761.here hx rfl (hb hby at_153) kq) ?_
    show GoOn p e below (T761.setTop (mkF m 154 #[.val (.int p0), .val (.int p1), .val (.int p2), .val (.int p3), .val (.int p4), .val (.int c0), .val (.int c1), .val (.int c2), .val (.int c3), .val (.int (1 : Int32)), .val (.int (0 : Int32)), .val (.ref sa691), .val (.ref sa697), .val (.ref x704), .val (.ref m704)] [(.int (2 : Int32)), (.int (1 : Int32))])) _
    refine GoOn.step (fun tq kq => XS.icmpYes X761.here hx rfl (pc0 := 154) (pc' := 170) rfl (hb hby at_154) rfl (tlt (by decide)).1 (by decide) (by decide) kq) ?_
    show GoOn p e below (T761.setTop (mkF m 170 #[.val (.int p0), .val (.int p1), .val (.int p2), .val (.int p3), .val (.int p4), .val (.int c0), .val (.int c1), .val (.int c2), .val (.int c3), .val (.int (1 : Int32)), .val (.int (0 : Int32)), .val (.ref sa691), .val (.ref sa697), .val (.ref x704), .val (.ref m704)] [])) _
    refine GoOn.step (fun tq kq => XS.aload X761.here hx rfl (hb hby at_170) rfl rfl kq) ?_
    show GoOn p e below (T761.setTop (mkF m 172 #[.val (.int p0), .val (.int p1), .val (.int p2), .val (.int p3), .val (.int p4), .val (.int c0), .val (.int c1), .val (.int c2), .val (.int c3), .val (.int (1 : Int32)), .val (.int (0 : Int32)), .val (.ref sa691), .val (.ref sa697), .val (.ref x704), .val (.ref m704)] [(.ref m704)])) _
    refine GoOn.step (fun tq kq => XS.iload X761.here hx rfl (hb hby at_172) rfl kq) ?_
    show GoOn p e below (T761.setTop (mkF m 174 #[.val (.int p0), .val (.int p1), .val (.int p2), .val (.int p3), .val (.int p4), .val (.int c0), .val (.int c1), .val (.int c2), .val (.int c3), .val (.int (1 : Int32)), .val (.int (0 : Int32)), .val (.ref sa691), .val (.ref sa697), .val (.ref x704), .val (.ref m704)] [(.int (1 : Int32)), (.ref m704)])) _
    obtain ⟨cqc765, kqc765, qac765, qbc765, qcc765⟩ := isOf hZ704 e761 Sr757.1
    obtain ⟨_, _, ⟨T764, L764, k764, n764⟩, -, X764, ⟨Lc764, hQ764, l764, y764, z764⟩, st764⟩ := X761.virtualBack hx (y := (⟨"java/lang/String", "charAt", "(I)C"⟩ : MethodName)) (z := (⟨"java/lang/String", "charAt", "(I)C"⟩ : MethodName)) hown704 (mvT hZ704 (hw _ (List.mem_of_getElem? (i := 201) rfl))) (mvT hZ704 (hw _ (List.mem_of_getElem? (i := 202) rfl))) (notFace_of_selects (args := #[]) (mvT hZ704 (hw _ (List.mem_of_getElem? (i := 204) rfl)))) (mvT hZ704 (hw _ (List.mem_of_getElem? (i := 204) rfl))) (mvT hZ704 (hw _ (List.mem_of_getElem? (i := 203) rfl))) (by decide) (own_chS (n0 := n0) (W := 0) hZ704 hch (kI := 4) (hw _ (List.mem_of_getElem? (i := 7) rfl)) Sr757 (SC.ext O706.2) PC (SF.ext O706.2) rG3 1 (Nat.le_of_ble_eq_true rfl) (by decide) (by decide) (by decide)) qac765 qcc765 (g := (mkF m 174 #[.val (.int p0), .val (.int p1), .val (.int p2), .val (.int p3), .val (.int p4), .val (.int c0), .val (.int c1), .val (.int c2), .val (.int c3), .val (.int (1 : Int32)), .val (.int (0 : Int32)), .val (.ref sa691), .val (.ref sa697), .val (.ref x704), .val (.ref m704)] [(.int (1 : Int32)), (.ref m704)])) rfl (by rw [hml]; rfl) (Steps.refl _) (argsL := [(.int (1 : Int32))]) (rest := []) (lenOf own_pd368 rfl) rfl (by show 2 * 0 + _ ≤ _; exact Nat.le_of_eq rfl) (hb hby at_174) (fun _ _ => ⟨rfl, e761, (by decide : 20 + 0 ≤ _), (by decide : 2872 + 0 ≤ _)⟩)
    dsimp only [Pt.U, Pt.locs, Pt.cells, Pt.slots] at X764 l764 y764 z764 st764 hQ764
    subst l764 y764 z764
    obtain ⟨rfl, N764, e764⟩ := hQ764
    refine GoOn.trans st764 ?_
    have N766 := Fr.app N763 N764
    show GoOn p e below (T764.setTop (mkF m 177 #[.val (.int p0), .val (.int p1), .val (.int p2), .val (.int p3), .val (.int p4), .val (.int c0), .val (.int c1), .val (.int c2), .val (.int c3), .val (.int (1 : Int32)), .val (.int (0 : Int32)), .val (.ref sa691), .val (.ref sa697), .val (.ref x704), .val (.ref m704)] [(.int (58 : Int32))])) _
    refine GoOn.step (fun tq kq => XS.bipush X764.here hx rfl (hb hby at_177) kq) ?_
    show GoOn p e below (T764.setTop (mkF m 179 #[.val (.int p0), .val (.int p1), .val (.int p2), .val (.int p3), .val (.int p4), .val (.int c0), .val (.int c1), .val (.int c2), .val (.int c3), .val (.int (1 : Int32)), .val (.int (0 : Int32)), .val (.ref sa691), .val (.ref sa697), .val (.ref x704), .val (.ref m704)] [(.int (58 : Int32)), (.int (58 : Int32))])) _
    refine GoOn.step (fun tq kq => XS.icmpYes X764.here hx rfl (pc0 := 179) (pc' := 184) rfl (hb hby at_179) rfl (teq rfl).1 (by decide) (by decide) kq) ?_
    show GoOn p e below (T764.setTop (mkF m 184 #[.val (.int p0), .val (.int p1), .val (.int p2), .val (.int p3), .val (.int p4), .val (.int c0), .val (.int c1), .val (.int c2), .val (.int c3), .val (.int (1 : Int32)), .val (.int (0 : Int32)), .val (.ref sa691), .val (.ref sa697), .val (.ref x704), .val (.ref m704)] [])) _
    refine GoOn.step (fun tq kq => XS.aload X764.here hx rfl (hb hby at_184) rfl rfl kq) ?_
    show GoOn p e below (T764.setTop (mkF m 186 #[.val (.int p0), .val (.int p1), .val (.int p2), .val (.int p3), .val (.int p4), .val (.int c0), .val (.int c1), .val (.int c2), .val (.int c3), .val (.int (1 : Int32)), .val (.int (0 : Int32)), .val (.ref sa691), .val (.ref sa697), .val (.ref x704), .val (.ref m704)] [(.ref m704)])) _
    refine GoOn.step (fun tq kq => XS.iload X764.here hx rfl (hb hby at_186) rfl kq) ?_
    show GoOn p e below (T764.setTop (mkF m 188 #[.val (.int p0), .val (.int p1), .val (.int p2), .val (.int p3), .val (.int p4), .val (.int c0), .val (.int c1), .val (.int c2), .val (.int c3), .val (.int (1 : Int32)), .val (.int (0 : Int32)), .val (.ref sa691), .val (.ref sa697), .val (.ref x704), .val (.ref m704)] [(.int (1 : Int32)), (.ref m704)])) _
    refine GoOn.step (fun tq kq => XS.iconst X764.here hx rfl (hb hby at_188) kq) ?_
    show GoOn p e below (T764.setTop (mkF m 189 #[.val (.int p0), .val (.int p1), .val (.int p2), .val (.int p3), .val (.int p4), .val (.int c0), .val (.int c1), .val (.int c2), .val (.int c3), .val (.int (1 : Int32)), .val (.int (0 : Int32)), .val (.ref sa691), .val (.ref sa697), .val (.ref x704), .val (.ref m704)] [(.int (1 : Int32)), (.int (1 : Int32)), (.ref m704)])) _
    refine GoOn.step (fun tq kq => XS.iadd X764.here hx rfl (hb hby at_189) rfl kq) ?_
    show GoOn p e below (T764.setTop (mkF m 190 #[.val (.int p0), .val (.int p1), .val (.int p2), .val (.int p3), .val (.int p4), .val (.int c0), .val (.int c1), .val (.int c2), .val (.int c3), .val (.int (1 : Int32)), .val (.int (0 : Int32)), .val (.ref sa691), .val (.ref sa697), .val (.ref x704), .val (.ref m704)] [(.int ((1 : Int32) + (1 : Int32))), (.ref m704)])) _
    obtain ⟨cqc768, kqc768, qac768, qbc768, qcc768⟩ := isOf hZ704 e764 Sr757.1
    obtain ⟨_, _, ⟨T767, L767, k767, n767⟩, -, X767, ⟨Lc767, hQ767, l767, y767, z767⟩, st767⟩ := X764.virtualBack hx (y := (⟨"java/lang/String", "charAt", "(I)C"⟩ : MethodName)) (z := (⟨"java/lang/String", "charAt", "(I)C"⟩ : MethodName)) hown704 (mvT hZ704 (hw _ (List.mem_of_getElem? (i := 201) rfl))) (mvT hZ704 (hw _ (List.mem_of_getElem? (i := 202) rfl))) (notFace_of_selects (args := #[]) (mvT hZ704 (hw _ (List.mem_of_getElem? (i := 204) rfl)))) (mvT hZ704 (hw _ (List.mem_of_getElem? (i := 204) rfl))) (mvT hZ704 (hw _ (List.mem_of_getElem? (i := 203) rfl))) (by decide) (own_chS (n0 := n0) (W := 0) hZ704 hch (kI := 4) (hw _ (List.mem_of_getElem? (i := 7) rfl)) Sr757 (SC.ext O706.2) PC (SF.ext O706.2) rG3 2 (Nat.le_of_ble_eq_true rfl) (by decide) (by decide) (by decide)) qac768 qcc768 (g := (mkF m 190 #[.val (.int p0), .val (.int p1), .val (.int p2), .val (.int p3), .val (.int p4), .val (.int c0), .val (.int c1), .val (.int c2), .val (.int c3), .val (.int (1 : Int32)), .val (.int (0 : Int32)), .val (.ref sa691), .val (.ref sa697), .val (.ref x704), .val (.ref m704)] [(.int ((1 : Int32) + (1 : Int32))), (.ref m704)])) rfl (by rw [hml]; rfl) (Steps.refl _) (argsL := [(.int ((1 : Int32) + (1 : Int32)))]) (rest := []) (lenOf own_pd368 rfl) rfl (by show 2 * 0 + _ ≤ _; exact Nat.le_of_eq rfl) (hb hby at_190) (fun _ _ => ⟨rfl, e764, (by decide : 20 + 0 ≤ _), (by decide : 2872 + 0 ≤ _)⟩)
    dsimp only [Pt.U, Pt.locs, Pt.cells, Pt.slots] at X767 l767 y767 z767 st767 hQ767
    subst l767 y767 z767
    obtain ⟨rfl, N767, e767⟩ := hQ767
    refine GoOn.trans st767 ?_
    have N769 := Fr.app N766 N767
    show GoOn p e below (T767.setTop (mkF m 193 #[.val (.int p0), .val (.int p1), .val (.int p2), .val (.int p3), .val (.int p4), .val (.int c0), .val (.int c1), .val (.int c2), .val (.int c3), .val (.int (1 : Int32)), .val (.int (0 : Int32)), .val (.ref sa691), .val (.ref sa697), .val (.ref x704), .val (.ref m704)] [(.int (32 : Int32))])) _
    refine GoOn.step (fun tq kq => XS.bipush X767.here hx rfl (hb hby at_193) kq) ?_
    show GoOn p e below (T767.setTop (mkF m 195 #[.val (.int p0), .val (.int p1), .val (.int p2), .val (.int p3), .val (.int p4), .val (.int c0), .val (.int c1), .val (.int c2), .val (.int c3), .val (.int (1 : Int32)), .val (.int (0 : Int32)), .val (.ref sa691), .val (.ref sa697), .val (.ref x704), .val (.ref m704)] [(.int (32 : Int32)), (.int (32 : Int32))])) _
    refine GoOn.step (fun tq kq => XS.icmpYes X767.here hx rfl (pc0 := 195) (pc' := 200) rfl (hb hby at_195) rfl (teq rfl).1 (by decide) (by decide) kq) ?_
    show GoOn p e below (T767.setTop (mkF m 200 #[.val (.int p0), .val (.int p1), .val (.int p2), .val (.int p3), .val (.int p4), .val (.int c0), .val (.int c1), .val (.int c2), .val (.int c3), .val (.int (1 : Int32)), .val (.int (0 : Int32)), .val (.ref sa691), .val (.ref sa697), .val (.ref x704), .val (.ref m704)] [])) _
    refine GoOn.step (fun tq kq => XS.iload X767.here hx rfl (hb hby at_200) rfl kq) ?_
    show GoOn p e below (T767.setTop (mkF m 202 #[.val (.int p0), .val (.int p1), .val (.int p2), .val (.int p3), .val (.int p4), .val (.int c0), .val (.int c1), .val (.int c2), .val (.int c3), .val (.int (1 : Int32)), .val (.int (0 : Int32)), .val (.ref sa691), .val (.ref sa697), .val (.ref x704), .val (.ref m704)] [(.int (0 : Int32))])) _
    refine GoOn.step (fun tq kq => XS.iconst X767.here hx rfl (hb hby at_202) kq) ?_
    show GoOn p e below (T767.setTop (mkF m 203 #[.val (.int p0), .val (.int p1), .val (.int p2), .val (.int p3), .val (.int p4), .val (.int c0), .val (.int c1), .val (.int c2), .val (.int c3), .val (.int (1 : Int32)), .val (.int (0 : Int32)), .val (.ref sa691), .val (.ref sa697), .val (.ref x704), .val (.ref m704)] [(.int (1 : Int32)), (.int (0 : Int32))])) _
    refine GoOn.step (fun tq kq => XS.icmpYes X767.here hx rfl (pc0 := 203) (pc' := 222) rfl (hb hby at_203) rfl (tlt (by decide)).1 (by decide) (by decide) kq) ?_
    show GoOn p e below (T767.setTop (mkF m 222 #[.val (.int p0), .val (.int p1), .val (.int p2), .val (.int p3), .val (.int p4), .val (.int c0), .val (.int c1), .val (.int c2), .val (.int c3), .val (.int (1 : Int32)), .val (.int (0 : Int32)), .val (.ref sa691), .val (.ref sa697), .val (.ref x704), .val (.ref m704)] [])) _
    refine GoOn.step (fun tq kq => XS.iload X767.here hx rfl (hb hby at_222) rfl kq) ?_
    show GoOn p e below (T767.setTop (mkF m 224 #[.val (.int p0), .val (.int p1), .val (.int p2), .val (.int p3), .val (.int p4), .val (.int c0), .val (.int c1), .val (.int c2), .val (.int c3), .val (.int (1 : Int32)), .val (.int (0 : Int32)), .val (.ref sa691), .val (.ref sa697), .val (.ref x704), .val (.ref m704)] [(.int (0 : Int32))])) _
    refine GoOn.step (fun tq kq => XS.iconst X767.here hx rfl (hb hby at_224) kq) ?_
    show GoOn p e below (T767.setTop (mkF m 225 #[.val (.int p0), .val (.int p1), .val (.int p2), .val (.int p3), .val (.int p4), .val (.int c0), .val (.int c1), .val (.int c2), .val (.int c3), .val (.int (1 : Int32)), .val (.int (0 : Int32)), .val (.ref sa691), .val (.ref sa697), .val (.ref x704), .val (.ref m704)] [(.int (2 : Int32)), (.int (0 : Int32))])) _
    refine GoOn.step (fun tq kq => XS.icmpYes X767.here hx rfl (pc0 := 225) (pc' := 244) rfl (hb hby at_225) rfl (tlt (by decide)).1 (by decide) (by decide) kq) ?_
    show GoOn p e below (T767.setTop (mkF m 244 #[.val (.int p0), .val (.int p1), .val (.int p2), .val (.int p3), .val (.int p4), .val (.int c0), .val (.int c1), .val (.int c2), .val (.int c3), .val (.int (1 : Int32)), .val (.int (0 : Int32)), .val (.ref sa691), .val (.ref sa697), .val (.ref x704), .val (.ref m704)] [])) _
    refine GoOn.step (fun tq kq => XS.iconst X767.here hx rfl (hb hby at_244) kq) ?_
    show GoOn p e below (T767.setTop (mkF m 245 #[.val (.int p0), .val (.int p1), .val (.int p2), .val (.int p3), .val (.int p4), .val (.int c0), .val (.int c1), .val (.int c2), .val (.int c3), .val (.int (1 : Int32)), .val (.int (0 : Int32)), .val (.ref sa691), .val (.ref sa697), .val (.ref x704), .val (.ref m704)] [(.int (1 : Int32))])) _
    refine GoOn.retH X767 hZ704 hSn704 (hk704) hEL hh e767 C709 Bd.notSynchronized (v := some (.int (nar .boolean (1 : Int32)))) (fun h => by rw [Bd.returns] at h; cases h) (fun fs hr => retN X767 hx (t := .boolean) Bd.returns (by simp) (hb hby at_245) hr) (by decide) (by decide) ?_
    exact ⟨rfl, N769⟩
  · skip
    have Sr770 : StrIs Z T704.heap m704 ([c0, 58, 32, c2] : List Int32) := S704
    show GoOn p e below (T715.setTop (mkF m 117 #[.val (.int p0), .val (.int p1), .val (.int p2), .val (.int p3), .val (.int p4), .val (.int c0), .val (.int c1), .val (.int c2), .val (.int c3), .val (.int (1 : Int32)), .val (.int (1 : Int32)), .val (.ref sa691), .val (.ref sa697), .val (.ref x704), .val (.ref m704)] [(.ref m704)])) _
    obtain ⟨cqc772, kqc772, qac772, qbc772, qcc772⟩ := isOf hZ704 e715 Sr770.1
    obtain ⟨_, _, ⟨T771, L771, k771, n771⟩, -, X771, ⟨Lc771, hQ771, l771, y771, z771⟩, st771⟩ := X715.virtualBack hx (y := (⟨"java/lang/String", "length", "()I"⟩ : MethodName)) (z := (⟨"java/lang/String", "length", "()I"⟩ : MethodName)) hown704 (mvT hZ704 (hw _ (List.mem_of_getElem? (i := 200) rfl))) (mvT hZ704 (hw _ (List.mem_of_getElem? (i := 50) rfl))) (notFace_of_selects (args := #[]) (mvT hZ704 (hw _ (List.mem_of_getElem? (i := 52) rfl)))) (mvT hZ704 (hw _ (List.mem_of_getElem? (i := 52) rfl))) (mvT hZ704 (hw _ (List.mem_of_getElem? (i := 51) rfl))) (by decide) (backOf (W := 0) (rmLen l Z a0 hw m704 ([c0, 58, 32, c2] : List Int32) G1 T704.heap n0 Z707 SC PC Sr770 O706) hZ704 (hw _ (List.mem_of_getElem? (i := 53) rfl)) (hw _ (List.mem_of_getElem? (i := 6) rfl)) (by decide) (by decide)) qac772 qcc772 (g := (mkF m 117 #[.val (.int p0), .val (.int p1), .val (.int p2), .val (.int p3), .val (.int p4), .val (.int c0), .val (.int c1), .val (.int c2), .val (.int c3), .val (.int (1 : Int32)), .val (.int (1 : Int32)), .val (.ref sa691), .val (.ref sa697), .val (.ref x704), .val (.ref m704)] [(.ref m704)])) rfl (by rw [hml]; rfl) (Steps.refl _) (argsL := []) (rest := []) (lenOf own_pd181 rfl) rfl (by show 2 * 0 + _ ≤ _; exact Nat.le_of_eq rfl) (hb hby at_117) (fun _ _ => ⟨rfl, e715, (by decide : 20 + 0 ≤ _), (by decide : 2872 + 0 ≤ _)⟩)
    dsimp only [Pt.U, Pt.locs, Pt.cells, Pt.slots] at X771 l771 y771 z771 st771 hQ771
    subst l771 y771 z771
    obtain ⟨rfl, N771, e771⟩ := hQ771
    refine GoOn.trans st771 ?_
    have N773 := Fr.app N717 N771
    show GoOn p e below (T771.setTop (mkF m 120 #[.val (.int p0), .val (.int p1), .val (.int p2), .val (.int p3), .val (.int p4), .val (.int c0), .val (.int c1), .val (.int c2), .val (.int c3), .val (.int (1 : Int32)), .val (.int (1 : Int32)), .val (.ref sa691), .val (.ref sa697), .val (.ref x704), .val (.ref m704)] [(.int (4 : Int32))])) _
    refine GoOn.step (fun tq kq => XS.iload X771.here hx rfl (hb hby at_120) rfl kq) ?_
    show GoOn p e below (T771.setTop (mkF m 122 #[.val (.int p0), .val (.int p1), .val (.int p2), .val (.int p3), .val (.int p4), .val (.int c0), .val (.int c1), .val (.int c2), .val (.int c3), .val (.int (1 : Int32)), .val (.int (1 : Int32)), .val (.ref sa691), .val (.ref sa697), .val (.ref x704), .val (.ref m704)] [(.int (1 : Int32)), (.int (4 : Int32))])) _
    refine GoOn.step (fun tq kq => XS.iconst X771.here hx rfl (hb hby at_122) kq) ?_
    show GoOn p e below (T771.setTop (mkF m 123 #[.val (.int p0), .val (.int p1), .val (.int p2), .val (.int p3), .val (.int p4), .val (.int c0), .val (.int c1), .val (.int c2), .val (.int c3), .val (.int (1 : Int32)), .val (.int (1 : Int32)), .val (.ref sa691), .val (.ref sa697), .val (.ref x704), .val (.ref m704)] [(.int (2 : Int32)), (.int (1 : Int32)), (.int (4 : Int32))])) _
    refine GoOn.step (fun tq kq => XS.iadd X771.here hx rfl (hb hby at_123) rfl kq) ?_
    show GoOn p e below (T771.setTop (mkF m 124 #[.val (.int p0), .val (.int p1), .val (.int p2), .val (.int p3), .val (.int p4), .val (.int c0), .val (.int c1), .val (.int c2), .val (.int c3), .val (.int (1 : Int32)), .val (.int (1 : Int32)), .val (.ref sa691), .val (.ref sa697), .val (.ref x704), .val (.ref m704)] [(.int ((1 : Int32) + (2 : Int32))), (.int (4 : Int32))])) _
    refine GoOn.step (fun tq kq => XS.iload X771.here hx rfl (hb hby at_124) rfl kq) ?_
    show GoOn p e below (T771.setTop (mkF m 126 #[.val (.int p0), .val (.int p1), .val (.int p2), .val (.int p3), .val (.int p4), .val (.int c0), .val (.int c1), .val (.int c2), .val (.int c3), .val (.int (1 : Int32)), .val (.int (1 : Int32)), .val (.ref sa691), .val (.ref sa697), .val (.ref x704), .val (.ref m704)] [(.int (1 : Int32)), (.int ((1 : Int32) + (2 : Int32))), (.int (4 : Int32))])) _
    refine GoOn.step (fun tq kq => XS.iadd X771.here hx rfl (hb hby at_126) rfl kq) ?_
    show GoOn p e below (T771.setTop (mkF m 127 #[.val (.int p0), .val (.int p1), .val (.int p2), .val (.int p3), .val (.int p4), .val (.int c0), .val (.int c1), .val (.int c2), .val (.int c3), .val (.int (1 : Int32)), .val (.int (1 : Int32)), .val (.ref sa691), .val (.ref sa697), .val (.ref x704), .val (.ref m704)] [(.int (((1 : Int32) + (2 : Int32)) + (1 : Int32))), (.int (4 : Int32))])) _
    refine GoOn.step (fun tq kq => XS.icmpYes X771.here hx rfl (pc0 := 127) (pc' := 132) rfl (hb hby at_127) rfl (teq (by decide)).1 (by decide) (by decide) kq) ?_
    show GoOn p e below (T771.setTop (mkF m 132 #[.val (.int p0), .val (.int p1), .val (.int p2), .val (.int p3), .val (.int p4), .val (.int c0), .val (.int c1), .val (.int c2), .val (.int c3), .val (.int (1 : Int32)), .val (.int (1 : Int32)), .val (.ref sa691), .val (.ref sa697), .val (.ref x704), .val (.ref m704)] [])) _
    refine GoOn.step (fun tq kq => XS.iload X771.here hx rfl (hb hby at_132) rfl kq) ?_
    show GoOn p e below (T771.setTop (mkF m 134 #[.val (.int p0), .val (.int p1), .val (.int p2), .val (.int p3), .val (.int p4), .val (.int c0), .val (.int c1), .val (.int c2), .val (.int c3), .val (.int (1 : Int32)), .val (.int (1 : Int32)), .val (.ref sa691), .val (.ref sa697), .val (.ref x704), .val (.ref m704)] [(.int (1 : Int32))])) _
    refine GoOn.step (fun tq kq => XS.iconst X771.here hx rfl (hb hby at_134) kq) ?_
    show GoOn p e below (T771.setTop (mkF m 135 #[.val (.int p0), .val (.int p1), .val (.int p2), .val (.int p3), .val (.int p4), .val (.int c0), .val (.int c1), .val (.int c2), .val (.int c3), .val (.int (1 : Int32)), .val (.int (1 : Int32)), .val (.ref sa691), .val (.ref sa697), .val (.ref x704), .val (.ref m704)] [(.int (1 : Int32)), (.int (1 : Int32))])) _
    refine GoOn.step (fun tq kq => XS.icmpNo X771.here hx rfl (hb hby at_135) rfl (flt (by decide)).1 kq) ?_
    show GoOn p e below (T771.setTop (mkF m 138 #[.val (.int p0), .val (.int p1), .val (.int p2), .val (.int p3), .val (.int p4), .val (.int c0), .val (.int c1), .val (.int c2), .val (.int c3), .val (.int (1 : Int32)), .val (.int (1 : Int32)), .val (.ref sa691), .val (.ref sa697), .val (.ref x704), .val (.ref m704)] [])) _
    refine GoOn.step (fun tq kq => XS.aload X771.here hx rfl (hb hby at_138) rfl rfl kq) ?_
    show GoOn p e below (T771.setTop (mkF m 140 #[.val (.int p0), .val (.int p1), .val (.int p2), .val (.int p3), .val (.int p4), .val (.int c0), .val (.int c1), .val (.int c2), .val (.int c3), .val (.int (1 : Int32)), .val (.int (1 : Int32)), .val (.ref sa691), .val (.ref sa697), .val (.ref x704), .val (.ref m704)] [(.ref m704)])) _
    refine GoOn.step (fun tq kq => XS.iconst X771.here hx rfl (hb hby at_140) kq) ?_
    show GoOn p e below (T771.setTop (mkF m 141 #[.val (.int p0), .val (.int p1), .val (.int p2), .val (.int p3), .val (.int p4), .val (.int c0), .val (.int c1), .val (.int c2), .val (.int c3), .val (.int (1 : Int32)), .val (.int (1 : Int32)), .val (.ref sa691), .val (.ref sa697), .val (.ref x704), .val (.ref m704)] [(.int (0 : Int32)), (.ref m704)])) _
    obtain ⟨cqc775, kqc775, qac775, qbc775, qcc775⟩ := isOf hZ704 e771 Sr770.1
    obtain ⟨_, _, ⟨T774, L774, k774, n774⟩, -, X774, ⟨Lc774, hQ774, l774, y774, z774⟩, st774⟩ := X771.virtualBack hx (y := (⟨"java/lang/String", "charAt", "(I)C"⟩ : MethodName)) (z := (⟨"java/lang/String", "charAt", "(I)C"⟩ : MethodName)) hown704 (mvT hZ704 (hw _ (List.mem_of_getElem? (i := 201) rfl))) (mvT hZ704 (hw _ (List.mem_of_getElem? (i := 202) rfl))) (notFace_of_selects (args := #[]) (mvT hZ704 (hw _ (List.mem_of_getElem? (i := 204) rfl)))) (mvT hZ704 (hw _ (List.mem_of_getElem? (i := 204) rfl))) (mvT hZ704 (hw _ (List.mem_of_getElem? (i := 203) rfl))) (by decide) (own_chS (n0 := n0) (W := 0) hZ704 hch (kI := 4) (hw _ (List.mem_of_getElem? (i := 7) rfl)) Sr770 (SC.ext O706.2) PC (SF.ext O706.2) rG3 0 (Nat.le_of_ble_eq_true rfl) (by decide) (by decide) (by decide)) qac775 qcc775 (g := (mkF m 141 #[.val (.int p0), .val (.int p1), .val (.int p2), .val (.int p3), .val (.int p4), .val (.int c0), .val (.int c1), .val (.int c2), .val (.int c3), .val (.int (1 : Int32)), .val (.int (1 : Int32)), .val (.ref sa691), .val (.ref sa697), .val (.ref x704), .val (.ref m704)] [(.int (0 : Int32)), (.ref m704)])) rfl (by rw [hml]; rfl) (Steps.refl _) (argsL := [(.int (0 : Int32))]) (rest := []) (lenOf own_pd368 rfl) rfl (by show 2 * 0 + _ ≤ _; exact Nat.le_of_eq rfl) (hb hby at_141) (fun _ _ => ⟨rfl, e771, (by decide : 20 + 0 ≤ _), (by decide : 2872 + 0 ≤ _)⟩)
    dsimp only [Pt.U, Pt.locs, Pt.cells, Pt.slots] at X774 l774 y774 z774 st774 hQ774
    subst l774 y774 z774
    obtain ⟨rfl, N774, e774⟩ := hQ774
    refine GoOn.trans st774 ?_
    have N776 := Fr.app N773 N774
    show GoOn p e below (T774.setTop (mkF m 144 #[.val (.int p0), .val (.int p1), .val (.int p2), .val (.int p3), .val (.int p4), .val (.int c0), .val (.int c1), .val (.int c2), .val (.int c3), .val (.int (1 : Int32)), .val (.int (1 : Int32)), .val (.ref sa691), .val (.ref sa697), .val (.ref x704), .val (.ref m704)] [(.int c0)])) _
    refine GoOn.step (fun tq kq => XS.iload X774.here hx rfl (hb hby at_144) rfl kq) ?_
    show GoOn p e below (T774.setTop (mkF m 146 #[.val (.int p0), .val (.int p1), .val (.int p2), .val (.int p3), .val (.int p4), .val (.int c0), .val (.int c1), .val (.int c2), .val (.int c3), .val (.int (1 : Int32)), .val (.int (1 : Int32)), .val (.ref sa691), .val (.ref sa697), .val (.ref x704), .val (.ref m704)] [(.int c0), (.int c0)])) _
    refine GoOn.step (fun tq kq => XS.icmpYes X774.here hx rfl (pc0 := 146) (pc' := 151) rfl (hb hby at_146) rfl (teq rfl).1 (by decide) (by decide) kq) ?_
    show GoOn p e below (T774.setTop (mkF m 151 #[.val (.int p0), .val (.int p1), .val (.int p2), .val (.int p3), .val (.int p4), .val (.int c0), .val (.int c1), .val (.int c2), .val (.int c3), .val (.int (1 : Int32)), .val (.int (1 : Int32)), .val (.ref sa691), .val (.ref sa697), .val (.ref x704), .val (.ref m704)] [])) _
    refine GoOn.step (fun tq kq => XS.iload X774.here hx rfl (hb hby at_151) rfl kq) ?_
    show GoOn p e below (T774.setTop (mkF m 153 #[.val (.int p0), .val (.int p1), .val (.int p2), .val (.int p3), .val (.int p4), .val (.int c0), .val (.int c1), .val (.int c2), .val (.int c3), .val (.int (1 : Int32)), .val (.int (1 : Int32)), .val (.ref sa691), .val (.ref sa697), .val (.ref x704), .val (.ref m704)] [(.int (1 : Int32))])) _
    refine GoOn.step (fun tq kq => XS.iconst X774.here hx rfl (hb hby at_153) kq) ?_
    show GoOn p e below (T774.setTop (mkF m 154 #[.val (.int p0), .val (.int p1), .val (.int p2), .val (.int p3), .val (.int p4), .val (.int c0), .val (.int c1), .val (.int c2), .val (.int c3), .val (.int (1 : Int32)), .val (.int (1 : Int32)), .val (.ref sa691), .val (.ref sa697), .val (.ref x704), .val (.ref m704)] [(.int (2 : Int32)), (.int (1 : Int32))])) _
    refine GoOn.step (fun tq kq => XS.icmpYes X774.here hx rfl (pc0 := 154) (pc' := 170) rfl (hb hby at_154) rfl (tlt (by decide)).1 (by decide) (by decide) kq) ?_
    show GoOn p e below (T774.setTop (mkF m 170 #[.val (.int p0), .val (.int p1), .val (.int p2), .val (.int p3), .val (.int p4), .val (.int c0), .val (.int c1), .val (.int c2), .val (.int c3), .val (.int (1 : Int32)), .val (.int (1 : Int32)), .val (.ref sa691), .val (.ref sa697), .val (.ref x704), .val (.ref m704)] [])) _
    refine GoOn.step (fun tq kq => XS.aload X774.here hx rfl (hb hby at_170) rfl rfl kq) ?_
    show GoOn p e below (T774.setTop (mkF m 172 #[.val (.int p0), .val (.int p1), .val (.int p2), .val (.int p3), .val (.int p4), .val (.int c0), .val (.int c1), .val (.int c2), .val (.int c3), .val (.int (1 : Int32)), .val (.int (1 : Int32)), .val (.ref sa691), .val (.ref sa697), .val (.ref x704), .val (.ref m704)] [(.ref m704)])) _
    refine GoOn.step (fun tq kq => XS.iload X774.here hx rfl (hb hby at_172) rfl kq) ?_
    show GoOn p e below (T774.setTop (mkF m 174 #[.val (.int p0), .val (.int p1), .val (.int p2), .val (.int p3), .val (.int p4), .val (.int c0), .val (.int c1), .val (.int c2), .val (.int c3), .val (.int (1 : Int32)), .val (.int (1 : Int32)), .val (.ref sa691), .val (.ref sa697), .val (.ref x704), .val (.ref m704)] [(.int (1 : Int32)), (.ref m704)])) _
    obtain ⟨cqc778, kqc778, qac778, qbc778, qcc778⟩ := isOf hZ704 e774 Sr770.1
    obtain ⟨_, _, ⟨T777, L777, k777, n777⟩, -, X777, ⟨Lc777, hQ777, l777, y777, z777⟩, st777⟩ := X774.virtualBack hx (y := (⟨"java/lang/String", "charAt", "(I)C"⟩ : MethodName)) (z := (⟨"java/lang/String", "charAt", "(I)C"⟩ : MethodName)) hown704 (mvT hZ704 (hw _ (List.mem_of_getElem? (i := 201) rfl))) (mvT hZ704 (hw _ (List.mem_of_getElem? (i := 202) rfl))) (notFace_of_selects (args := #[]) (mvT hZ704 (hw _ (List.mem_of_getElem? (i := 204) rfl)))) (mvT hZ704 (hw _ (List.mem_of_getElem? (i := 204) rfl))) (mvT hZ704 (hw _ (List.mem_of_getElem? (i := 203) rfl))) (by decide) (own_chS (n0 := n0) (W := 0) hZ704 hch (kI := 4) (hw _ (List.mem_of_getElem? (i := 7) rfl)) Sr770 (SC.ext O706.2) PC (SF.ext O706.2) rG3 1 (Nat.le_of_ble_eq_true rfl) (by decide) (by decide) (by decide)) qac778 qcc778 (g := (mkF m 174 #[.val (.int p0), .val (.int p1), .val (.int p2), .val (.int p3), .val (.int p4), .val (.int c0), .val (.int c1), .val (.int c2), .val (.int c3), .val (.int (1 : Int32)), .val (.int (1 : Int32)), .val (.ref sa691), .val (.ref sa697), .val (.ref x704), .val (.ref m704)] [(.int (1 : Int32)), (.ref m704)])) rfl (by rw [hml]; rfl) (Steps.refl _) (argsL := [(.int (1 : Int32))]) (rest := []) (lenOf own_pd368 rfl) rfl (by show 2 * 0 + _ ≤ _; exact Nat.le_of_eq rfl) (hb hby at_174) (fun _ _ => ⟨rfl, e774, (by decide : 20 + 0 ≤ _), (by decide : 2872 + 0 ≤ _)⟩)
    dsimp only [Pt.U, Pt.locs, Pt.cells, Pt.slots] at X777 l777 y777 z777 st777 hQ777
    subst l777 y777 z777
    obtain ⟨rfl, N777, e777⟩ := hQ777
    refine GoOn.trans st777 ?_
    have N779 := Fr.app N776 N777
    show GoOn p e below (T777.setTop (mkF m 177 #[.val (.int p0), .val (.int p1), .val (.int p2), .val (.int p3), .val (.int p4), .val (.int c0), .val (.int c1), .val (.int c2), .val (.int c3), .val (.int (1 : Int32)), .val (.int (1 : Int32)), .val (.ref sa691), .val (.ref sa697), .val (.ref x704), .val (.ref m704)] [(.int (58 : Int32))])) _
    refine GoOn.step (fun tq kq => XS.bipush X777.here hx rfl (hb hby at_177) kq) ?_
    show GoOn p e below (T777.setTop (mkF m 179 #[.val (.int p0), .val (.int p1), .val (.int p2), .val (.int p3), .val (.int p4), .val (.int c0), .val (.int c1), .val (.int c2), .val (.int c3), .val (.int (1 : Int32)), .val (.int (1 : Int32)), .val (.ref sa691), .val (.ref sa697), .val (.ref x704), .val (.ref m704)] [(.int (58 : Int32)), (.int (58 : Int32))])) _
    refine GoOn.step (fun tq kq => XS.icmpYes X777.here hx rfl (pc0 := 179) (pc' := 184) rfl (hb hby at_179) rfl (teq rfl).1 (by decide) (by decide) kq) ?_
    show GoOn p e below (T777.setTop (mkF m 184 #[.val (.int p0), .val (.int p1), .val (.int p2), .val (.int p3), .val (.int p4), .val (.int c0), .val (.int c1), .val (.int c2), .val (.int c3), .val (.int (1 : Int32)), .val (.int (1 : Int32)), .val (.ref sa691), .val (.ref sa697), .val (.ref x704), .val (.ref m704)] [])) _
    refine GoOn.step (fun tq kq => XS.aload X777.here hx rfl (hb hby at_184) rfl rfl kq) ?_
    show GoOn p e below (T777.setTop (mkF m 186 #[.val (.int p0), .val (.int p1), .val (.int p2), .val (.int p3), .val (.int p4), .val (.int c0), .val (.int c1), .val (.int c2), .val (.int c3), .val (.int (1 : Int32)), .val (.int (1 : Int32)), .val (.ref sa691), .val (.ref sa697), .val (.ref x704), .val (.ref m704)] [(.ref m704)])) _
    refine GoOn.step (fun tq kq => XS.iload X777.here hx rfl (hb hby at_186) rfl kq) ?_
    show GoOn p e below (T777.setTop (mkF m 188 #[.val (.int p0), .val (.int p1), .val (.int p2), .val (.int p3), .val (.int p4), .val (.int c0), .val (.int c1), .val (.int c2), .val (.int c3), .val (.int (1 : Int32)), .val (.int (1 : Int32)), .val (.ref sa691), .val (.ref sa697), .val (.ref x704), .val (.ref m704)] [(.int (1 : Int32)), (.ref m704)])) _
    refine GoOn.step (fun tq kq => XS.iconst X777.here hx rfl (hb hby at_188) kq) ?_
    show GoOn p e below (T777.setTop (mkF m 189 #[.val (.int p0), .val (.int p1), .val (.int p2), .val (.int p3), .val (.int p4), .val (.int c0), .val (.int c1), .val (.int c2), .val (.int c3), .val (.int (1 : Int32)), .val (.int (1 : Int32)), .val (.ref sa691), .val (.ref sa697), .val (.ref x704), .val (.ref m704)] [(.int (1 : Int32)), (.int (1 : Int32)), (.ref m704)])) _
    refine GoOn.step (fun tq kq => XS.iadd X777.here hx rfl (hb hby at_189) rfl kq) ?_
    show GoOn p e below (T777.setTop (mkF m 190 #[.val (.int p0), .val (.int p1), .val (.int p2), .val (.int p3), .val (.int p4), .val (.int c0), .val (.int c1), .val (.int c2), .val (.int c3), .val (.int (1 : Int32)), .val (.int (1 : Int32)), .val (.ref sa691), .val (.ref sa697), .val (.ref x704), .val (.ref m704)] [(.int ((1 : Int32) + (1 : Int32))), (.ref m704)])) _
    obtain ⟨cqc781, kqc781, qac781, qbc781, qcc781⟩ := isOf hZ704 e777 Sr770.1
    obtain ⟨_, _, ⟨T780, L780, k780, n780⟩, -, X780, ⟨Lc780, hQ780, l780, y780, z780⟩, st780⟩ := X777.virtualBack hx (y := (⟨"java/lang/String", "charAt", "(I)C"⟩ : MethodName)) (z := (⟨"java/lang/String", "charAt", "(I)C"⟩ : MethodName)) hown704 (mvT hZ704 (hw _ (List.mem_of_getElem? (i := 201) rfl))) (mvT hZ704 (hw _ (List.mem_of_getElem? (i := 202) rfl))) (notFace_of_selects (args := #[]) (mvT hZ704 (hw _ (List.mem_of_getElem? (i := 204) rfl)))) (mvT hZ704 (hw _ (List.mem_of_getElem? (i := 204) rfl))) (mvT hZ704 (hw _ (List.mem_of_getElem? (i := 203) rfl))) (by decide) (own_chS (n0 := n0) (W := 0) hZ704 hch (kI := 4) (hw _ (List.mem_of_getElem? (i := 7) rfl)) Sr770 (SC.ext O706.2) PC (SF.ext O706.2) rG3 2 (Nat.le_of_ble_eq_true rfl) (by decide) (by decide) (by decide)) qac781 qcc781 (g := (mkF m 190 #[.val (.int p0), .val (.int p1), .val (.int p2), .val (.int p3), .val (.int p4), .val (.int c0), .val (.int c1), .val (.int c2), .val (.int c3), .val (.int (1 : Int32)), .val (.int (1 : Int32)), .val (.ref sa691), .val (.ref sa697), .val (.ref x704), .val (.ref m704)] [(.int ((1 : Int32) + (1 : Int32))), (.ref m704)])) rfl (by rw [hml]; rfl) (Steps.refl _) (argsL := [(.int ((1 : Int32) + (1 : Int32)))]) (rest := []) (lenOf own_pd368 rfl) rfl (by show 2 * 0 + _ ≤ _; exact Nat.le_of_eq rfl) (hb hby at_190) (fun _ _ => ⟨rfl, e777, (by decide : 20 + 0 ≤ _), (by decide : 2872 + 0 ≤ _)⟩)
    dsimp only [Pt.U, Pt.locs, Pt.cells, Pt.slots] at X780 l780 y780 z780 st780 hQ780
    subst l780 y780 z780
    obtain ⟨rfl, N780, e780⟩ := hQ780
    refine GoOn.trans st780 ?_
    have N782 := Fr.app N779 N780
    show GoOn p e below (T780.setTop (mkF m 193 #[.val (.int p0), .val (.int p1), .val (.int p2), .val (.int p3), .val (.int p4), .val (.int c0), .val (.int c1), .val (.int c2), .val (.int c3), .val (.int (1 : Int32)), .val (.int (1 : Int32)), .val (.ref sa691), .val (.ref sa697), .val (.ref x704), .val (.ref m704)] [(.int (32 : Int32))])) _
    refine GoOn.step (fun tq kq => XS.bipush X780.here hx rfl (hb hby at_193) kq) ?_
    show GoOn p e below (T780.setTop (mkF m 195 #[.val (.int p0), .val (.int p1), .val (.int p2), .val (.int p3), .val (.int p4), .val (.int c0), .val (.int c1), .val (.int c2), .val (.int c3), .val (.int (1 : Int32)), .val (.int (1 : Int32)), .val (.ref sa691), .val (.ref sa697), .val (.ref x704), .val (.ref m704)] [(.int (32 : Int32)), (.int (32 : Int32))])) _
    refine GoOn.step (fun tq kq => XS.icmpYes X780.here hx rfl (pc0 := 195) (pc' := 200) rfl (hb hby at_195) rfl (teq rfl).1 (by decide) (by decide) kq) ?_
    show GoOn p e below (T780.setTop (mkF m 200 #[.val (.int p0), .val (.int p1), .val (.int p2), .val (.int p3), .val (.int p4), .val (.int c0), .val (.int c1), .val (.int c2), .val (.int c3), .val (.int (1 : Int32)), .val (.int (1 : Int32)), .val (.ref sa691), .val (.ref sa697), .val (.ref x704), .val (.ref m704)] [])) _
    refine GoOn.step (fun tq kq => XS.iload X780.here hx rfl (hb hby at_200) rfl kq) ?_
    show GoOn p e below (T780.setTop (mkF m 202 #[.val (.int p0), .val (.int p1), .val (.int p2), .val (.int p3), .val (.int p4), .val (.int c0), .val (.int c1), .val (.int c2), .val (.int c3), .val (.int (1 : Int32)), .val (.int (1 : Int32)), .val (.ref sa691), .val (.ref sa697), .val (.ref x704), .val (.ref m704)] [(.int (1 : Int32))])) _
    refine GoOn.step (fun tq kq => XS.iconst X780.here hx rfl (hb hby at_202) kq) ?_
    show GoOn p e below (T780.setTop (mkF m 203 #[.val (.int p0), .val (.int p1), .val (.int p2), .val (.int p3), .val (.int p4), .val (.int c0), .val (.int c1), .val (.int c2), .val (.int c3), .val (.int (1 : Int32)), .val (.int (1 : Int32)), .val (.ref sa691), .val (.ref sa697), .val (.ref x704), .val (.ref m704)] [(.int (1 : Int32)), (.int (1 : Int32))])) _
    refine GoOn.step (fun tq kq => XS.icmpNo X780.here hx rfl (hb hby at_203) rfl (flt (by decide)).1 kq) ?_
    show GoOn p e below (T780.setTop (mkF m 206 #[.val (.int p0), .val (.int p1), .val (.int p2), .val (.int p3), .val (.int p4), .val (.int c0), .val (.int c1), .val (.int c2), .val (.int c3), .val (.int (1 : Int32)), .val (.int (1 : Int32)), .val (.ref sa691), .val (.ref sa697), .val (.ref x704), .val (.ref m704)] [])) _
    refine GoOn.step (fun tq kq => XS.aload X780.here hx rfl (hb hby at_206) rfl rfl kq) ?_
    show GoOn p e below (T780.setTop (mkF m 208 #[.val (.int p0), .val (.int p1), .val (.int p2), .val (.int p3), .val (.int p4), .val (.int c0), .val (.int c1), .val (.int c2), .val (.int c3), .val (.int (1 : Int32)), .val (.int (1 : Int32)), .val (.ref sa691), .val (.ref sa697), .val (.ref x704), .val (.ref m704)] [(.ref m704)])) _
    refine GoOn.step (fun tq kq => XS.iload X780.here hx rfl (hb hby at_208) rfl kq) ?_
    show GoOn p e below (T780.setTop (mkF m 210 #[.val (.int p0), .val (.int p1), .val (.int p2), .val (.int p3), .val (.int p4), .val (.int c0), .val (.int c1), .val (.int c2), .val (.int c3), .val (.int (1 : Int32)), .val (.int (1 : Int32)), .val (.ref sa691), .val (.ref sa697), .val (.ref x704), .val (.ref m704)] [(.int (1 : Int32)), (.ref m704)])) _
    refine GoOn.step (fun tq kq => XS.iconst X780.here hx rfl (hb hby at_210) kq) ?_
    show GoOn p e below (T780.setTop (mkF m 211 #[.val (.int p0), .val (.int p1), .val (.int p2), .val (.int p3), .val (.int p4), .val (.int c0), .val (.int c1), .val (.int c2), .val (.int c3), .val (.int (1 : Int32)), .val (.int (1 : Int32)), .val (.ref sa691), .val (.ref sa697), .val (.ref x704), .val (.ref m704)] [(.int (2 : Int32)), (.int (1 : Int32)), (.ref m704)])) _
    refine GoOn.step (fun tq kq => XS.iadd X780.here hx rfl (hb hby at_211) rfl kq) ?_
    show GoOn p e below (T780.setTop (mkF m 212 #[.val (.int p0), .val (.int p1), .val (.int p2), .val (.int p3), .val (.int p4), .val (.int c0), .val (.int c1), .val (.int c2), .val (.int c3), .val (.int (1 : Int32)), .val (.int (1 : Int32)), .val (.ref sa691), .val (.ref sa697), .val (.ref x704), .val (.ref m704)] [(.int ((1 : Int32) + (2 : Int32))), (.ref m704)])) _
    obtain ⟨cqc784, kqc784, qac784, qbc784, qcc784⟩ := isOf hZ704 e780 Sr770.1
    obtain ⟨_, _, ⟨T783, L783, k783, n783⟩, -, X783, ⟨Lc783, hQ783, l783, y783, z783⟩, st783⟩ := X780.virtualBack hx (y := (⟨"java/lang/String", "charAt", "(I)C"⟩ : MethodName)) (z := (⟨"java/lang/String", "charAt", "(I)C"⟩ : MethodName)) hown704 (mvT hZ704 (hw _ (List.mem_of_getElem? (i := 201) rfl))) (mvT hZ704 (hw _ (List.mem_of_getElem? (i := 202) rfl))) (notFace_of_selects (args := #[]) (mvT hZ704 (hw _ (List.mem_of_getElem? (i := 204) rfl)))) (mvT hZ704 (hw _ (List.mem_of_getElem? (i := 204) rfl))) (mvT hZ704 (hw _ (List.mem_of_getElem? (i := 203) rfl))) (by decide) (own_chS (n0 := n0) (W := 0) hZ704 hch (kI := 4) (hw _ (List.mem_of_getElem? (i := 7) rfl)) Sr770 (SC.ext O706.2) PC (SF.ext O706.2) rG3 3 (Nat.le_of_ble_eq_true rfl) (by decide) (by decide) (by decide)) qac784 qcc784 (g := (mkF m 212 #[.val (.int p0), .val (.int p1), .val (.int p2), .val (.int p3), .val (.int p4), .val (.int c0), .val (.int c1), .val (.int c2), .val (.int c3), .val (.int (1 : Int32)), .val (.int (1 : Int32)), .val (.ref sa691), .val (.ref sa697), .val (.ref x704), .val (.ref m704)] [(.int ((1 : Int32) + (2 : Int32))), (.ref m704)])) rfl (by rw [hml]; rfl) (Steps.refl _) (argsL := [(.int ((1 : Int32) + (2 : Int32)))]) (rest := []) (lenOf own_pd368 rfl) rfl (by show 2 * 0 + _ ≤ _; exact Nat.le_of_eq rfl) (hb hby at_212) (fun _ _ => ⟨rfl, e780, (by decide : 20 + 0 ≤ _), (by decide : 2872 + 0 ≤ _)⟩)
    dsimp only [Pt.U, Pt.locs, Pt.cells, Pt.slots] at X783 l783 y783 z783 st783 hQ783
    subst l783 y783 z783
    obtain ⟨rfl, N783, e783⟩ := hQ783
    refine GoOn.trans st783 ?_
    have N785 := Fr.app N782 N783
    show GoOn p e below (T783.setTop (mkF m 215 #[.val (.int p0), .val (.int p1), .val (.int p2), .val (.int p3), .val (.int p4), .val (.int c0), .val (.int c1), .val (.int c2), .val (.int c3), .val (.int (1 : Int32)), .val (.int (1 : Int32)), .val (.ref sa691), .val (.ref sa697), .val (.ref x704), .val (.ref m704)] [(.int c2)])) _
    refine GoOn.step (fun tq kq => XS.iload X783.here hx rfl (hb hby at_215) rfl kq) ?_
    show GoOn p e below (T783.setTop (mkF m 217 #[.val (.int p0), .val (.int p1), .val (.int p2), .val (.int p3), .val (.int p4), .val (.int c0), .val (.int c1), .val (.int c2), .val (.int c3), .val (.int (1 : Int32)), .val (.int (1 : Int32)), .val (.ref sa691), .val (.ref sa697), .val (.ref x704), .val (.ref m704)] [(.int c2), (.int c2)])) _
    refine GoOn.step (fun tq kq => XS.icmpYes X783.here hx rfl (pc0 := 217) (pc' := 222) rfl (hb hby at_217) rfl (teq rfl).1 (by decide) (by decide) kq) ?_
    show GoOn p e below (T783.setTop (mkF m 222 #[.val (.int p0), .val (.int p1), .val (.int p2), .val (.int p3), .val (.int p4), .val (.int c0), .val (.int c1), .val (.int c2), .val (.int c3), .val (.int (1 : Int32)), .val (.int (1 : Int32)), .val (.ref sa691), .val (.ref sa697), .val (.ref x704), .val (.ref m704)] [])) _
    refine GoOn.step (fun tq kq => XS.iload X783.here hx rfl (hb hby at_222) rfl kq) ?_
    show GoOn p e below (T783.setTop (mkF m 224 #[.val (.int p0), .val (.int p1), .val (.int p2), .val (.int p3), .val (.int p4), .val (.int c0), .val (.int c1), .val (.int c2), .val (.int c3), .val (.int (1 : Int32)), .val (.int (1 : Int32)), .val (.ref sa691), .val (.ref sa697), .val (.ref x704), .val (.ref m704)] [(.int (1 : Int32))])) _
    refine GoOn.step (fun tq kq => XS.iconst X783.here hx rfl (hb hby at_224) kq) ?_
    show GoOn p e below (T783.setTop (mkF m 225 #[.val (.int p0), .val (.int p1), .val (.int p2), .val (.int p3), .val (.int p4), .val (.int c0), .val (.int c1), .val (.int c2), .val (.int c3), .val (.int (1 : Int32)), .val (.int (1 : Int32)), .val (.ref sa691), .val (.ref sa697), .val (.ref x704), .val (.ref m704)] [(.int (2 : Int32)), (.int (1 : Int32))])) _
    refine GoOn.step (fun tq kq => XS.icmpYes X783.here hx rfl (pc0 := 225) (pc' := 244) rfl (hb hby at_225) rfl (tlt (by decide)).1 (by decide) (by decide) kq) ?_
    show GoOn p e below (T783.setTop (mkF m 244 #[.val (.int p0), .val (.int p1), .val (.int p2), .val (.int p3), .val (.int p4), .val (.int c0), .val (.int c1), .val (.int c2), .val (.int c3), .val (.int (1 : Int32)), .val (.int (1 : Int32)), .val (.ref sa691), .val (.ref sa697), .val (.ref x704), .val (.ref m704)] [])) _
    refine GoOn.step (fun tq kq => XS.iconst X783.here hx rfl (hb hby at_244) kq) ?_
    show GoOn p e below (T783.setTop (mkF m 245 #[.val (.int p0), .val (.int p1), .val (.int p2), .val (.int p3), .val (.int p4), .val (.int c0), .val (.int c1), .val (.int c2), .val (.int c3), .val (.int (1 : Int32)), .val (.int (1 : Int32)), .val (.ref sa691), .val (.ref sa697), .val (.ref x704), .val (.ref m704)] [(.int (1 : Int32))])) _
    refine GoOn.retH X783 hZ704 hSn704 (hk704) hEL hh e783 C709 Bd.notSynchronized (v := some (.int (nar .boolean (1 : Int32)))) (fun h => by rw [Bd.returns] at h; cases h) (fun fs hr => retN X783 hx (t := .boolean) Bd.returns (by simp) (hb hby at_245) hr) (by decide) (by decide) ?_
    exact ⟨rfl, N785⟩
  · skip
    have Sr786 : StrIs Z T704.heap m704 ([c0, 58, 32, c2, c3] : List Int32) := S704
    show GoOn p e below (T715.setTop (mkF m 117 #[.val (.int p0), .val (.int p1), .val (.int p2), .val (.int p3), .val (.int p4), .val (.int c0), .val (.int c1), .val (.int c2), .val (.int c3), .val (.int (1 : Int32)), .val (.int (2 : Int32)), .val (.ref sa691), .val (.ref sa697), .val (.ref x704), .val (.ref m704)] [(.ref m704)])) _
    obtain ⟨cqc788, kqc788, qac788, qbc788, qcc788⟩ := isOf hZ704 e715 Sr786.1
    obtain ⟨_, _, ⟨T787, L787, k787, n787⟩, -, X787, ⟨Lc787, hQ787, l787, y787, z787⟩, st787⟩ := X715.virtualBack hx (y := (⟨"java/lang/String", "length", "()I"⟩ : MethodName)) (z := (⟨"java/lang/String", "length", "()I"⟩ : MethodName)) hown704 (mvT hZ704 (hw _ (List.mem_of_getElem? (i := 200) rfl))) (mvT hZ704 (hw _ (List.mem_of_getElem? (i := 50) rfl))) (notFace_of_selects (args := #[]) (mvT hZ704 (hw _ (List.mem_of_getElem? (i := 52) rfl)))) (mvT hZ704 (hw _ (List.mem_of_getElem? (i := 52) rfl))) (mvT hZ704 (hw _ (List.mem_of_getElem? (i := 51) rfl))) (by decide) (backOf (W := 0) (rmLen l Z a0 hw m704 ([c0, 58, 32, c2, c3] : List Int32) G1 T704.heap n0 Z707 SC PC Sr786 O706) hZ704 (hw _ (List.mem_of_getElem? (i := 53) rfl)) (hw _ (List.mem_of_getElem? (i := 6) rfl)) (by decide) (by decide)) qac788 qcc788 (g := (mkF m 117 #[.val (.int p0), .val (.int p1), .val (.int p2), .val (.int p3), .val (.int p4), .val (.int c0), .val (.int c1), .val (.int c2), .val (.int c3), .val (.int (1 : Int32)), .val (.int (2 : Int32)), .val (.ref sa691), .val (.ref sa697), .val (.ref x704), .val (.ref m704)] [(.ref m704)])) rfl (by rw [hml]; rfl) (Steps.refl _) (argsL := []) (rest := []) (lenOf own_pd181 rfl) rfl (by show 2 * 0 + _ ≤ _; exact Nat.le_of_eq rfl) (hb hby at_117) (fun _ _ => ⟨rfl, e715, (by decide : 20 + 0 ≤ _), (by decide : 2872 + 0 ≤ _)⟩)
    dsimp only [Pt.U, Pt.locs, Pt.cells, Pt.slots] at X787 l787 y787 z787 st787 hQ787
    subst l787 y787 z787
    obtain ⟨rfl, N787, e787⟩ := hQ787
    refine GoOn.trans st787 ?_
    have N789 := Fr.app N717 N787
    show GoOn p e below (T787.setTop (mkF m 120 #[.val (.int p0), .val (.int p1), .val (.int p2), .val (.int p3), .val (.int p4), .val (.int c0), .val (.int c1), .val (.int c2), .val (.int c3), .val (.int (1 : Int32)), .val (.int (2 : Int32)), .val (.ref sa691), .val (.ref sa697), .val (.ref x704), .val (.ref m704)] [(.int (5 : Int32))])) _
    refine GoOn.step (fun tq kq => XS.iload X787.here hx rfl (hb hby at_120) rfl kq) ?_
    show GoOn p e below (T787.setTop (mkF m 122 #[.val (.int p0), .val (.int p1), .val (.int p2), .val (.int p3), .val (.int p4), .val (.int c0), .val (.int c1), .val (.int c2), .val (.int c3), .val (.int (1 : Int32)), .val (.int (2 : Int32)), .val (.ref sa691), .val (.ref sa697), .val (.ref x704), .val (.ref m704)] [(.int (1 : Int32)), (.int (5 : Int32))])) _
    refine GoOn.step (fun tq kq => XS.iconst X787.here hx rfl (hb hby at_122) kq) ?_
    show GoOn p e below (T787.setTop (mkF m 123 #[.val (.int p0), .val (.int p1), .val (.int p2), .val (.int p3), .val (.int p4), .val (.int c0), .val (.int c1), .val (.int c2), .val (.int c3), .val (.int (1 : Int32)), .val (.int (2 : Int32)), .val (.ref sa691), .val (.ref sa697), .val (.ref x704), .val (.ref m704)] [(.int (2 : Int32)), (.int (1 : Int32)), (.int (5 : Int32))])) _
    refine GoOn.step (fun tq kq => XS.iadd X787.here hx rfl (hb hby at_123) rfl kq) ?_
    show GoOn p e below (T787.setTop (mkF m 124 #[.val (.int p0), .val (.int p1), .val (.int p2), .val (.int p3), .val (.int p4), .val (.int c0), .val (.int c1), .val (.int c2), .val (.int c3), .val (.int (1 : Int32)), .val (.int (2 : Int32)), .val (.ref sa691), .val (.ref sa697), .val (.ref x704), .val (.ref m704)] [(.int ((1 : Int32) + (2 : Int32))), (.int (5 : Int32))])) _
    refine GoOn.step (fun tq kq => XS.iload X787.here hx rfl (hb hby at_124) rfl kq) ?_
    show GoOn p e below (T787.setTop (mkF m 126 #[.val (.int p0), .val (.int p1), .val (.int p2), .val (.int p3), .val (.int p4), .val (.int c0), .val (.int c1), .val (.int c2), .val (.int c3), .val (.int (1 : Int32)), .val (.int (2 : Int32)), .val (.ref sa691), .val (.ref sa697), .val (.ref x704), .val (.ref m704)] [(.int (2 : Int32)), (.int ((1 : Int32) + (2 : Int32))), (.int (5 : Int32))])) _
    refine GoOn.step (fun tq kq => XS.iadd X787.here hx rfl (hb hby at_126) rfl kq) ?_
    show GoOn p e below (T787.setTop (mkF m 127 #[.val (.int p0), .val (.int p1), .val (.int p2), .val (.int p3), .val (.int p4), .val (.int c0), .val (.int c1), .val (.int c2), .val (.int c3), .val (.int (1 : Int32)), .val (.int (2 : Int32)), .val (.ref sa691), .val (.ref sa697), .val (.ref x704), .val (.ref m704)] [(.int (((1 : Int32) + (2 : Int32)) + (2 : Int32))), (.int (5 : Int32))])) _
    refine GoOn.step (fun tq kq => XS.icmpYes X787.here hx rfl (pc0 := 127) (pc' := 132) rfl (hb hby at_127) rfl (teq (by decide)).1 (by decide) (by decide) kq) ?_
    show GoOn p e below (T787.setTop (mkF m 132 #[.val (.int p0), .val (.int p1), .val (.int p2), .val (.int p3), .val (.int p4), .val (.int c0), .val (.int c1), .val (.int c2), .val (.int c3), .val (.int (1 : Int32)), .val (.int (2 : Int32)), .val (.ref sa691), .val (.ref sa697), .val (.ref x704), .val (.ref m704)] [])) _
    refine GoOn.step (fun tq kq => XS.iload X787.here hx rfl (hb hby at_132) rfl kq) ?_
    show GoOn p e below (T787.setTop (mkF m 134 #[.val (.int p0), .val (.int p1), .val (.int p2), .val (.int p3), .val (.int p4), .val (.int c0), .val (.int c1), .val (.int c2), .val (.int c3), .val (.int (1 : Int32)), .val (.int (2 : Int32)), .val (.ref sa691), .val (.ref sa697), .val (.ref x704), .val (.ref m704)] [(.int (1 : Int32))])) _
    refine GoOn.step (fun tq kq => XS.iconst X787.here hx rfl (hb hby at_134) kq) ?_
    show GoOn p e below (T787.setTop (mkF m 135 #[.val (.int p0), .val (.int p1), .val (.int p2), .val (.int p3), .val (.int p4), .val (.int c0), .val (.int c1), .val (.int c2), .val (.int c3), .val (.int (1 : Int32)), .val (.int (2 : Int32)), .val (.ref sa691), .val (.ref sa697), .val (.ref x704), .val (.ref m704)] [(.int (1 : Int32)), (.int (1 : Int32))])) _
    refine GoOn.step (fun tq kq => XS.icmpNo X787.here hx rfl (hb hby at_135) rfl (flt (by decide)).1 kq) ?_
    show GoOn p e below (T787.setTop (mkF m 138 #[.val (.int p0), .val (.int p1), .val (.int p2), .val (.int p3), .val (.int p4), .val (.int c0), .val (.int c1), .val (.int c2), .val (.int c3), .val (.int (1 : Int32)), .val (.int (2 : Int32)), .val (.ref sa691), .val (.ref sa697), .val (.ref x704), .val (.ref m704)] [])) _
    refine GoOn.step (fun tq kq => XS.aload X787.here hx rfl (hb hby at_138) rfl rfl kq) ?_
    show GoOn p e below (T787.setTop (mkF m 140 #[.val (.int p0), .val (.int p1), .val (.int p2), .val (.int p3), .val (.int p4), .val (.int c0), .val (.int c1), .val (.int c2), .val (.int c3), .val (.int (1 : Int32)), .val (.int (2 : Int32)), .val (.ref sa691), .val (.ref sa697), .val (.ref x704), .val (.ref m704)] [(.ref m704)])) _
    refine GoOn.step (fun tq kq => XS.iconst X787.here hx rfl (hb hby at_140) kq) ?_
    show GoOn p e below (T787.setTop (mkF m 141 #[.val (.int p0), .val (.int p1), .val (.int p2), .val (.int p3), .val (.int p4), .val (.int c0), .val (.int c1), .val (.int c2), .val (.int c3), .val (.int (1 : Int32)), .val (.int (2 : Int32)), .val (.ref sa691), .val (.ref sa697), .val (.ref x704), .val (.ref m704)] [(.int (0 : Int32)), (.ref m704)])) _
    obtain ⟨cqc791, kqc791, qac791, qbc791, qcc791⟩ := isOf hZ704 e787 Sr786.1
    obtain ⟨_, _, ⟨T790, L790, k790, n790⟩, -, X790, ⟨Lc790, hQ790, l790, y790, z790⟩, st790⟩ := X787.virtualBack hx (y := (⟨"java/lang/String", "charAt", "(I)C"⟩ : MethodName)) (z := (⟨"java/lang/String", "charAt", "(I)C"⟩ : MethodName)) hown704 (mvT hZ704 (hw _ (List.mem_of_getElem? (i := 201) rfl))) (mvT hZ704 (hw _ (List.mem_of_getElem? (i := 202) rfl))) (notFace_of_selects (args := #[]) (mvT hZ704 (hw _ (List.mem_of_getElem? (i := 204) rfl)))) (mvT hZ704 (hw _ (List.mem_of_getElem? (i := 204) rfl))) (mvT hZ704 (hw _ (List.mem_of_getElem? (i := 203) rfl))) (by decide) (own_chS (n0 := n0) (W := 0) hZ704 hch (kI := 4) (hw _ (List.mem_of_getElem? (i := 7) rfl)) Sr786 (SC.ext O706.2) PC (SF.ext O706.2) rG3 0 (Nat.le_of_ble_eq_true rfl) (by decide) (by decide) (by decide)) qac791 qcc791 (g := (mkF m 141 #[.val (.int p0), .val (.int p1), .val (.int p2), .val (.int p3), .val (.int p4), .val (.int c0), .val (.int c1), .val (.int c2), .val (.int c3), .val (.int (1 : Int32)), .val (.int (2 : Int32)), .val (.ref sa691), .val (.ref sa697), .val (.ref x704), .val (.ref m704)] [(.int (0 : Int32)), (.ref m704)])) rfl (by rw [hml]; rfl) (Steps.refl _) (argsL := [(.int (0 : Int32))]) (rest := []) (lenOf own_pd368 rfl) rfl (by show 2 * 0 + _ ≤ _; exact Nat.le_of_eq rfl) (hb hby at_141) (fun _ _ => ⟨rfl, e787, (by decide : 20 + 0 ≤ _), (by decide : 2872 + 0 ≤ _)⟩)
    dsimp only [Pt.U, Pt.locs, Pt.cells, Pt.slots] at X790 l790 y790 z790 st790 hQ790
    subst l790 y790 z790
    obtain ⟨rfl, N790, e790⟩ := hQ790
    refine GoOn.trans st790 ?_
    have N792 := Fr.app N789 N790
    show GoOn p e below (T790.setTop (mkF m 144 #[.val (.int p0), .val (.int p1), .val (.int p2), .val (.int p3), .val (.int p4), .val (.int c0), .val (.int c1), .val (.int c2), .val (.int c3), .val (.int (1 : Int32)), .val (.int (2 : Int32)), .val (.ref sa691), .val (.ref sa697), .val (.ref x704), .val (.ref m704)] [(.int c0)])) _
    refine GoOn.step (fun tq kq => XS.iload X790.here hx rfl (hb hby at_144) rfl kq) ?_
    show GoOn p e below (T790.setTop (mkF m 146 #[.val (.int p0), .val (.int p1), .val (.int p2), .val (.int p3), .val (.int p4), .val (.int c0), .val (.int c1), .val (.int c2), .val (.int c3), .val (.int (1 : Int32)), .val (.int (2 : Int32)), .val (.ref sa691), .val (.ref sa697), .val (.ref x704), .val (.ref m704)] [(.int c0), (.int c0)])) _
    refine GoOn.step (fun tq kq => XS.icmpYes X790.here hx rfl (pc0 := 146) (pc' := 151) rfl (hb hby at_146) rfl (teq rfl).1 (by decide) (by decide) kq) ?_
    show GoOn p e below (T790.setTop (mkF m 151 #[.val (.int p0), .val (.int p1), .val (.int p2), .val (.int p3), .val (.int p4), .val (.int c0), .val (.int c1), .val (.int c2), .val (.int c3), .val (.int (1 : Int32)), .val (.int (2 : Int32)), .val (.ref sa691), .val (.ref sa697), .val (.ref x704), .val (.ref m704)] [])) _
    refine GoOn.step (fun tq kq => XS.iload X790.here hx rfl (hb hby at_151) rfl kq) ?_
    show GoOn p e below (T790.setTop (mkF m 153 #[.val (.int p0), .val (.int p1), .val (.int p2), .val (.int p3), .val (.int p4), .val (.int c0), .val (.int c1), .val (.int c2), .val (.int c3), .val (.int (1 : Int32)), .val (.int (2 : Int32)), .val (.ref sa691), .val (.ref sa697), .val (.ref x704), .val (.ref m704)] [(.int (1 : Int32))])) _
    refine GoOn.step (fun tq kq => XS.iconst X790.here hx rfl (hb hby at_153) kq) ?_
    show GoOn p e below (T790.setTop (mkF m 154 #[.val (.int p0), .val (.int p1), .val (.int p2), .val (.int p3), .val (.int p4), .val (.int c0), .val (.int c1), .val (.int c2), .val (.int c3), .val (.int (1 : Int32)), .val (.int (2 : Int32)), .val (.ref sa691), .val (.ref sa697), .val (.ref x704), .val (.ref m704)] [(.int (2 : Int32)), (.int (1 : Int32))])) _
    refine GoOn.step (fun tq kq => XS.icmpYes X790.here hx rfl (pc0 := 154) (pc' := 170) rfl (hb hby at_154) rfl (tlt (by decide)).1 (by decide) (by decide) kq) ?_
    show GoOn p e below (T790.setTop (mkF m 170 #[.val (.int p0), .val (.int p1), .val (.int p2), .val (.int p3), .val (.int p4), .val (.int c0), .val (.int c1), .val (.int c2), .val (.int c3), .val (.int (1 : Int32)), .val (.int (2 : Int32)), .val (.ref sa691), .val (.ref sa697), .val (.ref x704), .val (.ref m704)] [])) _
    refine GoOn.step (fun tq kq => XS.aload X790.here hx rfl (hb hby at_170) rfl rfl kq) ?_
    show GoOn p e below (T790.setTop (mkF m 172 #[.val (.int p0), .val (.int p1), .val (.int p2), .val (.int p3), .val (.int p4), .val (.int c0), .val (.int c1), .val (.int c2), .val (.int c3), .val (.int (1 : Int32)), .val (.int (2 : Int32)), .val (.ref sa691), .val (.ref sa697), .val (.ref x704), .val (.ref m704)] [(.ref m704)])) _
    refine GoOn.step (fun tq kq => XS.iload X790.here hx rfl (hb hby at_172) rfl kq) ?_
    show GoOn p e below (T790.setTop (mkF m 174 #[.val (.int p0), .val (.int p1), .val (.int p2), .val (.int p3), .val (.int p4), .val (.int c0), .val (.int c1), .val (.int c2), .val (.int c3), .val (.int (1 : Int32)), .val (.int (2 : Int32)), .val (.ref sa691), .val (.ref sa697), .val (.ref x704), .val (.ref m704)] [(.int (1 : Int32)), (.ref m704)])) _
    obtain ⟨cqc794, kqc794, qac794, qbc794, qcc794⟩ := isOf hZ704 e790 Sr786.1
    obtain ⟨_, _, ⟨T793, L793, k793, n793⟩, -, X793, ⟨Lc793, hQ793, l793, y793, z793⟩, st793⟩ := X790.virtualBack hx (y := (⟨"java/lang/String", "charAt", "(I)C"⟩ : MethodName)) (z := (⟨"java/lang/String", "charAt", "(I)C"⟩ : MethodName)) hown704 (mvT hZ704 (hw _ (List.mem_of_getElem? (i := 201) rfl))) (mvT hZ704 (hw _ (List.mem_of_getElem? (i := 202) rfl))) (notFace_of_selects (args := #[]) (mvT hZ704 (hw _ (List.mem_of_getElem? (i := 204) rfl)))) (mvT hZ704 (hw _ (List.mem_of_getElem? (i := 204) rfl))) (mvT hZ704 (hw _ (List.mem_of_getElem? (i := 203) rfl))) (by decide) (own_chS (n0 := n0) (W := 0) hZ704 hch (kI := 4) (hw _ (List.mem_of_getElem? (i := 7) rfl)) Sr786 (SC.ext O706.2) PC (SF.ext O706.2) rG3 1 (Nat.le_of_ble_eq_true rfl) (by decide) (by decide) (by decide)) qac794 qcc794 (g := (mkF m 174 #[.val (.int p0), .val (.int p1), .val (.int p2), .val (.int p3), .val (.int p4), .val (.int c0), .val (.int c1), .val (.int c2), .val (.int c3), .val (.int (1 : Int32)), .val (.int (2 : Int32)), .val (.ref sa691), .val (.ref sa697), .val (.ref x704), .val (.ref m704)] [(.int (1 : Int32)), (.ref m704)])) rfl (by rw [hml]; rfl) (Steps.refl _) (argsL := [(.int (1 : Int32))]) (rest := []) (lenOf own_pd368 rfl) rfl (by show 2 * 0 + _ ≤ _; exact Nat.le_of_eq rfl) (hb hby at_174) (fun _ _ => ⟨rfl, e790, (by decide : 20 + 0 ≤ _), (by decide : 2872 + 0 ≤ _)⟩)
    dsimp only [Pt.U, Pt.locs, Pt.cells, Pt.slots] at X793 l793 y793 z793 st793 hQ793
    subst l793 y793 z793
    obtain ⟨rfl, N793, e793⟩ := hQ793
    refine GoOn.trans st793 ?_
    have N795 := Fr.app N792 N793
    show GoOn p e below (T793.setTop (mkF m 177 #[.val (.int p0), .val (.int p1), .val (.int p2), .val (.int p3), .val (.int p4), .val (.int c0), .val (.int c1), .val (.int c2), .val (.int c3), .val (.int (1 : Int32)), .val (.int (2 : Int32)), .val (.ref sa691), .val (.ref sa697), .val (.ref x704), .val (.ref m704)] [(.int (58 : Int32))])) _
    refine GoOn.step (fun tq kq => XS.bipush X793.here hx rfl (hb hby at_177) kq) ?_
    show GoOn p e below (T793.setTop (mkF m 179 #[.val (.int p0), .val (.int p1), .val (.int p2), .val (.int p3), .val (.int p4), .val (.int c0), .val (.int c1), .val (.int c2), .val (.int c3), .val (.int (1 : Int32)), .val (.int (2 : Int32)), .val (.ref sa691), .val (.ref sa697), .val (.ref x704), .val (.ref m704)] [(.int (58 : Int32)), (.int (58 : Int32))])) _
    refine GoOn.step (fun tq kq => XS.icmpYes X793.here hx rfl (pc0 := 179) (pc' := 184) rfl (hb hby at_179) rfl (teq rfl).1 (by decide) (by decide) kq) ?_
    show GoOn p e below (T793.setTop (mkF m 184 #[.val (.int p0), .val (.int p1), .val (.int p2), .val (.int p3), .val (.int p4), .val (.int c0), .val (.int c1), .val (.int c2), .val (.int c3), .val (.int (1 : Int32)), .val (.int (2 : Int32)), .val (.ref sa691), .val (.ref sa697), .val (.ref x704), .val (.ref m704)] [])) _
    refine GoOn.step (fun tq kq => XS.aload X793.here hx rfl (hb hby at_184) rfl rfl kq) ?_
    show GoOn p e below (T793.setTop (mkF m 186 #[.val (.int p0), .val (.int p1), .val (.int p2), .val (.int p3), .val (.int p4), .val (.int c0), .val (.int c1), .val (.int c2), .val (.int c3), .val (.int (1 : Int32)), .val (.int (2 : Int32)), .val (.ref sa691), .val (.ref sa697), .val (.ref x704), .val (.ref m704)] [(.ref m704)])) _
    refine GoOn.step (fun tq kq => XS.iload X793.here hx rfl (hb hby at_186) rfl kq) ?_
    show GoOn p e below (T793.setTop (mkF m 188 #[.val (.int p0), .val (.int p1), .val (.int p2), .val (.int p3), .val (.int p4), .val (.int c0), .val (.int c1), .val (.int c2), .val (.int c3), .val (.int (1 : Int32)), .val (.int (2 : Int32)), .val (.ref sa691), .val (.ref sa697), .val (.ref x704), .val (.ref m704)] [(.int (1 : Int32)), (.ref m704)])) _
    refine GoOn.step (fun tq kq => XS.iconst X793.here hx rfl (hb hby at_188) kq) ?_
    show GoOn p e below (T793.setTop (mkF m 189 #[.val (.int p0), .val (.int p1), .val (.int p2), .val (.int p3), .val (.int p4), .val (.int c0), .val (.int c1), .val (.int c2), .val (.int c3), .val (.int (1 : Int32)), .val (.int (2 : Int32)), .val (.ref sa691), .val (.ref sa697), .val (.ref x704), .val (.ref m704)] [(.int (1 : Int32)), (.int (1 : Int32)), (.ref m704)])) _
    refine GoOn.step (fun tq kq => XS.iadd X793.here hx rfl (hb hby at_189) rfl kq) ?_
    show GoOn p e below (T793.setTop (mkF m 190 #[.val (.int p0), .val (.int p1), .val (.int p2), .val (.int p3), .val (.int p4), .val (.int c0), .val (.int c1), .val (.int c2), .val (.int c3), .val (.int (1 : Int32)), .val (.int (2 : Int32)), .val (.ref sa691), .val (.ref sa697), .val (.ref x704), .val (.ref m704)] [(.int ((1 : Int32) + (1 : Int32))), (.ref m704)])) _
    obtain ⟨cqc797, kqc797, qac797, qbc797, qcc797⟩ := isOf hZ704 e793 Sr786.1
    obtain ⟨_, _, ⟨T796, L796, k796, n796⟩, -, X796, ⟨Lc796, hQ796, l796, y796, z796⟩, st796⟩ := X793.virtualBack hx (y := (⟨"java/lang/String", "charAt", "(I)C"⟩ : MethodName)) (z := (⟨"java/lang/String", "charAt", "(I)C"⟩ : MethodName)) hown704 (mvT hZ704 (hw _ (List.mem_of_getElem? (i := 201) rfl))) (mvT hZ704 (hw _ (List.mem_of_getElem? (i := 202) rfl))) (notFace_of_selects (args := #[]) (mvT hZ704 (hw _ (List.mem_of_getElem? (i := 204) rfl)))) (mvT hZ704 (hw _ (List.mem_of_getElem? (i := 204) rfl))) (mvT hZ704 (hw _ (List.mem_of_getElem? (i := 203) rfl))) (by decide) (own_chS (n0 := n0) (W := 0) hZ704 hch (kI := 4) (hw _ (List.mem_of_getElem? (i := 7) rfl)) Sr786 (SC.ext O706.2) PC (SF.ext O706.2) rG3 2 (Nat.le_of_ble_eq_true rfl) (by decide) (by decide) (by decide)) qac797 qcc797 (g := (mkF m 190 #[.val (.int p0), .val (.int p1), .val (.int p2), .val (.int p3), .val (.int p4), .val (.int c0), .val (.int c1), .val (.int c2), .val (.int c3), .val (.int (1 : Int32)), .val (.int (2 : Int32)), .val (.ref sa691), .val (.ref sa697), .val (.ref x704), .val (.ref m704)] [(.int ((1 : Int32) + (1 : Int32))), (.ref m704)])) rfl (by rw [hml]; rfl) (Steps.refl _) (argsL := [(.int ((1 : Int32) + (1 : Int32)))]) (rest := []) (lenOf own_pd368 rfl) rfl (by show 2 * 0 + _ ≤ _; exact Nat.le_of_eq rfl) (hb hby at_190) (fun _ _ => ⟨rfl, e793, (by decide : 20 + 0 ≤ _), (by decide : 2872 + 0 ≤ _)⟩)
    dsimp only [Pt.U, Pt.locs, Pt.cells, Pt.slots] at X796 l796 y796 z796 st796 hQ796
    subst l796 y796 z796
    obtain ⟨rfl, N796, e796⟩ := hQ796
    refine GoOn.trans st796 ?_
    have N798 := Fr.app N795 N796
    show GoOn p e below (T796.setTop (mkF m 193 #[.val (.int p0), .val (.int p1), .val (.int p2), .val (.int p3), .val (.int p4), .val (.int c0), .val (.int c1), .val (.int c2), .val (.int c3), .val (.int (1 : Int32)), .val (.int (2 : Int32)), .val (.ref sa691), .val (.ref sa697), .val (.ref x704), .val (.ref m704)] [(.int (32 : Int32))])) _
    refine GoOn.step (fun tq kq => XS.bipush X796.here hx rfl (hb hby at_193) kq) ?_
    show GoOn p e below (T796.setTop (mkF m 195 #[.val (.int p0), .val (.int p1), .val (.int p2), .val (.int p3), .val (.int p4), .val (.int c0), .val (.int c1), .val (.int c2), .val (.int c3), .val (.int (1 : Int32)), .val (.int (2 : Int32)), .val (.ref sa691), .val (.ref sa697), .val (.ref x704), .val (.ref m704)] [(.int (32 : Int32)), (.int (32 : Int32))])) _
    refine GoOn.step (fun tq kq => XS.icmpYes X796.here hx rfl (pc0 := 195) (pc' := 200) rfl (hb hby at_195) rfl (teq rfl).1 (by decide) (by decide) kq) ?_
    show GoOn p e below (T796.setTop (mkF m 200 #[.val (.int p0), .val (.int p1), .val (.int p2), .val (.int p3), .val (.int p4), .val (.int c0), .val (.int c1), .val (.int c2), .val (.int c3), .val (.int (1 : Int32)), .val (.int (2 : Int32)), .val (.ref sa691), .val (.ref sa697), .val (.ref x704), .val (.ref m704)] [])) _
    refine GoOn.step (fun tq kq => XS.iload X796.here hx rfl (hb hby at_200) rfl kq) ?_
    show GoOn p e below (T796.setTop (mkF m 202 #[.val (.int p0), .val (.int p1), .val (.int p2), .val (.int p3), .val (.int p4), .val (.int c0), .val (.int c1), .val (.int c2), .val (.int c3), .val (.int (1 : Int32)), .val (.int (2 : Int32)), .val (.ref sa691), .val (.ref sa697), .val (.ref x704), .val (.ref m704)] [(.int (2 : Int32))])) _
    refine GoOn.step (fun tq kq => XS.iconst X796.here hx rfl (hb hby at_202) kq) ?_
    show GoOn p e below (T796.setTop (mkF m 203 #[.val (.int p0), .val (.int p1), .val (.int p2), .val (.int p3), .val (.int p4), .val (.int c0), .val (.int c1), .val (.int c2), .val (.int c3), .val (.int (1 : Int32)), .val (.int (2 : Int32)), .val (.ref sa691), .val (.ref sa697), .val (.ref x704), .val (.ref m704)] [(.int (1 : Int32)), (.int (2 : Int32))])) _
    refine GoOn.step (fun tq kq => XS.icmpNo X796.here hx rfl (hb hby at_203) rfl (flt (by decide)).1 kq) ?_
    show GoOn p e below (T796.setTop (mkF m 206 #[.val (.int p0), .val (.int p1), .val (.int p2), .val (.int p3), .val (.int p4), .val (.int c0), .val (.int c1), .val (.int c2), .val (.int c3), .val (.int (1 : Int32)), .val (.int (2 : Int32)), .val (.ref sa691), .val (.ref sa697), .val (.ref x704), .val (.ref m704)] [])) _
    refine GoOn.step (fun tq kq => XS.aload X796.here hx rfl (hb hby at_206) rfl rfl kq) ?_
    show GoOn p e below (T796.setTop (mkF m 208 #[.val (.int p0), .val (.int p1), .val (.int p2), .val (.int p3), .val (.int p4), .val (.int c0), .val (.int c1), .val (.int c2), .val (.int c3), .val (.int (1 : Int32)), .val (.int (2 : Int32)), .val (.ref sa691), .val (.ref sa697), .val (.ref x704), .val (.ref m704)] [(.ref m704)])) _
    refine GoOn.step (fun tq kq => XS.iload X796.here hx rfl (hb hby at_208) rfl kq) ?_
    show GoOn p e below (T796.setTop (mkF m 210 #[.val (.int p0), .val (.int p1), .val (.int p2), .val (.int p3), .val (.int p4), .val (.int c0), .val (.int c1), .val (.int c2), .val (.int c3), .val (.int (1 : Int32)), .val (.int (2 : Int32)), .val (.ref sa691), .val (.ref sa697), .val (.ref x704), .val (.ref m704)] [(.int (1 : Int32)), (.ref m704)])) _
    refine GoOn.step (fun tq kq => XS.iconst X796.here hx rfl (hb hby at_210) kq) ?_
    show GoOn p e below (T796.setTop (mkF m 211 #[.val (.int p0), .val (.int p1), .val (.int p2), .val (.int p3), .val (.int p4), .val (.int c0), .val (.int c1), .val (.int c2), .val (.int c3), .val (.int (1 : Int32)), .val (.int (2 : Int32)), .val (.ref sa691), .val (.ref sa697), .val (.ref x704), .val (.ref m704)] [(.int (2 : Int32)), (.int (1 : Int32)), (.ref m704)])) _
    refine GoOn.step (fun tq kq => XS.iadd X796.here hx rfl (hb hby at_211) rfl kq) ?_
    show GoOn p e below (T796.setTop (mkF m 212 #[.val (.int p0), .val (.int p1), .val (.int p2), .val (.int p3), .val (.int p4), .val (.int c0), .val (.int c1), .val (.int c2), .val (.int c3), .val (.int (1 : Int32)), .val (.int (2 : Int32)), .val (.ref sa691), .val (.ref sa697), .val (.ref x704), .val (.ref m704)] [(.int ((1 : Int32) + (2 : Int32))), (.ref m704)])) _
    obtain ⟨cqc800, kqc800, qac800, qbc800, qcc800⟩ := isOf hZ704 e796 Sr786.1
    obtain ⟨_, _, ⟨T799, L799, k799, n799⟩, -, X799, ⟨Lc799, hQ799, l799, y799, z799⟩, st799⟩ := X796.virtualBack hx (y := (⟨"java/lang/String", "charAt", "(I)C"⟩ : MethodName)) (z := (⟨"java/lang/String", "charAt", "(I)C"⟩ : MethodName)) hown704 (mvT hZ704 (hw _ (List.mem_of_getElem? (i := 201) rfl))) (mvT hZ704 (hw _ (List.mem_of_getElem? (i := 202) rfl))) (notFace_of_selects (args := #[]) (mvT hZ704 (hw _ (List.mem_of_getElem? (i := 204) rfl)))) (mvT hZ704 (hw _ (List.mem_of_getElem? (i := 204) rfl))) (mvT hZ704 (hw _ (List.mem_of_getElem? (i := 203) rfl))) (by decide) (own_chS (n0 := n0) (W := 0) hZ704 hch (kI := 4) (hw _ (List.mem_of_getElem? (i := 7) rfl)) Sr786 (SC.ext O706.2) PC (SF.ext O706.2) rG3 3 (Nat.le_of_ble_eq_true rfl) (by decide) (by decide) (by decide)) qac800 qcc800 (g := (mkF m 212 #[.val (.int p0), .val (.int p1), .val (.int p2), .val (.int p3), .val (.int p4), .val (.int c0), .val (.int c1), .val (.int c2), .val (.int c3), .val (.int (1 : Int32)), .val (.int (2 : Int32)), .val (.ref sa691), .val (.ref sa697), .val (.ref x704), .val (.ref m704)] [(.int ((1 : Int32) + (2 : Int32))), (.ref m704)])) rfl (by rw [hml]; rfl) (Steps.refl _) (argsL := [(.int ((1 : Int32) + (2 : Int32)))]) (rest := []) (lenOf own_pd368 rfl) rfl (by show 2 * 0 + _ ≤ _; exact Nat.le_of_eq rfl) (hb hby at_212) (fun _ _ => ⟨rfl, e796, (by decide : 20 + 0 ≤ _), (by decide : 2872 + 0 ≤ _)⟩)
    dsimp only [Pt.U, Pt.locs, Pt.cells, Pt.slots] at X799 l799 y799 z799 st799 hQ799
    subst l799 y799 z799
    obtain ⟨rfl, N799, e799⟩ := hQ799
    refine GoOn.trans st799 ?_
    have N801 := Fr.app N798 N799
    show GoOn p e below (T799.setTop (mkF m 215 #[.val (.int p0), .val (.int p1), .val (.int p2), .val (.int p3), .val (.int p4), .val (.int c0), .val (.int c1), .val (.int c2), .val (.int c3), .val (.int (1 : Int32)), .val (.int (2 : Int32)), .val (.ref sa691), .val (.ref sa697), .val (.ref x704), .val (.ref m704)] [(.int c2)])) _
    refine GoOn.step (fun tq kq => XS.iload X799.here hx rfl (hb hby at_215) rfl kq) ?_
    show GoOn p e below (T799.setTop (mkF m 217 #[.val (.int p0), .val (.int p1), .val (.int p2), .val (.int p3), .val (.int p4), .val (.int c0), .val (.int c1), .val (.int c2), .val (.int c3), .val (.int (1 : Int32)), .val (.int (2 : Int32)), .val (.ref sa691), .val (.ref sa697), .val (.ref x704), .val (.ref m704)] [(.int c2), (.int c2)])) _
    refine GoOn.step (fun tq kq => XS.icmpYes X799.here hx rfl (pc0 := 217) (pc' := 222) rfl (hb hby at_217) rfl (teq rfl).1 (by decide) (by decide) kq) ?_
    show GoOn p e below (T799.setTop (mkF m 222 #[.val (.int p0), .val (.int p1), .val (.int p2), .val (.int p3), .val (.int p4), .val (.int c0), .val (.int c1), .val (.int c2), .val (.int c3), .val (.int (1 : Int32)), .val (.int (2 : Int32)), .val (.ref sa691), .val (.ref sa697), .val (.ref x704), .val (.ref m704)] [])) _
    refine GoOn.step (fun tq kq => XS.iload X799.here hx rfl (hb hby at_222) rfl kq) ?_
    show GoOn p e below (T799.setTop (mkF m 224 #[.val (.int p0), .val (.int p1), .val (.int p2), .val (.int p3), .val (.int p4), .val (.int c0), .val (.int c1), .val (.int c2), .val (.int c3), .val (.int (1 : Int32)), .val (.int (2 : Int32)), .val (.ref sa691), .val (.ref sa697), .val (.ref x704), .val (.ref m704)] [(.int (2 : Int32))])) _
    refine GoOn.step (fun tq kq => XS.iconst X799.here hx rfl (hb hby at_224) kq) ?_
    show GoOn p e below (T799.setTop (mkF m 225 #[.val (.int p0), .val (.int p1), .val (.int p2), .val (.int p3), .val (.int p4), .val (.int c0), .val (.int c1), .val (.int c2), .val (.int c3), .val (.int (1 : Int32)), .val (.int (2 : Int32)), .val (.ref sa691), .val (.ref sa697), .val (.ref x704), .val (.ref m704)] [(.int (2 : Int32)), (.int (2 : Int32))])) _
    refine GoOn.step (fun tq kq => XS.icmpNo X799.here hx rfl (hb hby at_225) rfl (flt (by decide)).1 kq) ?_
    show GoOn p e below (T799.setTop (mkF m 228 #[.val (.int p0), .val (.int p1), .val (.int p2), .val (.int p3), .val (.int p4), .val (.int c0), .val (.int c1), .val (.int c2), .val (.int c3), .val (.int (1 : Int32)), .val (.int (2 : Int32)), .val (.ref sa691), .val (.ref sa697), .val (.ref x704), .val (.ref m704)] [])) _
    refine GoOn.step (fun tq kq => XS.aload X799.here hx rfl (hb hby at_228) rfl rfl kq) ?_
    show GoOn p e below (T799.setTop (mkF m 230 #[.val (.int p0), .val (.int p1), .val (.int p2), .val (.int p3), .val (.int p4), .val (.int c0), .val (.int c1), .val (.int c2), .val (.int c3), .val (.int (1 : Int32)), .val (.int (2 : Int32)), .val (.ref sa691), .val (.ref sa697), .val (.ref x704), .val (.ref m704)] [(.ref m704)])) _
    refine GoOn.step (fun tq kq => XS.iload X799.here hx rfl (hb hby at_230) rfl kq) ?_
    show GoOn p e below (T799.setTop (mkF m 232 #[.val (.int p0), .val (.int p1), .val (.int p2), .val (.int p3), .val (.int p4), .val (.int c0), .val (.int c1), .val (.int c2), .val (.int c3), .val (.int (1 : Int32)), .val (.int (2 : Int32)), .val (.ref sa691), .val (.ref sa697), .val (.ref x704), .val (.ref m704)] [(.int (1 : Int32)), (.ref m704)])) _
    refine GoOn.step (fun tq kq => XS.iconst X799.here hx rfl (hb hby at_232) kq) ?_
    show GoOn p e below (T799.setTop (mkF m 233 #[.val (.int p0), .val (.int p1), .val (.int p2), .val (.int p3), .val (.int p4), .val (.int c0), .val (.int c1), .val (.int c2), .val (.int c3), .val (.int (1 : Int32)), .val (.int (2 : Int32)), .val (.ref sa691), .val (.ref sa697), .val (.ref x704), .val (.ref m704)] [(.int (3 : Int32)), (.int (1 : Int32)), (.ref m704)])) _
    refine GoOn.step (fun tq kq => XS.iadd X799.here hx rfl (hb hby at_233) rfl kq) ?_
    show GoOn p e below (T799.setTop (mkF m 234 #[.val (.int p0), .val (.int p1), .val (.int p2), .val (.int p3), .val (.int p4), .val (.int c0), .val (.int c1), .val (.int c2), .val (.int c3), .val (.int (1 : Int32)), .val (.int (2 : Int32)), .val (.ref sa691), .val (.ref sa697), .val (.ref x704), .val (.ref m704)] [(.int ((1 : Int32) + (3 : Int32))), (.ref m704)])) _
    obtain ⟨cqc803, kqc803, qac803, qbc803, qcc803⟩ := isOf hZ704 e799 Sr786.1
    obtain ⟨_, _, ⟨T802, L802, k802, n802⟩, -, X802, ⟨Lc802, hQ802, l802, y802, z802⟩, st802⟩ := X799.virtualBack hx (y := (⟨"java/lang/String", "charAt", "(I)C"⟩ : MethodName)) (z := (⟨"java/lang/String", "charAt", "(I)C"⟩ : MethodName)) hown704 (mvT hZ704 (hw _ (List.mem_of_getElem? (i := 201) rfl))) (mvT hZ704 (hw _ (List.mem_of_getElem? (i := 202) rfl))) (notFace_of_selects (args := #[]) (mvT hZ704 (hw _ (List.mem_of_getElem? (i := 204) rfl)))) (mvT hZ704 (hw _ (List.mem_of_getElem? (i := 204) rfl))) (mvT hZ704 (hw _ (List.mem_of_getElem? (i := 203) rfl))) (by decide) (own_chS (n0 := n0) (W := 0) hZ704 hch (kI := 4) (hw _ (List.mem_of_getElem? (i := 7) rfl)) Sr786 (SC.ext O706.2) PC (SF.ext O706.2) rG3 4 (Nat.le_of_ble_eq_true rfl) (by decide) (by decide) (by decide)) qac803 qcc803 (g := (mkF m 234 #[.val (.int p0), .val (.int p1), .val (.int p2), .val (.int p3), .val (.int p4), .val (.int c0), .val (.int c1), .val (.int c2), .val (.int c3), .val (.int (1 : Int32)), .val (.int (2 : Int32)), .val (.ref sa691), .val (.ref sa697), .val (.ref x704), .val (.ref m704)] [(.int ((1 : Int32) + (3 : Int32))), (.ref m704)])) rfl (by rw [hml]; rfl) (Steps.refl _) (argsL := [(.int ((1 : Int32) + (3 : Int32)))]) (rest := []) (lenOf own_pd368 rfl) rfl (by show 2 * 0 + _ ≤ _; exact Nat.le_of_eq rfl) (hb hby at_234) (fun _ _ => ⟨rfl, e799, (by decide : 20 + 0 ≤ _), (by decide : 2872 + 0 ≤ _)⟩)
    dsimp only [Pt.U, Pt.locs, Pt.cells, Pt.slots] at X802 l802 y802 z802 st802 hQ802
    subst l802 y802 z802
    obtain ⟨rfl, N802, e802⟩ := hQ802
    refine GoOn.trans st802 ?_
    have N804 := Fr.app N801 N802
    show GoOn p e below (T802.setTop (mkF m 237 #[.val (.int p0), .val (.int p1), .val (.int p2), .val (.int p3), .val (.int p4), .val (.int c0), .val (.int c1), .val (.int c2), .val (.int c3), .val (.int (1 : Int32)), .val (.int (2 : Int32)), .val (.ref sa691), .val (.ref sa697), .val (.ref x704), .val (.ref m704)] [(.int c3)])) _
    refine GoOn.step (fun tq kq => XS.iload X802.here hx rfl (hb hby at_237) rfl kq) ?_
    show GoOn p e below (T802.setTop (mkF m 239 #[.val (.int p0), .val (.int p1), .val (.int p2), .val (.int p3), .val (.int p4), .val (.int c0), .val (.int c1), .val (.int c2), .val (.int c3), .val (.int (1 : Int32)), .val (.int (2 : Int32)), .val (.ref sa691), .val (.ref sa697), .val (.ref x704), .val (.ref m704)] [(.int c3), (.int c3)])) _
    refine GoOn.step (fun tq kq => XS.icmpYes X802.here hx rfl (pc0 := 239) (pc' := 244) rfl (hb hby at_239) rfl (teq rfl).1 (by decide) (by decide) kq) ?_
    show GoOn p e below (T802.setTop (mkF m 244 #[.val (.int p0), .val (.int p1), .val (.int p2), .val (.int p3), .val (.int p4), .val (.int c0), .val (.int c1), .val (.int c2), .val (.int c3), .val (.int (1 : Int32)), .val (.int (2 : Int32)), .val (.ref sa691), .val (.ref sa697), .val (.ref x704), .val (.ref m704)] [])) _
    refine GoOn.step (fun tq kq => XS.iconst X802.here hx rfl (hb hby at_244) kq) ?_
    show GoOn p e below (T802.setTop (mkF m 245 #[.val (.int p0), .val (.int p1), .val (.int p2), .val (.int p3), .val (.int p4), .val (.int c0), .val (.int c1), .val (.int c2), .val (.int c3), .val (.int (1 : Int32)), .val (.int (2 : Int32)), .val (.ref sa691), .val (.ref sa697), .val (.ref x704), .val (.ref m704)] [(.int (1 : Int32))])) _
    refine GoOn.retH X802 hZ704 hSn704 (hk704) hEL hh e802 C709 Bd.notSynchronized (v := some (.int (nar .boolean (1 : Int32)))) (fun h => by rw [Bd.returns] at h; cases h) (fun fs hr => retN X802 hx (t := .boolean) Bd.returns (by simp) (hb hby at_245) hr) (by decide) (by decide) ?_
    exact ⟨rfl, N804⟩
  · skip
    have Sr805 : StrIs Z T704.heap m704 ([c0, c1, 58, 32] : List Int32) := S704
    show GoOn p e below (T715.setTop (mkF m 117 #[.val (.int p0), .val (.int p1), .val (.int p2), .val (.int p3), .val (.int p4), .val (.int c0), .val (.int c1), .val (.int c2), .val (.int c3), .val (.int (2 : Int32)), .val (.int (0 : Int32)), .val (.ref sa691), .val (.ref sa697), .val (.ref x704), .val (.ref m704)] [(.ref m704)])) _
    obtain ⟨cqc807, kqc807, qac807, qbc807, qcc807⟩ := isOf hZ704 e715 Sr805.1
    obtain ⟨_, _, ⟨T806, L806, k806, n806⟩, -, X806, ⟨Lc806, hQ806, l806, y806, z806⟩, st806⟩ := X715.virtualBack hx (y := (⟨"java/lang/String", "length", "()I"⟩ : MethodName)) (z := (⟨"java/lang/String", "length", "()I"⟩ : MethodName)) hown704 (mvT hZ704 (hw _ (List.mem_of_getElem? (i := 200) rfl))) (mvT hZ704 (hw _ (List.mem_of_getElem? (i := 50) rfl))) (notFace_of_selects (args := #[]) (mvT hZ704 (hw _ (List.mem_of_getElem? (i := 52) rfl)))) (mvT hZ704 (hw _ (List.mem_of_getElem? (i := 52) rfl))) (mvT hZ704 (hw _ (List.mem_of_getElem? (i := 51) rfl))) (by decide) (backOf (W := 0) (rmLen l Z a0 hw m704 ([c0, c1, 58, 32] : List Int32) G1 T704.heap n0 Z707 SC PC Sr805 O706) hZ704 (hw _ (List.mem_of_getElem? (i := 53) rfl)) (hw _ (List.mem_of_getElem? (i := 6) rfl)) (by decide) (by decide)) qac807 qcc807 (g := (mkF m 117 #[.val (.int p0), .val (.int p1), .val (.int p2), .val (.int p3), .val (.int p4), .val (.int c0), .val (.int c1), .val (.int c2), .val (.int c3), .val (.int (2 : Int32)), .val (.int (0 : Int32)), .val (.ref sa691), .val (.ref sa697), .val (.ref x704), .val (.ref m704)] [(.ref m704)])) rfl (by rw [hml]; rfl) (Steps.refl _) (argsL := []) (rest := []) (lenOf own_pd181 rfl) rfl (by show 2 * 0 + _ ≤ _; exact Nat.le_of_eq rfl) (hb hby at_117) (fun _ _ => ⟨rfl, e715, (by decide : 20 + 0 ≤ _), (by decide : 2872 + 0 ≤ _)⟩)
    dsimp only [Pt.U, Pt.locs, Pt.cells, Pt.slots] at X806 l806 y806 z806 st806 hQ806
    subst l806 y806 z806
    obtain ⟨rfl, N806, e806⟩ := hQ806
    refine GoOn.trans st806 ?_
    have N808 := Fr.app N717 N806
    show GoOn p e below (T806.setTop (mkF m 120 #[.val (.int p0), .val (.int p1), .val (.int p2), .val (.int p3), .val (.int p4), .val (.int c0), .val (.int c1), .val (.int c2), .val (.int c3), .val (.int (2 : Int32)), .val (.int (0 : Int32)), .val (.ref sa691), .val (.ref sa697), .val (.ref x704), .val (.ref m704)] [(.int (4 : Int32))])) _
    refine GoOn.step (fun tq kq => XS.iload X806.here hx rfl (hb hby at_120) rfl kq) ?_
    show GoOn p e below (T806.setTop (mkF m 122 #[.val (.int p0), .val (.int p1), .val (.int p2), .val (.int p3), .val (.int p4), .val (.int c0), .val (.int c1), .val (.int c2), .val (.int c3), .val (.int (2 : Int32)), .val (.int (0 : Int32)), .val (.ref sa691), .val (.ref sa697), .val (.ref x704), .val (.ref m704)] [(.int (2 : Int32)), (.int (4 : Int32))])) _
    refine GoOn.step (fun tq kq => XS.iconst X806.here hx rfl (hb hby at_122) kq) ?_
    show GoOn p e below (T806.setTop (mkF m 123 #[.val (.int p0), .val (.int p1), .val (.int p2), .val (.int p3), .val (.int p4), .val (.int c0), .val (.int c1), .val (.int c2), .val (.int c3), .val (.int (2 : Int32)), .val (.int (0 : Int32)), .val (.ref sa691), .val (.ref sa697), .val (.ref x704), .val (.ref m704)] [(.int (2 : Int32)), (.int (2 : Int32)), (.int (4 : Int32))])) _
    refine GoOn.step (fun tq kq => XS.iadd X806.here hx rfl (hb hby at_123) rfl kq) ?_
    show GoOn p e below (T806.setTop (mkF m 124 #[.val (.int p0), .val (.int p1), .val (.int p2), .val (.int p3), .val (.int p4), .val (.int c0), .val (.int c1), .val (.int c2), .val (.int c3), .val (.int (2 : Int32)), .val (.int (0 : Int32)), .val (.ref sa691), .val (.ref sa697), .val (.ref x704), .val (.ref m704)] [(.int ((2 : Int32) + (2 : Int32))), (.int (4 : Int32))])) _
    refine GoOn.step (fun tq kq => XS.iload X806.here hx rfl (hb hby at_124) rfl kq) ?_
    show GoOn p e below (T806.setTop (mkF m 126 #[.val (.int p0), .val (.int p1), .val (.int p2), .val (.int p3), .val (.int p4), .val (.int c0), .val (.int c1), .val (.int c2), .val (.int c3), .val (.int (2 : Int32)), .val (.int (0 : Int32)), .val (.ref sa691), .val (.ref sa697), .val (.ref x704), .val (.ref m704)] [(.int (0 : Int32)), (.int ((2 : Int32) + (2 : Int32))), (.int (4 : Int32))])) _
    refine GoOn.step (fun tq kq => XS.iadd X806.here hx rfl (hb hby at_126) rfl kq) ?_
    show GoOn p e below (T806.setTop (mkF m 127 #[.val (.int p0), .val (.int p1), .val (.int p2), .val (.int p3), .val (.int p4), .val (.int c0), .val (.int c1), .val (.int c2), .val (.int c3), .val (.int (2 : Int32)), .val (.int (0 : Int32)), .val (.ref sa691), .val (.ref sa697), .val (.ref x704), .val (.ref m704)] [(.int (((2 : Int32) + (2 : Int32)) + (0 : Int32))), (.int (4 : Int32))])) _
    refine GoOn.step (fun tq kq => XS.icmpYes X806.here hx rfl (pc0 := 127) (pc' := 132) rfl (hb hby at_127) rfl (teq (by decide)).1 (by decide) (by decide) kq) ?_
    show GoOn p e below (T806.setTop (mkF m 132 #[.val (.int p0), .val (.int p1), .val (.int p2), .val (.int p3), .val (.int p4), .val (.int c0), .val (.int c1), .val (.int c2), .val (.int c3), .val (.int (2 : Int32)), .val (.int (0 : Int32)), .val (.ref sa691), .val (.ref sa697), .val (.ref x704), .val (.ref m704)] [])) _
    refine GoOn.step (fun tq kq => XS.iload X806.here hx rfl (hb hby at_132) rfl kq) ?_
    show GoOn p e below (T806.setTop (mkF m 134 #[.val (.int p0), .val (.int p1), .val (.int p2), .val (.int p3), .val (.int p4), .val (.int c0), .val (.int c1), .val (.int c2), .val (.int c3), .val (.int (2 : Int32)), .val (.int (0 : Int32)), .val (.ref sa691), .val (.ref sa697), .val (.ref x704), .val (.ref m704)] [(.int (2 : Int32))])) _
    refine GoOn.step (fun tq kq => XS.iconst X806.here hx rfl (hb hby at_134) kq) ?_
    show GoOn p e below (T806.setTop (mkF m 135 #[.val (.int p0), .val (.int p1), .val (.int p2), .val (.int p3), .val (.int p4), .val (.int c0), .val (.int c1), .val (.int c2), .val (.int c3), .val (.int (2 : Int32)), .val (.int (0 : Int32)), .val (.ref sa691), .val (.ref sa697), .val (.ref x704), .val (.ref m704)] [(.int (1 : Int32)), (.int (2 : Int32))])) _
    refine GoOn.step (fun tq kq => XS.icmpNo X806.here hx rfl (hb hby at_135) rfl (flt (by decide)).1 kq) ?_
    show GoOn p e below (T806.setTop (mkF m 138 #[.val (.int p0), .val (.int p1), .val (.int p2), .val (.int p3), .val (.int p4), .val (.int c0), .val (.int c1), .val (.int c2), .val (.int c3), .val (.int (2 : Int32)), .val (.int (0 : Int32)), .val (.ref sa691), .val (.ref sa697), .val (.ref x704), .val (.ref m704)] [])) _
    refine GoOn.step (fun tq kq => XS.aload X806.here hx rfl (hb hby at_138) rfl rfl kq) ?_
    show GoOn p e below (T806.setTop (mkF m 140 #[.val (.int p0), .val (.int p1), .val (.int p2), .val (.int p3), .val (.int p4), .val (.int c0), .val (.int c1), .val (.int c2), .val (.int c3), .val (.int (2 : Int32)), .val (.int (0 : Int32)), .val (.ref sa691), .val (.ref sa697), .val (.ref x704), .val (.ref m704)] [(.ref m704)])) _
    refine GoOn.step (fun tq kq => XS.iconst X806.here hx rfl (hb hby at_140) kq) ?_
    show GoOn p e below (T806.setTop (mkF m 141 #[.val (.int p0), .val (.int p1), .val (.int p2), .val (.int p3), .val (.int p4), .val (.int c0), .val (.int c1), .val (.int c2), .val (.int c3), .val (.int (2 : Int32)), .val (.int (0 : Int32)), .val (.ref sa691), .val (.ref sa697), .val (.ref x704), .val (.ref m704)] [(.int (0 : Int32)), (.ref m704)])) _
    obtain ⟨cqc810, kqc810, qac810, qbc810, qcc810⟩ := isOf hZ704 e806 Sr805.1
    obtain ⟨_, _, ⟨T809, L809, k809, n809⟩, -, X809, ⟨Lc809, hQ809, l809, y809, z809⟩, st809⟩ := X806.virtualBack hx (y := (⟨"java/lang/String", "charAt", "(I)C"⟩ : MethodName)) (z := (⟨"java/lang/String", "charAt", "(I)C"⟩ : MethodName)) hown704 (mvT hZ704 (hw _ (List.mem_of_getElem? (i := 201) rfl))) (mvT hZ704 (hw _ (List.mem_of_getElem? (i := 202) rfl))) (notFace_of_selects (args := #[]) (mvT hZ704 (hw _ (List.mem_of_getElem? (i := 204) rfl)))) (mvT hZ704 (hw _ (List.mem_of_getElem? (i := 204) rfl))) (mvT hZ704 (hw _ (List.mem_of_getElem? (i := 203) rfl))) (by decide) (own_chS (n0 := n0) (W := 0) hZ704 hch (kI := 4) (hw _ (List.mem_of_getElem? (i := 7) rfl)) Sr805 (SC.ext O706.2) PC (SF.ext O706.2) rG3 0 (Nat.le_of_ble_eq_true rfl) (by decide) (by decide) (by decide)) qac810 qcc810 (g := (mkF m 141 #[.val (.int p0), .val (.int p1), .val (.int p2), .val (.int p3), .val (.int p4), .val (.int c0), .val (.int c1), .val (.int c2), .val (.int c3), .val (.int (2 : Int32)), .val (.int (0 : Int32)), .val (.ref sa691), .val (.ref sa697), .val (.ref x704), .val (.ref m704)] [(.int (0 : Int32)), (.ref m704)])) rfl (by rw [hml]; rfl) (Steps.refl _) (argsL := [(.int (0 : Int32))]) (rest := []) (lenOf own_pd368 rfl) rfl (by show 2 * 0 + _ ≤ _; exact Nat.le_of_eq rfl) (hb hby at_141) (fun _ _ => ⟨rfl, e806, (by decide : 20 + 0 ≤ _), (by decide : 2872 + 0 ≤ _)⟩)
    dsimp only [Pt.U, Pt.locs, Pt.cells, Pt.slots] at X809 l809 y809 z809 st809 hQ809
    subst l809 y809 z809
    obtain ⟨rfl, N809, e809⟩ := hQ809
    refine GoOn.trans st809 ?_
    have N811 := Fr.app N808 N809
    show GoOn p e below (T809.setTop (mkF m 144 #[.val (.int p0), .val (.int p1), .val (.int p2), .val (.int p3), .val (.int p4), .val (.int c0), .val (.int c1), .val (.int c2), .val (.int c3), .val (.int (2 : Int32)), .val (.int (0 : Int32)), .val (.ref sa691), .val (.ref sa697), .val (.ref x704), .val (.ref m704)] [(.int c0)])) _
    refine GoOn.step (fun tq kq => XS.iload X809.here hx rfl (hb hby at_144) rfl kq) ?_
    show GoOn p e below (T809.setTop (mkF m 146 #[.val (.int p0), .val (.int p1), .val (.int p2), .val (.int p3), .val (.int p4), .val (.int c0), .val (.int c1), .val (.int c2), .val (.int c3), .val (.int (2 : Int32)), .val (.int (0 : Int32)), .val (.ref sa691), .val (.ref sa697), .val (.ref x704), .val (.ref m704)] [(.int c0), (.int c0)])) _
    refine GoOn.step (fun tq kq => XS.icmpYes X809.here hx rfl (pc0 := 146) (pc' := 151) rfl (hb hby at_146) rfl (teq rfl).1 (by decide) (by decide) kq) ?_
    show GoOn p e below (T809.setTop (mkF m 151 #[.val (.int p0), .val (.int p1), .val (.int p2), .val (.int p3), .val (.int p4), .val (.int c0), .val (.int c1), .val (.int c2), .val (.int c3), .val (.int (2 : Int32)), .val (.int (0 : Int32)), .val (.ref sa691), .val (.ref sa697), .val (.ref x704), .val (.ref m704)] [])) _
    refine GoOn.step (fun tq kq => XS.iload X809.here hx rfl (hb hby at_151) rfl kq) ?_
    show GoOn p e below (T809.setTop (mkF m 153 #[.val (.int p0), .val (.int p1), .val (.int p2), .val (.int p3), .val (.int p4), .val (.int c0), .val (.int c1), .val (.int c2), .val (.int c3), .val (.int (2 : Int32)), .val (.int (0 : Int32)), .val (.ref sa691), .val (.ref sa697), .val (.ref x704), .val (.ref m704)] [(.int (2 : Int32))])) _
    refine GoOn.step (fun tq kq => XS.iconst X809.here hx rfl (hb hby at_153) kq) ?_
    show GoOn p e below (T809.setTop (mkF m 154 #[.val (.int p0), .val (.int p1), .val (.int p2), .val (.int p3), .val (.int p4), .val (.int c0), .val (.int c1), .val (.int c2), .val (.int c3), .val (.int (2 : Int32)), .val (.int (0 : Int32)), .val (.ref sa691), .val (.ref sa697), .val (.ref x704), .val (.ref m704)] [(.int (2 : Int32)), (.int (2 : Int32))])) _
    refine GoOn.step (fun tq kq => XS.icmpNo X809.here hx rfl (hb hby at_154) rfl (flt (by decide)).1 kq) ?_
    show GoOn p e below (T809.setTop (mkF m 157 #[.val (.int p0), .val (.int p1), .val (.int p2), .val (.int p3), .val (.int p4), .val (.int c0), .val (.int c1), .val (.int c2), .val (.int c3), .val (.int (2 : Int32)), .val (.int (0 : Int32)), .val (.ref sa691), .val (.ref sa697), .val (.ref x704), .val (.ref m704)] [])) _
    refine GoOn.step (fun tq kq => XS.aload X809.here hx rfl (hb hby at_157) rfl rfl kq) ?_
    show GoOn p e below (T809.setTop (mkF m 159 #[.val (.int p0), .val (.int p1), .val (.int p2), .val (.int p3), .val (.int p4), .val (.int c0), .val (.int c1), .val (.int c2), .val (.int c3), .val (.int (2 : Int32)), .val (.int (0 : Int32)), .val (.ref sa691), .val (.ref sa697), .val (.ref x704), .val (.ref m704)] [(.ref m704)])) _
    refine GoOn.step (fun tq kq => XS.iconst X809.here hx rfl (hb hby at_159) kq) ?_
    show GoOn p e below (T809.setTop (mkF m 160 #[.val (.int p0), .val (.int p1), .val (.int p2), .val (.int p3), .val (.int p4), .val (.int c0), .val (.int c1), .val (.int c2), .val (.int c3), .val (.int (2 : Int32)), .val (.int (0 : Int32)), .val (.ref sa691), .val (.ref sa697), .val (.ref x704), .val (.ref m704)] [(.int (1 : Int32)), (.ref m704)])) _
    obtain ⟨cqc813, kqc813, qac813, qbc813, qcc813⟩ := isOf hZ704 e809 Sr805.1
    obtain ⟨_, _, ⟨T812, L812, k812, n812⟩, -, X812, ⟨Lc812, hQ812, l812, y812, z812⟩, st812⟩ := X809.virtualBack hx (y := (⟨"java/lang/String", "charAt", "(I)C"⟩ : MethodName)) (z := (⟨"java/lang/String", "charAt", "(I)C"⟩ : MethodName)) hown704 (mvT hZ704 (hw _ (List.mem_of_getElem? (i := 201) rfl))) (mvT hZ704 (hw _ (List.mem_of_getElem? (i := 202) rfl))) (notFace_of_selects (args := #[]) (mvT hZ704 (hw _ (List.mem_of_getElem? (i := 204) rfl)))) (mvT hZ704 (hw _ (List.mem_of_getElem? (i := 204) rfl))) (mvT hZ704 (hw _ (List.mem_of_getElem? (i := 203) rfl))) (by decide) (own_chS (n0 := n0) (W := 0) hZ704 hch (kI := 4) (hw _ (List.mem_of_getElem? (i := 7) rfl)) Sr805 (SC.ext O706.2) PC (SF.ext O706.2) rG3 1 (Nat.le_of_ble_eq_true rfl) (by decide) (by decide) (by decide)) qac813 qcc813 (g := (mkF m 160 #[.val (.int p0), .val (.int p1), .val (.int p2), .val (.int p3), .val (.int p4), .val (.int c0), .val (.int c1), .val (.int c2), .val (.int c3), .val (.int (2 : Int32)), .val (.int (0 : Int32)), .val (.ref sa691), .val (.ref sa697), .val (.ref x704), .val (.ref m704)] [(.int (1 : Int32)), (.ref m704)])) rfl (by rw [hml]; rfl) (Steps.refl _) (argsL := [(.int (1 : Int32))]) (rest := []) (lenOf own_pd368 rfl) rfl (by show 2 * 0 + _ ≤ _; exact Nat.le_of_eq rfl) (hb hby at_160) (fun _ _ => ⟨rfl, e809, (by decide : 20 + 0 ≤ _), (by decide : 2872 + 0 ≤ _)⟩)
    dsimp only [Pt.U, Pt.locs, Pt.cells, Pt.slots] at X812 l812 y812 z812 st812 hQ812
    subst l812 y812 z812
    obtain ⟨rfl, N812, e812⟩ := hQ812
    refine GoOn.trans st812 ?_
    have N814 := Fr.app N811 N812
    show GoOn p e below (T812.setTop (mkF m 163 #[.val (.int p0), .val (.int p1), .val (.int p2), .val (.int p3), .val (.int p4), .val (.int c0), .val (.int c1), .val (.int c2), .val (.int c3), .val (.int (2 : Int32)), .val (.int (0 : Int32)), .val (.ref sa691), .val (.ref sa697), .val (.ref x704), .val (.ref m704)] [(.int c1)])) _
    refine GoOn.step (fun tq kq => XS.iload X812.here hx rfl (hb hby at_163) rfl kq) ?_
    show GoOn p e below (T812.setTop (mkF m 165 #[.val (.int p0), .val (.int p1), .val (.int p2), .val (.int p3), .val (.int p4), .val (.int c0), .val (.int c1), .val (.int c2), .val (.int c3), .val (.int (2 : Int32)), .val (.int (0 : Int32)), .val (.ref sa691), .val (.ref sa697), .val (.ref x704), .val (.ref m704)] [(.int c1), (.int c1)])) _
    refine GoOn.step (fun tq kq => XS.icmpYes X812.here hx rfl (pc0 := 165) (pc' := 170) rfl (hb hby at_165) rfl (teq rfl).1 (by decide) (by decide) kq) ?_
    show GoOn p e below (T812.setTop (mkF m 170 #[.val (.int p0), .val (.int p1), .val (.int p2), .val (.int p3), .val (.int p4), .val (.int c0), .val (.int c1), .val (.int c2), .val (.int c3), .val (.int (2 : Int32)), .val (.int (0 : Int32)), .val (.ref sa691), .val (.ref sa697), .val (.ref x704), .val (.ref m704)] [])) _
    refine GoOn.step (fun tq kq => XS.aload X812.here hx rfl (hb hby at_170) rfl rfl kq) ?_
    show GoOn p e below (T812.setTop (mkF m 172 #[.val (.int p0), .val (.int p1), .val (.int p2), .val (.int p3), .val (.int p4), .val (.int c0), .val (.int c1), .val (.int c2), .val (.int c3), .val (.int (2 : Int32)), .val (.int (0 : Int32)), .val (.ref sa691), .val (.ref sa697), .val (.ref x704), .val (.ref m704)] [(.ref m704)])) _
    refine GoOn.step (fun tq kq => XS.iload X812.here hx rfl (hb hby at_172) rfl kq) ?_
    show GoOn p e below (T812.setTop (mkF m 174 #[.val (.int p0), .val (.int p1), .val (.int p2), .val (.int p3), .val (.int p4), .val (.int c0), .val (.int c1), .val (.int c2), .val (.int c3), .val (.int (2 : Int32)), .val (.int (0 : Int32)), .val (.ref sa691), .val (.ref sa697), .val (.ref x704), .val (.ref m704)] [(.int (2 : Int32)), (.ref m704)])) _
    obtain ⟨cqc816, kqc816, qac816, qbc816, qcc816⟩ := isOf hZ704 e812 Sr805.1
    obtain ⟨_, _, ⟨T815, L815, k815, n815⟩, -, X815, ⟨Lc815, hQ815, l815, y815, z815⟩, st815⟩ := X812.virtualBack hx (y := (⟨"java/lang/String", "charAt", "(I)C"⟩ : MethodName)) (z := (⟨"java/lang/String", "charAt", "(I)C"⟩ : MethodName)) hown704 (mvT hZ704 (hw _ (List.mem_of_getElem? (i := 201) rfl))) (mvT hZ704 (hw _ (List.mem_of_getElem? (i := 202) rfl))) (notFace_of_selects (args := #[]) (mvT hZ704 (hw _ (List.mem_of_getElem? (i := 204) rfl)))) (mvT hZ704 (hw _ (List.mem_of_getElem? (i := 204) rfl))) (mvT hZ704 (hw _ (List.mem_of_getElem? (i := 203) rfl))) (by decide) (own_chS (n0 := n0) (W := 0) hZ704 hch (kI := 4) (hw _ (List.mem_of_getElem? (i := 7) rfl)) Sr805 (SC.ext O706.2) PC (SF.ext O706.2) rG3 2 (Nat.le_of_ble_eq_true rfl) (by decide) (by decide) (by decide)) qac816 qcc816 (g := (mkF m 174 #[.val (.int p0), .val (.int p1), .val (.int p2), .val (.int p3), .val (.int p4), .val (.int c0), .val (.int c1), .val (.int c2), .val (.int c3), .val (.int (2 : Int32)), .val (.int (0 : Int32)), .val (.ref sa691), .val (.ref sa697), .val (.ref x704), .val (.ref m704)] [(.int (2 : Int32)), (.ref m704)])) rfl (by rw [hml]; rfl) (Steps.refl _) (argsL := [(.int (2 : Int32))]) (rest := []) (lenOf own_pd368 rfl) rfl (by show 2 * 0 + _ ≤ _; exact Nat.le_of_eq rfl) (hb hby at_174) (fun _ _ => ⟨rfl, e812, (by decide : 20 + 0 ≤ _), (by decide : 2872 + 0 ≤ _)⟩)
    dsimp only [Pt.U, Pt.locs, Pt.cells, Pt.slots] at X815 l815 y815 z815 st815 hQ815
    subst l815 y815 z815
    obtain ⟨rfl, N815, e815⟩ := hQ815
    refine GoOn.trans st815 ?_
    have N817 := Fr.app N814 N815
    show GoOn p e below (T815.setTop (mkF m 177 #[.val (.int p0), .val (.int p1), .val (.int p2), .val (.int p3), .val (.int p4), .val (.int c0), .val (.int c1), .val (.int c2), .val (.int c3), .val (.int (2 : Int32)), .val (.int (0 : Int32)), .val (.ref sa691), .val (.ref sa697), .val (.ref x704), .val (.ref m704)] [(.int (58 : Int32))])) _
    refine GoOn.step (fun tq kq => XS.bipush X815.here hx rfl (hb hby at_177) kq) ?_
    show GoOn p e below (T815.setTop (mkF m 179 #[.val (.int p0), .val (.int p1), .val (.int p2), .val (.int p3), .val (.int p4), .val (.int c0), .val (.int c1), .val (.int c2), .val (.int c3), .val (.int (2 : Int32)), .val (.int (0 : Int32)), .val (.ref sa691), .val (.ref sa697), .val (.ref x704), .val (.ref m704)] [(.int (58 : Int32)), (.int (58 : Int32))])) _
    refine GoOn.step (fun tq kq => XS.icmpYes X815.here hx rfl (pc0 := 179) (pc' := 184) rfl (hb hby at_179) rfl (teq rfl).1 (by decide) (by decide) kq) ?_
    show GoOn p e below (T815.setTop (mkF m 184 #[.val (.int p0), .val (.int p1), .val (.int p2), .val (.int p3), .val (.int p4), .val (.int c0), .val (.int c1), .val (.int c2), .val (.int c3), .val (.int (2 : Int32)), .val (.int (0 : Int32)), .val (.ref sa691), .val (.ref sa697), .val (.ref x704), .val (.ref m704)] [])) _
    refine GoOn.step (fun tq kq => XS.aload X815.here hx rfl (hb hby at_184) rfl rfl kq) ?_
    show GoOn p e below (T815.setTop (mkF m 186 #[.val (.int p0), .val (.int p1), .val (.int p2), .val (.int p3), .val (.int p4), .val (.int c0), .val (.int c1), .val (.int c2), .val (.int c3), .val (.int (2 : Int32)), .val (.int (0 : Int32)), .val (.ref sa691), .val (.ref sa697), .val (.ref x704), .val (.ref m704)] [(.ref m704)])) _
    refine GoOn.step (fun tq kq => XS.iload X815.here hx rfl (hb hby at_186) rfl kq) ?_
    show GoOn p e below (T815.setTop (mkF m 188 #[.val (.int p0), .val (.int p1), .val (.int p2), .val (.int p3), .val (.int p4), .val (.int c0), .val (.int c1), .val (.int c2), .val (.int c3), .val (.int (2 : Int32)), .val (.int (0 : Int32)), .val (.ref sa691), .val (.ref sa697), .val (.ref x704), .val (.ref m704)] [(.int (2 : Int32)), (.ref m704)])) _
    refine GoOn.step (fun tq kq => XS.iconst X815.here hx rfl (hb hby at_188) kq) ?_
    show GoOn p e below (T815.setTop (mkF m 189 #[.val (.int p0), .val (.int p1), .val (.int p2), .val (.int p3), .val (.int p4), .val (.int c0), .val (.int c1), .val (.int c2), .val (.int c3), .val (.int (2 : Int32)), .val (.int (0 : Int32)), .val (.ref sa691), .val (.ref sa697), .val (.ref x704), .val (.ref m704)] [(.int (1 : Int32)), (.int (2 : Int32)), (.ref m704)])) _
    refine GoOn.step (fun tq kq => XS.iadd X815.here hx rfl (hb hby at_189) rfl kq) ?_
    show GoOn p e below (T815.setTop (mkF m 190 #[.val (.int p0), .val (.int p1), .val (.int p2), .val (.int p3), .val (.int p4), .val (.int c0), .val (.int c1), .val (.int c2), .val (.int c3), .val (.int (2 : Int32)), .val (.int (0 : Int32)), .val (.ref sa691), .val (.ref sa697), .val (.ref x704), .val (.ref m704)] [(.int ((2 : Int32) + (1 : Int32))), (.ref m704)])) _
    obtain ⟨cqc819, kqc819, qac819, qbc819, qcc819⟩ := isOf hZ704 e815 Sr805.1
    obtain ⟨_, _, ⟨T818, L818, k818, n818⟩, -, X818, ⟨Lc818, hQ818, l818, y818, z818⟩, st818⟩ := X815.virtualBack hx (y := (⟨"java/lang/String", "charAt", "(I)C"⟩ : MethodName)) (z := (⟨"java/lang/String", "charAt", "(I)C"⟩ : MethodName)) hown704 (mvT hZ704 (hw _ (List.mem_of_getElem? (i := 201) rfl))) (mvT hZ704 (hw _ (List.mem_of_getElem? (i := 202) rfl))) (notFace_of_selects (args := #[]) (mvT hZ704 (hw _ (List.mem_of_getElem? (i := 204) rfl)))) (mvT hZ704 (hw _ (List.mem_of_getElem? (i := 204) rfl))) (mvT hZ704 (hw _ (List.mem_of_getElem? (i := 203) rfl))) (by decide) (own_chS (n0 := n0) (W := 0) hZ704 hch (kI := 4) (hw _ (List.mem_of_getElem? (i := 7) rfl)) Sr805 (SC.ext O706.2) PC (SF.ext O706.2) rG3 3 (Nat.le_of_ble_eq_true rfl) (by decide) (by decide) (by decide)) qac819 qcc819 (g := (mkF m 190 #[.val (.int p0), .val (.int p1), .val (.int p2), .val (.int p3), .val (.int p4), .val (.int c0), .val (.int c1), .val (.int c2), .val (.int c3), .val (.int (2 : Int32)), .val (.int (0 : Int32)), .val (.ref sa691), .val (.ref sa697), .val (.ref x704), .val (.ref m704)] [(.int ((2 : Int32) + (1 : Int32))), (.ref m704)])) rfl (by rw [hml]; rfl) (Steps.refl _) (argsL := [(.int ((2 : Int32) + (1 : Int32)))]) (rest := []) (lenOf own_pd368 rfl) rfl (by show 2 * 0 + _ ≤ _; exact Nat.le_of_eq rfl) (hb hby at_190) (fun _ _ => ⟨rfl, e815, (by decide : 20 + 0 ≤ _), (by decide : 2872 + 0 ≤ _)⟩)
    dsimp only [Pt.U, Pt.locs, Pt.cells, Pt.slots] at X818 l818 y818 z818 st818 hQ818
    subst l818 y818 z818
    obtain ⟨rfl, N818, e818⟩ := hQ818
    refine GoOn.trans st818 ?_
    have N820 := Fr.app N817 N818
    show GoOn p e below (T818.setTop (mkF m 193 #[.val (.int p0), .val (.int p1), .val (.int p2), .val (.int p3), .val (.int p4), .val (.int c0), .val (.int c1), .val (.int c2), .val (.int c3), .val (.int (2 : Int32)), .val (.int (0 : Int32)), .val (.ref sa691), .val (.ref sa697), .val (.ref x704), .val (.ref m704)] [(.int (32 : Int32))])) _
    refine GoOn.step (fun tq kq => XS.bipush X818.here hx rfl (hb hby at_193) kq) ?_
    show GoOn p e below (T818.setTop (mkF m 195 #[.val (.int p0), .val (.int p1), .val (.int p2), .val (.int p3), .val (.int p4), .val (.int c0), .val (.int c1), .val (.int c2), .val (.int c3), .val (.int (2 : Int32)), .val (.int (0 : Int32)), .val (.ref sa691), .val (.ref sa697), .val (.ref x704), .val (.ref m704)] [(.int (32 : Int32)), (.int (32 : Int32))])) _
    refine GoOn.step (fun tq kq => XS.icmpYes X818.here hx rfl (pc0 := 195) (pc' := 200) rfl (hb hby at_195) rfl (teq rfl).1 (by decide) (by decide) kq) ?_
    show GoOn p e below (T818.setTop (mkF m 200 #[.val (.int p0), .val (.int p1), .val (.int p2), .val (.int p3), .val (.int p4), .val (.int c0), .val (.int c1), .val (.int c2), .val (.int c3), .val (.int (2 : Int32)), .val (.int (0 : Int32)), .val (.ref sa691), .val (.ref sa697), .val (.ref x704), .val (.ref m704)] [])) _
    refine GoOn.step (fun tq kq => XS.iload X818.here hx rfl (hb hby at_200) rfl kq) ?_
    show GoOn p e below (T818.setTop (mkF m 202 #[.val (.int p0), .val (.int p1), .val (.int p2), .val (.int p3), .val (.int p4), .val (.int c0), .val (.int c1), .val (.int c2), .val (.int c3), .val (.int (2 : Int32)), .val (.int (0 : Int32)), .val (.ref sa691), .val (.ref sa697), .val (.ref x704), .val (.ref m704)] [(.int (0 : Int32))])) _
    refine GoOn.step (fun tq kq => XS.iconst X818.here hx rfl (hb hby at_202) kq) ?_
    show GoOn p e below (T818.setTop (mkF m 203 #[.val (.int p0), .val (.int p1), .val (.int p2), .val (.int p3), .val (.int p4), .val (.int c0), .val (.int c1), .val (.int c2), .val (.int c3), .val (.int (2 : Int32)), .val (.int (0 : Int32)), .val (.ref sa691), .val (.ref sa697), .val (.ref x704), .val (.ref m704)] [(.int (1 : Int32)), (.int (0 : Int32))])) _
    refine GoOn.step (fun tq kq => XS.icmpYes X818.here hx rfl (pc0 := 203) (pc' := 222) rfl (hb hby at_203) rfl (tlt (by decide)).1 (by decide) (by decide) kq) ?_
    show GoOn p e below (T818.setTop (mkF m 222 #[.val (.int p0), .val (.int p1), .val (.int p2), .val (.int p3), .val (.int p4), .val (.int c0), .val (.int c1), .val (.int c2), .val (.int c3), .val (.int (2 : Int32)), .val (.int (0 : Int32)), .val (.ref sa691), .val (.ref sa697), .val (.ref x704), .val (.ref m704)] [])) _
    refine GoOn.step (fun tq kq => XS.iload X818.here hx rfl (hb hby at_222) rfl kq) ?_
    show GoOn p e below (T818.setTop (mkF m 224 #[.val (.int p0), .val (.int p1), .val (.int p2), .val (.int p3), .val (.int p4), .val (.int c0), .val (.int c1), .val (.int c2), .val (.int c3), .val (.int (2 : Int32)), .val (.int (0 : Int32)), .val (.ref sa691), .val (.ref sa697), .val (.ref x704), .val (.ref m704)] [(.int (0 : Int32))])) _
    refine GoOn.step (fun tq kq => XS.iconst X818.here hx rfl (hb hby at_224) kq) ?_
    show GoOn p e below (T818.setTop (mkF m 225 #[.val (.int p0), .val (.int p1), .val (.int p2), .val (.int p3), .val (.int p4), .val (.int c0), .val (.int c1), .val (.int c2), .val (.int c3), .val (.int (2 : Int32)), .val (.int (0 : Int32)), .val (.ref sa691), .val (.ref sa697), .val (.ref x704), .val (.ref m704)] [(.int (2 : Int32)), (.int (0 : Int32))])) _
    refine GoOn.step (fun tq kq => XS.icmpYes X818.here hx rfl (pc0 := 225) (pc' := 244) rfl (hb hby at_225) rfl (tlt (by decide)).1 (by decide) (by decide) kq) ?_
    show GoOn p e below (T818.setTop (mkF m 244 #[.val (.int p0), .val (.int p1), .val (.int p2), .val (.int p3), .val (.int p4), .val (.int c0), .val (.int c1), .val (.int c2), .val (.int c3), .val (.int (2 : Int32)), .val (.int (0 : Int32)), .val (.ref sa691), .val (.ref sa697), .val (.ref x704), .val (.ref m704)] [])) _
    refine GoOn.step (fun tq kq => XS.iconst X818.here hx rfl (hb hby at_244) kq) ?_
    show GoOn p e below (T818.setTop (mkF m 245 #[.val (.int p0), .val (.int p1), .val (.int p2), .val (.int p3), .val (.int p4), .val (.int c0), .val (.int c1), .val (.int c2), .val (.int c3), .val (.int (2 : Int32)), .val (.int (0 : Int32)), .val (.ref sa691), .val (.ref sa697), .val (.ref x704), .val (.ref m704)] [(.int (1 : Int32))])) _
    refine GoOn.retH X818 hZ704 hSn704 (hk704) hEL hh e818 C709 Bd.notSynchronized (v := some (.int (nar .boolean (1 : Int32)))) (fun h => by rw [Bd.returns] at h; cases h) (fun fs hr => retN X818 hx (t := .boolean) Bd.returns (by simp) (hb hby at_245) hr) (by decide) (by decide) ?_
    exact ⟨rfl, N820⟩
  · skip
    have Sr821 : StrIs Z T704.heap m704 ([c0, c1, 58, 32, c2] : List Int32) := S704
    show GoOn p e below (T715.setTop (mkF m 117 #[.val (.int p0), .val (.int p1), .val (.int p2), .val (.int p3), .val (.int p4), .val (.int c0), .val (.int c1), .val (.int c2), .val (.int c3), .val (.int (2 : Int32)), .val (.int (1 : Int32)), .val (.ref sa691), .val (.ref sa697), .val (.ref x704), .val (.ref m704)] [(.ref m704)])) _
    obtain ⟨cqc823, kqc823, qac823, qbc823, qcc823⟩ := isOf hZ704 e715 Sr821.1
    obtain ⟨_, _, ⟨T822, L822, k822, n822⟩, -, X822, ⟨Lc822, hQ822, l822, y822, z822⟩, st822⟩ := X715.virtualBack hx (y := (⟨"java/lang/String", "length", "()I"⟩ : MethodName)) (z := (⟨"java/lang/String", "length", "()I"⟩ : MethodName)) hown704 (mvT hZ704 (hw _ (List.mem_of_getElem? (i := 200) rfl))) (mvT hZ704 (hw _ (List.mem_of_getElem? (i := 50) rfl))) (notFace_of_selects (args := #[]) (mvT hZ704 (hw _ (List.mem_of_getElem? (i := 52) rfl)))) (mvT hZ704 (hw _ (List.mem_of_getElem? (i := 52) rfl))) (mvT hZ704 (hw _ (List.mem_of_getElem? (i := 51) rfl))) (by decide) (backOf (W := 0) (rmLen l Z a0 hw m704 ([c0, c1, 58, 32, c2] : List Int32) G1 T704.heap n0 Z707 SC PC Sr821 O706) hZ704 (hw _ (List.mem_of_getElem? (i := 53) rfl)) (hw _ (List.mem_of_getElem? (i := 6) rfl)) (by decide) (by decide)) qac823 qcc823 (g := (mkF m 117 #[.val (.int p0), .val (.int p1), .val (.int p2), .val (.int p3), .val (.int p4), .val (.int c0), .val (.int c1), .val (.int c2), .val (.int c3), .val (.int (2 : Int32)), .val (.int (1 : Int32)), .val (.ref sa691), .val (.ref sa697), .val (.ref x704), .val (.ref m704)] [(.ref m704)])) rfl (by rw [hml]; rfl) (Steps.refl _) (argsL := []) (rest := []) (lenOf own_pd181 rfl) rfl (by show 2 * 0 + _ ≤ _; exact Nat.le_of_eq rfl) (hb hby at_117) (fun _ _ => ⟨rfl, e715, (by decide : 20 + 0 ≤ _), (by decide : 2872 + 0 ≤ _)⟩)
    dsimp only [Pt.U, Pt.locs, Pt.cells, Pt.slots] at X822 l822 y822 z822 st822 hQ822
    subst l822 y822 z822
    obtain ⟨rfl, N822, e822⟩ := hQ822
    refine GoOn.trans st822 ?_
    have N824 := Fr.app N717 N822
    show GoOn p e below (T822.setTop (mkF m 120 #[.val (.int p0), .val (.int p1), .val (.int p2), .val (.int p3), .val (.int p4), .val (.int c0), .val (.int c1), .val (.int c2), .val (.int c3), .val (.int (2 : Int32)), .val (.int (1 : Int32)), .val (.ref sa691), .val (.ref sa697), .val (.ref x704), .val (.ref m704)] [(.int (5 : Int32))])) _
    refine GoOn.step (fun tq kq => XS.iload X822.here hx rfl (hb hby at_120) rfl kq) ?_
    show GoOn p e below (T822.setTop (mkF m 122 #[.val (.int p0), .val (.int p1), .val (.int p2), .val (.int p3), .val (.int p4), .val (.int c0), .val (.int c1), .val (.int c2), .val (.int c3), .val (.int (2 : Int32)), .val (.int (1 : Int32)), .val (.ref sa691), .val (.ref sa697), .val (.ref x704), .val (.ref m704)] [(.int (2 : Int32)), (.int (5 : Int32))])) _
    refine GoOn.step (fun tq kq => XS.iconst X822.here hx rfl (hb hby at_122) kq) ?_
    show GoOn p e below (T822.setTop (mkF m 123 #[.val (.int p0), .val (.int p1), .val (.int p2), .val (.int p3), .val (.int p4), .val (.int c0), .val (.int c1), .val (.int c2), .val (.int c3), .val (.int (2 : Int32)), .val (.int (1 : Int32)), .val (.ref sa691), .val (.ref sa697), .val (.ref x704), .val (.ref m704)] [(.int (2 : Int32)), (.int (2 : Int32)), (.int (5 : Int32))])) _
    refine GoOn.step (fun tq kq => XS.iadd X822.here hx rfl (hb hby at_123) rfl kq) ?_
    show GoOn p e below (T822.setTop (mkF m 124 #[.val (.int p0), .val (.int p1), .val (.int p2), .val (.int p3), .val (.int p4), .val (.int c0), .val (.int c1), .val (.int c2), .val (.int c3), .val (.int (2 : Int32)), .val (.int (1 : Int32)), .val (.ref sa691), .val (.ref sa697), .val (.ref x704), .val (.ref m704)] [(.int ((2 : Int32) + (2 : Int32))), (.int (5 : Int32))])) _
    refine GoOn.step (fun tq kq => XS.iload X822.here hx rfl (hb hby at_124) rfl kq) ?_
    show GoOn p e below (T822.setTop (mkF m 126 #[.val (.int p0), .val (.int p1), .val (.int p2), .val (.int p3), .val (.int p4), .val (.int c0), .val (.int c1), .val (.int c2), .val (.int c3), .val (.int (2 : Int32)), .val (.int (1 : Int32)), .val (.ref sa691), .val (.ref sa697), .val (.ref x704), .val (.ref m704)] [(.int (1 : Int32)), (.int ((2 : Int32) + (2 : Int32))), (.int (5 : Int32))])) _
    refine GoOn.step (fun tq kq => XS.iadd X822.here hx rfl (hb hby at_126) rfl kq) ?_
    show GoOn p e below (T822.setTop (mkF m 127 #[.val (.int p0), .val (.int p1), .val (.int p2), .val (.int p3), .val (.int p4), .val (.int c0), .val (.int c1), .val (.int c2), .val (.int c3), .val (.int (2 : Int32)), .val (.int (1 : Int32)), .val (.ref sa691), .val (.ref sa697), .val (.ref x704), .val (.ref m704)] [(.int (((2 : Int32) + (2 : Int32)) + (1 : Int32))), (.int (5 : Int32))])) _
    refine GoOn.step (fun tq kq => XS.icmpYes X822.here hx rfl (pc0 := 127) (pc' := 132) rfl (hb hby at_127) rfl (teq (by decide)).1 (by decide) (by decide) kq) ?_
    show GoOn p e below (T822.setTop (mkF m 132 #[.val (.int p0), .val (.int p1), .val (.int p2), .val (.int p3), .val (.int p4), .val (.int c0), .val (.int c1), .val (.int c2), .val (.int c3), .val (.int (2 : Int32)), .val (.int (1 : Int32)), .val (.ref sa691), .val (.ref sa697), .val (.ref x704), .val (.ref m704)] [])) _
    refine GoOn.step (fun tq kq => XS.iload X822.here hx rfl (hb hby at_132) rfl kq) ?_
    show GoOn p e below (T822.setTop (mkF m 134 #[.val (.int p0), .val (.int p1), .val (.int p2), .val (.int p3), .val (.int p4), .val (.int c0), .val (.int c1), .val (.int c2), .val (.int c3), .val (.int (2 : Int32)), .val (.int (1 : Int32)), .val (.ref sa691), .val (.ref sa697), .val (.ref x704), .val (.ref m704)] [(.int (2 : Int32))])) _
    refine GoOn.step (fun tq kq => XS.iconst X822.here hx rfl (hb hby at_134) kq) ?_
    show GoOn p e below (T822.setTop (mkF m 135 #[.val (.int p0), .val (.int p1), .val (.int p2), .val (.int p3), .val (.int p4), .val (.int c0), .val (.int c1), .val (.int c2), .val (.int c3), .val (.int (2 : Int32)), .val (.int (1 : Int32)), .val (.ref sa691), .val (.ref sa697), .val (.ref x704), .val (.ref m704)] [(.int (1 : Int32)), (.int (2 : Int32))])) _
    refine GoOn.step (fun tq kq => XS.icmpNo X822.here hx rfl (hb hby at_135) rfl (flt (by decide)).1 kq) ?_
    show GoOn p e below (T822.setTop (mkF m 138 #[.val (.int p0), .val (.int p1), .val (.int p2), .val (.int p3), .val (.int p4), .val (.int c0), .val (.int c1), .val (.int c2), .val (.int c3), .val (.int (2 : Int32)), .val (.int (1 : Int32)), .val (.ref sa691), .val (.ref sa697), .val (.ref x704), .val (.ref m704)] [])) _
    refine GoOn.step (fun tq kq => XS.aload X822.here hx rfl (hb hby at_138) rfl rfl kq) ?_
    show GoOn p e below (T822.setTop (mkF m 140 #[.val (.int p0), .val (.int p1), .val (.int p2), .val (.int p3), .val (.int p4), .val (.int c0), .val (.int c1), .val (.int c2), .val (.int c3), .val (.int (2 : Int32)), .val (.int (1 : Int32)), .val (.ref sa691), .val (.ref sa697), .val (.ref x704), .val (.ref m704)] [(.ref m704)])) _
    refine GoOn.step (fun tq kq => XS.iconst X822.here hx rfl (hb hby at_140) kq) ?_
    show GoOn p e below (T822.setTop (mkF m 141 #[.val (.int p0), .val (.int p1), .val (.int p2), .val (.int p3), .val (.int p4), .val (.int c0), .val (.int c1), .val (.int c2), .val (.int c3), .val (.int (2 : Int32)), .val (.int (1 : Int32)), .val (.ref sa691), .val (.ref sa697), .val (.ref x704), .val (.ref m704)] [(.int (0 : Int32)), (.ref m704)])) _
    obtain ⟨cqc826, kqc826, qac826, qbc826, qcc826⟩ := isOf hZ704 e822 Sr821.1
    obtain ⟨_, _, ⟨T825, L825, k825, n825⟩, -, X825, ⟨Lc825, hQ825, l825, y825, z825⟩, st825⟩ := X822.virtualBack hx (y := (⟨"java/lang/String", "charAt", "(I)C"⟩ : MethodName)) (z := (⟨"java/lang/String", "charAt", "(I)C"⟩ : MethodName)) hown704 (mvT hZ704 (hw _ (List.mem_of_getElem? (i := 201) rfl))) (mvT hZ704 (hw _ (List.mem_of_getElem? (i := 202) rfl))) (notFace_of_selects (args := #[]) (mvT hZ704 (hw _ (List.mem_of_getElem? (i := 204) rfl)))) (mvT hZ704 (hw _ (List.mem_of_getElem? (i := 204) rfl))) (mvT hZ704 (hw _ (List.mem_of_getElem? (i := 203) rfl))) (by decide) (own_chS (n0 := n0) (W := 0) hZ704 hch (kI := 4) (hw _ (List.mem_of_getElem? (i := 7) rfl)) Sr821 (SC.ext O706.2) PC (SF.ext O706.2) rG3 0 (Nat.le_of_ble_eq_true rfl) (by decide) (by decide) (by decide)) qac826 qcc826 (g := (mkF m 141 #[.val (.int p0), .val (.int p1), .val (.int p2), .val (.int p3), .val (.int p4), .val (.int c0), .val (.int c1), .val (.int c2), .val (.int c3), .val (.int (2 : Int32)), .val (.int (1 : Int32)), .val (.ref sa691), .val (.ref sa697), .val (.ref x704), .val (.ref m704)] [(.int (0 : Int32)), (.ref m704)])) rfl (by rw [hml]; rfl) (Steps.refl _) (argsL := [(.int (0 : Int32))]) (rest := []) (lenOf own_pd368 rfl) rfl (by show 2 * 0 + _ ≤ _; exact Nat.le_of_eq rfl) (hb hby at_141) (fun _ _ => ⟨rfl, e822, (by decide : 20 + 0 ≤ _), (by decide : 2872 + 0 ≤ _)⟩)
    dsimp only [Pt.U, Pt.locs, Pt.cells, Pt.slots] at X825 l825 y825 z825 st825 hQ825
    subst l825 y825 z825
    obtain ⟨rfl, N825, e825⟩ := hQ825
    refine GoOn.trans st825 ?_
    have N827 := Fr.app N824 N825
    show GoOn p e below (T825.setTop (mkF m 144 #[.val (.int p0), .val (.int p1), .val (.int p2), .val (.int p3), .val (.int p4), .val (.int c0), .val (.int c1), .val (.int c2), .val (.int c3), .val (.int (2 : Int32)), .val (.int (1 : Int32)), .val (.ref sa691), .val (.ref sa697), .val (.ref x704), .val (.ref m704)] [(.int c0)])) _
    refine GoOn.step (fun tq kq => XS.iload X825.here hx rfl (hb hby at_144) rfl kq) ?_
    show GoOn p e below (T825.setTop (mkF m 146 #[.val (.int p0), .val (.int p1), .val (.int p2), .val (.int p3), .val (.int p4), .val (.int c0), .val (.int c1), .val (.int c2), .val (.int c3), .val (.int (2 : Int32)), .val (.int (1 : Int32)), .val (.ref sa691), .val (.ref sa697), .val (.ref x704), .val (.ref m704)] [(.int c0), (.int c0)])) _
    refine GoOn.step (fun tq kq => XS.icmpYes X825.here hx rfl (pc0 := 146) (pc' := 151) rfl (hb hby at_146) rfl (teq rfl).1 (by decide) (by decide) kq) ?_
    show GoOn p e below (T825.setTop (mkF m 151 #[.val (.int p0), .val (.int p1), .val (.int p2), .val (.int p3), .val (.int p4), .val (.int c0), .val (.int c1), .val (.int c2), .val (.int c3), .val (.int (2 : Int32)), .val (.int (1 : Int32)), .val (.ref sa691), .val (.ref sa697), .val (.ref x704), .val (.ref m704)] [])) _
    refine GoOn.step (fun tq kq => XS.iload X825.here hx rfl (hb hby at_151) rfl kq) ?_
    show GoOn p e below (T825.setTop (mkF m 153 #[.val (.int p0), .val (.int p1), .val (.int p2), .val (.int p3), .val (.int p4), .val (.int c0), .val (.int c1), .val (.int c2), .val (.int c3), .val (.int (2 : Int32)), .val (.int (1 : Int32)), .val (.ref sa691), .val (.ref sa697), .val (.ref x704), .val (.ref m704)] [(.int (2 : Int32))])) _
    refine GoOn.step (fun tq kq => XS.iconst X825.here hx rfl (hb hby at_153) kq) ?_
    show GoOn p e below (T825.setTop (mkF m 154 #[.val (.int p0), .val (.int p1), .val (.int p2), .val (.int p3), .val (.int p4), .val (.int c0), .val (.int c1), .val (.int c2), .val (.int c3), .val (.int (2 : Int32)), .val (.int (1 : Int32)), .val (.ref sa691), .val (.ref sa697), .val (.ref x704), .val (.ref m704)] [(.int (2 : Int32)), (.int (2 : Int32))])) _
    refine GoOn.step (fun tq kq => XS.icmpNo X825.here hx rfl (hb hby at_154) rfl (flt (by decide)).1 kq) ?_
    show GoOn p e below (T825.setTop (mkF m 157 #[.val (.int p0), .val (.int p1), .val (.int p2), .val (.int p3), .val (.int p4), .val (.int c0), .val (.int c1), .val (.int c2), .val (.int c3), .val (.int (2 : Int32)), .val (.int (1 : Int32)), .val (.ref sa691), .val (.ref sa697), .val (.ref x704), .val (.ref m704)] [])) _
    refine GoOn.step (fun tq kq => XS.aload X825.here hx rfl (hb hby at_157) rfl rfl kq) ?_
    show GoOn p e below (T825.setTop (mkF m 159 #[.val (.int p0), .val (.int p1), .val (.int p2), .val (.int p3), .val (.int p4), .val (.int c0), .val (.int c1), .val (.int c2), .val (.int c3), .val (.int (2 : Int32)), .val (.int (1 : Int32)), .val (.ref sa691), .val (.ref sa697), .val (.ref x704), .val (.ref m704)] [(.ref m704)])) _
    refine GoOn.step (fun tq kq => XS.iconst X825.here hx rfl (hb hby at_159) kq) ?_
    show GoOn p e below (T825.setTop (mkF m 160 #[.val (.int p0), .val (.int p1), .val (.int p2), .val (.int p3), .val (.int p4), .val (.int c0), .val (.int c1), .val (.int c2), .val (.int c3), .val (.int (2 : Int32)), .val (.int (1 : Int32)), .val (.ref sa691), .val (.ref sa697), .val (.ref x704), .val (.ref m704)] [(.int (1 : Int32)), (.ref m704)])) _
    obtain ⟨cqc829, kqc829, qac829, qbc829, qcc829⟩ := isOf hZ704 e825 Sr821.1
    obtain ⟨_, _, ⟨T828, L828, k828, n828⟩, -, X828, ⟨Lc828, hQ828, l828, y828, z828⟩, st828⟩ := X825.virtualBack hx (y := (⟨"java/lang/String", "charAt", "(I)C"⟩ : MethodName)) (z := (⟨"java/lang/String", "charAt", "(I)C"⟩ : MethodName)) hown704 (mvT hZ704 (hw _ (List.mem_of_getElem? (i := 201) rfl))) (mvT hZ704 (hw _ (List.mem_of_getElem? (i := 202) rfl))) (notFace_of_selects (args := #[]) (mvT hZ704 (hw _ (List.mem_of_getElem? (i := 204) rfl)))) (mvT hZ704 (hw _ (List.mem_of_getElem? (i := 204) rfl))) (mvT hZ704 (hw _ (List.mem_of_getElem? (i := 203) rfl))) (by decide) (own_chS (n0 := n0) (W := 0) hZ704 hch (kI := 4) (hw _ (List.mem_of_getElem? (i := 7) rfl)) Sr821 (SC.ext O706.2) PC (SF.ext O706.2) rG3 1 (Nat.le_of_ble_eq_true rfl) (by decide) (by decide) (by decide)) qac829 qcc829 (g := (mkF m 160 #[.val (.int p0), .val (.int p1), .val (.int p2), .val (.int p3), .val (.int p4), .val (.int c0), .val (.int c1), .val (.int c2), .val (.int c3), .val (.int (2 : Int32)), .val (.int (1 : Int32)), .val (.ref sa691), .val (.ref sa697), .val (.ref x704), .val (.ref m704)] [(.int (1 : Int32)), (.ref m704)])) rfl (by rw [hml]; rfl) (Steps.refl _) (argsL := [(.int (1 : Int32))]) (rest := []) (lenOf own_pd368 rfl) rfl (by show 2 * 0 + _ ≤ _; exact Nat.le_of_eq rfl) (hb hby at_160) (fun _ _ => ⟨rfl, e825, (by decide : 20 + 0 ≤ _), (by decide : 2872 + 0 ≤ _)⟩)
    dsimp only [Pt.U, Pt.locs, Pt.cells, Pt.slots] at X828 l828 y828 z828 st828 hQ828
    subst l828 y828 z828
    obtain ⟨rfl, N828, e828⟩ := hQ828
    refine GoOn.trans st828 ?_
    have N830 := Fr.app N827 N828
    show GoOn p e below (T828.setTop (mkF m 163 #[.val (.int p0), .val (.int p1), .val (.int p2), .val (.int p3), .val (.int p4), .val (.int c0), .val (.int c1), .val (.int c2), .val (.int c3), .val (.int (2 : Int32)), .val (.int (1 : Int32)), .val (.ref sa691), .val (.ref sa697), .val (.ref x704), .val (.ref m704)] [(.int c1)])) _
    refine GoOn.step (fun tq kq => XS.iload X828.here hx rfl (hb hby at_163) rfl kq) ?_
    show GoOn p e below (T828.setTop (mkF m 165 #[.val (.int p0), .val (.int p1), .val (.int p2), .val (.int p3), .val (.int p4), .val (.int c0), .val (.int c1), .val (.int c2), .val (.int c3), .val (.int (2 : Int32)), .val (.int (1 : Int32)), .val (.ref sa691), .val (.ref sa697), .val (.ref x704), .val (.ref m704)] [(.int c1), (.int c1)])) _
    refine GoOn.step (fun tq kq => XS.icmpYes X828.here hx rfl (pc0 := 165) (pc' := 170) rfl (hb hby at_165) rfl (teq rfl).1 (by decide) (by decide) kq) ?_
    show GoOn p e below (T828.setTop (mkF m 170 #[.val (.int p0), .val (.int p1), .val (.int p2), .val (.int p3), .val (.int p4), .val (.int c0), .val (.int c1), .val (.int c2), .val (.int c3), .val (.int (2 : Int32)), .val (.int (1 : Int32)), .val (.ref sa691), .val (.ref sa697), .val (.ref x704), .val (.ref m704)] [])) _
    refine GoOn.step (fun tq kq => XS.aload X828.here hx rfl (hb hby at_170) rfl rfl kq) ?_
    show GoOn p e below (T828.setTop (mkF m 172 #[.val (.int p0), .val (.int p1), .val (.int p2), .val (.int p3), .val (.int p4), .val (.int c0), .val (.int c1), .val (.int c2), .val (.int c3), .val (.int (2 : Int32)), .val (.int (1 : Int32)), .val (.ref sa691), .val (.ref sa697), .val (.ref x704), .val (.ref m704)] [(.ref m704)])) _
    refine GoOn.step (fun tq kq => XS.iload X828.here hx rfl (hb hby at_172) rfl kq) ?_
    show GoOn p e below (T828.setTop (mkF m 174 #[.val (.int p0), .val (.int p1), .val (.int p2), .val (.int p3), .val (.int p4), .val (.int c0), .val (.int c1), .val (.int c2), .val (.int c3), .val (.int (2 : Int32)), .val (.int (1 : Int32)), .val (.ref sa691), .val (.ref sa697), .val (.ref x704), .val (.ref m704)] [(.int (2 : Int32)), (.ref m704)])) _
    obtain ⟨cqc832, kqc832, qac832, qbc832, qcc832⟩ := isOf hZ704 e828 Sr821.1
    obtain ⟨_, _, ⟨T831, L831, k831, n831⟩, -, X831, ⟨Lc831, hQ831, l831, y831, z831⟩, st831⟩ := X828.virtualBack hx (y := (⟨"java/lang/String", "charAt", "(I)C"⟩ : MethodName)) (z := (⟨"java/lang/String", "charAt", "(I)C"⟩ : MethodName)) hown704 (mvT hZ704 (hw _ (List.mem_of_getElem? (i := 201) rfl))) (mvT hZ704 (hw _ (List.mem_of_getElem? (i := 202) rfl))) (notFace_of_selects (args := #[]) (mvT hZ704 (hw _ (List.mem_of_getElem? (i := 204) rfl)))) (mvT hZ704 (hw _ (List.mem_of_getElem? (i := 204) rfl))) (mvT hZ704 (hw _ (List.mem_of_getElem? (i := 203) rfl))) (by decide) (own_chS (n0 := n0) (W := 0) hZ704 hch (kI := 4) (hw _ (List.mem_of_getElem? (i := 7) rfl)) Sr821 (SC.ext O706.2) PC (SF.ext O706.2) rG3 2 (Nat.le_of_ble_eq_true rfl) (by decide) (by decide) (by decide)) qac832 qcc832 (g := (mkF m 174 #[.val (.int p0), .val (.int p1), .val (.int p2), .val (.int p3), .val (.int p4), .val (.int c0), .val (.int c1), .val (.int c2), .val (.int c3), .val (.int (2 : Int32)), .val (.int (1 : Int32)), .val (.ref sa691), .val (.ref sa697), .val (.ref x704), .val (.ref m704)] [(.int (2 : Int32)), (.ref m704)])) rfl (by rw [hml]; rfl) (Steps.refl _) (argsL := [(.int (2 : Int32))]) (rest := []) (lenOf own_pd368 rfl) rfl (by show 2 * 0 + _ ≤ _; exact Nat.le_of_eq rfl) (hb hby at_174) (fun _ _ => ⟨rfl, e828, (by decide : 20 + 0 ≤ _), (by decide : 2872 + 0 ≤ _)⟩)
    dsimp only [Pt.U, Pt.locs, Pt.cells, Pt.slots] at X831 l831 y831 z831 st831 hQ831
    subst l831 y831 z831
    obtain ⟨rfl, N831, e831⟩ := hQ831
    refine GoOn.trans st831 ?_
    have N833 := Fr.app N830 N831
    show GoOn p e below (T831.setTop (mkF m 177 #[.val (.int p0), .val (.int p1), .val (.int p2), .val (.int p3), .val (.int p4), .val (.int c0), .val (.int c1), .val (.int c2), .val (.int c3), .val (.int (2 : Int32)), .val (.int (1 : Int32)), .val (.ref sa691), .val (.ref sa697), .val (.ref x704), .val (.ref m704)] [(.int (58 : Int32))])) _
    refine GoOn.step (fun tq kq => XS.bipush X831.here hx rfl (hb hby at_177) kq) ?_
    show GoOn p e below (T831.setTop (mkF m 179 #[.val (.int p0), .val (.int p1), .val (.int p2), .val (.int p3), .val (.int p4), .val (.int c0), .val (.int c1), .val (.int c2), .val (.int c3), .val (.int (2 : Int32)), .val (.int (1 : Int32)), .val (.ref sa691), .val (.ref sa697), .val (.ref x704), .val (.ref m704)] [(.int (58 : Int32)), (.int (58 : Int32))])) _
    refine GoOn.step (fun tq kq => XS.icmpYes X831.here hx rfl (pc0 := 179) (pc' := 184) rfl (hb hby at_179) rfl (teq rfl).1 (by decide) (by decide) kq) ?_
    show GoOn p e below (T831.setTop (mkF m 184 #[.val (.int p0), .val (.int p1), .val (.int p2), .val (.int p3), .val (.int p4), .val (.int c0), .val (.int c1), .val (.int c2), .val (.int c3), .val (.int (2 : Int32)), .val (.int (1 : Int32)), .val (.ref sa691), .val (.ref sa697), .val (.ref x704), .val (.ref m704)] [])) _
    refine GoOn.step (fun tq kq => XS.aload X831.here hx rfl (hb hby at_184) rfl rfl kq) ?_
    show GoOn p e below (T831.setTop (mkF m 186 #[.val (.int p0), .val (.int p1), .val (.int p2), .val (.int p3), .val (.int p4), .val (.int c0), .val (.int c1), .val (.int c2), .val (.int c3), .val (.int (2 : Int32)), .val (.int (1 : Int32)), .val (.ref sa691), .val (.ref sa697), .val (.ref x704), .val (.ref m704)] [(.ref m704)])) _
    refine GoOn.step (fun tq kq => XS.iload X831.here hx rfl (hb hby at_186) rfl kq) ?_
    show GoOn p e below (T831.setTop (mkF m 188 #[.val (.int p0), .val (.int p1), .val (.int p2), .val (.int p3), .val (.int p4), .val (.int c0), .val (.int c1), .val (.int c2), .val (.int c3), .val (.int (2 : Int32)), .val (.int (1 : Int32)), .val (.ref sa691), .val (.ref sa697), .val (.ref x704), .val (.ref m704)] [(.int (2 : Int32)), (.ref m704)])) _
    refine GoOn.step (fun tq kq => XS.iconst X831.here hx rfl (hb hby at_188) kq) ?_
    show GoOn p e below (T831.setTop (mkF m 189 #[.val (.int p0), .val (.int p1), .val (.int p2), .val (.int p3), .val (.int p4), .val (.int c0), .val (.int c1), .val (.int c2), .val (.int c3), .val (.int (2 : Int32)), .val (.int (1 : Int32)), .val (.ref sa691), .val (.ref sa697), .val (.ref x704), .val (.ref m704)] [(.int (1 : Int32)), (.int (2 : Int32)), (.ref m704)])) _
    refine GoOn.step (fun tq kq => XS.iadd X831.here hx rfl (hb hby at_189) rfl kq) ?_
    show GoOn p e below (T831.setTop (mkF m 190 #[.val (.int p0), .val (.int p1), .val (.int p2), .val (.int p3), .val (.int p4), .val (.int c0), .val (.int c1), .val (.int c2), .val (.int c3), .val (.int (2 : Int32)), .val (.int (1 : Int32)), .val (.ref sa691), .val (.ref sa697), .val (.ref x704), .val (.ref m704)] [(.int ((2 : Int32) + (1 : Int32))), (.ref m704)])) _
    obtain ⟨cqc835, kqc835, qac835, qbc835, qcc835⟩ := isOf hZ704 e831 Sr821.1
    obtain ⟨_, _, ⟨T834, L834, k834, n834⟩, -, X834, ⟨Lc834, hQ834, l834, y834, z834⟩, st834⟩ := X831.virtualBack hx (y := (⟨"java/lang/String", "charAt", "(I)C"⟩ : MethodName)) (z := (⟨"java/lang/String", "charAt", "(I)C"⟩ : MethodName)) hown704 (mvT hZ704 (hw _ (List.mem_of_getElem? (i := 201) rfl))) (mvT hZ704 (hw _ (List.mem_of_getElem? (i := 202) rfl))) (notFace_of_selects (args := #[]) (mvT hZ704 (hw _ (List.mem_of_getElem? (i := 204) rfl)))) (mvT hZ704 (hw _ (List.mem_of_getElem? (i := 204) rfl))) (mvT hZ704 (hw _ (List.mem_of_getElem? (i := 203) rfl))) (by decide) (own_chS (n0 := n0) (W := 0) hZ704 hch (kI := 4) (hw _ (List.mem_of_getElem? (i := 7) rfl)) Sr821 (SC.ext O706.2) PC (SF.ext O706.2) rG3 3 (Nat.le_of_ble_eq_true rfl) (by decide) (by decide) (by decide)) qac835 qcc835 (g := (mkF m 190 #[.val (.int p0), .val (.int p1), .val (.int p2), .val (.int p3), .val (.int p4), .val (.int c0), .val (.int c1), .val (.int c2), .val (.int c3), .val (.int (2 : Int32)), .val (.int (1 : Int32)), .val (.ref sa691), .val (.ref sa697), .val (.ref x704), .val (.ref m704)] [(.int ((2 : Int32) + (1 : Int32))), (.ref m704)])) rfl (by rw [hml]; rfl) (Steps.refl _) (argsL := [(.int ((2 : Int32) + (1 : Int32)))]) (rest := []) (lenOf own_pd368 rfl) rfl (by show 2 * 0 + _ ≤ _; exact Nat.le_of_eq rfl) (hb hby at_190) (fun _ _ => ⟨rfl, e831, (by decide : 20 + 0 ≤ _), (by decide : 2872 + 0 ≤ _)⟩)
    dsimp only [Pt.U, Pt.locs, Pt.cells, Pt.slots] at X834 l834 y834 z834 st834 hQ834
    subst l834 y834 z834
    obtain ⟨rfl, N834, e834⟩ := hQ834
    refine GoOn.trans st834 ?_
    have N836 := Fr.app N833 N834
    show GoOn p e below (T834.setTop (mkF m 193 #[.val (.int p0), .val (.int p1), .val (.int p2), .val (.int p3), .val (.int p4), .val (.int c0), .val (.int c1), .val (.int c2), .val (.int c3), .val (.int (2 : Int32)), .val (.int (1 : Int32)), .val (.ref sa691), .val (.ref sa697), .val (.ref x704), .val (.ref m704)] [(.int (32 : Int32))])) _
    refine GoOn.step (fun tq kq => XS.bipush X834.here hx rfl (hb hby at_193) kq) ?_
    show GoOn p e below (T834.setTop (mkF m 195 #[.val (.int p0), .val (.int p1), .val (.int p2), .val (.int p3), .val (.int p4), .val (.int c0), .val (.int c1), .val (.int c2), .val (.int c3), .val (.int (2 : Int32)), .val (.int (1 : Int32)), .val (.ref sa691), .val (.ref sa697), .val (.ref x704), .val (.ref m704)] [(.int (32 : Int32)), (.int (32 : Int32))])) _
    refine GoOn.step (fun tq kq => XS.icmpYes X834.here hx rfl (pc0 := 195) (pc' := 200) rfl (hb hby at_195) rfl (teq rfl).1 (by decide) (by decide) kq) ?_
    show GoOn p e below (T834.setTop (mkF m 200 #[.val (.int p0), .val (.int p1), .val (.int p2), .val (.int p3), .val (.int p4), .val (.int c0), .val (.int c1), .val (.int c2), .val (.int c3), .val (.int (2 : Int32)), .val (.int (1 : Int32)), .val (.ref sa691), .val (.ref sa697), .val (.ref x704), .val (.ref m704)] [])) _
    refine GoOn.step (fun tq kq => XS.iload X834.here hx rfl (hb hby at_200) rfl kq) ?_
    show GoOn p e below (T834.setTop (mkF m 202 #[.val (.int p0), .val (.int p1), .val (.int p2), .val (.int p3), .val (.int p4), .val (.int c0), .val (.int c1), .val (.int c2), .val (.int c3), .val (.int (2 : Int32)), .val (.int (1 : Int32)), .val (.ref sa691), .val (.ref sa697), .val (.ref x704), .val (.ref m704)] [(.int (1 : Int32))])) _
    refine GoOn.step (fun tq kq => XS.iconst X834.here hx rfl (hb hby at_202) kq) ?_
    show GoOn p e below (T834.setTop (mkF m 203 #[.val (.int p0), .val (.int p1), .val (.int p2), .val (.int p3), .val (.int p4), .val (.int c0), .val (.int c1), .val (.int c2), .val (.int c3), .val (.int (2 : Int32)), .val (.int (1 : Int32)), .val (.ref sa691), .val (.ref sa697), .val (.ref x704), .val (.ref m704)] [(.int (1 : Int32)), (.int (1 : Int32))])) _
    refine GoOn.step (fun tq kq => XS.icmpNo X834.here hx rfl (hb hby at_203) rfl (flt (by decide)).1 kq) ?_
    show GoOn p e below (T834.setTop (mkF m 206 #[.val (.int p0), .val (.int p1), .val (.int p2), .val (.int p3), .val (.int p4), .val (.int c0), .val (.int c1), .val (.int c2), .val (.int c3), .val (.int (2 : Int32)), .val (.int (1 : Int32)), .val (.ref sa691), .val (.ref sa697), .val (.ref x704), .val (.ref m704)] [])) _
    refine GoOn.step (fun tq kq => XS.aload X834.here hx rfl (hb hby at_206) rfl rfl kq) ?_
    show GoOn p e below (T834.setTop (mkF m 208 #[.val (.int p0), .val (.int p1), .val (.int p2), .val (.int p3), .val (.int p4), .val (.int c0), .val (.int c1), .val (.int c2), .val (.int c3), .val (.int (2 : Int32)), .val (.int (1 : Int32)), .val (.ref sa691), .val (.ref sa697), .val (.ref x704), .val (.ref m704)] [(.ref m704)])) _
    refine GoOn.step (fun tq kq => XS.iload X834.here hx rfl (hb hby at_208) rfl kq) ?_
    show GoOn p e below (T834.setTop (mkF m 210 #[.val (.int p0), .val (.int p1), .val (.int p2), .val (.int p3), .val (.int p4), .val (.int c0), .val (.int c1), .val (.int c2), .val (.int c3), .val (.int (2 : Int32)), .val (.int (1 : Int32)), .val (.ref sa691), .val (.ref sa697), .val (.ref x704), .val (.ref m704)] [(.int (2 : Int32)), (.ref m704)])) _
    refine GoOn.step (fun tq kq => XS.iconst X834.here hx rfl (hb hby at_210) kq) ?_
    show GoOn p e below (T834.setTop (mkF m 211 #[.val (.int p0), .val (.int p1), .val (.int p2), .val (.int p3), .val (.int p4), .val (.int c0), .val (.int c1), .val (.int c2), .val (.int c3), .val (.int (2 : Int32)), .val (.int (1 : Int32)), .val (.ref sa691), .val (.ref sa697), .val (.ref x704), .val (.ref m704)] [(.int (2 : Int32)), (.int (2 : Int32)), (.ref m704)])) _
    refine GoOn.step (fun tq kq => XS.iadd X834.here hx rfl (hb hby at_211) rfl kq) ?_
    show GoOn p e below (T834.setTop (mkF m 212 #[.val (.int p0), .val (.int p1), .val (.int p2), .val (.int p3), .val (.int p4), .val (.int c0), .val (.int c1), .val (.int c2), .val (.int c3), .val (.int (2 : Int32)), .val (.int (1 : Int32)), .val (.ref sa691), .val (.ref sa697), .val (.ref x704), .val (.ref m704)] [(.int ((2 : Int32) + (2 : Int32))), (.ref m704)])) _
    obtain ⟨cqc838, kqc838, qac838, qbc838, qcc838⟩ := isOf hZ704 e834 Sr821.1
    obtain ⟨_, _, ⟨T837, L837, k837, n837⟩, -, X837, ⟨Lc837, hQ837, l837, y837, z837⟩, st837⟩ := X834.virtualBack hx (y := (⟨"java/lang/String", "charAt", "(I)C"⟩ : MethodName)) (z := (⟨"java/lang/String", "charAt", "(I)C"⟩ : MethodName)) hown704 (mvT hZ704 (hw _ (List.mem_of_getElem? (i := 201) rfl))) (mvT hZ704 (hw _ (List.mem_of_getElem? (i := 202) rfl))) (notFace_of_selects (args := #[]) (mvT hZ704 (hw _ (List.mem_of_getElem? (i := 204) rfl)))) (mvT hZ704 (hw _ (List.mem_of_getElem? (i := 204) rfl))) (mvT hZ704 (hw _ (List.mem_of_getElem? (i := 203) rfl))) (by decide) (own_chS (n0 := n0) (W := 0) hZ704 hch (kI := 4) (hw _ (List.mem_of_getElem? (i := 7) rfl)) Sr821 (SC.ext O706.2) PC (SF.ext O706.2) rG3 4 (Nat.le_of_ble_eq_true rfl) (by decide) (by decide) (by decide)) qac838 qcc838 (g := (mkF m 212 #[.val (.int p0), .val (.int p1), .val (.int p2), .val (.int p3), .val (.int p4), .val (.int c0), .val (.int c1), .val (.int c2), .val (.int c3), .val (.int (2 : Int32)), .val (.int (1 : Int32)), .val (.ref sa691), .val (.ref sa697), .val (.ref x704), .val (.ref m704)] [(.int ((2 : Int32) + (2 : Int32))), (.ref m704)])) rfl (by rw [hml]; rfl) (Steps.refl _) (argsL := [(.int ((2 : Int32) + (2 : Int32)))]) (rest := []) (lenOf own_pd368 rfl) rfl (by show 2 * 0 + _ ≤ _; exact Nat.le_of_eq rfl) (hb hby at_212) (fun _ _ => ⟨rfl, e834, (by decide : 20 + 0 ≤ _), (by decide : 2872 + 0 ≤ _)⟩)
    dsimp only [Pt.U, Pt.locs, Pt.cells, Pt.slots] at X837 l837 y837 z837 st837 hQ837
    subst l837 y837 z837
    obtain ⟨rfl, N837, e837⟩ := hQ837
    refine GoOn.trans st837 ?_
    have N839 := Fr.app N836 N837
    show GoOn p e below (T837.setTop (mkF m 215 #[.val (.int p0), .val (.int p1), .val (.int p2), .val (.int p3), .val (.int p4), .val (.int c0), .val (.int c1), .val (.int c2), .val (.int c3), .val (.int (2 : Int32)), .val (.int (1 : Int32)), .val (.ref sa691), .val (.ref sa697), .val (.ref x704), .val (.ref m704)] [(.int c2)])) _
    refine GoOn.step (fun tq kq => XS.iload X837.here hx rfl (hb hby at_215) rfl kq) ?_
    show GoOn p e below (T837.setTop (mkF m 217 #[.val (.int p0), .val (.int p1), .val (.int p2), .val (.int p3), .val (.int p4), .val (.int c0), .val (.int c1), .val (.int c2), .val (.int c3), .val (.int (2 : Int32)), .val (.int (1 : Int32)), .val (.ref sa691), .val (.ref sa697), .val (.ref x704), .val (.ref m704)] [(.int c2), (.int c2)])) _
    refine GoOn.step (fun tq kq => XS.icmpYes X837.here hx rfl (pc0 := 217) (pc' := 222) rfl (hb hby at_217) rfl (teq rfl).1 (by decide) (by decide) kq) ?_
    show GoOn p e below (T837.setTop (mkF m 222 #[.val (.int p0), .val (.int p1), .val (.int p2), .val (.int p3), .val (.int p4), .val (.int c0), .val (.int c1), .val (.int c2), .val (.int c3), .val (.int (2 : Int32)), .val (.int (1 : Int32)), .val (.ref sa691), .val (.ref sa697), .val (.ref x704), .val (.ref m704)] [])) _
    refine GoOn.step (fun tq kq => XS.iload X837.here hx rfl (hb hby at_222) rfl kq) ?_
    show GoOn p e below (T837.setTop (mkF m 224 #[.val (.int p0), .val (.int p1), .val (.int p2), .val (.int p3), .val (.int p4), .val (.int c0), .val (.int c1), .val (.int c2), .val (.int c3), .val (.int (2 : Int32)), .val (.int (1 : Int32)), .val (.ref sa691), .val (.ref sa697), .val (.ref x704), .val (.ref m704)] [(.int (1 : Int32))])) _
    refine GoOn.step (fun tq kq => XS.iconst X837.here hx rfl (hb hby at_224) kq) ?_
    show GoOn p e below (T837.setTop (mkF m 225 #[.val (.int p0), .val (.int p1), .val (.int p2), .val (.int p3), .val (.int p4), .val (.int c0), .val (.int c1), .val (.int c2), .val (.int c3), .val (.int (2 : Int32)), .val (.int (1 : Int32)), .val (.ref sa691), .val (.ref sa697), .val (.ref x704), .val (.ref m704)] [(.int (2 : Int32)), (.int (1 : Int32))])) _
    refine GoOn.step (fun tq kq => XS.icmpYes X837.here hx rfl (pc0 := 225) (pc' := 244) rfl (hb hby at_225) rfl (tlt (by decide)).1 (by decide) (by decide) kq) ?_
    show GoOn p e below (T837.setTop (mkF m 244 #[.val (.int p0), .val (.int p1), .val (.int p2), .val (.int p3), .val (.int p4), .val (.int c0), .val (.int c1), .val (.int c2), .val (.int c3), .val (.int (2 : Int32)), .val (.int (1 : Int32)), .val (.ref sa691), .val (.ref sa697), .val (.ref x704), .val (.ref m704)] [])) _
    refine GoOn.step (fun tq kq => XS.iconst X837.here hx rfl (hb hby at_244) kq) ?_
    show GoOn p e below (T837.setTop (mkF m 245 #[.val (.int p0), .val (.int p1), .val (.int p2), .val (.int p3), .val (.int p4), .val (.int c0), .val (.int c1), .val (.int c2), .val (.int c3), .val (.int (2 : Int32)), .val (.int (1 : Int32)), .val (.ref sa691), .val (.ref sa697), .val (.ref x704), .val (.ref m704)] [(.int (1 : Int32))])) _
    refine GoOn.retH X837 hZ704 hSn704 (hk704) hEL hh e837 C709 Bd.notSynchronized (v := some (.int (nar .boolean (1 : Int32)))) (fun h => by rw [Bd.returns] at h; cases h) (fun fs hr => retN X837 hx (t := .boolean) Bd.returns (by simp) (hb hby at_245) hr) (by decide) (by decide) ?_
    exact ⟨rfl, N839⟩
  · skip
    have Sr840 : StrIs Z T704.heap m704 ([c0, c1, 58, 32, c2, c3] : List Int32) := S704
    show GoOn p e below (T715.setTop (mkF m 117 #[.val (.int p0), .val (.int p1), .val (.int p2), .val (.int p3), .val (.int p4), .val (.int c0), .val (.int c1), .val (.int c2), .val (.int c3), .val (.int (2 : Int32)), .val (.int (2 : Int32)), .val (.ref sa691), .val (.ref sa697), .val (.ref x704), .val (.ref m704)] [(.ref m704)])) _
    obtain ⟨cqc842, kqc842, qac842, qbc842, qcc842⟩ := isOf hZ704 e715 Sr840.1
    obtain ⟨_, _, ⟨T841, L841, k841, n841⟩, -, X841, ⟨Lc841, hQ841, l841, y841, z841⟩, st841⟩ := X715.virtualBack hx (y := (⟨"java/lang/String", "length", "()I"⟩ : MethodName)) (z := (⟨"java/lang/String", "length", "()I"⟩ : MethodName)) hown704 (mvT hZ704 (hw _ (List.mem_of_getElem? (i := 200) rfl))) (mvT hZ704 (hw _ (List.mem_of_getElem? (i := 50) rfl))) (notFace_of_selects (args := #[]) (mvT hZ704 (hw _ (List.mem_of_getElem? (i := 52) rfl)))) (mvT hZ704 (hw _ (List.mem_of_getElem? (i := 52) rfl))) (mvT hZ704 (hw _ (List.mem_of_getElem? (i := 51) rfl))) (by decide) (backOf (W := 0) (rmLen l Z a0 hw m704 ([c0, c1, 58, 32, c2, c3] : List Int32) G1 T704.heap n0 Z707 SC PC Sr840 O706) hZ704 (hw _ (List.mem_of_getElem? (i := 53) rfl)) (hw _ (List.mem_of_getElem? (i := 6) rfl)) (by decide) (by decide)) qac842 qcc842 (g := (mkF m 117 #[.val (.int p0), .val (.int p1), .val (.int p2), .val (.int p3), .val (.int p4), .val (.int c0), .val (.int c1), .val (.int c2), .val (.int c3), .val (.int (2 : Int32)), .val (.int (2 : Int32)), .val (.ref sa691), .val (.ref sa697), .val (.ref x704), .val (.ref m704)] [(.ref m704)])) rfl (by rw [hml]; rfl) (Steps.refl _) (argsL := []) (rest := []) (lenOf own_pd181 rfl) rfl (by show 2 * 0 + _ ≤ _; exact Nat.le_of_eq rfl) (hb hby at_117) (fun _ _ => ⟨rfl, e715, (by decide : 20 + 0 ≤ _), (by decide : 2872 + 0 ≤ _)⟩)
    dsimp only [Pt.U, Pt.locs, Pt.cells, Pt.slots] at X841 l841 y841 z841 st841 hQ841
    subst l841 y841 z841
    obtain ⟨rfl, N841, e841⟩ := hQ841
    refine GoOn.trans st841 ?_
    have N843 := Fr.app N717 N841
    show GoOn p e below (T841.setTop (mkF m 120 #[.val (.int p0), .val (.int p1), .val (.int p2), .val (.int p3), .val (.int p4), .val (.int c0), .val (.int c1), .val (.int c2), .val (.int c3), .val (.int (2 : Int32)), .val (.int (2 : Int32)), .val (.ref sa691), .val (.ref sa697), .val (.ref x704), .val (.ref m704)] [(.int (6 : Int32))])) _
    refine GoOn.step (fun tq kq => XS.iload X841.here hx rfl (hb hby at_120) rfl kq) ?_
    show GoOn p e below (T841.setTop (mkF m 122 #[.val (.int p0), .val (.int p1), .val (.int p2), .val (.int p3), .val (.int p4), .val (.int c0), .val (.int c1), .val (.int c2), .val (.int c3), .val (.int (2 : Int32)), .val (.int (2 : Int32)), .val (.ref sa691), .val (.ref sa697), .val (.ref x704), .val (.ref m704)] [(.int (2 : Int32)), (.int (6 : Int32))])) _
    refine GoOn.step (fun tq kq => XS.iconst X841.here hx rfl (hb hby at_122) kq) ?_
    show GoOn p e below (T841.setTop (mkF m 123 #[.val (.int p0), .val (.int p1), .val (.int p2), .val (.int p3), .val (.int p4), .val (.int c0), .val (.int c1), .val (.int c2), .val (.int c3), .val (.int (2 : Int32)), .val (.int (2 : Int32)), .val (.ref sa691), .val (.ref sa697), .val (.ref x704), .val (.ref m704)] [(.int (2 : Int32)), (.int (2 : Int32)), (.int (6 : Int32))])) _
    refine GoOn.step (fun tq kq => XS.iadd X841.here hx rfl (hb hby at_123) rfl kq) ?_
    show GoOn p e below (T841.setTop (mkF m 124 #[.val (.int p0), .val (.int p1), .val (.int p2), .val (.int p3), .val (.int p4), .val (.int c0), .val (.int c1), .val (.int c2), .val (.int c3), .val (.int (2 : Int32)), .val (.int (2 : Int32)), .val (.ref sa691), .val (.ref sa697), .val (.ref x704), .val (.ref m704)] [(.int ((2 : Int32) + (2 : Int32))), (.int (6 : Int32))])) _
    refine GoOn.step (fun tq kq => XS.iload X841.here hx rfl (hb hby at_124) rfl kq) ?_
    show GoOn p e below (T841.setTop (mkF m 126 #[.val (.int p0), .val (.int p1), .val (.int p2), .val (.int p3), .val (.int p4), .val (.int c0), .val (.int c1), .val (.int c2), .val (.int c3), .val (.int (2 : Int32)), .val (.int (2 : Int32)), .val (.ref sa691), .val (.ref sa697), .val (.ref x704), .val (.ref m704)] [(.int (2 : Int32)), (.int ((2 : Int32) + (2 : Int32))), (.int (6 : Int32))])) _
    refine GoOn.step (fun tq kq => XS.iadd X841.here hx rfl (hb hby at_126) rfl kq) ?_
    show GoOn p e below (T841.setTop (mkF m 127 #[.val (.int p0), .val (.int p1), .val (.int p2), .val (.int p3), .val (.int p4), .val (.int c0), .val (.int c1), .val (.int c2), .val (.int c3), .val (.int (2 : Int32)), .val (.int (2 : Int32)), .val (.ref sa691), .val (.ref sa697), .val (.ref x704), .val (.ref m704)] [(.int (((2 : Int32) + (2 : Int32)) + (2 : Int32))), (.int (6 : Int32))])) _
    refine GoOn.step (fun tq kq => XS.icmpYes X841.here hx rfl (pc0 := 127) (pc' := 132) rfl (hb hby at_127) rfl (teq (by decide)).1 (by decide) (by decide) kq) ?_
    show GoOn p e below (T841.setTop (mkF m 132 #[.val (.int p0), .val (.int p1), .val (.int p2), .val (.int p3), .val (.int p4), .val (.int c0), .val (.int c1), .val (.int c2), .val (.int c3), .val (.int (2 : Int32)), .val (.int (2 : Int32)), .val (.ref sa691), .val (.ref sa697), .val (.ref x704), .val (.ref m704)] [])) _
    refine GoOn.step (fun tq kq => XS.iload X841.here hx rfl (hb hby at_132) rfl kq) ?_
    show GoOn p e below (T841.setTop (mkF m 134 #[.val (.int p0), .val (.int p1), .val (.int p2), .val (.int p3), .val (.int p4), .val (.int c0), .val (.int c1), .val (.int c2), .val (.int c3), .val (.int (2 : Int32)), .val (.int (2 : Int32)), .val (.ref sa691), .val (.ref sa697), .val (.ref x704), .val (.ref m704)] [(.int (2 : Int32))])) _
    refine GoOn.step (fun tq kq => XS.iconst X841.here hx rfl (hb hby at_134) kq) ?_
    show GoOn p e below (T841.setTop (mkF m 135 #[.val (.int p0), .val (.int p1), .val (.int p2), .val (.int p3), .val (.int p4), .val (.int c0), .val (.int c1), .val (.int c2), .val (.int c3), .val (.int (2 : Int32)), .val (.int (2 : Int32)), .val (.ref sa691), .val (.ref sa697), .val (.ref x704), .val (.ref m704)] [(.int (1 : Int32)), (.int (2 : Int32))])) _
    refine GoOn.step (fun tq kq => XS.icmpNo X841.here hx rfl (hb hby at_135) rfl (flt (by decide)).1 kq) ?_
    show GoOn p e below (T841.setTop (mkF m 138 #[.val (.int p0), .val (.int p1), .val (.int p2), .val (.int p3), .val (.int p4), .val (.int c0), .val (.int c1), .val (.int c2), .val (.int c3), .val (.int (2 : Int32)), .val (.int (2 : Int32)), .val (.ref sa691), .val (.ref sa697), .val (.ref x704), .val (.ref m704)] [])) _
    refine GoOn.step (fun tq kq => XS.aload X841.here hx rfl (hb hby at_138) rfl rfl kq) ?_
    show GoOn p e below (T841.setTop (mkF m 140 #[.val (.int p0), .val (.int p1), .val (.int p2), .val (.int p3), .val (.int p4), .val (.int c0), .val (.int c1), .val (.int c2), .val (.int c3), .val (.int (2 : Int32)), .val (.int (2 : Int32)), .val (.ref sa691), .val (.ref sa697), .val (.ref x704), .val (.ref m704)] [(.ref m704)])) _
    refine GoOn.step (fun tq kq => XS.iconst X841.here hx rfl (hb hby at_140) kq) ?_
    show GoOn p e below (T841.setTop (mkF m 141 #[.val (.int p0), .val (.int p1), .val (.int p2), .val (.int p3), .val (.int p4), .val (.int c0), .val (.int c1), .val (.int c2), .val (.int c3), .val (.int (2 : Int32)), .val (.int (2 : Int32)), .val (.ref sa691), .val (.ref sa697), .val (.ref x704), .val (.ref m704)] [(.int (0 : Int32)), (.ref m704)])) _
    obtain ⟨cqc845, kqc845, qac845, qbc845, qcc845⟩ := isOf hZ704 e841 Sr840.1
    obtain ⟨_, _, ⟨T844, L844, k844, n844⟩, -, X844, ⟨Lc844, hQ844, l844, y844, z844⟩, st844⟩ := X841.virtualBack hx (y := (⟨"java/lang/String", "charAt", "(I)C"⟩ : MethodName)) (z := (⟨"java/lang/String", "charAt", "(I)C"⟩ : MethodName)) hown704 (mvT hZ704 (hw _ (List.mem_of_getElem? (i := 201) rfl))) (mvT hZ704 (hw _ (List.mem_of_getElem? (i := 202) rfl))) (notFace_of_selects (args := #[]) (mvT hZ704 (hw _ (List.mem_of_getElem? (i := 204) rfl)))) (mvT hZ704 (hw _ (List.mem_of_getElem? (i := 204) rfl))) (mvT hZ704 (hw _ (List.mem_of_getElem? (i := 203) rfl))) (by decide) (own_chS (n0 := n0) (W := 0) hZ704 hch (kI := 4) (hw _ (List.mem_of_getElem? (i := 7) rfl)) Sr840 (SC.ext O706.2) PC (SF.ext O706.2) rG3 0 (Nat.le_of_ble_eq_true rfl) (by decide) (by decide) (by decide)) qac845 qcc845 (g := (mkF m 141 #[.val (.int p0), .val (.int p1), .val (.int p2), .val (.int p3), .val (.int p4), .val (.int c0), .val (.int c1), .val (.int c2), .val (.int c3), .val (.int (2 : Int32)), .val (.int (2 : Int32)), .val (.ref sa691), .val (.ref sa697), .val (.ref x704), .val (.ref m704)] [(.int (0 : Int32)), (.ref m704)])) rfl (by rw [hml]; rfl) (Steps.refl _) (argsL := [(.int (0 : Int32))]) (rest := []) (lenOf own_pd368 rfl) rfl (by show 2 * 0 + _ ≤ _; exact Nat.le_of_eq rfl) (hb hby at_141) (fun _ _ => ⟨rfl, e841, (by decide : 20 + 0 ≤ _), (by decide : 2872 + 0 ≤ _)⟩)
    dsimp only [Pt.U, Pt.locs, Pt.cells, Pt.slots] at X844 l844 y844 z844 st844 hQ844
    subst l844 y844 z844
    obtain ⟨rfl, N844, e844⟩ := hQ844
    refine GoOn.trans st844 ?_
    have N846 := Fr.app N843 N844
    show GoOn p e below (T844.setTop (mkF m 144 #[.val (.int p0), .val (.int p1), .val (.int p2), .val (.int p3), .val (.int p4), .val (.int c0), .val (.int c1), .val (.int c2), .val (.int c3), .val (.int (2 : Int32)), .val (.int (2 : Int32)), .val (.ref sa691), .val (.ref sa697), .val (.ref x704), .val (.ref m704)] [(.int c0)])) _
    refine GoOn.step (fun tq kq => XS.iload X844.here hx rfl (hb hby at_144) rfl kq) ?_
    show GoOn p e below (T844.setTop (mkF m 146 #[.val (.int p0), .val (.int p1), .val (.int p2), .val (.int p3), .val (.int p4), .val (.int c0), .val (.int c1), .val (.int c2), .val (.int c3), .val (.int (2 : Int32)), .val (.int (2 : Int32)), .val (.ref sa691), .val (.ref sa697), .val (.ref x704), .val (.ref m704)] [(.int c0), (.int c0)])) _
    refine GoOn.step (fun tq kq => XS.icmpYes X844.here hx rfl (pc0 := 146) (pc' := 151) rfl (hb hby at_146) rfl (teq rfl).1 (by decide) (by decide) kq) ?_
    show GoOn p e below (T844.setTop (mkF m 151 #[.val (.int p0), .val (.int p1), .val (.int p2), .val (.int p3), .val (.int p4), .val (.int c0), .val (.int c1), .val (.int c2), .val (.int c3), .val (.int (2 : Int32)), .val (.int (2 : Int32)), .val (.ref sa691), .val (.ref sa697), .val (.ref x704), .val (.ref m704)] [])) _
    refine GoOn.step (fun tq kq => XS.iload X844.here hx rfl (hb hby at_151) rfl kq) ?_
    show GoOn p e below (T844.setTop (mkF m 153 #[.val (.int p0), .val (.int p1), .val (.int p2), .val (.int p3), .val (.int p4), .val (.int c0), .val (.int c1), .val (.int c2), .val (.int c3), .val (.int (2 : Int32)), .val (.int (2 : Int32)), .val (.ref sa691), .val (.ref sa697), .val (.ref x704), .val (.ref m704)] [(.int (2 : Int32))])) _
    refine GoOn.step (fun tq kq => XS.iconst X844.here hx rfl (hb hby at_153) kq) ?_
    show GoOn p e below (T844.setTop (mkF m 154 #[.val (.int p0), .val (.int p1), .val (.int p2), .val (.int p3), .val (.int p4), .val (.int c0), .val (.int c1), .val (.int c2), .val (.int c3), .val (.int (2 : Int32)), .val (.int (2 : Int32)), .val (.ref sa691), .val (.ref sa697), .val (.ref x704), .val (.ref m704)] [(.int (2 : Int32)), (.int (2 : Int32))])) _
    refine GoOn.step (fun tq kq => XS.icmpNo X844.here hx rfl (hb hby at_154) rfl (flt (by decide)).1 kq) ?_
    show GoOn p e below (T844.setTop (mkF m 157 #[.val (.int p0), .val (.int p1), .val (.int p2), .val (.int p3), .val (.int p4), .val (.int c0), .val (.int c1), .val (.int c2), .val (.int c3), .val (.int (2 : Int32)), .val (.int (2 : Int32)), .val (.ref sa691), .val (.ref sa697), .val (.ref x704), .val (.ref m704)] [])) _
    refine GoOn.step (fun tq kq => XS.aload X844.here hx rfl (hb hby at_157) rfl rfl kq) ?_
    show GoOn p e below (T844.setTop (mkF m 159 #[.val (.int p0), .val (.int p1), .val (.int p2), .val (.int p3), .val (.int p4), .val (.int c0), .val (.int c1), .val (.int c2), .val (.int c3), .val (.int (2 : Int32)), .val (.int (2 : Int32)), .val (.ref sa691), .val (.ref sa697), .val (.ref x704), .val (.ref m704)] [(.ref m704)])) _
    refine GoOn.step (fun tq kq => XS.iconst X844.here hx rfl (hb hby at_159) kq) ?_
    show GoOn p e below (T844.setTop (mkF m 160 #[.val (.int p0), .val (.int p1), .val (.int p2), .val (.int p3), .val (.int p4), .val (.int c0), .val (.int c1), .val (.int c2), .val (.int c3), .val (.int (2 : Int32)), .val (.int (2 : Int32)), .val (.ref sa691), .val (.ref sa697), .val (.ref x704), .val (.ref m704)] [(.int (1 : Int32)), (.ref m704)])) _
    obtain ⟨cqc848, kqc848, qac848, qbc848, qcc848⟩ := isOf hZ704 e844 Sr840.1
    obtain ⟨_, _, ⟨T847, L847, k847, n847⟩, -, X847, ⟨Lc847, hQ847, l847, y847, z847⟩, st847⟩ := X844.virtualBack hx (y := (⟨"java/lang/String", "charAt", "(I)C"⟩ : MethodName)) (z := (⟨"java/lang/String", "charAt", "(I)C"⟩ : MethodName)) hown704 (mvT hZ704 (hw _ (List.mem_of_getElem? (i := 201) rfl))) (mvT hZ704 (hw _ (List.mem_of_getElem? (i := 202) rfl))) (notFace_of_selects (args := #[]) (mvT hZ704 (hw _ (List.mem_of_getElem? (i := 204) rfl)))) (mvT hZ704 (hw _ (List.mem_of_getElem? (i := 204) rfl))) (mvT hZ704 (hw _ (List.mem_of_getElem? (i := 203) rfl))) (by decide) (own_chS (n0 := n0) (W := 0) hZ704 hch (kI := 4) (hw _ (List.mem_of_getElem? (i := 7) rfl)) Sr840 (SC.ext O706.2) PC (SF.ext O706.2) rG3 1 (Nat.le_of_ble_eq_true rfl) (by decide) (by decide) (by decide)) qac848 qcc848 (g := (mkF m 160 #[.val (.int p0), .val (.int p1), .val (.int p2), .val (.int p3), .val (.int p4), .val (.int c0), .val (.int c1), .val (.int c2), .val (.int c3), .val (.int (2 : Int32)), .val (.int (2 : Int32)), .val (.ref sa691), .val (.ref sa697), .val (.ref x704), .val (.ref m704)] [(.int (1 : Int32)), (.ref m704)])) rfl (by rw [hml]; rfl) (Steps.refl _) (argsL := [(.int (1 : Int32))]) (rest := []) (lenOf own_pd368 rfl) rfl (by show 2 * 0 + _ ≤ _; exact Nat.le_of_eq rfl) (hb hby at_160) (fun _ _ => ⟨rfl, e844, (by decide : 20 + 0 ≤ _), (by decide : 2872 + 0 ≤ _)⟩)
    dsimp only [Pt.U, Pt.locs, Pt.cells, Pt.slots] at X847 l847 y847 z847 st847 hQ847
    subst l847 y847 z847
    obtain ⟨rfl, N847, e847⟩ := hQ847
    refine GoOn.trans st847 ?_
    have N849 := Fr.app N846 N847
    show GoOn p e below (T847.setTop (mkF m 163 #[.val (.int p0), .val (.int p1), .val (.int p2), .val (.int p3), .val (.int p4), .val (.int c0), .val (.int c1), .val (.int c2), .val (.int c3), .val (.int (2 : Int32)), .val (.int (2 : Int32)), .val (.ref sa691), .val (.ref sa697), .val (.ref x704), .val (.ref m704)] [(.int c1)])) _
    refine GoOn.step (fun tq kq => XS.iload X847.here hx rfl (hb hby at_163) rfl kq) ?_
    show GoOn p e below (T847.setTop (mkF m 165 #[.val (.int p0), .val (.int p1), .val (.int p2), .val (.int p3), .val (.int p4), .val (.int c0), .val (.int c1), .val (.int c2), .val (.int c3), .val (.int (2 : Int32)), .val (.int (2 : Int32)), .val (.ref sa691), .val (.ref sa697), .val (.ref x704), .val (.ref m704)] [(.int c1), (.int c1)])) _
    refine GoOn.step (fun tq kq => XS.icmpYes X847.here hx rfl (pc0 := 165) (pc' := 170) rfl (hb hby at_165) rfl (teq rfl).1 (by decide) (by decide) kq) ?_
    show GoOn p e below (T847.setTop (mkF m 170 #[.val (.int p0), .val (.int p1), .val (.int p2), .val (.int p3), .val (.int p4), .val (.int c0), .val (.int c1), .val (.int c2), .val (.int c3), .val (.int (2 : Int32)), .val (.int (2 : Int32)), .val (.ref sa691), .val (.ref sa697), .val (.ref x704), .val (.ref m704)] [])) _
    refine GoOn.step (fun tq kq => XS.aload X847.here hx rfl (hb hby at_170) rfl rfl kq) ?_
    show GoOn p e below (T847.setTop (mkF m 172 #[.val (.int p0), .val (.int p1), .val (.int p2), .val (.int p3), .val (.int p4), .val (.int c0), .val (.int c1), .val (.int c2), .val (.int c3), .val (.int (2 : Int32)), .val (.int (2 : Int32)), .val (.ref sa691), .val (.ref sa697), .val (.ref x704), .val (.ref m704)] [(.ref m704)])) _
    refine GoOn.step (fun tq kq => XS.iload X847.here hx rfl (hb hby at_172) rfl kq) ?_
    show GoOn p e below (T847.setTop (mkF m 174 #[.val (.int p0), .val (.int p1), .val (.int p2), .val (.int p3), .val (.int p4), .val (.int c0), .val (.int c1), .val (.int c2), .val (.int c3), .val (.int (2 : Int32)), .val (.int (2 : Int32)), .val (.ref sa691), .val (.ref sa697), .val (.ref x704), .val (.ref m704)] [(.int (2 : Int32)), (.ref m704)])) _
    obtain ⟨cqc851, kqc851, qac851, qbc851, qcc851⟩ := isOf hZ704 e847 Sr840.1
    obtain ⟨_, _, ⟨T850, L850, k850, n850⟩, -, X850, ⟨Lc850, hQ850, l850, y850, z850⟩, st850⟩ := X847.virtualBack hx (y := (⟨"java/lang/String", "charAt", "(I)C"⟩ : MethodName)) (z := (⟨"java/lang/String", "charAt", "(I)C"⟩ : MethodName)) hown704 (mvT hZ704 (hw _ (List.mem_of_getElem? (i := 201) rfl))) (mvT hZ704 (hw _ (List.mem_of_getElem? (i := 202) rfl))) (notFace_of_selects (args := #[]) (mvT hZ704 (hw _ (List.mem_of_getElem? (i := 204) rfl)))) (mvT hZ704 (hw _ (List.mem_of_getElem? (i := 204) rfl))) (mvT hZ704 (hw _ (List.mem_of_getElem? (i := 203) rfl))) (by decide) (own_chS (n0 := n0) (W := 0) hZ704 hch (kI := 4) (hw _ (List.mem_of_getElem? (i := 7) rfl)) Sr840 (SC.ext O706.2) PC (SF.ext O706.2) rG3 2 (Nat.le_of_ble_eq_true rfl) (by decide) (by decide) (by decide)) qac851 qcc851 (g := (mkF m 174 #[.val (.int p0), .val (.int p1), .val (.int p2), .val (.int p3), .val (.int p4), .val (.int c0), .val (.int c1), .val (.int c2), .val (.int c3), .val (.int (2 : Int32)), .val (.int (2 : Int32)), .val (.ref sa691), .val (.ref sa697), .val (.ref x704), .val (.ref m704)] [(.int (2 : Int32)), (.ref m704)])) rfl (by rw [hml]; rfl) (Steps.refl _) (argsL := [(.int (2 : Int32))]) (rest := []) (lenOf own_pd368 rfl) rfl (by show 2 * 0 + _ ≤ _; exact Nat.le_of_eq rfl) (hb hby at_174) (fun _ _ => ⟨rfl, e847, (by decide : 20 + 0 ≤ _), (by decide : 2872 + 0 ≤ _)⟩)
    dsimp only [Pt.U, Pt.locs, Pt.cells, Pt.slots] at X850 l850 y850 z850 st850 hQ850
    subst l850 y850 z850
    obtain ⟨rfl, N850, e850⟩ := hQ850
    refine GoOn.trans st850 ?_
    have N852 := Fr.app N849 N850
    show GoOn p e below (T850.setTop (mkF m 177 #[.val (.int p0), .val (.int p1), .val (.int p2), .val (.int p3), .val (.int p4), .val (.int c0), .val (.int c1), .val (.int c2), .val (.int c3), .val (.int (2 : Int32)), .val (.int (2 : Int32)), .val (.ref sa691), .val (.ref sa697), .val (.ref x704), .val (.ref m704)] [(.int (58 : Int32))])) _
    refine GoOn.step (fun tq kq => XS.bipush X850.here hx rfl (hb hby at_177) kq) ?_
    show GoOn p e below (T850.setTop (mkF m 179 #[.val (.int p0), .val (.int p1), .val (.int p2), .val (.int p3), .val (.int p4), .val (.int c0), .val (.int c1), .val (.int c2), .val (.int c3), .val (.int (2 : Int32)), .val (.int (2 : Int32)), .val (.ref sa691), .val (.ref sa697), .val (.ref x704), .val (.ref m704)] [(.int (58 : Int32)), (.int (58 : Int32))])) _
    refine GoOn.step (fun tq kq => XS.icmpYes X850.here hx rfl (pc0 := 179) (pc' := 184) rfl (hb hby at_179) rfl (teq rfl).1 (by decide) (by decide) kq) ?_
    show GoOn p e below (T850.setTop (mkF m 184 #[.val (.int p0), .val (.int p1), .val (.int p2), .val (.int p3), .val (.int p4), .val (.int c0), .val (.int c1), .val (.int c2), .val (.int c3), .val (.int (2 : Int32)), .val (.int (2 : Int32)), .val (.ref sa691), .val (.ref sa697), .val (.ref x704), .val (.ref m704)] [])) _
    refine GoOn.step (fun tq kq => XS.aload X850.here hx rfl (hb hby at_184) rfl rfl kq) ?_
    show GoOn p e below (T850.setTop (mkF m 186 #[.val (.int p0), .val (.int p1), .val (.int p2), .val (.int p3), .val (.int p4), .val (.int c0), .val (.int c1), .val (.int c2), .val (.int c3), .val (.int (2 : Int32)), .val (.int (2 : Int32)), .val (.ref sa691), .val (.ref sa697), .val (.ref x704), .val (.ref m704)] [(.ref m704)])) _
    refine GoOn.step (fun tq kq => XS.iload X850.here hx rfl (hb hby at_186) rfl kq) ?_
    show GoOn p e below (T850.setTop (mkF m 188 #[.val (.int p0), .val (.int p1), .val (.int p2), .val (.int p3), .val (.int p4), .val (.int c0), .val (.int c1), .val (.int c2), .val (.int c3), .val (.int (2 : Int32)), .val (.int (2 : Int32)), .val (.ref sa691), .val (.ref sa697), .val (.ref x704), .val (.ref m704)] [(.int (2 : Int32)), (.ref m704)])) _
    refine GoOn.step (fun tq kq => XS.iconst X850.here hx rfl (hb hby at_188) kq) ?_
    show GoOn p e below (T850.setTop (mkF m 189 #[.val (.int p0), .val (.int p1), .val (.int p2), .val (.int p3), .val (.int p4), .val (.int c0), .val (.int c1), .val (.int c2), .val (.int c3), .val (.int (2 : Int32)), .val (.int (2 : Int32)), .val (.ref sa691), .val (.ref sa697), .val (.ref x704), .val (.ref m704)] [(.int (1 : Int32)), (.int (2 : Int32)), (.ref m704)])) _
    refine GoOn.step (fun tq kq => XS.iadd X850.here hx rfl (hb hby at_189) rfl kq) ?_
    show GoOn p e below (T850.setTop (mkF m 190 #[.val (.int p0), .val (.int p1), .val (.int p2), .val (.int p3), .val (.int p4), .val (.int c0), .val (.int c1), .val (.int c2), .val (.int c3), .val (.int (2 : Int32)), .val (.int (2 : Int32)), .val (.ref sa691), .val (.ref sa697), .val (.ref x704), .val (.ref m704)] [(.int ((2 : Int32) + (1 : Int32))), (.ref m704)])) _
    obtain ⟨cqc854, kqc854, qac854, qbc854, qcc854⟩ := isOf hZ704 e850 Sr840.1
    obtain ⟨_, _, ⟨T853, L853, k853, n853⟩, -, X853, ⟨Lc853, hQ853, l853, y853, z853⟩, st853⟩ := X850.virtualBack hx (y := (⟨"java/lang/String", "charAt", "(I)C"⟩ : MethodName)) (z := (⟨"java/lang/String", "charAt", "(I)C"⟩ : MethodName)) hown704 (mvT hZ704 (hw _ (List.mem_of_getElem? (i := 201) rfl))) (mvT hZ704 (hw _ (List.mem_of_getElem? (i := 202) rfl))) (notFace_of_selects (args := #[]) (mvT hZ704 (hw _ (List.mem_of_getElem? (i := 204) rfl)))) (mvT hZ704 (hw _ (List.mem_of_getElem? (i := 204) rfl))) (mvT hZ704 (hw _ (List.mem_of_getElem? (i := 203) rfl))) (by decide) (own_chS (n0 := n0) (W := 0) hZ704 hch (kI := 4) (hw _ (List.mem_of_getElem? (i := 7) rfl)) Sr840 (SC.ext O706.2) PC (SF.ext O706.2) rG3 3 (Nat.le_of_ble_eq_true rfl) (by decide) (by decide) (by decide)) qac854 qcc854 (g := (mkF m 190 #[.val (.int p0), .val (.int p1), .val (.int p2), .val (.int p3), .val (.int p4), .val (.int c0), .val (.int c1), .val (.int c2), .val (.int c3), .val (.int (2 : Int32)), .val (.int (2 : Int32)), .val (.ref sa691), .val (.ref sa697), .val (.ref x704), .val (.ref m704)] [(.int ((2 : Int32) + (1 : Int32))), (.ref m704)])) rfl (by rw [hml]; rfl) (Steps.refl _) (argsL := [(.int ((2 : Int32) + (1 : Int32)))]) (rest := []) (lenOf own_pd368 rfl) rfl (by show 2 * 0 + _ ≤ _; exact Nat.le_of_eq rfl) (hb hby at_190) (fun _ _ => ⟨rfl, e850, (by decide : 20 + 0 ≤ _), (by decide : 2872 + 0 ≤ _)⟩)
    dsimp only [Pt.U, Pt.locs, Pt.cells, Pt.slots] at X853 l853 y853 z853 st853 hQ853
    subst l853 y853 z853
    obtain ⟨rfl, N853, e853⟩ := hQ853
    refine GoOn.trans st853 ?_
    have N855 := Fr.app N852 N853
    show GoOn p e below (T853.setTop (mkF m 193 #[.val (.int p0), .val (.int p1), .val (.int p2), .val (.int p3), .val (.int p4), .val (.int c0), .val (.int c1), .val (.int c2), .val (.int c3), .val (.int (2 : Int32)), .val (.int (2 : Int32)), .val (.ref sa691), .val (.ref sa697), .val (.ref x704), .val (.ref m704)] [(.int (32 : Int32))])) _
    refine GoOn.step (fun tq kq => XS.bipush X853.here hx rfl (hb hby at_193) kq) ?_
    show GoOn p e below (T853.setTop (mkF m 195 #[.val (.int p0), .val (.int p1), .val (.int p2), .val (.int p3), .val (.int p4), .val (.int c0), .val (.int c1), .val (.int c2), .val (.int c3), .val (.int (2 : Int32)), .val (.int (2 : Int32)), .val (.ref sa691), .val (.ref sa697), .val (.ref x704), .val (.ref m704)] [(.int (32 : Int32)), (.int (32 : Int32))])) _
    refine GoOn.step (fun tq kq => XS.icmpYes X853.here hx rfl (pc0 := 195) (pc' := 200) rfl (hb hby at_195) rfl (teq rfl).1 (by decide) (by decide) kq) ?_
    show GoOn p e below (T853.setTop (mkF m 200 #[.val (.int p0), .val (.int p1), .val (.int p2), .val (.int p3), .val (.int p4), .val (.int c0), .val (.int c1), .val (.int c2), .val (.int c3), .val (.int (2 : Int32)), .val (.int (2 : Int32)), .val (.ref sa691), .val (.ref sa697), .val (.ref x704), .val (.ref m704)] [])) _
    refine GoOn.step (fun tq kq => XS.iload X853.here hx rfl (hb hby at_200) rfl kq) ?_
    show GoOn p e below (T853.setTop (mkF m 202 #[.val (.int p0), .val (.int p1), .val (.int p2), .val (.int p3), .val (.int p4), .val (.int c0), .val (.int c1), .val (.int c2), .val (.int c3), .val (.int (2 : Int32)), .val (.int (2 : Int32)), .val (.ref sa691), .val (.ref sa697), .val (.ref x704), .val (.ref m704)] [(.int (2 : Int32))])) _
    refine GoOn.step (fun tq kq => XS.iconst X853.here hx rfl (hb hby at_202) kq) ?_
    show GoOn p e below (T853.setTop (mkF m 203 #[.val (.int p0), .val (.int p1), .val (.int p2), .val (.int p3), .val (.int p4), .val (.int c0), .val (.int c1), .val (.int c2), .val (.int c3), .val (.int (2 : Int32)), .val (.int (2 : Int32)), .val (.ref sa691), .val (.ref sa697), .val (.ref x704), .val (.ref m704)] [(.int (1 : Int32)), (.int (2 : Int32))])) _
    refine GoOn.step (fun tq kq => XS.icmpNo X853.here hx rfl (hb hby at_203) rfl (flt (by decide)).1 kq) ?_
    show GoOn p e below (T853.setTop (mkF m 206 #[.val (.int p0), .val (.int p1), .val (.int p2), .val (.int p3), .val (.int p4), .val (.int c0), .val (.int c1), .val (.int c2), .val (.int c3), .val (.int (2 : Int32)), .val (.int (2 : Int32)), .val (.ref sa691), .val (.ref sa697), .val (.ref x704), .val (.ref m704)] [])) _
    refine GoOn.step (fun tq kq => XS.aload X853.here hx rfl (hb hby at_206) rfl rfl kq) ?_
    show GoOn p e below (T853.setTop (mkF m 208 #[.val (.int p0), .val (.int p1), .val (.int p2), .val (.int p3), .val (.int p4), .val (.int c0), .val (.int c1), .val (.int c2), .val (.int c3), .val (.int (2 : Int32)), .val (.int (2 : Int32)), .val (.ref sa691), .val (.ref sa697), .val (.ref x704), .val (.ref m704)] [(.ref m704)])) _
    refine GoOn.step (fun tq kq => XS.iload X853.here hx rfl (hb hby at_208) rfl kq) ?_
    show GoOn p e below (T853.setTop (mkF m 210 #[.val (.int p0), .val (.int p1), .val (.int p2), .val (.int p3), .val (.int p4), .val (.int c0), .val (.int c1), .val (.int c2), .val (.int c3), .val (.int (2 : Int32)), .val (.int (2 : Int32)), .val (.ref sa691), .val (.ref sa697), .val (.ref x704), .val (.ref m704)] [(.int (2 : Int32)), (.ref m704)])) _
    refine GoOn.step (fun tq kq => XS.iconst X853.here hx rfl (hb hby at_210) kq) ?_
    show GoOn p e below (T853.setTop (mkF m 211 #[.val (.int p0), .val (.int p1), .val (.int p2), .val (.int p3), .val (.int p4), .val (.int c0), .val (.int c1), .val (.int c2), .val (.int c3), .val (.int (2 : Int32)), .val (.int (2 : Int32)), .val (.ref sa691), .val (.ref sa697), .val (.ref x704), .val (.ref m704)] [(.int (2 : Int32)), (.int (2 : Int32)), (.ref m704)])) _
    refine GoOn.step (fun tq kq => XS.iadd X853.here hx rfl (hb hby at_211) rfl kq) ?_
    show GoOn p e below (T853.setTop (mkF m 212 #[.val (.int p0), .val (.int p1), .val (.int p2), .val (.int p3), .val (.int p4), .val (.int c0), .val (.int c1), .val (.int c2), .val (.int c3), .val (.int (2 : Int32)), .val (.int (2 : Int32)), .val (.ref sa691), .val (.ref sa697), .val (.ref x704), .val (.ref m704)] [(.int ((2 : Int32) + (2 : Int32))), (.ref m704)])) _
    obtain ⟨cqc857, kqc857, qac857, qbc857, qcc857⟩ := isOf hZ704 e853 Sr840.1
    obtain ⟨_, _, ⟨T856, L856, k856, n856⟩, -, X856, ⟨Lc856, hQ856, l856, y856, z856⟩, st856⟩ := X853.virtualBack hx (y := (⟨"java/lang/String", "charAt", "(I)C"⟩ : MethodName)) (z := (⟨"java/lang/String", "charAt", "(I)C"⟩ : MethodName)) hown704 (mvT hZ704 (hw _ (List.mem_of_getElem? (i := 201) rfl))) (mvT hZ704 (hw _ (List.mem_of_getElem? (i := 202) rfl))) (notFace_of_selects (args := #[]) (mvT hZ704 (hw _ (List.mem_of_getElem? (i := 204) rfl)))) (mvT hZ704 (hw _ (List.mem_of_getElem? (i := 204) rfl))) (mvT hZ704 (hw _ (List.mem_of_getElem? (i := 203) rfl))) (by decide) (own_chS (n0 := n0) (W := 0) hZ704 hch (kI := 4) (hw _ (List.mem_of_getElem? (i := 7) rfl)) Sr840 (SC.ext O706.2) PC (SF.ext O706.2) rG3 4 (Nat.le_of_ble_eq_true rfl) (by decide) (by decide) (by decide)) qac857 qcc857 (g := (mkF m 212 #[.val (.int p0), .val (.int p1), .val (.int p2), .val (.int p3), .val (.int p4), .val (.int c0), .val (.int c1), .val (.int c2), .val (.int c3), .val (.int (2 : Int32)), .val (.int (2 : Int32)), .val (.ref sa691), .val (.ref sa697), .val (.ref x704), .val (.ref m704)] [(.int ((2 : Int32) + (2 : Int32))), (.ref m704)])) rfl (by rw [hml]; rfl) (Steps.refl _) (argsL := [(.int ((2 : Int32) + (2 : Int32)))]) (rest := []) (lenOf own_pd368 rfl) rfl (by show 2 * 0 + _ ≤ _; exact Nat.le_of_eq rfl) (hb hby at_212) (fun _ _ => ⟨rfl, e853, (by decide : 20 + 0 ≤ _), (by decide : 2872 + 0 ≤ _)⟩)
    dsimp only [Pt.U, Pt.locs, Pt.cells, Pt.slots] at X856 l856 y856 z856 st856 hQ856
    subst l856 y856 z856
    obtain ⟨rfl, N856, e856⟩ := hQ856
    refine GoOn.trans st856 ?_
    have N858 := Fr.app N855 N856
    show GoOn p e below (T856.setTop (mkF m 215 #[.val (.int p0), .val (.int p1), .val (.int p2), .val (.int p3), .val (.int p4), .val (.int c0), .val (.int c1), .val (.int c2), .val (.int c3), .val (.int (2 : Int32)), .val (.int (2 : Int32)), .val (.ref sa691), .val (.ref sa697), .val (.ref x704), .val (.ref m704)] [(.int c2)])) _
    refine GoOn.step (fun tq kq => XS.iload X856.here hx rfl (hb hby at_215) rfl kq) ?_
    show GoOn p e below (T856.setTop (mkF m 217 #[.val (.int p0), .val (.int p1), .val (.int p2), .val (.int p3), .val (.int p4), .val (.int c0), .val (.int c1), .val (.int c2), .val (.int c3), .val (.int (2 : Int32)), .val (.int (2 : Int32)), .val (.ref sa691), .val (.ref sa697), .val (.ref x704), .val (.ref m704)] [(.int c2), (.int c2)])) _
    refine GoOn.step (fun tq kq => XS.icmpYes X856.here hx rfl (pc0 := 217) (pc' := 222) rfl (hb hby at_217) rfl (teq rfl).1 (by decide) (by decide) kq) ?_
    show GoOn p e below (T856.setTop (mkF m 222 #[.val (.int p0), .val (.int p1), .val (.int p2), .val (.int p3), .val (.int p4), .val (.int c0), .val (.int c1), .val (.int c2), .val (.int c3), .val (.int (2 : Int32)), .val (.int (2 : Int32)), .val (.ref sa691), .val (.ref sa697), .val (.ref x704), .val (.ref m704)] [])) _
    refine GoOn.step (fun tq kq => XS.iload X856.here hx rfl (hb hby at_222) rfl kq) ?_
    show GoOn p e below (T856.setTop (mkF m 224 #[.val (.int p0), .val (.int p1), .val (.int p2), .val (.int p3), .val (.int p4), .val (.int c0), .val (.int c1), .val (.int c2), .val (.int c3), .val (.int (2 : Int32)), .val (.int (2 : Int32)), .val (.ref sa691), .val (.ref sa697), .val (.ref x704), .val (.ref m704)] [(.int (2 : Int32))])) _
    refine GoOn.step (fun tq kq => XS.iconst X856.here hx rfl (hb hby at_224) kq) ?_
    show GoOn p e below (T856.setTop (mkF m 225 #[.val (.int p0), .val (.int p1), .val (.int p2), .val (.int p3), .val (.int p4), .val (.int c0), .val (.int c1), .val (.int c2), .val (.int c3), .val (.int (2 : Int32)), .val (.int (2 : Int32)), .val (.ref sa691), .val (.ref sa697), .val (.ref x704), .val (.ref m704)] [(.int (2 : Int32)), (.int (2 : Int32))])) _
    refine GoOn.step (fun tq kq => XS.icmpNo X856.here hx rfl (hb hby at_225) rfl (flt (by decide)).1 kq) ?_
    show GoOn p e below (T856.setTop (mkF m 228 #[.val (.int p0), .val (.int p1), .val (.int p2), .val (.int p3), .val (.int p4), .val (.int c0), .val (.int c1), .val (.int c2), .val (.int c3), .val (.int (2 : Int32)), .val (.int (2 : Int32)), .val (.ref sa691), .val (.ref sa697), .val (.ref x704), .val (.ref m704)] [])) _
    refine GoOn.step (fun tq kq => XS.aload X856.here hx rfl (hb hby at_228) rfl rfl kq) ?_
    show GoOn p e below (T856.setTop (mkF m 230 #[.val (.int p0), .val (.int p1), .val (.int p2), .val (.int p3), .val (.int p4), .val (.int c0), .val (.int c1), .val (.int c2), .val (.int c3), .val (.int (2 : Int32)), .val (.int (2 : Int32)), .val (.ref sa691), .val (.ref sa697), .val (.ref x704), .val (.ref m704)] [(.ref m704)])) _
    refine GoOn.step (fun tq kq => XS.iload X856.here hx rfl (hb hby at_230) rfl kq) ?_
    show GoOn p e below (T856.setTop (mkF m 232 #[.val (.int p0), .val (.int p1), .val (.int p2), .val (.int p3), .val (.int p4), .val (.int c0), .val (.int c1), .val (.int c2), .val (.int c3), .val (.int (2 : Int32)), .val (.int (2 : Int32)), .val (.ref sa691), .val (.ref sa697), .val (.ref x704), .val (.ref m704)] [(.int (2 : Int32)), (.ref m704)])) _
    refine GoOn.step (fun tq kq => XS.iconst X856.here hx rfl (hb hby at_232) kq) ?_
    show GoOn p e below (T856.setTop (mkF m 233 #[.val (.int p0), .val (.int p1), .val (.int p2), .val (.int p3), .val (.int p4), .val (.int c0), .val (.int c1), .val (.int c2), .val (.int c3), .val (.int (2 : Int32)), .val (.int (2 : Int32)), .val (.ref sa691), .val (.ref sa697), .val (.ref x704), .val (.ref m704)] [(.int (3 : Int32)), (.int (2 : Int32)), (.ref m704)])) _
    refine GoOn.step (fun tq kq => XS.iadd X856.here hx rfl (hb hby at_233) rfl kq) ?_
    show GoOn p e below (T856.setTop (mkF m 234 #[.val (.int p0), .val (.int p1), .val (.int p2), .val (.int p3), .val (.int p4), .val (.int c0), .val (.int c1), .val (.int c2), .val (.int c3), .val (.int (2 : Int32)), .val (.int (2 : Int32)), .val (.ref sa691), .val (.ref sa697), .val (.ref x704), .val (.ref m704)] [(.int ((2 : Int32) + (3 : Int32))), (.ref m704)])) _
    obtain ⟨cqc860, kqc860, qac860, qbc860, qcc860⟩ := isOf hZ704 e856 Sr840.1
    obtain ⟨_, _, ⟨T859, L859, k859, n859⟩, -, X859, ⟨Lc859, hQ859, l859, y859, z859⟩, st859⟩ := X856.virtualBack hx (y := (⟨"java/lang/String", "charAt", "(I)C"⟩ : MethodName)) (z := (⟨"java/lang/String", "charAt", "(I)C"⟩ : MethodName)) hown704 (mvT hZ704 (hw _ (List.mem_of_getElem? (i := 201) rfl))) (mvT hZ704 (hw _ (List.mem_of_getElem? (i := 202) rfl))) (notFace_of_selects (args := #[]) (mvT hZ704 (hw _ (List.mem_of_getElem? (i := 204) rfl)))) (mvT hZ704 (hw _ (List.mem_of_getElem? (i := 204) rfl))) (mvT hZ704 (hw _ (List.mem_of_getElem? (i := 203) rfl))) (by decide) (own_chS (n0 := n0) (W := 0) hZ704 hch (kI := 4) (hw _ (List.mem_of_getElem? (i := 7) rfl)) Sr840 (SC.ext O706.2) PC (SF.ext O706.2) rG3 5 (Nat.le_of_ble_eq_true rfl) (by decide) (by decide) (by decide)) qac860 qcc860 (g := (mkF m 234 #[.val (.int p0), .val (.int p1), .val (.int p2), .val (.int p3), .val (.int p4), .val (.int c0), .val (.int c1), .val (.int c2), .val (.int c3), .val (.int (2 : Int32)), .val (.int (2 : Int32)), .val (.ref sa691), .val (.ref sa697), .val (.ref x704), .val (.ref m704)] [(.int ((2 : Int32) + (3 : Int32))), (.ref m704)])) rfl (by rw [hml]; rfl) (Steps.refl _) (argsL := [(.int ((2 : Int32) + (3 : Int32)))]) (rest := []) (lenOf own_pd368 rfl) rfl (by show 2 * 0 + _ ≤ _; exact Nat.le_of_eq rfl) (hb hby at_234) (fun _ _ => ⟨rfl, e856, (by decide : 20 + 0 ≤ _), (by decide : 2872 + 0 ≤ _)⟩)
    dsimp only [Pt.U, Pt.locs, Pt.cells, Pt.slots] at X859 l859 y859 z859 st859 hQ859
    subst l859 y859 z859
    obtain ⟨rfl, N859, e859⟩ := hQ859
    refine GoOn.trans st859 ?_
    have N861 := Fr.app N858 N859
    show GoOn p e below (T859.setTop (mkF m 237 #[.val (.int p0), .val (.int p1), .val (.int p2), .val (.int p3), .val (.int p4), .val (.int c0), .val (.int c1), .val (.int c2), .val (.int c3), .val (.int (2 : Int32)), .val (.int (2 : Int32)), .val (.ref sa691), .val (.ref sa697), .val (.ref x704), .val (.ref m704)] [(.int c3)])) _
    refine GoOn.step (fun tq kq => XS.iload X859.here hx rfl (hb hby at_237) rfl kq) ?_
    show GoOn p e below (T859.setTop (mkF m 239 #[.val (.int p0), .val (.int p1), .val (.int p2), .val (.int p3), .val (.int p4), .val (.int c0), .val (.int c1), .val (.int c2), .val (.int c3), .val (.int (2 : Int32)), .val (.int (2 : Int32)), .val (.ref sa691), .val (.ref sa697), .val (.ref x704), .val (.ref m704)] [(.int c3), (.int c3)])) _
    refine GoOn.step (fun tq kq => XS.icmpYes X859.here hx rfl (pc0 := 239) (pc' := 244) rfl (hb hby at_239) rfl (teq rfl).1 (by decide) (by decide) kq) ?_
    show GoOn p e below (T859.setTop (mkF m 244 #[.val (.int p0), .val (.int p1), .val (.int p2), .val (.int p3), .val (.int p4), .val (.int c0), .val (.int c1), .val (.int c2), .val (.int c3), .val (.int (2 : Int32)), .val (.int (2 : Int32)), .val (.ref sa691), .val (.ref sa697), .val (.ref x704), .val (.ref m704)] [])) _
    refine GoOn.step (fun tq kq => XS.iconst X859.here hx rfl (hb hby at_244) kq) ?_
    show GoOn p e below (T859.setTop (mkF m 245 #[.val (.int p0), .val (.int p1), .val (.int p2), .val (.int p3), .val (.int p4), .val (.int c0), .val (.int c1), .val (.int c2), .val (.int c3), .val (.int (2 : Int32)), .val (.int (2 : Int32)), .val (.ref sa691), .val (.ref sa697), .val (.ref x704), .val (.ref m704)] [(.int (1 : Int32))])) _
    refine GoOn.retH X859 hZ704 hSn704 (hk704) hEL hh e859 C709 Bd.notSynchronized (v := some (.int (nar .boolean (1 : Int32)))) (fun h => by rw [Bd.returns] at h; cases h) (fun fs hr => retN X859 hx (t := .boolean) Bd.returns (by simp) (hb hby at_245) hr) (by decide) (by decide) ?_
    exact ⟨rfl, N861⟩
set_option maxRecDepth 65536 in
set_option maxHeartbeats 40000000 in
theorem comes_1 {Post : Tables → Env → Array Value → State → Outcome → State → Prop} (hpost : ∀ tb e args s v u, (limb_1_1.after args s (.returned v) u = true ∧ limb_1_2.after args s (.returned v) u = true ∧ True) → ReturnedEndW s (.returned v) u (Jvm.fieldLocs frame_1_writes args s ++ Jvm.arrayLocs frame_1_arrays args s ++ Jvm.staticLocs frame_1_statics s) 40 7744 → Post tb e args s (.returned v) u) :
    ArmFor flags0 classFile x code maxLocals ret World_1 tables_1 room_1 Calls_1 rest_1 Pre_1 Post := by
  intro l hfl _ _ p e ha hc hk s m args below hf hA hF happ hP
  obtain ⟨hcalls, hrest, hpre⟩ := hP
  obtain ⟨-, -, -, hnamed, -, -, -, hat⟩ := (Spec.applies_iff hf).mp happ
  obtain ⟨hg, hn⟩ := and_e (Cond.before_iff.mp (show (Jvm.Cond.and given_1 narrow_1).before args s = true from hpre))
  obtain ⟨hcount, hg0⟩ := and_e hg
  obtain ⟨ha0, hg1⟩ := and_e hg0
  obtain ⟨ha1, hg2⟩ := and_e hg1
  obtain ⟨ha2, hg3⟩ := and_e hg2
  obtain ⟨ha3, hg4⟩ := and_e hg3
  obtain ⟨w0, w1, w2, w3, w4, rfl⟩ : ∃ w0 w1 w2 w3 w4 : Value, args = #[w0, w1, w2, w3, w4] := by
    have hs : args.size = 5 := by simpa [Cond.value, given_1] using hcount
    obtain ⟨L⟩ := args
    match L, hs with
    | [w0, w1, w2, w3, w4], _ => exact ⟨w0, w1, w2, w3, w4, rfl⟩
  have hw := fun d (hd : d ∈ tables_1) => atoms_spec (ws := Jvm.Cond.code x code maxLocals ret :: tables_1) hat d (List.mem_cons_of_mem _ hd)
  have hfit : Fit s := fun {y c} hc i hi => by
    obtain ⟨ha, rfl⟩ := Array.getElem?_eq_some_iff.mp hc
    have q := List.all_eq_true.mp ((Array.all_eq_true_iff_forall_mem.mp hF) _ (Array.getElem_mem ha)) i (List.mem_range.mpr hi)
    simpa [Array.getElem?_eq_getElem hi] using q
  obtain ⟨hsets, hown0⟩ := atoms_of _ (rest_1_c_eq ▸ (show rest_1_c.before _ s = true from hrest))
  have hr0 := Cond.before_iff.mp hown0
  obtain ⟨i0, ei0⟩ := is_v ha0
  obtain rfl : w0 = (.int i0) := Option.some.inj ei0
  obtain ⟨i1, ei1⟩ := is_v ha1
  obtain rfl : w1 = (.int i1) := Option.some.inj ei1
  obtain ⟨i2, ei2⟩ := is_v ha2
  obtain rfl : w2 = (.int i2) := Option.some.inj ei2
  obtain ⟨i3, ei3⟩ := is_v ha3
  obtain rfl : w3 = (.int i3) := Option.some.inj ei3
  obtain ⟨i4, ei4⟩ := is_v hg4
  obtain rfl : w4 = (.int i4) := Option.some.inj ei4
  have n5 := not_v (Cond.before_iff.mp (hsets _ (List.mem_of_getElem? (i := 2) rfl)))
  obtain ⟨ic, ec⟩ := is_v (Cond.before_iff.mp (hsets _ (List.mem_of_getElem? (i := 1) rfl)))
  have SC : Sta s s.heap "java/lang/String" "COMPACT_STRINGS" "Z" (.int ic) := Sta.start ec (Or.inl (hsets _ (List.mem_of_getElem? (i := 0) rfl)))
  have PC : ¬ (ic = (0 : Int32)) := gotF (Cond.eq_ints ec (Term.int_eval (0))) n5
  obtain ⟨v3, e3, r3⟩ := isR_v (Cond.before_iff.mp (hsets _ (List.mem_of_getElem? (i := 8) rfl)))
  have SF : Sta s s.heap "jdk/internal/util/Preconditions" "SIOOBE_FORMATTER" "Ljava/util/function/BiFunction;" v3 := Sta.start e3 (Or.inl (hsets _ (List.mem_of_getElem? (i := 7) rfl)))
  have hST : l.stackTraces = true := by rw [Launch.stackTraces, hfl]; decide +kernel
  have TR := two_refs hfit (hw _ (List.mem_of_getElem? (i := 180) rfl)) (hw _ (List.mem_of_getElem? (i := 181) rfl))
  obtain ⟨v4, e4, r4⟩ := isR_v (Cond.before_iff.mp (TR _ (List.mem_of_getElem? (i := 0) rfl)))
  obtain ⟨v5, e5, r5⟩ := isR_v (Cond.before_iff.mp (TR _ (List.mem_of_getElem? (i := 1) rfl)))
  have SU : Sta s s.heap "java/lang/Throwable" "UNASSIGNED_STACK" "[Ljava/lang/StackTraceElement;" v4 := Sta.start e4 (Or.inr ⟨(hw _ (List.mem_of_getElem? (i := 149) rfl)), (hw _ (List.mem_of_getElem? (i := 180) rfl))⟩)
  have SS : Sta s s.heap "java/lang/Throwable" "SUPPRESSED_SENTINEL" "Ljava/util/List;" v5 := Sta.start e5 (Or.inr ⟨(hw _ (List.mem_of_getElem? (i := 149) rfl)), (hw _ (List.mem_of_getElem? (i := 181) rfl))⟩)
  have hKK : s.vm.MethodsKnown ∧ s.vm.FramesKnown below := ⟨MethodsKnown_of_tablesKnown hcalls.2.1, FramesKnown_of_framesKnown hcalls.1 hf⟩
  obtain ⟨n, o, h1, h2, h3, _, L, rfl, ⟨rfl, N⟩, hC, hq⟩ := rm0 l s _ hw tables_1 i0 i1 i2 i3 i4 ic v4 v5 v3 s.heap s.heap.size (Nat.le_refl _) SC PC hST SU r4 SS r5 SF r3 (Old.start s) p e ha hc hk s m _ below hf ((Spec.applies_iff_loose hf).mp happ).1 ⟨rfl, State.Warmed39.refl s, rfl, (CHv.start (own_EW hw) hcalls.2.2.1 (hsets _ (List.mem_of_getElem? (i := 2) rfl)) (hw _ (List.mem_of_getElem? (i := 8) rfl)) (hw _ (List.mem_of_getElem? (i := 7) rfl)))⟩ hKK
  refine ⟨n, _, h1, h2, h3, hpost _ _ _ _ _ _ ⟨Cond.after_iff.mpr rfl, Cond.after_iff.mpr (eq_i res_at (Term.int_eval (1)) rfl), trivial⟩ ⟨hq.1, hq.2.1, hq.2.2.1, (hq.2.2.2.sift fun y hy => Or.inr (N y hy)).mono (by decide) (by decide)⟩⟩
theorem main_1_1 : Claimed_1_1 := comes_1 fun _ _ _ _ _ _ h hF => ⟨h.1, hF⟩
theorem main_1_2 : Claimed_1_2 := comes_1 fun _ _ _ _ _ _ h hF => ⟨h.2.1, hF⟩
end Jvm.Pilot.@@N@@
namespace Jvm.Pilot.@@N@@
open Jvm Jvm.ClassFile Sem Op Lib Jvm.Free Jvm.Stand Jvm.Pilot.@@N@@.Jvm.D
/-! MADE BY PROGRAM (witnessworld.py) out of the Statement's table words and the real class files: 41 classes; the members and pool entries that the words name. The judged class is class 1, her method 2. -/
namespace start1
open Jvm.ClassFile
def u (s : String) : CpInfo := .utf8 (stringToUtf16 s)
/-- a pool by its gaps: so many unusable entries, then the entry; so many at the end -/
def gap : Nat → List CpInfo → List CpInfo
  | 0, r => r
  | n + 1, r => .unusable :: gap n r
def poolList (es : List (Nat × CpInfo)) (last : Nat) : List CpInfo := es.foldr (fun e r => gap e.1 (e.2 :: r)) (gap last [])
def pool (es : List (Nat × CpInfo)) (last : Nat) : Array CpInfo := ⟨poolList es last⟩
def fileOf (pool : Array CpInfo) (this : Nat) (attrs : Array Attribute := #[]) (ms : Array MethodInfo := #[]) (fl : Nat := 33) (sup : Nat := 0) (ifs : Array Nat := #[]) (fds : Array FieldInfo := #[]) : ClassFile where
  minorVersion := 0
  majorVersion := 65
  constantPool := pool
  accessFlags := fl
  thisClass := this
  superClass := sup
  interfaces := ifs
  fields := fds
  methods := ms
  attributes := attrs
def plain (name : String) (sup : Option ClassId) : Class where
  name := name
  kind := .ordinary
  loader := none
  accessFlags := 33
  super := sup
  interfaces := #[]
  cf := none
  fields := #[]
  methods := #[]
  instanceTypes := #[]
  staticTypes := #[]
  resolved := #[]
  callSites := []
  init := .initialized
  statics := none
  mirror := none

def pool0 : Array CpInfo := pool [(5, u "<init>"), (0, u "()V"), (1, .class_ 10), (1, u "java/lang/Object")] 113

def k0c0 : Code := { maxStack := 0, maxLocals := 1, code := object_method_1_code, exceptionTable := #[], attributes := #[] }
def k0m0 : Method := { name := "<init>", desc := "()V", sig := { parameters := [], returnType := none }, accessFlags := 1, code := some k0c0 }
/-- java/lang/Object -/
def k0 : Class := { plain "java/lang/Object" none with
  accessFlags := 33
  interfaces := #[]
  cf := some (fileOf pool0 8 #[] #[{ accessFlags := 1, nameIndex := 5, descriptorIndex := 6, attributes := #[] }] 33 0 #[] #[])
  fields := #[]
  methods := #[k0m0]
  instanceTypes := #[]
  staticTypes := #[]
  resolved := Array.replicate 124 none
  statics := none }

def pool1 : Array CpInfo := pool [(2, .class_ 4), (1, u "java/lang/Object"), (0, u "<init>"), (0, u "()V"), (0, .string 8), (0, u ""), (0, .methodref 10 11), (0, .class_ 12), (0, .nameAndType 13 14), (0, u "java/lang/String"), (0, u "valueOf"), (0, u "(C)Ljava/lang/String;"), (0, .methodref 10 16), (0, .nameAndType 5 17), (0, u "([C)V"), (0, .integer 2147483647), (0, .methodref 20 21), (0, .class_ 22), (0, .nameAndType 23 24), (0, u "com/example/faktorwerk/faktorwerk/model/InputRefusedExceptionInFilePinLaw"), (0, u "mk"), (0, u "(ICC)Ljava/lang/String;"), (0, .methodref 26 27), (0, .class_ 28), (0, .nameAndType 29 30), (0, u "com/example/faktorwerk/faktorwerk/model/InputRefusedException"), (0, u "inFile"), (0, u "(Ljava/lang/String;Ljava/lang/String;)Lcom/example/faktorwerk/faktorwerk/model/InputRefusedException;"), (0, .methodref 26 32), (0, .nameAndType 33 34), (0, u "getCause"), (0, u "()Ljava/lang/Throwable;"), (0, .methodref 26 36), (0, .nameAndType 37 38), (0, u "getMessage"), (0, u "()Ljava/lang/String;"), (0, .methodref 10 40), (0, .nameAndType 41 42), (0, u "length"), (0, u "()I"), (0, .methodref 10 44), (0, .nameAndType 45 46), (0, u "charAt"), (0, u "(I)C"), (3, u "law"), (0, u "(IIIII)Z")] 2

def k1m0 : Method := { name := "<init>", desc := "()V", sig := { parameters := [], returnType := none }, accessFlags := 1, code := none }
def k1c1 : Code := { maxStack := 6, maxLocals := 3, code := method_2_code, exceptionTable := #[], attributes := #[] }
def k1m1 : Method := { name := "mk", desc := "(ICC)Ljava/lang/String;", sig := { parameters := [.int, .char, .char], returnType := some (.object "java/lang/String") }, accessFlags := 10, code := some k1c1 }
def k1c2 : Code := { maxStack := 3, maxLocals := 15, code := code, exceptionTable := #[], attributes := #[] }
def k1m2 : Method := { name := "law", desc := "(IIIII)Z", sig := { parameters := [.int, .int, .int, .int, .int], returnType := some .boolean }, accessFlags := 9, code := some k1c2 }
/-- com/example/faktorwerk/faktorwerk/model/InputRefusedExceptionInFilePinLaw -/
def k1 : Class := { plain "com/example/faktorwerk/faktorwerk/model/InputRefusedExceptionInFilePinLaw" (some 0) with
  accessFlags := 49
  interfaces := #[]
  cf := some (fileOf pool1 20 #[] #[{ accessFlags := 1, nameIndex := 5, descriptorIndex := 6, attributes := #[] }, { accessFlags := 10, nameIndex := 23, descriptorIndex := 24, attributes := #[] }, { accessFlags := 9, nameIndex := 50, descriptorIndex := 51, attributes := #[] }] 49 2 #[] #[])
  fields := #[]
  methods := #[k1m0, k1m1, k1m2]
  instanceTypes := #[]
  staticTypes := #[]
  resolved := Array.replicate 54 none
  statics := none }

def pool2 : Array CpInfo := pool [(1, .class_ 2), (0, u "java/io/Serializable"), (0, .class_ 4), (0, u "java/lang/Object")] 2

/-- java/io/Serializable -/
def k2 : Class := { plain "java/io/Serializable" (some 0) with
  accessFlags := 1537
  interfaces := #[]
  cf := some (fileOf pool2 1 #[] #[] 1537 3 #[] #[])
  fields := #[]
  methods := #[]
  instanceTypes := #[]
  staticTypes := #[]
  resolved := Array.replicate 7 none
  statics := none }

def pool3 : Array CpInfo := pool [(1, .class_ 2), (0, u "java/lang/Comparable"), (0, .class_ 4), (0, u "java/lang/Object")] 7

/-- java/lang/Comparable -/
def k3 : Class := { plain "java/lang/Comparable" (some 0) with
  accessFlags := 1537
  interfaces := #[]
  cf := some (fileOf pool3 1 #[] #[] 1537 3 #[] #[])
  fields := #[]
  methods := #[]
  instanceTypes := #[]
  staticTypes := #[]
  resolved := Array.replicate 12 none
  statics := none }

def pool4 : Array CpInfo := pool [(2, .class_ 4), (1, u "java/lang/CharSequence"), (42, .class_ 48), (0, u "java/lang/CharSequence$1CodePointIterator"), (10, .class_ 60), (0, u "java/lang/CharSequence$1CharIterator"), (5, .class_ 67), (0, u "java/lang/Object")] 63

/-- java/lang/CharSequence -/
def k4 : Class := { plain "java/lang/CharSequence" (some 0) with
  accessFlags := 1537
  interfaces := #[]
  cf := some (fileOf pool4 2 #[.nestMembers #[47, 59]] #[] 1537 66 #[] #[])
  fields := #[]
  methods := #[]
  instanceTypes := #[]
  staticTypes := #[]
  resolved := Array.replicate 131 none
  statics := none }

def pool5 : Array CpInfo := pool [(1, .class_ 2), (0, u "java/lang/constant/Constable"), (0, .class_ 4), (0, u "java/lang/Object")] 6

/-- java/lang/constant/Constable -/
def k5 : Class := { plain "java/lang/constant/Constable" (some 0) with
  accessFlags := 1537
  interfaces := #[]
  cf := some (fileOf pool5 1 #[] #[] 1537 3 #[] #[])
  fields := #[]
  methods := #[]
  instanceTypes := #[]
  staticTypes := #[]
  resolved := Array.replicate 11 none
  statics := none }

def pool6 : Array CpInfo := pool [(1, .class_ 2), (0, u "java/lang/constant/ConstantDesc"), (0, .class_ 4), (0, u "java/lang/Object")] 32

/-- java/lang/constant/ConstantDesc -/
def k6 : Class := { plain "java/lang/constant/ConstantDesc" (some 0) with
  accessFlags := 1537
  interfaces := #[]
  cf := some (fileOf pool6 1 #[] #[] 1537 3 #[] #[])
  fields := #[]
  methods := #[]
  instanceTypes := #[]
  staticTypes := #[]
  resolved := Array.replicate 37 none
  statics := none }

def pool7 : Array CpInfo := pool [(1, .methodref 2 3), (0, .class_ 4), (0, .nameAndType 5 6), (0, u "java/lang/Object"), (0, u "<init>"), (0, u "()V"), (2, .fieldref 10 11), (0, .class_ 12), (0, .nameAndType 13 14), (0, u "java/lang/String"), (0, u "value"), (0, u "[B"), (0, .fieldref 10 16), (0, .nameAndType 17 18), (0, u "coder"), (0, u "B"), (2, u "hash"), (0, u "I"), (2, u "hashIsZero"), (0, u "Z"), (0, .methodref 10 28), (0, .nameAndType 5 29), (0, u "([CIILjava/lang/Void;)V"), (8, .fieldref 10 39), (0, .nameAndType 40 26), (0, u "COMPACT_STRINGS"), (1, .class_ 44), (1, u "java/lang/StringUTF16"), (0, u "compress"), (1, .methodref 42 48), (0, .nameAndType 49 50), (0, u "coderFromArrayLen"), (0, u "([BI)B"), (2, u "toBytes"), (0, .methodref 55 56), (0, .class_ 57), (0, .nameAndType 58 59), (0, u "java/util/Arrays"), (0, u "copyOfRange"), (0, u "([BII)[B"), (47, .class_ 109), (1, u "java/lang/StringLatin1"), (32, u "()Z"), (34, .methodref 42 178), (0, .nameAndType 45 179), (0, u "([CII)[B"), (13, .class_ 195), (1, u "java/lang/System"), (13, .methodref 10 210), (0, .nameAndType 5 211), (0, u "([BB)V"), (0, .methodref 193 213), (0, .nameAndType 214 215), (0, u "arraycopy"), (0, u "(Ljava/lang/Object;ILjava/lang/Object;II)V"), (118, u "()I"), (0, .methodref 10 336), (0, .nameAndType 17 337), (0, u "()B"), (2, u "()[B"), (22, u "([BI)C"), (5, u "(C)Z"), (21, u "(II)V"), (35, u "(I)C"), (61, .methodref 10 490), (0, .nameAndType 5 491), (0, u "(Ljava/lang/AbstractStringBuilder;Ljava/lang/Void;)V"), (0, .methodref 10 493), (0, .nameAndType 494 142), (0, u "isLatin1"), (0, .methodref 107 496), (0, .nameAndType 497 363), (0, u "charAt"), (3, u "checkIndex"), (4, .nameAndType 507 334), (0, u "length"), (24, u "getBytes"), (16, .methodref 550 506), (0, .class_ 551), (0, u "java/lang/AbstractStringBuilder"), (0, .methodref 550 553), (0, .nameAndType 554 340), (0, u "getValue"), (20, .class_ 576), (0, u "java/lang/CharSequence"), (22, u "CASE_INSENSITIVE_ORDER"), (0, u "Ljava/util/Comparator;"), (181, u "valueOf"), (0, u "(C)Ljava/lang/String;"), (37, u "([BIB)V"), (188, u "([C)V"), (4, .methodref 107 1016), (0, .nameAndType 1017 369), (0, u "canEncode"), (0, .methodref 107 1019), (0, .nameAndType 53 1020), (0, u "(C)[B"), (26, .methodref 550 493), (5, .fieldref 1054 1055), (0, .class_ 1056), (0, .nameAndType 1057 1058), (0, u "jdk/internal/util/Preconditions"), (0, u "SIOOBE_FORMATTER"), (0, u "Ljava/util/function/BiFunction;"), (0, .methodref 1054 1060), (0, .nameAndType 501 1061), (0, u "(IILjava/util/function/BiFunction;)I"), (39, u "serialPersistentFields"), (0, u "[Ljava/io/ObjectStreamField;"), (0, .class_ 1104), (0, u "java/lang/String$CaseInsensitiveComparator"), (1, .class_ 1107), (0, u "java/io/Serializable"), (0, .class_ 1109), (0, u "java/lang/Comparable"), (0, .class_ 1111), (0, u "java/lang/constant/Constable"), (0, .class_ 1113), (0, u "java/lang/constant/ConstantDesc"), (2, u "serialVersionUID"), (0, u "J"), (3, u "REPL"), (0, u "C"), (2, u "LATIN1"), (1, u "UTF16"), (105, u "(Ljava/lang/StringBuilder;)V")] 217

def k7m0 : Method := { name := "<init>", desc := "()V", sig := { parameters := [], returnType := none }, accessFlags := 1, code := none }
def k7c1 : Code := { maxStack := 5, maxLocals := 2, code := jdk_42_method_3_code, exceptionTable := #[], attributes := #[] }
def k7m1 : Method := { name := "<init>", desc := "([C)V", sig := { parameters := [(.array .char)], returnType := none }, accessFlags := 1, code := some k7c1 }
def k7c2 : Code := { maxStack := 3, maxLocals := 2, code := jdk_42_method_53_code, exceptionTable := #[], attributes := #[] }
def k7m2 : Method := { name := "<init>", desc := "(Ljava/lang/StringBuilder;)V", sig := { parameters := [(.object "java/lang/StringBuilder")], returnType := none }, accessFlags := 1, code := some k7c2 }
def k7c3 : Code := { maxStack := 2, maxLocals := 1, code := jdk_42_method_54_code, exceptionTable := #[], attributes := #[] }
def k7m3 : Method := { name := "length", desc := "()I", sig := { parameters := [], returnType := some .int }, accessFlags := 1, code := some k7c3 }
def k7c4 : Code := { maxStack := 2, maxLocals := 2, code := jdk_42_method_56_code, exceptionTable := #[], attributes := #[] }
def k7m4 : Method := { name := "charAt", desc := "(I)C", sig := { parameters := [.int], returnType := some .char }, accessFlags := 1, code := some k7c4 }
def k7c5 : Code := { maxStack := 4, maxLocals := 1, code := jdk_42_method_139_code, exceptionTable := #[], attributes := #[] }
def k7m5 : Method := { name := "valueOf", desc := "(C)Ljava/lang/String;", sig := { parameters := [.char], returnType := some (.object "java/lang/String") }, accessFlags := 9, code := some k7c5 }
def k7c6 : Code := { maxStack := 5, maxLocals := 4, code := jdk_42_method_147_code, exceptionTable := #[], attributes := #[] }
def k7m6 : Method := { name := "getBytes", desc := "([BIB)V", sig := { parameters := [(.array .byte), .int, .byte], returnType := none }, accessFlags := 0, code := some k7c6 }
def k7c7 : Code := { maxStack := 4, maxLocals := 6, code := jdk_42_method_149_code, exceptionTable := #[], attributes := #[] }
def k7m7 : Method := { name := "<init>", desc := "([CIILjava/lang/Void;)V", sig := { parameters := [(.array .char), .int, .int, (.object "java/lang/Void")], returnType := none }, accessFlags := 2, code := some k7c7 }
def k7c8 : Code := { maxStack := 5, maxLocals := 5, code := jdk_42_method_150_code, exceptionTable := #[], attributes := #[] }
def k7m8 : Method := { name := "<init>", desc := "(Ljava/lang/AbstractStringBuilder;Ljava/lang/Void;)V", sig := { parameters := [(.object "java/lang/AbstractStringBuilder"), (.object "java/lang/Void")], returnType := none }, accessFlags := 0, code := some k7c8 }
def k7c9 : Code := { maxStack := 2, maxLocals := 3, code := jdk_42_method_151_code, exceptionTable := #[], attributes := #[] }
def k7m9 : Method := { name := "<init>", desc := "([BB)V", sig := { parameters := [(.array .byte), .byte], returnType := none }, accessFlags := 0, code := some k7c9 }
def k7c10 : Code := { maxStack := 1, maxLocals := 1, code := jdk_42_method_152_code, exceptionTable := #[], attributes := #[] }
def k7m10 : Method := { name := "coder", desc := "()B", sig := { parameters := [], returnType := some .byte }, accessFlags := 0, code := some k7c10 }
def k7c11 : Code := { maxStack := 1, maxLocals := 1, code := jdk_42_method_154_code, exceptionTable := #[], attributes := #[] }
def k7m11 : Method := { name := "isLatin1", desc := "()Z", sig := { parameters := [], returnType := some .boolean }, accessFlags := 0, code := some k7c11 }
def k7c12 : Code := { maxStack := 3, maxLocals := 2, code := jdk_42_method_155_code, exceptionTable := #[], attributes := #[] }
def k7m12 : Method := { name := "checkIndex", desc := "(II)V", sig := { parameters := [.int, .int], returnType := none }, accessFlags := 8, code := some k7c12 }
/-- java/lang/String -/
def k7 : Class := { plain "java/lang/String" (some 0) with
  accessFlags := 49
  interfaces := #[2, 3, 4, 5, 6]
  cf := some (fileOf pool7 10 #[.nestMembers #[1103]] #[{ accessFlags := 1, nameIndex := 5, descriptorIndex := 6, attributes := #[] }, { accessFlags := 1, nameIndex := 5, descriptorIndex := 1010, attributes := #[] }, { accessFlags := 1, nameIndex := 5, descriptorIndex := 1233, attributes := #[] }, { accessFlags := 1, nameIndex := 507, descriptorIndex := 334, attributes := #[] }, { accessFlags := 1, nameIndex := 497, descriptorIndex := 427, attributes := #[] }, { accessFlags := 9, nameIndex := 782, descriptorIndex := 783, attributes := #[] }, { accessFlags := 0, nameIndex := 532, descriptorIndex := 821, attributes := #[] }, { accessFlags := 2, nameIndex := 5, descriptorIndex := 29, attributes := #[] }, { accessFlags := 0, nameIndex := 5, descriptorIndex := 491, attributes := #[] }, { accessFlags := 0, nameIndex := 5, descriptorIndex := 211, attributes := #[] }, { accessFlags := 0, nameIndex := 17, descriptorIndex := 337, attributes := #[] }, { accessFlags := 0, nameIndex := 494, descriptorIndex := 142, attributes := #[] }, { accessFlags := 8, nameIndex := 501, descriptorIndex := 391, attributes := #[] }] 49 2 #[1106, 1108, 575, 1110, 1112] #[{ accessFlags := 18, nameIndex := 13, descriptorIndex := 14, attributes := #[] }, { accessFlags := 18, nameIndex := 17, descriptorIndex := 18, attributes := #[] }, { accessFlags := 2, nameIndex := 21, descriptorIndex := 22, attributes := #[] }, { accessFlags := 2, nameIndex := 25, descriptorIndex := 26, attributes := #[] }, { accessFlags := 26, nameIndex := 1116, descriptorIndex := 1117, attributes := #[] }, { accessFlags := 24, nameIndex := 40, descriptorIndex := 26, attributes := #[] }, { accessFlags := 26, nameIndex := 1101, descriptorIndex := 1102, attributes := #[] }, { accessFlags := 26, nameIndex := 1121, descriptorIndex := 1122, attributes := #[] }, { accessFlags := 25, nameIndex := 599, descriptorIndex := 600, attributes := #[] }, { accessFlags := 24, nameIndex := 1125, descriptorIndex := 18, attributes := #[] }, { accessFlags := 24, nameIndex := 1127, descriptorIndex := 18, attributes := #[] }])
  fields := #[{ name := "value", type := (.array .byte), accessFlags := 18, slot := 0, constantValue := 0 }, { name := "coder", type := .byte, accessFlags := 18, slot := 1, constantValue := 0 }, { name := "hash", type := .int, accessFlags := 2, slot := 2, constantValue := 0 }, { name := "hashIsZero", type := .boolean, accessFlags := 2, slot := 3, constantValue := 0 }, { name := "serialVersionUID", type := .long, accessFlags := 26, slot := 0, constantValue := 0 }, { name := "COMPACT_STRINGS", type := .boolean, accessFlags := 24, slot := 1, constantValue := 0 }, { name := "serialPersistentFields", type := (.array (.object "java/io/ObjectStreamField")), accessFlags := 26, slot := 2, constantValue := 0 }, { name := "REPL", type := .char, accessFlags := 26, slot := 3, constantValue := 0 }, { name := "CASE_INSENSITIVE_ORDER", type := (.object "java/util/Comparator"), accessFlags := 25, slot := 4, constantValue := 0 }, { name := "LATIN1", type := .byte, accessFlags := 24, slot := 5, constantValue := 0 }, { name := "UTF16", type := .byte, accessFlags := 24, slot := 6, constantValue := 0 }]
  methods := #[k7m0, k7m1, k7m2, k7m3, k7m4, k7m5, k7m6, k7m7, k7m8, k7m9, k7m10, k7m11, k7m12]
  instanceTypes := #[(.array .byte), .byte, .int, .boolean]
  staticTypes := #[.long, .boolean, (.array (.object "java/io/ObjectStreamField")), .char, (.object "java/util/Comparator"), .byte, .byte]
  resolved := Array.replicate 1451 none
  statics := some 0 }

def pool8 : Array CpInfo := pool [(1, .methodref 2 3), (0, .class_ 4), (0, .nameAndType 5 6), (0, u "java/lang/Object"), (0, u "<init>"), (0, u "()V"), (0, .fieldref 8 9), (0, .class_ 10), (0, .nameAndType 11 12), (0, u "java/lang/Throwable"), (0, u "cause"), (0, u "Ljava/lang/Throwable;"), (0, .fieldref 8 14), (0, .nameAndType 15 16), (0, u "UNASSIGNED_STACK"), (0, u "[Ljava/lang/StackTraceElement;"), (0, .fieldref 8 18), (0, .nameAndType 19 16), (0, u "stackTrace"), (0, .fieldref 8 21), (0, .nameAndType 22 23), (0, u "SUPPRESSED_SENTINEL"), (0, u "Ljava/util/List;"), (0, .fieldref 8 25), (0, .nameAndType 26 23), (0, u "suppressedExceptions"), (0, .methodref 8 28), (0, .nameAndType 29 30), (0, u "fillInStackTrace"), (0, u "()Ljava/lang/Throwable;"), (0, .fieldref 8 32), (0, .nameAndType 33 34), (0, u "detailMessage"), (0, u "Ljava/lang/String;"), (3, u "()Ljava/lang/String;"), (2, u "getMessage"), (51, .class_ 94), (0, u "java/lang/Throwable$WrappedPrintStream"), (6, .class_ 103), (1, u "java/lang/Throwable$PrintStreamOrWriter"), (54, u "getCause"), (6, u "$assertionsDisabled"), (0, u "Z"), (26, .class_ 194), (0, u "java/lang/Throwable$WrappedPrintWriter"), (3, .fieldref 8 199), (0, .nameAndType 200 201), (0, u "backtrace"), (0, u "Ljava/lang/Object;"), (0, .methodref 8 203), (0, .nameAndType 29 204), (0, u "(I)Ljava/lang/Throwable;"), (6, u "depth"), (0, u "I"), (10, u "(Ljava/lang/String;)V"), (45, .class_ 271), (1, u "java/lang/Throwable$SentinelHolder"), (32, u "EMPTY_THROWABLE_ARRAY"), (0, u "[Ljava/lang/Throwable;"), (12, .class_ 319), (0, u "java/io/Serializable"), (0, u "serialVersionUID"), (0, u "J"), (5, u "NULL_CAUSE_MESSAGE"), (0, u "SELF_SUPPRESSION_MESSAGE"), (0, u "CAUSE_CAPTION"), (0, u "SUPPRESSED_CAPTION")] 73

def k8c0 : Code := { maxStack := 2, maxLocals := 1, code := jdk_78_method_1_code, exceptionTable := #[], attributes := #[] }
def k8m0 : Method := { name := "<init>", desc := "()V", sig := { parameters := [], returnType := none }, accessFlags := 1, code := some k8c0 }
def k8c1 : Code := { maxStack := 2, maxLocals := 2, code := jdk_78_method_2_code, exceptionTable := #[], attributes := #[] }
def k8m1 : Method := { name := "<init>", desc := "(Ljava/lang/String;)V", sig := { parameters := [(.object "java/lang/String")], returnType := none }, accessFlags := 1, code := some k8c1 }
def k8c2 : Code := { maxStack := 1, maxLocals := 1, code := jdk_78_method_6_code, exceptionTable := #[], attributes := #[] }
def k8m2 : Method := { name := "getMessage", desc := "()Ljava/lang/String;", sig := { parameters := [], returnType := some (.object "java/lang/String") }, accessFlags := 1, code := some k8c2 }
def k8c3 : Code := { maxStack := 2, maxLocals := 1, code := jdk_78_method_8_code, exceptionTable := #[], attributes := #[] }
def k8m3 : Method := { name := "getCause", desc := "()Ljava/lang/Throwable;", sig := { parameters := [], returnType := some (.object "java/lang/Throwable") }, accessFlags := 33, code := some k8c3 }
def k8c4 : Code := { maxStack := 2, maxLocals := 1, code := jdk_78_method_18_code, exceptionTable := #[], attributes := #[] }
def k8m4 : Method := { name := "fillInStackTrace", desc := "()Ljava/lang/Throwable;", sig := { parameters := [], returnType := some (.object "java/lang/Throwable") }, accessFlags := 33, code := some k8c4 }
def k8m5 : Method := { name := "fillInStackTrace", desc := "(I)Ljava/lang/Throwable;", sig := { parameters := [.int], returnType := some (.object "java/lang/Throwable") }, accessFlags := 258, code := none }
/-- java/lang/Throwable -/
def k8 : Class := { plain "java/lang/Throwable" (some 0) with
  accessFlags := 33
  interfaces := #[2]
  cf := some (fileOf pool8 8 #[.nestMembers #[193, 93, 101, 269]] #[{ accessFlags := 1, nameIndex := 5, descriptorIndex := 6, attributes := #[] }, { accessFlags := 1, nameIndex := 5, descriptorIndex := 223, attributes := #[] }, { accessFlags := 1, nameIndex := 41, descriptorIndex := 38, attributes := #[] }, { accessFlags := 33, nameIndex := 158, descriptorIndex := 30, attributes := #[] }, { accessFlags := 33, nameIndex := 29, descriptorIndex := 30, attributes := #[] }, { accessFlags := 258, nameIndex := 29, descriptorIndex := 204, attributes := #[] }] 33 2 #[318] #[{ accessFlags := 26, nameIndex := 320, descriptorIndex := 321, attributes := #[] }, { accessFlags := 130, nameIndex := 200, descriptorIndex := 201, attributes := #[] }, { accessFlags := 2, nameIndex := 33, descriptorIndex := 34, attributes := #[] }, { accessFlags := 26, nameIndex := 15, descriptorIndex := 16, attributes := #[] }, { accessFlags := 2, nameIndex := 11, descriptorIndex := 12, attributes := #[] }, { accessFlags := 2, nameIndex := 19, descriptorIndex := 16, attributes := #[] }, { accessFlags := 130, nameIndex := 211, descriptorIndex := 212, attributes := #[] }, { accessFlags := 26, nameIndex := 22, descriptorIndex := 23, attributes := #[] }, { accessFlags := 2, nameIndex := 26, descriptorIndex := 23, attributes := #[] }, { accessFlags := 26, nameIndex := 327, descriptorIndex := 34, attributes := #[] }, { accessFlags := 26, nameIndex := 328, descriptorIndex := 34, attributes := #[] }, { accessFlags := 26, nameIndex := 329, descriptorIndex := 34, attributes := #[] }, { accessFlags := 26, nameIndex := 330, descriptorIndex := 34, attributes := #[] }, { accessFlags := 26, nameIndex := 304, descriptorIndex := 305, attributes := #[] }, { accessFlags := 4120, nameIndex := 165, descriptorIndex := 166, attributes := #[] }])
  fields := #[{ name := "serialVersionUID", type := .long, accessFlags := 26, slot := 0, constantValue := 0 }, { name := "backtrace", type := (.object "java/lang/Object"), accessFlags := 130, slot := 0, constantValue := 0 }, { name := "detailMessage", type := (.object "java/lang/String"), accessFlags := 2, slot := 1, constantValue := 0 }, { name := "UNASSIGNED_STACK", type := (.array (.object "java/lang/StackTraceElement")), accessFlags := 26, slot := 1, constantValue := 0 }, { name := "cause", type := (.object "java/lang/Throwable"), accessFlags := 2, slot := 2, constantValue := 0 }, { name := "stackTrace", type := (.array (.object "java/lang/StackTraceElement")), accessFlags := 2, slot := 3, constantValue := 0 }, { name := "depth", type := .int, accessFlags := 130, slot := 4, constantValue := 0 }, { name := "SUPPRESSED_SENTINEL", type := (.object "java/util/List"), accessFlags := 26, slot := 2, constantValue := 0 }, { name := "suppressedExceptions", type := (.object "java/util/List"), accessFlags := 2, slot := 5, constantValue := 0 }, { name := "NULL_CAUSE_MESSAGE", type := (.object "java/lang/String"), accessFlags := 26, slot := 3, constantValue := 0 }, { name := "SELF_SUPPRESSION_MESSAGE", type := (.object "java/lang/String"), accessFlags := 26, slot := 4, constantValue := 0 }, { name := "CAUSE_CAPTION", type := (.object "java/lang/String"), accessFlags := 26, slot := 5, constantValue := 0 }, { name := "SUPPRESSED_CAPTION", type := (.object "java/lang/String"), accessFlags := 26, slot := 6, constantValue := 0 }, { name := "EMPTY_THROWABLE_ARRAY", type := (.array (.object "java/lang/Throwable")), accessFlags := 26, slot := 7, constantValue := 0 }, { name := "$assertionsDisabled", type := .boolean, accessFlags := 4120, slot := 8, constantValue := 0 }]
  methods := #[k8m0, k8m1, k8m2, k8m3, k8m4, k8m5]
  instanceTypes := #[(.object "java/lang/Object"), (.object "java/lang/String"), (.object "java/lang/Throwable"), (.array (.object "java/lang/StackTraceElement")), .int, (.object "java/util/List")]
  staticTypes := #[.long, (.array (.object "java/lang/StackTraceElement")), (.object "java/util/List"), (.object "java/lang/String"), (.object "java/lang/String"), (.object "java/lang/String"), (.object "java/lang/String"), (.array (.object "java/lang/Throwable")), .boolean]
  resolved := Array.replicate 404 none
  statics := some 1 }

def pool9 : Array CpInfo := pool [(2, .class_ 4), (1, u "java/lang/Throwable"), (0, u "<init>"), (0, u "()V"), (0, .methodref 2 8), (0, .nameAndType 5 9), (0, u "(Ljava/lang/String;)V"), (9, .class_ 20), (0, u "java/lang/Exception"), (0, u "serialVersionUID"), (0, u "J")] 17

def k9m0 : Method := { name := "<init>", desc := "()V", sig := { parameters := [], returnType := none }, accessFlags := 1, code := none }
def k9c1 : Code := { maxStack := 2, maxLocals := 2, code := jdk_59_method_2_code, exceptionTable := #[], attributes := #[] }
def k9m1 : Method := { name := "<init>", desc := "(Ljava/lang/String;)V", sig := { parameters := [(.object "java/lang/String")], returnType := none }, accessFlags := 1, code := some k9c1 }
/-- java/lang/Exception -/
def k9 : Class := { plain "java/lang/Exception" (some 8) with
  accessFlags := 33
  interfaces := #[]
  cf := some (fileOf pool9 19 #[] #[{ accessFlags := 1, nameIndex := 5, descriptorIndex := 6, attributes := #[] }, { accessFlags := 1, nameIndex := 5, descriptorIndex := 9, attributes := #[] }] 33 2 #[] #[{ accessFlags := 24, nameIndex := 21, descriptorIndex := 22, attributes := #[] }])
  fields := #[{ name := "serialVersionUID", type := .long, accessFlags := 24, slot := 0, constantValue := 0 }]
  methods := #[k9m0, k9m1]
  instanceTypes := #[(.object "java/lang/Object"), (.object "java/lang/String"), (.object "java/lang/Throwable"), (.array (.object "java/lang/StackTraceElement")), .int, (.object "java/util/List")]
  staticTypes := #[.long]
  resolved := Array.replicate 40 none
  statics := none }

def pool10 : Array CpInfo := pool [(1, .methodref 2 3), (0, .class_ 4), (0, .nameAndType 5 6), (0, u "java/lang/Exception"), (0, u "<init>"), (0, u "(Ljava/lang/String;)V"), (3, .class_ 11), (0, u "com/example/faktorwerk/faktorwerk/model/InputRefusedException"), (0, .class_ 13), (0, u "java/lang/StringBuilder"), (0, .methodref 12 15), (0, .nameAndType 5 16), (0, u "()V"), (0, .methodref 12 18), (0, .nameAndType 19 20), (0, u "append"), (0, u "(Ljava/lang/String;)Ljava/lang/StringBuilder;"), (5, .string 27), (0, u ": "), (0, .methodref 12 29), (0, .nameAndType 30 31), (0, u "toString"), (0, u "()Ljava/lang/String;"), (0, .methodref 10 3), (0, u "serialVersionUID"), (0, u "J"), (7, u "inFile"), (0, u "(Ljava/lang/String;Ljava/lang/String;)Lcom/example/faktorwerk/faktorwerk/model/InputRefusedException;")] 2

def k10c0 : Code := { maxStack := 2, maxLocals := 2, code := prog_52_method_1_code, exceptionTable := #[], attributes := #[] }
def k10m0 : Method := { name := "<init>", desc := "(Ljava/lang/String;)V", sig := { parameters := [(.object "java/lang/String")], returnType := none }, accessFlags := 1, code := some k10c0 }
def k10c1 : Code := { maxStack := 4, maxLocals := 2, code := prog_52_method_4_code, exceptionTable := #[], attributes := #[] }
def k10m1 : Method := { name := "inFile", desc := "(Ljava/lang/String;Ljava/lang/String;)Lcom/example/faktorwerk/faktorwerk/model/InputRefusedException;", sig := { parameters := [(.object "java/lang/String"), (.object "java/lang/String")], returnType := some (.object "com/example/faktorwerk/faktorwerk/model/InputRefusedException") }, accessFlags := 9, code := some k10c1 }
/-- com/example/faktorwerk/faktorwerk/model/InputRefusedException -/
def k10 : Class := { plain "com/example/faktorwerk/faktorwerk/model/InputRefusedException" (some 9) with
  accessFlags := 33
  interfaces := #[]
  cf := some (fileOf pool10 10 #[] #[{ accessFlags := 1, nameIndex := 5, descriptorIndex := 6, attributes := #[] }, { accessFlags := 9, nameIndex := 42, descriptorIndex := 43, attributes := #[] }] 33 2 #[] #[{ accessFlags := 26, nameIndex := 33, descriptorIndex := 34, attributes := #[] }])
  fields := #[{ name := "serialVersionUID", type := .long, accessFlags := 26, slot := 0, constantValue := 0 }]
  methods := #[k10m0, k10m1]
  instanceTypes := #[(.object "java/lang/Object"), (.object "java/lang/String"), (.object "java/lang/Throwable"), (.array (.object "java/lang/StackTraceElement")), .int, (.object "java/util/List")]
  staticTypes := #[.long]
  resolved := Array.replicate 46 none
  statics := none }

def pool11 : Array CpInfo := pool [(1, .class_ 2), (0, u "java/lang/Appendable"), (0, .class_ 4), (0, u "java/lang/Object")] 9

/-- java/lang/Appendable -/
def k11 : Class := { plain "java/lang/Appendable" (some 0) with
  accessFlags := 1537
  interfaces := #[]
  cf := some (fileOf pool11 1 #[] #[] 1537 3 #[] #[])
  fields := #[]
  methods := #[]
  instanceTypes := #[]
  staticTypes := #[]
  resolved := Array.replicate 14 none
  statics := none }

def pool12 : Array CpInfo := pool [(1, .class_ 2), (0, u "java/lang/String"), (0, .methodref 4 5), (0, .class_ 6), (0, .nameAndType 7 8), (0, u "java/lang/Object"), (0, u "<init>"), (0, u "()V"), (1, .class_ 12), (1, u "java/lang/AbstractStringBuilder"), (0, u "EMPTYVALUE"), (0, u "[B"), (0, .fieldref 10 16), (0, .nameAndType 17 14), (0, u "value"), (0, .fieldref 1 19), (0, .nameAndType 20 21), (0, u "COMPACT_STRINGS"), (0, u "Z"), (0, .fieldref 10 23), (0, .nameAndType 24 25), (0, u "coder"), (0, u "B"), (6, .methodref 1 33), (0, .nameAndType 34 35), (0, u "length"), (0, u "()I"), (4, .methodref 1 41), (0, .nameAndType 24 42), (0, u "()B"), (2, u "append"), (0, u "(Ljava/lang/String;)Ljava/lang/AbstractStringBuilder;"), (1, .class_ 49), (0, u "java/lang/CharSequence"), (19, u "(Ljava/lang/String;)V"), (5, u "maybeLatin1"), (3, .fieldref 10 80), (0, .nameAndType 81 82), (0, u "count"), (0, u "I"), (2, u "isLatin1"), (0, u "()Z"), (13, .methodref 10 101), (0, .nameAndType 102 103), (0, u "ensureCapacityInternal"), (0, u "(I)V"), (104, .methodref 10 209), (0, .nameAndType 210 211), (0, u "putStringAt"), (0, u "(ILjava/lang/String;)V"), (5, u "inflateIfNeededFor"), (2, .nameAndType 221 222), (0, u "getBytes"), (0, u "([BIB)V"), (174, .methodref 10 398), (0, .nameAndType 217 69), (0, .methodref 1 220), (3, u "()[B"), (40, .class_ 445), (0, u "java/lang/Appendable"), (106, u "getValue")] 56

def k12m0 : Method := { name := "<init>", desc := "()V", sig := { parameters := [], returnType := none }, accessFlags := 0, code := none }
def k12c1 : Code := { maxStack := 2, maxLocals := 2, code := jdk_68_method_2_code, exceptionTable := #[], attributes := #[] }
def k12m1 : Method := { name := "<init>", desc := "(I)V", sig := { parameters := [.int], returnType := none }, accessFlags := 0, code := some k12c1 }
def k12c2 : Code := { maxStack := 1, maxLocals := 1, code := jdk_68_method_6_code, exceptionTable := #[], attributes := #[] }
def k12m2 : Method := { name := "length", desc := "()I", sig := { parameters := [], returnType := some .int }, accessFlags := 1, code := some k12c2 }
def k12c3 : Code := { maxStack := 4, maxLocals := 3, code := jdk_68_method_9_code, exceptionTable := #[], attributes := #[] }
def k12m3 : Method := { name := "ensureCapacityInternal", desc := "(I)V", sig := { parameters := [.int], returnType := none }, accessFlags := 2, code := some k12c3 }
def k12c4 : Code := { maxStack := 3, maxLocals := 3, code := jdk_68_method_22_code, exceptionTable := #[], attributes := #[] }
def k12m4 : Method := { name := "append", desc := "(Ljava/lang/String;)Ljava/lang/AbstractStringBuilder;", sig := { parameters := [(.object "java/lang/String")], returnType := some (.object "java/lang/AbstractStringBuilder") }, accessFlags := 1, code := some k12c4 }
def k12c5 : Code := { maxStack := 1, maxLocals := 1, code := jdk_68_method_64_code, exceptionTable := #[], attributes := #[] }
def k12m5 : Method := { name := "getValue", desc := "()[B", sig := { parameters := [], returnType := some (.array .byte) }, accessFlags := 16, code := some k12c5 }
def k12c6 : Code := { maxStack := 1, maxLocals := 1, code := jdk_68_method_68_code, exceptionTable := #[], attributes := #[] }
def k12m6 : Method := { name := "isLatin1", desc := "()Z", sig := { parameters := [], returnType := some .boolean }, accessFlags := 16, code := some k12c6 }
def k12c7 : Code := { maxStack := 2, maxLocals := 2, code := jdk_68_method_71_code, exceptionTable := #[], attributes := #[] }
def k12m7 : Method := { name := "inflateIfNeededFor", desc := "(Ljava/lang/String;)V", sig := { parameters := [(.object "java/lang/String")], returnType := none }, accessFlags := 2, code := some k12c7 }
def k12c8 : Code := { maxStack := 4, maxLocals := 3, code := jdk_68_method_73_code, exceptionTable := #[], attributes := #[] }
def k12m8 : Method := { name := "putStringAt", desc := "(ILjava/lang/String;)V", sig := { parameters := [.int, (.object "java/lang/String")], returnType := none }, accessFlags := 2, code := some k12c8 }
/-- java/lang/AbstractStringBuilder -/
def k12 : Class := { plain "java/lang/AbstractStringBuilder" (some 0) with
  accessFlags := 1056
  interfaces := #[11, 4]
  cf := some (fileOf pool12 10 #[] #[{ accessFlags := 0, nameIndex := 7, descriptorIndex := 8, attributes := #[] }, { accessFlags := 0, nameIndex := 7, descriptorIndex := 103, attributes := #[] }, { accessFlags := 1, nameIndex := 34, descriptorIndex := 35, attributes := #[] }, { accessFlags := 2, nameIndex := 102, descriptorIndex := 103, attributes := #[] }, { accessFlags := 1, nameIndex := 45, descriptorIndex := 46, attributes := #[] }, { accessFlags := 16, nameIndex := 552, descriptorIndex := 403, attributes := #[] }, { accessFlags := 16, nameIndex := 85, descriptorIndex := 86, attributes := #[] }, { accessFlags := 2, nameIndex := 217, descriptorIndex := 69, attributes := #[] }, { accessFlags := 2, nameIndex := 210, descriptorIndex := 211, attributes := #[] }] 1056 4 #[444, 48] #[{ accessFlags := 0, nameIndex := 17, descriptorIndex := 14, attributes := #[] }, { accessFlags := 0, nameIndex := 24, descriptorIndex := 25, attributes := #[] }, { accessFlags := 0, nameIndex := 75, descriptorIndex := 21, attributes := #[] }, { accessFlags := 0, nameIndex := 81, descriptorIndex := 82, attributes := #[] }, { accessFlags := 26, nameIndex := 13, descriptorIndex := 14, attributes := #[] }])
  fields := #[{ name := "value", type := (.array .byte), accessFlags := 0, slot := 0, constantValue := 0 }, { name := "coder", type := .byte, accessFlags := 0, slot := 1, constantValue := 0 }, { name := "maybeLatin1", type := .boolean, accessFlags := 0, slot := 2, constantValue := 0 }, { name := "count", type := .int, accessFlags := 0, slot := 3, constantValue := 0 }, { name := "EMPTYVALUE", type := (.array .byte), accessFlags := 26, slot := 0, constantValue := 0 }]
  methods := #[k12m0, k12m1, k12m2, k12m3, k12m4, k12m5, k12m6, k12m7, k12m8]
  instanceTypes := #[(.array .byte), .byte, .boolean, .int]
  staticTypes := #[(.array .byte)]
  resolved := Array.replicate 609 none
  statics := none }

def pool13 : Array CpInfo := pool [(1, .methodref 2 3), (0, .class_ 4), (0, .nameAndType 5 6), (0, u "java/lang/AbstractStringBuilder"), (0, u "<init>"), (0, u "(I)V"), (11, .class_ 20), (1, u "java/lang/String"), (3, .class_ 26), (1, u "java/lang/StringBuilder"), (0, u "append"), (0, u "(Ljava/lang/String;)Ljava/lang/StringBuilder;"), (0, .methodref 2 30), (0, .nameAndType 27 31), (0, u "(Ljava/lang/String;)Ljava/lang/AbstractStringBuilder;"), (105, .methodref 18 138), (0, .nameAndType 5 139), (0, u "(Ljava/lang/StringBuilder;)V"), (5, u "()V"), (10, u "()I"), (186, .methodref 2 344), (0, .nameAndType 345 156), (0, u "length"), (3, .class_ 350), (0, u "java/lang/Appendable"), (0, .class_ 352), (0, u "java/io/Serializable"), (0, .class_ 354), (0, u "java/lang/Comparable"), (0, .class_ 356), (0, u "java/lang/CharSequence"), (0, u "serialVersionUID"), (0, u "J"), (40, u "toString"), (0, u "()Ljava/lang/String;")] 21

def k13c0 : Code := { maxStack := 2, maxLocals := 1, code := jdk_67_method_1_code, exceptionTable := #[], attributes := #[] }
def k13m0 : Method := { name := "<init>", desc := "()V", sig := { parameters := [], returnType := none }, accessFlags := 1, code := some k13c0 }
def k13c1 : Code := { maxStack := 2, maxLocals := 2, code := jdk_67_method_7_code, exceptionTable := #[], attributes := #[] }
def k13m1 : Method := { name := "append", desc := "(Ljava/lang/String;)Ljava/lang/StringBuilder;", sig := { parameters := [(.object "java/lang/String")], returnType := some (.object "java/lang/StringBuilder") }, accessFlags := 1, code := some k13c1 }
def k13c2 : Code := { maxStack := 3, maxLocals := 1, code := jdk_67_method_42_code, exceptionTable := #[], attributes := #[] }
def k13m2 : Method := { name := "toString", desc := "()Ljava/lang/String;", sig := { parameters := [], returnType := some (.object "java/lang/String") }, accessFlags := 1, code := some k13c2 }
def k13c3 : Code := { maxStack := 1, maxLocals := 1, code := jdk_67_method_93_code, exceptionTable := #[], attributes := #[] }
def k13m3 : Method := { name := "length", desc := "()I", sig := { parameters := [], returnType := some .int }, accessFlags := 4161, code := some k13c3 }
/-- java/lang/StringBuilder -/
def k13 : Class := { plain "java/lang/StringBuilder" (some 12) with
  accessFlags := 49
  interfaces := #[11, 2, 3, 4]
  cf := some (fileOf pool13 24 #[] #[{ accessFlags := 1, nameIndex := 5, descriptorIndex := 145, attributes := #[] }, { accessFlags := 1, nameIndex := 27, descriptorIndex := 28, attributes := #[] }, { accessFlags := 1, nameIndex := 399, descriptorIndex := 400, attributes := #[] }, { accessFlags := 4161, nameIndex := 345, descriptorIndex := 156, attributes := #[] }] 49 2 #[349, 351, 353, 355] #[{ accessFlags := 24, nameIndex := 357, descriptorIndex := 358, attributes := #[] }])
  fields := #[{ name := "serialVersionUID", type := .long, accessFlags := 24, slot := 0, constantValue := 0 }]
  methods := #[k13m0, k13m1, k13m2, k13m3]
  instanceTypes := #[(.array .byte), .byte, .boolean, .int]
  staticTypes := #[.long]
  resolved := Array.replicate 422 none
  statics := none }

def pool14 : Array CpInfo := pool [(2, .class_ 4), (1, u "java/lang/Object"), (0, u "<init>"), (0, u "()V"), (1, .class_ 10), (1, u "java/lang/System"), (0, u "allowSecurityManager"), (0, u "I"), (16, u "cons"), (0, u "Ljava/io/Console;"), (77, .class_ 110), (1, u "java/lang/System$CallersHolder"), (43, u "initialErrStream"), (0, u "Ljava/io/PrintStream;"), (19, u "security"), (0, u "Ljava/lang/SecurityManager;"), (31, .class_ 209), (0, u "java/lang/System$1"), (7, u "props"), (0, u "Ljava/util/Properties;"), (2, u "lineSeparator"), (0, u "Ljava/lang/String;"), (96, .class_ 321), (1, u "java/lang/System$LoggerFinder"), (5, .class_ 328), (0, u "java/lang/System$Logger"), (67, u "err"), (2, u "out"), (91, u "notSupportedJnuEncoding"), (15, u "in"), (17, u "initialIn"), (0, u "Ljava/io/InputStream;"), (35, u "bootLayer"), (0, u "Ljava/lang/ModuleLayer;"), (99, .class_ 664), (0, u "java/lang/System$2"), (9, u "NEVER"), (2, u "MAYBE"), (49, u "arraycopy"), (0, u "(Ljava/lang/Object;ILjava/lang/Object;II)V"), (72, .class_ 802), (0, u "java/lang/System$Logger$Level")] 31

def k14m0 : Method := { name := "<init>", desc := "()V", sig := { parameters := [], returnType := none }, accessFlags := 2, code := none }
def k14m1 : Method := { name := "arraycopy", desc := "(Ljava/lang/Object;ILjava/lang/Object;II)V", sig := { parameters := [(.object "java/lang/Object"), .int, (.object "java/lang/Object"), .int, .int], returnType := none }, accessFlags := 265, code := none }
/-- java/lang/System -/
def k14 : Class := { plain "java/lang/System" (some 0) with
  accessFlags := 49
  interfaces := #[]
  cf := some (fileOf pool14 8 #[.nestMembers #[319, 327, 801, 108, 663, 208]] #[{ accessFlags := 2, nameIndex := 5, descriptorIndex := 6, attributes := #[] }, { accessFlags := 265, nameIndex := 727, descriptorIndex := 728, attributes := #[] }] 49 2 #[] #[{ accessFlags := 25, nameIndex := 507, descriptorIndex := 526, attributes := #[] }, { accessFlags := 25, nameIndex := 399, descriptorIndex := 155, attributes := #[] }, { accessFlags := 25, nameIndex := 396, descriptorIndex := 155, attributes := #[] }, { accessFlags := 10, nameIndex := 525, descriptorIndex := 526, attributes := #[] }, { accessFlags := 26, nameIndex := 674, descriptorIndex := 12, attributes := #[] }, { accessFlags := 26, nameIndex := 677, descriptorIndex := 12, attributes := #[] }, { accessFlags := 10, nameIndex := 11, descriptorIndex := 12, attributes := #[] }, { accessFlags := 74, nameIndex := 175, descriptorIndex := 176, attributes := #[] }, { accessFlags := 10, nameIndex := 491, descriptorIndex := 222, attributes := #[] }, { accessFlags := 74, nameIndex := 29, descriptorIndex := 30, attributes := #[] }, { accessFlags := 74, nameIndex := 154, descriptorIndex := 155, attributes := #[] }, { accessFlags := 10, nameIndex := 217, descriptorIndex := 218, attributes := #[] }, { accessFlags := 10, nameIndex := 221, descriptorIndex := 222, attributes := #[] }, { accessFlags := 8, nameIndex := 562, descriptorIndex := 563, attributes := #[] }])
  fields := #[{ name := "in", type := (.object "java/io/InputStream"), accessFlags := 25, slot := 0, constantValue := 0 }, { name := "out", type := (.object "java/io/PrintStream"), accessFlags := 25, slot := 1, constantValue := 0 }, { name := "err", type := (.object "java/io/PrintStream"), accessFlags := 25, slot := 2, constantValue := 0 }, { name := "initialIn", type := (.object "java/io/InputStream"), accessFlags := 10, slot := 3, constantValue := 0 }, { name := "NEVER", type := .int, accessFlags := 26, slot := 4, constantValue := 0 }, { name := "MAYBE", type := .int, accessFlags := 26, slot := 5, constantValue := 0 }, { name := "allowSecurityManager", type := .int, accessFlags := 10, slot := 6, constantValue := 0 }, { name := "security", type := (.object "java/lang/SecurityManager"), accessFlags := 74, slot := 7, constantValue := 0 }, { name := "notSupportedJnuEncoding", type := (.object "java/lang/String"), accessFlags := 10, slot := 8, constantValue := 0 }, { name := "cons", type := (.object "java/io/Console"), accessFlags := 74, slot := 9, constantValue := 0 }, { name := "initialErrStream", type := (.object "java/io/PrintStream"), accessFlags := 74, slot := 10, constantValue := 0 }, { name := "props", type := (.object "java/util/Properties"), accessFlags := 10, slot := 11, constantValue := 0 }, { name := "lineSeparator", type := (.object "java/lang/String"), accessFlags := 10, slot := 12, constantValue := 0 }, { name := "bootLayer", type := (.object "java/lang/ModuleLayer"), accessFlags := 8, slot := 13, constantValue := 0 }]
  methods := #[k14m0, k14m1]
  instanceTypes := #[]
  staticTypes := #[(.object "java/io/InputStream"), (.object "java/io/PrintStream"), (.object "java/io/PrintStream"), (.object "java/io/InputStream"), .int, .int, .int, (.object "java/lang/SecurityManager"), (.object "java/lang/String"), (.object "java/io/Console"), (.object "java/io/PrintStream"), (.object "java/util/Properties"), (.object "java/lang/String"), (.object "java/lang/ModuleLayer")]
  resolved := Array.replicate 834 none
  statics := none }

def pool15 : Array CpInfo := pool [(2, .class_ 4), (1, u "java/lang/Object"), (0, u "<init>"), (0, u "()V"), (7, .class_ 16), (1, u "java/util/Arrays"), (57, .class_ 76), (1, u "java/util/Arrays$NaturalOrder"), (36, .class_ 115), (1, u "java/util/Arrays$LegacyMergeSort"), (1, u "Z"), (21, u "copyOfRange"), (10, .methodref 151 152), (0, .class_ 153), (0, .nameAndType 154 155), (0, u "java/lang/System"), (0, u "arraycopy"), (0, u "(Ljava/lang/Object;ILjava/lang/Object;II)V"), (148, .methodref 305 306), (0, .class_ 307), (0, .nameAndType 308 309), (0, u "java/lang/Math"), (0, u "min"), (0, u "(II)I"), (29, .methodref 14 340), (0, .nameAndType 341 342), (0, u "copyOfRangeByte"), (0, u "([BII)[B"), (0, .methodref 14 344), (0, .nameAndType 345 346), (0, u "checkLength"), (0, u "(II)V"), (28, .class_ 376), (0, u "java/util/Arrays$ArrayList"), (68, u "$assertionsDisabled"), (269, u "MIN_ARRAY_SORT_GRAN"), (0, u "I"), (2, u "INSERTIONSORT_THRESHOLD"), (255, .class_ 976), (0, u "java/util/Arrays$ArrayItr")] 52

def k15m0 : Method := { name := "<init>", desc := "()V", sig := { parameters := [], returnType := none }, accessFlags := 2, code := none }
def k15c1 : Code := { maxStack := 4, maxLocals := 2, code := jdk_65_method_131_code, exceptionTable := #[], attributes := #[] }
def k15m1 : Method := { name := "checkLength", desc := "(II)V", sig := { parameters := [.int, .int], returnType := none }, accessFlags := 10, code := some k15c1 }
def k15c2 : Code := { maxStack := 3, maxLocals := 3, code := jdk_65_method_132_code, exceptionTable := #[], attributes := #[] }
def k15m2 : Method := { name := "copyOfRange", desc := "([BII)[B", sig := { parameters := [(.array .byte), .int, .int], returnType := some (.array .byte) }, accessFlags := 9, code := some k15c2 }
def k15c3 : Code := { maxStack := 6, maxLocals := 5, code := jdk_65_method_133_code, exceptionTable := #[], attributes := #[] }
def k15m3 : Method := { name := "copyOfRangeByte", desc := "([BII)[B", sig := { parameters := [(.array .byte), .int, .int], returnType := some (.array .byte) }, accessFlags := 10, code := some k15c3 }
/-- java/util/Arrays -/
def k15 : Class := { plain "java/util/Arrays" (some 0) with
  accessFlags := 49
  interfaces := #[]
  cf := some (fileOf pool15 14 #[.nestMembers #[975, 375, 113, 74]] #[{ accessFlags := 2, nameIndex := 5, descriptorIndex := 6, attributes := #[] }, { accessFlags := 10, nameIndex := 345, descriptorIndex := 346, attributes := #[] }, { accessFlags := 9, nameIndex := 139, descriptorIndex := 342, attributes := #[] }, { accessFlags := 10, nameIndex := 341, descriptorIndex := 342, attributes := #[] }] 49 2 #[] #[{ accessFlags := 26, nameIndex := 715, descriptorIndex := 716, attributes := #[] }, { accessFlags := 26, nameIndex := 719, descriptorIndex := 716, attributes := #[] }, { accessFlags := 4120, nameIndex := 445, descriptorIndex := 117, attributes := #[] }])
  fields := #[{ name := "MIN_ARRAY_SORT_GRAN", type := .int, accessFlags := 26, slot := 0, constantValue := 0 }, { name := "INSERTIONSORT_THRESHOLD", type := .int, accessFlags := 26, slot := 1, constantValue := 0 }, { name := "$assertionsDisabled", type := .boolean, accessFlags := 4120, slot := 2, constantValue := 0 }]
  methods := #[k15m0, k15m1, k15m2, k15m3]
  instanceTypes := #[]
  staticTypes := #[.int, .int, .boolean]
  resolved := Array.replicate 1029 none
  statics := none }

def pool16 : Array CpInfo := pool [(1, .class_ 2), (0, u "java/lang/Math"), (1, .class_ 6), (1, u "java/lang/Object"), (0, u "<init>"), (0, u "()V"), (89, .class_ 100), (1, u "java/lang/Math$RandomNumberGeneratorHolder"), (71, u "negativeZeroFloatBits"), (0, u "J"), (2, u "negativeZeroDoubleBits"), (24, u "min"), (43, u "$assertionsDisabled"), (0, u "Z"), (88, u "(II)I"), (2, u "twoToTheDoubleScaleDown"), (0, u "D"), (4, u "twoToTheDoubleScaleUp"), (9, u "E"), (3, u "PI"), (2, u "TAU"), (2, u "DEGREES_TO_RADIANS"), (0, u "RADIANS_TO_DEGREES")] 94

def k16m0 : Method := { name := "<init>", desc := "()V", sig := { parameters := [], returnType := none }, accessFlags := 2, code := none }
def k16c1 : Code := { maxStack := 2, maxLocals := 2, code := jdk_29_method_69_code, exceptionTable := #[], attributes := #[] }
def k16m1 : Method := { name := "min", desc := "(II)I", sig := { parameters := [.int, .int], returnType := some .int }, accessFlags := 9, code := some k16c1 }
/-- java/lang/Math -/
def k16 : Class := { plain "java/lang/Math" (some 0) with
  accessFlags := 49
  interfaces := #[]
  cf := some (fileOf pool16 1 #[.nestMembers #[98]] #[{ accessFlags := 2, nameIndex := 7, descriptorIndex := 8, attributes := #[] }, { accessFlags := 9, nameIndex := 201, descriptorIndex := 335, attributes := #[] }] 49 4 #[] #[{ accessFlags := 25, nameIndex := 354, descriptorIndex := 339, attributes := #[] }, { accessFlags := 25, nameIndex := 358, descriptorIndex := 339, attributes := #[] }, { accessFlags := 25, nameIndex := 361, descriptorIndex := 339, attributes := #[] }, { accessFlags := 26, nameIndex := 364, descriptorIndex := 339, attributes := #[] }, { accessFlags := 26, nameIndex := 365, descriptorIndex := 339, attributes := #[] }, { accessFlags := 26, nameIndex := 172, descriptorIndex := 173, attributes := #[] }, { accessFlags := 26, nameIndex := 176, descriptorIndex := 173, attributes := #[] }, { accessFlags := 8, nameIndex := 344, descriptorIndex := 339, attributes := #[] }, { accessFlags := 8, nameIndex := 338, descriptorIndex := 339, attributes := #[] }, { accessFlags := 4120, nameIndex := 245, descriptorIndex := 246, attributes := #[] }])
  fields := #[{ name := "E", type := .double, accessFlags := 25, slot := 0, constantValue := 0 }, { name := "PI", type := .double, accessFlags := 25, slot := 1, constantValue := 0 }, { name := "TAU", type := .double, accessFlags := 25, slot := 2, constantValue := 0 }, { name := "DEGREES_TO_RADIANS", type := .double, accessFlags := 26, slot := 3, constantValue := 0 }, { name := "RADIANS_TO_DEGREES", type := .double, accessFlags := 26, slot := 4, constantValue := 0 }, { name := "negativeZeroFloatBits", type := .long, accessFlags := 26, slot := 5, constantValue := 0 }, { name := "negativeZeroDoubleBits", type := .long, accessFlags := 26, slot := 6, constantValue := 0 }, { name := "twoToTheDoubleScaleUp", type := .double, accessFlags := 8, slot := 7, constantValue := 0 }, { name := "twoToTheDoubleScaleDown", type := .double, accessFlags := 8, slot := 8, constantValue := 0 }, { name := "$assertionsDisabled", type := .boolean, accessFlags := 4120, slot := 9, constantValue := 0 }]
  methods := #[k16m0, k16m1]
  instanceTypes := #[]
  staticTypes := #[.double, .double, .double, .double, .double, .long, .long, .double, .double, .boolean]
  resolved := Array.replicate 460 none
  statics := none }

def pool17 : Array CpInfo := pool [(1, .class_ 2), (0, u "java/lang/String"), (1, .class_ 6), (1, u "java/lang/Object"), (0, u "<init>"), (0, u "()V"), (0, .methodref 1 10), (0, .nameAndType 11 12), (0, u "checkIndex"), (0, u "(II)V"), (1, .class_ 16), (1, u "java/lang/StringLatin1"), (36, u "([BI)C"), (36, u "canEncode"), (14, u "(C)Z"), (15, u "$assertionsDisabled"), (0, u "Z"), (98, .class_ 223), (1, u "java/lang/StringLatin1$LinesSpliterator"), (28, u "charAt"), (127, u "toBytes"), (1, u "(C)[B"), (7, .class_ 391), (0, u "java/lang/StringLatin1$CharsSpliterator")] 3

def k17m0 : Method := { name := "<init>", desc := "()V", sig := { parameters := [], returnType := none }, accessFlags := 0, code := none }
def k17c1 : Code := { maxStack := 2, maxLocals := 2, code := jdk_43_method_2_code, exceptionTable := #[], attributes := #[] }
def k17m1 : Method := { name := "charAt", desc := "([BI)C", sig := { parameters := [(.array .byte), .int], returnType := some .char }, accessFlags := 9, code := some k17c1 }
def k17c2 : Code := { maxStack := 2, maxLocals := 1, code := jdk_43_method_3_code, exceptionTable := #[], attributes := #[] }
def k17m2 : Method := { name := "canEncode", desc := "(C)Z", sig := { parameters := [.char], returnType := some .boolean }, accessFlags := 9, code := some k17c2 }
def k17c3 : Code := { maxStack := 4, maxLocals := 1, code := jdk_43_method_46_code, exceptionTable := #[], attributes := #[] }
def k17m3 : Method := { name := "toBytes", desc := "(C)[B", sig := { parameters := [.char], returnType := some (.array .byte) }, accessFlags := 9, code := some k17c3 }
/-- java/lang/StringLatin1 -/
def k17 : Class := { plain "java/lang/StringLatin1" (some 0) with
  accessFlags := 48
  interfaces := #[]
  cf := some (fileOf pool17 14 #[.nestMembers #[390, 221]] #[{ accessFlags := 0, nameIndex := 7, descriptorIndex := 8, attributes := #[] }, { accessFlags := 9, nameIndex := 252, descriptorIndex := 53, attributes := #[] }, { accessFlags := 9, nameIndex := 90, descriptorIndex := 105, attributes := #[] }, { accessFlags := 9, nameIndex := 380, descriptorIndex := 382, attributes := #[] }] 48 4 #[] #[{ accessFlags := 4120, nameIndex := 121, descriptorIndex := 122, attributes := #[] }])
  fields := #[{ name := "$assertionsDisabled", type := .boolean, accessFlags := 4120, slot := 0, constantValue := 0 }]
  methods := #[k17m0, k17m1, k17m2, k17m3]
  instanceTypes := #[]
  staticTypes := #[.boolean]
  resolved := Array.replicate 395 none
  statics := none }

def pool18 : Array CpInfo := pool [(2, .class_ 4), (1, u "java/lang/Object"), (0, u "<init>"), (0, u "()V"), (17, .class_ 26), (1, u "jdk/internal/util/Preconditions"), (6, u "checkIndex"), (21, .class_ 56), (0, u "jdk/internal/util/Preconditions$4"), (57, .class_ 115), (0, u "jdk/internal/util/Preconditions$1"), (7, u "SIOOBE_FORMATTER"), (0, u "Ljava/util/function/BiFunction;"), (0, .class_ 126), (0, u "jdk/internal/util/Preconditions$2"), (3, u "AIOOBE_FORMATTER"), (0, .class_ 132), (0, u "jdk/internal/util/Preconditions$3"), (3, u "IOOBE_FORMATTER"), (41, u "(IILjava/util/function/BiFunction;)I")] 15

def k18m0 : Method := { name := "<init>", desc := "()V", sig := { parameters := [], returnType := none }, accessFlags := 1, code := none }
def k18c1 : Code := { maxStack := 3, maxLocals := 3, code := jdk_41_method_11_code, exceptionTable := #[], attributes := #[] }
def k18m1 : Method := { name := "checkIndex", desc := "(IILjava/util/function/BiFunction;)I", sig := { parameters := [.int, .int, (.object "java/util/function/BiFunction")], returnType := some .int }, accessFlags := 9, code := some k18c1 }
/-- jdk/internal/util/Preconditions -/
def k18 : Class := { plain "jdk/internal/util/Preconditions" (some 0) with
  accessFlags := 33
  interfaces := #[]
  cf := some (fileOf pool18 24 #[.nestMembers #[55, 131, 125, 114]] #[{ accessFlags := 1, nameIndex := 5, descriptorIndex := 6, attributes := #[] }, { accessFlags := 9, nameIndex := 33, descriptorIndex := 178, attributes := #[] }] 33 2 #[] #[{ accessFlags := 25, nameIndex := 123, descriptorIndex := 124, attributes := #[] }, { accessFlags := 25, nameIndex := 130, descriptorIndex := 124, attributes := #[] }, { accessFlags := 25, nameIndex := 136, descriptorIndex := 124, attributes := #[] }])
  fields := #[{ name := "SIOOBE_FORMATTER", type := (.object "java/util/function/BiFunction"), accessFlags := 25, slot := 0, constantValue := 0 }, { name := "AIOOBE_FORMATTER", type := (.object "java/util/function/BiFunction"), accessFlags := 25, slot := 1, constantValue := 0 }, { name := "IOOBE_FORMATTER", type := (.object "java/util/function/BiFunction"), accessFlags := 25, slot := 2, constantValue := 0 }]
  methods := #[k18m0, k18m1]
  instanceTypes := #[]
  staticTypes := #[(.object "java/util/function/BiFunction"), (.object "java/util/function/BiFunction"), (.object "java/util/function/BiFunction")]
  resolved := Array.replicate 194 none
  statics := some 2 }

def pool19 : Array CpInfo := pool [(6, .class_ 8), (1, u "java/lang/Object"), (0, u "<init>"), (0, u "()V"), (1, .class_ 14), (1, u "java/lang/StringUTF16"), (31, u "$assertionsDisabled"), (0, u "Z"), (13, u "HI_BYTE_SHIFT"), (0, u "I"), (2, u "LO_BYTE_SHIFT"), (49, .methodref 12 116), (0, .nameAndType 117 118), (0, u "compress"), (0, u "([CI[BII)I"), (3, u "([CII)[B"), (138, u "coderFromArrayLen"), (0, u "([BI)B"), (106, .class_ 371), (1, u "java/lang/StringUTF16$LinesSpliterator"), (58, u "MAX_LENGTH"), (196, .class_ 628), (0, u "java/lang/StringUTF16$CodePointsSpliterator"), (0, .class_ 630), (0, u "java/lang/StringUTF16$CharsSpliterator")] 4

def k19m0 : Method := { name := "<init>", desc := "()V", sig := { parameters := [], returnType := none }, accessFlags := 0, code := none }
def k19c1 : Code := { maxStack := 2, maxLocals := 2, code := jdk_52_method_15_code, exceptionTable := #[], attributes := #[] }
def k19m1 : Method := { name := "coderFromArrayLen", desc := "([BI)B", sig := { parameters := [(.array .byte), .int], returnType := some .byte }, accessFlags := 8, code := some k19c1 }
def k19c2 : Code := { maxStack := 5, maxLocals := 6, code := jdk_52_method_16_code, exceptionTable := #[], attributes := #[] }
def k19m2 : Method := { name := "compress", desc := "([CII)[B", sig := { parameters := [(.array .char), .int, .int], returnType := some (.array .byte) }, accessFlags := 9, code := some k19c2 }
def k19c3 : Code := { maxStack := 3, maxLocals := 7, code := jdk_52_method_21_code, exceptionTable := #[], attributes := #[] }
def k19m3 : Method := { name := "compress", desc := "([CI[BII)I", sig := { parameters := [(.array .char), .int, (.array .byte), .int, .int], returnType := some .int }, accessFlags := 9, code := some k19c3 }
/-- java/lang/StringUTF16 -/
def k19 : Class := { plain "java/lang/StringUTF16" (some 0) with
  accessFlags := 48
  interfaces := #[]
  cf := some (fileOf pool19 12 #[.nestMembers #[627, 629, 369]] #[{ accessFlags := 0, nameIndex := 9, descriptorIndex := 10, attributes := #[] }, { accessFlags := 8, nameIndex := 261, descriptorIndex := 262, attributes := #[] }, { accessFlags := 9, nameIndex := 117, descriptorIndex := 122, attributes := #[] }, { accessFlags := 9, nameIndex := 117, descriptorIndex := 118, attributes := #[] }] 48 6 #[] #[{ accessFlags := 26, nameIndex := 61, descriptorIndex := 62, attributes := #[] }, { accessFlags := 26, nameIndex := 65, descriptorIndex := 62, attributes := #[] }, { accessFlags := 24, nameIndex := 430, descriptorIndex := 62, attributes := #[] }, { accessFlags := 4120, nameIndex := 46, descriptorIndex := 47, attributes := #[] }])
  fields := #[{ name := "HI_BYTE_SHIFT", type := .int, accessFlags := 26, slot := 0, constantValue := 0 }, { name := "LO_BYTE_SHIFT", type := .int, accessFlags := 26, slot := 1, constantValue := 0 }, { name := "MAX_LENGTH", type := .int, accessFlags := 24, slot := 2, constantValue := 0 }, { name := "$assertionsDisabled", type := .boolean, accessFlags := 4120, slot := 3, constantValue := 0 }]
  methods := #[k19m0, k19m1, k19m2, k19m3]
  instanceTypes := #[]
  staticTypes := #[.int, .int, .int, .boolean]
  resolved := Array.replicate 635 none
  statics := none }

def pool20 : Array CpInfo := pool [(9, u "<init>"), (6, .class_ 18), (1, u "java/lang/Object"), (0, u "()V"), (1, .class_ 23), (1, u "jdk/internal/util/ArraysSupport"), (0, u "LOG2_ARRAY_LONG_INDEX_SCALE"), (0, u "I"), (2, u "U"), (0, u "Ljdk/internal/misc/Unsafe;"), (8, u "BIG_ENDIAN"), (0, u "Z"), (8, u "LOG2_BYTE_BIT_SIZE"), (4, u "LOG2_ARRAY_INT_INDEX_SCALE"), (54, u "JLA"), (0, u "Ljdk/internal/access/JavaLangAccess;"), (11, u "LOG2_ARRAY_BOOLEAN_INDEX_SCALE"), (9, u "LOG2_ARRAY_BYTE_INDEX_SCALE"), (5, u "LOG2_ARRAY_CHAR_INDEX_SCALE"), (5, u "LOG2_ARRAY_SHORT_INDEX_SCALE"), (18, u "LOG2_ARRAY_FLOAT_INDEX_SCALE"), (24, u "LOG2_ARRAY_DOUBLE_INDEX_SCALE"), (89, u "T_BOOLEAN"), (2, u "T_CHAR"), (1, u "T_FLOAT"), (1, u "T_DOUBLE"), (1, u "T_BYTE"), (1, u "T_SHORT"), (1, u "T_INT"), (1, u "T_LONG"), (1, u "SOFT_MAX_ARRAY_LENGTH")] 83

def k20m0 : Method := { name := "<init>", desc := "()V", sig := { parameters := [], returnType := none }, accessFlags := 2, code := none }
/-- jdk/internal/util/ArraysSupport -/
def k20 : Class := { plain "jdk/internal/util/ArraysSupport" (some 0) with
  accessFlags := 33
  interfaces := #[]
  cf := some (fileOf pool20 21 #[] #[{ accessFlags := 2, nameIndex := 9, descriptorIndex := 19, attributes := #[] }] 33 16 #[] #[{ accessFlags := 24, nameIndex := 28, descriptorIndex := 29, attributes := #[] }, { accessFlags := 26, nameIndex := 38, descriptorIndex := 39, attributes := #[] }, { accessFlags := 25, nameIndex := 121, descriptorIndex := 25, attributes := #[] }, { accessFlags := 25, nameIndex := 131, descriptorIndex := 25, attributes := #[] }, { accessFlags := 25, nameIndex := 137, descriptorIndex := 25, attributes := #[] }, { accessFlags := 25, nameIndex := 143, descriptorIndex := 25, attributes := #[] }, { accessFlags := 25, nameIndex := 53, descriptorIndex := 25, attributes := #[] }, { accessFlags := 25, nameIndex := 24, descriptorIndex := 25, attributes := #[] }, { accessFlags := 25, nameIndex := 162, descriptorIndex := 25, attributes := #[] }, { accessFlags := 25, nameIndex := 187, descriptorIndex := 25, attributes := #[] }, { accessFlags := 26, nameIndex := 48, descriptorIndex := 25, attributes := #[] }, { accessFlags := 25, nameIndex := 277, descriptorIndex := 25, attributes := #[] }, { accessFlags := 25, nameIndex := 280, descriptorIndex := 25, attributes := #[] }, { accessFlags := 25, nameIndex := 282, descriptorIndex := 25, attributes := #[] }, { accessFlags := 25, nameIndex := 284, descriptorIndex := 25, attributes := #[] }, { accessFlags := 25, nameIndex := 286, descriptorIndex := 25, attributes := #[] }, { accessFlags := 25, nameIndex := 288, descriptorIndex := 25, attributes := #[] }, { accessFlags := 25, nameIndex := 290, descriptorIndex := 25, attributes := #[] }, { accessFlags := 25, nameIndex := 292, descriptorIndex := 25, attributes := #[] }, { accessFlags := 26, nameIndex := 108, descriptorIndex := 109, attributes := #[] }, { accessFlags := 25, nameIndex := 294, descriptorIndex := 25, attributes := #[] }])
  fields := #[{ name := "U", type := (.object "jdk/internal/misc/Unsafe"), accessFlags := 24, slot := 0, constantValue := 0 }, { name := "BIG_ENDIAN", type := .boolean, accessFlags := 26, slot := 1, constantValue := 0 }, { name := "LOG2_ARRAY_BOOLEAN_INDEX_SCALE", type := .int, accessFlags := 25, slot := 2, constantValue := 0 }, { name := "LOG2_ARRAY_BYTE_INDEX_SCALE", type := .int, accessFlags := 25, slot := 3, constantValue := 0 }, { name := "LOG2_ARRAY_CHAR_INDEX_SCALE", type := .int, accessFlags := 25, slot := 4, constantValue := 0 }, { name := "LOG2_ARRAY_SHORT_INDEX_SCALE", type := .int, accessFlags := 25, slot := 5, constantValue := 0 }, { name := "LOG2_ARRAY_INT_INDEX_SCALE", type := .int, accessFlags := 25, slot := 6, constantValue := 0 }, { name := "LOG2_ARRAY_LONG_INDEX_SCALE", type := .int, accessFlags := 25, slot := 7, constantValue := 0 }, { name := "LOG2_ARRAY_FLOAT_INDEX_SCALE", type := .int, accessFlags := 25, slot := 8, constantValue := 0 }, { name := "LOG2_ARRAY_DOUBLE_INDEX_SCALE", type := .int, accessFlags := 25, slot := 9, constantValue := 0 }, { name := "LOG2_BYTE_BIT_SIZE", type := .int, accessFlags := 26, slot := 10, constantValue := 0 }, { name := "T_BOOLEAN", type := .int, accessFlags := 25, slot := 11, constantValue := 0 }, { name := "T_CHAR", type := .int, accessFlags := 25, slot := 12, constantValue := 0 }, { name := "T_FLOAT", type := .int, accessFlags := 25, slot := 13, constantValue := 0 }, { name := "T_DOUBLE", type := .int, accessFlags := 25, slot := 14, constantValue := 0 }, { name := "T_BYTE", type := .int, accessFlags := 25, slot := 15, constantValue := 0 }, { name := "T_SHORT", type := .int, accessFlags := 25, slot := 16, constantValue := 0 }, { name := "T_INT", type := .int, accessFlags := 25, slot := 17, constantValue := 0 }, { name := "T_LONG", type := .int, accessFlags := 25, slot := 18, constantValue := 0 }, { name := "JLA", type := (.object "jdk/internal/access/JavaLangAccess"), accessFlags := 26, slot := 19, constantValue := 0 }, { name := "SOFT_MAX_ARRAY_LENGTH", type := .int, accessFlags := 25, slot := 20, constantValue := 0 }]
  methods := #[k20m0]
  instanceTypes := #[]
  staticTypes := #[(.object "jdk/internal/misc/Unsafe"), .boolean, .int, .int, .int, .int, .int, .int, .int, .int, .int, .int, .int, .int, .int, .int, .int, .int, .int, (.object "jdk/internal/access/JavaLangAccess"), .int]
  resolved := Array.replicate 378 none
  statics := none }

def pool21 : Array CpInfo := pool [(2, .class_ 4), (1, u "java/lang/Object"), (0, u "<init>"), (0, u "()V"), (12, .class_ 20), (0, u "java/util/Collections"), (63, u "r"), (0, u "Ljava/util/Random;"), (80, .class_ 167), (0, u "java/util/Collections$UnmodifiableCollection"), (6, .class_ 175), (0, u "java/util/Collections$UnmodifiableSequencedCollection"), (6, .class_ 183), (0, u "java/util/Collections$UnmodifiableSet"), (6, .class_ 191), (0, u "java/util/Collections$UnmodifiableSequencedSet"), (6, .class_ 199), (0, u "java/util/Collections$UnmodifiableSortedSet"), (6, .class_ 207), (0, u "java/util/Collections$UnmodifiableNavigableSet"), (4, .class_ 213), (0, u "java/util/Collections$UnmodifiableList"), (1, .class_ 216), (0, u "java/util/Collections$UnmodifiableRandomAccessList"), (6, .class_ 224), (0, u "java/util/Collections$UnmodifiableMap"), (6, .class_ 232), (0, u "java/util/Collections$UnmodifiableSequencedMap"), (4, .class_ 238), (0, u "java/util/Collections$UnmodifiableSortedMap"), (6, .class_ 246), (0, u "java/util/Collections$UnmodifiableNavigableMap"), (3, .class_ 251), (0, u "java/util/Collections$SynchronizedCollection"), (4, .class_ 257), (0, u "java/util/Collections$SynchronizedSet"), (4, .class_ 263), (0, u "java/util/Collections$SynchronizedSortedSet"), (1, .class_ 266), (0, u "java/util/Collections$SynchronizedNavigableSet"), (1, .class_ 269), (0, u "java/util/Collections$SynchronizedRandomAccessList"), (1, .class_ 272), (0, u "java/util/Collections$SynchronizedList"), (5, .class_ 279), (0, u "java/util/Collections$SynchronizedMap"), (1, .class_ 282), (0, u "java/util/Collections$SynchronizedSortedMap"), (1, .class_ 285), (0, u "java/util/Collections$SynchronizedNavigableMap"), (1, .class_ 288), (0, u "java/util/Collections$CheckedCollection"), (11, .class_ 301), (0, u "java/util/Collections$CheckedQueue"), (3, .class_ 306), (0, u "java/util/Collections$CheckedSet"), (3, .class_ 311), (0, u "java/util/Collections$CheckedSortedSet"), (3, .class_ 316), (0, u "java/util/Collections$CheckedNavigableSet"), (3, .class_ 321), (0, u "java/util/Collections$CheckedRandomAccessList"), (3, .class_ 326), (0, u "java/util/Collections$CheckedList"), (1, .class_ 329), (0, u "java/util/Collections$CheckedMap"), (3, .class_ 334), (0, u "java/util/Collections$CheckedSortedMap"), (3, .class_ 339), (0, u "java/util/Collections$CheckedNavigableMap"), (4, .class_ 346), (1, u "java/util/Collections$EmptyIterator"), (3, .class_ 352), (1, u "java/util/Collections$EmptyListIterator"), (2, .class_ 357), (1, u "java/util/Collections$EmptyEnumeration"), (4, u "EMPTY_SET"), (0, u "Ljava/util/Set;"), (6, u "EMPTY_LIST"), (0, u "Ljava/util/List;"), (2, u "EMPTY_MAP"), (0, u "Ljava/util/Map;"), (4, .class_ 381), (0, u "java/util/Collections$SingletonSet"), (2, .class_ 385), (0, u "java/util/Collections$1"), (1, .class_ 388), (0, u "java/util/Collections$2"), (1, .class_ 391), (0, u "java/util/Collections$SingletonList"), (1, .class_ 394), (0, u "java/util/Collections$SingletonMap"), (22, .class_ 418), (0, u "java/util/Collections$CopiesList"), (4, .class_ 425), (1, u "java/util/Collections$ReverseComparator"), (8, .class_ 435), (0, u "java/util/Collections$ReverseComparator2"), (6, .class_ 443), (0, u "java/util/Collections$3"), (25, .class_ 470), (0, u "java/util/Collections$SetFromMap"), (2, .class_ 474), (0, u "java/util/Collections$SequencedSetFromMap"), (3, .class_ 479), (0, u "java/util/Collections$AsLIFOQueue"), (11, .class_ 492), (0, u "java/util/Collections$EmptySet"), (1, .class_ 495), (0, u "java/util/Collections$EmptyList"), (1, .class_ 498), (0, u "java/util/Collections$EmptyMap"), (1, u "BINARYSEARCH_THRESHOLD"), (0, u "I"), (2, u "REVERSE_THRESHOLD"), (1, u "SHUFFLE_THRESHOLD"), (1, u "FILL_THRESHOLD"), (1, u "ROTATE_THRESHOLD"), (1, u "COPY_THRESHOLD"), (1, u "REPLACEALL_THRESHOLD"), (1, u "INDEXOFSUBLIST_THRESHOLD"), (333, .class_ 851), (0, u "java/util/Collections$CheckedMap$CheckedEntrySet"), (0, .class_ 853), (0, u "java/util/Collections$CheckedMap$CheckedEntrySet$CheckedEntry"), (0, .class_ 855), (0, u "java/util/Collections$CheckedMap$CheckedEntrySet$1"), (0, .class_ 857), (0, u "java/util/Collections$CheckedList$1"), (0, .class_ 859), (0, u "java/util/Collections$CheckedCollection$1"), (0, .class_ 861), (0, u "java/util/Collections$UnmodifiableNavigableMap$EmptyNavigableMap"), (0, .class_ 863), (0, u "java/util/Collections$UnmodifiableMap$UnmodifiableEntrySet"), (0, .class_ 865), (0, u "java/util/Collections$UnmodifiableMap$UnmodifiableEntrySet$UnmodifiableEntry"), (0, .class_ 867), (0, u "java/util/Collections$UnmodifiableMap$UnmodifiableEntrySet$UnmodifiableEntrySetSpliterator"), (0, .class_ 869), (0, u "java/util/Collections$UnmodifiableMap$UnmodifiableEntrySet$1"), (0, .class_ 871), (0, u "java/util/Collections$UnmodifiableList$1"), (0, .class_ 873), (0, u "java/util/Collections$UnmodifiableNavigableSet$EmptyNavigableSet"), (0, .class_ 875), (0, u "java/util/Collections$UnmodifiableCollection$1")] 57

def k21m0 : Method := { name := "<init>", desc := "()V", sig := { parameters := [], returnType := none }, accessFlags := 2, code := none }
/-- java/util/Collections -/
def k21 : Class := { plain "java/util/Collections" (some 0) with
  accessFlags := 33
  interfaces := #[]
  cf := some (fileOf pool21 19 #[.nestMembers #[478, 473, 469, 434, 423, 417, 393, 390, 380, 497, 494, 491, 355, 350, 344, 338, 333, 328, 850, 852, 854, 320, 325, 856, 315, 310, 305, 300, 287, 858, 284, 281, 278, 268, 271, 265, 262, 256, 250, 245, 860, 237, 231, 223, 862, 864, 866, 868, 215, 212, 870, 206, 872, 198, 190, 182, 174, 166, 874, 442, 387, 384]] #[{ accessFlags := 2, nameIndex := 5, descriptorIndex := 6, attributes := #[] }] 33 2 #[] #[{ accessFlags := 26, nameIndex := 500, descriptorIndex := 501, attributes := #[] }, { accessFlags := 26, nameIndex := 504, descriptorIndex := 501, attributes := #[] }, { accessFlags := 26, nameIndex := 506, descriptorIndex := 501, attributes := #[] }, { accessFlags := 26, nameIndex := 508, descriptorIndex := 501, attributes := #[] }, { accessFlags := 26, nameIndex := 510, descriptorIndex := 501, attributes := #[] }, { accessFlags := 26, nameIndex := 512, descriptorIndex := 501, attributes := #[] }, { accessFlags := 26, nameIndex := 514, descriptorIndex := 501, attributes := #[] }, { accessFlags := 26, nameIndex := 516, descriptorIndex := 501, attributes := #[] }, { accessFlags := 10, nameIndex := 84, descriptorIndex := 85, attributes := #[] }, { accessFlags := 25, nameIndex := 362, descriptorIndex := 363, attributes := #[] }, { accessFlags := 25, nameIndex := 370, descriptorIndex := 371, attributes := #[] }, { accessFlags := 25, nameIndex := 374, descriptorIndex := 375, attributes := #[] }])
  fields := #[{ name := "BINARYSEARCH_THRESHOLD", type := .int, accessFlags := 26, slot := 0, constantValue := 0 }, { name := "REVERSE_THRESHOLD", type := .int, accessFlags := 26, slot := 1, constantValue := 0 }, { name := "SHUFFLE_THRESHOLD", type := .int, accessFlags := 26, slot := 2, constantValue := 0 }, { name := "FILL_THRESHOLD", type := .int, accessFlags := 26, slot := 3, constantValue := 0 }, { name := "ROTATE_THRESHOLD", type := .int, accessFlags := 26, slot := 4, constantValue := 0 }, { name := "COPY_THRESHOLD", type := .int, accessFlags := 26, slot := 5, constantValue := 0 }, { name := "REPLACEALL_THRESHOLD", type := .int, accessFlags := 26, slot := 6, constantValue := 0 }, { name := "INDEXOFSUBLIST_THRESHOLD", type := .int, accessFlags := 26, slot := 7, constantValue := 0 }, { name := "r", type := (.object "java/util/Random"), accessFlags := 10, slot := 8, constantValue := 0 }, { name := "EMPTY_SET", type := (.object "java/util/Set"), accessFlags := 25, slot := 9, constantValue := 0 }, { name := "EMPTY_LIST", type := (.object "java/util/List"), accessFlags := 25, slot := 10, constantValue := 0 }, { name := "EMPTY_MAP", type := (.object "java/util/Map"), accessFlags := 25, slot := 11, constantValue := 0 }]
  methods := #[k21m0]
  instanceTypes := #[]
  staticTypes := #[.int, .int, .int, .int, .int, .int, .int, .int, (.object "java/util/Random"), (.object "java/util/Set"), (.object "java/util/List"), (.object "java/util/Map")]
  resolved := Array.replicate 933 none
  statics := some 3 }

def pool22 : Array CpInfo := pool [(8, .class_ 10), (1, u "java/lang/Iterable"), (24, .class_ 36), (0, u "java/lang/Object")] 25

/-- java/lang/Iterable -/
def k22 : Class := { plain "java/lang/Iterable" (some 0) with
  accessFlags := 1537
  interfaces := #[]
  cf := some (fileOf pool22 8 #[] #[] 1537 35 #[] #[])
  fields := #[]
  methods := #[]
  instanceTypes := #[]
  staticTypes := #[]
  resolved := Array.replicate 62 none
  statics := none }

def pool23 : Array CpInfo := pool [(10, .class_ 12), (1, u "java/util/Collection"), (47, .class_ 61), (0, u "java/lang/Object"), (0, .class_ 63), (0, u "java/lang/Iterable")] 51

/-- java/util/Collection -/
def k23 : Class := { plain "java/util/Collection" (some 0) with
  accessFlags := 1537
  interfaces := #[22]
  cf := some (fileOf pool23 10 #[] #[] 1537 60 #[62] #[])
  fields := #[]
  methods := #[]
  instanceTypes := #[]
  staticTypes := #[]
  resolved := Array.replicate 115 none
  statics := none }

def pool24 : Array CpInfo := pool [(2, .class_ 4), (1, u "java/lang/Object"), (0, u "<init>"), (0, u "()V"), (1, .class_ 10), (1, u "java/util/AbstractCollection"), (66, .class_ 78), (0, u "java/util/Collection")] 81

def k24m0 : Method := { name := "<init>", desc := "()V", sig := { parameters := [], returnType := none }, accessFlags := 4, code := none }
/-- java/util/AbstractCollection -/
def k24 : Class := { plain "java/util/AbstractCollection" (some 0) with
  accessFlags := 1057
  interfaces := #[23]
  cf := some (fileOf pool24 8 #[] #[{ accessFlags := 4, nameIndex := 5, descriptorIndex := 6, attributes := #[] }] 1057 2 #[77] #[])
  fields := #[]
  methods := #[k24m0]
  instanceTypes := #[]
  staticTypes := #[]
  resolved := Array.replicate 160 none
  statics := none }

def pool25 : Array CpInfo := pool [(8, .class_ 10), (1, u "java/util/SequencedCollection"), (15, .class_ 27), (0, u "java/lang/Object"), (0, .class_ 29), (0, u "java/util/Collection")] 27

/-- java/util/SequencedCollection -/
def k25 : Class := { plain "java/util/SequencedCollection" (some 0) with
  accessFlags := 1537
  interfaces := #[23]
  cf := some (fileOf pool25 8 #[] #[] 1537 26 #[28] #[])
  fields := #[]
  methods := #[]
  instanceTypes := #[]
  staticTypes := #[]
  resolved := Array.replicate 57 none
  statics := none }

def pool26 : Array CpInfo := pool [(8, .class_ 10), (1, u "java/util/List"), (92, .class_ 104), (0, u "java/lang/Object"), (15, .class_ 121), (0, u "java/util/SequencedCollection")] 129

/-- java/util/List -/
def k26 : Class := { plain "java/util/List" (some 0) with
  accessFlags := 1537
  interfaces := #[25]
  cf := some (fileOf pool26 8 #[] #[] 1537 103 #[120] #[])
  fields := #[]
  methods := #[]
  instanceTypes := #[]
  staticTypes := #[]
  resolved := Array.replicate 251 none
  statics := none }

def pool27 : Array CpInfo := pool [(2, .class_ 4), (1, u "java/util/AbstractCollection"), (0, u "<init>"), (0, u "()V"), (1, .class_ 10), (1, u "java/util/AbstractList"), (0, u "modCount"), (0, u "I"), (64, .class_ 78), (0, u "java/util/AbstractList$Itr"), (3, .class_ 83), (0, u "java/util/AbstractList$ListItr"), (9, .class_ 94), (0, u "java/util/AbstractList$RandomAccessSubList"), (3, .class_ 99), (0, u "java/util/AbstractList$SubList"), (33, .class_ 134), (0, u "java/util/List"), (73, .class_ 209), (0, u "java/util/AbstractList$SubList$1"), (0, .class_ 211), (0, u "java/util/AbstractList$RandomAccessSpliterator")] 6

def k27m0 : Method := { name := "<init>", desc := "()V", sig := { parameters := [], returnType := none }, accessFlags := 4, code := none }
/-- java/util/AbstractList -/
def k27 : Class := { plain "java/util/AbstractList" (some 24) with
  accessFlags := 1057
  interfaces := #[26]
  cf := some (fileOf pool27 8 #[.nestMembers #[93, 98, 208, 210, 82, 77]] #[{ accessFlags := 4, nameIndex := 5, descriptorIndex := 6, attributes := #[] }] 1057 2 #[133] #[{ accessFlags := 132, nameIndex := 11, descriptorIndex := 12, attributes := #[] }])
  fields := #[{ name := "modCount", type := .int, accessFlags := 132, slot := 0, constantValue := 0 }]
  methods := #[k27m0]
  instanceTypes := #[.int]
  staticTypes := #[]
  resolved := Array.replicate 218 none
  statics := none }

def pool28 : Array CpInfo := pool [(1, .class_ 2), (0, u "java/util/RandomAccess"), (0, .class_ 4), (0, u "java/lang/Object")] 2

/-- java/util/RandomAccess -/
def k28 : Class := { plain "java/util/RandomAccess" (some 0) with
  accessFlags := 1537
  interfaces := #[]
  cf := some (fileOf pool28 1 #[] #[] 1537 3 #[] #[])
  fields := #[]
  methods := #[]
  instanceTypes := #[]
  staticTypes := #[]
  resolved := Array.replicate 7 none
  statics := none }

def pool29 : Array CpInfo := pool [(2, .class_ 4), (1, u "java/util/AbstractList"), (0, u "<init>"), (0, u "()V"), (1, .class_ 10), (1, u "java/util/Collections"), (54, .class_ 66), (0, u "java/util/Collections$EmptyList"), (0, .class_ 68), (0, u "java/util/RandomAccess"), (0, .class_ 70), (0, u "java/io/Serializable"), (0, u "serialVersionUID"), (0, u "J")] 77

def k29m0 : Method := { name := "<init>", desc := "()V", sig := { parameters := [], returnType := none }, accessFlags := 2, code := none }
/-- java/util/Collections$EmptyList -/
def k29 : Class := { plain "java/util/Collections$EmptyList" (some 27) with
  accessFlags := 32
  interfaces := #[28, 2]
  cf := some (fileOf pool29 65 #[.nestHost 8] #[{ accessFlags := 2, nameIndex := 5, descriptorIndex := 6, attributes := #[] }] 32 2 #[67, 69] #[{ accessFlags := 26, nameIndex := 71, descriptorIndex := 72, attributes := #[] }])
  fields := #[{ name := "serialVersionUID", type := .long, accessFlags := 26, slot := 0, constantValue := 0 }]
  methods := #[k29m0]
  instanceTypes := #[.int]
  staticTypes := #[.long]
  resolved := Array.replicate 150 none
  statics := none }

def pool30 : Array CpInfo := pool [(2, .class_ 4), (1, u "java/lang/StackTraceElement"), (0, u "<init>"), (2, .class_ 10), (1, u "java/lang/Object"), (0, u "()V"), (2, u "format"), (0, u "B"), (2, u "classLoaderName"), (0, u "Ljava/lang/String;"), (2, u "moduleName"), (2, u "moduleVersion"), (12, u "declaringClass"), (4, u "methodName"), (2, u "fileName"), (2, u "lineNumber"), (0, u "I"), (65, u "declaringClassObject"), (0, u "Ljava/lang/Class;"), (33, .class_ 153), (1, u "java/lang/StackTraceElement$HashedModules"), (17, .class_ 172), (0, u "java/io/Serializable"), (0, u "NATIVE_METHOD"), (1, u "UNKNOWN_SOURCE"), (2, u "BUILTIN_CLASS_LOADER"), (1, u "JDK_NON_UPGRADEABLE_MODULE"), (1, u "serialVersionUID"), (0, u "J")] 51

def k30m0 : Method := { name := "<init>", desc := "()V", sig := { parameters := [], returnType := none }, accessFlags := 2, code := none }
/-- java/lang/StackTraceElement -/
def k30 : Class := { plain "java/lang/StackTraceElement" (some 0) with
  accessFlags := 49
  interfaces := #[2]
  cf := some (fileOf pool30 2 #[.nestMembers #[151]] #[{ accessFlags := 2, nameIndex := 5, descriptorIndex := 11, attributes := #[] }] 49 8 #[171] #[{ accessFlags := 26, nameIndex := 173, descriptorIndex := 19, attributes := #[] }, { accessFlags := 26, nameIndex := 175, descriptorIndex := 19, attributes := #[] }, { accessFlags := 130, nameIndex := 116, descriptorIndex := 117, attributes := #[] }, { accessFlags := 2, nameIndex := 18, descriptorIndex := 19, attributes := #[] }, { accessFlags := 2, nameIndex := 22, descriptorIndex := 19, attributes := #[] }, { accessFlags := 2, nameIndex := 25, descriptorIndex := 19, attributes := #[] }, { accessFlags := 2, nameIndex := 38, descriptorIndex := 19, attributes := #[] }, { accessFlags := 2, nameIndex := 43, descriptorIndex := 19, attributes := #[] }, { accessFlags := 2, nameIndex := 46, descriptorIndex := 19, attributes := #[] }, { accessFlags := 2, nameIndex := 49, descriptorIndex := 50, attributes := #[] }, { accessFlags := 2, nameIndex := 14, descriptorIndex := 15, attributes := #[] }, { accessFlags := 26, nameIndex := 178, descriptorIndex := 15, attributes := #[] }, { accessFlags := 26, nameIndex := 180, descriptorIndex := 15, attributes := #[] }, { accessFlags := 26, nameIndex := 182, descriptorIndex := 183, attributes := #[] }])
  fields := #[{ name := "NATIVE_METHOD", type := (.object "java/lang/String"), accessFlags := 26, slot := 0, constantValue := 0 }, { name := "UNKNOWN_SOURCE", type := (.object "java/lang/String"), accessFlags := 26, slot := 1, constantValue := 0 }, { name := "declaringClassObject", type := (.object "java/lang/Class"), accessFlags := 130, slot := 0, constantValue := 0 }, { name := "classLoaderName", type := (.object "java/lang/String"), accessFlags := 2, slot := 1, constantValue := 0 }, { name := "moduleName", type := (.object "java/lang/String"), accessFlags := 2, slot := 2, constantValue := 0 }, { name := "moduleVersion", type := (.object "java/lang/String"), accessFlags := 2, slot := 3, constantValue := 0 }, { name := "declaringClass", type := (.object "java/lang/String"), accessFlags := 2, slot := 4, constantValue := 0 }, { name := "methodName", type := (.object "java/lang/String"), accessFlags := 2, slot := 5, constantValue := 0 }, { name := "fileName", type := (.object "java/lang/String"), accessFlags := 2, slot := 6, constantValue := 0 }, { name := "lineNumber", type := .int, accessFlags := 2, slot := 7, constantValue := 0 }, { name := "format", type := .byte, accessFlags := 2, slot := 8, constantValue := 0 }, { name := "BUILTIN_CLASS_LOADER", type := .byte, accessFlags := 26, slot := 2, constantValue := 0 }, { name := "JDK_NON_UPGRADEABLE_MODULE", type := .byte, accessFlags := 26, slot := 3, constantValue := 0 }, { name := "serialVersionUID", type := .long, accessFlags := 26, slot := 4, constantValue := 0 }]
  methods := #[k30m0]
  instanceTypes := #[(.object "java/lang/Class"), (.object "java/lang/String"), (.object "java/lang/String"), (.object "java/lang/String"), (.object "java/lang/String"), (.object "java/lang/String"), (.object "java/lang/String"), .int, .byte]
  staticTypes := #[(.object "java/lang/String"), (.object "java/lang/String"), .byte, .byte, .long]
  resolved := Array.replicate 235 none
  statics := none }

def pool31 : Array CpInfo := pool [(1, u "java/lang/Cloneable"), (0, .class_ 1), (0, u "java/lang/Object"), (0, .class_ 3)] 3

/-- java/lang/Cloneable -/
def k31 : Class := { plain "java/lang/Cloneable" (some 0) with
  accessFlags := 1537
  interfaces := #[]
  cf := some (fileOf pool31 2 #[] #[] 1537 4 #[] #[])
  fields := #[]
  methods := #[]
  instanceTypes := #[]
  staticTypes := #[]
  resolved := Array.replicate 8 none
  statics := none }

/-- the primitive byte -/
def k32 : Class := { plain "byte" none with kind := .primitive 'B', accessFlags := 0x411 }
/-- [B -/
def k33 : Class := { plain "[B" (some 0) with kind := .array 32 .byte, interfaces := #[31, 2], accessFlags := 1041 }

/-- the primitive char -/
def k34 : Class := { plain "char" none with kind := .primitive 'C', accessFlags := 0x411 }
/-- [C -/
def k35 : Class := { plain "[C" (some 0) with kind := .array 34 .char, interfaces := #[31, 2], accessFlags := 1041 }

/-- the primitive int -/
def k36 : Class := { plain "int" none with kind := .primitive 'I', accessFlags := 0x411 }
/-- [I -/
def k37 : Class := { plain "[I" (some 0) with kind := .array 36 .int, interfaces := #[31, 2], accessFlags := 1041 }

/-- [Ljava/lang/Object; -/
def k38 : Class := { plain "[Ljava/lang/Object;" (some 0) with kind := .array 0 (.object "java/lang/Object"), interfaces := #[31, 2], accessFlags := 1041 }

/-- [Ljava/lang/StackTraceElement; -/
def k39 : Class := { plain "[Ljava/lang/StackTraceElement;" (some 0) with kind := .array 30 (.object "java/lang/StackTraceElement"), interfaces := #[31, 2], accessFlags := 1041 }

/-- [Ljava/lang/Throwable; -/
def k40 : Class := { plain "[Ljava/lang/Throwable;" (some 0) with kind := .array 8 (.object "java/lang/Throwable"), interfaces := #[31, 2], accessFlags := 1041 }

def heap : Heap := #[{ cls := 7, slots := #[.long 0, .int 1, .null, .int 0, .null, .int 0, .int 0], vm := .statics 7 },
  { cls := 8, slots := #[.long 0, .ref 4, .ref 5, .null, .null, .null, .null, .ref 6, .int 1], vm := .statics 8 },
  { cls := 18, slots := #[.null, .null, .null], vm := .statics 18 },
  { cls := 21, slots := #[.int 0, .int 0, .int 0, .int 0, .int 0, .int 0, .int 0, .int 0, .null, .null, .ref 5, .null], vm := .statics 21 },
  { cls := 39, slots := #[], vm := .none },
  { cls := 29, slots := #[.int 0], vm := .none },
  { cls := 40, slots := #[], vm := .none }]
def classes : Array Class := #[k0, k1, k2, k3, k4, k5, k6, k7, k8, k9, k10, k11, k12, k13, k14, k15, k16, k17, k18, k19, k20, k21, k22, k23, k24, k25, k26, k27, k28, k29, k30, k31, k32, k33, k34, k35, k36, k37, k38, k39, k40]
def interned : List (Array UInt16 × Addr) := []
def slotsUsed : Nat := 32
def theMethod : MethodId := ⟨1, 2⟩
def args0 : Array Value := #[.int 5, .int 5, .int 5, .int 5, .int 5]
def aboutOver (below : List Frame) : State where
  vm := { classes := classes, interned := interned.toArray }
  heap := heap
  slotsUsed := slotsUsed
  threads := #[{ frames := .invoking theMethod args0 :: below }]
def below0 : List Frame := [.native { method := ⟨0, 0⟩, args := #[] }]
def about1 : State := aboutOver below0
def p0 : Program := .bare "" "" ""
def e0 : Env := launch0.env 0 0 0
theorem w_frames : about1.frames = Frame.invoking theMethod args0 :: below0 := rfl
set_option maxRecDepth 65536 in
theorem w_args : argsFit about1.vm theMethod args0 = true := by decide +kernel
set_option maxRecDepth 65536 in
theorem w_heap : heapFits about1 = true := by decide +kernel
set_option maxRecDepth 65536 in
theorem w_runnable : about1.curStatus? = some .runnable := by decide +kernel
set_option maxRecDepth 65536 in
theorem w_alone : about1.alone = true := by decide +kernel
set_option maxRecDepth 65536 in
theorem w_named : about1.methodNamed? x = some theMethod := by decide +kernel
set_option maxRecDepth 65536 in
theorem w_hears : about1.hears theMethod below0 = true := by decide +kernel
set_option maxRecDepth 65536 in
theorem w_ripe : about1.ripe theMethod args0 below0 = true := by decide +kernel
theorem w_running : about1.status = .running := rfl
set_option maxRecDepth 65536 in
theorem w_room : about1.hasRoom e0.platform room_1 = true :=
  launch0.hasRoom_least _ room_1 (by decide +kernel) (by decide +kernel) (by decide +kernel) (by decide +kernel) (by decide +kernel) (by decide +kernel)
theorem allAtoms_all (ts : List Jvm.Cond) (a : Array Jvm.Value) (st : Jvm.State) : (allAtoms ts).before a st = ts.all (fun c => c.before a st) := by
  induction ts with
  | nil => rfl
  | cons c t ih =>
    show (Jvm.Cond.and c (allAtoms t)).before a st = _
    rw [Jvm.Cond.before_and, ih, List.all_cons]
def words1 : List Jvm.Cond := Jvm.Cond.code x code maxLocals ret :: tables_1
/-- a 'code' word, met by the world's own term for the bytes: nothing is compared byte by byte -/
theorem code_word {y : MethodName} {bytes : ByteArray} {mx : Nat} {rt : Option FieldType} {a : Array Value} {s : State} {m : MethodId} {meth : Method} {c : Code} (h1 : s.methodNamed? y = some m) (h2 : s.vm.method? m = some meth) (h3 : meth.code = some c) (h4 : c.code = bytes)
    (h5 : (c.maxLocals == mx && c.exceptionTable.isEmpty && decide (c.maxStack ≤ mostOperands) && decide (meth.sig.returnType = rt) && !meth.locks && decide (parseMethodDescriptor y.desc = some meth.sig)) = true) : (Jvm.Cond.code y bytes mx rt).before a s = true := by
  simp only [Bool.and_eq_true, beq_iff_eq, Bool.not_eq_true', decide_eq_true_eq] at h5
  obtain ⟨⟨⟨⟨⟨g1, g2⟩, g3⟩, g4⟩, g5⟩, g6⟩ := h5
  simp [Cond.before, Cond.holds, Cond.value, h1, h2, h3, h4, g1, g2, g3, g4, g5, g6]
def isCode : Jvm.Cond → Bool
  | .code _ _ _ _ => true
  | _ => false
theorem all_split {L : List Jvm.Cond} {P : Jvm.Cond → Bool} (h1 : L.all (fun c => isCode c || P c) = true) (h2 : ∀ c ∈ L.filter isCode, P c = true) : L.all P = true := by
  refine List.all_eq_true.mpr fun c hc => ?_
  have h := List.all_eq_true.mp h1 c hc
  rcases Bool.eq_false_or_eq_true (isCode c) with hi | hi
  · exact h2 c (List.mem_filter.mpr ⟨hc, hi⟩)
  · simpa [hi] using h
set_option maxRecDepth 65536 in
theorem w_c0 : (Jvm.Cond.code x code maxLocals ret).before args0 about1 = true := code_word (m := ⟨1, 2⟩) (meth := k1m2) (c := k1c2) (by decide +kernel) rfl rfl rfl (by decide +kernel)
set_option maxRecDepth 65536 in
theorem w_c1 : (Jvm.Cond.code ({ cls := "com/example/faktorwerk/faktorwerk/model/InputRefusedExceptionInFilePinLaw", name := "mk", desc := "(ICC)Ljava/lang/String;" } : Jvm.MethodName) method_2_code (3 : Nat) (Option.some (Jvm.ClassFile.FieldType.object "java/lang/String"))).before args0 about1 = true := code_word (m := ⟨1, 1⟩) (meth := k1m1) (c := k1c1) (by decide +kernel) rfl rfl rfl (by decide +kernel)
set_option maxRecDepth 65536 in
theorem w_c2 : (Jvm.Cond.code ({ cls := "com/example/faktorwerk/faktorwerk/model/InputRefusedException", name := "inFile", desc := "(Ljava/lang/String;Ljava/lang/String;)Lcom/example/faktorwerk/faktorwerk/model/InputRefusedException;" } : Jvm.MethodName) prog_52_method_4_code (2 : Nat) (Option.some (Jvm.ClassFile.FieldType.object "com/example/faktorwerk/faktorwerk/model/InputRefusedException"))).before args0 about1 = true := code_word (m := ⟨10, 1⟩) (meth := k10m1) (c := k10c1) (by decide +kernel) rfl rfl rfl (by decide +kernel)
set_option maxRecDepth 65536 in
theorem w_c3 : (Jvm.Cond.code ({ cls := "java/lang/StringBuilder", name := "<init>", desc := "()V" } : Jvm.MethodName) jdk_67_method_1_code (1 : Nat) (Option.none : Option Jvm.ClassFile.FieldType)).before args0 about1 = true := code_word (m := ⟨13, 0⟩) (meth := k13m0) (c := k13c0) (by decide +kernel) rfl rfl rfl (by decide +kernel)
set_option maxRecDepth 65536 in
theorem w_c4 : (Jvm.Cond.code ({ cls := "java/lang/AbstractStringBuilder", name := "<init>", desc := "(I)V" } : Jvm.MethodName) jdk_68_method_2_code (2 : Nat) (Option.none : Option Jvm.ClassFile.FieldType)).before args0 about1 = true := code_word (m := ⟨12, 1⟩) (meth := k12m1) (c := k12c1) (by decide +kernel) rfl rfl rfl (by decide +kernel)
set_option maxRecDepth 65536 in
theorem w_c5 : (Jvm.Cond.code ({ cls := "java/lang/Object", name := "<init>", desc := "()V" } : Jvm.MethodName) object_method_1_code (1 : Nat) (Option.none : Option Jvm.ClassFile.FieldType)).before args0 about1 = true := code_word (m := ⟨0, 0⟩) (meth := k0m0) (c := k0c0) (by decide +kernel) rfl rfl rfl (by decide +kernel)
set_option maxRecDepth 65536 in
theorem w_c6 : (Jvm.Cond.code ({ cls := "java/lang/StringBuilder", name := "append", desc := "(Ljava/lang/String;)Ljava/lang/StringBuilder;" } : Jvm.MethodName) jdk_67_method_7_code (2 : Nat) (Option.some (Jvm.ClassFile.FieldType.object "java/lang/StringBuilder"))).before args0 about1 = true := code_word (m := ⟨13, 1⟩) (meth := k13m1) (c := k13c1) (by decide +kernel) rfl rfl rfl (by decide +kernel)
set_option maxRecDepth 65536 in
theorem w_c7 : (Jvm.Cond.code ({ cls := "java/lang/AbstractStringBuilder", name := "append", desc := "(Ljava/lang/String;)Ljava/lang/AbstractStringBuilder;" } : Jvm.MethodName) jdk_68_method_22_code (3 : Nat) (Option.some (Jvm.ClassFile.FieldType.object "java/lang/AbstractStringBuilder"))).before args0 about1 = true := code_word (m := ⟨12, 4⟩) (meth := k12m4) (c := k12c4) (by decide +kernel) rfl rfl rfl (by decide +kernel)
set_option maxRecDepth 65536 in
theorem w_c8 : (Jvm.Cond.code ({ cls := "java/lang/String", name := "length", desc := "()I" } : Jvm.MethodName) jdk_42_method_54_code (1 : Nat) (Option.some Jvm.ClassFile.FieldType.int)).before args0 about1 = true := code_word (m := ⟨7, 3⟩) (meth := k7m3) (c := k7c3) (by decide +kernel) rfl rfl rfl (by decide +kernel)
set_option maxRecDepth 65536 in
theorem w_c9 : (Jvm.Cond.code ({ cls := "java/lang/String", name := "coder", desc := "()B" } : Jvm.MethodName) jdk_42_method_152_code (1 : Nat) (Option.some Jvm.ClassFile.FieldType.byte)).before args0 about1 = true := code_word (m := ⟨7, 10⟩) (meth := k7m10) (c := k7c10) (by decide +kernel) rfl rfl rfl (by decide +kernel)
set_option maxRecDepth 65536 in
theorem w_c10 : (Jvm.Cond.code ({ cls := "java/lang/AbstractStringBuilder", name := "ensureCapacityInternal", desc := "(I)V" } : Jvm.MethodName) jdk_68_method_9_code (3 : Nat) (Option.none : Option Jvm.ClassFile.FieldType)).before args0 about1 = true := code_word (m := ⟨12, 3⟩) (meth := k12m3) (c := k12c3) (by decide +kernel) rfl rfl rfl (by decide +kernel)
set_option maxRecDepth 65536 in
theorem w_c11 : (Jvm.Cond.code ({ cls := "java/lang/AbstractStringBuilder", name := "putStringAt", desc := "(ILjava/lang/String;)V" } : Jvm.MethodName) jdk_68_method_73_code (3 : Nat) (Option.none : Option Jvm.ClassFile.FieldType)).before args0 about1 = true := code_word (m := ⟨12, 8⟩) (meth := k12m8) (c := k12c8) (by decide +kernel) rfl rfl rfl (by decide +kernel)
set_option maxRecDepth 65536 in
theorem w_c12 : (Jvm.Cond.code ({ cls := "java/lang/AbstractStringBuilder", name := "inflateIfNeededFor", desc := "(Ljava/lang/String;)V" } : Jvm.MethodName) jdk_68_method_71_code (2 : Nat) (Option.none : Option Jvm.ClassFile.FieldType)).before args0 about1 = true := code_word (m := ⟨12, 7⟩) (meth := k12m7) (c := k12c7) (by decide +kernel) rfl rfl rfl (by decide +kernel)
set_option maxRecDepth 65536 in
theorem w_c13 : (Jvm.Cond.code ({ cls := "java/lang/String", name := "getBytes", desc := "([BIB)V" } : Jvm.MethodName) jdk_42_method_147_code (4 : Nat) (Option.none : Option Jvm.ClassFile.FieldType)).before args0 about1 = true := code_word (m := ⟨7, 6⟩) (meth := k7m6) (c := k7c6) (by decide +kernel) rfl rfl rfl (by decide +kernel)
set_option maxRecDepth 65536 in
theorem w_c14 : (Jvm.Cond.code ({ cls := "java/lang/StringBuilder", name := "toString", desc := "()Ljava/lang/String;" } : Jvm.MethodName) jdk_67_method_42_code (1 : Nat) (Option.some (Jvm.ClassFile.FieldType.object "java/lang/String"))).before args0 about1 = true := code_word (m := ⟨13, 2⟩) (meth := k13m2) (c := k13c2) (by decide +kernel) rfl rfl rfl (by decide +kernel)
set_option maxRecDepth 65536 in
theorem w_c15 : (Jvm.Cond.code ({ cls := "java/lang/String", name := "<init>", desc := "(Ljava/lang/StringBuilder;)V" } : Jvm.MethodName) jdk_42_method_53_code (2 : Nat) (Option.none : Option Jvm.ClassFile.FieldType)).before args0 about1 = true := code_word (m := ⟨7, 2⟩) (meth := k7m2) (c := k7c2) (by decide +kernel) rfl rfl rfl (by decide +kernel)
set_option maxRecDepth 65536 in
theorem w_c16 : (Jvm.Cond.code ({ cls := "java/lang/String", name := "<init>", desc := "(Ljava/lang/AbstractStringBuilder;Ljava/lang/Void;)V" } : Jvm.MethodName) jdk_42_method_150_code (5 : Nat) (Option.none : Option Jvm.ClassFile.FieldType)).before args0 about1 = true := code_word (m := ⟨7, 8⟩) (meth := k7m8) (c := k7c8) (by decide +kernel) rfl rfl rfl (by decide +kernel)
set_option maxRecDepth 65536 in
theorem w_c17 : (Jvm.Cond.code ({ cls := "java/lang/AbstractStringBuilder", name := "getValue", desc := "()[B" } : Jvm.MethodName) jdk_68_method_64_code (1 : Nat) (Option.some (Jvm.ClassFile.FieldType.array Jvm.ClassFile.FieldType.byte))).before args0 about1 = true := code_word (m := ⟨12, 5⟩) (meth := k12m5) (c := k12c5) (by decide +kernel) rfl rfl rfl (by decide +kernel)
set_option maxRecDepth 65536 in
theorem w_c18 : (Jvm.Cond.code ({ cls := "java/lang/StringBuilder", name := "length", desc := "()I" } : Jvm.MethodName) jdk_67_method_93_code (1 : Nat) (Option.some Jvm.ClassFile.FieldType.int)).before args0 about1 = true := code_word (m := ⟨13, 3⟩) (meth := k13m3) (c := k13c3) (by decide +kernel) rfl rfl rfl (by decide +kernel)
set_option maxRecDepth 65536 in
theorem w_c19 : (Jvm.Cond.code ({ cls := "java/lang/AbstractStringBuilder", name := "length", desc := "()I" } : Jvm.MethodName) jdk_68_method_6_code (1 : Nat) (Option.some Jvm.ClassFile.FieldType.int)).before args0 about1 = true := code_word (m := ⟨12, 2⟩) (meth := k12m2) (c := k12c2) (by decide +kernel) rfl rfl rfl (by decide +kernel)
set_option maxRecDepth 65536 in
theorem w_c20 : (Jvm.Cond.code ({ cls := "java/lang/AbstractStringBuilder", name := "isLatin1", desc := "()Z" } : Jvm.MethodName) jdk_68_method_68_code (1 : Nat) (Option.some Jvm.ClassFile.FieldType.boolean)).before args0 about1 = true := code_word (m := ⟨12, 6⟩) (meth := k12m6) (c := k12c6) (by decide +kernel) rfl rfl rfl (by decide +kernel)
set_option maxRecDepth 65536 in
theorem w_c21 : (Jvm.Cond.code ({ cls := "java/util/Arrays", name := "copyOfRange", desc := "([BII)[B" } : Jvm.MethodName) jdk_65_method_132_code (3 : Nat) (Option.some (Jvm.ClassFile.FieldType.array Jvm.ClassFile.FieldType.byte))).before args0 about1 = true := code_word (m := ⟨15, 2⟩) (meth := k15m2) (c := k15c2) (by decide +kernel) rfl rfl rfl (by decide +kernel)
set_option maxRecDepth 65536 in
theorem w_c22 : (Jvm.Cond.code ({ cls := "java/util/Arrays", name := "copyOfRangeByte", desc := "([BII)[B" } : Jvm.MethodName) jdk_65_method_133_code (5 : Nat) (Option.some (Jvm.ClassFile.FieldType.array Jvm.ClassFile.FieldType.byte))).before args0 about1 = true := code_word (m := ⟨15, 3⟩) (meth := k15m3) (c := k15c3) (by decide +kernel) rfl rfl rfl (by decide +kernel)
set_option maxRecDepth 65536 in
theorem w_c23 : (Jvm.Cond.code ({ cls := "java/util/Arrays", name := "checkLength", desc := "(II)V" } : Jvm.MethodName) jdk_65_method_131_code (2 : Nat) (Option.none : Option Jvm.ClassFile.FieldType)).before args0 about1 = true := code_word (m := ⟨15, 1⟩) (meth := k15m1) (c := k15c1) (by decide +kernel) rfl rfl rfl (by decide +kernel)
set_option maxRecDepth 65536 in
theorem w_c24 : (Jvm.Cond.code ({ cls := "java/lang/Math", name := "min", desc := "(II)I" } : Jvm.MethodName) jdk_29_method_69_code (2 : Nat) (Option.some Jvm.ClassFile.FieldType.int)).before args0 about1 = true := code_word (m := ⟨16, 1⟩) (meth := k16m1) (c := k16c1) (by decide +kernel) rfl rfl rfl (by decide +kernel)
set_option maxRecDepth 65536 in
theorem w_c25 : (Jvm.Cond.code ({ cls := "com/example/faktorwerk/faktorwerk/model/InputRefusedException", name := "<init>", desc := "(Ljava/lang/String;)V" } : Jvm.MethodName) prog_52_method_1_code (2 : Nat) (Option.none : Option Jvm.ClassFile.FieldType)).before args0 about1 = true := code_word (m := ⟨10, 0⟩) (meth := k10m0) (c := k10c0) (by decide +kernel) rfl rfl rfl (by decide +kernel)
set_option maxRecDepth 65536 in
theorem w_c26 : (Jvm.Cond.code ({ cls := "java/lang/Exception", name := "<init>", desc := "(Ljava/lang/String;)V" } : Jvm.MethodName) jdk_59_method_2_code (2 : Nat) (Option.none : Option Jvm.ClassFile.FieldType)).before args0 about1 = true := code_word (m := ⟨9, 1⟩) (meth := k9m1) (c := k9c1) (by decide +kernel) rfl rfl rfl (by decide +kernel)
set_option maxRecDepth 65536 in
theorem w_c27 : (Jvm.Cond.code ({ cls := "java/lang/Throwable", name := "<init>", desc := "(Ljava/lang/String;)V" } : Jvm.MethodName) jdk_78_method_2_code (2 : Nat) (Option.none : Option Jvm.ClassFile.FieldType)).before args0 about1 = true := code_word (m := ⟨8, 1⟩) (meth := k8m1) (c := k8c1) (by decide +kernel) rfl rfl rfl (by decide +kernel)
set_option maxRecDepth 65536 in
theorem w_c28 : (Jvm.Cond.code ({ cls := "java/lang/Throwable", name := "<init>", desc := "()V" } : Jvm.MethodName) jdk_78_method_1_code (1 : Nat) (Option.none : Option Jvm.ClassFile.FieldType)).before args0 about1 = true := code_word (m := ⟨8, 0⟩) (meth := k8m0) (c := k8c0) (by decide +kernel) rfl rfl rfl (by decide +kernel)
set_option maxRecDepth 65536 in
theorem w_c29 : (Jvm.Cond.code ({ cls := "java/lang/Throwable", name := "getMessage", desc := "()Ljava/lang/String;" } : Jvm.MethodName) jdk_78_method_6_code (1 : Nat) (Option.some (Jvm.ClassFile.FieldType.object "java/lang/String"))).before args0 about1 = true := code_word (m := ⟨8, 2⟩) (meth := k8m2) (c := k8c2) (by decide +kernel) rfl rfl rfl (by decide +kernel)
set_option maxRecDepth 65536 in
theorem w_c30 : (Jvm.Cond.code ({ cls := "java/lang/String", name := "charAt", desc := "(I)C" } : Jvm.MethodName) jdk_42_method_56_code (2 : Nat) (Option.some Jvm.ClassFile.FieldType.char)).before args0 about1 = true := code_word (m := ⟨7, 4⟩) (meth := k7m4) (c := k7c4) (by decide +kernel) rfl rfl rfl (by decide +kernel)
set_option maxRecDepth 65536 in
theorem w_c31 : (Jvm.Cond.code ({ cls := "java/lang/String", name := "isLatin1", desc := "()Z" } : Jvm.MethodName) jdk_42_method_154_code (1 : Nat) (Option.some Jvm.ClassFile.FieldType.boolean)).before args0 about1 = true := code_word (m := ⟨7, 11⟩) (meth := k7m11) (c := k7c11) (by decide +kernel) rfl rfl rfl (by decide +kernel)
set_option maxRecDepth 65536 in
theorem w_c32 : (Jvm.Cond.code ({ cls := "java/lang/StringLatin1", name := "charAt", desc := "([BI)C" } : Jvm.MethodName) jdk_43_method_2_code (2 : Nat) (Option.some Jvm.ClassFile.FieldType.char)).before args0 about1 = true := code_word (m := ⟨17, 1⟩) (meth := k17m1) (c := k17c1) (by decide +kernel) rfl rfl rfl (by decide +kernel)
set_option maxRecDepth 65536 in
theorem w_c33 : (Jvm.Cond.code ({ cls := "java/lang/String", name := "checkIndex", desc := "(II)V" } : Jvm.MethodName) jdk_42_method_155_code (2 : Nat) (Option.none : Option Jvm.ClassFile.FieldType)).before args0 about1 = true := code_word (m := ⟨7, 12⟩) (meth := k7m12) (c := k7c12) (by decide +kernel) rfl rfl rfl (by decide +kernel)
set_option maxRecDepth 65536 in
theorem w_c34 : (Jvm.Cond.code ({ cls := "jdk/internal/util/Preconditions", name := "checkIndex", desc := "(IILjava/util/function/BiFunction;)I" } : Jvm.MethodName) jdk_41_method_11_code (3 : Nat) (Option.some Jvm.ClassFile.FieldType.int)).before args0 about1 = true := code_word (m := ⟨18, 1⟩) (meth := k18m1) (c := k18c1) (by decide +kernel) rfl rfl rfl (by decide +kernel)
set_option maxRecDepth 65536 in
theorem w_c35 : (Jvm.Cond.code ({ cls := "java/lang/String", name := "valueOf", desc := "(C)Ljava/lang/String;" } : Jvm.MethodName) jdk_42_method_139_code (1 : Nat) (Option.some (Jvm.ClassFile.FieldType.object "java/lang/String"))).before args0 about1 = true := code_word (m := ⟨7, 5⟩) (meth := k7m5) (c := k7c5) (by decide +kernel) rfl rfl rfl (by decide +kernel)
set_option maxRecDepth 65536 in
theorem w_c36 : (Jvm.Cond.code ({ cls := "java/lang/StringLatin1", name := "canEncode", desc := "(C)Z" } : Jvm.MethodName) jdk_43_method_3_code (1 : Nat) (Option.some Jvm.ClassFile.FieldType.boolean)).before args0 about1 = true := code_word (m := ⟨17, 2⟩) (meth := k17m2) (c := k17c2) (by decide +kernel) rfl rfl rfl (by decide +kernel)
set_option maxRecDepth 65536 in
theorem w_c37 : (Jvm.Cond.code ({ cls := "java/lang/StringLatin1", name := "toBytes", desc := "(C)[B" } : Jvm.MethodName) jdk_43_method_46_code (1 : Nat) (Option.some (Jvm.ClassFile.FieldType.array Jvm.ClassFile.FieldType.byte))).before args0 about1 = true := code_word (m := ⟨17, 3⟩) (meth := k17m3) (c := k17c3) (by decide +kernel) rfl rfl rfl (by decide +kernel)
set_option maxRecDepth 65536 in
theorem w_c38 : (Jvm.Cond.code ({ cls := "java/lang/String", name := "<init>", desc := "([BB)V" } : Jvm.MethodName) jdk_42_method_151_code (3 : Nat) (Option.none : Option Jvm.ClassFile.FieldType)).before args0 about1 = true := code_word (m := ⟨7, 9⟩) (meth := k7m9) (c := k7c9) (by decide +kernel) rfl rfl rfl (by decide +kernel)
set_option maxRecDepth 65536 in
theorem w_c39 : (Jvm.Cond.code ({ cls := "java/lang/String", name := "<init>", desc := "([C)V" } : Jvm.MethodName) jdk_42_method_3_code (2 : Nat) (Option.none : Option Jvm.ClassFile.FieldType)).before args0 about1 = true := code_word (m := ⟨7, 1⟩) (meth := k7m1) (c := k7c1) (by decide +kernel) rfl rfl rfl (by decide +kernel)
set_option maxRecDepth 65536 in
theorem w_c40 : (Jvm.Cond.code ({ cls := "java/lang/String", name := "<init>", desc := "([CIILjava/lang/Void;)V" } : Jvm.MethodName) jdk_42_method_149_code (6 : Nat) (Option.none : Option Jvm.ClassFile.FieldType)).before args0 about1 = true := code_word (m := ⟨7, 7⟩) (meth := k7m7) (c := k7c7) (by decide +kernel) rfl rfl rfl (by decide +kernel)
set_option maxRecDepth 65536 in
theorem w_c41 : (Jvm.Cond.code ({ cls := "java/lang/StringUTF16", name := "compress", desc := "([CII)[B" } : Jvm.MethodName) jdk_52_method_16_code (6 : Nat) (Option.some (Jvm.ClassFile.FieldType.array Jvm.ClassFile.FieldType.byte))).before args0 about1 = true := code_word (m := ⟨19, 2⟩) (meth := k19m2) (c := k19c2) (by decide +kernel) rfl rfl rfl (by decide +kernel)
set_option maxRecDepth 65536 in
theorem w_c42 : (Jvm.Cond.code ({ cls := "java/lang/StringUTF16", name := "compress", desc := "([CI[BII)I" } : Jvm.MethodName) jdk_52_method_21_code (7 : Nat) (Option.some Jvm.ClassFile.FieldType.int)).before args0 about1 = true := code_word (m := ⟨19, 3⟩) (meth := k19m3) (c := k19c3) (by decide +kernel) rfl rfl rfl (by decide +kernel)
set_option maxRecDepth 65536 in
theorem w_c43 : (Jvm.Cond.code ({ cls := "java/lang/StringUTF16", name := "coderFromArrayLen", desc := "([BI)B" } : Jvm.MethodName) jdk_52_method_15_code (2 : Nat) (Option.some Jvm.ClassFile.FieldType.byte)).before args0 about1 = true := code_word (m := ⟨19, 1⟩) (meth := k19m1) (c := k19c1) (by decide +kernel) rfl rfl rfl (by decide +kernel)
def codes1 : List Jvm.Cond := [Jvm.Cond.code x code maxLocals ret, Jvm.Cond.code ({ cls := "com/example/faktorwerk/faktorwerk/model/InputRefusedExceptionInFilePinLaw", name := "mk", desc := "(ICC)Ljava/lang/String;" } : Jvm.MethodName) method_2_code (3 : Nat) (Option.some (Jvm.ClassFile.FieldType.object "java/lang/String")), Jvm.Cond.code ({ cls := "com/example/faktorwerk/faktorwerk/model/InputRefusedException", name := "inFile", desc := "(Ljava/lang/String;Ljava/lang/String;)Lcom/example/faktorwerk/faktorwerk/model/InputRefusedException;" } : Jvm.MethodName) prog_52_method_4_code (2 : Nat) (Option.some (Jvm.ClassFile.FieldType.object "com/example/faktorwerk/faktorwerk/model/InputRefusedException")), Jvm.Cond.code ({ cls := "java/lang/StringBuilder", name := "<init>", desc := "()V" } : Jvm.MethodName) jdk_67_method_1_code (1 : Nat) (Option.none : Option Jvm.ClassFile.FieldType), Jvm.Cond.code ({ cls := "java/lang/AbstractStringBuilder", name := "<init>", desc := "(I)V" } : Jvm.MethodName) jdk_68_method_2_code (2 : Nat) (Option.none : Option Jvm.ClassFile.FieldType), Jvm.Cond.code ({ cls := "java/lang/Object", name := "<init>", desc := "()V" } : Jvm.MethodName) object_method_1_code (1 : Nat) (Option.none : Option Jvm.ClassFile.FieldType), Jvm.Cond.code ({ cls := "java/lang/StringBuilder", name := "append", desc := "(Ljava/lang/String;)Ljava/lang/StringBuilder;" } : Jvm.MethodName) jdk_67_method_7_code (2 : Nat) (Option.some (Jvm.ClassFile.FieldType.object "java/lang/StringBuilder")), Jvm.Cond.code ({ cls := "java/lang/AbstractStringBuilder", name := "append", desc := "(Ljava/lang/String;)Ljava/lang/AbstractStringBuilder;" } : Jvm.MethodName) jdk_68_method_22_code (3 : Nat) (Option.some (Jvm.ClassFile.FieldType.object "java/lang/AbstractStringBuilder")), Jvm.Cond.code ({ cls := "java/lang/String", name := "length", desc := "()I" } : Jvm.MethodName) jdk_42_method_54_code (1 : Nat) (Option.some Jvm.ClassFile.FieldType.int), Jvm.Cond.code ({ cls := "java/lang/String", name := "coder", desc := "()B" } : Jvm.MethodName) jdk_42_method_152_code (1 : Nat) (Option.some Jvm.ClassFile.FieldType.byte), Jvm.Cond.code ({ cls := "java/lang/AbstractStringBuilder", name := "ensureCapacityInternal", desc := "(I)V" } : Jvm.MethodName) jdk_68_method_9_code (3 : Nat) (Option.none : Option Jvm.ClassFile.FieldType), Jvm.Cond.code ({ cls := "java/lang/AbstractStringBuilder", name := "putStringAt", desc := "(ILjava/lang/String;)V" } : Jvm.MethodName) jdk_68_method_73_code (3 : Nat) (Option.none : Option Jvm.ClassFile.FieldType), Jvm.Cond.code ({ cls := "java/lang/AbstractStringBuilder", name := "inflateIfNeededFor", desc := "(Ljava/lang/String;)V" } : Jvm.MethodName) jdk_68_method_71_code (2 : Nat) (Option.none : Option Jvm.ClassFile.FieldType), Jvm.Cond.code ({ cls := "java/lang/String", name := "getBytes", desc := "([BIB)V" } : Jvm.MethodName) jdk_42_method_147_code (4 : Nat) (Option.none : Option Jvm.ClassFile.FieldType), Jvm.Cond.code ({ cls := "java/lang/StringBuilder", name := "toString", desc := "()Ljava/lang/String;" } : Jvm.MethodName) jdk_67_method_42_code (1 : Nat) (Option.some (Jvm.ClassFile.FieldType.object "java/lang/String")), Jvm.Cond.code ({ cls := "java/lang/String", name := "<init>", desc := "(Ljava/lang/StringBuilder;)V" } : Jvm.MethodName) jdk_42_method_53_code (2 : Nat) (Option.none : Option Jvm.ClassFile.FieldType), Jvm.Cond.code ({ cls := "java/lang/String", name := "<init>", desc := "(Ljava/lang/AbstractStringBuilder;Ljava/lang/Void;)V" } : Jvm.MethodName) jdk_42_method_150_code (5 : Nat) (Option.none : Option Jvm.ClassFile.FieldType), Jvm.Cond.code ({ cls := "java/lang/AbstractStringBuilder", name := "getValue", desc := "()[B" } : Jvm.MethodName) jdk_68_method_64_code (1 : Nat) (Option.some (Jvm.ClassFile.FieldType.array Jvm.ClassFile.FieldType.byte)), Jvm.Cond.code ({ cls := "java/lang/StringBuilder", name := "length", desc := "()I" } : Jvm.MethodName) jdk_67_method_93_code (1 : Nat) (Option.some Jvm.ClassFile.FieldType.int), Jvm.Cond.code ({ cls := "java/lang/AbstractStringBuilder", name := "length", desc := "()I" } : Jvm.MethodName) jdk_68_method_6_code (1 : Nat) (Option.some Jvm.ClassFile.FieldType.int), Jvm.Cond.code ({ cls := "java/lang/AbstractStringBuilder", name := "isLatin1", desc := "()Z" } : Jvm.MethodName) jdk_68_method_68_code (1 : Nat) (Option.some Jvm.ClassFile.FieldType.boolean), Jvm.Cond.code ({ cls := "java/util/Arrays", name := "copyOfRange", desc := "([BII)[B" } : Jvm.MethodName) jdk_65_method_132_code (3 : Nat) (Option.some (Jvm.ClassFile.FieldType.array Jvm.ClassFile.FieldType.byte)), Jvm.Cond.code ({ cls := "java/util/Arrays", name := "copyOfRangeByte", desc := "([BII)[B" } : Jvm.MethodName) jdk_65_method_133_code (5 : Nat) (Option.some (Jvm.ClassFile.FieldType.array Jvm.ClassFile.FieldType.byte)), Jvm.Cond.code ({ cls := "java/util/Arrays", name := "checkLength", desc := "(II)V" } : Jvm.MethodName) jdk_65_method_131_code (2 : Nat) (Option.none : Option Jvm.ClassFile.FieldType), Jvm.Cond.code ({ cls := "java/lang/Math", name := "min", desc := "(II)I" } : Jvm.MethodName) jdk_29_method_69_code (2 : Nat) (Option.some Jvm.ClassFile.FieldType.int), Jvm.Cond.code ({ cls := "com/example/faktorwerk/faktorwerk/model/InputRefusedException", name := "<init>", desc := "(Ljava/lang/String;)V" } : Jvm.MethodName) prog_52_method_1_code (2 : Nat) (Option.none : Option Jvm.ClassFile.FieldType), Jvm.Cond.code ({ cls := "java/lang/Exception", name := "<init>", desc := "(Ljava/lang/String;)V" } : Jvm.MethodName) jdk_59_method_2_code (2 : Nat) (Option.none : Option Jvm.ClassFile.FieldType), Jvm.Cond.code ({ cls := "java/lang/Throwable", name := "<init>", desc := "(Ljava/lang/String;)V" } : Jvm.MethodName) jdk_78_method_2_code (2 : Nat) (Option.none : Option Jvm.ClassFile.FieldType), Jvm.Cond.code ({ cls := "java/lang/Throwable", name := "<init>", desc := "()V" } : Jvm.MethodName) jdk_78_method_1_code (1 : Nat) (Option.none : Option Jvm.ClassFile.FieldType), Jvm.Cond.code ({ cls := "java/lang/Throwable", name := "getMessage", desc := "()Ljava/lang/String;" } : Jvm.MethodName) jdk_78_method_6_code (1 : Nat) (Option.some (Jvm.ClassFile.FieldType.object "java/lang/String")), Jvm.Cond.code ({ cls := "java/lang/String", name := "charAt", desc := "(I)C" } : Jvm.MethodName) jdk_42_method_56_code (2 : Nat) (Option.some Jvm.ClassFile.FieldType.char), Jvm.Cond.code ({ cls := "java/lang/String", name := "isLatin1", desc := "()Z" } : Jvm.MethodName) jdk_42_method_154_code (1 : Nat) (Option.some Jvm.ClassFile.FieldType.boolean), Jvm.Cond.code ({ cls := "java/lang/StringLatin1", name := "charAt", desc := "([BI)C" } : Jvm.MethodName) jdk_43_method_2_code (2 : Nat) (Option.some Jvm.ClassFile.FieldType.char), Jvm.Cond.code ({ cls := "java/lang/String", name := "checkIndex", desc := "(II)V" } : Jvm.MethodName) jdk_42_method_155_code (2 : Nat) (Option.none : Option Jvm.ClassFile.FieldType), Jvm.Cond.code ({ cls := "jdk/internal/util/Preconditions", name := "checkIndex", desc := "(IILjava/util/function/BiFunction;)I" } : Jvm.MethodName) jdk_41_method_11_code (3 : Nat) (Option.some Jvm.ClassFile.FieldType.int), Jvm.Cond.code ({ cls := "java/lang/String", name := "valueOf", desc := "(C)Ljava/lang/String;" } : Jvm.MethodName) jdk_42_method_139_code (1 : Nat) (Option.some (Jvm.ClassFile.FieldType.object "java/lang/String")), Jvm.Cond.code ({ cls := "java/lang/StringLatin1", name := "canEncode", desc := "(C)Z" } : Jvm.MethodName) jdk_43_method_3_code (1 : Nat) (Option.some Jvm.ClassFile.FieldType.boolean), Jvm.Cond.code ({ cls := "java/lang/StringLatin1", name := "toBytes", desc := "(C)[B" } : Jvm.MethodName) jdk_43_method_46_code (1 : Nat) (Option.some (Jvm.ClassFile.FieldType.array Jvm.ClassFile.FieldType.byte)), Jvm.Cond.code ({ cls := "java/lang/String", name := "<init>", desc := "([BB)V" } : Jvm.MethodName) jdk_42_method_151_code (3 : Nat) (Option.none : Option Jvm.ClassFile.FieldType), Jvm.Cond.code ({ cls := "java/lang/String", name := "<init>", desc := "([C)V" } : Jvm.MethodName) jdk_42_method_3_code (2 : Nat) (Option.none : Option Jvm.ClassFile.FieldType), Jvm.Cond.code ({ cls := "java/lang/String", name := "<init>", desc := "([CIILjava/lang/Void;)V" } : Jvm.MethodName) jdk_42_method_149_code (6 : Nat) (Option.none : Option Jvm.ClassFile.FieldType), Jvm.Cond.code ({ cls := "java/lang/StringUTF16", name := "compress", desc := "([CII)[B" } : Jvm.MethodName) jdk_52_method_16_code (6 : Nat) (Option.some (Jvm.ClassFile.FieldType.array Jvm.ClassFile.FieldType.byte)), Jvm.Cond.code ({ cls := "java/lang/StringUTF16", name := "compress", desc := "([CI[BII)I" } : Jvm.MethodName) jdk_52_method_21_code (7 : Nat) (Option.some Jvm.ClassFile.FieldType.int), Jvm.Cond.code ({ cls := "java/lang/StringUTF16", name := "coderFromArrayLen", desc := "([BI)B" } : Jvm.MethodName) jdk_52_method_15_code (2 : Nat) (Option.some Jvm.ClassFile.FieldType.byte)]
set_option maxRecDepth 65536 in
theorem codes_eq : words1.filter isCode = codes1 := rfl
theorem w_codes : ∀ c ∈ words1.filter isCode, c.before args0 about1 = true := by
  rw [codes_eq]
  intro c hc
  simp only [codes1, List.mem_cons, List.not_mem_nil, or_false] at hc
  rcases hc with rfl | rfl | rfl | rfl | rfl | rfl | rfl | rfl | rfl | rfl | rfl | rfl | rfl | rfl | rfl | rfl | rfl | rfl | rfl | rfl | rfl | rfl | rfl | rfl | rfl | rfl | rfl | rfl | rfl | rfl | rfl | rfl | rfl | rfl | rfl | rfl | rfl | rfl | rfl | rfl | rfl | rfl | rfl | rfl
  · exact w_c0
  · exact w_c1
  · exact w_c2
  · exact w_c3
  · exact w_c4
  · exact w_c5
  · exact w_c6
  · exact w_c7
  · exact w_c8
  · exact w_c9
  · exact w_c10
  · exact w_c11
  · exact w_c12
  · exact w_c13
  · exact w_c14
  · exact w_c15
  · exact w_c16
  · exact w_c17
  · exact w_c18
  · exact w_c19
  · exact w_c20
  · exact w_c21
  · exact w_c22
  · exact w_c23
  · exact w_c24
  · exact w_c25
  · exact w_c26
  · exact w_c27
  · exact w_c28
  · exact w_c29
  · exact w_c30
  · exact w_c31
  · exact w_c32
  · exact w_c33
  · exact w_c34
  · exact w_c35
  · exact w_c36
  · exact w_c37
  · exact w_c38
  · exact w_c39
  · exact w_c40
  · exact w_c41
  · exact w_c42
  · exact w_c43
set_option maxRecDepth 65536 in
theorem w_t1 : (words1.take 24).all (fun c => isCode c || c.before args0 about1) = true := by decide +kernel
set_option maxRecDepth 65536 in
theorem w_t2 : ((words1.drop 24).take 24).all (fun c => isCode c || c.before args0 about1) = true := by decide +kernel
set_option maxRecDepth 65536 in
theorem w_t3 : (((words1.drop 24).drop 24).take 24).all (fun c => isCode c || c.before args0 about1) = true := by decide +kernel
set_option maxRecDepth 65536 in
theorem w_t4 : ((((words1.drop 24).drop 24).drop 24).take 24).all (fun c => isCode c || c.before args0 about1) = true := by decide +kernel
set_option maxRecDepth 65536 in
theorem w_t5 : (((((words1.drop 24).drop 24).drop 24).drop 24).take 24).all (fun c => isCode c || c.before args0 about1) = true := by decide +kernel
set_option maxRecDepth 65536 in
theorem w_t6 : ((((((words1.drop 24).drop 24).drop 24).drop 24).drop 24).take 24).all (fun c => isCode c || c.before args0 about1) = true := by decide +kernel
set_option maxRecDepth 65536 in
theorem w_t7 : (((((((words1.drop 24).drop 24).drop 24).drop 24).drop 24).drop 24).take 24).all (fun c => isCode c || c.before args0 about1) = true := by decide +kernel
set_option maxRecDepth 65536 in
theorem w_t8 : ((((((((words1.drop 24).drop 24).drop 24).drop 24).drop 24).drop 24).drop 24).take 24).all (fun c => isCode c || c.before args0 about1) = true := by decide +kernel
set_option maxRecDepth 65536 in
theorem w_t9 : (((((((((words1.drop 24).drop 24).drop 24).drop 24).drop 24).drop 24).drop 24).drop 24).take 24).all (fun c => isCode c || c.before args0 about1) = true := by decide +kernel
set_option maxRecDepth 65536 in
theorem w_t10 : ((((((((((words1.drop 24).drop 24).drop 24).drop 24).drop 24).drop 24).drop 24).drop 24).drop 24).take 24).all (fun c => isCode c || c.before args0 about1) = true := by decide +kernel
set_option maxRecDepth 65536 in
theorem w_t11 : ((((((((((words1.drop 24).drop 24).drop 24).drop 24).drop 24).drop 24).drop 24).drop 24).drop 24).drop 24).all (fun c => isCode c || c.before args0 about1) = true := by decide +kernel
theorem w_tables : (allAtoms (Jvm.Cond.code x code maxLocals ret :: tables_1)).before args0 about1 = true := by
  rw [allAtoms_all]
  show words1.all (fun c => c.before args0 about1) = true
  refine all_split ?_ w_codes
  rw [← List.take_append_drop 24 words1, List.all_append, w_t1, ← List.take_append_drop 24 (words1.drop 24), List.all_append, w_t2, ← List.take_append_drop 24 ((words1.drop 24).drop 24), List.all_append, w_t3, ← List.take_append_drop 24 (((words1.drop 24).drop 24).drop 24), List.all_append, w_t4, ← List.take_append_drop 24 ((((words1.drop 24).drop 24).drop 24).drop 24), List.all_append, w_t5, ← List.take_append_drop 24 (((((words1.drop 24).drop 24).drop 24).drop 24).drop 24), List.all_append, w_t6, ← List.take_append_drop 24 ((((((words1.drop 24).drop 24).drop 24).drop 24).drop 24).drop 24), List.all_append, w_t7, ← List.take_append_drop 24 (((((((words1.drop 24).drop 24).drop 24).drop 24).drop 24).drop 24).drop 24), List.all_append, w_t8, ← List.take_append_drop 24 ((((((((words1.drop 24).drop 24).drop 24).drop 24).drop 24).drop 24).drop 24).drop 24), List.all_append, w_t9, ← List.take_append_drop 24 (((((((((words1.drop 24).drop 24).drop 24).drop 24).drop 24).drop 24).drop 24).drop 24).drop 24), List.all_append, w_t10, w_t11]
  rfl
set_option maxRecDepth 65536 in
theorem w_rest : rest_1_c.before args0 about1 = true := by decide +kernel
set_option maxRecDepth 65536 in
theorem w_case : (Jvm.Cond.and given_1 narrow_1).before args0 about1 = true := by decide +kernel
set_option maxRecDepth 65536 in
theorem w_consts : constsHeld consts_1 about1 := Jvm.Lit.constsHeldB_iff.mp (by decide +kernel)
theorem w_applies : (headSpec (Jvm.Cond.code x code maxLocals ret :: tables_1) room_1).applies x e0.platform about1 = true :=
  (Spec.applies_iff w_frames).mpr ⟨w_running, w_runnable, w_alone, w_named, w_hears, w_ripe, w_room, w_tables⟩
theorem atStart : AtStart classFile x code maxLocals ret World_1 tables_1 room_1 Calls_1 rest_1 Pre_1 launch0 p0 e0 about1 theMethod args0 below0 :=
  ⟨lists_1, trivial, launch0.admits_env _ _ _, launch0.least_env, fairChoices_fair.cas, fairChoices_fair.clock, w_frames, w_args, w_heap, w_applies, ⟨(by decide +kernel : framesKnown about1 = true), ⟨(by decide +kernel : tablesKnown about1 = true), ⟨w_consts, trivial⟩⟩⟩, w_rest, w_case⟩
end start1
theorem witness_1 : WitnessClaimed_1 := ⟨start1.p0, start1.e0, start1.about1, start1.theMethod, start1.args0, start1.below0, start1.atStart⟩
end Jvm.Pilot.@@N@@
