import JvmDerived
import JvmDerived.Pilot.@@N@@Statement
import JvmDerived.Pilot.@@N@@Code
set_option linter.unusedVariables false
set_option linter.unusedSimpArgs false
/- laws to paste: Road.backV (cut by pick.py; bodies as the Statement names them) -/
namespace Jvm.Pilot.@@N@@
namespace StrChars
open Jvm Sem ClassFile Op Lib Jvm.Stand Jvm.Free.XT Jvm.Free.ALB Jvm.Free.JM Jvm.Free
open Jvm.Lib.Cold (StaticIs)
/-- a char array whose places are chars -/
def Ch (a : Addr) (A : Cell) (U : State) : Prop := Arr .char a A U ∧ Typed .char A
theorem Ch.mv {a : Addr} {A : Cell} {U U' : State} (h : Ch a A U) (hal : U.vm.Alike U'.vm) (hh : U'.heap = U.heap) : Ch a A U' := ⟨h.1.mv hal hh, h.2⟩
theorem Ch.keep {a : Addr} {A : Cell} {U U' : State} (h : Ch a A U) (hal : U.vm.Alike U'.vm) (hk : U'.heap[a]? = some A) : Ch a A U' := ⟨h.1.keep hal hk, h.2⟩
/-- what place i of a char[]'s cell holds -/
def cv (A : Cell) (i : Nat) : Int32 := match A.slots[i]? with | some (.int x) => x | _ => 0
theorem Ch.get {a : Addr} {A : Cell} {U : State} (h : Ch a A U) {i : Nat} (hi : i < A.slots.size) : A.slots[i]? = some (.int (cv A i)) := by
  have e := Array.getElem?_eq_getElem hi
  have f := h.2 i _ e
  unfold cv; rw [e]
  generalize A.slots[i] = v at f
  cases v <;> simp [fits] at f ⊢
/-- the byte that i2b leaves of a char -/
def lo8 (x : Int32) : Int32 := x.toInt8.toInt32
theorem fits_lo8 (y : Int32) : fits .byte (.int (lo8 y)) = true := by
  have h1 := y.toInt8.le_toInt
  have h2 := y.toInt8.toInt_lt
  simp only [lo8, fits, Bool.and_eq_true, decide_eq_true_eq, Int32.le_iff_toInt_le, Int8.toInt_toInt32, show (-128 : Int32).toInt = -128 from by decide, show (127 : Int32).toInt = 127 from by decide]
  omega
/-- A' is A but that each place j of lo .. hi - 1 holds f j -/
def Laid (A A' : Cell) (lo hi : Nat) (f : Nat → Value) : Prop := A'.cls = A.cls ∧ A'.vm = A.vm ∧ A'.slots.size = A.slots.size ∧ ∀ i, A'.slots[i]? = if lo ≤ i ∧ i < hi then some (f i) else A.slots[i]?
theorem Laid.zero (A : Cell) (lo : Nat) (f : Nat → Value) : Laid A A lo (lo + 0) f := ⟨rfl, rfl, rfl, fun i => by rw [if_neg (by omega)]⟩
theorem Laid.step {A Ak : Cell} {lo k : Nat} {f : Nat → Value} {v : Value} (h : Laid A Ak lo k f) (hlo : lo ≤ k) (hk : k < Ak.slots.size) (hv : v = f k) : Laid A (Ak.setSlot k v) lo (k + 1) f := by
  refine ⟨h.1, h.2.1, by simpa [Cell.setSlot] using h.2.2.1, fun i => ?_⟩
  by_cases e : k = i
  · subst e; rw [Cell.slots_setSlot_self v hk, if_pos (by omega), hv]
  · rw [Cell.slots_setSlot_ne v e, h.2.2.2 i]
    by_cases q : lo ≤ i ∧ i < k
    · rw [if_pos q, if_pos (by omega)]
    · rw [if_neg q, if_neg (by omega)]
def U16 : String := "java/lang/StringUTF16"
namespace Cmp5
def yN : MethodName := ⟨"java/lang/StringUTF16", "compress", "([CI[BII)I"⟩
abbrev yB : ByteArray := jdk_52_method_21_code
theorem d0 : decode yB 0 = .ok (.iconst 0, 1) := by decide +kernel
theorem d1 : decode yB 1 = .ok (.istore 5, 2) := by decide +kernel
theorem d3 : decode yB 3 = .ok (.iload 5, 2) := by decide +kernel
theorem d5 : decode yB 5 = .ok (.iload 4, 2) := by decide +kernel
theorem d7 : decode yB 7 = .ok (.if_icmp (.ge) 37, 3) := by decide +kernel
theorem d10 : decode yB 10 = .ok (.aload_n 0, 1) := by decide +kernel
theorem d11 : decode yB 11 = .ok (.iload_n 1, 1) := by decide +kernel
theorem d12 : decode yB 12 = .ok (.caload, 1) := by decide +kernel
theorem d13 : decode yB 13 = .ok (.istore 6, 2) := by decide +kernel
theorem d15 : decode yB 15 = .ok (.iload 6, 2) := by decide +kernel
theorem d17 : decode yB 17 = .ok (.sipush 255, 3) := by decide +kernel
theorem d20 : decode yB 20 = .ok (.if_icmp (.le) 6, 3) := by decide +kernel
theorem d26 : decode yB 26 = .ok (.aload_n 2, 1) := by decide +kernel
theorem d27 : decode yB 27 = .ok (.iload_n 3, 1) := by decide +kernel
theorem d28 : decode yB 28 = .ok (.iload 6, 2) := by decide +kernel
theorem d30 : decode yB 30 = .ok (.i2b, 1) := by decide +kernel
theorem d31 : decode yB 31 = .ok (.bastore, 1) := by decide +kernel
theorem d32 : decode yB 32 = .ok (.iinc 1 1, 3) := by decide +kernel
theorem d35 : decode yB 35 = .ok (.iinc 3 1, 3) := by decide +kernel
theorem d38 : decode yB 38 = .ok (.iinc 5 1, 3) := by decide +kernel
theorem d41 : decode yB 41 = .ok (.goto (-38), 3) := by decide +kernel
theorem d44 : decode yB 44 = .ok (.iload 4, 2) := by decide +kernel
theorem d46 : decode yB 46 = .ok (.ireturn, 1) := by decide +kernel
def site : List Cond := []
def tab : Cond := tabOf yN yB 7 (some .int) site
def P (b : Addr) (A : Cell) (d : Addr) (B : Cell) (o q len : Nat) (args : Array Value) (s : State) : Prop := args = #[.ref b, .int (Int32.ofNat o), .ref d, .int (Int32.ofNat q), .int (Int32.ofNat len)] ∧ Ch b A s ∧ Arr .byte d B s ∧ b ≠ d ∧ o + len ≤ A.slots.size ∧ q + len ≤ B.slots.size ∧ ∀ i, i < len → ¬ 255 < cv A (o + i)
def E (b : Addr) (A : Cell) (d : Addr) (B : Cell) (o q len : Nat) (r : Option Value) (s u : State) : Prop := r = some (.int (Int32.ofNat len)) ∧ ∃ B', Put d B' s u ∧ Laid B B' q (q + len) (fun j => Value.int (lo8 (cv A (o + (j - q)))))
/-- no char of the range above 255: len; the places written hold each char's low byte -/
theorem law (l : Launch) (b : Addr) (A : Cell) (d : Addr) (B : Cell) (o q len : Nat) : Law l yN 5 5 0 0 yB 7 (some .int) site (P b A d B o q len) (E b A d B o q len) (copyLocs d q len) 0 0 := by
  refine Law.of_walk (plainFor_of_name (by decide +kernel)) (by decide +kernel) (by decide +kernel) (by decide) (fun _ _ h => by rw [h.1]; rfl) (fun _ U U' hal hh h => ⟨h.1, h.2.1.mv hal hh, h.2.2.1.mv hal hh, h.2.2.2⟩) (fun r U U' V V' h1 hal h2 h => ⟨h.1, h.2.elim fun B' q => ⟨B', q.1.mv h1 h2, q.2⟩⟩) ?_
  intro p e s m args below meth c s₁ X0 hexec hbytes hml hret hlk hnm hown hh0 W hP
  obtain ⟨rfl, hA, hB, hne, l1, l2, hp⟩ := hP
  have c1 : Steps p.tables e below (s₁.setTop (entryFrame m #[.ref b, .int (Int32.ofNat o), .ref d, .int (Int32.ofNat q), .int (Int32.ofNat len)] 7)) (s₁.setTop (mkF m 0 #[.val (.ref b), .val (.int (Int32.ofNat o)), .val (.ref d), .val (.int (Int32.ofNat q)), .val (.int (Int32.ofNat len)), .unset, .unset] [])) := entry rfl
  have hA0 := hA.1.mv X0.warmed.alike hh0
  have hB0 := hB.mv X0.warmed.alike hh0
  have a31 := hA.1.2.2.2
  have c2 : Steps p.tables e below (s₁.setTop (entryFrame m #[.ref b, .int (Int32.ofNat o), .ref d, .int (Int32.ofNat q), .int (Int32.ofNat len)] 7)) (s₁.setTop (mkF m 3 #[.val (.ref b), .val (.int (Int32.ofNat o)), .val (.ref d), .val (.int (Int32.ofNat q)), .val (.int (Int32.ofNat len)), .val (.int 0), .unset] [])) := c1.trans (by
    refine iconstV X0.here hexec rfl 0 (hb hbytes d0) (by decide) ?_
    refine XS.istore X0.here hexec rfl (hb hbytes d1) rfl rfl ?_
    exact Steps.refl _)
  have loop : ∀ (r i : Nat), i + r = len → ∀ (z : Slot), (z = .unset ∨ ∃ w, z = .val w ∧ w.category = 1) → ∀ (Tl : State) (Bk : Cell), Stand p l e { frames := 0, locals := 0, cells := 0, slots := 0 } s m #[.ref b, .int (Int32.ofNat o), .ref d, .int (Int32.ofNat q), .int (Int32.ofNat len)] below meth c Tl ([] ++ copyLocs d q i) 0 0 → Put d Bk s₁ Tl → Laid B Bk q (q + i) (fun j => Value.int (lo8 (cv A (o + (j - q))))) →
      Steps p.tables e below (s₁.setTop (entryFrame m #[.ref b, .int (Int32.ofNat o), .ref d, .int (Int32.ofNat q), .int (Int32.ofNat len)] 7)) (Tl.setTop (mkF m 3 #[.val (.ref b), .val (.int (Int32.ofNat (o + i))), .val (.ref d), .val (.int (Int32.ofNat (q + i))), .val (.int (Int32.ofNat len)), .val (.int (Int32.ofNat i)), z] [])) → ∃ (T' : State) (B' : Cell) (z' : Slot), Stand p l e { frames := 0, locals := 0, cells := 0, slots := 0 } s m #[.ref b, .int (Int32.ofNat o), .ref d, .int (Int32.ofNat q), .int (Int32.ofNat len)] below meth c T' ([] ++ copyLocs d q len) 0 0 ∧ Put d B' s₁ T' ∧ Laid B B' q (q + len) (fun j => Value.int (lo8 (cv A (o + (j - q))))) ∧
      Steps p.tables e below (s₁.setTop (entryFrame m #[.ref b, .int (Int32.ofNat o), .ref d, .int (Int32.ofNat q), .int (Int32.ofNat len)] 7)) (T'.setTop (mkF m 3 #[.val (.ref b), .val (.int (Int32.ofNat (o + len))), .val (.ref d), .val (.int (Int32.ofNat (q + len))), .val (.int (Int32.ofNat len)), .val (.int (Int32.ofNat len)), z'] [])) := by
    intro r
    induction r with
    | zero =>
      intro i hi z hz Tl Bk Xl pl fl cl
      have hil : i = len := by omega
      rw [hil] at Xl fl cl
      exact ⟨Tl, Bk, z, Xl, pl, fl, cl⟩
    | succ r ih =>
      intro i hi z hz Tl Bk Xl pl fl cl
      have all := X0.warmed.alike.symm.trans Xl.warmed.alike
      have hAl := hA0.keep all (pl.other hne hA0.1)
      have hBk := hB0.like all pl.1 fl.1 fl.2.1 fl.2.2.1
      have hlt : q + i < Bk.slots.size := by rw [fl.2.2.1]; omega
      have c3 : Steps p.tables e below (s₁.setTop (entryFrame m #[.ref b, .int (Int32.ofNat o), .ref d, .int (Int32.ofNat q), .int (Int32.ofNat len)] 7)) (Tl.setTop (mkF m 12 #[.val (.ref b), .val (.int (Int32.ofNat (o + i))), .val (.ref d), .val (.int (Int32.ofNat (q + i))), .val (.int (Int32.ofNat len)), .val (.int (Int32.ofNat i)), z] [.int (Int32.ofNat (o + i)), .ref b])) := cl.trans (by
        refine XS.iload Xl.here hexec rfl (hb hbytes d3) rfl ?_
        refine XS.iload Xl.here hexec rfl (hb hbytes d5) rfl ?_
        refine XS.icmpNo Xl.here hexec rfl (hb hbytes d7) rfl (ii_ge_f (lt32 (by omega) (by omega))) ?_
        refine XS.aloadN Xl.here hexec rfl (hb hbytes d10) rfl rfl ?_
        refine XS.iloadN Xl.here hexec rfl (hb hbytes d11) rfl ?_
        exact Steps.refl _)
      have c4 : Steps p.tables e below (s₁.setTop (entryFrame m #[.ref b, .int (Int32.ofNat o), .ref d, .int (Int32.ofNat q), .int (Int32.ofNat len)] 7)) (Tl.setTop (mkF m 13 #[.val (.ref b), .val (.int (Int32.ofNat (o + i))), .val (.ref d), .val (.int (Int32.ofNat (q + i))), .val (.int (Int32.ofNat len)), .val (.int (Int32.ofNat i)), z] [.int (cv A (o + i))])) := c3.trans (by
        refine Xl.aget hexec hAl rfl (hA.get (i := o + i) (by omega)) rfl rfl (hb hbytes d12) ?_
        exact Steps.refl _)
      have c5 : Steps p.tables e below (s₁.setTop (entryFrame m #[.ref b, .int (Int32.ofNat o), .ref d, .int (Int32.ofNat q), .int (Int32.ofNat len)] 7)) (Tl.setTop (mkF m 15 #[.val (.ref b), .val (.int (Int32.ofNat (o + i))), .val (.ref d), .val (.int (Int32.ofNat (q + i))), .val (.int (Int32.ofNat len)), .val (.int (Int32.ofNat i)), .val (.int (cv A (o + i)))] [])) := c4.trans (by
        refine XS.istoreS Xl.here hexec rfl (hb hbytes d13) rfl rfl hz ?_
        exact Steps.refl _)
      have c6 : Steps p.tables e below (s₁.setTop (entryFrame m #[.ref b, .int (Int32.ofNat o), .ref d, .int (Int32.ofNat q), .int (Int32.ofNat len)] 7)) (Tl.setTop (mkF m 31 #[.val (.ref b), .val (.int (Int32.ofNat (o + i))), .val (.ref d), .val (.int (Int32.ofNat (q + i))), .val (.int (Int32.ofNat len)), .val (.int (Int32.ofNat i)), .val (.int (cv A (o + i)))] [.int (lo8 (cv A (o + i))), .int (Int32.ofNat (q + i)), .ref d])) := c5.trans (by
        refine XS.iload Xl.here hexec rfl (hb hbytes d15) rfl ?_
        refine sipushV Xl.here hexec rfl 255 (hb hbytes d17) (by decide) ?_
        refine XS.icmpYes Xl.here hexec rfl (pc0 := 20) rfl (hb hbytes d20) rfl (ii_le_t (hp i (by omega))) (by decide) rfl ?_
        refine XS.aloadN Xl.here hexec rfl (hb hbytes d26) rfl rfl ?_
        refine XS.iloadN Xl.here hexec rfl (hb hbytes d27) rfl ?_
        refine XS.iload Xl.here hexec rfl (hb hbytes d28) rfl ?_
        refine i2b Xl.here hexec rfl (hb hbytes d30) rfl ?_
        exact Steps.refl _)
      obtain ⟨T7, X7, p7, st7⟩ := Xl.aput hexec hBk rfl hlt rfl (fits_lo8 (cv A (o + i))) (g := (mkF m 31 #[.val (.ref b), .val (.int (Int32.ofNat (o + i))), .val (.ref d), .val (.int (Int32.ofNat (q + i))), .val (.int (Int32.ofNat len)), .val (.int (Int32.ofNat i)), .val (.int (cv A (o + i)))] [.int (lo8 (cv A (o + i))), .int (Int32.ofNat (q + i)), .ref d])) rfl (rest := []) rfl (hb hbytes d31)
      have c8 : Steps p.tables e below (s₁.setTop (entryFrame m #[.ref b, .int (Int32.ofNat o), .ref d, .int (Int32.ofNat q), .int (Int32.ofNat len)] 7)) (T7.setTop (mkF m 32 #[.val (.ref b), .val (.int (Int32.ofNat (o + i))), .val (.ref d), .val (.int (Int32.ofNat (q + i))), .val (.int (Int32.ofNat len)), .val (.int (Int32.ofNat i)), .val (.int (cv A (o + i)))] [])) := c6.trans (st7 _ (Steps.refl _))
      have c9 : Steps p.tables e below (s₁.setTop (entryFrame m #[.ref b, .int (Int32.ofNat o), .ref d, .int (Int32.ofNat q), .int (Int32.ofNat len)] 7)) (T7.setTop (mkF m 3 #[.val (.ref b), .val (.int (Int32.ofNat (o + i) + 1)), .val (.ref d), .val (.int (Int32.ofNat (q + i) + 1)), .val (.int (Int32.ofNat len)), .val (.int (Int32.ofNat i + 1)), .val (.int (cv A (o + i)))] [])) := c8.trans (by
        refine iincV X7.here hexec rfl 1 (hb hbytes d32) (by decide) rfl rfl ?_
        refine iincV X7.here hexec rfl 1 (hb hbytes d35) (by decide) rfl rfl ?_
        refine iincV X7.here hexec rfl 1 (hb hbytes d38) (by decide) rfl rfl ?_
        refine XS.goto X7.here hexec rfl (pc0 := 41) rfl (hb hbytes d41) (by decide) rfl ?_
        exact Steps.refl _)
      have c10 : Steps p.tables e below (s₁.setTop (entryFrame m #[.ref b, .int (Int32.ofNat o), .ref d, .int (Int32.ofNat q), .int (Int32.ofNat len)] 7)) (T7.setTop (mkF m 3 #[.val (.ref b), .val (.int (Int32.ofNat (o + (i + 1)))), .val (.ref d), .val (.int (Int32.ofNat (q + (i + 1)))), .val (.int (Int32.ofNat len)), .val (.int (Int32.ofNat (i + 1))), .val (.int (cv A (o + i)))] [])) := by
        have := c9
        rw [succ32, succ32, succ32] at this
        exact this
      exact ih (i + 1) (by omega) _ (Or.inr ⟨_, rfl, rfl⟩) T7 _ (by rw [copyLocs_step, ← List.append_assoc]; exact X7) (pl.trans p7) (fl.step (by omega) hlt (by simp)) c10
  obtain ⟨T9, B9, z9, X9, p9, f9, g9⟩ := loop len 0 (by omega) .unset (Or.inl rfl) s₁ B (by simpa [copyLocs] using X0) ⟨hB0.1, fun _ _ => rfl, rfl⟩ (Laid.zero _ _ _) c2
  have c11 : Steps p.tables e below (s₁.setTop (entryFrame m #[.ref b, .int (Int32.ofNat o), .ref d, .int (Int32.ofNat q), .int (Int32.ofNat len)] 7)) (T9.setTop (mkF m 46 #[.val (.ref b), .val (.int (Int32.ofNat (o + len))), .val (.ref d), .val (.int (Int32.ofNat (q + len))), .val (.int (Int32.ofNat len)), .val (.int (Int32.ofNat len)), z9] [.int (Int32.ofNat len)])) := g9.trans (by
    refine XS.iload X9.here hexec rfl (hb hbytes d3) rfl ?_
    refine XS.iload X9.here hexec rfl (hb hbytes d5) rfl ?_
    refine XS.icmpYes X9.here hexec rfl (pc0 := 7) rfl (hb hbytes d7) rfl (ii_ge_t (nlt32 (by omega) (Nat.le_refl _))) (by decide) rfl ?_
    refine XS.iload X9.here hexec rfl (hb hbytes d44) rfl ?_
    exact Steps.refl _)
  exact ⟨T9, some (.int (Int32.ofNat len)), _, _, _, X9, by simp, rfl, rfl, (fun h => by cases h), ⟨rfl, B9, p9.from hh0, f9⟩, fun fs hl => c11.trans (X9.ireturnOut hexec hret rfl (Or.inl rfl) (hb hbytes d46) hl)⟩
end Cmp5
namespace Cmp3
def yN : MethodName := ⟨"java/lang/StringUTF16", "compress", "([CII)[B"⟩
abbrev yB : ByteArray := jdk_52_method_16_code
theorem d0 : decode yB 0 = .ok (.iload_n 2, 1) := by decide +kernel
theorem d1 : decode yB 1 = .ok (.newarray .byte, 2) := by decide +kernel
theorem d3 : decode yB 3 = .ok (.astore_n 3, 1) := by decide +kernel
theorem d4 : decode yB 4 = .ok (.aload_n 0, 1) := by decide +kernel
theorem d5 : decode yB 5 = .ok (.iload_n 1, 1) := by decide +kernel
theorem d6 : decode yB 6 = .ok (.aload_n 3, 1) := by decide +kernel
theorem d7 : decode yB 7 = .ok (.iconst 0, 1) := by decide +kernel
theorem d8 : decode yB 8 = .ok (.iload_n 2, 1) := by decide +kernel
theorem d9 : decode yB 9 = .ok (.invokestatic 115, 3) := by decide +kernel
theorem d12 : decode yB 12 = .ok (.istore 4, 2) := by decide +kernel
theorem d14 : decode yB 14 = .ok (.iload 4, 2) := by decide +kernel
theorem d16 : decode yB 16 = .ok (.iload_n 2, 1) := by decide +kernel
theorem d17 : decode yB 17 = .ok (.if_icmp (.eq) 40, 3) := by decide +kernel
theorem d57 : decode yB 57 = .ok (.aload_n 3, 1) := by decide +kernel
theorem d58 : decode yB 58 = .ok (.areturn, 1) := by decide +kernel
def site : List Cond := [.arrayClass .byte, Cmp5.tab] ++ staticW U16 115 Cmp5.yN
def tab : Cond := tabOf yN yB 6 (some (.array .byte)) site
def P (b : Addr) (A : Cell) (o len : Nat) (args : Array Value) (s : State) : Prop := args = #[.ref b, .int (Int32.ofNat o), .int (Int32.ofNat len)] ∧ Ch b A s ∧ o + len ≤ A.slots.size ∧ len ≤ 536870912 ∧ ∀ i, i < len → ¬ 255 < cv A (o + i)
def E (b : Addr) (A : Cell) (o len : Nat) (r : Option Value) (s u : State) : Prop := NewArr .byte "[B" len (fun j => .int (lo8 (cv A (o + j)))) r s u ∧ u.heap.size = s.heap.size + 1
/-- no char of the range above 255: a new byte[] of their low bytes -/
theorem law (l : Launch) (b : Addr) (A : Cell) (o len : Nat) : Law l yN 3 3 1 18 yB 6 (some (.array .byte)) site (P b A o len) (E b A o len) [] 1 len := by
  refine Law.of_walk (plainFor_of_name (by decide +kernel)) (by decide +kernel) (by decide +kernel) (by decide) (fun _ _ h => by rw [h.1]; rfl) (fun _ U U' hal hh h => ⟨h.1, h.2.1.mv hal hh, h.2.2⟩) (fun r U U' V V' h1 hal h2 h => ⟨NewArr.mv r U U' V V' h1 hal h2 h.1, by rw [h1, h2]; exact h.2⟩) ?_
  intro p e s m args below meth c s₁ X0 hexec hbytes hml hret hlk hnm hown hh0 W hP
  obtain ⟨rfl, hA, l1, l2, hp⟩ := hP
  have a31 := hA.1.2.2.2
  have c1 : Steps p.tables e below (s₁.setTop (entryFrame m #[.ref b, .int (Int32.ofNat o), .int (Int32.ofNat len)] 6)) (s₁.setTop (mkF m 0 #[.val (.ref b), .val (.int (Int32.ofNat o)), .val (.int (Int32.ofNat len)), .unset, .unset, .unset] [])) := entry rfl
  have c2 : Steps p.tables e below (s₁.setTop (entryFrame m #[.ref b, .int (Int32.ofNat o), .int (Int32.ofNat len)] 6)) (s₁.setTop (mkF m 1 #[.val (.ref b), .val (.int (Int32.ofNat o)), .val (.int (Int32.ofNat len)), .unset, .unset, .unset] [.int (Int32.ofNat len)])) := c1.trans (by
    refine XS.iloadN X0.here hexec rfl (hb hbytes d0) rfl ?_
    exact Steps.refl _)
  obtain ⟨T3, B3, X3, ba3, bs3, bv3, bh3, bf3, st3⟩ := X0.anew hexec (atype := .byte) (wk W (.arrayClass .byte)) rfl (by show len * 1 ≤ _; omega) (by omega) (g := (mkF m 1 #[.val (.ref b), .val (.int (Int32.ofNat o)), .val (.int (Int32.ofNat len)), .unset, .unset, .unset] [.int (Int32.ofNat len)])) rfl (hb hbytes d1) (rest := []) rfl (Nat.le_refl _) (by show 0 + len ≤ len; omega)
  rw [hh0] at ba3 st3
  have kp3 : XT.Kept s T3 := (XT.Kept.of_eq hh0).push bh3
  have hA3 := hA.keep X3.warmed.alike (kp3 _ _ hA.1.1)
  have hne : b ≠ s.heap.size := hA.1.ne
  have c4 : Steps p.tables e below (s₁.setTop (entryFrame m #[.ref b, .int (Int32.ofNat o), .int (Int32.ofNat len)] 6)) (T3.setTop (mkF m 3 #[.val (.ref b), .val (.int (Int32.ofNat o)), .val (.int (Int32.ofNat len)), .unset, .unset, .unset] [.ref s.heap.size])) := c2.trans (st3 _ (Steps.refl _))
  have c5 : Steps p.tables e below (s₁.setTop (entryFrame m #[.ref b, .int (Int32.ofNat o), .int (Int32.ofNat len)] 6)) (T3.setTop (mkF m 9 #[.val (.ref b), .val (.int (Int32.ofNat o)), .val (.int (Int32.ofNat len)), .val (.ref s.heap.size), .unset, .unset] [.int (Int32.ofNat len), .int 0, .ref s.heap.size, .int (Int32.ofNat o), .ref b])) := c4.trans (by
    refine XS.astoreN X3.here hexec rfl (hb hbytes d3) rfl rfl rfl ?_
    refine XS.aloadN X3.here hexec rfl (hb hbytes d4) rfl rfl ?_
    refine XS.iloadN X3.here hexec rfl (hb hbytes d5) rfl ?_
    refine XS.aloadN X3.here hexec rfl (hb hbytes d6) rfl rfl ?_
    refine iconstV X3.here hexec rfl 0 (hb hbytes d7) (by decide) ?_
    refine XS.iloadN X3.here hexec rfl (hb hbytes d8) rfl ?_
    exact Steps.refl _)
  obtain ⟨v6, T6, X6, E6, g6⟩ := X3.callS hexec (Cmp5.law l b A s.heap.size B3 o 0 len) hown (wks W (staticW U16 115 Cmp5.yN)) (wk W Cmp5.tab) (W := 0) (Nat.le_of_ble_eq_true rfl) (Nat.le_of_ble_eq_true rfl) (Nat.le_refl _) (by show 0 + len + 0 ≤ len; omega) (g := (mkF m 9 #[.val (.ref b), .val (.int (Int32.ofNat o)), .val (.int (Int32.ofNat len)), .val (.ref s.heap.size), .unset, .unset] [.int (Int32.ofNat len), .int (Int32.ofNat 0), .ref s.heap.size, .int (Int32.ofNat o), .ref b])) rfl (by rw [hml]; rfl) c5 (argsL := [.ref b, .int (Int32.ofNat o), .ref s.heap.size, .int (Int32.ofNat 0), .int (Int32.ofNat len)]) (rest := []) rfl rfl (by show 2 * 0 + 0 ≤ _; decide) (hb hbytes d9) (⟨rfl, hA3, ba3, hne, l1, by rw [bs3]; simp, hp⟩)
  obtain ⟨rfl, B6, p6, f6⟩ := E6
  have c7 : Steps p.tables e below (s₁.setTop (entryFrame m #[.ref b, .int (Int32.ofNat o), .int (Int32.ofNat len)] 6)) (T6.setTop (mkF m 12 #[.val (.ref b), .val (.int (Int32.ofNat o)), .val (.int (Int32.ofNat len)), .val (.ref s.heap.size), .unset, .unset] [.int (Int32.ofNat len)])) := g6
  have c8 : Steps p.tables e below (s₁.setTop (entryFrame m #[.ref b, .int (Int32.ofNat o), .int (Int32.ofNat len)] 6)) (T6.setTop (mkF m 58 #[.val (.ref b), .val (.int (Int32.ofNat o)), .val (.int (Int32.ofNat len)), .val (.ref s.heap.size), .val (.int (Int32.ofNat len)), .unset] [.ref s.heap.size])) := c7.trans (by
    refine XS.istore X6.here hexec rfl (hb hbytes d12) rfl rfl ?_
    refine XS.iload X6.here hexec rfl (hb hbytes d14) rfl ?_
    refine XS.iloadN X6.here hexec rfl (hb hbytes d16) rfl ?_
    refine XS.icmpYes X6.here hexec rfl (pc0 := 17) rfl (hb hbytes d17) rfl (ii_eq_t rfl) (by decide) rfl ?_
    refine XS.aloadN X6.here hexec rfl (hb hbytes d57) rfl rfl ?_
    exact Steps.refl _)
  have X8 := X6.wide (L' := []) (cells' := 1) (slots' := len) (fun x hx hlt => by
    simp only [List.nil_append, copyLocs, List.mem_map, List.mem_range] at hx
    obtain ⟨i, -, rfl⟩ := hx
    exact absurd hlt (Nat.lt_irrefl _)) (Nat.le_refl _) (by omega)
  exact ⟨T6, some (.ref s.heap.size), _, _, _, X8, rfl, rfl, rfl, (fun h => by cases h), ⟨⟨rfl, B6, ba3.like (X3.warmed.alike.symm.trans X6.warmed.alike) p6.1 f6.1 f6.2.1 f6.2.2.1, f6.2.1.trans bv3, by rw [X6.warmed.alike.findClass, f6.1]; exact bf3, by rw [f6.2.2.1, bs3]; simp, fun j hj => by rw [f6.2.2.2 j, if_pos (by omega)]; rfl, kp3.put p6 (Nat.le_refl _)⟩, by rw [p6.2.2, bh3, hh0]; simp⟩, fun fs hl => c8.trans (X8.areturnOut hexec rfl hret rfl (hb hbytes d58) hl)⟩
end Cmp3
namespace CodL
def yN : MethodName := ⟨"java/lang/StringUTF16", "coderFromArrayLen", "([BI)B"⟩
abbrev yB : ByteArray := jdk_52_method_15_code
theorem d0 : decode yB 0 = .ok (.iload_n 1, 1) := by decide +kernel
theorem d1 : decode yB 1 = .ok (.aload_n 0, 1) := by decide +kernel
theorem d2 : decode yB 2 = .ok (.arraylength, 1) := by decide +kernel
theorem d3 : decode yB 3 = .ok (.isub, 1) := by decide +kernel
theorem d4 : decode yB 4 = .ok (.bipush 31, 2) := by decide +kernel
theorem d6 : decode yB 6 = .ok (.iushr, 1) := by decide +kernel
theorem d7 : decode yB 7 = .ok (.i2b, 1) := by decide +kernel
theorem d8 : decode yB 8 = .ok (.ireturn, 1) := by decide +kernel
def site : List Cond := []
def tab : Cond := tabOf yN yB 2 (some .byte) site
def P (d : Addr) (B : Cell) (args : Array Value) (s : State) : Prop := args = #[.ref d, .int (Int32.ofNat B.slots.size)] ∧ Arr .byte d B s
def E (r : Option Value) (s u : State) : Prop := XT.PureE (some (.int 0)) r s u
/-- an array as long as the number of chars: LATIN1 -/
theorem law (l : Launch) (d : Addr) (B : Cell) : Law l yN 2 2 0 0 yB 2 (some .byte) site (P d B) E [] 0 0 := by
  refine Law.of_walk (plainFor_of_name (by decide +kernel)) (by decide +kernel) (by decide +kernel) (by decide) (fun _ _ h => by rw [h.1]; rfl) (fun _ U U' hal hh h => ⟨h.1, h.2.mv hal hh⟩) (fun r U U' V V' h1 hal h2 h => XT.PureE.mv r U U' V V' h1 hal h2 h) ?_
  intro p e s m args below meth c s₁ X0 hexec hbytes hml hret hlk hnm hown hh0 W hP
  obtain ⟨rfl, hB⟩ := hP
  have hB0 := hB.mv X0.warmed.alike hh0
  have c1 : Steps p.tables e below (s₁.setTop (entryFrame m #[.ref d, .int (Int32.ofNat B.slots.size)] 2)) (s₁.setTop (mkF m 0 #[.val (.ref d), .val (.int (Int32.ofNat B.slots.size))] [])) := entry rfl
  have c2 : Steps p.tables e below (s₁.setTop (entryFrame m #[.ref d, .int (Int32.ofNat B.slots.size)] 2)) (s₁.setTop (mkF m 2 #[.val (.ref d), .val (.int (Int32.ofNat B.slots.size))] [.ref d, .int (Int32.ofNat B.slots.size)])) := c1.trans (by
    refine XS.iloadN X0.here hexec rfl (hb hbytes d0) rfl ?_
    refine XS.aloadN X0.here hexec rfl (hb hbytes d1) rfl rfl ?_
    exact Steps.refl _)
  have c3 : Steps p.tables e below (s₁.setTop (entryFrame m #[.ref d, .int (Int32.ofNat B.slots.size)] 2)) (s₁.setTop (mkF m 8 #[.val (.ref d), .val (.int (Int32.ofNat B.slots.size))] [.int (lo8 (ushr (Int32.ofNat B.slots.size - Int32.ofNat B.slots.size) 31))])) := c2.trans (by
    refine X0.alen hexec hB0 rfl rfl (hb hbytes d2) ?_
    refine XS.isub X0.here hexec rfl (hb hbytes d3) rfl ?_
    refine bipushV X0.here hexec rfl 31 (hb hbytes d4) (by decide) ?_
    refine iushr X0.here hexec rfl (hb hbytes d6) rfl ?_
    refine i2b X0.here hexec rfl (hb hbytes d7) rfl ?_
    exact Steps.refl _)
  have e0 : lo8 (ushr (Int32.ofNat B.slots.size - Int32.ofNat B.slots.size) 31) = 0 := by rw [Int32.sub_self]; decide
  rw [e0] at c3
  exact ⟨s₁, some (.int 0), _, _, _, X0, rfl, rfl, rfl, (fun h => by cases h), ⟨rfl, hh0⟩, fun fs hl => c3.trans (X0.ireturnOut hexec hret rfl (Or.inr (Or.inr (Or.inl rfl))) (hb hbytes d8) hl)⟩
end CodL
/-- the String at a is Latin-1 over a new byte[] (the heap's one new cell): the low bytes of the len chars of A from o on; every cell but a is kept -/
def Got (a : Addr) (D : Cell) (fV fC : Field) (A : Cell) (o len : Nat) (r : Option Value) (s u : State) : Prop := r = none ∧ ∃ D' V : Cell, Blank "java/lang/String" a D' u ∧ Same D D' [fV.slot, fC.slot] ∧ D'.slots[fV.slot]? = some (.ref s.heap.size) ∧ D'.slots[fC.slot]? = some (.int 0) ∧ Arr .byte s.heap.size V u ∧ V.vm = .none ∧ u.vm.findClass "[B" = some V.cls ∧ V.slots.size = len ∧ (∀ j, j < len → V.slots[j]? = some (.int (lo8 (cv A (o + j))))) ∧ (∀ (y : Addr) (c : Cell), y ≠ a → s.heap[y]? = some c → u.heap[y]? = some c) ∧ u.heap.size = s.heap.size + 1
theorem Got.mv {a : Addr} {D A : Cell} {fV fC : Field} {o len : Nat} : ∀ r (U U' V V' : State), U'.heap = U.heap → V.vm.Alike V'.vm → V'.heap = V.heap → Got a D fV fC A o len r U V → Got a D fV fC A o len r U' V' :=
  fun r U U' V V' h1 hal h2 ⟨e0, D', X, a1, a2, a3, a4, a5, a6, a7, a8, a9, a10, a11⟩ => ⟨e0, D', X, a1.mv hal h2, a2, by rw [h1]; exact a3, a4, by rw [h1]; exact a5.mv hal h2, a6, by rw [hal.findClass]; exact a7, a8, a9, by rw [h1, h2]; exact a10, by rw [h1, h2]; exact a11⟩
namespace New4
def yN : MethodName := ⟨"java/lang/String", "<init>", "([CIILjava/lang/Void;)V"⟩
abbrev yB : ByteArray := jdk_42_method_149_code
theorem d0 : decode yB 0 = .ok (.aload_n 0, 1) := by decide +kernel
theorem d1 : decode yB 1 = .ok (.invokespecial 1, 3) := by decide +kernel
theorem d4 : decode yB 4 = .ok (.iload_n 3, 1) := by decide +kernel
theorem d5 : decode yB 5 = .ok (.ifCond (.ne) 22, 3) := by decide +kernel
theorem d27 : decode yB 27 = .ok (.getstatic 38, 3) := by decide +kernel
theorem d30 : decode yB 30 = .ok (.ifCond (.eq) 28, 3) := by decide +kernel
theorem d33 : decode yB 33 = .ok (.aload_n 1, 1) := by decide +kernel
theorem d34 : decode yB 34 = .ok (.iload_n 2, 1) := by decide +kernel
theorem d35 : decode yB 35 = .ok (.iload_n 3, 1) := by decide +kernel
theorem d36 : decode yB 36 = .ok (.invokestatic 177, 3) := by decide +kernel
theorem d39 : decode yB 39 = .ok (.astore 5, 2) := by decide +kernel
theorem d41 : decode yB 41 = .ok (.aload_n 0, 1) := by decide +kernel
theorem d42 : decode yB 42 = .ok (.aload 5, 2) := by decide +kernel
theorem d44 : decode yB 44 = .ok (.iload_n 3, 1) := by decide +kernel
theorem d45 : decode yB 45 = .ok (.invokestatic 47, 3) := by decide +kernel
theorem d48 : decode yB 48 = .ok (.putfield 15, 3) := by decide +kernel
theorem d51 : decode yB 51 = .ok (.aload_n 0, 1) := by decide +kernel
theorem d52 : decode yB 52 = .ok (.aload 5, 2) := by decide +kernel
theorem d54 : decode yB 54 = .ok (.putfield 9, 3) := by decide +kernel
theorem d57 : decode yB 57 = .ok (.return_, 1) := by decide +kernel
def site : List Cond := [.fieldLink "java/lang/String" 38 "java/lang/String" "COMPACT_STRINGS" "Z", Cmp3.tab, CodL.tab, .laysFinal "java/lang/String" "java/lang/String" "value" "[B", .fieldLink "java/lang/String" 9 "java/lang/String" "value" "[B", .laysFinal "java/lang/String" "java/lang/String" "coder" "B", .fieldLink "java/lang/String" 15 "java/lang/String" "coder" "B"] ++ objW "java/lang/String" 1 ++ staticW "java/lang/String" 177 Cmp3.yN ++ staticW "java/lang/String" 47 CodL.yN
def tab : Cond := tabOf yN yB 6 none site
def P (a : Addr) (D : Cell) (fV fC : Field) (b : Addr) (A : Cell) (z : Int32) (o len : Nat) (args : Array Value) (s : State) : Prop := args = #[.ref a, .ref b, .int (Int32.ofNat o), .int (Int32.ofNat len), .null] ∧ Blank "java/lang/String" a D s ∧ Found "java/lang/String" "value" "[B" fV s ∧ Found "java/lang/String" "coder" "B" fC s ∧ Ch b A s ∧ StaticIs s "java/lang/String" "COMPACT_STRINGS" "Z" (.int z) ∧ ¬ z = 0 ∧ 0 < len ∧ o + len ≤ A.slots.size ∧ len ≤ 536870912 ∧ ∀ i, i < len → ¬ 255 < cv A (o + i)
def E (a : Addr) (D : Cell) (fV fC : Field) (A : Cell) (o len : Nat) (r : Option Value) (s u : State) : Prop := Got a D fV fC A o len r s u
/-- len > 0, no char of the range above 255: a Latin-1 String of their low bytes -/
theorem law (l : Launch) (a : Addr) (D : Cell) (fV fC : Field) (b : Addr) (A : Cell) (z : Int32) (o len : Nat) : Law l yN 5 4 2 35 yB 6 none site (P a D fV fC b A z o len) (E a D fV fC A o len) [⟨a, fC.slot⟩, ⟨a, fV.slot⟩] 1 len := by
  refine Law.of_walk (plainFor_of_name (by decide +kernel)) (by decide +kernel) (by decide +kernel) (by decide) (fun _ _ h => by rw [h.1]; rfl) (fun _ U U' hal hh h => ⟨h.1, h.2.1.mv hal hh, h.2.2.1.al hal, h.2.2.2.1.al hal, h.2.2.2.2.1.mv hal hh, h.2.2.2.2.2.1.there hal hh, h.2.2.2.2.2.2⟩) (fun r U U' V V' h1 hal h2 h => Got.mv r U U' V V' h1 hal h2 h) ?_
  intro p e s m args below meth c s₁ X0 hexec hbytes hml hret hlk hnm hown hh0 W hP
  obtain ⟨rfl, hB, f1, f2, hA, s1, hz, l0, l1, l2, hp⟩ := hP
  have a31 := hA.1.2.2.2
  have c1 : Steps p.tables e below (s₁.setTop (entryFrame m #[.ref a, .ref b, .int (Int32.ofNat o), .int (Int32.ofNat len), .null] 6)) (s₁.setTop (mkF m 0 #[.val (.ref a), .val (.ref b), .val (.int (Int32.ofNat o)), .val (.int (Int32.ofNat len)), .val .null, .unset] [])) := entry rfl
  have c2 : Steps p.tables e below (s₁.setTop (entryFrame m #[.ref a, .ref b, .int (Int32.ofNat o), .int (Int32.ofNat len), .null] 6)) (s₁.setTop (mkF m 1 #[.val (.ref a), .val (.ref b), .val (.int (Int32.ofNat o)), .val (.int (Int32.ofNat len)), .val .null, .unset] [.ref a])) := c1.trans (by
    refine XS.aloadN X0.here hexec rfl (hb hbytes d0) rfl rfl ?_
    exact Steps.refl _)
  obtain ⟨T3, X3, q3, st3⟩ := X0.oinit hexec hown (wks W (objW "java/lang/String" 1)) (g := (mkF m 1 #[.val (.ref a), .val (.ref b), .val (.int (Int32.ofNat o)), .val (.int (Int32.ofNat len)), .val .null, .unset] [.ref a])) rfl (by rw [hml]; rfl) (rest := []) rfl (hb hbytes d1) (W := 0) (by show 2 * 0 + 0 ≤ _; decide) (Nat.le_of_ble_eq_true rfl) (Nat.le_of_ble_eq_true rfl)
  have hh3 := q3.trans hh0
  have c4 : Steps p.tables e below (s₁.setTop (entryFrame m #[.ref a, .ref b, .int (Int32.ofNat o), .int (Int32.ofNat len), .null] 6)) (T3.setTop (mkF m 27 #[.val (.ref a), .val (.ref b), .val (.int (Int32.ofNat o)), .val (.int (Int32.ofNat len)), .val .null, .unset] [])) := (c2.trans (st3 _ (Steps.refl _))).trans (by
    refine XS.iloadN X3.here hexec rfl (hb hbytes d4) rfl ?_
    refine XS.ifYes X3.here hexec rfl (pc0 := 5) rfl (hb hbytes d5) rfl (i0_ne_t (nz32 (by omega) l0)) (by decide) rfl ?_
    exact Steps.refl _)
  obtain ⟨T5, X5, q5, st5⟩ := X3.sget hexec hown (wk W (.fieldLink "java/lang/String" 38 "java/lang/String" "COMPACT_STRINGS" "Z")) s1 (fun _ _ h => by rw [hh3]; exact h) (g := (mkF m 27 #[.val (.ref a), .val (.ref b), .val (.int (Int32.ofNat o)), .val (.int (Int32.ofNat len)), .val .null, .unset] [])) rfl (hb hbytes d27)
  have hh5 := q5.trans hh3
  have c6 : Steps p.tables e below (s₁.setTop (entryFrame m #[.ref a, .ref b, .int (Int32.ofNat o), .int (Int32.ofNat len), .null] 6)) (T5.setTop (mkF m 30 #[.val (.ref a), .val (.ref b), .val (.int (Int32.ofNat o)), .val (.int (Int32.ofNat len)), .val .null, .unset] [.int z])) := c4.trans (st5 _ (Steps.refl _))
  have c7 : Steps p.tables e below (s₁.setTop (entryFrame m #[.ref a, .ref b, .int (Int32.ofNat o), .int (Int32.ofNat len), .null] 6)) (T5.setTop (mkF m 36 #[.val (.ref a), .val (.ref b), .val (.int (Int32.ofNat o)), .val (.int (Int32.ofNat len)), .val .null, .unset] [.int (Int32.ofNat len), .int (Int32.ofNat o), .ref b])) := c6.trans (by
    refine XS.ifNo X5.here hexec rfl (hb hbytes d30) rfl (i0_eq_f hz) ?_
    refine XS.aloadN X5.here hexec rfl (hb hbytes d33) rfl rfl ?_
    refine XS.iloadN X5.here hexec rfl (hb hbytes d34) rfl ?_
    refine XS.iloadN X5.here hexec rfl (hb hbytes d35) rfl ?_
    exact Steps.refl _)
  obtain ⟨v8, T8, X8, E8, g8⟩ := X5.callS hexec (Cmp3.law l b A o len) hown (wks W (staticW "java/lang/String" 177 Cmp3.yN)) (wk W Cmp3.tab) (W := 0) (Nat.le_of_ble_eq_true rfl) (Nat.le_of_ble_eq_true rfl) (Nat.le_refl _) (by show 0 + len ≤ len; omega) (g := (mkF m 36 #[.val (.ref a), .val (.ref b), .val (.int (Int32.ofNat o)), .val (.int (Int32.ofNat len)), .val .null, .unset] [.int (Int32.ofNat len), .int (Int32.ofNat o), .ref b])) rfl (by rw [hml]; rfl) c7 (argsL := [.ref b, .int (Int32.ofNat o), .int (Int32.ofNat len)]) (rest := []) rfl rfl (by show 2 * 0 + 0 ≤ _; decide) (hb hbytes d36) (⟨rfl, hA.mv X5.warmed.alike hh5, l1, l2, hp⟩)
  obtain ⟨e8, z8⟩ := E8
  obtain ⟨rfl, N, n1, n2, n3, n4, n5, n6⟩ := NewArr.mv _ T5 s _ _ hh5.symm (Vm.Alike.refl _) rfl e8
  rw [hh5] at z8
  have hB1 := hB.keep X8.warmed.alike (n6 _ _ hB.1)
  have hne : s.heap.size ≠ a := (Nat.ne_of_lt (Array.getElem?_eq_some_iff.mp hB.1).1).symm
  have c9 : Steps p.tables e below (s₁.setTop (entryFrame m #[.ref a, .ref b, .int (Int32.ofNat o), .int (Int32.ofNat len), .null] 6)) (T8.setTop (mkF m 39 #[.val (.ref a), .val (.ref b), .val (.int (Int32.ofNat o)), .val (.int (Int32.ofNat len)), .val .null, .unset] [.ref s.heap.size])) := g8
  have c10 : Steps p.tables e below (s₁.setTop (entryFrame m #[.ref a, .ref b, .int (Int32.ofNat o), .int (Int32.ofNat len), .null] 6)) (T8.setTop (mkF m 45 #[.val (.ref a), .val (.ref b), .val (.int (Int32.ofNat o)), .val (.int (Int32.ofNat len)), .val .null, .val (.ref s.heap.size)] [.int (Int32.ofNat N.slots.size), .ref s.heap.size, .ref a])) := by
    have hc : Steps p.tables e below (s₁.setTop (entryFrame m #[.ref a, .ref b, .int (Int32.ofNat o), .int (Int32.ofNat len), .null] 6)) (T8.setTop (mkF m 45 #[.val (.ref a), .val (.ref b), .val (.int (Int32.ofNat o)), .val (.int (Int32.ofNat len)), .val .null, .val (.ref s.heap.size)] [.int (Int32.ofNat len), .ref s.heap.size, .ref a])) := c9.trans (by
      refine XS.astore X8.here hexec rfl (hb hbytes d39) rfl rfl rfl ?_
      refine XS.aloadN X8.here hexec rfl (hb hbytes d41) rfl rfl ?_
      refine XS.aload X8.here hexec rfl (hb hbytes d42) rfl rfl ?_
      refine XS.iloadN X8.here hexec rfl (hb hbytes d44) rfl ?_
      exact Steps.refl _)
    rw [n4]; exact hc
  obtain ⟨v11, T11, X11, E11, g11⟩ := X8.callS hexec (CodL.law l s.heap.size N) hown (wks W (staticW "java/lang/String" 47 CodL.yN)) (wk W CodL.tab) (W := 1) (Nat.le_of_ble_eq_true rfl) (Nat.le_of_ble_eq_true rfl) (Nat.le_refl _) (by show 0 + len + 0 ≤ len; omega) (g := (mkF m 45 #[.val (.ref a), .val (.ref b), .val (.int (Int32.ofNat o)), .val (.int (Int32.ofNat len)), .val .null, .val (.ref s.heap.size)] [.int (Int32.ofNat N.slots.size), .ref s.heap.size, .ref a])) rfl (by rw [hml]; rfl) c10 (argsL := [.ref s.heap.size, .int (Int32.ofNat N.slots.size)]) (rest := [.ref a]) rfl rfl (by show 2 * 0 + (1 + 0) ≤ _; decide) (hb hbytes d45) (⟨rfl, n1⟩)
  obtain ⟨rfl, q11⟩ := E11
  have hB11 := hB1.mv (X8.warmed.alike.symm.trans X11.warmed.alike) q11
  have c12 : Steps p.tables e below (s₁.setTop (entryFrame m #[.ref a, .ref b, .int (Int32.ofNat o), .int (Int32.ofNat len), .null] 6)) (T11.setTop (mkF m 48 #[.val (.ref a), .val (.ref b), .val (.int (Int32.ofNat o)), .val (.int (Int32.ofNat len)), .val .null, .val (.ref s.heap.size)] [.int 0, .ref a])) := g11
  obtain ⟨T13, X13, p13, bl13, sl13, st13⟩ := X11.finit hexec hown (wk W (.fieldLink "java/lang/String" 15 "java/lang/String" "coder" "B")) (Or.inr ⟨_, (wk W (.laysFinal "java/lang/String" "java/lang/String" "coder" "B"))⟩) (Or.inl ⟨rfl, hnm⟩) f2 (Or.inl rfl) hB11 (t := .byte) (by decide +kernel) rfl (g := (mkF m 48 #[.val (.ref a), .val (.ref b), .val (.int (Int32.ofNat o)), .val (.int (Int32.ofNat len)), .val .null, .val (.ref s.heap.size)] [.int 0, .ref a])) rfl (rest := []) rfl (hb hbytes d48)
  have c14 : Steps p.tables e below (s₁.setTop (entryFrame m #[.ref a, .ref b, .int (Int32.ofNat o), .int (Int32.ofNat len), .null] 6)) (T13.setTop (mkF m 54 #[.val (.ref a), .val (.ref b), .val (.int (Int32.ofNat o)), .val (.int (Int32.ofNat len)), .val .null, .val (.ref s.heap.size)] [.ref s.heap.size, .ref a])) := (c12.trans (st13 _ (Steps.refl _))).trans (by
    refine XS.aloadN X13.here hexec rfl (hb hbytes d51) rfl rfl ?_
    refine XS.aload X13.here hexec rfl (hb hbytes d52) rfl rfl ?_
    exact Steps.refl _)
  obtain ⟨T15, X15, p15, bl15, sl15, st15⟩ := X13.finit hexec hown (wk W (.fieldLink "java/lang/String" 9 "java/lang/String" "value" "[B")) (Or.inr ⟨_, (wk W (.laysFinal "java/lang/String" "java/lang/String" "value" "[B"))⟩) (Or.inl ⟨rfl, hnm⟩) f1 (Or.inl rfl) bl13 (t := (.array .byte)) (by decide +kernel) rfl (g := (mkF m 54 #[.val (.ref a), .val (.ref b), .val (.int (Int32.ofNat o)), .val (.int (Int32.ofNat len)), .val .null, .val (.ref s.heap.size)] [.ref s.heap.size, .ref a])) rfl (rest := []) rfl (hb hbytes d54)
  have c16 : Steps p.tables e below (s₁.setTop (entryFrame m #[.ref a, .ref b, .int (Int32.ofNat o), .int (Int32.ofNat len), .null] 6)) (T15.setTop (mkF m 57 #[.val (.ref a), .val (.ref b), .val (.int (Int32.ofNat o)), .val (.int (Int32.ofNat len)), .val .null, .val (.ref s.heap.size)] [])) := c14.trans (st15 _ (Steps.refl _))
  have ap := apart (Or.inr ⟨_, (wk W (.laysFinal "java/lang/String" "java/lang/String" "value" "[B"))⟩) (Or.inr ⟨_, (wk W (.laysFinal "java/lang/String" "java/lang/String" "coder" "B"))⟩) f1 f2 (t₁ := .array .byte) (t₂ := .byte) (by decide +kernel) (by decide +kernel) (by decide)
  have al := X8.warmed.alike.symm.trans X15.warmed.alike
  have n7 : T11.heap[s.heap.size]? = some N := by rw [q11]; exact n1.1
  exact ⟨T15, none, _, _, _, X15, by simp, rfl, by omega, (fun _ => rfl), ⟨rfl, _, N, bl15, ((Same.refl D _).set _ (by simp)).set _ (by simp), sl15, (Cell.slots_setSlot_ne _ ap).trans sl13, n1.keep al (p15.other hne (p13.other hne n7)), n2, by rw [al.findClass]; exact n3, n4, n5, fun y c h1 h2 => p15.other h1 (p13.other h1 (by rw [q11]; exact n6 y c h2)), by rw [p15.2.2, p13.2.2, q11]; exact z8⟩, fun fs hl => c16.trans (X15.returnOut hexec hret (hb hbytes d57) hl)⟩
end New4
namespace New1
def yN : MethodName := ⟨"java/lang/String", "<init>", "([C)V"⟩
abbrev yB : ByteArray := jdk_42_method_3_code
theorem d0 : decode yB 0 = .ok (.aload_n 0, 1) := by decide +kernel
theorem d1 : decode yB 1 = .ok (.aload_n 1, 1) := by decide +kernel
theorem d2 : decode yB 2 = .ok (.iconst 0, 1) := by decide +kernel
theorem d3 : decode yB 3 = .ok (.aload_n 1, 1) := by decide +kernel
theorem d4 : decode yB 4 = .ok (.arraylength, 1) := by decide +kernel
theorem d5 : decode yB 5 = .ok (.aconst_null, 1) := by decide +kernel
theorem d6 : decode yB 6 = .ok (.invokespecial 27, 3) := by decide +kernel
theorem d9 : decode yB 9 = .ok (.return_, 1) := by decide +kernel
def site : List Cond := [New4.tab] ++ initW "java/lang/String" 27 New4.yN
def tab : Cond := tabOf yN yB 2 none site
def P (a : Addr) (D : Cell) (fV fC : Field) (b : Addr) (A : Cell) (z : Int32) (args : Array Value) (s : State) : Prop := args = #[.ref a, .ref b] ∧ Blank "java/lang/String" a D s ∧ Found "java/lang/String" "value" "[B" fV s ∧ Found "java/lang/String" "coder" "B" fC s ∧ Ch b A s ∧ StaticIs s "java/lang/String" "COMPACT_STRINGS" "Z" (.int z) ∧ ¬ z = 0 ∧ 0 < A.slots.size ∧ A.slots.size ≤ 536870912 ∧ ∀ i, i < A.slots.size → ¬ 255 < cv A i
def E (a : Addr) (D : Cell) (fV fC : Field) (A : Cell) (r : Option Value) (s u : State) : Prop := Got a D fV fC A 0 A.slots.size r s u
/-- new String(chars), not empty, no char above 255: a Latin-1 String of their low bytes -/
theorem law (l : Launch) (a : Addr) (D : Cell) (fV fC : Field) (b : Addr) (A : Cell) (z : Int32) : Law l yN 2 1 3 52 yB 2 none site (P a D fV fC b A z) (E a D fV fC A) [⟨a, fC.slot⟩, ⟨a, fV.slot⟩] 1 A.slots.size := by
  refine Law.of_walk (plainFor_of_name (by decide +kernel)) (by decide +kernel) (by decide +kernel) (by decide) (fun _ _ h => by rw [h.1]; rfl) (fun _ U U' hal hh h => ⟨h.1, h.2.1.mv hal hh, h.2.2.1.al hal, h.2.2.2.1.al hal, h.2.2.2.2.1.mv hal hh, h.2.2.2.2.2.1.there hal hh, h.2.2.2.2.2.2⟩) (fun r U U' V V' h1 hal h2 h => Got.mv r U U' V V' h1 hal h2 h) ?_
  intro p e s m args below meth c s₁ X0 hexec hbytes hml hret hlk hnm hown hh0 W hP
  obtain ⟨rfl, hB, f1, f2, hA, s1, hz, l0, l2, hp⟩ := hP
  have c1 : Steps p.tables e below (s₁.setTop (entryFrame m #[.ref a, .ref b] 2)) (s₁.setTop (mkF m 0 #[.val (.ref a), .val (.ref b)] [])) := entry rfl
  have c2 : Steps p.tables e below (s₁.setTop (entryFrame m #[.ref a, .ref b] 2)) (s₁.setTop (mkF m 6 #[.val (.ref a), .val (.ref b)] [.null, .int (Int32.ofNat A.slots.size), .int 0, .ref b, .ref a])) := c1.trans (by
    refine XS.aloadN X0.here hexec rfl (hb hbytes d0) rfl rfl ?_
    refine XS.aloadN X0.here hexec rfl (hb hbytes d1) rfl rfl ?_
    refine iconstV X0.here hexec rfl 0 (hb hbytes d2) (by decide) ?_
    refine XS.aloadN X0.here hexec rfl (hb hbytes d3) rfl rfl ?_
    refine X0.alen hexec (hA.1.mv X0.warmed.alike hh0) rfl rfl (hb hbytes d4) ?_
    refine XS.aconstNull X0.here hexec rfl (hb hbytes d5) ?_
    exact Steps.refl _)
  obtain ⟨v3, T3, X3, E3, g3⟩ := X0.callN hexec (New4.law l a D fV fC b A z 0 A.slots.size) rfl hown (wks W (initW "java/lang/String" 27 New4.yN)) (W New4.tab (by simp only [site, List.mem_cons, List.mem_append, true_or, or_true])) (W := 0) (Nat.le_of_ble_eq_true rfl) (Nat.le_of_ble_eq_true rfl) (Nat.le_refl _) (by show 0 + A.slots.size ≤ A.slots.size; omega) (g := (mkF m 6 #[.val (.ref a), .val (.ref b)] [.null, .int (Int32.ofNat A.slots.size), .int (Int32.ofNat 0), .ref b, .ref a])) rfl (by rw [hml]; rfl) c2 (argsL := [.ref b, .int (Int32.ofNat 0), .int (Int32.ofNat A.slots.size), .null]) (rest := []) rfl rfl (by show 2 * 0 + 0 ≤ _; decide) (hb hbytes d6) (⟨rfl, hB.mv X0.warmed.alike hh0, f1.al X0.warmed.alike, f2.al X0.warmed.alike, hA.mv X0.warmed.alike hh0, s1.there X0.warmed.alike hh0, hz, l0, by omega, l2, fun i hi => by rw [Nat.zero_add]; exact hp i hi⟩)
  have e0 := Got.mv _ s₁ s _ _ hh0.symm (Vm.Alike.refl _) rfl E3
  obtain rfl := e0.1
  have c4 : Steps p.tables e below (s₁.setTop (entryFrame m #[.ref a, .ref b] 2)) (T3.setTop (mkF m 9 #[.val (.ref a), .val (.ref b)] [])) := g3
  exact ⟨T3, none, _, _, _, X3, by simp, rfl, by omega, (fun _ => rfl), e0, fun fs hl => c4.trans (X3.returnOut hexec hret (hb hbytes d9) hl)⟩
theorem pays {l : Launch} {R : Room} {p : Program} {e : Env} {below : List Frame} {s : State} {sargs : Array Value} {len W : Nat} (a : Addr) (D : Cell) (fV fC : Field) (b : Addr) (A : Cell) (z : Int32) (htab : tab.before sargs s = true) (hfr : 4 ≤ R.frames) (hlo : W + 65 ≤ R.locals) :
    Back l R p e below s sargs yN len W (fun A₁ a₁ => A₁.cells + 1 ≤ R.cells ∧ A₁.slots + A.slots.size ≤ R.slots ∧ P a D fV fC b A z a₁ A₁.U) (fun A₁ _ v₁ B₁ => E a D fV fC A v₁ A₁.U B₁.U ∧ B₁.locs = A₁.locs ++ [⟨a, fC.slot⟩, ⟨a, fV.slot⟩] ∧ B₁.cells = A₁.cells + 1 ∧ B₁.slots = A₁.slots + A.slots.size) :=
  (law l a D fV fC b A z).pays htab hfr (by omega)
end New1
end StrChars
namespace StrChars.Road
open Jvm Sem ClassFile Op Lib Jvm.Stand Jvm.Free Jvm.Free.XT
open Jvm.Lib.Cold (StaticIs)
abbrev ST : String := "java/lang/String"
/-- every table word that New1's law asks, flat -/
abbrev words : List Jvm.Cond := [.code New1.yN New1.yB 2 none, .initialized ST, .methodLink ST 27 New4.yN, .instanceMethod New4.yN,
  .code New4.yN New4.yB 6 none, .fieldLink ST 38 ST "COMPACT_STRINGS" "Z", .laysFinal ST ST "value" "[B", .fieldLink ST 9 ST "value" "[B", .laysFinal ST ST "coder" "B", .fieldLink ST 15 ST "coder" "B",
  .methodLink ST 1 Lib.objectInit, .instanceMethod Lib.objectInit, .code Lib.objectInit ⟨#[0xb1]⟩ 1 none, .methodLink ST 177 Cmp3.yN, .static Cmp3.yN, .methodLink ST 47 CodL.yN, .static CodL.yN,
  .code Cmp3.yN Cmp3.yB 6 (some (.array .byte)), .initialized U16, .arrayClass .byte, .methodLink U16 115 Cmp5.yN, .static Cmp5.yN, .code Cmp5.yN Cmp5.yB 7 (some .int), .code CodL.yN CodL.yB 2 (some .byte)]
theorem tab_of {a : Array Value} {s : State} (h : ∀ w ∈ words, w.before a s = true) : New1.tab.before a s = true := by
  have h5 : Cmp5.tab.before a s = true := unparts (wk h (.code Cmp5.yN Cmp5.yB 7 (some .int))) (wks h (.initialized Cmp5.yN.cls :: Cmp5.site))
  have hc : CodL.tab.before a s = true := unparts (wk h (.code CodL.yN CodL.yB 2 (some .byte))) (wks h (.initialized CodL.yN.cls :: CodL.site))
  have q5 : ∀ w ∈ Cmp5.tab :: words, w.before a s = true := fun w hw => (List.mem_cons.mp hw).elim (fun e => e ▸ h5) (h w)
  have h3 : Cmp3.tab.before a s = true := unparts (wk q5 (.code Cmp3.yN Cmp3.yB 6 (some (.array .byte)))) (wks q5 (.initialized Cmp3.yN.cls :: Cmp3.site))
  have q3 : ∀ w ∈ Cmp3.tab :: CodL.tab :: words, w.before a s = true := fun w hw => (List.mem_cons.mp hw).elim (fun e => e ▸ h3) fun hw => (List.mem_cons.mp hw).elim (fun e => e ▸ hc) (h w)
  have h4 : New4.tab.before a s = true := unparts (wk q3 (.code New4.yN New4.yB 6 none)) (wks q3 (.initialized New4.yN.cls :: New4.site))
  have q4 : ∀ w ∈ New4.tab :: words, w.before a s = true := fun w hw => (List.mem_cons.mp hw).elim (fun e => e ▸ h4) (h w)
  exact unparts (wk q4 (.code New1.yN New1.yB 2 none)) (wks q4 (.initialized New1.yN.cls :: New1.site))
/-- the words ride from the start Z to the walk's own state -/
theorem moved {Z s : State} {a0 args : Array Value} (hZ : Z.Warmed39 s.vm) (hw : ∀ d ∈ words, d.before a0 Z = true) : ∀ d ∈ words, d.before args s = true := fun d hd => by
  have q := hw d hd
  have t : ∀ d ∈ words, d = .arrayClass .byte ∨ (d.onTables && d.keepsFace) = true := by decide +kernel
  rcases t d hd with rfl | t
  · exact RoadKit.mvA hZ q
  · exact RoadKit.mv hZ q t
/-- WHAT COMES BACK, over the tables of the start Z: h the heap at the call, h' behind it -/
def Q (Z : State) (x : Addr) (A : Cell) (h : Heap) (v : Option Value) (h' : Heap) (L : List Loc) : Prop := v = none ∧ (∀ y ∈ L, y.base = x) ∧ RoadKit.Keep h h' [x] ∧ h'.size = h.size + 1 ∧ RoadKit.Exa Z h' x ST ∧ RoadKit.Fld Z h' x ST "value" "[B" (.ref h.size) ∧ RoadKit.Fld Z h' x ST "coder" "B" (.int 0) ∧
  (∃ V : Cell, RoadKit.Arr Z h' h.size V .byte ∧ V.vm = .none ∧ Z.vm.findClass "[B" = some V.cls ∧ V.slots.size = A.slots.size ∧ ∀ j, j < A.slots.size → V.slots[j]? = some (.int (lo8 (cv A j)))) ∧
  ∀ (O n d : String) (w : Value), RoadKit.Fld Z h x O n d w → RoadKit.slotOf Z O n d ≠ RoadKit.slotOf Z ST "value" "[B" → RoadKit.slotOf Z O n d ≠ RoadKit.slotOf Z ST "coder" "B" → RoadKit.Fld Z h' x O n d w
/-- **new String(chars) AT A CALL, IN THE ROAD'S FORM**: for specialBack behind newO: x the fresh String, b the char[] with the cell A -/
theorem back {p : Program} {l : Launch} {e : Env} {R : Room} {s : State} {args : Array Value} {below : List Frame} {len W : Nat} {Z : State} {a0 : Array Value} {h : Heap} (hZ : Z.Warmed39 s.vm) (hw : ∀ d ∈ words, d.before a0 Z = true) {kI : Nat} (wi : (Jvm.Cond.instantiable ST kI).before a0 Z = true)
    {x b : Addr} {A : Cell} {z : Int32} {v0 c0 : Value} (E : RoadKit.Exa Z h x ST) (V : RoadKit.Fld Z h x ST "value" "[B" v0) (C : RoadKit.Fld Z h x ST "coder" "B" c0) (K : RoadKit.Arr Z h b A .char) (hty : Typed .char A) (S : RoadKit.Sta Z h ST "COMPACT_STRINGS" "Z" (.int z)) (hz : ¬ z = 0)
    (l0 : 0 < A.slots.size) (l2 : A.slots.size ≤ 536870912) (hp : ∀ i, i < A.slots.size → ¬ 255 < cv A i) (hfr : 4 ≤ R.frames) (hlo : W + 65 ≤ R.locals) :
    Back l R p e below s args New1.yN len W (fun P a => a = #[.ref x, .ref b] ∧ P.U.heap = h ∧ P.cells + 1 ≤ R.cells ∧ P.slots + A.slots.size ≤ R.slots)
      (fun P _ v B => ∃ L, Q Z x A h v B.U.heap L ∧ B.locs = P.locs ++ L ∧ B.cells = P.cells + 1 ∧ B.slots = P.slots + A.slots.size) := by
  intro m meth c P g ig mk a X hg hsize hdg hW hn hp'
  obtain ⟨rfl, rfl, r1, r2⟩ := hp'
  have al : Z.vm.Alike P.U.vm := hZ.alike.trans X.warmed.alike
  obtain ⟨D, cfV, kV, iV, fV, hD, gV, stV, knV, obV, asV, slV⟩ := id V
  obtain ⟨D', cfC, kC, iC, fC, hD', gC, stC, -, -, asC, slC⟩ := id C
  cases hD.symm.trans hD'
  obtain ⟨D2, kD, e1, e2, e3, e4, e5⟩ := id E
  cases hD.symm.trans e1
  obtain ⟨c2, k2, i1, i2, i3, -⟩ := Cond.instantiable_spec wi
  cases e2.symm.trans i1
  cases e3.symm.trans i2
  obtain ⟨kU, u1, u2⟩ := al.2.2 _ _ e3
  have hB : Blank ST x D P.U := ⟨hD, ⟨knV, fun q hq => by rw [hq] at obV; cases obV⟩, by rw [al.findClass]; exact e2, kU, u1, by rw [u2]; exact i3, by rw [u2]; exact e5 i3⟩
  have F1 : Found ST "value" "[B" fV P.U := ⟨SBG.found_only al ⟨cfV, kV, iV, gV⟩, stV⟩
  have F2 : Found ST "coder" "B" fC P.U := ⟨SBG.found_only al ⟨cfC, kC, iC, gC⟩, stC⟩
  have hA : Ch b A P.U := ⟨⟨K.1, State.isArrayOf_alike al K.2.1, K.2.2, by omega⟩, hty⟩
  have hS : StaticIs P.U ST "COMPACT_STRINGS" "Z" (.int z) := by
    obtain ⟨cfS, iS, kS, fS, st, cS, t1, t2, t3, t4, t5, t6, t7⟩ := S
    exact StaticIs.there (s := { Z with heap := P.U.heap }) ⟨cfS, iS, kS, fS, st, cS, t1, t2, t3, t4, t5, (fun q => by rw [q] at t6; cases t6), t7⟩ al rfl
  obtain ⟨v, B, X', ⟨⟨hv, E', V', q1, q2, q3, q4, q5, q6, q7, q8, q9, q10, q11⟩, hl, hc, hs⟩, st⟩ := New1.pays x D fV fC b A z (tab_of (moved hZ hw)) hfr hlo m meth c P g ig mk _ X hg hsize hdg hW hn ⟨r1, r2, rfl, hB, F1, F2, hA, hS, hz, l0, l2, hp⟩
  have al' : Z.vm.Alike B.U.vm := hZ.alike.trans X'.warmed.alike
  have hsz : E'.slots.size = D.slots.size := by
    obtain ⟨-, -, -, kB, w1, w2, w3⟩ := q1
    obtain ⟨kB', y1, y2⟩ := al'.2.2 _ _ e3
    rw [q2.2.1] at w1
    cases w1.symm.trans y1
    rw [w3, e5 i3, y2]
  refine ⟨v, B, X', ⟨_, ⟨hv, ?_, ⟨by omega, fun y cy hy hn' => q10 y cy (by simpa using hn') hy, fun y cy hy => ?_⟩, q11, ⟨E', _, q1.1, by rw [q2.2.1]; exact e2, by rw [q2.2.1]; exact e3, by rw [q2.1]; exact obV, fun _ => by rw [hsz]; exact e5 i3⟩,
    ⟨E', cfV, kV, iV, fV, q1.1, gV, stV, by rw [q2.1]; exact knV, by rw [q2.1]; exact obV, by rw [q2.2.1]; exact asV, q3⟩, ⟨E', cfC, kC, iC, fC, q1.1, gC, stC, by rw [q2.1]; exact knV, by rw [q2.1]; exact obV, by rw [q2.2.1]; exact asC, q4⟩,
    ⟨V', ⟨q5.1, State.isArrayOf_alike al'.symm q5.2.1, q5.2.2.1⟩, q6, by rw [← al'.findClass]; exact q7, q8, fun j hj => by have := q9 j hj; rwa [Nat.zero_add] at this⟩, fun O n d w F n1 n2 => ?_⟩, hl, hc, hs⟩, st⟩
  · intro y hy
    simp only [List.mem_cons, List.not_mem_nil, or_false] at hy
    rcases hy with rfl | rfl <;> rfl
  · by_cases q : y = x
    · subst q
      cases hD.symm.trans hy
      exact ⟨E', q1.1, q2.2.1, q2.1, hsz⟩
    · exact ⟨cy, q10 y cy q hy, rfl, rfl, rfl⟩
  · obtain ⟨D3, cf, k, i, f, g1, g2, g3, g4, g5, g6, g7⟩ := F
    cases hD.symm.trans g1
    simp only [RoadKit.slotOf, g2, gV, gC, Option.map_some, Option.getD_some] at n1 n2
    exact ⟨E', cf, k, i, f, q1.1, g2, g3, by rw [q2.1]; exact g4, by rw [q2.1]; exact g5, by rw [q2.2.1]; exact g6, by rw [q2.2.2 f.slot (by simp [n1, n2])]; exact g7⟩
end StrChars.Road
namespace StrChars.Road
open Jvm Sem ClassFile Op Lib Jvm.Stand Jvm.Free Jvm.Free.XT
/-- WHAT COMES BACK, the byte[] as a list of values -/
def QA (Z : State) (x : Addr) (zn : Int32) (cs : List Int32) (h : Heap) (v : Option Value) (h' : Heap) (L : List Loc) : Prop := v = none ∧ (∀ y ∈ L, y.base = x) ∧ RoadKit.Keep h h' [x] ∧ h'.size = h.size + 1 ∧ RoadKit.Exa Z h' x ST ∧ RoadKit.Fld Z h' x ST "value" "[B" (.ref h.size) ∧ RoadKit.Fld Z h' x ST "coder" "B" (.int 0) ∧
  (∃ kb, Z.vm.findClass "[B" = some kb ∧ RoadKit.Arv Z h' h.size kb .byte zn (cs.map fun c => .int (lo8 c)) (.int 0)) ∧
  ∀ (O n d : String) (w : Value), RoadKit.Fld Z h x O n d w → RoadKit.slotOf Z O n d ≠ RoadKit.slotOf Z ST "value" "[B" → RoadKit.slotOf Z O n d ≠ RoadKit.slotOf Z ST "coder" "B" → RoadKit.Fld Z h' x O n d w
/-- **new String(chars) AT A CALL, THE ARRAYS AS LISTS**: the char[] at b holds cs, not empty, no char above 255 -/
theorem backArv {p : Program} {l : Launch} {e : Env} {R : Room} {s : State} {args : Array Value} {below : List Frame} {len W : Nat} {Z : State} {a0 : Array Value} {h : Heap} (hZ : Z.Warmed39 s.vm) (hw : ∀ d ∈ words, d.before a0 Z = true) {kI : Nat} (wi : (Jvm.Cond.instantiable ST kI).before a0 Z = true)
    {x b : Addr} {k : ClassId} {zn z : Int32} {cs : List Int32} {dv v0 c0 : Value} (E : RoadKit.Exa Z h x ST) (V : RoadKit.Fld Z h x ST "value" "[B" v0) (C : RoadKit.Fld Z h x ST "coder" "B" c0) (K : RoadKit.Arv Z h b k .char zn (cs.map Value.int) dv) (S : RoadKit.Sta Z h ST "COMPACT_STRINGS" "Z" (.int z)) (hz : ¬ z = 0)
    (hlen : zn.toNatClampNeg = cs.length) (h0 : 0 < cs.length) (hbig : cs.length ≤ 536870912) (hall : ∀ c ∈ cs, ¬ 255 < c) (hfr : 4 ≤ R.frames) (hlo : W + 65 ≤ R.locals) :
    Back l R p e below s args New1.yN len W (fun P a => a = #[.ref x, .ref b] ∧ P.U.heap = h ∧ P.cells + 1 ≤ R.cells ∧ P.slots + cs.length ≤ R.slots)
      (fun P _ v B => ∃ L, QA Z x zn cs h v B.U.heap L ∧ B.locs = P.locs ++ L ∧ B.cells = P.cells + 1 ∧ B.slots = P.slots + cs.length) := by
  obtain ⟨A, K1, K2, K3, K4, K5, K6⟩ := K
  have e : A.slots.size = cs.length := K3.trans hlen
  have hat : ∀ (i : Nat) (hi : i < cs.length), A.slots[i]? = some (.int cs[i]) := fun i hi => by rw [K5 i (by omega)]; simp [List.getD_eq_getElem?_getD, hi]
  have hcv : ∀ (i : Nat) (hi : i < cs.length), cv A i = cs[i] := fun i hi => by unfold cv; rw [hat i hi]
  have hty : Typed .char A := fun i v hv => by
    have hi : i < A.slots.size := (Array.getElem?_eq_some_iff.mp hv).1
    have q := K5 i hi
    rw [hv] at q
    rw [Option.some.inj q]
    exact K6 i hi
  refine Back.mono (back hZ hw wi E V C K1 hty S hz (by omega) (by omega) (fun i hi => by rw [hcv i (by omega)]; exact hall _ (List.getElem_mem _)) hfr hlo) (fun P a hp => ⟨hp.1, hp.2.1, hp.2.2.1, by rw [e]; exact hp.2.2.2⟩) (fun P a v B hp hq => ?_)
  obtain ⟨L, ⟨q1, q2, q3, q4, q5, q6, q7, ⟨V', v1, v2, v3, v4, v5⟩, q9⟩, hl, hc, hs⟩ := hq
  refine ⟨L, ⟨q1, q2, q3, q4, q5, q6, q7, ⟨V'.cls, v3, V', v1, rfl, by rw [v4, e, hlen], K4, fun i hi => ?_, fun i hi => ?_⟩, q9⟩, hl, hc, by rw [hs, e]⟩
  · have hi' : i < cs.length := by omega
    rw [v5 i (by omega), hcv i hi']; simp [List.getD_eq_getElem?_getD, hi']
  · have hi' : i < cs.length := by omega
    simp only [List.getD_eq_getElem?_getD, List.getElem?_map, List.getElem?_eq_getElem hi', Option.map_some, Option.getD_some]
    exact fits_lo8 _
end StrChars.Road
namespace StrChars.Road
open Jvm Sem ClassFile Op Lib Jvm.Stand Jvm.Free Jvm.Free.XT
/-- WHAT COMES BACK, in the writer's own shape -/
def QV (Z : State) (x : Addr) (N : Int32) (bs : List Int32) (h : Heap) (n0 : Nat) (v : Option Value) (h' : Heap) (L : List Loc) : Prop := v = none ∧ RoadKit.Fr n0 L ∧ RoadKit.Keep h h' [x] ∧ RoadKit.Exa Z h' x ST ∧ RoadKit.Fld Z h' x ST "coder" "B" (.int 0) ∧
  ∃ (t : Addr) (kb : ClassId), n0 ≤ t ∧ h.size ≤ t ∧ ¬ t = x ∧ RoadKit.Fld Z h' x ST "value" "[B" (.ref t) ∧ RoadKit.Arv Z h' t kb .byte N (bs.map Value.int) (.int 0)
/-- **new String(chars) AT A CALL, FOR THE WRITER**: a char[] of n known ints, each 0 to 255 -/
theorem backV {p : Program} {l : Launch} {e : Env} {R : Room} {s : State} {args : Array Value} {below : List Frame} {len W : Nat} {Z : State} {a0 : Array Value} {h : Heap} (hZ : Z.Warmed39 s.vm) (hw : ∀ d ∈ words, d.before a0 Z = true) {kI : Nat} (wi : (Jvm.Cond.instantiable ST kI).before a0 Z = true)
    {x b : Addr} {kC : ClassId} {cs bs : List Int32} {d v0 c0 : Value} {z N : Int32} {n n0 : Nat} (hx0 : n0 ≤ x) (hh0 : n0 ≤ h.size) (E : RoadKit.Exa Z h x ST) (V : RoadKit.Fld Z h x ST "value" "[B" v0) (C : RoadKit.Fld Z h x ST "coder" "B" c0) (K : RoadKit.Arv Z h b kC .char N (cs.map Value.int) d) (S : RoadKit.Sta Z h ST "COMPACT_STRINGS" "Z" (.int z)) (hz : ¬ z = 0)
    (hn : cs.length = n) (hN : N = Int32.ofNat n) (l0 : 0 < n) (l2 : n ≤ 4000) (hp : ∀ c ∈ cs, ¬ c < 0 ∧ ¬ (255 : Int32) < c) (hb : bs = cs.map (fun c => c.toInt8.toInt32)) (hfr : 4 ≤ R.frames) (hlo : W + 65 ≤ R.locals) :
    Back l R p e below s args (⟨"java/lang/String", "<init>", "([C)V"⟩ : MethodName) len W (fun P a => a = #[.ref x, .ref b] ∧ P.U.heap = h ∧ P.cells + 1 ≤ R.cells ∧ P.slots + n ≤ R.slots)
      (fun P _ v B => ∃ L, QV Z x N bs h n0 v B.U.heap L ∧ B.locs = P.locs ++ L ∧ B.cells = P.cells + 1 ∧ B.slots = P.slots + n) := by
  subst hn hN hb
  refine Back.mono (backArv hZ hw wi E V C K S hz (n32 (by omega)) l0 (by omega) (fun c hc => (hp c hc).2) hfr hlo) (fun P a hp => hp) (fun P a v B hp hq => ?_)
  obtain ⟨L, ⟨q1, q2, q3, q4, q5, q6, q7, ⟨kb, v1, v2⟩, q9⟩, hl, hc, hs⟩ := hq
  exact ⟨L, ⟨q1, fun y hy => by rw [q2 y hy]; exact hx0, q3, q5, q7, h.size, kb, hh0, Nat.le_refl _, Nat.ne_of_gt E.lt, q6, by rw [List.map_map]; exact v2⟩, hl, hc, hs⟩
end StrChars.Road
end Jvm.Pilot.@@N@@
namespace Jvm.RoadKit
open Sem ClassFile Op Lib Jvm.Stand Jvm.Free Jvm.LawKit
section New
variable {p : Program} {l : Launch} {e : Env} {R : Room} {s : State} {m : MethodId} {args : Array Value} {below : List Frame} {meth : Method} {c : Code} {T : State} {locs : List Loc} {cells slots : Nat}
theorem retI (X : Stand p l e R s m args below meth c T locs cells slots) (hx : p.tables.exec = Jvm.exec) {pc : Nat} {Ls : Array Slot} {z : Int32} {rest : List Value} (hret : meth.sig.returnType = some .int) (hd : decode c.code pc = .ok (.ireturn, 1)) {fs : List Frame}
    (hl : ∀ (f : JFrame) (acts : List Action), f.method = m → f.locked = none → f.entered = [] → (doReturn e (T.setTop f) acts (some (.int z))).1 = T.setFrames fs) : Steps p.tables e below (T.setTop (mkF m pc Ls (.int z :: rest))) (T.setFrames fs) :=
  retOut X hx hret rfl (Or.inl ⟨rfl, Or.inl rfl, _, rfl⟩) hd hl
end New
end Jvm.RoadKit
namespace Jvm.Pilot.@@N@@
open Jvm Jvm.ClassFile Sem Op Lib Jvm.Free Jvm.Stand Jvm.LawKit Jvm.RoadKit Bundle Jvm.Pilot.@@N@@.Jvm.D
section Own
variable {p : Program} {l : Launch} {e : Env} {R : Room} {s : State} {m : MethodId} {args : Array Value} {below : List Frame} {meth : Method} {c : Code} {T : State} {locs : List Loc} {cells slots : Nat}
/-- from this state the invocation comes to its end, and Q holds there -/
def GoOn (p : Program) (e : Env) (below : List Frame) (S : State) (Q : Outcome → State → Prop) : Prop := ∃ s₂ o, Steps p.tables e below S s₂ ∧ s₂.status = .running ∧ Ended s₂ below o ∧ Q o s₂
theorem GoOn.step {S S' : State} {Q : Outcome → State → Prop} (h : ∀ t, Steps p.tables e below S' t → Steps p.tables e below S t) (k : GoOn p e below S' Q) : GoOn p e below S Q := by
  obtain ⟨s2, o, h1, h2, h3, h4⟩ := k
  exact ⟨s2, o, h _ h1, h2, h3, h4⟩
theorem GoOn.trans {S S' : State} {Q : Outcome → State → Prop} (h : Steps p.tables e below S S') (k : GoOn p e below S' Q) : GoOn p e below S Q := GoOn.step (fun _ q => Steps.trans h q) k
def PostN (s : State) (Qp : Option Value → Heap → List Loc → Prop) (k n : Nat) (o : Outcome) (U' : State) : Prop := ∃ v L, o = .returned v ∧ Qp v U'.heap L ∧ FrameEnd s o U' L k n
def PostW (s : State) (Qp : Option Value → Heap → List Loc → Prop) (k n : Nat) (o : Outcome) (U' : State) : Prop := ∃ v L, o = .returned v ∧ Qp v U'.heap L ∧ ReturnedEndW s o U' L k n
theorem GoOn.ret (X : Stand p l e R s m args below meth c T locs cells slots) (hlk : meth.locks = false) {v : Option Value} (hv : meth.sig.returnType = none → v = none) {S : State}
    (st : ∀ fs, (∀ (f : JFrame) (acts : List Action), f.method = m → f.locked = none → f.entered = [] → (doReturn e (T.setTop f) acts v).1 = T.setFrames fs) → Steps p.tables e below S (T.setFrames fs)) {k n : Nat} (hk : cells ≤ k) (hn : slots ≤ n)
    {Qp : Option Value → Heap → List Loc → Prop} (q : Qp v T.heap locs) : GoOn p e below S (PostN s Qp k n) := by
  obtain ⟨fs, hr, hrun, hended, hW, hsame⟩ := X.leave hv hlk
  exact ⟨_, _, st fs hr, hrun, hended, v, _, rfl, q, ⟨_, rfl⟩, hW, hsame.mono hk hn⟩
theorem GoOn.retW {vm1 : Vm} {k1 : Nat} (X : Stand p l e R (s.setVm vm1) m args below meth c T locs cells slots) (hS : s.Since vm1 k1) (h1 : k1 ≤ T.heap.size) (hlk : meth.locks = false) {v : Option Value} (hv : meth.sig.returnType = none → v = none) {S : State}
    (st : ∀ fs, (∀ (f : JFrame) (acts : List Action), f.method = m → f.locked = none → f.entered = [] → (doReturn e (T.setTop f) acts v).1 = T.setFrames fs) → Steps p.tables e below S (T.setFrames fs)) {k n : Nat} (hk : cells ≤ k) (hn : slots ≤ n)
    {Qp : Option Value → Heap → List Loc → Prop} (q : Qp v T.heap locs) : GoOn p e below S (PostW s Qp k n) := by
  obtain ⟨fs, hr, hrun, hended, h4, h5, h6, h7⟩ := X.leaveW hS h1 hv hlk
  exact ⟨_, _, st fs hr, hrun, hended, v, _, rfl, q, h4, h5, h6, h7.mono hk hn⟩
def PostH (Z : State) (EL : List (String × Nat)) (s : State) (Qp : Option Value → Heap → List Loc → Prop) (k n : Nat) (o : Outcome) (U' : State) : Prop := ∃ v L, o = .returned v ∧ Qp v U'.heap L ∧ CHr Z EL s.vm s.heap U'.vm U'.heap ∧ ReturnedEndW s o U' L k n
theorem GoOn.retH {Z : State} {a0 : Array Value} {EL : List (String × Nat)} {h0 h : Heap} {vm1 : Vm} {k1 : Nat} (X : Stand p l e R (s.setVm vm1) m args below meth c T locs cells slots) (hZ : Z.Warmed39 (s.setVm vm1).vm) (hS : s.Since vm1 k1) (h1 : k1 ≤ h.size) (hEL : EW Z a0 EL) (hh : s.heap = h0) (eT : T.heap = h) (C : CHr Z EL s.vm h0 vm1 h) (hlk : meth.locks = false) {v : Option Value} (hv : meth.sig.returnType = none → v = none) {S : State}
    (st : ∀ fs, (∀ (f : JFrame) (acts : List Action), f.method = m → f.locked = none → f.entered = [] → (doReturn e (T.setTop f) acts v).1 = T.setFrames fs) → Steps p.tables e below S (T.setFrames fs)) {k n : Nat} (hk : cells ≤ k) (hn : slots ≤ n)
    {Qp : Option Value → Heap → List Loc → Prop} (q : Qp v h locs) : GoOn p e below S (PostH Z EL s Qp k n) := by
  subst hh eT
  obtain ⟨fs, hr, hrun, hended, h4, h5, h6, h7⟩ := X.leaveW hS h1 hv hlk
  have q2 := CHr.trans C (CHv.at X hZ hEL C.1)
  exact ⟨_, _, st fs hr, hrun, hended, v, _, rfl, q, q2, h4, h5, h6, h7.mono hk hn⟩
theorem Safe.arv {Z : State} {EL : List (String × Nat)} {vm : Vm} {h : Heap} {x : Addr} {kc : ClassId} {ty : FieldType} {z : Int32} {vs : List Value} {dv : Value} (hal : Z.vm.Alike vm) (V : Arv Z h x kc ty z vs dv) (ht : ty ≠ .byte) : Safe Z EL vm h x := by
  obtain ⟨cl, A, -⟩ := V
  exact Safe.arr hal A ht
theorem Safe.ofNull {Z : State} {EL : List (String × Nat)} {vm : Vm} {h : Heap} {x : Addr} (hal : Z.vm.Alike vm) (E : Exa Z h x "java/lang/String") (F : Fld Z h x "java/lang/String" "value" "[B" .null) : Safe Z EL vm h x := fun B => by
  obtain ⟨p, -, u, a, -, q, -, S, rfl | rfl⟩ := B
  · obtain ⟨cell, cf, k, i, f, h1, h2, h3, -, -, -, h7⟩ := F
    cases (show h[q.sa]? = some q.sC from S.ha).symm.trans h1
    obtain ⟨cS, ⟨⟨-, -, -, ⟨c1, k1, i1, f1, -⟩, -, -, -, v1, -⟩, -⟩, -⟩ := S
    obtain ⟨k3, e3, -⟩ := State.fieldFound?_setVm (s := Z) hal h2
    have e4 := (show (Wst Z vm h).fieldFound? _ _ _ = _ from e3).symm.trans f1
    simp only [Option.some.injEq, Prod.mk.injEq] at e4
    rw [← e4.2.2.2, h7] at v1
    cases v1
  · obtain ⟨cell, k, e1, e2, e3, -, -⟩ := E
    cases (show h[q.sd]? = some q.SA from S.hd).symm.trans e1
    obtain ⟨cS, -, -, f, -⟩ := S
    rw [show (Wst Z vm h).vm = vm from rfl, hal.findClass] at f
    obtain ⟨k1, q1, q2⟩ := Vm.findClass_spec f
    obtain ⟨k2, q3, q4⟩ := Vm.findClass_spec e2
    cases q1.symm.trans q3
    exact absurd (q2.symm.trans q4) (by decide)
theorem alenA {Z : State} {h : Heap} (X : Stand p l e R s m args below meth c T locs cells slots) (hx : p.tables.exec = Jvm.exec) (hZ : Z.Warmed39 s.vm) (eT : T.heap = h) {a : Addr} {k : ClassId} {ty : FieldType} {z : Int32} {vs : List Value} {d : Value} (V : Arv Z h a k ty z vs d) {g : JFrame} (hg : g.method = m) {rest : List Value} (hs : g.stack = .ref a :: rest) (hd : decode c.code g.pc = .ok (.arraylength, 1)) :
    ∀ target, Steps p.tables e below (T.setTop { g with pc := g.pc + 1, stack := .int z :: rest }) target → Steps p.tables e below (T.setTop g) target := fun t q => by
  obtain ⟨cl, A, -, S, M, -, -⟩ := V
  exact X.arraylength hx (by rw [eT]; exact A.1) (State.isArrayOf_alike hZ.alike A.2.1) hg hs hd t (by rw [len_of S M]; exact q)
theorem refCat {v : Value} (h : v.isRef = true) : v.category = 1 := by rcases ref_cases h with rfl | ⟨_, rfl⟩ <;> rfl
theorem own_catR (a : Addr) : (Value.ref a).category = 1 := rfl
theorem own_catI (a : Int32) : (Value.int a).category = 1 := rfl
theorem own_catJ (a : Int64) : (Value.long a).category = 2 := rfl
theorem own_catN : Value.null.category = 1 := rfl
theorem narRef {v : Value} (h : v.isRef = true) {t : FieldType} : narrow t v = v := by rcases ref_cases h with rfl | ⟨_, rfl⟩ <;> cases t <;> rfl
theorem fitRef {v : Value} (h : v.isRef = true) {C : String} : fits (.object C) v = true := by rcases ref_cases h with rfl | ⟨_, rfl⟩ <;> rfl
end Own
end Jvm.Pilot.@@N@@
namespace Jvm.Pilot.@@N@@
open Jvm Jvm.ClassFile Sem Op Lib Jvm.Free Jvm.Stand Jvm.LawKit Jvm.RoadKit Bundle Jvm.Pilot.@@N@@.Jvm.D
theorem and255_chars (n : Int32) : ¬ nar .char ((n &&& (255 : Int32)).toUInt32.toUInt16.toUInt32.toInt32) < 0 ∧ ¬ (255 : Int32) < nar .char ((n &&& (255 : Int32)).toUInt32.toUInt16.toUInt32.toInt32) := by
  have h1 := c_mask n 255 8 (by decide) (by decide)
  have h2 := c_i2c (n &&& (255 : Int32))
  have h3 : nar .char ((n &&& (255 : Int32)).toUInt32.toUInt16.toUInt32.toInt32) = ((n &&& (255 : Int32)).toUInt32.toUInt16.toUInt32.toInt32) := by simp only [nar, UInt32.toUInt32_toInt32, UInt16.toUInt16_toUInt32]
  rw [h3, Int32.lt_iff_toInt_lt, Int32.lt_iff_toInt_lt]
  have e0 : (0 : Int32).toInt = 0 := rfl
  have e1 : (255 : Int32).toInt = 255 := rfl
  rw [e0, e1]
  have e2 : ((2 ^ 8 : Nat) : Int) = 256 := rfl
  rw [e2] at h1
  omega
theorem own_ef0 (m : MethodId) (x0 : Addr) (x1 : Value) (x2 : Int32) (x3 : Value) (hx1 : x1.isRef = true) (hx3 : x3.isRef = true) : entryFrame m #[(.ref x0), x1, (.int x2), x3] 4 = mkF m 0 #[.val (.ref x0), .val x1, .val (.int x2), .val x3] [] := by simp [entryFrame, mkF, argsToLocals, own_catR, own_catI, own_catJ, own_catN, refCat hx1, refCat hx3]
theorem own_pn1 : plainName "com/example/archipelago/archipelago/model/TenantRegistration" = true := by first | (simp [plainName, overriddenIn]; done) | decide +kernel
theorem own_d2 : decode prog_27_method_1_code 0 = .ok (.aload_n 0, 1) := by decide +kernel
theorem own_d3 : decode prog_27_method_1_code 1 = .ok (.invokespecial 1, 3) := by decide +kernel
theorem own_d4 : decode prog_27_method_1_code 4 = .ok (.aload_n 0, 1) := by decide +kernel
theorem own_d5 : decode prog_27_method_1_code 5 = .ok (.aload_n 1, 1) := by decide +kernel
theorem own_d6 : decode prog_27_method_1_code 6 = .ok (.putfield 7, 3) := by decide +kernel
theorem own_d7 : decode prog_27_method_1_code 9 = .ok (.aload_n 0, 1) := by decide +kernel
theorem own_d8 : decode prog_27_method_1_code 10 = .ok (.iload_n 2, 1) := by decide +kernel
theorem own_d9 : decode prog_27_method_1_code 11 = .ok (.putfield 13, 3) := by decide +kernel
theorem own_d10 : decode prog_27_method_1_code 14 = .ok (.aload_n 0, 1) := by decide +kernel
theorem own_d11 : decode prog_27_method_1_code 15 = .ok (.aload_n 3, 1) := by decide +kernel
theorem own_d12 : decode prog_27_method_1_code 16 = .ok (.putfield 17, 3) := by decide +kernel
theorem own_d13 : decode prog_27_method_1_code 19 = .ok (.return_, 1) := by decide +kernel
theorem own_ef14 (m : MethodId) (x0 : Addr) : entryFrame m #[(.ref x0)] 1 = mkF m 0 #[.val (.ref x0)] [] := by first | rfl | (simp [entryFrame, mkF, argsToLocals, Value.category]; done)
theorem own_pn15 : plainName "java/lang/Number" = true := by first | (simp [plainName, overriddenIn]; done) | decide +kernel
theorem own_d16 : decode jdk_18_method_1_code 0 = .ok (.aload_n 0, 1) := by decide +kernel
theorem own_d17 : decode jdk_18_method_1_code 1 = .ok (.invokespecial 1, 3) := by decide +kernel
theorem own_d18 : decode jdk_18_method_1_code 4 = .ok (.return_, 1) := by decide +kernel
theorem own_ef19 (m : MethodId) (x0 : Addr) (x1 : Int64) : entryFrame m #[(.ref x0), (.long x1)] 3 = mkF m 0 #[.val (.ref x0), .val (.long x1), .second] [] := by first | (simp [entryFrame, mkF, argsToLocals, Value.category]; done) | rfl
theorem own_pn20 : plainName "java/lang/Long" = true := by first | (simp [plainName, overriddenIn]; done) | decide +kernel
theorem own_d21 : decode jdk_35_method_26_code 0 = .ok (.aload_n 0, 1) := by decide +kernel
theorem own_d22 : decode jdk_35_method_26_code 1 = .ok (.invokespecial 270, 3) := by decide +kernel
theorem own_pd23 : parseMethodDescriptor "()V" = some ⟨[], none⟩ := by decide +kernel
theorem own_d24 : decode jdk_35_method_26_code 4 = .ok (.aload_n 0, 1) := by decide +kernel
theorem own_d25 : decode jdk_35_method_26_code 5 = .ok (.lload_n 1, 1) := by decide +kernel
theorem own_d26 : decode jdk_35_method_26_code 6 = .ok (.putfield 273, 3) := by decide +kernel
theorem own_d27 : decode jdk_35_method_26_code 9 = .ok (.return_, 1) := by decide +kernel
theorem own_ef28 (m : MethodId) (x0 : Int64) : entryFrame m #[(.long x0)] 3 = mkF m 0 #[.val (.long x0), .second, .unset] [] := by first | (simp [entryFrame, mkF, argsToLocals, Value.category]; done) | rfl
theorem own_d29 : decode jdk_35_method_24_code 0 = .ok (.sipush 128, 3) := by decide +kernel
theorem own_d30 : decode jdk_35_method_24_code 3 = .ok (.istore_n 2, 1) := by decide +kernel
theorem own_d31 : decode jdk_35_method_24_code 4 = .ok (.lload_n 0, 1) := by decide +kernel
theorem own_d32 : decode jdk_35_method_24_code 5 = .ok (.ldc2_w 230, 3) := by decide +kernel
theorem own_d33 : decode jdk_35_method_24_code 8 = .ok (.lcmp, 1) := by decide +kernel
theorem own_d34 : decode jdk_35_method_24_code 9 = .ok (.ifCond .lt 22, 3) := by decide +kernel
theorem own_d35 : decode jdk_35_method_24_code 31 = .ok (.new 1, 3) := by decide +kernel
theorem own_d36 : decode jdk_35_method_24_code 34 = .ok (.dup, 1) := by decide +kernel
theorem own_d37 : decode jdk_35_method_24_code 35 = .ok (.lload_n 0, 1) := by decide +kernel
theorem own_d38 : decode jdk_35_method_24_code 36 = .ok (.invokespecial 240, 3) := by decide +kernel
theorem own_pd39 : parseMethodDescriptor "(J)V" = some ⟨[.long], none⟩ := by decide +kernel
theorem own_d40 : decode jdk_35_method_24_code 39 = .ok (.areturn, 1) := by decide +kernel
theorem own_d41 : decode jdk_35_method_24_code 12 = .ok (.lload_n 0, 1) := by decide +kernel
theorem own_d42 : decode jdk_35_method_24_code 13 = .ok (.ldc2_w 232, 3) := by decide +kernel
theorem own_d43 : decode jdk_35_method_24_code 16 = .ok (.lcmp, 1) := by decide +kernel
theorem own_d44 : decode jdk_35_method_24_code 17 = .ok (.ifCond .gt 14, 3) := by decide +kernel
theorem own_d45 : decode jdk_35_method_24_code 20 = .ok (.getstatic 234, 3) := by decide +kernel
theorem own_d46 : decode jdk_35_method_24_code 23 = .ok (.lload_n 0, 1) := by decide +kernel
theorem own_d47 : decode jdk_35_method_24_code 24 = .ok (.l2i, 1) := by decide +kernel
theorem own_d48 : decode jdk_35_method_24_code 25 = .ok (.sipush 128, 3) := by decide +kernel
theorem own_d49 : decode jdk_35_method_24_code 28 = .ok (.iadd, 1) := by decide +kernel
theorem own_d50 : decode jdk_35_method_24_code 29 = .ok (.aaload, 1) := by decide +kernel
theorem own_d51 : decode jdk_35_method_24_code 30 = .ok (.areturn, 1) := by decide +kernel
theorem own_ef52 (m : MethodId) (x0 : Addr) : entryFrame m #[(.ref x0)] 1 = mkF m 0 #[.val (.ref x0)] [] := by first | rfl | (simp [entryFrame, mkF, argsToLocals, Value.category]; done)
theorem own_d53 : decode jdk_35_method_31_code 0 = .ok (.aload_n 0, 1) := by decide +kernel
theorem own_d54 : decode jdk_35_method_31_code 1 = .ok (.getfield 273, 3) := by decide +kernel
theorem own_d55 : decode jdk_35_method_31_code 4 = .ok (.lreturn, 1) := by decide +kernel
theorem own_ef56 (m : MethodId) (x0 : Addr) (x1 : Int64) : entryFrame m #[(.ref x0), (.long x1)] 3 = mkF m 0 #[.val (.ref x0), .val (.long x1), .second] [] := by first | (simp [entryFrame, mkF, argsToLocals, Value.category]; done) | rfl
theorem own_d57 : decode prog_27_method_4_code 0 = .ok (.aload_n 0, 1) := by decide +kernel
theorem own_d58 : decode prog_27_method_4_code 1 = .ok (.getfield 7, 3) := by decide +kernel
theorem own_d59 : decode prog_27_method_4_code 4 = .ok (.ifnull 19, 3) := by decide +kernel
theorem own_d60 : decode prog_27_method_4_code 23 = .ok (.iconst 0, 1) := by decide +kernel
theorem own_d61 : decode prog_27_method_4_code 24 = .ok (.ireturn, 1) := by decide +kernel
theorem own_d62 : decode prog_27_method_4_code 7 = .ok (.aload_n 0, 1) := by decide +kernel
theorem own_d63 : decode prog_27_method_4_code 8 = .ok (.getfield 7, 3) := by decide +kernel
theorem own_pd64 : parseMethodDescriptor "()J" = some ⟨[], some .long⟩ := by decide +kernel
theorem own_d65 : decode prog_27_method_4_code 11 = .ok (.invokevirtual 25, 3) := by decide +kernel
theorem own_d66 : decode prog_27_method_4_code 14 = .ok (.lload_n 1, 1) := by decide +kernel
theorem own_d67 : decode prog_27_method_4_code 15 = .ok (.lcmp, 1) := by decide +kernel
theorem own_d68 : decode prog_27_method_4_code 16 = .ok (.ifCond .ne 7, 3) := by decide +kernel
theorem own_d69 : decode prog_27_method_4_code 19 = .ok (.iconst 1, 1) := by decide +kernel
theorem own_d70 : decode prog_27_method_4_code 20 = .ok (.goto 4, 3) := by decide +kernel
theorem own_ef71 (m : MethodId) (x0 : Int64) (x1 : Int64) (x2 : Int32) : entryFrame m #[(.long x0), (.long x1), (.int x2)] maxLocals = mkF m 0 #[.val (.long x0), .second, .val (.long x1), .second, .val (.int x2), .unset, .unset, .unset, .unset, .unset, .unset, .unset, .unset, .unset, .unset, .unset] [] := by first | (simp [entryFrame, mkF, argsToLocals, Value.category, maxLocals]; done) | rfl
theorem own_pn72 : plainName "com/example/archipelago/archipelago/model/TenantRegistrationIsDatabasePinLaw" = true := by first | (simp [plainName, overriddenIn]; done) | decide +kernel
theorem own_pd73 : parseMethodDescriptor "(Ljava/lang/Long;ZLjava/lang/String;)V" = some ⟨[(.object "java/lang/Long"), .boolean, (.object "java/lang/String")], none⟩ := by decide +kernel
theorem own_pd74 : parseMethodDescriptor "(J)Z" = some ⟨[.long], some .boolean⟩ := by decide +kernel
theorem own_pd75 : parseMethodDescriptor "(J)Ljava/lang/Long;" = some ⟨[.long], some (.object "java/lang/Long")⟩ := by decide +kernel
theorem own_pd76 : parseMethodDescriptor "([C)V" = some ⟨[(.array .char)], none⟩ := by decide +kernel
def QSame (u : Value) (h0 : Heap) (n0 : Nat) (v : Option Value) (h : Heap) (L : List Loc) : Prop := v = some u ∧ Fr n0 L ∧ h = h0
def QTI (Z : State) (a : Addr) (vo : Value) (k : Int32) (vr : Value) (h0 : Heap) (n0 : Nat) (v : Option Value) (h : Heap) (L : List Loc) : Prop := v = none ∧ Fr n0 L ∧ Keep h0 h [a] ∧ Exa Z h a "com/example/archipelago/archipelago/model/TenantRegistration" ∧ Fld Z h a "com/example/archipelago/archipelago/model/TenantRegistration" "databaseOid" "Ljava/lang/Long;" vo ∧ Fld Z h a "com/example/archipelago/archipelago/model/TenantRegistration" "realmKnown" "Z" (.int (nar .boolean k)) ∧ Fld Z h a "com/example/archipelago/archipelago/model/TenantRegistration" "realmId" "Ljava/lang/String;" vr
set_option maxRecDepth 65536 in
set_option maxHeartbeats 40000000 in
theorem rmTI (l : Launch) (Z : State) (a0 : Array Value) (hw : ∀ d ∈ tables_1, d.before a0 Z = true) (a : Addr) (vo : Value) (k : Int32) (vr : Value) (h0 : Heap) (n0 : Nat) (Z0 : n0 ≤ h0.size) (E0 : Exa Z h0 a "com/example/archipelago/archipelago/model/TenantRegistration") (F0databaseOid : Fld Z h0 a "com/example/archipelago/archipelago/model/TenantRegistration" "databaseOid" "Ljava/lang/Long;" .null) (F0realmKnown : Fld Z h0 a "com/example/archipelago/archipelago/model/TenantRegistration" "realmKnown" "Z" (.int (0 : Int32))) (F0realmId : Fld Z h0 a "com/example/archipelago/archipelago/model/TenantRegistration" "realmId" "Ljava/lang/String;" .null) (ga : n0 ≤ a) (hf : vo.isRef = true) (hr : vr.isRef = true) :
    MetFree l (⟨"com/example/archipelago/archipelago/model/TenantRegistration", "<init>", "(Ljava/lang/Long;ZLjava/lang/String;)V"⟩ : MethodName) (head1 [Jvm.Cond.code (⟨"com/example/archipelago/archipelago/model/TenantRegistration", "<init>", "(Ljava/lang/Long;ZLjava/lang/String;)V"⟩ : MethodName) prog_27_method_1_code 4 none] ({ frames := 1, cells := 0, slots := 0, locals := 12 } : Room)) (fun aa U => aa = #[(.ref a), vo, (.int k), vr] ∧ Z.Warmed39 U.vm ∧ U.heap = h0) (fun _ _ _ _ _ => True) (fun _ U o U' => ∃ v L, o = .returned v ∧ QTI Z a vo k vr h0 n0 v U'.heap L ∧ FrameEnd U o U' L ({ frames := 1, cells := 0, slots := 0, locals := 12 } : Room).cells ({ frames := 1, cells := 0, slots := 0, locals := 12 } : Room).slots) := by
  refine MetFree.of_bodySF (plainFor_of_name own_pn1) hisR ?_
  intro p e s m args below meth c s₁ Bd hml0 hP hK
  obtain ⟨rfl, hZ, hh⟩ := hP
  have hx := Bd.exec
  have hby := Bd.bytes
  have hml : c.maxLocals = 4 := hml0
  have hown : s.vm.findClass "com/example/archipelago/archipelago/model/TenantRegistration" = some m.cls := findClass_of_methodNamed Bd.named
  have hnm := (name_of_methodNamed Bd.named Bd.method).1
  have X0 : Stand p l e ({ frames := 1, cells := 0, slots := 0, locals := 12 } : Room) s m #[(.ref a), vo, (.int k), vr] below meth c s₁ [] 0 0 := Stand.of_body Bd
  have e0 : s₁.heap = h0 := by rw [← hh, Bd.state]; rfl
  have N0 := Fr.nil n0
  have K0 : Keep h0 h0 [] := Keep.refl _ _
  show GoOn p e below (s₁.setTop (entryFrame m #[(.ref a), vo, (.int k), vr] 4)) (PostN s (QTI Z a vo k vr h0 n0) ({ frames := 1, cells := 0, slots := 0, locals := 12 } : Room).cells ({ frames := 1, cells := 0, slots := 0, locals := 12 } : Room).slots)
  refine GoOn.step (fun tq kq => castTop (own_ef0 m a vo k vr hf hr) kq) ?_
  show GoOn p e below (s₁.setTop (mkF m 0 #[.val (.ref a), .val vo, .val (.int k), .val vr] [])) _
  have K0a : Keep h0 h0 [a] := Keep.refl _ _
  refine GoOn.step (fun tq kq => XS.aloadN X0.here hx rfl (hb hby own_d2) rfl rfl kq) ?_
  show GoOn p e below (s₁.setTop (mkF m 1 #[.val (.ref a), .val vo, .val (.int k), .val vr] [(.ref a)])) _
  obtain ⟨T1, X1, e1, st1⟩ := initO X0 hx hZ hown (hw _ (List.mem_of_getElem? (i := 7) rfl)) (hw _ (List.mem_of_getElem? (i := 8) rfl)) (hw _ (List.mem_of_getElem? (i := 9) rfl)) e0 (g := (mkF m 1 #[.val (.ref a), .val vo, .val (.int k), .val vr] [(.ref a)])) rfl (by rw [hml]; rfl) rfl (hb hby own_d3) (by decide) (W := 0) (by show 2 * 0 + _ ≤ _; exact Nat.le_of_eq rfl) (by decide)
  refine GoOn.step st1 ?_
  show GoOn p e below (T1.setTop (mkF m 4 #[.val (.ref a), .val vo, .val (.int k), .val vr] [])) _
  refine GoOn.step (fun tq kq => XS.aloadN X1.here hx rfl (hb hby own_d4) rfl rfl kq) ?_
  show GoOn p e below (T1.setTop (mkF m 5 #[.val (.ref a), .val vo, .val (.int k), .val vr] [(.ref a)])) _
  refine GoOn.step (fun tq kq => XS.aloadN X1.here hx rfl (hb hby own_d5) rfl hf kq) ?_
  show GoOn p e below (T1.setTop (mkF m 6 #[.val (.ref a), .val vo, .val (.int k), .val vr] [vo, (.ref a)])) _
  obtain ⟨T2, h2, X2, e2, W2, st2⟩ := putF X1 hx hZ hown (host := "") (Or.inl (hw _ (List.mem_of_getElem? (i := 10) rfl))) Via.refl e1 F0databaseOid E0 (Or.inr ⟨(hw _ (List.mem_of_getElem? (i := 11) rfl)), rfl, hnm⟩) (hw _ (List.mem_of_getElem? (i := 2) rfl)) (ty := (.object "java/lang/Long")) (by decide) (narRef hf) (fitRef hf) (g := (mkF m 6 #[.val (.ref a), .val vo, .val (.int k), .val vr] [vo, (.ref a)])) rfl rfl (hb hby own_d6)
  have N3 := Fr.snoc X2 N0 ga
  have Kx2 : Keep h0 h2 [a] := Keep.of_wr W2
  have F4 : Fld Z h2 a "com/example/archipelago/archipelago/model/TenantRegistration" "databaseOid" "Ljava/lang/Long;" vo := F0databaseOid.same W2
  have F5 : Fld Z h2 a "com/example/archipelago/archipelago/model/TenantRegistration" "realmKnown" "Z" (.int (0 : Int32)) := F0realmKnown.other W2 (Or.inr (slot_ne (a0 := a0) (Or.inr (hw _ (List.mem_of_getElem? (i := 13) rfl))) (Or.inr (hw _ (List.mem_of_getElem? (i := 11) rfl))) (by decide) (t := .boolean) (t' := (.object "java/lang/Long")) (by decide) (by decide)))
  have F6 : Fld Z h2 a "com/example/archipelago/archipelago/model/TenantRegistration" "realmId" "Ljava/lang/String;" .null := F0realmId.other W2 (Or.inr (slot_ne (a0 := a0) (Or.inr (hw _ (List.mem_of_getElem? (i := 15) rfl))) (Or.inr (hw _ (List.mem_of_getElem? (i := 11) rfl))) (by decide) (t := (.object "java/lang/String")) (t' := (.object "java/lang/Long")) (by decide) (by decide)))
  refine GoOn.step st2 ?_
  have E7 : Exa Z h2 a "com/example/archipelago/archipelago/model/TenantRegistration" := E0.keep Kx2
  have Z11 : n0 ≤ h2.size := Nat.le_trans Z0 Kx2.1
  have K12 : Keep h0 h2 [a] := K0a.trans Kx2 ((allS (Or.inl (by simp)) all0))
  show GoOn p e below (T2.setTop (mkF m 9 #[.val (.ref a), .val vo, .val (.int k), .val vr] [])) _
  refine GoOn.step (fun tq kq => XS.aloadN X2.here hx rfl (hb hby own_d7) rfl rfl kq) ?_
  show GoOn p e below (T2.setTop (mkF m 10 #[.val (.ref a), .val vo, .val (.int k), .val vr] [(.ref a)])) _
  refine GoOn.step (fun tq kq => XS.iloadN X2.here hx rfl (hb hby own_d8) rfl kq) ?_
  show GoOn p e below (T2.setTop (mkF m 11 #[.val (.ref a), .val vo, .val (.int k), .val vr] [(.int k), (.ref a)])) _
  obtain ⟨T13, h13, X13, e13, W13, st13⟩ := putFN X2 hx hZ hown (hw _ (List.mem_of_getElem? (i := 12) rfl)) Via.refl e2 F5 E7 (Or.inr ⟨(hw _ (List.mem_of_getElem? (i := 13) rfl)), rfl, hnm⟩) (hw _ (List.mem_of_getElem? (i := 2) rfl)) (ty := .boolean) (v' := (.int (nar .boolean k))) (by decide) rfl (fits_nar_bool _) (g := (mkF m 11 #[.val (.ref a), .val vo, .val (.int k), .val vr] [(.int k), (.ref a)])) rfl rfl (hb hby own_d9)
  have N14 := Fr.snoc X13 N3 ga
  have Kx13 : Keep h2 h13 [a] := Keep.of_wr W13
  have F15 : Fld Z h13 a "com/example/archipelago/archipelago/model/TenantRegistration" "realmKnown" "Z" (.int (nar .boolean k)) := F5.same W13
  have F16 : Fld Z h13 a "com/example/archipelago/archipelago/model/TenantRegistration" "databaseOid" "Ljava/lang/Long;" vo := F4.other W13 (Or.inr (slot_ne (a0 := a0) (Or.inr (hw _ (List.mem_of_getElem? (i := 11) rfl))) (Or.inr (hw _ (List.mem_of_getElem? (i := 13) rfl))) (by decide) (t := (.object "java/lang/Long")) (t' := .boolean) (by decide) (by decide)))
  have F17 : Fld Z h13 a "com/example/archipelago/archipelago/model/TenantRegistration" "realmId" "Ljava/lang/String;" .null := F6.other W13 (Or.inr (slot_ne (a0 := a0) (Or.inr (hw _ (List.mem_of_getElem? (i := 15) rfl))) (Or.inr (hw _ (List.mem_of_getElem? (i := 13) rfl))) (by decide) (t := (.object "java/lang/String")) (t' := .boolean) (by decide) (by decide)))
  refine GoOn.step st13 ?_
  have E18 : Exa Z h13 a "com/example/archipelago/archipelago/model/TenantRegistration" := E7.keep Kx13
  have Z19 : n0 ≤ h13.size := Nat.le_trans Z11 Kx13.1
  have K20 : Keep h0 h13 [a] := K12.trans Kx13 ((allS (Or.inl (by simp)) all0))
  show GoOn p e below (T13.setTop (mkF m 14 #[.val (.ref a), .val vo, .val (.int k), .val vr] [])) _
  refine GoOn.step (fun tq kq => XS.aloadN X13.here hx rfl (hb hby own_d10) rfl rfl kq) ?_
  show GoOn p e below (T13.setTop (mkF m 15 #[.val (.ref a), .val vo, .val (.int k), .val vr] [(.ref a)])) _
  refine GoOn.step (fun tq kq => XS.aloadN X13.here hx rfl (hb hby own_d11) rfl hr kq) ?_
  show GoOn p e below (T13.setTop (mkF m 16 #[.val (.ref a), .val vo, .val (.int k), .val vr] [vr, (.ref a)])) _
  obtain ⟨T24, h24, X24, e24, W24, st24⟩ := putF X13 hx hZ hown (host := "") (Or.inl (hw _ (List.mem_of_getElem? (i := 14) rfl))) Via.refl e13 F17 E18 (Or.inr ⟨(hw _ (List.mem_of_getElem? (i := 15) rfl)), rfl, hnm⟩) (hw _ (List.mem_of_getElem? (i := 2) rfl)) (ty := (.object "java/lang/String")) (by decide) (narRef hr) (fitRef hr) (g := (mkF m 16 #[.val (.ref a), .val vo, .val (.int k), .val vr] [vr, (.ref a)])) rfl rfl (hb hby own_d12)
  have N25 := Fr.snoc X24 N14 ga
  have Kx24 : Keep h13 h24 [a] := Keep.of_wr W24
  have F26 : Fld Z h24 a "com/example/archipelago/archipelago/model/TenantRegistration" "realmId" "Ljava/lang/String;" vr := F17.same W24
  have F27 : Fld Z h24 a "com/example/archipelago/archipelago/model/TenantRegistration" "realmKnown" "Z" (.int (nar .boolean k)) := F15.other W24 (Or.inr (slot_ne (a0 := a0) (Or.inr (hw _ (List.mem_of_getElem? (i := 13) rfl))) (Or.inr (hw _ (List.mem_of_getElem? (i := 15) rfl))) (by decide) (t := .boolean) (t' := (.object "java/lang/String")) (by decide) (by decide)))
  have F28 : Fld Z h24 a "com/example/archipelago/archipelago/model/TenantRegistration" "databaseOid" "Ljava/lang/Long;" vo := F16.other W24 (Or.inr (slot_ne (a0 := a0) (Or.inr (hw _ (List.mem_of_getElem? (i := 11) rfl))) (Or.inr (hw _ (List.mem_of_getElem? (i := 15) rfl))) (by decide) (t := (.object "java/lang/Long")) (t' := (.object "java/lang/String")) (by decide) (by decide)))
  refine GoOn.step st24 ?_
  have E29 : Exa Z h24 a "com/example/archipelago/archipelago/model/TenantRegistration" := E18.keep Kx24
  have Z30 : n0 ≤ h24.size := Nat.le_trans Z19 Kx24.1
  have K31 : Keep h0 h24 [a] := K20.trans Kx24 ((allS (Or.inl (by simp)) all0))
  show GoOn p e below (T24.setTop (mkF m 19 #[.val (.ref a), .val vo, .val (.int k), .val vr] [])) _
  refine GoOn.ret X24 Bd.notSynchronized (v := none) (fun _ => rfl) (fun fs hr => X24.returnOut hx Bd.returns (hb hby own_d13) hr) (by decide) (by decide) ?_
  rw [e24]
  exact ⟨rfl, N25, K31, E29, F28, F27, F26⟩
def LCache (Z : State) (arr : Addr) (cl : Cell) : Prop := Sta Z Z.heap "java/lang/Long$LongCache" "cache" "[Ljava/lang/Long;" (.ref arr) ∧ Arr Z Z.heap arr cl (.object "java/lang/Long") ∧ ∀ w : Int64, ¬ w < -128 → ¬ w > 127 → ∃ box : Addr, ¬ ((w.toInt32 + 128) < 0 ∨ cl.slots.size ≤ (w.toInt32 + 128).toNatClampNeg) ∧ cl.slots[(w.toInt32 + 128).toNatClampNeg]? = some (.ref box) ∧ Exa Z Z.heap box "java/lang/Long" ∧ Fld Z Z.heap box "java/lang/Long" "value" "J" (.long w)
theorem lcache_of {s : State} {args : Array Value} {n : Nat} (hs : ∀ d ∈ Jvm.Free.LongBox.longClinit, d.before args s = true) (wi : (Jvm.Cond.instantiable "java/lang/Long" n).before args s = true) (wl : (Jvm.Cond.laysFinal "java/lang/Long" "java/lang/Long" "value" "J").before args s = true) : ∃ arr cl, LCache s arr cl := by
  obtain ⟨arr, ea⟩ := arr_v (Cond.before_iff.mp (hs _ (List.mem_of_getElem? (i := 2) rfl)))
  have S1 : Sta s s.heap "java/lang/Long$LongCache" "cache" "[Ljava/lang/Long;" (.ref arr) := Sta.start ea (Or.inl (hs _ (List.mem_of_getElem? (i := 1) rfl)))
  obtain ⟨cl, A⟩ := Arr.start ea (Cond.before_iff.mp (hs _ (List.mem_of_getElem? (i := 2) rfl)))
  have hat := A.fin (Vm.Alike.refl _)
  obtain ⟨hsz, hsize⟩ := Jvm.Free.IntBox.length_fwd (hs _ (List.mem_of_getElem? (i := 4) rfl)) ea A.1 A.2.1 A.2.2
  have h256 : cl.slots.size = 256 := by
    have e := len_toInt hsz
    rw [hsize] at e
    have : ((256 : Int32)).toInt = 256 := by decide
    omega
  have hall := Cond.all_elim ea hat (Cond.before_iff.mp (hs _ (List.mem_of_getElem? (i := 5) rfl)))
  refine ⟨arr, cl, S1, A, fun w h1 h2 => ?_⟩
  obtain ⟨hb, hlt⟩ := Jvm.Free.LongBox.place_okL w h1 h2
  obtain ⟨he, hv⟩ := and_e (hall _ (by rw [h256]; exact hlt))
  obtain ⟨hnn, hback⟩ := Jvm.Free.IntBox.place_nonneg _ hlt
  have he' : (Jvm.Cond.exactly (.elem Jvm.Free.LongBox.cacheT (.index 0)) Jvm.Free.LongBox.LC).holds args s none s [(w.toInt32 + 128).toNatClampNeg] = true := by simp only [Cond.holds, he]; rfl
  have hv' : (Jvm.Cond.eq (.field (.elem Jvm.Free.LongBox.cacheT (.index 0)) Jvm.Free.LongBox.LC "value" "J") (.op1 .i2l (.sub (.index 0) (.int 128)))).holds args s none s [(w.toInt32 + 128).toNatClampNeg] = true := by simp only [Cond.holds, hv]; rfl
  obtain ⟨box, c', cell, k, q1, q2, q3, q4, q5, q6, q7⟩ := Cond.exactly_spec he'
  subst q6
  obtain ⟨st0, hst⟩ : ∃ z : Value, z = Value.ref arr := ⟨_, rfl⟩
  have ec : Jvm.Free.LongBox.cacheT.eval args s none [(w.toInt32 + 128).toNatClampNeg] s = some (.ref arr) := ea
  have el : (Term.elem Jvm.Free.LongBox.cacheT (.index 0)).eval args s none [(w.toInt32 + 128).toNatClampNeg] s = cl.slots[(w.toInt32 + 128).toNatClampNeg]? := by
    simp [Term.eval, ec, hnn, hat, hback]
  have hsub : (Term.op1 .i2l (.sub (.index 0) (.int 128))).eval args s none [(w.toInt32 + 128).toNatClampNeg] s = some (.long w) := by
    conv => rhs; rw [← Jvm.Free.LongBox.place_valL w h1 h2]
    rfl
  obtain ⟨c1, k1, cf, kf, iV, fV, a1, a2, a3, a4, a5, a6, -⟩ := Laid.spec (Or.inr wl)
  obtain ⟨box', cellB, hbe, hB, hkn, hns, has, gB⟩ := Jvm.Free.LongBox.fieldLong_fwd hv' q1 hsub a3 a4
  cases hbe
  cases q3.symm.trans hB
  exact ⟨box, by rw [h256]; exact hb, by rw [← el]; exact q1, ⟨cell, k, q3, q2, q4, q5, q7⟩, ⟨cell, cf, kf, iV, fV, hB, a3, a4, hkn, hns, has, gB⟩⟩

def QNone (h0 : Heap) (n0 : Nat) (v : Option Value) (h : Heap) (L : List Loc) : Prop := v = none ∧ Fr n0 L ∧ h = h0
set_option maxRecDepth 65536 in
set_option maxHeartbeats 40000000 in
theorem rmNum (l : Launch) (Z : State) (a0 : Array Value) (hw : ∀ d ∈ tables_1, d.before a0 Z = true) (a : Addr) (h0 : Heap) (n0 : Nat) (Z0 : n0 ≤ h0.size) :
    MetFree l (⟨"java/lang/Number", "<init>", "()V"⟩ : MethodName) (head1 [Jvm.Cond.code (⟨"java/lang/Number", "<init>", "()V"⟩ : MethodName) jdk_18_method_1_code 1 none] ({ frames := 1, cells := 0, slots := 0, locals := 12 } : Room)) (fun aa U => aa = #[(.ref a)] ∧ Z.Warmed39 U.vm ∧ U.heap = h0) (fun _ _ _ _ _ => True) (fun _ U o U' => ∃ v L, o = .returned v ∧ QNone h0 n0 v U'.heap L ∧ FrameEnd U o U' L ({ frames := 1, cells := 0, slots := 0, locals := 12 } : Room).cells ({ frames := 1, cells := 0, slots := 0, locals := 12 } : Room).slots) := by
  refine MetFree.of_bodySF (plainFor_of_name own_pn15) hisR ?_
  intro p e s m args below meth c s₁ Bd hml0 hP hK
  obtain ⟨rfl, hZ, hh⟩ := hP
  have hx := Bd.exec
  have hby := Bd.bytes
  have hml : c.maxLocals = 1 := hml0
  have hown : s.vm.findClass "java/lang/Number" = some m.cls := findClass_of_methodNamed Bd.named
  have hnm := (name_of_methodNamed Bd.named Bd.method).1
  have X0 : Stand p l e ({ frames := 1, cells := 0, slots := 0, locals := 12 } : Room) s m #[(.ref a)] below meth c s₁ [] 0 0 := Stand.of_body Bd
  have e0 : s₁.heap = h0 := by rw [← hh, Bd.state]; rfl
  have N0 := Fr.nil n0
  have K0 : Keep h0 h0 [] := Keep.refl _ _
  show GoOn p e below (s₁.setTop (entryFrame m #[(.ref a)] 1)) (PostN s (QNone h0 n0) ({ frames := 1, cells := 0, slots := 0, locals := 12 } : Room).cells ({ frames := 1, cells := 0, slots := 0, locals := 12 } : Room).slots)
  refine GoOn.step (fun tq kq => castTop (own_ef14 m a) kq) ?_
  show GoOn p e below (s₁.setTop (mkF m 0 #[.val (.ref a)] [])) _
  refine GoOn.step (fun tq kq => XS.aloadN X0.here hx rfl (hb hby own_d16) rfl rfl kq) ?_
  show GoOn p e below (s₁.setTop (mkF m 1 #[.val (.ref a)] [(.ref a)])) _
  obtain ⟨T35, X35, e35, st35⟩ := initO X0 hx hZ hown (hw _ (List.mem_of_getElem? (i := 75) rfl)) (hw _ (List.mem_of_getElem? (i := 8) rfl)) (hw _ (List.mem_of_getElem? (i := 9) rfl)) e0 (g := (mkF m 1 #[.val (.ref a)] [(.ref a)])) rfl (by rw [hml]; rfl) rfl (hb hby own_d17) (by decide) (W := 0) (by show 2 * 0 + _ ≤ _; exact Nat.le_of_eq rfl) (by decide)
  refine GoOn.step st35 ?_
  show GoOn p e below (T35.setTop (mkF m 4 #[.val (.ref a)] [])) _
  refine GoOn.ret X35 Bd.notSynchronized (v := none) (fun _ => rfl) (fun fs hr => X35.returnOut hx Bd.returns (hb hby own_d18) hr) (by decide) (by decide) ?_
  rw [e35]
  exact ⟨rfl, N0, rfl⟩
def QLI (Z : State) (a : Addr) (d : Int64) (h0 : Heap) (n0 : Nat) (v : Option Value) (h : Heap) (L : List Loc) : Prop := v = none ∧ Fr n0 L ∧ Keep h0 h [a] ∧ Exa Z h a "java/lang/Long" ∧ Fld Z h a "java/lang/Long" "value" "J" (.long d)
set_option maxRecDepth 65536 in
set_option maxHeartbeats 40000000 in
theorem rmLI (l : Launch) (Z : State) (a0 : Array Value) (hw : ∀ d ∈ tables_1, d.before a0 Z = true) (a : Addr) (d : Int64) (h0 : Heap) (n0 : Nat) (Z0 : n0 ≤ h0.size) (E0 : Exa Z h0 a "java/lang/Long") (F0 : Fld Z h0 a "java/lang/Long" "value" "J" (.long (0 : Int64))) (ga : n0 ≤ a) :
    MetFree l (⟨"java/lang/Long", "<init>", "(J)V"⟩ : MethodName) (head1 [Jvm.Cond.code (⟨"java/lang/Long", "<init>", "(J)V"⟩ : MethodName) jdk_35_method_26_code 3 none] ({ frames := 2, cells := 0, slots := 0, locals := 24 } : Room)) (fun aa U => aa = #[(.ref a), (.long d)] ∧ Z.Warmed39 U.vm ∧ U.heap = h0) (fun _ _ _ _ _ => True) (fun _ U o U' => ∃ v L, o = .returned v ∧ QLI Z a d h0 n0 v U'.heap L ∧ FrameEnd U o U' L ({ frames := 2, cells := 0, slots := 0, locals := 24 } : Room).cells ({ frames := 2, cells := 0, slots := 0, locals := 24 } : Room).slots) := by
  refine MetFree.of_bodySF (plainFor_of_name own_pn20) hisR ?_
  intro p e s m args below meth c s₁ Bd hml0 hP hK
  obtain ⟨rfl, hZ, hh⟩ := hP
  have hx := Bd.exec
  have hby := Bd.bytes
  have hml : c.maxLocals = 3 := hml0
  have hown : s.vm.findClass "java/lang/Long" = some m.cls := findClass_of_methodNamed Bd.named
  have hnm := (name_of_methodNamed Bd.named Bd.method).1
  have X0 : Stand p l e ({ frames := 2, cells := 0, slots := 0, locals := 24 } : Room) s m #[(.ref a), (.long d)] below meth c s₁ [] 0 0 := Stand.of_body Bd
  have e0 : s₁.heap = h0 := by rw [← hh, Bd.state]; rfl
  have N0 := Fr.nil n0
  have K0 : Keep h0 h0 [] := Keep.refl _ _
  show GoOn p e below (s₁.setTop (entryFrame m #[(.ref a), (.long d)] 3)) (PostN s (QLI Z a d h0 n0) ({ frames := 2, cells := 0, slots := 0, locals := 24 } : Room).cells ({ frames := 2, cells := 0, slots := 0, locals := 24 } : Room).slots)
  refine GoOn.step (fun tq kq => castTop (own_ef19 m a d) kq) ?_
  show GoOn p e below (s₁.setTop (mkF m 0 #[.val (.ref a), .val (.long d), .second] [])) _
  have K0a : Keep h0 h0 [a] := Keep.refl _ _
  refine GoOn.step (fun tq kq => XS.aloadN X0.here hx rfl (hb hby own_d21) rfl rfl kq) ?_
  show GoOn p e below (s₁.setTop (mkF m 1 #[.val (.ref a), .val (.long d), .second] [(.ref a)])) _
  obtain ⟨_, _, ⟨T36, L36, k36, n36⟩, -, X36, ⟨Lc36, hQ36, l36, y36, z36⟩, st36⟩ := X0.specialBack hx (y := (⟨"java/lang/Number", "<init>", "()V"⟩ : MethodName)) rfl hown (mvT hZ (hw _ (List.mem_of_getElem? (i := 69) rfl))) (mvT hZ (hw _ (List.mem_of_getElem? (i := 70) rfl))) (mvT hZ (hw _ (List.mem_of_getElem? (i := 74) rfl))) (by decide) (backOf (W := 0) (rmNum l Z a0 hw a h0 n0 Z0) hZ (hw _ (List.mem_of_getElem? (i := 74) rfl)) (hw _ (List.mem_of_getElem? (i := 73) rfl)) (by decide) (by decide)) (g := (mkF m 1 #[.val (.ref a), .val (.long d), .second] [(.ref a)])) rfl (by rw [hml]; rfl) (Steps.refl _) (a := a) (argsL := []) (rest := []) (lenOf own_pd23 rfl) rfl (by show 2 * 0 + _ ≤ _; exact Nat.le_of_eq rfl) (hb hby own_d22) (fun _ _ => ⟨rfl, e0, (by decide : 0 + 0 ≤ _), (by decide : 0 + 0 ≤ _)⟩)
  dsimp only [Pt.U, Pt.locs, Pt.cells, Pt.slots] at X36 l36 y36 z36 st36 hQ36
  subst l36 y36 z36
  obtain ⟨rfl, N36, e36⟩ := hQ36
  refine GoOn.trans st36 ?_
  have N37 := Fr.app N0 N36
  show GoOn p e below (T36.setTop (mkF m 4 #[.val (.ref a), .val (.long d), .second] [])) _
  refine GoOn.step (fun tq kq => XS.aloadN X36.here hx rfl (hb hby own_d24) rfl rfl kq) ?_
  show GoOn p e below (T36.setTop (mkF m 5 #[.val (.ref a), .val (.long d), .second] [(.ref a)])) _
  refine GoOn.step (fun tq kq => XS.lloadN X36.here hx rfl (hb hby own_d25) rfl kq) ?_
  show GoOn p e below (T36.setTop (mkF m 6 #[.val (.ref a), .val (.long d), .second] [(.long d), (.ref a)])) _
  obtain ⟨T38, h38, X38, e38, W38, st38⟩ := putF X36 hx hZ hown (host := "") (Or.inl (hw _ (List.mem_of_getElem? (i := 34) rfl))) Via.refl e36 F0 E0 (Or.inr ⟨(hw _ (List.mem_of_getElem? (i := 35) rfl)), rfl, hnm⟩) (hw _ (List.mem_of_getElem? (i := 64) rfl)) (ty := .long) (by decide) rfl rfl (g := (mkF m 6 #[.val (.ref a), .val (.long d), .second] [(.long d), (.ref a)])) rfl rfl (hb hby own_d26)
  have N39 := Fr.snoc X38 N37 ga
  have Kx38 : Keep h0 h38 [a] := Keep.of_wr W38
  have F40 : Fld Z h38 a "java/lang/Long" "value" "J" (.long d) := F0.same W38
  refine GoOn.step st38 ?_
  have E41 : Exa Z h38 a "java/lang/Long" := E0.keep Kx38
  have Z43 : n0 ≤ h38.size := Nat.le_trans Z0 Kx38.1
  have K44 : Keep h0 h38 [a] := K0a.trans Kx38 ((allS (Or.inl (by simp)) all0))
  show GoOn p e below (T38.setTop (mkF m 9 #[.val (.ref a), .val (.long d), .second] [])) _
  refine GoOn.ret X38 Bd.notSynchronized (v := none) (fun _ => rfl) (fun fs hr => X38.returnOut hx Bd.returns (hb hby own_d27) hr) (by decide) (by decide) ?_
  rw [e38]
  exact ⟨rfl, N39, K44, E41, F40⟩
def QLV (Z : State) (d : Int64) (h0 : Heap) (n0 : Nat) (v : Option Value) (h : Heap) (L : List Loc) : Prop := ∃ a : Addr, v = some (.ref a) ∧ Fr n0 L ∧ Keep h0 h [] ∧ Exa Z h a "java/lang/Long" ∧ Fld Z h a "java/lang/Long" "value" "J" (.long d)
set_option maxRecDepth 65536 in
set_option maxHeartbeats 40000000 in
theorem rmLV (l : Launch) (Z : State) (a0 : Array Value) (hw : ∀ d ∈ tables_1, d.before a0 Z = true) (d : Int64) (arr : Addr) (cl : Cell) (h0 : Heap) (n0 : Nat) (Z0 : n0 ≤ h0.size) (LC : LCache Z arr cl) (O0 : Old Z n0 h0) :
    MetFree l (⟨"java/lang/Long", "valueOf", "(J)Ljava/lang/Long;"⟩ : MethodName) (head1 [Jvm.Cond.code (⟨"java/lang/Long", "valueOf", "(J)Ljava/lang/Long;"⟩ : MethodName) jdk_35_method_24_code 3 (some (.object "java/lang/Long"))] ({ frames := 3, cells := 1, slots := 1, locals := 39 } : Room)) (fun aa U => aa = #[(.long d)] ∧ Z.Warmed39 U.vm ∧ U.heap = h0) (fun _ _ _ _ _ => True) (fun _ U o U' => ∃ v L, o = .returned v ∧ QLV Z d h0 n0 v U'.heap L ∧ FrameEnd U o U' L ({ frames := 3, cells := 1, slots := 1, locals := 39 } : Room).cells ({ frames := 3, cells := 1, slots := 1, locals := 39 } : Room).slots) := by
  refine MetFree.of_bodySF (plainFor_of_name own_pn20) hisR ?_
  intro p e s m args below meth c s₁ Bd hml0 hP hK
  obtain ⟨rfl, hZ, hh⟩ := hP
  have hx := Bd.exec
  have hby := Bd.bytes
  have hml : c.maxLocals = 3 := hml0
  have hown : s.vm.findClass "java/lang/Long" = some m.cls := findClass_of_methodNamed Bd.named
  have hnm := (name_of_methodNamed Bd.named Bd.method).1
  have X0 : Stand p l e ({ frames := 3, cells := 1, slots := 1, locals := 39 } : Room) s m #[(.long d)] below meth c s₁ [] 0 0 := Stand.of_body Bd
  have e0 : s₁.heap = h0 := by rw [← hh, Bd.state]; rfl
  have N0 := Fr.nil n0
  have K0 : Keep h0 h0 [] := Keep.refl _ _
  show GoOn p e below (s₁.setTop (entryFrame m #[(.long d)] 3)) (PostN s (QLV Z d h0 n0) ({ frames := 3, cells := 1, slots := 1, locals := 39 } : Room).cells ({ frames := 3, cells := 1, slots := 1, locals := 39 } : Room).slots)
  refine GoOn.step (fun tq kq => castTop (own_ef28 m d) kq) ?_
  show GoOn p e below (s₁.setTop (mkF m 0 #[.val (.long d), .second, .unset] [])) _
  refine GoOn.step (fun tq kq => XS.sipush X0.here hx rfl (hb hby own_d29) kq) ?_
  show GoOn p e below (s₁.setTop (mkF m 3 #[.val (.long d), .second, .unset] [(.int (128 : Int32))])) _
  refine GoOn.step (fun tq kq => XS.istoreN X0.here hx rfl (hb hby own_d30) rfl (l' := #[.val (.long d), .second, .val (.int (128 : Int32))]) rfl kq) ?_
  show GoOn p e below (s₁.setTop (mkF m 4 #[.val (.long d), .second, .val (.int (128 : Int32))] [])) _
  refine GoOn.step (fun tq kq => XS.lloadN X0.here hx rfl (hb hby own_d31) rfl kq) ?_
  show GoOn p e below (s₁.setTop (mkF m 5 #[.val (.long d), .second, .val (.int (128 : Int32))] [(.long d)])) _
  refine GoOn.step (fun tq kq => X0.ldc2Long hx hown (mvT hZ (hw _ (List.mem_of_getElem? (i := 25) rfl))) (g := (mkF m 5 #[.val (.long d), .second, .val (.int (128 : Int32))] [(.long d)])) rfl (hb hby own_d32) _ kq) ?_
  show GoOn p e below (s₁.setTop (mkF m 8 #[.val (.long d), .second, .val (.int (128 : Int32))] [(.long (-128 : Int64)), (.long d)])) _
  refine GoOn.step (fun tq kq => XS.lcmp X0.here hx rfl (hb hby own_d33) rfl kq) ?_
  show GoOn p e below (s₁.setTop (mkF m 9 #[.val (.long d), .second, .val (.int (128 : Int32))] [(.int (lcmpW d (-128 : Int64)))])) _
  by_cases hc45 : (lcmpW d (-128 : Int64)) < 0
  · skip
    refine GoOn.step (fun tq kq => XS.ifYes X0.here hx rfl (pc0 := 9) (pc' := 31) rfl (hb hby own_d34) rfl ((if0 _ _).trans (tlt hc45).1) (by decide) (by decide) kq) ?_
    show GoOn p e below (s₁.setTop (mkF m 31 #[.val (.long d), .second, .val (.int (128 : Int32))] [])) _
    obtain ⟨T46, h46, X46, e46, Ex46, A46, Df46, -, st46⟩ := newO X0 hx hZ hown (hw _ (List.mem_of_getElem? (i := 63) rfl)) (hw _ (List.mem_of_getElem? (i := 64) rfl)) (hw _ (List.mem_of_getElem? (i := 23) rfl)) e0 (g := (mkF m 31 #[.val (.long d), .second, .val (.int (128 : Int32))] [])) rfl (hb hby own_d35) (by decide) (by decide)
    obtain ⟨b, g46⟩ : ∃ z, z = h0.size := ⟨_, rfl⟩
    rw [← g46] at A46 Df46 st46
    have gn47 : n0 ≤ b := Nat.le_trans Z0 (Nat.le_of_eq g46.symm)
    have sz48 : h0.size ≤ b := Nat.le_trans K0.1 (Nat.le_of_eq g46.symm)
    have Kx46 : Keep h0 h46 [] := (Keep.refl _ _).ext Ex46
    refine GoOn.step st46 ?_
    have O49 : Old Z n0 h46 := O0.keep Kx46 all0
    have Z50 : n0 ≤ h46.size := Nat.le_trans Z0 Kx46.1
    have K51 : Keep h0 h46 [] := K0.trans Kx46 (all0)
    have F52 : Fld Z h46 b "java/lang/Long" "value" "J" (.long (0 : Int64)) := Df46 (Or.inr (hw _ (List.mem_of_getElem? (i := 35) rfl))) (ty := .long) (by decide)
    show GoOn p e below (T46.setTop (mkF m 34 #[.val (.long d), .second, .val (.int (128 : Int32))] [(.ref b)])) _
    refine GoOn.step (fun tq kq => XS.dup X46.here hx rfl (hb hby own_d36) rfl rfl kq) ?_
    show GoOn p e below (T46.setTop (mkF m 35 #[.val (.long d), .second, .val (.int (128 : Int32))] [(.ref b), (.ref b)])) _
    refine GoOn.step (fun tq kq => XS.lloadN X46.here hx rfl (hb hby own_d37) rfl kq) ?_
    show GoOn p e below (T46.setTop (mkF m 36 #[.val (.long d), .second, .val (.int (128 : Int32))] [(.long d), (.ref b), (.ref b)])) _
    obtain ⟨_, _, ⟨T53, L53, k53, n53⟩, -, X53, ⟨Lc53, hQ53, l53, y53, z53⟩, st53⟩ := X46.specialBack hx (y := (⟨"java/lang/Long", "<init>", "(J)V"⟩ : MethodName)) rfl hown (mvT hZ (hw _ (List.mem_of_getElem? (i := 65) rfl))) (mvT hZ (hw _ (List.mem_of_getElem? (i := 66) rfl))) (mvT hZ (hw _ (List.mem_of_getElem? (i := 68) rfl))) (by decide) (backOf (W := 1) (rmLI l Z a0 hw b d h46 n0 Z50 A46 F52 gn47) hZ (hw _ (List.mem_of_getElem? (i := 68) rfl)) (hw _ (List.mem_of_getElem? (i := 23) rfl)) (by decide) (by decide)) (g := (mkF m 36 #[.val (.long d), .second, .val (.int (128 : Int32))] [(.long d), (.ref b), (.ref b)])) rfl (by rw [hml]; rfl) (Steps.refl _) (a := b) (argsL := [(.long d)]) (rest := [(.ref b)]) (lenOf own_pd39 rfl) rfl (by show 2 * 0 + _ ≤ _; exact Nat.le_of_eq rfl) (hb hby own_d38) (fun _ _ => ⟨rfl, e46, (by decide : 1 + 0 ≤ _), (by decide : 1 + 0 ≤ _)⟩)
    dsimp only [Pt.U, Pt.locs, Pt.cells, Pt.slots] at X53 l53 y53 z53 st53 hQ53
    subst l53 y53 z53
    obtain ⟨rfl, N53, K53, E53, F53⟩ := hQ53
    refine GoOn.trans st53 ?_
    have N54 := Fr.app N0 N53
    have O55 : Old Z n0 T53.heap := O49.keep K53 (allS gn47 all0)
    have Z56 : n0 ≤ T53.heap.size := Nat.le_trans Z50 K53.1
    have K57 : Keep h0 T53.heap [] := K51.trans K53 ((allS (Or.inr sz48) all0))
    have E58 : Exa Z T53.heap b "java/lang/Long" := A46.keep K53
    show GoOn p e below (T53.setTop (mkF m 39 #[.val (.long d), .second, .val (.int (128 : Int32))] [(.ref b)])) _
    refine GoOn.ret X53 Bd.notSynchronized (v := some (.ref b)) (fun h => by rw [Bd.returns] at h; cases h) (fun fs hr => retOut X53 hx Bd.returns rfl (Or.inr (Or.inr (Or.inr (Or.inr ⟨rfl, rfl, rfl⟩)))) (hb hby own_d40) hr) (by decide) (by decide) ?_
    exact ⟨b, rfl, N54, K57, E53, F53⟩
  · skip
    refine GoOn.step (fun tq kq => XS.ifNo X0.here hx rfl (hb hby own_d34) rfl ((if0 _ _).trans (flt hc45).1) kq) ?_
    show GoOn p e below (s₁.setTop (mkF m 12 #[.val (.long d), .second, .val (.int (128 : Int32))] [])) _
    refine GoOn.step (fun tq kq => XS.lloadN X0.here hx rfl (hb hby own_d41) rfl kq) ?_
    show GoOn p e below (s₁.setTop (mkF m 13 #[.val (.long d), .second, .val (.int (128 : Int32))] [(.long d)])) _
    refine GoOn.step (fun tq kq => X0.ldc2Long hx hown (mvT hZ (hw _ (List.mem_of_getElem? (i := 26) rfl))) (g := (mkF m 13 #[.val (.long d), .second, .val (.int (128 : Int32))] [(.long d)])) rfl (hb hby own_d42) _ kq) ?_
    show GoOn p e below (s₁.setTop (mkF m 16 #[.val (.long d), .second, .val (.int (128 : Int32))] [(.long (127 : Int64)), (.long d)])) _
    refine GoOn.step (fun tq kq => XS.lcmp X0.here hx rfl (hb hby own_d43) rfl kq) ?_
    show GoOn p e below (s₁.setTop (mkF m 17 #[.val (.long d), .second, .val (.int (128 : Int32))] [(.int (lcmpW d (127 : Int64)))])) _
    by_cases hc60 : 0 < (lcmpW d (127 : Int64))
    · skip
      refine GoOn.step (fun tq kq => XS.ifYes X0.here hx rfl (pc0 := 17) (pc' := 31) rfl (hb hby own_d44) rfl ((if0 _ _).trans (tlt hc60).2.2.1) (by decide) (by decide) kq) ?_
      show GoOn p e below (s₁.setTop (mkF m 31 #[.val (.long d), .second, .val (.int (128 : Int32))] [])) _
      obtain ⟨T61, h61, X61, e61, Ex61, A61, Df61, -, st61⟩ := newO X0 hx hZ hown (hw _ (List.mem_of_getElem? (i := 63) rfl)) (hw _ (List.mem_of_getElem? (i := 64) rfl)) (hw _ (List.mem_of_getElem? (i := 23) rfl)) e0 (g := (mkF m 31 #[.val (.long d), .second, .val (.int (128 : Int32))] [])) rfl (hb hby own_d35) (by decide) (by decide)
      obtain ⟨b, g61⟩ : ∃ z, z = h0.size := ⟨_, rfl⟩
      rw [← g61] at A61 Df61 st61
      have gn62 : n0 ≤ b := Nat.le_trans Z0 (Nat.le_of_eq g61.symm)
      have sz63 : h0.size ≤ b := Nat.le_trans K0.1 (Nat.le_of_eq g61.symm)
      have Kx61 : Keep h0 h61 [] := (Keep.refl _ _).ext Ex61
      refine GoOn.step st61 ?_
      have O64 : Old Z n0 h61 := O0.keep Kx61 all0
      have Z65 : n0 ≤ h61.size := Nat.le_trans Z0 Kx61.1
      have K66 : Keep h0 h61 [] := K0.trans Kx61 (all0)
      have F67 : Fld Z h61 b "java/lang/Long" "value" "J" (.long (0 : Int64)) := Df61 (Or.inr (hw _ (List.mem_of_getElem? (i := 35) rfl))) (ty := .long) (by decide)
      show GoOn p e below (T61.setTop (mkF m 34 #[.val (.long d), .second, .val (.int (128 : Int32))] [(.ref b)])) _
      refine GoOn.step (fun tq kq => XS.dup X61.here hx rfl (hb hby own_d36) rfl rfl kq) ?_
      show GoOn p e below (T61.setTop (mkF m 35 #[.val (.long d), .second, .val (.int (128 : Int32))] [(.ref b), (.ref b)])) _
      refine GoOn.step (fun tq kq => XS.lloadN X61.here hx rfl (hb hby own_d37) rfl kq) ?_
      show GoOn p e below (T61.setTop (mkF m 36 #[.val (.long d), .second, .val (.int (128 : Int32))] [(.long d), (.ref b), (.ref b)])) _
      obtain ⟨_, _, ⟨T68, L68, k68, n68⟩, -, X68, ⟨Lc68, hQ68, l68, y68, z68⟩, st68⟩ := X61.specialBack hx (y := (⟨"java/lang/Long", "<init>", "(J)V"⟩ : MethodName)) rfl hown (mvT hZ (hw _ (List.mem_of_getElem? (i := 65) rfl))) (mvT hZ (hw _ (List.mem_of_getElem? (i := 66) rfl))) (mvT hZ (hw _ (List.mem_of_getElem? (i := 68) rfl))) (by decide) (backOf (W := 1) (rmLI l Z a0 hw b d h61 n0 Z65 A61 F67 gn62) hZ (hw _ (List.mem_of_getElem? (i := 68) rfl)) (hw _ (List.mem_of_getElem? (i := 23) rfl)) (by decide) (by decide)) (g := (mkF m 36 #[.val (.long d), .second, .val (.int (128 : Int32))] [(.long d), (.ref b), (.ref b)])) rfl (by rw [hml]; rfl) (Steps.refl _) (a := b) (argsL := [(.long d)]) (rest := [(.ref b)]) (lenOf own_pd39 rfl) rfl (by show 2 * 0 + _ ≤ _; exact Nat.le_of_eq rfl) (hb hby own_d38) (fun _ _ => ⟨rfl, e61, (by decide : 1 + 0 ≤ _), (by decide : 1 + 0 ≤ _)⟩)
      dsimp only [Pt.U, Pt.locs, Pt.cells, Pt.slots] at X68 l68 y68 z68 st68 hQ68
      subst l68 y68 z68
      obtain ⟨rfl, N68, K68, E68, F68⟩ := hQ68
      refine GoOn.trans st68 ?_
      have N69 := Fr.app N0 N68
      have O70 : Old Z n0 T68.heap := O64.keep K68 (allS gn62 all0)
      have Z71 : n0 ≤ T68.heap.size := Nat.le_trans Z65 K68.1
      have K72 : Keep h0 T68.heap [] := K66.trans K68 ((allS (Or.inr sz63) all0))
      have E73 : Exa Z T68.heap b "java/lang/Long" := A61.keep K68
      show GoOn p e below (T68.setTop (mkF m 39 #[.val (.long d), .second, .val (.int (128 : Int32))] [(.ref b)])) _
      refine GoOn.ret X68 Bd.notSynchronized (v := some (.ref b)) (fun h => by rw [Bd.returns] at h; cases h) (fun fs hr => retOut X68 hx Bd.returns rfl (Or.inr (Or.inr (Or.inr (Or.inr ⟨rfl, rfl, rfl⟩)))) (hb hby own_d40) hr) (by decide) (by decide) ?_
      exact ⟨b, rfl, N69, K72, E68, F68⟩
    · skip
      refine GoOn.step (fun tq kq => XS.ifNo X0.here hx rfl (hb hby own_d44) rfl ((if0 _ _).trans (flt hc60).2.2.1) kq) ?_
      show GoOn p e below (s₁.setTop (mkF m 20 #[.val (.long d), .second, .val (.int (128 : Int32))] [])) _
      obtain ⟨T75, X75, e75, st75⟩ := getS2 X0 hx hZ hown (host := "") (Or.inl (hw _ (List.mem_of_getElem? (i := 27) rfl))) Via.refl e0 (LC.1.ext O0.2) (g := (mkF m 20 #[.val (.long d), .second, .val (.int (128 : Int32))] [])) rfl (hb hby own_d45)
      refine GoOn.step st75 ?_
      show GoOn p e below (T75.setTop (mkF m 23 #[.val (.long d), .second, .val (.int (128 : Int32))] [(.ref arr)])) _
      refine GoOn.step (fun tq kq => XS.lloadN X75.here hx rfl (hb hby own_d46) rfl kq) ?_
      show GoOn p e below (T75.setTop (mkF m 24 #[.val (.long d), .second, .val (.int (128 : Int32))] [(.long d), (.ref arr)])) _
      refine GoOn.step (fun tq kq => XS.l2i X75.here hx rfl (hb hby own_d47) rfl kq) ?_
      show GoOn p e below (T75.setTop (mkF m 25 #[.val (.long d), .second, .val (.int (128 : Int32))] [(.int ((d).toInt32)), (.ref arr)])) _
      refine GoOn.step (fun tq kq => XS.sipush X75.here hx rfl (hb hby own_d48) kq) ?_
      show GoOn p e below (T75.setTop (mkF m 28 #[.val (.long d), .second, .val (.int (128 : Int32))] [(.int (128 : Int32)), (.int ((d).toInt32)), (.ref arr)])) _
      refine GoOn.step (fun tq kq => XS.iadd X75.here hx rfl (hb hby own_d49) rfl kq) ?_
      show GoOn p e below (T75.setTop (mkF m 29 #[.val (.long d), .second, .val (.int (128 : Int32))] [(.int (((d).toInt32) + (128 : Int32))), (.ref arr)])) _
      obtain ⟨box, hin, hat, EB, FB⟩ := LC.2.2 d (fun q => hc45 ((lw_lt _ _).mpr q)) (fun q => hc60 ((lw_gt _ _).mpr q))
      have Ar : Arr Z h0 arr cl (.object "java/lang/Long") := LC.2.1.ext O0.2
      refine GoOn.step (fun tq kq => X75.aaload hx (j := (((d).toInt32) + (128 : Int32))) (v := (.ref box)) (by rw [e75]; exact Ar.1) (State.isArrayOf_alike hZ.alike Ar.2.1) rfl Ar.2.2 hin hat (g := (mkF m 29 #[.val (.long d), .second, .val (.int (128 : Int32))] [(.int (((d).toInt32) + (128 : Int32))), (.ref arr)])) rfl rfl (hb hby own_d50) _ kq) ?_
      show GoOn p e below (T75.setTop (mkF m 30 #[.val (.long d), .second, .val (.int (128 : Int32))] [(.ref box)])) _
      refine GoOn.ret X75 Bd.notSynchronized (v := some (.ref box)) (fun h => by rw [Bd.returns] at h; cases h) (fun fs hr => retOut X75 hx Bd.returns rfl (Or.inr (Or.inr (Or.inr (Or.inr ⟨rfl, rfl, rfl⟩)))) (hb hby own_d51) hr) (by decide) (by decide) ?_
      rw [e75]
      exact ⟨box, rfl, N0, K0, EB.ext O0.2, FB.ext O0.2⟩
set_option maxRecDepth 65536 in
set_option maxHeartbeats 40000000 in
theorem rmLongValue (l : Launch) (Z : State) (a0 : Array Value) (hw : ∀ d ∈ tables_1, d.before a0 Z = true) (a : Addr) (d : Int64) (h0 : Heap) (n0 : Nat) (Z0 : n0 ≤ h0.size) (F0 : Fld Z h0 a "java/lang/Long" "value" "J" (.long d)) :
    MetFree l (⟨"java/lang/Long", "longValue", "()J"⟩ : MethodName) (head1 [Jvm.Cond.code (⟨"java/lang/Long", "longValue", "()J"⟩ : MethodName) jdk_35_method_31_code 1 (some .long)] ({ frames := 0, cells := 0, slots := 0, locals := 0 } : Room)) (fun aa U => aa = #[(.ref a)] ∧ Z.Warmed39 U.vm ∧ U.heap = h0) (fun _ _ _ _ _ => True) (fun _ U o U' => ∃ v L, o = .returned v ∧ QSame (.long d) h0 n0 v U'.heap L ∧ FrameEnd U o U' L ({ frames := 0, cells := 0, slots := 0, locals := 0 } : Room).cells ({ frames := 0, cells := 0, slots := 0, locals := 0 } : Room).slots) := by
  refine MetFree.of_bodySF (plainFor_of_name own_pn20) hisR ?_
  intro p e s m args below meth c s₁ Bd hml0 hP hK
  obtain ⟨rfl, hZ, hh⟩ := hP
  have hx := Bd.exec
  have hby := Bd.bytes
  have hml : c.maxLocals = 1 := hml0
  have hown : s.vm.findClass "java/lang/Long" = some m.cls := findClass_of_methodNamed Bd.named
  have hnm := (name_of_methodNamed Bd.named Bd.method).1
  have X0 : Stand p l e ({ frames := 0, cells := 0, slots := 0, locals := 0 } : Room) s m #[(.ref a)] below meth c s₁ [] 0 0 := Stand.of_body Bd
  have e0 : s₁.heap = h0 := by rw [← hh, Bd.state]; rfl
  have N0 := Fr.nil n0
  have K0 : Keep h0 h0 [] := Keep.refl _ _
  show GoOn p e below (s₁.setTop (entryFrame m #[(.ref a)] 1)) (PostN s (QSame (.long d) h0 n0) ({ frames := 0, cells := 0, slots := 0, locals := 0 } : Room).cells ({ frames := 0, cells := 0, slots := 0, locals := 0 } : Room).slots)
  refine GoOn.step (fun tq kq => castTop (own_ef52 m a) kq) ?_
  show GoOn p e below (s₁.setTop (mkF m 0 #[.val (.ref a)] [])) _
  refine GoOn.step (fun tq kq => XS.aloadN X0.here hx rfl (hb hby own_d53) rfl rfl kq) ?_
  show GoOn p e below (s₁.setTop (mkF m 1 #[.val (.ref a)] [(.ref a)])) _
  obtain ⟨T76, X76, e76, st76⟩ := getF X0 hx hZ hown (host := "") (Or.inl (hw _ (List.mem_of_getElem? (i := 34) rfl))) Via.refl e0 F0 (g := (mkF m 1 #[.val (.ref a)] [(.ref a)])) rfl rfl (hb hby own_d54)
  refine GoOn.step st76 ?_
  show GoOn p e below (T76.setTop (mkF m 4 #[.val (.ref a)] [(.long d)])) _
  refine GoOn.ret X76 Bd.notSynchronized (v := some (.long d)) (fun h => by rw [Bd.returns] at h; cases h) (fun fs hr => retOut X76 hx Bd.returns rfl (Or.inr (Or.inl ⟨rfl, rfl, _, rfl⟩)) (hb hby own_d55) hr) (by decide) (by decide) ?_
  rw [e76]
  exact ⟨rfl, N0, rfl⟩
set_option maxRecDepth 65536 in
set_option maxHeartbeats 40000000 in
theorem rmDb0 (l : Launch) (Z : State) (a0 : Array Value) (hw : ∀ d ∈ tables_1, d.before a0 Z = true) (a : Addr) (q : Int64) (h0 : Heap) (n0 : Nat) (Z0 : n0 ≤ h0.size) (F0 : Fld Z h0 a "com/example/archipelago/archipelago/model/TenantRegistration" "databaseOid" "Ljava/lang/Long;" .null) :
    MetFree l (⟨"com/example/archipelago/archipelago/model/TenantRegistration", "isDatabase", "(J)Z"⟩ : MethodName) (head1 [Jvm.Cond.code (⟨"com/example/archipelago/archipelago/model/TenantRegistration", "isDatabase", "(J)Z"⟩ : MethodName) prog_27_method_4_code 3 (some .boolean)] ({ frames := 0, cells := 0, slots := 0, locals := 0 } : Room)) (fun aa U => aa = #[(.ref a), (.long q)] ∧ Z.Warmed39 U.vm ∧ U.heap = h0) (fun _ _ _ _ _ => True) (fun _ U o U' => ∃ v L, o = .returned v ∧ QSame (.int 0) h0 n0 v U'.heap L ∧ FrameEnd U o U' L ({ frames := 0, cells := 0, slots := 0, locals := 0 } : Room).cells ({ frames := 0, cells := 0, slots := 0, locals := 0 } : Room).slots) := by
  refine MetFree.of_bodySF (plainFor_of_name own_pn1) hisR ?_
  intro p e s m args below meth c s₁ Bd hml0 hP hK
  obtain ⟨rfl, hZ, hh⟩ := hP
  have hx := Bd.exec
  have hby := Bd.bytes
  have hml : c.maxLocals = 3 := hml0
  have hown : s.vm.findClass "com/example/archipelago/archipelago/model/TenantRegistration" = some m.cls := findClass_of_methodNamed Bd.named
  have hnm := (name_of_methodNamed Bd.named Bd.method).1
  have X0 : Stand p l e ({ frames := 0, cells := 0, slots := 0, locals := 0 } : Room) s m #[(.ref a), (.long q)] below meth c s₁ [] 0 0 := Stand.of_body Bd
  have e0 : s₁.heap = h0 := by rw [← hh, Bd.state]; rfl
  have N0 := Fr.nil n0
  have K0 : Keep h0 h0 [] := Keep.refl _ _
  show GoOn p e below (s₁.setTop (entryFrame m #[(.ref a), (.long q)] 3)) (PostN s (QSame (.int 0) h0 n0) ({ frames := 0, cells := 0, slots := 0, locals := 0 } : Room).cells ({ frames := 0, cells := 0, slots := 0, locals := 0 } : Room).slots)
  refine GoOn.step (fun tq kq => castTop (own_ef56 m a q) kq) ?_
  show GoOn p e below (s₁.setTop (mkF m 0 #[.val (.ref a), .val (.long q), .second] [])) _
  refine GoOn.step (fun tq kq => XS.aloadN X0.here hx rfl (hb hby own_d57) rfl rfl kq) ?_
  show GoOn p e below (s₁.setTop (mkF m 1 #[.val (.ref a), .val (.long q), .second] [(.ref a)])) _
  obtain ⟨T77, X77, e77, st77⟩ := getF X0 hx hZ hown (host := "") (Or.inl (hw _ (List.mem_of_getElem? (i := 10) rfl))) Via.refl e0 F0 (g := (mkF m 1 #[.val (.ref a), .val (.long q), .second] [(.ref a)])) rfl rfl (hb hby own_d58)
  refine GoOn.step st77 ?_
  show GoOn p e below (T77.setTop (mkF m 4 #[.val (.ref a), .val (.long q), .second] [.null])) _
  refine GoOn.step (fun tq kq => XS.ifnullYes X77.here hx rfl (pc0 := 4) (pc' := 23) rfl (hb hby own_d59) rfl (by decide) (by decide) kq) ?_
  show GoOn p e below (T77.setTop (mkF m 23 #[.val (.ref a), .val (.long q), .second] [])) _
  refine GoOn.step (fun tq kq => XS.iconst X77.here hx rfl (hb hby own_d60) kq) ?_
  show GoOn p e below (T77.setTop (mkF m 24 #[.val (.ref a), .val (.long q), .second] [(.int (0 : Int32))])) _
  refine GoOn.ret X77 Bd.notSynchronized (v := some (.int (nar .boolean (0 : Int32)))) (fun h => by rw [Bd.returns] at h; cases h) (fun fs hr => retN X77 hx (t := .boolean) Bd.returns (by simp) (hb hby own_d61) hr) (by decide) (by decide) ?_
  rw [e77]
  exact ⟨rfl, N0, rfl⟩
set_option maxRecDepth 65536 in
set_option maxHeartbeats 40000000 in
theorem rmDb1 (l : Launch) (Z : State) (a0 : Array Value) (hw : ∀ d ∈ tables_1, d.before a0 Z = true) (a b : Addr) (q d : Int64) (h0 : Heap) (n0 : Nat) (Z0 : n0 ≤ h0.size) (F0 : Fld Z h0 a "com/example/archipelago/archipelago/model/TenantRegistration" "databaseOid" "Ljava/lang/Long;" (.ref b)) (EB : Exa Z h0 b "java/lang/Long") (FB : Fld Z h0 b "java/lang/Long" "value" "J" (.long d)) :
    MetFree l (⟨"com/example/archipelago/archipelago/model/TenantRegistration", "isDatabase", "(J)Z"⟩ : MethodName) (head1 [Jvm.Cond.code (⟨"com/example/archipelago/archipelago/model/TenantRegistration", "isDatabase", "(J)Z"⟩ : MethodName) prog_27_method_4_code 3 (some .boolean)] ({ frames := 1, cells := 0, slots := 0, locals := 12 } : Room)) (fun aa U => aa = #[(.ref a), (.long q)] ∧ Z.Warmed39 U.vm ∧ U.heap = h0) (fun _ _ _ _ _ => True) (fun _ U o U' => ∃ v L, o = .returned v ∧ QSame (.int (if d = q then 1 else 0)) h0 n0 v U'.heap L ∧ FrameEnd U o U' L ({ frames := 1, cells := 0, slots := 0, locals := 12 } : Room).cells ({ frames := 1, cells := 0, slots := 0, locals := 12 } : Room).slots) := by
  refine MetFree.of_bodySF (plainFor_of_name own_pn1) hisR ?_
  intro p e s m args below meth c s₁ Bd hml0 hP hK
  obtain ⟨rfl, hZ, hh⟩ := hP
  have hx := Bd.exec
  have hby := Bd.bytes
  have hml : c.maxLocals = 3 := hml0
  have hown : s.vm.findClass "com/example/archipelago/archipelago/model/TenantRegistration" = some m.cls := findClass_of_methodNamed Bd.named
  have hnm := (name_of_methodNamed Bd.named Bd.method).1
  have X0 : Stand p l e ({ frames := 1, cells := 0, slots := 0, locals := 12 } : Room) s m #[(.ref a), (.long q)] below meth c s₁ [] 0 0 := Stand.of_body Bd
  have e0 : s₁.heap = h0 := by rw [← hh, Bd.state]; rfl
  have N0 := Fr.nil n0
  have K0 : Keep h0 h0 [] := Keep.refl _ _
  show GoOn p e below (s₁.setTop (entryFrame m #[(.ref a), (.long q)] 3)) (PostN s (QSame (.int (if d = q then 1 else 0)) h0 n0) ({ frames := 1, cells := 0, slots := 0, locals := 12 } : Room).cells ({ frames := 1, cells := 0, slots := 0, locals := 12 } : Room).slots)
  refine GoOn.step (fun tq kq => castTop (own_ef56 m a q) kq) ?_
  show GoOn p e below (s₁.setTop (mkF m 0 #[.val (.ref a), .val (.long q), .second] [])) _
  refine GoOn.step (fun tq kq => XS.aloadN X0.here hx rfl (hb hby own_d57) rfl rfl kq) ?_
  show GoOn p e below (s₁.setTop (mkF m 1 #[.val (.ref a), .val (.long q), .second] [(.ref a)])) _
  obtain ⟨T78, X78, e78, st78⟩ := getF X0 hx hZ hown (host := "") (Or.inl (hw _ (List.mem_of_getElem? (i := 10) rfl))) Via.refl e0 F0 (g := (mkF m 1 #[.val (.ref a), .val (.long q), .second] [(.ref a)])) rfl rfl (hb hby own_d58)
  refine GoOn.step st78 ?_
  show GoOn p e below (T78.setTop (mkF m 4 #[.val (.ref a), .val (.long q), .second] [(.ref b)])) _
  refine GoOn.step (fun tq kq => XS.ifnullNo X78.here hx rfl (hb hby own_d59) rfl kq) ?_
  show GoOn p e below (T78.setTop (mkF m 7 #[.val (.ref a), .val (.long q), .second] [])) _
  refine GoOn.step (fun tq kq => XS.aloadN X78.here hx rfl (hb hby own_d62) rfl rfl kq) ?_
  show GoOn p e below (T78.setTop (mkF m 8 #[.val (.ref a), .val (.long q), .second] [(.ref a)])) _
  obtain ⟨T79, X79, e79, st79⟩ := getF X78 hx hZ hown (host := "") (Or.inl (hw _ (List.mem_of_getElem? (i := 10) rfl))) Via.refl e78 F0 (g := (mkF m 8 #[.val (.ref a), .val (.long q), .second] [(.ref a)])) rfl rfl (hb hby own_d63)
  refine GoOn.step st79 ?_
  show GoOn p e below (T79.setTop (mkF m 11 #[.val (.ref a), .val (.long q), .second] [(.ref b)])) _
  obtain ⟨cqc81, kqc81, qac81, qbc81, qcc81⟩ := isOf hZ e79 EB
  obtain ⟨_, _, ⟨T80, L80, k80, n80⟩, -, X80, ⟨Lc80, hQ80, l80, y80, z80⟩, st80⟩ := X79.virtualBack hx (y := (⟨"java/lang/Long", "longValue", "()J"⟩ : MethodName)) (z := (⟨"java/lang/Long", "longValue", "()J"⟩ : MethodName)) hown (mvT hZ (hw _ (List.mem_of_getElem? (i := 29) rfl))) (mvT hZ (hw _ (List.mem_of_getElem? (i := 30) rfl))) (notFace_of_selects (args := #[]) (mvT hZ (hw _ (List.mem_of_getElem? (i := 32) rfl)))) (mvT hZ (hw _ (List.mem_of_getElem? (i := 32) rfl))) (mvT hZ (hw _ (List.mem_of_getElem? (i := 31) rfl))) (by decide) (backOf (W := 0) (rmLongValue l Z a0 hw b d h0 n0 Z0 FB) hZ (hw _ (List.mem_of_getElem? (i := 33) rfl)) (hw _ (List.mem_of_getElem? (i := 23) rfl)) (by decide) (by decide)) qac81 qcc81 (g := (mkF m 11 #[.val (.ref a), .val (.long q), .second] [(.ref b)])) rfl (by rw [hml]; rfl) (Steps.refl _) (argsL := []) (rest := []) (lenOf own_pd64 rfl) rfl (by show 2 * 0 + _ ≤ _; exact Nat.le_of_eq rfl) (hb hby own_d65) (fun _ _ => ⟨rfl, e79, (by decide : 0 + 0 ≤ _), (by decide : 0 + 0 ≤ _)⟩)
  dsimp only [Pt.U, Pt.locs, Pt.cells, Pt.slots] at X80 l80 y80 z80 st80 hQ80
  subst l80 y80 z80
  obtain ⟨rfl, N80, e80⟩ := hQ80
  refine GoOn.trans st80 ?_
  have N82 := Fr.app N0 N80
  show GoOn p e below (T80.setTop (mkF m 14 #[.val (.ref a), .val (.long q), .second] [(.long d)])) _
  refine GoOn.step (fun tq kq => XS.lloadN X80.here hx rfl (hb hby own_d66) rfl kq) ?_
  show GoOn p e below (T80.setTop (mkF m 15 #[.val (.ref a), .val (.long q), .second] [(.long q), (.long d)])) _
  refine GoOn.step (fun tq kq => XS.lcmp X80.here hx rfl (hb hby own_d67) rfl kq) ?_
  show GoOn p e below (T80.setTop (mkF m 16 #[.val (.ref a), .val (.long q), .second] [(.int (lcmpW d q))])) _
  by_cases hc83 : (lcmpW d q) = 0
  · skip
    refine GoOn.step (fun tq kq => XS.ifNo X80.here hx rfl (hb hby own_d68) rfl ((if0 _ _).trans (teq hc83).2) kq) ?_
    show GoOn p e below (T80.setTop (mkF m 19 #[.val (.ref a), .val (.long q), .second] [])) _
    refine GoOn.step (fun tq kq => XS.iconst X80.here hx rfl (hb hby own_d69) kq) ?_
    show GoOn p e below (T80.setTop (mkF m 20 #[.val (.ref a), .val (.long q), .second] [(.int (1 : Int32))])) _
    refine GoOn.step (fun tq kq => XS.goto X80.here hx rfl (pc0 := 20) (pc' := 24) rfl (hb hby own_d70) (by decide) (by decide) kq) ?_
    show GoOn p e below (T80.setTop (mkF m 24 #[.val (.ref a), .val (.long q), .second] [(.int (1 : Int32))])) _
    refine GoOn.ret X80 Bd.notSynchronized (v := some (.int (nar .boolean (1 : Int32)))) (fun h => by rw [Bd.returns] at h; cases h) (fun fs hr => retN X80 hx (t := .boolean) Bd.returns (by simp) (hb hby own_d61) hr) (by decide) (by decide) ?_
    rw [e80]
    exact ⟨by rw [if_pos ((lw_eq _ _).mp hc83)]; rfl, N82, rfl⟩
  · skip
    refine GoOn.step (fun tq kq => XS.ifYes X80.here hx rfl (pc0 := 16) (pc' := 23) rfl (hb hby own_d68) rfl ((if0 _ _).trans (feq hc83).2) (by decide) (by decide) kq) ?_
    show GoOn p e below (T80.setTop (mkF m 23 #[.val (.ref a), .val (.long q), .second] [])) _
    refine GoOn.step (fun tq kq => XS.iconst X80.here hx rfl (hb hby own_d60) kq) ?_
    show GoOn p e below (T80.setTop (mkF m 24 #[.val (.ref a), .val (.long q), .second] [(.int (0 : Int32))])) _
    refine GoOn.ret X80 Bd.notSynchronized (v := some (.int (nar .boolean (0 : Int32)))) (fun h => by rw [Bd.returns] at h; cases h) (fun fs hr => retN X80 hx (t := .boolean) Bd.returns (by simp) (hb hby own_d61) hr) (by decide) (by decide) ?_
    rw [e80]
    exact ⟨by rw [if_neg (fun q => hc83 ((lw_eq _ _).mpr q))]; rfl, N82, rfl⟩
def QLaw (h0 : Heap) (n0 : Nat) (v : Option Value) (h : Heap) (L : List Loc) : Prop := v = some (.int 1) ∧ Fr n0 L
set_option maxRecDepth 65536 in
set_option maxHeartbeats 40000000 in
theorem rm0 (l : Launch) (Z : State) (a0 : Array Value) (hw : ∀ d ∈ tables_1, d.before a0 Z = true) (ws : List Jvm.Cond) (d o : Int64) (f G1 : Int32) (arr : Addr) (cl : Cell) (h0 : Heap) (n0 : Nat) (Z0 : n0 ≤ h0.size) (SC : Sta Z Z.heap "java/lang/String" "COMPACT_STRINGS" "Z" (.int G1)) (PC : ¬ G1 = (0 : Int32)) (LC : LCache Z arr cl) (O0 : Old Z n0 h0) :
    MetFree l x (head1 (Jvm.Cond.code x code maxLocals ret :: ws) room_1) (fun aa U => aa = #[(.long d), (.long o), (.int f)] ∧ Z.Warmed39 U.vm ∧ U.heap = h0) (fun _ _ _ _ _ => True) (fun _ U o U' => ∃ v L, o = .returned v ∧ QLaw h0 n0 v U'.heap L ∧ FrameEnd U o U' L 24 128) := by
  refine MetFree.of_bodySF (plainFor_of_name own_pn72) hisR ?_
  intro p e s m args below meth c s₁ Bd hml0 hP hK
  obtain ⟨rfl, hZ, hh⟩ := hP
  have hx := Bd.exec
  have hby := Bd.bytes
  have hml : c.maxLocals = 16 := hml0
  have hown : s.vm.findClass "com/example/archipelago/archipelago/model/TenantRegistrationIsDatabasePinLaw" = some m.cls := findClass_of_methodNamed Bd.named
  have hnm := (name_of_methodNamed Bd.named Bd.method).1
  have X0 : Stand p l e room_1 s m #[(.long d), (.long o), (.int f)] below meth c s₁ [] 0 0 := Stand.of_body Bd
  have e0 : s₁.heap = h0 := by rw [← hh, Bd.state]; rfl
  have N0 := Fr.nil n0
  have K0 : Keep h0 h0 [] := Keep.refl _ _
  show GoOn p e below (s₁.setTop (entryFrame m #[(.long d), (.long o), (.int f)] maxLocals)) (PostN s (QLaw h0 n0) 24 128)
  refine GoOn.step (fun tq kq => castTop (own_ef71 m d o f) kq) ?_
  show GoOn p e below (s₁.setTop (mkF m 0 #[.val (.long d), .second, .val (.long o), .second, .val (.int f), .unset, .unset, .unset, .unset, .unset, .unset, .unset, .unset, .unset, .unset, .unset] [])) _
  have hws : ∀ d ∈ StrChars.Road.words, d.before a0 Z = true := fun d hd => hw d ((by decide +kernel : ∀ d ∈ StrChars.Road.words, d ∈ tables_1) d hd)
  have J106 : ∀ (Tj85 : State) (lj85 : List Loc) (hj85 : Heap) (k5 k6 k7 k8 : Int32) (pr : Int64) (ca : Addr) (vr : Value) (hvr : vr.isRef = true) (Xj85 : Stand p l e room_1 s m #[(.long d), (.long o), (.int f)] below meth c Tj85 lj85 3 6) (ej85 : Tj85.heap = hj85) (Nj85 : Fr n0 lj85) (Zj85 : n0 ≤ hj85.size) (Kj85 : Keep h0 hj85 []) (O84 : Old Z n0 hj85), GoOn p e below (Tj85.setTop (mkF m 106 #[.val (.long d), .second, .val (.long o), .second, .val (.int f), .val (.int k5), .val (.int k6), .val (.int k7), .val (.int k8), .val (.long pr), .second, .val (.ref ca), .unset, .unset, .unset, .unset] [vr])) (PostN s (QLaw h0 n0) 24 128) := by
    intro Tj85 lj85 hj85 k5 k6 k7 k8 pr ca vr hvr Xj85 ej85 Nj85  Zj85 Kj85 O84 
    refine GoOn.step (fun tq kq => XS.astore Xj85.here hx rfl (hb hby at_106) rfl hvr (l' := #[.val (.long d), .second, .val (.long o), .second, .val (.int f), .val (.int k5), .val (.int k6), .val (.int k7), .val (.int k8), .val (.long pr), .second, .val (.ref ca), .val vr, .unset, .unset, .unset]) (XS.store1 (o := .unset) rfl (Or.inl rfl) (refCat hvr)) kq) ?_
    show GoOn p e below (Tj85.setTop (mkF m 108 #[.val (.long d), .second, .val (.long o), .second, .val (.int f), .val (.int k5), .val (.int k6), .val (.int k7), .val (.int k8), .val (.long pr), .second, .val (.ref ca), .val vr, .unset, .unset, .unset] [])) _
    refine GoOn.step (fun tq kq => XS.iload Xj85.here hx rfl (hb hby at_108) rfl kq) ?_
    show GoOn p e below (Tj85.setTop (mkF m 110 #[.val (.long d), .second, .val (.long o), .second, .val (.int f), .val (.int k5), .val (.int k6), .val (.int k7), .val (.int k8), .val (.long pr), .second, .val (.ref ca), .val vr, .unset, .unset, .unset] [(.int k5)])) _
    by_cases hc86 : k5 = 0
    · skip
      refine GoOn.step (fun tq kq => XS.ifYes Xj85.here hx rfl (pc0 := 110) (pc' := 120) rfl (hb hby at_110) rfl ((if0 _ _).trans (teq hc86).1) (by decide) (by decide) kq) ?_
      show GoOn p e below (Tj85.setTop (mkF m 120 #[.val (.long d), .second, .val (.long o), .second, .val (.int f), .val (.int k5), .val (.int k6), .val (.int k7), .val (.int k8), .val (.long pr), .second, .val (.ref ca), .val vr, .unset, .unset, .unset] [])) _
      refine GoOn.step (fun tq kq => XS.aconstNull Xj85.here hx rfl (hb hby at_120) kq) ?_
      show GoOn p e below (Tj85.setTop (mkF m 121 #[.val (.long d), .second, .val (.long o), .second, .val (.int f), .val (.int k5), .val (.int k6), .val (.int k7), .val (.int k8), .val (.long pr), .second, .val (.ref ca), .val vr, .unset, .unset, .unset] [.null])) _
      refine GoOn.step (fun tq kq => XS.astore Xj85.here hx rfl (hb hby at_121) rfl rfl (l' := #[.val (.long d), .second, .val (.long o), .second, .val (.int f), .val (.int k5), .val (.int k6), .val (.int k7), .val (.int k8), .val (.long pr), .second, .val (.ref ca), .val vr, .val .null, .unset, .unset]) rfl kq) ?_
      show GoOn p e below (Tj85.setTop (mkF m 123 #[.val (.long d), .second, .val (.long o), .second, .val (.int f), .val (.int k5), .val (.int k6), .val (.int k7), .val (.int k8), .val (.long pr), .second, .val (.ref ca), .val vr, .val .null, .unset, .unset] [])) _
      obtain ⟨T87, h87, X87, e87, Ex87, A87, Df87, -, st87⟩ := newO Xj85 hx hZ hown (hw _ (List.mem_of_getElem? (i := 1) rfl)) (hw _ (List.mem_of_getElem? (i := 2) rfl)) (hw _ (List.mem_of_getElem? (i := 3) rfl)) ej85 (g := (mkF m 123 #[.val (.long d), .second, .val (.long o), .second, .val (.int f), .val (.int k5), .val (.int k6), .val (.int k7), .val (.int k8), .val (.long pr), .second, .val (.ref ca), .val vr, .val .null, .unset, .unset] [])) rfl (hb hby at_123) (by decide) (by decide)
      obtain ⟨tr, g87⟩ : ∃ z, z = hj85.size := ⟨_, rfl⟩
      rw [← g87] at A87 Df87 st87
      have gn88 : n0 ≤ tr := Nat.le_trans Zj85 (Nat.le_of_eq g87.symm)
      have sz89 : h0.size ≤ tr := Nat.le_trans Kj85.1 (Nat.le_of_eq g87.symm)
      have Kx87 : Keep hj85 h87 [] := (Keep.refl _ _).ext Ex87
      refine GoOn.step st87 ?_
      have Z90 : n0 ≤ h87.size := Nat.le_trans Zj85 Kx87.1
      have K91 : Keep h0 h87 [] := Kj85.trans Kx87 (all0)
      have O92 : Old Z n0 h87 := O84.keep Kx87 all0
      have F93 : Fld Z h87 tr "com/example/archipelago/archipelago/model/TenantRegistration" "databaseOid" "Ljava/lang/Long;" .null := Df87 (Or.inr (hw _ (List.mem_of_getElem? (i := 11) rfl))) (ty := (.object "java/lang/Long")) (by decide)
      have F94 : Fld Z h87 tr "com/example/archipelago/archipelago/model/TenantRegistration" "realmKnown" "Z" (.int (0 : Int32)) := Df87 (Or.inr (hw _ (List.mem_of_getElem? (i := 13) rfl))) (ty := .boolean) (by decide)
      have F95 : Fld Z h87 tr "com/example/archipelago/archipelago/model/TenantRegistration" "realmId" "Ljava/lang/String;" .null := Df87 (Or.inr (hw _ (List.mem_of_getElem? (i := 15) rfl))) (ty := (.object "java/lang/String")) (by decide)
      show GoOn p e below (T87.setTop (mkF m 126 #[.val (.long d), .second, .val (.long o), .second, .val (.int f), .val (.int k5), .val (.int k6), .val (.int k7), .val (.int k8), .val (.long pr), .second, .val (.ref ca), .val vr, .val .null, .unset, .unset] [(.ref tr)])) _
      refine GoOn.step (fun tq kq => XS.dup X87.here hx rfl (hb hby at_126) rfl rfl kq) ?_
      show GoOn p e below (T87.setTop (mkF m 127 #[.val (.long d), .second, .val (.long o), .second, .val (.int f), .val (.int k5), .val (.int k6), .val (.int k7), .val (.int k8), .val (.long pr), .second, .val (.ref ca), .val vr, .val .null, .unset, .unset] [(.ref tr), (.ref tr)])) _
      refine GoOn.step (fun tq kq => XS.aload X87.here hx rfl (hb hby at_127) rfl rfl kq) ?_
      show GoOn p e below (T87.setTop (mkF m 129 #[.val (.long d), .second, .val (.long o), .second, .val (.int f), .val (.int k5), .val (.int k6), .val (.int k7), .val (.int k8), .val (.long pr), .second, .val (.ref ca), .val vr, .val .null, .unset, .unset] [.null, (.ref tr), (.ref tr)])) _
      refine GoOn.step (fun tq kq => XS.iload X87.here hx rfl (hb hby at_129) rfl kq) ?_
      show GoOn p e below (T87.setTop (mkF m 131 #[.val (.long d), .second, .val (.long o), .second, .val (.int f), .val (.int k5), .val (.int k6), .val (.int k7), .val (.int k8), .val (.long pr), .second, .val (.ref ca), .val vr, .val .null, .unset, .unset] [(.int k7), .null, (.ref tr), (.ref tr)])) _
      refine GoOn.step (fun tq kq => XS.aload X87.here hx rfl (hb hby at_131) rfl hvr kq) ?_
      show GoOn p e below (T87.setTop (mkF m 133 #[.val (.long d), .second, .val (.long o), .second, .val (.int f), .val (.int k5), .val (.int k6), .val (.int k7), .val (.int k8), .val (.long pr), .second, .val (.ref ca), .val vr, .val .null, .unset, .unset] [vr, (.int k7), .null, (.ref tr), (.ref tr)])) _
      obtain ⟨_, _, ⟨T96, L96, k96, n96⟩, -, X96, ⟨Lc96, hQ96, l96, y96, z96⟩, st96⟩ := X87.specialBack hx (y := (⟨"com/example/archipelago/archipelago/model/TenantRegistration", "<init>", "(Ljava/lang/Long;ZLjava/lang/String;)V"⟩ : MethodName)) rfl hown (mvT hZ (hw _ (List.mem_of_getElem? (i := 4) rfl))) (mvT hZ (hw _ (List.mem_of_getElem? (i := 5) rfl))) (mvT hZ (hw _ (List.mem_of_getElem? (i := 6) rfl))) (by decide) (backOf (W := 1) (rmTI l Z a0 hw tr .null k7 vr h87 n0 Z90 A87 F93 F94 F95 gn88 rfl hvr) hZ (hw _ (List.mem_of_getElem? (i := 6) rfl)) (hw _ (List.mem_of_getElem? (i := 3) rfl)) (by decide) (by decide)) (g := (mkF m 133 #[.val (.long d), .second, .val (.long o), .second, .val (.int f), .val (.int k5), .val (.int k6), .val (.int k7), .val (.int k8), .val (.long pr), .second, .val (.ref ca), .val vr, .val .null, .unset, .unset] [vr, (.int k7), .null, (.ref tr), (.ref tr)])) rfl (by rw [hml]; rfl) (Steps.refl _) (a := tr) (argsL := [.null, (.int k7), vr]) (rest := [(.ref tr)]) (lenOf own_pd73 rfl) rfl (by show 2 * 0 + _ ≤ _; exact Nat.le_of_eq rfl) (hb hby at_133) (fun _ _ => ⟨rfl, e87, (by decide : 4 + 0 ≤ _), (by decide : 9 + 0 ≤ _)⟩)
      dsimp only [Pt.U, Pt.locs, Pt.cells, Pt.slots] at X96 l96 y96 z96 st96 hQ96
      subst l96 y96 z96
      obtain ⟨rfl, N96, K96, E96, Fa96, Fb96, Fc96⟩ := hQ96
      refine GoOn.trans st96 ?_
      have N97 := Fr.app Nj85 N96
      have Z98 : n0 ≤ T96.heap.size := Nat.le_trans Z90 K96.1
      have K99 : Keep h0 T96.heap [] := K91.trans K96 ((allS (Or.inr sz89) all0))
      have O100 : Old Z n0 T96.heap := O92.keep K96 (allS gn88 all0)
      have E101 : Exa Z T96.heap tr "com/example/archipelago/archipelago/model/TenantRegistration" := A87.keep K96
      show GoOn p e below (T96.setTop (mkF m 136 #[.val (.long d), .second, .val (.long o), .second, .val (.int f), .val (.int k5), .val (.int k6), .val (.int k7), .val (.int k8), .val (.long pr), .second, .val (.ref ca), .val vr, .val .null, .unset, .unset] [(.ref tr)])) _
      refine GoOn.step (fun tq kq => XS.astore X96.here hx rfl (hb hby at_136) rfl rfl (l' := #[.val (.long d), .second, .val (.long o), .second, .val (.int f), .val (.int k5), .val (.int k6), .val (.int k7), .val (.int k8), .val (.long pr), .second, .val (.ref ca), .val vr, .val .null, .val (.ref tr), .unset]) rfl kq) ?_
      show GoOn p e below (T96.setTop (mkF m 138 #[.val (.long d), .second, .val (.long o), .second, .val (.int f), .val (.int k5), .val (.int k6), .val (.int k7), .val (.int k8), .val (.long pr), .second, .val (.ref ca), .val vr, .val .null, .val (.ref tr), .unset] [])) _
      refine GoOn.step (fun tq kq => XS.iload X96.here hx rfl (hb hby at_138) rfl kq) ?_
      show GoOn p e below (T96.setTop (mkF m 140 #[.val (.long d), .second, .val (.long o), .second, .val (.int f), .val (.int k5), .val (.int k6), .val (.int k7), .val (.int k8), .val (.long pr), .second, .val (.ref ca), .val vr, .val .null, .val (.ref tr), .unset] [(.int k5)])) _
      refine GoOn.step (fun tq kq => XS.ifYes X96.here hx rfl (pc0 := 140) (pc' := 154) rfl (hb hby at_140) rfl ((if0 _ _).trans (teq hc86).1) (by decide) (by decide) kq) ?_
      show GoOn p e below (T96.setTop (mkF m 154 #[.val (.long d), .second, .val (.long o), .second, .val (.int f), .val (.int k5), .val (.int k6), .val (.int k7), .val (.int k8), .val (.long pr), .second, .val (.ref ca), .val vr, .val .null, .val (.ref tr), .unset] [])) _
      refine GoOn.step (fun tq kq => XS.iconst X96.here hx rfl (hb hby at_154) kq) ?_
      show GoOn p e below (T96.setTop (mkF m 155 #[.val (.long d), .second, .val (.long o), .second, .val (.int f), .val (.int k5), .val (.int k6), .val (.int k7), .val (.int k8), .val (.long pr), .second, .val (.ref ca), .val vr, .val .null, .val (.ref tr), .unset] [(.int (0 : Int32))])) _
      refine GoOn.step (fun tq kq => XS.istore X96.here hx rfl (hb hby at_155) rfl (l' := #[.val (.long d), .second, .val (.long o), .second, .val (.int f), .val (.int k5), .val (.int k6), .val (.int k7), .val (.int k8), .val (.long pr), .second, .val (.ref ca), .val vr, .val .null, .val (.ref tr), .val (.int (0 : Int32))]) rfl kq) ?_
      show GoOn p e below (T96.setTop (mkF m 157 #[.val (.long d), .second, .val (.long o), .second, .val (.int f), .val (.int k5), .val (.int k6), .val (.int k7), .val (.int k8), .val (.long pr), .second, .val (.ref ca), .val vr, .val .null, .val (.ref tr), .val (.int (0 : Int32))] [])) _
      refine GoOn.step (fun tq kq => XS.aload X96.here hx rfl (hb hby at_157) rfl rfl kq) ?_
      show GoOn p e below (T96.setTop (mkF m 159 #[.val (.long d), .second, .val (.long o), .second, .val (.int f), .val (.int k5), .val (.int k6), .val (.int k7), .val (.int k8), .val (.long pr), .second, .val (.ref ca), .val vr, .val .null, .val (.ref tr), .val (.int (0 : Int32))] [(.ref tr)])) _
      refine GoOn.step (fun tq kq => XS.lload X96.here hx rfl (hb hby at_159) rfl kq) ?_
      show GoOn p e below (T96.setTop (mkF m 161 #[.val (.long d), .second, .val (.long o), .second, .val (.int f), .val (.int k5), .val (.int k6), .val (.int k7), .val (.int k8), .val (.long pr), .second, .val (.ref ca), .val vr, .val .null, .val (.ref tr), .val (.int (0 : Int32))] [(.long pr), (.ref tr)])) _
      obtain ⟨cqc106, kqc106, qac106, qbc106, qcc106⟩ := isOf hZ rfl E101
      obtain ⟨_, _, ⟨T105, L105, k105, n105⟩, -, X105, ⟨Lc105, hQ105, l105, y105, z105⟩, st105⟩ := X96.virtualBack hx (y := (⟨"com/example/archipelago/archipelago/model/TenantRegistration", "isDatabase", "(J)Z"⟩ : MethodName)) (z := (⟨"com/example/archipelago/archipelago/model/TenantRegistration", "isDatabase", "(J)Z"⟩ : MethodName)) hown (mvT hZ (hw _ (List.mem_of_getElem? (i := 16) rfl))) (mvT hZ (hw _ (List.mem_of_getElem? (i := 17) rfl))) (notFace_of_selects (args := #[]) (mvT hZ (hw _ (List.mem_of_getElem? (i := 19) rfl)))) (mvT hZ (hw _ (List.mem_of_getElem? (i := 19) rfl))) (mvT hZ (hw _ (List.mem_of_getElem? (i := 18) rfl))) (by decide) (backOf (W := 0) (rmDb0 l Z a0 hw tr pr T96.heap n0 Z98 Fa96) hZ (hw _ (List.mem_of_getElem? (i := 20) rfl)) (hw _ (List.mem_of_getElem? (i := 3) rfl)) (by decide) (by decide)) qac106 qcc106 (g := (mkF m 161 #[.val (.long d), .second, .val (.long o), .second, .val (.int f), .val (.int k5), .val (.int k6), .val (.int k7), .val (.int k8), .val (.long pr), .second, .val (.ref ca), .val vr, .val .null, .val (.ref tr), .val (.int (0 : Int32))] [(.long pr), (.ref tr)])) rfl (by rw [hml]; rfl) (Steps.refl _) (argsL := [(.long pr)]) (rest := []) (lenOf own_pd74 rfl) rfl (by show 2 * 0 + _ ≤ _; exact Nat.le_of_eq rfl) (hb hby at_161) (fun _ _ => ⟨rfl, rfl, (by decide : 4 + 0 ≤ _), (by decide : 9 + 0 ≤ _)⟩)
      dsimp only [Pt.U, Pt.locs, Pt.cells, Pt.slots] at X105 l105 y105 z105 st105 hQ105
      subst l105 y105 z105
      obtain ⟨rfl, N105, e105⟩ := hQ105
      refine GoOn.trans st105 ?_
      have N107 := Fr.app N97 N105
      show GoOn p e below (T105.setTop (mkF m 164 #[.val (.long d), .second, .val (.long o), .second, .val (.int f), .val (.int k5), .val (.int k6), .val (.int k7), .val (.int k8), .val (.long pr), .second, .val (.ref ca), .val vr, .val .null, .val (.ref tr), .val (.int (0 : Int32))] [(.int (0 : Int32))])) _
      refine GoOn.step (fun tq kq => XS.iload X105.here hx rfl (hb hby at_164) rfl kq) ?_
      show GoOn p e below (T105.setTop (mkF m 166 #[.val (.long d), .second, .val (.long o), .second, .val (.int f), .val (.int k5), .val (.int k6), .val (.int k7), .val (.int k8), .val (.long pr), .second, .val (.ref ca), .val vr, .val .null, .val (.ref tr), .val (.int (0 : Int32))] [(.int (0 : Int32)), (.int (0 : Int32))])) _
      refine GoOn.step (fun tq kq => XS.icmpNo X105.here hx rfl (hb hby at_166) rfl (teq rfl).2 kq) ?_
      show GoOn p e below (T105.setTop (mkF m 169 #[.val (.long d), .second, .val (.long o), .second, .val (.int f), .val (.int k5), .val (.int k6), .val (.int k7), .val (.int k8), .val (.long pr), .second, .val (.ref ca), .val vr, .val .null, .val (.ref tr), .val (.int (0 : Int32))] [])) _
      refine GoOn.step (fun tq kq => XS.iconst X105.here hx rfl (hb hby at_169) kq) ?_
      show GoOn p e below (T105.setTop (mkF m 170 #[.val (.long d), .second, .val (.long o), .second, .val (.int f), .val (.int k5), .val (.int k6), .val (.int k7), .val (.int k8), .val (.long pr), .second, .val (.ref ca), .val vr, .val .null, .val (.ref tr), .val (.int (0 : Int32))] [(.int (1 : Int32))])) _
      refine GoOn.step (fun tq kq => XS.goto X105.here hx rfl (pc0 := 170) (pc' := 174) rfl (hb hby at_170) (by decide) (by decide) kq) ?_
      show GoOn p e below (T105.setTop (mkF m 174 #[.val (.long d), .second, .val (.long o), .second, .val (.int f), .val (.int k5), .val (.int k6), .val (.int k7), .val (.int k8), .val (.long pr), .second, .val (.ref ca), .val vr, .val .null, .val (.ref tr), .val (.int (0 : Int32))] [(.int (1 : Int32))])) _
      refine GoOn.ret X105 Bd.notSynchronized (v := some (.int (nar .boolean (1 : Int32)))) (fun h => by rw [Bd.returns] at h; cases h) (fun fs hr => retN X105 hx (t := .boolean) Bd.returns (by simp) (hb hby at_174) hr) (by decide) (by decide) ?_
      rw [e105]
      exact ⟨rfl, N107⟩
    · skip
      refine GoOn.step (fun tq kq => XS.ifNo Xj85.here hx rfl (hb hby at_110) rfl ((if0 _ _).trans (feq hc86).1) kq) ?_
      show GoOn p e below (Tj85.setTop (mkF m 113 #[.val (.long d), .second, .val (.long o), .second, .val (.int f), .val (.int k5), .val (.int k6), .val (.int k7), .val (.int k8), .val (.long pr), .second, .val (.ref ca), .val vr, .unset, .unset, .unset] [])) _
      refine GoOn.step (fun tq kq => XS.lloadN Xj85.here hx rfl (hb hby at_113) rfl kq) ?_
      show GoOn p e below (Tj85.setTop (mkF m 114 #[.val (.long d), .second, .val (.long o), .second, .val (.int f), .val (.int k5), .val (.int k6), .val (.int k7), .val (.int k8), .val (.long pr), .second, .val (.ref ca), .val vr, .unset, .unset, .unset] [(.long d)])) _
      obtain ⟨_, _, ⟨T108, L108, k108, n108⟩, -, X108, ⟨Lc108, hQ108, l108, y108, z108⟩, st108⟩ := Jvm.LawKit.callS Xj85 hx (y := (⟨"java/lang/Long", "valueOf", "(J)Ljava/lang/Long;"⟩ : MethodName)) hown (mvT hZ (hw _ (List.mem_of_getElem? (i := 21) rfl))) (mvT hZ (hw _ (List.mem_of_getElem? (i := 22) rfl))) (mvT hZ (hw _ (List.mem_of_getElem? (i := 23) rfl))) (mvT hZ (hw _ (List.mem_of_getElem? (i := 24) rfl))) (by decide) (backOf (W := 0) (rmLV l Z a0 hw d arr cl hj85 n0 Zj85 LC O84) hZ (hw _ (List.mem_of_getElem? (i := 24) rfl)) (hw _ (List.mem_of_getElem? (i := 23) rfl)) (by decide) (by decide)) (g := (mkF m 114 #[.val (.long d), .second, .val (.long o), .second, .val (.int f), .val (.int k5), .val (.int k6), .val (.int k7), .val (.int k8), .val (.long pr), .second, .val (.ref ca), .val vr, .unset, .unset, .unset] [(.long d)])) rfl (by rw [hml]; rfl) (argsL := [(.long d)]) (rest := []) (lenOf own_pd75 rfl) rfl (by show 2 * 0 + _ ≤ _; exact Nat.le_of_eq rfl) (hb hby at_114) (fun _ _ => ⟨rfl, ej85, (by decide : 3 + 1 ≤ _), (by decide : 6 + 1 ≤ _)⟩)
      dsimp only [Pt.U, Pt.locs, Pt.cells, Pt.slots] at X108 l108 y108 z108 st108 hQ108
      subst l108 y108 z108
      obtain ⟨bx108, rfl, N108, K108, E108, F108⟩ := hQ108
      refine GoOn.step st108 ?_
      have N109 := Fr.app Nj85 N108
      have Z110 : n0 ≤ T108.heap.size := Nat.le_trans Zj85 K108.1
      have K111 : Keep h0 T108.heap [] := Kj85.trans K108 (all0)
      have O112 : Old Z n0 T108.heap := O84.keep K108 all0
      show GoOn p e below (T108.setTop (mkF m 117 #[.val (.long d), .second, .val (.long o), .second, .val (.int f), .val (.int k5), .val (.int k6), .val (.int k7), .val (.int k8), .val (.long pr), .second, .val (.ref ca), .val vr, .unset, .unset, .unset] [(.ref bx108)])) _
      refine GoOn.step (fun tq kq => XS.goto X108.here hx rfl (pc0 := 117) (pc' := 121) rfl (hb hby at_117) (by decide) (by decide) kq) ?_
      show GoOn p e below (T108.setTop (mkF m 121 #[.val (.long d), .second, .val (.long o), .second, .val (.int f), .val (.int k5), .val (.int k6), .val (.int k7), .val (.int k8), .val (.long pr), .second, .val (.ref ca), .val vr, .unset, .unset, .unset] [(.ref bx108)])) _
      refine GoOn.step (fun tq kq => XS.astore X108.here hx rfl (hb hby at_121) rfl rfl (l' := #[.val (.long d), .second, .val (.long o), .second, .val (.int f), .val (.int k5), .val (.int k6), .val (.int k7), .val (.int k8), .val (.long pr), .second, .val (.ref ca), .val vr, .val (.ref bx108), .unset, .unset]) rfl kq) ?_
      show GoOn p e below (T108.setTop (mkF m 123 #[.val (.long d), .second, .val (.long o), .second, .val (.int f), .val (.int k5), .val (.int k6), .val (.int k7), .val (.int k8), .val (.long pr), .second, .val (.ref ca), .val vr, .val (.ref bx108), .unset, .unset] [])) _
      obtain ⟨T113, h113, X113, e113, Ex113, A113, Df113, -, st113⟩ := newO X108 hx hZ hown (hw _ (List.mem_of_getElem? (i := 1) rfl)) (hw _ (List.mem_of_getElem? (i := 2) rfl)) (hw _ (List.mem_of_getElem? (i := 3) rfl)) rfl (g := (mkF m 123 #[.val (.long d), .second, .val (.long o), .second, .val (.int f), .val (.int k5), .val (.int k6), .val (.int k7), .val (.int k8), .val (.long pr), .second, .val (.ref ca), .val vr, .val (.ref bx108), .unset, .unset] [])) rfl (hb hby at_123) (by decide) (by decide)
      obtain ⟨tr, g113⟩ : ∃ z, z = T108.heap.size := ⟨_, rfl⟩
      rw [← g113] at A113 Df113 st113
      have gn114 : n0 ≤ tr := Nat.le_trans Z110 (Nat.le_of_eq g113.symm)
      have sz115 : h0.size ≤ tr := Nat.le_trans K111.1 (Nat.le_of_eq g113.symm)
      have ne116 : bx108 ≠ tr := Nat.ne_of_lt (Nat.lt_of_lt_of_le E108.lt (Nat.le_of_eq g113.symm))
      have Kx113 : Keep T108.heap h113 [] := (Keep.refl _ _).ext Ex113
      refine GoOn.step st113 ?_
      have Z117 : n0 ≤ h113.size := Nat.le_trans Z110 Kx113.1
      have K118 : Keep h0 h113 [] := K111.trans Kx113 (all0)
      have O119 : Old Z n0 h113 := O112.keep Kx113 all0
      have E120 : Exa Z h113 bx108 "java/lang/Long" := E108.keep Kx113
      have F121 : Fld Z h113 bx108 "java/lang/Long" "value" "J" (.long d) := F108.keep Kx113 nin0
      have F122 : Fld Z h113 tr "com/example/archipelago/archipelago/model/TenantRegistration" "databaseOid" "Ljava/lang/Long;" .null := Df113 (Or.inr (hw _ (List.mem_of_getElem? (i := 11) rfl))) (ty := (.object "java/lang/Long")) (by decide)
      have F123 : Fld Z h113 tr "com/example/archipelago/archipelago/model/TenantRegistration" "realmKnown" "Z" (.int (0 : Int32)) := Df113 (Or.inr (hw _ (List.mem_of_getElem? (i := 13) rfl))) (ty := .boolean) (by decide)
      have F124 : Fld Z h113 tr "com/example/archipelago/archipelago/model/TenantRegistration" "realmId" "Ljava/lang/String;" .null := Df113 (Or.inr (hw _ (List.mem_of_getElem? (i := 15) rfl))) (ty := (.object "java/lang/String")) (by decide)
      show GoOn p e below (T113.setTop (mkF m 126 #[.val (.long d), .second, .val (.long o), .second, .val (.int f), .val (.int k5), .val (.int k6), .val (.int k7), .val (.int k8), .val (.long pr), .second, .val (.ref ca), .val vr, .val (.ref bx108), .unset, .unset] [(.ref tr)])) _
      refine GoOn.step (fun tq kq => XS.dup X113.here hx rfl (hb hby at_126) rfl rfl kq) ?_
      show GoOn p e below (T113.setTop (mkF m 127 #[.val (.long d), .second, .val (.long o), .second, .val (.int f), .val (.int k5), .val (.int k6), .val (.int k7), .val (.int k8), .val (.long pr), .second, .val (.ref ca), .val vr, .val (.ref bx108), .unset, .unset] [(.ref tr), (.ref tr)])) _
      refine GoOn.step (fun tq kq => XS.aload X113.here hx rfl (hb hby at_127) rfl rfl kq) ?_
      show GoOn p e below (T113.setTop (mkF m 129 #[.val (.long d), .second, .val (.long o), .second, .val (.int f), .val (.int k5), .val (.int k6), .val (.int k7), .val (.int k8), .val (.long pr), .second, .val (.ref ca), .val vr, .val (.ref bx108), .unset, .unset] [(.ref bx108), (.ref tr), (.ref tr)])) _
      refine GoOn.step (fun tq kq => XS.iload X113.here hx rfl (hb hby at_129) rfl kq) ?_
      show GoOn p e below (T113.setTop (mkF m 131 #[.val (.long d), .second, .val (.long o), .second, .val (.int f), .val (.int k5), .val (.int k6), .val (.int k7), .val (.int k8), .val (.long pr), .second, .val (.ref ca), .val vr, .val (.ref bx108), .unset, .unset] [(.int k7), (.ref bx108), (.ref tr), (.ref tr)])) _
      refine GoOn.step (fun tq kq => XS.aload X113.here hx rfl (hb hby at_131) rfl hvr kq) ?_
      show GoOn p e below (T113.setTop (mkF m 133 #[.val (.long d), .second, .val (.long o), .second, .val (.int f), .val (.int k5), .val (.int k6), .val (.int k7), .val (.int k8), .val (.long pr), .second, .val (.ref ca), .val vr, .val (.ref bx108), .unset, .unset] [vr, (.int k7), (.ref bx108), (.ref tr), (.ref tr)])) _
      obtain ⟨_, _, ⟨T125, L125, k125, n125⟩, -, X125, ⟨Lc125, hQ125, l125, y125, z125⟩, st125⟩ := X113.specialBack hx (y := (⟨"com/example/archipelago/archipelago/model/TenantRegistration", "<init>", "(Ljava/lang/Long;ZLjava/lang/String;)V"⟩ : MethodName)) rfl hown (mvT hZ (hw _ (List.mem_of_getElem? (i := 4) rfl))) (mvT hZ (hw _ (List.mem_of_getElem? (i := 5) rfl))) (mvT hZ (hw _ (List.mem_of_getElem? (i := 6) rfl))) (by decide) (backOf (W := 1) (rmTI l Z a0 hw tr (.ref bx108) k7 vr h113 n0 Z117 A113 F122 F123 F124 gn114 rfl hvr) hZ (hw _ (List.mem_of_getElem? (i := 6) rfl)) (hw _ (List.mem_of_getElem? (i := 3) rfl)) (by decide) (by decide)) (g := (mkF m 133 #[.val (.long d), .second, .val (.long o), .second, .val (.int f), .val (.int k5), .val (.int k6), .val (.int k7), .val (.int k8), .val (.long pr), .second, .val (.ref ca), .val vr, .val (.ref bx108), .unset, .unset] [vr, (.int k7), (.ref bx108), (.ref tr), (.ref tr)])) rfl (by rw [hml]; rfl) (Steps.refl _) (a := tr) (argsL := [(.ref bx108), (.int k7), vr]) (rest := [(.ref tr)]) (lenOf own_pd73 rfl) rfl (by show 2 * 0 + _ ≤ _; exact Nat.le_of_eq rfl) (hb hby at_133) (fun _ _ => ⟨rfl, e113, (by decide : 5 + 0 ≤ _), (by decide : 10 + 0 ≤ _)⟩)
      dsimp only [Pt.U, Pt.locs, Pt.cells, Pt.slots] at X125 l125 y125 z125 st125 hQ125
      subst l125 y125 z125
      obtain ⟨rfl, N125, K125, E125, Fa125, Fb125, Fc125⟩ := hQ125
      refine GoOn.trans st125 ?_
      have N126 := Fr.app N109 N125
      have Z127 : n0 ≤ T125.heap.size := Nat.le_trans Z117 K125.1
      have K128 : Keep h0 T125.heap [] := K118.trans K125 ((allS (Or.inr sz115) all0))
      have O129 : Old Z n0 T125.heap := O119.keep K125 (allS gn114 all0)
      have E130 : Exa Z T125.heap bx108 "java/lang/Long" := E120.keep K125
      have F131 : Fld Z T125.heap bx108 "java/lang/Long" "value" "J" (.long d) := F121.keep K125 (ninS ne116 nin0)
      have E132 : Exa Z T125.heap tr "com/example/archipelago/archipelago/model/TenantRegistration" := A113.keep K125
      show GoOn p e below (T125.setTop (mkF m 136 #[.val (.long d), .second, .val (.long o), .second, .val (.int f), .val (.int k5), .val (.int k6), .val (.int k7), .val (.int k8), .val (.long pr), .second, .val (.ref ca), .val vr, .val (.ref bx108), .unset, .unset] [(.ref tr)])) _
      refine GoOn.step (fun tq kq => XS.astore X125.here hx rfl (hb hby at_136) rfl rfl (l' := #[.val (.long d), .second, .val (.long o), .second, .val (.int f), .val (.int k5), .val (.int k6), .val (.int k7), .val (.int k8), .val (.long pr), .second, .val (.ref ca), .val vr, .val (.ref bx108), .val (.ref tr), .unset]) rfl kq) ?_
      show GoOn p e below (T125.setTop (mkF m 138 #[.val (.long d), .second, .val (.long o), .second, .val (.int f), .val (.int k5), .val (.int k6), .val (.int k7), .val (.int k8), .val (.long pr), .second, .val (.ref ca), .val vr, .val (.ref bx108), .val (.ref tr), .unset] [])) _
      refine GoOn.step (fun tq kq => XS.iload X125.here hx rfl (hb hby at_138) rfl kq) ?_
      show GoOn p e below (T125.setTop (mkF m 140 #[.val (.long d), .second, .val (.long o), .second, .val (.int f), .val (.int k5), .val (.int k6), .val (.int k7), .val (.int k8), .val (.long pr), .second, .val (.ref ca), .val vr, .val (.ref bx108), .val (.ref tr), .unset] [(.int k5)])) _
      refine GoOn.step (fun tq kq => XS.ifNo X125.here hx rfl (hb hby at_140) rfl ((if0 _ _).trans (feq hc86).1) kq) ?_
      show GoOn p e below (T125.setTop (mkF m 143 #[.val (.long d), .second, .val (.long o), .second, .val (.int f), .val (.int k5), .val (.int k6), .val (.int k7), .val (.int k8), .val (.long pr), .second, .val (.ref ca), .val vr, .val (.ref bx108), .val (.ref tr), .unset] [])) _
      refine GoOn.step (fun tq kq => XS.lloadN X125.here hx rfl (hb hby at_143) rfl kq) ?_
      show GoOn p e below (T125.setTop (mkF m 144 #[.val (.long d), .second, .val (.long o), .second, .val (.int f), .val (.int k5), .val (.int k6), .val (.int k7), .val (.int k8), .val (.long pr), .second, .val (.ref ca), .val vr, .val (.ref bx108), .val (.ref tr), .unset] [(.long d)])) _
      refine GoOn.step (fun tq kq => XS.lload X125.here hx rfl (hb hby at_144) rfl kq) ?_
      show GoOn p e below (T125.setTop (mkF m 146 #[.val (.long d), .second, .val (.long o), .second, .val (.int f), .val (.int k5), .val (.int k6), .val (.int k7), .val (.int k8), .val (.long pr), .second, .val (.ref ca), .val vr, .val (.ref bx108), .val (.ref tr), .unset] [(.long pr), (.long d)])) _
      refine GoOn.step (fun tq kq => XS.lcmp X125.here hx rfl (hb hby at_146) rfl kq) ?_
      show GoOn p e below (T125.setTop (mkF m 147 #[.val (.long d), .second, .val (.long o), .second, .val (.int f), .val (.int k5), .val (.int k6), .val (.int k7), .val (.int k8), .val (.long pr), .second, .val (.ref ca), .val vr, .val (.ref bx108), .val (.ref tr), .unset] [(.int (lcmpW d pr))])) _
      by_cases hc136 : (lcmpW d pr) = 0
      · skip
        refine GoOn.step (fun tq kq => XS.ifNo X125.here hx rfl (hb hby at_147) rfl ((if0 _ _).trans (teq hc136).2) kq) ?_
        show GoOn p e below (T125.setTop (mkF m 150 #[.val (.long d), .second, .val (.long o), .second, .val (.int f), .val (.int k5), .val (.int k6), .val (.int k7), .val (.int k8), .val (.long pr), .second, .val (.ref ca), .val vr, .val (.ref bx108), .val (.ref tr), .unset] [])) _
        refine GoOn.step (fun tq kq => XS.iconst X125.here hx rfl (hb hby at_150) kq) ?_
        show GoOn p e below (T125.setTop (mkF m 151 #[.val (.long d), .second, .val (.long o), .second, .val (.int f), .val (.int k5), .val (.int k6), .val (.int k7), .val (.int k8), .val (.long pr), .second, .val (.ref ca), .val vr, .val (.ref bx108), .val (.ref tr), .unset] [(.int (1 : Int32))])) _
        refine GoOn.step (fun tq kq => XS.goto X125.here hx rfl (pc0 := 151) (pc' := 155) rfl (hb hby at_151) (by decide) (by decide) kq) ?_
        show GoOn p e below (T125.setTop (mkF m 155 #[.val (.long d), .second, .val (.long o), .second, .val (.int f), .val (.int k5), .val (.int k6), .val (.int k7), .val (.int k8), .val (.long pr), .second, .val (.ref ca), .val vr, .val (.ref bx108), .val (.ref tr), .unset] [(.int (1 : Int32))])) _
        refine GoOn.step (fun tq kq => XS.istore X125.here hx rfl (hb hby at_155) rfl (l' := #[.val (.long d), .second, .val (.long o), .second, .val (.int f), .val (.int k5), .val (.int k6), .val (.int k7), .val (.int k8), .val (.long pr), .second, .val (.ref ca), .val vr, .val (.ref bx108), .val (.ref tr), .val (.int (1 : Int32))]) rfl kq) ?_
        show GoOn p e below (T125.setTop (mkF m 157 #[.val (.long d), .second, .val (.long o), .second, .val (.int f), .val (.int k5), .val (.int k6), .val (.int k7), .val (.int k8), .val (.long pr), .second, .val (.ref ca), .val vr, .val (.ref bx108), .val (.ref tr), .val (.int (1 : Int32))] [])) _
        refine GoOn.step (fun tq kq => XS.aload X125.here hx rfl (hb hby at_157) rfl rfl kq) ?_
        show GoOn p e below (T125.setTop (mkF m 159 #[.val (.long d), .second, .val (.long o), .second, .val (.int f), .val (.int k5), .val (.int k6), .val (.int k7), .val (.int k8), .val (.long pr), .second, .val (.ref ca), .val vr, .val (.ref bx108), .val (.ref tr), .val (.int (1 : Int32))] [(.ref tr)])) _
        refine GoOn.step (fun tq kq => XS.lload X125.here hx rfl (hb hby at_159) rfl kq) ?_
        show GoOn p e below (T125.setTop (mkF m 161 #[.val (.long d), .second, .val (.long o), .second, .val (.int f), .val (.int k5), .val (.int k6), .val (.int k7), .val (.int k8), .val (.long pr), .second, .val (.ref ca), .val vr, .val (.ref bx108), .val (.ref tr), .val (.int (1 : Int32))] [(.long pr), (.ref tr)])) _
        obtain ⟨cqc138, kqc138, qac138, qbc138, qcc138⟩ := isOf hZ rfl E132
        obtain ⟨_, _, ⟨T137, L137, k137, n137⟩, -, X137, ⟨Lc137, hQ137, l137, y137, z137⟩, st137⟩ := X125.virtualBack hx (y := (⟨"com/example/archipelago/archipelago/model/TenantRegistration", "isDatabase", "(J)Z"⟩ : MethodName)) (z := (⟨"com/example/archipelago/archipelago/model/TenantRegistration", "isDatabase", "(J)Z"⟩ : MethodName)) hown (mvT hZ (hw _ (List.mem_of_getElem? (i := 16) rfl))) (mvT hZ (hw _ (List.mem_of_getElem? (i := 17) rfl))) (notFace_of_selects (args := #[]) (mvT hZ (hw _ (List.mem_of_getElem? (i := 19) rfl)))) (mvT hZ (hw _ (List.mem_of_getElem? (i := 19) rfl))) (mvT hZ (hw _ (List.mem_of_getElem? (i := 18) rfl))) (by decide) (backOf (W := 0) (rmDb1 l Z a0 hw tr bx108 pr d T125.heap n0 Z127 Fa125 E130 F131) hZ (hw _ (List.mem_of_getElem? (i := 20) rfl)) (hw _ (List.mem_of_getElem? (i := 3) rfl)) (by decide) (by decide)) qac138 qcc138 (g := (mkF m 161 #[.val (.long d), .second, .val (.long o), .second, .val (.int f), .val (.int k5), .val (.int k6), .val (.int k7), .val (.int k8), .val (.long pr), .second, .val (.ref ca), .val vr, .val (.ref bx108), .val (.ref tr), .val (.int (1 : Int32))] [(.long pr), (.ref tr)])) rfl (by rw [hml]; rfl) (Steps.refl _) (argsL := [(.long pr)]) (rest := []) (lenOf own_pd74 rfl) rfl (by show 2 * 0 + _ ≤ _; exact Nat.le_of_eq rfl) (hb hby at_161) (fun _ _ => ⟨rfl, rfl, (by decide : 5 + 0 ≤ _), (by decide : 10 + 0 ≤ _)⟩)
        dsimp only [Pt.U, Pt.locs, Pt.cells, Pt.slots] at X137 l137 y137 z137 st137 hQ137
        subst l137 y137 z137
        obtain ⟨rfl, N137, e137⟩ := hQ137
        refine GoOn.trans st137 ?_
        have N139 := Fr.app N126 N137
        show GoOn p e below (T137.setTop (mkF m 164 #[.val (.long d), .second, .val (.long o), .second, .val (.int f), .val (.int k5), .val (.int k6), .val (.int k7), .val (.int k8), .val (.long pr), .second, .val (.ref ca), .val vr, .val (.ref bx108), .val (.ref tr), .val (.int (1 : Int32))] [(.int (if d = pr then 1 else 0))])) _
        refine GoOn.step (fun tq kq => XS.iload X137.here hx rfl (hb hby at_164) rfl kq) ?_
        show GoOn p e below (T137.setTop (mkF m 166 #[.val (.long d), .second, .val (.long o), .second, .val (.int f), .val (.int k5), .val (.int k6), .val (.int k7), .val (.int k8), .val (.long pr), .second, .val (.ref ca), .val vr, .val (.ref bx108), .val (.ref tr), .val (.int (1 : Int32))] [(.int (1 : Int32)), (.int (if d = pr then 1 else 0))])) _
        refine GoOn.step (fun tq kq => XS.icmpNo X137.here hx rfl (hb hby at_166) rfl (teq (if_pos ((lw_eq _ _).mp hc136))).2 kq) ?_
        show GoOn p e below (T137.setTop (mkF m 169 #[.val (.long d), .second, .val (.long o), .second, .val (.int f), .val (.int k5), .val (.int k6), .val (.int k7), .val (.int k8), .val (.long pr), .second, .val (.ref ca), .val vr, .val (.ref bx108), .val (.ref tr), .val (.int (1 : Int32))] [])) _
        refine GoOn.step (fun tq kq => XS.iconst X137.here hx rfl (hb hby at_169) kq) ?_
        show GoOn p e below (T137.setTop (mkF m 170 #[.val (.long d), .second, .val (.long o), .second, .val (.int f), .val (.int k5), .val (.int k6), .val (.int k7), .val (.int k8), .val (.long pr), .second, .val (.ref ca), .val vr, .val (.ref bx108), .val (.ref tr), .val (.int (1 : Int32))] [(.int (1 : Int32))])) _
        refine GoOn.step (fun tq kq => XS.goto X137.here hx rfl (pc0 := 170) (pc' := 174) rfl (hb hby at_170) (by decide) (by decide) kq) ?_
        show GoOn p e below (T137.setTop (mkF m 174 #[.val (.long d), .second, .val (.long o), .second, .val (.int f), .val (.int k5), .val (.int k6), .val (.int k7), .val (.int k8), .val (.long pr), .second, .val (.ref ca), .val vr, .val (.ref bx108), .val (.ref tr), .val (.int (1 : Int32))] [(.int (1 : Int32))])) _
        refine GoOn.ret X137 Bd.notSynchronized (v := some (.int (nar .boolean (1 : Int32)))) (fun h => by rw [Bd.returns] at h; cases h) (fun fs hr => retN X137 hx (t := .boolean) Bd.returns (by simp) (hb hby at_174) hr) (by decide) (by decide) ?_
        rw [e137]
        exact ⟨rfl, N139⟩
      · skip
        refine GoOn.step (fun tq kq => XS.ifYes X125.here hx rfl (pc0 := 147) (pc' := 154) rfl (hb hby at_147) rfl ((if0 _ _).trans (feq hc136).2) (by decide) (by decide) kq) ?_
        show GoOn p e below (T125.setTop (mkF m 154 #[.val (.long d), .second, .val (.long o), .second, .val (.int f), .val (.int k5), .val (.int k6), .val (.int k7), .val (.int k8), .val (.long pr), .second, .val (.ref ca), .val vr, .val (.ref bx108), .val (.ref tr), .unset] [])) _
        refine GoOn.step (fun tq kq => XS.iconst X125.here hx rfl (hb hby at_154) kq) ?_
        show GoOn p e below (T125.setTop (mkF m 155 #[.val (.long d), .second, .val (.long o), .second, .val (.int f), .val (.int k5), .val (.int k6), .val (.int k7), .val (.int k8), .val (.long pr), .second, .val (.ref ca), .val vr, .val (.ref bx108), .val (.ref tr), .unset] [(.int (0 : Int32))])) _
        refine GoOn.step (fun tq kq => XS.istore X125.here hx rfl (hb hby at_155) rfl (l' := #[.val (.long d), .second, .val (.long o), .second, .val (.int f), .val (.int k5), .val (.int k6), .val (.int k7), .val (.int k8), .val (.long pr), .second, .val (.ref ca), .val vr, .val (.ref bx108), .val (.ref tr), .val (.int (0 : Int32))]) rfl kq) ?_
        show GoOn p e below (T125.setTop (mkF m 157 #[.val (.long d), .second, .val (.long o), .second, .val (.int f), .val (.int k5), .val (.int k6), .val (.int k7), .val (.int k8), .val (.long pr), .second, .val (.ref ca), .val vr, .val (.ref bx108), .val (.ref tr), .val (.int (0 : Int32))] [])) _
        refine GoOn.step (fun tq kq => XS.aload X125.here hx rfl (hb hby at_157) rfl rfl kq) ?_
        show GoOn p e below (T125.setTop (mkF m 159 #[.val (.long d), .second, .val (.long o), .second, .val (.int f), .val (.int k5), .val (.int k6), .val (.int k7), .val (.int k8), .val (.long pr), .second, .val (.ref ca), .val vr, .val (.ref bx108), .val (.ref tr), .val (.int (0 : Int32))] [(.ref tr)])) _
        refine GoOn.step (fun tq kq => XS.lload X125.here hx rfl (hb hby at_159) rfl kq) ?_
        show GoOn p e below (T125.setTop (mkF m 161 #[.val (.long d), .second, .val (.long o), .second, .val (.int f), .val (.int k5), .val (.int k6), .val (.int k7), .val (.int k8), .val (.long pr), .second, .val (.ref ca), .val vr, .val (.ref bx108), .val (.ref tr), .val (.int (0 : Int32))] [(.long pr), (.ref tr)])) _
        obtain ⟨cqc141, kqc141, qac141, qbc141, qcc141⟩ := isOf hZ rfl E132
        obtain ⟨_, _, ⟨T140, L140, k140, n140⟩, -, X140, ⟨Lc140, hQ140, l140, y140, z140⟩, st140⟩ := X125.virtualBack hx (y := (⟨"com/example/archipelago/archipelago/model/TenantRegistration", "isDatabase", "(J)Z"⟩ : MethodName)) (z := (⟨"com/example/archipelago/archipelago/model/TenantRegistration", "isDatabase", "(J)Z"⟩ : MethodName)) hown (mvT hZ (hw _ (List.mem_of_getElem? (i := 16) rfl))) (mvT hZ (hw _ (List.mem_of_getElem? (i := 17) rfl))) (notFace_of_selects (args := #[]) (mvT hZ (hw _ (List.mem_of_getElem? (i := 19) rfl)))) (mvT hZ (hw _ (List.mem_of_getElem? (i := 19) rfl))) (mvT hZ (hw _ (List.mem_of_getElem? (i := 18) rfl))) (by decide) (backOf (W := 0) (rmDb1 l Z a0 hw tr bx108 pr d T125.heap n0 Z127 Fa125 E130 F131) hZ (hw _ (List.mem_of_getElem? (i := 20) rfl)) (hw _ (List.mem_of_getElem? (i := 3) rfl)) (by decide) (by decide)) qac141 qcc141 (g := (mkF m 161 #[.val (.long d), .second, .val (.long o), .second, .val (.int f), .val (.int k5), .val (.int k6), .val (.int k7), .val (.int k8), .val (.long pr), .second, .val (.ref ca), .val vr, .val (.ref bx108), .val (.ref tr), .val (.int (0 : Int32))] [(.long pr), (.ref tr)])) rfl (by rw [hml]; rfl) (Steps.refl _) (argsL := [(.long pr)]) (rest := []) (lenOf own_pd74 rfl) rfl (by show 2 * 0 + _ ≤ _; exact Nat.le_of_eq rfl) (hb hby at_161) (fun _ _ => ⟨rfl, rfl, (by decide : 5 + 0 ≤ _), (by decide : 10 + 0 ≤ _)⟩)
        dsimp only [Pt.U, Pt.locs, Pt.cells, Pt.slots] at X140 l140 y140 z140 st140 hQ140
        subst l140 y140 z140
        obtain ⟨rfl, N140, e140⟩ := hQ140
        refine GoOn.trans st140 ?_
        have N142 := Fr.app N126 N140
        show GoOn p e below (T140.setTop (mkF m 164 #[.val (.long d), .second, .val (.long o), .second, .val (.int f), .val (.int k5), .val (.int k6), .val (.int k7), .val (.int k8), .val (.long pr), .second, .val (.ref ca), .val vr, .val (.ref bx108), .val (.ref tr), .val (.int (0 : Int32))] [(.int (if d = pr then 1 else 0))])) _
        refine GoOn.step (fun tq kq => XS.iload X140.here hx rfl (hb hby at_164) rfl kq) ?_
        show GoOn p e below (T140.setTop (mkF m 166 #[.val (.long d), .second, .val (.long o), .second, .val (.int f), .val (.int k5), .val (.int k6), .val (.int k7), .val (.int k8), .val (.long pr), .second, .val (.ref ca), .val vr, .val (.ref bx108), .val (.ref tr), .val (.int (0 : Int32))] [(.int (0 : Int32)), (.int (if d = pr then 1 else 0))])) _
        refine GoOn.step (fun tq kq => XS.icmpNo X140.here hx rfl (hb hby at_166) rfl (teq (if_neg (fun q => hc136 ((lw_eq _ _).mpr q)))).2 kq) ?_
        show GoOn p e below (T140.setTop (mkF m 169 #[.val (.long d), .second, .val (.long o), .second, .val (.int f), .val (.int k5), .val (.int k6), .val (.int k7), .val (.int k8), .val (.long pr), .second, .val (.ref ca), .val vr, .val (.ref bx108), .val (.ref tr), .val (.int (0 : Int32))] [])) _
        refine GoOn.step (fun tq kq => XS.iconst X140.here hx rfl (hb hby at_169) kq) ?_
        show GoOn p e below (T140.setTop (mkF m 170 #[.val (.long d), .second, .val (.long o), .second, .val (.int f), .val (.int k5), .val (.int k6), .val (.int k7), .val (.int k8), .val (.long pr), .second, .val (.ref ca), .val vr, .val (.ref bx108), .val (.ref tr), .val (.int (0 : Int32))] [(.int (1 : Int32))])) _
        refine GoOn.step (fun tq kq => XS.goto X140.here hx rfl (pc0 := 170) (pc' := 174) rfl (hb hby at_170) (by decide) (by decide) kq) ?_
        show GoOn p e below (T140.setTop (mkF m 174 #[.val (.long d), .second, .val (.long o), .second, .val (.int f), .val (.int k5), .val (.int k6), .val (.int k7), .val (.int k8), .val (.long pr), .second, .val (.ref ca), .val vr, .val (.ref bx108), .val (.ref tr), .val (.int (0 : Int32))] [(.int (1 : Int32))])) _
        refine GoOn.ret X140 Bd.notSynchronized (v := some (.int (nar .boolean (1 : Int32)))) (fun h => by rw [Bd.returns] at h; cases h) (fun fs hr => retN X140 hx (t := .boolean) Bd.returns (by simp) (hb hby at_174) hr) (by decide) (by decide) ?_
        rw [e140]
        exact ⟨rfl, N142⟩
  have J67 : ∀ (Tj144 : State) (lj144 : List Loc) (hj144 : Heap) (k5 k6 k7 k8 : Int32) (pr : Int64) (Xj144 : Stand p l e room_1 s m #[(.long d), (.long o), (.int f)] below meth c Tj144 lj144 0 0) (ej144 : Tj144.heap = hj144) (Nj144 : Fr n0 lj144) (Zj144 : n0 ≤ hj144.size) (Kj144 : Keep h0 hj144 []) (O143 : Old Z n0 hj144), GoOn p e below (Tj144.setTop (mkF m 67 #[.val (.long d), .second, .val (.long o), .second, .val (.int f), .val (.int k5), .val (.int k6), .val (.int k7), .val (.int k8), .unset, .unset, .unset, .unset, .unset, .unset, .unset] [(.long pr)])) (PostN s (QLaw h0 n0) 24 128) := by
    intro Tj144 lj144 hj144 k5 k6 k7 k8 pr Xj144 ej144 Nj144  Zj144 Kj144 O143 
    refine GoOn.step (fun tq kq => XS.lstore Xj144.here hx rfl (hb hby at_67) rfl (l' := #[.val (.long d), .second, .val (.long o), .second, .val (.int f), .val (.int k5), .val (.int k6), .val (.int k7), .val (.int k8), .val (.long pr), .second, .unset, .unset, .unset, .unset, .unset]) rfl kq) ?_
    show GoOn p e below (Tj144.setTop (mkF m 69 #[.val (.long d), .second, .val (.long o), .second, .val (.int f), .val (.int k5), .val (.int k6), .val (.int k7), .val (.int k8), .val (.long pr), .second, .unset, .unset, .unset, .unset, .unset] [])) _
    refine GoOn.step (fun tq kq => XS.iconst Xj144.here hx rfl (hb hby at_69) kq) ?_
    show GoOn p e below (Tj144.setTop (mkF m 70 #[.val (.long d), .second, .val (.long o), .second, .val (.int f), .val (.int k5), .val (.int k6), .val (.int k7), .val (.int k8), .val (.long pr), .second, .unset, .unset, .unset, .unset, .unset] [(.int (1 : Int32))])) _
    obtain ⟨T145, h145, k145, X145, e145, Ex145, A145, st145⟩ := newP Xj144 hx hZ (hw _ (List.mem_of_getElem? (i := 0) rfl)) ej144 (g := (mkF m 70 #[.val (.long d), .second, .val (.long o), .second, .val (.int f), .val (.int k5), .val (.int k6), .val (.int k7), .val (.int k8), .val (.long pr), .second, .unset, .unset, .unset, .unset, .unset] [(.int (1 : Int32))])) rfl (hb hby at_70) rfl (by decide) (cap := 1) (by decide) (by decide) (by decide) (by decide)
    obtain ⟨ca, g145⟩ : ∃ z, z = hj144.size := ⟨_, rfl⟩
    rw [← g145] at A145 st145
    have gn146 : n0 ≤ ca := Nat.le_trans Zj144 (Nat.le_of_eq g145.symm)
    have sz147 : h0.size ≤ ca := Nat.le_trans Kj144.1 (Nat.le_of_eq g145.symm)
    have Kx145 : Keep hj144 h145 [] := (Keep.refl _ _).ext Ex145
    refine GoOn.step st145 ?_
    have Z148 : n0 ≤ h145.size := Nat.le_trans Zj144 Kx145.1
    have K149 : Keep h0 h145 [] := Kj144.trans Kx145 (all0)
    have O150 : Old Z n0 h145 := O143.keep Kx145 all0
    have V151 : Arv Z h145 ca k145 .char (1 : Int32) [] (.int (0 : Int32)) := Arv.new A145 (by decide)
    show GoOn p e below (T145.setTop (mkF m 72 #[.val (.long d), .second, .val (.long o), .second, .val (.int f), .val (.int k5), .val (.int k6), .val (.int k7), .val (.int k8), .val (.long pr), .second, .unset, .unset, .unset, .unset, .unset] [(.ref ca)])) _
    refine GoOn.step (fun tq kq => XS.astore X145.here hx rfl (hb hby at_72) rfl rfl (l' := #[.val (.long d), .second, .val (.long o), .second, .val (.int f), .val (.int k5), .val (.int k6), .val (.int k7), .val (.int k8), .val (.long pr), .second, .val (.ref ca), .unset, .unset, .unset, .unset]) rfl kq) ?_
    show GoOn p e below (T145.setTop (mkF m 74 #[.val (.long d), .second, .val (.long o), .second, .val (.int f), .val (.int k5), .val (.int k6), .val (.int k7), .val (.int k8), .val (.long pr), .second, .val (.ref ca), .unset, .unset, .unset, .unset] [])) _
    refine GoOn.step (fun tq kq => XS.aload X145.here hx rfl (hb hby at_74) rfl rfl kq) ?_
    show GoOn p e below (T145.setTop (mkF m 76 #[.val (.long d), .second, .val (.long o), .second, .val (.int f), .val (.int k5), .val (.int k6), .val (.int k7), .val (.int k8), .val (.long pr), .second, .val (.ref ca), .unset, .unset, .unset, .unset] [(.ref ca)])) _
    refine GoOn.step (fun tq kq => XS.iconst X145.here hx rfl (hb hby at_76) kq) ?_
    show GoOn p e below (T145.setTop (mkF m 77 #[.val (.long d), .second, .val (.long o), .second, .val (.int f), .val (.int k5), .val (.int k6), .val (.int k7), .val (.int k8), .val (.long pr), .second, .val (.ref ca), .unset, .unset, .unset, .unset] [(.int (0 : Int32)), (.ref ca)])) _
    refine GoOn.step (fun tq kq => XS.iload X145.here hx rfl (hb hby at_77) rfl kq) ?_
    show GoOn p e below (T145.setTop (mkF m 79 #[.val (.long d), .second, .val (.long o), .second, .val (.int f), .val (.int k5), .val (.int k6), .val (.int k7), .val (.int k8), .val (.long pr), .second, .val (.ref ca), .unset, .unset, .unset, .unset] [(.int f), (.int (0 : Int32)), (.ref ca)])) _
    refine GoOn.step (fun tq kq => XS.bipush X145.here hx rfl (hb hby at_79) kq) ?_
    show GoOn p e below (T145.setTop (mkF m 81 #[.val (.long d), .second, .val (.long o), .second, .val (.int f), .val (.int k5), .val (.int k6), .val (.int k7), .val (.int k8), .val (.long pr), .second, .val (.ref ca), .unset, .unset, .unset, .unset] [(.int (8 : Int32)), (.int f), (.int (0 : Int32)), (.ref ca)])) _
    refine GoOn.step (fun tq kq => XS.iushr X145.here hx rfl (hb hby at_81) rfl kq) ?_
    show GoOn p e below (T145.setTop (mkF m 82 #[.val (.long d), .second, .val (.long o), .second, .val (.int f), .val (.int k5), .val (.int k6), .val (.int k7), .val (.int k8), .val (.long pr), .second, .val (.ref ca), .unset, .unset, .unset, .unset] [(.int (((f).toUInt32 >>> ((8 : Int32) &&& 31).toUInt32).toInt32)), (.int (0 : Int32)), (.ref ca)])) _
    refine GoOn.step (fun tq kq => XS.sipush X145.here hx rfl (hb hby at_82) kq) ?_
    show GoOn p e below (T145.setTop (mkF m 85 #[.val (.long d), .second, .val (.long o), .second, .val (.int f), .val (.int k5), .val (.int k6), .val (.int k7), .val (.int k8), .val (.long pr), .second, .val (.ref ca), .unset, .unset, .unset, .unset] [(.int (255 : Int32)), (.int (((f).toUInt32 >>> ((8 : Int32) &&& 31).toUInt32).toInt32)), (.int (0 : Int32)), (.ref ca)])) _
    refine GoOn.step (fun tq kq => XS.iand X145.here hx rfl (hb hby at_85) rfl kq) ?_
    show GoOn p e below (T145.setTop (mkF m 86 #[.val (.long d), .second, .val (.long o), .second, .val (.int f), .val (.int k5), .val (.int k6), .val (.int k7), .val (.int k8), .val (.long pr), .second, .val (.ref ca), .unset, .unset, .unset, .unset] [(.int ((((f).toUInt32 >>> ((8 : Int32) &&& 31).toUInt32).toInt32) &&& (255 : Int32))), (.int (0 : Int32)), (.ref ca)])) _
    refine GoOn.step (fun tq kq => XS.i2c X145.here hx rfl (hb hby at_86) rfl kq) ?_
    show GoOn p e below (T145.setTop (mkF m 87 #[.val (.long d), .second, .val (.long o), .second, .val (.int f), .val (.int k5), .val (.int k6), .val (.int k7), .val (.int k8), .val (.long pr), .second, .val (.ref ca), .unset, .unset, .unset, .unset] [(.int ((((((f).toUInt32 >>> ((8 : Int32) &&& 31).toUInt32).toInt32) &&& (255 : Int32))).toUInt32.toUInt16.toUInt32.toInt32)), (.int (0 : Int32)), (.ref ca)])) _
    have V153 : Arv Z h145 ca k145 .char (1 : Int32) [(.int (0 : Int32))] (.int (0 : Int32)) := V151.pad (pad_rep [] (.int (0 : Int32)) 1)
    obtain ⟨cq154, Aq154, qq154, Sq154, Mq154, Hq154, Uq154⟩ := id V153
    obtain ⟨T152, h152, X152, e152, W152, st152⟩ := stC X145 hx hZ e145 Aq154 (j := (0 : Int32)) (inb_of Sq154 ⟨(by decide : ¬ ((0 : Int32) < (0 : Int32))), (by decide : (0 : Int32) < (1 : Int32))⟩) (g := (mkF m 87 #[.val (.long d), .second, .val (.long o), .second, .val (.int f), .val (.int k5), .val (.int k6), .val (.int k7), .val (.int k8), .val (.long pr), .second, .val (.ref ca), .unset, .unset, .unset, .unset] [(.int ((((((f).toUInt32 >>> ((8 : Int32) &&& 31).toUInt32).toInt32) &&& (255 : Int32))).toUInt32.toUInt16.toUInt32.toInt32)), (.int (0 : Int32)), (.ref ca)])) rfl rfl (hb hby at_87)
    have N155 := Fr.snoc X152 Nj144 gn146
    have V156 : Arv Z h152 ca k145 .char (1 : Int32) [(.int (nar .char ((((((f).toUInt32 >>> ((8 : Int32) &&& 31).toUInt32).toInt32) &&& (255 : Int32))).toUInt32.toUInt16.toUInt32.toInt32)))] (.int (0 : Int32)) := Arv.set Aq154 qq154 Sq154 Mq154 Hq154 Uq154 (fits_nar_char _) W152 0 rfl (Nat.le_of_ble_eq_true rfl)
    have Kx152 : Keep h145 h152 [ca] := Keep.of_wr W152
    refine GoOn.step st152 ?_
    have Z157 : n0 ≤ h152.size := Nat.le_trans Z148 Kx152.1
    have K158 : Keep h0 h152 [] := K149.trans Kx152 ((allS (Or.inr sz147) all0))
    have O159 : Old Z n0 h152 := O150.keep Kx152 (allS gn146 all0)
    show GoOn p e below (T152.setTop (mkF m 88 #[.val (.long d), .second, .val (.long o), .second, .val (.int f), .val (.int k5), .val (.int k6), .val (.int k7), .val (.int k8), .val (.long pr), .second, .val (.ref ca), .unset, .unset, .unset, .unset] [])) _
    refine GoOn.step (fun tq kq => XS.iload X152.here hx rfl (hb hby at_88) rfl kq) ?_
    show GoOn p e below (T152.setTop (mkF m 90 #[.val (.long d), .second, .val (.long o), .second, .val (.int f), .val (.int k5), .val (.int k6), .val (.int k7), .val (.int k8), .val (.long pr), .second, .val (.ref ca), .unset, .unset, .unset, .unset] [(.int k8)])) _
    by_cases hc160 : k8 = 0
    · skip
      refine GoOn.step (fun tq kq => XS.ifYes X152.here hx rfl (pc0 := 90) (pc' := 105) rfl (hb hby at_90) rfl ((if0 _ _).trans (teq hc160).1) (by decide) (by decide) kq) ?_
      show GoOn p e below (T152.setTop (mkF m 105 #[.val (.long d), .second, .val (.long o), .second, .val (.int f), .val (.int k5), .val (.int k6), .val (.int k7), .val (.int k8), .val (.long pr), .second, .val (.ref ca), .unset, .unset, .unset, .unset] [])) _
      refine GoOn.step (fun tq kq => XS.aconstNull X152.here hx rfl (hb hby at_105) kq) ?_
      show GoOn p e below (T152.setTop (mkF m 106 #[.val (.long d), .second, .val (.long o), .second, .val (.int f), .val (.int k5), .val (.int k6), .val (.int k7), .val (.int k8), .val (.long pr), .second, .val (.ref ca), .unset, .unset, .unset, .unset] [.null])) _
      exact J106 _ _ _ k5 k6 k7 k8 pr ca _ rfl (X152.more (by decide) (by decide)) e152 N155  Z157 K158 O159 
    · skip
      refine GoOn.step (fun tq kq => XS.ifNo X152.here hx rfl (hb hby at_90) rfl ((if0 _ _).trans (feq hc160).1) kq) ?_
      show GoOn p e below (T152.setTop (mkF m 93 #[.val (.long d), .second, .val (.long o), .second, .val (.int f), .val (.int k5), .val (.int k6), .val (.int k7), .val (.int k8), .val (.long pr), .second, .val (.ref ca), .unset, .unset, .unset, .unset] [])) _
      obtain ⟨T161, h161, X161, e161, Ex161, A161, Df161, -, st161⟩ := newO X152 hx hZ hown (hw _ (List.mem_of_getElem? (i := 36) rfl)) (hw _ (List.mem_of_getElem? (i := 37) rfl)) (hw _ (List.mem_of_getElem? (i := 38) rfl)) e152 (g := (mkF m 93 #[.val (.long d), .second, .val (.long o), .second, .val (.int f), .val (.int k5), .val (.int k6), .val (.int k7), .val (.int k8), .val (.long pr), .second, .val (.ref ca), .unset, .unset, .unset, .unset] [])) rfl (hb hby at_93) (by decide) (by decide)
      obtain ⟨sb, g161⟩ : ∃ z, z = h152.size := ⟨_, rfl⟩
      rw [← g161] at A161 Df161 st161
      have gn162 : n0 ≤ sb := Nat.le_trans Z157 (Nat.le_of_eq g161.symm)
      have sz163 : h0.size ≤ sb := Nat.le_trans K158.1 (Nat.le_of_eq g161.symm)
      have ne164 : ca ≠ sb := Nat.ne_of_lt (Nat.lt_of_lt_of_le V156.lt (Nat.le_of_eq g161.symm))
      have Kx161 : Keep h152 h161 [] := (Keep.refl _ _).ext Ex161
      refine GoOn.step st161 ?_
      have Z165 : n0 ≤ h161.size := Nat.le_trans Z157 Kx161.1
      have K166 : Keep h0 h161 [] := K158.trans Kx161 (all0)
      have O167 : Old Z n0 h161 := O159.keep Kx161 all0
      have V168 : Arv Z h161 ca k145 .char (1 : Int32) [(.int (nar .char ((((((f).toUInt32 >>> ((8 : Int32) &&& 31).toUInt32).toInt32) &&& (255 : Int32))).toUInt32.toUInt16.toUInt32.toInt32)))] (.int (0 : Int32)) := V156.keep Kx161 nin0
      have F169 : Fld Z h161 sb "java/lang/String" "coder" "B" (.int (0 : Int32)) := Df161 (Or.inr (hw _ (List.mem_of_getElem? (i := 60) rfl))) (ty := .byte) (by decide)
      have F170 : Fld Z h161 sb "java/lang/String" "value" "[B" .null := Df161 (Or.inr (hw _ (List.mem_of_getElem? (i := 62) rfl))) (ty := (.array .byte)) (by decide)
      show GoOn p e below (T161.setTop (mkF m 96 #[.val (.long d), .second, .val (.long o), .second, .val (.int f), .val (.int k5), .val (.int k6), .val (.int k7), .val (.int k8), .val (.long pr), .second, .val (.ref ca), .unset, .unset, .unset, .unset] [(.ref sb)])) _
      refine GoOn.step (fun tq kq => XS.dup X161.here hx rfl (hb hby at_96) rfl rfl kq) ?_
      show GoOn p e below (T161.setTop (mkF m 97 #[.val (.long d), .second, .val (.long o), .second, .val (.int f), .val (.int k5), .val (.int k6), .val (.int k7), .val (.int k8), .val (.long pr), .second, .val (.ref ca), .unset, .unset, .unset, .unset] [(.ref sb), (.ref sb)])) _
      refine GoOn.step (fun tq kq => XS.aload X161.here hx rfl (hb hby at_97) rfl rfl kq) ?_
      show GoOn p e below (T161.setTop (mkF m 99 #[.val (.long d), .second, .val (.long o), .second, .val (.int f), .val (.int k5), .val (.int k6), .val (.int k7), .val (.int k8), .val (.long pr), .second, .val (.ref ca), .unset, .unset, .unset, .unset] [(.ref ca), (.ref sb), (.ref sb)])) _
      have hp171 : ∀ c ∈ ([(nar .char ((((((f).toUInt32 >>> ((8 : Int32) &&& 31).toUInt32).toInt32) &&& (255 : Int32))).toUInt32.toUInt16.toUInt32.toInt32))] : List Int32), ¬ c < 0 ∧ ¬ (255 : Int32) < c := by
        intro c hc
        simp only [List.mem_cons, List.not_mem_nil, or_false] at hc
        rcases hc with rfl
        · exact and255_chars _
      obtain ⟨_, _, ⟨T172, L172, k172, n172⟩, -, X172, ⟨Lc172, hQ172, l172, y172, z172⟩, st172⟩ := X161.specialBack hx (y := (⟨"java/lang/String", "<init>", "([C)V"⟩ : MethodName)) rfl hown (mvT hZ (hw _ (List.mem_of_getElem? (i := 39) rfl))) (mvT hZ (hw _ (List.mem_of_getElem? (i := 40) rfl))) (mvT hZ (hw _ (List.mem_of_getElem? (i := 41) rfl))) (by decide) (StrChars.Road.backV (W := 1) hZ hws (kI := 4) (hw _ (List.mem_of_getElem? (i := 37) rfl)) (cs := ([(nar .char ((((((f).toUInt32 >>> ((8 : Int32) &&& 31).toUInt32).toInt32) &&& (255 : Int32))).toUInt32.toUInt16.toUInt32.toInt32))] : List Int32)) (bs := ([(nar .char ((((((f).toUInt32 >>> ((8 : Int32) &&& 31).toUInt32).toInt32) &&& (255 : Int32))).toUInt32.toUInt16.toUInt32.toInt32))] : List Int32).map (fun c => c.toInt8.toInt32)) (n := 1) gn162 Z165 A161 F170 F169 V168 (SC.ext O167.2) PC rfl rfl (by decide) (by decide) hp171 rfl (by decide) (by decide)) (g := (mkF m 99 #[.val (.long d), .second, .val (.long o), .second, .val (.int f), .val (.int k5), .val (.int k6), .val (.int k7), .val (.int k8), .val (.long pr), .second, .val (.ref ca), .unset, .unset, .unset, .unset] [(.ref ca), (.ref sb), (.ref sb)])) rfl (by rw [hml]; rfl) (Steps.refl _) (a := sb) (argsL := [(.ref ca)]) (rest := [(.ref sb)]) (lenOf own_pd76 rfl) rfl (by show 2 * 0 + _ ≤ _; exact Nat.le_of_eq rfl) (hb hby at_99) (fun _ _ => ⟨rfl, e161, (by decide : 2 + 1 ≤ _), (by decide : 5 + 1 ≤ _)⟩)
      dsimp only [Pt.U, Pt.locs, Pt.cells, Pt.slots] at X172 l172 y172 z172 st172 hQ172
      subst l172 y172 z172
      obtain ⟨rfl, N172, K172, E172, Fc172, t172, kb172, u172, v172, w172, Fv172, Va172⟩ := hQ172
      refine GoOn.trans st172 ?_
      have N173 := Fr.app N155 N172
      have Z174 : n0 ≤ T172.heap.size := Nat.le_trans Z165 K172.1
      have K175 : Keep h0 T172.heap [] := K166.trans K172 ((allS (Or.inr sz163) all0))
      have O176 : Old Z n0 T172.heap := O167.keep K172 (allS gn162 all0)
      have V177 : Arv Z T172.heap ca k145 .char (1 : Int32) [(.int (nar .char ((((((f).toUInt32 >>> ((8 : Int32) &&& 31).toUInt32).toInt32) &&& (255 : Int32))).toUInt32.toUInt16.toUInt32.toInt32)))] (.int (0 : Int32)) := V168.keep K172 (ninS ne164 nin0)
      have E178 : Exa Z T172.heap sb "java/lang/String" := A161.keep K172
      show GoOn p e below (T172.setTop (mkF m 102 #[.val (.long d), .second, .val (.long o), .second, .val (.int f), .val (.int k5), .val (.int k6), .val (.int k7), .val (.int k8), .val (.long pr), .second, .val (.ref ca), .unset, .unset, .unset, .unset] [(.ref sb)])) _
      refine GoOn.step (fun tq kq => XS.goto X172.here hx rfl (pc0 := 102) (pc' := 106) rfl (hb hby at_102) (by decide) (by decide) kq) ?_
      show GoOn p e below (T172.setTop (mkF m 106 #[.val (.long d), .second, .val (.long o), .second, .val (.int f), .val (.int k5), .val (.int k6), .val (.int k7), .val (.int k8), .val (.long pr), .second, .val (.ref ca), .unset, .unset, .unset, .unset] [(.ref sb)])) _
      exact J106 _ _ _ k5 k6 k7 k8 pr ca _ rfl (X172.more (by decide) (by decide)) rfl N173  Z174 K175 O176 
  have J55 : ∀ (Tj182 : State) (lj182 : List Loc) (hj182 : Heap) (k5 k6 k7 k8 : Int32) (Xj182 : Stand p l e room_1 s m #[(.long d), (.long o), (.int f)] below meth c Tj182 lj182 0 0) (ej182 : Tj182.heap = hj182) (Nj182 : Fr n0 lj182) (Zj182 : n0 ≤ hj182.size) (Kj182 : Keep h0 hj182 []) (O181 : Old Z n0 hj182), GoOn p e below (Tj182.setTop (mkF m 55 #[.val (.long d), .second, .val (.long o), .second, .val (.int f), .val (.int k5), .val (.int k6), .val (.int k7), .unset, .unset, .unset, .unset, .unset, .unset, .unset, .unset] [(.int k8)])) (PostN s (QLaw h0 n0) 24 128) := by
    intro Tj182 lj182 hj182 k5 k6 k7 k8 Xj182 ej182 Nj182  Zj182 Kj182 O181 
    refine GoOn.step (fun tq kq => XS.istore Xj182.here hx rfl (hb hby at_55) rfl (l' := #[.val (.long d), .second, .val (.long o), .second, .val (.int f), .val (.int k5), .val (.int k6), .val (.int k7), .val (.int k8), .unset, .unset, .unset, .unset, .unset, .unset, .unset]) rfl kq) ?_
    show GoOn p e below (Tj182.setTop (mkF m 57 #[.val (.long d), .second, .val (.long o), .second, .val (.int f), .val (.int k5), .val (.int k6), .val (.int k7), .val (.int k8), .unset, .unset, .unset, .unset, .unset, .unset, .unset] [])) _
    refine GoOn.step (fun tq kq => XS.iload Xj182.here hx rfl (hb hby at_57) rfl kq) ?_
    show GoOn p e below (Tj182.setTop (mkF m 59 #[.val (.long d), .second, .val (.long o), .second, .val (.int f), .val (.int k5), .val (.int k6), .val (.int k7), .val (.int k8), .unset, .unset, .unset, .unset, .unset, .unset, .unset] [(.int k6)])) _
    by_cases hc183 : k6 = 0
    · skip
      refine GoOn.step (fun tq kq => XS.ifYes Xj182.here hx rfl (pc0 := 59) (pc' := 66) rfl (hb hby at_59) rfl ((if0 _ _).trans (teq hc183).1) (by decide) (by decide) kq) ?_
      show GoOn p e below (Tj182.setTop (mkF m 66 #[.val (.long d), .second, .val (.long o), .second, .val (.int f), .val (.int k5), .val (.int k6), .val (.int k7), .val (.int k8), .unset, .unset, .unset, .unset, .unset, .unset, .unset] [])) _
      refine GoOn.step (fun tq kq => XS.lloadN Xj182.here hx rfl (hb hby at_66) rfl kq) ?_
      show GoOn p e below (Tj182.setTop (mkF m 67 #[.val (.long d), .second, .val (.long o), .second, .val (.int f), .val (.int k5), .val (.int k6), .val (.int k7), .val (.int k8), .unset, .unset, .unset, .unset, .unset, .unset, .unset] [(.long o)])) _
      exact J67 _ _ _ k5 k6 k7 k8 o (Xj182.more (by decide) (by decide)) ej182 Nj182  Zj182 Kj182 O181 
    · skip
      refine GoOn.step (fun tq kq => XS.ifNo Xj182.here hx rfl (hb hby at_59) rfl ((if0 _ _).trans (feq hc183).1) kq) ?_
      show GoOn p e below (Tj182.setTop (mkF m 62 #[.val (.long d), .second, .val (.long o), .second, .val (.int f), .val (.int k5), .val (.int k6), .val (.int k7), .val (.int k8), .unset, .unset, .unset, .unset, .unset, .unset, .unset] [])) _
      refine GoOn.step (fun tq kq => XS.lloadN Xj182.here hx rfl (hb hby at_62) rfl kq) ?_
      show GoOn p e below (Tj182.setTop (mkF m 63 #[.val (.long d), .second, .val (.long o), .second, .val (.int f), .val (.int k5), .val (.int k6), .val (.int k7), .val (.int k8), .unset, .unset, .unset, .unset, .unset, .unset, .unset] [(.long d)])) _
      refine GoOn.step (fun tq kq => XS.goto Xj182.here hx rfl (pc0 := 63) (pc' := 67) rfl (hb hby at_63) (by decide) (by decide) kq) ?_
      show GoOn p e below (Tj182.setTop (mkF m 67 #[.val (.long d), .second, .val (.long o), .second, .val (.int f), .val (.int k5), .val (.int k6), .val (.int k7), .val (.int k8), .unset, .unset, .unset, .unset, .unset, .unset, .unset] [(.long d)])) _
      exact J67 _ _ _ k5 k6 k7 k8 d (Xj182.more (by decide) (by decide)) ej182 Nj182  Zj182 Kj182 O181 
  have J40 : ∀ (Tj185 : State) (lj185 : List Loc) (hj185 : Heap) (k5 k6 k7 : Int32) (Xj185 : Stand p l e room_1 s m #[(.long d), (.long o), (.int f)] below meth c Tj185 lj185 0 0) (ej185 : Tj185.heap = hj185) (Nj185 : Fr n0 lj185) (Zj185 : n0 ≤ hj185.size) (Kj185 : Keep h0 hj185 []) (O184 : Old Z n0 hj185), GoOn p e below (Tj185.setTop (mkF m 40 #[.val (.long d), .second, .val (.long o), .second, .val (.int f), .val (.int k5), .val (.int k6), .unset, .unset, .unset, .unset, .unset, .unset, .unset, .unset, .unset] [(.int k7)])) (PostN s (QLaw h0 n0) 24 128) := by
    intro Tj185 lj185 hj185 k5 k6 k7 Xj185 ej185 Nj185  Zj185 Kj185 O184 
    refine GoOn.step (fun tq kq => XS.istore Xj185.here hx rfl (hb hby at_40) rfl (l' := #[.val (.long d), .second, .val (.long o), .second, .val (.int f), .val (.int k5), .val (.int k6), .val (.int k7), .unset, .unset, .unset, .unset, .unset, .unset, .unset, .unset]) rfl kq) ?_
    show GoOn p e below (Tj185.setTop (mkF m 42 #[.val (.long d), .second, .val (.long o), .second, .val (.int f), .val (.int k5), .val (.int k6), .val (.int k7), .unset, .unset, .unset, .unset, .unset, .unset, .unset, .unset] [])) _
    refine GoOn.step (fun tq kq => XS.iload Xj185.here hx rfl (hb hby at_42) rfl kq) ?_
    show GoOn p e below (Tj185.setTop (mkF m 44 #[.val (.long d), .second, .val (.long o), .second, .val (.int f), .val (.int k5), .val (.int k6), .val (.int k7), .unset, .unset, .unset, .unset, .unset, .unset, .unset, .unset] [(.int f)])) _
    refine GoOn.step (fun tq kq => XS.bipush Xj185.here hx rfl (hb hby at_44) kq) ?_
    show GoOn p e below (Tj185.setTop (mkF m 46 #[.val (.long d), .second, .val (.long o), .second, .val (.int f), .val (.int k5), .val (.int k6), .val (.int k7), .unset, .unset, .unset, .unset, .unset, .unset, .unset, .unset] [(.int (8 : Int32)), (.int f)])) _
    refine GoOn.step (fun tq kq => XS.iand Xj185.here hx rfl (hb hby at_46) rfl kq) ?_
    show GoOn p e below (Tj185.setTop (mkF m 47 #[.val (.long d), .second, .val (.long o), .second, .val (.int f), .val (.int k5), .val (.int k6), .val (.int k7), .unset, .unset, .unset, .unset, .unset, .unset, .unset, .unset] [(.int (f &&& (8 : Int32)))])) _
    by_cases hc186 : (f &&& (8 : Int32)) = 0
    · skip
      refine GoOn.step (fun tq kq => XS.ifYes Xj185.here hx rfl (pc0 := 47) (pc' := 54) rfl (hb hby at_47) rfl ((if0 _ _).trans (teq hc186).1) (by decide) (by decide) kq) ?_
      show GoOn p e below (Tj185.setTop (mkF m 54 #[.val (.long d), .second, .val (.long o), .second, .val (.int f), .val (.int k5), .val (.int k6), .val (.int k7), .unset, .unset, .unset, .unset, .unset, .unset, .unset, .unset] [])) _
      refine GoOn.step (fun tq kq => XS.iconst Xj185.here hx rfl (hb hby at_54) kq) ?_
      show GoOn p e below (Tj185.setTop (mkF m 55 #[.val (.long d), .second, .val (.long o), .second, .val (.int f), .val (.int k5), .val (.int k6), .val (.int k7), .unset, .unset, .unset, .unset, .unset, .unset, .unset, .unset] [(.int (0 : Int32))])) _
      exact J55 _ _ _ k5 k6 k7 0 (Xj185.more (by decide) (by decide)) ej185 Nj185  Zj185 Kj185 O184 
    · skip
      refine GoOn.step (fun tq kq => XS.ifNo Xj185.here hx rfl (hb hby at_47) rfl ((if0 _ _).trans (feq hc186).1) kq) ?_
      show GoOn p e below (Tj185.setTop (mkF m 50 #[.val (.long d), .second, .val (.long o), .second, .val (.int f), .val (.int k5), .val (.int k6), .val (.int k7), .unset, .unset, .unset, .unset, .unset, .unset, .unset, .unset] [])) _
      refine GoOn.step (fun tq kq => XS.iconst Xj185.here hx rfl (hb hby at_50) kq) ?_
      show GoOn p e below (Tj185.setTop (mkF m 51 #[.val (.long d), .second, .val (.long o), .second, .val (.int f), .val (.int k5), .val (.int k6), .val (.int k7), .unset, .unset, .unset, .unset, .unset, .unset, .unset, .unset] [(.int (1 : Int32))])) _
      refine GoOn.step (fun tq kq => XS.goto Xj185.here hx rfl (pc0 := 51) (pc' := 55) rfl (hb hby at_51) (by decide) (by decide) kq) ?_
      show GoOn p e below (Tj185.setTop (mkF m 55 #[.val (.long d), .second, .val (.long o), .second, .val (.int f), .val (.int k5), .val (.int k6), .val (.int k7), .unset, .unset, .unset, .unset, .unset, .unset, .unset, .unset] [(.int (1 : Int32))])) _
      exact J55 _ _ _ k5 k6 k7 1 (Xj185.more (by decide) (by decide)) ej185 Nj185  Zj185 Kj185 O184 
  have J26 : ∀ (Tj188 : State) (lj188 : List Loc) (hj188 : Heap) (k5 k6 : Int32) (Xj188 : Stand p l e room_1 s m #[(.long d), (.long o), (.int f)] below meth c Tj188 lj188 0 0) (ej188 : Tj188.heap = hj188) (Nj188 : Fr n0 lj188) (Zj188 : n0 ≤ hj188.size) (Kj188 : Keep h0 hj188 []) (O187 : Old Z n0 hj188), GoOn p e below (Tj188.setTop (mkF m 26 #[.val (.long d), .second, .val (.long o), .second, .val (.int f), .val (.int k5), .unset, .unset, .unset, .unset, .unset, .unset, .unset, .unset, .unset, .unset] [(.int k6)])) (PostN s (QLaw h0 n0) 24 128) := by
    intro Tj188 lj188 hj188 k5 k6 Xj188 ej188 Nj188  Zj188 Kj188 O187 
    refine GoOn.step (fun tq kq => XS.istore Xj188.here hx rfl (hb hby at_26) rfl (l' := #[.val (.long d), .second, .val (.long o), .second, .val (.int f), .val (.int k5), .val (.int k6), .unset, .unset, .unset, .unset, .unset, .unset, .unset, .unset, .unset]) rfl kq) ?_
    show GoOn p e below (Tj188.setTop (mkF m 28 #[.val (.long d), .second, .val (.long o), .second, .val (.int f), .val (.int k5), .val (.int k6), .unset, .unset, .unset, .unset, .unset, .unset, .unset, .unset, .unset] [])) _
    refine GoOn.step (fun tq kq => XS.iload Xj188.here hx rfl (hb hby at_28) rfl kq) ?_
    show GoOn p e below (Tj188.setTop (mkF m 30 #[.val (.long d), .second, .val (.long o), .second, .val (.int f), .val (.int k5), .val (.int k6), .unset, .unset, .unset, .unset, .unset, .unset, .unset, .unset, .unset] [(.int f)])) _
    refine GoOn.step (fun tq kq => XS.iconst Xj188.here hx rfl (hb hby at_30) kq) ?_
    show GoOn p e below (Tj188.setTop (mkF m 31 #[.val (.long d), .second, .val (.long o), .second, .val (.int f), .val (.int k5), .val (.int k6), .unset, .unset, .unset, .unset, .unset, .unset, .unset, .unset, .unset] [(.int (4 : Int32)), (.int f)])) _
    refine GoOn.step (fun tq kq => XS.iand Xj188.here hx rfl (hb hby at_31) rfl kq) ?_
    show GoOn p e below (Tj188.setTop (mkF m 32 #[.val (.long d), .second, .val (.long o), .second, .val (.int f), .val (.int k5), .val (.int k6), .unset, .unset, .unset, .unset, .unset, .unset, .unset, .unset, .unset] [(.int (f &&& (4 : Int32)))])) _
    by_cases hc189 : (f &&& (4 : Int32)) = 0
    · skip
      refine GoOn.step (fun tq kq => XS.ifYes Xj188.here hx rfl (pc0 := 32) (pc' := 39) rfl (hb hby at_32) rfl ((if0 _ _).trans (teq hc189).1) (by decide) (by decide) kq) ?_
      show GoOn p e below (Tj188.setTop (mkF m 39 #[.val (.long d), .second, .val (.long o), .second, .val (.int f), .val (.int k5), .val (.int k6), .unset, .unset, .unset, .unset, .unset, .unset, .unset, .unset, .unset] [])) _
      refine GoOn.step (fun tq kq => XS.iconst Xj188.here hx rfl (hb hby at_39) kq) ?_
      show GoOn p e below (Tj188.setTop (mkF m 40 #[.val (.long d), .second, .val (.long o), .second, .val (.int f), .val (.int k5), .val (.int k6), .unset, .unset, .unset, .unset, .unset, .unset, .unset, .unset, .unset] [(.int (0 : Int32))])) _
      exact J40 _ _ _ k5 k6 0 (Xj188.more (by decide) (by decide)) ej188 Nj188  Zj188 Kj188 O187 
    · skip
      refine GoOn.step (fun tq kq => XS.ifNo Xj188.here hx rfl (hb hby at_32) rfl ((if0 _ _).trans (feq hc189).1) kq) ?_
      show GoOn p e below (Tj188.setTop (mkF m 35 #[.val (.long d), .second, .val (.long o), .second, .val (.int f), .val (.int k5), .val (.int k6), .unset, .unset, .unset, .unset, .unset, .unset, .unset, .unset, .unset] [])) _
      refine GoOn.step (fun tq kq => XS.iconst Xj188.here hx rfl (hb hby at_35) kq) ?_
      show GoOn p e below (Tj188.setTop (mkF m 36 #[.val (.long d), .second, .val (.long o), .second, .val (.int f), .val (.int k5), .val (.int k6), .unset, .unset, .unset, .unset, .unset, .unset, .unset, .unset, .unset] [(.int (1 : Int32))])) _
      refine GoOn.step (fun tq kq => XS.goto Xj188.here hx rfl (pc0 := 36) (pc' := 40) rfl (hb hby at_36) (by decide) (by decide) kq) ?_
      show GoOn p e below (Tj188.setTop (mkF m 40 #[.val (.long d), .second, .val (.long o), .second, .val (.int f), .val (.int k5), .val (.int k6), .unset, .unset, .unset, .unset, .unset, .unset, .unset, .unset, .unset] [(.int (1 : Int32))])) _
      exact J40 _ _ _ k5 k6 1 (Xj188.more (by decide) (by decide)) ej188 Nj188  Zj188 Kj188 O187 
  have J12 : ∀ (Tj191 : State) (lj191 : List Loc) (hj191 : Heap) (k5 : Int32) (Xj191 : Stand p l e room_1 s m #[(.long d), (.long o), (.int f)] below meth c Tj191 lj191 0 0) (ej191 : Tj191.heap = hj191) (Nj191 : Fr n0 lj191) (Zj191 : n0 ≤ hj191.size) (Kj191 : Keep h0 hj191 []) (O190 : Old Z n0 hj191), GoOn p e below (Tj191.setTop (mkF m 12 #[.val (.long d), .second, .val (.long o), .second, .val (.int f), .unset, .unset, .unset, .unset, .unset, .unset, .unset, .unset, .unset, .unset, .unset] [(.int k5)])) (PostN s (QLaw h0 n0) 24 128) := by
    intro Tj191 lj191 hj191 k5 Xj191 ej191 Nj191  Zj191 Kj191 O190 
    refine GoOn.step (fun tq kq => XS.istore Xj191.here hx rfl (hb hby at_12) rfl (l' := #[.val (.long d), .second, .val (.long o), .second, .val (.int f), .val (.int k5), .unset, .unset, .unset, .unset, .unset, .unset, .unset, .unset, .unset, .unset]) rfl kq) ?_
    show GoOn p e below (Tj191.setTop (mkF m 14 #[.val (.long d), .second, .val (.long o), .second, .val (.int f), .val (.int k5), .unset, .unset, .unset, .unset, .unset, .unset, .unset, .unset, .unset, .unset] [])) _
    refine GoOn.step (fun tq kq => XS.iload Xj191.here hx rfl (hb hby at_14) rfl kq) ?_
    show GoOn p e below (Tj191.setTop (mkF m 16 #[.val (.long d), .second, .val (.long o), .second, .val (.int f), .val (.int k5), .unset, .unset, .unset, .unset, .unset, .unset, .unset, .unset, .unset, .unset] [(.int f)])) _
    refine GoOn.step (fun tq kq => XS.iconst Xj191.here hx rfl (hb hby at_16) kq) ?_
    show GoOn p e below (Tj191.setTop (mkF m 17 #[.val (.long d), .second, .val (.long o), .second, .val (.int f), .val (.int k5), .unset, .unset, .unset, .unset, .unset, .unset, .unset, .unset, .unset, .unset] [(.int (2 : Int32)), (.int f)])) _
    refine GoOn.step (fun tq kq => XS.iand Xj191.here hx rfl (hb hby at_17) rfl kq) ?_
    show GoOn p e below (Tj191.setTop (mkF m 18 #[.val (.long d), .second, .val (.long o), .second, .val (.int f), .val (.int k5), .unset, .unset, .unset, .unset, .unset, .unset, .unset, .unset, .unset, .unset] [(.int (f &&& (2 : Int32)))])) _
    by_cases hc192 : (f &&& (2 : Int32)) = 0
    · skip
      refine GoOn.step (fun tq kq => XS.ifYes Xj191.here hx rfl (pc0 := 18) (pc' := 25) rfl (hb hby at_18) rfl ((if0 _ _).trans (teq hc192).1) (by decide) (by decide) kq) ?_
      show GoOn p e below (Tj191.setTop (mkF m 25 #[.val (.long d), .second, .val (.long o), .second, .val (.int f), .val (.int k5), .unset, .unset, .unset, .unset, .unset, .unset, .unset, .unset, .unset, .unset] [])) _
      refine GoOn.step (fun tq kq => XS.iconst Xj191.here hx rfl (hb hby at_25) kq) ?_
      show GoOn p e below (Tj191.setTop (mkF m 26 #[.val (.long d), .second, .val (.long o), .second, .val (.int f), .val (.int k5), .unset, .unset, .unset, .unset, .unset, .unset, .unset, .unset, .unset, .unset] [(.int (0 : Int32))])) _
      exact J26 _ _ _ k5 0 (Xj191.more (by decide) (by decide)) ej191 Nj191  Zj191 Kj191 O190 
    · skip
      refine GoOn.step (fun tq kq => XS.ifNo Xj191.here hx rfl (hb hby at_18) rfl ((if0 _ _).trans (feq hc192).1) kq) ?_
      show GoOn p e below (Tj191.setTop (mkF m 21 #[.val (.long d), .second, .val (.long o), .second, .val (.int f), .val (.int k5), .unset, .unset, .unset, .unset, .unset, .unset, .unset, .unset, .unset, .unset] [])) _
      refine GoOn.step (fun tq kq => XS.iconst Xj191.here hx rfl (hb hby at_21) kq) ?_
      show GoOn p e below (Tj191.setTop (mkF m 22 #[.val (.long d), .second, .val (.long o), .second, .val (.int f), .val (.int k5), .unset, .unset, .unset, .unset, .unset, .unset, .unset, .unset, .unset, .unset] [(.int (1 : Int32))])) _
      refine GoOn.step (fun tq kq => XS.goto Xj191.here hx rfl (pc0 := 22) (pc' := 26) rfl (hb hby at_22) (by decide) (by decide) kq) ?_
      show GoOn p e below (Tj191.setTop (mkF m 26 #[.val (.long d), .second, .val (.long o), .second, .val (.int f), .val (.int k5), .unset, .unset, .unset, .unset, .unset, .unset, .unset, .unset, .unset, .unset] [(.int (1 : Int32))])) _
      exact J26 _ _ _ k5 1 (Xj191.more (by decide) (by decide)) ej191 Nj191  Zj191 Kj191 O190 
  refine GoOn.step (fun tq kq => XS.iload X0.here hx rfl (hb hby at_0) rfl kq) ?_
  show GoOn p e below (s₁.setTop (mkF m 2 #[.val (.long d), .second, .val (.long o), .second, .val (.int f), .unset, .unset, .unset, .unset, .unset, .unset, .unset, .unset, .unset, .unset, .unset] [(.int f)])) _
  refine GoOn.step (fun tq kq => XS.iconst X0.here hx rfl (hb hby at_2) kq) ?_
  show GoOn p e below (s₁.setTop (mkF m 3 #[.val (.long d), .second, .val (.long o), .second, .val (.int f), .unset, .unset, .unset, .unset, .unset, .unset, .unset, .unset, .unset, .unset, .unset] [(.int (1 : Int32)), (.int f)])) _
  refine GoOn.step (fun tq kq => XS.iand X0.here hx rfl (hb hby at_3) rfl kq) ?_
  show GoOn p e below (s₁.setTop (mkF m 4 #[.val (.long d), .second, .val (.long o), .second, .val (.int f), .unset, .unset, .unset, .unset, .unset, .unset, .unset, .unset, .unset, .unset, .unset] [(.int (f &&& (1 : Int32)))])) _
  by_cases hc193 : (f &&& (1 : Int32)) = 0
  · skip
    refine GoOn.step (fun tq kq => XS.ifYes X0.here hx rfl (pc0 := 4) (pc' := 11) rfl (hb hby at_4) rfl ((if0 _ _).trans (teq hc193).1) (by decide) (by decide) kq) ?_
    show GoOn p e below (s₁.setTop (mkF m 11 #[.val (.long d), .second, .val (.long o), .second, .val (.int f), .unset, .unset, .unset, .unset, .unset, .unset, .unset, .unset, .unset, .unset, .unset] [])) _
    refine GoOn.step (fun tq kq => XS.iconst X0.here hx rfl (hb hby at_11) kq) ?_
    show GoOn p e below (s₁.setTop (mkF m 12 #[.val (.long d), .second, .val (.long o), .second, .val (.int f), .unset, .unset, .unset, .unset, .unset, .unset, .unset, .unset, .unset, .unset, .unset] [(.int (0 : Int32))])) _
    exact J12 _ _ _  0 (X0.more (by decide) (by decide)) e0 N0  Z0 K0 O0 
  · skip
    refine GoOn.step (fun tq kq => XS.ifNo X0.here hx rfl (hb hby at_4) rfl ((if0 _ _).trans (feq hc193).1) kq) ?_
    show GoOn p e below (s₁.setTop (mkF m 7 #[.val (.long d), .second, .val (.long o), .second, .val (.int f), .unset, .unset, .unset, .unset, .unset, .unset, .unset, .unset, .unset, .unset, .unset] [])) _
    refine GoOn.step (fun tq kq => XS.iconst X0.here hx rfl (hb hby at_7) kq) ?_
    show GoOn p e below (s₁.setTop (mkF m 8 #[.val (.long d), .second, .val (.long o), .second, .val (.int f), .unset, .unset, .unset, .unset, .unset, .unset, .unset, .unset, .unset, .unset, .unset] [(.int (1 : Int32))])) _
    refine GoOn.step (fun tq kq => XS.goto X0.here hx rfl (pc0 := 8) (pc' := 12) rfl (hb hby at_8) (by decide) (by decide) kq) ?_
    show GoOn p e below (s₁.setTop (mkF m 12 #[.val (.long d), .second, .val (.long o), .second, .val (.int f), .unset, .unset, .unset, .unset, .unset, .unset, .unset, .unset, .unset, .unset, .unset] [(.int (1 : Int32))])) _
    exact J12 _ _ _  1 (X0.more (by decide) (by decide)) e0 N0  Z0 K0 O0 
set_option maxRecDepth 65536 in
set_option maxHeartbeats 40000000 in
theorem comes_1 {Post : Tables → Env → Array Value → State → Outcome → State → Prop} (hpost : ∀ tb e args s v u, (limb_1_1.after args s (.returned v) u = true ∧ limb_1_2.after args s (.returned v) u = true ∧ True) → FrameEnd s (.returned v) u (Jvm.fieldLocs frame_1_writes args s ++ Jvm.arrayLocs frame_1_arrays args s ++ Jvm.staticLocs frame_1_statics s) 24 128 → Post tb e args s (.returned v) u) :
    ArmFor flags0 classFile x code maxLocals ret World_1 tables_1 room_1 Calls_1 rest_1 Pre_1 Post := by
  intro l hfl _ _ p e ha hc hk s m args below hf hA hF happ hP
  obtain ⟨hcalls, hrest, hpre⟩ := hP
  obtain ⟨-, -, -, hnamed, -, -, -, hat⟩ := (Spec.applies_iff hf).mp happ
  obtain ⟨hg, hn⟩ := and_e (Cond.before_iff.mp (show (Jvm.Cond.and given_1 narrow_1).before args s = true from hpre))
  obtain ⟨hcount, hg0⟩ := and_e hg
  obtain ⟨ha0, hg1⟩ := and_e hg0
  obtain ⟨ha1, hg2⟩ := and_e hg1
  obtain ⟨w0, w1, w2, rfl⟩ : ∃ w0 w1 w2 : Value, args = #[w0, w1, w2] := by
    have hs : args.size = 3 := by simpa [Cond.value, given_1] using hcount
    obtain ⟨L⟩ := args
    match L, hs with
    | [w0, w1, w2], _ => exact ⟨w0, w1, w2, rfl⟩
  have hw := fun d (hd : d ∈ tables_1) => atoms_spec (ws := Jvm.Cond.code x code maxLocals ret :: tables_1) hat d (List.mem_cons_of_mem _ hd)
  have hfit : Fit s := fun {y c} hc i hi => by
    obtain ⟨ha, rfl⟩ := Array.getElem?_eq_some_iff.mp hc
    have q := List.all_eq_true.mp ((Array.all_eq_true_iff_forall_mem.mp hF) _ (Array.getElem_mem ha)) i (List.mem_range.mpr hi)
    simpa [Array.getElem?_eq_getElem hi] using q
  obtain ⟨hsets, hown0⟩ := atoms_of _ (rest_1_c_eq ▸ (show rest_1_c.before _ s = true from hrest))
  have hr0 := Cond.before_iff.mp hown0
  obtain ⟨i0, ei0⟩ := isL_v ha0
  obtain rfl : w0 = (.long i0) := Option.some.inj ei0
  obtain ⟨i1, ei1⟩ := isL_v ha1
  obtain rfl : w1 = (.long i1) := Option.some.inj ei1
  obtain ⟨i2, ei2⟩ := is_v hg2
  obtain rfl : w2 = (.int i2) := Option.some.inj ei2
  have n5 := not_v (Cond.before_iff.mp (hsets _ (List.mem_of_getElem? (i := 8) rfl)))
  obtain ⟨ic, ec⟩ := is_v (Cond.before_iff.mp (hsets _ (List.mem_of_getElem? (i := 7) rfl)))
  have SC : Sta s s.heap "java/lang/String" "COMPACT_STRINGS" "Z" (.int ic) := Sta.start ec (Or.inl (hsets _ (List.mem_of_getElem? (i := 6) rfl)))
  have PC : ¬ (ic = (0 : Int32)) := gotF (Cond.eq_ints ec (Term.int_eval (0))) n5
  obtain ⟨arr, cl, LC⟩ := lcache_of (fun d hd => hsets d ((by decide +kernel : ∀ d ∈ Jvm.Free.LongBox.longClinit, d ∈ jdkStatics_1) d hd)) (hw _ (List.mem_of_getElem? (i := 64) rfl)) (hw _ (List.mem_of_getElem? (i := 35) rfl))
  obtain ⟨n, o, h1, h2, h3, _, L, rfl, ⟨rfl, N⟩, hq⟩ := rm0 l s _ hw tables_1 i0 i1 i2 ic arr cl s.heap s.heap.size (Nat.le_refl _) SC PC LC (Old.start s) p e ha hc hk s m _ below hf ((Spec.applies_iff_loose hf).mp happ).1 ⟨rfl, State.Warmed39.refl s, rfl⟩ trivial
  refine ⟨n, _, h1, h2, h3, hpost _ _ _ _ _ _ ⟨Cond.after_iff.mpr rfl, Cond.after_iff.mpr (eq_i res_at (Term.int_eval (1)) rfl), trivial⟩ ⟨hq.1, hq.2.1, (hq.2.2.sift fun y hy => Or.inr (N y hy)).mono (by decide) (by decide)⟩⟩
theorem main_1_1 : Claimed_1_1 := comes_1 fun _ _ _ _ _ _ h hF => ⟨h.1, hF⟩
theorem main_1_2 : Claimed_1_2 := comes_1 fun _ _ _ _ _ _ h hF => ⟨h.2.1, hF⟩
end Jvm.Pilot.@@N@@
namespace Jvm.Pilot.@@N@@
open Jvm Jvm.ClassFile Sem Op Lib Jvm.Free Jvm.Stand Jvm.Pilot.@@N@@.Jvm.D
/-! MADE BY PROGRAM (witnessworld.py) out of the Statement's table words and the real class files: 24 classes; the members and pool entries that the words name. The judged class is class 1, her method 1. -/
namespace start1
open Jvm.ClassFile
def u (s : String) : CpInfo := .utf8 (stringToUtf16 s)
/-- a pool by its gaps: so many unusable entries, then the entry; so many at the end -/
def gap : Nat → List CpInfo → List CpInfo
  | 0, r => r
  | n + 1, r => .unusable :: gap n r
def poolList (es : List (Nat × CpInfo)) (last : Nat) : List CpInfo := es.foldr (fun e r => gap e.1 (e.2 :: r)) (gap last [])
def pool (es : List (Nat × CpInfo)) (last : Nat) : Array CpInfo := ⟨poolList es last⟩
def fileOf (pool : Array CpInfo) (this : Nat) (attrs : Array Attribute := #[]) (ms : Array MethodInfo := #[]) (fl : Nat := 33) (sup : Nat := 0) (ifs : Array Nat := #[]) (fds : Array FieldInfo := #[]) : ClassFile where
  minorVersion := 0
  majorVersion := 65
  constantPool := pool
  accessFlags := fl
  thisClass := this
  superClass := sup
  interfaces := ifs
  fields := fds
  methods := ms
  attributes := attrs
def plain (name : String) (sup : Option ClassId) : Class where
  name := name
  kind := .ordinary
  loader := none
  accessFlags := 33
  super := sup
  interfaces := #[]
  cf := none
  fields := #[]
  methods := #[]
  instanceTypes := #[]
  staticTypes := #[]
  resolved := #[]
  callSites := []
  init := .initialized
  statics := none
  mirror := none

def pool0 : Array CpInfo := pool [(5, u "<init>"), (0, u "()V"), (1, .class_ 10), (1, u "java/lang/Object")] 113

def k0c0 : Code := { maxStack := 0, maxLocals := 1, code := object_method_1_code, exceptionTable := #[], attributes := #[] }
def k0m0 : Method := { name := "<init>", desc := "()V", sig := { parameters := [], returnType := none }, accessFlags := 1, code := some k0c0 }
/-- java/lang/Object -/
def k0 : Class := { plain "java/lang/Object" none with
  accessFlags := 33
  interfaces := #[]
  cf := some (fileOf pool0 8 #[] #[{ accessFlags := 1, nameIndex := 5, descriptorIndex := 6, attributes := #[] }] 33 0 #[] #[])
  fields := #[]
  methods := #[k0m0]
  instanceTypes := #[]
  staticTypes := #[]
  resolved := Array.replicate 124 none
  statics := none }

def pool1 : Array CpInfo := pool [(2, .class_ 4), (1, u "java/lang/Object"), (0, u "<init>"), (0, u "()V"), (0, .class_ 8), (0, u "java/lang/String"), (0, .methodref 7 10), (0, .nameAndType 5 11), (0, u "([C)V"), (0, .methodref 13 14), (0, .class_ 15), (0, .nameAndType 16 17), (0, u "java/lang/Long"), (0, u "valueOf"), (0, u "(J)Ljava/lang/Long;"), (0, .class_ 19), (0, u "com/example/archipelago/archipelago/model/TenantRegistration"), (0, .methodref 18 21), (0, .nameAndType 5 22), (0, u "(Ljava/lang/Long;ZLjava/lang/String;)V"), (0, .methodref 18 24), (0, .nameAndType 25 26), (0, u "isDatabase"), (0, u "(J)Z"), (0, .class_ 28), (0, u "com/example/archipelago/archipelago/model/TenantRegistrationIsDatabasePinLaw"), (2, u "law"), (0, u "(JJI)Z")] 5

def k1m0 : Method := { name := "<init>", desc := "()V", sig := { parameters := [], returnType := none }, accessFlags := 1, code := none }
def k1c1 : Code := { maxStack := 5, maxLocals := 16, code := code, exceptionTable := #[], attributes := #[] }
def k1m1 : Method := { name := "law", desc := "(JJI)Z", sig := { parameters := [.long, .long, .int], returnType := some .boolean }, accessFlags := 9, code := some k1c1 }
/-- com/example/archipelago/archipelago/model/TenantRegistrationIsDatabasePinLaw -/
def k1 : Class := { plain "com/example/archipelago/archipelago/model/TenantRegistrationIsDatabasePinLaw" (some 0) with
  accessFlags := 49
  interfaces := #[]
  cf := some (fileOf pool1 27 #[] #[{ accessFlags := 1, nameIndex := 5, descriptorIndex := 6, attributes := #[] }, { accessFlags := 9, nameIndex := 31, descriptorIndex := 32, attributes := #[] }] 49 2 #[] #[])
  fields := #[]
  methods := #[k1m0, k1m1]
  instanceTypes := #[]
  staticTypes := #[]
  resolved := Array.replicate 38 none
  statics := none }

def pool2 : Array CpInfo := pool [(1, .methodref 2 3), (0, .class_ 4), (0, .nameAndType 5 6), (0, u "java/lang/Object"), (0, u "<init>"), (0, u "()V"), (0, .fieldref 8 9), (0, .class_ 10), (0, .nameAndType 11 12), (0, u "com/example/archipelago/archipelago/model/TenantRegistration"), (0, u "databaseOid"), (0, u "Ljava/lang/Long;"), (0, .fieldref 8 14), (0, .nameAndType 15 16), (0, u "realmKnown"), (0, u "Z"), (0, .fieldref 8 18), (0, .nameAndType 19 20), (0, u "realmId"), (0, u "Ljava/lang/String;"), (2, u "UNRECORDED"), (0, u "Lcom/example/archipelago/archipelago/model/TenantRegistration;"), (0, .methodref 26 27), (0, .class_ 28), (0, .nameAndType 29 30), (0, u "java/lang/Long"), (0, u "longValue"), (0, u "()J"), (12, u "(Ljava/lang/Long;ZLjava/lang/String;)V"), (7, u "isDatabase"), (0, u "(J)Z")] 6

def k2c0 : Code := { maxStack := 2, maxLocals := 4, code := prog_27_method_1_code, exceptionTable := #[], attributes := #[] }
def k2m0 : Method := { name := "<init>", desc := "(Ljava/lang/Long;ZLjava/lang/String;)V", sig := { parameters := [(.object "java/lang/Long"), .boolean, (.object "java/lang/String")], returnType := none }, accessFlags := 1, code := some k2c0 }
def k2c1 : Code := { maxStack := 4, maxLocals := 3, code := prog_27_method_4_code, exceptionTable := #[], attributes := #[] }
def k2m1 : Method := { name := "isDatabase", desc := "(J)Z", sig := { parameters := [.long], returnType := some .boolean }, accessFlags := 1, code := some k2c1 }
/-- com/example/archipelago/archipelago/model/TenantRegistration -/
def k2 : Class := { plain "com/example/archipelago/archipelago/model/TenantRegistration" (some 0) with
  accessFlags := 49
  interfaces := #[]
  cf := some (fileOf pool2 8 #[] #[{ accessFlags := 1, nameIndex := 5, descriptorIndex := 43, attributes := #[] }, { accessFlags := 1, nameIndex := 51, descriptorIndex := 52, attributes := #[] }] 49 2 #[] #[{ accessFlags := 26, nameIndex := 23, descriptorIndex := 24, attributes := #[] }, { accessFlags := 18, nameIndex := 11, descriptorIndex := 12, attributes := #[] }, { accessFlags := 18, nameIndex := 15, descriptorIndex := 16, attributes := #[] }, { accessFlags := 18, nameIndex := 19, descriptorIndex := 20, attributes := #[] }])
  fields := #[{ name := "UNRECORDED", type := (.object "com/example/archipelago/archipelago/model/TenantRegistration"), accessFlags := 26, slot := 0, constantValue := 0 }, { name := "databaseOid", type := (.object "java/lang/Long"), accessFlags := 18, slot := 0, constantValue := 0 }, { name := "realmKnown", type := .boolean, accessFlags := 18, slot := 1, constantValue := 0 }, { name := "realmId", type := (.object "java/lang/String"), accessFlags := 18, slot := 2, constantValue := 0 }]
  methods := #[k2m0, k2m1]
  instanceTypes := #[(.object "java/lang/Long"), .boolean, (.object "java/lang/String")]
  staticTypes := #[(.object "com/example/archipelago/archipelago/model/TenantRegistration")]
  resolved := Array.replicate 59 none
  statics := none }

def pool3 : Array CpInfo := pool [(1, .class_ 2), (0, u "java/io/Serializable"), (0, .class_ 4), (0, u "java/lang/Object")] 2

/-- java/io/Serializable -/
def k3 : Class := { plain "java/io/Serializable" (some 0) with
  accessFlags := 1537
  interfaces := #[]
  cf := some (fileOf pool3 1 #[] #[] 1537 3 #[] #[])
  fields := #[]
  methods := #[]
  instanceTypes := #[]
  staticTypes := #[]
  resolved := Array.replicate 7 none
  statics := none }

def pool4 : Array CpInfo := pool [(1, .methodref 2 3), (0, .class_ 4), (0, .nameAndType 5 6), (0, u "java/lang/Object"), (0, u "<init>"), (0, u "()V"), (1, .class_ 10), (1, u "java/lang/Number"), (2, .class_ 14), (0, u "java/io/Serializable"), (0, u "serialVersionUID"), (0, u "J")] 20

def k4c0 : Code := { maxStack := 1, maxLocals := 1, code := jdk_18_method_1_code, exceptionTable := #[], attributes := #[] }
def k4m0 : Method := { name := "<init>", desc := "()V", sig := { parameters := [], returnType := none }, accessFlags := 1, code := some k4c0 }
/-- java/lang/Number -/
def k4 : Class := { plain "java/lang/Number" (some 0) with
  accessFlags := 1057
  interfaces := #[3]
  cf := some (fileOf pool4 8 #[] #[{ accessFlags := 1, nameIndex := 5, descriptorIndex := 6, attributes := #[] }] 1057 2 #[13] #[{ accessFlags := 26, nameIndex := 15, descriptorIndex := 16, attributes := #[] }])
  fields := #[{ name := "serialVersionUID", type := .long, accessFlags := 26, slot := 0, constantValue := 0 }]
  methods := #[k4m0]
  instanceTypes := #[]
  staticTypes := #[.long]
  resolved := Array.replicate 37 none
  statics := none }

def pool5 : Array CpInfo := pool [(1, .class_ 2), (0, u "java/lang/Comparable"), (0, .class_ 4), (0, u "java/lang/Object")] 7

/-- java/lang/Comparable -/
def k5 : Class := { plain "java/lang/Comparable" (some 0) with
  accessFlags := 1537
  interfaces := #[]
  cf := some (fileOf pool5 1 #[] #[] 1537 3 #[] #[])
  fields := #[]
  methods := #[]
  instanceTypes := #[]
  staticTypes := #[]
  resolved := Array.replicate 12 none
  statics := none }

def pool6 : Array CpInfo := pool [(1, .class_ 2), (0, u "java/lang/constant/Constable"), (0, .class_ 4), (0, u "java/lang/Object")] 6

/-- java/lang/constant/Constable -/
def k6 : Class := { plain "java/lang/constant/Constable" (some 0) with
  accessFlags := 1537
  interfaces := #[]
  cf := some (fileOf pool6 1 #[] #[] 1537 3 #[] #[])
  fields := #[]
  methods := #[]
  instanceTypes := #[]
  staticTypes := #[]
  resolved := Array.replicate 11 none
  statics := none }

def pool7 : Array CpInfo := pool [(1, .class_ 2), (0, u "java/lang/constant/ConstantDesc"), (0, .class_ 4), (0, u "java/lang/Object")] 32

/-- java/lang/constant/ConstantDesc -/
def k7 : Class := { plain "java/lang/constant/ConstantDesc" (some 0) with
  accessFlags := 1537
  interfaces := #[]
  cf := some (fileOf pool7 1 #[] #[] 1537 3 #[] #[])
  fields := #[]
  methods := #[]
  instanceTypes := #[]
  staticTypes := #[]
  resolved := Array.replicate 37 none
  statics := none }

def pool8 : Array CpInfo := pool [(1, .class_ 2), (0, u "java/lang/Long"), (55, .nameAndType 59 60), (0, u "<init>"), (0, u "()V"), (24, u "valueOf"), (143, u "(J)Ljava/lang/Long;"), (0, .long 18446744073709551488), (1, .long 127), (1, .fieldref 235 236), (0, .class_ 237), (0, .nameAndType 238 239), (0, u "java/lang/Long$LongCache"), (0, u "cache"), (0, u "[Ljava/lang/Long;"), (0, .methodref 1 241), (0, .nameAndType 59 242), (0, u "(J)V"), (27, .methodref 271 58), (0, .class_ 272), (0, u "java/lang/Number"), (0, .fieldref 1 274), (0, .nameAndType 275 276), (0, u "value"), (0, u "J"), (5, u "longValue"), (0, u "()J"), (77, u "TYPE"), (0, u "Ljava/lang/Class;"), (0, .class_ 364), (0, u "java/lang/Comparable"), (0, .class_ 366), (0, u "java/lang/constant/Constable"), (0, .class_ 368), (0, u "java/lang/constant/ConstantDesc"), (0, u "MIN_VALUE"), (1, u "MAX_VALUE"), (4, u "SIZE"), (0, u "I"), (1, u "BYTES"), (1, u "serialVersionUID")] 142

def k8c0 : Code := { maxStack := 4, maxLocals := 3, code := jdk_35_method_24_code, exceptionTable := #[], attributes := #[] }
def k8m0 : Method := { name := "valueOf", desc := "(J)Ljava/lang/Long;", sig := { parameters := [.long], returnType := some (.object "java/lang/Long") }, accessFlags := 9, code := some k8c0 }
def k8c1 : Code := { maxStack := 3, maxLocals := 3, code := jdk_35_method_26_code, exceptionTable := #[], attributes := #[] }
def k8m1 : Method := { name := "<init>", desc := "(J)V", sig := { parameters := [.long], returnType := none }, accessFlags := 1, code := some k8c1 }
def k8c2 : Code := { maxStack := 2, maxLocals := 1, code := jdk_35_method_31_code, exceptionTable := #[], attributes := #[] }
def k8m2 : Method := { name := "longValue", desc := "()J", sig := { parameters := [], returnType := some .long }, accessFlags := 1, code := some k8c2 }
/-- java/lang/Long -/
def k8 : Class := { plain "java/lang/Long" (some 4) with
  accessFlags := 49
  interfaces := #[5, 6, 7]
  cf := some (fileOf pool8 1 #[.nestMembers #[235]] #[{ accessFlags := 9, nameIndex := 85, descriptorIndex := 229, attributes := #[] }, { accessFlags := 1, nameIndex := 59, descriptorIndex := 242, attributes := #[] }, { accessFlags := 1, nameIndex := 282, descriptorIndex := 283, attributes := #[] }] 49 271 #[363, 365, 367] #[{ accessFlags := 25, nameIndex := 369, descriptorIndex := 276, attributes := #[] }, { accessFlags := 25, nameIndex := 371, descriptorIndex := 276, attributes := #[] }, { accessFlags := 25, nameIndex := 361, descriptorIndex := 362, attributes := #[] }, { accessFlags := 18, nameIndex := 275, descriptorIndex := 276, attributes := #[] }, { accessFlags := 25, nameIndex := 376, descriptorIndex := 377, attributes := #[] }, { accessFlags := 25, nameIndex := 379, descriptorIndex := 377, attributes := #[] }, { accessFlags := 26, nameIndex := 381, descriptorIndex := 276, attributes := #[] }])
  fields := #[{ name := "MIN_VALUE", type := .long, accessFlags := 25, slot := 0, constantValue := 0 }, { name := "MAX_VALUE", type := .long, accessFlags := 25, slot := 1, constantValue := 0 }, { name := "TYPE", type := (.object "java/lang/Class"), accessFlags := 25, slot := 2, constantValue := 0 }, { name := "value", type := .long, accessFlags := 18, slot := 0, constantValue := 0 }, { name := "SIZE", type := .int, accessFlags := 25, slot := 3, constantValue := 0 }, { name := "BYTES", type := .int, accessFlags := 25, slot := 4, constantValue := 0 }, { name := "serialVersionUID", type := .long, accessFlags := 26, slot := 5, constantValue := 0 }]
  methods := #[k8m0, k8m1, k8m2]
  instanceTypes := #[.long]
  staticTypes := #[.long, .long, (.object "java/lang/Class"), .int, .int, .long]
  resolved := Array.replicate 524 none
  statics := none }

def pool9 : Array CpInfo := pool [(2, .class_ 4), (1, u "java/lang/Object"), (0, u "<init>"), (0, u "()V"), (0, .class_ 8), (0, u "java/lang/Long"), (7, .class_ 18), (1, u "java/lang/Long$LongCache"), (0, u "$assertionsDisabled"), (0, u "Z"), (8, u "archivedCache"), (0, u "[Ljava/lang/Long;"), (7, u "cache")] 24

def k9m0 : Method := { name := "<init>", desc := "()V", sig := { parameters := [], returnType := none }, accessFlags := 2, code := none }
/-- java/lang/Long$LongCache -/
def k9 : Class := { plain "java/lang/Long$LongCache" (some 0) with
  accessFlags := 48
  interfaces := #[]
  cf := some (fileOf pool9 16 #[.nestHost 7] #[{ accessFlags := 2, nameIndex := 5, descriptorIndex := 6, attributes := #[] }] 48 2 #[] #[{ accessFlags := 24, nameIndex := 38, descriptorIndex := 30, attributes := #[] }, { accessFlags := 8, nameIndex := 29, descriptorIndex := 30, attributes := #[] }, { accessFlags := 4120, nameIndex := 19, descriptorIndex := 20, attributes := #[] }])
  fields := #[{ name := "cache", type := (.array (.object "java/lang/Long")), accessFlags := 24, slot := 0, constantValue := 0 }, { name := "archivedCache", type := (.array (.object "java/lang/Long")), accessFlags := 8, slot := 1, constantValue := 0 }, { name := "$assertionsDisabled", type := .boolean, accessFlags := 4120, slot := 2, constantValue := 0 }]
  methods := #[k9m0]
  instanceTypes := #[]
  staticTypes := #[(.array (.object "java/lang/Long")), (.array (.object "java/lang/Long")), .boolean]
  resolved := Array.replicate 63 none
  statics := some 0 }

def pool10 : Array CpInfo := pool [(2, .class_ 4), (1, u "java/lang/CharSequence"), (42, .class_ 48), (0, u "java/lang/CharSequence$1CodePointIterator"), (10, .class_ 60), (0, u "java/lang/CharSequence$1CharIterator"), (5, .class_ 67), (0, u "java/lang/Object")] 63

/-- java/lang/CharSequence -/
def k10 : Class := { plain "java/lang/CharSequence" (some 0) with
  accessFlags := 1537
  interfaces := #[]
  cf := some (fileOf pool10 2 #[.nestMembers #[47, 59]] #[] 1537 66 #[] #[])
  fields := #[]
  methods := #[]
  instanceTypes := #[]
  staticTypes := #[]
  resolved := Array.replicate 131 none
  statics := none }

def pool11 : Array CpInfo := pool [(1, .methodref 2 3), (0, .class_ 4), (0, .nameAndType 5 6), (0, u "java/lang/Object"), (0, u "<init>"), (0, u "()V"), (2, .fieldref 10 11), (0, .class_ 12), (0, .nameAndType 13 14), (0, u "java/lang/String"), (0, u "value"), (0, u "[B"), (0, .fieldref 10 16), (0, .nameAndType 17 18), (0, u "coder"), (0, u "B"), (2, u "hash"), (0, u "I"), (2, u "hashIsZero"), (0, u "Z"), (0, .methodref 10 28), (0, .nameAndType 5 29), (0, u "([CIILjava/lang/Void;)V"), (8, .fieldref 10 39), (0, .nameAndType 40 26), (0, u "COMPACT_STRINGS"), (1, .class_ 44), (1, u "java/lang/StringUTF16"), (0, u "compress"), (1, .methodref 42 48), (0, .nameAndType 49 50), (0, u "coderFromArrayLen"), (0, u "([BI)B"), (126, .methodref 42 178), (0, .nameAndType 45 179), (0, u "([CII)[B"), (395, .class_ 576), (0, u "java/lang/CharSequence"), (22, u "CASE_INSENSITIVE_ORDER"), (0, u "Ljava/util/Comparator;"), (409, u "([C)V"), (90, u "serialPersistentFields"), (0, u "[Ljava/io/ObjectStreamField;"), (0, .class_ 1104), (0, u "java/lang/String$CaseInsensitiveComparator"), (1, .class_ 1107), (0, u "java/io/Serializable"), (0, .class_ 1109), (0, u "java/lang/Comparable"), (0, .class_ 1111), (0, u "java/lang/constant/Constable"), (0, .class_ 1113), (0, u "java/lang/constant/ConstantDesc"), (2, u "serialVersionUID"), (0, u "J"), (3, u "REPL"), (0, u "C"), (2, u "LATIN1"), (1, u "UTF16")] 323

def k11m0 : Method := { name := "<init>", desc := "()V", sig := { parameters := [], returnType := none }, accessFlags := 1, code := none }
def k11c1 : Code := { maxStack := 5, maxLocals := 2, code := jdk_42_method_3_code, exceptionTable := #[], attributes := #[] }
def k11m1 : Method := { name := "<init>", desc := "([C)V", sig := { parameters := [(.array .char)], returnType := none }, accessFlags := 1, code := some k11c1 }
def k11c2 : Code := { maxStack := 4, maxLocals := 6, code := jdk_42_method_149_code, exceptionTable := #[], attributes := #[] }
def k11m2 : Method := { name := "<init>", desc := "([CIILjava/lang/Void;)V", sig := { parameters := [(.array .char), .int, .int, (.object "java/lang/Void")], returnType := none }, accessFlags := 2, code := some k11c2 }
/-- java/lang/String -/
def k11 : Class := { plain "java/lang/String" (some 0) with
  accessFlags := 49
  interfaces := #[3, 5, 10, 6, 7]
  cf := some (fileOf pool11 10 #[.nestMembers #[1103]] #[{ accessFlags := 1, nameIndex := 5, descriptorIndex := 6, attributes := #[] }, { accessFlags := 1, nameIndex := 5, descriptorIndex := 1010, attributes := #[] }, { accessFlags := 2, nameIndex := 5, descriptorIndex := 29, attributes := #[] }] 49 2 #[1106, 1108, 575, 1110, 1112] #[{ accessFlags := 18, nameIndex := 13, descriptorIndex := 14, attributes := #[] }, { accessFlags := 18, nameIndex := 17, descriptorIndex := 18, attributes := #[] }, { accessFlags := 2, nameIndex := 21, descriptorIndex := 22, attributes := #[] }, { accessFlags := 2, nameIndex := 25, descriptorIndex := 26, attributes := #[] }, { accessFlags := 26, nameIndex := 1116, descriptorIndex := 1117, attributes := #[] }, { accessFlags := 24, nameIndex := 40, descriptorIndex := 26, attributes := #[] }, { accessFlags := 26, nameIndex := 1101, descriptorIndex := 1102, attributes := #[] }, { accessFlags := 26, nameIndex := 1121, descriptorIndex := 1122, attributes := #[] }, { accessFlags := 25, nameIndex := 599, descriptorIndex := 600, attributes := #[] }, { accessFlags := 24, nameIndex := 1125, descriptorIndex := 18, attributes := #[] }, { accessFlags := 24, nameIndex := 1127, descriptorIndex := 18, attributes := #[] }])
  fields := #[{ name := "value", type := (.array .byte), accessFlags := 18, slot := 0, constantValue := 0 }, { name := "coder", type := .byte, accessFlags := 18, slot := 1, constantValue := 0 }, { name := "hash", type := .int, accessFlags := 2, slot := 2, constantValue := 0 }, { name := "hashIsZero", type := .boolean, accessFlags := 2, slot := 3, constantValue := 0 }, { name := "serialVersionUID", type := .long, accessFlags := 26, slot := 0, constantValue := 0 }, { name := "COMPACT_STRINGS", type := .boolean, accessFlags := 24, slot := 1, constantValue := 0 }, { name := "serialPersistentFields", type := (.array (.object "java/io/ObjectStreamField")), accessFlags := 26, slot := 2, constantValue := 0 }, { name := "REPL", type := .char, accessFlags := 26, slot := 3, constantValue := 0 }, { name := "CASE_INSENSITIVE_ORDER", type := (.object "java/util/Comparator"), accessFlags := 25, slot := 4, constantValue := 0 }, { name := "LATIN1", type := .byte, accessFlags := 24, slot := 5, constantValue := 0 }, { name := "UTF16", type := .byte, accessFlags := 24, slot := 6, constantValue := 0 }]
  methods := #[k11m0, k11m1, k11m2]
  instanceTypes := #[(.array .byte), .byte, .int, .boolean]
  staticTypes := #[.long, .boolean, (.array (.object "java/io/ObjectStreamField")), .char, (.object "java/util/Comparator"), .byte, .byte]
  resolved := Array.replicate 1451 none
  statics := some 1 }

def pool12 : Array CpInfo := pool [(6, .class_ 8), (1, u "java/lang/Object"), (0, u "<init>"), (0, u "()V"), (1, .class_ 14), (1, u "java/lang/StringUTF16"), (31, u "$assertionsDisabled"), (0, u "Z"), (13, u "HI_BYTE_SHIFT"), (0, u "I"), (2, u "LO_BYTE_SHIFT"), (49, .methodref 12 116), (0, .nameAndType 117 118), (0, u "compress"), (0, u "([CI[BII)I"), (3, u "([CII)[B"), (138, u "coderFromArrayLen"), (0, u "([BI)B"), (106, .class_ 371), (1, u "java/lang/StringUTF16$LinesSpliterator"), (58, u "MAX_LENGTH"), (196, .class_ 628), (0, u "java/lang/StringUTF16$CodePointsSpliterator"), (0, .class_ 630), (0, u "java/lang/StringUTF16$CharsSpliterator")] 4

def k12m0 : Method := { name := "<init>", desc := "()V", sig := { parameters := [], returnType := none }, accessFlags := 0, code := none }
def k12c1 : Code := { maxStack := 2, maxLocals := 2, code := jdk_52_method_15_code, exceptionTable := #[], attributes := #[] }
def k12m1 : Method := { name := "coderFromArrayLen", desc := "([BI)B", sig := { parameters := [(.array .byte), .int], returnType := some .byte }, accessFlags := 8, code := some k12c1 }
def k12c2 : Code := { maxStack := 5, maxLocals := 6, code := jdk_52_method_16_code, exceptionTable := #[], attributes := #[] }
def k12m2 : Method := { name := "compress", desc := "([CII)[B", sig := { parameters := [(.array .char), .int, .int], returnType := some (.array .byte) }, accessFlags := 9, code := some k12c2 }
def k12c3 : Code := { maxStack := 3, maxLocals := 7, code := jdk_52_method_21_code, exceptionTable := #[], attributes := #[] }
def k12m3 : Method := { name := "compress", desc := "([CI[BII)I", sig := { parameters := [(.array .char), .int, (.array .byte), .int, .int], returnType := some .int }, accessFlags := 9, code := some k12c3 }
/-- java/lang/StringUTF16 -/
def k12 : Class := { plain "java/lang/StringUTF16" (some 0) with
  accessFlags := 48
  interfaces := #[]
  cf := some (fileOf pool12 12 #[.nestMembers #[627, 629, 369]] #[{ accessFlags := 0, nameIndex := 9, descriptorIndex := 10, attributes := #[] }, { accessFlags := 8, nameIndex := 261, descriptorIndex := 262, attributes := #[] }, { accessFlags := 9, nameIndex := 117, descriptorIndex := 122, attributes := #[] }, { accessFlags := 9, nameIndex := 117, descriptorIndex := 118, attributes := #[] }] 48 6 #[] #[{ accessFlags := 26, nameIndex := 61, descriptorIndex := 62, attributes := #[] }, { accessFlags := 26, nameIndex := 65, descriptorIndex := 62, attributes := #[] }, { accessFlags := 24, nameIndex := 430, descriptorIndex := 62, attributes := #[] }, { accessFlags := 4120, nameIndex := 46, descriptorIndex := 47, attributes := #[] }])
  fields := #[{ name := "HI_BYTE_SHIFT", type := .int, accessFlags := 26, slot := 0, constantValue := 0 }, { name := "LO_BYTE_SHIFT", type := .int, accessFlags := 26, slot := 1, constantValue := 0 }, { name := "MAX_LENGTH", type := .int, accessFlags := 24, slot := 2, constantValue := 0 }, { name := "$assertionsDisabled", type := .boolean, accessFlags := 4120, slot := 3, constantValue := 0 }]
  methods := #[k12m0, k12m1, k12m2, k12m3]
  instanceTypes := #[]
  staticTypes := #[.int, .int, .int, .boolean]
  resolved := Array.replicate 635 none
  statics := none }

def pool13 : Array CpInfo := pool [(4, .class_ 6), (1, u "java/lang/Object"), (0, u "<init>"), (0, u "()V"), (5, .class_ 16), (1, u "java/lang/StringLatin1"), (104, u "$assertionsDisabled"), (0, u "Z"), (98, .class_ 223), (1, u "java/lang/StringLatin1$LinesSpliterator"), (166, .class_ 391), (0, u "java/lang/StringLatin1$CharsSpliterator")] 3

def k13m0 : Method := { name := "<init>", desc := "()V", sig := { parameters := [], returnType := none }, accessFlags := 0, code := none }
/-- java/lang/StringLatin1 -/
def k13 : Class := { plain "java/lang/StringLatin1" (some 0) with
  accessFlags := 48
  interfaces := #[]
  cf := some (fileOf pool13 14 #[.nestMembers #[390, 221]] #[{ accessFlags := 0, nameIndex := 7, descriptorIndex := 8, attributes := #[] }] 48 4 #[] #[{ accessFlags := 4120, nameIndex := 121, descriptorIndex := 122, attributes := #[] }])
  fields := #[{ name := "$assertionsDisabled", type := .boolean, accessFlags := 4120, slot := 0, constantValue := 0 }]
  methods := #[k13m0]
  instanceTypes := #[]
  staticTypes := #[.boolean]
  resolved := Array.replicate 395 none
  statics := none }

def pool14 : Array CpInfo := pool [(2, .class_ 4), (1, u "java/lang/Object"), (0, u "<init>"), (0, u "()V"), (17, .class_ 26), (1, u "jdk/internal/util/Preconditions"), (28, .class_ 56), (0, u "jdk/internal/util/Preconditions$4"), (57, .class_ 115), (0, u "jdk/internal/util/Preconditions$1"), (7, u "SIOOBE_FORMATTER"), (0, u "Ljava/util/function/BiFunction;"), (0, .class_ 126), (0, u "jdk/internal/util/Preconditions$2"), (3, u "AIOOBE_FORMATTER"), (0, .class_ 132), (0, u "jdk/internal/util/Preconditions$3"), (3, u "IOOBE_FORMATTER")] 57

def k14m0 : Method := { name := "<init>", desc := "()V", sig := { parameters := [], returnType := none }, accessFlags := 1, code := none }
/-- jdk/internal/util/Preconditions -/
def k14 : Class := { plain "jdk/internal/util/Preconditions" (some 0) with
  accessFlags := 33
  interfaces := #[]
  cf := some (fileOf pool14 24 #[.nestMembers #[55, 131, 125, 114]] #[{ accessFlags := 1, nameIndex := 5, descriptorIndex := 6, attributes := #[] }] 33 2 #[] #[{ accessFlags := 25, nameIndex := 123, descriptorIndex := 124, attributes := #[] }, { accessFlags := 25, nameIndex := 130, descriptorIndex := 124, attributes := #[] }, { accessFlags := 25, nameIndex := 136, descriptorIndex := 124, attributes := #[] }])
  fields := #[{ name := "SIOOBE_FORMATTER", type := (.object "java/util/function/BiFunction"), accessFlags := 25, slot := 0, constantValue := 0 }, { name := "AIOOBE_FORMATTER", type := (.object "java/util/function/BiFunction"), accessFlags := 25, slot := 1, constantValue := 0 }, { name := "IOOBE_FORMATTER", type := (.object "java/util/function/BiFunction"), accessFlags := 25, slot := 2, constantValue := 0 }]
  methods := #[k14m0]
  instanceTypes := #[]
  staticTypes := #[(.object "java/util/function/BiFunction"), (.object "java/util/function/BiFunction"), (.object "java/util/function/BiFunction")]
  resolved := Array.replicate 194 none
  statics := some 2 }

def pool15 : Array CpInfo := pool [(9, u "<init>"), (6, .class_ 18), (1, u "java/lang/Object"), (0, u "()V"), (1, .class_ 23), (1, u "jdk/internal/util/ArraysSupport"), (0, u "LOG2_ARRAY_LONG_INDEX_SCALE"), (0, u "I"), (2, u "U"), (0, u "Ljdk/internal/misc/Unsafe;"), (8, u "BIG_ENDIAN"), (0, u "Z"), (8, u "LOG2_BYTE_BIT_SIZE"), (4, u "LOG2_ARRAY_INT_INDEX_SCALE"), (54, u "JLA"), (0, u "Ljdk/internal/access/JavaLangAccess;"), (11, u "LOG2_ARRAY_BOOLEAN_INDEX_SCALE"), (9, u "LOG2_ARRAY_BYTE_INDEX_SCALE"), (5, u "LOG2_ARRAY_CHAR_INDEX_SCALE"), (5, u "LOG2_ARRAY_SHORT_INDEX_SCALE"), (18, u "LOG2_ARRAY_FLOAT_INDEX_SCALE"), (24, u "LOG2_ARRAY_DOUBLE_INDEX_SCALE"), (89, u "T_BOOLEAN"), (2, u "T_CHAR"), (1, u "T_FLOAT"), (1, u "T_DOUBLE"), (1, u "T_BYTE"), (1, u "T_SHORT"), (1, u "T_INT"), (1, u "T_LONG"), (1, u "SOFT_MAX_ARRAY_LENGTH")] 83

def k15m0 : Method := { name := "<init>", desc := "()V", sig := { parameters := [], returnType := none }, accessFlags := 2, code := none }
/-- jdk/internal/util/ArraysSupport -/
def k15 : Class := { plain "jdk/internal/util/ArraysSupport" (some 0) with
  accessFlags := 33
  interfaces := #[]
  cf := some (fileOf pool15 21 #[] #[{ accessFlags := 2, nameIndex := 9, descriptorIndex := 19, attributes := #[] }] 33 16 #[] #[{ accessFlags := 24, nameIndex := 28, descriptorIndex := 29, attributes := #[] }, { accessFlags := 26, nameIndex := 38, descriptorIndex := 39, attributes := #[] }, { accessFlags := 25, nameIndex := 121, descriptorIndex := 25, attributes := #[] }, { accessFlags := 25, nameIndex := 131, descriptorIndex := 25, attributes := #[] }, { accessFlags := 25, nameIndex := 137, descriptorIndex := 25, attributes := #[] }, { accessFlags := 25, nameIndex := 143, descriptorIndex := 25, attributes := #[] }, { accessFlags := 25, nameIndex := 53, descriptorIndex := 25, attributes := #[] }, { accessFlags := 25, nameIndex := 24, descriptorIndex := 25, attributes := #[] }, { accessFlags := 25, nameIndex := 162, descriptorIndex := 25, attributes := #[] }, { accessFlags := 25, nameIndex := 187, descriptorIndex := 25, attributes := #[] }, { accessFlags := 26, nameIndex := 48, descriptorIndex := 25, attributes := #[] }, { accessFlags := 25, nameIndex := 277, descriptorIndex := 25, attributes := #[] }, { accessFlags := 25, nameIndex := 280, descriptorIndex := 25, attributes := #[] }, { accessFlags := 25, nameIndex := 282, descriptorIndex := 25, attributes := #[] }, { accessFlags := 25, nameIndex := 284, descriptorIndex := 25, attributes := #[] }, { accessFlags := 25, nameIndex := 286, descriptorIndex := 25, attributes := #[] }, { accessFlags := 25, nameIndex := 288, descriptorIndex := 25, attributes := #[] }, { accessFlags := 25, nameIndex := 290, descriptorIndex := 25, attributes := #[] }, { accessFlags := 25, nameIndex := 292, descriptorIndex := 25, attributes := #[] }, { accessFlags := 26, nameIndex := 108, descriptorIndex := 109, attributes := #[] }, { accessFlags := 25, nameIndex := 294, descriptorIndex := 25, attributes := #[] }])
  fields := #[{ name := "U", type := (.object "jdk/internal/misc/Unsafe"), accessFlags := 24, slot := 0, constantValue := 0 }, { name := "BIG_ENDIAN", type := .boolean, accessFlags := 26, slot := 1, constantValue := 0 }, { name := "LOG2_ARRAY_BOOLEAN_INDEX_SCALE", type := .int, accessFlags := 25, slot := 2, constantValue := 0 }, { name := "LOG2_ARRAY_BYTE_INDEX_SCALE", type := .int, accessFlags := 25, slot := 3, constantValue := 0 }, { name := "LOG2_ARRAY_CHAR_INDEX_SCALE", type := .int, accessFlags := 25, slot := 4, constantValue := 0 }, { name := "LOG2_ARRAY_SHORT_INDEX_SCALE", type := .int, accessFlags := 25, slot := 5, constantValue := 0 }, { name := "LOG2_ARRAY_INT_INDEX_SCALE", type := .int, accessFlags := 25, slot := 6, constantValue := 0 }, { name := "LOG2_ARRAY_LONG_INDEX_SCALE", type := .int, accessFlags := 25, slot := 7, constantValue := 0 }, { name := "LOG2_ARRAY_FLOAT_INDEX_SCALE", type := .int, accessFlags := 25, slot := 8, constantValue := 0 }, { name := "LOG2_ARRAY_DOUBLE_INDEX_SCALE", type := .int, accessFlags := 25, slot := 9, constantValue := 0 }, { name := "LOG2_BYTE_BIT_SIZE", type := .int, accessFlags := 26, slot := 10, constantValue := 0 }, { name := "T_BOOLEAN", type := .int, accessFlags := 25, slot := 11, constantValue := 0 }, { name := "T_CHAR", type := .int, accessFlags := 25, slot := 12, constantValue := 0 }, { name := "T_FLOAT", type := .int, accessFlags := 25, slot := 13, constantValue := 0 }, { name := "T_DOUBLE", type := .int, accessFlags := 25, slot := 14, constantValue := 0 }, { name := "T_BYTE", type := .int, accessFlags := 25, slot := 15, constantValue := 0 }, { name := "T_SHORT", type := .int, accessFlags := 25, slot := 16, constantValue := 0 }, { name := "T_INT", type := .int, accessFlags := 25, slot := 17, constantValue := 0 }, { name := "T_LONG", type := .int, accessFlags := 25, slot := 18, constantValue := 0 }, { name := "JLA", type := (.object "jdk/internal/access/JavaLangAccess"), accessFlags := 26, slot := 19, constantValue := 0 }, { name := "SOFT_MAX_ARRAY_LENGTH", type := .int, accessFlags := 25, slot := 20, constantValue := 0 }]
  methods := #[k15m0]
  instanceTypes := #[]
  staticTypes := #[(.object "jdk/internal/misc/Unsafe"), .boolean, .int, .int, .int, .int, .int, .int, .int, .int, .int, .int, .int, .int, .int, .int, .int, .int, .int, (.object "jdk/internal/access/JavaLangAccess"), .int]
  resolved := Array.replicate 378 none
  statics := none }

def pool16 : Array CpInfo := pool [(1, u "java/lang/Cloneable"), (0, .class_ 1), (0, u "java/lang/Object"), (0, .class_ 3)] 3

/-- java/lang/Cloneable -/
def k16 : Class := { plain "java/lang/Cloneable" (some 0) with
  accessFlags := 1537
  interfaces := #[]
  cf := some (fileOf pool16 2 #[] #[] 1537 4 #[] #[])
  fields := #[]
  methods := #[]
  instanceTypes := #[]
  staticTypes := #[]
  resolved := Array.replicate 8 none
  statics := none }

/-- the primitive byte -/
def k17 : Class := { plain "byte" none with kind := .primitive 'B', accessFlags := 0x411 }
/-- [B -/
def k18 : Class := { plain "[B" (some 0) with kind := .array 17 .byte, interfaces := #[16, 3], accessFlags := 1041 }

/-- the primitive char -/
def k19 : Class := { plain "char" none with kind := .primitive 'C', accessFlags := 0x411 }
/-- [C -/
def k20 : Class := { plain "[C" (some 0) with kind := .array 19 .char, interfaces := #[16, 3], accessFlags := 1041 }

/-- the primitive int -/
def k21 : Class := { plain "int" none with kind := .primitive 'I', accessFlags := 0x411 }
/-- [I -/
def k22 : Class := { plain "[I" (some 0) with kind := .array 21 .int, interfaces := #[16, 3], accessFlags := 1041 }

/-- [Ljava/lang/Long; -/
def k23 : Class := { plain "[Ljava/lang/Long;" (some 0) with kind := .array 8 (.object "java/lang/Long"), interfaces := #[16, 3], accessFlags := 1041 }

def heap : Heap := #[{ cls := 9, slots := #[.ref 3, .null, .int 0], vm := .statics 9 },
  { cls := 11, slots := #[.long 0, .int 1, .null, .int 0, .null, .int 0, .int 0], vm := .statics 11 },
  { cls := 14, slots := #[.null, .null, .null], vm := .statics 14 },
  { cls := 23, slots := #[.ref 4, .ref 5, .ref 6, .ref 7, .ref 8, .ref 9, .ref 10, .ref 11, .ref 12, .ref 13, .ref 14, .ref 15, .ref 16, .ref 17, .ref 18, .ref 19, .ref 20, .ref 21, .ref 22, .ref 23, .ref 24, .ref 25, .ref 26, .ref 27, .ref 28, .ref 29, .ref 30, .ref 31, .ref 32, .ref 33, .ref 34, .ref 35, .ref 36, .ref 37, .ref 38, .ref 39, .ref 40, .ref 41, .ref 42, .ref 43, .ref 44, .ref 45, .ref 46, .ref 47, .ref 48, .ref 49, .ref 50, .ref 51, .ref 52, .ref 53, .ref 54, .ref 55, .ref 56, .ref 57, .ref 58, .ref 59, .ref 60, .ref 61, .ref 62, .ref 63, .ref 64, .ref 65, .ref 66, .ref 67, .ref 68, .ref 69, .ref 70, .ref 71, .ref 72, .ref 73, .ref 74, .ref 75, .ref 76, .ref 77, .ref 78, .ref 79, .ref 80, .ref 81, .ref 82, .ref 83, .ref 84, .ref 85, .ref 86, .ref 87, .ref 88, .ref 89, .ref 90, .ref 91, .ref 92, .ref 93, .ref 94, .ref 95, .ref 96, .ref 97, .ref 98, .ref 99, .ref 100, .ref 101, .ref 102, .ref 103, .ref 104, .ref 105, .ref 106, .ref 107, .ref 108, .ref 109, .ref 110, .ref 111, .ref 112, .ref 113, .ref 114, .ref 115, .ref 116, .ref 117, .ref 118, .ref 119, .ref 120, .ref 121, .ref 122, .ref 123, .ref 124, .ref 125, .ref 126, .ref 127, .ref 128, .ref 129, .ref 130, .ref 131, .ref 132, .ref 133, .ref 134, .ref 135, .ref 136, .ref 137, .ref 138, .ref 139, .ref 140, .ref 141, .ref 142, .ref 143, .ref 144, .ref 145, .ref 146, .ref 147, .ref 148, .ref 149, .ref 150, .ref 151, .ref 152, .ref 153, .ref 154, .ref 155, .ref 156, .ref 157, .ref 158, .ref 159, .ref 160, .ref 161, .ref 162, .ref 163, .ref 164, .ref 165, .ref 166, .ref 167, .ref 168, .ref 169, .ref 170, .ref 171, .ref 172, .ref 173, .ref 174, .ref 175, .ref 176, .ref 177, .ref 178, .ref 179, .ref 180, .ref 181, .ref 182, .ref 183, .ref 184, .ref 185, .ref 186, .ref 187, .ref 188, .ref 189, .ref 190, .ref 191, .ref 192, .ref 193, .ref 194, .ref 195, .ref 196, .ref 197, .ref 198, .ref 199, .ref 200, .ref 201, .ref 202, .ref 203, .ref 204, .ref 205, .ref 206, .ref 207, .ref 208, .ref 209, .ref 210, .ref 211, .ref 212, .ref 213, .ref 214, .ref 215, .ref 216, .ref 217, .ref 218, .ref 219, .ref 220, .ref 221, .ref 222, .ref 223, .ref 224, .ref 225, .ref 226, .ref 227, .ref 228, .ref 229, .ref 230, .ref 231, .ref 232, .ref 233, .ref 234, .ref 235, .ref 236, .ref 237, .ref 238, .ref 239, .ref 240, .ref 241, .ref 242, .ref 243, .ref 244, .ref 245, .ref 246, .ref 247, .ref 248, .ref 249, .ref 250, .ref 251, .ref 252, .ref 253, .ref 254, .ref 255, .ref 256, .ref 257, .ref 258, .ref 259], vm := .none },
  { cls := 8, slots := #[.long (-128)], vm := .none },
  { cls := 8, slots := #[.long (-127)], vm := .none },
  { cls := 8, slots := #[.long (-126)], vm := .none },
  { cls := 8, slots := #[.long (-125)], vm := .none },
  { cls := 8, slots := #[.long (-124)], vm := .none },
  { cls := 8, slots := #[.long (-123)], vm := .none },
  { cls := 8, slots := #[.long (-122)], vm := .none },
  { cls := 8, slots := #[.long (-121)], vm := .none },
  { cls := 8, slots := #[.long (-120)], vm := .none },
  { cls := 8, slots := #[.long (-119)], vm := .none },
  { cls := 8, slots := #[.long (-118)], vm := .none },
  { cls := 8, slots := #[.long (-117)], vm := .none },
  { cls := 8, slots := #[.long (-116)], vm := .none },
  { cls := 8, slots := #[.long (-115)], vm := .none },
  { cls := 8, slots := #[.long (-114)], vm := .none },
  { cls := 8, slots := #[.long (-113)], vm := .none },
  { cls := 8, slots := #[.long (-112)], vm := .none },
  { cls := 8, slots := #[.long (-111)], vm := .none },
  { cls := 8, slots := #[.long (-110)], vm := .none },
  { cls := 8, slots := #[.long (-109)], vm := .none },
  { cls := 8, slots := #[.long (-108)], vm := .none },
  { cls := 8, slots := #[.long (-107)], vm := .none },
  { cls := 8, slots := #[.long (-106)], vm := .none },
  { cls := 8, slots := #[.long (-105)], vm := .none },
  { cls := 8, slots := #[.long (-104)], vm := .none },
  { cls := 8, slots := #[.long (-103)], vm := .none },
  { cls := 8, slots := #[.long (-102)], vm := .none },
  { cls := 8, slots := #[.long (-101)], vm := .none },
  { cls := 8, slots := #[.long (-100)], vm := .none },
  { cls := 8, slots := #[.long (-99)], vm := .none },
  { cls := 8, slots := #[.long (-98)], vm := .none },
  { cls := 8, slots := #[.long (-97)], vm := .none },
  { cls := 8, slots := #[.long (-96)], vm := .none },
  { cls := 8, slots := #[.long (-95)], vm := .none },
  { cls := 8, slots := #[.long (-94)], vm := .none },
  { cls := 8, slots := #[.long (-93)], vm := .none },
  { cls := 8, slots := #[.long (-92)], vm := .none },
  { cls := 8, slots := #[.long (-91)], vm := .none },
  { cls := 8, slots := #[.long (-90)], vm := .none },
  { cls := 8, slots := #[.long (-89)], vm := .none },
  { cls := 8, slots := #[.long (-88)], vm := .none },
  { cls := 8, slots := #[.long (-87)], vm := .none },
  { cls := 8, slots := #[.long (-86)], vm := .none },
  { cls := 8, slots := #[.long (-85)], vm := .none },
  { cls := 8, slots := #[.long (-84)], vm := .none },
  { cls := 8, slots := #[.long (-83)], vm := .none },
  { cls := 8, slots := #[.long (-82)], vm := .none },
  { cls := 8, slots := #[.long (-81)], vm := .none },
  { cls := 8, slots := #[.long (-80)], vm := .none },
  { cls := 8, slots := #[.long (-79)], vm := .none },
  { cls := 8, slots := #[.long (-78)], vm := .none },
  { cls := 8, slots := #[.long (-77)], vm := .none },
  { cls := 8, slots := #[.long (-76)], vm := .none },
  { cls := 8, slots := #[.long (-75)], vm := .none },
  { cls := 8, slots := #[.long (-74)], vm := .none },
  { cls := 8, slots := #[.long (-73)], vm := .none },
  { cls := 8, slots := #[.long (-72)], vm := .none },
  { cls := 8, slots := #[.long (-71)], vm := .none },
  { cls := 8, slots := #[.long (-70)], vm := .none },
  { cls := 8, slots := #[.long (-69)], vm := .none },
  { cls := 8, slots := #[.long (-68)], vm := .none },
  { cls := 8, slots := #[.long (-67)], vm := .none },
  { cls := 8, slots := #[.long (-66)], vm := .none },
  { cls := 8, slots := #[.long (-65)], vm := .none },
  { cls := 8, slots := #[.long (-64)], vm := .none },
  { cls := 8, slots := #[.long (-63)], vm := .none },
  { cls := 8, slots := #[.long (-62)], vm := .none },
  { cls := 8, slots := #[.long (-61)], vm := .none },
  { cls := 8, slots := #[.long (-60)], vm := .none },
  { cls := 8, slots := #[.long (-59)], vm := .none },
  { cls := 8, slots := #[.long (-58)], vm := .none },
  { cls := 8, slots := #[.long (-57)], vm := .none },
  { cls := 8, slots := #[.long (-56)], vm := .none },
  { cls := 8, slots := #[.long (-55)], vm := .none },
  { cls := 8, slots := #[.long (-54)], vm := .none },
  { cls := 8, slots := #[.long (-53)], vm := .none },
  { cls := 8, slots := #[.long (-52)], vm := .none },
  { cls := 8, slots := #[.long (-51)], vm := .none },
  { cls := 8, slots := #[.long (-50)], vm := .none },
  { cls := 8, slots := #[.long (-49)], vm := .none },
  { cls := 8, slots := #[.long (-48)], vm := .none },
  { cls := 8, slots := #[.long (-47)], vm := .none },
  { cls := 8, slots := #[.long (-46)], vm := .none },
  { cls := 8, slots := #[.long (-45)], vm := .none },
  { cls := 8, slots := #[.long (-44)], vm := .none },
  { cls := 8, slots := #[.long (-43)], vm := .none },
  { cls := 8, slots := #[.long (-42)], vm := .none },
  { cls := 8, slots := #[.long (-41)], vm := .none },
  { cls := 8, slots := #[.long (-40)], vm := .none },
  { cls := 8, slots := #[.long (-39)], vm := .none },
  { cls := 8, slots := #[.long (-38)], vm := .none },
  { cls := 8, slots := #[.long (-37)], vm := .none },
  { cls := 8, slots := #[.long (-36)], vm := .none },
  { cls := 8, slots := #[.long (-35)], vm := .none },
  { cls := 8, slots := #[.long (-34)], vm := .none },
  { cls := 8, slots := #[.long (-33)], vm := .none },
  { cls := 8, slots := #[.long (-32)], vm := .none },
  { cls := 8, slots := #[.long (-31)], vm := .none },
  { cls := 8, slots := #[.long (-30)], vm := .none },
  { cls := 8, slots := #[.long (-29)], vm := .none },
  { cls := 8, slots := #[.long (-28)], vm := .none },
  { cls := 8, slots := #[.long (-27)], vm := .none },
  { cls := 8, slots := #[.long (-26)], vm := .none },
  { cls := 8, slots := #[.long (-25)], vm := .none },
  { cls := 8, slots := #[.long (-24)], vm := .none },
  { cls := 8, slots := #[.long (-23)], vm := .none },
  { cls := 8, slots := #[.long (-22)], vm := .none },
  { cls := 8, slots := #[.long (-21)], vm := .none },
  { cls := 8, slots := #[.long (-20)], vm := .none },
  { cls := 8, slots := #[.long (-19)], vm := .none },
  { cls := 8, slots := #[.long (-18)], vm := .none },
  { cls := 8, slots := #[.long (-17)], vm := .none },
  { cls := 8, slots := #[.long (-16)], vm := .none },
  { cls := 8, slots := #[.long (-15)], vm := .none },
  { cls := 8, slots := #[.long (-14)], vm := .none },
  { cls := 8, slots := #[.long (-13)], vm := .none },
  { cls := 8, slots := #[.long (-12)], vm := .none },
  { cls := 8, slots := #[.long (-11)], vm := .none },
  { cls := 8, slots := #[.long (-10)], vm := .none },
  { cls := 8, slots := #[.long (-9)], vm := .none },
  { cls := 8, slots := #[.long (-8)], vm := .none },
  { cls := 8, slots := #[.long (-7)], vm := .none },
  { cls := 8, slots := #[.long (-6)], vm := .none },
  { cls := 8, slots := #[.long (-5)], vm := .none },
  { cls := 8, slots := #[.long (-4)], vm := .none },
  { cls := 8, slots := #[.long (-3)], vm := .none },
  { cls := 8, slots := #[.long (-2)], vm := .none },
  { cls := 8, slots := #[.long (-1)], vm := .none },
  { cls := 8, slots := #[.long 0], vm := .none },
  { cls := 8, slots := #[.long 1], vm := .none },
  { cls := 8, slots := #[.long 2], vm := .none },
  { cls := 8, slots := #[.long 3], vm := .none },
  { cls := 8, slots := #[.long 4], vm := .none },
  { cls := 8, slots := #[.long 5], vm := .none },
  { cls := 8, slots := #[.long 6], vm := .none },
  { cls := 8, slots := #[.long 7], vm := .none },
  { cls := 8, slots := #[.long 8], vm := .none },
  { cls := 8, slots := #[.long 9], vm := .none },
  { cls := 8, slots := #[.long 10], vm := .none },
  { cls := 8, slots := #[.long 11], vm := .none },
  { cls := 8, slots := #[.long 12], vm := .none },
  { cls := 8, slots := #[.long 13], vm := .none },
  { cls := 8, slots := #[.long 14], vm := .none },
  { cls := 8, slots := #[.long 15], vm := .none },
  { cls := 8, slots := #[.long 16], vm := .none },
  { cls := 8, slots := #[.long 17], vm := .none },
  { cls := 8, slots := #[.long 18], vm := .none },
  { cls := 8, slots := #[.long 19], vm := .none },
  { cls := 8, slots := #[.long 20], vm := .none },
  { cls := 8, slots := #[.long 21], vm := .none },
  { cls := 8, slots := #[.long 22], vm := .none },
  { cls := 8, slots := #[.long 23], vm := .none },
  { cls := 8, slots := #[.long 24], vm := .none },
  { cls := 8, slots := #[.long 25], vm := .none },
  { cls := 8, slots := #[.long 26], vm := .none },
  { cls := 8, slots := #[.long 27], vm := .none },
  { cls := 8, slots := #[.long 28], vm := .none },
  { cls := 8, slots := #[.long 29], vm := .none },
  { cls := 8, slots := #[.long 30], vm := .none },
  { cls := 8, slots := #[.long 31], vm := .none },
  { cls := 8, slots := #[.long 32], vm := .none },
  { cls := 8, slots := #[.long 33], vm := .none },
  { cls := 8, slots := #[.long 34], vm := .none },
  { cls := 8, slots := #[.long 35], vm := .none },
  { cls := 8, slots := #[.long 36], vm := .none },
  { cls := 8, slots := #[.long 37], vm := .none },
  { cls := 8, slots := #[.long 38], vm := .none },
  { cls := 8, slots := #[.long 39], vm := .none },
  { cls := 8, slots := #[.long 40], vm := .none },
  { cls := 8, slots := #[.long 41], vm := .none },
  { cls := 8, slots := #[.long 42], vm := .none },
  { cls := 8, slots := #[.long 43], vm := .none },
  { cls := 8, slots := #[.long 44], vm := .none },
  { cls := 8, slots := #[.long 45], vm := .none },
  { cls := 8, slots := #[.long 46], vm := .none },
  { cls := 8, slots := #[.long 47], vm := .none },
  { cls := 8, slots := #[.long 48], vm := .none },
  { cls := 8, slots := #[.long 49], vm := .none },
  { cls := 8, slots := #[.long 50], vm := .none },
  { cls := 8, slots := #[.long 51], vm := .none },
  { cls := 8, slots := #[.long 52], vm := .none },
  { cls := 8, slots := #[.long 53], vm := .none },
  { cls := 8, slots := #[.long 54], vm := .none },
  { cls := 8, slots := #[.long 55], vm := .none },
  { cls := 8, slots := #[.long 56], vm := .none },
  { cls := 8, slots := #[.long 57], vm := .none },
  { cls := 8, slots := #[.long 58], vm := .none },
  { cls := 8, slots := #[.long 59], vm := .none },
  { cls := 8, slots := #[.long 60], vm := .none },
  { cls := 8, slots := #[.long 61], vm := .none },
  { cls := 8, slots := #[.long 62], vm := .none },
  { cls := 8, slots := #[.long 63], vm := .none },
  { cls := 8, slots := #[.long 64], vm := .none },
  { cls := 8, slots := #[.long 65], vm := .none },
  { cls := 8, slots := #[.long 66], vm := .none },
  { cls := 8, slots := #[.long 67], vm := .none },
  { cls := 8, slots := #[.long 68], vm := .none },
  { cls := 8, slots := #[.long 69], vm := .none },
  { cls := 8, slots := #[.long 70], vm := .none },
  { cls := 8, slots := #[.long 71], vm := .none },
  { cls := 8, slots := #[.long 72], vm := .none },
  { cls := 8, slots := #[.long 73], vm := .none },
  { cls := 8, slots := #[.long 74], vm := .none },
  { cls := 8, slots := #[.long 75], vm := .none },
  { cls := 8, slots := #[.long 76], vm := .none },
  { cls := 8, slots := #[.long 77], vm := .none },
  { cls := 8, slots := #[.long 78], vm := .none },
  { cls := 8, slots := #[.long 79], vm := .none },
  { cls := 8, slots := #[.long 80], vm := .none },
  { cls := 8, slots := #[.long 81], vm := .none },
  { cls := 8, slots := #[.long 82], vm := .none },
  { cls := 8, slots := #[.long 83], vm := .none },
  { cls := 8, slots := #[.long 84], vm := .none },
  { cls := 8, slots := #[.long 85], vm := .none },
  { cls := 8, slots := #[.long 86], vm := .none },
  { cls := 8, slots := #[.long 87], vm := .none },
  { cls := 8, slots := #[.long 88], vm := .none },
  { cls := 8, slots := #[.long 89], vm := .none },
  { cls := 8, slots := #[.long 90], vm := .none },
  { cls := 8, slots := #[.long 91], vm := .none },
  { cls := 8, slots := #[.long 92], vm := .none },
  { cls := 8, slots := #[.long 93], vm := .none },
  { cls := 8, slots := #[.long 94], vm := .none },
  { cls := 8, slots := #[.long 95], vm := .none },
  { cls := 8, slots := #[.long 96], vm := .none },
  { cls := 8, slots := #[.long 97], vm := .none },
  { cls := 8, slots := #[.long 98], vm := .none },
  { cls := 8, slots := #[.long 99], vm := .none },
  { cls := 8, slots := #[.long 100], vm := .none },
  { cls := 8, slots := #[.long 101], vm := .none },
  { cls := 8, slots := #[.long 102], vm := .none },
  { cls := 8, slots := #[.long 103], vm := .none },
  { cls := 8, slots := #[.long 104], vm := .none },
  { cls := 8, slots := #[.long 105], vm := .none },
  { cls := 8, slots := #[.long 106], vm := .none },
  { cls := 8, slots := #[.long 107], vm := .none },
  { cls := 8, slots := #[.long 108], vm := .none },
  { cls := 8, slots := #[.long 109], vm := .none },
  { cls := 8, slots := #[.long 110], vm := .none },
  { cls := 8, slots := #[.long 111], vm := .none },
  { cls := 8, slots := #[.long 112], vm := .none },
  { cls := 8, slots := #[.long 113], vm := .none },
  { cls := 8, slots := #[.long 114], vm := .none },
  { cls := 8, slots := #[.long 115], vm := .none },
  { cls := 8, slots := #[.long 116], vm := .none },
  { cls := 8, slots := #[.long 117], vm := .none },
  { cls := 8, slots := #[.long 118], vm := .none },
  { cls := 8, slots := #[.long 119], vm := .none },
  { cls := 8, slots := #[.long 120], vm := .none },
  { cls := 8, slots := #[.long 121], vm := .none },
  { cls := 8, slots := #[.long 122], vm := .none },
  { cls := 8, slots := #[.long 123], vm := .none },
  { cls := 8, slots := #[.long 124], vm := .none },
  { cls := 8, slots := #[.long 125], vm := .none },
  { cls := 8, slots := #[.long 126], vm := .none },
  { cls := 8, slots := #[.long 127], vm := .none }]
def classes : Array Class := #[k0, k1, k2, k3, k4, k5, k6, k7, k8, k9, k10, k11, k12, k13, k14, k15, k16, k17, k18, k19, k20, k21, k22, k23]
def interned : List (Array UInt16 × Addr) := []
def slotsUsed : Nat := 525
def theMethod : MethodId := ⟨1, 1⟩
def args0 : Array Value := #[.long 5, .long 7, .int 3]
def aboutOver (below : List Frame) : State where
  vm := { classes := classes, interned := interned.toArray }
  heap := heap
  slotsUsed := slotsUsed
  threads := #[{ frames := .invoking theMethod args0 :: below }]
def below0 : List Frame := [.native { method := ⟨0, 0⟩, args := #[] }]
def about1 : State := aboutOver below0
def p0 : Program := .bare "" "" ""
def e0 : Env := launch0.env 0 0 0
theorem w_frames : about1.frames = Frame.invoking theMethod args0 :: below0 := rfl
set_option maxRecDepth 65536 in
theorem w_args : argsFit about1.vm theMethod args0 = true := by decide +kernel
set_option maxRecDepth 65536 in
theorem w_heap : heapFits about1 = true := by decide +kernel
set_option maxRecDepth 65536 in
theorem w_runnable : about1.curStatus? = some .runnable := by decide +kernel
set_option maxRecDepth 65536 in
theorem w_alone : about1.alone = true := by decide +kernel
set_option maxRecDepth 65536 in
theorem w_named : about1.methodNamed? x = some theMethod := by decide +kernel
set_option maxRecDepth 65536 in
theorem w_hears : about1.hears theMethod below0 = true := by decide +kernel
set_option maxRecDepth 65536 in
theorem w_ripe : about1.ripe theMethod args0 below0 = true := by decide +kernel
theorem w_running : about1.status = .running := rfl
set_option maxRecDepth 65536 in
theorem w_room : about1.hasRoom e0.platform room_1 = true :=
  launch0.hasRoom_least _ room_1 (by decide +kernel) (by decide +kernel) (by decide +kernel) (by decide +kernel) (by decide +kernel) (by decide +kernel)
theorem allAtoms_all (ts : List Jvm.Cond) (a : Array Jvm.Value) (st : Jvm.State) : (allAtoms ts).before a st = ts.all (fun c => c.before a st) := by
  induction ts with
  | nil => rfl
  | cons c t ih =>
    show (Jvm.Cond.and c (allAtoms t)).before a st = _
    rw [Jvm.Cond.before_and, ih, List.all_cons]
def words1 : List Jvm.Cond := Jvm.Cond.code x code maxLocals ret :: tables_1
/-- a 'code' word, met by the world's own term for the bytes: nothing is compared byte by byte -/
theorem code_word {y : MethodName} {bytes : ByteArray} {mx : Nat} {rt : Option FieldType} {a : Array Value} {s : State} {m : MethodId} {meth : Method} {c : Code} (h1 : s.methodNamed? y = some m) (h2 : s.vm.method? m = some meth) (h3 : meth.code = some c) (h4 : c.code = bytes)
    (h5 : (c.maxLocals == mx && c.exceptionTable.isEmpty && decide (c.maxStack ≤ mostOperands) && decide (meth.sig.returnType = rt) && !meth.locks && decide (parseMethodDescriptor y.desc = some meth.sig)) = true) : (Jvm.Cond.code y bytes mx rt).before a s = true := by
  simp only [Bool.and_eq_true, beq_iff_eq, Bool.not_eq_true', decide_eq_true_eq] at h5
  obtain ⟨⟨⟨⟨⟨g1, g2⟩, g3⟩, g4⟩, g5⟩, g6⟩ := h5
  simp [Cond.before, Cond.holds, Cond.value, h1, h2, h3, h4, g1, g2, g3, g4, g5, g6]
def isCode : Jvm.Cond → Bool
  | .code _ _ _ _ => true
  | _ => false
theorem all_split {L : List Jvm.Cond} {P : Jvm.Cond → Bool} (h1 : L.all (fun c => isCode c || P c) = true) (h2 : ∀ c ∈ L.filter isCode, P c = true) : L.all P = true := by
  refine List.all_eq_true.mpr fun c hc => ?_
  have h := List.all_eq_true.mp h1 c hc
  rcases Bool.eq_false_or_eq_true (isCode c) with hi | hi
  · exact h2 c (List.mem_filter.mpr ⟨hc, hi⟩)
  · simpa [hi] using h
set_option maxRecDepth 65536 in
theorem w_c0 : (Jvm.Cond.code x code maxLocals ret).before args0 about1 = true := code_word (m := ⟨1, 1⟩) (meth := k1m1) (c := k1c1) (by decide +kernel) rfl rfl rfl (by decide +kernel)
set_option maxRecDepth 65536 in
theorem w_c1 : (Jvm.Cond.code ({ cls := "com/example/archipelago/archipelago/model/TenantRegistration", name := "<init>", desc := "(Ljava/lang/Long;ZLjava/lang/String;)V" } : Jvm.MethodName) prog_27_method_1_code (4 : Nat) (Option.none : Option Jvm.ClassFile.FieldType)).before args0 about1 = true := code_word (m := ⟨2, 0⟩) (meth := k2m0) (c := k2c0) (by decide +kernel) rfl rfl rfl (by decide +kernel)
set_option maxRecDepth 65536 in
theorem w_c2 : (Jvm.Cond.code ({ cls := "java/lang/Object", name := "<init>", desc := "()V" } : Jvm.MethodName) object_method_1_code (1 : Nat) (Option.none : Option Jvm.ClassFile.FieldType)).before args0 about1 = true := code_word (m := ⟨0, 0⟩) (meth := k0m0) (c := k0c0) (by decide +kernel) rfl rfl rfl (by decide +kernel)
set_option maxRecDepth 65536 in
theorem w_c3 : (Jvm.Cond.code ({ cls := "com/example/archipelago/archipelago/model/TenantRegistration", name := "isDatabase", desc := "(J)Z" } : Jvm.MethodName) prog_27_method_4_code (3 : Nat) (Option.some Jvm.ClassFile.FieldType.boolean)).before args0 about1 = true := code_word (m := ⟨2, 1⟩) (meth := k2m1) (c := k2c1) (by decide +kernel) rfl rfl rfl (by decide +kernel)
set_option maxRecDepth 65536 in
theorem w_c4 : (Jvm.Cond.code ({ cls := "java/lang/Long", name := "valueOf", desc := "(J)Ljava/lang/Long;" } : Jvm.MethodName) jdk_35_method_24_code (3 : Nat) (Option.some (Jvm.ClassFile.FieldType.object "java/lang/Long"))).before args0 about1 = true := code_word (m := ⟨8, 0⟩) (meth := k8m0) (c := k8c0) (by decide +kernel) rfl rfl rfl (by decide +kernel)
set_option maxRecDepth 65536 in
theorem w_c5 : (Jvm.Cond.code ({ cls := "java/lang/Long", name := "longValue", desc := "()J" } : Jvm.MethodName) jdk_35_method_31_code (1 : Nat) (Option.some Jvm.ClassFile.FieldType.long)).before args0 about1 = true := code_word (m := ⟨8, 2⟩) (meth := k8m2) (c := k8c2) (by decide +kernel) rfl rfl rfl (by decide +kernel)
set_option maxRecDepth 65536 in
theorem w_c6 : (Jvm.Cond.code ({ cls := "java/lang/String", name := "<init>", desc := "([C)V" } : Jvm.MethodName) jdk_42_method_3_code (2 : Nat) (Option.none : Option Jvm.ClassFile.FieldType)).before args0 about1 = true := code_word (m := ⟨11, 1⟩) (meth := k11m1) (c := k11c1) (by decide +kernel) rfl rfl rfl (by decide +kernel)
set_option maxRecDepth 65536 in
theorem w_c7 : (Jvm.Cond.code ({ cls := "java/lang/String", name := "<init>", desc := "([CIILjava/lang/Void;)V" } : Jvm.MethodName) jdk_42_method_149_code (6 : Nat) (Option.none : Option Jvm.ClassFile.FieldType)).before args0 about1 = true := code_word (m := ⟨11, 2⟩) (meth := k11m2) (c := k11c2) (by decide +kernel) rfl rfl rfl (by decide +kernel)
set_option maxRecDepth 65536 in
theorem w_c8 : (Jvm.Cond.code ({ cls := "java/lang/StringUTF16", name := "compress", desc := "([CII)[B" } : Jvm.MethodName) jdk_52_method_16_code (6 : Nat) (Option.some (Jvm.ClassFile.FieldType.array Jvm.ClassFile.FieldType.byte))).before args0 about1 = true := code_word (m := ⟨12, 2⟩) (meth := k12m2) (c := k12c2) (by decide +kernel) rfl rfl rfl (by decide +kernel)
set_option maxRecDepth 65536 in
theorem w_c9 : (Jvm.Cond.code ({ cls := "java/lang/StringUTF16", name := "compress", desc := "([CI[BII)I" } : Jvm.MethodName) jdk_52_method_21_code (7 : Nat) (Option.some Jvm.ClassFile.FieldType.int)).before args0 about1 = true := code_word (m := ⟨12, 3⟩) (meth := k12m3) (c := k12c3) (by decide +kernel) rfl rfl rfl (by decide +kernel)
set_option maxRecDepth 65536 in
theorem w_c10 : (Jvm.Cond.code ({ cls := "java/lang/StringUTF16", name := "coderFromArrayLen", desc := "([BI)B" } : Jvm.MethodName) jdk_52_method_15_code (2 : Nat) (Option.some Jvm.ClassFile.FieldType.byte)).before args0 about1 = true := code_word (m := ⟨12, 1⟩) (meth := k12m1) (c := k12c1) (by decide +kernel) rfl rfl rfl (by decide +kernel)
set_option maxRecDepth 65536 in
theorem w_c11 : (Jvm.Cond.code ({ cls := "java/lang/Long", name := "<init>", desc := "(J)V" } : Jvm.MethodName) jdk_35_method_26_code (3 : Nat) (Option.none : Option Jvm.ClassFile.FieldType)).before args0 about1 = true := code_word (m := ⟨8, 1⟩) (meth := k8m1) (c := k8c1) (by decide +kernel) rfl rfl rfl (by decide +kernel)
set_option maxRecDepth 65536 in
theorem w_c12 : (Jvm.Cond.code ({ cls := "java/lang/Number", name := "<init>", desc := "()V" } : Jvm.MethodName) jdk_18_method_1_code (1 : Nat) (Option.none : Option Jvm.ClassFile.FieldType)).before args0 about1 = true := code_word (m := ⟨4, 0⟩) (meth := k4m0) (c := k4c0) (by decide +kernel) rfl rfl rfl (by decide +kernel)
def codes1 : List Jvm.Cond := [Jvm.Cond.code x code maxLocals ret, Jvm.Cond.code ({ cls := "com/example/archipelago/archipelago/model/TenantRegistration", name := "<init>", desc := "(Ljava/lang/Long;ZLjava/lang/String;)V" } : Jvm.MethodName) prog_27_method_1_code (4 : Nat) (Option.none : Option Jvm.ClassFile.FieldType), Jvm.Cond.code ({ cls := "java/lang/Object", name := "<init>", desc := "()V" } : Jvm.MethodName) object_method_1_code (1 : Nat) (Option.none : Option Jvm.ClassFile.FieldType), Jvm.Cond.code ({ cls := "com/example/archipelago/archipelago/model/TenantRegistration", name := "isDatabase", desc := "(J)Z" } : Jvm.MethodName) prog_27_method_4_code (3 : Nat) (Option.some Jvm.ClassFile.FieldType.boolean), Jvm.Cond.code ({ cls := "java/lang/Long", name := "valueOf", desc := "(J)Ljava/lang/Long;" } : Jvm.MethodName) jdk_35_method_24_code (3 : Nat) (Option.some (Jvm.ClassFile.FieldType.object "java/lang/Long")), Jvm.Cond.code ({ cls := "java/lang/Long", name := "longValue", desc := "()J" } : Jvm.MethodName) jdk_35_method_31_code (1 : Nat) (Option.some Jvm.ClassFile.FieldType.long), Jvm.Cond.code ({ cls := "java/lang/String", name := "<init>", desc := "([C)V" } : Jvm.MethodName) jdk_42_method_3_code (2 : Nat) (Option.none : Option Jvm.ClassFile.FieldType), Jvm.Cond.code ({ cls := "java/lang/String", name := "<init>", desc := "([CIILjava/lang/Void;)V" } : Jvm.MethodName) jdk_42_method_149_code (6 : Nat) (Option.none : Option Jvm.ClassFile.FieldType), Jvm.Cond.code ({ cls := "java/lang/StringUTF16", name := "compress", desc := "([CII)[B" } : Jvm.MethodName) jdk_52_method_16_code (6 : Nat) (Option.some (Jvm.ClassFile.FieldType.array Jvm.ClassFile.FieldType.byte)), Jvm.Cond.code ({ cls := "java/lang/StringUTF16", name := "compress", desc := "([CI[BII)I" } : Jvm.MethodName) jdk_52_method_21_code (7 : Nat) (Option.some Jvm.ClassFile.FieldType.int), Jvm.Cond.code ({ cls := "java/lang/StringUTF16", name := "coderFromArrayLen", desc := "([BI)B" } : Jvm.MethodName) jdk_52_method_15_code (2 : Nat) (Option.some Jvm.ClassFile.FieldType.byte), Jvm.Cond.code ({ cls := "java/lang/Long", name := "<init>", desc := "(J)V" } : Jvm.MethodName) jdk_35_method_26_code (3 : Nat) (Option.none : Option Jvm.ClassFile.FieldType), Jvm.Cond.code ({ cls := "java/lang/Number", name := "<init>", desc := "()V" } : Jvm.MethodName) jdk_18_method_1_code (1 : Nat) (Option.none : Option Jvm.ClassFile.FieldType)]
set_option maxRecDepth 65536 in
theorem codes_eq : words1.filter isCode = codes1 := rfl
theorem w_codes : ∀ c ∈ words1.filter isCode, c.before args0 about1 = true := by
  rw [codes_eq]
  intro c hc
  simp only [codes1, List.mem_cons, List.not_mem_nil, or_false] at hc
  rcases hc with rfl | rfl | rfl | rfl | rfl | rfl | rfl | rfl | rfl | rfl | rfl | rfl | rfl
  · exact w_c0
  · exact w_c1
  · exact w_c2
  · exact w_c3
  · exact w_c4
  · exact w_c5
  · exact w_c6
  · exact w_c7
  · exact w_c8
  · exact w_c9
  · exact w_c10
  · exact w_c11
  · exact w_c12
set_option maxRecDepth 65536 in
theorem w_t1 : (words1.take 24).all (fun c => isCode c || c.before args0 about1) = true := by decide +kernel
set_option maxRecDepth 65536 in
theorem w_t2 : ((words1.drop 24).take 24).all (fun c => isCode c || c.before args0 about1) = true := by decide +kernel
set_option maxRecDepth 65536 in
theorem w_t3 : (((words1.drop 24).drop 24).take 24).all (fun c => isCode c || c.before args0 about1) = true := by decide +kernel
set_option maxRecDepth 65536 in
theorem w_t4 : (((words1.drop 24).drop 24).drop 24).all (fun c => isCode c || c.before args0 about1) = true := by decide +kernel
theorem w_tables : (allAtoms (Jvm.Cond.code x code maxLocals ret :: tables_1)).before args0 about1 = true := by
  rw [allAtoms_all]
  show words1.all (fun c => c.before args0 about1) = true
  refine all_split ?_ w_codes
  rw [← List.take_append_drop 24 words1, List.all_append, w_t1, ← List.take_append_drop 24 (words1.drop 24), List.all_append, w_t2, ← List.take_append_drop 24 ((words1.drop 24).drop 24), List.all_append, w_t3, w_t4]
  rfl
set_option maxRecDepth 65536 in
theorem w_rest : rest_1_c.before args0 about1 = true := by decide +kernel
set_option maxRecDepth 65536 in
theorem w_case : (Jvm.Cond.and given_1 narrow_1).before args0 about1 = true := by decide +kernel
theorem w_applies : (headSpec (Jvm.Cond.code x code maxLocals ret :: tables_1) room_1).applies x e0.platform about1 = true :=
  (Spec.applies_iff w_frames).mpr ⟨w_running, w_runnable, w_alone, w_named, w_hears, w_ripe, w_room, w_tables⟩
theorem atStart : AtStart classFile x code maxLocals ret World_1 tables_1 room_1 Calls_1 rest_1 Pre_1 launch0 p0 e0 about1 theMethod args0 below0 :=
  ⟨lists_1, trivial, launch0.admits_env _ _ _, launch0.least_env, fairChoices_fair.cas, fairChoices_fair.clock, w_frames, w_args, w_heap, w_applies, trivial, w_rest, w_case⟩
end start1
theorem witness_1 : WitnessClaimed_1 := ⟨start1.p0, start1.e0, start1.about1, start1.theMethod, start1.args0, start1.below0, start1.atStart⟩
end Jvm.Pilot.@@N@@
